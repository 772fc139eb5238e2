import JvmDerived
import JvmDerived.Pilot.@@N@@Statement
import JvmDerived.Pilot.@@N@@Code
set_option linter.unusedVariables false
set_option linter.unusedSimpArgs false
namespace Jvm.Pilot.@@N@@
open Jvm Jvm.ClassFile Sem Op Lib Jvm.Free Jvm.Stand Jvm.LawKit Jvm.RoadKit Bundle Jvm.Pilot.@@N@@.Jvm.D
/-! own kit: the walk in program order: own_G says that from this frame on the run ends as promised -/
def own_G (tb : Tables) (e : Env) (below : List Frame) (P : Outcome → State → Prop) (T : State) (f : JFrame) : Prop :=
  ∃ s₂ o, Steps tb e below (T.setTop f) s₂ ∧ s₂.status = .running ∧ Ended s₂ below o ∧ P o s₂
def own_P (s : State) (Q : Option Value → Heap → List Loc → Prop) (C S : Nat) (o : Outcome) (U : State) : Prop :=
  ∃ v L, o = .returned v ∧ Q v U.heap L ∧ FrameEnd s o U L C S
theorem own_go {tb : Tables} {e : Env} {below : List Frame} {P : Outcome → State → Prop} {T T' : State} {f f' : JFrame} (st : ∀ target, Steps tb e below (T'.setTop f') target → Steps tb e below (T.setTop f) target) (k : own_G tb e below P T' f') : own_G tb e below P T f := by
  obtain ⟨s₂, o, h1, h2⟩ := k
  exact ⟨s₂, o, st _ h1, h2⟩
section OwnKit
variable {p : Program} {l : Launch} {e : Env} {R : Room} {s : State} {m : MethodId} {args : Array Value} {below : List Frame} {meth : Method} {c : Code} {T : State} {locs : List Loc} {cells slots : Nat} {Z : State} {a0 : Array Value} {h : Heap} {P : Outcome → State → Prop}
theorem own_body {y : MethodName} {bytes : ByteArray} {maxL : Nat} {ret : Option FieldType} {ws : List Jvm.Cond} {rm : Room} {as' : Array Value} {Q : Option Value → Heap → List Loc → Prop} {C S : Nat} (pn : plainFor y = true)
    (body : ∀ p e s m below meth c s₁, p.tables.exec = Jvm.exec → c.code = bytes → c.maxLocals = maxL → s.vm.findClass y.cls = some m.cls → meth.name = y.name → meth.locks = false → meth.sig.returnType = ret → Z.Warmed39 s.vm → Stand p l e rm s m as' below meth c s₁ [] 0 0 → s₁.heap = h →
      own_G p.tables e below (own_P s Q C S) s₁ (entryFrame m as' maxL)) :
    MetFree l y (head1 (Jvm.Cond.code y bytes maxL ret :: ws) rm) (fun a U => a = as' ∧ Z.Warmed39 U.vm ∧ U.heap = h) (fun _ _ _ _ _ => True) (fun _ U o U' => ∃ v L, o = .returned v ∧ Q v U'.heap L ∧ FrameEnd U o U' L C S) := by
  refine MetFree.of_bodySF (maxLocals := maxL) (ret := ret) (code := bytes) pn hisR ?_
  intro p e s m args below meth c s₁ Bd hml0 hP hK
  obtain ⟨rfl, hZ, hh⟩ := hP
  exact body p e s m below meth c s₁ Bd.exec Bd.bytes hml0 (findClass_of_methodNamed Bd.named) (name_of_methodNamed Bd.named Bd.method).1 (BodyLoose.notSynchronized Bd) Bd.returns hZ (Stand.of_body Bd) (by rw [← hh, Bd.state]; rfl)
theorem own_ret {v : Option Value} {f : JFrame} {Q : Option Value → Heap → List Loc → Prop} {C S : Nat} (X : Stand p l e R s m args below meth c T locs cells slots) (hlk : meth.locks = false) (hv : meth.sig.returnType = none → v = none)
    (st : ∀ fs, (∀ (f : JFrame) (acts : List Action), f.method = m → f.locked = none → f.entered = [] → (doReturn e (T.setTop f) acts v).1 = T.setFrames fs) → Steps p.tables e below (T.setTop f) (T.setFrames fs)) (hC : cells ≤ C) (hS : slots ≤ S) (hq : Q v T.heap locs) : own_G p.tables e below (own_P s Q C S) T f := by
  obtain ⟨fs, hr, hrun, hended, hW, hsame⟩ := X.leave (v := v) hv hlk
  exact ⟨_, _, st fs hr, hrun, hended, _, _, rfl, hq, ⟨_, rfl⟩, hW, hsame.mono hC hS⟩
theorem own_retN {Q : Option Value → Heap → List Loc → Prop} {C S : Nat} (X : Stand p l e R s m args below meth c T locs cells slots) (hx : p.tables.exec = Jvm.exec) (hlk : meth.locks = false) {t : FieldType} (hret : meth.sig.returnType = some t) (ht : t = .boolean ∨ t = .byte ∨ t = .char ∨ t = .short) {pc : Nat} {Ls : Array Slot} {z : Int32} {rest : List Value} (hd : decode c.code pc = .ok (.ireturn, 1)) (hC : cells ≤ C) (hS : slots ≤ S) (hq : Q (some (.int (nar t z))) T.heap locs) :
    own_G p.tables e below (own_P s Q C S) T (mkF m pc Ls (.int z :: rest)) :=
  own_ret X hlk (fun h => by rw [hret] at h; cases h) (fun fs hr => retN X hx hret ht hd hr) hC hS hq
theorem own_retI {Q : Option Value → Heap → List Loc → Prop} {C S : Nat} (X : Stand p l e R s m args below meth c T locs cells slots) (hx : p.tables.exec = Jvm.exec) (hlk : meth.locks = false) (hret : meth.sig.returnType = some .int) {pc : Nat} {Ls : Array Slot} {z : Int32} {rest : List Value} (hd : decode c.code pc = .ok (.ireturn, 1)) (hC : cells ≤ C) (hS : slots ≤ S) (hq : Q (some (.int z)) T.heap locs) :
    own_G p.tables e below (own_P s Q C S) T (mkF m pc Ls (.int z :: rest)) :=
  own_ret X hlk (fun h => by rw [hret] at h; cases h) (fun fs hr => retOut X hx hret rfl (Or.inl ⟨rfl, Or.inl rfl, z, rfl⟩) hd hr) hC hS hq
theorem own_retJ {Q : Option Value → Heap → List Loc → Prop} {C S : Nat} (X : Stand p l e R s m args below meth c T locs cells slots) (hx : p.tables.exec = Jvm.exec) (hlk : meth.locks = false) (hret : meth.sig.returnType = some .long) {pc : Nat} {Ls : Array Slot} {z : Int64} {rest : List Value} (hd : decode c.code pc = .ok (.lreturn, 1)) (hC : cells ≤ C) (hS : slots ≤ S) (hq : Q (some (.long z)) T.heap locs) :
    own_G p.tables e below (own_P s Q C S) T (mkF m pc Ls (.long z :: rest)) :=
  own_ret X hlk (fun h => by rw [hret] at h; cases h) (fun fs hr => retOut X hx hret rfl (Or.inr (Or.inl ⟨rfl, rfl, z, rfl⟩)) hd hr) hC hS hq
theorem own_retA {Q : Option Value → Heap → List Loc → Prop} {C S : Nat} (X : Stand p l e R s m args below meth c T locs cells slots) (hx : p.tables.exec = Jvm.exec) (hlk : meth.locks = false) {t : FieldType} (hret : meth.sig.returnType = some t) (ht : t.isReference = true) {pc : Nat} {Ls : Array Slot} {w : Value} {rest : List Value} (hw : w.isRef = true) (hn : narrow t w = w) (hd : decode c.code pc = .ok (.areturn, 1)) (hC : cells ≤ C) (hS : slots ≤ S) (hq : Q (some w) T.heap locs) :
    own_G p.tables e below (own_P s Q C S) T (mkF m pc Ls (w :: rest)) :=
  own_ret X hlk (fun h => by rw [hret] at h; cases h) (fun fs hr => retOut X hx hret hn (Or.inr (Or.inr (Or.inr (Or.inr ⟨rfl, ht, hw⟩)))) hd hr) hC hS hq
theorem own_retV {Q : Option Value → Heap → List Loc → Prop} {C S : Nat} (X : Stand p l e R s m args below meth c T locs cells slots) (hx : p.tables.exec = Jvm.exec) (hlk : meth.locks = false) (hret : meth.sig.returnType = none) {pc : Nat} {Ls : Array Slot} (hd : decode c.code pc = .ok (.return_, 1)) (hC : cells ≤ C) (hS : slots ≤ S) (hq : Q none T.heap locs) :
    own_G p.tables e below (own_P s Q C S) T (mkF m pc Ls []) :=
  own_ret X hlk (fun h => rfl) (fun fs hr => X.returnOut hx hret hd hr) hC hS hq
theorem own_iadd (X : Stand p l e R s m args below meth c T locs cells slots) (hx : p.tables.exec = Jvm.exec) {pc pc' : Nat} {Ls : Array Slot} {x y z : Int32} {rest : List Value} (hd : decode c.code pc = .ok (.iadd, 1)) (hz : x + y = z) (hp : pc + 1 = pc') (k : own_G p.tables e below P T (mkF m pc' Ls (.int z :: rest))) : own_G p.tables e below P T (mkF m pc Ls (.int y :: .int x :: rest)) := by
  subst hp; subst hz; exact own_go (fun t q => XS.iadd X.here hx rfl hd rfl q) k
theorem own_isub (X : Stand p l e R s m args below meth c T locs cells slots) (hx : p.tables.exec = Jvm.exec) {pc pc' : Nat} {Ls : Array Slot} {x y z : Int32} {rest : List Value} (hd : decode c.code pc = .ok (.isub, 1)) (hz : x - y = z) (hp : pc + 1 = pc') (k : own_G p.tables e below P T (mkF m pc' Ls (.int z :: rest))) : own_G p.tables e below P T (mkF m pc Ls (.int y :: .int x :: rest)) := by
  subst hp; subst hz; exact own_go (fun t q => XS.isub X.here hx rfl hd rfl q) k
theorem own_imul (X : Stand p l e R s m args below meth c T locs cells slots) (hx : p.tables.exec = Jvm.exec) {pc pc' : Nat} {Ls : Array Slot} {x y z : Int32} {rest : List Value} (hd : decode c.code pc = .ok (.imul, 1)) (hz : x * y = z) (hp : pc + 1 = pc') (k : own_G p.tables e below P T (mkF m pc' Ls (.int z :: rest))) : own_G p.tables e below P T (mkF m pc Ls (.int y :: .int x :: rest)) := by
  subst hp; subst hz; exact own_go (fun t q => XS.imul X.here hx rfl hd rfl q) k
theorem own_iand (X : Stand p l e R s m args below meth c T locs cells slots) (hx : p.tables.exec = Jvm.exec) {pc pc' : Nat} {Ls : Array Slot} {x y z : Int32} {rest : List Value} (hd : decode c.code pc = .ok (.iand, 1)) (hz : x &&& y = z) (hp : pc + 1 = pc') (k : own_G p.tables e below P T (mkF m pc' Ls (.int z :: rest))) : own_G p.tables e below P T (mkF m pc Ls (.int y :: .int x :: rest)) := by
  subst hp; subst hz; exact own_go (fun t q => XS.iand X.here hx rfl hd rfl q) k
theorem own_ior (X : Stand p l e R s m args below meth c T locs cells slots) (hx : p.tables.exec = Jvm.exec) {pc pc' : Nat} {Ls : Array Slot} {x y z : Int32} {rest : List Value} (hd : decode c.code pc = .ok (.ior, 1)) (hz : x ||| y = z) (hp : pc + 1 = pc') (k : own_G p.tables e below P T (mkF m pc' Ls (.int z :: rest))) : own_G p.tables e below P T (mkF m pc Ls (.int y :: .int x :: rest)) := by
  subst hp; subst hz; exact own_go (fun t q => XS.ior X.here hx rfl hd rfl q) k
theorem own_ixor (X : Stand p l e R s m args below meth c T locs cells slots) (hx : p.tables.exec = Jvm.exec) {pc pc' : Nat} {Ls : Array Slot} {x y z : Int32} {rest : List Value} (hd : decode c.code pc = .ok (.ixor, 1)) (hz : x ^^^ y = z) (hp : pc + 1 = pc') (k : own_G p.tables e below P T (mkF m pc' Ls (.int z :: rest))) : own_G p.tables e below P T (mkF m pc Ls (.int y :: .int x :: rest)) := by
  subst hp; subst hz; exact own_go (fun t q => XS.ixor X.here hx rfl hd rfl q) k
theorem own_ladd (X : Stand p l e R s m args below meth c T locs cells slots) (hx : p.tables.exec = Jvm.exec) {pc pc' : Nat} {Ls : Array Slot} {x y z : Int64} {rest : List Value} (hd : decode c.code pc = .ok (.ladd, 1)) (hz : x + y = z) (hp : pc + 1 = pc') (k : own_G p.tables e below P T (mkF m pc' Ls (.long z :: rest))) : own_G p.tables e below P T (mkF m pc Ls (.long y :: .long x :: rest)) := by
  subst hp; subst hz; exact own_go (fun t q => XS.ladd X.here hx rfl hd rfl q) k
theorem own_lsub (X : Stand p l e R s m args below meth c T locs cells slots) (hx : p.tables.exec = Jvm.exec) {pc pc' : Nat} {Ls : Array Slot} {x y z : Int64} {rest : List Value} (hd : decode c.code pc = .ok (.lsub, 1)) (hz : x - y = z) (hp : pc + 1 = pc') (k : own_G p.tables e below P T (mkF m pc' Ls (.long z :: rest))) : own_G p.tables e below P T (mkF m pc Ls (.long y :: .long x :: rest)) := by
  subst hp; subst hz; exact own_go (fun t q => XS.lsub X.here hx rfl hd rfl q) k
theorem own_lmul (X : Stand p l e R s m args below meth c T locs cells slots) (hx : p.tables.exec = Jvm.exec) {pc pc' : Nat} {Ls : Array Slot} {x y z : Int64} {rest : List Value} (hd : decode c.code pc = .ok (.lmul, 1)) (hz : x * y = z) (hp : pc + 1 = pc') (k : own_G p.tables e below P T (mkF m pc' Ls (.long z :: rest))) : own_G p.tables e below P T (mkF m pc Ls (.long y :: .long x :: rest)) := by
  subst hp; subst hz; exact own_go (fun t q => XS.lmul X.here hx rfl hd rfl q) k
theorem own_land (X : Stand p l e R s m args below meth c T locs cells slots) (hx : p.tables.exec = Jvm.exec) {pc pc' : Nat} {Ls : Array Slot} {x y z : Int64} {rest : List Value} (hd : decode c.code pc = .ok (.land, 1)) (hz : x &&& y = z) (hp : pc + 1 = pc') (k : own_G p.tables e below P T (mkF m pc' Ls (.long z :: rest))) : own_G p.tables e below P T (mkF m pc Ls (.long y :: .long x :: rest)) := by
  subst hp; subst hz; exact own_go (fun t q => XS.land X.here hx rfl hd rfl q) k
theorem own_lor (X : Stand p l e R s m args below meth c T locs cells slots) (hx : p.tables.exec = Jvm.exec) {pc pc' : Nat} {Ls : Array Slot} {x y z : Int64} {rest : List Value} (hd : decode c.code pc = .ok (.lor, 1)) (hz : x ||| y = z) (hp : pc + 1 = pc') (k : own_G p.tables e below P T (mkF m pc' Ls (.long z :: rest))) : own_G p.tables e below P T (mkF m pc Ls (.long y :: .long x :: rest)) := by
  subst hp; subst hz; exact own_go (fun t q => XS.lor X.here hx rfl hd rfl q) k
theorem own_lxor (X : Stand p l e R s m args below meth c T locs cells slots) (hx : p.tables.exec = Jvm.exec) {pc pc' : Nat} {Ls : Array Slot} {x y z : Int64} {rest : List Value} (hd : decode c.code pc = .ok (.lxor, 1)) (hz : x ^^^ y = z) (hp : pc + 1 = pc') (k : own_G p.tables e below P T (mkF m pc' Ls (.long z :: rest))) : own_G p.tables e below P T (mkF m pc Ls (.long y :: .long x :: rest)) := by
  subst hp; subst hz; exact own_go (fun t q => XS.lxor X.here hx rfl hd rfl q) k
theorem own_ishl (X : Stand p l e R s m args below meth c T locs cells slots) (hx : p.tables.exec = Jvm.exec) {pc pc' : Nat} {Ls : Array Slot} {x y : Int32} {rest : List Value} (hd : decode c.code pc = .ok (.ishl, 1)) (hp : pc + 1 = pc') (k : own_G p.tables e below P T (mkF m pc' Ls (.int (x <<< (y &&& 31)) :: rest))) : own_G p.tables e below P T (mkF m pc Ls (.int y :: .int x :: rest)) := by
  subst hp; exact own_go (fun t q => XS.ishl X.here hx rfl hd rfl q) k
theorem own_ishr (X : Stand p l e R s m args below meth c T locs cells slots) (hx : p.tables.exec = Jvm.exec) {pc pc' : Nat} {Ls : Array Slot} {x y : Int32} {rest : List Value} (hd : decode c.code pc = .ok (.ishr, 1)) (hp : pc + 1 = pc') (k : own_G p.tables e below P T (mkF m pc' Ls (.int (x >>> (y &&& 31)) :: rest))) : own_G p.tables e below P T (mkF m pc Ls (.int y :: .int x :: rest)) := by
  subst hp; exact own_go (fun t q => XS.ishr X.here hx rfl hd rfl q) k
theorem own_iushr (X : Stand p l e R s m args below meth c T locs cells slots) (hx : p.tables.exec = Jvm.exec) {pc pc' : Nat} {Ls : Array Slot} {x y : Int32} {rest : List Value} (hd : decode c.code pc = .ok (.iushr, 1)) (hp : pc + 1 = pc') (k : own_G p.tables e below P T (mkF m pc' Ls (.int ((x.toUInt32 >>> (y &&& 31).toUInt32).toInt32) :: rest))) : own_G p.tables e below P T (mkF m pc Ls (.int y :: .int x :: rest)) := by
  subst hp; exact own_go (fun t q => XS.iushr X.here hx rfl hd rfl q) k
theorem own_lshl (X : Stand p l e R s m args below meth c T locs cells slots) (hx : p.tables.exec = Jvm.exec) {pc pc' : Nat} {Ls : Array Slot} {x : Int64} {y : Int32} {rest : List Value} (hd : decode c.code pc = .ok (.lshl, 1)) (hp : pc + 1 = pc') (k : own_G p.tables e below P T (mkF m pc' Ls (.long (x <<< (y &&& 0x3f).toInt64) :: rest))) : own_G p.tables e below P T (mkF m pc Ls (.int y :: .long x :: rest)) := by
  subst hp; exact own_go (fun t q => XS.lshl X.here hx rfl hd rfl q) k
theorem own_lshr (X : Stand p l e R s m args below meth c T locs cells slots) (hx : p.tables.exec = Jvm.exec) {pc pc' : Nat} {Ls : Array Slot} {x : Int64} {y : Int32} {rest : List Value} (hd : decode c.code pc = .ok (.lshr, 1)) (hp : pc + 1 = pc') (k : own_G p.tables e below P T (mkF m pc' Ls (.long (x >>> (y &&& 0x3f).toInt64) :: rest))) : own_G p.tables e below P T (mkF m pc Ls (.int y :: .long x :: rest)) := by
  subst hp; exact own_go (fun t q => XS.lshr X.here hx rfl hd rfl q) k
theorem own_lushr (X : Stand p l e R s m args below meth c T locs cells slots) (hx : p.tables.exec = Jvm.exec) {pc pc' : Nat} {Ls : Array Slot} {x : Int64} {y : Int32} {rest : List Value} (hd : decode c.code pc = .ok (.lushr, 1)) (hp : pc + 1 = pc') (k : own_G p.tables e below P T (mkF m pc' Ls (.long ((x.toUInt64 >>> (y &&& 0x3f).toInt64.toUInt64).toInt64) :: rest))) : own_G p.tables e below P T (mkF m pc Ls (.int y :: .long x :: rest)) := by
  subst hp; exact own_go (fun t q => XS.lushr X.here hx rfl hd rfl q) k
theorem own_i2l (X : Stand p l e R s m args below meth c T locs cells slots) (hx : p.tables.exec = Jvm.exec) {pc pc' : Nat} {Ls : Array Slot} {x : Int32} {rest : List Value} (hd : decode c.code pc = .ok (.i2l, 1)) (hp : pc + 1 = pc') (k : own_G p.tables e below P T (mkF m pc' Ls (.long (x.toInt64) :: rest))) : own_G p.tables e below P T (mkF m pc Ls (.int x :: rest)) := by
  subst hp; exact own_go (fun t q => XS.i2l X.here hx rfl hd rfl q) k
theorem own_l2i (X : Stand p l e R s m args below meth c T locs cells slots) (hx : p.tables.exec = Jvm.exec) {pc pc' : Nat} {Ls : Array Slot} {x : Int64} {rest : List Value} (hd : decode c.code pc = .ok (.l2i, 1)) (hp : pc + 1 = pc') (k : own_G p.tables e below P T (mkF m pc' Ls (.int (x.toInt32) :: rest))) : own_G p.tables e below P T (mkF m pc Ls (.long x :: rest)) := by
  subst hp; exact own_go (fun t q => XS.l2i X.here hx rfl hd rfl q) k
theorem own_i2b (X : Stand p l e R s m args below meth c T locs cells slots) (hx : p.tables.exec = Jvm.exec) {pc pc' : Nat} {Ls : Array Slot} {x : Int32} {rest : List Value} (hd : decode c.code pc = .ok (.i2b, 1)) (hp : pc + 1 = pc') (k : own_G p.tables e below P T (mkF m pc' Ls (.int (x.toInt8.toInt32) :: rest))) : own_G p.tables e below P T (mkF m pc Ls (.int x :: rest)) := by
  subst hp; exact own_go (fun t q => XS.i2b X.here hx rfl hd rfl q) k
theorem own_i2s (X : Stand p l e R s m args below meth c T locs cells slots) (hx : p.tables.exec = Jvm.exec) {pc pc' : Nat} {Ls : Array Slot} {x : Int32} {rest : List Value} (hd : decode c.code pc = .ok (.i2s, 1)) (hp : pc + 1 = pc') (k : own_G p.tables e below P T (mkF m pc' Ls (.int (x.toInt16.toInt32) :: rest))) : own_G p.tables e below P T (mkF m pc Ls (.int x :: rest)) := by
  subst hp; exact own_go (fun t q => XS.i2s X.here hx rfl hd rfl q) k
theorem own_i2c (X : Stand p l e R s m args below meth c T locs cells slots) (hx : p.tables.exec = Jvm.exec) {pc pc' : Nat} {Ls : Array Slot} {x : Int32} {rest : List Value} (hd : decode c.code pc = .ok (.i2c, 1)) (hp : pc + 1 = pc') (k : own_G p.tables e below P T (mkF m pc' Ls (.int (x.toUInt32.toUInt16.toUInt32.toInt32) :: rest))) : own_G p.tables e below P T (mkF m pc Ls (.int x :: rest)) := by
  subst hp; exact own_go (fun t q => XS.i2c X.here hx rfl hd rfl q) k
theorem own_ineg (X : Stand p l e R s m args below meth c T locs cells slots) (hx : p.tables.exec = Jvm.exec) {pc pc' : Nat} {Ls : Array Slot} {x : Int32} {rest : List Value} (hd : decode c.code pc = .ok (.ineg, 1)) (hp : pc + 1 = pc') (k : own_G p.tables e below P T (mkF m pc' Ls (.int (-x) :: rest))) : own_G p.tables e below P T (mkF m pc Ls (.int x :: rest)) := by
  subst hp; exact own_go (fun t q => XS.ineg X.here hx rfl hd rfl q) k
theorem own_lneg (X : Stand p l e R s m args below meth c T locs cells slots) (hx : p.tables.exec = Jvm.exec) {pc pc' : Nat} {Ls : Array Slot} {x : Int64} {rest : List Value} (hd : decode c.code pc = .ok (.lneg, 1)) (hp : pc + 1 = pc') (k : own_G p.tables e below P T (mkF m pc' Ls (.long (-x) :: rest))) : own_G p.tables e below P T (mkF m pc Ls (.long x :: rest)) := by
  subst hp; exact own_go (fun t q => XS.lneg X.here hx rfl hd rfl q) k
theorem own_lcmp (X : Stand p l e R s m args below meth c T locs cells slots) (hx : p.tables.exec = Jvm.exec) {pc pc' : Nat} {Ls : Array Slot} {x y : Int64} {rest : List Value} (hd : decode c.code pc = .ok (.lcmp, 1)) (hp : pc + 1 = pc') (k : own_G p.tables e below P T (mkF m pc' Ls (.int (lcmpW x y) :: rest))) : own_G p.tables e below P T (mkF m pc Ls (.long y :: .long x :: rest)) := by
  subst hp; exact own_go (fun t q => XS.lcmp X.here hx rfl hd rfl q) k
theorem own_idiv (X : Stand p l e R s m args below meth c T locs cells slots) (hx : p.tables.exec = Jvm.exec) {pc pc' : Nat} {Ls : Array Slot} {x y z : Int32} {rest : List Value} (hd : decode c.code pc = .ok (.idiv, 1)) (hz : x / y = z) (hy : y ≠ 0) (hp : pc + 1 = pc') (k : own_G p.tables e below P T (mkF m pc' Ls (.int z :: rest))) : own_G p.tables e below P T (mkF m pc Ls (.int y :: .int x :: rest)) := by
  subst hp; subst hz; exact own_go (fun t q => XS.idiv X.here hx rfl hd rfl hy q) k
theorem own_irem (X : Stand p l e R s m args below meth c T locs cells slots) (hx : p.tables.exec = Jvm.exec) {pc pc' : Nat} {Ls : Array Slot} {x y : Int32} {rest : List Value} (hd : decode c.code pc = .ok (.irem, 1)) (hy : y ≠ 0) (hp : pc + 1 = pc') (k : own_G p.tables e below P T (mkF m pc' Ls (.int (x % y) :: rest))) : own_G p.tables e below P T (mkF m pc Ls (.int y :: .int x :: rest)) := by
  subst hp; exact own_go (fun t q => iremM X hx rfl hd rfl hy q) k
theorem own_iloadN (X : Stand p l e R s m args below meth c T locs cells slots) (hx : p.tables.exec = Jvm.exec) {pc pc' : Nat} {Ls : Array Slot} {j : Fin 4} {v : Int32} {st : List Value} (hd : decode c.code pc = .ok (.iload_n j, 1)) (hl : Ls[j.val]? = some (.val (.int v))) (hp : pc + 1 = pc') (k : own_G p.tables e below P T (mkF m pc' Ls (.int v :: st))) : own_G p.tables e below P T (mkF m pc Ls (st)) := by
  subst hp; exact own_go (fun t q => XS.iloadN X.here hx rfl hd hl q) k
theorem own_iload (X : Stand p l e R s m args below meth c T locs cells slots) (hx : p.tables.exec = Jvm.exec) {pc pc' : Nat} {Ls : Array Slot} {j : Nat} {v : Int32} {st : List Value} (hd : decode c.code pc = .ok (.iload j, 2)) (hl : Ls[j]? = some (.val (.int v))) (hp : pc + 2 = pc') (k : own_G p.tables e below P T (mkF m pc' Ls (.int v :: st))) : own_G p.tables e below P T (mkF m pc Ls (st)) := by
  subst hp; exact own_go (fun t q => XS.iload X.here hx rfl hd hl q) k
theorem own_lloadN (X : Stand p l e R s m args below meth c T locs cells slots) (hx : p.tables.exec = Jvm.exec) {pc pc' : Nat} {Ls : Array Slot} {j : Fin 4} {v : Int64} {st : List Value} (hd : decode c.code pc = .ok (.lload_n j, 1)) (hl : Ls[j.val]? = some (.val (.long v))) (hp : pc + 1 = pc') (k : own_G p.tables e below P T (mkF m pc' Ls (.long v :: st))) : own_G p.tables e below P T (mkF m pc Ls (st)) := by
  subst hp; exact own_go (fun t q => XS.lloadN X.here hx rfl hd hl q) k
theorem own_lload (X : Stand p l e R s m args below meth c T locs cells slots) (hx : p.tables.exec = Jvm.exec) {pc pc' : Nat} {Ls : Array Slot} {j : Nat} {v : Int64} {st : List Value} (hd : decode c.code pc = .ok (.lload j, 2)) (hl : Ls[j]? = some (.val (.long v))) (hp : pc + 2 = pc') (k : own_G p.tables e below P T (mkF m pc' Ls (.long v :: st))) : own_G p.tables e below P T (mkF m pc Ls (st)) := by
  subst hp; exact own_go (fun t q => XS.lload X.here hx rfl hd hl q) k
theorem own_aloadN (X : Stand p l e R s m args below meth c T locs cells slots) (hx : p.tables.exec = Jvm.exec) {pc pc' : Nat} {Ls : Array Slot} {j : Fin 4} {v : Value} {st : List Value} (hd : decode c.code pc = .ok (.aload_n j, 1)) (hl : Ls[j.val]? = some (.val v)) (hv : v.isRef = true) (hp : pc + 1 = pc') (k : own_G p.tables e below P T (mkF m pc' Ls (v :: st))) : own_G p.tables e below P T (mkF m pc Ls (st)) := by
  subst hp; exact own_go (fun t q => XS.aloadN X.here hx rfl hd hl hv q) k
theorem own_istoreN (X : Stand p l e R s m args below meth c T locs cells slots) (hx : p.tables.exec = Jvm.exec) {pc pc' : Nat} {Ls : Array Slot} {j : Fin 4} {v : Int32} {rest : List Value} {Ls' : Array Slot} (hd : decode c.code pc = .ok (.istore_n j, 1)) (hl : storeLocals Ls j.val (.int v) = some Ls') (hp : pc + 1 = pc') (k : own_G p.tables e below P T (mkF m pc' Ls' (rest))) : own_G p.tables e below P T (mkF m pc Ls (.int v :: rest)) := by
  subst hp; exact own_go (fun t q => XS.istoreN X.here hx rfl hd rfl hl q) k
theorem own_lstoreN (X : Stand p l e R s m args below meth c T locs cells slots) (hx : p.tables.exec = Jvm.exec) {pc pc' : Nat} {Ls : Array Slot} {j : Fin 4} {v : Int64} {rest : List Value} {Ls' : Array Slot} (hd : decode c.code pc = .ok (.lstore_n j, 1)) (hl : storeLocals Ls j.val (.long v) = some Ls') (hp : pc + 1 = pc') (k : own_G p.tables e below P T (mkF m pc' Ls' (rest))) : own_G p.tables e below P T (mkF m pc Ls (.long v :: rest)) := by
  subst hp; exact own_go (fun t q => XS.lstoreN X.here hx rfl hd rfl hl q) k
theorem own_astoreN (X : Stand p l e R s m args below meth c T locs cells slots) (hx : p.tables.exec = Jvm.exec) {pc pc' : Nat} {Ls : Array Slot} {j : Fin 4} {v : Value} {rest : List Value} {Ls' : Array Slot} (hd : decode c.code pc = .ok (.astore_n j, 1)) (hv : v.isRef = true) (hl : storeLocals Ls j.val v = some Ls') (hp : pc + 1 = pc') (k : own_G p.tables e below P T (mkF m pc' Ls' (rest))) : own_G p.tables e below P T (mkF m pc Ls (v :: rest)) := by
  subst hp; exact own_go (fun t q => XS.astoreN X.here hx rfl hd rfl hv hl q) k
theorem own_aload (X : Stand p l e R s m args below meth c T locs cells slots) (hx : p.tables.exec = Jvm.exec) {pc pc' : Nat} {Ls : Array Slot} {j : Nat} {v : Value} {st : List Value} (hd : decode c.code pc = .ok (.aload j, 2)) (hl : Ls[j]? = some (.val v)) (hv : v.isRef = true) (hp : pc + 2 = pc') (k : own_G p.tables e below P T (mkF m pc' Ls (v :: st))) : own_G p.tables e below P T (mkF m pc Ls (st)) := by
  subst hp; exact own_go (fun t q => XS.aload X.here hx rfl hd hl hv q) k
theorem own_istore (X : Stand p l e R s m args below meth c T locs cells slots) (hx : p.tables.exec = Jvm.exec) {pc pc' : Nat} {Ls : Array Slot} {j : Nat} {v : Int32} {rest : List Value} {Ls' : Array Slot} (hd : decode c.code pc = .ok (.istore j, 2)) (hl : storeLocals Ls j (.int v) = some Ls') (hp : pc + 2 = pc') (k : own_G p.tables e below P T (mkF m pc' Ls' (rest))) : own_G p.tables e below P T (mkF m pc Ls (.int v :: rest)) := by
  subst hp; exact own_go (fun t q => XS.istore X.here hx rfl hd rfl hl q) k
theorem own_lstore (X : Stand p l e R s m args below meth c T locs cells slots) (hx : p.tables.exec = Jvm.exec) {pc pc' : Nat} {Ls : Array Slot} {j : Nat} {v : Int64} {rest : List Value} {Ls' : Array Slot} (hd : decode c.code pc = .ok (.lstore j, 2)) (hl : storeLocals Ls j (.long v) = some Ls') (hp : pc + 2 = pc') (k : own_G p.tables e below P T (mkF m pc' Ls' (rest))) : own_G p.tables e below P T (mkF m pc Ls (.long v :: rest)) := by
  subst hp; exact own_go (fun t q => XS.lstore X.here hx rfl hd rfl hl q) k
theorem own_astore (X : Stand p l e R s m args below meth c T locs cells slots) (hx : p.tables.exec = Jvm.exec) {pc pc' : Nat} {Ls : Array Slot} {j : Nat} {v : Value} {rest : List Value} {Ls' : Array Slot} (hd : decode c.code pc = .ok (.astore j, 2)) (hv : v.isRef = true) (hl : storeLocals Ls j v = some Ls') (hp : pc + 2 = pc') (k : own_G p.tables e below P T (mkF m pc' Ls' (rest))) : own_G p.tables e below P T (mkF m pc Ls (v :: rest)) := by
  subst hp; exact own_go (fun t q => XS.astore X.here hx rfl hd rfl hv hl q) k
theorem own_iinc (X : Stand p l e R s m args below meth c T locs cells slots) (hx : p.tables.exec = Jvm.exec) {pc pc' : Nat} {Ls : Array Slot} {j : Nat} {cst : Int} {x : Int32} {st : List Value} {Ls' : Array Slot} (hd : decode c.code pc = .ok (.iinc j cst, 3)) (hl : Ls[j]? = some (.val (.int x))) (hl' : storeLocals Ls j (.int (x + Int32.ofInt cst)) = some Ls') (hp : pc + 3 = pc') (k : own_G p.tables e below P T (mkF m pc' Ls' (st))) : own_G p.tables e below P T (mkF m pc Ls (st)) := by
  subst hp; exact own_go (fun t q => XS.iinc X.here hx rfl hd hl hl' q) k
theorem own_iconst (X : Stand p l e R s m args below meth c T locs cells slots) (hx : p.tables.exec = Jvm.exec) {pc pc' : Nat} {Ls : Array Slot} {i : Int} {st : List Value} (z : Int32) (hd : decode c.code pc = .ok (.iconst i, 1)) (hz : Int32.ofInt i = z) (hp : pc + 1 = pc') (k : own_G p.tables e below P T (mkF m pc' Ls (.int z :: st))) : own_G p.tables e below P T (mkF m pc Ls (st)) := by
  subst hp; subst hz; exact own_go (fun t q => XS.iconst X.here hx rfl hd q) k
theorem own_bipush (X : Stand p l e R s m args below meth c T locs cells slots) (hx : p.tables.exec = Jvm.exec) {pc pc' : Nat} {Ls : Array Slot} {i : Int} {st : List Value} (z : Int32) (hd : decode c.code pc = .ok (.bipush i, 2)) (hz : (Int8.ofInt i).toInt32 = z) (hp : pc + 2 = pc') (k : own_G p.tables e below P T (mkF m pc' Ls (.int z :: st))) : own_G p.tables e below P T (mkF m pc Ls (st)) := by
  subst hp; subst hz; exact own_go (fun t q => XS.bipush X.here hx rfl hd q) k
theorem own_sipush (X : Stand p l e R s m args below meth c T locs cells slots) (hx : p.tables.exec = Jvm.exec) {pc pc' : Nat} {Ls : Array Slot} {i : Int} {st : List Value} (z : Int32) (hd : decode c.code pc = .ok (.sipush i, 3)) (hz : (Int16.ofInt i).toInt32 = z) (hp : pc + 3 = pc') (k : own_G p.tables e below P T (mkF m pc' Ls (.int z :: st))) : own_G p.tables e below P T (mkF m pc Ls (st)) := by
  subst hp; subst hz; exact own_go (fun t q => XS.sipush X.here hx rfl hd q) k
theorem own_lconst (X : Stand p l e R s m args below meth c T locs cells slots) (hx : p.tables.exec = Jvm.exec) {pc pc' : Nat} {Ls : Array Slot} {i : Fin 2} {st : List Value} (z : Int64) (hd : decode c.code pc = .ok (.lconst i, 1)) (hz : Int64.ofNat i = z) (hp : pc + 1 = pc') (k : own_G p.tables e below P T (mkF m pc' Ls (.long z :: st))) : own_G p.tables e below P T (mkF m pc Ls (st)) := by
  subst hp; subst hz; exact own_go (fun t q => XS.lconst X.here hx rfl hd q) k
theorem own_aconstNull (X : Stand p l e R s m args below meth c T locs cells slots) (hx : p.tables.exec = Jvm.exec) {pc pc' : Nat} {Ls : Array Slot} {st : List Value} (hd : decode c.code pc = .ok (.aconst_null, 1)) (hp : pc + 1 = pc') (k : own_G p.tables e below P T (mkF m pc' Ls (.null :: st))) : own_G p.tables e below P T (mkF m pc Ls (st)) := by
  subst hp; exact own_go (fun t q => XS.aconstNull X.here hx rfl hd q) k
theorem own_dup (X : Stand p l e R s m args below meth c T locs cells slots) (hx : p.tables.exec = Jvm.exec) {pc pc' : Nat} {Ls : Array Slot} {v : Value} {rest : List Value} (hd : decode c.code pc = .ok (.dup, 1)) (hc : v.category = 1) (hp : pc + 1 = pc') (k : own_G p.tables e below P T (mkF m pc' Ls (v :: v :: rest))) : own_G p.tables e below P T (mkF m pc Ls (v :: rest)) := by
  subst hp; exact own_go (fun t q => XS.dup X.here hx rfl hd rfl hc q) k
theorem own_pop (X : Stand p l e R s m args below meth c T locs cells slots) (hx : p.tables.exec = Jvm.exec) {pc pc' : Nat} {Ls : Array Slot} {v : Value} {rest : List Value} (hd : decode c.code pc = .ok (.pop, 1)) (hc : v.category = 1) (hp : pc + 1 = pc') (k : own_G p.tables e below P T (mkF m pc' Ls (rest))) : own_G p.tables e below P T (mkF m pc Ls (v :: rest)) := by
  subst hp; exact own_go (fun t q => XS.pop X.here hx rfl hd rfl hc q) k
theorem own_dupX1 (X : Stand p l e R s m args below meth c T locs cells slots) (hx : p.tables.exec = Jvm.exec) {pc pc' : Nat} {Ls : Array Slot} {v w : Value} {rest : List Value} (hd : decode c.code pc = .ok (.dup_x1, 1)) (hc : v.category = 1) (hc' : w.category = 1) (hp : pc + 1 = pc') (k : own_G p.tables e below P T (mkF m pc' Ls (v :: w :: v :: rest))) : own_G p.tables e below P T (mkF m pc Ls (v :: w :: rest)) := by
  subst hp; exact own_go (fun t q => XS.dupX1 X.here hx rfl hd rfl hc hc' q) k
theorem own_dup2 (X : Stand p l e R s m args below meth c T locs cells slots) (hx : p.tables.exec = Jvm.exec) {pc pc' : Nat} {Ls : Array Slot} {v w : Value} {rest : List Value} (hd : decode c.code pc = .ok (.dup2, 1)) (hc : v.category = 1) (hc' : w.category = 1) (hp : pc + 1 = pc') (k : own_G p.tables e below P T (mkF m pc' Ls (v :: w :: v :: w :: rest))) : own_G p.tables e below P T (mkF m pc Ls (v :: w :: rest)) := by
  subst hp; exact own_go (fun t q => Jvm.Free.XT.dup2 X.here hx rfl hd rfl hc hc' q) k
theorem own_goto (X : Stand p l e R s m args below meth c T locs cells slots) (hx : p.tables.exec = Jvm.exec) {pc pc' : Nat} {Ls : Array Slot} {st : List Value} {o : Int} (hd : decode c.code pc = .ok (.goto o, 3)) (ho : 0 ≤ (pc : Int) + o) (hp : ((pc : Int) + o).toNat = pc') (k : own_G p.tables e below P T (mkF m pc' Ls (st))) : own_G p.tables e below P T (mkF m pc Ls (st)) := by
  exact own_go (fun t q => XS.goto X.here hx rfl (pc0 := pc) (pc' := pc') rfl hd ho hp q) k
theorem own_ifYes (X : Stand p l e R s m args below meth c T locs cells slots) (hx : p.tables.exec = Jvm.exec) {pc pc' : Nat} {Ls : Array Slot} {cd : ClassFile.Cond} {x : Int32} {rest : List Value} {o : Int} (hd : decode c.code pc = .ok (.ifCond cd o, 3)) (hc : if_icmp.holds cd x 0 = true) (ho : 0 ≤ (pc : Int) + o) (hp : ((pc : Int) + o).toNat = pc') (k : own_G p.tables e below P T (mkF m pc' Ls (rest))) : own_G p.tables e below P T (mkF m pc Ls (.int x :: rest)) := by
  exact own_go (fun t q => XS.ifYes X.here hx rfl (pc0 := pc) (pc' := pc') rfl hd rfl ((if0 _ _).trans hc) ho hp q) k
theorem own_icmpYes (X : Stand p l e R s m args below meth c T locs cells slots) (hx : p.tables.exec = Jvm.exec) {pc pc' : Nat} {Ls : Array Slot} {cd : ClassFile.Cond} {x y : Int32} {rest : List Value} {o : Int} (hd : decode c.code pc = .ok (.if_icmp cd o, 3)) (hc : if_icmp.holds cd x y = true) (ho : 0 ≤ (pc : Int) + o) (hp : ((pc : Int) + o).toNat = pc') (k : own_G p.tables e below P T (mkF m pc' Ls (rest))) : own_G p.tables e below P T (mkF m pc Ls (.int y :: .int x :: rest)) := by
  exact own_go (fun t q => XS.icmpYes X.here hx rfl (pc0 := pc) (pc' := pc') rfl hd rfl hc ho hp q) k
theorem own_ifnullYes (X : Stand p l e R s m args below meth c T locs cells slots) (hx : p.tables.exec = Jvm.exec) {pc pc' : Nat} {Ls : Array Slot} {rest : List Value} {o : Int} (hd : decode c.code pc = .ok (.ifnull o, 3)) (ho : 0 ≤ (pc : Int) + o) (hp : ((pc : Int) + o).toNat = pc') (k : own_G p.tables e below P T (mkF m pc' Ls (rest))) : own_G p.tables e below P T (mkF m pc Ls (.null :: rest)) := by
  exact own_go (fun t q => XS.ifnullYes X.here hx rfl (pc0 := pc) (pc' := pc') rfl hd rfl ho hp q) k
theorem own_ifnonnullYes (X : Stand p l e R s m args below meth c T locs cells slots) (hx : p.tables.exec = Jvm.exec) {pc pc' : Nat} {Ls : Array Slot} {b : Addr} {rest : List Value} {o : Int} (hd : decode c.code pc = .ok (.ifnonnull o, 3)) (ho : 0 ≤ (pc : Int) + o) (hp : ((pc : Int) + o).toNat = pc') (k : own_G p.tables e below P T (mkF m pc' Ls (rest))) : own_G p.tables e below P T (mkF m pc Ls (.ref b :: rest)) := by
  exact own_go (fun t q => XS.ifnonnullYes X.here hx rfl (pc0 := pc) (pc' := pc') rfl hd rfl ho hp q) k
theorem own_ifNo (X : Stand p l e R s m args below meth c T locs cells slots) (hx : p.tables.exec = Jvm.exec) {pc pc' : Nat} {Ls : Array Slot} {cd : ClassFile.Cond} {o : Int} {x : Int32} {rest : List Value} (hd : decode c.code pc = .ok (.ifCond cd o, 3)) (hc : if_icmp.holds cd x 0 = false) (hp : pc + 3 = pc') (k : own_G p.tables e below P T (mkF m pc' Ls (rest))) : own_G p.tables e below P T (mkF m pc Ls (.int x :: rest)) := by
  subst hp; exact own_go (fun t q => XS.ifNo X.here hx rfl hd rfl ((if0 _ _).trans hc) q) k
theorem own_icmpNo (X : Stand p l e R s m args below meth c T locs cells slots) (hx : p.tables.exec = Jvm.exec) {pc pc' : Nat} {Ls : Array Slot} {cd : ClassFile.Cond} {o : Int} {x y : Int32} {rest : List Value} (hd : decode c.code pc = .ok (.if_icmp cd o, 3)) (hc : if_icmp.holds cd x y = false) (hp : pc + 3 = pc') (k : own_G p.tables e below P T (mkF m pc' Ls (rest))) : own_G p.tables e below P T (mkF m pc Ls (.int y :: .int x :: rest)) := by
  subst hp; exact own_go (fun t q => XS.icmpNo X.here hx rfl hd rfl hc q) k
theorem own_ifnullNo (X : Stand p l e R s m args below meth c T locs cells slots) (hx : p.tables.exec = Jvm.exec) {pc pc' : Nat} {Ls : Array Slot} {o : Int} {b : Addr} {rest : List Value} (hd : decode c.code pc = .ok (.ifnull o, 3)) (hp : pc + 3 = pc') (k : own_G p.tables e below P T (mkF m pc' Ls (rest))) : own_G p.tables e below P T (mkF m pc Ls (.ref b :: rest)) := by
  subst hp; exact own_go (fun t q => XS.ifnullNo X.here hx rfl hd rfl q) k
theorem own_ifnonnullNo (X : Stand p l e R s m args below meth c T locs cells slots) (hx : p.tables.exec = Jvm.exec) {pc pc' : Nat} {Ls : Array Slot} {o : Int} {rest : List Value} (hd : decode c.code pc = .ok (.ifnonnull o, 3)) (hp : pc + 3 = pc') (k : own_G p.tables e below P T (mkF m pc' Ls (rest))) : own_G p.tables e below P T (mkF m pc Ls (.null :: rest)) := by
  subst hp; exact own_go (fun t q => XS.ifnonnullNo X.here hx rfl hd rfl q) k
theorem own_acmp (X : Stand p l e R s m args below meth c T locs cells slots) (hx : p.tables.exec = Jvm.exec) {pc pc' : Nat} {Ls : Array Slot} {cd : ACond} {x y : Value} {rest : List Value} {o : Int} (same : Bool) (hd : decode c.code pc = .ok (.if_acmp cd o, 3)) (h1 : x.isRef = true) (h2 : y.isRef = true) (hq : decide (x = y) = same) (ho : 0 ≤ (pc : Int) + o) (hp : pc' = if acV cd same = true then ((pc : Int) + o).toNat else pc + 3) (k : own_G p.tables e below P T (mkF m pc' Ls rest)) : own_G p.tables e below P T (mkF m pc Ls (y :: x :: rest)) := by
  exact own_go (fun t q => Jvm.RoadKit.acmp (g := mkF m pc Ls (y :: x :: rest)) X hx rfl h1 h2 (pc0 := pc) (pc' := pc') rfl hd rfl hq ho hp q) k
theorem own_ldcI (X : Stand p l e R s m args below meth c T locs cells slots) (hx : p.tables.exec = Jvm.exec) {pc pc' : Nat} {Ls : Array Slot} (hZ : Z.Warmed39 s.vm) {own : String} {idx : Nat} {z : Int32} {st : List Value} (hown : s.vm.findClass own = some m.cls) (w : (Jvm.Cond.constant own idx z).before a0 Z = true) (hd : decode c.code pc = .ok (.ldc idx, 2)) (hp : pc + 2 = pc') (k : own_G p.tables e below P T (mkF m pc' Ls (.int z :: st))) : own_G p.tables e below P T (mkF m pc Ls st) := by
  subst hp; exact own_go (X.ldcInt hx hown (mvT hZ w) (g := mkF m pc Ls st) rfl hd) k
theorem own_ldcwI (X : Stand p l e R s m args below meth c T locs cells slots) (hx : p.tables.exec = Jvm.exec) {pc pc' : Nat} {Ls : Array Slot} (hZ : Z.Warmed39 s.vm) {own : String} {idx : Nat} {z : Int32} {st : List Value} (hown : s.vm.findClass own = some m.cls) (w : (Jvm.Cond.constant own idx z).before a0 Z = true) (hd : decode c.code pc = .ok (.ldc_w idx, 3)) (hp : pc + 3 = pc') (k : own_G p.tables e below P T (mkF m pc' Ls (.int z :: st))) : own_G p.tables e below P T (mkF m pc Ls st) := by
  subst hp; exact own_go (X.ldcwInt hx hown (mvT hZ w) (g := mkF m pc Ls st) rfl hd) k
theorem own_ldc2J (X : Stand p l e R s m args below meth c T locs cells slots) (hx : p.tables.exec = Jvm.exec) {pc pc' : Nat} {Ls : Array Slot} (hZ : Z.Warmed39 s.vm) {own : String} {idx : Nat} {z : Int64} {st : List Value} (hown : s.vm.findClass own = some m.cls) (w : (Jvm.Cond.constantLong own idx z).before a0 Z = true) (hd : decode c.code pc = .ok (.ldc2_w idx, 3)) (hp : pc + 3 = pc') (k : own_G p.tables e below P T (mkF m pc' Ls (.long z :: st))) : own_G p.tables e below P T (mkF m pc Ls st) := by
  subst hp; exact own_go (X.ldc2Long hx hown (mvT hZ w) (g := mkF m pc Ls st) rfl hd) k
theorem own_getF (X : Stand p l e R s m args below meth c T locs cells slots) (hx : p.tables.exec = Jvm.exec) {pc pc' : Nat} {Ls : Array Slot} (hZ : Z.Warmed39 s.vm) {own R0 O n d host : String} {idx : Nat} {a : Addr} {v : Value} {rest : List Value} (hown : s.vm.findClass own = some m.cls) (w : (Cond.fieldLink own idx R0 n d).before a0 Z = true ∨ (Cond.fieldLinkNest own idx R0 n d host).before a0 Z = true) (via : Via Z R0 O n d) (eT : T.heap = h) (F : Fld Z h a O n d v) (hd : decode c.code pc = .ok (.getfield idx, 3)) (hp : pc + 3 = pc') (k : ∀ T', Stand p l e R s m args below meth c T' locs cells slots → T'.heap = h → own_G p.tables e below P T' (mkF m pc' Ls (v :: rest))) : own_G p.tables e below P T (mkF m pc Ls (.ref a :: rest)) := by
  subst hp; obtain ⟨T', X', e', st⟩ := getF X hx hZ hown w via eT F (g := mkF m pc Ls (.ref a :: rest)) rfl rfl hd; exact own_go st (k T' X' e')
theorem own_getS (X : Stand p l e R s m args below meth c T locs cells slots) (hx : p.tables.exec = Jvm.exec) {pc pc' : Nat} {Ls : Array Slot} (hZ : Z.Warmed39 s.vm) {own R0 O n d host : String} {idx : Nat} {v : Value} {st : List Value} (hown : s.vm.findClass own = some m.cls) (w : (Cond.fieldLink own idx R0 n d).before a0 Z = true ∨ (Cond.fieldLinkNest own idx R0 n d host).before a0 Z = true) (via : Via Z R0 O n d) (eT : T.heap = h) (F : Sta Z h O n d v) (hd : decode c.code pc = .ok (.getstatic idx, 3)) (hp : pc + 3 = pc') (k : ∀ T', Stand p l e R s m args below meth c T' locs cells slots → T'.heap = h → own_G p.tables e below P T' (mkF m pc' Ls (v :: st))) : own_G p.tables e below P T (mkF m pc Ls st) := by
  subst hp; obtain ⟨T', X', e', stp⟩ := getS2 X hx hZ hown w via eT F (g := mkF m pc Ls st) rfl hd; exact own_go stp (k T' X' e')
theorem own_len (X : Stand p l e R s m args below meth c T locs cells slots) (hx : p.tables.exec = Jvm.exec) {pc pc' : Nat} {Ls : Array Slot} (hZ : Z.Warmed39 s.vm) {a : Addr} {cl : Cell} {ty : FieldType} {z : Int32} {rest : List Value} (eT : T.heap = h) (A : Arr Z h a cl ty) (S : cl.slots.size = z.toNatClampNeg) (M : ¬ z < 0) (hd : decode c.code pc = .ok (.arraylength, 1)) (hp : pc + 1 = pc') (k : own_G p.tables e below P T (mkF m pc' Ls (.int z :: rest))) : own_G p.tables e below P T (mkF m pc Ls (.ref a :: rest)) := by
  subst hp; exact own_go (fun t q => X.arraylength hx (by rw [eT]; exact A.1) (State.isArrayOf_alike hZ.alike A.2.1) (g := mkF m pc Ls (.ref a :: rest)) rfl rfl hd _ (by rw [len_of S M]; exact q)) k
theorem own_iaload (X : Stand p l e R s m args below meth c T locs cells slots) (hx : p.tables.exec = Jvm.exec) {pc pc' : Nat} {Ls : Array Slot} (hZ : Z.Warmed39 s.vm) {a : Addr} {cl : Cell} {j : Int32} {v : Int32} {rest : List Value} (eT : T.heap = h) (A : Arr Z h a cl .int) (hj : ¬ (j < 0 ∨ cl.slots.size ≤ j.toNatClampNeg)) (hv : cl.slots[j.toNatClampNeg]? = some (.int v)) (hd : decode c.code pc = .ok (.iaload, 1)) (hp : pc + 1 = pc') (k : own_G p.tables e below P T (mkF m pc' Ls ((.int v) :: rest))) : own_G p.tables e below P T (mkF m pc Ls (.int j :: .ref a :: rest)) := by
  subst hp; exact own_go (X.iaload hx (j := j) (v := (.int v)) (by rw [eT]; exact A.1) (State.isArrayOf_alike hZ.alike A.2.1) A.2.2 hj hv (g := mkF m pc Ls (.int j :: .ref a :: rest)) rfl rfl hd) k
theorem own_laload (X : Stand p l e R s m args below meth c T locs cells slots) (hx : p.tables.exec = Jvm.exec) {pc pc' : Nat} {Ls : Array Slot} (hZ : Z.Warmed39 s.vm) {a : Addr} {cl : Cell} {j : Int32} {v : Int64} {rest : List Value} (eT : T.heap = h) (A : Arr Z h a cl .long) (hj : ¬ (j < 0 ∨ cl.slots.size ≤ j.toNatClampNeg)) (hv : cl.slots[j.toNatClampNeg]? = some (.long v)) (hd : decode c.code pc = .ok (.laload, 1)) (hp : pc + 1 = pc') (k : own_G p.tables e below P T (mkF m pc' Ls ((.long v) :: rest))) : own_G p.tables e below P T (mkF m pc Ls (.int j :: .ref a :: rest)) := by
  subst hp; exact own_go (X.laload hx (j := j) (v := (.long v)) (by rw [eT]; exact A.1) (State.isArrayOf_alike hZ.alike A.2.1) A.2.2 hj hv (g := mkF m pc Ls (.int j :: .ref a :: rest)) rfl rfl hd) k
theorem own_baload (X : Stand p l e R s m args below meth c T locs cells slots) (hx : p.tables.exec = Jvm.exec) {pc pc' : Nat} {Ls : Array Slot} (hZ : Z.Warmed39 s.vm) {a : Addr} {cl : Cell} {j : Int32} {v : Int32} {rest : List Value} (eT : T.heap = h) (A : Arr Z h a cl .byte) (hj : ¬ (j < 0 ∨ cl.slots.size ≤ j.toNatClampNeg)) (hv : cl.slots[j.toNatClampNeg]? = some (.int v)) (hd : decode c.code pc = .ok (.baload, 1)) (hp : pc + 1 = pc') (k : own_G p.tables e below P T (mkF m pc' Ls ((.int v) :: rest))) : own_G p.tables e below P T (mkF m pc Ls (.int j :: .ref a :: rest)) := by
  subst hp; exact own_go (X.baloadBytes hx (j := j) (v := (.int v)) (by rw [eT]; exact A.1) (State.isArrayOf_alike hZ.alike A.2.1) A.2.2 hj hv (g := mkF m pc Ls (.int j :: .ref a :: rest)) rfl rfl hd) k
theorem own_caload (X : Stand p l e R s m args below meth c T locs cells slots) (hx : p.tables.exec = Jvm.exec) {pc pc' : Nat} {Ls : Array Slot} (hZ : Z.Warmed39 s.vm) {a : Addr} {cl : Cell} {j : Int32} {v : Int32} {rest : List Value} (eT : T.heap = h) (A : Arr Z h a cl .char) (hj : ¬ (j < 0 ∨ cl.slots.size ≤ j.toNatClampNeg)) (hv : cl.slots[j.toNatClampNeg]? = some (.int v)) (hd : decode c.code pc = .ok (.caload, 1)) (hp : pc + 1 = pc') (k : own_G p.tables e below P T (mkF m pc' Ls ((.int v) :: rest))) : own_G p.tables e below P T (mkF m pc Ls (.int j :: .ref a :: rest)) := by
  subst hp; exact own_go (X.caload hx (j := j) (v := (.int v)) (by rw [eT]; exact A.1) (State.isArrayOf_alike hZ.alike A.2.1) A.2.2 hj hv (g := mkF m pc Ls (.int j :: .ref a :: rest)) rfl rfl hd) k
theorem own_aaload (X : Stand p l e R s m args below meth c T locs cells slots) (hx : p.tables.exec = Jvm.exec) {pc pc' : Nat} {Ls : Array Slot} (hZ : Z.Warmed39 s.vm) {a : Addr} {cl : Cell} {ty : FieldType} {j : Int32} {v : Value} {rest : List Value} (eT : T.heap = h) (A : Arr Z h a cl ty) (hty : ty.isReference = true) (hj : ¬ (j < 0 ∨ cl.slots.size ≤ j.toNatClampNeg)) (hv : cl.slots[j.toNatClampNeg]? = some v) (hd : decode c.code pc = .ok (.aaload, 1)) (hp : pc + 1 = pc') (k : own_G p.tables e below P T (mkF m pc' Ls (v :: rest))) : own_G p.tables e below P T (mkF m pc Ls (.int j :: .ref a :: rest)) := by
  subst hp; exact own_go (X.aaload hx (j := j) (v := v) (by rw [eT]; exact A.1) (State.isArrayOf_alike hZ.alike A.2.1) hty A.2.2 hj hv (g := mkF m pc Ls (.int j :: .ref a :: rest)) rfl rfl hd) k
theorem own_stI (X : Stand p l e R s m args below meth c T locs cells slots) (hx : p.tables.exec = Jvm.exec) {pc pc' : Nat} {Ls : Array Slot} (hZ : Z.Warmed39 s.vm) {a : Addr} {cl : Cell} {j : Int32} {x : Int32} {rest : List Value} (eT : T.heap = h) (A : Arr Z h a cl .int) (hj : ¬ (j < 0 ∨ cl.slots.size ≤ j.toNatClampNeg)) (hd : decode c.code pc = .ok (.iastore, 1)) (hp : pc + 1 = pc') (k : ∀ T' h', Stand p l e R s m args below meth c T' (locs ++ [⟨a, j.toNatClampNeg⟩]) cells slots → T'.heap = h' → Wr h h' a j.toNatClampNeg (.int x) → own_G p.tables e below P T' (mkF m pc' Ls rest)) : own_G p.tables e below P T (mkF m pc Ls (.int x :: .int j :: .ref a :: rest)) := by
  subst hp; obtain ⟨T', h', X', e', W', st⟩ := stI X hx hZ eT A (j := j) hj (g := mkF m pc Ls (.int x :: .int j :: .ref a :: rest)) rfl rfl hd; exact own_go st (k T' h' X' e' W')
theorem own_stJ (X : Stand p l e R s m args below meth c T locs cells slots) (hx : p.tables.exec = Jvm.exec) {pc pc' : Nat} {Ls : Array Slot} (hZ : Z.Warmed39 s.vm) {a : Addr} {cl : Cell} {j : Int32} {x : Int64} {rest : List Value} (eT : T.heap = h) (A : Arr Z h a cl .long) (hj : ¬ (j < 0 ∨ cl.slots.size ≤ j.toNatClampNeg)) (hd : decode c.code pc = .ok (.lastore, 1)) (hp : pc + 1 = pc') (k : ∀ T' h', Stand p l e R s m args below meth c T' (locs ++ [⟨a, j.toNatClampNeg⟩]) cells slots → T'.heap = h' → Wr h h' a j.toNatClampNeg (.long x) → own_G p.tables e below P T' (mkF m pc' Ls rest)) : own_G p.tables e below P T (mkF m pc Ls (.long x :: .int j :: .ref a :: rest)) := by
  subst hp; obtain ⟨T', h', X', e', W', st⟩ := stJ X hx hZ eT A (j := j) hj (g := mkF m pc Ls (.long x :: .int j :: .ref a :: rest)) rfl rfl hd; exact own_go st (k T' h' X' e' W')
theorem own_stB (X : Stand p l e R s m args below meth c T locs cells slots) (hx : p.tables.exec = Jvm.exec) {pc pc' : Nat} {Ls : Array Slot} (hZ : Z.Warmed39 s.vm) {a : Addr} {cl : Cell} {j : Int32} {x : Int32} {rest : List Value} (eT : T.heap = h) (A : Arr Z h a cl .byte) (hj : ¬ (j < 0 ∨ cl.slots.size ≤ j.toNatClampNeg)) (hd : decode c.code pc = .ok (.bastore, 1)) (hp : pc + 1 = pc') (k : ∀ T' h', Stand p l e R s m args below meth c T' (locs ++ [⟨a, j.toNatClampNeg⟩]) cells slots → T'.heap = h' → Wr h h' a j.toNatClampNeg (.int (nar .byte x)) → own_G p.tables e below P T' (mkF m pc' Ls rest)) : own_G p.tables e below P T (mkF m pc Ls (.int x :: .int j :: .ref a :: rest)) := by
  subst hp; obtain ⟨T', h', X', e', W', st⟩ := stB X hx hZ eT A (j := j) hj (g := mkF m pc Ls (.int x :: .int j :: .ref a :: rest)) rfl rfl hd; exact own_go st (k T' h' X' e' W')
theorem own_stC (X : Stand p l e R s m args below meth c T locs cells slots) (hx : p.tables.exec = Jvm.exec) {pc pc' : Nat} {Ls : Array Slot} (hZ : Z.Warmed39 s.vm) {a : Addr} {cl : Cell} {j : Int32} {x : Int32} {rest : List Value} (eT : T.heap = h) (A : Arr Z h a cl .char) (hj : ¬ (j < 0 ∨ cl.slots.size ≤ j.toNatClampNeg)) (hd : decode c.code pc = .ok (.castore, 1)) (hp : pc + 1 = pc') (k : ∀ T' h', Stand p l e R s m args below meth c T' (locs ++ [⟨a, j.toNatClampNeg⟩]) cells slots → T'.heap = h' → Wr h h' a j.toNatClampNeg (.int (nar .char x)) → own_G p.tables e below P T' (mkF m pc' Ls rest)) : own_G p.tables e below P T (mkF m pc Ls (.int x :: .int j :: .ref a :: rest)) := by
  subst hp; obtain ⟨T', h', X', e', W', st⟩ := stC X hx hZ eT A (j := j) hj (g := mkF m pc Ls (.int x :: .int j :: .ref a :: rest)) rfl rfl hd; exact own_go st (k T' h' X' e' W')
theorem own_stR (X : Stand p l e R s m args below meth c T locs cells slots) (hx : p.tables.exec = Jvm.exec) {pc pc' : Nat} {Ls : Array Slot} (hZ : Z.Warmed39 s.vm) {a : Addr} {cl : Cell} {j : Int32} {x : Value} {ty : FieldType} {rest : List Value} (eT : T.heap = h) (A : Arr Z h a cl ty) (hj : ¬ (j < 0 ∨ cl.slots.size ≤ j.toNatClampNeg)) (hty : ty.isReference = true) (F : Sto Z h a x) (hd : decode c.code pc = .ok (.aastore, 1)) (hp : pc + 1 = pc') (k : ∀ T' h', Stand p l e R s m args below meth c T' (locs ++ [⟨a, j.toNatClampNeg⟩]) cells slots → T'.heap = h' → Wr h h' a j.toNatClampNeg x → own_G p.tables e below P T' (mkF m pc' Ls rest)) : own_G p.tables e below P T (mkF m pc Ls (x :: .int j :: .ref a :: rest)) := by
  subst hp; obtain ⟨T', h', X', e', W', st⟩ := stR X hx hZ eT A (j := j) hj hty F (g := mkF m pc Ls (x :: .int j :: .ref a :: rest)) rfl rfl hd; exact own_go st (k T' h' X' e' W')
theorem own_putF (X : Stand p l e R s m args below meth c T locs cells slots) (hx : p.tables.exec = Jvm.exec) {pc pc' : Nat} {Ls : Array Slot} (hZ : Z.Warmed39 s.vm) {own R0 O n d host C : String} {idx kk : Nat} {ty : FieldType} {a : Addr} {v old : Value} {rest : List Value} (hown : s.vm.findClass own = some m.cls) (w : (Cond.fieldLink own idx R0 n d).before a0 Z = true ∨ (Cond.fieldLinkNest own idx R0 n d host).before a0 Z = true) (via : Via Z R0 O n d) (eT : T.heap = h) (F : Fld Z h a O n d old) (E : Exa Z h a C) (L : (Cond.lays C O n d).before a0 Z = true ∨ ((Cond.laysFinal C O n d).before a0 Z = true ∧ own = O ∧ meth.name = "<init>")) (wi : (Cond.instantiable C kk).before a0 Z = true) (hty : parseFieldDescriptor d = some ty) (hn : narrow ty v = v) (hf : fits ty v = true) (hd : decode c.code pc = .ok (.putfield idx, 3)) (hp : pc + 3 = pc') (k : ∀ T' h', Stand p l e R s m args below meth c T' (locs ++ [⟨a, Jvm.RoadKit.slotOf Z O n d⟩]) cells slots → T'.heap = h' → Wr h h' a (Jvm.RoadKit.slotOf Z O n d) v → own_G p.tables e below P T' (mkF m pc' Ls rest)) : own_G p.tables e below P T (mkF m pc Ls (v :: .ref a :: rest)) := by
  subst hp; obtain ⟨T', h', X', e', W', st⟩ := putF X hx hZ hown w via eT F E L wi hty hn hf (g := mkF m pc Ls (v :: .ref a :: rest)) rfl rfl hd; exact own_go st (k T' h' X' e' W')
theorem own_putFN (X : Stand p l e R s m args below meth c T locs cells slots) (hx : p.tables.exec = Jvm.exec) {pc pc' : Nat} {Ls : Array Slot} (hZ : Z.Warmed39 s.vm) {own R0 O n d C : String} {idx kk : Nat} {ty : FieldType} {a : Addr} {v old : Value} (v' : Value) {rest : List Value} (hown : s.vm.findClass own = some m.cls) (w : (Cond.fieldLink own idx R0 n d).before a0 Z = true) (via : Via Z R0 O n d) (eT : T.heap = h) (F : Fld Z h a O n d old) (E : Exa Z h a C) (L : (Cond.lays C O n d).before a0 Z = true ∨ ((Cond.laysFinal C O n d).before a0 Z = true ∧ own = O ∧ meth.name = "<init>")) (wi : (Cond.instantiable C kk).before a0 Z = true) (hty : parseFieldDescriptor d = some ty) (hn : narrow ty v = v') (hf : fits ty v' = true) (hd : decode c.code pc = .ok (.putfield idx, 3)) (hp : pc + 3 = pc') (k : ∀ T' h', Stand p l e R s m args below meth c T' (locs ++ [⟨a, Jvm.RoadKit.slotOf Z O n d⟩]) cells slots → T'.heap = h' → Wr h h' a (Jvm.RoadKit.slotOf Z O n d) v' → own_G p.tables e below P T' (mkF m pc' Ls rest)) : own_G p.tables e below P T (mkF m pc Ls (v :: .ref a :: rest)) := by
  subst hp; obtain ⟨T', h', X', e', W', st⟩ := putFN X hx hZ hown w via eT F E L wi hty hn hf (g := mkF m pc Ls (v :: .ref a :: rest)) rfl rfl hd; exact own_go st (k T' h' X' e' W')
theorem own_new (X : Stand p l e R s m args below meth c T locs cells slots) (hx : p.tables.exec = Jvm.exec) {pc pc' : Nat} {Ls : Array Slot} (hZ : Z.Warmed39 s.vm) {own C : String} {idx n : Nat} {st : List Value} (hown : s.vm.findClass own = some m.cls) (w : (Cond.classLink own idx C).before a0 Z = true) (wi : (Cond.instantiable C n).before a0 Z = true) (wz : (Cond.initialized C).before a0 Z = true) (eT : T.heap = h) (hd : decode c.code pc = .ok (.new idx, 3)) (hc : cells + 1 ≤ R.cells) (hl : slots + n ≤ R.slots) (hp : pc + 3 = pc') (k : ∀ T' h' b, b = h.size → Stand p l e R s m args below meth c T' locs (cells + 1) (slots + n) → T'.heap = h' → Ext h h' → Exa Z h' b C → (∀ {O nm d : String} {ty : FieldType}, Laid Z a0 C O nm d → parseFieldDescriptor d = some ty → Fld Z h' b O nm d (defaultValue ty)) → own_G p.tables e below P T' (mkF m pc' Ls (.ref b :: st))) : own_G p.tables e below P T (mkF m pc Ls st) := by
  subst hp; obtain ⟨T', h', X', e', E', A', D', -, stp⟩ := newO X hx hZ hown w wi wz eT (g := mkF m pc Ls st) rfl hd hc hl; exact own_go stp (k T' h' _ rfl X' e' E' A' D')
theorem own_newP (X : Stand p l e R s m args below meth c T locs cells slots) (hx : p.tables.exec = Jvm.exec) {pc pc' : Nat} {Ls : Array Slot} (hZ : Z.Warmed39 s.vm) {aty : ArrayType} {z : Int32} {rest : List Value} (w : (Cond.arrayClass (newarray.typeOf aty)).before a0 Z = true) (eT : T.heap = h) (hd : decode c.code pc = .ok (.newarray aty, 2)) (hn : ¬ z < 0) (cap : Nat) (hcap : z.toNatClampNeg ≤ cap) (hb : cap * 8 ≤ 536870912) (hc : cells + 1 ≤ R.cells) (hl : slots + cap ≤ R.slots) (hp : pc + 2 = pc') (k : ∀ T' h' cA b, b = h.size → Stand p l e R s m args below meth c T' locs (cells + 1) (slots + cap) → T'.heap = h' → Ext h h' → Arr Z h' b (newA cA (newarray.typeOf aty) z) (newarray.typeOf aty) → own_G p.tables e below P T' (mkF m pc' Ls (.ref b :: rest))) : own_G p.tables e below P T (mkF m pc Ls (.int z :: rest)) := by
  subst hp; obtain ⟨T', h', cA, X', e', E', A', stp⟩ := newP X hx hZ w eT (g := mkF m pc Ls (.int z :: rest)) rfl hd rfl hn hcap hb hc hl; exact own_go stp (k T' h' cA _ rfl X' e' E' A')
theorem own_newR (X : Stand p l e R s m args below meth c T locs cells slots) (hx : p.tables.exec = Jvm.exec) {pc pc' : Nat} {Ls : Array Slot} (hZ : Z.Warmed39 s.vm) {own C : String} {idx : Nat} {z : Int32} {rest : List Value} (hown : s.vm.findClass own = some m.cls) (w1 : (Cond.classLink own idx C).before a0 Z = true) (w2 : (Cond.arrayOver (.object C)).before a0 Z = true) (eT : T.heap = h) (hd : decode c.code pc = .ok (.anewarray idx, 3)) (hn : ¬ z < 0) (cap : Nat) (hcap : z.toNatClampNeg ≤ cap) (hb : cap * 8 ≤ 536870912) (hc : cells + 1 ≤ R.cells) (hl : slots + cap ≤ R.slots) (hp : pc + 3 = pc') (k : ∀ T' h' cA b, b = h.size → Stand p l e R s m args below meth c T' locs (cells + 1) (slots + cap) → T'.heap = h' → Ext h h' → Arr Z h' b (newA cA (.object C) z) (.object C) → Ovr Z cA C → own_G p.tables e below P T' (mkF m pc' Ls (.ref b :: rest))) : own_G p.tables e below P T (mkF m pc Ls (.int z :: rest)) := by
  subst hp; obtain ⟨T', h', cA, X', e', E', A', O', stp⟩ := newR X hx hZ hown w1 w2 eT (g := mkF m pc Ls (.int z :: rest)) rfl hd rfl hn hcap hb hc hl; exact own_go stp (k T' h' cA _ rfl X' e' E' A' O')
theorem own_initO (X : Stand p l e R s m args below meth c T locs cells slots) (hx : p.tables.exec = Jvm.exec) {pc pc' : Nat} {Ls : Array Slot} (hZ : Z.Warmed39 s.vm) {own : String} {idx : Nat} {a : Addr} {rest : List Value} (hown : s.vm.findClass own = some m.cls) (w1 : (Cond.methodLink own idx Lib.objectInit).before a0 Z = true) (w2 : (Cond.instanceMethod Lib.objectInit).before a0 Z = true) (w3 : (Cond.code Lib.objectInit ⟨#[0xb1]⟩ 1 none).before a0 Z = true) (eT : T.heap = h) (hsz : Ls.size = c.maxLocals) (hd : decode c.code pc = .ok (.invokespecial idx, 3)) (hf : 1 ≤ R.frames) (W : Nat) (hW : 2 * 0 + (rest.map fun v => v.category).sum ≤ W) (hl : W + 12 ≤ R.locals) (hp : pc + 3 = pc') (k : ∀ T', Stand p l e R s m args below meth c T' locs cells slots → T'.heap = h → own_G p.tables e below P T' (mkF m pc' Ls rest)) : own_G p.tables e below P T (mkF m pc Ls (.ref a :: rest)) := by
  subst hp; obtain ⟨T', X', e', st⟩ := initO X hx hZ hown w1 w2 w3 eT (g := mkF m pc Ls (.ref a :: rest)) rfl hsz rfl hd hf hW hl; exact own_go st (k T' X' e')
theorem own_callS (X : Stand p l e R s m args below meth c T locs cells slots) (hx : p.tables.exec = Jvm.exec) {pc pc' : Nat} {Ls : Array Slot} (hZ : Z.Warmed39 s.vm) {own : String} {idx : Nat} {y : MethodName} {bytes : ByteArray} {maxL : Nat} {ret : Option FieldType} {rm : Room} {as' : Array Value} {Q : Option Value → Heap → List Loc → Prop} (hown : s.vm.findClass own = some m.cls) (w1 : (Cond.methodLink own idx y).before a0 Z = true) (w2 : (Cond.static y).before a0 Z = true) (w3 : (Cond.initialized y.cls).before a0 Z = true) (w4 : (Cond.code y bytes maxL ret).before a0 Z = true) (hy : y.cls ≠ "java/lang/invoke/MethodHandle" ∧ y.cls ≠ "java/lang/invoke/VarHandle") (hM : MetFree l y (head1 [Cond.code y bytes maxL ret] rm) (fun a U => a = as' ∧ Z.Warmed39 U.vm ∧ U.heap = h) (fun _ _ _ _ _ => True) (fun _ U o U' => ∃ v L, o = .returned v ∧ Q v U'.heap L ∧ FrameEnd U o U' L rm.cells rm.slots)) (eT : T.heap = h) (W : Nat) (hf : rm.frames + 1 ≤ R.frames) (hl : W + (maxL + 11) + rm.locals ≤ R.locals) (hc : cells + rm.cells ≤ R.cells) (hsl : slots + rm.slots ≤ R.slots) {st : List Value} (argsL rest : List Value) (hsz : Ls.size = c.maxLocals) (hlen : ∀ sig, parseMethodDescriptor y.desc = some sig → argsL.length = sig.parameters.length) (has : argsL.toArray = as') (hst : st = argsL.reverse ++ rest) (hW : 2 * 0 + (rest.map fun v => v.category).sum ≤ W) (hd : decode c.code pc = .ok (.invokestatic idx, 3)) (hp : pc + 3 = pc') (k : ∀ v T' L, Stand p l e R s m args below meth c T' (locs ++ L) (cells + rm.cells) (slots + rm.slots) → Q v T'.heap L → own_G p.tables e below P T' (mkF m pc' Ls (v.toList ++ rest))) : own_G p.tables e below P T (mkF m pc Ls st) := by
  subst hp
  obtain ⟨v, vm, ⟨T', L', k', n'⟩, -, X', ⟨L, hQ, l', y', z'⟩, stp⟩ := Jvm.LawKit.callS X hx (y := y) hown (mvT hZ w1) (mvT hZ w2) (mvT hZ w3) (mvT hZ w4) hy (backOf (W := W) hM hZ w4 w3 hf hl) (g := mkF m pc Ls st) rfl hsz (argsL := argsL) (rest := rest) hlen hst hW hd (fun _ _ => ⟨has, eT, hc, hsl⟩)
  dsimp only [Pt.U, Pt.locs, Pt.cells, Pt.slots] at X' l' y' z' stp hQ
  subst l' y' z'
  exact own_go stp (k v T' L X' hQ)
theorem own_callV (X : Stand p l e R s m args below meth c T locs cells slots) (hx : p.tables.exec = Jvm.exec) {pc pc' : Nat} {Ls : Array Slot} (hZ : Z.Warmed39 s.vm) {own C : String} {idx : Nat} {y : MethodName} {bytes : ByteArray} {maxL : Nat} {ret : Option FieldType} {rm : Room} {as' : Array Value} {Q : Option Value → Heap → List Loc → Prop} (hown : s.vm.findClass own = some m.cls) (w1 : (Cond.methodLink own idx y).before a0 Z = true) (w2 : (Cond.instanceMethod y).before a0 Z = true) (w3 : (Cond.selects C y y).before a0 Z = true) (w4 : (Cond.code y bytes maxL ret).before a0 Z = true) (w5 : (Cond.initialized y.cls).before a0 Z = true) (hy : y.cls ≠ "java/lang/invoke/MethodHandle" ∧ y.cls ≠ "java/lang/invoke/VarHandle") (hM : MetFree l y (head1 [Cond.code y bytes maxL ret] rm) (fun a U => a = as' ∧ Z.Warmed39 U.vm ∧ U.heap = h) (fun _ _ _ _ _ => True) (fun _ U o U' => ∃ v L, o = .returned v ∧ Q v U'.heap L ∧ FrameEnd U o U' L rm.cells rm.slots)) (eT : T.heap = h) {b : Addr} (E : Exa Z h b C) (W : Nat) (hf : rm.frames + 1 ≤ R.frames) (hl : W + (maxL + 11) + rm.locals ≤ R.locals) (hc : cells + rm.cells ≤ R.cells) (hsl : slots + rm.slots ≤ R.slots) {st : List Value} (argsL rest : List Value) (hsz : Ls.size = c.maxLocals) (hlen : ∀ sig, parseMethodDescriptor y.desc = some sig → argsL.length = sig.parameters.length) (has : (Value.ref b :: argsL).toArray = as') (hst : st = argsL.reverse ++ .ref b :: rest) (hW : 2 * 0 + (rest.map fun v => v.category).sum ≤ W) (hd : decode c.code pc = .ok (.invokevirtual idx, 3)) (hp : pc + 3 = pc') (k : ∀ v T' L, Stand p l e R s m args below meth c T' (locs ++ L) (cells + rm.cells) (slots + rm.slots) → Q v T'.heap L → own_G p.tables e below P T' (mkF m pc' Ls (v.toList ++ rest))) : own_G p.tables e below P T (mkF m pc Ls st) := by
  subst hp
  obtain ⟨cell, kc, q1, q2, q3, q4, -⟩ := E
  obtain ⟨v, vm, ⟨T', L', k', n'⟩, -, X', ⟨L, hQ, l', y', z'⟩, stp⟩ := Jvm.LawKit.callV X hx (y := y) (C := C) hown (mvT hZ w1) (mvT hZ w2) (mvT hZ w3) (mvT hZ w4) hy (backOf (W := W) hM hZ w4 w5 hf hl) (b := b) (cellB := cell) (by rw [eT]; exact q1) q4 (by rw [hZ.alike.findClass]; exact q2) (g := mkF m pc Ls st) rfl hsz (argsL := argsL) (rest := rest) hlen hst hW hd (fun _ _ => ⟨has, eT, hc, hsl⟩)
  dsimp only [Pt.U, Pt.locs, Pt.cells, Pt.slots] at X' l' y' z' stp hQ
  subst l' y' z'
  exact own_go stp (k v T' L X' hQ)
theorem own_callI (X : Stand p l e R s m args below meth c T locs cells slots) (hx : p.tables.exec = Jvm.exec) {pc pc' : Nat} {Ls : Array Slot} (hZ : Z.Warmed39 s.vm) {own : String} {idx : Nat} {y : MethodName} {bytes : ByteArray} {maxL : Nat} {rm : Room} {as' : Array Value} {Q : Option Value → Heap → List Loc → Prop} (hy1 : y.name = "<init>") (hown : s.vm.findClass own = some m.cls) (w1 : (Cond.methodLink own idx y).before a0 Z = true) (w2 : (Cond.instanceMethod y).before a0 Z = true) (w4 : (Cond.code y bytes maxL none).before a0 Z = true) (w5 : (Cond.initialized y.cls).before a0 Z = true) (hy : y.cls ≠ "java/lang/invoke/MethodHandle" ∧ y.cls ≠ "java/lang/invoke/VarHandle") (hM : MetFree l y (head1 [Cond.code y bytes maxL none] rm) (fun a U => a = as' ∧ Z.Warmed39 U.vm ∧ U.heap = h) (fun _ _ _ _ _ => True) (fun _ U o U' => ∃ v L, o = .returned v ∧ Q v U'.heap L ∧ FrameEnd U o U' L rm.cells rm.slots)) (eT : T.heap = h) {b : Addr} (W : Nat) (hf : rm.frames + 1 ≤ R.frames) (hl : W + (maxL + 11) + rm.locals ≤ R.locals) (hc : cells + rm.cells ≤ R.cells) (hsl : slots + rm.slots ≤ R.slots) {st : List Value} (argsL rest : List Value) (hsz : Ls.size = c.maxLocals) (hlen : ∀ sig, parseMethodDescriptor y.desc = some sig → argsL.length = sig.parameters.length) (has : (Value.ref b :: argsL).toArray = as') (hst : st = argsL.reverse ++ .ref b :: rest) (hW : 2 * 0 + (rest.map fun v => v.category).sum ≤ W) (hd : decode c.code pc = .ok (.invokespecial idx, 3)) (hp : pc + 3 = pc') (k : ∀ v T' L, Stand p l e R s m args below meth c T' (locs ++ L) (cells + rm.cells) (slots + rm.slots) → Q v T'.heap L → own_G p.tables e below P T' (mkF m pc' Ls (v.toList ++ rest))) : own_G p.tables e below P T (mkF m pc Ls st) := by
  subst hp
  obtain ⟨v, vm, ⟨T', L', k', n'⟩, -, X', ⟨L, hQ, l', y', z'⟩, stp⟩ := Jvm.LawKit.callI X hx (y := y) hown hy1 (mvT hZ w1) (mvT hZ w2) (mvT hZ w4) hy (backOf (W := W) hM hZ w4 w5 hf hl) (g := mkF m pc Ls st) rfl hsz (a := b) (argsL := argsL) (rest := rest) hlen hst hW hd (fun _ _ => ⟨has, eT, hc, hsl⟩)
  dsimp only [Pt.U, Pt.locs, Pt.cells, Pt.slots] at X' l' y' z' stp hQ
  subst l' y' z'
  exact own_go stp (k v T' L X' hQ)
theorem own_dupX2 (X : Stand p l e R s m args below meth c T locs cells slots) (hx : p.tables.exec = Jvm.exec) {pc pc' : Nat} {Ls : Array Slot} {x j : Int32} {a : Addr} {rest : List Value} (hd : decode c.code pc = .ok (.dup_x2, 1)) (hp : pc + 1 = pc') (k : own_G p.tables e below P T (mkF m pc' Ls (.int x :: .int j :: .ref a :: .int x :: rest))) : own_G p.tables e below P T (mkF m pc Ls (.int x :: .int j :: .ref a :: rest)) := by
  subst hp
  refine own_go (fun t q => ?_) k
  jvm_step X.here [X.here.top, hx, hd, Value.category]
  exact q
theorem own_callP (X : Stand p l e R s m args below meth c T locs cells slots) (hx : p.tables.exec = Jvm.exec) {pc pc' : Nat} {Ls : Array Slot} (hZ : Z.Warmed39 s.vm) {own C : String} {idx nn : Nat} {y : MethodName} {bytes : ByteArray} {maxL : Nat} {ret : Option FieldType} {rm : Room} {as' : Array Value} {Q : Option Value → Heap → List Loc → Prop} (hown : s.vm.findClass own = some m.cls) (w1 : (Cond.methodLink own idx y).before a0 Z = true) (w2 : (Cond.instanceMethod y).before a0 Z = true) (w3 : (Cond.privateMethod y).before a0 Z = true) (w4 : (Cond.code y bytes maxL ret).before a0 Z = true) (w5 : (Cond.initialized y.cls).before a0 Z = true) (w6 : (Cond.instantiable y.cls nn).before a0 Z = true) (hy : y.cls ≠ "java/lang/invoke/MethodHandle" ∧ y.cls ≠ "java/lang/invoke/VarHandle") (hM : MetFree l y (head1 [Cond.code y bytes maxL ret] rm) (fun a U => a = as' ∧ Z.Warmed39 U.vm ∧ U.heap = h) (fun _ _ _ _ _ => True) (fun _ U o U' => ∃ v L, o = .returned v ∧ Q v U'.heap L ∧ FrameEnd U o U' L rm.cells rm.slots)) (eT : T.heap = h) {b : Addr} (E : Exa Z h b C) (W : Nat) (hf : rm.frames + 1 ≤ R.frames) (hl : W + (maxL + 11) + rm.locals ≤ R.locals) (hc : cells + rm.cells ≤ R.cells) (hsl : slots + rm.slots ≤ R.slots) {st : List Value} (argsL rest : List Value) (hsz : Ls.size = c.maxLocals) (hlen : ∀ sig, parseMethodDescriptor y.desc = some sig → argsL.length = sig.parameters.length) (has : (Value.ref b :: argsL).toArray = as') (hst : st = argsL.reverse ++ .ref b :: rest) (hW : 2 * 0 + (rest.map fun v => v.category).sum ≤ W) (hd : decode c.code pc = .ok (.invokevirtual idx, 3)) (hp : pc + 3 = pc') (k : ∀ v T' L, Stand p l e R s m args below meth c T' (locs ++ L) (cells + rm.cells) (slots + rm.slots) → Q v T'.heap L → own_G p.tables e below P T' (mkF m pc' Ls (v.toList ++ rest))) : own_G p.tables e below P T (mkF m pc Ls st) := by
  subst hp
  obtain ⟨cell, q1, q2⟩ := E.cell
  obtain ⟨cc, kk, i1, i2, -, i4, -⟩ := Cond.instantiable_spec (mvT hZ w6 (args := args))
  have hpv := Cond.privateMethod_at (mvP hZ w3 (args := args))
  obtain ⟨v, vm, ⟨T', L', k', n'⟩, -, X', ⟨L, hQ, l', y', z'⟩, stp⟩ := X.privateBack hx (y := y) hown (mvT hZ w1) (mvT hZ w2) (Jvm.Stand.selects_self_of_private i1 i2 (Bool.or_eq_false_iff.mp i4).1 hpv (mvT hZ w2) hy) hpv (mvT hZ w4) hy (backOf (W := W) hM hZ w4 w5 hf hl) (g := mkF m pc Ls st) rfl hsz (Steps.refl _) (a := b) (cell := cell) (by rw [eT]; exact q1) q2 (argsL := argsL) (rest := rest) hlen hst hW hd (fun _ _ => ⟨has, eT, hc, hsl⟩)
  dsimp only [Pt.U, Pt.locs, Pt.cells, Pt.slots] at X' l' y' z' stp hQ
  subst l' y' z'
  exact own_go (fun t q => stp.trans q) (k v T' L X' hQ)
theorem own_fldI {u : Term} {C n d : String} {x : Addr} {z : Int32} (ht : u.eval args s none [] s = some (.ref x)) (hq : (Jvm.Cond.eq (.field u C n d) (.int z)).value args s none s [] = some true) : Fld s s.heap x C n d (.int z) :=
  Fld.start ((fld_at ht).symm.trans (Cond.eq_int (Cond.before_iff.mpr hq) rfl))
theorem own_fldR {u t : Term} {C n d : String} {x y : Addr} (ht : u.eval args s none [] s = some (.ref x)) (hu : t.eval args s none [] s = some (.ref y)) (hq : (Jvm.Cond.eq (.field u C n d) t).value args s none s [] = some true) : Fld s s.heap x C n d (.ref y) :=
  Fld.start ((fld_at ht).symm.trans (Cond.eq_refs (Cond.before_iff.mpr hq) hu rfl))
theorem own_none {u : Term} {x : Addr} {cl : Cell} (A : Arr s s.heap x cl .int) (ht : u.eval args s none [] s = some (.ref x)) (hq : (Jvm.Cond.eq (.length u) (.int 0)).value args s none s [] = some true) : Arv s s.heap x cl.cls .int (0 : Int32) [] (.int (0 : Int32)) := by
  have e1 := Cond.eq_int (Cond.before_iff.mpr hq) (n := 0) rfl
  obtain ⟨sd, SA, hev, harrAt, -⟩ := Term.length_spec e1
  have h31 := SBG.length_lt hev harrAt e1
  cases ht.symm.trans hev
  cases (Arr.fin (Vm.Alike.refl _) A).symm.trans harrAt
  have e2 := len_f ht harrAt h31
  have e3 : cl.slots.size.toInt32 = (0 : Int32) := by simpa using Option.some.inj (e2.symm.trans e1)
  have e4 : cl.slots.size = 0 := by
    have e5 := congrArg Int32.toInt e3
    rw [len_toInt h31] at e5
    have e6 : ((0 : Int32)).toInt = 0 := by decide
    omega
  exact ⟨cl, A, rfl, e4, by decide, fun k hk => by omega, fun i hi => by omega⟩
end OwnKit
section OwnFp
variable {p : Program} {l : Launch} {e : Env} {R : Room} {s : State} {m : MethodId} {args : Array Value} {below : List Frame} {meth : Method} {c : Code} {T : State} {locs : List Loc} {cells slots : Nat} {Z : State} {a0 : Array Value} {h h' : Heap} {P : Outcome → State → Prop}
theorem own_i2d (X : Stand p l e R s m args below meth c T locs cells slots) (hx : p.tables.exec = Jvm.exec) {pc pc' : Nat} {Ls : Array Slot} {x : Int32} {rest : List Value} (hd : decode c.code pc = .ok (.i2d, 1)) (hp : pc + 1 = pc') (k : own_G p.tables e below P T (mkF m pc' Ls (.double (FP.i2d x) :: rest))) : own_G p.tables e below P T (mkF m pc Ls (.int x :: rest)) := by
  subst hp; exact own_go (fun t q => XS.i2dS X.here hx rfl hd rfl rfl q) k
theorem own_dadd (X : Stand p l e R s m args below meth c T locs cells slots) (hx : p.tables.exec = Jvm.exec) {pc pc' : Nat} {Ls : Array Slot} {x y : UInt64} {rest : List Value} (hd : decode c.code pc = .ok (.dadd, 1)) (hn : Jvm.Free.Fl.NoNaN64 (FP.dadd x y)) (hp : pc + 1 = pc') (k : own_G p.tables e below P T (mkF m pc' Ls (.double (FP.dadd x y) :: rest))) : own_G p.tables e below P T (mkF m pc Ls (.double y :: .double x :: rest)) := by
  subst hp; exact own_go (fun t q => XS.daddS X.here hx rfl hd rfl hn rfl q) k
theorem own_dcmp (X : Stand p l e R s m args below meth c T locs cells slots) (hx : p.tables.exec = Jvm.exec) {pc pc' : Nat} {Ls : Array Slot} {o : CmpOp} {x y : UInt64} (v : Int32) {rest : List Value} (hd : decode c.code pc = .ok (.dcmp o, 1)) (hv : cmpValue (FP.dcmp x y) o = v) (hp : pc + 1 = pc') (k : own_G p.tables e below P T (mkF m pc' Ls (.int v :: rest))) : own_G p.tables e below P T (mkF m pc Ls (.double y :: .double x :: rest)) := by
  subst hp; exact own_go (fun t q => XS.dcmpS X.here hx rfl hd rfl hv q) k
theorem own_dconst0 (X : Stand p l e R s m args below meth c T locs cells slots) (hx : p.tables.exec = Jvm.exec) {pc pc' : Nat} {Ls : Array Slot} {st : List Value} (hd : decode c.code pc = .ok (.dconst 0, 1)) (hp : pc + 1 = pc') (k : own_G p.tables e below P T (mkF m pc' Ls (.double FP.dconst0 :: st))) : own_G p.tables e below P T (mkF m pc Ls (st)) := by
  subst hp; exact own_go (fun t q => XS.dconst0 X.here hx rfl hd rfl q) k
theorem own_dconst1 (X : Stand p l e R s m args below meth c T locs cells slots) (hx : p.tables.exec = Jvm.exec) {pc pc' : Nat} {Ls : Array Slot} {st : List Value} (hd : decode c.code pc = .ok (.dconst 1, 1)) (hp : pc + 1 = pc') (k : own_G p.tables e below P T (mkF m pc' Ls (.double FP.dconst1 :: st))) : own_G p.tables e below P T (mkF m pc Ls (st)) := by
  subst hp; exact own_go (fun t q => XS.dconst1 X.here hx rfl hd rfl q) k
theorem own_dloadN (X : Stand p l e R s m args below meth c T locs cells slots) (hx : p.tables.exec = Jvm.exec) {pc pc' : Nat} {Ls : Array Slot} {j : Fin 4} {v : UInt64} {st : List Value} (hd : decode c.code pc = .ok (.dload_n j, 1)) (hl : Ls[j.val]? = some (.val (.double v))) (hp : pc + 1 = pc') (k : own_G p.tables e below P T (mkF m pc' Ls (.double v :: st))) : own_G p.tables e below P T (mkF m pc Ls (st)) := by
  subst hp; exact own_go (fun t q => XS.dloadN X.here hx rfl hd hl q) k
theorem own_dstoreN (X : Stand p l e R s m args below meth c T locs cells slots) (hx : p.tables.exec = Jvm.exec) {pc pc' : Nat} {Ls : Array Slot} {j : Fin 4} {v : UInt64} {rest : List Value} {Ls' : Array Slot} (hd : decode c.code pc = .ok (.dstore_n j, 1)) (hl : storeLocals Ls j.val (.double v) = some Ls') (hp : pc + 1 = pc') (k : own_G p.tables e below P T (mkF m pc' Ls' (rest))) : own_G p.tables e below P T (mkF m pc Ls (.double v :: rest)) := by
  subst hp; exact own_go (fun t q => XS.dstoreN X.here hx rfl hd rfl hl q) k
theorem own_dload (X : Stand p l e R s m args below meth c T locs cells slots) (hx : p.tables.exec = Jvm.exec) {pc pc' : Nat} {Ls : Array Slot} {j : Nat} {v : UInt64} {st : List Value} (hd : decode c.code pc = .ok (.dload j, 2)) (hl : Ls[j]? = some (.val (.double v))) (hp : pc + 2 = pc') (k : own_G p.tables e below P T (mkF m pc' Ls (.double v :: st))) : own_G p.tables e below P T (mkF m pc Ls (st)) := by
  subst hp; exact own_go (fun t q => XS.dload X.here hx rfl hd hl q) k
theorem own_dstore (X : Stand p l e R s m args below meth c T locs cells slots) (hx : p.tables.exec = Jvm.exec) {pc pc' : Nat} {Ls : Array Slot} {j : Nat} {v : UInt64} {rest : List Value} {Ls' : Array Slot} (hd : decode c.code pc = .ok (.dstore j, 2)) (hl : storeLocals Ls j (.double v) = some Ls') (hp : pc + 2 = pc') (k : own_G p.tables e below P T (mkF m pc' Ls' (rest))) : own_G p.tables e below P T (mkF m pc Ls (.double v :: rest)) := by
  subst hp; exact own_go (fun t q => XS.dstore X.here hx rfl hd rfl hl q) k
theorem own_ldc2D (X : Stand p l e R s m args below meth c T locs cells slots) (hx : p.tables.exec = Jvm.exec) {pc pc' : Nat} {Ls : Array Slot} (hZ : Z.Warmed39 s.vm) {own : String} {idx : Nat} {z : UInt64} {st : List Value} (hown : s.vm.findClass own = some m.cls) (w : (Jvm.Cond.constantDouble own idx z).before a0 Z = true) (hd : decode c.code pc = .ok (.ldc2_w idx, 3)) (hp : pc + 3 = pc') (k : own_G p.tables e below P T (mkF m pc' Ls (.double z :: st))) : own_G p.tables e below P T (mkF m pc Ls st) := by
  subst hp; exact own_go (X.ldc2DoubleC hx hown (mvT hZ w) (g := mkF m pc Ls st) rfl hd) k
theorem own_daload (X : Stand p l e R s m args below meth c T locs cells slots) (hx : p.tables.exec = Jvm.exec) {pc pc' : Nat} {Ls : Array Slot} (hZ : Z.Warmed39 s.vm) {a : Addr} {cl : Cell} {j : Int32} {v : UInt64} {rest : List Value} (eT : T.heap = h) (A : Arr Z h a cl .double) (hj : ¬ (j < 0 ∨ cl.slots.size ≤ j.toNatClampNeg)) (hv : cl.slots[j.toNatClampNeg]? = some (.double v)) (hd : decode c.code pc = .ok (.daload, 1)) (hp : pc + 1 = pc') (k : own_G p.tables e below P T (mkF m pc' Ls (.double v :: rest))) : own_G p.tables e below P T (mkF m pc Ls (.int j :: .ref a :: rest)) := by
  subst hp; exact own_go (X.daload hx (j := j) (v := .double v) (by rw [eT]; exact A.1) (State.isArrayOf_alike hZ.alike A.2.1) A.2.2 hj hv (g := mkF m pc Ls (.int j :: .ref a :: rest)) rfl rfl hd) k
theorem own_stD (X : Stand p l e R s m args below meth c T locs cells slots) (hx : p.tables.exec = Jvm.exec) {pc pc' : Nat} {Ls : Array Slot} (hZ : Z.Warmed39 s.vm) {a : Addr} {cl : Cell} {j : Int32} {x : UInt64} {rest : List Value} (eT : T.heap = h) (A : Arr Z h a cl .double) (hj : ¬ (j < 0 ∨ cl.slots.size ≤ j.toNatClampNeg)) (hd : decode c.code pc = .ok (.dastore, 1)) (hp : pc + 1 = pc') (k : ∀ T' h', Stand p l e R s m args below meth c T' (locs ++ [⟨a, j.toNatClampNeg⟩]) cells slots → T'.heap = h' → Wr h h' a j.toNatClampNeg (.double x) → own_G p.tables e below P T' (mkF m pc' Ls rest)) : own_G p.tables e below P T (mkF m pc Ls (.double x :: .int j :: .ref a :: rest)) := by
  subst hp; obtain ⟨T', h', X', e', W', st⟩ := stD X hx hZ eT A (j := j) hj (g := mkF m pc Ls (.double x :: .int j :: .ref a :: rest)) rfl rfl hd; exact own_go st (k T' h' X' e' W')
theorem own_retD {Q : Option Value → Heap → List Loc → Prop} {C S : Nat} (X : Stand p l e R s m args below meth c T locs cells slots) (hx : p.tables.exec = Jvm.exec) (hlk : meth.locks = false) (hret : meth.sig.returnType = some .double) {pc : Nat} {Ls : Array Slot} {z : UInt64} {rest : List Value} (hd : decode c.code pc = .ok (.dreturn, 1)) (hC : cells ≤ C) (hS : slots ≤ S) (hq : Q (some (.double z)) T.heap locs) :
    own_G p.tables e below (own_P s Q C S) T (mkF m pc Ls (.double z :: rest)) :=
  own_ret X hlk (fun h => by rw [hret] at h; cases h) (fun fs hr => retOut X hx hret rfl (Or.inr (Or.inr (Or.inl ⟨rfl, rfl, z, rfl⟩))) hd hr) hC hS hq
/-! an array told by a function of the place -/
def own_Ar (Z : State) (h : Heap) (a : Addr) (ty : FieldType) (N : Nat) (F : Nat → Value) : Prop := ∃ c : Cell, Arr Z h a c ty ∧ c.slots.size = N ∧ ∀ i, i < N → c.slots[i]? = some (F i)
def own_upd {α : Type} (f : Nat → α) (q : Nat) (v : α) (i : Nat) : α := if i = q then v else f i
variable {a b : Addr} {ty : FieldType} {N : Nat} {F : Nat → Value} {sl : Nat} {v : Value} {ws : List Addr}
theorem own_Ar.lt (A : own_Ar Z h a ty N F) : a < h.size := by obtain ⟨c, A1, -⟩ := A; exact A1.lt
theorem own_Ar.ext (A : own_Ar Z h a ty N F) (E : Ext h h') : own_Ar Z h' a ty N F := by obtain ⟨c, A1, r⟩ := A; exact ⟨c, A1.ext E, r⟩
theorem own_Ar.other (A : own_Ar Z h b ty N F) (W : Wr h h' a sl v) (q : b ≠ a) : own_Ar Z h' b ty N F := by obtain ⟨c, A1, r⟩ := A; exact ⟨c, Arr.other W A1 q, r⟩
theorem own_Ar.keep (A : own_Ar Z h a ty N F) (K : Keep h h' ws) (q : a ∉ ws) : own_Ar Z h' a ty N F := by obtain ⟨c, A1, r⟩ := A; exact ⟨c, ⟨K.2.1 _ _ A1.1 q, A1.2⟩, r⟩
theorem own_Ar.set {G : Nat → Value} {j : Int32} {i : Nat} (A : own_Ar Z h a ty N F) (W : Wr h h' a j.toNatClampNeg v) (hj : j.toNatClampNeg = i) (hi : i < N) (hG : ∀ q, G q = if q = i then v else F q) : own_Ar Z h' a ty N G := by
  obtain ⟨c, A1, S1, H1⟩ := A
  refine ⟨c.setSlot j.toNatClampNeg v, Arr.same W A1, by rw [sz_set]; exact S1, fun q hq => ?_⟩
  rw [hG q, hj]
  by_cases e : q = i
  · subst e; rw [if_pos rfl]; simp [Cell.setSlot, S1, hi]
  · rw [if_neg e]; show (c.slots.setIfInBounds i v)[q]? = _; rw [Array.getElem?_setIfInBounds_ne (Ne.symm e)]; exact H1 q hq
theorem own_in {cl : Cell} {j : Int32} {i : Nat} (S : cl.slots.size = N) (h1 : ¬ j < 0) (h2 : j.toNatClampNeg = i) (h3 : i < N) : ¬ (j < 0 ∨ cl.slots.size ≤ j.toNatClampNeg) := by
  intro q
  rcases q with q | q
  · exact h1 q
  · omega
theorem own_Ar.fresh {k : ClassId} {z : Int32} (A : Arr Z h a (newA k ty z) ty) (hz : z.toNatClampNeg = N) (hF : ∀ i, F i = defaultValue ty) : own_Ar Z h a ty N F := by
  refine ⟨_, A, by rw [sz_new]; exact hz, fun i hi => ?_⟩
  rw [hF i]
  simp [newA, hz, hi]
end OwnFp
theorem own_t32_0 : (0 : Int32).toInt = 0 := by decide
theorem own_t32_1 : (1 : Int32).toInt = 1 := by decide
theorem own_t32_2 : (2 : Int32).toInt = 2 := by decide
theorem own_t32_3 : (3 : Int32).toInt = 3 := by decide
theorem own_t32_4 : (4 : Int32).toInt = 4 := by decide
theorem own_t32_5 : (5 : Int32).toInt = 5 := by decide
theorem own_t32_6 : (6 : Int32).toInt = 6 := by decide
theorem own_t32_7 : (7 : Int32).toInt = 7 := by decide
theorem own_on {n : Nat} (h : n < 100000) : (Int32.ofNat n).toInt = n := Int32.toInt_ofNat_of_lt (by omega)
theorem own_clamp {n : Nat} (h : n < 100000) : ¬ Int32.ofNat n < 0 ∧ (Int32.ofNat n).toNatClampNeg = n := by
  have q : ¬ Int32.ofNat n < 0 := by rw [Int32.lt_iff_toInt_lt, own_on h]; show ¬ (n : Int) < 0; omega
  exact ⟨q, by have q2 := nat_of q; rw [own_on h] at q2; omega⟩
theorem own_olt {a b : Nat} (ha : a < 100000) (hb : b < 100000) : (Int32.ofNat a < Int32.ofNat b) ↔ a < b := by rw [Int32.lt_iff_toInt_lt, own_on ha, own_on hb]; omega
theorem own_oeq {a b : Nat} (ha : a < 100000) (hb : b < 100000) : (Int32.ofNat a = Int32.ofNat b) ↔ a = b := by rw [← Int32.toInt_inj, own_on ha, own_on hb]; omega
/-! the static $assertionsDisabled, older than n0 -/
def own_AD (n0 : Nat) (Z : State) (h : Heap) : Prop := ∃ (cf i : Nat) (k : Class) (f : Field) (st : Addr) (cell : Cell), Z.fieldFound? "java/util/BitSet" "$assertionsDisabled" "Z" = some (cf, k, i, f) ∧ f.isStatic = true ∧ k.init = .initialized ∧ k.statics = some st ∧ h[st]? = some cell ∧ cell.vm.isStatics = true ∧ cell.slots[f.slot]? = some (.int (1 : Int32)) ∧ st < n0
theorem own_AD.sta {n0 : Nat} {Z : State} {h : Heap} (B : own_AD n0 Z h) : Sta Z h "java/util/BitSet" "$assertionsDisabled" "Z" (.int (1 : Int32)) := by
  obtain ⟨cf, i, k, f, st, cell, h1, h2, h3, h4, h5, h6, h7, h8⟩ := B; exact ⟨cf, i, k, f, st, cell, h1, h2, h3, h4, h5, h6, h7⟩
theorem own_AD.ext {n0 : Nat} {Z : State} {h h' : Heap} (B : own_AD n0 Z h) (E : Ext h h') : own_AD n0 Z h' := by
  obtain ⟨cf, i, k, f, st, cell, h1, h2, h3, h4, h5, h6, h7, h8⟩ := B; exact ⟨cf, i, k, f, st, cell, h1, h2, h3, h4, E.2 _ _ h5, h6, h7, h8⟩
theorem own_AD.keep {n0 : Nat} {Z : State} {h h' : Heap} {ws : List Addr} (B : own_AD n0 Z h) (K : Keep h h' ws) (q : ∀ x ∈ ws, n0 ≤ x) : own_AD n0 Z h' := by
  obtain ⟨cf, i, k, f, st, cell, h1, h2, h3, h4, h5, h6, h7, h8⟩ := B
  exact ⟨cf, i, k, f, st, cell, h1, h2, h3, h4, K.2.1 _ _ h5 (fun hm => absurd (q _ hm) (Nat.not_le_of_lt h8)), h6, h7, h8⟩
theorem own_AD.wr {n0 : Nat} {Z : State} {h h' : Heap} {a : Addr} {sl : Nat} {v : Value} (B : own_AD n0 Z h) (W : Wr h h' a sl v) (q : n0 ≤ a) : own_AD n0 Z h' := B.keep (Keep.of_wr W) (fun x hx => by cases List.mem_singleton.mp hx; exact q)
theorem own_AD.start {Z : State} (S : Sta Z Z.heap "java/util/BitSet" "$assertionsDisabled" "Z" (.int (1 : Int32))) : own_AD Z.heap.size Z Z.heap := by
  obtain ⟨cf, i, k, f, st, cell, h1, h2, h3, h4, h5, h6, h7⟩ := S; exact ⟨cf, i, k, f, st, cell, h1, h2, h3, h4, h5, h6, h7, (Array.getElem?_eq_some_iff.mp h5).1⟩
theorem own_Ar.ofArv {Z : State} {h : Heap} {a : Addr} {k : ClassId} {z : Int32} {N : Nat} {ws : List Int64} (F : Arv Z h a k .long z (ws.map Value.long) (.long (0 : Int64))) (hz : z.toNatClampNeg = N) : own_Ar Z h a .long N (fun ii => .long (ws.getD ii 0)) := by
  obtain ⟨c, A, -, S, -, H, -⟩ := F
  refine ⟨c, A, S.trans hz, fun i hi => ?_⟩
  rw [H i (by rw [S, hz]; exact hi)]
  simp [List.getD]
section OwnN
def own_ush (x : Int32) (k : Int32) : Int32 := ((x.toUInt32 >>> (k &&& 31).toUInt32).toInt32)
def own_n4 (i n : Int32) : Int32 := if (4 : Int32) < i then (n + (2 : Int32)) + own_ush (own_ush i (2 : Int32)) (1 : Int32) else n + own_ush i (1 : Int32)
def own_n3 (i n : Int32) : Int32 := if (16 : Int32) < i then own_n4 (own_ush i (4 : Int32)) (n + (4 : Int32)) else own_n4 i n
def own_n2 (i n : Int32) : Int32 := if (256 : Int32) < i then own_n3 (own_ush i (8 : Int32)) (n + (8 : Int32)) else own_n3 i n
def own_n1 (i n : Int32) : Int32 := if (65536 : Int32) < i then own_n2 (own_ush i (16 : Int32)) (n + (16 : Int32)) else own_n2 i n
def own_nI (x : Int32) : Int32 := if (0 : Int32) < ((x ^^^ (-1 : Int32)) &&& (x - (1 : Int32))) then own_n1 ((x ^^^ (-1 : Int32)) &&& (x - (1 : Int32))) (1 : Int32) else (((x ^^^ (-1 : Int32)) &&& (x - (1 : Int32))) &&& (32 : Int32))
def own_nL (x : Int64) : Int32 := if x.toInt32 = (0 : Int32) then (32 : Int32) + own_nI (((x.toUInt64 >>> ((32 : Int32) &&& 0x3f).toInt64.toUInt64).toInt64).toInt32) else own_nI x.toInt32

end OwnN
def own_l4 (i n : Int32) : Int32 := if i < (4 : Int32) then n - own_ush i (1 : Int32) else (n + (-2 : Int32)) - own_ush (own_ush i (2 : Int32)) (1 : Int32)
def own_l3 (i n : Int32) : Int32 := if i < (16 : Int32) then own_l4 i n else own_l4 (own_ush i (4 : Int32)) (n + (-4 : Int32))
def own_l2 (i n : Int32) : Int32 := if i < (256 : Int32) then own_l3 i n else own_l3 (own_ush i (8 : Int32)) (n + (-8 : Int32))
def own_l1 (i n : Int32) : Int32 := if i < (65536 : Int32) then own_l2 i n else own_l2 (own_ush i (16 : Int32)) (n + (-16 : Int32))
def own_lI (x : Int32) : Int32 := if (0 : Int32) < x then own_l1 x (31 : Int32) else if x = (0 : Int32) then (32 : Int32) else (0 : Int32)
def own_hi32 (x : Int64) : Int32 := ((x.toUInt64 >>> ((32 : Int32) &&& 0x3f).toInt64.toUInt64).toInt64).toInt32
def own_lL (x : Int64) : Int32 := if own_hi32 x = (0 : Int32) then (32 : Int32) + own_lI x.toInt32 else own_lI (own_hi32 x)
def own_ul (x : Int64) (k : Int32) : Int64 := ((x.toUInt64 >>> (k &&& 0x3f).toInt64.toUInt64).toInt64)
def own_b1 (x : Int64) : Int64 := x - ((own_ul x (1 : Int32)) &&& (6148914691236517205 : Int64))
def own_b2 (x : Int64) : Int64 := (x &&& (3689348814741910323 : Int64)) + ((own_ul x (2 : Int32)) &&& (3689348814741910323 : Int64))
def own_b3 (x : Int64) : Int64 := (x + own_ul x (4 : Int32)) &&& (1085102592571150095 : Int64)
def own_b4 (x : Int64) : Int64 := x + own_ul x (8 : Int32)
def own_b5 (x : Int64) : Int64 := x + own_ul x (16 : Int32)
def own_b6 (x : Int64) : Int64 := x + own_ul x (32 : Int32)
def own_bc (x : Int64) : Int32 := (own_b6 (own_b5 (own_b4 (own_b3 (own_b2 (own_b1 x)))))).toInt32 &&& (127 : Int32)
def own_wi (x : Int32) : Int32 := (x >>> ((6 : Int32) &&& 31))
def own_hitB (w : Nat) (bits : Int64) : Int32 := (Int32.ofNat w * (64 : Int32)) + own_nL bits
def own_scanB (wf : Nat → Int64) : Nat → Nat → Int64 → Int32
  | 0, w, bits => if bits = 0 then (-1 : Int32) else own_hitB w bits
  | k + 1, w, bits => if bits = 0 then own_scanB wf k (w + 1) (wf (w + 1)) else own_hitB w bits
def own_nsb (wf : Nat → Int64) (U : Nat) : Int32 := own_scanB wf (U - 1) 0 (wf 0 &&& ((-1 : Int64) <<< ((0 : Int32) &&& 0x3f).toInt64))
def own_card (wf : Nat → Int64) : Nat → Nat → Int32 → Int32
  | 0, _, acc => acc
  | k + 1, w, acc => own_card wf k (w + 1) (acc + own_bc (wf w))
def own_blen (wf : Nat → Int64) (U : Nat) : Int32 := ((64 : Int32) * Int32.ofNat (U - 1)) + ((64 : Int32) - own_lL (wf (U - 1)))
def own_get (wf : Nat → Int64) (U q : Nat) (i : Int32) : Int32 := if q < U then (if (wf q) &&& ((1 : Int64) <<< (i &&& 0x3f).toInt64) = 0 then (0 : Int32) else (1 : Int32)) else (0 : Int32)
def own_wS (lo hi1 : Int32) : Int64 := ((0 : Int64) ||| (((-1 : Int64) <<< (lo &&& 0x3f).toInt64) &&& ((((-1 : Int64).toUInt64 >>> ((-hi1) &&& 0x3f).toInt64.toUInt64).toInt64))))
def own_y30 : Int64 := (0 : Int64) ||| ((-1 : Int64) <<< ((1970 : Int32) &&& 0x3f).toInt64)
def own_y32 : Int64 := (0 : Int64) ||| (((-1 : Int64).toUInt64 >>> ((-(2100 : Int32)) &&& 0x3f).toInt64.toUInt64).toInt64)
theorem d25_0 : decode jdk_29_method_69_code 0 = .ok (.iload_n 0, 1) := by decide +kernel
theorem d25_1 : decode jdk_29_method_69_code 1 = .ok (.iload_n 1, 1) := by decide +kernel
theorem d25_2 : decode jdk_29_method_69_code 2 = .ok (.if_icmp .gt 7, 3) := by decide +kernel
theorem d25_5 : decode jdk_29_method_69_code 5 = .ok (.iload_n 0, 1) := by decide +kernel
theorem d25_6 : decode jdk_29_method_69_code 6 = .ok (.goto 4, 3) := by decide +kernel
theorem d25_9 : decode jdk_29_method_69_code 9 = .ok (.iload_n 1, 1) := by decide +kernel
theorem d25_10 : decode jdk_29_method_69_code 10 = .ok (.ireturn, 1) := by decide +kernel
def own_minI (x y : Int32) : Int32 := if y < x then y else x
def Qmin (x y : Int32) (h0 : Heap) (n0 : Nat) (v : Option Value) (h : Heap) (L : List Loc) : Prop := v = some (.int (own_minI x y)) ∧ Fr n0 L ∧ h = h0
theorem ef_rm_min (m : MethodId) (x0 : Int32) (x1 : Int32) : entryFrame m #[(.int x0), (.int x1)] 2 = mkF m 0 #[.val (.int x0), .val (.int x1)] [] := by first | (simp [entryFrame, mkF, argsToLocals, Value.category, maxLocals]; done) | rfl
theorem pf_0 : plainFor (⟨"java/lang/Math", "min", "(II)I"⟩ : MethodName) = true := by decide +kernel
set_option maxRecDepth 65536 in
set_option maxHeartbeats 40000000 in
theorem rm_min (l : Launch) (Z : State) (a0 : Array Value) (hw : ∀ d ∈ tables_1, d.before a0 Z = true) (ws : List Jvm.Cond) (q0 q1 : Int32) (h0 : Heap) (n0 : Nat) (Z0 : n0 ≤ h0.size)  :
    MetFree l (⟨"java/lang/Math", "min", "(II)I"⟩ : MethodName) (head1 (Jvm.Cond.code (⟨"java/lang/Math", "min", "(II)I"⟩ : MethodName) jdk_29_method_69_code 2 (some .int) :: ws) ({ frames := 0, cells := 0, slots := 0, locals := 0 } : Room)) (fun aa U => aa = #[(.int q0), (.int q1)] ∧ Z.Warmed39 U.vm ∧ U.heap = h0) (fun _ _ _ _ _ => True) (fun _ U o U' => ∃ v L, o = .returned v ∧ Qmin q0 q1 h0 n0 v U'.heap L ∧ FrameEnd U o U' L (({ frames := 0, cells := 0, slots := 0, locals := 0 } : Room).cells) (({ frames := 0, cells := 0, slots := 0, locals := 0 } : Room).slots)) := by
  refine own_body pf_0 ?_
  intro p e s m below meth c s₁ hx hby hml hown hnm hlk hret hZ X0 e0
  have N0 : Fr n0 [] := Fr.nil n0
  refine own_go (f' := (mkF m 0 #[.val (.int q0), .val (.int q1)] [])) (fun t k => castTop (ef_rm_min m q0 q1) k) ?_
  refine own_iloadN X0 hx (pc' := 1) (hb hby d25_0) rfl rfl ?_
  refine own_iloadN X0 hx (pc' := 2) (hb hby d25_1) rfl rfl ?_
  by_cases hc2_1 : q1 < q0
  · skip
    refine own_icmpYes X0 hx (pc' := 9) (hb hby d25_2) (tlt hc2_1).2.2.1 (by decide) (by decide) ?_
    refine own_iloadN X0 hx (pc' := 10) (hb hby d25_9) rfl rfl ?_
    refine own_retI X0 hx hlk hret (hb hby d25_10) (by decide) (by decide) ?_
    exact ⟨by simp only [own_minI, hc2_1, if_true, if_false], N0, e0⟩
  · skip
    refine own_icmpNo X0 hx (pc' := 5) (hb hby d25_2) (flt hc2_1).2.2.1 rfl ?_
    refine own_iloadN X0 hx (pc' := 6) (hb hby d25_5) rfl rfl ?_
    refine own_goto X0 hx (pc' := 10) (hb hby d25_6) (by decide) (by decide) ?_
    refine own_retI X0 hx hlk hret (hb hby d25_10) (by decide) (by decide) ?_
    exact ⟨by simp only [own_minI, hc2_1, if_true, if_false], N0, e0⟩

theorem d23_0 : decode jdk_29_method_65_code 0 = .ok (.iload_n 0, 1) := by decide +kernel
theorem d23_1 : decode jdk_29_method_65_code 1 = .ok (.iload_n 1, 1) := by decide +kernel
theorem d23_2 : decode jdk_29_method_65_code 2 = .ok (.if_icmp .lt 7, 3) := by decide +kernel
theorem d23_5 : decode jdk_29_method_65_code 5 = .ok (.iload_n 0, 1) := by decide +kernel
theorem d23_6 : decode jdk_29_method_65_code 6 = .ok (.goto 4, 3) := by decide +kernel
theorem d23_9 : decode jdk_29_method_65_code 9 = .ok (.iload_n 1, 1) := by decide +kernel
theorem d23_10 : decode jdk_29_method_65_code 10 = .ok (.ireturn, 1) := by decide +kernel
def own_maxI (x y : Int32) : Int32 := if x < y then y else x
def Qmax (x y : Int32) (h0 : Heap) (n0 : Nat) (v : Option Value) (h : Heap) (L : List Loc) : Prop := v = some (.int (own_maxI x y)) ∧ Fr n0 L ∧ h = h0
theorem ef_rm_max (m : MethodId) (x0 : Int32) (x1 : Int32) : entryFrame m #[(.int x0), (.int x1)] 2 = mkF m 0 #[.val (.int x0), .val (.int x1)] [] := by first | (simp [entryFrame, mkF, argsToLocals, Value.category, maxLocals]; done) | rfl
theorem pf_1 : plainFor (⟨"java/lang/Math", "max", "(II)I"⟩ : MethodName) = true := by decide +kernel
set_option maxRecDepth 65536 in
set_option maxHeartbeats 40000000 in
theorem rm_max (l : Launch) (Z : State) (a0 : Array Value) (hw : ∀ d ∈ tables_1, d.before a0 Z = true) (ws : List Jvm.Cond) (q0 q1 : Int32) (h0 : Heap) (n0 : Nat) (Z0 : n0 ≤ h0.size)  :
    MetFree l (⟨"java/lang/Math", "max", "(II)I"⟩ : MethodName) (head1 (Jvm.Cond.code (⟨"java/lang/Math", "max", "(II)I"⟩ : MethodName) jdk_29_method_65_code 2 (some .int) :: ws) ({ frames := 0, cells := 0, slots := 0, locals := 0 } : Room)) (fun aa U => aa = #[(.int q0), (.int q1)] ∧ Z.Warmed39 U.vm ∧ U.heap = h0) (fun _ _ _ _ _ => True) (fun _ U o U' => ∃ v L, o = .returned v ∧ Qmax q0 q1 h0 n0 v U'.heap L ∧ FrameEnd U o U' L (({ frames := 0, cells := 0, slots := 0, locals := 0 } : Room).cells) (({ frames := 0, cells := 0, slots := 0, locals := 0 } : Room).slots)) := by
  refine own_body pf_1 ?_
  intro p e s m below meth c s₁ hx hby hml hown hnm hlk hret hZ X0 e0
  have N0 : Fr n0 [] := Fr.nil n0
  refine own_go (f' := (mkF m 0 #[.val (.int q0), .val (.int q1)] [])) (fun t k => castTop (ef_rm_max m q0 q1) k) ?_
  refine own_iloadN X0 hx (pc' := 1) (hb hby d23_0) rfl rfl ?_
  refine own_iloadN X0 hx (pc' := 2) (hb hby d23_1) rfl rfl ?_
  by_cases hc2_1 : q0 < q1
  · skip
    refine own_icmpYes X0 hx (pc' := 9) (hb hby d23_2) (tlt hc2_1).1 (by decide) (by decide) ?_
    refine own_iloadN X0 hx (pc' := 10) (hb hby d23_9) rfl rfl ?_
    refine own_retI X0 hx hlk hret (hb hby d23_10) (by decide) (by decide) ?_
    exact ⟨by simp only [own_maxI, hc2_1, if_true, if_false], N0, e0⟩
  · skip
    refine own_icmpNo X0 hx (pc' := 5) (hb hby d23_2) (flt hc2_1).1 rfl ?_
    refine own_iloadN X0 hx (pc' := 6) (hb hby d23_5) rfl rfl ?_
    refine own_goto X0 hx (pc' := 10) (hb hby d23_6) (by decide) (by decide) ?_
    refine own_retI X0 hx hlk hret (hb hby d23_10) (by decide) (by decide) ?_
    exact ⟨by simp only [own_maxI, hc2_1, if_true, if_false], N0, e0⟩

theorem d16_0 : decode jdk_33_method_48_code 0 = .ok (.iload_n 0, 1) := by decide +kernel
theorem d16_1 : decode jdk_33_method_48_code 1 = .ok (.iconst (-1), 1) := by decide +kernel
theorem d16_2 : decode jdk_33_method_48_code 2 = .ok (.ixor, 1) := by decide +kernel
theorem d16_3 : decode jdk_33_method_48_code 3 = .ok (.iload_n 0, 1) := by decide +kernel
theorem d16_4 : decode jdk_33_method_48_code 4 = .ok (.iconst 1, 1) := by decide +kernel
theorem d16_5 : decode jdk_33_method_48_code 5 = .ok (.isub, 1) := by decide +kernel
theorem d16_6 : decode jdk_33_method_48_code 6 = .ok (.iand, 1) := by decide +kernel
theorem d16_7 : decode jdk_33_method_48_code 7 = .ok (.istore_n 0, 1) := by decide +kernel
theorem d16_8 : decode jdk_33_method_48_code 8 = .ok (.iload_n 0, 1) := by decide +kernel
theorem d16_9 : decode jdk_33_method_48_code 9 = .ok (.ifCond .gt 8, 3) := by decide +kernel
theorem d16_12 : decode jdk_33_method_48_code 12 = .ok (.iload_n 0, 1) := by decide +kernel
theorem d16_13 : decode jdk_33_method_48_code 13 = .ok (.bipush 32, 2) := by decide +kernel
theorem d16_15 : decode jdk_33_method_48_code 15 = .ok (.iand, 1) := by decide +kernel
theorem d16_16 : decode jdk_33_method_48_code 16 = .ok (.ireturn, 1) := by decide +kernel
theorem d16_17 : decode jdk_33_method_48_code 17 = .ok (.iconst 1, 1) := by decide +kernel
theorem d16_18 : decode jdk_33_method_48_code 18 = .ok (.istore_n 1, 1) := by decide +kernel
theorem d16_19 : decode jdk_33_method_48_code 19 = .ok (.iload_n 0, 1) := by decide +kernel
theorem d16_20 : decode jdk_33_method_48_code 20 = .ok (.ldc_w 264, 3) := by decide +kernel
theorem d16_23 : decode jdk_33_method_48_code 23 = .ok (.if_icmp .le 11, 3) := by decide +kernel
theorem d16_26 : decode jdk_33_method_48_code 26 = .ok (.iinc 1 16, 3) := by decide +kernel
theorem d16_29 : decode jdk_33_method_48_code 29 = .ok (.iload_n 0, 1) := by decide +kernel
theorem d16_30 : decode jdk_33_method_48_code 30 = .ok (.bipush 16, 2) := by decide +kernel
theorem d16_32 : decode jdk_33_method_48_code 32 = .ok (.iushr, 1) := by decide +kernel
theorem d16_33 : decode jdk_33_method_48_code 33 = .ok (.istore_n 0, 1) := by decide +kernel
theorem d16_34 : decode jdk_33_method_48_code 34 = .ok (.iload_n 0, 1) := by decide +kernel
theorem d16_35 : decode jdk_33_method_48_code 35 = .ok (.sipush 256, 3) := by decide +kernel
theorem d16_38 : decode jdk_33_method_48_code 38 = .ok (.if_icmp .le 11, 3) := by decide +kernel
theorem d16_41 : decode jdk_33_method_48_code 41 = .ok (.iinc 1 8, 3) := by decide +kernel
theorem d16_44 : decode jdk_33_method_48_code 44 = .ok (.iload_n 0, 1) := by decide +kernel
theorem d16_45 : decode jdk_33_method_48_code 45 = .ok (.bipush 8, 2) := by decide +kernel
theorem d16_47 : decode jdk_33_method_48_code 47 = .ok (.iushr, 1) := by decide +kernel
theorem d16_48 : decode jdk_33_method_48_code 48 = .ok (.istore_n 0, 1) := by decide +kernel
theorem d16_49 : decode jdk_33_method_48_code 49 = .ok (.iload_n 0, 1) := by decide +kernel
theorem d16_50 : decode jdk_33_method_48_code 50 = .ok (.bipush 16, 2) := by decide +kernel
theorem d16_52 : decode jdk_33_method_48_code 52 = .ok (.if_icmp .le 10, 3) := by decide +kernel
theorem d16_55 : decode jdk_33_method_48_code 55 = .ok (.iinc 1 4, 3) := by decide +kernel
theorem d16_58 : decode jdk_33_method_48_code 58 = .ok (.iload_n 0, 1) := by decide +kernel
theorem d16_59 : decode jdk_33_method_48_code 59 = .ok (.iconst 4, 1) := by decide +kernel
theorem d16_60 : decode jdk_33_method_48_code 60 = .ok (.iushr, 1) := by decide +kernel
theorem d16_61 : decode jdk_33_method_48_code 61 = .ok (.istore_n 0, 1) := by decide +kernel
theorem d16_62 : decode jdk_33_method_48_code 62 = .ok (.iload_n 0, 1) := by decide +kernel
theorem d16_63 : decode jdk_33_method_48_code 63 = .ok (.iconst 4, 1) := by decide +kernel
theorem d16_64 : decode jdk_33_method_48_code 64 = .ok (.if_icmp .le 10, 3) := by decide +kernel
theorem d16_67 : decode jdk_33_method_48_code 67 = .ok (.iinc 1 2, 3) := by decide +kernel
theorem d16_70 : decode jdk_33_method_48_code 70 = .ok (.iload_n 0, 1) := by decide +kernel
theorem d16_71 : decode jdk_33_method_48_code 71 = .ok (.iconst 2, 1) := by decide +kernel
theorem d16_72 : decode jdk_33_method_48_code 72 = .ok (.iushr, 1) := by decide +kernel
theorem d16_73 : decode jdk_33_method_48_code 73 = .ok (.istore_n 0, 1) := by decide +kernel
theorem d16_74 : decode jdk_33_method_48_code 74 = .ok (.iload_n 1, 1) := by decide +kernel
theorem d16_75 : decode jdk_33_method_48_code 75 = .ok (.iload_n 0, 1) := by decide +kernel
theorem d16_76 : decode jdk_33_method_48_code 76 = .ok (.iconst 1, 1) := by decide +kernel
theorem d16_77 : decode jdk_33_method_48_code 77 = .ok (.iushr, 1) := by decide +kernel
theorem d16_78 : decode jdk_33_method_48_code 78 = .ok (.iadd, 1) := by decide +kernel
theorem d16_79 : decode jdk_33_method_48_code 79 = .ok (.ireturn, 1) := by decide +kernel
def QnI (x : Int32) (h0 : Heap) (n0 : Nat) (v : Option Value) (h : Heap) (L : List Loc) : Prop := v = some (.int (own_nI x)) ∧ Fr n0 L ∧ h = h0
theorem ef_rm_nI (m : MethodId) (x0 : Int32) : entryFrame m #[(.int x0)] 2 = mkF m 0 #[.val (.int x0), .unset] [] := by first | (simp [entryFrame, mkF, argsToLocals, Value.category, maxLocals]; done) | rfl
theorem pf_2 : plainFor (⟨"java/lang/Integer", "numberOfTrailingZeros", "(I)I"⟩ : MethodName) = true := by apply plainFor_of_name; first | (simp [plainName, overriddenIn]; done) | decide +kernel
theorem Wd96 {a0 : Array Value} {Z : State} (hw : ∀ d ∈ tables_1, d.before a0 Z = true) : (Jvm.Cond.constant "java/lang/Integer" (264 : Nat) (65536 : Int32)).before a0 Z = true := hw _ (List.mem_of_getElem? (i := 96) rfl)
set_option maxRecDepth 65536 in
set_option maxHeartbeats 40000000 in
theorem rm_nI (l : Launch) (Z : State) (a0 : Array Value) (hw : ∀ d ∈ tables_1, d.before a0 Z = true) (ws : List Jvm.Cond) (q0 : Int32) (h0 : Heap) (n0 : Nat) (Z0 : n0 ≤ h0.size)  :
    MetFree l (⟨"java/lang/Integer", "numberOfTrailingZeros", "(I)I"⟩ : MethodName) (head1 (Jvm.Cond.code (⟨"java/lang/Integer", "numberOfTrailingZeros", "(I)I"⟩ : MethodName) jdk_33_method_48_code 2 (some .int) :: ws) ({ frames := 0, cells := 0, slots := 0, locals := 0 } : Room)) (fun aa U => aa = #[(.int q0)] ∧ Z.Warmed39 U.vm ∧ U.heap = h0) (fun _ _ _ _ _ => True) (fun _ U o U' => ∃ v L, o = .returned v ∧ QnI q0 h0 n0 v U'.heap L ∧ FrameEnd U o U' L (({ frames := 0, cells := 0, slots := 0, locals := 0 } : Room).cells) (({ frames := 0, cells := 0, slots := 0, locals := 0 } : Room).slots)) := by
  refine own_body pf_2 ?_
  intro p e s m below meth c s₁ hx hby hml hown hnm hlk hret hZ X0 e0
  have N0 : Fr n0 [] := Fr.nil n0
  refine own_go (f' := (mkF m 0 #[.val (.int q0), .unset] [])) (fun t k => castTop (ef_rm_nI m q0) k) ?_
  refine own_iloadN X0 hx (pc' := 1) (hb hby d16_0) rfl rfl ?_
  refine own_iconst X0 hx (pc' := 2) (-1 : Int32) (hb hby d16_1) rfl rfl ?_
  refine own_ixor X0 hx (pc' := 3) (hb hby d16_2) rfl rfl ?_
  refine own_iloadN X0 hx (pc' := 4) (hb hby d16_3) rfl rfl ?_
  refine own_iconst X0 hx (pc' := 5) (1 : Int32) (hb hby d16_4) rfl rfl ?_
  refine own_isub X0 hx (pc' := 6) (hb hby d16_5) rfl rfl ?_
  refine own_iand X0 hx (pc' := 7) (hb hby d16_6) rfl rfl ?_
  refine own_istoreN X0 hx (pc' := 8) (Ls' := #[.val (.int ((q0 ^^^ (-1 : Int32)) &&& (q0 - (1 : Int32)))), .unset]) (hb hby d16_7) rfl rfl ?_
  refine own_iloadN X0 hx (pc' := 9) (hb hby d16_8) rfl rfl ?_
  by_cases hc9_1 : (0 : Int32) < ((q0 ^^^ (-1 : Int32)) &&& (q0 - (1 : Int32)))
  · skip
    refine own_ifYes X0 hx (pc' := 17) (hb hby d16_9) (tlt hc9_1).2.2.1 (by decide) (by decide) ?_
    refine own_iconst X0 hx (pc' := 18) (1 : Int32) (hb hby d16_17) rfl rfl ?_
    refine own_istoreN X0 hx (pc' := 19) (Ls' := #[.val (.int ((q0 ^^^ (-1 : Int32)) &&& (q0 - (1 : Int32)))), .val (.int (1 : Int32))]) (hb hby d16_18) rfl rfl ?_
    refine own_iloadN X0 hx (pc' := 20) (hb hby d16_19) rfl rfl ?_
    refine own_ldcwI X0 hx (pc' := 23) hZ hown (Wd96 hw) (hb hby d16_20) rfl ?_
    by_cases hc23_2 : (65536 : Int32) < ((q0 ^^^ (-1 : Int32)) &&& (q0 - (1 : Int32)))
    · skip
      refine own_icmpNo X0 hx (pc' := 26) (hb hby d16_23) (tlt hc23_2).2.2.2 rfl ?_
      refine own_iinc X0 hx (pc' := 29) (Ls' := #[.val (.int ((q0 ^^^ (-1 : Int32)) &&& (q0 - (1 : Int32)))), .val (.int (17 : Int32))]) (hb hby d16_26) rfl rfl rfl ?_
      refine own_iloadN X0 hx (pc' := 30) (hb hby d16_29) rfl rfl ?_
      refine own_bipush X0 hx (pc' := 32) (16 : Int32) (hb hby d16_30) rfl rfl ?_
      refine own_iushr X0 hx (pc' := 33) (hb hby d16_32) rfl ?_
      refine own_istoreN X0 hx (pc' := 34) (Ls' := #[.val (.int ((((q0 ^^^ (-1 : Int32)) &&& (q0 - (1 : Int32))).toUInt32 >>> ((16 : Int32) &&& 31).toUInt32).toInt32)), .val (.int (17 : Int32))]) (hb hby d16_33) rfl rfl ?_
      refine own_iloadN X0 hx (pc' := 35) (hb hby d16_34) rfl rfl ?_
      refine own_sipush X0 hx (pc' := 38) (256 : Int32) (hb hby d16_35) rfl rfl ?_
      by_cases hc38_3 : (256 : Int32) < ((((q0 ^^^ (-1 : Int32)) &&& (q0 - (1 : Int32))).toUInt32 >>> ((16 : Int32) &&& 31).toUInt32).toInt32)
      · skip
        refine own_icmpNo X0 hx (pc' := 41) (hb hby d16_38) (tlt hc38_3).2.2.2 rfl ?_
        refine own_iinc X0 hx (pc' := 44) (Ls' := #[.val (.int ((((q0 ^^^ (-1 : Int32)) &&& (q0 - (1 : Int32))).toUInt32 >>> ((16 : Int32) &&& 31).toUInt32).toInt32)), .val (.int (25 : Int32))]) (hb hby d16_41) rfl rfl rfl ?_
        refine own_iloadN X0 hx (pc' := 45) (hb hby d16_44) rfl rfl ?_
        refine own_bipush X0 hx (pc' := 47) (8 : Int32) (hb hby d16_45) rfl rfl ?_
        refine own_iushr X0 hx (pc' := 48) (hb hby d16_47) rfl ?_
        refine own_istoreN X0 hx (pc' := 49) (Ls' := #[.val (.int ((((((q0 ^^^ (-1 : Int32)) &&& (q0 - (1 : Int32))).toUInt32 >>> ((16 : Int32) &&& 31).toUInt32).toInt32).toUInt32 >>> ((8 : Int32) &&& 31).toUInt32).toInt32)), .val (.int (25 : Int32))]) (hb hby d16_48) rfl rfl ?_
        refine own_iloadN X0 hx (pc' := 50) (hb hby d16_49) rfl rfl ?_
        refine own_bipush X0 hx (pc' := 52) (16 : Int32) (hb hby d16_50) rfl rfl ?_
        by_cases hc52_4 : (16 : Int32) < ((((((q0 ^^^ (-1 : Int32)) &&& (q0 - (1 : Int32))).toUInt32 >>> ((16 : Int32) &&& 31).toUInt32).toInt32).toUInt32 >>> ((8 : Int32) &&& 31).toUInt32).toInt32)
        · skip
          refine own_icmpNo X0 hx (pc' := 55) (hb hby d16_52) (tlt hc52_4).2.2.2 rfl ?_
          refine own_iinc X0 hx (pc' := 58) (Ls' := #[.val (.int ((((((q0 ^^^ (-1 : Int32)) &&& (q0 - (1 : Int32))).toUInt32 >>> ((16 : Int32) &&& 31).toUInt32).toInt32).toUInt32 >>> ((8 : Int32) &&& 31).toUInt32).toInt32)), .val (.int (29 : Int32))]) (hb hby d16_55) rfl rfl rfl ?_
          refine own_iloadN X0 hx (pc' := 59) (hb hby d16_58) rfl rfl ?_
          refine own_iconst X0 hx (pc' := 60) (4 : Int32) (hb hby d16_59) rfl rfl ?_
          refine own_iushr X0 hx (pc' := 61) (hb hby d16_60) rfl ?_
          refine own_istoreN X0 hx (pc' := 62) (Ls' := #[.val (.int ((((((((q0 ^^^ (-1 : Int32)) &&& (q0 - (1 : Int32))).toUInt32 >>> ((16 : Int32) &&& 31).toUInt32).toInt32).toUInt32 >>> ((8 : Int32) &&& 31).toUInt32).toInt32).toUInt32 >>> ((4 : Int32) &&& 31).toUInt32).toInt32)), .val (.int (29 : Int32))]) (hb hby d16_61) rfl rfl ?_
          refine own_iloadN X0 hx (pc' := 63) (hb hby d16_62) rfl rfl ?_
          refine own_iconst X0 hx (pc' := 64) (4 : Int32) (hb hby d16_63) rfl rfl ?_
          by_cases hc64_5 : (4 : Int32) < ((((((((q0 ^^^ (-1 : Int32)) &&& (q0 - (1 : Int32))).toUInt32 >>> ((16 : Int32) &&& 31).toUInt32).toInt32).toUInt32 >>> ((8 : Int32) &&& 31).toUInt32).toInt32).toUInt32 >>> ((4 : Int32) &&& 31).toUInt32).toInt32)
          · skip
            refine own_icmpNo X0 hx (pc' := 67) (hb hby d16_64) (tlt hc64_5).2.2.2 rfl ?_
            refine own_iinc X0 hx (pc' := 70) (Ls' := #[.val (.int ((((((((q0 ^^^ (-1 : Int32)) &&& (q0 - (1 : Int32))).toUInt32 >>> ((16 : Int32) &&& 31).toUInt32).toInt32).toUInt32 >>> ((8 : Int32) &&& 31).toUInt32).toInt32).toUInt32 >>> ((4 : Int32) &&& 31).toUInt32).toInt32)), .val (.int (31 : Int32))]) (hb hby d16_67) rfl rfl rfl ?_
            refine own_iloadN X0 hx (pc' := 71) (hb hby d16_70) rfl rfl ?_
            refine own_iconst X0 hx (pc' := 72) (2 : Int32) (hb hby d16_71) rfl rfl ?_
            refine own_iushr X0 hx (pc' := 73) (hb hby d16_72) rfl ?_
            refine own_istoreN X0 hx (pc' := 74) (Ls' := #[.val (.int ((((((((((q0 ^^^ (-1 : Int32)) &&& (q0 - (1 : Int32))).toUInt32 >>> ((16 : Int32) &&& 31).toUInt32).toInt32).toUInt32 >>> ((8 : Int32) &&& 31).toUInt32).toInt32).toUInt32 >>> ((4 : Int32) &&& 31).toUInt32).toInt32).toUInt32 >>> ((2 : Int32) &&& 31).toUInt32).toInt32)), .val (.int (31 : Int32))]) (hb hby d16_73) rfl rfl ?_
            refine own_iloadN X0 hx (pc' := 75) (hb hby d16_74) rfl rfl ?_
            refine own_iloadN X0 hx (pc' := 76) (hb hby d16_75) rfl rfl ?_
            refine own_iconst X0 hx (pc' := 77) (1 : Int32) (hb hby d16_76) rfl rfl ?_
            refine own_iushr X0 hx (pc' := 78) (hb hby d16_77) rfl ?_
            refine own_iadd X0 hx (pc' := 79) (hb hby d16_78) rfl rfl ?_
            refine own_retI X0 hx hlk hret (hb hby d16_79) (by decide) (by decide) ?_
            exact ⟨by simp only [own_nI, own_n1, own_n2, own_n3, own_n4, own_ush, hc9_1, hc23_2, hc38_3, hc52_4, hc64_5, if_true, if_false] <;> rfl, N0, e0⟩
          · skip
            refine own_icmpYes X0 hx (pc' := 74) (hb hby d16_64) (flt hc64_5).2.2.2 (by decide) (by decide) ?_
            refine own_iloadN X0 hx (pc' := 75) (hb hby d16_74) rfl rfl ?_
            refine own_iloadN X0 hx (pc' := 76) (hb hby d16_75) rfl rfl ?_
            refine own_iconst X0 hx (pc' := 77) (1 : Int32) (hb hby d16_76) rfl rfl ?_
            refine own_iushr X0 hx (pc' := 78) (hb hby d16_77) rfl ?_
            refine own_iadd X0 hx (pc' := 79) (hb hby d16_78) rfl rfl ?_
            refine own_retI X0 hx hlk hret (hb hby d16_79) (by decide) (by decide) ?_
            exact ⟨by simp only [own_nI, own_n1, own_n2, own_n3, own_n4, own_ush, hc9_1, hc23_2, hc38_3, hc52_4, hc64_5, if_true, if_false] <;> rfl, N0, e0⟩
        · skip
          refine own_icmpYes X0 hx (pc' := 62) (hb hby d16_52) (flt hc52_4).2.2.2 (by decide) (by decide) ?_
          refine own_iloadN X0 hx (pc' := 63) (hb hby d16_62) rfl rfl ?_
          refine own_iconst X0 hx (pc' := 64) (4 : Int32) (hb hby d16_63) rfl rfl ?_
          by_cases hc64_6 : (4 : Int32) < ((((((q0 ^^^ (-1 : Int32)) &&& (q0 - (1 : Int32))).toUInt32 >>> ((16 : Int32) &&& 31).toUInt32).toInt32).toUInt32 >>> ((8 : Int32) &&& 31).toUInt32).toInt32)
          · skip
            refine own_icmpNo X0 hx (pc' := 67) (hb hby d16_64) (tlt hc64_6).2.2.2 rfl ?_
            refine own_iinc X0 hx (pc' := 70) (Ls' := #[.val (.int ((((((q0 ^^^ (-1 : Int32)) &&& (q0 - (1 : Int32))).toUInt32 >>> ((16 : Int32) &&& 31).toUInt32).toInt32).toUInt32 >>> ((8 : Int32) &&& 31).toUInt32).toInt32)), .val (.int (27 : Int32))]) (hb hby d16_67) rfl rfl rfl ?_
            refine own_iloadN X0 hx (pc' := 71) (hb hby d16_70) rfl rfl ?_
            refine own_iconst X0 hx (pc' := 72) (2 : Int32) (hb hby d16_71) rfl rfl ?_
            refine own_iushr X0 hx (pc' := 73) (hb hby d16_72) rfl ?_
            refine own_istoreN X0 hx (pc' := 74) (Ls' := #[.val (.int ((((((((q0 ^^^ (-1 : Int32)) &&& (q0 - (1 : Int32))).toUInt32 >>> ((16 : Int32) &&& 31).toUInt32).toInt32).toUInt32 >>> ((8 : Int32) &&& 31).toUInt32).toInt32).toUInt32 >>> ((2 : Int32) &&& 31).toUInt32).toInt32)), .val (.int (27 : Int32))]) (hb hby d16_73) rfl rfl ?_
            refine own_iloadN X0 hx (pc' := 75) (hb hby d16_74) rfl rfl ?_
            refine own_iloadN X0 hx (pc' := 76) (hb hby d16_75) rfl rfl ?_
            refine own_iconst X0 hx (pc' := 77) (1 : Int32) (hb hby d16_76) rfl rfl ?_
            refine own_iushr X0 hx (pc' := 78) (hb hby d16_77) rfl ?_
            refine own_iadd X0 hx (pc' := 79) (hb hby d16_78) rfl rfl ?_
            refine own_retI X0 hx hlk hret (hb hby d16_79) (by decide) (by decide) ?_
            exact ⟨by simp only [own_nI, own_n1, own_n2, own_n3, own_n4, own_ush, hc9_1, hc23_2, hc38_3, hc52_4, hc64_6, if_true, if_false] <;> rfl, N0, e0⟩
          · skip
            refine own_icmpYes X0 hx (pc' := 74) (hb hby d16_64) (flt hc64_6).2.2.2 (by decide) (by decide) ?_
            refine own_iloadN X0 hx (pc' := 75) (hb hby d16_74) rfl rfl ?_
            refine own_iloadN X0 hx (pc' := 76) (hb hby d16_75) rfl rfl ?_
            refine own_iconst X0 hx (pc' := 77) (1 : Int32) (hb hby d16_76) rfl rfl ?_
            refine own_iushr X0 hx (pc' := 78) (hb hby d16_77) rfl ?_
            refine own_iadd X0 hx (pc' := 79) (hb hby d16_78) rfl rfl ?_
            refine own_retI X0 hx hlk hret (hb hby d16_79) (by decide) (by decide) ?_
            exact ⟨by simp only [own_nI, own_n1, own_n2, own_n3, own_n4, own_ush, hc9_1, hc23_2, hc38_3, hc52_4, hc64_6, if_true, if_false] <;> rfl, N0, e0⟩
      · skip
        refine own_icmpYes X0 hx (pc' := 49) (hb hby d16_38) (flt hc38_3).2.2.2 (by decide) (by decide) ?_
        refine own_iloadN X0 hx (pc' := 50) (hb hby d16_49) rfl rfl ?_
        refine own_bipush X0 hx (pc' := 52) (16 : Int32) (hb hby d16_50) rfl rfl ?_
        by_cases hc52_7 : (16 : Int32) < ((((q0 ^^^ (-1 : Int32)) &&& (q0 - (1 : Int32))).toUInt32 >>> ((16 : Int32) &&& 31).toUInt32).toInt32)
        · skip
          refine own_icmpNo X0 hx (pc' := 55) (hb hby d16_52) (tlt hc52_7).2.2.2 rfl ?_
          refine own_iinc X0 hx (pc' := 58) (Ls' := #[.val (.int ((((q0 ^^^ (-1 : Int32)) &&& (q0 - (1 : Int32))).toUInt32 >>> ((16 : Int32) &&& 31).toUInt32).toInt32)), .val (.int (21 : Int32))]) (hb hby d16_55) rfl rfl rfl ?_
          refine own_iloadN X0 hx (pc' := 59) (hb hby d16_58) rfl rfl ?_
          refine own_iconst X0 hx (pc' := 60) (4 : Int32) (hb hby d16_59) rfl rfl ?_
          refine own_iushr X0 hx (pc' := 61) (hb hby d16_60) rfl ?_
          refine own_istoreN X0 hx (pc' := 62) (Ls' := #[.val (.int ((((((q0 ^^^ (-1 : Int32)) &&& (q0 - (1 : Int32))).toUInt32 >>> ((16 : Int32) &&& 31).toUInt32).toInt32).toUInt32 >>> ((4 : Int32) &&& 31).toUInt32).toInt32)), .val (.int (21 : Int32))]) (hb hby d16_61) rfl rfl ?_
          refine own_iloadN X0 hx (pc' := 63) (hb hby d16_62) rfl rfl ?_
          refine own_iconst X0 hx (pc' := 64) (4 : Int32) (hb hby d16_63) rfl rfl ?_
          by_cases hc64_8 : (4 : Int32) < ((((((q0 ^^^ (-1 : Int32)) &&& (q0 - (1 : Int32))).toUInt32 >>> ((16 : Int32) &&& 31).toUInt32).toInt32).toUInt32 >>> ((4 : Int32) &&& 31).toUInt32).toInt32)
          · skip
            refine own_icmpNo X0 hx (pc' := 67) (hb hby d16_64) (tlt hc64_8).2.2.2 rfl ?_
            refine own_iinc X0 hx (pc' := 70) (Ls' := #[.val (.int ((((((q0 ^^^ (-1 : Int32)) &&& (q0 - (1 : Int32))).toUInt32 >>> ((16 : Int32) &&& 31).toUInt32).toInt32).toUInt32 >>> ((4 : Int32) &&& 31).toUInt32).toInt32)), .val (.int (23 : Int32))]) (hb hby d16_67) rfl rfl rfl ?_
            refine own_iloadN X0 hx (pc' := 71) (hb hby d16_70) rfl rfl ?_
            refine own_iconst X0 hx (pc' := 72) (2 : Int32) (hb hby d16_71) rfl rfl ?_
            refine own_iushr X0 hx (pc' := 73) (hb hby d16_72) rfl ?_
            refine own_istoreN X0 hx (pc' := 74) (Ls' := #[.val (.int ((((((((q0 ^^^ (-1 : Int32)) &&& (q0 - (1 : Int32))).toUInt32 >>> ((16 : Int32) &&& 31).toUInt32).toInt32).toUInt32 >>> ((4 : Int32) &&& 31).toUInt32).toInt32).toUInt32 >>> ((2 : Int32) &&& 31).toUInt32).toInt32)), .val (.int (23 : Int32))]) (hb hby d16_73) rfl rfl ?_
            refine own_iloadN X0 hx (pc' := 75) (hb hby d16_74) rfl rfl ?_
            refine own_iloadN X0 hx (pc' := 76) (hb hby d16_75) rfl rfl ?_
            refine own_iconst X0 hx (pc' := 77) (1 : Int32) (hb hby d16_76) rfl rfl ?_
            refine own_iushr X0 hx (pc' := 78) (hb hby d16_77) rfl ?_
            refine own_iadd X0 hx (pc' := 79) (hb hby d16_78) rfl rfl ?_
            refine own_retI X0 hx hlk hret (hb hby d16_79) (by decide) (by decide) ?_
            exact ⟨by simp only [own_nI, own_n1, own_n2, own_n3, own_n4, own_ush, hc9_1, hc23_2, hc38_3, hc52_7, hc64_8, if_true, if_false] <;> rfl, N0, e0⟩
          · skip
            refine own_icmpYes X0 hx (pc' := 74) (hb hby d16_64) (flt hc64_8).2.2.2 (by decide) (by decide) ?_
            refine own_iloadN X0 hx (pc' := 75) (hb hby d16_74) rfl rfl ?_
            refine own_iloadN X0 hx (pc' := 76) (hb hby d16_75) rfl rfl ?_
            refine own_iconst X0 hx (pc' := 77) (1 : Int32) (hb hby d16_76) rfl rfl ?_
            refine own_iushr X0 hx (pc' := 78) (hb hby d16_77) rfl ?_
            refine own_iadd X0 hx (pc' := 79) (hb hby d16_78) rfl rfl ?_
            refine own_retI X0 hx hlk hret (hb hby d16_79) (by decide) (by decide) ?_
            exact ⟨by simp only [own_nI, own_n1, own_n2, own_n3, own_n4, own_ush, hc9_1, hc23_2, hc38_3, hc52_7, hc64_8, if_true, if_false] <;> rfl, N0, e0⟩
        · skip
          refine own_icmpYes X0 hx (pc' := 62) (hb hby d16_52) (flt hc52_7).2.2.2 (by decide) (by decide) ?_
          refine own_iloadN X0 hx (pc' := 63) (hb hby d16_62) rfl rfl ?_
          refine own_iconst X0 hx (pc' := 64) (4 : Int32) (hb hby d16_63) rfl rfl ?_
          by_cases hc64_9 : (4 : Int32) < ((((q0 ^^^ (-1 : Int32)) &&& (q0 - (1 : Int32))).toUInt32 >>> ((16 : Int32) &&& 31).toUInt32).toInt32)
          · skip
            refine own_icmpNo X0 hx (pc' := 67) (hb hby d16_64) (tlt hc64_9).2.2.2 rfl ?_
            refine own_iinc X0 hx (pc' := 70) (Ls' := #[.val (.int ((((q0 ^^^ (-1 : Int32)) &&& (q0 - (1 : Int32))).toUInt32 >>> ((16 : Int32) &&& 31).toUInt32).toInt32)), .val (.int (19 : Int32))]) (hb hby d16_67) rfl rfl rfl ?_
            refine own_iloadN X0 hx (pc' := 71) (hb hby d16_70) rfl rfl ?_
            refine own_iconst X0 hx (pc' := 72) (2 : Int32) (hb hby d16_71) rfl rfl ?_
            refine own_iushr X0 hx (pc' := 73) (hb hby d16_72) rfl ?_
            refine own_istoreN X0 hx (pc' := 74) (Ls' := #[.val (.int ((((((q0 ^^^ (-1 : Int32)) &&& (q0 - (1 : Int32))).toUInt32 >>> ((16 : Int32) &&& 31).toUInt32).toInt32).toUInt32 >>> ((2 : Int32) &&& 31).toUInt32).toInt32)), .val (.int (19 : Int32))]) (hb hby d16_73) rfl rfl ?_
            refine own_iloadN X0 hx (pc' := 75) (hb hby d16_74) rfl rfl ?_
            refine own_iloadN X0 hx (pc' := 76) (hb hby d16_75) rfl rfl ?_
            refine own_iconst X0 hx (pc' := 77) (1 : Int32) (hb hby d16_76) rfl rfl ?_
            refine own_iushr X0 hx (pc' := 78) (hb hby d16_77) rfl ?_
            refine own_iadd X0 hx (pc' := 79) (hb hby d16_78) rfl rfl ?_
            refine own_retI X0 hx hlk hret (hb hby d16_79) (by decide) (by decide) ?_
            exact ⟨by simp only [own_nI, own_n1, own_n2, own_n3, own_n4, own_ush, hc9_1, hc23_2, hc38_3, hc52_7, hc64_9, if_true, if_false] <;> rfl, N0, e0⟩
          · skip
            refine own_icmpYes X0 hx (pc' := 74) (hb hby d16_64) (flt hc64_9).2.2.2 (by decide) (by decide) ?_
            refine own_iloadN X0 hx (pc' := 75) (hb hby d16_74) rfl rfl ?_
            refine own_iloadN X0 hx (pc' := 76) (hb hby d16_75) rfl rfl ?_
            refine own_iconst X0 hx (pc' := 77) (1 : Int32) (hb hby d16_76) rfl rfl ?_
            refine own_iushr X0 hx (pc' := 78) (hb hby d16_77) rfl ?_
            refine own_iadd X0 hx (pc' := 79) (hb hby d16_78) rfl rfl ?_
            refine own_retI X0 hx hlk hret (hb hby d16_79) (by decide) (by decide) ?_
            exact ⟨by simp only [own_nI, own_n1, own_n2, own_n3, own_n4, own_ush, hc9_1, hc23_2, hc38_3, hc52_7, hc64_9, if_true, if_false] <;> rfl, N0, e0⟩
    · skip
      refine own_icmpYes X0 hx (pc' := 34) (hb hby d16_23) (flt hc23_2).2.2.2 (by decide) (by decide) ?_
      refine own_iloadN X0 hx (pc' := 35) (hb hby d16_34) rfl rfl ?_
      refine own_sipush X0 hx (pc' := 38) (256 : Int32) (hb hby d16_35) rfl rfl ?_
      by_cases hc38_10 : (256 : Int32) < ((q0 ^^^ (-1 : Int32)) &&& (q0 - (1 : Int32)))
      · skip
        refine own_icmpNo X0 hx (pc' := 41) (hb hby d16_38) (tlt hc38_10).2.2.2 rfl ?_
        refine own_iinc X0 hx (pc' := 44) (Ls' := #[.val (.int ((q0 ^^^ (-1 : Int32)) &&& (q0 - (1 : Int32)))), .val (.int (9 : Int32))]) (hb hby d16_41) rfl rfl rfl ?_
        refine own_iloadN X0 hx (pc' := 45) (hb hby d16_44) rfl rfl ?_
        refine own_bipush X0 hx (pc' := 47) (8 : Int32) (hb hby d16_45) rfl rfl ?_
        refine own_iushr X0 hx (pc' := 48) (hb hby d16_47) rfl ?_
        refine own_istoreN X0 hx (pc' := 49) (Ls' := #[.val (.int ((((q0 ^^^ (-1 : Int32)) &&& (q0 - (1 : Int32))).toUInt32 >>> ((8 : Int32) &&& 31).toUInt32).toInt32)), .val (.int (9 : Int32))]) (hb hby d16_48) rfl rfl ?_
        refine own_iloadN X0 hx (pc' := 50) (hb hby d16_49) rfl rfl ?_
        refine own_bipush X0 hx (pc' := 52) (16 : Int32) (hb hby d16_50) rfl rfl ?_
        by_cases hc52_11 : (16 : Int32) < ((((q0 ^^^ (-1 : Int32)) &&& (q0 - (1 : Int32))).toUInt32 >>> ((8 : Int32) &&& 31).toUInt32).toInt32)
        · skip
          refine own_icmpNo X0 hx (pc' := 55) (hb hby d16_52) (tlt hc52_11).2.2.2 rfl ?_
          refine own_iinc X0 hx (pc' := 58) (Ls' := #[.val (.int ((((q0 ^^^ (-1 : Int32)) &&& (q0 - (1 : Int32))).toUInt32 >>> ((8 : Int32) &&& 31).toUInt32).toInt32)), .val (.int (13 : Int32))]) (hb hby d16_55) rfl rfl rfl ?_
          refine own_iloadN X0 hx (pc' := 59) (hb hby d16_58) rfl rfl ?_
          refine own_iconst X0 hx (pc' := 60) (4 : Int32) (hb hby d16_59) rfl rfl ?_
          refine own_iushr X0 hx (pc' := 61) (hb hby d16_60) rfl ?_
          refine own_istoreN X0 hx (pc' := 62) (Ls' := #[.val (.int ((((((q0 ^^^ (-1 : Int32)) &&& (q0 - (1 : Int32))).toUInt32 >>> ((8 : Int32) &&& 31).toUInt32).toInt32).toUInt32 >>> ((4 : Int32) &&& 31).toUInt32).toInt32)), .val (.int (13 : Int32))]) (hb hby d16_61) rfl rfl ?_
          refine own_iloadN X0 hx (pc' := 63) (hb hby d16_62) rfl rfl ?_
          refine own_iconst X0 hx (pc' := 64) (4 : Int32) (hb hby d16_63) rfl rfl ?_
          by_cases hc64_12 : (4 : Int32) < ((((((q0 ^^^ (-1 : Int32)) &&& (q0 - (1 : Int32))).toUInt32 >>> ((8 : Int32) &&& 31).toUInt32).toInt32).toUInt32 >>> ((4 : Int32) &&& 31).toUInt32).toInt32)
          · skip
            refine own_icmpNo X0 hx (pc' := 67) (hb hby d16_64) (tlt hc64_12).2.2.2 rfl ?_
            refine own_iinc X0 hx (pc' := 70) (Ls' := #[.val (.int ((((((q0 ^^^ (-1 : Int32)) &&& (q0 - (1 : Int32))).toUInt32 >>> ((8 : Int32) &&& 31).toUInt32).toInt32).toUInt32 >>> ((4 : Int32) &&& 31).toUInt32).toInt32)), .val (.int (15 : Int32))]) (hb hby d16_67) rfl rfl rfl ?_
            refine own_iloadN X0 hx (pc' := 71) (hb hby d16_70) rfl rfl ?_
            refine own_iconst X0 hx (pc' := 72) (2 : Int32) (hb hby d16_71) rfl rfl ?_
            refine own_iushr X0 hx (pc' := 73) (hb hby d16_72) rfl ?_
            refine own_istoreN X0 hx (pc' := 74) (Ls' := #[.val (.int ((((((((q0 ^^^ (-1 : Int32)) &&& (q0 - (1 : Int32))).toUInt32 >>> ((8 : Int32) &&& 31).toUInt32).toInt32).toUInt32 >>> ((4 : Int32) &&& 31).toUInt32).toInt32).toUInt32 >>> ((2 : Int32) &&& 31).toUInt32).toInt32)), .val (.int (15 : Int32))]) (hb hby d16_73) rfl rfl ?_
            refine own_iloadN X0 hx (pc' := 75) (hb hby d16_74) rfl rfl ?_
            refine own_iloadN X0 hx (pc' := 76) (hb hby d16_75) rfl rfl ?_
            refine own_iconst X0 hx (pc' := 77) (1 : Int32) (hb hby d16_76) rfl rfl ?_
            refine own_iushr X0 hx (pc' := 78) (hb hby d16_77) rfl ?_
            refine own_iadd X0 hx (pc' := 79) (hb hby d16_78) rfl rfl ?_
            refine own_retI X0 hx hlk hret (hb hby d16_79) (by decide) (by decide) ?_
            exact ⟨by simp only [own_nI, own_n1, own_n2, own_n3, own_n4, own_ush, hc9_1, hc23_2, hc38_10, hc52_11, hc64_12, if_true, if_false] <;> rfl, N0, e0⟩
          · skip
            refine own_icmpYes X0 hx (pc' := 74) (hb hby d16_64) (flt hc64_12).2.2.2 (by decide) (by decide) ?_
            refine own_iloadN X0 hx (pc' := 75) (hb hby d16_74) rfl rfl ?_
            refine own_iloadN X0 hx (pc' := 76) (hb hby d16_75) rfl rfl ?_
            refine own_iconst X0 hx (pc' := 77) (1 : Int32) (hb hby d16_76) rfl rfl ?_
            refine own_iushr X0 hx (pc' := 78) (hb hby d16_77) rfl ?_
            refine own_iadd X0 hx (pc' := 79) (hb hby d16_78) rfl rfl ?_
            refine own_retI X0 hx hlk hret (hb hby d16_79) (by decide) (by decide) ?_
            exact ⟨by simp only [own_nI, own_n1, own_n2, own_n3, own_n4, own_ush, hc9_1, hc23_2, hc38_10, hc52_11, hc64_12, if_true, if_false] <;> rfl, N0, e0⟩
        · skip
          refine own_icmpYes X0 hx (pc' := 62) (hb hby d16_52) (flt hc52_11).2.2.2 (by decide) (by decide) ?_
          refine own_iloadN X0 hx (pc' := 63) (hb hby d16_62) rfl rfl ?_
          refine own_iconst X0 hx (pc' := 64) (4 : Int32) (hb hby d16_63) rfl rfl ?_
          by_cases hc64_13 : (4 : Int32) < ((((q0 ^^^ (-1 : Int32)) &&& (q0 - (1 : Int32))).toUInt32 >>> ((8 : Int32) &&& 31).toUInt32).toInt32)
          · skip
            refine own_icmpNo X0 hx (pc' := 67) (hb hby d16_64) (tlt hc64_13).2.2.2 rfl ?_
            refine own_iinc X0 hx (pc' := 70) (Ls' := #[.val (.int ((((q0 ^^^ (-1 : Int32)) &&& (q0 - (1 : Int32))).toUInt32 >>> ((8 : Int32) &&& 31).toUInt32).toInt32)), .val (.int (11 : Int32))]) (hb hby d16_67) rfl rfl rfl ?_
            refine own_iloadN X0 hx (pc' := 71) (hb hby d16_70) rfl rfl ?_
            refine own_iconst X0 hx (pc' := 72) (2 : Int32) (hb hby d16_71) rfl rfl ?_
            refine own_iushr X0 hx (pc' := 73) (hb hby d16_72) rfl ?_
            refine own_istoreN X0 hx (pc' := 74) (Ls' := #[.val (.int ((((((q0 ^^^ (-1 : Int32)) &&& (q0 - (1 : Int32))).toUInt32 >>> ((8 : Int32) &&& 31).toUInt32).toInt32).toUInt32 >>> ((2 : Int32) &&& 31).toUInt32).toInt32)), .val (.int (11 : Int32))]) (hb hby d16_73) rfl rfl ?_
            refine own_iloadN X0 hx (pc' := 75) (hb hby d16_74) rfl rfl ?_
            refine own_iloadN X0 hx (pc' := 76) (hb hby d16_75) rfl rfl ?_
            refine own_iconst X0 hx (pc' := 77) (1 : Int32) (hb hby d16_76) rfl rfl ?_
            refine own_iushr X0 hx (pc' := 78) (hb hby d16_77) rfl ?_
            refine own_iadd X0 hx (pc' := 79) (hb hby d16_78) rfl rfl ?_
            refine own_retI X0 hx hlk hret (hb hby d16_79) (by decide) (by decide) ?_
            exact ⟨by simp only [own_nI, own_n1, own_n2, own_n3, own_n4, own_ush, hc9_1, hc23_2, hc38_10, hc52_11, hc64_13, if_true, if_false] <;> rfl, N0, e0⟩
          · skip
            refine own_icmpYes X0 hx (pc' := 74) (hb hby d16_64) (flt hc64_13).2.2.2 (by decide) (by decide) ?_
            refine own_iloadN X0 hx (pc' := 75) (hb hby d16_74) rfl rfl ?_
            refine own_iloadN X0 hx (pc' := 76) (hb hby d16_75) rfl rfl ?_
            refine own_iconst X0 hx (pc' := 77) (1 : Int32) (hb hby d16_76) rfl rfl ?_
            refine own_iushr X0 hx (pc' := 78) (hb hby d16_77) rfl ?_
            refine own_iadd X0 hx (pc' := 79) (hb hby d16_78) rfl rfl ?_
            refine own_retI X0 hx hlk hret (hb hby d16_79) (by decide) (by decide) ?_
            exact ⟨by simp only [own_nI, own_n1, own_n2, own_n3, own_n4, own_ush, hc9_1, hc23_2, hc38_10, hc52_11, hc64_13, if_true, if_false] <;> rfl, N0, e0⟩
      · skip
        refine own_icmpYes X0 hx (pc' := 49) (hb hby d16_38) (flt hc38_10).2.2.2 (by decide) (by decide) ?_
        refine own_iloadN X0 hx (pc' := 50) (hb hby d16_49) rfl rfl ?_
        refine own_bipush X0 hx (pc' := 52) (16 : Int32) (hb hby d16_50) rfl rfl ?_
        by_cases hc52_14 : (16 : Int32) < ((q0 ^^^ (-1 : Int32)) &&& (q0 - (1 : Int32)))
        · skip
          refine own_icmpNo X0 hx (pc' := 55) (hb hby d16_52) (tlt hc52_14).2.2.2 rfl ?_
          refine own_iinc X0 hx (pc' := 58) (Ls' := #[.val (.int ((q0 ^^^ (-1 : Int32)) &&& (q0 - (1 : Int32)))), .val (.int (5 : Int32))]) (hb hby d16_55) rfl rfl rfl ?_
          refine own_iloadN X0 hx (pc' := 59) (hb hby d16_58) rfl rfl ?_
          refine own_iconst X0 hx (pc' := 60) (4 : Int32) (hb hby d16_59) rfl rfl ?_
          refine own_iushr X0 hx (pc' := 61) (hb hby d16_60) rfl ?_
          refine own_istoreN X0 hx (pc' := 62) (Ls' := #[.val (.int ((((q0 ^^^ (-1 : Int32)) &&& (q0 - (1 : Int32))).toUInt32 >>> ((4 : Int32) &&& 31).toUInt32).toInt32)), .val (.int (5 : Int32))]) (hb hby d16_61) rfl rfl ?_
          refine own_iloadN X0 hx (pc' := 63) (hb hby d16_62) rfl rfl ?_
          refine own_iconst X0 hx (pc' := 64) (4 : Int32) (hb hby d16_63) rfl rfl ?_
          by_cases hc64_15 : (4 : Int32) < ((((q0 ^^^ (-1 : Int32)) &&& (q0 - (1 : Int32))).toUInt32 >>> ((4 : Int32) &&& 31).toUInt32).toInt32)
          · skip
            refine own_icmpNo X0 hx (pc' := 67) (hb hby d16_64) (tlt hc64_15).2.2.2 rfl ?_
            refine own_iinc X0 hx (pc' := 70) (Ls' := #[.val (.int ((((q0 ^^^ (-1 : Int32)) &&& (q0 - (1 : Int32))).toUInt32 >>> ((4 : Int32) &&& 31).toUInt32).toInt32)), .val (.int (7 : Int32))]) (hb hby d16_67) rfl rfl rfl ?_
            refine own_iloadN X0 hx (pc' := 71) (hb hby d16_70) rfl rfl ?_
            refine own_iconst X0 hx (pc' := 72) (2 : Int32) (hb hby d16_71) rfl rfl ?_
            refine own_iushr X0 hx (pc' := 73) (hb hby d16_72) rfl ?_
            refine own_istoreN X0 hx (pc' := 74) (Ls' := #[.val (.int ((((((q0 ^^^ (-1 : Int32)) &&& (q0 - (1 : Int32))).toUInt32 >>> ((4 : Int32) &&& 31).toUInt32).toInt32).toUInt32 >>> ((2 : Int32) &&& 31).toUInt32).toInt32)), .val (.int (7 : Int32))]) (hb hby d16_73) rfl rfl ?_
            refine own_iloadN X0 hx (pc' := 75) (hb hby d16_74) rfl rfl ?_
            refine own_iloadN X0 hx (pc' := 76) (hb hby d16_75) rfl rfl ?_
            refine own_iconst X0 hx (pc' := 77) (1 : Int32) (hb hby d16_76) rfl rfl ?_
            refine own_iushr X0 hx (pc' := 78) (hb hby d16_77) rfl ?_
            refine own_iadd X0 hx (pc' := 79) (hb hby d16_78) rfl rfl ?_
            refine own_retI X0 hx hlk hret (hb hby d16_79) (by decide) (by decide) ?_
            exact ⟨by simp only [own_nI, own_n1, own_n2, own_n3, own_n4, own_ush, hc9_1, hc23_2, hc38_10, hc52_14, hc64_15, if_true, if_false] <;> rfl, N0, e0⟩
          · skip
            refine own_icmpYes X0 hx (pc' := 74) (hb hby d16_64) (flt hc64_15).2.2.2 (by decide) (by decide) ?_
            refine own_iloadN X0 hx (pc' := 75) (hb hby d16_74) rfl rfl ?_
            refine own_iloadN X0 hx (pc' := 76) (hb hby d16_75) rfl rfl ?_
            refine own_iconst X0 hx (pc' := 77) (1 : Int32) (hb hby d16_76) rfl rfl ?_
            refine own_iushr X0 hx (pc' := 78) (hb hby d16_77) rfl ?_
            refine own_iadd X0 hx (pc' := 79) (hb hby d16_78) rfl rfl ?_
            refine own_retI X0 hx hlk hret (hb hby d16_79) (by decide) (by decide) ?_
            exact ⟨by simp only [own_nI, own_n1, own_n2, own_n3, own_n4, own_ush, hc9_1, hc23_2, hc38_10, hc52_14, hc64_15, if_true, if_false] <;> rfl, N0, e0⟩
        · skip
          refine own_icmpYes X0 hx (pc' := 62) (hb hby d16_52) (flt hc52_14).2.2.2 (by decide) (by decide) ?_
          refine own_iloadN X0 hx (pc' := 63) (hb hby d16_62) rfl rfl ?_
          refine own_iconst X0 hx (pc' := 64) (4 : Int32) (hb hby d16_63) rfl rfl ?_
          by_cases hc64_16 : (4 : Int32) < ((q0 ^^^ (-1 : Int32)) &&& (q0 - (1 : Int32)))
          · skip
            refine own_icmpNo X0 hx (pc' := 67) (hb hby d16_64) (tlt hc64_16).2.2.2 rfl ?_
            refine own_iinc X0 hx (pc' := 70) (Ls' := #[.val (.int ((q0 ^^^ (-1 : Int32)) &&& (q0 - (1 : Int32)))), .val (.int (3 : Int32))]) (hb hby d16_67) rfl rfl rfl ?_
            refine own_iloadN X0 hx (pc' := 71) (hb hby d16_70) rfl rfl ?_
            refine own_iconst X0 hx (pc' := 72) (2 : Int32) (hb hby d16_71) rfl rfl ?_
            refine own_iushr X0 hx (pc' := 73) (hb hby d16_72) rfl ?_
            refine own_istoreN X0 hx (pc' := 74) (Ls' := #[.val (.int ((((q0 ^^^ (-1 : Int32)) &&& (q0 - (1 : Int32))).toUInt32 >>> ((2 : Int32) &&& 31).toUInt32).toInt32)), .val (.int (3 : Int32))]) (hb hby d16_73) rfl rfl ?_
            refine own_iloadN X0 hx (pc' := 75) (hb hby d16_74) rfl rfl ?_
            refine own_iloadN X0 hx (pc' := 76) (hb hby d16_75) rfl rfl ?_
            refine own_iconst X0 hx (pc' := 77) (1 : Int32) (hb hby d16_76) rfl rfl ?_
            refine own_iushr X0 hx (pc' := 78) (hb hby d16_77) rfl ?_
            refine own_iadd X0 hx (pc' := 79) (hb hby d16_78) rfl rfl ?_
            refine own_retI X0 hx hlk hret (hb hby d16_79) (by decide) (by decide) ?_
            exact ⟨by simp only [own_nI, own_n1, own_n2, own_n3, own_n4, own_ush, hc9_1, hc23_2, hc38_10, hc52_14, hc64_16, if_true, if_false] <;> rfl, N0, e0⟩
          · skip
            refine own_icmpYes X0 hx (pc' := 74) (hb hby d16_64) (flt hc64_16).2.2.2 (by decide) (by decide) ?_
            refine own_iloadN X0 hx (pc' := 75) (hb hby d16_74) rfl rfl ?_
            refine own_iloadN X0 hx (pc' := 76) (hb hby d16_75) rfl rfl ?_
            refine own_iconst X0 hx (pc' := 77) (1 : Int32) (hb hby d16_76) rfl rfl ?_
            refine own_iushr X0 hx (pc' := 78) (hb hby d16_77) rfl ?_
            refine own_iadd X0 hx (pc' := 79) (hb hby d16_78) rfl rfl ?_
            refine own_retI X0 hx hlk hret (hb hby d16_79) (by decide) (by decide) ?_
            exact ⟨by simp only [own_nI, own_n1, own_n2, own_n3, own_n4, own_ush, hc9_1, hc23_2, hc38_10, hc52_14, hc64_16, if_true, if_false] <;> rfl, N0, e0⟩
  · skip
    refine own_ifNo X0 hx (pc' := 12) (hb hby d16_9) (flt hc9_1).2.2.1 rfl ?_
    refine own_iloadN X0 hx (pc' := 13) (hb hby d16_12) rfl rfl ?_
    refine own_bipush X0 hx (pc' := 15) (32 : Int32) (hb hby d16_13) rfl rfl ?_
    refine own_iand X0 hx (pc' := 16) (hb hby d16_15) rfl rfl ?_
    refine own_retI X0 hx hlk hret (hb hby d16_16) (by decide) (by decide) ?_
    exact ⟨by simp only [own_nI, own_n1, own_n2, own_n3, own_n4, own_ush, hc9_1, if_true, if_false] <;> rfl, N0, e0⟩

theorem d15_0 : decode jdk_35_method_49_code 0 = .ok (.lload_n 0, 1) := by decide +kernel
theorem d15_1 : decode jdk_35_method_49_code 1 = .ok (.l2i, 1) := by decide +kernel
theorem d15_2 : decode jdk_35_method_49_code 2 = .ok (.istore_n 2, 1) := by decide +kernel
theorem d15_3 : decode jdk_35_method_49_code 3 = .ok (.iload_n 2, 1) := by decide +kernel
theorem d15_4 : decode jdk_35_method_49_code 4 = .ok (.ifCond .ne 17, 3) := by decide +kernel
theorem d15_7 : decode jdk_35_method_49_code 7 = .ok (.bipush 32, 2) := by decide +kernel
theorem d15_9 : decode jdk_35_method_49_code 9 = .ok (.lload_n 0, 1) := by decide +kernel
theorem d15_10 : decode jdk_35_method_49_code 10 = .ok (.bipush 32, 2) := by decide +kernel
theorem d15_12 : decode jdk_35_method_49_code 12 = .ok (.lushr, 1) := by decide +kernel
theorem d15_13 : decode jdk_35_method_49_code 13 = .ok (.l2i, 1) := by decide +kernel
theorem d15_14 : decode jdk_35_method_49_code 14 = .ok (.invokestatic 311, 3) := by decide +kernel
theorem d15_17 : decode jdk_35_method_49_code 17 = .ok (.iadd, 1) := by decide +kernel
theorem d15_18 : decode jdk_35_method_49_code 18 = .ok (.goto 7, 3) := by decide +kernel
theorem d15_21 : decode jdk_35_method_49_code 21 = .ok (.iload_n 2, 1) := by decide +kernel
theorem d15_22 : decode jdk_35_method_49_code 22 = .ok (.invokestatic 311, 3) := by decide +kernel
theorem d15_25 : decode jdk_35_method_49_code 25 = .ok (.ireturn, 1) := by decide +kernel
def QnL (x : Int64) (h0 : Heap) (n0 : Nat) (v : Option Value) (h : Heap) (L : List Loc) : Prop := v = some (.int (own_nL x)) ∧ Fr n0 L ∧ h = h0
theorem ef_rm_nL (m : MethodId) (x0 : Int64) : entryFrame m #[(.long x0)] 3 = mkF m 0 #[.val (.long x0), .second, .unset] [] := by first | (simp [entryFrame, mkF, argsToLocals, Value.category, maxLocals]; done) | rfl
theorem pf_3 : plainFor (⟨"java/lang/Long", "numberOfTrailingZeros", "(J)I"⟩ : MethodName) = true := by apply plainFor_of_name; first | (simp [plainName, overriddenIn]; done) | decide +kernel
theorem Wd84 {a0 : Array Value} {Z : State} (hw : ∀ d ∈ tables_1, d.before a0 Z = true) : (Jvm.Cond.code ({ cls := "java/lang/Integer", name := "numberOfTrailingZeros", desc := "(I)I" } : Jvm.MethodName) jdk_33_method_48_code (2 : Nat) (Option.some Jvm.ClassFile.FieldType.int)).before a0 Z = true := hw _ (List.mem_of_getElem? (i := 84) rfl)
theorem Wd83 {a0 : Array Value} {Z : State} (hw : ∀ d ∈ tables_1, d.before a0 Z = true) : (Jvm.Cond.initialized "java/lang/Integer").before a0 Z = true := hw _ (List.mem_of_getElem? (i := 83) rfl)
theorem pd_0 : parseMethodDescriptor "(I)I" = some ⟨[.int], some .int⟩ := by decide +kernel
theorem Wd81 {a0 : Array Value} {Z : State} (hw : ∀ d ∈ tables_1, d.before a0 Z = true) : (Jvm.Cond.methodLink "java/lang/Long" (311 : Nat) ({ cls := "java/lang/Integer", name := "numberOfTrailingZeros", desc := "(I)I" } : Jvm.MethodName)).before a0 Z = true := hw _ (List.mem_of_getElem? (i := 81) rfl)
theorem Wd82 {a0 : Array Value} {Z : State} (hw : ∀ d ∈ tables_1, d.before a0 Z = true) : (Jvm.Cond.static ({ cls := "java/lang/Integer", name := "numberOfTrailingZeros", desc := "(I)I" } : Jvm.MethodName)).before a0 Z = true := hw _ (List.mem_of_getElem? (i := 82) rfl)
set_option maxRecDepth 65536 in
set_option maxHeartbeats 40000000 in
theorem rm_nL (l : Launch) (Z : State) (a0 : Array Value) (hw : ∀ d ∈ tables_1, d.before a0 Z = true) (ws : List Jvm.Cond) (q0 : Int64) (h0 : Heap) (n0 : Nat) (Z0 : n0 ≤ h0.size)  :
    MetFree l (⟨"java/lang/Long", "numberOfTrailingZeros", "(J)I"⟩ : MethodName) (head1 (Jvm.Cond.code (⟨"java/lang/Long", "numberOfTrailingZeros", "(J)I"⟩ : MethodName) jdk_35_method_49_code 3 (some .int) :: ws) ({ frames := 1, cells := 0, slots := 0, locals := 14 } : Room)) (fun aa U => aa = #[(.long q0)] ∧ Z.Warmed39 U.vm ∧ U.heap = h0) (fun _ _ _ _ _ => True) (fun _ U o U' => ∃ v L, o = .returned v ∧ QnL q0 h0 n0 v U'.heap L ∧ FrameEnd U o U' L (({ frames := 1, cells := 0, slots := 0, locals := 14 } : Room).cells) (({ frames := 1, cells := 0, slots := 0, locals := 14 } : Room).slots)) := by
  refine own_body pf_3 ?_
  intro p e s m below meth c s₁ hx hby hml hown hnm hlk hret hZ X0 e0
  have N0 : Fr n0 [] := Fr.nil n0
  refine own_go (f' := (mkF m 0 #[.val (.long q0), .second, .unset] [])) (fun t k => castTop (ef_rm_nL m q0) k) ?_
  refine own_lloadN X0 hx (pc' := 1) (hb hby d15_0) rfl rfl ?_
  refine own_l2i X0 hx (pc' := 2) (hb hby d15_1) rfl ?_
  refine own_istoreN X0 hx (pc' := 3) (Ls' := #[.val (.long q0), .second, .val (.int (q0.toInt32))]) (hb hby d15_2) rfl rfl ?_
  refine own_iloadN X0 hx (pc' := 4) (hb hby d15_3) rfl rfl ?_
  by_cases hc4_1 : (q0.toInt32) = (0 : Int32)
  · skip
    refine own_ifNo X0 hx (pc' := 7) (hb hby d15_4) (teq hc4_1).2 rfl ?_
    refine own_bipush X0 hx (pc' := 9) (32 : Int32) (hb hby d15_7) rfl rfl ?_
    refine own_lloadN X0 hx (pc' := 10) (hb hby d15_9) rfl rfl ?_
    refine own_bipush X0 hx (pc' := 12) (32 : Int32) (hb hby d15_10) rfl rfl ?_
    refine own_lushr X0 hx (pc' := 13) (hb hby d15_12) rfl ?_
    refine own_l2i X0 hx (pc' := 14) (hb hby d15_13) rfl ?_
    refine own_callS X0 hx (pc' := 17) hZ hown (Wd81 hw) (Wd82 hw) (Wd83 hw) (Wd84 hw) (by decide) (rm_nI l Z a0 hw [] (((q0.toUInt64 >>> ((32 : Int32) &&& 0x3f).toInt64.toUInt64).toInt64).toInt32) h0 n0 Z0) e0 1 (by decide) (by decide) (by decide) (by decide) [(.int (((q0.toUInt64 >>> ((32 : Int32) &&& 0x3f).toInt64.toUInt64).toInt64).toInt32))] [(.int (32 : Int32))] (by rw [hml]; rfl) (lenOf pd_0 rfl) rfl rfl (Nat.le_of_eq rfl) (hb hby d15_14) rfl (fun v2 T2 L2 X2 hQ2 => ?_)
    obtain ⟨rfl, Nq2, e2⟩ := hQ2
    have N3 := Fr.app N0 Nq2
    show own_G p.tables e below _ T2 (mkF m 17 #[.val (.long q0), .second, .val (.int (q0.toInt32))] [(.int (own_nI (((q0.toUInt64 >>> ((32 : Int32) &&& 0x3f).toInt64.toUInt64).toInt64).toInt32))), (.int (32 : Int32))])
    refine own_iadd X2 hx (pc' := 18) (hb hby d15_17) rfl rfl ?_
    refine own_goto X2 hx (pc' := 25) (hb hby d15_18) (by decide) (by decide) ?_
    refine own_retI X2 hx hlk hret (hb hby d15_25) (by decide) (by decide) ?_
    exact ⟨by simp only [own_nL, hc4_1, if_true, if_false], N3, e2⟩
  · skip
    refine own_ifYes X0 hx (pc' := 21) (hb hby d15_4) (feq hc4_1).2 (by decide) (by decide) ?_
    refine own_iloadN X0 hx (pc' := 22) (hb hby d15_21) rfl rfl ?_
    refine own_callS X0 hx (pc' := 25) hZ hown (Wd81 hw) (Wd82 hw) (Wd83 hw) (Wd84 hw) (by decide) (rm_nI l Z a0 hw [] (q0.toInt32) h0 n0 Z0) e0 0 (by decide) (by decide) (by decide) (by decide) [(.int (q0.toInt32))] [] (by rw [hml]; rfl) (lenOf pd_0 rfl) rfl rfl (Nat.le_of_eq rfl) (hb hby d15_22) rfl (fun v4 T4 L4 X4 hQ4 => ?_)
    obtain ⟨rfl, Nq4, e4⟩ := hQ4
    have N5 := Fr.app N0 Nq4
    show own_G p.tables e below _ T4 (mkF m 25 #[.val (.long q0), .second, .val (.int (q0.toInt32))] [(.int (own_nI (q0.toInt32)))])
    refine own_retI X4 hx hlk hret (hb hby d15_25) (by decide) (by decide) ?_
    exact ⟨by simp only [own_nL, hc4_1, if_true, if_false], N5, e4⟩

theorem d19_0 : decode jdk_33_method_47_code 0 = .ok (.iload_n 0, 1) := by decide +kernel
theorem d19_1 : decode jdk_33_method_47_code 1 = .ok (.ifCond .gt 14, 3) := by decide +kernel
theorem d19_4 : decode jdk_33_method_47_code 4 = .ok (.iload_n 0, 1) := by decide +kernel
theorem d19_5 : decode jdk_33_method_47_code 5 = .ok (.ifCond .ne 8, 3) := by decide +kernel
theorem d19_8 : decode jdk_33_method_47_code 8 = .ok (.bipush 32, 2) := by decide +kernel
theorem d19_10 : decode jdk_33_method_47_code 10 = .ok (.goto 4, 3) := by decide +kernel
theorem d19_13 : decode jdk_33_method_47_code 13 = .ok (.iconst 0, 1) := by decide +kernel
theorem d19_14 : decode jdk_33_method_47_code 14 = .ok (.ireturn, 1) := by decide +kernel
theorem d19_15 : decode jdk_33_method_47_code 15 = .ok (.bipush 31, 2) := by decide +kernel
theorem d19_17 : decode jdk_33_method_47_code 17 = .ok (.istore_n 1, 1) := by decide +kernel
theorem d19_18 : decode jdk_33_method_47_code 18 = .ok (.iload_n 0, 1) := by decide +kernel
theorem d19_19 : decode jdk_33_method_47_code 19 = .ok (.ldc_w 264, 3) := by decide +kernel
theorem d19_22 : decode jdk_33_method_47_code 22 = .ok (.if_icmp .lt 11, 3) := by decide +kernel
theorem d19_25 : decode jdk_33_method_47_code 25 = .ok (.iinc 1 (-16), 3) := by decide +kernel
theorem d19_28 : decode jdk_33_method_47_code 28 = .ok (.iload_n 0, 1) := by decide +kernel
theorem d19_29 : decode jdk_33_method_47_code 29 = .ok (.bipush 16, 2) := by decide +kernel
theorem d19_31 : decode jdk_33_method_47_code 31 = .ok (.iushr, 1) := by decide +kernel
theorem d19_32 : decode jdk_33_method_47_code 32 = .ok (.istore_n 0, 1) := by decide +kernel
theorem d19_33 : decode jdk_33_method_47_code 33 = .ok (.iload_n 0, 1) := by decide +kernel
theorem d19_34 : decode jdk_33_method_47_code 34 = .ok (.sipush 256, 3) := by decide +kernel
theorem d19_37 : decode jdk_33_method_47_code 37 = .ok (.if_icmp .lt 11, 3) := by decide +kernel
theorem d19_40 : decode jdk_33_method_47_code 40 = .ok (.iinc 1 (-8), 3) := by decide +kernel
theorem d19_43 : decode jdk_33_method_47_code 43 = .ok (.iload_n 0, 1) := by decide +kernel
theorem d19_44 : decode jdk_33_method_47_code 44 = .ok (.bipush 8, 2) := by decide +kernel
theorem d19_46 : decode jdk_33_method_47_code 46 = .ok (.iushr, 1) := by decide +kernel
theorem d19_47 : decode jdk_33_method_47_code 47 = .ok (.istore_n 0, 1) := by decide +kernel
theorem d19_48 : decode jdk_33_method_47_code 48 = .ok (.iload_n 0, 1) := by decide +kernel
theorem d19_49 : decode jdk_33_method_47_code 49 = .ok (.bipush 16, 2) := by decide +kernel
theorem d19_51 : decode jdk_33_method_47_code 51 = .ok (.if_icmp .lt 10, 3) := by decide +kernel
theorem d19_54 : decode jdk_33_method_47_code 54 = .ok (.iinc 1 (-4), 3) := by decide +kernel
theorem d19_57 : decode jdk_33_method_47_code 57 = .ok (.iload_n 0, 1) := by decide +kernel
theorem d19_58 : decode jdk_33_method_47_code 58 = .ok (.iconst 4, 1) := by decide +kernel
theorem d19_59 : decode jdk_33_method_47_code 59 = .ok (.iushr, 1) := by decide +kernel
theorem d19_60 : decode jdk_33_method_47_code 60 = .ok (.istore_n 0, 1) := by decide +kernel
theorem d19_61 : decode jdk_33_method_47_code 61 = .ok (.iload_n 0, 1) := by decide +kernel
theorem d19_62 : decode jdk_33_method_47_code 62 = .ok (.iconst 4, 1) := by decide +kernel
theorem d19_63 : decode jdk_33_method_47_code 63 = .ok (.if_icmp .lt 10, 3) := by decide +kernel
theorem d19_66 : decode jdk_33_method_47_code 66 = .ok (.iinc 1 (-2), 3) := by decide +kernel
theorem d19_69 : decode jdk_33_method_47_code 69 = .ok (.iload_n 0, 1) := by decide +kernel
theorem d19_70 : decode jdk_33_method_47_code 70 = .ok (.iconst 2, 1) := by decide +kernel
theorem d19_71 : decode jdk_33_method_47_code 71 = .ok (.iushr, 1) := by decide +kernel
theorem d19_72 : decode jdk_33_method_47_code 72 = .ok (.istore_n 0, 1) := by decide +kernel
theorem d19_73 : decode jdk_33_method_47_code 73 = .ok (.iload_n 1, 1) := by decide +kernel
theorem d19_74 : decode jdk_33_method_47_code 74 = .ok (.iload_n 0, 1) := by decide +kernel
theorem d19_75 : decode jdk_33_method_47_code 75 = .ok (.iconst 1, 1) := by decide +kernel
theorem d19_76 : decode jdk_33_method_47_code 76 = .ok (.iushr, 1) := by decide +kernel
theorem d19_77 : decode jdk_33_method_47_code 77 = .ok (.isub, 1) := by decide +kernel
theorem d19_78 : decode jdk_33_method_47_code 78 = .ok (.ireturn, 1) := by decide +kernel
def QlI (x : Int32) (h0 : Heap) (n0 : Nat) (v : Option Value) (h : Heap) (L : List Loc) : Prop := v = some (.int (own_lI x)) ∧ Fr n0 L ∧ h = h0
theorem ef_rm_lI (m : MethodId) (x0 : Int32) : entryFrame m #[(.int x0)] 2 = mkF m 0 #[.val (.int x0), .unset] [] := by first | (simp [entryFrame, mkF, argsToLocals, Value.category, maxLocals]; done) | rfl
theorem pf_4 : plainFor (⟨"java/lang/Integer", "numberOfLeadingZeros", "(I)I"⟩ : MethodName) = true := by apply plainFor_of_name; first | (simp [plainName, overriddenIn]; done) | decide +kernel
set_option maxRecDepth 65536 in
set_option maxHeartbeats 40000000 in
theorem rm_lI (l : Launch) (Z : State) (a0 : Array Value) (hw : ∀ d ∈ tables_1, d.before a0 Z = true) (ws : List Jvm.Cond) (q0 : Int32) (h0 : Heap) (n0 : Nat) (Z0 : n0 ≤ h0.size)  :
    MetFree l (⟨"java/lang/Integer", "numberOfLeadingZeros", "(I)I"⟩ : MethodName) (head1 (Jvm.Cond.code (⟨"java/lang/Integer", "numberOfLeadingZeros", "(I)I"⟩ : MethodName) jdk_33_method_47_code 2 (some .int) :: ws) ({ frames := 0, cells := 0, slots := 0, locals := 0 } : Room)) (fun aa U => aa = #[(.int q0)] ∧ Z.Warmed39 U.vm ∧ U.heap = h0) (fun _ _ _ _ _ => True) (fun _ U o U' => ∃ v L, o = .returned v ∧ QlI q0 h0 n0 v U'.heap L ∧ FrameEnd U o U' L (({ frames := 0, cells := 0, slots := 0, locals := 0 } : Room).cells) (({ frames := 0, cells := 0, slots := 0, locals := 0 } : Room).slots)) := by
  refine own_body pf_4 ?_
  intro p e s m below meth c s₁ hx hby hml hown hnm hlk hret hZ X0 e0
  have N0 : Fr n0 [] := Fr.nil n0
  refine own_go (f' := (mkF m 0 #[.val (.int q0), .unset] [])) (fun t k => castTop (ef_rm_lI m q0) k) ?_
  refine own_iloadN X0 hx (pc' := 1) (hb hby d19_0) rfl rfl ?_
  by_cases hc1_1 : (0 : Int32) < q0
  · skip
    refine own_ifYes X0 hx (pc' := 15) (hb hby d19_1) (tlt hc1_1).2.2.1 (by decide) (by decide) ?_
    refine own_bipush X0 hx (pc' := 17) (31 : Int32) (hb hby d19_15) rfl rfl ?_
    refine own_istoreN X0 hx (pc' := 18) (Ls' := #[.val (.int q0), .val (.int (31 : Int32))]) (hb hby d19_17) rfl rfl ?_
    refine own_iloadN X0 hx (pc' := 19) (hb hby d19_18) rfl rfl ?_
    refine own_ldcwI X0 hx (pc' := 22) hZ hown (Wd96 hw) (hb hby d19_19) rfl ?_
    by_cases hc22_2 : q0 < (65536 : Int32)
    · skip
      refine own_icmpYes X0 hx (pc' := 33) (hb hby d19_22) (tlt hc22_2).1 (by decide) (by decide) ?_
      refine own_iloadN X0 hx (pc' := 34) (hb hby d19_33) rfl rfl ?_
      refine own_sipush X0 hx (pc' := 37) (256 : Int32) (hb hby d19_34) rfl rfl ?_
      by_cases hc37_3 : q0 < (256 : Int32)
      · skip
        refine own_icmpYes X0 hx (pc' := 48) (hb hby d19_37) (tlt hc37_3).1 (by decide) (by decide) ?_
        refine own_iloadN X0 hx (pc' := 49) (hb hby d19_48) rfl rfl ?_
        refine own_bipush X0 hx (pc' := 51) (16 : Int32) (hb hby d19_49) rfl rfl ?_
        by_cases hc51_4 : q0 < (16 : Int32)
        · skip
          refine own_icmpYes X0 hx (pc' := 61) (hb hby d19_51) (tlt hc51_4).1 (by decide) (by decide) ?_
          refine own_iloadN X0 hx (pc' := 62) (hb hby d19_61) rfl rfl ?_
          refine own_iconst X0 hx (pc' := 63) (4 : Int32) (hb hby d19_62) rfl rfl ?_
          by_cases hc63_5 : q0 < (4 : Int32)
          · skip
            refine own_icmpYes X0 hx (pc' := 73) (hb hby d19_63) (tlt hc63_5).1 (by decide) (by decide) ?_
            refine own_iloadN X0 hx (pc' := 74) (hb hby d19_73) rfl rfl ?_
            refine own_iloadN X0 hx (pc' := 75) (hb hby d19_74) rfl rfl ?_
            refine own_iconst X0 hx (pc' := 76) (1 : Int32) (hb hby d19_75) rfl rfl ?_
            refine own_iushr X0 hx (pc' := 77) (hb hby d19_76) rfl ?_
            refine own_isub X0 hx (pc' := 78) (hb hby d19_77) rfl rfl ?_
            refine own_retI X0 hx hlk hret (hb hby d19_78) (by decide) (by decide) ?_
            exact ⟨by simp only [own_lI, own_l1, own_l2, own_l3, own_l4, own_ush, hc1_1, hc22_2, hc37_3, hc51_4, hc63_5, if_true, if_false] <;> rfl, N0, e0⟩
          · skip
            refine own_icmpNo X0 hx (pc' := 66) (hb hby d19_63) (flt hc63_5).1 rfl ?_
            refine own_iinc X0 hx (pc' := 69) (Ls' := #[.val (.int q0), .val (.int (29 : Int32))]) (hb hby d19_66) rfl rfl rfl ?_
            refine own_iloadN X0 hx (pc' := 70) (hb hby d19_69) rfl rfl ?_
            refine own_iconst X0 hx (pc' := 71) (2 : Int32) (hb hby d19_70) rfl rfl ?_
            refine own_iushr X0 hx (pc' := 72) (hb hby d19_71) rfl ?_
            refine own_istoreN X0 hx (pc' := 73) (Ls' := #[.val (.int ((q0.toUInt32 >>> ((2 : Int32) &&& 31).toUInt32).toInt32)), .val (.int (29 : Int32))]) (hb hby d19_72) rfl rfl ?_
            refine own_iloadN X0 hx (pc' := 74) (hb hby d19_73) rfl rfl ?_
            refine own_iloadN X0 hx (pc' := 75) (hb hby d19_74) rfl rfl ?_
            refine own_iconst X0 hx (pc' := 76) (1 : Int32) (hb hby d19_75) rfl rfl ?_
            refine own_iushr X0 hx (pc' := 77) (hb hby d19_76) rfl ?_
            refine own_isub X0 hx (pc' := 78) (hb hby d19_77) rfl rfl ?_
            refine own_retI X0 hx hlk hret (hb hby d19_78) (by decide) (by decide) ?_
            exact ⟨by simp only [own_lI, own_l1, own_l2, own_l3, own_l4, own_ush, hc1_1, hc22_2, hc37_3, hc51_4, hc63_5, if_true, if_false] <;> rfl, N0, e0⟩
        · skip
          refine own_icmpNo X0 hx (pc' := 54) (hb hby d19_51) (flt hc51_4).1 rfl ?_
          refine own_iinc X0 hx (pc' := 57) (Ls' := #[.val (.int q0), .val (.int (27 : Int32))]) (hb hby d19_54) rfl rfl rfl ?_
          refine own_iloadN X0 hx (pc' := 58) (hb hby d19_57) rfl rfl ?_
          refine own_iconst X0 hx (pc' := 59) (4 : Int32) (hb hby d19_58) rfl rfl ?_
          refine own_iushr X0 hx (pc' := 60) (hb hby d19_59) rfl ?_
          refine own_istoreN X0 hx (pc' := 61) (Ls' := #[.val (.int ((q0.toUInt32 >>> ((4 : Int32) &&& 31).toUInt32).toInt32)), .val (.int (27 : Int32))]) (hb hby d19_60) rfl rfl ?_
          refine own_iloadN X0 hx (pc' := 62) (hb hby d19_61) rfl rfl ?_
          refine own_iconst X0 hx (pc' := 63) (4 : Int32) (hb hby d19_62) rfl rfl ?_
          by_cases hc63_6 : ((q0.toUInt32 >>> ((4 : Int32) &&& 31).toUInt32).toInt32) < (4 : Int32)
          · skip
            refine own_icmpYes X0 hx (pc' := 73) (hb hby d19_63) (tlt hc63_6).1 (by decide) (by decide) ?_
            refine own_iloadN X0 hx (pc' := 74) (hb hby d19_73) rfl rfl ?_
            refine own_iloadN X0 hx (pc' := 75) (hb hby d19_74) rfl rfl ?_
            refine own_iconst X0 hx (pc' := 76) (1 : Int32) (hb hby d19_75) rfl rfl ?_
            refine own_iushr X0 hx (pc' := 77) (hb hby d19_76) rfl ?_
            refine own_isub X0 hx (pc' := 78) (hb hby d19_77) rfl rfl ?_
            refine own_retI X0 hx hlk hret (hb hby d19_78) (by decide) (by decide) ?_
            exact ⟨by simp only [own_lI, own_l1, own_l2, own_l3, own_l4, own_ush, hc1_1, hc22_2, hc37_3, hc51_4, hc63_6, if_true, if_false] <;> rfl, N0, e0⟩
          · skip
            refine own_icmpNo X0 hx (pc' := 66) (hb hby d19_63) (flt hc63_6).1 rfl ?_
            refine own_iinc X0 hx (pc' := 69) (Ls' := #[.val (.int ((q0.toUInt32 >>> ((4 : Int32) &&& 31).toUInt32).toInt32)), .val (.int (25 : Int32))]) (hb hby d19_66) rfl rfl rfl ?_
            refine own_iloadN X0 hx (pc' := 70) (hb hby d19_69) rfl rfl ?_
            refine own_iconst X0 hx (pc' := 71) (2 : Int32) (hb hby d19_70) rfl rfl ?_
            refine own_iushr X0 hx (pc' := 72) (hb hby d19_71) rfl ?_
            refine own_istoreN X0 hx (pc' := 73) (Ls' := #[.val (.int ((((q0.toUInt32 >>> ((4 : Int32) &&& 31).toUInt32).toInt32).toUInt32 >>> ((2 : Int32) &&& 31).toUInt32).toInt32)), .val (.int (25 : Int32))]) (hb hby d19_72) rfl rfl ?_
            refine own_iloadN X0 hx (pc' := 74) (hb hby d19_73) rfl rfl ?_
            refine own_iloadN X0 hx (pc' := 75) (hb hby d19_74) rfl rfl ?_
            refine own_iconst X0 hx (pc' := 76) (1 : Int32) (hb hby d19_75) rfl rfl ?_
            refine own_iushr X0 hx (pc' := 77) (hb hby d19_76) rfl ?_
            refine own_isub X0 hx (pc' := 78) (hb hby d19_77) rfl rfl ?_
            refine own_retI X0 hx hlk hret (hb hby d19_78) (by decide) (by decide) ?_
            exact ⟨by simp only [own_lI, own_l1, own_l2, own_l3, own_l4, own_ush, hc1_1, hc22_2, hc37_3, hc51_4, hc63_6, if_true, if_false] <;> rfl, N0, e0⟩
      · skip
        refine own_icmpNo X0 hx (pc' := 40) (hb hby d19_37) (flt hc37_3).1 rfl ?_
        refine own_iinc X0 hx (pc' := 43) (Ls' := #[.val (.int q0), .val (.int (23 : Int32))]) (hb hby d19_40) rfl rfl rfl ?_
        refine own_iloadN X0 hx (pc' := 44) (hb hby d19_43) rfl rfl ?_
        refine own_bipush X0 hx (pc' := 46) (8 : Int32) (hb hby d19_44) rfl rfl ?_
        refine own_iushr X0 hx (pc' := 47) (hb hby d19_46) rfl ?_
        refine own_istoreN X0 hx (pc' := 48) (Ls' := #[.val (.int ((q0.toUInt32 >>> ((8 : Int32) &&& 31).toUInt32).toInt32)), .val (.int (23 : Int32))]) (hb hby d19_47) rfl rfl ?_
        refine own_iloadN X0 hx (pc' := 49) (hb hby d19_48) rfl rfl ?_
        refine own_bipush X0 hx (pc' := 51) (16 : Int32) (hb hby d19_49) rfl rfl ?_
        by_cases hc51_7 : ((q0.toUInt32 >>> ((8 : Int32) &&& 31).toUInt32).toInt32) < (16 : Int32)
        · skip
          refine own_icmpYes X0 hx (pc' := 61) (hb hby d19_51) (tlt hc51_7).1 (by decide) (by decide) ?_
          refine own_iloadN X0 hx (pc' := 62) (hb hby d19_61) rfl rfl ?_
          refine own_iconst X0 hx (pc' := 63) (4 : Int32) (hb hby d19_62) rfl rfl ?_
          by_cases hc63_8 : ((q0.toUInt32 >>> ((8 : Int32) &&& 31).toUInt32).toInt32) < (4 : Int32)
          · skip
            refine own_icmpYes X0 hx (pc' := 73) (hb hby d19_63) (tlt hc63_8).1 (by decide) (by decide) ?_
            refine own_iloadN X0 hx (pc' := 74) (hb hby d19_73) rfl rfl ?_
            refine own_iloadN X0 hx (pc' := 75) (hb hby d19_74) rfl rfl ?_
            refine own_iconst X0 hx (pc' := 76) (1 : Int32) (hb hby d19_75) rfl rfl ?_
            refine own_iushr X0 hx (pc' := 77) (hb hby d19_76) rfl ?_
            refine own_isub X0 hx (pc' := 78) (hb hby d19_77) rfl rfl ?_
            refine own_retI X0 hx hlk hret (hb hby d19_78) (by decide) (by decide) ?_
            exact ⟨by simp only [own_lI, own_l1, own_l2, own_l3, own_l4, own_ush, hc1_1, hc22_2, hc37_3, hc51_7, hc63_8, if_true, if_false] <;> rfl, N0, e0⟩
          · skip
            refine own_icmpNo X0 hx (pc' := 66) (hb hby d19_63) (flt hc63_8).1 rfl ?_
            refine own_iinc X0 hx (pc' := 69) (Ls' := #[.val (.int ((q0.toUInt32 >>> ((8 : Int32) &&& 31).toUInt32).toInt32)), .val (.int (21 : Int32))]) (hb hby d19_66) rfl rfl rfl ?_
            refine own_iloadN X0 hx (pc' := 70) (hb hby d19_69) rfl rfl ?_
            refine own_iconst X0 hx (pc' := 71) (2 : Int32) (hb hby d19_70) rfl rfl ?_
            refine own_iushr X0 hx (pc' := 72) (hb hby d19_71) rfl ?_
            refine own_istoreN X0 hx (pc' := 73) (Ls' := #[.val (.int ((((q0.toUInt32 >>> ((8 : Int32) &&& 31).toUInt32).toInt32).toUInt32 >>> ((2 : Int32) &&& 31).toUInt32).toInt32)), .val (.int (21 : Int32))]) (hb hby d19_72) rfl rfl ?_
            refine own_iloadN X0 hx (pc' := 74) (hb hby d19_73) rfl rfl ?_
            refine own_iloadN X0 hx (pc' := 75) (hb hby d19_74) rfl rfl ?_
            refine own_iconst X0 hx (pc' := 76) (1 : Int32) (hb hby d19_75) rfl rfl ?_
            refine own_iushr X0 hx (pc' := 77) (hb hby d19_76) rfl ?_
            refine own_isub X0 hx (pc' := 78) (hb hby d19_77) rfl rfl ?_
            refine own_retI X0 hx hlk hret (hb hby d19_78) (by decide) (by decide) ?_
            exact ⟨by simp only [own_lI, own_l1, own_l2, own_l3, own_l4, own_ush, hc1_1, hc22_2, hc37_3, hc51_7, hc63_8, if_true, if_false] <;> rfl, N0, e0⟩
        · skip
          refine own_icmpNo X0 hx (pc' := 54) (hb hby d19_51) (flt hc51_7).1 rfl ?_
          refine own_iinc X0 hx (pc' := 57) (Ls' := #[.val (.int ((q0.toUInt32 >>> ((8 : Int32) &&& 31).toUInt32).toInt32)), .val (.int (19 : Int32))]) (hb hby d19_54) rfl rfl rfl ?_
          refine own_iloadN X0 hx (pc' := 58) (hb hby d19_57) rfl rfl ?_
          refine own_iconst X0 hx (pc' := 59) (4 : Int32) (hb hby d19_58) rfl rfl ?_
          refine own_iushr X0 hx (pc' := 60) (hb hby d19_59) rfl ?_
          refine own_istoreN X0 hx (pc' := 61) (Ls' := #[.val (.int ((((q0.toUInt32 >>> ((8 : Int32) &&& 31).toUInt32).toInt32).toUInt32 >>> ((4 : Int32) &&& 31).toUInt32).toInt32)), .val (.int (19 : Int32))]) (hb hby d19_60) rfl rfl ?_
          refine own_iloadN X0 hx (pc' := 62) (hb hby d19_61) rfl rfl ?_
          refine own_iconst X0 hx (pc' := 63) (4 : Int32) (hb hby d19_62) rfl rfl ?_
          by_cases hc63_9 : ((((q0.toUInt32 >>> ((8 : Int32) &&& 31).toUInt32).toInt32).toUInt32 >>> ((4 : Int32) &&& 31).toUInt32).toInt32) < (4 : Int32)
          · skip
            refine own_icmpYes X0 hx (pc' := 73) (hb hby d19_63) (tlt hc63_9).1 (by decide) (by decide) ?_
            refine own_iloadN X0 hx (pc' := 74) (hb hby d19_73) rfl rfl ?_
            refine own_iloadN X0 hx (pc' := 75) (hb hby d19_74) rfl rfl ?_
            refine own_iconst X0 hx (pc' := 76) (1 : Int32) (hb hby d19_75) rfl rfl ?_
            refine own_iushr X0 hx (pc' := 77) (hb hby d19_76) rfl ?_
            refine own_isub X0 hx (pc' := 78) (hb hby d19_77) rfl rfl ?_
            refine own_retI X0 hx hlk hret (hb hby d19_78) (by decide) (by decide) ?_
            exact ⟨by simp only [own_lI, own_l1, own_l2, own_l3, own_l4, own_ush, hc1_1, hc22_2, hc37_3, hc51_7, hc63_9, if_true, if_false] <;> rfl, N0, e0⟩
          · skip
            refine own_icmpNo X0 hx (pc' := 66) (hb hby d19_63) (flt hc63_9).1 rfl ?_
            refine own_iinc X0 hx (pc' := 69) (Ls' := #[.val (.int ((((q0.toUInt32 >>> ((8 : Int32) &&& 31).toUInt32).toInt32).toUInt32 >>> ((4 : Int32) &&& 31).toUInt32).toInt32)), .val (.int (17 : Int32))]) (hb hby d19_66) rfl rfl rfl ?_
            refine own_iloadN X0 hx (pc' := 70) (hb hby d19_69) rfl rfl ?_
            refine own_iconst X0 hx (pc' := 71) (2 : Int32) (hb hby d19_70) rfl rfl ?_
            refine own_iushr X0 hx (pc' := 72) (hb hby d19_71) rfl ?_
            refine own_istoreN X0 hx (pc' := 73) (Ls' := #[.val (.int ((((((q0.toUInt32 >>> ((8 : Int32) &&& 31).toUInt32).toInt32).toUInt32 >>> ((4 : Int32) &&& 31).toUInt32).toInt32).toUInt32 >>> ((2 : Int32) &&& 31).toUInt32).toInt32)), .val (.int (17 : Int32))]) (hb hby d19_72) rfl rfl ?_
            refine own_iloadN X0 hx (pc' := 74) (hb hby d19_73) rfl rfl ?_
            refine own_iloadN X0 hx (pc' := 75) (hb hby d19_74) rfl rfl ?_
            refine own_iconst X0 hx (pc' := 76) (1 : Int32) (hb hby d19_75) rfl rfl ?_
            refine own_iushr X0 hx (pc' := 77) (hb hby d19_76) rfl ?_
            refine own_isub X0 hx (pc' := 78) (hb hby d19_77) rfl rfl ?_
            refine own_retI X0 hx hlk hret (hb hby d19_78) (by decide) (by decide) ?_
            exact ⟨by simp only [own_lI, own_l1, own_l2, own_l3, own_l4, own_ush, hc1_1, hc22_2, hc37_3, hc51_7, hc63_9, if_true, if_false] <;> rfl, N0, e0⟩
    · skip
      refine own_icmpNo X0 hx (pc' := 25) (hb hby d19_22) (flt hc22_2).1 rfl ?_
      refine own_iinc X0 hx (pc' := 28) (Ls' := #[.val (.int q0), .val (.int (15 : Int32))]) (hb hby d19_25) rfl rfl rfl ?_
      refine own_iloadN X0 hx (pc' := 29) (hb hby d19_28) rfl rfl ?_
      refine own_bipush X0 hx (pc' := 31) (16 : Int32) (hb hby d19_29) rfl rfl ?_
      refine own_iushr X0 hx (pc' := 32) (hb hby d19_31) rfl ?_
      refine own_istoreN X0 hx (pc' := 33) (Ls' := #[.val (.int ((q0.toUInt32 >>> ((16 : Int32) &&& 31).toUInt32).toInt32)), .val (.int (15 : Int32))]) (hb hby d19_32) rfl rfl ?_
      refine own_iloadN X0 hx (pc' := 34) (hb hby d19_33) rfl rfl ?_
      refine own_sipush X0 hx (pc' := 37) (256 : Int32) (hb hby d19_34) rfl rfl ?_
      by_cases hc37_10 : ((q0.toUInt32 >>> ((16 : Int32) &&& 31).toUInt32).toInt32) < (256 : Int32)
      · skip
        refine own_icmpYes X0 hx (pc' := 48) (hb hby d19_37) (tlt hc37_10).1 (by decide) (by decide) ?_
        refine own_iloadN X0 hx (pc' := 49) (hb hby d19_48) rfl rfl ?_
        refine own_bipush X0 hx (pc' := 51) (16 : Int32) (hb hby d19_49) rfl rfl ?_
        by_cases hc51_11 : ((q0.toUInt32 >>> ((16 : Int32) &&& 31).toUInt32).toInt32) < (16 : Int32)
        · skip
          refine own_icmpYes X0 hx (pc' := 61) (hb hby d19_51) (tlt hc51_11).1 (by decide) (by decide) ?_
          refine own_iloadN X0 hx (pc' := 62) (hb hby d19_61) rfl rfl ?_
          refine own_iconst X0 hx (pc' := 63) (4 : Int32) (hb hby d19_62) rfl rfl ?_
          by_cases hc63_12 : ((q0.toUInt32 >>> ((16 : Int32) &&& 31).toUInt32).toInt32) < (4 : Int32)
          · skip
            refine own_icmpYes X0 hx (pc' := 73) (hb hby d19_63) (tlt hc63_12).1 (by decide) (by decide) ?_
            refine own_iloadN X0 hx (pc' := 74) (hb hby d19_73) rfl rfl ?_
            refine own_iloadN X0 hx (pc' := 75) (hb hby d19_74) rfl rfl ?_
            refine own_iconst X0 hx (pc' := 76) (1 : Int32) (hb hby d19_75) rfl rfl ?_
            refine own_iushr X0 hx (pc' := 77) (hb hby d19_76) rfl ?_
            refine own_isub X0 hx (pc' := 78) (hb hby d19_77) rfl rfl ?_
            refine own_retI X0 hx hlk hret (hb hby d19_78) (by decide) (by decide) ?_
            exact ⟨by simp only [own_lI, own_l1, own_l2, own_l3, own_l4, own_ush, hc1_1, hc22_2, hc37_10, hc51_11, hc63_12, if_true, if_false] <;> rfl, N0, e0⟩
          · skip
            refine own_icmpNo X0 hx (pc' := 66) (hb hby d19_63) (flt hc63_12).1 rfl ?_
            refine own_iinc X0 hx (pc' := 69) (Ls' := #[.val (.int ((q0.toUInt32 >>> ((16 : Int32) &&& 31).toUInt32).toInt32)), .val (.int (13 : Int32))]) (hb hby d19_66) rfl rfl rfl ?_
            refine own_iloadN X0 hx (pc' := 70) (hb hby d19_69) rfl rfl ?_
            refine own_iconst X0 hx (pc' := 71) (2 : Int32) (hb hby d19_70) rfl rfl ?_
            refine own_iushr X0 hx (pc' := 72) (hb hby d19_71) rfl ?_
            refine own_istoreN X0 hx (pc' := 73) (Ls' := #[.val (.int ((((q0.toUInt32 >>> ((16 : Int32) &&& 31).toUInt32).toInt32).toUInt32 >>> ((2 : Int32) &&& 31).toUInt32).toInt32)), .val (.int (13 : Int32))]) (hb hby d19_72) rfl rfl ?_
            refine own_iloadN X0 hx (pc' := 74) (hb hby d19_73) rfl rfl ?_
            refine own_iloadN X0 hx (pc' := 75) (hb hby d19_74) rfl rfl ?_
            refine own_iconst X0 hx (pc' := 76) (1 : Int32) (hb hby d19_75) rfl rfl ?_
            refine own_iushr X0 hx (pc' := 77) (hb hby d19_76) rfl ?_
            refine own_isub X0 hx (pc' := 78) (hb hby d19_77) rfl rfl ?_
            refine own_retI X0 hx hlk hret (hb hby d19_78) (by decide) (by decide) ?_
            exact ⟨by simp only [own_lI, own_l1, own_l2, own_l3, own_l4, own_ush, hc1_1, hc22_2, hc37_10, hc51_11, hc63_12, if_true, if_false] <;> rfl, N0, e0⟩
        · skip
          refine own_icmpNo X0 hx (pc' := 54) (hb hby d19_51) (flt hc51_11).1 rfl ?_
          refine own_iinc X0 hx (pc' := 57) (Ls' := #[.val (.int ((q0.toUInt32 >>> ((16 : Int32) &&& 31).toUInt32).toInt32)), .val (.int (11 : Int32))]) (hb hby d19_54) rfl rfl rfl ?_
          refine own_iloadN X0 hx (pc' := 58) (hb hby d19_57) rfl rfl ?_
          refine own_iconst X0 hx (pc' := 59) (4 : Int32) (hb hby d19_58) rfl rfl ?_
          refine own_iushr X0 hx (pc' := 60) (hb hby d19_59) rfl ?_
          refine own_istoreN X0 hx (pc' := 61) (Ls' := #[.val (.int ((((q0.toUInt32 >>> ((16 : Int32) &&& 31).toUInt32).toInt32).toUInt32 >>> ((4 : Int32) &&& 31).toUInt32).toInt32)), .val (.int (11 : Int32))]) (hb hby d19_60) rfl rfl ?_
          refine own_iloadN X0 hx (pc' := 62) (hb hby d19_61) rfl rfl ?_
          refine own_iconst X0 hx (pc' := 63) (4 : Int32) (hb hby d19_62) rfl rfl ?_
          by_cases hc63_13 : ((((q0.toUInt32 >>> ((16 : Int32) &&& 31).toUInt32).toInt32).toUInt32 >>> ((4 : Int32) &&& 31).toUInt32).toInt32) < (4 : Int32)
          · skip
            refine own_icmpYes X0 hx (pc' := 73) (hb hby d19_63) (tlt hc63_13).1 (by decide) (by decide) ?_
            refine own_iloadN X0 hx (pc' := 74) (hb hby d19_73) rfl rfl ?_
            refine own_iloadN X0 hx (pc' := 75) (hb hby d19_74) rfl rfl ?_
            refine own_iconst X0 hx (pc' := 76) (1 : Int32) (hb hby d19_75) rfl rfl ?_
            refine own_iushr X0 hx (pc' := 77) (hb hby d19_76) rfl ?_
            refine own_isub X0 hx (pc' := 78) (hb hby d19_77) rfl rfl ?_
            refine own_retI X0 hx hlk hret (hb hby d19_78) (by decide) (by decide) ?_
            exact ⟨by simp only [own_lI, own_l1, own_l2, own_l3, own_l4, own_ush, hc1_1, hc22_2, hc37_10, hc51_11, hc63_13, if_true, if_false] <;> rfl, N0, e0⟩
          · skip
            refine own_icmpNo X0 hx (pc' := 66) (hb hby d19_63) (flt hc63_13).1 rfl ?_
            refine own_iinc X0 hx (pc' := 69) (Ls' := #[.val (.int ((((q0.toUInt32 >>> ((16 : Int32) &&& 31).toUInt32).toInt32).toUInt32 >>> ((4 : Int32) &&& 31).toUInt32).toInt32)), .val (.int (9 : Int32))]) (hb hby d19_66) rfl rfl rfl ?_
            refine own_iloadN X0 hx (pc' := 70) (hb hby d19_69) rfl rfl ?_
            refine own_iconst X0 hx (pc' := 71) (2 : Int32) (hb hby d19_70) rfl rfl ?_
            refine own_iushr X0 hx (pc' := 72) (hb hby d19_71) rfl ?_
            refine own_istoreN X0 hx (pc' := 73) (Ls' := #[.val (.int ((((((q0.toUInt32 >>> ((16 : Int32) &&& 31).toUInt32).toInt32).toUInt32 >>> ((4 : Int32) &&& 31).toUInt32).toInt32).toUInt32 >>> ((2 : Int32) &&& 31).toUInt32).toInt32)), .val (.int (9 : Int32))]) (hb hby d19_72) rfl rfl ?_
            refine own_iloadN X0 hx (pc' := 74) (hb hby d19_73) rfl rfl ?_
            refine own_iloadN X0 hx (pc' := 75) (hb hby d19_74) rfl rfl ?_
            refine own_iconst X0 hx (pc' := 76) (1 : Int32) (hb hby d19_75) rfl rfl ?_
            refine own_iushr X0 hx (pc' := 77) (hb hby d19_76) rfl ?_
            refine own_isub X0 hx (pc' := 78) (hb hby d19_77) rfl rfl ?_
            refine own_retI X0 hx hlk hret (hb hby d19_78) (by decide) (by decide) ?_
            exact ⟨by simp only [own_lI, own_l1, own_l2, own_l3, own_l4, own_ush, hc1_1, hc22_2, hc37_10, hc51_11, hc63_13, if_true, if_false] <;> rfl, N0, e0⟩
      · skip
        refine own_icmpNo X0 hx (pc' := 40) (hb hby d19_37) (flt hc37_10).1 rfl ?_
        refine own_iinc X0 hx (pc' := 43) (Ls' := #[.val (.int ((q0.toUInt32 >>> ((16 : Int32) &&& 31).toUInt32).toInt32)), .val (.int (7 : Int32))]) (hb hby d19_40) rfl rfl rfl ?_
        refine own_iloadN X0 hx (pc' := 44) (hb hby d19_43) rfl rfl ?_
        refine own_bipush X0 hx (pc' := 46) (8 : Int32) (hb hby d19_44) rfl rfl ?_
        refine own_iushr X0 hx (pc' := 47) (hb hby d19_46) rfl ?_
        refine own_istoreN X0 hx (pc' := 48) (Ls' := #[.val (.int ((((q0.toUInt32 >>> ((16 : Int32) &&& 31).toUInt32).toInt32).toUInt32 >>> ((8 : Int32) &&& 31).toUInt32).toInt32)), .val (.int (7 : Int32))]) (hb hby d19_47) rfl rfl ?_
        refine own_iloadN X0 hx (pc' := 49) (hb hby d19_48) rfl rfl ?_
        refine own_bipush X0 hx (pc' := 51) (16 : Int32) (hb hby d19_49) rfl rfl ?_
        by_cases hc51_14 : ((((q0.toUInt32 >>> ((16 : Int32) &&& 31).toUInt32).toInt32).toUInt32 >>> ((8 : Int32) &&& 31).toUInt32).toInt32) < (16 : Int32)
        · skip
          refine own_icmpYes X0 hx (pc' := 61) (hb hby d19_51) (tlt hc51_14).1 (by decide) (by decide) ?_
          refine own_iloadN X0 hx (pc' := 62) (hb hby d19_61) rfl rfl ?_
          refine own_iconst X0 hx (pc' := 63) (4 : Int32) (hb hby d19_62) rfl rfl ?_
          by_cases hc63_15 : ((((q0.toUInt32 >>> ((16 : Int32) &&& 31).toUInt32).toInt32).toUInt32 >>> ((8 : Int32) &&& 31).toUInt32).toInt32) < (4 : Int32)
          · skip
            refine own_icmpYes X0 hx (pc' := 73) (hb hby d19_63) (tlt hc63_15).1 (by decide) (by decide) ?_
            refine own_iloadN X0 hx (pc' := 74) (hb hby d19_73) rfl rfl ?_
            refine own_iloadN X0 hx (pc' := 75) (hb hby d19_74) rfl rfl ?_
            refine own_iconst X0 hx (pc' := 76) (1 : Int32) (hb hby d19_75) rfl rfl ?_
            refine own_iushr X0 hx (pc' := 77) (hb hby d19_76) rfl ?_
            refine own_isub X0 hx (pc' := 78) (hb hby d19_77) rfl rfl ?_
            refine own_retI X0 hx hlk hret (hb hby d19_78) (by decide) (by decide) ?_
            exact ⟨by simp only [own_lI, own_l1, own_l2, own_l3, own_l4, own_ush, hc1_1, hc22_2, hc37_10, hc51_14, hc63_15, if_true, if_false] <;> rfl, N0, e0⟩
          · skip
            refine own_icmpNo X0 hx (pc' := 66) (hb hby d19_63) (flt hc63_15).1 rfl ?_
            refine own_iinc X0 hx (pc' := 69) (Ls' := #[.val (.int ((((q0.toUInt32 >>> ((16 : Int32) &&& 31).toUInt32).toInt32).toUInt32 >>> ((8 : Int32) &&& 31).toUInt32).toInt32)), .val (.int (5 : Int32))]) (hb hby d19_66) rfl rfl rfl ?_
            refine own_iloadN X0 hx (pc' := 70) (hb hby d19_69) rfl rfl ?_
            refine own_iconst X0 hx (pc' := 71) (2 : Int32) (hb hby d19_70) rfl rfl ?_
            refine own_iushr X0 hx (pc' := 72) (hb hby d19_71) rfl ?_
            refine own_istoreN X0 hx (pc' := 73) (Ls' := #[.val (.int ((((((q0.toUInt32 >>> ((16 : Int32) &&& 31).toUInt32).toInt32).toUInt32 >>> ((8 : Int32) &&& 31).toUInt32).toInt32).toUInt32 >>> ((2 : Int32) &&& 31).toUInt32).toInt32)), .val (.int (5 : Int32))]) (hb hby d19_72) rfl rfl ?_
            refine own_iloadN X0 hx (pc' := 74) (hb hby d19_73) rfl rfl ?_
            refine own_iloadN X0 hx (pc' := 75) (hb hby d19_74) rfl rfl ?_
            refine own_iconst X0 hx (pc' := 76) (1 : Int32) (hb hby d19_75) rfl rfl ?_
            refine own_iushr X0 hx (pc' := 77) (hb hby d19_76) rfl ?_
            refine own_isub X0 hx (pc' := 78) (hb hby d19_77) rfl rfl ?_
            refine own_retI X0 hx hlk hret (hb hby d19_78) (by decide) (by decide) ?_
            exact ⟨by simp only [own_lI, own_l1, own_l2, own_l3, own_l4, own_ush, hc1_1, hc22_2, hc37_10, hc51_14, hc63_15, if_true, if_false] <;> rfl, N0, e0⟩
        · skip
          refine own_icmpNo X0 hx (pc' := 54) (hb hby d19_51) (flt hc51_14).1 rfl ?_
          refine own_iinc X0 hx (pc' := 57) (Ls' := #[.val (.int ((((q0.toUInt32 >>> ((16 : Int32) &&& 31).toUInt32).toInt32).toUInt32 >>> ((8 : Int32) &&& 31).toUInt32).toInt32)), .val (.int (3 : Int32))]) (hb hby d19_54) rfl rfl rfl ?_
          refine own_iloadN X0 hx (pc' := 58) (hb hby d19_57) rfl rfl ?_
          refine own_iconst X0 hx (pc' := 59) (4 : Int32) (hb hby d19_58) rfl rfl ?_
          refine own_iushr X0 hx (pc' := 60) (hb hby d19_59) rfl ?_
          refine own_istoreN X0 hx (pc' := 61) (Ls' := #[.val (.int ((((((q0.toUInt32 >>> ((16 : Int32) &&& 31).toUInt32).toInt32).toUInt32 >>> ((8 : Int32) &&& 31).toUInt32).toInt32).toUInt32 >>> ((4 : Int32) &&& 31).toUInt32).toInt32)), .val (.int (3 : Int32))]) (hb hby d19_60) rfl rfl ?_
          refine own_iloadN X0 hx (pc' := 62) (hb hby d19_61) rfl rfl ?_
          refine own_iconst X0 hx (pc' := 63) (4 : Int32) (hb hby d19_62) rfl rfl ?_
          by_cases hc63_16 : ((((((q0.toUInt32 >>> ((16 : Int32) &&& 31).toUInt32).toInt32).toUInt32 >>> ((8 : Int32) &&& 31).toUInt32).toInt32).toUInt32 >>> ((4 : Int32) &&& 31).toUInt32).toInt32) < (4 : Int32)
          · skip
            refine own_icmpYes X0 hx (pc' := 73) (hb hby d19_63) (tlt hc63_16).1 (by decide) (by decide) ?_
            refine own_iloadN X0 hx (pc' := 74) (hb hby d19_73) rfl rfl ?_
            refine own_iloadN X0 hx (pc' := 75) (hb hby d19_74) rfl rfl ?_
            refine own_iconst X0 hx (pc' := 76) (1 : Int32) (hb hby d19_75) rfl rfl ?_
            refine own_iushr X0 hx (pc' := 77) (hb hby d19_76) rfl ?_
            refine own_isub X0 hx (pc' := 78) (hb hby d19_77) rfl rfl ?_
            refine own_retI X0 hx hlk hret (hb hby d19_78) (by decide) (by decide) ?_
            exact ⟨by simp only [own_lI, own_l1, own_l2, own_l3, own_l4, own_ush, hc1_1, hc22_2, hc37_10, hc51_14, hc63_16, if_true, if_false] <;> rfl, N0, e0⟩
          · skip
            refine own_icmpNo X0 hx (pc' := 66) (hb hby d19_63) (flt hc63_16).1 rfl ?_
            refine own_iinc X0 hx (pc' := 69) (Ls' := #[.val (.int ((((((q0.toUInt32 >>> ((16 : Int32) &&& 31).toUInt32).toInt32).toUInt32 >>> ((8 : Int32) &&& 31).toUInt32).toInt32).toUInt32 >>> ((4 : Int32) &&& 31).toUInt32).toInt32)), .val (.int (1 : Int32))]) (hb hby d19_66) rfl rfl rfl ?_
            refine own_iloadN X0 hx (pc' := 70) (hb hby d19_69) rfl rfl ?_
            refine own_iconst X0 hx (pc' := 71) (2 : Int32) (hb hby d19_70) rfl rfl ?_
            refine own_iushr X0 hx (pc' := 72) (hb hby d19_71) rfl ?_
            refine own_istoreN X0 hx (pc' := 73) (Ls' := #[.val (.int ((((((((q0.toUInt32 >>> ((16 : Int32) &&& 31).toUInt32).toInt32).toUInt32 >>> ((8 : Int32) &&& 31).toUInt32).toInt32).toUInt32 >>> ((4 : Int32) &&& 31).toUInt32).toInt32).toUInt32 >>> ((2 : Int32) &&& 31).toUInt32).toInt32)), .val (.int (1 : Int32))]) (hb hby d19_72) rfl rfl ?_
            refine own_iloadN X0 hx (pc' := 74) (hb hby d19_73) rfl rfl ?_
            refine own_iloadN X0 hx (pc' := 75) (hb hby d19_74) rfl rfl ?_
            refine own_iconst X0 hx (pc' := 76) (1 : Int32) (hb hby d19_75) rfl rfl ?_
            refine own_iushr X0 hx (pc' := 77) (hb hby d19_76) rfl ?_
            refine own_isub X0 hx (pc' := 78) (hb hby d19_77) rfl rfl ?_
            refine own_retI X0 hx hlk hret (hb hby d19_78) (by decide) (by decide) ?_
            exact ⟨by simp only [own_lI, own_l1, own_l2, own_l3, own_l4, own_ush, hc1_1, hc22_2, hc37_10, hc51_14, hc63_16, if_true, if_false] <;> rfl, N0, e0⟩
  · skip
    refine own_ifNo X0 hx (pc' := 4) (hb hby d19_1) (flt hc1_1).2.2.1 rfl ?_
    refine own_iloadN X0 hx (pc' := 5) (hb hby d19_4) rfl rfl ?_
    by_cases hc5_17 : q0 = (0 : Int32)
    · skip
      refine own_ifNo X0 hx (pc' := 8) (hb hby d19_5) (teq hc5_17).2 rfl ?_
      refine own_bipush X0 hx (pc' := 10) (32 : Int32) (hb hby d19_8) rfl rfl ?_
      refine own_goto X0 hx (pc' := 14) (hb hby d19_10) (by decide) (by decide) ?_
      refine own_retI X0 hx hlk hret (hb hby d19_14) (by decide) (by decide) ?_
      exact ⟨by simp only [own_lI, own_l1, own_l2, own_l3, own_l4, own_ush, hc1_1, hc5_17, if_true, if_false] <;> rfl, N0, e0⟩
    · skip
      refine own_ifYes X0 hx (pc' := 13) (hb hby d19_5) (feq hc5_17).2 (by decide) (by decide) ?_
      refine own_iconst X0 hx (pc' := 14) (0 : Int32) (hb hby d19_13) rfl rfl ?_
      refine own_retI X0 hx hlk hret (hb hby d19_14) (by decide) (by decide) ?_
      exact ⟨by simp only [own_lI, own_l1, own_l2, own_l3, own_l4, own_ush, hc1_1, hc5_17, if_true, if_false] <;> rfl, N0, e0⟩

theorem d18_0 : decode jdk_35_method_48_code 0 = .ok (.lload_n 0, 1) := by decide +kernel
theorem d18_1 : decode jdk_35_method_48_code 1 = .ok (.bipush 32, 2) := by decide +kernel
theorem d18_3 : decode jdk_35_method_48_code 3 = .ok (.lushr, 1) := by decide +kernel
theorem d18_4 : decode jdk_35_method_48_code 4 = .ok (.l2i, 1) := by decide +kernel
theorem d18_5 : decode jdk_35_method_48_code 5 = .ok (.istore_n 2, 1) := by decide +kernel
theorem d18_6 : decode jdk_35_method_48_code 6 = .ok (.iload_n 2, 1) := by decide +kernel
theorem d18_7 : decode jdk_35_method_48_code 7 = .ok (.ifCond .ne 14, 3) := by decide +kernel
theorem d18_10 : decode jdk_35_method_48_code 10 = .ok (.bipush 32, 2) := by decide +kernel
theorem d18_12 : decode jdk_35_method_48_code 12 = .ok (.lload_n 0, 1) := by decide +kernel
theorem d18_13 : decode jdk_35_method_48_code 13 = .ok (.l2i, 1) := by decide +kernel
theorem d18_14 : decode jdk_35_method_48_code 14 = .ok (.invokestatic 308, 3) := by decide +kernel
theorem d18_17 : decode jdk_35_method_48_code 17 = .ok (.iadd, 1) := by decide +kernel
theorem d18_18 : decode jdk_35_method_48_code 18 = .ok (.goto 7, 3) := by decide +kernel
theorem d18_21 : decode jdk_35_method_48_code 21 = .ok (.iload_n 2, 1) := by decide +kernel
theorem d18_22 : decode jdk_35_method_48_code 22 = .ok (.invokestatic 308, 3) := by decide +kernel
theorem d18_25 : decode jdk_35_method_48_code 25 = .ok (.ireturn, 1) := by decide +kernel
def QlL (x : Int64) (h0 : Heap) (n0 : Nat) (v : Option Value) (h : Heap) (L : List Loc) : Prop := v = some (.int (own_lL x)) ∧ Fr n0 L ∧ h = h0
theorem ef_rm_lL (m : MethodId) (x0 : Int64) : entryFrame m #[(.long x0)] 3 = mkF m 0 #[.val (.long x0), .second, .unset] [] := by first | (simp [entryFrame, mkF, argsToLocals, Value.category, maxLocals]; done) | rfl
theorem pf_5 : plainFor (⟨"java/lang/Long", "numberOfLeadingZeros", "(J)I"⟩ : MethodName) = true := by apply plainFor_of_name; first | (simp [plainName, overriddenIn]; done) | decide +kernel
theorem Wd95 {a0 : Array Value} {Z : State} (hw : ∀ d ∈ tables_1, d.before a0 Z = true) : (Jvm.Cond.code ({ cls := "java/lang/Integer", name := "numberOfLeadingZeros", desc := "(I)I" } : Jvm.MethodName) jdk_33_method_47_code (2 : Nat) (Option.some Jvm.ClassFile.FieldType.int)).before a0 Z = true := hw _ (List.mem_of_getElem? (i := 95) rfl)
theorem Wd93 {a0 : Array Value} {Z : State} (hw : ∀ d ∈ tables_1, d.before a0 Z = true) : (Jvm.Cond.methodLink "java/lang/Long" (308 : Nat) ({ cls := "java/lang/Integer", name := "numberOfLeadingZeros", desc := "(I)I" } : Jvm.MethodName)).before a0 Z = true := hw _ (List.mem_of_getElem? (i := 93) rfl)
theorem Wd94 {a0 : Array Value} {Z : State} (hw : ∀ d ∈ tables_1, d.before a0 Z = true) : (Jvm.Cond.static ({ cls := "java/lang/Integer", name := "numberOfLeadingZeros", desc := "(I)I" } : Jvm.MethodName)).before a0 Z = true := hw _ (List.mem_of_getElem? (i := 94) rfl)
set_option maxRecDepth 65536 in
set_option maxHeartbeats 40000000 in
theorem rm_lL (l : Launch) (Z : State) (a0 : Array Value) (hw : ∀ d ∈ tables_1, d.before a0 Z = true) (ws : List Jvm.Cond) (q0 : Int64) (h0 : Heap) (n0 : Nat) (Z0 : n0 ≤ h0.size)  :
    MetFree l (⟨"java/lang/Long", "numberOfLeadingZeros", "(J)I"⟩ : MethodName) (head1 (Jvm.Cond.code (⟨"java/lang/Long", "numberOfLeadingZeros", "(J)I"⟩ : MethodName) jdk_35_method_48_code 3 (some .int) :: ws) ({ frames := 1, cells := 0, slots := 0, locals := 14 } : Room)) (fun aa U => aa = #[(.long q0)] ∧ Z.Warmed39 U.vm ∧ U.heap = h0) (fun _ _ _ _ _ => True) (fun _ U o U' => ∃ v L, o = .returned v ∧ QlL q0 h0 n0 v U'.heap L ∧ FrameEnd U o U' L (({ frames := 1, cells := 0, slots := 0, locals := 14 } : Room).cells) (({ frames := 1, cells := 0, slots := 0, locals := 14 } : Room).slots)) := by
  refine own_body pf_5 ?_
  intro p e s m below meth c s₁ hx hby hml hown hnm hlk hret hZ X0 e0
  have N0 : Fr n0 [] := Fr.nil n0
  refine own_go (f' := (mkF m 0 #[.val (.long q0), .second, .unset] [])) (fun t k => castTop (ef_rm_lL m q0) k) ?_
  refine own_lloadN X0 hx (pc' := 1) (hb hby d18_0) rfl rfl ?_
  refine own_bipush X0 hx (pc' := 3) (32 : Int32) (hb hby d18_1) rfl rfl ?_
  refine own_lushr X0 hx (pc' := 4) (hb hby d18_3) rfl ?_
  refine own_l2i X0 hx (pc' := 5) (hb hby d18_4) rfl ?_
  refine own_istoreN X0 hx (pc' := 6) (Ls' := #[.val (.long q0), .second, .val (.int (((q0.toUInt64 >>> ((32 : Int32) &&& 0x3f).toInt64.toUInt64).toInt64).toInt32))]) (hb hby d18_5) rfl rfl ?_
  refine own_iloadN X0 hx (pc' := 7) (hb hby d18_6) rfl rfl ?_
  by_cases hc7_1 : (((q0.toUInt64 >>> ((32 : Int32) &&& 0x3f).toInt64.toUInt64).toInt64).toInt32) = (0 : Int32)
  · skip
    refine own_ifNo X0 hx (pc' := 10) (hb hby d18_7) (teq hc7_1).2 rfl ?_
    refine own_bipush X0 hx (pc' := 12) (32 : Int32) (hb hby d18_10) rfl rfl ?_
    refine own_lloadN X0 hx (pc' := 13) (hb hby d18_12) rfl rfl ?_
    refine own_l2i X0 hx (pc' := 14) (hb hby d18_13) rfl ?_
    refine own_callS X0 hx (pc' := 17) hZ hown (Wd93 hw) (Wd94 hw) (Wd83 hw) (Wd95 hw) (by decide) (rm_lI l Z a0 hw [] (q0.toInt32) h0 n0 Z0) e0 1 (by decide) (by decide) (by decide) (by decide) [(.int (q0.toInt32))] [(.int (32 : Int32))] (by rw [hml]; rfl) (lenOf pd_0 rfl) rfl rfl (Nat.le_of_eq rfl) (hb hby d18_14) rfl (fun v2 T2 L2 X2 hQ2 => ?_)
    obtain ⟨rfl, Nq2, e2⟩ := hQ2
    have N3 := Fr.app N0 Nq2
    show own_G p.tables e below _ T2 (mkF m 17 #[.val (.long q0), .second, .val (.int (((q0.toUInt64 >>> ((32 : Int32) &&& 0x3f).toInt64.toUInt64).toInt64).toInt32))] [(.int (own_lI (q0.toInt32))), (.int (32 : Int32))])
    refine own_iadd X2 hx (pc' := 18) (hb hby d18_17) rfl rfl ?_
    refine own_goto X2 hx (pc' := 25) (hb hby d18_18) (by decide) (by decide) ?_
    refine own_retI X2 hx hlk hret (hb hby d18_25) (by decide) (by decide) ?_
    exact ⟨by simp only [own_lL, own_hi32, hc7_1, if_true, if_false], N3, e2⟩
  · skip
    refine own_ifYes X0 hx (pc' := 21) (hb hby d18_7) (feq hc7_1).2 (by decide) (by decide) ?_
    refine own_iloadN X0 hx (pc' := 22) (hb hby d18_21) rfl rfl ?_
    refine own_callS X0 hx (pc' := 25) hZ hown (Wd93 hw) (Wd94 hw) (Wd83 hw) (Wd95 hw) (by decide) (rm_lI l Z a0 hw [] (((q0.toUInt64 >>> ((32 : Int32) &&& 0x3f).toInt64.toUInt64).toInt64).toInt32) h0 n0 Z0) e0 0 (by decide) (by decide) (by decide) (by decide) [(.int (((q0.toUInt64 >>> ((32 : Int32) &&& 0x3f).toInt64.toUInt64).toInt64).toInt32))] [] (by rw [hml]; rfl) (lenOf pd_0 rfl) rfl rfl (Nat.le_of_eq rfl) (hb hby d18_22) rfl (fun v4 T4 L4 X4 hQ4 => ?_)
    obtain ⟨rfl, Nq4, e4⟩ := hQ4
    have N5 := Fr.app N0 Nq4
    show own_G p.tables e below _ T4 (mkF m 25 #[.val (.long q0), .second, .val (.int (((q0.toUInt64 >>> ((32 : Int32) &&& 0x3f).toInt64.toUInt64).toInt64).toInt32))] [(.int (own_lI (((q0.toUInt64 >>> ((32 : Int32) &&& 0x3f).toInt64.toUInt64).toInt64).toInt32)))])
    refine own_retI X4 hx hlk hret (hb hby d18_25) (by decide) (by decide) ?_
    exact ⟨by simp only [own_lL, own_hi32, hc7_1, if_true, if_false], N5, e4⟩

theorem d21_0 : decode jdk_35_method_50_code 0 = .ok (.lload_n 0, 1) := by decide +kernel
theorem d21_1 : decode jdk_35_method_50_code 1 = .ok (.lload_n 0, 1) := by decide +kernel
theorem d21_2 : decode jdk_35_method_50_code 2 = .ok (.iconst 1, 1) := by decide +kernel
theorem d21_3 : decode jdk_35_method_50_code 3 = .ok (.lushr, 1) := by decide +kernel
theorem d21_4 : decode jdk_35_method_50_code 4 = .ok (.ldc2_w 314, 3) := by decide +kernel
theorem d21_7 : decode jdk_35_method_50_code 7 = .ok (.land, 1) := by decide +kernel
theorem d21_8 : decode jdk_35_method_50_code 8 = .ok (.lsub, 1) := by decide +kernel
theorem d21_9 : decode jdk_35_method_50_code 9 = .ok (.lstore_n 0, 1) := by decide +kernel
theorem d21_10 : decode jdk_35_method_50_code 10 = .ok (.lload_n 0, 1) := by decide +kernel
theorem d21_11 : decode jdk_35_method_50_code 11 = .ok (.ldc2_w 316, 3) := by decide +kernel
theorem d21_14 : decode jdk_35_method_50_code 14 = .ok (.land, 1) := by decide +kernel
theorem d21_15 : decode jdk_35_method_50_code 15 = .ok (.lload_n 0, 1) := by decide +kernel
theorem d21_16 : decode jdk_35_method_50_code 16 = .ok (.iconst 2, 1) := by decide +kernel
theorem d21_17 : decode jdk_35_method_50_code 17 = .ok (.lushr, 1) := by decide +kernel
theorem d21_18 : decode jdk_35_method_50_code 18 = .ok (.ldc2_w 316, 3) := by decide +kernel
theorem d21_21 : decode jdk_35_method_50_code 21 = .ok (.land, 1) := by decide +kernel
theorem d21_22 : decode jdk_35_method_50_code 22 = .ok (.ladd, 1) := by decide +kernel
theorem d21_23 : decode jdk_35_method_50_code 23 = .ok (.lstore_n 0, 1) := by decide +kernel
theorem d21_24 : decode jdk_35_method_50_code 24 = .ok (.lload_n 0, 1) := by decide +kernel
theorem d21_25 : decode jdk_35_method_50_code 25 = .ok (.lload_n 0, 1) := by decide +kernel
theorem d21_26 : decode jdk_35_method_50_code 26 = .ok (.iconst 4, 1) := by decide +kernel
theorem d21_27 : decode jdk_35_method_50_code 27 = .ok (.lushr, 1) := by decide +kernel
theorem d21_28 : decode jdk_35_method_50_code 28 = .ok (.ladd, 1) := by decide +kernel
theorem d21_29 : decode jdk_35_method_50_code 29 = .ok (.ldc2_w 318, 3) := by decide +kernel
theorem d21_32 : decode jdk_35_method_50_code 32 = .ok (.land, 1) := by decide +kernel
theorem d21_33 : decode jdk_35_method_50_code 33 = .ok (.lstore_n 0, 1) := by decide +kernel
theorem d21_34 : decode jdk_35_method_50_code 34 = .ok (.lload_n 0, 1) := by decide +kernel
theorem d21_35 : decode jdk_35_method_50_code 35 = .ok (.lload_n 0, 1) := by decide +kernel
theorem d21_36 : decode jdk_35_method_50_code 36 = .ok (.bipush 8, 2) := by decide +kernel
theorem d21_38 : decode jdk_35_method_50_code 38 = .ok (.lushr, 1) := by decide +kernel
theorem d21_39 : decode jdk_35_method_50_code 39 = .ok (.ladd, 1) := by decide +kernel
theorem d21_40 : decode jdk_35_method_50_code 40 = .ok (.lstore_n 0, 1) := by decide +kernel
theorem d21_41 : decode jdk_35_method_50_code 41 = .ok (.lload_n 0, 1) := by decide +kernel
theorem d21_42 : decode jdk_35_method_50_code 42 = .ok (.lload_n 0, 1) := by decide +kernel
theorem d21_43 : decode jdk_35_method_50_code 43 = .ok (.bipush 16, 2) := by decide +kernel
theorem d21_45 : decode jdk_35_method_50_code 45 = .ok (.lushr, 1) := by decide +kernel
theorem d21_46 : decode jdk_35_method_50_code 46 = .ok (.ladd, 1) := by decide +kernel
theorem d21_47 : decode jdk_35_method_50_code 47 = .ok (.lstore_n 0, 1) := by decide +kernel
theorem d21_48 : decode jdk_35_method_50_code 48 = .ok (.lload_n 0, 1) := by decide +kernel
theorem d21_49 : decode jdk_35_method_50_code 49 = .ok (.lload_n 0, 1) := by decide +kernel
theorem d21_50 : decode jdk_35_method_50_code 50 = .ok (.bipush 32, 2) := by decide +kernel
theorem d21_52 : decode jdk_35_method_50_code 52 = .ok (.lushr, 1) := by decide +kernel
theorem d21_53 : decode jdk_35_method_50_code 53 = .ok (.ladd, 1) := by decide +kernel
theorem d21_54 : decode jdk_35_method_50_code 54 = .ok (.lstore_n 0, 1) := by decide +kernel
theorem d21_55 : decode jdk_35_method_50_code 55 = .ok (.lload_n 0, 1) := by decide +kernel
theorem d21_56 : decode jdk_35_method_50_code 56 = .ok (.l2i, 1) := by decide +kernel
theorem d21_57 : decode jdk_35_method_50_code 57 = .ok (.bipush 127, 2) := by decide +kernel
theorem d21_59 : decode jdk_35_method_50_code 59 = .ok (.iand, 1) := by decide +kernel
theorem d21_60 : decode jdk_35_method_50_code 60 = .ok (.ireturn, 1) := by decide +kernel
def Qbc (x : Int64) (h0 : Heap) (n0 : Nat) (v : Option Value) (h : Heap) (L : List Loc) : Prop := v = some (.int (own_bc x)) ∧ Fr n0 L ∧ h = h0
theorem ef_rm_bc (m : MethodId) (x0 : Int64) : entryFrame m #[(.long x0)] 2 = mkF m 0 #[.val (.long x0), .second] [] := by first | (simp [entryFrame, mkF, argsToLocals, Value.category, maxLocals]; done) | rfl
theorem pf_6 : plainFor (⟨"java/lang/Long", "bitCount", "(J)I"⟩ : MethodName) = true := by apply plainFor_of_name; first | (simp [plainName, overriddenIn]; done) | decide +kernel
theorem Wd105 {a0 : Array Value} {Z : State} (hw : ∀ d ∈ tables_1, d.before a0 Z = true) : (Jvm.Cond.constantLong "java/lang/Long" (314 : Nat) (6148914691236517205 : Int64)).before a0 Z = true := hw _ (List.mem_of_getElem? (i := 105) rfl)
theorem Wd106 {a0 : Array Value} {Z : State} (hw : ∀ d ∈ tables_1, d.before a0 Z = true) : (Jvm.Cond.constantLong "java/lang/Long" (316 : Nat) (3689348814741910323 : Int64)).before a0 Z = true := hw _ (List.mem_of_getElem? (i := 106) rfl)
theorem Wd107 {a0 : Array Value} {Z : State} (hw : ∀ d ∈ tables_1, d.before a0 Z = true) : (Jvm.Cond.constantLong "java/lang/Long" (318 : Nat) (1085102592571150095 : Int64)).before a0 Z = true := hw _ (List.mem_of_getElem? (i := 107) rfl)
set_option maxRecDepth 65536 in
set_option maxHeartbeats 40000000 in
theorem rm_bc (l : Launch) (Z : State) (a0 : Array Value) (hw : ∀ d ∈ tables_1, d.before a0 Z = true) (ws : List Jvm.Cond) (q0 : Int64) (h0 : Heap) (n0 : Nat) (Z0 : n0 ≤ h0.size)  :
    MetFree l (⟨"java/lang/Long", "bitCount", "(J)I"⟩ : MethodName) (head1 (Jvm.Cond.code (⟨"java/lang/Long", "bitCount", "(J)I"⟩ : MethodName) jdk_35_method_50_code 2 (some .int) :: ws) ({ frames := 0, cells := 0, slots := 0, locals := 0 } : Room)) (fun aa U => aa = #[(.long q0)] ∧ Z.Warmed39 U.vm ∧ U.heap = h0) (fun _ _ _ _ _ => True) (fun _ U o U' => ∃ v L, o = .returned v ∧ Qbc q0 h0 n0 v U'.heap L ∧ FrameEnd U o U' L (({ frames := 0, cells := 0, slots := 0, locals := 0 } : Room).cells) (({ frames := 0, cells := 0, slots := 0, locals := 0 } : Room).slots)) := by
  refine own_body pf_6 ?_
  intro p e s m below meth c s₁ hx hby hml hown hnm hlk hret hZ X0 e0
  have N0 : Fr n0 [] := Fr.nil n0
  refine own_go (f' := (mkF m 0 #[.val (.long q0), .second] [])) (fun t k => castTop (ef_rm_bc m q0) k) ?_
  refine own_lloadN X0 hx (pc' := 1) (hb hby d21_0) rfl rfl ?_
  refine own_lloadN X0 hx (pc' := 2) (hb hby d21_1) rfl rfl ?_
  refine own_iconst X0 hx (pc' := 3) (1 : Int32) (hb hby d21_2) rfl rfl ?_
  refine own_lushr X0 hx (pc' := 4) (hb hby d21_3) rfl ?_
  refine own_ldc2J X0 hx (pc' := 7) hZ hown (Wd105 hw) (hb hby d21_4) rfl ?_
  refine own_land X0 hx (pc' := 8) (hb hby d21_7) rfl rfl ?_
  refine own_lsub X0 hx (pc' := 9) (hb hby d21_8) rfl rfl ?_
  show own_G p.tables e below _ s₁ (mkF m 9 #[.val (.long q0), .second] [(.long (own_b1 q0))])
  refine own_lstoreN X0 hx (pc' := 10) (Ls' := #[.val (.long (own_b1 q0)), .second]) (hb hby d21_9) rfl rfl ?_
  refine own_lloadN X0 hx (pc' := 11) (hb hby d21_10) rfl rfl ?_
  refine own_ldc2J X0 hx (pc' := 14) hZ hown (Wd106 hw) (hb hby d21_11) rfl ?_
  refine own_land X0 hx (pc' := 15) (hb hby d21_14) rfl rfl ?_
  refine own_lloadN X0 hx (pc' := 16) (hb hby d21_15) rfl rfl ?_
  refine own_iconst X0 hx (pc' := 17) (2 : Int32) (hb hby d21_16) rfl rfl ?_
  refine own_lushr X0 hx (pc' := 18) (hb hby d21_17) rfl ?_
  refine own_ldc2J X0 hx (pc' := 21) hZ hown (Wd106 hw) (hb hby d21_18) rfl ?_
  refine own_land X0 hx (pc' := 22) (hb hby d21_21) rfl rfl ?_
  refine own_ladd X0 hx (pc' := 23) (hb hby d21_22) rfl rfl ?_
  show own_G p.tables e below _ s₁ (mkF m 23 #[.val (.long (own_b1 q0)), .second] [(.long (own_b2 (own_b1 q0)))])
  refine own_lstoreN X0 hx (pc' := 24) (Ls' := #[.val (.long (own_b2 (own_b1 q0))), .second]) (hb hby d21_23) rfl rfl ?_
  refine own_lloadN X0 hx (pc' := 25) (hb hby d21_24) rfl rfl ?_
  refine own_lloadN X0 hx (pc' := 26) (hb hby d21_25) rfl rfl ?_
  refine own_iconst X0 hx (pc' := 27) (4 : Int32) (hb hby d21_26) rfl rfl ?_
  refine own_lushr X0 hx (pc' := 28) (hb hby d21_27) rfl ?_
  refine own_ladd X0 hx (pc' := 29) (hb hby d21_28) rfl rfl ?_
  refine own_ldc2J X0 hx (pc' := 32) hZ hown (Wd107 hw) (hb hby d21_29) rfl ?_
  refine own_land X0 hx (pc' := 33) (hb hby d21_32) rfl rfl ?_
  show own_G p.tables e below _ s₁ (mkF m 33 #[.val (.long (own_b2 (own_b1 q0))), .second] [(.long (own_b3 (own_b2 (own_b1 q0))))])
  refine own_lstoreN X0 hx (pc' := 34) (Ls' := #[.val (.long (own_b3 (own_b2 (own_b1 q0)))), .second]) (hb hby d21_33) rfl rfl ?_
  refine own_lloadN X0 hx (pc' := 35) (hb hby d21_34) rfl rfl ?_
  refine own_lloadN X0 hx (pc' := 36) (hb hby d21_35) rfl rfl ?_
  refine own_bipush X0 hx (pc' := 38) (8 : Int32) (hb hby d21_36) rfl rfl ?_
  refine own_lushr X0 hx (pc' := 39) (hb hby d21_38) rfl ?_
  refine own_ladd X0 hx (pc' := 40) (hb hby d21_39) rfl rfl ?_
  show own_G p.tables e below _ s₁ (mkF m 40 #[.val (.long (own_b3 (own_b2 (own_b1 q0)))), .second] [(.long (own_b4 (own_b3 (own_b2 (own_b1 q0)))))])
  refine own_lstoreN X0 hx (pc' := 41) (Ls' := #[.val (.long (own_b4 (own_b3 (own_b2 (own_b1 q0))))), .second]) (hb hby d21_40) rfl rfl ?_
  refine own_lloadN X0 hx (pc' := 42) (hb hby d21_41) rfl rfl ?_
  refine own_lloadN X0 hx (pc' := 43) (hb hby d21_42) rfl rfl ?_
  refine own_bipush X0 hx (pc' := 45) (16 : Int32) (hb hby d21_43) rfl rfl ?_
  refine own_lushr X0 hx (pc' := 46) (hb hby d21_45) rfl ?_
  refine own_ladd X0 hx (pc' := 47) (hb hby d21_46) rfl rfl ?_
  show own_G p.tables e below _ s₁ (mkF m 47 #[.val (.long (own_b4 (own_b3 (own_b2 (own_b1 q0))))), .second] [(.long (own_b5 (own_b4 (own_b3 (own_b2 (own_b1 q0))))))])
  refine own_lstoreN X0 hx (pc' := 48) (Ls' := #[.val (.long (own_b5 (own_b4 (own_b3 (own_b2 (own_b1 q0)))))), .second]) (hb hby d21_47) rfl rfl ?_
  refine own_lloadN X0 hx (pc' := 49) (hb hby d21_48) rfl rfl ?_
  refine own_lloadN X0 hx (pc' := 50) (hb hby d21_49) rfl rfl ?_
  refine own_bipush X0 hx (pc' := 52) (32 : Int32) (hb hby d21_50) rfl rfl ?_
  refine own_lushr X0 hx (pc' := 53) (hb hby d21_52) rfl ?_
  refine own_ladd X0 hx (pc' := 54) (hb hby d21_53) rfl rfl ?_
  show own_G p.tables e below _ s₁ (mkF m 54 #[.val (.long (own_b5 (own_b4 (own_b3 (own_b2 (own_b1 q0)))))), .second] [(.long (own_b6 (own_b5 (own_b4 (own_b3 (own_b2 (own_b1 q0)))))))])
  refine own_lstoreN X0 hx (pc' := 55) (Ls' := #[.val (.long (own_b6 (own_b5 (own_b4 (own_b3 (own_b2 (own_b1 q0))))))), .second]) (hb hby d21_54) rfl rfl ?_
  refine own_lloadN X0 hx (pc' := 56) (hb hby d21_55) rfl rfl ?_
  refine own_l2i X0 hx (pc' := 57) (hb hby d21_56) rfl ?_
  refine own_bipush X0 hx (pc' := 59) (127 : Int32) (hb hby d21_57) rfl rfl ?_
  refine own_iand X0 hx (pc' := 60) (hb hby d21_59) rfl rfl ?_
  refine own_retI X0 hx hlk hret (hb hby d21_60) (by decide) (by decide) ?_
  exact ⟨rfl, N0, e0⟩

theorem d8_0 : decode jdk_92_method_1_code 0 = .ok (.iload_n 0, 1) := by decide +kernel
theorem d8_1 : decode jdk_92_method_1_code 1 = .ok (.bipush 6, 2) := by decide +kernel
theorem d8_3 : decode jdk_92_method_1_code 3 = .ok (.ishr, 1) := by decide +kernel
theorem d8_4 : decode jdk_92_method_1_code 4 = .ok (.ireturn, 1) := by decide +kernel
def Qwi (x : Int32) (h0 : Heap) (n0 : Nat) (v : Option Value) (h : Heap) (L : List Loc) : Prop := v = some (.int (own_wi x)) ∧ Fr n0 L ∧ h = h0
theorem ef_rm_wi (m : MethodId) (x0 : Int32) : entryFrame m #[(.int x0)] 1 = mkF m 0 #[.val (.int x0)] [] := by first | (simp [entryFrame, mkF, argsToLocals, Value.category, maxLocals]; done) | rfl
theorem pf_7 : plainFor (⟨"java/util/BitSet", "wordIndex", "(I)I"⟩ : MethodName) = true := by apply plainFor_of_name; first | (simp [plainName, overriddenIn]; done) | decide +kernel
set_option maxRecDepth 65536 in
set_option maxHeartbeats 40000000 in
theorem rm_wi (l : Launch) (Z : State) (a0 : Array Value) (hw : ∀ d ∈ tables_1, d.before a0 Z = true) (ws : List Jvm.Cond) (q0 : Int32) (h0 : Heap) (n0 : Nat) (Z0 : n0 ≤ h0.size)  :
    MetFree l (⟨"java/util/BitSet", "wordIndex", "(I)I"⟩ : MethodName) (head1 (Jvm.Cond.code (⟨"java/util/BitSet", "wordIndex", "(I)I"⟩ : MethodName) jdk_92_method_1_code 1 (some .int) :: ws) ({ frames := 0, cells := 0, slots := 0, locals := 0 } : Room)) (fun aa U => aa = #[(.int q0)] ∧ Z.Warmed39 U.vm ∧ U.heap = h0) (fun _ _ _ _ _ => True) (fun _ U o U' => ∃ v L, o = .returned v ∧ Qwi q0 h0 n0 v U'.heap L ∧ FrameEnd U o U' L (({ frames := 0, cells := 0, slots := 0, locals := 0 } : Room).cells) (({ frames := 0, cells := 0, slots := 0, locals := 0 } : Room).slots)) := by
  refine own_body pf_7 ?_
  intro p e s m below meth c s₁ hx hby hml hown hnm hlk hret hZ X0 e0
  have N0 : Fr n0 [] := Fr.nil n0
  refine own_go (f' := (mkF m 0 #[.val (.int q0)] [])) (fun t k => castTop (ef_rm_wi m q0) k) ?_
  refine own_iloadN X0 hx (pc' := 1) (hb hby d8_0) rfl rfl ?_
  refine own_bipush X0 hx (pc' := 3) (6 : Int32) (hb hby d8_1) rfl rfl ?_
  refine own_ishr X0 hx (pc' := 4) (hb hby d8_3) rfl ?_
  refine own_retI X0 hx hlk hret (hb hby d8_4) (by decide) (by decide) ?_
  exact ⟨rfl, N0, e0⟩

theorem d10_0 : decode jdk_92_method_16_code 0 = .ok (.iload_n 0, 1) := by decide +kernel
theorem d10_1 : decode jdk_92_method_16_code 1 = .ok (.ifCond .ge 30, 3) := by decide +kernel
theorem d10_31 : decode jdk_92_method_16_code 31 = .ok (.iload_n 1, 1) := by decide +kernel
theorem d10_32 : decode jdk_92_method_16_code 32 = .ok (.ifCond .ge 30, 3) := by decide +kernel
theorem d10_62 : decode jdk_92_method_16_code 62 = .ok (.iload_n 0, 1) := by decide +kernel
theorem d10_63 : decode jdk_92_method_16_code 63 = .ok (.iload_n 1, 1) := by decide +kernel
theorem d10_64 : decode jdk_92_method_16_code 64 = .ok (.if_icmp .le 39, 3) := by decide +kernel
theorem d10_103 : decode jdk_92_method_16_code 103 = .ok (.return_, 1) := by decide +kernel
def Qcr (h0 : Heap) (n0 : Nat) (v : Option Value) (h : Heap) (L : List Loc) : Prop := v = none ∧ Fr n0 L ∧ h = h0
theorem ef_rm_cr (m : MethodId) (x0 : Int32) (x1 : Int32) : entryFrame m #[(.int x0), (.int x1)] 2 = mkF m 0 #[.val (.int x0), .val (.int x1)] [] := by first | (simp [entryFrame, mkF, argsToLocals, Value.category, maxLocals]; done) | rfl
theorem pf_8 : plainFor (⟨"java/util/BitSet", "checkRange", "(II)V"⟩ : MethodName) = true := by apply plainFor_of_name; first | (simp [plainName, overriddenIn]; done) | decide +kernel
set_option maxRecDepth 65536 in
set_option maxHeartbeats 40000000 in
theorem rm_cr (l : Launch) (Z : State) (a0 : Array Value) (hw : ∀ d ∈ tables_1, d.before a0 Z = true) (ws : List Jvm.Cond) (q0 q1 : Int32) (h0 : Heap) (n0 : Nat) (Z0 : n0 ≤ h0.size) (r1 : ¬ q0 < (0 : Int32)) (r2 : ¬ q1 < (0 : Int32)) (r3 : ¬ q1 < q0) :
    MetFree l (⟨"java/util/BitSet", "checkRange", "(II)V"⟩ : MethodName) (head1 (Jvm.Cond.code (⟨"java/util/BitSet", "checkRange", "(II)V"⟩ : MethodName) jdk_92_method_16_code 2 none :: ws) ({ frames := 0, cells := 0, slots := 0, locals := 0 } : Room)) (fun aa U => aa = #[(.int q0), (.int q1)] ∧ Z.Warmed39 U.vm ∧ U.heap = h0) (fun _ _ _ _ _ => True) (fun _ U o U' => ∃ v L, o = .returned v ∧ Qcr h0 n0 v U'.heap L ∧ FrameEnd U o U' L (({ frames := 0, cells := 0, slots := 0, locals := 0 } : Room).cells) (({ frames := 0, cells := 0, slots := 0, locals := 0 } : Room).slots)) := by
  refine own_body pf_8 ?_
  intro p e s m below meth c s₁ hx hby hml hown hnm hlk hret hZ X0 e0
  have N0 : Fr n0 [] := Fr.nil n0
  refine own_go (f' := (mkF m 0 #[.val (.int q0), .val (.int q1)] [])) (fun t k => castTop (ef_rm_cr m q0 q1) k) ?_
  refine own_iloadN X0 hx (pc' := 1) (hb hby d10_0) rfl rfl ?_
  refine own_ifYes X0 hx (pc' := 31) (hb hby d10_1) (flt r1).2.1 (by decide) (by decide) ?_
  refine own_iloadN X0 hx (pc' := 32) (hb hby d10_31) rfl rfl ?_
  refine own_ifYes X0 hx (pc' := 62) (hb hby d10_32) (flt r2).2.1 (by decide) (by decide) ?_
  refine own_iloadN X0 hx (pc' := 63) (hb hby d10_62) rfl rfl ?_
  refine own_iloadN X0 hx (pc' := 64) (hb hby d10_63) rfl rfl ?_
  refine own_icmpYes X0 hx (pc' := 103) (hb hby d10_64) (flt r3).2.2.2 (by decide) (by decide) ?_
  refine own_retV X0 hx hlk hret (hb hby d10_103) (by decide) (by decide) ?_
  exact ⟨rfl, N0, e0⟩

theorem own_allge {n0 : Nat} {a : Addr} {l : List Addr} (h : n0 ≤ a) (t : ∀ x ∈ l, n0 ≤ x) : ∀ x ∈ a :: l, n0 ≤ x := fun x hx => by
  rcases List.mem_cons.mp hx with rfl | q
  · exact h
  · exact t x q
theorem d13_0 : decode jdk_92_method_2_code 0 = .ok (.getstatic 3, 3) := by decide +kernel
theorem d13_3 : decode jdk_92_method_2_code 3 = .ok (.ifCond .ne 34, 3) := by decide +kernel
theorem d13_37 : decode jdk_92_method_2_code 37 = .ok (.getstatic 3, 3) := by decide +kernel
theorem d13_40 : decode jdk_92_method_2_code 40 = .ok (.ifCond .ne 30, 3) := by decide +kernel
theorem d13_70 : decode jdk_92_method_2_code 70 = .ok (.getstatic 3, 3) := by decide +kernel
theorem d13_73 : decode jdk_92_method_2_code 73 = .ok (.ifCond .ne 37, 3) := by decide +kernel
theorem d13_110 : decode jdk_92_method_2_code 110 = .ok (.return_, 1) := by decide +kernel
def Qci (h0 : Heap) (n0 : Nat) (v : Option Value) (h : Heap) (L : List Loc) : Prop := v = none ∧ Fr n0 L ∧ h = h0
theorem ef_rm_ci (m : MethodId) (x0 : Addr) : entryFrame m #[(.ref x0)] 1 = mkF m 0 #[.val (.ref x0)] [] := by first | (simp [entryFrame, mkF, argsToLocals, Value.category, maxLocals]; done) | rfl
theorem pf_9 : plainFor (⟨"java/util/BitSet", "checkInvariants", "()V"⟩ : MethodName) = true := by apply plainFor_of_name; first | (simp [plainName, overriddenIn]; done) | decide +kernel
theorem Wd71 {a0 : Array Value} {Z : State} (hw : ∀ d ∈ tables_1, d.before a0 Z = true) : (Jvm.Cond.fieldLink "java/util/BitSet" (3 : Nat) "java/util/BitSet" "$assertionsDisabled" "Z").before a0 Z = true := hw _ (List.mem_of_getElem? (i := 71) rfl)
set_option maxRecDepth 65536 in
set_option maxHeartbeats 40000000 in
theorem rm_ci (l : Launch) (Z : State) (a0 : Array Value) (hw : ∀ d ∈ tables_1, d.before a0 Z = true) (ws : List Jvm.Cond) (bs : Addr) (h0 : Heap) (n0 : Nat) (Z0 : n0 ≤ h0.size) (B_ad : own_AD n0 Z h0) :
    MetFree l (⟨"java/util/BitSet", "checkInvariants", "()V"⟩ : MethodName) (head1 (Jvm.Cond.code (⟨"java/util/BitSet", "checkInvariants", "()V"⟩ : MethodName) jdk_92_method_2_code 1 none :: ws) ({ frames := 0, cells := 0, slots := 0, locals := 0 } : Room)) (fun aa U => aa = #[(.ref bs)] ∧ Z.Warmed39 U.vm ∧ U.heap = h0) (fun _ _ _ _ _ => True) (fun _ U o U' => ∃ v L, o = .returned v ∧ Qci h0 n0 v U'.heap L ∧ FrameEnd U o U' L (({ frames := 0, cells := 0, slots := 0, locals := 0 } : Room).cells) (({ frames := 0, cells := 0, slots := 0, locals := 0 } : Room).slots)) := by
  refine own_body pf_9 ?_
  intro p e s m below meth c s₁ hx hby hml hown hnm hlk hret hZ X0 e0
  have N0 : Fr n0 [] := Fr.nil n0
  refine own_go (f' := (mkF m 0 #[.val (.ref bs)] [])) (fun t k => castTop (ef_rm_ci m bs) k) ?_
  refine own_getS X0 hx (pc' := 3) hZ hown (host := "") (Or.inl (Wd71 hw)) Via.refl e0 (own_AD.sta B_ad) (hb hby d13_0) rfl (fun T1 X1 e1 => ?_)
  refine own_ifYes X1 hx (pc' := 37) (hb hby d13_3) (feq (by decide : ¬ ((1 : Int32) = (0 : Int32)))).2 (by decide) (by decide) ?_
  refine own_getS X1 hx (pc' := 40) hZ hown (host := "") (Or.inl (Wd71 hw)) Via.refl e1 (own_AD.sta B_ad) (hb hby d13_37) rfl (fun T2 X2 e2 => ?_)
  refine own_ifYes X2 hx (pc' := 70) (hb hby d13_40) (feq (by decide : ¬ ((1 : Int32) = (0 : Int32)))).2 (by decide) (by decide) ?_
  refine own_getS X2 hx (pc' := 73) hZ hown (host := "") (Or.inl (Wd71 hw)) Via.refl e2 (own_AD.sta B_ad) (hb hby d13_70) rfl (fun T3 X3 e3 => ?_)
  refine own_ifYes X3 hx (pc' := 110) (hb hby d13_73) (feq (by decide : ¬ ((1 : Int32) = (0 : Int32)))).2 (by decide) (by decide) ?_
  refine own_retV X3 hx hlk hret (hb hby d13_110) (by decide) (by decide) ?_
  exact ⟨rfl, N0, e3⟩

def Qiw (Z : State) (bs : Addr) (h0 : Heap) (n0 : Nat) (v : Option Value) (h : Heap) (L : List Loc) : Prop := v = none ∧ Fr n0 L ∧ Keep h0 h [bs] ∧ ∃ (wa : Addr) (kc : ClassId), n0 ≤ wa ∧ h0.size ≤ wa ∧ bs ≠ wa ∧ Fld Z h bs "java/util/BitSet" "words" "[J" (.ref wa) ∧ Fld Z h bs "java/util/BitSet" "wordsInUse" "I" (.int (0 : Int32)) ∧ Fld Z h bs "java/util/BitSet" "sizeIsSticky" "Z" (.int (0 : Int32)) ∧ Arv Z h wa kc .long (1 : Int32) [(.long (0 : Int64))] (.long (0 : Int64))
theorem d7_0 : decode jdk_92_method_6_code 0 = .ok (.aload_n 0, 1) := by decide +kernel
theorem d7_1 : decode jdk_92_method_6_code 1 = .ok (.iload_n 1, 1) := by decide +kernel
theorem d7_2 : decode jdk_92_method_6_code 2 = .ok (.iconst 1, 1) := by decide +kernel
theorem d7_3 : decode jdk_92_method_6_code 3 = .ok (.isub, 1) := by decide +kernel
theorem d7_4 : decode jdk_92_method_6_code 4 = .ok (.invokestatic 52, 3) := by decide +kernel
theorem d7_7 : decode jdk_92_method_6_code 7 = .ok (.iconst 1, 1) := by decide +kernel
theorem d7_8 : decode jdk_92_method_6_code 8 = .ok (.iadd, 1) := by decide +kernel
theorem d7_9 : decode jdk_92_method_6_code 9 = .ok (.newarray .long, 2) := by decide +kernel
theorem d7_11 : decode jdk_92_method_6_code 11 = .ok (.putfield 11, 3) := by decide +kernel
theorem d7_14 : decode jdk_92_method_6_code 14 = .ok (.return_, 1) := by decide +kernel
theorem ef_rm_iw (m : MethodId) (x0 : Addr) (x1 : Int32) : entryFrame m #[(.ref x0), (.int x1)] 2 = mkF m 0 #[.val (.ref x0), .val (.int x1)] [] := by first | (simp [entryFrame, mkF, argsToLocals, Value.category, maxLocals]; done) | rfl
theorem pf_10 : plainFor (⟨"java/util/BitSet", "initWords", "(I)V"⟩ : MethodName) = true := by apply plainFor_of_name; first | (simp [plainName, overriddenIn]; done) | decide +kernel
theorem Wd39 {a0 : Array Value} {Z : State} (hw : ∀ d ∈ tables_1, d.before a0 Z = true) : (Jvm.Cond.code ({ cls := "java/util/BitSet", name := "wordIndex", desc := "(I)I" } : Jvm.MethodName) jdk_92_method_1_code (1 : Nat) (Option.some Jvm.ClassFile.FieldType.int)).before a0 Z = true := hw _ (List.mem_of_getElem? (i := 39) rfl)
theorem Wd21 {a0 : Array Value} {Z : State} (hw : ∀ d ∈ tables_1, d.before a0 Z = true) : (Jvm.Cond.initialized "java/util/BitSet").before a0 Z = true := hw _ (List.mem_of_getElem? (i := 21) rfl)
theorem Wd37 {a0 : Array Value} {Z : State} (hw : ∀ d ∈ tables_1, d.before a0 Z = true) : (Jvm.Cond.methodLink "java/util/BitSet" (52 : Nat) ({ cls := "java/util/BitSet", name := "wordIndex", desc := "(I)I" } : Jvm.MethodName)).before a0 Z = true := hw _ (List.mem_of_getElem? (i := 37) rfl)
theorem Wd38 {a0 : Array Value} {Z : State} (hw : ∀ d ∈ tables_1, d.before a0 Z = true) : (Jvm.Cond.static ({ cls := "java/util/BitSet", name := "wordIndex", desc := "(I)I" } : Jvm.MethodName)).before a0 Z = true := hw _ (List.mem_of_getElem? (i := 38) rfl)
theorem Wd40 {a0 : Array Value} {Z : State} (hw : ∀ d ∈ tables_1, d.before a0 Z = true) : (Jvm.Cond.arrayClass Jvm.ClassFile.FieldType.long).before a0 Z = true := hw _ (List.mem_of_getElem? (i := 40) rfl)
theorem Wd41 {a0 : Array Value} {Z : State} (hw : ∀ d ∈ tables_1, d.before a0 Z = true) : (Jvm.Cond.fieldLink "java/util/BitSet" (11 : Nat) "java/util/BitSet" "words" "[J").before a0 Z = true := hw _ (List.mem_of_getElem? (i := 41) rfl)
theorem Wd42 {a0 : Array Value} {Z : State} (hw : ∀ d ∈ tables_1, d.before a0 Z = true) : (Jvm.Cond.lays "java/util/BitSet" "java/util/BitSet" "words" "[J").before a0 Z = true := hw _ (List.mem_of_getElem? (i := 42) rfl)
theorem Wd20 {a0 : Array Value} {Z : State} (hw : ∀ d ∈ tables_1, d.before a0 Z = true) : (Jvm.Cond.instantiable "java/util/BitSet" (3 : Nat)).before a0 Z = true := hw _ (List.mem_of_getElem? (i := 20) rfl)
theorem Wd29 {a0 : Array Value} {Z : State} (hw : ∀ d ∈ tables_1, d.before a0 Z = true) : (Jvm.Cond.lays "java/util/BitSet" "java/util/BitSet" "wordsInUse" "I").before a0 Z = true := hw _ (List.mem_of_getElem? (i := 29) rfl)
theorem Wd31 {a0 : Array Value} {Z : State} (hw : ∀ d ∈ tables_1, d.before a0 Z = true) : (Jvm.Cond.lays "java/util/BitSet" "java/util/BitSet" "sizeIsSticky" "Z").before a0 Z = true := hw _ (List.mem_of_getElem? (i := 31) rfl)
set_option maxRecDepth 65536 in
set_option maxHeartbeats 40000000 in
theorem rm_iw (l : Launch) (Z : State) (a0 : Array Value) (hw : ∀ d ∈ tables_1, d.before a0 Z = true) (ws : List Jvm.Cond) (bs : Addr) (h0 : Heap) (n0 : Nat) (Z0 : n0 ≤ h0.size) (g_bs : n0 ≤ bs) (E_bs : Exa Z h0 bs "java/util/BitSet") (F_w : Fld Z h0 bs "java/util/BitSet" "words" "[J" .null) (F_u : Fld Z h0 bs "java/util/BitSet" "wordsInUse" "I" (.int (0 : Int32))) (F_y : Fld Z h0 bs "java/util/BitSet" "sizeIsSticky" "Z" (.int (0 : Int32))) :
    MetFree l (⟨"java/util/BitSet", "initWords", "(I)V"⟩ : MethodName) (head1 (Jvm.Cond.code (⟨"java/util/BitSet", "initWords", "(I)V"⟩ : MethodName) jdk_92_method_6_code 2 none :: ws) ({ frames := 1, cells := 1, slots := 1, locals := 13 } : Room)) (fun aa U => aa = #[(.ref bs), (.int (64 : Int32))] ∧ Z.Warmed39 U.vm ∧ U.heap = h0) (fun _ _ _ _ _ => True) (fun _ U o U' => ∃ v L, o = .returned v ∧ Qiw Z bs h0 n0 v U'.heap L ∧ FrameEnd U o U' L (({ frames := 1, cells := 1, slots := 1, locals := 13 } : Room).cells) (({ frames := 1, cells := 1, slots := 1, locals := 13 } : Room).slots)) := by
  refine own_body pf_10 ?_
  intro p e s m below meth c s₁ hx hby hml hown hnm hlk hret hZ X0 e0
  have N0 : Fr n0 [] := Fr.nil n0
  refine own_go (f' := (mkF m 0 #[.val (.ref bs), .val (.int (64 : Int32))] [])) (fun t k => castTop (ef_rm_iw m bs (64 : Int32)) k) ?_
  have K1 : Keep h0 h0 [bs] := Keep.refl _ _
  refine own_aloadN X0 hx (pc' := 1) (hb hby d7_0) rfl rfl rfl ?_
  refine own_iloadN X0 hx (pc' := 2) (hb hby d7_1) rfl rfl ?_
  refine own_iconst X0 hx (pc' := 3) (1 : Int32) (hb hby d7_2) rfl rfl ?_
  refine own_isub X0 hx (pc' := 4) (z := (63 : Int32)) (hb hby d7_3) (by decide) rfl ?_
  refine own_callS X0 hx (pc' := 7) hZ hown (Wd37 hw) (Wd38 hw) (Wd21 hw) (Wd39 hw) (by decide) (rm_wi l Z a0 hw [] (63 : Int32) h0 n0 Z0) e0 1 (by decide) (by decide) (by decide) (by decide) [(.int (63 : Int32))] [(.ref bs)] (by rw [hml]; rfl) (lenOf pd_0 rfl) rfl rfl (Nat.le_of_eq rfl) (hb hby d7_4) rfl (fun v2 T2 L2 X2 hQ2 => ?_)
  obtain ⟨rfl, Nq2, e2⟩ := hQ2
  have N3 := Fr.app N0 Nq2
  show own_G p.tables e below _ T2 (mkF m 7 #[.val (.ref bs), .val (.int (64 : Int32))] [(.int (own_wi (63 : Int32))), (.ref bs)])
  rw [show own_wi (63 : Int32) = (0 : Int32) from by decide]
  refine own_iconst X2 hx (pc' := 8) (1 : Int32) (hb hby d7_7) rfl rfl ?_
  refine own_iadd X2 hx (pc' := 9) (z := (1 : Int32)) (hb hby d7_8) (by decide) rfl ?_
  refine own_newP X2 hx (pc' := 11) hZ (aty := .long) (Wd40 hw) e2 (hb hby d7_9) (by decide) 1 (by decide) (by decide) (by decide) (by decide) rfl (fun T4 h4 kc4 nb4 g4 X4 e4 E4 A4 => ?_)
  have ne_bs_nb4_5 : bs ≠ nb4 := Nat.ne_of_lt (Nat.lt_of_lt_of_le E_bs.lt (Nat.le_of_eq g4.symm))
  have ge_nb4 : n0 ≤ nb4 := Nat.le_trans Z0 (Nat.le_of_eq g4.symm)
  have gk_nb4 : h0.size ≤ nb4 := Nat.le_trans K1.1 (Nat.le_of_eq g4.symm)
  have Z6 : n0 ≤ h4.size := Nat.le_trans Z0 E4.1
  have K7 : Keep h0 h4 [bs] := K1.ext E4
  have F8 := (Exa.ext E4 E_bs)
  have F9 := (Fld.ext E4 F_w)
  have F10 := (Fld.ext E4 F_u)
  have F11 := (Fld.ext E4 F_y)
  have V12a : Arv Z h4 nb4 kc4 .long (1 : Int32) [] (.long (0 : Int64)) := Arv.new A4 (by decide)
  have V12b : Arv Z h4 nb4 kc4 .long (1 : Int32) (List.replicate 1 (.long (0 : Int64))) (.long (0 : Int64)) := V12a.pad (pad_rep [] _ 1)
  have V12 : Arv Z h4 nb4 kc4 .long (1 : Int32) [(.long (0 : Int64))] (.long (0 : Int64)) := V12b
  refine own_putF X4 hx (pc' := 14) hZ (ty := (.array .long)) hown (host := "") (Or.inl (Wd41 hw)) Via.refl e4 F9 F8 (Or.inl (Wd42 hw)) (Wd20 hw) (by decide) rfl rfl (hb hby d7_11) rfl (fun T13 h13 X13 e13 W13 => ?_)
  have N14 := Fr.snoc X13 N3 g_bs
  have Z15 : n0 ≤ h13.size := Nat.le_trans Z6 (Nat.le_of_eq (Wr.size W13).symm)
  have K16 : Keep h0 h13 [bs] := K7.wr W13 (Or.inl (List.mem_of_getElem? (i := 0) rfl))
  have F17 := (Exa.wr W13 F8)
  have F18 := (Fld.same W13 F9)
  have F19 := (Fld.other W13 F10 (Or.inr (slot_ne (Or.inl (Wd29 hw)) (Or.inl (Wd42 hw)) (by decide) (t := .int) (t' := (.array .long)) (by decide) (by decide))))
  have F20 := (Fld.other W13 F11 (Or.inr (slot_ne (Or.inl (Wd31 hw)) (Or.inl (Wd42 hw)) (by decide) (t := .boolean) (t' := (.array .long)) (by decide) (by decide))))
  have F21 := (V12.other W13 (Ne.symm ne_bs_nb4_5))
  refine own_retV X13 hx hlk hret (hb hby d7_14) (by decide) (by decide) ?_
  rw [e13]
  exact ⟨rfl, N14, K16, nb4, _, ge_nb4, gk_nb4, ne_bs_nb4_5, F18, F19, F20, F21⟩

theorem d5_0 : decode jdk_92_method_4_code 0 = .ok (.aload_n 0, 1) := by decide +kernel
theorem d5_1 : decode jdk_92_method_4_code 1 = .ok (.invokespecial 21, 3) := by decide +kernel
theorem d5_4 : decode jdk_92_method_4_code 4 = .ok (.aload_n 0, 1) := by decide +kernel
theorem d5_5 : decode jdk_92_method_4_code 5 = .ok (.iconst 0, 1) := by decide +kernel
theorem d5_6 : decode jdk_92_method_4_code 6 = .ok (.putfield 7, 3) := by decide +kernel
theorem d5_9 : decode jdk_92_method_4_code 9 = .ok (.aload_n 0, 1) := by decide +kernel
theorem d5_10 : decode jdk_92_method_4_code 10 = .ok (.iconst 0, 1) := by decide +kernel
theorem d5_11 : decode jdk_92_method_4_code 11 = .ok (.putfield 24, 3) := by decide +kernel
theorem d5_14 : decode jdk_92_method_4_code 14 = .ok (.aload_n 0, 1) := by decide +kernel
theorem d5_15 : decode jdk_92_method_4_code 15 = .ok (.bipush 64, 2) := by decide +kernel
theorem d5_17 : decode jdk_92_method_4_code 17 = .ok (.invokevirtual 27, 3) := by decide +kernel
theorem d5_20 : decode jdk_92_method_4_code 20 = .ok (.aload_n 0, 1) := by decide +kernel
theorem d5_21 : decode jdk_92_method_4_code 21 = .ok (.iconst 0, 1) := by decide +kernel
theorem d5_22 : decode jdk_92_method_4_code 22 = .ok (.putfield 24, 3) := by decide +kernel
theorem d5_25 : decode jdk_92_method_4_code 25 = .ok (.return_, 1) := by decide +kernel
def Qbi (Z : State) (bs : Addr) (h0 : Heap) (n0 : Nat) (v : Option Value) (h : Heap) (L : List Loc) : Prop := Qiw Z bs h0 n0 v h L
theorem ef_rm_bi (m : MethodId) (x0 : Addr) : entryFrame m #[(.ref x0)] 1 = mkF m 0 #[.val (.ref x0)] [] := by first | (simp [entryFrame, mkF, argsToLocals, Value.category, maxLocals]; done) | rfl
theorem pf_11 : plainFor (⟨"java/util/BitSet", "<init>", "()V"⟩ : MethodName) = true := by apply plainFor_of_name; first | (simp [plainName, overriddenIn]; done) | decide +kernel
theorem Wd25 {a0 : Array Value} {Z : State} (hw : ∀ d ∈ tables_1, d.before a0 Z = true) : (Jvm.Cond.methodLink "java/util/BitSet" (21 : Nat) ({ cls := "java/lang/Object", name := "<init>", desc := "()V" } : Jvm.MethodName)).before a0 Z = true := hw _ (List.mem_of_getElem? (i := 25) rfl)
theorem Wd26 {a0 : Array Value} {Z : State} (hw : ∀ d ∈ tables_1, d.before a0 Z = true) : (Jvm.Cond.instanceMethod ({ cls := "java/lang/Object", name := "<init>", desc := "()V" } : Jvm.MethodName)).before a0 Z = true := hw _ (List.mem_of_getElem? (i := 26) rfl)
theorem Wd27 {a0 : Array Value} {Z : State} (hw : ∀ d ∈ tables_1, d.before a0 Z = true) : (Jvm.Cond.code ({ cls := "java/lang/Object", name := "<init>", desc := "()V" } : Jvm.MethodName) object_method_1_code (1 : Nat) (Option.none : Option Jvm.ClassFile.FieldType)).before a0 Z = true := hw _ (List.mem_of_getElem? (i := 27) rfl)
theorem Wd28 {a0 : Array Value} {Z : State} (hw : ∀ d ∈ tables_1, d.before a0 Z = true) : (Jvm.Cond.fieldLink "java/util/BitSet" (7 : Nat) "java/util/BitSet" "wordsInUse" "I").before a0 Z = true := hw _ (List.mem_of_getElem? (i := 28) rfl)
theorem Wd30 {a0 : Array Value} {Z : State} (hw : ∀ d ∈ tables_1, d.before a0 Z = true) : (Jvm.Cond.fieldLink "java/util/BitSet" (24 : Nat) "java/util/BitSet" "sizeIsSticky" "Z").before a0 Z = true := hw _ (List.mem_of_getElem? (i := 30) rfl)
theorem Wd36 {a0 : Array Value} {Z : State} (hw : ∀ d ∈ tables_1, d.before a0 Z = true) : (Jvm.Cond.code ({ cls := "java/util/BitSet", name := "initWords", desc := "(I)V" } : Jvm.MethodName) jdk_92_method_6_code (2 : Nat) (Option.none : Option Jvm.ClassFile.FieldType)).before a0 Z = true := hw _ (List.mem_of_getElem? (i := 36) rfl)
theorem pd_1 : parseMethodDescriptor "(I)V" = some ⟨[.int], none⟩ := by decide +kernel
theorem Wd32 {a0 : Array Value} {Z : State} (hw : ∀ d ∈ tables_1, d.before a0 Z = true) : (Jvm.Cond.methodLink "java/util/BitSet" (27 : Nat) ({ cls := "java/util/BitSet", name := "initWords", desc := "(I)V" } : Jvm.MethodName)).before a0 Z = true := hw _ (List.mem_of_getElem? (i := 32) rfl)
theorem Wd33 {a0 : Array Value} {Z : State} (hw : ∀ d ∈ tables_1, d.before a0 Z = true) : (Jvm.Cond.instanceMethod ({ cls := "java/util/BitSet", name := "initWords", desc := "(I)V" } : Jvm.MethodName)).before a0 Z = true := hw _ (List.mem_of_getElem? (i := 33) rfl)
theorem Wd34 {a0 : Array Value} {Z : State} (hw : ∀ d ∈ tables_1, d.before a0 Z = true) : (Jvm.Cond.privateMethod ({ cls := "java/util/BitSet", name := "initWords", desc := "(I)V" } : Jvm.MethodName)).before a0 Z = true := hw _ (List.mem_of_getElem? (i := 34) rfl)
set_option maxRecDepth 65536 in
set_option maxHeartbeats 40000000 in
theorem rm_bi (l : Launch) (Z : State) (a0 : Array Value) (hw : ∀ d ∈ tables_1, d.before a0 Z = true) (ws : List Jvm.Cond) (bs : Addr) (h0 : Heap) (n0 : Nat) (Z0 : n0 ≤ h0.size) (g_bs : n0 ≤ bs) (E_bs : Exa Z h0 bs "java/util/BitSet") (F_w : Fld Z h0 bs "java/util/BitSet" "words" "[J" .null) (F_u : Fld Z h0 bs "java/util/BitSet" "wordsInUse" "I" (.int (0 : Int32))) (F_y : Fld Z h0 bs "java/util/BitSet" "sizeIsSticky" "Z" (.int (0 : Int32))) :
    MetFree l (⟨"java/util/BitSet", "<init>", "()V"⟩ : MethodName) (head1 (Jvm.Cond.code (⟨"java/util/BitSet", "<init>", "()V"⟩ : MethodName) jdk_92_method_4_code 1 none :: ws) ({ frames := 2, cells := 1, slots := 1, locals := 26 } : Room)) (fun aa U => aa = #[(.ref bs)] ∧ Z.Warmed39 U.vm ∧ U.heap = h0) (fun _ _ _ _ _ => True) (fun _ U o U' => ∃ v L, o = .returned v ∧ Qbi Z bs h0 n0 v U'.heap L ∧ FrameEnd U o U' L (({ frames := 2, cells := 1, slots := 1, locals := 26 } : Room).cells) (({ frames := 2, cells := 1, slots := 1, locals := 26 } : Room).slots)) := by
  refine own_body pf_11 ?_
  intro p e s m below meth c s₁ hx hby hml hown hnm hlk hret hZ X0 e0
  have N0 : Fr n0 [] := Fr.nil n0
  refine own_go (f' := (mkF m 0 #[.val (.ref bs)] [])) (fun t k => castTop (ef_rm_bi m bs) k) ?_
  have K1 : Keep h0 h0 [bs] := Keep.refl _ _
  refine own_aloadN X0 hx (pc' := 1) (hb hby d5_0) rfl rfl rfl ?_
  refine own_initO X0 hx (pc' := 4) hZ hown (Wd25 hw) (Wd26 hw) (Wd27 hw) e0 (by rw [hml]; rfl) (hb hby d5_1) (by decide) 0 (Nat.le_of_eq rfl) (by decide) rfl (fun T2 X2 e2 => ?_)
  refine own_aloadN X2 hx (pc' := 5) (hb hby d5_4) rfl rfl rfl ?_
  refine own_iconst X2 hx (pc' := 6) (0 : Int32) (hb hby d5_5) rfl rfl ?_
  refine own_putF X2 hx (pc' := 9) hZ (ty := .int) hown (host := "") (Or.inl (Wd28 hw)) Via.refl e2 F_u E_bs (Or.inl (Wd29 hw)) (Wd20 hw) (by decide) rfl rfl (hb hby d5_6) rfl (fun T3 h3 X3 e3 W3 => ?_)
  have N4 := Fr.snoc X3 N0 g_bs
  have Z5 : n0 ≤ h3.size := Nat.le_trans Z0 (Nat.le_of_eq (Wr.size W3).symm)
  have K6 : Keep h0 h3 [bs] := K1.wr W3 (Or.inl (List.mem_of_getElem? (i := 0) rfl))
  have F7 := (Exa.wr W3 E_bs)
  have F8 := (Fld.other W3 F_w (Or.inr (slot_ne (Or.inl (Wd42 hw)) (Or.inl (Wd29 hw)) (by decide) (t := (.array .long)) (t' := .int) (by decide) (by decide))))
  have F9 := (Fld.same W3 F_u)
  have F10 := (Fld.other W3 F_y (Or.inr (slot_ne (Or.inl (Wd31 hw)) (Or.inl (Wd29 hw)) (by decide) (t := .boolean) (t' := .int) (by decide) (by decide))))
  refine own_aloadN X3 hx (pc' := 10) (hb hby d5_9) rfl rfl rfl ?_
  refine own_iconst X3 hx (pc' := 11) (0 : Int32) (hb hby d5_10) rfl rfl ?_
  refine own_putFN X3 hx (pc' := 14) hZ (ty := .boolean) (.int (0 : Int32)) hown (Wd30 hw) Via.refl e3 F10 F7 (Or.inl (Wd31 hw)) (Wd20 hw) (by decide) rfl rfl (hb hby d5_11) rfl (fun T11 h11 X11 e11 W11 => ?_)
  have N12 := Fr.snoc X11 N4 g_bs
  have Z13 : n0 ≤ h11.size := Nat.le_trans Z5 (Nat.le_of_eq (Wr.size W11).symm)
  have K14 : Keep h0 h11 [bs] := K6.wr W11 (Or.inl (List.mem_of_getElem? (i := 0) rfl))
  have F15 := (Exa.wr W11 F7)
  have F16 := (Fld.other W11 F8 (Or.inr (slot_ne (Or.inl (Wd42 hw)) (Or.inl (Wd31 hw)) (by decide) (t := (.array .long)) (t' := .boolean) (by decide) (by decide))))
  have F17 := (Fld.other W11 F9 (Or.inr (slot_ne (Or.inl (Wd29 hw)) (Or.inl (Wd31 hw)) (by decide) (t := .int) (t' := .boolean) (by decide) (by decide))))
  have F18 := (Fld.same W11 F10)
  refine own_aloadN X11 hx (pc' := 15) (hb hby d5_14) rfl rfl rfl ?_
  refine own_bipush X11 hx (pc' := 17) (64 : Int32) (hb hby d5_15) rfl rfl ?_
  refine own_callP X11 hx (pc' := 20) hZ hown (Wd32 hw) (Wd33 hw) (Wd34 hw) (Wd36 hw) (Wd21 hw) (Wd20 hw) (by decide) (rm_iw l Z a0 hw [] bs h11 n0 Z13 g_bs F15 F16 F17 F18) e11 F15 0 (by decide) (by decide) (by decide) (by decide) [(.int (64 : Int32))] [] (by rw [hml]; rfl) (lenOf pd_1 rfl) rfl rfl (Nat.le_of_eq rfl) (hb hby d5_17) rfl (fun v19 T19 L19 X19 hQ19 => ?_)
  obtain ⟨rfl, Nq19, K19, wa, kc, gw19, gz19, nw19, G1_19, G2_19, G3_19, G4_19⟩ := hQ19
  have N20 := Fr.app N12 Nq19
  have gk_wa : h0.size ≤ wa := Nat.le_trans K14.1 gz19
  have Z21 : n0 ≤ T19.heap.size := Nat.le_trans Z13 K19.1
  have K22 : Keep h0 T19.heap [bs] := Keep.trans K14 K19 (allS (Or.inl (List.mem_of_getElem? (i := 0) rfl)) all0)
  have F23 := (Exa.keep F15 K19)
  show own_G p.tables e below _ T19 (mkF m 20 #[.val (.ref bs)] [])
  refine own_aloadN X19 hx (pc' := 21) (hb hby d5_20) rfl rfl rfl ?_
  refine own_iconst X19 hx (pc' := 22) (0 : Int32) (hb hby d5_21) rfl rfl ?_
  refine own_putFN X19 hx (pc' := 25) hZ (ty := .boolean) (.int (0 : Int32)) hown (Wd30 hw) Via.refl rfl G3_19 F23 (Or.inl (Wd31 hw)) (Wd20 hw) (by decide) rfl rfl (hb hby d5_22) rfl (fun T24 h24 X24 e24 W24 => ?_)
  have N25 := Fr.snoc X24 N20 g_bs
  have Z26 : n0 ≤ h24.size := Nat.le_trans Z21 (Nat.le_of_eq (Wr.size W24).symm)
  have K27 : Keep h0 h24 [bs] := K22.wr W24 (Or.inl (List.mem_of_getElem? (i := 0) rfl))
  have F28 := (Exa.wr W24 F23)
  have F29 := (Fld.other W24 G1_19 (Or.inr (slot_ne (Or.inl (Wd42 hw)) (Or.inl (Wd31 hw)) (by decide) (t := (.array .long)) (t' := .boolean) (by decide) (by decide))))
  have F30 := (Fld.other W24 G2_19 (Or.inr (slot_ne (Or.inl (Wd29 hw)) (Or.inl (Wd31 hw)) (by decide) (t := .int) (t' := .boolean) (by decide) (by decide))))
  have F31 := (Fld.same W24 G3_19)
  have F32 := (G4_19.other W24 (Ne.symm nw19))
  refine own_retV X24 hx hlk hret (hb hby d5_25) (by decide) (by decide) ?_
  rw [e24]
  exact ⟨rfl, N25, K27, wa, _, gw19, gk_wa, nw19, F29, F30, F31, F32⟩

theorem d24_0 : decode jdk_65_method_124_code 0 = .ok (.iload_n 1, 1) := by decide +kernel
theorem d24_1 : decode jdk_65_method_124_code 1 = .ok (.aload_n 0, 1) := by decide +kernel
theorem d24_2 : decode jdk_65_method_124_code 2 = .ok (.arraylength, 1) := by decide +kernel
theorem d24_3 : decode jdk_65_method_124_code 3 = .ok (.if_icmp .ne 11, 3) := by decide +kernel
theorem d24_6 : decode jdk_65_method_124_code 6 = .ok (.aload_n 0, 1) := by decide +kernel
theorem d24_7 : decode jdk_65_method_124_code 7 = .ok (.invokevirtual 319, 3) := by decide +kernel
theorem d24_10 : decode jdk_65_method_124_code 10 = .ok (.checkcast 320, 3) := by decide +kernel
theorem d24_13 : decode jdk_65_method_124_code 13 = .ok (.areturn, 1) := by decide +kernel
theorem d24_14 : decode jdk_65_method_124_code 14 = .ok (.iload_n 1, 1) := by decide +kernel
theorem d24_15 : decode jdk_65_method_124_code 15 = .ok (.newarray .long, 2) := by decide +kernel
theorem d24_17 : decode jdk_65_method_124_code 17 = .ok (.astore_n 2, 1) := by decide +kernel
theorem d24_18 : decode jdk_65_method_124_code 18 = .ok (.aload_n 0, 1) := by decide +kernel
theorem d24_19 : decode jdk_65_method_124_code 19 = .ok (.iconst 0, 1) := by decide +kernel
theorem d24_20 : decode jdk_65_method_124_code 20 = .ok (.aload_n 2, 1) := by decide +kernel
theorem d24_21 : decode jdk_65_method_124_code 21 = .ok (.iconst 0, 1) := by decide +kernel
theorem d24_22 : decode jdk_65_method_124_code 22 = .ok (.aload_n 0, 1) := by decide +kernel
theorem d24_23 : decode jdk_65_method_124_code 23 = .ok (.arraylength, 1) := by decide +kernel
theorem d24_24 : decode jdk_65_method_124_code 24 = .ok (.iload_n 1, 1) := by decide +kernel
theorem d24_25 : decode jdk_65_method_124_code 25 = .ok (.invokestatic 304, 3) := by decide +kernel
theorem d24_28 : decode jdk_65_method_124_code 28 = .ok (.invokestatic 150, 3) := by decide +kernel
theorem d24_31 : decode jdk_65_method_124_code 31 = .ok (.aload_n 2, 1) := by decide +kernel
theorem d24_32 : decode jdk_65_method_124_code 32 = .ok (.areturn, 1) := by decide +kernel
def Qco (Z : State) (h0 : Heap) (n0 : Nat) (v : Option Value) (h : Heap) (L : List Loc) : Prop := Fr n0 L ∧ Keep h0 h [] ∧ ∃ (nb : Addr) (kc : ClassId), v = some (.ref nb) ∧ n0 ≤ nb ∧ h0.size ≤ nb ∧ Arv Z h nb kc .long (33 : Int32) [(.long (0 : Int64)), (.long (0 : Int64)), (.long (0 : Int64)), (.long (0 : Int64)), (.long (0 : Int64)), (.long (0 : Int64)), (.long (0 : Int64)), (.long (0 : Int64)), (.long (0 : Int64)), (.long (0 : Int64)), (.long (0 : Int64)), (.long (0 : Int64)), (.long (0 : Int64)), (.long (0 : Int64)), (.long (0 : Int64)), (.long (0 : Int64)), (.long (0 : Int64)), (.long (0 : Int64)), (.long (0 : Int64)), (.long (0 : Int64)), (.long (0 : Int64)), (.long (0 : Int64)), (.long (0 : Int64)), (.long (0 : Int64)), (.long (0 : Int64)), (.long (0 : Int64)), (.long (0 : Int64)), (.long (0 : Int64)), (.long (0 : Int64)), (.long (0 : Int64)), (.long (0 : Int64)), (.long (0 : Int64)), (.long (0 : Int64))] (.long (0 : Int64))
theorem ef_rm_co (m : MethodId) (x0 : Addr) (x1 : Int32) : entryFrame m #[(.ref x0), (.int x1)] 3 = mkF m 0 #[.val (.ref x0), .val (.int x1), .unset] [] := by first | (simp [entryFrame, mkF, argsToLocals, Value.category, maxLocals]; done) | rfl
theorem pf_12 : plainFor (⟨"java/util/Arrays", "copyOf", "([JI)[J"⟩ : MethodName) = true := by apply plainFor_of_name; first | (simp [plainName, overriddenIn]; done) | decide +kernel
theorem Wd131 {a0 : Array Value} {Z : State} (hw : ∀ d ∈ tables_1, d.before a0 Z = true) : (Jvm.Cond.code ({ cls := "java/lang/Math", name := "min", desc := "(II)I" } : Jvm.MethodName) jdk_29_method_69_code (2 : Nat) (Option.some Jvm.ClassFile.FieldType.int)).before a0 Z = true := hw _ (List.mem_of_getElem? (i := 131) rfl)
theorem Wd123 {a0 : Array Value} {Z : State} (hw : ∀ d ∈ tables_1, d.before a0 Z = true) : (Jvm.Cond.initialized "java/lang/Math").before a0 Z = true := hw _ (List.mem_of_getElem? (i := 123) rfl)
theorem pd_2 : parseMethodDescriptor "(II)I" = some ⟨[.int, .int], some .int⟩ := by decide +kernel
theorem Wd129 {a0 : Array Value} {Z : State} (hw : ∀ d ∈ tables_1, d.before a0 Z = true) : (Jvm.Cond.methodLink "java/util/Arrays" (304 : Nat) ({ cls := "java/lang/Math", name := "min", desc := "(II)I" } : Jvm.MethodName)).before a0 Z = true := hw _ (List.mem_of_getElem? (i := 129) rfl)
theorem Wd130 {a0 : Array Value} {Z : State} (hw : ∀ d ∈ tables_1, d.before a0 Z = true) : (Jvm.Cond.static ({ cls := "java/lang/Math", name := "min", desc := "(II)I" } : Jvm.MethodName)).before a0 Z = true := hw _ (List.mem_of_getElem? (i := 130) rfl)
theorem Wd132 {a0 : Array Value} {Z : State} (hw : ∀ d ∈ tables_1, d.before a0 Z = true) : (Jvm.Cond.methodLink "java/util/Arrays" (150 : Nat) ({ cls := "java/lang/System", name := "arraycopy", desc := "(Ljava/lang/Object;ILjava/lang/Object;II)V" } : Jvm.MethodName)).before a0 Z = true := hw _ (List.mem_of_getElem? (i := 132) rfl)
theorem Wd135 {a0 : Array Value} {Z : State} (hw : ∀ d ∈ tables_1, d.before a0 Z = true) : (Jvm.Cond.native ({ cls := "java/lang/System", name := "arraycopy", desc := "(Ljava/lang/Object;ILjava/lang/Object;II)V" } : Jvm.MethodName)).before a0 Z = true := hw _ (List.mem_of_getElem? (i := 135) rfl)
theorem Wd133 {a0 : Array Value} {Z : State} (hw : ∀ d ∈ tables_1, d.before a0 Z = true) : (Jvm.Cond.static ({ cls := "java/lang/System", name := "arraycopy", desc := "(Ljava/lang/Object;ILjava/lang/Object;II)V" } : Jvm.MethodName)).before a0 Z = true := hw _ (List.mem_of_getElem? (i := 133) rfl)
theorem Wd134 {a0 : Array Value} {Z : State} (hw : ∀ d ∈ tables_1, d.before a0 Z = true) : (Jvm.Cond.initialized "java/lang/System").before a0 Z = true := hw _ (List.mem_of_getElem? (i := 134) rfl)
set_option maxRecDepth 65536 in
set_option maxHeartbeats 40000000 in
theorem rm_co (l : Launch) (Z : State) (a0 : Array Value) (hw : ∀ d ∈ tables_1, d.before a0 Z = true) (ws : List Jvm.Cond) (wa : Addr) (kc : ClassId) (h0 : Heap) (n0 : Nat) (Z0 : n0 ≤ h0.size) (V_w : Arv Z h0 wa kc .long (1 : Int32) [(.long (0 : Int64))] (.long (0 : Int64))) :
    MetFree l (⟨"java/util/Arrays", "copyOf", "([JI)[J"⟩ : MethodName) (head1 (Jvm.Cond.code (⟨"java/util/Arrays", "copyOf", "([JI)[J"⟩ : MethodName) jdk_65_method_124_code 3 (some (.array .long)) :: ws) ({ frames := 1, cells := 1, slots := 33, locals := 24 } : Room)) (fun aa U => aa = #[(.ref wa), (.int (33 : Int32))] ∧ Z.Warmed39 U.vm ∧ U.heap = h0) (fun _ _ _ _ _ => True) (fun _ U o U' => ∃ v L, o = .returned v ∧ Qco Z h0 n0 v U'.heap L ∧ FrameEnd U o U' L (({ frames := 1, cells := 1, slots := 33, locals := 24 } : Room).cells) (({ frames := 1, cells := 1, slots := 33, locals := 24 } : Room).slots)) := by
  refine own_body pf_12 ?_
  intro p e s m below meth c s₁ hx hby hml hown hnm hlk hret hZ X0 e0
  have N0 : Fr n0 [] := Fr.nil n0
  refine own_go (f' := (mkF m 0 #[.val (.ref wa), .val (.int (33 : Int32)), .unset] [])) (fun t k => castTop (ef_rm_co m wa (33 : Int32)) k) ?_
  have K1 : Keep h0 h0 [] := Keep.refl _ _
  refine own_iloadN X0 hx (pc' := 1) (hb hby d24_0) rfl rfl ?_
  refine own_aloadN X0 hx (pc' := 2) (hb hby d24_1) rfl rfl rfl ?_
  obtain ⟨cl2, Ar2, q2, S2, M2, H2, G2⟩ := id V_w
  refine own_len X0 hx (pc' := 3) hZ e0 Ar2 S2 M2 (hb hby d24_2) rfl ?_
  refine own_icmpYes X0 hx (pc' := 14) (hb hby d24_3) (feq (by decide : ¬ ((33 : Int32) = (1 : Int32)))).2 (by decide) (by decide) ?_
  refine own_iloadN X0 hx (pc' := 15) (hb hby d24_14) rfl rfl ?_
  refine own_newP X0 hx (pc' := 17) hZ (aty := .long) (Wd40 hw) e0 (hb hby d24_15) (by decide) 33 (by decide) (by decide) (by decide) (by decide) rfl (fun T3 h3 kc3 nb3 g3 X3 e3 E3 A3 => ?_)
  have ne_wa_nb3_4 : wa ≠ nb3 := Nat.ne_of_lt (Nat.lt_of_lt_of_le V_w.lt (Nat.le_of_eq g3.symm))
  have ge_nb3 : n0 ≤ nb3 := Nat.le_trans Z0 (Nat.le_of_eq g3.symm)
  have gk_nb3 : h0.size ≤ nb3 := Nat.le_trans K1.1 (Nat.le_of_eq g3.symm)
  have Z5 : n0 ≤ h3.size := Nat.le_trans Z0 E3.1
  have K6 : Keep h0 h3 [] := K1.ext E3
  have F7 := (V_w.ext E3)
  have V8a : Arv Z h3 nb3 kc3 .long (33 : Int32) [] (.long (0 : Int64)) := Arv.new A3 (by decide)
  have V8b : Arv Z h3 nb3 kc3 .long (33 : Int32) (List.replicate 33 (.long (0 : Int64))) (.long (0 : Int64)) := V8a.pad (pad_rep [] _ 33)
  have V8 : Arv Z h3 nb3 kc3 .long (33 : Int32) [(.long (0 : Int64)), (.long (0 : Int64)), (.long (0 : Int64)), (.long (0 : Int64)), (.long (0 : Int64)), (.long (0 : Int64)), (.long (0 : Int64)), (.long (0 : Int64)), (.long (0 : Int64)), (.long (0 : Int64)), (.long (0 : Int64)), (.long (0 : Int64)), (.long (0 : Int64)), (.long (0 : Int64)), (.long (0 : Int64)), (.long (0 : Int64)), (.long (0 : Int64)), (.long (0 : Int64)), (.long (0 : Int64)), (.long (0 : Int64)), (.long (0 : Int64)), (.long (0 : Int64)), (.long (0 : Int64)), (.long (0 : Int64)), (.long (0 : Int64)), (.long (0 : Int64)), (.long (0 : Int64)), (.long (0 : Int64)), (.long (0 : Int64)), (.long (0 : Int64)), (.long (0 : Int64)), (.long (0 : Int64)), (.long (0 : Int64))] (.long (0 : Int64)) := V8b
  refine own_astoreN X3 hx (pc' := 18) (Ls' := #[.val (.ref wa), .val (.int (33 : Int32)), .val (.ref nb3)]) (hb hby d24_17) rfl rfl rfl ?_
  refine own_aloadN X3 hx (pc' := 19) (hb hby d24_18) rfl rfl rfl ?_
  refine own_iconst X3 hx (pc' := 20) (0 : Int32) (hb hby d24_19) rfl rfl ?_
  refine own_aloadN X3 hx (pc' := 21) (hb hby d24_20) rfl rfl rfl ?_
  refine own_iconst X3 hx (pc' := 22) (0 : Int32) (hb hby d24_21) rfl rfl ?_
  refine own_aloadN X3 hx (pc' := 23) (hb hby d24_22) rfl rfl rfl ?_
  obtain ⟨cl9, Ar9, q9, S9, M9, H9, G9⟩ := id F7
  refine own_len X3 hx (pc' := 24) hZ e3 Ar9 S9 M9 (hb hby d24_23) rfl ?_
  refine own_iloadN X3 hx (pc' := 25) (hb hby d24_24) rfl rfl ?_
  refine own_callS X3 hx (pc' := 28) hZ hown (Wd129 hw) (Wd130 hw) (Wd123 hw) (Wd131 hw) (by decide) (rm_min l Z a0 hw [] (1 : Int32) (33 : Int32) h3 n0 Z5) e3 4 (by decide) (by decide) (by decide) (by decide) [(.int (1 : Int32)), (.int (33 : Int32))] [(.int (0 : Int32)), (.ref nb3), (.int (0 : Int32)), (.ref wa)] (by rw [hml]; rfl) (lenOf pd_2 rfl) rfl rfl (Nat.le_of_eq rfl) (hb hby d24_25) rfl (fun v10 T10 L10 X10 hQ10 => ?_)
  obtain ⟨rfl, Nq10, e10⟩ := hQ10
  have N11 := Fr.app N0 Nq10
  show own_G p.tables e below _ T10 (mkF m 28 #[.val (.ref wa), .val (.int (33 : Int32)), .val (.ref nb3)] [(.int (own_minI (1 : Int32) (33 : Int32))), (.int (0 : Int32)), (.ref nb3), (.int (0 : Int32)), (.ref wa)])
  rw [show own_minI (1 : Int32) (33 : Int32) = (1 : Int32) from by decide]
  obtain ⟨T12, h12, L12, X12, e12, N12, K12, V12, st12⟩ := cpA X10 hx hZ hown (Wd132 hw) (Wd135 hw) (Wd133 hw) (Wd134 hw) e10 F7 V8 (Or.inl ⟨rfl, rfl⟩) (by decide) (by decide) (by decide) (by decide) (by decide) (us := [(.long (0 : Int64))]) rfl (Nat.le_of_ble_eq_true rfl) N11 ge_nb3 (g := (mkF m 28 #[.val (.ref wa), .val (.int (33 : Int32)), .val (.ref nb3)] [(.int (1 : Int32)), (.int (0 : Int32)), (.ref nb3), (.int (0 : Int32)), (.ref wa)])) rfl (by rw [hml]; rfl) rfl (hb hby d24_28) (by decide) (W := 0) (by show 2 * 0 + _ ≤ _; exact Nat.le_of_eq rfl) (by decide)
  have Z13 : n0 ≤ h12.size := Nat.le_trans Z5 K12.1
  have K14 : Keep h0 h12 [] := Keep.trans K6 K12 (allS (Or.inr gk_nb3) all0)
  have F15 := (F7.keep K12 (ninS ne_wa_nb3_4 nin0))
  have V16 : Arv Z h12 nb3 kc3 .long (33 : Int32) [(.long (0 : Int64)), (.long (0 : Int64)), (.long (0 : Int64)), (.long (0 : Int64)), (.long (0 : Int64)), (.long (0 : Int64)), (.long (0 : Int64)), (.long (0 : Int64)), (.long (0 : Int64)), (.long (0 : Int64)), (.long (0 : Int64)), (.long (0 : Int64)), (.long (0 : Int64)), (.long (0 : Int64)), (.long (0 : Int64)), (.long (0 : Int64)), (.long (0 : Int64)), (.long (0 : Int64)), (.long (0 : Int64)), (.long (0 : Int64)), (.long (0 : Int64)), (.long (0 : Int64)), (.long (0 : Int64)), (.long (0 : Int64)), (.long (0 : Int64)), (.long (0 : Int64)), (.long (0 : Int64)), (.long (0 : Int64)), (.long (0 : Int64)), (.long (0 : Int64)), (.long (0 : Int64)), (.long (0 : Int64)), (.long (0 : Int64))] (.long (0 : Int64)) := V12
  refine own_go (f' := (mkF m 31 #[.val (.ref wa), .val (.int (33 : Int32)), .val (.ref nb3)] [])) st12 ?_
  refine own_aloadN X12 hx (pc' := 32) (hb hby d24_31) rfl rfl rfl ?_
  refine own_retA X12 hx hlk hret rfl rfl rfl (hb hby d24_32) (by decide) (by decide) ?_
  rw [e12]
  exact ⟨N12, K14, nb3, _, rfl, ge_nb3, gk_nb3, V16⟩

theorem d12_0 : decode jdk_92_method_14_code 0 = .ok (.aload_n 0, 1) := by decide +kernel
theorem d12_1 : decode jdk_92_method_14_code 1 = .ok (.getfield 11, 3) := by decide +kernel
theorem d12_4 : decode jdk_92_method_14_code 4 = .ok (.arraylength, 1) := by decide +kernel
theorem d12_5 : decode jdk_92_method_14_code 5 = .ok (.iload_n 1, 1) := by decide +kernel
theorem d12_6 : decode jdk_92_method_14_code 6 = .ok (.if_icmp .ge 32, 3) := by decide +kernel
theorem d12_9 : decode jdk_92_method_14_code 9 = .ok (.iconst 2, 1) := by decide +kernel
theorem d12_10 : decode jdk_92_method_14_code 10 = .ok (.aload_n 0, 1) := by decide +kernel
theorem d12_11 : decode jdk_92_method_14_code 11 = .ok (.getfield 11, 3) := by decide +kernel
theorem d12_14 : decode jdk_92_method_14_code 14 = .ok (.arraylength, 1) := by decide +kernel
theorem d12_15 : decode jdk_92_method_14_code 15 = .ok (.imul, 1) := by decide +kernel
theorem d12_16 : decode jdk_92_method_14_code 16 = .ok (.iload_n 1, 1) := by decide +kernel
theorem d12_17 : decode jdk_92_method_14_code 17 = .ok (.invokestatic 133, 3) := by decide +kernel
theorem d12_20 : decode jdk_92_method_14_code 20 = .ok (.istore_n 2, 1) := by decide +kernel
theorem d12_21 : decode jdk_92_method_14_code 21 = .ok (.aload_n 0, 1) := by decide +kernel
theorem d12_22 : decode jdk_92_method_14_code 22 = .ok (.aload_n 0, 1) := by decide +kernel
theorem d12_23 : decode jdk_92_method_14_code 23 = .ok (.getfield 11, 3) := by decide +kernel
theorem d12_26 : decode jdk_92_method_14_code 26 = .ok (.iload_n 2, 1) := by decide +kernel
theorem d12_27 : decode jdk_92_method_14_code 27 = .ok (.invokestatic 59, 3) := by decide +kernel
theorem d12_30 : decode jdk_92_method_14_code 30 = .ok (.putfield 11, 3) := by decide +kernel
theorem d12_33 : decode jdk_92_method_14_code 33 = .ok (.aload_n 0, 1) := by decide +kernel
theorem d12_34 : decode jdk_92_method_14_code 34 = .ok (.iconst 0, 1) := by decide +kernel
theorem d12_35 : decode jdk_92_method_14_code 35 = .ok (.putfield 24, 3) := by decide +kernel
theorem d12_38 : decode jdk_92_method_14_code 38 = .ok (.return_, 1) := by decide +kernel
def Qe1 (h0 : Heap) (n0 : Nat) (v : Option Value) (h : Heap) (L : List Loc) : Prop := v = none ∧ Fr n0 L ∧ h = h0
theorem ef_rm_e1 (m : MethodId) (x0 : Addr) (x1 : Int32) : entryFrame m #[(.ref x0), (.int x1)] 3 = mkF m 0 #[.val (.ref x0), .val (.int x1), .unset] [] := by first | (simp [entryFrame, mkF, argsToLocals, Value.category, maxLocals]; done) | rfl
theorem pf_13 : plainFor (⟨"java/util/BitSet", "ensureCapacity", "(I)V"⟩ : MethodName) = true := by apply plainFor_of_name; first | (simp [plainName, overriddenIn]; done) | decide +kernel
set_option maxRecDepth 65536 in
set_option maxHeartbeats 40000000 in
theorem rm_e1 (l : Launch) (Z : State) (a0 : Array Value) (hw : ∀ d ∈ tables_1, d.before a0 Z = true) (ws : List Jvm.Cond) (bs wa : Addr) (kc : ClassId) (h0 : Heap) (n0 : Nat) (Z0 : n0 ≤ h0.size) (g_bs : n0 ≤ bs) (E_bs : Exa Z h0 bs "java/util/BitSet") (d1 : bs ≠ wa) (F_w : Fld Z h0 bs "java/util/BitSet" "words" "[J" (.ref wa)) (F_u : Fld Z h0 bs "java/util/BitSet" "wordsInUse" "I" (.int (0 : Int32))) (F_y : Fld Z h0 bs "java/util/BitSet" "sizeIsSticky" "Z" (.int (0 : Int32))) (V_w : Arv Z h0 wa kc .long (1 : Int32) [(.long (0 : Int64))] (.long (0 : Int64))) :
    MetFree l (⟨"java/util/BitSet", "ensureCapacity", "(I)V"⟩ : MethodName) (head1 (Jvm.Cond.code (⟨"java/util/BitSet", "ensureCapacity", "(I)V"⟩ : MethodName) jdk_92_method_14_code 3 none :: ws) ({ frames := 0, cells := 0, slots := 0, locals := 0 } : Room)) (fun aa U => aa = #[(.ref bs), (.int (1 : Int32))] ∧ Z.Warmed39 U.vm ∧ U.heap = h0) (fun _ _ _ _ _ => True) (fun _ U o U' => ∃ v L, o = .returned v ∧ Qe1 h0 n0 v U'.heap L ∧ FrameEnd U o U' L (({ frames := 0, cells := 0, slots := 0, locals := 0 } : Room).cells) (({ frames := 0, cells := 0, slots := 0, locals := 0 } : Room).slots)) := by
  refine own_body pf_13 ?_
  intro p e s m below meth c s₁ hx hby hml hown hnm hlk hret hZ X0 e0
  have N0 : Fr n0 [] := Fr.nil n0
  refine own_go (f' := (mkF m 0 #[.val (.ref bs), .val (.int (1 : Int32)), .unset] [])) (fun t k => castTop (ef_rm_e1 m bs (1 : Int32)) k) ?_
  refine own_aloadN X0 hx (pc' := 1) (hb hby d12_0) rfl rfl rfl ?_
  refine own_getF X0 hx (pc' := 4) hZ hown (host := "") (Or.inl (Wd41 hw)) Via.refl e0 F_w (hb hby d12_1) rfl (fun T1 X1 e1 => ?_)
  obtain ⟨cl2, Ar2, q2, S2, M2, H2, G2⟩ := id V_w
  refine own_len X1 hx (pc' := 5) hZ e1 Ar2 S2 M2 (hb hby d12_4) rfl ?_
  refine own_iloadN X1 hx (pc' := 6) (hb hby d12_5) rfl rfl ?_
  refine own_icmpYes X1 hx (pc' := 38) (hb hby d12_6) (flt (by decide : ¬ ((1 : Int32) < (1 : Int32)))).2.1 (by decide) (by decide) ?_
  refine own_retV X1 hx hlk hret (hb hby d12_38) (by decide) (by decide) ?_
  exact ⟨rfl, N0, e1⟩

def Qe33 (Z : State) (bs : Addr) (h0 : Heap) (n0 : Nat) (v : Option Value) (h : Heap) (L : List Loc) : Prop := v = none ∧ Fr n0 L ∧ Keep h0 h [bs] ∧ ∃ (nb : Addr) (kc : ClassId), n0 ≤ nb ∧ h0.size ≤ nb ∧ bs ≠ nb ∧ Fld Z h bs "java/util/BitSet" "words" "[J" (.ref nb) ∧ Fld Z h bs "java/util/BitSet" "wordsInUse" "I" (.int (0 : Int32)) ∧ Fld Z h bs "java/util/BitSet" "sizeIsSticky" "Z" (.int (0 : Int32)) ∧ Arv Z h nb kc .long (33 : Int32) [(.long (0 : Int64)), (.long (0 : Int64)), (.long (0 : Int64)), (.long (0 : Int64)), (.long (0 : Int64)), (.long (0 : Int64)), (.long (0 : Int64)), (.long (0 : Int64)), (.long (0 : Int64)), (.long (0 : Int64)), (.long (0 : Int64)), (.long (0 : Int64)), (.long (0 : Int64)), (.long (0 : Int64)), (.long (0 : Int64)), (.long (0 : Int64)), (.long (0 : Int64)), (.long (0 : Int64)), (.long (0 : Int64)), (.long (0 : Int64)), (.long (0 : Int64)), (.long (0 : Int64)), (.long (0 : Int64)), (.long (0 : Int64)), (.long (0 : Int64)), (.long (0 : Int64)), (.long (0 : Int64)), (.long (0 : Int64)), (.long (0 : Int64)), (.long (0 : Int64)), (.long (0 : Int64)), (.long (0 : Int64)), (.long (0 : Int64))] (.long (0 : Int64))
theorem ef_rm_e33 (m : MethodId) (x0 : Addr) (x1 : Int32) : entryFrame m #[(.ref x0), (.int x1)] 3 = mkF m 0 #[.val (.ref x0), .val (.int x1), .unset] [] := by first | (simp [entryFrame, mkF, argsToLocals, Value.category, maxLocals]; done) | rfl
theorem Wd124 {a0 : Array Value} {Z : State} (hw : ∀ d ∈ tables_1, d.before a0 Z = true) : (Jvm.Cond.code ({ cls := "java/lang/Math", name := "max", desc := "(II)I" } : Jvm.MethodName) jdk_29_method_65_code (2 : Nat) (Option.some Jvm.ClassFile.FieldType.int)).before a0 Z = true := hw _ (List.mem_of_getElem? (i := 124) rfl)
theorem Wd121 {a0 : Array Value} {Z : State} (hw : ∀ d ∈ tables_1, d.before a0 Z = true) : (Jvm.Cond.methodLink "java/util/BitSet" (133 : Nat) ({ cls := "java/lang/Math", name := "max", desc := "(II)I" } : Jvm.MethodName)).before a0 Z = true := hw _ (List.mem_of_getElem? (i := 121) rfl)
theorem Wd122 {a0 : Array Value} {Z : State} (hw : ∀ d ∈ tables_1, d.before a0 Z = true) : (Jvm.Cond.static ({ cls := "java/lang/Math", name := "max", desc := "(II)I" } : Jvm.MethodName)).before a0 Z = true := hw _ (List.mem_of_getElem? (i := 122) rfl)
theorem Wd128 {a0 : Array Value} {Z : State} (hw : ∀ d ∈ tables_1, d.before a0 Z = true) : (Jvm.Cond.code ({ cls := "java/util/Arrays", name := "copyOf", desc := "([JI)[J" } : Jvm.MethodName) jdk_65_method_124_code (3 : Nat) (Option.some (Jvm.ClassFile.FieldType.array Jvm.ClassFile.FieldType.long))).before a0 Z = true := hw _ (List.mem_of_getElem? (i := 128) rfl)
theorem Wd127 {a0 : Array Value} {Z : State} (hw : ∀ d ∈ tables_1, d.before a0 Z = true) : (Jvm.Cond.initialized "java/util/Arrays").before a0 Z = true := hw _ (List.mem_of_getElem? (i := 127) rfl)
theorem pd_3 : parseMethodDescriptor "([JI)[J" = some ⟨[(.array .long), .int], some (.array .long)⟩ := by decide +kernel
theorem Wd125 {a0 : Array Value} {Z : State} (hw : ∀ d ∈ tables_1, d.before a0 Z = true) : (Jvm.Cond.methodLink "java/util/BitSet" (59 : Nat) ({ cls := "java/util/Arrays", name := "copyOf", desc := "([JI)[J" } : Jvm.MethodName)).before a0 Z = true := hw _ (List.mem_of_getElem? (i := 125) rfl)
theorem Wd126 {a0 : Array Value} {Z : State} (hw : ∀ d ∈ tables_1, d.before a0 Z = true) : (Jvm.Cond.static ({ cls := "java/util/Arrays", name := "copyOf", desc := "([JI)[J" } : Jvm.MethodName)).before a0 Z = true := hw _ (List.mem_of_getElem? (i := 126) rfl)
set_option maxRecDepth 65536 in
set_option maxHeartbeats 40000000 in
theorem rm_e33 (l : Launch) (Z : State) (a0 : Array Value) (hw : ∀ d ∈ tables_1, d.before a0 Z = true) (ws : List Jvm.Cond) (bs wa : Addr) (kc : ClassId) (h0 : Heap) (n0 : Nat) (Z0 : n0 ≤ h0.size) (g_bs : n0 ≤ bs) (E_bs : Exa Z h0 bs "java/util/BitSet") (d1 : bs ≠ wa) (F_w : Fld Z h0 bs "java/util/BitSet" "words" "[J" (.ref wa)) (F_u : Fld Z h0 bs "java/util/BitSet" "wordsInUse" "I" (.int (0 : Int32))) (F_y : Fld Z h0 bs "java/util/BitSet" "sizeIsSticky" "Z" (.int (0 : Int32))) (V_w : Arv Z h0 wa kc .long (1 : Int32) [(.long (0 : Int64))] (.long (0 : Int64))) :
    MetFree l (⟨"java/util/BitSet", "ensureCapacity", "(I)V"⟩ : MethodName) (head1 (Jvm.Cond.code (⟨"java/util/BitSet", "ensureCapacity", "(I)V"⟩ : MethodName) jdk_92_method_14_code 3 none :: ws) ({ frames := 2, cells := 1, slots := 33, locals := 40 } : Room)) (fun aa U => aa = #[(.ref bs), (.int (33 : Int32))] ∧ Z.Warmed39 U.vm ∧ U.heap = h0) (fun _ _ _ _ _ => True) (fun _ U o U' => ∃ v L, o = .returned v ∧ Qe33 Z bs h0 n0 v U'.heap L ∧ FrameEnd U o U' L (({ frames := 2, cells := 1, slots := 33, locals := 40 } : Room).cells) (({ frames := 2, cells := 1, slots := 33, locals := 40 } : Room).slots)) := by
  refine own_body pf_13 ?_
  intro p e s m below meth c s₁ hx hby hml hown hnm hlk hret hZ X0 e0
  have N0 : Fr n0 [] := Fr.nil n0
  refine own_go (f' := (mkF m 0 #[.val (.ref bs), .val (.int (33 : Int32)), .unset] [])) (fun t k => castTop (ef_rm_e33 m bs (33 : Int32)) k) ?_
  have K1 : Keep h0 h0 [bs] := Keep.refl _ _
  refine own_aloadN X0 hx (pc' := 1) (hb hby d12_0) rfl rfl rfl ?_
  refine own_getF X0 hx (pc' := 4) hZ hown (host := "") (Or.inl (Wd41 hw)) Via.refl e0 F_w (hb hby d12_1) rfl (fun T2 X2 e2 => ?_)
  obtain ⟨cl3, Ar3, q3, S3, M3, H3, G3⟩ := id V_w
  refine own_len X2 hx (pc' := 5) hZ e2 Ar3 S3 M3 (hb hby d12_4) rfl ?_
  refine own_iloadN X2 hx (pc' := 6) (hb hby d12_5) rfl rfl ?_
  refine own_icmpNo X2 hx (pc' := 9) (hb hby d12_6) (tlt (by decide : (1 : Int32) < (33 : Int32))).2.1 rfl ?_
  refine own_iconst X2 hx (pc' := 10) (2 : Int32) (hb hby d12_9) rfl rfl ?_
  refine own_aloadN X2 hx (pc' := 11) (hb hby d12_10) rfl rfl rfl ?_
  refine own_getF X2 hx (pc' := 14) hZ hown (host := "") (Or.inl (Wd41 hw)) Via.refl e2 F_w (hb hby d12_11) rfl (fun T4 X4 e4 => ?_)
  obtain ⟨cl5, Ar5, q5, S5, M5, H5, G5⟩ := id V_w
  refine own_len X4 hx (pc' := 15) hZ e4 Ar5 S5 M5 (hb hby d12_14) rfl ?_
  refine own_imul X4 hx (pc' := 16) (z := (2 : Int32)) (hb hby d12_15) (by decide) rfl ?_
  refine own_iloadN X4 hx (pc' := 17) (hb hby d12_16) rfl rfl ?_
  refine own_callS X4 hx (pc' := 20) hZ hown (Wd121 hw) (Wd122 hw) (Wd123 hw) (Wd124 hw) (by decide) (rm_max l Z a0 hw [] (2 : Int32) (33 : Int32) h0 n0 Z0) e4 0 (by decide) (by decide) (by decide) (by decide) [(.int (2 : Int32)), (.int (33 : Int32))] [] (by rw [hml]; rfl) (lenOf pd_2 rfl) rfl rfl (Nat.le_of_eq rfl) (hb hby d12_17) rfl (fun v6 T6 L6 X6 hQ6 => ?_)
  obtain ⟨rfl, Nq6, e6⟩ := hQ6
  have N7 := Fr.app N0 Nq6
  show own_G p.tables e below _ T6 (mkF m 20 #[.val (.ref bs), .val (.int (33 : Int32)), .unset] [(.int (own_maxI (2 : Int32) (33 : Int32)))])
  rw [show own_maxI (2 : Int32) (33 : Int32) = (33 : Int32) from by decide]
  refine own_istoreN X6 hx (pc' := 21) (Ls' := #[.val (.ref bs), .val (.int (33 : Int32)), .val (.int (33 : Int32))]) (hb hby d12_20) rfl rfl ?_
  refine own_aloadN X6 hx (pc' := 22) (hb hby d12_21) rfl rfl rfl ?_
  refine own_aloadN X6 hx (pc' := 23) (hb hby d12_22) rfl rfl rfl ?_
  refine own_getF X6 hx (pc' := 26) hZ hown (host := "") (Or.inl (Wd41 hw)) Via.refl e6 F_w (hb hby d12_23) rfl (fun T8 X8 e8 => ?_)
  refine own_iloadN X8 hx (pc' := 27) (hb hby d12_26) rfl rfl ?_
  refine own_callS X8 hx (pc' := 30) hZ hown (Wd125 hw) (Wd126 hw) (Wd127 hw) (Wd128 hw) (by decide) (rm_co l Z a0 hw [] wa kc h0 n0 Z0 V_w) e8 1 (by decide) (by decide) (by decide) (by decide) [(.ref wa), (.int (33 : Int32))] [(.ref bs)] (by rw [hml]; rfl) (lenOf pd_3 rfl) rfl rfl (Nat.le_of_eq rfl) (hb hby d12_27) rfl (fun v9 T9 L9 X9 hQ9 => ?_)
  obtain ⟨Nq9, K9, nw, kw, rfl, gw9, gz9, G4_9⟩ := hQ9
  have N10 := Fr.app N7 Nq9
  have ne9 : bs ≠ nw := Nat.ne_of_lt (Nat.lt_of_lt_of_le F_w.lt gz9)
  have nf9 : wa ≠ nw := Nat.ne_of_lt (Nat.lt_of_lt_of_le V_w.lt gz9)
  have gk_nw : h0.size ≤ nw := Nat.le_trans K1.1 gz9
  have Z11 : n0 ≤ T9.heap.size := Nat.le_trans Z0 K9.1
  have K12 : Keep h0 T9.heap [bs] := Keep.trans K1 K9 all0
  have F13 := (Exa.keep E_bs K9)
  have F14 := (F_w.keep K9 nin0)
  have F15 := (F_u.keep K9 nin0)
  have F16 := (F_y.keep K9 nin0)
  have F17 := (V_w.keep K9 nin0)
  show own_G p.tables e below _ T9 (mkF m 30 #[.val (.ref bs), .val (.int (33 : Int32)), .val (.int (33 : Int32))] [(.ref nw), (.ref bs)])
  refine own_putF X9 hx (pc' := 33) hZ (ty := (.array .long)) hown (host := "") (Or.inl (Wd41 hw)) Via.refl rfl F14 F13 (Or.inl (Wd42 hw)) (Wd20 hw) (by decide) rfl rfl (hb hby d12_30) rfl (fun T18 h18 X18 e18 W18 => ?_)
  have N19 := Fr.snoc X18 N10 g_bs
  have Z20 : n0 ≤ h18.size := Nat.le_trans Z11 (Nat.le_of_eq (Wr.size W18).symm)
  have K21 : Keep h0 h18 [bs] := K12.wr W18 (Or.inl (List.mem_of_getElem? (i := 0) rfl))
  have F22 := (Exa.wr W18 F13)
  have F23 := (Fld.same W18 F14)
  have F24 := (Fld.other W18 F15 (Or.inr (slot_ne (Or.inl (Wd29 hw)) (Or.inl (Wd42 hw)) (by decide) (t := .int) (t' := (.array .long)) (by decide) (by decide))))
  have F25 := (Fld.other W18 F16 (Or.inr (slot_ne (Or.inl (Wd31 hw)) (Or.inl (Wd42 hw)) (by decide) (t := .boolean) (t' := (.array .long)) (by decide) (by decide))))
  have F26 := (F17.other W18 (Ne.symm d1))
  have F27 := (G4_9.other W18 (Ne.symm ne9))
  refine own_aloadN X18 hx (pc' := 34) (hb hby d12_33) rfl rfl rfl ?_
  refine own_iconst X18 hx (pc' := 35) (0 : Int32) (hb hby d12_34) rfl rfl ?_
  refine own_putFN X18 hx (pc' := 38) hZ (ty := .boolean) (.int (0 : Int32)) hown (Wd30 hw) Via.refl e18 F25 F22 (Or.inl (Wd31 hw)) (Wd20 hw) (by decide) rfl rfl (hb hby d12_35) rfl (fun T28 h28 X28 e28 W28 => ?_)
  have N29 := Fr.snoc X28 N19 g_bs
  have Z30 : n0 ≤ h28.size := Nat.le_trans Z20 (Nat.le_of_eq (Wr.size W28).symm)
  have K31 : Keep h0 h28 [bs] := K21.wr W28 (Or.inl (List.mem_of_getElem? (i := 0) rfl))
  have F32 := (Exa.wr W28 F22)
  have F33 := (Fld.other W28 F23 (Or.inr (slot_ne (Or.inl (Wd42 hw)) (Or.inl (Wd31 hw)) (by decide) (t := (.array .long)) (t' := .boolean) (by decide) (by decide))))
  have F34 := (Fld.other W28 F24 (Or.inr (slot_ne (Or.inl (Wd29 hw)) (Or.inl (Wd31 hw)) (by decide) (t := .int) (t' := .boolean) (by decide) (by decide))))
  have F35 := (Fld.same W28 F25)
  have F36 := (F26.other W28 (Ne.symm d1))
  have F37 := (F27.other W28 (Ne.symm ne9))
  refine own_retV X28 hx hlk hret (hb hby d12_38) (by decide) (by decide) ?_
  rw [e28]
  exact ⟨rfl, N29, K31, nw, _, gw9, gk_nw, ne9, F33, F34, F35, F37⟩

theorem d11_0 : decode jdk_92_method_15_code 0 = .ok (.iload_n 1, 1) := by decide +kernel
theorem d11_1 : decode jdk_92_method_15_code 1 = .ok (.iconst 1, 1) := by decide +kernel
theorem d11_2 : decode jdk_92_method_15_code 2 = .ok (.iadd, 1) := by decide +kernel
theorem d11_3 : decode jdk_92_method_15_code 3 = .ok (.istore_n 2, 1) := by decide +kernel
theorem d11_4 : decode jdk_92_method_15_code 4 = .ok (.aload_n 0, 1) := by decide +kernel
theorem d11_5 : decode jdk_92_method_15_code 5 = .ok (.getfield 7, 3) := by decide +kernel
theorem d11_8 : decode jdk_92_method_15_code 8 = .ok (.iload_n 2, 1) := by decide +kernel
theorem d11_9 : decode jdk_92_method_15_code 9 = .ok (.if_icmp .ge 13, 3) := by decide +kernel
theorem d11_12 : decode jdk_92_method_15_code 12 = .ok (.aload_n 0, 1) := by decide +kernel
theorem d11_13 : decode jdk_92_method_15_code 13 = .ok (.iload_n 2, 1) := by decide +kernel
theorem d11_14 : decode jdk_92_method_15_code 14 = .ok (.invokevirtual 139, 3) := by decide +kernel
theorem d11_17 : decode jdk_92_method_15_code 17 = .ok (.aload_n 0, 1) := by decide +kernel
theorem d11_18 : decode jdk_92_method_15_code 18 = .ok (.iload_n 2, 1) := by decide +kernel
theorem d11_19 : decode jdk_92_method_15_code 19 = .ok (.putfield 7, 3) := by decide +kernel
theorem d11_22 : decode jdk_92_method_15_code 22 = .ok (.return_, 1) := by decide +kernel
def Qx0 (Z : State) (bs wa : Addr) (kc : ClassId) (h0 : Heap) (n0 : Nat) (v : Option Value) (h : Heap) (L : List Loc) : Prop := v = none ∧ Fr n0 L ∧ Keep h0 h [bs] ∧ Fld Z h bs "java/util/BitSet" "words" "[J" (.ref wa) ∧ Fld Z h bs "java/util/BitSet" "wordsInUse" "I" (.int (1 : Int32)) ∧ Fld Z h bs "java/util/BitSet" "sizeIsSticky" "Z" (.int (0 : Int32)) ∧ Arv Z h wa kc .long (1 : Int32) [(.long (0 : Int64))] (.long (0 : Int64))
theorem ef_rm_x0 (m : MethodId) (x0 : Addr) (x1 : Int32) : entryFrame m #[(.ref x0), (.int x1)] 3 = mkF m 0 #[.val (.ref x0), .val (.int x1), .unset] [] := by first | (simp [entryFrame, mkF, argsToLocals, Value.category, maxLocals]; done) | rfl
theorem pf_14 : plainFor (⟨"java/util/BitSet", "expandTo", "(I)V"⟩ : MethodName) = true := by apply plainFor_of_name; first | (simp [plainName, overriddenIn]; done) | decide +kernel
theorem Wd64 {a0 : Array Value} {Z : State} (hw : ∀ d ∈ tables_1, d.before a0 Z = true) : (Jvm.Cond.code ({ cls := "java/util/BitSet", name := "ensureCapacity", desc := "(I)V" } : Jvm.MethodName) jdk_92_method_14_code (3 : Nat) (Option.none : Option Jvm.ClassFile.FieldType)).before a0 Z = true := hw _ (List.mem_of_getElem? (i := 64) rfl)
theorem Wd60 {a0 : Array Value} {Z : State} (hw : ∀ d ∈ tables_1, d.before a0 Z = true) : (Jvm.Cond.methodLink "java/util/BitSet" (139 : Nat) ({ cls := "java/util/BitSet", name := "ensureCapacity", desc := "(I)V" } : Jvm.MethodName)).before a0 Z = true := hw _ (List.mem_of_getElem? (i := 60) rfl)
theorem Wd61 {a0 : Array Value} {Z : State} (hw : ∀ d ∈ tables_1, d.before a0 Z = true) : (Jvm.Cond.instanceMethod ({ cls := "java/util/BitSet", name := "ensureCapacity", desc := "(I)V" } : Jvm.MethodName)).before a0 Z = true := hw _ (List.mem_of_getElem? (i := 61) rfl)
theorem Wd62 {a0 : Array Value} {Z : State} (hw : ∀ d ∈ tables_1, d.before a0 Z = true) : (Jvm.Cond.privateMethod ({ cls := "java/util/BitSet", name := "ensureCapacity", desc := "(I)V" } : Jvm.MethodName)).before a0 Z = true := hw _ (List.mem_of_getElem? (i := 62) rfl)
set_option maxRecDepth 65536 in
set_option maxHeartbeats 40000000 in
theorem rm_x0 (l : Launch) (Z : State) (a0 : Array Value) (hw : ∀ d ∈ tables_1, d.before a0 Z = true) (ws : List Jvm.Cond) (bs wa : Addr) (kc : ClassId) (h0 : Heap) (n0 : Nat) (Z0 : n0 ≤ h0.size) (g_bs : n0 ≤ bs) (E_bs : Exa Z h0 bs "java/util/BitSet") (d1 : bs ≠ wa) (F_w : Fld Z h0 bs "java/util/BitSet" "words" "[J" (.ref wa)) (F_u : Fld Z h0 bs "java/util/BitSet" "wordsInUse" "I" (.int (0 : Int32))) (F_y : Fld Z h0 bs "java/util/BitSet" "sizeIsSticky" "Z" (.int (0 : Int32))) (V_w : Arv Z h0 wa kc .long (1 : Int32) [(.long (0 : Int64))] (.long (0 : Int64))) :
    MetFree l (⟨"java/util/BitSet", "expandTo", "(I)V"⟩ : MethodName) (head1 (Jvm.Cond.code (⟨"java/util/BitSet", "expandTo", "(I)V"⟩ : MethodName) jdk_92_method_15_code 3 none :: ws) ({ frames := 1, cells := 0, slots := 0, locals := 14 } : Room)) (fun aa U => aa = #[(.ref bs), (.int (0 : Int32))] ∧ Z.Warmed39 U.vm ∧ U.heap = h0) (fun _ _ _ _ _ => True) (fun _ U o U' => ∃ v L, o = .returned v ∧ Qx0 Z bs wa kc h0 n0 v U'.heap L ∧ FrameEnd U o U' L (({ frames := 1, cells := 0, slots := 0, locals := 14 } : Room).cells) (({ frames := 1, cells := 0, slots := 0, locals := 14 } : Room).slots)) := by
  refine own_body pf_14 ?_
  intro p e s m below meth c s₁ hx hby hml hown hnm hlk hret hZ X0 e0
  have N0 : Fr n0 [] := Fr.nil n0
  refine own_go (f' := (mkF m 0 #[.val (.ref bs), .val (.int (0 : Int32)), .unset] [])) (fun t k => castTop (ef_rm_x0 m bs (0 : Int32)) k) ?_
  have K1 : Keep h0 h0 [bs] := Keep.refl _ _
  refine own_iloadN X0 hx (pc' := 1) (hb hby d11_0) rfl rfl ?_
  refine own_iconst X0 hx (pc' := 2) (1 : Int32) (hb hby d11_1) rfl rfl ?_
  refine own_iadd X0 hx (pc' := 3) (z := (1 : Int32)) (hb hby d11_2) (by decide) rfl ?_
  refine own_istoreN X0 hx (pc' := 4) (Ls' := #[.val (.ref bs), .val (.int (0 : Int32)), .val (.int (1 : Int32))]) (hb hby d11_3) rfl rfl ?_
  refine own_aloadN X0 hx (pc' := 5) (hb hby d11_4) rfl rfl rfl ?_
  refine own_getF X0 hx (pc' := 8) hZ hown (host := "") (Or.inl (Wd28 hw)) Via.refl e0 F_u (hb hby d11_5) rfl (fun T2 X2 e2 => ?_)
  refine own_iloadN X2 hx (pc' := 9) (hb hby d11_8) rfl rfl ?_
  refine own_icmpNo X2 hx (pc' := 12) (hb hby d11_9) (tlt (by decide : (0 : Int32) < (1 : Int32))).2.1 rfl ?_
  refine own_aloadN X2 hx (pc' := 13) (hb hby d11_12) rfl rfl rfl ?_
  refine own_iloadN X2 hx (pc' := 14) (hb hby d11_13) rfl rfl ?_
  refine own_callP X2 hx (pc' := 17) hZ hown (Wd60 hw) (Wd61 hw) (Wd62 hw) (Wd64 hw) (Wd21 hw) (Wd20 hw) (by decide) (rm_e1 l Z a0 hw [] bs wa kc h0 n0 Z0 g_bs E_bs d1 F_w F_u F_y V_w) e2 E_bs 0 (by decide) (by decide) (by decide) (by decide) [(.int (1 : Int32))] [] (by rw [hml]; rfl) (lenOf pd_1 rfl) rfl rfl (Nat.le_of_eq rfl) (hb hby d11_14) rfl (fun v3 T3 L3 X3 hQ3 => ?_)
  obtain ⟨rfl, Nq3, e3⟩ := hQ3
  have N4 := Fr.app N0 Nq3
  show own_G p.tables e below _ T3 (mkF m 17 #[.val (.ref bs), .val (.int (0 : Int32)), .val (.int (1 : Int32))] [])
  refine own_aloadN X3 hx (pc' := 18) (hb hby d11_17) rfl rfl rfl ?_
  refine own_iloadN X3 hx (pc' := 19) (hb hby d11_18) rfl rfl ?_
  refine own_putF X3 hx (pc' := 22) hZ (ty := .int) hown (host := "") (Or.inl (Wd28 hw)) Via.refl e3 F_u E_bs (Or.inl (Wd29 hw)) (Wd20 hw) (by decide) rfl rfl (hb hby d11_19) rfl (fun T5 h5 X5 e5 W5 => ?_)
  have N6 := Fr.snoc X5 N4 g_bs
  have Z7 : n0 ≤ h5.size := Nat.le_trans Z0 (Nat.le_of_eq (Wr.size W5).symm)
  have K8 : Keep h0 h5 [bs] := K1.wr W5 (Or.inl (List.mem_of_getElem? (i := 0) rfl))
  have F9 := (Exa.wr W5 E_bs)
  have F10 := (Fld.other W5 F_w (Or.inr (slot_ne (Or.inl (Wd42 hw)) (Or.inl (Wd29 hw)) (by decide) (t := (.array .long)) (t' := .int) (by decide) (by decide))))
  have F11 := (Fld.same W5 F_u)
  have F12 := (Fld.other W5 F_y (Or.inr (slot_ne (Or.inl (Wd31 hw)) (Or.inl (Wd29 hw)) (by decide) (t := .boolean) (t' := .int) (by decide) (by decide))))
  have F13 := (V_w.other W5 (Ne.symm d1))
  refine own_retV X5 hx hlk hret (hb hby d11_22) (by decide) (by decide) ?_
  rw [e5]
  exact ⟨rfl, N6, K8, F10, F11, F12, F13⟩

def Qx32 (Z : State) (bs : Addr) (h0 : Heap) (n0 : Nat) (v : Option Value) (h : Heap) (L : List Loc) : Prop := v = none ∧ Fr n0 L ∧ Keep h0 h [bs] ∧ ∃ (nb : Addr) (kc : ClassId), n0 ≤ nb ∧ h0.size ≤ nb ∧ bs ≠ nb ∧ Fld Z h bs "java/util/BitSet" "words" "[J" (.ref nb) ∧ Fld Z h bs "java/util/BitSet" "wordsInUse" "I" (.int (33 : Int32)) ∧ Fld Z h bs "java/util/BitSet" "sizeIsSticky" "Z" (.int (0 : Int32)) ∧ Arv Z h nb kc .long (33 : Int32) [(.long (0 : Int64)), (.long (0 : Int64)), (.long (0 : Int64)), (.long (0 : Int64)), (.long (0 : Int64)), (.long (0 : Int64)), (.long (0 : Int64)), (.long (0 : Int64)), (.long (0 : Int64)), (.long (0 : Int64)), (.long (0 : Int64)), (.long (0 : Int64)), (.long (0 : Int64)), (.long (0 : Int64)), (.long (0 : Int64)), (.long (0 : Int64)), (.long (0 : Int64)), (.long (0 : Int64)), (.long (0 : Int64)), (.long (0 : Int64)), (.long (0 : Int64)), (.long (0 : Int64)), (.long (0 : Int64)), (.long (0 : Int64)), (.long (0 : Int64)), (.long (0 : Int64)), (.long (0 : Int64)), (.long (0 : Int64)), (.long (0 : Int64)), (.long (0 : Int64)), (.long (0 : Int64)), (.long (0 : Int64)), (.long (0 : Int64))] (.long (0 : Int64))
theorem ef_rm_x32 (m : MethodId) (x0 : Addr) (x1 : Int32) : entryFrame m #[(.ref x0), (.int x1)] 3 = mkF m 0 #[.val (.ref x0), .val (.int x1), .unset] [] := by first | (simp [entryFrame, mkF, argsToLocals, Value.category, maxLocals]; done) | rfl
set_option maxRecDepth 65536 in
set_option maxHeartbeats 40000000 in
theorem rm_x32 (l : Launch) (Z : State) (a0 : Array Value) (hw : ∀ d ∈ tables_1, d.before a0 Z = true) (ws : List Jvm.Cond) (bs wa : Addr) (kc : ClassId) (h0 : Heap) (n0 : Nat) (Z0 : n0 ≤ h0.size) (g_bs : n0 ≤ bs) (E_bs : Exa Z h0 bs "java/util/BitSet") (d1 : bs ≠ wa) (F_w : Fld Z h0 bs "java/util/BitSet" "words" "[J" (.ref wa)) (F_u : Fld Z h0 bs "java/util/BitSet" "wordsInUse" "I" (.int (0 : Int32))) (F_y : Fld Z h0 bs "java/util/BitSet" "sizeIsSticky" "Z" (.int (0 : Int32))) (V_w : Arv Z h0 wa kc .long (1 : Int32) [(.long (0 : Int64))] (.long (0 : Int64))) :
    MetFree l (⟨"java/util/BitSet", "expandTo", "(I)V"⟩ : MethodName) (head1 (Jvm.Cond.code (⟨"java/util/BitSet", "expandTo", "(I)V"⟩ : MethodName) jdk_92_method_15_code 3 none :: ws) ({ frames := 3, cells := 1, slots := 33, locals := 56 } : Room)) (fun aa U => aa = #[(.ref bs), (.int (32 : Int32))] ∧ Z.Warmed39 U.vm ∧ U.heap = h0) (fun _ _ _ _ _ => True) (fun _ U o U' => ∃ v L, o = .returned v ∧ Qx32 Z bs h0 n0 v U'.heap L ∧ FrameEnd U o U' L (({ frames := 3, cells := 1, slots := 33, locals := 56 } : Room).cells) (({ frames := 3, cells := 1, slots := 33, locals := 56 } : Room).slots)) := by
  refine own_body pf_14 ?_
  intro p e s m below meth c s₁ hx hby hml hown hnm hlk hret hZ X0 e0
  have N0 : Fr n0 [] := Fr.nil n0
  refine own_go (f' := (mkF m 0 #[.val (.ref bs), .val (.int (32 : Int32)), .unset] [])) (fun t k => castTop (ef_rm_x32 m bs (32 : Int32)) k) ?_
  have K1 : Keep h0 h0 [bs] := Keep.refl _ _
  refine own_iloadN X0 hx (pc' := 1) (hb hby d11_0) rfl rfl ?_
  refine own_iconst X0 hx (pc' := 2) (1 : Int32) (hb hby d11_1) rfl rfl ?_
  refine own_iadd X0 hx (pc' := 3) (z := (33 : Int32)) (hb hby d11_2) (by decide) rfl ?_
  refine own_istoreN X0 hx (pc' := 4) (Ls' := #[.val (.ref bs), .val (.int (32 : Int32)), .val (.int (33 : Int32))]) (hb hby d11_3) rfl rfl ?_
  refine own_aloadN X0 hx (pc' := 5) (hb hby d11_4) rfl rfl rfl ?_
  refine own_getF X0 hx (pc' := 8) hZ hown (host := "") (Or.inl (Wd28 hw)) Via.refl e0 F_u (hb hby d11_5) rfl (fun T2 X2 e2 => ?_)
  refine own_iloadN X2 hx (pc' := 9) (hb hby d11_8) rfl rfl ?_
  refine own_icmpNo X2 hx (pc' := 12) (hb hby d11_9) (tlt (by decide : (0 : Int32) < (33 : Int32))).2.1 rfl ?_
  refine own_aloadN X2 hx (pc' := 13) (hb hby d11_12) rfl rfl rfl ?_
  refine own_iloadN X2 hx (pc' := 14) (hb hby d11_13) rfl rfl ?_
  refine own_callP X2 hx (pc' := 17) hZ hown (Wd60 hw) (Wd61 hw) (Wd62 hw) (Wd64 hw) (Wd21 hw) (Wd20 hw) (by decide) (rm_e33 l Z a0 hw [] bs wa kc h0 n0 Z0 g_bs E_bs d1 F_w F_u F_y V_w) e2 E_bs 0 (by decide) (by decide) (by decide) (by decide) [(.int (33 : Int32))] [] (by rw [hml]; rfl) (lenOf pd_1 rfl) rfl rfl (Nat.le_of_eq rfl) (hb hby d11_14) rfl (fun v3 T3 L3 X3 hQ3 => ?_)
  obtain ⟨rfl, Nq3, K3, nw, kw, gw3, gz3, ne3, G1_3, G2_3, G3_3, G4_3⟩ := hQ3
  have N4 := Fr.app N0 Nq3
  have nf3 : wa ≠ nw := Nat.ne_of_lt (Nat.lt_of_lt_of_le V_w.lt gz3)
  have gk_nw : h0.size ≤ nw := Nat.le_trans K1.1 gz3
  have Z5 : n0 ≤ T3.heap.size := Nat.le_trans Z0 K3.1
  have K6 : Keep h0 T3.heap [bs] := Keep.trans K1 K3 (allS (Or.inl (List.mem_of_getElem? (i := 0) rfl)) all0)
  have F7 := (Exa.keep E_bs K3)
  have F8 := (V_w.keep K3 (ninS (Ne.symm d1) nin0))
  show own_G p.tables e below _ T3 (mkF m 17 #[.val (.ref bs), .val (.int (32 : Int32)), .val (.int (33 : Int32))] [])
  refine own_aloadN X3 hx (pc' := 18) (hb hby d11_17) rfl rfl rfl ?_
  refine own_iloadN X3 hx (pc' := 19) (hb hby d11_18) rfl rfl ?_
  refine own_putF X3 hx (pc' := 22) hZ (ty := .int) hown (host := "") (Or.inl (Wd28 hw)) Via.refl rfl G2_3 F7 (Or.inl (Wd29 hw)) (Wd20 hw) (by decide) rfl rfl (hb hby d11_19) rfl (fun T9 h9 X9 e9 W9 => ?_)
  have N10 := Fr.snoc X9 N4 g_bs
  have Z11 : n0 ≤ h9.size := Nat.le_trans Z5 (Nat.le_of_eq (Wr.size W9).symm)
  have K12 : Keep h0 h9 [bs] := K6.wr W9 (Or.inl (List.mem_of_getElem? (i := 0) rfl))
  have F13 := (Exa.wr W9 F7)
  have F14 := (F8.other W9 (Ne.symm d1))
  have F15 := (Fld.other W9 G1_3 (Or.inr (slot_ne (Or.inl (Wd42 hw)) (Or.inl (Wd29 hw)) (by decide) (t := (.array .long)) (t' := .int) (by decide) (by decide))))
  have F16 := (Fld.same W9 G2_3)
  have F17 := (Fld.other W9 G3_3 (Or.inr (slot_ne (Or.inl (Wd31 hw)) (Or.inl (Wd29 hw)) (by decide) (t := .boolean) (t' := .int) (by decide) (by decide))))
  have F18 := (G4_3.other W9 (Ne.symm ne3))
  refine own_retV X9 hx hlk hret (hb hby d11_22) (by decide) (by decide) ?_
  rw [e9]
  exact ⟨rfl, N10, K12, nw, _, gw3, gk_nw, ne3, F15, F16, F17, F18⟩

theorem d9_0 : decode jdk_92_method_21_code 0 = .ok (.iload_n 1, 1) := by decide +kernel
theorem d9_1 : decode jdk_92_method_21_code 1 = .ok (.iload_n 2, 1) := by decide +kernel
theorem d9_2 : decode jdk_92_method_21_code 2 = .ok (.invokestatic 161, 3) := by decide +kernel
theorem d9_5 : decode jdk_92_method_21_code 5 = .ok (.iload_n 1, 1) := by decide +kernel
theorem d9_6 : decode jdk_92_method_21_code 6 = .ok (.iload_n 2, 1) := by decide +kernel
theorem d9_7 : decode jdk_92_method_21_code 7 = .ok (.if_icmp .ne 4, 3) := by decide +kernel
theorem d9_10 : decode jdk_92_method_21_code 10 = .ok (.return_, 1) := by decide +kernel
theorem d9_11 : decode jdk_92_method_21_code 11 = .ok (.iload_n 1, 1) := by decide +kernel
theorem d9_12 : decode jdk_92_method_21_code 12 = .ok (.invokestatic 52, 3) := by decide +kernel
theorem d9_15 : decode jdk_92_method_21_code 15 = .ok (.istore_n 3, 1) := by decide +kernel
theorem d9_16 : decode jdk_92_method_21_code 16 = .ok (.iload_n 2, 1) := by decide +kernel
theorem d9_17 : decode jdk_92_method_21_code 17 = .ok (.iconst 1, 1) := by decide +kernel
theorem d9_18 : decode jdk_92_method_21_code 18 = .ok (.isub, 1) := by decide +kernel
theorem d9_19 : decode jdk_92_method_21_code 19 = .ok (.invokestatic 52, 3) := by decide +kernel
theorem d9_22 : decode jdk_92_method_21_code 22 = .ok (.istore 4, 2) := by decide +kernel
theorem d9_24 : decode jdk_92_method_21_code 24 = .ok (.aload_n 0, 1) := by decide +kernel
theorem d9_25 : decode jdk_92_method_21_code 25 = .ok (.iload 4, 2) := by decide +kernel
theorem d9_27 : decode jdk_92_method_21_code 27 = .ok (.invokevirtual 155, 3) := by decide +kernel
theorem d9_30 : decode jdk_92_method_21_code 30 = .ok (.ldc2_w 165, 3) := by decide +kernel
theorem d9_33 : decode jdk_92_method_21_code 33 = .ok (.iload_n 1, 1) := by decide +kernel
theorem d9_34 : decode jdk_92_method_21_code 34 = .ok (.lshl, 1) := by decide +kernel
theorem d9_35 : decode jdk_92_method_21_code 35 = .ok (.lstore 5, 2) := by decide +kernel
theorem d9_37 : decode jdk_92_method_21_code 37 = .ok (.ldc2_w 165, 3) := by decide +kernel
theorem d9_40 : decode jdk_92_method_21_code 40 = .ok (.iload_n 2, 1) := by decide +kernel
theorem d9_41 : decode jdk_92_method_21_code 41 = .ok (.ineg, 1) := by decide +kernel
theorem d9_42 : decode jdk_92_method_21_code 42 = .ok (.lushr, 1) := by decide +kernel
theorem d9_43 : decode jdk_92_method_21_code 43 = .ok (.lstore 7, 2) := by decide +kernel
theorem d9_45 : decode jdk_92_method_21_code 45 = .ok (.iload_n 3, 1) := by decide +kernel
theorem d9_46 : decode jdk_92_method_21_code 46 = .ok (.iload 4, 2) := by decide +kernel
theorem d9_48 : decode jdk_92_method_21_code 48 = .ok (.if_icmp .ne 20, 3) := by decide +kernel
theorem d9_51 : decode jdk_92_method_21_code 51 = .ok (.aload_n 0, 1) := by decide +kernel
theorem d9_52 : decode jdk_92_method_21_code 52 = .ok (.getfield 11, 3) := by decide +kernel
theorem d9_55 : decode jdk_92_method_21_code 55 = .ok (.iload_n 3, 1) := by decide +kernel
theorem d9_56 : decode jdk_92_method_21_code 56 = .ok (.dup2, 1) := by decide +kernel
theorem d9_57 : decode jdk_92_method_21_code 57 = .ok (.laload, 1) := by decide +kernel
theorem d9_58 : decode jdk_92_method_21_code 58 = .ok (.lload 5, 2) := by decide +kernel
theorem d9_60 : decode jdk_92_method_21_code 60 = .ok (.lload 7, 2) := by decide +kernel
theorem d9_62 : decode jdk_92_method_21_code 62 = .ok (.land, 1) := by decide +kernel
theorem d9_63 : decode jdk_92_method_21_code 63 = .ok (.lor, 1) := by decide +kernel
theorem d9_64 : decode jdk_92_method_21_code 64 = .ok (.lastore, 1) := by decide +kernel
theorem d9_65 : decode jdk_92_method_21_code 65 = .ok (.goto 54, 3) := by decide +kernel
theorem d9_68 : decode jdk_92_method_21_code 68 = .ok (.aload_n 0, 1) := by decide +kernel
theorem d9_69 : decode jdk_92_method_21_code 69 = .ok (.getfield 11, 3) := by decide +kernel
theorem d9_72 : decode jdk_92_method_21_code 72 = .ok (.iload_n 3, 1) := by decide +kernel
theorem d9_73 : decode jdk_92_method_21_code 73 = .ok (.dup2, 1) := by decide +kernel
theorem d9_74 : decode jdk_92_method_21_code 74 = .ok (.laload, 1) := by decide +kernel
theorem d9_75 : decode jdk_92_method_21_code 75 = .ok (.lload 5, 2) := by decide +kernel
theorem d9_77 : decode jdk_92_method_21_code 77 = .ok (.lor, 1) := by decide +kernel
theorem d9_78 : decode jdk_92_method_21_code 78 = .ok (.lastore, 1) := by decide +kernel
theorem d9_79 : decode jdk_92_method_21_code 79 = .ok (.iload_n 3, 1) := by decide +kernel
theorem d9_80 : decode jdk_92_method_21_code 80 = .ok (.iconst 1, 1) := by decide +kernel
theorem d9_81 : decode jdk_92_method_21_code 81 = .ok (.iadd, 1) := by decide +kernel
theorem d9_82 : decode jdk_92_method_21_code 82 = .ok (.istore 9, 2) := by decide +kernel
theorem d9_84 : decode jdk_92_method_21_code 84 = .ok (.iload 9, 2) := by decide +kernel
theorem d9_86 : decode jdk_92_method_21_code 86 = .ok (.iload 4, 2) := by decide +kernel
theorem d9_88 : decode jdk_92_method_21_code 88 = .ok (.if_icmp .ge 19, 3) := by decide +kernel
theorem d9_91 : decode jdk_92_method_21_code 91 = .ok (.aload_n 0, 1) := by decide +kernel
theorem d9_92 : decode jdk_92_method_21_code 92 = .ok (.getfield 11, 3) := by decide +kernel
theorem d9_95 : decode jdk_92_method_21_code 95 = .ok (.iload 9, 2) := by decide +kernel
theorem d9_97 : decode jdk_92_method_21_code 97 = .ok (.ldc2_w 165, 3) := by decide +kernel
theorem d9_100 : decode jdk_92_method_21_code 100 = .ok (.lastore, 1) := by decide +kernel
theorem d9_101 : decode jdk_92_method_21_code 101 = .ok (.iinc 9 1, 3) := by decide +kernel
theorem d9_104 : decode jdk_92_method_21_code 104 = .ok (.goto (-20), 3) := by decide +kernel
theorem d9_107 : decode jdk_92_method_21_code 107 = .ok (.aload_n 0, 1) := by decide +kernel
theorem d9_108 : decode jdk_92_method_21_code 108 = .ok (.getfield 11, 3) := by decide +kernel
theorem d9_111 : decode jdk_92_method_21_code 111 = .ok (.iload 4, 2) := by decide +kernel
theorem d9_113 : decode jdk_92_method_21_code 113 = .ok (.dup2, 1) := by decide +kernel
theorem d9_114 : decode jdk_92_method_21_code 114 = .ok (.laload, 1) := by decide +kernel
theorem d9_115 : decode jdk_92_method_21_code 115 = .ok (.lload 7, 2) := by decide +kernel
theorem d9_117 : decode jdk_92_method_21_code 117 = .ok (.lor, 1) := by decide +kernel
theorem d9_118 : decode jdk_92_method_21_code 118 = .ok (.lastore, 1) := by decide +kernel
theorem d9_119 : decode jdk_92_method_21_code 119 = .ok (.aload_n 0, 1) := by decide +kernel
theorem d9_120 : decode jdk_92_method_21_code 120 = .ok (.invokevirtual 56, 3) := by decide +kernel
theorem d9_123 : decode jdk_92_method_21_code 123 = .ok (.return_, 1) := by decide +kernel
def Qs1 (Z : State) (bs wa : Addr) (kc : ClassId) (lo hi1 : Int32) (h0 : Heap) (n0 : Nat) (v : Option Value) (h : Heap) (L : List Loc) : Prop := v = none ∧ Fr n0 L ∧ Keep h0 h [bs, wa] ∧ Fld Z h bs "java/util/BitSet" "words" "[J" (.ref wa) ∧ Fld Z h bs "java/util/BitSet" "wordsInUse" "I" (.int (1 : Int32)) ∧ Fld Z h bs "java/util/BitSet" "sizeIsSticky" "Z" (.int (0 : Int32)) ∧ Arv Z h wa kc .long (1 : Int32) [(.long (own_wS lo hi1))] (.long (0 : Int64))
theorem ef_rm_s1 (m : MethodId) (x0 : Addr) (x1 : Int32) (x2 : Int32) : entryFrame m #[(.ref x0), (.int x1), (.int x2)] 10 = mkF m 0 #[.val (.ref x0), .val (.int x1), .val (.int x2), .unset, .unset, .unset, .unset, .unset, .unset, .unset] [] := by first | (simp [entryFrame, mkF, argsToLocals, Value.category, maxLocals]; done) | rfl
theorem pf_15 : plainFor (⟨"java/util/BitSet", "set", "(II)V"⟩ : MethodName) = true := by apply plainFor_of_name; first | (simp [plainName, overriddenIn]; done) | decide +kernel
theorem Wd54 {a0 : Array Value} {Z : State} (hw : ∀ d ∈ tables_1, d.before a0 Z = true) : (Jvm.Cond.code ({ cls := "java/util/BitSet", name := "checkRange", desc := "(II)V" } : Jvm.MethodName) jdk_92_method_16_code (2 : Nat) (Option.none : Option Jvm.ClassFile.FieldType)).before a0 Z = true := hw _ (List.mem_of_getElem? (i := 54) rfl)
theorem pd_4 : parseMethodDescriptor "(II)V" = some ⟨[.int, .int], none⟩ := by decide +kernel
theorem Wd52 {a0 : Array Value} {Z : State} (hw : ∀ d ∈ tables_1, d.before a0 Z = true) : (Jvm.Cond.methodLink "java/util/BitSet" (161 : Nat) ({ cls := "java/util/BitSet", name := "checkRange", desc := "(II)V" } : Jvm.MethodName)).before a0 Z = true := hw _ (List.mem_of_getElem? (i := 52) rfl)
theorem Wd53 {a0 : Array Value} {Z : State} (hw : ∀ d ∈ tables_1, d.before a0 Z = true) : (Jvm.Cond.static ({ cls := "java/util/BitSet", name := "checkRange", desc := "(II)V" } : Jvm.MethodName)).before a0 Z = true := hw _ (List.mem_of_getElem? (i := 53) rfl)
theorem Wd59 {a0 : Array Value} {Z : State} (hw : ∀ d ∈ tables_1, d.before a0 Z = true) : (Jvm.Cond.code ({ cls := "java/util/BitSet", name := "expandTo", desc := "(I)V" } : Jvm.MethodName) jdk_92_method_15_code (3 : Nat) (Option.none : Option Jvm.ClassFile.FieldType)).before a0 Z = true := hw _ (List.mem_of_getElem? (i := 59) rfl)
theorem Wd55 {a0 : Array Value} {Z : State} (hw : ∀ d ∈ tables_1, d.before a0 Z = true) : (Jvm.Cond.methodLink "java/util/BitSet" (155 : Nat) ({ cls := "java/util/BitSet", name := "expandTo", desc := "(I)V" } : Jvm.MethodName)).before a0 Z = true := hw _ (List.mem_of_getElem? (i := 55) rfl)
theorem Wd56 {a0 : Array Value} {Z : State} (hw : ∀ d ∈ tables_1, d.before a0 Z = true) : (Jvm.Cond.instanceMethod ({ cls := "java/util/BitSet", name := "expandTo", desc := "(I)V" } : Jvm.MethodName)).before a0 Z = true := hw _ (List.mem_of_getElem? (i := 56) rfl)
theorem Wd57 {a0 : Array Value} {Z : State} (hw : ∀ d ∈ tables_1, d.before a0 Z = true) : (Jvm.Cond.privateMethod ({ cls := "java/util/BitSet", name := "expandTo", desc := "(I)V" } : Jvm.MethodName)).before a0 Z = true := hw _ (List.mem_of_getElem? (i := 57) rfl)
theorem Wd65 {a0 : Array Value} {Z : State} (hw : ∀ d ∈ tables_1, d.before a0 Z = true) : (Jvm.Cond.constantLong "java/util/BitSet" (165 : Nat) (-1 : Int64)).before a0 Z = true := hw _ (List.mem_of_getElem? (i := 65) rfl)
theorem Wd70 {a0 : Array Value} {Z : State} (hw : ∀ d ∈ tables_1, d.before a0 Z = true) : (Jvm.Cond.code ({ cls := "java/util/BitSet", name := "checkInvariants", desc := "()V" } : Jvm.MethodName) jdk_92_method_2_code (1 : Nat) (Option.none : Option Jvm.ClassFile.FieldType)).before a0 Z = true := hw _ (List.mem_of_getElem? (i := 70) rfl)
theorem pd_5 : parseMethodDescriptor "()V" = some ⟨[], none⟩ := by decide +kernel
theorem Wd66 {a0 : Array Value} {Z : State} (hw : ∀ d ∈ tables_1, d.before a0 Z = true) : (Jvm.Cond.methodLink "java/util/BitSet" (56 : Nat) ({ cls := "java/util/BitSet", name := "checkInvariants", desc := "()V" } : Jvm.MethodName)).before a0 Z = true := hw _ (List.mem_of_getElem? (i := 66) rfl)
theorem Wd67 {a0 : Array Value} {Z : State} (hw : ∀ d ∈ tables_1, d.before a0 Z = true) : (Jvm.Cond.instanceMethod ({ cls := "java/util/BitSet", name := "checkInvariants", desc := "()V" } : Jvm.MethodName)).before a0 Z = true := hw _ (List.mem_of_getElem? (i := 67) rfl)
theorem Wd68 {a0 : Array Value} {Z : State} (hw : ∀ d ∈ tables_1, d.before a0 Z = true) : (Jvm.Cond.privateMethod ({ cls := "java/util/BitSet", name := "checkInvariants", desc := "()V" } : Jvm.MethodName)).before a0 Z = true := hw _ (List.mem_of_getElem? (i := 68) rfl)
set_option maxRecDepth 65536 in
set_option maxHeartbeats 40000000 in
theorem rm_s1 (l : Launch) (Z : State) (a0 : Array Value) (hw : ∀ d ∈ tables_1, d.before a0 Z = true) (ws : List Jvm.Cond) (bs wa : Addr) (kc : ClassId) (lo hi1 : Int32) (h0 : Heap) (n0 : Nat) (Z0 : n0 ≤ h0.size) (g_bs : n0 ≤ bs) (E_bs : Exa Z h0 bs "java/util/BitSet") (d1 : bs ≠ wa) (F_w : Fld Z h0 bs "java/util/BitSet" "words" "[J" (.ref wa)) (F_u : Fld Z h0 bs "java/util/BitSet" "wordsInUse" "I" (.int (0 : Int32))) (F_y : Fld Z h0 bs "java/util/BitSet" "sizeIsSticky" "Z" (.int (0 : Int32))) (V_w : Arv Z h0 wa kc .long (1 : Int32) [(.long (0 : Int64))] (.long (0 : Int64))) (B_ad : own_AD n0 Z h0) (g_wa : n0 ≤ wa) (r1 : ¬ lo < (0 : Int32)) (r2 : ¬ hi1 < (0 : Int32)) (r3 : ¬ hi1 < lo) (r4 : ¬ lo = hi1) (r5 : own_wi lo = (0 : Int32)) (r6 : own_wi (hi1 - (1 : Int32)) = (0 : Int32))  :
    MetFree l (⟨"java/util/BitSet", "set", "(II)V"⟩ : MethodName) (head1 (Jvm.Cond.code (⟨"java/util/BitSet", "set", "(II)V"⟩ : MethodName) jdk_92_method_21_code 10 none :: ws) ({ frames := 2, cells := 0, slots := 0, locals := 32 } : Room)) (fun aa U => aa = #[(.ref bs), (.int lo), (.int hi1)] ∧ Z.Warmed39 U.vm ∧ U.heap = h0) (fun _ _ _ _ _ => True) (fun _ U o U' => ∃ v L, o = .returned v ∧ Qs1 Z bs wa kc lo hi1 h0 n0 v U'.heap L ∧ FrameEnd U o U' L (({ frames := 2, cells := 0, slots := 0, locals := 32 } : Room).cells) (({ frames := 2, cells := 0, slots := 0, locals := 32 } : Room).slots)) := by
  refine own_body pf_15 ?_
  intro p e s m below meth c s₁ hx hby hml hown hnm hlk hret hZ X0 e0
  have N0 : Fr n0 [] := Fr.nil n0
  refine own_go (f' := (mkF m 0 #[.val (.ref bs), .val (.int lo), .val (.int hi1), .unset, .unset, .unset, .unset, .unset, .unset, .unset] [])) (fun t k => castTop (ef_rm_s1 m bs lo hi1) k) ?_
  have K1 : Keep h0 h0 [bs, wa] := Keep.refl _ _
  refine own_iloadN X0 hx (pc' := 1) (hb hby d9_0) rfl rfl ?_
  refine own_iloadN X0 hx (pc' := 2) (hb hby d9_1) rfl rfl ?_
  refine own_callS X0 hx (pc' := 5) hZ hown (Wd52 hw) (Wd53 hw) (Wd21 hw) (Wd54 hw) (by decide) (rm_cr l Z a0 hw [] lo hi1 h0 n0 Z0 r1 r2 r3) e0 0 (by decide) (by decide) (by decide) (by decide) [(.int lo), (.int hi1)] [] (by rw [hml]; rfl) (lenOf pd_4 rfl) rfl rfl (Nat.le_of_eq rfl) (hb hby d9_2) rfl (fun v2 T2 L2 X2 hQ2 => ?_)
  obtain ⟨rfl, Nq2, e2⟩ := hQ2
  have N3 := Fr.app N0 Nq2
  show own_G p.tables e below _ T2 (mkF m 5 #[.val (.ref bs), .val (.int lo), .val (.int hi1), .unset, .unset, .unset, .unset, .unset, .unset, .unset] [])
  refine own_iloadN X2 hx (pc' := 6) (hb hby d9_5) rfl rfl ?_
  refine own_iloadN X2 hx (pc' := 7) (hb hby d9_6) rfl rfl ?_
  refine own_icmpYes X2 hx (pc' := 11) (hb hby d9_7) (feq r4).2 (by decide) (by decide) ?_
  refine own_iloadN X2 hx (pc' := 12) (hb hby d9_11) rfl rfl ?_
  refine own_callS X2 hx (pc' := 15) hZ hown (Wd37 hw) (Wd38 hw) (Wd21 hw) (Wd39 hw) (by decide) (rm_wi l Z a0 hw [] lo h0 n0 Z0) e2 0 (by decide) (by decide) (by decide) (by decide) [(.int lo)] [] (by rw [hml]; rfl) (lenOf pd_0 rfl) rfl rfl (Nat.le_of_eq rfl) (hb hby d9_12) rfl (fun v4 T4 L4 X4 hQ4 => ?_)
  obtain ⟨rfl, Nq4, e4⟩ := hQ4
  have N5 := Fr.app N3 Nq4
  show own_G p.tables e below _ T4 (mkF m 15 #[.val (.ref bs), .val (.int lo), .val (.int hi1), .unset, .unset, .unset, .unset, .unset, .unset, .unset] [(.int (own_wi lo))])
  rw [r5]
  refine own_istoreN X4 hx (pc' := 16) (Ls' := #[.val (.ref bs), .val (.int lo), .val (.int hi1), .val (.int (0 : Int32)), .unset, .unset, .unset, .unset, .unset, .unset]) (hb hby d9_15) rfl rfl ?_
  refine own_iloadN X4 hx (pc' := 17) (hb hby d9_16) rfl rfl ?_
  refine own_iconst X4 hx (pc' := 18) (1 : Int32) (hb hby d9_17) rfl rfl ?_
  refine own_isub X4 hx (pc' := 19) (hb hby d9_18) rfl rfl ?_
  refine own_callS X4 hx (pc' := 22) hZ hown (Wd37 hw) (Wd38 hw) (Wd21 hw) (Wd39 hw) (by decide) (rm_wi l Z a0 hw [] (hi1 - (1 : Int32)) h0 n0 Z0) e4 0 (by decide) (by decide) (by decide) (by decide) [(.int (hi1 - (1 : Int32)))] [] (by rw [hml]; rfl) (lenOf pd_0 rfl) rfl rfl (Nat.le_of_eq rfl) (hb hby d9_19) rfl (fun v6 T6 L6 X6 hQ6 => ?_)
  obtain ⟨rfl, Nq6, e6⟩ := hQ6
  have N7 := Fr.app N5 Nq6
  show own_G p.tables e below _ T6 (mkF m 22 #[.val (.ref bs), .val (.int lo), .val (.int hi1), .val (.int (0 : Int32)), .unset, .unset, .unset, .unset, .unset, .unset] [(.int (own_wi (hi1 - (1 : Int32))))])
  rw [r6]
  refine own_istore X6 hx (pc' := 24) (Ls' := #[.val (.ref bs), .val (.int lo), .val (.int hi1), .val (.int (0 : Int32)), .val (.int (0 : Int32)), .unset, .unset, .unset, .unset, .unset]) (hb hby d9_22) rfl rfl ?_
  refine own_aloadN X6 hx (pc' := 25) (hb hby d9_24) rfl rfl rfl ?_
  refine own_iload X6 hx (pc' := 27) (hb hby d9_25) rfl rfl ?_
  refine own_callP X6 hx (pc' := 30) hZ hown (Wd55 hw) (Wd56 hw) (Wd57 hw) (Wd59 hw) (Wd21 hw) (Wd20 hw) (by decide) (rm_x0 l Z a0 hw [] bs wa kc h0 n0 Z0 g_bs E_bs d1 F_w F_u F_y V_w) e6 E_bs 0 (by decide) (by decide) (by decide) (by decide) [(.int (0 : Int32))] [] (by rw [hml]; rfl) (lenOf pd_1 rfl) rfl rfl (Nat.le_of_eq rfl) (hb hby d9_27) rfl (fun v8 T8 L8 X8 hQ8 => ?_)
  obtain ⟨rfl, Nq8, K8, G1_8, G2_8, G3_8, G4_8⟩ := hQ8
  have N9 := Fr.app N7 Nq8
  have Z10 : n0 ≤ T8.heap.size := Nat.le_trans Z0 K8.1
  have K11 : Keep h0 T8.heap [bs, wa] := Keep.trans K1 K8 (allS (Or.inl (List.mem_of_getElem? (i := 0) rfl)) all0)
  have F12 := (Exa.keep E_bs K8)
  have F13 := (V_w.keep K8 (ninS (Ne.symm d1) nin0))
  have F14 := (B_ad.keep K8 (own_allge g_bs (fun x hx => absurd hx List.not_mem_nil)))
  show own_G p.tables e below _ T8 (mkF m 30 #[.val (.ref bs), .val (.int lo), .val (.int hi1), .val (.int (0 : Int32)), .val (.int (0 : Int32)), .unset, .unset, .unset, .unset, .unset] [])
  refine own_ldc2J X8 hx (pc' := 33) hZ hown (Wd65 hw) (hb hby d9_30) rfl ?_
  refine own_iloadN X8 hx (pc' := 34) (hb hby d9_33) rfl rfl ?_
  refine own_lshl X8 hx (pc' := 35) (hb hby d9_34) rfl ?_
  refine own_lstore X8 hx (pc' := 37) (Ls' := #[.val (.ref bs), .val (.int lo), .val (.int hi1), .val (.int (0 : Int32)), .val (.int (0 : Int32)), .val (.long ((-1 : Int64) <<< (lo &&& 0x3f).toInt64)), .second, .unset, .unset, .unset]) (hb hby d9_35) rfl rfl ?_
  refine own_ldc2J X8 hx (pc' := 40) hZ hown (Wd65 hw) (hb hby d9_37) rfl ?_
  refine own_iloadN X8 hx (pc' := 41) (hb hby d9_40) rfl rfl ?_
  refine own_ineg X8 hx (pc' := 42) (hb hby d9_41) rfl ?_
  refine own_lushr X8 hx (pc' := 43) (hb hby d9_42) rfl ?_
  refine own_lstore X8 hx (pc' := 45) (Ls' := #[.val (.ref bs), .val (.int lo), .val (.int hi1), .val (.int (0 : Int32)), .val (.int (0 : Int32)), .val (.long ((-1 : Int64) <<< (lo &&& 0x3f).toInt64)), .second, .val (.long (((-1 : Int64).toUInt64 >>> (((-hi1)) &&& 0x3f).toInt64.toUInt64).toInt64)), .second, .unset]) (hb hby d9_43) rfl rfl ?_
  refine own_iloadN X8 hx (pc' := 46) (hb hby d9_45) rfl rfl ?_
  refine own_iload X8 hx (pc' := 48) (hb hby d9_46) rfl rfl ?_
  refine own_icmpNo X8 hx (pc' := 51) (hb hby d9_48) (teq rfl).2 rfl ?_
  refine own_aloadN X8 hx (pc' := 52) (hb hby d9_51) rfl rfl rfl ?_
  refine own_getF X8 hx (pc' := 55) hZ hown (host := "") (Or.inl (Wd41 hw)) Via.refl rfl G1_8 (hb hby d9_52) rfl (fun T15 X15 e15 => ?_)
  refine own_iloadN X15 hx (pc' := 56) (hb hby d9_55) rfl rfl ?_
  refine own_dup2 X15 hx (pc' := 57) (hb hby d9_56) rfl rfl rfl ?_
  obtain ⟨cl16, Ar16, q16, S16, M16, H16, G16⟩ := id G4_8
  refine own_laload X15 hx (pc' := 58) hZ (v := (0 : Int64)) e15 Ar16 (inb_of S16 ⟨by decide, by decide⟩) (Has.at H16 (inb_of S16 ⟨by decide, by decide⟩) rfl) (hb hby d9_57) rfl ?_
  refine own_lload X15 hx (pc' := 60) (hb hby d9_58) rfl rfl ?_
  refine own_lload X15 hx (pc' := 62) (hb hby d9_60) rfl rfl ?_
  refine own_land X15 hx (pc' := 63) (hb hby d9_62) rfl rfl ?_
  refine own_lor X15 hx (pc' := 64) (hb hby d9_63) rfl rfl ?_
  show own_G p.tables e below _ T15 (mkF m 64 #[.val (.ref bs), .val (.int lo), .val (.int hi1), .val (.int (0 : Int32)), .val (.int (0 : Int32)), .val (.long ((-1 : Int64) <<< (lo &&& 0x3f).toInt64)), .second, .val (.long (((-1 : Int64).toUInt64 >>> (((-hi1)) &&& 0x3f).toInt64.toUInt64).toInt64)), .second, .unset] [(.long (own_wS lo hi1)), (.int (0 : Int32)), (.ref wa)])
  obtain ⟨cl17, Ar17, q17, S17, M17, H17, G17⟩ := id G4_8
  refine own_stJ X15 hx (pc' := 65) hZ e15 Ar17 (inb_of S17 ⟨by decide, by decide⟩) (hb hby d9_64) rfl (fun T18 h18 X18 e18 W18 => ?_)
  have N19 := Fr.snoc X18 N9 g_wa
  have Z20 : n0 ≤ h18.size := Nat.le_trans Z10 (Nat.le_of_eq (Wr.size W18).symm)
  have K21 : Keep h0 h18 [bs, wa] := K11.wr W18 (Or.inl (List.mem_of_getElem? (i := 1) rfl))
  have F22 := (Exa.wr W18 F12)
  have F23 : Arv Z h18 wa kc .long (1 : Int32) [(.long (own_wS lo hi1))] (.long (0 : Int64)) := (Arv.set Ar17 q17 S17 M17 H17 G17 rfl W18 0 rfl (Nat.le_of_ble_eq_true rfl))
  have F24 := (F14.wr W18 g_wa)
  have F25 := (Fld.other W18 G1_8 (Or.inl d1))
  have F26 := (Fld.other W18 G2_8 (Or.inl d1))
  have F27 := (Fld.other W18 G3_8 (Or.inl d1))
  refine own_goto X18 hx (pc' := 119) (hb hby d9_65) (by decide) (by decide) ?_
  refine own_aloadN X18 hx (pc' := 120) (hb hby d9_119) rfl rfl rfl ?_
  refine own_callP X18 hx (pc' := 123) hZ hown (Wd66 hw) (Wd67 hw) (Wd68 hw) (Wd70 hw) (Wd21 hw) (Wd20 hw) (by decide) (rm_ci l Z a0 hw [] bs h18 n0 Z20 F24) e18 F22 0 (by decide) (by decide) (by decide) (by decide) [] [] (by rw [hml]; rfl) (lenOf pd_5 rfl) rfl rfl (Nat.le_of_eq rfl) (hb hby d9_120) rfl (fun v28 T28 L28 X28 hQ28 => ?_)
  obtain ⟨rfl, Nq28, e28⟩ := hQ28
  have N29 := Fr.app N19 Nq28
  show own_G p.tables e below _ T28 (mkF m 123 #[.val (.ref bs), .val (.int lo), .val (.int hi1), .val (.int (0 : Int32)), .val (.int (0 : Int32)), .val (.long ((-1 : Int64) <<< (lo &&& 0x3f).toInt64)), .second, .val (.long (((-1 : Int64).toUInt64 >>> (((-hi1)) &&& 0x3f).toInt64.toUInt64).toInt64)), .second, .unset] [])
  refine own_retV X28 hx hlk hret (hb hby d9_123) (by decide) (by decide) ?_
  rw [e28]
  exact ⟨rfl, N29, K21, F25, F26, F27, F23⟩

def Qs33 (Z : State) (bs : Addr) (h0 : Heap) (n0 : Nat) (v : Option Value) (h : Heap) (L : List Loc) : Prop := v = none ∧ Fr n0 L ∧ Keep h0 h [bs] ∧ ∃ (nb : Addr) (kc : ClassId), n0 ≤ nb ∧ h0.size ≤ nb ∧ bs ≠ nb ∧ Fld Z h bs "java/util/BitSet" "words" "[J" (.ref nb) ∧ Fld Z h bs "java/util/BitSet" "wordsInUse" "I" (.int (33 : Int32)) ∧ Fld Z h bs "java/util/BitSet" "sizeIsSticky" "Z" (.int (0 : Int32)) ∧ Arv Z h nb kc .long (33 : Int32) [(.long (0 : Int64)), (.long (0 : Int64)), (.long (0 : Int64)), (.long (0 : Int64)), (.long (0 : Int64)), (.long (0 : Int64)), (.long (0 : Int64)), (.long (0 : Int64)), (.long (0 : Int64)), (.long (0 : Int64)), (.long (0 : Int64)), (.long (0 : Int64)), (.long (0 : Int64)), (.long (0 : Int64)), (.long (0 : Int64)), (.long (0 : Int64)), (.long (0 : Int64)), (.long (0 : Int64)), (.long (0 : Int64)), (.long (0 : Int64)), (.long (0 : Int64)), (.long (0 : Int64)), (.long (0 : Int64)), (.long (0 : Int64)), (.long (0 : Int64)), (.long (0 : Int64)), (.long (0 : Int64)), (.long (0 : Int64)), (.long (0 : Int64)), (.long (0 : Int64)), (.long own_y30), (.long (-1 : Int64)), (.long own_y32)] (.long (0 : Int64))
theorem ef_rm_s33 (m : MethodId) (x0 : Addr) (x1 : Int32) (x2 : Int32) : entryFrame m #[(.ref x0), (.int x1), (.int x2)] 10 = mkF m 0 #[.val (.ref x0), .val (.int x1), .val (.int x2), .unset, .unset, .unset, .unset, .unset, .unset, .unset] [] := by first | (simp [entryFrame, mkF, argsToLocals, Value.category, maxLocals]; done) | rfl
set_option maxRecDepth 65536 in
set_option maxHeartbeats 40000000 in
theorem rm_s33 (l : Launch) (Z : State) (a0 : Array Value) (hw : ∀ d ∈ tables_1, d.before a0 Z = true) (ws : List Jvm.Cond) (bs wa : Addr) (kc : ClassId) (h0 : Heap) (n0 : Nat) (Z0 : n0 ≤ h0.size) (g_bs : n0 ≤ bs) (E_bs : Exa Z h0 bs "java/util/BitSet") (d1 : bs ≠ wa) (F_w : Fld Z h0 bs "java/util/BitSet" "words" "[J" (.ref wa)) (F_u : Fld Z h0 bs "java/util/BitSet" "wordsInUse" "I" (.int (0 : Int32))) (F_y : Fld Z h0 bs "java/util/BitSet" "sizeIsSticky" "Z" (.int (0 : Int32))) (V_w : Arv Z h0 wa kc .long (1 : Int32) [(.long (0 : Int64))] (.long (0 : Int64))) (B_ad : own_AD n0 Z h0) :
    MetFree l (⟨"java/util/BitSet", "set", "(II)V"⟩ : MethodName) (head1 (Jvm.Cond.code (⟨"java/util/BitSet", "set", "(II)V"⟩ : MethodName) jdk_92_method_21_code 10 none :: ws) ({ frames := 4, cells := 1, slots := 33, locals := 76 } : Room)) (fun aa U => aa = #[(.ref bs), (.int (1970 : Int32)), (.int (2100 : Int32))] ∧ Z.Warmed39 U.vm ∧ U.heap = h0) (fun _ _ _ _ _ => True) (fun _ U o U' => ∃ v L, o = .returned v ∧ Qs33 Z bs h0 n0 v U'.heap L ∧ FrameEnd U o U' L (({ frames := 4, cells := 1, slots := 33, locals := 76 } : Room).cells) (({ frames := 4, cells := 1, slots := 33, locals := 76 } : Room).slots)) := by
  refine own_body pf_15 ?_
  intro p e s m below meth c s₁ hx hby hml hown hnm hlk hret hZ X0 e0
  have N0 : Fr n0 [] := Fr.nil n0
  refine own_go (f' := (mkF m 0 #[.val (.ref bs), .val (.int (1970 : Int32)), .val (.int (2100 : Int32)), .unset, .unset, .unset, .unset, .unset, .unset, .unset] [])) (fun t k => castTop (ef_rm_s33 m bs (1970 : Int32) (2100 : Int32)) k) ?_
  have K1 : Keep h0 h0 [bs] := Keep.refl _ _
  refine own_iloadN X0 hx (pc' := 1) (hb hby d9_0) rfl rfl ?_
  refine own_iloadN X0 hx (pc' := 2) (hb hby d9_1) rfl rfl ?_
  refine own_callS X0 hx (pc' := 5) hZ hown (Wd52 hw) (Wd53 hw) (Wd21 hw) (Wd54 hw) (by decide) (rm_cr l Z a0 hw [] (1970 : Int32) (2100 : Int32) h0 n0 Z0 (by decide) (by decide) (by decide)) e0 0 (by decide) (by decide) (by decide) (by decide) [(.int (1970 : Int32)), (.int (2100 : Int32))] [] (by rw [hml]; rfl) (lenOf pd_4 rfl) rfl rfl (Nat.le_of_eq rfl) (hb hby d9_2) rfl (fun v2 T2 L2 X2 hQ2 => ?_)
  obtain ⟨rfl, Nq2, e2⟩ := hQ2
  have N3 := Fr.app N0 Nq2
  show own_G p.tables e below _ T2 (mkF m 5 #[.val (.ref bs), .val (.int (1970 : Int32)), .val (.int (2100 : Int32)), .unset, .unset, .unset, .unset, .unset, .unset, .unset] [])
  refine own_iloadN X2 hx (pc' := 6) (hb hby d9_5) rfl rfl ?_
  refine own_iloadN X2 hx (pc' := 7) (hb hby d9_6) rfl rfl ?_
  refine own_icmpYes X2 hx (pc' := 11) (hb hby d9_7) (feq (by decide : ¬ ((1970 : Int32) = (2100 : Int32)))).2 (by decide) (by decide) ?_
  refine own_iloadN X2 hx (pc' := 12) (hb hby d9_11) rfl rfl ?_
  refine own_callS X2 hx (pc' := 15) hZ hown (Wd37 hw) (Wd38 hw) (Wd21 hw) (Wd39 hw) (by decide) (rm_wi l Z a0 hw [] (1970 : Int32) h0 n0 Z0) e2 0 (by decide) (by decide) (by decide) (by decide) [(.int (1970 : Int32))] [] (by rw [hml]; rfl) (lenOf pd_0 rfl) rfl rfl (Nat.le_of_eq rfl) (hb hby d9_12) rfl (fun v4 T4 L4 X4 hQ4 => ?_)
  obtain ⟨rfl, Nq4, e4⟩ := hQ4
  have N5 := Fr.app N3 Nq4
  show own_G p.tables e below _ T4 (mkF m 15 #[.val (.ref bs), .val (.int (1970 : Int32)), .val (.int (2100 : Int32)), .unset, .unset, .unset, .unset, .unset, .unset, .unset] [(.int (own_wi (1970 : Int32)))])
  rw [show own_wi (1970 : Int32) = (30 : Int32) from by decide]
  refine own_istoreN X4 hx (pc' := 16) (Ls' := #[.val (.ref bs), .val (.int (1970 : Int32)), .val (.int (2100 : Int32)), .val (.int (30 : Int32)), .unset, .unset, .unset, .unset, .unset, .unset]) (hb hby d9_15) rfl rfl ?_
  refine own_iloadN X4 hx (pc' := 17) (hb hby d9_16) rfl rfl ?_
  refine own_iconst X4 hx (pc' := 18) (1 : Int32) (hb hby d9_17) rfl rfl ?_
  refine own_isub X4 hx (pc' := 19) (z := (2099 : Int32)) (hb hby d9_18) (by decide) rfl ?_
  refine own_callS X4 hx (pc' := 22) hZ hown (Wd37 hw) (Wd38 hw) (Wd21 hw) (Wd39 hw) (by decide) (rm_wi l Z a0 hw [] (2099 : Int32) h0 n0 Z0) e4 0 (by decide) (by decide) (by decide) (by decide) [(.int (2099 : Int32))] [] (by rw [hml]; rfl) (lenOf pd_0 rfl) rfl rfl (Nat.le_of_eq rfl) (hb hby d9_19) rfl (fun v6 T6 L6 X6 hQ6 => ?_)
  obtain ⟨rfl, Nq6, e6⟩ := hQ6
  have N7 := Fr.app N5 Nq6
  show own_G p.tables e below _ T6 (mkF m 22 #[.val (.ref bs), .val (.int (1970 : Int32)), .val (.int (2100 : Int32)), .val (.int (30 : Int32)), .unset, .unset, .unset, .unset, .unset, .unset] [(.int (own_wi (2099 : Int32)))])
  rw [show own_wi (2099 : Int32) = (32 : Int32) from by decide]
  refine own_istore X6 hx (pc' := 24) (Ls' := #[.val (.ref bs), .val (.int (1970 : Int32)), .val (.int (2100 : Int32)), .val (.int (30 : Int32)), .val (.int (32 : Int32)), .unset, .unset, .unset, .unset, .unset]) (hb hby d9_22) rfl rfl ?_
  refine own_aloadN X6 hx (pc' := 25) (hb hby d9_24) rfl rfl rfl ?_
  refine own_iload X6 hx (pc' := 27) (hb hby d9_25) rfl rfl ?_
  refine own_callP X6 hx (pc' := 30) hZ hown (Wd55 hw) (Wd56 hw) (Wd57 hw) (Wd59 hw) (Wd21 hw) (Wd20 hw) (by decide) (rm_x32 l Z a0 hw [] bs wa kc h0 n0 Z0 g_bs E_bs d1 F_w F_u F_y V_w) e6 E_bs 0 (by decide) (by decide) (by decide) (by decide) [(.int (32 : Int32))] [] (by rw [hml]; rfl) (lenOf pd_1 rfl) rfl rfl (Nat.le_of_eq rfl) (hb hby d9_27) rfl (fun v8 T8 L8 X8 hQ8 => ?_)
  obtain ⟨rfl, Nq8, K8, nw, kw, gw8, gz8, ne8, G1_8, G2_8, G3_8, G4_8⟩ := hQ8
  have N9 := Fr.app N7 Nq8
  have nf8 : wa ≠ nw := Nat.ne_of_lt (Nat.lt_of_lt_of_le V_w.lt gz8)
  have gk_nw : h0.size ≤ nw := Nat.le_trans K1.1 gz8
  have Z10 : n0 ≤ T8.heap.size := Nat.le_trans Z0 K8.1
  have K11 : Keep h0 T8.heap [bs] := Keep.trans K1 K8 (allS (Or.inl (List.mem_of_getElem? (i := 0) rfl)) all0)
  have F12 := (Exa.keep E_bs K8)
  have F13 := (V_w.keep K8 (ninS (Ne.symm d1) nin0))
  have F14 := (B_ad.keep K8 (own_allge g_bs (fun x hx => absurd hx List.not_mem_nil)))
  show own_G p.tables e below _ T8 (mkF m 30 #[.val (.ref bs), .val (.int (1970 : Int32)), .val (.int (2100 : Int32)), .val (.int (30 : Int32)), .val (.int (32 : Int32)), .unset, .unset, .unset, .unset, .unset] [])
  refine own_ldc2J X8 hx (pc' := 33) hZ hown (Wd65 hw) (hb hby d9_30) rfl ?_
  refine own_iloadN X8 hx (pc' := 34) (hb hby d9_33) rfl rfl ?_
  refine own_lshl X8 hx (pc' := 35) (hb hby d9_34) rfl ?_
  refine own_lstore X8 hx (pc' := 37) (Ls' := #[.val (.ref bs), .val (.int (1970 : Int32)), .val (.int (2100 : Int32)), .val (.int (30 : Int32)), .val (.int (32 : Int32)), .val (.long ((-1 : Int64) <<< ((1970 : Int32) &&& 0x3f).toInt64)), .second, .unset, .unset, .unset]) (hb hby d9_35) rfl rfl ?_
  refine own_ldc2J X8 hx (pc' := 40) hZ hown (Wd65 hw) (hb hby d9_37) rfl ?_
  refine own_iloadN X8 hx (pc' := 41) (hb hby d9_40) rfl rfl ?_
  refine own_ineg X8 hx (pc' := 42) (hb hby d9_41) rfl ?_
  refine own_lushr X8 hx (pc' := 43) (hb hby d9_42) rfl ?_
  refine own_lstore X8 hx (pc' := 45) (Ls' := #[.val (.ref bs), .val (.int (1970 : Int32)), .val (.int (2100 : Int32)), .val (.int (30 : Int32)), .val (.int (32 : Int32)), .val (.long ((-1 : Int64) <<< ((1970 : Int32) &&& 0x3f).toInt64)), .second, .val (.long (((-1 : Int64).toUInt64 >>> (((-(2100 : Int32))) &&& 0x3f).toInt64.toUInt64).toInt64)), .second, .unset]) (hb hby d9_43) rfl rfl ?_
  refine own_iloadN X8 hx (pc' := 46) (hb hby d9_45) rfl rfl ?_
  refine own_iload X8 hx (pc' := 48) (hb hby d9_46) rfl rfl ?_
  refine own_icmpYes X8 hx (pc' := 68) (hb hby d9_48) (feq (by decide : ¬ ((30 : Int32) = (32 : Int32)))).2 (by decide) (by decide) ?_
  refine own_aloadN X8 hx (pc' := 69) (hb hby d9_68) rfl rfl rfl ?_
  refine own_getF X8 hx (pc' := 72) hZ hown (host := "") (Or.inl (Wd41 hw)) Via.refl rfl G1_8 (hb hby d9_69) rfl (fun T15 X15 e15 => ?_)
  refine own_iloadN X15 hx (pc' := 73) (hb hby d9_72) rfl rfl ?_
  refine own_dup2 X15 hx (pc' := 74) (hb hby d9_73) rfl rfl rfl ?_
  obtain ⟨cl16, Ar16, q16, S16, M16, H16, G16⟩ := id G4_8
  refine own_laload X15 hx (pc' := 75) hZ (v := (0 : Int64)) e15 Ar16 (inb_of S16 ⟨by decide, by decide⟩) (Has.at H16 (inb_of S16 ⟨by decide, by decide⟩) rfl) (hb hby d9_74) rfl ?_
  refine own_lload X15 hx (pc' := 77) (hb hby d9_75) rfl rfl ?_
  refine own_lor X15 hx (pc' := 78) (hb hby d9_77) rfl rfl ?_
  show own_G p.tables e below _ T15 (mkF m 78 #[.val (.ref bs), .val (.int (1970 : Int32)), .val (.int (2100 : Int32)), .val (.int (30 : Int32)), .val (.int (32 : Int32)), .val (.long ((-1 : Int64) <<< ((1970 : Int32) &&& 0x3f).toInt64)), .second, .val (.long (((-1 : Int64).toUInt64 >>> (((-(2100 : Int32))) &&& 0x3f).toInt64.toUInt64).toInt64)), .second, .unset] [(.long own_y30), (.int (30 : Int32)), (.ref nw)])
  obtain ⟨cl17, Ar17, q17, S17, M17, H17, G17⟩ := id G4_8
  refine own_stJ X15 hx (pc' := 79) hZ e15 Ar17 (inb_of S17 ⟨by decide, by decide⟩) (hb hby d9_78) rfl (fun T18 h18 X18 e18 W18 => ?_)
  have N19 := Fr.snoc X18 N9 gw8
  have Z20 : n0 ≤ h18.size := Nat.le_trans Z10 (Nat.le_of_eq (Wr.size W18).symm)
  have K21 : Keep h0 h18 [bs] := K11.wr W18 (Or.inr gk_nw)
  have F22 := (Exa.wr W18 F12)
  have F23 := (F13.other W18 nf8)
  have F24 := (F14.wr W18 gw8)
  have F25 := (Fld.other W18 G1_8 (Or.inl ne8))
  have F26 := (Fld.other W18 G2_8 (Or.inl ne8))
  have F27 := (Fld.other W18 G3_8 (Or.inl ne8))
  have F28 : Arv Z h18 nw kw .long (33 : Int32) [(.long (0 : Int64)), (.long (0 : Int64)), (.long (0 : Int64)), (.long (0 : Int64)), (.long (0 : Int64)), (.long (0 : Int64)), (.long (0 : Int64)), (.long (0 : Int64)), (.long (0 : Int64)), (.long (0 : Int64)), (.long (0 : Int64)), (.long (0 : Int64)), (.long (0 : Int64)), (.long (0 : Int64)), (.long (0 : Int64)), (.long (0 : Int64)), (.long (0 : Int64)), (.long (0 : Int64)), (.long (0 : Int64)), (.long (0 : Int64)), (.long (0 : Int64)), (.long (0 : Int64)), (.long (0 : Int64)), (.long (0 : Int64)), (.long (0 : Int64)), (.long (0 : Int64)), (.long (0 : Int64)), (.long (0 : Int64)), (.long (0 : Int64)), (.long (0 : Int64)), (.long own_y30), (.long (0 : Int64)), (.long (0 : Int64))] (.long (0 : Int64)) := (Arv.set Ar17 q17 S17 M17 H17 G17 rfl W18 30 rfl (Nat.le_of_ble_eq_true rfl))
  refine own_iloadN X18 hx (pc' := 80) (hb hby d9_79) rfl rfl ?_
  refine own_iconst X18 hx (pc' := 81) (1 : Int32) (hb hby d9_80) rfl rfl ?_
  refine own_iadd X18 hx (pc' := 82) (z := (31 : Int32)) (hb hby d9_81) (by decide) rfl ?_
  refine own_istore X18 hx (pc' := 84) (Ls' := #[.val (.ref bs), .val (.int (1970 : Int32)), .val (.int (2100 : Int32)), .val (.int (30 : Int32)), .val (.int (32 : Int32)), .val (.long ((-1 : Int64) <<< ((1970 : Int32) &&& 0x3f).toInt64)), .second, .val (.long (((-1 : Int64).toUInt64 >>> (((-(2100 : Int32))) &&& 0x3f).toInt64.toUInt64).toInt64)), .second, .val (.int (31 : Int32))]) (hb hby d9_82) rfl rfl ?_
  refine own_iload X18 hx (pc' := 86) (hb hby d9_84) rfl rfl ?_
  refine own_iload X18 hx (pc' := 88) (hb hby d9_86) rfl rfl ?_
  refine own_icmpNo X18 hx (pc' := 91) (hb hby d9_88) (tlt (by decide : (31 : Int32) < (32 : Int32))).2.1 rfl ?_
  refine own_aloadN X18 hx (pc' := 92) (hb hby d9_91) rfl rfl rfl ?_
  refine own_getF X18 hx (pc' := 95) hZ hown (host := "") (Or.inl (Wd41 hw)) Via.refl e18 F25 (hb hby d9_92) rfl (fun T29 X29 e29 => ?_)
  refine own_iload X29 hx (pc' := 97) (hb hby d9_95) rfl rfl ?_
  refine own_ldc2J X29 hx (pc' := 100) hZ hown (Wd65 hw) (hb hby d9_97) rfl ?_
  obtain ⟨cl30, Ar30, q30, S30, M30, H30, G30⟩ := id F28
  refine own_stJ X29 hx (pc' := 101) hZ e29 Ar30 (inb_of S30 ⟨by decide, by decide⟩) (hb hby d9_100) rfl (fun T31 h31 X31 e31 W31 => ?_)
  have N32 := Fr.snoc X31 N19 gw8
  have Z33 : n0 ≤ h31.size := Nat.le_trans Z20 (Nat.le_of_eq (Wr.size W31).symm)
  have K34 : Keep h0 h31 [bs] := K21.wr W31 (Or.inr gk_nw)
  have F35 := (Exa.wr W31 F22)
  have F36 := (F23.other W31 nf8)
  have F37 := (F24.wr W31 gw8)
  have F38 := (Fld.other W31 F25 (Or.inl ne8))
  have F39 := (Fld.other W31 F26 (Or.inl ne8))
  have F40 := (Fld.other W31 F27 (Or.inl ne8))
  have F41 : Arv Z h31 nw kw .long (33 : Int32) [(.long (0 : Int64)), (.long (0 : Int64)), (.long (0 : Int64)), (.long (0 : Int64)), (.long (0 : Int64)), (.long (0 : Int64)), (.long (0 : Int64)), (.long (0 : Int64)), (.long (0 : Int64)), (.long (0 : Int64)), (.long (0 : Int64)), (.long (0 : Int64)), (.long (0 : Int64)), (.long (0 : Int64)), (.long (0 : Int64)), (.long (0 : Int64)), (.long (0 : Int64)), (.long (0 : Int64)), (.long (0 : Int64)), (.long (0 : Int64)), (.long (0 : Int64)), (.long (0 : Int64)), (.long (0 : Int64)), (.long (0 : Int64)), (.long (0 : Int64)), (.long (0 : Int64)), (.long (0 : Int64)), (.long (0 : Int64)), (.long (0 : Int64)), (.long (0 : Int64)), (.long own_y30), (.long (-1 : Int64)), (.long (0 : Int64))] (.long (0 : Int64)) := (Arv.set Ar30 q30 S30 M30 H30 G30 rfl W31 31 rfl (Nat.le_of_ble_eq_true rfl))
  refine own_iinc X31 hx (pc' := 104) (Ls' := #[.val (.ref bs), .val (.int (1970 : Int32)), .val (.int (2100 : Int32)), .val (.int (30 : Int32)), .val (.int (32 : Int32)), .val (.long ((-1 : Int64) <<< ((1970 : Int32) &&& 0x3f).toInt64)), .second, .val (.long (((-1 : Int64).toUInt64 >>> (((-(2100 : Int32))) &&& 0x3f).toInt64.toUInt64).toInt64)), .second, .val (.int (32 : Int32))]) (hb hby d9_101) rfl rfl rfl ?_
  refine own_goto X31 hx (pc' := 84) (hb hby d9_104) (by decide) (by decide) ?_
  refine own_iload X31 hx (pc' := 86) (hb hby d9_84) rfl rfl ?_
  refine own_iload X31 hx (pc' := 88) (hb hby d9_86) rfl rfl ?_
  refine own_icmpYes X31 hx (pc' := 107) (hb hby d9_88) (flt (by decide : ¬ ((32 : Int32) < (32 : Int32)))).2.1 (by decide) (by decide) ?_
  refine own_aloadN X31 hx (pc' := 108) (hb hby d9_107) rfl rfl rfl ?_
  refine own_getF X31 hx (pc' := 111) hZ hown (host := "") (Or.inl (Wd41 hw)) Via.refl e31 F38 (hb hby d9_108) rfl (fun T42 X42 e42 => ?_)
  refine own_iload X42 hx (pc' := 113) (hb hby d9_111) rfl rfl ?_
  refine own_dup2 X42 hx (pc' := 114) (hb hby d9_113) rfl rfl rfl ?_
  obtain ⟨cl43, Ar43, q43, S43, M43, H43, G43⟩ := id F41
  refine own_laload X42 hx (pc' := 115) hZ (v := (0 : Int64)) e42 Ar43 (inb_of S43 ⟨by decide, by decide⟩) (Has.at H43 (inb_of S43 ⟨by decide, by decide⟩) rfl) (hb hby d9_114) rfl ?_
  refine own_lload X42 hx (pc' := 117) (hb hby d9_115) rfl rfl ?_
  refine own_lor X42 hx (pc' := 118) (hb hby d9_117) rfl rfl ?_
  show own_G p.tables e below _ T42 (mkF m 118 #[.val (.ref bs), .val (.int (1970 : Int32)), .val (.int (2100 : Int32)), .val (.int (30 : Int32)), .val (.int (32 : Int32)), .val (.long ((-1 : Int64) <<< ((1970 : Int32) &&& 0x3f).toInt64)), .second, .val (.long (((-1 : Int64).toUInt64 >>> (((-(2100 : Int32))) &&& 0x3f).toInt64.toUInt64).toInt64)), .second, .val (.int (32 : Int32))] [(.long own_y32), (.int (32 : Int32)), (.ref nw)])
  obtain ⟨cl44, Ar44, q44, S44, M44, H44, G44⟩ := id F41
  refine own_stJ X42 hx (pc' := 119) hZ e42 Ar44 (inb_of S44 ⟨by decide, by decide⟩) (hb hby d9_118) rfl (fun T45 h45 X45 e45 W45 => ?_)
  have N46 := Fr.snoc X45 N32 gw8
  have Z47 : n0 ≤ h45.size := Nat.le_trans Z33 (Nat.le_of_eq (Wr.size W45).symm)
  have K48 : Keep h0 h45 [bs] := K34.wr W45 (Or.inr gk_nw)
  have F49 := (Exa.wr W45 F35)
  have F50 := (F36.other W45 nf8)
  have F51 := (F37.wr W45 gw8)
  have F52 := (Fld.other W45 F38 (Or.inl ne8))
  have F53 := (Fld.other W45 F39 (Or.inl ne8))
  have F54 := (Fld.other W45 F40 (Or.inl ne8))
  have F55 : Arv Z h45 nw kw .long (33 : Int32) [(.long (0 : Int64)), (.long (0 : Int64)), (.long (0 : Int64)), (.long (0 : Int64)), (.long (0 : Int64)), (.long (0 : Int64)), (.long (0 : Int64)), (.long (0 : Int64)), (.long (0 : Int64)), (.long (0 : Int64)), (.long (0 : Int64)), (.long (0 : Int64)), (.long (0 : Int64)), (.long (0 : Int64)), (.long (0 : Int64)), (.long (0 : Int64)), (.long (0 : Int64)), (.long (0 : Int64)), (.long (0 : Int64)), (.long (0 : Int64)), (.long (0 : Int64)), (.long (0 : Int64)), (.long (0 : Int64)), (.long (0 : Int64)), (.long (0 : Int64)), (.long (0 : Int64)), (.long (0 : Int64)), (.long (0 : Int64)), (.long (0 : Int64)), (.long (0 : Int64)), (.long own_y30), (.long (-1 : Int64)), (.long own_y32)] (.long (0 : Int64)) := (Arv.set Ar44 q44 S44 M44 H44 G44 rfl W45 32 rfl (Nat.le_of_ble_eq_true rfl))
  refine own_aloadN X45 hx (pc' := 120) (hb hby d9_119) rfl rfl rfl ?_
  refine own_callP X45 hx (pc' := 123) hZ hown (Wd66 hw) (Wd67 hw) (Wd68 hw) (Wd70 hw) (Wd21 hw) (Wd20 hw) (by decide) (rm_ci l Z a0 hw [] bs h45 n0 Z47 F51) e45 F49 0 (by decide) (by decide) (by decide) (by decide) [] [] (by rw [hml]; rfl) (lenOf pd_5 rfl) rfl rfl (Nat.le_of_eq rfl) (hb hby d9_120) rfl (fun v56 T56 L56 X56 hQ56 => ?_)
  obtain ⟨rfl, Nq56, e56⟩ := hQ56
  have N57 := Fr.app N46 Nq56
  show own_G p.tables e below _ T56 (mkF m 123 #[.val (.ref bs), .val (.int (1970 : Int32)), .val (.int (2100 : Int32)), .val (.int (30 : Int32)), .val (.int (32 : Int32)), .val (.long ((-1 : Int64) <<< ((1970 : Int32) &&& 0x3f).toInt64)), .second, .val (.long (((-1 : Int64).toUInt64 >>> (((-(2100 : Int32))) &&& 0x3f).toInt64.toUInt64).toInt64)), .second, .val (.int (32 : Int32))] [])
  refine own_retV X56 hx hlk hret (hb hby d9_123) (by decide) (by decide) ?_
  rw [e56]
  exact ⟨rfl, N57, K48, nw, _, gw8, gk_nw, ne8, F52, F53, F54, F55⟩

def own_bits (lo hi1 : Int32) (ii : Nat) : Int64 := [own_wS lo hi1].getD ii 0
def own_bitsY (ii : Nat) : Int64 := [(0 : Int64), (0 : Int64), (0 : Int64), (0 : Int64), (0 : Int64), (0 : Int64), (0 : Int64), (0 : Int64), (0 : Int64), (0 : Int64), (0 : Int64), (0 : Int64), (0 : Int64), (0 : Int64), (0 : Int64), (0 : Int64), (0 : Int64), (0 : Int64), (0 : Int64), (0 : Int64), (0 : Int64), (0 : Int64), (0 : Int64), (0 : Int64), (0 : Int64), (0 : Int64), (0 : Int64), (0 : Int64), (0 : Int64), (0 : Int64), own_y30, (-1 : Int64), own_y32].getD ii 0
def Qall (Z : State) (U N : Nat) (wf : Nat → Int64) (h0 : Heap) (n0 : Nat) (v : Option Value) (h : Heap) (L : List Loc) : Prop := Fr n0 L ∧ Keep h0 h [] ∧ ∃ bs wa : Addr, v = some (.ref bs) ∧ Exa Z h bs "java/util/BitSet" ∧ Fld Z h bs "java/util/BitSet" "words" "[J" (.ref wa) ∧ Fld Z h bs "java/util/BitSet" "wordsInUse" "I" (.int (Int32.ofNat U)) ∧ own_Ar Z h wa .long N (fun ii => .long (wf ii))
theorem d4_0 : decode prog_17_method_6_code 0 = .ok (.new 65, 3) := by decide +kernel
theorem d4_3 : decode prog_17_method_6_code 3 = .ok (.dup, 1) := by decide +kernel
theorem d4_4 : decode prog_17_method_6_code 4 = .ok (.invokespecial 67, 3) := by decide +kernel
theorem d4_7 : decode prog_17_method_6_code 7 = .ok (.astore_n 1, 1) := by decide +kernel
theorem d4_8 : decode prog_17_method_6_code 8 = .ok (.aload_n 1, 1) := by decide +kernel
theorem d4_9 : decode prog_17_method_6_code 9 = .ok (.aload_n 0, 1) := by decide +kernel
theorem d4_10 : decode prog_17_method_6_code 10 = .ok (.getfield 48, 3) := by decide +kernel
theorem d4_13 : decode prog_17_method_6_code 13 = .ok (.aload_n 0, 1) := by decide +kernel
theorem d4_14 : decode prog_17_method_6_code 14 = .ok (.getfield 52, 3) := by decide +kernel
theorem d4_17 : decode prog_17_method_6_code 17 = .ok (.iconst 1, 1) := by decide +kernel
theorem d4_18 : decode prog_17_method_6_code 18 = .ok (.iadd, 1) := by decide +kernel
theorem d4_19 : decode prog_17_method_6_code 19 = .ok (.invokevirtual 70, 3) := by decide +kernel
theorem d4_22 : decode prog_17_method_6_code 22 = .ok (.aload_n 1, 1) := by decide +kernel
theorem d4_23 : decode prog_17_method_6_code 23 = .ok (.areturn, 1) := by decide +kernel
theorem ef_rm_a1 (m : MethodId) (x0 : Addr) : entryFrame m #[(.ref x0)] 2 = mkF m 0 #[.val (.ref x0), .unset] [] := by first | (simp [entryFrame, mkF, argsToLocals, Value.category, maxLocals]; done) | rfl
theorem pf_16 : plainFor (⟨"com/example/rhadamanthus/rhadamanthus/model/CronField", "all", "()Ljava/util/BitSet;"⟩ : MethodName) = true := by apply plainFor_of_name; first | (simp [plainName, overriddenIn]; done) | decide +kernel
theorem Wd19 {a0 : Array Value} {Z : State} (hw : ∀ d ∈ tables_1, d.before a0 Z = true) : (Jvm.Cond.classLink "com/example/rhadamanthus/rhadamanthus/model/CronField" (65 : Nat) "java/util/BitSet").before a0 Z = true := hw _ (List.mem_of_getElem? (i := 19) rfl)
theorem Wd24 {a0 : Array Value} {Z : State} (hw : ∀ d ∈ tables_1, d.before a0 Z = true) : (Jvm.Cond.code ({ cls := "java/util/BitSet", name := "<init>", desc := "()V" } : Jvm.MethodName) jdk_92_method_4_code (1 : Nat) (Option.none : Option Jvm.ClassFile.FieldType)).before a0 Z = true := hw _ (List.mem_of_getElem? (i := 24) rfl)
theorem Wd22 {a0 : Array Value} {Z : State} (hw : ∀ d ∈ tables_1, d.before a0 Z = true) : (Jvm.Cond.methodLink "com/example/rhadamanthus/rhadamanthus/model/CronField" (67 : Nat) ({ cls := "java/util/BitSet", name := "<init>", desc := "()V" } : Jvm.MethodName)).before a0 Z = true := hw _ (List.mem_of_getElem? (i := 22) rfl)
theorem Wd23 {a0 : Array Value} {Z : State} (hw : ∀ d ∈ tables_1, d.before a0 Z = true) : (Jvm.Cond.instanceMethod ({ cls := "java/util/BitSet", name := "<init>", desc := "()V" } : Jvm.MethodName)).before a0 Z = true := hw _ (List.mem_of_getElem? (i := 23) rfl)
theorem Wd43 {a0 : Array Value} {Z : State} (hw : ∀ d ∈ tables_1, d.before a0 Z = true) : (Jvm.Cond.fieldLink "com/example/rhadamanthus/rhadamanthus/model/CronField" (48 : Nat) "com/example/rhadamanthus/rhadamanthus/model/CronField" "min" "I").before a0 Z = true := hw _ (List.mem_of_getElem? (i := 43) rfl)
theorem Wd45 {a0 : Array Value} {Z : State} (hw : ∀ d ∈ tables_1, d.before a0 Z = true) : (Jvm.Cond.fieldLink "com/example/rhadamanthus/rhadamanthus/model/CronField" (52 : Nat) "com/example/rhadamanthus/rhadamanthus/model/CronField" "max" "I").before a0 Z = true := hw _ (List.mem_of_getElem? (i := 45) rfl)
theorem Wd51 {a0 : Array Value} {Z : State} (hw : ∀ d ∈ tables_1, d.before a0 Z = true) : (Jvm.Cond.code ({ cls := "java/util/BitSet", name := "set", desc := "(II)V" } : Jvm.MethodName) jdk_92_method_21_code (10 : Nat) (Option.none : Option Jvm.ClassFile.FieldType)).before a0 Z = true := hw _ (List.mem_of_getElem? (i := 51) rfl)
theorem Wd47 {a0 : Array Value} {Z : State} (hw : ∀ d ∈ tables_1, d.before a0 Z = true) : (Jvm.Cond.methodLink "com/example/rhadamanthus/rhadamanthus/model/CronField" (70 : Nat) ({ cls := "java/util/BitSet", name := "set", desc := "(II)V" } : Jvm.MethodName)).before a0 Z = true := hw _ (List.mem_of_getElem? (i := 47) rfl)
theorem Wd49 {a0 : Array Value} {Z : State} (hw : ∀ d ∈ tables_1, d.before a0 Z = true) : (Jvm.Cond.instanceMethod ({ cls := "java/util/BitSet", name := "set", desc := "(II)V" } : Jvm.MethodName)).before a0 Z = true := hw _ (List.mem_of_getElem? (i := 49) rfl)
theorem Wd50 {a0 : Array Value} {Z : State} (hw : ∀ d ∈ tables_1, d.before a0 Z = true) : (Jvm.Cond.selects "java/util/BitSet" ({ cls := "java/util/BitSet", name := "set", desc := "(II)V" } : Jvm.MethodName) ({ cls := "java/util/BitSet", name := "set", desc := "(II)V" } : Jvm.MethodName)).before a0 Z = true := hw _ (List.mem_of_getElem? (i := 50) rfl)
set_option maxRecDepth 65536 in
set_option maxHeartbeats 40000000 in
theorem rm_a1 (l : Launch) (Z : State) (a0 : Array Value) (hw : ∀ d ∈ tables_1, d.before a0 Z = true) (ws : List Jvm.Cond) (cf : Addr) (lo hi : Int32) (h0 : Heap) (n0 : Nat) (Z0 : n0 ≤ h0.size) (F_n : Fld Z h0 cf "com/example/rhadamanthus/rhadamanthus/model/CronField" "min" "I" (.int lo)) (F_x : Fld Z h0 cf "com/example/rhadamanthus/rhadamanthus/model/CronField" "max" "I" (.int hi)) (B_ad : own_AD n0 Z h0) (r1 : ¬ lo < (0 : Int32)) (r2 : ¬ (hi + (1 : Int32)) < (0 : Int32)) (r3 : ¬ (hi + (1 : Int32)) < lo) (r4 : ¬ lo = (hi + (1 : Int32))) (r5 : own_wi lo = (0 : Int32)) (r6 : own_wi ((hi + (1 : Int32)) - (1 : Int32)) = (0 : Int32))  :
    MetFree l (⟨"com/example/rhadamanthus/rhadamanthus/model/CronField", "all", "()Ljava/util/BitSet;"⟩ : MethodName) (head1 (Jvm.Cond.code (⟨"com/example/rhadamanthus/rhadamanthus/model/CronField", "all", "()Ljava/util/BitSet;"⟩ : MethodName) prog_17_method_6_code 2 (some (.object "java/util/BitSet")) :: ws) ({ frames := 3, cells := 2, slots := 4, locals := 60 } : Room)) (fun aa U => aa = #[(.ref cf)] ∧ Z.Warmed39 U.vm ∧ U.heap = h0) (fun _ _ _ _ _ => True) (fun _ U o U' => ∃ v L, o = .returned v ∧ Qall Z 1 1 (own_bits lo (hi + (1 : Int32))) h0 n0 v U'.heap L ∧ FrameEnd U o U' L (({ frames := 3, cells := 2, slots := 4, locals := 60 } : Room).cells) (({ frames := 3, cells := 2, slots := 4, locals := 60 } : Room).slots)) := by
  refine own_body pf_16 ?_
  intro p e s m below meth c s₁ hx hby hml hown hnm hlk hret hZ X0 e0
  have N0 : Fr n0 [] := Fr.nil n0
  refine own_go (f' := (mkF m 0 #[.val (.ref cf), .unset] [])) (fun t k => castTop (ef_rm_a1 m cf) k) ?_
  have K1 : Keep h0 h0 [] := Keep.refl _ _
  refine own_new X0 hx (pc' := 3) hZ hown (Wd19 hw) (Wd20 hw) (Wd21 hw) e0 (hb hby d4_0) (by decide) (by decide) rfl (fun T2 h2 nb2 g2 X2 e2 E2 A2 D2 => ?_)
  have ne_cf_nb2_3 : cf ≠ nb2 := Nat.ne_of_lt (Nat.lt_of_lt_of_le F_n.lt (Nat.le_of_eq g2.symm))
  have ge_nb2 : n0 ≤ nb2 := Nat.le_trans Z0 (Nat.le_of_eq g2.symm)
  have gk_nb2 : h0.size ≤ nb2 := Nat.le_trans K1.1 (Nat.le_of_eq g2.symm)
  have Z4 : n0 ≤ h2.size := Nat.le_trans Z0 E2.1
  have K5 : Keep h0 h2 [] := K1.ext E2
  have F6 := (Fld.ext E2 F_n)
  have F7 := (Fld.ext E2 F_x)
  have F8 := (B_ad.ext E2)
  have F9 : Fld Z h2 nb2 "java/util/BitSet" "wordsInUse" "I" (.int (0 : Int32)) := D2 (Or.inl (Wd29 hw)) (ty := .int) (by decide)
  have F10 : Fld Z h2 nb2 "java/util/BitSet" "sizeIsSticky" "Z" (.int (0 : Int32)) := D2 (Or.inl (Wd31 hw)) (ty := .boolean) (by decide)
  have F11 : Fld Z h2 nb2 "java/util/BitSet" "words" "[J" .null := D2 (Or.inl (Wd42 hw)) (ty := (.array .long)) (by decide)
  refine own_dup X2 hx (pc' := 4) (hb hby d4_3) rfl rfl ?_
  refine own_callI X2 hx (pc' := 7) hZ rfl hown (Wd22 hw) (Wd23 hw) (Wd24 hw) (Wd21 hw) (by decide) (rm_bi l Z a0 hw [] nb2 h2 n0 Z4 ge_nb2 A2 F11 F9 F10) e2 (b := nb2) 1 (by decide) (by decide) (by decide) (by decide) [] [(.ref nb2)] (by rw [hml]; rfl) (lenOf pd_5 rfl) rfl rfl (Nat.le_of_eq rfl) (hb hby d4_4) rfl (fun v12 T12 L12 X12 hQ12 => ?_)
  obtain ⟨rfl, Nq12, K12, wa, kc, gw12, gz12, nw12, G1_12, G2_12, G3_12, G4_12⟩ := hQ12
  have N13 := Fr.app N0 Nq12
  have nz_cf_wa_14 : cf ≠ wa := Nat.ne_of_lt (Nat.lt_of_lt_of_le F6.lt gz12)
  have gk_wa : h0.size ≤ wa := Nat.le_trans K5.1 gz12
  have Z15 : n0 ≤ T12.heap.size := Nat.le_trans Z4 K12.1
  have K16 : Keep h0 T12.heap [] := Keep.trans K5 K12 (allS (Or.inr gk_nb2) all0)
  have F17 := (F6.keep K12 (ninS ne_cf_nb2_3 nin0))
  have F18 := (F7.keep K12 (ninS ne_cf_nb2_3 nin0))
  have F19 := (F8.keep K12 (own_allge ge_nb2 (fun x hx => absurd hx List.not_mem_nil)))
  have F20 := (Exa.keep A2 K12)
  show own_G p.tables e below _ T12 (mkF m 7 #[.val (.ref cf), .unset] [(.ref nb2)])
  refine own_astoreN X12 hx (pc' := 8) (Ls' := #[.val (.ref cf), .val (.ref nb2)]) (hb hby d4_7) rfl rfl rfl ?_
  refine own_aloadN X12 hx (pc' := 9) (hb hby d4_8) rfl rfl rfl ?_
  refine own_aloadN X12 hx (pc' := 10) (hb hby d4_9) rfl rfl rfl ?_
  refine own_getF X12 hx (pc' := 13) hZ hown (host := "") (Or.inl (Wd43 hw)) Via.refl rfl F17 (hb hby d4_10) rfl (fun T21 X21 e21 => ?_)
  refine own_aloadN X21 hx (pc' := 14) (hb hby d4_13) rfl rfl rfl ?_
  refine own_getF X21 hx (pc' := 17) hZ hown (host := "") (Or.inl (Wd45 hw)) Via.refl e21 F18 (hb hby d4_14) rfl (fun T22 X22 e22 => ?_)
  refine own_iconst X22 hx (pc' := 18) (1 : Int32) (hb hby d4_17) rfl rfl ?_
  refine own_iadd X22 hx (pc' := 19) (hb hby d4_18) rfl rfl ?_
  refine own_callV X22 hx (pc' := 22) hZ hown (Wd47 hw) (Wd49 hw) (Wd50 hw) (Wd51 hw) (Wd21 hw) (by decide) (rm_s1 l Z a0 hw [] nb2 wa kc lo (hi + (1 : Int32)) T12.heap n0 Z15 ge_nb2 F20 nw12 G1_12 G2_12 G3_12 G4_12 F19 gw12 r1 r2 r3 r4 r5 r6) e22 F20 0 (by decide) (by decide) (by decide) (by decide) [(.int lo), (.int (hi + (1 : Int32)))] [] (by rw [hml]; rfl) (lenOf pd_4 rfl) rfl rfl (Nat.le_of_eq rfl) (hb hby d4_19) rfl (fun v23 T23 L23 X23 hQ23 => ?_)
  obtain ⟨rfl, Nq23, K23, G1_23, G2_23, G3_23, G4_23⟩ := hQ23
  have N24 := Fr.app N13 Nq23
  have Z25 : n0 ≤ T23.heap.size := Nat.le_trans Z15 K23.1
  have K26 : Keep h0 T23.heap [] := Keep.trans K16 K23 (allS (Or.inr gk_nb2) (allS (Or.inr gk_wa) all0))
  have F27 := (F17.keep K23 (ninS ne_cf_nb2_3 (ninS nz_cf_wa_14 nin0)))
  have F28 := (F18.keep K23 (ninS ne_cf_nb2_3 (ninS nz_cf_wa_14 nin0)))
  have F29 := (F19.keep K23 (own_allge ge_nb2 (own_allge gw12 (fun x hx => absurd hx List.not_mem_nil))))
  have F30 := (Exa.keep F20 K23)
  show own_G p.tables e below _ T23 (mkF m 22 #[.val (.ref cf), .val (.ref nb2)] [])
  refine own_aloadN X23 hx (pc' := 23) (hb hby d4_22) rfl rfl rfl ?_
  refine own_retA X23 hx hlk hret rfl rfl rfl (hb hby d4_23) (by decide) (by decide) ?_
  exact ⟨N24, K26, nb2, wa, rfl, F30, G1_23, G2_23, own_Ar.ofArv (ws := [own_wS lo (hi + (1 : Int32))]) G4_23 (by decide)⟩

theorem ef_rm_a33 (m : MethodId) (x0 : Addr) : entryFrame m #[(.ref x0)] 2 = mkF m 0 #[.val (.ref x0), .unset] [] := by first | (simp [entryFrame, mkF, argsToLocals, Value.category, maxLocals]; done) | rfl
set_option maxRecDepth 65536 in
set_option maxHeartbeats 40000000 in
theorem rm_a33 (l : Launch) (Z : State) (a0 : Array Value) (hw : ∀ d ∈ tables_1, d.before a0 Z = true) (ws : List Jvm.Cond) (cf : Addr) (h0 : Heap) (n0 : Nat) (Z0 : n0 ≤ h0.size) (F_n : Fld Z h0 cf "com/example/rhadamanthus/rhadamanthus/model/CronField" "min" "I" (.int (1970 : Int32))) (F_x : Fld Z h0 cf "com/example/rhadamanthus/rhadamanthus/model/CronField" "max" "I" (.int (2099 : Int32))) (B_ad : own_AD n0 Z h0)  :
    MetFree l (⟨"com/example/rhadamanthus/rhadamanthus/model/CronField", "all", "()Ljava/util/BitSet;"⟩ : MethodName) (head1 (Jvm.Cond.code (⟨"com/example/rhadamanthus/rhadamanthus/model/CronField", "all", "()Ljava/util/BitSet;"⟩ : MethodName) prog_17_method_6_code 2 (some (.object "java/util/BitSet")) :: ws) ({ frames := 5, cells := 3, slots := 40, locals := 104 } : Room)) (fun aa U => aa = #[(.ref cf)] ∧ Z.Warmed39 U.vm ∧ U.heap = h0) (fun _ _ _ _ _ => True) (fun _ U o U' => ∃ v L, o = .returned v ∧ Qall Z 33 33 own_bitsY h0 n0 v U'.heap L ∧ FrameEnd U o U' L (({ frames := 5, cells := 3, slots := 40, locals := 104 } : Room).cells) (({ frames := 5, cells := 3, slots := 40, locals := 104 } : Room).slots)) := by
  refine own_body pf_16 ?_
  intro p e s m below meth c s₁ hx hby hml hown hnm hlk hret hZ X0 e0
  have N0 : Fr n0 [] := Fr.nil n0
  refine own_go (f' := (mkF m 0 #[.val (.ref cf), .unset] [])) (fun t k => castTop (ef_rm_a33 m cf) k) ?_
  have K1 : Keep h0 h0 [] := Keep.refl _ _
  refine own_new X0 hx (pc' := 3) hZ hown (Wd19 hw) (Wd20 hw) (Wd21 hw) e0 (hb hby d4_0) (by decide) (by decide) rfl (fun T2 h2 nb2 g2 X2 e2 E2 A2 D2 => ?_)
  have ne_cf_nb2_3 : cf ≠ nb2 := Nat.ne_of_lt (Nat.lt_of_lt_of_le F_n.lt (Nat.le_of_eq g2.symm))
  have ge_nb2 : n0 ≤ nb2 := Nat.le_trans Z0 (Nat.le_of_eq g2.symm)
  have gk_nb2 : h0.size ≤ nb2 := Nat.le_trans K1.1 (Nat.le_of_eq g2.symm)
  have Z4 : n0 ≤ h2.size := Nat.le_trans Z0 E2.1
  have K5 : Keep h0 h2 [] := K1.ext E2
  have F6 := (Fld.ext E2 F_n)
  have F7 := (Fld.ext E2 F_x)
  have F8 := (B_ad.ext E2)
  have F9 : Fld Z h2 nb2 "java/util/BitSet" "wordsInUse" "I" (.int (0 : Int32)) := D2 (Or.inl (Wd29 hw)) (ty := .int) (by decide)
  have F10 : Fld Z h2 nb2 "java/util/BitSet" "sizeIsSticky" "Z" (.int (0 : Int32)) := D2 (Or.inl (Wd31 hw)) (ty := .boolean) (by decide)
  have F11 : Fld Z h2 nb2 "java/util/BitSet" "words" "[J" .null := D2 (Or.inl (Wd42 hw)) (ty := (.array .long)) (by decide)
  refine own_dup X2 hx (pc' := 4) (hb hby d4_3) rfl rfl ?_
  refine own_callI X2 hx (pc' := 7) hZ rfl hown (Wd22 hw) (Wd23 hw) (Wd24 hw) (Wd21 hw) (by decide) (rm_bi l Z a0 hw [] nb2 h2 n0 Z4 ge_nb2 A2 F11 F9 F10) e2 (b := nb2) 1 (by decide) (by decide) (by decide) (by decide) [] [(.ref nb2)] (by rw [hml]; rfl) (lenOf pd_5 rfl) rfl rfl (Nat.le_of_eq rfl) (hb hby d4_4) rfl (fun v12 T12 L12 X12 hQ12 => ?_)
  obtain ⟨rfl, Nq12, K12, wa, kc, gw12, gz12, nw12, G1_12, G2_12, G3_12, G4_12⟩ := hQ12
  have N13 := Fr.app N0 Nq12
  have nz_cf_wa_14 : cf ≠ wa := Nat.ne_of_lt (Nat.lt_of_lt_of_le F6.lt gz12)
  have gk_wa : h0.size ≤ wa := Nat.le_trans K5.1 gz12
  have Z15 : n0 ≤ T12.heap.size := Nat.le_trans Z4 K12.1
  have K16 : Keep h0 T12.heap [] := Keep.trans K5 K12 (allS (Or.inr gk_nb2) all0)
  have F17 := (F6.keep K12 (ninS ne_cf_nb2_3 nin0))
  have F18 := (F7.keep K12 (ninS ne_cf_nb2_3 nin0))
  have F19 := (F8.keep K12 (own_allge ge_nb2 (fun x hx => absurd hx List.not_mem_nil)))
  have F20 := (Exa.keep A2 K12)
  show own_G p.tables e below _ T12 (mkF m 7 #[.val (.ref cf), .unset] [(.ref nb2)])
  refine own_astoreN X12 hx (pc' := 8) (Ls' := #[.val (.ref cf), .val (.ref nb2)]) (hb hby d4_7) rfl rfl rfl ?_
  refine own_aloadN X12 hx (pc' := 9) (hb hby d4_8) rfl rfl rfl ?_
  refine own_aloadN X12 hx (pc' := 10) (hb hby d4_9) rfl rfl rfl ?_
  refine own_getF X12 hx (pc' := 13) hZ hown (host := "") (Or.inl (Wd43 hw)) Via.refl rfl F17 (hb hby d4_10) rfl (fun T21 X21 e21 => ?_)
  refine own_aloadN X21 hx (pc' := 14) (hb hby d4_13) rfl rfl rfl ?_
  refine own_getF X21 hx (pc' := 17) hZ hown (host := "") (Or.inl (Wd45 hw)) Via.refl e21 F18 (hb hby d4_14) rfl (fun T22 X22 e22 => ?_)
  refine own_iconst X22 hx (pc' := 18) (1 : Int32) (hb hby d4_17) rfl rfl ?_
  refine own_iadd X22 hx (pc' := 19) (z := (2100 : Int32)) (hb hby d4_18) (by decide) rfl ?_
  refine own_callV X22 hx (pc' := 22) hZ hown (Wd47 hw) (Wd49 hw) (Wd50 hw) (Wd51 hw) (Wd21 hw) (by decide) (rm_s33 l Z a0 hw [] nb2 wa kc T12.heap n0 Z15 ge_nb2 F20 nw12 G1_12 G2_12 G3_12 G4_12 F19) e22 F20 0 (by decide) (by decide) (by decide) (by decide) [(.int (1970 : Int32)), (.int (2100 : Int32))] [] (by rw [hml]; rfl) (lenOf pd_4 rfl) rfl rfl (Nat.le_of_eq rfl) (hb hby d4_19) rfl (fun v23 T23 L23 X23 hQ23 => ?_)
  obtain ⟨rfl, Nq23, K23, nw, kw, gw23, gz23, ne23, G1_23, G2_23, G3_23, G4_23⟩ := hQ23
  have N24 := Fr.app N13 Nq23
  have nf23 : wa ≠ nw := Nat.ne_of_lt (Nat.lt_of_lt_of_le G4_12.lt gz23)
  have nz_cf_nw_25 : cf ≠ nw := Nat.ne_of_lt (Nat.lt_of_lt_of_le F17.lt gz23)
  have gk_nw : h0.size ≤ nw := Nat.le_trans K16.1 gz23
  have Z26 : n0 ≤ T23.heap.size := Nat.le_trans Z15 K23.1
  have K27 : Keep h0 T23.heap [] := Keep.trans K16 K23 (allS (Or.inr gk_nb2) all0)
  have F28 := (F17.keep K23 (ninS ne_cf_nb2_3 nin0))
  have F29 := (F18.keep K23 (ninS ne_cf_nb2_3 nin0))
  have F30 := (F19.keep K23 (own_allge ge_nb2 (fun x hx => absurd hx List.not_mem_nil)))
  have F31 := (Exa.keep F20 K23)
  have F32 := (G4_12.keep K23 (ninS (Ne.symm nw12) nin0))
  show own_G p.tables e below _ T23 (mkF m 22 #[.val (.ref cf), .val (.ref nb2)] [])
  refine own_aloadN X23 hx (pc' := 23) (hb hby d4_22) rfl rfl rfl ?_
  refine own_retA X23 hx hlk hret rfl rfl rfl (hb hby d4_23) (by decide) (by decide) ?_
  exact ⟨N24, K27, nb2, nw, rfl, F31, G1_23, G2_23, own_Ar.ofArv (ws := [(0 : Int64), (0 : Int64), (0 : Int64), (0 : Int64), (0 : Int64), (0 : Int64), (0 : Int64), (0 : Int64), (0 : Int64), (0 : Int64), (0 : Int64), (0 : Int64), (0 : Int64), (0 : Int64), (0 : Int64), (0 : Int64), (0 : Int64), (0 : Int64), (0 : Int64), (0 : Int64), (0 : Int64), (0 : Int64), (0 : Int64), (0 : Int64), (0 : Int64), (0 : Int64), (0 : Int64), (0 : Int64), (0 : Int64), (0 : Int64), own_y30, (-1 : Int64), own_y32]) G4_23 (by decide)⟩

def Qint (x : Int32) (h0 : Heap) (n0 : Nat) (v : Option Value) (h : Heap) (L : List Loc) : Prop := v = some (.int x) ∧ Fr n0 L ∧ h = h0
theorem own_pred {UU : Nat} (h : 0 < UU) (h2 : UU < 100000) : Int32.ofNat UU - (1 : Int32) = Int32.ofNat (UU - 1) := by
  have q1 := c_isub (Int32.ofNat UU) (1 : Int32); have q2 := rng32 (Int32.ofNat UU - (1 : Int32))
  rw [own_on h2, own_t32_1] at q1
  rw [← Int32.toInt_inj, own_on (by omega)]; omega
theorem d17_0 : decode jdk_92_method_32_code 0 = .ok (.aload_n 0, 1) := by decide +kernel
theorem d17_1 : decode jdk_92_method_32_code 1 = .ok (.getfield 7, 3) := by decide +kernel
theorem d17_4 : decode jdk_92_method_32_code 4 = .ok (.ifCond .ne 5, 3) := by decide +kernel
theorem d17_7 : decode jdk_92_method_32_code 7 = .ok (.iconst 0, 1) := by decide +kernel
theorem d17_8 : decode jdk_92_method_32_code 8 = .ok (.ireturn, 1) := by decide +kernel
theorem d17_9 : decode jdk_92_method_32_code 9 = .ok (.bipush 64, 2) := by decide +kernel
theorem d17_11 : decode jdk_92_method_32_code 11 = .ok (.aload_n 0, 1) := by decide +kernel
theorem d17_12 : decode jdk_92_method_32_code 12 = .ok (.getfield 7, 3) := by decide +kernel
theorem d17_15 : decode jdk_92_method_32_code 15 = .ok (.iconst 1, 1) := by decide +kernel
theorem d17_16 : decode jdk_92_method_32_code 16 = .ok (.isub, 1) := by decide +kernel
theorem d17_17 : decode jdk_92_method_32_code 17 = .ok (.imul, 1) := by decide +kernel
theorem d17_18 : decode jdk_92_method_32_code 18 = .ok (.bipush 64, 2) := by decide +kernel
theorem d17_20 : decode jdk_92_method_32_code 20 = .ok (.aload_n 0, 1) := by decide +kernel
theorem d17_21 : decode jdk_92_method_32_code 21 = .ok (.getfield 11, 3) := by decide +kernel
theorem d17_24 : decode jdk_92_method_32_code 24 = .ok (.aload_n 0, 1) := by decide +kernel
theorem d17_25 : decode jdk_92_method_32_code 25 = .ok (.getfield 7, 3) := by decide +kernel
theorem d17_28 : decode jdk_92_method_32_code 28 = .ok (.iconst 1, 1) := by decide +kernel
theorem d17_29 : decode jdk_92_method_32_code 29 = .ok (.isub, 1) := by decide +kernel
theorem d17_30 : decode jdk_92_method_32_code 30 = .ok (.laload, 1) := by decide +kernel
theorem d17_31 : decode jdk_92_method_32_code 31 = .ok (.invokestatic 190, 3) := by decide +kernel
theorem d17_34 : decode jdk_92_method_32_code 34 = .ok (.isub, 1) := by decide +kernel
theorem d17_35 : decode jdk_92_method_32_code 35 = .ok (.iadd, 1) := by decide +kernel
theorem d17_36 : decode jdk_92_method_32_code 36 = .ok (.ireturn, 1) := by decide +kernel
theorem ef_rm_len (m : MethodId) (x0 : Addr) : entryFrame m #[(.ref x0)] 1 = mkF m 0 #[.val (.ref x0)] [] := by first | (simp [entryFrame, mkF, argsToLocals, Value.category, maxLocals]; done) | rfl
theorem pf_17 : plainFor (⟨"java/util/BitSet", "length", "()I"⟩ : MethodName) = true := by apply plainFor_of_name; first | (simp [plainName, overriddenIn]; done) | decide +kernel
theorem Wd92 {a0 : Array Value} {Z : State} (hw : ∀ d ∈ tables_1, d.before a0 Z = true) : (Jvm.Cond.code ({ cls := "java/lang/Long", name := "numberOfLeadingZeros", desc := "(J)I" } : Jvm.MethodName) jdk_35_method_48_code (3 : Nat) (Option.some Jvm.ClassFile.FieldType.int)).before a0 Z = true := hw _ (List.mem_of_getElem? (i := 92) rfl)
theorem Wd79 {a0 : Array Value} {Z : State} (hw : ∀ d ∈ tables_1, d.before a0 Z = true) : (Jvm.Cond.initialized "java/lang/Long").before a0 Z = true := hw _ (List.mem_of_getElem? (i := 79) rfl)
theorem pd_6 : parseMethodDescriptor "(J)I" = some ⟨[.long], some .int⟩ := by decide +kernel
theorem Wd90 {a0 : Array Value} {Z : State} (hw : ∀ d ∈ tables_1, d.before a0 Z = true) : (Jvm.Cond.methodLink "java/util/BitSet" (190 : Nat) ({ cls := "java/lang/Long", name := "numberOfLeadingZeros", desc := "(J)I" } : Jvm.MethodName)).before a0 Z = true := hw _ (List.mem_of_getElem? (i := 90) rfl)
theorem Wd91 {a0 : Array Value} {Z : State} (hw : ∀ d ∈ tables_1, d.before a0 Z = true) : (Jvm.Cond.static ({ cls := "java/lang/Long", name := "numberOfLeadingZeros", desc := "(J)I" } : Jvm.MethodName)).before a0 Z = true := hw _ (List.mem_of_getElem? (i := 91) rfl)
set_option maxRecDepth 65536 in
set_option maxHeartbeats 40000000 in
theorem rm_len (l : Launch) (Z : State) (a0 : Array Value) (hw : ∀ d ∈ tables_1, d.before a0 Z = true) (ws : List Jvm.Cond) (bs wa : Addr) (UU N : Nat) (wf : Nat → Int64) (h0 : Heap) (n0 : Nat) (Z0 : n0 ≤ h0.size) (hU : 0 < UU) (hUN : UU ≤ N) (hN : N < 100000) (E_b : Exa Z h0 bs "java/util/BitSet") (F_w : Fld Z h0 bs "java/util/BitSet" "words" "[J" (.ref wa)) (F_u : Fld Z h0 bs "java/util/BitSet" "wordsInUse" "I" (.int (Int32.ofNat UU))) (V_w : own_Ar Z h0 wa .long N (fun ii => .long (wf ii))) :
    MetFree l (⟨"java/util/BitSet", "length", "()I"⟩ : MethodName) (head1 (Jvm.Cond.code (⟨"java/util/BitSet", "length", "()I"⟩ : MethodName) jdk_92_method_32_code 1 (some .int) :: ws) ({ frames := 2, cells := 0, slots := 0, locals := 34 } : Room)) (fun aa U => aa = #[(.ref bs)] ∧ Z.Warmed39 U.vm ∧ U.heap = h0) (fun _ _ _ _ _ => True) (fun _ U o U' => ∃ v L, o = .returned v ∧ Qint (own_blen wf UU) h0 n0 v U'.heap L ∧ FrameEnd U o U' L (({ frames := 2, cells := 0, slots := 0, locals := 34 } : Room).cells) (({ frames := 2, cells := 0, slots := 0, locals := 34 } : Room).slots)) := by
  refine own_body pf_17 ?_
  intro p e s m below meth c s₁ hx hby hml hown hnm hlk hret hZ X0 e0
  have N0 : Fr n0 [] := Fr.nil n0
  refine own_go (f' := (mkF m 0 #[.val (.ref bs)] [])) (fun t k => castTop (ef_rm_len m bs) k) ?_
  have hz : ¬ (Int32.ofNat UU) = (0 : Int32) := fun qq => by have q2 := (own_oeq (a := UU) (b := 0) (by omega) (by omega)).mp qq; omega
  have c1 := own_clamp (n := UU - 1) (by omega)
  have hl : UU - 1 < N := by omega
  refine own_aloadN X0 hx (pc' := 1) (hb hby d17_0) rfl rfl rfl ?_
  refine own_getF X0 hx (pc' := 4) hZ hown (host := "") (Or.inl (Wd28 hw)) Via.refl e0 F_u (hb hby d17_1) rfl (fun T1 X1 e1 => ?_)
  refine own_ifYes X1 hx (pc' := 9) (hb hby d17_4) (feq hz).2 (by decide) (by decide) ?_
  refine own_bipush X1 hx (pc' := 11) (64 : Int32) (hb hby d17_9) rfl rfl ?_
  refine own_aloadN X1 hx (pc' := 12) (hb hby d17_11) rfl rfl rfl ?_
  refine own_getF X1 hx (pc' := 15) hZ hown (host := "") (Or.inl (Wd28 hw)) Via.refl e1 F_u (hb hby d17_12) rfl (fun T2 X2 e2 => ?_)
  refine own_iconst X2 hx (pc' := 16) (1 : Int32) (hb hby d17_15) rfl rfl ?_
  refine own_isub X2 hx (pc' := 17) (hb hby d17_16) rfl rfl ?_
  rw [own_pred hU (by omega)]
  refine own_imul X2 hx (pc' := 18) (hb hby d17_17) rfl rfl ?_
  refine own_bipush X2 hx (pc' := 20) (64 : Int32) (hb hby d17_18) rfl rfl ?_
  refine own_aloadN X2 hx (pc' := 21) (hb hby d17_20) rfl rfl rfl ?_
  refine own_getF X2 hx (pc' := 24) hZ hown (host := "") (Or.inl (Wd41 hw)) Via.refl e2 F_w (hb hby d17_21) rfl (fun T3 X3 e3 => ?_)
  refine own_aloadN X3 hx (pc' := 25) (hb hby d17_24) rfl rfl rfl ?_
  refine own_getF X3 hx (pc' := 28) hZ hown (host := "") (Or.inl (Wd28 hw)) Via.refl e3 F_u (hb hby d17_25) rfl (fun T4 X4 e4 => ?_)
  refine own_iconst X4 hx (pc' := 29) (1 : Int32) (hb hby d17_28) rfl rfl ?_
  refine own_isub X4 hx (pc' := 30) (hb hby d17_29) rfl rfl ?_
  rw [own_pred hU (by omega)]
  obtain ⟨cl5, Ar5, S5, H5⟩ := id V_w
  refine own_laload X4 hx (pc' := 31) hZ (v := (wf (UU - 1))) e4 Ar5 (own_in S5 c1.1 c1.2 hl) (by rw [c1.2]; exact H5 _ hl) (hb hby d17_30) rfl ?_
  refine own_callS X4 hx (pc' := 34) hZ hown (Wd90 hw) (Wd91 hw) (Wd79 hw) (Wd92 hw) (by decide) (rm_lL l Z a0 hw [] (wf (UU - 1)) h0 n0 Z0) e4 2 (by decide) (by decide) (by decide) (by decide) [(.long (wf (UU - 1)))] [(.int (64 : Int32)), (.int ((64 : Int32) * (Int32.ofNat (UU - 1))))] (by rw [hml]; rfl) (lenOf pd_6 rfl) rfl rfl (Nat.le_of_eq rfl) (hb hby d17_31) rfl (fun v6 T6 L6 X6 hQ6 => ?_)
  obtain ⟨rfl, Nq6, e6⟩ := hQ6
  have N7 := Fr.app N0 Nq6
  show own_G p.tables e below _ T6 (mkF m 34 #[.val (.ref bs)] [(.int (own_lL (wf (UU - 1)))), (.int (64 : Int32)), (.int ((64 : Int32) * (Int32.ofNat (UU - 1))))])
  refine own_isub X6 hx (pc' := 35) (hb hby d17_34) rfl rfl ?_
  refine own_iadd X6 hx (pc' := 36) (hb hby d17_35) rfl rfl ?_
  refine own_retI X6 hx hlk hret (hb hby d17_36) (by decide) (by decide) ?_
  exact ⟨rfl, N7, e6⟩

theorem d22_0 : decode jdk_92_method_26_code 0 = .ok (.iload_n 1, 1) := by decide +kernel
theorem d22_1 : decode jdk_92_method_26_code 1 = .ok (.ifCond .ge 30, 3) := by decide +kernel
theorem d22_31 : decode jdk_92_method_26_code 31 = .ok (.aload_n 0, 1) := by decide +kernel
theorem d22_32 : decode jdk_92_method_26_code 32 = .ok (.invokevirtual 56, 3) := by decide +kernel
theorem d22_35 : decode jdk_92_method_26_code 35 = .ok (.iload_n 1, 1) := by decide +kernel
theorem d22_36 : decode jdk_92_method_26_code 36 = .ok (.invokestatic 52, 3) := by decide +kernel
theorem d22_39 : decode jdk_92_method_26_code 39 = .ok (.istore_n 2, 1) := by decide +kernel
theorem d22_40 : decode jdk_92_method_26_code 40 = .ok (.iload_n 2, 1) := by decide +kernel
theorem d22_41 : decode jdk_92_method_26_code 41 = .ok (.aload_n 0, 1) := by decide +kernel
theorem d22_42 : decode jdk_92_method_26_code 42 = .ok (.getfield 7, 3) := by decide +kernel
theorem d22_45 : decode jdk_92_method_26_code 45 = .ok (.if_icmp .ge 22, 3) := by decide +kernel
theorem d22_48 : decode jdk_92_method_26_code 48 = .ok (.aload_n 0, 1) := by decide +kernel
theorem d22_49 : decode jdk_92_method_26_code 49 = .ok (.getfield 11, 3) := by decide +kernel
theorem d22_52 : decode jdk_92_method_26_code 52 = .ok (.iload_n 2, 1) := by decide +kernel
theorem d22_53 : decode jdk_92_method_26_code 53 = .ok (.laload, 1) := by decide +kernel
theorem d22_54 : decode jdk_92_method_26_code 54 = .ok (.lconst 1, 1) := by decide +kernel
theorem d22_55 : decode jdk_92_method_26_code 55 = .ok (.iload_n 1, 1) := by decide +kernel
theorem d22_56 : decode jdk_92_method_26_code 56 = .ok (.lshl, 1) := by decide +kernel
theorem d22_57 : decode jdk_92_method_26_code 57 = .ok (.land, 1) := by decide +kernel
theorem d22_58 : decode jdk_92_method_26_code 58 = .ok (.lconst 0, 1) := by decide +kernel
theorem d22_59 : decode jdk_92_method_26_code 59 = .ok (.lcmp, 1) := by decide +kernel
theorem d22_60 : decode jdk_92_method_26_code 60 = .ok (.ifCond .eq 7, 3) := by decide +kernel
theorem d22_63 : decode jdk_92_method_26_code 63 = .ok (.iconst 1, 1) := by decide +kernel
theorem d22_64 : decode jdk_92_method_26_code 64 = .ok (.goto 4, 3) := by decide +kernel
theorem d22_67 : decode jdk_92_method_26_code 67 = .ok (.iconst 0, 1) := by decide +kernel
theorem d22_68 : decode jdk_92_method_26_code 68 = .ok (.ireturn, 1) := by decide +kernel
theorem ef_rm_get (m : MethodId) (x0 : Addr) (x1 : Int32) : entryFrame m #[(.ref x0), (.int x1)] 3 = mkF m 0 #[.val (.ref x0), .val (.int x1), .unset] [] := by first | (simp [entryFrame, mkF, argsToLocals, Value.category, maxLocals]; done) | rfl
theorem pf_18 : plainFor (⟨"java/util/BitSet", "get", "(I)Z"⟩ : MethodName) = true := by apply plainFor_of_name; first | (simp [plainName, overriddenIn]; done) | decide +kernel
set_option maxRecDepth 65536 in
set_option maxHeartbeats 40000000 in
theorem rm_get (l : Launch) (Z : State) (a0 : Array Value) (hw : ∀ d ∈ tables_1, d.before a0 Z = true) (ws : List Jvm.Cond) (bs wa : Addr) (UU N : Nat) (wf : Nat → Int64) (i : Int32) (qq : Nat) (h0 : Heap) (n0 : Nat) (Z0 : n0 ≤ h0.size) (hU : 0 < UU) (hUN : UU ≤ N) (hN : N < 100000) (E_b : Exa Z h0 bs "java/util/BitSet") (F_w : Fld Z h0 bs "java/util/BitSet" "words" "[J" (.ref wa)) (F_u : Fld Z h0 bs "java/util/BitSet" "wordsInUse" "I" (.int (Int32.ofNat UU))) (V_w : own_Ar Z h0 wa .long N (fun ii => .long (wf ii))) (B_ad : own_AD n0 Z h0) (hi0 : ¬ i < (0 : Int32)) (hq : own_wi i = Int32.ofNat qq) (hqn : qq < 100000) :
    MetFree l (⟨"java/util/BitSet", "get", "(I)Z"⟩ : MethodName) (head1 (Jvm.Cond.code (⟨"java/util/BitSet", "get", "(I)Z"⟩ : MethodName) jdk_92_method_26_code 3 (some .boolean) :: ws) ({ frames := 1, cells := 0, slots := 0, locals := 16 } : Room)) (fun aa U => aa = #[(.ref bs), (.int i)] ∧ Z.Warmed39 U.vm ∧ U.heap = h0) (fun _ _ _ _ _ => True) (fun _ U o U' => ∃ v L, o = .returned v ∧ Qint (own_get wf UU qq i) h0 n0 v U'.heap L ∧ FrameEnd U o U' L (({ frames := 1, cells := 0, slots := 0, locals := 16 } : Room).cells) (({ frames := 1, cells := 0, slots := 0, locals := 16 } : Room).slots)) := by
  refine own_body pf_18 ?_
  intro p e s m below meth c s₁ hx hby hml hown hnm hlk hret hZ X0 e0
  have N0 : Fr n0 [] := Fr.nil n0
  refine own_go (f' := (mkF m 0 #[.val (.ref bs), .val (.int i), .unset] [])) (fun t k => castTop (ef_rm_get m bs i) k) ?_
  refine own_iloadN X0 hx (pc' := 1) (hb hby d22_0) rfl rfl ?_
  refine own_ifYes X0 hx (pc' := 31) (hb hby d22_1) (flt (id hi0)).2.1 (by decide) (by decide) ?_
  refine own_aloadN X0 hx (pc' := 32) (hb hby d22_31) rfl rfl rfl ?_
  refine own_callP X0 hx (pc' := 35) hZ hown (Wd66 hw) (Wd67 hw) (Wd68 hw) (Wd70 hw) (Wd21 hw) (Wd20 hw) (by decide) (rm_ci l Z a0 hw [] bs h0 n0 Z0 B_ad) e0 E_b 0 (by decide) (by decide) (by decide) (by decide) [] [] (by rw [hml]; rfl) (lenOf pd_5 rfl) rfl rfl (Nat.le_of_eq rfl) (hb hby d22_32) rfl (fun v1 T1 L1 X1 hQ1 => ?_)
  obtain ⟨rfl, Nq1, e1⟩ := hQ1
  have N2 := Fr.app N0 Nq1
  show own_G p.tables e below _ T1 (mkF m 35 #[.val (.ref bs), .val (.int i), .unset] [])
  refine own_iloadN X1 hx (pc' := 36) (hb hby d22_35) rfl rfl ?_
  refine own_callS X1 hx (pc' := 39) hZ hown (Wd37 hw) (Wd38 hw) (Wd21 hw) (Wd39 hw) (by decide) (rm_wi l Z a0 hw [] i h0 n0 Z0) e1 0 (by decide) (by decide) (by decide) (by decide) [(.int i)] [] (by rw [hml]; rfl) (lenOf pd_0 rfl) rfl rfl (Nat.le_of_eq rfl) (hb hby d22_36) rfl (fun v3 T3 L3 X3 hQ3 => ?_)
  obtain ⟨rfl, Nq3, e3⟩ := hQ3
  have N4 := Fr.app N2 Nq3
  show own_G p.tables e below _ T3 (mkF m 39 #[.val (.ref bs), .val (.int i), .unset] [(.int (own_wi i))])
  rw [hq]
  refine own_istoreN X3 hx (pc' := 40) (Ls' := #[.val (.ref bs), .val (.int i), .val (.int (Int32.ofNat qq))]) (hb hby d22_39) rfl rfl ?_
  by_cases hQU : qq < UU
  · skip
    have hlt : (Int32.ofNat qq) < (Int32.ofNat UU) := (own_olt hqn (by omega)).mpr hQU
    have c1 := own_clamp (n := qq) hqn
    have hl : qq < N := by omega
    refine own_iloadN X3 hx (pc' := 41) (hb hby d22_40) rfl rfl ?_
    refine own_aloadN X3 hx (pc' := 42) (hb hby d22_41) rfl rfl rfl ?_
    refine own_getF X3 hx (pc' := 45) hZ hown (host := "") (Or.inl (Wd28 hw)) Via.refl e3 F_u (hb hby d22_42) rfl (fun T5 X5 e5 => ?_)
    refine own_icmpNo X5 hx (pc' := 48) (hb hby d22_45) (tlt (id hlt)).2.1 rfl ?_
    refine own_aloadN X5 hx (pc' := 49) (hb hby d22_48) rfl rfl rfl ?_
    refine own_getF X5 hx (pc' := 52) hZ hown (host := "") (Or.inl (Wd41 hw)) Via.refl e5 F_w (hb hby d22_49) rfl (fun T6 X6 e6 => ?_)
    refine own_iloadN X6 hx (pc' := 53) (hb hby d22_52) rfl rfl ?_
    obtain ⟨cl7, Ar7, S7, H7⟩ := id V_w
    refine own_laload X6 hx (pc' := 54) hZ (v := (wf qq)) e6 Ar7 (own_in S7 c1.1 c1.2 hl) (by rw [c1.2]; exact H7 _ hl) (hb hby d22_53) rfl ?_
    refine own_lconst X6 hx (pc' := 55) (1 : Int64) (hb hby d22_54) rfl rfl ?_
    refine own_iloadN X6 hx (pc' := 56) (hb hby d22_55) rfl rfl ?_
    refine own_lshl X6 hx (pc' := 57) (hb hby d22_56) rfl ?_
    refine own_land X6 hx (pc' := 58) (hb hby d22_57) rfl rfl ?_
    refine own_lconst X6 hx (pc' := 59) (0 : Int64) (hb hby d22_58) rfl rfl ?_
    refine own_lcmp X6 hx (pc' := 60) (hb hby d22_59) rfl ?_
    by_cases hc60_8 : ((wf qq) &&& ((1 : Int64) <<< (i &&& 0x3f).toInt64)) = (0 : Int64)
    · skip
      refine own_ifYes X6 hx (pc' := 67) (hb hby d22_60) (teq ((lw_eq ((wf qq) &&& ((1 : Int64) <<< (i &&& 0x3f).toInt64)) (0 : Int64)).mpr hc60_8)).1 (by decide) (by decide) ?_
      refine own_iconst X6 hx (pc' := 68) (0 : Int32) (hb hby d22_67) rfl rfl ?_
      refine own_retN X6 hx hlk hret (by simp) (hb hby d22_68) (by decide) (by decide) ?_
      exact ⟨by simp only [own_get, hQU, hc60_8, if_true, if_false] <;> rfl, N4, e6⟩
    · skip
      refine own_ifNo X6 hx (pc' := 63) (hb hby d22_60) (feq (fun q => hc60_8 ((lw_eq ((wf qq) &&& ((1 : Int64) <<< (i &&& 0x3f).toInt64)) (0 : Int64)).mp q))).1 rfl ?_
      refine own_iconst X6 hx (pc' := 64) (1 : Int32) (hb hby d22_63) rfl rfl ?_
      refine own_goto X6 hx (pc' := 68) (hb hby d22_64) (by decide) (by decide) ?_
      refine own_retN X6 hx hlk hret (by simp) (hb hby d22_68) (by decide) (by decide) ?_
      exact ⟨by simp only [own_get, hQU, hc60_8, if_true, if_false] <;> rfl, N4, e6⟩
  · skip
    have hlt : ¬ (Int32.ofNat qq) < (Int32.ofNat UU) := fun hh => hQU ((own_olt hqn (by omega)).mp hh)
    refine own_iloadN X3 hx (pc' := 41) (hb hby d22_40) rfl rfl ?_
    refine own_aloadN X3 hx (pc' := 42) (hb hby d22_41) rfl rfl rfl ?_
    refine own_getF X3 hx (pc' := 45) hZ hown (host := "") (Or.inl (Wd28 hw)) Via.refl e3 F_u (hb hby d22_42) rfl (fun T9 X9 e9 => ?_)
    refine own_icmpYes X9 hx (pc' := 67) (hb hby d22_45) (flt (id hlt)).2.1 (by decide) (by decide) ?_
    refine own_iconst X9 hx (pc' := 68) (0 : Int32) (hb hby d22_67) rfl rfl ?_
    refine own_retN X9 hx hlk hret (by simp) (hb hby d22_68) (by decide) (by decide) ?_
    exact ⟨by simp only [own_get, hQU, if_true, if_false] <;> rfl, N4, e9⟩

theorem d20_0 : decode jdk_92_method_35_code 0 = .ok (.iconst 0, 1) := by decide +kernel
theorem d20_1 : decode jdk_92_method_35_code 1 = .ok (.istore_n 1, 1) := by decide +kernel
theorem d20_2 : decode jdk_92_method_35_code 2 = .ok (.iconst 0, 1) := by decide +kernel
theorem d20_3 : decode jdk_92_method_35_code 3 = .ok (.istore_n 2, 1) := by decide +kernel
theorem d20_4 : decode jdk_92_method_35_code 4 = .ok (.iload_n 2, 1) := by decide +kernel
theorem d20_5 : decode jdk_92_method_35_code 5 = .ok (.aload_n 0, 1) := by decide +kernel
theorem d20_6 : decode jdk_92_method_35_code 6 = .ok (.getfield 7, 3) := by decide +kernel
theorem d20_9 : decode jdk_92_method_35_code 9 = .ok (.if_icmp .ge 21, 3) := by decide +kernel
theorem d20_12 : decode jdk_92_method_35_code 12 = .ok (.iload_n 1, 1) := by decide +kernel
theorem d20_13 : decode jdk_92_method_35_code 13 = .ok (.aload_n 0, 1) := by decide +kernel
theorem d20_14 : decode jdk_92_method_35_code 14 = .ok (.getfield 11, 3) := by decide +kernel
theorem d20_17 : decode jdk_92_method_35_code 17 = .ok (.iload_n 2, 1) := by decide +kernel
theorem d20_18 : decode jdk_92_method_35_code 18 = .ok (.laload, 1) := by decide +kernel
theorem d20_19 : decode jdk_92_method_35_code 19 = .ok (.invokestatic 196, 3) := by decide +kernel
theorem d20_22 : decode jdk_92_method_35_code 22 = .ok (.iadd, 1) := by decide +kernel
theorem d20_23 : decode jdk_92_method_35_code 23 = .ok (.istore_n 1, 1) := by decide +kernel
theorem d20_24 : decode jdk_92_method_35_code 24 = .ok (.iinc 2 1, 3) := by decide +kernel
theorem d20_27 : decode jdk_92_method_35_code 27 = .ok (.goto (-23), 3) := by decide +kernel
theorem d20_30 : decode jdk_92_method_35_code 30 = .ok (.iload_n 1, 1) := by decide +kernel
theorem d20_31 : decode jdk_92_method_35_code 31 = .ok (.ireturn, 1) := by decide +kernel
theorem ef_rm_card (m : MethodId) (x0 : Addr) : entryFrame m #[(.ref x0)] 3 = mkF m 0 #[.val (.ref x0), .unset, .unset] [] := by first | (simp [entryFrame, mkF, argsToLocals, Value.category, maxLocals]; done) | rfl
theorem pf_19 : plainFor (⟨"java/util/BitSet", "cardinality", "()I"⟩ : MethodName) = true := by apply plainFor_of_name; first | (simp [plainName, overriddenIn]; done) | decide +kernel
theorem Wd104 {a0 : Array Value} {Z : State} (hw : ∀ d ∈ tables_1, d.before a0 Z = true) : (Jvm.Cond.code ({ cls := "java/lang/Long", name := "bitCount", desc := "(J)I" } : Jvm.MethodName) jdk_35_method_50_code (2 : Nat) (Option.some Jvm.ClassFile.FieldType.int)).before a0 Z = true := hw _ (List.mem_of_getElem? (i := 104) rfl)
theorem Wd102 {a0 : Array Value} {Z : State} (hw : ∀ d ∈ tables_1, d.before a0 Z = true) : (Jvm.Cond.methodLink "java/util/BitSet" (196 : Nat) ({ cls := "java/lang/Long", name := "bitCount", desc := "(J)I" } : Jvm.MethodName)).before a0 Z = true := hw _ (List.mem_of_getElem? (i := 102) rfl)
theorem Wd103 {a0 : Array Value} {Z : State} (hw : ∀ d ∈ tables_1, d.before a0 Z = true) : (Jvm.Cond.static ({ cls := "java/lang/Long", name := "bitCount", desc := "(J)I" } : Jvm.MethodName)).before a0 Z = true := hw _ (List.mem_of_getElem? (i := 103) rfl)
set_option maxRecDepth 65536 in
set_option maxHeartbeats 40000000 in
theorem rm_card (l : Launch) (Z : State) (a0 : Array Value) (hw : ∀ d ∈ tables_1, d.before a0 Z = true) (ws : List Jvm.Cond) (bs wa : Addr) (UU N : Nat) (wf : Nat → Int64) (h0 : Heap) (n0 : Nat) (Z0 : n0 ≤ h0.size) (hU : 0 < UU) (hUN : UU ≤ N) (hN : N < 100000) (E_b : Exa Z h0 bs "java/util/BitSet") (F_w : Fld Z h0 bs "java/util/BitSet" "words" "[J" (.ref wa)) (F_u : Fld Z h0 bs "java/util/BitSet" "wordsInUse" "I" (.int (Int32.ofNat UU))) (V_w : own_Ar Z h0 wa .long N (fun ii => .long (wf ii))) :
    MetFree l (⟨"java/util/BitSet", "cardinality", "()I"⟩ : MethodName) (head1 (Jvm.Cond.code (⟨"java/util/BitSet", "cardinality", "()I"⟩ : MethodName) jdk_92_method_35_code 3 (some .int) :: ws) ({ frames := 1, cells := 0, slots := 0, locals := 16 } : Room)) (fun aa U => aa = #[(.ref bs)] ∧ Z.Warmed39 U.vm ∧ U.heap = h0) (fun _ _ _ _ _ => True) (fun _ U o U' => ∃ v L, o = .returned v ∧ Qint (own_card wf UU 0 (0 : Int32)) h0 n0 v U'.heap L ∧ FrameEnd U o U' L (({ frames := 1, cells := 0, slots := 0, locals := 16 } : Room).cells) (({ frames := 1, cells := 0, slots := 0, locals := 16 } : Room).slots)) := by
  refine own_body pf_19 ?_
  intro p e s m below meth c s₁ hx hby hml hown hnm hlk hret hZ X0 e0
  have N0 : Fr n0 [] := Fr.nil n0
  refine own_go (f' := (mkF m 0 #[.val (.ref bs), .unset, .unset] [])) (fun t k => castTop (ef_rm_card m bs) k) ?_
  have J4 : ∀ (k i : Nat) (ac : Int32) (TJ : State) (locsJ : List Loc) (XJ : Stand p l e ({ frames := 1, cells := 0, slots := 0, locals := 16 } : Room) s m #[(.ref bs)] below meth c TJ locsJ 0 0) (eJ : TJ.heap = h0) (NJ : Fr n0 locsJ) (hik : i + k = UU), own_G p.tables e below (own_P s (Qint (own_card wf k i ac) h0 n0) 0 0) TJ (mkF m 4 #[.val (.ref bs), .val (.int ac), .val (.int (Int32.ofNat i))] []) := by
    intro k
    induction k with
    | zero =>
      intro i ac TJ locsJ XJ eJ NJ hik
      have hlt : ¬ (Int32.ofNat i) < (Int32.ofNat UU) := fun hh => by have hh2 := (own_olt (by omega) (by omega)).mp hh; omega
      refine own_iloadN XJ hx (pc' := 5) (hb hby d20_4) rfl rfl ?_
      refine own_aloadN XJ hx (pc' := 6) (hb hby d20_5) rfl rfl rfl ?_
      refine own_getF XJ hx (pc' := 9) hZ hown (host := "") (Or.inl (Wd28 hw)) Via.refl eJ F_u (hb hby d20_6) rfl (fun T1 X1 e1 => ?_)
      refine own_icmpYes X1 hx (pc' := 30) (hb hby d20_9) (flt hlt).2.1 (by decide) (by decide) ?_
      refine own_iloadN X1 hx (pc' := 31) (hb hby d20_30) rfl rfl ?_
      refine own_retI X1 hx hlk hret (hb hby d20_31) (by decide) (by decide) ?_
      exact ⟨rfl, NJ, e1⟩
    | succ k ih =>
      intro i ac TJ locsJ XJ eJ NJ hik
      have hlt : (Int32.ofNat i) < (Int32.ofNat UU) := (own_olt (by omega) (by omega)).mpr (by omega)
      have c1 := own_clamp (n := i) (by omega)
      have hl : i < N := by omega
      show own_G p.tables e below (own_P s (Qint (own_card wf k (i + 1) (ac + own_bc (wf i))) h0 n0) 0 0) TJ (mkF m 4 #[.val (.ref bs), .val (.int ac), .val (.int (Int32.ofNat i))] [])
      refine own_iloadN XJ hx (pc' := 5) (hb hby d20_4) rfl rfl ?_
      refine own_aloadN XJ hx (pc' := 6) (hb hby d20_5) rfl rfl rfl ?_
      refine own_getF XJ hx (pc' := 9) hZ hown (host := "") (Or.inl (Wd28 hw)) Via.refl eJ F_u (hb hby d20_6) rfl (fun T2 X2 e2 => ?_)
      refine own_icmpNo X2 hx (pc' := 12) (hb hby d20_9) (tlt hlt).2.1 rfl ?_
      refine own_iloadN X2 hx (pc' := 13) (hb hby d20_12) rfl rfl ?_
      refine own_aloadN X2 hx (pc' := 14) (hb hby d20_13) rfl rfl rfl ?_
      refine own_getF X2 hx (pc' := 17) hZ hown (host := "") (Or.inl (Wd41 hw)) Via.refl e2 F_w (hb hby d20_14) rfl (fun T3 X3 e3 => ?_)
      refine own_iloadN X3 hx (pc' := 18) (hb hby d20_17) rfl rfl ?_
      obtain ⟨cl4, Ar4, S4, H4⟩ := id V_w
      refine own_laload X3 hx (pc' := 19) hZ (v := (wf i)) e3 Ar4 (own_in S4 c1.1 c1.2 hl) (by rw [c1.2]; exact H4 _ hl) (hb hby d20_18) rfl ?_
      refine own_callS X3 hx (pc' := 22) hZ hown (Wd102 hw) (Wd103 hw) (Wd79 hw) (Wd104 hw) (by decide) (rm_bc l Z a0 hw [] (wf i) h0 n0 Z0) e3 1 (by decide) (by decide) (by decide) (by decide) [(.long (wf i))] [(.int ac)] (by rw [hml]; rfl) (lenOf pd_6 rfl) rfl rfl (Nat.le_of_eq rfl) (hb hby d20_19) rfl (fun v5 T5 L5 X5 hQ5 => ?_)
      obtain ⟨rfl, Nq5, e5⟩ := hQ5
      have N6 := Fr.app NJ Nq5
      show own_G p.tables e below _ T5 (mkF m 22 #[.val (.ref bs), .val (.int ac), .val (.int (Int32.ofNat i))] [(.int (own_bc (wf i))), (.int ac)])
      refine own_iadd X5 hx (pc' := 23) (hb hby d20_22) rfl rfl ?_
      refine own_istoreN X5 hx (pc' := 24) (Ls' := #[.val (.ref bs), .val (.int (ac + (own_bc (wf i)))), .val (.int (Int32.ofNat i))]) (hb hby d20_23) rfl rfl ?_
      refine own_iinc X5 hx (pc' := 27) (Ls' := #[.val (.ref bs), .val (.int (ac + (own_bc (wf i)))), .val (.int ((Int32.ofNat i) + (1 : Int32)))]) (hb hby d20_24) rfl rfl rfl ?_
      refine own_goto X5 hx (pc' := 4) (hb hby d20_27) (by decide) (by decide) ?_
      rw [show ((Int32.ofNat i) + (1 : Int32)) = Int32.ofNat (i + 1) from (Int32.ofNat_add i 1).symm]
      exact ih (i + 1) _ _ _ X5 e5 N6 (by omega)
  refine own_iconst X0 hx (pc' := 1) (0 : Int32) (hb hby d20_0) rfl rfl ?_
  refine own_istoreN X0 hx (pc' := 2) (Ls' := #[.val (.ref bs), .val (.int (0 : Int32)), .unset]) (hb hby d20_1) rfl rfl ?_
  refine own_iconst X0 hx (pc' := 3) (0 : Int32) (hb hby d20_2) rfl rfl ?_
  refine own_istoreN X0 hx (pc' := 4) (Ls' := #[.val (.ref bs), .val (.int (0 : Int32)), .val (.int (0 : Int32))]) (hb hby d20_3) rfl rfl ?_
  exact J4 UU 0 (0 : Int32) _ _ X0 e0 N0 (by omega)

theorem d14_0 : decode jdk_92_method_28_code 0 = .ok (.iload_n 1, 1) := by decide +kernel
theorem d14_1 : decode jdk_92_method_28_code 1 = .ok (.ifCond .ge 30, 3) := by decide +kernel
theorem d14_31 : decode jdk_92_method_28_code 31 = .ok (.aload_n 0, 1) := by decide +kernel
theorem d14_32 : decode jdk_92_method_28_code 32 = .ok (.invokevirtual 56, 3) := by decide +kernel
theorem d14_35 : decode jdk_92_method_28_code 35 = .ok (.iload_n 1, 1) := by decide +kernel
theorem d14_36 : decode jdk_92_method_28_code 36 = .ok (.invokestatic 52, 3) := by decide +kernel
theorem d14_39 : decode jdk_92_method_28_code 39 = .ok (.istore_n 2, 1) := by decide +kernel
theorem d14_40 : decode jdk_92_method_28_code 40 = .ok (.iload_n 2, 1) := by decide +kernel
theorem d14_41 : decode jdk_92_method_28_code 41 = .ok (.aload_n 0, 1) := by decide +kernel
theorem d14_42 : decode jdk_92_method_28_code 42 = .ok (.getfield 7, 3) := by decide +kernel
theorem d14_45 : decode jdk_92_method_28_code 45 = .ok (.if_icmp .lt 5, 3) := by decide +kernel
theorem d14_48 : decode jdk_92_method_28_code 48 = .ok (.iconst (-1), 1) := by decide +kernel
theorem d14_49 : decode jdk_92_method_28_code 49 = .ok (.ireturn, 1) := by decide +kernel
theorem d14_50 : decode jdk_92_method_28_code 50 = .ok (.aload_n 0, 1) := by decide +kernel
theorem d14_51 : decode jdk_92_method_28_code 51 = .ok (.getfield 11, 3) := by decide +kernel
theorem d14_54 : decode jdk_92_method_28_code 54 = .ok (.iload_n 2, 1) := by decide +kernel
theorem d14_55 : decode jdk_92_method_28_code 55 = .ok (.laload, 1) := by decide +kernel
theorem d14_56 : decode jdk_92_method_28_code 56 = .ok (.ldc2_w 165, 3) := by decide +kernel
theorem d14_59 : decode jdk_92_method_28_code 59 = .ok (.iload_n 1, 1) := by decide +kernel
theorem d14_60 : decode jdk_92_method_28_code 60 = .ok (.lshl, 1) := by decide +kernel
theorem d14_61 : decode jdk_92_method_28_code 61 = .ok (.land, 1) := by decide +kernel
theorem d14_62 : decode jdk_92_method_28_code 62 = .ok (.lstore_n 3, 1) := by decide +kernel
theorem d14_63 : decode jdk_92_method_28_code 63 = .ok (.lload_n 3, 1) := by decide +kernel
theorem d14_64 : decode jdk_92_method_28_code 64 = .ok (.lconst 0, 1) := by decide +kernel
theorem d14_65 : decode jdk_92_method_28_code 65 = .ok (.lcmp, 1) := by decide +kernel
theorem d14_66 : decode jdk_92_method_28_code 66 = .ok (.ifCond .eq 13, 3) := by decide +kernel
theorem d14_69 : decode jdk_92_method_28_code 69 = .ok (.iload_n 2, 1) := by decide +kernel
theorem d14_70 : decode jdk_92_method_28_code 70 = .ok (.bipush 64, 2) := by decide +kernel
theorem d14_72 : decode jdk_92_method_28_code 72 = .ok (.imul, 1) := by decide +kernel
theorem d14_73 : decode jdk_92_method_28_code 73 = .ok (.lload_n 3, 1) := by decide +kernel
theorem d14_74 : decode jdk_92_method_28_code 74 = .ok (.invokestatic 182, 3) := by decide +kernel
theorem d14_77 : decode jdk_92_method_28_code 77 = .ok (.iadd, 1) := by decide +kernel
theorem d14_78 : decode jdk_92_method_28_code 78 = .ok (.ireturn, 1) := by decide +kernel
theorem d14_79 : decode jdk_92_method_28_code 79 = .ok (.iinc 2 1, 3) := by decide +kernel
theorem d14_82 : decode jdk_92_method_28_code 82 = .ok (.iload_n 2, 1) := by decide +kernel
theorem d14_83 : decode jdk_92_method_28_code 83 = .ok (.aload_n 0, 1) := by decide +kernel
theorem d14_84 : decode jdk_92_method_28_code 84 = .ok (.getfield 7, 3) := by decide +kernel
theorem d14_87 : decode jdk_92_method_28_code 87 = .ok (.if_icmp .ne 5, 3) := by decide +kernel
theorem d14_90 : decode jdk_92_method_28_code 90 = .ok (.iconst (-1), 1) := by decide +kernel
theorem d14_91 : decode jdk_92_method_28_code 91 = .ok (.ireturn, 1) := by decide +kernel
theorem d14_92 : decode jdk_92_method_28_code 92 = .ok (.aload_n 0, 1) := by decide +kernel
theorem d14_93 : decode jdk_92_method_28_code 93 = .ok (.getfield 11, 3) := by decide +kernel
theorem d14_96 : decode jdk_92_method_28_code 96 = .ok (.iload_n 2, 1) := by decide +kernel
theorem d14_97 : decode jdk_92_method_28_code 97 = .ok (.laload, 1) := by decide +kernel
theorem d14_98 : decode jdk_92_method_28_code 98 = .ok (.lstore_n 3, 1) := by decide +kernel
theorem d14_99 : decode jdk_92_method_28_code 99 = .ok (.goto (-36), 3) := by decide +kernel
theorem ef_rm_nsb (m : MethodId) (x0 : Addr) (x1 : Int32) : entryFrame m #[(.ref x0), (.int x1)] 5 = mkF m 0 #[.val (.ref x0), .val (.int x1), .unset, .unset, .unset] [] := by first | (simp [entryFrame, mkF, argsToLocals, Value.category, maxLocals]; done) | rfl
theorem pf_20 : plainFor (⟨"java/util/BitSet", "nextSetBit", "(I)I"⟩ : MethodName) = true := by apply plainFor_of_name; first | (simp [plainName, overriddenIn]; done) | decide +kernel
theorem Wd80 {a0 : Array Value} {Z : State} (hw : ∀ d ∈ tables_1, d.before a0 Z = true) : (Jvm.Cond.code ({ cls := "java/lang/Long", name := "numberOfTrailingZeros", desc := "(J)I" } : Jvm.MethodName) jdk_35_method_49_code (3 : Nat) (Option.some Jvm.ClassFile.FieldType.int)).before a0 Z = true := hw _ (List.mem_of_getElem? (i := 80) rfl)
theorem Wd77 {a0 : Array Value} {Z : State} (hw : ∀ d ∈ tables_1, d.before a0 Z = true) : (Jvm.Cond.methodLink "java/util/BitSet" (182 : Nat) ({ cls := "java/lang/Long", name := "numberOfTrailingZeros", desc := "(J)I" } : Jvm.MethodName)).before a0 Z = true := hw _ (List.mem_of_getElem? (i := 77) rfl)
theorem Wd78 {a0 : Array Value} {Z : State} (hw : ∀ d ∈ tables_1, d.before a0 Z = true) : (Jvm.Cond.static ({ cls := "java/lang/Long", name := "numberOfTrailingZeros", desc := "(J)I" } : Jvm.MethodName)).before a0 Z = true := hw _ (List.mem_of_getElem? (i := 78) rfl)
set_option maxRecDepth 65536 in
set_option maxHeartbeats 40000000 in
theorem rm_nsb (l : Launch) (Z : State) (a0 : Array Value) (hw : ∀ d ∈ tables_1, d.before a0 Z = true) (ws : List Jvm.Cond) (bs wa : Addr) (UU N : Nat) (wf : Nat → Int64) (h0 : Heap) (n0 : Nat) (Z0 : n0 ≤ h0.size) (hU : 0 < UU) (hUN : UU ≤ N) (hN : N < 100000) (E_b : Exa Z h0 bs "java/util/BitSet") (F_w : Fld Z h0 bs "java/util/BitSet" "words" "[J" (.ref wa)) (F_u : Fld Z h0 bs "java/util/BitSet" "wordsInUse" "I" (.int (Int32.ofNat UU))) (V_w : own_Ar Z h0 wa .long N (fun ii => .long (wf ii))) (B_ad : own_AD n0 Z h0) :
    MetFree l (⟨"java/util/BitSet", "nextSetBit", "(I)I"⟩ : MethodName) (head1 (Jvm.Cond.code (⟨"java/util/BitSet", "nextSetBit", "(I)I"⟩ : MethodName) jdk_92_method_28_code 5 (some .int) :: ws) ({ frames := 2, cells := 0, slots := 0, locals := 32 } : Room)) (fun aa U => aa = #[(.ref bs), (.int (0 : Int32))] ∧ Z.Warmed39 U.vm ∧ U.heap = h0) (fun _ _ _ _ _ => True) (fun _ U o U' => ∃ v L, o = .returned v ∧ Qint (own_nsb wf UU) h0 n0 v U'.heap L ∧ FrameEnd U o U' L (({ frames := 2, cells := 0, slots := 0, locals := 32 } : Room).cells) (({ frames := 2, cells := 0, slots := 0, locals := 32 } : Room).slots)) := by
  refine own_body pf_20 ?_
  intro p e s m below meth c s₁ hx hby hml hown hnm hlk hret hZ X0 e0
  have N0 : Fr n0 [] := Fr.nil n0
  refine own_go (f' := (mkF m 0 #[.val (.ref bs), .val (.int (0 : Int32)), .unset, .unset, .unset] [])) (fun t k => castTop (ef_rm_nsb m bs (0 : Int32)) k) ?_
  have J63 : ∀ (k i : Nat) (bits : Int64) (TJ : State) (locsJ : List Loc) (XJ : Stand p l e ({ frames := 2, cells := 0, slots := 0, locals := 32 } : Room) s m #[(.ref bs), (.int (0 : Int32))] below meth c TJ locsJ 0 0) (eJ : TJ.heap = h0) (NJ : Fr n0 locsJ) (hik : i + k + 1 = UU), own_G p.tables e below (own_P s (Qint (own_scanB wf k i bits) h0 n0) 0 0) TJ (mkF m 63 #[.val (.ref bs), .val (.int (0 : Int32)), .val (.int (Int32.ofNat i)), .val (.long bits), .second] []) := by
    intro k
    induction k with
    | zero =>
      intro i bits TJ locsJ XJ eJ NJ hik
      by_cases hb0 : bits = (0 : Int64)
      · skip
        have hsc : own_scanB wf 0 i bits = (-1 : Int32) := by rw [own_scanB, if_pos hb0]
        rw [hsc]
        have hni : (Int32.ofNat (i + 1)) = (Int32.ofNat UU) := congrArg Int32.ofNat (by omega)
        refine own_lloadN XJ hx (pc' := 64) (hb hby d14_63) rfl rfl ?_
        refine own_lconst XJ hx (pc' := 65) (0 : Int64) (hb hby d14_64) rfl rfl ?_
        refine own_lcmp XJ hx (pc' := 66) (hb hby d14_65) rfl ?_
        refine own_ifYes XJ hx (pc' := 79) (hb hby d14_66) (teq ((lw_eq bits (0 : Int64)).mpr hb0)).1 (by decide) (by decide) ?_
        refine own_iinc XJ hx (pc' := 82) (Ls' := #[.val (.ref bs), .val (.int (0 : Int32)), .val (.int ((Int32.ofNat i) + (1 : Int32))), .val (.long bits), .second]) (hb hby d14_79) rfl rfl rfl ?_
        rw [show ((Int32.ofNat i) + (1 : Int32)) = Int32.ofNat (i + 1) from (Int32.ofNat_add i 1).symm]
        refine own_iloadN XJ hx (pc' := 83) (hb hby d14_82) rfl rfl ?_
        refine own_aloadN XJ hx (pc' := 84) (hb hby d14_83) rfl rfl rfl ?_
        refine own_getF XJ hx (pc' := 87) hZ hown (host := "") (Or.inl (Wd28 hw)) Via.refl eJ F_u (hb hby d14_84) rfl (fun T1 X1 e1 => ?_)
        refine own_icmpNo X1 hx (pc' := 90) (hb hby d14_87) (teq hni).2 rfl ?_
        refine own_iconst X1 hx (pc' := 91) (-1 : Int32) (hb hby d14_90) rfl rfl ?_
        refine own_retI X1 hx hlk hret (hb hby d14_91) (by decide) (by decide) ?_
        exact ⟨rfl, NJ, e1⟩
      · skip
        have hsc : own_scanB wf 0 i bits = own_hitB i bits := by rw [own_scanB, if_neg hb0]
        rw [hsc]
        refine own_lloadN XJ hx (pc' := 64) (hb hby d14_63) rfl rfl ?_
        refine own_lconst XJ hx (pc' := 65) (0 : Int64) (hb hby d14_64) rfl rfl ?_
        refine own_lcmp XJ hx (pc' := 66) (hb hby d14_65) rfl ?_
        refine own_ifNo XJ hx (pc' := 69) (hb hby d14_66) (feq (fun q => hb0 ((lw_eq bits (0 : Int64)).mp q))).1 rfl ?_
        refine own_iloadN XJ hx (pc' := 70) (hb hby d14_69) rfl rfl ?_
        refine own_bipush XJ hx (pc' := 72) (64 : Int32) (hb hby d14_70) rfl rfl ?_
        refine own_imul XJ hx (pc' := 73) (hb hby d14_72) rfl rfl ?_
        refine own_lloadN XJ hx (pc' := 74) (hb hby d14_73) rfl rfl ?_
        refine own_callS XJ hx (pc' := 77) hZ hown (Wd77 hw) (Wd78 hw) (Wd79 hw) (Wd80 hw) (by decide) (rm_nL l Z a0 hw [] bits h0 n0 Z0) eJ 1 (by decide) (by decide) (by decide) (by decide) [(.long bits)] [(.int ((Int32.ofNat i) * (64 : Int32)))] (by rw [hml]; rfl) (lenOf pd_6 rfl) rfl rfl (Nat.le_of_eq rfl) (hb hby d14_74) rfl (fun v2 T2 L2 X2 hQ2 => ?_)
        obtain ⟨rfl, Nq2, e2⟩ := hQ2
        have N3 := Fr.app NJ Nq2
        show own_G p.tables e below _ T2 (mkF m 77 #[.val (.ref bs), .val (.int (0 : Int32)), .val (.int (Int32.ofNat i)), .val (.long bits), .second] [(.int (own_nL bits)), (.int ((Int32.ofNat i) * (64 : Int32)))])
        refine own_iadd X2 hx (pc' := 78) (hb hby d14_77) rfl rfl ?_
        refine own_retI X2 hx hlk hret (hb hby d14_78) (by decide) (by decide) ?_
        exact ⟨rfl, N3, e2⟩
    | succ k ih =>
      intro i bits TJ locsJ XJ eJ NJ hik
      by_cases hb0 : bits = (0 : Int64)
      · skip
        have hsc : own_scanB wf (k + 1) i bits = own_scanB wf k (i + 1) (wf (i + 1)) := by rw [own_scanB, if_pos hb0]
        rw [hsc]
        have hni : ¬ (Int32.ofNat (i + 1)) = (Int32.ofNat UU) := fun hh => by have hh2 := (own_oeq (by omega) (by omega)).mp hh; omega
        have hcl := own_clamp (n := i + 1) (by omega)
        have hil : i + 1 < N := by omega
        refine own_lloadN XJ hx (pc' := 64) (hb hby d14_63) rfl rfl ?_
        refine own_lconst XJ hx (pc' := 65) (0 : Int64) (hb hby d14_64) rfl rfl ?_
        refine own_lcmp XJ hx (pc' := 66) (hb hby d14_65) rfl ?_
        refine own_ifYes XJ hx (pc' := 79) (hb hby d14_66) (teq ((lw_eq bits (0 : Int64)).mpr hb0)).1 (by decide) (by decide) ?_
        refine own_iinc XJ hx (pc' := 82) (Ls' := #[.val (.ref bs), .val (.int (0 : Int32)), .val (.int ((Int32.ofNat i) + (1 : Int32))), .val (.long bits), .second]) (hb hby d14_79) rfl rfl rfl ?_
        rw [show ((Int32.ofNat i) + (1 : Int32)) = Int32.ofNat (i + 1) from (Int32.ofNat_add i 1).symm]
        refine own_iloadN XJ hx (pc' := 83) (hb hby d14_82) rfl rfl ?_
        refine own_aloadN XJ hx (pc' := 84) (hb hby d14_83) rfl rfl rfl ?_
        refine own_getF XJ hx (pc' := 87) hZ hown (host := "") (Or.inl (Wd28 hw)) Via.refl eJ F_u (hb hby d14_84) rfl (fun T4 X4 e4 => ?_)
        refine own_icmpYes X4 hx (pc' := 92) (hb hby d14_87) (feq hni).2 (by decide) (by decide) ?_
        refine own_aloadN X4 hx (pc' := 93) (hb hby d14_92) rfl rfl rfl ?_
        refine own_getF X4 hx (pc' := 96) hZ hown (host := "") (Or.inl (Wd41 hw)) Via.refl e4 F_w (hb hby d14_93) rfl (fun T5 X5 e5 => ?_)
        refine own_iloadN X5 hx (pc' := 97) (hb hby d14_96) rfl rfl ?_
        obtain ⟨cl6, Ar6, S6, H6⟩ := id V_w
        refine own_laload X5 hx (pc' := 98) hZ (v := (wf (i + 1))) e5 Ar6 (own_in S6 hcl.1 hcl.2 hil) (by rw [hcl.2]; exact H6 _ hil) (hb hby d14_97) rfl ?_
        refine own_lstoreN X5 hx (pc' := 99) (Ls' := #[.val (.ref bs), .val (.int (0 : Int32)), .val (.int (Int32.ofNat (i + 1))), .val (.long (wf (i + 1))), .second]) (hb hby d14_98) rfl rfl ?_
        refine own_goto X5 hx (pc' := 63) (hb hby d14_99) (by decide) (by decide) ?_
        exact ih (i + 1) _ _ _ X5 e5 NJ (by omega)
      · skip
        have hsc : own_scanB wf (k + 1) i bits = own_hitB i bits := by rw [own_scanB, if_neg hb0]
        rw [hsc]
        refine own_lloadN XJ hx (pc' := 64) (hb hby d14_63) rfl rfl ?_
        refine own_lconst XJ hx (pc' := 65) (0 : Int64) (hb hby d14_64) rfl rfl ?_
        refine own_lcmp XJ hx (pc' := 66) (hb hby d14_65) rfl ?_
        refine own_ifNo XJ hx (pc' := 69) (hb hby d14_66) (feq (fun q => hb0 ((lw_eq bits (0 : Int64)).mp q))).1 rfl ?_
        refine own_iloadN XJ hx (pc' := 70) (hb hby d14_69) rfl rfl ?_
        refine own_bipush XJ hx (pc' := 72) (64 : Int32) (hb hby d14_70) rfl rfl ?_
        refine own_imul XJ hx (pc' := 73) (hb hby d14_72) rfl rfl ?_
        refine own_lloadN XJ hx (pc' := 74) (hb hby d14_73) rfl rfl ?_
        refine own_callS XJ hx (pc' := 77) hZ hown (Wd77 hw) (Wd78 hw) (Wd79 hw) (Wd80 hw) (by decide) (rm_nL l Z a0 hw [] bits h0 n0 Z0) eJ 1 (by decide) (by decide) (by decide) (by decide) [(.long bits)] [(.int ((Int32.ofNat i) * (64 : Int32)))] (by rw [hml]; rfl) (lenOf pd_6 rfl) rfl rfl (Nat.le_of_eq rfl) (hb hby d14_74) rfl (fun v7 T7 L7 X7 hQ7 => ?_)
        obtain ⟨rfl, Nq7, e7⟩ := hQ7
        have N8 := Fr.app NJ Nq7
        show own_G p.tables e below _ T7 (mkF m 77 #[.val (.ref bs), .val (.int (0 : Int32)), .val (.int (Int32.ofNat i)), .val (.long bits), .second] [(.int (own_nL bits)), (.int ((Int32.ofNat i) * (64 : Int32)))])
        refine own_iadd X7 hx (pc' := 78) (hb hby d14_77) rfl rfl ?_
        refine own_retI X7 hx hlk hret (hb hby d14_78) (by decide) (by decide) ?_
        exact ⟨rfl, N8, e7⟩
  have h0UU : (0 : Int32) < (Int32.ofNat UU) := (own_olt (a := 0) (b := UU) (by omega) (by omega)).mpr hU
  have hl0 : 0 < N := by omega
  refine own_iloadN X0 hx (pc' := 1) (hb hby d14_0) rfl rfl ?_
  refine own_ifYes X0 hx (pc' := 31) (hb hby d14_1) (flt (by decide : ¬ ((0 : Int32) < (0 : Int32)))).2.1 (by decide) (by decide) ?_
  refine own_aloadN X0 hx (pc' := 32) (hb hby d14_31) rfl rfl rfl ?_
  refine own_callP X0 hx (pc' := 35) hZ hown (Wd66 hw) (Wd67 hw) (Wd68 hw) (Wd70 hw) (Wd21 hw) (Wd20 hw) (by decide) (rm_ci l Z a0 hw [] bs h0 n0 Z0 B_ad) e0 E_b 0 (by decide) (by decide) (by decide) (by decide) [] [] (by rw [hml]; rfl) (lenOf pd_5 rfl) rfl rfl (Nat.le_of_eq rfl) (hb hby d14_32) rfl (fun v9 T9 L9 X9 hQ9 => ?_)
  obtain ⟨rfl, Nq9, e9⟩ := hQ9
  have N10 := Fr.app N0 Nq9
  show own_G p.tables e below _ T9 (mkF m 35 #[.val (.ref bs), .val (.int (0 : Int32)), .unset, .unset, .unset] [])
  refine own_iloadN X9 hx (pc' := 36) (hb hby d14_35) rfl rfl ?_
  refine own_callS X9 hx (pc' := 39) hZ hown (Wd37 hw) (Wd38 hw) (Wd21 hw) (Wd39 hw) (by decide) (rm_wi l Z a0 hw [] (0 : Int32) h0 n0 Z0) e9 0 (by decide) (by decide) (by decide) (by decide) [(.int (0 : Int32))] [] (by rw [hml]; rfl) (lenOf pd_0 rfl) rfl rfl (Nat.le_of_eq rfl) (hb hby d14_36) rfl (fun v11 T11 L11 X11 hQ11 => ?_)
  obtain ⟨rfl, Nq11, e11⟩ := hQ11
  have N12 := Fr.app N10 Nq11
  show own_G p.tables e below _ T11 (mkF m 39 #[.val (.ref bs), .val (.int (0 : Int32)), .unset, .unset, .unset] [(.int (own_wi (0 : Int32)))])
  rw [show own_wi (0 : Int32) = (0 : Int32) from by decide]
  refine own_istoreN X11 hx (pc' := 40) (Ls' := #[.val (.ref bs), .val (.int (0 : Int32)), .val (.int (0 : Int32)), .unset, .unset]) (hb hby d14_39) rfl rfl ?_
  refine own_iloadN X11 hx (pc' := 41) (hb hby d14_40) rfl rfl ?_
  refine own_aloadN X11 hx (pc' := 42) (hb hby d14_41) rfl rfl rfl ?_
  refine own_getF X11 hx (pc' := 45) hZ hown (host := "") (Or.inl (Wd28 hw)) Via.refl e11 F_u (hb hby d14_42) rfl (fun T13 X13 e13 => ?_)
  refine own_icmpYes X13 hx (pc' := 50) (hb hby d14_45) (tlt h0UU).1 (by decide) (by decide) ?_
  refine own_aloadN X13 hx (pc' := 51) (hb hby d14_50) rfl rfl rfl ?_
  refine own_getF X13 hx (pc' := 54) hZ hown (host := "") (Or.inl (Wd41 hw)) Via.refl e13 F_w (hb hby d14_51) rfl (fun T14 X14 e14 => ?_)
  refine own_iloadN X14 hx (pc' := 55) (hb hby d14_54) rfl rfl ?_
  obtain ⟨cl15, Ar15, S15, H15⟩ := id V_w
  refine own_laload X14 hx (pc' := 56) hZ (v := (wf 0)) e14 Ar15 (own_in S15 (show ¬ (0 : Int32) < 0 from by decide) (show (0 : Int32).toNatClampNeg = 0 from by decide) hl0) (by rw [(show (0 : Int32).toNatClampNeg = 0 from by decide)]; exact H15 _ hl0) (hb hby d14_55) rfl ?_
  refine own_ldc2J X14 hx (pc' := 59) hZ hown (Wd65 hw) (hb hby d14_56) rfl ?_
  refine own_iloadN X14 hx (pc' := 60) (hb hby d14_59) rfl rfl ?_
  refine own_lshl X14 hx (pc' := 61) (hb hby d14_60) rfl ?_
  refine own_land X14 hx (pc' := 62) (hb hby d14_61) rfl rfl ?_
  refine own_lstoreN X14 hx (pc' := 63) (Ls' := #[.val (.ref bs), .val (.int (0 : Int32)), .val (.int (0 : Int32)), .val (.long ((wf 0) &&& ((-1 : Int64) <<< ((0 : Int32) &&& 0x3f).toInt64))), .second]) (hb hby d14_62) rfl rfl ?_
  exact J63 (UU - 1) 0 _ _ _ X14 e14 N12 (by omega)

theorem Wd6 {a0 : Array Value} {Z : State} (hw : ∀ d ∈ tables_1, d.before a0 Z = true) : (Jvm.Cond.initialized "com/example/rhadamanthus/rhadamanthus/model/CronField").before a0 Z = true := hw _ (List.mem_of_getElem? (i := 6) rfl)
theorem Wd7 {a0 : Array Value} {Z : State} (hw : ∀ d ∈ tables_1, d.before a0 Z = true) : (Jvm.Cond.laysStatic "com/example/rhadamanthus/rhadamanthus/model/CronField" "SECOND" "Lcom/example/rhadamanthus/rhadamanthus/model/CronField;").before a0 Z = true := hw _ (List.mem_of_getElem? (i := 7) rfl)
theorem Wd114 {a0 : Array Value} {Z : State} (hw : ∀ d ∈ tables_1, d.before a0 Z = true) : (Jvm.Cond.laysStatic "com/example/rhadamanthus/rhadamanthus/model/CronField" "DAY_OF_MONTH" "Lcom/example/rhadamanthus/rhadamanthus/model/CronField;").before a0 Z = true := hw _ (List.mem_of_getElem? (i := 114) rfl)
theorem Wd116 {a0 : Array Value} {Z : State} (hw : ∀ d ∈ tables_1, d.before a0 Z = true) : (Jvm.Cond.laysStatic "com/example/rhadamanthus/rhadamanthus/model/CronField" "MINUTE" "Lcom/example/rhadamanthus/rhadamanthus/model/CronField;").before a0 Z = true := hw _ (List.mem_of_getElem? (i := 116) rfl)
theorem Wd118 {a0 : Array Value} {Z : State} (hw : ∀ d ∈ tables_1, d.before a0 Z = true) : (Jvm.Cond.laysStatic "com/example/rhadamanthus/rhadamanthus/model/CronField" "MONTH" "Lcom/example/rhadamanthus/rhadamanthus/model/CronField;").before a0 Z = true := hw _ (List.mem_of_getElem? (i := 118) rfl)
theorem Wd120 {a0 : Array Value} {Z : State} (hw : ∀ d ∈ tables_1, d.before a0 Z = true) : (Jvm.Cond.laysStatic "com/example/rhadamanthus/rhadamanthus/model/CronField" "YEAR" "Lcom/example/rhadamanthus/rhadamanthus/model/CronField;").before a0 Z = true := hw _ (List.mem_of_getElem? (i := 120) rfl)
theorem Wd137 {a0 : Array Value} {Z : State} (hw : ∀ d ∈ tables_1, d.before a0 Z = true) : (Jvm.Cond.laysStatic "com/example/rhadamanthus/rhadamanthus/model/CronField" "DAY_OF_WEEK" "Lcom/example/rhadamanthus/rhadamanthus/model/CronField;").before a0 Z = true := hw _ (List.mem_of_getElem? (i := 137) rfl)
theorem Wd139 {a0 : Array Value} {Z : State} (hw : ∀ d ∈ tables_1, d.before a0 Z = true) : (Jvm.Cond.laysStatic "com/example/rhadamanthus/rhadamanthus/model/CronField" "HOUR" "Lcom/example/rhadamanthus/rhadamanthus/model/CronField;").before a0 Z = true := hw _ (List.mem_of_getElem? (i := 139) rfl)
def own_field (k : Int32) (r_SECOND r_MINUTE r_HOUR r_DAY_OF_MONTH r_MONTH r_DAY_OF_WEEK r_YEAR : Addr) : Addr := if k = (0 : Int32) then r_SECOND else if k = (1 : Int32) then r_MINUTE else if k = (2 : Int32) then r_HOUR else if k = (3 : Int32) then r_DAY_OF_MONTH else if k = (4 : Int32) then r_MONTH else if k = (5 : Int32) then r_DAY_OF_WEEK else r_YEAR
def own_lowk (k : Int32) : Int32 := if (2 : Int32) < k then (if (5 : Int32) < k then (1970 : Int32) else (1 : Int32)) else (0 : Int32)
def own_highk (k : Int32) : Int32 := if (1 : Int32) < k then (if k = (2 : Int32) then (23 : Int32) else if k = (3 : Int32) then (31 : Int32) else if k = (4 : Int32) then (12 : Int32) else if k = (5 : Int32) then (7 : Int32) else (2099 : Int32)) else (59 : Int32)
theorem d1_0 : decode method_2_code 0 = .ok (.iload_n 0, 1) := by decide +kernel
theorem d1_1 : decode method_2_code 1 = .ok (.ifCond .ne 7, 3) := by decide +kernel
theorem d1_4 : decode method_2_code 4 = .ok (.getstatic 7, 3) := by decide +kernel
theorem d1_7 : decode method_2_code 7 = .ok (.areturn, 1) := by decide +kernel
theorem d1_8 : decode method_2_code 8 = .ok (.iload_n 0, 1) := by decide +kernel
theorem d1_9 : decode method_2_code 9 = .ok (.iconst 1, 1) := by decide +kernel
theorem d1_10 : decode method_2_code 10 = .ok (.if_icmp .ne 7, 3) := by decide +kernel
theorem d1_13 : decode method_2_code 13 = .ok (.getstatic 13, 3) := by decide +kernel
theorem d1_16 : decode method_2_code 16 = .ok (.areturn, 1) := by decide +kernel
theorem d1_17 : decode method_2_code 17 = .ok (.iload_n 0, 1) := by decide +kernel
theorem d1_18 : decode method_2_code 18 = .ok (.iconst 2, 1) := by decide +kernel
theorem d1_19 : decode method_2_code 19 = .ok (.if_icmp .ne 7, 3) := by decide +kernel
theorem d1_22 : decode method_2_code 22 = .ok (.getstatic 16, 3) := by decide +kernel
theorem d1_25 : decode method_2_code 25 = .ok (.areturn, 1) := by decide +kernel
theorem d1_26 : decode method_2_code 26 = .ok (.iload_n 0, 1) := by decide +kernel
theorem d1_27 : decode method_2_code 27 = .ok (.iconst 3, 1) := by decide +kernel
theorem d1_28 : decode method_2_code 28 = .ok (.if_icmp .ne 7, 3) := by decide +kernel
theorem d1_31 : decode method_2_code 31 = .ok (.getstatic 19, 3) := by decide +kernel
theorem d1_34 : decode method_2_code 34 = .ok (.areturn, 1) := by decide +kernel
theorem d1_35 : decode method_2_code 35 = .ok (.iload_n 0, 1) := by decide +kernel
theorem d1_36 : decode method_2_code 36 = .ok (.iconst 4, 1) := by decide +kernel
theorem d1_37 : decode method_2_code 37 = .ok (.if_icmp .ne 7, 3) := by decide +kernel
theorem d1_40 : decode method_2_code 40 = .ok (.getstatic 22, 3) := by decide +kernel
theorem d1_43 : decode method_2_code 43 = .ok (.areturn, 1) := by decide +kernel
theorem d1_44 : decode method_2_code 44 = .ok (.iload_n 0, 1) := by decide +kernel
theorem d1_45 : decode method_2_code 45 = .ok (.iconst 5, 1) := by decide +kernel
theorem d1_46 : decode method_2_code 46 = .ok (.if_icmp .ne 7, 3) := by decide +kernel
theorem d1_49 : decode method_2_code 49 = .ok (.getstatic 25, 3) := by decide +kernel
theorem d1_52 : decode method_2_code 52 = .ok (.areturn, 1) := by decide +kernel
theorem d1_53 : decode method_2_code 53 = .ok (.getstatic 28, 3) := by decide +kernel
theorem d1_56 : decode method_2_code 56 = .ok (.areturn, 1) := by decide +kernel
def Qfield (k : Int32) (r_SECOND r_MINUTE r_HOUR r_DAY_OF_MONTH r_MONTH r_DAY_OF_WEEK r_YEAR : Addr) (h0 : Heap) (n0 : Nat) (v : Option Value) (h : Heap) (L : List Loc) : Prop := v = some (.ref (own_field k r_SECOND r_MINUTE r_HOUR r_DAY_OF_MONTH r_MONTH r_DAY_OF_WEEK r_YEAR)) ∧ Fr n0 L ∧ h = h0
theorem ef_rm_field (m : MethodId) (x0 : Int32) : entryFrame m #[(.int x0)] 1 = mkF m 0 #[.val (.int x0)] [] := by first | (simp [entryFrame, mkF, argsToLocals, Value.category, maxLocals]; done) | rfl
theorem pf_21 : plainFor (⟨"com/example/rhadamanthus/rhadamanthus/model/CronFieldAllPinLaw", "field", "(I)Lcom/example/rhadamanthus/rhadamanthus/model/CronField;"⟩ : MethodName) = true := by apply plainFor_of_name; first | (simp [plainName, overriddenIn]; done) | decide +kernel
theorem Wd5 {a0 : Array Value} {Z : State} (hw : ∀ d ∈ tables_1, d.before a0 Z = true) : (Jvm.Cond.fieldLink "com/example/rhadamanthus/rhadamanthus/model/CronFieldAllPinLaw" (7 : Nat) "com/example/rhadamanthus/rhadamanthus/model/CronField" "SECOND" "Lcom/example/rhadamanthus/rhadamanthus/model/CronField;").before a0 Z = true := hw _ (List.mem_of_getElem? (i := 5) rfl)
theorem Wd115 {a0 : Array Value} {Z : State} (hw : ∀ d ∈ tables_1, d.before a0 Z = true) : (Jvm.Cond.fieldLink "com/example/rhadamanthus/rhadamanthus/model/CronFieldAllPinLaw" (13 : Nat) "com/example/rhadamanthus/rhadamanthus/model/CronField" "MINUTE" "Lcom/example/rhadamanthus/rhadamanthus/model/CronField;").before a0 Z = true := hw _ (List.mem_of_getElem? (i := 115) rfl)
theorem Wd138 {a0 : Array Value} {Z : State} (hw : ∀ d ∈ tables_1, d.before a0 Z = true) : (Jvm.Cond.fieldLink "com/example/rhadamanthus/rhadamanthus/model/CronFieldAllPinLaw" (16 : Nat) "com/example/rhadamanthus/rhadamanthus/model/CronField" "HOUR" "Lcom/example/rhadamanthus/rhadamanthus/model/CronField;").before a0 Z = true := hw _ (List.mem_of_getElem? (i := 138) rfl)
theorem Wd113 {a0 : Array Value} {Z : State} (hw : ∀ d ∈ tables_1, d.before a0 Z = true) : (Jvm.Cond.fieldLink "com/example/rhadamanthus/rhadamanthus/model/CronFieldAllPinLaw" (19 : Nat) "com/example/rhadamanthus/rhadamanthus/model/CronField" "DAY_OF_MONTH" "Lcom/example/rhadamanthus/rhadamanthus/model/CronField;").before a0 Z = true := hw _ (List.mem_of_getElem? (i := 113) rfl)
theorem Wd117 {a0 : Array Value} {Z : State} (hw : ∀ d ∈ tables_1, d.before a0 Z = true) : (Jvm.Cond.fieldLink "com/example/rhadamanthus/rhadamanthus/model/CronFieldAllPinLaw" (22 : Nat) "com/example/rhadamanthus/rhadamanthus/model/CronField" "MONTH" "Lcom/example/rhadamanthus/rhadamanthus/model/CronField;").before a0 Z = true := hw _ (List.mem_of_getElem? (i := 117) rfl)
theorem Wd136 {a0 : Array Value} {Z : State} (hw : ∀ d ∈ tables_1, d.before a0 Z = true) : (Jvm.Cond.fieldLink "com/example/rhadamanthus/rhadamanthus/model/CronFieldAllPinLaw" (25 : Nat) "com/example/rhadamanthus/rhadamanthus/model/CronField" "DAY_OF_WEEK" "Lcom/example/rhadamanthus/rhadamanthus/model/CronField;").before a0 Z = true := hw _ (List.mem_of_getElem? (i := 136) rfl)
theorem Wd119 {a0 : Array Value} {Z : State} (hw : ∀ d ∈ tables_1, d.before a0 Z = true) : (Jvm.Cond.fieldLink "com/example/rhadamanthus/rhadamanthus/model/CronFieldAllPinLaw" (28 : Nat) "com/example/rhadamanthus/rhadamanthus/model/CronField" "YEAR" "Lcom/example/rhadamanthus/rhadamanthus/model/CronField;").before a0 Z = true := hw _ (List.mem_of_getElem? (i := 119) rfl)
set_option maxRecDepth 65536 in
set_option maxHeartbeats 40000000 in
theorem rm_field (l : Launch) (Z : State) (a0 : Array Value) (hw : ∀ d ∈ tables_1, d.before a0 Z = true) (ws : List Jvm.Cond) (q0 : Int32) (r_SECOND r_MINUTE r_HOUR r_DAY_OF_MONTH r_MONTH r_DAY_OF_WEEK r_YEAR : Addr) (h0 : Heap) (n0 : Nat) (Z0 : n0 ≤ h0.size) (S_r_SECOND : Sta Z h0 "com/example/rhadamanthus/rhadamanthus/model/CronField" "SECOND" "Lcom/example/rhadamanthus/rhadamanthus/model/CronField;" (.ref r_SECOND)) (S_r_DAY_OF_MONTH : Sta Z h0 "com/example/rhadamanthus/rhadamanthus/model/CronField" "DAY_OF_MONTH" "Lcom/example/rhadamanthus/rhadamanthus/model/CronField;" (.ref r_DAY_OF_MONTH)) (S_r_MINUTE : Sta Z h0 "com/example/rhadamanthus/rhadamanthus/model/CronField" "MINUTE" "Lcom/example/rhadamanthus/rhadamanthus/model/CronField;" (.ref r_MINUTE)) (S_r_MONTH : Sta Z h0 "com/example/rhadamanthus/rhadamanthus/model/CronField" "MONTH" "Lcom/example/rhadamanthus/rhadamanthus/model/CronField;" (.ref r_MONTH)) (S_r_YEAR : Sta Z h0 "com/example/rhadamanthus/rhadamanthus/model/CronField" "YEAR" "Lcom/example/rhadamanthus/rhadamanthus/model/CronField;" (.ref r_YEAR)) (S_r_DAY_OF_WEEK : Sta Z h0 "com/example/rhadamanthus/rhadamanthus/model/CronField" "DAY_OF_WEEK" "Lcom/example/rhadamanthus/rhadamanthus/model/CronField;" (.ref r_DAY_OF_WEEK)) (S_r_HOUR : Sta Z h0 "com/example/rhadamanthus/rhadamanthus/model/CronField" "HOUR" "Lcom/example/rhadamanthus/rhadamanthus/model/CronField;" (.ref r_HOUR)) :
    MetFree l (⟨"com/example/rhadamanthus/rhadamanthus/model/CronFieldAllPinLaw", "field", "(I)Lcom/example/rhadamanthus/rhadamanthus/model/CronField;"⟩ : MethodName) (head1 (Jvm.Cond.code (⟨"com/example/rhadamanthus/rhadamanthus/model/CronFieldAllPinLaw", "field", "(I)Lcom/example/rhadamanthus/rhadamanthus/model/CronField;"⟩ : MethodName) method_2_code 1 (some (.object "com/example/rhadamanthus/rhadamanthus/model/CronField")) :: ws) ({ frames := 0, cells := 0, slots := 0, locals := 0 } : Room)) (fun aa U => aa = #[(.int q0)] ∧ Z.Warmed39 U.vm ∧ U.heap = h0) (fun _ _ _ _ _ => True) (fun _ U o U' => ∃ v L, o = .returned v ∧ Qfield q0 r_SECOND r_MINUTE r_HOUR r_DAY_OF_MONTH r_MONTH r_DAY_OF_WEEK r_YEAR h0 n0 v U'.heap L ∧ FrameEnd U o U' L (({ frames := 0, cells := 0, slots := 0, locals := 0 } : Room).cells) (({ frames := 0, cells := 0, slots := 0, locals := 0 } : Room).slots)) := by
  refine own_body pf_21 ?_
  intro p e s m below meth c s₁ hx hby hml hown hnm hlk hret hZ X0 e0
  have N0 : Fr n0 [] := Fr.nil n0
  refine own_go (f' := (mkF m 0 #[.val (.int q0)] [])) (fun t k => castTop (ef_rm_field m q0) k) ?_
  refine own_iloadN X0 hx (pc' := 1) (hb hby d1_0) rfl rfl ?_
  by_cases hc1_1 : q0 = (0 : Int32)
  · skip
    refine own_ifNo X0 hx (pc' := 4) (hb hby d1_1) (teq hc1_1).2 rfl ?_
    refine own_getS X0 hx (pc' := 7) hZ hown (host := "") (Or.inl (Wd5 hw)) Via.refl e0 S_r_SECOND (hb hby d1_4) rfl (fun T2 X2 e2 => ?_)
    refine own_retA X2 hx hlk hret rfl rfl rfl (hb hby d1_7) (by decide) (by decide) ?_
    exact ⟨by first | (simp only [own_field, hc1_1, if_true, if_false]; done) | simp [own_field, hc1_1], N0, e2⟩
  · skip
    refine own_ifYes X0 hx (pc' := 8) (hb hby d1_1) (feq hc1_1).2 (by decide) (by decide) ?_
    refine own_iloadN X0 hx (pc' := 9) (hb hby d1_8) rfl rfl ?_
    refine own_iconst X0 hx (pc' := 10) (1 : Int32) (hb hby d1_9) rfl rfl ?_
    by_cases hc10_3 : q0 = (1 : Int32)
    · skip
      refine own_icmpNo X0 hx (pc' := 13) (hb hby d1_10) (teq hc10_3).2 rfl ?_
      refine own_getS X0 hx (pc' := 16) hZ hown (host := "") (Or.inl (Wd115 hw)) Via.refl e0 S_r_MINUTE (hb hby d1_13) rfl (fun T4 X4 e4 => ?_)
      refine own_retA X4 hx hlk hret rfl rfl rfl (hb hby d1_16) (by decide) (by decide) ?_
      exact ⟨by first | (simp only [own_field, hc1_1, hc10_3, if_true, if_false]; done) | simp [own_field, hc1_1, hc10_3], N0, e4⟩
    · skip
      refine own_icmpYes X0 hx (pc' := 17) (hb hby d1_10) (feq hc10_3).2 (by decide) (by decide) ?_
      refine own_iloadN X0 hx (pc' := 18) (hb hby d1_17) rfl rfl ?_
      refine own_iconst X0 hx (pc' := 19) (2 : Int32) (hb hby d1_18) rfl rfl ?_
      by_cases hc19_5 : q0 = (2 : Int32)
      · skip
        refine own_icmpNo X0 hx (pc' := 22) (hb hby d1_19) (teq hc19_5).2 rfl ?_
        refine own_getS X0 hx (pc' := 25) hZ hown (host := "") (Or.inl (Wd138 hw)) Via.refl e0 S_r_HOUR (hb hby d1_22) rfl (fun T6 X6 e6 => ?_)
        refine own_retA X6 hx hlk hret rfl rfl rfl (hb hby d1_25) (by decide) (by decide) ?_
        exact ⟨by first | (simp only [own_field, hc1_1, hc10_3, hc19_5, if_true, if_false]; done) | simp [own_field, hc1_1, hc10_3, hc19_5], N0, e6⟩
      · skip
        refine own_icmpYes X0 hx (pc' := 26) (hb hby d1_19) (feq hc19_5).2 (by decide) (by decide) ?_
        refine own_iloadN X0 hx (pc' := 27) (hb hby d1_26) rfl rfl ?_
        refine own_iconst X0 hx (pc' := 28) (3 : Int32) (hb hby d1_27) rfl rfl ?_
        by_cases hc28_7 : q0 = (3 : Int32)
        · skip
          refine own_icmpNo X0 hx (pc' := 31) (hb hby d1_28) (teq hc28_7).2 rfl ?_
          refine own_getS X0 hx (pc' := 34) hZ hown (host := "") (Or.inl (Wd113 hw)) Via.refl e0 S_r_DAY_OF_MONTH (hb hby d1_31) rfl (fun T8 X8 e8 => ?_)
          refine own_retA X8 hx hlk hret rfl rfl rfl (hb hby d1_34) (by decide) (by decide) ?_
          exact ⟨by first | (simp only [own_field, hc1_1, hc10_3, hc19_5, hc28_7, if_true, if_false]; done) | simp [own_field, hc1_1, hc10_3, hc19_5, hc28_7], N0, e8⟩
        · skip
          refine own_icmpYes X0 hx (pc' := 35) (hb hby d1_28) (feq hc28_7).2 (by decide) (by decide) ?_
          refine own_iloadN X0 hx (pc' := 36) (hb hby d1_35) rfl rfl ?_
          refine own_iconst X0 hx (pc' := 37) (4 : Int32) (hb hby d1_36) rfl rfl ?_
          by_cases hc37_9 : q0 = (4 : Int32)
          · skip
            refine own_icmpNo X0 hx (pc' := 40) (hb hby d1_37) (teq hc37_9).2 rfl ?_
            refine own_getS X0 hx (pc' := 43) hZ hown (host := "") (Or.inl (Wd117 hw)) Via.refl e0 S_r_MONTH (hb hby d1_40) rfl (fun T10 X10 e10 => ?_)
            refine own_retA X10 hx hlk hret rfl rfl rfl (hb hby d1_43) (by decide) (by decide) ?_
            exact ⟨by first | (simp only [own_field, hc1_1, hc10_3, hc19_5, hc28_7, hc37_9, if_true, if_false]; done) | simp [own_field, hc1_1, hc10_3, hc19_5, hc28_7, hc37_9], N0, e10⟩
          · skip
            refine own_icmpYes X0 hx (pc' := 44) (hb hby d1_37) (feq hc37_9).2 (by decide) (by decide) ?_
            refine own_iloadN X0 hx (pc' := 45) (hb hby d1_44) rfl rfl ?_
            refine own_iconst X0 hx (pc' := 46) (5 : Int32) (hb hby d1_45) rfl rfl ?_
            by_cases hc46_11 : q0 = (5 : Int32)
            · skip
              refine own_icmpNo X0 hx (pc' := 49) (hb hby d1_46) (teq hc46_11).2 rfl ?_
              refine own_getS X0 hx (pc' := 52) hZ hown (host := "") (Or.inl (Wd136 hw)) Via.refl e0 S_r_DAY_OF_WEEK (hb hby d1_49) rfl (fun T12 X12 e12 => ?_)
              refine own_retA X12 hx hlk hret rfl rfl rfl (hb hby d1_52) (by decide) (by decide) ?_
              exact ⟨by first | (simp only [own_field, hc1_1, hc10_3, hc19_5, hc28_7, hc37_9, hc46_11, if_true, if_false]; done) | simp [own_field, hc1_1, hc10_3, hc19_5, hc28_7, hc37_9, hc46_11], N0, e12⟩
            · skip
              refine own_icmpYes X0 hx (pc' := 53) (hb hby d1_46) (feq hc46_11).2 (by decide) (by decide) ?_
              refine own_getS X0 hx (pc' := 56) hZ hown (host := "") (Or.inl (Wd119 hw)) Via.refl e0 S_r_YEAR (hb hby d1_53) rfl (fun T13 X13 e13 => ?_)
              refine own_retA X13 hx hlk hret rfl rfl rfl (hb hby d1_56) (by decide) (by decide) ?_
              exact ⟨by first | (simp only [own_field, hc1_1, hc10_3, hc19_5, hc28_7, hc37_9, hc46_11, if_true, if_false]; done) | simp [own_field, hc1_1, hc10_3, hc19_5, hc28_7, hc37_9, hc46_11], N0, e13⟩

theorem d2_0 : decode method_3_code 0 = .ok (.iload_n 0, 1) := by decide +kernel
theorem d2_1 : decode method_3_code 1 = .ok (.iconst 2, 1) := by decide +kernel
theorem d2_2 : decode method_3_code 2 = .ok (.if_icmp .gt 5, 3) := by decide +kernel
theorem d2_5 : decode method_3_code 5 = .ok (.iconst 0, 1) := by decide +kernel
theorem d2_6 : decode method_3_code 6 = .ok (.ireturn, 1) := by decide +kernel
theorem d2_7 : decode method_3_code 7 = .ok (.iload_n 0, 1) := by decide +kernel
theorem d2_8 : decode method_3_code 8 = .ok (.iconst 5, 1) := by decide +kernel
theorem d2_9 : decode method_3_code 9 = .ok (.if_icmp .gt 5, 3) := by decide +kernel
theorem d2_12 : decode method_3_code 12 = .ok (.iconst 1, 1) := by decide +kernel
theorem d2_13 : decode method_3_code 13 = .ok (.ireturn, 1) := by decide +kernel
theorem d2_14 : decode method_3_code 14 = .ok (.sipush 1970, 3) := by decide +kernel
theorem d2_17 : decode method_3_code 17 = .ok (.ireturn, 1) := by decide +kernel
theorem ef_rm_low (m : MethodId) (x0 : Int32) : entryFrame m #[(.int x0)] 1 = mkF m 0 #[.val (.int x0)] [] := by first | (simp [entryFrame, mkF, argsToLocals, Value.category, maxLocals]; done) | rfl
theorem pf_22 : plainFor (⟨"com/example/rhadamanthus/rhadamanthus/model/CronFieldAllPinLaw", "low", "(I)I"⟩ : MethodName) = true := by apply plainFor_of_name; first | (simp [plainName, overriddenIn]; done) | decide +kernel
set_option maxRecDepth 65536 in
set_option maxHeartbeats 40000000 in
theorem rm_low (l : Launch) (Z : State) (a0 : Array Value) (hw : ∀ d ∈ tables_1, d.before a0 Z = true) (ws : List Jvm.Cond) (q0 : Int32) (h0 : Heap) (n0 : Nat) (Z0 : n0 ≤ h0.size)  :
    MetFree l (⟨"com/example/rhadamanthus/rhadamanthus/model/CronFieldAllPinLaw", "low", "(I)I"⟩ : MethodName) (head1 (Jvm.Cond.code (⟨"com/example/rhadamanthus/rhadamanthus/model/CronFieldAllPinLaw", "low", "(I)I"⟩ : MethodName) method_3_code 1 (some .int) :: ws) ({ frames := 0, cells := 0, slots := 0, locals := 0 } : Room)) (fun aa U => aa = #[(.int q0)] ∧ Z.Warmed39 U.vm ∧ U.heap = h0) (fun _ _ _ _ _ => True) (fun _ U o U' => ∃ v L, o = .returned v ∧ Qint (own_lowk q0) h0 n0 v U'.heap L ∧ FrameEnd U o U' L (({ frames := 0, cells := 0, slots := 0, locals := 0 } : Room).cells) (({ frames := 0, cells := 0, slots := 0, locals := 0 } : Room).slots)) := by
  refine own_body pf_22 ?_
  intro p e s m below meth c s₁ hx hby hml hown hnm hlk hret hZ X0 e0
  have N0 : Fr n0 [] := Fr.nil n0
  refine own_go (f' := (mkF m 0 #[.val (.int q0)] [])) (fun t k => castTop (ef_rm_low m q0) k) ?_
  refine own_iloadN X0 hx (pc' := 1) (hb hby d2_0) rfl rfl ?_
  refine own_iconst X0 hx (pc' := 2) (2 : Int32) (hb hby d2_1) rfl rfl ?_
  by_cases hc2_1 : (2 : Int32) < q0
  · skip
    refine own_icmpYes X0 hx (pc' := 7) (hb hby d2_2) (tlt hc2_1).2.2.1 (by decide) (by decide) ?_
    refine own_iloadN X0 hx (pc' := 8) (hb hby d2_7) rfl rfl ?_
    refine own_iconst X0 hx (pc' := 9) (5 : Int32) (hb hby d2_8) rfl rfl ?_
    by_cases hc9_2 : (5 : Int32) < q0
    · skip
      refine own_icmpYes X0 hx (pc' := 14) (hb hby d2_9) (tlt hc9_2).2.2.1 (by decide) (by decide) ?_
      refine own_sipush X0 hx (pc' := 17) (1970 : Int32) (hb hby d2_14) rfl rfl ?_
      refine own_retI X0 hx hlk hret (hb hby d2_17) (by decide) (by decide) ?_
      exact ⟨by first | (simp only [own_lowk, hc2_1, hc9_2, if_true, if_false]; done) | simp [own_lowk, hc2_1, hc9_2], N0, e0⟩
    · skip
      refine own_icmpNo X0 hx (pc' := 12) (hb hby d2_9) (flt hc9_2).2.2.1 rfl ?_
      refine own_iconst X0 hx (pc' := 13) (1 : Int32) (hb hby d2_12) rfl rfl ?_
      refine own_retI X0 hx hlk hret (hb hby d2_13) (by decide) (by decide) ?_
      exact ⟨by first | (simp only [own_lowk, hc2_1, hc9_2, if_true, if_false]; done) | simp [own_lowk, hc2_1, hc9_2], N0, e0⟩
  · skip
    refine own_icmpNo X0 hx (pc' := 5) (hb hby d2_2) (flt hc2_1).2.2.1 rfl ?_
    refine own_iconst X0 hx (pc' := 6) (0 : Int32) (hb hby d2_5) rfl rfl ?_
    refine own_retI X0 hx hlk hret (hb hby d2_6) (by decide) (by decide) ?_
    exact ⟨by first | (simp only [own_lowk, hc2_1, if_true, if_false]; done) | simp [own_lowk, hc2_1], N0, e0⟩

theorem d3_0 : decode method_4_code 0 = .ok (.iload_n 0, 1) := by decide +kernel
theorem d3_1 : decode method_4_code 1 = .ok (.iconst 1, 1) := by decide +kernel
theorem d3_2 : decode method_4_code 2 = .ok (.if_icmp .gt 6, 3) := by decide +kernel
theorem d3_5 : decode method_4_code 5 = .ok (.bipush 59, 2) := by decide +kernel
theorem d3_7 : decode method_4_code 7 = .ok (.ireturn, 1) := by decide +kernel
theorem d3_8 : decode method_4_code 8 = .ok (.iload_n 0, 1) := by decide +kernel
theorem d3_9 : decode method_4_code 9 = .ok (.iconst 2, 1) := by decide +kernel
theorem d3_10 : decode method_4_code 10 = .ok (.if_icmp .ne 6, 3) := by decide +kernel
theorem d3_13 : decode method_4_code 13 = .ok (.bipush 23, 2) := by decide +kernel
theorem d3_15 : decode method_4_code 15 = .ok (.ireturn, 1) := by decide +kernel
theorem d3_16 : decode method_4_code 16 = .ok (.iload_n 0, 1) := by decide +kernel
theorem d3_17 : decode method_4_code 17 = .ok (.iconst 3, 1) := by decide +kernel
theorem d3_18 : decode method_4_code 18 = .ok (.if_icmp .ne 6, 3) := by decide +kernel
theorem d3_21 : decode method_4_code 21 = .ok (.bipush 31, 2) := by decide +kernel
theorem d3_23 : decode method_4_code 23 = .ok (.ireturn, 1) := by decide +kernel
theorem d3_24 : decode method_4_code 24 = .ok (.iload_n 0, 1) := by decide +kernel
theorem d3_25 : decode method_4_code 25 = .ok (.iconst 4, 1) := by decide +kernel
theorem d3_26 : decode method_4_code 26 = .ok (.if_icmp .ne 6, 3) := by decide +kernel
theorem d3_29 : decode method_4_code 29 = .ok (.bipush 12, 2) := by decide +kernel
theorem d3_31 : decode method_4_code 31 = .ok (.ireturn, 1) := by decide +kernel
theorem d3_32 : decode method_4_code 32 = .ok (.iload_n 0, 1) := by decide +kernel
theorem d3_33 : decode method_4_code 33 = .ok (.iconst 5, 1) := by decide +kernel
theorem d3_34 : decode method_4_code 34 = .ok (.if_icmp .ne 6, 3) := by decide +kernel
theorem d3_37 : decode method_4_code 37 = .ok (.bipush 7, 2) := by decide +kernel
theorem d3_39 : decode method_4_code 39 = .ok (.ireturn, 1) := by decide +kernel
theorem d3_40 : decode method_4_code 40 = .ok (.sipush 2099, 3) := by decide +kernel
theorem d3_43 : decode method_4_code 43 = .ok (.ireturn, 1) := by decide +kernel
theorem ef_rm_high (m : MethodId) (x0 : Int32) : entryFrame m #[(.int x0)] 1 = mkF m 0 #[.val (.int x0)] [] := by first | (simp [entryFrame, mkF, argsToLocals, Value.category, maxLocals]; done) | rfl
theorem pf_23 : plainFor (⟨"com/example/rhadamanthus/rhadamanthus/model/CronFieldAllPinLaw", "high", "(I)I"⟩ : MethodName) = true := by apply plainFor_of_name; first | (simp [plainName, overriddenIn]; done) | decide +kernel
set_option maxRecDepth 65536 in
set_option maxHeartbeats 40000000 in
theorem rm_high (l : Launch) (Z : State) (a0 : Array Value) (hw : ∀ d ∈ tables_1, d.before a0 Z = true) (ws : List Jvm.Cond) (q0 : Int32) (h0 : Heap) (n0 : Nat) (Z0 : n0 ≤ h0.size)  :
    MetFree l (⟨"com/example/rhadamanthus/rhadamanthus/model/CronFieldAllPinLaw", "high", "(I)I"⟩ : MethodName) (head1 (Jvm.Cond.code (⟨"com/example/rhadamanthus/rhadamanthus/model/CronFieldAllPinLaw", "high", "(I)I"⟩ : MethodName) method_4_code 1 (some .int) :: ws) ({ frames := 0, cells := 0, slots := 0, locals := 0 } : Room)) (fun aa U => aa = #[(.int q0)] ∧ Z.Warmed39 U.vm ∧ U.heap = h0) (fun _ _ _ _ _ => True) (fun _ U o U' => ∃ v L, o = .returned v ∧ Qint (own_highk q0) h0 n0 v U'.heap L ∧ FrameEnd U o U' L (({ frames := 0, cells := 0, slots := 0, locals := 0 } : Room).cells) (({ frames := 0, cells := 0, slots := 0, locals := 0 } : Room).slots)) := by
  refine own_body pf_23 ?_
  intro p e s m below meth c s₁ hx hby hml hown hnm hlk hret hZ X0 e0
  have N0 : Fr n0 [] := Fr.nil n0
  refine own_go (f' := (mkF m 0 #[.val (.int q0)] [])) (fun t k => castTop (ef_rm_high m q0) k) ?_
  refine own_iloadN X0 hx (pc' := 1) (hb hby d3_0) rfl rfl ?_
  refine own_iconst X0 hx (pc' := 2) (1 : Int32) (hb hby d3_1) rfl rfl ?_
  by_cases hc2_1 : (1 : Int32) < q0
  · skip
    refine own_icmpYes X0 hx (pc' := 8) (hb hby d3_2) (tlt hc2_1).2.2.1 (by decide) (by decide) ?_
    refine own_iloadN X0 hx (pc' := 9) (hb hby d3_8) rfl rfl ?_
    refine own_iconst X0 hx (pc' := 10) (2 : Int32) (hb hby d3_9) rfl rfl ?_
    by_cases hc10_2 : q0 = (2 : Int32)
    · skip
      refine own_icmpNo X0 hx (pc' := 13) (hb hby d3_10) (teq hc10_2).2 rfl ?_
      refine own_bipush X0 hx (pc' := 15) (23 : Int32) (hb hby d3_13) rfl rfl ?_
      refine own_retI X0 hx hlk hret (hb hby d3_15) (by decide) (by decide) ?_
      exact ⟨by first | (simp only [own_highk, hc2_1, hc10_2, if_true, if_false]; done) | simp [own_highk, hc2_1, hc10_2], N0, e0⟩
    · skip
      refine own_icmpYes X0 hx (pc' := 16) (hb hby d3_10) (feq hc10_2).2 (by decide) (by decide) ?_
      refine own_iloadN X0 hx (pc' := 17) (hb hby d3_16) rfl rfl ?_
      refine own_iconst X0 hx (pc' := 18) (3 : Int32) (hb hby d3_17) rfl rfl ?_
      by_cases hc18_3 : q0 = (3 : Int32)
      · skip
        refine own_icmpNo X0 hx (pc' := 21) (hb hby d3_18) (teq hc18_3).2 rfl ?_
        refine own_bipush X0 hx (pc' := 23) (31 : Int32) (hb hby d3_21) rfl rfl ?_
        refine own_retI X0 hx hlk hret (hb hby d3_23) (by decide) (by decide) ?_
        exact ⟨by first | (simp only [own_highk, hc2_1, hc10_2, hc18_3, if_true, if_false]; done) | simp [own_highk, hc2_1, hc10_2, hc18_3], N0, e0⟩
      · skip
        refine own_icmpYes X0 hx (pc' := 24) (hb hby d3_18) (feq hc18_3).2 (by decide) (by decide) ?_
        refine own_iloadN X0 hx (pc' := 25) (hb hby d3_24) rfl rfl ?_
        refine own_iconst X0 hx (pc' := 26) (4 : Int32) (hb hby d3_25) rfl rfl ?_
        by_cases hc26_4 : q0 = (4 : Int32)
        · skip
          refine own_icmpNo X0 hx (pc' := 29) (hb hby d3_26) (teq hc26_4).2 rfl ?_
          refine own_bipush X0 hx (pc' := 31) (12 : Int32) (hb hby d3_29) rfl rfl ?_
          refine own_retI X0 hx hlk hret (hb hby d3_31) (by decide) (by decide) ?_
          exact ⟨by first | (simp only [own_highk, hc2_1, hc10_2, hc18_3, hc26_4, if_true, if_false]; done) | simp [own_highk, hc2_1, hc10_2, hc18_3, hc26_4], N0, e0⟩
        · skip
          refine own_icmpYes X0 hx (pc' := 32) (hb hby d3_26) (feq hc26_4).2 (by decide) (by decide) ?_
          refine own_iloadN X0 hx (pc' := 33) (hb hby d3_32) rfl rfl ?_
          refine own_iconst X0 hx (pc' := 34) (5 : Int32) (hb hby d3_33) rfl rfl ?_
          by_cases hc34_5 : q0 = (5 : Int32)
          · skip
            refine own_icmpNo X0 hx (pc' := 37) (hb hby d3_34) (teq hc34_5).2 rfl ?_
            refine own_bipush X0 hx (pc' := 39) (7 : Int32) (hb hby d3_37) rfl rfl ?_
            refine own_retI X0 hx hlk hret (hb hby d3_39) (by decide) (by decide) ?_
            exact ⟨by first | (simp only [own_highk, hc2_1, hc10_2, hc18_3, hc26_4, hc34_5, if_true, if_false]; done) | simp [own_highk, hc2_1, hc10_2, hc18_3, hc26_4, hc34_5], N0, e0⟩
          · skip
            refine own_icmpYes X0 hx (pc' := 40) (hb hby d3_34) (feq hc34_5).2 (by decide) (by decide) ?_
            refine own_sipush X0 hx (pc' := 43) (2099 : Int32) (hb hby d3_40) rfl rfl ?_
            refine own_retI X0 hx hlk hret (hb hby d3_43) (by decide) (by decide) ?_
            exact ⟨by first | (simp only [own_highk, hc2_1, hc10_2, hc18_3, hc26_4, hc34_5, if_true, if_false]; done) | simp [own_highk, hc2_1, hc10_2, hc18_3, hc26_4, hc34_5], N0, e0⟩
  · skip
    refine own_icmpNo X0 hx (pc' := 5) (hb hby d3_2) (flt hc2_1).2.2.1 rfl ?_
    refine own_bipush X0 hx (pc' := 7) (59 : Int32) (hb hby d3_5) rfl rfl ?_
    refine own_retI X0 hx hlk hret (hb hby d3_7) (by decide) (by decide) ?_
    exact ⟨by first | (simp only [own_highk, hc2_1, if_true, if_false]; done) | simp [own_highk, hc2_1], N0, e0⟩

theorem own_m12 (x : Int32) : ∃ A : Nat, A < 4096 ∧ x &&& (4095 : Int32) = Int32.ofNat A := by
  have q1 := c_mask x (4095 : Int32) 12 (by decide) (by decide)
  have q7 : ((2 ^ 12 : Nat) : Int) = 4096 := rfl
  rw [q7] at q1
  refine ⟨(x &&& (4095 : Int32)).toInt.toNat, by omega, ?_⟩
  rw [← Int32.toInt_inj, own_on (by omega)]
  omega
theorem own_wi64 : ∀ a b : Fin 64, own_wi (Int32.ofNat (64 * a.val + b.val)) = Int32.ofNat a.val := by decide +kernel
theorem own_P64 (P : Nat) : P = 64 * (P / 64) + P % 64 := by omega
theorem own_wiP (P : Nat) (h : P < 4096) : own_wi (Int32.ofNat P) = Int32.ofNat (P / 64) := by
  have q := own_wi64 ⟨P / 64, by omega⟩ ⟨P % 64, by omega⟩
  simp only [] at q
  rw [← own_P64 P] at q
  exact q
theorem own_vn_0_23 : own_nsb (own_bits (0 : Int32) ((23 : Int32) + (1 : Int32))) 1 = (0 : Int32) := by decide +kernel
theorem own_vl_0_23 : own_blen (own_bits (0 : Int32) ((23 : Int32) + (1 : Int32))) 1 = (24 : Int32) := by decide +kernel
theorem own_vc_0_23 : own_card (own_bits (0 : Int32) ((23 : Int32) + (1 : Int32))) 1 0 (0 : Int32) = (24 : Int32) := by decide +kernel
theorem own_vg_0_23_0 : own_get (own_bits (0 : Int32) ((23 : Int32) + (1 : Int32))) 1 0 (0 : Int32) = (1 : Int32) := by decide +kernel
theorem own_vg_0_23_24 : own_get (own_bits (0 : Int32) ((23 : Int32) + (1 : Int32))) 1 0 (24 : Int32) = (0 : Int32) := by decide +kernel
theorem own_vg_0_23_23 : own_get (own_bits (0 : Int32) ((23 : Int32) + (1 : Int32))) 1 0 (23 : Int32) = (1 : Int32) := by decide +kernel
theorem own_vp_0_23 : ∀ a b : Fin 64, own_get (own_bits (0 : Int32) ((23 : Int32) + (1 : Int32))) 1 a.val (Int32.ofNat (64 * a.val + b.val)) = if Int32.ofNat (64 * a.val + b.val) < (0 : Int32) then (0 : Int32) else if (23 : Int32) < Int32.ofNat (64 * a.val + b.val) then (0 : Int32) else (1 : Int32) := by decide +kernel
theorem own_vP_0_23 (P : Nat) (h : P < 4096) : own_get (own_bits (0 : Int32) ((23 : Int32) + (1 : Int32))) 1 (P / 64) (Int32.ofNat P) = if Int32.ofNat P < (0 : Int32) then (0 : Int32) else if (23 : Int32) < Int32.ofNat P then (0 : Int32) else (1 : Int32) := by
  have q := own_vp_0_23 ⟨P / 64, by omega⟩ ⟨P % 64, by omega⟩
  simp only [] at q
  rw [← own_P64 P] at q
  exact q
theorem own_vn_0_59 : own_nsb (own_bits (0 : Int32) ((59 : Int32) + (1 : Int32))) 1 = (0 : Int32) := by decide +kernel
theorem own_vl_0_59 : own_blen (own_bits (0 : Int32) ((59 : Int32) + (1 : Int32))) 1 = (60 : Int32) := by decide +kernel
theorem own_vc_0_59 : own_card (own_bits (0 : Int32) ((59 : Int32) + (1 : Int32))) 1 0 (0 : Int32) = (60 : Int32) := by decide +kernel
theorem own_vg_0_59_0 : own_get (own_bits (0 : Int32) ((59 : Int32) + (1 : Int32))) 1 0 (0 : Int32) = (1 : Int32) := by decide +kernel
theorem own_vg_0_59_59 : own_get (own_bits (0 : Int32) ((59 : Int32) + (1 : Int32))) 1 0 (59 : Int32) = (1 : Int32) := by decide +kernel
theorem own_vg_0_59_60 : own_get (own_bits (0 : Int32) ((59 : Int32) + (1 : Int32))) 1 0 (60 : Int32) = (0 : Int32) := by decide +kernel
theorem own_vp_0_59 : ∀ a b : Fin 64, own_get (own_bits (0 : Int32) ((59 : Int32) + (1 : Int32))) 1 a.val (Int32.ofNat (64 * a.val + b.val)) = if Int32.ofNat (64 * a.val + b.val) < (0 : Int32) then (0 : Int32) else if (59 : Int32) < Int32.ofNat (64 * a.val + b.val) then (0 : Int32) else (1 : Int32) := by decide +kernel
theorem own_vP_0_59 (P : Nat) (h : P < 4096) : own_get (own_bits (0 : Int32) ((59 : Int32) + (1 : Int32))) 1 (P / 64) (Int32.ofNat P) = if Int32.ofNat P < (0 : Int32) then (0 : Int32) else if (59 : Int32) < Int32.ofNat P then (0 : Int32) else (1 : Int32) := by
  have q := own_vp_0_59 ⟨P / 64, by omega⟩ ⟨P % 64, by omega⟩
  simp only [] at q
  rw [← own_P64 P] at q
  exact q
theorem own_vn_1_7 : own_nsb (own_bits (1 : Int32) ((7 : Int32) + (1 : Int32))) 1 = (1 : Int32) := by decide +kernel
theorem own_vl_1_7 : own_blen (own_bits (1 : Int32) ((7 : Int32) + (1 : Int32))) 1 = (8 : Int32) := by decide +kernel
theorem own_vc_1_7 : own_card (own_bits (1 : Int32) ((7 : Int32) + (1 : Int32))) 1 0 (0 : Int32) = (7 : Int32) := by decide +kernel
theorem own_vg_1_7_8 : own_get (own_bits (1 : Int32) ((7 : Int32) + (1 : Int32))) 1 0 (8 : Int32) = (0 : Int32) := by decide +kernel
theorem own_vg_1_7_1 : own_get (own_bits (1 : Int32) ((7 : Int32) + (1 : Int32))) 1 0 (1 : Int32) = (1 : Int32) := by decide +kernel
theorem own_vg_1_7_0 : own_get (own_bits (1 : Int32) ((7 : Int32) + (1 : Int32))) 1 0 (0 : Int32) = (0 : Int32) := by decide +kernel
theorem own_vg_1_7_7 : own_get (own_bits (1 : Int32) ((7 : Int32) + (1 : Int32))) 1 0 (7 : Int32) = (1 : Int32) := by decide +kernel
theorem own_vp_1_7 : ∀ a b : Fin 64, own_get (own_bits (1 : Int32) ((7 : Int32) + (1 : Int32))) 1 a.val (Int32.ofNat (64 * a.val + b.val)) = if Int32.ofNat (64 * a.val + b.val) < (1 : Int32) then (0 : Int32) else if (7 : Int32) < Int32.ofNat (64 * a.val + b.val) then (0 : Int32) else (1 : Int32) := by decide +kernel
theorem own_vP_1_7 (P : Nat) (h : P < 4096) : own_get (own_bits (1 : Int32) ((7 : Int32) + (1 : Int32))) 1 (P / 64) (Int32.ofNat P) = if Int32.ofNat P < (1 : Int32) then (0 : Int32) else if (7 : Int32) < Int32.ofNat P then (0 : Int32) else (1 : Int32) := by
  have q := own_vp_1_7 ⟨P / 64, by omega⟩ ⟨P % 64, by omega⟩
  simp only [] at q
  rw [← own_P64 P] at q
  exact q
theorem own_vn_1_12 : own_nsb (own_bits (1 : Int32) ((12 : Int32) + (1 : Int32))) 1 = (1 : Int32) := by decide +kernel
theorem own_vl_1_12 : own_blen (own_bits (1 : Int32) ((12 : Int32) + (1 : Int32))) 1 = (13 : Int32) := by decide +kernel
theorem own_vc_1_12 : own_card (own_bits (1 : Int32) ((12 : Int32) + (1 : Int32))) 1 0 (0 : Int32) = (12 : Int32) := by decide +kernel
theorem own_vg_1_12_0 : own_get (own_bits (1 : Int32) ((12 : Int32) + (1 : Int32))) 1 0 (0 : Int32) = (0 : Int32) := by decide +kernel
theorem own_vg_1_12_1 : own_get (own_bits (1 : Int32) ((12 : Int32) + (1 : Int32))) 1 0 (1 : Int32) = (1 : Int32) := by decide +kernel
theorem own_vg_1_12_12 : own_get (own_bits (1 : Int32) ((12 : Int32) + (1 : Int32))) 1 0 (12 : Int32) = (1 : Int32) := by decide +kernel
theorem own_vg_1_12_13 : own_get (own_bits (1 : Int32) ((12 : Int32) + (1 : Int32))) 1 0 (13 : Int32) = (0 : Int32) := by decide +kernel
theorem own_vp_1_12 : ∀ a b : Fin 64, own_get (own_bits (1 : Int32) ((12 : Int32) + (1 : Int32))) 1 a.val (Int32.ofNat (64 * a.val + b.val)) = if Int32.ofNat (64 * a.val + b.val) < (1 : Int32) then (0 : Int32) else if (12 : Int32) < Int32.ofNat (64 * a.val + b.val) then (0 : Int32) else (1 : Int32) := by decide +kernel
theorem own_vP_1_12 (P : Nat) (h : P < 4096) : own_get (own_bits (1 : Int32) ((12 : Int32) + (1 : Int32))) 1 (P / 64) (Int32.ofNat P) = if Int32.ofNat P < (1 : Int32) then (0 : Int32) else if (12 : Int32) < Int32.ofNat P then (0 : Int32) else (1 : Int32) := by
  have q := own_vp_1_12 ⟨P / 64, by omega⟩ ⟨P % 64, by omega⟩
  simp only [] at q
  rw [← own_P64 P] at q
  exact q
theorem own_vn_1_31 : own_nsb (own_bits (1 : Int32) ((31 : Int32) + (1 : Int32))) 1 = (1 : Int32) := by decide +kernel
theorem own_vl_1_31 : own_blen (own_bits (1 : Int32) ((31 : Int32) + (1 : Int32))) 1 = (32 : Int32) := by decide +kernel
theorem own_vc_1_31 : own_card (own_bits (1 : Int32) ((31 : Int32) + (1 : Int32))) 1 0 (0 : Int32) = (31 : Int32) := by decide +kernel
theorem own_vg_1_31_32 : own_get (own_bits (1 : Int32) ((31 : Int32) + (1 : Int32))) 1 0 (32 : Int32) = (0 : Int32) := by decide +kernel
theorem own_vg_1_31_1 : own_get (own_bits (1 : Int32) ((31 : Int32) + (1 : Int32))) 1 0 (1 : Int32) = (1 : Int32) := by decide +kernel
theorem own_vg_1_31_0 : own_get (own_bits (1 : Int32) ((31 : Int32) + (1 : Int32))) 1 0 (0 : Int32) = (0 : Int32) := by decide +kernel
theorem own_vg_1_31_31 : own_get (own_bits (1 : Int32) ((31 : Int32) + (1 : Int32))) 1 0 (31 : Int32) = (1 : Int32) := by decide +kernel
theorem own_vp_1_31 : ∀ a b : Fin 64, own_get (own_bits (1 : Int32) ((31 : Int32) + (1 : Int32))) 1 a.val (Int32.ofNat (64 * a.val + b.val)) = if Int32.ofNat (64 * a.val + b.val) < (1 : Int32) then (0 : Int32) else if (31 : Int32) < Int32.ofNat (64 * a.val + b.val) then (0 : Int32) else (1 : Int32) := by decide +kernel
theorem own_vP_1_31 (P : Nat) (h : P < 4096) : own_get (own_bits (1 : Int32) ((31 : Int32) + (1 : Int32))) 1 (P / 64) (Int32.ofNat P) = if Int32.ofNat P < (1 : Int32) then (0 : Int32) else if (31 : Int32) < Int32.ofNat P then (0 : Int32) else (1 : Int32) := by
  have q := own_vp_1_31 ⟨P / 64, by omega⟩ ⟨P % 64, by omega⟩
  simp only [] at q
  rw [← own_P64 P] at q
  exact q
theorem own_vn_1970_2099 : own_nsb own_bitsY 33 = (1970 : Int32) := by decide +kernel
theorem own_vl_1970_2099 : own_blen own_bitsY 33 = (2100 : Int32) := by decide +kernel
theorem own_vc_1970_2099 : own_card own_bitsY 33 0 (0 : Int32) = (130 : Int32) := by decide +kernel
theorem own_vg_1970_2099_1969 : own_get own_bitsY 33 30 (1969 : Int32) = (0 : Int32) := by decide +kernel
theorem own_vg_1970_2099_1970 : own_get own_bitsY 33 30 (1970 : Int32) = (1 : Int32) := by decide +kernel
theorem own_vg_1970_2099_2099 : own_get own_bitsY 33 32 (2099 : Int32) = (1 : Int32) := by decide +kernel
theorem own_vg_1970_2099_2100 : own_get own_bitsY 33 32 (2100 : Int32) = (0 : Int32) := by decide +kernel
theorem own_vp_1970_2099 : ∀ a b : Fin 64, own_get own_bitsY 33 a.val (Int32.ofNat (64 * a.val + b.val)) = if Int32.ofNat (64 * a.val + b.val) < (1970 : Int32) then (0 : Int32) else if (2099 : Int32) < Int32.ofNat (64 * a.val + b.val) then (0 : Int32) else (1 : Int32) := by decide +kernel
theorem own_vP_1970_2099 (P : Nat) (h : P < 4096) : own_get own_bitsY 33 (P / 64) (Int32.ofNat P) = if Int32.ofNat P < (1970 : Int32) then (0 : Int32) else if (2099 : Int32) < Int32.ofNat P then (0 : Int32) else (1 : Int32) := by
  have q := own_vp_1970_2099 ⟨P / 64, by omega⟩ ⟨P % 64, by omega⟩
  simp only [] at q
  rw [← own_P64 P] at q
  exact q
def Q0 (n0 : Nat) (v : Option Value) (h : Heap) (L : List Loc) : Prop := v = some (.int 1) ∧ Fr n0 L
theorem ef_rm0 (m : MethodId) (x0 : Int32) (x1 : Int32) : entryFrame m #[(.int x0), (.int x1)] maxLocals = mkF m 0 #[.val (.int x0), .val (.int x1), .unset, .unset, .unset, .unset, .unset, .unset, .unset, .unset, .unset] [] := by first | (simp [entryFrame, mkF, argsToLocals, Value.category, maxLocals]; done) | rfl
theorem pf_24 : plainFor (⟨"com/example/rhadamanthus/rhadamanthus/model/CronFieldAllPinLaw", "law", "(II)Z"⟩ : MethodName) = true := by apply plainFor_of_name; first | (simp [plainName, overriddenIn]; done) | decide +kernel
theorem Wd0 {a0 : Array Value} {Z : State} (hw : ∀ d ∈ tables_1, d.before a0 Z = true) : (Jvm.Cond.constant "com/example/rhadamanthus/rhadamanthus/model/CronFieldAllPinLaw" (31 : Nat) (2147483647 : Int32)).before a0 Z = true := hw _ (List.mem_of_getElem? (i := 0) rfl)
theorem Wd4 {a0 : Array Value} {Z : State} (hw : ∀ d ∈ tables_1, d.before a0 Z = true) : (Jvm.Cond.code ({ cls := "com/example/rhadamanthus/rhadamanthus/model/CronFieldAllPinLaw", name := "field", desc := "(I)Lcom/example/rhadamanthus/rhadamanthus/model/CronField;" } : Jvm.MethodName) method_2_code (1 : Nat) (Option.some (Jvm.ClassFile.FieldType.object "com/example/rhadamanthus/rhadamanthus/model/CronField"))).before a0 Z = true := hw _ (List.mem_of_getElem? (i := 4) rfl)
theorem Wd3 {a0 : Array Value} {Z : State} (hw : ∀ d ∈ tables_1, d.before a0 Z = true) : (Jvm.Cond.initialized "com/example/rhadamanthus/rhadamanthus/model/CronFieldAllPinLaw").before a0 Z = true := hw _ (List.mem_of_getElem? (i := 3) rfl)
theorem pd_7 : parseMethodDescriptor "(I)Lcom/example/rhadamanthus/rhadamanthus/model/CronField;" = some ⟨[.int], some (.object "com/example/rhadamanthus/rhadamanthus/model/CronField")⟩ := by decide +kernel
theorem Wd1 {a0 : Array Value} {Z : State} (hw : ∀ d ∈ tables_1, d.before a0 Z = true) : (Jvm.Cond.methodLink "com/example/rhadamanthus/rhadamanthus/model/CronFieldAllPinLaw" (32 : Nat) ({ cls := "com/example/rhadamanthus/rhadamanthus/model/CronFieldAllPinLaw", name := "field", desc := "(I)Lcom/example/rhadamanthus/rhadamanthus/model/CronField;" } : Jvm.MethodName)).before a0 Z = true := hw _ (List.mem_of_getElem? (i := 1) rfl)
theorem Wd2 {a0 : Array Value} {Z : State} (hw : ∀ d ∈ tables_1, d.before a0 Z = true) : (Jvm.Cond.static ({ cls := "com/example/rhadamanthus/rhadamanthus/model/CronFieldAllPinLaw", name := "field", desc := "(I)Lcom/example/rhadamanthus/rhadamanthus/model/CronField;" } : Jvm.MethodName)).before a0 Z = true := hw _ (List.mem_of_getElem? (i := 2) rfl)
theorem Wd10 {a0 : Array Value} {Z : State} (hw : ∀ d ∈ tables_1, d.before a0 Z = true) : (Jvm.Cond.code ({ cls := "com/example/rhadamanthus/rhadamanthus/model/CronFieldAllPinLaw", name := "low", desc := "(I)I" } : Jvm.MethodName) method_3_code (1 : Nat) (Option.some Jvm.ClassFile.FieldType.int)).before a0 Z = true := hw _ (List.mem_of_getElem? (i := 10) rfl)
theorem Wd8 {a0 : Array Value} {Z : State} (hw : ∀ d ∈ tables_1, d.before a0 Z = true) : (Jvm.Cond.methodLink "com/example/rhadamanthus/rhadamanthus/model/CronFieldAllPinLaw" (38 : Nat) ({ cls := "com/example/rhadamanthus/rhadamanthus/model/CronFieldAllPinLaw", name := "low", desc := "(I)I" } : Jvm.MethodName)).before a0 Z = true := hw _ (List.mem_of_getElem? (i := 8) rfl)
theorem Wd9 {a0 : Array Value} {Z : State} (hw : ∀ d ∈ tables_1, d.before a0 Z = true) : (Jvm.Cond.static ({ cls := "com/example/rhadamanthus/rhadamanthus/model/CronFieldAllPinLaw", name := "low", desc := "(I)I" } : Jvm.MethodName)).before a0 Z = true := hw _ (List.mem_of_getElem? (i := 9) rfl)
theorem Wd13 {a0 : Array Value} {Z : State} (hw : ∀ d ∈ tables_1, d.before a0 Z = true) : (Jvm.Cond.code ({ cls := "com/example/rhadamanthus/rhadamanthus/model/CronFieldAllPinLaw", name := "high", desc := "(I)I" } : Jvm.MethodName) method_4_code (1 : Nat) (Option.some Jvm.ClassFile.FieldType.int)).before a0 Z = true := hw _ (List.mem_of_getElem? (i := 13) rfl)
theorem Wd11 {a0 : Array Value} {Z : State} (hw : ∀ d ∈ tables_1, d.before a0 Z = true) : (Jvm.Cond.methodLink "com/example/rhadamanthus/rhadamanthus/model/CronFieldAllPinLaw" (42 : Nat) ({ cls := "com/example/rhadamanthus/rhadamanthus/model/CronFieldAllPinLaw", name := "high", desc := "(I)I" } : Jvm.MethodName)).before a0 Z = true := hw _ (List.mem_of_getElem? (i := 11) rfl)
theorem Wd12 {a0 : Array Value} {Z : State} (hw : ∀ d ∈ tables_1, d.before a0 Z = true) : (Jvm.Cond.static ({ cls := "com/example/rhadamanthus/rhadamanthus/model/CronFieldAllPinLaw", name := "high", desc := "(I)I" } : Jvm.MethodName)).before a0 Z = true := hw _ (List.mem_of_getElem? (i := 12) rfl)
theorem Wd18 {a0 : Array Value} {Z : State} (hw : ∀ d ∈ tables_1, d.before a0 Z = true) : (Jvm.Cond.code ({ cls := "com/example/rhadamanthus/rhadamanthus/model/CronField", name := "all", desc := "()Ljava/util/BitSet;" } : Jvm.MethodName) prog_17_method_6_code (2 : Nat) (Option.some (Jvm.ClassFile.FieldType.object "java/util/BitSet"))).before a0 Z = true := hw _ (List.mem_of_getElem? (i := 18) rfl)
theorem pd_8 : parseMethodDescriptor "()Ljava/util/BitSet;" = some ⟨[], some (.object "java/util/BitSet")⟩ := by decide +kernel
theorem Wd14 {a0 : Array Value} {Z : State} (hw : ∀ d ∈ tables_1, d.before a0 Z = true) : (Jvm.Cond.methodLink "com/example/rhadamanthus/rhadamanthus/model/CronFieldAllPinLaw" (45 : Nat) ({ cls := "com/example/rhadamanthus/rhadamanthus/model/CronField", name := "all", desc := "()Ljava/util/BitSet;" } : Jvm.MethodName)).before a0 Z = true := hw _ (List.mem_of_getElem? (i := 14) rfl)
theorem Wd16 {a0 : Array Value} {Z : State} (hw : ∀ d ∈ tables_1, d.before a0 Z = true) : (Jvm.Cond.instanceMethod ({ cls := "com/example/rhadamanthus/rhadamanthus/model/CronField", name := "all", desc := "()Ljava/util/BitSet;" } : Jvm.MethodName)).before a0 Z = true := hw _ (List.mem_of_getElem? (i := 16) rfl)
theorem Wd17 {a0 : Array Value} {Z : State} (hw : ∀ d ∈ tables_1, d.before a0 Z = true) : (Jvm.Cond.selects "com/example/rhadamanthus/rhadamanthus/model/CronField" ({ cls := "com/example/rhadamanthus/rhadamanthus/model/CronField", name := "all", desc := "()Ljava/util/BitSet;" } : Jvm.MethodName) ({ cls := "com/example/rhadamanthus/rhadamanthus/model/CronField", name := "all", desc := "()Ljava/util/BitSet;" } : Jvm.MethodName)).before a0 Z = true := hw _ (List.mem_of_getElem? (i := 17) rfl)
theorem Wd76 {a0 : Array Value} {Z : State} (hw : ∀ d ∈ tables_1, d.before a0 Z = true) : (Jvm.Cond.code ({ cls := "java/util/BitSet", name := "nextSetBit", desc := "(I)I" } : Jvm.MethodName) jdk_92_method_28_code (5 : Nat) (Option.some Jvm.ClassFile.FieldType.int)).before a0 Z = true := hw _ (List.mem_of_getElem? (i := 76) rfl)
theorem Wd72 {a0 : Array Value} {Z : State} (hw : ∀ d ∈ tables_1, d.before a0 Z = true) : (Jvm.Cond.methodLink "com/example/rhadamanthus/rhadamanthus/model/CronFieldAllPinLaw" (49 : Nat) ({ cls := "java/util/BitSet", name := "nextSetBit", desc := "(I)I" } : Jvm.MethodName)).before a0 Z = true := hw _ (List.mem_of_getElem? (i := 72) rfl)
theorem Wd74 {a0 : Array Value} {Z : State} (hw : ∀ d ∈ tables_1, d.before a0 Z = true) : (Jvm.Cond.instanceMethod ({ cls := "java/util/BitSet", name := "nextSetBit", desc := "(I)I" } : Jvm.MethodName)).before a0 Z = true := hw _ (List.mem_of_getElem? (i := 74) rfl)
theorem Wd75 {a0 : Array Value} {Z : State} (hw : ∀ d ∈ tables_1, d.before a0 Z = true) : (Jvm.Cond.selects "java/util/BitSet" ({ cls := "java/util/BitSet", name := "nextSetBit", desc := "(I)I" } : Jvm.MethodName) ({ cls := "java/util/BitSet", name := "nextSetBit", desc := "(I)I" } : Jvm.MethodName)).before a0 Z = true := hw _ (List.mem_of_getElem? (i := 75) rfl)
theorem Wd89 {a0 : Array Value} {Z : State} (hw : ∀ d ∈ tables_1, d.before a0 Z = true) : (Jvm.Cond.code ({ cls := "java/util/BitSet", name := "length", desc := "()I" } : Jvm.MethodName) jdk_92_method_32_code (1 : Nat) (Option.some Jvm.ClassFile.FieldType.int)).before a0 Z = true := hw _ (List.mem_of_getElem? (i := 89) rfl)
theorem pd_9 : parseMethodDescriptor "()I" = some ⟨[], some .int⟩ := by decide +kernel
theorem Wd85 {a0 : Array Value} {Z : State} (hw : ∀ d ∈ tables_1, d.before a0 Z = true) : (Jvm.Cond.methodLink "com/example/rhadamanthus/rhadamanthus/model/CronFieldAllPinLaw" (54 : Nat) ({ cls := "java/util/BitSet", name := "length", desc := "()I" } : Jvm.MethodName)).before a0 Z = true := hw _ (List.mem_of_getElem? (i := 85) rfl)
theorem Wd87 {a0 : Array Value} {Z : State} (hw : ∀ d ∈ tables_1, d.before a0 Z = true) : (Jvm.Cond.instanceMethod ({ cls := "java/util/BitSet", name := "length", desc := "()I" } : Jvm.MethodName)).before a0 Z = true := hw _ (List.mem_of_getElem? (i := 87) rfl)
theorem Wd88 {a0 : Array Value} {Z : State} (hw : ∀ d ∈ tables_1, d.before a0 Z = true) : (Jvm.Cond.selects "java/util/BitSet" ({ cls := "java/util/BitSet", name := "length", desc := "()I" } : Jvm.MethodName) ({ cls := "java/util/BitSet", name := "length", desc := "()I" } : Jvm.MethodName)).before a0 Z = true := hw _ (List.mem_of_getElem? (i := 88) rfl)
theorem Wd101 {a0 : Array Value} {Z : State} (hw : ∀ d ∈ tables_1, d.before a0 Z = true) : (Jvm.Cond.code ({ cls := "java/util/BitSet", name := "cardinality", desc := "()I" } : Jvm.MethodName) jdk_92_method_35_code (3 : Nat) (Option.some Jvm.ClassFile.FieldType.int)).before a0 Z = true := hw _ (List.mem_of_getElem? (i := 101) rfl)
theorem Wd97 {a0 : Array Value} {Z : State} (hw : ∀ d ∈ tables_1, d.before a0 Z = true) : (Jvm.Cond.methodLink "com/example/rhadamanthus/rhadamanthus/model/CronFieldAllPinLaw" (58 : Nat) ({ cls := "java/util/BitSet", name := "cardinality", desc := "()I" } : Jvm.MethodName)).before a0 Z = true := hw _ (List.mem_of_getElem? (i := 97) rfl)
theorem Wd99 {a0 : Array Value} {Z : State} (hw : ∀ d ∈ tables_1, d.before a0 Z = true) : (Jvm.Cond.instanceMethod ({ cls := "java/util/BitSet", name := "cardinality", desc := "()I" } : Jvm.MethodName)).before a0 Z = true := hw _ (List.mem_of_getElem? (i := 99) rfl)
theorem Wd100 {a0 : Array Value} {Z : State} (hw : ∀ d ∈ tables_1, d.before a0 Z = true) : (Jvm.Cond.selects "java/util/BitSet" ({ cls := "java/util/BitSet", name := "cardinality", desc := "()I" } : Jvm.MethodName) ({ cls := "java/util/BitSet", name := "cardinality", desc := "()I" } : Jvm.MethodName)).before a0 Z = true := hw _ (List.mem_of_getElem? (i := 100) rfl)
theorem Wd112 {a0 : Array Value} {Z : State} (hw : ∀ d ∈ tables_1, d.before a0 Z = true) : (Jvm.Cond.code ({ cls := "java/util/BitSet", name := "get", desc := "(I)Z" } : Jvm.MethodName) jdk_92_method_26_code (3 : Nat) (Option.some Jvm.ClassFile.FieldType.boolean)).before a0 Z = true := hw _ (List.mem_of_getElem? (i := 112) rfl)
theorem pd_10 : parseMethodDescriptor "(I)Z" = some ⟨[.int], some .boolean⟩ := by decide +kernel
theorem Wd108 {a0 : Array Value} {Z : State} (hw : ∀ d ∈ tables_1, d.before a0 Z = true) : (Jvm.Cond.methodLink "com/example/rhadamanthus/rhadamanthus/model/CronFieldAllPinLaw" (61 : Nat) ({ cls := "java/util/BitSet", name := "get", desc := "(I)Z" } : Jvm.MethodName)).before a0 Z = true := hw _ (List.mem_of_getElem? (i := 108) rfl)
theorem Wd110 {a0 : Array Value} {Z : State} (hw : ∀ d ∈ tables_1, d.before a0 Z = true) : (Jvm.Cond.instanceMethod ({ cls := "java/util/BitSet", name := "get", desc := "(I)Z" } : Jvm.MethodName)).before a0 Z = true := hw _ (List.mem_of_getElem? (i := 110) rfl)
theorem Wd111 {a0 : Array Value} {Z : State} (hw : ∀ d ∈ tables_1, d.before a0 Z = true) : (Jvm.Cond.selects "java/util/BitSet" ({ cls := "java/util/BitSet", name := "get", desc := "(I)Z" } : Jvm.MethodName) ({ cls := "java/util/BitSet", name := "get", desc := "(I)Z" } : Jvm.MethodName)).before a0 Z = true := hw _ (List.mem_of_getElem? (i := 111) rfl)
set_option maxRecDepth 65536 in
set_option maxHeartbeats 40000000 in
theorem rm0 (l : Launch) (Z : State) (a0 : Array Value) (hw : ∀ d ∈ tables_1, d.before a0 Z = true) (ws : List Jvm.Cond) (p0 p1 : Int32) (r_SECOND r_DAY_OF_MONTH r_MINUTE r_MONTH r_YEAR r_DAY_OF_WEEK r_HOUR : Addr) (h0 : Heap) (n0 : Nat) (Z0 : n0 ≤ h0.size) (S_r_SECOND : Sta Z h0 "com/example/rhadamanthus/rhadamanthus/model/CronField" "SECOND" "Lcom/example/rhadamanthus/rhadamanthus/model/CronField;" (.ref r_SECOND)) (E_r_SECOND : Exa Z h0 r_SECOND "com/example/rhadamanthus/rhadamanthus/model/CronField") (F_r_SECOND_min : Fld Z h0 r_SECOND "com/example/rhadamanthus/rhadamanthus/model/CronField" "min" "I" (.int (0 : Int32))) (F_r_SECOND_max : Fld Z h0 r_SECOND "com/example/rhadamanthus/rhadamanthus/model/CronField" "max" "I" (.int (59 : Int32))) (S_r_DAY_OF_MONTH : Sta Z h0 "com/example/rhadamanthus/rhadamanthus/model/CronField" "DAY_OF_MONTH" "Lcom/example/rhadamanthus/rhadamanthus/model/CronField;" (.ref r_DAY_OF_MONTH)) (E_r_DAY_OF_MONTH : Exa Z h0 r_DAY_OF_MONTH "com/example/rhadamanthus/rhadamanthus/model/CronField") (F_r_DAY_OF_MONTH_min : Fld Z h0 r_DAY_OF_MONTH "com/example/rhadamanthus/rhadamanthus/model/CronField" "min" "I" (.int (1 : Int32))) (F_r_DAY_OF_MONTH_max : Fld Z h0 r_DAY_OF_MONTH "com/example/rhadamanthus/rhadamanthus/model/CronField" "max" "I" (.int (31 : Int32))) (S_r_MINUTE : Sta Z h0 "com/example/rhadamanthus/rhadamanthus/model/CronField" "MINUTE" "Lcom/example/rhadamanthus/rhadamanthus/model/CronField;" (.ref r_MINUTE)) (E_r_MINUTE : Exa Z h0 r_MINUTE "com/example/rhadamanthus/rhadamanthus/model/CronField") (F_r_MINUTE_min : Fld Z h0 r_MINUTE "com/example/rhadamanthus/rhadamanthus/model/CronField" "min" "I" (.int (0 : Int32))) (F_r_MINUTE_max : Fld Z h0 r_MINUTE "com/example/rhadamanthus/rhadamanthus/model/CronField" "max" "I" (.int (59 : Int32))) (S_r_MONTH : Sta Z h0 "com/example/rhadamanthus/rhadamanthus/model/CronField" "MONTH" "Lcom/example/rhadamanthus/rhadamanthus/model/CronField;" (.ref r_MONTH)) (E_r_MONTH : Exa Z h0 r_MONTH "com/example/rhadamanthus/rhadamanthus/model/CronField") (F_r_MONTH_min : Fld Z h0 r_MONTH "com/example/rhadamanthus/rhadamanthus/model/CronField" "min" "I" (.int (1 : Int32))) (F_r_MONTH_max : Fld Z h0 r_MONTH "com/example/rhadamanthus/rhadamanthus/model/CronField" "max" "I" (.int (12 : Int32))) (S_r_YEAR : Sta Z h0 "com/example/rhadamanthus/rhadamanthus/model/CronField" "YEAR" "Lcom/example/rhadamanthus/rhadamanthus/model/CronField;" (.ref r_YEAR)) (E_r_YEAR : Exa Z h0 r_YEAR "com/example/rhadamanthus/rhadamanthus/model/CronField") (F_r_YEAR_min : Fld Z h0 r_YEAR "com/example/rhadamanthus/rhadamanthus/model/CronField" "min" "I" (.int (1970 : Int32))) (F_r_YEAR_max : Fld Z h0 r_YEAR "com/example/rhadamanthus/rhadamanthus/model/CronField" "max" "I" (.int (2099 : Int32))) (S_r_DAY_OF_WEEK : Sta Z h0 "com/example/rhadamanthus/rhadamanthus/model/CronField" "DAY_OF_WEEK" "Lcom/example/rhadamanthus/rhadamanthus/model/CronField;" (.ref r_DAY_OF_WEEK)) (E_r_DAY_OF_WEEK : Exa Z h0 r_DAY_OF_WEEK "com/example/rhadamanthus/rhadamanthus/model/CronField") (F_r_DAY_OF_WEEK_min : Fld Z h0 r_DAY_OF_WEEK "com/example/rhadamanthus/rhadamanthus/model/CronField" "min" "I" (.int (1 : Int32))) (F_r_DAY_OF_WEEK_max : Fld Z h0 r_DAY_OF_WEEK "com/example/rhadamanthus/rhadamanthus/model/CronField" "max" "I" (.int (7 : Int32))) (S_r_HOUR : Sta Z h0 "com/example/rhadamanthus/rhadamanthus/model/CronField" "HOUR" "Lcom/example/rhadamanthus/rhadamanthus/model/CronField;" (.ref r_HOUR)) (E_r_HOUR : Exa Z h0 r_HOUR "com/example/rhadamanthus/rhadamanthus/model/CronField") (F_r_HOUR_min : Fld Z h0 r_HOUR "com/example/rhadamanthus/rhadamanthus/model/CronField" "min" "I" (.int (0 : Int32))) (F_r_HOUR_max : Fld Z h0 r_HOUR "com/example/rhadamanthus/rhadamanthus/model/CronField" "max" "I" (.int (23 : Int32))) (B_ad : own_AD n0 Z h0) :
    MetFree l x (head1 (Jvm.Cond.code x code maxLocals ret :: ws) room_1) (fun aa U => aa = #[(.int p0), (.int p1)] ∧ Z.Warmed39 U.vm ∧ U.heap = h0) (fun _ _ _ _ _ => True) (fun _ U o U' => ∃ v L, o = .returned v ∧ Q0 n0 v U'.heap L ∧ FrameEnd U o U' L 16 192) := by
  refine own_body pf_24 ?_
  intro p e s m below meth c s₁ hx hby hml hown hnm hlk hret hZ X0 e0
  have N0 : Fr n0 [] := Fr.nil n0
  refine own_go (f' := (mkF m 0 #[.val (.int p0), .val (.int p1), .unset, .unset, .unset, .unset, .unset, .unset, .unset, .unset, .unset] [])) (fun t k => castTop (ef_rm0 m p0 p1) k) ?_
  refine own_iloadN X0 hx (pc' := 1) (hb hby at_0) rfl rfl ?_
  refine own_ldcI X0 hx (pc' := 3) hZ hown (Wd0 hw) (hb hby at_1) rfl ?_
  refine own_iand X0 hx (pc' := 4) (hb hby at_3) rfl rfl ?_
  refine own_bipush X0 hx (pc' := 6) (7 : Int32) (hb hby at_4) rfl rfl ?_
  refine own_irem X0 hx (pc' := 7) (hb hby at_6) (by decide) rfl ?_
  refine own_istoreN X0 hx (pc' := 8) (Ls' := #[.val (.int p0), .val (.int p1), .val (.int ((p0 &&& (2147483647 : Int32)) % (7 : Int32))), .unset, .unset, .unset, .unset, .unset, .unset, .unset, .unset]) (hb hby at_7) rfl rfl ?_
  have hk : ((p0 &&& (2147483647 : Int32)) % (7 : Int32)) = (0 : Int32) ∨ ((p0 &&& (2147483647 : Int32)) % (7 : Int32)) = (1 : Int32) ∨ ((p0 &&& (2147483647 : Int32)) % (7 : Int32)) = (2 : Int32) ∨ ((p0 &&& (2147483647 : Int32)) % (7 : Int32)) = (3 : Int32) ∨ ((p0 &&& (2147483647 : Int32)) % (7 : Int32)) = (4 : Int32) ∨ ((p0 &&& (2147483647 : Int32)) % (7 : Int32)) = (5 : Int32) ∨ ((p0 &&& (2147483647 : Int32)) % (7 : Int32)) = (6 : Int32) := by
    have q1 := c_mask p0 (2147483647 : Int32) 31 (by decide) (by decide)
    have q2 := (c_irem (p0 &&& (2147483647 : Int32)) (7 : Int32) 7 (by decide)).1 (by omega)
    simp only [← Int32.toInt_inj, own_t32_0, own_t32_1, own_t32_2, own_t32_3, own_t32_4, own_t32_5, own_t32_6]
    omega
  rcases hk with hk | hk | hk | hk | hk | hk | hk
  · rw [hk]
    refine own_iloadN X0 hx (pc' := 9) (hb hby at_8) rfl rfl ?_
    refine own_callS X0 hx (pc' := 12) hZ hown (Wd1 hw) (Wd2 hw) (Wd3 hw) (Wd4 hw) (by decide) (rm_field l Z a0 hw [] (0 : Int32) r_SECOND r_MINUTE r_HOUR r_DAY_OF_MONTH r_MONTH r_DAY_OF_WEEK r_YEAR h0 n0 Z0 S_r_SECOND S_r_DAY_OF_MONTH S_r_MINUTE S_r_MONTH S_r_YEAR S_r_DAY_OF_WEEK S_r_HOUR) e0 0 (by decide) (by decide) (by decide) (by decide) [(.int (0 : Int32))] [] (by rw [hml]; rfl) (lenOf pd_7 rfl) rfl rfl (Nat.le_of_eq rfl) (hb hby at_9) rfl (fun v1 T1 L1 X1 hQ1 => ?_)
    obtain ⟨hv1, Nq1, e1⟩ := hQ1
    have N2 := Fr.app N0 Nq1
    rw [show own_field (0 : Int32) r_SECOND r_MINUTE r_HOUR r_DAY_OF_MONTH r_MONTH r_DAY_OF_WEEK r_YEAR = r_SECOND from rfl] at hv1
    subst hv1
    show own_G p.tables e below _ T1 (mkF m 12 #[.val (.int p0), .val (.int p1), .val (.int (0 : Int32)), .unset, .unset, .unset, .unset, .unset, .unset, .unset, .unset] [(.ref r_SECOND)])
    refine own_astoreN X1 hx (pc' := 13) (Ls' := #[.val (.int p0), .val (.int p1), .val (.int (0 : Int32)), .val (.ref r_SECOND), .unset, .unset, .unset, .unset, .unset, .unset, .unset]) (hb hby at_12) rfl rfl rfl ?_
    refine own_iloadN X1 hx (pc' := 14) (hb hby at_13) rfl rfl ?_
    refine own_callS X1 hx (pc' := 17) hZ hown (Wd8 hw) (Wd9 hw) (Wd3 hw) (Wd10 hw) (by decide) (rm_low l Z a0 hw [] (0 : Int32) h0 n0 Z0) e1 0 (by decide) (by decide) (by decide) (by decide) [(.int (0 : Int32))] [] (by rw [hml]; rfl) (lenOf pd_0 rfl) rfl rfl (Nat.le_of_eq rfl) (hb hby at_14) rfl (fun v3 T3 L3 X3 hQ3 => ?_)
    obtain ⟨rfl, Nq3, e3⟩ := hQ3
    have N4 := Fr.app N2 Nq3
    show own_G p.tables e below _ T3 (mkF m 17 #[.val (.int p0), .val (.int p1), .val (.int (0 : Int32)), .val (.ref r_SECOND), .unset, .unset, .unset, .unset, .unset, .unset, .unset] [(.int (own_lowk (0 : Int32)))])
    rw [show own_lowk (0 : Int32) = (0 : Int32) from by decide]
    refine own_istore X3 hx (pc' := 19) (Ls' := #[.val (.int p0), .val (.int p1), .val (.int (0 : Int32)), .val (.ref r_SECOND), .val (.int (0 : Int32)), .unset, .unset, .unset, .unset, .unset, .unset]) (hb hby at_17) rfl rfl ?_
    refine own_iloadN X3 hx (pc' := 20) (hb hby at_19) rfl rfl ?_
    refine own_callS X3 hx (pc' := 23) hZ hown (Wd11 hw) (Wd12 hw) (Wd3 hw) (Wd13 hw) (by decide) (rm_high l Z a0 hw [] (0 : Int32) h0 n0 Z0) e3 0 (by decide) (by decide) (by decide) (by decide) [(.int (0 : Int32))] [] (by rw [hml]; rfl) (lenOf pd_0 rfl) rfl rfl (Nat.le_of_eq rfl) (hb hby at_20) rfl (fun v5 T5 L5 X5 hQ5 => ?_)
    obtain ⟨rfl, Nq5, e5⟩ := hQ5
    have N6 := Fr.app N4 Nq5
    show own_G p.tables e below _ T5 (mkF m 23 #[.val (.int p0), .val (.int p1), .val (.int (0 : Int32)), .val (.ref r_SECOND), .val (.int (0 : Int32)), .unset, .unset, .unset, .unset, .unset, .unset] [(.int (own_highk (0 : Int32)))])
    rw [show own_highk (0 : Int32) = (59 : Int32) from by decide]
    refine own_istore X5 hx (pc' := 25) (Ls' := #[.val (.int p0), .val (.int p1), .val (.int (0 : Int32)), .val (.ref r_SECOND), .val (.int (0 : Int32)), .val (.int (59 : Int32)), .unset, .unset, .unset, .unset, .unset]) (hb hby at_23) rfl rfl ?_
    refine own_aloadN X5 hx (pc' := 26) (hb hby at_25) rfl rfl rfl ?_
    refine own_callV X5 hx (pc' := 29) hZ hown (Wd14 hw) (Wd16 hw) (Wd17 hw) (Wd18 hw) (Wd6 hw) (by decide) (rm_a1 l Z a0 hw [] r_SECOND (0 : Int32) (59 : Int32) h0 n0 Z0 F_r_SECOND_min F_r_SECOND_max B_ad (by decide) (by decide) (by decide) (by decide) (by decide) (by decide)) e5 E_r_SECOND 0 (by decide) (by decide) (by decide) (by decide) [] [] (by rw [hml]; rfl) (lenOf pd_8 rfl) rfl rfl (Nat.le_of_eq rfl) (hb hby at_26) rfl (fun v7 T7 L7 X7 hQ7 => ?_)
    obtain ⟨Nq7, K7, bs, wa, rfl, G0_7, G1_7, G2_7, G3_7⟩ := hQ7
    have N8 := Fr.app N6 Nq7
    have Z9 : n0 ≤ T7.heap.size := Nat.le_trans Z0 K7.1
    have F10 := (B_ad.keep K7 (fun x hx => absurd hx List.not_mem_nil))
    show own_G p.tables e below _ T7 (mkF m 29 #[.val (.int p0), .val (.int p1), .val (.int (0 : Int32)), .val (.ref r_SECOND), .val (.int (0 : Int32)), .val (.int (59 : Int32)), .unset, .unset, .unset, .unset, .unset] [(.ref bs)])
    refine own_astore X7 hx (pc' := 31) (Ls' := #[.val (.int p0), .val (.int p1), .val (.int (0 : Int32)), .val (.ref r_SECOND), .val (.int (0 : Int32)), .val (.int (59 : Int32)), .val (.ref bs), .unset, .unset, .unset, .unset]) (hb hby at_29) rfl rfl rfl ?_
    refine own_iloadN X7 hx (pc' := 32) (hb hby at_31) rfl rfl ?_
    refine own_sipush X7 hx (pc' := 35) (4095 : Int32) (hb hby at_32) rfl rfl ?_
    refine own_iand X7 hx (pc' := 36) (hb hby at_35) rfl rfl ?_
    obtain ⟨P, hP, eP⟩ : ∃ A : Nat, A < 4096 ∧ (p1 &&& (4095 : Int32)) = Int32.ofNat A := own_m12 p1
    rw [eP]
    refine own_istore X7 hx (pc' := 38) (Ls' := #[.val (.int p0), .val (.int p1), .val (.int (0 : Int32)), .val (.ref r_SECOND), .val (.int (0 : Int32)), .val (.int (59 : Int32)), .val (.ref bs), .val (.int (Int32.ofNat P)), .unset, .unset, .unset]) (hb hby at_36) rfl rfl ?_
    refine own_iload X7 hx (pc' := 40) (hb hby at_38) rfl rfl ?_
    refine own_iload X7 hx (pc' := 42) (hb hby at_40) rfl rfl ?_
    by_cases hc42_11 : (Int32.ofNat P) < (0 : Int32)
    · skip
      refine own_icmpYes X7 hx (pc' := 56) (hb hby at_42) (tlt hc42_11).2.2.1 (by decide) (by decide) ?_
      refine own_iconst X7 hx (pc' := 57) (0 : Int32) (hb hby at_56) rfl rfl ?_
      refine own_istore X7 hx (pc' := 59) (Ls' := #[.val (.int p0), .val (.int p1), .val (.int (0 : Int32)), .val (.ref r_SECOND), .val (.int (0 : Int32)), .val (.int (59 : Int32)), .val (.ref bs), .val (.int (Int32.ofNat P)), .val (.int (0 : Int32)), .unset, .unset]) (hb hby at_57) rfl rfl ?_
      refine own_aload X7 hx (pc' := 61) (hb hby at_59) rfl rfl rfl ?_
      refine own_iconst X7 hx (pc' := 62) (0 : Int32) (hb hby at_61) rfl rfl ?_
      refine own_callV X7 hx (pc' := 65) hZ hown (Wd72 hw) (Wd74 hw) (Wd75 hw) (Wd76 hw) (Wd21 hw) (by decide) (rm_nsb l Z a0 hw [] bs wa 1 1 (own_bits (0 : Int32) ((59 : Int32) + (1 : Int32)))  T7.heap n0 Z9 (by decide) (by decide) (by decide) G0_7 G1_7 G2_7 G3_7 F10) rfl G0_7 0 (by decide) (by decide) (by decide) (by decide) [(.int (0 : Int32))] [] (by rw [hml]; rfl) (lenOf pd_0 rfl) rfl rfl (Nat.le_of_eq rfl) (hb hby at_62) rfl (fun v12 T12 L12 X12 hQ12 => ?_)
      obtain ⟨rfl, Nq12, e12⟩ := hQ12
      have N13 := Fr.app N8 Nq12
      show own_G p.tables e below _ T12 (mkF m 65 #[.val (.int p0), .val (.int p1), .val (.int (0 : Int32)), .val (.ref r_SECOND), .val (.int (0 : Int32)), .val (.int (59 : Int32)), .val (.ref bs), .val (.int (Int32.ofNat P)), .val (.int (0 : Int32)), .unset, .unset] [(.int (own_nsb (own_bits (0 : Int32) ((59 : Int32) + (1 : Int32))) 1))])
      rw [own_vn_0_59]
      refine own_iload X12 hx (pc' := 67) (hb hby at_65) rfl rfl ?_
      refine own_icmpNo X12 hx (pc' := 70) (hb hby at_67) (teq rfl).2 rfl ?_
      refine own_aload X12 hx (pc' := 72) (hb hby at_70) rfl rfl rfl ?_
      refine own_callV X12 hx (pc' := 75) hZ hown (Wd85 hw) (Wd87 hw) (Wd88 hw) (Wd89 hw) (Wd21 hw) (by decide) (rm_len l Z a0 hw [] bs wa 1 1 (own_bits (0 : Int32) ((59 : Int32) + (1 : Int32)))  T7.heap n0 Z9 (by decide) (by decide) (by decide) G0_7 G1_7 G2_7 G3_7 ) e12 G0_7 0 (by decide) (by decide) (by decide) (by decide) [] [] (by rw [hml]; rfl) (lenOf pd_9 rfl) rfl rfl (Nat.le_of_eq rfl) (hb hby at_72) rfl (fun v14 T14 L14 X14 hQ14 => ?_)
      obtain ⟨rfl, Nq14, e14⟩ := hQ14
      have N15 := Fr.app N13 Nq14
      show own_G p.tables e below _ T14 (mkF m 75 #[.val (.int p0), .val (.int p1), .val (.int (0 : Int32)), .val (.ref r_SECOND), .val (.int (0 : Int32)), .val (.int (59 : Int32)), .val (.ref bs), .val (.int (Int32.ofNat P)), .val (.int (0 : Int32)), .unset, .unset] [(.int (own_blen (own_bits (0 : Int32) ((59 : Int32) + (1 : Int32))) 1))])
      rw [own_vl_0_59]
      refine own_iload X14 hx (pc' := 77) (hb hby at_75) rfl rfl ?_
      refine own_iconst X14 hx (pc' := 78) (1 : Int32) (hb hby at_77) rfl rfl ?_
      refine own_iadd X14 hx (pc' := 79) (z := (60 : Int32)) (hb hby at_78) (by decide) rfl ?_
      refine own_icmpNo X14 hx (pc' := 82) (hb hby at_79) (teq rfl).2 rfl ?_
      refine own_aload X14 hx (pc' := 84) (hb hby at_82) rfl rfl rfl ?_
      refine own_callV X14 hx (pc' := 87) hZ hown (Wd97 hw) (Wd99 hw) (Wd100 hw) (Wd101 hw) (Wd21 hw) (by decide) (rm_card l Z a0 hw [] bs wa 1 1 (own_bits (0 : Int32) ((59 : Int32) + (1 : Int32)))  T7.heap n0 Z9 (by decide) (by decide) (by decide) G0_7 G1_7 G2_7 G3_7 ) e14 G0_7 0 (by decide) (by decide) (by decide) (by decide) [] [] (by rw [hml]; rfl) (lenOf pd_9 rfl) rfl rfl (Nat.le_of_eq rfl) (hb hby at_84) rfl (fun v16 T16 L16 X16 hQ16 => ?_)
      obtain ⟨rfl, Nq16, e16⟩ := hQ16
      have N17 := Fr.app N15 Nq16
      show own_G p.tables e below _ T16 (mkF m 87 #[.val (.int p0), .val (.int p1), .val (.int (0 : Int32)), .val (.ref r_SECOND), .val (.int (0 : Int32)), .val (.int (59 : Int32)), .val (.ref bs), .val (.int (Int32.ofNat P)), .val (.int (0 : Int32)), .unset, .unset] [(.int (own_card (own_bits (0 : Int32) ((59 : Int32) + (1 : Int32))) 1 0 (0 : Int32)))])
      rw [own_vc_0_59]
      refine own_iload X16 hx (pc' := 89) (hb hby at_87) rfl rfl ?_
      refine own_iload X16 hx (pc' := 91) (hb hby at_89) rfl rfl ?_
      refine own_isub X16 hx (pc' := 92) (z := (59 : Int32)) (hb hby at_91) (by decide) rfl ?_
      refine own_iconst X16 hx (pc' := 93) (1 : Int32) (hb hby at_92) rfl rfl ?_
      refine own_iadd X16 hx (pc' := 94) (z := (60 : Int32)) (hb hby at_93) (by decide) rfl ?_
      refine own_icmpNo X16 hx (pc' := 97) (hb hby at_94) (teq rfl).2 rfl ?_
      refine own_iconst X16 hx (pc' := 98) (1 : Int32) (hb hby at_97) rfl rfl ?_
      refine own_goto X16 hx (pc' := 102) (hb hby at_98) (by decide) (by decide) ?_
      refine own_istore X16 hx (pc' := 104) (Ls' := #[.val (.int p0), .val (.int p1), .val (.int (0 : Int32)), .val (.ref r_SECOND), .val (.int (0 : Int32)), .val (.int (59 : Int32)), .val (.ref bs), .val (.int (Int32.ofNat P)), .val (.int (0 : Int32)), .val (.int (1 : Int32)), .unset]) (hb hby at_102) rfl rfl ?_
      refine own_aload X16 hx (pc' := 106) (hb hby at_104) rfl rfl rfl ?_
      refine own_iload X16 hx (pc' := 108) (hb hby at_106) rfl rfl ?_
      refine own_callV X16 hx (pc' := 111) hZ hown (Wd108 hw) (Wd110 hw) (Wd111 hw) (Wd112 hw) (Wd21 hw) (by decide) (rm_get l Z a0 hw [] bs wa 1 1 (own_bits (0 : Int32) ((59 : Int32) + (1 : Int32))) (0 : Int32) 0 T7.heap n0 Z9 (by decide) (by decide) (by decide) G0_7 G1_7 G2_7 G3_7 F10 (by decide) (by decide) (by decide)) e16 G0_7 0 (by decide) (by decide) (by decide) (by decide) [(.int (0 : Int32))] [] (by rw [hml]; rfl) (lenOf pd_10 rfl) rfl rfl (Nat.le_of_eq rfl) (hb hby at_108) rfl (fun v18 T18 L18 X18 hQ18 => ?_)
      obtain ⟨rfl, Nq18, e18⟩ := hQ18
      have N19 := Fr.app N17 Nq18
      show own_G p.tables e below _ T18 (mkF m 111 #[.val (.int p0), .val (.int p1), .val (.int (0 : Int32)), .val (.ref r_SECOND), .val (.int (0 : Int32)), .val (.int (59 : Int32)), .val (.ref bs), .val (.int (Int32.ofNat P)), .val (.int (0 : Int32)), .val (.int (1 : Int32)), .unset] [(.int (own_get (own_bits (0 : Int32) ((59 : Int32) + (1 : Int32))) 1 0 (0 : Int32)))])
      rw [own_vg_0_59_0]
      refine own_ifNo X18 hx (pc' := 114) (hb hby at_111) (feq (by decide : ¬ ((1 : Int32) = (0 : Int32)))).1 rfl ?_
      refine own_aload X18 hx (pc' := 116) (hb hby at_114) rfl rfl rfl ?_
      refine own_iload X18 hx (pc' := 118) (hb hby at_116) rfl rfl ?_
      refine own_callV X18 hx (pc' := 121) hZ hown (Wd108 hw) (Wd110 hw) (Wd111 hw) (Wd112 hw) (Wd21 hw) (by decide) (rm_get l Z a0 hw [] bs wa 1 1 (own_bits (0 : Int32) ((59 : Int32) + (1 : Int32))) (59 : Int32) 0 T7.heap n0 Z9 (by decide) (by decide) (by decide) G0_7 G1_7 G2_7 G3_7 F10 (by decide) (by decide) (by decide)) e18 G0_7 0 (by decide) (by decide) (by decide) (by decide) [(.int (59 : Int32))] [] (by rw [hml]; rfl) (lenOf pd_10 rfl) rfl rfl (Nat.le_of_eq rfl) (hb hby at_118) rfl (fun v20 T20 L20 X20 hQ20 => ?_)
      obtain ⟨rfl, Nq20, e20⟩ := hQ20
      have N21 := Fr.app N19 Nq20
      show own_G p.tables e below _ T20 (mkF m 121 #[.val (.int p0), .val (.int p1), .val (.int (0 : Int32)), .val (.ref r_SECOND), .val (.int (0 : Int32)), .val (.int (59 : Int32)), .val (.ref bs), .val (.int (Int32.ofNat P)), .val (.int (0 : Int32)), .val (.int (1 : Int32)), .unset] [(.int (own_get (own_bits (0 : Int32) ((59 : Int32) + (1 : Int32))) 1 0 (59 : Int32)))])
      rw [own_vg_0_59_59]
      refine own_ifNo X20 hx (pc' := 124) (hb hby at_121) (feq (by decide : ¬ ((1 : Int32) = (0 : Int32)))).1 rfl ?_
      refine own_iload X20 hx (pc' := 126) (hb hby at_124) rfl rfl ?_
      refine own_ifYes X20 hx (pc' := 141) (hb hby at_126) (teq rfl).1 (by decide) (by decide) ?_
      refine own_aload X20 hx (pc' := 143) (hb hby at_141) rfl rfl rfl ?_
      refine own_iload X20 hx (pc' := 145) (hb hby at_143) rfl rfl ?_
      refine own_iconst X20 hx (pc' := 146) (1 : Int32) (hb hby at_145) rfl rfl ?_
      refine own_iadd X20 hx (pc' := 147) (z := (60 : Int32)) (hb hby at_146) (by decide) rfl ?_
      refine own_callV X20 hx (pc' := 150) hZ hown (Wd108 hw) (Wd110 hw) (Wd111 hw) (Wd112 hw) (Wd21 hw) (by decide) (rm_get l Z a0 hw [] bs wa 1 1 (own_bits (0 : Int32) ((59 : Int32) + (1 : Int32))) (60 : Int32) 0 T7.heap n0 Z9 (by decide) (by decide) (by decide) G0_7 G1_7 G2_7 G3_7 F10 (by decide) (by decide) (by decide)) e20 G0_7 0 (by decide) (by decide) (by decide) (by decide) [(.int (60 : Int32))] [] (by rw [hml]; rfl) (lenOf pd_10 rfl) rfl rfl (Nat.le_of_eq rfl) (hb hby at_147) rfl (fun v22 T22 L22 X22 hQ22 => ?_)
      obtain ⟨rfl, Nq22, e22⟩ := hQ22
      have N23 := Fr.app N21 Nq22
      show own_G p.tables e below _ T22 (mkF m 150 #[.val (.int p0), .val (.int p1), .val (.int (0 : Int32)), .val (.ref r_SECOND), .val (.int (0 : Int32)), .val (.int (59 : Int32)), .val (.ref bs), .val (.int (Int32.ofNat P)), .val (.int (0 : Int32)), .val (.int (1 : Int32)), .unset] [(.int (own_get (own_bits (0 : Int32) ((59 : Int32) + (1 : Int32))) 1 0 (60 : Int32)))])
      rw [own_vg_0_59_60]
      refine own_ifNo X22 hx (pc' := 153) (hb hby at_150) (teq rfl).2 rfl ?_
      refine own_iconst X22 hx (pc' := 154) (1 : Int32) (hb hby at_153) rfl rfl ?_
      refine own_goto X22 hx (pc' := 158) (hb hby at_154) (by decide) (by decide) ?_
      refine own_istore X22 hx (pc' := 160) (Ls' := #[.val (.int p0), .val (.int p1), .val (.int (0 : Int32)), .val (.ref r_SECOND), .val (.int (0 : Int32)), .val (.int (59 : Int32)), .val (.ref bs), .val (.int (Int32.ofNat P)), .val (.int (0 : Int32)), .val (.int (1 : Int32)), .val (.int (1 : Int32))]) (hb hby at_158) rfl rfl ?_
      refine own_iload X22 hx (pc' := 162) (hb hby at_160) rfl rfl ?_
      refine own_ifNo X22 hx (pc' := 165) (hb hby at_162) (feq (by decide : ¬ ((1 : Int32) = (0 : Int32)))).1 rfl ?_
      refine own_iload X22 hx (pc' := 167) (hb hby at_165) rfl rfl ?_
      refine own_ifNo X22 hx (pc' := 170) (hb hby at_167) (feq (by decide : ¬ ((1 : Int32) = (0 : Int32)))).1 rfl ?_
      refine own_aload X22 hx (pc' := 172) (hb hby at_170) rfl rfl rfl ?_
      refine own_iload X22 hx (pc' := 174) (hb hby at_172) rfl rfl ?_
      refine own_callV X22 hx (pc' := 177) hZ hown (Wd108 hw) (Wd110 hw) (Wd111 hw) (Wd112 hw) (Wd21 hw) (by decide) (rm_get l Z a0 hw [] bs wa 1 1 (own_bits (0 : Int32) ((59 : Int32) + (1 : Int32))) (Int32.ofNat P) (P / 64) T7.heap n0 Z9 (by decide) (by decide) (by decide) G0_7 G1_7 G2_7 G3_7 F10 (own_clamp (n := P) (by omega)).1 (own_wiP P hP) (by omega)) e22 G0_7 0 (by decide) (by decide) (by decide) (by decide) [(.int (Int32.ofNat P))] [] (by rw [hml]; rfl) (lenOf pd_10 rfl) rfl rfl (Nat.le_of_eq rfl) (hb hby at_174) rfl (fun v24 T24 L24 X24 hQ24 => ?_)
      obtain ⟨rfl, Nq24, e24⟩ := hQ24
      have N25 := Fr.app N23 Nq24
      show own_G p.tables e below _ T24 (mkF m 177 #[.val (.int p0), .val (.int p1), .val (.int (0 : Int32)), .val (.ref r_SECOND), .val (.int (0 : Int32)), .val (.int (59 : Int32)), .val (.ref bs), .val (.int (Int32.ofNat P)), .val (.int (0 : Int32)), .val (.int (1 : Int32)), .val (.int (1 : Int32))] [(.int (own_get (own_bits (0 : Int32) ((59 : Int32) + (1 : Int32))) 1 (P / 64) (Int32.ofNat P)))])
      rw [own_vP_0_59 P hP, if_pos hc42_11]
      refine own_iload X24 hx (pc' := 179) (hb hby at_177) rfl rfl ?_
      refine own_icmpNo X24 hx (pc' := 182) (hb hby at_179) (teq rfl).2 rfl ?_
      refine own_iconst X24 hx (pc' := 183) (1 : Int32) (hb hby at_182) rfl rfl ?_
      refine own_goto X24 hx (pc' := 187) (hb hby at_183) (by decide) (by decide) ?_
      refine own_retN X24 hx hlk hret (by simp) (hb hby at_187) (by decide) (by decide) ?_
      exact ⟨rfl, N25⟩
    · skip
      refine own_icmpNo X7 hx (pc' := 45) (hb hby at_42) (flt hc42_11).2.2.1 rfl ?_
      refine own_iload X7 hx (pc' := 47) (hb hby at_45) rfl rfl ?_
      refine own_iload X7 hx (pc' := 49) (hb hby at_47) rfl rfl ?_
      by_cases hc49_26 : (59 : Int32) < (Int32.ofNat P)
      · skip
        refine own_icmpYes X7 hx (pc' := 56) (hb hby at_49) (tlt hc49_26).2.2.1 (by decide) (by decide) ?_
        refine own_iconst X7 hx (pc' := 57) (0 : Int32) (hb hby at_56) rfl rfl ?_
        refine own_istore X7 hx (pc' := 59) (Ls' := #[.val (.int p0), .val (.int p1), .val (.int (0 : Int32)), .val (.ref r_SECOND), .val (.int (0 : Int32)), .val (.int (59 : Int32)), .val (.ref bs), .val (.int (Int32.ofNat P)), .val (.int (0 : Int32)), .unset, .unset]) (hb hby at_57) rfl rfl ?_
        refine own_aload X7 hx (pc' := 61) (hb hby at_59) rfl rfl rfl ?_
        refine own_iconst X7 hx (pc' := 62) (0 : Int32) (hb hby at_61) rfl rfl ?_
        refine own_callV X7 hx (pc' := 65) hZ hown (Wd72 hw) (Wd74 hw) (Wd75 hw) (Wd76 hw) (Wd21 hw) (by decide) (rm_nsb l Z a0 hw [] bs wa 1 1 (own_bits (0 : Int32) ((59 : Int32) + (1 : Int32)))  T7.heap n0 Z9 (by decide) (by decide) (by decide) G0_7 G1_7 G2_7 G3_7 F10) rfl G0_7 0 (by decide) (by decide) (by decide) (by decide) [(.int (0 : Int32))] [] (by rw [hml]; rfl) (lenOf pd_0 rfl) rfl rfl (Nat.le_of_eq rfl) (hb hby at_62) rfl (fun v27 T27 L27 X27 hQ27 => ?_)
        obtain ⟨rfl, Nq27, e27⟩ := hQ27
        have N28 := Fr.app N8 Nq27
        show own_G p.tables e below _ T27 (mkF m 65 #[.val (.int p0), .val (.int p1), .val (.int (0 : Int32)), .val (.ref r_SECOND), .val (.int (0 : Int32)), .val (.int (59 : Int32)), .val (.ref bs), .val (.int (Int32.ofNat P)), .val (.int (0 : Int32)), .unset, .unset] [(.int (own_nsb (own_bits (0 : Int32) ((59 : Int32) + (1 : Int32))) 1))])
        rw [own_vn_0_59]
        refine own_iload X27 hx (pc' := 67) (hb hby at_65) rfl rfl ?_
        refine own_icmpNo X27 hx (pc' := 70) (hb hby at_67) (teq rfl).2 rfl ?_
        refine own_aload X27 hx (pc' := 72) (hb hby at_70) rfl rfl rfl ?_
        refine own_callV X27 hx (pc' := 75) hZ hown (Wd85 hw) (Wd87 hw) (Wd88 hw) (Wd89 hw) (Wd21 hw) (by decide) (rm_len l Z a0 hw [] bs wa 1 1 (own_bits (0 : Int32) ((59 : Int32) + (1 : Int32)))  T7.heap n0 Z9 (by decide) (by decide) (by decide) G0_7 G1_7 G2_7 G3_7 ) e27 G0_7 0 (by decide) (by decide) (by decide) (by decide) [] [] (by rw [hml]; rfl) (lenOf pd_9 rfl) rfl rfl (Nat.le_of_eq rfl) (hb hby at_72) rfl (fun v29 T29 L29 X29 hQ29 => ?_)
        obtain ⟨rfl, Nq29, e29⟩ := hQ29
        have N30 := Fr.app N28 Nq29
        show own_G p.tables e below _ T29 (mkF m 75 #[.val (.int p0), .val (.int p1), .val (.int (0 : Int32)), .val (.ref r_SECOND), .val (.int (0 : Int32)), .val (.int (59 : Int32)), .val (.ref bs), .val (.int (Int32.ofNat P)), .val (.int (0 : Int32)), .unset, .unset] [(.int (own_blen (own_bits (0 : Int32) ((59 : Int32) + (1 : Int32))) 1))])
        rw [own_vl_0_59]
        refine own_iload X29 hx (pc' := 77) (hb hby at_75) rfl rfl ?_
        refine own_iconst X29 hx (pc' := 78) (1 : Int32) (hb hby at_77) rfl rfl ?_
        refine own_iadd X29 hx (pc' := 79) (z := (60 : Int32)) (hb hby at_78) (by decide) rfl ?_
        refine own_icmpNo X29 hx (pc' := 82) (hb hby at_79) (teq rfl).2 rfl ?_
        refine own_aload X29 hx (pc' := 84) (hb hby at_82) rfl rfl rfl ?_
        refine own_callV X29 hx (pc' := 87) hZ hown (Wd97 hw) (Wd99 hw) (Wd100 hw) (Wd101 hw) (Wd21 hw) (by decide) (rm_card l Z a0 hw [] bs wa 1 1 (own_bits (0 : Int32) ((59 : Int32) + (1 : Int32)))  T7.heap n0 Z9 (by decide) (by decide) (by decide) G0_7 G1_7 G2_7 G3_7 ) e29 G0_7 0 (by decide) (by decide) (by decide) (by decide) [] [] (by rw [hml]; rfl) (lenOf pd_9 rfl) rfl rfl (Nat.le_of_eq rfl) (hb hby at_84) rfl (fun v31 T31 L31 X31 hQ31 => ?_)
        obtain ⟨rfl, Nq31, e31⟩ := hQ31
        have N32 := Fr.app N30 Nq31
        show own_G p.tables e below _ T31 (mkF m 87 #[.val (.int p0), .val (.int p1), .val (.int (0 : Int32)), .val (.ref r_SECOND), .val (.int (0 : Int32)), .val (.int (59 : Int32)), .val (.ref bs), .val (.int (Int32.ofNat P)), .val (.int (0 : Int32)), .unset, .unset] [(.int (own_card (own_bits (0 : Int32) ((59 : Int32) + (1 : Int32))) 1 0 (0 : Int32)))])
        rw [own_vc_0_59]
        refine own_iload X31 hx (pc' := 89) (hb hby at_87) rfl rfl ?_
        refine own_iload X31 hx (pc' := 91) (hb hby at_89) rfl rfl ?_
        refine own_isub X31 hx (pc' := 92) (z := (59 : Int32)) (hb hby at_91) (by decide) rfl ?_
        refine own_iconst X31 hx (pc' := 93) (1 : Int32) (hb hby at_92) rfl rfl ?_
        refine own_iadd X31 hx (pc' := 94) (z := (60 : Int32)) (hb hby at_93) (by decide) rfl ?_
        refine own_icmpNo X31 hx (pc' := 97) (hb hby at_94) (teq rfl).2 rfl ?_
        refine own_iconst X31 hx (pc' := 98) (1 : Int32) (hb hby at_97) rfl rfl ?_
        refine own_goto X31 hx (pc' := 102) (hb hby at_98) (by decide) (by decide) ?_
        refine own_istore X31 hx (pc' := 104) (Ls' := #[.val (.int p0), .val (.int p1), .val (.int (0 : Int32)), .val (.ref r_SECOND), .val (.int (0 : Int32)), .val (.int (59 : Int32)), .val (.ref bs), .val (.int (Int32.ofNat P)), .val (.int (0 : Int32)), .val (.int (1 : Int32)), .unset]) (hb hby at_102) rfl rfl ?_
        refine own_aload X31 hx (pc' := 106) (hb hby at_104) rfl rfl rfl ?_
        refine own_iload X31 hx (pc' := 108) (hb hby at_106) rfl rfl ?_
        refine own_callV X31 hx (pc' := 111) hZ hown (Wd108 hw) (Wd110 hw) (Wd111 hw) (Wd112 hw) (Wd21 hw) (by decide) (rm_get l Z a0 hw [] bs wa 1 1 (own_bits (0 : Int32) ((59 : Int32) + (1 : Int32))) (0 : Int32) 0 T7.heap n0 Z9 (by decide) (by decide) (by decide) G0_7 G1_7 G2_7 G3_7 F10 (by decide) (by decide) (by decide)) e31 G0_7 0 (by decide) (by decide) (by decide) (by decide) [(.int (0 : Int32))] [] (by rw [hml]; rfl) (lenOf pd_10 rfl) rfl rfl (Nat.le_of_eq rfl) (hb hby at_108) rfl (fun v33 T33 L33 X33 hQ33 => ?_)
        obtain ⟨rfl, Nq33, e33⟩ := hQ33
        have N34 := Fr.app N32 Nq33
        show own_G p.tables e below _ T33 (mkF m 111 #[.val (.int p0), .val (.int p1), .val (.int (0 : Int32)), .val (.ref r_SECOND), .val (.int (0 : Int32)), .val (.int (59 : Int32)), .val (.ref bs), .val (.int (Int32.ofNat P)), .val (.int (0 : Int32)), .val (.int (1 : Int32)), .unset] [(.int (own_get (own_bits (0 : Int32) ((59 : Int32) + (1 : Int32))) 1 0 (0 : Int32)))])
        rw [own_vg_0_59_0]
        refine own_ifNo X33 hx (pc' := 114) (hb hby at_111) (feq (by decide : ¬ ((1 : Int32) = (0 : Int32)))).1 rfl ?_
        refine own_aload X33 hx (pc' := 116) (hb hby at_114) rfl rfl rfl ?_
        refine own_iload X33 hx (pc' := 118) (hb hby at_116) rfl rfl ?_
        refine own_callV X33 hx (pc' := 121) hZ hown (Wd108 hw) (Wd110 hw) (Wd111 hw) (Wd112 hw) (Wd21 hw) (by decide) (rm_get l Z a0 hw [] bs wa 1 1 (own_bits (0 : Int32) ((59 : Int32) + (1 : Int32))) (59 : Int32) 0 T7.heap n0 Z9 (by decide) (by decide) (by decide) G0_7 G1_7 G2_7 G3_7 F10 (by decide) (by decide) (by decide)) e33 G0_7 0 (by decide) (by decide) (by decide) (by decide) [(.int (59 : Int32))] [] (by rw [hml]; rfl) (lenOf pd_10 rfl) rfl rfl (Nat.le_of_eq rfl) (hb hby at_118) rfl (fun v35 T35 L35 X35 hQ35 => ?_)
        obtain ⟨rfl, Nq35, e35⟩ := hQ35
        have N36 := Fr.app N34 Nq35
        show own_G p.tables e below _ T35 (mkF m 121 #[.val (.int p0), .val (.int p1), .val (.int (0 : Int32)), .val (.ref r_SECOND), .val (.int (0 : Int32)), .val (.int (59 : Int32)), .val (.ref bs), .val (.int (Int32.ofNat P)), .val (.int (0 : Int32)), .val (.int (1 : Int32)), .unset] [(.int (own_get (own_bits (0 : Int32) ((59 : Int32) + (1 : Int32))) 1 0 (59 : Int32)))])
        rw [own_vg_0_59_59]
        refine own_ifNo X35 hx (pc' := 124) (hb hby at_121) (feq (by decide : ¬ ((1 : Int32) = (0 : Int32)))).1 rfl ?_
        refine own_iload X35 hx (pc' := 126) (hb hby at_124) rfl rfl ?_
        refine own_ifYes X35 hx (pc' := 141) (hb hby at_126) (teq rfl).1 (by decide) (by decide) ?_
        refine own_aload X35 hx (pc' := 143) (hb hby at_141) rfl rfl rfl ?_
        refine own_iload X35 hx (pc' := 145) (hb hby at_143) rfl rfl ?_
        refine own_iconst X35 hx (pc' := 146) (1 : Int32) (hb hby at_145) rfl rfl ?_
        refine own_iadd X35 hx (pc' := 147) (z := (60 : Int32)) (hb hby at_146) (by decide) rfl ?_
        refine own_callV X35 hx (pc' := 150) hZ hown (Wd108 hw) (Wd110 hw) (Wd111 hw) (Wd112 hw) (Wd21 hw) (by decide) (rm_get l Z a0 hw [] bs wa 1 1 (own_bits (0 : Int32) ((59 : Int32) + (1 : Int32))) (60 : Int32) 0 T7.heap n0 Z9 (by decide) (by decide) (by decide) G0_7 G1_7 G2_7 G3_7 F10 (by decide) (by decide) (by decide)) e35 G0_7 0 (by decide) (by decide) (by decide) (by decide) [(.int (60 : Int32))] [] (by rw [hml]; rfl) (lenOf pd_10 rfl) rfl rfl (Nat.le_of_eq rfl) (hb hby at_147) rfl (fun v37 T37 L37 X37 hQ37 => ?_)
        obtain ⟨rfl, Nq37, e37⟩ := hQ37
        have N38 := Fr.app N36 Nq37
        show own_G p.tables e below _ T37 (mkF m 150 #[.val (.int p0), .val (.int p1), .val (.int (0 : Int32)), .val (.ref r_SECOND), .val (.int (0 : Int32)), .val (.int (59 : Int32)), .val (.ref bs), .val (.int (Int32.ofNat P)), .val (.int (0 : Int32)), .val (.int (1 : Int32)), .unset] [(.int (own_get (own_bits (0 : Int32) ((59 : Int32) + (1 : Int32))) 1 0 (60 : Int32)))])
        rw [own_vg_0_59_60]
        refine own_ifNo X37 hx (pc' := 153) (hb hby at_150) (teq rfl).2 rfl ?_
        refine own_iconst X37 hx (pc' := 154) (1 : Int32) (hb hby at_153) rfl rfl ?_
        refine own_goto X37 hx (pc' := 158) (hb hby at_154) (by decide) (by decide) ?_
        refine own_istore X37 hx (pc' := 160) (Ls' := #[.val (.int p0), .val (.int p1), .val (.int (0 : Int32)), .val (.ref r_SECOND), .val (.int (0 : Int32)), .val (.int (59 : Int32)), .val (.ref bs), .val (.int (Int32.ofNat P)), .val (.int (0 : Int32)), .val (.int (1 : Int32)), .val (.int (1 : Int32))]) (hb hby at_158) rfl rfl ?_
        refine own_iload X37 hx (pc' := 162) (hb hby at_160) rfl rfl ?_
        refine own_ifNo X37 hx (pc' := 165) (hb hby at_162) (feq (by decide : ¬ ((1 : Int32) = (0 : Int32)))).1 rfl ?_
        refine own_iload X37 hx (pc' := 167) (hb hby at_165) rfl rfl ?_
        refine own_ifNo X37 hx (pc' := 170) (hb hby at_167) (feq (by decide : ¬ ((1 : Int32) = (0 : Int32)))).1 rfl ?_
        refine own_aload X37 hx (pc' := 172) (hb hby at_170) rfl rfl rfl ?_
        refine own_iload X37 hx (pc' := 174) (hb hby at_172) rfl rfl ?_
        refine own_callV X37 hx (pc' := 177) hZ hown (Wd108 hw) (Wd110 hw) (Wd111 hw) (Wd112 hw) (Wd21 hw) (by decide) (rm_get l Z a0 hw [] bs wa 1 1 (own_bits (0 : Int32) ((59 : Int32) + (1 : Int32))) (Int32.ofNat P) (P / 64) T7.heap n0 Z9 (by decide) (by decide) (by decide) G0_7 G1_7 G2_7 G3_7 F10 (own_clamp (n := P) (by omega)).1 (own_wiP P hP) (by omega)) e37 G0_7 0 (by decide) (by decide) (by decide) (by decide) [(.int (Int32.ofNat P))] [] (by rw [hml]; rfl) (lenOf pd_10 rfl) rfl rfl (Nat.le_of_eq rfl) (hb hby at_174) rfl (fun v39 T39 L39 X39 hQ39 => ?_)
        obtain ⟨rfl, Nq39, e39⟩ := hQ39
        have N40 := Fr.app N38 Nq39
        show own_G p.tables e below _ T39 (mkF m 177 #[.val (.int p0), .val (.int p1), .val (.int (0 : Int32)), .val (.ref r_SECOND), .val (.int (0 : Int32)), .val (.int (59 : Int32)), .val (.ref bs), .val (.int (Int32.ofNat P)), .val (.int (0 : Int32)), .val (.int (1 : Int32)), .val (.int (1 : Int32))] [(.int (own_get (own_bits (0 : Int32) ((59 : Int32) + (1 : Int32))) 1 (P / 64) (Int32.ofNat P)))])
        rw [own_vP_0_59 P hP, if_neg hc42_11, if_pos hc49_26]
        refine own_iload X39 hx (pc' := 179) (hb hby at_177) rfl rfl ?_
        refine own_icmpNo X39 hx (pc' := 182) (hb hby at_179) (teq rfl).2 rfl ?_
        refine own_iconst X39 hx (pc' := 183) (1 : Int32) (hb hby at_182) rfl rfl ?_
        refine own_goto X39 hx (pc' := 187) (hb hby at_183) (by decide) (by decide) ?_
        refine own_retN X39 hx hlk hret (by simp) (hb hby at_187) (by decide) (by decide) ?_
        exact ⟨rfl, N40⟩
      · skip
        refine own_icmpNo X7 hx (pc' := 52) (hb hby at_49) (flt hc49_26).2.2.1 rfl ?_
        refine own_iconst X7 hx (pc' := 53) (1 : Int32) (hb hby at_52) rfl rfl ?_
        refine own_goto X7 hx (pc' := 57) (hb hby at_53) (by decide) (by decide) ?_
        refine own_istore X7 hx (pc' := 59) (Ls' := #[.val (.int p0), .val (.int p1), .val (.int (0 : Int32)), .val (.ref r_SECOND), .val (.int (0 : Int32)), .val (.int (59 : Int32)), .val (.ref bs), .val (.int (Int32.ofNat P)), .val (.int (1 : Int32)), .unset, .unset]) (hb hby at_57) rfl rfl ?_
        refine own_aload X7 hx (pc' := 61) (hb hby at_59) rfl rfl rfl ?_
        refine own_iconst X7 hx (pc' := 62) (0 : Int32) (hb hby at_61) rfl rfl ?_
        refine own_callV X7 hx (pc' := 65) hZ hown (Wd72 hw) (Wd74 hw) (Wd75 hw) (Wd76 hw) (Wd21 hw) (by decide) (rm_nsb l Z a0 hw [] bs wa 1 1 (own_bits (0 : Int32) ((59 : Int32) + (1 : Int32)))  T7.heap n0 Z9 (by decide) (by decide) (by decide) G0_7 G1_7 G2_7 G3_7 F10) rfl G0_7 0 (by decide) (by decide) (by decide) (by decide) [(.int (0 : Int32))] [] (by rw [hml]; rfl) (lenOf pd_0 rfl) rfl rfl (Nat.le_of_eq rfl) (hb hby at_62) rfl (fun v41 T41 L41 X41 hQ41 => ?_)
        obtain ⟨rfl, Nq41, e41⟩ := hQ41
        have N42 := Fr.app N8 Nq41
        show own_G p.tables e below _ T41 (mkF m 65 #[.val (.int p0), .val (.int p1), .val (.int (0 : Int32)), .val (.ref r_SECOND), .val (.int (0 : Int32)), .val (.int (59 : Int32)), .val (.ref bs), .val (.int (Int32.ofNat P)), .val (.int (1 : Int32)), .unset, .unset] [(.int (own_nsb (own_bits (0 : Int32) ((59 : Int32) + (1 : Int32))) 1))])
        rw [own_vn_0_59]
        refine own_iload X41 hx (pc' := 67) (hb hby at_65) rfl rfl ?_
        refine own_icmpNo X41 hx (pc' := 70) (hb hby at_67) (teq rfl).2 rfl ?_
        refine own_aload X41 hx (pc' := 72) (hb hby at_70) rfl rfl rfl ?_
        refine own_callV X41 hx (pc' := 75) hZ hown (Wd85 hw) (Wd87 hw) (Wd88 hw) (Wd89 hw) (Wd21 hw) (by decide) (rm_len l Z a0 hw [] bs wa 1 1 (own_bits (0 : Int32) ((59 : Int32) + (1 : Int32)))  T7.heap n0 Z9 (by decide) (by decide) (by decide) G0_7 G1_7 G2_7 G3_7 ) e41 G0_7 0 (by decide) (by decide) (by decide) (by decide) [] [] (by rw [hml]; rfl) (lenOf pd_9 rfl) rfl rfl (Nat.le_of_eq rfl) (hb hby at_72) rfl (fun v43 T43 L43 X43 hQ43 => ?_)
        obtain ⟨rfl, Nq43, e43⟩ := hQ43
        have N44 := Fr.app N42 Nq43
        show own_G p.tables e below _ T43 (mkF m 75 #[.val (.int p0), .val (.int p1), .val (.int (0 : Int32)), .val (.ref r_SECOND), .val (.int (0 : Int32)), .val (.int (59 : Int32)), .val (.ref bs), .val (.int (Int32.ofNat P)), .val (.int (1 : Int32)), .unset, .unset] [(.int (own_blen (own_bits (0 : Int32) ((59 : Int32) + (1 : Int32))) 1))])
        rw [own_vl_0_59]
        refine own_iload X43 hx (pc' := 77) (hb hby at_75) rfl rfl ?_
        refine own_iconst X43 hx (pc' := 78) (1 : Int32) (hb hby at_77) rfl rfl ?_
        refine own_iadd X43 hx (pc' := 79) (z := (60 : Int32)) (hb hby at_78) (by decide) rfl ?_
        refine own_icmpNo X43 hx (pc' := 82) (hb hby at_79) (teq rfl).2 rfl ?_
        refine own_aload X43 hx (pc' := 84) (hb hby at_82) rfl rfl rfl ?_
        refine own_callV X43 hx (pc' := 87) hZ hown (Wd97 hw) (Wd99 hw) (Wd100 hw) (Wd101 hw) (Wd21 hw) (by decide) (rm_card l Z a0 hw [] bs wa 1 1 (own_bits (0 : Int32) ((59 : Int32) + (1 : Int32)))  T7.heap n0 Z9 (by decide) (by decide) (by decide) G0_7 G1_7 G2_7 G3_7 ) e43 G0_7 0 (by decide) (by decide) (by decide) (by decide) [] [] (by rw [hml]; rfl) (lenOf pd_9 rfl) rfl rfl (Nat.le_of_eq rfl) (hb hby at_84) rfl (fun v45 T45 L45 X45 hQ45 => ?_)
        obtain ⟨rfl, Nq45, e45⟩ := hQ45
        have N46 := Fr.app N44 Nq45
        show own_G p.tables e below _ T45 (mkF m 87 #[.val (.int p0), .val (.int p1), .val (.int (0 : Int32)), .val (.ref r_SECOND), .val (.int (0 : Int32)), .val (.int (59 : Int32)), .val (.ref bs), .val (.int (Int32.ofNat P)), .val (.int (1 : Int32)), .unset, .unset] [(.int (own_card (own_bits (0 : Int32) ((59 : Int32) + (1 : Int32))) 1 0 (0 : Int32)))])
        rw [own_vc_0_59]
        refine own_iload X45 hx (pc' := 89) (hb hby at_87) rfl rfl ?_
        refine own_iload X45 hx (pc' := 91) (hb hby at_89) rfl rfl ?_
        refine own_isub X45 hx (pc' := 92) (z := (59 : Int32)) (hb hby at_91) (by decide) rfl ?_
        refine own_iconst X45 hx (pc' := 93) (1 : Int32) (hb hby at_92) rfl rfl ?_
        refine own_iadd X45 hx (pc' := 94) (z := (60 : Int32)) (hb hby at_93) (by decide) rfl ?_
        refine own_icmpNo X45 hx (pc' := 97) (hb hby at_94) (teq rfl).2 rfl ?_
        refine own_iconst X45 hx (pc' := 98) (1 : Int32) (hb hby at_97) rfl rfl ?_
        refine own_goto X45 hx (pc' := 102) (hb hby at_98) (by decide) (by decide) ?_
        refine own_istore X45 hx (pc' := 104) (Ls' := #[.val (.int p0), .val (.int p1), .val (.int (0 : Int32)), .val (.ref r_SECOND), .val (.int (0 : Int32)), .val (.int (59 : Int32)), .val (.ref bs), .val (.int (Int32.ofNat P)), .val (.int (1 : Int32)), .val (.int (1 : Int32)), .unset]) (hb hby at_102) rfl rfl ?_
        refine own_aload X45 hx (pc' := 106) (hb hby at_104) rfl rfl rfl ?_
        refine own_iload X45 hx (pc' := 108) (hb hby at_106) rfl rfl ?_
        refine own_callV X45 hx (pc' := 111) hZ hown (Wd108 hw) (Wd110 hw) (Wd111 hw) (Wd112 hw) (Wd21 hw) (by decide) (rm_get l Z a0 hw [] bs wa 1 1 (own_bits (0 : Int32) ((59 : Int32) + (1 : Int32))) (0 : Int32) 0 T7.heap n0 Z9 (by decide) (by decide) (by decide) G0_7 G1_7 G2_7 G3_7 F10 (by decide) (by decide) (by decide)) e45 G0_7 0 (by decide) (by decide) (by decide) (by decide) [(.int (0 : Int32))] [] (by rw [hml]; rfl) (lenOf pd_10 rfl) rfl rfl (Nat.le_of_eq rfl) (hb hby at_108) rfl (fun v47 T47 L47 X47 hQ47 => ?_)
        obtain ⟨rfl, Nq47, e47⟩ := hQ47
        have N48 := Fr.app N46 Nq47
        show own_G p.tables e below _ T47 (mkF m 111 #[.val (.int p0), .val (.int p1), .val (.int (0 : Int32)), .val (.ref r_SECOND), .val (.int (0 : Int32)), .val (.int (59 : Int32)), .val (.ref bs), .val (.int (Int32.ofNat P)), .val (.int (1 : Int32)), .val (.int (1 : Int32)), .unset] [(.int (own_get (own_bits (0 : Int32) ((59 : Int32) + (1 : Int32))) 1 0 (0 : Int32)))])
        rw [own_vg_0_59_0]
        refine own_ifNo X47 hx (pc' := 114) (hb hby at_111) (feq (by decide : ¬ ((1 : Int32) = (0 : Int32)))).1 rfl ?_
        refine own_aload X47 hx (pc' := 116) (hb hby at_114) rfl rfl rfl ?_
        refine own_iload X47 hx (pc' := 118) (hb hby at_116) rfl rfl ?_
        refine own_callV X47 hx (pc' := 121) hZ hown (Wd108 hw) (Wd110 hw) (Wd111 hw) (Wd112 hw) (Wd21 hw) (by decide) (rm_get l Z a0 hw [] bs wa 1 1 (own_bits (0 : Int32) ((59 : Int32) + (1 : Int32))) (59 : Int32) 0 T7.heap n0 Z9 (by decide) (by decide) (by decide) G0_7 G1_7 G2_7 G3_7 F10 (by decide) (by decide) (by decide)) e47 G0_7 0 (by decide) (by decide) (by decide) (by decide) [(.int (59 : Int32))] [] (by rw [hml]; rfl) (lenOf pd_10 rfl) rfl rfl (Nat.le_of_eq rfl) (hb hby at_118) rfl (fun v49 T49 L49 X49 hQ49 => ?_)
        obtain ⟨rfl, Nq49, e49⟩ := hQ49
        have N50 := Fr.app N48 Nq49
        show own_G p.tables e below _ T49 (mkF m 121 #[.val (.int p0), .val (.int p1), .val (.int (0 : Int32)), .val (.ref r_SECOND), .val (.int (0 : Int32)), .val (.int (59 : Int32)), .val (.ref bs), .val (.int (Int32.ofNat P)), .val (.int (1 : Int32)), .val (.int (1 : Int32)), .unset] [(.int (own_get (own_bits (0 : Int32) ((59 : Int32) + (1 : Int32))) 1 0 (59 : Int32)))])
        rw [own_vg_0_59_59]
        refine own_ifNo X49 hx (pc' := 124) (hb hby at_121) (feq (by decide : ¬ ((1 : Int32) = (0 : Int32)))).1 rfl ?_
        refine own_iload X49 hx (pc' := 126) (hb hby at_124) rfl rfl ?_
        refine own_ifYes X49 hx (pc' := 141) (hb hby at_126) (teq rfl).1 (by decide) (by decide) ?_
        refine own_aload X49 hx (pc' := 143) (hb hby at_141) rfl rfl rfl ?_
        refine own_iload X49 hx (pc' := 145) (hb hby at_143) rfl rfl ?_
        refine own_iconst X49 hx (pc' := 146) (1 : Int32) (hb hby at_145) rfl rfl ?_
        refine own_iadd X49 hx (pc' := 147) (z := (60 : Int32)) (hb hby at_146) (by decide) rfl ?_
        refine own_callV X49 hx (pc' := 150) hZ hown (Wd108 hw) (Wd110 hw) (Wd111 hw) (Wd112 hw) (Wd21 hw) (by decide) (rm_get l Z a0 hw [] bs wa 1 1 (own_bits (0 : Int32) ((59 : Int32) + (1 : Int32))) (60 : Int32) 0 T7.heap n0 Z9 (by decide) (by decide) (by decide) G0_7 G1_7 G2_7 G3_7 F10 (by decide) (by decide) (by decide)) e49 G0_7 0 (by decide) (by decide) (by decide) (by decide) [(.int (60 : Int32))] [] (by rw [hml]; rfl) (lenOf pd_10 rfl) rfl rfl (Nat.le_of_eq rfl) (hb hby at_147) rfl (fun v51 T51 L51 X51 hQ51 => ?_)
        obtain ⟨rfl, Nq51, e51⟩ := hQ51
        have N52 := Fr.app N50 Nq51
        show own_G p.tables e below _ T51 (mkF m 150 #[.val (.int p0), .val (.int p1), .val (.int (0 : Int32)), .val (.ref r_SECOND), .val (.int (0 : Int32)), .val (.int (59 : Int32)), .val (.ref bs), .val (.int (Int32.ofNat P)), .val (.int (1 : Int32)), .val (.int (1 : Int32)), .unset] [(.int (own_get (own_bits (0 : Int32) ((59 : Int32) + (1 : Int32))) 1 0 (60 : Int32)))])
        rw [own_vg_0_59_60]
        refine own_ifNo X51 hx (pc' := 153) (hb hby at_150) (teq rfl).2 rfl ?_
        refine own_iconst X51 hx (pc' := 154) (1 : Int32) (hb hby at_153) rfl rfl ?_
        refine own_goto X51 hx (pc' := 158) (hb hby at_154) (by decide) (by decide) ?_
        refine own_istore X51 hx (pc' := 160) (Ls' := #[.val (.int p0), .val (.int p1), .val (.int (0 : Int32)), .val (.ref r_SECOND), .val (.int (0 : Int32)), .val (.int (59 : Int32)), .val (.ref bs), .val (.int (Int32.ofNat P)), .val (.int (1 : Int32)), .val (.int (1 : Int32)), .val (.int (1 : Int32))]) (hb hby at_158) rfl rfl ?_
        refine own_iload X51 hx (pc' := 162) (hb hby at_160) rfl rfl ?_
        refine own_ifNo X51 hx (pc' := 165) (hb hby at_162) (feq (by decide : ¬ ((1 : Int32) = (0 : Int32)))).1 rfl ?_
        refine own_iload X51 hx (pc' := 167) (hb hby at_165) rfl rfl ?_
        refine own_ifNo X51 hx (pc' := 170) (hb hby at_167) (feq (by decide : ¬ ((1 : Int32) = (0 : Int32)))).1 rfl ?_
        refine own_aload X51 hx (pc' := 172) (hb hby at_170) rfl rfl rfl ?_
        refine own_iload X51 hx (pc' := 174) (hb hby at_172) rfl rfl ?_
        refine own_callV X51 hx (pc' := 177) hZ hown (Wd108 hw) (Wd110 hw) (Wd111 hw) (Wd112 hw) (Wd21 hw) (by decide) (rm_get l Z a0 hw [] bs wa 1 1 (own_bits (0 : Int32) ((59 : Int32) + (1 : Int32))) (Int32.ofNat P) (P / 64) T7.heap n0 Z9 (by decide) (by decide) (by decide) G0_7 G1_7 G2_7 G3_7 F10 (own_clamp (n := P) (by omega)).1 (own_wiP P hP) (by omega)) e51 G0_7 0 (by decide) (by decide) (by decide) (by decide) [(.int (Int32.ofNat P))] [] (by rw [hml]; rfl) (lenOf pd_10 rfl) rfl rfl (Nat.le_of_eq rfl) (hb hby at_174) rfl (fun v53 T53 L53 X53 hQ53 => ?_)
        obtain ⟨rfl, Nq53, e53⟩ := hQ53
        have N54 := Fr.app N52 Nq53
        show own_G p.tables e below _ T53 (mkF m 177 #[.val (.int p0), .val (.int p1), .val (.int (0 : Int32)), .val (.ref r_SECOND), .val (.int (0 : Int32)), .val (.int (59 : Int32)), .val (.ref bs), .val (.int (Int32.ofNat P)), .val (.int (1 : Int32)), .val (.int (1 : Int32)), .val (.int (1 : Int32))] [(.int (own_get (own_bits (0 : Int32) ((59 : Int32) + (1 : Int32))) 1 (P / 64) (Int32.ofNat P)))])
        rw [own_vP_0_59 P hP, if_neg hc42_11, if_neg hc49_26]
        refine own_iload X53 hx (pc' := 179) (hb hby at_177) rfl rfl ?_
        refine own_icmpNo X53 hx (pc' := 182) (hb hby at_179) (teq rfl).2 rfl ?_
        refine own_iconst X53 hx (pc' := 183) (1 : Int32) (hb hby at_182) rfl rfl ?_
        refine own_goto X53 hx (pc' := 187) (hb hby at_183) (by decide) (by decide) ?_
        refine own_retN X53 hx hlk hret (by simp) (hb hby at_187) (by decide) (by decide) ?_
        exact ⟨rfl, N54⟩
  · rw [hk]
    refine own_iloadN X0 hx (pc' := 9) (hb hby at_8) rfl rfl ?_
    refine own_callS X0 hx (pc' := 12) hZ hown (Wd1 hw) (Wd2 hw) (Wd3 hw) (Wd4 hw) (by decide) (rm_field l Z a0 hw [] (1 : Int32) r_SECOND r_MINUTE r_HOUR r_DAY_OF_MONTH r_MONTH r_DAY_OF_WEEK r_YEAR h0 n0 Z0 S_r_SECOND S_r_DAY_OF_MONTH S_r_MINUTE S_r_MONTH S_r_YEAR S_r_DAY_OF_WEEK S_r_HOUR) e0 0 (by decide) (by decide) (by decide) (by decide) [(.int (1 : Int32))] [] (by rw [hml]; rfl) (lenOf pd_7 rfl) rfl rfl (Nat.le_of_eq rfl) (hb hby at_9) rfl (fun v55 T55 L55 X55 hQ55 => ?_)
    obtain ⟨hv55, Nq55, e55⟩ := hQ55
    have N56 := Fr.app N0 Nq55
    rw [show own_field (1 : Int32) r_SECOND r_MINUTE r_HOUR r_DAY_OF_MONTH r_MONTH r_DAY_OF_WEEK r_YEAR = r_MINUTE from rfl] at hv55
    subst hv55
    show own_G p.tables e below _ T55 (mkF m 12 #[.val (.int p0), .val (.int p1), .val (.int (1 : Int32)), .unset, .unset, .unset, .unset, .unset, .unset, .unset, .unset] [(.ref r_MINUTE)])
    refine own_astoreN X55 hx (pc' := 13) (Ls' := #[.val (.int p0), .val (.int p1), .val (.int (1 : Int32)), .val (.ref r_MINUTE), .unset, .unset, .unset, .unset, .unset, .unset, .unset]) (hb hby at_12) rfl rfl rfl ?_
    refine own_iloadN X55 hx (pc' := 14) (hb hby at_13) rfl rfl ?_
    refine own_callS X55 hx (pc' := 17) hZ hown (Wd8 hw) (Wd9 hw) (Wd3 hw) (Wd10 hw) (by decide) (rm_low l Z a0 hw [] (1 : Int32) h0 n0 Z0) e55 0 (by decide) (by decide) (by decide) (by decide) [(.int (1 : Int32))] [] (by rw [hml]; rfl) (lenOf pd_0 rfl) rfl rfl (Nat.le_of_eq rfl) (hb hby at_14) rfl (fun v57 T57 L57 X57 hQ57 => ?_)
    obtain ⟨rfl, Nq57, e57⟩ := hQ57
    have N58 := Fr.app N56 Nq57
    show own_G p.tables e below _ T57 (mkF m 17 #[.val (.int p0), .val (.int p1), .val (.int (1 : Int32)), .val (.ref r_MINUTE), .unset, .unset, .unset, .unset, .unset, .unset, .unset] [(.int (own_lowk (1 : Int32)))])
    rw [show own_lowk (1 : Int32) = (0 : Int32) from by decide]
    refine own_istore X57 hx (pc' := 19) (Ls' := #[.val (.int p0), .val (.int p1), .val (.int (1 : Int32)), .val (.ref r_MINUTE), .val (.int (0 : Int32)), .unset, .unset, .unset, .unset, .unset, .unset]) (hb hby at_17) rfl rfl ?_
    refine own_iloadN X57 hx (pc' := 20) (hb hby at_19) rfl rfl ?_
    refine own_callS X57 hx (pc' := 23) hZ hown (Wd11 hw) (Wd12 hw) (Wd3 hw) (Wd13 hw) (by decide) (rm_high l Z a0 hw [] (1 : Int32) h0 n0 Z0) e57 0 (by decide) (by decide) (by decide) (by decide) [(.int (1 : Int32))] [] (by rw [hml]; rfl) (lenOf pd_0 rfl) rfl rfl (Nat.le_of_eq rfl) (hb hby at_20) rfl (fun v59 T59 L59 X59 hQ59 => ?_)
    obtain ⟨rfl, Nq59, e59⟩ := hQ59
    have N60 := Fr.app N58 Nq59
    show own_G p.tables e below _ T59 (mkF m 23 #[.val (.int p0), .val (.int p1), .val (.int (1 : Int32)), .val (.ref r_MINUTE), .val (.int (0 : Int32)), .unset, .unset, .unset, .unset, .unset, .unset] [(.int (own_highk (1 : Int32)))])
    rw [show own_highk (1 : Int32) = (59 : Int32) from by decide]
    refine own_istore X59 hx (pc' := 25) (Ls' := #[.val (.int p0), .val (.int p1), .val (.int (1 : Int32)), .val (.ref r_MINUTE), .val (.int (0 : Int32)), .val (.int (59 : Int32)), .unset, .unset, .unset, .unset, .unset]) (hb hby at_23) rfl rfl ?_
    refine own_aloadN X59 hx (pc' := 26) (hb hby at_25) rfl rfl rfl ?_
    refine own_callV X59 hx (pc' := 29) hZ hown (Wd14 hw) (Wd16 hw) (Wd17 hw) (Wd18 hw) (Wd6 hw) (by decide) (rm_a1 l Z a0 hw [] r_MINUTE (0 : Int32) (59 : Int32) h0 n0 Z0 F_r_MINUTE_min F_r_MINUTE_max B_ad (by decide) (by decide) (by decide) (by decide) (by decide) (by decide)) e59 E_r_MINUTE 0 (by decide) (by decide) (by decide) (by decide) [] [] (by rw [hml]; rfl) (lenOf pd_8 rfl) rfl rfl (Nat.le_of_eq rfl) (hb hby at_26) rfl (fun v61 T61 L61 X61 hQ61 => ?_)
    obtain ⟨Nq61, K61, bs, wa, rfl, G0_61, G1_61, G2_61, G3_61⟩ := hQ61
    have N62 := Fr.app N60 Nq61
    have Z63 : n0 ≤ T61.heap.size := Nat.le_trans Z0 K61.1
    have F64 := (B_ad.keep K61 (fun x hx => absurd hx List.not_mem_nil))
    show own_G p.tables e below _ T61 (mkF m 29 #[.val (.int p0), .val (.int p1), .val (.int (1 : Int32)), .val (.ref r_MINUTE), .val (.int (0 : Int32)), .val (.int (59 : Int32)), .unset, .unset, .unset, .unset, .unset] [(.ref bs)])
    refine own_astore X61 hx (pc' := 31) (Ls' := #[.val (.int p0), .val (.int p1), .val (.int (1 : Int32)), .val (.ref r_MINUTE), .val (.int (0 : Int32)), .val (.int (59 : Int32)), .val (.ref bs), .unset, .unset, .unset, .unset]) (hb hby at_29) rfl rfl rfl ?_
    refine own_iloadN X61 hx (pc' := 32) (hb hby at_31) rfl rfl ?_
    refine own_sipush X61 hx (pc' := 35) (4095 : Int32) (hb hby at_32) rfl rfl ?_
    refine own_iand X61 hx (pc' := 36) (hb hby at_35) rfl rfl ?_
    obtain ⟨P, hP, eP⟩ : ∃ A : Nat, A < 4096 ∧ (p1 &&& (4095 : Int32)) = Int32.ofNat A := own_m12 p1
    rw [eP]
    refine own_istore X61 hx (pc' := 38) (Ls' := #[.val (.int p0), .val (.int p1), .val (.int (1 : Int32)), .val (.ref r_MINUTE), .val (.int (0 : Int32)), .val (.int (59 : Int32)), .val (.ref bs), .val (.int (Int32.ofNat P)), .unset, .unset, .unset]) (hb hby at_36) rfl rfl ?_
    refine own_iload X61 hx (pc' := 40) (hb hby at_38) rfl rfl ?_
    refine own_iload X61 hx (pc' := 42) (hb hby at_40) rfl rfl ?_
    by_cases hc42_65 : (Int32.ofNat P) < (0 : Int32)
    · skip
      refine own_icmpYes X61 hx (pc' := 56) (hb hby at_42) (tlt hc42_65).2.2.1 (by decide) (by decide) ?_
      refine own_iconst X61 hx (pc' := 57) (0 : Int32) (hb hby at_56) rfl rfl ?_
      refine own_istore X61 hx (pc' := 59) (Ls' := #[.val (.int p0), .val (.int p1), .val (.int (1 : Int32)), .val (.ref r_MINUTE), .val (.int (0 : Int32)), .val (.int (59 : Int32)), .val (.ref bs), .val (.int (Int32.ofNat P)), .val (.int (0 : Int32)), .unset, .unset]) (hb hby at_57) rfl rfl ?_
      refine own_aload X61 hx (pc' := 61) (hb hby at_59) rfl rfl rfl ?_
      refine own_iconst X61 hx (pc' := 62) (0 : Int32) (hb hby at_61) rfl rfl ?_
      refine own_callV X61 hx (pc' := 65) hZ hown (Wd72 hw) (Wd74 hw) (Wd75 hw) (Wd76 hw) (Wd21 hw) (by decide) (rm_nsb l Z a0 hw [] bs wa 1 1 (own_bits (0 : Int32) ((59 : Int32) + (1 : Int32)))  T61.heap n0 Z63 (by decide) (by decide) (by decide) G0_61 G1_61 G2_61 G3_61 F64) rfl G0_61 0 (by decide) (by decide) (by decide) (by decide) [(.int (0 : Int32))] [] (by rw [hml]; rfl) (lenOf pd_0 rfl) rfl rfl (Nat.le_of_eq rfl) (hb hby at_62) rfl (fun v66 T66 L66 X66 hQ66 => ?_)
      obtain ⟨rfl, Nq66, e66⟩ := hQ66
      have N67 := Fr.app N62 Nq66
      show own_G p.tables e below _ T66 (mkF m 65 #[.val (.int p0), .val (.int p1), .val (.int (1 : Int32)), .val (.ref r_MINUTE), .val (.int (0 : Int32)), .val (.int (59 : Int32)), .val (.ref bs), .val (.int (Int32.ofNat P)), .val (.int (0 : Int32)), .unset, .unset] [(.int (own_nsb (own_bits (0 : Int32) ((59 : Int32) + (1 : Int32))) 1))])
      rw [own_vn_0_59]
      refine own_iload X66 hx (pc' := 67) (hb hby at_65) rfl rfl ?_
      refine own_icmpNo X66 hx (pc' := 70) (hb hby at_67) (teq rfl).2 rfl ?_
      refine own_aload X66 hx (pc' := 72) (hb hby at_70) rfl rfl rfl ?_
      refine own_callV X66 hx (pc' := 75) hZ hown (Wd85 hw) (Wd87 hw) (Wd88 hw) (Wd89 hw) (Wd21 hw) (by decide) (rm_len l Z a0 hw [] bs wa 1 1 (own_bits (0 : Int32) ((59 : Int32) + (1 : Int32)))  T61.heap n0 Z63 (by decide) (by decide) (by decide) G0_61 G1_61 G2_61 G3_61 ) e66 G0_61 0 (by decide) (by decide) (by decide) (by decide) [] [] (by rw [hml]; rfl) (lenOf pd_9 rfl) rfl rfl (Nat.le_of_eq rfl) (hb hby at_72) rfl (fun v68 T68 L68 X68 hQ68 => ?_)
      obtain ⟨rfl, Nq68, e68⟩ := hQ68
      have N69 := Fr.app N67 Nq68
      show own_G p.tables e below _ T68 (mkF m 75 #[.val (.int p0), .val (.int p1), .val (.int (1 : Int32)), .val (.ref r_MINUTE), .val (.int (0 : Int32)), .val (.int (59 : Int32)), .val (.ref bs), .val (.int (Int32.ofNat P)), .val (.int (0 : Int32)), .unset, .unset] [(.int (own_blen (own_bits (0 : Int32) ((59 : Int32) + (1 : Int32))) 1))])
      rw [own_vl_0_59]
      refine own_iload X68 hx (pc' := 77) (hb hby at_75) rfl rfl ?_
      refine own_iconst X68 hx (pc' := 78) (1 : Int32) (hb hby at_77) rfl rfl ?_
      refine own_iadd X68 hx (pc' := 79) (z := (60 : Int32)) (hb hby at_78) (by decide) rfl ?_
      refine own_icmpNo X68 hx (pc' := 82) (hb hby at_79) (teq rfl).2 rfl ?_
      refine own_aload X68 hx (pc' := 84) (hb hby at_82) rfl rfl rfl ?_
      refine own_callV X68 hx (pc' := 87) hZ hown (Wd97 hw) (Wd99 hw) (Wd100 hw) (Wd101 hw) (Wd21 hw) (by decide) (rm_card l Z a0 hw [] bs wa 1 1 (own_bits (0 : Int32) ((59 : Int32) + (1 : Int32)))  T61.heap n0 Z63 (by decide) (by decide) (by decide) G0_61 G1_61 G2_61 G3_61 ) e68 G0_61 0 (by decide) (by decide) (by decide) (by decide) [] [] (by rw [hml]; rfl) (lenOf pd_9 rfl) rfl rfl (Nat.le_of_eq rfl) (hb hby at_84) rfl (fun v70 T70 L70 X70 hQ70 => ?_)
      obtain ⟨rfl, Nq70, e70⟩ := hQ70
      have N71 := Fr.app N69 Nq70
      show own_G p.tables e below _ T70 (mkF m 87 #[.val (.int p0), .val (.int p1), .val (.int (1 : Int32)), .val (.ref r_MINUTE), .val (.int (0 : Int32)), .val (.int (59 : Int32)), .val (.ref bs), .val (.int (Int32.ofNat P)), .val (.int (0 : Int32)), .unset, .unset] [(.int (own_card (own_bits (0 : Int32) ((59 : Int32) + (1 : Int32))) 1 0 (0 : Int32)))])
      rw [own_vc_0_59]
      refine own_iload X70 hx (pc' := 89) (hb hby at_87) rfl rfl ?_
      refine own_iload X70 hx (pc' := 91) (hb hby at_89) rfl rfl ?_
      refine own_isub X70 hx (pc' := 92) (z := (59 : Int32)) (hb hby at_91) (by decide) rfl ?_
      refine own_iconst X70 hx (pc' := 93) (1 : Int32) (hb hby at_92) rfl rfl ?_
      refine own_iadd X70 hx (pc' := 94) (z := (60 : Int32)) (hb hby at_93) (by decide) rfl ?_
      refine own_icmpNo X70 hx (pc' := 97) (hb hby at_94) (teq rfl).2 rfl ?_
      refine own_iconst X70 hx (pc' := 98) (1 : Int32) (hb hby at_97) rfl rfl ?_
      refine own_goto X70 hx (pc' := 102) (hb hby at_98) (by decide) (by decide) ?_
      refine own_istore X70 hx (pc' := 104) (Ls' := #[.val (.int p0), .val (.int p1), .val (.int (1 : Int32)), .val (.ref r_MINUTE), .val (.int (0 : Int32)), .val (.int (59 : Int32)), .val (.ref bs), .val (.int (Int32.ofNat P)), .val (.int (0 : Int32)), .val (.int (1 : Int32)), .unset]) (hb hby at_102) rfl rfl ?_
      refine own_aload X70 hx (pc' := 106) (hb hby at_104) rfl rfl rfl ?_
      refine own_iload X70 hx (pc' := 108) (hb hby at_106) rfl rfl ?_
      refine own_callV X70 hx (pc' := 111) hZ hown (Wd108 hw) (Wd110 hw) (Wd111 hw) (Wd112 hw) (Wd21 hw) (by decide) (rm_get l Z a0 hw [] bs wa 1 1 (own_bits (0 : Int32) ((59 : Int32) + (1 : Int32))) (0 : Int32) 0 T61.heap n0 Z63 (by decide) (by decide) (by decide) G0_61 G1_61 G2_61 G3_61 F64 (by decide) (by decide) (by decide)) e70 G0_61 0 (by decide) (by decide) (by decide) (by decide) [(.int (0 : Int32))] [] (by rw [hml]; rfl) (lenOf pd_10 rfl) rfl rfl (Nat.le_of_eq rfl) (hb hby at_108) rfl (fun v72 T72 L72 X72 hQ72 => ?_)
      obtain ⟨rfl, Nq72, e72⟩ := hQ72
      have N73 := Fr.app N71 Nq72
      show own_G p.tables e below _ T72 (mkF m 111 #[.val (.int p0), .val (.int p1), .val (.int (1 : Int32)), .val (.ref r_MINUTE), .val (.int (0 : Int32)), .val (.int (59 : Int32)), .val (.ref bs), .val (.int (Int32.ofNat P)), .val (.int (0 : Int32)), .val (.int (1 : Int32)), .unset] [(.int (own_get (own_bits (0 : Int32) ((59 : Int32) + (1 : Int32))) 1 0 (0 : Int32)))])
      rw [own_vg_0_59_0]
      refine own_ifNo X72 hx (pc' := 114) (hb hby at_111) (feq (by decide : ¬ ((1 : Int32) = (0 : Int32)))).1 rfl ?_
      refine own_aload X72 hx (pc' := 116) (hb hby at_114) rfl rfl rfl ?_
      refine own_iload X72 hx (pc' := 118) (hb hby at_116) rfl rfl ?_
      refine own_callV X72 hx (pc' := 121) hZ hown (Wd108 hw) (Wd110 hw) (Wd111 hw) (Wd112 hw) (Wd21 hw) (by decide) (rm_get l Z a0 hw [] bs wa 1 1 (own_bits (0 : Int32) ((59 : Int32) + (1 : Int32))) (59 : Int32) 0 T61.heap n0 Z63 (by decide) (by decide) (by decide) G0_61 G1_61 G2_61 G3_61 F64 (by decide) (by decide) (by decide)) e72 G0_61 0 (by decide) (by decide) (by decide) (by decide) [(.int (59 : Int32))] [] (by rw [hml]; rfl) (lenOf pd_10 rfl) rfl rfl (Nat.le_of_eq rfl) (hb hby at_118) rfl (fun v74 T74 L74 X74 hQ74 => ?_)
      obtain ⟨rfl, Nq74, e74⟩ := hQ74
      have N75 := Fr.app N73 Nq74
      show own_G p.tables e below _ T74 (mkF m 121 #[.val (.int p0), .val (.int p1), .val (.int (1 : Int32)), .val (.ref r_MINUTE), .val (.int (0 : Int32)), .val (.int (59 : Int32)), .val (.ref bs), .val (.int (Int32.ofNat P)), .val (.int (0 : Int32)), .val (.int (1 : Int32)), .unset] [(.int (own_get (own_bits (0 : Int32) ((59 : Int32) + (1 : Int32))) 1 0 (59 : Int32)))])
      rw [own_vg_0_59_59]
      refine own_ifNo X74 hx (pc' := 124) (hb hby at_121) (feq (by decide : ¬ ((1 : Int32) = (0 : Int32)))).1 rfl ?_
      refine own_iload X74 hx (pc' := 126) (hb hby at_124) rfl rfl ?_
      refine own_ifYes X74 hx (pc' := 141) (hb hby at_126) (teq rfl).1 (by decide) (by decide) ?_
      refine own_aload X74 hx (pc' := 143) (hb hby at_141) rfl rfl rfl ?_
      refine own_iload X74 hx (pc' := 145) (hb hby at_143) rfl rfl ?_
      refine own_iconst X74 hx (pc' := 146) (1 : Int32) (hb hby at_145) rfl rfl ?_
      refine own_iadd X74 hx (pc' := 147) (z := (60 : Int32)) (hb hby at_146) (by decide) rfl ?_
      refine own_callV X74 hx (pc' := 150) hZ hown (Wd108 hw) (Wd110 hw) (Wd111 hw) (Wd112 hw) (Wd21 hw) (by decide) (rm_get l Z a0 hw [] bs wa 1 1 (own_bits (0 : Int32) ((59 : Int32) + (1 : Int32))) (60 : Int32) 0 T61.heap n0 Z63 (by decide) (by decide) (by decide) G0_61 G1_61 G2_61 G3_61 F64 (by decide) (by decide) (by decide)) e74 G0_61 0 (by decide) (by decide) (by decide) (by decide) [(.int (60 : Int32))] [] (by rw [hml]; rfl) (lenOf pd_10 rfl) rfl rfl (Nat.le_of_eq rfl) (hb hby at_147) rfl (fun v76 T76 L76 X76 hQ76 => ?_)
      obtain ⟨rfl, Nq76, e76⟩ := hQ76
      have N77 := Fr.app N75 Nq76
      show own_G p.tables e below _ T76 (mkF m 150 #[.val (.int p0), .val (.int p1), .val (.int (1 : Int32)), .val (.ref r_MINUTE), .val (.int (0 : Int32)), .val (.int (59 : Int32)), .val (.ref bs), .val (.int (Int32.ofNat P)), .val (.int (0 : Int32)), .val (.int (1 : Int32)), .unset] [(.int (own_get (own_bits (0 : Int32) ((59 : Int32) + (1 : Int32))) 1 0 (60 : Int32)))])
      rw [own_vg_0_59_60]
      refine own_ifNo X76 hx (pc' := 153) (hb hby at_150) (teq rfl).2 rfl ?_
      refine own_iconst X76 hx (pc' := 154) (1 : Int32) (hb hby at_153) rfl rfl ?_
      refine own_goto X76 hx (pc' := 158) (hb hby at_154) (by decide) (by decide) ?_
      refine own_istore X76 hx (pc' := 160) (Ls' := #[.val (.int p0), .val (.int p1), .val (.int (1 : Int32)), .val (.ref r_MINUTE), .val (.int (0 : Int32)), .val (.int (59 : Int32)), .val (.ref bs), .val (.int (Int32.ofNat P)), .val (.int (0 : Int32)), .val (.int (1 : Int32)), .val (.int (1 : Int32))]) (hb hby at_158) rfl rfl ?_
      refine own_iload X76 hx (pc' := 162) (hb hby at_160) rfl rfl ?_
      refine own_ifNo X76 hx (pc' := 165) (hb hby at_162) (feq (by decide : ¬ ((1 : Int32) = (0 : Int32)))).1 rfl ?_
      refine own_iload X76 hx (pc' := 167) (hb hby at_165) rfl rfl ?_
      refine own_ifNo X76 hx (pc' := 170) (hb hby at_167) (feq (by decide : ¬ ((1 : Int32) = (0 : Int32)))).1 rfl ?_
      refine own_aload X76 hx (pc' := 172) (hb hby at_170) rfl rfl rfl ?_
      refine own_iload X76 hx (pc' := 174) (hb hby at_172) rfl rfl ?_
      refine own_callV X76 hx (pc' := 177) hZ hown (Wd108 hw) (Wd110 hw) (Wd111 hw) (Wd112 hw) (Wd21 hw) (by decide) (rm_get l Z a0 hw [] bs wa 1 1 (own_bits (0 : Int32) ((59 : Int32) + (1 : Int32))) (Int32.ofNat P) (P / 64) T61.heap n0 Z63 (by decide) (by decide) (by decide) G0_61 G1_61 G2_61 G3_61 F64 (own_clamp (n := P) (by omega)).1 (own_wiP P hP) (by omega)) e76 G0_61 0 (by decide) (by decide) (by decide) (by decide) [(.int (Int32.ofNat P))] [] (by rw [hml]; rfl) (lenOf pd_10 rfl) rfl rfl (Nat.le_of_eq rfl) (hb hby at_174) rfl (fun v78 T78 L78 X78 hQ78 => ?_)
      obtain ⟨rfl, Nq78, e78⟩ := hQ78
      have N79 := Fr.app N77 Nq78
      show own_G p.tables e below _ T78 (mkF m 177 #[.val (.int p0), .val (.int p1), .val (.int (1 : Int32)), .val (.ref r_MINUTE), .val (.int (0 : Int32)), .val (.int (59 : Int32)), .val (.ref bs), .val (.int (Int32.ofNat P)), .val (.int (0 : Int32)), .val (.int (1 : Int32)), .val (.int (1 : Int32))] [(.int (own_get (own_bits (0 : Int32) ((59 : Int32) + (1 : Int32))) 1 (P / 64) (Int32.ofNat P)))])
      rw [own_vP_0_59 P hP, if_pos hc42_65]
      refine own_iload X78 hx (pc' := 179) (hb hby at_177) rfl rfl ?_
      refine own_icmpNo X78 hx (pc' := 182) (hb hby at_179) (teq rfl).2 rfl ?_
      refine own_iconst X78 hx (pc' := 183) (1 : Int32) (hb hby at_182) rfl rfl ?_
      refine own_goto X78 hx (pc' := 187) (hb hby at_183) (by decide) (by decide) ?_
      refine own_retN X78 hx hlk hret (by simp) (hb hby at_187) (by decide) (by decide) ?_
      exact ⟨rfl, N79⟩
    · skip
      refine own_icmpNo X61 hx (pc' := 45) (hb hby at_42) (flt hc42_65).2.2.1 rfl ?_
      refine own_iload X61 hx (pc' := 47) (hb hby at_45) rfl rfl ?_
      refine own_iload X61 hx (pc' := 49) (hb hby at_47) rfl rfl ?_
      by_cases hc49_80 : (59 : Int32) < (Int32.ofNat P)
      · skip
        refine own_icmpYes X61 hx (pc' := 56) (hb hby at_49) (tlt hc49_80).2.2.1 (by decide) (by decide) ?_
        refine own_iconst X61 hx (pc' := 57) (0 : Int32) (hb hby at_56) rfl rfl ?_
        refine own_istore X61 hx (pc' := 59) (Ls' := #[.val (.int p0), .val (.int p1), .val (.int (1 : Int32)), .val (.ref r_MINUTE), .val (.int (0 : Int32)), .val (.int (59 : Int32)), .val (.ref bs), .val (.int (Int32.ofNat P)), .val (.int (0 : Int32)), .unset, .unset]) (hb hby at_57) rfl rfl ?_
        refine own_aload X61 hx (pc' := 61) (hb hby at_59) rfl rfl rfl ?_
        refine own_iconst X61 hx (pc' := 62) (0 : Int32) (hb hby at_61) rfl rfl ?_
        refine own_callV X61 hx (pc' := 65) hZ hown (Wd72 hw) (Wd74 hw) (Wd75 hw) (Wd76 hw) (Wd21 hw) (by decide) (rm_nsb l Z a0 hw [] bs wa 1 1 (own_bits (0 : Int32) ((59 : Int32) + (1 : Int32)))  T61.heap n0 Z63 (by decide) (by decide) (by decide) G0_61 G1_61 G2_61 G3_61 F64) rfl G0_61 0 (by decide) (by decide) (by decide) (by decide) [(.int (0 : Int32))] [] (by rw [hml]; rfl) (lenOf pd_0 rfl) rfl rfl (Nat.le_of_eq rfl) (hb hby at_62) rfl (fun v81 T81 L81 X81 hQ81 => ?_)
        obtain ⟨rfl, Nq81, e81⟩ := hQ81
        have N82 := Fr.app N62 Nq81
        show own_G p.tables e below _ T81 (mkF m 65 #[.val (.int p0), .val (.int p1), .val (.int (1 : Int32)), .val (.ref r_MINUTE), .val (.int (0 : Int32)), .val (.int (59 : Int32)), .val (.ref bs), .val (.int (Int32.ofNat P)), .val (.int (0 : Int32)), .unset, .unset] [(.int (own_nsb (own_bits (0 : Int32) ((59 : Int32) + (1 : Int32))) 1))])
        rw [own_vn_0_59]
        refine own_iload X81 hx (pc' := 67) (hb hby at_65) rfl rfl ?_
        refine own_icmpNo X81 hx (pc' := 70) (hb hby at_67) (teq rfl).2 rfl ?_
        refine own_aload X81 hx (pc' := 72) (hb hby at_70) rfl rfl rfl ?_
        refine own_callV X81 hx (pc' := 75) hZ hown (Wd85 hw) (Wd87 hw) (Wd88 hw) (Wd89 hw) (Wd21 hw) (by decide) (rm_len l Z a0 hw [] bs wa 1 1 (own_bits (0 : Int32) ((59 : Int32) + (1 : Int32)))  T61.heap n0 Z63 (by decide) (by decide) (by decide) G0_61 G1_61 G2_61 G3_61 ) e81 G0_61 0 (by decide) (by decide) (by decide) (by decide) [] [] (by rw [hml]; rfl) (lenOf pd_9 rfl) rfl rfl (Nat.le_of_eq rfl) (hb hby at_72) rfl (fun v83 T83 L83 X83 hQ83 => ?_)
        obtain ⟨rfl, Nq83, e83⟩ := hQ83
        have N84 := Fr.app N82 Nq83
        show own_G p.tables e below _ T83 (mkF m 75 #[.val (.int p0), .val (.int p1), .val (.int (1 : Int32)), .val (.ref r_MINUTE), .val (.int (0 : Int32)), .val (.int (59 : Int32)), .val (.ref bs), .val (.int (Int32.ofNat P)), .val (.int (0 : Int32)), .unset, .unset] [(.int (own_blen (own_bits (0 : Int32) ((59 : Int32) + (1 : Int32))) 1))])
        rw [own_vl_0_59]
        refine own_iload X83 hx (pc' := 77) (hb hby at_75) rfl rfl ?_
        refine own_iconst X83 hx (pc' := 78) (1 : Int32) (hb hby at_77) rfl rfl ?_
        refine own_iadd X83 hx (pc' := 79) (z := (60 : Int32)) (hb hby at_78) (by decide) rfl ?_
        refine own_icmpNo X83 hx (pc' := 82) (hb hby at_79) (teq rfl).2 rfl ?_
        refine own_aload X83 hx (pc' := 84) (hb hby at_82) rfl rfl rfl ?_
        refine own_callV X83 hx (pc' := 87) hZ hown (Wd97 hw) (Wd99 hw) (Wd100 hw) (Wd101 hw) (Wd21 hw) (by decide) (rm_card l Z a0 hw [] bs wa 1 1 (own_bits (0 : Int32) ((59 : Int32) + (1 : Int32)))  T61.heap n0 Z63 (by decide) (by decide) (by decide) G0_61 G1_61 G2_61 G3_61 ) e83 G0_61 0 (by decide) (by decide) (by decide) (by decide) [] [] (by rw [hml]; rfl) (lenOf pd_9 rfl) rfl rfl (Nat.le_of_eq rfl) (hb hby at_84) rfl (fun v85 T85 L85 X85 hQ85 => ?_)
        obtain ⟨rfl, Nq85, e85⟩ := hQ85
        have N86 := Fr.app N84 Nq85
        show own_G p.tables e below _ T85 (mkF m 87 #[.val (.int p0), .val (.int p1), .val (.int (1 : Int32)), .val (.ref r_MINUTE), .val (.int (0 : Int32)), .val (.int (59 : Int32)), .val (.ref bs), .val (.int (Int32.ofNat P)), .val (.int (0 : Int32)), .unset, .unset] [(.int (own_card (own_bits (0 : Int32) ((59 : Int32) + (1 : Int32))) 1 0 (0 : Int32)))])
        rw [own_vc_0_59]
        refine own_iload X85 hx (pc' := 89) (hb hby at_87) rfl rfl ?_
        refine own_iload X85 hx (pc' := 91) (hb hby at_89) rfl rfl ?_
        refine own_isub X85 hx (pc' := 92) (z := (59 : Int32)) (hb hby at_91) (by decide) rfl ?_
        refine own_iconst X85 hx (pc' := 93) (1 : Int32) (hb hby at_92) rfl rfl ?_
        refine own_iadd X85 hx (pc' := 94) (z := (60 : Int32)) (hb hby at_93) (by decide) rfl ?_
        refine own_icmpNo X85 hx (pc' := 97) (hb hby at_94) (teq rfl).2 rfl ?_
        refine own_iconst X85 hx (pc' := 98) (1 : Int32) (hb hby at_97) rfl rfl ?_
        refine own_goto X85 hx (pc' := 102) (hb hby at_98) (by decide) (by decide) ?_
        refine own_istore X85 hx (pc' := 104) (Ls' := #[.val (.int p0), .val (.int p1), .val (.int (1 : Int32)), .val (.ref r_MINUTE), .val (.int (0 : Int32)), .val (.int (59 : Int32)), .val (.ref bs), .val (.int (Int32.ofNat P)), .val (.int (0 : Int32)), .val (.int (1 : Int32)), .unset]) (hb hby at_102) rfl rfl ?_
        refine own_aload X85 hx (pc' := 106) (hb hby at_104) rfl rfl rfl ?_
        refine own_iload X85 hx (pc' := 108) (hb hby at_106) rfl rfl ?_
        refine own_callV X85 hx (pc' := 111) hZ hown (Wd108 hw) (Wd110 hw) (Wd111 hw) (Wd112 hw) (Wd21 hw) (by decide) (rm_get l Z a0 hw [] bs wa 1 1 (own_bits (0 : Int32) ((59 : Int32) + (1 : Int32))) (0 : Int32) 0 T61.heap n0 Z63 (by decide) (by decide) (by decide) G0_61 G1_61 G2_61 G3_61 F64 (by decide) (by decide) (by decide)) e85 G0_61 0 (by decide) (by decide) (by decide) (by decide) [(.int (0 : Int32))] [] (by rw [hml]; rfl) (lenOf pd_10 rfl) rfl rfl (Nat.le_of_eq rfl) (hb hby at_108) rfl (fun v87 T87 L87 X87 hQ87 => ?_)
        obtain ⟨rfl, Nq87, e87⟩ := hQ87
        have N88 := Fr.app N86 Nq87
        show own_G p.tables e below _ T87 (mkF m 111 #[.val (.int p0), .val (.int p1), .val (.int (1 : Int32)), .val (.ref r_MINUTE), .val (.int (0 : Int32)), .val (.int (59 : Int32)), .val (.ref bs), .val (.int (Int32.ofNat P)), .val (.int (0 : Int32)), .val (.int (1 : Int32)), .unset] [(.int (own_get (own_bits (0 : Int32) ((59 : Int32) + (1 : Int32))) 1 0 (0 : Int32)))])
        rw [own_vg_0_59_0]
        refine own_ifNo X87 hx (pc' := 114) (hb hby at_111) (feq (by decide : ¬ ((1 : Int32) = (0 : Int32)))).1 rfl ?_
        refine own_aload X87 hx (pc' := 116) (hb hby at_114) rfl rfl rfl ?_
        refine own_iload X87 hx (pc' := 118) (hb hby at_116) rfl rfl ?_
        refine own_callV X87 hx (pc' := 121) hZ hown (Wd108 hw) (Wd110 hw) (Wd111 hw) (Wd112 hw) (Wd21 hw) (by decide) (rm_get l Z a0 hw [] bs wa 1 1 (own_bits (0 : Int32) ((59 : Int32) + (1 : Int32))) (59 : Int32) 0 T61.heap n0 Z63 (by decide) (by decide) (by decide) G0_61 G1_61 G2_61 G3_61 F64 (by decide) (by decide) (by decide)) e87 G0_61 0 (by decide) (by decide) (by decide) (by decide) [(.int (59 : Int32))] [] (by rw [hml]; rfl) (lenOf pd_10 rfl) rfl rfl (Nat.le_of_eq rfl) (hb hby at_118) rfl (fun v89 T89 L89 X89 hQ89 => ?_)
        obtain ⟨rfl, Nq89, e89⟩ := hQ89
        have N90 := Fr.app N88 Nq89
        show own_G p.tables e below _ T89 (mkF m 121 #[.val (.int p0), .val (.int p1), .val (.int (1 : Int32)), .val (.ref r_MINUTE), .val (.int (0 : Int32)), .val (.int (59 : Int32)), .val (.ref bs), .val (.int (Int32.ofNat P)), .val (.int (0 : Int32)), .val (.int (1 : Int32)), .unset] [(.int (own_get (own_bits (0 : Int32) ((59 : Int32) + (1 : Int32))) 1 0 (59 : Int32)))])
        rw [own_vg_0_59_59]
        refine own_ifNo X89 hx (pc' := 124) (hb hby at_121) (feq (by decide : ¬ ((1 : Int32) = (0 : Int32)))).1 rfl ?_
        refine own_iload X89 hx (pc' := 126) (hb hby at_124) rfl rfl ?_
        refine own_ifYes X89 hx (pc' := 141) (hb hby at_126) (teq rfl).1 (by decide) (by decide) ?_
        refine own_aload X89 hx (pc' := 143) (hb hby at_141) rfl rfl rfl ?_
        refine own_iload X89 hx (pc' := 145) (hb hby at_143) rfl rfl ?_
        refine own_iconst X89 hx (pc' := 146) (1 : Int32) (hb hby at_145) rfl rfl ?_
        refine own_iadd X89 hx (pc' := 147) (z := (60 : Int32)) (hb hby at_146) (by decide) rfl ?_
        refine own_callV X89 hx (pc' := 150) hZ hown (Wd108 hw) (Wd110 hw) (Wd111 hw) (Wd112 hw) (Wd21 hw) (by decide) (rm_get l Z a0 hw [] bs wa 1 1 (own_bits (0 : Int32) ((59 : Int32) + (1 : Int32))) (60 : Int32) 0 T61.heap n0 Z63 (by decide) (by decide) (by decide) G0_61 G1_61 G2_61 G3_61 F64 (by decide) (by decide) (by decide)) e89 G0_61 0 (by decide) (by decide) (by decide) (by decide) [(.int (60 : Int32))] [] (by rw [hml]; rfl) (lenOf pd_10 rfl) rfl rfl (Nat.le_of_eq rfl) (hb hby at_147) rfl (fun v91 T91 L91 X91 hQ91 => ?_)
        obtain ⟨rfl, Nq91, e91⟩ := hQ91
        have N92 := Fr.app N90 Nq91
        show own_G p.tables e below _ T91 (mkF m 150 #[.val (.int p0), .val (.int p1), .val (.int (1 : Int32)), .val (.ref r_MINUTE), .val (.int (0 : Int32)), .val (.int (59 : Int32)), .val (.ref bs), .val (.int (Int32.ofNat P)), .val (.int (0 : Int32)), .val (.int (1 : Int32)), .unset] [(.int (own_get (own_bits (0 : Int32) ((59 : Int32) + (1 : Int32))) 1 0 (60 : Int32)))])
        rw [own_vg_0_59_60]
        refine own_ifNo X91 hx (pc' := 153) (hb hby at_150) (teq rfl).2 rfl ?_
        refine own_iconst X91 hx (pc' := 154) (1 : Int32) (hb hby at_153) rfl rfl ?_
        refine own_goto X91 hx (pc' := 158) (hb hby at_154) (by decide) (by decide) ?_
        refine own_istore X91 hx (pc' := 160) (Ls' := #[.val (.int p0), .val (.int p1), .val (.int (1 : Int32)), .val (.ref r_MINUTE), .val (.int (0 : Int32)), .val (.int (59 : Int32)), .val (.ref bs), .val (.int (Int32.ofNat P)), .val (.int (0 : Int32)), .val (.int (1 : Int32)), .val (.int (1 : Int32))]) (hb hby at_158) rfl rfl ?_
        refine own_iload X91 hx (pc' := 162) (hb hby at_160) rfl rfl ?_
        refine own_ifNo X91 hx (pc' := 165) (hb hby at_162) (feq (by decide : ¬ ((1 : Int32) = (0 : Int32)))).1 rfl ?_
        refine own_iload X91 hx (pc' := 167) (hb hby at_165) rfl rfl ?_
        refine own_ifNo X91 hx (pc' := 170) (hb hby at_167) (feq (by decide : ¬ ((1 : Int32) = (0 : Int32)))).1 rfl ?_
        refine own_aload X91 hx (pc' := 172) (hb hby at_170) rfl rfl rfl ?_
        refine own_iload X91 hx (pc' := 174) (hb hby at_172) rfl rfl ?_
        refine own_callV X91 hx (pc' := 177) hZ hown (Wd108 hw) (Wd110 hw) (Wd111 hw) (Wd112 hw) (Wd21 hw) (by decide) (rm_get l Z a0 hw [] bs wa 1 1 (own_bits (0 : Int32) ((59 : Int32) + (1 : Int32))) (Int32.ofNat P) (P / 64) T61.heap n0 Z63 (by decide) (by decide) (by decide) G0_61 G1_61 G2_61 G3_61 F64 (own_clamp (n := P) (by omega)).1 (own_wiP P hP) (by omega)) e91 G0_61 0 (by decide) (by decide) (by decide) (by decide) [(.int (Int32.ofNat P))] [] (by rw [hml]; rfl) (lenOf pd_10 rfl) rfl rfl (Nat.le_of_eq rfl) (hb hby at_174) rfl (fun v93 T93 L93 X93 hQ93 => ?_)
        obtain ⟨rfl, Nq93, e93⟩ := hQ93
        have N94 := Fr.app N92 Nq93
        show own_G p.tables e below _ T93 (mkF m 177 #[.val (.int p0), .val (.int p1), .val (.int (1 : Int32)), .val (.ref r_MINUTE), .val (.int (0 : Int32)), .val (.int (59 : Int32)), .val (.ref bs), .val (.int (Int32.ofNat P)), .val (.int (0 : Int32)), .val (.int (1 : Int32)), .val (.int (1 : Int32))] [(.int (own_get (own_bits (0 : Int32) ((59 : Int32) + (1 : Int32))) 1 (P / 64) (Int32.ofNat P)))])
        rw [own_vP_0_59 P hP, if_neg hc42_65, if_pos hc49_80]
        refine own_iload X93 hx (pc' := 179) (hb hby at_177) rfl rfl ?_
        refine own_icmpNo X93 hx (pc' := 182) (hb hby at_179) (teq rfl).2 rfl ?_
        refine own_iconst X93 hx (pc' := 183) (1 : Int32) (hb hby at_182) rfl rfl ?_
        refine own_goto X93 hx (pc' := 187) (hb hby at_183) (by decide) (by decide) ?_
        refine own_retN X93 hx hlk hret (by simp) (hb hby at_187) (by decide) (by decide) ?_
        exact ⟨rfl, N94⟩
      · skip
        refine own_icmpNo X61 hx (pc' := 52) (hb hby at_49) (flt hc49_80).2.2.1 rfl ?_
        refine own_iconst X61 hx (pc' := 53) (1 : Int32) (hb hby at_52) rfl rfl ?_
        refine own_goto X61 hx (pc' := 57) (hb hby at_53) (by decide) (by decide) ?_
        refine own_istore X61 hx (pc' := 59) (Ls' := #[.val (.int p0), .val (.int p1), .val (.int (1 : Int32)), .val (.ref r_MINUTE), .val (.int (0 : Int32)), .val (.int (59 : Int32)), .val (.ref bs), .val (.int (Int32.ofNat P)), .val (.int (1 : Int32)), .unset, .unset]) (hb hby at_57) rfl rfl ?_
        refine own_aload X61 hx (pc' := 61) (hb hby at_59) rfl rfl rfl ?_
        refine own_iconst X61 hx (pc' := 62) (0 : Int32) (hb hby at_61) rfl rfl ?_
        refine own_callV X61 hx (pc' := 65) hZ hown (Wd72 hw) (Wd74 hw) (Wd75 hw) (Wd76 hw) (Wd21 hw) (by decide) (rm_nsb l Z a0 hw [] bs wa 1 1 (own_bits (0 : Int32) ((59 : Int32) + (1 : Int32)))  T61.heap n0 Z63 (by decide) (by decide) (by decide) G0_61 G1_61 G2_61 G3_61 F64) rfl G0_61 0 (by decide) (by decide) (by decide) (by decide) [(.int (0 : Int32))] [] (by rw [hml]; rfl) (lenOf pd_0 rfl) rfl rfl (Nat.le_of_eq rfl) (hb hby at_62) rfl (fun v95 T95 L95 X95 hQ95 => ?_)
        obtain ⟨rfl, Nq95, e95⟩ := hQ95
        have N96 := Fr.app N62 Nq95
        show own_G p.tables e below _ T95 (mkF m 65 #[.val (.int p0), .val (.int p1), .val (.int (1 : Int32)), .val (.ref r_MINUTE), .val (.int (0 : Int32)), .val (.int (59 : Int32)), .val (.ref bs), .val (.int (Int32.ofNat P)), .val (.int (1 : Int32)), .unset, .unset] [(.int (own_nsb (own_bits (0 : Int32) ((59 : Int32) + (1 : Int32))) 1))])
        rw [own_vn_0_59]
        refine own_iload X95 hx (pc' := 67) (hb hby at_65) rfl rfl ?_
        refine own_icmpNo X95 hx (pc' := 70) (hb hby at_67) (teq rfl).2 rfl ?_
        refine own_aload X95 hx (pc' := 72) (hb hby at_70) rfl rfl rfl ?_
        refine own_callV X95 hx (pc' := 75) hZ hown (Wd85 hw) (Wd87 hw) (Wd88 hw) (Wd89 hw) (Wd21 hw) (by decide) (rm_len l Z a0 hw [] bs wa 1 1 (own_bits (0 : Int32) ((59 : Int32) + (1 : Int32)))  T61.heap n0 Z63 (by decide) (by decide) (by decide) G0_61 G1_61 G2_61 G3_61 ) e95 G0_61 0 (by decide) (by decide) (by decide) (by decide) [] [] (by rw [hml]; rfl) (lenOf pd_9 rfl) rfl rfl (Nat.le_of_eq rfl) (hb hby at_72) rfl (fun v97 T97 L97 X97 hQ97 => ?_)
        obtain ⟨rfl, Nq97, e97⟩ := hQ97
        have N98 := Fr.app N96 Nq97
        show own_G p.tables e below _ T97 (mkF m 75 #[.val (.int p0), .val (.int p1), .val (.int (1 : Int32)), .val (.ref r_MINUTE), .val (.int (0 : Int32)), .val (.int (59 : Int32)), .val (.ref bs), .val (.int (Int32.ofNat P)), .val (.int (1 : Int32)), .unset, .unset] [(.int (own_blen (own_bits (0 : Int32) ((59 : Int32) + (1 : Int32))) 1))])
        rw [own_vl_0_59]
        refine own_iload X97 hx (pc' := 77) (hb hby at_75) rfl rfl ?_
        refine own_iconst X97 hx (pc' := 78) (1 : Int32) (hb hby at_77) rfl rfl ?_
        refine own_iadd X97 hx (pc' := 79) (z := (60 : Int32)) (hb hby at_78) (by decide) rfl ?_
        refine own_icmpNo X97 hx (pc' := 82) (hb hby at_79) (teq rfl).2 rfl ?_
        refine own_aload X97 hx (pc' := 84) (hb hby at_82) rfl rfl rfl ?_
        refine own_callV X97 hx (pc' := 87) hZ hown (Wd97 hw) (Wd99 hw) (Wd100 hw) (Wd101 hw) (Wd21 hw) (by decide) (rm_card l Z a0 hw [] bs wa 1 1 (own_bits (0 : Int32) ((59 : Int32) + (1 : Int32)))  T61.heap n0 Z63 (by decide) (by decide) (by decide) G0_61 G1_61 G2_61 G3_61 ) e97 G0_61 0 (by decide) (by decide) (by decide) (by decide) [] [] (by rw [hml]; rfl) (lenOf pd_9 rfl) rfl rfl (Nat.le_of_eq rfl) (hb hby at_84) rfl (fun v99 T99 L99 X99 hQ99 => ?_)
        obtain ⟨rfl, Nq99, e99⟩ := hQ99
        have N100 := Fr.app N98 Nq99
        show own_G p.tables e below _ T99 (mkF m 87 #[.val (.int p0), .val (.int p1), .val (.int (1 : Int32)), .val (.ref r_MINUTE), .val (.int (0 : Int32)), .val (.int (59 : Int32)), .val (.ref bs), .val (.int (Int32.ofNat P)), .val (.int (1 : Int32)), .unset, .unset] [(.int (own_card (own_bits (0 : Int32) ((59 : Int32) + (1 : Int32))) 1 0 (0 : Int32)))])
        rw [own_vc_0_59]
        refine own_iload X99 hx (pc' := 89) (hb hby at_87) rfl rfl ?_
        refine own_iload X99 hx (pc' := 91) (hb hby at_89) rfl rfl ?_
        refine own_isub X99 hx (pc' := 92) (z := (59 : Int32)) (hb hby at_91) (by decide) rfl ?_
        refine own_iconst X99 hx (pc' := 93) (1 : Int32) (hb hby at_92) rfl rfl ?_
        refine own_iadd X99 hx (pc' := 94) (z := (60 : Int32)) (hb hby at_93) (by decide) rfl ?_
        refine own_icmpNo X99 hx (pc' := 97) (hb hby at_94) (teq rfl).2 rfl ?_
        refine own_iconst X99 hx (pc' := 98) (1 : Int32) (hb hby at_97) rfl rfl ?_
        refine own_goto X99 hx (pc' := 102) (hb hby at_98) (by decide) (by decide) ?_
        refine own_istore X99 hx (pc' := 104) (Ls' := #[.val (.int p0), .val (.int p1), .val (.int (1 : Int32)), .val (.ref r_MINUTE), .val (.int (0 : Int32)), .val (.int (59 : Int32)), .val (.ref bs), .val (.int (Int32.ofNat P)), .val (.int (1 : Int32)), .val (.int (1 : Int32)), .unset]) (hb hby at_102) rfl rfl ?_
        refine own_aload X99 hx (pc' := 106) (hb hby at_104) rfl rfl rfl ?_
        refine own_iload X99 hx (pc' := 108) (hb hby at_106) rfl rfl ?_
        refine own_callV X99 hx (pc' := 111) hZ hown (Wd108 hw) (Wd110 hw) (Wd111 hw) (Wd112 hw) (Wd21 hw) (by decide) (rm_get l Z a0 hw [] bs wa 1 1 (own_bits (0 : Int32) ((59 : Int32) + (1 : Int32))) (0 : Int32) 0 T61.heap n0 Z63 (by decide) (by decide) (by decide) G0_61 G1_61 G2_61 G3_61 F64 (by decide) (by decide) (by decide)) e99 G0_61 0 (by decide) (by decide) (by decide) (by decide) [(.int (0 : Int32))] [] (by rw [hml]; rfl) (lenOf pd_10 rfl) rfl rfl (Nat.le_of_eq rfl) (hb hby at_108) rfl (fun v101 T101 L101 X101 hQ101 => ?_)
        obtain ⟨rfl, Nq101, e101⟩ := hQ101
        have N102 := Fr.app N100 Nq101
        show own_G p.tables e below _ T101 (mkF m 111 #[.val (.int p0), .val (.int p1), .val (.int (1 : Int32)), .val (.ref r_MINUTE), .val (.int (0 : Int32)), .val (.int (59 : Int32)), .val (.ref bs), .val (.int (Int32.ofNat P)), .val (.int (1 : Int32)), .val (.int (1 : Int32)), .unset] [(.int (own_get (own_bits (0 : Int32) ((59 : Int32) + (1 : Int32))) 1 0 (0 : Int32)))])
        rw [own_vg_0_59_0]
        refine own_ifNo X101 hx (pc' := 114) (hb hby at_111) (feq (by decide : ¬ ((1 : Int32) = (0 : Int32)))).1 rfl ?_
        refine own_aload X101 hx (pc' := 116) (hb hby at_114) rfl rfl rfl ?_
        refine own_iload X101 hx (pc' := 118) (hb hby at_116) rfl rfl ?_
        refine own_callV X101 hx (pc' := 121) hZ hown (Wd108 hw) (Wd110 hw) (Wd111 hw) (Wd112 hw) (Wd21 hw) (by decide) (rm_get l Z a0 hw [] bs wa 1 1 (own_bits (0 : Int32) ((59 : Int32) + (1 : Int32))) (59 : Int32) 0 T61.heap n0 Z63 (by decide) (by decide) (by decide) G0_61 G1_61 G2_61 G3_61 F64 (by decide) (by decide) (by decide)) e101 G0_61 0 (by decide) (by decide) (by decide) (by decide) [(.int (59 : Int32))] [] (by rw [hml]; rfl) (lenOf pd_10 rfl) rfl rfl (Nat.le_of_eq rfl) (hb hby at_118) rfl (fun v103 T103 L103 X103 hQ103 => ?_)
        obtain ⟨rfl, Nq103, e103⟩ := hQ103
        have N104 := Fr.app N102 Nq103
        show own_G p.tables e below _ T103 (mkF m 121 #[.val (.int p0), .val (.int p1), .val (.int (1 : Int32)), .val (.ref r_MINUTE), .val (.int (0 : Int32)), .val (.int (59 : Int32)), .val (.ref bs), .val (.int (Int32.ofNat P)), .val (.int (1 : Int32)), .val (.int (1 : Int32)), .unset] [(.int (own_get (own_bits (0 : Int32) ((59 : Int32) + (1 : Int32))) 1 0 (59 : Int32)))])
        rw [own_vg_0_59_59]
        refine own_ifNo X103 hx (pc' := 124) (hb hby at_121) (feq (by decide : ¬ ((1 : Int32) = (0 : Int32)))).1 rfl ?_
        refine own_iload X103 hx (pc' := 126) (hb hby at_124) rfl rfl ?_
        refine own_ifYes X103 hx (pc' := 141) (hb hby at_126) (teq rfl).1 (by decide) (by decide) ?_
        refine own_aload X103 hx (pc' := 143) (hb hby at_141) rfl rfl rfl ?_
        refine own_iload X103 hx (pc' := 145) (hb hby at_143) rfl rfl ?_
        refine own_iconst X103 hx (pc' := 146) (1 : Int32) (hb hby at_145) rfl rfl ?_
        refine own_iadd X103 hx (pc' := 147) (z := (60 : Int32)) (hb hby at_146) (by decide) rfl ?_
        refine own_callV X103 hx (pc' := 150) hZ hown (Wd108 hw) (Wd110 hw) (Wd111 hw) (Wd112 hw) (Wd21 hw) (by decide) (rm_get l Z a0 hw [] bs wa 1 1 (own_bits (0 : Int32) ((59 : Int32) + (1 : Int32))) (60 : Int32) 0 T61.heap n0 Z63 (by decide) (by decide) (by decide) G0_61 G1_61 G2_61 G3_61 F64 (by decide) (by decide) (by decide)) e103 G0_61 0 (by decide) (by decide) (by decide) (by decide) [(.int (60 : Int32))] [] (by rw [hml]; rfl) (lenOf pd_10 rfl) rfl rfl (Nat.le_of_eq rfl) (hb hby at_147) rfl (fun v105 T105 L105 X105 hQ105 => ?_)
        obtain ⟨rfl, Nq105, e105⟩ := hQ105
        have N106 := Fr.app N104 Nq105
        show own_G p.tables e below _ T105 (mkF m 150 #[.val (.int p0), .val (.int p1), .val (.int (1 : Int32)), .val (.ref r_MINUTE), .val (.int (0 : Int32)), .val (.int (59 : Int32)), .val (.ref bs), .val (.int (Int32.ofNat P)), .val (.int (1 : Int32)), .val (.int (1 : Int32)), .unset] [(.int (own_get (own_bits (0 : Int32) ((59 : Int32) + (1 : Int32))) 1 0 (60 : Int32)))])
        rw [own_vg_0_59_60]
        refine own_ifNo X105 hx (pc' := 153) (hb hby at_150) (teq rfl).2 rfl ?_
        refine own_iconst X105 hx (pc' := 154) (1 : Int32) (hb hby at_153) rfl rfl ?_
        refine own_goto X105 hx (pc' := 158) (hb hby at_154) (by decide) (by decide) ?_
        refine own_istore X105 hx (pc' := 160) (Ls' := #[.val (.int p0), .val (.int p1), .val (.int (1 : Int32)), .val (.ref r_MINUTE), .val (.int (0 : Int32)), .val (.int (59 : Int32)), .val (.ref bs), .val (.int (Int32.ofNat P)), .val (.int (1 : Int32)), .val (.int (1 : Int32)), .val (.int (1 : Int32))]) (hb hby at_158) rfl rfl ?_
        refine own_iload X105 hx (pc' := 162) (hb hby at_160) rfl rfl ?_
        refine own_ifNo X105 hx (pc' := 165) (hb hby at_162) (feq (by decide : ¬ ((1 : Int32) = (0 : Int32)))).1 rfl ?_
        refine own_iload X105 hx (pc' := 167) (hb hby at_165) rfl rfl ?_
        refine own_ifNo X105 hx (pc' := 170) (hb hby at_167) (feq (by decide : ¬ ((1 : Int32) = (0 : Int32)))).1 rfl ?_
        refine own_aload X105 hx (pc' := 172) (hb hby at_170) rfl rfl rfl ?_
        refine own_iload X105 hx (pc' := 174) (hb hby at_172) rfl rfl ?_
        refine own_callV X105 hx (pc' := 177) hZ hown (Wd108 hw) (Wd110 hw) (Wd111 hw) (Wd112 hw) (Wd21 hw) (by decide) (rm_get l Z a0 hw [] bs wa 1 1 (own_bits (0 : Int32) ((59 : Int32) + (1 : Int32))) (Int32.ofNat P) (P / 64) T61.heap n0 Z63 (by decide) (by decide) (by decide) G0_61 G1_61 G2_61 G3_61 F64 (own_clamp (n := P) (by omega)).1 (own_wiP P hP) (by omega)) e105 G0_61 0 (by decide) (by decide) (by decide) (by decide) [(.int (Int32.ofNat P))] [] (by rw [hml]; rfl) (lenOf pd_10 rfl) rfl rfl (Nat.le_of_eq rfl) (hb hby at_174) rfl (fun v107 T107 L107 X107 hQ107 => ?_)
        obtain ⟨rfl, Nq107, e107⟩ := hQ107
        have N108 := Fr.app N106 Nq107
        show own_G p.tables e below _ T107 (mkF m 177 #[.val (.int p0), .val (.int p1), .val (.int (1 : Int32)), .val (.ref r_MINUTE), .val (.int (0 : Int32)), .val (.int (59 : Int32)), .val (.ref bs), .val (.int (Int32.ofNat P)), .val (.int (1 : Int32)), .val (.int (1 : Int32)), .val (.int (1 : Int32))] [(.int (own_get (own_bits (0 : Int32) ((59 : Int32) + (1 : Int32))) 1 (P / 64) (Int32.ofNat P)))])
        rw [own_vP_0_59 P hP, if_neg hc42_65, if_neg hc49_80]
        refine own_iload X107 hx (pc' := 179) (hb hby at_177) rfl rfl ?_
        refine own_icmpNo X107 hx (pc' := 182) (hb hby at_179) (teq rfl).2 rfl ?_
        refine own_iconst X107 hx (pc' := 183) (1 : Int32) (hb hby at_182) rfl rfl ?_
        refine own_goto X107 hx (pc' := 187) (hb hby at_183) (by decide) (by decide) ?_
        refine own_retN X107 hx hlk hret (by simp) (hb hby at_187) (by decide) (by decide) ?_
        exact ⟨rfl, N108⟩
  · rw [hk]
    refine own_iloadN X0 hx (pc' := 9) (hb hby at_8) rfl rfl ?_
    refine own_callS X0 hx (pc' := 12) hZ hown (Wd1 hw) (Wd2 hw) (Wd3 hw) (Wd4 hw) (by decide) (rm_field l Z a0 hw [] (2 : Int32) r_SECOND r_MINUTE r_HOUR r_DAY_OF_MONTH r_MONTH r_DAY_OF_WEEK r_YEAR h0 n0 Z0 S_r_SECOND S_r_DAY_OF_MONTH S_r_MINUTE S_r_MONTH S_r_YEAR S_r_DAY_OF_WEEK S_r_HOUR) e0 0 (by decide) (by decide) (by decide) (by decide) [(.int (2 : Int32))] [] (by rw [hml]; rfl) (lenOf pd_7 rfl) rfl rfl (Nat.le_of_eq rfl) (hb hby at_9) rfl (fun v109 T109 L109 X109 hQ109 => ?_)
    obtain ⟨hv109, Nq109, e109⟩ := hQ109
    have N110 := Fr.app N0 Nq109
    rw [show own_field (2 : Int32) r_SECOND r_MINUTE r_HOUR r_DAY_OF_MONTH r_MONTH r_DAY_OF_WEEK r_YEAR = r_HOUR from rfl] at hv109
    subst hv109
    show own_G p.tables e below _ T109 (mkF m 12 #[.val (.int p0), .val (.int p1), .val (.int (2 : Int32)), .unset, .unset, .unset, .unset, .unset, .unset, .unset, .unset] [(.ref r_HOUR)])
    refine own_astoreN X109 hx (pc' := 13) (Ls' := #[.val (.int p0), .val (.int p1), .val (.int (2 : Int32)), .val (.ref r_HOUR), .unset, .unset, .unset, .unset, .unset, .unset, .unset]) (hb hby at_12) rfl rfl rfl ?_
    refine own_iloadN X109 hx (pc' := 14) (hb hby at_13) rfl rfl ?_
    refine own_callS X109 hx (pc' := 17) hZ hown (Wd8 hw) (Wd9 hw) (Wd3 hw) (Wd10 hw) (by decide) (rm_low l Z a0 hw [] (2 : Int32) h0 n0 Z0) e109 0 (by decide) (by decide) (by decide) (by decide) [(.int (2 : Int32))] [] (by rw [hml]; rfl) (lenOf pd_0 rfl) rfl rfl (Nat.le_of_eq rfl) (hb hby at_14) rfl (fun v111 T111 L111 X111 hQ111 => ?_)
    obtain ⟨rfl, Nq111, e111⟩ := hQ111
    have N112 := Fr.app N110 Nq111
    show own_G p.tables e below _ T111 (mkF m 17 #[.val (.int p0), .val (.int p1), .val (.int (2 : Int32)), .val (.ref r_HOUR), .unset, .unset, .unset, .unset, .unset, .unset, .unset] [(.int (own_lowk (2 : Int32)))])
    rw [show own_lowk (2 : Int32) = (0 : Int32) from by decide]
    refine own_istore X111 hx (pc' := 19) (Ls' := #[.val (.int p0), .val (.int p1), .val (.int (2 : Int32)), .val (.ref r_HOUR), .val (.int (0 : Int32)), .unset, .unset, .unset, .unset, .unset, .unset]) (hb hby at_17) rfl rfl ?_
    refine own_iloadN X111 hx (pc' := 20) (hb hby at_19) rfl rfl ?_
    refine own_callS X111 hx (pc' := 23) hZ hown (Wd11 hw) (Wd12 hw) (Wd3 hw) (Wd13 hw) (by decide) (rm_high l Z a0 hw [] (2 : Int32) h0 n0 Z0) e111 0 (by decide) (by decide) (by decide) (by decide) [(.int (2 : Int32))] [] (by rw [hml]; rfl) (lenOf pd_0 rfl) rfl rfl (Nat.le_of_eq rfl) (hb hby at_20) rfl (fun v113 T113 L113 X113 hQ113 => ?_)
    obtain ⟨rfl, Nq113, e113⟩ := hQ113
    have N114 := Fr.app N112 Nq113
    show own_G p.tables e below _ T113 (mkF m 23 #[.val (.int p0), .val (.int p1), .val (.int (2 : Int32)), .val (.ref r_HOUR), .val (.int (0 : Int32)), .unset, .unset, .unset, .unset, .unset, .unset] [(.int (own_highk (2 : Int32)))])
    rw [show own_highk (2 : Int32) = (23 : Int32) from by decide]
    refine own_istore X113 hx (pc' := 25) (Ls' := #[.val (.int p0), .val (.int p1), .val (.int (2 : Int32)), .val (.ref r_HOUR), .val (.int (0 : Int32)), .val (.int (23 : Int32)), .unset, .unset, .unset, .unset, .unset]) (hb hby at_23) rfl rfl ?_
    refine own_aloadN X113 hx (pc' := 26) (hb hby at_25) rfl rfl rfl ?_
    refine own_callV X113 hx (pc' := 29) hZ hown (Wd14 hw) (Wd16 hw) (Wd17 hw) (Wd18 hw) (Wd6 hw) (by decide) (rm_a1 l Z a0 hw [] r_HOUR (0 : Int32) (23 : Int32) h0 n0 Z0 F_r_HOUR_min F_r_HOUR_max B_ad (by decide) (by decide) (by decide) (by decide) (by decide) (by decide)) e113 E_r_HOUR 0 (by decide) (by decide) (by decide) (by decide) [] [] (by rw [hml]; rfl) (lenOf pd_8 rfl) rfl rfl (Nat.le_of_eq rfl) (hb hby at_26) rfl (fun v115 T115 L115 X115 hQ115 => ?_)
    obtain ⟨Nq115, K115, bs, wa, rfl, G0_115, G1_115, G2_115, G3_115⟩ := hQ115
    have N116 := Fr.app N114 Nq115
    have Z117 : n0 ≤ T115.heap.size := Nat.le_trans Z0 K115.1
    have F118 := (B_ad.keep K115 (fun x hx => absurd hx List.not_mem_nil))
    show own_G p.tables e below _ T115 (mkF m 29 #[.val (.int p0), .val (.int p1), .val (.int (2 : Int32)), .val (.ref r_HOUR), .val (.int (0 : Int32)), .val (.int (23 : Int32)), .unset, .unset, .unset, .unset, .unset] [(.ref bs)])
    refine own_astore X115 hx (pc' := 31) (Ls' := #[.val (.int p0), .val (.int p1), .val (.int (2 : Int32)), .val (.ref r_HOUR), .val (.int (0 : Int32)), .val (.int (23 : Int32)), .val (.ref bs), .unset, .unset, .unset, .unset]) (hb hby at_29) rfl rfl rfl ?_
    refine own_iloadN X115 hx (pc' := 32) (hb hby at_31) rfl rfl ?_
    refine own_sipush X115 hx (pc' := 35) (4095 : Int32) (hb hby at_32) rfl rfl ?_
    refine own_iand X115 hx (pc' := 36) (hb hby at_35) rfl rfl ?_
    obtain ⟨P, hP, eP⟩ : ∃ A : Nat, A < 4096 ∧ (p1 &&& (4095 : Int32)) = Int32.ofNat A := own_m12 p1
    rw [eP]
    refine own_istore X115 hx (pc' := 38) (Ls' := #[.val (.int p0), .val (.int p1), .val (.int (2 : Int32)), .val (.ref r_HOUR), .val (.int (0 : Int32)), .val (.int (23 : Int32)), .val (.ref bs), .val (.int (Int32.ofNat P)), .unset, .unset, .unset]) (hb hby at_36) rfl rfl ?_
    refine own_iload X115 hx (pc' := 40) (hb hby at_38) rfl rfl ?_
    refine own_iload X115 hx (pc' := 42) (hb hby at_40) rfl rfl ?_
    by_cases hc42_119 : (Int32.ofNat P) < (0 : Int32)
    · skip
      refine own_icmpYes X115 hx (pc' := 56) (hb hby at_42) (tlt hc42_119).2.2.1 (by decide) (by decide) ?_
      refine own_iconst X115 hx (pc' := 57) (0 : Int32) (hb hby at_56) rfl rfl ?_
      refine own_istore X115 hx (pc' := 59) (Ls' := #[.val (.int p0), .val (.int p1), .val (.int (2 : Int32)), .val (.ref r_HOUR), .val (.int (0 : Int32)), .val (.int (23 : Int32)), .val (.ref bs), .val (.int (Int32.ofNat P)), .val (.int (0 : Int32)), .unset, .unset]) (hb hby at_57) rfl rfl ?_
      refine own_aload X115 hx (pc' := 61) (hb hby at_59) rfl rfl rfl ?_
      refine own_iconst X115 hx (pc' := 62) (0 : Int32) (hb hby at_61) rfl rfl ?_
      refine own_callV X115 hx (pc' := 65) hZ hown (Wd72 hw) (Wd74 hw) (Wd75 hw) (Wd76 hw) (Wd21 hw) (by decide) (rm_nsb l Z a0 hw [] bs wa 1 1 (own_bits (0 : Int32) ((23 : Int32) + (1 : Int32)))  T115.heap n0 Z117 (by decide) (by decide) (by decide) G0_115 G1_115 G2_115 G3_115 F118) rfl G0_115 0 (by decide) (by decide) (by decide) (by decide) [(.int (0 : Int32))] [] (by rw [hml]; rfl) (lenOf pd_0 rfl) rfl rfl (Nat.le_of_eq rfl) (hb hby at_62) rfl (fun v120 T120 L120 X120 hQ120 => ?_)
      obtain ⟨rfl, Nq120, e120⟩ := hQ120
      have N121 := Fr.app N116 Nq120
      show own_G p.tables e below _ T120 (mkF m 65 #[.val (.int p0), .val (.int p1), .val (.int (2 : Int32)), .val (.ref r_HOUR), .val (.int (0 : Int32)), .val (.int (23 : Int32)), .val (.ref bs), .val (.int (Int32.ofNat P)), .val (.int (0 : Int32)), .unset, .unset] [(.int (own_nsb (own_bits (0 : Int32) ((23 : Int32) + (1 : Int32))) 1))])
      rw [own_vn_0_23]
      refine own_iload X120 hx (pc' := 67) (hb hby at_65) rfl rfl ?_
      refine own_icmpNo X120 hx (pc' := 70) (hb hby at_67) (teq rfl).2 rfl ?_
      refine own_aload X120 hx (pc' := 72) (hb hby at_70) rfl rfl rfl ?_
      refine own_callV X120 hx (pc' := 75) hZ hown (Wd85 hw) (Wd87 hw) (Wd88 hw) (Wd89 hw) (Wd21 hw) (by decide) (rm_len l Z a0 hw [] bs wa 1 1 (own_bits (0 : Int32) ((23 : Int32) + (1 : Int32)))  T115.heap n0 Z117 (by decide) (by decide) (by decide) G0_115 G1_115 G2_115 G3_115 ) e120 G0_115 0 (by decide) (by decide) (by decide) (by decide) [] [] (by rw [hml]; rfl) (lenOf pd_9 rfl) rfl rfl (Nat.le_of_eq rfl) (hb hby at_72) rfl (fun v122 T122 L122 X122 hQ122 => ?_)
      obtain ⟨rfl, Nq122, e122⟩ := hQ122
      have N123 := Fr.app N121 Nq122
      show own_G p.tables e below _ T122 (mkF m 75 #[.val (.int p0), .val (.int p1), .val (.int (2 : Int32)), .val (.ref r_HOUR), .val (.int (0 : Int32)), .val (.int (23 : Int32)), .val (.ref bs), .val (.int (Int32.ofNat P)), .val (.int (0 : Int32)), .unset, .unset] [(.int (own_blen (own_bits (0 : Int32) ((23 : Int32) + (1 : Int32))) 1))])
      rw [own_vl_0_23]
      refine own_iload X122 hx (pc' := 77) (hb hby at_75) rfl rfl ?_
      refine own_iconst X122 hx (pc' := 78) (1 : Int32) (hb hby at_77) rfl rfl ?_
      refine own_iadd X122 hx (pc' := 79) (z := (24 : Int32)) (hb hby at_78) (by decide) rfl ?_
      refine own_icmpNo X122 hx (pc' := 82) (hb hby at_79) (teq rfl).2 rfl ?_
      refine own_aload X122 hx (pc' := 84) (hb hby at_82) rfl rfl rfl ?_
      refine own_callV X122 hx (pc' := 87) hZ hown (Wd97 hw) (Wd99 hw) (Wd100 hw) (Wd101 hw) (Wd21 hw) (by decide) (rm_card l Z a0 hw [] bs wa 1 1 (own_bits (0 : Int32) ((23 : Int32) + (1 : Int32)))  T115.heap n0 Z117 (by decide) (by decide) (by decide) G0_115 G1_115 G2_115 G3_115 ) e122 G0_115 0 (by decide) (by decide) (by decide) (by decide) [] [] (by rw [hml]; rfl) (lenOf pd_9 rfl) rfl rfl (Nat.le_of_eq rfl) (hb hby at_84) rfl (fun v124 T124 L124 X124 hQ124 => ?_)
      obtain ⟨rfl, Nq124, e124⟩ := hQ124
      have N125 := Fr.app N123 Nq124
      show own_G p.tables e below _ T124 (mkF m 87 #[.val (.int p0), .val (.int p1), .val (.int (2 : Int32)), .val (.ref r_HOUR), .val (.int (0 : Int32)), .val (.int (23 : Int32)), .val (.ref bs), .val (.int (Int32.ofNat P)), .val (.int (0 : Int32)), .unset, .unset] [(.int (own_card (own_bits (0 : Int32) ((23 : Int32) + (1 : Int32))) 1 0 (0 : Int32)))])
      rw [own_vc_0_23]
      refine own_iload X124 hx (pc' := 89) (hb hby at_87) rfl rfl ?_
      refine own_iload X124 hx (pc' := 91) (hb hby at_89) rfl rfl ?_
      refine own_isub X124 hx (pc' := 92) (z := (23 : Int32)) (hb hby at_91) (by decide) rfl ?_
      refine own_iconst X124 hx (pc' := 93) (1 : Int32) (hb hby at_92) rfl rfl ?_
      refine own_iadd X124 hx (pc' := 94) (z := (24 : Int32)) (hb hby at_93) (by decide) rfl ?_
      refine own_icmpNo X124 hx (pc' := 97) (hb hby at_94) (teq rfl).2 rfl ?_
      refine own_iconst X124 hx (pc' := 98) (1 : Int32) (hb hby at_97) rfl rfl ?_
      refine own_goto X124 hx (pc' := 102) (hb hby at_98) (by decide) (by decide) ?_
      refine own_istore X124 hx (pc' := 104) (Ls' := #[.val (.int p0), .val (.int p1), .val (.int (2 : Int32)), .val (.ref r_HOUR), .val (.int (0 : Int32)), .val (.int (23 : Int32)), .val (.ref bs), .val (.int (Int32.ofNat P)), .val (.int (0 : Int32)), .val (.int (1 : Int32)), .unset]) (hb hby at_102) rfl rfl ?_
      refine own_aload X124 hx (pc' := 106) (hb hby at_104) rfl rfl rfl ?_
      refine own_iload X124 hx (pc' := 108) (hb hby at_106) rfl rfl ?_
      refine own_callV X124 hx (pc' := 111) hZ hown (Wd108 hw) (Wd110 hw) (Wd111 hw) (Wd112 hw) (Wd21 hw) (by decide) (rm_get l Z a0 hw [] bs wa 1 1 (own_bits (0 : Int32) ((23 : Int32) + (1 : Int32))) (0 : Int32) 0 T115.heap n0 Z117 (by decide) (by decide) (by decide) G0_115 G1_115 G2_115 G3_115 F118 (by decide) (by decide) (by decide)) e124 G0_115 0 (by decide) (by decide) (by decide) (by decide) [(.int (0 : Int32))] [] (by rw [hml]; rfl) (lenOf pd_10 rfl) rfl rfl (Nat.le_of_eq rfl) (hb hby at_108) rfl (fun v126 T126 L126 X126 hQ126 => ?_)
      obtain ⟨rfl, Nq126, e126⟩ := hQ126
      have N127 := Fr.app N125 Nq126
      show own_G p.tables e below _ T126 (mkF m 111 #[.val (.int p0), .val (.int p1), .val (.int (2 : Int32)), .val (.ref r_HOUR), .val (.int (0 : Int32)), .val (.int (23 : Int32)), .val (.ref bs), .val (.int (Int32.ofNat P)), .val (.int (0 : Int32)), .val (.int (1 : Int32)), .unset] [(.int (own_get (own_bits (0 : Int32) ((23 : Int32) + (1 : Int32))) 1 0 (0 : Int32)))])
      rw [own_vg_0_23_0]
      refine own_ifNo X126 hx (pc' := 114) (hb hby at_111) (feq (by decide : ¬ ((1 : Int32) = (0 : Int32)))).1 rfl ?_
      refine own_aload X126 hx (pc' := 116) (hb hby at_114) rfl rfl rfl ?_
      refine own_iload X126 hx (pc' := 118) (hb hby at_116) rfl rfl ?_
      refine own_callV X126 hx (pc' := 121) hZ hown (Wd108 hw) (Wd110 hw) (Wd111 hw) (Wd112 hw) (Wd21 hw) (by decide) (rm_get l Z a0 hw [] bs wa 1 1 (own_bits (0 : Int32) ((23 : Int32) + (1 : Int32))) (23 : Int32) 0 T115.heap n0 Z117 (by decide) (by decide) (by decide) G0_115 G1_115 G2_115 G3_115 F118 (by decide) (by decide) (by decide)) e126 G0_115 0 (by decide) (by decide) (by decide) (by decide) [(.int (23 : Int32))] [] (by rw [hml]; rfl) (lenOf pd_10 rfl) rfl rfl (Nat.le_of_eq rfl) (hb hby at_118) rfl (fun v128 T128 L128 X128 hQ128 => ?_)
      obtain ⟨rfl, Nq128, e128⟩ := hQ128
      have N129 := Fr.app N127 Nq128
      show own_G p.tables e below _ T128 (mkF m 121 #[.val (.int p0), .val (.int p1), .val (.int (2 : Int32)), .val (.ref r_HOUR), .val (.int (0 : Int32)), .val (.int (23 : Int32)), .val (.ref bs), .val (.int (Int32.ofNat P)), .val (.int (0 : Int32)), .val (.int (1 : Int32)), .unset] [(.int (own_get (own_bits (0 : Int32) ((23 : Int32) + (1 : Int32))) 1 0 (23 : Int32)))])
      rw [own_vg_0_23_23]
      refine own_ifNo X128 hx (pc' := 124) (hb hby at_121) (feq (by decide : ¬ ((1 : Int32) = (0 : Int32)))).1 rfl ?_
      refine own_iload X128 hx (pc' := 126) (hb hby at_124) rfl rfl ?_
      refine own_ifYes X128 hx (pc' := 141) (hb hby at_126) (teq rfl).1 (by decide) (by decide) ?_
      refine own_aload X128 hx (pc' := 143) (hb hby at_141) rfl rfl rfl ?_
      refine own_iload X128 hx (pc' := 145) (hb hby at_143) rfl rfl ?_
      refine own_iconst X128 hx (pc' := 146) (1 : Int32) (hb hby at_145) rfl rfl ?_
      refine own_iadd X128 hx (pc' := 147) (z := (24 : Int32)) (hb hby at_146) (by decide) rfl ?_
      refine own_callV X128 hx (pc' := 150) hZ hown (Wd108 hw) (Wd110 hw) (Wd111 hw) (Wd112 hw) (Wd21 hw) (by decide) (rm_get l Z a0 hw [] bs wa 1 1 (own_bits (0 : Int32) ((23 : Int32) + (1 : Int32))) (24 : Int32) 0 T115.heap n0 Z117 (by decide) (by decide) (by decide) G0_115 G1_115 G2_115 G3_115 F118 (by decide) (by decide) (by decide)) e128 G0_115 0 (by decide) (by decide) (by decide) (by decide) [(.int (24 : Int32))] [] (by rw [hml]; rfl) (lenOf pd_10 rfl) rfl rfl (Nat.le_of_eq rfl) (hb hby at_147) rfl (fun v130 T130 L130 X130 hQ130 => ?_)
      obtain ⟨rfl, Nq130, e130⟩ := hQ130
      have N131 := Fr.app N129 Nq130
      show own_G p.tables e below _ T130 (mkF m 150 #[.val (.int p0), .val (.int p1), .val (.int (2 : Int32)), .val (.ref r_HOUR), .val (.int (0 : Int32)), .val (.int (23 : Int32)), .val (.ref bs), .val (.int (Int32.ofNat P)), .val (.int (0 : Int32)), .val (.int (1 : Int32)), .unset] [(.int (own_get (own_bits (0 : Int32) ((23 : Int32) + (1 : Int32))) 1 0 (24 : Int32)))])
      rw [own_vg_0_23_24]
      refine own_ifNo X130 hx (pc' := 153) (hb hby at_150) (teq rfl).2 rfl ?_
      refine own_iconst X130 hx (pc' := 154) (1 : Int32) (hb hby at_153) rfl rfl ?_
      refine own_goto X130 hx (pc' := 158) (hb hby at_154) (by decide) (by decide) ?_
      refine own_istore X130 hx (pc' := 160) (Ls' := #[.val (.int p0), .val (.int p1), .val (.int (2 : Int32)), .val (.ref r_HOUR), .val (.int (0 : Int32)), .val (.int (23 : Int32)), .val (.ref bs), .val (.int (Int32.ofNat P)), .val (.int (0 : Int32)), .val (.int (1 : Int32)), .val (.int (1 : Int32))]) (hb hby at_158) rfl rfl ?_
      refine own_iload X130 hx (pc' := 162) (hb hby at_160) rfl rfl ?_
      refine own_ifNo X130 hx (pc' := 165) (hb hby at_162) (feq (by decide : ¬ ((1 : Int32) = (0 : Int32)))).1 rfl ?_
      refine own_iload X130 hx (pc' := 167) (hb hby at_165) rfl rfl ?_
      refine own_ifNo X130 hx (pc' := 170) (hb hby at_167) (feq (by decide : ¬ ((1 : Int32) = (0 : Int32)))).1 rfl ?_
      refine own_aload X130 hx (pc' := 172) (hb hby at_170) rfl rfl rfl ?_
      refine own_iload X130 hx (pc' := 174) (hb hby at_172) rfl rfl ?_
      refine own_callV X130 hx (pc' := 177) hZ hown (Wd108 hw) (Wd110 hw) (Wd111 hw) (Wd112 hw) (Wd21 hw) (by decide) (rm_get l Z a0 hw [] bs wa 1 1 (own_bits (0 : Int32) ((23 : Int32) + (1 : Int32))) (Int32.ofNat P) (P / 64) T115.heap n0 Z117 (by decide) (by decide) (by decide) G0_115 G1_115 G2_115 G3_115 F118 (own_clamp (n := P) (by omega)).1 (own_wiP P hP) (by omega)) e130 G0_115 0 (by decide) (by decide) (by decide) (by decide) [(.int (Int32.ofNat P))] [] (by rw [hml]; rfl) (lenOf pd_10 rfl) rfl rfl (Nat.le_of_eq rfl) (hb hby at_174) rfl (fun v132 T132 L132 X132 hQ132 => ?_)
      obtain ⟨rfl, Nq132, e132⟩ := hQ132
      have N133 := Fr.app N131 Nq132
      show own_G p.tables e below _ T132 (mkF m 177 #[.val (.int p0), .val (.int p1), .val (.int (2 : Int32)), .val (.ref r_HOUR), .val (.int (0 : Int32)), .val (.int (23 : Int32)), .val (.ref bs), .val (.int (Int32.ofNat P)), .val (.int (0 : Int32)), .val (.int (1 : Int32)), .val (.int (1 : Int32))] [(.int (own_get (own_bits (0 : Int32) ((23 : Int32) + (1 : Int32))) 1 (P / 64) (Int32.ofNat P)))])
      rw [own_vP_0_23 P hP, if_pos hc42_119]
      refine own_iload X132 hx (pc' := 179) (hb hby at_177) rfl rfl ?_
      refine own_icmpNo X132 hx (pc' := 182) (hb hby at_179) (teq rfl).2 rfl ?_
      refine own_iconst X132 hx (pc' := 183) (1 : Int32) (hb hby at_182) rfl rfl ?_
      refine own_goto X132 hx (pc' := 187) (hb hby at_183) (by decide) (by decide) ?_
      refine own_retN X132 hx hlk hret (by simp) (hb hby at_187) (by decide) (by decide) ?_
      exact ⟨rfl, N133⟩
    · skip
      refine own_icmpNo X115 hx (pc' := 45) (hb hby at_42) (flt hc42_119).2.2.1 rfl ?_
      refine own_iload X115 hx (pc' := 47) (hb hby at_45) rfl rfl ?_
      refine own_iload X115 hx (pc' := 49) (hb hby at_47) rfl rfl ?_
      by_cases hc49_134 : (23 : Int32) < (Int32.ofNat P)
      · skip
        refine own_icmpYes X115 hx (pc' := 56) (hb hby at_49) (tlt hc49_134).2.2.1 (by decide) (by decide) ?_
        refine own_iconst X115 hx (pc' := 57) (0 : Int32) (hb hby at_56) rfl rfl ?_
        refine own_istore X115 hx (pc' := 59) (Ls' := #[.val (.int p0), .val (.int p1), .val (.int (2 : Int32)), .val (.ref r_HOUR), .val (.int (0 : Int32)), .val (.int (23 : Int32)), .val (.ref bs), .val (.int (Int32.ofNat P)), .val (.int (0 : Int32)), .unset, .unset]) (hb hby at_57) rfl rfl ?_
        refine own_aload X115 hx (pc' := 61) (hb hby at_59) rfl rfl rfl ?_
        refine own_iconst X115 hx (pc' := 62) (0 : Int32) (hb hby at_61) rfl rfl ?_
        refine own_callV X115 hx (pc' := 65) hZ hown (Wd72 hw) (Wd74 hw) (Wd75 hw) (Wd76 hw) (Wd21 hw) (by decide) (rm_nsb l Z a0 hw [] bs wa 1 1 (own_bits (0 : Int32) ((23 : Int32) + (1 : Int32)))  T115.heap n0 Z117 (by decide) (by decide) (by decide) G0_115 G1_115 G2_115 G3_115 F118) rfl G0_115 0 (by decide) (by decide) (by decide) (by decide) [(.int (0 : Int32))] [] (by rw [hml]; rfl) (lenOf pd_0 rfl) rfl rfl (Nat.le_of_eq rfl) (hb hby at_62) rfl (fun v135 T135 L135 X135 hQ135 => ?_)
        obtain ⟨rfl, Nq135, e135⟩ := hQ135
        have N136 := Fr.app N116 Nq135
        show own_G p.tables e below _ T135 (mkF m 65 #[.val (.int p0), .val (.int p1), .val (.int (2 : Int32)), .val (.ref r_HOUR), .val (.int (0 : Int32)), .val (.int (23 : Int32)), .val (.ref bs), .val (.int (Int32.ofNat P)), .val (.int (0 : Int32)), .unset, .unset] [(.int (own_nsb (own_bits (0 : Int32) ((23 : Int32) + (1 : Int32))) 1))])
        rw [own_vn_0_23]
        refine own_iload X135 hx (pc' := 67) (hb hby at_65) rfl rfl ?_
        refine own_icmpNo X135 hx (pc' := 70) (hb hby at_67) (teq rfl).2 rfl ?_
        refine own_aload X135 hx (pc' := 72) (hb hby at_70) rfl rfl rfl ?_
        refine own_callV X135 hx (pc' := 75) hZ hown (Wd85 hw) (Wd87 hw) (Wd88 hw) (Wd89 hw) (Wd21 hw) (by decide) (rm_len l Z a0 hw [] bs wa 1 1 (own_bits (0 : Int32) ((23 : Int32) + (1 : Int32)))  T115.heap n0 Z117 (by decide) (by decide) (by decide) G0_115 G1_115 G2_115 G3_115 ) e135 G0_115 0 (by decide) (by decide) (by decide) (by decide) [] [] (by rw [hml]; rfl) (lenOf pd_9 rfl) rfl rfl (Nat.le_of_eq rfl) (hb hby at_72) rfl (fun v137 T137 L137 X137 hQ137 => ?_)
        obtain ⟨rfl, Nq137, e137⟩ := hQ137
        have N138 := Fr.app N136 Nq137
        show own_G p.tables e below _ T137 (mkF m 75 #[.val (.int p0), .val (.int p1), .val (.int (2 : Int32)), .val (.ref r_HOUR), .val (.int (0 : Int32)), .val (.int (23 : Int32)), .val (.ref bs), .val (.int (Int32.ofNat P)), .val (.int (0 : Int32)), .unset, .unset] [(.int (own_blen (own_bits (0 : Int32) ((23 : Int32) + (1 : Int32))) 1))])
        rw [own_vl_0_23]
        refine own_iload X137 hx (pc' := 77) (hb hby at_75) rfl rfl ?_
        refine own_iconst X137 hx (pc' := 78) (1 : Int32) (hb hby at_77) rfl rfl ?_
        refine own_iadd X137 hx (pc' := 79) (z := (24 : Int32)) (hb hby at_78) (by decide) rfl ?_
        refine own_icmpNo X137 hx (pc' := 82) (hb hby at_79) (teq rfl).2 rfl ?_
        refine own_aload X137 hx (pc' := 84) (hb hby at_82) rfl rfl rfl ?_
        refine own_callV X137 hx (pc' := 87) hZ hown (Wd97 hw) (Wd99 hw) (Wd100 hw) (Wd101 hw) (Wd21 hw) (by decide) (rm_card l Z a0 hw [] bs wa 1 1 (own_bits (0 : Int32) ((23 : Int32) + (1 : Int32)))  T115.heap n0 Z117 (by decide) (by decide) (by decide) G0_115 G1_115 G2_115 G3_115 ) e137 G0_115 0 (by decide) (by decide) (by decide) (by decide) [] [] (by rw [hml]; rfl) (lenOf pd_9 rfl) rfl rfl (Nat.le_of_eq rfl) (hb hby at_84) rfl (fun v139 T139 L139 X139 hQ139 => ?_)
        obtain ⟨rfl, Nq139, e139⟩ := hQ139
        have N140 := Fr.app N138 Nq139
        show own_G p.tables e below _ T139 (mkF m 87 #[.val (.int p0), .val (.int p1), .val (.int (2 : Int32)), .val (.ref r_HOUR), .val (.int (0 : Int32)), .val (.int (23 : Int32)), .val (.ref bs), .val (.int (Int32.ofNat P)), .val (.int (0 : Int32)), .unset, .unset] [(.int (own_card (own_bits (0 : Int32) ((23 : Int32) + (1 : Int32))) 1 0 (0 : Int32)))])
        rw [own_vc_0_23]
        refine own_iload X139 hx (pc' := 89) (hb hby at_87) rfl rfl ?_
        refine own_iload X139 hx (pc' := 91) (hb hby at_89) rfl rfl ?_
        refine own_isub X139 hx (pc' := 92) (z := (23 : Int32)) (hb hby at_91) (by decide) rfl ?_
        refine own_iconst X139 hx (pc' := 93) (1 : Int32) (hb hby at_92) rfl rfl ?_
        refine own_iadd X139 hx (pc' := 94) (z := (24 : Int32)) (hb hby at_93) (by decide) rfl ?_
        refine own_icmpNo X139 hx (pc' := 97) (hb hby at_94) (teq rfl).2 rfl ?_
        refine own_iconst X139 hx (pc' := 98) (1 : Int32) (hb hby at_97) rfl rfl ?_
        refine own_goto X139 hx (pc' := 102) (hb hby at_98) (by decide) (by decide) ?_
        refine own_istore X139 hx (pc' := 104) (Ls' := #[.val (.int p0), .val (.int p1), .val (.int (2 : Int32)), .val (.ref r_HOUR), .val (.int (0 : Int32)), .val (.int (23 : Int32)), .val (.ref bs), .val (.int (Int32.ofNat P)), .val (.int (0 : Int32)), .val (.int (1 : Int32)), .unset]) (hb hby at_102) rfl rfl ?_
        refine own_aload X139 hx (pc' := 106) (hb hby at_104) rfl rfl rfl ?_
        refine own_iload X139 hx (pc' := 108) (hb hby at_106) rfl rfl ?_
        refine own_callV X139 hx (pc' := 111) hZ hown (Wd108 hw) (Wd110 hw) (Wd111 hw) (Wd112 hw) (Wd21 hw) (by decide) (rm_get l Z a0 hw [] bs wa 1 1 (own_bits (0 : Int32) ((23 : Int32) + (1 : Int32))) (0 : Int32) 0 T115.heap n0 Z117 (by decide) (by decide) (by decide) G0_115 G1_115 G2_115 G3_115 F118 (by decide) (by decide) (by decide)) e139 G0_115 0 (by decide) (by decide) (by decide) (by decide) [(.int (0 : Int32))] [] (by rw [hml]; rfl) (lenOf pd_10 rfl) rfl rfl (Nat.le_of_eq rfl) (hb hby at_108) rfl (fun v141 T141 L141 X141 hQ141 => ?_)
        obtain ⟨rfl, Nq141, e141⟩ := hQ141
        have N142 := Fr.app N140 Nq141
        show own_G p.tables e below _ T141 (mkF m 111 #[.val (.int p0), .val (.int p1), .val (.int (2 : Int32)), .val (.ref r_HOUR), .val (.int (0 : Int32)), .val (.int (23 : Int32)), .val (.ref bs), .val (.int (Int32.ofNat P)), .val (.int (0 : Int32)), .val (.int (1 : Int32)), .unset] [(.int (own_get (own_bits (0 : Int32) ((23 : Int32) + (1 : Int32))) 1 0 (0 : Int32)))])
        rw [own_vg_0_23_0]
        refine own_ifNo X141 hx (pc' := 114) (hb hby at_111) (feq (by decide : ¬ ((1 : Int32) = (0 : Int32)))).1 rfl ?_
        refine own_aload X141 hx (pc' := 116) (hb hby at_114) rfl rfl rfl ?_
        refine own_iload X141 hx (pc' := 118) (hb hby at_116) rfl rfl ?_
        refine own_callV X141 hx (pc' := 121) hZ hown (Wd108 hw) (Wd110 hw) (Wd111 hw) (Wd112 hw) (Wd21 hw) (by decide) (rm_get l Z a0 hw [] bs wa 1 1 (own_bits (0 : Int32) ((23 : Int32) + (1 : Int32))) (23 : Int32) 0 T115.heap n0 Z117 (by decide) (by decide) (by decide) G0_115 G1_115 G2_115 G3_115 F118 (by decide) (by decide) (by decide)) e141 G0_115 0 (by decide) (by decide) (by decide) (by decide) [(.int (23 : Int32))] [] (by rw [hml]; rfl) (lenOf pd_10 rfl) rfl rfl (Nat.le_of_eq rfl) (hb hby at_118) rfl (fun v143 T143 L143 X143 hQ143 => ?_)
        obtain ⟨rfl, Nq143, e143⟩ := hQ143
        have N144 := Fr.app N142 Nq143
        show own_G p.tables e below _ T143 (mkF m 121 #[.val (.int p0), .val (.int p1), .val (.int (2 : Int32)), .val (.ref r_HOUR), .val (.int (0 : Int32)), .val (.int (23 : Int32)), .val (.ref bs), .val (.int (Int32.ofNat P)), .val (.int (0 : Int32)), .val (.int (1 : Int32)), .unset] [(.int (own_get (own_bits (0 : Int32) ((23 : Int32) + (1 : Int32))) 1 0 (23 : Int32)))])
        rw [own_vg_0_23_23]
        refine own_ifNo X143 hx (pc' := 124) (hb hby at_121) (feq (by decide : ¬ ((1 : Int32) = (0 : Int32)))).1 rfl ?_
        refine own_iload X143 hx (pc' := 126) (hb hby at_124) rfl rfl ?_
        refine own_ifYes X143 hx (pc' := 141) (hb hby at_126) (teq rfl).1 (by decide) (by decide) ?_
        refine own_aload X143 hx (pc' := 143) (hb hby at_141) rfl rfl rfl ?_
        refine own_iload X143 hx (pc' := 145) (hb hby at_143) rfl rfl ?_
        refine own_iconst X143 hx (pc' := 146) (1 : Int32) (hb hby at_145) rfl rfl ?_
        refine own_iadd X143 hx (pc' := 147) (z := (24 : Int32)) (hb hby at_146) (by decide) rfl ?_
        refine own_callV X143 hx (pc' := 150) hZ hown (Wd108 hw) (Wd110 hw) (Wd111 hw) (Wd112 hw) (Wd21 hw) (by decide) (rm_get l Z a0 hw [] bs wa 1 1 (own_bits (0 : Int32) ((23 : Int32) + (1 : Int32))) (24 : Int32) 0 T115.heap n0 Z117 (by decide) (by decide) (by decide) G0_115 G1_115 G2_115 G3_115 F118 (by decide) (by decide) (by decide)) e143 G0_115 0 (by decide) (by decide) (by decide) (by decide) [(.int (24 : Int32))] [] (by rw [hml]; rfl) (lenOf pd_10 rfl) rfl rfl (Nat.le_of_eq rfl) (hb hby at_147) rfl (fun v145 T145 L145 X145 hQ145 => ?_)
        obtain ⟨rfl, Nq145, e145⟩ := hQ145
        have N146 := Fr.app N144 Nq145
        show own_G p.tables e below _ T145 (mkF m 150 #[.val (.int p0), .val (.int p1), .val (.int (2 : Int32)), .val (.ref r_HOUR), .val (.int (0 : Int32)), .val (.int (23 : Int32)), .val (.ref bs), .val (.int (Int32.ofNat P)), .val (.int (0 : Int32)), .val (.int (1 : Int32)), .unset] [(.int (own_get (own_bits (0 : Int32) ((23 : Int32) + (1 : Int32))) 1 0 (24 : Int32)))])
        rw [own_vg_0_23_24]
        refine own_ifNo X145 hx (pc' := 153) (hb hby at_150) (teq rfl).2 rfl ?_
        refine own_iconst X145 hx (pc' := 154) (1 : Int32) (hb hby at_153) rfl rfl ?_
        refine own_goto X145 hx (pc' := 158) (hb hby at_154) (by decide) (by decide) ?_
        refine own_istore X145 hx (pc' := 160) (Ls' := #[.val (.int p0), .val (.int p1), .val (.int (2 : Int32)), .val (.ref r_HOUR), .val (.int (0 : Int32)), .val (.int (23 : Int32)), .val (.ref bs), .val (.int (Int32.ofNat P)), .val (.int (0 : Int32)), .val (.int (1 : Int32)), .val (.int (1 : Int32))]) (hb hby at_158) rfl rfl ?_
        refine own_iload X145 hx (pc' := 162) (hb hby at_160) rfl rfl ?_
        refine own_ifNo X145 hx (pc' := 165) (hb hby at_162) (feq (by decide : ¬ ((1 : Int32) = (0 : Int32)))).1 rfl ?_
        refine own_iload X145 hx (pc' := 167) (hb hby at_165) rfl rfl ?_
        refine own_ifNo X145 hx (pc' := 170) (hb hby at_167) (feq (by decide : ¬ ((1 : Int32) = (0 : Int32)))).1 rfl ?_
        refine own_aload X145 hx (pc' := 172) (hb hby at_170) rfl rfl rfl ?_
        refine own_iload X145 hx (pc' := 174) (hb hby at_172) rfl rfl ?_
        refine own_callV X145 hx (pc' := 177) hZ hown (Wd108 hw) (Wd110 hw) (Wd111 hw) (Wd112 hw) (Wd21 hw) (by decide) (rm_get l Z a0 hw [] bs wa 1 1 (own_bits (0 : Int32) ((23 : Int32) + (1 : Int32))) (Int32.ofNat P) (P / 64) T115.heap n0 Z117 (by decide) (by decide) (by decide) G0_115 G1_115 G2_115 G3_115 F118 (own_clamp (n := P) (by omega)).1 (own_wiP P hP) (by omega)) e145 G0_115 0 (by decide) (by decide) (by decide) (by decide) [(.int (Int32.ofNat P))] [] (by rw [hml]; rfl) (lenOf pd_10 rfl) rfl rfl (Nat.le_of_eq rfl) (hb hby at_174) rfl (fun v147 T147 L147 X147 hQ147 => ?_)
        obtain ⟨rfl, Nq147, e147⟩ := hQ147
        have N148 := Fr.app N146 Nq147
        show own_G p.tables e below _ T147 (mkF m 177 #[.val (.int p0), .val (.int p1), .val (.int (2 : Int32)), .val (.ref r_HOUR), .val (.int (0 : Int32)), .val (.int (23 : Int32)), .val (.ref bs), .val (.int (Int32.ofNat P)), .val (.int (0 : Int32)), .val (.int (1 : Int32)), .val (.int (1 : Int32))] [(.int (own_get (own_bits (0 : Int32) ((23 : Int32) + (1 : Int32))) 1 (P / 64) (Int32.ofNat P)))])
        rw [own_vP_0_23 P hP, if_neg hc42_119, if_pos hc49_134]
        refine own_iload X147 hx (pc' := 179) (hb hby at_177) rfl rfl ?_
        refine own_icmpNo X147 hx (pc' := 182) (hb hby at_179) (teq rfl).2 rfl ?_
        refine own_iconst X147 hx (pc' := 183) (1 : Int32) (hb hby at_182) rfl rfl ?_
        refine own_goto X147 hx (pc' := 187) (hb hby at_183) (by decide) (by decide) ?_
        refine own_retN X147 hx hlk hret (by simp) (hb hby at_187) (by decide) (by decide) ?_
        exact ⟨rfl, N148⟩
      · skip
        refine own_icmpNo X115 hx (pc' := 52) (hb hby at_49) (flt hc49_134).2.2.1 rfl ?_
        refine own_iconst X115 hx (pc' := 53) (1 : Int32) (hb hby at_52) rfl rfl ?_
        refine own_goto X115 hx (pc' := 57) (hb hby at_53) (by decide) (by decide) ?_
        refine own_istore X115 hx (pc' := 59) (Ls' := #[.val (.int p0), .val (.int p1), .val (.int (2 : Int32)), .val (.ref r_HOUR), .val (.int (0 : Int32)), .val (.int (23 : Int32)), .val (.ref bs), .val (.int (Int32.ofNat P)), .val (.int (1 : Int32)), .unset, .unset]) (hb hby at_57) rfl rfl ?_
        refine own_aload X115 hx (pc' := 61) (hb hby at_59) rfl rfl rfl ?_
        refine own_iconst X115 hx (pc' := 62) (0 : Int32) (hb hby at_61) rfl rfl ?_
        refine own_callV X115 hx (pc' := 65) hZ hown (Wd72 hw) (Wd74 hw) (Wd75 hw) (Wd76 hw) (Wd21 hw) (by decide) (rm_nsb l Z a0 hw [] bs wa 1 1 (own_bits (0 : Int32) ((23 : Int32) + (1 : Int32)))  T115.heap n0 Z117 (by decide) (by decide) (by decide) G0_115 G1_115 G2_115 G3_115 F118) rfl G0_115 0 (by decide) (by decide) (by decide) (by decide) [(.int (0 : Int32))] [] (by rw [hml]; rfl) (lenOf pd_0 rfl) rfl rfl (Nat.le_of_eq rfl) (hb hby at_62) rfl (fun v149 T149 L149 X149 hQ149 => ?_)
        obtain ⟨rfl, Nq149, e149⟩ := hQ149
        have N150 := Fr.app N116 Nq149
        show own_G p.tables e below _ T149 (mkF m 65 #[.val (.int p0), .val (.int p1), .val (.int (2 : Int32)), .val (.ref r_HOUR), .val (.int (0 : Int32)), .val (.int (23 : Int32)), .val (.ref bs), .val (.int (Int32.ofNat P)), .val (.int (1 : Int32)), .unset, .unset] [(.int (own_nsb (own_bits (0 : Int32) ((23 : Int32) + (1 : Int32))) 1))])
        rw [own_vn_0_23]
        refine own_iload X149 hx (pc' := 67) (hb hby at_65) rfl rfl ?_
        refine own_icmpNo X149 hx (pc' := 70) (hb hby at_67) (teq rfl).2 rfl ?_
        refine own_aload X149 hx (pc' := 72) (hb hby at_70) rfl rfl rfl ?_
        refine own_callV X149 hx (pc' := 75) hZ hown (Wd85 hw) (Wd87 hw) (Wd88 hw) (Wd89 hw) (Wd21 hw) (by decide) (rm_len l Z a0 hw [] bs wa 1 1 (own_bits (0 : Int32) ((23 : Int32) + (1 : Int32)))  T115.heap n0 Z117 (by decide) (by decide) (by decide) G0_115 G1_115 G2_115 G3_115 ) e149 G0_115 0 (by decide) (by decide) (by decide) (by decide) [] [] (by rw [hml]; rfl) (lenOf pd_9 rfl) rfl rfl (Nat.le_of_eq rfl) (hb hby at_72) rfl (fun v151 T151 L151 X151 hQ151 => ?_)
        obtain ⟨rfl, Nq151, e151⟩ := hQ151
        have N152 := Fr.app N150 Nq151
        show own_G p.tables e below _ T151 (mkF m 75 #[.val (.int p0), .val (.int p1), .val (.int (2 : Int32)), .val (.ref r_HOUR), .val (.int (0 : Int32)), .val (.int (23 : Int32)), .val (.ref bs), .val (.int (Int32.ofNat P)), .val (.int (1 : Int32)), .unset, .unset] [(.int (own_blen (own_bits (0 : Int32) ((23 : Int32) + (1 : Int32))) 1))])
        rw [own_vl_0_23]
        refine own_iload X151 hx (pc' := 77) (hb hby at_75) rfl rfl ?_
        refine own_iconst X151 hx (pc' := 78) (1 : Int32) (hb hby at_77) rfl rfl ?_
        refine own_iadd X151 hx (pc' := 79) (z := (24 : Int32)) (hb hby at_78) (by decide) rfl ?_
        refine own_icmpNo X151 hx (pc' := 82) (hb hby at_79) (teq rfl).2 rfl ?_
        refine own_aload X151 hx (pc' := 84) (hb hby at_82) rfl rfl rfl ?_
        refine own_callV X151 hx (pc' := 87) hZ hown (Wd97 hw) (Wd99 hw) (Wd100 hw) (Wd101 hw) (Wd21 hw) (by decide) (rm_card l Z a0 hw [] bs wa 1 1 (own_bits (0 : Int32) ((23 : Int32) + (1 : Int32)))  T115.heap n0 Z117 (by decide) (by decide) (by decide) G0_115 G1_115 G2_115 G3_115 ) e151 G0_115 0 (by decide) (by decide) (by decide) (by decide) [] [] (by rw [hml]; rfl) (lenOf pd_9 rfl) rfl rfl (Nat.le_of_eq rfl) (hb hby at_84) rfl (fun v153 T153 L153 X153 hQ153 => ?_)
        obtain ⟨rfl, Nq153, e153⟩ := hQ153
        have N154 := Fr.app N152 Nq153
        show own_G p.tables e below _ T153 (mkF m 87 #[.val (.int p0), .val (.int p1), .val (.int (2 : Int32)), .val (.ref r_HOUR), .val (.int (0 : Int32)), .val (.int (23 : Int32)), .val (.ref bs), .val (.int (Int32.ofNat P)), .val (.int (1 : Int32)), .unset, .unset] [(.int (own_card (own_bits (0 : Int32) ((23 : Int32) + (1 : Int32))) 1 0 (0 : Int32)))])
        rw [own_vc_0_23]
        refine own_iload X153 hx (pc' := 89) (hb hby at_87) rfl rfl ?_
        refine own_iload X153 hx (pc' := 91) (hb hby at_89) rfl rfl ?_
        refine own_isub X153 hx (pc' := 92) (z := (23 : Int32)) (hb hby at_91) (by decide) rfl ?_
        refine own_iconst X153 hx (pc' := 93) (1 : Int32) (hb hby at_92) rfl rfl ?_
        refine own_iadd X153 hx (pc' := 94) (z := (24 : Int32)) (hb hby at_93) (by decide) rfl ?_
        refine own_icmpNo X153 hx (pc' := 97) (hb hby at_94) (teq rfl).2 rfl ?_
        refine own_iconst X153 hx (pc' := 98) (1 : Int32) (hb hby at_97) rfl rfl ?_
        refine own_goto X153 hx (pc' := 102) (hb hby at_98) (by decide) (by decide) ?_
        refine own_istore X153 hx (pc' := 104) (Ls' := #[.val (.int p0), .val (.int p1), .val (.int (2 : Int32)), .val (.ref r_HOUR), .val (.int (0 : Int32)), .val (.int (23 : Int32)), .val (.ref bs), .val (.int (Int32.ofNat P)), .val (.int (1 : Int32)), .val (.int (1 : Int32)), .unset]) (hb hby at_102) rfl rfl ?_
        refine own_aload X153 hx (pc' := 106) (hb hby at_104) rfl rfl rfl ?_
        refine own_iload X153 hx (pc' := 108) (hb hby at_106) rfl rfl ?_
        refine own_callV X153 hx (pc' := 111) hZ hown (Wd108 hw) (Wd110 hw) (Wd111 hw) (Wd112 hw) (Wd21 hw) (by decide) (rm_get l Z a0 hw [] bs wa 1 1 (own_bits (0 : Int32) ((23 : Int32) + (1 : Int32))) (0 : Int32) 0 T115.heap n0 Z117 (by decide) (by decide) (by decide) G0_115 G1_115 G2_115 G3_115 F118 (by decide) (by decide) (by decide)) e153 G0_115 0 (by decide) (by decide) (by decide) (by decide) [(.int (0 : Int32))] [] (by rw [hml]; rfl) (lenOf pd_10 rfl) rfl rfl (Nat.le_of_eq rfl) (hb hby at_108) rfl (fun v155 T155 L155 X155 hQ155 => ?_)
        obtain ⟨rfl, Nq155, e155⟩ := hQ155
        have N156 := Fr.app N154 Nq155
        show own_G p.tables e below _ T155 (mkF m 111 #[.val (.int p0), .val (.int p1), .val (.int (2 : Int32)), .val (.ref r_HOUR), .val (.int (0 : Int32)), .val (.int (23 : Int32)), .val (.ref bs), .val (.int (Int32.ofNat P)), .val (.int (1 : Int32)), .val (.int (1 : Int32)), .unset] [(.int (own_get (own_bits (0 : Int32) ((23 : Int32) + (1 : Int32))) 1 0 (0 : Int32)))])
        rw [own_vg_0_23_0]
        refine own_ifNo X155 hx (pc' := 114) (hb hby at_111) (feq (by decide : ¬ ((1 : Int32) = (0 : Int32)))).1 rfl ?_
        refine own_aload X155 hx (pc' := 116) (hb hby at_114) rfl rfl rfl ?_
        refine own_iload X155 hx (pc' := 118) (hb hby at_116) rfl rfl ?_
        refine own_callV X155 hx (pc' := 121) hZ hown (Wd108 hw) (Wd110 hw) (Wd111 hw) (Wd112 hw) (Wd21 hw) (by decide) (rm_get l Z a0 hw [] bs wa 1 1 (own_bits (0 : Int32) ((23 : Int32) + (1 : Int32))) (23 : Int32) 0 T115.heap n0 Z117 (by decide) (by decide) (by decide) G0_115 G1_115 G2_115 G3_115 F118 (by decide) (by decide) (by decide)) e155 G0_115 0 (by decide) (by decide) (by decide) (by decide) [(.int (23 : Int32))] [] (by rw [hml]; rfl) (lenOf pd_10 rfl) rfl rfl (Nat.le_of_eq rfl) (hb hby at_118) rfl (fun v157 T157 L157 X157 hQ157 => ?_)
        obtain ⟨rfl, Nq157, e157⟩ := hQ157
        have N158 := Fr.app N156 Nq157
        show own_G p.tables e below _ T157 (mkF m 121 #[.val (.int p0), .val (.int p1), .val (.int (2 : Int32)), .val (.ref r_HOUR), .val (.int (0 : Int32)), .val (.int (23 : Int32)), .val (.ref bs), .val (.int (Int32.ofNat P)), .val (.int (1 : Int32)), .val (.int (1 : Int32)), .unset] [(.int (own_get (own_bits (0 : Int32) ((23 : Int32) + (1 : Int32))) 1 0 (23 : Int32)))])
        rw [own_vg_0_23_23]
        refine own_ifNo X157 hx (pc' := 124) (hb hby at_121) (feq (by decide : ¬ ((1 : Int32) = (0 : Int32)))).1 rfl ?_
        refine own_iload X157 hx (pc' := 126) (hb hby at_124) rfl rfl ?_
        refine own_ifYes X157 hx (pc' := 141) (hb hby at_126) (teq rfl).1 (by decide) (by decide) ?_
        refine own_aload X157 hx (pc' := 143) (hb hby at_141) rfl rfl rfl ?_
        refine own_iload X157 hx (pc' := 145) (hb hby at_143) rfl rfl ?_
        refine own_iconst X157 hx (pc' := 146) (1 : Int32) (hb hby at_145) rfl rfl ?_
        refine own_iadd X157 hx (pc' := 147) (z := (24 : Int32)) (hb hby at_146) (by decide) rfl ?_
        refine own_callV X157 hx (pc' := 150) hZ hown (Wd108 hw) (Wd110 hw) (Wd111 hw) (Wd112 hw) (Wd21 hw) (by decide) (rm_get l Z a0 hw [] bs wa 1 1 (own_bits (0 : Int32) ((23 : Int32) + (1 : Int32))) (24 : Int32) 0 T115.heap n0 Z117 (by decide) (by decide) (by decide) G0_115 G1_115 G2_115 G3_115 F118 (by decide) (by decide) (by decide)) e157 G0_115 0 (by decide) (by decide) (by decide) (by decide) [(.int (24 : Int32))] [] (by rw [hml]; rfl) (lenOf pd_10 rfl) rfl rfl (Nat.le_of_eq rfl) (hb hby at_147) rfl (fun v159 T159 L159 X159 hQ159 => ?_)
        obtain ⟨rfl, Nq159, e159⟩ := hQ159
        have N160 := Fr.app N158 Nq159
        show own_G p.tables e below _ T159 (mkF m 150 #[.val (.int p0), .val (.int p1), .val (.int (2 : Int32)), .val (.ref r_HOUR), .val (.int (0 : Int32)), .val (.int (23 : Int32)), .val (.ref bs), .val (.int (Int32.ofNat P)), .val (.int (1 : Int32)), .val (.int (1 : Int32)), .unset] [(.int (own_get (own_bits (0 : Int32) ((23 : Int32) + (1 : Int32))) 1 0 (24 : Int32)))])
        rw [own_vg_0_23_24]
        refine own_ifNo X159 hx (pc' := 153) (hb hby at_150) (teq rfl).2 rfl ?_
        refine own_iconst X159 hx (pc' := 154) (1 : Int32) (hb hby at_153) rfl rfl ?_
        refine own_goto X159 hx (pc' := 158) (hb hby at_154) (by decide) (by decide) ?_
        refine own_istore X159 hx (pc' := 160) (Ls' := #[.val (.int p0), .val (.int p1), .val (.int (2 : Int32)), .val (.ref r_HOUR), .val (.int (0 : Int32)), .val (.int (23 : Int32)), .val (.ref bs), .val (.int (Int32.ofNat P)), .val (.int (1 : Int32)), .val (.int (1 : Int32)), .val (.int (1 : Int32))]) (hb hby at_158) rfl rfl ?_
        refine own_iload X159 hx (pc' := 162) (hb hby at_160) rfl rfl ?_
        refine own_ifNo X159 hx (pc' := 165) (hb hby at_162) (feq (by decide : ¬ ((1 : Int32) = (0 : Int32)))).1 rfl ?_
        refine own_iload X159 hx (pc' := 167) (hb hby at_165) rfl rfl ?_
        refine own_ifNo X159 hx (pc' := 170) (hb hby at_167) (feq (by decide : ¬ ((1 : Int32) = (0 : Int32)))).1 rfl ?_
        refine own_aload X159 hx (pc' := 172) (hb hby at_170) rfl rfl rfl ?_
        refine own_iload X159 hx (pc' := 174) (hb hby at_172) rfl rfl ?_
        refine own_callV X159 hx (pc' := 177) hZ hown (Wd108 hw) (Wd110 hw) (Wd111 hw) (Wd112 hw) (Wd21 hw) (by decide) (rm_get l Z a0 hw [] bs wa 1 1 (own_bits (0 : Int32) ((23 : Int32) + (1 : Int32))) (Int32.ofNat P) (P / 64) T115.heap n0 Z117 (by decide) (by decide) (by decide) G0_115 G1_115 G2_115 G3_115 F118 (own_clamp (n := P) (by omega)).1 (own_wiP P hP) (by omega)) e159 G0_115 0 (by decide) (by decide) (by decide) (by decide) [(.int (Int32.ofNat P))] [] (by rw [hml]; rfl) (lenOf pd_10 rfl) rfl rfl (Nat.le_of_eq rfl) (hb hby at_174) rfl (fun v161 T161 L161 X161 hQ161 => ?_)
        obtain ⟨rfl, Nq161, e161⟩ := hQ161
        have N162 := Fr.app N160 Nq161
        show own_G p.tables e below _ T161 (mkF m 177 #[.val (.int p0), .val (.int p1), .val (.int (2 : Int32)), .val (.ref r_HOUR), .val (.int (0 : Int32)), .val (.int (23 : Int32)), .val (.ref bs), .val (.int (Int32.ofNat P)), .val (.int (1 : Int32)), .val (.int (1 : Int32)), .val (.int (1 : Int32))] [(.int (own_get (own_bits (0 : Int32) ((23 : Int32) + (1 : Int32))) 1 (P / 64) (Int32.ofNat P)))])
        rw [own_vP_0_23 P hP, if_neg hc42_119, if_neg hc49_134]
        refine own_iload X161 hx (pc' := 179) (hb hby at_177) rfl rfl ?_
        refine own_icmpNo X161 hx (pc' := 182) (hb hby at_179) (teq rfl).2 rfl ?_
        refine own_iconst X161 hx (pc' := 183) (1 : Int32) (hb hby at_182) rfl rfl ?_
        refine own_goto X161 hx (pc' := 187) (hb hby at_183) (by decide) (by decide) ?_
        refine own_retN X161 hx hlk hret (by simp) (hb hby at_187) (by decide) (by decide) ?_
        exact ⟨rfl, N162⟩
  · rw [hk]
    refine own_iloadN X0 hx (pc' := 9) (hb hby at_8) rfl rfl ?_
    refine own_callS X0 hx (pc' := 12) hZ hown (Wd1 hw) (Wd2 hw) (Wd3 hw) (Wd4 hw) (by decide) (rm_field l Z a0 hw [] (3 : Int32) r_SECOND r_MINUTE r_HOUR r_DAY_OF_MONTH r_MONTH r_DAY_OF_WEEK r_YEAR h0 n0 Z0 S_r_SECOND S_r_DAY_OF_MONTH S_r_MINUTE S_r_MONTH S_r_YEAR S_r_DAY_OF_WEEK S_r_HOUR) e0 0 (by decide) (by decide) (by decide) (by decide) [(.int (3 : Int32))] [] (by rw [hml]; rfl) (lenOf pd_7 rfl) rfl rfl (Nat.le_of_eq rfl) (hb hby at_9) rfl (fun v163 T163 L163 X163 hQ163 => ?_)
    obtain ⟨hv163, Nq163, e163⟩ := hQ163
    have N164 := Fr.app N0 Nq163
    rw [show own_field (3 : Int32) r_SECOND r_MINUTE r_HOUR r_DAY_OF_MONTH r_MONTH r_DAY_OF_WEEK r_YEAR = r_DAY_OF_MONTH from rfl] at hv163
    subst hv163
    show own_G p.tables e below _ T163 (mkF m 12 #[.val (.int p0), .val (.int p1), .val (.int (3 : Int32)), .unset, .unset, .unset, .unset, .unset, .unset, .unset, .unset] [(.ref r_DAY_OF_MONTH)])
    refine own_astoreN X163 hx (pc' := 13) (Ls' := #[.val (.int p0), .val (.int p1), .val (.int (3 : Int32)), .val (.ref r_DAY_OF_MONTH), .unset, .unset, .unset, .unset, .unset, .unset, .unset]) (hb hby at_12) rfl rfl rfl ?_
    refine own_iloadN X163 hx (pc' := 14) (hb hby at_13) rfl rfl ?_
    refine own_callS X163 hx (pc' := 17) hZ hown (Wd8 hw) (Wd9 hw) (Wd3 hw) (Wd10 hw) (by decide) (rm_low l Z a0 hw [] (3 : Int32) h0 n0 Z0) e163 0 (by decide) (by decide) (by decide) (by decide) [(.int (3 : Int32))] [] (by rw [hml]; rfl) (lenOf pd_0 rfl) rfl rfl (Nat.le_of_eq rfl) (hb hby at_14) rfl (fun v165 T165 L165 X165 hQ165 => ?_)
    obtain ⟨rfl, Nq165, e165⟩ := hQ165
    have N166 := Fr.app N164 Nq165
    show own_G p.tables e below _ T165 (mkF m 17 #[.val (.int p0), .val (.int p1), .val (.int (3 : Int32)), .val (.ref r_DAY_OF_MONTH), .unset, .unset, .unset, .unset, .unset, .unset, .unset] [(.int (own_lowk (3 : Int32)))])
    rw [show own_lowk (3 : Int32) = (1 : Int32) from by decide]
    refine own_istore X165 hx (pc' := 19) (Ls' := #[.val (.int p0), .val (.int p1), .val (.int (3 : Int32)), .val (.ref r_DAY_OF_MONTH), .val (.int (1 : Int32)), .unset, .unset, .unset, .unset, .unset, .unset]) (hb hby at_17) rfl rfl ?_
    refine own_iloadN X165 hx (pc' := 20) (hb hby at_19) rfl rfl ?_
    refine own_callS X165 hx (pc' := 23) hZ hown (Wd11 hw) (Wd12 hw) (Wd3 hw) (Wd13 hw) (by decide) (rm_high l Z a0 hw [] (3 : Int32) h0 n0 Z0) e165 0 (by decide) (by decide) (by decide) (by decide) [(.int (3 : Int32))] [] (by rw [hml]; rfl) (lenOf pd_0 rfl) rfl rfl (Nat.le_of_eq rfl) (hb hby at_20) rfl (fun v167 T167 L167 X167 hQ167 => ?_)
    obtain ⟨rfl, Nq167, e167⟩ := hQ167
    have N168 := Fr.app N166 Nq167
    show own_G p.tables e below _ T167 (mkF m 23 #[.val (.int p0), .val (.int p1), .val (.int (3 : Int32)), .val (.ref r_DAY_OF_MONTH), .val (.int (1 : Int32)), .unset, .unset, .unset, .unset, .unset, .unset] [(.int (own_highk (3 : Int32)))])
    rw [show own_highk (3 : Int32) = (31 : Int32) from by decide]
    refine own_istore X167 hx (pc' := 25) (Ls' := #[.val (.int p0), .val (.int p1), .val (.int (3 : Int32)), .val (.ref r_DAY_OF_MONTH), .val (.int (1 : Int32)), .val (.int (31 : Int32)), .unset, .unset, .unset, .unset, .unset]) (hb hby at_23) rfl rfl ?_
    refine own_aloadN X167 hx (pc' := 26) (hb hby at_25) rfl rfl rfl ?_
    refine own_callV X167 hx (pc' := 29) hZ hown (Wd14 hw) (Wd16 hw) (Wd17 hw) (Wd18 hw) (Wd6 hw) (by decide) (rm_a1 l Z a0 hw [] r_DAY_OF_MONTH (1 : Int32) (31 : Int32) h0 n0 Z0 F_r_DAY_OF_MONTH_min F_r_DAY_OF_MONTH_max B_ad (by decide) (by decide) (by decide) (by decide) (by decide) (by decide)) e167 E_r_DAY_OF_MONTH 0 (by decide) (by decide) (by decide) (by decide) [] [] (by rw [hml]; rfl) (lenOf pd_8 rfl) rfl rfl (Nat.le_of_eq rfl) (hb hby at_26) rfl (fun v169 T169 L169 X169 hQ169 => ?_)
    obtain ⟨Nq169, K169, bs, wa, rfl, G0_169, G1_169, G2_169, G3_169⟩ := hQ169
    have N170 := Fr.app N168 Nq169
    have Z171 : n0 ≤ T169.heap.size := Nat.le_trans Z0 K169.1
    have F172 := (B_ad.keep K169 (fun x hx => absurd hx List.not_mem_nil))
    show own_G p.tables e below _ T169 (mkF m 29 #[.val (.int p0), .val (.int p1), .val (.int (3 : Int32)), .val (.ref r_DAY_OF_MONTH), .val (.int (1 : Int32)), .val (.int (31 : Int32)), .unset, .unset, .unset, .unset, .unset] [(.ref bs)])
    refine own_astore X169 hx (pc' := 31) (Ls' := #[.val (.int p0), .val (.int p1), .val (.int (3 : Int32)), .val (.ref r_DAY_OF_MONTH), .val (.int (1 : Int32)), .val (.int (31 : Int32)), .val (.ref bs), .unset, .unset, .unset, .unset]) (hb hby at_29) rfl rfl rfl ?_
    refine own_iloadN X169 hx (pc' := 32) (hb hby at_31) rfl rfl ?_
    refine own_sipush X169 hx (pc' := 35) (4095 : Int32) (hb hby at_32) rfl rfl ?_
    refine own_iand X169 hx (pc' := 36) (hb hby at_35) rfl rfl ?_
    obtain ⟨P, hP, eP⟩ : ∃ A : Nat, A < 4096 ∧ (p1 &&& (4095 : Int32)) = Int32.ofNat A := own_m12 p1
    rw [eP]
    refine own_istore X169 hx (pc' := 38) (Ls' := #[.val (.int p0), .val (.int p1), .val (.int (3 : Int32)), .val (.ref r_DAY_OF_MONTH), .val (.int (1 : Int32)), .val (.int (31 : Int32)), .val (.ref bs), .val (.int (Int32.ofNat P)), .unset, .unset, .unset]) (hb hby at_36) rfl rfl ?_
    refine own_iload X169 hx (pc' := 40) (hb hby at_38) rfl rfl ?_
    refine own_iload X169 hx (pc' := 42) (hb hby at_40) rfl rfl ?_
    by_cases hc42_173 : (Int32.ofNat P) < (1 : Int32)
    · skip
      refine own_icmpYes X169 hx (pc' := 56) (hb hby at_42) (tlt hc42_173).2.2.1 (by decide) (by decide) ?_
      refine own_iconst X169 hx (pc' := 57) (0 : Int32) (hb hby at_56) rfl rfl ?_
      refine own_istore X169 hx (pc' := 59) (Ls' := #[.val (.int p0), .val (.int p1), .val (.int (3 : Int32)), .val (.ref r_DAY_OF_MONTH), .val (.int (1 : Int32)), .val (.int (31 : Int32)), .val (.ref bs), .val (.int (Int32.ofNat P)), .val (.int (0 : Int32)), .unset, .unset]) (hb hby at_57) rfl rfl ?_
      refine own_aload X169 hx (pc' := 61) (hb hby at_59) rfl rfl rfl ?_
      refine own_iconst X169 hx (pc' := 62) (0 : Int32) (hb hby at_61) rfl rfl ?_
      refine own_callV X169 hx (pc' := 65) hZ hown (Wd72 hw) (Wd74 hw) (Wd75 hw) (Wd76 hw) (Wd21 hw) (by decide) (rm_nsb l Z a0 hw [] bs wa 1 1 (own_bits (1 : Int32) ((31 : Int32) + (1 : Int32)))  T169.heap n0 Z171 (by decide) (by decide) (by decide) G0_169 G1_169 G2_169 G3_169 F172) rfl G0_169 0 (by decide) (by decide) (by decide) (by decide) [(.int (0 : Int32))] [] (by rw [hml]; rfl) (lenOf pd_0 rfl) rfl rfl (Nat.le_of_eq rfl) (hb hby at_62) rfl (fun v174 T174 L174 X174 hQ174 => ?_)
      obtain ⟨rfl, Nq174, e174⟩ := hQ174
      have N175 := Fr.app N170 Nq174
      show own_G p.tables e below _ T174 (mkF m 65 #[.val (.int p0), .val (.int p1), .val (.int (3 : Int32)), .val (.ref r_DAY_OF_MONTH), .val (.int (1 : Int32)), .val (.int (31 : Int32)), .val (.ref bs), .val (.int (Int32.ofNat P)), .val (.int (0 : Int32)), .unset, .unset] [(.int (own_nsb (own_bits (1 : Int32) ((31 : Int32) + (1 : Int32))) 1))])
      rw [own_vn_1_31]
      refine own_iload X174 hx (pc' := 67) (hb hby at_65) rfl rfl ?_
      refine own_icmpNo X174 hx (pc' := 70) (hb hby at_67) (teq rfl).2 rfl ?_
      refine own_aload X174 hx (pc' := 72) (hb hby at_70) rfl rfl rfl ?_
      refine own_callV X174 hx (pc' := 75) hZ hown (Wd85 hw) (Wd87 hw) (Wd88 hw) (Wd89 hw) (Wd21 hw) (by decide) (rm_len l Z a0 hw [] bs wa 1 1 (own_bits (1 : Int32) ((31 : Int32) + (1 : Int32)))  T169.heap n0 Z171 (by decide) (by decide) (by decide) G0_169 G1_169 G2_169 G3_169 ) e174 G0_169 0 (by decide) (by decide) (by decide) (by decide) [] [] (by rw [hml]; rfl) (lenOf pd_9 rfl) rfl rfl (Nat.le_of_eq rfl) (hb hby at_72) rfl (fun v176 T176 L176 X176 hQ176 => ?_)
      obtain ⟨rfl, Nq176, e176⟩ := hQ176
      have N177 := Fr.app N175 Nq176
      show own_G p.tables e below _ T176 (mkF m 75 #[.val (.int p0), .val (.int p1), .val (.int (3 : Int32)), .val (.ref r_DAY_OF_MONTH), .val (.int (1 : Int32)), .val (.int (31 : Int32)), .val (.ref bs), .val (.int (Int32.ofNat P)), .val (.int (0 : Int32)), .unset, .unset] [(.int (own_blen (own_bits (1 : Int32) ((31 : Int32) + (1 : Int32))) 1))])
      rw [own_vl_1_31]
      refine own_iload X176 hx (pc' := 77) (hb hby at_75) rfl rfl ?_
      refine own_iconst X176 hx (pc' := 78) (1 : Int32) (hb hby at_77) rfl rfl ?_
      refine own_iadd X176 hx (pc' := 79) (z := (32 : Int32)) (hb hby at_78) (by decide) rfl ?_
      refine own_icmpNo X176 hx (pc' := 82) (hb hby at_79) (teq rfl).2 rfl ?_
      refine own_aload X176 hx (pc' := 84) (hb hby at_82) rfl rfl rfl ?_
      refine own_callV X176 hx (pc' := 87) hZ hown (Wd97 hw) (Wd99 hw) (Wd100 hw) (Wd101 hw) (Wd21 hw) (by decide) (rm_card l Z a0 hw [] bs wa 1 1 (own_bits (1 : Int32) ((31 : Int32) + (1 : Int32)))  T169.heap n0 Z171 (by decide) (by decide) (by decide) G0_169 G1_169 G2_169 G3_169 ) e176 G0_169 0 (by decide) (by decide) (by decide) (by decide) [] [] (by rw [hml]; rfl) (lenOf pd_9 rfl) rfl rfl (Nat.le_of_eq rfl) (hb hby at_84) rfl (fun v178 T178 L178 X178 hQ178 => ?_)
      obtain ⟨rfl, Nq178, e178⟩ := hQ178
      have N179 := Fr.app N177 Nq178
      show own_G p.tables e below _ T178 (mkF m 87 #[.val (.int p0), .val (.int p1), .val (.int (3 : Int32)), .val (.ref r_DAY_OF_MONTH), .val (.int (1 : Int32)), .val (.int (31 : Int32)), .val (.ref bs), .val (.int (Int32.ofNat P)), .val (.int (0 : Int32)), .unset, .unset] [(.int (own_card (own_bits (1 : Int32) ((31 : Int32) + (1 : Int32))) 1 0 (0 : Int32)))])
      rw [own_vc_1_31]
      refine own_iload X178 hx (pc' := 89) (hb hby at_87) rfl rfl ?_
      refine own_iload X178 hx (pc' := 91) (hb hby at_89) rfl rfl ?_
      refine own_isub X178 hx (pc' := 92) (z := (30 : Int32)) (hb hby at_91) (by decide) rfl ?_
      refine own_iconst X178 hx (pc' := 93) (1 : Int32) (hb hby at_92) rfl rfl ?_
      refine own_iadd X178 hx (pc' := 94) (z := (31 : Int32)) (hb hby at_93) (by decide) rfl ?_
      refine own_icmpNo X178 hx (pc' := 97) (hb hby at_94) (teq rfl).2 rfl ?_
      refine own_iconst X178 hx (pc' := 98) (1 : Int32) (hb hby at_97) rfl rfl ?_
      refine own_goto X178 hx (pc' := 102) (hb hby at_98) (by decide) (by decide) ?_
      refine own_istore X178 hx (pc' := 104) (Ls' := #[.val (.int p0), .val (.int p1), .val (.int (3 : Int32)), .val (.ref r_DAY_OF_MONTH), .val (.int (1 : Int32)), .val (.int (31 : Int32)), .val (.ref bs), .val (.int (Int32.ofNat P)), .val (.int (0 : Int32)), .val (.int (1 : Int32)), .unset]) (hb hby at_102) rfl rfl ?_
      refine own_aload X178 hx (pc' := 106) (hb hby at_104) rfl rfl rfl ?_
      refine own_iload X178 hx (pc' := 108) (hb hby at_106) rfl rfl ?_
      refine own_callV X178 hx (pc' := 111) hZ hown (Wd108 hw) (Wd110 hw) (Wd111 hw) (Wd112 hw) (Wd21 hw) (by decide) (rm_get l Z a0 hw [] bs wa 1 1 (own_bits (1 : Int32) ((31 : Int32) + (1 : Int32))) (1 : Int32) 0 T169.heap n0 Z171 (by decide) (by decide) (by decide) G0_169 G1_169 G2_169 G3_169 F172 (by decide) (by decide) (by decide)) e178 G0_169 0 (by decide) (by decide) (by decide) (by decide) [(.int (1 : Int32))] [] (by rw [hml]; rfl) (lenOf pd_10 rfl) rfl rfl (Nat.le_of_eq rfl) (hb hby at_108) rfl (fun v180 T180 L180 X180 hQ180 => ?_)
      obtain ⟨rfl, Nq180, e180⟩ := hQ180
      have N181 := Fr.app N179 Nq180
      show own_G p.tables e below _ T180 (mkF m 111 #[.val (.int p0), .val (.int p1), .val (.int (3 : Int32)), .val (.ref r_DAY_OF_MONTH), .val (.int (1 : Int32)), .val (.int (31 : Int32)), .val (.ref bs), .val (.int (Int32.ofNat P)), .val (.int (0 : Int32)), .val (.int (1 : Int32)), .unset] [(.int (own_get (own_bits (1 : Int32) ((31 : Int32) + (1 : Int32))) 1 0 (1 : Int32)))])
      rw [own_vg_1_31_1]
      refine own_ifNo X180 hx (pc' := 114) (hb hby at_111) (feq (by decide : ¬ ((1 : Int32) = (0 : Int32)))).1 rfl ?_
      refine own_aload X180 hx (pc' := 116) (hb hby at_114) rfl rfl rfl ?_
      refine own_iload X180 hx (pc' := 118) (hb hby at_116) rfl rfl ?_
      refine own_callV X180 hx (pc' := 121) hZ hown (Wd108 hw) (Wd110 hw) (Wd111 hw) (Wd112 hw) (Wd21 hw) (by decide) (rm_get l Z a0 hw [] bs wa 1 1 (own_bits (1 : Int32) ((31 : Int32) + (1 : Int32))) (31 : Int32) 0 T169.heap n0 Z171 (by decide) (by decide) (by decide) G0_169 G1_169 G2_169 G3_169 F172 (by decide) (by decide) (by decide)) e180 G0_169 0 (by decide) (by decide) (by decide) (by decide) [(.int (31 : Int32))] [] (by rw [hml]; rfl) (lenOf pd_10 rfl) rfl rfl (Nat.le_of_eq rfl) (hb hby at_118) rfl (fun v182 T182 L182 X182 hQ182 => ?_)
      obtain ⟨rfl, Nq182, e182⟩ := hQ182
      have N183 := Fr.app N181 Nq182
      show own_G p.tables e below _ T182 (mkF m 121 #[.val (.int p0), .val (.int p1), .val (.int (3 : Int32)), .val (.ref r_DAY_OF_MONTH), .val (.int (1 : Int32)), .val (.int (31 : Int32)), .val (.ref bs), .val (.int (Int32.ofNat P)), .val (.int (0 : Int32)), .val (.int (1 : Int32)), .unset] [(.int (own_get (own_bits (1 : Int32) ((31 : Int32) + (1 : Int32))) 1 0 (31 : Int32)))])
      rw [own_vg_1_31_31]
      refine own_ifNo X182 hx (pc' := 124) (hb hby at_121) (feq (by decide : ¬ ((1 : Int32) = (0 : Int32)))).1 rfl ?_
      refine own_iload X182 hx (pc' := 126) (hb hby at_124) rfl rfl ?_
      refine own_ifNo X182 hx (pc' := 129) (hb hby at_126) (feq (by decide : ¬ ((1 : Int32) = (0 : Int32)))).1 rfl ?_
      refine own_aload X182 hx (pc' := 131) (hb hby at_129) rfl rfl rfl ?_
      refine own_iload X182 hx (pc' := 133) (hb hby at_131) rfl rfl ?_
      refine own_iconst X182 hx (pc' := 134) (1 : Int32) (hb hby at_133) rfl rfl ?_
      refine own_isub X182 hx (pc' := 135) (z := (0 : Int32)) (hb hby at_134) (by decide) rfl ?_
      refine own_callV X182 hx (pc' := 138) hZ hown (Wd108 hw) (Wd110 hw) (Wd111 hw) (Wd112 hw) (Wd21 hw) (by decide) (rm_get l Z a0 hw [] bs wa 1 1 (own_bits (1 : Int32) ((31 : Int32) + (1 : Int32))) (0 : Int32) 0 T169.heap n0 Z171 (by decide) (by decide) (by decide) G0_169 G1_169 G2_169 G3_169 F172 (by decide) (by decide) (by decide)) e182 G0_169 0 (by decide) (by decide) (by decide) (by decide) [(.int (0 : Int32))] [] (by rw [hml]; rfl) (lenOf pd_10 rfl) rfl rfl (Nat.le_of_eq rfl) (hb hby at_135) rfl (fun v184 T184 L184 X184 hQ184 => ?_)
      obtain ⟨rfl, Nq184, e184⟩ := hQ184
      have N185 := Fr.app N183 Nq184
      show own_G p.tables e below _ T184 (mkF m 138 #[.val (.int p0), .val (.int p1), .val (.int (3 : Int32)), .val (.ref r_DAY_OF_MONTH), .val (.int (1 : Int32)), .val (.int (31 : Int32)), .val (.ref bs), .val (.int (Int32.ofNat P)), .val (.int (0 : Int32)), .val (.int (1 : Int32)), .unset] [(.int (own_get (own_bits (1 : Int32) ((31 : Int32) + (1 : Int32))) 1 0 (0 : Int32)))])
      rw [own_vg_1_31_0]
      refine own_ifNo X184 hx (pc' := 141) (hb hby at_138) (teq rfl).2 rfl ?_
      refine own_aload X184 hx (pc' := 143) (hb hby at_141) rfl rfl rfl ?_
      refine own_iload X184 hx (pc' := 145) (hb hby at_143) rfl rfl ?_
      refine own_iconst X184 hx (pc' := 146) (1 : Int32) (hb hby at_145) rfl rfl ?_
      refine own_iadd X184 hx (pc' := 147) (z := (32 : Int32)) (hb hby at_146) (by decide) rfl ?_
      refine own_callV X184 hx (pc' := 150) hZ hown (Wd108 hw) (Wd110 hw) (Wd111 hw) (Wd112 hw) (Wd21 hw) (by decide) (rm_get l Z a0 hw [] bs wa 1 1 (own_bits (1 : Int32) ((31 : Int32) + (1 : Int32))) (32 : Int32) 0 T169.heap n0 Z171 (by decide) (by decide) (by decide) G0_169 G1_169 G2_169 G3_169 F172 (by decide) (by decide) (by decide)) e184 G0_169 0 (by decide) (by decide) (by decide) (by decide) [(.int (32 : Int32))] [] (by rw [hml]; rfl) (lenOf pd_10 rfl) rfl rfl (Nat.le_of_eq rfl) (hb hby at_147) rfl (fun v186 T186 L186 X186 hQ186 => ?_)
      obtain ⟨rfl, Nq186, e186⟩ := hQ186
      have N187 := Fr.app N185 Nq186
      show own_G p.tables e below _ T186 (mkF m 150 #[.val (.int p0), .val (.int p1), .val (.int (3 : Int32)), .val (.ref r_DAY_OF_MONTH), .val (.int (1 : Int32)), .val (.int (31 : Int32)), .val (.ref bs), .val (.int (Int32.ofNat P)), .val (.int (0 : Int32)), .val (.int (1 : Int32)), .unset] [(.int (own_get (own_bits (1 : Int32) ((31 : Int32) + (1 : Int32))) 1 0 (32 : Int32)))])
      rw [own_vg_1_31_32]
      refine own_ifNo X186 hx (pc' := 153) (hb hby at_150) (teq rfl).2 rfl ?_
      refine own_iconst X186 hx (pc' := 154) (1 : Int32) (hb hby at_153) rfl rfl ?_
      refine own_goto X186 hx (pc' := 158) (hb hby at_154) (by decide) (by decide) ?_
      refine own_istore X186 hx (pc' := 160) (Ls' := #[.val (.int p0), .val (.int p1), .val (.int (3 : Int32)), .val (.ref r_DAY_OF_MONTH), .val (.int (1 : Int32)), .val (.int (31 : Int32)), .val (.ref bs), .val (.int (Int32.ofNat P)), .val (.int (0 : Int32)), .val (.int (1 : Int32)), .val (.int (1 : Int32))]) (hb hby at_158) rfl rfl ?_
      refine own_iload X186 hx (pc' := 162) (hb hby at_160) rfl rfl ?_
      refine own_ifNo X186 hx (pc' := 165) (hb hby at_162) (feq (by decide : ¬ ((1 : Int32) = (0 : Int32)))).1 rfl ?_
      refine own_iload X186 hx (pc' := 167) (hb hby at_165) rfl rfl ?_
      refine own_ifNo X186 hx (pc' := 170) (hb hby at_167) (feq (by decide : ¬ ((1 : Int32) = (0 : Int32)))).1 rfl ?_
      refine own_aload X186 hx (pc' := 172) (hb hby at_170) rfl rfl rfl ?_
      refine own_iload X186 hx (pc' := 174) (hb hby at_172) rfl rfl ?_
      refine own_callV X186 hx (pc' := 177) hZ hown (Wd108 hw) (Wd110 hw) (Wd111 hw) (Wd112 hw) (Wd21 hw) (by decide) (rm_get l Z a0 hw [] bs wa 1 1 (own_bits (1 : Int32) ((31 : Int32) + (1 : Int32))) (Int32.ofNat P) (P / 64) T169.heap n0 Z171 (by decide) (by decide) (by decide) G0_169 G1_169 G2_169 G3_169 F172 (own_clamp (n := P) (by omega)).1 (own_wiP P hP) (by omega)) e186 G0_169 0 (by decide) (by decide) (by decide) (by decide) [(.int (Int32.ofNat P))] [] (by rw [hml]; rfl) (lenOf pd_10 rfl) rfl rfl (Nat.le_of_eq rfl) (hb hby at_174) rfl (fun v188 T188 L188 X188 hQ188 => ?_)
      obtain ⟨rfl, Nq188, e188⟩ := hQ188
      have N189 := Fr.app N187 Nq188
      show own_G p.tables e below _ T188 (mkF m 177 #[.val (.int p0), .val (.int p1), .val (.int (3 : Int32)), .val (.ref r_DAY_OF_MONTH), .val (.int (1 : Int32)), .val (.int (31 : Int32)), .val (.ref bs), .val (.int (Int32.ofNat P)), .val (.int (0 : Int32)), .val (.int (1 : Int32)), .val (.int (1 : Int32))] [(.int (own_get (own_bits (1 : Int32) ((31 : Int32) + (1 : Int32))) 1 (P / 64) (Int32.ofNat P)))])
      rw [own_vP_1_31 P hP, if_pos hc42_173]
      refine own_iload X188 hx (pc' := 179) (hb hby at_177) rfl rfl ?_
      refine own_icmpNo X188 hx (pc' := 182) (hb hby at_179) (teq rfl).2 rfl ?_
      refine own_iconst X188 hx (pc' := 183) (1 : Int32) (hb hby at_182) rfl rfl ?_
      refine own_goto X188 hx (pc' := 187) (hb hby at_183) (by decide) (by decide) ?_
      refine own_retN X188 hx hlk hret (by simp) (hb hby at_187) (by decide) (by decide) ?_
      exact ⟨rfl, N189⟩
    · skip
      refine own_icmpNo X169 hx (pc' := 45) (hb hby at_42) (flt hc42_173).2.2.1 rfl ?_
      refine own_iload X169 hx (pc' := 47) (hb hby at_45) rfl rfl ?_
      refine own_iload X169 hx (pc' := 49) (hb hby at_47) rfl rfl ?_
      by_cases hc49_190 : (31 : Int32) < (Int32.ofNat P)
      · skip
        refine own_icmpYes X169 hx (pc' := 56) (hb hby at_49) (tlt hc49_190).2.2.1 (by decide) (by decide) ?_
        refine own_iconst X169 hx (pc' := 57) (0 : Int32) (hb hby at_56) rfl rfl ?_
        refine own_istore X169 hx (pc' := 59) (Ls' := #[.val (.int p0), .val (.int p1), .val (.int (3 : Int32)), .val (.ref r_DAY_OF_MONTH), .val (.int (1 : Int32)), .val (.int (31 : Int32)), .val (.ref bs), .val (.int (Int32.ofNat P)), .val (.int (0 : Int32)), .unset, .unset]) (hb hby at_57) rfl rfl ?_
        refine own_aload X169 hx (pc' := 61) (hb hby at_59) rfl rfl rfl ?_
        refine own_iconst X169 hx (pc' := 62) (0 : Int32) (hb hby at_61) rfl rfl ?_
        refine own_callV X169 hx (pc' := 65) hZ hown (Wd72 hw) (Wd74 hw) (Wd75 hw) (Wd76 hw) (Wd21 hw) (by decide) (rm_nsb l Z a0 hw [] bs wa 1 1 (own_bits (1 : Int32) ((31 : Int32) + (1 : Int32)))  T169.heap n0 Z171 (by decide) (by decide) (by decide) G0_169 G1_169 G2_169 G3_169 F172) rfl G0_169 0 (by decide) (by decide) (by decide) (by decide) [(.int (0 : Int32))] [] (by rw [hml]; rfl) (lenOf pd_0 rfl) rfl rfl (Nat.le_of_eq rfl) (hb hby at_62) rfl (fun v191 T191 L191 X191 hQ191 => ?_)
        obtain ⟨rfl, Nq191, e191⟩ := hQ191
        have N192 := Fr.app N170 Nq191
        show own_G p.tables e below _ T191 (mkF m 65 #[.val (.int p0), .val (.int p1), .val (.int (3 : Int32)), .val (.ref r_DAY_OF_MONTH), .val (.int (1 : Int32)), .val (.int (31 : Int32)), .val (.ref bs), .val (.int (Int32.ofNat P)), .val (.int (0 : Int32)), .unset, .unset] [(.int (own_nsb (own_bits (1 : Int32) ((31 : Int32) + (1 : Int32))) 1))])
        rw [own_vn_1_31]
        refine own_iload X191 hx (pc' := 67) (hb hby at_65) rfl rfl ?_
        refine own_icmpNo X191 hx (pc' := 70) (hb hby at_67) (teq rfl).2 rfl ?_
        refine own_aload X191 hx (pc' := 72) (hb hby at_70) rfl rfl rfl ?_
        refine own_callV X191 hx (pc' := 75) hZ hown (Wd85 hw) (Wd87 hw) (Wd88 hw) (Wd89 hw) (Wd21 hw) (by decide) (rm_len l Z a0 hw [] bs wa 1 1 (own_bits (1 : Int32) ((31 : Int32) + (1 : Int32)))  T169.heap n0 Z171 (by decide) (by decide) (by decide) G0_169 G1_169 G2_169 G3_169 ) e191 G0_169 0 (by decide) (by decide) (by decide) (by decide) [] [] (by rw [hml]; rfl) (lenOf pd_9 rfl) rfl rfl (Nat.le_of_eq rfl) (hb hby at_72) rfl (fun v193 T193 L193 X193 hQ193 => ?_)
        obtain ⟨rfl, Nq193, e193⟩ := hQ193
        have N194 := Fr.app N192 Nq193
        show own_G p.tables e below _ T193 (mkF m 75 #[.val (.int p0), .val (.int p1), .val (.int (3 : Int32)), .val (.ref r_DAY_OF_MONTH), .val (.int (1 : Int32)), .val (.int (31 : Int32)), .val (.ref bs), .val (.int (Int32.ofNat P)), .val (.int (0 : Int32)), .unset, .unset] [(.int (own_blen (own_bits (1 : Int32) ((31 : Int32) + (1 : Int32))) 1))])
        rw [own_vl_1_31]
        refine own_iload X193 hx (pc' := 77) (hb hby at_75) rfl rfl ?_
        refine own_iconst X193 hx (pc' := 78) (1 : Int32) (hb hby at_77) rfl rfl ?_
        refine own_iadd X193 hx (pc' := 79) (z := (32 : Int32)) (hb hby at_78) (by decide) rfl ?_
        refine own_icmpNo X193 hx (pc' := 82) (hb hby at_79) (teq rfl).2 rfl ?_
        refine own_aload X193 hx (pc' := 84) (hb hby at_82) rfl rfl rfl ?_
        refine own_callV X193 hx (pc' := 87) hZ hown (Wd97 hw) (Wd99 hw) (Wd100 hw) (Wd101 hw) (Wd21 hw) (by decide) (rm_card l Z a0 hw [] bs wa 1 1 (own_bits (1 : Int32) ((31 : Int32) + (1 : Int32)))  T169.heap n0 Z171 (by decide) (by decide) (by decide) G0_169 G1_169 G2_169 G3_169 ) e193 G0_169 0 (by decide) (by decide) (by decide) (by decide) [] [] (by rw [hml]; rfl) (lenOf pd_9 rfl) rfl rfl (Nat.le_of_eq rfl) (hb hby at_84) rfl (fun v195 T195 L195 X195 hQ195 => ?_)
        obtain ⟨rfl, Nq195, e195⟩ := hQ195
        have N196 := Fr.app N194 Nq195
        show own_G p.tables e below _ T195 (mkF m 87 #[.val (.int p0), .val (.int p1), .val (.int (3 : Int32)), .val (.ref r_DAY_OF_MONTH), .val (.int (1 : Int32)), .val (.int (31 : Int32)), .val (.ref bs), .val (.int (Int32.ofNat P)), .val (.int (0 : Int32)), .unset, .unset] [(.int (own_card (own_bits (1 : Int32) ((31 : Int32) + (1 : Int32))) 1 0 (0 : Int32)))])
        rw [own_vc_1_31]
        refine own_iload X195 hx (pc' := 89) (hb hby at_87) rfl rfl ?_
        refine own_iload X195 hx (pc' := 91) (hb hby at_89) rfl rfl ?_
        refine own_isub X195 hx (pc' := 92) (z := (30 : Int32)) (hb hby at_91) (by decide) rfl ?_
        refine own_iconst X195 hx (pc' := 93) (1 : Int32) (hb hby at_92) rfl rfl ?_
        refine own_iadd X195 hx (pc' := 94) (z := (31 : Int32)) (hb hby at_93) (by decide) rfl ?_
        refine own_icmpNo X195 hx (pc' := 97) (hb hby at_94) (teq rfl).2 rfl ?_
        refine own_iconst X195 hx (pc' := 98) (1 : Int32) (hb hby at_97) rfl rfl ?_
        refine own_goto X195 hx (pc' := 102) (hb hby at_98) (by decide) (by decide) ?_
        refine own_istore X195 hx (pc' := 104) (Ls' := #[.val (.int p0), .val (.int p1), .val (.int (3 : Int32)), .val (.ref r_DAY_OF_MONTH), .val (.int (1 : Int32)), .val (.int (31 : Int32)), .val (.ref bs), .val (.int (Int32.ofNat P)), .val (.int (0 : Int32)), .val (.int (1 : Int32)), .unset]) (hb hby at_102) rfl rfl ?_
        refine own_aload X195 hx (pc' := 106) (hb hby at_104) rfl rfl rfl ?_
        refine own_iload X195 hx (pc' := 108) (hb hby at_106) rfl rfl ?_
        refine own_callV X195 hx (pc' := 111) hZ hown (Wd108 hw) (Wd110 hw) (Wd111 hw) (Wd112 hw) (Wd21 hw) (by decide) (rm_get l Z a0 hw [] bs wa 1 1 (own_bits (1 : Int32) ((31 : Int32) + (1 : Int32))) (1 : Int32) 0 T169.heap n0 Z171 (by decide) (by decide) (by decide) G0_169 G1_169 G2_169 G3_169 F172 (by decide) (by decide) (by decide)) e195 G0_169 0 (by decide) (by decide) (by decide) (by decide) [(.int (1 : Int32))] [] (by rw [hml]; rfl) (lenOf pd_10 rfl) rfl rfl (Nat.le_of_eq rfl) (hb hby at_108) rfl (fun v197 T197 L197 X197 hQ197 => ?_)
        obtain ⟨rfl, Nq197, e197⟩ := hQ197
        have N198 := Fr.app N196 Nq197
        show own_G p.tables e below _ T197 (mkF m 111 #[.val (.int p0), .val (.int p1), .val (.int (3 : Int32)), .val (.ref r_DAY_OF_MONTH), .val (.int (1 : Int32)), .val (.int (31 : Int32)), .val (.ref bs), .val (.int (Int32.ofNat P)), .val (.int (0 : Int32)), .val (.int (1 : Int32)), .unset] [(.int (own_get (own_bits (1 : Int32) ((31 : Int32) + (1 : Int32))) 1 0 (1 : Int32)))])
        rw [own_vg_1_31_1]
        refine own_ifNo X197 hx (pc' := 114) (hb hby at_111) (feq (by decide : ¬ ((1 : Int32) = (0 : Int32)))).1 rfl ?_
        refine own_aload X197 hx (pc' := 116) (hb hby at_114) rfl rfl rfl ?_
        refine own_iload X197 hx (pc' := 118) (hb hby at_116) rfl rfl ?_
        refine own_callV X197 hx (pc' := 121) hZ hown (Wd108 hw) (Wd110 hw) (Wd111 hw) (Wd112 hw) (Wd21 hw) (by decide) (rm_get l Z a0 hw [] bs wa 1 1 (own_bits (1 : Int32) ((31 : Int32) + (1 : Int32))) (31 : Int32) 0 T169.heap n0 Z171 (by decide) (by decide) (by decide) G0_169 G1_169 G2_169 G3_169 F172 (by decide) (by decide) (by decide)) e197 G0_169 0 (by decide) (by decide) (by decide) (by decide) [(.int (31 : Int32))] [] (by rw [hml]; rfl) (lenOf pd_10 rfl) rfl rfl (Nat.le_of_eq rfl) (hb hby at_118) rfl (fun v199 T199 L199 X199 hQ199 => ?_)
        obtain ⟨rfl, Nq199, e199⟩ := hQ199
        have N200 := Fr.app N198 Nq199
        show own_G p.tables e below _ T199 (mkF m 121 #[.val (.int p0), .val (.int p1), .val (.int (3 : Int32)), .val (.ref r_DAY_OF_MONTH), .val (.int (1 : Int32)), .val (.int (31 : Int32)), .val (.ref bs), .val (.int (Int32.ofNat P)), .val (.int (0 : Int32)), .val (.int (1 : Int32)), .unset] [(.int (own_get (own_bits (1 : Int32) ((31 : Int32) + (1 : Int32))) 1 0 (31 : Int32)))])
        rw [own_vg_1_31_31]
        refine own_ifNo X199 hx (pc' := 124) (hb hby at_121) (feq (by decide : ¬ ((1 : Int32) = (0 : Int32)))).1 rfl ?_
        refine own_iload X199 hx (pc' := 126) (hb hby at_124) rfl rfl ?_
        refine own_ifNo X199 hx (pc' := 129) (hb hby at_126) (feq (by decide : ¬ ((1 : Int32) = (0 : Int32)))).1 rfl ?_
        refine own_aload X199 hx (pc' := 131) (hb hby at_129) rfl rfl rfl ?_
        refine own_iload X199 hx (pc' := 133) (hb hby at_131) rfl rfl ?_
        refine own_iconst X199 hx (pc' := 134) (1 : Int32) (hb hby at_133) rfl rfl ?_
        refine own_isub X199 hx (pc' := 135) (z := (0 : Int32)) (hb hby at_134) (by decide) rfl ?_
        refine own_callV X199 hx (pc' := 138) hZ hown (Wd108 hw) (Wd110 hw) (Wd111 hw) (Wd112 hw) (Wd21 hw) (by decide) (rm_get l Z a0 hw [] bs wa 1 1 (own_bits (1 : Int32) ((31 : Int32) + (1 : Int32))) (0 : Int32) 0 T169.heap n0 Z171 (by decide) (by decide) (by decide) G0_169 G1_169 G2_169 G3_169 F172 (by decide) (by decide) (by decide)) e199 G0_169 0 (by decide) (by decide) (by decide) (by decide) [(.int (0 : Int32))] [] (by rw [hml]; rfl) (lenOf pd_10 rfl) rfl rfl (Nat.le_of_eq rfl) (hb hby at_135) rfl (fun v201 T201 L201 X201 hQ201 => ?_)
        obtain ⟨rfl, Nq201, e201⟩ := hQ201
        have N202 := Fr.app N200 Nq201
        show own_G p.tables e below _ T201 (mkF m 138 #[.val (.int p0), .val (.int p1), .val (.int (3 : Int32)), .val (.ref r_DAY_OF_MONTH), .val (.int (1 : Int32)), .val (.int (31 : Int32)), .val (.ref bs), .val (.int (Int32.ofNat P)), .val (.int (0 : Int32)), .val (.int (1 : Int32)), .unset] [(.int (own_get (own_bits (1 : Int32) ((31 : Int32) + (1 : Int32))) 1 0 (0 : Int32)))])
        rw [own_vg_1_31_0]
        refine own_ifNo X201 hx (pc' := 141) (hb hby at_138) (teq rfl).2 rfl ?_
        refine own_aload X201 hx (pc' := 143) (hb hby at_141) rfl rfl rfl ?_
        refine own_iload X201 hx (pc' := 145) (hb hby at_143) rfl rfl ?_
        refine own_iconst X201 hx (pc' := 146) (1 : Int32) (hb hby at_145) rfl rfl ?_
        refine own_iadd X201 hx (pc' := 147) (z := (32 : Int32)) (hb hby at_146) (by decide) rfl ?_
        refine own_callV X201 hx (pc' := 150) hZ hown (Wd108 hw) (Wd110 hw) (Wd111 hw) (Wd112 hw) (Wd21 hw) (by decide) (rm_get l Z a0 hw [] bs wa 1 1 (own_bits (1 : Int32) ((31 : Int32) + (1 : Int32))) (32 : Int32) 0 T169.heap n0 Z171 (by decide) (by decide) (by decide) G0_169 G1_169 G2_169 G3_169 F172 (by decide) (by decide) (by decide)) e201 G0_169 0 (by decide) (by decide) (by decide) (by decide) [(.int (32 : Int32))] [] (by rw [hml]; rfl) (lenOf pd_10 rfl) rfl rfl (Nat.le_of_eq rfl) (hb hby at_147) rfl (fun v203 T203 L203 X203 hQ203 => ?_)
        obtain ⟨rfl, Nq203, e203⟩ := hQ203
        have N204 := Fr.app N202 Nq203
        show own_G p.tables e below _ T203 (mkF m 150 #[.val (.int p0), .val (.int p1), .val (.int (3 : Int32)), .val (.ref r_DAY_OF_MONTH), .val (.int (1 : Int32)), .val (.int (31 : Int32)), .val (.ref bs), .val (.int (Int32.ofNat P)), .val (.int (0 : Int32)), .val (.int (1 : Int32)), .unset] [(.int (own_get (own_bits (1 : Int32) ((31 : Int32) + (1 : Int32))) 1 0 (32 : Int32)))])
        rw [own_vg_1_31_32]
        refine own_ifNo X203 hx (pc' := 153) (hb hby at_150) (teq rfl).2 rfl ?_
        refine own_iconst X203 hx (pc' := 154) (1 : Int32) (hb hby at_153) rfl rfl ?_
        refine own_goto X203 hx (pc' := 158) (hb hby at_154) (by decide) (by decide) ?_
        refine own_istore X203 hx (pc' := 160) (Ls' := #[.val (.int p0), .val (.int p1), .val (.int (3 : Int32)), .val (.ref r_DAY_OF_MONTH), .val (.int (1 : Int32)), .val (.int (31 : Int32)), .val (.ref bs), .val (.int (Int32.ofNat P)), .val (.int (0 : Int32)), .val (.int (1 : Int32)), .val (.int (1 : Int32))]) (hb hby at_158) rfl rfl ?_
        refine own_iload X203 hx (pc' := 162) (hb hby at_160) rfl rfl ?_
        refine own_ifNo X203 hx (pc' := 165) (hb hby at_162) (feq (by decide : ¬ ((1 : Int32) = (0 : Int32)))).1 rfl ?_
        refine own_iload X203 hx (pc' := 167) (hb hby at_165) rfl rfl ?_
        refine own_ifNo X203 hx (pc' := 170) (hb hby at_167) (feq (by decide : ¬ ((1 : Int32) = (0 : Int32)))).1 rfl ?_
        refine own_aload X203 hx (pc' := 172) (hb hby at_170) rfl rfl rfl ?_
        refine own_iload X203 hx (pc' := 174) (hb hby at_172) rfl rfl ?_
        refine own_callV X203 hx (pc' := 177) hZ hown (Wd108 hw) (Wd110 hw) (Wd111 hw) (Wd112 hw) (Wd21 hw) (by decide) (rm_get l Z a0 hw [] bs wa 1 1 (own_bits (1 : Int32) ((31 : Int32) + (1 : Int32))) (Int32.ofNat P) (P / 64) T169.heap n0 Z171 (by decide) (by decide) (by decide) G0_169 G1_169 G2_169 G3_169 F172 (own_clamp (n := P) (by omega)).1 (own_wiP P hP) (by omega)) e203 G0_169 0 (by decide) (by decide) (by decide) (by decide) [(.int (Int32.ofNat P))] [] (by rw [hml]; rfl) (lenOf pd_10 rfl) rfl rfl (Nat.le_of_eq rfl) (hb hby at_174) rfl (fun v205 T205 L205 X205 hQ205 => ?_)
        obtain ⟨rfl, Nq205, e205⟩ := hQ205
        have N206 := Fr.app N204 Nq205
        show own_G p.tables e below _ T205 (mkF m 177 #[.val (.int p0), .val (.int p1), .val (.int (3 : Int32)), .val (.ref r_DAY_OF_MONTH), .val (.int (1 : Int32)), .val (.int (31 : Int32)), .val (.ref bs), .val (.int (Int32.ofNat P)), .val (.int (0 : Int32)), .val (.int (1 : Int32)), .val (.int (1 : Int32))] [(.int (own_get (own_bits (1 : Int32) ((31 : Int32) + (1 : Int32))) 1 (P / 64) (Int32.ofNat P)))])
        rw [own_vP_1_31 P hP, if_neg hc42_173, if_pos hc49_190]
        refine own_iload X205 hx (pc' := 179) (hb hby at_177) rfl rfl ?_
        refine own_icmpNo X205 hx (pc' := 182) (hb hby at_179) (teq rfl).2 rfl ?_
        refine own_iconst X205 hx (pc' := 183) (1 : Int32) (hb hby at_182) rfl rfl ?_
        refine own_goto X205 hx (pc' := 187) (hb hby at_183) (by decide) (by decide) ?_
        refine own_retN X205 hx hlk hret (by simp) (hb hby at_187) (by decide) (by decide) ?_
        exact ⟨rfl, N206⟩
      · skip
        refine own_icmpNo X169 hx (pc' := 52) (hb hby at_49) (flt hc49_190).2.2.1 rfl ?_
        refine own_iconst X169 hx (pc' := 53) (1 : Int32) (hb hby at_52) rfl rfl ?_
        refine own_goto X169 hx (pc' := 57) (hb hby at_53) (by decide) (by decide) ?_
        refine own_istore X169 hx (pc' := 59) (Ls' := #[.val (.int p0), .val (.int p1), .val (.int (3 : Int32)), .val (.ref r_DAY_OF_MONTH), .val (.int (1 : Int32)), .val (.int (31 : Int32)), .val (.ref bs), .val (.int (Int32.ofNat P)), .val (.int (1 : Int32)), .unset, .unset]) (hb hby at_57) rfl rfl ?_
        refine own_aload X169 hx (pc' := 61) (hb hby at_59) rfl rfl rfl ?_
        refine own_iconst X169 hx (pc' := 62) (0 : Int32) (hb hby at_61) rfl rfl ?_
        refine own_callV X169 hx (pc' := 65) hZ hown (Wd72 hw) (Wd74 hw) (Wd75 hw) (Wd76 hw) (Wd21 hw) (by decide) (rm_nsb l Z a0 hw [] bs wa 1 1 (own_bits (1 : Int32) ((31 : Int32) + (1 : Int32)))  T169.heap n0 Z171 (by decide) (by decide) (by decide) G0_169 G1_169 G2_169 G3_169 F172) rfl G0_169 0 (by decide) (by decide) (by decide) (by decide) [(.int (0 : Int32))] [] (by rw [hml]; rfl) (lenOf pd_0 rfl) rfl rfl (Nat.le_of_eq rfl) (hb hby at_62) rfl (fun v207 T207 L207 X207 hQ207 => ?_)
        obtain ⟨rfl, Nq207, e207⟩ := hQ207
        have N208 := Fr.app N170 Nq207
        show own_G p.tables e below _ T207 (mkF m 65 #[.val (.int p0), .val (.int p1), .val (.int (3 : Int32)), .val (.ref r_DAY_OF_MONTH), .val (.int (1 : Int32)), .val (.int (31 : Int32)), .val (.ref bs), .val (.int (Int32.ofNat P)), .val (.int (1 : Int32)), .unset, .unset] [(.int (own_nsb (own_bits (1 : Int32) ((31 : Int32) + (1 : Int32))) 1))])
        rw [own_vn_1_31]
        refine own_iload X207 hx (pc' := 67) (hb hby at_65) rfl rfl ?_
        refine own_icmpNo X207 hx (pc' := 70) (hb hby at_67) (teq rfl).2 rfl ?_
        refine own_aload X207 hx (pc' := 72) (hb hby at_70) rfl rfl rfl ?_
        refine own_callV X207 hx (pc' := 75) hZ hown (Wd85 hw) (Wd87 hw) (Wd88 hw) (Wd89 hw) (Wd21 hw) (by decide) (rm_len l Z a0 hw [] bs wa 1 1 (own_bits (1 : Int32) ((31 : Int32) + (1 : Int32)))  T169.heap n0 Z171 (by decide) (by decide) (by decide) G0_169 G1_169 G2_169 G3_169 ) e207 G0_169 0 (by decide) (by decide) (by decide) (by decide) [] [] (by rw [hml]; rfl) (lenOf pd_9 rfl) rfl rfl (Nat.le_of_eq rfl) (hb hby at_72) rfl (fun v209 T209 L209 X209 hQ209 => ?_)
        obtain ⟨rfl, Nq209, e209⟩ := hQ209
        have N210 := Fr.app N208 Nq209
        show own_G p.tables e below _ T209 (mkF m 75 #[.val (.int p0), .val (.int p1), .val (.int (3 : Int32)), .val (.ref r_DAY_OF_MONTH), .val (.int (1 : Int32)), .val (.int (31 : Int32)), .val (.ref bs), .val (.int (Int32.ofNat P)), .val (.int (1 : Int32)), .unset, .unset] [(.int (own_blen (own_bits (1 : Int32) ((31 : Int32) + (1 : Int32))) 1))])
        rw [own_vl_1_31]
        refine own_iload X209 hx (pc' := 77) (hb hby at_75) rfl rfl ?_
        refine own_iconst X209 hx (pc' := 78) (1 : Int32) (hb hby at_77) rfl rfl ?_
        refine own_iadd X209 hx (pc' := 79) (z := (32 : Int32)) (hb hby at_78) (by decide) rfl ?_
        refine own_icmpNo X209 hx (pc' := 82) (hb hby at_79) (teq rfl).2 rfl ?_
        refine own_aload X209 hx (pc' := 84) (hb hby at_82) rfl rfl rfl ?_
        refine own_callV X209 hx (pc' := 87) hZ hown (Wd97 hw) (Wd99 hw) (Wd100 hw) (Wd101 hw) (Wd21 hw) (by decide) (rm_card l Z a0 hw [] bs wa 1 1 (own_bits (1 : Int32) ((31 : Int32) + (1 : Int32)))  T169.heap n0 Z171 (by decide) (by decide) (by decide) G0_169 G1_169 G2_169 G3_169 ) e209 G0_169 0 (by decide) (by decide) (by decide) (by decide) [] [] (by rw [hml]; rfl) (lenOf pd_9 rfl) rfl rfl (Nat.le_of_eq rfl) (hb hby at_84) rfl (fun v211 T211 L211 X211 hQ211 => ?_)
        obtain ⟨rfl, Nq211, e211⟩ := hQ211
        have N212 := Fr.app N210 Nq211
        show own_G p.tables e below _ T211 (mkF m 87 #[.val (.int p0), .val (.int p1), .val (.int (3 : Int32)), .val (.ref r_DAY_OF_MONTH), .val (.int (1 : Int32)), .val (.int (31 : Int32)), .val (.ref bs), .val (.int (Int32.ofNat P)), .val (.int (1 : Int32)), .unset, .unset] [(.int (own_card (own_bits (1 : Int32) ((31 : Int32) + (1 : Int32))) 1 0 (0 : Int32)))])
        rw [own_vc_1_31]
        refine own_iload X211 hx (pc' := 89) (hb hby at_87) rfl rfl ?_
        refine own_iload X211 hx (pc' := 91) (hb hby at_89) rfl rfl ?_
        refine own_isub X211 hx (pc' := 92) (z := (30 : Int32)) (hb hby at_91) (by decide) rfl ?_
        refine own_iconst X211 hx (pc' := 93) (1 : Int32) (hb hby at_92) rfl rfl ?_
        refine own_iadd X211 hx (pc' := 94) (z := (31 : Int32)) (hb hby at_93) (by decide) rfl ?_
        refine own_icmpNo X211 hx (pc' := 97) (hb hby at_94) (teq rfl).2 rfl ?_
        refine own_iconst X211 hx (pc' := 98) (1 : Int32) (hb hby at_97) rfl rfl ?_
        refine own_goto X211 hx (pc' := 102) (hb hby at_98) (by decide) (by decide) ?_
        refine own_istore X211 hx (pc' := 104) (Ls' := #[.val (.int p0), .val (.int p1), .val (.int (3 : Int32)), .val (.ref r_DAY_OF_MONTH), .val (.int (1 : Int32)), .val (.int (31 : Int32)), .val (.ref bs), .val (.int (Int32.ofNat P)), .val (.int (1 : Int32)), .val (.int (1 : Int32)), .unset]) (hb hby at_102) rfl rfl ?_
        refine own_aload X211 hx (pc' := 106) (hb hby at_104) rfl rfl rfl ?_
        refine own_iload X211 hx (pc' := 108) (hb hby at_106) rfl rfl ?_
        refine own_callV X211 hx (pc' := 111) hZ hown (Wd108 hw) (Wd110 hw) (Wd111 hw) (Wd112 hw) (Wd21 hw) (by decide) (rm_get l Z a0 hw [] bs wa 1 1 (own_bits (1 : Int32) ((31 : Int32) + (1 : Int32))) (1 : Int32) 0 T169.heap n0 Z171 (by decide) (by decide) (by decide) G0_169 G1_169 G2_169 G3_169 F172 (by decide) (by decide) (by decide)) e211 G0_169 0 (by decide) (by decide) (by decide) (by decide) [(.int (1 : Int32))] [] (by rw [hml]; rfl) (lenOf pd_10 rfl) rfl rfl (Nat.le_of_eq rfl) (hb hby at_108) rfl (fun v213 T213 L213 X213 hQ213 => ?_)
        obtain ⟨rfl, Nq213, e213⟩ := hQ213
        have N214 := Fr.app N212 Nq213
        show own_G p.tables e below _ T213 (mkF m 111 #[.val (.int p0), .val (.int p1), .val (.int (3 : Int32)), .val (.ref r_DAY_OF_MONTH), .val (.int (1 : Int32)), .val (.int (31 : Int32)), .val (.ref bs), .val (.int (Int32.ofNat P)), .val (.int (1 : Int32)), .val (.int (1 : Int32)), .unset] [(.int (own_get (own_bits (1 : Int32) ((31 : Int32) + (1 : Int32))) 1 0 (1 : Int32)))])
        rw [own_vg_1_31_1]
        refine own_ifNo X213 hx (pc' := 114) (hb hby at_111) (feq (by decide : ¬ ((1 : Int32) = (0 : Int32)))).1 rfl ?_
        refine own_aload X213 hx (pc' := 116) (hb hby at_114) rfl rfl rfl ?_
        refine own_iload X213 hx (pc' := 118) (hb hby at_116) rfl rfl ?_
        refine own_callV X213 hx (pc' := 121) hZ hown (Wd108 hw) (Wd110 hw) (Wd111 hw) (Wd112 hw) (Wd21 hw) (by decide) (rm_get l Z a0 hw [] bs wa 1 1 (own_bits (1 : Int32) ((31 : Int32) + (1 : Int32))) (31 : Int32) 0 T169.heap n0 Z171 (by decide) (by decide) (by decide) G0_169 G1_169 G2_169 G3_169 F172 (by decide) (by decide) (by decide)) e213 G0_169 0 (by decide) (by decide) (by decide) (by decide) [(.int (31 : Int32))] [] (by rw [hml]; rfl) (lenOf pd_10 rfl) rfl rfl (Nat.le_of_eq rfl) (hb hby at_118) rfl (fun v215 T215 L215 X215 hQ215 => ?_)
        obtain ⟨rfl, Nq215, e215⟩ := hQ215
        have N216 := Fr.app N214 Nq215
        show own_G p.tables e below _ T215 (mkF m 121 #[.val (.int p0), .val (.int p1), .val (.int (3 : Int32)), .val (.ref r_DAY_OF_MONTH), .val (.int (1 : Int32)), .val (.int (31 : Int32)), .val (.ref bs), .val (.int (Int32.ofNat P)), .val (.int (1 : Int32)), .val (.int (1 : Int32)), .unset] [(.int (own_get (own_bits (1 : Int32) ((31 : Int32) + (1 : Int32))) 1 0 (31 : Int32)))])
        rw [own_vg_1_31_31]
        refine own_ifNo X215 hx (pc' := 124) (hb hby at_121) (feq (by decide : ¬ ((1 : Int32) = (0 : Int32)))).1 rfl ?_
        refine own_iload X215 hx (pc' := 126) (hb hby at_124) rfl rfl ?_
        refine own_ifNo X215 hx (pc' := 129) (hb hby at_126) (feq (by decide : ¬ ((1 : Int32) = (0 : Int32)))).1 rfl ?_
        refine own_aload X215 hx (pc' := 131) (hb hby at_129) rfl rfl rfl ?_
        refine own_iload X215 hx (pc' := 133) (hb hby at_131) rfl rfl ?_
        refine own_iconst X215 hx (pc' := 134) (1 : Int32) (hb hby at_133) rfl rfl ?_
        refine own_isub X215 hx (pc' := 135) (z := (0 : Int32)) (hb hby at_134) (by decide) rfl ?_
        refine own_callV X215 hx (pc' := 138) hZ hown (Wd108 hw) (Wd110 hw) (Wd111 hw) (Wd112 hw) (Wd21 hw) (by decide) (rm_get l Z a0 hw [] bs wa 1 1 (own_bits (1 : Int32) ((31 : Int32) + (1 : Int32))) (0 : Int32) 0 T169.heap n0 Z171 (by decide) (by decide) (by decide) G0_169 G1_169 G2_169 G3_169 F172 (by decide) (by decide) (by decide)) e215 G0_169 0 (by decide) (by decide) (by decide) (by decide) [(.int (0 : Int32))] [] (by rw [hml]; rfl) (lenOf pd_10 rfl) rfl rfl (Nat.le_of_eq rfl) (hb hby at_135) rfl (fun v217 T217 L217 X217 hQ217 => ?_)
        obtain ⟨rfl, Nq217, e217⟩ := hQ217
        have N218 := Fr.app N216 Nq217
        show own_G p.tables e below _ T217 (mkF m 138 #[.val (.int p0), .val (.int p1), .val (.int (3 : Int32)), .val (.ref r_DAY_OF_MONTH), .val (.int (1 : Int32)), .val (.int (31 : Int32)), .val (.ref bs), .val (.int (Int32.ofNat P)), .val (.int (1 : Int32)), .val (.int (1 : Int32)), .unset] [(.int (own_get (own_bits (1 : Int32) ((31 : Int32) + (1 : Int32))) 1 0 (0 : Int32)))])
        rw [own_vg_1_31_0]
        refine own_ifNo X217 hx (pc' := 141) (hb hby at_138) (teq rfl).2 rfl ?_
        refine own_aload X217 hx (pc' := 143) (hb hby at_141) rfl rfl rfl ?_
        refine own_iload X217 hx (pc' := 145) (hb hby at_143) rfl rfl ?_
        refine own_iconst X217 hx (pc' := 146) (1 : Int32) (hb hby at_145) rfl rfl ?_
        refine own_iadd X217 hx (pc' := 147) (z := (32 : Int32)) (hb hby at_146) (by decide) rfl ?_
        refine own_callV X217 hx (pc' := 150) hZ hown (Wd108 hw) (Wd110 hw) (Wd111 hw) (Wd112 hw) (Wd21 hw) (by decide) (rm_get l Z a0 hw [] bs wa 1 1 (own_bits (1 : Int32) ((31 : Int32) + (1 : Int32))) (32 : Int32) 0 T169.heap n0 Z171 (by decide) (by decide) (by decide) G0_169 G1_169 G2_169 G3_169 F172 (by decide) (by decide) (by decide)) e217 G0_169 0 (by decide) (by decide) (by decide) (by decide) [(.int (32 : Int32))] [] (by rw [hml]; rfl) (lenOf pd_10 rfl) rfl rfl (Nat.le_of_eq rfl) (hb hby at_147) rfl (fun v219 T219 L219 X219 hQ219 => ?_)
        obtain ⟨rfl, Nq219, e219⟩ := hQ219
        have N220 := Fr.app N218 Nq219
        show own_G p.tables e below _ T219 (mkF m 150 #[.val (.int p0), .val (.int p1), .val (.int (3 : Int32)), .val (.ref r_DAY_OF_MONTH), .val (.int (1 : Int32)), .val (.int (31 : Int32)), .val (.ref bs), .val (.int (Int32.ofNat P)), .val (.int (1 : Int32)), .val (.int (1 : Int32)), .unset] [(.int (own_get (own_bits (1 : Int32) ((31 : Int32) + (1 : Int32))) 1 0 (32 : Int32)))])
        rw [own_vg_1_31_32]
        refine own_ifNo X219 hx (pc' := 153) (hb hby at_150) (teq rfl).2 rfl ?_
        refine own_iconst X219 hx (pc' := 154) (1 : Int32) (hb hby at_153) rfl rfl ?_
        refine own_goto X219 hx (pc' := 158) (hb hby at_154) (by decide) (by decide) ?_
        refine own_istore X219 hx (pc' := 160) (Ls' := #[.val (.int p0), .val (.int p1), .val (.int (3 : Int32)), .val (.ref r_DAY_OF_MONTH), .val (.int (1 : Int32)), .val (.int (31 : Int32)), .val (.ref bs), .val (.int (Int32.ofNat P)), .val (.int (1 : Int32)), .val (.int (1 : Int32)), .val (.int (1 : Int32))]) (hb hby at_158) rfl rfl ?_
        refine own_iload X219 hx (pc' := 162) (hb hby at_160) rfl rfl ?_
        refine own_ifNo X219 hx (pc' := 165) (hb hby at_162) (feq (by decide : ¬ ((1 : Int32) = (0 : Int32)))).1 rfl ?_
        refine own_iload X219 hx (pc' := 167) (hb hby at_165) rfl rfl ?_
        refine own_ifNo X219 hx (pc' := 170) (hb hby at_167) (feq (by decide : ¬ ((1 : Int32) = (0 : Int32)))).1 rfl ?_
        refine own_aload X219 hx (pc' := 172) (hb hby at_170) rfl rfl rfl ?_
        refine own_iload X219 hx (pc' := 174) (hb hby at_172) rfl rfl ?_
        refine own_callV X219 hx (pc' := 177) hZ hown (Wd108 hw) (Wd110 hw) (Wd111 hw) (Wd112 hw) (Wd21 hw) (by decide) (rm_get l Z a0 hw [] bs wa 1 1 (own_bits (1 : Int32) ((31 : Int32) + (1 : Int32))) (Int32.ofNat P) (P / 64) T169.heap n0 Z171 (by decide) (by decide) (by decide) G0_169 G1_169 G2_169 G3_169 F172 (own_clamp (n := P) (by omega)).1 (own_wiP P hP) (by omega)) e219 G0_169 0 (by decide) (by decide) (by decide) (by decide) [(.int (Int32.ofNat P))] [] (by rw [hml]; rfl) (lenOf pd_10 rfl) rfl rfl (Nat.le_of_eq rfl) (hb hby at_174) rfl (fun v221 T221 L221 X221 hQ221 => ?_)
        obtain ⟨rfl, Nq221, e221⟩ := hQ221
        have N222 := Fr.app N220 Nq221
        show own_G p.tables e below _ T221 (mkF m 177 #[.val (.int p0), .val (.int p1), .val (.int (3 : Int32)), .val (.ref r_DAY_OF_MONTH), .val (.int (1 : Int32)), .val (.int (31 : Int32)), .val (.ref bs), .val (.int (Int32.ofNat P)), .val (.int (1 : Int32)), .val (.int (1 : Int32)), .val (.int (1 : Int32))] [(.int (own_get (own_bits (1 : Int32) ((31 : Int32) + (1 : Int32))) 1 (P / 64) (Int32.ofNat P)))])
        rw [own_vP_1_31 P hP, if_neg hc42_173, if_neg hc49_190]
        refine own_iload X221 hx (pc' := 179) (hb hby at_177) rfl rfl ?_
        refine own_icmpNo X221 hx (pc' := 182) (hb hby at_179) (teq rfl).2 rfl ?_
        refine own_iconst X221 hx (pc' := 183) (1 : Int32) (hb hby at_182) rfl rfl ?_
        refine own_goto X221 hx (pc' := 187) (hb hby at_183) (by decide) (by decide) ?_
        refine own_retN X221 hx hlk hret (by simp) (hb hby at_187) (by decide) (by decide) ?_
        exact ⟨rfl, N222⟩
  · rw [hk]
    refine own_iloadN X0 hx (pc' := 9) (hb hby at_8) rfl rfl ?_
    refine own_callS X0 hx (pc' := 12) hZ hown (Wd1 hw) (Wd2 hw) (Wd3 hw) (Wd4 hw) (by decide) (rm_field l Z a0 hw [] (4 : Int32) r_SECOND r_MINUTE r_HOUR r_DAY_OF_MONTH r_MONTH r_DAY_OF_WEEK r_YEAR h0 n0 Z0 S_r_SECOND S_r_DAY_OF_MONTH S_r_MINUTE S_r_MONTH S_r_YEAR S_r_DAY_OF_WEEK S_r_HOUR) e0 0 (by decide) (by decide) (by decide) (by decide) [(.int (4 : Int32))] [] (by rw [hml]; rfl) (lenOf pd_7 rfl) rfl rfl (Nat.le_of_eq rfl) (hb hby at_9) rfl (fun v223 T223 L223 X223 hQ223 => ?_)
    obtain ⟨hv223, Nq223, e223⟩ := hQ223
    have N224 := Fr.app N0 Nq223
    rw [show own_field (4 : Int32) r_SECOND r_MINUTE r_HOUR r_DAY_OF_MONTH r_MONTH r_DAY_OF_WEEK r_YEAR = r_MONTH from rfl] at hv223
    subst hv223
    show own_G p.tables e below _ T223 (mkF m 12 #[.val (.int p0), .val (.int p1), .val (.int (4 : Int32)), .unset, .unset, .unset, .unset, .unset, .unset, .unset, .unset] [(.ref r_MONTH)])
    refine own_astoreN X223 hx (pc' := 13) (Ls' := #[.val (.int p0), .val (.int p1), .val (.int (4 : Int32)), .val (.ref r_MONTH), .unset, .unset, .unset, .unset, .unset, .unset, .unset]) (hb hby at_12) rfl rfl rfl ?_
    refine own_iloadN X223 hx (pc' := 14) (hb hby at_13) rfl rfl ?_
    refine own_callS X223 hx (pc' := 17) hZ hown (Wd8 hw) (Wd9 hw) (Wd3 hw) (Wd10 hw) (by decide) (rm_low l Z a0 hw [] (4 : Int32) h0 n0 Z0) e223 0 (by decide) (by decide) (by decide) (by decide) [(.int (4 : Int32))] [] (by rw [hml]; rfl) (lenOf pd_0 rfl) rfl rfl (Nat.le_of_eq rfl) (hb hby at_14) rfl (fun v225 T225 L225 X225 hQ225 => ?_)
    obtain ⟨rfl, Nq225, e225⟩ := hQ225
    have N226 := Fr.app N224 Nq225
    show own_G p.tables e below _ T225 (mkF m 17 #[.val (.int p0), .val (.int p1), .val (.int (4 : Int32)), .val (.ref r_MONTH), .unset, .unset, .unset, .unset, .unset, .unset, .unset] [(.int (own_lowk (4 : Int32)))])
    rw [show own_lowk (4 : Int32) = (1 : Int32) from by decide]
    refine own_istore X225 hx (pc' := 19) (Ls' := #[.val (.int p0), .val (.int p1), .val (.int (4 : Int32)), .val (.ref r_MONTH), .val (.int (1 : Int32)), .unset, .unset, .unset, .unset, .unset, .unset]) (hb hby at_17) rfl rfl ?_
    refine own_iloadN X225 hx (pc' := 20) (hb hby at_19) rfl rfl ?_
    refine own_callS X225 hx (pc' := 23) hZ hown (Wd11 hw) (Wd12 hw) (Wd3 hw) (Wd13 hw) (by decide) (rm_high l Z a0 hw [] (4 : Int32) h0 n0 Z0) e225 0 (by decide) (by decide) (by decide) (by decide) [(.int (4 : Int32))] [] (by rw [hml]; rfl) (lenOf pd_0 rfl) rfl rfl (Nat.le_of_eq rfl) (hb hby at_20) rfl (fun v227 T227 L227 X227 hQ227 => ?_)
    obtain ⟨rfl, Nq227, e227⟩ := hQ227
    have N228 := Fr.app N226 Nq227
    show own_G p.tables e below _ T227 (mkF m 23 #[.val (.int p0), .val (.int p1), .val (.int (4 : Int32)), .val (.ref r_MONTH), .val (.int (1 : Int32)), .unset, .unset, .unset, .unset, .unset, .unset] [(.int (own_highk (4 : Int32)))])
    rw [show own_highk (4 : Int32) = (12 : Int32) from by decide]
    refine own_istore X227 hx (pc' := 25) (Ls' := #[.val (.int p0), .val (.int p1), .val (.int (4 : Int32)), .val (.ref r_MONTH), .val (.int (1 : Int32)), .val (.int (12 : Int32)), .unset, .unset, .unset, .unset, .unset]) (hb hby at_23) rfl rfl ?_
    refine own_aloadN X227 hx (pc' := 26) (hb hby at_25) rfl rfl rfl ?_
    refine own_callV X227 hx (pc' := 29) hZ hown (Wd14 hw) (Wd16 hw) (Wd17 hw) (Wd18 hw) (Wd6 hw) (by decide) (rm_a1 l Z a0 hw [] r_MONTH (1 : Int32) (12 : Int32) h0 n0 Z0 F_r_MONTH_min F_r_MONTH_max B_ad (by decide) (by decide) (by decide) (by decide) (by decide) (by decide)) e227 E_r_MONTH 0 (by decide) (by decide) (by decide) (by decide) [] [] (by rw [hml]; rfl) (lenOf pd_8 rfl) rfl rfl (Nat.le_of_eq rfl) (hb hby at_26) rfl (fun v229 T229 L229 X229 hQ229 => ?_)
    obtain ⟨Nq229, K229, bs, wa, rfl, G0_229, G1_229, G2_229, G3_229⟩ := hQ229
    have N230 := Fr.app N228 Nq229
    have Z231 : n0 ≤ T229.heap.size := Nat.le_trans Z0 K229.1
    have F232 := (B_ad.keep K229 (fun x hx => absurd hx List.not_mem_nil))
    show own_G p.tables e below _ T229 (mkF m 29 #[.val (.int p0), .val (.int p1), .val (.int (4 : Int32)), .val (.ref r_MONTH), .val (.int (1 : Int32)), .val (.int (12 : Int32)), .unset, .unset, .unset, .unset, .unset] [(.ref bs)])
    refine own_astore X229 hx (pc' := 31) (Ls' := #[.val (.int p0), .val (.int p1), .val (.int (4 : Int32)), .val (.ref r_MONTH), .val (.int (1 : Int32)), .val (.int (12 : Int32)), .val (.ref bs), .unset, .unset, .unset, .unset]) (hb hby at_29) rfl rfl rfl ?_
    refine own_iloadN X229 hx (pc' := 32) (hb hby at_31) rfl rfl ?_
    refine own_sipush X229 hx (pc' := 35) (4095 : Int32) (hb hby at_32) rfl rfl ?_
    refine own_iand X229 hx (pc' := 36) (hb hby at_35) rfl rfl ?_
    obtain ⟨P, hP, eP⟩ : ∃ A : Nat, A < 4096 ∧ (p1 &&& (4095 : Int32)) = Int32.ofNat A := own_m12 p1
    rw [eP]
    refine own_istore X229 hx (pc' := 38) (Ls' := #[.val (.int p0), .val (.int p1), .val (.int (4 : Int32)), .val (.ref r_MONTH), .val (.int (1 : Int32)), .val (.int (12 : Int32)), .val (.ref bs), .val (.int (Int32.ofNat P)), .unset, .unset, .unset]) (hb hby at_36) rfl rfl ?_
    refine own_iload X229 hx (pc' := 40) (hb hby at_38) rfl rfl ?_
    refine own_iload X229 hx (pc' := 42) (hb hby at_40) rfl rfl ?_
    by_cases hc42_233 : (Int32.ofNat P) < (1 : Int32)
    · skip
      refine own_icmpYes X229 hx (pc' := 56) (hb hby at_42) (tlt hc42_233).2.2.1 (by decide) (by decide) ?_
      refine own_iconst X229 hx (pc' := 57) (0 : Int32) (hb hby at_56) rfl rfl ?_
      refine own_istore X229 hx (pc' := 59) (Ls' := #[.val (.int p0), .val (.int p1), .val (.int (4 : Int32)), .val (.ref r_MONTH), .val (.int (1 : Int32)), .val (.int (12 : Int32)), .val (.ref bs), .val (.int (Int32.ofNat P)), .val (.int (0 : Int32)), .unset, .unset]) (hb hby at_57) rfl rfl ?_
      refine own_aload X229 hx (pc' := 61) (hb hby at_59) rfl rfl rfl ?_
      refine own_iconst X229 hx (pc' := 62) (0 : Int32) (hb hby at_61) rfl rfl ?_
      refine own_callV X229 hx (pc' := 65) hZ hown (Wd72 hw) (Wd74 hw) (Wd75 hw) (Wd76 hw) (Wd21 hw) (by decide) (rm_nsb l Z a0 hw [] bs wa 1 1 (own_bits (1 : Int32) ((12 : Int32) + (1 : Int32)))  T229.heap n0 Z231 (by decide) (by decide) (by decide) G0_229 G1_229 G2_229 G3_229 F232) rfl G0_229 0 (by decide) (by decide) (by decide) (by decide) [(.int (0 : Int32))] [] (by rw [hml]; rfl) (lenOf pd_0 rfl) rfl rfl (Nat.le_of_eq rfl) (hb hby at_62) rfl (fun v234 T234 L234 X234 hQ234 => ?_)
      obtain ⟨rfl, Nq234, e234⟩ := hQ234
      have N235 := Fr.app N230 Nq234
      show own_G p.tables e below _ T234 (mkF m 65 #[.val (.int p0), .val (.int p1), .val (.int (4 : Int32)), .val (.ref r_MONTH), .val (.int (1 : Int32)), .val (.int (12 : Int32)), .val (.ref bs), .val (.int (Int32.ofNat P)), .val (.int (0 : Int32)), .unset, .unset] [(.int (own_nsb (own_bits (1 : Int32) ((12 : Int32) + (1 : Int32))) 1))])
      rw [own_vn_1_12]
      refine own_iload X234 hx (pc' := 67) (hb hby at_65) rfl rfl ?_
      refine own_icmpNo X234 hx (pc' := 70) (hb hby at_67) (teq rfl).2 rfl ?_
      refine own_aload X234 hx (pc' := 72) (hb hby at_70) rfl rfl rfl ?_
      refine own_callV X234 hx (pc' := 75) hZ hown (Wd85 hw) (Wd87 hw) (Wd88 hw) (Wd89 hw) (Wd21 hw) (by decide) (rm_len l Z a0 hw [] bs wa 1 1 (own_bits (1 : Int32) ((12 : Int32) + (1 : Int32)))  T229.heap n0 Z231 (by decide) (by decide) (by decide) G0_229 G1_229 G2_229 G3_229 ) e234 G0_229 0 (by decide) (by decide) (by decide) (by decide) [] [] (by rw [hml]; rfl) (lenOf pd_9 rfl) rfl rfl (Nat.le_of_eq rfl) (hb hby at_72) rfl (fun v236 T236 L236 X236 hQ236 => ?_)
      obtain ⟨rfl, Nq236, e236⟩ := hQ236
      have N237 := Fr.app N235 Nq236
      show own_G p.tables e below _ T236 (mkF m 75 #[.val (.int p0), .val (.int p1), .val (.int (4 : Int32)), .val (.ref r_MONTH), .val (.int (1 : Int32)), .val (.int (12 : Int32)), .val (.ref bs), .val (.int (Int32.ofNat P)), .val (.int (0 : Int32)), .unset, .unset] [(.int (own_blen (own_bits (1 : Int32) ((12 : Int32) + (1 : Int32))) 1))])
      rw [own_vl_1_12]
      refine own_iload X236 hx (pc' := 77) (hb hby at_75) rfl rfl ?_
      refine own_iconst X236 hx (pc' := 78) (1 : Int32) (hb hby at_77) rfl rfl ?_
      refine own_iadd X236 hx (pc' := 79) (z := (13 : Int32)) (hb hby at_78) (by decide) rfl ?_
      refine own_icmpNo X236 hx (pc' := 82) (hb hby at_79) (teq rfl).2 rfl ?_
      refine own_aload X236 hx (pc' := 84) (hb hby at_82) rfl rfl rfl ?_
      refine own_callV X236 hx (pc' := 87) hZ hown (Wd97 hw) (Wd99 hw) (Wd100 hw) (Wd101 hw) (Wd21 hw) (by decide) (rm_card l Z a0 hw [] bs wa 1 1 (own_bits (1 : Int32) ((12 : Int32) + (1 : Int32)))  T229.heap n0 Z231 (by decide) (by decide) (by decide) G0_229 G1_229 G2_229 G3_229 ) e236 G0_229 0 (by decide) (by decide) (by decide) (by decide) [] [] (by rw [hml]; rfl) (lenOf pd_9 rfl) rfl rfl (Nat.le_of_eq rfl) (hb hby at_84) rfl (fun v238 T238 L238 X238 hQ238 => ?_)
      obtain ⟨rfl, Nq238, e238⟩ := hQ238
      have N239 := Fr.app N237 Nq238
      show own_G p.tables e below _ T238 (mkF m 87 #[.val (.int p0), .val (.int p1), .val (.int (4 : Int32)), .val (.ref r_MONTH), .val (.int (1 : Int32)), .val (.int (12 : Int32)), .val (.ref bs), .val (.int (Int32.ofNat P)), .val (.int (0 : Int32)), .unset, .unset] [(.int (own_card (own_bits (1 : Int32) ((12 : Int32) + (1 : Int32))) 1 0 (0 : Int32)))])
      rw [own_vc_1_12]
      refine own_iload X238 hx (pc' := 89) (hb hby at_87) rfl rfl ?_
      refine own_iload X238 hx (pc' := 91) (hb hby at_89) rfl rfl ?_
      refine own_isub X238 hx (pc' := 92) (z := (11 : Int32)) (hb hby at_91) (by decide) rfl ?_
      refine own_iconst X238 hx (pc' := 93) (1 : Int32) (hb hby at_92) rfl rfl ?_
      refine own_iadd X238 hx (pc' := 94) (z := (12 : Int32)) (hb hby at_93) (by decide) rfl ?_
      refine own_icmpNo X238 hx (pc' := 97) (hb hby at_94) (teq rfl).2 rfl ?_
      refine own_iconst X238 hx (pc' := 98) (1 : Int32) (hb hby at_97) rfl rfl ?_
      refine own_goto X238 hx (pc' := 102) (hb hby at_98) (by decide) (by decide) ?_
      refine own_istore X238 hx (pc' := 104) (Ls' := #[.val (.int p0), .val (.int p1), .val (.int (4 : Int32)), .val (.ref r_MONTH), .val (.int (1 : Int32)), .val (.int (12 : Int32)), .val (.ref bs), .val (.int (Int32.ofNat P)), .val (.int (0 : Int32)), .val (.int (1 : Int32)), .unset]) (hb hby at_102) rfl rfl ?_
      refine own_aload X238 hx (pc' := 106) (hb hby at_104) rfl rfl rfl ?_
      refine own_iload X238 hx (pc' := 108) (hb hby at_106) rfl rfl ?_
      refine own_callV X238 hx (pc' := 111) hZ hown (Wd108 hw) (Wd110 hw) (Wd111 hw) (Wd112 hw) (Wd21 hw) (by decide) (rm_get l Z a0 hw [] bs wa 1 1 (own_bits (1 : Int32) ((12 : Int32) + (1 : Int32))) (1 : Int32) 0 T229.heap n0 Z231 (by decide) (by decide) (by decide) G0_229 G1_229 G2_229 G3_229 F232 (by decide) (by decide) (by decide)) e238 G0_229 0 (by decide) (by decide) (by decide) (by decide) [(.int (1 : Int32))] [] (by rw [hml]; rfl) (lenOf pd_10 rfl) rfl rfl (Nat.le_of_eq rfl) (hb hby at_108) rfl (fun v240 T240 L240 X240 hQ240 => ?_)
      obtain ⟨rfl, Nq240, e240⟩ := hQ240
      have N241 := Fr.app N239 Nq240
      show own_G p.tables e below _ T240 (mkF m 111 #[.val (.int p0), .val (.int p1), .val (.int (4 : Int32)), .val (.ref r_MONTH), .val (.int (1 : Int32)), .val (.int (12 : Int32)), .val (.ref bs), .val (.int (Int32.ofNat P)), .val (.int (0 : Int32)), .val (.int (1 : Int32)), .unset] [(.int (own_get (own_bits (1 : Int32) ((12 : Int32) + (1 : Int32))) 1 0 (1 : Int32)))])
      rw [own_vg_1_12_1]
      refine own_ifNo X240 hx (pc' := 114) (hb hby at_111) (feq (by decide : ¬ ((1 : Int32) = (0 : Int32)))).1 rfl ?_
      refine own_aload X240 hx (pc' := 116) (hb hby at_114) rfl rfl rfl ?_
      refine own_iload X240 hx (pc' := 118) (hb hby at_116) rfl rfl ?_
      refine own_callV X240 hx (pc' := 121) hZ hown (Wd108 hw) (Wd110 hw) (Wd111 hw) (Wd112 hw) (Wd21 hw) (by decide) (rm_get l Z a0 hw [] bs wa 1 1 (own_bits (1 : Int32) ((12 : Int32) + (1 : Int32))) (12 : Int32) 0 T229.heap n0 Z231 (by decide) (by decide) (by decide) G0_229 G1_229 G2_229 G3_229 F232 (by decide) (by decide) (by decide)) e240 G0_229 0 (by decide) (by decide) (by decide) (by decide) [(.int (12 : Int32))] [] (by rw [hml]; rfl) (lenOf pd_10 rfl) rfl rfl (Nat.le_of_eq rfl) (hb hby at_118) rfl (fun v242 T242 L242 X242 hQ242 => ?_)
      obtain ⟨rfl, Nq242, e242⟩ := hQ242
      have N243 := Fr.app N241 Nq242
      show own_G p.tables e below _ T242 (mkF m 121 #[.val (.int p0), .val (.int p1), .val (.int (4 : Int32)), .val (.ref r_MONTH), .val (.int (1 : Int32)), .val (.int (12 : Int32)), .val (.ref bs), .val (.int (Int32.ofNat P)), .val (.int (0 : Int32)), .val (.int (1 : Int32)), .unset] [(.int (own_get (own_bits (1 : Int32) ((12 : Int32) + (1 : Int32))) 1 0 (12 : Int32)))])
      rw [own_vg_1_12_12]
      refine own_ifNo X242 hx (pc' := 124) (hb hby at_121) (feq (by decide : ¬ ((1 : Int32) = (0 : Int32)))).1 rfl ?_
      refine own_iload X242 hx (pc' := 126) (hb hby at_124) rfl rfl ?_
      refine own_ifNo X242 hx (pc' := 129) (hb hby at_126) (feq (by decide : ¬ ((1 : Int32) = (0 : Int32)))).1 rfl ?_
      refine own_aload X242 hx (pc' := 131) (hb hby at_129) rfl rfl rfl ?_
      refine own_iload X242 hx (pc' := 133) (hb hby at_131) rfl rfl ?_
      refine own_iconst X242 hx (pc' := 134) (1 : Int32) (hb hby at_133) rfl rfl ?_
      refine own_isub X242 hx (pc' := 135) (z := (0 : Int32)) (hb hby at_134) (by decide) rfl ?_
      refine own_callV X242 hx (pc' := 138) hZ hown (Wd108 hw) (Wd110 hw) (Wd111 hw) (Wd112 hw) (Wd21 hw) (by decide) (rm_get l Z a0 hw [] bs wa 1 1 (own_bits (1 : Int32) ((12 : Int32) + (1 : Int32))) (0 : Int32) 0 T229.heap n0 Z231 (by decide) (by decide) (by decide) G0_229 G1_229 G2_229 G3_229 F232 (by decide) (by decide) (by decide)) e242 G0_229 0 (by decide) (by decide) (by decide) (by decide) [(.int (0 : Int32))] [] (by rw [hml]; rfl) (lenOf pd_10 rfl) rfl rfl (Nat.le_of_eq rfl) (hb hby at_135) rfl (fun v244 T244 L244 X244 hQ244 => ?_)
      obtain ⟨rfl, Nq244, e244⟩ := hQ244
      have N245 := Fr.app N243 Nq244
      show own_G p.tables e below _ T244 (mkF m 138 #[.val (.int p0), .val (.int p1), .val (.int (4 : Int32)), .val (.ref r_MONTH), .val (.int (1 : Int32)), .val (.int (12 : Int32)), .val (.ref bs), .val (.int (Int32.ofNat P)), .val (.int (0 : Int32)), .val (.int (1 : Int32)), .unset] [(.int (own_get (own_bits (1 : Int32) ((12 : Int32) + (1 : Int32))) 1 0 (0 : Int32)))])
      rw [own_vg_1_12_0]
      refine own_ifNo X244 hx (pc' := 141) (hb hby at_138) (teq rfl).2 rfl ?_
      refine own_aload X244 hx (pc' := 143) (hb hby at_141) rfl rfl rfl ?_
      refine own_iload X244 hx (pc' := 145) (hb hby at_143) rfl rfl ?_
      refine own_iconst X244 hx (pc' := 146) (1 : Int32) (hb hby at_145) rfl rfl ?_
      refine own_iadd X244 hx (pc' := 147) (z := (13 : Int32)) (hb hby at_146) (by decide) rfl ?_
      refine own_callV X244 hx (pc' := 150) hZ hown (Wd108 hw) (Wd110 hw) (Wd111 hw) (Wd112 hw) (Wd21 hw) (by decide) (rm_get l Z a0 hw [] bs wa 1 1 (own_bits (1 : Int32) ((12 : Int32) + (1 : Int32))) (13 : Int32) 0 T229.heap n0 Z231 (by decide) (by decide) (by decide) G0_229 G1_229 G2_229 G3_229 F232 (by decide) (by decide) (by decide)) e244 G0_229 0 (by decide) (by decide) (by decide) (by decide) [(.int (13 : Int32))] [] (by rw [hml]; rfl) (lenOf pd_10 rfl) rfl rfl (Nat.le_of_eq rfl) (hb hby at_147) rfl (fun v246 T246 L246 X246 hQ246 => ?_)
      obtain ⟨rfl, Nq246, e246⟩ := hQ246
      have N247 := Fr.app N245 Nq246
      show own_G p.tables e below _ T246 (mkF m 150 #[.val (.int p0), .val (.int p1), .val (.int (4 : Int32)), .val (.ref r_MONTH), .val (.int (1 : Int32)), .val (.int (12 : Int32)), .val (.ref bs), .val (.int (Int32.ofNat P)), .val (.int (0 : Int32)), .val (.int (1 : Int32)), .unset] [(.int (own_get (own_bits (1 : Int32) ((12 : Int32) + (1 : Int32))) 1 0 (13 : Int32)))])
      rw [own_vg_1_12_13]
      refine own_ifNo X246 hx (pc' := 153) (hb hby at_150) (teq rfl).2 rfl ?_
      refine own_iconst X246 hx (pc' := 154) (1 : Int32) (hb hby at_153) rfl rfl ?_
      refine own_goto X246 hx (pc' := 158) (hb hby at_154) (by decide) (by decide) ?_
      refine own_istore X246 hx (pc' := 160) (Ls' := #[.val (.int p0), .val (.int p1), .val (.int (4 : Int32)), .val (.ref r_MONTH), .val (.int (1 : Int32)), .val (.int (12 : Int32)), .val (.ref bs), .val (.int (Int32.ofNat P)), .val (.int (0 : Int32)), .val (.int (1 : Int32)), .val (.int (1 : Int32))]) (hb hby at_158) rfl rfl ?_
      refine own_iload X246 hx (pc' := 162) (hb hby at_160) rfl rfl ?_
      refine own_ifNo X246 hx (pc' := 165) (hb hby at_162) (feq (by decide : ¬ ((1 : Int32) = (0 : Int32)))).1 rfl ?_
      refine own_iload X246 hx (pc' := 167) (hb hby at_165) rfl rfl ?_
      refine own_ifNo X246 hx (pc' := 170) (hb hby at_167) (feq (by decide : ¬ ((1 : Int32) = (0 : Int32)))).1 rfl ?_
      refine own_aload X246 hx (pc' := 172) (hb hby at_170) rfl rfl rfl ?_
      refine own_iload X246 hx (pc' := 174) (hb hby at_172) rfl rfl ?_
      refine own_callV X246 hx (pc' := 177) hZ hown (Wd108 hw) (Wd110 hw) (Wd111 hw) (Wd112 hw) (Wd21 hw) (by decide) (rm_get l Z a0 hw [] bs wa 1 1 (own_bits (1 : Int32) ((12 : Int32) + (1 : Int32))) (Int32.ofNat P) (P / 64) T229.heap n0 Z231 (by decide) (by decide) (by decide) G0_229 G1_229 G2_229 G3_229 F232 (own_clamp (n := P) (by omega)).1 (own_wiP P hP) (by omega)) e246 G0_229 0 (by decide) (by decide) (by decide) (by decide) [(.int (Int32.ofNat P))] [] (by rw [hml]; rfl) (lenOf pd_10 rfl) rfl rfl (Nat.le_of_eq rfl) (hb hby at_174) rfl (fun v248 T248 L248 X248 hQ248 => ?_)
      obtain ⟨rfl, Nq248, e248⟩ := hQ248
      have N249 := Fr.app N247 Nq248
      show own_G p.tables e below _ T248 (mkF m 177 #[.val (.int p0), .val (.int p1), .val (.int (4 : Int32)), .val (.ref r_MONTH), .val (.int (1 : Int32)), .val (.int (12 : Int32)), .val (.ref bs), .val (.int (Int32.ofNat P)), .val (.int (0 : Int32)), .val (.int (1 : Int32)), .val (.int (1 : Int32))] [(.int (own_get (own_bits (1 : Int32) ((12 : Int32) + (1 : Int32))) 1 (P / 64) (Int32.ofNat P)))])
      rw [own_vP_1_12 P hP, if_pos hc42_233]
      refine own_iload X248 hx (pc' := 179) (hb hby at_177) rfl rfl ?_
      refine own_icmpNo X248 hx (pc' := 182) (hb hby at_179) (teq rfl).2 rfl ?_
      refine own_iconst X248 hx (pc' := 183) (1 : Int32) (hb hby at_182) rfl rfl ?_
      refine own_goto X248 hx (pc' := 187) (hb hby at_183) (by decide) (by decide) ?_
      refine own_retN X248 hx hlk hret (by simp) (hb hby at_187) (by decide) (by decide) ?_
      exact ⟨rfl, N249⟩
    · skip
      refine own_icmpNo X229 hx (pc' := 45) (hb hby at_42) (flt hc42_233).2.2.1 rfl ?_
      refine own_iload X229 hx (pc' := 47) (hb hby at_45) rfl rfl ?_
      refine own_iload X229 hx (pc' := 49) (hb hby at_47) rfl rfl ?_
      by_cases hc49_250 : (12 : Int32) < (Int32.ofNat P)
      · skip
        refine own_icmpYes X229 hx (pc' := 56) (hb hby at_49) (tlt hc49_250).2.2.1 (by decide) (by decide) ?_
        refine own_iconst X229 hx (pc' := 57) (0 : Int32) (hb hby at_56) rfl rfl ?_
        refine own_istore X229 hx (pc' := 59) (Ls' := #[.val (.int p0), .val (.int p1), .val (.int (4 : Int32)), .val (.ref r_MONTH), .val (.int (1 : Int32)), .val (.int (12 : Int32)), .val (.ref bs), .val (.int (Int32.ofNat P)), .val (.int (0 : Int32)), .unset, .unset]) (hb hby at_57) rfl rfl ?_
        refine own_aload X229 hx (pc' := 61) (hb hby at_59) rfl rfl rfl ?_
        refine own_iconst X229 hx (pc' := 62) (0 : Int32) (hb hby at_61) rfl rfl ?_
        refine own_callV X229 hx (pc' := 65) hZ hown (Wd72 hw) (Wd74 hw) (Wd75 hw) (Wd76 hw) (Wd21 hw) (by decide) (rm_nsb l Z a0 hw [] bs wa 1 1 (own_bits (1 : Int32) ((12 : Int32) + (1 : Int32)))  T229.heap n0 Z231 (by decide) (by decide) (by decide) G0_229 G1_229 G2_229 G3_229 F232) rfl G0_229 0 (by decide) (by decide) (by decide) (by decide) [(.int (0 : Int32))] [] (by rw [hml]; rfl) (lenOf pd_0 rfl) rfl rfl (Nat.le_of_eq rfl) (hb hby at_62) rfl (fun v251 T251 L251 X251 hQ251 => ?_)
        obtain ⟨rfl, Nq251, e251⟩ := hQ251
        have N252 := Fr.app N230 Nq251
        show own_G p.tables e below _ T251 (mkF m 65 #[.val (.int p0), .val (.int p1), .val (.int (4 : Int32)), .val (.ref r_MONTH), .val (.int (1 : Int32)), .val (.int (12 : Int32)), .val (.ref bs), .val (.int (Int32.ofNat P)), .val (.int (0 : Int32)), .unset, .unset] [(.int (own_nsb (own_bits (1 : Int32) ((12 : Int32) + (1 : Int32))) 1))])
        rw [own_vn_1_12]
        refine own_iload X251 hx (pc' := 67) (hb hby at_65) rfl rfl ?_
        refine own_icmpNo X251 hx (pc' := 70) (hb hby at_67) (teq rfl).2 rfl ?_
        refine own_aload X251 hx (pc' := 72) (hb hby at_70) rfl rfl rfl ?_
        refine own_callV X251 hx (pc' := 75) hZ hown (Wd85 hw) (Wd87 hw) (Wd88 hw) (Wd89 hw) (Wd21 hw) (by decide) (rm_len l Z a0 hw [] bs wa 1 1 (own_bits (1 : Int32) ((12 : Int32) + (1 : Int32)))  T229.heap n0 Z231 (by decide) (by decide) (by decide) G0_229 G1_229 G2_229 G3_229 ) e251 G0_229 0 (by decide) (by decide) (by decide) (by decide) [] [] (by rw [hml]; rfl) (lenOf pd_9 rfl) rfl rfl (Nat.le_of_eq rfl) (hb hby at_72) rfl (fun v253 T253 L253 X253 hQ253 => ?_)
        obtain ⟨rfl, Nq253, e253⟩ := hQ253
        have N254 := Fr.app N252 Nq253
        show own_G p.tables e below _ T253 (mkF m 75 #[.val (.int p0), .val (.int p1), .val (.int (4 : Int32)), .val (.ref r_MONTH), .val (.int (1 : Int32)), .val (.int (12 : Int32)), .val (.ref bs), .val (.int (Int32.ofNat P)), .val (.int (0 : Int32)), .unset, .unset] [(.int (own_blen (own_bits (1 : Int32) ((12 : Int32) + (1 : Int32))) 1))])
        rw [own_vl_1_12]
        refine own_iload X253 hx (pc' := 77) (hb hby at_75) rfl rfl ?_
        refine own_iconst X253 hx (pc' := 78) (1 : Int32) (hb hby at_77) rfl rfl ?_
        refine own_iadd X253 hx (pc' := 79) (z := (13 : Int32)) (hb hby at_78) (by decide) rfl ?_
        refine own_icmpNo X253 hx (pc' := 82) (hb hby at_79) (teq rfl).2 rfl ?_
        refine own_aload X253 hx (pc' := 84) (hb hby at_82) rfl rfl rfl ?_
        refine own_callV X253 hx (pc' := 87) hZ hown (Wd97 hw) (Wd99 hw) (Wd100 hw) (Wd101 hw) (Wd21 hw) (by decide) (rm_card l Z a0 hw [] bs wa 1 1 (own_bits (1 : Int32) ((12 : Int32) + (1 : Int32)))  T229.heap n0 Z231 (by decide) (by decide) (by decide) G0_229 G1_229 G2_229 G3_229 ) e253 G0_229 0 (by decide) (by decide) (by decide) (by decide) [] [] (by rw [hml]; rfl) (lenOf pd_9 rfl) rfl rfl (Nat.le_of_eq rfl) (hb hby at_84) rfl (fun v255 T255 L255 X255 hQ255 => ?_)
        obtain ⟨rfl, Nq255, e255⟩ := hQ255
        have N256 := Fr.app N254 Nq255
        show own_G p.tables e below _ T255 (mkF m 87 #[.val (.int p0), .val (.int p1), .val (.int (4 : Int32)), .val (.ref r_MONTH), .val (.int (1 : Int32)), .val (.int (12 : Int32)), .val (.ref bs), .val (.int (Int32.ofNat P)), .val (.int (0 : Int32)), .unset, .unset] [(.int (own_card (own_bits (1 : Int32) ((12 : Int32) + (1 : Int32))) 1 0 (0 : Int32)))])
        rw [own_vc_1_12]
        refine own_iload X255 hx (pc' := 89) (hb hby at_87) rfl rfl ?_
        refine own_iload X255 hx (pc' := 91) (hb hby at_89) rfl rfl ?_
        refine own_isub X255 hx (pc' := 92) (z := (11 : Int32)) (hb hby at_91) (by decide) rfl ?_
        refine own_iconst X255 hx (pc' := 93) (1 : Int32) (hb hby at_92) rfl rfl ?_
        refine own_iadd X255 hx (pc' := 94) (z := (12 : Int32)) (hb hby at_93) (by decide) rfl ?_
        refine own_icmpNo X255 hx (pc' := 97) (hb hby at_94) (teq rfl).2 rfl ?_
        refine own_iconst X255 hx (pc' := 98) (1 : Int32) (hb hby at_97) rfl rfl ?_
        refine own_goto X255 hx (pc' := 102) (hb hby at_98) (by decide) (by decide) ?_
        refine own_istore X255 hx (pc' := 104) (Ls' := #[.val (.int p0), .val (.int p1), .val (.int (4 : Int32)), .val (.ref r_MONTH), .val (.int (1 : Int32)), .val (.int (12 : Int32)), .val (.ref bs), .val (.int (Int32.ofNat P)), .val (.int (0 : Int32)), .val (.int (1 : Int32)), .unset]) (hb hby at_102) rfl rfl ?_
        refine own_aload X255 hx (pc' := 106) (hb hby at_104) rfl rfl rfl ?_
        refine own_iload X255 hx (pc' := 108) (hb hby at_106) rfl rfl ?_
        refine own_callV X255 hx (pc' := 111) hZ hown (Wd108 hw) (Wd110 hw) (Wd111 hw) (Wd112 hw) (Wd21 hw) (by decide) (rm_get l Z a0 hw [] bs wa 1 1 (own_bits (1 : Int32) ((12 : Int32) + (1 : Int32))) (1 : Int32) 0 T229.heap n0 Z231 (by decide) (by decide) (by decide) G0_229 G1_229 G2_229 G3_229 F232 (by decide) (by decide) (by decide)) e255 G0_229 0 (by decide) (by decide) (by decide) (by decide) [(.int (1 : Int32))] [] (by rw [hml]; rfl) (lenOf pd_10 rfl) rfl rfl (Nat.le_of_eq rfl) (hb hby at_108) rfl (fun v257 T257 L257 X257 hQ257 => ?_)
        obtain ⟨rfl, Nq257, e257⟩ := hQ257
        have N258 := Fr.app N256 Nq257
        show own_G p.tables e below _ T257 (mkF m 111 #[.val (.int p0), .val (.int p1), .val (.int (4 : Int32)), .val (.ref r_MONTH), .val (.int (1 : Int32)), .val (.int (12 : Int32)), .val (.ref bs), .val (.int (Int32.ofNat P)), .val (.int (0 : Int32)), .val (.int (1 : Int32)), .unset] [(.int (own_get (own_bits (1 : Int32) ((12 : Int32) + (1 : Int32))) 1 0 (1 : Int32)))])
        rw [own_vg_1_12_1]
        refine own_ifNo X257 hx (pc' := 114) (hb hby at_111) (feq (by decide : ¬ ((1 : Int32) = (0 : Int32)))).1 rfl ?_
        refine own_aload X257 hx (pc' := 116) (hb hby at_114) rfl rfl rfl ?_
        refine own_iload X257 hx (pc' := 118) (hb hby at_116) rfl rfl ?_
        refine own_callV X257 hx (pc' := 121) hZ hown (Wd108 hw) (Wd110 hw) (Wd111 hw) (Wd112 hw) (Wd21 hw) (by decide) (rm_get l Z a0 hw [] bs wa 1 1 (own_bits (1 : Int32) ((12 : Int32) + (1 : Int32))) (12 : Int32) 0 T229.heap n0 Z231 (by decide) (by decide) (by decide) G0_229 G1_229 G2_229 G3_229 F232 (by decide) (by decide) (by decide)) e257 G0_229 0 (by decide) (by decide) (by decide) (by decide) [(.int (12 : Int32))] [] (by rw [hml]; rfl) (lenOf pd_10 rfl) rfl rfl (Nat.le_of_eq rfl) (hb hby at_118) rfl (fun v259 T259 L259 X259 hQ259 => ?_)
        obtain ⟨rfl, Nq259, e259⟩ := hQ259
        have N260 := Fr.app N258 Nq259
        show own_G p.tables e below _ T259 (mkF m 121 #[.val (.int p0), .val (.int p1), .val (.int (4 : Int32)), .val (.ref r_MONTH), .val (.int (1 : Int32)), .val (.int (12 : Int32)), .val (.ref bs), .val (.int (Int32.ofNat P)), .val (.int (0 : Int32)), .val (.int (1 : Int32)), .unset] [(.int (own_get (own_bits (1 : Int32) ((12 : Int32) + (1 : Int32))) 1 0 (12 : Int32)))])
        rw [own_vg_1_12_12]
        refine own_ifNo X259 hx (pc' := 124) (hb hby at_121) (feq (by decide : ¬ ((1 : Int32) = (0 : Int32)))).1 rfl ?_
        refine own_iload X259 hx (pc' := 126) (hb hby at_124) rfl rfl ?_
        refine own_ifNo X259 hx (pc' := 129) (hb hby at_126) (feq (by decide : ¬ ((1 : Int32) = (0 : Int32)))).1 rfl ?_
        refine own_aload X259 hx (pc' := 131) (hb hby at_129) rfl rfl rfl ?_
        refine own_iload X259 hx (pc' := 133) (hb hby at_131) rfl rfl ?_
        refine own_iconst X259 hx (pc' := 134) (1 : Int32) (hb hby at_133) rfl rfl ?_
        refine own_isub X259 hx (pc' := 135) (z := (0 : Int32)) (hb hby at_134) (by decide) rfl ?_
        refine own_callV X259 hx (pc' := 138) hZ hown (Wd108 hw) (Wd110 hw) (Wd111 hw) (Wd112 hw) (Wd21 hw) (by decide) (rm_get l Z a0 hw [] bs wa 1 1 (own_bits (1 : Int32) ((12 : Int32) + (1 : Int32))) (0 : Int32) 0 T229.heap n0 Z231 (by decide) (by decide) (by decide) G0_229 G1_229 G2_229 G3_229 F232 (by decide) (by decide) (by decide)) e259 G0_229 0 (by decide) (by decide) (by decide) (by decide) [(.int (0 : Int32))] [] (by rw [hml]; rfl) (lenOf pd_10 rfl) rfl rfl (Nat.le_of_eq rfl) (hb hby at_135) rfl (fun v261 T261 L261 X261 hQ261 => ?_)
        obtain ⟨rfl, Nq261, e261⟩ := hQ261
        have N262 := Fr.app N260 Nq261
        show own_G p.tables e below _ T261 (mkF m 138 #[.val (.int p0), .val (.int p1), .val (.int (4 : Int32)), .val (.ref r_MONTH), .val (.int (1 : Int32)), .val (.int (12 : Int32)), .val (.ref bs), .val (.int (Int32.ofNat P)), .val (.int (0 : Int32)), .val (.int (1 : Int32)), .unset] [(.int (own_get (own_bits (1 : Int32) ((12 : Int32) + (1 : Int32))) 1 0 (0 : Int32)))])
        rw [own_vg_1_12_0]
        refine own_ifNo X261 hx (pc' := 141) (hb hby at_138) (teq rfl).2 rfl ?_
        refine own_aload X261 hx (pc' := 143) (hb hby at_141) rfl rfl rfl ?_
        refine own_iload X261 hx (pc' := 145) (hb hby at_143) rfl rfl ?_
        refine own_iconst X261 hx (pc' := 146) (1 : Int32) (hb hby at_145) rfl rfl ?_
        refine own_iadd X261 hx (pc' := 147) (z := (13 : Int32)) (hb hby at_146) (by decide) rfl ?_
        refine own_callV X261 hx (pc' := 150) hZ hown (Wd108 hw) (Wd110 hw) (Wd111 hw) (Wd112 hw) (Wd21 hw) (by decide) (rm_get l Z a0 hw [] bs wa 1 1 (own_bits (1 : Int32) ((12 : Int32) + (1 : Int32))) (13 : Int32) 0 T229.heap n0 Z231 (by decide) (by decide) (by decide) G0_229 G1_229 G2_229 G3_229 F232 (by decide) (by decide) (by decide)) e261 G0_229 0 (by decide) (by decide) (by decide) (by decide) [(.int (13 : Int32))] [] (by rw [hml]; rfl) (lenOf pd_10 rfl) rfl rfl (Nat.le_of_eq rfl) (hb hby at_147) rfl (fun v263 T263 L263 X263 hQ263 => ?_)
        obtain ⟨rfl, Nq263, e263⟩ := hQ263
        have N264 := Fr.app N262 Nq263
        show own_G p.tables e below _ T263 (mkF m 150 #[.val (.int p0), .val (.int p1), .val (.int (4 : Int32)), .val (.ref r_MONTH), .val (.int (1 : Int32)), .val (.int (12 : Int32)), .val (.ref bs), .val (.int (Int32.ofNat P)), .val (.int (0 : Int32)), .val (.int (1 : Int32)), .unset] [(.int (own_get (own_bits (1 : Int32) ((12 : Int32) + (1 : Int32))) 1 0 (13 : Int32)))])
        rw [own_vg_1_12_13]
        refine own_ifNo X263 hx (pc' := 153) (hb hby at_150) (teq rfl).2 rfl ?_
        refine own_iconst X263 hx (pc' := 154) (1 : Int32) (hb hby at_153) rfl rfl ?_
        refine own_goto X263 hx (pc' := 158) (hb hby at_154) (by decide) (by decide) ?_
        refine own_istore X263 hx (pc' := 160) (Ls' := #[.val (.int p0), .val (.int p1), .val (.int (4 : Int32)), .val (.ref r_MONTH), .val (.int (1 : Int32)), .val (.int (12 : Int32)), .val (.ref bs), .val (.int (Int32.ofNat P)), .val (.int (0 : Int32)), .val (.int (1 : Int32)), .val (.int (1 : Int32))]) (hb hby at_158) rfl rfl ?_
        refine own_iload X263 hx (pc' := 162) (hb hby at_160) rfl rfl ?_
        refine own_ifNo X263 hx (pc' := 165) (hb hby at_162) (feq (by decide : ¬ ((1 : Int32) = (0 : Int32)))).1 rfl ?_
        refine own_iload X263 hx (pc' := 167) (hb hby at_165) rfl rfl ?_
        refine own_ifNo X263 hx (pc' := 170) (hb hby at_167) (feq (by decide : ¬ ((1 : Int32) = (0 : Int32)))).1 rfl ?_
        refine own_aload X263 hx (pc' := 172) (hb hby at_170) rfl rfl rfl ?_
        refine own_iload X263 hx (pc' := 174) (hb hby at_172) rfl rfl ?_
        refine own_callV X263 hx (pc' := 177) hZ hown (Wd108 hw) (Wd110 hw) (Wd111 hw) (Wd112 hw) (Wd21 hw) (by decide) (rm_get l Z a0 hw [] bs wa 1 1 (own_bits (1 : Int32) ((12 : Int32) + (1 : Int32))) (Int32.ofNat P) (P / 64) T229.heap n0 Z231 (by decide) (by decide) (by decide) G0_229 G1_229 G2_229 G3_229 F232 (own_clamp (n := P) (by omega)).1 (own_wiP P hP) (by omega)) e263 G0_229 0 (by decide) (by decide) (by decide) (by decide) [(.int (Int32.ofNat P))] [] (by rw [hml]; rfl) (lenOf pd_10 rfl) rfl rfl (Nat.le_of_eq rfl) (hb hby at_174) rfl (fun v265 T265 L265 X265 hQ265 => ?_)
        obtain ⟨rfl, Nq265, e265⟩ := hQ265
        have N266 := Fr.app N264 Nq265
        show own_G p.tables e below _ T265 (mkF m 177 #[.val (.int p0), .val (.int p1), .val (.int (4 : Int32)), .val (.ref r_MONTH), .val (.int (1 : Int32)), .val (.int (12 : Int32)), .val (.ref bs), .val (.int (Int32.ofNat P)), .val (.int (0 : Int32)), .val (.int (1 : Int32)), .val (.int (1 : Int32))] [(.int (own_get (own_bits (1 : Int32) ((12 : Int32) + (1 : Int32))) 1 (P / 64) (Int32.ofNat P)))])
        rw [own_vP_1_12 P hP, if_neg hc42_233, if_pos hc49_250]
        refine own_iload X265 hx (pc' := 179) (hb hby at_177) rfl rfl ?_
        refine own_icmpNo X265 hx (pc' := 182) (hb hby at_179) (teq rfl).2 rfl ?_
        refine own_iconst X265 hx (pc' := 183) (1 : Int32) (hb hby at_182) rfl rfl ?_
        refine own_goto X265 hx (pc' := 187) (hb hby at_183) (by decide) (by decide) ?_
        refine own_retN X265 hx hlk hret (by simp) (hb hby at_187) (by decide) (by decide) ?_
        exact ⟨rfl, N266⟩
      · skip
        refine own_icmpNo X229 hx (pc' := 52) (hb hby at_49) (flt hc49_250).2.2.1 rfl ?_
        refine own_iconst X229 hx (pc' := 53) (1 : Int32) (hb hby at_52) rfl rfl ?_
        refine own_goto X229 hx (pc' := 57) (hb hby at_53) (by decide) (by decide) ?_
        refine own_istore X229 hx (pc' := 59) (Ls' := #[.val (.int p0), .val (.int p1), .val (.int (4 : Int32)), .val (.ref r_MONTH), .val (.int (1 : Int32)), .val (.int (12 : Int32)), .val (.ref bs), .val (.int (Int32.ofNat P)), .val (.int (1 : Int32)), .unset, .unset]) (hb hby at_57) rfl rfl ?_
        refine own_aload X229 hx (pc' := 61) (hb hby at_59) rfl rfl rfl ?_
        refine own_iconst X229 hx (pc' := 62) (0 : Int32) (hb hby at_61) rfl rfl ?_
        refine own_callV X229 hx (pc' := 65) hZ hown (Wd72 hw) (Wd74 hw) (Wd75 hw) (Wd76 hw) (Wd21 hw) (by decide) (rm_nsb l Z a0 hw [] bs wa 1 1 (own_bits (1 : Int32) ((12 : Int32) + (1 : Int32)))  T229.heap n0 Z231 (by decide) (by decide) (by decide) G0_229 G1_229 G2_229 G3_229 F232) rfl G0_229 0 (by decide) (by decide) (by decide) (by decide) [(.int (0 : Int32))] [] (by rw [hml]; rfl) (lenOf pd_0 rfl) rfl rfl (Nat.le_of_eq rfl) (hb hby at_62) rfl (fun v267 T267 L267 X267 hQ267 => ?_)
        obtain ⟨rfl, Nq267, e267⟩ := hQ267
        have N268 := Fr.app N230 Nq267
        show own_G p.tables e below _ T267 (mkF m 65 #[.val (.int p0), .val (.int p1), .val (.int (4 : Int32)), .val (.ref r_MONTH), .val (.int (1 : Int32)), .val (.int (12 : Int32)), .val (.ref bs), .val (.int (Int32.ofNat P)), .val (.int (1 : Int32)), .unset, .unset] [(.int (own_nsb (own_bits (1 : Int32) ((12 : Int32) + (1 : Int32))) 1))])
        rw [own_vn_1_12]
        refine own_iload X267 hx (pc' := 67) (hb hby at_65) rfl rfl ?_
        refine own_icmpNo X267 hx (pc' := 70) (hb hby at_67) (teq rfl).2 rfl ?_
        refine own_aload X267 hx (pc' := 72) (hb hby at_70) rfl rfl rfl ?_
        refine own_callV X267 hx (pc' := 75) hZ hown (Wd85 hw) (Wd87 hw) (Wd88 hw) (Wd89 hw) (Wd21 hw) (by decide) (rm_len l Z a0 hw [] bs wa 1 1 (own_bits (1 : Int32) ((12 : Int32) + (1 : Int32)))  T229.heap n0 Z231 (by decide) (by decide) (by decide) G0_229 G1_229 G2_229 G3_229 ) e267 G0_229 0 (by decide) (by decide) (by decide) (by decide) [] [] (by rw [hml]; rfl) (lenOf pd_9 rfl) rfl rfl (Nat.le_of_eq rfl) (hb hby at_72) rfl (fun v269 T269 L269 X269 hQ269 => ?_)
        obtain ⟨rfl, Nq269, e269⟩ := hQ269
        have N270 := Fr.app N268 Nq269
        show own_G p.tables e below _ T269 (mkF m 75 #[.val (.int p0), .val (.int p1), .val (.int (4 : Int32)), .val (.ref r_MONTH), .val (.int (1 : Int32)), .val (.int (12 : Int32)), .val (.ref bs), .val (.int (Int32.ofNat P)), .val (.int (1 : Int32)), .unset, .unset] [(.int (own_blen (own_bits (1 : Int32) ((12 : Int32) + (1 : Int32))) 1))])
        rw [own_vl_1_12]
        refine own_iload X269 hx (pc' := 77) (hb hby at_75) rfl rfl ?_
        refine own_iconst X269 hx (pc' := 78) (1 : Int32) (hb hby at_77) rfl rfl ?_
        refine own_iadd X269 hx (pc' := 79) (z := (13 : Int32)) (hb hby at_78) (by decide) rfl ?_
        refine own_icmpNo X269 hx (pc' := 82) (hb hby at_79) (teq rfl).2 rfl ?_
        refine own_aload X269 hx (pc' := 84) (hb hby at_82) rfl rfl rfl ?_
        refine own_callV X269 hx (pc' := 87) hZ hown (Wd97 hw) (Wd99 hw) (Wd100 hw) (Wd101 hw) (Wd21 hw) (by decide) (rm_card l Z a0 hw [] bs wa 1 1 (own_bits (1 : Int32) ((12 : Int32) + (1 : Int32)))  T229.heap n0 Z231 (by decide) (by decide) (by decide) G0_229 G1_229 G2_229 G3_229 ) e269 G0_229 0 (by decide) (by decide) (by decide) (by decide) [] [] (by rw [hml]; rfl) (lenOf pd_9 rfl) rfl rfl (Nat.le_of_eq rfl) (hb hby at_84) rfl (fun v271 T271 L271 X271 hQ271 => ?_)
        obtain ⟨rfl, Nq271, e271⟩ := hQ271
        have N272 := Fr.app N270 Nq271
        show own_G p.tables e below _ T271 (mkF m 87 #[.val (.int p0), .val (.int p1), .val (.int (4 : Int32)), .val (.ref r_MONTH), .val (.int (1 : Int32)), .val (.int (12 : Int32)), .val (.ref bs), .val (.int (Int32.ofNat P)), .val (.int (1 : Int32)), .unset, .unset] [(.int (own_card (own_bits (1 : Int32) ((12 : Int32) + (1 : Int32))) 1 0 (0 : Int32)))])
        rw [own_vc_1_12]
        refine own_iload X271 hx (pc' := 89) (hb hby at_87) rfl rfl ?_
        refine own_iload X271 hx (pc' := 91) (hb hby at_89) rfl rfl ?_
        refine own_isub X271 hx (pc' := 92) (z := (11 : Int32)) (hb hby at_91) (by decide) rfl ?_
        refine own_iconst X271 hx (pc' := 93) (1 : Int32) (hb hby at_92) rfl rfl ?_
        refine own_iadd X271 hx (pc' := 94) (z := (12 : Int32)) (hb hby at_93) (by decide) rfl ?_
        refine own_icmpNo X271 hx (pc' := 97) (hb hby at_94) (teq rfl).2 rfl ?_
        refine own_iconst X271 hx (pc' := 98) (1 : Int32) (hb hby at_97) rfl rfl ?_
        refine own_goto X271 hx (pc' := 102) (hb hby at_98) (by decide) (by decide) ?_
        refine own_istore X271 hx (pc' := 104) (Ls' := #[.val (.int p0), .val (.int p1), .val (.int (4 : Int32)), .val (.ref r_MONTH), .val (.int (1 : Int32)), .val (.int (12 : Int32)), .val (.ref bs), .val (.int (Int32.ofNat P)), .val (.int (1 : Int32)), .val (.int (1 : Int32)), .unset]) (hb hby at_102) rfl rfl ?_
        refine own_aload X271 hx (pc' := 106) (hb hby at_104) rfl rfl rfl ?_
        refine own_iload X271 hx (pc' := 108) (hb hby at_106) rfl rfl ?_
        refine own_callV X271 hx (pc' := 111) hZ hown (Wd108 hw) (Wd110 hw) (Wd111 hw) (Wd112 hw) (Wd21 hw) (by decide) (rm_get l Z a0 hw [] bs wa 1 1 (own_bits (1 : Int32) ((12 : Int32) + (1 : Int32))) (1 : Int32) 0 T229.heap n0 Z231 (by decide) (by decide) (by decide) G0_229 G1_229 G2_229 G3_229 F232 (by decide) (by decide) (by decide)) e271 G0_229 0 (by decide) (by decide) (by decide) (by decide) [(.int (1 : Int32))] [] (by rw [hml]; rfl) (lenOf pd_10 rfl) rfl rfl (Nat.le_of_eq rfl) (hb hby at_108) rfl (fun v273 T273 L273 X273 hQ273 => ?_)
        obtain ⟨rfl, Nq273, e273⟩ := hQ273
        have N274 := Fr.app N272 Nq273
        show own_G p.tables e below _ T273 (mkF m 111 #[.val (.int p0), .val (.int p1), .val (.int (4 : Int32)), .val (.ref r_MONTH), .val (.int (1 : Int32)), .val (.int (12 : Int32)), .val (.ref bs), .val (.int (Int32.ofNat P)), .val (.int (1 : Int32)), .val (.int (1 : Int32)), .unset] [(.int (own_get (own_bits (1 : Int32) ((12 : Int32) + (1 : Int32))) 1 0 (1 : Int32)))])
        rw [own_vg_1_12_1]
        refine own_ifNo X273 hx (pc' := 114) (hb hby at_111) (feq (by decide : ¬ ((1 : Int32) = (0 : Int32)))).1 rfl ?_
        refine own_aload X273 hx (pc' := 116) (hb hby at_114) rfl rfl rfl ?_
        refine own_iload X273 hx (pc' := 118) (hb hby at_116) rfl rfl ?_
        refine own_callV X273 hx (pc' := 121) hZ hown (Wd108 hw) (Wd110 hw) (Wd111 hw) (Wd112 hw) (Wd21 hw) (by decide) (rm_get l Z a0 hw [] bs wa 1 1 (own_bits (1 : Int32) ((12 : Int32) + (1 : Int32))) (12 : Int32) 0 T229.heap n0 Z231 (by decide) (by decide) (by decide) G0_229 G1_229 G2_229 G3_229 F232 (by decide) (by decide) (by decide)) e273 G0_229 0 (by decide) (by decide) (by decide) (by decide) [(.int (12 : Int32))] [] (by rw [hml]; rfl) (lenOf pd_10 rfl) rfl rfl (Nat.le_of_eq rfl) (hb hby at_118) rfl (fun v275 T275 L275 X275 hQ275 => ?_)
        obtain ⟨rfl, Nq275, e275⟩ := hQ275
        have N276 := Fr.app N274 Nq275
        show own_G p.tables e below _ T275 (mkF m 121 #[.val (.int p0), .val (.int p1), .val (.int (4 : Int32)), .val (.ref r_MONTH), .val (.int (1 : Int32)), .val (.int (12 : Int32)), .val (.ref bs), .val (.int (Int32.ofNat P)), .val (.int (1 : Int32)), .val (.int (1 : Int32)), .unset] [(.int (own_get (own_bits (1 : Int32) ((12 : Int32) + (1 : Int32))) 1 0 (12 : Int32)))])
        rw [own_vg_1_12_12]
        refine own_ifNo X275 hx (pc' := 124) (hb hby at_121) (feq (by decide : ¬ ((1 : Int32) = (0 : Int32)))).1 rfl ?_
        refine own_iload X275 hx (pc' := 126) (hb hby at_124) rfl rfl ?_
        refine own_ifNo X275 hx (pc' := 129) (hb hby at_126) (feq (by decide : ¬ ((1 : Int32) = (0 : Int32)))).1 rfl ?_
        refine own_aload X275 hx (pc' := 131) (hb hby at_129) rfl rfl rfl ?_
        refine own_iload X275 hx (pc' := 133) (hb hby at_131) rfl rfl ?_
        refine own_iconst X275 hx (pc' := 134) (1 : Int32) (hb hby at_133) rfl rfl ?_
        refine own_isub X275 hx (pc' := 135) (z := (0 : Int32)) (hb hby at_134) (by decide) rfl ?_
        refine own_callV X275 hx (pc' := 138) hZ hown (Wd108 hw) (Wd110 hw) (Wd111 hw) (Wd112 hw) (Wd21 hw) (by decide) (rm_get l Z a0 hw [] bs wa 1 1 (own_bits (1 : Int32) ((12 : Int32) + (1 : Int32))) (0 : Int32) 0 T229.heap n0 Z231 (by decide) (by decide) (by decide) G0_229 G1_229 G2_229 G3_229 F232 (by decide) (by decide) (by decide)) e275 G0_229 0 (by decide) (by decide) (by decide) (by decide) [(.int (0 : Int32))] [] (by rw [hml]; rfl) (lenOf pd_10 rfl) rfl rfl (Nat.le_of_eq rfl) (hb hby at_135) rfl (fun v277 T277 L277 X277 hQ277 => ?_)
        obtain ⟨rfl, Nq277, e277⟩ := hQ277
        have N278 := Fr.app N276 Nq277
        show own_G p.tables e below _ T277 (mkF m 138 #[.val (.int p0), .val (.int p1), .val (.int (4 : Int32)), .val (.ref r_MONTH), .val (.int (1 : Int32)), .val (.int (12 : Int32)), .val (.ref bs), .val (.int (Int32.ofNat P)), .val (.int (1 : Int32)), .val (.int (1 : Int32)), .unset] [(.int (own_get (own_bits (1 : Int32) ((12 : Int32) + (1 : Int32))) 1 0 (0 : Int32)))])
        rw [own_vg_1_12_0]
        refine own_ifNo X277 hx (pc' := 141) (hb hby at_138) (teq rfl).2 rfl ?_
        refine own_aload X277 hx (pc' := 143) (hb hby at_141) rfl rfl rfl ?_
        refine own_iload X277 hx (pc' := 145) (hb hby at_143) rfl rfl ?_
        refine own_iconst X277 hx (pc' := 146) (1 : Int32) (hb hby at_145) rfl rfl ?_
        refine own_iadd X277 hx (pc' := 147) (z := (13 : Int32)) (hb hby at_146) (by decide) rfl ?_
        refine own_callV X277 hx (pc' := 150) hZ hown (Wd108 hw) (Wd110 hw) (Wd111 hw) (Wd112 hw) (Wd21 hw) (by decide) (rm_get l Z a0 hw [] bs wa 1 1 (own_bits (1 : Int32) ((12 : Int32) + (1 : Int32))) (13 : Int32) 0 T229.heap n0 Z231 (by decide) (by decide) (by decide) G0_229 G1_229 G2_229 G3_229 F232 (by decide) (by decide) (by decide)) e277 G0_229 0 (by decide) (by decide) (by decide) (by decide) [(.int (13 : Int32))] [] (by rw [hml]; rfl) (lenOf pd_10 rfl) rfl rfl (Nat.le_of_eq rfl) (hb hby at_147) rfl (fun v279 T279 L279 X279 hQ279 => ?_)
        obtain ⟨rfl, Nq279, e279⟩ := hQ279
        have N280 := Fr.app N278 Nq279
        show own_G p.tables e below _ T279 (mkF m 150 #[.val (.int p0), .val (.int p1), .val (.int (4 : Int32)), .val (.ref r_MONTH), .val (.int (1 : Int32)), .val (.int (12 : Int32)), .val (.ref bs), .val (.int (Int32.ofNat P)), .val (.int (1 : Int32)), .val (.int (1 : Int32)), .unset] [(.int (own_get (own_bits (1 : Int32) ((12 : Int32) + (1 : Int32))) 1 0 (13 : Int32)))])
        rw [own_vg_1_12_13]
        refine own_ifNo X279 hx (pc' := 153) (hb hby at_150) (teq rfl).2 rfl ?_
        refine own_iconst X279 hx (pc' := 154) (1 : Int32) (hb hby at_153) rfl rfl ?_
        refine own_goto X279 hx (pc' := 158) (hb hby at_154) (by decide) (by decide) ?_
        refine own_istore X279 hx (pc' := 160) (Ls' := #[.val (.int p0), .val (.int p1), .val (.int (4 : Int32)), .val (.ref r_MONTH), .val (.int (1 : Int32)), .val (.int (12 : Int32)), .val (.ref bs), .val (.int (Int32.ofNat P)), .val (.int (1 : Int32)), .val (.int (1 : Int32)), .val (.int (1 : Int32))]) (hb hby at_158) rfl rfl ?_
        refine own_iload X279 hx (pc' := 162) (hb hby at_160) rfl rfl ?_
        refine own_ifNo X279 hx (pc' := 165) (hb hby at_162) (feq (by decide : ¬ ((1 : Int32) = (0 : Int32)))).1 rfl ?_
        refine own_iload X279 hx (pc' := 167) (hb hby at_165) rfl rfl ?_
        refine own_ifNo X279 hx (pc' := 170) (hb hby at_167) (feq (by decide : ¬ ((1 : Int32) = (0 : Int32)))).1 rfl ?_
        refine own_aload X279 hx (pc' := 172) (hb hby at_170) rfl rfl rfl ?_
        refine own_iload X279 hx (pc' := 174) (hb hby at_172) rfl rfl ?_
        refine own_callV X279 hx (pc' := 177) hZ hown (Wd108 hw) (Wd110 hw) (Wd111 hw) (Wd112 hw) (Wd21 hw) (by decide) (rm_get l Z a0 hw [] bs wa 1 1 (own_bits (1 : Int32) ((12 : Int32) + (1 : Int32))) (Int32.ofNat P) (P / 64) T229.heap n0 Z231 (by decide) (by decide) (by decide) G0_229 G1_229 G2_229 G3_229 F232 (own_clamp (n := P) (by omega)).1 (own_wiP P hP) (by omega)) e279 G0_229 0 (by decide) (by decide) (by decide) (by decide) [(.int (Int32.ofNat P))] [] (by rw [hml]; rfl) (lenOf pd_10 rfl) rfl rfl (Nat.le_of_eq rfl) (hb hby at_174) rfl (fun v281 T281 L281 X281 hQ281 => ?_)
        obtain ⟨rfl, Nq281, e281⟩ := hQ281
        have N282 := Fr.app N280 Nq281
        show own_G p.tables e below _ T281 (mkF m 177 #[.val (.int p0), .val (.int p1), .val (.int (4 : Int32)), .val (.ref r_MONTH), .val (.int (1 : Int32)), .val (.int (12 : Int32)), .val (.ref bs), .val (.int (Int32.ofNat P)), .val (.int (1 : Int32)), .val (.int (1 : Int32)), .val (.int (1 : Int32))] [(.int (own_get (own_bits (1 : Int32) ((12 : Int32) + (1 : Int32))) 1 (P / 64) (Int32.ofNat P)))])
        rw [own_vP_1_12 P hP, if_neg hc42_233, if_neg hc49_250]
        refine own_iload X281 hx (pc' := 179) (hb hby at_177) rfl rfl ?_
        refine own_icmpNo X281 hx (pc' := 182) (hb hby at_179) (teq rfl).2 rfl ?_
        refine own_iconst X281 hx (pc' := 183) (1 : Int32) (hb hby at_182) rfl rfl ?_
        refine own_goto X281 hx (pc' := 187) (hb hby at_183) (by decide) (by decide) ?_
        refine own_retN X281 hx hlk hret (by simp) (hb hby at_187) (by decide) (by decide) ?_
        exact ⟨rfl, N282⟩
  · rw [hk]
    refine own_iloadN X0 hx (pc' := 9) (hb hby at_8) rfl rfl ?_
    refine own_callS X0 hx (pc' := 12) hZ hown (Wd1 hw) (Wd2 hw) (Wd3 hw) (Wd4 hw) (by decide) (rm_field l Z a0 hw [] (5 : Int32) r_SECOND r_MINUTE r_HOUR r_DAY_OF_MONTH r_MONTH r_DAY_OF_WEEK r_YEAR h0 n0 Z0 S_r_SECOND S_r_DAY_OF_MONTH S_r_MINUTE S_r_MONTH S_r_YEAR S_r_DAY_OF_WEEK S_r_HOUR) e0 0 (by decide) (by decide) (by decide) (by decide) [(.int (5 : Int32))] [] (by rw [hml]; rfl) (lenOf pd_7 rfl) rfl rfl (Nat.le_of_eq rfl) (hb hby at_9) rfl (fun v283 T283 L283 X283 hQ283 => ?_)
    obtain ⟨hv283, Nq283, e283⟩ := hQ283
    have N284 := Fr.app N0 Nq283
    rw [show own_field (5 : Int32) r_SECOND r_MINUTE r_HOUR r_DAY_OF_MONTH r_MONTH r_DAY_OF_WEEK r_YEAR = r_DAY_OF_WEEK from rfl] at hv283
    subst hv283
    show own_G p.tables e below _ T283 (mkF m 12 #[.val (.int p0), .val (.int p1), .val (.int (5 : Int32)), .unset, .unset, .unset, .unset, .unset, .unset, .unset, .unset] [(.ref r_DAY_OF_WEEK)])
    refine own_astoreN X283 hx (pc' := 13) (Ls' := #[.val (.int p0), .val (.int p1), .val (.int (5 : Int32)), .val (.ref r_DAY_OF_WEEK), .unset, .unset, .unset, .unset, .unset, .unset, .unset]) (hb hby at_12) rfl rfl rfl ?_
    refine own_iloadN X283 hx (pc' := 14) (hb hby at_13) rfl rfl ?_
    refine own_callS X283 hx (pc' := 17) hZ hown (Wd8 hw) (Wd9 hw) (Wd3 hw) (Wd10 hw) (by decide) (rm_low l Z a0 hw [] (5 : Int32) h0 n0 Z0) e283 0 (by decide) (by decide) (by decide) (by decide) [(.int (5 : Int32))] [] (by rw [hml]; rfl) (lenOf pd_0 rfl) rfl rfl (Nat.le_of_eq rfl) (hb hby at_14) rfl (fun v285 T285 L285 X285 hQ285 => ?_)
    obtain ⟨rfl, Nq285, e285⟩ := hQ285
    have N286 := Fr.app N284 Nq285
    show own_G p.tables e below _ T285 (mkF m 17 #[.val (.int p0), .val (.int p1), .val (.int (5 : Int32)), .val (.ref r_DAY_OF_WEEK), .unset, .unset, .unset, .unset, .unset, .unset, .unset] [(.int (own_lowk (5 : Int32)))])
    rw [show own_lowk (5 : Int32) = (1 : Int32) from by decide]
    refine own_istore X285 hx (pc' := 19) (Ls' := #[.val (.int p0), .val (.int p1), .val (.int (5 : Int32)), .val (.ref r_DAY_OF_WEEK), .val (.int (1 : Int32)), .unset, .unset, .unset, .unset, .unset, .unset]) (hb hby at_17) rfl rfl ?_
    refine own_iloadN X285 hx (pc' := 20) (hb hby at_19) rfl rfl ?_
    refine own_callS X285 hx (pc' := 23) hZ hown (Wd11 hw) (Wd12 hw) (Wd3 hw) (Wd13 hw) (by decide) (rm_high l Z a0 hw [] (5 : Int32) h0 n0 Z0) e285 0 (by decide) (by decide) (by decide) (by decide) [(.int (5 : Int32))] [] (by rw [hml]; rfl) (lenOf pd_0 rfl) rfl rfl (Nat.le_of_eq rfl) (hb hby at_20) rfl (fun v287 T287 L287 X287 hQ287 => ?_)
    obtain ⟨rfl, Nq287, e287⟩ := hQ287
    have N288 := Fr.app N286 Nq287
    show own_G p.tables e below _ T287 (mkF m 23 #[.val (.int p0), .val (.int p1), .val (.int (5 : Int32)), .val (.ref r_DAY_OF_WEEK), .val (.int (1 : Int32)), .unset, .unset, .unset, .unset, .unset, .unset] [(.int (own_highk (5 : Int32)))])
    rw [show own_highk (5 : Int32) = (7 : Int32) from by decide]
    refine own_istore X287 hx (pc' := 25) (Ls' := #[.val (.int p0), .val (.int p1), .val (.int (5 : Int32)), .val (.ref r_DAY_OF_WEEK), .val (.int (1 : Int32)), .val (.int (7 : Int32)), .unset, .unset, .unset, .unset, .unset]) (hb hby at_23) rfl rfl ?_
    refine own_aloadN X287 hx (pc' := 26) (hb hby at_25) rfl rfl rfl ?_
    refine own_callV X287 hx (pc' := 29) hZ hown (Wd14 hw) (Wd16 hw) (Wd17 hw) (Wd18 hw) (Wd6 hw) (by decide) (rm_a1 l Z a0 hw [] r_DAY_OF_WEEK (1 : Int32) (7 : Int32) h0 n0 Z0 F_r_DAY_OF_WEEK_min F_r_DAY_OF_WEEK_max B_ad (by decide) (by decide) (by decide) (by decide) (by decide) (by decide)) e287 E_r_DAY_OF_WEEK 0 (by decide) (by decide) (by decide) (by decide) [] [] (by rw [hml]; rfl) (lenOf pd_8 rfl) rfl rfl (Nat.le_of_eq rfl) (hb hby at_26) rfl (fun v289 T289 L289 X289 hQ289 => ?_)
    obtain ⟨Nq289, K289, bs, wa, rfl, G0_289, G1_289, G2_289, G3_289⟩ := hQ289
    have N290 := Fr.app N288 Nq289
    have Z291 : n0 ≤ T289.heap.size := Nat.le_trans Z0 K289.1
    have F292 := (B_ad.keep K289 (fun x hx => absurd hx List.not_mem_nil))
    show own_G p.tables e below _ T289 (mkF m 29 #[.val (.int p0), .val (.int p1), .val (.int (5 : Int32)), .val (.ref r_DAY_OF_WEEK), .val (.int (1 : Int32)), .val (.int (7 : Int32)), .unset, .unset, .unset, .unset, .unset] [(.ref bs)])
    refine own_astore X289 hx (pc' := 31) (Ls' := #[.val (.int p0), .val (.int p1), .val (.int (5 : Int32)), .val (.ref r_DAY_OF_WEEK), .val (.int (1 : Int32)), .val (.int (7 : Int32)), .val (.ref bs), .unset, .unset, .unset, .unset]) (hb hby at_29) rfl rfl rfl ?_
    refine own_iloadN X289 hx (pc' := 32) (hb hby at_31) rfl rfl ?_
    refine own_sipush X289 hx (pc' := 35) (4095 : Int32) (hb hby at_32) rfl rfl ?_
    refine own_iand X289 hx (pc' := 36) (hb hby at_35) rfl rfl ?_
    obtain ⟨P, hP, eP⟩ : ∃ A : Nat, A < 4096 ∧ (p1 &&& (4095 : Int32)) = Int32.ofNat A := own_m12 p1
    rw [eP]
    refine own_istore X289 hx (pc' := 38) (Ls' := #[.val (.int p0), .val (.int p1), .val (.int (5 : Int32)), .val (.ref r_DAY_OF_WEEK), .val (.int (1 : Int32)), .val (.int (7 : Int32)), .val (.ref bs), .val (.int (Int32.ofNat P)), .unset, .unset, .unset]) (hb hby at_36) rfl rfl ?_
    refine own_iload X289 hx (pc' := 40) (hb hby at_38) rfl rfl ?_
    refine own_iload X289 hx (pc' := 42) (hb hby at_40) rfl rfl ?_
    by_cases hc42_293 : (Int32.ofNat P) < (1 : Int32)
    · skip
      refine own_icmpYes X289 hx (pc' := 56) (hb hby at_42) (tlt hc42_293).2.2.1 (by decide) (by decide) ?_
      refine own_iconst X289 hx (pc' := 57) (0 : Int32) (hb hby at_56) rfl rfl ?_
      refine own_istore X289 hx (pc' := 59) (Ls' := #[.val (.int p0), .val (.int p1), .val (.int (5 : Int32)), .val (.ref r_DAY_OF_WEEK), .val (.int (1 : Int32)), .val (.int (7 : Int32)), .val (.ref bs), .val (.int (Int32.ofNat P)), .val (.int (0 : Int32)), .unset, .unset]) (hb hby at_57) rfl rfl ?_
      refine own_aload X289 hx (pc' := 61) (hb hby at_59) rfl rfl rfl ?_
      refine own_iconst X289 hx (pc' := 62) (0 : Int32) (hb hby at_61) rfl rfl ?_
      refine own_callV X289 hx (pc' := 65) hZ hown (Wd72 hw) (Wd74 hw) (Wd75 hw) (Wd76 hw) (Wd21 hw) (by decide) (rm_nsb l Z a0 hw [] bs wa 1 1 (own_bits (1 : Int32) ((7 : Int32) + (1 : Int32)))  T289.heap n0 Z291 (by decide) (by decide) (by decide) G0_289 G1_289 G2_289 G3_289 F292) rfl G0_289 0 (by decide) (by decide) (by decide) (by decide) [(.int (0 : Int32))] [] (by rw [hml]; rfl) (lenOf pd_0 rfl) rfl rfl (Nat.le_of_eq rfl) (hb hby at_62) rfl (fun v294 T294 L294 X294 hQ294 => ?_)
      obtain ⟨rfl, Nq294, e294⟩ := hQ294
      have N295 := Fr.app N290 Nq294
      show own_G p.tables e below _ T294 (mkF m 65 #[.val (.int p0), .val (.int p1), .val (.int (5 : Int32)), .val (.ref r_DAY_OF_WEEK), .val (.int (1 : Int32)), .val (.int (7 : Int32)), .val (.ref bs), .val (.int (Int32.ofNat P)), .val (.int (0 : Int32)), .unset, .unset] [(.int (own_nsb (own_bits (1 : Int32) ((7 : Int32) + (1 : Int32))) 1))])
      rw [own_vn_1_7]
      refine own_iload X294 hx (pc' := 67) (hb hby at_65) rfl rfl ?_
      refine own_icmpNo X294 hx (pc' := 70) (hb hby at_67) (teq rfl).2 rfl ?_
      refine own_aload X294 hx (pc' := 72) (hb hby at_70) rfl rfl rfl ?_
      refine own_callV X294 hx (pc' := 75) hZ hown (Wd85 hw) (Wd87 hw) (Wd88 hw) (Wd89 hw) (Wd21 hw) (by decide) (rm_len l Z a0 hw [] bs wa 1 1 (own_bits (1 : Int32) ((7 : Int32) + (1 : Int32)))  T289.heap n0 Z291 (by decide) (by decide) (by decide) G0_289 G1_289 G2_289 G3_289 ) e294 G0_289 0 (by decide) (by decide) (by decide) (by decide) [] [] (by rw [hml]; rfl) (lenOf pd_9 rfl) rfl rfl (Nat.le_of_eq rfl) (hb hby at_72) rfl (fun v296 T296 L296 X296 hQ296 => ?_)
      obtain ⟨rfl, Nq296, e296⟩ := hQ296
      have N297 := Fr.app N295 Nq296
      show own_G p.tables e below _ T296 (mkF m 75 #[.val (.int p0), .val (.int p1), .val (.int (5 : Int32)), .val (.ref r_DAY_OF_WEEK), .val (.int (1 : Int32)), .val (.int (7 : Int32)), .val (.ref bs), .val (.int (Int32.ofNat P)), .val (.int (0 : Int32)), .unset, .unset] [(.int (own_blen (own_bits (1 : Int32) ((7 : Int32) + (1 : Int32))) 1))])
      rw [own_vl_1_7]
      refine own_iload X296 hx (pc' := 77) (hb hby at_75) rfl rfl ?_
      refine own_iconst X296 hx (pc' := 78) (1 : Int32) (hb hby at_77) rfl rfl ?_
      refine own_iadd X296 hx (pc' := 79) (z := (8 : Int32)) (hb hby at_78) (by decide) rfl ?_
      refine own_icmpNo X296 hx (pc' := 82) (hb hby at_79) (teq rfl).2 rfl ?_
      refine own_aload X296 hx (pc' := 84) (hb hby at_82) rfl rfl rfl ?_
      refine own_callV X296 hx (pc' := 87) hZ hown (Wd97 hw) (Wd99 hw) (Wd100 hw) (Wd101 hw) (Wd21 hw) (by decide) (rm_card l Z a0 hw [] bs wa 1 1 (own_bits (1 : Int32) ((7 : Int32) + (1 : Int32)))  T289.heap n0 Z291 (by decide) (by decide) (by decide) G0_289 G1_289 G2_289 G3_289 ) e296 G0_289 0 (by decide) (by decide) (by decide) (by decide) [] [] (by rw [hml]; rfl) (lenOf pd_9 rfl) rfl rfl (Nat.le_of_eq rfl) (hb hby at_84) rfl (fun v298 T298 L298 X298 hQ298 => ?_)
      obtain ⟨rfl, Nq298, e298⟩ := hQ298
      have N299 := Fr.app N297 Nq298
      show own_G p.tables e below _ T298 (mkF m 87 #[.val (.int p0), .val (.int p1), .val (.int (5 : Int32)), .val (.ref r_DAY_OF_WEEK), .val (.int (1 : Int32)), .val (.int (7 : Int32)), .val (.ref bs), .val (.int (Int32.ofNat P)), .val (.int (0 : Int32)), .unset, .unset] [(.int (own_card (own_bits (1 : Int32) ((7 : Int32) + (1 : Int32))) 1 0 (0 : Int32)))])
      rw [own_vc_1_7]
      refine own_iload X298 hx (pc' := 89) (hb hby at_87) rfl rfl ?_
      refine own_iload X298 hx (pc' := 91) (hb hby at_89) rfl rfl ?_
      refine own_isub X298 hx (pc' := 92) (z := (6 : Int32)) (hb hby at_91) (by decide) rfl ?_
      refine own_iconst X298 hx (pc' := 93) (1 : Int32) (hb hby at_92) rfl rfl ?_
      refine own_iadd X298 hx (pc' := 94) (z := (7 : Int32)) (hb hby at_93) (by decide) rfl ?_
      refine own_icmpNo X298 hx (pc' := 97) (hb hby at_94) (teq rfl).2 rfl ?_
      refine own_iconst X298 hx (pc' := 98) (1 : Int32) (hb hby at_97) rfl rfl ?_
      refine own_goto X298 hx (pc' := 102) (hb hby at_98) (by decide) (by decide) ?_
      refine own_istore X298 hx (pc' := 104) (Ls' := #[.val (.int p0), .val (.int p1), .val (.int (5 : Int32)), .val (.ref r_DAY_OF_WEEK), .val (.int (1 : Int32)), .val (.int (7 : Int32)), .val (.ref bs), .val (.int (Int32.ofNat P)), .val (.int (0 : Int32)), .val (.int (1 : Int32)), .unset]) (hb hby at_102) rfl rfl ?_
      refine own_aload X298 hx (pc' := 106) (hb hby at_104) rfl rfl rfl ?_
      refine own_iload X298 hx (pc' := 108) (hb hby at_106) rfl rfl ?_
      refine own_callV X298 hx (pc' := 111) hZ hown (Wd108 hw) (Wd110 hw) (Wd111 hw) (Wd112 hw) (Wd21 hw) (by decide) (rm_get l Z a0 hw [] bs wa 1 1 (own_bits (1 : Int32) ((7 : Int32) + (1 : Int32))) (1 : Int32) 0 T289.heap n0 Z291 (by decide) (by decide) (by decide) G0_289 G1_289 G2_289 G3_289 F292 (by decide) (by decide) (by decide)) e298 G0_289 0 (by decide) (by decide) (by decide) (by decide) [(.int (1 : Int32))] [] (by rw [hml]; rfl) (lenOf pd_10 rfl) rfl rfl (Nat.le_of_eq rfl) (hb hby at_108) rfl (fun v300 T300 L300 X300 hQ300 => ?_)
      obtain ⟨rfl, Nq300, e300⟩ := hQ300
      have N301 := Fr.app N299 Nq300
      show own_G p.tables e below _ T300 (mkF m 111 #[.val (.int p0), .val (.int p1), .val (.int (5 : Int32)), .val (.ref r_DAY_OF_WEEK), .val (.int (1 : Int32)), .val (.int (7 : Int32)), .val (.ref bs), .val (.int (Int32.ofNat P)), .val (.int (0 : Int32)), .val (.int (1 : Int32)), .unset] [(.int (own_get (own_bits (1 : Int32) ((7 : Int32) + (1 : Int32))) 1 0 (1 : Int32)))])
      rw [own_vg_1_7_1]
      refine own_ifNo X300 hx (pc' := 114) (hb hby at_111) (feq (by decide : ¬ ((1 : Int32) = (0 : Int32)))).1 rfl ?_
      refine own_aload X300 hx (pc' := 116) (hb hby at_114) rfl rfl rfl ?_
      refine own_iload X300 hx (pc' := 118) (hb hby at_116) rfl rfl ?_
      refine own_callV X300 hx (pc' := 121) hZ hown (Wd108 hw) (Wd110 hw) (Wd111 hw) (Wd112 hw) (Wd21 hw) (by decide) (rm_get l Z a0 hw [] bs wa 1 1 (own_bits (1 : Int32) ((7 : Int32) + (1 : Int32))) (7 : Int32) 0 T289.heap n0 Z291 (by decide) (by decide) (by decide) G0_289 G1_289 G2_289 G3_289 F292 (by decide) (by decide) (by decide)) e300 G0_289 0 (by decide) (by decide) (by decide) (by decide) [(.int (7 : Int32))] [] (by rw [hml]; rfl) (lenOf pd_10 rfl) rfl rfl (Nat.le_of_eq rfl) (hb hby at_118) rfl (fun v302 T302 L302 X302 hQ302 => ?_)
      obtain ⟨rfl, Nq302, e302⟩ := hQ302
      have N303 := Fr.app N301 Nq302
      show own_G p.tables e below _ T302 (mkF m 121 #[.val (.int p0), .val (.int p1), .val (.int (5 : Int32)), .val (.ref r_DAY_OF_WEEK), .val (.int (1 : Int32)), .val (.int (7 : Int32)), .val (.ref bs), .val (.int (Int32.ofNat P)), .val (.int (0 : Int32)), .val (.int (1 : Int32)), .unset] [(.int (own_get (own_bits (1 : Int32) ((7 : Int32) + (1 : Int32))) 1 0 (7 : Int32)))])
      rw [own_vg_1_7_7]
      refine own_ifNo X302 hx (pc' := 124) (hb hby at_121) (feq (by decide : ¬ ((1 : Int32) = (0 : Int32)))).1 rfl ?_
      refine own_iload X302 hx (pc' := 126) (hb hby at_124) rfl rfl ?_
      refine own_ifNo X302 hx (pc' := 129) (hb hby at_126) (feq (by decide : ¬ ((1 : Int32) = (0 : Int32)))).1 rfl ?_
      refine own_aload X302 hx (pc' := 131) (hb hby at_129) rfl rfl rfl ?_
      refine own_iload X302 hx (pc' := 133) (hb hby at_131) rfl rfl ?_
      refine own_iconst X302 hx (pc' := 134) (1 : Int32) (hb hby at_133) rfl rfl ?_
      refine own_isub X302 hx (pc' := 135) (z := (0 : Int32)) (hb hby at_134) (by decide) rfl ?_
      refine own_callV X302 hx (pc' := 138) hZ hown (Wd108 hw) (Wd110 hw) (Wd111 hw) (Wd112 hw) (Wd21 hw) (by decide) (rm_get l Z a0 hw [] bs wa 1 1 (own_bits (1 : Int32) ((7 : Int32) + (1 : Int32))) (0 : Int32) 0 T289.heap n0 Z291 (by decide) (by decide) (by decide) G0_289 G1_289 G2_289 G3_289 F292 (by decide) (by decide) (by decide)) e302 G0_289 0 (by decide) (by decide) (by decide) (by decide) [(.int (0 : Int32))] [] (by rw [hml]; rfl) (lenOf pd_10 rfl) rfl rfl (Nat.le_of_eq rfl) (hb hby at_135) rfl (fun v304 T304 L304 X304 hQ304 => ?_)
      obtain ⟨rfl, Nq304, e304⟩ := hQ304
      have N305 := Fr.app N303 Nq304
      show own_G p.tables e below _ T304 (mkF m 138 #[.val (.int p0), .val (.int p1), .val (.int (5 : Int32)), .val (.ref r_DAY_OF_WEEK), .val (.int (1 : Int32)), .val (.int (7 : Int32)), .val (.ref bs), .val (.int (Int32.ofNat P)), .val (.int (0 : Int32)), .val (.int (1 : Int32)), .unset] [(.int (own_get (own_bits (1 : Int32) ((7 : Int32) + (1 : Int32))) 1 0 (0 : Int32)))])
      rw [own_vg_1_7_0]
      refine own_ifNo X304 hx (pc' := 141) (hb hby at_138) (teq rfl).2 rfl ?_
      refine own_aload X304 hx (pc' := 143) (hb hby at_141) rfl rfl rfl ?_
      refine own_iload X304 hx (pc' := 145) (hb hby at_143) rfl rfl ?_
      refine own_iconst X304 hx (pc' := 146) (1 : Int32) (hb hby at_145) rfl rfl ?_
      refine own_iadd X304 hx (pc' := 147) (z := (8 : Int32)) (hb hby at_146) (by decide) rfl ?_
      refine own_callV X304 hx (pc' := 150) hZ hown (Wd108 hw) (Wd110 hw) (Wd111 hw) (Wd112 hw) (Wd21 hw) (by decide) (rm_get l Z a0 hw [] bs wa 1 1 (own_bits (1 : Int32) ((7 : Int32) + (1 : Int32))) (8 : Int32) 0 T289.heap n0 Z291 (by decide) (by decide) (by decide) G0_289 G1_289 G2_289 G3_289 F292 (by decide) (by decide) (by decide)) e304 G0_289 0 (by decide) (by decide) (by decide) (by decide) [(.int (8 : Int32))] [] (by rw [hml]; rfl) (lenOf pd_10 rfl) rfl rfl (Nat.le_of_eq rfl) (hb hby at_147) rfl (fun v306 T306 L306 X306 hQ306 => ?_)
      obtain ⟨rfl, Nq306, e306⟩ := hQ306
      have N307 := Fr.app N305 Nq306
      show own_G p.tables e below _ T306 (mkF m 150 #[.val (.int p0), .val (.int p1), .val (.int (5 : Int32)), .val (.ref r_DAY_OF_WEEK), .val (.int (1 : Int32)), .val (.int (7 : Int32)), .val (.ref bs), .val (.int (Int32.ofNat P)), .val (.int (0 : Int32)), .val (.int (1 : Int32)), .unset] [(.int (own_get (own_bits (1 : Int32) ((7 : Int32) + (1 : Int32))) 1 0 (8 : Int32)))])
      rw [own_vg_1_7_8]
      refine own_ifNo X306 hx (pc' := 153) (hb hby at_150) (teq rfl).2 rfl ?_
      refine own_iconst X306 hx (pc' := 154) (1 : Int32) (hb hby at_153) rfl rfl ?_
      refine own_goto X306 hx (pc' := 158) (hb hby at_154) (by decide) (by decide) ?_
      refine own_istore X306 hx (pc' := 160) (Ls' := #[.val (.int p0), .val (.int p1), .val (.int (5 : Int32)), .val (.ref r_DAY_OF_WEEK), .val (.int (1 : Int32)), .val (.int (7 : Int32)), .val (.ref bs), .val (.int (Int32.ofNat P)), .val (.int (0 : Int32)), .val (.int (1 : Int32)), .val (.int (1 : Int32))]) (hb hby at_158) rfl rfl ?_
      refine own_iload X306 hx (pc' := 162) (hb hby at_160) rfl rfl ?_
      refine own_ifNo X306 hx (pc' := 165) (hb hby at_162) (feq (by decide : ¬ ((1 : Int32) = (0 : Int32)))).1 rfl ?_
      refine own_iload X306 hx (pc' := 167) (hb hby at_165) rfl rfl ?_
      refine own_ifNo X306 hx (pc' := 170) (hb hby at_167) (feq (by decide : ¬ ((1 : Int32) = (0 : Int32)))).1 rfl ?_
      refine own_aload X306 hx (pc' := 172) (hb hby at_170) rfl rfl rfl ?_
      refine own_iload X306 hx (pc' := 174) (hb hby at_172) rfl rfl ?_
      refine own_callV X306 hx (pc' := 177) hZ hown (Wd108 hw) (Wd110 hw) (Wd111 hw) (Wd112 hw) (Wd21 hw) (by decide) (rm_get l Z a0 hw [] bs wa 1 1 (own_bits (1 : Int32) ((7 : Int32) + (1 : Int32))) (Int32.ofNat P) (P / 64) T289.heap n0 Z291 (by decide) (by decide) (by decide) G0_289 G1_289 G2_289 G3_289 F292 (own_clamp (n := P) (by omega)).1 (own_wiP P hP) (by omega)) e306 G0_289 0 (by decide) (by decide) (by decide) (by decide) [(.int (Int32.ofNat P))] [] (by rw [hml]; rfl) (lenOf pd_10 rfl) rfl rfl (Nat.le_of_eq rfl) (hb hby at_174) rfl (fun v308 T308 L308 X308 hQ308 => ?_)
      obtain ⟨rfl, Nq308, e308⟩ := hQ308
      have N309 := Fr.app N307 Nq308
      show own_G p.tables e below _ T308 (mkF m 177 #[.val (.int p0), .val (.int p1), .val (.int (5 : Int32)), .val (.ref r_DAY_OF_WEEK), .val (.int (1 : Int32)), .val (.int (7 : Int32)), .val (.ref bs), .val (.int (Int32.ofNat P)), .val (.int (0 : Int32)), .val (.int (1 : Int32)), .val (.int (1 : Int32))] [(.int (own_get (own_bits (1 : Int32) ((7 : Int32) + (1 : Int32))) 1 (P / 64) (Int32.ofNat P)))])
      rw [own_vP_1_7 P hP, if_pos hc42_293]
      refine own_iload X308 hx (pc' := 179) (hb hby at_177) rfl rfl ?_
      refine own_icmpNo X308 hx (pc' := 182) (hb hby at_179) (teq rfl).2 rfl ?_
      refine own_iconst X308 hx (pc' := 183) (1 : Int32) (hb hby at_182) rfl rfl ?_
      refine own_goto X308 hx (pc' := 187) (hb hby at_183) (by decide) (by decide) ?_
      refine own_retN X308 hx hlk hret (by simp) (hb hby at_187) (by decide) (by decide) ?_
      exact ⟨rfl, N309⟩
    · skip
      refine own_icmpNo X289 hx (pc' := 45) (hb hby at_42) (flt hc42_293).2.2.1 rfl ?_
      refine own_iload X289 hx (pc' := 47) (hb hby at_45) rfl rfl ?_
      refine own_iload X289 hx (pc' := 49) (hb hby at_47) rfl rfl ?_
      by_cases hc49_310 : (7 : Int32) < (Int32.ofNat P)
      · skip
        refine own_icmpYes X289 hx (pc' := 56) (hb hby at_49) (tlt hc49_310).2.2.1 (by decide) (by decide) ?_
        refine own_iconst X289 hx (pc' := 57) (0 : Int32) (hb hby at_56) rfl rfl ?_
        refine own_istore X289 hx (pc' := 59) (Ls' := #[.val (.int p0), .val (.int p1), .val (.int (5 : Int32)), .val (.ref r_DAY_OF_WEEK), .val (.int (1 : Int32)), .val (.int (7 : Int32)), .val (.ref bs), .val (.int (Int32.ofNat P)), .val (.int (0 : Int32)), .unset, .unset]) (hb hby at_57) rfl rfl ?_
        refine own_aload X289 hx (pc' := 61) (hb hby at_59) rfl rfl rfl ?_
        refine own_iconst X289 hx (pc' := 62) (0 : Int32) (hb hby at_61) rfl rfl ?_
        refine own_callV X289 hx (pc' := 65) hZ hown (Wd72 hw) (Wd74 hw) (Wd75 hw) (Wd76 hw) (Wd21 hw) (by decide) (rm_nsb l Z a0 hw [] bs wa 1 1 (own_bits (1 : Int32) ((7 : Int32) + (1 : Int32)))  T289.heap n0 Z291 (by decide) (by decide) (by decide) G0_289 G1_289 G2_289 G3_289 F292) rfl G0_289 0 (by decide) (by decide) (by decide) (by decide) [(.int (0 : Int32))] [] (by rw [hml]; rfl) (lenOf pd_0 rfl) rfl rfl (Nat.le_of_eq rfl) (hb hby at_62) rfl (fun v311 T311 L311 X311 hQ311 => ?_)
        obtain ⟨rfl, Nq311, e311⟩ := hQ311
        have N312 := Fr.app N290 Nq311
        show own_G p.tables e below _ T311 (mkF m 65 #[.val (.int p0), .val (.int p1), .val (.int (5 : Int32)), .val (.ref r_DAY_OF_WEEK), .val (.int (1 : Int32)), .val (.int (7 : Int32)), .val (.ref bs), .val (.int (Int32.ofNat P)), .val (.int (0 : Int32)), .unset, .unset] [(.int (own_nsb (own_bits (1 : Int32) ((7 : Int32) + (1 : Int32))) 1))])
        rw [own_vn_1_7]
        refine own_iload X311 hx (pc' := 67) (hb hby at_65) rfl rfl ?_
        refine own_icmpNo X311 hx (pc' := 70) (hb hby at_67) (teq rfl).2 rfl ?_
        refine own_aload X311 hx (pc' := 72) (hb hby at_70) rfl rfl rfl ?_
        refine own_callV X311 hx (pc' := 75) hZ hown (Wd85 hw) (Wd87 hw) (Wd88 hw) (Wd89 hw) (Wd21 hw) (by decide) (rm_len l Z a0 hw [] bs wa 1 1 (own_bits (1 : Int32) ((7 : Int32) + (1 : Int32)))  T289.heap n0 Z291 (by decide) (by decide) (by decide) G0_289 G1_289 G2_289 G3_289 ) e311 G0_289 0 (by decide) (by decide) (by decide) (by decide) [] [] (by rw [hml]; rfl) (lenOf pd_9 rfl) rfl rfl (Nat.le_of_eq rfl) (hb hby at_72) rfl (fun v313 T313 L313 X313 hQ313 => ?_)
        obtain ⟨rfl, Nq313, e313⟩ := hQ313
        have N314 := Fr.app N312 Nq313
        show own_G p.tables e below _ T313 (mkF m 75 #[.val (.int p0), .val (.int p1), .val (.int (5 : Int32)), .val (.ref r_DAY_OF_WEEK), .val (.int (1 : Int32)), .val (.int (7 : Int32)), .val (.ref bs), .val (.int (Int32.ofNat P)), .val (.int (0 : Int32)), .unset, .unset] [(.int (own_blen (own_bits (1 : Int32) ((7 : Int32) + (1 : Int32))) 1))])
        rw [own_vl_1_7]
        refine own_iload X313 hx (pc' := 77) (hb hby at_75) rfl rfl ?_
        refine own_iconst X313 hx (pc' := 78) (1 : Int32) (hb hby at_77) rfl rfl ?_
        refine own_iadd X313 hx (pc' := 79) (z := (8 : Int32)) (hb hby at_78) (by decide) rfl ?_
        refine own_icmpNo X313 hx (pc' := 82) (hb hby at_79) (teq rfl).2 rfl ?_
        refine own_aload X313 hx (pc' := 84) (hb hby at_82) rfl rfl rfl ?_
        refine own_callV X313 hx (pc' := 87) hZ hown (Wd97 hw) (Wd99 hw) (Wd100 hw) (Wd101 hw) (Wd21 hw) (by decide) (rm_card l Z a0 hw [] bs wa 1 1 (own_bits (1 : Int32) ((7 : Int32) + (1 : Int32)))  T289.heap n0 Z291 (by decide) (by decide) (by decide) G0_289 G1_289 G2_289 G3_289 ) e313 G0_289 0 (by decide) (by decide) (by decide) (by decide) [] [] (by rw [hml]; rfl) (lenOf pd_9 rfl) rfl rfl (Nat.le_of_eq rfl) (hb hby at_84) rfl (fun v315 T315 L315 X315 hQ315 => ?_)
        obtain ⟨rfl, Nq315, e315⟩ := hQ315
        have N316 := Fr.app N314 Nq315
        show own_G p.tables e below _ T315 (mkF m 87 #[.val (.int p0), .val (.int p1), .val (.int (5 : Int32)), .val (.ref r_DAY_OF_WEEK), .val (.int (1 : Int32)), .val (.int (7 : Int32)), .val (.ref bs), .val (.int (Int32.ofNat P)), .val (.int (0 : Int32)), .unset, .unset] [(.int (own_card (own_bits (1 : Int32) ((7 : Int32) + (1 : Int32))) 1 0 (0 : Int32)))])
        rw [own_vc_1_7]
        refine own_iload X315 hx (pc' := 89) (hb hby at_87) rfl rfl ?_
        refine own_iload X315 hx (pc' := 91) (hb hby at_89) rfl rfl ?_
        refine own_isub X315 hx (pc' := 92) (z := (6 : Int32)) (hb hby at_91) (by decide) rfl ?_
        refine own_iconst X315 hx (pc' := 93) (1 : Int32) (hb hby at_92) rfl rfl ?_
        refine own_iadd X315 hx (pc' := 94) (z := (7 : Int32)) (hb hby at_93) (by decide) rfl ?_
        refine own_icmpNo X315 hx (pc' := 97) (hb hby at_94) (teq rfl).2 rfl ?_
        refine own_iconst X315 hx (pc' := 98) (1 : Int32) (hb hby at_97) rfl rfl ?_
        refine own_goto X315 hx (pc' := 102) (hb hby at_98) (by decide) (by decide) ?_
        refine own_istore X315 hx (pc' := 104) (Ls' := #[.val (.int p0), .val (.int p1), .val (.int (5 : Int32)), .val (.ref r_DAY_OF_WEEK), .val (.int (1 : Int32)), .val (.int (7 : Int32)), .val (.ref bs), .val (.int (Int32.ofNat P)), .val (.int (0 : Int32)), .val (.int (1 : Int32)), .unset]) (hb hby at_102) rfl rfl ?_
        refine own_aload X315 hx (pc' := 106) (hb hby at_104) rfl rfl rfl ?_
        refine own_iload X315 hx (pc' := 108) (hb hby at_106) rfl rfl ?_
        refine own_callV X315 hx (pc' := 111) hZ hown (Wd108 hw) (Wd110 hw) (Wd111 hw) (Wd112 hw) (Wd21 hw) (by decide) (rm_get l Z a0 hw [] bs wa 1 1 (own_bits (1 : Int32) ((7 : Int32) + (1 : Int32))) (1 : Int32) 0 T289.heap n0 Z291 (by decide) (by decide) (by decide) G0_289 G1_289 G2_289 G3_289 F292 (by decide) (by decide) (by decide)) e315 G0_289 0 (by decide) (by decide) (by decide) (by decide) [(.int (1 : Int32))] [] (by rw [hml]; rfl) (lenOf pd_10 rfl) rfl rfl (Nat.le_of_eq rfl) (hb hby at_108) rfl (fun v317 T317 L317 X317 hQ317 => ?_)
        obtain ⟨rfl, Nq317, e317⟩ := hQ317
        have N318 := Fr.app N316 Nq317
        show own_G p.tables e below _ T317 (mkF m 111 #[.val (.int p0), .val (.int p1), .val (.int (5 : Int32)), .val (.ref r_DAY_OF_WEEK), .val (.int (1 : Int32)), .val (.int (7 : Int32)), .val (.ref bs), .val (.int (Int32.ofNat P)), .val (.int (0 : Int32)), .val (.int (1 : Int32)), .unset] [(.int (own_get (own_bits (1 : Int32) ((7 : Int32) + (1 : Int32))) 1 0 (1 : Int32)))])
        rw [own_vg_1_7_1]
        refine own_ifNo X317 hx (pc' := 114) (hb hby at_111) (feq (by decide : ¬ ((1 : Int32) = (0 : Int32)))).1 rfl ?_
        refine own_aload X317 hx (pc' := 116) (hb hby at_114) rfl rfl rfl ?_
        refine own_iload X317 hx (pc' := 118) (hb hby at_116) rfl rfl ?_
        refine own_callV X317 hx (pc' := 121) hZ hown (Wd108 hw) (Wd110 hw) (Wd111 hw) (Wd112 hw) (Wd21 hw) (by decide) (rm_get l Z a0 hw [] bs wa 1 1 (own_bits (1 : Int32) ((7 : Int32) + (1 : Int32))) (7 : Int32) 0 T289.heap n0 Z291 (by decide) (by decide) (by decide) G0_289 G1_289 G2_289 G3_289 F292 (by decide) (by decide) (by decide)) e317 G0_289 0 (by decide) (by decide) (by decide) (by decide) [(.int (7 : Int32))] [] (by rw [hml]; rfl) (lenOf pd_10 rfl) rfl rfl (Nat.le_of_eq rfl) (hb hby at_118) rfl (fun v319 T319 L319 X319 hQ319 => ?_)
        obtain ⟨rfl, Nq319, e319⟩ := hQ319
        have N320 := Fr.app N318 Nq319
        show own_G p.tables e below _ T319 (mkF m 121 #[.val (.int p0), .val (.int p1), .val (.int (5 : Int32)), .val (.ref r_DAY_OF_WEEK), .val (.int (1 : Int32)), .val (.int (7 : Int32)), .val (.ref bs), .val (.int (Int32.ofNat P)), .val (.int (0 : Int32)), .val (.int (1 : Int32)), .unset] [(.int (own_get (own_bits (1 : Int32) ((7 : Int32) + (1 : Int32))) 1 0 (7 : Int32)))])
        rw [own_vg_1_7_7]
        refine own_ifNo X319 hx (pc' := 124) (hb hby at_121) (feq (by decide : ¬ ((1 : Int32) = (0 : Int32)))).1 rfl ?_
        refine own_iload X319 hx (pc' := 126) (hb hby at_124) rfl rfl ?_
        refine own_ifNo X319 hx (pc' := 129) (hb hby at_126) (feq (by decide : ¬ ((1 : Int32) = (0 : Int32)))).1 rfl ?_
        refine own_aload X319 hx (pc' := 131) (hb hby at_129) rfl rfl rfl ?_
        refine own_iload X319 hx (pc' := 133) (hb hby at_131) rfl rfl ?_
        refine own_iconst X319 hx (pc' := 134) (1 : Int32) (hb hby at_133) rfl rfl ?_
        refine own_isub X319 hx (pc' := 135) (z := (0 : Int32)) (hb hby at_134) (by decide) rfl ?_
        refine own_callV X319 hx (pc' := 138) hZ hown (Wd108 hw) (Wd110 hw) (Wd111 hw) (Wd112 hw) (Wd21 hw) (by decide) (rm_get l Z a0 hw [] bs wa 1 1 (own_bits (1 : Int32) ((7 : Int32) + (1 : Int32))) (0 : Int32) 0 T289.heap n0 Z291 (by decide) (by decide) (by decide) G0_289 G1_289 G2_289 G3_289 F292 (by decide) (by decide) (by decide)) e319 G0_289 0 (by decide) (by decide) (by decide) (by decide) [(.int (0 : Int32))] [] (by rw [hml]; rfl) (lenOf pd_10 rfl) rfl rfl (Nat.le_of_eq rfl) (hb hby at_135) rfl (fun v321 T321 L321 X321 hQ321 => ?_)
        obtain ⟨rfl, Nq321, e321⟩ := hQ321
        have N322 := Fr.app N320 Nq321
        show own_G p.tables e below _ T321 (mkF m 138 #[.val (.int p0), .val (.int p1), .val (.int (5 : Int32)), .val (.ref r_DAY_OF_WEEK), .val (.int (1 : Int32)), .val (.int (7 : Int32)), .val (.ref bs), .val (.int (Int32.ofNat P)), .val (.int (0 : Int32)), .val (.int (1 : Int32)), .unset] [(.int (own_get (own_bits (1 : Int32) ((7 : Int32) + (1 : Int32))) 1 0 (0 : Int32)))])
        rw [own_vg_1_7_0]
        refine own_ifNo X321 hx (pc' := 141) (hb hby at_138) (teq rfl).2 rfl ?_
        refine own_aload X321 hx (pc' := 143) (hb hby at_141) rfl rfl rfl ?_
        refine own_iload X321 hx (pc' := 145) (hb hby at_143) rfl rfl ?_
        refine own_iconst X321 hx (pc' := 146) (1 : Int32) (hb hby at_145) rfl rfl ?_
        refine own_iadd X321 hx (pc' := 147) (z := (8 : Int32)) (hb hby at_146) (by decide) rfl ?_
        refine own_callV X321 hx (pc' := 150) hZ hown (Wd108 hw) (Wd110 hw) (Wd111 hw) (Wd112 hw) (Wd21 hw) (by decide) (rm_get l Z a0 hw [] bs wa 1 1 (own_bits (1 : Int32) ((7 : Int32) + (1 : Int32))) (8 : Int32) 0 T289.heap n0 Z291 (by decide) (by decide) (by decide) G0_289 G1_289 G2_289 G3_289 F292 (by decide) (by decide) (by decide)) e321 G0_289 0 (by decide) (by decide) (by decide) (by decide) [(.int (8 : Int32))] [] (by rw [hml]; rfl) (lenOf pd_10 rfl) rfl rfl (Nat.le_of_eq rfl) (hb hby at_147) rfl (fun v323 T323 L323 X323 hQ323 => ?_)
        obtain ⟨rfl, Nq323, e323⟩ := hQ323
        have N324 := Fr.app N322 Nq323
        show own_G p.tables e below _ T323 (mkF m 150 #[.val (.int p0), .val (.int p1), .val (.int (5 : Int32)), .val (.ref r_DAY_OF_WEEK), .val (.int (1 : Int32)), .val (.int (7 : Int32)), .val (.ref bs), .val (.int (Int32.ofNat P)), .val (.int (0 : Int32)), .val (.int (1 : Int32)), .unset] [(.int (own_get (own_bits (1 : Int32) ((7 : Int32) + (1 : Int32))) 1 0 (8 : Int32)))])
        rw [own_vg_1_7_8]
        refine own_ifNo X323 hx (pc' := 153) (hb hby at_150) (teq rfl).2 rfl ?_
        refine own_iconst X323 hx (pc' := 154) (1 : Int32) (hb hby at_153) rfl rfl ?_
        refine own_goto X323 hx (pc' := 158) (hb hby at_154) (by decide) (by decide) ?_
        refine own_istore X323 hx (pc' := 160) (Ls' := #[.val (.int p0), .val (.int p1), .val (.int (5 : Int32)), .val (.ref r_DAY_OF_WEEK), .val (.int (1 : Int32)), .val (.int (7 : Int32)), .val (.ref bs), .val (.int (Int32.ofNat P)), .val (.int (0 : Int32)), .val (.int (1 : Int32)), .val (.int (1 : Int32))]) (hb hby at_158) rfl rfl ?_
        refine own_iload X323 hx (pc' := 162) (hb hby at_160) rfl rfl ?_
        refine own_ifNo X323 hx (pc' := 165) (hb hby at_162) (feq (by decide : ¬ ((1 : Int32) = (0 : Int32)))).1 rfl ?_
        refine own_iload X323 hx (pc' := 167) (hb hby at_165) rfl rfl ?_
        refine own_ifNo X323 hx (pc' := 170) (hb hby at_167) (feq (by decide : ¬ ((1 : Int32) = (0 : Int32)))).1 rfl ?_
        refine own_aload X323 hx (pc' := 172) (hb hby at_170) rfl rfl rfl ?_
        refine own_iload X323 hx (pc' := 174) (hb hby at_172) rfl rfl ?_
        refine own_callV X323 hx (pc' := 177) hZ hown (Wd108 hw) (Wd110 hw) (Wd111 hw) (Wd112 hw) (Wd21 hw) (by decide) (rm_get l Z a0 hw [] bs wa 1 1 (own_bits (1 : Int32) ((7 : Int32) + (1 : Int32))) (Int32.ofNat P) (P / 64) T289.heap n0 Z291 (by decide) (by decide) (by decide) G0_289 G1_289 G2_289 G3_289 F292 (own_clamp (n := P) (by omega)).1 (own_wiP P hP) (by omega)) e323 G0_289 0 (by decide) (by decide) (by decide) (by decide) [(.int (Int32.ofNat P))] [] (by rw [hml]; rfl) (lenOf pd_10 rfl) rfl rfl (Nat.le_of_eq rfl) (hb hby at_174) rfl (fun v325 T325 L325 X325 hQ325 => ?_)
        obtain ⟨rfl, Nq325, e325⟩ := hQ325
        have N326 := Fr.app N324 Nq325
        show own_G p.tables e below _ T325 (mkF m 177 #[.val (.int p0), .val (.int p1), .val (.int (5 : Int32)), .val (.ref r_DAY_OF_WEEK), .val (.int (1 : Int32)), .val (.int (7 : Int32)), .val (.ref bs), .val (.int (Int32.ofNat P)), .val (.int (0 : Int32)), .val (.int (1 : Int32)), .val (.int (1 : Int32))] [(.int (own_get (own_bits (1 : Int32) ((7 : Int32) + (1 : Int32))) 1 (P / 64) (Int32.ofNat P)))])
        rw [own_vP_1_7 P hP, if_neg hc42_293, if_pos hc49_310]
        refine own_iload X325 hx (pc' := 179) (hb hby at_177) rfl rfl ?_
        refine own_icmpNo X325 hx (pc' := 182) (hb hby at_179) (teq rfl).2 rfl ?_
        refine own_iconst X325 hx (pc' := 183) (1 : Int32) (hb hby at_182) rfl rfl ?_
        refine own_goto X325 hx (pc' := 187) (hb hby at_183) (by decide) (by decide) ?_
        refine own_retN X325 hx hlk hret (by simp) (hb hby at_187) (by decide) (by decide) ?_
        exact ⟨rfl, N326⟩
      · skip
        refine own_icmpNo X289 hx (pc' := 52) (hb hby at_49) (flt hc49_310).2.2.1 rfl ?_
        refine own_iconst X289 hx (pc' := 53) (1 : Int32) (hb hby at_52) rfl rfl ?_
        refine own_goto X289 hx (pc' := 57) (hb hby at_53) (by decide) (by decide) ?_
        refine own_istore X289 hx (pc' := 59) (Ls' := #[.val (.int p0), .val (.int p1), .val (.int (5 : Int32)), .val (.ref r_DAY_OF_WEEK), .val (.int (1 : Int32)), .val (.int (7 : Int32)), .val (.ref bs), .val (.int (Int32.ofNat P)), .val (.int (1 : Int32)), .unset, .unset]) (hb hby at_57) rfl rfl ?_
        refine own_aload X289 hx (pc' := 61) (hb hby at_59) rfl rfl rfl ?_
        refine own_iconst X289 hx (pc' := 62) (0 : Int32) (hb hby at_61) rfl rfl ?_
        refine own_callV X289 hx (pc' := 65) hZ hown (Wd72 hw) (Wd74 hw) (Wd75 hw) (Wd76 hw) (Wd21 hw) (by decide) (rm_nsb l Z a0 hw [] bs wa 1 1 (own_bits (1 : Int32) ((7 : Int32) + (1 : Int32)))  T289.heap n0 Z291 (by decide) (by decide) (by decide) G0_289 G1_289 G2_289 G3_289 F292) rfl G0_289 0 (by decide) (by decide) (by decide) (by decide) [(.int (0 : Int32))] [] (by rw [hml]; rfl) (lenOf pd_0 rfl) rfl rfl (Nat.le_of_eq rfl) (hb hby at_62) rfl (fun v327 T327 L327 X327 hQ327 => ?_)
        obtain ⟨rfl, Nq327, e327⟩ := hQ327
        have N328 := Fr.app N290 Nq327
        show own_G p.tables e below _ T327 (mkF m 65 #[.val (.int p0), .val (.int p1), .val (.int (5 : Int32)), .val (.ref r_DAY_OF_WEEK), .val (.int (1 : Int32)), .val (.int (7 : Int32)), .val (.ref bs), .val (.int (Int32.ofNat P)), .val (.int (1 : Int32)), .unset, .unset] [(.int (own_nsb (own_bits (1 : Int32) ((7 : Int32) + (1 : Int32))) 1))])
        rw [own_vn_1_7]
        refine own_iload X327 hx (pc' := 67) (hb hby at_65) rfl rfl ?_
        refine own_icmpNo X327 hx (pc' := 70) (hb hby at_67) (teq rfl).2 rfl ?_
        refine own_aload X327 hx (pc' := 72) (hb hby at_70) rfl rfl rfl ?_
        refine own_callV X327 hx (pc' := 75) hZ hown (Wd85 hw) (Wd87 hw) (Wd88 hw) (Wd89 hw) (Wd21 hw) (by decide) (rm_len l Z a0 hw [] bs wa 1 1 (own_bits (1 : Int32) ((7 : Int32) + (1 : Int32)))  T289.heap n0 Z291 (by decide) (by decide) (by decide) G0_289 G1_289 G2_289 G3_289 ) e327 G0_289 0 (by decide) (by decide) (by decide) (by decide) [] [] (by rw [hml]; rfl) (lenOf pd_9 rfl) rfl rfl (Nat.le_of_eq rfl) (hb hby at_72) rfl (fun v329 T329 L329 X329 hQ329 => ?_)
        obtain ⟨rfl, Nq329, e329⟩ := hQ329
        have N330 := Fr.app N328 Nq329
        show own_G p.tables e below _ T329 (mkF m 75 #[.val (.int p0), .val (.int p1), .val (.int (5 : Int32)), .val (.ref r_DAY_OF_WEEK), .val (.int (1 : Int32)), .val (.int (7 : Int32)), .val (.ref bs), .val (.int (Int32.ofNat P)), .val (.int (1 : Int32)), .unset, .unset] [(.int (own_blen (own_bits (1 : Int32) ((7 : Int32) + (1 : Int32))) 1))])
        rw [own_vl_1_7]
        refine own_iload X329 hx (pc' := 77) (hb hby at_75) rfl rfl ?_
        refine own_iconst X329 hx (pc' := 78) (1 : Int32) (hb hby at_77) rfl rfl ?_
        refine own_iadd X329 hx (pc' := 79) (z := (8 : Int32)) (hb hby at_78) (by decide) rfl ?_
        refine own_icmpNo X329 hx (pc' := 82) (hb hby at_79) (teq rfl).2 rfl ?_
        refine own_aload X329 hx (pc' := 84) (hb hby at_82) rfl rfl rfl ?_
        refine own_callV X329 hx (pc' := 87) hZ hown (Wd97 hw) (Wd99 hw) (Wd100 hw) (Wd101 hw) (Wd21 hw) (by decide) (rm_card l Z a0 hw [] bs wa 1 1 (own_bits (1 : Int32) ((7 : Int32) + (1 : Int32)))  T289.heap n0 Z291 (by decide) (by decide) (by decide) G0_289 G1_289 G2_289 G3_289 ) e329 G0_289 0 (by decide) (by decide) (by decide) (by decide) [] [] (by rw [hml]; rfl) (lenOf pd_9 rfl) rfl rfl (Nat.le_of_eq rfl) (hb hby at_84) rfl (fun v331 T331 L331 X331 hQ331 => ?_)
        obtain ⟨rfl, Nq331, e331⟩ := hQ331
        have N332 := Fr.app N330 Nq331
        show own_G p.tables e below _ T331 (mkF m 87 #[.val (.int p0), .val (.int p1), .val (.int (5 : Int32)), .val (.ref r_DAY_OF_WEEK), .val (.int (1 : Int32)), .val (.int (7 : Int32)), .val (.ref bs), .val (.int (Int32.ofNat P)), .val (.int (1 : Int32)), .unset, .unset] [(.int (own_card (own_bits (1 : Int32) ((7 : Int32) + (1 : Int32))) 1 0 (0 : Int32)))])
        rw [own_vc_1_7]
        refine own_iload X331 hx (pc' := 89) (hb hby at_87) rfl rfl ?_
        refine own_iload X331 hx (pc' := 91) (hb hby at_89) rfl rfl ?_
        refine own_isub X331 hx (pc' := 92) (z := (6 : Int32)) (hb hby at_91) (by decide) rfl ?_
        refine own_iconst X331 hx (pc' := 93) (1 : Int32) (hb hby at_92) rfl rfl ?_
        refine own_iadd X331 hx (pc' := 94) (z := (7 : Int32)) (hb hby at_93) (by decide) rfl ?_
        refine own_icmpNo X331 hx (pc' := 97) (hb hby at_94) (teq rfl).2 rfl ?_
        refine own_iconst X331 hx (pc' := 98) (1 : Int32) (hb hby at_97) rfl rfl ?_
        refine own_goto X331 hx (pc' := 102) (hb hby at_98) (by decide) (by decide) ?_
        refine own_istore X331 hx (pc' := 104) (Ls' := #[.val (.int p0), .val (.int p1), .val (.int (5 : Int32)), .val (.ref r_DAY_OF_WEEK), .val (.int (1 : Int32)), .val (.int (7 : Int32)), .val (.ref bs), .val (.int (Int32.ofNat P)), .val (.int (1 : Int32)), .val (.int (1 : Int32)), .unset]) (hb hby at_102) rfl rfl ?_
        refine own_aload X331 hx (pc' := 106) (hb hby at_104) rfl rfl rfl ?_
        refine own_iload X331 hx (pc' := 108) (hb hby at_106) rfl rfl ?_
        refine own_callV X331 hx (pc' := 111) hZ hown (Wd108 hw) (Wd110 hw) (Wd111 hw) (Wd112 hw) (Wd21 hw) (by decide) (rm_get l Z a0 hw [] bs wa 1 1 (own_bits (1 : Int32) ((7 : Int32) + (1 : Int32))) (1 : Int32) 0 T289.heap n0 Z291 (by decide) (by decide) (by decide) G0_289 G1_289 G2_289 G3_289 F292 (by decide) (by decide) (by decide)) e331 G0_289 0 (by decide) (by decide) (by decide) (by decide) [(.int (1 : Int32))] [] (by rw [hml]; rfl) (lenOf pd_10 rfl) rfl rfl (Nat.le_of_eq rfl) (hb hby at_108) rfl (fun v333 T333 L333 X333 hQ333 => ?_)
        obtain ⟨rfl, Nq333, e333⟩ := hQ333
        have N334 := Fr.app N332 Nq333
        show own_G p.tables e below _ T333 (mkF m 111 #[.val (.int p0), .val (.int p1), .val (.int (5 : Int32)), .val (.ref r_DAY_OF_WEEK), .val (.int (1 : Int32)), .val (.int (7 : Int32)), .val (.ref bs), .val (.int (Int32.ofNat P)), .val (.int (1 : Int32)), .val (.int (1 : Int32)), .unset] [(.int (own_get (own_bits (1 : Int32) ((7 : Int32) + (1 : Int32))) 1 0 (1 : Int32)))])
        rw [own_vg_1_7_1]
        refine own_ifNo X333 hx (pc' := 114) (hb hby at_111) (feq (by decide : ¬ ((1 : Int32) = (0 : Int32)))).1 rfl ?_
        refine own_aload X333 hx (pc' := 116) (hb hby at_114) rfl rfl rfl ?_
        refine own_iload X333 hx (pc' := 118) (hb hby at_116) rfl rfl ?_
        refine own_callV X333 hx (pc' := 121) hZ hown (Wd108 hw) (Wd110 hw) (Wd111 hw) (Wd112 hw) (Wd21 hw) (by decide) (rm_get l Z a0 hw [] bs wa 1 1 (own_bits (1 : Int32) ((7 : Int32) + (1 : Int32))) (7 : Int32) 0 T289.heap n0 Z291 (by decide) (by decide) (by decide) G0_289 G1_289 G2_289 G3_289 F292 (by decide) (by decide) (by decide)) e333 G0_289 0 (by decide) (by decide) (by decide) (by decide) [(.int (7 : Int32))] [] (by rw [hml]; rfl) (lenOf pd_10 rfl) rfl rfl (Nat.le_of_eq rfl) (hb hby at_118) rfl (fun v335 T335 L335 X335 hQ335 => ?_)
        obtain ⟨rfl, Nq335, e335⟩ := hQ335
        have N336 := Fr.app N334 Nq335
        show own_G p.tables e below _ T335 (mkF m 121 #[.val (.int p0), .val (.int p1), .val (.int (5 : Int32)), .val (.ref r_DAY_OF_WEEK), .val (.int (1 : Int32)), .val (.int (7 : Int32)), .val (.ref bs), .val (.int (Int32.ofNat P)), .val (.int (1 : Int32)), .val (.int (1 : Int32)), .unset] [(.int (own_get (own_bits (1 : Int32) ((7 : Int32) + (1 : Int32))) 1 0 (7 : Int32)))])
        rw [own_vg_1_7_7]
        refine own_ifNo X335 hx (pc' := 124) (hb hby at_121) (feq (by decide : ¬ ((1 : Int32) = (0 : Int32)))).1 rfl ?_
        refine own_iload X335 hx (pc' := 126) (hb hby at_124) rfl rfl ?_
        refine own_ifNo X335 hx (pc' := 129) (hb hby at_126) (feq (by decide : ¬ ((1 : Int32) = (0 : Int32)))).1 rfl ?_
        refine own_aload X335 hx (pc' := 131) (hb hby at_129) rfl rfl rfl ?_
        refine own_iload X335 hx (pc' := 133) (hb hby at_131) rfl rfl ?_
        refine own_iconst X335 hx (pc' := 134) (1 : Int32) (hb hby at_133) rfl rfl ?_
        refine own_isub X335 hx (pc' := 135) (z := (0 : Int32)) (hb hby at_134) (by decide) rfl ?_
        refine own_callV X335 hx (pc' := 138) hZ hown (Wd108 hw) (Wd110 hw) (Wd111 hw) (Wd112 hw) (Wd21 hw) (by decide) (rm_get l Z a0 hw [] bs wa 1 1 (own_bits (1 : Int32) ((7 : Int32) + (1 : Int32))) (0 : Int32) 0 T289.heap n0 Z291 (by decide) (by decide) (by decide) G0_289 G1_289 G2_289 G3_289 F292 (by decide) (by decide) (by decide)) e335 G0_289 0 (by decide) (by decide) (by decide) (by decide) [(.int (0 : Int32))] [] (by rw [hml]; rfl) (lenOf pd_10 rfl) rfl rfl (Nat.le_of_eq rfl) (hb hby at_135) rfl (fun v337 T337 L337 X337 hQ337 => ?_)
        obtain ⟨rfl, Nq337, e337⟩ := hQ337
        have N338 := Fr.app N336 Nq337
        show own_G p.tables e below _ T337 (mkF m 138 #[.val (.int p0), .val (.int p1), .val (.int (5 : Int32)), .val (.ref r_DAY_OF_WEEK), .val (.int (1 : Int32)), .val (.int (7 : Int32)), .val (.ref bs), .val (.int (Int32.ofNat P)), .val (.int (1 : Int32)), .val (.int (1 : Int32)), .unset] [(.int (own_get (own_bits (1 : Int32) ((7 : Int32) + (1 : Int32))) 1 0 (0 : Int32)))])
        rw [own_vg_1_7_0]
        refine own_ifNo X337 hx (pc' := 141) (hb hby at_138) (teq rfl).2 rfl ?_
        refine own_aload X337 hx (pc' := 143) (hb hby at_141) rfl rfl rfl ?_
        refine own_iload X337 hx (pc' := 145) (hb hby at_143) rfl rfl ?_
        refine own_iconst X337 hx (pc' := 146) (1 : Int32) (hb hby at_145) rfl rfl ?_
        refine own_iadd X337 hx (pc' := 147) (z := (8 : Int32)) (hb hby at_146) (by decide) rfl ?_
        refine own_callV X337 hx (pc' := 150) hZ hown (Wd108 hw) (Wd110 hw) (Wd111 hw) (Wd112 hw) (Wd21 hw) (by decide) (rm_get l Z a0 hw [] bs wa 1 1 (own_bits (1 : Int32) ((7 : Int32) + (1 : Int32))) (8 : Int32) 0 T289.heap n0 Z291 (by decide) (by decide) (by decide) G0_289 G1_289 G2_289 G3_289 F292 (by decide) (by decide) (by decide)) e337 G0_289 0 (by decide) (by decide) (by decide) (by decide) [(.int (8 : Int32))] [] (by rw [hml]; rfl) (lenOf pd_10 rfl) rfl rfl (Nat.le_of_eq rfl) (hb hby at_147) rfl (fun v339 T339 L339 X339 hQ339 => ?_)
        obtain ⟨rfl, Nq339, e339⟩ := hQ339
        have N340 := Fr.app N338 Nq339
        show own_G p.tables e below _ T339 (mkF m 150 #[.val (.int p0), .val (.int p1), .val (.int (5 : Int32)), .val (.ref r_DAY_OF_WEEK), .val (.int (1 : Int32)), .val (.int (7 : Int32)), .val (.ref bs), .val (.int (Int32.ofNat P)), .val (.int (1 : Int32)), .val (.int (1 : Int32)), .unset] [(.int (own_get (own_bits (1 : Int32) ((7 : Int32) + (1 : Int32))) 1 0 (8 : Int32)))])
        rw [own_vg_1_7_8]
        refine own_ifNo X339 hx (pc' := 153) (hb hby at_150) (teq rfl).2 rfl ?_
        refine own_iconst X339 hx (pc' := 154) (1 : Int32) (hb hby at_153) rfl rfl ?_
        refine own_goto X339 hx (pc' := 158) (hb hby at_154) (by decide) (by decide) ?_
        refine own_istore X339 hx (pc' := 160) (Ls' := #[.val (.int p0), .val (.int p1), .val (.int (5 : Int32)), .val (.ref r_DAY_OF_WEEK), .val (.int (1 : Int32)), .val (.int (7 : Int32)), .val (.ref bs), .val (.int (Int32.ofNat P)), .val (.int (1 : Int32)), .val (.int (1 : Int32)), .val (.int (1 : Int32))]) (hb hby at_158) rfl rfl ?_
        refine own_iload X339 hx (pc' := 162) (hb hby at_160) rfl rfl ?_
        refine own_ifNo X339 hx (pc' := 165) (hb hby at_162) (feq (by decide : ¬ ((1 : Int32) = (0 : Int32)))).1 rfl ?_
        refine own_iload X339 hx (pc' := 167) (hb hby at_165) rfl rfl ?_
        refine own_ifNo X339 hx (pc' := 170) (hb hby at_167) (feq (by decide : ¬ ((1 : Int32) = (0 : Int32)))).1 rfl ?_
        refine own_aload X339 hx (pc' := 172) (hb hby at_170) rfl rfl rfl ?_
        refine own_iload X339 hx (pc' := 174) (hb hby at_172) rfl rfl ?_
        refine own_callV X339 hx (pc' := 177) hZ hown (Wd108 hw) (Wd110 hw) (Wd111 hw) (Wd112 hw) (Wd21 hw) (by decide) (rm_get l Z a0 hw [] bs wa 1 1 (own_bits (1 : Int32) ((7 : Int32) + (1 : Int32))) (Int32.ofNat P) (P / 64) T289.heap n0 Z291 (by decide) (by decide) (by decide) G0_289 G1_289 G2_289 G3_289 F292 (own_clamp (n := P) (by omega)).1 (own_wiP P hP) (by omega)) e339 G0_289 0 (by decide) (by decide) (by decide) (by decide) [(.int (Int32.ofNat P))] [] (by rw [hml]; rfl) (lenOf pd_10 rfl) rfl rfl (Nat.le_of_eq rfl) (hb hby at_174) rfl (fun v341 T341 L341 X341 hQ341 => ?_)
        obtain ⟨rfl, Nq341, e341⟩ := hQ341
        have N342 := Fr.app N340 Nq341
        show own_G p.tables e below _ T341 (mkF m 177 #[.val (.int p0), .val (.int p1), .val (.int (5 : Int32)), .val (.ref r_DAY_OF_WEEK), .val (.int (1 : Int32)), .val (.int (7 : Int32)), .val (.ref bs), .val (.int (Int32.ofNat P)), .val (.int (1 : Int32)), .val (.int (1 : Int32)), .val (.int (1 : Int32))] [(.int (own_get (own_bits (1 : Int32) ((7 : Int32) + (1 : Int32))) 1 (P / 64) (Int32.ofNat P)))])
        rw [own_vP_1_7 P hP, if_neg hc42_293, if_neg hc49_310]
        refine own_iload X341 hx (pc' := 179) (hb hby at_177) rfl rfl ?_
        refine own_icmpNo X341 hx (pc' := 182) (hb hby at_179) (teq rfl).2 rfl ?_
        refine own_iconst X341 hx (pc' := 183) (1 : Int32) (hb hby at_182) rfl rfl ?_
        refine own_goto X341 hx (pc' := 187) (hb hby at_183) (by decide) (by decide) ?_
        refine own_retN X341 hx hlk hret (by simp) (hb hby at_187) (by decide) (by decide) ?_
        exact ⟨rfl, N342⟩
  · rw [hk]
    refine own_iloadN X0 hx (pc' := 9) (hb hby at_8) rfl rfl ?_
    refine own_callS X0 hx (pc' := 12) hZ hown (Wd1 hw) (Wd2 hw) (Wd3 hw) (Wd4 hw) (by decide) (rm_field l Z a0 hw [] (6 : Int32) r_SECOND r_MINUTE r_HOUR r_DAY_OF_MONTH r_MONTH r_DAY_OF_WEEK r_YEAR h0 n0 Z0 S_r_SECOND S_r_DAY_OF_MONTH S_r_MINUTE S_r_MONTH S_r_YEAR S_r_DAY_OF_WEEK S_r_HOUR) e0 0 (by decide) (by decide) (by decide) (by decide) [(.int (6 : Int32))] [] (by rw [hml]; rfl) (lenOf pd_7 rfl) rfl rfl (Nat.le_of_eq rfl) (hb hby at_9) rfl (fun v343 T343 L343 X343 hQ343 => ?_)
    obtain ⟨hv343, Nq343, e343⟩ := hQ343
    have N344 := Fr.app N0 Nq343
    rw [show own_field (6 : Int32) r_SECOND r_MINUTE r_HOUR r_DAY_OF_MONTH r_MONTH r_DAY_OF_WEEK r_YEAR = r_YEAR from rfl] at hv343
    subst hv343
    show own_G p.tables e below _ T343 (mkF m 12 #[.val (.int p0), .val (.int p1), .val (.int (6 : Int32)), .unset, .unset, .unset, .unset, .unset, .unset, .unset, .unset] [(.ref r_YEAR)])
    refine own_astoreN X343 hx (pc' := 13) (Ls' := #[.val (.int p0), .val (.int p1), .val (.int (6 : Int32)), .val (.ref r_YEAR), .unset, .unset, .unset, .unset, .unset, .unset, .unset]) (hb hby at_12) rfl rfl rfl ?_
    refine own_iloadN X343 hx (pc' := 14) (hb hby at_13) rfl rfl ?_
    refine own_callS X343 hx (pc' := 17) hZ hown (Wd8 hw) (Wd9 hw) (Wd3 hw) (Wd10 hw) (by decide) (rm_low l Z a0 hw [] (6 : Int32) h0 n0 Z0) e343 0 (by decide) (by decide) (by decide) (by decide) [(.int (6 : Int32))] [] (by rw [hml]; rfl) (lenOf pd_0 rfl) rfl rfl (Nat.le_of_eq rfl) (hb hby at_14) rfl (fun v345 T345 L345 X345 hQ345 => ?_)
    obtain ⟨rfl, Nq345, e345⟩ := hQ345
    have N346 := Fr.app N344 Nq345
    show own_G p.tables e below _ T345 (mkF m 17 #[.val (.int p0), .val (.int p1), .val (.int (6 : Int32)), .val (.ref r_YEAR), .unset, .unset, .unset, .unset, .unset, .unset, .unset] [(.int (own_lowk (6 : Int32)))])
    rw [show own_lowk (6 : Int32) = (1970 : Int32) from by decide]
    refine own_istore X345 hx (pc' := 19) (Ls' := #[.val (.int p0), .val (.int p1), .val (.int (6 : Int32)), .val (.ref r_YEAR), .val (.int (1970 : Int32)), .unset, .unset, .unset, .unset, .unset, .unset]) (hb hby at_17) rfl rfl ?_
    refine own_iloadN X345 hx (pc' := 20) (hb hby at_19) rfl rfl ?_
    refine own_callS X345 hx (pc' := 23) hZ hown (Wd11 hw) (Wd12 hw) (Wd3 hw) (Wd13 hw) (by decide) (rm_high l Z a0 hw [] (6 : Int32) h0 n0 Z0) e345 0 (by decide) (by decide) (by decide) (by decide) [(.int (6 : Int32))] [] (by rw [hml]; rfl) (lenOf pd_0 rfl) rfl rfl (Nat.le_of_eq rfl) (hb hby at_20) rfl (fun v347 T347 L347 X347 hQ347 => ?_)
    obtain ⟨rfl, Nq347, e347⟩ := hQ347
    have N348 := Fr.app N346 Nq347
    show own_G p.tables e below _ T347 (mkF m 23 #[.val (.int p0), .val (.int p1), .val (.int (6 : Int32)), .val (.ref r_YEAR), .val (.int (1970 : Int32)), .unset, .unset, .unset, .unset, .unset, .unset] [(.int (own_highk (6 : Int32)))])
    rw [show own_highk (6 : Int32) = (2099 : Int32) from by decide]
    refine own_istore X347 hx (pc' := 25) (Ls' := #[.val (.int p0), .val (.int p1), .val (.int (6 : Int32)), .val (.ref r_YEAR), .val (.int (1970 : Int32)), .val (.int (2099 : Int32)), .unset, .unset, .unset, .unset, .unset]) (hb hby at_23) rfl rfl ?_
    refine own_aloadN X347 hx (pc' := 26) (hb hby at_25) rfl rfl rfl ?_
    refine own_callV X347 hx (pc' := 29) hZ hown (Wd14 hw) (Wd16 hw) (Wd17 hw) (Wd18 hw) (Wd6 hw) (by decide) (rm_a33 l Z a0 hw [] r_YEAR h0 n0 Z0 F_r_YEAR_min F_r_YEAR_max B_ad) e347 E_r_YEAR 0 (by decide) (by decide) (by decide) (by decide) [] [] (by rw [hml]; rfl) (lenOf pd_8 rfl) rfl rfl (Nat.le_of_eq rfl) (hb hby at_26) rfl (fun v349 T349 L349 X349 hQ349 => ?_)
    obtain ⟨Nq349, K349, bs, wa, rfl, G0_349, G1_349, G2_349, G3_349⟩ := hQ349
    have N350 := Fr.app N348 Nq349
    have Z351 : n0 ≤ T349.heap.size := Nat.le_trans Z0 K349.1
    have F352 := (B_ad.keep K349 (fun x hx => absurd hx List.not_mem_nil))
    show own_G p.tables e below _ T349 (mkF m 29 #[.val (.int p0), .val (.int p1), .val (.int (6 : Int32)), .val (.ref r_YEAR), .val (.int (1970 : Int32)), .val (.int (2099 : Int32)), .unset, .unset, .unset, .unset, .unset] [(.ref bs)])
    refine own_astore X349 hx (pc' := 31) (Ls' := #[.val (.int p0), .val (.int p1), .val (.int (6 : Int32)), .val (.ref r_YEAR), .val (.int (1970 : Int32)), .val (.int (2099 : Int32)), .val (.ref bs), .unset, .unset, .unset, .unset]) (hb hby at_29) rfl rfl rfl ?_
    refine own_iloadN X349 hx (pc' := 32) (hb hby at_31) rfl rfl ?_
    refine own_sipush X349 hx (pc' := 35) (4095 : Int32) (hb hby at_32) rfl rfl ?_
    refine own_iand X349 hx (pc' := 36) (hb hby at_35) rfl rfl ?_
    obtain ⟨P, hP, eP⟩ : ∃ A : Nat, A < 4096 ∧ (p1 &&& (4095 : Int32)) = Int32.ofNat A := own_m12 p1
    rw [eP]
    refine own_istore X349 hx (pc' := 38) (Ls' := #[.val (.int p0), .val (.int p1), .val (.int (6 : Int32)), .val (.ref r_YEAR), .val (.int (1970 : Int32)), .val (.int (2099 : Int32)), .val (.ref bs), .val (.int (Int32.ofNat P)), .unset, .unset, .unset]) (hb hby at_36) rfl rfl ?_
    refine own_iload X349 hx (pc' := 40) (hb hby at_38) rfl rfl ?_
    refine own_iload X349 hx (pc' := 42) (hb hby at_40) rfl rfl ?_
    by_cases hc42_353 : (Int32.ofNat P) < (1970 : Int32)
    · skip
      refine own_icmpYes X349 hx (pc' := 56) (hb hby at_42) (tlt hc42_353).2.2.1 (by decide) (by decide) ?_
      refine own_iconst X349 hx (pc' := 57) (0 : Int32) (hb hby at_56) rfl rfl ?_
      refine own_istore X349 hx (pc' := 59) (Ls' := #[.val (.int p0), .val (.int p1), .val (.int (6 : Int32)), .val (.ref r_YEAR), .val (.int (1970 : Int32)), .val (.int (2099 : Int32)), .val (.ref bs), .val (.int (Int32.ofNat P)), .val (.int (0 : Int32)), .unset, .unset]) (hb hby at_57) rfl rfl ?_
      refine own_aload X349 hx (pc' := 61) (hb hby at_59) rfl rfl rfl ?_
      refine own_iconst X349 hx (pc' := 62) (0 : Int32) (hb hby at_61) rfl rfl ?_
      refine own_callV X349 hx (pc' := 65) hZ hown (Wd72 hw) (Wd74 hw) (Wd75 hw) (Wd76 hw) (Wd21 hw) (by decide) (rm_nsb l Z a0 hw [] bs wa 33 33 own_bitsY  T349.heap n0 Z351 (by decide) (by decide) (by decide) G0_349 G1_349 G2_349 G3_349 F352) rfl G0_349 0 (by decide) (by decide) (by decide) (by decide) [(.int (0 : Int32))] [] (by rw [hml]; rfl) (lenOf pd_0 rfl) rfl rfl (Nat.le_of_eq rfl) (hb hby at_62) rfl (fun v354 T354 L354 X354 hQ354 => ?_)
      obtain ⟨rfl, Nq354, e354⟩ := hQ354
      have N355 := Fr.app N350 Nq354
      show own_G p.tables e below _ T354 (mkF m 65 #[.val (.int p0), .val (.int p1), .val (.int (6 : Int32)), .val (.ref r_YEAR), .val (.int (1970 : Int32)), .val (.int (2099 : Int32)), .val (.ref bs), .val (.int (Int32.ofNat P)), .val (.int (0 : Int32)), .unset, .unset] [(.int (own_nsb own_bitsY 33))])
      rw [own_vn_1970_2099]
      refine own_iload X354 hx (pc' := 67) (hb hby at_65) rfl rfl ?_
      refine own_icmpNo X354 hx (pc' := 70) (hb hby at_67) (teq rfl).2 rfl ?_
      refine own_aload X354 hx (pc' := 72) (hb hby at_70) rfl rfl rfl ?_
      refine own_callV X354 hx (pc' := 75) hZ hown (Wd85 hw) (Wd87 hw) (Wd88 hw) (Wd89 hw) (Wd21 hw) (by decide) (rm_len l Z a0 hw [] bs wa 33 33 own_bitsY  T349.heap n0 Z351 (by decide) (by decide) (by decide) G0_349 G1_349 G2_349 G3_349 ) e354 G0_349 0 (by decide) (by decide) (by decide) (by decide) [] [] (by rw [hml]; rfl) (lenOf pd_9 rfl) rfl rfl (Nat.le_of_eq rfl) (hb hby at_72) rfl (fun v356 T356 L356 X356 hQ356 => ?_)
      obtain ⟨rfl, Nq356, e356⟩ := hQ356
      have N357 := Fr.app N355 Nq356
      show own_G p.tables e below _ T356 (mkF m 75 #[.val (.int p0), .val (.int p1), .val (.int (6 : Int32)), .val (.ref r_YEAR), .val (.int (1970 : Int32)), .val (.int (2099 : Int32)), .val (.ref bs), .val (.int (Int32.ofNat P)), .val (.int (0 : Int32)), .unset, .unset] [(.int (own_blen own_bitsY 33))])
      rw [own_vl_1970_2099]
      refine own_iload X356 hx (pc' := 77) (hb hby at_75) rfl rfl ?_
      refine own_iconst X356 hx (pc' := 78) (1 : Int32) (hb hby at_77) rfl rfl ?_
      refine own_iadd X356 hx (pc' := 79) (z := (2100 : Int32)) (hb hby at_78) (by decide) rfl ?_
      refine own_icmpNo X356 hx (pc' := 82) (hb hby at_79) (teq rfl).2 rfl ?_
      refine own_aload X356 hx (pc' := 84) (hb hby at_82) rfl rfl rfl ?_
      refine own_callV X356 hx (pc' := 87) hZ hown (Wd97 hw) (Wd99 hw) (Wd100 hw) (Wd101 hw) (Wd21 hw) (by decide) (rm_card l Z a0 hw [] bs wa 33 33 own_bitsY  T349.heap n0 Z351 (by decide) (by decide) (by decide) G0_349 G1_349 G2_349 G3_349 ) e356 G0_349 0 (by decide) (by decide) (by decide) (by decide) [] [] (by rw [hml]; rfl) (lenOf pd_9 rfl) rfl rfl (Nat.le_of_eq rfl) (hb hby at_84) rfl (fun v358 T358 L358 X358 hQ358 => ?_)
      obtain ⟨rfl, Nq358, e358⟩ := hQ358
      have N359 := Fr.app N357 Nq358
      show own_G p.tables e below _ T358 (mkF m 87 #[.val (.int p0), .val (.int p1), .val (.int (6 : Int32)), .val (.ref r_YEAR), .val (.int (1970 : Int32)), .val (.int (2099 : Int32)), .val (.ref bs), .val (.int (Int32.ofNat P)), .val (.int (0 : Int32)), .unset, .unset] [(.int (own_card own_bitsY 33 0 (0 : Int32)))])
      rw [own_vc_1970_2099]
      refine own_iload X358 hx (pc' := 89) (hb hby at_87) rfl rfl ?_
      refine own_iload X358 hx (pc' := 91) (hb hby at_89) rfl rfl ?_
      refine own_isub X358 hx (pc' := 92) (z := (129 : Int32)) (hb hby at_91) (by decide) rfl ?_
      refine own_iconst X358 hx (pc' := 93) (1 : Int32) (hb hby at_92) rfl rfl ?_
      refine own_iadd X358 hx (pc' := 94) (z := (130 : Int32)) (hb hby at_93) (by decide) rfl ?_
      refine own_icmpNo X358 hx (pc' := 97) (hb hby at_94) (teq rfl).2 rfl ?_
      refine own_iconst X358 hx (pc' := 98) (1 : Int32) (hb hby at_97) rfl rfl ?_
      refine own_goto X358 hx (pc' := 102) (hb hby at_98) (by decide) (by decide) ?_
      refine own_istore X358 hx (pc' := 104) (Ls' := #[.val (.int p0), .val (.int p1), .val (.int (6 : Int32)), .val (.ref r_YEAR), .val (.int (1970 : Int32)), .val (.int (2099 : Int32)), .val (.ref bs), .val (.int (Int32.ofNat P)), .val (.int (0 : Int32)), .val (.int (1 : Int32)), .unset]) (hb hby at_102) rfl rfl ?_
      refine own_aload X358 hx (pc' := 106) (hb hby at_104) rfl rfl rfl ?_
      refine own_iload X358 hx (pc' := 108) (hb hby at_106) rfl rfl ?_
      refine own_callV X358 hx (pc' := 111) hZ hown (Wd108 hw) (Wd110 hw) (Wd111 hw) (Wd112 hw) (Wd21 hw) (by decide) (rm_get l Z a0 hw [] bs wa 33 33 own_bitsY (1970 : Int32) 30 T349.heap n0 Z351 (by decide) (by decide) (by decide) G0_349 G1_349 G2_349 G3_349 F352 (by decide) (by decide) (by decide)) e358 G0_349 0 (by decide) (by decide) (by decide) (by decide) [(.int (1970 : Int32))] [] (by rw [hml]; rfl) (lenOf pd_10 rfl) rfl rfl (Nat.le_of_eq rfl) (hb hby at_108) rfl (fun v360 T360 L360 X360 hQ360 => ?_)
      obtain ⟨rfl, Nq360, e360⟩ := hQ360
      have N361 := Fr.app N359 Nq360
      show own_G p.tables e below _ T360 (mkF m 111 #[.val (.int p0), .val (.int p1), .val (.int (6 : Int32)), .val (.ref r_YEAR), .val (.int (1970 : Int32)), .val (.int (2099 : Int32)), .val (.ref bs), .val (.int (Int32.ofNat P)), .val (.int (0 : Int32)), .val (.int (1 : Int32)), .unset] [(.int (own_get own_bitsY 33 30 (1970 : Int32)))])
      rw [own_vg_1970_2099_1970]
      refine own_ifNo X360 hx (pc' := 114) (hb hby at_111) (feq (by decide : ¬ ((1 : Int32) = (0 : Int32)))).1 rfl ?_
      refine own_aload X360 hx (pc' := 116) (hb hby at_114) rfl rfl rfl ?_
      refine own_iload X360 hx (pc' := 118) (hb hby at_116) rfl rfl ?_
      refine own_callV X360 hx (pc' := 121) hZ hown (Wd108 hw) (Wd110 hw) (Wd111 hw) (Wd112 hw) (Wd21 hw) (by decide) (rm_get l Z a0 hw [] bs wa 33 33 own_bitsY (2099 : Int32) 32 T349.heap n0 Z351 (by decide) (by decide) (by decide) G0_349 G1_349 G2_349 G3_349 F352 (by decide) (by decide) (by decide)) e360 G0_349 0 (by decide) (by decide) (by decide) (by decide) [(.int (2099 : Int32))] [] (by rw [hml]; rfl) (lenOf pd_10 rfl) rfl rfl (Nat.le_of_eq rfl) (hb hby at_118) rfl (fun v362 T362 L362 X362 hQ362 => ?_)
      obtain ⟨rfl, Nq362, e362⟩ := hQ362
      have N363 := Fr.app N361 Nq362
      show own_G p.tables e below _ T362 (mkF m 121 #[.val (.int p0), .val (.int p1), .val (.int (6 : Int32)), .val (.ref r_YEAR), .val (.int (1970 : Int32)), .val (.int (2099 : Int32)), .val (.ref bs), .val (.int (Int32.ofNat P)), .val (.int (0 : Int32)), .val (.int (1 : Int32)), .unset] [(.int (own_get own_bitsY 33 32 (2099 : Int32)))])
      rw [own_vg_1970_2099_2099]
      refine own_ifNo X362 hx (pc' := 124) (hb hby at_121) (feq (by decide : ¬ ((1 : Int32) = (0 : Int32)))).1 rfl ?_
      refine own_iload X362 hx (pc' := 126) (hb hby at_124) rfl rfl ?_
      refine own_ifNo X362 hx (pc' := 129) (hb hby at_126) (feq (by decide : ¬ ((1970 : Int32) = (0 : Int32)))).1 rfl ?_
      refine own_aload X362 hx (pc' := 131) (hb hby at_129) rfl rfl rfl ?_
      refine own_iload X362 hx (pc' := 133) (hb hby at_131) rfl rfl ?_
      refine own_iconst X362 hx (pc' := 134) (1 : Int32) (hb hby at_133) rfl rfl ?_
      refine own_isub X362 hx (pc' := 135) (z := (1969 : Int32)) (hb hby at_134) (by decide) rfl ?_
      refine own_callV X362 hx (pc' := 138) hZ hown (Wd108 hw) (Wd110 hw) (Wd111 hw) (Wd112 hw) (Wd21 hw) (by decide) (rm_get l Z a0 hw [] bs wa 33 33 own_bitsY (1969 : Int32) 30 T349.heap n0 Z351 (by decide) (by decide) (by decide) G0_349 G1_349 G2_349 G3_349 F352 (by decide) (by decide) (by decide)) e362 G0_349 0 (by decide) (by decide) (by decide) (by decide) [(.int (1969 : Int32))] [] (by rw [hml]; rfl) (lenOf pd_10 rfl) rfl rfl (Nat.le_of_eq rfl) (hb hby at_135) rfl (fun v364 T364 L364 X364 hQ364 => ?_)
      obtain ⟨rfl, Nq364, e364⟩ := hQ364
      have N365 := Fr.app N363 Nq364
      show own_G p.tables e below _ T364 (mkF m 138 #[.val (.int p0), .val (.int p1), .val (.int (6 : Int32)), .val (.ref r_YEAR), .val (.int (1970 : Int32)), .val (.int (2099 : Int32)), .val (.ref bs), .val (.int (Int32.ofNat P)), .val (.int (0 : Int32)), .val (.int (1 : Int32)), .unset] [(.int (own_get own_bitsY 33 30 (1969 : Int32)))])
      rw [own_vg_1970_2099_1969]
      refine own_ifNo X364 hx (pc' := 141) (hb hby at_138) (teq rfl).2 rfl ?_
      refine own_aload X364 hx (pc' := 143) (hb hby at_141) rfl rfl rfl ?_
      refine own_iload X364 hx (pc' := 145) (hb hby at_143) rfl rfl ?_
      refine own_iconst X364 hx (pc' := 146) (1 : Int32) (hb hby at_145) rfl rfl ?_
      refine own_iadd X364 hx (pc' := 147) (z := (2100 : Int32)) (hb hby at_146) (by decide) rfl ?_
      refine own_callV X364 hx (pc' := 150) hZ hown (Wd108 hw) (Wd110 hw) (Wd111 hw) (Wd112 hw) (Wd21 hw) (by decide) (rm_get l Z a0 hw [] bs wa 33 33 own_bitsY (2100 : Int32) 32 T349.heap n0 Z351 (by decide) (by decide) (by decide) G0_349 G1_349 G2_349 G3_349 F352 (by decide) (by decide) (by decide)) e364 G0_349 0 (by decide) (by decide) (by decide) (by decide) [(.int (2100 : Int32))] [] (by rw [hml]; rfl) (lenOf pd_10 rfl) rfl rfl (Nat.le_of_eq rfl) (hb hby at_147) rfl (fun v366 T366 L366 X366 hQ366 => ?_)
      obtain ⟨rfl, Nq366, e366⟩ := hQ366
      have N367 := Fr.app N365 Nq366
      show own_G p.tables e below _ T366 (mkF m 150 #[.val (.int p0), .val (.int p1), .val (.int (6 : Int32)), .val (.ref r_YEAR), .val (.int (1970 : Int32)), .val (.int (2099 : Int32)), .val (.ref bs), .val (.int (Int32.ofNat P)), .val (.int (0 : Int32)), .val (.int (1 : Int32)), .unset] [(.int (own_get own_bitsY 33 32 (2100 : Int32)))])
      rw [own_vg_1970_2099_2100]
      refine own_ifNo X366 hx (pc' := 153) (hb hby at_150) (teq rfl).2 rfl ?_
      refine own_iconst X366 hx (pc' := 154) (1 : Int32) (hb hby at_153) rfl rfl ?_
      refine own_goto X366 hx (pc' := 158) (hb hby at_154) (by decide) (by decide) ?_
      refine own_istore X366 hx (pc' := 160) (Ls' := #[.val (.int p0), .val (.int p1), .val (.int (6 : Int32)), .val (.ref r_YEAR), .val (.int (1970 : Int32)), .val (.int (2099 : Int32)), .val (.ref bs), .val (.int (Int32.ofNat P)), .val (.int (0 : Int32)), .val (.int (1 : Int32)), .val (.int (1 : Int32))]) (hb hby at_158) rfl rfl ?_
      refine own_iload X366 hx (pc' := 162) (hb hby at_160) rfl rfl ?_
      refine own_ifNo X366 hx (pc' := 165) (hb hby at_162) (feq (by decide : ¬ ((1 : Int32) = (0 : Int32)))).1 rfl ?_
      refine own_iload X366 hx (pc' := 167) (hb hby at_165) rfl rfl ?_
      refine own_ifNo X366 hx (pc' := 170) (hb hby at_167) (feq (by decide : ¬ ((1 : Int32) = (0 : Int32)))).1 rfl ?_
      refine own_aload X366 hx (pc' := 172) (hb hby at_170) rfl rfl rfl ?_
      refine own_iload X366 hx (pc' := 174) (hb hby at_172) rfl rfl ?_
      refine own_callV X366 hx (pc' := 177) hZ hown (Wd108 hw) (Wd110 hw) (Wd111 hw) (Wd112 hw) (Wd21 hw) (by decide) (rm_get l Z a0 hw [] bs wa 33 33 own_bitsY (Int32.ofNat P) (P / 64) T349.heap n0 Z351 (by decide) (by decide) (by decide) G0_349 G1_349 G2_349 G3_349 F352 (own_clamp (n := P) (by omega)).1 (own_wiP P hP) (by omega)) e366 G0_349 0 (by decide) (by decide) (by decide) (by decide) [(.int (Int32.ofNat P))] [] (by rw [hml]; rfl) (lenOf pd_10 rfl) rfl rfl (Nat.le_of_eq rfl) (hb hby at_174) rfl (fun v368 T368 L368 X368 hQ368 => ?_)
      obtain ⟨rfl, Nq368, e368⟩ := hQ368
      have N369 := Fr.app N367 Nq368
      show own_G p.tables e below _ T368 (mkF m 177 #[.val (.int p0), .val (.int p1), .val (.int (6 : Int32)), .val (.ref r_YEAR), .val (.int (1970 : Int32)), .val (.int (2099 : Int32)), .val (.ref bs), .val (.int (Int32.ofNat P)), .val (.int (0 : Int32)), .val (.int (1 : Int32)), .val (.int (1 : Int32))] [(.int (own_get own_bitsY 33 (P / 64) (Int32.ofNat P)))])
      rw [own_vP_1970_2099 P hP, if_pos hc42_353]
      refine own_iload X368 hx (pc' := 179) (hb hby at_177) rfl rfl ?_
      refine own_icmpNo X368 hx (pc' := 182) (hb hby at_179) (teq rfl).2 rfl ?_
      refine own_iconst X368 hx (pc' := 183) (1 : Int32) (hb hby at_182) rfl rfl ?_
      refine own_goto X368 hx (pc' := 187) (hb hby at_183) (by decide) (by decide) ?_
      refine own_retN X368 hx hlk hret (by simp) (hb hby at_187) (by decide) (by decide) ?_
      exact ⟨rfl, N369⟩
    · skip
      refine own_icmpNo X349 hx (pc' := 45) (hb hby at_42) (flt hc42_353).2.2.1 rfl ?_
      refine own_iload X349 hx (pc' := 47) (hb hby at_45) rfl rfl ?_
      refine own_iload X349 hx (pc' := 49) (hb hby at_47) rfl rfl ?_
      by_cases hc49_370 : (2099 : Int32) < (Int32.ofNat P)
      · skip
        refine own_icmpYes X349 hx (pc' := 56) (hb hby at_49) (tlt hc49_370).2.2.1 (by decide) (by decide) ?_
        refine own_iconst X349 hx (pc' := 57) (0 : Int32) (hb hby at_56) rfl rfl ?_
        refine own_istore X349 hx (pc' := 59) (Ls' := #[.val (.int p0), .val (.int p1), .val (.int (6 : Int32)), .val (.ref r_YEAR), .val (.int (1970 : Int32)), .val (.int (2099 : Int32)), .val (.ref bs), .val (.int (Int32.ofNat P)), .val (.int (0 : Int32)), .unset, .unset]) (hb hby at_57) rfl rfl ?_
        refine own_aload X349 hx (pc' := 61) (hb hby at_59) rfl rfl rfl ?_
        refine own_iconst X349 hx (pc' := 62) (0 : Int32) (hb hby at_61) rfl rfl ?_
        refine own_callV X349 hx (pc' := 65) hZ hown (Wd72 hw) (Wd74 hw) (Wd75 hw) (Wd76 hw) (Wd21 hw) (by decide) (rm_nsb l Z a0 hw [] bs wa 33 33 own_bitsY  T349.heap n0 Z351 (by decide) (by decide) (by decide) G0_349 G1_349 G2_349 G3_349 F352) rfl G0_349 0 (by decide) (by decide) (by decide) (by decide) [(.int (0 : Int32))] [] (by rw [hml]; rfl) (lenOf pd_0 rfl) rfl rfl (Nat.le_of_eq rfl) (hb hby at_62) rfl (fun v371 T371 L371 X371 hQ371 => ?_)
        obtain ⟨rfl, Nq371, e371⟩ := hQ371
        have N372 := Fr.app N350 Nq371
        show own_G p.tables e below _ T371 (mkF m 65 #[.val (.int p0), .val (.int p1), .val (.int (6 : Int32)), .val (.ref r_YEAR), .val (.int (1970 : Int32)), .val (.int (2099 : Int32)), .val (.ref bs), .val (.int (Int32.ofNat P)), .val (.int (0 : Int32)), .unset, .unset] [(.int (own_nsb own_bitsY 33))])
        rw [own_vn_1970_2099]
        refine own_iload X371 hx (pc' := 67) (hb hby at_65) rfl rfl ?_
        refine own_icmpNo X371 hx (pc' := 70) (hb hby at_67) (teq rfl).2 rfl ?_
        refine own_aload X371 hx (pc' := 72) (hb hby at_70) rfl rfl rfl ?_
        refine own_callV X371 hx (pc' := 75) hZ hown (Wd85 hw) (Wd87 hw) (Wd88 hw) (Wd89 hw) (Wd21 hw) (by decide) (rm_len l Z a0 hw [] bs wa 33 33 own_bitsY  T349.heap n0 Z351 (by decide) (by decide) (by decide) G0_349 G1_349 G2_349 G3_349 ) e371 G0_349 0 (by decide) (by decide) (by decide) (by decide) [] [] (by rw [hml]; rfl) (lenOf pd_9 rfl) rfl rfl (Nat.le_of_eq rfl) (hb hby at_72) rfl (fun v373 T373 L373 X373 hQ373 => ?_)
        obtain ⟨rfl, Nq373, e373⟩ := hQ373
        have N374 := Fr.app N372 Nq373
        show own_G p.tables e below _ T373 (mkF m 75 #[.val (.int p0), .val (.int p1), .val (.int (6 : Int32)), .val (.ref r_YEAR), .val (.int (1970 : Int32)), .val (.int (2099 : Int32)), .val (.ref bs), .val (.int (Int32.ofNat P)), .val (.int (0 : Int32)), .unset, .unset] [(.int (own_blen own_bitsY 33))])
        rw [own_vl_1970_2099]
        refine own_iload X373 hx (pc' := 77) (hb hby at_75) rfl rfl ?_
        refine own_iconst X373 hx (pc' := 78) (1 : Int32) (hb hby at_77) rfl rfl ?_
        refine own_iadd X373 hx (pc' := 79) (z := (2100 : Int32)) (hb hby at_78) (by decide) rfl ?_
        refine own_icmpNo X373 hx (pc' := 82) (hb hby at_79) (teq rfl).2 rfl ?_
        refine own_aload X373 hx (pc' := 84) (hb hby at_82) rfl rfl rfl ?_
        refine own_callV X373 hx (pc' := 87) hZ hown (Wd97 hw) (Wd99 hw) (Wd100 hw) (Wd101 hw) (Wd21 hw) (by decide) (rm_card l Z a0 hw [] bs wa 33 33 own_bitsY  T349.heap n0 Z351 (by decide) (by decide) (by decide) G0_349 G1_349 G2_349 G3_349 ) e373 G0_349 0 (by decide) (by decide) (by decide) (by decide) [] [] (by rw [hml]; rfl) (lenOf pd_9 rfl) rfl rfl (Nat.le_of_eq rfl) (hb hby at_84) rfl (fun v375 T375 L375 X375 hQ375 => ?_)
        obtain ⟨rfl, Nq375, e375⟩ := hQ375
        have N376 := Fr.app N374 Nq375
        show own_G p.tables e below _ T375 (mkF m 87 #[.val (.int p0), .val (.int p1), .val (.int (6 : Int32)), .val (.ref r_YEAR), .val (.int (1970 : Int32)), .val (.int (2099 : Int32)), .val (.ref bs), .val (.int (Int32.ofNat P)), .val (.int (0 : Int32)), .unset, .unset] [(.int (own_card own_bitsY 33 0 (0 : Int32)))])
        rw [own_vc_1970_2099]
        refine own_iload X375 hx (pc' := 89) (hb hby at_87) rfl rfl ?_
        refine own_iload X375 hx (pc' := 91) (hb hby at_89) rfl rfl ?_
        refine own_isub X375 hx (pc' := 92) (z := (129 : Int32)) (hb hby at_91) (by decide) rfl ?_
        refine own_iconst X375 hx (pc' := 93) (1 : Int32) (hb hby at_92) rfl rfl ?_
        refine own_iadd X375 hx (pc' := 94) (z := (130 : Int32)) (hb hby at_93) (by decide) rfl ?_
        refine own_icmpNo X375 hx (pc' := 97) (hb hby at_94) (teq rfl).2 rfl ?_
        refine own_iconst X375 hx (pc' := 98) (1 : Int32) (hb hby at_97) rfl rfl ?_
        refine own_goto X375 hx (pc' := 102) (hb hby at_98) (by decide) (by decide) ?_
        refine own_istore X375 hx (pc' := 104) (Ls' := #[.val (.int p0), .val (.int p1), .val (.int (6 : Int32)), .val (.ref r_YEAR), .val (.int (1970 : Int32)), .val (.int (2099 : Int32)), .val (.ref bs), .val (.int (Int32.ofNat P)), .val (.int (0 : Int32)), .val (.int (1 : Int32)), .unset]) (hb hby at_102) rfl rfl ?_
        refine own_aload X375 hx (pc' := 106) (hb hby at_104) rfl rfl rfl ?_
        refine own_iload X375 hx (pc' := 108) (hb hby at_106) rfl rfl ?_
        refine own_callV X375 hx (pc' := 111) hZ hown (Wd108 hw) (Wd110 hw) (Wd111 hw) (Wd112 hw) (Wd21 hw) (by decide) (rm_get l Z a0 hw [] bs wa 33 33 own_bitsY (1970 : Int32) 30 T349.heap n0 Z351 (by decide) (by decide) (by decide) G0_349 G1_349 G2_349 G3_349 F352 (by decide) (by decide) (by decide)) e375 G0_349 0 (by decide) (by decide) (by decide) (by decide) [(.int (1970 : Int32))] [] (by rw [hml]; rfl) (lenOf pd_10 rfl) rfl rfl (Nat.le_of_eq rfl) (hb hby at_108) rfl (fun v377 T377 L377 X377 hQ377 => ?_)
        obtain ⟨rfl, Nq377, e377⟩ := hQ377
        have N378 := Fr.app N376 Nq377
        show own_G p.tables e below _ T377 (mkF m 111 #[.val (.int p0), .val (.int p1), .val (.int (6 : Int32)), .val (.ref r_YEAR), .val (.int (1970 : Int32)), .val (.int (2099 : Int32)), .val (.ref bs), .val (.int (Int32.ofNat P)), .val (.int (0 : Int32)), .val (.int (1 : Int32)), .unset] [(.int (own_get own_bitsY 33 30 (1970 : Int32)))])
        rw [own_vg_1970_2099_1970]
        refine own_ifNo X377 hx (pc' := 114) (hb hby at_111) (feq (by decide : ¬ ((1 : Int32) = (0 : Int32)))).1 rfl ?_
        refine own_aload X377 hx (pc' := 116) (hb hby at_114) rfl rfl rfl ?_
        refine own_iload X377 hx (pc' := 118) (hb hby at_116) rfl rfl ?_
        refine own_callV X377 hx (pc' := 121) hZ hown (Wd108 hw) (Wd110 hw) (Wd111 hw) (Wd112 hw) (Wd21 hw) (by decide) (rm_get l Z a0 hw [] bs wa 33 33 own_bitsY (2099 : Int32) 32 T349.heap n0 Z351 (by decide) (by decide) (by decide) G0_349 G1_349 G2_349 G3_349 F352 (by decide) (by decide) (by decide)) e377 G0_349 0 (by decide) (by decide) (by decide) (by decide) [(.int (2099 : Int32))] [] (by rw [hml]; rfl) (lenOf pd_10 rfl) rfl rfl (Nat.le_of_eq rfl) (hb hby at_118) rfl (fun v379 T379 L379 X379 hQ379 => ?_)
        obtain ⟨rfl, Nq379, e379⟩ := hQ379
        have N380 := Fr.app N378 Nq379
        show own_G p.tables e below _ T379 (mkF m 121 #[.val (.int p0), .val (.int p1), .val (.int (6 : Int32)), .val (.ref r_YEAR), .val (.int (1970 : Int32)), .val (.int (2099 : Int32)), .val (.ref bs), .val (.int (Int32.ofNat P)), .val (.int (0 : Int32)), .val (.int (1 : Int32)), .unset] [(.int (own_get own_bitsY 33 32 (2099 : Int32)))])
        rw [own_vg_1970_2099_2099]
        refine own_ifNo X379 hx (pc' := 124) (hb hby at_121) (feq (by decide : ¬ ((1 : Int32) = (0 : Int32)))).1 rfl ?_
        refine own_iload X379 hx (pc' := 126) (hb hby at_124) rfl rfl ?_
        refine own_ifNo X379 hx (pc' := 129) (hb hby at_126) (feq (by decide : ¬ ((1970 : Int32) = (0 : Int32)))).1 rfl ?_
        refine own_aload X379 hx (pc' := 131) (hb hby at_129) rfl rfl rfl ?_
        refine own_iload X379 hx (pc' := 133) (hb hby at_131) rfl rfl ?_
        refine own_iconst X379 hx (pc' := 134) (1 : Int32) (hb hby at_133) rfl rfl ?_
        refine own_isub X379 hx (pc' := 135) (z := (1969 : Int32)) (hb hby at_134) (by decide) rfl ?_
        refine own_callV X379 hx (pc' := 138) hZ hown (Wd108 hw) (Wd110 hw) (Wd111 hw) (Wd112 hw) (Wd21 hw) (by decide) (rm_get l Z a0 hw [] bs wa 33 33 own_bitsY (1969 : Int32) 30 T349.heap n0 Z351 (by decide) (by decide) (by decide) G0_349 G1_349 G2_349 G3_349 F352 (by decide) (by decide) (by decide)) e379 G0_349 0 (by decide) (by decide) (by decide) (by decide) [(.int (1969 : Int32))] [] (by rw [hml]; rfl) (lenOf pd_10 rfl) rfl rfl (Nat.le_of_eq rfl) (hb hby at_135) rfl (fun v381 T381 L381 X381 hQ381 => ?_)
        obtain ⟨rfl, Nq381, e381⟩ := hQ381
        have N382 := Fr.app N380 Nq381
        show own_G p.tables e below _ T381 (mkF m 138 #[.val (.int p0), .val (.int p1), .val (.int (6 : Int32)), .val (.ref r_YEAR), .val (.int (1970 : Int32)), .val (.int (2099 : Int32)), .val (.ref bs), .val (.int (Int32.ofNat P)), .val (.int (0 : Int32)), .val (.int (1 : Int32)), .unset] [(.int (own_get own_bitsY 33 30 (1969 : Int32)))])
        rw [own_vg_1970_2099_1969]
        refine own_ifNo X381 hx (pc' := 141) (hb hby at_138) (teq rfl).2 rfl ?_
        refine own_aload X381 hx (pc' := 143) (hb hby at_141) rfl rfl rfl ?_
        refine own_iload X381 hx (pc' := 145) (hb hby at_143) rfl rfl ?_
        refine own_iconst X381 hx (pc' := 146) (1 : Int32) (hb hby at_145) rfl rfl ?_
        refine own_iadd X381 hx (pc' := 147) (z := (2100 : Int32)) (hb hby at_146) (by decide) rfl ?_
        refine own_callV X381 hx (pc' := 150) hZ hown (Wd108 hw) (Wd110 hw) (Wd111 hw) (Wd112 hw) (Wd21 hw) (by decide) (rm_get l Z a0 hw [] bs wa 33 33 own_bitsY (2100 : Int32) 32 T349.heap n0 Z351 (by decide) (by decide) (by decide) G0_349 G1_349 G2_349 G3_349 F352 (by decide) (by decide) (by decide)) e381 G0_349 0 (by decide) (by decide) (by decide) (by decide) [(.int (2100 : Int32))] [] (by rw [hml]; rfl) (lenOf pd_10 rfl) rfl rfl (Nat.le_of_eq rfl) (hb hby at_147) rfl (fun v383 T383 L383 X383 hQ383 => ?_)
        obtain ⟨rfl, Nq383, e383⟩ := hQ383
        have N384 := Fr.app N382 Nq383
        show own_G p.tables e below _ T383 (mkF m 150 #[.val (.int p0), .val (.int p1), .val (.int (6 : Int32)), .val (.ref r_YEAR), .val (.int (1970 : Int32)), .val (.int (2099 : Int32)), .val (.ref bs), .val (.int (Int32.ofNat P)), .val (.int (0 : Int32)), .val (.int (1 : Int32)), .unset] [(.int (own_get own_bitsY 33 32 (2100 : Int32)))])
        rw [own_vg_1970_2099_2100]
        refine own_ifNo X383 hx (pc' := 153) (hb hby at_150) (teq rfl).2 rfl ?_
        refine own_iconst X383 hx (pc' := 154) (1 : Int32) (hb hby at_153) rfl rfl ?_
        refine own_goto X383 hx (pc' := 158) (hb hby at_154) (by decide) (by decide) ?_
        refine own_istore X383 hx (pc' := 160) (Ls' := #[.val (.int p0), .val (.int p1), .val (.int (6 : Int32)), .val (.ref r_YEAR), .val (.int (1970 : Int32)), .val (.int (2099 : Int32)), .val (.ref bs), .val (.int (Int32.ofNat P)), .val (.int (0 : Int32)), .val (.int (1 : Int32)), .val (.int (1 : Int32))]) (hb hby at_158) rfl rfl ?_
        refine own_iload X383 hx (pc' := 162) (hb hby at_160) rfl rfl ?_
        refine own_ifNo X383 hx (pc' := 165) (hb hby at_162) (feq (by decide : ¬ ((1 : Int32) = (0 : Int32)))).1 rfl ?_
        refine own_iload X383 hx (pc' := 167) (hb hby at_165) rfl rfl ?_
        refine own_ifNo X383 hx (pc' := 170) (hb hby at_167) (feq (by decide : ¬ ((1 : Int32) = (0 : Int32)))).1 rfl ?_
        refine own_aload X383 hx (pc' := 172) (hb hby at_170) rfl rfl rfl ?_
        refine own_iload X383 hx (pc' := 174) (hb hby at_172) rfl rfl ?_
        refine own_callV X383 hx (pc' := 177) hZ hown (Wd108 hw) (Wd110 hw) (Wd111 hw) (Wd112 hw) (Wd21 hw) (by decide) (rm_get l Z a0 hw [] bs wa 33 33 own_bitsY (Int32.ofNat P) (P / 64) T349.heap n0 Z351 (by decide) (by decide) (by decide) G0_349 G1_349 G2_349 G3_349 F352 (own_clamp (n := P) (by omega)).1 (own_wiP P hP) (by omega)) e383 G0_349 0 (by decide) (by decide) (by decide) (by decide) [(.int (Int32.ofNat P))] [] (by rw [hml]; rfl) (lenOf pd_10 rfl) rfl rfl (Nat.le_of_eq rfl) (hb hby at_174) rfl (fun v385 T385 L385 X385 hQ385 => ?_)
        obtain ⟨rfl, Nq385, e385⟩ := hQ385
        have N386 := Fr.app N384 Nq385
        show own_G p.tables e below _ T385 (mkF m 177 #[.val (.int p0), .val (.int p1), .val (.int (6 : Int32)), .val (.ref r_YEAR), .val (.int (1970 : Int32)), .val (.int (2099 : Int32)), .val (.ref bs), .val (.int (Int32.ofNat P)), .val (.int (0 : Int32)), .val (.int (1 : Int32)), .val (.int (1 : Int32))] [(.int (own_get own_bitsY 33 (P / 64) (Int32.ofNat P)))])
        rw [own_vP_1970_2099 P hP, if_neg hc42_353, if_pos hc49_370]
        refine own_iload X385 hx (pc' := 179) (hb hby at_177) rfl rfl ?_
        refine own_icmpNo X385 hx (pc' := 182) (hb hby at_179) (teq rfl).2 rfl ?_
        refine own_iconst X385 hx (pc' := 183) (1 : Int32) (hb hby at_182) rfl rfl ?_
        refine own_goto X385 hx (pc' := 187) (hb hby at_183) (by decide) (by decide) ?_
        refine own_retN X385 hx hlk hret (by simp) (hb hby at_187) (by decide) (by decide) ?_
        exact ⟨rfl, N386⟩
      · skip
        refine own_icmpNo X349 hx (pc' := 52) (hb hby at_49) (flt hc49_370).2.2.1 rfl ?_
        refine own_iconst X349 hx (pc' := 53) (1 : Int32) (hb hby at_52) rfl rfl ?_
        refine own_goto X349 hx (pc' := 57) (hb hby at_53) (by decide) (by decide) ?_
        refine own_istore X349 hx (pc' := 59) (Ls' := #[.val (.int p0), .val (.int p1), .val (.int (6 : Int32)), .val (.ref r_YEAR), .val (.int (1970 : Int32)), .val (.int (2099 : Int32)), .val (.ref bs), .val (.int (Int32.ofNat P)), .val (.int (1 : Int32)), .unset, .unset]) (hb hby at_57) rfl rfl ?_
        refine own_aload X349 hx (pc' := 61) (hb hby at_59) rfl rfl rfl ?_
        refine own_iconst X349 hx (pc' := 62) (0 : Int32) (hb hby at_61) rfl rfl ?_
        refine own_callV X349 hx (pc' := 65) hZ hown (Wd72 hw) (Wd74 hw) (Wd75 hw) (Wd76 hw) (Wd21 hw) (by decide) (rm_nsb l Z a0 hw [] bs wa 33 33 own_bitsY  T349.heap n0 Z351 (by decide) (by decide) (by decide) G0_349 G1_349 G2_349 G3_349 F352) rfl G0_349 0 (by decide) (by decide) (by decide) (by decide) [(.int (0 : Int32))] [] (by rw [hml]; rfl) (lenOf pd_0 rfl) rfl rfl (Nat.le_of_eq rfl) (hb hby at_62) rfl (fun v387 T387 L387 X387 hQ387 => ?_)
        obtain ⟨rfl, Nq387, e387⟩ := hQ387
        have N388 := Fr.app N350 Nq387
        show own_G p.tables e below _ T387 (mkF m 65 #[.val (.int p0), .val (.int p1), .val (.int (6 : Int32)), .val (.ref r_YEAR), .val (.int (1970 : Int32)), .val (.int (2099 : Int32)), .val (.ref bs), .val (.int (Int32.ofNat P)), .val (.int (1 : Int32)), .unset, .unset] [(.int (own_nsb own_bitsY 33))])
        rw [own_vn_1970_2099]
        refine own_iload X387 hx (pc' := 67) (hb hby at_65) rfl rfl ?_
        refine own_icmpNo X387 hx (pc' := 70) (hb hby at_67) (teq rfl).2 rfl ?_
        refine own_aload X387 hx (pc' := 72) (hb hby at_70) rfl rfl rfl ?_
        refine own_callV X387 hx (pc' := 75) hZ hown (Wd85 hw) (Wd87 hw) (Wd88 hw) (Wd89 hw) (Wd21 hw) (by decide) (rm_len l Z a0 hw [] bs wa 33 33 own_bitsY  T349.heap n0 Z351 (by decide) (by decide) (by decide) G0_349 G1_349 G2_349 G3_349 ) e387 G0_349 0 (by decide) (by decide) (by decide) (by decide) [] [] (by rw [hml]; rfl) (lenOf pd_9 rfl) rfl rfl (Nat.le_of_eq rfl) (hb hby at_72) rfl (fun v389 T389 L389 X389 hQ389 => ?_)
        obtain ⟨rfl, Nq389, e389⟩ := hQ389
        have N390 := Fr.app N388 Nq389
        show own_G p.tables e below _ T389 (mkF m 75 #[.val (.int p0), .val (.int p1), .val (.int (6 : Int32)), .val (.ref r_YEAR), .val (.int (1970 : Int32)), .val (.int (2099 : Int32)), .val (.ref bs), .val (.int (Int32.ofNat P)), .val (.int (1 : Int32)), .unset, .unset] [(.int (own_blen own_bitsY 33))])
        rw [own_vl_1970_2099]
        refine own_iload X389 hx (pc' := 77) (hb hby at_75) rfl rfl ?_
        refine own_iconst X389 hx (pc' := 78) (1 : Int32) (hb hby at_77) rfl rfl ?_
        refine own_iadd X389 hx (pc' := 79) (z := (2100 : Int32)) (hb hby at_78) (by decide) rfl ?_
        refine own_icmpNo X389 hx (pc' := 82) (hb hby at_79) (teq rfl).2 rfl ?_
        refine own_aload X389 hx (pc' := 84) (hb hby at_82) rfl rfl rfl ?_
        refine own_callV X389 hx (pc' := 87) hZ hown (Wd97 hw) (Wd99 hw) (Wd100 hw) (Wd101 hw) (Wd21 hw) (by decide) (rm_card l Z a0 hw [] bs wa 33 33 own_bitsY  T349.heap n0 Z351 (by decide) (by decide) (by decide) G0_349 G1_349 G2_349 G3_349 ) e389 G0_349 0 (by decide) (by decide) (by decide) (by decide) [] [] (by rw [hml]; rfl) (lenOf pd_9 rfl) rfl rfl (Nat.le_of_eq rfl) (hb hby at_84) rfl (fun v391 T391 L391 X391 hQ391 => ?_)
        obtain ⟨rfl, Nq391, e391⟩ := hQ391
        have N392 := Fr.app N390 Nq391
        show own_G p.tables e below _ T391 (mkF m 87 #[.val (.int p0), .val (.int p1), .val (.int (6 : Int32)), .val (.ref r_YEAR), .val (.int (1970 : Int32)), .val (.int (2099 : Int32)), .val (.ref bs), .val (.int (Int32.ofNat P)), .val (.int (1 : Int32)), .unset, .unset] [(.int (own_card own_bitsY 33 0 (0 : Int32)))])
        rw [own_vc_1970_2099]
        refine own_iload X391 hx (pc' := 89) (hb hby at_87) rfl rfl ?_
        refine own_iload X391 hx (pc' := 91) (hb hby at_89) rfl rfl ?_
        refine own_isub X391 hx (pc' := 92) (z := (129 : Int32)) (hb hby at_91) (by decide) rfl ?_
        refine own_iconst X391 hx (pc' := 93) (1 : Int32) (hb hby at_92) rfl rfl ?_
        refine own_iadd X391 hx (pc' := 94) (z := (130 : Int32)) (hb hby at_93) (by decide) rfl ?_
        refine own_icmpNo X391 hx (pc' := 97) (hb hby at_94) (teq rfl).2 rfl ?_
        refine own_iconst X391 hx (pc' := 98) (1 : Int32) (hb hby at_97) rfl rfl ?_
        refine own_goto X391 hx (pc' := 102) (hb hby at_98) (by decide) (by decide) ?_
        refine own_istore X391 hx (pc' := 104) (Ls' := #[.val (.int p0), .val (.int p1), .val (.int (6 : Int32)), .val (.ref r_YEAR), .val (.int (1970 : Int32)), .val (.int (2099 : Int32)), .val (.ref bs), .val (.int (Int32.ofNat P)), .val (.int (1 : Int32)), .val (.int (1 : Int32)), .unset]) (hb hby at_102) rfl rfl ?_
        refine own_aload X391 hx (pc' := 106) (hb hby at_104) rfl rfl rfl ?_
        refine own_iload X391 hx (pc' := 108) (hb hby at_106) rfl rfl ?_
        refine own_callV X391 hx (pc' := 111) hZ hown (Wd108 hw) (Wd110 hw) (Wd111 hw) (Wd112 hw) (Wd21 hw) (by decide) (rm_get l Z a0 hw [] bs wa 33 33 own_bitsY (1970 : Int32) 30 T349.heap n0 Z351 (by decide) (by decide) (by decide) G0_349 G1_349 G2_349 G3_349 F352 (by decide) (by decide) (by decide)) e391 G0_349 0 (by decide) (by decide) (by decide) (by decide) [(.int (1970 : Int32))] [] (by rw [hml]; rfl) (lenOf pd_10 rfl) rfl rfl (Nat.le_of_eq rfl) (hb hby at_108) rfl (fun v393 T393 L393 X393 hQ393 => ?_)
        obtain ⟨rfl, Nq393, e393⟩ := hQ393
        have N394 := Fr.app N392 Nq393
        show own_G p.tables e below _ T393 (mkF m 111 #[.val (.int p0), .val (.int p1), .val (.int (6 : Int32)), .val (.ref r_YEAR), .val (.int (1970 : Int32)), .val (.int (2099 : Int32)), .val (.ref bs), .val (.int (Int32.ofNat P)), .val (.int (1 : Int32)), .val (.int (1 : Int32)), .unset] [(.int (own_get own_bitsY 33 30 (1970 : Int32)))])
        rw [own_vg_1970_2099_1970]
        refine own_ifNo X393 hx (pc' := 114) (hb hby at_111) (feq (by decide : ¬ ((1 : Int32) = (0 : Int32)))).1 rfl ?_
        refine own_aload X393 hx (pc' := 116) (hb hby at_114) rfl rfl rfl ?_
        refine own_iload X393 hx (pc' := 118) (hb hby at_116) rfl rfl ?_
        refine own_callV X393 hx (pc' := 121) hZ hown (Wd108 hw) (Wd110 hw) (Wd111 hw) (Wd112 hw) (Wd21 hw) (by decide) (rm_get l Z a0 hw [] bs wa 33 33 own_bitsY (2099 : Int32) 32 T349.heap n0 Z351 (by decide) (by decide) (by decide) G0_349 G1_349 G2_349 G3_349 F352 (by decide) (by decide) (by decide)) e393 G0_349 0 (by decide) (by decide) (by decide) (by decide) [(.int (2099 : Int32))] [] (by rw [hml]; rfl) (lenOf pd_10 rfl) rfl rfl (Nat.le_of_eq rfl) (hb hby at_118) rfl (fun v395 T395 L395 X395 hQ395 => ?_)
        obtain ⟨rfl, Nq395, e395⟩ := hQ395
        have N396 := Fr.app N394 Nq395
        show own_G p.tables e below _ T395 (mkF m 121 #[.val (.int p0), .val (.int p1), .val (.int (6 : Int32)), .val (.ref r_YEAR), .val (.int (1970 : Int32)), .val (.int (2099 : Int32)), .val (.ref bs), .val (.int (Int32.ofNat P)), .val (.int (1 : Int32)), .val (.int (1 : Int32)), .unset] [(.int (own_get own_bitsY 33 32 (2099 : Int32)))])
        rw [own_vg_1970_2099_2099]
        refine own_ifNo X395 hx (pc' := 124) (hb hby at_121) (feq (by decide : ¬ ((1 : Int32) = (0 : Int32)))).1 rfl ?_
        refine own_iload X395 hx (pc' := 126) (hb hby at_124) rfl rfl ?_
        refine own_ifNo X395 hx (pc' := 129) (hb hby at_126) (feq (by decide : ¬ ((1970 : Int32) = (0 : Int32)))).1 rfl ?_
        refine own_aload X395 hx (pc' := 131) (hb hby at_129) rfl rfl rfl ?_
        refine own_iload X395 hx (pc' := 133) (hb hby at_131) rfl rfl ?_
        refine own_iconst X395 hx (pc' := 134) (1 : Int32) (hb hby at_133) rfl rfl ?_
        refine own_isub X395 hx (pc' := 135) (z := (1969 : Int32)) (hb hby at_134) (by decide) rfl ?_
        refine own_callV X395 hx (pc' := 138) hZ hown (Wd108 hw) (Wd110 hw) (Wd111 hw) (Wd112 hw) (Wd21 hw) (by decide) (rm_get l Z a0 hw [] bs wa 33 33 own_bitsY (1969 : Int32) 30 T349.heap n0 Z351 (by decide) (by decide) (by decide) G0_349 G1_349 G2_349 G3_349 F352 (by decide) (by decide) (by decide)) e395 G0_349 0 (by decide) (by decide) (by decide) (by decide) [(.int (1969 : Int32))] [] (by rw [hml]; rfl) (lenOf pd_10 rfl) rfl rfl (Nat.le_of_eq rfl) (hb hby at_135) rfl (fun v397 T397 L397 X397 hQ397 => ?_)
        obtain ⟨rfl, Nq397, e397⟩ := hQ397
        have N398 := Fr.app N396 Nq397
        show own_G p.tables e below _ T397 (mkF m 138 #[.val (.int p0), .val (.int p1), .val (.int (6 : Int32)), .val (.ref r_YEAR), .val (.int (1970 : Int32)), .val (.int (2099 : Int32)), .val (.ref bs), .val (.int (Int32.ofNat P)), .val (.int (1 : Int32)), .val (.int (1 : Int32)), .unset] [(.int (own_get own_bitsY 33 30 (1969 : Int32)))])
        rw [own_vg_1970_2099_1969]
        refine own_ifNo X397 hx (pc' := 141) (hb hby at_138) (teq rfl).2 rfl ?_
        refine own_aload X397 hx (pc' := 143) (hb hby at_141) rfl rfl rfl ?_
        refine own_iload X397 hx (pc' := 145) (hb hby at_143) rfl rfl ?_
        refine own_iconst X397 hx (pc' := 146) (1 : Int32) (hb hby at_145) rfl rfl ?_
        refine own_iadd X397 hx (pc' := 147) (z := (2100 : Int32)) (hb hby at_146) (by decide) rfl ?_
        refine own_callV X397 hx (pc' := 150) hZ hown (Wd108 hw) (Wd110 hw) (Wd111 hw) (Wd112 hw) (Wd21 hw) (by decide) (rm_get l Z a0 hw [] bs wa 33 33 own_bitsY (2100 : Int32) 32 T349.heap n0 Z351 (by decide) (by decide) (by decide) G0_349 G1_349 G2_349 G3_349 F352 (by decide) (by decide) (by decide)) e397 G0_349 0 (by decide) (by decide) (by decide) (by decide) [(.int (2100 : Int32))] [] (by rw [hml]; rfl) (lenOf pd_10 rfl) rfl rfl (Nat.le_of_eq rfl) (hb hby at_147) rfl (fun v399 T399 L399 X399 hQ399 => ?_)
        obtain ⟨rfl, Nq399, e399⟩ := hQ399
        have N400 := Fr.app N398 Nq399
        show own_G p.tables e below _ T399 (mkF m 150 #[.val (.int p0), .val (.int p1), .val (.int (6 : Int32)), .val (.ref r_YEAR), .val (.int (1970 : Int32)), .val (.int (2099 : Int32)), .val (.ref bs), .val (.int (Int32.ofNat P)), .val (.int (1 : Int32)), .val (.int (1 : Int32)), .unset] [(.int (own_get own_bitsY 33 32 (2100 : Int32)))])
        rw [own_vg_1970_2099_2100]
        refine own_ifNo X399 hx (pc' := 153) (hb hby at_150) (teq rfl).2 rfl ?_
        refine own_iconst X399 hx (pc' := 154) (1 : Int32) (hb hby at_153) rfl rfl ?_
        refine own_goto X399 hx (pc' := 158) (hb hby at_154) (by decide) (by decide) ?_
        refine own_istore X399 hx (pc' := 160) (Ls' := #[.val (.int p0), .val (.int p1), .val (.int (6 : Int32)), .val (.ref r_YEAR), .val (.int (1970 : Int32)), .val (.int (2099 : Int32)), .val (.ref bs), .val (.int (Int32.ofNat P)), .val (.int (1 : Int32)), .val (.int (1 : Int32)), .val (.int (1 : Int32))]) (hb hby at_158) rfl rfl ?_
        refine own_iload X399 hx (pc' := 162) (hb hby at_160) rfl rfl ?_
        refine own_ifNo X399 hx (pc' := 165) (hb hby at_162) (feq (by decide : ¬ ((1 : Int32) = (0 : Int32)))).1 rfl ?_
        refine own_iload X399 hx (pc' := 167) (hb hby at_165) rfl rfl ?_
        refine own_ifNo X399 hx (pc' := 170) (hb hby at_167) (feq (by decide : ¬ ((1 : Int32) = (0 : Int32)))).1 rfl ?_
        refine own_aload X399 hx (pc' := 172) (hb hby at_170) rfl rfl rfl ?_
        refine own_iload X399 hx (pc' := 174) (hb hby at_172) rfl rfl ?_
        refine own_callV X399 hx (pc' := 177) hZ hown (Wd108 hw) (Wd110 hw) (Wd111 hw) (Wd112 hw) (Wd21 hw) (by decide) (rm_get l Z a0 hw [] bs wa 33 33 own_bitsY (Int32.ofNat P) (P / 64) T349.heap n0 Z351 (by decide) (by decide) (by decide) G0_349 G1_349 G2_349 G3_349 F352 (own_clamp (n := P) (by omega)).1 (own_wiP P hP) (by omega)) e399 G0_349 0 (by decide) (by decide) (by decide) (by decide) [(.int (Int32.ofNat P))] [] (by rw [hml]; rfl) (lenOf pd_10 rfl) rfl rfl (Nat.le_of_eq rfl) (hb hby at_174) rfl (fun v401 T401 L401 X401 hQ401 => ?_)
        obtain ⟨rfl, Nq401, e401⟩ := hQ401
        have N402 := Fr.app N400 Nq401
        show own_G p.tables e below _ T401 (mkF m 177 #[.val (.int p0), .val (.int p1), .val (.int (6 : Int32)), .val (.ref r_YEAR), .val (.int (1970 : Int32)), .val (.int (2099 : Int32)), .val (.ref bs), .val (.int (Int32.ofNat P)), .val (.int (1 : Int32)), .val (.int (1 : Int32)), .val (.int (1 : Int32))] [(.int (own_get own_bitsY 33 (P / 64) (Int32.ofNat P)))])
        rw [own_vP_1970_2099 P hP, if_neg hc42_353, if_neg hc49_370]
        refine own_iload X401 hx (pc' := 179) (hb hby at_177) rfl rfl ?_
        refine own_icmpNo X401 hx (pc' := 182) (hb hby at_179) (teq rfl).2 rfl ?_
        refine own_iconst X401 hx (pc' := 183) (1 : Int32) (hb hby at_182) rfl rfl ?_
        refine own_goto X401 hx (pc' := 187) (hb hby at_183) (by decide) (by decide) ?_
        refine own_retN X401 hx hlk hret (by simp) (hb hby at_187) (by decide) (by decide) ?_
        exact ⟨rfl, N402⟩

set_option maxRecDepth 65536 in
set_option maxHeartbeats 40000000 in
theorem comes_1 {Post : Tables → Env → Array Value → State → Outcome → State → Prop} (hpost : ∀ tb e args s v u, (limb_1_1.after args s (.returned v) u = true ∧ limb_1_2.after args s (.returned v) u = true ∧ True) → FrameEnd s (.returned v) u (Jvm.fieldLocs frame_1_writes args s ++ Jvm.arrayLocs frame_1_arrays args s ++ Jvm.staticLocs frame_1_statics s) 16 192 → Post tb e args s (.returned v) u) :
    ArmFor flags0 classFile x code maxLocals ret World_1 tables_1 room_1 Calls_1 rest_1 Pre_1 Post := by
  intro l hfl _ _ p e ha hc hk s m args below hf hA hF happ hP
  obtain ⟨hcalls, hrest, hpre⟩ := hP
  obtain ⟨-, -, -, hnamed, -, -, -, hat⟩ := (Spec.applies_iff hf).mp happ
  obtain ⟨hg, hn⟩ := and_e (Cond.before_iff.mp (show (Jvm.Cond.and given_1 narrow_1).before args s = true from hpre))
  obtain ⟨hcnt, hg0⟩ := and_e hg
  obtain ⟨ha0, hg1⟩ := and_e hg0
  obtain ⟨w0, w1, rfl⟩ : ∃ w0 w1 : Value, args = #[w0, w1] := by
    have hs : args.size = 2 := by simpa [Cond.value, given_1] using hcnt
    obtain ⟨L⟩ := args
    match L, hs with
    | [w0, w1], _ => exact ⟨w0, w1, rfl⟩
  have hw := fun d (hd : d ∈ tables_1) => atoms_spec (ws := Jvm.Cond.code x code maxLocals ret :: tables_1) hat d (List.mem_cons_of_mem _ hd)
  have hfit : Fit s := fun {y c} hc i hi => by
    obtain ⟨ha, rfl⟩ := Array.getElem?_eq_some_iff.mp hc
    have q := List.all_eq_true.mp ((Array.all_eq_true_iff_forall_mem.mp hF) _ (Array.getElem_mem ha)) i (List.mem_range.mpr hi)
    simpa [Array.getElem?_eq_getElem hi] using q
  obtain ⟨i0, ei0⟩ := is_v ha0
  obtain rfl : w0 = (.int i0) := Option.some.inj ei0
  obtain ⟨i1, ei1⟩ := is_v hg1
  obtain rfl : w1 = (.int i1) := Option.some.inj ei1
  obtain ⟨m0, hn0⟩ := and_e hn
  obtain ⟨r_SECOND, ev_r_SECOND⟩ := exa_v m0
  have S_r_SECOND : Sta s s.heap "com/example/rhadamanthus/rhadamanthus/model/CronField" "SECOND" "Lcom/example/rhadamanthus/rhadamanthus/model/CronField;" (.ref r_SECOND) := Sta.start ev_r_SECOND (Or.inr ⟨(Wd6 hw), (Wd7 hw)⟩)
  have E_r_SECOND : Exa s s.heap r_SECOND "com/example/rhadamanthus/rhadamanthus/model/CronField" := Exa.start ev_r_SECOND m0
  obtain ⟨m1, hn1⟩ := and_e hn0
  have F_r_SECOND_min : Fld s s.heap r_SECOND "com/example/rhadamanthus/rhadamanthus/model/CronField" "min" "I" (.int (0 : Int32)) := own_fldI ev_r_SECOND m1
  obtain ⟨m2, hn2⟩ := and_e hn1
  have F_r_SECOND_max : Fld s s.heap r_SECOND "com/example/rhadamanthus/rhadamanthus/model/CronField" "max" "I" (.int (59 : Int32)) := own_fldI ev_r_SECOND m2
  obtain ⟨m3, hn3⟩ := and_e hn2
  obtain ⟨r_DAY_OF_MONTH, ev_r_DAY_OF_MONTH⟩ := exa_v m3
  have S_r_DAY_OF_MONTH : Sta s s.heap "com/example/rhadamanthus/rhadamanthus/model/CronField" "DAY_OF_MONTH" "Lcom/example/rhadamanthus/rhadamanthus/model/CronField;" (.ref r_DAY_OF_MONTH) := Sta.start ev_r_DAY_OF_MONTH (Or.inr ⟨(Wd6 hw), (Wd114 hw)⟩)
  have E_r_DAY_OF_MONTH : Exa s s.heap r_DAY_OF_MONTH "com/example/rhadamanthus/rhadamanthus/model/CronField" := Exa.start ev_r_DAY_OF_MONTH m3
  obtain ⟨m4, hn4⟩ := and_e hn3
  have F_r_DAY_OF_MONTH_min : Fld s s.heap r_DAY_OF_MONTH "com/example/rhadamanthus/rhadamanthus/model/CronField" "min" "I" (.int (1 : Int32)) := own_fldI ev_r_DAY_OF_MONTH m4
  obtain ⟨m5, hn5⟩ := and_e hn4
  have F_r_DAY_OF_MONTH_max : Fld s s.heap r_DAY_OF_MONTH "com/example/rhadamanthus/rhadamanthus/model/CronField" "max" "I" (.int (31 : Int32)) := own_fldI ev_r_DAY_OF_MONTH m5
  obtain ⟨m6, hn6⟩ := and_e hn5
  obtain ⟨r_MINUTE, ev_r_MINUTE⟩ := exa_v m6
  have S_r_MINUTE : Sta s s.heap "com/example/rhadamanthus/rhadamanthus/model/CronField" "MINUTE" "Lcom/example/rhadamanthus/rhadamanthus/model/CronField;" (.ref r_MINUTE) := Sta.start ev_r_MINUTE (Or.inr ⟨(Wd6 hw), (Wd116 hw)⟩)
  have E_r_MINUTE : Exa s s.heap r_MINUTE "com/example/rhadamanthus/rhadamanthus/model/CronField" := Exa.start ev_r_MINUTE m6
  obtain ⟨m7, hn7⟩ := and_e hn6
  have F_r_MINUTE_min : Fld s s.heap r_MINUTE "com/example/rhadamanthus/rhadamanthus/model/CronField" "min" "I" (.int (0 : Int32)) := own_fldI ev_r_MINUTE m7
  obtain ⟨m8, hn8⟩ := and_e hn7
  have F_r_MINUTE_max : Fld s s.heap r_MINUTE "com/example/rhadamanthus/rhadamanthus/model/CronField" "max" "I" (.int (59 : Int32)) := own_fldI ev_r_MINUTE m8
  obtain ⟨m9, hn9⟩ := and_e hn8
  obtain ⟨r_MONTH, ev_r_MONTH⟩ := exa_v m9
  have S_r_MONTH : Sta s s.heap "com/example/rhadamanthus/rhadamanthus/model/CronField" "MONTH" "Lcom/example/rhadamanthus/rhadamanthus/model/CronField;" (.ref r_MONTH) := Sta.start ev_r_MONTH (Or.inr ⟨(Wd6 hw), (Wd118 hw)⟩)
  have E_r_MONTH : Exa s s.heap r_MONTH "com/example/rhadamanthus/rhadamanthus/model/CronField" := Exa.start ev_r_MONTH m9
  obtain ⟨m10, hn10⟩ := and_e hn9
  have F_r_MONTH_min : Fld s s.heap r_MONTH "com/example/rhadamanthus/rhadamanthus/model/CronField" "min" "I" (.int (1 : Int32)) := own_fldI ev_r_MONTH m10
  obtain ⟨m11, hn11⟩ := and_e hn10
  have F_r_MONTH_max : Fld s s.heap r_MONTH "com/example/rhadamanthus/rhadamanthus/model/CronField" "max" "I" (.int (12 : Int32)) := own_fldI ev_r_MONTH m11
  obtain ⟨m12, hn12⟩ := and_e hn11
  obtain ⟨r_YEAR, ev_r_YEAR⟩ := exa_v m12
  have S_r_YEAR : Sta s s.heap "com/example/rhadamanthus/rhadamanthus/model/CronField" "YEAR" "Lcom/example/rhadamanthus/rhadamanthus/model/CronField;" (.ref r_YEAR) := Sta.start ev_r_YEAR (Or.inr ⟨(Wd6 hw), (Wd120 hw)⟩)
  have E_r_YEAR : Exa s s.heap r_YEAR "com/example/rhadamanthus/rhadamanthus/model/CronField" := Exa.start ev_r_YEAR m12
  obtain ⟨m13, hn13⟩ := and_e hn12
  have F_r_YEAR_min : Fld s s.heap r_YEAR "com/example/rhadamanthus/rhadamanthus/model/CronField" "min" "I" (.int (1970 : Int32)) := own_fldI ev_r_YEAR m13
  obtain ⟨m14, hn14⟩ := and_e hn13
  have F_r_YEAR_max : Fld s s.heap r_YEAR "com/example/rhadamanthus/rhadamanthus/model/CronField" "max" "I" (.int (2099 : Int32)) := own_fldI ev_r_YEAR m14
  obtain ⟨m15, hn15⟩ := and_e hn14
  obtain ⟨r_DAY_OF_WEEK, ev_r_DAY_OF_WEEK⟩ := exa_v m15
  have S_r_DAY_OF_WEEK : Sta s s.heap "com/example/rhadamanthus/rhadamanthus/model/CronField" "DAY_OF_WEEK" "Lcom/example/rhadamanthus/rhadamanthus/model/CronField;" (.ref r_DAY_OF_WEEK) := Sta.start ev_r_DAY_OF_WEEK (Or.inr ⟨(Wd6 hw), (Wd137 hw)⟩)
  have E_r_DAY_OF_WEEK : Exa s s.heap r_DAY_OF_WEEK "com/example/rhadamanthus/rhadamanthus/model/CronField" := Exa.start ev_r_DAY_OF_WEEK m15
  obtain ⟨m16, hn16⟩ := and_e hn15
  have F_r_DAY_OF_WEEK_min : Fld s s.heap r_DAY_OF_WEEK "com/example/rhadamanthus/rhadamanthus/model/CronField" "min" "I" (.int (1 : Int32)) := own_fldI ev_r_DAY_OF_WEEK m16
  obtain ⟨m17, hn17⟩ := and_e hn16
  have F_r_DAY_OF_WEEK_max : Fld s s.heap r_DAY_OF_WEEK "com/example/rhadamanthus/rhadamanthus/model/CronField" "max" "I" (.int (7 : Int32)) := own_fldI ev_r_DAY_OF_WEEK m17
  obtain ⟨m18, hn18⟩ := and_e hn17
  obtain ⟨r_HOUR, ev_r_HOUR⟩ := exa_v m18
  have S_r_HOUR : Sta s s.heap "com/example/rhadamanthus/rhadamanthus/model/CronField" "HOUR" "Lcom/example/rhadamanthus/rhadamanthus/model/CronField;" (.ref r_HOUR) := Sta.start ev_r_HOUR (Or.inr ⟨(Wd6 hw), (Wd139 hw)⟩)
  have E_r_HOUR : Exa s s.heap r_HOUR "com/example/rhadamanthus/rhadamanthus/model/CronField" := Exa.start ev_r_HOUR m18
  obtain ⟨m19, hn19⟩ := and_e hn18
  have F_r_HOUR_min : Fld s s.heap r_HOUR "com/example/rhadamanthus/rhadamanthus/model/CronField" "min" "I" (.int (0 : Int32)) := own_fldI ev_r_HOUR m19
  have F_r_HOUR_max : Fld s s.heap r_HOUR "com/example/rhadamanthus/rhadamanthus/model/CronField" "max" "I" (.int (23 : Int32)) := own_fldI ev_r_HOUR hn19
  obtain ⟨j0, hr0⟩ := and_e (Cond.before_iff.mp (show rest_1_c.before _ s = true from hrest))
  obtain ⟨j1, hr1⟩ := and_e hr0
  obtain ⟨j2, hr2⟩ := and_e hr1
  have B_ad := own_AD.start (Sta.start (Cond.eq_int (Cond.before_iff.mpr j2) rfl) (Or.inl (Cond.before_iff.mpr j1)))
  obtain ⟨n, o, h1, h2, h3, _, L, rfl, ⟨rfl, N⟩, hq⟩ := rm0 l s _ hw tables_1 i0 i1 r_SECOND r_DAY_OF_MONTH r_MINUTE r_MONTH r_YEAR r_DAY_OF_WEEK r_HOUR s.heap s.heap.size (Nat.le_refl _) S_r_SECOND E_r_SECOND F_r_SECOND_min F_r_SECOND_max S_r_DAY_OF_MONTH E_r_DAY_OF_MONTH F_r_DAY_OF_MONTH_min F_r_DAY_OF_MONTH_max S_r_MINUTE E_r_MINUTE F_r_MINUTE_min F_r_MINUTE_max S_r_MONTH E_r_MONTH F_r_MONTH_min F_r_MONTH_max S_r_YEAR E_r_YEAR F_r_YEAR_min F_r_YEAR_max S_r_DAY_OF_WEEK E_r_DAY_OF_WEEK F_r_DAY_OF_WEEK_min F_r_DAY_OF_WEEK_max S_r_HOUR E_r_HOUR F_r_HOUR_min F_r_HOUR_max B_ad p e ha hc hk s m _ below hf ((Spec.applies_iff_loose hf).mp happ).1 ⟨rfl, State.Warmed39.refl s, rfl⟩ trivial
  refine ⟨n, _, h1, h2, h3, hpost _ _ _ _ _ _ ⟨Cond.after_iff.mpr rfl, Cond.after_iff.mpr (eq_i res_at (Term.int_eval (1)) rfl), trivial⟩ ⟨hq.1, hq.2.1, (hq.2.2.sift fun y hy => Or.inr (N y hy)).mono (by decide) (by decide)⟩⟩
theorem main_1_1 : Claimed_1_1 := comes_1 fun _ _ _ _ _ _ h hF => ⟨h.1, hF⟩
theorem main_1_2 : Claimed_1_2 := comes_1 fun _ _ _ _ _ _ h hF => ⟨h.2.1, hF⟩
end Jvm.Pilot.@@N@@
namespace Jvm.Pilot.@@N@@
open Jvm Jvm.ClassFile Sem Op Lib Jvm.Free Jvm.Stand Jvm.Pilot.@@N@@.Jvm.D
/-! MADE BY PROGRAM (witnessworld.py) out of the Statement's table words and the real class files: 22 classes; the members and pool entries that the words name. The judged class is class 1, her method 4. -/
namespace start1
open Jvm.ClassFile
def u (s : String) : CpInfo := .utf8 (stringToUtf16 s)
/-- a pool by its gaps: so many unusable entries, then the entry; so many at the end -/
def gap : Nat → List CpInfo → List CpInfo
  | 0, r => r
  | n + 1, r => .unusable :: gap n r
def poolList (es : List (Nat × CpInfo)) (last : Nat) : List CpInfo := es.foldr (fun e r => gap e.1 (e.2 :: r)) (gap last [])
def pool (es : List (Nat × CpInfo)) (last : Nat) : Array CpInfo := ⟨poolList es last⟩
def fileOf (pool : Array CpInfo) (this : Nat) (attrs : Array Attribute := #[]) (ms : Array MethodInfo := #[]) (fl : Nat := 33) (sup : Nat := 0) (ifs : Array Nat := #[]) (fds : Array FieldInfo := #[]) : ClassFile where
  minorVersion := 0
  majorVersion := 65
  constantPool := pool
  accessFlags := fl
  thisClass := this
  superClass := sup
  interfaces := ifs
  fields := fds
  methods := ms
  attributes := attrs
def plain (name : String) (sup : Option ClassId) : Class where
  name := name
  kind := .ordinary
  loader := none
  accessFlags := 33
  super := sup
  interfaces := #[]
  cf := none
  fields := #[]
  methods := #[]
  instanceTypes := #[]
  staticTypes := #[]
  resolved := #[]
  callSites := []
  init := .initialized
  statics := none
  mirror := none

def pool0 : Array CpInfo := pool [(5, u "<init>"), (0, u "()V"), (1, .class_ 10), (1, u "java/lang/Object")] 113

def k0c0 : Code := { maxStack := 0, maxLocals := 1, code := object_method_1_code, exceptionTable := #[], attributes := #[] }
def k0m0 : Method := { name := "<init>", desc := "()V", sig := { parameters := [], returnType := none }, accessFlags := 1, code := some k0c0 }
/-- java/lang/Object -/
def k0 : Class := { plain "java/lang/Object" none with
  accessFlags := 33
  interfaces := #[]
  cf := some (fileOf pool0 8 #[] #[{ accessFlags := 1, nameIndex := 5, descriptorIndex := 6, attributes := #[] }] 33 0 #[] #[])
  fields := #[]
  methods := #[k0m0]
  instanceTypes := #[]
  staticTypes := #[]
  resolved := Array.replicate 124 none
  statics := none }

def pool1 : Array CpInfo := pool [(2, .class_ 4), (1, u "java/lang/Object"), (0, u "<init>"), (0, u "()V"), (0, .fieldref 8 9), (0, .class_ 10), (0, .nameAndType 11 12), (0, u "com/example/rhadamanthus/rhadamanthus/model/CronField"), (0, u "SECOND"), (0, u "Lcom/example/rhadamanthus/rhadamanthus/model/CronField;"), (0, .fieldref 8 14), (0, .nameAndType 15 12), (0, u "MINUTE"), (0, .fieldref 8 17), (0, .nameAndType 18 12), (0, u "HOUR"), (0, .fieldref 8 20), (0, .nameAndType 21 12), (0, u "DAY_OF_MONTH"), (0, .fieldref 8 23), (0, .nameAndType 24 12), (0, u "MONTH"), (0, .fieldref 8 26), (0, .nameAndType 27 12), (0, u "DAY_OF_WEEK"), (0, .fieldref 8 29), (0, .nameAndType 30 12), (0, u "YEAR"), (0, .integer 2147483647), (0, .methodref 33 34), (0, .class_ 35), (0, .nameAndType 36 37), (0, u "com/example/rhadamanthus/rhadamanthus/model/CronFieldAllPinLaw"), (0, u "field"), (0, u "(I)Lcom/example/rhadamanthus/rhadamanthus/model/CronField;"), (0, .methodref 33 39), (0, .nameAndType 40 41), (0, u "low"), (0, u "(I)I"), (0, .methodref 33 43), (0, .nameAndType 44 41), (0, u "high"), (0, .methodref 8 46), (0, .nameAndType 47 48), (0, u "all"), (0, u "()Ljava/util/BitSet;"), (0, .methodref 50 51), (0, .class_ 52), (0, .nameAndType 53 41), (0, u "java/util/BitSet"), (0, u "nextSetBit"), (0, .methodref 50 55), (0, .nameAndType 56 57), (0, u "length"), (0, u "()I"), (0, .methodref 50 59), (0, .nameAndType 60 57), (0, u "cardinality"), (0, .methodref 50 62), (0, .nameAndType 63 64), (0, u "get"), (0, u "(I)Z"), (3, u "law"), (0, u "(II)Z")] 2

def k1m0 : Method := { name := "<init>", desc := "()V", sig := { parameters := [], returnType := none }, accessFlags := 2, code := none }
def k1c1 : Code := { maxStack := 2, maxLocals := 1, code := method_2_code, exceptionTable := #[], attributes := #[] }
def k1m1 : Method := { name := "field", desc := "(I)Lcom/example/rhadamanthus/rhadamanthus/model/CronField;", sig := { parameters := [.int], returnType := some (.object "com/example/rhadamanthus/rhadamanthus/model/CronField") }, accessFlags := 10, code := some k1c1 }
def k1c2 : Code := { maxStack := 2, maxLocals := 1, code := method_3_code, exceptionTable := #[], attributes := #[] }
def k1m2 : Method := { name := "low", desc := "(I)I", sig := { parameters := [.int], returnType := some .int }, accessFlags := 10, code := some k1c2 }
def k1c3 : Code := { maxStack := 2, maxLocals := 1, code := method_4_code, exceptionTable := #[], attributes := #[] }
def k1m3 : Method := { name := "high", desc := "(I)I", sig := { parameters := [.int], returnType := some .int }, accessFlags := 10, code := some k1c3 }
def k1c4 : Code := { maxStack := 3, maxLocals := 11, code := code, exceptionTable := #[], attributes := #[] }
def k1m4 : Method := { name := "law", desc := "(II)Z", sig := { parameters := [.int, .int], returnType := some .boolean }, accessFlags := 9, code := some k1c4 }
/-- com/example/rhadamanthus/rhadamanthus/model/CronFieldAllPinLaw -/
def k1 : Class := { plain "com/example/rhadamanthus/rhadamanthus/model/CronFieldAllPinLaw" (some 0) with
  accessFlags := 49
  interfaces := #[]
  cf := some (fileOf pool1 33 #[] #[{ accessFlags := 2, nameIndex := 5, descriptorIndex := 6, attributes := #[] }, { accessFlags := 10, nameIndex := 36, descriptorIndex := 37, attributes := #[] }, { accessFlags := 10, nameIndex := 40, descriptorIndex := 41, attributes := #[] }, { accessFlags := 10, nameIndex := 44, descriptorIndex := 41, attributes := #[] }, { accessFlags := 9, nameIndex := 68, descriptorIndex := 69, attributes := #[] }] 49 2 #[] #[])
  fields := #[]
  methods := #[k1m0, k1m1, k1m2, k1m3, k1m4]
  instanceTypes := #[]
  staticTypes := #[]
  resolved := Array.replicate 72 none
  statics := none }

def pool2 : Array CpInfo := pool [(1, .class_ 2), (0, u "java/lang/constant/Constable"), (0, .class_ 4), (0, u "java/lang/Object")] 6

/-- java/lang/constant/Constable -/
def k2 : Class := { plain "java/lang/constant/Constable" (some 0) with
  accessFlags := 1537
  interfaces := #[]
  cf := some (fileOf pool2 1 #[] #[] 1537 3 #[] #[])
  fields := #[]
  methods := #[]
  instanceTypes := #[]
  staticTypes := #[]
  resolved := Array.replicate 11 none
  statics := none }

def pool3 : Array CpInfo := pool [(1, .class_ 2), (0, u "java/lang/Comparable"), (0, .class_ 4), (0, u "java/lang/Object")] 7

/-- java/lang/Comparable -/
def k3 : Class := { plain "java/lang/Comparable" (some 0) with
  accessFlags := 1537
  interfaces := #[]
  cf := some (fileOf pool3 1 #[] #[] 1537 3 #[] #[])
  fields := #[]
  methods := #[]
  instanceTypes := #[]
  staticTypes := #[]
  resolved := Array.replicate 12 none
  statics := none }

def pool4 : Array CpInfo := pool [(1, .class_ 2), (0, u "java/io/Serializable"), (0, .class_ 4), (0, u "java/lang/Object")] 2

/-- java/io/Serializable -/
def k4 : Class := { plain "java/io/Serializable" (some 0) with
  accessFlags := 1537
  interfaces := #[]
  cf := some (fileOf pool4 1 #[] #[] 1537 3 #[] #[])
  fields := #[]
  methods := #[]
  instanceTypes := #[]
  staticTypes := #[]
  resolved := Array.replicate 7 none
  statics := none }

def pool5 : Array CpInfo := pool [(2, .class_ 4), (1, u "java/lang/Enum"), (0, u "name"), (0, u "Ljava/lang/String;"), (2, u "ordinal"), (0, u "I"), (1, .class_ 14), (1, u "java/lang/Object"), (4, u "hash"), (86, .class_ 108), (1, u "java/lang/Enum$EnumDesc"), (2, .class_ 112), (0, u "java/lang/constant/Constable"), (0, .class_ 114), (0, u "java/lang/Comparable"), (0, .class_ 116), (0, u "java/io/Serializable")] 87

/-- java/lang/Enum -/
def k5 : Class := { plain "java/lang/Enum" (some 0) with
  accessFlags := 1057
  interfaces := #[2, 3, 4]
  cf := some (fileOf pool5 2 #[.nestMembers #[106]] #[] 1057 12 #[111, 113, 115] #[{ accessFlags := 18, nameIndex := 5, descriptorIndex := 6, attributes := #[] }, { accessFlags := 18, nameIndex := 9, descriptorIndex := 10, attributes := #[] }, { accessFlags := 2, nameIndex := 19, descriptorIndex := 10, attributes := #[] }])
  fields := #[{ name := "name", type := (.object "java/lang/String"), accessFlags := 18, slot := 0, constantValue := 0 }, { name := "ordinal", type := .int, accessFlags := 18, slot := 1, constantValue := 0 }, { name := "hash", type := .int, accessFlags := 2, slot := 2, constantValue := 0 }]
  methods := #[]
  instanceTypes := #[(.object "java/lang/String"), .int, .int]
  staticTypes := #[]
  resolved := Array.replicate 204 none
  statics := none }

def pool6 : Array CpInfo := pool [(1, .class_ 2), (0, u "com/example/rhadamanthus/rhadamanthus/model/CronField"), (2, u "SECOND"), (0, u "Lcom/example/rhadamanthus/rhadamanthus/model/CronField;"), (2, u "MINUTE"), (2, u "HOUR"), (2, u "DAY_OF_MONTH"), (2, u "MONTH"), (2, u "DAY_OF_WEEK"), (2, u "YEAR"), (2, u "$VALUES"), (0, u "[Lcom/example/rhadamanthus/rhadamanthus/model/CronField;"), (6, .class_ 37), (1, u "java/lang/Enum"), (4, u "<init>"), (3, u "label"), (0, u "Ljava/lang/String;"), (0, .fieldref 1 49), (0, .nameAndType 50 51), (0, u "min"), (0, u "I"), (0, .fieldref 1 53), (0, .nameAndType 54 51), (0, u "max"), (8, u "names"), (0, u "Ljava/util/List;"), (0, .class_ 66), (0, u "java/util/BitSet"), (0, .methodref 65 68), (0, .nameAndType 42 69), (0, u "()V"), (0, .methodref 65 71), (0, .nameAndType 72 73), (0, u "set"), (0, u "(II)V"), (68, u "DIGITS"), (0, u "Ljava/util/regex/Pattern;"), (113, u "LONGEST_INT"), (10, u "all"), (0, u "()Ljava/util/BitSet;")] 27

def k6c0 : Code := { maxStack := 4, maxLocals := 2, code := prog_17_method_6_code, exceptionTable := #[], attributes := #[] }
def k6m0 : Method := { name := "all", desc := "()Ljava/util/BitSet;", sig := { parameters := [], returnType := some (.object "java/util/BitSet") }, accessFlags := 0, code := some k6c0 }
/-- com/example/rhadamanthus/rhadamanthus/model/CronField -/
def k6 : Class := { plain "com/example/rhadamanthus/rhadamanthus/model/CronField" (some 5) with
  accessFlags := 16432
  interfaces := #[]
  cf := some (fileOf pool6 1 #[] #[{ accessFlags := 0, nameIndex := 268, descriptorIndex := 269, attributes := #[] }] 16432 35 #[] #[{ accessFlags := 16409, nameIndex := 5, descriptorIndex := 6, attributes := #[] }, { accessFlags := 16409, nameIndex := 9, descriptorIndex := 6, attributes := #[] }, { accessFlags := 16409, nameIndex := 12, descriptorIndex := 6, attributes := #[] }, { accessFlags := 16409, nameIndex := 15, descriptorIndex := 6, attributes := #[] }, { accessFlags := 16409, nameIndex := 18, descriptorIndex := 6, attributes := #[] }, { accessFlags := 16409, nameIndex := 21, descriptorIndex := 6, attributes := #[] }, { accessFlags := 16409, nameIndex := 24, descriptorIndex := 6, attributes := #[] }, { accessFlags := 26, nameIndex := 142, descriptorIndex := 143, attributes := #[] }, { accessFlags := 26, nameIndex := 257, descriptorIndex := 51, attributes := #[] }, { accessFlags := 18, nameIndex := 46, descriptorIndex := 47, attributes := #[] }, { accessFlags := 18, nameIndex := 50, descriptorIndex := 51, attributes := #[] }, { accessFlags := 18, nameIndex := 54, descriptorIndex := 51, attributes := #[] }, { accessFlags := 18, nameIndex := 63, descriptorIndex := 64, attributes := #[] }, { accessFlags := 4122, nameIndex := 27, descriptorIndex := 28, attributes := #[] }])
  fields := #[{ name := "SECOND", type := (.object "com/example/rhadamanthus/rhadamanthus/model/CronField"), accessFlags := 16409, slot := 0, constantValue := 0 }, { name := "MINUTE", type := (.object "com/example/rhadamanthus/rhadamanthus/model/CronField"), accessFlags := 16409, slot := 1, constantValue := 0 }, { name := "HOUR", type := (.object "com/example/rhadamanthus/rhadamanthus/model/CronField"), accessFlags := 16409, slot := 2, constantValue := 0 }, { name := "DAY_OF_MONTH", type := (.object "com/example/rhadamanthus/rhadamanthus/model/CronField"), accessFlags := 16409, slot := 3, constantValue := 0 }, { name := "MONTH", type := (.object "com/example/rhadamanthus/rhadamanthus/model/CronField"), accessFlags := 16409, slot := 4, constantValue := 0 }, { name := "DAY_OF_WEEK", type := (.object "com/example/rhadamanthus/rhadamanthus/model/CronField"), accessFlags := 16409, slot := 5, constantValue := 0 }, { name := "YEAR", type := (.object "com/example/rhadamanthus/rhadamanthus/model/CronField"), accessFlags := 16409, slot := 6, constantValue := 0 }, { name := "DIGITS", type := (.object "java/util/regex/Pattern"), accessFlags := 26, slot := 7, constantValue := 0 }, { name := "LONGEST_INT", type := .int, accessFlags := 26, slot := 8, constantValue := 0 }, { name := "label", type := (.object "java/lang/String"), accessFlags := 18, slot := 3, constantValue := 0 }, { name := "min", type := .int, accessFlags := 18, slot := 4, constantValue := 0 }, { name := "max", type := .int, accessFlags := 18, slot := 5, constantValue := 0 }, { name := "names", type := (.object "java/util/List"), accessFlags := 18, slot := 6, constantValue := 0 }, { name := "$VALUES", type := (.array (.object "com/example/rhadamanthus/rhadamanthus/model/CronField")), accessFlags := 4122, slot := 9, constantValue := 0 }]
  methods := #[k6m0]
  instanceTypes := #[(.object "java/lang/String"), .int, .int, (.object "java/lang/String"), .int, .int, (.object "java/util/List")]
  staticTypes := #[(.object "com/example/rhadamanthus/rhadamanthus/model/CronField"), (.object "com/example/rhadamanthus/rhadamanthus/model/CronField"), (.object "com/example/rhadamanthus/rhadamanthus/model/CronField"), (.object "com/example/rhadamanthus/rhadamanthus/model/CronField"), (.object "com/example/rhadamanthus/rhadamanthus/model/CronField"), (.object "com/example/rhadamanthus/rhadamanthus/model/CronField"), (.object "com/example/rhadamanthus/rhadamanthus/model/CronField"), (.object "java/util/regex/Pattern"), .int, (.array (.object "com/example/rhadamanthus/rhadamanthus/model/CronField"))]
  resolved := Array.replicate 297 none
  statics := some 0 }

def pool7 : Array CpInfo := pool [(1, .class_ 2), (0, u "java/lang/Cloneable"), (0, .class_ 4), (0, u "java/lang/Object")] 2

/-- java/lang/Cloneable -/
def k7 : Class := { plain "java/lang/Cloneable" (some 0) with
  accessFlags := 1537
  interfaces := #[]
  cf := some (fileOf pool7 1 #[] #[] 1537 3 #[] #[])
  fields := #[]
  methods := #[]
  instanceTypes := #[]
  staticTypes := #[]
  resolved := Array.replicate 7 none
  statics := none }

def pool8 : Array CpInfo := pool [(1, .class_ 2), (0, u "java/util/BitSet"), (0, .fieldref 1 4), (0, .nameAndType 5 6), (0, u "$assertionsDisabled"), (0, u "Z"), (0, .fieldref 1 8), (0, .nameAndType 9 10), (0, u "wordsInUse"), (0, u "I"), (0, .fieldref 1 12), (0, .nameAndType 13 14), (0, u "words"), (0, u "[J"), (3, .nameAndType 19 20), (0, u "<init>"), (0, u "()V"), (0, .methodref 22 18), (0, .class_ 23), (0, u "java/lang/Object"), (0, .fieldref 1 25), (0, .nameAndType 26 6), (0, u "sizeIsSticky"), (0, .methodref 1 28), (0, .nameAndType 29 30), (0, u "initWords"), (0, u "(I)V"), (21, .methodref 1 53), (0, .nameAndType 54 55), (0, u "wordIndex"), (0, u "(I)I"), (0, .methodref 1 57), (0, .nameAndType 58 20), (0, u "checkInvariants"), (0, .methodref 60 61), (0, .class_ 62), (0, .nameAndType 63 64), (0, u "java/util/Arrays"), (0, u "copyOf"), (0, u "([JI)[J"), (12, u "()I"), (2, u "get"), (52, .methodref 134 135), (0, .class_ 136), (0, .nameAndType 137 138), (0, u "java/lang/Math"), (0, u "max"), (0, u "(II)I"), (0, .methodref 1 140), (0, .nameAndType 141 30), (0, u "ensureCapacity"), (13, .methodref 1 156), (0, .nameAndType 157 30), (0, u "expandTo"), (3, .methodref 1 162), (0, .nameAndType 163 164), (0, u "checkRange"), (0, u "(II)V"), (0, .long 18446744073709551615), (3, u "set"), (9, u "length"), (2, .methodref 183 184), (0, .class_ 185), (0, .nameAndType 186 187), (0, u "java/lang/Long"), (0, u "numberOfTrailingZeros"), (0, u "(J)I"), (2, .methodref 183 191), (0, .nameAndType 192 187), (0, u "numberOfLeadingZeros"), (3, .methodref 183 197), (0, .nameAndType 198 187), (0, u "bitCount"), (56, u "cardinality"), (7, u "nextSetBit"), (5, .class_ 270), (0, u "java/util/BitSet$1BitSetSpliterator"), (22, u "serialPersistentFields"), (0, u "[Ljava/io/ObjectStreamField;"), (0, .class_ 296), (0, u "java/lang/Cloneable"), (0, .class_ 298), (0, u "java/io/Serializable"), (0, u "ADDRESS_BITS_PER_WORD"), (2, u "BITS_PER_WORD"), (1, u "BIT_INDEX_MASK"), (1, u "WORD_MASK"), (0, u "J"), (0, u "serialVersionUID"), (42, u "(I)Z")] 65

def k8c0 : Code := { maxStack := 2, maxLocals := 1, code := jdk_92_method_1_code, exceptionTable := #[], attributes := #[] }
def k8m0 : Method := { name := "wordIndex", desc := "(I)I", sig := { parameters := [.int], returnType := some .int }, accessFlags := 10, code := some k8c0 }
def k8c1 : Code := { maxStack := 4, maxLocals := 1, code := jdk_92_method_2_code, exceptionTable := #[], attributes := #[] }
def k8m1 : Method := { name := "checkInvariants", desc := "()V", sig := { parameters := [], returnType := none }, accessFlags := 2, code := some k8c1 }
def k8c2 : Code := { maxStack := 2, maxLocals := 1, code := jdk_92_method_4_code, exceptionTable := #[], attributes := #[] }
def k8m2 : Method := { name := "<init>", desc := "()V", sig := { parameters := [], returnType := none }, accessFlags := 1, code := some k8c2 }
def k8c3 : Code := { maxStack := 3, maxLocals := 2, code := jdk_92_method_6_code, exceptionTable := #[], attributes := #[] }
def k8m3 : Method := { name := "initWords", desc := "(I)V", sig := { parameters := [.int], returnType := none }, accessFlags := 2, code := some k8c3 }
def k8c4 : Code := { maxStack := 3, maxLocals := 3, code := jdk_92_method_14_code, exceptionTable := #[], attributes := #[] }
def k8m4 : Method := { name := "ensureCapacity", desc := "(I)V", sig := { parameters := [.int], returnType := none }, accessFlags := 2, code := some k8c4 }
def k8c5 : Code := { maxStack := 2, maxLocals := 3, code := jdk_92_method_15_code, exceptionTable := #[], attributes := #[] }
def k8m5 : Method := { name := "expandTo", desc := "(I)V", sig := { parameters := [.int], returnType := none }, accessFlags := 2, code := some k8c5 }
def k8c6 : Code := { maxStack := 4, maxLocals := 2, code := jdk_92_method_16_code, exceptionTable := #[], attributes := #[] }
def k8m6 : Method := { name := "checkRange", desc := "(II)V", sig := { parameters := [.int, .int], returnType := none }, accessFlags := 10, code := some k8c6 }
def k8c7 : Code := { maxStack := 8, maxLocals := 10, code := jdk_92_method_21_code, exceptionTable := #[], attributes := #[] }
def k8m7 : Method := { name := "set", desc := "(II)V", sig := { parameters := [.int, .int], returnType := none }, accessFlags := 1, code := some k8c7 }
def k8c8 : Code := { maxStack := 5, maxLocals := 3, code := jdk_92_method_26_code, exceptionTable := #[], attributes := #[] }
def k8m8 : Method := { name := "get", desc := "(I)Z", sig := { parameters := [.int], returnType := some .boolean }, accessFlags := 1, code := some k8c8 }
def k8c9 : Code := { maxStack := 5, maxLocals := 5, code := jdk_92_method_28_code, exceptionTable := #[], attributes := #[] }
def k8m9 : Method := { name := "nextSetBit", desc := "(I)I", sig := { parameters := [.int], returnType := some .int }, accessFlags := 1, code := some k8c9 }
def k8c10 : Code := { maxStack := 5, maxLocals := 1, code := jdk_92_method_32_code, exceptionTable := #[], attributes := #[] }
def k8m10 : Method := { name := "length", desc := "()I", sig := { parameters := [], returnType := some .int }, accessFlags := 1, code := some k8c10 }
def k8c11 : Code := { maxStack := 3, maxLocals := 3, code := jdk_92_method_35_code, exceptionTable := #[], attributes := #[] }
def k8m11 : Method := { name := "cardinality", desc := "()I", sig := { parameters := [], returnType := some .int }, accessFlags := 1, code := some k8c11 }
/-- java/util/BitSet -/
def k8 : Class := { plain "java/util/BitSet" (some 0) with
  accessFlags := 33
  interfaces := #[7, 4]
  cf := some (fileOf pool8 1 #[.nestMembers #[269]] #[{ accessFlags := 10, nameIndex := 54, descriptorIndex := 55, attributes := #[] }, { accessFlags := 2, nameIndex := 58, descriptorIndex := 20, attributes := #[] }, { accessFlags := 1, nameIndex := 19, descriptorIndex := 20, attributes := #[] }, { accessFlags := 2, nameIndex := 29, descriptorIndex := 30, attributes := #[] }, { accessFlags := 2, nameIndex := 141, descriptorIndex := 30, attributes := #[] }, { accessFlags := 2, nameIndex := 157, descriptorIndex := 30, attributes := #[] }, { accessFlags := 10, nameIndex := 163, descriptorIndex := 164, attributes := #[] }, { accessFlags := 1, nameIndex := 169, descriptorIndex := 164, attributes := #[] }, { accessFlags := 1, nameIndex := 80, descriptorIndex := 351, attributes := #[] }, { accessFlags := 1, nameIndex := 263, descriptorIndex := 55, attributes := #[] }, { accessFlags := 1, nameIndex := 179, descriptorIndex := 77, attributes := #[] }, { accessFlags := 1, nameIndex := 255, descriptorIndex := 77, attributes := #[] }] 33 22 #[295, 297] #[{ accessFlags := 26, nameIndex := 299, descriptorIndex := 10, attributes := #[] }, { accessFlags := 26, nameIndex := 302, descriptorIndex := 10, attributes := #[] }, { accessFlags := 26, nameIndex := 304, descriptorIndex := 10, attributes := #[] }, { accessFlags := 26, nameIndex := 306, descriptorIndex := 307, attributes := #[] }, { accessFlags := 26, nameIndex := 293, descriptorIndex := 294, attributes := #[] }, { accessFlags := 2, nameIndex := 13, descriptorIndex := 14, attributes := #[] }, { accessFlags := 130, nameIndex := 9, descriptorIndex := 10, attributes := #[] }, { accessFlags := 130, nameIndex := 26, descriptorIndex := 6, attributes := #[] }, { accessFlags := 26, nameIndex := 308, descriptorIndex := 307, attributes := #[] }, { accessFlags := 4120, nameIndex := 5, descriptorIndex := 6, attributes := #[] }])
  fields := #[{ name := "ADDRESS_BITS_PER_WORD", type := .int, accessFlags := 26, slot := 0, constantValue := 0 }, { name := "BITS_PER_WORD", type := .int, accessFlags := 26, slot := 1, constantValue := 0 }, { name := "BIT_INDEX_MASK", type := .int, accessFlags := 26, slot := 2, constantValue := 0 }, { name := "WORD_MASK", type := .long, accessFlags := 26, slot := 3, constantValue := 0 }, { name := "serialPersistentFields", type := (.array (.object "java/io/ObjectStreamField")), accessFlags := 26, slot := 4, constantValue := 0 }, { name := "words", type := (.array .long), accessFlags := 2, slot := 0, constantValue := 0 }, { name := "wordsInUse", type := .int, accessFlags := 130, slot := 1, constantValue := 0 }, { name := "sizeIsSticky", type := .boolean, accessFlags := 130, slot := 2, constantValue := 0 }, { name := "serialVersionUID", type := .long, accessFlags := 26, slot := 5, constantValue := 0 }, { name := "$assertionsDisabled", type := .boolean, accessFlags := 4120, slot := 6, constantValue := 0 }]
  methods := #[k8m0, k8m1, k8m2, k8m3, k8m4, k8m5, k8m6, k8m7, k8m8, k8m9, k8m10, k8m11]
  instanceTypes := #[(.array .long), .int, .boolean]
  staticTypes := #[.int, .int, .int, .long, (.array (.object "java/io/ObjectStreamField")), .long, .boolean]
  resolved := Array.replicate 417 none
  statics := some 1 }

def pool9 : Array CpInfo := pool [(2, .class_ 4), (1, u "java/lang/Object"), (0, u "<init>"), (0, u "()V"), (1, .class_ 10), (1, u "java/lang/Number"), (2, .class_ 14), (0, u "java/io/Serializable"), (0, u "serialVersionUID"), (0, u "J")] 20

def k9m0 : Method := { name := "<init>", desc := "()V", sig := { parameters := [], returnType := none }, accessFlags := 1, code := none }
/-- java/lang/Number -/
def k9 : Class := { plain "java/lang/Number" (some 0) with
  accessFlags := 1057
  interfaces := #[4]
  cf := some (fileOf pool9 8 #[] #[{ accessFlags := 1, nameIndex := 5, descriptorIndex := 6, attributes := #[] }] 1057 2 #[13] #[{ accessFlags := 26, nameIndex := 15, descriptorIndex := 16, attributes := #[] }])
  fields := #[{ name := "serialVersionUID", type := .long, accessFlags := 26, slot := 0, constantValue := 0 }]
  methods := #[k9m0]
  instanceTypes := #[]
  staticTypes := #[.long]
  resolved := Array.replicate 37 none
  statics := none }

def pool10 : Array CpInfo := pool [(1, .class_ 2), (0, u "java/lang/constant/ConstantDesc"), (0, .class_ 4), (0, u "java/lang/Object")] 32

/-- java/lang/constant/ConstantDesc -/
def k10 : Class := { plain "java/lang/constant/ConstantDesc" (some 0) with
  accessFlags := 1537
  interfaces := #[]
  cf := some (fileOf pool10 1 #[] #[] 1537 3 #[] #[])
  fields := #[]
  methods := #[]
  instanceTypes := #[]
  staticTypes := #[]
  resolved := Array.replicate 37 none
  statics := none }

def pool11 : Array CpInfo := pool [(1, .class_ 2), (0, u "java/lang/Long"), (15, .class_ 20), (1, u "java/lang/Integer"), (79, u "numberOfLeadingZeros"), (0, u "(J)I"), (133, .class_ 237), (1, u "java/lang/Long$LongCache"), (33, .class_ 272), (0, u "java/lang/Number"), (2, u "value"), (0, u "J"), (31, .methodref 18 309), (0, .nameAndType 100 310), (0, u "(I)I"), (0, .methodref 18 312), (0, .nameAndType 313 310), (0, u "numberOfTrailingZeros"), (0, .long 6148914691236517205), (1, .long 3689348814741910323), (1, .long 1085102592571150095), (42, u "TYPE"), (0, u "Ljava/lang/Class;"), (0, .class_ 364), (0, u "java/lang/Comparable"), (0, .class_ 366), (0, u "java/lang/constant/Constable"), (0, .class_ 368), (0, u "java/lang/constant/ConstantDesc"), (0, u "MIN_VALUE"), (1, u "MAX_VALUE"), (4, u "SIZE"), (0, u "I"), (1, u "BYTES"), (1, u "serialVersionUID"), (94, u "bitCount")] 47

def k11c0 : Code := { maxStack := 3, maxLocals := 3, code := jdk_35_method_48_code, exceptionTable := #[], attributes := #[] }
def k11m0 : Method := { name := "numberOfLeadingZeros", desc := "(J)I", sig := { parameters := [.long], returnType := some .int }, accessFlags := 9, code := some k11c0 }
def k11c1 : Code := { maxStack := 4, maxLocals := 3, code := jdk_35_method_49_code, exceptionTable := #[], attributes := #[] }
def k11m1 : Method := { name := "numberOfTrailingZeros", desc := "(J)I", sig := { parameters := [.long], returnType := some .int }, accessFlags := 9, code := some k11c1 }
def k11c2 : Code := { maxStack := 6, maxLocals := 2, code := jdk_35_method_50_code, exceptionTable := #[], attributes := #[] }
def k11m2 : Method := { name := "bitCount", desc := "(J)I", sig := { parameters := [.long], returnType := some .int }, accessFlags := 9, code := some k11c2 }
/-- java/lang/Long -/
def k11 : Class := { plain "java/lang/Long" (some 9) with
  accessFlags := 49
  interfaces := #[3, 2, 10]
  cf := some (fileOf pool11 1 #[.nestMembers #[235]] #[{ accessFlags := 9, nameIndex := 100, descriptorIndex := 101, attributes := #[] }, { accessFlags := 9, nameIndex := 313, descriptorIndex := 101, attributes := #[] }, { accessFlags := 9, nameIndex := 476, descriptorIndex := 101, attributes := #[] }] 49 271 #[363, 365, 367] #[{ accessFlags := 25, nameIndex := 369, descriptorIndex := 276, attributes := #[] }, { accessFlags := 25, nameIndex := 371, descriptorIndex := 276, attributes := #[] }, { accessFlags := 25, nameIndex := 361, descriptorIndex := 362, attributes := #[] }, { accessFlags := 18, nameIndex := 275, descriptorIndex := 276, attributes := #[] }, { accessFlags := 25, nameIndex := 376, descriptorIndex := 377, attributes := #[] }, { accessFlags := 25, nameIndex := 379, descriptorIndex := 377, attributes := #[] }, { accessFlags := 26, nameIndex := 381, descriptorIndex := 276, attributes := #[] }])
  fields := #[{ name := "MIN_VALUE", type := .long, accessFlags := 25, slot := 0, constantValue := 0 }, { name := "MAX_VALUE", type := .long, accessFlags := 25, slot := 1, constantValue := 0 }, { name := "TYPE", type := (.object "java/lang/Class"), accessFlags := 25, slot := 2, constantValue := 0 }, { name := "value", type := .long, accessFlags := 18, slot := 0, constantValue := 0 }, { name := "SIZE", type := .int, accessFlags := 25, slot := 3, constantValue := 0 }, { name := "BYTES", type := .int, accessFlags := 25, slot := 4, constantValue := 0 }, { name := "serialVersionUID", type := .long, accessFlags := 26, slot := 5, constantValue := 0 }]
  methods := #[k11m0, k11m1, k11m2]
  instanceTypes := #[.long]
  staticTypes := #[.long, .long, (.object "java/lang/Class"), .int, .int, .long]
  resolved := Array.replicate 524 none
  statics := none }

def pool12 : Array CpInfo := pool [(1, .class_ 2), (0, u "java/lang/Integer"), (16, u "digits"), (0, u "[C"), (32, u "numberOfLeadingZeros"), (0, u "(I)I"), (30, u "DigitOnes"), (0, u "[B"), (2, u "DigitTens"), (99, .class_ 190), (0, u "java/lang/Integer$IntegerCache"), (3, u "I"), (8, .class_ 204), (0, u "java/lang/Number"), (2, u "value"), (56, .integer 65536), (37, u "TYPE"), (0, u "Ljava/lang/Class;"), (0, .class_ 305), (0, u "java/lang/Comparable"), (0, .class_ 307), (0, u "java/lang/constant/Constable"), (0, .class_ 309), (0, u "java/lang/constant/ConstantDesc"), (0, u "MIN_VALUE"), (1, u "MAX_VALUE"), (3, u "SIZE"), (1, u "BYTES"), (1, u "serialVersionUID"), (0, u "J"), (84, u "numberOfTrailingZeros")] 46

def k12c0 : Code := { maxStack := 3, maxLocals := 2, code := jdk_33_method_47_code, exceptionTable := #[], attributes := #[] }
def k12m0 : Method := { name := "numberOfLeadingZeros", desc := "(I)I", sig := { parameters := [.int], returnType := some .int }, accessFlags := 9, code := some k12c0 }
def k12c1 : Code := { maxStack := 3, maxLocals := 2, code := jdk_33_method_48_code, exceptionTable := #[], attributes := #[] }
def k12m1 : Method := { name := "numberOfTrailingZeros", desc := "(I)I", sig := { parameters := [.int], returnType := some .int }, accessFlags := 9, code := some k12c1 }
/-- java/lang/Integer -/
def k12 : Class := { plain "java/lang/Integer" (some 9) with
  accessFlags := 49
  interfaces := #[3, 2, 10]
  cf := some (fileOf pool12 1 #[.nestMembers #[189]] #[{ accessFlags := 9, nameIndex := 53, descriptorIndex := 54, attributes := #[] }, { accessFlags := 9, nameIndex := 406, descriptorIndex := 54, attributes := #[] }] 49 203 #[304, 306, 308] #[{ accessFlags := 25, nameIndex := 310, descriptorIndex := 194, attributes := #[] }, { accessFlags := 25, nameIndex := 312, descriptorIndex := 194, attributes := #[] }, { accessFlags := 25, nameIndex := 302, descriptorIndex := 303, attributes := #[] }, { accessFlags := 24, nameIndex := 19, descriptorIndex := 20, attributes := #[] }, { accessFlags := 24, nameIndex := 89, descriptorIndex := 86, attributes := #[] }, { accessFlags := 24, nameIndex := 85, descriptorIndex := 86, attributes := #[] }, { accessFlags := 18, nameIndex := 207, descriptorIndex := 194, attributes := #[] }, { accessFlags := 25, nameIndex := 316, descriptorIndex := 194, attributes := #[] }, { accessFlags := 25, nameIndex := 318, descriptorIndex := 194, attributes := #[] }, { accessFlags := 26, nameIndex := 320, descriptorIndex := 321, attributes := #[] }])
  fields := #[{ name := "MIN_VALUE", type := .int, accessFlags := 25, slot := 0, constantValue := 0 }, { name := "MAX_VALUE", type := .int, accessFlags := 25, slot := 1, constantValue := 0 }, { name := "TYPE", type := (.object "java/lang/Class"), accessFlags := 25, slot := 2, constantValue := 0 }, { name := "digits", type := (.array .char), accessFlags := 24, slot := 3, constantValue := 0 }, { name := "DigitTens", type := (.array .byte), accessFlags := 24, slot := 4, constantValue := 0 }, { name := "DigitOnes", type := (.array .byte), accessFlags := 24, slot := 5, constantValue := 0 }, { name := "value", type := .int, accessFlags := 18, slot := 0, constantValue := 0 }, { name := "SIZE", type := .int, accessFlags := 25, slot := 6, constantValue := 0 }, { name := "BYTES", type := .int, accessFlags := 25, slot := 7, constantValue := 0 }, { name := "serialVersionUID", type := .long, accessFlags := 26, slot := 8, constantValue := 0 }]
  methods := #[k12m0, k12m1]
  instanceTypes := #[.int]
  staticTypes := #[.int, .int, (.object "java/lang/Class"), (.array .char), (.array .byte), (.array .byte), .int, .int, .long]
  resolved := Array.replicate 453 none
  statics := none }

def pool13 : Array CpInfo := pool [(1, .class_ 2), (0, u "java/lang/Math"), (1, .class_ 6), (1, u "java/lang/Object"), (0, u "<init>"), (0, u "()V"), (89, .class_ 100), (1, u "java/lang/Math$RandomNumberGeneratorHolder"), (71, u "negativeZeroFloatBits"), (0, u "J"), (2, u "negativeZeroDoubleBits"), (21, u "max"), (2, u "min"), (43, u "$assertionsDisabled"), (0, u "Z"), (88, u "(II)I"), (2, u "twoToTheDoubleScaleDown"), (0, u "D"), (4, u "twoToTheDoubleScaleUp"), (9, u "E"), (3, u "PI"), (2, u "TAU"), (2, u "DEGREES_TO_RADIANS"), (0, u "RADIANS_TO_DEGREES")] 94

def k13m0 : Method := { name := "<init>", desc := "()V", sig := { parameters := [], returnType := none }, accessFlags := 2, code := none }
def k13c1 : Code := { maxStack := 2, maxLocals := 2, code := jdk_29_method_65_code, exceptionTable := #[], attributes := #[] }
def k13m1 : Method := { name := "max", desc := "(II)I", sig := { parameters := [.int, .int], returnType := some .int }, accessFlags := 9, code := some k13c1 }
def k13c2 : Code := { maxStack := 2, maxLocals := 2, code := jdk_29_method_69_code, exceptionTable := #[], attributes := #[] }
def k13m2 : Method := { name := "min", desc := "(II)I", sig := { parameters := [.int, .int], returnType := some .int }, accessFlags := 9, code := some k13c2 }
/-- java/lang/Math -/
def k13 : Class := { plain "java/lang/Math" (some 0) with
  accessFlags := 49
  interfaces := #[]
  cf := some (fileOf pool13 1 #[.nestMembers #[98]] #[{ accessFlags := 2, nameIndex := 7, descriptorIndex := 8, attributes := #[] }, { accessFlags := 9, nameIndex := 198, descriptorIndex := 335, attributes := #[] }, { accessFlags := 9, nameIndex := 201, descriptorIndex := 335, attributes := #[] }] 49 4 #[] #[{ accessFlags := 25, nameIndex := 354, descriptorIndex := 339, attributes := #[] }, { accessFlags := 25, nameIndex := 358, descriptorIndex := 339, attributes := #[] }, { accessFlags := 25, nameIndex := 361, descriptorIndex := 339, attributes := #[] }, { accessFlags := 26, nameIndex := 364, descriptorIndex := 339, attributes := #[] }, { accessFlags := 26, nameIndex := 365, descriptorIndex := 339, attributes := #[] }, { accessFlags := 26, nameIndex := 172, descriptorIndex := 173, attributes := #[] }, { accessFlags := 26, nameIndex := 176, descriptorIndex := 173, attributes := #[] }, { accessFlags := 8, nameIndex := 344, descriptorIndex := 339, attributes := #[] }, { accessFlags := 8, nameIndex := 338, descriptorIndex := 339, attributes := #[] }, { accessFlags := 4120, nameIndex := 245, descriptorIndex := 246, attributes := #[] }])
  fields := #[{ name := "E", type := .double, accessFlags := 25, slot := 0, constantValue := 0 }, { name := "PI", type := .double, accessFlags := 25, slot := 1, constantValue := 0 }, { name := "TAU", type := .double, accessFlags := 25, slot := 2, constantValue := 0 }, { name := "DEGREES_TO_RADIANS", type := .double, accessFlags := 26, slot := 3, constantValue := 0 }, { name := "RADIANS_TO_DEGREES", type := .double, accessFlags := 26, slot := 4, constantValue := 0 }, { name := "negativeZeroFloatBits", type := .long, accessFlags := 26, slot := 5, constantValue := 0 }, { name := "negativeZeroDoubleBits", type := .long, accessFlags := 26, slot := 6, constantValue := 0 }, { name := "twoToTheDoubleScaleUp", type := .double, accessFlags := 8, slot := 7, constantValue := 0 }, { name := "twoToTheDoubleScaleDown", type := .double, accessFlags := 8, slot := 8, constantValue := 0 }, { name := "$assertionsDisabled", type := .boolean, accessFlags := 4120, slot := 9, constantValue := 0 }]
  methods := #[k13m0, k13m1, k13m2]
  instanceTypes := #[]
  staticTypes := #[.double, .double, .double, .double, .double, .long, .long, .double, .double, .boolean]
  resolved := Array.replicate 460 none
  statics := none }

def pool14 : Array CpInfo := pool [(2, .class_ 4), (1, u "java/lang/Object"), (0, u "<init>"), (0, u "()V"), (7, .class_ 16), (1, u "java/util/Arrays"), (57, .class_ 76), (1, u "java/util/Arrays$NaturalOrder"), (36, .class_ 115), (1, u "java/util/Arrays$LegacyMergeSort"), (1, u "Z"), (32, .methodref 151 152), (0, .class_ 153), (0, .nameAndType 154 155), (0, u "java/lang/System"), (0, u "arraycopy"), (0, u "(Ljava/lang/Object;ILjava/lang/Object;II)V"), (146, u "copyOf"), (1, .methodref 305 306), (0, .class_ 307), (0, .nameAndType 308 309), (0, u "java/lang/Math"), (0, u "min"), (0, u "(II)I"), (65, .class_ 376), (0, u "java/util/Arrays$ArrayList"), (68, u "$assertionsDisabled"), (269, u "MIN_ARRAY_SORT_GRAN"), (0, u "I"), (2, u "INSERTIONSORT_THRESHOLD"), (152, u "([JI)[J"), (102, .class_ 976), (0, u "java/util/Arrays$ArrayItr")] 52

def k14m0 : Method := { name := "<init>", desc := "()V", sig := { parameters := [], returnType := none }, accessFlags := 2, code := none }
def k14c1 : Code := { maxStack := 6, maxLocals := 3, code := jdk_65_method_124_code, exceptionTable := #[], attributes := #[] }
def k14m1 : Method := { name := "copyOf", desc := "([JI)[J", sig := { parameters := [(.array .long), .int], returnType := some (.array .long) }, accessFlags := 9, code := some k14c1 }
/-- java/util/Arrays -/
def k14 : Class := { plain "java/util/Arrays" (some 0) with
  accessFlags := 49
  interfaces := #[]
  cf := some (fileOf pool14 14 #[.nestMembers #[975, 375, 113, 74]] #[{ accessFlags := 2, nameIndex := 5, descriptorIndex := 6, attributes := #[] }, { accessFlags := 9, nameIndex := 302, descriptorIndex := 872, attributes := #[] }] 49 2 #[] #[{ accessFlags := 26, nameIndex := 715, descriptorIndex := 716, attributes := #[] }, { accessFlags := 26, nameIndex := 719, descriptorIndex := 716, attributes := #[] }, { accessFlags := 4120, nameIndex := 445, descriptorIndex := 117, attributes := #[] }])
  fields := #[{ name := "MIN_ARRAY_SORT_GRAN", type := .int, accessFlags := 26, slot := 0, constantValue := 0 }, { name := "INSERTIONSORT_THRESHOLD", type := .int, accessFlags := 26, slot := 1, constantValue := 0 }, { name := "$assertionsDisabled", type := .boolean, accessFlags := 4120, slot := 2, constantValue := 0 }]
  methods := #[k14m0, k14m1]
  instanceTypes := #[]
  staticTypes := #[.int, .int, .boolean]
  resolved := Array.replicate 1029 none
  statics := none }

def pool15 : Array CpInfo := pool [(2, .class_ 4), (1, u "java/lang/Object"), (0, u "<init>"), (0, u "()V"), (1, .class_ 10), (1, u "java/lang/System"), (0, u "allowSecurityManager"), (0, u "I"), (16, u "cons"), (0, u "Ljava/io/Console;"), (77, .class_ 110), (1, u "java/lang/System$CallersHolder"), (43, u "initialErrStream"), (0, u "Ljava/io/PrintStream;"), (19, u "security"), (0, u "Ljava/lang/SecurityManager;"), (31, .class_ 209), (0, u "java/lang/System$1"), (7, u "props"), (0, u "Ljava/util/Properties;"), (2, u "lineSeparator"), (0, u "Ljava/lang/String;"), (96, .class_ 321), (1, u "java/lang/System$LoggerFinder"), (5, .class_ 328), (0, u "java/lang/System$Logger"), (67, u "err"), (2, u "out"), (91, u "notSupportedJnuEncoding"), (15, u "in"), (17, u "initialIn"), (0, u "Ljava/io/InputStream;"), (35, u "bootLayer"), (0, u "Ljava/lang/ModuleLayer;"), (99, .class_ 664), (0, u "java/lang/System$2"), (9, u "NEVER"), (2, u "MAYBE"), (49, u "arraycopy"), (0, u "(Ljava/lang/Object;ILjava/lang/Object;II)V"), (72, .class_ 802), (0, u "java/lang/System$Logger$Level")] 31

def k15m0 : Method := { name := "<init>", desc := "()V", sig := { parameters := [], returnType := none }, accessFlags := 2, code := none }
def k15m1 : Method := { name := "arraycopy", desc := "(Ljava/lang/Object;ILjava/lang/Object;II)V", sig := { parameters := [(.object "java/lang/Object"), .int, (.object "java/lang/Object"), .int, .int], returnType := none }, accessFlags := 265, code := none }
/-- java/lang/System -/
def k15 : Class := { plain "java/lang/System" (some 0) with
  accessFlags := 49
  interfaces := #[]
  cf := some (fileOf pool15 8 #[.nestMembers #[319, 327, 801, 108, 663, 208]] #[{ accessFlags := 2, nameIndex := 5, descriptorIndex := 6, attributes := #[] }, { accessFlags := 265, nameIndex := 727, descriptorIndex := 728, attributes := #[] }] 49 2 #[] #[{ accessFlags := 25, nameIndex := 507, descriptorIndex := 526, attributes := #[] }, { accessFlags := 25, nameIndex := 399, descriptorIndex := 155, attributes := #[] }, { accessFlags := 25, nameIndex := 396, descriptorIndex := 155, attributes := #[] }, { accessFlags := 10, nameIndex := 525, descriptorIndex := 526, attributes := #[] }, { accessFlags := 26, nameIndex := 674, descriptorIndex := 12, attributes := #[] }, { accessFlags := 26, nameIndex := 677, descriptorIndex := 12, attributes := #[] }, { accessFlags := 10, nameIndex := 11, descriptorIndex := 12, attributes := #[] }, { accessFlags := 74, nameIndex := 175, descriptorIndex := 176, attributes := #[] }, { accessFlags := 10, nameIndex := 491, descriptorIndex := 222, attributes := #[] }, { accessFlags := 74, nameIndex := 29, descriptorIndex := 30, attributes := #[] }, { accessFlags := 74, nameIndex := 154, descriptorIndex := 155, attributes := #[] }, { accessFlags := 10, nameIndex := 217, descriptorIndex := 218, attributes := #[] }, { accessFlags := 10, nameIndex := 221, descriptorIndex := 222, attributes := #[] }, { accessFlags := 8, nameIndex := 562, descriptorIndex := 563, attributes := #[] }])
  fields := #[{ name := "in", type := (.object "java/io/InputStream"), accessFlags := 25, slot := 0, constantValue := 0 }, { name := "out", type := (.object "java/io/PrintStream"), accessFlags := 25, slot := 1, constantValue := 0 }, { name := "err", type := (.object "java/io/PrintStream"), accessFlags := 25, slot := 2, constantValue := 0 }, { name := "initialIn", type := (.object "java/io/InputStream"), accessFlags := 10, slot := 3, constantValue := 0 }, { name := "NEVER", type := .int, accessFlags := 26, slot := 4, constantValue := 0 }, { name := "MAYBE", type := .int, accessFlags := 26, slot := 5, constantValue := 0 }, { name := "allowSecurityManager", type := .int, accessFlags := 10, slot := 6, constantValue := 0 }, { name := "security", type := (.object "java/lang/SecurityManager"), accessFlags := 74, slot := 7, constantValue := 0 }, { name := "notSupportedJnuEncoding", type := (.object "java/lang/String"), accessFlags := 10, slot := 8, constantValue := 0 }, { name := "cons", type := (.object "java/io/Console"), accessFlags := 74, slot := 9, constantValue := 0 }, { name := "initialErrStream", type := (.object "java/io/PrintStream"), accessFlags := 74, slot := 10, constantValue := 0 }, { name := "props", type := (.object "java/util/Properties"), accessFlags := 10, slot := 11, constantValue := 0 }, { name := "lineSeparator", type := (.object "java/lang/String"), accessFlags := 10, slot := 12, constantValue := 0 }, { name := "bootLayer", type := (.object "java/lang/ModuleLayer"), accessFlags := 8, slot := 13, constantValue := 0 }]
  methods := #[k15m0, k15m1]
  instanceTypes := #[]
  staticTypes := #[(.object "java/io/InputStream"), (.object "java/io/PrintStream"), (.object "java/io/PrintStream"), (.object "java/io/InputStream"), .int, .int, .int, (.object "java/lang/SecurityManager"), (.object "java/lang/String"), (.object "java/io/Console"), (.object "java/io/PrintStream"), (.object "java/util/Properties"), (.object "java/lang/String"), (.object "java/lang/ModuleLayer")]
  resolved := Array.replicate 834 none
  statics := none }

/-- the primitive byte -/
def k16 : Class := { plain "byte" none with kind := .primitive 'B', accessFlags := 0x411 }
/-- [B -/
def k17 : Class := { plain "[B" (some 0) with kind := .array 16 .byte, interfaces := #[7, 4], accessFlags := 1041 }

/-- the primitive int -/
def k18 : Class := { plain "int" none with kind := .primitive 'I', accessFlags := 0x411 }
/-- [I -/
def k19 : Class := { plain "[I" (some 0) with kind := .array 18 .int, interfaces := #[7, 4], accessFlags := 1041 }

/-- the primitive long -/
def k20 : Class := { plain "long" none with kind := .primitive 'J', accessFlags := 0x411 }
/-- [J -/
def k21 : Class := { plain "[J" (some 0) with kind := .array 20 .long, interfaces := #[7, 4], accessFlags := 1041 }

def heap : Heap := #[{ cls := 6, slots := #[.ref 2, .ref 3, .ref 4, .ref 5, .ref 6, .ref 7, .ref 8, .null, .int 0, .null], vm := .statics 6 },
  { cls := 8, slots := #[.int 0, .int 0, .int 0, .long 0, .null, .long 0, .int 1], vm := .statics 8 },
  { cls := 6, slots := #[.null, .int 0, .int 0, .null, .int 0, .int 59, .null], vm := .none },
  { cls := 6, slots := #[.null, .int 1, .int 0, .null, .int 0, .int 59, .null], vm := .none },
  { cls := 6, slots := #[.null, .int 2, .int 0, .null, .int 0, .int 23, .null], vm := .none },
  { cls := 6, slots := #[.null, .int 3, .int 0, .null, .int 1, .int 31, .null], vm := .none },
  { cls := 6, slots := #[.null, .int 4, .int 0, .null, .int 1, .int 12, .null], vm := .none },
  { cls := 6, slots := #[.null, .int 5, .int 0, .null, .int 1, .int 7, .null], vm := .none },
  { cls := 6, slots := #[.null, .int 6, .int 0, .null, .int 1970, .int 2099, .null], vm := .none }]
def classes : Array Class := #[k0, k1, k2, k3, k4, k5, k6, k7, k8, k9, k10, k11, k12, k13, k14, k15, k16, k17, k18, k19, k20, k21]
def interned : List (Array UInt16 × Addr) := []
def slotsUsed : Nat := 66
def theMethod : MethodId := ⟨1, 4⟩
def args0 : Array Value := #[.int 5, .int 77]
def aboutOver (below : List Frame) : State where
  vm := { classes := classes, interned := interned.toArray }
  heap := heap
  slotsUsed := slotsUsed
  threads := #[{ frames := .invoking theMethod args0 :: below }]
def below0 : List Frame := [.native { method := ⟨0, 0⟩, args := #[] }]
def about1 : State := aboutOver below0
def p0 : Program := .bare "" "" ""
def e0 : Env := launch0.env 0 0 0
theorem w_frames : about1.frames = Frame.invoking theMethod args0 :: below0 := rfl
set_option maxRecDepth 65536 in
theorem w_args : argsFit about1.vm theMethod args0 = true := by decide +kernel
set_option maxRecDepth 65536 in
theorem w_heap : heapFits about1 = true := by decide +kernel
set_option maxRecDepth 65536 in
theorem w_runnable : about1.curStatus? = some .runnable := by decide +kernel
set_option maxRecDepth 65536 in
theorem w_alone : about1.alone = true := by decide +kernel
set_option maxRecDepth 65536 in
theorem w_named : about1.methodNamed? x = some theMethod := by decide +kernel
set_option maxRecDepth 65536 in
theorem w_hears : about1.hears theMethod below0 = true := by decide +kernel
set_option maxRecDepth 65536 in
theorem w_ripe : about1.ripe theMethod args0 below0 = true := by decide +kernel
theorem w_running : about1.status = .running := rfl
set_option maxRecDepth 65536 in
theorem w_room : about1.hasRoom e0.platform room_1 = true :=
  launch0.hasRoom_least _ room_1 (by decide +kernel) (by decide +kernel) (by decide +kernel) (by decide +kernel) (by decide +kernel) (by decide +kernel)
theorem allAtoms_all (ts : List Jvm.Cond) (a : Array Jvm.Value) (st : Jvm.State) : (allAtoms ts).before a st = ts.all (fun c => c.before a st) := by
  induction ts with
  | nil => rfl
  | cons c t ih =>
    show (Jvm.Cond.and c (allAtoms t)).before a st = _
    rw [Jvm.Cond.before_and, ih, List.all_cons]
def words1 : List Jvm.Cond := Jvm.Cond.code x code maxLocals ret :: tables_1
/-- a 'code' word, met by the world's own term for the bytes: nothing is compared byte by byte -/
theorem code_word {y : MethodName} {bytes : ByteArray} {mx : Nat} {rt : Option FieldType} {a : Array Value} {s : State} {m : MethodId} {meth : Method} {c : Code} (h1 : s.methodNamed? y = some m) (h2 : s.vm.method? m = some meth) (h3 : meth.code = some c) (h4 : c.code = bytes)
    (h5 : (c.maxLocals == mx && c.exceptionTable.isEmpty && decide (c.maxStack ≤ mostOperands) && decide (meth.sig.returnType = rt) && !meth.locks && decide (parseMethodDescriptor y.desc = some meth.sig)) = true) : (Jvm.Cond.code y bytes mx rt).before a s = true := by
  simp only [Bool.and_eq_true, beq_iff_eq, Bool.not_eq_true', decide_eq_true_eq] at h5
  obtain ⟨⟨⟨⟨⟨g1, g2⟩, g3⟩, g4⟩, g5⟩, g6⟩ := h5
  simp [Cond.before, Cond.holds, Cond.value, h1, h2, h3, h4, g1, g2, g3, g4, g5, g6]
def isCode : Jvm.Cond → Bool
  | .code _ _ _ _ => true
  | _ => false
theorem all_split {L : List Jvm.Cond} {P : Jvm.Cond → Bool} (h1 : L.all (fun c => isCode c || P c) = true) (h2 : ∀ c ∈ L.filter isCode, P c = true) : L.all P = true := by
  refine List.all_eq_true.mpr fun c hc => ?_
  have h := List.all_eq_true.mp h1 c hc
  rcases Bool.eq_false_or_eq_true (isCode c) with hi | hi
  · exact h2 c (List.mem_filter.mpr ⟨hc, hi⟩)
  · simpa [hi] using h
set_option maxRecDepth 65536 in
theorem w_c0 : (Jvm.Cond.code x code maxLocals ret).before args0 about1 = true := code_word (m := ⟨1, 4⟩) (meth := k1m4) (c := k1c4) (by decide +kernel) rfl rfl rfl (by decide +kernel)
set_option maxRecDepth 65536 in
theorem w_c1 : (Jvm.Cond.code ({ cls := "com/example/rhadamanthus/rhadamanthus/model/CronFieldAllPinLaw", name := "field", desc := "(I)Lcom/example/rhadamanthus/rhadamanthus/model/CronField;" } : Jvm.MethodName) method_2_code (1 : Nat) (Option.some (Jvm.ClassFile.FieldType.object "com/example/rhadamanthus/rhadamanthus/model/CronField"))).before args0 about1 = true := code_word (m := ⟨1, 1⟩) (meth := k1m1) (c := k1c1) (by decide +kernel) rfl rfl rfl (by decide +kernel)
set_option maxRecDepth 65536 in
theorem w_c2 : (Jvm.Cond.code ({ cls := "com/example/rhadamanthus/rhadamanthus/model/CronFieldAllPinLaw", name := "low", desc := "(I)I" } : Jvm.MethodName) method_3_code (1 : Nat) (Option.some Jvm.ClassFile.FieldType.int)).before args0 about1 = true := code_word (m := ⟨1, 2⟩) (meth := k1m2) (c := k1c2) (by decide +kernel) rfl rfl rfl (by decide +kernel)
set_option maxRecDepth 65536 in
theorem w_c3 : (Jvm.Cond.code ({ cls := "com/example/rhadamanthus/rhadamanthus/model/CronFieldAllPinLaw", name := "high", desc := "(I)I" } : Jvm.MethodName) method_4_code (1 : Nat) (Option.some Jvm.ClassFile.FieldType.int)).before args0 about1 = true := code_word (m := ⟨1, 3⟩) (meth := k1m3) (c := k1c3) (by decide +kernel) rfl rfl rfl (by decide +kernel)
set_option maxRecDepth 65536 in
theorem w_c4 : (Jvm.Cond.code ({ cls := "com/example/rhadamanthus/rhadamanthus/model/CronField", name := "all", desc := "()Ljava/util/BitSet;" } : Jvm.MethodName) prog_17_method_6_code (2 : Nat) (Option.some (Jvm.ClassFile.FieldType.object "java/util/BitSet"))).before args0 about1 = true := code_word (m := ⟨6, 0⟩) (meth := k6m0) (c := k6c0) (by decide +kernel) rfl rfl rfl (by decide +kernel)
set_option maxRecDepth 65536 in
theorem w_c5 : (Jvm.Cond.code ({ cls := "java/util/BitSet", name := "<init>", desc := "()V" } : Jvm.MethodName) jdk_92_method_4_code (1 : Nat) (Option.none : Option Jvm.ClassFile.FieldType)).before args0 about1 = true := code_word (m := ⟨8, 2⟩) (meth := k8m2) (c := k8c2) (by decide +kernel) rfl rfl rfl (by decide +kernel)
set_option maxRecDepth 65536 in
theorem w_c6 : (Jvm.Cond.code ({ cls := "java/lang/Object", name := "<init>", desc := "()V" } : Jvm.MethodName) object_method_1_code (1 : Nat) (Option.none : Option Jvm.ClassFile.FieldType)).before args0 about1 = true := code_word (m := ⟨0, 0⟩) (meth := k0m0) (c := k0c0) (by decide +kernel) rfl rfl rfl (by decide +kernel)
set_option maxRecDepth 65536 in
theorem w_c7 : (Jvm.Cond.code ({ cls := "java/util/BitSet", name := "initWords", desc := "(I)V" } : Jvm.MethodName) jdk_92_method_6_code (2 : Nat) (Option.none : Option Jvm.ClassFile.FieldType)).before args0 about1 = true := code_word (m := ⟨8, 3⟩) (meth := k8m3) (c := k8c3) (by decide +kernel) rfl rfl rfl (by decide +kernel)
set_option maxRecDepth 65536 in
theorem w_c8 : (Jvm.Cond.code ({ cls := "java/util/BitSet", name := "wordIndex", desc := "(I)I" } : Jvm.MethodName) jdk_92_method_1_code (1 : Nat) (Option.some Jvm.ClassFile.FieldType.int)).before args0 about1 = true := code_word (m := ⟨8, 0⟩) (meth := k8m0) (c := k8c0) (by decide +kernel) rfl rfl rfl (by decide +kernel)
set_option maxRecDepth 65536 in
theorem w_c9 : (Jvm.Cond.code ({ cls := "java/util/BitSet", name := "set", desc := "(II)V" } : Jvm.MethodName) jdk_92_method_21_code (10 : Nat) (Option.none : Option Jvm.ClassFile.FieldType)).before args0 about1 = true := code_word (m := ⟨8, 7⟩) (meth := k8m7) (c := k8c7) (by decide +kernel) rfl rfl rfl (by decide +kernel)
set_option maxRecDepth 65536 in
theorem w_c10 : (Jvm.Cond.code ({ cls := "java/util/BitSet", name := "checkRange", desc := "(II)V" } : Jvm.MethodName) jdk_92_method_16_code (2 : Nat) (Option.none : Option Jvm.ClassFile.FieldType)).before args0 about1 = true := code_word (m := ⟨8, 6⟩) (meth := k8m6) (c := k8c6) (by decide +kernel) rfl rfl rfl (by decide +kernel)
set_option maxRecDepth 65536 in
theorem w_c11 : (Jvm.Cond.code ({ cls := "java/util/BitSet", name := "expandTo", desc := "(I)V" } : Jvm.MethodName) jdk_92_method_15_code (3 : Nat) (Option.none : Option Jvm.ClassFile.FieldType)).before args0 about1 = true := code_word (m := ⟨8, 5⟩) (meth := k8m5) (c := k8c5) (by decide +kernel) rfl rfl rfl (by decide +kernel)
set_option maxRecDepth 65536 in
theorem w_c12 : (Jvm.Cond.code ({ cls := "java/util/BitSet", name := "ensureCapacity", desc := "(I)V" } : Jvm.MethodName) jdk_92_method_14_code (3 : Nat) (Option.none : Option Jvm.ClassFile.FieldType)).before args0 about1 = true := code_word (m := ⟨8, 4⟩) (meth := k8m4) (c := k8c4) (by decide +kernel) rfl rfl rfl (by decide +kernel)
set_option maxRecDepth 65536 in
theorem w_c13 : (Jvm.Cond.code ({ cls := "java/util/BitSet", name := "checkInvariants", desc := "()V" } : Jvm.MethodName) jdk_92_method_2_code (1 : Nat) (Option.none : Option Jvm.ClassFile.FieldType)).before args0 about1 = true := code_word (m := ⟨8, 1⟩) (meth := k8m1) (c := k8c1) (by decide +kernel) rfl rfl rfl (by decide +kernel)
set_option maxRecDepth 65536 in
theorem w_c14 : (Jvm.Cond.code ({ cls := "java/util/BitSet", name := "nextSetBit", desc := "(I)I" } : Jvm.MethodName) jdk_92_method_28_code (5 : Nat) (Option.some Jvm.ClassFile.FieldType.int)).before args0 about1 = true := code_word (m := ⟨8, 9⟩) (meth := k8m9) (c := k8c9) (by decide +kernel) rfl rfl rfl (by decide +kernel)
set_option maxRecDepth 65536 in
theorem w_c15 : (Jvm.Cond.code ({ cls := "java/lang/Long", name := "numberOfTrailingZeros", desc := "(J)I" } : Jvm.MethodName) jdk_35_method_49_code (3 : Nat) (Option.some Jvm.ClassFile.FieldType.int)).before args0 about1 = true := code_word (m := ⟨11, 1⟩) (meth := k11m1) (c := k11c1) (by decide +kernel) rfl rfl rfl (by decide +kernel)
set_option maxRecDepth 65536 in
theorem w_c16 : (Jvm.Cond.code ({ cls := "java/lang/Integer", name := "numberOfTrailingZeros", desc := "(I)I" } : Jvm.MethodName) jdk_33_method_48_code (2 : Nat) (Option.some Jvm.ClassFile.FieldType.int)).before args0 about1 = true := code_word (m := ⟨12, 1⟩) (meth := k12m1) (c := k12c1) (by decide +kernel) rfl rfl rfl (by decide +kernel)
set_option maxRecDepth 65536 in
theorem w_c17 : (Jvm.Cond.code ({ cls := "java/util/BitSet", name := "length", desc := "()I" } : Jvm.MethodName) jdk_92_method_32_code (1 : Nat) (Option.some Jvm.ClassFile.FieldType.int)).before args0 about1 = true := code_word (m := ⟨8, 10⟩) (meth := k8m10) (c := k8c10) (by decide +kernel) rfl rfl rfl (by decide +kernel)
set_option maxRecDepth 65536 in
theorem w_c18 : (Jvm.Cond.code ({ cls := "java/lang/Long", name := "numberOfLeadingZeros", desc := "(J)I" } : Jvm.MethodName) jdk_35_method_48_code (3 : Nat) (Option.some Jvm.ClassFile.FieldType.int)).before args0 about1 = true := code_word (m := ⟨11, 0⟩) (meth := k11m0) (c := k11c0) (by decide +kernel) rfl rfl rfl (by decide +kernel)
set_option maxRecDepth 65536 in
theorem w_c19 : (Jvm.Cond.code ({ cls := "java/lang/Integer", name := "numberOfLeadingZeros", desc := "(I)I" } : Jvm.MethodName) jdk_33_method_47_code (2 : Nat) (Option.some Jvm.ClassFile.FieldType.int)).before args0 about1 = true := code_word (m := ⟨12, 0⟩) (meth := k12m0) (c := k12c0) (by decide +kernel) rfl rfl rfl (by decide +kernel)
set_option maxRecDepth 65536 in
theorem w_c20 : (Jvm.Cond.code ({ cls := "java/util/BitSet", name := "cardinality", desc := "()I" } : Jvm.MethodName) jdk_92_method_35_code (3 : Nat) (Option.some Jvm.ClassFile.FieldType.int)).before args0 about1 = true := code_word (m := ⟨8, 11⟩) (meth := k8m11) (c := k8c11) (by decide +kernel) rfl rfl rfl (by decide +kernel)
set_option maxRecDepth 65536 in
theorem w_c21 : (Jvm.Cond.code ({ cls := "java/lang/Long", name := "bitCount", desc := "(J)I" } : Jvm.MethodName) jdk_35_method_50_code (2 : Nat) (Option.some Jvm.ClassFile.FieldType.int)).before args0 about1 = true := code_word (m := ⟨11, 2⟩) (meth := k11m2) (c := k11c2) (by decide +kernel) rfl rfl rfl (by decide +kernel)
set_option maxRecDepth 65536 in
theorem w_c22 : (Jvm.Cond.code ({ cls := "java/util/BitSet", name := "get", desc := "(I)Z" } : Jvm.MethodName) jdk_92_method_26_code (3 : Nat) (Option.some Jvm.ClassFile.FieldType.boolean)).before args0 about1 = true := code_word (m := ⟨8, 8⟩) (meth := k8m8) (c := k8c8) (by decide +kernel) rfl rfl rfl (by decide +kernel)
set_option maxRecDepth 65536 in
theorem w_c23 : (Jvm.Cond.code ({ cls := "java/lang/Math", name := "max", desc := "(II)I" } : Jvm.MethodName) jdk_29_method_65_code (2 : Nat) (Option.some Jvm.ClassFile.FieldType.int)).before args0 about1 = true := code_word (m := ⟨13, 1⟩) (meth := k13m1) (c := k13c1) (by decide +kernel) rfl rfl rfl (by decide +kernel)
set_option maxRecDepth 65536 in
theorem w_c24 : (Jvm.Cond.code ({ cls := "java/util/Arrays", name := "copyOf", desc := "([JI)[J" } : Jvm.MethodName) jdk_65_method_124_code (3 : Nat) (Option.some (Jvm.ClassFile.FieldType.array Jvm.ClassFile.FieldType.long))).before args0 about1 = true := code_word (m := ⟨14, 1⟩) (meth := k14m1) (c := k14c1) (by decide +kernel) rfl rfl rfl (by decide +kernel)
set_option maxRecDepth 65536 in
theorem w_c25 : (Jvm.Cond.code ({ cls := "java/lang/Math", name := "min", desc := "(II)I" } : Jvm.MethodName) jdk_29_method_69_code (2 : Nat) (Option.some Jvm.ClassFile.FieldType.int)).before args0 about1 = true := code_word (m := ⟨13, 2⟩) (meth := k13m2) (c := k13c2) (by decide +kernel) rfl rfl rfl (by decide +kernel)
def codes1 : List Jvm.Cond := [Jvm.Cond.code x code maxLocals ret, Jvm.Cond.code ({ cls := "com/example/rhadamanthus/rhadamanthus/model/CronFieldAllPinLaw", name := "field", desc := "(I)Lcom/example/rhadamanthus/rhadamanthus/model/CronField;" } : Jvm.MethodName) method_2_code (1 : Nat) (Option.some (Jvm.ClassFile.FieldType.object "com/example/rhadamanthus/rhadamanthus/model/CronField")), Jvm.Cond.code ({ cls := "com/example/rhadamanthus/rhadamanthus/model/CronFieldAllPinLaw", name := "low", desc := "(I)I" } : Jvm.MethodName) method_3_code (1 : Nat) (Option.some Jvm.ClassFile.FieldType.int), Jvm.Cond.code ({ cls := "com/example/rhadamanthus/rhadamanthus/model/CronFieldAllPinLaw", name := "high", desc := "(I)I" } : Jvm.MethodName) method_4_code (1 : Nat) (Option.some Jvm.ClassFile.FieldType.int), Jvm.Cond.code ({ cls := "com/example/rhadamanthus/rhadamanthus/model/CronField", name := "all", desc := "()Ljava/util/BitSet;" } : Jvm.MethodName) prog_17_method_6_code (2 : Nat) (Option.some (Jvm.ClassFile.FieldType.object "java/util/BitSet")), Jvm.Cond.code ({ cls := "java/util/BitSet", name := "<init>", desc := "()V" } : Jvm.MethodName) jdk_92_method_4_code (1 : Nat) (Option.none : Option Jvm.ClassFile.FieldType), Jvm.Cond.code ({ cls := "java/lang/Object", name := "<init>", desc := "()V" } : Jvm.MethodName) object_method_1_code (1 : Nat) (Option.none : Option Jvm.ClassFile.FieldType), Jvm.Cond.code ({ cls := "java/util/BitSet", name := "initWords", desc := "(I)V" } : Jvm.MethodName) jdk_92_method_6_code (2 : Nat) (Option.none : Option Jvm.ClassFile.FieldType), Jvm.Cond.code ({ cls := "java/util/BitSet", name := "wordIndex", desc := "(I)I" } : Jvm.MethodName) jdk_92_method_1_code (1 : Nat) (Option.some Jvm.ClassFile.FieldType.int), Jvm.Cond.code ({ cls := "java/util/BitSet", name := "set", desc := "(II)V" } : Jvm.MethodName) jdk_92_method_21_code (10 : Nat) (Option.none : Option Jvm.ClassFile.FieldType), Jvm.Cond.code ({ cls := "java/util/BitSet", name := "checkRange", desc := "(II)V" } : Jvm.MethodName) jdk_92_method_16_code (2 : Nat) (Option.none : Option Jvm.ClassFile.FieldType), Jvm.Cond.code ({ cls := "java/util/BitSet", name := "expandTo", desc := "(I)V" } : Jvm.MethodName) jdk_92_method_15_code (3 : Nat) (Option.none : Option Jvm.ClassFile.FieldType), Jvm.Cond.code ({ cls := "java/util/BitSet", name := "ensureCapacity", desc := "(I)V" } : Jvm.MethodName) jdk_92_method_14_code (3 : Nat) (Option.none : Option Jvm.ClassFile.FieldType), Jvm.Cond.code ({ cls := "java/util/BitSet", name := "checkInvariants", desc := "()V" } : Jvm.MethodName) jdk_92_method_2_code (1 : Nat) (Option.none : Option Jvm.ClassFile.FieldType), Jvm.Cond.code ({ cls := "java/util/BitSet", name := "nextSetBit", desc := "(I)I" } : Jvm.MethodName) jdk_92_method_28_code (5 : Nat) (Option.some Jvm.ClassFile.FieldType.int), Jvm.Cond.code ({ cls := "java/lang/Long", name := "numberOfTrailingZeros", desc := "(J)I" } : Jvm.MethodName) jdk_35_method_49_code (3 : Nat) (Option.some Jvm.ClassFile.FieldType.int), Jvm.Cond.code ({ cls := "java/lang/Integer", name := "numberOfTrailingZeros", desc := "(I)I" } : Jvm.MethodName) jdk_33_method_48_code (2 : Nat) (Option.some Jvm.ClassFile.FieldType.int), Jvm.Cond.code ({ cls := "java/util/BitSet", name := "length", desc := "()I" } : Jvm.MethodName) jdk_92_method_32_code (1 : Nat) (Option.some Jvm.ClassFile.FieldType.int), Jvm.Cond.code ({ cls := "java/lang/Long", name := "numberOfLeadingZeros", desc := "(J)I" } : Jvm.MethodName) jdk_35_method_48_code (3 : Nat) (Option.some Jvm.ClassFile.FieldType.int), Jvm.Cond.code ({ cls := "java/lang/Integer", name := "numberOfLeadingZeros", desc := "(I)I" } : Jvm.MethodName) jdk_33_method_47_code (2 : Nat) (Option.some Jvm.ClassFile.FieldType.int), Jvm.Cond.code ({ cls := "java/util/BitSet", name := "cardinality", desc := "()I" } : Jvm.MethodName) jdk_92_method_35_code (3 : Nat) (Option.some Jvm.ClassFile.FieldType.int), Jvm.Cond.code ({ cls := "java/lang/Long", name := "bitCount", desc := "(J)I" } : Jvm.MethodName) jdk_35_method_50_code (2 : Nat) (Option.some Jvm.ClassFile.FieldType.int), Jvm.Cond.code ({ cls := "java/util/BitSet", name := "get", desc := "(I)Z" } : Jvm.MethodName) jdk_92_method_26_code (3 : Nat) (Option.some Jvm.ClassFile.FieldType.boolean), Jvm.Cond.code ({ cls := "java/lang/Math", name := "max", desc := "(II)I" } : Jvm.MethodName) jdk_29_method_65_code (2 : Nat) (Option.some Jvm.ClassFile.FieldType.int), Jvm.Cond.code ({ cls := "java/util/Arrays", name := "copyOf", desc := "([JI)[J" } : Jvm.MethodName) jdk_65_method_124_code (3 : Nat) (Option.some (Jvm.ClassFile.FieldType.array Jvm.ClassFile.FieldType.long)), Jvm.Cond.code ({ cls := "java/lang/Math", name := "min", desc := "(II)I" } : Jvm.MethodName) jdk_29_method_69_code (2 : Nat) (Option.some Jvm.ClassFile.FieldType.int)]
set_option maxRecDepth 65536 in
theorem codes_eq : words1.filter isCode = codes1 := rfl
theorem w_codes : ∀ c ∈ words1.filter isCode, c.before args0 about1 = true := by
  rw [codes_eq]
  intro c hc
  simp only [codes1, List.mem_cons, List.not_mem_nil, or_false] at hc
  rcases hc with rfl | rfl | rfl | rfl | rfl | rfl | rfl | rfl | rfl | rfl | rfl | rfl | rfl | rfl | rfl | rfl | rfl | rfl | rfl | rfl | rfl | rfl | rfl | rfl | rfl | rfl
  · exact w_c0
  · exact w_c1
  · exact w_c2
  · exact w_c3
  · exact w_c4
  · exact w_c5
  · exact w_c6
  · exact w_c7
  · exact w_c8
  · exact w_c9
  · exact w_c10
  · exact w_c11
  · exact w_c12
  · exact w_c13
  · exact w_c14
  · exact w_c15
  · exact w_c16
  · exact w_c17
  · exact w_c18
  · exact w_c19
  · exact w_c20
  · exact w_c21
  · exact w_c22
  · exact w_c23
  · exact w_c24
  · exact w_c25
set_option maxRecDepth 65536 in
theorem w_t1 : (words1.take 24).all (fun c => isCode c || c.before args0 about1) = true := by decide +kernel
set_option maxRecDepth 65536 in
theorem w_t2 : ((words1.drop 24).take 24).all (fun c => isCode c || c.before args0 about1) = true := by decide +kernel
set_option maxRecDepth 65536 in
theorem w_t3 : (((words1.drop 24).drop 24).take 24).all (fun c => isCode c || c.before args0 about1) = true := by decide +kernel
set_option maxRecDepth 65536 in
theorem w_t4 : ((((words1.drop 24).drop 24).drop 24).take 24).all (fun c => isCode c || c.before args0 about1) = true := by decide +kernel
set_option maxRecDepth 65536 in
theorem w_t5 : (((((words1.drop 24).drop 24).drop 24).drop 24).take 24).all (fun c => isCode c || c.before args0 about1) = true := by decide +kernel
set_option maxRecDepth 65536 in
theorem w_t6 : (((((words1.drop 24).drop 24).drop 24).drop 24).drop 24).all (fun c => isCode c || c.before args0 about1) = true := by decide +kernel
theorem w_tables : (allAtoms (Jvm.Cond.code x code maxLocals ret :: tables_1)).before args0 about1 = true := by
  rw [allAtoms_all]
  show words1.all (fun c => c.before args0 about1) = true
  refine all_split ?_ w_codes
  rw [← List.take_append_drop 24 words1, List.all_append, w_t1, ← List.take_append_drop 24 (words1.drop 24), List.all_append, w_t2, ← List.take_append_drop 24 ((words1.drop 24).drop 24), List.all_append, w_t3, ← List.take_append_drop 24 (((words1.drop 24).drop 24).drop 24), List.all_append, w_t4, ← List.take_append_drop 24 ((((words1.drop 24).drop 24).drop 24).drop 24), List.all_append, w_t5, w_t6]
  rfl
set_option maxRecDepth 65536 in
theorem w_rest : rest_1_c.before args0 about1 = true := by decide +kernel
set_option maxRecDepth 65536 in
theorem w_case : (Jvm.Cond.and given_1 narrow_1).before args0 about1 = true := by decide +kernel
theorem w_applies : (headSpec (Jvm.Cond.code x code maxLocals ret :: tables_1) room_1).applies x e0.platform about1 = true :=
  (Spec.applies_iff w_frames).mpr ⟨w_running, w_runnable, w_alone, w_named, w_hears, w_ripe, w_room, w_tables⟩
theorem atStart : AtStart classFile x code maxLocals ret World_1 tables_1 room_1 Calls_1 rest_1 Pre_1 launch0 p0 e0 about1 theMethod args0 below0 :=
  ⟨lists_1, trivial, launch0.admits_env _ _ _, launch0.least_env, fairChoices_fair.cas, fairChoices_fair.clock, w_frames, w_args, w_heap, w_applies, trivial, w_rest, w_case⟩
end start1
theorem witness_1 : WitnessClaimed_1 := ⟨start1.p0, start1.e0, start1.about1, start1.theMethod, start1.args0, start1.below0, start1.atStart⟩
end Jvm.Pilot.@@N@@
