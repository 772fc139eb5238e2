import JvmDerived
import JvmDerived.Pilot.@@N@@Statement
import JvmDerived.Pilot.@@N@@Code
set_option linter.unusedVariables false
set_option linter.unusedSimpArgs false
namespace Jvm.Pilot.@@N@@
open Jvm Jvm.ClassFile Sem Op Lib Jvm.Free Jvm.Stand Jvm.LawKit Jvm.RoadKit Bundle Jvm.Pilot.@@N@@.Jvm.D
/-! own kit: the walk in program order: own_G says that from this frame on the run ends as promised -/
def own_G (tb : Tables) (e : Env) (below : List Frame) (P : Outcome → State → Prop) (T : State) (f : JFrame) : Prop :=
  ∃ s₂ o, Steps tb e below (T.setTop f) s₂ ∧ s₂.status = .running ∧ Ended s₂ below o ∧ P o s₂
def own_P (s : State) (Q : Option Value → Heap → List Loc → Prop) (C S : Nat) (o : Outcome) (U : State) : Prop :=
  ∃ v L, o = .returned v ∧ Q v U.heap L ∧ FrameEnd s o U L C S
theorem own_go {tb : Tables} {e : Env} {below : List Frame} {P : Outcome → State → Prop} {T T' : State} {f f' : JFrame} (st : ∀ target, Steps tb e below (T'.setTop f') target → Steps tb e below (T.setTop f) target) (k : own_G tb e below P T' f') : own_G tb e below P T f := by
  obtain ⟨s₂, o, h1, h2⟩ := k
  exact ⟨s₂, o, st _ h1, h2⟩
section OwnKit
variable {p : Program} {l : Launch} {e : Env} {R : Room} {s : State} {m : MethodId} {args : Array Value} {below : List Frame} {meth : Method} {c : Code} {T : State} {locs : List Loc} {cells slots : Nat} {Z : State} {a0 : Array Value} {h : Heap} {P : Outcome → State → Prop}
theorem own_body {y : MethodName} {bytes : ByteArray} {maxL : Nat} {ret : Option FieldType} {ws : List Jvm.Cond} {rm : Room} {as' : Array Value} {Q : Option Value → Heap → List Loc → Prop} {C S : Nat} (pn : plainFor y = true)
    (body : ∀ p e s m below meth c s₁, p.tables.exec = Jvm.exec → c.code = bytes → c.maxLocals = maxL → s.vm.findClass y.cls = some m.cls → meth.name = y.name → meth.locks = false → meth.sig.returnType = ret → Z.Warmed39 s.vm → Stand p l e rm s m as' below meth c s₁ [] 0 0 → s₁.heap = h →
      own_G p.tables e below (own_P s Q C S) s₁ (entryFrame m as' maxL)) :
    MetFree l y (head1 (Jvm.Cond.code y bytes maxL ret :: ws) rm) (fun a U => a = as' ∧ Z.Warmed39 U.vm ∧ U.heap = h) (fun _ _ _ _ _ => True) (fun _ U o U' => ∃ v L, o = .returned v ∧ Q v U'.heap L ∧ FrameEnd U o U' L C S) := by
  refine MetFree.of_bodySF (maxLocals := maxL) (ret := ret) (code := bytes) pn hisR ?_
  intro p e s m args below meth c s₁ Bd hml0 hP hK
  obtain ⟨rfl, hZ, hh⟩ := hP
  exact body p e s m below meth c s₁ Bd.exec Bd.bytes hml0 (findClass_of_methodNamed Bd.named) (name_of_methodNamed Bd.named Bd.method).1 (BodyLoose.notSynchronized Bd) Bd.returns hZ (Stand.of_body Bd) (by rw [← hh, Bd.state]; rfl)
theorem own_ret {v : Option Value} {f : JFrame} {Q : Option Value → Heap → List Loc → Prop} {C S : Nat} (X : Stand p l e R s m args below meth c T locs cells slots) (hlk : meth.locks = false) (hv : meth.sig.returnType = none → v = none)
    (st : ∀ fs, (∀ (f : JFrame) (acts : List Action), f.method = m → f.locked = none → f.entered = [] → (doReturn e (T.setTop f) acts v).1 = T.setFrames fs) → Steps p.tables e below (T.setTop f) (T.setFrames fs)) (hC : cells ≤ C) (hS : slots ≤ S) (hq : Q v T.heap locs) : own_G p.tables e below (own_P s Q C S) T f := by
  obtain ⟨fs, hr, hrun, hended, hW, hsame⟩ := X.leave (v := v) hv hlk
  exact ⟨_, _, st fs hr, hrun, hended, _, _, rfl, hq, ⟨_, rfl⟩, hW, hsame.mono hC hS⟩
theorem own_retN {Q : Option Value → Heap → List Loc → Prop} {C S : Nat} (X : Stand p l e R s m args below meth c T locs cells slots) (hx : p.tables.exec = Jvm.exec) (hlk : meth.locks = false) {t : FieldType} (hret : meth.sig.returnType = some t) (ht : t = .boolean ∨ t = .byte ∨ t = .char ∨ t = .short) {pc : Nat} {Ls : Array Slot} {z : Int32} {rest : List Value} (hd : decode c.code pc = .ok (.ireturn, 1)) (hC : cells ≤ C) (hS : slots ≤ S) (hq : Q (some (.int (nar t z))) T.heap locs) :
    own_G p.tables e below (own_P s Q C S) T (mkF m pc Ls (.int z :: rest)) :=
  own_ret X hlk (fun h => by rw [hret] at h; cases h) (fun fs hr => retN X hx hret ht hd hr) hC hS hq
theorem own_retI {Q : Option Value → Heap → List Loc → Prop} {C S : Nat} (X : Stand p l e R s m args below meth c T locs cells slots) (hx : p.tables.exec = Jvm.exec) (hlk : meth.locks = false) (hret : meth.sig.returnType = some .int) {pc : Nat} {Ls : Array Slot} {z : Int32} {rest : List Value} (hd : decode c.code pc = .ok (.ireturn, 1)) (hC : cells ≤ C) (hS : slots ≤ S) (hq : Q (some (.int z)) T.heap locs) :
    own_G p.tables e below (own_P s Q C S) T (mkF m pc Ls (.int z :: rest)) :=
  own_ret X hlk (fun h => by rw [hret] at h; cases h) (fun fs hr => retOut X hx hret rfl (Or.inl ⟨rfl, Or.inl rfl, z, rfl⟩) hd hr) hC hS hq
theorem own_retJ {Q : Option Value → Heap → List Loc → Prop} {C S : Nat} (X : Stand p l e R s m args below meth c T locs cells slots) (hx : p.tables.exec = Jvm.exec) (hlk : meth.locks = false) (hret : meth.sig.returnType = some .long) {pc : Nat} {Ls : Array Slot} {z : Int64} {rest : List Value} (hd : decode c.code pc = .ok (.lreturn, 1)) (hC : cells ≤ C) (hS : slots ≤ S) (hq : Q (some (.long z)) T.heap locs) :
    own_G p.tables e below (own_P s Q C S) T (mkF m pc Ls (.long z :: rest)) :=
  own_ret X hlk (fun h => by rw [hret] at h; cases h) (fun fs hr => retOut X hx hret rfl (Or.inr (Or.inl ⟨rfl, rfl, z, rfl⟩)) hd hr) hC hS hq
theorem own_retA {Q : Option Value → Heap → List Loc → Prop} {C S : Nat} (X : Stand p l e R s m args below meth c T locs cells slots) (hx : p.tables.exec = Jvm.exec) (hlk : meth.locks = false) {t : FieldType} (hret : meth.sig.returnType = some t) (ht : t.isReference = true) {pc : Nat} {Ls : Array Slot} {w : Value} {rest : List Value} (hw : w.isRef = true) (hn : narrow t w = w) (hd : decode c.code pc = .ok (.areturn, 1)) (hC : cells ≤ C) (hS : slots ≤ S) (hq : Q (some w) T.heap locs) :
    own_G p.tables e below (own_P s Q C S) T (mkF m pc Ls (w :: rest)) :=
  own_ret X hlk (fun h => by rw [hret] at h; cases h) (fun fs hr => retOut X hx hret hn (Or.inr (Or.inr (Or.inr (Or.inr ⟨rfl, ht, hw⟩)))) hd hr) hC hS hq
theorem own_retV {Q : Option Value → Heap → List Loc → Prop} {C S : Nat} (X : Stand p l e R s m args below meth c T locs cells slots) (hx : p.tables.exec = Jvm.exec) (hlk : meth.locks = false) (hret : meth.sig.returnType = none) {pc : Nat} {Ls : Array Slot} (hd : decode c.code pc = .ok (.return_, 1)) (hC : cells ≤ C) (hS : slots ≤ S) (hq : Q none T.heap locs) :
    own_G p.tables e below (own_P s Q C S) T (mkF m pc Ls []) :=
  own_ret X hlk (fun h => rfl) (fun fs hr => X.returnOut hx hret hd hr) hC hS hq
theorem own_iadd (X : Stand p l e R s m args below meth c T locs cells slots) (hx : p.tables.exec = Jvm.exec) {pc pc' : Nat} {Ls : Array Slot} {x y z : Int32} {rest : List Value} (hd : decode c.code pc = .ok (.iadd, 1)) (hz : x + y = z) (hp : pc + 1 = pc') (k : own_G p.tables e below P T (mkF m pc' Ls (.int z :: rest))) : own_G p.tables e below P T (mkF m pc Ls (.int y :: .int x :: rest)) := by
  subst hp; subst hz; exact own_go (fun t q => XS.iadd X.here hx rfl hd rfl q) k
theorem own_isub (X : Stand p l e R s m args below meth c T locs cells slots) (hx : p.tables.exec = Jvm.exec) {pc pc' : Nat} {Ls : Array Slot} {x y z : Int32} {rest : List Value} (hd : decode c.code pc = .ok (.isub, 1)) (hz : x - y = z) (hp : pc + 1 = pc') (k : own_G p.tables e below P T (mkF m pc' Ls (.int z :: rest))) : own_G p.tables e below P T (mkF m pc Ls (.int y :: .int x :: rest)) := by
  subst hp; subst hz; exact own_go (fun t q => XS.isub X.here hx rfl hd rfl q) k
theorem own_imul (X : Stand p l e R s m args below meth c T locs cells slots) (hx : p.tables.exec = Jvm.exec) {pc pc' : Nat} {Ls : Array Slot} {x y z : Int32} {rest : List Value} (hd : decode c.code pc = .ok (.imul, 1)) (hz : x * y = z) (hp : pc + 1 = pc') (k : own_G p.tables e below P T (mkF m pc' Ls (.int z :: rest))) : own_G p.tables e below P T (mkF m pc Ls (.int y :: .int x :: rest)) := by
  subst hp; subst hz; exact own_go (fun t q => XS.imul X.here hx rfl hd rfl q) k
theorem own_iand (X : Stand p l e R s m args below meth c T locs cells slots) (hx : p.tables.exec = Jvm.exec) {pc pc' : Nat} {Ls : Array Slot} {x y z : Int32} {rest : List Value} (hd : decode c.code pc = .ok (.iand, 1)) (hz : x &&& y = z) (hp : pc + 1 = pc') (k : own_G p.tables e below P T (mkF m pc' Ls (.int z :: rest))) : own_G p.tables e below P T (mkF m pc Ls (.int y :: .int x :: rest)) := by
  subst hp; subst hz; exact own_go (fun t q => XS.iand X.here hx rfl hd rfl q) k
theorem own_ior (X : Stand p l e R s m args below meth c T locs cells slots) (hx : p.tables.exec = Jvm.exec) {pc pc' : Nat} {Ls : Array Slot} {x y z : Int32} {rest : List Value} (hd : decode c.code pc = .ok (.ior, 1)) (hz : x ||| y = z) (hp : pc + 1 = pc') (k : own_G p.tables e below P T (mkF m pc' Ls (.int z :: rest))) : own_G p.tables e below P T (mkF m pc Ls (.int y :: .int x :: rest)) := by
  subst hp; subst hz; exact own_go (fun t q => XS.ior X.here hx rfl hd rfl q) k
theorem own_ixor (X : Stand p l e R s m args below meth c T locs cells slots) (hx : p.tables.exec = Jvm.exec) {pc pc' : Nat} {Ls : Array Slot} {x y z : Int32} {rest : List Value} (hd : decode c.code pc = .ok (.ixor, 1)) (hz : x ^^^ y = z) (hp : pc + 1 = pc') (k : own_G p.tables e below P T (mkF m pc' Ls (.int z :: rest))) : own_G p.tables e below P T (mkF m pc Ls (.int y :: .int x :: rest)) := by
  subst hp; subst hz; exact own_go (fun t q => XS.ixor X.here hx rfl hd rfl q) k
theorem own_ladd (X : Stand p l e R s m args below meth c T locs cells slots) (hx : p.tables.exec = Jvm.exec) {pc pc' : Nat} {Ls : Array Slot} {x y z : Int64} {rest : List Value} (hd : decode c.code pc = .ok (.ladd, 1)) (hz : x + y = z) (hp : pc + 1 = pc') (k : own_G p.tables e below P T (mkF m pc' Ls (.long z :: rest))) : own_G p.tables e below P T (mkF m pc Ls (.long y :: .long x :: rest)) := by
  subst hp; subst hz; exact own_go (fun t q => XS.ladd X.here hx rfl hd rfl q) k
theorem own_lsub (X : Stand p l e R s m args below meth c T locs cells slots) (hx : p.tables.exec = Jvm.exec) {pc pc' : Nat} {Ls : Array Slot} {x y z : Int64} {rest : List Value} (hd : decode c.code pc = .ok (.lsub, 1)) (hz : x - y = z) (hp : pc + 1 = pc') (k : own_G p.tables e below P T (mkF m pc' Ls (.long z :: rest))) : own_G p.tables e below P T (mkF m pc Ls (.long y :: .long x :: rest)) := by
  subst hp; subst hz; exact own_go (fun t q => XS.lsub X.here hx rfl hd rfl q) k
theorem own_lmul (X : Stand p l e R s m args below meth c T locs cells slots) (hx : p.tables.exec = Jvm.exec) {pc pc' : Nat} {Ls : Array Slot} {x y z : Int64} {rest : List Value} (hd : decode c.code pc = .ok (.lmul, 1)) (hz : x * y = z) (hp : pc + 1 = pc') (k : own_G p.tables e below P T (mkF m pc' Ls (.long z :: rest))) : own_G p.tables e below P T (mkF m pc Ls (.long y :: .long x :: rest)) := by
  subst hp; subst hz; exact own_go (fun t q => XS.lmul X.here hx rfl hd rfl q) k
theorem own_land (X : Stand p l e R s m args below meth c T locs cells slots) (hx : p.tables.exec = Jvm.exec) {pc pc' : Nat} {Ls : Array Slot} {x y z : Int64} {rest : List Value} (hd : decode c.code pc = .ok (.land, 1)) (hz : x &&& y = z) (hp : pc + 1 = pc') (k : own_G p.tables e below P T (mkF m pc' Ls (.long z :: rest))) : own_G p.tables e below P T (mkF m pc Ls (.long y :: .long x :: rest)) := by
  subst hp; subst hz; exact own_go (fun t q => XS.land X.here hx rfl hd rfl q) k
theorem own_lor (X : Stand p l e R s m args below meth c T locs cells slots) (hx : p.tables.exec = Jvm.exec) {pc pc' : Nat} {Ls : Array Slot} {x y z : Int64} {rest : List Value} (hd : decode c.code pc = .ok (.lor, 1)) (hz : x ||| y = z) (hp : pc + 1 = pc') (k : own_G p.tables e below P T (mkF m pc' Ls (.long z :: rest))) : own_G p.tables e below P T (mkF m pc Ls (.long y :: .long x :: rest)) := by
  subst hp; subst hz; exact own_go (fun t q => XS.lor X.here hx rfl hd rfl q) k
theorem own_lxor (X : Stand p l e R s m args below meth c T locs cells slots) (hx : p.tables.exec = Jvm.exec) {pc pc' : Nat} {Ls : Array Slot} {x y z : Int64} {rest : List Value} (hd : decode c.code pc = .ok (.lxor, 1)) (hz : x ^^^ y = z) (hp : pc + 1 = pc') (k : own_G p.tables e below P T (mkF m pc' Ls (.long z :: rest))) : own_G p.tables e below P T (mkF m pc Ls (.long y :: .long x :: rest)) := by
  subst hp; subst hz; exact own_go (fun t q => XS.lxor X.here hx rfl hd rfl q) k
theorem own_ishl (X : Stand p l e R s m args below meth c T locs cells slots) (hx : p.tables.exec = Jvm.exec) {pc pc' : Nat} {Ls : Array Slot} {x y : Int32} {rest : List Value} (hd : decode c.code pc = .ok (.ishl, 1)) (hp : pc + 1 = pc') (k : own_G p.tables e below P T (mkF m pc' Ls (.int (x <<< (y &&& 31)) :: rest))) : own_G p.tables e below P T (mkF m pc Ls (.int y :: .int x :: rest)) := by
  subst hp; exact own_go (fun t q => XS.ishl X.here hx rfl hd rfl q) k
theorem own_ishr (X : Stand p l e R s m args below meth c T locs cells slots) (hx : p.tables.exec = Jvm.exec) {pc pc' : Nat} {Ls : Array Slot} {x y : Int32} {rest : List Value} (hd : decode c.code pc = .ok (.ishr, 1)) (hp : pc + 1 = pc') (k : own_G p.tables e below P T (mkF m pc' Ls (.int (x >>> (y &&& 31)) :: rest))) : own_G p.tables e below P T (mkF m pc Ls (.int y :: .int x :: rest)) := by
  subst hp; exact own_go (fun t q => XS.ishr X.here hx rfl hd rfl q) k
theorem own_iushr (X : Stand p l e R s m args below meth c T locs cells slots) (hx : p.tables.exec = Jvm.exec) {pc pc' : Nat} {Ls : Array Slot} {x y : Int32} {rest : List Value} (hd : decode c.code pc = .ok (.iushr, 1)) (hp : pc + 1 = pc') (k : own_G p.tables e below P T (mkF m pc' Ls (.int ((x.toUInt32 >>> (y &&& 31).toUInt32).toInt32) :: rest))) : own_G p.tables e below P T (mkF m pc Ls (.int y :: .int x :: rest)) := by
  subst hp; exact own_go (fun t q => XS.iushr X.here hx rfl hd rfl q) k
theorem own_lshl (X : Stand p l e R s m args below meth c T locs cells slots) (hx : p.tables.exec = Jvm.exec) {pc pc' : Nat} {Ls : Array Slot} {x : Int64} {y : Int32} {rest : List Value} (hd : decode c.code pc = .ok (.lshl, 1)) (hp : pc + 1 = pc') (k : own_G p.tables e below P T (mkF m pc' Ls (.long (x <<< (y &&& 0x3f).toInt64) :: rest))) : own_G p.tables e below P T (mkF m pc Ls (.int y :: .long x :: rest)) := by
  subst hp; exact own_go (fun t q => XS.lshl X.here hx rfl hd rfl q) k
theorem own_lshr (X : Stand p l e R s m args below meth c T locs cells slots) (hx : p.tables.exec = Jvm.exec) {pc pc' : Nat} {Ls : Array Slot} {x : Int64} {y : Int32} {rest : List Value} (hd : decode c.code pc = .ok (.lshr, 1)) (hp : pc + 1 = pc') (k : own_G p.tables e below P T (mkF m pc' Ls (.long (x >>> (y &&& 0x3f).toInt64) :: rest))) : own_G p.tables e below P T (mkF m pc Ls (.int y :: .long x :: rest)) := by
  subst hp; exact own_go (fun t q => XS.lshr X.here hx rfl hd rfl q) k
theorem own_lushr (X : Stand p l e R s m args below meth c T locs cells slots) (hx : p.tables.exec = Jvm.exec) {pc pc' : Nat} {Ls : Array Slot} {x : Int64} {y : Int32} {rest : List Value} (hd : decode c.code pc = .ok (.lushr, 1)) (hp : pc + 1 = pc') (k : own_G p.tables e below P T (mkF m pc' Ls (.long ((x.toUInt64 >>> (y &&& 0x3f).toInt64.toUInt64).toInt64) :: rest))) : own_G p.tables e below P T (mkF m pc Ls (.int y :: .long x :: rest)) := by
  subst hp; exact own_go (fun t q => XS.lushr X.here hx rfl hd rfl q) k
theorem own_i2l (X : Stand p l e R s m args below meth c T locs cells slots) (hx : p.tables.exec = Jvm.exec) {pc pc' : Nat} {Ls : Array Slot} {x : Int32} {rest : List Value} (hd : decode c.code pc = .ok (.i2l, 1)) (hp : pc + 1 = pc') (k : own_G p.tables e below P T (mkF m pc' Ls (.long (x.toInt64) :: rest))) : own_G p.tables e below P T (mkF m pc Ls (.int x :: rest)) := by
  subst hp; exact own_go (fun t q => XS.i2l X.here hx rfl hd rfl q) k
theorem own_l2i (X : Stand p l e R s m args below meth c T locs cells slots) (hx : p.tables.exec = Jvm.exec) {pc pc' : Nat} {Ls : Array Slot} {x : Int64} {rest : List Value} (hd : decode c.code pc = .ok (.l2i, 1)) (hp : pc + 1 = pc') (k : own_G p.tables e below P T (mkF m pc' Ls (.int (x.toInt32) :: rest))) : own_G p.tables e below P T (mkF m pc Ls (.long x :: rest)) := by
  subst hp; exact own_go (fun t q => XS.l2i X.here hx rfl hd rfl q) k
theorem own_i2b (X : Stand p l e R s m args below meth c T locs cells slots) (hx : p.tables.exec = Jvm.exec) {pc pc' : Nat} {Ls : Array Slot} {x : Int32} {rest : List Value} (hd : decode c.code pc = .ok (.i2b, 1)) (hp : pc + 1 = pc') (k : own_G p.tables e below P T (mkF m pc' Ls (.int (x.toInt8.toInt32) :: rest))) : own_G p.tables e below P T (mkF m pc Ls (.int x :: rest)) := by
  subst hp; exact own_go (fun t q => XS.i2b X.here hx rfl hd rfl q) k
theorem own_i2s (X : Stand p l e R s m args below meth c T locs cells slots) (hx : p.tables.exec = Jvm.exec) {pc pc' : Nat} {Ls : Array Slot} {x : Int32} {rest : List Value} (hd : decode c.code pc = .ok (.i2s, 1)) (hp : pc + 1 = pc') (k : own_G p.tables e below P T (mkF m pc' Ls (.int (x.toInt16.toInt32) :: rest))) : own_G p.tables e below P T (mkF m pc Ls (.int x :: rest)) := by
  subst hp; exact own_go (fun t q => XS.i2s X.here hx rfl hd rfl q) k
theorem own_i2c (X : Stand p l e R s m args below meth c T locs cells slots) (hx : p.tables.exec = Jvm.exec) {pc pc' : Nat} {Ls : Array Slot} {x : Int32} {rest : List Value} (hd : decode c.code pc = .ok (.i2c, 1)) (hp : pc + 1 = pc') (k : own_G p.tables e below P T (mkF m pc' Ls (.int (x.toUInt32.toUInt16.toUInt32.toInt32) :: rest))) : own_G p.tables e below P T (mkF m pc Ls (.int x :: rest)) := by
  subst hp; exact own_go (fun t q => XS.i2c X.here hx rfl hd rfl q) k
theorem own_ineg (X : Stand p l e R s m args below meth c T locs cells slots) (hx : p.tables.exec = Jvm.exec) {pc pc' : Nat} {Ls : Array Slot} {x : Int32} {rest : List Value} (hd : decode c.code pc = .ok (.ineg, 1)) (hp : pc + 1 = pc') (k : own_G p.tables e below P T (mkF m pc' Ls (.int (-x) :: rest))) : own_G p.tables e below P T (mkF m pc Ls (.int x :: rest)) := by
  subst hp; exact own_go (fun t q => XS.ineg X.here hx rfl hd rfl q) k
theorem own_lneg (X : Stand p l e R s m args below meth c T locs cells slots) (hx : p.tables.exec = Jvm.exec) {pc pc' : Nat} {Ls : Array Slot} {x : Int64} {rest : List Value} (hd : decode c.code pc = .ok (.lneg, 1)) (hp : pc + 1 = pc') (k : own_G p.tables e below P T (mkF m pc' Ls (.long (-x) :: rest))) : own_G p.tables e below P T (mkF m pc Ls (.long x :: rest)) := by
  subst hp; exact own_go (fun t q => XS.lneg X.here hx rfl hd rfl q) k
theorem own_lcmp (X : Stand p l e R s m args below meth c T locs cells slots) (hx : p.tables.exec = Jvm.exec) {pc pc' : Nat} {Ls : Array Slot} {x y : Int64} {rest : List Value} (hd : decode c.code pc = .ok (.lcmp, 1)) (hp : pc + 1 = pc') (k : own_G p.tables e below P T (mkF m pc' Ls (.int (lcmpW x y) :: rest))) : own_G p.tables e below P T (mkF m pc Ls (.long y :: .long x :: rest)) := by
  subst hp; exact own_go (fun t q => XS.lcmp X.here hx rfl hd rfl q) k
theorem own_idiv (X : Stand p l e R s m args below meth c T locs cells slots) (hx : p.tables.exec = Jvm.exec) {pc pc' : Nat} {Ls : Array Slot} {x y z : Int32} {rest : List Value} (hd : decode c.code pc = .ok (.idiv, 1)) (hz : x / y = z) (hy : y ≠ 0) (hp : pc + 1 = pc') (k : own_G p.tables e below P T (mkF m pc' Ls (.int z :: rest))) : own_G p.tables e below P T (mkF m pc Ls (.int y :: .int x :: rest)) := by
  subst hp; subst hz; exact own_go (fun t q => XS.idiv X.here hx rfl hd rfl hy q) k
theorem own_irem (X : Stand p l e R s m args below meth c T locs cells slots) (hx : p.tables.exec = Jvm.exec) {pc pc' : Nat} {Ls : Array Slot} {x y : Int32} {rest : List Value} (hd : decode c.code pc = .ok (.irem, 1)) (hy : y ≠ 0) (hp : pc + 1 = pc') (k : own_G p.tables e below P T (mkF m pc' Ls (.int (x % y) :: rest))) : own_G p.tables e below P T (mkF m pc Ls (.int y :: .int x :: rest)) := by
  subst hp; exact own_go (fun t q => iremM X hx rfl hd rfl hy q) k
theorem own_iloadN (X : Stand p l e R s m args below meth c T locs cells slots) (hx : p.tables.exec = Jvm.exec) {pc pc' : Nat} {Ls : Array Slot} {j : Fin 4} {v : Int32} {st : List Value} (hd : decode c.code pc = .ok (.iload_n j, 1)) (hl : Ls[j.val]? = some (.val (.int v))) (hp : pc + 1 = pc') (k : own_G p.tables e below P T (mkF m pc' Ls (.int v :: st))) : own_G p.tables e below P T (mkF m pc Ls (st)) := by
  subst hp; exact own_go (fun t q => XS.iloadN X.here hx rfl hd hl q) k
theorem own_iload (X : Stand p l e R s m args below meth c T locs cells slots) (hx : p.tables.exec = Jvm.exec) {pc pc' : Nat} {Ls : Array Slot} {j : Nat} {v : Int32} {st : List Value} (hd : decode c.code pc = .ok (.iload j, 2)) (hl : Ls[j]? = some (.val (.int v))) (hp : pc + 2 = pc') (k : own_G p.tables e below P T (mkF m pc' Ls (.int v :: st))) : own_G p.tables e below P T (mkF m pc Ls (st)) := by
  subst hp; exact own_go (fun t q => XS.iload X.here hx rfl hd hl q) k
theorem own_lloadN (X : Stand p l e R s m args below meth c T locs cells slots) (hx : p.tables.exec = Jvm.exec) {pc pc' : Nat} {Ls : Array Slot} {j : Fin 4} {v : Int64} {st : List Value} (hd : decode c.code pc = .ok (.lload_n j, 1)) (hl : Ls[j.val]? = some (.val (.long v))) (hp : pc + 1 = pc') (k : own_G p.tables e below P T (mkF m pc' Ls (.long v :: st))) : own_G p.tables e below P T (mkF m pc Ls (st)) := by
  subst hp; exact own_go (fun t q => XS.lloadN X.here hx rfl hd hl q) k
theorem own_lload (X : Stand p l e R s m args below meth c T locs cells slots) (hx : p.tables.exec = Jvm.exec) {pc pc' : Nat} {Ls : Array Slot} {j : Nat} {v : Int64} {st : List Value} (hd : decode c.code pc = .ok (.lload j, 2)) (hl : Ls[j]? = some (.val (.long v))) (hp : pc + 2 = pc') (k : own_G p.tables e below P T (mkF m pc' Ls (.long v :: st))) : own_G p.tables e below P T (mkF m pc Ls (st)) := by
  subst hp; exact own_go (fun t q => XS.lload X.here hx rfl hd hl q) k
theorem own_aloadN (X : Stand p l e R s m args below meth c T locs cells slots) (hx : p.tables.exec = Jvm.exec) {pc pc' : Nat} {Ls : Array Slot} {j : Fin 4} {v : Value} {st : List Value} (hd : decode c.code pc = .ok (.aload_n j, 1)) (hl : Ls[j.val]? = some (.val v)) (hv : v.isRef = true) (hp : pc + 1 = pc') (k : own_G p.tables e below P T (mkF m pc' Ls (v :: st))) : own_G p.tables e below P T (mkF m pc Ls (st)) := by
  subst hp; exact own_go (fun t q => XS.aloadN X.here hx rfl hd hl hv q) k
theorem own_istoreN (X : Stand p l e R s m args below meth c T locs cells slots) (hx : p.tables.exec = Jvm.exec) {pc pc' : Nat} {Ls : Array Slot} {j : Fin 4} {v : Int32} {rest : List Value} {Ls' : Array Slot} (hd : decode c.code pc = .ok (.istore_n j, 1)) (hl : storeLocals Ls j.val (.int v) = some Ls') (hp : pc + 1 = pc') (k : own_G p.tables e below P T (mkF m pc' Ls' (rest))) : own_G p.tables e below P T (mkF m pc Ls (.int v :: rest)) := by
  subst hp; exact own_go (fun t q => XS.istoreN X.here hx rfl hd rfl hl q) k
theorem own_lstoreN (X : Stand p l e R s m args below meth c T locs cells slots) (hx : p.tables.exec = Jvm.exec) {pc pc' : Nat} {Ls : Array Slot} {j : Fin 4} {v : Int64} {rest : List Value} {Ls' : Array Slot} (hd : decode c.code pc = .ok (.lstore_n j, 1)) (hl : storeLocals Ls j.val (.long v) = some Ls') (hp : pc + 1 = pc') (k : own_G p.tables e below P T (mkF m pc' Ls' (rest))) : own_G p.tables e below P T (mkF m pc Ls (.long v :: rest)) := by
  subst hp; exact own_go (fun t q => XS.lstoreN X.here hx rfl hd rfl hl q) k
theorem own_astoreN (X : Stand p l e R s m args below meth c T locs cells slots) (hx : p.tables.exec = Jvm.exec) {pc pc' : Nat} {Ls : Array Slot} {j : Fin 4} {v : Value} {rest : List Value} {Ls' : Array Slot} (hd : decode c.code pc = .ok (.astore_n j, 1)) (hv : v.isRef = true) (hl : storeLocals Ls j.val v = some Ls') (hp : pc + 1 = pc') (k : own_G p.tables e below P T (mkF m pc' Ls' (rest))) : own_G p.tables e below P T (mkF m pc Ls (v :: rest)) := by
  subst hp; exact own_go (fun t q => XS.astoreN X.here hx rfl hd rfl hv hl q) k
theorem own_aload (X : Stand p l e R s m args below meth c T locs cells slots) (hx : p.tables.exec = Jvm.exec) {pc pc' : Nat} {Ls : Array Slot} {j : Nat} {v : Value} {st : List Value} (hd : decode c.code pc = .ok (.aload j, 2)) (hl : Ls[j]? = some (.val v)) (hv : v.isRef = true) (hp : pc + 2 = pc') (k : own_G p.tables e below P T (mkF m pc' Ls (v :: st))) : own_G p.tables e below P T (mkF m pc Ls (st)) := by
  subst hp; exact own_go (fun t q => XS.aload X.here hx rfl hd hl hv q) k
theorem own_istore (X : Stand p l e R s m args below meth c T locs cells slots) (hx : p.tables.exec = Jvm.exec) {pc pc' : Nat} {Ls : Array Slot} {j : Nat} {v : Int32} {rest : List Value} {Ls' : Array Slot} (hd : decode c.code pc = .ok (.istore j, 2)) (hl : storeLocals Ls j (.int v) = some Ls') (hp : pc + 2 = pc') (k : own_G p.tables e below P T (mkF m pc' Ls' (rest))) : own_G p.tables e below P T (mkF m pc Ls (.int v :: rest)) := by
  subst hp; exact own_go (fun t q => XS.istore X.here hx rfl hd rfl hl q) k
theorem own_lstore (X : Stand p l e R s m args below meth c T locs cells slots) (hx : p.tables.exec = Jvm.exec) {pc pc' : Nat} {Ls : Array Slot} {j : Nat} {v : Int64} {rest : List Value} {Ls' : Array Slot} (hd : decode c.code pc = .ok (.lstore j, 2)) (hl : storeLocals Ls j (.long v) = some Ls') (hp : pc + 2 = pc') (k : own_G p.tables e below P T (mkF m pc' Ls' (rest))) : own_G p.tables e below P T (mkF m pc Ls (.long v :: rest)) := by
  subst hp; exact own_go (fun t q => XS.lstore X.here hx rfl hd rfl hl q) k
theorem own_astore (X : Stand p l e R s m args below meth c T locs cells slots) (hx : p.tables.exec = Jvm.exec) {pc pc' : Nat} {Ls : Array Slot} {j : Nat} {v : Value} {rest : List Value} {Ls' : Array Slot} (hd : decode c.code pc = .ok (.astore j, 2)) (hv : v.isRef = true) (hl : storeLocals Ls j v = some Ls') (hp : pc + 2 = pc') (k : own_G p.tables e below P T (mkF m pc' Ls' (rest))) : own_G p.tables e below P T (mkF m pc Ls (v :: rest)) := by
  subst hp; exact own_go (fun t q => XS.astore X.here hx rfl hd rfl hv hl q) k
theorem own_iinc (X : Stand p l e R s m args below meth c T locs cells slots) (hx : p.tables.exec = Jvm.exec) {pc pc' : Nat} {Ls : Array Slot} {j : Nat} {cst : Int} {x : Int32} {st : List Value} {Ls' : Array Slot} (hd : decode c.code pc = .ok (.iinc j cst, 3)) (hl : Ls[j]? = some (.val (.int x))) (hl' : storeLocals Ls j (.int (x + Int32.ofInt cst)) = some Ls') (hp : pc + 3 = pc') (k : own_G p.tables e below P T (mkF m pc' Ls' (st))) : own_G p.tables e below P T (mkF m pc Ls (st)) := by
  subst hp; exact own_go (fun t q => XS.iinc X.here hx rfl hd hl hl' q) k
theorem own_iconst (X : Stand p l e R s m args below meth c T locs cells slots) (hx : p.tables.exec = Jvm.exec) {pc pc' : Nat} {Ls : Array Slot} {i : Int} {st : List Value} (z : Int32) (hd : decode c.code pc = .ok (.iconst i, 1)) (hz : Int32.ofInt i = z) (hp : pc + 1 = pc') (k : own_G p.tables e below P T (mkF m pc' Ls (.int z :: st))) : own_G p.tables e below P T (mkF m pc Ls (st)) := by
  subst hp; subst hz; exact own_go (fun t q => XS.iconst X.here hx rfl hd q) k
theorem own_bipush (X : Stand p l e R s m args below meth c T locs cells slots) (hx : p.tables.exec = Jvm.exec) {pc pc' : Nat} {Ls : Array Slot} {i : Int} {st : List Value} (z : Int32) (hd : decode c.code pc = .ok (.bipush i, 2)) (hz : (Int8.ofInt i).toInt32 = z) (hp : pc + 2 = pc') (k : own_G p.tables e below P T (mkF m pc' Ls (.int z :: st))) : own_G p.tables e below P T (mkF m pc Ls (st)) := by
  subst hp; subst hz; exact own_go (fun t q => XS.bipush X.here hx rfl hd q) k
theorem own_sipush (X : Stand p l e R s m args below meth c T locs cells slots) (hx : p.tables.exec = Jvm.exec) {pc pc' : Nat} {Ls : Array Slot} {i : Int} {st : List Value} (z : Int32) (hd : decode c.code pc = .ok (.sipush i, 3)) (hz : (Int16.ofInt i).toInt32 = z) (hp : pc + 3 = pc') (k : own_G p.tables e below P T (mkF m pc' Ls (.int z :: st))) : own_G p.tables e below P T (mkF m pc Ls (st)) := by
  subst hp; subst hz; exact own_go (fun t q => XS.sipush X.here hx rfl hd q) k
theorem own_lconst (X : Stand p l e R s m args below meth c T locs cells slots) (hx : p.tables.exec = Jvm.exec) {pc pc' : Nat} {Ls : Array Slot} {i : Fin 2} {st : List Value} (z : Int64) (hd : decode c.code pc = .ok (.lconst i, 1)) (hz : Int64.ofNat i = z) (hp : pc + 1 = pc') (k : own_G p.tables e below P T (mkF m pc' Ls (.long z :: st))) : own_G p.tables e below P T (mkF m pc Ls (st)) := by
  subst hp; subst hz; exact own_go (fun t q => XS.lconst X.here hx rfl hd q) k
theorem own_aconstNull (X : Stand p l e R s m args below meth c T locs cells slots) (hx : p.tables.exec = Jvm.exec) {pc pc' : Nat} {Ls : Array Slot} {st : List Value} (hd : decode c.code pc = .ok (.aconst_null, 1)) (hp : pc + 1 = pc') (k : own_G p.tables e below P T (mkF m pc' Ls (.null :: st))) : own_G p.tables e below P T (mkF m pc Ls (st)) := by
  subst hp; exact own_go (fun t q => XS.aconstNull X.here hx rfl hd q) k
theorem own_dup (X : Stand p l e R s m args below meth c T locs cells slots) (hx : p.tables.exec = Jvm.exec) {pc pc' : Nat} {Ls : Array Slot} {v : Value} {rest : List Value} (hd : decode c.code pc = .ok (.dup, 1)) (hc : v.category = 1) (hp : pc + 1 = pc') (k : own_G p.tables e below P T (mkF m pc' Ls (v :: v :: rest))) : own_G p.tables e below P T (mkF m pc Ls (v :: rest)) := by
  subst hp; exact own_go (fun t q => XS.dup X.here hx rfl hd rfl hc q) k
theorem own_pop (X : Stand p l e R s m args below meth c T locs cells slots) (hx : p.tables.exec = Jvm.exec) {pc pc' : Nat} {Ls : Array Slot} {v : Value} {rest : List Value} (hd : decode c.code pc = .ok (.pop, 1)) (hc : v.category = 1) (hp : pc + 1 = pc') (k : own_G p.tables e below P T (mkF m pc' Ls (rest))) : own_G p.tables e below P T (mkF m pc Ls (v :: rest)) := by
  subst hp; exact own_go (fun t q => XS.pop X.here hx rfl hd rfl hc q) k
theorem own_dupX1 (X : Stand p l e R s m args below meth c T locs cells slots) (hx : p.tables.exec = Jvm.exec) {pc pc' : Nat} {Ls : Array Slot} {v w : Value} {rest : List Value} (hd : decode c.code pc = .ok (.dup_x1, 1)) (hc : v.category = 1) (hc' : w.category = 1) (hp : pc + 1 = pc') (k : own_G p.tables e below P T (mkF m pc' Ls (v :: w :: v :: rest))) : own_G p.tables e below P T (mkF m pc Ls (v :: w :: rest)) := by
  subst hp; exact own_go (fun t q => XS.dupX1 X.here hx rfl hd rfl hc hc' q) k
theorem own_dup2 (X : Stand p l e R s m args below meth c T locs cells slots) (hx : p.tables.exec = Jvm.exec) {pc pc' : Nat} {Ls : Array Slot} {v w : Value} {rest : List Value} (hd : decode c.code pc = .ok (.dup2, 1)) (hc : v.category = 1) (hc' : w.category = 1) (hp : pc + 1 = pc') (k : own_G p.tables e below P T (mkF m pc' Ls (v :: w :: v :: w :: rest))) : own_G p.tables e below P T (mkF m pc Ls (v :: w :: rest)) := by
  subst hp; exact own_go (fun t q => Jvm.Free.XT.dup2 X.here hx rfl hd rfl hc hc' q) k
theorem own_goto (X : Stand p l e R s m args below meth c T locs cells slots) (hx : p.tables.exec = Jvm.exec) {pc pc' : Nat} {Ls : Array Slot} {st : List Value} {o : Int} (hd : decode c.code pc = .ok (.goto o, 3)) (ho : 0 ≤ (pc : Int) + o) (hp : ((pc : Int) + o).toNat = pc') (k : own_G p.tables e below P T (mkF m pc' Ls (st))) : own_G p.tables e below P T (mkF m pc Ls (st)) := by
  exact own_go (fun t q => XS.goto X.here hx rfl (pc0 := pc) (pc' := pc') rfl hd ho hp q) k
theorem own_ifYes (X : Stand p l e R s m args below meth c T locs cells slots) (hx : p.tables.exec = Jvm.exec) {pc pc' : Nat} {Ls : Array Slot} {cd : ClassFile.Cond} {x : Int32} {rest : List Value} {o : Int} (hd : decode c.code pc = .ok (.ifCond cd o, 3)) (hc : if_icmp.holds cd x 0 = true) (ho : 0 ≤ (pc : Int) + o) (hp : ((pc : Int) + o).toNat = pc') (k : own_G p.tables e below P T (mkF m pc' Ls (rest))) : own_G p.tables e below P T (mkF m pc Ls (.int x :: rest)) := by
  exact own_go (fun t q => XS.ifYes X.here hx rfl (pc0 := pc) (pc' := pc') rfl hd rfl ((if0 _ _).trans hc) ho hp q) k
theorem own_icmpYes (X : Stand p l e R s m args below meth c T locs cells slots) (hx : p.tables.exec = Jvm.exec) {pc pc' : Nat} {Ls : Array Slot} {cd : ClassFile.Cond} {x y : Int32} {rest : List Value} {o : Int} (hd : decode c.code pc = .ok (.if_icmp cd o, 3)) (hc : if_icmp.holds cd x y = true) (ho : 0 ≤ (pc : Int) + o) (hp : ((pc : Int) + o).toNat = pc') (k : own_G p.tables e below P T (mkF m pc' Ls (rest))) : own_G p.tables e below P T (mkF m pc Ls (.int y :: .int x :: rest)) := by
  exact own_go (fun t q => XS.icmpYes X.here hx rfl (pc0 := pc) (pc' := pc') rfl hd rfl hc ho hp q) k
theorem own_ifnullYes (X : Stand p l e R s m args below meth c T locs cells slots) (hx : p.tables.exec = Jvm.exec) {pc pc' : Nat} {Ls : Array Slot} {rest : List Value} {o : Int} (hd : decode c.code pc = .ok (.ifnull o, 3)) (ho : 0 ≤ (pc : Int) + o) (hp : ((pc : Int) + o).toNat = pc') (k : own_G p.tables e below P T (mkF m pc' Ls (rest))) : own_G p.tables e below P T (mkF m pc Ls (.null :: rest)) := by
  exact own_go (fun t q => XS.ifnullYes X.here hx rfl (pc0 := pc) (pc' := pc') rfl hd rfl ho hp q) k
theorem own_ifnonnullYes (X : Stand p l e R s m args below meth c T locs cells slots) (hx : p.tables.exec = Jvm.exec) {pc pc' : Nat} {Ls : Array Slot} {b : Addr} {rest : List Value} {o : Int} (hd : decode c.code pc = .ok (.ifnonnull o, 3)) (ho : 0 ≤ (pc : Int) + o) (hp : ((pc : Int) + o).toNat = pc') (k : own_G p.tables e below P T (mkF m pc' Ls (rest))) : own_G p.tables e below P T (mkF m pc Ls (.ref b :: rest)) := by
  exact own_go (fun t q => XS.ifnonnullYes X.here hx rfl (pc0 := pc) (pc' := pc') rfl hd rfl ho hp q) k
theorem own_ifNo (X : Stand p l e R s m args below meth c T locs cells slots) (hx : p.tables.exec = Jvm.exec) {pc pc' : Nat} {Ls : Array Slot} {cd : ClassFile.Cond} {o : Int} {x : Int32} {rest : List Value} (hd : decode c.code pc = .ok (.ifCond cd o, 3)) (hc : if_icmp.holds cd x 0 = false) (hp : pc + 3 = pc') (k : own_G p.tables e below P T (mkF m pc' Ls (rest))) : own_G p.tables e below P T (mkF m pc Ls (.int x :: rest)) := by
  subst hp; exact own_go (fun t q => XS.ifNo X.here hx rfl hd rfl ((if0 _ _).trans hc) q) k
theorem own_icmpNo (X : Stand p l e R s m args below meth c T locs cells slots) (hx : p.tables.exec = Jvm.exec) {pc pc' : Nat} {Ls : Array Slot} {cd : ClassFile.Cond} {o : Int} {x y : Int32} {rest : List Value} (hd : decode c.code pc = .ok (.if_icmp cd o, 3)) (hc : if_icmp.holds cd x y = false) (hp : pc + 3 = pc') (k : own_G p.tables e below P T (mkF m pc' Ls (rest))) : own_G p.tables e below P T (mkF m pc Ls (.int y :: .int x :: rest)) := by
  subst hp; exact own_go (fun t q => XS.icmpNo X.here hx rfl hd rfl hc q) k
theorem own_ifnullNo (X : Stand p l e R s m args below meth c T locs cells slots) (hx : p.tables.exec = Jvm.exec) {pc pc' : Nat} {Ls : Array Slot} {o : Int} {b : Addr} {rest : List Value} (hd : decode c.code pc = .ok (.ifnull o, 3)) (hp : pc + 3 = pc') (k : own_G p.tables e below P T (mkF m pc' Ls (rest))) : own_G p.tables e below P T (mkF m pc Ls (.ref b :: rest)) := by
  subst hp; exact own_go (fun t q => XS.ifnullNo X.here hx rfl hd rfl q) k
theorem own_ifnonnullNo (X : Stand p l e R s m args below meth c T locs cells slots) (hx : p.tables.exec = Jvm.exec) {pc pc' : Nat} {Ls : Array Slot} {o : Int} {rest : List Value} (hd : decode c.code pc = .ok (.ifnonnull o, 3)) (hp : pc + 3 = pc') (k : own_G p.tables e below P T (mkF m pc' Ls (rest))) : own_G p.tables e below P T (mkF m pc Ls (.null :: rest)) := by
  subst hp; exact own_go (fun t q => XS.ifnonnullNo X.here hx rfl hd rfl q) k
theorem own_acmp (X : Stand p l e R s m args below meth c T locs cells slots) (hx : p.tables.exec = Jvm.exec) {pc pc' : Nat} {Ls : Array Slot} {cd : ACond} {x y : Value} {rest : List Value} {o : Int} (same : Bool) (hd : decode c.code pc = .ok (.if_acmp cd o, 3)) (h1 : x.isRef = true) (h2 : y.isRef = true) (hq : decide (x = y) = same) (ho : 0 ≤ (pc : Int) + o) (hp : pc' = if acV cd same = true then ((pc : Int) + o).toNat else pc + 3) (k : own_G p.tables e below P T (mkF m pc' Ls rest)) : own_G p.tables e below P T (mkF m pc Ls (y :: x :: rest)) := by
  exact own_go (fun t q => Jvm.RoadKit.acmp (g := mkF m pc Ls (y :: x :: rest)) X hx rfl h1 h2 (pc0 := pc) (pc' := pc') rfl hd rfl hq ho hp q) k
theorem own_ldcI (X : Stand p l e R s m args below meth c T locs cells slots) (hx : p.tables.exec = Jvm.exec) {pc pc' : Nat} {Ls : Array Slot} (hZ : Z.Warmed39 s.vm) {own : String} {idx : Nat} {z : Int32} {st : List Value} (hown : s.vm.findClass own = some m.cls) (w : (Jvm.Cond.constant own idx z).before a0 Z = true) (hd : decode c.code pc = .ok (.ldc idx, 2)) (hp : pc + 2 = pc') (k : own_G p.tables e below P T (mkF m pc' Ls (.int z :: st))) : own_G p.tables e below P T (mkF m pc Ls st) := by
  subst hp; exact own_go (X.ldcInt hx hown (mvT hZ w) (g := mkF m pc Ls st) rfl hd) k
theorem own_ldcwI (X : Stand p l e R s m args below meth c T locs cells slots) (hx : p.tables.exec = Jvm.exec) {pc pc' : Nat} {Ls : Array Slot} (hZ : Z.Warmed39 s.vm) {own : String} {idx : Nat} {z : Int32} {st : List Value} (hown : s.vm.findClass own = some m.cls) (w : (Jvm.Cond.constant own idx z).before a0 Z = true) (hd : decode c.code pc = .ok (.ldc_w idx, 3)) (hp : pc + 3 = pc') (k : own_G p.tables e below P T (mkF m pc' Ls (.int z :: st))) : own_G p.tables e below P T (mkF m pc Ls st) := by
  subst hp; exact own_go (X.ldcwInt hx hown (mvT hZ w) (g := mkF m pc Ls st) rfl hd) k
theorem own_ldc2J (X : Stand p l e R s m args below meth c T locs cells slots) (hx : p.tables.exec = Jvm.exec) {pc pc' : Nat} {Ls : Array Slot} (hZ : Z.Warmed39 s.vm) {own : String} {idx : Nat} {z : Int64} {st : List Value} (hown : s.vm.findClass own = some m.cls) (w : (Jvm.Cond.constantLong own idx z).before a0 Z = true) (hd : decode c.code pc = .ok (.ldc2_w idx, 3)) (hp : pc + 3 = pc') (k : own_G p.tables e below P T (mkF m pc' Ls (.long z :: st))) : own_G p.tables e below P T (mkF m pc Ls st) := by
  subst hp; exact own_go (X.ldc2Long hx hown (mvT hZ w) (g := mkF m pc Ls st) rfl hd) k
theorem own_getF (X : Stand p l e R s m args below meth c T locs cells slots) (hx : p.tables.exec = Jvm.exec) {pc pc' : Nat} {Ls : Array Slot} (hZ : Z.Warmed39 s.vm) {own R0 O n d host : String} {idx : Nat} {a : Addr} {v : Value} {rest : List Value} (hown : s.vm.findClass own = some m.cls) (w : (Cond.fieldLink own idx R0 n d).before a0 Z = true ∨ (Cond.fieldLinkNest own idx R0 n d host).before a0 Z = true) (via : Via Z R0 O n d) (eT : T.heap = h) (F : Fld Z h a O n d v) (hd : decode c.code pc = .ok (.getfield idx, 3)) (hp : pc + 3 = pc') (k : ∀ T', Stand p l e R s m args below meth c T' locs cells slots → T'.heap = h → own_G p.tables e below P T' (mkF m pc' Ls (v :: rest))) : own_G p.tables e below P T (mkF m pc Ls (.ref a :: rest)) := by
  subst hp; obtain ⟨T', X', e', st⟩ := getF X hx hZ hown w via eT F (g := mkF m pc Ls (.ref a :: rest)) rfl rfl hd; exact own_go st (k T' X' e')
theorem own_getS (X : Stand p l e R s m args below meth c T locs cells slots) (hx : p.tables.exec = Jvm.exec) {pc pc' : Nat} {Ls : Array Slot} (hZ : Z.Warmed39 s.vm) {own R0 O n d host : String} {idx : Nat} {v : Value} {st : List Value} (hown : s.vm.findClass own = some m.cls) (w : (Cond.fieldLink own idx R0 n d).before a0 Z = true ∨ (Cond.fieldLinkNest own idx R0 n d host).before a0 Z = true) (via : Via Z R0 O n d) (eT : T.heap = h) (F : Sta Z h O n d v) (hd : decode c.code pc = .ok (.getstatic idx, 3)) (hp : pc + 3 = pc') (k : ∀ T', Stand p l e R s m args below meth c T' locs cells slots → T'.heap = h → own_G p.tables e below P T' (mkF m pc' Ls (v :: st))) : own_G p.tables e below P T (mkF m pc Ls st) := by
  subst hp; obtain ⟨T', X', e', stp⟩ := getS2 X hx hZ hown w via eT F (g := mkF m pc Ls st) rfl hd; exact own_go stp (k T' X' e')
theorem own_len (X : Stand p l e R s m args below meth c T locs cells slots) (hx : p.tables.exec = Jvm.exec) {pc pc' : Nat} {Ls : Array Slot} (hZ : Z.Warmed39 s.vm) {a : Addr} {cl : Cell} {ty : FieldType} {z : Int32} {rest : List Value} (eT : T.heap = h) (A : Arr Z h a cl ty) (S : cl.slots.size = z.toNatClampNeg) (M : ¬ z < 0) (hd : decode c.code pc = .ok (.arraylength, 1)) (hp : pc + 1 = pc') (k : own_G p.tables e below P T (mkF m pc' Ls (.int z :: rest))) : own_G p.tables e below P T (mkF m pc Ls (.ref a :: rest)) := by
  subst hp; exact own_go (fun t q => X.arraylength hx (by rw [eT]; exact A.1) (State.isArrayOf_alike hZ.alike A.2.1) (g := mkF m pc Ls (.ref a :: rest)) rfl rfl hd _ (by rw [len_of S M]; exact q)) k
theorem own_iaload (X : Stand p l e R s m args below meth c T locs cells slots) (hx : p.tables.exec = Jvm.exec) {pc pc' : Nat} {Ls : Array Slot} (hZ : Z.Warmed39 s.vm) {a : Addr} {cl : Cell} {j : Int32} {v : Int32} {rest : List Value} (eT : T.heap = h) (A : Arr Z h a cl .int) (hj : ¬ (j < 0 ∨ cl.slots.size ≤ j.toNatClampNeg)) (hv : cl.slots[j.toNatClampNeg]? = some (.int v)) (hd : decode c.code pc = .ok (.iaload, 1)) (hp : pc + 1 = pc') (k : own_G p.tables e below P T (mkF m pc' Ls ((.int v) :: rest))) : own_G p.tables e below P T (mkF m pc Ls (.int j :: .ref a :: rest)) := by
  subst hp; exact own_go (X.iaload hx (j := j) (v := (.int v)) (by rw [eT]; exact A.1) (State.isArrayOf_alike hZ.alike A.2.1) A.2.2 hj hv (g := mkF m pc Ls (.int j :: .ref a :: rest)) rfl rfl hd) k
theorem own_laload (X : Stand p l e R s m args below meth c T locs cells slots) (hx : p.tables.exec = Jvm.exec) {pc pc' : Nat} {Ls : Array Slot} (hZ : Z.Warmed39 s.vm) {a : Addr} {cl : Cell} {j : Int32} {v : Int64} {rest : List Value} (eT : T.heap = h) (A : Arr Z h a cl .long) (hj : ¬ (j < 0 ∨ cl.slots.size ≤ j.toNatClampNeg)) (hv : cl.slots[j.toNatClampNeg]? = some (.long v)) (hd : decode c.code pc = .ok (.laload, 1)) (hp : pc + 1 = pc') (k : own_G p.tables e below P T (mkF m pc' Ls ((.long v) :: rest))) : own_G p.tables e below P T (mkF m pc Ls (.int j :: .ref a :: rest)) := by
  subst hp; exact own_go (X.laload hx (j := j) (v := (.long v)) (by rw [eT]; exact A.1) (State.isArrayOf_alike hZ.alike A.2.1) A.2.2 hj hv (g := mkF m pc Ls (.int j :: .ref a :: rest)) rfl rfl hd) k
theorem own_baload (X : Stand p l e R s m args below meth c T locs cells slots) (hx : p.tables.exec = Jvm.exec) {pc pc' : Nat} {Ls : Array Slot} (hZ : Z.Warmed39 s.vm) {a : Addr} {cl : Cell} {j : Int32} {v : Int32} {rest : List Value} (eT : T.heap = h) (A : Arr Z h a cl .byte) (hj : ¬ (j < 0 ∨ cl.slots.size ≤ j.toNatClampNeg)) (hv : cl.slots[j.toNatClampNeg]? = some (.int v)) (hd : decode c.code pc = .ok (.baload, 1)) (hp : pc + 1 = pc') (k : own_G p.tables e below P T (mkF m pc' Ls ((.int v) :: rest))) : own_G p.tables e below P T (mkF m pc Ls (.int j :: .ref a :: rest)) := by
  subst hp; exact own_go (X.baloadBytes hx (j := j) (v := (.int v)) (by rw [eT]; exact A.1) (State.isArrayOf_alike hZ.alike A.2.1) A.2.2 hj hv (g := mkF m pc Ls (.int j :: .ref a :: rest)) rfl rfl hd) k
theorem own_caload (X : Stand p l e R s m args below meth c T locs cells slots) (hx : p.tables.exec = Jvm.exec) {pc pc' : Nat} {Ls : Array Slot} (hZ : Z.Warmed39 s.vm) {a : Addr} {cl : Cell} {j : Int32} {v : Int32} {rest : List Value} (eT : T.heap = h) (A : Arr Z h a cl .char) (hj : ¬ (j < 0 ∨ cl.slots.size ≤ j.toNatClampNeg)) (hv : cl.slots[j.toNatClampNeg]? = some (.int v)) (hd : decode c.code pc = .ok (.caload, 1)) (hp : pc + 1 = pc') (k : own_G p.tables e below P T (mkF m pc' Ls ((.int v) :: rest))) : own_G p.tables e below P T (mkF m pc Ls (.int j :: .ref a :: rest)) := by
  subst hp; exact own_go (X.caload hx (j := j) (v := (.int v)) (by rw [eT]; exact A.1) (State.isArrayOf_alike hZ.alike A.2.1) A.2.2 hj hv (g := mkF m pc Ls (.int j :: .ref a :: rest)) rfl rfl hd) k
theorem own_aaload (X : Stand p l e R s m args below meth c T locs cells slots) (hx : p.tables.exec = Jvm.exec) {pc pc' : Nat} {Ls : Array Slot} (hZ : Z.Warmed39 s.vm) {a : Addr} {cl : Cell} {ty : FieldType} {j : Int32} {v : Value} {rest : List Value} (eT : T.heap = h) (A : Arr Z h a cl ty) (hty : ty.isReference = true) (hj : ¬ (j < 0 ∨ cl.slots.size ≤ j.toNatClampNeg)) (hv : cl.slots[j.toNatClampNeg]? = some v) (hd : decode c.code pc = .ok (.aaload, 1)) (hp : pc + 1 = pc') (k : own_G p.tables e below P T (mkF m pc' Ls (v :: rest))) : own_G p.tables e below P T (mkF m pc Ls (.int j :: .ref a :: rest)) := by
  subst hp; exact own_go (X.aaload hx (j := j) (v := v) (by rw [eT]; exact A.1) (State.isArrayOf_alike hZ.alike A.2.1) hty A.2.2 hj hv (g := mkF m pc Ls (.int j :: .ref a :: rest)) rfl rfl hd) k
theorem own_stI (X : Stand p l e R s m args below meth c T locs cells slots) (hx : p.tables.exec = Jvm.exec) {pc pc' : Nat} {Ls : Array Slot} (hZ : Z.Warmed39 s.vm) {a : Addr} {cl : Cell} {j : Int32} {x : Int32} {rest : List Value} (eT : T.heap = h) (A : Arr Z h a cl .int) (hj : ¬ (j < 0 ∨ cl.slots.size ≤ j.toNatClampNeg)) (hd : decode c.code pc = .ok (.iastore, 1)) (hp : pc + 1 = pc') (k : ∀ T' h', Stand p l e R s m args below meth c T' (locs ++ [⟨a, j.toNatClampNeg⟩]) cells slots → T'.heap = h' → Wr h h' a j.toNatClampNeg (.int x) → own_G p.tables e below P T' (mkF m pc' Ls rest)) : own_G p.tables e below P T (mkF m pc Ls (.int x :: .int j :: .ref a :: rest)) := by
  subst hp; obtain ⟨T', h', X', e', W', st⟩ := stI X hx hZ eT A (j := j) hj (g := mkF m pc Ls (.int x :: .int j :: .ref a :: rest)) rfl rfl hd; exact own_go st (k T' h' X' e' W')
theorem own_stJ (X : Stand p l e R s m args below meth c T locs cells slots) (hx : p.tables.exec = Jvm.exec) {pc pc' : Nat} {Ls : Array Slot} (hZ : Z.Warmed39 s.vm) {a : Addr} {cl : Cell} {j : Int32} {x : Int64} {rest : List Value} (eT : T.heap = h) (A : Arr Z h a cl .long) (hj : ¬ (j < 0 ∨ cl.slots.size ≤ j.toNatClampNeg)) (hd : decode c.code pc = .ok (.lastore, 1)) (hp : pc + 1 = pc') (k : ∀ T' h', Stand p l e R s m args below meth c T' (locs ++ [⟨a, j.toNatClampNeg⟩]) cells slots → T'.heap = h' → Wr h h' a j.toNatClampNeg (.long x) → own_G p.tables e below P T' (mkF m pc' Ls rest)) : own_G p.tables e below P T (mkF m pc Ls (.long x :: .int j :: .ref a :: rest)) := by
  subst hp; obtain ⟨T', h', X', e', W', st⟩ := stJ X hx hZ eT A (j := j) hj (g := mkF m pc Ls (.long x :: .int j :: .ref a :: rest)) rfl rfl hd; exact own_go st (k T' h' X' e' W')
theorem own_stB (X : Stand p l e R s m args below meth c T locs cells slots) (hx : p.tables.exec = Jvm.exec) {pc pc' : Nat} {Ls : Array Slot} (hZ : Z.Warmed39 s.vm) {a : Addr} {cl : Cell} {j : Int32} {x : Int32} {rest : List Value} (eT : T.heap = h) (A : Arr Z h a cl .byte) (hj : ¬ (j < 0 ∨ cl.slots.size ≤ j.toNatClampNeg)) (hd : decode c.code pc = .ok (.bastore, 1)) (hp : pc + 1 = pc') (k : ∀ T' h', Stand p l e R s m args below meth c T' (locs ++ [⟨a, j.toNatClampNeg⟩]) cells slots → T'.heap = h' → Wr h h' a j.toNatClampNeg (.int (nar .byte x)) → own_G p.tables e below P T' (mkF m pc' Ls rest)) : own_G p.tables e below P T (mkF m pc Ls (.int x :: .int j :: .ref a :: rest)) := by
  subst hp; obtain ⟨T', h', X', e', W', st⟩ := stB X hx hZ eT A (j := j) hj (g := mkF m pc Ls (.int x :: .int j :: .ref a :: rest)) rfl rfl hd; exact own_go st (k T' h' X' e' W')
theorem own_stC (X : Stand p l e R s m args below meth c T locs cells slots) (hx : p.tables.exec = Jvm.exec) {pc pc' : Nat} {Ls : Array Slot} (hZ : Z.Warmed39 s.vm) {a : Addr} {cl : Cell} {j : Int32} {x : Int32} {rest : List Value} (eT : T.heap = h) (A : Arr Z h a cl .char) (hj : ¬ (j < 0 ∨ cl.slots.size ≤ j.toNatClampNeg)) (hd : decode c.code pc = .ok (.castore, 1)) (hp : pc + 1 = pc') (k : ∀ T' h', Stand p l e R s m args below meth c T' (locs ++ [⟨a, j.toNatClampNeg⟩]) cells slots → T'.heap = h' → Wr h h' a j.toNatClampNeg (.int (nar .char x)) → own_G p.tables e below P T' (mkF m pc' Ls rest)) : own_G p.tables e below P T (mkF m pc Ls (.int x :: .int j :: .ref a :: rest)) := by
  subst hp; obtain ⟨T', h', X', e', W', st⟩ := stC X hx hZ eT A (j := j) hj (g := mkF m pc Ls (.int x :: .int j :: .ref a :: rest)) rfl rfl hd; exact own_go st (k T' h' X' e' W')
theorem own_stR (X : Stand p l e R s m args below meth c T locs cells slots) (hx : p.tables.exec = Jvm.exec) {pc pc' : Nat} {Ls : Array Slot} (hZ : Z.Warmed39 s.vm) {a : Addr} {cl : Cell} {j : Int32} {x : Value} {ty : FieldType} {rest : List Value} (eT : T.heap = h) (A : Arr Z h a cl ty) (hj : ¬ (j < 0 ∨ cl.slots.size ≤ j.toNatClampNeg)) (hty : ty.isReference = true) (F : Sto Z h a x) (hd : decode c.code pc = .ok (.aastore, 1)) (hp : pc + 1 = pc') (k : ∀ T' h', Stand p l e R s m args below meth c T' (locs ++ [⟨a, j.toNatClampNeg⟩]) cells slots → T'.heap = h' → Wr h h' a j.toNatClampNeg x → own_G p.tables e below P T' (mkF m pc' Ls rest)) : own_G p.tables e below P T (mkF m pc Ls (x :: .int j :: .ref a :: rest)) := by
  subst hp; obtain ⟨T', h', X', e', W', st⟩ := stR X hx hZ eT A (j := j) hj hty F (g := mkF m pc Ls (x :: .int j :: .ref a :: rest)) rfl rfl hd; exact own_go st (k T' h' X' e' W')
theorem own_putF (X : Stand p l e R s m args below meth c T locs cells slots) (hx : p.tables.exec = Jvm.exec) {pc pc' : Nat} {Ls : Array Slot} (hZ : Z.Warmed39 s.vm) {own R0 O n d host C : String} {idx kk : Nat} {ty : FieldType} {a : Addr} {v old : Value} {rest : List Value} (hown : s.vm.findClass own = some m.cls) (w : (Cond.fieldLink own idx R0 n d).before a0 Z = true ∨ (Cond.fieldLinkNest own idx R0 n d host).before a0 Z = true) (via : Via Z R0 O n d) (eT : T.heap = h) (F : Fld Z h a O n d old) (E : Exa Z h a C) (L : (Cond.lays C O n d).before a0 Z = true ∨ ((Cond.laysFinal C O n d).before a0 Z = true ∧ own = O ∧ meth.name = "<init>")) (wi : (Cond.instantiable C kk).before a0 Z = true) (hty : parseFieldDescriptor d = some ty) (hn : narrow ty v = v) (hf : fits ty v = true) (hd : decode c.code pc = .ok (.putfield idx, 3)) (hp : pc + 3 = pc') (k : ∀ T' h', Stand p l e R s m args below meth c T' (locs ++ [⟨a, Jvm.RoadKit.slotOf Z O n d⟩]) cells slots → T'.heap = h' → Wr h h' a (Jvm.RoadKit.slotOf Z O n d) v → own_G p.tables e below P T' (mkF m pc' Ls rest)) : own_G p.tables e below P T (mkF m pc Ls (v :: .ref a :: rest)) := by
  subst hp; obtain ⟨T', h', X', e', W', st⟩ := putF X hx hZ hown w via eT F E L wi hty hn hf (g := mkF m pc Ls (v :: .ref a :: rest)) rfl rfl hd; exact own_go st (k T' h' X' e' W')
theorem own_putFN (X : Stand p l e R s m args below meth c T locs cells slots) (hx : p.tables.exec = Jvm.exec) {pc pc' : Nat} {Ls : Array Slot} (hZ : Z.Warmed39 s.vm) {own R0 O n d C : String} {idx kk : Nat} {ty : FieldType} {a : Addr} {v old : Value} (v' : Value) {rest : List Value} (hown : s.vm.findClass own = some m.cls) (w : (Cond.fieldLink own idx R0 n d).before a0 Z = true) (via : Via Z R0 O n d) (eT : T.heap = h) (F : Fld Z h a O n d old) (E : Exa Z h a C) (L : (Cond.lays C O n d).before a0 Z = true ∨ ((Cond.laysFinal C O n d).before a0 Z = true ∧ own = O ∧ meth.name = "<init>")) (wi : (Cond.instantiable C kk).before a0 Z = true) (hty : parseFieldDescriptor d = some ty) (hn : narrow ty v = v') (hf : fits ty v' = true) (hd : decode c.code pc = .ok (.putfield idx, 3)) (hp : pc + 3 = pc') (k : ∀ T' h', Stand p l e R s m args below meth c T' (locs ++ [⟨a, Jvm.RoadKit.slotOf Z O n d⟩]) cells slots → T'.heap = h' → Wr h h' a (Jvm.RoadKit.slotOf Z O n d) v' → own_G p.tables e below P T' (mkF m pc' Ls rest)) : own_G p.tables e below P T (mkF m pc Ls (v :: .ref a :: rest)) := by
  subst hp; obtain ⟨T', h', X', e', W', st⟩ := putFN X hx hZ hown w via eT F E L wi hty hn hf (g := mkF m pc Ls (v :: .ref a :: rest)) rfl rfl hd; exact own_go st (k T' h' X' e' W')
theorem own_new (X : Stand p l e R s m args below meth c T locs cells slots) (hx : p.tables.exec = Jvm.exec) {pc pc' : Nat} {Ls : Array Slot} (hZ : Z.Warmed39 s.vm) {own C : String} {idx n : Nat} {st : List Value} (hown : s.vm.findClass own = some m.cls) (w : (Cond.classLink own idx C).before a0 Z = true) (wi : (Cond.instantiable C n).before a0 Z = true) (wz : (Cond.initialized C).before a0 Z = true) (eT : T.heap = h) (hd : decode c.code pc = .ok (.new idx, 3)) (hc : cells + 1 ≤ R.cells) (hl : slots + n ≤ R.slots) (hp : pc + 3 = pc') (k : ∀ T' h' b, b = h.size → Stand p l e R s m args below meth c T' locs (cells + 1) (slots + n) → T'.heap = h' → Ext h h' → Exa Z h' b C → (∀ {O nm d : String} {ty : FieldType}, Laid Z a0 C O nm d → parseFieldDescriptor d = some ty → Fld Z h' b O nm d (defaultValue ty)) → own_G p.tables e below P T' (mkF m pc' Ls (.ref b :: st))) : own_G p.tables e below P T (mkF m pc Ls st) := by
  subst hp; obtain ⟨T', h', X', e', E', A', D', -, stp⟩ := newO X hx hZ hown w wi wz eT (g := mkF m pc Ls st) rfl hd hc hl; exact own_go stp (k T' h' _ rfl X' e' E' A' D')
theorem own_newP (X : Stand p l e R s m args below meth c T locs cells slots) (hx : p.tables.exec = Jvm.exec) {pc pc' : Nat} {Ls : Array Slot} (hZ : Z.Warmed39 s.vm) {aty : ArrayType} {z : Int32} {rest : List Value} (w : (Cond.arrayClass (newarray.typeOf aty)).before a0 Z = true) (eT : T.heap = h) (hd : decode c.code pc = .ok (.newarray aty, 2)) (hn : ¬ z < 0) (cap : Nat) (hcap : z.toNatClampNeg ≤ cap) (hb : cap * 8 ≤ 536870912) (hc : cells + 1 ≤ R.cells) (hl : slots + cap ≤ R.slots) (hp : pc + 2 = pc') (k : ∀ T' h' cA b, b = h.size → Stand p l e R s m args below meth c T' locs (cells + 1) (slots + cap) → T'.heap = h' → Ext h h' → Arr Z h' b (newA cA (newarray.typeOf aty) z) (newarray.typeOf aty) → own_G p.tables e below P T' (mkF m pc' Ls (.ref b :: rest))) : own_G p.tables e below P T (mkF m pc Ls (.int z :: rest)) := by
  subst hp; obtain ⟨T', h', cA, X', e', E', A', stp⟩ := newP X hx hZ w eT (g := mkF m pc Ls (.int z :: rest)) rfl hd rfl hn hcap hb hc hl; exact own_go stp (k T' h' cA _ rfl X' e' E' A')
theorem own_newR (X : Stand p l e R s m args below meth c T locs cells slots) (hx : p.tables.exec = Jvm.exec) {pc pc' : Nat} {Ls : Array Slot} (hZ : Z.Warmed39 s.vm) {own C : String} {idx : Nat} {z : Int32} {rest : List Value} (hown : s.vm.findClass own = some m.cls) (w1 : (Cond.classLink own idx C).before a0 Z = true) (w2 : (Cond.arrayOver (.object C)).before a0 Z = true) (eT : T.heap = h) (hd : decode c.code pc = .ok (.anewarray idx, 3)) (hn : ¬ z < 0) (cap : Nat) (hcap : z.toNatClampNeg ≤ cap) (hb : cap * 8 ≤ 536870912) (hc : cells + 1 ≤ R.cells) (hl : slots + cap ≤ R.slots) (hp : pc + 3 = pc') (k : ∀ T' h' cA b, b = h.size → Stand p l e R s m args below meth c T' locs (cells + 1) (slots + cap) → T'.heap = h' → Ext h h' → Arr Z h' b (newA cA (.object C) z) (.object C) → Ovr Z cA C → own_G p.tables e below P T' (mkF m pc' Ls (.ref b :: rest))) : own_G p.tables e below P T (mkF m pc Ls (.int z :: rest)) := by
  subst hp; obtain ⟨T', h', cA, X', e', E', A', O', stp⟩ := newR X hx hZ hown w1 w2 eT (g := mkF m pc Ls (.int z :: rest)) rfl hd rfl hn hcap hb hc hl; exact own_go stp (k T' h' cA _ rfl X' e' E' A' O')
theorem own_initO (X : Stand p l e R s m args below meth c T locs cells slots) (hx : p.tables.exec = Jvm.exec) {pc pc' : Nat} {Ls : Array Slot} (hZ : Z.Warmed39 s.vm) {own : String} {idx : Nat} {a : Addr} {rest : List Value} (hown : s.vm.findClass own = some m.cls) (w1 : (Cond.methodLink own idx Lib.objectInit).before a0 Z = true) (w2 : (Cond.instanceMethod Lib.objectInit).before a0 Z = true) (w3 : (Cond.code Lib.objectInit ⟨#[0xb1]⟩ 1 none).before a0 Z = true) (eT : T.heap = h) (hsz : Ls.size = c.maxLocals) (hd : decode c.code pc = .ok (.invokespecial idx, 3)) (hf : 1 ≤ R.frames) (W : Nat) (hW : 2 * 0 + (rest.map fun v => v.category).sum ≤ W) (hl : W + 12 ≤ R.locals) (hp : pc + 3 = pc') (k : ∀ T', Stand p l e R s m args below meth c T' locs cells slots → T'.heap = h → own_G p.tables e below P T' (mkF m pc' Ls rest)) : own_G p.tables e below P T (mkF m pc Ls (.ref a :: rest)) := by
  subst hp; obtain ⟨T', X', e', st⟩ := initO X hx hZ hown w1 w2 w3 eT (g := mkF m pc Ls (.ref a :: rest)) rfl hsz rfl hd hf hW hl; exact own_go st (k T' X' e')
theorem own_callS (X : Stand p l e R s m args below meth c T locs cells slots) (hx : p.tables.exec = Jvm.exec) {pc pc' : Nat} {Ls : Array Slot} (hZ : Z.Warmed39 s.vm) {own : String} {idx : Nat} {y : MethodName} {bytes : ByteArray} {maxL : Nat} {ret : Option FieldType} {rm : Room} {as' : Array Value} {Q : Option Value → Heap → List Loc → Prop} (hown : s.vm.findClass own = some m.cls) (w1 : (Cond.methodLink own idx y).before a0 Z = true) (w2 : (Cond.static y).before a0 Z = true) (w3 : (Cond.initialized y.cls).before a0 Z = true) (w4 : (Cond.code y bytes maxL ret).before a0 Z = true) (hy : y.cls ≠ "java/lang/invoke/MethodHandle" ∧ y.cls ≠ "java/lang/invoke/VarHandle") (hM : MetFree l y (head1 [Cond.code y bytes maxL ret] rm) (fun a U => a = as' ∧ Z.Warmed39 U.vm ∧ U.heap = h) (fun _ _ _ _ _ => True) (fun _ U o U' => ∃ v L, o = .returned v ∧ Q v U'.heap L ∧ FrameEnd U o U' L rm.cells rm.slots)) (eT : T.heap = h) (W : Nat) (hf : rm.frames + 1 ≤ R.frames) (hl : W + (maxL + 11) + rm.locals ≤ R.locals) (hc : cells + rm.cells ≤ R.cells) (hsl : slots + rm.slots ≤ R.slots) {st : List Value} (argsL rest : List Value) (hsz : Ls.size = c.maxLocals) (hlen : ∀ sig, parseMethodDescriptor y.desc = some sig → argsL.length = sig.parameters.length) (has : argsL.toArray = as') (hst : st = argsL.reverse ++ rest) (hW : 2 * 0 + (rest.map fun v => v.category).sum ≤ W) (hd : decode c.code pc = .ok (.invokestatic idx, 3)) (hp : pc + 3 = pc') (k : ∀ v T' L, Stand p l e R s m args below meth c T' (locs ++ L) (cells + rm.cells) (slots + rm.slots) → Q v T'.heap L → own_G p.tables e below P T' (mkF m pc' Ls (v.toList ++ rest))) : own_G p.tables e below P T (mkF m pc Ls st) := by
  subst hp
  obtain ⟨v, vm, ⟨T', L', k', n'⟩, -, X', ⟨L, hQ, l', y', z'⟩, stp⟩ := Jvm.LawKit.callS X hx (y := y) hown (mvT hZ w1) (mvT hZ w2) (mvT hZ w3) (mvT hZ w4) hy (backOf (W := W) hM hZ w4 w3 hf hl) (g := mkF m pc Ls st) rfl hsz (argsL := argsL) (rest := rest) hlen hst hW hd (fun _ _ => ⟨has, eT, hc, hsl⟩)
  dsimp only [Pt.U, Pt.locs, Pt.cells, Pt.slots] at X' l' y' z' stp hQ
  subst l' y' z'
  exact own_go stp (k v T' L X' hQ)
theorem own_callV (X : Stand p l e R s m args below meth c T locs cells slots) (hx : p.tables.exec = Jvm.exec) {pc pc' : Nat} {Ls : Array Slot} (hZ : Z.Warmed39 s.vm) {own C : String} {idx : Nat} {y : MethodName} {bytes : ByteArray} {maxL : Nat} {ret : Option FieldType} {rm : Room} {as' : Array Value} {Q : Option Value → Heap → List Loc → Prop} (hown : s.vm.findClass own = some m.cls) (w1 : (Cond.methodLink own idx y).before a0 Z = true) (w2 : (Cond.instanceMethod y).before a0 Z = true) (w3 : (Cond.selects C y y).before a0 Z = true) (w4 : (Cond.code y bytes maxL ret).before a0 Z = true) (w5 : (Cond.initialized y.cls).before a0 Z = true) (hy : y.cls ≠ "java/lang/invoke/MethodHandle" ∧ y.cls ≠ "java/lang/invoke/VarHandle") (hM : MetFree l y (head1 [Cond.code y bytes maxL ret] rm) (fun a U => a = as' ∧ Z.Warmed39 U.vm ∧ U.heap = h) (fun _ _ _ _ _ => True) (fun _ U o U' => ∃ v L, o = .returned v ∧ Q v U'.heap L ∧ FrameEnd U o U' L rm.cells rm.slots)) (eT : T.heap = h) {b : Addr} (E : Exa Z h b C) (W : Nat) (hf : rm.frames + 1 ≤ R.frames) (hl : W + (maxL + 11) + rm.locals ≤ R.locals) (hc : cells + rm.cells ≤ R.cells) (hsl : slots + rm.slots ≤ R.slots) {st : List Value} (argsL rest : List Value) (hsz : Ls.size = c.maxLocals) (hlen : ∀ sig, parseMethodDescriptor y.desc = some sig → argsL.length = sig.parameters.length) (has : (Value.ref b :: argsL).toArray = as') (hst : st = argsL.reverse ++ .ref b :: rest) (hW : 2 * 0 + (rest.map fun v => v.category).sum ≤ W) (hd : decode c.code pc = .ok (.invokevirtual idx, 3)) (hp : pc + 3 = pc') (k : ∀ v T' L, Stand p l e R s m args below meth c T' (locs ++ L) (cells + rm.cells) (slots + rm.slots) → Q v T'.heap L → own_G p.tables e below P T' (mkF m pc' Ls (v.toList ++ rest))) : own_G p.tables e below P T (mkF m pc Ls st) := by
  subst hp
  obtain ⟨cell, kc, q1, q2, q3, q4, -⟩ := E
  obtain ⟨v, vm, ⟨T', L', k', n'⟩, -, X', ⟨L, hQ, l', y', z'⟩, stp⟩ := Jvm.LawKit.callV X hx (y := y) (C := C) hown (mvT hZ w1) (mvT hZ w2) (mvT hZ w3) (mvT hZ w4) hy (backOf (W := W) hM hZ w4 w5 hf hl) (b := b) (cellB := cell) (by rw [eT]; exact q1) q4 (by rw [hZ.alike.findClass]; exact q2) (g := mkF m pc Ls st) rfl hsz (argsL := argsL) (rest := rest) hlen hst hW hd (fun _ _ => ⟨has, eT, hc, hsl⟩)
  dsimp only [Pt.U, Pt.locs, Pt.cells, Pt.slots] at X' l' y' z' stp hQ
  subst l' y' z'
  exact own_go stp (k v T' L X' hQ)
theorem own_callI (X : Stand p l e R s m args below meth c T locs cells slots) (hx : p.tables.exec = Jvm.exec) {pc pc' : Nat} {Ls : Array Slot} (hZ : Z.Warmed39 s.vm) {own : String} {idx : Nat} {y : MethodName} {bytes : ByteArray} {maxL : Nat} {rm : Room} {as' : Array Value} {Q : Option Value → Heap → List Loc → Prop} (hy1 : y.name = "<init>") (hown : s.vm.findClass own = some m.cls) (w1 : (Cond.methodLink own idx y).before a0 Z = true) (w2 : (Cond.instanceMethod y).before a0 Z = true) (w4 : (Cond.code y bytes maxL none).before a0 Z = true) (w5 : (Cond.initialized y.cls).before a0 Z = true) (hy : y.cls ≠ "java/lang/invoke/MethodHandle" ∧ y.cls ≠ "java/lang/invoke/VarHandle") (hM : MetFree l y (head1 [Cond.code y bytes maxL none] rm) (fun a U => a = as' ∧ Z.Warmed39 U.vm ∧ U.heap = h) (fun _ _ _ _ _ => True) (fun _ U o U' => ∃ v L, o = .returned v ∧ Q v U'.heap L ∧ FrameEnd U o U' L rm.cells rm.slots)) (eT : T.heap = h) {b : Addr} (W : Nat) (hf : rm.frames + 1 ≤ R.frames) (hl : W + (maxL + 11) + rm.locals ≤ R.locals) (hc : cells + rm.cells ≤ R.cells) (hsl : slots + rm.slots ≤ R.slots) {st : List Value} (argsL rest : List Value) (hsz : Ls.size = c.maxLocals) (hlen : ∀ sig, parseMethodDescriptor y.desc = some sig → argsL.length = sig.parameters.length) (has : (Value.ref b :: argsL).toArray = as') (hst : st = argsL.reverse ++ .ref b :: rest) (hW : 2 * 0 + (rest.map fun v => v.category).sum ≤ W) (hd : decode c.code pc = .ok (.invokespecial idx, 3)) (hp : pc + 3 = pc') (k : ∀ v T' L, Stand p l e R s m args below meth c T' (locs ++ L) (cells + rm.cells) (slots + rm.slots) → Q v T'.heap L → own_G p.tables e below P T' (mkF m pc' Ls (v.toList ++ rest))) : own_G p.tables e below P T (mkF m pc Ls st) := by
  subst hp
  obtain ⟨v, vm, ⟨T', L', k', n'⟩, -, X', ⟨L, hQ, l', y', z'⟩, stp⟩ := Jvm.LawKit.callI X hx (y := y) hown hy1 (mvT hZ w1) (mvT hZ w2) (mvT hZ w4) hy (backOf (W := W) hM hZ w4 w5 hf hl) (g := mkF m pc Ls st) rfl hsz (a := b) (argsL := argsL) (rest := rest) hlen hst hW hd (fun _ _ => ⟨has, eT, hc, hsl⟩)
  dsimp only [Pt.U, Pt.locs, Pt.cells, Pt.slots] at X' l' y' z' stp hQ
  subst l' y' z'
  exact own_go stp (k v T' L X' hQ)
theorem own_dupX2 (X : Stand p l e R s m args below meth c T locs cells slots) (hx : p.tables.exec = Jvm.exec) {pc pc' : Nat} {Ls : Array Slot} {x j : Int32} {a : Addr} {rest : List Value} (hd : decode c.code pc = .ok (.dup_x2, 1)) (hp : pc + 1 = pc') (k : own_G p.tables e below P T (mkF m pc' Ls (.int x :: .int j :: .ref a :: .int x :: rest))) : own_G p.tables e below P T (mkF m pc Ls (.int x :: .int j :: .ref a :: rest)) := by
  subst hp
  refine own_go (fun t q => ?_) k
  jvm_step X.here [X.here.top, hx, hd, Value.category]
  exact q
theorem own_callP (X : Stand p l e R s m args below meth c T locs cells slots) (hx : p.tables.exec = Jvm.exec) {pc pc' : Nat} {Ls : Array Slot} (hZ : Z.Warmed39 s.vm) {own C : String} {idx nn : Nat} {y : MethodName} {bytes : ByteArray} {maxL : Nat} {ret : Option FieldType} {rm : Room} {as' : Array Value} {Q : Option Value → Heap → List Loc → Prop} (hown : s.vm.findClass own = some m.cls) (w1 : (Cond.methodLink own idx y).before a0 Z = true) (w2 : (Cond.instanceMethod y).before a0 Z = true) (w3 : (Cond.privateMethod y).before a0 Z = true) (w4 : (Cond.code y bytes maxL ret).before a0 Z = true) (w5 : (Cond.initialized y.cls).before a0 Z = true) (w6 : (Cond.instantiable y.cls nn).before a0 Z = true) (hy : y.cls ≠ "java/lang/invoke/MethodHandle" ∧ y.cls ≠ "java/lang/invoke/VarHandle") (hM : MetFree l y (head1 [Cond.code y bytes maxL ret] rm) (fun a U => a = as' ∧ Z.Warmed39 U.vm ∧ U.heap = h) (fun _ _ _ _ _ => True) (fun _ U o U' => ∃ v L, o = .returned v ∧ Q v U'.heap L ∧ FrameEnd U o U' L rm.cells rm.slots)) (eT : T.heap = h) {b : Addr} (E : Exa Z h b C) (W : Nat) (hf : rm.frames + 1 ≤ R.frames) (hl : W + (maxL + 11) + rm.locals ≤ R.locals) (hc : cells + rm.cells ≤ R.cells) (hsl : slots + rm.slots ≤ R.slots) {st : List Value} (argsL rest : List Value) (hsz : Ls.size = c.maxLocals) (hlen : ∀ sig, parseMethodDescriptor y.desc = some sig → argsL.length = sig.parameters.length) (has : (Value.ref b :: argsL).toArray = as') (hst : st = argsL.reverse ++ .ref b :: rest) (hW : 2 * 0 + (rest.map fun v => v.category).sum ≤ W) (hd : decode c.code pc = .ok (.invokevirtual idx, 3)) (hp : pc + 3 = pc') (k : ∀ v T' L, Stand p l e R s m args below meth c T' (locs ++ L) (cells + rm.cells) (slots + rm.slots) → Q v T'.heap L → own_G p.tables e below P T' (mkF m pc' Ls (v.toList ++ rest))) : own_G p.tables e below P T (mkF m pc Ls st) := by
  subst hp
  obtain ⟨cell, q1, q2⟩ := E.cell
  obtain ⟨cc, kk, i1, i2, -, i4, -⟩ := Cond.instantiable_spec (mvT hZ w6 (args := args))
  have hpv := Cond.privateMethod_at (mvP hZ w3 (args := args))
  obtain ⟨v, vm, ⟨T', L', k', n'⟩, -, X', ⟨L, hQ, l', y', z'⟩, stp⟩ := X.privateBack hx (y := y) hown (mvT hZ w1) (mvT hZ w2) (Jvm.Stand.selects_self_of_private i1 i2 (Bool.or_eq_false_iff.mp i4).1 hpv (mvT hZ w2) hy) hpv (mvT hZ w4) hy (backOf (W := W) hM hZ w4 w5 hf hl) (g := mkF m pc Ls st) rfl hsz (Steps.refl _) (a := b) (cell := cell) (by rw [eT]; exact q1) q2 (argsL := argsL) (rest := rest) hlen hst hW hd (fun _ _ => ⟨has, eT, hc, hsl⟩)
  dsimp only [Pt.U, Pt.locs, Pt.cells, Pt.slots] at X' l' y' z' stp hQ
  subst l' y' z'
  exact own_go (fun t q => stp.trans q) (k v T' L X' hQ)
theorem own_fldI {u : Term} {C n d : String} {x : Addr} {z : Int32} (ht : u.eval args s none [] s = some (.ref x)) (hq : (Jvm.Cond.eq (.field u C n d) (.int z)).value args s none s [] = some true) : Fld s s.heap x C n d (.int z) :=
  Fld.start ((fld_at ht).symm.trans (Cond.eq_int (Cond.before_iff.mpr hq) rfl))
theorem own_fldR {u t : Term} {C n d : String} {x y : Addr} (ht : u.eval args s none [] s = some (.ref x)) (hu : t.eval args s none [] s = some (.ref y)) (hq : (Jvm.Cond.eq (.field u C n d) t).value args s none s [] = some true) : Fld s s.heap x C n d (.ref y) :=
  Fld.start ((fld_at ht).symm.trans (Cond.eq_refs (Cond.before_iff.mpr hq) hu rfl))
theorem own_none {u : Term} {x : Addr} {cl : Cell} (A : Arr s s.heap x cl .int) (ht : u.eval args s none [] s = some (.ref x)) (hq : (Jvm.Cond.eq (.length u) (.int 0)).value args s none s [] = some true) : Arv s s.heap x cl.cls .int (0 : Int32) [] (.int (0 : Int32)) := by
  have e1 := Cond.eq_int (Cond.before_iff.mpr hq) (n := 0) rfl
  obtain ⟨sd, SA, hev, harrAt, -⟩ := Term.length_spec e1
  have h31 := SBG.length_lt hev harrAt e1
  cases ht.symm.trans hev
  cases (Arr.fin (Vm.Alike.refl _) A).symm.trans harrAt
  have e2 := len_f ht harrAt h31
  have e3 : cl.slots.size.toInt32 = (0 : Int32) := by simpa using Option.some.inj (e2.symm.trans e1)
  have e4 : cl.slots.size = 0 := by
    have e5 := congrArg Int32.toInt e3
    rw [len_toInt h31] at e5
    have e6 : ((0 : Int32)).toInt = 0 := by decide
    omega
  exact ⟨cl, A, rfl, e4, by decide, fun k hk => by omega, fun i hi => by omega⟩
end OwnKit
section OwnFp
variable {p : Program} {l : Launch} {e : Env} {R : Room} {s : State} {m : MethodId} {args : Array Value} {below : List Frame} {meth : Method} {c : Code} {T : State} {locs : List Loc} {cells slots : Nat} {Z : State} {a0 : Array Value} {h h' : Heap} {P : Outcome → State → Prop}
theorem own_i2d (X : Stand p l e R s m args below meth c T locs cells slots) (hx : p.tables.exec = Jvm.exec) {pc pc' : Nat} {Ls : Array Slot} {x : Int32} {rest : List Value} (hd : decode c.code pc = .ok (.i2d, 1)) (hp : pc + 1 = pc') (k : own_G p.tables e below P T (mkF m pc' Ls (.double (FP.i2d x) :: rest))) : own_G p.tables e below P T (mkF m pc Ls (.int x :: rest)) := by
  subst hp; exact own_go (fun t q => XS.i2dS X.here hx rfl hd rfl rfl q) k
theorem own_dadd (X : Stand p l e R s m args below meth c T locs cells slots) (hx : p.tables.exec = Jvm.exec) {pc pc' : Nat} {Ls : Array Slot} {x y : UInt64} {rest : List Value} (hd : decode c.code pc = .ok (.dadd, 1)) (hn : Jvm.Free.Fl.NoNaN64 (FP.dadd x y)) (hp : pc + 1 = pc') (k : own_G p.tables e below P T (mkF m pc' Ls (.double (FP.dadd x y) :: rest))) : own_G p.tables e below P T (mkF m pc Ls (.double y :: .double x :: rest)) := by
  subst hp; exact own_go (fun t q => XS.daddS X.here hx rfl hd rfl hn rfl q) k
theorem own_dcmp (X : Stand p l e R s m args below meth c T locs cells slots) (hx : p.tables.exec = Jvm.exec) {pc pc' : Nat} {Ls : Array Slot} {o : CmpOp} {x y : UInt64} (v : Int32) {rest : List Value} (hd : decode c.code pc = .ok (.dcmp o, 1)) (hv : cmpValue (FP.dcmp x y) o = v) (hp : pc + 1 = pc') (k : own_G p.tables e below P T (mkF m pc' Ls (.int v :: rest))) : own_G p.tables e below P T (mkF m pc Ls (.double y :: .double x :: rest)) := by
  subst hp; exact own_go (fun t q => XS.dcmpS X.here hx rfl hd rfl hv q) k
theorem own_dconst0 (X : Stand p l e R s m args below meth c T locs cells slots) (hx : p.tables.exec = Jvm.exec) {pc pc' : Nat} {Ls : Array Slot} {st : List Value} (hd : decode c.code pc = .ok (.dconst 0, 1)) (hp : pc + 1 = pc') (k : own_G p.tables e below P T (mkF m pc' Ls (.double FP.dconst0 :: st))) : own_G p.tables e below P T (mkF m pc Ls (st)) := by
  subst hp; exact own_go (fun t q => XS.dconst0 X.here hx rfl hd rfl q) k
theorem own_dconst1 (X : Stand p l e R s m args below meth c T locs cells slots) (hx : p.tables.exec = Jvm.exec) {pc pc' : Nat} {Ls : Array Slot} {st : List Value} (hd : decode c.code pc = .ok (.dconst 1, 1)) (hp : pc + 1 = pc') (k : own_G p.tables e below P T (mkF m pc' Ls (.double FP.dconst1 :: st))) : own_G p.tables e below P T (mkF m pc Ls (st)) := by
  subst hp; exact own_go (fun t q => XS.dconst1 X.here hx rfl hd rfl q) k
theorem own_dloadN (X : Stand p l e R s m args below meth c T locs cells slots) (hx : p.tables.exec = Jvm.exec) {pc pc' : Nat} {Ls : Array Slot} {j : Fin 4} {v : UInt64} {st : List Value} (hd : decode c.code pc = .ok (.dload_n j, 1)) (hl : Ls[j.val]? = some (.val (.double v))) (hp : pc + 1 = pc') (k : own_G p.tables e below P T (mkF m pc' Ls (.double v :: st))) : own_G p.tables e below P T (mkF m pc Ls (st)) := by
  subst hp; exact own_go (fun t q => XS.dloadN X.here hx rfl hd hl q) k
theorem own_dstoreN (X : Stand p l e R s m args below meth c T locs cells slots) (hx : p.tables.exec = Jvm.exec) {pc pc' : Nat} {Ls : Array Slot} {j : Fin 4} {v : UInt64} {rest : List Value} {Ls' : Array Slot} (hd : decode c.code pc = .ok (.dstore_n j, 1)) (hl : storeLocals Ls j.val (.double v) = some Ls') (hp : pc + 1 = pc') (k : own_G p.tables e below P T (mkF m pc' Ls' (rest))) : own_G p.tables e below P T (mkF m pc Ls (.double v :: rest)) := by
  subst hp; exact own_go (fun t q => XS.dstoreN X.here hx rfl hd rfl hl q) k
theorem own_dload (X : Stand p l e R s m args below meth c T locs cells slots) (hx : p.tables.exec = Jvm.exec) {pc pc' : Nat} {Ls : Array Slot} {j : Nat} {v : UInt64} {st : List Value} (hd : decode c.code pc = .ok (.dload j, 2)) (hl : Ls[j]? = some (.val (.double v))) (hp : pc + 2 = pc') (k : own_G p.tables e below P T (mkF m pc' Ls (.double v :: st))) : own_G p.tables e below P T (mkF m pc Ls (st)) := by
  subst hp; exact own_go (fun t q => XS.dload X.here hx rfl hd hl q) k
theorem own_dstore (X : Stand p l e R s m args below meth c T locs cells slots) (hx : p.tables.exec = Jvm.exec) {pc pc' : Nat} {Ls : Array Slot} {j : Nat} {v : UInt64} {rest : List Value} {Ls' : Array Slot} (hd : decode c.code pc = .ok (.dstore j, 2)) (hl : storeLocals Ls j (.double v) = some Ls') (hp : pc + 2 = pc') (k : own_G p.tables e below P T (mkF m pc' Ls' (rest))) : own_G p.tables e below P T (mkF m pc Ls (.double v :: rest)) := by
  subst hp; exact own_go (fun t q => XS.dstore X.here hx rfl hd rfl hl q) k
theorem own_ldc2D (X : Stand p l e R s m args below meth c T locs cells slots) (hx : p.tables.exec = Jvm.exec) {pc pc' : Nat} {Ls : Array Slot} (hZ : Z.Warmed39 s.vm) {own : String} {idx : Nat} {z : UInt64} {st : List Value} (hown : s.vm.findClass own = some m.cls) (w : (Jvm.Cond.constantDouble own idx z).before a0 Z = true) (hd : decode c.code pc = .ok (.ldc2_w idx, 3)) (hp : pc + 3 = pc') (k : own_G p.tables e below P T (mkF m pc' Ls (.double z :: st))) : own_G p.tables e below P T (mkF m pc Ls st) := by
  subst hp; exact own_go (X.ldc2DoubleC hx hown (mvT hZ w) (g := mkF m pc Ls st) rfl hd) k
theorem own_daload (X : Stand p l e R s m args below meth c T locs cells slots) (hx : p.tables.exec = Jvm.exec) {pc pc' : Nat} {Ls : Array Slot} (hZ : Z.Warmed39 s.vm) {a : Addr} {cl : Cell} {j : Int32} {v : UInt64} {rest : List Value} (eT : T.heap = h) (A : Arr Z h a cl .double) (hj : ¬ (j < 0 ∨ cl.slots.size ≤ j.toNatClampNeg)) (hv : cl.slots[j.toNatClampNeg]? = some (.double v)) (hd : decode c.code pc = .ok (.daload, 1)) (hp : pc + 1 = pc') (k : own_G p.tables e below P T (mkF m pc' Ls (.double v :: rest))) : own_G p.tables e below P T (mkF m pc Ls (.int j :: .ref a :: rest)) := by
  subst hp; exact own_go (X.daload hx (j := j) (v := .double v) (by rw [eT]; exact A.1) (State.isArrayOf_alike hZ.alike A.2.1) A.2.2 hj hv (g := mkF m pc Ls (.int j :: .ref a :: rest)) rfl rfl hd) k
theorem own_stD (X : Stand p l e R s m args below meth c T locs cells slots) (hx : p.tables.exec = Jvm.exec) {pc pc' : Nat} {Ls : Array Slot} (hZ : Z.Warmed39 s.vm) {a : Addr} {cl : Cell} {j : Int32} {x : UInt64} {rest : List Value} (eT : T.heap = h) (A : Arr Z h a cl .double) (hj : ¬ (j < 0 ∨ cl.slots.size ≤ j.toNatClampNeg)) (hd : decode c.code pc = .ok (.dastore, 1)) (hp : pc + 1 = pc') (k : ∀ T' h', Stand p l e R s m args below meth c T' (locs ++ [⟨a, j.toNatClampNeg⟩]) cells slots → T'.heap = h' → Wr h h' a j.toNatClampNeg (.double x) → own_G p.tables e below P T' (mkF m pc' Ls rest)) : own_G p.tables e below P T (mkF m pc Ls (.double x :: .int j :: .ref a :: rest)) := by
  subst hp; obtain ⟨T', h', X', e', W', st⟩ := stD X hx hZ eT A (j := j) hj (g := mkF m pc Ls (.double x :: .int j :: .ref a :: rest)) rfl rfl hd; exact own_go st (k T' h' X' e' W')
theorem own_retD {Q : Option Value → Heap → List Loc → Prop} {C S : Nat} (X : Stand p l e R s m args below meth c T locs cells slots) (hx : p.tables.exec = Jvm.exec) (hlk : meth.locks = false) (hret : meth.sig.returnType = some .double) {pc : Nat} {Ls : Array Slot} {z : UInt64} {rest : List Value} (hd : decode c.code pc = .ok (.dreturn, 1)) (hC : cells ≤ C) (hS : slots ≤ S) (hq : Q (some (.double z)) T.heap locs) :
    own_G p.tables e below (own_P s Q C S) T (mkF m pc Ls (.double z :: rest)) :=
  own_ret X hlk (fun h => by rw [hret] at h; cases h) (fun fs hr => retOut X hx hret rfl (Or.inr (Or.inr (Or.inl ⟨rfl, rfl, z, rfl⟩))) hd hr) hC hS hq
/-! an array told by a function of the place -/
def own_Ar (Z : State) (h : Heap) (a : Addr) (ty : FieldType) (N : Nat) (F : Nat → Value) : Prop := ∃ c : Cell, Arr Z h a c ty ∧ c.slots.size = N ∧ ∀ i, i < N → c.slots[i]? = some (F i)
def own_upd {α : Type} (f : Nat → α) (q : Nat) (v : α) (i : Nat) : α := if i = q then v else f i
variable {a b : Addr} {ty : FieldType} {N : Nat} {F : Nat → Value} {sl : Nat} {v : Value} {ws : List Addr}
theorem own_Ar.lt (A : own_Ar Z h a ty N F) : a < h.size := by obtain ⟨c, A1, -⟩ := A; exact A1.lt
theorem own_Ar.ext (A : own_Ar Z h a ty N F) (E : Ext h h') : own_Ar Z h' a ty N F := by obtain ⟨c, A1, r⟩ := A; exact ⟨c, A1.ext E, r⟩
theorem own_Ar.other (A : own_Ar Z h b ty N F) (W : Wr h h' a sl v) (q : b ≠ a) : own_Ar Z h' b ty N F := by obtain ⟨c, A1, r⟩ := A; exact ⟨c, Arr.other W A1 q, r⟩
theorem own_Ar.keep (A : own_Ar Z h a ty N F) (K : Keep h h' ws) (q : a ∉ ws) : own_Ar Z h' a ty N F := by obtain ⟨c, A1, r⟩ := A; exact ⟨c, ⟨K.2.1 _ _ A1.1 q, A1.2⟩, r⟩
theorem own_Ar.set {G : Nat → Value} {j : Int32} {i : Nat} (A : own_Ar Z h a ty N F) (W : Wr h h' a j.toNatClampNeg v) (hj : j.toNatClampNeg = i) (hi : i < N) (hG : ∀ q, G q = if q = i then v else F q) : own_Ar Z h' a ty N G := by
  obtain ⟨c, A1, S1, H1⟩ := A
  refine ⟨c.setSlot j.toNatClampNeg v, Arr.same W A1, by rw [sz_set]; exact S1, fun q hq => ?_⟩
  rw [hG q, hj]
  by_cases e : q = i
  · subst e; rw [if_pos rfl]; simp [Cell.setSlot, S1, hi]
  · rw [if_neg e]; show (c.slots.setIfInBounds i v)[q]? = _; rw [Array.getElem?_setIfInBounds_ne (Ne.symm e)]; exact H1 q hq
theorem own_in {cl : Cell} {j : Int32} {i : Nat} (S : cl.slots.size = N) (h1 : ¬ j < 0) (h2 : j.toNatClampNeg = i) (h3 : i < N) : ¬ (j < 0 ∨ cl.slots.size ≤ j.toNatClampNeg) := by
  intro q
  rcases q with q | q
  · exact h1 q
  · omega
theorem own_Ar.fresh {k : ClassId} {z : Int32} (A : Arr Z h a (newA k ty z) ty) (hz : z.toNatClampNeg = N) (hF : ∀ i, F i = defaultValue ty) : own_Ar Z h a ty N F := by
  refine ⟨_, A, by rw [sz_new]; exact hz, fun i hi => ?_⟩
  rw [hF i]
  simp [newA, hz, hi]
end OwnFp
theorem own_t32_m1 : (-1 : Int32).toInt = -1 := by decide
theorem own_t32_0 : (0 : Int32).toInt = 0 := by decide
theorem own_t32_1 : (1 : Int32).toInt = 1 := by decide
theorem own_t32_6 : (6 : Int32).toInt = 6 := by decide
theorem own_t32_63 : (63 : Int32).toInt = 63 := by decide
theorem own_t32_64 : (64 : Int32).toInt = 64 := by decide
theorem own_t32_4095 : (4095 : Int32).toInt = 4095 := by decide
theorem own_t32_4096 : (4096 : Int32).toInt = 4096 := by decide
theorem own_t64_0 : (0 : Int64).toInt = 0 := by decide
theorem own_on {n : Nat} (h : n < 100000) : (Int32.ofNat n).toInt = n := Int32.toInt_ofNat_of_lt (by omega)
theorem own_clamp {n : Nat} (h : n < 100000) : ¬ Int32.ofNat n < 0 ∧ (Int32.ofNat n).toNatClampNeg = n := by
  have q : ¬ Int32.ofNat n < 0 := by rw [Int32.lt_iff_toInt_lt, own_on h]; show ¬ (n : Int) < 0; omega
  exact ⟨q, by have q2 := nat_of q; rw [own_on h] at q2; omega⟩
theorem own_div {P : Nat} (h : P < 4096) : ((Int32.ofNat P).toUInt32 >>> ((6 : Int32) &&& 31).toUInt32).toInt32 = Int32.ofNat (P / 64) := by
  have q := c_iushr (Int32.ofNat P) (6 : Int32) 6 (by decide) (by decide)
  rw [own_on (by omega)] at q
  rw [← Int32.toInt_inj, own_on (by omega), q]
  show ((P : Int) % 4294967296) / ((2 ^ 6 : Nat) : Int) = _
  have q3 : ((2 ^ 6 : Nat) : Int) = 64 := rfl
  rw [q3]
  omega
def own_bit (P : Nat) : Int64 := (1 : Int64) <<< ((Int32.ofNat P) &&& 0x3f).toInt64
theorem own_bit_mod (P : Nat) (h : P < 4096) : own_bit P = own_bit (P % 64) := by
  have e : (Int32.ofNat P) &&& 0x3f = (Int32.ofNat (P % 64)) &&& 0x3f := by
    have q1 := c_mask (Int32.ofNat P) (0x3f : Int32) 6 (by decide) (by decide)
    have q2 := c_mask (Int32.ofNat (P % 64)) (0x3f : Int32) 6 (by decide) (by decide)
    rw [own_on (by omega)] at q1
    rw [own_on (by omega)] at q2
    have q3 : ((2 ^ 6 : Nat) : Int) = 64 := rfl
    rw [q3] at q1 q2
    rw [← Int32.toInt_inj, q1, q2]
    omega
  unfold own_bit
  rw [e]
theorem own_bit_ne : ∀ a b : Fin 64, a ≠ b → own_bit a.val &&& own_bit b.val = 0 := by decide +kernel
theorem own_bit_self : ∀ a : Fin 64, own_bit a.val &&& own_bit a.val ≠ 0 ∧ (0 : Int64) &&& own_bit a.val = 0 := by decide +kernel
theorem own_bit_or : ∀ a b : Fin 64, ((own_bit a.val ||| own_bit b.val) &&& own_bit a.val ≠ 0) := by decide +kernel
theorem own_i2d_fin (x : Int32) : FP.i2d x = FP.l2d x.toInt64 := i2d_w x
theorem own_b53 (x : Int64) (h1 : -9007199254740992 < x.toInt) (h2 : x.toInt < 9007199254740992) : B53 x := ⟨h1, h2⟩
theorem own_b53i (x : Int32) : B53 x.toInt64 := by have q := rng32 x; have q2 := c_i2l x; exact ⟨by omega, by omega⟩
theorem own_add2 (x y : Int32) : FP.dadd (FP.i2d x) (FP.i2d y) = FP.l2d (x.toInt64 + y.toInt64) := by rw [i2d_w, i2d_w]; exact dadd_w (own_b53i x) (own_b53i y)
theorem own_b53s (x y : Int32) : B53 (x.toInt64 + y.toInt64) := by
  have q := rng32 x; have q2 := c_i2l x; have q3 := rng32 y; have q4 := c_i2l y; have q5 := c_ladd x.toInt64 y.toInt64; have q6 := rng64 (x.toInt64 + y.toInt64)
  exact ⟨by omega, by omega⟩
theorem own_nn1 (x : Int32) : Jvm.Free.Fl.NoNaN64 (FP.i2d x) := nn_w (i2d_w x)
theorem own_nn2 (x y : Int32) : Jvm.Free.Fl.NoNaN64 (FP.dadd (FP.i2d x) (FP.i2d y)) := nn_w (own_add2 x y)
theorem own_nn3 (x y z : Int32) : Jvm.Free.Fl.NoNaN64 (FP.dadd (FP.dadd (FP.i2d x) (FP.i2d y)) (FP.i2d z)) := by
  rw [own_add2, i2d_w]; exact nn_w (dadd_w (own_b53s x y) (own_b53i z))
theorem own_back (s q : Int32) : (s + q) - s = q := by
  have q1 := c_iadd s q; have q2 := c_isub (s + q) s; have q3 := rng32 ((s + q) - s); have q4 := rng32 q; have q5 := rng32 (s + q)
  rw [← Int32.toInt_inj]; omega
theorem own_upd_same {α : Type} (f : Nat → α) (q : Nat) (v : α) : own_upd f q v q = v := by unfold own_upd; rw [if_pos rfl]
theorem own_upd_other {α : Type} (f : Nat → α) {q i : Nat} (v : α) (h : i ≠ q) : own_upd f q v i = f i := by unfold own_upd; rw [if_neg h]
theorem own_fin64 (P : Nat) : ∃ a : Fin 64, a.val = P % 64 := ⟨⟨P % 64, Nat.mod_lt _ (by decide)⟩, rfl⟩
theorem own_z (P : Nat) (h : P < 4096) : (0 : Int64) &&& own_bit P = 0 := by
  rw [own_bit_mod P h]; obtain ⟨a, ea⟩ := own_fin64 P; rw [← ea]; exact (own_bit_self a).2
theorem own_zor (x : Int64) : (0 : Int64) ||| x = x := Int64.zero_or
theorem own_ne1 (P : Nat) (h : P < 4096) : ¬ (((0 : Int64) ||| own_bit P) &&& own_bit P = 0) := by
  rw [own_zor, own_bit_mod P h]; obtain ⟨a, ea⟩ := own_fin64 P; rw [← ea]; exact (own_bit_self a).1
theorem own_clear {f : Nat → Int64} {A B : Nat} (hA : A < 4096) (hB : B < 4096) (hne : A ≠ B) (w1 : f (A / 64) = (0 : Int64) ||| own_bit A) (w2 : ∀ q, q ≠ A / 64 → f q = 0) : f (B / 64) &&& own_bit B = 0 := by
  by_cases e : B / 64 = A / 64
  · rw [e, w1, own_zor, own_bit_mod A hA, own_bit_mod B hB]
    obtain ⟨a, ea⟩ := own_fin64 A; obtain ⟨b, eb⟩ := own_fin64 B
    rw [← ea, ← eb]
    exact own_bit_ne a b (fun q => by have q2 := congrArg Fin.val q; omega)
  · rw [w2 _ e]; exact own_z B hB
theorem own_held2 {f : Nat → Int64} {A B : Nat} (hA : A < 4096) (hB : B < 4096) (w1 : f (A / 64) = (0 : Int64) ||| own_bit A) : ¬ (own_upd f (B / 64) (f (B / 64) ||| own_bit B) (A / 64) &&& own_bit A = 0) := by
  by_cases e : A / 64 = B / 64
  · rw [e, own_upd_same, ← e, w1, own_zor, own_bit_mod A hA, own_bit_mod B hB]
    obtain ⟨a, ea⟩ := own_fin64 A; obtain ⟨b, eb⟩ := own_fin64 B
    rw [← ea, ← eb]
    exact own_bit_or a b
  · rw [own_upd_other _ _ e, w1]; exact own_ne1 A hA
def own_ush (x : Int32) (k : Int32) : Int32 := ((x.toUInt32 >>> (k &&& 31).toUInt32).toInt32)
def own_n4 (i n : Int32) : Int32 := if (4 : Int32) < i then (n + (2 : Int32)) + own_ush (own_ush i (2 : Int32)) (1 : Int32) else n + own_ush i (1 : Int32)
def own_n3 (i n : Int32) : Int32 := if (16 : Int32) < i then own_n4 (own_ush i (4 : Int32)) (n + (4 : Int32)) else own_n4 i n
def own_n2 (i n : Int32) : Int32 := if (256 : Int32) < i then own_n3 (own_ush i (8 : Int32)) (n + (8 : Int32)) else own_n3 i n
def own_n1 (i n : Int32) : Int32 := if (65536 : Int32) < i then own_n2 (own_ush i (16 : Int32)) (n + (16 : Int32)) else own_n2 i n
def own_nI (x : Int32) : Int32 := if (0 : Int32) < ((x ^^^ (-1 : Int32)) &&& (x - (1 : Int32))) then own_n1 ((x ^^^ (-1 : Int32)) &&& (x - (1 : Int32))) (1 : Int32) else (((x ^^^ (-1 : Int32)) &&& (x - (1 : Int32))) &&& (32 : Int32))
def own_nL (x : Int64) : Int32 := if x.toInt32 = (0 : Int32) then (32 : Int32) + own_nI (((x.toUInt64 >>> ((32 : Int32) &&& 0x3f).toInt64.toUInt64).toInt64).toInt32) else own_nI x.toInt32
def own_mask (P : Nat) : Int64 := (-1 : Int64) <<< ((Int32.ofNat P) &&& 0x3f).toInt64
def own_hit (s : Int32) (w : Nat) (bits : Int64) : Int32 := (s + Int32.ofNat w * (64 : Int32)) + own_nL bits
def own_scan (hf : Nat → Int64) (s : Int32) : Nat → Nat → Int64 → Int32
  | 0, w, bits => if bits = 0 then (-1 : Int32) else own_hit s w bits
  | k + 1, w, bits => if bits = 0 then own_scan hf s k (w + 1) (hf (w + 1)) else own_hit s w bits
def own_next (hf : Nat → Int64) (s : Int32) (P : Nat) : Int32 := if P / 64 = 64 then (-1 : Int32) else own_scan hf s (63 - P / 64) (P / 64) (hf (P / 64) &&& own_mask P)
theorem own_div2 {P : Nat} (h : P < 4097) : ((Int32.ofNat P).toUInt32 >>> ((6 : Int32) &&& 31).toUInt32).toInt32 = Int32.ofNat (P / 64) := by
  have q := c_iushr (Int32.ofNat P) (6 : Int32) 6 (by decide) (by decide)
  rw [own_on (by omega)] at q
  rw [← Int32.toInt_inj, own_on (by omega), q]
  show ((P : Int) % 4294967296) / ((2 ^ 6 : Nat) : Int) = _
  have q3 : ((2 ^ 6 : Nat) : Int) = 64 := rfl
  rw [q3]
  omega
theorem own_and_mod (P : Nat) (h : P < 4097) : (Int32.ofNat P) &&& 0x3f = (Int32.ofNat (P % 64)) &&& 0x3f := by
  have q1 := c_mask (Int32.ofNat P) (0x3f : Int32) 6 (by decide) (by decide)
  have q2 := c_mask (Int32.ofNat (P % 64)) (0x3f : Int32) 6 (by decide) (by decide)
  rw [own_on (by omega)] at q1
  rw [own_on (by omega)] at q2
  have q3 : ((2 ^ 6 : Nat) : Int) = 64 := rfl
  rw [q3] at q1 q2
  rw [← Int32.toInt_inj, q1, q2]
  omega
theorem own_mask_mod (P : Nat) (h : P < 4097) : own_mask P = own_mask (P % 64) := by
  unfold own_mask; rw [own_and_mod P h]
theorem own_bm : ∀ a m : Fin 64, own_bit a.val &&& own_mask m.val = if m.val ≤ a.val then own_bit a.val else 0 := by decide +kernel
theorem own_bn : ∀ a : Fin 64, own_bit a.val ≠ 0 ∧ own_nL (own_bit a.val) = Int32.ofNat a.val := by decide +kernel
theorem own_bo : ∀ a b : Fin 64, a.val ≤ b.val → own_bit a.val ||| own_bit b.val ≠ 0 ∧ own_nL (own_bit a.val ||| own_bit b.val) = Int32.ofNat a.val := by decide +kernel
theorem own_ordist (x y z : Int64) : (x ||| y) &&& z = (x &&& z) ||| (y &&& z) := by
  apply Int64.toBitVec_inj.mp
  simp only [Int64.toBitVec_and, Int64.toBitVec_or]
  ext i hi
  simp only [BitVec.getElem_and, BitVec.getElem_or, Bool.and_or_distrib_right]
def own_c (A q : Nat) : Int64 := if q = A / 64 then own_bit A else 0
/-- what a word of the mask bears -/
theorem own_cm (A P : Nat) (hA : A < 4096) (hP : P < 4096) : own_c A (P / 64) &&& own_mask P = if P ≤ A ∧ P / 64 = A / 64 then own_bit A else 0 := by
  unfold own_c
  by_cases e : P / 64 = A / 64
  · rw [if_pos e, own_bit_mod A hA, own_mask_mod P (by omega)]
    have q := own_bm ⟨A % 64, Nat.mod_lt _ (by decide)⟩ ⟨P % 64, Nat.mod_lt _ (by decide)⟩
    rw [show own_bit (A % 64) &&& own_mask (P % 64) = _ from q]
    by_cases h : P ≤ A
    · rw [if_pos (show P % 64 ≤ A % 64 by omega), if_pos ⟨h, e⟩]
    · rw [if_neg (show ¬ P % 64 ≤ A % 64 by omega), if_neg (fun q => h q.1)]
  · rw [if_neg e, if_neg (fun q => e q.2), Int64.zero_and]
theorem own_hit_at (s : Int32) (M : Nat) (hM : M < 4096) : (s + Int32.ofNat (M / 64) * (64 : Int32)) + Int32.ofNat (M % 64) = s + Int32.ofNat M := by
  rw [show (64 : Int32) = Int32.ofNat 64 from rfl, ← Int32.ofNat_mul, Int32.add_assoc, ← Int32.ofNat_add]
  congr 2; omega
/-- the scan finds M -/
theorem own_scan_hit (hf : Nat → Int64) (s : Int32) (M : Nat) (hM : M < 4096) : ∀ (k w : Nat) (bits : Int64), w + k = 63 → w ≤ M / 64 →
    (w = M / 64 → bits ≠ 0 ∧ own_nL bits = Int32.ofNat (M % 64)) → (w < M / 64 → bits = 0 ∧ (∀ q, w < q → q < M / 64 → hf q = 0) ∧ hf (M / 64) ≠ 0 ∧ own_nL (hf (M / 64)) = Int32.ofNat (M % 64)) →
    own_scan hf s k w bits = s + Int32.ofNat M := by
  intro k
  induction k with
  | zero =>
    intro w bits hw hle h1 h2
    have e : w = M / 64 := by omega
    obtain ⟨a, b⟩ := h1 e
    unfold own_scan own_hit
    rw [if_neg a, b, e]; exact own_hit_at s M hM
  | succ k ih =>
    intro w bits hw hle h1 h2
    unfold own_scan
    by_cases e : w = M / 64
    · obtain ⟨a, b⟩ := h1 e
      unfold own_hit
      rw [if_neg a, b, e]; exact own_hit_at s M hM
    · obtain ⟨a, b, c, d⟩ := h2 (by omega)
      rw [if_pos a]
      refine ih (w + 1) _ (by omega) (by omega) (fun e2 => ?_) (fun e2 => ⟨b _ (by omega) e2, fun q h3 h4 => b q (by omega) h4, c, d⟩)
      rw [e2]; exact ⟨c, d⟩
theorem own_scan_miss (hf : Nat → Int64) (s : Int32) : ∀ (k w : Nat), w + k = 63 → (∀ q, w < q → q < 64 → hf q = 0) → own_scan hf s k w 0 = (-1 : Int32) := by
  intro k
  induction k with
  | zero => intro w hw h; unfold own_scan; rw [if_pos rfl]
  | succ k ih =>
    intro w hw h
    unfold own_scan
    rw [if_pos rfl, h (w + 1) (by omega) (by omega)]
    exact ih (w + 1) (by omega) (fun q h1 h2 => h q (by omega) h2)
theorem own_bnA (A : Nat) (hA : A < 4096) : own_bit A ≠ 0 ∧ own_nL (own_bit A) = Int32.ofNat (A % 64) := by
  rw [own_bit_mod A hA]; exact own_bn ⟨A % 64, Nat.mod_lt _ (by decide)⟩
theorem own_boA (A B : Nat) (hA : A < 4096) (hB : B < 4096) (h : A % 64 ≤ B % 64) : own_bit A ||| own_bit B ≠ 0 ∧ own_nL (own_bit A ||| own_bit B) = Int32.ofNat (A % 64) := by
  rw [own_bit_mod A hA, own_bit_mod B hB]; exact own_bo ⟨A % 64, Nat.mod_lt _ (by decide)⟩ ⟨B % 64, Nat.mod_lt _ (by decide)⟩ h
theorem own_or0 (x : Int64) : x ||| (0 : Int64) = x := Int64.or_zero
/-- the next holder at or after P, of the two lo ≤ hi -/
theorem own_next_lo (hf : Nat → Int64) (s : Int32) (lo hi P : Nat) (hlo : lo ≤ hi) (hhi : hi < 4096) (H : ∀ q, hf q = own_c lo q ||| own_c hi q) (hP : P ≤ lo) : own_next hf s P = s + Int32.ofNat lo := by
  unfold own_next
  rw [if_neg (by omega)]
  refine own_scan_hit hf s lo (by omega) _ _ _ (by omega) (by omega) (fun e => ?_) (fun e => ?_)
  · rw [H, own_ordist, own_cm lo P (by omega) (by omega), own_cm hi P hhi (by omega), if_pos ⟨hP, e⟩]
    by_cases e2 : P ≤ hi ∧ P / 64 = hi / 64
    · rw [if_pos e2]; exact own_boA lo hi (by omega) hhi (by omega)
    · rw [if_neg e2, own_or0]; exact own_bnA lo (by omega)
  · refine ⟨?_, fun q h1 h2 => ?_, ?_⟩
    · rw [H, own_ordist, own_cm lo P (by omega) (by omega), own_cm hi P hhi (by omega), if_neg (by omega), if_neg (by omega), own_or0]
    · rw [H]; unfold own_c; rw [if_neg (by omega), if_neg (by omega), own_or0]
    · rw [H]; unfold own_c; rw [if_pos rfl]
      by_cases e2 : lo / 64 = hi / 64
      · rw [if_pos e2]; exact own_boA lo hi (by omega) hhi (by omega)
      · rw [if_neg e2, own_or0]; exact own_bnA lo (by omega)
theorem own_next_hi (hf : Nat → Int64) (s : Int32) (lo hi P : Nat) (hhi : hi < 4096) (H : ∀ q, hf q = own_c lo q ||| own_c hi q) (hP : lo < P) (hP2 : P ≤ hi) : own_next hf s P = s + Int32.ofNat hi := by
  unfold own_next
  rw [if_neg (by omega)]
  refine own_scan_hit hf s hi hhi _ _ _ (by omega) (by omega) (fun e => ?_) (fun e => ?_)
  · rw [H, own_ordist, own_cm lo P (by omega) (by omega), own_cm hi P hhi (by omega), if_neg (by omega), if_pos ⟨hP2, e⟩, own_zor]; exact own_bnA hi hhi
  · refine ⟨?_, fun q h1 h2 => ?_, ?_⟩
    · rw [H, own_ordist, own_cm lo P (by omega) (by omega), own_cm hi P hhi (by omega), if_neg (by omega), if_neg (by omega), own_or0]
    · rw [H]; unfold own_c; rw [if_neg (by omega), if_neg (by omega), own_or0]
    · rw [H]; unfold own_c; rw [if_pos rfl, if_neg (by omega), own_zor]; exact own_bnA hi hhi
theorem own_next_no (hf : Nat → Int64) (s : Int32) (lo hi P : Nat) (hlo : lo < 4096) (hhi : hi < 4096) (H : ∀ q, hf q = own_c lo q ||| own_c hi q) (hP : lo < P) (hP2 : hi < P) (hP3 : P < 4097) : own_next hf s P = (-1 : Int32) := by
  unfold own_next
  by_cases e : P / 64 = 64
  · rw [if_pos e]
  · rw [if_neg e, H, own_ordist, own_cm lo P hlo (by omega), own_cm hi P hhi (by omega), if_neg (by omega), if_neg (by omega), own_or0]
    refine own_scan_miss hf s _ _ (by omega) (fun q h1 h2 => ?_)
    rw [H]; unfold own_c; rw [if_neg (by omega), if_neg (by omega), own_or0]
theorem own_orcomm (x y : Int64) : x ||| y = y ||| x := Int64.or_comm x y
/-- the words after the adds: A alone; A and B -/
theorem own_words1 {f : Nat → Int64} {A : Nat} (w1 : f (A / 64) = (0 : Int64) ||| own_bit A) (w2 : ∀ q, q ≠ A / 64 → f q = 0) : ∀ q, f q = own_c A q ||| own_c A q := by
  intro q; unfold own_c
  by_cases e : q = A / 64
  · rw [if_pos e, e, w1, own_zor]; exact (Int64.or_self).symm
  · rw [if_neg e, w2 q e, own_or0]
theorem own_words2 {f g : Nat → Int64} {A B : Nat} (w1 : f (A / 64) = (0 : Int64) ||| own_bit A) (w2 : ∀ q, q ≠ A / 64 → f q = 0) (hg : g = own_upd f (B / 64) (f (B / 64) ||| own_bit B)) : ∀ q, g q = own_c A q ||| own_c B q := by
  have h := own_words1 w1 w2
  have hA : ∀ q, f q = own_c A q := fun q => by rw [h q]; exact Int64.or_self
  intro q; rw [hg]
  by_cases e : q = B / 64
  · subst e; rw [own_upd_same, hA]; congr 1; unfold own_c; rw [if_pos rfl]
  · rw [own_upd_other _ _ e, hA]; unfold own_c; rw [if_neg e, own_or0]

theorem d3_0 : decode prog_49_method_1_code 0 = .ok (.aload_n 0, 1) := by decide +kernel
theorem d3_1 : decode prog_49_method_1_code 1 = .ok (.invokespecial 1, 3) := by decide +kernel
theorem d3_4 : decode prog_49_method_1_code 4 = .ok (.aload_n 0, 1) := by decide +kernel
theorem d3_5 : decode prog_49_method_1_code 5 = .ok (.sipush 4096, 3) := by decide +kernel
theorem d3_8 : decode prog_49_method_1_code 8 = .ok (.newarray .double, 2) := by decide +kernel
theorem d3_10 : decode prog_49_method_1_code 10 = .ok (.putfield 9, 3) := by decide +kernel
theorem d3_13 : decode prog_49_method_1_code 13 = .ok (.aload_n 0, 1) := by decide +kernel
theorem d3_14 : decode prog_49_method_1_code 14 = .ok (.bipush 64, 2) := by decide +kernel
theorem d3_16 : decode prog_49_method_1_code 16 = .ok (.newarray .long, 2) := by decide +kernel
theorem d3_18 : decode prog_49_method_1_code 18 = .ok (.putfield 15, 3) := by decide +kernel
theorem d3_21 : decode prog_49_method_1_code 21 = .ok (.return_, 1) := by decide +kernel
def Qinit (Z : State) (gw : Addr) (h0 : Heap) (n0 : Nat) (v : Option Value) (h : Heap) (L : List Loc) : Prop := v = none ∧ Fr n0 L ∧ Keep h0 h [gw] ∧ ∃ su ho : Addr, (n0 ≤ su ∧ n0 ≤ ho) ∧ (gw ≠ su ∧ gw ≠ ho ∧ su ≠ ho) ∧ Fld Z h gw "com/example/mixed_likelihood/mixedlikelihood/search/GainWindow" "sums" "[D" (.ref su) ∧ Fld Z h gw "com/example/mixed_likelihood/mixedlikelihood/search/GainWindow" "holding" "[J" (.ref ho) ∧ Fld Z h gw "com/example/mixed_likelihood/mixedlikelihood/search/GainWindow" "start" "I" (.int (0 : Int32)) ∧ own_Ar Z h ho .long 64 (fun ii => .long ((fun _ => (0 : Int64)) ii)) ∧ own_Ar Z h su .double 4096 (fun ii => .double ((fun _ => (0 : UInt64)) ii))
theorem ef_rm_init (m : MethodId) (x0 : Addr) : entryFrame m #[(.ref x0)] 1 = mkF m 0 #[.val (.ref x0)] [] := by first | (simp [entryFrame, mkF, argsToLocals, Value.category, maxLocals]; done) | rfl
theorem pf_0 : plainFor (⟨"com/example/mixed_likelihood/mixedlikelihood/search/GainWindow", "<init>", "()V"⟩ : MethodName) = true := by apply plainFor_of_name; first | (simp [plainName, overriddenIn]; done) | decide +kernel
theorem Wd14 {a0 : Array Value} {Z : State} (hw : ∀ d ∈ tables_1, d.before a0 Z = true) : (Jvm.Cond.methodLink "com/example/mixed_likelihood/mixedlikelihood/search/GainWindow" (1 : Nat) ({ cls := "java/lang/Object", name := "<init>", desc := "()V" } : Jvm.MethodName)).before a0 Z = true := hw _ (List.mem_of_getElem? (i := 14) rfl)
theorem Wd15 {a0 : Array Value} {Z : State} (hw : ∀ d ∈ tables_1, d.before a0 Z = true) : (Jvm.Cond.instanceMethod ({ cls := "java/lang/Object", name := "<init>", desc := "()V" } : Jvm.MethodName)).before a0 Z = true := hw _ (List.mem_of_getElem? (i := 15) rfl)
theorem Wd16 {a0 : Array Value} {Z : State} (hw : ∀ d ∈ tables_1, d.before a0 Z = true) : (Jvm.Cond.code ({ cls := "java/lang/Object", name := "<init>", desc := "()V" } : Jvm.MethodName) object_method_1_code (1 : Nat) (Option.none : Option Jvm.ClassFile.FieldType)).before a0 Z = true := hw _ (List.mem_of_getElem? (i := 16) rfl)
theorem Wd17 {a0 : Array Value} {Z : State} (hw : ∀ d ∈ tables_1, d.before a0 Z = true) : (Jvm.Cond.arrayClass Jvm.ClassFile.FieldType.double).before a0 Z = true := hw _ (List.mem_of_getElem? (i := 17) rfl)
theorem Wd18 {a0 : Array Value} {Z : State} (hw : ∀ d ∈ tables_1, d.before a0 Z = true) : (Jvm.Cond.fieldLink "com/example/mixed_likelihood/mixedlikelihood/search/GainWindow" (9 : Nat) "com/example/mixed_likelihood/mixedlikelihood/search/GainWindow" "sums" "[D").before a0 Z = true := hw _ (List.mem_of_getElem? (i := 18) rfl)
theorem Wd19 {a0 : Array Value} {Z : State} (hw : ∀ d ∈ tables_1, d.before a0 Z = true) : (Jvm.Cond.laysFinal "com/example/mixed_likelihood/mixedlikelihood/search/GainWindow" "com/example/mixed_likelihood/mixedlikelihood/search/GainWindow" "sums" "[D").before a0 Z = true := hw _ (List.mem_of_getElem? (i := 19) rfl)
theorem Wd9 {a0 : Array Value} {Z : State} (hw : ∀ d ∈ tables_1, d.before a0 Z = true) : (Jvm.Cond.instantiable "com/example/mixed_likelihood/mixedlikelihood/search/GainWindow" (3 : Nat)).before a0 Z = true := hw _ (List.mem_of_getElem? (i := 9) rfl)
theorem Wd22 {a0 : Array Value} {Z : State} (hw : ∀ d ∈ tables_1, d.before a0 Z = true) : (Jvm.Cond.laysFinal "com/example/mixed_likelihood/mixedlikelihood/search/GainWindow" "com/example/mixed_likelihood/mixedlikelihood/search/GainWindow" "holding" "[J").before a0 Z = true := hw _ (List.mem_of_getElem? (i := 22) rfl)
theorem Wd29 {a0 : Array Value} {Z : State} (hw : ∀ d ∈ tables_1, d.before a0 Z = true) : (Jvm.Cond.lays "com/example/mixed_likelihood/mixedlikelihood/search/GainWindow" "com/example/mixed_likelihood/mixedlikelihood/search/GainWindow" "start" "I").before a0 Z = true := hw _ (List.mem_of_getElem? (i := 29) rfl)
theorem Wd20 {a0 : Array Value} {Z : State} (hw : ∀ d ∈ tables_1, d.before a0 Z = true) : (Jvm.Cond.arrayClass Jvm.ClassFile.FieldType.long).before a0 Z = true := hw _ (List.mem_of_getElem? (i := 20) rfl)
theorem Wd21 {a0 : Array Value} {Z : State} (hw : ∀ d ∈ tables_1, d.before a0 Z = true) : (Jvm.Cond.fieldLink "com/example/mixed_likelihood/mixedlikelihood/search/GainWindow" (15 : Nat) "com/example/mixed_likelihood/mixedlikelihood/search/GainWindow" "holding" "[J").before a0 Z = true := hw _ (List.mem_of_getElem? (i := 21) rfl)
set_option maxRecDepth 65536 in
set_option maxHeartbeats 40000000 in
theorem rm_init (l : Launch) (Z : State) (a0 : Array Value) (hw : ∀ d ∈ tables_1, d.before a0 Z = true) (ws : List Jvm.Cond) (gw : Addr) (h0 : Heap) (n0 : Nat) (Z0 : n0 ≤ h0.size) (g_gw : n0 ≤ gw) (E_g : Exa Z h0 gw "com/example/mixed_likelihood/mixedlikelihood/search/GainWindow") (F_s : Fld Z h0 gw "com/example/mixed_likelihood/mixedlikelihood/search/GainWindow" "sums" "[D" .null) (F_h : Fld Z h0 gw "com/example/mixed_likelihood/mixedlikelihood/search/GainWindow" "holding" "[J" .null) (F_p : Fld Z h0 gw "com/example/mixed_likelihood/mixedlikelihood/search/GainWindow" "start" "I" (.int (0 : Int32))) :
    MetFree l (⟨"com/example/mixed_likelihood/mixedlikelihood/search/GainWindow", "<init>", "()V"⟩ : MethodName) (head1 (Jvm.Cond.code (⟨"com/example/mixed_likelihood/mixedlikelihood/search/GainWindow", "<init>", "()V"⟩ : MethodName) prog_49_method_1_code 1 none :: ws) ({ frames := 1, cells := 2, slots := 4160, locals := 12 } : Room)) (fun aa U => aa = #[(.ref gw)] ∧ Z.Warmed39 U.vm ∧ U.heap = h0) (fun _ _ _ _ _ => True) (fun _ U o U' => ∃ v L, o = .returned v ∧ Qinit Z gw h0 n0 v U'.heap L ∧ FrameEnd U o U' L (({ frames := 1, cells := 2, slots := 4160, locals := 12 } : Room).cells) (({ frames := 1, cells := 2, slots := 4160, locals := 12 } : Room).slots)) := by
  refine own_body pf_0 ?_
  intro p e s m below meth c s₁ hx hby hml hown hnm hlk hret hZ X0 e0
  have N0 : Fr n0 [] := Fr.nil n0
  refine own_go (f' := (mkF m 0 #[.val (.ref gw)] [])) (fun t k => castTop (ef_rm_init m gw) k) ?_
  have K1 : Keep h0 h0 [gw] := Keep.refl _ _
  refine own_aloadN X0 hx (pc' := 1) (hb hby d3_0) rfl rfl rfl ?_
  refine own_initO X0 hx (pc' := 4) hZ hown (Wd14 hw) (Wd15 hw) (Wd16 hw) e0 (by rw [hml]; rfl) (hb hby d3_1) (by decide) 0 (Nat.le_of_eq rfl) (by decide) rfl (fun T2 X2 e2 => ?_)
  refine own_aloadN X2 hx (pc' := 5) (hb hby d3_4) rfl rfl rfl ?_
  refine own_sipush X2 hx (pc' := 8) (4096 : Int32) (hb hby d3_5) rfl rfl ?_
  refine own_newP X2 hx (pc' := 10) hZ (aty := .double) (Wd17 hw) e2 (hb hby d3_8) (by decide) 4096 (by decide) (by decide) (by decide) (by decide) rfl (fun T3 h3 kc3 nb3 g3 X3 e3 E3 A3 => ?_)
  have ne_gw_nb3_4 : gw ≠ nb3 := Nat.ne_of_lt (Nat.lt_of_lt_of_le E_g.lt (Nat.le_of_eq g3.symm))
  have ge_nb3 : n0 ≤ nb3 := Nat.le_trans Z0 (Nat.le_of_eq g3.symm)
  have gk_nb3 : h0.size ≤ nb3 := Nat.le_trans K1.1 (Nat.le_of_eq g3.symm)
  have Z5 : n0 ≤ h3.size := Nat.le_trans Z0 E3.1
  have K6 : Keep h0 h3 [gw] := K1.ext E3
  have F7 := (Exa.ext E3 E_g)
  have F8 := (Fld.ext E3 F_s)
  have F9 := (Fld.ext E3 F_h)
  have F10 := (Fld.ext E3 F_p)
  have VA3 : own_Ar Z h3 nb3 .double 4096 (fun ii => .double ((fun _ => (0 : UInt64)) ii)) := own_Ar.fresh A3 (by decide) (fun _ => rfl)
  refine own_putF X3 hx (pc' := 13) hZ (ty := (.array .double)) hown (host := "") (Or.inl (Wd18 hw)) Via.refl e3 F8 F7 (Or.inr ⟨(Wd19 hw), rfl, hnm⟩) (Wd9 hw) (by decide) rfl rfl (hb hby d3_10) rfl (fun T12 h12 X12 e12 W12 => ?_)
  have N13 := Fr.snoc X12 N0 g_gw
  have Z14 : n0 ≤ h12.size := Nat.le_trans Z5 (Nat.le_of_eq (Wr.size W12).symm)
  have K15 : Keep h0 h12 [gw] := K6.wr W12 (Or.inl (List.mem_of_getElem? (i := 0) rfl))
  have F16 := (Exa.wr W12 F7)
  have F17 := (Fld.same W12 F8)
  have F18 := (Fld.other W12 F9 (Or.inr (slot_ne (Or.inr (Wd22 hw)) (Or.inr (Wd19 hw)) (by decide) (t := (.array .long)) (t' := (.array .double)) (by decide) (by decide))))
  have F19 := (Fld.other W12 F10 (Or.inr (slot_ne (Or.inl (Wd29 hw)) (Or.inr (Wd19 hw)) (by decide) (t := .int) (t' := (.array .double)) (by decide) (by decide))))
  have F20 := (VA3.other W12 (Ne.symm ne_gw_nb3_4))
  refine own_aloadN X12 hx (pc' := 14) (hb hby d3_13) rfl rfl rfl ?_
  refine own_bipush X12 hx (pc' := 16) (64 : Int32) (hb hby d3_14) rfl rfl ?_
  refine own_newP X12 hx (pc' := 18) hZ (aty := .long) (Wd20 hw) e12 (hb hby d3_16) (by decide) 64 (by decide) (by decide) (by decide) (by decide) rfl (fun T21 h21 kc21 nb21 g21 X21 e21 E21 A21 => ?_)
  have ne_gw_nb21_22 : gw ≠ nb21 := Nat.ne_of_lt (Nat.lt_of_lt_of_le F16.lt (Nat.le_of_eq g21.symm))
  have ne_nb3_nb21_23 : nb3 ≠ nb21 := Nat.ne_of_lt (Nat.lt_of_lt_of_le F20.lt (Nat.le_of_eq g21.symm))
  have ge_nb21 : n0 ≤ nb21 := Nat.le_trans Z14 (Nat.le_of_eq g21.symm)
  have gk_nb21 : h0.size ≤ nb21 := Nat.le_trans K15.1 (Nat.le_of_eq g21.symm)
  have Z24 : n0 ≤ h21.size := Nat.le_trans Z14 E21.1
  have K25 : Keep h0 h21 [gw] := K15.ext E21
  have F26 := (Exa.ext E21 F16)
  have F27 := (Fld.ext E21 F17)
  have F28 := (Fld.ext E21 F18)
  have F29 := (Fld.ext E21 F19)
  have F30 := (F20.ext E21)
  have VA21 : own_Ar Z h21 nb21 .long 64 (fun ii => .long ((fun _ => (0 : Int64)) ii)) := own_Ar.fresh A21 (by decide) (fun _ => rfl)
  refine own_putF X21 hx (pc' := 21) hZ (ty := (.array .long)) hown (host := "") (Or.inl (Wd21 hw)) Via.refl e21 F28 F26 (Or.inr ⟨(Wd22 hw), rfl, hnm⟩) (Wd9 hw) (by decide) rfl rfl (hb hby d3_18) rfl (fun T32 h32 X32 e32 W32 => ?_)
  have N33 := Fr.snoc X32 N13 g_gw
  have Z34 : n0 ≤ h32.size := Nat.le_trans Z24 (Nat.le_of_eq (Wr.size W32).symm)
  have K35 : Keep h0 h32 [gw] := K25.wr W32 (Or.inl (List.mem_of_getElem? (i := 0) rfl))
  have F36 := (Exa.wr W32 F26)
  have F37 := (Fld.other W32 F27 (Or.inr (slot_ne (Or.inr (Wd19 hw)) (Or.inr (Wd22 hw)) (by decide) (t := (.array .double)) (t' := (.array .long)) (by decide) (by decide))))
  have F38 := (Fld.same W32 F28)
  have F39 := (Fld.other W32 F29 (Or.inr (slot_ne (Or.inl (Wd29 hw)) (Or.inr (Wd22 hw)) (by decide) (t := .int) (t' := (.array .long)) (by decide) (by decide))))
  have F40 := (F30.other W32 (Ne.symm ne_gw_nb3_4))
  have F41 := (VA21.other W32 (Ne.symm ne_gw_nb21_22))
  refine own_retV X32 hx hlk hret (hb hby d3_21) (by decide) (by decide) ?_
  rw [e32]
  exact ⟨rfl, N33, K35, nb3, nb21, ⟨ge_nb3, ge_nb21⟩, ⟨ne_gw_nb3_4, ne_gw_nb21_22, ne_nb3_nb21_23⟩, F37, F38, F39, F41, F40⟩

theorem d6_0 : decode jdk_65_method_101_code 0 = .ok (.iconst 0, 1) := by decide +kernel
theorem d6_1 : decode jdk_65_method_101_code 1 = .ok (.istore_n 3, 1) := by decide +kernel
theorem d6_2 : decode jdk_65_method_101_code 2 = .ok (.aload_n 0, 1) := by decide +kernel
theorem d6_3 : decode jdk_65_method_101_code 3 = .ok (.arraylength, 1) := by decide +kernel
theorem d6_4 : decode jdk_65_method_101_code 4 = .ok (.istore 4, 2) := by decide +kernel
theorem d6_6 : decode jdk_65_method_101_code 6 = .ok (.iload_n 3, 1) := by decide +kernel
theorem d6_7 : decode jdk_65_method_101_code 7 = .ok (.iload 4, 2) := by decide +kernel
theorem d6_9 : decode jdk_65_method_101_code 9 = .ok (.if_icmp .ge 13, 3) := by decide +kernel
theorem d6_12 : decode jdk_65_method_101_code 12 = .ok (.aload_n 0, 1) := by decide +kernel
theorem d6_13 : decode jdk_65_method_101_code 13 = .ok (.iload_n 3, 1) := by decide +kernel
theorem d6_14 : decode jdk_65_method_101_code 14 = .ok (.lload_n 1, 1) := by decide +kernel
theorem d6_15 : decode jdk_65_method_101_code 15 = .ok (.lastore, 1) := by decide +kernel
theorem d6_16 : decode jdk_65_method_101_code 16 = .ok (.iinc 3 1, 3) := by decide +kernel
theorem d6_19 : decode jdk_65_method_101_code 19 = .ok (.goto (-13), 3) := by decide +kernel
theorem d6_22 : decode jdk_65_method_101_code 22 = .ok (.return_, 1) := by decide +kernel
def Qfill (Z : State) (ho : Addr) (h0 : Heap) (n0 : Nat) (v : Option Value) (h : Heap) (L : List Loc) : Prop := v = none ∧ Fr n0 L ∧ Keep h0 h [ho] ∧ own_Ar Z h ho .long 64 (fun ii => .long ((fun _ => (0 : Int64)) ii))
theorem ef_rm_fill (m : MethodId) (x0 : Addr) (x1 : Int64) : entryFrame m #[(.ref x0), (.long x1)] 5 = mkF m 0 #[.val (.ref x0), .val (.long x1), .second, .unset, .unset] [] := by first | (simp [entryFrame, mkF, argsToLocals, Value.category, maxLocals]; done) | rfl
theorem pf_1 : plainFor (⟨"java/util/Arrays", "fill", "([JJ)V"⟩ : MethodName) = true := by apply plainFor_of_name; first | (simp [plainName, overriddenIn]; done) | decide +kernel
set_option maxRecDepth 65536 in
set_option maxHeartbeats 40000000 in
theorem rm_fill (l : Launch) (Z : State) (a0 : Array Value) (hw : ∀ d ∈ tables_1, d.before a0 Z = true) (ws : List Jvm.Cond) (ho : Addr) (hf : Nat → Int64) (h0 : Heap) (n0 : Nat) (Z0 : n0 ≤ h0.size) (g_ho : n0 ≤ ho) (V_h : own_Ar Z h0 ho .long 64 (fun ii => .long (hf ii))) :
    MetFree l (⟨"java/util/Arrays", "fill", "([JJ)V"⟩ : MethodName) (head1 (Jvm.Cond.code (⟨"java/util/Arrays", "fill", "([JJ)V"⟩ : MethodName) jdk_65_method_101_code 5 none :: ws) ({ frames := 0, cells := 0, slots := 0, locals := 0 } : Room)) (fun aa U => aa = #[(.ref ho), (.long (0 : Int64))] ∧ Z.Warmed39 U.vm ∧ U.heap = h0) (fun _ _ _ _ _ => True) (fun _ U o U' => ∃ v L, o = .returned v ∧ Qfill Z ho h0 n0 v U'.heap L ∧ FrameEnd U o U' L (({ frames := 0, cells := 0, slots := 0, locals := 0 } : Room).cells) (({ frames := 0, cells := 0, slots := 0, locals := 0 } : Room).slots)) := by
  refine own_body pf_1 ?_
  intro p e s m below meth c s₁ hx hby hml hown hnm hlk hret hZ X0 e0
  have N0 : Fr n0 [] := Fr.nil n0
  refine own_go (f' := (mkF m 0 #[.val (.ref ho), .val (.long (0 : Int64)), .second, .unset, .unset] [])) (fun t k => castTop (ef_rm_fill m ho (0 : Int64)) k) ?_
  have K1 : Keep h0 h0 [ho] := Keep.refl _ _
  have J6 : ∀ (k i : Nat) (f : Nat → Int64) (TJ : State) (locsJ : List Loc) (hJ : Heap) (XJ : Stand p l e ({ frames := 0, cells := 0, slots := 0, locals := 0 } : Room) s m #[(.ref ho), (.long (0 : Int64))] below meth c TJ locsJ 0 0) (eJ : TJ.heap = hJ) (NJ : Fr n0 locsJ) (ZJ : n0 ≤ hJ.size) (VJ : own_Ar Z hJ ho .long 64 (fun ii => .long (f ii))) (hik : i + k = 64) (hf0 : ∀ q, q < i → f q = 0) (KJ : Keep h0 hJ [ho]), own_G p.tables e below (own_P s (Qfill Z ho h0 n0) 0 0) TJ (mkF m 6 #[.val (.ref ho), .val (.long (0 : Int64)), .second, .val (.int (Int32.ofNat i)), .val (.int (64 : Int32))] []) := by
    intro k
    induction k with
    | zero =>
      intro i f TJ locsJ hJ XJ eJ NJ ZJ VJ hik hf0 KJ
      obtain rfl : i = 64 := by omega
      have hfin : own_Ar Z hJ ho .long 64 (fun ii => .long ((fun _ => (0 : Int64)) ii)) := by
        obtain ⟨c1, A1, S1, H1⟩ := VJ
        exact ⟨c1, A1, S1, fun q hq => by rw [H1 q hq]; show some (Value.long (f q)) = _; rw [hf0 q hq]⟩
      have hcz : ¬ (Int32.ofNat 64 < (64 : Int32)) := by decide
      refine own_iloadN XJ hx (pc' := 7) (hb hby d6_6) rfl rfl ?_
      refine own_iload XJ hx (pc' := 9) (hb hby d6_7) rfl rfl ?_
      refine own_icmpYes XJ hx (pc' := 22) (hb hby d6_9) (flt hcz).2.1 (by decide) (by decide) ?_
      refine own_retV XJ hx hlk hret (hb hby d6_22) (by decide) (by decide) ?_
      rw [eJ]
      exact ⟨rfl, NJ, KJ, hfin⟩
    | succ k ih =>
      intro i f TJ locsJ hJ XJ eJ NJ ZJ VJ hik hf0 KJ
      have hcz : Int32.ofNat i < (64 : Int32) := by rw [Int32.lt_iff_toInt_lt, own_on (by omega), own_t32_64]; omega
      have hcl := own_clamp (n := i) (by omega)
      have hil : i < 64 := by omega
      refine own_iloadN XJ hx (pc' := 7) (hb hby d6_6) rfl rfl ?_
      refine own_iload XJ hx (pc' := 9) (hb hby d6_7) rfl rfl ?_
      refine own_icmpNo XJ hx (pc' := 12) (hb hby d6_9) (tlt hcz).2.1 rfl ?_
      refine own_aloadN XJ hx (pc' := 13) (hb hby d6_12) rfl rfl rfl ?_
      refine own_iloadN XJ hx (pc' := 14) (hb hby d6_13) rfl rfl ?_
      refine own_lloadN XJ hx (pc' := 15) (hb hby d6_14) rfl rfl ?_
      obtain ⟨cl2, Ar2, S2, H2⟩ := id VJ
      refine own_stJ XJ hx (pc' := 16) hZ eJ Ar2 (own_in S2 hcl.1 hcl.2 hil) (hb hby d6_15) rfl (fun T3 h3 X3 e3 W3 => ?_)
      have N4 := Fr.snoc X3 NJ g_ho
      have Z5 : n0 ≤ h3.size := Nat.le_trans ZJ (Nat.le_of_eq (Wr.size W3).symm)
      have K6 : Keep h0 h3 [ho] := KJ.wr W3 (Or.inl (List.mem_of_getElem? (i := 0) rfl))
      have F7 : own_Ar Z h3 ho .long 64 (fun ii => .long ((own_upd f i (0 : Int64)) ii)) := (own_Ar.set VJ W3 hcl.2 hil (fun q => by unfold own_upd; split <;> rfl))
      refine own_iinc X3 hx (pc' := 19) (Ls' := #[.val (.ref ho), .val (.long (0 : Int64)), .second, .val (.int ((Int32.ofNat i) + (1 : Int32))), .val (.int (64 : Int32))]) (hb hby d6_16) rfl rfl rfl ?_
      refine own_goto X3 hx (pc' := 6) (hb hby d6_19) (by decide) (by decide) ?_
      rw [show ((Int32.ofNat i) + (1 : Int32)) = Int32.ofNat (i + 1) from (Int32.ofNat_add i 1).symm]
      exact ih (i + 1) _ _ _ _ X3 e3 N4 Z5 F7 (by omega) (fun q hq => by unfold own_upd; split <;> first | rfl | exact hf0 q (by omega)) K6
  refine own_iconst X0 hx (pc' := 1) (0 : Int32) (hb hby d6_0) rfl rfl ?_
  refine own_istoreN X0 hx (pc' := 2) (Ls' := #[.val (.ref ho), .val (.long (0 : Int64)), .second, .val (.int (0 : Int32)), .unset]) (hb hby d6_1) rfl rfl ?_
  refine own_aloadN X0 hx (pc' := 3) (hb hby d6_2) rfl rfl rfl ?_
  obtain ⟨cl8, Ar8, S8, H8⟩ := id V_h
  refine own_len X0 hx (pc' := 4) hZ e0 Ar8 (S8.trans (by decide)) (z := (64 : Int32)) (by decide) (hb hby d6_3) rfl ?_
  refine own_istore X0 hx (pc' := 6) (Ls' := #[.val (.ref ho), .val (.long (0 : Int64)), .second, .val (.int (0 : Int32)), .val (.int (64 : Int32))]) (hb hby d6_4) rfl rfl ?_
  exact J6 64 0 hf _ _ _ X0 e0 N0 Z0 V_h (by omega) (fun q hq => absurd hq (Nat.not_lt_zero q)) K1

theorem d5_0 : decode prog_49_method_2_code 0 = .ok (.aload_n 0, 1) := by decide +kernel
theorem d5_1 : decode prog_49_method_2_code 1 = .ok (.iload_n 1, 1) := by decide +kernel
theorem d5_2 : decode prog_49_method_2_code 2 = .ok (.putfield 19, 3) := by decide +kernel
theorem d5_5 : decode prog_49_method_2_code 5 = .ok (.aload_n 0, 1) := by decide +kernel
theorem d5_6 : decode prog_49_method_2_code 6 = .ok (.getfield 15, 3) := by decide +kernel
theorem d5_9 : decode prog_49_method_2_code 9 = .ok (.lconst 0, 1) := by decide +kernel
theorem d5_10 : decode prog_49_method_2_code 10 = .ok (.invokestatic 23, 3) := by decide +kernel
theorem d5_13 : decode prog_49_method_2_code 13 = .ok (.return_, 1) := by decide +kernel
def Qmove (Z : State) (gw su ho : Addr) (q : Int32) (sf : Nat → UInt64) (h0 : Heap) (n0 : Nat) (v : Option Value) (h : Heap) (L : List Loc) : Prop := v = none ∧ Fr n0 L ∧ Keep h0 h [gw, ho] ∧ Fld Z h gw "com/example/mixed_likelihood/mixedlikelihood/search/GainWindow" "sums" "[D" (.ref su) ∧ Fld Z h gw "com/example/mixed_likelihood/mixedlikelihood/search/GainWindow" "holding" "[J" (.ref ho) ∧ Fld Z h gw "com/example/mixed_likelihood/mixedlikelihood/search/GainWindow" "start" "I" (.int q) ∧ own_Ar Z h ho .long 64 (fun ii => .long ((fun _ => (0 : Int64)) ii)) ∧ own_Ar Z h su .double 4096 (fun ii => .double (sf ii))
theorem ef_rm_move (m : MethodId) (x0 : Addr) (x1 : Int32) : entryFrame m #[(.ref x0), (.int x1)] 2 = mkF m 0 #[.val (.ref x0), .val (.int x1)] [] := by first | (simp [entryFrame, mkF, argsToLocals, Value.category, maxLocals]; done) | rfl
theorem pf_2 : plainFor (⟨"com/example/mixed_likelihood/mixedlikelihood/search/GainWindow", "moveTo", "(I)V"⟩ : MethodName) = true := by apply plainFor_of_name; first | (simp [plainName, overriddenIn]; done) | decide +kernel
theorem Wd28 {a0 : Array Value} {Z : State} (hw : ∀ d ∈ tables_1, d.before a0 Z = true) : (Jvm.Cond.fieldLink "com/example/mixed_likelihood/mixedlikelihood/search/GainWindow" (19 : Nat) "com/example/mixed_likelihood/mixedlikelihood/search/GainWindow" "start" "I").before a0 Z = true := hw _ (List.mem_of_getElem? (i := 28) rfl)
theorem Wd33 {a0 : Array Value} {Z : State} (hw : ∀ d ∈ tables_1, d.before a0 Z = true) : (Jvm.Cond.code ({ cls := "java/util/Arrays", name := "fill", desc := "([JJ)V" } : Jvm.MethodName) jdk_65_method_101_code (5 : Nat) (Option.none : Option Jvm.ClassFile.FieldType)).before a0 Z = true := hw _ (List.mem_of_getElem? (i := 33) rfl)
theorem Wd32 {a0 : Array Value} {Z : State} (hw : ∀ d ∈ tables_1, d.before a0 Z = true) : (Jvm.Cond.initialized "java/util/Arrays").before a0 Z = true := hw _ (List.mem_of_getElem? (i := 32) rfl)
theorem pd_0 : parseMethodDescriptor "([JJ)V" = some ⟨[(.array .long), .long], none⟩ := by decide +kernel
theorem Wd30 {a0 : Array Value} {Z : State} (hw : ∀ d ∈ tables_1, d.before a0 Z = true) : (Jvm.Cond.methodLink "com/example/mixed_likelihood/mixedlikelihood/search/GainWindow" (23 : Nat) ({ cls := "java/util/Arrays", name := "fill", desc := "([JJ)V" } : Jvm.MethodName)).before a0 Z = true := hw _ (List.mem_of_getElem? (i := 30) rfl)
theorem Wd31 {a0 : Array Value} {Z : State} (hw : ∀ d ∈ tables_1, d.before a0 Z = true) : (Jvm.Cond.static ({ cls := "java/util/Arrays", name := "fill", desc := "([JJ)V" } : Jvm.MethodName)).before a0 Z = true := hw _ (List.mem_of_getElem? (i := 31) rfl)
set_option maxRecDepth 65536 in
set_option maxHeartbeats 40000000 in
theorem rm_move (l : Launch) (Z : State) (a0 : Array Value) (hw : ∀ d ∈ tables_1, d.before a0 Z = true) (ws : List Jvm.Cond) (gw su ho : Addr) (start : Int32) (hf : Nat → Int64) (sf : Nat → UInt64) (q : Int32) (h0 : Heap) (n0 : Nat) (Z0 : n0 ≤ h0.size) (g_gw : n0 ≤ gw) (g_su : n0 ≤ su) (g_ho : n0 ≤ ho) (d1 : gw ≠ su) (d2 : gw ≠ ho) (d3 : su ≠ ho) (E_g : Exa Z h0 gw "com/example/mixed_likelihood/mixedlikelihood/search/GainWindow") (F_s : Fld Z h0 gw "com/example/mixed_likelihood/mixedlikelihood/search/GainWindow" "sums" "[D" (.ref su)) (F_h : Fld Z h0 gw "com/example/mixed_likelihood/mixedlikelihood/search/GainWindow" "holding" "[J" (.ref ho)) (F_p : Fld Z h0 gw "com/example/mixed_likelihood/mixedlikelihood/search/GainWindow" "start" "I" (.int start)) (V_h : own_Ar Z h0 ho .long 64 (fun ii => .long (hf ii))) (V_s : own_Ar Z h0 su .double 4096 (fun ii => .double (sf ii))) :
    MetFree l (⟨"com/example/mixed_likelihood/mixedlikelihood/search/GainWindow", "moveTo", "(I)V"⟩ : MethodName) (head1 (Jvm.Cond.code (⟨"com/example/mixed_likelihood/mixedlikelihood/search/GainWindow", "moveTo", "(I)V"⟩ : MethodName) prog_49_method_2_code 2 none :: ws) ({ frames := 1, cells := 0, slots := 0, locals := 16 } : Room)) (fun aa U => aa = #[(.ref gw), (.int q)] ∧ Z.Warmed39 U.vm ∧ U.heap = h0) (fun _ _ _ _ _ => True) (fun _ U o U' => ∃ v L, o = .returned v ∧ Qmove Z gw su ho q sf h0 n0 v U'.heap L ∧ FrameEnd U o U' L (({ frames := 1, cells := 0, slots := 0, locals := 16 } : Room).cells) (({ frames := 1, cells := 0, slots := 0, locals := 16 } : Room).slots)) := by
  refine own_body pf_2 ?_
  intro p e s m below meth c s₁ hx hby hml hown hnm hlk hret hZ X0 e0
  have N0 : Fr n0 [] := Fr.nil n0
  refine own_go (f' := (mkF m 0 #[.val (.ref gw), .val (.int q)] [])) (fun t k => castTop (ef_rm_move m gw q) k) ?_
  have K1 : Keep h0 h0 [gw, ho] := Keep.refl _ _
  refine own_aloadN X0 hx (pc' := 1) (hb hby d5_0) rfl rfl rfl ?_
  refine own_iloadN X0 hx (pc' := 2) (hb hby d5_1) rfl rfl ?_
  refine own_putF X0 hx (pc' := 5) hZ (ty := .int) hown (host := "") (Or.inl (Wd28 hw)) Via.refl e0 F_p E_g (Or.inl (Wd29 hw)) (Wd9 hw) (by decide) rfl rfl (hb hby d5_2) rfl (fun T2 h2 X2 e2 W2 => ?_)
  have N3 := Fr.snoc X2 N0 g_gw
  have Z4 : n0 ≤ h2.size := Nat.le_trans Z0 (Nat.le_of_eq (Wr.size W2).symm)
  have K5 : Keep h0 h2 [gw, ho] := K1.wr W2 (Or.inl (List.mem_of_getElem? (i := 0) rfl))
  have F6 := (Exa.wr W2 E_g)
  have F7 := (Fld.other W2 F_s (Or.inr (slot_ne (Or.inr (Wd19 hw)) (Or.inl (Wd29 hw)) (by decide) (t := (.array .double)) (t' := .int) (by decide) (by decide))))
  have F8 := (Fld.other W2 F_h (Or.inr (slot_ne (Or.inr (Wd22 hw)) (Or.inl (Wd29 hw)) (by decide) (t := (.array .long)) (t' := .int) (by decide) (by decide))))
  have F9 := (Fld.same W2 F_p)
  have F10 := (V_h.other W2 (Ne.symm d2))
  have F11 := (V_s.other W2 (Ne.symm d1))
  refine own_aloadN X2 hx (pc' := 6) (hb hby d5_5) rfl rfl rfl ?_
  refine own_getF X2 hx (pc' := 9) hZ hown (host := "") (Or.inl (Wd21 hw)) Via.refl e2 F8 (hb hby d5_6) rfl (fun T12 X12 e12 => ?_)
  refine own_lconst X12 hx (pc' := 10) (0 : Int64) (hb hby d5_9) rfl rfl ?_
  refine own_callS X12 hx (pc' := 13) hZ hown (Wd30 hw) (Wd31 hw) (Wd32 hw) (Wd33 hw) (by decide) (rm_fill l Z a0 hw [] ho hf h2 n0 Z4 g_ho F10) e12 0 (by decide) (by decide) (by decide) (by decide) [(.ref ho), (.long (0 : Int64))] [] (by rw [hml]; rfl) (lenOf pd_0 rfl) rfl rfl (Nat.le_of_eq rfl) (hb hby d5_10) rfl (fun v13 T13 L13 X13 hQ13 => ?_)
  obtain ⟨rfl, Nq13, K13, V13⟩ := hQ13
  have N14 := Fr.app N3 Nq13
  have Z15 : n0 ≤ T13.heap.size := Nat.le_trans Z4 K13.1
  have K16 : Keep h0 T13.heap [gw, ho] := Keep.trans K5 K13 (allS (Or.inl (List.mem_of_getElem? (i := 1) rfl)) all0)
  have F17 := (Exa.keep F6 K13)
  have F18 := (F7.keep K13 (ninS d2 nin0))
  have F19 := (F8.keep K13 (ninS d2 nin0))
  have F20 := (F9.keep K13 (ninS d2 nin0))
  have F21 := (F11.keep K13 (ninS d3 nin0))
  show own_G p.tables e below _ T13 (mkF m 13 #[.val (.ref gw), .val (.int q)] [])
  refine own_retV X13 hx hlk hret (hb hby d5_13) (by decide) (by decide) ?_
  exact ⟨rfl, N14, K16, F18, F19, F20, V13, F21⟩

theorem d7_0 : decode prog_49_method_5_code 0 = .ok (.iload_n 1, 1) := by decide +kernel
theorem d7_1 : decode prog_49_method_5_code 1 = .ok (.aload_n 0, 1) := by decide +kernel
theorem d7_2 : decode prog_49_method_5_code 2 = .ok (.getfield 19, 3) := by decide +kernel
theorem d7_5 : decode prog_49_method_5_code 5 = .ok (.isub, 1) := by decide +kernel
theorem d7_6 : decode prog_49_method_5_code 6 = .ok (.istore 4, 2) := by decide +kernel
theorem d7_8 : decode prog_49_method_5_code 8 = .ok (.lconst 1, 1) := by decide +kernel
theorem d7_9 : decode prog_49_method_5_code 9 = .ok (.iload 4, 2) := by decide +kernel
theorem d7_11 : decode prog_49_method_5_code 11 = .ok (.lshl, 1) := by decide +kernel
theorem d7_12 : decode prog_49_method_5_code 12 = .ok (.lstore 5, 2) := by decide +kernel
theorem d7_14 : decode prog_49_method_5_code 14 = .ok (.iload 4, 2) := by decide +kernel
theorem d7_16 : decode prog_49_method_5_code 16 = .ok (.bipush 6, 2) := by decide +kernel
theorem d7_18 : decode prog_49_method_5_code 18 = .ok (.iushr, 1) := by decide +kernel
theorem d7_19 : decode prog_49_method_5_code 19 = .ok (.istore 7, 2) := by decide +kernel
theorem d7_21 : decode prog_49_method_5_code 21 = .ok (.aload_n 0, 1) := by decide +kernel
theorem d7_22 : decode prog_49_method_5_code 22 = .ok (.getfield 15, 3) := by decide +kernel
theorem d7_25 : decode prog_49_method_5_code 25 = .ok (.iload 7, 2) := by decide +kernel
theorem d7_27 : decode prog_49_method_5_code 27 = .ok (.laload, 1) := by decide +kernel
theorem d7_28 : decode prog_49_method_5_code 28 = .ok (.lload 5, 2) := by decide +kernel
theorem d7_30 : decode prog_49_method_5_code 30 = .ok (.land, 1) := by decide +kernel
theorem d7_31 : decode prog_49_method_5_code 31 = .ok (.lconst 0, 1) := by decide +kernel
theorem d7_32 : decode prog_49_method_5_code 32 = .ok (.lcmp, 1) := by decide +kernel
theorem d7_33 : decode prog_49_method_5_code 33 = .ok (.ifCond .ne 26, 3) := by decide +kernel
theorem d7_36 : decode prog_49_method_5_code 36 = .ok (.aload_n 0, 1) := by decide +kernel
theorem d7_37 : decode prog_49_method_5_code 37 = .ok (.getfield 15, 3) := by decide +kernel
theorem d7_40 : decode prog_49_method_5_code 40 = .ok (.iload 7, 2) := by decide +kernel
theorem d7_42 : decode prog_49_method_5_code 42 = .ok (.dup2, 1) := by decide +kernel
theorem d7_43 : decode prog_49_method_5_code 43 = .ok (.laload, 1) := by decide +kernel
theorem d7_44 : decode prog_49_method_5_code 44 = .ok (.lload 5, 2) := by decide +kernel
theorem d7_46 : decode prog_49_method_5_code 46 = .ok (.lor, 1) := by decide +kernel
theorem d7_47 : decode prog_49_method_5_code 47 = .ok (.lastore, 1) := by decide +kernel
theorem d7_48 : decode prog_49_method_5_code 48 = .ok (.aload_n 0, 1) := by decide +kernel
theorem d7_49 : decode prog_49_method_5_code 49 = .ok (.getfield 9, 3) := by decide +kernel
theorem d7_52 : decode prog_49_method_5_code 52 = .ok (.iload 4, 2) := by decide +kernel
theorem d7_54 : decode prog_49_method_5_code 54 = .ok (.dload_n 2, 1) := by decide +kernel
theorem d7_55 : decode prog_49_method_5_code 55 = .ok (.dastore, 1) := by decide +kernel
theorem d7_56 : decode prog_49_method_5_code 56 = .ok (.goto 14, 3) := by decide +kernel
theorem d7_59 : decode prog_49_method_5_code 59 = .ok (.aload_n 0, 1) := by decide +kernel
theorem d7_60 : decode prog_49_method_5_code 60 = .ok (.getfield 9, 3) := by decide +kernel
theorem d7_63 : decode prog_49_method_5_code 63 = .ok (.iload 4, 2) := by decide +kernel
theorem d7_65 : decode prog_49_method_5_code 65 = .ok (.dup2, 1) := by decide +kernel
theorem d7_66 : decode prog_49_method_5_code 66 = .ok (.daload, 1) := by decide +kernel
theorem d7_67 : decode prog_49_method_5_code 67 = .ok (.dload_n 2, 1) := by decide +kernel
theorem d7_68 : decode prog_49_method_5_code 68 = .ok (.dadd, 1) := by decide +kernel
theorem d7_69 : decode prog_49_method_5_code 69 = .ok (.dastore, 1) := by decide +kernel
theorem d7_70 : decode prog_49_method_5_code 70 = .ok (.return_, 1) := by decide +kernel
def QaF (Z : State) (gw su ho : Addr) (start : Int32) (hf : Nat → Int64) (sf : Nat → UInt64) (P : Nat) (gn : UInt64) (h0 : Heap) (n0 : Nat) (v : Option Value) (h : Heap) (L : List Loc) : Prop := v = none ∧ Fr n0 L ∧ Keep h0 h [gw, su, ho] ∧ Fld Z h gw "com/example/mixed_likelihood/mixedlikelihood/search/GainWindow" "sums" "[D" (.ref su) ∧ Fld Z h gw "com/example/mixed_likelihood/mixedlikelihood/search/GainWindow" "holding" "[J" (.ref ho) ∧ Fld Z h gw "com/example/mixed_likelihood/mixedlikelihood/search/GainWindow" "start" "I" (.int start) ∧ own_Ar Z h ho .long 64 (fun ii => .long ((own_upd hf (P / 64) (hf (P / 64) ||| own_bit P)) ii)) ∧ own_Ar Z h su .double 4096 (fun ii => .double ((own_upd sf P gn) ii))
theorem ef_rm_aF (m : MethodId) (x0 : Addr) (x1 : Int32) (x2 : UInt64) : entryFrame m #[(.ref x0), (.int x1), (.double x2)] 8 = mkF m 0 #[.val (.ref x0), .val (.int x1), .val (.double x2), .second, .unset, .unset, .unset, .unset] [] := by first | (simp [entryFrame, mkF, argsToLocals, Value.category, maxLocals]; done) | rfl
theorem pf_3 : plainFor (⟨"com/example/mixed_likelihood/mixedlikelihood/search/GainWindow", "add", "(ID)V"⟩ : MethodName) = true := by apply plainFor_of_name; first | (simp [plainName, overriddenIn]; done) | decide +kernel
set_option maxRecDepth 65536 in
set_option maxHeartbeats 40000000 in
theorem rm_aF (l : Launch) (Z : State) (a0 : Array Value) (hw : ∀ d ∈ tables_1, d.before a0 Z = true) (ws : List Jvm.Cond) (gw su ho : Addr) (start : Int32) (hf : Nat → Int64) (sf : Nat → UInt64) (P : Nat) (doc : Int32) (gn : UInt64) (h0 : Heap) (n0 : Nat) (Z0 : n0 ≤ h0.size) (g_gw : n0 ≤ gw) (g_su : n0 ≤ su) (g_ho : n0 ≤ ho) (d1 : gw ≠ su) (d2 : gw ≠ ho) (d3 : su ≠ ho) (E_g : Exa Z h0 gw "com/example/mixed_likelihood/mixedlikelihood/search/GainWindow") (hP : P < 4096) (hpl : doc - start = Int32.ofNat P) (hbit : hf (P / 64) &&& own_bit P = 0) (F_s : Fld Z h0 gw "com/example/mixed_likelihood/mixedlikelihood/search/GainWindow" "sums" "[D" (.ref su)) (F_h : Fld Z h0 gw "com/example/mixed_likelihood/mixedlikelihood/search/GainWindow" "holding" "[J" (.ref ho)) (F_p : Fld Z h0 gw "com/example/mixed_likelihood/mixedlikelihood/search/GainWindow" "start" "I" (.int start)) (V_h : own_Ar Z h0 ho .long 64 (fun ii => .long (hf ii))) (V_s : own_Ar Z h0 su .double 4096 (fun ii => .double (sf ii))) :
    MetFree l (⟨"com/example/mixed_likelihood/mixedlikelihood/search/GainWindow", "add", "(ID)V"⟩ : MethodName) (head1 (Jvm.Cond.code (⟨"com/example/mixed_likelihood/mixedlikelihood/search/GainWindow", "add", "(ID)V"⟩ : MethodName) prog_49_method_5_code 8 none :: ws) ({ frames := 0, cells := 0, slots := 0, locals := 0 } : Room)) (fun aa U => aa = #[(.ref gw), (.int doc), (.double gn)] ∧ Z.Warmed39 U.vm ∧ U.heap = h0) (fun _ _ _ _ _ => True) (fun _ U o U' => ∃ v L, o = .returned v ∧ QaF Z gw su ho start hf sf P gn h0 n0 v U'.heap L ∧ FrameEnd U o U' L (({ frames := 0, cells := 0, slots := 0, locals := 0 } : Room).cells) (({ frames := 0, cells := 0, slots := 0, locals := 0 } : Room).slots)) := by
  refine own_body pf_3 ?_
  intro p e s m below meth c s₁ hx hby hml hown hnm hlk hret hZ X0 e0
  have N0 : Fr n0 [] := Fr.nil n0
  refine own_go (f' := (mkF m 0 #[.val (.ref gw), .val (.int doc), .val (.double gn), .second, .unset, .unset, .unset, .unset] [])) (fun t k => castTop (ef_rm_aF m gw doc gn) k) ?_
  have c1 := own_clamp (n := P) (by omega)
  have c2 := own_clamp (n := P / 64) (by omega)
  have hP64 : P / 64 < 64 := by omega
  have K1 : Keep h0 h0 [gw, su, ho] := Keep.refl _ _
  refine own_iloadN X0 hx (pc' := 1) (hb hby d7_0) rfl rfl ?_
  refine own_aloadN X0 hx (pc' := 2) (hb hby d7_1) rfl rfl rfl ?_
  refine own_getF X0 hx (pc' := 5) hZ hown (host := "") (Or.inl (Wd28 hw)) Via.refl e0 F_p (hb hby d7_2) rfl (fun T2 X2 e2 => ?_)
  refine own_isub X2 hx (pc' := 6) (hb hby d7_5) rfl rfl ?_
  rw [hpl]
  refine own_istore X2 hx (pc' := 8) (Ls' := #[.val (.ref gw), .val (.int doc), .val (.double gn), .second, .val (.int (Int32.ofNat P)), .unset, .unset, .unset]) (hb hby d7_6) rfl rfl ?_
  refine own_lconst X2 hx (pc' := 9) (1 : Int64) (hb hby d7_8) rfl rfl ?_
  refine own_iload X2 hx (pc' := 11) (hb hby d7_9) rfl rfl ?_
  refine own_lshl X2 hx (pc' := 12) (hb hby d7_11) rfl ?_
  show own_G p.tables e below _ T2 (mkF m 12 #[.val (.ref gw), .val (.int doc), .val (.double gn), .second, .val (.int (Int32.ofNat P)), .unset, .unset, .unset] [(.long (own_bit P))])
  refine own_lstore X2 hx (pc' := 14) (Ls' := #[.val (.ref gw), .val (.int doc), .val (.double gn), .second, .val (.int (Int32.ofNat P)), .val (.long (own_bit P)), .second, .unset]) (hb hby d7_12) rfl rfl ?_
  refine own_iload X2 hx (pc' := 16) (hb hby d7_14) rfl rfl ?_
  refine own_bipush X2 hx (pc' := 18) (6 : Int32) (hb hby d7_16) rfl rfl ?_
  refine own_iushr X2 hx (pc' := 19) (hb hby d7_18) rfl ?_
  rw [own_div hP]
  refine own_istore X2 hx (pc' := 21) (Ls' := #[.val (.ref gw), .val (.int doc), .val (.double gn), .second, .val (.int (Int32.ofNat P)), .val (.long (own_bit P)), .second, .val (.int (Int32.ofNat (P / 64)))]) (hb hby d7_19) rfl rfl ?_
  refine own_aloadN X2 hx (pc' := 22) (hb hby d7_21) rfl rfl rfl ?_
  refine own_getF X2 hx (pc' := 25) hZ hown (host := "") (Or.inl (Wd21 hw)) Via.refl e2 F_h (hb hby d7_22) rfl (fun T3 X3 e3 => ?_)
  refine own_iload X3 hx (pc' := 27) (hb hby d7_25) rfl rfl ?_
  obtain ⟨cl4, Ar4, S4, H4⟩ := id V_h
  refine own_laload X3 hx (pc' := 28) hZ (v := (hf (P / 64))) e3 Ar4 (own_in S4 c2.1 c2.2 hP64) (by rw [c2.2]; exact H4 _ hP64) (hb hby d7_27) rfl ?_
  refine own_lload X3 hx (pc' := 30) (hb hby d7_28) rfl rfl ?_
  refine own_land X3 hx (pc' := 31) (hb hby d7_30) rfl rfl ?_
  refine own_lconst X3 hx (pc' := 32) (0 : Int64) (hb hby d7_31) rfl rfl ?_
  refine own_lcmp X3 hx (pc' := 33) (hb hby d7_32) rfl ?_
  refine own_ifNo X3 hx (pc' := 36) (hb hby d7_33) (teq ((lw_eq ((hf (P / 64)) &&& (own_bit P)) (0 : Int64)).mpr hbit)).2 rfl ?_
  refine own_aloadN X3 hx (pc' := 37) (hb hby d7_36) rfl rfl rfl ?_
  refine own_getF X3 hx (pc' := 40) hZ hown (host := "") (Or.inl (Wd21 hw)) Via.refl e3 F_h (hb hby d7_37) rfl (fun T5 X5 e5 => ?_)
  refine own_iload X5 hx (pc' := 42) (hb hby d7_40) rfl rfl ?_
  refine own_dup2 X5 hx (pc' := 43) (hb hby d7_42) rfl rfl rfl ?_
  obtain ⟨cl6, Ar6, S6, H6⟩ := id V_h
  refine own_laload X5 hx (pc' := 44) hZ (v := (hf (P / 64))) e5 Ar6 (own_in S6 c2.1 c2.2 hP64) (by rw [c2.2]; exact H6 _ hP64) (hb hby d7_43) rfl ?_
  refine own_lload X5 hx (pc' := 46) (hb hby d7_44) rfl rfl ?_
  refine own_lor X5 hx (pc' := 47) (hb hby d7_46) rfl rfl ?_
  obtain ⟨cl7, Ar7, S7, H7⟩ := id V_h
  refine own_stJ X5 hx (pc' := 48) hZ e5 Ar7 (own_in S7 c2.1 c2.2 hP64) (hb hby d7_47) rfl (fun T8 h8 X8 e8 W8 => ?_)
  have N9 := Fr.snoc X8 N0 g_ho
  have Z10 : n0 ≤ h8.size := Nat.le_trans Z0 (Nat.le_of_eq (Wr.size W8).symm)
  have K11 : Keep h0 h8 [gw, su, ho] := K1.wr W8 (Or.inl (List.mem_of_getElem? (i := 2) rfl))
  have F12 := (Exa.wr W8 E_g)
  have F13 := (Fld.other W8 F_s (Or.inl d2))
  have F14 := (Fld.other W8 F_h (Or.inl d2))
  have F15 := (Fld.other W8 F_p (Or.inl d2))
  have F16 : own_Ar Z h8 ho .long 64 (fun ii => .long ((own_upd hf (P / 64) ((hf (P / 64)) ||| (own_bit P))) ii)) := (own_Ar.set V_h W8 c2.2 hP64 (fun q => by unfold own_upd; split <;> rfl))
  have F17 := (V_s.other W8 d3)
  refine own_aloadN X8 hx (pc' := 49) (hb hby d7_48) rfl rfl rfl ?_
  refine own_getF X8 hx (pc' := 52) hZ hown (host := "") (Or.inl (Wd18 hw)) Via.refl e8 F13 (hb hby d7_49) rfl (fun T18 X18 e18 => ?_)
  refine own_iload X18 hx (pc' := 54) (hb hby d7_52) rfl rfl ?_
  refine own_dloadN X18 hx (pc' := 55) (hb hby d7_54) rfl rfl ?_
  obtain ⟨cl19, Ar19, S19, H19⟩ := id F17
  refine own_stD X18 hx (pc' := 56) hZ e18 Ar19 (own_in S19 c1.1 c1.2 hP) (hb hby d7_55) rfl (fun T20 h20 X20 e20 W20 => ?_)
  have N21 := Fr.snoc X20 N9 g_su
  have Z22 : n0 ≤ h20.size := Nat.le_trans Z10 (Nat.le_of_eq (Wr.size W20).symm)
  have K23 : Keep h0 h20 [gw, su, ho] := K11.wr W20 (Or.inl (List.mem_of_getElem? (i := 1) rfl))
  have F24 := (Exa.wr W20 F12)
  have F25 := (Fld.other W20 F13 (Or.inl d1))
  have F26 := (Fld.other W20 F14 (Or.inl d1))
  have F27 := (Fld.other W20 F15 (Or.inl d1))
  have F28 := (F16.other W20 (Ne.symm d3))
  have F29 : own_Ar Z h20 su .double 4096 (fun ii => .double ((own_upd sf P gn) ii)) := (own_Ar.set F17 W20 c1.2 hP (fun q => by unfold own_upd; split <;> rfl))
  refine own_goto X20 hx (pc' := 70) (hb hby d7_56) (by decide) (by decide) ?_
  refine own_retV X20 hx hlk hret (hb hby d7_70) (by decide) (by decide) ?_
  rw [e20]
  exact ⟨rfl, N21, K23, F25, F26, F27, F28, F29⟩

def QaH (Z : State) (gw su ho : Addr) (start : Int32) (hf : Nat → Int64) (sf : Nat → UInt64) (P : Nat) (gn : UInt64) (h0 : Heap) (n0 : Nat) (v : Option Value) (h : Heap) (L : List Loc) : Prop := v = none ∧ Fr n0 L ∧ Keep h0 h [gw, su, ho] ∧ Fld Z h gw "com/example/mixed_likelihood/mixedlikelihood/search/GainWindow" "sums" "[D" (.ref su) ∧ Fld Z h gw "com/example/mixed_likelihood/mixedlikelihood/search/GainWindow" "holding" "[J" (.ref ho) ∧ Fld Z h gw "com/example/mixed_likelihood/mixedlikelihood/search/GainWindow" "start" "I" (.int start) ∧ own_Ar Z h ho .long 64 (fun ii => .long (hf ii)) ∧ own_Ar Z h su .double 4096 (fun ii => .double ((own_upd sf P (FP.dadd (sf P) gn)) ii))
theorem ef_rm_aH (m : MethodId) (x0 : Addr) (x1 : Int32) (x2 : UInt64) : entryFrame m #[(.ref x0), (.int x1), (.double x2)] 8 = mkF m 0 #[.val (.ref x0), .val (.int x1), .val (.double x2), .second, .unset, .unset, .unset, .unset] [] := by first | (simp [entryFrame, mkF, argsToLocals, Value.category, maxLocals]; done) | rfl
set_option maxRecDepth 65536 in
set_option maxHeartbeats 40000000 in
theorem rm_aH (l : Launch) (Z : State) (a0 : Array Value) (hw : ∀ d ∈ tables_1, d.before a0 Z = true) (ws : List Jvm.Cond) (gw su ho : Addr) (start : Int32) (hf : Nat → Int64) (sf : Nat → UInt64) (P : Nat) (doc : Int32) (gn : UInt64) (h0 : Heap) (n0 : Nat) (Z0 : n0 ≤ h0.size) (g_gw : n0 ≤ gw) (g_su : n0 ≤ su) (g_ho : n0 ≤ ho) (d1 : gw ≠ su) (d2 : gw ≠ ho) (d3 : su ≠ ho) (E_g : Exa Z h0 gw "com/example/mixed_likelihood/mixedlikelihood/search/GainWindow") (hP : P < 4096) (hpl : doc - start = Int32.ofNat P) (hbit : ¬ (hf (P / 64) &&& own_bit P = 0)) (hn : Jvm.Free.Fl.NoNaN64 (FP.dadd (sf P) gn)) (F_s : Fld Z h0 gw "com/example/mixed_likelihood/mixedlikelihood/search/GainWindow" "sums" "[D" (.ref su)) (F_h : Fld Z h0 gw "com/example/mixed_likelihood/mixedlikelihood/search/GainWindow" "holding" "[J" (.ref ho)) (F_p : Fld Z h0 gw "com/example/mixed_likelihood/mixedlikelihood/search/GainWindow" "start" "I" (.int start)) (V_h : own_Ar Z h0 ho .long 64 (fun ii => .long (hf ii))) (V_s : own_Ar Z h0 su .double 4096 (fun ii => .double (sf ii))) :
    MetFree l (⟨"com/example/mixed_likelihood/mixedlikelihood/search/GainWindow", "add", "(ID)V"⟩ : MethodName) (head1 (Jvm.Cond.code (⟨"com/example/mixed_likelihood/mixedlikelihood/search/GainWindow", "add", "(ID)V"⟩ : MethodName) prog_49_method_5_code 8 none :: ws) ({ frames := 0, cells := 0, slots := 0, locals := 0 } : Room)) (fun aa U => aa = #[(.ref gw), (.int doc), (.double gn)] ∧ Z.Warmed39 U.vm ∧ U.heap = h0) (fun _ _ _ _ _ => True) (fun _ U o U' => ∃ v L, o = .returned v ∧ QaH Z gw su ho start hf sf P gn h0 n0 v U'.heap L ∧ FrameEnd U o U' L (({ frames := 0, cells := 0, slots := 0, locals := 0 } : Room).cells) (({ frames := 0, cells := 0, slots := 0, locals := 0 } : Room).slots)) := by
  refine own_body pf_3 ?_
  intro p e s m below meth c s₁ hx hby hml hown hnm hlk hret hZ X0 e0
  have N0 : Fr n0 [] := Fr.nil n0
  refine own_go (f' := (mkF m 0 #[.val (.ref gw), .val (.int doc), .val (.double gn), .second, .unset, .unset, .unset, .unset] [])) (fun t k => castTop (ef_rm_aH m gw doc gn) k) ?_
  have c1 := own_clamp (n := P) (by omega)
  have c2 := own_clamp (n := P / 64) (by omega)
  have hP64 : P / 64 < 64 := by omega
  have K1 : Keep h0 h0 [gw, su, ho] := Keep.refl _ _
  refine own_iloadN X0 hx (pc' := 1) (hb hby d7_0) rfl rfl ?_
  refine own_aloadN X0 hx (pc' := 2) (hb hby d7_1) rfl rfl rfl ?_
  refine own_getF X0 hx (pc' := 5) hZ hown (host := "") (Or.inl (Wd28 hw)) Via.refl e0 F_p (hb hby d7_2) rfl (fun T2 X2 e2 => ?_)
  refine own_isub X2 hx (pc' := 6) (hb hby d7_5) rfl rfl ?_
  rw [hpl]
  refine own_istore X2 hx (pc' := 8) (Ls' := #[.val (.ref gw), .val (.int doc), .val (.double gn), .second, .val (.int (Int32.ofNat P)), .unset, .unset, .unset]) (hb hby d7_6) rfl rfl ?_
  refine own_lconst X2 hx (pc' := 9) (1 : Int64) (hb hby d7_8) rfl rfl ?_
  refine own_iload X2 hx (pc' := 11) (hb hby d7_9) rfl rfl ?_
  refine own_lshl X2 hx (pc' := 12) (hb hby d7_11) rfl ?_
  show own_G p.tables e below _ T2 (mkF m 12 #[.val (.ref gw), .val (.int doc), .val (.double gn), .second, .val (.int (Int32.ofNat P)), .unset, .unset, .unset] [(.long (own_bit P))])
  refine own_lstore X2 hx (pc' := 14) (Ls' := #[.val (.ref gw), .val (.int doc), .val (.double gn), .second, .val (.int (Int32.ofNat P)), .val (.long (own_bit P)), .second, .unset]) (hb hby d7_12) rfl rfl ?_
  refine own_iload X2 hx (pc' := 16) (hb hby d7_14) rfl rfl ?_
  refine own_bipush X2 hx (pc' := 18) (6 : Int32) (hb hby d7_16) rfl rfl ?_
  refine own_iushr X2 hx (pc' := 19) (hb hby d7_18) rfl ?_
  rw [own_div hP]
  refine own_istore X2 hx (pc' := 21) (Ls' := #[.val (.ref gw), .val (.int doc), .val (.double gn), .second, .val (.int (Int32.ofNat P)), .val (.long (own_bit P)), .second, .val (.int (Int32.ofNat (P / 64)))]) (hb hby d7_19) rfl rfl ?_
  refine own_aloadN X2 hx (pc' := 22) (hb hby d7_21) rfl rfl rfl ?_
  refine own_getF X2 hx (pc' := 25) hZ hown (host := "") (Or.inl (Wd21 hw)) Via.refl e2 F_h (hb hby d7_22) rfl (fun T3 X3 e3 => ?_)
  refine own_iload X3 hx (pc' := 27) (hb hby d7_25) rfl rfl ?_
  obtain ⟨cl4, Ar4, S4, H4⟩ := id V_h
  refine own_laload X3 hx (pc' := 28) hZ (v := (hf (P / 64))) e3 Ar4 (own_in S4 c2.1 c2.2 hP64) (by rw [c2.2]; exact H4 _ hP64) (hb hby d7_27) rfl ?_
  refine own_lload X3 hx (pc' := 30) (hb hby d7_28) rfl rfl ?_
  refine own_land X3 hx (pc' := 31) (hb hby d7_30) rfl rfl ?_
  refine own_lconst X3 hx (pc' := 32) (0 : Int64) (hb hby d7_31) rfl rfl ?_
  refine own_lcmp X3 hx (pc' := 33) (hb hby d7_32) rfl ?_
  refine own_ifYes X3 hx (pc' := 59) (hb hby d7_33) (feq (fun q => hbit ((lw_eq ((hf (P / 64)) &&& (own_bit P)) (0 : Int64)).mp q))).2 (by decide) (by decide) ?_
  refine own_aloadN X3 hx (pc' := 60) (hb hby d7_59) rfl rfl rfl ?_
  refine own_getF X3 hx (pc' := 63) hZ hown (host := "") (Or.inl (Wd18 hw)) Via.refl e3 F_s (hb hby d7_60) rfl (fun T5 X5 e5 => ?_)
  refine own_iload X5 hx (pc' := 65) (hb hby d7_63) rfl rfl ?_
  refine own_dup2 X5 hx (pc' := 66) (hb hby d7_65) rfl rfl rfl ?_
  obtain ⟨cl6, Ar6, S6, H6⟩ := id V_s
  refine own_daload X5 hx (pc' := 67) hZ (v := (sf P)) e5 Ar6 (own_in S6 c1.1 c1.2 hP) (by rw [c1.2]; exact H6 _ hP) (hb hby d7_66) rfl ?_
  refine own_dloadN X5 hx (pc' := 68) (hb hby d7_67) rfl rfl ?_
  refine own_dadd X5 hx (pc' := 69) (hb hby d7_68) hn rfl ?_
  obtain ⟨cl7, Ar7, S7, H7⟩ := id V_s
  refine own_stD X5 hx (pc' := 70) hZ e5 Ar7 (own_in S7 c1.1 c1.2 hP) (hb hby d7_69) rfl (fun T8 h8 X8 e8 W8 => ?_)
  have N9 := Fr.snoc X8 N0 g_su
  have Z10 : n0 ≤ h8.size := Nat.le_trans Z0 (Nat.le_of_eq (Wr.size W8).symm)
  have K11 : Keep h0 h8 [gw, su, ho] := K1.wr W8 (Or.inl (List.mem_of_getElem? (i := 1) rfl))
  have F12 := (Exa.wr W8 E_g)
  have F13 := (Fld.other W8 F_s (Or.inl d1))
  have F14 := (Fld.other W8 F_h (Or.inl d1))
  have F15 := (Fld.other W8 F_p (Or.inl d1))
  have F16 := (V_h.other W8 (Ne.symm d3))
  have F17 : own_Ar Z h8 su .double 4096 (fun ii => .double ((own_upd sf P (FP.dadd (sf P) gn)) ii)) := (own_Ar.set V_s W8 c1.2 hP (fun q => by unfold own_upd; split <;> rfl))
  refine own_retV X8 hx hlk hret (hb hby d7_70) (by decide) (by decide) ?_
  rw [e8]
  exact ⟨rfl, N9, K11, F13, F14, F15, F16, F17⟩

theorem d8_0 : decode prog_49_method_7_code 0 = .ok (.aload_n 0, 1) := by decide +kernel
theorem d8_1 : decode prog_49_method_7_code 1 = .ok (.getfield 9, 3) := by decide +kernel
theorem d8_4 : decode prog_49_method_7_code 4 = .ok (.iload_n 1, 1) := by decide +kernel
theorem d8_5 : decode prog_49_method_7_code 5 = .ok (.aload_n 0, 1) := by decide +kernel
theorem d8_6 : decode prog_49_method_7_code 6 = .ok (.getfield 19, 3) := by decide +kernel
theorem d8_9 : decode prog_49_method_7_code 9 = .ok (.isub, 1) := by decide +kernel
theorem d8_10 : decode prog_49_method_7_code 10 = .ok (.daload, 1) := by decide +kernel
theorem d8_11 : decode prog_49_method_7_code 11 = .ok (.dreturn, 1) := by decide +kernel
def Qsum (x : UInt64) (h0 : Heap) (n0 : Nat) (v : Option Value) (h : Heap) (L : List Loc) : Prop := v = some (.double x) ∧ Fr n0 L ∧ h = h0
theorem ef_rm_sum (m : MethodId) (x0 : Addr) (x1 : Int32) : entryFrame m #[(.ref x0), (.int x1)] 2 = mkF m 0 #[.val (.ref x0), .val (.int x1)] [] := by first | (simp [entryFrame, mkF, argsToLocals, Value.category, maxLocals]; done) | rfl
theorem pf_4 : plainFor (⟨"com/example/mixed_likelihood/mixedlikelihood/search/GainWindow", "sum", "(I)D"⟩ : MethodName) = true := by apply plainFor_of_name; first | (simp [plainName, overriddenIn]; done) | decide +kernel
set_option maxRecDepth 65536 in
set_option maxHeartbeats 40000000 in
theorem rm_sum (l : Launch) (Z : State) (a0 : Array Value) (hw : ∀ d ∈ tables_1, d.before a0 Z = true) (ws : List Jvm.Cond) (gw su ho : Addr) (start : Int32) (hf : Nat → Int64) (sf : Nat → UInt64) (P : Nat) (doc : Int32) (h0 : Heap) (n0 : Nat) (Z0 : n0 ≤ h0.size) (hP : P < 4096) (hpl : doc - start = Int32.ofNat P) (F_s : Fld Z h0 gw "com/example/mixed_likelihood/mixedlikelihood/search/GainWindow" "sums" "[D" (.ref su)) (F_h : Fld Z h0 gw "com/example/mixed_likelihood/mixedlikelihood/search/GainWindow" "holding" "[J" (.ref ho)) (F_p : Fld Z h0 gw "com/example/mixed_likelihood/mixedlikelihood/search/GainWindow" "start" "I" (.int start)) (V_h : own_Ar Z h0 ho .long 64 (fun ii => .long (hf ii))) (V_s : own_Ar Z h0 su .double 4096 (fun ii => .double (sf ii))) :
    MetFree l (⟨"com/example/mixed_likelihood/mixedlikelihood/search/GainWindow", "sum", "(I)D"⟩ : MethodName) (head1 (Jvm.Cond.code (⟨"com/example/mixed_likelihood/mixedlikelihood/search/GainWindow", "sum", "(I)D"⟩ : MethodName) prog_49_method_7_code 2 (some .double) :: ws) ({ frames := 0, cells := 0, slots := 0, locals := 0 } : Room)) (fun aa U => aa = #[(.ref gw), (.int doc)] ∧ Z.Warmed39 U.vm ∧ U.heap = h0) (fun _ _ _ _ _ => True) (fun _ U o U' => ∃ v L, o = .returned v ∧ Qsum (sf P) h0 n0 v U'.heap L ∧ FrameEnd U o U' L (({ frames := 0, cells := 0, slots := 0, locals := 0 } : Room).cells) (({ frames := 0, cells := 0, slots := 0, locals := 0 } : Room).slots)) := by
  refine own_body pf_4 ?_
  intro p e s m below meth c s₁ hx hby hml hown hnm hlk hret hZ X0 e0
  have N0 : Fr n0 [] := Fr.nil n0
  refine own_go (f' := (mkF m 0 #[.val (.ref gw), .val (.int doc)] [])) (fun t k => castTop (ef_rm_sum m gw doc) k) ?_
  have c1 := own_clamp (n := P) (by omega)
  refine own_aloadN X0 hx (pc' := 1) (hb hby d8_0) rfl rfl rfl ?_
  refine own_getF X0 hx (pc' := 4) hZ hown (host := "") (Or.inl (Wd18 hw)) Via.refl e0 F_s (hb hby d8_1) rfl (fun T1 X1 e1 => ?_)
  refine own_iloadN X1 hx (pc' := 5) (hb hby d8_4) rfl rfl ?_
  refine own_aloadN X1 hx (pc' := 6) (hb hby d8_5) rfl rfl rfl ?_
  refine own_getF X1 hx (pc' := 9) hZ hown (host := "") (Or.inl (Wd28 hw)) Via.refl e1 F_p (hb hby d8_6) rfl (fun T2 X2 e2 => ?_)
  refine own_isub X2 hx (pc' := 10) (hb hby d8_9) rfl rfl ?_
  rw [hpl]
  obtain ⟨cl3, Ar3, S3, H3⟩ := id V_s
  refine own_daload X2 hx (pc' := 11) hZ (v := (sf P)) e2 Ar3 (own_in S3 c1.1 c1.2 hP) (by rw [c1.2]; exact H3 _ hP) (hb hby d8_10) rfl ?_
  refine own_retD X2 hx hlk hret (hb hby d8_11) (by decide) (by decide) ?_
  exact ⟨rfl, N0, e2⟩

theorem d1_0 : decode jdk_29_method_69_code 0 = .ok (.iload_n 0, 1) := by decide +kernel
theorem d1_1 : decode jdk_29_method_69_code 1 = .ok (.iload_n 1, 1) := by decide +kernel
theorem d1_2 : decode jdk_29_method_69_code 2 = .ok (.if_icmp .gt 7, 3) := by decide +kernel
theorem d1_5 : decode jdk_29_method_69_code 5 = .ok (.iload_n 0, 1) := by decide +kernel
theorem d1_6 : decode jdk_29_method_69_code 6 = .ok (.goto 4, 3) := by decide +kernel
theorem d1_9 : decode jdk_29_method_69_code 9 = .ok (.iload_n 1, 1) := by decide +kernel
theorem d1_10 : decode jdk_29_method_69_code 10 = .ok (.ireturn, 1) := by decide +kernel
def own_minI (x y : Int32) : Int32 := if y < x then y else x
def Qmin (x y : Int32) (h0 : Heap) (n0 : Nat) (v : Option Value) (h : Heap) (L : List Loc) : Prop := v = some (.int (own_minI x y)) ∧ Fr n0 L ∧ h = h0
theorem ef_rm_min (m : MethodId) (x0 : Int32) (x1 : Int32) : entryFrame m #[(.int x0), (.int x1)] 2 = mkF m 0 #[.val (.int x0), .val (.int x1)] [] := by first | (simp [entryFrame, mkF, argsToLocals, Value.category, maxLocals]; done) | rfl
theorem pf_5 : plainFor (⟨"java/lang/Math", "min", "(II)I"⟩ : MethodName) = true := by decide +kernel
set_option maxRecDepth 65536 in
set_option maxHeartbeats 40000000 in
theorem rm_min (l : Launch) (Z : State) (a0 : Array Value) (hw : ∀ d ∈ tables_1, d.before a0 Z = true) (ws : List Jvm.Cond) (q0 q1 : Int32) (h0 : Heap) (n0 : Nat) (Z0 : n0 ≤ h0.size)  :
    MetFree l (⟨"java/lang/Math", "min", "(II)I"⟩ : MethodName) (head1 (Jvm.Cond.code (⟨"java/lang/Math", "min", "(II)I"⟩ : MethodName) jdk_29_method_69_code 2 (some .int) :: ws) ({ frames := 0, cells := 0, slots := 0, locals := 0 } : Room)) (fun aa U => aa = #[(.int q0), (.int q1)] ∧ Z.Warmed39 U.vm ∧ U.heap = h0) (fun _ _ _ _ _ => True) (fun _ U o U' => ∃ v L, o = .returned v ∧ Qmin q0 q1 h0 n0 v U'.heap L ∧ FrameEnd U o U' L (({ frames := 0, cells := 0, slots := 0, locals := 0 } : Room).cells) (({ frames := 0, cells := 0, slots := 0, locals := 0 } : Room).slots)) := by
  refine own_body pf_5 ?_
  intro p e s m below meth c s₁ hx hby hml hown hnm hlk hret hZ X0 e0
  have N0 : Fr n0 [] := Fr.nil n0
  refine own_go (f' := (mkF m 0 #[.val (.int q0), .val (.int q1)] [])) (fun t k => castTop (ef_rm_min m q0 q1) k) ?_
  refine own_iloadN X0 hx (pc' := 1) (hb hby d1_0) rfl rfl ?_
  refine own_iloadN X0 hx (pc' := 2) (hb hby d1_1) rfl rfl ?_
  by_cases hc2_1 : q1 < q0
  · skip
    refine own_icmpYes X0 hx (pc' := 9) (hb hby d1_2) (tlt hc2_1).2.2.1 (by decide) (by decide) ?_
    refine own_iloadN X0 hx (pc' := 10) (hb hby d1_9) rfl rfl ?_
    refine own_retI X0 hx hlk hret (hb hby d1_10) (by decide) (by decide) ?_
    exact ⟨by simp only [own_minI, hc2_1, if_true, if_false], N0, e0⟩
  · skip
    refine own_icmpNo X0 hx (pc' := 5) (hb hby d1_2) (flt hc2_1).2.2.1 rfl ?_
    refine own_iloadN X0 hx (pc' := 6) (hb hby d1_5) rfl rfl ?_
    refine own_goto X0 hx (pc' := 10) (hb hby d1_6) (by decide) (by decide) ?_
    refine own_retI X0 hx hlk hret (hb hby d1_10) (by decide) (by decide) ?_
    exact ⟨by simp only [own_minI, hc2_1, if_true, if_false], N0, e0⟩

theorem d2_0 : decode jdk_29_method_65_code 0 = .ok (.iload_n 0, 1) := by decide +kernel
theorem d2_1 : decode jdk_29_method_65_code 1 = .ok (.iload_n 1, 1) := by decide +kernel
theorem d2_2 : decode jdk_29_method_65_code 2 = .ok (.if_icmp .lt 7, 3) := by decide +kernel
theorem d2_5 : decode jdk_29_method_65_code 5 = .ok (.iload_n 0, 1) := by decide +kernel
theorem d2_6 : decode jdk_29_method_65_code 6 = .ok (.goto 4, 3) := by decide +kernel
theorem d2_9 : decode jdk_29_method_65_code 9 = .ok (.iload_n 1, 1) := by decide +kernel
theorem d2_10 : decode jdk_29_method_65_code 10 = .ok (.ireturn, 1) := by decide +kernel
def own_maxI (x y : Int32) : Int32 := if x < y then y else x
def Qmax (x y : Int32) (h0 : Heap) (n0 : Nat) (v : Option Value) (h : Heap) (L : List Loc) : Prop := v = some (.int (own_maxI x y)) ∧ Fr n0 L ∧ h = h0
theorem ef_rm_max (m : MethodId) (x0 : Int32) (x1 : Int32) : entryFrame m #[(.int x0), (.int x1)] 2 = mkF m 0 #[.val (.int x0), .val (.int x1)] [] := by first | (simp [entryFrame, mkF, argsToLocals, Value.category, maxLocals]; done) | rfl
theorem pf_6 : plainFor (⟨"java/lang/Math", "max", "(II)I"⟩ : MethodName) = true := by decide +kernel
set_option maxRecDepth 65536 in
set_option maxHeartbeats 40000000 in
theorem rm_max (l : Launch) (Z : State) (a0 : Array Value) (hw : ∀ d ∈ tables_1, d.before a0 Z = true) (ws : List Jvm.Cond) (q0 q1 : Int32) (h0 : Heap) (n0 : Nat) (Z0 : n0 ≤ h0.size)  :
    MetFree l (⟨"java/lang/Math", "max", "(II)I"⟩ : MethodName) (head1 (Jvm.Cond.code (⟨"java/lang/Math", "max", "(II)I"⟩ : MethodName) jdk_29_method_65_code 2 (some .int) :: ws) ({ frames := 0, cells := 0, slots := 0, locals := 0 } : Room)) (fun aa U => aa = #[(.int q0), (.int q1)] ∧ Z.Warmed39 U.vm ∧ U.heap = h0) (fun _ _ _ _ _ => True) (fun _ U o U' => ∃ v L, o = .returned v ∧ Qmax q0 q1 h0 n0 v U'.heap L ∧ FrameEnd U o U' L (({ frames := 0, cells := 0, slots := 0, locals := 0 } : Room).cells) (({ frames := 0, cells := 0, slots := 0, locals := 0 } : Room).slots)) := by
  refine own_body pf_6 ?_
  intro p e s m below meth c s₁ hx hby hml hown hnm hlk hret hZ X0 e0
  have N0 : Fr n0 [] := Fr.nil n0
  refine own_go (f' := (mkF m 0 #[.val (.int q0), .val (.int q1)] [])) (fun t k => castTop (ef_rm_max m q0 q1) k) ?_
  refine own_iloadN X0 hx (pc' := 1) (hb hby d2_0) rfl rfl ?_
  refine own_iloadN X0 hx (pc' := 2) (hb hby d2_1) rfl rfl ?_
  by_cases hc2_1 : q0 < q1
  · skip
    refine own_icmpYes X0 hx (pc' := 9) (hb hby d2_2) (tlt hc2_1).1 (by decide) (by decide) ?_
    refine own_iloadN X0 hx (pc' := 10) (hb hby d2_9) rfl rfl ?_
    refine own_retI X0 hx hlk hret (hb hby d2_10) (by decide) (by decide) ?_
    exact ⟨by simp only [own_maxI, hc2_1, if_true, if_false], N0, e0⟩
  · skip
    refine own_icmpNo X0 hx (pc' := 5) (hb hby d2_2) (flt hc2_1).1 rfl ?_
    refine own_iloadN X0 hx (pc' := 6) (hb hby d2_5) rfl rfl ?_
    refine own_goto X0 hx (pc' := 10) (hb hby d2_6) (by decide) (by decide) ?_
    refine own_retI X0 hx hlk hret (hb hby d2_10) (by decide) (by decide) ?_
    exact ⟨by simp only [own_maxI, hc2_1, if_true, if_false], N0, e0⟩

theorem d11_0 : decode jdk_33_method_48_code 0 = .ok (.iload_n 0, 1) := by decide +kernel
theorem d11_1 : decode jdk_33_method_48_code 1 = .ok (.iconst (-1), 1) := by decide +kernel
theorem d11_2 : decode jdk_33_method_48_code 2 = .ok (.ixor, 1) := by decide +kernel
theorem d11_3 : decode jdk_33_method_48_code 3 = .ok (.iload_n 0, 1) := by decide +kernel
theorem d11_4 : decode jdk_33_method_48_code 4 = .ok (.iconst 1, 1) := by decide +kernel
theorem d11_5 : decode jdk_33_method_48_code 5 = .ok (.isub, 1) := by decide +kernel
theorem d11_6 : decode jdk_33_method_48_code 6 = .ok (.iand, 1) := by decide +kernel
theorem d11_7 : decode jdk_33_method_48_code 7 = .ok (.istore_n 0, 1) := by decide +kernel
theorem d11_8 : decode jdk_33_method_48_code 8 = .ok (.iload_n 0, 1) := by decide +kernel
theorem d11_9 : decode jdk_33_method_48_code 9 = .ok (.ifCond .gt 8, 3) := by decide +kernel
theorem d11_12 : decode jdk_33_method_48_code 12 = .ok (.iload_n 0, 1) := by decide +kernel
theorem d11_13 : decode jdk_33_method_48_code 13 = .ok (.bipush 32, 2) := by decide +kernel
theorem d11_15 : decode jdk_33_method_48_code 15 = .ok (.iand, 1) := by decide +kernel
theorem d11_16 : decode jdk_33_method_48_code 16 = .ok (.ireturn, 1) := by decide +kernel
theorem d11_17 : decode jdk_33_method_48_code 17 = .ok (.iconst 1, 1) := by decide +kernel
theorem d11_18 : decode jdk_33_method_48_code 18 = .ok (.istore_n 1, 1) := by decide +kernel
theorem d11_19 : decode jdk_33_method_48_code 19 = .ok (.iload_n 0, 1) := by decide +kernel
theorem d11_20 : decode jdk_33_method_48_code 20 = .ok (.ldc_w 264, 3) := by decide +kernel
theorem d11_23 : decode jdk_33_method_48_code 23 = .ok (.if_icmp .le 11, 3) := by decide +kernel
theorem d11_26 : decode jdk_33_method_48_code 26 = .ok (.iinc 1 16, 3) := by decide +kernel
theorem d11_29 : decode jdk_33_method_48_code 29 = .ok (.iload_n 0, 1) := by decide +kernel
theorem d11_30 : decode jdk_33_method_48_code 30 = .ok (.bipush 16, 2) := by decide +kernel
theorem d11_32 : decode jdk_33_method_48_code 32 = .ok (.iushr, 1) := by decide +kernel
theorem d11_33 : decode jdk_33_method_48_code 33 = .ok (.istore_n 0, 1) := by decide +kernel
theorem d11_34 : decode jdk_33_method_48_code 34 = .ok (.iload_n 0, 1) := by decide +kernel
theorem d11_35 : decode jdk_33_method_48_code 35 = .ok (.sipush 256, 3) := by decide +kernel
theorem d11_38 : decode jdk_33_method_48_code 38 = .ok (.if_icmp .le 11, 3) := by decide +kernel
theorem d11_41 : decode jdk_33_method_48_code 41 = .ok (.iinc 1 8, 3) := by decide +kernel
theorem d11_44 : decode jdk_33_method_48_code 44 = .ok (.iload_n 0, 1) := by decide +kernel
theorem d11_45 : decode jdk_33_method_48_code 45 = .ok (.bipush 8, 2) := by decide +kernel
theorem d11_47 : decode jdk_33_method_48_code 47 = .ok (.iushr, 1) := by decide +kernel
theorem d11_48 : decode jdk_33_method_48_code 48 = .ok (.istore_n 0, 1) := by decide +kernel
theorem d11_49 : decode jdk_33_method_48_code 49 = .ok (.iload_n 0, 1) := by decide +kernel
theorem d11_50 : decode jdk_33_method_48_code 50 = .ok (.bipush 16, 2) := by decide +kernel
theorem d11_52 : decode jdk_33_method_48_code 52 = .ok (.if_icmp .le 10, 3) := by decide +kernel
theorem d11_55 : decode jdk_33_method_48_code 55 = .ok (.iinc 1 4, 3) := by decide +kernel
theorem d11_58 : decode jdk_33_method_48_code 58 = .ok (.iload_n 0, 1) := by decide +kernel
theorem d11_59 : decode jdk_33_method_48_code 59 = .ok (.iconst 4, 1) := by decide +kernel
theorem d11_60 : decode jdk_33_method_48_code 60 = .ok (.iushr, 1) := by decide +kernel
theorem d11_61 : decode jdk_33_method_48_code 61 = .ok (.istore_n 0, 1) := by decide +kernel
theorem d11_62 : decode jdk_33_method_48_code 62 = .ok (.iload_n 0, 1) := by decide +kernel
theorem d11_63 : decode jdk_33_method_48_code 63 = .ok (.iconst 4, 1) := by decide +kernel
theorem d11_64 : decode jdk_33_method_48_code 64 = .ok (.if_icmp .le 10, 3) := by decide +kernel
theorem d11_67 : decode jdk_33_method_48_code 67 = .ok (.iinc 1 2, 3) := by decide +kernel
theorem d11_70 : decode jdk_33_method_48_code 70 = .ok (.iload_n 0, 1) := by decide +kernel
theorem d11_71 : decode jdk_33_method_48_code 71 = .ok (.iconst 2, 1) := by decide +kernel
theorem d11_72 : decode jdk_33_method_48_code 72 = .ok (.iushr, 1) := by decide +kernel
theorem d11_73 : decode jdk_33_method_48_code 73 = .ok (.istore_n 0, 1) := by decide +kernel
theorem d11_74 : decode jdk_33_method_48_code 74 = .ok (.iload_n 1, 1) := by decide +kernel
theorem d11_75 : decode jdk_33_method_48_code 75 = .ok (.iload_n 0, 1) := by decide +kernel
theorem d11_76 : decode jdk_33_method_48_code 76 = .ok (.iconst 1, 1) := by decide +kernel
theorem d11_77 : decode jdk_33_method_48_code 77 = .ok (.iushr, 1) := by decide +kernel
theorem d11_78 : decode jdk_33_method_48_code 78 = .ok (.iadd, 1) := by decide +kernel
theorem d11_79 : decode jdk_33_method_48_code 79 = .ok (.ireturn, 1) := by decide +kernel
def QnI (x : Int32) (h0 : Heap) (n0 : Nat) (v : Option Value) (h : Heap) (L : List Loc) : Prop := v = some (.int (own_nI x)) ∧ Fr n0 L ∧ h = h0
theorem ef_rm_nI (m : MethodId) (x0 : Int32) : entryFrame m #[(.int x0)] 2 = mkF m 0 #[.val (.int x0), .unset] [] := by first | (simp [entryFrame, mkF, argsToLocals, Value.category, maxLocals]; done) | rfl
theorem pf_7 : plainFor (⟨"java/lang/Integer", "numberOfTrailingZeros", "(I)I"⟩ : MethodName) = true := by apply plainFor_of_name; first | (simp [plainName, overriddenIn]; done) | decide +kernel
theorem Wd58 {a0 : Array Value} {Z : State} (hw : ∀ d ∈ tables_1, d.before a0 Z = true) : (Jvm.Cond.constant "java/lang/Integer" (264 : Nat) (65536 : Int32)).before a0 Z = true := hw _ (List.mem_of_getElem? (i := 58) rfl)
set_option maxRecDepth 65536 in
set_option maxHeartbeats 40000000 in
theorem rm_nI (l : Launch) (Z : State) (a0 : Array Value) (hw : ∀ d ∈ tables_1, d.before a0 Z = true) (ws : List Jvm.Cond) (q0 : Int32) (h0 : Heap) (n0 : Nat) (Z0 : n0 ≤ h0.size)  :
    MetFree l (⟨"java/lang/Integer", "numberOfTrailingZeros", "(I)I"⟩ : MethodName) (head1 (Jvm.Cond.code (⟨"java/lang/Integer", "numberOfTrailingZeros", "(I)I"⟩ : MethodName) jdk_33_method_48_code 2 (some .int) :: ws) ({ frames := 0, cells := 0, slots := 0, locals := 0 } : Room)) (fun aa U => aa = #[(.int q0)] ∧ Z.Warmed39 U.vm ∧ U.heap = h0) (fun _ _ _ _ _ => True) (fun _ U o U' => ∃ v L, o = .returned v ∧ QnI q0 h0 n0 v U'.heap L ∧ FrameEnd U o U' L (({ frames := 0, cells := 0, slots := 0, locals := 0 } : Room).cells) (({ frames := 0, cells := 0, slots := 0, locals := 0 } : Room).slots)) := by
  refine own_body pf_7 ?_
  intro p e s m below meth c s₁ hx hby hml hown hnm hlk hret hZ X0 e0
  have N0 : Fr n0 [] := Fr.nil n0
  refine own_go (f' := (mkF m 0 #[.val (.int q0), .unset] [])) (fun t k => castTop (ef_rm_nI m q0) k) ?_
  refine own_iloadN X0 hx (pc' := 1) (hb hby d11_0) rfl rfl ?_
  refine own_iconst X0 hx (pc' := 2) (-1 : Int32) (hb hby d11_1) rfl rfl ?_
  refine own_ixor X0 hx (pc' := 3) (hb hby d11_2) rfl rfl ?_
  refine own_iloadN X0 hx (pc' := 4) (hb hby d11_3) rfl rfl ?_
  refine own_iconst X0 hx (pc' := 5) (1 : Int32) (hb hby d11_4) rfl rfl ?_
  refine own_isub X0 hx (pc' := 6) (hb hby d11_5) rfl rfl ?_
  refine own_iand X0 hx (pc' := 7) (hb hby d11_6) rfl rfl ?_
  refine own_istoreN X0 hx (pc' := 8) (Ls' := #[.val (.int ((q0 ^^^ (-1 : Int32)) &&& (q0 - (1 : Int32)))), .unset]) (hb hby d11_7) rfl rfl ?_
  refine own_iloadN X0 hx (pc' := 9) (hb hby d11_8) rfl rfl ?_
  by_cases hc9_1 : (0 : Int32) < ((q0 ^^^ (-1 : Int32)) &&& (q0 - (1 : Int32)))
  · skip
    refine own_ifYes X0 hx (pc' := 17) (hb hby d11_9) (tlt hc9_1).2.2.1 (by decide) (by decide) ?_
    refine own_iconst X0 hx (pc' := 18) (1 : Int32) (hb hby d11_17) rfl rfl ?_
    refine own_istoreN X0 hx (pc' := 19) (Ls' := #[.val (.int ((q0 ^^^ (-1 : Int32)) &&& (q0 - (1 : Int32)))), .val (.int (1 : Int32))]) (hb hby d11_18) rfl rfl ?_
    refine own_iloadN X0 hx (pc' := 20) (hb hby d11_19) rfl rfl ?_
    refine own_ldcwI X0 hx (pc' := 23) hZ hown (Wd58 hw) (hb hby d11_20) rfl ?_
    by_cases hc23_2 : (65536 : Int32) < ((q0 ^^^ (-1 : Int32)) &&& (q0 - (1 : Int32)))
    · skip
      refine own_icmpNo X0 hx (pc' := 26) (hb hby d11_23) (tlt hc23_2).2.2.2 rfl ?_
      refine own_iinc X0 hx (pc' := 29) (Ls' := #[.val (.int ((q0 ^^^ (-1 : Int32)) &&& (q0 - (1 : Int32)))), .val (.int (17 : Int32))]) (hb hby d11_26) rfl rfl rfl ?_
      refine own_iloadN X0 hx (pc' := 30) (hb hby d11_29) rfl rfl ?_
      refine own_bipush X0 hx (pc' := 32) (16 : Int32) (hb hby d11_30) rfl rfl ?_
      refine own_iushr X0 hx (pc' := 33) (hb hby d11_32) rfl ?_
      refine own_istoreN X0 hx (pc' := 34) (Ls' := #[.val (.int ((((q0 ^^^ (-1 : Int32)) &&& (q0 - (1 : Int32))).toUInt32 >>> ((16 : Int32) &&& 31).toUInt32).toInt32)), .val (.int (17 : Int32))]) (hb hby d11_33) rfl rfl ?_
      refine own_iloadN X0 hx (pc' := 35) (hb hby d11_34) rfl rfl ?_
      refine own_sipush X0 hx (pc' := 38) (256 : Int32) (hb hby d11_35) rfl rfl ?_
      by_cases hc38_3 : (256 : Int32) < ((((q0 ^^^ (-1 : Int32)) &&& (q0 - (1 : Int32))).toUInt32 >>> ((16 : Int32) &&& 31).toUInt32).toInt32)
      · skip
        refine own_icmpNo X0 hx (pc' := 41) (hb hby d11_38) (tlt hc38_3).2.2.2 rfl ?_
        refine own_iinc X0 hx (pc' := 44) (Ls' := #[.val (.int ((((q0 ^^^ (-1 : Int32)) &&& (q0 - (1 : Int32))).toUInt32 >>> ((16 : Int32) &&& 31).toUInt32).toInt32)), .val (.int (25 : Int32))]) (hb hby d11_41) rfl rfl rfl ?_
        refine own_iloadN X0 hx (pc' := 45) (hb hby d11_44) rfl rfl ?_
        refine own_bipush X0 hx (pc' := 47) (8 : Int32) (hb hby d11_45) rfl rfl ?_
        refine own_iushr X0 hx (pc' := 48) (hb hby d11_47) rfl ?_
        refine own_istoreN X0 hx (pc' := 49) (Ls' := #[.val (.int ((((((q0 ^^^ (-1 : Int32)) &&& (q0 - (1 : Int32))).toUInt32 >>> ((16 : Int32) &&& 31).toUInt32).toInt32).toUInt32 >>> ((8 : Int32) &&& 31).toUInt32).toInt32)), .val (.int (25 : Int32))]) (hb hby d11_48) rfl rfl ?_
        refine own_iloadN X0 hx (pc' := 50) (hb hby d11_49) rfl rfl ?_
        refine own_bipush X0 hx (pc' := 52) (16 : Int32) (hb hby d11_50) rfl rfl ?_
        by_cases hc52_4 : (16 : Int32) < ((((((q0 ^^^ (-1 : Int32)) &&& (q0 - (1 : Int32))).toUInt32 >>> ((16 : Int32) &&& 31).toUInt32).toInt32).toUInt32 >>> ((8 : Int32) &&& 31).toUInt32).toInt32)
        · skip
          refine own_icmpNo X0 hx (pc' := 55) (hb hby d11_52) (tlt hc52_4).2.2.2 rfl ?_
          refine own_iinc X0 hx (pc' := 58) (Ls' := #[.val (.int ((((((q0 ^^^ (-1 : Int32)) &&& (q0 - (1 : Int32))).toUInt32 >>> ((16 : Int32) &&& 31).toUInt32).toInt32).toUInt32 >>> ((8 : Int32) &&& 31).toUInt32).toInt32)), .val (.int (29 : Int32))]) (hb hby d11_55) rfl rfl rfl ?_
          refine own_iloadN X0 hx (pc' := 59) (hb hby d11_58) rfl rfl ?_
          refine own_iconst X0 hx (pc' := 60) (4 : Int32) (hb hby d11_59) rfl rfl ?_
          refine own_iushr X0 hx (pc' := 61) (hb hby d11_60) rfl ?_
          refine own_istoreN X0 hx (pc' := 62) (Ls' := #[.val (.int ((((((((q0 ^^^ (-1 : Int32)) &&& (q0 - (1 : Int32))).toUInt32 >>> ((16 : Int32) &&& 31).toUInt32).toInt32).toUInt32 >>> ((8 : Int32) &&& 31).toUInt32).toInt32).toUInt32 >>> ((4 : Int32) &&& 31).toUInt32).toInt32)), .val (.int (29 : Int32))]) (hb hby d11_61) rfl rfl ?_
          refine own_iloadN X0 hx (pc' := 63) (hb hby d11_62) rfl rfl ?_
          refine own_iconst X0 hx (pc' := 64) (4 : Int32) (hb hby d11_63) rfl rfl ?_
          by_cases hc64_5 : (4 : Int32) < ((((((((q0 ^^^ (-1 : Int32)) &&& (q0 - (1 : Int32))).toUInt32 >>> ((16 : Int32) &&& 31).toUInt32).toInt32).toUInt32 >>> ((8 : Int32) &&& 31).toUInt32).toInt32).toUInt32 >>> ((4 : Int32) &&& 31).toUInt32).toInt32)
          · skip
            refine own_icmpNo X0 hx (pc' := 67) (hb hby d11_64) (tlt hc64_5).2.2.2 rfl ?_
            refine own_iinc X0 hx (pc' := 70) (Ls' := #[.val (.int ((((((((q0 ^^^ (-1 : Int32)) &&& (q0 - (1 : Int32))).toUInt32 >>> ((16 : Int32) &&& 31).toUInt32).toInt32).toUInt32 >>> ((8 : Int32) &&& 31).toUInt32).toInt32).toUInt32 >>> ((4 : Int32) &&& 31).toUInt32).toInt32)), .val (.int (31 : Int32))]) (hb hby d11_67) rfl rfl rfl ?_
            refine own_iloadN X0 hx (pc' := 71) (hb hby d11_70) rfl rfl ?_
            refine own_iconst X0 hx (pc' := 72) (2 : Int32) (hb hby d11_71) rfl rfl ?_
            refine own_iushr X0 hx (pc' := 73) (hb hby d11_72) rfl ?_
            refine own_istoreN X0 hx (pc' := 74) (Ls' := #[.val (.int ((((((((((q0 ^^^ (-1 : Int32)) &&& (q0 - (1 : Int32))).toUInt32 >>> ((16 : Int32) &&& 31).toUInt32).toInt32).toUInt32 >>> ((8 : Int32) &&& 31).toUInt32).toInt32).toUInt32 >>> ((4 : Int32) &&& 31).toUInt32).toInt32).toUInt32 >>> ((2 : Int32) &&& 31).toUInt32).toInt32)), .val (.int (31 : Int32))]) (hb hby d11_73) rfl rfl ?_
            refine own_iloadN X0 hx (pc' := 75) (hb hby d11_74) rfl rfl ?_
            refine own_iloadN X0 hx (pc' := 76) (hb hby d11_75) rfl rfl ?_
            refine own_iconst X0 hx (pc' := 77) (1 : Int32) (hb hby d11_76) rfl rfl ?_
            refine own_iushr X0 hx (pc' := 78) (hb hby d11_77) rfl ?_
            refine own_iadd X0 hx (pc' := 79) (hb hby d11_78) rfl rfl ?_
            refine own_retI X0 hx hlk hret (hb hby d11_79) (by decide) (by decide) ?_
            exact ⟨by simp only [own_nI, own_n1, own_n2, own_n3, own_n4, own_ush, hc9_1, hc23_2, hc38_3, hc52_4, hc64_5, if_true, if_false] <;> rfl, N0, e0⟩
          · skip
            refine own_icmpYes X0 hx (pc' := 74) (hb hby d11_64) (flt hc64_5).2.2.2 (by decide) (by decide) ?_
            refine own_iloadN X0 hx (pc' := 75) (hb hby d11_74) rfl rfl ?_
            refine own_iloadN X0 hx (pc' := 76) (hb hby d11_75) rfl rfl ?_
            refine own_iconst X0 hx (pc' := 77) (1 : Int32) (hb hby d11_76) rfl rfl ?_
            refine own_iushr X0 hx (pc' := 78) (hb hby d11_77) rfl ?_
            refine own_iadd X0 hx (pc' := 79) (hb hby d11_78) rfl rfl ?_
            refine own_retI X0 hx hlk hret (hb hby d11_79) (by decide) (by decide) ?_
            exact ⟨by simp only [own_nI, own_n1, own_n2, own_n3, own_n4, own_ush, hc9_1, hc23_2, hc38_3, hc52_4, hc64_5, if_true, if_false] <;> rfl, N0, e0⟩
        · skip
          refine own_icmpYes X0 hx (pc' := 62) (hb hby d11_52) (flt hc52_4).2.2.2 (by decide) (by decide) ?_
          refine own_iloadN X0 hx (pc' := 63) (hb hby d11_62) rfl rfl ?_
          refine own_iconst X0 hx (pc' := 64) (4 : Int32) (hb hby d11_63) rfl rfl ?_
          by_cases hc64_6 : (4 : Int32) < ((((((q0 ^^^ (-1 : Int32)) &&& (q0 - (1 : Int32))).toUInt32 >>> ((16 : Int32) &&& 31).toUInt32).toInt32).toUInt32 >>> ((8 : Int32) &&& 31).toUInt32).toInt32)
          · skip
            refine own_icmpNo X0 hx (pc' := 67) (hb hby d11_64) (tlt hc64_6).2.2.2 rfl ?_
            refine own_iinc X0 hx (pc' := 70) (Ls' := #[.val (.int ((((((q0 ^^^ (-1 : Int32)) &&& (q0 - (1 : Int32))).toUInt32 >>> ((16 : Int32) &&& 31).toUInt32).toInt32).toUInt32 >>> ((8 : Int32) &&& 31).toUInt32).toInt32)), .val (.int (27 : Int32))]) (hb hby d11_67) rfl rfl rfl ?_
            refine own_iloadN X0 hx (pc' := 71) (hb hby d11_70) rfl rfl ?_
            refine own_iconst X0 hx (pc' := 72) (2 : Int32) (hb hby d11_71) rfl rfl ?_
            refine own_iushr X0 hx (pc' := 73) (hb hby d11_72) rfl ?_
            refine own_istoreN X0 hx (pc' := 74) (Ls' := #[.val (.int ((((((((q0 ^^^ (-1 : Int32)) &&& (q0 - (1 : Int32))).toUInt32 >>> ((16 : Int32) &&& 31).toUInt32).toInt32).toUInt32 >>> ((8 : Int32) &&& 31).toUInt32).toInt32).toUInt32 >>> ((2 : Int32) &&& 31).toUInt32).toInt32)), .val (.int (27 : Int32))]) (hb hby d11_73) rfl rfl ?_
            refine own_iloadN X0 hx (pc' := 75) (hb hby d11_74) rfl rfl ?_
            refine own_iloadN X0 hx (pc' := 76) (hb hby d11_75) rfl rfl ?_
            refine own_iconst X0 hx (pc' := 77) (1 : Int32) (hb hby d11_76) rfl rfl ?_
            refine own_iushr X0 hx (pc' := 78) (hb hby d11_77) rfl ?_
            refine own_iadd X0 hx (pc' := 79) (hb hby d11_78) rfl rfl ?_
            refine own_retI X0 hx hlk hret (hb hby d11_79) (by decide) (by decide) ?_
            exact ⟨by simp only [own_nI, own_n1, own_n2, own_n3, own_n4, own_ush, hc9_1, hc23_2, hc38_3, hc52_4, hc64_6, if_true, if_false] <;> rfl, N0, e0⟩
          · skip
            refine own_icmpYes X0 hx (pc' := 74) (hb hby d11_64) (flt hc64_6).2.2.2 (by decide) (by decide) ?_
            refine own_iloadN X0 hx (pc' := 75) (hb hby d11_74) rfl rfl ?_
            refine own_iloadN X0 hx (pc' := 76) (hb hby d11_75) rfl rfl ?_
            refine own_iconst X0 hx (pc' := 77) (1 : Int32) (hb hby d11_76) rfl rfl ?_
            refine own_iushr X0 hx (pc' := 78) (hb hby d11_77) rfl ?_
            refine own_iadd X0 hx (pc' := 79) (hb hby d11_78) rfl rfl ?_
            refine own_retI X0 hx hlk hret (hb hby d11_79) (by decide) (by decide) ?_
            exact ⟨by simp only [own_nI, own_n1, own_n2, own_n3, own_n4, own_ush, hc9_1, hc23_2, hc38_3, hc52_4, hc64_6, if_true, if_false] <;> rfl, N0, e0⟩
      · skip
        refine own_icmpYes X0 hx (pc' := 49) (hb hby d11_38) (flt hc38_3).2.2.2 (by decide) (by decide) ?_
        refine own_iloadN X0 hx (pc' := 50) (hb hby d11_49) rfl rfl ?_
        refine own_bipush X0 hx (pc' := 52) (16 : Int32) (hb hby d11_50) rfl rfl ?_
        by_cases hc52_7 : (16 : Int32) < ((((q0 ^^^ (-1 : Int32)) &&& (q0 - (1 : Int32))).toUInt32 >>> ((16 : Int32) &&& 31).toUInt32).toInt32)
        · skip
          refine own_icmpNo X0 hx (pc' := 55) (hb hby d11_52) (tlt hc52_7).2.2.2 rfl ?_
          refine own_iinc X0 hx (pc' := 58) (Ls' := #[.val (.int ((((q0 ^^^ (-1 : Int32)) &&& (q0 - (1 : Int32))).toUInt32 >>> ((16 : Int32) &&& 31).toUInt32).toInt32)), .val (.int (21 : Int32))]) (hb hby d11_55) rfl rfl rfl ?_
          refine own_iloadN X0 hx (pc' := 59) (hb hby d11_58) rfl rfl ?_
          refine own_iconst X0 hx (pc' := 60) (4 : Int32) (hb hby d11_59) rfl rfl ?_
          refine own_iushr X0 hx (pc' := 61) (hb hby d11_60) rfl ?_
          refine own_istoreN X0 hx (pc' := 62) (Ls' := #[.val (.int ((((((q0 ^^^ (-1 : Int32)) &&& (q0 - (1 : Int32))).toUInt32 >>> ((16 : Int32) &&& 31).toUInt32).toInt32).toUInt32 >>> ((4 : Int32) &&& 31).toUInt32).toInt32)), .val (.int (21 : Int32))]) (hb hby d11_61) rfl rfl ?_
          refine own_iloadN X0 hx (pc' := 63) (hb hby d11_62) rfl rfl ?_
          refine own_iconst X0 hx (pc' := 64) (4 : Int32) (hb hby d11_63) rfl rfl ?_
          by_cases hc64_8 : (4 : Int32) < ((((((q0 ^^^ (-1 : Int32)) &&& (q0 - (1 : Int32))).toUInt32 >>> ((16 : Int32) &&& 31).toUInt32).toInt32).toUInt32 >>> ((4 : Int32) &&& 31).toUInt32).toInt32)
          · skip
            refine own_icmpNo X0 hx (pc' := 67) (hb hby d11_64) (tlt hc64_8).2.2.2 rfl ?_
            refine own_iinc X0 hx (pc' := 70) (Ls' := #[.val (.int ((((((q0 ^^^ (-1 : Int32)) &&& (q0 - (1 : Int32))).toUInt32 >>> ((16 : Int32) &&& 31).toUInt32).toInt32).toUInt32 >>> ((4 : Int32) &&& 31).toUInt32).toInt32)), .val (.int (23 : Int32))]) (hb hby d11_67) rfl rfl rfl ?_
            refine own_iloadN X0 hx (pc' := 71) (hb hby d11_70) rfl rfl ?_
            refine own_iconst X0 hx (pc' := 72) (2 : Int32) (hb hby d11_71) rfl rfl ?_
            refine own_iushr X0 hx (pc' := 73) (hb hby d11_72) rfl ?_
            refine own_istoreN X0 hx (pc' := 74) (Ls' := #[.val (.int ((((((((q0 ^^^ (-1 : Int32)) &&& (q0 - (1 : Int32))).toUInt32 >>> ((16 : Int32) &&& 31).toUInt32).toInt32).toUInt32 >>> ((4 : Int32) &&& 31).toUInt32).toInt32).toUInt32 >>> ((2 : Int32) &&& 31).toUInt32).toInt32)), .val (.int (23 : Int32))]) (hb hby d11_73) rfl rfl ?_
            refine own_iloadN X0 hx (pc' := 75) (hb hby d11_74) rfl rfl ?_
            refine own_iloadN X0 hx (pc' := 76) (hb hby d11_75) rfl rfl ?_
            refine own_iconst X0 hx (pc' := 77) (1 : Int32) (hb hby d11_76) rfl rfl ?_
            refine own_iushr X0 hx (pc' := 78) (hb hby d11_77) rfl ?_
            refine own_iadd X0 hx (pc' := 79) (hb hby d11_78) rfl rfl ?_
            refine own_retI X0 hx hlk hret (hb hby d11_79) (by decide) (by decide) ?_
            exact ⟨by simp only [own_nI, own_n1, own_n2, own_n3, own_n4, own_ush, hc9_1, hc23_2, hc38_3, hc52_7, hc64_8, if_true, if_false] <;> rfl, N0, e0⟩
          · skip
            refine own_icmpYes X0 hx (pc' := 74) (hb hby d11_64) (flt hc64_8).2.2.2 (by decide) (by decide) ?_
            refine own_iloadN X0 hx (pc' := 75) (hb hby d11_74) rfl rfl ?_
            refine own_iloadN X0 hx (pc' := 76) (hb hby d11_75) rfl rfl ?_
            refine own_iconst X0 hx (pc' := 77) (1 : Int32) (hb hby d11_76) rfl rfl ?_
            refine own_iushr X0 hx (pc' := 78) (hb hby d11_77) rfl ?_
            refine own_iadd X0 hx (pc' := 79) (hb hby d11_78) rfl rfl ?_
            refine own_retI X0 hx hlk hret (hb hby d11_79) (by decide) (by decide) ?_
            exact ⟨by simp only [own_nI, own_n1, own_n2, own_n3, own_n4, own_ush, hc9_1, hc23_2, hc38_3, hc52_7, hc64_8, if_true, if_false] <;> rfl, N0, e0⟩
        · skip
          refine own_icmpYes X0 hx (pc' := 62) (hb hby d11_52) (flt hc52_7).2.2.2 (by decide) (by decide) ?_
          refine own_iloadN X0 hx (pc' := 63) (hb hby d11_62) rfl rfl ?_
          refine own_iconst X0 hx (pc' := 64) (4 : Int32) (hb hby d11_63) rfl rfl ?_
          by_cases hc64_9 : (4 : Int32) < ((((q0 ^^^ (-1 : Int32)) &&& (q0 - (1 : Int32))).toUInt32 >>> ((16 : Int32) &&& 31).toUInt32).toInt32)
          · skip
            refine own_icmpNo X0 hx (pc' := 67) (hb hby d11_64) (tlt hc64_9).2.2.2 rfl ?_
            refine own_iinc X0 hx (pc' := 70) (Ls' := #[.val (.int ((((q0 ^^^ (-1 : Int32)) &&& (q0 - (1 : Int32))).toUInt32 >>> ((16 : Int32) &&& 31).toUInt32).toInt32)), .val (.int (19 : Int32))]) (hb hby d11_67) rfl rfl rfl ?_
            refine own_iloadN X0 hx (pc' := 71) (hb hby d11_70) rfl rfl ?_
            refine own_iconst X0 hx (pc' := 72) (2 : Int32) (hb hby d11_71) rfl rfl ?_
            refine own_iushr X0 hx (pc' := 73) (hb hby d11_72) rfl ?_
            refine own_istoreN X0 hx (pc' := 74) (Ls' := #[.val (.int ((((((q0 ^^^ (-1 : Int32)) &&& (q0 - (1 : Int32))).toUInt32 >>> ((16 : Int32) &&& 31).toUInt32).toInt32).toUInt32 >>> ((2 : Int32) &&& 31).toUInt32).toInt32)), .val (.int (19 : Int32))]) (hb hby d11_73) rfl rfl ?_
            refine own_iloadN X0 hx (pc' := 75) (hb hby d11_74) rfl rfl ?_
            refine own_iloadN X0 hx (pc' := 76) (hb hby d11_75) rfl rfl ?_
            refine own_iconst X0 hx (pc' := 77) (1 : Int32) (hb hby d11_76) rfl rfl ?_
            refine own_iushr X0 hx (pc' := 78) (hb hby d11_77) rfl ?_
            refine own_iadd X0 hx (pc' := 79) (hb hby d11_78) rfl rfl ?_
            refine own_retI X0 hx hlk hret (hb hby d11_79) (by decide) (by decide) ?_
            exact ⟨by simp only [own_nI, own_n1, own_n2, own_n3, own_n4, own_ush, hc9_1, hc23_2, hc38_3, hc52_7, hc64_9, if_true, if_false] <;> rfl, N0, e0⟩
          · skip
            refine own_icmpYes X0 hx (pc' := 74) (hb hby d11_64) (flt hc64_9).2.2.2 (by decide) (by decide) ?_
            refine own_iloadN X0 hx (pc' := 75) (hb hby d11_74) rfl rfl ?_
            refine own_iloadN X0 hx (pc' := 76) (hb hby d11_75) rfl rfl ?_
            refine own_iconst X0 hx (pc' := 77) (1 : Int32) (hb hby d11_76) rfl rfl ?_
            refine own_iushr X0 hx (pc' := 78) (hb hby d11_77) rfl ?_
            refine own_iadd X0 hx (pc' := 79) (hb hby d11_78) rfl rfl ?_
            refine own_retI X0 hx hlk hret (hb hby d11_79) (by decide) (by decide) ?_
            exact ⟨by simp only [own_nI, own_n1, own_n2, own_n3, own_n4, own_ush, hc9_1, hc23_2, hc38_3, hc52_7, hc64_9, if_true, if_false] <;> rfl, N0, e0⟩
    · skip
      refine own_icmpYes X0 hx (pc' := 34) (hb hby d11_23) (flt hc23_2).2.2.2 (by decide) (by decide) ?_
      refine own_iloadN X0 hx (pc' := 35) (hb hby d11_34) rfl rfl ?_
      refine own_sipush X0 hx (pc' := 38) (256 : Int32) (hb hby d11_35) rfl rfl ?_
      by_cases hc38_10 : (256 : Int32) < ((q0 ^^^ (-1 : Int32)) &&& (q0 - (1 : Int32)))
      · skip
        refine own_icmpNo X0 hx (pc' := 41) (hb hby d11_38) (tlt hc38_10).2.2.2 rfl ?_
        refine own_iinc X0 hx (pc' := 44) (Ls' := #[.val (.int ((q0 ^^^ (-1 : Int32)) &&& (q0 - (1 : Int32)))), .val (.int (9 : Int32))]) (hb hby d11_41) rfl rfl rfl ?_
        refine own_iloadN X0 hx (pc' := 45) (hb hby d11_44) rfl rfl ?_
        refine own_bipush X0 hx (pc' := 47) (8 : Int32) (hb hby d11_45) rfl rfl ?_
        refine own_iushr X0 hx (pc' := 48) (hb hby d11_47) rfl ?_
        refine own_istoreN X0 hx (pc' := 49) (Ls' := #[.val (.int ((((q0 ^^^ (-1 : Int32)) &&& (q0 - (1 : Int32))).toUInt32 >>> ((8 : Int32) &&& 31).toUInt32).toInt32)), .val (.int (9 : Int32))]) (hb hby d11_48) rfl rfl ?_
        refine own_iloadN X0 hx (pc' := 50) (hb hby d11_49) rfl rfl ?_
        refine own_bipush X0 hx (pc' := 52) (16 : Int32) (hb hby d11_50) rfl rfl ?_
        by_cases hc52_11 : (16 : Int32) < ((((q0 ^^^ (-1 : Int32)) &&& (q0 - (1 : Int32))).toUInt32 >>> ((8 : Int32) &&& 31).toUInt32).toInt32)
        · skip
          refine own_icmpNo X0 hx (pc' := 55) (hb hby d11_52) (tlt hc52_11).2.2.2 rfl ?_
          refine own_iinc X0 hx (pc' := 58) (Ls' := #[.val (.int ((((q0 ^^^ (-1 : Int32)) &&& (q0 - (1 : Int32))).toUInt32 >>> ((8 : Int32) &&& 31).toUInt32).toInt32)), .val (.int (13 : Int32))]) (hb hby d11_55) rfl rfl rfl ?_
          refine own_iloadN X0 hx (pc' := 59) (hb hby d11_58) rfl rfl ?_
          refine own_iconst X0 hx (pc' := 60) (4 : Int32) (hb hby d11_59) rfl rfl ?_
          refine own_iushr X0 hx (pc' := 61) (hb hby d11_60) rfl ?_
          refine own_istoreN X0 hx (pc' := 62) (Ls' := #[.val (.int ((((((q0 ^^^ (-1 : Int32)) &&& (q0 - (1 : Int32))).toUInt32 >>> ((8 : Int32) &&& 31).toUInt32).toInt32).toUInt32 >>> ((4 : Int32) &&& 31).toUInt32).toInt32)), .val (.int (13 : Int32))]) (hb hby d11_61) rfl rfl ?_
          refine own_iloadN X0 hx (pc' := 63) (hb hby d11_62) rfl rfl ?_
          refine own_iconst X0 hx (pc' := 64) (4 : Int32) (hb hby d11_63) rfl rfl ?_
          by_cases hc64_12 : (4 : Int32) < ((((((q0 ^^^ (-1 : Int32)) &&& (q0 - (1 : Int32))).toUInt32 >>> ((8 : Int32) &&& 31).toUInt32).toInt32).toUInt32 >>> ((4 : Int32) &&& 31).toUInt32).toInt32)
          · skip
            refine own_icmpNo X0 hx (pc' := 67) (hb hby d11_64) (tlt hc64_12).2.2.2 rfl ?_
            refine own_iinc X0 hx (pc' := 70) (Ls' := #[.val (.int ((((((q0 ^^^ (-1 : Int32)) &&& (q0 - (1 : Int32))).toUInt32 >>> ((8 : Int32) &&& 31).toUInt32).toInt32).toUInt32 >>> ((4 : Int32) &&& 31).toUInt32).toInt32)), .val (.int (15 : Int32))]) (hb hby d11_67) rfl rfl rfl ?_
            refine own_iloadN X0 hx (pc' := 71) (hb hby d11_70) rfl rfl ?_
            refine own_iconst X0 hx (pc' := 72) (2 : Int32) (hb hby d11_71) rfl rfl ?_
            refine own_iushr X0 hx (pc' := 73) (hb hby d11_72) rfl ?_
            refine own_istoreN X0 hx (pc' := 74) (Ls' := #[.val (.int ((((((((q0 ^^^ (-1 : Int32)) &&& (q0 - (1 : Int32))).toUInt32 >>> ((8 : Int32) &&& 31).toUInt32).toInt32).toUInt32 >>> ((4 : Int32) &&& 31).toUInt32).toInt32).toUInt32 >>> ((2 : Int32) &&& 31).toUInt32).toInt32)), .val (.int (15 : Int32))]) (hb hby d11_73) rfl rfl ?_
            refine own_iloadN X0 hx (pc' := 75) (hb hby d11_74) rfl rfl ?_
            refine own_iloadN X0 hx (pc' := 76) (hb hby d11_75) rfl rfl ?_
            refine own_iconst X0 hx (pc' := 77) (1 : Int32) (hb hby d11_76) rfl rfl ?_
            refine own_iushr X0 hx (pc' := 78) (hb hby d11_77) rfl ?_
            refine own_iadd X0 hx (pc' := 79) (hb hby d11_78) rfl rfl ?_
            refine own_retI X0 hx hlk hret (hb hby d11_79) (by decide) (by decide) ?_
            exact ⟨by simp only [own_nI, own_n1, own_n2, own_n3, own_n4, own_ush, hc9_1, hc23_2, hc38_10, hc52_11, hc64_12, if_true, if_false] <;> rfl, N0, e0⟩
          · skip
            refine own_icmpYes X0 hx (pc' := 74) (hb hby d11_64) (flt hc64_12).2.2.2 (by decide) (by decide) ?_
            refine own_iloadN X0 hx (pc' := 75) (hb hby d11_74) rfl rfl ?_
            refine own_iloadN X0 hx (pc' := 76) (hb hby d11_75) rfl rfl ?_
            refine own_iconst X0 hx (pc' := 77) (1 : Int32) (hb hby d11_76) rfl rfl ?_
            refine own_iushr X0 hx (pc' := 78) (hb hby d11_77) rfl ?_
            refine own_iadd X0 hx (pc' := 79) (hb hby d11_78) rfl rfl ?_
            refine own_retI X0 hx hlk hret (hb hby d11_79) (by decide) (by decide) ?_
            exact ⟨by simp only [own_nI, own_n1, own_n2, own_n3, own_n4, own_ush, hc9_1, hc23_2, hc38_10, hc52_11, hc64_12, if_true, if_false] <;> rfl, N0, e0⟩
        · skip
          refine own_icmpYes X0 hx (pc' := 62) (hb hby d11_52) (flt hc52_11).2.2.2 (by decide) (by decide) ?_
          refine own_iloadN X0 hx (pc' := 63) (hb hby d11_62) rfl rfl ?_
          refine own_iconst X0 hx (pc' := 64) (4 : Int32) (hb hby d11_63) rfl rfl ?_
          by_cases hc64_13 : (4 : Int32) < ((((q0 ^^^ (-1 : Int32)) &&& (q0 - (1 : Int32))).toUInt32 >>> ((8 : Int32) &&& 31).toUInt32).toInt32)
          · skip
            refine own_icmpNo X0 hx (pc' := 67) (hb hby d11_64) (tlt hc64_13).2.2.2 rfl ?_
            refine own_iinc X0 hx (pc' := 70) (Ls' := #[.val (.int ((((q0 ^^^ (-1 : Int32)) &&& (q0 - (1 : Int32))).toUInt32 >>> ((8 : Int32) &&& 31).toUInt32).toInt32)), .val (.int (11 : Int32))]) (hb hby d11_67) rfl rfl rfl ?_
            refine own_iloadN X0 hx (pc' := 71) (hb hby d11_70) rfl rfl ?_
            refine own_iconst X0 hx (pc' := 72) (2 : Int32) (hb hby d11_71) rfl rfl ?_
            refine own_iushr X0 hx (pc' := 73) (hb hby d11_72) rfl ?_
            refine own_istoreN X0 hx (pc' := 74) (Ls' := #[.val (.int ((((((q0 ^^^ (-1 : Int32)) &&& (q0 - (1 : Int32))).toUInt32 >>> ((8 : Int32) &&& 31).toUInt32).toInt32).toUInt32 >>> ((2 : Int32) &&& 31).toUInt32).toInt32)), .val (.int (11 : Int32))]) (hb hby d11_73) rfl rfl ?_
            refine own_iloadN X0 hx (pc' := 75) (hb hby d11_74) rfl rfl ?_
            refine own_iloadN X0 hx (pc' := 76) (hb hby d11_75) rfl rfl ?_
            refine own_iconst X0 hx (pc' := 77) (1 : Int32) (hb hby d11_76) rfl rfl ?_
            refine own_iushr X0 hx (pc' := 78) (hb hby d11_77) rfl ?_
            refine own_iadd X0 hx (pc' := 79) (hb hby d11_78) rfl rfl ?_
            refine own_retI X0 hx hlk hret (hb hby d11_79) (by decide) (by decide) ?_
            exact ⟨by simp only [own_nI, own_n1, own_n2, own_n3, own_n4, own_ush, hc9_1, hc23_2, hc38_10, hc52_11, hc64_13, if_true, if_false] <;> rfl, N0, e0⟩
          · skip
            refine own_icmpYes X0 hx (pc' := 74) (hb hby d11_64) (flt hc64_13).2.2.2 (by decide) (by decide) ?_
            refine own_iloadN X0 hx (pc' := 75) (hb hby d11_74) rfl rfl ?_
            refine own_iloadN X0 hx (pc' := 76) (hb hby d11_75) rfl rfl ?_
            refine own_iconst X0 hx (pc' := 77) (1 : Int32) (hb hby d11_76) rfl rfl ?_
            refine own_iushr X0 hx (pc' := 78) (hb hby d11_77) rfl ?_
            refine own_iadd X0 hx (pc' := 79) (hb hby d11_78) rfl rfl ?_
            refine own_retI X0 hx hlk hret (hb hby d11_79) (by decide) (by decide) ?_
            exact ⟨by simp only [own_nI, own_n1, own_n2, own_n3, own_n4, own_ush, hc9_1, hc23_2, hc38_10, hc52_11, hc64_13, if_true, if_false] <;> rfl, N0, e0⟩
      · skip
        refine own_icmpYes X0 hx (pc' := 49) (hb hby d11_38) (flt hc38_10).2.2.2 (by decide) (by decide) ?_
        refine own_iloadN X0 hx (pc' := 50) (hb hby d11_49) rfl rfl ?_
        refine own_bipush X0 hx (pc' := 52) (16 : Int32) (hb hby d11_50) rfl rfl ?_
        by_cases hc52_14 : (16 : Int32) < ((q0 ^^^ (-1 : Int32)) &&& (q0 - (1 : Int32)))
        · skip
          refine own_icmpNo X0 hx (pc' := 55) (hb hby d11_52) (tlt hc52_14).2.2.2 rfl ?_
          refine own_iinc X0 hx (pc' := 58) (Ls' := #[.val (.int ((q0 ^^^ (-1 : Int32)) &&& (q0 - (1 : Int32)))), .val (.int (5 : Int32))]) (hb hby d11_55) rfl rfl rfl ?_
          refine own_iloadN X0 hx (pc' := 59) (hb hby d11_58) rfl rfl ?_
          refine own_iconst X0 hx (pc' := 60) (4 : Int32) (hb hby d11_59) rfl rfl ?_
          refine own_iushr X0 hx (pc' := 61) (hb hby d11_60) rfl ?_
          refine own_istoreN X0 hx (pc' := 62) (Ls' := #[.val (.int ((((q0 ^^^ (-1 : Int32)) &&& (q0 - (1 : Int32))).toUInt32 >>> ((4 : Int32) &&& 31).toUInt32).toInt32)), .val (.int (5 : Int32))]) (hb hby d11_61) rfl rfl ?_
          refine own_iloadN X0 hx (pc' := 63) (hb hby d11_62) rfl rfl ?_
          refine own_iconst X0 hx (pc' := 64) (4 : Int32) (hb hby d11_63) rfl rfl ?_
          by_cases hc64_15 : (4 : Int32) < ((((q0 ^^^ (-1 : Int32)) &&& (q0 - (1 : Int32))).toUInt32 >>> ((4 : Int32) &&& 31).toUInt32).toInt32)
          · skip
            refine own_icmpNo X0 hx (pc' := 67) (hb hby d11_64) (tlt hc64_15).2.2.2 rfl ?_
            refine own_iinc X0 hx (pc' := 70) (Ls' := #[.val (.int ((((q0 ^^^ (-1 : Int32)) &&& (q0 - (1 : Int32))).toUInt32 >>> ((4 : Int32) &&& 31).toUInt32).toInt32)), .val (.int (7 : Int32))]) (hb hby d11_67) rfl rfl rfl ?_
            refine own_iloadN X0 hx (pc' := 71) (hb hby d11_70) rfl rfl ?_
            refine own_iconst X0 hx (pc' := 72) (2 : Int32) (hb hby d11_71) rfl rfl ?_
            refine own_iushr X0 hx (pc' := 73) (hb hby d11_72) rfl ?_
            refine own_istoreN X0 hx (pc' := 74) (Ls' := #[.val (.int ((((((q0 ^^^ (-1 : Int32)) &&& (q0 - (1 : Int32))).toUInt32 >>> ((4 : Int32) &&& 31).toUInt32).toInt32).toUInt32 >>> ((2 : Int32) &&& 31).toUInt32).toInt32)), .val (.int (7 : Int32))]) (hb hby d11_73) rfl rfl ?_
            refine own_iloadN X0 hx (pc' := 75) (hb hby d11_74) rfl rfl ?_
            refine own_iloadN X0 hx (pc' := 76) (hb hby d11_75) rfl rfl ?_
            refine own_iconst X0 hx (pc' := 77) (1 : Int32) (hb hby d11_76) rfl rfl ?_
            refine own_iushr X0 hx (pc' := 78) (hb hby d11_77) rfl ?_
            refine own_iadd X0 hx (pc' := 79) (hb hby d11_78) rfl rfl ?_
            refine own_retI X0 hx hlk hret (hb hby d11_79) (by decide) (by decide) ?_
            exact ⟨by simp only [own_nI, own_n1, own_n2, own_n3, own_n4, own_ush, hc9_1, hc23_2, hc38_10, hc52_14, hc64_15, if_true, if_false] <;> rfl, N0, e0⟩
          · skip
            refine own_icmpYes X0 hx (pc' := 74) (hb hby d11_64) (flt hc64_15).2.2.2 (by decide) (by decide) ?_
            refine own_iloadN X0 hx (pc' := 75) (hb hby d11_74) rfl rfl ?_
            refine own_iloadN X0 hx (pc' := 76) (hb hby d11_75) rfl rfl ?_
            refine own_iconst X0 hx (pc' := 77) (1 : Int32) (hb hby d11_76) rfl rfl ?_
            refine own_iushr X0 hx (pc' := 78) (hb hby d11_77) rfl ?_
            refine own_iadd X0 hx (pc' := 79) (hb hby d11_78) rfl rfl ?_
            refine own_retI X0 hx hlk hret (hb hby d11_79) (by decide) (by decide) ?_
            exact ⟨by simp only [own_nI, own_n1, own_n2, own_n3, own_n4, own_ush, hc9_1, hc23_2, hc38_10, hc52_14, hc64_15, if_true, if_false] <;> rfl, N0, e0⟩
        · skip
          refine own_icmpYes X0 hx (pc' := 62) (hb hby d11_52) (flt hc52_14).2.2.2 (by decide) (by decide) ?_
          refine own_iloadN X0 hx (pc' := 63) (hb hby d11_62) rfl rfl ?_
          refine own_iconst X0 hx (pc' := 64) (4 : Int32) (hb hby d11_63) rfl rfl ?_
          by_cases hc64_16 : (4 : Int32) < ((q0 ^^^ (-1 : Int32)) &&& (q0 - (1 : Int32)))
          · skip
            refine own_icmpNo X0 hx (pc' := 67) (hb hby d11_64) (tlt hc64_16).2.2.2 rfl ?_
            refine own_iinc X0 hx (pc' := 70) (Ls' := #[.val (.int ((q0 ^^^ (-1 : Int32)) &&& (q0 - (1 : Int32)))), .val (.int (3 : Int32))]) (hb hby d11_67) rfl rfl rfl ?_
            refine own_iloadN X0 hx (pc' := 71) (hb hby d11_70) rfl rfl ?_
            refine own_iconst X0 hx (pc' := 72) (2 : Int32) (hb hby d11_71) rfl rfl ?_
            refine own_iushr X0 hx (pc' := 73) (hb hby d11_72) rfl ?_
            refine own_istoreN X0 hx (pc' := 74) (Ls' := #[.val (.int ((((q0 ^^^ (-1 : Int32)) &&& (q0 - (1 : Int32))).toUInt32 >>> ((2 : Int32) &&& 31).toUInt32).toInt32)), .val (.int (3 : Int32))]) (hb hby d11_73) rfl rfl ?_
            refine own_iloadN X0 hx (pc' := 75) (hb hby d11_74) rfl rfl ?_
            refine own_iloadN X0 hx (pc' := 76) (hb hby d11_75) rfl rfl ?_
            refine own_iconst X0 hx (pc' := 77) (1 : Int32) (hb hby d11_76) rfl rfl ?_
            refine own_iushr X0 hx (pc' := 78) (hb hby d11_77) rfl ?_
            refine own_iadd X0 hx (pc' := 79) (hb hby d11_78) rfl rfl ?_
            refine own_retI X0 hx hlk hret (hb hby d11_79) (by decide) (by decide) ?_
            exact ⟨by simp only [own_nI, own_n1, own_n2, own_n3, own_n4, own_ush, hc9_1, hc23_2, hc38_10, hc52_14, hc64_16, if_true, if_false] <;> rfl, N0, e0⟩
          · skip
            refine own_icmpYes X0 hx (pc' := 74) (hb hby d11_64) (flt hc64_16).2.2.2 (by decide) (by decide) ?_
            refine own_iloadN X0 hx (pc' := 75) (hb hby d11_74) rfl rfl ?_
            refine own_iloadN X0 hx (pc' := 76) (hb hby d11_75) rfl rfl ?_
            refine own_iconst X0 hx (pc' := 77) (1 : Int32) (hb hby d11_76) rfl rfl ?_
            refine own_iushr X0 hx (pc' := 78) (hb hby d11_77) rfl ?_
            refine own_iadd X0 hx (pc' := 79) (hb hby d11_78) rfl rfl ?_
            refine own_retI X0 hx hlk hret (hb hby d11_79) (by decide) (by decide) ?_
            exact ⟨by simp only [own_nI, own_n1, own_n2, own_n3, own_n4, own_ush, hc9_1, hc23_2, hc38_10, hc52_14, hc64_16, if_true, if_false] <;> rfl, N0, e0⟩
  · skip
    refine own_ifNo X0 hx (pc' := 12) (hb hby d11_9) (flt hc9_1).2.2.1 rfl ?_
    refine own_iloadN X0 hx (pc' := 13) (hb hby d11_12) rfl rfl ?_
    refine own_bipush X0 hx (pc' := 15) (32 : Int32) (hb hby d11_13) rfl rfl ?_
    refine own_iand X0 hx (pc' := 16) (hb hby d11_15) rfl rfl ?_
    refine own_retI X0 hx hlk hret (hb hby d11_16) (by decide) (by decide) ?_
    exact ⟨by simp only [own_nI, own_n1, own_n2, own_n3, own_n4, own_ush, hc9_1, if_true, if_false] <;> rfl, N0, e0⟩

theorem d10_0 : decode jdk_35_method_49_code 0 = .ok (.lload_n 0, 1) := by decide +kernel
theorem d10_1 : decode jdk_35_method_49_code 1 = .ok (.l2i, 1) := by decide +kernel
theorem d10_2 : decode jdk_35_method_49_code 2 = .ok (.istore_n 2, 1) := by decide +kernel
theorem d10_3 : decode jdk_35_method_49_code 3 = .ok (.iload_n 2, 1) := by decide +kernel
theorem d10_4 : decode jdk_35_method_49_code 4 = .ok (.ifCond .ne 17, 3) := by decide +kernel
theorem d10_7 : decode jdk_35_method_49_code 7 = .ok (.bipush 32, 2) := by decide +kernel
theorem d10_9 : decode jdk_35_method_49_code 9 = .ok (.lload_n 0, 1) := by decide +kernel
theorem d10_10 : decode jdk_35_method_49_code 10 = .ok (.bipush 32, 2) := by decide +kernel
theorem d10_12 : decode jdk_35_method_49_code 12 = .ok (.lushr, 1) := by decide +kernel
theorem d10_13 : decode jdk_35_method_49_code 13 = .ok (.l2i, 1) := by decide +kernel
theorem d10_14 : decode jdk_35_method_49_code 14 = .ok (.invokestatic 311, 3) := by decide +kernel
theorem d10_17 : decode jdk_35_method_49_code 17 = .ok (.iadd, 1) := by decide +kernel
theorem d10_18 : decode jdk_35_method_49_code 18 = .ok (.goto 7, 3) := by decide +kernel
theorem d10_21 : decode jdk_35_method_49_code 21 = .ok (.iload_n 2, 1) := by decide +kernel
theorem d10_22 : decode jdk_35_method_49_code 22 = .ok (.invokestatic 311, 3) := by decide +kernel
theorem d10_25 : decode jdk_35_method_49_code 25 = .ok (.ireturn, 1) := by decide +kernel
def QnL (x : Int64) (h0 : Heap) (n0 : Nat) (v : Option Value) (h : Heap) (L : List Loc) : Prop := v = some (.int (own_nL x)) ∧ Fr n0 L ∧ h = h0
theorem ef_rm_nL (m : MethodId) (x0 : Int64) : entryFrame m #[(.long x0)] 3 = mkF m 0 #[.val (.long x0), .second, .unset] [] := by first | (simp [entryFrame, mkF, argsToLocals, Value.category, maxLocals]; done) | rfl
theorem pf_8 : plainFor (⟨"java/lang/Long", "numberOfTrailingZeros", "(J)I"⟩ : MethodName) = true := by apply plainFor_of_name; first | (simp [plainName, overriddenIn]; done) | decide +kernel
theorem Wd57 {a0 : Array Value} {Z : State} (hw : ∀ d ∈ tables_1, d.before a0 Z = true) : (Jvm.Cond.code ({ cls := "java/lang/Integer", name := "numberOfTrailingZeros", desc := "(I)I" } : Jvm.MethodName) jdk_33_method_48_code (2 : Nat) (Option.some Jvm.ClassFile.FieldType.int)).before a0 Z = true := hw _ (List.mem_of_getElem? (i := 57) rfl)
theorem Wd56 {a0 : Array Value} {Z : State} (hw : ∀ d ∈ tables_1, d.before a0 Z = true) : (Jvm.Cond.initialized "java/lang/Integer").before a0 Z = true := hw _ (List.mem_of_getElem? (i := 56) rfl)
theorem pd_1 : parseMethodDescriptor "(I)I" = some ⟨[.int], some .int⟩ := by decide +kernel
theorem Wd54 {a0 : Array Value} {Z : State} (hw : ∀ d ∈ tables_1, d.before a0 Z = true) : (Jvm.Cond.methodLink "java/lang/Long" (311 : Nat) ({ cls := "java/lang/Integer", name := "numberOfTrailingZeros", desc := "(I)I" } : Jvm.MethodName)).before a0 Z = true := hw _ (List.mem_of_getElem? (i := 54) rfl)
theorem Wd55 {a0 : Array Value} {Z : State} (hw : ∀ d ∈ tables_1, d.before a0 Z = true) : (Jvm.Cond.static ({ cls := "java/lang/Integer", name := "numberOfTrailingZeros", desc := "(I)I" } : Jvm.MethodName)).before a0 Z = true := hw _ (List.mem_of_getElem? (i := 55) rfl)
set_option maxRecDepth 65536 in
set_option maxHeartbeats 40000000 in
theorem rm_nL (l : Launch) (Z : State) (a0 : Array Value) (hw : ∀ d ∈ tables_1, d.before a0 Z = true) (ws : List Jvm.Cond) (q0 : Int64) (h0 : Heap) (n0 : Nat) (Z0 : n0 ≤ h0.size)  :
    MetFree l (⟨"java/lang/Long", "numberOfTrailingZeros", "(J)I"⟩ : MethodName) (head1 (Jvm.Cond.code (⟨"java/lang/Long", "numberOfTrailingZeros", "(J)I"⟩ : MethodName) jdk_35_method_49_code 3 (some .int) :: ws) ({ frames := 1, cells := 0, slots := 0, locals := 14 } : Room)) (fun aa U => aa = #[(.long q0)] ∧ Z.Warmed39 U.vm ∧ U.heap = h0) (fun _ _ _ _ _ => True) (fun _ U o U' => ∃ v L, o = .returned v ∧ QnL q0 h0 n0 v U'.heap L ∧ FrameEnd U o U' L (({ frames := 1, cells := 0, slots := 0, locals := 14 } : Room).cells) (({ frames := 1, cells := 0, slots := 0, locals := 14 } : Room).slots)) := by
  refine own_body pf_8 ?_
  intro p e s m below meth c s₁ hx hby hml hown hnm hlk hret hZ X0 e0
  have N0 : Fr n0 [] := Fr.nil n0
  refine own_go (f' := (mkF m 0 #[.val (.long q0), .second, .unset] [])) (fun t k => castTop (ef_rm_nL m q0) k) ?_
  refine own_lloadN X0 hx (pc' := 1) (hb hby d10_0) rfl rfl ?_
  refine own_l2i X0 hx (pc' := 2) (hb hby d10_1) rfl ?_
  refine own_istoreN X0 hx (pc' := 3) (Ls' := #[.val (.long q0), .second, .val (.int (q0.toInt32))]) (hb hby d10_2) rfl rfl ?_
  refine own_iloadN X0 hx (pc' := 4) (hb hby d10_3) rfl rfl ?_
  by_cases hc4_1 : (q0.toInt32) = (0 : Int32)
  · skip
    refine own_ifNo X0 hx (pc' := 7) (hb hby d10_4) (teq hc4_1).2 rfl ?_
    refine own_bipush X0 hx (pc' := 9) (32 : Int32) (hb hby d10_7) rfl rfl ?_
    refine own_lloadN X0 hx (pc' := 10) (hb hby d10_9) rfl rfl ?_
    refine own_bipush X0 hx (pc' := 12) (32 : Int32) (hb hby d10_10) rfl rfl ?_
    refine own_lushr X0 hx (pc' := 13) (hb hby d10_12) rfl ?_
    refine own_l2i X0 hx (pc' := 14) (hb hby d10_13) rfl ?_
    refine own_callS X0 hx (pc' := 17) hZ hown (Wd54 hw) (Wd55 hw) (Wd56 hw) (Wd57 hw) (by decide) (rm_nI l Z a0 hw [] (((q0.toUInt64 >>> ((32 : Int32) &&& 0x3f).toInt64.toUInt64).toInt64).toInt32) h0 n0 Z0) e0 1 (by decide) (by decide) (by decide) (by decide) [(.int (((q0.toUInt64 >>> ((32 : Int32) &&& 0x3f).toInt64.toUInt64).toInt64).toInt32))] [(.int (32 : Int32))] (by rw [hml]; rfl) (lenOf pd_1 rfl) rfl rfl (Nat.le_of_eq rfl) (hb hby d10_14) rfl (fun v2 T2 L2 X2 hQ2 => ?_)
    obtain ⟨rfl, Nq2, e2⟩ := hQ2
    have N3 := Fr.app N0 Nq2
    show own_G p.tables e below _ T2 (mkF m 17 #[.val (.long q0), .second, .val (.int (q0.toInt32))] [(.int (own_nI (((q0.toUInt64 >>> ((32 : Int32) &&& 0x3f).toInt64.toUInt64).toInt64).toInt32))), (.int (32 : Int32))])
    refine own_iadd X2 hx (pc' := 18) (hb hby d10_17) rfl rfl ?_
    refine own_goto X2 hx (pc' := 25) (hb hby d10_18) (by decide) (by decide) ?_
    refine own_retI X2 hx hlk hret (hb hby d10_25) (by decide) (by decide) ?_
    exact ⟨by simp only [own_nL, hc4_1, if_true, if_false], N3, e2⟩
  · skip
    refine own_ifYes X0 hx (pc' := 21) (hb hby d10_4) (feq hc4_1).2 (by decide) (by decide) ?_
    refine own_iloadN X0 hx (pc' := 22) (hb hby d10_21) rfl rfl ?_
    refine own_callS X0 hx (pc' := 25) hZ hown (Wd54 hw) (Wd55 hw) (Wd56 hw) (Wd57 hw) (by decide) (rm_nI l Z a0 hw [] (q0.toInt32) h0 n0 Z0) e0 0 (by decide) (by decide) (by decide) (by decide) [(.int (q0.toInt32))] [] (by rw [hml]; rfl) (lenOf pd_1 rfl) rfl rfl (Nat.le_of_eq rfl) (hb hby d10_22) rfl (fun v4 T4 L4 X4 hQ4 => ?_)
    obtain ⟨rfl, Nq4, e4⟩ := hQ4
    have N5 := Fr.app N0 Nq4
    show own_G p.tables e below _ T4 (mkF m 25 #[.val (.long q0), .second, .val (.int (q0.toInt32))] [(.int (own_nI (q0.toInt32)))])
    refine own_retI X4 hx hlk hret (hb hby d10_25) (by decide) (by decide) ?_
    exact ⟨by simp only [own_nL, hc4_1, if_true, if_false], N5, e4⟩

theorem d9_0 : decode prog_49_method_6_code 0 = .ok (.iload_n 1, 1) := by decide +kernel
theorem d9_1 : decode prog_49_method_6_code 1 = .ok (.aload_n 0, 1) := by decide +kernel
theorem d9_2 : decode prog_49_method_6_code 2 = .ok (.getfield 19, 3) := by decide +kernel
theorem d9_5 : decode prog_49_method_6_code 5 = .ok (.isub, 1) := by decide +kernel
theorem d9_6 : decode prog_49_method_6_code 6 = .ok (.istore_n 2, 1) := by decide +kernel
theorem d9_7 : decode prog_49_method_6_code 7 = .ok (.iload_n 2, 1) := by decide +kernel
theorem d9_8 : decode prog_49_method_6_code 8 = .ok (.bipush 6, 2) := by decide +kernel
theorem d9_10 : decode prog_49_method_6_code 10 = .ok (.iushr, 1) := by decide +kernel
theorem d9_11 : decode prog_49_method_6_code 11 = .ok (.istore_n 3, 1) := by decide +kernel
theorem d9_12 : decode prog_49_method_6_code 12 = .ok (.iload_n 3, 1) := by decide +kernel
theorem d9_13 : decode prog_49_method_6_code 13 = .ok (.aload_n 0, 1) := by decide +kernel
theorem d9_14 : decode prog_49_method_6_code 14 = .ok (.getfield 15, 3) := by decide +kernel
theorem d9_17 : decode prog_49_method_6_code 17 = .ok (.arraylength, 1) := by decide +kernel
theorem d9_18 : decode prog_49_method_6_code 18 = .ok (.if_icmp .ne 5, 3) := by decide +kernel
theorem d9_21 : decode prog_49_method_6_code 21 = .ok (.iconst (-1), 1) := by decide +kernel
theorem d9_22 : decode prog_49_method_6_code 22 = .ok (.ireturn, 1) := by decide +kernel
theorem d9_23 : decode prog_49_method_6_code 23 = .ok (.aload_n 0, 1) := by decide +kernel
theorem d9_24 : decode prog_49_method_6_code 24 = .ok (.getfield 15, 3) := by decide +kernel
theorem d9_27 : decode prog_49_method_6_code 27 = .ok (.iload_n 3, 1) := by decide +kernel
theorem d9_28 : decode prog_49_method_6_code 28 = .ok (.laload, 1) := by decide +kernel
theorem d9_29 : decode prog_49_method_6_code 29 = .ok (.ldc2_w 41, 3) := by decide +kernel
theorem d9_32 : decode prog_49_method_6_code 32 = .ok (.iload_n 2, 1) := by decide +kernel
theorem d9_33 : decode prog_49_method_6_code 33 = .ok (.lshl, 1) := by decide +kernel
theorem d9_34 : decode prog_49_method_6_code 34 = .ok (.land, 1) := by decide +kernel
theorem d9_35 : decode prog_49_method_6_code 35 = .ok (.lstore 4, 2) := by decide +kernel
theorem d9_37 : decode prog_49_method_6_code 37 = .ok (.lload 4, 2) := by decide +kernel
theorem d9_39 : decode prog_49_method_6_code 39 = .ok (.lconst 0, 1) := by decide +kernel
theorem d9_40 : decode prog_49_method_6_code 40 = .ok (.lcmp, 1) := by decide +kernel
theorem d9_41 : decode prog_49_method_6_code 41 = .ok (.ifCond .ne 28, 3) := by decide +kernel
theorem d9_44 : decode prog_49_method_6_code 44 = .ok (.iinc 3 1, 3) := by decide +kernel
theorem d9_47 : decode prog_49_method_6_code 47 = .ok (.iload_n 3, 1) := by decide +kernel
theorem d9_48 : decode prog_49_method_6_code 48 = .ok (.aload_n 0, 1) := by decide +kernel
theorem d9_49 : decode prog_49_method_6_code 49 = .ok (.getfield 15, 3) := by decide +kernel
theorem d9_52 : decode prog_49_method_6_code 52 = .ok (.arraylength, 1) := by decide +kernel
theorem d9_53 : decode prog_49_method_6_code 53 = .ok (.if_icmp .ne 5, 3) := by decide +kernel
theorem d9_56 : decode prog_49_method_6_code 56 = .ok (.iconst (-1), 1) := by decide +kernel
theorem d9_57 : decode prog_49_method_6_code 57 = .ok (.ireturn, 1) := by decide +kernel
theorem d9_58 : decode prog_49_method_6_code 58 = .ok (.aload_n 0, 1) := by decide +kernel
theorem d9_59 : decode prog_49_method_6_code 59 = .ok (.getfield 15, 3) := by decide +kernel
theorem d9_62 : decode prog_49_method_6_code 62 = .ok (.iload_n 3, 1) := by decide +kernel
theorem d9_63 : decode prog_49_method_6_code 63 = .ok (.laload, 1) := by decide +kernel
theorem d9_64 : decode prog_49_method_6_code 64 = .ok (.lstore 4, 2) := by decide +kernel
theorem d9_66 : decode prog_49_method_6_code 66 = .ok (.goto (-29), 3) := by decide +kernel
theorem d9_69 : decode prog_49_method_6_code 69 = .ok (.aload_n 0, 1) := by decide +kernel
theorem d9_70 : decode prog_49_method_6_code 70 = .ok (.getfield 19, 3) := by decide +kernel
theorem d9_73 : decode prog_49_method_6_code 73 = .ok (.iload_n 3, 1) := by decide +kernel
theorem d9_74 : decode prog_49_method_6_code 74 = .ok (.bipush 64, 2) := by decide +kernel
theorem d9_76 : decode prog_49_method_6_code 76 = .ok (.imul, 1) := by decide +kernel
theorem d9_77 : decode prog_49_method_6_code 77 = .ok (.iadd, 1) := by decide +kernel
theorem d9_78 : decode prog_49_method_6_code 78 = .ok (.lload 4, 2) := by decide +kernel
theorem d9_80 : decode prog_49_method_6_code 80 = .ok (.invokestatic 43, 3) := by decide +kernel
theorem d9_83 : decode prog_49_method_6_code 83 = .ok (.iadd, 1) := by decide +kernel
theorem d9_84 : decode prog_49_method_6_code 84 = .ok (.ireturn, 1) := by decide +kernel
def Qnext (x : Int32) (h0 : Heap) (n0 : Nat) (v : Option Value) (h : Heap) (L : List Loc) : Prop := v = some (.int x) ∧ Fr n0 L ∧ h = h0
theorem ef_rm_next (m : MethodId) (x0 : Addr) (x1 : Int32) : entryFrame m #[(.ref x0), (.int x1)] 6 = mkF m 0 #[.val (.ref x0), .val (.int x1), .unset, .unset, .unset, .unset] [] := by first | (simp [entryFrame, mkF, argsToLocals, Value.category, maxLocals]; done) | rfl
theorem pf_9 : plainFor (⟨"com/example/mixed_likelihood/mixedlikelihood/search/GainWindow", "nextHolding", "(I)I"⟩ : MethodName) = true := by apply plainFor_of_name; first | (simp [plainName, overriddenIn]; done) | decide +kernel
theorem Wd53 {a0 : Array Value} {Z : State} (hw : ∀ d ∈ tables_1, d.before a0 Z = true) : (Jvm.Cond.code ({ cls := "java/lang/Long", name := "numberOfTrailingZeros", desc := "(J)I" } : Jvm.MethodName) jdk_35_method_49_code (3 : Nat) (Option.some Jvm.ClassFile.FieldType.int)).before a0 Z = true := hw _ (List.mem_of_getElem? (i := 53) rfl)
theorem Wd52 {a0 : Array Value} {Z : State} (hw : ∀ d ∈ tables_1, d.before a0 Z = true) : (Jvm.Cond.initialized "java/lang/Long").before a0 Z = true := hw _ (List.mem_of_getElem? (i := 52) rfl)
theorem pd_2 : parseMethodDescriptor "(J)I" = some ⟨[.long], some .int⟩ := by decide +kernel
theorem Wd50 {a0 : Array Value} {Z : State} (hw : ∀ d ∈ tables_1, d.before a0 Z = true) : (Jvm.Cond.methodLink "com/example/mixed_likelihood/mixedlikelihood/search/GainWindow" (43 : Nat) ({ cls := "java/lang/Long", name := "numberOfTrailingZeros", desc := "(J)I" } : Jvm.MethodName)).before a0 Z = true := hw _ (List.mem_of_getElem? (i := 50) rfl)
theorem Wd51 {a0 : Array Value} {Z : State} (hw : ∀ d ∈ tables_1, d.before a0 Z = true) : (Jvm.Cond.static ({ cls := "java/lang/Long", name := "numberOfTrailingZeros", desc := "(J)I" } : Jvm.MethodName)).before a0 Z = true := hw _ (List.mem_of_getElem? (i := 51) rfl)
theorem Wd49 {a0 : Array Value} {Z : State} (hw : ∀ d ∈ tables_1, d.before a0 Z = true) : (Jvm.Cond.constantLong "com/example/mixed_likelihood/mixedlikelihood/search/GainWindow" (41 : Nat) (-1 : Int64)).before a0 Z = true := hw _ (List.mem_of_getElem? (i := 49) rfl)
set_option maxRecDepth 65536 in
set_option maxHeartbeats 40000000 in
theorem rm_next (l : Launch) (Z : State) (a0 : Array Value) (hw : ∀ d ∈ tables_1, d.before a0 Z = true) (ws : List Jvm.Cond) (gw su ho : Addr) (start : Int32) (hf : Nat → Int64) (sf : Nat → UInt64) (P : Nat) (doc : Int32) (h0 : Heap) (n0 : Nat) (Z0 : n0 ≤ h0.size) (hP : P < 4097) (hpl : doc - start = Int32.ofNat P) (F_s : Fld Z h0 gw "com/example/mixed_likelihood/mixedlikelihood/search/GainWindow" "sums" "[D" (.ref su)) (F_h : Fld Z h0 gw "com/example/mixed_likelihood/mixedlikelihood/search/GainWindow" "holding" "[J" (.ref ho)) (F_p : Fld Z h0 gw "com/example/mixed_likelihood/mixedlikelihood/search/GainWindow" "start" "I" (.int start)) (V_h : own_Ar Z h0 ho .long 64 (fun ii => .long (hf ii))) (V_s : own_Ar Z h0 su .double 4096 (fun ii => .double (sf ii))) :
    MetFree l (⟨"com/example/mixed_likelihood/mixedlikelihood/search/GainWindow", "nextHolding", "(I)I"⟩ : MethodName) (head1 (Jvm.Cond.code (⟨"com/example/mixed_likelihood/mixedlikelihood/search/GainWindow", "nextHolding", "(I)I"⟩ : MethodName) prog_49_method_6_code 6 (some .int) :: ws) ({ frames := 2, cells := 0, slots := 0, locals := 32 } : Room)) (fun aa U => aa = #[(.ref gw), (.int doc)] ∧ Z.Warmed39 U.vm ∧ U.heap = h0) (fun _ _ _ _ _ => True) (fun _ U o U' => ∃ v L, o = .returned v ∧ Qnext (own_next hf start P) h0 n0 v U'.heap L ∧ FrameEnd U o U' L (({ frames := 2, cells := 0, slots := 0, locals := 32 } : Room).cells) (({ frames := 2, cells := 0, slots := 0, locals := 32 } : Room).slots)) := by
  refine own_body pf_9 ?_
  intro p e s m below meth c s₁ hx hby hml hown hnm hlk hret hZ X0 e0
  have N0 : Fr n0 [] := Fr.nil n0
  refine own_go (f' := (mkF m 0 #[.val (.ref gw), .val (.int doc), .unset, .unset, .unset, .unset] [])) (fun t k => castTop (ef_rm_next m gw doc) k) ?_
  have J37 : ∀ (k i : Nat) (bits : Int64) (TJ : State) (locsJ : List Loc) (XJ : Stand p l e ({ frames := 2, cells := 0, slots := 0, locals := 32 } : Room) s m #[(.ref gw), (.int doc)] below meth c TJ locsJ 0 0) (eJ : TJ.heap = h0) (NJ : Fr n0 locsJ) (hik : i + k = 63), own_G p.tables e below (own_P s (Qnext (own_scan hf start k i bits) h0 n0) 0 0) TJ (mkF m 37 #[.val (.ref gw), .val (.int doc), .val (.int (Int32.ofNat P)), .val (.int (Int32.ofNat i)), .val (.long bits), .second] []) := by
    intro k
    induction k with
    | zero =>
      intro i bits TJ locsJ XJ eJ NJ hik
      obtain rfl : i = 63 := by omega
      by_cases hb0 : bits = (0 : Int64)
      · skip
        have hsc : own_scan hf start 0 63 bits = (-1 : Int32) := by rw [own_scan, if_pos hb0]
        rw [hsc]
        have hni : (Int32.ofNat (63 + 1)) = (64 : Int32) := by decide
        refine own_lload XJ hx (pc' := 39) (hb hby d9_37) rfl rfl ?_
        refine own_lconst XJ hx (pc' := 40) (0 : Int64) (hb hby d9_39) rfl rfl ?_
        refine own_lcmp XJ hx (pc' := 41) (hb hby d9_40) rfl ?_
        refine own_ifNo XJ hx (pc' := 44) (hb hby d9_41) (teq ((lw_eq bits (0 : Int64)).mpr hb0)).2 rfl ?_
        refine own_iinc XJ hx (pc' := 47) (Ls' := #[.val (.ref gw), .val (.int doc), .val (.int (Int32.ofNat P)), .val (.int ((Int32.ofNat 63) + (1 : Int32))), .val (.long bits), .second]) (hb hby d9_44) rfl rfl rfl ?_
        rw [show ((Int32.ofNat 63) + (1 : Int32)) = Int32.ofNat (63 + 1) from (Int32.ofNat_add 63 1).symm]
        refine own_iloadN XJ hx (pc' := 48) (hb hby d9_47) rfl rfl ?_
        refine own_aloadN XJ hx (pc' := 49) (hb hby d9_48) rfl rfl rfl ?_
        refine own_getF XJ hx (pc' := 52) hZ hown (host := "") (Or.inl (Wd21 hw)) Via.refl eJ F_h (hb hby d9_49) rfl (fun T1 X1 e1 => ?_)
        obtain ⟨cl2, Ar2, S2, H2⟩ := id V_h
        refine own_len X1 hx (pc' := 53) hZ e1 Ar2 (S2.trans (by decide)) (z := (64 : Int32)) (by decide) (hb hby d9_52) rfl ?_
        refine own_icmpNo X1 hx (pc' := 56) (hb hby d9_53) (teq hni).2 rfl ?_
        refine own_iconst X1 hx (pc' := 57) (-1 : Int32) (hb hby d9_56) rfl rfl ?_
        refine own_retI X1 hx hlk hret (hb hby d9_57) (by decide) (by decide) ?_
        exact ⟨rfl, NJ, e1⟩
      · skip
        have hsc : own_scan hf start 0 63 bits = own_hit start 63 bits := by rw [own_scan, if_neg hb0]
        rw [hsc]
        refine own_lload XJ hx (pc' := 39) (hb hby d9_37) rfl rfl ?_
        refine own_lconst XJ hx (pc' := 40) (0 : Int64) (hb hby d9_39) rfl rfl ?_
        refine own_lcmp XJ hx (pc' := 41) (hb hby d9_40) rfl ?_
        refine own_ifYes XJ hx (pc' := 69) (hb hby d9_41) (feq (fun q => hb0 ((lw_eq bits (0 : Int64)).mp q))).2 (by decide) (by decide) ?_
        refine own_aloadN XJ hx (pc' := 70) (hb hby d9_69) rfl rfl rfl ?_
        refine own_getF XJ hx (pc' := 73) hZ hown (host := "") (Or.inl (Wd28 hw)) Via.refl eJ F_p (hb hby d9_70) rfl (fun T3 X3 e3 => ?_)
        refine own_iloadN X3 hx (pc' := 74) (hb hby d9_73) rfl rfl ?_
        refine own_bipush X3 hx (pc' := 76) (64 : Int32) (hb hby d9_74) rfl rfl ?_
        refine own_imul X3 hx (pc' := 77) (hb hby d9_76) rfl rfl ?_
        refine own_iadd X3 hx (pc' := 78) (hb hby d9_77) rfl rfl ?_
        refine own_lload X3 hx (pc' := 80) (hb hby d9_78) rfl rfl ?_
        refine own_callS X3 hx (pc' := 83) hZ hown (Wd50 hw) (Wd51 hw) (Wd52 hw) (Wd53 hw) (by decide) (rm_nL l Z a0 hw [] bits h0 n0 Z0) e3 1 (by decide) (by decide) (by decide) (by decide) [(.long bits)] [(.int (start + ((Int32.ofNat 63) * (64 : Int32))))] (by rw [hml]; rfl) (lenOf pd_2 rfl) rfl rfl (Nat.le_of_eq rfl) (hb hby d9_80) rfl (fun v4 T4 L4 X4 hQ4 => ?_)
        obtain ⟨rfl, Nq4, e4⟩ := hQ4
        have N5 := Fr.app NJ Nq4
        show own_G p.tables e below _ T4 (mkF m 83 #[.val (.ref gw), .val (.int doc), .val (.int (Int32.ofNat P)), .val (.int (Int32.ofNat 63)), .val (.long bits), .second] [(.int (own_nL bits)), (.int (start + ((Int32.ofNat 63) * (64 : Int32))))])
        refine own_iadd X4 hx (pc' := 84) (hb hby d9_83) rfl rfl ?_
        refine own_retI X4 hx hlk hret (hb hby d9_84) (by decide) (by decide) ?_
        exact ⟨rfl, N5, e4⟩
    | succ k ih =>
      intro i bits TJ locsJ XJ eJ NJ hik
      by_cases hb0 : bits = (0 : Int64)
      · skip
        have hsc : own_scan hf start (k + 1) i bits = own_scan hf start k (i + 1) (hf (i + 1)) := by rw [own_scan, if_pos hb0]
        rw [hsc]
        have hni : ¬ (Int32.ofNat (i + 1)) = (64 : Int32) := by rw [← Int32.toInt_inj, own_on (by omega), own_t32_64]; omega
        have hcl := own_clamp (n := i + 1) (by omega)
        have hil : i + 1 < 64 := by omega
        refine own_lload XJ hx (pc' := 39) (hb hby d9_37) rfl rfl ?_
        refine own_lconst XJ hx (pc' := 40) (0 : Int64) (hb hby d9_39) rfl rfl ?_
        refine own_lcmp XJ hx (pc' := 41) (hb hby d9_40) rfl ?_
        refine own_ifNo XJ hx (pc' := 44) (hb hby d9_41) (teq ((lw_eq bits (0 : Int64)).mpr hb0)).2 rfl ?_
        refine own_iinc XJ hx (pc' := 47) (Ls' := #[.val (.ref gw), .val (.int doc), .val (.int (Int32.ofNat P)), .val (.int ((Int32.ofNat i) + (1 : Int32))), .val (.long bits), .second]) (hb hby d9_44) rfl rfl rfl ?_
        rw [show ((Int32.ofNat i) + (1 : Int32)) = Int32.ofNat (i + 1) from (Int32.ofNat_add i 1).symm]
        refine own_iloadN XJ hx (pc' := 48) (hb hby d9_47) rfl rfl ?_
        refine own_aloadN XJ hx (pc' := 49) (hb hby d9_48) rfl rfl rfl ?_
        refine own_getF XJ hx (pc' := 52) hZ hown (host := "") (Or.inl (Wd21 hw)) Via.refl eJ F_h (hb hby d9_49) rfl (fun T6 X6 e6 => ?_)
        obtain ⟨cl7, Ar7, S7, H7⟩ := id V_h
        refine own_len X6 hx (pc' := 53) hZ e6 Ar7 (S7.trans (by decide)) (z := (64 : Int32)) (by decide) (hb hby d9_52) rfl ?_
        refine own_icmpYes X6 hx (pc' := 58) (hb hby d9_53) (feq hni).2 (by decide) (by decide) ?_
        refine own_aloadN X6 hx (pc' := 59) (hb hby d9_58) rfl rfl rfl ?_
        refine own_getF X6 hx (pc' := 62) hZ hown (host := "") (Or.inl (Wd21 hw)) Via.refl e6 F_h (hb hby d9_59) rfl (fun T8 X8 e8 => ?_)
        refine own_iloadN X8 hx (pc' := 63) (hb hby d9_62) rfl rfl ?_
        obtain ⟨cl9, Ar9, S9, H9⟩ := id V_h
        refine own_laload X8 hx (pc' := 64) hZ (v := (hf (i + 1))) e8 Ar9 (own_in S9 hcl.1 hcl.2 hil) (by rw [hcl.2]; exact H9 _ hil) (hb hby d9_63) rfl ?_
        refine own_lstore X8 hx (pc' := 66) (Ls' := #[.val (.ref gw), .val (.int doc), .val (.int (Int32.ofNat P)), .val (.int (Int32.ofNat (i + 1))), .val (.long (hf (i + 1))), .second]) (hb hby d9_64) rfl rfl ?_
        refine own_goto X8 hx (pc' := 37) (hb hby d9_66) (by decide) (by decide) ?_
        exact ih (i + 1) (hf (i + 1)) _ _ X8 e8 NJ (by omega)
      · skip
        have hsc : own_scan hf start (k + 1) i bits = own_hit start i bits := by rw [own_scan, if_neg hb0]
        rw [hsc]
        refine own_lload XJ hx (pc' := 39) (hb hby d9_37) rfl rfl ?_
        refine own_lconst XJ hx (pc' := 40) (0 : Int64) (hb hby d9_39) rfl rfl ?_
        refine own_lcmp XJ hx (pc' := 41) (hb hby d9_40) rfl ?_
        refine own_ifYes XJ hx (pc' := 69) (hb hby d9_41) (feq (fun q => hb0 ((lw_eq bits (0 : Int64)).mp q))).2 (by decide) (by decide) ?_
        refine own_aloadN XJ hx (pc' := 70) (hb hby d9_69) rfl rfl rfl ?_
        refine own_getF XJ hx (pc' := 73) hZ hown (host := "") (Or.inl (Wd28 hw)) Via.refl eJ F_p (hb hby d9_70) rfl (fun T10 X10 e10 => ?_)
        refine own_iloadN X10 hx (pc' := 74) (hb hby d9_73) rfl rfl ?_
        refine own_bipush X10 hx (pc' := 76) (64 : Int32) (hb hby d9_74) rfl rfl ?_
        refine own_imul X10 hx (pc' := 77) (hb hby d9_76) rfl rfl ?_
        refine own_iadd X10 hx (pc' := 78) (hb hby d9_77) rfl rfl ?_
        refine own_lload X10 hx (pc' := 80) (hb hby d9_78) rfl rfl ?_
        refine own_callS X10 hx (pc' := 83) hZ hown (Wd50 hw) (Wd51 hw) (Wd52 hw) (Wd53 hw) (by decide) (rm_nL l Z a0 hw [] bits h0 n0 Z0) e10 1 (by decide) (by decide) (by decide) (by decide) [(.long bits)] [(.int (start + ((Int32.ofNat i) * (64 : Int32))))] (by rw [hml]; rfl) (lenOf pd_2 rfl) rfl rfl (Nat.le_of_eq rfl) (hb hby d9_80) rfl (fun v11 T11 L11 X11 hQ11 => ?_)
        obtain ⟨rfl, Nq11, e11⟩ := hQ11
        have N12 := Fr.app NJ Nq11
        show own_G p.tables e below _ T11 (mkF m 83 #[.val (.ref gw), .val (.int doc), .val (.int (Int32.ofNat P)), .val (.int (Int32.ofNat i)), .val (.long bits), .second] [(.int (own_nL bits)), (.int (start + ((Int32.ofNat i) * (64 : Int32))))])
        refine own_iadd X11 hx (pc' := 84) (hb hby d9_83) rfl rfl ?_
        refine own_retI X11 hx hlk hret (hb hby d9_84) (by decide) (by decide) ?_
        exact ⟨rfl, N12, e11⟩
  refine own_iloadN X0 hx (pc' := 1) (hb hby d9_0) rfl rfl ?_
  refine own_aloadN X0 hx (pc' := 2) (hb hby d9_1) rfl rfl rfl ?_
  refine own_getF X0 hx (pc' := 5) hZ hown (host := "") (Or.inl (Wd28 hw)) Via.refl e0 F_p (hb hby d9_2) rfl (fun T13 X13 e13 => ?_)
  refine own_isub X13 hx (pc' := 6) (hb hby d9_5) rfl rfl ?_
  rw [hpl]
  refine own_istoreN X13 hx (pc' := 7) (Ls' := #[.val (.ref gw), .val (.int doc), .val (.int (Int32.ofNat P)), .unset, .unset, .unset]) (hb hby d9_6) rfl rfl ?_
  refine own_iloadN X13 hx (pc' := 8) (hb hby d9_7) rfl rfl ?_
  refine own_bipush X13 hx (pc' := 10) (6 : Int32) (hb hby d9_8) rfl rfl ?_
  refine own_iushr X13 hx (pc' := 11) (hb hby d9_10) rfl ?_
  rw [own_div2 hP]
  have c2 := own_clamp (n := P / 64) (by omega)
  refine own_istoreN X13 hx (pc' := 12) (Ls' := #[.val (.ref gw), .val (.int doc), .val (.int (Int32.ofNat P)), .val (.int (Int32.ofNat (P / 64))), .unset, .unset]) (hb hby d9_11) rfl rfl ?_
  by_cases h64 : P / 64 = 64
  · skip
    have hq : (Int32.ofNat (P / 64)) = (64 : Int32) := by rw [h64]; rfl
    refine own_iloadN X13 hx (pc' := 13) (hb hby d9_12) rfl rfl ?_
    refine own_aloadN X13 hx (pc' := 14) (hb hby d9_13) rfl rfl rfl ?_
    refine own_getF X13 hx (pc' := 17) hZ hown (host := "") (Or.inl (Wd21 hw)) Via.refl e13 F_h (hb hby d9_14) rfl (fun T14 X14 e14 => ?_)
    obtain ⟨cl15, Ar15, S15, H15⟩ := id V_h
    refine own_len X14 hx (pc' := 18) hZ e14 Ar15 (S15.trans (by decide)) (z := (64 : Int32)) (by decide) (hb hby d9_17) rfl ?_
    refine own_icmpNo X14 hx (pc' := 21) (hb hby d9_18) (teq hq).2 rfl ?_
    refine own_iconst X14 hx (pc' := 22) (-1 : Int32) (hb hby d9_21) rfl rfl ?_
    refine own_retI X14 hx hlk hret (hb hby d9_22) (by decide) (by decide) ?_
    exact ⟨by rw [own_next, if_pos h64], N0, e14⟩
  · skip
    have hq : ¬ (Int32.ofNat (P / 64)) = (64 : Int32) := by rw [← Int32.toInt_inj, own_on (by omega), own_t32_64]; omega
    have hP64 : P / 64 < 64 := by omega
    have hnx : own_next hf start P = own_scan hf start (63 - P / 64) (P / 64) (hf (P / 64) &&& own_mask P) := by rw [own_next, if_neg h64]
    rw [hnx]
    refine own_iloadN X13 hx (pc' := 13) (hb hby d9_12) rfl rfl ?_
    refine own_aloadN X13 hx (pc' := 14) (hb hby d9_13) rfl rfl rfl ?_
    refine own_getF X13 hx (pc' := 17) hZ hown (host := "") (Or.inl (Wd21 hw)) Via.refl e13 F_h (hb hby d9_14) rfl (fun T16 X16 e16 => ?_)
    obtain ⟨cl17, Ar17, S17, H17⟩ := id V_h
    refine own_len X16 hx (pc' := 18) hZ e16 Ar17 (S17.trans (by decide)) (z := (64 : Int32)) (by decide) (hb hby d9_17) rfl ?_
    refine own_icmpYes X16 hx (pc' := 23) (hb hby d9_18) (feq hq).2 (by decide) (by decide) ?_
    refine own_aloadN X16 hx (pc' := 24) (hb hby d9_23) rfl rfl rfl ?_
    refine own_getF X16 hx (pc' := 27) hZ hown (host := "") (Or.inl (Wd21 hw)) Via.refl e16 F_h (hb hby d9_24) rfl (fun T18 X18 e18 => ?_)
    refine own_iloadN X18 hx (pc' := 28) (hb hby d9_27) rfl rfl ?_
    obtain ⟨cl19, Ar19, S19, H19⟩ := id V_h
    refine own_laload X18 hx (pc' := 29) hZ (v := (hf (P / 64))) e18 Ar19 (own_in S19 c2.1 c2.2 hP64) (by rw [c2.2]; exact H19 _ hP64) (hb hby d9_28) rfl ?_
    refine own_ldc2J X18 hx (pc' := 32) hZ hown (Wd49 hw) (hb hby d9_29) rfl ?_
    refine own_iloadN X18 hx (pc' := 33) (hb hby d9_32) rfl rfl ?_
    refine own_lshl X18 hx (pc' := 34) (hb hby d9_33) rfl ?_
    show own_G p.tables e below _ T18 (mkF m 34 #[.val (.ref gw), .val (.int doc), .val (.int (Int32.ofNat P)), .val (.int (Int32.ofNat (P / 64))), .unset, .unset] [(.long (own_mask P)), (.long (hf (P / 64)))])
    refine own_land X18 hx (pc' := 35) (hb hby d9_34) rfl rfl ?_
    refine own_lstore X18 hx (pc' := 37) (Ls' := #[.val (.ref gw), .val (.int doc), .val (.int (Int32.ofNat P)), .val (.int (Int32.ofNat (P / 64))), .val (.long ((hf (P / 64)) &&& (own_mask P))), .second]) (hb hby d9_35) rfl rfl ?_
    exact J37 (63 - P / 64) (P / 64) _ _ _ X18 e18 N0 (by omega)

theorem own_low (x : Int32) : ∃ A : Nat, A < 4096 ∧ x &&& (4095 : Int32) = Int32.ofNat A := by
  have q1 := c_mask x (4095 : Int32) 12 (by decide) (by decide)
  have q7 : ((2 ^ 12 : Nat) : Int) = 4096 := rfl
  rw [q7] at q1
  refine ⟨(x &&& (4095 : Int32)).toInt.toNat, by omega, ?_⟩
  rw [← Int32.toInt_inj, own_on (by omega)]
  omega
theorem own_ofs {A B : Nat} (hA : A < 4096) (hB : B < 4096) : (Int32.ofNat A < Int32.ofNat B) ↔ A < B := by rw [Int32.lt_iff_toInt_lt, own_on (by omega), own_on (by omega)]; omega
theorem own_mn {A B : Nat} (hA : A < 4096) (hB : B < 4096) (h : A ≤ B) : own_minI (Int32.ofNat A) (Int32.ofNat B) = Int32.ofNat A := by unfold own_minI; rw [if_neg (fun q => by have q2 := (own_ofs hB hA).mp q; omega)]
theorem own_mn2 {A B : Nat} (hA : A < 4096) (hB : B < 4096) (h : B < A) : own_minI (Int32.ofNat A) (Int32.ofNat B) = Int32.ofNat B := by unfold own_minI; rw [if_pos ((own_ofs hB hA).mpr h)]
theorem own_mx {A B : Nat} (hA : A < 4096) (hB : B < 4096) (h : B ≤ A) : own_maxI (Int32.ofNat A) (Int32.ofNat B) = Int32.ofNat A := by unfold own_maxI; rw [if_neg (fun q => by have q2 := (own_ofs hA hB).mp q; omega)]
theorem own_mx2 {A B : Nat} (hA : A < 4096) (hB : B < 4096) (h : A < B) : own_maxI (Int32.ofNat A) (Int32.ofNat B) = Int32.ofNat B := by unfold own_maxI; rw [if_pos ((own_ofs hA hB).mpr h)]
theorem own_self0 (s : Int32) : s - s = Int32.ofNat 0 := Int32.sub_self s
theorem own_back1 (s : Int32) (A : Nat) : ((s + (Int32.ofNat A)) + (1 : Int32)) - s = Int32.ofNat (A + 1) := by
  rw [Int32.add_assoc, show Int32.ofNat A + (1 : Int32) = Int32.ofNat (A + 1) from (Int32.ofNat_add A 1).symm]; exact own_back s _
def Q0 (n0 : Nat) (v : Option Value) (h : Heap) (L : List Loc) : Prop := v = some (.int 1) ∧ Fr n0 L
theorem ef_rm0 (m : MethodId) (x0 : Int32) (x1 : Int32) (x2 : Int32) (x3 : Int32) (x4 : Int32) (x5 : Int32) : entryFrame m #[(.int x0), (.int x1), (.int x2), (.int x3), (.int x4), (.int x5)] maxLocals = mkF m 0 #[.val (.int x0), .val (.int x1), .val (.int x2), .val (.int x3), .val (.int x4), .val (.int x5), .unset, .unset, .unset, .unset, .unset, .unset, .unset, .unset, .unset, .unset, .unset, .unset, .unset, .unset, .unset, .unset, .unset, .unset] [] := by first | (simp [entryFrame, mkF, argsToLocals, Value.category, maxLocals]; done) | rfl
theorem pf_10 : plainFor (⟨"com/example/mixed_likelihood/mixedlikelihood/search/GainWindowAddPinLaw", "law", "(IIIIII)Z"⟩ : MethodName) = true := by apply plainFor_of_name; first | (simp [plainName, overriddenIn]; done) | decide +kernel
theorem Wd3 {a0 : Array Value} {Z : State} (hw : ∀ d ∈ tables_1, d.before a0 Z = true) : (Jvm.Cond.code ({ cls := "java/lang/Math", name := "min", desc := "(II)I" } : Jvm.MethodName) jdk_29_method_69_code (2 : Nat) (Option.some Jvm.ClassFile.FieldType.int)).before a0 Z = true := hw _ (List.mem_of_getElem? (i := 3) rfl)
theorem Wd2 {a0 : Array Value} {Z : State} (hw : ∀ d ∈ tables_1, d.before a0 Z = true) : (Jvm.Cond.initialized "java/lang/Math").before a0 Z = true := hw _ (List.mem_of_getElem? (i := 2) rfl)
theorem pd_3 : parseMethodDescriptor "(II)I" = some ⟨[.int, .int], some .int⟩ := by decide +kernel
theorem Wd0 {a0 : Array Value} {Z : State} (hw : ∀ d ∈ tables_1, d.before a0 Z = true) : (Jvm.Cond.methodLink "com/example/mixed_likelihood/mixedlikelihood/search/GainWindowAddPinLaw" (7 : Nat) ({ cls := "java/lang/Math", name := "min", desc := "(II)I" } : Jvm.MethodName)).before a0 Z = true := hw _ (List.mem_of_getElem? (i := 0) rfl)
theorem Wd1 {a0 : Array Value} {Z : State} (hw : ∀ d ∈ tables_1, d.before a0 Z = true) : (Jvm.Cond.static ({ cls := "java/lang/Math", name := "min", desc := "(II)I" } : Jvm.MethodName)).before a0 Z = true := hw _ (List.mem_of_getElem? (i := 1) rfl)
theorem Wd6 {a0 : Array Value} {Z : State} (hw : ∀ d ∈ tables_1, d.before a0 Z = true) : (Jvm.Cond.code ({ cls := "java/lang/Math", name := "max", desc := "(II)I" } : Jvm.MethodName) jdk_29_method_65_code (2 : Nat) (Option.some Jvm.ClassFile.FieldType.int)).before a0 Z = true := hw _ (List.mem_of_getElem? (i := 6) rfl)
theorem Wd4 {a0 : Array Value} {Z : State} (hw : ∀ d ∈ tables_1, d.before a0 Z = true) : (Jvm.Cond.methodLink "com/example/mixed_likelihood/mixedlikelihood/search/GainWindowAddPinLaw" (13 : Nat) ({ cls := "java/lang/Math", name := "max", desc := "(II)I" } : Jvm.MethodName)).before a0 Z = true := hw _ (List.mem_of_getElem? (i := 4) rfl)
theorem Wd5 {a0 : Array Value} {Z : State} (hw : ∀ d ∈ tables_1, d.before a0 Z = true) : (Jvm.Cond.static ({ cls := "java/lang/Math", name := "max", desc := "(II)I" } : Jvm.MethodName)).before a0 Z = true := hw _ (List.mem_of_getElem? (i := 5) rfl)
theorem Wd7 {a0 : Array Value} {Z : State} (hw : ∀ d ∈ tables_1, d.before a0 Z = true) : (Jvm.Cond.constantLong "com/example/mixed_likelihood/mixedlikelihood/search/GainWindowAddPinLaw" (18 : Nat) (2147483647 : Int64)).before a0 Z = true := hw _ (List.mem_of_getElem? (i := 7) rfl)
theorem Wd8 {a0 : Array Value} {Z : State} (hw : ∀ d ∈ tables_1, d.before a0 Z = true) : (Jvm.Cond.classLink "com/example/mixed_likelihood/mixedlikelihood/search/GainWindowAddPinLaw" (20 : Nat) "com/example/mixed_likelihood/mixedlikelihood/search/GainWindow").before a0 Z = true := hw _ (List.mem_of_getElem? (i := 8) rfl)
theorem Wd10 {a0 : Array Value} {Z : State} (hw : ∀ d ∈ tables_1, d.before a0 Z = true) : (Jvm.Cond.initialized "com/example/mixed_likelihood/mixedlikelihood/search/GainWindow").before a0 Z = true := hw _ (List.mem_of_getElem? (i := 10) rfl)
theorem Wd13 {a0 : Array Value} {Z : State} (hw : ∀ d ∈ tables_1, d.before a0 Z = true) : (Jvm.Cond.code ({ cls := "com/example/mixed_likelihood/mixedlikelihood/search/GainWindow", name := "<init>", desc := "()V" } : Jvm.MethodName) prog_49_method_1_code (1 : Nat) (Option.none : Option Jvm.ClassFile.FieldType)).before a0 Z = true := hw _ (List.mem_of_getElem? (i := 13) rfl)
theorem pd_4 : parseMethodDescriptor "()V" = some ⟨[], none⟩ := by decide +kernel
theorem Wd11 {a0 : Array Value} {Z : State} (hw : ∀ d ∈ tables_1, d.before a0 Z = true) : (Jvm.Cond.methodLink "com/example/mixed_likelihood/mixedlikelihood/search/GainWindowAddPinLaw" (22 : Nat) ({ cls := "com/example/mixed_likelihood/mixedlikelihood/search/GainWindow", name := "<init>", desc := "()V" } : Jvm.MethodName)).before a0 Z = true := hw _ (List.mem_of_getElem? (i := 11) rfl)
theorem Wd12 {a0 : Array Value} {Z : State} (hw : ∀ d ∈ tables_1, d.before a0 Z = true) : (Jvm.Cond.instanceMethod ({ cls := "com/example/mixed_likelihood/mixedlikelihood/search/GainWindow", name := "<init>", desc := "()V" } : Jvm.MethodName)).before a0 Z = true := hw _ (List.mem_of_getElem? (i := 12) rfl)
theorem Wd27 {a0 : Array Value} {Z : State} (hw : ∀ d ∈ tables_1, d.before a0 Z = true) : (Jvm.Cond.code ({ cls := "com/example/mixed_likelihood/mixedlikelihood/search/GainWindow", name := "moveTo", desc := "(I)V" } : Jvm.MethodName) prog_49_method_2_code (2 : Nat) (Option.none : Option Jvm.ClassFile.FieldType)).before a0 Z = true := hw _ (List.mem_of_getElem? (i := 27) rfl)
theorem pd_5 : parseMethodDescriptor "(I)V" = some ⟨[.int], none⟩ := by decide +kernel
theorem Wd23 {a0 : Array Value} {Z : State} (hw : ∀ d ∈ tables_1, d.before a0 Z = true) : (Jvm.Cond.methodLink "com/example/mixed_likelihood/mixedlikelihood/search/GainWindowAddPinLaw" (23 : Nat) ({ cls := "com/example/mixed_likelihood/mixedlikelihood/search/GainWindow", name := "moveTo", desc := "(I)V" } : Jvm.MethodName)).before a0 Z = true := hw _ (List.mem_of_getElem? (i := 23) rfl)
theorem Wd25 {a0 : Array Value} {Z : State} (hw : ∀ d ∈ tables_1, d.before a0 Z = true) : (Jvm.Cond.instanceMethod ({ cls := "com/example/mixed_likelihood/mixedlikelihood/search/GainWindow", name := "moveTo", desc := "(I)V" } : Jvm.MethodName)).before a0 Z = true := hw _ (List.mem_of_getElem? (i := 25) rfl)
theorem Wd26 {a0 : Array Value} {Z : State} (hw : ∀ d ∈ tables_1, d.before a0 Z = true) : (Jvm.Cond.selects "com/example/mixed_likelihood/mixedlikelihood/search/GainWindow" ({ cls := "com/example/mixed_likelihood/mixedlikelihood/search/GainWindow", name := "moveTo", desc := "(I)V" } : Jvm.MethodName) ({ cls := "com/example/mixed_likelihood/mixedlikelihood/search/GainWindow", name := "moveTo", desc := "(I)V" } : Jvm.MethodName)).before a0 Z = true := hw _ (List.mem_of_getElem? (i := 26) rfl)
theorem Wd38 {a0 : Array Value} {Z : State} (hw : ∀ d ∈ tables_1, d.before a0 Z = true) : (Jvm.Cond.code ({ cls := "com/example/mixed_likelihood/mixedlikelihood/search/GainWindow", name := "add", desc := "(ID)V" } : Jvm.MethodName) prog_49_method_5_code (8 : Nat) (Option.none : Option Jvm.ClassFile.FieldType)).before a0 Z = true := hw _ (List.mem_of_getElem? (i := 38) rfl)
theorem pd_6 : parseMethodDescriptor "(ID)V" = some ⟨[.int, .double], none⟩ := by decide +kernel
theorem Wd34 {a0 : Array Value} {Z : State} (hw : ∀ d ∈ tables_1, d.before a0 Z = true) : (Jvm.Cond.methodLink "com/example/mixed_likelihood/mixedlikelihood/search/GainWindowAddPinLaw" (27 : Nat) ({ cls := "com/example/mixed_likelihood/mixedlikelihood/search/GainWindow", name := "add", desc := "(ID)V" } : Jvm.MethodName)).before a0 Z = true := hw _ (List.mem_of_getElem? (i := 34) rfl)
theorem Wd36 {a0 : Array Value} {Z : State} (hw : ∀ d ∈ tables_1, d.before a0 Z = true) : (Jvm.Cond.instanceMethod ({ cls := "com/example/mixed_likelihood/mixedlikelihood/search/GainWindow", name := "add", desc := "(ID)V" } : Jvm.MethodName)).before a0 Z = true := hw _ (List.mem_of_getElem? (i := 36) rfl)
theorem Wd37 {a0 : Array Value} {Z : State} (hw : ∀ d ∈ tables_1, d.before a0 Z = true) : (Jvm.Cond.selects "com/example/mixed_likelihood/mixedlikelihood/search/GainWindow" ({ cls := "com/example/mixed_likelihood/mixedlikelihood/search/GainWindow", name := "add", desc := "(ID)V" } : Jvm.MethodName) ({ cls := "com/example/mixed_likelihood/mixedlikelihood/search/GainWindow", name := "add", desc := "(ID)V" } : Jvm.MethodName)).before a0 Z = true := hw _ (List.mem_of_getElem? (i := 37) rfl)
theorem Wd43 {a0 : Array Value} {Z : State} (hw : ∀ d ∈ tables_1, d.before a0 Z = true) : (Jvm.Cond.code ({ cls := "com/example/mixed_likelihood/mixedlikelihood/search/GainWindow", name := "sum", desc := "(I)D" } : Jvm.MethodName) prog_49_method_7_code (2 : Nat) (Option.some Jvm.ClassFile.FieldType.double)).before a0 Z = true := hw _ (List.mem_of_getElem? (i := 43) rfl)
theorem pd_7 : parseMethodDescriptor "(I)D" = some ⟨[.int], some .double⟩ := by decide +kernel
theorem Wd39 {a0 : Array Value} {Z : State} (hw : ∀ d ∈ tables_1, d.before a0 Z = true) : (Jvm.Cond.methodLink "com/example/mixed_likelihood/mixedlikelihood/search/GainWindowAddPinLaw" (31 : Nat) ({ cls := "com/example/mixed_likelihood/mixedlikelihood/search/GainWindow", name := "sum", desc := "(I)D" } : Jvm.MethodName)).before a0 Z = true := hw _ (List.mem_of_getElem? (i := 39) rfl)
theorem Wd41 {a0 : Array Value} {Z : State} (hw : ∀ d ∈ tables_1, d.before a0 Z = true) : (Jvm.Cond.instanceMethod ({ cls := "com/example/mixed_likelihood/mixedlikelihood/search/GainWindow", name := "sum", desc := "(I)D" } : Jvm.MethodName)).before a0 Z = true := hw _ (List.mem_of_getElem? (i := 41) rfl)
theorem Wd42 {a0 : Array Value} {Z : State} (hw : ∀ d ∈ tables_1, d.before a0 Z = true) : (Jvm.Cond.selects "com/example/mixed_likelihood/mixedlikelihood/search/GainWindow" ({ cls := "com/example/mixed_likelihood/mixedlikelihood/search/GainWindow", name := "sum", desc := "(I)D" } : Jvm.MethodName) ({ cls := "com/example/mixed_likelihood/mixedlikelihood/search/GainWindow", name := "sum", desc := "(I)D" } : Jvm.MethodName)).before a0 Z = true := hw _ (List.mem_of_getElem? (i := 42) rfl)
theorem Wd48 {a0 : Array Value} {Z : State} (hw : ∀ d ∈ tables_1, d.before a0 Z = true) : (Jvm.Cond.code ({ cls := "com/example/mixed_likelihood/mixedlikelihood/search/GainWindow", name := "nextHolding", desc := "(I)I" } : Jvm.MethodName) prog_49_method_6_code (6 : Nat) (Option.some Jvm.ClassFile.FieldType.int)).before a0 Z = true := hw _ (List.mem_of_getElem? (i := 48) rfl)
theorem Wd44 {a0 : Array Value} {Z : State} (hw : ∀ d ∈ tables_1, d.before a0 Z = true) : (Jvm.Cond.methodLink "com/example/mixed_likelihood/mixedlikelihood/search/GainWindowAddPinLaw" (35 : Nat) ({ cls := "com/example/mixed_likelihood/mixedlikelihood/search/GainWindow", name := "nextHolding", desc := "(I)I" } : Jvm.MethodName)).before a0 Z = true := hw _ (List.mem_of_getElem? (i := 44) rfl)
theorem Wd46 {a0 : Array Value} {Z : State} (hw : ∀ d ∈ tables_1, d.before a0 Z = true) : (Jvm.Cond.instanceMethod ({ cls := "com/example/mixed_likelihood/mixedlikelihood/search/GainWindow", name := "nextHolding", desc := "(I)I" } : Jvm.MethodName)).before a0 Z = true := hw _ (List.mem_of_getElem? (i := 46) rfl)
theorem Wd47 {a0 : Array Value} {Z : State} (hw : ∀ d ∈ tables_1, d.before a0 Z = true) : (Jvm.Cond.selects "com/example/mixed_likelihood/mixedlikelihood/search/GainWindow" ({ cls := "com/example/mixed_likelihood/mixedlikelihood/search/GainWindow", name := "nextHolding", desc := "(I)I" } : Jvm.MethodName) ({ cls := "com/example/mixed_likelihood/mixedlikelihood/search/GainWindow", name := "nextHolding", desc := "(I)I" } : Jvm.MethodName)).before a0 Z = true := hw _ (List.mem_of_getElem? (i := 47) rfl)
set_option maxRecDepth 65536 in
set_option maxHeartbeats 40000000 in
theorem rm0 (l : Launch) (Z : State) (a0 : Array Value) (hw : ∀ d ∈ tables_1, d.before a0 Z = true) (ws : List Jvm.Cond) (p0 p1 p2 p3 p4 p5 : Int32) (h0 : Heap) (n0 : Nat) (Z0 : n0 ≤ h0.size)  :
    MetFree l x (head1 (Jvm.Cond.code x code maxLocals ret :: ws) room_1) (fun aa U => aa = #[(.int p0), (.int p1), (.int p2), (.int p3), (.int p4), (.int p5)] ∧ Z.Warmed39 U.vm ∧ U.heap = h0) (fun _ _ _ _ _ => True) (fun _ U o U' => ∃ v L, o = .returned v ∧ Q0 n0 v U'.heap L ∧ FrameEnd U o U' L 16 8448) := by
  refine own_body pf_10 ?_
  intro p e s m below meth c s₁ hx hby hml hown hnm hlk hret hZ X0 e0
  have N0 : Fr n0 [] := Fr.nil n0
  refine own_go (f' := (mkF m 0 #[.val (.int p0), .val (.int p1), .val (.int p2), .val (.int p3), .val (.int p4), .val (.int p5), .unset, .unset, .unset, .unset, .unset, .unset, .unset, .unset, .unset, .unset, .unset, .unset, .unset, .unset, .unset, .unset, .unset, .unset] [])) (fun t k => castTop (ef_rm0 m p0 p1 p2 p3 p4 p5) k) ?_
  refine own_iloadN X0 hx (pc' := 1) (hb hby at_0) rfl rfl ?_
  refine own_sipush X0 hx (pc' := 4) (4095 : Int32) (hb hby at_1) rfl rfl ?_
  refine own_iand X0 hx (pc' := 5) (hb hby at_4) rfl rfl ?_
  obtain ⟨A, hA, eA⟩ : ∃ A : Nat, A < 4096 ∧ (p1 &&& (4095 : Int32)) = Int32.ofNat A := own_low p1
  rw [eA]
  refine own_istore X0 hx (pc' := 7) (Ls' := #[.val (.int p0), .val (.int p1), .val (.int p2), .val (.int p3), .val (.int p4), .val (.int p5), .val (.int (Int32.ofNat A)), .unset, .unset, .unset, .unset, .unset, .unset, .unset, .unset, .unset, .unset, .unset, .unset, .unset, .unset, .unset, .unset, .unset]) (hb hby at_5) rfl rfl ?_
  refine own_iloadN X0 hx (pc' := 8) (hb hby at_7) rfl rfl ?_
  refine own_sipush X0 hx (pc' := 11) (4095 : Int32) (hb hby at_8) rfl rfl ?_
  refine own_iand X0 hx (pc' := 12) (hb hby at_11) rfl rfl ?_
  obtain ⟨B, hB, eB⟩ : ∃ A : Nat, A < 4096 ∧ (p2 &&& (4095 : Int32)) = Int32.ofNat A := own_low p2
  rw [eB]
  refine own_istore X0 hx (pc' := 14) (Ls' := #[.val (.int p0), .val (.int p1), .val (.int p2), .val (.int p3), .val (.int p4), .val (.int p5), .val (.int (Int32.ofNat A)), .val (.int (Int32.ofNat B)), .unset, .unset, .unset, .unset, .unset, .unset, .unset, .unset, .unset, .unset, .unset, .unset, .unset, .unset, .unset, .unset]) (hb hby at_12) rfl rfl ?_
  rcases Nat.lt_trichotomy A B with hAB | hAB | hAB
  · skip
    have hne : ¬ ((Int32.ofNat A) = (Int32.ofNat B)) := by intro q; have q2 := congrArg Int32.toInt q; rw [own_on (by omega), own_on (by omega)] at q2; omega
    have hNE : A ≠ B := by omega
    refine own_iload X0 hx (pc' := 16) (hb hby at_14) rfl rfl ?_
    refine own_iload X0 hx (pc' := 18) (hb hby at_16) rfl rfl ?_
    refine own_callS X0 hx (pc' := 21) hZ hown (Wd0 hw) (Wd1 hw) (Wd2 hw) (Wd3 hw) (by decide) (rm_min l Z a0 hw [] (Int32.ofNat A) (Int32.ofNat B) h0 n0 Z0) e0 0 (by decide) (by decide) (by decide) (by decide) [(.int (Int32.ofNat A)), (.int (Int32.ofNat B))] [] (by rw [hml]; rfl) (lenOf pd_3 rfl) rfl rfl (Nat.le_of_eq rfl) (hb hby at_18) rfl (fun v1 T1 L1 X1 hQ1 => ?_)
    obtain ⟨rfl, Nq1, e1⟩ := hQ1
    have N2 := Fr.app N0 Nq1
    show own_G p.tables e below _ T1 (mkF m 21 #[.val (.int p0), .val (.int p1), .val (.int p2), .val (.int p3), .val (.int p4), .val (.int p5), .val (.int (Int32.ofNat A)), .val (.int (Int32.ofNat B)), .unset, .unset, .unset, .unset, .unset, .unset, .unset, .unset, .unset, .unset, .unset, .unset, .unset, .unset, .unset, .unset] [(.int (own_minI (Int32.ofNat A) (Int32.ofNat B)))])
    rw [own_mn hA hB (Nat.le_of_lt hAB)]
    refine own_istore X1 hx (pc' := 23) (Ls' := #[.val (.int p0), .val (.int p1), .val (.int p2), .val (.int p3), .val (.int p4), .val (.int p5), .val (.int (Int32.ofNat A)), .val (.int (Int32.ofNat B)), .val (.int (Int32.ofNat A)), .unset, .unset, .unset, .unset, .unset, .unset, .unset, .unset, .unset, .unset, .unset, .unset, .unset, .unset, .unset]) (hb hby at_21) rfl rfl ?_
    refine own_iload X1 hx (pc' := 25) (hb hby at_23) rfl rfl ?_
    refine own_iload X1 hx (pc' := 27) (hb hby at_25) rfl rfl ?_
    refine own_callS X1 hx (pc' := 30) hZ hown (Wd4 hw) (Wd5 hw) (Wd2 hw) (Wd6 hw) (by decide) (rm_max l Z a0 hw [] (Int32.ofNat A) (Int32.ofNat B) h0 n0 Z0) e1 0 (by decide) (by decide) (by decide) (by decide) [(.int (Int32.ofNat A)), (.int (Int32.ofNat B))] [] (by rw [hml]; rfl) (lenOf pd_3 rfl) rfl rfl (Nat.le_of_eq rfl) (hb hby at_27) rfl (fun v3 T3 L3 X3 hQ3 => ?_)
    obtain ⟨rfl, Nq3, e3⟩ := hQ3
    have N4 := Fr.app N2 Nq3
    show own_G p.tables e below _ T3 (mkF m 30 #[.val (.int p0), .val (.int p1), .val (.int p2), .val (.int p3), .val (.int p4), .val (.int p5), .val (.int (Int32.ofNat A)), .val (.int (Int32.ofNat B)), .val (.int (Int32.ofNat A)), .unset, .unset, .unset, .unset, .unset, .unset, .unset, .unset, .unset, .unset, .unset, .unset, .unset, .unset, .unset] [(.int (own_maxI (Int32.ofNat A) (Int32.ofNat B)))])
    rw [own_mx2 hA hB hAB]
    refine own_istore X3 hx (pc' := 32) (Ls' := #[.val (.int p0), .val (.int p1), .val (.int p2), .val (.int p3), .val (.int p4), .val (.int p5), .val (.int (Int32.ofNat A)), .val (.int (Int32.ofNat B)), .val (.int (Int32.ofNat A)), .val (.int (Int32.ofNat B)), .unset, .unset, .unset, .unset, .unset, .unset, .unset, .unset, .unset, .unset, .unset, .unset, .unset, .unset]) (hb hby at_30) rfl rfl ?_
    refine own_iloadN X3 hx (pc' := 33) (hb hby at_32) rfl rfl ?_
    refine own_i2l X3 hx (pc' := 34) (hb hby at_33) rfl ?_
    refine own_iload X3 hx (pc' := 36) (hb hby at_34) rfl rfl ?_
    refine own_i2l X3 hx (pc' := 37) (hb hby at_36) rfl ?_
    refine own_ladd X3 hx (pc' := 38) (hb hby at_37) rfl rfl ?_
    refine own_ldc2J X3 hx (pc' := 41) hZ hown (Wd7 hw) (hb hby at_38) rfl ?_
    refine own_lcmp X3 hx (pc' := 42) (hb hby at_41) rfl ?_
    by_cases hc42_5 : ((p0.toInt64) + ((Int32.ofNat B).toInt64)) < (2147483647 : Int64)
    · skip
      refine own_ifYes X3 hx (pc' := 47) (hb hby at_42) (tlt ((lw_lt ((p0.toInt64) + ((Int32.ofNat B).toInt64)) (2147483647 : Int64)).mpr hc42_5)).1 (by decide) (by decide) ?_
      refine own_iloadN X3 hx (pc' := 48) (hb hby at_47) rfl rfl ?_
      refine own_iload X3 hx (pc' := 50) (hb hby at_48) rfl rfl ?_
      refine own_iadd X3 hx (pc' := 51) (hb hby at_50) rfl rfl ?_
      refine own_istore X3 hx (pc' := 53) (Ls' := #[.val (.int p0), .val (.int p1), .val (.int p2), .val (.int p3), .val (.int p4), .val (.int p5), .val (.int (Int32.ofNat A)), .val (.int (Int32.ofNat B)), .val (.int (Int32.ofNat A)), .val (.int (Int32.ofNat B)), .val (.int (p0 + (Int32.ofNat A))), .unset, .unset, .unset, .unset, .unset, .unset, .unset, .unset, .unset, .unset, .unset, .unset, .unset]) (hb hby at_51) rfl rfl ?_
      refine own_iloadN X3 hx (pc' := 54) (hb hby at_53) rfl rfl ?_
      refine own_iload X3 hx (pc' := 56) (hb hby at_54) rfl rfl ?_
      refine own_iadd X3 hx (pc' := 57) (hb hby at_56) rfl rfl ?_
      refine own_istore X3 hx (pc' := 59) (Ls' := #[.val (.int p0), .val (.int p1), .val (.int p2), .val (.int p3), .val (.int p4), .val (.int p5), .val (.int (Int32.ofNat A)), .val (.int (Int32.ofNat B)), .val (.int (Int32.ofNat A)), .val (.int (Int32.ofNat B)), .val (.int (p0 + (Int32.ofNat A))), .val (.int (p0 + (Int32.ofNat B))), .unset, .unset, .unset, .unset, .unset, .unset, .unset, .unset, .unset, .unset, .unset, .unset]) (hb hby at_57) rfl rfl ?_
      refine own_iloadN X3 hx (pc' := 60) (hb hby at_59) rfl rfl ?_
      refine own_i2d X3 hx (pc' := 61) (hb hby at_60) rfl ?_
      refine own_dstore X3 hx (pc' := 63) (Ls' := #[.val (.int p0), .val (.int p1), .val (.int p2), .val (.int p3), .val (.int p4), .val (.int p5), .val (.int (Int32.ofNat A)), .val (.int (Int32.ofNat B)), .val (.int (Int32.ofNat A)), .val (.int (Int32.ofNat B)), .val (.int (p0 + (Int32.ofNat A))), .val (.int (p0 + (Int32.ofNat B))), .val (.double (FP.i2d p3)), .second, .unset, .unset, .unset, .unset, .unset, .unset, .unset, .unset, .unset, .unset]) (hb hby at_61) rfl rfl ?_
      refine own_iload X3 hx (pc' := 65) (hb hby at_63) rfl rfl ?_
      refine own_i2d X3 hx (pc' := 66) (hb hby at_65) rfl ?_
      refine own_dstore X3 hx (pc' := 68) (Ls' := #[.val (.int p0), .val (.int p1), .val (.int p2), .val (.int p3), .val (.int p4), .val (.int p5), .val (.int (Int32.ofNat A)), .val (.int (Int32.ofNat B)), .val (.int (Int32.ofNat A)), .val (.int (Int32.ofNat B)), .val (.int (p0 + (Int32.ofNat A))), .val (.int (p0 + (Int32.ofNat B))), .val (.double (FP.i2d p3)), .second, .val (.double (FP.i2d p4)), .second, .unset, .unset, .unset, .unset, .unset, .unset, .unset, .unset]) (hb hby at_66) rfl rfl ?_
      refine own_iload X3 hx (pc' := 70) (hb hby at_68) rfl rfl ?_
      refine own_i2d X3 hx (pc' := 71) (hb hby at_70) rfl ?_
      refine own_dstore X3 hx (pc' := 73) (Ls' := #[.val (.int p0), .val (.int p1), .val (.int p2), .val (.int p3), .val (.int p4), .val (.int p5), .val (.int (Int32.ofNat A)), .val (.int (Int32.ofNat B)), .val (.int (Int32.ofNat A)), .val (.int (Int32.ofNat B)), .val (.int (p0 + (Int32.ofNat A))), .val (.int (p0 + (Int32.ofNat B))), .val (.double (FP.i2d p3)), .second, .val (.double (FP.i2d p4)), .second, .val (.double (FP.i2d p5)), .second, .unset, .unset, .unset, .unset, .unset, .unset]) (hb hby at_71) rfl rfl ?_
      refine own_new X3 hx (pc' := 76) hZ hown (Wd8 hw) (Wd9 hw) (Wd10 hw) e3 (hb hby at_73) (by decide) (by decide) rfl (fun T6 h6 nb6 g6 X6 e6 E6 A6 D6 => ?_)
      have ge_nb6 : n0 ≤ nb6 := Nat.le_trans Z0 (Nat.le_of_eq g6.symm)
      have Z7 : n0 ≤ h6.size := Nat.le_trans Z0 E6.1
      have F8 : Fld Z h6 nb6 "com/example/mixed_likelihood/mixedlikelihood/search/GainWindow" "sums" "[D" .null := D6 (Or.inr (Wd19 hw)) (ty := (.array .double)) (by decide)
      have F9 : Fld Z h6 nb6 "com/example/mixed_likelihood/mixedlikelihood/search/GainWindow" "holding" "[J" .null := D6 (Or.inr (Wd22 hw)) (ty := (.array .long)) (by decide)
      have F10 : Fld Z h6 nb6 "com/example/mixed_likelihood/mixedlikelihood/search/GainWindow" "start" "I" (.int (0 : Int32)) := D6 (Or.inl (Wd29 hw)) (ty := .int) (by decide)
      refine own_dup X6 hx (pc' := 77) (hb hby at_76) rfl rfl ?_
      refine own_callI X6 hx (pc' := 80) hZ rfl hown (Wd11 hw) (Wd12 hw) (Wd13 hw) (Wd10 hw) (by decide) (rm_init l Z a0 hw [] nb6 h6 n0 Z7 ge_nb6 A6 F8 F9 F10) e6 (b := nb6) 1 (by decide) (by decide) (by decide) (by decide) [] [(.ref nb6)] (by rw [hml]; rfl) (lenOf pd_4 rfl) rfl rfl (Nat.le_of_eq rfl) (hb hby at_77) rfl (fun v11 T11 L11 X11 hQ11 => ?_)
      obtain ⟨rfl, Nq11, K11, su, ho, ⟨g_su, g_ho⟩, ⟨d1, d2, d3⟩, G1_11, G2_11, G3_11, G4_11, G5_11⟩ := hQ11
      have N12 := Fr.app N4 Nq11
      have Z13 : n0 ≤ T11.heap.size := Nat.le_trans Z7 K11.1
      have F14 := (Exa.keep A6 K11)
      show own_G p.tables e below _ T11 (mkF m 80 #[.val (.int p0), .val (.int p1), .val (.int p2), .val (.int p3), .val (.int p4), .val (.int p5), .val (.int (Int32.ofNat A)), .val (.int (Int32.ofNat B)), .val (.int (Int32.ofNat A)), .val (.int (Int32.ofNat B)), .val (.int (p0 + (Int32.ofNat A))), .val (.int (p0 + (Int32.ofNat B))), .val (.double (FP.i2d p3)), .second, .val (.double (FP.i2d p4)), .second, .val (.double (FP.i2d p5)), .second, .unset, .unset, .unset, .unset, .unset, .unset] [(.ref nb6)])
      refine own_astore X11 hx (pc' := 82) (Ls' := #[.val (.int p0), .val (.int p1), .val (.int p2), .val (.int p3), .val (.int p4), .val (.int p5), .val (.int (Int32.ofNat A)), .val (.int (Int32.ofNat B)), .val (.int (Int32.ofNat A)), .val (.int (Int32.ofNat B)), .val (.int (p0 + (Int32.ofNat A))), .val (.int (p0 + (Int32.ofNat B))), .val (.double (FP.i2d p3)), .second, .val (.double (FP.i2d p4)), .second, .val (.double (FP.i2d p5)), .second, .val (.ref nb6), .unset, .unset, .unset, .unset, .unset]) (hb hby at_80) rfl rfl rfl ?_
      refine own_aload X11 hx (pc' := 84) (hb hby at_82) rfl rfl rfl ?_
      refine own_iloadN X11 hx (pc' := 85) (hb hby at_84) rfl rfl ?_
      refine own_callV X11 hx (pc' := 88) hZ hown (Wd23 hw) (Wd25 hw) (Wd26 hw) (Wd27 hw) (Wd10 hw) (by decide) (rm_move l Z a0 hw [] nb6 su ho (0 : Int32) (fun _ => (0 : Int64)) (fun _ => (0 : UInt64)) p0 T11.heap n0 Z13 ge_nb6 g_su g_ho d1 d2 d3 F14 G1_11 G2_11 G3_11 G4_11 G5_11) rfl F14 0 (by decide) (by decide) (by decide) (by decide) [(.int p0)] [] (by rw [hml]; rfl) (lenOf pd_5 rfl) rfl rfl (Nat.le_of_eq rfl) (hb hby at_85) rfl (fun v15 T15 L15 X15 hQ15 => ?_)
      obtain ⟨rfl, Nq15, K15, G1_15, G2_15, G3_15, G4_15, G5_15⟩ := hQ15
      have N16 := Fr.app N12 Nq15
      have Z17 : n0 ≤ T15.heap.size := Nat.le_trans Z13 K15.1
      have F18 := (Exa.keep F14 K15)
      have F19 := (G5_11.keep K15 (ninS (Ne.symm d1) (ninS d3 nin0)))
      show own_G p.tables e below _ T15 (mkF m 88 #[.val (.int p0), .val (.int p1), .val (.int p2), .val (.int p3), .val (.int p4), .val (.int p5), .val (.int (Int32.ofNat A)), .val (.int (Int32.ofNat B)), .val (.int (Int32.ofNat A)), .val (.int (Int32.ofNat B)), .val (.int (p0 + (Int32.ofNat A))), .val (.int (p0 + (Int32.ofNat B))), .val (.double (FP.i2d p3)), .second, .val (.double (FP.i2d p4)), .second, .val (.double (FP.i2d p5)), .second, .val (.ref nb6), .unset, .unset, .unset, .unset, .unset] [])
      refine own_aload X15 hx (pc' := 90) (hb hby at_88) rfl rfl rfl ?_
      refine own_iload X15 hx (pc' := 92) (hb hby at_90) rfl rfl ?_
      refine own_dconst1 X15 hx (pc' := 93) (hb hby at_92) rfl ?_
      refine own_callV X15 hx (pc' := 96) hZ hown (Wd34 hw) (Wd36 hw) (Wd37 hw) (Wd38 hw) (Wd10 hw) (by decide) (rm_aF l Z a0 hw [] nb6 su ho p0 (fun _ => (0 : Int64)) (fun _ => (0 : UInt64)) A (p0 + (Int32.ofNat A)) FP.dconst1 T15.heap n0 Z17 ge_nb6 g_su g_ho d1 d2 d3 F18 hA (own_back p0 (Int32.ofNat A)) (own_z A hA) G1_15 G2_15 G3_15 G4_15 G5_15) rfl F18 0 (by decide) (by decide) (by decide) (by decide) [(.int (p0 + (Int32.ofNat A))), (.double FP.dconst1)] [] (by rw [hml]; rfl) (lenOf pd_6 rfl) rfl rfl (Nat.le_of_eq rfl) (hb hby at_93) rfl (fun v20 T20 L20 X20 hQ20 => ?_)
      obtain ⟨rfl, Nq20, K20, G1_20, G2_20, G3_20, G4_20, G5_20⟩ := hQ20
      have N21 := Fr.app N16 Nq20
      have Z22 : n0 ≤ T20.heap.size := Nat.le_trans Z17 K20.1
      have F23 := (Exa.keep F18 K20)
      show own_G p.tables e below _ T20 (mkF m 96 #[.val (.int p0), .val (.int p1), .val (.int p2), .val (.int p3), .val (.int p4), .val (.int p5), .val (.int (Int32.ofNat A)), .val (.int (Int32.ofNat B)), .val (.int (Int32.ofNat A)), .val (.int (Int32.ofNat B)), .val (.int (p0 + (Int32.ofNat A))), .val (.int (p0 + (Int32.ofNat B))), .val (.double (FP.i2d p3)), .second, .val (.double (FP.i2d p4)), .second, .val (.double (FP.i2d p5)), .second, .val (.ref nb6), .unset, .unset, .unset, .unset, .unset] [])
      refine own_aload X20 hx (pc' := 98) (hb hby at_96) rfl rfl rfl ?_
      refine own_iloadN X20 hx (pc' := 99) (hb hby at_98) rfl rfl ?_
      refine own_callV X20 hx (pc' := 102) hZ hown (Wd23 hw) (Wd25 hw) (Wd26 hw) (Wd27 hw) (Wd10 hw) (by decide) (rm_move l Z a0 hw [] nb6 su ho p0 (own_upd (fun _ => (0 : Int64)) (A / 64) ((fun _ => (0 : Int64)) (A / 64) ||| own_bit A)) (own_upd (fun _ => (0 : UInt64)) A FP.dconst1) p0 T20.heap n0 Z22 ge_nb6 g_su g_ho d1 d2 d3 F23 G1_20 G2_20 G3_20 G4_20 G5_20) rfl F23 0 (by decide) (by decide) (by decide) (by decide) [(.int p0)] [] (by rw [hml]; rfl) (lenOf pd_5 rfl) rfl rfl (Nat.le_of_eq rfl) (hb hby at_99) rfl (fun v24 T24 L24 X24 hQ24 => ?_)
      obtain ⟨rfl, Nq24, K24, G1_24, G2_24, G3_24, G4_24, G5_24⟩ := hQ24
      have N25 := Fr.app N21 Nq24
      have Z26 : n0 ≤ T24.heap.size := Nat.le_trans Z22 K24.1
      have F27 := (Exa.keep F23 K24)
      have F28 := (G5_20.keep K24 (ninS (Ne.symm d1) (ninS d3 nin0)))
      show own_G p.tables e below _ T24 (mkF m 102 #[.val (.int p0), .val (.int p1), .val (.int p2), .val (.int p3), .val (.int p4), .val (.int p5), .val (.int (Int32.ofNat A)), .val (.int (Int32.ofNat B)), .val (.int (Int32.ofNat A)), .val (.int (Int32.ofNat B)), .val (.int (p0 + (Int32.ofNat A))), .val (.int (p0 + (Int32.ofNat B))), .val (.double (FP.i2d p3)), .second, .val (.double (FP.i2d p4)), .second, .val (.double (FP.i2d p5)), .second, .val (.ref nb6), .unset, .unset, .unset, .unset, .unset] [])
      refine own_aload X24 hx (pc' := 104) (hb hby at_102) rfl rfl rfl ?_
      refine own_iload X24 hx (pc' := 106) (hb hby at_104) rfl rfl ?_
      refine own_dload X24 hx (pc' := 108) (hb hby at_106) rfl rfl ?_
      refine own_callV X24 hx (pc' := 111) hZ hown (Wd34 hw) (Wd36 hw) (Wd37 hw) (Wd38 hw) (Wd10 hw) (by decide) (rm_aF l Z a0 hw [] nb6 su ho p0 (fun _ => (0 : Int64)) (own_upd (fun _ => (0 : UInt64)) A FP.dconst1) A (p0 + (Int32.ofNat A)) (FP.i2d p3) T24.heap n0 Z26 ge_nb6 g_su g_ho d1 d2 d3 F27 hA (own_back p0 (Int32.ofNat A)) (own_z A hA) G1_24 G2_24 G3_24 G4_24 G5_24) rfl F27 0 (by decide) (by decide) (by decide) (by decide) [(.int (p0 + (Int32.ofNat A))), (.double (FP.i2d p3))] [] (by rw [hml]; rfl) (lenOf pd_6 rfl) rfl rfl (Nat.le_of_eq rfl) (hb hby at_108) rfl (fun v29 T29 L29 X29 hQ29 => ?_)
      obtain ⟨rfl, Nq29, K29, G1_29, G2_29, G3_29, G4_29, G5_29⟩ := hQ29
      have N30 := Fr.app N25 Nq29
      have Z31 : n0 ≤ T29.heap.size := Nat.le_trans Z26 K29.1
      have F32 := (Exa.keep F27 K29)
      obtain ⟨hfa, e_hfa⟩ : ∃ f : Nat → Int64, f = (own_upd (fun _ => (0 : Int64)) (A / 64) ((fun _ => (0 : Int64)) (A / 64) ||| own_bit A)) := ⟨_, rfl⟩
      obtain ⟨sfa, e_sfa⟩ : ∃ f : Nat → UInt64, f = (own_upd (own_upd (fun _ => (0 : UInt64)) A FP.dconst1) A (FP.i2d p3)) := ⟨_, rfl⟩
      rw [← e_hfa] at G4_29
      rw [← e_sfa] at G5_29
      show own_G p.tables e below _ T29 (mkF m 111 #[.val (.int p0), .val (.int p1), .val (.int p2), .val (.int p3), .val (.int p4), .val (.int p5), .val (.int (Int32.ofNat A)), .val (.int (Int32.ofNat B)), .val (.int (Int32.ofNat A)), .val (.int (Int32.ofNat B)), .val (.int (p0 + (Int32.ofNat A))), .val (.int (p0 + (Int32.ofNat B))), .val (.double (FP.i2d p3)), .second, .val (.double (FP.i2d p4)), .second, .val (.double (FP.i2d p5)), .second, .val (.ref nb6), .unset, .unset, .unset, .unset, .unset] [])
      have v1 : sfa A = FP.i2d p3 := by rw [e_sfa]; exact own_upd_same _ _ _
      have w1 : hfa (A / 64) = (0 : Int64) ||| own_bit A := by rw [e_hfa]; exact own_upd_same _ _ _
      have w2 : ∀ q, q ≠ A / 64 → hfa q = 0 := fun q hq => by rw [e_hfa]; exact own_upd_other _ _ hq
      refine own_aload X29 hx (pc' := 113) (hb hby at_111) rfl rfl rfl ?_
      refine own_iload X29 hx (pc' := 115) (hb hby at_113) rfl rfl ?_
      refine own_dload X29 hx (pc' := 117) (hb hby at_115) rfl rfl ?_
      refine own_callV X29 hx (pc' := 120) hZ hown (Wd34 hw) (Wd36 hw) (Wd37 hw) (Wd38 hw) (Wd10 hw) (by decide) (rm_aF l Z a0 hw [] nb6 su ho p0 hfa sfa B (p0 + (Int32.ofNat B)) (FP.i2d p4) T29.heap n0 Z31 ge_nb6 g_su g_ho d1 d2 d3 F32 hB (own_back p0 (Int32.ofNat B)) (own_clear hA hB hNE w1 w2) G1_29 G2_29 G3_29 G4_29 G5_29) rfl F32 0 (by decide) (by decide) (by decide) (by decide) [(.int (p0 + (Int32.ofNat B))), (.double (FP.i2d p4))] [] (by rw [hml]; rfl) (lenOf pd_6 rfl) rfl rfl (Nat.le_of_eq rfl) (hb hby at_117) rfl (fun v33 T33 L33 X33 hQ33 => ?_)
      obtain ⟨rfl, Nq33, K33, G1_33, G2_33, G3_33, G4_33, G5_33⟩ := hQ33
      have N34 := Fr.app N30 Nq33
      have Z35 : n0 ≤ T33.heap.size := Nat.le_trans Z31 K33.1
      have F36 := (Exa.keep F32 K33)
      obtain ⟨hfb, e_hfb⟩ : ∃ f : Nat → Int64, f = (own_upd hfa (B / 64) (hfa (B / 64) ||| own_bit B)) := ⟨_, rfl⟩
      obtain ⟨sfb, e_sfb⟩ : ∃ f : Nat → UInt64, f = (own_upd sfa B (FP.i2d p4)) := ⟨_, rfl⟩
      rw [← e_hfb] at G4_33
      rw [← e_sfb] at G5_33
      show own_G p.tables e below _ T33 (mkF m 120 #[.val (.int p0), .val (.int p1), .val (.int p2), .val (.int p3), .val (.int p4), .val (.int p5), .val (.int (Int32.ofNat A)), .val (.int (Int32.ofNat B)), .val (.int (Int32.ofNat A)), .val (.int (Int32.ofNat B)), .val (.int (p0 + (Int32.ofNat A))), .val (.int (p0 + (Int32.ofNat B))), .val (.double (FP.i2d p3)), .second, .val (.double (FP.i2d p4)), .second, .val (.double (FP.i2d p5)), .second, .val (.ref nb6), .unset, .unset, .unset, .unset, .unset] [])
      have v2 : sfb A = FP.i2d p3 := by rw [e_sfb, own_upd_other _ _ hNE, v1]
      have v2b : sfb B = FP.i2d p4 := by rw [e_sfb, own_upd_same]
      refine own_aload X33 hx (pc' := 122) (hb hby at_120) rfl rfl rfl ?_
      refine own_iload X33 hx (pc' := 124) (hb hby at_122) rfl rfl ?_
      refine own_dload X33 hx (pc' := 126) (hb hby at_124) rfl rfl ?_
      refine own_callV X33 hx (pc' := 129) hZ hown (Wd34 hw) (Wd36 hw) (Wd37 hw) (Wd38 hw) (Wd10 hw) (by decide) (rm_aH l Z a0 hw [] nb6 su ho p0 hfb sfb A (p0 + (Int32.ofNat A)) (FP.i2d p5) T33.heap n0 Z35 ge_nb6 g_su g_ho d1 d2 d3 F36 hA (own_back p0 (Int32.ofNat A)) (by rw [e_hfb]; exact own_held2 hA hB w1) (by rw [v2]; exact own_nn2 p3 p5) G1_33 G2_33 G3_33 G4_33 G5_33) rfl F36 0 (by decide) (by decide) (by decide) (by decide) [(.int (p0 + (Int32.ofNat A))), (.double (FP.i2d p5))] [] (by rw [hml]; rfl) (lenOf pd_6 rfl) rfl rfl (Nat.le_of_eq rfl) (hb hby at_126) rfl (fun v37 T37 L37 X37 hQ37 => ?_)
      obtain ⟨rfl, Nq37, K37, G1_37, G2_37, G3_37, G4_37, G5_37⟩ := hQ37
      have N38 := Fr.app N34 Nq37
      have Z39 : n0 ≤ T37.heap.size := Nat.le_trans Z35 K37.1
      have F40 := (Exa.keep F36 K37)
      obtain ⟨hfc, e_hfc⟩ : ∃ f : Nat → Int64, f = hfb := ⟨_, rfl⟩
      obtain ⟨sfc, e_sfc⟩ : ∃ f : Nat → UInt64, f = (own_upd sfb A (FP.dadd (sfb A) (FP.i2d p5))) := ⟨_, rfl⟩
      have G4_37' := G4_37
      rw [← e_sfc] at G5_37
      show own_G p.tables e below _ T37 (mkF m 129 #[.val (.int p0), .val (.int p1), .val (.int p2), .val (.int p3), .val (.int p4), .val (.int p5), .val (.int (Int32.ofNat A)), .val (.int (Int32.ofNat B)), .val (.int (Int32.ofNat A)), .val (.int (Int32.ofNat B)), .val (.int (p0 + (Int32.ofNat A))), .val (.int (p0 + (Int32.ofNat B))), .val (.double (FP.i2d p3)), .second, .val (.double (FP.i2d p4)), .second, .val (.double (FP.i2d p5)), .second, .val (.ref nb6), .unset, .unset, .unset, .unset, .unset] [])
      have v3 : sfc A = FP.dadd (FP.i2d p3) (FP.i2d p5) := by rw [e_sfc, own_upd_same, v2]
      have v3b : sfc B = FP.i2d p4 := by rw [e_sfc, own_upd_other _ _ (Ne.symm hNE), v2b]
      have hH : ∀ q, hfb q = own_c A q ||| own_c B q := own_words2 w1 w2 e_hfb
      refine own_iload X37 hx (pc' := 131) (hb hby at_129) rfl rfl ?_
      refine own_iload X37 hx (pc' := 133) (hb hby at_131) rfl rfl ?_
      refine own_icmpYes X37 hx (pc' := 156) (hb hby at_133) (feq hne).2 (by decide) (by decide) ?_
      refine own_dload X37 hx (pc' := 158) (hb hby at_156) rfl rfl ?_
      refine own_dload X37 hx (pc' := 160) (hb hby at_158) rfl rfl ?_
      refine own_dadd X37 hx (pc' := 161) (hb hby at_160) (own_nn2 p3 p5) rfl ?_
      refine own_dstore X37 hx (pc' := 163) (Ls' := #[.val (.int p0), .val (.int p1), .val (.int p2), .val (.int p3), .val (.int p4), .val (.int p5), .val (.int (Int32.ofNat A)), .val (.int (Int32.ofNat B)), .val (.int (Int32.ofNat A)), .val (.int (Int32.ofNat B)), .val (.int (p0 + (Int32.ofNat A))), .val (.int (p0 + (Int32.ofNat B))), .val (.double (FP.i2d p3)), .second, .val (.double (FP.i2d p4)), .second, .val (.double (FP.i2d p5)), .second, .val (.ref nb6), .val (.double (FP.dadd (FP.i2d p3) (FP.i2d p5))), .second, .unset, .unset, .unset]) (hb hby at_161) rfl rfl ?_
      refine own_dload X37 hx (pc' := 165) (hb hby at_163) rfl rfl ?_
      refine own_dstore X37 hx (pc' := 167) (Ls' := #[.val (.int p0), .val (.int p1), .val (.int p2), .val (.int p3), .val (.int p4), .val (.int p5), .val (.int (Int32.ofNat A)), .val (.int (Int32.ofNat B)), .val (.int (Int32.ofNat A)), .val (.int (Int32.ofNat B)), .val (.int (p0 + (Int32.ofNat A))), .val (.int (p0 + (Int32.ofNat B))), .val (.double (FP.i2d p3)), .second, .val (.double (FP.i2d p4)), .second, .val (.double (FP.i2d p5)), .second, .val (.ref nb6), .val (.double (FP.dadd (FP.i2d p3) (FP.i2d p5))), .second, .val (.double (FP.i2d p4)), .second, .unset]) (hb hby at_165) rfl rfl ?_
      refine own_iloadN X37 hx (pc' := 168) (hb hby at_167) rfl rfl ?_
      refine own_iload X37 hx (pc' := 170) (hb hby at_168) rfl rfl ?_
      refine own_iadd X37 hx (pc' := 171) (hb hby at_170) rfl rfl ?_
      refine own_istore X37 hx (pc' := 173) (Ls' := #[.val (.int p0), .val (.int p1), .val (.int p2), .val (.int p3), .val (.int p4), .val (.int p5), .val (.int (Int32.ofNat A)), .val (.int (Int32.ofNat B)), .val (.int (Int32.ofNat A)), .val (.int (Int32.ofNat B)), .val (.int (p0 + (Int32.ofNat A))), .val (.int (p0 + (Int32.ofNat B))), .val (.double (FP.i2d p3)), .second, .val (.double (FP.i2d p4)), .second, .val (.double (FP.i2d p5)), .second, .val (.ref nb6), .val (.double (FP.dadd (FP.i2d p3) (FP.i2d p5))), .second, .val (.double (FP.i2d p4)), .second, .val (.int (p0 + (Int32.ofNat B)))]) (hb hby at_171) rfl rfl ?_
      refine own_aload X37 hx (pc' := 175) (hb hby at_173) rfl rfl rfl ?_
      refine own_iload X37 hx (pc' := 177) (hb hby at_175) rfl rfl ?_
      refine own_callV X37 hx (pc' := 180) hZ hown (Wd39 hw) (Wd41 hw) (Wd42 hw) (Wd43 hw) (Wd10 hw) (by decide) (rm_sum l Z a0 hw [] nb6 su ho p0 hfb sfc A (p0 + (Int32.ofNat A)) T37.heap n0 Z39 hA (own_back p0 (Int32.ofNat A)) G1_37 G2_37 G3_37 G4_37 G5_37) rfl F40 0 (by decide) (by decide) (by decide) (by decide) [(.int (p0 + (Int32.ofNat A)))] [] (by rw [hml]; rfl) (lenOf pd_7 rfl) rfl rfl (Nat.le_of_eq rfl) (hb hby at_177) rfl (fun v41 T41 L41 X41 hQ41 => ?_)
      obtain ⟨hv41, Nq41, e41⟩ := hQ41
      have N42 := Fr.app N38 Nq41
      rw [v3] at hv41
      subst hv41
      show own_G p.tables e below _ T41 (mkF m 180 #[.val (.int p0), .val (.int p1), .val (.int p2), .val (.int p3), .val (.int p4), .val (.int p5), .val (.int (Int32.ofNat A)), .val (.int (Int32.ofNat B)), .val (.int (Int32.ofNat A)), .val (.int (Int32.ofNat B)), .val (.int (p0 + (Int32.ofNat A))), .val (.int (p0 + (Int32.ofNat B))), .val (.double (FP.i2d p3)), .second, .val (.double (FP.i2d p4)), .second, .val (.double (FP.i2d p5)), .second, .val (.ref nb6), .val (.double (FP.dadd (FP.i2d p3) (FP.i2d p5))), .second, .val (.double (FP.i2d p4)), .second, .val (.int (p0 + (Int32.ofNat B)))] [(.double (FP.dadd (FP.i2d p3) (FP.i2d p5)))])
      refine own_dload X41 hx (pc' := 182) (hb hby at_180) rfl rfl ?_
      refine own_dcmp X41 hx (pc' := 183) (0 : Int32) (hb hby at_182) (dcmpV_self (own_nn2 p3 p5) _) rfl ?_
      refine own_ifNo X41 hx (pc' := 186) (hb hby at_183) (teq rfl).2 rfl ?_
      refine own_aload X41 hx (pc' := 188) (hb hby at_186) rfl rfl rfl ?_
      refine own_iload X41 hx (pc' := 190) (hb hby at_188) rfl rfl ?_
      refine own_callV X41 hx (pc' := 193) hZ hown (Wd39 hw) (Wd41 hw) (Wd42 hw) (Wd43 hw) (Wd10 hw) (by decide) (rm_sum l Z a0 hw [] nb6 su ho p0 hfb sfc B (p0 + (Int32.ofNat B)) T37.heap n0 Z39 hB (own_back p0 (Int32.ofNat B)) G1_37 G2_37 G3_37 G4_37 G5_37) e41 F40 0 (by decide) (by decide) (by decide) (by decide) [(.int (p0 + (Int32.ofNat B)))] [] (by rw [hml]; rfl) (lenOf pd_7 rfl) rfl rfl (Nat.le_of_eq rfl) (hb hby at_190) rfl (fun v43 T43 L43 X43 hQ43 => ?_)
      obtain ⟨hv43, Nq43, e43⟩ := hQ43
      have N44 := Fr.app N42 Nq43
      rw [v3b] at hv43
      subst hv43
      show own_G p.tables e below _ T43 (mkF m 193 #[.val (.int p0), .val (.int p1), .val (.int p2), .val (.int p3), .val (.int p4), .val (.int p5), .val (.int (Int32.ofNat A)), .val (.int (Int32.ofNat B)), .val (.int (Int32.ofNat A)), .val (.int (Int32.ofNat B)), .val (.int (p0 + (Int32.ofNat A))), .val (.int (p0 + (Int32.ofNat B))), .val (.double (FP.i2d p3)), .second, .val (.double (FP.i2d p4)), .second, .val (.double (FP.i2d p5)), .second, .val (.ref nb6), .val (.double (FP.dadd (FP.i2d p3) (FP.i2d p5))), .second, .val (.double (FP.i2d p4)), .second, .val (.int (p0 + (Int32.ofNat B)))] [(.double (FP.i2d p4))])
      refine own_dload X43 hx (pc' := 195) (hb hby at_193) rfl rfl ?_
      refine own_dcmp X43 hx (pc' := 196) (0 : Int32) (hb hby at_195) (dcmpV_self (own_nn1 p4) _) rfl ?_
      refine own_ifNo X43 hx (pc' := 199) (hb hby at_196) (teq rfl).2 rfl ?_
      refine own_aload X43 hx (pc' := 201) (hb hby at_199) rfl rfl rfl ?_
      refine own_iloadN X43 hx (pc' := 202) (hb hby at_201) rfl rfl ?_
      refine own_callV X43 hx (pc' := 205) hZ hown (Wd44 hw) (Wd46 hw) (Wd47 hw) (Wd48 hw) (Wd10 hw) (by decide) (rm_next l Z a0 hw [] nb6 su ho p0 hfb sfc 0 p0 T37.heap n0 Z39 (by decide) (own_self0 p0) G1_37 G2_37 G3_37 G4_37 G5_37) e43 F40 0 (by decide) (by decide) (by decide) (by decide) [(.int p0)] [] (by rw [hml]; rfl) (lenOf pd_1 rfl) rfl rfl (Nat.le_of_eq rfl) (hb hby at_202) rfl (fun v45 T45 L45 X45 hQ45 => ?_)
      obtain ⟨hv45, Nq45, e45⟩ := hQ45
      have N46 := Fr.app N44 Nq45
      rw [own_next_lo hfb p0 A B 0 (by omega) hB hH (by omega)] at hv45
      subst hv45
      show own_G p.tables e below _ T45 (mkF m 205 #[.val (.int p0), .val (.int p1), .val (.int p2), .val (.int p3), .val (.int p4), .val (.int p5), .val (.int (Int32.ofNat A)), .val (.int (Int32.ofNat B)), .val (.int (Int32.ofNat A)), .val (.int (Int32.ofNat B)), .val (.int (p0 + (Int32.ofNat A))), .val (.int (p0 + (Int32.ofNat B))), .val (.double (FP.i2d p3)), .second, .val (.double (FP.i2d p4)), .second, .val (.double (FP.i2d p5)), .second, .val (.ref nb6), .val (.double (FP.dadd (FP.i2d p3) (FP.i2d p5))), .second, .val (.double (FP.i2d p4)), .second, .val (.int (p0 + (Int32.ofNat B)))] [(.int (p0 + (Int32.ofNat A)))])
      refine own_iloadN X45 hx (pc' := 206) (hb hby at_205) rfl rfl ?_
      refine own_iload X45 hx (pc' := 208) (hb hby at_206) rfl rfl ?_
      refine own_iadd X45 hx (pc' := 209) (hb hby at_208) rfl rfl ?_
      refine own_icmpNo X45 hx (pc' := 212) (hb hby at_209) (teq rfl).2 rfl ?_
      refine own_aload X45 hx (pc' := 214) (hb hby at_212) rfl rfl rfl ?_
      refine own_iloadN X45 hx (pc' := 215) (hb hby at_214) rfl rfl ?_
      refine own_iload X45 hx (pc' := 217) (hb hby at_215) rfl rfl ?_
      refine own_iadd X45 hx (pc' := 218) (hb hby at_217) rfl rfl ?_
      refine own_iconst X45 hx (pc' := 219) (1 : Int32) (hb hby at_218) rfl rfl ?_
      refine own_iadd X45 hx (pc' := 220) (hb hby at_219) rfl rfl ?_
      refine own_callV X45 hx (pc' := 223) hZ hown (Wd44 hw) (Wd46 hw) (Wd47 hw) (Wd48 hw) (Wd10 hw) (by decide) (rm_next l Z a0 hw [] nb6 su ho p0 hfb sfc (A + 1) ((p0 + (Int32.ofNat A)) + (1 : Int32)) T37.heap n0 Z39 (by omega) (own_back1 p0 A) G1_37 G2_37 G3_37 G4_37 G5_37) e45 F40 0 (by decide) (by decide) (by decide) (by decide) [(.int ((p0 + (Int32.ofNat A)) + (1 : Int32)))] [] (by rw [hml]; rfl) (lenOf pd_1 rfl) rfl rfl (Nat.le_of_eq rfl) (hb hby at_220) rfl (fun v47 T47 L47 X47 hQ47 => ?_)
      obtain ⟨hv47, Nq47, e47⟩ := hQ47
      have N48 := Fr.app N46 Nq47
      rw [own_next_hi hfb p0 A B (A + 1) hB hH (by omega) (by omega)] at hv47
      subst hv47
      show own_G p.tables e below _ T47 (mkF m 223 #[.val (.int p0), .val (.int p1), .val (.int p2), .val (.int p3), .val (.int p4), .val (.int p5), .val (.int (Int32.ofNat A)), .val (.int (Int32.ofNat B)), .val (.int (Int32.ofNat A)), .val (.int (Int32.ofNat B)), .val (.int (p0 + (Int32.ofNat A))), .val (.int (p0 + (Int32.ofNat B))), .val (.double (FP.i2d p3)), .second, .val (.double (FP.i2d p4)), .second, .val (.double (FP.i2d p5)), .second, .val (.ref nb6), .val (.double (FP.dadd (FP.i2d p3) (FP.i2d p5))), .second, .val (.double (FP.i2d p4)), .second, .val (.int (p0 + (Int32.ofNat B)))] [(.int (p0 + (Int32.ofNat B)))])
      refine own_iload X47 hx (pc' := 225) (hb hby at_223) rfl rfl ?_
      refine own_icmpNo X47 hx (pc' := 228) (hb hby at_225) (teq rfl).2 rfl ?_
      refine own_iconst X47 hx (pc' := 229) (1 : Int32) (hb hby at_228) rfl rfl ?_
      refine own_goto X47 hx (pc' := 233) (hb hby at_229) (by decide) (by decide) ?_
      refine own_retN X47 hx hlk hret (by simp) (hb hby at_233) (by decide) (by decide) ?_
      exact ⟨rfl, N48⟩
    · skip
      refine own_ifNo X3 hx (pc' := 45) (hb hby at_42) (flt (fun q => hc42_5 ((lw_lt ((p0.toInt64) + ((Int32.ofNat B).toInt64)) (2147483647 : Int64)).mp q))).1 rfl ?_
      refine own_iconst X3 hx (pc' := 46) (1 : Int32) (hb hby at_45) rfl rfl ?_
      refine own_retN X3 hx hlk hret (by simp) (hb hby at_46) (by decide) (by decide) ?_
      exact ⟨rfl, N4⟩
  · skip
    subst hAB
    refine own_iload X0 hx (pc' := 16) (hb hby at_14) rfl rfl ?_
    refine own_iload X0 hx (pc' := 18) (hb hby at_16) rfl rfl ?_
    refine own_callS X0 hx (pc' := 21) hZ hown (Wd0 hw) (Wd1 hw) (Wd2 hw) (Wd3 hw) (by decide) (rm_min l Z a0 hw [] (Int32.ofNat A) (Int32.ofNat A) h0 n0 Z0) e0 0 (by decide) (by decide) (by decide) (by decide) [(.int (Int32.ofNat A)), (.int (Int32.ofNat A))] [] (by rw [hml]; rfl) (lenOf pd_3 rfl) rfl rfl (Nat.le_of_eq rfl) (hb hby at_18) rfl (fun v49 T49 L49 X49 hQ49 => ?_)
    obtain ⟨rfl, Nq49, e49⟩ := hQ49
    have N50 := Fr.app N0 Nq49
    show own_G p.tables e below _ T49 (mkF m 21 #[.val (.int p0), .val (.int p1), .val (.int p2), .val (.int p3), .val (.int p4), .val (.int p5), .val (.int (Int32.ofNat A)), .val (.int (Int32.ofNat A)), .unset, .unset, .unset, .unset, .unset, .unset, .unset, .unset, .unset, .unset, .unset, .unset, .unset, .unset, .unset, .unset] [(.int (own_minI (Int32.ofNat A) (Int32.ofNat A)))])
    rw [own_mn hA hA (Nat.le_refl _)]
    refine own_istore X49 hx (pc' := 23) (Ls' := #[.val (.int p0), .val (.int p1), .val (.int p2), .val (.int p3), .val (.int p4), .val (.int p5), .val (.int (Int32.ofNat A)), .val (.int (Int32.ofNat A)), .val (.int (Int32.ofNat A)), .unset, .unset, .unset, .unset, .unset, .unset, .unset, .unset, .unset, .unset, .unset, .unset, .unset, .unset, .unset]) (hb hby at_21) rfl rfl ?_
    refine own_iload X49 hx (pc' := 25) (hb hby at_23) rfl rfl ?_
    refine own_iload X49 hx (pc' := 27) (hb hby at_25) rfl rfl ?_
    refine own_callS X49 hx (pc' := 30) hZ hown (Wd4 hw) (Wd5 hw) (Wd2 hw) (Wd6 hw) (by decide) (rm_max l Z a0 hw [] (Int32.ofNat A) (Int32.ofNat A) h0 n0 Z0) e49 0 (by decide) (by decide) (by decide) (by decide) [(.int (Int32.ofNat A)), (.int (Int32.ofNat A))] [] (by rw [hml]; rfl) (lenOf pd_3 rfl) rfl rfl (Nat.le_of_eq rfl) (hb hby at_27) rfl (fun v51 T51 L51 X51 hQ51 => ?_)
    obtain ⟨rfl, Nq51, e51⟩ := hQ51
    have N52 := Fr.app N50 Nq51
    show own_G p.tables e below _ T51 (mkF m 30 #[.val (.int p0), .val (.int p1), .val (.int p2), .val (.int p3), .val (.int p4), .val (.int p5), .val (.int (Int32.ofNat A)), .val (.int (Int32.ofNat A)), .val (.int (Int32.ofNat A)), .unset, .unset, .unset, .unset, .unset, .unset, .unset, .unset, .unset, .unset, .unset, .unset, .unset, .unset, .unset] [(.int (own_maxI (Int32.ofNat A) (Int32.ofNat A)))])
    rw [own_mx hA hA (Nat.le_refl _)]
    refine own_istore X51 hx (pc' := 32) (Ls' := #[.val (.int p0), .val (.int p1), .val (.int p2), .val (.int p3), .val (.int p4), .val (.int p5), .val (.int (Int32.ofNat A)), .val (.int (Int32.ofNat A)), .val (.int (Int32.ofNat A)), .val (.int (Int32.ofNat A)), .unset, .unset, .unset, .unset, .unset, .unset, .unset, .unset, .unset, .unset, .unset, .unset, .unset, .unset]) (hb hby at_30) rfl rfl ?_
    refine own_iloadN X51 hx (pc' := 33) (hb hby at_32) rfl rfl ?_
    refine own_i2l X51 hx (pc' := 34) (hb hby at_33) rfl ?_
    refine own_iload X51 hx (pc' := 36) (hb hby at_34) rfl rfl ?_
    refine own_i2l X51 hx (pc' := 37) (hb hby at_36) rfl ?_
    refine own_ladd X51 hx (pc' := 38) (hb hby at_37) rfl rfl ?_
    refine own_ldc2J X51 hx (pc' := 41) hZ hown (Wd7 hw) (hb hby at_38) rfl ?_
    refine own_lcmp X51 hx (pc' := 42) (hb hby at_41) rfl ?_
    by_cases hc42_53 : ((p0.toInt64) + ((Int32.ofNat A).toInt64)) < (2147483647 : Int64)
    · skip
      refine own_ifYes X51 hx (pc' := 47) (hb hby at_42) (tlt ((lw_lt ((p0.toInt64) + ((Int32.ofNat A).toInt64)) (2147483647 : Int64)).mpr hc42_53)).1 (by decide) (by decide) ?_
      refine own_iloadN X51 hx (pc' := 48) (hb hby at_47) rfl rfl ?_
      refine own_iload X51 hx (pc' := 50) (hb hby at_48) rfl rfl ?_
      refine own_iadd X51 hx (pc' := 51) (hb hby at_50) rfl rfl ?_
      refine own_istore X51 hx (pc' := 53) (Ls' := #[.val (.int p0), .val (.int p1), .val (.int p2), .val (.int p3), .val (.int p4), .val (.int p5), .val (.int (Int32.ofNat A)), .val (.int (Int32.ofNat A)), .val (.int (Int32.ofNat A)), .val (.int (Int32.ofNat A)), .val (.int (p0 + (Int32.ofNat A))), .unset, .unset, .unset, .unset, .unset, .unset, .unset, .unset, .unset, .unset, .unset, .unset, .unset]) (hb hby at_51) rfl rfl ?_
      refine own_iloadN X51 hx (pc' := 54) (hb hby at_53) rfl rfl ?_
      refine own_iload X51 hx (pc' := 56) (hb hby at_54) rfl rfl ?_
      refine own_iadd X51 hx (pc' := 57) (hb hby at_56) rfl rfl ?_
      refine own_istore X51 hx (pc' := 59) (Ls' := #[.val (.int p0), .val (.int p1), .val (.int p2), .val (.int p3), .val (.int p4), .val (.int p5), .val (.int (Int32.ofNat A)), .val (.int (Int32.ofNat A)), .val (.int (Int32.ofNat A)), .val (.int (Int32.ofNat A)), .val (.int (p0 + (Int32.ofNat A))), .val (.int (p0 + (Int32.ofNat A))), .unset, .unset, .unset, .unset, .unset, .unset, .unset, .unset, .unset, .unset, .unset, .unset]) (hb hby at_57) rfl rfl ?_
      refine own_iloadN X51 hx (pc' := 60) (hb hby at_59) rfl rfl ?_
      refine own_i2d X51 hx (pc' := 61) (hb hby at_60) rfl ?_
      refine own_dstore X51 hx (pc' := 63) (Ls' := #[.val (.int p0), .val (.int p1), .val (.int p2), .val (.int p3), .val (.int p4), .val (.int p5), .val (.int (Int32.ofNat A)), .val (.int (Int32.ofNat A)), .val (.int (Int32.ofNat A)), .val (.int (Int32.ofNat A)), .val (.int (p0 + (Int32.ofNat A))), .val (.int (p0 + (Int32.ofNat A))), .val (.double (FP.i2d p3)), .second, .unset, .unset, .unset, .unset, .unset, .unset, .unset, .unset, .unset, .unset]) (hb hby at_61) rfl rfl ?_
      refine own_iload X51 hx (pc' := 65) (hb hby at_63) rfl rfl ?_
      refine own_i2d X51 hx (pc' := 66) (hb hby at_65) rfl ?_
      refine own_dstore X51 hx (pc' := 68) (Ls' := #[.val (.int p0), .val (.int p1), .val (.int p2), .val (.int p3), .val (.int p4), .val (.int p5), .val (.int (Int32.ofNat A)), .val (.int (Int32.ofNat A)), .val (.int (Int32.ofNat A)), .val (.int (Int32.ofNat A)), .val (.int (p0 + (Int32.ofNat A))), .val (.int (p0 + (Int32.ofNat A))), .val (.double (FP.i2d p3)), .second, .val (.double (FP.i2d p4)), .second, .unset, .unset, .unset, .unset, .unset, .unset, .unset, .unset]) (hb hby at_66) rfl rfl ?_
      refine own_iload X51 hx (pc' := 70) (hb hby at_68) rfl rfl ?_
      refine own_i2d X51 hx (pc' := 71) (hb hby at_70) rfl ?_
      refine own_dstore X51 hx (pc' := 73) (Ls' := #[.val (.int p0), .val (.int p1), .val (.int p2), .val (.int p3), .val (.int p4), .val (.int p5), .val (.int (Int32.ofNat A)), .val (.int (Int32.ofNat A)), .val (.int (Int32.ofNat A)), .val (.int (Int32.ofNat A)), .val (.int (p0 + (Int32.ofNat A))), .val (.int (p0 + (Int32.ofNat A))), .val (.double (FP.i2d p3)), .second, .val (.double (FP.i2d p4)), .second, .val (.double (FP.i2d p5)), .second, .unset, .unset, .unset, .unset, .unset, .unset]) (hb hby at_71) rfl rfl ?_
      refine own_new X51 hx (pc' := 76) hZ hown (Wd8 hw) (Wd9 hw) (Wd10 hw) e51 (hb hby at_73) (by decide) (by decide) rfl (fun T54 h54 nb54 g54 X54 e54 E54 A54 D54 => ?_)
      have ge_nb54 : n0 ≤ nb54 := Nat.le_trans Z0 (Nat.le_of_eq g54.symm)
      have Z55 : n0 ≤ h54.size := Nat.le_trans Z0 E54.1
      have F56 : Fld Z h54 nb54 "com/example/mixed_likelihood/mixedlikelihood/search/GainWindow" "sums" "[D" .null := D54 (Or.inr (Wd19 hw)) (ty := (.array .double)) (by decide)
      have F57 : Fld Z h54 nb54 "com/example/mixed_likelihood/mixedlikelihood/search/GainWindow" "holding" "[J" .null := D54 (Or.inr (Wd22 hw)) (ty := (.array .long)) (by decide)
      have F58 : Fld Z h54 nb54 "com/example/mixed_likelihood/mixedlikelihood/search/GainWindow" "start" "I" (.int (0 : Int32)) := D54 (Or.inl (Wd29 hw)) (ty := .int) (by decide)
      refine own_dup X54 hx (pc' := 77) (hb hby at_76) rfl rfl ?_
      refine own_callI X54 hx (pc' := 80) hZ rfl hown (Wd11 hw) (Wd12 hw) (Wd13 hw) (Wd10 hw) (by decide) (rm_init l Z a0 hw [] nb54 h54 n0 Z55 ge_nb54 A54 F56 F57 F58) e54 (b := nb54) 1 (by decide) (by decide) (by decide) (by decide) [] [(.ref nb54)] (by rw [hml]; rfl) (lenOf pd_4 rfl) rfl rfl (Nat.le_of_eq rfl) (hb hby at_77) rfl (fun v59 T59 L59 X59 hQ59 => ?_)
      obtain ⟨rfl, Nq59, K59, su, ho, ⟨g_su, g_ho⟩, ⟨d1, d2, d3⟩, G1_59, G2_59, G3_59, G4_59, G5_59⟩ := hQ59
      have N60 := Fr.app N52 Nq59
      have Z61 : n0 ≤ T59.heap.size := Nat.le_trans Z55 K59.1
      have F62 := (Exa.keep A54 K59)
      show own_G p.tables e below _ T59 (mkF m 80 #[.val (.int p0), .val (.int p1), .val (.int p2), .val (.int p3), .val (.int p4), .val (.int p5), .val (.int (Int32.ofNat A)), .val (.int (Int32.ofNat A)), .val (.int (Int32.ofNat A)), .val (.int (Int32.ofNat A)), .val (.int (p0 + (Int32.ofNat A))), .val (.int (p0 + (Int32.ofNat A))), .val (.double (FP.i2d p3)), .second, .val (.double (FP.i2d p4)), .second, .val (.double (FP.i2d p5)), .second, .unset, .unset, .unset, .unset, .unset, .unset] [(.ref nb54)])
      refine own_astore X59 hx (pc' := 82) (Ls' := #[.val (.int p0), .val (.int p1), .val (.int p2), .val (.int p3), .val (.int p4), .val (.int p5), .val (.int (Int32.ofNat A)), .val (.int (Int32.ofNat A)), .val (.int (Int32.ofNat A)), .val (.int (Int32.ofNat A)), .val (.int (p0 + (Int32.ofNat A))), .val (.int (p0 + (Int32.ofNat A))), .val (.double (FP.i2d p3)), .second, .val (.double (FP.i2d p4)), .second, .val (.double (FP.i2d p5)), .second, .val (.ref nb54), .unset, .unset, .unset, .unset, .unset]) (hb hby at_80) rfl rfl rfl ?_
      refine own_aload X59 hx (pc' := 84) (hb hby at_82) rfl rfl rfl ?_
      refine own_iloadN X59 hx (pc' := 85) (hb hby at_84) rfl rfl ?_
      refine own_callV X59 hx (pc' := 88) hZ hown (Wd23 hw) (Wd25 hw) (Wd26 hw) (Wd27 hw) (Wd10 hw) (by decide) (rm_move l Z a0 hw [] nb54 su ho (0 : Int32) (fun _ => (0 : Int64)) (fun _ => (0 : UInt64)) p0 T59.heap n0 Z61 ge_nb54 g_su g_ho d1 d2 d3 F62 G1_59 G2_59 G3_59 G4_59 G5_59) rfl F62 0 (by decide) (by decide) (by decide) (by decide) [(.int p0)] [] (by rw [hml]; rfl) (lenOf pd_5 rfl) rfl rfl (Nat.le_of_eq rfl) (hb hby at_85) rfl (fun v63 T63 L63 X63 hQ63 => ?_)
      obtain ⟨rfl, Nq63, K63, G1_63, G2_63, G3_63, G4_63, G5_63⟩ := hQ63
      have N64 := Fr.app N60 Nq63
      have Z65 : n0 ≤ T63.heap.size := Nat.le_trans Z61 K63.1
      have F66 := (Exa.keep F62 K63)
      have F67 := (G5_59.keep K63 (ninS (Ne.symm d1) (ninS d3 nin0)))
      show own_G p.tables e below _ T63 (mkF m 88 #[.val (.int p0), .val (.int p1), .val (.int p2), .val (.int p3), .val (.int p4), .val (.int p5), .val (.int (Int32.ofNat A)), .val (.int (Int32.ofNat A)), .val (.int (Int32.ofNat A)), .val (.int (Int32.ofNat A)), .val (.int (p0 + (Int32.ofNat A))), .val (.int (p0 + (Int32.ofNat A))), .val (.double (FP.i2d p3)), .second, .val (.double (FP.i2d p4)), .second, .val (.double (FP.i2d p5)), .second, .val (.ref nb54), .unset, .unset, .unset, .unset, .unset] [])
      refine own_aload X63 hx (pc' := 90) (hb hby at_88) rfl rfl rfl ?_
      refine own_iload X63 hx (pc' := 92) (hb hby at_90) rfl rfl ?_
      refine own_dconst1 X63 hx (pc' := 93) (hb hby at_92) rfl ?_
      refine own_callV X63 hx (pc' := 96) hZ hown (Wd34 hw) (Wd36 hw) (Wd37 hw) (Wd38 hw) (Wd10 hw) (by decide) (rm_aF l Z a0 hw [] nb54 su ho p0 (fun _ => (0 : Int64)) (fun _ => (0 : UInt64)) A (p0 + (Int32.ofNat A)) FP.dconst1 T63.heap n0 Z65 ge_nb54 g_su g_ho d1 d2 d3 F66 hA (own_back p0 (Int32.ofNat A)) (own_z A hA) G1_63 G2_63 G3_63 G4_63 G5_63) rfl F66 0 (by decide) (by decide) (by decide) (by decide) [(.int (p0 + (Int32.ofNat A))), (.double FP.dconst1)] [] (by rw [hml]; rfl) (lenOf pd_6 rfl) rfl rfl (Nat.le_of_eq rfl) (hb hby at_93) rfl (fun v68 T68 L68 X68 hQ68 => ?_)
      obtain ⟨rfl, Nq68, K68, G1_68, G2_68, G3_68, G4_68, G5_68⟩ := hQ68
      have N69 := Fr.app N64 Nq68
      have Z70 : n0 ≤ T68.heap.size := Nat.le_trans Z65 K68.1
      have F71 := (Exa.keep F66 K68)
      show own_G p.tables e below _ T68 (mkF m 96 #[.val (.int p0), .val (.int p1), .val (.int p2), .val (.int p3), .val (.int p4), .val (.int p5), .val (.int (Int32.ofNat A)), .val (.int (Int32.ofNat A)), .val (.int (Int32.ofNat A)), .val (.int (Int32.ofNat A)), .val (.int (p0 + (Int32.ofNat A))), .val (.int (p0 + (Int32.ofNat A))), .val (.double (FP.i2d p3)), .second, .val (.double (FP.i2d p4)), .second, .val (.double (FP.i2d p5)), .second, .val (.ref nb54), .unset, .unset, .unset, .unset, .unset] [])
      refine own_aload X68 hx (pc' := 98) (hb hby at_96) rfl rfl rfl ?_
      refine own_iloadN X68 hx (pc' := 99) (hb hby at_98) rfl rfl ?_
      refine own_callV X68 hx (pc' := 102) hZ hown (Wd23 hw) (Wd25 hw) (Wd26 hw) (Wd27 hw) (Wd10 hw) (by decide) (rm_move l Z a0 hw [] nb54 su ho p0 (own_upd (fun _ => (0 : Int64)) (A / 64) ((fun _ => (0 : Int64)) (A / 64) ||| own_bit A)) (own_upd (fun _ => (0 : UInt64)) A FP.dconst1) p0 T68.heap n0 Z70 ge_nb54 g_su g_ho d1 d2 d3 F71 G1_68 G2_68 G3_68 G4_68 G5_68) rfl F71 0 (by decide) (by decide) (by decide) (by decide) [(.int p0)] [] (by rw [hml]; rfl) (lenOf pd_5 rfl) rfl rfl (Nat.le_of_eq rfl) (hb hby at_99) rfl (fun v72 T72 L72 X72 hQ72 => ?_)
      obtain ⟨rfl, Nq72, K72, G1_72, G2_72, G3_72, G4_72, G5_72⟩ := hQ72
      have N73 := Fr.app N69 Nq72
      have Z74 : n0 ≤ T72.heap.size := Nat.le_trans Z70 K72.1
      have F75 := (Exa.keep F71 K72)
      have F76 := (G5_68.keep K72 (ninS (Ne.symm d1) (ninS d3 nin0)))
      show own_G p.tables e below _ T72 (mkF m 102 #[.val (.int p0), .val (.int p1), .val (.int p2), .val (.int p3), .val (.int p4), .val (.int p5), .val (.int (Int32.ofNat A)), .val (.int (Int32.ofNat A)), .val (.int (Int32.ofNat A)), .val (.int (Int32.ofNat A)), .val (.int (p0 + (Int32.ofNat A))), .val (.int (p0 + (Int32.ofNat A))), .val (.double (FP.i2d p3)), .second, .val (.double (FP.i2d p4)), .second, .val (.double (FP.i2d p5)), .second, .val (.ref nb54), .unset, .unset, .unset, .unset, .unset] [])
      refine own_aload X72 hx (pc' := 104) (hb hby at_102) rfl rfl rfl ?_
      refine own_iload X72 hx (pc' := 106) (hb hby at_104) rfl rfl ?_
      refine own_dload X72 hx (pc' := 108) (hb hby at_106) rfl rfl ?_
      refine own_callV X72 hx (pc' := 111) hZ hown (Wd34 hw) (Wd36 hw) (Wd37 hw) (Wd38 hw) (Wd10 hw) (by decide) (rm_aF l Z a0 hw [] nb54 su ho p0 (fun _ => (0 : Int64)) (own_upd (fun _ => (0 : UInt64)) A FP.dconst1) A (p0 + (Int32.ofNat A)) (FP.i2d p3) T72.heap n0 Z74 ge_nb54 g_su g_ho d1 d2 d3 F75 hA (own_back p0 (Int32.ofNat A)) (own_z A hA) G1_72 G2_72 G3_72 G4_72 G5_72) rfl F75 0 (by decide) (by decide) (by decide) (by decide) [(.int (p0 + (Int32.ofNat A))), (.double (FP.i2d p3))] [] (by rw [hml]; rfl) (lenOf pd_6 rfl) rfl rfl (Nat.le_of_eq rfl) (hb hby at_108) rfl (fun v77 T77 L77 X77 hQ77 => ?_)
      obtain ⟨rfl, Nq77, K77, G1_77, G2_77, G3_77, G4_77, G5_77⟩ := hQ77
      have N78 := Fr.app N73 Nq77
      have Z79 : n0 ≤ T77.heap.size := Nat.le_trans Z74 K77.1
      have F80 := (Exa.keep F75 K77)
      obtain ⟨hfa, e_hfa⟩ : ∃ f : Nat → Int64, f = (own_upd (fun _ => (0 : Int64)) (A / 64) ((fun _ => (0 : Int64)) (A / 64) ||| own_bit A)) := ⟨_, rfl⟩
      obtain ⟨sfa, e_sfa⟩ : ∃ f : Nat → UInt64, f = (own_upd (own_upd (fun _ => (0 : UInt64)) A FP.dconst1) A (FP.i2d p3)) := ⟨_, rfl⟩
      rw [← e_hfa] at G4_77
      rw [← e_sfa] at G5_77
      show own_G p.tables e below _ T77 (mkF m 111 #[.val (.int p0), .val (.int p1), .val (.int p2), .val (.int p3), .val (.int p4), .val (.int p5), .val (.int (Int32.ofNat A)), .val (.int (Int32.ofNat A)), .val (.int (Int32.ofNat A)), .val (.int (Int32.ofNat A)), .val (.int (p0 + (Int32.ofNat A))), .val (.int (p0 + (Int32.ofNat A))), .val (.double (FP.i2d p3)), .second, .val (.double (FP.i2d p4)), .second, .val (.double (FP.i2d p5)), .second, .val (.ref nb54), .unset, .unset, .unset, .unset, .unset] [])
      have v1 : sfa A = FP.i2d p3 := by rw [e_sfa]; exact own_upd_same _ _ _
      have w1 : hfa (A / 64) = (0 : Int64) ||| own_bit A := by rw [e_hfa]; exact own_upd_same _ _ _
      have w2 : ∀ q, q ≠ A / 64 → hfa q = 0 := fun q hq => by rw [e_hfa]; exact own_upd_other _ _ hq
      refine own_aload X77 hx (pc' := 113) (hb hby at_111) rfl rfl rfl ?_
      refine own_iload X77 hx (pc' := 115) (hb hby at_113) rfl rfl ?_
      refine own_dload X77 hx (pc' := 117) (hb hby at_115) rfl rfl ?_
      refine own_callV X77 hx (pc' := 120) hZ hown (Wd34 hw) (Wd36 hw) (Wd37 hw) (Wd38 hw) (Wd10 hw) (by decide) (rm_aH l Z a0 hw [] nb54 su ho p0 hfa sfa A (p0 + (Int32.ofNat A)) (FP.i2d p4) T77.heap n0 Z79 ge_nb54 g_su g_ho d1 d2 d3 F80 hA (own_back p0 (Int32.ofNat A)) (by rw [w1]; exact own_ne1 A hA) (by rw [v1]; exact own_nn2 p3 p4) G1_77 G2_77 G3_77 G4_77 G5_77) rfl F80 0 (by decide) (by decide) (by decide) (by decide) [(.int (p0 + (Int32.ofNat A))), (.double (FP.i2d p4))] [] (by rw [hml]; rfl) (lenOf pd_6 rfl) rfl rfl (Nat.le_of_eq rfl) (hb hby at_117) rfl (fun v81 T81 L81 X81 hQ81 => ?_)
      obtain ⟨rfl, Nq81, K81, G1_81, G2_81, G3_81, G4_81, G5_81⟩ := hQ81
      have N82 := Fr.app N78 Nq81
      have Z83 : n0 ≤ T81.heap.size := Nat.le_trans Z79 K81.1
      have F84 := (Exa.keep F80 K81)
      obtain ⟨hfb, e_hfb⟩ : ∃ f : Nat → Int64, f = hfa := ⟨_, rfl⟩
      obtain ⟨sfb, e_sfb⟩ : ∃ f : Nat → UInt64, f = (own_upd sfa A (FP.dadd (sfa A) (FP.i2d p4))) := ⟨_, rfl⟩
      have G4_81' := G4_81
      rw [← e_sfb] at G5_81
      show own_G p.tables e below _ T81 (mkF m 120 #[.val (.int p0), .val (.int p1), .val (.int p2), .val (.int p3), .val (.int p4), .val (.int p5), .val (.int (Int32.ofNat A)), .val (.int (Int32.ofNat A)), .val (.int (Int32.ofNat A)), .val (.int (Int32.ofNat A)), .val (.int (p0 + (Int32.ofNat A))), .val (.int (p0 + (Int32.ofNat A))), .val (.double (FP.i2d p3)), .second, .val (.double (FP.i2d p4)), .second, .val (.double (FP.i2d p5)), .second, .val (.ref nb54), .unset, .unset, .unset, .unset, .unset] [])
      have v2 : sfb A = FP.dadd (FP.i2d p3) (FP.i2d p4) := by rw [e_sfb, own_upd_same, v1]
      refine own_aload X81 hx (pc' := 122) (hb hby at_120) rfl rfl rfl ?_
      refine own_iload X81 hx (pc' := 124) (hb hby at_122) rfl rfl ?_
      refine own_dload X81 hx (pc' := 126) (hb hby at_124) rfl rfl ?_
      refine own_callV X81 hx (pc' := 129) hZ hown (Wd34 hw) (Wd36 hw) (Wd37 hw) (Wd38 hw) (Wd10 hw) (by decide) (rm_aH l Z a0 hw [] nb54 su ho p0 hfa sfb A (p0 + (Int32.ofNat A)) (FP.i2d p5) T81.heap n0 Z83 ge_nb54 g_su g_ho d1 d2 d3 F84 hA (own_back p0 (Int32.ofNat A)) (by rw [w1]; exact own_ne1 A hA) (by rw [v2]; exact own_nn3 p3 p4 p5) G1_81 G2_81 G3_81 G4_81 G5_81) rfl F84 0 (by decide) (by decide) (by decide) (by decide) [(.int (p0 + (Int32.ofNat A))), (.double (FP.i2d p5))] [] (by rw [hml]; rfl) (lenOf pd_6 rfl) rfl rfl (Nat.le_of_eq rfl) (hb hby at_126) rfl (fun v85 T85 L85 X85 hQ85 => ?_)
      obtain ⟨rfl, Nq85, K85, G1_85, G2_85, G3_85, G4_85, G5_85⟩ := hQ85
      have N86 := Fr.app N82 Nq85
      have Z87 : n0 ≤ T85.heap.size := Nat.le_trans Z83 K85.1
      have F88 := (Exa.keep F84 K85)
      obtain ⟨hfc, e_hfc⟩ : ∃ f : Nat → Int64, f = hfa := ⟨_, rfl⟩
      obtain ⟨sfc, e_sfc⟩ : ∃ f : Nat → UInt64, f = (own_upd sfb A (FP.dadd (sfb A) (FP.i2d p5))) := ⟨_, rfl⟩
      have G4_85' := G4_85
      rw [← e_sfc] at G5_85
      show own_G p.tables e below _ T85 (mkF m 129 #[.val (.int p0), .val (.int p1), .val (.int p2), .val (.int p3), .val (.int p4), .val (.int p5), .val (.int (Int32.ofNat A)), .val (.int (Int32.ofNat A)), .val (.int (Int32.ofNat A)), .val (.int (Int32.ofNat A)), .val (.int (p0 + (Int32.ofNat A))), .val (.int (p0 + (Int32.ofNat A))), .val (.double (FP.i2d p3)), .second, .val (.double (FP.i2d p4)), .second, .val (.double (FP.i2d p5)), .second, .val (.ref nb54), .unset, .unset, .unset, .unset, .unset] [])
      have v3 : sfc A = FP.dadd (FP.dadd (FP.i2d p3) (FP.i2d p4)) (FP.i2d p5) := by rw [e_sfc, own_upd_same, v2]
      have hH := own_words1 w1 w2
      refine own_iload X85 hx (pc' := 131) (hb hby at_129) rfl rfl ?_
      refine own_iload X85 hx (pc' := 133) (hb hby at_131) rfl rfl ?_
      refine own_icmpNo X85 hx (pc' := 136) (hb hby at_133) (teq rfl).2 rfl ?_
      refine own_dload X85 hx (pc' := 138) (hb hby at_136) rfl rfl ?_
      refine own_dload X85 hx (pc' := 140) (hb hby at_138) rfl rfl ?_
      refine own_dadd X85 hx (pc' := 141) (hb hby at_140) (own_nn2 p3 p4) rfl ?_
      refine own_dload X85 hx (pc' := 143) (hb hby at_141) rfl rfl ?_
      refine own_dadd X85 hx (pc' := 144) (hb hby at_143) (own_nn3 p3 p4 p5) rfl ?_
      refine own_dstore X85 hx (pc' := 146) (Ls' := #[.val (.int p0), .val (.int p1), .val (.int p2), .val (.int p3), .val (.int p4), .val (.int p5), .val (.int (Int32.ofNat A)), .val (.int (Int32.ofNat A)), .val (.int (Int32.ofNat A)), .val (.int (Int32.ofNat A)), .val (.int (p0 + (Int32.ofNat A))), .val (.int (p0 + (Int32.ofNat A))), .val (.double (FP.i2d p3)), .second, .val (.double (FP.i2d p4)), .second, .val (.double (FP.i2d p5)), .second, .val (.ref nb54), .val (.double (FP.dadd (FP.dadd (FP.i2d p3) (FP.i2d p4)) (FP.i2d p5))), .second, .unset, .unset, .unset]) (hb hby at_144) rfl rfl ?_
      refine own_dload X85 hx (pc' := 148) (hb hby at_146) rfl rfl ?_
      refine own_dstore X85 hx (pc' := 150) (Ls' := #[.val (.int p0), .val (.int p1), .val (.int p2), .val (.int p3), .val (.int p4), .val (.int p5), .val (.int (Int32.ofNat A)), .val (.int (Int32.ofNat A)), .val (.int (Int32.ofNat A)), .val (.int (Int32.ofNat A)), .val (.int (p0 + (Int32.ofNat A))), .val (.int (p0 + (Int32.ofNat A))), .val (.double (FP.i2d p3)), .second, .val (.double (FP.i2d p4)), .second, .val (.double (FP.i2d p5)), .second, .val (.ref nb54), .val (.double (FP.dadd (FP.dadd (FP.i2d p3) (FP.i2d p4)) (FP.i2d p5))), .second, .val (.double (FP.dadd (FP.dadd (FP.i2d p3) (FP.i2d p4)) (FP.i2d p5))), .second, .unset]) (hb hby at_148) rfl rfl ?_
      refine own_iconst X85 hx (pc' := 151) (-1 : Int32) (hb hby at_150) rfl rfl ?_
      refine own_istore X85 hx (pc' := 153) (Ls' := #[.val (.int p0), .val (.int p1), .val (.int p2), .val (.int p3), .val (.int p4), .val (.int p5), .val (.int (Int32.ofNat A)), .val (.int (Int32.ofNat A)), .val (.int (Int32.ofNat A)), .val (.int (Int32.ofNat A)), .val (.int (p0 + (Int32.ofNat A))), .val (.int (p0 + (Int32.ofNat A))), .val (.double (FP.i2d p3)), .second, .val (.double (FP.i2d p4)), .second, .val (.double (FP.i2d p5)), .second, .val (.ref nb54), .val (.double (FP.dadd (FP.dadd (FP.i2d p3) (FP.i2d p4)) (FP.i2d p5))), .second, .val (.double (FP.dadd (FP.dadd (FP.i2d p3) (FP.i2d p4)) (FP.i2d p5))), .second, .val (.int (-1 : Int32))]) (hb hby at_151) rfl rfl ?_
      refine own_goto X85 hx (pc' := 173) (hb hby at_153) (by decide) (by decide) ?_
      refine own_aload X85 hx (pc' := 175) (hb hby at_173) rfl rfl rfl ?_
      refine own_iload X85 hx (pc' := 177) (hb hby at_175) rfl rfl ?_
      refine own_callV X85 hx (pc' := 180) hZ hown (Wd39 hw) (Wd41 hw) (Wd42 hw) (Wd43 hw) (Wd10 hw) (by decide) (rm_sum l Z a0 hw [] nb54 su ho p0 hfa sfc A (p0 + (Int32.ofNat A)) T85.heap n0 Z87 hA (own_back p0 (Int32.ofNat A)) G1_85 G2_85 G3_85 G4_85 G5_85) rfl F88 0 (by decide) (by decide) (by decide) (by decide) [(.int (p0 + (Int32.ofNat A)))] [] (by rw [hml]; rfl) (lenOf pd_7 rfl) rfl rfl (Nat.le_of_eq rfl) (hb hby at_177) rfl (fun v89 T89 L89 X89 hQ89 => ?_)
      obtain ⟨hv89, Nq89, e89⟩ := hQ89
      have N90 := Fr.app N86 Nq89
      rw [v3] at hv89
      subst hv89
      show own_G p.tables e below _ T89 (mkF m 180 #[.val (.int p0), .val (.int p1), .val (.int p2), .val (.int p3), .val (.int p4), .val (.int p5), .val (.int (Int32.ofNat A)), .val (.int (Int32.ofNat A)), .val (.int (Int32.ofNat A)), .val (.int (Int32.ofNat A)), .val (.int (p0 + (Int32.ofNat A))), .val (.int (p0 + (Int32.ofNat A))), .val (.double (FP.i2d p3)), .second, .val (.double (FP.i2d p4)), .second, .val (.double (FP.i2d p5)), .second, .val (.ref nb54), .val (.double (FP.dadd (FP.dadd (FP.i2d p3) (FP.i2d p4)) (FP.i2d p5))), .second, .val (.double (FP.dadd (FP.dadd (FP.i2d p3) (FP.i2d p4)) (FP.i2d p5))), .second, .val (.int (-1 : Int32))] [(.double (FP.dadd (FP.dadd (FP.i2d p3) (FP.i2d p4)) (FP.i2d p5)))])
      refine own_dload X89 hx (pc' := 182) (hb hby at_180) rfl rfl ?_
      refine own_dcmp X89 hx (pc' := 183) (0 : Int32) (hb hby at_182) (dcmpV_self (own_nn3 p3 p4 p5) _) rfl ?_
      refine own_ifNo X89 hx (pc' := 186) (hb hby at_183) (teq rfl).2 rfl ?_
      refine own_aload X89 hx (pc' := 188) (hb hby at_186) rfl rfl rfl ?_
      refine own_iload X89 hx (pc' := 190) (hb hby at_188) rfl rfl ?_
      refine own_callV X89 hx (pc' := 193) hZ hown (Wd39 hw) (Wd41 hw) (Wd42 hw) (Wd43 hw) (Wd10 hw) (by decide) (rm_sum l Z a0 hw [] nb54 su ho p0 hfa sfc A (p0 + (Int32.ofNat A)) T85.heap n0 Z87 hA (own_back p0 (Int32.ofNat A)) G1_85 G2_85 G3_85 G4_85 G5_85) e89 F88 0 (by decide) (by decide) (by decide) (by decide) [(.int (p0 + (Int32.ofNat A)))] [] (by rw [hml]; rfl) (lenOf pd_7 rfl) rfl rfl (Nat.le_of_eq rfl) (hb hby at_190) rfl (fun v91 T91 L91 X91 hQ91 => ?_)
      obtain ⟨hv91, Nq91, e91⟩ := hQ91
      have N92 := Fr.app N90 Nq91
      rw [v3] at hv91
      subst hv91
      show own_G p.tables e below _ T91 (mkF m 193 #[.val (.int p0), .val (.int p1), .val (.int p2), .val (.int p3), .val (.int p4), .val (.int p5), .val (.int (Int32.ofNat A)), .val (.int (Int32.ofNat A)), .val (.int (Int32.ofNat A)), .val (.int (Int32.ofNat A)), .val (.int (p0 + (Int32.ofNat A))), .val (.int (p0 + (Int32.ofNat A))), .val (.double (FP.i2d p3)), .second, .val (.double (FP.i2d p4)), .second, .val (.double (FP.i2d p5)), .second, .val (.ref nb54), .val (.double (FP.dadd (FP.dadd (FP.i2d p3) (FP.i2d p4)) (FP.i2d p5))), .second, .val (.double (FP.dadd (FP.dadd (FP.i2d p3) (FP.i2d p4)) (FP.i2d p5))), .second, .val (.int (-1 : Int32))] [(.double (FP.dadd (FP.dadd (FP.i2d p3) (FP.i2d p4)) (FP.i2d p5)))])
      refine own_dload X91 hx (pc' := 195) (hb hby at_193) rfl rfl ?_
      refine own_dcmp X91 hx (pc' := 196) (0 : Int32) (hb hby at_195) (dcmpV_self (own_nn3 p3 p4 p5) _) rfl ?_
      refine own_ifNo X91 hx (pc' := 199) (hb hby at_196) (teq rfl).2 rfl ?_
      refine own_aload X91 hx (pc' := 201) (hb hby at_199) rfl rfl rfl ?_
      refine own_iloadN X91 hx (pc' := 202) (hb hby at_201) rfl rfl ?_
      refine own_callV X91 hx (pc' := 205) hZ hown (Wd44 hw) (Wd46 hw) (Wd47 hw) (Wd48 hw) (Wd10 hw) (by decide) (rm_next l Z a0 hw [] nb54 su ho p0 hfa sfc 0 p0 T85.heap n0 Z87 (by decide) (own_self0 p0) G1_85 G2_85 G3_85 G4_85 G5_85) e91 F88 0 (by decide) (by decide) (by decide) (by decide) [(.int p0)] [] (by rw [hml]; rfl) (lenOf pd_1 rfl) rfl rfl (Nat.le_of_eq rfl) (hb hby at_202) rfl (fun v93 T93 L93 X93 hQ93 => ?_)
      obtain ⟨hv93, Nq93, e93⟩ := hQ93
      have N94 := Fr.app N92 Nq93
      rw [own_next_lo hfa p0 A A 0 (by omega) hA hH (by omega)] at hv93
      subst hv93
      show own_G p.tables e below _ T93 (mkF m 205 #[.val (.int p0), .val (.int p1), .val (.int p2), .val (.int p3), .val (.int p4), .val (.int p5), .val (.int (Int32.ofNat A)), .val (.int (Int32.ofNat A)), .val (.int (Int32.ofNat A)), .val (.int (Int32.ofNat A)), .val (.int (p0 + (Int32.ofNat A))), .val (.int (p0 + (Int32.ofNat A))), .val (.double (FP.i2d p3)), .second, .val (.double (FP.i2d p4)), .second, .val (.double (FP.i2d p5)), .second, .val (.ref nb54), .val (.double (FP.dadd (FP.dadd (FP.i2d p3) (FP.i2d p4)) (FP.i2d p5))), .second, .val (.double (FP.dadd (FP.dadd (FP.i2d p3) (FP.i2d p4)) (FP.i2d p5))), .second, .val (.int (-1 : Int32))] [(.int (p0 + (Int32.ofNat A)))])
      refine own_iloadN X93 hx (pc' := 206) (hb hby at_205) rfl rfl ?_
      refine own_iload X93 hx (pc' := 208) (hb hby at_206) rfl rfl ?_
      refine own_iadd X93 hx (pc' := 209) (hb hby at_208) rfl rfl ?_
      refine own_icmpNo X93 hx (pc' := 212) (hb hby at_209) (teq rfl).2 rfl ?_
      refine own_aload X93 hx (pc' := 214) (hb hby at_212) rfl rfl rfl ?_
      refine own_iloadN X93 hx (pc' := 215) (hb hby at_214) rfl rfl ?_
      refine own_iload X93 hx (pc' := 217) (hb hby at_215) rfl rfl ?_
      refine own_iadd X93 hx (pc' := 218) (hb hby at_217) rfl rfl ?_
      refine own_iconst X93 hx (pc' := 219) (1 : Int32) (hb hby at_218) rfl rfl ?_
      refine own_iadd X93 hx (pc' := 220) (hb hby at_219) rfl rfl ?_
      refine own_callV X93 hx (pc' := 223) hZ hown (Wd44 hw) (Wd46 hw) (Wd47 hw) (Wd48 hw) (Wd10 hw) (by decide) (rm_next l Z a0 hw [] nb54 su ho p0 hfa sfc (A + 1) ((p0 + (Int32.ofNat A)) + (1 : Int32)) T85.heap n0 Z87 (by omega) (own_back1 p0 A) G1_85 G2_85 G3_85 G4_85 G5_85) e93 F88 0 (by decide) (by decide) (by decide) (by decide) [(.int ((p0 + (Int32.ofNat A)) + (1 : Int32)))] [] (by rw [hml]; rfl) (lenOf pd_1 rfl) rfl rfl (Nat.le_of_eq rfl) (hb hby at_220) rfl (fun v95 T95 L95 X95 hQ95 => ?_)
      obtain ⟨hv95, Nq95, e95⟩ := hQ95
      have N96 := Fr.app N94 Nq95
      rw [own_next_no hfa p0 A A (A + 1) hA hA hH (by omega) (by omega) (by omega)] at hv95
      subst hv95
      show own_G p.tables e below _ T95 (mkF m 223 #[.val (.int p0), .val (.int p1), .val (.int p2), .val (.int p3), .val (.int p4), .val (.int p5), .val (.int (Int32.ofNat A)), .val (.int (Int32.ofNat A)), .val (.int (Int32.ofNat A)), .val (.int (Int32.ofNat A)), .val (.int (p0 + (Int32.ofNat A))), .val (.int (p0 + (Int32.ofNat A))), .val (.double (FP.i2d p3)), .second, .val (.double (FP.i2d p4)), .second, .val (.double (FP.i2d p5)), .second, .val (.ref nb54), .val (.double (FP.dadd (FP.dadd (FP.i2d p3) (FP.i2d p4)) (FP.i2d p5))), .second, .val (.double (FP.dadd (FP.dadd (FP.i2d p3) (FP.i2d p4)) (FP.i2d p5))), .second, .val (.int (-1 : Int32))] [(.int (-1 : Int32))])
      refine own_iload X95 hx (pc' := 225) (hb hby at_223) rfl rfl ?_
      refine own_icmpNo X95 hx (pc' := 228) (hb hby at_225) (teq rfl).2 rfl ?_
      refine own_iconst X95 hx (pc' := 229) (1 : Int32) (hb hby at_228) rfl rfl ?_
      refine own_goto X95 hx (pc' := 233) (hb hby at_229) (by decide) (by decide) ?_
      refine own_retN X95 hx hlk hret (by simp) (hb hby at_233) (by decide) (by decide) ?_
      exact ⟨rfl, N96⟩
    · skip
      refine own_ifNo X51 hx (pc' := 45) (hb hby at_42) (flt (fun q => hc42_53 ((lw_lt ((p0.toInt64) + ((Int32.ofNat A).toInt64)) (2147483647 : Int64)).mp q))).1 rfl ?_
      refine own_iconst X51 hx (pc' := 46) (1 : Int32) (hb hby at_45) rfl rfl ?_
      refine own_retN X51 hx hlk hret (by simp) (hb hby at_46) (by decide) (by decide) ?_
      exact ⟨rfl, N52⟩
  · skip
    have hne : ¬ ((Int32.ofNat A) = (Int32.ofNat B)) := by intro q; have q2 := congrArg Int32.toInt q; rw [own_on (by omega), own_on (by omega)] at q2; omega
    have hNE : A ≠ B := by omega
    refine own_iload X0 hx (pc' := 16) (hb hby at_14) rfl rfl ?_
    refine own_iload X0 hx (pc' := 18) (hb hby at_16) rfl rfl ?_
    refine own_callS X0 hx (pc' := 21) hZ hown (Wd0 hw) (Wd1 hw) (Wd2 hw) (Wd3 hw) (by decide) (rm_min l Z a0 hw [] (Int32.ofNat A) (Int32.ofNat B) h0 n0 Z0) e0 0 (by decide) (by decide) (by decide) (by decide) [(.int (Int32.ofNat A)), (.int (Int32.ofNat B))] [] (by rw [hml]; rfl) (lenOf pd_3 rfl) rfl rfl (Nat.le_of_eq rfl) (hb hby at_18) rfl (fun v97 T97 L97 X97 hQ97 => ?_)
    obtain ⟨rfl, Nq97, e97⟩ := hQ97
    have N98 := Fr.app N0 Nq97
    show own_G p.tables e below _ T97 (mkF m 21 #[.val (.int p0), .val (.int p1), .val (.int p2), .val (.int p3), .val (.int p4), .val (.int p5), .val (.int (Int32.ofNat A)), .val (.int (Int32.ofNat B)), .unset, .unset, .unset, .unset, .unset, .unset, .unset, .unset, .unset, .unset, .unset, .unset, .unset, .unset, .unset, .unset] [(.int (own_minI (Int32.ofNat A) (Int32.ofNat B)))])
    rw [own_mn2 hA hB hAB]
    refine own_istore X97 hx (pc' := 23) (Ls' := #[.val (.int p0), .val (.int p1), .val (.int p2), .val (.int p3), .val (.int p4), .val (.int p5), .val (.int (Int32.ofNat A)), .val (.int (Int32.ofNat B)), .val (.int (Int32.ofNat B)), .unset, .unset, .unset, .unset, .unset, .unset, .unset, .unset, .unset, .unset, .unset, .unset, .unset, .unset, .unset]) (hb hby at_21) rfl rfl ?_
    refine own_iload X97 hx (pc' := 25) (hb hby at_23) rfl rfl ?_
    refine own_iload X97 hx (pc' := 27) (hb hby at_25) rfl rfl ?_
    refine own_callS X97 hx (pc' := 30) hZ hown (Wd4 hw) (Wd5 hw) (Wd2 hw) (Wd6 hw) (by decide) (rm_max l Z a0 hw [] (Int32.ofNat A) (Int32.ofNat B) h0 n0 Z0) e97 0 (by decide) (by decide) (by decide) (by decide) [(.int (Int32.ofNat A)), (.int (Int32.ofNat B))] [] (by rw [hml]; rfl) (lenOf pd_3 rfl) rfl rfl (Nat.le_of_eq rfl) (hb hby at_27) rfl (fun v99 T99 L99 X99 hQ99 => ?_)
    obtain ⟨rfl, Nq99, e99⟩ := hQ99
    have N100 := Fr.app N98 Nq99
    show own_G p.tables e below _ T99 (mkF m 30 #[.val (.int p0), .val (.int p1), .val (.int p2), .val (.int p3), .val (.int p4), .val (.int p5), .val (.int (Int32.ofNat A)), .val (.int (Int32.ofNat B)), .val (.int (Int32.ofNat B)), .unset, .unset, .unset, .unset, .unset, .unset, .unset, .unset, .unset, .unset, .unset, .unset, .unset, .unset, .unset] [(.int (own_maxI (Int32.ofNat A) (Int32.ofNat B)))])
    rw [own_mx hA hB (Nat.le_of_lt hAB)]
    refine own_istore X99 hx (pc' := 32) (Ls' := #[.val (.int p0), .val (.int p1), .val (.int p2), .val (.int p3), .val (.int p4), .val (.int p5), .val (.int (Int32.ofNat A)), .val (.int (Int32.ofNat B)), .val (.int (Int32.ofNat B)), .val (.int (Int32.ofNat A)), .unset, .unset, .unset, .unset, .unset, .unset, .unset, .unset, .unset, .unset, .unset, .unset, .unset, .unset]) (hb hby at_30) rfl rfl ?_
    refine own_iloadN X99 hx (pc' := 33) (hb hby at_32) rfl rfl ?_
    refine own_i2l X99 hx (pc' := 34) (hb hby at_33) rfl ?_
    refine own_iload X99 hx (pc' := 36) (hb hby at_34) rfl rfl ?_
    refine own_i2l X99 hx (pc' := 37) (hb hby at_36) rfl ?_
    refine own_ladd X99 hx (pc' := 38) (hb hby at_37) rfl rfl ?_
    refine own_ldc2J X99 hx (pc' := 41) hZ hown (Wd7 hw) (hb hby at_38) rfl ?_
    refine own_lcmp X99 hx (pc' := 42) (hb hby at_41) rfl ?_
    by_cases hc42_101 : ((p0.toInt64) + ((Int32.ofNat A).toInt64)) < (2147483647 : Int64)
    · skip
      refine own_ifYes X99 hx (pc' := 47) (hb hby at_42) (tlt ((lw_lt ((p0.toInt64) + ((Int32.ofNat A).toInt64)) (2147483647 : Int64)).mpr hc42_101)).1 (by decide) (by decide) ?_
      refine own_iloadN X99 hx (pc' := 48) (hb hby at_47) rfl rfl ?_
      refine own_iload X99 hx (pc' := 50) (hb hby at_48) rfl rfl ?_
      refine own_iadd X99 hx (pc' := 51) (hb hby at_50) rfl rfl ?_
      refine own_istore X99 hx (pc' := 53) (Ls' := #[.val (.int p0), .val (.int p1), .val (.int p2), .val (.int p3), .val (.int p4), .val (.int p5), .val (.int (Int32.ofNat A)), .val (.int (Int32.ofNat B)), .val (.int (Int32.ofNat B)), .val (.int (Int32.ofNat A)), .val (.int (p0 + (Int32.ofNat A))), .unset, .unset, .unset, .unset, .unset, .unset, .unset, .unset, .unset, .unset, .unset, .unset, .unset]) (hb hby at_51) rfl rfl ?_
      refine own_iloadN X99 hx (pc' := 54) (hb hby at_53) rfl rfl ?_
      refine own_iload X99 hx (pc' := 56) (hb hby at_54) rfl rfl ?_
      refine own_iadd X99 hx (pc' := 57) (hb hby at_56) rfl rfl ?_
      refine own_istore X99 hx (pc' := 59) (Ls' := #[.val (.int p0), .val (.int p1), .val (.int p2), .val (.int p3), .val (.int p4), .val (.int p5), .val (.int (Int32.ofNat A)), .val (.int (Int32.ofNat B)), .val (.int (Int32.ofNat B)), .val (.int (Int32.ofNat A)), .val (.int (p0 + (Int32.ofNat A))), .val (.int (p0 + (Int32.ofNat B))), .unset, .unset, .unset, .unset, .unset, .unset, .unset, .unset, .unset, .unset, .unset, .unset]) (hb hby at_57) rfl rfl ?_
      refine own_iloadN X99 hx (pc' := 60) (hb hby at_59) rfl rfl ?_
      refine own_i2d X99 hx (pc' := 61) (hb hby at_60) rfl ?_
      refine own_dstore X99 hx (pc' := 63) (Ls' := #[.val (.int p0), .val (.int p1), .val (.int p2), .val (.int p3), .val (.int p4), .val (.int p5), .val (.int (Int32.ofNat A)), .val (.int (Int32.ofNat B)), .val (.int (Int32.ofNat B)), .val (.int (Int32.ofNat A)), .val (.int (p0 + (Int32.ofNat A))), .val (.int (p0 + (Int32.ofNat B))), .val (.double (FP.i2d p3)), .second, .unset, .unset, .unset, .unset, .unset, .unset, .unset, .unset, .unset, .unset]) (hb hby at_61) rfl rfl ?_
      refine own_iload X99 hx (pc' := 65) (hb hby at_63) rfl rfl ?_
      refine own_i2d X99 hx (pc' := 66) (hb hby at_65) rfl ?_
      refine own_dstore X99 hx (pc' := 68) (Ls' := #[.val (.int p0), .val (.int p1), .val (.int p2), .val (.int p3), .val (.int p4), .val (.int p5), .val (.int (Int32.ofNat A)), .val (.int (Int32.ofNat B)), .val (.int (Int32.ofNat B)), .val (.int (Int32.ofNat A)), .val (.int (p0 + (Int32.ofNat A))), .val (.int (p0 + (Int32.ofNat B))), .val (.double (FP.i2d p3)), .second, .val (.double (FP.i2d p4)), .second, .unset, .unset, .unset, .unset, .unset, .unset, .unset, .unset]) (hb hby at_66) rfl rfl ?_
      refine own_iload X99 hx (pc' := 70) (hb hby at_68) rfl rfl ?_
      refine own_i2d X99 hx (pc' := 71) (hb hby at_70) rfl ?_
      refine own_dstore X99 hx (pc' := 73) (Ls' := #[.val (.int p0), .val (.int p1), .val (.int p2), .val (.int p3), .val (.int p4), .val (.int p5), .val (.int (Int32.ofNat A)), .val (.int (Int32.ofNat B)), .val (.int (Int32.ofNat B)), .val (.int (Int32.ofNat A)), .val (.int (p0 + (Int32.ofNat A))), .val (.int (p0 + (Int32.ofNat B))), .val (.double (FP.i2d p3)), .second, .val (.double (FP.i2d p4)), .second, .val (.double (FP.i2d p5)), .second, .unset, .unset, .unset, .unset, .unset, .unset]) (hb hby at_71) rfl rfl ?_
      refine own_new X99 hx (pc' := 76) hZ hown (Wd8 hw) (Wd9 hw) (Wd10 hw) e99 (hb hby at_73) (by decide) (by decide) rfl (fun T102 h102 nb102 g102 X102 e102 E102 A102 D102 => ?_)
      have ge_nb102 : n0 ≤ nb102 := Nat.le_trans Z0 (Nat.le_of_eq g102.symm)
      have Z103 : n0 ≤ h102.size := Nat.le_trans Z0 E102.1
      have F104 : Fld Z h102 nb102 "com/example/mixed_likelihood/mixedlikelihood/search/GainWindow" "sums" "[D" .null := D102 (Or.inr (Wd19 hw)) (ty := (.array .double)) (by decide)
      have F105 : Fld Z h102 nb102 "com/example/mixed_likelihood/mixedlikelihood/search/GainWindow" "holding" "[J" .null := D102 (Or.inr (Wd22 hw)) (ty := (.array .long)) (by decide)
      have F106 : Fld Z h102 nb102 "com/example/mixed_likelihood/mixedlikelihood/search/GainWindow" "start" "I" (.int (0 : Int32)) := D102 (Or.inl (Wd29 hw)) (ty := .int) (by decide)
      refine own_dup X102 hx (pc' := 77) (hb hby at_76) rfl rfl ?_
      refine own_callI X102 hx (pc' := 80) hZ rfl hown (Wd11 hw) (Wd12 hw) (Wd13 hw) (Wd10 hw) (by decide) (rm_init l Z a0 hw [] nb102 h102 n0 Z103 ge_nb102 A102 F104 F105 F106) e102 (b := nb102) 1 (by decide) (by decide) (by decide) (by decide) [] [(.ref nb102)] (by rw [hml]; rfl) (lenOf pd_4 rfl) rfl rfl (Nat.le_of_eq rfl) (hb hby at_77) rfl (fun v107 T107 L107 X107 hQ107 => ?_)
      obtain ⟨rfl, Nq107, K107, su, ho, ⟨g_su, g_ho⟩, ⟨d1, d2, d3⟩, G1_107, G2_107, G3_107, G4_107, G5_107⟩ := hQ107
      have N108 := Fr.app N100 Nq107
      have Z109 : n0 ≤ T107.heap.size := Nat.le_trans Z103 K107.1
      have F110 := (Exa.keep A102 K107)
      show own_G p.tables e below _ T107 (mkF m 80 #[.val (.int p0), .val (.int p1), .val (.int p2), .val (.int p3), .val (.int p4), .val (.int p5), .val (.int (Int32.ofNat A)), .val (.int (Int32.ofNat B)), .val (.int (Int32.ofNat B)), .val (.int (Int32.ofNat A)), .val (.int (p0 + (Int32.ofNat A))), .val (.int (p0 + (Int32.ofNat B))), .val (.double (FP.i2d p3)), .second, .val (.double (FP.i2d p4)), .second, .val (.double (FP.i2d p5)), .second, .unset, .unset, .unset, .unset, .unset, .unset] [(.ref nb102)])
      refine own_astore X107 hx (pc' := 82) (Ls' := #[.val (.int p0), .val (.int p1), .val (.int p2), .val (.int p3), .val (.int p4), .val (.int p5), .val (.int (Int32.ofNat A)), .val (.int (Int32.ofNat B)), .val (.int (Int32.ofNat B)), .val (.int (Int32.ofNat A)), .val (.int (p0 + (Int32.ofNat A))), .val (.int (p0 + (Int32.ofNat B))), .val (.double (FP.i2d p3)), .second, .val (.double (FP.i2d p4)), .second, .val (.double (FP.i2d p5)), .second, .val (.ref nb102), .unset, .unset, .unset, .unset, .unset]) (hb hby at_80) rfl rfl rfl ?_
      refine own_aload X107 hx (pc' := 84) (hb hby at_82) rfl rfl rfl ?_
      refine own_iloadN X107 hx (pc' := 85) (hb hby at_84) rfl rfl ?_
      refine own_callV X107 hx (pc' := 88) hZ hown (Wd23 hw) (Wd25 hw) (Wd26 hw) (Wd27 hw) (Wd10 hw) (by decide) (rm_move l Z a0 hw [] nb102 su ho (0 : Int32) (fun _ => (0 : Int64)) (fun _ => (0 : UInt64)) p0 T107.heap n0 Z109 ge_nb102 g_su g_ho d1 d2 d3 F110 G1_107 G2_107 G3_107 G4_107 G5_107) rfl F110 0 (by decide) (by decide) (by decide) (by decide) [(.int p0)] [] (by rw [hml]; rfl) (lenOf pd_5 rfl) rfl rfl (Nat.le_of_eq rfl) (hb hby at_85) rfl (fun v111 T111 L111 X111 hQ111 => ?_)
      obtain ⟨rfl, Nq111, K111, G1_111, G2_111, G3_111, G4_111, G5_111⟩ := hQ111
      have N112 := Fr.app N108 Nq111
      have Z113 : n0 ≤ T111.heap.size := Nat.le_trans Z109 K111.1
      have F114 := (Exa.keep F110 K111)
      have F115 := (G5_107.keep K111 (ninS (Ne.symm d1) (ninS d3 nin0)))
      show own_G p.tables e below _ T111 (mkF m 88 #[.val (.int p0), .val (.int p1), .val (.int p2), .val (.int p3), .val (.int p4), .val (.int p5), .val (.int (Int32.ofNat A)), .val (.int (Int32.ofNat B)), .val (.int (Int32.ofNat B)), .val (.int (Int32.ofNat A)), .val (.int (p0 + (Int32.ofNat A))), .val (.int (p0 + (Int32.ofNat B))), .val (.double (FP.i2d p3)), .second, .val (.double (FP.i2d p4)), .second, .val (.double (FP.i2d p5)), .second, .val (.ref nb102), .unset, .unset, .unset, .unset, .unset] [])
      refine own_aload X111 hx (pc' := 90) (hb hby at_88) rfl rfl rfl ?_
      refine own_iload X111 hx (pc' := 92) (hb hby at_90) rfl rfl ?_
      refine own_dconst1 X111 hx (pc' := 93) (hb hby at_92) rfl ?_
      refine own_callV X111 hx (pc' := 96) hZ hown (Wd34 hw) (Wd36 hw) (Wd37 hw) (Wd38 hw) (Wd10 hw) (by decide) (rm_aF l Z a0 hw [] nb102 su ho p0 (fun _ => (0 : Int64)) (fun _ => (0 : UInt64)) A (p0 + (Int32.ofNat A)) FP.dconst1 T111.heap n0 Z113 ge_nb102 g_su g_ho d1 d2 d3 F114 hA (own_back p0 (Int32.ofNat A)) (own_z A hA) G1_111 G2_111 G3_111 G4_111 G5_111) rfl F114 0 (by decide) (by decide) (by decide) (by decide) [(.int (p0 + (Int32.ofNat A))), (.double FP.dconst1)] [] (by rw [hml]; rfl) (lenOf pd_6 rfl) rfl rfl (Nat.le_of_eq rfl) (hb hby at_93) rfl (fun v116 T116 L116 X116 hQ116 => ?_)
      obtain ⟨rfl, Nq116, K116, G1_116, G2_116, G3_116, G4_116, G5_116⟩ := hQ116
      have N117 := Fr.app N112 Nq116
      have Z118 : n0 ≤ T116.heap.size := Nat.le_trans Z113 K116.1
      have F119 := (Exa.keep F114 K116)
      show own_G p.tables e below _ T116 (mkF m 96 #[.val (.int p0), .val (.int p1), .val (.int p2), .val (.int p3), .val (.int p4), .val (.int p5), .val (.int (Int32.ofNat A)), .val (.int (Int32.ofNat B)), .val (.int (Int32.ofNat B)), .val (.int (Int32.ofNat A)), .val (.int (p0 + (Int32.ofNat A))), .val (.int (p0 + (Int32.ofNat B))), .val (.double (FP.i2d p3)), .second, .val (.double (FP.i2d p4)), .second, .val (.double (FP.i2d p5)), .second, .val (.ref nb102), .unset, .unset, .unset, .unset, .unset] [])
      refine own_aload X116 hx (pc' := 98) (hb hby at_96) rfl rfl rfl ?_
      refine own_iloadN X116 hx (pc' := 99) (hb hby at_98) rfl rfl ?_
      refine own_callV X116 hx (pc' := 102) hZ hown (Wd23 hw) (Wd25 hw) (Wd26 hw) (Wd27 hw) (Wd10 hw) (by decide) (rm_move l Z a0 hw [] nb102 su ho p0 (own_upd (fun _ => (0 : Int64)) (A / 64) ((fun _ => (0 : Int64)) (A / 64) ||| own_bit A)) (own_upd (fun _ => (0 : UInt64)) A FP.dconst1) p0 T116.heap n0 Z118 ge_nb102 g_su g_ho d1 d2 d3 F119 G1_116 G2_116 G3_116 G4_116 G5_116) rfl F119 0 (by decide) (by decide) (by decide) (by decide) [(.int p0)] [] (by rw [hml]; rfl) (lenOf pd_5 rfl) rfl rfl (Nat.le_of_eq rfl) (hb hby at_99) rfl (fun v120 T120 L120 X120 hQ120 => ?_)
      obtain ⟨rfl, Nq120, K120, G1_120, G2_120, G3_120, G4_120, G5_120⟩ := hQ120
      have N121 := Fr.app N117 Nq120
      have Z122 : n0 ≤ T120.heap.size := Nat.le_trans Z118 K120.1
      have F123 := (Exa.keep F119 K120)
      have F124 := (G5_116.keep K120 (ninS (Ne.symm d1) (ninS d3 nin0)))
      show own_G p.tables e below _ T120 (mkF m 102 #[.val (.int p0), .val (.int p1), .val (.int p2), .val (.int p3), .val (.int p4), .val (.int p5), .val (.int (Int32.ofNat A)), .val (.int (Int32.ofNat B)), .val (.int (Int32.ofNat B)), .val (.int (Int32.ofNat A)), .val (.int (p0 + (Int32.ofNat A))), .val (.int (p0 + (Int32.ofNat B))), .val (.double (FP.i2d p3)), .second, .val (.double (FP.i2d p4)), .second, .val (.double (FP.i2d p5)), .second, .val (.ref nb102), .unset, .unset, .unset, .unset, .unset] [])
      refine own_aload X120 hx (pc' := 104) (hb hby at_102) rfl rfl rfl ?_
      refine own_iload X120 hx (pc' := 106) (hb hby at_104) rfl rfl ?_
      refine own_dload X120 hx (pc' := 108) (hb hby at_106) rfl rfl ?_
      refine own_callV X120 hx (pc' := 111) hZ hown (Wd34 hw) (Wd36 hw) (Wd37 hw) (Wd38 hw) (Wd10 hw) (by decide) (rm_aF l Z a0 hw [] nb102 su ho p0 (fun _ => (0 : Int64)) (own_upd (fun _ => (0 : UInt64)) A FP.dconst1) A (p0 + (Int32.ofNat A)) (FP.i2d p3) T120.heap n0 Z122 ge_nb102 g_su g_ho d1 d2 d3 F123 hA (own_back p0 (Int32.ofNat A)) (own_z A hA) G1_120 G2_120 G3_120 G4_120 G5_120) rfl F123 0 (by decide) (by decide) (by decide) (by decide) [(.int (p0 + (Int32.ofNat A))), (.double (FP.i2d p3))] [] (by rw [hml]; rfl) (lenOf pd_6 rfl) rfl rfl (Nat.le_of_eq rfl) (hb hby at_108) rfl (fun v125 T125 L125 X125 hQ125 => ?_)
      obtain ⟨rfl, Nq125, K125, G1_125, G2_125, G3_125, G4_125, G5_125⟩ := hQ125
      have N126 := Fr.app N121 Nq125
      have Z127 : n0 ≤ T125.heap.size := Nat.le_trans Z122 K125.1
      have F128 := (Exa.keep F123 K125)
      obtain ⟨hfa, e_hfa⟩ : ∃ f : Nat → Int64, f = (own_upd (fun _ => (0 : Int64)) (A / 64) ((fun _ => (0 : Int64)) (A / 64) ||| own_bit A)) := ⟨_, rfl⟩
      obtain ⟨sfa, e_sfa⟩ : ∃ f : Nat → UInt64, f = (own_upd (own_upd (fun _ => (0 : UInt64)) A FP.dconst1) A (FP.i2d p3)) := ⟨_, rfl⟩
      rw [← e_hfa] at G4_125
      rw [← e_sfa] at G5_125
      show own_G p.tables e below _ T125 (mkF m 111 #[.val (.int p0), .val (.int p1), .val (.int p2), .val (.int p3), .val (.int p4), .val (.int p5), .val (.int (Int32.ofNat A)), .val (.int (Int32.ofNat B)), .val (.int (Int32.ofNat B)), .val (.int (Int32.ofNat A)), .val (.int (p0 + (Int32.ofNat A))), .val (.int (p0 + (Int32.ofNat B))), .val (.double (FP.i2d p3)), .second, .val (.double (FP.i2d p4)), .second, .val (.double (FP.i2d p5)), .second, .val (.ref nb102), .unset, .unset, .unset, .unset, .unset] [])
      have v1 : sfa A = FP.i2d p3 := by rw [e_sfa]; exact own_upd_same _ _ _
      have w1 : hfa (A / 64) = (0 : Int64) ||| own_bit A := by rw [e_hfa]; exact own_upd_same _ _ _
      have w2 : ∀ q, q ≠ A / 64 → hfa q = 0 := fun q hq => by rw [e_hfa]; exact own_upd_other _ _ hq
      refine own_aload X125 hx (pc' := 113) (hb hby at_111) rfl rfl rfl ?_
      refine own_iload X125 hx (pc' := 115) (hb hby at_113) rfl rfl ?_
      refine own_dload X125 hx (pc' := 117) (hb hby at_115) rfl rfl ?_
      refine own_callV X125 hx (pc' := 120) hZ hown (Wd34 hw) (Wd36 hw) (Wd37 hw) (Wd38 hw) (Wd10 hw) (by decide) (rm_aF l Z a0 hw [] nb102 su ho p0 hfa sfa B (p0 + (Int32.ofNat B)) (FP.i2d p4) T125.heap n0 Z127 ge_nb102 g_su g_ho d1 d2 d3 F128 hB (own_back p0 (Int32.ofNat B)) (own_clear hA hB hNE w1 w2) G1_125 G2_125 G3_125 G4_125 G5_125) rfl F128 0 (by decide) (by decide) (by decide) (by decide) [(.int (p0 + (Int32.ofNat B))), (.double (FP.i2d p4))] [] (by rw [hml]; rfl) (lenOf pd_6 rfl) rfl rfl (Nat.le_of_eq rfl) (hb hby at_117) rfl (fun v129 T129 L129 X129 hQ129 => ?_)
      obtain ⟨rfl, Nq129, K129, G1_129, G2_129, G3_129, G4_129, G5_129⟩ := hQ129
      have N130 := Fr.app N126 Nq129
      have Z131 : n0 ≤ T129.heap.size := Nat.le_trans Z127 K129.1
      have F132 := (Exa.keep F128 K129)
      obtain ⟨hfb, e_hfb⟩ : ∃ f : Nat → Int64, f = (own_upd hfa (B / 64) (hfa (B / 64) ||| own_bit B)) := ⟨_, rfl⟩
      obtain ⟨sfb, e_sfb⟩ : ∃ f : Nat → UInt64, f = (own_upd sfa B (FP.i2d p4)) := ⟨_, rfl⟩
      rw [← e_hfb] at G4_129
      rw [← e_sfb] at G5_129
      show own_G p.tables e below _ T129 (mkF m 120 #[.val (.int p0), .val (.int p1), .val (.int p2), .val (.int p3), .val (.int p4), .val (.int p5), .val (.int (Int32.ofNat A)), .val (.int (Int32.ofNat B)), .val (.int (Int32.ofNat B)), .val (.int (Int32.ofNat A)), .val (.int (p0 + (Int32.ofNat A))), .val (.int (p0 + (Int32.ofNat B))), .val (.double (FP.i2d p3)), .second, .val (.double (FP.i2d p4)), .second, .val (.double (FP.i2d p5)), .second, .val (.ref nb102), .unset, .unset, .unset, .unset, .unset] [])
      have v2 : sfb A = FP.i2d p3 := by rw [e_sfb, own_upd_other _ _ hNE, v1]
      have v2b : sfb B = FP.i2d p4 := by rw [e_sfb, own_upd_same]
      refine own_aload X129 hx (pc' := 122) (hb hby at_120) rfl rfl rfl ?_
      refine own_iload X129 hx (pc' := 124) (hb hby at_122) rfl rfl ?_
      refine own_dload X129 hx (pc' := 126) (hb hby at_124) rfl rfl ?_
      refine own_callV X129 hx (pc' := 129) hZ hown (Wd34 hw) (Wd36 hw) (Wd37 hw) (Wd38 hw) (Wd10 hw) (by decide) (rm_aH l Z a0 hw [] nb102 su ho p0 hfb sfb A (p0 + (Int32.ofNat A)) (FP.i2d p5) T129.heap n0 Z131 ge_nb102 g_su g_ho d1 d2 d3 F132 hA (own_back p0 (Int32.ofNat A)) (by rw [e_hfb]; exact own_held2 hA hB w1) (by rw [v2]; exact own_nn2 p3 p5) G1_129 G2_129 G3_129 G4_129 G5_129) rfl F132 0 (by decide) (by decide) (by decide) (by decide) [(.int (p0 + (Int32.ofNat A))), (.double (FP.i2d p5))] [] (by rw [hml]; rfl) (lenOf pd_6 rfl) rfl rfl (Nat.le_of_eq rfl) (hb hby at_126) rfl (fun v133 T133 L133 X133 hQ133 => ?_)
      obtain ⟨rfl, Nq133, K133, G1_133, G2_133, G3_133, G4_133, G5_133⟩ := hQ133
      have N134 := Fr.app N130 Nq133
      have Z135 : n0 ≤ T133.heap.size := Nat.le_trans Z131 K133.1
      have F136 := (Exa.keep F132 K133)
      obtain ⟨hfc, e_hfc⟩ : ∃ f : Nat → Int64, f = hfb := ⟨_, rfl⟩
      obtain ⟨sfc, e_sfc⟩ : ∃ f : Nat → UInt64, f = (own_upd sfb A (FP.dadd (sfb A) (FP.i2d p5))) := ⟨_, rfl⟩
      have G4_133' := G4_133
      rw [← e_sfc] at G5_133
      show own_G p.tables e below _ T133 (mkF m 129 #[.val (.int p0), .val (.int p1), .val (.int p2), .val (.int p3), .val (.int p4), .val (.int p5), .val (.int (Int32.ofNat A)), .val (.int (Int32.ofNat B)), .val (.int (Int32.ofNat B)), .val (.int (Int32.ofNat A)), .val (.int (p0 + (Int32.ofNat A))), .val (.int (p0 + (Int32.ofNat B))), .val (.double (FP.i2d p3)), .second, .val (.double (FP.i2d p4)), .second, .val (.double (FP.i2d p5)), .second, .val (.ref nb102), .unset, .unset, .unset, .unset, .unset] [])
      have v3 : sfc A = FP.dadd (FP.i2d p3) (FP.i2d p5) := by rw [e_sfc, own_upd_same, v2]
      have v3b : sfc B = FP.i2d p4 := by rw [e_sfc, own_upd_other _ _ (Ne.symm hNE), v2b]
      have hH : ∀ q, hfb q = own_c B q ||| own_c A q := fun q => (own_words2 w1 w2 e_hfb q).trans (own_orcomm _ _)
      refine own_iload X133 hx (pc' := 131) (hb hby at_129) rfl rfl ?_
      refine own_iload X133 hx (pc' := 133) (hb hby at_131) rfl rfl ?_
      refine own_icmpYes X133 hx (pc' := 156) (hb hby at_133) (feq hne).2 (by decide) (by decide) ?_
      refine own_dload X133 hx (pc' := 158) (hb hby at_156) rfl rfl ?_
      refine own_dload X133 hx (pc' := 160) (hb hby at_158) rfl rfl ?_
      refine own_dadd X133 hx (pc' := 161) (hb hby at_160) (own_nn2 p3 p5) rfl ?_
      refine own_dstore X133 hx (pc' := 163) (Ls' := #[.val (.int p0), .val (.int p1), .val (.int p2), .val (.int p3), .val (.int p4), .val (.int p5), .val (.int (Int32.ofNat A)), .val (.int (Int32.ofNat B)), .val (.int (Int32.ofNat B)), .val (.int (Int32.ofNat A)), .val (.int (p0 + (Int32.ofNat A))), .val (.int (p0 + (Int32.ofNat B))), .val (.double (FP.i2d p3)), .second, .val (.double (FP.i2d p4)), .second, .val (.double (FP.i2d p5)), .second, .val (.ref nb102), .val (.double (FP.dadd (FP.i2d p3) (FP.i2d p5))), .second, .unset, .unset, .unset]) (hb hby at_161) rfl rfl ?_
      refine own_dload X133 hx (pc' := 165) (hb hby at_163) rfl rfl ?_
      refine own_dstore X133 hx (pc' := 167) (Ls' := #[.val (.int p0), .val (.int p1), .val (.int p2), .val (.int p3), .val (.int p4), .val (.int p5), .val (.int (Int32.ofNat A)), .val (.int (Int32.ofNat B)), .val (.int (Int32.ofNat B)), .val (.int (Int32.ofNat A)), .val (.int (p0 + (Int32.ofNat A))), .val (.int (p0 + (Int32.ofNat B))), .val (.double (FP.i2d p3)), .second, .val (.double (FP.i2d p4)), .second, .val (.double (FP.i2d p5)), .second, .val (.ref nb102), .val (.double (FP.dadd (FP.i2d p3) (FP.i2d p5))), .second, .val (.double (FP.i2d p4)), .second, .unset]) (hb hby at_165) rfl rfl ?_
      refine own_iloadN X133 hx (pc' := 168) (hb hby at_167) rfl rfl ?_
      refine own_iload X133 hx (pc' := 170) (hb hby at_168) rfl rfl ?_
      refine own_iadd X133 hx (pc' := 171) (hb hby at_170) rfl rfl ?_
      refine own_istore X133 hx (pc' := 173) (Ls' := #[.val (.int p0), .val (.int p1), .val (.int p2), .val (.int p3), .val (.int p4), .val (.int p5), .val (.int (Int32.ofNat A)), .val (.int (Int32.ofNat B)), .val (.int (Int32.ofNat B)), .val (.int (Int32.ofNat A)), .val (.int (p0 + (Int32.ofNat A))), .val (.int (p0 + (Int32.ofNat B))), .val (.double (FP.i2d p3)), .second, .val (.double (FP.i2d p4)), .second, .val (.double (FP.i2d p5)), .second, .val (.ref nb102), .val (.double (FP.dadd (FP.i2d p3) (FP.i2d p5))), .second, .val (.double (FP.i2d p4)), .second, .val (.int (p0 + (Int32.ofNat A)))]) (hb hby at_171) rfl rfl ?_
      refine own_aload X133 hx (pc' := 175) (hb hby at_173) rfl rfl rfl ?_
      refine own_iload X133 hx (pc' := 177) (hb hby at_175) rfl rfl ?_
      refine own_callV X133 hx (pc' := 180) hZ hown (Wd39 hw) (Wd41 hw) (Wd42 hw) (Wd43 hw) (Wd10 hw) (by decide) (rm_sum l Z a0 hw [] nb102 su ho p0 hfb sfc A (p0 + (Int32.ofNat A)) T133.heap n0 Z135 hA (own_back p0 (Int32.ofNat A)) G1_133 G2_133 G3_133 G4_133 G5_133) rfl F136 0 (by decide) (by decide) (by decide) (by decide) [(.int (p0 + (Int32.ofNat A)))] [] (by rw [hml]; rfl) (lenOf pd_7 rfl) rfl rfl (Nat.le_of_eq rfl) (hb hby at_177) rfl (fun v137 T137 L137 X137 hQ137 => ?_)
      obtain ⟨hv137, Nq137, e137⟩ := hQ137
      have N138 := Fr.app N134 Nq137
      rw [v3] at hv137
      subst hv137
      show own_G p.tables e below _ T137 (mkF m 180 #[.val (.int p0), .val (.int p1), .val (.int p2), .val (.int p3), .val (.int p4), .val (.int p5), .val (.int (Int32.ofNat A)), .val (.int (Int32.ofNat B)), .val (.int (Int32.ofNat B)), .val (.int (Int32.ofNat A)), .val (.int (p0 + (Int32.ofNat A))), .val (.int (p0 + (Int32.ofNat B))), .val (.double (FP.i2d p3)), .second, .val (.double (FP.i2d p4)), .second, .val (.double (FP.i2d p5)), .second, .val (.ref nb102), .val (.double (FP.dadd (FP.i2d p3) (FP.i2d p5))), .second, .val (.double (FP.i2d p4)), .second, .val (.int (p0 + (Int32.ofNat A)))] [(.double (FP.dadd (FP.i2d p3) (FP.i2d p5)))])
      refine own_dload X137 hx (pc' := 182) (hb hby at_180) rfl rfl ?_
      refine own_dcmp X137 hx (pc' := 183) (0 : Int32) (hb hby at_182) (dcmpV_self (own_nn2 p3 p5) _) rfl ?_
      refine own_ifNo X137 hx (pc' := 186) (hb hby at_183) (teq rfl).2 rfl ?_
      refine own_aload X137 hx (pc' := 188) (hb hby at_186) rfl rfl rfl ?_
      refine own_iload X137 hx (pc' := 190) (hb hby at_188) rfl rfl ?_
      refine own_callV X137 hx (pc' := 193) hZ hown (Wd39 hw) (Wd41 hw) (Wd42 hw) (Wd43 hw) (Wd10 hw) (by decide) (rm_sum l Z a0 hw [] nb102 su ho p0 hfb sfc B (p0 + (Int32.ofNat B)) T133.heap n0 Z135 hB (own_back p0 (Int32.ofNat B)) G1_133 G2_133 G3_133 G4_133 G5_133) e137 F136 0 (by decide) (by decide) (by decide) (by decide) [(.int (p0 + (Int32.ofNat B)))] [] (by rw [hml]; rfl) (lenOf pd_7 rfl) rfl rfl (Nat.le_of_eq rfl) (hb hby at_190) rfl (fun v139 T139 L139 X139 hQ139 => ?_)
      obtain ⟨hv139, Nq139, e139⟩ := hQ139
      have N140 := Fr.app N138 Nq139
      rw [v3b] at hv139
      subst hv139
      show own_G p.tables e below _ T139 (mkF m 193 #[.val (.int p0), .val (.int p1), .val (.int p2), .val (.int p3), .val (.int p4), .val (.int p5), .val (.int (Int32.ofNat A)), .val (.int (Int32.ofNat B)), .val (.int (Int32.ofNat B)), .val (.int (Int32.ofNat A)), .val (.int (p0 + (Int32.ofNat A))), .val (.int (p0 + (Int32.ofNat B))), .val (.double (FP.i2d p3)), .second, .val (.double (FP.i2d p4)), .second, .val (.double (FP.i2d p5)), .second, .val (.ref nb102), .val (.double (FP.dadd (FP.i2d p3) (FP.i2d p5))), .second, .val (.double (FP.i2d p4)), .second, .val (.int (p0 + (Int32.ofNat A)))] [(.double (FP.i2d p4))])
      refine own_dload X139 hx (pc' := 195) (hb hby at_193) rfl rfl ?_
      refine own_dcmp X139 hx (pc' := 196) (0 : Int32) (hb hby at_195) (dcmpV_self (own_nn1 p4) _) rfl ?_
      refine own_ifNo X139 hx (pc' := 199) (hb hby at_196) (teq rfl).2 rfl ?_
      refine own_aload X139 hx (pc' := 201) (hb hby at_199) rfl rfl rfl ?_
      refine own_iloadN X139 hx (pc' := 202) (hb hby at_201) rfl rfl ?_
      refine own_callV X139 hx (pc' := 205) hZ hown (Wd44 hw) (Wd46 hw) (Wd47 hw) (Wd48 hw) (Wd10 hw) (by decide) (rm_next l Z a0 hw [] nb102 su ho p0 hfb sfc 0 p0 T133.heap n0 Z135 (by decide) (own_self0 p0) G1_133 G2_133 G3_133 G4_133 G5_133) e139 F136 0 (by decide) (by decide) (by decide) (by decide) [(.int p0)] [] (by rw [hml]; rfl) (lenOf pd_1 rfl) rfl rfl (Nat.le_of_eq rfl) (hb hby at_202) rfl (fun v141 T141 L141 X141 hQ141 => ?_)
      obtain ⟨hv141, Nq141, e141⟩ := hQ141
      have N142 := Fr.app N140 Nq141
      rw [own_next_lo hfb p0 B A 0 (by omega) hA hH (by omega)] at hv141
      subst hv141
      show own_G p.tables e below _ T141 (mkF m 205 #[.val (.int p0), .val (.int p1), .val (.int p2), .val (.int p3), .val (.int p4), .val (.int p5), .val (.int (Int32.ofNat A)), .val (.int (Int32.ofNat B)), .val (.int (Int32.ofNat B)), .val (.int (Int32.ofNat A)), .val (.int (p0 + (Int32.ofNat A))), .val (.int (p0 + (Int32.ofNat B))), .val (.double (FP.i2d p3)), .second, .val (.double (FP.i2d p4)), .second, .val (.double (FP.i2d p5)), .second, .val (.ref nb102), .val (.double (FP.dadd (FP.i2d p3) (FP.i2d p5))), .second, .val (.double (FP.i2d p4)), .second, .val (.int (p0 + (Int32.ofNat A)))] [(.int (p0 + (Int32.ofNat B)))])
      refine own_iloadN X141 hx (pc' := 206) (hb hby at_205) rfl rfl ?_
      refine own_iload X141 hx (pc' := 208) (hb hby at_206) rfl rfl ?_
      refine own_iadd X141 hx (pc' := 209) (hb hby at_208) rfl rfl ?_
      refine own_icmpNo X141 hx (pc' := 212) (hb hby at_209) (teq rfl).2 rfl ?_
      refine own_aload X141 hx (pc' := 214) (hb hby at_212) rfl rfl rfl ?_
      refine own_iloadN X141 hx (pc' := 215) (hb hby at_214) rfl rfl ?_
      refine own_iload X141 hx (pc' := 217) (hb hby at_215) rfl rfl ?_
      refine own_iadd X141 hx (pc' := 218) (hb hby at_217) rfl rfl ?_
      refine own_iconst X141 hx (pc' := 219) (1 : Int32) (hb hby at_218) rfl rfl ?_
      refine own_iadd X141 hx (pc' := 220) (hb hby at_219) rfl rfl ?_
      refine own_callV X141 hx (pc' := 223) hZ hown (Wd44 hw) (Wd46 hw) (Wd47 hw) (Wd48 hw) (Wd10 hw) (by decide) (rm_next l Z a0 hw [] nb102 su ho p0 hfb sfc (B + 1) ((p0 + (Int32.ofNat B)) + (1 : Int32)) T133.heap n0 Z135 (by omega) (own_back1 p0 B) G1_133 G2_133 G3_133 G4_133 G5_133) e141 F136 0 (by decide) (by decide) (by decide) (by decide) [(.int ((p0 + (Int32.ofNat B)) + (1 : Int32)))] [] (by rw [hml]; rfl) (lenOf pd_1 rfl) rfl rfl (Nat.le_of_eq rfl) (hb hby at_220) rfl (fun v143 T143 L143 X143 hQ143 => ?_)
      obtain ⟨hv143, Nq143, e143⟩ := hQ143
      have N144 := Fr.app N142 Nq143
      rw [own_next_hi hfb p0 B A (B + 1) hA hH (by omega) (by omega)] at hv143
      subst hv143
      show own_G p.tables e below _ T143 (mkF m 223 #[.val (.int p0), .val (.int p1), .val (.int p2), .val (.int p3), .val (.int p4), .val (.int p5), .val (.int (Int32.ofNat A)), .val (.int (Int32.ofNat B)), .val (.int (Int32.ofNat B)), .val (.int (Int32.ofNat A)), .val (.int (p0 + (Int32.ofNat A))), .val (.int (p0 + (Int32.ofNat B))), .val (.double (FP.i2d p3)), .second, .val (.double (FP.i2d p4)), .second, .val (.double (FP.i2d p5)), .second, .val (.ref nb102), .val (.double (FP.dadd (FP.i2d p3) (FP.i2d p5))), .second, .val (.double (FP.i2d p4)), .second, .val (.int (p0 + (Int32.ofNat A)))] [(.int (p0 + (Int32.ofNat A)))])
      refine own_iload X143 hx (pc' := 225) (hb hby at_223) rfl rfl ?_
      refine own_icmpNo X143 hx (pc' := 228) (hb hby at_225) (teq rfl).2 rfl ?_
      refine own_iconst X143 hx (pc' := 229) (1 : Int32) (hb hby at_228) rfl rfl ?_
      refine own_goto X143 hx (pc' := 233) (hb hby at_229) (by decide) (by decide) ?_
      refine own_retN X143 hx hlk hret (by simp) (hb hby at_233) (by decide) (by decide) ?_
      exact ⟨rfl, N144⟩
    · skip
      refine own_ifNo X99 hx (pc' := 45) (hb hby at_42) (flt (fun q => hc42_101 ((lw_lt ((p0.toInt64) + ((Int32.ofNat A).toInt64)) (2147483647 : Int64)).mp q))).1 rfl ?_
      refine own_iconst X99 hx (pc' := 46) (1 : Int32) (hb hby at_45) rfl rfl ?_
      refine own_retN X99 hx hlk hret (by simp) (hb hby at_46) (by decide) (by decide) ?_
      exact ⟨rfl, N100⟩

set_option maxRecDepth 65536 in
set_option maxHeartbeats 40000000 in
theorem comes_1 {Post : Tables → Env → Array Value → State → Outcome → State → Prop} (hpost : ∀ tb e args s v u, (limb_1_1.after args s (.returned v) u = true ∧ limb_1_2.after args s (.returned v) u = true ∧ True) → FrameEnd s (.returned v) u (Jvm.fieldLocs frame_1_writes args s ++ Jvm.arrayLocs frame_1_arrays args s ++ Jvm.staticLocs frame_1_statics s) 16 8448 → Post tb e args s (.returned v) u) :
    ArmFor flags0 classFile x code maxLocals ret World_1 tables_1 room_1 Calls_1 rest_1 Pre_1 Post := by
  intro l hfl _ _ p e ha hc hk s m args below hf hA hF happ hP
  obtain ⟨hcalls, hrest, hpre⟩ := hP
  obtain ⟨-, -, -, hnamed, -, -, -, hat⟩ := (Spec.applies_iff hf).mp happ
  obtain ⟨hg, hn⟩ := and_e (Cond.before_iff.mp (show (Jvm.Cond.and given_1 narrow_1).before args s = true from hpre))
  obtain ⟨hcnt, hg0⟩ := and_e hg
  obtain ⟨ha0, hg1⟩ := and_e hg0
  obtain ⟨ha1, hg2⟩ := and_e hg1
  obtain ⟨ha2, hg3⟩ := and_e hg2
  obtain ⟨ha3, hg4⟩ := and_e hg3
  obtain ⟨ha4, hg5⟩ := and_e hg4
  obtain ⟨w0, w1, w2, w3, w4, w5, rfl⟩ : ∃ w0 w1 w2 w3 w4 w5 : Value, args = #[w0, w1, w2, w3, w4, w5] := by
    have hs : args.size = 6 := by simpa [Cond.value, given_1] using hcnt
    obtain ⟨L⟩ := args
    match L, hs with
    | [w0, w1, w2, w3, w4, w5], _ => exact ⟨w0, w1, w2, w3, w4, w5, rfl⟩
  have hw := fun d (hd : d ∈ tables_1) => atoms_spec (ws := Jvm.Cond.code x code maxLocals ret :: tables_1) hat d (List.mem_cons_of_mem _ hd)
  have hfit : Fit s := fun {y c} hc i hi => by
    obtain ⟨ha, rfl⟩ := Array.getElem?_eq_some_iff.mp hc
    have q := List.all_eq_true.mp ((Array.all_eq_true_iff_forall_mem.mp hF) _ (Array.getElem_mem ha)) i (List.mem_range.mpr hi)
    simpa [Array.getElem?_eq_getElem hi] using q
  obtain ⟨i0, ei0⟩ := is_v ha0
  obtain rfl : w0 = (.int i0) := Option.some.inj ei0
  obtain ⟨i1, ei1⟩ := is_v ha1
  obtain rfl : w1 = (.int i1) := Option.some.inj ei1
  obtain ⟨i2, ei2⟩ := is_v ha2
  obtain rfl : w2 = (.int i2) := Option.some.inj ei2
  obtain ⟨i3, ei3⟩ := is_v ha3
  obtain rfl : w3 = (.int i3) := Option.some.inj ei3
  obtain ⟨i4, ei4⟩ := is_v ha4
  obtain rfl : w4 = (.int i4) := Option.some.inj ei4
  obtain ⟨i5, ei5⟩ := is_v hg5
  obtain rfl : w5 = (.int i5) := Option.some.inj ei5
  obtain ⟨n, o, h1, h2, h3, _, L, rfl, ⟨rfl, N⟩, hq⟩ := rm0 l s _ hw tables_1 i0 i1 i2 i3 i4 i5  s.heap s.heap.size (Nat.le_refl _)  p e ha hc hk s m _ below hf ((Spec.applies_iff_loose hf).mp happ).1 ⟨rfl, State.Warmed39.refl s, rfl⟩ trivial
  refine ⟨n, _, h1, h2, h3, hpost _ _ _ _ _ _ ⟨Cond.after_iff.mpr rfl, Cond.after_iff.mpr (eq_i res_at (Term.int_eval (1)) rfl), trivial⟩ ⟨hq.1, hq.2.1, (hq.2.2.sift fun y hy => Or.inr (N y hy)).mono (by decide) (by decide)⟩⟩
theorem main_1_1 : Claimed_1_1 := comes_1 fun _ _ _ _ _ _ h hF => ⟨h.1, hF⟩
theorem main_1_2 : Claimed_1_2 := comes_1 fun _ _ _ _ _ _ h hF => ⟨h.2.1, hF⟩
end Jvm.Pilot.@@N@@
namespace Jvm.Pilot.@@N@@
open Jvm Jvm.ClassFile Sem Op Lib Jvm.Free Jvm.Stand Jvm.Pilot.@@N@@.Jvm.D
/-! MADE BY PROGRAM (witnessworld.py) out of the Statement's table words and the real class files: 19 classes; the members and pool entries that the words name. The judged class is class 1, her method 1. -/
namespace start1
open Jvm.ClassFile
def u (s : String) : CpInfo := .utf8 (stringToUtf16 s)
/-- a pool by its gaps: so many unusable entries, then the entry; so many at the end -/
def gap : Nat → List CpInfo → List CpInfo
  | 0, r => r
  | n + 1, r => .unusable :: gap n r
def poolList (es : List (Nat × CpInfo)) (last : Nat) : List CpInfo := es.foldr (fun e r => gap e.1 (e.2 :: r)) (gap last [])
def pool (es : List (Nat × CpInfo)) (last : Nat) : Array CpInfo := ⟨poolList es last⟩
def fileOf (pool : Array CpInfo) (this : Nat) (attrs : Array Attribute := #[]) (ms : Array MethodInfo := #[]) (fl : Nat := 33) (sup : Nat := 0) (ifs : Array Nat := #[]) (fds : Array FieldInfo := #[]) : ClassFile where
  minorVersion := 0
  majorVersion := 65
  constantPool := pool
  accessFlags := fl
  thisClass := this
  superClass := sup
  interfaces := ifs
  fields := fds
  methods := ms
  attributes := attrs
def plain (name : String) (sup : Option ClassId) : Class where
  name := name
  kind := .ordinary
  loader := none
  accessFlags := 33
  super := sup
  interfaces := #[]
  cf := none
  fields := #[]
  methods := #[]
  instanceTypes := #[]
  staticTypes := #[]
  resolved := #[]
  callSites := []
  init := .initialized
  statics := none
  mirror := none

def pool0 : Array CpInfo := pool [(5, u "<init>"), (0, u "()V"), (1, .class_ 10), (1, u "java/lang/Object")] 113

def k0c0 : Code := { maxStack := 0, maxLocals := 1, code := object_method_1_code, exceptionTable := #[], attributes := #[] }
def k0m0 : Method := { name := "<init>", desc := "()V", sig := { parameters := [], returnType := none }, accessFlags := 1, code := some k0c0 }
/-- java/lang/Object -/
def k0 : Class := { plain "java/lang/Object" none with
  accessFlags := 33
  interfaces := #[]
  cf := some (fileOf pool0 8 #[] #[{ accessFlags := 1, nameIndex := 5, descriptorIndex := 6, attributes := #[] }] 33 0 #[] #[])
  fields := #[]
  methods := #[k0m0]
  instanceTypes := #[]
  staticTypes := #[]
  resolved := Array.replicate 124 none
  statics := none }

def pool1 : Array CpInfo := pool [(2, .class_ 4), (0, .nameAndType 5 6), (0, u "java/lang/Object"), (0, u "<init>"), (0, u "()V"), (0, .methodref 8 9), (0, .class_ 10), (0, .nameAndType 11 12), (0, u "java/lang/Math"), (0, u "min"), (0, u "(II)I"), (0, .methodref 8 14), (0, .nameAndType 15 12), (0, u "max"), (2, .long 2147483647), (1, .class_ 21), (0, u "com/example/mixed_likelihood/mixedlikelihood/search/GainWindow"), (0, .methodref 20 3), (0, .methodref 20 24), (0, .nameAndType 25 26), (0, u "moveTo"), (0, u "(I)V"), (0, .methodref 20 28), (0, .nameAndType 29 30), (0, u "add"), (0, u "(ID)V"), (0, .methodref 20 32), (0, .nameAndType 33 34), (0, u "sum"), (0, u "(I)D"), (0, .methodref 20 36), (0, .nameAndType 37 38), (0, u "nextHolding"), (0, u "(I)I"), (0, .class_ 40), (0, u "com/example/mixed_likelihood/mixedlikelihood/search/GainWindowAddPinLaw"), (2, u "law"), (0, u "(IIIIII)Z")] 3

def k1m0 : Method := { name := "<init>", desc := "()V", sig := { parameters := [], returnType := none }, accessFlags := 1, code := none }
def k1c1 : Code := { maxStack := 4, maxLocals := 24, code := code, exceptionTable := #[], attributes := #[] }
def k1m1 : Method := { name := "law", desc := "(IIIIII)Z", sig := { parameters := [.int, .int, .int, .int, .int, .int], returnType := some .boolean }, accessFlags := 9, code := some k1c1 }
/-- com/example/mixed_likelihood/mixedlikelihood/search/GainWindowAddPinLaw -/
def k1 : Class := { plain "com/example/mixed_likelihood/mixedlikelihood/search/GainWindowAddPinLaw" (some 0) with
  accessFlags := 49
  interfaces := #[]
  cf := some (fileOf pool1 39 #[] #[{ accessFlags := 1, nameIndex := 5, descriptorIndex := 6, attributes := #[] }, { accessFlags := 9, nameIndex := 43, descriptorIndex := 44, attributes := #[] }] 49 2 #[] #[])
  fields := #[]
  methods := #[k1m0, k1m1]
  instanceTypes := #[]
  staticTypes := #[]
  resolved := Array.replicate 48 none
  statics := none }

def pool2 : Array CpInfo := pool [(1, .class_ 2), (0, u "java/lang/Math"), (1, .class_ 6), (1, u "java/lang/Object"), (0, u "<init>"), (0, u "()V"), (89, .class_ 100), (1, u "java/lang/Math$RandomNumberGeneratorHolder"), (71, u "negativeZeroFloatBits"), (0, u "J"), (2, u "negativeZeroDoubleBits"), (21, u "max"), (2, u "min"), (43, u "$assertionsDisabled"), (0, u "Z"), (88, u "(II)I"), (2, u "twoToTheDoubleScaleDown"), (0, u "D"), (4, u "twoToTheDoubleScaleUp"), (9, u "E"), (3, u "PI"), (2, u "TAU"), (2, u "DEGREES_TO_RADIANS"), (0, u "RADIANS_TO_DEGREES")] 94

def k2m0 : Method := { name := "<init>", desc := "()V", sig := { parameters := [], returnType := none }, accessFlags := 2, code := none }
def k2c1 : Code := { maxStack := 2, maxLocals := 2, code := jdk_29_method_65_code, exceptionTable := #[], attributes := #[] }
def k2m1 : Method := { name := "max", desc := "(II)I", sig := { parameters := [.int, .int], returnType := some .int }, accessFlags := 9, code := some k2c1 }
def k2c2 : Code := { maxStack := 2, maxLocals := 2, code := jdk_29_method_69_code, exceptionTable := #[], attributes := #[] }
def k2m2 : Method := { name := "min", desc := "(II)I", sig := { parameters := [.int, .int], returnType := some .int }, accessFlags := 9, code := some k2c2 }
/-- java/lang/Math -/
def k2 : Class := { plain "java/lang/Math" (some 0) with
  accessFlags := 49
  interfaces := #[]
  cf := some (fileOf pool2 1 #[.nestMembers #[98]] #[{ accessFlags := 2, nameIndex := 7, descriptorIndex := 8, attributes := #[] }, { accessFlags := 9, nameIndex := 198, descriptorIndex := 335, attributes := #[] }, { accessFlags := 9, nameIndex := 201, descriptorIndex := 335, attributes := #[] }] 49 4 #[] #[{ accessFlags := 25, nameIndex := 354, descriptorIndex := 339, attributes := #[] }, { accessFlags := 25, nameIndex := 358, descriptorIndex := 339, attributes := #[] }, { accessFlags := 25, nameIndex := 361, descriptorIndex := 339, attributes := #[] }, { accessFlags := 26, nameIndex := 364, descriptorIndex := 339, attributes := #[] }, { accessFlags := 26, nameIndex := 365, descriptorIndex := 339, attributes := #[] }, { accessFlags := 26, nameIndex := 172, descriptorIndex := 173, attributes := #[] }, { accessFlags := 26, nameIndex := 176, descriptorIndex := 173, attributes := #[] }, { accessFlags := 8, nameIndex := 344, descriptorIndex := 339, attributes := #[] }, { accessFlags := 8, nameIndex := 338, descriptorIndex := 339, attributes := #[] }, { accessFlags := 4120, nameIndex := 245, descriptorIndex := 246, attributes := #[] }])
  fields := #[{ name := "E", type := .double, accessFlags := 25, slot := 0, constantValue := 0 }, { name := "PI", type := .double, accessFlags := 25, slot := 1, constantValue := 0 }, { name := "TAU", type := .double, accessFlags := 25, slot := 2, constantValue := 0 }, { name := "DEGREES_TO_RADIANS", type := .double, accessFlags := 26, slot := 3, constantValue := 0 }, { name := "RADIANS_TO_DEGREES", type := .double, accessFlags := 26, slot := 4, constantValue := 0 }, { name := "negativeZeroFloatBits", type := .long, accessFlags := 26, slot := 5, constantValue := 0 }, { name := "negativeZeroDoubleBits", type := .long, accessFlags := 26, slot := 6, constantValue := 0 }, { name := "twoToTheDoubleScaleUp", type := .double, accessFlags := 8, slot := 7, constantValue := 0 }, { name := "twoToTheDoubleScaleDown", type := .double, accessFlags := 8, slot := 8, constantValue := 0 }, { name := "$assertionsDisabled", type := .boolean, accessFlags := 4120, slot := 9, constantValue := 0 }]
  methods := #[k2m0, k2m1, k2m2]
  instanceTypes := #[]
  staticTypes := #[.double, .double, .double, .double, .double, .long, .long, .double, .double, .boolean]
  resolved := Array.replicate 460 none
  statics := none }

def pool3 : Array CpInfo := pool [(1, .methodref 2 3), (0, .class_ 4), (0, .nameAndType 5 6), (0, u "java/lang/Object"), (0, u "<init>"), (0, u "()V"), (0, .class_ 8), (0, u "com/example/mixed_likelihood/mixedlikelihood/search/GainWindow"), (0, .fieldref 7 10), (0, .nameAndType 11 12), (0, u "sums"), (0, u "[D"), (0, .class_ 14), (0, u "java/lang/Long"), (0, .fieldref 7 16), (0, .nameAndType 17 18), (0, u "holding"), (0, u "[J"), (0, .fieldref 7 20), (0, .nameAndType 21 22), (0, u "start"), (0, u "I"), (0, .methodref 24 25), (0, .class_ 26), (0, .nameAndType 27 28), (0, u "java/util/Arrays"), (0, u "fill"), (0, u "([JJ)V"), (12, .long 18446744073709551615), (1, .methodref 13 44), (0, .nameAndType 45 46), (0, u "numberOfTrailingZeros"), (0, u "(J)I"), (0, u "SIZE"), (4, u "moveTo"), (0, u "(I)V"), (2, u "add"), (0, u "(ID)V"), (1, u "nextHolding"), (0, u "(I)I"), (0, u "sum"), (0, u "(I)D")] 2

def k3c0 : Code := { maxStack := 2, maxLocals := 1, code := prog_49_method_1_code, exceptionTable := #[], attributes := #[] }
def k3m0 : Method := { name := "<init>", desc := "()V", sig := { parameters := [], returnType := none }, accessFlags := 0, code := some k3c0 }
def k3c1 : Code := { maxStack := 3, maxLocals := 2, code := prog_49_method_2_code, exceptionTable := #[], attributes := #[] }
def k3m1 : Method := { name := "moveTo", desc := "(I)V", sig := { parameters := [.int], returnType := none }, accessFlags := 0, code := some k3c1 }
def k3c2 : Code := { maxStack := 6, maxLocals := 8, code := prog_49_method_5_code, exceptionTable := #[], attributes := #[] }
def k3m2 : Method := { name := "add", desc := "(ID)V", sig := { parameters := [.int, .double], returnType := none }, accessFlags := 0, code := some k3c2 }
def k3c3 : Code := { maxStack := 5, maxLocals := 6, code := prog_49_method_6_code, exceptionTable := #[], attributes := #[] }
def k3m3 : Method := { name := "nextHolding", desc := "(I)I", sig := { parameters := [.int], returnType := some .int }, accessFlags := 0, code := some k3c3 }
def k3c4 : Code := { maxStack := 3, maxLocals := 2, code := prog_49_method_7_code, exceptionTable := #[], attributes := #[] }
def k3m4 : Method := { name := "sum", desc := "(I)D", sig := { parameters := [.int], returnType := some .double }, accessFlags := 0, code := some k3c4 }
/-- com/example/mixed_likelihood/mixedlikelihood/search/GainWindow -/
def k3 : Class := { plain "com/example/mixed_likelihood/mixedlikelihood/search/GainWindow" (some 0) with
  accessFlags := 48
  interfaces := #[]
  cf := some (fileOf pool3 7 #[] #[{ accessFlags := 0, nameIndex := 5, descriptorIndex := 6, attributes := #[] }, { accessFlags := 0, nameIndex := 52, descriptorIndex := 53, attributes := #[] }, { accessFlags := 0, nameIndex := 56, descriptorIndex := 57, attributes := #[] }, { accessFlags := 0, nameIndex := 59, descriptorIndex := 60, attributes := #[] }, { accessFlags := 0, nameIndex := 61, descriptorIndex := 62, attributes := #[] }] 48 2 #[] #[{ accessFlags := 24, nameIndex := 47, descriptorIndex := 22, attributes := #[] }, { accessFlags := 18, nameIndex := 11, descriptorIndex := 12, attributes := #[] }, { accessFlags := 18, nameIndex := 17, descriptorIndex := 18, attributes := #[] }, { accessFlags := 2, nameIndex := 21, descriptorIndex := 22, attributes := #[] }])
  fields := #[{ name := "SIZE", type := .int, accessFlags := 24, slot := 0, constantValue := 0 }, { name := "sums", type := (.array .double), accessFlags := 18, slot := 0, constantValue := 0 }, { name := "holding", type := (.array .long), accessFlags := 18, slot := 1, constantValue := 0 }, { name := "start", type := .int, accessFlags := 2, slot := 2, constantValue := 0 }]
  methods := #[k3m0, k3m1, k3m2, k3m3, k3m4]
  instanceTypes := #[(.array .double), (.array .long), .int]
  staticTypes := #[.int]
  resolved := Array.replicate 65 none
  statics := none }

def pool4 : Array CpInfo := pool [(2, .class_ 4), (1, u "java/lang/Object"), (0, u "<init>"), (0, u "()V"), (7, .class_ 16), (1, u "java/util/Arrays"), (57, .class_ 76), (1, u "java/util/Arrays$NaturalOrder"), (36, .class_ 115), (1, u "java/util/Arrays$LegacyMergeSort"), (1, u "Z"), (257, .class_ 376), (0, u "java/util/Arrays$ArrayList"), (68, u "$assertionsDisabled"), (269, u "MIN_ARRAY_SORT_GRAN"), (0, u "I"), (2, u "INSERTIONSORT_THRESHOLD"), (120, u "fill"), (0, u "([JJ)V"), (133, .class_ 976), (0, u "java/util/Arrays$ArrayItr")] 52

def k4m0 : Method := { name := "<init>", desc := "()V", sig := { parameters := [], returnType := none }, accessFlags := 2, code := none }
def k4c1 : Code := { maxStack := 4, maxLocals := 5, code := jdk_65_method_101_code, exceptionTable := #[], attributes := #[] }
def k4m1 : Method := { name := "fill", desc := "([JJ)V", sig := { parameters := [(.array .long), .long], returnType := none }, accessFlags := 9, code := some k4c1 }
/-- java/util/Arrays -/
def k4 : Class := { plain "java/util/Arrays" (some 0) with
  accessFlags := 49
  interfaces := #[]
  cf := some (fileOf pool4 14 #[.nestMembers #[975, 375, 113, 74]] #[{ accessFlags := 2, nameIndex := 5, descriptorIndex := 6, attributes := #[] }, { accessFlags := 9, nameIndex := 840, descriptorIndex := 841, attributes := #[] }] 49 2 #[] #[{ accessFlags := 26, nameIndex := 715, descriptorIndex := 716, attributes := #[] }, { accessFlags := 26, nameIndex := 719, descriptorIndex := 716, attributes := #[] }, { accessFlags := 4120, nameIndex := 445, descriptorIndex := 117, attributes := #[] }])
  fields := #[{ name := "MIN_ARRAY_SORT_GRAN", type := .int, accessFlags := 26, slot := 0, constantValue := 0 }, { name := "INSERTIONSORT_THRESHOLD", type := .int, accessFlags := 26, slot := 1, constantValue := 0 }, { name := "$assertionsDisabled", type := .boolean, accessFlags := 4120, slot := 2, constantValue := 0 }]
  methods := #[k4m0, k4m1]
  instanceTypes := #[]
  staticTypes := #[.int, .int, .boolean]
  resolved := Array.replicate 1029 none
  statics := none }

def pool5 : Array CpInfo := pool [(1, .class_ 2), (0, u "java/io/Serializable"), (0, .class_ 4), (0, u "java/lang/Object")] 2

/-- java/io/Serializable -/
def k5 : Class := { plain "java/io/Serializable" (some 0) with
  accessFlags := 1537
  interfaces := #[]
  cf := some (fileOf pool5 1 #[] #[] 1537 3 #[] #[])
  fields := #[]
  methods := #[]
  instanceTypes := #[]
  staticTypes := #[]
  resolved := Array.replicate 7 none
  statics := none }

def pool6 : Array CpInfo := pool [(2, .class_ 4), (1, u "java/lang/Object"), (0, u "<init>"), (0, u "()V"), (1, .class_ 10), (1, u "java/lang/Number"), (2, .class_ 14), (0, u "java/io/Serializable"), (0, u "serialVersionUID"), (0, u "J")] 20

def k6m0 : Method := { name := "<init>", desc := "()V", sig := { parameters := [], returnType := none }, accessFlags := 1, code := none }
/-- java/lang/Number -/
def k6 : Class := { plain "java/lang/Number" (some 0) with
  accessFlags := 1057
  interfaces := #[5]
  cf := some (fileOf pool6 8 #[] #[{ accessFlags := 1, nameIndex := 5, descriptorIndex := 6, attributes := #[] }] 1057 2 #[13] #[{ accessFlags := 26, nameIndex := 15, descriptorIndex := 16, attributes := #[] }])
  fields := #[{ name := "serialVersionUID", type := .long, accessFlags := 26, slot := 0, constantValue := 0 }]
  methods := #[k6m0]
  instanceTypes := #[]
  staticTypes := #[.long]
  resolved := Array.replicate 37 none
  statics := none }

def pool7 : Array CpInfo := pool [(1, .class_ 2), (0, u "java/lang/Comparable"), (0, .class_ 4), (0, u "java/lang/Object")] 7

/-- java/lang/Comparable -/
def k7 : Class := { plain "java/lang/Comparable" (some 0) with
  accessFlags := 1537
  interfaces := #[]
  cf := some (fileOf pool7 1 #[] #[] 1537 3 #[] #[])
  fields := #[]
  methods := #[]
  instanceTypes := #[]
  staticTypes := #[]
  resolved := Array.replicate 12 none
  statics := none }

def pool8 : Array CpInfo := pool [(1, .class_ 2), (0, u "java/lang/constant/Constable"), (0, .class_ 4), (0, u "java/lang/Object")] 6

/-- java/lang/constant/Constable -/
def k8 : Class := { plain "java/lang/constant/Constable" (some 0) with
  accessFlags := 1537
  interfaces := #[]
  cf := some (fileOf pool8 1 #[] #[] 1537 3 #[] #[])
  fields := #[]
  methods := #[]
  instanceTypes := #[]
  staticTypes := #[]
  resolved := Array.replicate 11 none
  statics := none }

def pool9 : Array CpInfo := pool [(1, .class_ 2), (0, u "java/lang/constant/ConstantDesc"), (0, .class_ 4), (0, u "java/lang/Object")] 32

/-- java/lang/constant/ConstantDesc -/
def k9 : Class := { plain "java/lang/constant/ConstantDesc" (some 0) with
  accessFlags := 1537
  interfaces := #[]
  cf := some (fileOf pool9 1 #[] #[] 1537 3 #[] #[])
  fields := #[]
  methods := #[]
  instanceTypes := #[]
  staticTypes := #[]
  resolved := Array.replicate 37 none
  statics := none }

def pool10 : Array CpInfo := pool [(1, .class_ 2), (0, u "java/lang/Long"), (15, .class_ 20), (1, u "java/lang/Integer"), (80, u "(J)I"), (133, .class_ 237), (1, u "java/lang/Long$LongCache"), (33, .class_ 272), (0, u "java/lang/Number"), (2, u "value"), (0, u "J"), (33, u "(I)I"), (0, .methodref 18 312), (0, .nameAndType 313 310), (0, u "numberOfTrailingZeros"), (47, u "TYPE"), (0, u "Ljava/lang/Class;"), (0, .class_ 364), (0, u "java/lang/Comparable"), (0, .class_ 366), (0, u "java/lang/constant/Constable"), (0, .class_ 368), (0, u "java/lang/constant/ConstantDesc"), (0, u "MIN_VALUE"), (1, u "MAX_VALUE"), (4, u "SIZE"), (0, u "I"), (1, u "BYTES"), (1, u "serialVersionUID")] 142

def k10c0 : Code := { maxStack := 4, maxLocals := 3, code := jdk_35_method_49_code, exceptionTable := #[], attributes := #[] }
def k10m0 : Method := { name := "numberOfTrailingZeros", desc := "(J)I", sig := { parameters := [.long], returnType := some .int }, accessFlags := 9, code := some k10c0 }
/-- java/lang/Long -/
def k10 : Class := { plain "java/lang/Long" (some 6) with
  accessFlags := 49
  interfaces := #[7, 8, 9]
  cf := some (fileOf pool10 1 #[.nestMembers #[235]] #[{ accessFlags := 9, nameIndex := 313, descriptorIndex := 101, attributes := #[] }] 49 271 #[363, 365, 367] #[{ accessFlags := 25, nameIndex := 369, descriptorIndex := 276, attributes := #[] }, { accessFlags := 25, nameIndex := 371, descriptorIndex := 276, attributes := #[] }, { accessFlags := 25, nameIndex := 361, descriptorIndex := 362, attributes := #[] }, { accessFlags := 18, nameIndex := 275, descriptorIndex := 276, attributes := #[] }, { accessFlags := 25, nameIndex := 376, descriptorIndex := 377, attributes := #[] }, { accessFlags := 25, nameIndex := 379, descriptorIndex := 377, attributes := #[] }, { accessFlags := 26, nameIndex := 381, descriptorIndex := 276, attributes := #[] }])
  fields := #[{ name := "MIN_VALUE", type := .long, accessFlags := 25, slot := 0, constantValue := 0 }, { name := "MAX_VALUE", type := .long, accessFlags := 25, slot := 1, constantValue := 0 }, { name := "TYPE", type := (.object "java/lang/Class"), accessFlags := 25, slot := 2, constantValue := 0 }, { name := "value", type := .long, accessFlags := 18, slot := 0, constantValue := 0 }, { name := "SIZE", type := .int, accessFlags := 25, slot := 3, constantValue := 0 }, { name := "BYTES", type := .int, accessFlags := 25, slot := 4, constantValue := 0 }, { name := "serialVersionUID", type := .long, accessFlags := 26, slot := 5, constantValue := 0 }]
  methods := #[k10m0]
  instanceTypes := #[.long]
  staticTypes := #[.long, .long, (.object "java/lang/Class"), .int, .int, .long]
  resolved := Array.replicate 524 none
  statics := none }

def pool11 : Array CpInfo := pool [(1, .class_ 2), (0, u "java/lang/Integer"), (16, u "digits"), (0, u "[C"), (33, u "(I)I"), (30, u "DigitOnes"), (0, u "[B"), (2, u "DigitTens"), (99, .class_ 190), (0, u "java/lang/Integer$IntegerCache"), (3, u "I"), (8, .class_ 204), (0, u "java/lang/Number"), (2, u "value"), (56, .integer 65536), (37, u "TYPE"), (0, u "Ljava/lang/Class;"), (0, .class_ 305), (0, u "java/lang/Comparable"), (0, .class_ 307), (0, u "java/lang/constant/Constable"), (0, .class_ 309), (0, u "java/lang/constant/ConstantDesc"), (0, u "MIN_VALUE"), (1, u "MAX_VALUE"), (3, u "SIZE"), (1, u "BYTES"), (1, u "serialVersionUID"), (0, u "J"), (84, u "numberOfTrailingZeros")] 46

def k11c0 : Code := { maxStack := 3, maxLocals := 2, code := jdk_33_method_48_code, exceptionTable := #[], attributes := #[] }
def k11m0 : Method := { name := "numberOfTrailingZeros", desc := "(I)I", sig := { parameters := [.int], returnType := some .int }, accessFlags := 9, code := some k11c0 }
/-- java/lang/Integer -/
def k11 : Class := { plain "java/lang/Integer" (some 6) with
  accessFlags := 49
  interfaces := #[7, 8, 9]
  cf := some (fileOf pool11 1 #[.nestMembers #[189]] #[{ accessFlags := 9, nameIndex := 406, descriptorIndex := 54, attributes := #[] }] 49 203 #[304, 306, 308] #[{ accessFlags := 25, nameIndex := 310, descriptorIndex := 194, attributes := #[] }, { accessFlags := 25, nameIndex := 312, descriptorIndex := 194, attributes := #[] }, { accessFlags := 25, nameIndex := 302, descriptorIndex := 303, attributes := #[] }, { accessFlags := 24, nameIndex := 19, descriptorIndex := 20, attributes := #[] }, { accessFlags := 24, nameIndex := 89, descriptorIndex := 86, attributes := #[] }, { accessFlags := 24, nameIndex := 85, descriptorIndex := 86, attributes := #[] }, { accessFlags := 18, nameIndex := 207, descriptorIndex := 194, attributes := #[] }, { accessFlags := 25, nameIndex := 316, descriptorIndex := 194, attributes := #[] }, { accessFlags := 25, nameIndex := 318, descriptorIndex := 194, attributes := #[] }, { accessFlags := 26, nameIndex := 320, descriptorIndex := 321, attributes := #[] }])
  fields := #[{ name := "MIN_VALUE", type := .int, accessFlags := 25, slot := 0, constantValue := 0 }, { name := "MAX_VALUE", type := .int, accessFlags := 25, slot := 1, constantValue := 0 }, { name := "TYPE", type := (.object "java/lang/Class"), accessFlags := 25, slot := 2, constantValue := 0 }, { name := "digits", type := (.array .char), accessFlags := 24, slot := 3, constantValue := 0 }, { name := "DigitTens", type := (.array .byte), accessFlags := 24, slot := 4, constantValue := 0 }, { name := "DigitOnes", type := (.array .byte), accessFlags := 24, slot := 5, constantValue := 0 }, { name := "value", type := .int, accessFlags := 18, slot := 0, constantValue := 0 }, { name := "SIZE", type := .int, accessFlags := 25, slot := 6, constantValue := 0 }, { name := "BYTES", type := .int, accessFlags := 25, slot := 7, constantValue := 0 }, { name := "serialVersionUID", type := .long, accessFlags := 26, slot := 8, constantValue := 0 }]
  methods := #[k11m0]
  instanceTypes := #[.int]
  staticTypes := #[.int, .int, (.object "java/lang/Class"), (.array .char), (.array .byte), (.array .byte), .int, .int, .long]
  resolved := Array.replicate 453 none
  statics := none }

def pool12 : Array CpInfo := pool [(1, u "java/lang/Cloneable"), (0, .class_ 1), (0, u "java/lang/Object"), (0, .class_ 3)] 3

/-- java/lang/Cloneable -/
def k12 : Class := { plain "java/lang/Cloneable" (some 0) with
  accessFlags := 1537
  interfaces := #[]
  cf := some (fileOf pool12 2 #[] #[] 1537 4 #[] #[])
  fields := #[]
  methods := #[]
  instanceTypes := #[]
  staticTypes := #[]
  resolved := Array.replicate 8 none
  statics := none }

/-- the primitive byte -/
def k13 : Class := { plain "byte" none with kind := .primitive 'B', accessFlags := 0x411 }
/-- [B -/
def k14 : Class := { plain "[B" (some 0) with kind := .array 13 .byte, interfaces := #[12, 5], accessFlags := 1041 }

/-- the primitive int -/
def k15 : Class := { plain "int" none with kind := .primitive 'I', accessFlags := 0x411 }
/-- [I -/
def k16 : Class := { plain "[I" (some 0) with kind := .array 15 .int, interfaces := #[12, 5], accessFlags := 1041 }

/-- the primitive long -/
def k17 : Class := { plain "long" none with kind := .primitive 'J', accessFlags := 0x411 }
/-- [J -/
def k18 : Class := { plain "[J" (some 0) with kind := .array 17 .long, interfaces := #[12, 5], accessFlags := 1041 }

/-- the primitive double -/
def k19 : Class := { plain "double" none with kind := .primitive 'D', accessFlags := 0x411 }
/-- [D -/
def k20 : Class := { plain "[D" (some 0) with kind := .array 19 .double, interfaces := #[12, 5], accessFlags := 1041 }

def heap : Heap := #[]
def classes : Array Class := #[k0, k1, k2, k3, k4, k5, k6, k7, k8, k9, k10, k11, k12, k13, k14, k15, k16, k17, k18, k19, k20]
def interned : List (Array UInt16 × Addr) := []
def slotsUsed : Nat := 0
def theMethod : MethodId := ⟨1, 1⟩
def args0 : Array Value := #[.int 5, .int 2, .int 7, .int 1, .int 15, .int 3]
def aboutOver (below : List Frame) : State where
  vm := { classes := classes, interned := interned.toArray }
  heap := heap
  slotsUsed := slotsUsed
  threads := #[{ frames := .invoking theMethod args0 :: below }]
def below0 : List Frame := [.native { method := ⟨0, 0⟩, args := #[] }]
def about1 : State := aboutOver below0
def p0 : Program := .bare "" "" ""
def e0 : Env := launch0.env 0 0 0
theorem w_frames : about1.frames = Frame.invoking theMethod args0 :: below0 := rfl
set_option maxRecDepth 65536 in
theorem w_args : argsFit about1.vm theMethod args0 = true := by decide +kernel
set_option maxRecDepth 65536 in
theorem w_heap : heapFits about1 = true := by decide +kernel
set_option maxRecDepth 65536 in
theorem w_runnable : about1.curStatus? = some .runnable := by decide +kernel
set_option maxRecDepth 65536 in
theorem w_alone : about1.alone = true := by decide +kernel
set_option maxRecDepth 65536 in
theorem w_named : about1.methodNamed? x = some theMethod := by decide +kernel
set_option maxRecDepth 65536 in
theorem w_hears : about1.hears theMethod below0 = true := by decide +kernel
set_option maxRecDepth 65536 in
theorem w_ripe : about1.ripe theMethod args0 below0 = true := by decide +kernel
theorem w_running : about1.status = .running := rfl
set_option maxRecDepth 65536 in
theorem w_room : about1.hasRoom e0.platform room_1 = true :=
  launch0.hasRoom_least _ room_1 (by decide +kernel) (by decide +kernel) (by decide +kernel) (by decide +kernel) (by decide +kernel) (by decide +kernel)
theorem allAtoms_all (ts : List Jvm.Cond) (a : Array Jvm.Value) (st : Jvm.State) : (allAtoms ts).before a st = ts.all (fun c => c.before a st) := by
  induction ts with
  | nil => rfl
  | cons c t ih =>
    show (Jvm.Cond.and c (allAtoms t)).before a st = _
    rw [Jvm.Cond.before_and, ih, List.all_cons]
def words1 : List Jvm.Cond := Jvm.Cond.code x code maxLocals ret :: tables_1
/-- a 'code' word, met by the world's own term for the bytes: nothing is compared byte by byte -/
theorem code_word {y : MethodName} {bytes : ByteArray} {mx : Nat} {rt : Option FieldType} {a : Array Value} {s : State} {m : MethodId} {meth : Method} {c : Code} (h1 : s.methodNamed? y = some m) (h2 : s.vm.method? m = some meth) (h3 : meth.code = some c) (h4 : c.code = bytes)
    (h5 : (c.maxLocals == mx && c.exceptionTable.isEmpty && decide (c.maxStack ≤ mostOperands) && decide (meth.sig.returnType = rt) && !meth.locks && decide (parseMethodDescriptor y.desc = some meth.sig)) = true) : (Jvm.Cond.code y bytes mx rt).before a s = true := by
  simp only [Bool.and_eq_true, beq_iff_eq, Bool.not_eq_true', decide_eq_true_eq] at h5
  obtain ⟨⟨⟨⟨⟨g1, g2⟩, g3⟩, g4⟩, g5⟩, g6⟩ := h5
  simp [Cond.before, Cond.holds, Cond.value, h1, h2, h3, h4, g1, g2, g3, g4, g5, g6]
def isCode : Jvm.Cond → Bool
  | .code _ _ _ _ => true
  | _ => false
theorem all_split {L : List Jvm.Cond} {P : Jvm.Cond → Bool} (h1 : L.all (fun c => isCode c || P c) = true) (h2 : ∀ c ∈ L.filter isCode, P c = true) : L.all P = true := by
  refine List.all_eq_true.mpr fun c hc => ?_
  have h := List.all_eq_true.mp h1 c hc
  rcases Bool.eq_false_or_eq_true (isCode c) with hi | hi
  · exact h2 c (List.mem_filter.mpr ⟨hc, hi⟩)
  · simpa [hi] using h
set_option maxRecDepth 65536 in
theorem w_c0 : (Jvm.Cond.code x code maxLocals ret).before args0 about1 = true := code_word (m := ⟨1, 1⟩) (meth := k1m1) (c := k1c1) (by decide +kernel) rfl rfl rfl (by decide +kernel)
set_option maxRecDepth 65536 in
theorem w_c1 : (Jvm.Cond.code ({ cls := "java/lang/Math", name := "min", desc := "(II)I" } : Jvm.MethodName) jdk_29_method_69_code (2 : Nat) (Option.some Jvm.ClassFile.FieldType.int)).before args0 about1 = true := code_word (m := ⟨2, 2⟩) (meth := k2m2) (c := k2c2) (by decide +kernel) rfl rfl rfl (by decide +kernel)
set_option maxRecDepth 65536 in
theorem w_c2 : (Jvm.Cond.code ({ cls := "java/lang/Math", name := "max", desc := "(II)I" } : Jvm.MethodName) jdk_29_method_65_code (2 : Nat) (Option.some Jvm.ClassFile.FieldType.int)).before args0 about1 = true := code_word (m := ⟨2, 1⟩) (meth := k2m1) (c := k2c1) (by decide +kernel) rfl rfl rfl (by decide +kernel)
set_option maxRecDepth 65536 in
theorem w_c3 : (Jvm.Cond.code ({ cls := "com/example/mixed_likelihood/mixedlikelihood/search/GainWindow", name := "<init>", desc := "()V" } : Jvm.MethodName) prog_49_method_1_code (1 : Nat) (Option.none : Option Jvm.ClassFile.FieldType)).before args0 about1 = true := code_word (m := ⟨3, 0⟩) (meth := k3m0) (c := k3c0) (by decide +kernel) rfl rfl rfl (by decide +kernel)
set_option maxRecDepth 65536 in
theorem w_c4 : (Jvm.Cond.code ({ cls := "java/lang/Object", name := "<init>", desc := "()V" } : Jvm.MethodName) object_method_1_code (1 : Nat) (Option.none : Option Jvm.ClassFile.FieldType)).before args0 about1 = true := code_word (m := ⟨0, 0⟩) (meth := k0m0) (c := k0c0) (by decide +kernel) rfl rfl rfl (by decide +kernel)
set_option maxRecDepth 65536 in
theorem w_c5 : (Jvm.Cond.code ({ cls := "com/example/mixed_likelihood/mixedlikelihood/search/GainWindow", name := "moveTo", desc := "(I)V" } : Jvm.MethodName) prog_49_method_2_code (2 : Nat) (Option.none : Option Jvm.ClassFile.FieldType)).before args0 about1 = true := code_word (m := ⟨3, 1⟩) (meth := k3m1) (c := k3c1) (by decide +kernel) rfl rfl rfl (by decide +kernel)
set_option maxRecDepth 65536 in
theorem w_c6 : (Jvm.Cond.code ({ cls := "java/util/Arrays", name := "fill", desc := "([JJ)V" } : Jvm.MethodName) jdk_65_method_101_code (5 : Nat) (Option.none : Option Jvm.ClassFile.FieldType)).before args0 about1 = true := code_word (m := ⟨4, 1⟩) (meth := k4m1) (c := k4c1) (by decide +kernel) rfl rfl rfl (by decide +kernel)
set_option maxRecDepth 65536 in
theorem w_c7 : (Jvm.Cond.code ({ cls := "com/example/mixed_likelihood/mixedlikelihood/search/GainWindow", name := "add", desc := "(ID)V" } : Jvm.MethodName) prog_49_method_5_code (8 : Nat) (Option.none : Option Jvm.ClassFile.FieldType)).before args0 about1 = true := code_word (m := ⟨3, 2⟩) (meth := k3m2) (c := k3c2) (by decide +kernel) rfl rfl rfl (by decide +kernel)
set_option maxRecDepth 65536 in
theorem w_c8 : (Jvm.Cond.code ({ cls := "com/example/mixed_likelihood/mixedlikelihood/search/GainWindow", name := "sum", desc := "(I)D" } : Jvm.MethodName) prog_49_method_7_code (2 : Nat) (Option.some Jvm.ClassFile.FieldType.double)).before args0 about1 = true := code_word (m := ⟨3, 4⟩) (meth := k3m4) (c := k3c4) (by decide +kernel) rfl rfl rfl (by decide +kernel)
set_option maxRecDepth 65536 in
theorem w_c9 : (Jvm.Cond.code ({ cls := "com/example/mixed_likelihood/mixedlikelihood/search/GainWindow", name := "nextHolding", desc := "(I)I" } : Jvm.MethodName) prog_49_method_6_code (6 : Nat) (Option.some Jvm.ClassFile.FieldType.int)).before args0 about1 = true := code_word (m := ⟨3, 3⟩) (meth := k3m3) (c := k3c3) (by decide +kernel) rfl rfl rfl (by decide +kernel)
set_option maxRecDepth 65536 in
theorem w_c10 : (Jvm.Cond.code ({ cls := "java/lang/Long", name := "numberOfTrailingZeros", desc := "(J)I" } : Jvm.MethodName) jdk_35_method_49_code (3 : Nat) (Option.some Jvm.ClassFile.FieldType.int)).before args0 about1 = true := code_word (m := ⟨10, 0⟩) (meth := k10m0) (c := k10c0) (by decide +kernel) rfl rfl rfl (by decide +kernel)
set_option maxRecDepth 65536 in
theorem w_c11 : (Jvm.Cond.code ({ cls := "java/lang/Integer", name := "numberOfTrailingZeros", desc := "(I)I" } : Jvm.MethodName) jdk_33_method_48_code (2 : Nat) (Option.some Jvm.ClassFile.FieldType.int)).before args0 about1 = true := code_word (m := ⟨11, 0⟩) (meth := k11m0) (c := k11c0) (by decide +kernel) rfl rfl rfl (by decide +kernel)
def codes1 : List Jvm.Cond := [Jvm.Cond.code x code maxLocals ret, Jvm.Cond.code ({ cls := "java/lang/Math", name := "min", desc := "(II)I" } : Jvm.MethodName) jdk_29_method_69_code (2 : Nat) (Option.some Jvm.ClassFile.FieldType.int), Jvm.Cond.code ({ cls := "java/lang/Math", name := "max", desc := "(II)I" } : Jvm.MethodName) jdk_29_method_65_code (2 : Nat) (Option.some Jvm.ClassFile.FieldType.int), Jvm.Cond.code ({ cls := "com/example/mixed_likelihood/mixedlikelihood/search/GainWindow", name := "<init>", desc := "()V" } : Jvm.MethodName) prog_49_method_1_code (1 : Nat) (Option.none : Option Jvm.ClassFile.FieldType), Jvm.Cond.code ({ cls := "java/lang/Object", name := "<init>", desc := "()V" } : Jvm.MethodName) object_method_1_code (1 : Nat) (Option.none : Option Jvm.ClassFile.FieldType), Jvm.Cond.code ({ cls := "com/example/mixed_likelihood/mixedlikelihood/search/GainWindow", name := "moveTo", desc := "(I)V" } : Jvm.MethodName) prog_49_method_2_code (2 : Nat) (Option.none : Option Jvm.ClassFile.FieldType), Jvm.Cond.code ({ cls := "java/util/Arrays", name := "fill", desc := "([JJ)V" } : Jvm.MethodName) jdk_65_method_101_code (5 : Nat) (Option.none : Option Jvm.ClassFile.FieldType), Jvm.Cond.code ({ cls := "com/example/mixed_likelihood/mixedlikelihood/search/GainWindow", name := "add", desc := "(ID)V" } : Jvm.MethodName) prog_49_method_5_code (8 : Nat) (Option.none : Option Jvm.ClassFile.FieldType), Jvm.Cond.code ({ cls := "com/example/mixed_likelihood/mixedlikelihood/search/GainWindow", name := "sum", desc := "(I)D" } : Jvm.MethodName) prog_49_method_7_code (2 : Nat) (Option.some Jvm.ClassFile.FieldType.double), Jvm.Cond.code ({ cls := "com/example/mixed_likelihood/mixedlikelihood/search/GainWindow", name := "nextHolding", desc := "(I)I" } : Jvm.MethodName) prog_49_method_6_code (6 : Nat) (Option.some Jvm.ClassFile.FieldType.int), Jvm.Cond.code ({ cls := "java/lang/Long", name := "numberOfTrailingZeros", desc := "(J)I" } : Jvm.MethodName) jdk_35_method_49_code (3 : Nat) (Option.some Jvm.ClassFile.FieldType.int), Jvm.Cond.code ({ cls := "java/lang/Integer", name := "numberOfTrailingZeros", desc := "(I)I" } : Jvm.MethodName) jdk_33_method_48_code (2 : Nat) (Option.some Jvm.ClassFile.FieldType.int)]
set_option maxRecDepth 65536 in
theorem codes_eq : words1.filter isCode = codes1 := rfl
theorem w_codes : ∀ c ∈ words1.filter isCode, c.before args0 about1 = true := by
  rw [codes_eq]
  intro c hc
  simp only [codes1, List.mem_cons, List.not_mem_nil, or_false] at hc
  rcases hc with rfl | rfl | rfl | rfl | rfl | rfl | rfl | rfl | rfl | rfl | rfl | rfl
  · exact w_c0
  · exact w_c1
  · exact w_c2
  · exact w_c3
  · exact w_c4
  · exact w_c5
  · exact w_c6
  · exact w_c7
  · exact w_c8
  · exact w_c9
  · exact w_c10
  · exact w_c11
set_option maxRecDepth 65536 in
theorem w_t1 : (words1.take 24).all (fun c => isCode c || c.before args0 about1) = true := by decide +kernel
set_option maxRecDepth 65536 in
theorem w_t2 : ((words1.drop 24).take 24).all (fun c => isCode c || c.before args0 about1) = true := by decide +kernel
set_option maxRecDepth 65536 in
theorem w_t3 : ((words1.drop 24).drop 24).all (fun c => isCode c || c.before args0 about1) = true := by decide +kernel
theorem w_tables : (allAtoms (Jvm.Cond.code x code maxLocals ret :: tables_1)).before args0 about1 = true := by
  rw [allAtoms_all]
  show words1.all (fun c => c.before args0 about1) = true
  refine all_split ?_ w_codes
  rw [← List.take_append_drop 24 words1, List.all_append, w_t1, ← List.take_append_drop 24 (words1.drop 24), List.all_append, w_t2, w_t3]
  rfl
set_option maxRecDepth 65536 in
theorem w_case : (Jvm.Cond.and given_1 narrow_1).before args0 about1 = true := by decide +kernel
theorem w_applies : (headSpec (Jvm.Cond.code x code maxLocals ret :: tables_1) room_1).applies x e0.platform about1 = true :=
  (Spec.applies_iff w_frames).mpr ⟨w_running, w_runnable, w_alone, w_named, w_hears, w_ripe, w_room, w_tables⟩
theorem atStart : AtStart classFile x code maxLocals ret World_1 tables_1 room_1 Calls_1 rest_1 Pre_1 launch0 p0 e0 about1 theMethod args0 below0 :=
  ⟨lists_1, trivial, launch0.admits_env _ _ _, launch0.least_env, fairChoices_fair.cas, fairChoices_fair.clock, w_frames, w_args, w_heap, w_applies, trivial, trivial, w_case⟩
end start1
theorem witness_1 : WitnessClaimed_1 := ⟨start1.p0, start1.e0, start1.about1, start1.theMethod, start1.args0, start1.below0, start1.atStart⟩
end Jvm.Pilot.@@N@@
