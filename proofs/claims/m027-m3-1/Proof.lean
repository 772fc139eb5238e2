import JvmDerived
import JvmDerived.Pilot.@@N@@Statement
import JvmDerived.Pilot.@@N@@Code
set_option linter.unusedVariables false
set_option linter.unusedSimpArgs false
namespace Jvm.Pilot.@@N@@
open Jvm Jvm.ClassFile Sem Op Lib Jvm.Free Jvm.Stand Jvm.LawKit Jvm.RoadKit Bundle Jvm.Pilot.@@N@@.Jvm.D
/-! own kit: the walk in program order: own_G says that from this frame on the run ends as promised -/
def own_G (tb : Tables) (e : Env) (below : List Frame) (P : Outcome → State → Prop) (T : State) (f : JFrame) : Prop :=
  ∃ s₂ o, Steps tb e below (T.setTop f) s₂ ∧ s₂.status = .running ∧ Ended s₂ below o ∧ P o s₂
def own_P (s : State) (Q : Option Value → Heap → List Loc → Prop) (C S : Nat) (o : Outcome) (U : State) : Prop :=
  ∃ v L, o = .returned v ∧ Q v U.heap L ∧ FrameEnd s o U L C S
theorem own_go {tb : Tables} {e : Env} {below : List Frame} {P : Outcome → State → Prop} {T T' : State} {f f' : JFrame} (st : ∀ target, Steps tb e below (T'.setTop f') target → Steps tb e below (T.setTop f) target) (k : own_G tb e below P T' f') : own_G tb e below P T f := by
  obtain ⟨s₂, o, h1, h2⟩ := k
  exact ⟨s₂, o, st _ h1, h2⟩
section OwnKit
variable {p : Program} {l : Launch} {e : Env} {R : Room} {s : State} {m : MethodId} {args : Array Value} {below : List Frame} {meth : Method} {c : Code} {T : State} {locs : List Loc} {cells slots : Nat} {Z : State} {a0 : Array Value} {h : Heap} {P : Outcome → State → Prop}
theorem own_body {y : MethodName} {bytes : ByteArray} {maxL : Nat} {ret : Option FieldType} {ws : List Jvm.Cond} {rm : Room} {as' : Array Value} {Q : Option Value → Heap → List Loc → Prop} {C S : Nat} (pn : plainFor y = true)
    (body : ∀ p e s m below meth c s₁, p.tables.exec = Jvm.exec → c.code = bytes → c.maxLocals = maxL → s.vm.findClass y.cls = some m.cls → meth.name = y.name → meth.locks = false → meth.sig.returnType = ret → Z.Warmed39 s.vm → Stand p l e rm s m as' below meth c s₁ [] 0 0 → s₁.heap = h →
      own_G p.tables e below (own_P s Q C S) s₁ (entryFrame m as' maxL)) :
    MetFree l y (head1 (Jvm.Cond.code y bytes maxL ret :: ws) rm) (fun a U => a = as' ∧ Z.Warmed39 U.vm ∧ U.heap = h) (fun _ _ _ _ _ => True) (fun _ U o U' => ∃ v L, o = .returned v ∧ Q v U'.heap L ∧ FrameEnd U o U' L C S) := by
  refine MetFree.of_bodySF (maxLocals := maxL) (ret := ret) (code := bytes) pn hisR ?_
  intro p e s m args below meth c s₁ Bd hml0 hP hK
  obtain ⟨rfl, hZ, hh⟩ := hP
  exact body p e s m below meth c s₁ Bd.exec Bd.bytes hml0 (findClass_of_methodNamed Bd.named) (name_of_methodNamed Bd.named Bd.method).1 (BodyLoose.notSynchronized Bd) Bd.returns hZ (Stand.of_body Bd) (by rw [← hh, Bd.state]; rfl)
theorem own_ret {v : Option Value} {f : JFrame} {Q : Option Value → Heap → List Loc → Prop} {C S : Nat} (X : Stand p l e R s m args below meth c T locs cells slots) (hlk : meth.locks = false) (hv : meth.sig.returnType = none → v = none)
    (st : ∀ fs, (∀ (f : JFrame) (acts : List Action), f.method = m → f.locked = none → f.entered = [] → (doReturn e (T.setTop f) acts v).1 = T.setFrames fs) → Steps p.tables e below (T.setTop f) (T.setFrames fs)) (hC : cells ≤ C) (hS : slots ≤ S) (hq : Q v T.heap locs) : own_G p.tables e below (own_P s Q C S) T f := by
  obtain ⟨fs, hr, hrun, hended, hW, hsame⟩ := X.leave (v := v) hv hlk
  exact ⟨_, _, st fs hr, hrun, hended, _, _, rfl, hq, ⟨_, rfl⟩, hW, hsame.mono hC hS⟩
theorem own_retN {Q : Option Value → Heap → List Loc → Prop} {C S : Nat} (X : Stand p l e R s m args below meth c T locs cells slots) (hx : p.tables.exec = Jvm.exec) (hlk : meth.locks = false) {t : FieldType} (hret : meth.sig.returnType = some t) (ht : t = .boolean ∨ t = .byte ∨ t = .char ∨ t = .short) {pc : Nat} {Ls : Array Slot} {z : Int32} {rest : List Value} (hd : decode c.code pc = .ok (.ireturn, 1)) (hC : cells ≤ C) (hS : slots ≤ S) (hq : Q (some (.int (nar t z))) T.heap locs) :
    own_G p.tables e below (own_P s Q C S) T (mkF m pc Ls (.int z :: rest)) :=
  own_ret X hlk (fun h => by rw [hret] at h; cases h) (fun fs hr => retN X hx hret ht hd hr) hC hS hq
theorem own_retI {Q : Option Value → Heap → List Loc → Prop} {C S : Nat} (X : Stand p l e R s m args below meth c T locs cells slots) (hx : p.tables.exec = Jvm.exec) (hlk : meth.locks = false) (hret : meth.sig.returnType = some .int) {pc : Nat} {Ls : Array Slot} {z : Int32} {rest : List Value} (hd : decode c.code pc = .ok (.ireturn, 1)) (hC : cells ≤ C) (hS : slots ≤ S) (hq : Q (some (.int z)) T.heap locs) :
    own_G p.tables e below (own_P s Q C S) T (mkF m pc Ls (.int z :: rest)) :=
  own_ret X hlk (fun h => by rw [hret] at h; cases h) (fun fs hr => retOut X hx hret rfl (Or.inl ⟨rfl, Or.inl rfl, z, rfl⟩) hd hr) hC hS hq
theorem own_retJ {Q : Option Value → Heap → List Loc → Prop} {C S : Nat} (X : Stand p l e R s m args below meth c T locs cells slots) (hx : p.tables.exec = Jvm.exec) (hlk : meth.locks = false) (hret : meth.sig.returnType = some .long) {pc : Nat} {Ls : Array Slot} {z : Int64} {rest : List Value} (hd : decode c.code pc = .ok (.lreturn, 1)) (hC : cells ≤ C) (hS : slots ≤ S) (hq : Q (some (.long z)) T.heap locs) :
    own_G p.tables e below (own_P s Q C S) T (mkF m pc Ls (.long z :: rest)) :=
  own_ret X hlk (fun h => by rw [hret] at h; cases h) (fun fs hr => retOut X hx hret rfl (Or.inr (Or.inl ⟨rfl, rfl, z, rfl⟩)) hd hr) hC hS hq
theorem own_retA {Q : Option Value → Heap → List Loc → Prop} {C S : Nat} (X : Stand p l e R s m args below meth c T locs cells slots) (hx : p.tables.exec = Jvm.exec) (hlk : meth.locks = false) {t : FieldType} (hret : meth.sig.returnType = some t) (ht : t.isReference = true) {pc : Nat} {Ls : Array Slot} {w : Value} {rest : List Value} (hw : w.isRef = true) (hn : narrow t w = w) (hd : decode c.code pc = .ok (.areturn, 1)) (hC : cells ≤ C) (hS : slots ≤ S) (hq : Q (some w) T.heap locs) :
    own_G p.tables e below (own_P s Q C S) T (mkF m pc Ls (w :: rest)) :=
  own_ret X hlk (fun h => by rw [hret] at h; cases h) (fun fs hr => retOut X hx hret hn (Or.inr (Or.inr (Or.inr (Or.inr ⟨rfl, ht, hw⟩)))) hd hr) hC hS hq
theorem own_retV {Q : Option Value → Heap → List Loc → Prop} {C S : Nat} (X : Stand p l e R s m args below meth c T locs cells slots) (hx : p.tables.exec = Jvm.exec) (hlk : meth.locks = false) (hret : meth.sig.returnType = none) {pc : Nat} {Ls : Array Slot} (hd : decode c.code pc = .ok (.return_, 1)) (hC : cells ≤ C) (hS : slots ≤ S) (hq : Q none T.heap locs) :
    own_G p.tables e below (own_P s Q C S) T (mkF m pc Ls []) :=
  own_ret X hlk (fun h => rfl) (fun fs hr => X.returnOut hx hret hd hr) hC hS hq
theorem own_iadd (X : Stand p l e R s m args below meth c T locs cells slots) (hx : p.tables.exec = Jvm.exec) {pc pc' : Nat} {Ls : Array Slot} {x y z : Int32} {rest : List Value} (hd : decode c.code pc = .ok (.iadd, 1)) (hz : x + y = z) (hp : pc + 1 = pc') (k : own_G p.tables e below P T (mkF m pc' Ls (.int z :: rest))) : own_G p.tables e below P T (mkF m pc Ls (.int y :: .int x :: rest)) := by
  subst hp; subst hz; exact own_go (fun t q => XS.iadd X.here hx rfl hd rfl q) k
theorem own_isub (X : Stand p l e R s m args below meth c T locs cells slots) (hx : p.tables.exec = Jvm.exec) {pc pc' : Nat} {Ls : Array Slot} {x y z : Int32} {rest : List Value} (hd : decode c.code pc = .ok (.isub, 1)) (hz : x - y = z) (hp : pc + 1 = pc') (k : own_G p.tables e below P T (mkF m pc' Ls (.int z :: rest))) : own_G p.tables e below P T (mkF m pc Ls (.int y :: .int x :: rest)) := by
  subst hp; subst hz; exact own_go (fun t q => XS.isub X.here hx rfl hd rfl q) k
theorem own_imul (X : Stand p l e R s m args below meth c T locs cells slots) (hx : p.tables.exec = Jvm.exec) {pc pc' : Nat} {Ls : Array Slot} {x y z : Int32} {rest : List Value} (hd : decode c.code pc = .ok (.imul, 1)) (hz : x * y = z) (hp : pc + 1 = pc') (k : own_G p.tables e below P T (mkF m pc' Ls (.int z :: rest))) : own_G p.tables e below P T (mkF m pc Ls (.int y :: .int x :: rest)) := by
  subst hp; subst hz; exact own_go (fun t q => XS.imul X.here hx rfl hd rfl q) k
theorem own_iand (X : Stand p l e R s m args below meth c T locs cells slots) (hx : p.tables.exec = Jvm.exec) {pc pc' : Nat} {Ls : Array Slot} {x y z : Int32} {rest : List Value} (hd : decode c.code pc = .ok (.iand, 1)) (hz : x &&& y = z) (hp : pc + 1 = pc') (k : own_G p.tables e below P T (mkF m pc' Ls (.int z :: rest))) : own_G p.tables e below P T (mkF m pc Ls (.int y :: .int x :: rest)) := by
  subst hp; subst hz; exact own_go (fun t q => XS.iand X.here hx rfl hd rfl q) k
theorem own_ior (X : Stand p l e R s m args below meth c T locs cells slots) (hx : p.tables.exec = Jvm.exec) {pc pc' : Nat} {Ls : Array Slot} {x y z : Int32} {rest : List Value} (hd : decode c.code pc = .ok (.ior, 1)) (hz : x ||| y = z) (hp : pc + 1 = pc') (k : own_G p.tables e below P T (mkF m pc' Ls (.int z :: rest))) : own_G p.tables e below P T (mkF m pc Ls (.int y :: .int x :: rest)) := by
  subst hp; subst hz; exact own_go (fun t q => XS.ior X.here hx rfl hd rfl q) k
theorem own_ixor (X : Stand p l e R s m args below meth c T locs cells slots) (hx : p.tables.exec = Jvm.exec) {pc pc' : Nat} {Ls : Array Slot} {x y z : Int32} {rest : List Value} (hd : decode c.code pc = .ok (.ixor, 1)) (hz : x ^^^ y = z) (hp : pc + 1 = pc') (k : own_G p.tables e below P T (mkF m pc' Ls (.int z :: rest))) : own_G p.tables e below P T (mkF m pc Ls (.int y :: .int x :: rest)) := by
  subst hp; subst hz; exact own_go (fun t q => XS.ixor X.here hx rfl hd rfl q) k
theorem own_ladd (X : Stand p l e R s m args below meth c T locs cells slots) (hx : p.tables.exec = Jvm.exec) {pc pc' : Nat} {Ls : Array Slot} {x y z : Int64} {rest : List Value} (hd : decode c.code pc = .ok (.ladd, 1)) (hz : x + y = z) (hp : pc + 1 = pc') (k : own_G p.tables e below P T (mkF m pc' Ls (.long z :: rest))) : own_G p.tables e below P T (mkF m pc Ls (.long y :: .long x :: rest)) := by
  subst hp; subst hz; exact own_go (fun t q => XS.ladd X.here hx rfl hd rfl q) k
theorem own_lsub (X : Stand p l e R s m args below meth c T locs cells slots) (hx : p.tables.exec = Jvm.exec) {pc pc' : Nat} {Ls : Array Slot} {x y z : Int64} {rest : List Value} (hd : decode c.code pc = .ok (.lsub, 1)) (hz : x - y = z) (hp : pc + 1 = pc') (k : own_G p.tables e below P T (mkF m pc' Ls (.long z :: rest))) : own_G p.tables e below P T (mkF m pc Ls (.long y :: .long x :: rest)) := by
  subst hp; subst hz; exact own_go (fun t q => XS.lsub X.here hx rfl hd rfl q) k
theorem own_lmul (X : Stand p l e R s m args below meth c T locs cells slots) (hx : p.tables.exec = Jvm.exec) {pc pc' : Nat} {Ls : Array Slot} {x y z : Int64} {rest : List Value} (hd : decode c.code pc = .ok (.lmul, 1)) (hz : x * y = z) (hp : pc + 1 = pc') (k : own_G p.tables e below P T (mkF m pc' Ls (.long z :: rest))) : own_G p.tables e below P T (mkF m pc Ls (.long y :: .long x :: rest)) := by
  subst hp; subst hz; exact own_go (fun t q => XS.lmul X.here hx rfl hd rfl q) k
theorem own_land (X : Stand p l e R s m args below meth c T locs cells slots) (hx : p.tables.exec = Jvm.exec) {pc pc' : Nat} {Ls : Array Slot} {x y z : Int64} {rest : List Value} (hd : decode c.code pc = .ok (.land, 1)) (hz : x &&& y = z) (hp : pc + 1 = pc') (k : own_G p.tables e below P T (mkF m pc' Ls (.long z :: rest))) : own_G p.tables e below P T (mkF m pc Ls (.long y :: .long x :: rest)) := by
  subst hp; subst hz; exact own_go (fun t q => XS.land X.here hx rfl hd rfl q) k
theorem own_lor (X : Stand p l e R s m args below meth c T locs cells slots) (hx : p.tables.exec = Jvm.exec) {pc pc' : Nat} {Ls : Array Slot} {x y z : Int64} {rest : List Value} (hd : decode c.code pc = .ok (.lor, 1)) (hz : x ||| y = z) (hp : pc + 1 = pc') (k : own_G p.tables e below P T (mkF m pc' Ls (.long z :: rest))) : own_G p.tables e below P T (mkF m pc Ls (.long y :: .long x :: rest)) := by
  subst hp; subst hz; exact own_go (fun t q => XS.lor X.here hx rfl hd rfl q) k
theorem own_lxor (X : Stand p l e R s m args below meth c T locs cells slots) (hx : p.tables.exec = Jvm.exec) {pc pc' : Nat} {Ls : Array Slot} {x y z : Int64} {rest : List Value} (hd : decode c.code pc = .ok (.lxor, 1)) (hz : x ^^^ y = z) (hp : pc + 1 = pc') (k : own_G p.tables e below P T (mkF m pc' Ls (.long z :: rest))) : own_G p.tables e below P T (mkF m pc Ls (.long y :: .long x :: rest)) := by
  subst hp; subst hz; exact own_go (fun t q => XS.lxor X.here hx rfl hd rfl q) k
theorem own_ishl (X : Stand p l e R s m args below meth c T locs cells slots) (hx : p.tables.exec = Jvm.exec) {pc pc' : Nat} {Ls : Array Slot} {x y : Int32} {rest : List Value} (hd : decode c.code pc = .ok (.ishl, 1)) (hp : pc + 1 = pc') (k : own_G p.tables e below P T (mkF m pc' Ls (.int (x <<< (y &&& 31)) :: rest))) : own_G p.tables e below P T (mkF m pc Ls (.int y :: .int x :: rest)) := by
  subst hp; exact own_go (fun t q => XS.ishl X.here hx rfl hd rfl q) k
theorem own_ishr (X : Stand p l e R s m args below meth c T locs cells slots) (hx : p.tables.exec = Jvm.exec) {pc pc' : Nat} {Ls : Array Slot} {x y : Int32} {rest : List Value} (hd : decode c.code pc = .ok (.ishr, 1)) (hp : pc + 1 = pc') (k : own_G p.tables e below P T (mkF m pc' Ls (.int (x >>> (y &&& 31)) :: rest))) : own_G p.tables e below P T (mkF m pc Ls (.int y :: .int x :: rest)) := by
  subst hp; exact own_go (fun t q => XS.ishr X.here hx rfl hd rfl q) k
theorem own_iushr (X : Stand p l e R s m args below meth c T locs cells slots) (hx : p.tables.exec = Jvm.exec) {pc pc' : Nat} {Ls : Array Slot} {x y : Int32} {rest : List Value} (hd : decode c.code pc = .ok (.iushr, 1)) (hp : pc + 1 = pc') (k : own_G p.tables e below P T (mkF m pc' Ls (.int ((x.toUInt32 >>> (y &&& 31).toUInt32).toInt32) :: rest))) : own_G p.tables e below P T (mkF m pc Ls (.int y :: .int x :: rest)) := by
  subst hp; exact own_go (fun t q => XS.iushr X.here hx rfl hd rfl q) k
theorem own_lshl (X : Stand p l e R s m args below meth c T locs cells slots) (hx : p.tables.exec = Jvm.exec) {pc pc' : Nat} {Ls : Array Slot} {x : Int64} {y : Int32} {rest : List Value} (hd : decode c.code pc = .ok (.lshl, 1)) (hp : pc + 1 = pc') (k : own_G p.tables e below P T (mkF m pc' Ls (.long (x <<< (y &&& 0x3f).toInt64) :: rest))) : own_G p.tables e below P T (mkF m pc Ls (.int y :: .long x :: rest)) := by
  subst hp; exact own_go (fun t q => XS.lshl X.here hx rfl hd rfl q) k
theorem own_lshr (X : Stand p l e R s m args below meth c T locs cells slots) (hx : p.tables.exec = Jvm.exec) {pc pc' : Nat} {Ls : Array Slot} {x : Int64} {y : Int32} {rest : List Value} (hd : decode c.code pc = .ok (.lshr, 1)) (hp : pc + 1 = pc') (k : own_G p.tables e below P T (mkF m pc' Ls (.long (x >>> (y &&& 0x3f).toInt64) :: rest))) : own_G p.tables e below P T (mkF m pc Ls (.int y :: .long x :: rest)) := by
  subst hp; exact own_go (fun t q => XS.lshr X.here hx rfl hd rfl q) k
theorem own_lushr (X : Stand p l e R s m args below meth c T locs cells slots) (hx : p.tables.exec = Jvm.exec) {pc pc' : Nat} {Ls : Array Slot} {x : Int64} {y : Int32} {rest : List Value} (hd : decode c.code pc = .ok (.lushr, 1)) (hp : pc + 1 = pc') (k : own_G p.tables e below P T (mkF m pc' Ls (.long ((x.toUInt64 >>> (y &&& 0x3f).toInt64.toUInt64).toInt64) :: rest))) : own_G p.tables e below P T (mkF m pc Ls (.int y :: .long x :: rest)) := by
  subst hp; exact own_go (fun t q => XS.lushr X.here hx rfl hd rfl q) k
theorem own_i2l (X : Stand p l e R s m args below meth c T locs cells slots) (hx : p.tables.exec = Jvm.exec) {pc pc' : Nat} {Ls : Array Slot} {x : Int32} {rest : List Value} (hd : decode c.code pc = .ok (.i2l, 1)) (hp : pc + 1 = pc') (k : own_G p.tables e below P T (mkF m pc' Ls (.long (x.toInt64) :: rest))) : own_G p.tables e below P T (mkF m pc Ls (.int x :: rest)) := by
  subst hp; exact own_go (fun t q => XS.i2l X.here hx rfl hd rfl q) k
theorem own_l2i (X : Stand p l e R s m args below meth c T locs cells slots) (hx : p.tables.exec = Jvm.exec) {pc pc' : Nat} {Ls : Array Slot} {x : Int64} {rest : List Value} (hd : decode c.code pc = .ok (.l2i, 1)) (hp : pc + 1 = pc') (k : own_G p.tables e below P T (mkF m pc' Ls (.int (x.toInt32) :: rest))) : own_G p.tables e below P T (mkF m pc Ls (.long x :: rest)) := by
  subst hp; exact own_go (fun t q => XS.l2i X.here hx rfl hd rfl q) k
theorem own_i2b (X : Stand p l e R s m args below meth c T locs cells slots) (hx : p.tables.exec = Jvm.exec) {pc pc' : Nat} {Ls : Array Slot} {x : Int32} {rest : List Value} (hd : decode c.code pc = .ok (.i2b, 1)) (hp : pc + 1 = pc') (k : own_G p.tables e below P T (mkF m pc' Ls (.int (x.toInt8.toInt32) :: rest))) : own_G p.tables e below P T (mkF m pc Ls (.int x :: rest)) := by
  subst hp; exact own_go (fun t q => XS.i2b X.here hx rfl hd rfl q) k
theorem own_i2s (X : Stand p l e R s m args below meth c T locs cells slots) (hx : p.tables.exec = Jvm.exec) {pc pc' : Nat} {Ls : Array Slot} {x : Int32} {rest : List Value} (hd : decode c.code pc = .ok (.i2s, 1)) (hp : pc + 1 = pc') (k : own_G p.tables e below P T (mkF m pc' Ls (.int (x.toInt16.toInt32) :: rest))) : own_G p.tables e below P T (mkF m pc Ls (.int x :: rest)) := by
  subst hp; exact own_go (fun t q => XS.i2s X.here hx rfl hd rfl q) k
theorem own_i2c (X : Stand p l e R s m args below meth c T locs cells slots) (hx : p.tables.exec = Jvm.exec) {pc pc' : Nat} {Ls : Array Slot} {x : Int32} {rest : List Value} (hd : decode c.code pc = .ok (.i2c, 1)) (hp : pc + 1 = pc') (k : own_G p.tables e below P T (mkF m pc' Ls (.int (x.toUInt32.toUInt16.toUInt32.toInt32) :: rest))) : own_G p.tables e below P T (mkF m pc Ls (.int x :: rest)) := by
  subst hp; exact own_go (fun t q => XS.i2c X.here hx rfl hd rfl q) k
theorem own_ineg (X : Stand p l e R s m args below meth c T locs cells slots) (hx : p.tables.exec = Jvm.exec) {pc pc' : Nat} {Ls : Array Slot} {x : Int32} {rest : List Value} (hd : decode c.code pc = .ok (.ineg, 1)) (hp : pc + 1 = pc') (k : own_G p.tables e below P T (mkF m pc' Ls (.int (-x) :: rest))) : own_G p.tables e below P T (mkF m pc Ls (.int x :: rest)) := by
  subst hp; exact own_go (fun t q => XS.ineg X.here hx rfl hd rfl q) k
theorem own_lneg (X : Stand p l e R s m args below meth c T locs cells slots) (hx : p.tables.exec = Jvm.exec) {pc pc' : Nat} {Ls : Array Slot} {x : Int64} {rest : List Value} (hd : decode c.code pc = .ok (.lneg, 1)) (hp : pc + 1 = pc') (k : own_G p.tables e below P T (mkF m pc' Ls (.long (-x) :: rest))) : own_G p.tables e below P T (mkF m pc Ls (.long x :: rest)) := by
  subst hp; exact own_go (fun t q => XS.lneg X.here hx rfl hd rfl q) k
theorem own_lcmp (X : Stand p l e R s m args below meth c T locs cells slots) (hx : p.tables.exec = Jvm.exec) {pc pc' : Nat} {Ls : Array Slot} {x y : Int64} {rest : List Value} (hd : decode c.code pc = .ok (.lcmp, 1)) (hp : pc + 1 = pc') (k : own_G p.tables e below P T (mkF m pc' Ls (.int (lcmpW x y) :: rest))) : own_G p.tables e below P T (mkF m pc Ls (.long y :: .long x :: rest)) := by
  subst hp; exact own_go (fun t q => XS.lcmp X.here hx rfl hd rfl q) k
theorem own_idiv (X : Stand p l e R s m args below meth c T locs cells slots) (hx : p.tables.exec = Jvm.exec) {pc pc' : Nat} {Ls : Array Slot} {x y z : Int32} {rest : List Value} (hd : decode c.code pc = .ok (.idiv, 1)) (hz : x / y = z) (hy : y ≠ 0) (hp : pc + 1 = pc') (k : own_G p.tables e below P T (mkF m pc' Ls (.int z :: rest))) : own_G p.tables e below P T (mkF m pc Ls (.int y :: .int x :: rest)) := by
  subst hp; subst hz; exact own_go (fun t q => XS.idiv X.here hx rfl hd rfl hy q) k
theorem own_irem (X : Stand p l e R s m args below meth c T locs cells slots) (hx : p.tables.exec = Jvm.exec) {pc pc' : Nat} {Ls : Array Slot} {x y : Int32} {rest : List Value} (hd : decode c.code pc = .ok (.irem, 1)) (hy : y ≠ 0) (hp : pc + 1 = pc') (k : own_G p.tables e below P T (mkF m pc' Ls (.int (x % y) :: rest))) : own_G p.tables e below P T (mkF m pc Ls (.int y :: .int x :: rest)) := by
  subst hp; exact own_go (fun t q => iremM X hx rfl hd rfl hy q) k
theorem own_iloadN (X : Stand p l e R s m args below meth c T locs cells slots) (hx : p.tables.exec = Jvm.exec) {pc pc' : Nat} {Ls : Array Slot} {j : Fin 4} {v : Int32} {st : List Value} (hd : decode c.code pc = .ok (.iload_n j, 1)) (hl : Ls[j.val]? = some (.val (.int v))) (hp : pc + 1 = pc') (k : own_G p.tables e below P T (mkF m pc' Ls (.int v :: st))) : own_G p.tables e below P T (mkF m pc Ls (st)) := by
  subst hp; exact own_go (fun t q => XS.iloadN X.here hx rfl hd hl q) k
theorem own_iload (X : Stand p l e R s m args below meth c T locs cells slots) (hx : p.tables.exec = Jvm.exec) {pc pc' : Nat} {Ls : Array Slot} {j : Nat} {v : Int32} {st : List Value} (hd : decode c.code pc = .ok (.iload j, 2)) (hl : Ls[j]? = some (.val (.int v))) (hp : pc + 2 = pc') (k : own_G p.tables e below P T (mkF m pc' Ls (.int v :: st))) : own_G p.tables e below P T (mkF m pc Ls (st)) := by
  subst hp; exact own_go (fun t q => XS.iload X.here hx rfl hd hl q) k
theorem own_lloadN (X : Stand p l e R s m args below meth c T locs cells slots) (hx : p.tables.exec = Jvm.exec) {pc pc' : Nat} {Ls : Array Slot} {j : Fin 4} {v : Int64} {st : List Value} (hd : decode c.code pc = .ok (.lload_n j, 1)) (hl : Ls[j.val]? = some (.val (.long v))) (hp : pc + 1 = pc') (k : own_G p.tables e below P T (mkF m pc' Ls (.long v :: st))) : own_G p.tables e below P T (mkF m pc Ls (st)) := by
  subst hp; exact own_go (fun t q => XS.lloadN X.here hx rfl hd hl q) k
theorem own_lload (X : Stand p l e R s m args below meth c T locs cells slots) (hx : p.tables.exec = Jvm.exec) {pc pc' : Nat} {Ls : Array Slot} {j : Nat} {v : Int64} {st : List Value} (hd : decode c.code pc = .ok (.lload j, 2)) (hl : Ls[j]? = some (.val (.long v))) (hp : pc + 2 = pc') (k : own_G p.tables e below P T (mkF m pc' Ls (.long v :: st))) : own_G p.tables e below P T (mkF m pc Ls (st)) := by
  subst hp; exact own_go (fun t q => XS.lload X.here hx rfl hd hl q) k
theorem own_aloadN (X : Stand p l e R s m args below meth c T locs cells slots) (hx : p.tables.exec = Jvm.exec) {pc pc' : Nat} {Ls : Array Slot} {j : Fin 4} {v : Value} {st : List Value} (hd : decode c.code pc = .ok (.aload_n j, 1)) (hl : Ls[j.val]? = some (.val v)) (hv : v.isRef = true) (hp : pc + 1 = pc') (k : own_G p.tables e below P T (mkF m pc' Ls (v :: st))) : own_G p.tables e below P T (mkF m pc Ls (st)) := by
  subst hp; exact own_go (fun t q => XS.aloadN X.here hx rfl hd hl hv q) k
theorem own_istoreN (X : Stand p l e R s m args below meth c T locs cells slots) (hx : p.tables.exec = Jvm.exec) {pc pc' : Nat} {Ls : Array Slot} {j : Fin 4} {v : Int32} {rest : List Value} {Ls' : Array Slot} (hd : decode c.code pc = .ok (.istore_n j, 1)) (hl : storeLocals Ls j.val (.int v) = some Ls') (hp : pc + 1 = pc') (k : own_G p.tables e below P T (mkF m pc' Ls' (rest))) : own_G p.tables e below P T (mkF m pc Ls (.int v :: rest)) := by
  subst hp; exact own_go (fun t q => XS.istoreN X.here hx rfl hd rfl hl q) k
theorem own_lstoreN (X : Stand p l e R s m args below meth c T locs cells slots) (hx : p.tables.exec = Jvm.exec) {pc pc' : Nat} {Ls : Array Slot} {j : Fin 4} {v : Int64} {rest : List Value} {Ls' : Array Slot} (hd : decode c.code pc = .ok (.lstore_n j, 1)) (hl : storeLocals Ls j.val (.long v) = some Ls') (hp : pc + 1 = pc') (k : own_G p.tables e below P T (mkF m pc' Ls' (rest))) : own_G p.tables e below P T (mkF m pc Ls (.long v :: rest)) := by
  subst hp; exact own_go (fun t q => XS.lstoreN X.here hx rfl hd rfl hl q) k
theorem own_astoreN (X : Stand p l e R s m args below meth c T locs cells slots) (hx : p.tables.exec = Jvm.exec) {pc pc' : Nat} {Ls : Array Slot} {j : Fin 4} {v : Value} {rest : List Value} {Ls' : Array Slot} (hd : decode c.code pc = .ok (.astore_n j, 1)) (hv : v.isRef = true) (hl : storeLocals Ls j.val v = some Ls') (hp : pc + 1 = pc') (k : own_G p.tables e below P T (mkF m pc' Ls' (rest))) : own_G p.tables e below P T (mkF m pc Ls (v :: rest)) := by
  subst hp; exact own_go (fun t q => XS.astoreN X.here hx rfl hd rfl hv hl q) k
theorem own_aload (X : Stand p l e R s m args below meth c T locs cells slots) (hx : p.tables.exec = Jvm.exec) {pc pc' : Nat} {Ls : Array Slot} {j : Nat} {v : Value} {st : List Value} (hd : decode c.code pc = .ok (.aload j, 2)) (hl : Ls[j]? = some (.val v)) (hv : v.isRef = true) (hp : pc + 2 = pc') (k : own_G p.tables e below P T (mkF m pc' Ls (v :: st))) : own_G p.tables e below P T (mkF m pc Ls (st)) := by
  subst hp; exact own_go (fun t q => XS.aload X.here hx rfl hd hl hv q) k
theorem own_istore (X : Stand p l e R s m args below meth c T locs cells slots) (hx : p.tables.exec = Jvm.exec) {pc pc' : Nat} {Ls : Array Slot} {j : Nat} {v : Int32} {rest : List Value} {Ls' : Array Slot} (hd : decode c.code pc = .ok (.istore j, 2)) (hl : storeLocals Ls j (.int v) = some Ls') (hp : pc + 2 = pc') (k : own_G p.tables e below P T (mkF m pc' Ls' (rest))) : own_G p.tables e below P T (mkF m pc Ls (.int v :: rest)) := by
  subst hp; exact own_go (fun t q => XS.istore X.here hx rfl hd rfl hl q) k
theorem own_lstore (X : Stand p l e R s m args below meth c T locs cells slots) (hx : p.tables.exec = Jvm.exec) {pc pc' : Nat} {Ls : Array Slot} {j : Nat} {v : Int64} {rest : List Value} {Ls' : Array Slot} (hd : decode c.code pc = .ok (.lstore j, 2)) (hl : storeLocals Ls j (.long v) = some Ls') (hp : pc + 2 = pc') (k : own_G p.tables e below P T (mkF m pc' Ls' (rest))) : own_G p.tables e below P T (mkF m pc Ls (.long v :: rest)) := by
  subst hp; exact own_go (fun t q => XS.lstore X.here hx rfl hd rfl hl q) k
theorem own_astore (X : Stand p l e R s m args below meth c T locs cells slots) (hx : p.tables.exec = Jvm.exec) {pc pc' : Nat} {Ls : Array Slot} {j : Nat} {v : Value} {rest : List Value} {Ls' : Array Slot} (hd : decode c.code pc = .ok (.astore j, 2)) (hv : v.isRef = true) (hl : storeLocals Ls j v = some Ls') (hp : pc + 2 = pc') (k : own_G p.tables e below P T (mkF m pc' Ls' (rest))) : own_G p.tables e below P T (mkF m pc Ls (v :: rest)) := by
  subst hp; exact own_go (fun t q => XS.astore X.here hx rfl hd rfl hv hl q) k
theorem own_iinc (X : Stand p l e R s m args below meth c T locs cells slots) (hx : p.tables.exec = Jvm.exec) {pc pc' : Nat} {Ls : Array Slot} {j : Nat} {cst : Int} {x : Int32} {st : List Value} {Ls' : Array Slot} (hd : decode c.code pc = .ok (.iinc j cst, 3)) (hl : Ls[j]? = some (.val (.int x))) (hl' : storeLocals Ls j (.int (x + Int32.ofInt cst)) = some Ls') (hp : pc + 3 = pc') (k : own_G p.tables e below P T (mkF m pc' Ls' (st))) : own_G p.tables e below P T (mkF m pc Ls (st)) := by
  subst hp; exact own_go (fun t q => XS.iinc X.here hx rfl hd hl hl' q) k
theorem own_iconst (X : Stand p l e R s m args below meth c T locs cells slots) (hx : p.tables.exec = Jvm.exec) {pc pc' : Nat} {Ls : Array Slot} {i : Int} {st : List Value} (z : Int32) (hd : decode c.code pc = .ok (.iconst i, 1)) (hz : Int32.ofInt i = z) (hp : pc + 1 = pc') (k : own_G p.tables e below P T (mkF m pc' Ls (.int z :: st))) : own_G p.tables e below P T (mkF m pc Ls (st)) := by
  subst hp; subst hz; exact own_go (fun t q => XS.iconst X.here hx rfl hd q) k
theorem own_bipush (X : Stand p l e R s m args below meth c T locs cells slots) (hx : p.tables.exec = Jvm.exec) {pc pc' : Nat} {Ls : Array Slot} {i : Int} {st : List Value} (z : Int32) (hd : decode c.code pc = .ok (.bipush i, 2)) (hz : (Int8.ofInt i).toInt32 = z) (hp : pc + 2 = pc') (k : own_G p.tables e below P T (mkF m pc' Ls (.int z :: st))) : own_G p.tables e below P T (mkF m pc Ls (st)) := by
  subst hp; subst hz; exact own_go (fun t q => XS.bipush X.here hx rfl hd q) k
theorem own_sipush (X : Stand p l e R s m args below meth c T locs cells slots) (hx : p.tables.exec = Jvm.exec) {pc pc' : Nat} {Ls : Array Slot} {i : Int} {st : List Value} (z : Int32) (hd : decode c.code pc = .ok (.sipush i, 3)) (hz : (Int16.ofInt i).toInt32 = z) (hp : pc + 3 = pc') (k : own_G p.tables e below P T (mkF m pc' Ls (.int z :: st))) : own_G p.tables e below P T (mkF m pc Ls (st)) := by
  subst hp; subst hz; exact own_go (fun t q => XS.sipush X.here hx rfl hd q) k
theorem own_lconst (X : Stand p l e R s m args below meth c T locs cells slots) (hx : p.tables.exec = Jvm.exec) {pc pc' : Nat} {Ls : Array Slot} {i : Fin 2} {st : List Value} (z : Int64) (hd : decode c.code pc = .ok (.lconst i, 1)) (hz : Int64.ofNat i = z) (hp : pc + 1 = pc') (k : own_G p.tables e below P T (mkF m pc' Ls (.long z :: st))) : own_G p.tables e below P T (mkF m pc Ls (st)) := by
  subst hp; subst hz; exact own_go (fun t q => XS.lconst X.here hx rfl hd q) k
theorem own_aconstNull (X : Stand p l e R s m args below meth c T locs cells slots) (hx : p.tables.exec = Jvm.exec) {pc pc' : Nat} {Ls : Array Slot} {st : List Value} (hd : decode c.code pc = .ok (.aconst_null, 1)) (hp : pc + 1 = pc') (k : own_G p.tables e below P T (mkF m pc' Ls (.null :: st))) : own_G p.tables e below P T (mkF m pc Ls (st)) := by
  subst hp; exact own_go (fun t q => XS.aconstNull X.here hx rfl hd q) k
theorem own_dup (X : Stand p l e R s m args below meth c T locs cells slots) (hx : p.tables.exec = Jvm.exec) {pc pc' : Nat} {Ls : Array Slot} {v : Value} {rest : List Value} (hd : decode c.code pc = .ok (.dup, 1)) (hc : v.category = 1) (hp : pc + 1 = pc') (k : own_G p.tables e below P T (mkF m pc' Ls (v :: v :: rest))) : own_G p.tables e below P T (mkF m pc Ls (v :: rest)) := by
  subst hp; exact own_go (fun t q => XS.dup X.here hx rfl hd rfl hc q) k
theorem own_pop (X : Stand p l e R s m args below meth c T locs cells slots) (hx : p.tables.exec = Jvm.exec) {pc pc' : Nat} {Ls : Array Slot} {v : Value} {rest : List Value} (hd : decode c.code pc = .ok (.pop, 1)) (hc : v.category = 1) (hp : pc + 1 = pc') (k : own_G p.tables e below P T (mkF m pc' Ls (rest))) : own_G p.tables e below P T (mkF m pc Ls (v :: rest)) := by
  subst hp; exact own_go (fun t q => XS.pop X.here hx rfl hd rfl hc q) k
theorem own_dupX1 (X : Stand p l e R s m args below meth c T locs cells slots) (hx : p.tables.exec = Jvm.exec) {pc pc' : Nat} {Ls : Array Slot} {v w : Value} {rest : List Value} (hd : decode c.code pc = .ok (.dup_x1, 1)) (hc : v.category = 1) (hc' : w.category = 1) (hp : pc + 1 = pc') (k : own_G p.tables e below P T (mkF m pc' Ls (v :: w :: v :: rest))) : own_G p.tables e below P T (mkF m pc Ls (v :: w :: rest)) := by
  subst hp; exact own_go (fun t q => XS.dupX1 X.here hx rfl hd rfl hc hc' q) k
theorem own_dup2 (X : Stand p l e R s m args below meth c T locs cells slots) (hx : p.tables.exec = Jvm.exec) {pc pc' : Nat} {Ls : Array Slot} {v w : Value} {rest : List Value} (hd : decode c.code pc = .ok (.dup2, 1)) (hc : v.category = 1) (hc' : w.category = 1) (hp : pc + 1 = pc') (k : own_G p.tables e below P T (mkF m pc' Ls (v :: w :: v :: w :: rest))) : own_G p.tables e below P T (mkF m pc Ls (v :: w :: rest)) := by
  subst hp; exact own_go (fun t q => Jvm.Free.XT.dup2 X.here hx rfl hd rfl hc hc' q) k
theorem own_goto (X : Stand p l e R s m args below meth c T locs cells slots) (hx : p.tables.exec = Jvm.exec) {pc pc' : Nat} {Ls : Array Slot} {st : List Value} {o : Int} (hd : decode c.code pc = .ok (.goto o, 3)) (ho : 0 ≤ (pc : Int) + o) (hp : ((pc : Int) + o).toNat = pc') (k : own_G p.tables e below P T (mkF m pc' Ls (st))) : own_G p.tables e below P T (mkF m pc Ls (st)) := by
  exact own_go (fun t q => XS.goto X.here hx rfl (pc0 := pc) (pc' := pc') rfl hd ho hp q) k
theorem own_ifYes (X : Stand p l e R s m args below meth c T locs cells slots) (hx : p.tables.exec = Jvm.exec) {pc pc' : Nat} {Ls : Array Slot} {cd : ClassFile.Cond} {x : Int32} {rest : List Value} {o : Int} (hd : decode c.code pc = .ok (.ifCond cd o, 3)) (hc : if_icmp.holds cd x 0 = true) (ho : 0 ≤ (pc : Int) + o) (hp : ((pc : Int) + o).toNat = pc') (k : own_G p.tables e below P T (mkF m pc' Ls (rest))) : own_G p.tables e below P T (mkF m pc Ls (.int x :: rest)) := by
  exact own_go (fun t q => XS.ifYes X.here hx rfl (pc0 := pc) (pc' := pc') rfl hd rfl ((if0 _ _).trans hc) ho hp q) k
theorem own_icmpYes (X : Stand p l e R s m args below meth c T locs cells slots) (hx : p.tables.exec = Jvm.exec) {pc pc' : Nat} {Ls : Array Slot} {cd : ClassFile.Cond} {x y : Int32} {rest : List Value} {o : Int} (hd : decode c.code pc = .ok (.if_icmp cd o, 3)) (hc : if_icmp.holds cd x y = true) (ho : 0 ≤ (pc : Int) + o) (hp : ((pc : Int) + o).toNat = pc') (k : own_G p.tables e below P T (mkF m pc' Ls (rest))) : own_G p.tables e below P T (mkF m pc Ls (.int y :: .int x :: rest)) := by
  exact own_go (fun t q => XS.icmpYes X.here hx rfl (pc0 := pc) (pc' := pc') rfl hd rfl hc ho hp q) k
theorem own_ifnullYes (X : Stand p l e R s m args below meth c T locs cells slots) (hx : p.tables.exec = Jvm.exec) {pc pc' : Nat} {Ls : Array Slot} {rest : List Value} {o : Int} (hd : decode c.code pc = .ok (.ifnull o, 3)) (ho : 0 ≤ (pc : Int) + o) (hp : ((pc : Int) + o).toNat = pc') (k : own_G p.tables e below P T (mkF m pc' Ls (rest))) : own_G p.tables e below P T (mkF m pc Ls (.null :: rest)) := by
  exact own_go (fun t q => XS.ifnullYes X.here hx rfl (pc0 := pc) (pc' := pc') rfl hd rfl ho hp q) k
theorem own_ifnonnullYes (X : Stand p l e R s m args below meth c T locs cells slots) (hx : p.tables.exec = Jvm.exec) {pc pc' : Nat} {Ls : Array Slot} {b : Addr} {rest : List Value} {o : Int} (hd : decode c.code pc = .ok (.ifnonnull o, 3)) (ho : 0 ≤ (pc : Int) + o) (hp : ((pc : Int) + o).toNat = pc') (k : own_G p.tables e below P T (mkF m pc' Ls (rest))) : own_G p.tables e below P T (mkF m pc Ls (.ref b :: rest)) := by
  exact own_go (fun t q => XS.ifnonnullYes X.here hx rfl (pc0 := pc) (pc' := pc') rfl hd rfl ho hp q) k
theorem own_ifNo (X : Stand p l e R s m args below meth c T locs cells slots) (hx : p.tables.exec = Jvm.exec) {pc pc' : Nat} {Ls : Array Slot} {cd : ClassFile.Cond} {o : Int} {x : Int32} {rest : List Value} (hd : decode c.code pc = .ok (.ifCond cd o, 3)) (hc : if_icmp.holds cd x 0 = false) (hp : pc + 3 = pc') (k : own_G p.tables e below P T (mkF m pc' Ls (rest))) : own_G p.tables e below P T (mkF m pc Ls (.int x :: rest)) := by
  subst hp; exact own_go (fun t q => XS.ifNo X.here hx rfl hd rfl ((if0 _ _).trans hc) q) k
theorem own_icmpNo (X : Stand p l e R s m args below meth c T locs cells slots) (hx : p.tables.exec = Jvm.exec) {pc pc' : Nat} {Ls : Array Slot} {cd : ClassFile.Cond} {o : Int} {x y : Int32} {rest : List Value} (hd : decode c.code pc = .ok (.if_icmp cd o, 3)) (hc : if_icmp.holds cd x y = false) (hp : pc + 3 = pc') (k : own_G p.tables e below P T (mkF m pc' Ls (rest))) : own_G p.tables e below P T (mkF m pc Ls (.int y :: .int x :: rest)) := by
  subst hp; exact own_go (fun t q => XS.icmpNo X.here hx rfl hd rfl hc q) k
theorem own_ifnullNo (X : Stand p l e R s m args below meth c T locs cells slots) (hx : p.tables.exec = Jvm.exec) {pc pc' : Nat} {Ls : Array Slot} {o : Int} {b : Addr} {rest : List Value} (hd : decode c.code pc = .ok (.ifnull o, 3)) (hp : pc + 3 = pc') (k : own_G p.tables e below P T (mkF m pc' Ls (rest))) : own_G p.tables e below P T (mkF m pc Ls (.ref b :: rest)) := by
  subst hp; exact own_go (fun t q => XS.ifnullNo X.here hx rfl hd rfl q) k
theorem own_ifnonnullNo (X : Stand p l e R s m args below meth c T locs cells slots) (hx : p.tables.exec = Jvm.exec) {pc pc' : Nat} {Ls : Array Slot} {o : Int} {rest : List Value} (hd : decode c.code pc = .ok (.ifnonnull o, 3)) (hp : pc + 3 = pc') (k : own_G p.tables e below P T (mkF m pc' Ls (rest))) : own_G p.tables e below P T (mkF m pc Ls (.null :: rest)) := by
  subst hp; exact own_go (fun t q => XS.ifnonnullNo X.here hx rfl hd rfl q) k
theorem own_acmp (X : Stand p l e R s m args below meth c T locs cells slots) (hx : p.tables.exec = Jvm.exec) {pc pc' : Nat} {Ls : Array Slot} {cd : ACond} {x y : Value} {rest : List Value} {o : Int} (same : Bool) (hd : decode c.code pc = .ok (.if_acmp cd o, 3)) (h1 : x.isRef = true) (h2 : y.isRef = true) (hq : decide (x = y) = same) (ho : 0 ≤ (pc : Int) + o) (hp : pc' = if acV cd same = true then ((pc : Int) + o).toNat else pc + 3) (k : own_G p.tables e below P T (mkF m pc' Ls rest)) : own_G p.tables e below P T (mkF m pc Ls (y :: x :: rest)) := by
  exact own_go (fun t q => Jvm.RoadKit.acmp (g := mkF m pc Ls (y :: x :: rest)) X hx rfl h1 h2 (pc0 := pc) (pc' := pc') rfl hd rfl hq ho hp q) k
theorem own_ldcI (X : Stand p l e R s m args below meth c T locs cells slots) (hx : p.tables.exec = Jvm.exec) {pc pc' : Nat} {Ls : Array Slot} (hZ : Z.Warmed39 s.vm) {own : String} {idx : Nat} {z : Int32} {st : List Value} (hown : s.vm.findClass own = some m.cls) (w : (Jvm.Cond.constant own idx z).before a0 Z = true) (hd : decode c.code pc = .ok (.ldc idx, 2)) (hp : pc + 2 = pc') (k : own_G p.tables e below P T (mkF m pc' Ls (.int z :: st))) : own_G p.tables e below P T (mkF m pc Ls st) := by
  subst hp; exact own_go (X.ldcInt hx hown (mvT hZ w) (g := mkF m pc Ls st) rfl hd) k
theorem own_ldcwI (X : Stand p l e R s m args below meth c T locs cells slots) (hx : p.tables.exec = Jvm.exec) {pc pc' : Nat} {Ls : Array Slot} (hZ : Z.Warmed39 s.vm) {own : String} {idx : Nat} {z : Int32} {st : List Value} (hown : s.vm.findClass own = some m.cls) (w : (Jvm.Cond.constant own idx z).before a0 Z = true) (hd : decode c.code pc = .ok (.ldc_w idx, 3)) (hp : pc + 3 = pc') (k : own_G p.tables e below P T (mkF m pc' Ls (.int z :: st))) : own_G p.tables e below P T (mkF m pc Ls st) := by
  subst hp; exact own_go (X.ldcwInt hx hown (mvT hZ w) (g := mkF m pc Ls st) rfl hd) k
theorem own_ldc2J (X : Stand p l e R s m args below meth c T locs cells slots) (hx : p.tables.exec = Jvm.exec) {pc pc' : Nat} {Ls : Array Slot} (hZ : Z.Warmed39 s.vm) {own : String} {idx : Nat} {z : Int64} {st : List Value} (hown : s.vm.findClass own = some m.cls) (w : (Jvm.Cond.constantLong own idx z).before a0 Z = true) (hd : decode c.code pc = .ok (.ldc2_w idx, 3)) (hp : pc + 3 = pc') (k : own_G p.tables e below P T (mkF m pc' Ls (.long z :: st))) : own_G p.tables e below P T (mkF m pc Ls st) := by
  subst hp; exact own_go (X.ldc2Long hx hown (mvT hZ w) (g := mkF m pc Ls st) rfl hd) k
theorem own_getF (X : Stand p l e R s m args below meth c T locs cells slots) (hx : p.tables.exec = Jvm.exec) {pc pc' : Nat} {Ls : Array Slot} (hZ : Z.Warmed39 s.vm) {own R0 O n d host : String} {idx : Nat} {a : Addr} {v : Value} {rest : List Value} (hown : s.vm.findClass own = some m.cls) (w : (Cond.fieldLink own idx R0 n d).before a0 Z = true ∨ (Cond.fieldLinkNest own idx R0 n d host).before a0 Z = true) (via : Via Z R0 O n d) (eT : T.heap = h) (F : Fld Z h a O n d v) (hd : decode c.code pc = .ok (.getfield idx, 3)) (hp : pc + 3 = pc') (k : ∀ T', Stand p l e R s m args below meth c T' locs cells slots → T'.heap = h → own_G p.tables e below P T' (mkF m pc' Ls (v :: rest))) : own_G p.tables e below P T (mkF m pc Ls (.ref a :: rest)) := by
  subst hp; obtain ⟨T', X', e', st⟩ := getF X hx hZ hown w via eT F (g := mkF m pc Ls (.ref a :: rest)) rfl rfl hd; exact own_go st (k T' X' e')
theorem own_getS (X : Stand p l e R s m args below meth c T locs cells slots) (hx : p.tables.exec = Jvm.exec) {pc pc' : Nat} {Ls : Array Slot} (hZ : Z.Warmed39 s.vm) {own R0 O n d host : String} {idx : Nat} {v : Value} {st : List Value} (hown : s.vm.findClass own = some m.cls) (w : (Cond.fieldLink own idx R0 n d).before a0 Z = true ∨ (Cond.fieldLinkNest own idx R0 n d host).before a0 Z = true) (via : Via Z R0 O n d) (eT : T.heap = h) (F : Sta Z h O n d v) (hd : decode c.code pc = .ok (.getstatic idx, 3)) (hp : pc + 3 = pc') (k : ∀ T', Stand p l e R s m args below meth c T' locs cells slots → T'.heap = h → own_G p.tables e below P T' (mkF m pc' Ls (v :: st))) : own_G p.tables e below P T (mkF m pc Ls st) := by
  subst hp; obtain ⟨T', X', e', stp⟩ := getS2 X hx hZ hown w via eT F (g := mkF m pc Ls st) rfl hd; exact own_go stp (k T' X' e')
theorem own_len (X : Stand p l e R s m args below meth c T locs cells slots) (hx : p.tables.exec = Jvm.exec) {pc pc' : Nat} {Ls : Array Slot} (hZ : Z.Warmed39 s.vm) {a : Addr} {cl : Cell} {ty : FieldType} {z : Int32} {rest : List Value} (eT : T.heap = h) (A : Arr Z h a cl ty) (S : cl.slots.size = z.toNatClampNeg) (M : ¬ z < 0) (hd : decode c.code pc = .ok (.arraylength, 1)) (hp : pc + 1 = pc') (k : own_G p.tables e below P T (mkF m pc' Ls (.int z :: rest))) : own_G p.tables e below P T (mkF m pc Ls (.ref a :: rest)) := by
  subst hp; exact own_go (fun t q => X.arraylength hx (by rw [eT]; exact A.1) (State.isArrayOf_alike hZ.alike A.2.1) (g := mkF m pc Ls (.ref a :: rest)) rfl rfl hd _ (by rw [len_of S M]; exact q)) k
theorem own_iaload (X : Stand p l e R s m args below meth c T locs cells slots) (hx : p.tables.exec = Jvm.exec) {pc pc' : Nat} {Ls : Array Slot} (hZ : Z.Warmed39 s.vm) {a : Addr} {cl : Cell} {j : Int32} {v : Int32} {rest : List Value} (eT : T.heap = h) (A : Arr Z h a cl .int) (hj : ¬ (j < 0 ∨ cl.slots.size ≤ j.toNatClampNeg)) (hv : cl.slots[j.toNatClampNeg]? = some (.int v)) (hd : decode c.code pc = .ok (.iaload, 1)) (hp : pc + 1 = pc') (k : own_G p.tables e below P T (mkF m pc' Ls ((.int v) :: rest))) : own_G p.tables e below P T (mkF m pc Ls (.int j :: .ref a :: rest)) := by
  subst hp; exact own_go (X.iaload hx (j := j) (v := (.int v)) (by rw [eT]; exact A.1) (State.isArrayOf_alike hZ.alike A.2.1) A.2.2 hj hv (g := mkF m pc Ls (.int j :: .ref a :: rest)) rfl rfl hd) k
theorem own_laload (X : Stand p l e R s m args below meth c T locs cells slots) (hx : p.tables.exec = Jvm.exec) {pc pc' : Nat} {Ls : Array Slot} (hZ : Z.Warmed39 s.vm) {a : Addr} {cl : Cell} {j : Int32} {v : Int64} {rest : List Value} (eT : T.heap = h) (A : Arr Z h a cl .long) (hj : ¬ (j < 0 ∨ cl.slots.size ≤ j.toNatClampNeg)) (hv : cl.slots[j.toNatClampNeg]? = some (.long v)) (hd : decode c.code pc = .ok (.laload, 1)) (hp : pc + 1 = pc') (k : own_G p.tables e below P T (mkF m pc' Ls ((.long v) :: rest))) : own_G p.tables e below P T (mkF m pc Ls (.int j :: .ref a :: rest)) := by
  subst hp; exact own_go (X.laload hx (j := j) (v := (.long v)) (by rw [eT]; exact A.1) (State.isArrayOf_alike hZ.alike A.2.1) A.2.2 hj hv (g := mkF m pc Ls (.int j :: .ref a :: rest)) rfl rfl hd) k
theorem own_baload (X : Stand p l e R s m args below meth c T locs cells slots) (hx : p.tables.exec = Jvm.exec) {pc pc' : Nat} {Ls : Array Slot} (hZ : Z.Warmed39 s.vm) {a : Addr} {cl : Cell} {j : Int32} {v : Int32} {rest : List Value} (eT : T.heap = h) (A : Arr Z h a cl .byte) (hj : ¬ (j < 0 ∨ cl.slots.size ≤ j.toNatClampNeg)) (hv : cl.slots[j.toNatClampNeg]? = some (.int v)) (hd : decode c.code pc = .ok (.baload, 1)) (hp : pc + 1 = pc') (k : own_G p.tables e below P T (mkF m pc' Ls ((.int v) :: rest))) : own_G p.tables e below P T (mkF m pc Ls (.int j :: .ref a :: rest)) := by
  subst hp; exact own_go (X.baloadBytes hx (j := j) (v := (.int v)) (by rw [eT]; exact A.1) (State.isArrayOf_alike hZ.alike A.2.1) A.2.2 hj hv (g := mkF m pc Ls (.int j :: .ref a :: rest)) rfl rfl hd) k
theorem own_caload (X : Stand p l e R s m args below meth c T locs cells slots) (hx : p.tables.exec = Jvm.exec) {pc pc' : Nat} {Ls : Array Slot} (hZ : Z.Warmed39 s.vm) {a : Addr} {cl : Cell} {j : Int32} {v : Int32} {rest : List Value} (eT : T.heap = h) (A : Arr Z h a cl .char) (hj : ¬ (j < 0 ∨ cl.slots.size ≤ j.toNatClampNeg)) (hv : cl.slots[j.toNatClampNeg]? = some (.int v)) (hd : decode c.code pc = .ok (.caload, 1)) (hp : pc + 1 = pc') (k : own_G p.tables e below P T (mkF m pc' Ls ((.int v) :: rest))) : own_G p.tables e below P T (mkF m pc Ls (.int j :: .ref a :: rest)) := by
  subst hp; exact own_go (X.caload hx (j := j) (v := (.int v)) (by rw [eT]; exact A.1) (State.isArrayOf_alike hZ.alike A.2.1) A.2.2 hj hv (g := mkF m pc Ls (.int j :: .ref a :: rest)) rfl rfl hd) k
theorem own_aaload (X : Stand p l e R s m args below meth c T locs cells slots) (hx : p.tables.exec = Jvm.exec) {pc pc' : Nat} {Ls : Array Slot} (hZ : Z.Warmed39 s.vm) {a : Addr} {cl : Cell} {ty : FieldType} {j : Int32} {v : Value} {rest : List Value} (eT : T.heap = h) (A : Arr Z h a cl ty) (hty : ty.isReference = true) (hj : ¬ (j < 0 ∨ cl.slots.size ≤ j.toNatClampNeg)) (hv : cl.slots[j.toNatClampNeg]? = some v) (hd : decode c.code pc = .ok (.aaload, 1)) (hp : pc + 1 = pc') (k : own_G p.tables e below P T (mkF m pc' Ls (v :: rest))) : own_G p.tables e below P T (mkF m pc Ls (.int j :: .ref a :: rest)) := by
  subst hp; exact own_go (X.aaload hx (j := j) (v := v) (by rw [eT]; exact A.1) (State.isArrayOf_alike hZ.alike A.2.1) hty A.2.2 hj hv (g := mkF m pc Ls (.int j :: .ref a :: rest)) rfl rfl hd) k
theorem own_stI (X : Stand p l e R s m args below meth c T locs cells slots) (hx : p.tables.exec = Jvm.exec) {pc pc' : Nat} {Ls : Array Slot} (hZ : Z.Warmed39 s.vm) {a : Addr} {cl : Cell} {j : Int32} {x : Int32} {rest : List Value} (eT : T.heap = h) (A : Arr Z h a cl .int) (hj : ¬ (j < 0 ∨ cl.slots.size ≤ j.toNatClampNeg)) (hd : decode c.code pc = .ok (.iastore, 1)) (hp : pc + 1 = pc') (k : ∀ T' h', Stand p l e R s m args below meth c T' (locs ++ [⟨a, j.toNatClampNeg⟩]) cells slots → T'.heap = h' → Wr h h' a j.toNatClampNeg (.int x) → own_G p.tables e below P T' (mkF m pc' Ls rest)) : own_G p.tables e below P T (mkF m pc Ls (.int x :: .int j :: .ref a :: rest)) := by
  subst hp; obtain ⟨T', h', X', e', W', st⟩ := stI X hx hZ eT A (j := j) hj (g := mkF m pc Ls (.int x :: .int j :: .ref a :: rest)) rfl rfl hd; exact own_go st (k T' h' X' e' W')
theorem own_stJ (X : Stand p l e R s m args below meth c T locs cells slots) (hx : p.tables.exec = Jvm.exec) {pc pc' : Nat} {Ls : Array Slot} (hZ : Z.Warmed39 s.vm) {a : Addr} {cl : Cell} {j : Int32} {x : Int64} {rest : List Value} (eT : T.heap = h) (A : Arr Z h a cl .long) (hj : ¬ (j < 0 ∨ cl.slots.size ≤ j.toNatClampNeg)) (hd : decode c.code pc = .ok (.lastore, 1)) (hp : pc + 1 = pc') (k : ∀ T' h', Stand p l e R s m args below meth c T' (locs ++ [⟨a, j.toNatClampNeg⟩]) cells slots → T'.heap = h' → Wr h h' a j.toNatClampNeg (.long x) → own_G p.tables e below P T' (mkF m pc' Ls rest)) : own_G p.tables e below P T (mkF m pc Ls (.long x :: .int j :: .ref a :: rest)) := by
  subst hp; obtain ⟨T', h', X', e', W', st⟩ := stJ X hx hZ eT A (j := j) hj (g := mkF m pc Ls (.long x :: .int j :: .ref a :: rest)) rfl rfl hd; exact own_go st (k T' h' X' e' W')
theorem own_stB (X : Stand p l e R s m args below meth c T locs cells slots) (hx : p.tables.exec = Jvm.exec) {pc pc' : Nat} {Ls : Array Slot} (hZ : Z.Warmed39 s.vm) {a : Addr} {cl : Cell} {j : Int32} {x : Int32} {rest : List Value} (eT : T.heap = h) (A : Arr Z h a cl .byte) (hj : ¬ (j < 0 ∨ cl.slots.size ≤ j.toNatClampNeg)) (hd : decode c.code pc = .ok (.bastore, 1)) (hp : pc + 1 = pc') (k : ∀ T' h', Stand p l e R s m args below meth c T' (locs ++ [⟨a, j.toNatClampNeg⟩]) cells slots → T'.heap = h' → Wr h h' a j.toNatClampNeg (.int (nar .byte x)) → own_G p.tables e below P T' (mkF m pc' Ls rest)) : own_G p.tables e below P T (mkF m pc Ls (.int x :: .int j :: .ref a :: rest)) := by
  subst hp; obtain ⟨T', h', X', e', W', st⟩ := stB X hx hZ eT A (j := j) hj (g := mkF m pc Ls (.int x :: .int j :: .ref a :: rest)) rfl rfl hd; exact own_go st (k T' h' X' e' W')
theorem own_stC (X : Stand p l e R s m args below meth c T locs cells slots) (hx : p.tables.exec = Jvm.exec) {pc pc' : Nat} {Ls : Array Slot} (hZ : Z.Warmed39 s.vm) {a : Addr} {cl : Cell} {j : Int32} {x : Int32} {rest : List Value} (eT : T.heap = h) (A : Arr Z h a cl .char) (hj : ¬ (j < 0 ∨ cl.slots.size ≤ j.toNatClampNeg)) (hd : decode c.code pc = .ok (.castore, 1)) (hp : pc + 1 = pc') (k : ∀ T' h', Stand p l e R s m args below meth c T' (locs ++ [⟨a, j.toNatClampNeg⟩]) cells slots → T'.heap = h' → Wr h h' a j.toNatClampNeg (.int (nar .char x)) → own_G p.tables e below P T' (mkF m pc' Ls rest)) : own_G p.tables e below P T (mkF m pc Ls (.int x :: .int j :: .ref a :: rest)) := by
  subst hp; obtain ⟨T', h', X', e', W', st⟩ := stC X hx hZ eT A (j := j) hj (g := mkF m pc Ls (.int x :: .int j :: .ref a :: rest)) rfl rfl hd; exact own_go st (k T' h' X' e' W')
theorem own_stR (X : Stand p l e R s m args below meth c T locs cells slots) (hx : p.tables.exec = Jvm.exec) {pc pc' : Nat} {Ls : Array Slot} (hZ : Z.Warmed39 s.vm) {a : Addr} {cl : Cell} {j : Int32} {x : Value} {ty : FieldType} {rest : List Value} (eT : T.heap = h) (A : Arr Z h a cl ty) (hj : ¬ (j < 0 ∨ cl.slots.size ≤ j.toNatClampNeg)) (hty : ty.isReference = true) (F : Sto Z h a x) (hd : decode c.code pc = .ok (.aastore, 1)) (hp : pc + 1 = pc') (k : ∀ T' h', Stand p l e R s m args below meth c T' (locs ++ [⟨a, j.toNatClampNeg⟩]) cells slots → T'.heap = h' → Wr h h' a j.toNatClampNeg x → own_G p.tables e below P T' (mkF m pc' Ls rest)) : own_G p.tables e below P T (mkF m pc Ls (x :: .int j :: .ref a :: rest)) := by
  subst hp; obtain ⟨T', h', X', e', W', st⟩ := stR X hx hZ eT A (j := j) hj hty F (g := mkF m pc Ls (x :: .int j :: .ref a :: rest)) rfl rfl hd; exact own_go st (k T' h' X' e' W')
theorem own_putF (X : Stand p l e R s m args below meth c T locs cells slots) (hx : p.tables.exec = Jvm.exec) {pc pc' : Nat} {Ls : Array Slot} (hZ : Z.Warmed39 s.vm) {own R0 O n d host C : String} {idx kk : Nat} {ty : FieldType} {a : Addr} {v old : Value} {rest : List Value} (hown : s.vm.findClass own = some m.cls) (w : (Cond.fieldLink own idx R0 n d).before a0 Z = true ∨ (Cond.fieldLinkNest own idx R0 n d host).before a0 Z = true) (via : Via Z R0 O n d) (eT : T.heap = h) (F : Fld Z h a O n d old) (E : Exa Z h a C) (L : (Cond.lays C O n d).before a0 Z = true ∨ ((Cond.laysFinal C O n d).before a0 Z = true ∧ own = O ∧ meth.name = "<init>")) (wi : (Cond.instantiable C kk).before a0 Z = true) (hty : parseFieldDescriptor d = some ty) (hn : narrow ty v = v) (hf : fits ty v = true) (hd : decode c.code pc = .ok (.putfield idx, 3)) (hp : pc + 3 = pc') (k : ∀ T' h', Stand p l e R s m args below meth c T' (locs ++ [⟨a, Jvm.RoadKit.slotOf Z O n d⟩]) cells slots → T'.heap = h' → Wr h h' a (Jvm.RoadKit.slotOf Z O n d) v → own_G p.tables e below P T' (mkF m pc' Ls rest)) : own_G p.tables e below P T (mkF m pc Ls (v :: .ref a :: rest)) := by
  subst hp; obtain ⟨T', h', X', e', W', st⟩ := putF X hx hZ hown w via eT F E L wi hty hn hf (g := mkF m pc Ls (v :: .ref a :: rest)) rfl rfl hd; exact own_go st (k T' h' X' e' W')
theorem own_putFN (X : Stand p l e R s m args below meth c T locs cells slots) (hx : p.tables.exec = Jvm.exec) {pc pc' : Nat} {Ls : Array Slot} (hZ : Z.Warmed39 s.vm) {own R0 O n d C : String} {idx kk : Nat} {ty : FieldType} {a : Addr} {v old : Value} (v' : Value) {rest : List Value} (hown : s.vm.findClass own = some m.cls) (w : (Cond.fieldLink own idx R0 n d).before a0 Z = true) (via : Via Z R0 O n d) (eT : T.heap = h) (F : Fld Z h a O n d old) (E : Exa Z h a C) (L : (Cond.lays C O n d).before a0 Z = true ∨ ((Cond.laysFinal C O n d).before a0 Z = true ∧ own = O ∧ meth.name = "<init>")) (wi : (Cond.instantiable C kk).before a0 Z = true) (hty : parseFieldDescriptor d = some ty) (hn : narrow ty v = v') (hf : fits ty v' = true) (hd : decode c.code pc = .ok (.putfield idx, 3)) (hp : pc + 3 = pc') (k : ∀ T' h', Stand p l e R s m args below meth c T' (locs ++ [⟨a, Jvm.RoadKit.slotOf Z O n d⟩]) cells slots → T'.heap = h' → Wr h h' a (Jvm.RoadKit.slotOf Z O n d) v' → own_G p.tables e below P T' (mkF m pc' Ls rest)) : own_G p.tables e below P T (mkF m pc Ls (v :: .ref a :: rest)) := by
  subst hp; obtain ⟨T', h', X', e', W', st⟩ := putFN X hx hZ hown w via eT F E L wi hty hn hf (g := mkF m pc Ls (v :: .ref a :: rest)) rfl rfl hd; exact own_go st (k T' h' X' e' W')
theorem own_new (X : Stand p l e R s m args below meth c T locs cells slots) (hx : p.tables.exec = Jvm.exec) {pc pc' : Nat} {Ls : Array Slot} (hZ : Z.Warmed39 s.vm) {own C : String} {idx n : Nat} {st : List Value} (hown : s.vm.findClass own = some m.cls) (w : (Cond.classLink own idx C).before a0 Z = true) (wi : (Cond.instantiable C n).before a0 Z = true) (wz : (Cond.initialized C).before a0 Z = true) (eT : T.heap = h) (hd : decode c.code pc = .ok (.new idx, 3)) (hc : cells + 1 ≤ R.cells) (hl : slots + n ≤ R.slots) (hp : pc + 3 = pc') (k : ∀ T' h' b, b = h.size → Stand p l e R s m args below meth c T' locs (cells + 1) (slots + n) → T'.heap = h' → Ext h h' → Exa Z h' b C → (∀ {O nm d : String} {ty : FieldType}, Laid Z a0 C O nm d → parseFieldDescriptor d = some ty → Fld Z h' b O nm d (defaultValue ty)) → own_G p.tables e below P T' (mkF m pc' Ls (.ref b :: st))) : own_G p.tables e below P T (mkF m pc Ls st) := by
  subst hp; obtain ⟨T', h', X', e', E', A', D', -, stp⟩ := newO X hx hZ hown w wi wz eT (g := mkF m pc Ls st) rfl hd hc hl; exact own_go stp (k T' h' _ rfl X' e' E' A' D')
theorem own_newP (X : Stand p l e R s m args below meth c T locs cells slots) (hx : p.tables.exec = Jvm.exec) {pc pc' : Nat} {Ls : Array Slot} (hZ : Z.Warmed39 s.vm) {aty : ArrayType} {z : Int32} {rest : List Value} (w : (Cond.arrayClass (newarray.typeOf aty)).before a0 Z = true) (eT : T.heap = h) (hd : decode c.code pc = .ok (.newarray aty, 2)) (hn : ¬ z < 0) (cap : Nat) (hcap : z.toNatClampNeg ≤ cap) (hb : cap * 8 ≤ 536870912) (hc : cells + 1 ≤ R.cells) (hl : slots + cap ≤ R.slots) (hp : pc + 2 = pc') (k : ∀ T' h' cA b, b = h.size → Stand p l e R s m args below meth c T' locs (cells + 1) (slots + cap) → T'.heap = h' → Ext h h' → Arr Z h' b (newA cA (newarray.typeOf aty) z) (newarray.typeOf aty) → own_G p.tables e below P T' (mkF m pc' Ls (.ref b :: rest))) : own_G p.tables e below P T (mkF m pc Ls (.int z :: rest)) := by
  subst hp; obtain ⟨T', h', cA, X', e', E', A', stp⟩ := newP X hx hZ w eT (g := mkF m pc Ls (.int z :: rest)) rfl hd rfl hn hcap hb hc hl; exact own_go stp (k T' h' cA _ rfl X' e' E' A')
theorem own_newR (X : Stand p l e R s m args below meth c T locs cells slots) (hx : p.tables.exec = Jvm.exec) {pc pc' : Nat} {Ls : Array Slot} (hZ : Z.Warmed39 s.vm) {own C : String} {idx : Nat} {z : Int32} {rest : List Value} (hown : s.vm.findClass own = some m.cls) (w1 : (Cond.classLink own idx C).before a0 Z = true) (w2 : (Cond.arrayOver (.object C)).before a0 Z = true) (eT : T.heap = h) (hd : decode c.code pc = .ok (.anewarray idx, 3)) (hn : ¬ z < 0) (cap : Nat) (hcap : z.toNatClampNeg ≤ cap) (hb : cap * 8 ≤ 536870912) (hc : cells + 1 ≤ R.cells) (hl : slots + cap ≤ R.slots) (hp : pc + 3 = pc') (k : ∀ T' h' cA b, b = h.size → Stand p l e R s m args below meth c T' locs (cells + 1) (slots + cap) → T'.heap = h' → Ext h h' → Arr Z h' b (newA cA (.object C) z) (.object C) → Ovr Z cA C → own_G p.tables e below P T' (mkF m pc' Ls (.ref b :: rest))) : own_G p.tables e below P T (mkF m pc Ls (.int z :: rest)) := by
  subst hp; obtain ⟨T', h', cA, X', e', E', A', O', stp⟩ := newR X hx hZ hown w1 w2 eT (g := mkF m pc Ls (.int z :: rest)) rfl hd rfl hn hcap hb hc hl; exact own_go stp (k T' h' cA _ rfl X' e' E' A' O')
theorem own_initO (X : Stand p l e R s m args below meth c T locs cells slots) (hx : p.tables.exec = Jvm.exec) {pc pc' : Nat} {Ls : Array Slot} (hZ : Z.Warmed39 s.vm) {own : String} {idx : Nat} {a : Addr} {rest : List Value} (hown : s.vm.findClass own = some m.cls) (w1 : (Cond.methodLink own idx Lib.objectInit).before a0 Z = true) (w2 : (Cond.instanceMethod Lib.objectInit).before a0 Z = true) (w3 : (Cond.code Lib.objectInit ⟨#[0xb1]⟩ 1 none).before a0 Z = true) (eT : T.heap = h) (hsz : Ls.size = c.maxLocals) (hd : decode c.code pc = .ok (.invokespecial idx, 3)) (hf : 1 ≤ R.frames) (W : Nat) (hW : 2 * 0 + (rest.map fun v => v.category).sum ≤ W) (hl : W + 12 ≤ R.locals) (hp : pc + 3 = pc') (k : ∀ T', Stand p l e R s m args below meth c T' locs cells slots → T'.heap = h → own_G p.tables e below P T' (mkF m pc' Ls rest)) : own_G p.tables e below P T (mkF m pc Ls (.ref a :: rest)) := by
  subst hp; obtain ⟨T', X', e', st⟩ := initO X hx hZ hown w1 w2 w3 eT (g := mkF m pc Ls (.ref a :: rest)) rfl hsz rfl hd hf hW hl; exact own_go st (k T' X' e')
theorem own_callS (X : Stand p l e R s m args below meth c T locs cells slots) (hx : p.tables.exec = Jvm.exec) {pc pc' : Nat} {Ls : Array Slot} (hZ : Z.Warmed39 s.vm) {own : String} {idx : Nat} {y : MethodName} {bytes : ByteArray} {maxL : Nat} {ret : Option FieldType} {rm : Room} {as' : Array Value} {Q : Option Value → Heap → List Loc → Prop} (hown : s.vm.findClass own = some m.cls) (w1 : (Cond.methodLink own idx y).before a0 Z = true) (w2 : (Cond.static y).before a0 Z = true) (w3 : (Cond.initialized y.cls).before a0 Z = true) (w4 : (Cond.code y bytes maxL ret).before a0 Z = true) (hy : y.cls ≠ "java/lang/invoke/MethodHandle" ∧ y.cls ≠ "java/lang/invoke/VarHandle") (hM : MetFree l y (head1 [Cond.code y bytes maxL ret] rm) (fun a U => a = as' ∧ Z.Warmed39 U.vm ∧ U.heap = h) (fun _ _ _ _ _ => True) (fun _ U o U' => ∃ v L, o = .returned v ∧ Q v U'.heap L ∧ FrameEnd U o U' L rm.cells rm.slots)) (eT : T.heap = h) (W : Nat) (hf : rm.frames + 1 ≤ R.frames) (hl : W + (maxL + 11) + rm.locals ≤ R.locals) (hc : cells + rm.cells ≤ R.cells) (hsl : slots + rm.slots ≤ R.slots) {st : List Value} (argsL rest : List Value) (hsz : Ls.size = c.maxLocals) (hlen : ∀ sig, parseMethodDescriptor y.desc = some sig → argsL.length = sig.parameters.length) (has : argsL.toArray = as') (hst : st = argsL.reverse ++ rest) (hW : 2 * 0 + (rest.map fun v => v.category).sum ≤ W) (hd : decode c.code pc = .ok (.invokestatic idx, 3)) (hp : pc + 3 = pc') (k : ∀ v T' L, Stand p l e R s m args below meth c T' (locs ++ L) (cells + rm.cells) (slots + rm.slots) → Q v T'.heap L → own_G p.tables e below P T' (mkF m pc' Ls (v.toList ++ rest))) : own_G p.tables e below P T (mkF m pc Ls st) := by
  subst hp
  obtain ⟨v, vm, ⟨T', L', k', n'⟩, -, X', ⟨L, hQ, l', y', z'⟩, stp⟩ := Jvm.LawKit.callS X hx (y := y) hown (mvT hZ w1) (mvT hZ w2) (mvT hZ w3) (mvT hZ w4) hy (backOf (W := W) hM hZ w4 w3 hf hl) (g := mkF m pc Ls st) rfl hsz (argsL := argsL) (rest := rest) hlen hst hW hd (fun _ _ => ⟨has, eT, hc, hsl⟩)
  dsimp only [Pt.U, Pt.locs, Pt.cells, Pt.slots] at X' l' y' z' stp hQ
  subst l' y' z'
  exact own_go stp (k v T' L X' hQ)
theorem own_callV (X : Stand p l e R s m args below meth c T locs cells slots) (hx : p.tables.exec = Jvm.exec) {pc pc' : Nat} {Ls : Array Slot} (hZ : Z.Warmed39 s.vm) {own C : String} {idx : Nat} {y : MethodName} {bytes : ByteArray} {maxL : Nat} {ret : Option FieldType} {rm : Room} {as' : Array Value} {Q : Option Value → Heap → List Loc → Prop} (hown : s.vm.findClass own = some m.cls) (w1 : (Cond.methodLink own idx y).before a0 Z = true) (w2 : (Cond.instanceMethod y).before a0 Z = true) (w3 : (Cond.selects C y y).before a0 Z = true) (w4 : (Cond.code y bytes maxL ret).before a0 Z = true) (w5 : (Cond.initialized y.cls).before a0 Z = true) (hy : y.cls ≠ "java/lang/invoke/MethodHandle" ∧ y.cls ≠ "java/lang/invoke/VarHandle") (hM : MetFree l y (head1 [Cond.code y bytes maxL ret] rm) (fun a U => a = as' ∧ Z.Warmed39 U.vm ∧ U.heap = h) (fun _ _ _ _ _ => True) (fun _ U o U' => ∃ v L, o = .returned v ∧ Q v U'.heap L ∧ FrameEnd U o U' L rm.cells rm.slots)) (eT : T.heap = h) {b : Addr} (E : Exa Z h b C) (W : Nat) (hf : rm.frames + 1 ≤ R.frames) (hl : W + (maxL + 11) + rm.locals ≤ R.locals) (hc : cells + rm.cells ≤ R.cells) (hsl : slots + rm.slots ≤ R.slots) {st : List Value} (argsL rest : List Value) (hsz : Ls.size = c.maxLocals) (hlen : ∀ sig, parseMethodDescriptor y.desc = some sig → argsL.length = sig.parameters.length) (has : (Value.ref b :: argsL).toArray = as') (hst : st = argsL.reverse ++ .ref b :: rest) (hW : 2 * 0 + (rest.map fun v => v.category).sum ≤ W) (hd : decode c.code pc = .ok (.invokevirtual idx, 3)) (hp : pc + 3 = pc') (k : ∀ v T' L, Stand p l e R s m args below meth c T' (locs ++ L) (cells + rm.cells) (slots + rm.slots) → Q v T'.heap L → own_G p.tables e below P T' (mkF m pc' Ls (v.toList ++ rest))) : own_G p.tables e below P T (mkF m pc Ls st) := by
  subst hp
  obtain ⟨cell, kc, q1, q2, q3, q4, -⟩ := E
  obtain ⟨v, vm, ⟨T', L', k', n'⟩, -, X', ⟨L, hQ, l', y', z'⟩, stp⟩ := Jvm.LawKit.callV X hx (y := y) (C := C) hown (mvT hZ w1) (mvT hZ w2) (mvT hZ w3) (mvT hZ w4) hy (backOf (W := W) hM hZ w4 w5 hf hl) (b := b) (cellB := cell) (by rw [eT]; exact q1) q4 (by rw [hZ.alike.findClass]; exact q2) (g := mkF m pc Ls st) rfl hsz (argsL := argsL) (rest := rest) hlen hst hW hd (fun _ _ => ⟨has, eT, hc, hsl⟩)
  dsimp only [Pt.U, Pt.locs, Pt.cells, Pt.slots] at X' l' y' z' stp hQ
  subst l' y' z'
  exact own_go stp (k v T' L X' hQ)
theorem own_callI (X : Stand p l e R s m args below meth c T locs cells slots) (hx : p.tables.exec = Jvm.exec) {pc pc' : Nat} {Ls : Array Slot} (hZ : Z.Warmed39 s.vm) {own : String} {idx : Nat} {y : MethodName} {bytes : ByteArray} {maxL : Nat} {rm : Room} {as' : Array Value} {Q : Option Value → Heap → List Loc → Prop} (hy1 : y.name = "<init>") (hown : s.vm.findClass own = some m.cls) (w1 : (Cond.methodLink own idx y).before a0 Z = true) (w2 : (Cond.instanceMethod y).before a0 Z = true) (w4 : (Cond.code y bytes maxL none).before a0 Z = true) (w5 : (Cond.initialized y.cls).before a0 Z = true) (hy : y.cls ≠ "java/lang/invoke/MethodHandle" ∧ y.cls ≠ "java/lang/invoke/VarHandle") (hM : MetFree l y (head1 [Cond.code y bytes maxL none] rm) (fun a U => a = as' ∧ Z.Warmed39 U.vm ∧ U.heap = h) (fun _ _ _ _ _ => True) (fun _ U o U' => ∃ v L, o = .returned v ∧ Q v U'.heap L ∧ FrameEnd U o U' L rm.cells rm.slots)) (eT : T.heap = h) {b : Addr} (W : Nat) (hf : rm.frames + 1 ≤ R.frames) (hl : W + (maxL + 11) + rm.locals ≤ R.locals) (hc : cells + rm.cells ≤ R.cells) (hsl : slots + rm.slots ≤ R.slots) {st : List Value} (argsL rest : List Value) (hsz : Ls.size = c.maxLocals) (hlen : ∀ sig, parseMethodDescriptor y.desc = some sig → argsL.length = sig.parameters.length) (has : (Value.ref b :: argsL).toArray = as') (hst : st = argsL.reverse ++ .ref b :: rest) (hW : 2 * 0 + (rest.map fun v => v.category).sum ≤ W) (hd : decode c.code pc = .ok (.invokespecial idx, 3)) (hp : pc + 3 = pc') (k : ∀ v T' L, Stand p l e R s m args below meth c T' (locs ++ L) (cells + rm.cells) (slots + rm.slots) → Q v T'.heap L → own_G p.tables e below P T' (mkF m pc' Ls (v.toList ++ rest))) : own_G p.tables e below P T (mkF m pc Ls st) := by
  subst hp
  obtain ⟨v, vm, ⟨T', L', k', n'⟩, -, X', ⟨L, hQ, l', y', z'⟩, stp⟩ := Jvm.LawKit.callI X hx (y := y) hown hy1 (mvT hZ w1) (mvT hZ w2) (mvT hZ w4) hy (backOf (W := W) hM hZ w4 w5 hf hl) (g := mkF m pc Ls st) rfl hsz (a := b) (argsL := argsL) (rest := rest) hlen hst hW hd (fun _ _ => ⟨has, eT, hc, hsl⟩)
  dsimp only [Pt.U, Pt.locs, Pt.cells, Pt.slots] at X' l' y' z' stp hQ
  subst l' y' z'
  exact own_go stp (k v T' L X' hQ)
theorem own_dupX2 (X : Stand p l e R s m args below meth c T locs cells slots) (hx : p.tables.exec = Jvm.exec) {pc pc' : Nat} {Ls : Array Slot} {x j : Int32} {a : Addr} {rest : List Value} (hd : decode c.code pc = .ok (.dup_x2, 1)) (hp : pc + 1 = pc') (k : own_G p.tables e below P T (mkF m pc' Ls (.int x :: .int j :: .ref a :: .int x :: rest))) : own_G p.tables e below P T (mkF m pc Ls (.int x :: .int j :: .ref a :: rest)) := by
  subst hp
  refine own_go (fun t q => ?_) k
  jvm_step X.here [X.here.top, hx, hd, Value.category]
  exact q
theorem own_callP (X : Stand p l e R s m args below meth c T locs cells slots) (hx : p.tables.exec = Jvm.exec) {pc pc' : Nat} {Ls : Array Slot} (hZ : Z.Warmed39 s.vm) {own C : String} {idx nn : Nat} {y : MethodName} {bytes : ByteArray} {maxL : Nat} {ret : Option FieldType} {rm : Room} {as' : Array Value} {Q : Option Value → Heap → List Loc → Prop} (hown : s.vm.findClass own = some m.cls) (w1 : (Cond.methodLink own idx y).before a0 Z = true) (w2 : (Cond.instanceMethod y).before a0 Z = true) (w3 : (Cond.privateMethod y).before a0 Z = true) (w4 : (Cond.code y bytes maxL ret).before a0 Z = true) (w5 : (Cond.initialized y.cls).before a0 Z = true) (w6 : (Cond.instantiable y.cls nn).before a0 Z = true) (hy : y.cls ≠ "java/lang/invoke/MethodHandle" ∧ y.cls ≠ "java/lang/invoke/VarHandle") (hM : MetFree l y (head1 [Cond.code y bytes maxL ret] rm) (fun a U => a = as' ∧ Z.Warmed39 U.vm ∧ U.heap = h) (fun _ _ _ _ _ => True) (fun _ U o U' => ∃ v L, o = .returned v ∧ Q v U'.heap L ∧ FrameEnd U o U' L rm.cells rm.slots)) (eT : T.heap = h) {b : Addr} (E : Exa Z h b C) (W : Nat) (hf : rm.frames + 1 ≤ R.frames) (hl : W + (maxL + 11) + rm.locals ≤ R.locals) (hc : cells + rm.cells ≤ R.cells) (hsl : slots + rm.slots ≤ R.slots) {st : List Value} (argsL rest : List Value) (hsz : Ls.size = c.maxLocals) (hlen : ∀ sig, parseMethodDescriptor y.desc = some sig → argsL.length = sig.parameters.length) (has : (Value.ref b :: argsL).toArray = as') (hst : st = argsL.reverse ++ .ref b :: rest) (hW : 2 * 0 + (rest.map fun v => v.category).sum ≤ W) (hd : decode c.code pc = .ok (.invokevirtual idx, 3)) (hp : pc + 3 = pc') (k : ∀ v T' L, Stand p l e R s m args below meth c T' (locs ++ L) (cells + rm.cells) (slots + rm.slots) → Q v T'.heap L → own_G p.tables e below P T' (mkF m pc' Ls (v.toList ++ rest))) : own_G p.tables e below P T (mkF m pc Ls st) := by
  subst hp
  obtain ⟨cell, q1, q2⟩ := E.cell
  obtain ⟨cc, kk, i1, i2, -, i4, -⟩ := Cond.instantiable_spec (mvT hZ w6 (args := args))
  have hpv := Cond.privateMethod_at (mvP hZ w3 (args := args))
  obtain ⟨v, vm, ⟨T', L', k', n'⟩, -, X', ⟨L, hQ, l', y', z'⟩, stp⟩ := X.privateBack hx (y := y) hown (mvT hZ w1) (mvT hZ w2) (Jvm.Stand.selects_self_of_private i1 i2 (Bool.or_eq_false_iff.mp i4).1 hpv (mvT hZ w2) hy) hpv (mvT hZ w4) hy (backOf (W := W) hM hZ w4 w5 hf hl) (g := mkF m pc Ls st) rfl hsz (Steps.refl _) (a := b) (cell := cell) (by rw [eT]; exact q1) q2 (argsL := argsL) (rest := rest) hlen hst hW hd (fun _ _ => ⟨has, eT, hc, hsl⟩)
  dsimp only [Pt.U, Pt.locs, Pt.cells, Pt.slots] at X' l' y' z' stp hQ
  subst l' y' z'
  exact own_go (fun t q => stp.trans q) (k v T' L X' hQ)
theorem own_fldI {u : Term} {C n d : String} {x : Addr} {z : Int32} (ht : u.eval args s none [] s = some (.ref x)) (hq : (Jvm.Cond.eq (.field u C n d) (.int z)).value args s none s [] = some true) : Fld s s.heap x C n d (.int z) :=
  Fld.start ((fld_at ht).symm.trans (Cond.eq_int (Cond.before_iff.mpr hq) rfl))
theorem own_fldR {u t : Term} {C n d : String} {x y : Addr} (ht : u.eval args s none [] s = some (.ref x)) (hu : t.eval args s none [] s = some (.ref y)) (hq : (Jvm.Cond.eq (.field u C n d) t).value args s none s [] = some true) : Fld s s.heap x C n d (.ref y) :=
  Fld.start ((fld_at ht).symm.trans (Cond.eq_refs (Cond.before_iff.mpr hq) hu rfl))
theorem own_none {u : Term} {x : Addr} {cl : Cell} (A : Arr s s.heap x cl .int) (ht : u.eval args s none [] s = some (.ref x)) (hq : (Jvm.Cond.eq (.length u) (.int 0)).value args s none s [] = some true) : Arv s s.heap x cl.cls .int (0 : Int32) [] (.int (0 : Int32)) := by
  have e1 := Cond.eq_int (Cond.before_iff.mpr hq) (n := 0) rfl
  obtain ⟨sd, SA, hev, harrAt, -⟩ := Term.length_spec e1
  have h31 := SBG.length_lt hev harrAt e1
  cases ht.symm.trans hev
  cases (Arr.fin (Vm.Alike.refl _) A).symm.trans harrAt
  have e2 := len_f ht harrAt h31
  have e3 : cl.slots.size.toInt32 = (0 : Int32) := by simpa using Option.some.inj (e2.symm.trans e1)
  have e4 : cl.slots.size = 0 := by
    have e5 := congrArg Int32.toInt e3
    rw [len_toInt h31] at e5
    have e6 : ((0 : Int32)).toInt = 0 := by decide
    omega
  exact ⟨cl, A, rfl, e4, by decide, fun k hk => by omega, fun i hi => by omega⟩
end OwnKit
section OwnFp
variable {p : Program} {l : Launch} {e : Env} {R : Room} {s : State} {m : MethodId} {args : Array Value} {below : List Frame} {meth : Method} {c : Code} {T : State} {locs : List Loc} {cells slots : Nat} {Z : State} {a0 : Array Value} {h h' : Heap} {P : Outcome → State → Prop}
theorem own_i2d (X : Stand p l e R s m args below meth c T locs cells slots) (hx : p.tables.exec = Jvm.exec) {pc pc' : Nat} {Ls : Array Slot} {x : Int32} {rest : List Value} (hd : decode c.code pc = .ok (.i2d, 1)) (hp : pc + 1 = pc') (k : own_G p.tables e below P T (mkF m pc' Ls (.double (FP.i2d x) :: rest))) : own_G p.tables e below P T (mkF m pc Ls (.int x :: rest)) := by
  subst hp; exact own_go (fun t q => XS.i2dS X.here hx rfl hd rfl rfl q) k
theorem own_dadd (X : Stand p l e R s m args below meth c T locs cells slots) (hx : p.tables.exec = Jvm.exec) {pc pc' : Nat} {Ls : Array Slot} {x y : UInt64} {rest : List Value} (hd : decode c.code pc = .ok (.dadd, 1)) (hn : Jvm.Free.Fl.NoNaN64 (FP.dadd x y)) (hp : pc + 1 = pc') (k : own_G p.tables e below P T (mkF m pc' Ls (.double (FP.dadd x y) :: rest))) : own_G p.tables e below P T (mkF m pc Ls (.double y :: .double x :: rest)) := by
  subst hp; exact own_go (fun t q => XS.daddS X.here hx rfl hd rfl hn rfl q) k
theorem own_dcmp (X : Stand p l e R s m args below meth c T locs cells slots) (hx : p.tables.exec = Jvm.exec) {pc pc' : Nat} {Ls : Array Slot} {o : CmpOp} {x y : UInt64} (v : Int32) {rest : List Value} (hd : decode c.code pc = .ok (.dcmp o, 1)) (hv : cmpValue (FP.dcmp x y) o = v) (hp : pc + 1 = pc') (k : own_G p.tables e below P T (mkF m pc' Ls (.int v :: rest))) : own_G p.tables e below P T (mkF m pc Ls (.double y :: .double x :: rest)) := by
  subst hp; exact own_go (fun t q => XS.dcmpS X.here hx rfl hd rfl hv q) k
theorem own_dloadN (X : Stand p l e R s m args below meth c T locs cells slots) (hx : p.tables.exec = Jvm.exec) {pc pc' : Nat} {Ls : Array Slot} {j : Fin 4} {v : UInt64} {st : List Value} (hd : decode c.code pc = .ok (.dload_n j, 1)) (hl : Ls[j.val]? = some (.val (.double v))) (hp : pc + 1 = pc') (k : own_G p.tables e below P T (mkF m pc' Ls (.double v :: st))) : own_G p.tables e below P T (mkF m pc Ls (st)) := by
  subst hp; exact own_go (fun t q => XS.dloadN X.here hx rfl hd hl q) k
theorem own_dstoreN (X : Stand p l e R s m args below meth c T locs cells slots) (hx : p.tables.exec = Jvm.exec) {pc pc' : Nat} {Ls : Array Slot} {j : Fin 4} {v : UInt64} {rest : List Value} {Ls' : Array Slot} (hd : decode c.code pc = .ok (.dstore_n j, 1)) (hl : storeLocals Ls j.val (.double v) = some Ls') (hp : pc + 1 = pc') (k : own_G p.tables e below P T (mkF m pc' Ls' (rest))) : own_G p.tables e below P T (mkF m pc Ls (.double v :: rest)) := by
  subst hp; exact own_go (fun t q => XS.dstoreN X.here hx rfl hd rfl hl q) k
theorem own_dload (X : Stand p l e R s m args below meth c T locs cells slots) (hx : p.tables.exec = Jvm.exec) {pc pc' : Nat} {Ls : Array Slot} {j : Nat} {v : UInt64} {st : List Value} (hd : decode c.code pc = .ok (.dload j, 2)) (hl : Ls[j]? = some (.val (.double v))) (hp : pc + 2 = pc') (k : own_G p.tables e below P T (mkF m pc' Ls (.double v :: st))) : own_G p.tables e below P T (mkF m pc Ls (st)) := by
  subst hp; exact own_go (fun t q => XS.dload X.here hx rfl hd hl q) k
theorem own_dstore (X : Stand p l e R s m args below meth c T locs cells slots) (hx : p.tables.exec = Jvm.exec) {pc pc' : Nat} {Ls : Array Slot} {j : Nat} {v : UInt64} {rest : List Value} {Ls' : Array Slot} (hd : decode c.code pc = .ok (.dstore j, 2)) (hl : storeLocals Ls j (.double v) = some Ls') (hp : pc + 2 = pc') (k : own_G p.tables e below P T (mkF m pc' Ls' (rest))) : own_G p.tables e below P T (mkF m pc Ls (.double v :: rest)) := by
  subst hp; exact own_go (fun t q => XS.dstore X.here hx rfl hd rfl hl q) k
theorem own_ldc2D (X : Stand p l e R s m args below meth c T locs cells slots) (hx : p.tables.exec = Jvm.exec) {pc pc' : Nat} {Ls : Array Slot} (hZ : Z.Warmed39 s.vm) {own : String} {idx : Nat} {z : UInt64} {st : List Value} (hown : s.vm.findClass own = some m.cls) (w : (Jvm.Cond.constantDouble own idx z).before a0 Z = true) (hd : decode c.code pc = .ok (.ldc2_w idx, 3)) (hp : pc + 3 = pc') (k : own_G p.tables e below P T (mkF m pc' Ls (.double z :: st))) : own_G p.tables e below P T (mkF m pc Ls st) := by
  subst hp; exact own_go (X.ldc2DoubleC hx hown (mvT hZ w) (g := mkF m pc Ls st) rfl hd) k
theorem own_daload (X : Stand p l e R s m args below meth c T locs cells slots) (hx : p.tables.exec = Jvm.exec) {pc pc' : Nat} {Ls : Array Slot} (hZ : Z.Warmed39 s.vm) {a : Addr} {cl : Cell} {j : Int32} {v : UInt64} {rest : List Value} (eT : T.heap = h) (A : Arr Z h a cl .double) (hj : ¬ (j < 0 ∨ cl.slots.size ≤ j.toNatClampNeg)) (hv : cl.slots[j.toNatClampNeg]? = some (.double v)) (hd : decode c.code pc = .ok (.daload, 1)) (hp : pc + 1 = pc') (k : own_G p.tables e below P T (mkF m pc' Ls (.double v :: rest))) : own_G p.tables e below P T (mkF m pc Ls (.int j :: .ref a :: rest)) := by
  subst hp; exact own_go (X.daload hx (j := j) (v := .double v) (by rw [eT]; exact A.1) (State.isArrayOf_alike hZ.alike A.2.1) A.2.2 hj hv (g := mkF m pc Ls (.int j :: .ref a :: rest)) rfl rfl hd) k
theorem own_stD (X : Stand p l e R s m args below meth c T locs cells slots) (hx : p.tables.exec = Jvm.exec) {pc pc' : Nat} {Ls : Array Slot} (hZ : Z.Warmed39 s.vm) {a : Addr} {cl : Cell} {j : Int32} {x : UInt64} {rest : List Value} (eT : T.heap = h) (A : Arr Z h a cl .double) (hj : ¬ (j < 0 ∨ cl.slots.size ≤ j.toNatClampNeg)) (hd : decode c.code pc = .ok (.dastore, 1)) (hp : pc + 1 = pc') (k : ∀ T' h', Stand p l e R s m args below meth c T' (locs ++ [⟨a, j.toNatClampNeg⟩]) cells slots → T'.heap = h' → Wr h h' a j.toNatClampNeg (.double x) → own_G p.tables e below P T' (mkF m pc' Ls rest)) : own_G p.tables e below P T (mkF m pc Ls (.double x :: .int j :: .ref a :: rest)) := by
  subst hp; obtain ⟨T', h', X', e', W', st⟩ := stD X hx hZ eT A (j := j) hj (g := mkF m pc Ls (.double x :: .int j :: .ref a :: rest)) rfl rfl hd; exact own_go st (k T' h' X' e' W')
theorem own_retD {Q : Option Value → Heap → List Loc → Prop} {C S : Nat} (X : Stand p l e R s m args below meth c T locs cells slots) (hx : p.tables.exec = Jvm.exec) (hlk : meth.locks = false) (hret : meth.sig.returnType = some .double) {pc : Nat} {Ls : Array Slot} {z : UInt64} {rest : List Value} (hd : decode c.code pc = .ok (.dreturn, 1)) (hC : cells ≤ C) (hS : slots ≤ S) (hq : Q (some (.double z)) T.heap locs) :
    own_G p.tables e below (own_P s Q C S) T (mkF m pc Ls (.double z :: rest)) :=
  own_ret X hlk (fun h => by rw [hret] at h; cases h) (fun fs hr => retOut X hx hret rfl (Or.inr (Or.inr (Or.inl ⟨rfl, rfl, z, rfl⟩))) hd hr) hC hS hq
/-! an array told by a function of the place -/
def own_Ar (Z : State) (h : Heap) (a : Addr) (ty : FieldType) (N : Nat) (F : Nat → Value) : Prop := ∃ c : Cell, Arr Z h a c ty ∧ c.slots.size = N ∧ ∀ i, i < N → c.slots[i]? = some (F i)
def own_upd {α : Type} (f : Nat → α) (q : Nat) (v : α) (i : Nat) : α := if i = q then v else f i
variable {a b : Addr} {ty : FieldType} {N : Nat} {F : Nat → Value} {sl : Nat} {v : Value} {ws : List Addr}
theorem own_Ar.lt (A : own_Ar Z h a ty N F) : a < h.size := by obtain ⟨c, A1, -⟩ := A; exact A1.lt
theorem own_Ar.ext (A : own_Ar Z h a ty N F) (E : Ext h h') : own_Ar Z h' a ty N F := by obtain ⟨c, A1, r⟩ := A; exact ⟨c, A1.ext E, r⟩
theorem own_Ar.other (A : own_Ar Z h b ty N F) (W : Wr h h' a sl v) (q : b ≠ a) : own_Ar Z h' b ty N F := by obtain ⟨c, A1, r⟩ := A; exact ⟨c, Arr.other W A1 q, r⟩
theorem own_Ar.keep (A : own_Ar Z h a ty N F) (K : Keep h h' ws) (q : a ∉ ws) : own_Ar Z h' a ty N F := by obtain ⟨c, A1, r⟩ := A; exact ⟨c, ⟨K.2.1 _ _ A1.1 q, A1.2⟩, r⟩
theorem own_Ar.set {G : Nat → Value} {j : Int32} {i : Nat} (A : own_Ar Z h a ty N F) (W : Wr h h' a j.toNatClampNeg v) (hj : j.toNatClampNeg = i) (hi : i < N) (hG : ∀ q, G q = if q = i then v else F q) : own_Ar Z h' a ty N G := by
  obtain ⟨c, A1, S1, H1⟩ := A
  refine ⟨c.setSlot j.toNatClampNeg v, Arr.same W A1, by rw [sz_set]; exact S1, fun q hq => ?_⟩
  rw [hG q, hj]
  by_cases e : q = i
  · subst e; rw [if_pos rfl]; simp [Cell.setSlot, S1, hi]
  · rw [if_neg e]; show (c.slots.setIfInBounds i v)[q]? = _; rw [Array.getElem?_setIfInBounds_ne (Ne.symm e)]; exact H1 q hq
theorem own_in {cl : Cell} {j : Int32} {i : Nat} (S : cl.slots.size = N) (h1 : ¬ j < 0) (h2 : j.toNatClampNeg = i) (h3 : i < N) : ¬ (j < 0 ∨ cl.slots.size ≤ j.toNatClampNeg) := by
  intro q
  rcases q with q | q
  · exact h1 q
  · omega
theorem own_Ar.fresh {k : ClassId} {z : Int32} (A : Arr Z h a (newA k ty z) ty) (hz : z.toNatClampNeg = N) (hF : ∀ i, F i = defaultValue ty) : own_Ar Z h a ty N F := by
  refine ⟨_, A, by rw [sz_new]; exact hz, fun i hi => ?_⟩
  rw [hF i]
  simp [newA, hz, hi]
end OwnFp
theorem own_t32_m1 : (-1 : Int32).toInt = -1 := by decide
theorem own_t32_0 : (0 : Int32).toInt = 0 := by decide
theorem own_t32_1 : (1 : Int32).toInt = 1 := by decide
theorem own_t32_6 : (6 : Int32).toInt = 6 := by decide
theorem own_t32_63 : (63 : Int32).toInt = 63 := by decide
theorem own_t32_64 : (64 : Int32).toInt = 64 := by decide
theorem own_t32_4095 : (4095 : Int32).toInt = 4095 := by decide
theorem own_t32_4096 : (4096 : Int32).toInt = 4096 := by decide
theorem own_t64_0 : (0 : Int64).toInt = 0 := by decide
theorem own_on {n : Nat} (h : n < 100000) : (Int32.ofNat n).toInt = n := Int32.toInt_ofNat_of_lt (by omega)
theorem own_clamp {n : Nat} (h : n < 100000) : ¬ Int32.ofNat n < 0 ∧ (Int32.ofNat n).toNatClampNeg = n := by
  have q : ¬ Int32.ofNat n < 0 := by rw [Int32.lt_iff_toInt_lt, own_on h]; show ¬ (n : Int) < 0; omega
  exact ⟨q, by have q2 := nat_of q; rw [own_on h] at q2; omega⟩
theorem own_div {P : Nat} (h : P < 4096) : ((Int32.ofNat P).toUInt32 >>> ((6 : Int32) &&& 31).toUInt32).toInt32 = Int32.ofNat (P / 64) := by
  have q := c_iushr (Int32.ofNat P) (6 : Int32) 6 (by decide) (by decide)
  rw [own_on (by omega)] at q
  rw [← Int32.toInt_inj, own_on (by omega), q]
  show ((P : Int) % 4294967296) / ((2 ^ 6 : Nat) : Int) = _
  have q3 : ((2 ^ 6 : Nat) : Int) = 64 := rfl
  rw [q3]
  omega
def own_bit (P : Nat) : Int64 := (1 : Int64) <<< ((Int32.ofNat P) &&& 0x3f).toInt64
theorem own_bit_mod (P : Nat) (h : P < 4096) : own_bit P = own_bit (P % 64) := by
  have e : (Int32.ofNat P) &&& 0x3f = (Int32.ofNat (P % 64)) &&& 0x3f := by
    have q1 := c_mask (Int32.ofNat P) (0x3f : Int32) 6 (by decide) (by decide)
    have q2 := c_mask (Int32.ofNat (P % 64)) (0x3f : Int32) 6 (by decide) (by decide)
    rw [own_on (by omega)] at q1
    rw [own_on (by omega)] at q2
    have q3 : ((2 ^ 6 : Nat) : Int) = 64 := rfl
    rw [q3] at q1 q2
    rw [← Int32.toInt_inj, q1, q2]
    omega
  unfold own_bit
  rw [e]
theorem own_bit_ne : ∀ a b : Fin 64, a ≠ b → own_bit a.val &&& own_bit b.val = 0 := by decide +kernel
theorem own_bit_self : ∀ a : Fin 64, own_bit a.val &&& own_bit a.val ≠ 0 ∧ (0 : Int64) &&& own_bit a.val = 0 := by decide +kernel
theorem own_bit_or : ∀ a b : Fin 64, ((own_bit a.val ||| own_bit b.val) &&& own_bit a.val ≠ 0) := by decide +kernel
theorem own_i2d_fin (x : Int32) : FP.i2d x = FP.l2d x.toInt64 := i2d_w x
theorem own_b53 (x : Int64) (h1 : -9007199254740992 < x.toInt) (h2 : x.toInt < 9007199254740992) : B53 x := ⟨h1, h2⟩
theorem own_b53i (x : Int32) : B53 x.toInt64 := by have q := rng32 x; have q2 := c_i2l x; exact ⟨by omega, by omega⟩
theorem own_add2 (x y : Int32) : FP.dadd (FP.i2d x) (FP.i2d y) = FP.l2d (x.toInt64 + y.toInt64) := by rw [i2d_w, i2d_w]; exact dadd_w (own_b53i x) (own_b53i y)
theorem own_b53s (x y : Int32) : B53 (x.toInt64 + y.toInt64) := by
  have q := rng32 x; have q2 := c_i2l x; have q3 := rng32 y; have q4 := c_i2l y; have q5 := c_ladd x.toInt64 y.toInt64; have q6 := rng64 (x.toInt64 + y.toInt64)
  exact ⟨by omega, by omega⟩
theorem own_nn1 (x : Int32) : Jvm.Free.Fl.NoNaN64 (FP.i2d x) := nn_w (i2d_w x)
theorem own_nn2 (x y : Int32) : Jvm.Free.Fl.NoNaN64 (FP.dadd (FP.i2d x) (FP.i2d y)) := nn_w (own_add2 x y)
theorem own_nn3 (x y z : Int32) : Jvm.Free.Fl.NoNaN64 (FP.dadd (FP.dadd (FP.i2d x) (FP.i2d y)) (FP.i2d z)) := by
  rw [own_add2, i2d_w]; exact nn_w (dadd_w (own_b53s x y) (own_b53i z))
theorem own_back (s q : Int32) : (s + q) - s = q := by
  have q1 := c_iadd s q; have q2 := c_isub (s + q) s; have q3 := rng32 ((s + q) - s); have q4 := rng32 q; have q5 := rng32 (s + q)
  rw [← Int32.toInt_inj]; omega
theorem own_upd_same {α : Type} (f : Nat → α) (q : Nat) (v : α) : own_upd f q v q = v := by unfold own_upd; rw [if_pos rfl]
theorem own_upd_other {α : Type} (f : Nat → α) {q i : Nat} (v : α) (h : i ≠ q) : own_upd f q v i = f i := by unfold own_upd; rw [if_neg h]
theorem d2_0 : decode prog_49_method_1_code 0 = .ok (.aload_n 0, 1) := by decide +kernel
theorem d2_1 : decode prog_49_method_1_code 1 = .ok (.invokespecial 1, 3) := by decide +kernel
theorem d2_4 : decode prog_49_method_1_code 4 = .ok (.aload_n 0, 1) := by decide +kernel
theorem d2_5 : decode prog_49_method_1_code 5 = .ok (.sipush 4096, 3) := by decide +kernel
theorem d2_8 : decode prog_49_method_1_code 8 = .ok (.newarray .double, 2) := by decide +kernel
theorem d2_10 : decode prog_49_method_1_code 10 = .ok (.putfield 9, 3) := by decide +kernel
theorem d2_13 : decode prog_49_method_1_code 13 = .ok (.aload_n 0, 1) := by decide +kernel
theorem d2_14 : decode prog_49_method_1_code 14 = .ok (.bipush 64, 2) := by decide +kernel
theorem d2_16 : decode prog_49_method_1_code 16 = .ok (.newarray .long, 2) := by decide +kernel
theorem d2_18 : decode prog_49_method_1_code 18 = .ok (.putfield 15, 3) := by decide +kernel
theorem d2_21 : decode prog_49_method_1_code 21 = .ok (.return_, 1) := by decide +kernel
def Qinit (Z : State) (gw : Addr) (h0 : Heap) (n0 : Nat) (v : Option Value) (h : Heap) (L : List Loc) : Prop := v = none ∧ Fr n0 L ∧ Keep h0 h [gw] ∧ ∃ su ho : Addr, (n0 ≤ su ∧ n0 ≤ ho) ∧ (gw ≠ su ∧ gw ≠ ho ∧ su ≠ ho) ∧ Fld Z h gw "com/example/mixed_likelihood/mixedlikelihood/search/GainWindow" "sums" "[D" (.ref su) ∧ Fld Z h gw "com/example/mixed_likelihood/mixedlikelihood/search/GainWindow" "holding" "[J" (.ref ho) ∧ Fld Z h gw "com/example/mixed_likelihood/mixedlikelihood/search/GainWindow" "start" "I" (.int (0 : Int32)) ∧ own_Ar Z h ho .long 64 (fun ii => .long ((fun _ => (0 : Int64)) ii)) ∧ own_Ar Z h su .double 4096 (fun ii => .double ((fun _ => (0 : UInt64)) ii))
theorem ef_rm_init (m : MethodId) (x0 : Addr) : entryFrame m #[(.ref x0)] 1 = mkF m 0 #[.val (.ref x0)] [] := by first | (simp [entryFrame, mkF, argsToLocals, Value.category, maxLocals]; done) | rfl
theorem pf_0 : plainFor (⟨"com/example/mixed_likelihood/mixedlikelihood/search/GainWindow", "<init>", "()V"⟩ : MethodName) = true := by apply plainFor_of_name; first | (simp [plainName, overriddenIn]; done) | decide +kernel
theorem Wd11 {a0 : Array Value} {Z : State} (hw : ∀ d ∈ tables_1, d.before a0 Z = true) : (Jvm.Cond.methodLink "com/example/mixed_likelihood/mixedlikelihood/search/GainWindow" (1 : Nat) ({ cls := "java/lang/Object", name := "<init>", desc := "()V" } : Jvm.MethodName)).before a0 Z = true := hw _ (List.mem_of_getElem? (i := 11) rfl)
theorem Wd12 {a0 : Array Value} {Z : State} (hw : ∀ d ∈ tables_1, d.before a0 Z = true) : (Jvm.Cond.instanceMethod ({ cls := "java/lang/Object", name := "<init>", desc := "()V" } : Jvm.MethodName)).before a0 Z = true := hw _ (List.mem_of_getElem? (i := 12) rfl)
theorem Wd13 {a0 : Array Value} {Z : State} (hw : ∀ d ∈ tables_1, d.before a0 Z = true) : (Jvm.Cond.code ({ cls := "java/lang/Object", name := "<init>", desc := "()V" } : Jvm.MethodName) object_method_1_code (1 : Nat) (Option.none : Option Jvm.ClassFile.FieldType)).before a0 Z = true := hw _ (List.mem_of_getElem? (i := 13) rfl)
theorem Wd14 {a0 : Array Value} {Z : State} (hw : ∀ d ∈ tables_1, d.before a0 Z = true) : (Jvm.Cond.arrayClass Jvm.ClassFile.FieldType.double).before a0 Z = true := hw _ (List.mem_of_getElem? (i := 14) rfl)
theorem Wd15 {a0 : Array Value} {Z : State} (hw : ∀ d ∈ tables_1, d.before a0 Z = true) : (Jvm.Cond.fieldLink "com/example/mixed_likelihood/mixedlikelihood/search/GainWindow" (9 : Nat) "com/example/mixed_likelihood/mixedlikelihood/search/GainWindow" "sums" "[D").before a0 Z = true := hw _ (List.mem_of_getElem? (i := 15) rfl)
theorem Wd16 {a0 : Array Value} {Z : State} (hw : ∀ d ∈ tables_1, d.before a0 Z = true) : (Jvm.Cond.laysFinal "com/example/mixed_likelihood/mixedlikelihood/search/GainWindow" "com/example/mixed_likelihood/mixedlikelihood/search/GainWindow" "sums" "[D").before a0 Z = true := hw _ (List.mem_of_getElem? (i := 16) rfl)
theorem Wd6 {a0 : Array Value} {Z : State} (hw : ∀ d ∈ tables_1, d.before a0 Z = true) : (Jvm.Cond.instantiable "com/example/mixed_likelihood/mixedlikelihood/search/GainWindow" (3 : Nat)).before a0 Z = true := hw _ (List.mem_of_getElem? (i := 6) rfl)
theorem Wd19 {a0 : Array Value} {Z : State} (hw : ∀ d ∈ tables_1, d.before a0 Z = true) : (Jvm.Cond.laysFinal "com/example/mixed_likelihood/mixedlikelihood/search/GainWindow" "com/example/mixed_likelihood/mixedlikelihood/search/GainWindow" "holding" "[J").before a0 Z = true := hw _ (List.mem_of_getElem? (i := 19) rfl)
theorem Wd26 {a0 : Array Value} {Z : State} (hw : ∀ d ∈ tables_1, d.before a0 Z = true) : (Jvm.Cond.lays "com/example/mixed_likelihood/mixedlikelihood/search/GainWindow" "com/example/mixed_likelihood/mixedlikelihood/search/GainWindow" "start" "I").before a0 Z = true := hw _ (List.mem_of_getElem? (i := 26) rfl)
theorem Wd17 {a0 : Array Value} {Z : State} (hw : ∀ d ∈ tables_1, d.before a0 Z = true) : (Jvm.Cond.arrayClass Jvm.ClassFile.FieldType.long).before a0 Z = true := hw _ (List.mem_of_getElem? (i := 17) rfl)
theorem Wd18 {a0 : Array Value} {Z : State} (hw : ∀ d ∈ tables_1, d.before a0 Z = true) : (Jvm.Cond.fieldLink "com/example/mixed_likelihood/mixedlikelihood/search/GainWindow" (15 : Nat) "com/example/mixed_likelihood/mixedlikelihood/search/GainWindow" "holding" "[J").before a0 Z = true := hw _ (List.mem_of_getElem? (i := 18) rfl)
set_option maxRecDepth 65536 in
set_option maxHeartbeats 40000000 in
theorem rm_init (l : Launch) (Z : State) (a0 : Array Value) (hw : ∀ d ∈ tables_1, d.before a0 Z = true) (ws : List Jvm.Cond) (gw : Addr) (h0 : Heap) (n0 : Nat) (Z0 : n0 ≤ h0.size) (g_gw : n0 ≤ gw) (E_g : Exa Z h0 gw "com/example/mixed_likelihood/mixedlikelihood/search/GainWindow") (F_s : Fld Z h0 gw "com/example/mixed_likelihood/mixedlikelihood/search/GainWindow" "sums" "[D" .null) (F_h : Fld Z h0 gw "com/example/mixed_likelihood/mixedlikelihood/search/GainWindow" "holding" "[J" .null) (F_p : Fld Z h0 gw "com/example/mixed_likelihood/mixedlikelihood/search/GainWindow" "start" "I" (.int (0 : Int32))) :
    MetFree l (⟨"com/example/mixed_likelihood/mixedlikelihood/search/GainWindow", "<init>", "()V"⟩ : MethodName) (head1 (Jvm.Cond.code (⟨"com/example/mixed_likelihood/mixedlikelihood/search/GainWindow", "<init>", "()V"⟩ : MethodName) prog_49_method_1_code 1 none :: ws) ({ frames := 1, cells := 2, slots := 4160, locals := 12 } : Room)) (fun aa U => aa = #[(.ref gw)] ∧ Z.Warmed39 U.vm ∧ U.heap = h0) (fun _ _ _ _ _ => True) (fun _ U o U' => ∃ v L, o = .returned v ∧ Qinit Z gw h0 n0 v U'.heap L ∧ FrameEnd U o U' L (({ frames := 1, cells := 2, slots := 4160, locals := 12 } : Room).cells) (({ frames := 1, cells := 2, slots := 4160, locals := 12 } : Room).slots)) := by
  refine own_body pf_0 ?_
  intro p e s m below meth c s₁ hx hby hml hown hnm hlk hret hZ X0 e0
  have N0 : Fr n0 [] := Fr.nil n0
  refine own_go (f' := (mkF m 0 #[.val (.ref gw)] [])) (fun t k => castTop (ef_rm_init m gw) k) ?_
  have K1 : Keep h0 h0 [gw] := Keep.refl _ _
  refine own_aloadN X0 hx (pc' := 1) (hb hby d2_0) rfl rfl rfl ?_
  refine own_initO X0 hx (pc' := 4) hZ hown (Wd11 hw) (Wd12 hw) (Wd13 hw) e0 (by rw [hml]; rfl) (hb hby d2_1) (by decide) 0 (Nat.le_of_eq rfl) (by decide) rfl (fun T2 X2 e2 => ?_)
  refine own_aloadN X2 hx (pc' := 5) (hb hby d2_4) rfl rfl rfl ?_
  refine own_sipush X2 hx (pc' := 8) (4096 : Int32) (hb hby d2_5) rfl rfl ?_
  refine own_newP X2 hx (pc' := 10) hZ (aty := .double) (Wd14 hw) e2 (hb hby d2_8) (by decide) 4096 (by decide) (by decide) (by decide) (by decide) rfl (fun T3 h3 kc3 nb3 g3 X3 e3 E3 A3 => ?_)
  have ne_gw_nb3_4 : gw ≠ nb3 := Nat.ne_of_lt (Nat.lt_of_lt_of_le E_g.lt (Nat.le_of_eq g3.symm))
  have ge_nb3 : n0 ≤ nb3 := Nat.le_trans Z0 (Nat.le_of_eq g3.symm)
  have gk_nb3 : h0.size ≤ nb3 := Nat.le_trans K1.1 (Nat.le_of_eq g3.symm)
  have Z5 : n0 ≤ h3.size := Nat.le_trans Z0 E3.1
  have K6 : Keep h0 h3 [gw] := K1.ext E3
  have F7 := (Exa.ext E3 E_g)
  have F8 := (Fld.ext E3 F_s)
  have F9 := (Fld.ext E3 F_h)
  have F10 := (Fld.ext E3 F_p)
  have VA3 : own_Ar Z h3 nb3 .double 4096 (fun ii => .double ((fun _ => (0 : UInt64)) ii)) := own_Ar.fresh A3 (by decide) (fun _ => rfl)
  refine own_putF X3 hx (pc' := 13) hZ (ty := (.array .double)) hown (host := "") (Or.inl (Wd15 hw)) Via.refl e3 F8 F7 (Or.inr ⟨(Wd16 hw), rfl, hnm⟩) (Wd6 hw) (by decide) rfl rfl (hb hby d2_10) rfl (fun T12 h12 X12 e12 W12 => ?_)
  have N13 := Fr.snoc X12 N0 g_gw
  have Z14 : n0 ≤ h12.size := Nat.le_trans Z5 (Nat.le_of_eq (Wr.size W12).symm)
  have K15 : Keep h0 h12 [gw] := K6.wr W12 (Or.inl (List.mem_of_getElem? (i := 0) rfl))
  have F16 := (Exa.wr W12 F7)
  have F17 := (Fld.same W12 F8)
  have F18 := (Fld.other W12 F9 (Or.inr (slot_ne (Or.inr (Wd19 hw)) (Or.inr (Wd16 hw)) (by decide) (t := (.array .long)) (t' := (.array .double)) (by decide) (by decide))))
  have F19 := (Fld.other W12 F10 (Or.inr (slot_ne (Or.inl (Wd26 hw)) (Or.inr (Wd16 hw)) (by decide) (t := .int) (t' := (.array .double)) (by decide) (by decide))))
  have F20 := (VA3.other W12 (Ne.symm ne_gw_nb3_4))
  refine own_aloadN X12 hx (pc' := 14) (hb hby d2_13) rfl rfl rfl ?_
  refine own_bipush X12 hx (pc' := 16) (64 : Int32) (hb hby d2_14) rfl rfl ?_
  refine own_newP X12 hx (pc' := 18) hZ (aty := .long) (Wd17 hw) e12 (hb hby d2_16) (by decide) 64 (by decide) (by decide) (by decide) (by decide) rfl (fun T21 h21 kc21 nb21 g21 X21 e21 E21 A21 => ?_)
  have ne_gw_nb21_22 : gw ≠ nb21 := Nat.ne_of_lt (Nat.lt_of_lt_of_le F16.lt (Nat.le_of_eq g21.symm))
  have ne_nb3_nb21_23 : nb3 ≠ nb21 := Nat.ne_of_lt (Nat.lt_of_lt_of_le F20.lt (Nat.le_of_eq g21.symm))
  have ge_nb21 : n0 ≤ nb21 := Nat.le_trans Z14 (Nat.le_of_eq g21.symm)
  have gk_nb21 : h0.size ≤ nb21 := Nat.le_trans K15.1 (Nat.le_of_eq g21.symm)
  have Z24 : n0 ≤ h21.size := Nat.le_trans Z14 E21.1
  have K25 : Keep h0 h21 [gw] := K15.ext E21
  have F26 := (Exa.ext E21 F16)
  have F27 := (Fld.ext E21 F17)
  have F28 := (Fld.ext E21 F18)
  have F29 := (Fld.ext E21 F19)
  have F30 := (F20.ext E21)
  have VA21 : own_Ar Z h21 nb21 .long 64 (fun ii => .long ((fun _ => (0 : Int64)) ii)) := own_Ar.fresh A21 (by decide) (fun _ => rfl)
  refine own_putF X21 hx (pc' := 21) hZ (ty := (.array .long)) hown (host := "") (Or.inl (Wd18 hw)) Via.refl e21 F28 F26 (Or.inr ⟨(Wd19 hw), rfl, hnm⟩) (Wd6 hw) (by decide) rfl rfl (hb hby d2_18) rfl (fun T32 h32 X32 e32 W32 => ?_)
  have N33 := Fr.snoc X32 N13 g_gw
  have Z34 : n0 ≤ h32.size := Nat.le_trans Z24 (Nat.le_of_eq (Wr.size W32).symm)
  have K35 : Keep h0 h32 [gw] := K25.wr W32 (Or.inl (List.mem_of_getElem? (i := 0) rfl))
  have F36 := (Exa.wr W32 F26)
  have F37 := (Fld.other W32 F27 (Or.inr (slot_ne (Or.inr (Wd16 hw)) (Or.inr (Wd19 hw)) (by decide) (t := (.array .double)) (t' := (.array .long)) (by decide) (by decide))))
  have F38 := (Fld.same W32 F28)
  have F39 := (Fld.other W32 F29 (Or.inr (slot_ne (Or.inl (Wd26 hw)) (Or.inr (Wd19 hw)) (by decide) (t := .int) (t' := (.array .long)) (by decide) (by decide))))
  have F40 := (F30.other W32 (Ne.symm ne_gw_nb3_4))
  have F41 := (VA21.other W32 (Ne.symm ne_gw_nb21_22))
  refine own_retV X32 hx hlk hret (hb hby d2_21) (by decide) (by decide) ?_
  rw [e32]
  exact ⟨rfl, N33, K35, nb3, nb21, ⟨ge_nb3, ge_nb21⟩, ⟨ne_gw_nb3_4, ne_gw_nb21_22, ne_nb3_nb21_23⟩, F37, F38, F39, F41, F40⟩

theorem d5_0 : decode jdk_65_method_101_code 0 = .ok (.iconst 0, 1) := by decide +kernel
theorem d5_1 : decode jdk_65_method_101_code 1 = .ok (.istore_n 3, 1) := by decide +kernel
theorem d5_2 : decode jdk_65_method_101_code 2 = .ok (.aload_n 0, 1) := by decide +kernel
theorem d5_3 : decode jdk_65_method_101_code 3 = .ok (.arraylength, 1) := by decide +kernel
theorem d5_4 : decode jdk_65_method_101_code 4 = .ok (.istore 4, 2) := by decide +kernel
theorem d5_6 : decode jdk_65_method_101_code 6 = .ok (.iload_n 3, 1) := by decide +kernel
theorem d5_7 : decode jdk_65_method_101_code 7 = .ok (.iload 4, 2) := by decide +kernel
theorem d5_9 : decode jdk_65_method_101_code 9 = .ok (.if_icmp .ge 13, 3) := by decide +kernel
theorem d5_12 : decode jdk_65_method_101_code 12 = .ok (.aload_n 0, 1) := by decide +kernel
theorem d5_13 : decode jdk_65_method_101_code 13 = .ok (.iload_n 3, 1) := by decide +kernel
theorem d5_14 : decode jdk_65_method_101_code 14 = .ok (.lload_n 1, 1) := by decide +kernel
theorem d5_15 : decode jdk_65_method_101_code 15 = .ok (.lastore, 1) := by decide +kernel
theorem d5_16 : decode jdk_65_method_101_code 16 = .ok (.iinc 3 1, 3) := by decide +kernel
theorem d5_19 : decode jdk_65_method_101_code 19 = .ok (.goto (-13), 3) := by decide +kernel
theorem d5_22 : decode jdk_65_method_101_code 22 = .ok (.return_, 1) := by decide +kernel
def Qfill (Z : State) (ho : Addr) (h0 : Heap) (n0 : Nat) (v : Option Value) (h : Heap) (L : List Loc) : Prop := v = none ∧ Fr n0 L ∧ Keep h0 h [ho] ∧ own_Ar Z h ho .long 64 (fun ii => .long ((fun _ => (0 : Int64)) ii))
theorem ef_rm_fill (m : MethodId) (x0 : Addr) (x1 : Int64) : entryFrame m #[(.ref x0), (.long x1)] 5 = mkF m 0 #[.val (.ref x0), .val (.long x1), .second, .unset, .unset] [] := by first | (simp [entryFrame, mkF, argsToLocals, Value.category, maxLocals]; done) | rfl
theorem pf_1 : plainFor (⟨"java/util/Arrays", "fill", "([JJ)V"⟩ : MethodName) = true := by apply plainFor_of_name; first | (simp [plainName, overriddenIn]; done) | decide +kernel
set_option maxRecDepth 65536 in
set_option maxHeartbeats 40000000 in
theorem rm_fill (l : Launch) (Z : State) (a0 : Array Value) (hw : ∀ d ∈ tables_1, d.before a0 Z = true) (ws : List Jvm.Cond) (ho : Addr) (hf : Nat → Int64) (h0 : Heap) (n0 : Nat) (Z0 : n0 ≤ h0.size) (g_ho : n0 ≤ ho) (V_h : own_Ar Z h0 ho .long 64 (fun ii => .long (hf ii))) :
    MetFree l (⟨"java/util/Arrays", "fill", "([JJ)V"⟩ : MethodName) (head1 (Jvm.Cond.code (⟨"java/util/Arrays", "fill", "([JJ)V"⟩ : MethodName) jdk_65_method_101_code 5 none :: ws) ({ frames := 0, cells := 0, slots := 0, locals := 0 } : Room)) (fun aa U => aa = #[(.ref ho), (.long (0 : Int64))] ∧ Z.Warmed39 U.vm ∧ U.heap = h0) (fun _ _ _ _ _ => True) (fun _ U o U' => ∃ v L, o = .returned v ∧ Qfill Z ho h0 n0 v U'.heap L ∧ FrameEnd U o U' L (({ frames := 0, cells := 0, slots := 0, locals := 0 } : Room).cells) (({ frames := 0, cells := 0, slots := 0, locals := 0 } : Room).slots)) := by
  refine own_body pf_1 ?_
  intro p e s m below meth c s₁ hx hby hml hown hnm hlk hret hZ X0 e0
  have N0 : Fr n0 [] := Fr.nil n0
  refine own_go (f' := (mkF m 0 #[.val (.ref ho), .val (.long (0 : Int64)), .second, .unset, .unset] [])) (fun t k => castTop (ef_rm_fill m ho (0 : Int64)) k) ?_
  have K1 : Keep h0 h0 [ho] := Keep.refl _ _
  have J6 : ∀ (k i : Nat) (f : Nat → Int64) (TJ : State) (locsJ : List Loc) (hJ : Heap) (XJ : Stand p l e ({ frames := 0, cells := 0, slots := 0, locals := 0 } : Room) s m #[(.ref ho), (.long (0 : Int64))] below meth c TJ locsJ 0 0) (eJ : TJ.heap = hJ) (NJ : Fr n0 locsJ) (ZJ : n0 ≤ hJ.size) (VJ : own_Ar Z hJ ho .long 64 (fun ii => .long (f ii))) (hik : i + k = 64) (hf0 : ∀ q, q < i → f q = 0) (KJ : Keep h0 hJ [ho]), own_G p.tables e below (own_P s (Qfill Z ho h0 n0) 0 0) TJ (mkF m 6 #[.val (.ref ho), .val (.long (0 : Int64)), .second, .val (.int (Int32.ofNat i)), .val (.int (64 : Int32))] []) := by
    intro k
    induction k with
    | zero =>
      intro i f TJ locsJ hJ XJ eJ NJ ZJ VJ hik hf0 KJ
      obtain rfl : i = 64 := by omega
      have hfin : own_Ar Z hJ ho .long 64 (fun ii => .long ((fun _ => (0 : Int64)) ii)) := by
        obtain ⟨c1, A1, S1, H1⟩ := VJ
        exact ⟨c1, A1, S1, fun q hq => by rw [H1 q hq]; show some (Value.long (f q)) = _; rw [hf0 q hq]⟩
      have hcz : ¬ (Int32.ofNat 64 < (64 : Int32)) := by decide
      refine own_iloadN XJ hx (pc' := 7) (hb hby d5_6) rfl rfl ?_
      refine own_iload XJ hx (pc' := 9) (hb hby d5_7) rfl rfl ?_
      refine own_icmpYes XJ hx (pc' := 22) (hb hby d5_9) (flt hcz).2.1 (by decide) (by decide) ?_
      refine own_retV XJ hx hlk hret (hb hby d5_22) (by decide) (by decide) ?_
      rw [eJ]
      exact ⟨rfl, NJ, KJ, hfin⟩
    | succ k ih =>
      intro i f TJ locsJ hJ XJ eJ NJ ZJ VJ hik hf0 KJ
      have hcz : Int32.ofNat i < (64 : Int32) := by rw [Int32.lt_iff_toInt_lt, own_on (by omega), own_t32_64]; omega
      have hcl := own_clamp (n := i) (by omega)
      have hil : i < 64 := by omega
      refine own_iloadN XJ hx (pc' := 7) (hb hby d5_6) rfl rfl ?_
      refine own_iload XJ hx (pc' := 9) (hb hby d5_7) rfl rfl ?_
      refine own_icmpNo XJ hx (pc' := 12) (hb hby d5_9) (tlt hcz).2.1 rfl ?_
      refine own_aloadN XJ hx (pc' := 13) (hb hby d5_12) rfl rfl rfl ?_
      refine own_iloadN XJ hx (pc' := 14) (hb hby d5_13) rfl rfl ?_
      refine own_lloadN XJ hx (pc' := 15) (hb hby d5_14) rfl rfl ?_
      obtain ⟨cl2, Ar2, S2, H2⟩ := id VJ
      refine own_stJ XJ hx (pc' := 16) hZ eJ Ar2 (own_in S2 hcl.1 hcl.2 hil) (hb hby d5_15) rfl (fun T3 h3 X3 e3 W3 => ?_)
      have N4 := Fr.snoc X3 NJ g_ho
      have Z5 : n0 ≤ h3.size := Nat.le_trans ZJ (Nat.le_of_eq (Wr.size W3).symm)
      have K6 : Keep h0 h3 [ho] := KJ.wr W3 (Or.inl (List.mem_of_getElem? (i := 0) rfl))
      have F7 : own_Ar Z h3 ho .long 64 (fun ii => .long ((own_upd f i (0 : Int64)) ii)) := (own_Ar.set VJ W3 hcl.2 hil (fun q => by unfold own_upd; split <;> rfl))
      refine own_iinc X3 hx (pc' := 19) (Ls' := #[.val (.ref ho), .val (.long (0 : Int64)), .second, .val (.int ((Int32.ofNat i) + (1 : Int32))), .val (.int (64 : Int32))]) (hb hby d5_16) rfl rfl rfl ?_
      refine own_goto X3 hx (pc' := 6) (hb hby d5_19) (by decide) (by decide) ?_
      rw [show ((Int32.ofNat i) + (1 : Int32)) = Int32.ofNat (i + 1) from (Int32.ofNat_add i 1).symm]
      exact ih (i + 1) _ _ _ _ X3 e3 N4 Z5 F7 (by omega) (fun q hq => by unfold own_upd; split <;> first | rfl | exact hf0 q (by omega)) K6
  refine own_iconst X0 hx (pc' := 1) (0 : Int32) (hb hby d5_0) rfl rfl ?_
  refine own_istoreN X0 hx (pc' := 2) (Ls' := #[.val (.ref ho), .val (.long (0 : Int64)), .second, .val (.int (0 : Int32)), .unset]) (hb hby d5_1) rfl rfl ?_
  refine own_aloadN X0 hx (pc' := 3) (hb hby d5_2) rfl rfl rfl ?_
  obtain ⟨cl8, Ar8, S8, H8⟩ := id V_h
  refine own_len X0 hx (pc' := 4) hZ e0 Ar8 (S8.trans (by decide)) (z := (64 : Int32)) (by decide) (hb hby d5_3) rfl ?_
  refine own_istore X0 hx (pc' := 6) (Ls' := #[.val (.ref ho), .val (.long (0 : Int64)), .second, .val (.int (0 : Int32)), .val (.int (64 : Int32))]) (hb hby d5_4) rfl rfl ?_
  exact J6 64 0 hf _ _ _ X0 e0 N0 Z0 V_h (by omega) (fun q hq => absurd hq (Nat.not_lt_zero q)) K1

theorem d4_0 : decode prog_49_method_2_code 0 = .ok (.aload_n 0, 1) := by decide +kernel
theorem d4_1 : decode prog_49_method_2_code 1 = .ok (.iload_n 1, 1) := by decide +kernel
theorem d4_2 : decode prog_49_method_2_code 2 = .ok (.putfield 19, 3) := by decide +kernel
theorem d4_5 : decode prog_49_method_2_code 5 = .ok (.aload_n 0, 1) := by decide +kernel
theorem d4_6 : decode prog_49_method_2_code 6 = .ok (.getfield 15, 3) := by decide +kernel
theorem d4_9 : decode prog_49_method_2_code 9 = .ok (.lconst 0, 1) := by decide +kernel
theorem d4_10 : decode prog_49_method_2_code 10 = .ok (.invokestatic 23, 3) := by decide +kernel
theorem d4_13 : decode prog_49_method_2_code 13 = .ok (.return_, 1) := by decide +kernel
def Qmove (Z : State) (gw su ho : Addr) (q : Int32) (sf : Nat → UInt64) (h0 : Heap) (n0 : Nat) (v : Option Value) (h : Heap) (L : List Loc) : Prop := v = none ∧ Fr n0 L ∧ Keep h0 h [gw, ho] ∧ Fld Z h gw "com/example/mixed_likelihood/mixedlikelihood/search/GainWindow" "sums" "[D" (.ref su) ∧ Fld Z h gw "com/example/mixed_likelihood/mixedlikelihood/search/GainWindow" "holding" "[J" (.ref ho) ∧ Fld Z h gw "com/example/mixed_likelihood/mixedlikelihood/search/GainWindow" "start" "I" (.int q) ∧ own_Ar Z h ho .long 64 (fun ii => .long ((fun _ => (0 : Int64)) ii)) ∧ own_Ar Z h su .double 4096 (fun ii => .double (sf ii))
theorem ef_rm_move (m : MethodId) (x0 : Addr) (x1 : Int32) : entryFrame m #[(.ref x0), (.int x1)] 2 = mkF m 0 #[.val (.ref x0), .val (.int x1)] [] := by first | (simp [entryFrame, mkF, argsToLocals, Value.category, maxLocals]; done) | rfl
theorem pf_2 : plainFor (⟨"com/example/mixed_likelihood/mixedlikelihood/search/GainWindow", "moveTo", "(I)V"⟩ : MethodName) = true := by apply plainFor_of_name; first | (simp [plainName, overriddenIn]; done) | decide +kernel
theorem Wd25 {a0 : Array Value} {Z : State} (hw : ∀ d ∈ tables_1, d.before a0 Z = true) : (Jvm.Cond.fieldLink "com/example/mixed_likelihood/mixedlikelihood/search/GainWindow" (19 : Nat) "com/example/mixed_likelihood/mixedlikelihood/search/GainWindow" "start" "I").before a0 Z = true := hw _ (List.mem_of_getElem? (i := 25) rfl)
theorem Wd30 {a0 : Array Value} {Z : State} (hw : ∀ d ∈ tables_1, d.before a0 Z = true) : (Jvm.Cond.code ({ cls := "java/util/Arrays", name := "fill", desc := "([JJ)V" } : Jvm.MethodName) jdk_65_method_101_code (5 : Nat) (Option.none : Option Jvm.ClassFile.FieldType)).before a0 Z = true := hw _ (List.mem_of_getElem? (i := 30) rfl)
theorem Wd29 {a0 : Array Value} {Z : State} (hw : ∀ d ∈ tables_1, d.before a0 Z = true) : (Jvm.Cond.initialized "java/util/Arrays").before a0 Z = true := hw _ (List.mem_of_getElem? (i := 29) rfl)
theorem pd_0 : parseMethodDescriptor "([JJ)V" = some ⟨[(.array .long), .long], none⟩ := by decide +kernel
theorem Wd27 {a0 : Array Value} {Z : State} (hw : ∀ d ∈ tables_1, d.before a0 Z = true) : (Jvm.Cond.methodLink "com/example/mixed_likelihood/mixedlikelihood/search/GainWindow" (23 : Nat) ({ cls := "java/util/Arrays", name := "fill", desc := "([JJ)V" } : Jvm.MethodName)).before a0 Z = true := hw _ (List.mem_of_getElem? (i := 27) rfl)
theorem Wd28 {a0 : Array Value} {Z : State} (hw : ∀ d ∈ tables_1, d.before a0 Z = true) : (Jvm.Cond.static ({ cls := "java/util/Arrays", name := "fill", desc := "([JJ)V" } : Jvm.MethodName)).before a0 Z = true := hw _ (List.mem_of_getElem? (i := 28) rfl)
set_option maxRecDepth 65536 in
set_option maxHeartbeats 40000000 in
theorem rm_move (l : Launch) (Z : State) (a0 : Array Value) (hw : ∀ d ∈ tables_1, d.before a0 Z = true) (ws : List Jvm.Cond) (gw su ho : Addr) (start : Int32) (hf : Nat → Int64) (sf : Nat → UInt64) (q : Int32) (h0 : Heap) (n0 : Nat) (Z0 : n0 ≤ h0.size) (g_gw : n0 ≤ gw) (g_su : n0 ≤ su) (g_ho : n0 ≤ ho) (d1 : gw ≠ su) (d2 : gw ≠ ho) (d3 : su ≠ ho) (E_g : Exa Z h0 gw "com/example/mixed_likelihood/mixedlikelihood/search/GainWindow") (F_s : Fld Z h0 gw "com/example/mixed_likelihood/mixedlikelihood/search/GainWindow" "sums" "[D" (.ref su)) (F_h : Fld Z h0 gw "com/example/mixed_likelihood/mixedlikelihood/search/GainWindow" "holding" "[J" (.ref ho)) (F_p : Fld Z h0 gw "com/example/mixed_likelihood/mixedlikelihood/search/GainWindow" "start" "I" (.int start)) (V_h : own_Ar Z h0 ho .long 64 (fun ii => .long (hf ii))) (V_s : own_Ar Z h0 su .double 4096 (fun ii => .double (sf ii))) :
    MetFree l (⟨"com/example/mixed_likelihood/mixedlikelihood/search/GainWindow", "moveTo", "(I)V"⟩ : MethodName) (head1 (Jvm.Cond.code (⟨"com/example/mixed_likelihood/mixedlikelihood/search/GainWindow", "moveTo", "(I)V"⟩ : MethodName) prog_49_method_2_code 2 none :: ws) ({ frames := 1, cells := 0, slots := 0, locals := 16 } : Room)) (fun aa U => aa = #[(.ref gw), (.int q)] ∧ Z.Warmed39 U.vm ∧ U.heap = h0) (fun _ _ _ _ _ => True) (fun _ U o U' => ∃ v L, o = .returned v ∧ Qmove Z gw su ho q sf h0 n0 v U'.heap L ∧ FrameEnd U o U' L (({ frames := 1, cells := 0, slots := 0, locals := 16 } : Room).cells) (({ frames := 1, cells := 0, slots := 0, locals := 16 } : Room).slots)) := by
  refine own_body pf_2 ?_
  intro p e s m below meth c s₁ hx hby hml hown hnm hlk hret hZ X0 e0
  have N0 : Fr n0 [] := Fr.nil n0
  refine own_go (f' := (mkF m 0 #[.val (.ref gw), .val (.int q)] [])) (fun t k => castTop (ef_rm_move m gw q) k) ?_
  have K1 : Keep h0 h0 [gw, ho] := Keep.refl _ _
  refine own_aloadN X0 hx (pc' := 1) (hb hby d4_0) rfl rfl rfl ?_
  refine own_iloadN X0 hx (pc' := 2) (hb hby d4_1) rfl rfl ?_
  refine own_putF X0 hx (pc' := 5) hZ (ty := .int) hown (host := "") (Or.inl (Wd25 hw)) Via.refl e0 F_p E_g (Or.inl (Wd26 hw)) (Wd6 hw) (by decide) rfl rfl (hb hby d4_2) rfl (fun T2 h2 X2 e2 W2 => ?_)
  have N3 := Fr.snoc X2 N0 g_gw
  have Z4 : n0 ≤ h2.size := Nat.le_trans Z0 (Nat.le_of_eq (Wr.size W2).symm)
  have K5 : Keep h0 h2 [gw, ho] := K1.wr W2 (Or.inl (List.mem_of_getElem? (i := 0) rfl))
  have F6 := (Exa.wr W2 E_g)
  have F7 := (Fld.other W2 F_s (Or.inr (slot_ne (Or.inr (Wd16 hw)) (Or.inl (Wd26 hw)) (by decide) (t := (.array .double)) (t' := .int) (by decide) (by decide))))
  have F8 := (Fld.other W2 F_h (Or.inr (slot_ne (Or.inr (Wd19 hw)) (Or.inl (Wd26 hw)) (by decide) (t := (.array .long)) (t' := .int) (by decide) (by decide))))
  have F9 := (Fld.same W2 F_p)
  have F10 := (V_h.other W2 (Ne.symm d2))
  have F11 := (V_s.other W2 (Ne.symm d1))
  refine own_aloadN X2 hx (pc' := 6) (hb hby d4_5) rfl rfl rfl ?_
  refine own_getF X2 hx (pc' := 9) hZ hown (host := "") (Or.inl (Wd18 hw)) Via.refl e2 F8 (hb hby d4_6) rfl (fun T12 X12 e12 => ?_)
  refine own_lconst X12 hx (pc' := 10) (0 : Int64) (hb hby d4_9) rfl rfl ?_
  refine own_callS X12 hx (pc' := 13) hZ hown (Wd27 hw) (Wd28 hw) (Wd29 hw) (Wd30 hw) (by decide) (rm_fill l Z a0 hw [] ho hf h2 n0 Z4 g_ho F10) e12 0 (by decide) (by decide) (by decide) (by decide) [(.ref ho), (.long (0 : Int64))] [] (by rw [hml]; rfl) (lenOf pd_0 rfl) rfl rfl (Nat.le_of_eq rfl) (hb hby d4_10) rfl (fun v13 T13 L13 X13 hQ13 => ?_)
  obtain ⟨rfl, Nq13, K13, V13⟩ := hQ13
  have N14 := Fr.app N3 Nq13
  have Z15 : n0 ≤ T13.heap.size := Nat.le_trans Z4 K13.1
  have K16 : Keep h0 T13.heap [gw, ho] := Keep.trans K5 K13 (allS (Or.inl (List.mem_of_getElem? (i := 1) rfl)) all0)
  have F17 := (Exa.keep F6 K13)
  have F18 := (F7.keep K13 (ninS d2 nin0))
  have F19 := (F8.keep K13 (ninS d2 nin0))
  have F20 := (F9.keep K13 (ninS d2 nin0))
  have F21 := (F11.keep K13 (ninS d3 nin0))
  show own_G p.tables e below _ T13 (mkF m 13 #[.val (.ref gw), .val (.int q)] [])
  refine own_retV X13 hx hlk hret (hb hby d4_13) (by decide) (by decide) ?_
  exact ⟨rfl, N14, K16, F18, F19, F20, V13, F21⟩

theorem d6_0 : decode prog_49_method_5_code 0 = .ok (.iload_n 1, 1) := by decide +kernel
theorem d6_1 : decode prog_49_method_5_code 1 = .ok (.aload_n 0, 1) := by decide +kernel
theorem d6_2 : decode prog_49_method_5_code 2 = .ok (.getfield 19, 3) := by decide +kernel
theorem d6_5 : decode prog_49_method_5_code 5 = .ok (.isub, 1) := by decide +kernel
theorem d6_6 : decode prog_49_method_5_code 6 = .ok (.istore 4, 2) := by decide +kernel
theorem d6_8 : decode prog_49_method_5_code 8 = .ok (.lconst 1, 1) := by decide +kernel
theorem d6_9 : decode prog_49_method_5_code 9 = .ok (.iload 4, 2) := by decide +kernel
theorem d6_11 : decode prog_49_method_5_code 11 = .ok (.lshl, 1) := by decide +kernel
theorem d6_12 : decode prog_49_method_5_code 12 = .ok (.lstore 5, 2) := by decide +kernel
theorem d6_14 : decode prog_49_method_5_code 14 = .ok (.iload 4, 2) := by decide +kernel
theorem d6_16 : decode prog_49_method_5_code 16 = .ok (.bipush 6, 2) := by decide +kernel
theorem d6_18 : decode prog_49_method_5_code 18 = .ok (.iushr, 1) := by decide +kernel
theorem d6_19 : decode prog_49_method_5_code 19 = .ok (.istore 7, 2) := by decide +kernel
theorem d6_21 : decode prog_49_method_5_code 21 = .ok (.aload_n 0, 1) := by decide +kernel
theorem d6_22 : decode prog_49_method_5_code 22 = .ok (.getfield 15, 3) := by decide +kernel
theorem d6_25 : decode prog_49_method_5_code 25 = .ok (.iload 7, 2) := by decide +kernel
theorem d6_27 : decode prog_49_method_5_code 27 = .ok (.laload, 1) := by decide +kernel
theorem d6_28 : decode prog_49_method_5_code 28 = .ok (.lload 5, 2) := by decide +kernel
theorem d6_30 : decode prog_49_method_5_code 30 = .ok (.land, 1) := by decide +kernel
theorem d6_31 : decode prog_49_method_5_code 31 = .ok (.lconst 0, 1) := by decide +kernel
theorem d6_32 : decode prog_49_method_5_code 32 = .ok (.lcmp, 1) := by decide +kernel
theorem d6_33 : decode prog_49_method_5_code 33 = .ok (.ifCond .ne 26, 3) := by decide +kernel
theorem d6_36 : decode prog_49_method_5_code 36 = .ok (.aload_n 0, 1) := by decide +kernel
theorem d6_37 : decode prog_49_method_5_code 37 = .ok (.getfield 15, 3) := by decide +kernel
theorem d6_40 : decode prog_49_method_5_code 40 = .ok (.iload 7, 2) := by decide +kernel
theorem d6_42 : decode prog_49_method_5_code 42 = .ok (.dup2, 1) := by decide +kernel
theorem d6_43 : decode prog_49_method_5_code 43 = .ok (.laload, 1) := by decide +kernel
theorem d6_44 : decode prog_49_method_5_code 44 = .ok (.lload 5, 2) := by decide +kernel
theorem d6_46 : decode prog_49_method_5_code 46 = .ok (.lor, 1) := by decide +kernel
theorem d6_47 : decode prog_49_method_5_code 47 = .ok (.lastore, 1) := by decide +kernel
theorem d6_48 : decode prog_49_method_5_code 48 = .ok (.aload_n 0, 1) := by decide +kernel
theorem d6_49 : decode prog_49_method_5_code 49 = .ok (.getfield 9, 3) := by decide +kernel
theorem d6_52 : decode prog_49_method_5_code 52 = .ok (.iload 4, 2) := by decide +kernel
theorem d6_54 : decode prog_49_method_5_code 54 = .ok (.dload_n 2, 1) := by decide +kernel
theorem d6_55 : decode prog_49_method_5_code 55 = .ok (.dastore, 1) := by decide +kernel
theorem d6_56 : decode prog_49_method_5_code 56 = .ok (.goto 14, 3) := by decide +kernel
theorem d6_59 : decode prog_49_method_5_code 59 = .ok (.aload_n 0, 1) := by decide +kernel
theorem d6_60 : decode prog_49_method_5_code 60 = .ok (.getfield 9, 3) := by decide +kernel
theorem d6_63 : decode prog_49_method_5_code 63 = .ok (.iload 4, 2) := by decide +kernel
theorem d6_65 : decode prog_49_method_5_code 65 = .ok (.dup2, 1) := by decide +kernel
theorem d6_66 : decode prog_49_method_5_code 66 = .ok (.daload, 1) := by decide +kernel
theorem d6_67 : decode prog_49_method_5_code 67 = .ok (.dload_n 2, 1) := by decide +kernel
theorem d6_68 : decode prog_49_method_5_code 68 = .ok (.dadd, 1) := by decide +kernel
theorem d6_69 : decode prog_49_method_5_code 69 = .ok (.dastore, 1) := by decide +kernel
theorem d6_70 : decode prog_49_method_5_code 70 = .ok (.return_, 1) := by decide +kernel
def QaF (Z : State) (gw su ho : Addr) (start : Int32) (hf : Nat → Int64) (sf : Nat → UInt64) (P : Nat) (gn : UInt64) (h0 : Heap) (n0 : Nat) (v : Option Value) (h : Heap) (L : List Loc) : Prop := v = none ∧ Fr n0 L ∧ Keep h0 h [gw, su, ho] ∧ Fld Z h gw "com/example/mixed_likelihood/mixedlikelihood/search/GainWindow" "sums" "[D" (.ref su) ∧ Fld Z h gw "com/example/mixed_likelihood/mixedlikelihood/search/GainWindow" "holding" "[J" (.ref ho) ∧ Fld Z h gw "com/example/mixed_likelihood/mixedlikelihood/search/GainWindow" "start" "I" (.int start) ∧ own_Ar Z h ho .long 64 (fun ii => .long ((own_upd hf (P / 64) (hf (P / 64) ||| own_bit P)) ii)) ∧ own_Ar Z h su .double 4096 (fun ii => .double ((own_upd sf P gn) ii))
theorem ef_rm_aF (m : MethodId) (x0 : Addr) (x1 : Int32) (x2 : UInt64) : entryFrame m #[(.ref x0), (.int x1), (.double x2)] 8 = mkF m 0 #[.val (.ref x0), .val (.int x1), .val (.double x2), .second, .unset, .unset, .unset, .unset] [] := by first | (simp [entryFrame, mkF, argsToLocals, Value.category, maxLocals]; done) | rfl
theorem pf_3 : plainFor (⟨"com/example/mixed_likelihood/mixedlikelihood/search/GainWindow", "add", "(ID)V"⟩ : MethodName) = true := by apply plainFor_of_name; first | (simp [plainName, overriddenIn]; done) | decide +kernel
set_option maxRecDepth 65536 in
set_option maxHeartbeats 40000000 in
theorem rm_aF (l : Launch) (Z : State) (a0 : Array Value) (hw : ∀ d ∈ tables_1, d.before a0 Z = true) (ws : List Jvm.Cond) (gw su ho : Addr) (start : Int32) (hf : Nat → Int64) (sf : Nat → UInt64) (P : Nat) (doc : Int32) (gn : UInt64) (h0 : Heap) (n0 : Nat) (Z0 : n0 ≤ h0.size) (g_gw : n0 ≤ gw) (g_su : n0 ≤ su) (g_ho : n0 ≤ ho) (d1 : gw ≠ su) (d2 : gw ≠ ho) (d3 : su ≠ ho) (E_g : Exa Z h0 gw "com/example/mixed_likelihood/mixedlikelihood/search/GainWindow") (hP : P < 4096) (hpl : doc - start = Int32.ofNat P) (hbit : hf (P / 64) &&& own_bit P = 0) (F_s : Fld Z h0 gw "com/example/mixed_likelihood/mixedlikelihood/search/GainWindow" "sums" "[D" (.ref su)) (F_h : Fld Z h0 gw "com/example/mixed_likelihood/mixedlikelihood/search/GainWindow" "holding" "[J" (.ref ho)) (F_p : Fld Z h0 gw "com/example/mixed_likelihood/mixedlikelihood/search/GainWindow" "start" "I" (.int start)) (V_h : own_Ar Z h0 ho .long 64 (fun ii => .long (hf ii))) (V_s : own_Ar Z h0 su .double 4096 (fun ii => .double (sf ii))) :
    MetFree l (⟨"com/example/mixed_likelihood/mixedlikelihood/search/GainWindow", "add", "(ID)V"⟩ : MethodName) (head1 (Jvm.Cond.code (⟨"com/example/mixed_likelihood/mixedlikelihood/search/GainWindow", "add", "(ID)V"⟩ : MethodName) prog_49_method_5_code 8 none :: ws) ({ frames := 0, cells := 0, slots := 0, locals := 0 } : Room)) (fun aa U => aa = #[(.ref gw), (.int doc), (.double gn)] ∧ Z.Warmed39 U.vm ∧ U.heap = h0) (fun _ _ _ _ _ => True) (fun _ U o U' => ∃ v L, o = .returned v ∧ QaF Z gw su ho start hf sf P gn h0 n0 v U'.heap L ∧ FrameEnd U o U' L (({ frames := 0, cells := 0, slots := 0, locals := 0 } : Room).cells) (({ frames := 0, cells := 0, slots := 0, locals := 0 } : Room).slots)) := by
  refine own_body pf_3 ?_
  intro p e s m below meth c s₁ hx hby hml hown hnm hlk hret hZ X0 e0
  have N0 : Fr n0 [] := Fr.nil n0
  refine own_go (f' := (mkF m 0 #[.val (.ref gw), .val (.int doc), .val (.double gn), .second, .unset, .unset, .unset, .unset] [])) (fun t k => castTop (ef_rm_aF m gw doc gn) k) ?_
  have c1 := own_clamp (n := P) (by omega)
  have c2 := own_clamp (n := P / 64) (by omega)
  have hP64 : P / 64 < 64 := by omega
  have K1 : Keep h0 h0 [gw, su, ho] := Keep.refl _ _
  refine own_iloadN X0 hx (pc' := 1) (hb hby d6_0) rfl rfl ?_
  refine own_aloadN X0 hx (pc' := 2) (hb hby d6_1) rfl rfl rfl ?_
  refine own_getF X0 hx (pc' := 5) hZ hown (host := "") (Or.inl (Wd25 hw)) Via.refl e0 F_p (hb hby d6_2) rfl (fun T2 X2 e2 => ?_)
  refine own_isub X2 hx (pc' := 6) (hb hby d6_5) rfl rfl ?_
  rw [hpl]
  refine own_istore X2 hx (pc' := 8) (Ls' := #[.val (.ref gw), .val (.int doc), .val (.double gn), .second, .val (.int (Int32.ofNat P)), .unset, .unset, .unset]) (hb hby d6_6) rfl rfl ?_
  refine own_lconst X2 hx (pc' := 9) (1 : Int64) (hb hby d6_8) rfl rfl ?_
  refine own_iload X2 hx (pc' := 11) (hb hby d6_9) rfl rfl ?_
  refine own_lshl X2 hx (pc' := 12) (hb hby d6_11) rfl ?_
  show own_G p.tables e below _ T2 (mkF m 12 #[.val (.ref gw), .val (.int doc), .val (.double gn), .second, .val (.int (Int32.ofNat P)), .unset, .unset, .unset] [(.long (own_bit P))])
  refine own_lstore X2 hx (pc' := 14) (Ls' := #[.val (.ref gw), .val (.int doc), .val (.double gn), .second, .val (.int (Int32.ofNat P)), .val (.long (own_bit P)), .second, .unset]) (hb hby d6_12) rfl rfl ?_
  refine own_iload X2 hx (pc' := 16) (hb hby d6_14) rfl rfl ?_
  refine own_bipush X2 hx (pc' := 18) (6 : Int32) (hb hby d6_16) rfl rfl ?_
  refine own_iushr X2 hx (pc' := 19) (hb hby d6_18) rfl ?_
  rw [own_div hP]
  refine own_istore X2 hx (pc' := 21) (Ls' := #[.val (.ref gw), .val (.int doc), .val (.double gn), .second, .val (.int (Int32.ofNat P)), .val (.long (own_bit P)), .second, .val (.int (Int32.ofNat (P / 64)))]) (hb hby d6_19) rfl rfl ?_
  refine own_aloadN X2 hx (pc' := 22) (hb hby d6_21) rfl rfl rfl ?_
  refine own_getF X2 hx (pc' := 25) hZ hown (host := "") (Or.inl (Wd18 hw)) Via.refl e2 F_h (hb hby d6_22) rfl (fun T3 X3 e3 => ?_)
  refine own_iload X3 hx (pc' := 27) (hb hby d6_25) rfl rfl ?_
  obtain ⟨cl4, Ar4, S4, H4⟩ := id V_h
  refine own_laload X3 hx (pc' := 28) hZ (v := (hf (P / 64))) e3 Ar4 (own_in S4 c2.1 c2.2 hP64) (by rw [c2.2]; exact H4 _ hP64) (hb hby d6_27) rfl ?_
  refine own_lload X3 hx (pc' := 30) (hb hby d6_28) rfl rfl ?_
  refine own_land X3 hx (pc' := 31) (hb hby d6_30) rfl rfl ?_
  refine own_lconst X3 hx (pc' := 32) (0 : Int64) (hb hby d6_31) rfl rfl ?_
  refine own_lcmp X3 hx (pc' := 33) (hb hby d6_32) rfl ?_
  refine own_ifNo X3 hx (pc' := 36) (hb hby d6_33) (teq ((lw_eq ((hf (P / 64)) &&& (own_bit P)) (0 : Int64)).mpr hbit)).2 rfl ?_
  refine own_aloadN X3 hx (pc' := 37) (hb hby d6_36) rfl rfl rfl ?_
  refine own_getF X3 hx (pc' := 40) hZ hown (host := "") (Or.inl (Wd18 hw)) Via.refl e3 F_h (hb hby d6_37) rfl (fun T5 X5 e5 => ?_)
  refine own_iload X5 hx (pc' := 42) (hb hby d6_40) rfl rfl ?_
  refine own_dup2 X5 hx (pc' := 43) (hb hby d6_42) rfl rfl rfl ?_
  obtain ⟨cl6, Ar6, S6, H6⟩ := id V_h
  refine own_laload X5 hx (pc' := 44) hZ (v := (hf (P / 64))) e5 Ar6 (own_in S6 c2.1 c2.2 hP64) (by rw [c2.2]; exact H6 _ hP64) (hb hby d6_43) rfl ?_
  refine own_lload X5 hx (pc' := 46) (hb hby d6_44) rfl rfl ?_
  refine own_lor X5 hx (pc' := 47) (hb hby d6_46) rfl rfl ?_
  obtain ⟨cl7, Ar7, S7, H7⟩ := id V_h
  refine own_stJ X5 hx (pc' := 48) hZ e5 Ar7 (own_in S7 c2.1 c2.2 hP64) (hb hby d6_47) rfl (fun T8 h8 X8 e8 W8 => ?_)
  have N9 := Fr.snoc X8 N0 g_ho
  have Z10 : n0 ≤ h8.size := Nat.le_trans Z0 (Nat.le_of_eq (Wr.size W8).symm)
  have K11 : Keep h0 h8 [gw, su, ho] := K1.wr W8 (Or.inl (List.mem_of_getElem? (i := 2) rfl))
  have F12 := (Exa.wr W8 E_g)
  have F13 := (Fld.other W8 F_s (Or.inl d2))
  have F14 := (Fld.other W8 F_h (Or.inl d2))
  have F15 := (Fld.other W8 F_p (Or.inl d2))
  have F16 : own_Ar Z h8 ho .long 64 (fun ii => .long ((own_upd hf (P / 64) ((hf (P / 64)) ||| (own_bit P))) ii)) := (own_Ar.set V_h W8 c2.2 hP64 (fun q => by unfold own_upd; split <;> rfl))
  have F17 := (V_s.other W8 d3)
  refine own_aloadN X8 hx (pc' := 49) (hb hby d6_48) rfl rfl rfl ?_
  refine own_getF X8 hx (pc' := 52) hZ hown (host := "") (Or.inl (Wd15 hw)) Via.refl e8 F13 (hb hby d6_49) rfl (fun T18 X18 e18 => ?_)
  refine own_iload X18 hx (pc' := 54) (hb hby d6_52) rfl rfl ?_
  refine own_dloadN X18 hx (pc' := 55) (hb hby d6_54) rfl rfl ?_
  obtain ⟨cl19, Ar19, S19, H19⟩ := id F17
  refine own_stD X18 hx (pc' := 56) hZ e18 Ar19 (own_in S19 c1.1 c1.2 hP) (hb hby d6_55) rfl (fun T20 h20 X20 e20 W20 => ?_)
  have N21 := Fr.snoc X20 N9 g_su
  have Z22 : n0 ≤ h20.size := Nat.le_trans Z10 (Nat.le_of_eq (Wr.size W20).symm)
  have K23 : Keep h0 h20 [gw, su, ho] := K11.wr W20 (Or.inl (List.mem_of_getElem? (i := 1) rfl))
  have F24 := (Exa.wr W20 F12)
  have F25 := (Fld.other W20 F13 (Or.inl d1))
  have F26 := (Fld.other W20 F14 (Or.inl d1))
  have F27 := (Fld.other W20 F15 (Or.inl d1))
  have F28 := (F16.other W20 (Ne.symm d3))
  have F29 : own_Ar Z h20 su .double 4096 (fun ii => .double ((own_upd sf P gn) ii)) := (own_Ar.set F17 W20 c1.2 hP (fun q => by unfold own_upd; split <;> rfl))
  refine own_goto X20 hx (pc' := 70) (hb hby d6_56) (by decide) (by decide) ?_
  refine own_retV X20 hx hlk hret (hb hby d6_70) (by decide) (by decide) ?_
  rw [e20]
  exact ⟨rfl, N21, K23, F25, F26, F27, F28, F29⟩

def QaH (Z : State) (gw su ho : Addr) (start : Int32) (hf : Nat → Int64) (sf : Nat → UInt64) (P : Nat) (gn : UInt64) (h0 : Heap) (n0 : Nat) (v : Option Value) (h : Heap) (L : List Loc) : Prop := v = none ∧ Fr n0 L ∧ Keep h0 h [gw, su, ho] ∧ Fld Z h gw "com/example/mixed_likelihood/mixedlikelihood/search/GainWindow" "sums" "[D" (.ref su) ∧ Fld Z h gw "com/example/mixed_likelihood/mixedlikelihood/search/GainWindow" "holding" "[J" (.ref ho) ∧ Fld Z h gw "com/example/mixed_likelihood/mixedlikelihood/search/GainWindow" "start" "I" (.int start) ∧ own_Ar Z h ho .long 64 (fun ii => .long (hf ii)) ∧ own_Ar Z h su .double 4096 (fun ii => .double ((own_upd sf P (FP.dadd (sf P) gn)) ii))
theorem ef_rm_aH (m : MethodId) (x0 : Addr) (x1 : Int32) (x2 : UInt64) : entryFrame m #[(.ref x0), (.int x1), (.double x2)] 8 = mkF m 0 #[.val (.ref x0), .val (.int x1), .val (.double x2), .second, .unset, .unset, .unset, .unset] [] := by first | (simp [entryFrame, mkF, argsToLocals, Value.category, maxLocals]; done) | rfl
set_option maxRecDepth 65536 in
set_option maxHeartbeats 40000000 in
theorem rm_aH (l : Launch) (Z : State) (a0 : Array Value) (hw : ∀ d ∈ tables_1, d.before a0 Z = true) (ws : List Jvm.Cond) (gw su ho : Addr) (start : Int32) (hf : Nat → Int64) (sf : Nat → UInt64) (P : Nat) (doc : Int32) (gn : UInt64) (h0 : Heap) (n0 : Nat) (Z0 : n0 ≤ h0.size) (g_gw : n0 ≤ gw) (g_su : n0 ≤ su) (g_ho : n0 ≤ ho) (d1 : gw ≠ su) (d2 : gw ≠ ho) (d3 : su ≠ ho) (E_g : Exa Z h0 gw "com/example/mixed_likelihood/mixedlikelihood/search/GainWindow") (hP : P < 4096) (hpl : doc - start = Int32.ofNat P) (hbit : ¬ (hf (P / 64) &&& own_bit P = 0)) (hn : Jvm.Free.Fl.NoNaN64 (FP.dadd (sf P) gn)) (F_s : Fld Z h0 gw "com/example/mixed_likelihood/mixedlikelihood/search/GainWindow" "sums" "[D" (.ref su)) (F_h : Fld Z h0 gw "com/example/mixed_likelihood/mixedlikelihood/search/GainWindow" "holding" "[J" (.ref ho)) (F_p : Fld Z h0 gw "com/example/mixed_likelihood/mixedlikelihood/search/GainWindow" "start" "I" (.int start)) (V_h : own_Ar Z h0 ho .long 64 (fun ii => .long (hf ii))) (V_s : own_Ar Z h0 su .double 4096 (fun ii => .double (sf ii))) :
    MetFree l (⟨"com/example/mixed_likelihood/mixedlikelihood/search/GainWindow", "add", "(ID)V"⟩ : MethodName) (head1 (Jvm.Cond.code (⟨"com/example/mixed_likelihood/mixedlikelihood/search/GainWindow", "add", "(ID)V"⟩ : MethodName) prog_49_method_5_code 8 none :: ws) ({ frames := 0, cells := 0, slots := 0, locals := 0 } : Room)) (fun aa U => aa = #[(.ref gw), (.int doc), (.double gn)] ∧ Z.Warmed39 U.vm ∧ U.heap = h0) (fun _ _ _ _ _ => True) (fun _ U o U' => ∃ v L, o = .returned v ∧ QaH Z gw su ho start hf sf P gn h0 n0 v U'.heap L ∧ FrameEnd U o U' L (({ frames := 0, cells := 0, slots := 0, locals := 0 } : Room).cells) (({ frames := 0, cells := 0, slots := 0, locals := 0 } : Room).slots)) := by
  refine own_body pf_3 ?_
  intro p e s m below meth c s₁ hx hby hml hown hnm hlk hret hZ X0 e0
  have N0 : Fr n0 [] := Fr.nil n0
  refine own_go (f' := (mkF m 0 #[.val (.ref gw), .val (.int doc), .val (.double gn), .second, .unset, .unset, .unset, .unset] [])) (fun t k => castTop (ef_rm_aH m gw doc gn) k) ?_
  have c1 := own_clamp (n := P) (by omega)
  have c2 := own_clamp (n := P / 64) (by omega)
  have hP64 : P / 64 < 64 := by omega
  have K1 : Keep h0 h0 [gw, su, ho] := Keep.refl _ _
  refine own_iloadN X0 hx (pc' := 1) (hb hby d6_0) rfl rfl ?_
  refine own_aloadN X0 hx (pc' := 2) (hb hby d6_1) rfl rfl rfl ?_
  refine own_getF X0 hx (pc' := 5) hZ hown (host := "") (Or.inl (Wd25 hw)) Via.refl e0 F_p (hb hby d6_2) rfl (fun T2 X2 e2 => ?_)
  refine own_isub X2 hx (pc' := 6) (hb hby d6_5) rfl rfl ?_
  rw [hpl]
  refine own_istore X2 hx (pc' := 8) (Ls' := #[.val (.ref gw), .val (.int doc), .val (.double gn), .second, .val (.int (Int32.ofNat P)), .unset, .unset, .unset]) (hb hby d6_6) rfl rfl ?_
  refine own_lconst X2 hx (pc' := 9) (1 : Int64) (hb hby d6_8) rfl rfl ?_
  refine own_iload X2 hx (pc' := 11) (hb hby d6_9) rfl rfl ?_
  refine own_lshl X2 hx (pc' := 12) (hb hby d6_11) rfl ?_
  show own_G p.tables e below _ T2 (mkF m 12 #[.val (.ref gw), .val (.int doc), .val (.double gn), .second, .val (.int (Int32.ofNat P)), .unset, .unset, .unset] [(.long (own_bit P))])
  refine own_lstore X2 hx (pc' := 14) (Ls' := #[.val (.ref gw), .val (.int doc), .val (.double gn), .second, .val (.int (Int32.ofNat P)), .val (.long (own_bit P)), .second, .unset]) (hb hby d6_12) rfl rfl ?_
  refine own_iload X2 hx (pc' := 16) (hb hby d6_14) rfl rfl ?_
  refine own_bipush X2 hx (pc' := 18) (6 : Int32) (hb hby d6_16) rfl rfl ?_
  refine own_iushr X2 hx (pc' := 19) (hb hby d6_18) rfl ?_
  rw [own_div hP]
  refine own_istore X2 hx (pc' := 21) (Ls' := #[.val (.ref gw), .val (.int doc), .val (.double gn), .second, .val (.int (Int32.ofNat P)), .val (.long (own_bit P)), .second, .val (.int (Int32.ofNat (P / 64)))]) (hb hby d6_19) rfl rfl ?_
  refine own_aloadN X2 hx (pc' := 22) (hb hby d6_21) rfl rfl rfl ?_
  refine own_getF X2 hx (pc' := 25) hZ hown (host := "") (Or.inl (Wd18 hw)) Via.refl e2 F_h (hb hby d6_22) rfl (fun T3 X3 e3 => ?_)
  refine own_iload X3 hx (pc' := 27) (hb hby d6_25) rfl rfl ?_
  obtain ⟨cl4, Ar4, S4, H4⟩ := id V_h
  refine own_laload X3 hx (pc' := 28) hZ (v := (hf (P / 64))) e3 Ar4 (own_in S4 c2.1 c2.2 hP64) (by rw [c2.2]; exact H4 _ hP64) (hb hby d6_27) rfl ?_
  refine own_lload X3 hx (pc' := 30) (hb hby d6_28) rfl rfl ?_
  refine own_land X3 hx (pc' := 31) (hb hby d6_30) rfl rfl ?_
  refine own_lconst X3 hx (pc' := 32) (0 : Int64) (hb hby d6_31) rfl rfl ?_
  refine own_lcmp X3 hx (pc' := 33) (hb hby d6_32) rfl ?_
  refine own_ifYes X3 hx (pc' := 59) (hb hby d6_33) (feq (fun q => hbit ((lw_eq ((hf (P / 64)) &&& (own_bit P)) (0 : Int64)).mp q))).2 (by decide) (by decide) ?_
  refine own_aloadN X3 hx (pc' := 60) (hb hby d6_59) rfl rfl rfl ?_
  refine own_getF X3 hx (pc' := 63) hZ hown (host := "") (Or.inl (Wd15 hw)) Via.refl e3 F_s (hb hby d6_60) rfl (fun T5 X5 e5 => ?_)
  refine own_iload X5 hx (pc' := 65) (hb hby d6_63) rfl rfl ?_
  refine own_dup2 X5 hx (pc' := 66) (hb hby d6_65) rfl rfl rfl ?_
  obtain ⟨cl6, Ar6, S6, H6⟩ := id V_s
  refine own_daload X5 hx (pc' := 67) hZ (v := (sf P)) e5 Ar6 (own_in S6 c1.1 c1.2 hP) (by rw [c1.2]; exact H6 _ hP) (hb hby d6_66) rfl ?_
  refine own_dloadN X5 hx (pc' := 68) (hb hby d6_67) rfl rfl ?_
  refine own_dadd X5 hx (pc' := 69) (hb hby d6_68) hn rfl ?_
  obtain ⟨cl7, Ar7, S7, H7⟩ := id V_s
  refine own_stD X5 hx (pc' := 70) hZ e5 Ar7 (own_in S7 c1.1 c1.2 hP) (hb hby d6_69) rfl (fun T8 h8 X8 e8 W8 => ?_)
  have N9 := Fr.snoc X8 N0 g_su
  have Z10 : n0 ≤ h8.size := Nat.le_trans Z0 (Nat.le_of_eq (Wr.size W8).symm)
  have K11 : Keep h0 h8 [gw, su, ho] := K1.wr W8 (Or.inl (List.mem_of_getElem? (i := 1) rfl))
  have F12 := (Exa.wr W8 E_g)
  have F13 := (Fld.other W8 F_s (Or.inl d1))
  have F14 := (Fld.other W8 F_h (Or.inl d1))
  have F15 := (Fld.other W8 F_p (Or.inl d1))
  have F16 := (V_h.other W8 (Ne.symm d3))
  have F17 : own_Ar Z h8 su .double 4096 (fun ii => .double ((own_upd sf P (FP.dadd (sf P) gn)) ii)) := (own_Ar.set V_s W8 c1.2 hP (fun q => by unfold own_upd; split <;> rfl))
  refine own_retV X8 hx hlk hret (hb hby d6_70) (by decide) (by decide) ?_
  rw [e8]
  exact ⟨rfl, N9, K11, F13, F14, F15, F16, F17⟩

theorem d7_0 : decode prog_49_method_7_code 0 = .ok (.aload_n 0, 1) := by decide +kernel
theorem d7_1 : decode prog_49_method_7_code 1 = .ok (.getfield 9, 3) := by decide +kernel
theorem d7_4 : decode prog_49_method_7_code 4 = .ok (.iload_n 1, 1) := by decide +kernel
theorem d7_5 : decode prog_49_method_7_code 5 = .ok (.aload_n 0, 1) := by decide +kernel
theorem d7_6 : decode prog_49_method_7_code 6 = .ok (.getfield 19, 3) := by decide +kernel
theorem d7_9 : decode prog_49_method_7_code 9 = .ok (.isub, 1) := by decide +kernel
theorem d7_10 : decode prog_49_method_7_code 10 = .ok (.daload, 1) := by decide +kernel
theorem d7_11 : decode prog_49_method_7_code 11 = .ok (.dreturn, 1) := by decide +kernel
def Qsum (x : UInt64) (h0 : Heap) (n0 : Nat) (v : Option Value) (h : Heap) (L : List Loc) : Prop := v = some (.double x) ∧ Fr n0 L ∧ h = h0
theorem ef_rm_sum (m : MethodId) (x0 : Addr) (x1 : Int32) : entryFrame m #[(.ref x0), (.int x1)] 2 = mkF m 0 #[.val (.ref x0), .val (.int x1)] [] := by first | (simp [entryFrame, mkF, argsToLocals, Value.category, maxLocals]; done) | rfl
theorem pf_4 : plainFor (⟨"com/example/mixed_likelihood/mixedlikelihood/search/GainWindow", "sum", "(I)D"⟩ : MethodName) = true := by apply plainFor_of_name; first | (simp [plainName, overriddenIn]; done) | decide +kernel
set_option maxRecDepth 65536 in
set_option maxHeartbeats 40000000 in
theorem rm_sum (l : Launch) (Z : State) (a0 : Array Value) (hw : ∀ d ∈ tables_1, d.before a0 Z = true) (ws : List Jvm.Cond) (gw su ho : Addr) (start : Int32) (hf : Nat → Int64) (sf : Nat → UInt64) (P : Nat) (doc : Int32) (h0 : Heap) (n0 : Nat) (Z0 : n0 ≤ h0.size) (hP : P < 4096) (hpl : doc - start = Int32.ofNat P) (F_s : Fld Z h0 gw "com/example/mixed_likelihood/mixedlikelihood/search/GainWindow" "sums" "[D" (.ref su)) (F_h : Fld Z h0 gw "com/example/mixed_likelihood/mixedlikelihood/search/GainWindow" "holding" "[J" (.ref ho)) (F_p : Fld Z h0 gw "com/example/mixed_likelihood/mixedlikelihood/search/GainWindow" "start" "I" (.int start)) (V_h : own_Ar Z h0 ho .long 64 (fun ii => .long (hf ii))) (V_s : own_Ar Z h0 su .double 4096 (fun ii => .double (sf ii))) :
    MetFree l (⟨"com/example/mixed_likelihood/mixedlikelihood/search/GainWindow", "sum", "(I)D"⟩ : MethodName) (head1 (Jvm.Cond.code (⟨"com/example/mixed_likelihood/mixedlikelihood/search/GainWindow", "sum", "(I)D"⟩ : MethodName) prog_49_method_7_code 2 (some .double) :: ws) ({ frames := 0, cells := 0, slots := 0, locals := 0 } : Room)) (fun aa U => aa = #[(.ref gw), (.int doc)] ∧ Z.Warmed39 U.vm ∧ U.heap = h0) (fun _ _ _ _ _ => True) (fun _ U o U' => ∃ v L, o = .returned v ∧ Qsum (sf P) h0 n0 v U'.heap L ∧ FrameEnd U o U' L (({ frames := 0, cells := 0, slots := 0, locals := 0 } : Room).cells) (({ frames := 0, cells := 0, slots := 0, locals := 0 } : Room).slots)) := by
  refine own_body pf_4 ?_
  intro p e s m below meth c s₁ hx hby hml hown hnm hlk hret hZ X0 e0
  have N0 : Fr n0 [] := Fr.nil n0
  refine own_go (f' := (mkF m 0 #[.val (.ref gw), .val (.int doc)] [])) (fun t k => castTop (ef_rm_sum m gw doc) k) ?_
  have c1 := own_clamp (n := P) (by omega)
  refine own_aloadN X0 hx (pc' := 1) (hb hby d7_0) rfl rfl rfl ?_
  refine own_getF X0 hx (pc' := 4) hZ hown (host := "") (Or.inl (Wd15 hw)) Via.refl e0 F_s (hb hby d7_1) rfl (fun T1 X1 e1 => ?_)
  refine own_iloadN X1 hx (pc' := 5) (hb hby d7_4) rfl rfl ?_
  refine own_aloadN X1 hx (pc' := 6) (hb hby d7_5) rfl rfl rfl ?_
  refine own_getF X1 hx (pc' := 9) hZ hown (host := "") (Or.inl (Wd25 hw)) Via.refl e1 F_p (hb hby d7_6) rfl (fun T2 X2 e2 => ?_)
  refine own_isub X2 hx (pc' := 10) (hb hby d7_9) rfl rfl ?_
  rw [hpl]
  obtain ⟨cl3, Ar3, S3, H3⟩ := id V_s
  refine own_daload X2 hx (pc' := 11) hZ (v := (sf P)) e2 Ar3 (own_in S3 c1.1 c1.2 hP) (by rw [c1.2]; exact H3 _ hP) (hb hby d7_10) rfl ?_
  refine own_retD X2 hx hlk hret (hb hby d7_11) (by decide) (by decide) ?_
  exact ⟨rfl, N0, e2⟩

theorem d1_0 : decode jdk_29_method_70_code 0 = .ok (.lload_n 0, 1) := by decide +kernel
theorem d1_1 : decode jdk_29_method_70_code 1 = .ok (.lload_n 2, 1) := by decide +kernel
theorem d1_2 : decode jdk_29_method_70_code 2 = .ok (.lcmp, 1) := by decide +kernel
theorem d1_3 : decode jdk_29_method_70_code 3 = .ok (.ifCond .gt 7, 3) := by decide +kernel
theorem d1_6 : decode jdk_29_method_70_code 6 = .ok (.lload_n 0, 1) := by decide +kernel
theorem d1_7 : decode jdk_29_method_70_code 7 = .ok (.goto 4, 3) := by decide +kernel
theorem d1_10 : decode jdk_29_method_70_code 10 = .ok (.lload_n 2, 1) := by decide +kernel
theorem d1_11 : decode jdk_29_method_70_code 11 = .ok (.lreturn, 1) := by decide +kernel
def own_minL (x y : Int64) : Int64 := if y < x then y else x
def Qmin (x y : Int64) (h0 : Heap) (n0 : Nat) (v : Option Value) (h : Heap) (L : List Loc) : Prop := v = some (.long (own_minL x y)) ∧ Fr n0 L ∧ h = h0
theorem ef_rm_min (m : MethodId) (x0 : Int64) (x1 : Int64) : entryFrame m #[(.long x0), (.long x1)] 4 = mkF m 0 #[.val (.long x0), .second, .val (.long x1), .second] [] := by first | (simp [entryFrame, mkF, argsToLocals, Value.category, maxLocals]; done) | rfl
theorem pf_5 : plainFor (⟨"java/lang/Math", "min", "(JJ)J"⟩ : MethodName) = true := by decide +kernel
set_option maxRecDepth 65536 in
set_option maxHeartbeats 40000000 in
theorem rm_min (l : Launch) (Z : State) (a0 : Array Value) (hw : ∀ d ∈ tables_1, d.before a0 Z = true) (ws : List Jvm.Cond) (q0 q1 : Int64) (h0 : Heap) (n0 : Nat) (Z0 : n0 ≤ h0.size)  :
    MetFree l (⟨"java/lang/Math", "min", "(JJ)J"⟩ : MethodName) (head1 (Jvm.Cond.code (⟨"java/lang/Math", "min", "(JJ)J"⟩ : MethodName) jdk_29_method_70_code 4 (some .long) :: ws) ({ frames := 0, cells := 0, slots := 0, locals := 0 } : Room)) (fun aa U => aa = #[(.long q0), (.long q1)] ∧ Z.Warmed39 U.vm ∧ U.heap = h0) (fun _ _ _ _ _ => True) (fun _ U o U' => ∃ v L, o = .returned v ∧ Qmin q0 q1 h0 n0 v U'.heap L ∧ FrameEnd U o U' L (({ frames := 0, cells := 0, slots := 0, locals := 0 } : Room).cells) (({ frames := 0, cells := 0, slots := 0, locals := 0 } : Room).slots)) := by
  refine own_body pf_5 ?_
  intro p e s m below meth c s₁ hx hby hml hown hnm hlk hret hZ X0 e0
  have N0 : Fr n0 [] := Fr.nil n0
  refine own_go (f' := (mkF m 0 #[.val (.long q0), .second, .val (.long q1), .second] [])) (fun t k => castTop (ef_rm_min m q0 q1) k) ?_
  refine own_lloadN X0 hx (pc' := 1) (hb hby d1_0) rfl rfl ?_
  refine own_lloadN X0 hx (pc' := 2) (hb hby d1_1) rfl rfl ?_
  refine own_lcmp X0 hx (pc' := 3) (hb hby d1_2) rfl ?_
  by_cases hc3_1 : q1 < q0
  · skip
    refine own_ifYes X0 hx (pc' := 10) (hb hby d1_3) (tlt ((lw_gt q0 q1).mpr hc3_1)).2.2.1 (by decide) (by decide) ?_
    refine own_lloadN X0 hx (pc' := 11) (hb hby d1_10) rfl rfl ?_
    refine own_retJ X0 hx hlk hret (hb hby d1_11) (by decide) (by decide) ?_
    exact ⟨by simp [own_minL, hc3_1], N0, e0⟩
  · skip
    refine own_ifNo X0 hx (pc' := 6) (hb hby d1_3) (flt (fun q => hc3_1 ((lw_gt q0 q1).mp q))).2.2.1 rfl ?_
    refine own_lloadN X0 hx (pc' := 7) (hb hby d1_6) rfl rfl ?_
    refine own_goto X0 hx (pc' := 11) (hb hby d1_7) (by decide) (by decide) ?_
    refine own_retJ X0 hx hlk hret (hb hby d1_11) (by decide) (by decide) ?_
    exact ⟨by simp [own_minL, hc3_1], N0, e0⟩

theorem own_fin64 (P : Nat) : ∃ a : Fin 64, a.val = P % 64 := ⟨⟨P % 64, Nat.mod_lt _ (by decide)⟩, rfl⟩
theorem own_z (P : Nat) (h : P < 4096) : (0 : Int64) &&& own_bit P = 0 := by
  rw [own_bit_mod P h]; obtain ⟨a, ea⟩ := own_fin64 P; rw [← ea]; exact (own_bit_self a).2
theorem own_zor (x : Int64) : (0 : Int64) ||| x = x := Int64.zero_or
theorem own_ne1 (P : Nat) (h : P < 4096) : ¬ (((0 : Int64) ||| own_bit P) &&& own_bit P = 0) := by
  rw [own_zor, own_bit_mod P h]; obtain ⟨a, ea⟩ := own_fin64 P; rw [← ea]; exact (own_bit_self a).1
theorem own_clear {f : Nat → Int64} {A B : Nat} (hA : A < 4096) (hB : B < 4096) (hne : A ≠ B) (w1 : f (A / 64) = (0 : Int64) ||| own_bit A) (w2 : ∀ q, q ≠ A / 64 → f q = 0) : f (B / 64) &&& own_bit B = 0 := by
  by_cases e : B / 64 = A / 64
  · rw [e, w1, own_zor, own_bit_mod A hA, own_bit_mod B hB]
    obtain ⟨a, ea⟩ := own_fin64 A; obtain ⟨b, eb⟩ := own_fin64 B
    rw [← ea, ← eb]
    exact own_bit_ne a b (fun q => by have q2 := congrArg Fin.val q; omega)
  · rw [w2 _ e]; exact own_z B hB
theorem own_held2 {f : Nat → Int64} {A B : Nat} (hA : A < 4096) (hB : B < 4096) (w1 : f (A / 64) = (0 : Int64) ||| own_bit A) : ¬ (own_upd f (B / 64) (f (B / 64) ||| own_bit B) (A / 64) &&& own_bit A = 0) := by
  by_cases e : A / 64 = B / 64
  · rw [e, own_upd_same, ← e, w1, own_zor, own_bit_mod A hA, own_bit_mod B hB]
    obtain ⟨a, ea⟩ := own_fin64 A; obtain ⟨b, eb⟩ := own_fin64 B
    rw [← ea, ← eb]
    exact own_bit_or a b
  · rw [own_upd_other _ _ e, w1]; exact own_ne1 A hA
theorem own_t64_2147483647 : (2147483647 : Int64).toInt = 2147483647 := by decide
theorem own_off (x s : Int32) : ∃ A : Nat, A < 4096 ∧ (own_minL ((x &&& (4095 : Int32)).toInt64) ((2147483647 : Int64) - s.toInt64)).toInt32 = Int32.ofNat A := by
  have q1 := c_mask x (4095 : Int32) 12 (by decide) (by decide)
  have q2 := c_i2l (x &&& (4095 : Int32)); have q3 := c_i2l s; have q4 := rng32 s
  have q5 := c_lsub (2147483647 : Int64) s.toInt64; have q6 := rng64 ((2147483647 : Int64) - s.toInt64)
  rw [own_t64_2147483647] at q5
  have q7 : ((2 ^ 12 : Nat) : Int) = 4096 := rfl
  rw [q7] at q1
  have key : ∀ y : Int64, 0 ≤ y.toInt → y.toInt < 4096 → ∃ A : Nat, A < 4096 ∧ y.toInt32 = Int32.ofNat A := by
    intro y h1 h2
    have q8 := c_l2i y; have q9 := rng32 y.toInt32
    refine ⟨y.toInt.toNat, by omega, ?_⟩
    rw [← Int32.toInt_inj, own_on (by omega)]
    omega
  unfold own_minL
  split
  · rename_i hq; rw [Int64.lt_iff_toInt_lt] at hq; exact key _ (by omega) (by omega)
  · exact key _ (by omega) (by omega)
def Q0 (n0 : Nat) (v : Option Value) (h : Heap) (L : List Loc) : Prop := v = some (.int 1) ∧ Fr n0 L
theorem ef_rm0 (m : MethodId) (x0 : Int32) (x1 : Int32) (x2 : Int32) (x3 : Int32) (x4 : Int32) (x5 : Int32) : entryFrame m #[(.int x0), (.int x1), (.int x2), (.int x3), (.int x4), (.int x5)] maxLocals = mkF m 0 #[.val (.int x0), .val (.int x1), .val (.int x2), .val (.int x3), .val (.int x4), .val (.int x5), .unset, .unset, .unset, .unset, .unset, .unset, .unset, .unset, .unset, .unset, .unset, .unset, .unset, .unset, .unset] [] := by first | (simp [entryFrame, mkF, argsToLocals, Value.category, maxLocals]; done) | rfl
theorem pf_6 : plainFor (⟨"com/example/mixed_likelihood/mixedlikelihood/search/GainWindowSumPinLaw", "law", "(IIIIII)Z"⟩ : MethodName) = true := by apply plainFor_of_name; first | (simp [plainName, overriddenIn]; done) | decide +kernel
theorem Wd0 {a0 : Array Value} {Z : State} (hw : ∀ d ∈ tables_1, d.before a0 Z = true) : (Jvm.Cond.constantLong "com/example/mixed_likelihood/mixedlikelihood/search/GainWindowSumPinLaw" (9 : Nat) (2147483647 : Int64)).before a0 Z = true := hw _ (List.mem_of_getElem? (i := 0) rfl)
theorem Wd4 {a0 : Array Value} {Z : State} (hw : ∀ d ∈ tables_1, d.before a0 Z = true) : (Jvm.Cond.code ({ cls := "java/lang/Math", name := "min", desc := "(JJ)J" } : Jvm.MethodName) jdk_29_method_70_code (4 : Nat) (Option.some Jvm.ClassFile.FieldType.long)).before a0 Z = true := hw _ (List.mem_of_getElem? (i := 4) rfl)
theorem Wd3 {a0 : Array Value} {Z : State} (hw : ∀ d ∈ tables_1, d.before a0 Z = true) : (Jvm.Cond.initialized "java/lang/Math").before a0 Z = true := hw _ (List.mem_of_getElem? (i := 3) rfl)
theorem pd_1 : parseMethodDescriptor "(JJ)J" = some ⟨[.long, .long], some .long⟩ := by decide +kernel
theorem Wd1 {a0 : Array Value} {Z : State} (hw : ∀ d ∈ tables_1, d.before a0 Z = true) : (Jvm.Cond.methodLink "com/example/mixed_likelihood/mixedlikelihood/search/GainWindowSumPinLaw" (11 : Nat) ({ cls := "java/lang/Math", name := "min", desc := "(JJ)J" } : Jvm.MethodName)).before a0 Z = true := hw _ (List.mem_of_getElem? (i := 1) rfl)
theorem Wd2 {a0 : Array Value} {Z : State} (hw : ∀ d ∈ tables_1, d.before a0 Z = true) : (Jvm.Cond.static ({ cls := "java/lang/Math", name := "min", desc := "(JJ)J" } : Jvm.MethodName)).before a0 Z = true := hw _ (List.mem_of_getElem? (i := 2) rfl)
theorem Wd5 {a0 : Array Value} {Z : State} (hw : ∀ d ∈ tables_1, d.before a0 Z = true) : (Jvm.Cond.classLink "com/example/mixed_likelihood/mixedlikelihood/search/GainWindowSumPinLaw" (17 : Nat) "com/example/mixed_likelihood/mixedlikelihood/search/GainWindow").before a0 Z = true := hw _ (List.mem_of_getElem? (i := 5) rfl)
theorem Wd7 {a0 : Array Value} {Z : State} (hw : ∀ d ∈ tables_1, d.before a0 Z = true) : (Jvm.Cond.initialized "com/example/mixed_likelihood/mixedlikelihood/search/GainWindow").before a0 Z = true := hw _ (List.mem_of_getElem? (i := 7) rfl)
theorem Wd10 {a0 : Array Value} {Z : State} (hw : ∀ d ∈ tables_1, d.before a0 Z = true) : (Jvm.Cond.code ({ cls := "com/example/mixed_likelihood/mixedlikelihood/search/GainWindow", name := "<init>", desc := "()V" } : Jvm.MethodName) prog_49_method_1_code (1 : Nat) (Option.none : Option Jvm.ClassFile.FieldType)).before a0 Z = true := hw _ (List.mem_of_getElem? (i := 10) rfl)
theorem pd_2 : parseMethodDescriptor "()V" = some ⟨[], none⟩ := by decide +kernel
theorem Wd8 {a0 : Array Value} {Z : State} (hw : ∀ d ∈ tables_1, d.before a0 Z = true) : (Jvm.Cond.methodLink "com/example/mixed_likelihood/mixedlikelihood/search/GainWindowSumPinLaw" (19 : Nat) ({ cls := "com/example/mixed_likelihood/mixedlikelihood/search/GainWindow", name := "<init>", desc := "()V" } : Jvm.MethodName)).before a0 Z = true := hw _ (List.mem_of_getElem? (i := 8) rfl)
theorem Wd9 {a0 : Array Value} {Z : State} (hw : ∀ d ∈ tables_1, d.before a0 Z = true) : (Jvm.Cond.instanceMethod ({ cls := "com/example/mixed_likelihood/mixedlikelihood/search/GainWindow", name := "<init>", desc := "()V" } : Jvm.MethodName)).before a0 Z = true := hw _ (List.mem_of_getElem? (i := 9) rfl)
theorem Wd24 {a0 : Array Value} {Z : State} (hw : ∀ d ∈ tables_1, d.before a0 Z = true) : (Jvm.Cond.code ({ cls := "com/example/mixed_likelihood/mixedlikelihood/search/GainWindow", name := "moveTo", desc := "(I)V" } : Jvm.MethodName) prog_49_method_2_code (2 : Nat) (Option.none : Option Jvm.ClassFile.FieldType)).before a0 Z = true := hw _ (List.mem_of_getElem? (i := 24) rfl)
theorem pd_3 : parseMethodDescriptor "(I)V" = some ⟨[.int], none⟩ := by decide +kernel
theorem Wd20 {a0 : Array Value} {Z : State} (hw : ∀ d ∈ tables_1, d.before a0 Z = true) : (Jvm.Cond.methodLink "com/example/mixed_likelihood/mixedlikelihood/search/GainWindowSumPinLaw" (20 : Nat) ({ cls := "com/example/mixed_likelihood/mixedlikelihood/search/GainWindow", name := "moveTo", desc := "(I)V" } : Jvm.MethodName)).before a0 Z = true := hw _ (List.mem_of_getElem? (i := 20) rfl)
theorem Wd22 {a0 : Array Value} {Z : State} (hw : ∀ d ∈ tables_1, d.before a0 Z = true) : (Jvm.Cond.instanceMethod ({ cls := "com/example/mixed_likelihood/mixedlikelihood/search/GainWindow", name := "moveTo", desc := "(I)V" } : Jvm.MethodName)).before a0 Z = true := hw _ (List.mem_of_getElem? (i := 22) rfl)
theorem Wd23 {a0 : Array Value} {Z : State} (hw : ∀ d ∈ tables_1, d.before a0 Z = true) : (Jvm.Cond.selects "com/example/mixed_likelihood/mixedlikelihood/search/GainWindow" ({ cls := "com/example/mixed_likelihood/mixedlikelihood/search/GainWindow", name := "moveTo", desc := "(I)V" } : Jvm.MethodName) ({ cls := "com/example/mixed_likelihood/mixedlikelihood/search/GainWindow", name := "moveTo", desc := "(I)V" } : Jvm.MethodName)).before a0 Z = true := hw _ (List.mem_of_getElem? (i := 23) rfl)
theorem Wd35 {a0 : Array Value} {Z : State} (hw : ∀ d ∈ tables_1, d.before a0 Z = true) : (Jvm.Cond.code ({ cls := "com/example/mixed_likelihood/mixedlikelihood/search/GainWindow", name := "add", desc := "(ID)V" } : Jvm.MethodName) prog_49_method_5_code (8 : Nat) (Option.none : Option Jvm.ClassFile.FieldType)).before a0 Z = true := hw _ (List.mem_of_getElem? (i := 35) rfl)
theorem pd_4 : parseMethodDescriptor "(ID)V" = some ⟨[.int, .double], none⟩ := by decide +kernel
theorem Wd31 {a0 : Array Value} {Z : State} (hw : ∀ d ∈ tables_1, d.before a0 Z = true) : (Jvm.Cond.methodLink "com/example/mixed_likelihood/mixedlikelihood/search/GainWindowSumPinLaw" (24 : Nat) ({ cls := "com/example/mixed_likelihood/mixedlikelihood/search/GainWindow", name := "add", desc := "(ID)V" } : Jvm.MethodName)).before a0 Z = true := hw _ (List.mem_of_getElem? (i := 31) rfl)
theorem Wd33 {a0 : Array Value} {Z : State} (hw : ∀ d ∈ tables_1, d.before a0 Z = true) : (Jvm.Cond.instanceMethod ({ cls := "com/example/mixed_likelihood/mixedlikelihood/search/GainWindow", name := "add", desc := "(ID)V" } : Jvm.MethodName)).before a0 Z = true := hw _ (List.mem_of_getElem? (i := 33) rfl)
theorem Wd34 {a0 : Array Value} {Z : State} (hw : ∀ d ∈ tables_1, d.before a0 Z = true) : (Jvm.Cond.selects "com/example/mixed_likelihood/mixedlikelihood/search/GainWindow" ({ cls := "com/example/mixed_likelihood/mixedlikelihood/search/GainWindow", name := "add", desc := "(ID)V" } : Jvm.MethodName) ({ cls := "com/example/mixed_likelihood/mixedlikelihood/search/GainWindow", name := "add", desc := "(ID)V" } : Jvm.MethodName)).before a0 Z = true := hw _ (List.mem_of_getElem? (i := 34) rfl)
theorem Wd40 {a0 : Array Value} {Z : State} (hw : ∀ d ∈ tables_1, d.before a0 Z = true) : (Jvm.Cond.code ({ cls := "com/example/mixed_likelihood/mixedlikelihood/search/GainWindow", name := "sum", desc := "(I)D" } : Jvm.MethodName) prog_49_method_7_code (2 : Nat) (Option.some Jvm.ClassFile.FieldType.double)).before a0 Z = true := hw _ (List.mem_of_getElem? (i := 40) rfl)
theorem pd_5 : parseMethodDescriptor "(I)D" = some ⟨[.int], some .double⟩ := by decide +kernel
theorem Wd36 {a0 : Array Value} {Z : State} (hw : ∀ d ∈ tables_1, d.before a0 Z = true) : (Jvm.Cond.methodLink "com/example/mixed_likelihood/mixedlikelihood/search/GainWindowSumPinLaw" (28 : Nat) ({ cls := "com/example/mixed_likelihood/mixedlikelihood/search/GainWindow", name := "sum", desc := "(I)D" } : Jvm.MethodName)).before a0 Z = true := hw _ (List.mem_of_getElem? (i := 36) rfl)
theorem Wd38 {a0 : Array Value} {Z : State} (hw : ∀ d ∈ tables_1, d.before a0 Z = true) : (Jvm.Cond.instanceMethod ({ cls := "com/example/mixed_likelihood/mixedlikelihood/search/GainWindow", name := "sum", desc := "(I)D" } : Jvm.MethodName)).before a0 Z = true := hw _ (List.mem_of_getElem? (i := 38) rfl)
theorem Wd39 {a0 : Array Value} {Z : State} (hw : ∀ d ∈ tables_1, d.before a0 Z = true) : (Jvm.Cond.selects "com/example/mixed_likelihood/mixedlikelihood/search/GainWindow" ({ cls := "com/example/mixed_likelihood/mixedlikelihood/search/GainWindow", name := "sum", desc := "(I)D" } : Jvm.MethodName) ({ cls := "com/example/mixed_likelihood/mixedlikelihood/search/GainWindow", name := "sum", desc := "(I)D" } : Jvm.MethodName)).before a0 Z = true := hw _ (List.mem_of_getElem? (i := 39) rfl)
set_option maxRecDepth 65536 in
set_option maxHeartbeats 40000000 in
theorem rm0 (l : Launch) (Z : State) (a0 : Array Value) (hw : ∀ d ∈ tables_1, d.before a0 Z = true) (ws : List Jvm.Cond) (p0 p1 p2 p3 p4 p5 : Int32) (h0 : Heap) (n0 : Nat) (Z0 : n0 ≤ h0.size)  :
    MetFree l x (head1 (Jvm.Cond.code x code maxLocals ret :: ws) room_1) (fun aa U => aa = #[(.int p0), (.int p1), (.int p2), (.int p3), (.int p4), (.int p5)] ∧ Z.Warmed39 U.vm ∧ U.heap = h0) (fun _ _ _ _ _ => True) (fun _ U o U' => ∃ v L, o = .returned v ∧ Q0 n0 v U'.heap L ∧ FrameEnd U o U' L 16 8448) := by
  refine own_body pf_6 ?_
  intro p e s m below meth c s₁ hx hby hml hown hnm hlk hret hZ X0 e0
  have N0 : Fr n0 [] := Fr.nil n0
  refine own_go (f' := (mkF m 0 #[.val (.int p0), .val (.int p1), .val (.int p2), .val (.int p3), .val (.int p4), .val (.int p5), .unset, .unset, .unset, .unset, .unset, .unset, .unset, .unset, .unset, .unset, .unset, .unset, .unset, .unset, .unset] [])) (fun t k => castTop (ef_rm0 m p0 p1 p2 p3 p4 p5) k) ?_
  refine own_ldc2J X0 hx (pc' := 3) hZ hown (Wd0 hw) (hb hby at_0) rfl ?_
  refine own_iloadN X0 hx (pc' := 4) (hb hby at_3) rfl rfl ?_
  refine own_i2l X0 hx (pc' := 5) (hb hby at_4) rfl ?_
  refine own_lsub X0 hx (pc' := 6) (hb hby at_5) rfl rfl ?_
  refine own_lstore X0 hx (pc' := 8) (Ls' := #[.val (.int p0), .val (.int p1), .val (.int p2), .val (.int p3), .val (.int p4), .val (.int p5), .val (.long ((2147483647 : Int64) - (p0.toInt64))), .second, .unset, .unset, .unset, .unset, .unset, .unset, .unset, .unset, .unset, .unset, .unset, .unset, .unset]) (hb hby at_6) rfl rfl ?_
  refine own_iloadN X0 hx (pc' := 9) (hb hby at_8) rfl rfl ?_
  refine own_sipush X0 hx (pc' := 12) (4095 : Int32) (hb hby at_9) rfl rfl ?_
  refine own_iand X0 hx (pc' := 13) (hb hby at_12) rfl rfl ?_
  refine own_i2l X0 hx (pc' := 14) (hb hby at_13) rfl ?_
  refine own_lload X0 hx (pc' := 16) (hb hby at_14) rfl rfl ?_
  refine own_callS X0 hx (pc' := 19) hZ hown (Wd1 hw) (Wd2 hw) (Wd3 hw) (Wd4 hw) (by decide) (rm_min l Z a0 hw [] ((p1 &&& (4095 : Int32)).toInt64) ((2147483647 : Int64) - (p0.toInt64)) h0 n0 Z0) e0 0 (by decide) (by decide) (by decide) (by decide) [(.long ((p1 &&& (4095 : Int32)).toInt64)), (.long ((2147483647 : Int64) - (p0.toInt64)))] [] (by rw [hml]; rfl) (lenOf pd_1 rfl) rfl rfl (Nat.le_of_eq rfl) (hb hby at_16) rfl (fun v1 T1 L1 X1 hQ1 => ?_)
  obtain ⟨rfl, Nq1, e1⟩ := hQ1
  have N2 := Fr.app N0 Nq1
  show own_G p.tables e below _ T1 (mkF m 19 #[.val (.int p0), .val (.int p1), .val (.int p2), .val (.int p3), .val (.int p4), .val (.int p5), .val (.long ((2147483647 : Int64) - (p0.toInt64))), .second, .unset, .unset, .unset, .unset, .unset, .unset, .unset, .unset, .unset, .unset, .unset, .unset, .unset] [(.long (own_minL ((p1 &&& (4095 : Int32)).toInt64) ((2147483647 : Int64) - (p0.toInt64))))])
  refine own_l2i X1 hx (pc' := 20) (hb hby at_19) rfl ?_
  obtain ⟨A, hA, eA⟩ : ∃ A : Nat, A < 4096 ∧ ((own_minL ((p1 &&& (4095 : Int32)).toInt64) ((2147483647 : Int64) - (p0.toInt64))).toInt32) = Int32.ofNat A := own_off p1 p0
  rw [eA]
  refine own_istore X1 hx (pc' := 22) (Ls' := #[.val (.int p0), .val (.int p1), .val (.int p2), .val (.int p3), .val (.int p4), .val (.int p5), .val (.long ((2147483647 : Int64) - (p0.toInt64))), .second, .val (.int (Int32.ofNat A)), .unset, .unset, .unset, .unset, .unset, .unset, .unset, .unset, .unset, .unset, .unset, .unset]) (hb hby at_20) rfl rfl ?_
  refine own_iloadN X1 hx (pc' := 23) (hb hby at_22) rfl rfl ?_
  refine own_sipush X1 hx (pc' := 26) (4095 : Int32) (hb hby at_23) rfl rfl ?_
  refine own_iand X1 hx (pc' := 27) (hb hby at_26) rfl rfl ?_
  refine own_i2l X1 hx (pc' := 28) (hb hby at_27) rfl ?_
  refine own_lload X1 hx (pc' := 30) (hb hby at_28) rfl rfl ?_
  refine own_callS X1 hx (pc' := 33) hZ hown (Wd1 hw) (Wd2 hw) (Wd3 hw) (Wd4 hw) (by decide) (rm_min l Z a0 hw [] ((p2 &&& (4095 : Int32)).toInt64) ((2147483647 : Int64) - (p0.toInt64)) h0 n0 Z0) e1 0 (by decide) (by decide) (by decide) (by decide) [(.long ((p2 &&& (4095 : Int32)).toInt64)), (.long ((2147483647 : Int64) - (p0.toInt64)))] [] (by rw [hml]; rfl) (lenOf pd_1 rfl) rfl rfl (Nat.le_of_eq rfl) (hb hby at_30) rfl (fun v3 T3 L3 X3 hQ3 => ?_)
  obtain ⟨rfl, Nq3, e3⟩ := hQ3
  have N4 := Fr.app N2 Nq3
  show own_G p.tables e below _ T3 (mkF m 33 #[.val (.int p0), .val (.int p1), .val (.int p2), .val (.int p3), .val (.int p4), .val (.int p5), .val (.long ((2147483647 : Int64) - (p0.toInt64))), .second, .val (.int (Int32.ofNat A)), .unset, .unset, .unset, .unset, .unset, .unset, .unset, .unset, .unset, .unset, .unset, .unset] [(.long (own_minL ((p2 &&& (4095 : Int32)).toInt64) ((2147483647 : Int64) - (p0.toInt64))))])
  refine own_l2i X3 hx (pc' := 34) (hb hby at_33) rfl ?_
  obtain ⟨B, hB, eB⟩ : ∃ A : Nat, A < 4096 ∧ ((own_minL ((p2 &&& (4095 : Int32)).toInt64) ((2147483647 : Int64) - (p0.toInt64))).toInt32) = Int32.ofNat A := own_off p2 p0
  rw [eB]
  refine own_istore X3 hx (pc' := 36) (Ls' := #[.val (.int p0), .val (.int p1), .val (.int p2), .val (.int p3), .val (.int p4), .val (.int p5), .val (.long ((2147483647 : Int64) - (p0.toInt64))), .second, .val (.int (Int32.ofNat A)), .val (.int (Int32.ofNat B)), .unset, .unset, .unset, .unset, .unset, .unset, .unset, .unset, .unset, .unset, .unset]) (hb hby at_34) rfl rfl ?_
  by_cases hAB : A = B
  · skip
    subst hAB
    refine own_iloadN X3 hx (pc' := 37) (hb hby at_36) rfl rfl ?_
    refine own_iload X3 hx (pc' := 39) (hb hby at_37) rfl rfl ?_
    refine own_iadd X3 hx (pc' := 40) (hb hby at_39) rfl rfl ?_
    refine own_istore X3 hx (pc' := 42) (Ls' := #[.val (.int p0), .val (.int p1), .val (.int p2), .val (.int p3), .val (.int p4), .val (.int p5), .val (.long ((2147483647 : Int64) - (p0.toInt64))), .second, .val (.int (Int32.ofNat A)), .val (.int (Int32.ofNat A)), .val (.int (p0 + (Int32.ofNat A))), .unset, .unset, .unset, .unset, .unset, .unset, .unset, .unset, .unset, .unset]) (hb hby at_40) rfl rfl ?_
    refine own_iloadN X3 hx (pc' := 43) (hb hby at_42) rfl rfl ?_
    refine own_iload X3 hx (pc' := 45) (hb hby at_43) rfl rfl ?_
    refine own_iadd X3 hx (pc' := 46) (hb hby at_45) rfl rfl ?_
    refine own_istore X3 hx (pc' := 48) (Ls' := #[.val (.int p0), .val (.int p1), .val (.int p2), .val (.int p3), .val (.int p4), .val (.int p5), .val (.long ((2147483647 : Int64) - (p0.toInt64))), .second, .val (.int (Int32.ofNat A)), .val (.int (Int32.ofNat A)), .val (.int (p0 + (Int32.ofNat A))), .val (.int (p0 + (Int32.ofNat A))), .unset, .unset, .unset, .unset, .unset, .unset, .unset, .unset, .unset]) (hb hby at_46) rfl rfl ?_
    refine own_new X3 hx (pc' := 51) hZ hown (Wd5 hw) (Wd6 hw) (Wd7 hw) e3 (hb hby at_48) (by decide) (by decide) rfl (fun T5 h5 nb5 g5 X5 e5 E5 A5 D5 => ?_)
    have ge_nb5 : n0 ≤ nb5 := Nat.le_trans Z0 (Nat.le_of_eq g5.symm)
    have Z6 : n0 ≤ h5.size := Nat.le_trans Z0 E5.1
    have F7 : Fld Z h5 nb5 "com/example/mixed_likelihood/mixedlikelihood/search/GainWindow" "sums" "[D" .null := D5 (Or.inr (Wd16 hw)) (ty := (.array .double)) (by decide)
    have F8 : Fld Z h5 nb5 "com/example/mixed_likelihood/mixedlikelihood/search/GainWindow" "holding" "[J" .null := D5 (Or.inr (Wd19 hw)) (ty := (.array .long)) (by decide)
    have F9 : Fld Z h5 nb5 "com/example/mixed_likelihood/mixedlikelihood/search/GainWindow" "start" "I" (.int (0 : Int32)) := D5 (Or.inl (Wd26 hw)) (ty := .int) (by decide)
    refine own_dup X5 hx (pc' := 52) (hb hby at_51) rfl rfl ?_
    refine own_callI X5 hx (pc' := 55) hZ rfl hown (Wd8 hw) (Wd9 hw) (Wd10 hw) (Wd7 hw) (by decide) (rm_init l Z a0 hw [] nb5 h5 n0 Z6 ge_nb5 A5 F7 F8 F9) e5 (b := nb5) 1 (by decide) (by decide) (by decide) (by decide) [] [(.ref nb5)] (by rw [hml]; rfl) (lenOf pd_2 rfl) rfl rfl (Nat.le_of_eq rfl) (hb hby at_52) rfl (fun v10 T10 L10 X10 hQ10 => ?_)
    obtain ⟨rfl, Nq10, K10, su, ho, ⟨g_su, g_ho⟩, ⟨d1, d2, d3⟩, G1_10, G2_10, G3_10, G4_10, G5_10⟩ := hQ10
    have N11 := Fr.app N4 Nq10
    have Z12 : n0 ≤ T10.heap.size := Nat.le_trans Z6 K10.1
    have F13 := (Exa.keep A5 K10)
    show own_G p.tables e below _ T10 (mkF m 55 #[.val (.int p0), .val (.int p1), .val (.int p2), .val (.int p3), .val (.int p4), .val (.int p5), .val (.long ((2147483647 : Int64) - (p0.toInt64))), .second, .val (.int (Int32.ofNat A)), .val (.int (Int32.ofNat A)), .val (.int (p0 + (Int32.ofNat A))), .val (.int (p0 + (Int32.ofNat A))), .unset, .unset, .unset, .unset, .unset, .unset, .unset, .unset, .unset] [(.ref nb5)])
    refine own_astore X10 hx (pc' := 57) (Ls' := #[.val (.int p0), .val (.int p1), .val (.int p2), .val (.int p3), .val (.int p4), .val (.int p5), .val (.long ((2147483647 : Int64) - (p0.toInt64))), .second, .val (.int (Int32.ofNat A)), .val (.int (Int32.ofNat A)), .val (.int (p0 + (Int32.ofNat A))), .val (.int (p0 + (Int32.ofNat A))), .val (.ref nb5), .unset, .unset, .unset, .unset, .unset, .unset, .unset, .unset]) (hb hby at_55) rfl rfl rfl ?_
    refine own_aload X10 hx (pc' := 59) (hb hby at_57) rfl rfl rfl ?_
    refine own_iloadN X10 hx (pc' := 60) (hb hby at_59) rfl rfl ?_
    refine own_callV X10 hx (pc' := 63) hZ hown (Wd20 hw) (Wd22 hw) (Wd23 hw) (Wd24 hw) (Wd7 hw) (by decide) (rm_move l Z a0 hw [] nb5 su ho (0 : Int32) (fun _ => (0 : Int64)) (fun _ => (0 : UInt64)) p0 T10.heap n0 Z12 ge_nb5 g_su g_ho d1 d2 d3 F13 G1_10 G2_10 G3_10 G4_10 G5_10) rfl F13 0 (by decide) (by decide) (by decide) (by decide) [(.int p0)] [] (by rw [hml]; rfl) (lenOf pd_3 rfl) rfl rfl (Nat.le_of_eq rfl) (hb hby at_60) rfl (fun v14 T14 L14 X14 hQ14 => ?_)
    obtain ⟨rfl, Nq14, K14, G1_14, G2_14, G3_14, G4_14, G5_14⟩ := hQ14
    have N15 := Fr.app N11 Nq14
    have Z16 : n0 ≤ T14.heap.size := Nat.le_trans Z12 K14.1
    have F17 := (Exa.keep F13 K14)
    have F18 := (G5_10.keep K14 (ninS (Ne.symm d1) (ninS d3 nin0)))
    show own_G p.tables e below _ T14 (mkF m 63 #[.val (.int p0), .val (.int p1), .val (.int p2), .val (.int p3), .val (.int p4), .val (.int p5), .val (.long ((2147483647 : Int64) - (p0.toInt64))), .second, .val (.int (Int32.ofNat A)), .val (.int (Int32.ofNat A)), .val (.int (p0 + (Int32.ofNat A))), .val (.int (p0 + (Int32.ofNat A))), .val (.ref nb5), .unset, .unset, .unset, .unset, .unset, .unset, .unset, .unset] [])
    refine own_aload X14 hx (pc' := 65) (hb hby at_63) rfl rfl rfl ?_
    refine own_iload X14 hx (pc' := 67) (hb hby at_65) rfl rfl ?_
    refine own_iload X14 hx (pc' := 69) (hb hby at_67) rfl rfl ?_
    refine own_i2d X14 hx (pc' := 70) (hb hby at_69) rfl ?_
    refine own_callV X14 hx (pc' := 73) hZ hown (Wd31 hw) (Wd33 hw) (Wd34 hw) (Wd35 hw) (Wd7 hw) (by decide) (rm_aF l Z a0 hw [] nb5 su ho p0 (fun _ => (0 : Int64)) (fun _ => (0 : UInt64)) A (p0 + (Int32.ofNat A)) (FP.i2d p5) T14.heap n0 Z16 ge_nb5 g_su g_ho d1 d2 d3 F17 hA (own_back p0 (Int32.ofNat A)) (own_z A hA) G1_14 G2_14 G3_14 G4_14 G5_14) rfl F17 0 (by decide) (by decide) (by decide) (by decide) [(.int (p0 + (Int32.ofNat A))), (.double (FP.i2d p5))] [] (by rw [hml]; rfl) (lenOf pd_4 rfl) rfl rfl (Nat.le_of_eq rfl) (hb hby at_70) rfl (fun v19 T19 L19 X19 hQ19 => ?_)
    obtain ⟨rfl, Nq19, K19, G1_19, G2_19, G3_19, G4_19, G5_19⟩ := hQ19
    have N20 := Fr.app N15 Nq19
    have Z21 : n0 ≤ T19.heap.size := Nat.le_trans Z16 K19.1
    have F22 := (Exa.keep F17 K19)
    show own_G p.tables e below _ T19 (mkF m 73 #[.val (.int p0), .val (.int p1), .val (.int p2), .val (.int p3), .val (.int p4), .val (.int p5), .val (.long ((2147483647 : Int64) - (p0.toInt64))), .second, .val (.int (Int32.ofNat A)), .val (.int (Int32.ofNat A)), .val (.int (p0 + (Int32.ofNat A))), .val (.int (p0 + (Int32.ofNat A))), .val (.ref nb5), .unset, .unset, .unset, .unset, .unset, .unset, .unset, .unset] [])
    refine own_aload X19 hx (pc' := 75) (hb hby at_73) rfl rfl rfl ?_
    refine own_iloadN X19 hx (pc' := 76) (hb hby at_75) rfl rfl ?_
    refine own_callV X19 hx (pc' := 79) hZ hown (Wd20 hw) (Wd22 hw) (Wd23 hw) (Wd24 hw) (Wd7 hw) (by decide) (rm_move l Z a0 hw [] nb5 su ho p0 (own_upd (fun _ => (0 : Int64)) (A / 64) ((fun _ => (0 : Int64)) (A / 64) ||| own_bit A)) (own_upd (fun _ => (0 : UInt64)) A (FP.i2d p5)) p0 T19.heap n0 Z21 ge_nb5 g_su g_ho d1 d2 d3 F22 G1_19 G2_19 G3_19 G4_19 G5_19) rfl F22 0 (by decide) (by decide) (by decide) (by decide) [(.int p0)] [] (by rw [hml]; rfl) (lenOf pd_3 rfl) rfl rfl (Nat.le_of_eq rfl) (hb hby at_76) rfl (fun v23 T23 L23 X23 hQ23 => ?_)
    obtain ⟨rfl, Nq23, K23, G1_23, G2_23, G3_23, G4_23, G5_23⟩ := hQ23
    have N24 := Fr.app N20 Nq23
    have Z25 : n0 ≤ T23.heap.size := Nat.le_trans Z21 K23.1
    have F26 := (Exa.keep F22 K23)
    have F27 := (G5_19.keep K23 (ninS (Ne.symm d1) (ninS d3 nin0)))
    show own_G p.tables e below _ T23 (mkF m 79 #[.val (.int p0), .val (.int p1), .val (.int p2), .val (.int p3), .val (.int p4), .val (.int p5), .val (.long ((2147483647 : Int64) - (p0.toInt64))), .second, .val (.int (Int32.ofNat A)), .val (.int (Int32.ofNat A)), .val (.int (p0 + (Int32.ofNat A))), .val (.int (p0 + (Int32.ofNat A))), .val (.ref nb5), .unset, .unset, .unset, .unset, .unset, .unset, .unset, .unset] [])
    refine own_aload X23 hx (pc' := 81) (hb hby at_79) rfl rfl rfl ?_
    refine own_iload X23 hx (pc' := 83) (hb hby at_81) rfl rfl ?_
    refine own_iloadN X23 hx (pc' := 84) (hb hby at_83) rfl rfl ?_
    refine own_i2d X23 hx (pc' := 85) (hb hby at_84) rfl ?_
    refine own_callV X23 hx (pc' := 88) hZ hown (Wd31 hw) (Wd33 hw) (Wd34 hw) (Wd35 hw) (Wd7 hw) (by decide) (rm_aF l Z a0 hw [] nb5 su ho p0 (fun _ => (0 : Int64)) (own_upd (fun _ => (0 : UInt64)) A (FP.i2d p5)) A (p0 + (Int32.ofNat A)) (FP.i2d p3) T23.heap n0 Z25 ge_nb5 g_su g_ho d1 d2 d3 F26 hA (own_back p0 (Int32.ofNat A)) (own_z A hA) G1_23 G2_23 G3_23 G4_23 G5_23) rfl F26 0 (by decide) (by decide) (by decide) (by decide) [(.int (p0 + (Int32.ofNat A))), (.double (FP.i2d p3))] [] (by rw [hml]; rfl) (lenOf pd_4 rfl) rfl rfl (Nat.le_of_eq rfl) (hb hby at_85) rfl (fun v28 T28 L28 X28 hQ28 => ?_)
    obtain ⟨rfl, Nq28, K28, G1_28, G2_28, G3_28, G4_28, G5_28⟩ := hQ28
    have N29 := Fr.app N24 Nq28
    have Z30 : n0 ≤ T28.heap.size := Nat.le_trans Z25 K28.1
    have F31 := (Exa.keep F26 K28)
    obtain ⟨hfa, e_hfa⟩ : ∃ f : Nat → Int64, f = (own_upd (fun _ => (0 : Int64)) (A / 64) ((fun _ => (0 : Int64)) (A / 64) ||| own_bit A)) := ⟨_, rfl⟩
    obtain ⟨sfa, e_sfa⟩ : ∃ f : Nat → UInt64, f = (own_upd (own_upd (fun _ => (0 : UInt64)) A (FP.i2d p5)) A (FP.i2d p3)) := ⟨_, rfl⟩
    rw [← e_hfa] at G4_28
    rw [← e_sfa] at G5_28
    show own_G p.tables e below _ T28 (mkF m 88 #[.val (.int p0), .val (.int p1), .val (.int p2), .val (.int p3), .val (.int p4), .val (.int p5), .val (.long ((2147483647 : Int64) - (p0.toInt64))), .second, .val (.int (Int32.ofNat A)), .val (.int (Int32.ofNat A)), .val (.int (p0 + (Int32.ofNat A))), .val (.int (p0 + (Int32.ofNat A))), .val (.ref nb5), .unset, .unset, .unset, .unset, .unset, .unset, .unset, .unset] [])
    have v1 : sfa A = FP.i2d p3 := by rw [e_sfa]; exact own_upd_same _ _ _
    have w1 : hfa (A / 64) = (0 : Int64) ||| own_bit A := by rw [e_hfa]; exact own_upd_same _ _ _
    have w2 : ∀ q, q ≠ A / 64 → hfa q = 0 := fun q hq => by rw [e_hfa]; exact own_upd_other _ _ hq
    refine own_aload X28 hx (pc' := 90) (hb hby at_88) rfl rfl rfl ?_
    refine own_iload X28 hx (pc' := 92) (hb hby at_90) rfl rfl ?_
    refine own_iload X28 hx (pc' := 94) (hb hby at_92) rfl rfl ?_
    refine own_i2d X28 hx (pc' := 95) (hb hby at_94) rfl ?_
    refine own_callV X28 hx (pc' := 98) hZ hown (Wd31 hw) (Wd33 hw) (Wd34 hw) (Wd35 hw) (Wd7 hw) (by decide) (rm_aH l Z a0 hw [] nb5 su ho p0 hfa sfa A (p0 + (Int32.ofNat A)) (FP.i2d p4) T28.heap n0 Z30 ge_nb5 g_su g_ho d1 d2 d3 F31 hA (own_back p0 (Int32.ofNat A)) (by rw [w1]; exact own_ne1 A hA) (by rw [v1]; exact own_nn2 p3 p4) G1_28 G2_28 G3_28 G4_28 G5_28) rfl F31 0 (by decide) (by decide) (by decide) (by decide) [(.int (p0 + (Int32.ofNat A))), (.double (FP.i2d p4))] [] (by rw [hml]; rfl) (lenOf pd_4 rfl) rfl rfl (Nat.le_of_eq rfl) (hb hby at_95) rfl (fun v32 T32 L32 X32 hQ32 => ?_)
    obtain ⟨rfl, Nq32, K32, G1_32, G2_32, G3_32, G4_32, G5_32⟩ := hQ32
    have N33 := Fr.app N29 Nq32
    have Z34 : n0 ≤ T32.heap.size := Nat.le_trans Z30 K32.1
    have F35 := (Exa.keep F31 K32)
    obtain ⟨hfb, e_hfb⟩ : ∃ f : Nat → Int64, f = hfa := ⟨_, rfl⟩
    obtain ⟨sfb, e_sfb⟩ : ∃ f : Nat → UInt64, f = (own_upd sfa A (FP.dadd (sfa A) (FP.i2d p4))) := ⟨_, rfl⟩
    have G4_32' := G4_32
    rw [← e_sfb] at G5_32
    show own_G p.tables e below _ T32 (mkF m 98 #[.val (.int p0), .val (.int p1), .val (.int p2), .val (.int p3), .val (.int p4), .val (.int p5), .val (.long ((2147483647 : Int64) - (p0.toInt64))), .second, .val (.int (Int32.ofNat A)), .val (.int (Int32.ofNat A)), .val (.int (p0 + (Int32.ofNat A))), .val (.int (p0 + (Int32.ofNat A))), .val (.ref nb5), .unset, .unset, .unset, .unset, .unset, .unset, .unset, .unset] [])
    have v2 : sfb A = FP.dadd (FP.i2d p3) (FP.i2d p4) := by rw [e_sfb, own_upd_same, v1]
    refine own_aload X32 hx (pc' := 100) (hb hby at_98) rfl rfl rfl ?_
    refine own_iload X32 hx (pc' := 102) (hb hby at_100) rfl rfl ?_
    refine own_iload X32 hx (pc' := 104) (hb hby at_102) rfl rfl ?_
    refine own_i2d X32 hx (pc' := 105) (hb hby at_104) rfl ?_
    refine own_callV X32 hx (pc' := 108) hZ hown (Wd31 hw) (Wd33 hw) (Wd34 hw) (Wd35 hw) (Wd7 hw) (by decide) (rm_aH l Z a0 hw [] nb5 su ho p0 hfa sfb A (p0 + (Int32.ofNat A)) (FP.i2d p5) T32.heap n0 Z34 ge_nb5 g_su g_ho d1 d2 d3 F35 hA (own_back p0 (Int32.ofNat A)) (by rw [w1]; exact own_ne1 A hA) (by rw [v2]; exact own_nn3 p3 p4 p5) G1_32 G2_32 G3_32 G4_32 G5_32) rfl F35 0 (by decide) (by decide) (by decide) (by decide) [(.int (p0 + (Int32.ofNat A))), (.double (FP.i2d p5))] [] (by rw [hml]; rfl) (lenOf pd_4 rfl) rfl rfl (Nat.le_of_eq rfl) (hb hby at_105) rfl (fun v36 T36 L36 X36 hQ36 => ?_)
    obtain ⟨rfl, Nq36, K36, G1_36, G2_36, G3_36, G4_36, G5_36⟩ := hQ36
    have N37 := Fr.app N33 Nq36
    have Z38 : n0 ≤ T36.heap.size := Nat.le_trans Z34 K36.1
    have F39 := (Exa.keep F35 K36)
    obtain ⟨hfc, e_hfc⟩ : ∃ f : Nat → Int64, f = hfa := ⟨_, rfl⟩
    obtain ⟨sfc, e_sfc⟩ : ∃ f : Nat → UInt64, f = (own_upd sfb A (FP.dadd (sfb A) (FP.i2d p5))) := ⟨_, rfl⟩
    have G4_36' := G4_36
    rw [← e_sfc] at G5_36
    show own_G p.tables e below _ T36 (mkF m 108 #[.val (.int p0), .val (.int p1), .val (.int p2), .val (.int p3), .val (.int p4), .val (.int p5), .val (.long ((2147483647 : Int64) - (p0.toInt64))), .second, .val (.int (Int32.ofNat A)), .val (.int (Int32.ofNat A)), .val (.int (p0 + (Int32.ofNat A))), .val (.int (p0 + (Int32.ofNat A))), .val (.ref nb5), .unset, .unset, .unset, .unset, .unset, .unset, .unset, .unset] [])
    have v3 : sfc A = FP.dadd (FP.dadd (FP.i2d p3) (FP.i2d p4)) (FP.i2d p5) := by rw [e_sfc, own_upd_same, v2]
    refine own_aload X36 hx (pc' := 110) (hb hby at_108) rfl rfl rfl ?_
    refine own_iload X36 hx (pc' := 112) (hb hby at_110) rfl rfl ?_
    refine own_callV X36 hx (pc' := 115) hZ hown (Wd36 hw) (Wd38 hw) (Wd39 hw) (Wd40 hw) (Wd7 hw) (by decide) (rm_sum l Z a0 hw [] nb5 su ho p0 hfa sfc A (p0 + (Int32.ofNat A)) T36.heap n0 Z38 hA (own_back p0 (Int32.ofNat A)) G1_36 G2_36 G3_36 G4_36 G5_36) rfl F39 0 (by decide) (by decide) (by decide) (by decide) [(.int (p0 + (Int32.ofNat A)))] [] (by rw [hml]; rfl) (lenOf pd_5 rfl) rfl rfl (Nat.le_of_eq rfl) (hb hby at_112) rfl (fun v40 T40 L40 X40 hQ40 => ?_)
    obtain ⟨hv40, Nq40, e40⟩ := hQ40
    have N41 := Fr.app N37 Nq40
    rw [v3] at hv40
    subst hv40
    show own_G p.tables e below _ T40 (mkF m 115 #[.val (.int p0), .val (.int p1), .val (.int p2), .val (.int p3), .val (.int p4), .val (.int p5), .val (.long ((2147483647 : Int64) - (p0.toInt64))), .second, .val (.int (Int32.ofNat A)), .val (.int (Int32.ofNat A)), .val (.int (p0 + (Int32.ofNat A))), .val (.int (p0 + (Int32.ofNat A))), .val (.ref nb5), .unset, .unset, .unset, .unset, .unset, .unset, .unset, .unset] [(.double (FP.dadd (FP.dadd (FP.i2d p3) (FP.i2d p4)) (FP.i2d p5)))])
    refine own_dstore X40 hx (pc' := 117) (Ls' := #[.val (.int p0), .val (.int p1), .val (.int p2), .val (.int p3), .val (.int p4), .val (.int p5), .val (.long ((2147483647 : Int64) - (p0.toInt64))), .second, .val (.int (Int32.ofNat A)), .val (.int (Int32.ofNat A)), .val (.int (p0 + (Int32.ofNat A))), .val (.int (p0 + (Int32.ofNat A))), .val (.ref nb5), .val (.double (FP.dadd (FP.dadd (FP.i2d p3) (FP.i2d p4)) (FP.i2d p5))), .second, .unset, .unset, .unset, .unset, .unset, .unset]) (hb hby at_115) rfl rfl ?_
    refine own_aload X40 hx (pc' := 119) (hb hby at_117) rfl rfl rfl ?_
    refine own_iload X40 hx (pc' := 121) (hb hby at_119) rfl rfl ?_
    refine own_callV X40 hx (pc' := 124) hZ hown (Wd36 hw) (Wd38 hw) (Wd39 hw) (Wd40 hw) (Wd7 hw) (by decide) (rm_sum l Z a0 hw [] nb5 su ho p0 hfa sfc A (p0 + (Int32.ofNat A)) T36.heap n0 Z38 hA (own_back p0 (Int32.ofNat A)) G1_36 G2_36 G3_36 G4_36 G5_36) e40 F39 0 (by decide) (by decide) (by decide) (by decide) [(.int (p0 + (Int32.ofNat A)))] [] (by rw [hml]; rfl) (lenOf pd_5 rfl) rfl rfl (Nat.le_of_eq rfl) (hb hby at_121) rfl (fun v42 T42 L42 X42 hQ42 => ?_)
    obtain ⟨hv42, Nq42, e42⟩ := hQ42
    have N43 := Fr.app N41 Nq42
    rw [v3] at hv42
    subst hv42
    show own_G p.tables e below _ T42 (mkF m 124 #[.val (.int p0), .val (.int p1), .val (.int p2), .val (.int p3), .val (.int p4), .val (.int p5), .val (.long ((2147483647 : Int64) - (p0.toInt64))), .second, .val (.int (Int32.ofNat A)), .val (.int (Int32.ofNat A)), .val (.int (p0 + (Int32.ofNat A))), .val (.int (p0 + (Int32.ofNat A))), .val (.ref nb5), .val (.double (FP.dadd (FP.dadd (FP.i2d p3) (FP.i2d p4)) (FP.i2d p5))), .second, .unset, .unset, .unset, .unset, .unset, .unset] [(.double (FP.dadd (FP.dadd (FP.i2d p3) (FP.i2d p4)) (FP.i2d p5)))])
    refine own_dstore X42 hx (pc' := 126) (Ls' := #[.val (.int p0), .val (.int p1), .val (.int p2), .val (.int p3), .val (.int p4), .val (.int p5), .val (.long ((2147483647 : Int64) - (p0.toInt64))), .second, .val (.int (Int32.ofNat A)), .val (.int (Int32.ofNat A)), .val (.int (p0 + (Int32.ofNat A))), .val (.int (p0 + (Int32.ofNat A))), .val (.ref nb5), .val (.double (FP.dadd (FP.dadd (FP.i2d p3) (FP.i2d p4)) (FP.i2d p5))), .second, .val (.double (FP.dadd (FP.dadd (FP.i2d p3) (FP.i2d p4)) (FP.i2d p5))), .second, .unset, .unset, .unset, .unset]) (hb hby at_124) rfl rfl ?_
    refine own_iload X42 hx (pc' := 128) (hb hby at_126) rfl rfl ?_
    refine own_iload X42 hx (pc' := 130) (hb hby at_128) rfl rfl ?_
    refine own_icmpNo X42 hx (pc' := 133) (hb hby at_130) (teq rfl).2 rfl ?_
    refine own_iloadN X42 hx (pc' := 134) (hb hby at_133) rfl rfl ?_
    refine own_i2d X42 hx (pc' := 135) (hb hby at_134) rfl ?_
    refine own_iload X42 hx (pc' := 137) (hb hby at_135) rfl rfl ?_
    refine own_i2d X42 hx (pc' := 138) (hb hby at_137) rfl ?_
    refine own_dadd X42 hx (pc' := 139) (hb hby at_138) (own_nn2 p3 p4) rfl ?_
    refine own_iload X42 hx (pc' := 141) (hb hby at_139) rfl rfl ?_
    refine own_i2d X42 hx (pc' := 142) (hb hby at_141) rfl ?_
    refine own_dadd X42 hx (pc' := 143) (hb hby at_142) (own_nn3 p3 p4 p5) rfl ?_
    refine own_dstore X42 hx (pc' := 145) (Ls' := #[.val (.int p0), .val (.int p1), .val (.int p2), .val (.int p3), .val (.int p4), .val (.int p5), .val (.long ((2147483647 : Int64) - (p0.toInt64))), .second, .val (.int (Int32.ofNat A)), .val (.int (Int32.ofNat A)), .val (.int (p0 + (Int32.ofNat A))), .val (.int (p0 + (Int32.ofNat A))), .val (.ref nb5), .val (.double (FP.dadd (FP.dadd (FP.i2d p3) (FP.i2d p4)) (FP.i2d p5))), .second, .val (.double (FP.dadd (FP.dadd (FP.i2d p3) (FP.i2d p4)) (FP.i2d p5))), .second, .val (.double (FP.dadd (FP.dadd (FP.i2d p3) (FP.i2d p4)) (FP.i2d p5))), .second, .unset, .unset]) (hb hby at_143) rfl rfl ?_
    refine own_dload X42 hx (pc' := 147) (hb hby at_145) rfl rfl ?_
    refine own_dload X42 hx (pc' := 149) (hb hby at_147) rfl rfl ?_
    refine own_dcmp X42 hx (pc' := 150) (0 : Int32) (hb hby at_149) (dcmpV_self (own_nn3 p3 p4 p5) _) rfl ?_
    refine own_ifNo X42 hx (pc' := 153) (hb hby at_150) (teq rfl).2 rfl ?_
    refine own_dload X42 hx (pc' := 155) (hb hby at_153) rfl rfl ?_
    refine own_dload X42 hx (pc' := 157) (hb hby at_155) rfl rfl ?_
    refine own_dcmp X42 hx (pc' := 158) (0 : Int32) (hb hby at_157) (dcmpV_self (own_nn3 p3 p4 p5) _) rfl ?_
    refine own_ifNo X42 hx (pc' := 161) (hb hby at_158) (teq rfl).2 rfl ?_
    refine own_iconst X42 hx (pc' := 162) (1 : Int32) (hb hby at_161) rfl rfl ?_
    refine own_goto X42 hx (pc' := 166) (hb hby at_162) (by decide) (by decide) ?_
    refine own_retN X42 hx hlk hret (by simp) (hb hby at_166) (by decide) (by decide) ?_
    exact ⟨rfl, N43⟩
  · skip
    have hne : ¬ ((Int32.ofNat A) = (Int32.ofNat B)) := by intro q; have q2 := congrArg Int32.toInt q; rw [own_on (by omega), own_on (by omega)] at q2; omega
    refine own_iloadN X3 hx (pc' := 37) (hb hby at_36) rfl rfl ?_
    refine own_iload X3 hx (pc' := 39) (hb hby at_37) rfl rfl ?_
    refine own_iadd X3 hx (pc' := 40) (hb hby at_39) rfl rfl ?_
    refine own_istore X3 hx (pc' := 42) (Ls' := #[.val (.int p0), .val (.int p1), .val (.int p2), .val (.int p3), .val (.int p4), .val (.int p5), .val (.long ((2147483647 : Int64) - (p0.toInt64))), .second, .val (.int (Int32.ofNat A)), .val (.int (Int32.ofNat B)), .val (.int (p0 + (Int32.ofNat A))), .unset, .unset, .unset, .unset, .unset, .unset, .unset, .unset, .unset, .unset]) (hb hby at_40) rfl rfl ?_
    refine own_iloadN X3 hx (pc' := 43) (hb hby at_42) rfl rfl ?_
    refine own_iload X3 hx (pc' := 45) (hb hby at_43) rfl rfl ?_
    refine own_iadd X3 hx (pc' := 46) (hb hby at_45) rfl rfl ?_
    refine own_istore X3 hx (pc' := 48) (Ls' := #[.val (.int p0), .val (.int p1), .val (.int p2), .val (.int p3), .val (.int p4), .val (.int p5), .val (.long ((2147483647 : Int64) - (p0.toInt64))), .second, .val (.int (Int32.ofNat A)), .val (.int (Int32.ofNat B)), .val (.int (p0 + (Int32.ofNat A))), .val (.int (p0 + (Int32.ofNat B))), .unset, .unset, .unset, .unset, .unset, .unset, .unset, .unset, .unset]) (hb hby at_46) rfl rfl ?_
    refine own_new X3 hx (pc' := 51) hZ hown (Wd5 hw) (Wd6 hw) (Wd7 hw) e3 (hb hby at_48) (by decide) (by decide) rfl (fun T44 h44 nb44 g44 X44 e44 E44 A44 D44 => ?_)
    have ge_nb44 : n0 ≤ nb44 := Nat.le_trans Z0 (Nat.le_of_eq g44.symm)
    have Z45 : n0 ≤ h44.size := Nat.le_trans Z0 E44.1
    have F46 : Fld Z h44 nb44 "com/example/mixed_likelihood/mixedlikelihood/search/GainWindow" "sums" "[D" .null := D44 (Or.inr (Wd16 hw)) (ty := (.array .double)) (by decide)
    have F47 : Fld Z h44 nb44 "com/example/mixed_likelihood/mixedlikelihood/search/GainWindow" "holding" "[J" .null := D44 (Or.inr (Wd19 hw)) (ty := (.array .long)) (by decide)
    have F48 : Fld Z h44 nb44 "com/example/mixed_likelihood/mixedlikelihood/search/GainWindow" "start" "I" (.int (0 : Int32)) := D44 (Or.inl (Wd26 hw)) (ty := .int) (by decide)
    refine own_dup X44 hx (pc' := 52) (hb hby at_51) rfl rfl ?_
    refine own_callI X44 hx (pc' := 55) hZ rfl hown (Wd8 hw) (Wd9 hw) (Wd10 hw) (Wd7 hw) (by decide) (rm_init l Z a0 hw [] nb44 h44 n0 Z45 ge_nb44 A44 F46 F47 F48) e44 (b := nb44) 1 (by decide) (by decide) (by decide) (by decide) [] [(.ref nb44)] (by rw [hml]; rfl) (lenOf pd_2 rfl) rfl rfl (Nat.le_of_eq rfl) (hb hby at_52) rfl (fun v49 T49 L49 X49 hQ49 => ?_)
    obtain ⟨rfl, Nq49, K49, su, ho, ⟨g_su, g_ho⟩, ⟨d1, d2, d3⟩, G1_49, G2_49, G3_49, G4_49, G5_49⟩ := hQ49
    have N50 := Fr.app N4 Nq49
    have Z51 : n0 ≤ T49.heap.size := Nat.le_trans Z45 K49.1
    have F52 := (Exa.keep A44 K49)
    show own_G p.tables e below _ T49 (mkF m 55 #[.val (.int p0), .val (.int p1), .val (.int p2), .val (.int p3), .val (.int p4), .val (.int p5), .val (.long ((2147483647 : Int64) - (p0.toInt64))), .second, .val (.int (Int32.ofNat A)), .val (.int (Int32.ofNat B)), .val (.int (p0 + (Int32.ofNat A))), .val (.int (p0 + (Int32.ofNat B))), .unset, .unset, .unset, .unset, .unset, .unset, .unset, .unset, .unset] [(.ref nb44)])
    refine own_astore X49 hx (pc' := 57) (Ls' := #[.val (.int p0), .val (.int p1), .val (.int p2), .val (.int p3), .val (.int p4), .val (.int p5), .val (.long ((2147483647 : Int64) - (p0.toInt64))), .second, .val (.int (Int32.ofNat A)), .val (.int (Int32.ofNat B)), .val (.int (p0 + (Int32.ofNat A))), .val (.int (p0 + (Int32.ofNat B))), .val (.ref nb44), .unset, .unset, .unset, .unset, .unset, .unset, .unset, .unset]) (hb hby at_55) rfl rfl rfl ?_
    refine own_aload X49 hx (pc' := 59) (hb hby at_57) rfl rfl rfl ?_
    refine own_iloadN X49 hx (pc' := 60) (hb hby at_59) rfl rfl ?_
    refine own_callV X49 hx (pc' := 63) hZ hown (Wd20 hw) (Wd22 hw) (Wd23 hw) (Wd24 hw) (Wd7 hw) (by decide) (rm_move l Z a0 hw [] nb44 su ho (0 : Int32) (fun _ => (0 : Int64)) (fun _ => (0 : UInt64)) p0 T49.heap n0 Z51 ge_nb44 g_su g_ho d1 d2 d3 F52 G1_49 G2_49 G3_49 G4_49 G5_49) rfl F52 0 (by decide) (by decide) (by decide) (by decide) [(.int p0)] [] (by rw [hml]; rfl) (lenOf pd_3 rfl) rfl rfl (Nat.le_of_eq rfl) (hb hby at_60) rfl (fun v53 T53 L53 X53 hQ53 => ?_)
    obtain ⟨rfl, Nq53, K53, G1_53, G2_53, G3_53, G4_53, G5_53⟩ := hQ53
    have N54 := Fr.app N50 Nq53
    have Z55 : n0 ≤ T53.heap.size := Nat.le_trans Z51 K53.1
    have F56 := (Exa.keep F52 K53)
    have F57 := (G5_49.keep K53 (ninS (Ne.symm d1) (ninS d3 nin0)))
    show own_G p.tables e below _ T53 (mkF m 63 #[.val (.int p0), .val (.int p1), .val (.int p2), .val (.int p3), .val (.int p4), .val (.int p5), .val (.long ((2147483647 : Int64) - (p0.toInt64))), .second, .val (.int (Int32.ofNat A)), .val (.int (Int32.ofNat B)), .val (.int (p0 + (Int32.ofNat A))), .val (.int (p0 + (Int32.ofNat B))), .val (.ref nb44), .unset, .unset, .unset, .unset, .unset, .unset, .unset, .unset] [])
    refine own_aload X53 hx (pc' := 65) (hb hby at_63) rfl rfl rfl ?_
    refine own_iload X53 hx (pc' := 67) (hb hby at_65) rfl rfl ?_
    refine own_iload X53 hx (pc' := 69) (hb hby at_67) rfl rfl ?_
    refine own_i2d X53 hx (pc' := 70) (hb hby at_69) rfl ?_
    refine own_callV X53 hx (pc' := 73) hZ hown (Wd31 hw) (Wd33 hw) (Wd34 hw) (Wd35 hw) (Wd7 hw) (by decide) (rm_aF l Z a0 hw [] nb44 su ho p0 (fun _ => (0 : Int64)) (fun _ => (0 : UInt64)) A (p0 + (Int32.ofNat A)) (FP.i2d p5) T53.heap n0 Z55 ge_nb44 g_su g_ho d1 d2 d3 F56 hA (own_back p0 (Int32.ofNat A)) (own_z A hA) G1_53 G2_53 G3_53 G4_53 G5_53) rfl F56 0 (by decide) (by decide) (by decide) (by decide) [(.int (p0 + (Int32.ofNat A))), (.double (FP.i2d p5))] [] (by rw [hml]; rfl) (lenOf pd_4 rfl) rfl rfl (Nat.le_of_eq rfl) (hb hby at_70) rfl (fun v58 T58 L58 X58 hQ58 => ?_)
    obtain ⟨rfl, Nq58, K58, G1_58, G2_58, G3_58, G4_58, G5_58⟩ := hQ58
    have N59 := Fr.app N54 Nq58
    have Z60 : n0 ≤ T58.heap.size := Nat.le_trans Z55 K58.1
    have F61 := (Exa.keep F56 K58)
    show own_G p.tables e below _ T58 (mkF m 73 #[.val (.int p0), .val (.int p1), .val (.int p2), .val (.int p3), .val (.int p4), .val (.int p5), .val (.long ((2147483647 : Int64) - (p0.toInt64))), .second, .val (.int (Int32.ofNat A)), .val (.int (Int32.ofNat B)), .val (.int (p0 + (Int32.ofNat A))), .val (.int (p0 + (Int32.ofNat B))), .val (.ref nb44), .unset, .unset, .unset, .unset, .unset, .unset, .unset, .unset] [])
    refine own_aload X58 hx (pc' := 75) (hb hby at_73) rfl rfl rfl ?_
    refine own_iloadN X58 hx (pc' := 76) (hb hby at_75) rfl rfl ?_
    refine own_callV X58 hx (pc' := 79) hZ hown (Wd20 hw) (Wd22 hw) (Wd23 hw) (Wd24 hw) (Wd7 hw) (by decide) (rm_move l Z a0 hw [] nb44 su ho p0 (own_upd (fun _ => (0 : Int64)) (A / 64) ((fun _ => (0 : Int64)) (A / 64) ||| own_bit A)) (own_upd (fun _ => (0 : UInt64)) A (FP.i2d p5)) p0 T58.heap n0 Z60 ge_nb44 g_su g_ho d1 d2 d3 F61 G1_58 G2_58 G3_58 G4_58 G5_58) rfl F61 0 (by decide) (by decide) (by decide) (by decide) [(.int p0)] [] (by rw [hml]; rfl) (lenOf pd_3 rfl) rfl rfl (Nat.le_of_eq rfl) (hb hby at_76) rfl (fun v62 T62 L62 X62 hQ62 => ?_)
    obtain ⟨rfl, Nq62, K62, G1_62, G2_62, G3_62, G4_62, G5_62⟩ := hQ62
    have N63 := Fr.app N59 Nq62
    have Z64 : n0 ≤ T62.heap.size := Nat.le_trans Z60 K62.1
    have F65 := (Exa.keep F61 K62)
    have F66 := (G5_58.keep K62 (ninS (Ne.symm d1) (ninS d3 nin0)))
    show own_G p.tables e below _ T62 (mkF m 79 #[.val (.int p0), .val (.int p1), .val (.int p2), .val (.int p3), .val (.int p4), .val (.int p5), .val (.long ((2147483647 : Int64) - (p0.toInt64))), .second, .val (.int (Int32.ofNat A)), .val (.int (Int32.ofNat B)), .val (.int (p0 + (Int32.ofNat A))), .val (.int (p0 + (Int32.ofNat B))), .val (.ref nb44), .unset, .unset, .unset, .unset, .unset, .unset, .unset, .unset] [])
    refine own_aload X62 hx (pc' := 81) (hb hby at_79) rfl rfl rfl ?_
    refine own_iload X62 hx (pc' := 83) (hb hby at_81) rfl rfl ?_
    refine own_iloadN X62 hx (pc' := 84) (hb hby at_83) rfl rfl ?_
    refine own_i2d X62 hx (pc' := 85) (hb hby at_84) rfl ?_
    refine own_callV X62 hx (pc' := 88) hZ hown (Wd31 hw) (Wd33 hw) (Wd34 hw) (Wd35 hw) (Wd7 hw) (by decide) (rm_aF l Z a0 hw [] nb44 su ho p0 (fun _ => (0 : Int64)) (own_upd (fun _ => (0 : UInt64)) A (FP.i2d p5)) A (p0 + (Int32.ofNat A)) (FP.i2d p3) T62.heap n0 Z64 ge_nb44 g_su g_ho d1 d2 d3 F65 hA (own_back p0 (Int32.ofNat A)) (own_z A hA) G1_62 G2_62 G3_62 G4_62 G5_62) rfl F65 0 (by decide) (by decide) (by decide) (by decide) [(.int (p0 + (Int32.ofNat A))), (.double (FP.i2d p3))] [] (by rw [hml]; rfl) (lenOf pd_4 rfl) rfl rfl (Nat.le_of_eq rfl) (hb hby at_85) rfl (fun v67 T67 L67 X67 hQ67 => ?_)
    obtain ⟨rfl, Nq67, K67, G1_67, G2_67, G3_67, G4_67, G5_67⟩ := hQ67
    have N68 := Fr.app N63 Nq67
    have Z69 : n0 ≤ T67.heap.size := Nat.le_trans Z64 K67.1
    have F70 := (Exa.keep F65 K67)
    obtain ⟨hfa, e_hfa⟩ : ∃ f : Nat → Int64, f = (own_upd (fun _ => (0 : Int64)) (A / 64) ((fun _ => (0 : Int64)) (A / 64) ||| own_bit A)) := ⟨_, rfl⟩
    obtain ⟨sfa, e_sfa⟩ : ∃ f : Nat → UInt64, f = (own_upd (own_upd (fun _ => (0 : UInt64)) A (FP.i2d p5)) A (FP.i2d p3)) := ⟨_, rfl⟩
    rw [← e_hfa] at G4_67
    rw [← e_sfa] at G5_67
    show own_G p.tables e below _ T67 (mkF m 88 #[.val (.int p0), .val (.int p1), .val (.int p2), .val (.int p3), .val (.int p4), .val (.int p5), .val (.long ((2147483647 : Int64) - (p0.toInt64))), .second, .val (.int (Int32.ofNat A)), .val (.int (Int32.ofNat B)), .val (.int (p0 + (Int32.ofNat A))), .val (.int (p0 + (Int32.ofNat B))), .val (.ref nb44), .unset, .unset, .unset, .unset, .unset, .unset, .unset, .unset] [])
    have v1 : sfa A = FP.i2d p3 := by rw [e_sfa]; exact own_upd_same _ _ _
    have w1 : hfa (A / 64) = (0 : Int64) ||| own_bit A := by rw [e_hfa]; exact own_upd_same _ _ _
    have w2 : ∀ q, q ≠ A / 64 → hfa q = 0 := fun q hq => by rw [e_hfa]; exact own_upd_other _ _ hq
    refine own_aload X67 hx (pc' := 90) (hb hby at_88) rfl rfl rfl ?_
    refine own_iload X67 hx (pc' := 92) (hb hby at_90) rfl rfl ?_
    refine own_iload X67 hx (pc' := 94) (hb hby at_92) rfl rfl ?_
    refine own_i2d X67 hx (pc' := 95) (hb hby at_94) rfl ?_
    refine own_callV X67 hx (pc' := 98) hZ hown (Wd31 hw) (Wd33 hw) (Wd34 hw) (Wd35 hw) (Wd7 hw) (by decide) (rm_aF l Z a0 hw [] nb44 su ho p0 hfa sfa B (p0 + (Int32.ofNat B)) (FP.i2d p4) T67.heap n0 Z69 ge_nb44 g_su g_ho d1 d2 d3 F70 hB (own_back p0 (Int32.ofNat B)) (own_clear hA hB hAB w1 w2) G1_67 G2_67 G3_67 G4_67 G5_67) rfl F70 0 (by decide) (by decide) (by decide) (by decide) [(.int (p0 + (Int32.ofNat B))), (.double (FP.i2d p4))] [] (by rw [hml]; rfl) (lenOf pd_4 rfl) rfl rfl (Nat.le_of_eq rfl) (hb hby at_95) rfl (fun v71 T71 L71 X71 hQ71 => ?_)
    obtain ⟨rfl, Nq71, K71, G1_71, G2_71, G3_71, G4_71, G5_71⟩ := hQ71
    have N72 := Fr.app N68 Nq71
    have Z73 : n0 ≤ T71.heap.size := Nat.le_trans Z69 K71.1
    have F74 := (Exa.keep F70 K71)
    obtain ⟨hfb, e_hfb⟩ : ∃ f : Nat → Int64, f = (own_upd hfa (B / 64) (hfa (B / 64) ||| own_bit B)) := ⟨_, rfl⟩
    obtain ⟨sfb, e_sfb⟩ : ∃ f : Nat → UInt64, f = (own_upd sfa B (FP.i2d p4)) := ⟨_, rfl⟩
    rw [← e_hfb] at G4_71
    rw [← e_sfb] at G5_71
    show own_G p.tables e below _ T71 (mkF m 98 #[.val (.int p0), .val (.int p1), .val (.int p2), .val (.int p3), .val (.int p4), .val (.int p5), .val (.long ((2147483647 : Int64) - (p0.toInt64))), .second, .val (.int (Int32.ofNat A)), .val (.int (Int32.ofNat B)), .val (.int (p0 + (Int32.ofNat A))), .val (.int (p0 + (Int32.ofNat B))), .val (.ref nb44), .unset, .unset, .unset, .unset, .unset, .unset, .unset, .unset] [])
    have v2 : sfb A = FP.i2d p3 := by rw [e_sfb, own_upd_other _ _ hAB, v1]
    have v2b : sfb B = FP.i2d p4 := by rw [e_sfb, own_upd_same]
    refine own_aload X71 hx (pc' := 100) (hb hby at_98) rfl rfl rfl ?_
    refine own_iload X71 hx (pc' := 102) (hb hby at_100) rfl rfl ?_
    refine own_iload X71 hx (pc' := 104) (hb hby at_102) rfl rfl ?_
    refine own_i2d X71 hx (pc' := 105) (hb hby at_104) rfl ?_
    refine own_callV X71 hx (pc' := 108) hZ hown (Wd31 hw) (Wd33 hw) (Wd34 hw) (Wd35 hw) (Wd7 hw) (by decide) (rm_aH l Z a0 hw [] nb44 su ho p0 hfb sfb A (p0 + (Int32.ofNat A)) (FP.i2d p5) T71.heap n0 Z73 ge_nb44 g_su g_ho d1 d2 d3 F74 hA (own_back p0 (Int32.ofNat A)) (by rw [e_hfb]; exact own_held2 hA hB w1) (by rw [v2]; exact own_nn2 p3 p5) G1_71 G2_71 G3_71 G4_71 G5_71) rfl F74 0 (by decide) (by decide) (by decide) (by decide) [(.int (p0 + (Int32.ofNat A))), (.double (FP.i2d p5))] [] (by rw [hml]; rfl) (lenOf pd_4 rfl) rfl rfl (Nat.le_of_eq rfl) (hb hby at_105) rfl (fun v75 T75 L75 X75 hQ75 => ?_)
    obtain ⟨rfl, Nq75, K75, G1_75, G2_75, G3_75, G4_75, G5_75⟩ := hQ75
    have N76 := Fr.app N72 Nq75
    have Z77 : n0 ≤ T75.heap.size := Nat.le_trans Z73 K75.1
    have F78 := (Exa.keep F74 K75)
    obtain ⟨hfc, e_hfc⟩ : ∃ f : Nat → Int64, f = hfb := ⟨_, rfl⟩
    obtain ⟨sfc, e_sfc⟩ : ∃ f : Nat → UInt64, f = (own_upd sfb A (FP.dadd (sfb A) (FP.i2d p5))) := ⟨_, rfl⟩
    have G4_75' := G4_75
    rw [← e_sfc] at G5_75
    show own_G p.tables e below _ T75 (mkF m 108 #[.val (.int p0), .val (.int p1), .val (.int p2), .val (.int p3), .val (.int p4), .val (.int p5), .val (.long ((2147483647 : Int64) - (p0.toInt64))), .second, .val (.int (Int32.ofNat A)), .val (.int (Int32.ofNat B)), .val (.int (p0 + (Int32.ofNat A))), .val (.int (p0 + (Int32.ofNat B))), .val (.ref nb44), .unset, .unset, .unset, .unset, .unset, .unset, .unset, .unset] [])
    have v3 : sfc A = FP.dadd (FP.i2d p3) (FP.i2d p5) := by rw [e_sfc, own_upd_same, v2]
    have v3b : sfc B = FP.i2d p4 := by rw [e_sfc, own_upd_other _ _ (Ne.symm hAB), v2b]
    refine own_aload X75 hx (pc' := 110) (hb hby at_108) rfl rfl rfl ?_
    refine own_iload X75 hx (pc' := 112) (hb hby at_110) rfl rfl ?_
    refine own_callV X75 hx (pc' := 115) hZ hown (Wd36 hw) (Wd38 hw) (Wd39 hw) (Wd40 hw) (Wd7 hw) (by decide) (rm_sum l Z a0 hw [] nb44 su ho p0 hfb sfc A (p0 + (Int32.ofNat A)) T75.heap n0 Z77 hA (own_back p0 (Int32.ofNat A)) G1_75 G2_75 G3_75 G4_75 G5_75) rfl F78 0 (by decide) (by decide) (by decide) (by decide) [(.int (p0 + (Int32.ofNat A)))] [] (by rw [hml]; rfl) (lenOf pd_5 rfl) rfl rfl (Nat.le_of_eq rfl) (hb hby at_112) rfl (fun v79 T79 L79 X79 hQ79 => ?_)
    obtain ⟨hv79, Nq79, e79⟩ := hQ79
    have N80 := Fr.app N76 Nq79
    rw [v3] at hv79
    subst hv79
    show own_G p.tables e below _ T79 (mkF m 115 #[.val (.int p0), .val (.int p1), .val (.int p2), .val (.int p3), .val (.int p4), .val (.int p5), .val (.long ((2147483647 : Int64) - (p0.toInt64))), .second, .val (.int (Int32.ofNat A)), .val (.int (Int32.ofNat B)), .val (.int (p0 + (Int32.ofNat A))), .val (.int (p0 + (Int32.ofNat B))), .val (.ref nb44), .unset, .unset, .unset, .unset, .unset, .unset, .unset, .unset] [(.double (FP.dadd (FP.i2d p3) (FP.i2d p5)))])
    refine own_dstore X79 hx (pc' := 117) (Ls' := #[.val (.int p0), .val (.int p1), .val (.int p2), .val (.int p3), .val (.int p4), .val (.int p5), .val (.long ((2147483647 : Int64) - (p0.toInt64))), .second, .val (.int (Int32.ofNat A)), .val (.int (Int32.ofNat B)), .val (.int (p0 + (Int32.ofNat A))), .val (.int (p0 + (Int32.ofNat B))), .val (.ref nb44), .val (.double (FP.dadd (FP.i2d p3) (FP.i2d p5))), .second, .unset, .unset, .unset, .unset, .unset, .unset]) (hb hby at_115) rfl rfl ?_
    refine own_aload X79 hx (pc' := 119) (hb hby at_117) rfl rfl rfl ?_
    refine own_iload X79 hx (pc' := 121) (hb hby at_119) rfl rfl ?_
    refine own_callV X79 hx (pc' := 124) hZ hown (Wd36 hw) (Wd38 hw) (Wd39 hw) (Wd40 hw) (Wd7 hw) (by decide) (rm_sum l Z a0 hw [] nb44 su ho p0 hfb sfc B (p0 + (Int32.ofNat B)) T75.heap n0 Z77 hB (own_back p0 (Int32.ofNat B)) G1_75 G2_75 G3_75 G4_75 G5_75) e79 F78 0 (by decide) (by decide) (by decide) (by decide) [(.int (p0 + (Int32.ofNat B)))] [] (by rw [hml]; rfl) (lenOf pd_5 rfl) rfl rfl (Nat.le_of_eq rfl) (hb hby at_121) rfl (fun v81 T81 L81 X81 hQ81 => ?_)
    obtain ⟨hv81, Nq81, e81⟩ := hQ81
    have N82 := Fr.app N80 Nq81
    rw [v3b] at hv81
    subst hv81
    show own_G p.tables e below _ T81 (mkF m 124 #[.val (.int p0), .val (.int p1), .val (.int p2), .val (.int p3), .val (.int p4), .val (.int p5), .val (.long ((2147483647 : Int64) - (p0.toInt64))), .second, .val (.int (Int32.ofNat A)), .val (.int (Int32.ofNat B)), .val (.int (p0 + (Int32.ofNat A))), .val (.int (p0 + (Int32.ofNat B))), .val (.ref nb44), .val (.double (FP.dadd (FP.i2d p3) (FP.i2d p5))), .second, .unset, .unset, .unset, .unset, .unset, .unset] [(.double (FP.i2d p4))])
    refine own_dstore X81 hx (pc' := 126) (Ls' := #[.val (.int p0), .val (.int p1), .val (.int p2), .val (.int p3), .val (.int p4), .val (.int p5), .val (.long ((2147483647 : Int64) - (p0.toInt64))), .second, .val (.int (Int32.ofNat A)), .val (.int (Int32.ofNat B)), .val (.int (p0 + (Int32.ofNat A))), .val (.int (p0 + (Int32.ofNat B))), .val (.ref nb44), .val (.double (FP.dadd (FP.i2d p3) (FP.i2d p5))), .second, .val (.double (FP.i2d p4)), .second, .unset, .unset, .unset, .unset]) (hb hby at_124) rfl rfl ?_
    refine own_iload X81 hx (pc' := 128) (hb hby at_126) rfl rfl ?_
    refine own_iload X81 hx (pc' := 130) (hb hby at_128) rfl rfl ?_
    refine own_icmpYes X81 hx (pc' := 167) (hb hby at_130) (feq hne).2 (by decide) (by decide) ?_
    refine own_iloadN X81 hx (pc' := 168) (hb hby at_167) rfl rfl ?_
    refine own_i2d X81 hx (pc' := 169) (hb hby at_168) rfl ?_
    refine own_iload X81 hx (pc' := 171) (hb hby at_169) rfl rfl ?_
    refine own_i2d X81 hx (pc' := 172) (hb hby at_171) rfl ?_
    refine own_dadd X81 hx (pc' := 173) (hb hby at_172) (own_nn2 p3 p5) rfl ?_
    refine own_dstore X81 hx (pc' := 175) (Ls' := #[.val (.int p0), .val (.int p1), .val (.int p2), .val (.int p3), .val (.int p4), .val (.int p5), .val (.long ((2147483647 : Int64) - (p0.toInt64))), .second, .val (.int (Int32.ofNat A)), .val (.int (Int32.ofNat B)), .val (.int (p0 + (Int32.ofNat A))), .val (.int (p0 + (Int32.ofNat B))), .val (.ref nb44), .val (.double (FP.dadd (FP.i2d p3) (FP.i2d p5))), .second, .val (.double (FP.i2d p4)), .second, .val (.double (FP.dadd (FP.i2d p3) (FP.i2d p5))), .second, .unset, .unset]) (hb hby at_173) rfl rfl ?_
    refine own_iload X81 hx (pc' := 177) (hb hby at_175) rfl rfl ?_
    refine own_i2d X81 hx (pc' := 178) (hb hby at_177) rfl ?_
    refine own_dstore X81 hx (pc' := 180) (Ls' := #[.val (.int p0), .val (.int p1), .val (.int p2), .val (.int p3), .val (.int p4), .val (.int p5), .val (.long ((2147483647 : Int64) - (p0.toInt64))), .second, .val (.int (Int32.ofNat A)), .val (.int (Int32.ofNat B)), .val (.int (p0 + (Int32.ofNat A))), .val (.int (p0 + (Int32.ofNat B))), .val (.ref nb44), .val (.double (FP.dadd (FP.i2d p3) (FP.i2d p5))), .second, .val (.double (FP.i2d p4)), .second, .val (.double (FP.dadd (FP.i2d p3) (FP.i2d p5))), .second, .val (.double (FP.i2d p4)), .second]) (hb hby at_178) rfl rfl ?_
    refine own_dload X81 hx (pc' := 182) (hb hby at_180) rfl rfl ?_
    refine own_dload X81 hx (pc' := 184) (hb hby at_182) rfl rfl ?_
    refine own_dcmp X81 hx (pc' := 185) (0 : Int32) (hb hby at_184) (dcmpV_self (own_nn2 p3 p5) _) rfl ?_
    refine own_ifNo X81 hx (pc' := 188) (hb hby at_185) (teq rfl).2 rfl ?_
    refine own_dload X81 hx (pc' := 190) (hb hby at_188) rfl rfl ?_
    refine own_dload X81 hx (pc' := 192) (hb hby at_190) rfl rfl ?_
    refine own_dcmp X81 hx (pc' := 193) (0 : Int32) (hb hby at_192) (dcmpV_self (own_nn1 p4) _) rfl ?_
    refine own_ifNo X81 hx (pc' := 196) (hb hby at_193) (teq rfl).2 rfl ?_
    refine own_iconst X81 hx (pc' := 197) (1 : Int32) (hb hby at_196) rfl rfl ?_
    refine own_goto X81 hx (pc' := 201) (hb hby at_197) (by decide) (by decide) ?_
    refine own_retN X81 hx hlk hret (by simp) (hb hby at_201) (by decide) (by decide) ?_
    exact ⟨rfl, N82⟩

set_option maxRecDepth 65536 in
set_option maxHeartbeats 40000000 in
theorem comes_1 {Post : Tables → Env → Array Value → State → Outcome → State → Prop} (hpost : ∀ tb e args s v u, (limb_1_1.after args s (.returned v) u = true ∧ limb_1_2.after args s (.returned v) u = true ∧ True) → FrameEnd s (.returned v) u (Jvm.fieldLocs frame_1_writes args s ++ Jvm.arrayLocs frame_1_arrays args s ++ Jvm.staticLocs frame_1_statics s) 16 8448 → Post tb e args s (.returned v) u) :
    ArmFor flags0 classFile x code maxLocals ret World_1 tables_1 room_1 Calls_1 rest_1 Pre_1 Post := by
  intro l hfl _ _ p e ha hc hk s m args below hf hA hF happ hP
  obtain ⟨hcalls, hrest, hpre⟩ := hP
  obtain ⟨-, -, -, hnamed, -, -, -, hat⟩ := (Spec.applies_iff hf).mp happ
  obtain ⟨hg, hn⟩ := and_e (Cond.before_iff.mp (show (Jvm.Cond.and given_1 narrow_1).before args s = true from hpre))
  obtain ⟨hcnt, hg0⟩ := and_e hg
  obtain ⟨ha0, hg1⟩ := and_e hg0
  obtain ⟨ha1, hg2⟩ := and_e hg1
  obtain ⟨ha2, hg3⟩ := and_e hg2
  obtain ⟨ha3, hg4⟩ := and_e hg3
  obtain ⟨ha4, hg5⟩ := and_e hg4
  obtain ⟨w0, w1, w2, w3, w4, w5, rfl⟩ : ∃ w0 w1 w2 w3 w4 w5 : Value, args = #[w0, w1, w2, w3, w4, w5] := by
    have hs : args.size = 6 := by simpa [Cond.value, given_1] using hcnt
    obtain ⟨L⟩ := args
    match L, hs with
    | [w0, w1, w2, w3, w4, w5], _ => exact ⟨w0, w1, w2, w3, w4, w5, rfl⟩
  have hw := fun d (hd : d ∈ tables_1) => atoms_spec (ws := Jvm.Cond.code x code maxLocals ret :: tables_1) hat d (List.mem_cons_of_mem _ hd)
  have hfit : Fit s := fun {y c} hc i hi => by
    obtain ⟨ha, rfl⟩ := Array.getElem?_eq_some_iff.mp hc
    have q := List.all_eq_true.mp ((Array.all_eq_true_iff_forall_mem.mp hF) _ (Array.getElem_mem ha)) i (List.mem_range.mpr hi)
    simpa [Array.getElem?_eq_getElem hi] using q
  obtain ⟨i0, ei0⟩ := is_v ha0
  obtain rfl : w0 = (.int i0) := Option.some.inj ei0
  obtain ⟨i1, ei1⟩ := is_v ha1
  obtain rfl : w1 = (.int i1) := Option.some.inj ei1
  obtain ⟨i2, ei2⟩ := is_v ha2
  obtain rfl : w2 = (.int i2) := Option.some.inj ei2
  obtain ⟨i3, ei3⟩ := is_v ha3
  obtain rfl : w3 = (.int i3) := Option.some.inj ei3
  obtain ⟨i4, ei4⟩ := is_v ha4
  obtain rfl : w4 = (.int i4) := Option.some.inj ei4
  obtain ⟨i5, ei5⟩ := is_v hg5
  obtain rfl : w5 = (.int i5) := Option.some.inj ei5
  obtain ⟨n, o, h1, h2, h3, _, L, rfl, ⟨rfl, N⟩, hq⟩ := rm0 l s _ hw tables_1 i0 i1 i2 i3 i4 i5  s.heap s.heap.size (Nat.le_refl _)  p e ha hc hk s m _ below hf ((Spec.applies_iff_loose hf).mp happ).1 ⟨rfl, State.Warmed39.refl s, rfl⟩ trivial
  refine ⟨n, _, h1, h2, h3, hpost _ _ _ _ _ _ ⟨Cond.after_iff.mpr rfl, Cond.after_iff.mpr (eq_i res_at (Term.int_eval (1)) rfl), trivial⟩ ⟨hq.1, hq.2.1, (hq.2.2.sift fun y hy => Or.inr (N y hy)).mono (by decide) (by decide)⟩⟩
theorem main_1_1 : Claimed_1_1 := comes_1 fun _ _ _ _ _ _ h hF => ⟨h.1, hF⟩
theorem main_1_2 : Claimed_1_2 := comes_1 fun _ _ _ _ _ _ h hF => ⟨h.2.1, hF⟩
end Jvm.Pilot.@@N@@
namespace Jvm.Pilot.@@N@@
open Jvm Jvm.ClassFile Sem Op Lib Jvm.Free Jvm.Stand Jvm.Pilot.@@N@@.Jvm.D
/-! MADE BY PROGRAM (witnessworld.py) out of the Statement's table words and the real class files: 13 classes; the members and pool entries that the words name. The judged class is class 1, her method 1. -/
namespace start1
open Jvm.ClassFile
def u (s : String) : CpInfo := .utf8 (stringToUtf16 s)
/-- a pool by its gaps: so many unusable entries, then the entry; so many at the end -/
def gap : Nat → List CpInfo → List CpInfo
  | 0, r => r
  | n + 1, r => .unusable :: gap n r
def poolList (es : List (Nat × CpInfo)) (last : Nat) : List CpInfo := es.foldr (fun e r => gap e.1 (e.2 :: r)) (gap last [])
def pool (es : List (Nat × CpInfo)) (last : Nat) : Array CpInfo := ⟨poolList es last⟩
def fileOf (pool : Array CpInfo) (this : Nat) (attrs : Array Attribute := #[]) (ms : Array MethodInfo := #[]) (fl : Nat := 33) (sup : Nat := 0) (ifs : Array Nat := #[]) (fds : Array FieldInfo := #[]) : ClassFile where
  minorVersion := 0
  majorVersion := 65
  constantPool := pool
  accessFlags := fl
  thisClass := this
  superClass := sup
  interfaces := ifs
  fields := fds
  methods := ms
  attributes := attrs
def plain (name : String) (sup : Option ClassId) : Class where
  name := name
  kind := .ordinary
  loader := none
  accessFlags := 33
  super := sup
  interfaces := #[]
  cf := none
  fields := #[]
  methods := #[]
  instanceTypes := #[]
  staticTypes := #[]
  resolved := #[]
  callSites := []
  init := .initialized
  statics := none
  mirror := none

def pool0 : Array CpInfo := pool [(5, u "<init>"), (0, u "()V"), (1, .class_ 10), (1, u "java/lang/Object")] 113

def k0c0 : Code := { maxStack := 0, maxLocals := 1, code := object_method_1_code, exceptionTable := #[], attributes := #[] }
def k0m0 : Method := { name := "<init>", desc := "()V", sig := { parameters := [], returnType := none }, accessFlags := 1, code := some k0c0 }
/-- java/lang/Object -/
def k0 : Class := { plain "java/lang/Object" none with
  accessFlags := 33
  interfaces := #[]
  cf := some (fileOf pool0 8 #[] #[{ accessFlags := 1, nameIndex := 5, descriptorIndex := 6, attributes := #[] }] 33 0 #[] #[])
  fields := #[]
  methods := #[k0m0]
  instanceTypes := #[]
  staticTypes := #[]
  resolved := Array.replicate 124 none
  statics := none }

def pool1 : Array CpInfo := pool [(2, .class_ 4), (0, .nameAndType 5 6), (0, u "java/lang/Object"), (0, u "<init>"), (0, u "()V"), (2, .long 2147483647), (1, .methodref 12 13), (0, .class_ 14), (0, .nameAndType 15 16), (0, u "java/lang/Math"), (0, u "min"), (0, u "(JJ)J"), (0, .class_ 18), (0, u "com/example/mixed_likelihood/mixedlikelihood/search/GainWindow"), (0, .methodref 17 3), (0, .methodref 17 21), (0, .nameAndType 22 23), (0, u "moveTo"), (0, u "(I)V"), (0, .methodref 17 25), (0, .nameAndType 26 27), (0, u "add"), (0, u "(ID)V"), (0, .methodref 17 29), (0, .nameAndType 30 31), (0, u "sum"), (0, u "(I)D"), (0, .class_ 33), (0, u "com/example/mixed_likelihood/mixedlikelihood/search/GainWindowSumPinLaw"), (2, u "law"), (0, u "(IIIIII)Z")] 3

def k1m0 : Method := { name := "<init>", desc := "()V", sig := { parameters := [], returnType := none }, accessFlags := 1, code := none }
def k1c1 : Code := { maxStack := 4, maxLocals := 21, code := code, exceptionTable := #[], attributes := #[] }
def k1m1 : Method := { name := "law", desc := "(IIIIII)Z", sig := { parameters := [.int, .int, .int, .int, .int, .int], returnType := some .boolean }, accessFlags := 9, code := some k1c1 }
/-- com/example/mixed_likelihood/mixedlikelihood/search/GainWindowSumPinLaw -/
def k1 : Class := { plain "com/example/mixed_likelihood/mixedlikelihood/search/GainWindowSumPinLaw" (some 0) with
  accessFlags := 49
  interfaces := #[]
  cf := some (fileOf pool1 32 #[] #[{ accessFlags := 1, nameIndex := 5, descriptorIndex := 6, attributes := #[] }, { accessFlags := 9, nameIndex := 36, descriptorIndex := 37, attributes := #[] }] 49 2 #[] #[])
  fields := #[]
  methods := #[k1m0, k1m1]
  instanceTypes := #[]
  staticTypes := #[]
  resolved := Array.replicate 41 none
  statics := none }

def pool2 : Array CpInfo := pool [(1, .class_ 2), (0, u "java/lang/Math"), (1, .class_ 6), (1, u "java/lang/Object"), (0, u "<init>"), (0, u "()V"), (89, .class_ 100), (1, u "java/lang/Math$RandomNumberGeneratorHolder"), (20, u "(JJ)J"), (50, u "negativeZeroFloatBits"), (0, u "J"), (2, u "negativeZeroDoubleBits"), (24, u "min"), (43, u "$assertionsDisabled"), (0, u "Z"), (91, u "twoToTheDoubleScaleDown"), (0, u "D"), (4, u "twoToTheDoubleScaleUp"), (9, u "E"), (3, u "PI"), (2, u "TAU"), (2, u "DEGREES_TO_RADIANS"), (0, u "RADIANS_TO_DEGREES")] 94

def k2m0 : Method := { name := "<init>", desc := "()V", sig := { parameters := [], returnType := none }, accessFlags := 2, code := none }
def k2c1 : Code := { maxStack := 4, maxLocals := 4, code := jdk_29_method_70_code, exceptionTable := #[], attributes := #[] }
def k2m1 : Method := { name := "min", desc := "(JJ)J", sig := { parameters := [.long, .long], returnType := some .long }, accessFlags := 9, code := some k2c1 }
/-- java/lang/Math -/
def k2 : Class := { plain "java/lang/Math" (some 0) with
  accessFlags := 49
  interfaces := #[]
  cf := some (fileOf pool2 1 #[.nestMembers #[98]] #[{ accessFlags := 2, nameIndex := 7, descriptorIndex := 8, attributes := #[] }, { accessFlags := 9, nameIndex := 201, descriptorIndex := 121, attributes := #[] }] 49 4 #[] #[{ accessFlags := 25, nameIndex := 354, descriptorIndex := 339, attributes := #[] }, { accessFlags := 25, nameIndex := 358, descriptorIndex := 339, attributes := #[] }, { accessFlags := 25, nameIndex := 361, descriptorIndex := 339, attributes := #[] }, { accessFlags := 26, nameIndex := 364, descriptorIndex := 339, attributes := #[] }, { accessFlags := 26, nameIndex := 365, descriptorIndex := 339, attributes := #[] }, { accessFlags := 26, nameIndex := 172, descriptorIndex := 173, attributes := #[] }, { accessFlags := 26, nameIndex := 176, descriptorIndex := 173, attributes := #[] }, { accessFlags := 8, nameIndex := 344, descriptorIndex := 339, attributes := #[] }, { accessFlags := 8, nameIndex := 338, descriptorIndex := 339, attributes := #[] }, { accessFlags := 4120, nameIndex := 245, descriptorIndex := 246, attributes := #[] }])
  fields := #[{ name := "E", type := .double, accessFlags := 25, slot := 0, constantValue := 0 }, { name := "PI", type := .double, accessFlags := 25, slot := 1, constantValue := 0 }, { name := "TAU", type := .double, accessFlags := 25, slot := 2, constantValue := 0 }, { name := "DEGREES_TO_RADIANS", type := .double, accessFlags := 26, slot := 3, constantValue := 0 }, { name := "RADIANS_TO_DEGREES", type := .double, accessFlags := 26, slot := 4, constantValue := 0 }, { name := "negativeZeroFloatBits", type := .long, accessFlags := 26, slot := 5, constantValue := 0 }, { name := "negativeZeroDoubleBits", type := .long, accessFlags := 26, slot := 6, constantValue := 0 }, { name := "twoToTheDoubleScaleUp", type := .double, accessFlags := 8, slot := 7, constantValue := 0 }, { name := "twoToTheDoubleScaleDown", type := .double, accessFlags := 8, slot := 8, constantValue := 0 }, { name := "$assertionsDisabled", type := .boolean, accessFlags := 4120, slot := 9, constantValue := 0 }]
  methods := #[k2m0, k2m1]
  instanceTypes := #[]
  staticTypes := #[.double, .double, .double, .double, .double, .long, .long, .double, .double, .boolean]
  resolved := Array.replicate 460 none
  statics := none }

def pool3 : Array CpInfo := pool [(1, .methodref 2 3), (0, .class_ 4), (0, .nameAndType 5 6), (0, u "java/lang/Object"), (0, u "<init>"), (0, u "()V"), (0, .class_ 8), (0, u "com/example/mixed_likelihood/mixedlikelihood/search/GainWindow"), (0, .fieldref 7 10), (0, .nameAndType 11 12), (0, u "sums"), (0, u "[D"), (2, .fieldref 7 16), (0, .nameAndType 17 18), (0, u "holding"), (0, u "[J"), (0, .fieldref 7 20), (0, .nameAndType 21 22), (0, u "start"), (0, u "I"), (0, .methodref 24 25), (0, .class_ 26), (0, .nameAndType 27 28), (0, u "java/util/Arrays"), (0, u "fill"), (0, u "([JJ)V"), (18, u "SIZE"), (4, u "moveTo"), (0, u "(I)V"), (2, u "add"), (0, u "(ID)V"), (3, u "sum"), (0, u "(I)D")] 2

def k3c0 : Code := { maxStack := 2, maxLocals := 1, code := prog_49_method_1_code, exceptionTable := #[], attributes := #[] }
def k3m0 : Method := { name := "<init>", desc := "()V", sig := { parameters := [], returnType := none }, accessFlags := 0, code := some k3c0 }
def k3c1 : Code := { maxStack := 3, maxLocals := 2, code := prog_49_method_2_code, exceptionTable := #[], attributes := #[] }
def k3m1 : Method := { name := "moveTo", desc := "(I)V", sig := { parameters := [.int], returnType := none }, accessFlags := 0, code := some k3c1 }
def k3c2 : Code := { maxStack := 6, maxLocals := 8, code := prog_49_method_5_code, exceptionTable := #[], attributes := #[] }
def k3m2 : Method := { name := "add", desc := "(ID)V", sig := { parameters := [.int, .double], returnType := none }, accessFlags := 0, code := some k3c2 }
def k3c3 : Code := { maxStack := 3, maxLocals := 2, code := prog_49_method_7_code, exceptionTable := #[], attributes := #[] }
def k3m3 : Method := { name := "sum", desc := "(I)D", sig := { parameters := [.int], returnType := some .double }, accessFlags := 0, code := some k3c3 }
/-- com/example/mixed_likelihood/mixedlikelihood/search/GainWindow -/
def k3 : Class := { plain "com/example/mixed_likelihood/mixedlikelihood/search/GainWindow" (some 0) with
  accessFlags := 48
  interfaces := #[]
  cf := some (fileOf pool3 7 #[] #[{ accessFlags := 0, nameIndex := 5, descriptorIndex := 6, attributes := #[] }, { accessFlags := 0, nameIndex := 52, descriptorIndex := 53, attributes := #[] }, { accessFlags := 0, nameIndex := 56, descriptorIndex := 57, attributes := #[] }, { accessFlags := 0, nameIndex := 61, descriptorIndex := 62, attributes := #[] }] 48 2 #[] #[{ accessFlags := 24, nameIndex := 47, descriptorIndex := 22, attributes := #[] }, { accessFlags := 18, nameIndex := 11, descriptorIndex := 12, attributes := #[] }, { accessFlags := 18, nameIndex := 17, descriptorIndex := 18, attributes := #[] }, { accessFlags := 2, nameIndex := 21, descriptorIndex := 22, attributes := #[] }])
  fields := #[{ name := "SIZE", type := .int, accessFlags := 24, slot := 0, constantValue := 0 }, { name := "sums", type := (.array .double), accessFlags := 18, slot := 0, constantValue := 0 }, { name := "holding", type := (.array .long), accessFlags := 18, slot := 1, constantValue := 0 }, { name := "start", type := .int, accessFlags := 2, slot := 2, constantValue := 0 }]
  methods := #[k3m0, k3m1, k3m2, k3m3]
  instanceTypes := #[(.array .double), (.array .long), .int]
  staticTypes := #[.int]
  resolved := Array.replicate 65 none
  statics := none }

def pool4 : Array CpInfo := pool [(2, .class_ 4), (1, u "java/lang/Object"), (0, u "<init>"), (0, u "()V"), (7, .class_ 16), (1, u "java/util/Arrays"), (57, .class_ 76), (1, u "java/util/Arrays$NaturalOrder"), (36, .class_ 115), (1, u "java/util/Arrays$LegacyMergeSort"), (1, u "Z"), (257, .class_ 376), (0, u "java/util/Arrays$ArrayList"), (68, u "$assertionsDisabled"), (269, u "MIN_ARRAY_SORT_GRAN"), (0, u "I"), (2, u "INSERTIONSORT_THRESHOLD"), (120, u "fill"), (0, u "([JJ)V"), (133, .class_ 976), (0, u "java/util/Arrays$ArrayItr")] 52

def k4m0 : Method := { name := "<init>", desc := "()V", sig := { parameters := [], returnType := none }, accessFlags := 2, code := none }
def k4c1 : Code := { maxStack := 4, maxLocals := 5, code := jdk_65_method_101_code, exceptionTable := #[], attributes := #[] }
def k4m1 : Method := { name := "fill", desc := "([JJ)V", sig := { parameters := [(.array .long), .long], returnType := none }, accessFlags := 9, code := some k4c1 }
/-- java/util/Arrays -/
def k4 : Class := { plain "java/util/Arrays" (some 0) with
  accessFlags := 49
  interfaces := #[]
  cf := some (fileOf pool4 14 #[.nestMembers #[975, 375, 113, 74]] #[{ accessFlags := 2, nameIndex := 5, descriptorIndex := 6, attributes := #[] }, { accessFlags := 9, nameIndex := 840, descriptorIndex := 841, attributes := #[] }] 49 2 #[] #[{ accessFlags := 26, nameIndex := 715, descriptorIndex := 716, attributes := #[] }, { accessFlags := 26, nameIndex := 719, descriptorIndex := 716, attributes := #[] }, { accessFlags := 4120, nameIndex := 445, descriptorIndex := 117, attributes := #[] }])
  fields := #[{ name := "MIN_ARRAY_SORT_GRAN", type := .int, accessFlags := 26, slot := 0, constantValue := 0 }, { name := "INSERTIONSORT_THRESHOLD", type := .int, accessFlags := 26, slot := 1, constantValue := 0 }, { name := "$assertionsDisabled", type := .boolean, accessFlags := 4120, slot := 2, constantValue := 0 }]
  methods := #[k4m0, k4m1]
  instanceTypes := #[]
  staticTypes := #[.int, .int, .boolean]
  resolved := Array.replicate 1029 none
  statics := none }

def pool5 : Array CpInfo := pool [(1, u "java/lang/Cloneable"), (0, .class_ 1), (0, u "java/lang/Object"), (0, .class_ 3)] 3

/-- java/lang/Cloneable -/
def k5 : Class := { plain "java/lang/Cloneable" (some 0) with
  accessFlags := 1537
  interfaces := #[]
  cf := some (fileOf pool5 2 #[] #[] 1537 4 #[] #[])
  fields := #[]
  methods := #[]
  instanceTypes := #[]
  staticTypes := #[]
  resolved := Array.replicate 8 none
  statics := none }

def pool6 : Array CpInfo := pool [(1, u "java/io/Serializable"), (0, .class_ 1), (0, u "java/lang/Object"), (0, .class_ 3)] 3

/-- java/io/Serializable -/
def k6 : Class := { plain "java/io/Serializable" (some 0) with
  accessFlags := 1537
  interfaces := #[]
  cf := some (fileOf pool6 2 #[] #[] 1537 4 #[] #[])
  fields := #[]
  methods := #[]
  instanceTypes := #[]
  staticTypes := #[]
  resolved := Array.replicate 8 none
  statics := none }

/-- the primitive byte -/
def k7 : Class := { plain "byte" none with kind := .primitive 'B', accessFlags := 0x411 }
/-- [B -/
def k8 : Class := { plain "[B" (some 0) with kind := .array 7 .byte, interfaces := #[5, 6], accessFlags := 1041 }

/-- the primitive int -/
def k9 : Class := { plain "int" none with kind := .primitive 'I', accessFlags := 0x411 }
/-- [I -/
def k10 : Class := { plain "[I" (some 0) with kind := .array 9 .int, interfaces := #[5, 6], accessFlags := 1041 }

/-- the primitive long -/
def k11 : Class := { plain "long" none with kind := .primitive 'J', accessFlags := 0x411 }
/-- [J -/
def k12 : Class := { plain "[J" (some 0) with kind := .array 11 .long, interfaces := #[5, 6], accessFlags := 1041 }

/-- the primitive double -/
def k13 : Class := { plain "double" none with kind := .primitive 'D', accessFlags := 0x411 }
/-- [D -/
def k14 : Class := { plain "[D" (some 0) with kind := .array 13 .double, interfaces := #[5, 6], accessFlags := 1041 }

def heap : Heap := #[]
def classes : Array Class := #[k0, k1, k2, k3, k4, k5, k6, k7, k8, k9, k10, k11, k12, k13, k14]
def interned : List (Array UInt16 × Addr) := []
def slotsUsed : Nat := 0
def theMethod : MethodId := ⟨1, 1⟩
def args0 : Array Value := #[.int 5, .int 2, .int 7, .int 1, .int 15, .int 3]
def aboutOver (below : List Frame) : State where
  vm := { classes := classes, interned := interned.toArray }
  heap := heap
  slotsUsed := slotsUsed
  threads := #[{ frames := .invoking theMethod args0 :: below }]
def below0 : List Frame := [.native { method := ⟨0, 0⟩, args := #[] }]
def about1 : State := aboutOver below0
def p0 : Program := .bare "" "" ""
def e0 : Env := launch0.env 0 0 0
theorem w_frames : about1.frames = Frame.invoking theMethod args0 :: below0 := rfl
set_option maxRecDepth 65536 in
theorem w_args : argsFit about1.vm theMethod args0 = true := by decide +kernel
set_option maxRecDepth 65536 in
theorem w_heap : heapFits about1 = true := by decide +kernel
set_option maxRecDepth 65536 in
theorem w_runnable : about1.curStatus? = some .runnable := by decide +kernel
set_option maxRecDepth 65536 in
theorem w_alone : about1.alone = true := by decide +kernel
set_option maxRecDepth 65536 in
theorem w_named : about1.methodNamed? x = some theMethod := by decide +kernel
set_option maxRecDepth 65536 in
theorem w_hears : about1.hears theMethod below0 = true := by decide +kernel
set_option maxRecDepth 65536 in
theorem w_ripe : about1.ripe theMethod args0 below0 = true := by decide +kernel
theorem w_running : about1.status = .running := rfl
set_option maxRecDepth 65536 in
theorem w_room : about1.hasRoom e0.platform room_1 = true :=
  launch0.hasRoom_least _ room_1 (by decide +kernel) (by decide +kernel) (by decide +kernel) (by decide +kernel) (by decide +kernel) (by decide +kernel)
theorem allAtoms_all (ts : List Jvm.Cond) (a : Array Jvm.Value) (st : Jvm.State) : (allAtoms ts).before a st = ts.all (fun c => c.before a st) := by
  induction ts with
  | nil => rfl
  | cons c t ih =>
    show (Jvm.Cond.and c (allAtoms t)).before a st = _
    rw [Jvm.Cond.before_and, ih, List.all_cons]
def words1 : List Jvm.Cond := Jvm.Cond.code x code maxLocals ret :: tables_1
/-- a 'code' word, met by the world's own term for the bytes: nothing is compared byte by byte -/
theorem code_word {y : MethodName} {bytes : ByteArray} {mx : Nat} {rt : Option FieldType} {a : Array Value} {s : State} {m : MethodId} {meth : Method} {c : Code} (h1 : s.methodNamed? y = some m) (h2 : s.vm.method? m = some meth) (h3 : meth.code = some c) (h4 : c.code = bytes)
    (h5 : (c.maxLocals == mx && c.exceptionTable.isEmpty && decide (c.maxStack ≤ mostOperands) && decide (meth.sig.returnType = rt) && !meth.locks && decide (parseMethodDescriptor y.desc = some meth.sig)) = true) : (Jvm.Cond.code y bytes mx rt).before a s = true := by
  simp only [Bool.and_eq_true, beq_iff_eq, Bool.not_eq_true', decide_eq_true_eq] at h5
  obtain ⟨⟨⟨⟨⟨g1, g2⟩, g3⟩, g4⟩, g5⟩, g6⟩ := h5
  simp [Cond.before, Cond.holds, Cond.value, h1, h2, h3, h4, g1, g2, g3, g4, g5, g6]
def isCode : Jvm.Cond → Bool
  | .code _ _ _ _ => true
  | _ => false
theorem all_split {L : List Jvm.Cond} {P : Jvm.Cond → Bool} (h1 : L.all (fun c => isCode c || P c) = true) (h2 : ∀ c ∈ L.filter isCode, P c = true) : L.all P = true := by
  refine List.all_eq_true.mpr fun c hc => ?_
  have h := List.all_eq_true.mp h1 c hc
  rcases Bool.eq_false_or_eq_true (isCode c) with hi | hi
  · exact h2 c (List.mem_filter.mpr ⟨hc, hi⟩)
  · simpa [hi] using h
set_option maxRecDepth 65536 in
theorem w_c0 : (Jvm.Cond.code x code maxLocals ret).before args0 about1 = true := code_word (m := ⟨1, 1⟩) (meth := k1m1) (c := k1c1) (by decide +kernel) rfl rfl rfl (by decide +kernel)
set_option maxRecDepth 65536 in
theorem w_c1 : (Jvm.Cond.code ({ cls := "java/lang/Math", name := "min", desc := "(JJ)J" } : Jvm.MethodName) jdk_29_method_70_code (4 : Nat) (Option.some Jvm.ClassFile.FieldType.long)).before args0 about1 = true := code_word (m := ⟨2, 1⟩) (meth := k2m1) (c := k2c1) (by decide +kernel) rfl rfl rfl (by decide +kernel)
set_option maxRecDepth 65536 in
theorem w_c2 : (Jvm.Cond.code ({ cls := "com/example/mixed_likelihood/mixedlikelihood/search/GainWindow", name := "<init>", desc := "()V" } : Jvm.MethodName) prog_49_method_1_code (1 : Nat) (Option.none : Option Jvm.ClassFile.FieldType)).before args0 about1 = true := code_word (m := ⟨3, 0⟩) (meth := k3m0) (c := k3c0) (by decide +kernel) rfl rfl rfl (by decide +kernel)
set_option maxRecDepth 65536 in
theorem w_c3 : (Jvm.Cond.code ({ cls := "java/lang/Object", name := "<init>", desc := "()V" } : Jvm.MethodName) object_method_1_code (1 : Nat) (Option.none : Option Jvm.ClassFile.FieldType)).before args0 about1 = true := code_word (m := ⟨0, 0⟩) (meth := k0m0) (c := k0c0) (by decide +kernel) rfl rfl rfl (by decide +kernel)
set_option maxRecDepth 65536 in
theorem w_c4 : (Jvm.Cond.code ({ cls := "com/example/mixed_likelihood/mixedlikelihood/search/GainWindow", name := "moveTo", desc := "(I)V" } : Jvm.MethodName) prog_49_method_2_code (2 : Nat) (Option.none : Option Jvm.ClassFile.FieldType)).before args0 about1 = true := code_word (m := ⟨3, 1⟩) (meth := k3m1) (c := k3c1) (by decide +kernel) rfl rfl rfl (by decide +kernel)
set_option maxRecDepth 65536 in
theorem w_c5 : (Jvm.Cond.code ({ cls := "java/util/Arrays", name := "fill", desc := "([JJ)V" } : Jvm.MethodName) jdk_65_method_101_code (5 : Nat) (Option.none : Option Jvm.ClassFile.FieldType)).before args0 about1 = true := code_word (m := ⟨4, 1⟩) (meth := k4m1) (c := k4c1) (by decide +kernel) rfl rfl rfl (by decide +kernel)
set_option maxRecDepth 65536 in
theorem w_c6 : (Jvm.Cond.code ({ cls := "com/example/mixed_likelihood/mixedlikelihood/search/GainWindow", name := "add", desc := "(ID)V" } : Jvm.MethodName) prog_49_method_5_code (8 : Nat) (Option.none : Option Jvm.ClassFile.FieldType)).before args0 about1 = true := code_word (m := ⟨3, 2⟩) (meth := k3m2) (c := k3c2) (by decide +kernel) rfl rfl rfl (by decide +kernel)
set_option maxRecDepth 65536 in
theorem w_c7 : (Jvm.Cond.code ({ cls := "com/example/mixed_likelihood/mixedlikelihood/search/GainWindow", name := "sum", desc := "(I)D" } : Jvm.MethodName) prog_49_method_7_code (2 : Nat) (Option.some Jvm.ClassFile.FieldType.double)).before args0 about1 = true := code_word (m := ⟨3, 3⟩) (meth := k3m3) (c := k3c3) (by decide +kernel) rfl rfl rfl (by decide +kernel)
def codes1 : List Jvm.Cond := [Jvm.Cond.code x code maxLocals ret, Jvm.Cond.code ({ cls := "java/lang/Math", name := "min", desc := "(JJ)J" } : Jvm.MethodName) jdk_29_method_70_code (4 : Nat) (Option.some Jvm.ClassFile.FieldType.long), Jvm.Cond.code ({ cls := "com/example/mixed_likelihood/mixedlikelihood/search/GainWindow", name := "<init>", desc := "()V" } : Jvm.MethodName) prog_49_method_1_code (1 : Nat) (Option.none : Option Jvm.ClassFile.FieldType), Jvm.Cond.code ({ cls := "java/lang/Object", name := "<init>", desc := "()V" } : Jvm.MethodName) object_method_1_code (1 : Nat) (Option.none : Option Jvm.ClassFile.FieldType), Jvm.Cond.code ({ cls := "com/example/mixed_likelihood/mixedlikelihood/search/GainWindow", name := "moveTo", desc := "(I)V" } : Jvm.MethodName) prog_49_method_2_code (2 : Nat) (Option.none : Option Jvm.ClassFile.FieldType), Jvm.Cond.code ({ cls := "java/util/Arrays", name := "fill", desc := "([JJ)V" } : Jvm.MethodName) jdk_65_method_101_code (5 : Nat) (Option.none : Option Jvm.ClassFile.FieldType), Jvm.Cond.code ({ cls := "com/example/mixed_likelihood/mixedlikelihood/search/GainWindow", name := "add", desc := "(ID)V" } : Jvm.MethodName) prog_49_method_5_code (8 : Nat) (Option.none : Option Jvm.ClassFile.FieldType), Jvm.Cond.code ({ cls := "com/example/mixed_likelihood/mixedlikelihood/search/GainWindow", name := "sum", desc := "(I)D" } : Jvm.MethodName) prog_49_method_7_code (2 : Nat) (Option.some Jvm.ClassFile.FieldType.double)]
set_option maxRecDepth 65536 in
theorem codes_eq : words1.filter isCode = codes1 := rfl
theorem w_codes : ∀ c ∈ words1.filter isCode, c.before args0 about1 = true := by
  rw [codes_eq]
  intro c hc
  simp only [codes1, List.mem_cons, List.not_mem_nil, or_false] at hc
  rcases hc with rfl | rfl | rfl | rfl | rfl | rfl | rfl | rfl
  · exact w_c0
  · exact w_c1
  · exact w_c2
  · exact w_c3
  · exact w_c4
  · exact w_c5
  · exact w_c6
  · exact w_c7
set_option maxRecDepth 65536 in
theorem w_t1 : (words1.take 24).all (fun c => isCode c || c.before args0 about1) = true := by decide +kernel
set_option maxRecDepth 65536 in
theorem w_t2 : (words1.drop 24).all (fun c => isCode c || c.before args0 about1) = true := by decide +kernel
theorem w_tables : (allAtoms (Jvm.Cond.code x code maxLocals ret :: tables_1)).before args0 about1 = true := by
  rw [allAtoms_all]
  show words1.all (fun c => c.before args0 about1) = true
  refine all_split ?_ w_codes
  rw [← List.take_append_drop 24 words1, List.all_append, w_t1, w_t2]
  rfl
set_option maxRecDepth 65536 in
theorem w_case : (Jvm.Cond.and given_1 narrow_1).before args0 about1 = true := by decide +kernel
theorem w_applies : (headSpec (Jvm.Cond.code x code maxLocals ret :: tables_1) room_1).applies x e0.platform about1 = true :=
  (Spec.applies_iff w_frames).mpr ⟨w_running, w_runnable, w_alone, w_named, w_hears, w_ripe, w_room, w_tables⟩
theorem atStart : AtStart classFile x code maxLocals ret World_1 tables_1 room_1 Calls_1 rest_1 Pre_1 launch0 p0 e0 about1 theMethod args0 below0 :=
  ⟨lists_1, trivial, launch0.admits_env _ _ _, launch0.least_env, fairChoices_fair.cas, fairChoices_fair.clock, w_frames, w_args, w_heap, w_applies, trivial, trivial, w_case⟩
end start1
theorem witness_1 : WitnessClaimed_1 := ⟨start1.p0, start1.e0, start1.about1, start1.theMethod, start1.args0, start1.below0, start1.atStart⟩
end Jvm.Pilot.@@N@@
