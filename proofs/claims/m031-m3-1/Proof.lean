import JvmDerived
import JvmDerived.Pilot.@@N@@Statement
import JvmDerived.Pilot.@@N@@Code
set_option linter.unusedVariables false
set_option linter.unusedSimpArgs false
namespace Jvm.Pilot.@@N@@
open Jvm Jvm.ClassFile Sem Op Lib Jvm.Free Jvm.Stand Jvm.LawKit Jvm.RoadKit Bundle Jvm.Pilot.@@N@@.Jvm.D
/-! own kit: the walk in program order: own_G says that from this frame on the run ends as promised -/
def own_G (tb : Tables) (e : Env) (below : List Frame) (P : Outcome → State → Prop) (T : State) (f : JFrame) : Prop :=
  ∃ s₂ o, Steps tb e below (T.setTop f) s₂ ∧ s₂.status = .running ∧ Ended s₂ below o ∧ P o s₂
def own_P (s : State) (Q : Option Value → Heap → List Loc → Prop) (C S : Nat) (o : Outcome) (U : State) : Prop :=
  ∃ v L, o = .returned v ∧ Q v U.heap L ∧ FrameEnd s o U L C S
theorem own_go {tb : Tables} {e : Env} {below : List Frame} {P : Outcome → State → Prop} {T T' : State} {f f' : JFrame} (st : ∀ target, Steps tb e below (T'.setTop f') target → Steps tb e below (T.setTop f) target) (k : own_G tb e below P T' f') : own_G tb e below P T f := by
  obtain ⟨s₂, o, h1, h2⟩ := k
  exact ⟨s₂, o, st _ h1, h2⟩
section OwnKit
variable {p : Program} {l : Launch} {e : Env} {R : Room} {s : State} {m : MethodId} {args : Array Value} {below : List Frame} {meth : Method} {c : Code} {T : State} {locs : List Loc} {cells slots : Nat} {Z : State} {a0 : Array Value} {h : Heap} {P : Outcome → State → Prop}
theorem own_body {y : MethodName} {bytes : ByteArray} {maxL : Nat} {ret : Option FieldType} {ws : List Jvm.Cond} {rm : Room} {as' : Array Value} {Q : Option Value → Heap → List Loc → Prop} {C S : Nat} (pn : plainFor y = true)
    (body : ∀ p e s m below meth c s₁, p.tables.exec = Jvm.exec → c.code = bytes → c.maxLocals = maxL → s.vm.findClass y.cls = some m.cls → meth.name = y.name → meth.locks = false → meth.sig.returnType = ret → Z.Warmed39 s.vm → Stand p l e rm s m as' below meth c s₁ [] 0 0 → s₁.heap = h →
      own_G p.tables e below (own_P s Q C S) s₁ (entryFrame m as' maxL)) :
    MetFree l y (head1 (Jvm.Cond.code y bytes maxL ret :: ws) rm) (fun a U => a = as' ∧ Z.Warmed39 U.vm ∧ U.heap = h) (fun _ _ _ _ _ => True) (fun _ U o U' => ∃ v L, o = .returned v ∧ Q v U'.heap L ∧ FrameEnd U o U' L C S) := by
  refine MetFree.of_bodySF (maxLocals := maxL) (ret := ret) (code := bytes) pn hisR ?_
  intro p e s m args below meth c s₁ Bd hml0 hP hK
  obtain ⟨rfl, hZ, hh⟩ := hP
  exact body p e s m below meth c s₁ Bd.exec Bd.bytes hml0 (findClass_of_methodNamed Bd.named) (name_of_methodNamed Bd.named Bd.method).1 (BodyLoose.notSynchronized Bd) Bd.returns hZ (Stand.of_body Bd) (by rw [← hh, Bd.state]; rfl)
theorem own_ret {v : Option Value} {f : JFrame} {Q : Option Value → Heap → List Loc → Prop} {C S : Nat} (X : Stand p l e R s m args below meth c T locs cells slots) (hlk : meth.locks = false) (hv : meth.sig.returnType = none → v = none)
    (st : ∀ fs, (∀ (f : JFrame) (acts : List Action), f.method = m → f.locked = none → f.entered = [] → (doReturn e (T.setTop f) acts v).1 = T.setFrames fs) → Steps p.tables e below (T.setTop f) (T.setFrames fs)) (hC : cells ≤ C) (hS : slots ≤ S) (hq : Q v T.heap locs) : own_G p.tables e below (own_P s Q C S) T f := by
  obtain ⟨fs, hr, hrun, hended, hW, hsame⟩ := X.leave (v := v) hv hlk
  exact ⟨_, _, st fs hr, hrun, hended, _, _, rfl, hq, ⟨_, rfl⟩, hW, hsame.mono hC hS⟩
theorem own_retN {Q : Option Value → Heap → List Loc → Prop} {C S : Nat} (X : Stand p l e R s m args below meth c T locs cells slots) (hx : p.tables.exec = Jvm.exec) (hlk : meth.locks = false) {t : FieldType} (hret : meth.sig.returnType = some t) (ht : t = .boolean ∨ t = .byte ∨ t = .char ∨ t = .short) {pc : Nat} {Ls : Array Slot} {z : Int32} {rest : List Value} (hd : decode c.code pc = .ok (.ireturn, 1)) (hC : cells ≤ C) (hS : slots ≤ S) (hq : Q (some (.int (nar t z))) T.heap locs) :
    own_G p.tables e below (own_P s Q C S) T (mkF m pc Ls (.int z :: rest)) :=
  own_ret X hlk (fun h => by rw [hret] at h; cases h) (fun fs hr => retN X hx hret ht hd hr) hC hS hq
theorem own_retI {Q : Option Value → Heap → List Loc → Prop} {C S : Nat} (X : Stand p l e R s m args below meth c T locs cells slots) (hx : p.tables.exec = Jvm.exec) (hlk : meth.locks = false) (hret : meth.sig.returnType = some .int) {pc : Nat} {Ls : Array Slot} {z : Int32} {rest : List Value} (hd : decode c.code pc = .ok (.ireturn, 1)) (hC : cells ≤ C) (hS : slots ≤ S) (hq : Q (some (.int z)) T.heap locs) :
    own_G p.tables e below (own_P s Q C S) T (mkF m pc Ls (.int z :: rest)) :=
  own_ret X hlk (fun h => by rw [hret] at h; cases h) (fun fs hr => retOut X hx hret rfl (Or.inl ⟨rfl, Or.inl rfl, z, rfl⟩) hd hr) hC hS hq
theorem own_retJ {Q : Option Value → Heap → List Loc → Prop} {C S : Nat} (X : Stand p l e R s m args below meth c T locs cells slots) (hx : p.tables.exec = Jvm.exec) (hlk : meth.locks = false) (hret : meth.sig.returnType = some .long) {pc : Nat} {Ls : Array Slot} {z : Int64} {rest : List Value} (hd : decode c.code pc = .ok (.lreturn, 1)) (hC : cells ≤ C) (hS : slots ≤ S) (hq : Q (some (.long z)) T.heap locs) :
    own_G p.tables e below (own_P s Q C S) T (mkF m pc Ls (.long z :: rest)) :=
  own_ret X hlk (fun h => by rw [hret] at h; cases h) (fun fs hr => retOut X hx hret rfl (Or.inr (Or.inl ⟨rfl, rfl, z, rfl⟩)) hd hr) hC hS hq
theorem own_retA {Q : Option Value → Heap → List Loc → Prop} {C S : Nat} (X : Stand p l e R s m args below meth c T locs cells slots) (hx : p.tables.exec = Jvm.exec) (hlk : meth.locks = false) {t : FieldType} (hret : meth.sig.returnType = some t) (ht : t.isReference = true) {pc : Nat} {Ls : Array Slot} {w : Value} {rest : List Value} (hw : w.isRef = true) (hn : narrow t w = w) (hd : decode c.code pc = .ok (.areturn, 1)) (hC : cells ≤ C) (hS : slots ≤ S) (hq : Q (some w) T.heap locs) :
    own_G p.tables e below (own_P s Q C S) T (mkF m pc Ls (w :: rest)) :=
  own_ret X hlk (fun h => by rw [hret] at h; cases h) (fun fs hr => retOut X hx hret hn (Or.inr (Or.inr (Or.inr (Or.inr ⟨rfl, ht, hw⟩)))) hd hr) hC hS hq
theorem own_retV {Q : Option Value → Heap → List Loc → Prop} {C S : Nat} (X : Stand p l e R s m args below meth c T locs cells slots) (hx : p.tables.exec = Jvm.exec) (hlk : meth.locks = false) (hret : meth.sig.returnType = none) {pc : Nat} {Ls : Array Slot} (hd : decode c.code pc = .ok (.return_, 1)) (hC : cells ≤ C) (hS : slots ≤ S) (hq : Q none T.heap locs) :
    own_G p.tables e below (own_P s Q C S) T (mkF m pc Ls []) :=
  own_ret X hlk (fun h => rfl) (fun fs hr => X.returnOut hx hret hd hr) hC hS hq
theorem own_iadd (X : Stand p l e R s m args below meth c T locs cells slots) (hx : p.tables.exec = Jvm.exec) {pc pc' : Nat} {Ls : Array Slot} {x y z : Int32} {rest : List Value} (hd : decode c.code pc = .ok (.iadd, 1)) (hz : x + y = z) (hp : pc + 1 = pc') (k : own_G p.tables e below P T (mkF m pc' Ls (.int z :: rest))) : own_G p.tables e below P T (mkF m pc Ls (.int y :: .int x :: rest)) := by
  subst hp; subst hz; exact own_go (fun t q => XS.iadd X.here hx rfl hd rfl q) k
theorem own_isub (X : Stand p l e R s m args below meth c T locs cells slots) (hx : p.tables.exec = Jvm.exec) {pc pc' : Nat} {Ls : Array Slot} {x y z : Int32} {rest : List Value} (hd : decode c.code pc = .ok (.isub, 1)) (hz : x - y = z) (hp : pc + 1 = pc') (k : own_G p.tables e below P T (mkF m pc' Ls (.int z :: rest))) : own_G p.tables e below P T (mkF m pc Ls (.int y :: .int x :: rest)) := by
  subst hp; subst hz; exact own_go (fun t q => XS.isub X.here hx rfl hd rfl q) k
theorem own_imul (X : Stand p l e R s m args below meth c T locs cells slots) (hx : p.tables.exec = Jvm.exec) {pc pc' : Nat} {Ls : Array Slot} {x y z : Int32} {rest : List Value} (hd : decode c.code pc = .ok (.imul, 1)) (hz : x * y = z) (hp : pc + 1 = pc') (k : own_G p.tables e below P T (mkF m pc' Ls (.int z :: rest))) : own_G p.tables e below P T (mkF m pc Ls (.int y :: .int x :: rest)) := by
  subst hp; subst hz; exact own_go (fun t q => XS.imul X.here hx rfl hd rfl q) k
theorem own_iand (X : Stand p l e R s m args below meth c T locs cells slots) (hx : p.tables.exec = Jvm.exec) {pc pc' : Nat} {Ls : Array Slot} {x y z : Int32} {rest : List Value} (hd : decode c.code pc = .ok (.iand, 1)) (hz : x &&& y = z) (hp : pc + 1 = pc') (k : own_G p.tables e below P T (mkF m pc' Ls (.int z :: rest))) : own_G p.tables e below P T (mkF m pc Ls (.int y :: .int x :: rest)) := by
  subst hp; subst hz; exact own_go (fun t q => XS.iand X.here hx rfl hd rfl q) k
theorem own_ior (X : Stand p l e R s m args below meth c T locs cells slots) (hx : p.tables.exec = Jvm.exec) {pc pc' : Nat} {Ls : Array Slot} {x y z : Int32} {rest : List Value} (hd : decode c.code pc = .ok (.ior, 1)) (hz : x ||| y = z) (hp : pc + 1 = pc') (k : own_G p.tables e below P T (mkF m pc' Ls (.int z :: rest))) : own_G p.tables e below P T (mkF m pc Ls (.int y :: .int x :: rest)) := by
  subst hp; subst hz; exact own_go (fun t q => XS.ior X.here hx rfl hd rfl q) k
theorem own_ixor (X : Stand p l e R s m args below meth c T locs cells slots) (hx : p.tables.exec = Jvm.exec) {pc pc' : Nat} {Ls : Array Slot} {x y z : Int32} {rest : List Value} (hd : decode c.code pc = .ok (.ixor, 1)) (hz : x ^^^ y = z) (hp : pc + 1 = pc') (k : own_G p.tables e below P T (mkF m pc' Ls (.int z :: rest))) : own_G p.tables e below P T (mkF m pc Ls (.int y :: .int x :: rest)) := by
  subst hp; subst hz; exact own_go (fun t q => XS.ixor X.here hx rfl hd rfl q) k
theorem own_ladd (X : Stand p l e R s m args below meth c T locs cells slots) (hx : p.tables.exec = Jvm.exec) {pc pc' : Nat} {Ls : Array Slot} {x y z : Int64} {rest : List Value} (hd : decode c.code pc = .ok (.ladd, 1)) (hz : x + y = z) (hp : pc + 1 = pc') (k : own_G p.tables e below P T (mkF m pc' Ls (.long z :: rest))) : own_G p.tables e below P T (mkF m pc Ls (.long y :: .long x :: rest)) := by
  subst hp; subst hz; exact own_go (fun t q => XS.ladd X.here hx rfl hd rfl q) k
theorem own_lsub (X : Stand p l e R s m args below meth c T locs cells slots) (hx : p.tables.exec = Jvm.exec) {pc pc' : Nat} {Ls : Array Slot} {x y z : Int64} {rest : List Value} (hd : decode c.code pc = .ok (.lsub, 1)) (hz : x - y = z) (hp : pc + 1 = pc') (k : own_G p.tables e below P T (mkF m pc' Ls (.long z :: rest))) : own_G p.tables e below P T (mkF m pc Ls (.long y :: .long x :: rest)) := by
  subst hp; subst hz; exact own_go (fun t q => XS.lsub X.here hx rfl hd rfl q) k
theorem own_lmul (X : Stand p l e R s m args below meth c T locs cells slots) (hx : p.tables.exec = Jvm.exec) {pc pc' : Nat} {Ls : Array Slot} {x y z : Int64} {rest : List Value} (hd : decode c.code pc = .ok (.lmul, 1)) (hz : x * y = z) (hp : pc + 1 = pc') (k : own_G p.tables e below P T (mkF m pc' Ls (.long z :: rest))) : own_G p.tables e below P T (mkF m pc Ls (.long y :: .long x :: rest)) := by
  subst hp; subst hz; exact own_go (fun t q => XS.lmul X.here hx rfl hd rfl q) k
theorem own_land (X : Stand p l e R s m args below meth c T locs cells slots) (hx : p.tables.exec = Jvm.exec) {pc pc' : Nat} {Ls : Array Slot} {x y z : Int64} {rest : List Value} (hd : decode c.code pc = .ok (.land, 1)) (hz : x &&& y = z) (hp : pc + 1 = pc') (k : own_G p.tables e below P T (mkF m pc' Ls (.long z :: rest))) : own_G p.tables e below P T (mkF m pc Ls (.long y :: .long x :: rest)) := by
  subst hp; subst hz; exact own_go (fun t q => XS.land X.here hx rfl hd rfl q) k
theorem own_lor (X : Stand p l e R s m args below meth c T locs cells slots) (hx : p.tables.exec = Jvm.exec) {pc pc' : Nat} {Ls : Array Slot} {x y z : Int64} {rest : List Value} (hd : decode c.code pc = .ok (.lor, 1)) (hz : x ||| y = z) (hp : pc + 1 = pc') (k : own_G p.tables e below P T (mkF m pc' Ls (.long z :: rest))) : own_G p.tables e below P T (mkF m pc Ls (.long y :: .long x :: rest)) := by
  subst hp; subst hz; exact own_go (fun t q => XS.lor X.here hx rfl hd rfl q) k
theorem own_lxor (X : Stand p l e R s m args below meth c T locs cells slots) (hx : p.tables.exec = Jvm.exec) {pc pc' : Nat} {Ls : Array Slot} {x y z : Int64} {rest : List Value} (hd : decode c.code pc = .ok (.lxor, 1)) (hz : x ^^^ y = z) (hp : pc + 1 = pc') (k : own_G p.tables e below P T (mkF m pc' Ls (.long z :: rest))) : own_G p.tables e below P T (mkF m pc Ls (.long y :: .long x :: rest)) := by
  subst hp; subst hz; exact own_go (fun t q => XS.lxor X.here hx rfl hd rfl q) k
theorem own_ishl (X : Stand p l e R s m args below meth c T locs cells slots) (hx : p.tables.exec = Jvm.exec) {pc pc' : Nat} {Ls : Array Slot} {x y : Int32} {rest : List Value} (hd : decode c.code pc = .ok (.ishl, 1)) (hp : pc + 1 = pc') (k : own_G p.tables e below P T (mkF m pc' Ls (.int (x <<< (y &&& 31)) :: rest))) : own_G p.tables e below P T (mkF m pc Ls (.int y :: .int x :: rest)) := by
  subst hp; exact own_go (fun t q => XS.ishl X.here hx rfl hd rfl q) k
theorem own_ishr (X : Stand p l e R s m args below meth c T locs cells slots) (hx : p.tables.exec = Jvm.exec) {pc pc' : Nat} {Ls : Array Slot} {x y : Int32} {rest : List Value} (hd : decode c.code pc = .ok (.ishr, 1)) (hp : pc + 1 = pc') (k : own_G p.tables e below P T (mkF m pc' Ls (.int (x >>> (y &&& 31)) :: rest))) : own_G p.tables e below P T (mkF m pc Ls (.int y :: .int x :: rest)) := by
  subst hp; exact own_go (fun t q => XS.ishr X.here hx rfl hd rfl q) k
theorem own_iushr (X : Stand p l e R s m args below meth c T locs cells slots) (hx : p.tables.exec = Jvm.exec) {pc pc' : Nat} {Ls : Array Slot} {x y : Int32} {rest : List Value} (hd : decode c.code pc = .ok (.iushr, 1)) (hp : pc + 1 = pc') (k : own_G p.tables e below P T (mkF m pc' Ls (.int ((x.toUInt32 >>> (y &&& 31).toUInt32).toInt32) :: rest))) : own_G p.tables e below P T (mkF m pc Ls (.int y :: .int x :: rest)) := by
  subst hp; exact own_go (fun t q => XS.iushr X.here hx rfl hd rfl q) k
theorem own_lshl (X : Stand p l e R s m args below meth c T locs cells slots) (hx : p.tables.exec = Jvm.exec) {pc pc' : Nat} {Ls : Array Slot} {x : Int64} {y : Int32} {rest : List Value} (hd : decode c.code pc = .ok (.lshl, 1)) (hp : pc + 1 = pc') (k : own_G p.tables e below P T (mkF m pc' Ls (.long (x <<< (y &&& 0x3f).toInt64) :: rest))) : own_G p.tables e below P T (mkF m pc Ls (.int y :: .long x :: rest)) := by
  subst hp; exact own_go (fun t q => XS.lshl X.here hx rfl hd rfl q) k
theorem own_lshr (X : Stand p l e R s m args below meth c T locs cells slots) (hx : p.tables.exec = Jvm.exec) {pc pc' : Nat} {Ls : Array Slot} {x : Int64} {y : Int32} {rest : List Value} (hd : decode c.code pc = .ok (.lshr, 1)) (hp : pc + 1 = pc') (k : own_G p.tables e below P T (mkF m pc' Ls (.long (x >>> (y &&& 0x3f).toInt64) :: rest))) : own_G p.tables e below P T (mkF m pc Ls (.int y :: .long x :: rest)) := by
  subst hp; exact own_go (fun t q => XS.lshr X.here hx rfl hd rfl q) k
theorem own_lushr (X : Stand p l e R s m args below meth c T locs cells slots) (hx : p.tables.exec = Jvm.exec) {pc pc' : Nat} {Ls : Array Slot} {x : Int64} {y : Int32} {rest : List Value} (hd : decode c.code pc = .ok (.lushr, 1)) (hp : pc + 1 = pc') (k : own_G p.tables e below P T (mkF m pc' Ls (.long ((x.toUInt64 >>> (y &&& 0x3f).toInt64.toUInt64).toInt64) :: rest))) : own_G p.tables e below P T (mkF m pc Ls (.int y :: .long x :: rest)) := by
  subst hp; exact own_go (fun t q => XS.lushr X.here hx rfl hd rfl q) k
theorem own_i2l (X : Stand p l e R s m args below meth c T locs cells slots) (hx : p.tables.exec = Jvm.exec) {pc pc' : Nat} {Ls : Array Slot} {x : Int32} {rest : List Value} (hd : decode c.code pc = .ok (.i2l, 1)) (hp : pc + 1 = pc') (k : own_G p.tables e below P T (mkF m pc' Ls (.long (x.toInt64) :: rest))) : own_G p.tables e below P T (mkF m pc Ls (.int x :: rest)) := by
  subst hp; exact own_go (fun t q => XS.i2l X.here hx rfl hd rfl q) k
theorem own_l2i (X : Stand p l e R s m args below meth c T locs cells slots) (hx : p.tables.exec = Jvm.exec) {pc pc' : Nat} {Ls : Array Slot} {x : Int64} {rest : List Value} (hd : decode c.code pc = .ok (.l2i, 1)) (hp : pc + 1 = pc') (k : own_G p.tables e below P T (mkF m pc' Ls (.int (x.toInt32) :: rest))) : own_G p.tables e below P T (mkF m pc Ls (.long x :: rest)) := by
  subst hp; exact own_go (fun t q => XS.l2i X.here hx rfl hd rfl q) k
theorem own_i2b (X : Stand p l e R s m args below meth c T locs cells slots) (hx : p.tables.exec = Jvm.exec) {pc pc' : Nat} {Ls : Array Slot} {x : Int32} {rest : List Value} (hd : decode c.code pc = .ok (.i2b, 1)) (hp : pc + 1 = pc') (k : own_G p.tables e below P T (mkF m pc' Ls (.int (x.toInt8.toInt32) :: rest))) : own_G p.tables e below P T (mkF m pc Ls (.int x :: rest)) := by
  subst hp; exact own_go (fun t q => XS.i2b X.here hx rfl hd rfl q) k
theorem own_i2s (X : Stand p l e R s m args below meth c T locs cells slots) (hx : p.tables.exec = Jvm.exec) {pc pc' : Nat} {Ls : Array Slot} {x : Int32} {rest : List Value} (hd : decode c.code pc = .ok (.i2s, 1)) (hp : pc + 1 = pc') (k : own_G p.tables e below P T (mkF m pc' Ls (.int (x.toInt16.toInt32) :: rest))) : own_G p.tables e below P T (mkF m pc Ls (.int x :: rest)) := by
  subst hp; exact own_go (fun t q => XS.i2s X.here hx rfl hd rfl q) k
theorem own_i2c (X : Stand p l e R s m args below meth c T locs cells slots) (hx : p.tables.exec = Jvm.exec) {pc pc' : Nat} {Ls : Array Slot} {x : Int32} {rest : List Value} (hd : decode c.code pc = .ok (.i2c, 1)) (hp : pc + 1 = pc') (k : own_G p.tables e below P T (mkF m pc' Ls (.int (x.toUInt32.toUInt16.toUInt32.toInt32) :: rest))) : own_G p.tables e below P T (mkF m pc Ls (.int x :: rest)) := by
  subst hp; exact own_go (fun t q => XS.i2c X.here hx rfl hd rfl q) k
theorem own_ineg (X : Stand p l e R s m args below meth c T locs cells slots) (hx : p.tables.exec = Jvm.exec) {pc pc' : Nat} {Ls : Array Slot} {x : Int32} {rest : List Value} (hd : decode c.code pc = .ok (.ineg, 1)) (hp : pc + 1 = pc') (k : own_G p.tables e below P T (mkF m pc' Ls (.int (-x) :: rest))) : own_G p.tables e below P T (mkF m pc Ls (.int x :: rest)) := by
  subst hp; exact own_go (fun t q => XS.ineg X.here hx rfl hd rfl q) k
theorem own_lneg (X : Stand p l e R s m args below meth c T locs cells slots) (hx : p.tables.exec = Jvm.exec) {pc pc' : Nat} {Ls : Array Slot} {x : Int64} {rest : List Value} (hd : decode c.code pc = .ok (.lneg, 1)) (hp : pc + 1 = pc') (k : own_G p.tables e below P T (mkF m pc' Ls (.long (-x) :: rest))) : own_G p.tables e below P T (mkF m pc Ls (.long x :: rest)) := by
  subst hp; exact own_go (fun t q => XS.lneg X.here hx rfl hd rfl q) k
theorem own_lcmp (X : Stand p l e R s m args below meth c T locs cells slots) (hx : p.tables.exec = Jvm.exec) {pc pc' : Nat} {Ls : Array Slot} {x y : Int64} {rest : List Value} (hd : decode c.code pc = .ok (.lcmp, 1)) (hp : pc + 1 = pc') (k : own_G p.tables e below P T (mkF m pc' Ls (.int (lcmpW x y) :: rest))) : own_G p.tables e below P T (mkF m pc Ls (.long y :: .long x :: rest)) := by
  subst hp; exact own_go (fun t q => XS.lcmp X.here hx rfl hd rfl q) k
theorem own_idiv (X : Stand p l e R s m args below meth c T locs cells slots) (hx : p.tables.exec = Jvm.exec) {pc pc' : Nat} {Ls : Array Slot} {x y z : Int32} {rest : List Value} (hd : decode c.code pc = .ok (.idiv, 1)) (hz : x / y = z) (hy : y ≠ 0) (hp : pc + 1 = pc') (k : own_G p.tables e below P T (mkF m pc' Ls (.int z :: rest))) : own_G p.tables e below P T (mkF m pc Ls (.int y :: .int x :: rest)) := by
  subst hp; subst hz; exact own_go (fun t q => XS.idiv X.here hx rfl hd rfl hy q) k
theorem own_irem (X : Stand p l e R s m args below meth c T locs cells slots) (hx : p.tables.exec = Jvm.exec) {pc pc' : Nat} {Ls : Array Slot} {x y : Int32} {rest : List Value} (hd : decode c.code pc = .ok (.irem, 1)) (hy : y ≠ 0) (hp : pc + 1 = pc') (k : own_G p.tables e below P T (mkF m pc' Ls (.int (x % y) :: rest))) : own_G p.tables e below P T (mkF m pc Ls (.int y :: .int x :: rest)) := by
  subst hp; exact own_go (fun t q => iremM X hx rfl hd rfl hy q) k
theorem own_iloadN (X : Stand p l e R s m args below meth c T locs cells slots) (hx : p.tables.exec = Jvm.exec) {pc pc' : Nat} {Ls : Array Slot} {j : Fin 4} {v : Int32} {st : List Value} (hd : decode c.code pc = .ok (.iload_n j, 1)) (hl : Ls[j.val]? = some (.val (.int v))) (hp : pc + 1 = pc') (k : own_G p.tables e below P T (mkF m pc' Ls (.int v :: st))) : own_G p.tables e below P T (mkF m pc Ls (st)) := by
  subst hp; exact own_go (fun t q => XS.iloadN X.here hx rfl hd hl q) k
theorem own_iload (X : Stand p l e R s m args below meth c T locs cells slots) (hx : p.tables.exec = Jvm.exec) {pc pc' : Nat} {Ls : Array Slot} {j : Nat} {v : Int32} {st : List Value} (hd : decode c.code pc = .ok (.iload j, 2)) (hl : Ls[j]? = some (.val (.int v))) (hp : pc + 2 = pc') (k : own_G p.tables e below P T (mkF m pc' Ls (.int v :: st))) : own_G p.tables e below P T (mkF m pc Ls (st)) := by
  subst hp; exact own_go (fun t q => XS.iload X.here hx rfl hd hl q) k
theorem own_lloadN (X : Stand p l e R s m args below meth c T locs cells slots) (hx : p.tables.exec = Jvm.exec) {pc pc' : Nat} {Ls : Array Slot} {j : Fin 4} {v : Int64} {st : List Value} (hd : decode c.code pc = .ok (.lload_n j, 1)) (hl : Ls[j.val]? = some (.val (.long v))) (hp : pc + 1 = pc') (k : own_G p.tables e below P T (mkF m pc' Ls (.long v :: st))) : own_G p.tables e below P T (mkF m pc Ls (st)) := by
  subst hp; exact own_go (fun t q => XS.lloadN X.here hx rfl hd hl q) k
theorem own_lload (X : Stand p l e R s m args below meth c T locs cells slots) (hx : p.tables.exec = Jvm.exec) {pc pc' : Nat} {Ls : Array Slot} {j : Nat} {v : Int64} {st : List Value} (hd : decode c.code pc = .ok (.lload j, 2)) (hl : Ls[j]? = some (.val (.long v))) (hp : pc + 2 = pc') (k : own_G p.tables e below P T (mkF m pc' Ls (.long v :: st))) : own_G p.tables e below P T (mkF m pc Ls (st)) := by
  subst hp; exact own_go (fun t q => XS.lload X.here hx rfl hd hl q) k
theorem own_aloadN (X : Stand p l e R s m args below meth c T locs cells slots) (hx : p.tables.exec = Jvm.exec) {pc pc' : Nat} {Ls : Array Slot} {j : Fin 4} {v : Value} {st : List Value} (hd : decode c.code pc = .ok (.aload_n j, 1)) (hl : Ls[j.val]? = some (.val v)) (hv : v.isRef = true) (hp : pc + 1 = pc') (k : own_G p.tables e below P T (mkF m pc' Ls (v :: st))) : own_G p.tables e below P T (mkF m pc Ls (st)) := by
  subst hp; exact own_go (fun t q => XS.aloadN X.here hx rfl hd hl hv q) k
theorem own_istoreN (X : Stand p l e R s m args below meth c T locs cells slots) (hx : p.tables.exec = Jvm.exec) {pc pc' : Nat} {Ls : Array Slot} {j : Fin 4} {v : Int32} {rest : List Value} {Ls' : Array Slot} (hd : decode c.code pc = .ok (.istore_n j, 1)) (hl : storeLocals Ls j.val (.int v) = some Ls') (hp : pc + 1 = pc') (k : own_G p.tables e below P T (mkF m pc' Ls' (rest))) : own_G p.tables e below P T (mkF m pc Ls (.int v :: rest)) := by
  subst hp; exact own_go (fun t q => XS.istoreN X.here hx rfl hd rfl hl q) k
theorem own_lstoreN (X : Stand p l e R s m args below meth c T locs cells slots) (hx : p.tables.exec = Jvm.exec) {pc pc' : Nat} {Ls : Array Slot} {j : Fin 4} {v : Int64} {rest : List Value} {Ls' : Array Slot} (hd : decode c.code pc = .ok (.lstore_n j, 1)) (hl : storeLocals Ls j.val (.long v) = some Ls') (hp : pc + 1 = pc') (k : own_G p.tables e below P T (mkF m pc' Ls' (rest))) : own_G p.tables e below P T (mkF m pc Ls (.long v :: rest)) := by
  subst hp; exact own_go (fun t q => XS.lstoreN X.here hx rfl hd rfl hl q) k
theorem own_astoreN (X : Stand p l e R s m args below meth c T locs cells slots) (hx : p.tables.exec = Jvm.exec) {pc pc' : Nat} {Ls : Array Slot} {j : Fin 4} {v : Value} {rest : List Value} {Ls' : Array Slot} (hd : decode c.code pc = .ok (.astore_n j, 1)) (hv : v.isRef = true) (hl : storeLocals Ls j.val v = some Ls') (hp : pc + 1 = pc') (k : own_G p.tables e below P T (mkF m pc' Ls' (rest))) : own_G p.tables e below P T (mkF m pc Ls (v :: rest)) := by
  subst hp; exact own_go (fun t q => XS.astoreN X.here hx rfl hd rfl hv hl q) k
theorem own_aload (X : Stand p l e R s m args below meth c T locs cells slots) (hx : p.tables.exec = Jvm.exec) {pc pc' : Nat} {Ls : Array Slot} {j : Nat} {v : Value} {st : List Value} (hd : decode c.code pc = .ok (.aload j, 2)) (hl : Ls[j]? = some (.val v)) (hv : v.isRef = true) (hp : pc + 2 = pc') (k : own_G p.tables e below P T (mkF m pc' Ls (v :: st))) : own_G p.tables e below P T (mkF m pc Ls (st)) := by
  subst hp; exact own_go (fun t q => XS.aload X.here hx rfl hd hl hv q) k
theorem own_istore (X : Stand p l e R s m args below meth c T locs cells slots) (hx : p.tables.exec = Jvm.exec) {pc pc' : Nat} {Ls : Array Slot} {j : Nat} {v : Int32} {rest : List Value} {Ls' : Array Slot} (hd : decode c.code pc = .ok (.istore j, 2)) (hl : storeLocals Ls j (.int v) = some Ls') (hp : pc + 2 = pc') (k : own_G p.tables e below P T (mkF m pc' Ls' (rest))) : own_G p.tables e below P T (mkF m pc Ls (.int v :: rest)) := by
  subst hp; exact own_go (fun t q => XS.istore X.here hx rfl hd rfl hl q) k
theorem own_lstore (X : Stand p l e R s m args below meth c T locs cells slots) (hx : p.tables.exec = Jvm.exec) {pc pc' : Nat} {Ls : Array Slot} {j : Nat} {v : Int64} {rest : List Value} {Ls' : Array Slot} (hd : decode c.code pc = .ok (.lstore j, 2)) (hl : storeLocals Ls j (.long v) = some Ls') (hp : pc + 2 = pc') (k : own_G p.tables e below P T (mkF m pc' Ls' (rest))) : own_G p.tables e below P T (mkF m pc Ls (.long v :: rest)) := by
  subst hp; exact own_go (fun t q => XS.lstore X.here hx rfl hd rfl hl q) k
theorem own_astore (X : Stand p l e R s m args below meth c T locs cells slots) (hx : p.tables.exec = Jvm.exec) {pc pc' : Nat} {Ls : Array Slot} {j : Nat} {v : Value} {rest : List Value} {Ls' : Array Slot} (hd : decode c.code pc = .ok (.astore j, 2)) (hv : v.isRef = true) (hl : storeLocals Ls j v = some Ls') (hp : pc + 2 = pc') (k : own_G p.tables e below P T (mkF m pc' Ls' (rest))) : own_G p.tables e below P T (mkF m pc Ls (v :: rest)) := by
  subst hp; exact own_go (fun t q => XS.astore X.here hx rfl hd rfl hv hl q) k
theorem own_iinc (X : Stand p l e R s m args below meth c T locs cells slots) (hx : p.tables.exec = Jvm.exec) {pc pc' : Nat} {Ls : Array Slot} {j : Nat} {cst : Int} {x : Int32} {st : List Value} {Ls' : Array Slot} (hd : decode c.code pc = .ok (.iinc j cst, 3)) (hl : Ls[j]? = some (.val (.int x))) (hl' : storeLocals Ls j (.int (x + Int32.ofInt cst)) = some Ls') (hp : pc + 3 = pc') (k : own_G p.tables e below P T (mkF m pc' Ls' (st))) : own_G p.tables e below P T (mkF m pc Ls (st)) := by
  subst hp; exact own_go (fun t q => XS.iinc X.here hx rfl hd hl hl' q) k
theorem own_iconst (X : Stand p l e R s m args below meth c T locs cells slots) (hx : p.tables.exec = Jvm.exec) {pc pc' : Nat} {Ls : Array Slot} {i : Int} {st : List Value} (z : Int32) (hd : decode c.code pc = .ok (.iconst i, 1)) (hz : Int32.ofInt i = z) (hp : pc + 1 = pc') (k : own_G p.tables e below P T (mkF m pc' Ls (.int z :: st))) : own_G p.tables e below P T (mkF m pc Ls (st)) := by
  subst hp; subst hz; exact own_go (fun t q => XS.iconst X.here hx rfl hd q) k
theorem own_bipush (X : Stand p l e R s m args below meth c T locs cells slots) (hx : p.tables.exec = Jvm.exec) {pc pc' : Nat} {Ls : Array Slot} {i : Int} {st : List Value} (z : Int32) (hd : decode c.code pc = .ok (.bipush i, 2)) (hz : (Int8.ofInt i).toInt32 = z) (hp : pc + 2 = pc') (k : own_G p.tables e below P T (mkF m pc' Ls (.int z :: st))) : own_G p.tables e below P T (mkF m pc Ls (st)) := by
  subst hp; subst hz; exact own_go (fun t q => XS.bipush X.here hx rfl hd q) k
theorem own_sipush (X : Stand p l e R s m args below meth c T locs cells slots) (hx : p.tables.exec = Jvm.exec) {pc pc' : Nat} {Ls : Array Slot} {i : Int} {st : List Value} (z : Int32) (hd : decode c.code pc = .ok (.sipush i, 3)) (hz : (Int16.ofInt i).toInt32 = z) (hp : pc + 3 = pc') (k : own_G p.tables e below P T (mkF m pc' Ls (.int z :: st))) : own_G p.tables e below P T (mkF m pc Ls (st)) := by
  subst hp; subst hz; exact own_go (fun t q => XS.sipush X.here hx rfl hd q) k
theorem own_lconst (X : Stand p l e R s m args below meth c T locs cells slots) (hx : p.tables.exec = Jvm.exec) {pc pc' : Nat} {Ls : Array Slot} {i : Fin 2} {st : List Value} (z : Int64) (hd : decode c.code pc = .ok (.lconst i, 1)) (hz : Int64.ofNat i = z) (hp : pc + 1 = pc') (k : own_G p.tables e below P T (mkF m pc' Ls (.long z :: st))) : own_G p.tables e below P T (mkF m pc Ls (st)) := by
  subst hp; subst hz; exact own_go (fun t q => XS.lconst X.here hx rfl hd q) k
theorem own_aconstNull (X : Stand p l e R s m args below meth c T locs cells slots) (hx : p.tables.exec = Jvm.exec) {pc pc' : Nat} {Ls : Array Slot} {st : List Value} (hd : decode c.code pc = .ok (.aconst_null, 1)) (hp : pc + 1 = pc') (k : own_G p.tables e below P T (mkF m pc' Ls (.null :: st))) : own_G p.tables e below P T (mkF m pc Ls (st)) := by
  subst hp; exact own_go (fun t q => XS.aconstNull X.here hx rfl hd q) k
theorem own_dup (X : Stand p l e R s m args below meth c T locs cells slots) (hx : p.tables.exec = Jvm.exec) {pc pc' : Nat} {Ls : Array Slot} {v : Value} {rest : List Value} (hd : decode c.code pc = .ok (.dup, 1)) (hc : v.category = 1) (hp : pc + 1 = pc') (k : own_G p.tables e below P T (mkF m pc' Ls (v :: v :: rest))) : own_G p.tables e below P T (mkF m pc Ls (v :: rest)) := by
  subst hp; exact own_go (fun t q => XS.dup X.here hx rfl hd rfl hc q) k
theorem own_pop (X : Stand p l e R s m args below meth c T locs cells slots) (hx : p.tables.exec = Jvm.exec) {pc pc' : Nat} {Ls : Array Slot} {v : Value} {rest : List Value} (hd : decode c.code pc = .ok (.pop, 1)) (hc : v.category = 1) (hp : pc + 1 = pc') (k : own_G p.tables e below P T (mkF m pc' Ls (rest))) : own_G p.tables e below P T (mkF m pc Ls (v :: rest)) := by
  subst hp; exact own_go (fun t q => XS.pop X.here hx rfl hd rfl hc q) k
theorem own_dupX1 (X : Stand p l e R s m args below meth c T locs cells slots) (hx : p.tables.exec = Jvm.exec) {pc pc' : Nat} {Ls : Array Slot} {v w : Value} {rest : List Value} (hd : decode c.code pc = .ok (.dup_x1, 1)) (hc : v.category = 1) (hc' : w.category = 1) (hp : pc + 1 = pc') (k : own_G p.tables e below P T (mkF m pc' Ls (v :: w :: v :: rest))) : own_G p.tables e below P T (mkF m pc Ls (v :: w :: rest)) := by
  subst hp; exact own_go (fun t q => XS.dupX1 X.here hx rfl hd rfl hc hc' q) k
theorem own_dup2 (X : Stand p l e R s m args below meth c T locs cells slots) (hx : p.tables.exec = Jvm.exec) {pc pc' : Nat} {Ls : Array Slot} {v w : Value} {rest : List Value} (hd : decode c.code pc = .ok (.dup2, 1)) (hc : v.category = 1) (hc' : w.category = 1) (hp : pc + 1 = pc') (k : own_G p.tables e below P T (mkF m pc' Ls (v :: w :: v :: w :: rest))) : own_G p.tables e below P T (mkF m pc Ls (v :: w :: rest)) := by
  subst hp; exact own_go (fun t q => Jvm.Free.XT.dup2 X.here hx rfl hd rfl hc hc' q) k
theorem own_goto (X : Stand p l e R s m args below meth c T locs cells slots) (hx : p.tables.exec = Jvm.exec) {pc pc' : Nat} {Ls : Array Slot} {st : List Value} {o : Int} (hd : decode c.code pc = .ok (.goto o, 3)) (ho : 0 ≤ (pc : Int) + o) (hp : ((pc : Int) + o).toNat = pc') (k : own_G p.tables e below P T (mkF m pc' Ls (st))) : own_G p.tables e below P T (mkF m pc Ls (st)) := by
  exact own_go (fun t q => XS.goto X.here hx rfl (pc0 := pc) (pc' := pc') rfl hd ho hp q) k
theorem own_ifYes (X : Stand p l e R s m args below meth c T locs cells slots) (hx : p.tables.exec = Jvm.exec) {pc pc' : Nat} {Ls : Array Slot} {cd : ClassFile.Cond} {x : Int32} {rest : List Value} {o : Int} (hd : decode c.code pc = .ok (.ifCond cd o, 3)) (hc : if_icmp.holds cd x 0 = true) (ho : 0 ≤ (pc : Int) + o) (hp : ((pc : Int) + o).toNat = pc') (k : own_G p.tables e below P T (mkF m pc' Ls (rest))) : own_G p.tables e below P T (mkF m pc Ls (.int x :: rest)) := by
  exact own_go (fun t q => XS.ifYes X.here hx rfl (pc0 := pc) (pc' := pc') rfl hd rfl ((if0 _ _).trans hc) ho hp q) k
theorem own_icmpYes (X : Stand p l e R s m args below meth c T locs cells slots) (hx : p.tables.exec = Jvm.exec) {pc pc' : Nat} {Ls : Array Slot} {cd : ClassFile.Cond} {x y : Int32} {rest : List Value} {o : Int} (hd : decode c.code pc = .ok (.if_icmp cd o, 3)) (hc : if_icmp.holds cd x y = true) (ho : 0 ≤ (pc : Int) + o) (hp : ((pc : Int) + o).toNat = pc') (k : own_G p.tables e below P T (mkF m pc' Ls (rest))) : own_G p.tables e below P T (mkF m pc Ls (.int y :: .int x :: rest)) := by
  exact own_go (fun t q => XS.icmpYes X.here hx rfl (pc0 := pc) (pc' := pc') rfl hd rfl hc ho hp q) k
theorem own_ifnullYes (X : Stand p l e R s m args below meth c T locs cells slots) (hx : p.tables.exec = Jvm.exec) {pc pc' : Nat} {Ls : Array Slot} {rest : List Value} {o : Int} (hd : decode c.code pc = .ok (.ifnull o, 3)) (ho : 0 ≤ (pc : Int) + o) (hp : ((pc : Int) + o).toNat = pc') (k : own_G p.tables e below P T (mkF m pc' Ls (rest))) : own_G p.tables e below P T (mkF m pc Ls (.null :: rest)) := by
  exact own_go (fun t q => XS.ifnullYes X.here hx rfl (pc0 := pc) (pc' := pc') rfl hd rfl ho hp q) k
theorem own_ifnonnullYes (X : Stand p l e R s m args below meth c T locs cells slots) (hx : p.tables.exec = Jvm.exec) {pc pc' : Nat} {Ls : Array Slot} {b : Addr} {rest : List Value} {o : Int} (hd : decode c.code pc = .ok (.ifnonnull o, 3)) (ho : 0 ≤ (pc : Int) + o) (hp : ((pc : Int) + o).toNat = pc') (k : own_G p.tables e below P T (mkF m pc' Ls (rest))) : own_G p.tables e below P T (mkF m pc Ls (.ref b :: rest)) := by
  exact own_go (fun t q => XS.ifnonnullYes X.here hx rfl (pc0 := pc) (pc' := pc') rfl hd rfl ho hp q) k
theorem own_ifNo (X : Stand p l e R s m args below meth c T locs cells slots) (hx : p.tables.exec = Jvm.exec) {pc pc' : Nat} {Ls : Array Slot} {cd : ClassFile.Cond} {o : Int} {x : Int32} {rest : List Value} (hd : decode c.code pc = .ok (.ifCond cd o, 3)) (hc : if_icmp.holds cd x 0 = false) (hp : pc + 3 = pc') (k : own_G p.tables e below P T (mkF m pc' Ls (rest))) : own_G p.tables e below P T (mkF m pc Ls (.int x :: rest)) := by
  subst hp; exact own_go (fun t q => XS.ifNo X.here hx rfl hd rfl ((if0 _ _).trans hc) q) k
theorem own_icmpNo (X : Stand p l e R s m args below meth c T locs cells slots) (hx : p.tables.exec = Jvm.exec) {pc pc' : Nat} {Ls : Array Slot} {cd : ClassFile.Cond} {o : Int} {x y : Int32} {rest : List Value} (hd : decode c.code pc = .ok (.if_icmp cd o, 3)) (hc : if_icmp.holds cd x y = false) (hp : pc + 3 = pc') (k : own_G p.tables e below P T (mkF m pc' Ls (rest))) : own_G p.tables e below P T (mkF m pc Ls (.int y :: .int x :: rest)) := by
  subst hp; exact own_go (fun t q => XS.icmpNo X.here hx rfl hd rfl hc q) k
theorem own_ifnullNo (X : Stand p l e R s m args below meth c T locs cells slots) (hx : p.tables.exec = Jvm.exec) {pc pc' : Nat} {Ls : Array Slot} {o : Int} {b : Addr} {rest : List Value} (hd : decode c.code pc = .ok (.ifnull o, 3)) (hp : pc + 3 = pc') (k : own_G p.tables e below P T (mkF m pc' Ls (rest))) : own_G p.tables e below P T (mkF m pc Ls (.ref b :: rest)) := by
  subst hp; exact own_go (fun t q => XS.ifnullNo X.here hx rfl hd rfl q) k
theorem own_ifnonnullNo (X : Stand p l e R s m args below meth c T locs cells slots) (hx : p.tables.exec = Jvm.exec) {pc pc' : Nat} {Ls : Array Slot} {o : Int} {rest : List Value} (hd : decode c.code pc = .ok (.ifnonnull o, 3)) (hp : pc + 3 = pc') (k : own_G p.tables e below P T (mkF m pc' Ls (rest))) : own_G p.tables e below P T (mkF m pc Ls (.null :: rest)) := by
  subst hp; exact own_go (fun t q => XS.ifnonnullNo X.here hx rfl hd rfl q) k
theorem own_acmp (X : Stand p l e R s m args below meth c T locs cells slots) (hx : p.tables.exec = Jvm.exec) {pc pc' : Nat} {Ls : Array Slot} {cd : ACond} {x y : Value} {rest : List Value} {o : Int} (same : Bool) (hd : decode c.code pc = .ok (.if_acmp cd o, 3)) (h1 : x.isRef = true) (h2 : y.isRef = true) (hq : decide (x = y) = same) (ho : 0 ≤ (pc : Int) + o) (hp : pc' = if acV cd same = true then ((pc : Int) + o).toNat else pc + 3) (k : own_G p.tables e below P T (mkF m pc' Ls rest)) : own_G p.tables e below P T (mkF m pc Ls (y :: x :: rest)) := by
  exact own_go (fun t q => Jvm.RoadKit.acmp (g := mkF m pc Ls (y :: x :: rest)) X hx rfl h1 h2 (pc0 := pc) (pc' := pc') rfl hd rfl hq ho hp q) k
theorem own_ldcI (X : Stand p l e R s m args below meth c T locs cells slots) (hx : p.tables.exec = Jvm.exec) {pc pc' : Nat} {Ls : Array Slot} (hZ : Z.Warmed39 s.vm) {own : String} {idx : Nat} {z : Int32} {st : List Value} (hown : s.vm.findClass own = some m.cls) (w : (Jvm.Cond.constant own idx z).before a0 Z = true) (hd : decode c.code pc = .ok (.ldc idx, 2)) (hp : pc + 2 = pc') (k : own_G p.tables e below P T (mkF m pc' Ls (.int z :: st))) : own_G p.tables e below P T (mkF m pc Ls st) := by
  subst hp; exact own_go (X.ldcInt hx hown (mvT hZ w) (g := mkF m pc Ls st) rfl hd) k
theorem own_ldcwI (X : Stand p l e R s m args below meth c T locs cells slots) (hx : p.tables.exec = Jvm.exec) {pc pc' : Nat} {Ls : Array Slot} (hZ : Z.Warmed39 s.vm) {own : String} {idx : Nat} {z : Int32} {st : List Value} (hown : s.vm.findClass own = some m.cls) (w : (Jvm.Cond.constant own idx z).before a0 Z = true) (hd : decode c.code pc = .ok (.ldc_w idx, 3)) (hp : pc + 3 = pc') (k : own_G p.tables e below P T (mkF m pc' Ls (.int z :: st))) : own_G p.tables e below P T (mkF m pc Ls st) := by
  subst hp; exact own_go (X.ldcwInt hx hown (mvT hZ w) (g := mkF m pc Ls st) rfl hd) k
theorem own_ldc2J (X : Stand p l e R s m args below meth c T locs cells slots) (hx : p.tables.exec = Jvm.exec) {pc pc' : Nat} {Ls : Array Slot} (hZ : Z.Warmed39 s.vm) {own : String} {idx : Nat} {z : Int64} {st : List Value} (hown : s.vm.findClass own = some m.cls) (w : (Jvm.Cond.constantLong own idx z).before a0 Z = true) (hd : decode c.code pc = .ok (.ldc2_w idx, 3)) (hp : pc + 3 = pc') (k : own_G p.tables e below P T (mkF m pc' Ls (.long z :: st))) : own_G p.tables e below P T (mkF m pc Ls st) := by
  subst hp; exact own_go (X.ldc2Long hx hown (mvT hZ w) (g := mkF m pc Ls st) rfl hd) k
theorem own_getF (X : Stand p l e R s m args below meth c T locs cells slots) (hx : p.tables.exec = Jvm.exec) {pc pc' : Nat} {Ls : Array Slot} (hZ : Z.Warmed39 s.vm) {own R0 O n d host : String} {idx : Nat} {a : Addr} {v : Value} {rest : List Value} (hown : s.vm.findClass own = some m.cls) (w : (Cond.fieldLink own idx R0 n d).before a0 Z = true ∨ (Cond.fieldLinkNest own idx R0 n d host).before a0 Z = true) (via : Via Z R0 O n d) (eT : T.heap = h) (F : Fld Z h a O n d v) (hd : decode c.code pc = .ok (.getfield idx, 3)) (hp : pc + 3 = pc') (k : ∀ T', Stand p l e R s m args below meth c T' locs cells slots → T'.heap = h → own_G p.tables e below P T' (mkF m pc' Ls (v :: rest))) : own_G p.tables e below P T (mkF m pc Ls (.ref a :: rest)) := by
  subst hp; obtain ⟨T', X', e', st⟩ := getF X hx hZ hown w via eT F (g := mkF m pc Ls (.ref a :: rest)) rfl rfl hd; exact own_go st (k T' X' e')
theorem own_getS (X : Stand p l e R s m args below meth c T locs cells slots) (hx : p.tables.exec = Jvm.exec) {pc pc' : Nat} {Ls : Array Slot} (hZ : Z.Warmed39 s.vm) {own R0 O n d host : String} {idx : Nat} {v : Value} {st : List Value} (hown : s.vm.findClass own = some m.cls) (w : (Cond.fieldLink own idx R0 n d).before a0 Z = true ∨ (Cond.fieldLinkNest own idx R0 n d host).before a0 Z = true) (via : Via Z R0 O n d) (eT : T.heap = h) (F : Sta Z h O n d v) (hd : decode c.code pc = .ok (.getstatic idx, 3)) (hp : pc + 3 = pc') (k : ∀ T', Stand p l e R s m args below meth c T' locs cells slots → T'.heap = h → own_G p.tables e below P T' (mkF m pc' Ls (v :: st))) : own_G p.tables e below P T (mkF m pc Ls st) := by
  subst hp; obtain ⟨T', X', e', stp⟩ := getS2 X hx hZ hown w via eT F (g := mkF m pc Ls st) rfl hd; exact own_go stp (k T' X' e')
theorem own_len (X : Stand p l e R s m args below meth c T locs cells slots) (hx : p.tables.exec = Jvm.exec) {pc pc' : Nat} {Ls : Array Slot} (hZ : Z.Warmed39 s.vm) {a : Addr} {cl : Cell} {ty : FieldType} {z : Int32} {rest : List Value} (eT : T.heap = h) (A : Arr Z h a cl ty) (S : cl.slots.size = z.toNatClampNeg) (M : ¬ z < 0) (hd : decode c.code pc = .ok (.arraylength, 1)) (hp : pc + 1 = pc') (k : own_G p.tables e below P T (mkF m pc' Ls (.int z :: rest))) : own_G p.tables e below P T (mkF m pc Ls (.ref a :: rest)) := by
  subst hp; exact own_go (fun t q => X.arraylength hx (by rw [eT]; exact A.1) (State.isArrayOf_alike hZ.alike A.2.1) (g := mkF m pc Ls (.ref a :: rest)) rfl rfl hd _ (by rw [len_of S M]; exact q)) k
theorem own_iaload (X : Stand p l e R s m args below meth c T locs cells slots) (hx : p.tables.exec = Jvm.exec) {pc pc' : Nat} {Ls : Array Slot} (hZ : Z.Warmed39 s.vm) {a : Addr} {cl : Cell} {j : Int32} {v : Int32} {rest : List Value} (eT : T.heap = h) (A : Arr Z h a cl .int) (hj : ¬ (j < 0 ∨ cl.slots.size ≤ j.toNatClampNeg)) (hv : cl.slots[j.toNatClampNeg]? = some (.int v)) (hd : decode c.code pc = .ok (.iaload, 1)) (hp : pc + 1 = pc') (k : own_G p.tables e below P T (mkF m pc' Ls ((.int v) :: rest))) : own_G p.tables e below P T (mkF m pc Ls (.int j :: .ref a :: rest)) := by
  subst hp; exact own_go (X.iaload hx (j := j) (v := (.int v)) (by rw [eT]; exact A.1) (State.isArrayOf_alike hZ.alike A.2.1) A.2.2 hj hv (g := mkF m pc Ls (.int j :: .ref a :: rest)) rfl rfl hd) k
theorem own_laload (X : Stand p l e R s m args below meth c T locs cells slots) (hx : p.tables.exec = Jvm.exec) {pc pc' : Nat} {Ls : Array Slot} (hZ : Z.Warmed39 s.vm) {a : Addr} {cl : Cell} {j : Int32} {v : Int64} {rest : List Value} (eT : T.heap = h) (A : Arr Z h a cl .long) (hj : ¬ (j < 0 ∨ cl.slots.size ≤ j.toNatClampNeg)) (hv : cl.slots[j.toNatClampNeg]? = some (.long v)) (hd : decode c.code pc = .ok (.laload, 1)) (hp : pc + 1 = pc') (k : own_G p.tables e below P T (mkF m pc' Ls ((.long v) :: rest))) : own_G p.tables e below P T (mkF m pc Ls (.int j :: .ref a :: rest)) := by
  subst hp; exact own_go (X.laload hx (j := j) (v := (.long v)) (by rw [eT]; exact A.1) (State.isArrayOf_alike hZ.alike A.2.1) A.2.2 hj hv (g := mkF m pc Ls (.int j :: .ref a :: rest)) rfl rfl hd) k
theorem own_baload (X : Stand p l e R s m args below meth c T locs cells slots) (hx : p.tables.exec = Jvm.exec) {pc pc' : Nat} {Ls : Array Slot} (hZ : Z.Warmed39 s.vm) {a : Addr} {cl : Cell} {j : Int32} {v : Int32} {rest : List Value} (eT : T.heap = h) (A : Arr Z h a cl .byte) (hj : ¬ (j < 0 ∨ cl.slots.size ≤ j.toNatClampNeg)) (hv : cl.slots[j.toNatClampNeg]? = some (.int v)) (hd : decode c.code pc = .ok (.baload, 1)) (hp : pc + 1 = pc') (k : own_G p.tables e below P T (mkF m pc' Ls ((.int v) :: rest))) : own_G p.tables e below P T (mkF m pc Ls (.int j :: .ref a :: rest)) := by
  subst hp; exact own_go (X.baloadBytes hx (j := j) (v := (.int v)) (by rw [eT]; exact A.1) (State.isArrayOf_alike hZ.alike A.2.1) A.2.2 hj hv (g := mkF m pc Ls (.int j :: .ref a :: rest)) rfl rfl hd) k
theorem own_caload (X : Stand p l e R s m args below meth c T locs cells slots) (hx : p.tables.exec = Jvm.exec) {pc pc' : Nat} {Ls : Array Slot} (hZ : Z.Warmed39 s.vm) {a : Addr} {cl : Cell} {j : Int32} {v : Int32} {rest : List Value} (eT : T.heap = h) (A : Arr Z h a cl .char) (hj : ¬ (j < 0 ∨ cl.slots.size ≤ j.toNatClampNeg)) (hv : cl.slots[j.toNatClampNeg]? = some (.int v)) (hd : decode c.code pc = .ok (.caload, 1)) (hp : pc + 1 = pc') (k : own_G p.tables e below P T (mkF m pc' Ls ((.int v) :: rest))) : own_G p.tables e below P T (mkF m pc Ls (.int j :: .ref a :: rest)) := by
  subst hp; exact own_go (X.caload hx (j := j) (v := (.int v)) (by rw [eT]; exact A.1) (State.isArrayOf_alike hZ.alike A.2.1) A.2.2 hj hv (g := mkF m pc Ls (.int j :: .ref a :: rest)) rfl rfl hd) k
theorem own_aaload (X : Stand p l e R s m args below meth c T locs cells slots) (hx : p.tables.exec = Jvm.exec) {pc pc' : Nat} {Ls : Array Slot} (hZ : Z.Warmed39 s.vm) {a : Addr} {cl : Cell} {ty : FieldType} {j : Int32} {v : Value} {rest : List Value} (eT : T.heap = h) (A : Arr Z h a cl ty) (hty : ty.isReference = true) (hj : ¬ (j < 0 ∨ cl.slots.size ≤ j.toNatClampNeg)) (hv : cl.slots[j.toNatClampNeg]? = some v) (hd : decode c.code pc = .ok (.aaload, 1)) (hp : pc + 1 = pc') (k : own_G p.tables e below P T (mkF m pc' Ls (v :: rest))) : own_G p.tables e below P T (mkF m pc Ls (.int j :: .ref a :: rest)) := by
  subst hp; exact own_go (X.aaload hx (j := j) (v := v) (by rw [eT]; exact A.1) (State.isArrayOf_alike hZ.alike A.2.1) hty A.2.2 hj hv (g := mkF m pc Ls (.int j :: .ref a :: rest)) rfl rfl hd) k
theorem own_stI (X : Stand p l e R s m args below meth c T locs cells slots) (hx : p.tables.exec = Jvm.exec) {pc pc' : Nat} {Ls : Array Slot} (hZ : Z.Warmed39 s.vm) {a : Addr} {cl : Cell} {j : Int32} {x : Int32} {rest : List Value} (eT : T.heap = h) (A : Arr Z h a cl .int) (hj : ¬ (j < 0 ∨ cl.slots.size ≤ j.toNatClampNeg)) (hd : decode c.code pc = .ok (.iastore, 1)) (hp : pc + 1 = pc') (k : ∀ T' h', Stand p l e R s m args below meth c T' (locs ++ [⟨a, j.toNatClampNeg⟩]) cells slots → T'.heap = h' → Wr h h' a j.toNatClampNeg (.int x) → own_G p.tables e below P T' (mkF m pc' Ls rest)) : own_G p.tables e below P T (mkF m pc Ls (.int x :: .int j :: .ref a :: rest)) := by
  subst hp; obtain ⟨T', h', X', e', W', st⟩ := stI X hx hZ eT A (j := j) hj (g := mkF m pc Ls (.int x :: .int j :: .ref a :: rest)) rfl rfl hd; exact own_go st (k T' h' X' e' W')
theorem own_stJ (X : Stand p l e R s m args below meth c T locs cells slots) (hx : p.tables.exec = Jvm.exec) {pc pc' : Nat} {Ls : Array Slot} (hZ : Z.Warmed39 s.vm) {a : Addr} {cl : Cell} {j : Int32} {x : Int64} {rest : List Value} (eT : T.heap = h) (A : Arr Z h a cl .long) (hj : ¬ (j < 0 ∨ cl.slots.size ≤ j.toNatClampNeg)) (hd : decode c.code pc = .ok (.lastore, 1)) (hp : pc + 1 = pc') (k : ∀ T' h', Stand p l e R s m args below meth c T' (locs ++ [⟨a, j.toNatClampNeg⟩]) cells slots → T'.heap = h' → Wr h h' a j.toNatClampNeg (.long x) → own_G p.tables e below P T' (mkF m pc' Ls rest)) : own_G p.tables e below P T (mkF m pc Ls (.long x :: .int j :: .ref a :: rest)) := by
  subst hp; obtain ⟨T', h', X', e', W', st⟩ := stJ X hx hZ eT A (j := j) hj (g := mkF m pc Ls (.long x :: .int j :: .ref a :: rest)) rfl rfl hd; exact own_go st (k T' h' X' e' W')
theorem own_stB (X : Stand p l e R s m args below meth c T locs cells slots) (hx : p.tables.exec = Jvm.exec) {pc pc' : Nat} {Ls : Array Slot} (hZ : Z.Warmed39 s.vm) {a : Addr} {cl : Cell} {j : Int32} {x : Int32} {rest : List Value} (eT : T.heap = h) (A : Arr Z h a cl .byte) (hj : ¬ (j < 0 ∨ cl.slots.size ≤ j.toNatClampNeg)) (hd : decode c.code pc = .ok (.bastore, 1)) (hp : pc + 1 = pc') (k : ∀ T' h', Stand p l e R s m args below meth c T' (locs ++ [⟨a, j.toNatClampNeg⟩]) cells slots → T'.heap = h' → Wr h h' a j.toNatClampNeg (.int (nar .byte x)) → own_G p.tables e below P T' (mkF m pc' Ls rest)) : own_G p.tables e below P T (mkF m pc Ls (.int x :: .int j :: .ref a :: rest)) := by
  subst hp; obtain ⟨T', h', X', e', W', st⟩ := stB X hx hZ eT A (j := j) hj (g := mkF m pc Ls (.int x :: .int j :: .ref a :: rest)) rfl rfl hd; exact own_go st (k T' h' X' e' W')
theorem own_stC (X : Stand p l e R s m args below meth c T locs cells slots) (hx : p.tables.exec = Jvm.exec) {pc pc' : Nat} {Ls : Array Slot} (hZ : Z.Warmed39 s.vm) {a : Addr} {cl : Cell} {j : Int32} {x : Int32} {rest : List Value} (eT : T.heap = h) (A : Arr Z h a cl .char) (hj : ¬ (j < 0 ∨ cl.slots.size ≤ j.toNatClampNeg)) (hd : decode c.code pc = .ok (.castore, 1)) (hp : pc + 1 = pc') (k : ∀ T' h', Stand p l e R s m args below meth c T' (locs ++ [⟨a, j.toNatClampNeg⟩]) cells slots → T'.heap = h' → Wr h h' a j.toNatClampNeg (.int (nar .char x)) → own_G p.tables e below P T' (mkF m pc' Ls rest)) : own_G p.tables e below P T (mkF m pc Ls (.int x :: .int j :: .ref a :: rest)) := by
  subst hp; obtain ⟨T', h', X', e', W', st⟩ := stC X hx hZ eT A (j := j) hj (g := mkF m pc Ls (.int x :: .int j :: .ref a :: rest)) rfl rfl hd; exact own_go st (k T' h' X' e' W')
theorem own_stR (X : Stand p l e R s m args below meth c T locs cells slots) (hx : p.tables.exec = Jvm.exec) {pc pc' : Nat} {Ls : Array Slot} (hZ : Z.Warmed39 s.vm) {a : Addr} {cl : Cell} {j : Int32} {x : Value} {ty : FieldType} {rest : List Value} (eT : T.heap = h) (A : Arr Z h a cl ty) (hj : ¬ (j < 0 ∨ cl.slots.size ≤ j.toNatClampNeg)) (hty : ty.isReference = true) (F : Sto Z h a x) (hd : decode c.code pc = .ok (.aastore, 1)) (hp : pc + 1 = pc') (k : ∀ T' h', Stand p l e R s m args below meth c T' (locs ++ [⟨a, j.toNatClampNeg⟩]) cells slots → T'.heap = h' → Wr h h' a j.toNatClampNeg x → own_G p.tables e below P T' (mkF m pc' Ls rest)) : own_G p.tables e below P T (mkF m pc Ls (x :: .int j :: .ref a :: rest)) := by
  subst hp; obtain ⟨T', h', X', e', W', st⟩ := stR X hx hZ eT A (j := j) hj hty F (g := mkF m pc Ls (x :: .int j :: .ref a :: rest)) rfl rfl hd; exact own_go st (k T' h' X' e' W')
theorem own_putF (X : Stand p l e R s m args below meth c T locs cells slots) (hx : p.tables.exec = Jvm.exec) {pc pc' : Nat} {Ls : Array Slot} (hZ : Z.Warmed39 s.vm) {own R0 O n d host C : String} {idx kk : Nat} {ty : FieldType} {a : Addr} {v old : Value} {rest : List Value} (hown : s.vm.findClass own = some m.cls) (w : (Cond.fieldLink own idx R0 n d).before a0 Z = true ∨ (Cond.fieldLinkNest own idx R0 n d host).before a0 Z = true) (via : Via Z R0 O n d) (eT : T.heap = h) (F : Fld Z h a O n d old) (E : Exa Z h a C) (L : (Cond.lays C O n d).before a0 Z = true ∨ ((Cond.laysFinal C O n d).before a0 Z = true ∧ own = O ∧ meth.name = "<init>")) (wi : (Cond.instantiable C kk).before a0 Z = true) (hty : parseFieldDescriptor d = some ty) (hn : narrow ty v = v) (hf : fits ty v = true) (hd : decode c.code pc = .ok (.putfield idx, 3)) (hp : pc + 3 = pc') (k : ∀ T' h', Stand p l e R s m args below meth c T' (locs ++ [⟨a, Jvm.RoadKit.slotOf Z O n d⟩]) cells slots → T'.heap = h' → Wr h h' a (Jvm.RoadKit.slotOf Z O n d) v → own_G p.tables e below P T' (mkF m pc' Ls rest)) : own_G p.tables e below P T (mkF m pc Ls (v :: .ref a :: rest)) := by
  subst hp; obtain ⟨T', h', X', e', W', st⟩ := putF X hx hZ hown w via eT F E L wi hty hn hf (g := mkF m pc Ls (v :: .ref a :: rest)) rfl rfl hd; exact own_go st (k T' h' X' e' W')
theorem own_putFN (X : Stand p l e R s m args below meth c T locs cells slots) (hx : p.tables.exec = Jvm.exec) {pc pc' : Nat} {Ls : Array Slot} (hZ : Z.Warmed39 s.vm) {own R0 O n d C : String} {idx kk : Nat} {ty : FieldType} {a : Addr} {v old : Value} (v' : Value) {rest : List Value} (hown : s.vm.findClass own = some m.cls) (w : (Cond.fieldLink own idx R0 n d).before a0 Z = true) (via : Via Z R0 O n d) (eT : T.heap = h) (F : Fld Z h a O n d old) (E : Exa Z h a C) (L : (Cond.lays C O n d).before a0 Z = true ∨ ((Cond.laysFinal C O n d).before a0 Z = true ∧ own = O ∧ meth.name = "<init>")) (wi : (Cond.instantiable C kk).before a0 Z = true) (hty : parseFieldDescriptor d = some ty) (hn : narrow ty v = v') (hf : fits ty v' = true) (hd : decode c.code pc = .ok (.putfield idx, 3)) (hp : pc + 3 = pc') (k : ∀ T' h', Stand p l e R s m args below meth c T' (locs ++ [⟨a, Jvm.RoadKit.slotOf Z O n d⟩]) cells slots → T'.heap = h' → Wr h h' a (Jvm.RoadKit.slotOf Z O n d) v' → own_G p.tables e below P T' (mkF m pc' Ls rest)) : own_G p.tables e below P T (mkF m pc Ls (v :: .ref a :: rest)) := by
  subst hp; obtain ⟨T', h', X', e', W', st⟩ := putFN X hx hZ hown w via eT F E L wi hty hn hf (g := mkF m pc Ls (v :: .ref a :: rest)) rfl rfl hd; exact own_go st (k T' h' X' e' W')
theorem own_new (X : Stand p l e R s m args below meth c T locs cells slots) (hx : p.tables.exec = Jvm.exec) {pc pc' : Nat} {Ls : Array Slot} (hZ : Z.Warmed39 s.vm) {own C : String} {idx n : Nat} {st : List Value} (hown : s.vm.findClass own = some m.cls) (w : (Cond.classLink own idx C).before a0 Z = true) (wi : (Cond.instantiable C n).before a0 Z = true) (wz : (Cond.initialized C).before a0 Z = true) (eT : T.heap = h) (hd : decode c.code pc = .ok (.new idx, 3)) (hc : cells + 1 ≤ R.cells) (hl : slots + n ≤ R.slots) (hp : pc + 3 = pc') (k : ∀ T' h' b, b = h.size → Stand p l e R s m args below meth c T' locs (cells + 1) (slots + n) → T'.heap = h' → Ext h h' → Exa Z h' b C → (∀ {O nm d : String} {ty : FieldType}, Laid Z a0 C O nm d → parseFieldDescriptor d = some ty → Fld Z h' b O nm d (defaultValue ty)) → own_G p.tables e below P T' (mkF m pc' Ls (.ref b :: st))) : own_G p.tables e below P T (mkF m pc Ls st) := by
  subst hp; obtain ⟨T', h', X', e', E', A', D', -, stp⟩ := newO X hx hZ hown w wi wz eT (g := mkF m pc Ls st) rfl hd hc hl; exact own_go stp (k T' h' _ rfl X' e' E' A' D')
theorem own_newP (X : Stand p l e R s m args below meth c T locs cells slots) (hx : p.tables.exec = Jvm.exec) {pc pc' : Nat} {Ls : Array Slot} (hZ : Z.Warmed39 s.vm) {aty : ArrayType} {z : Int32} {rest : List Value} (w : (Cond.arrayClass (newarray.typeOf aty)).before a0 Z = true) (eT : T.heap = h) (hd : decode c.code pc = .ok (.newarray aty, 2)) (hn : ¬ z < 0) (cap : Nat) (hcap : z.toNatClampNeg ≤ cap) (hb : cap * 8 ≤ 536870912) (hc : cells + 1 ≤ R.cells) (hl : slots + cap ≤ R.slots) (hp : pc + 2 = pc') (k : ∀ T' h' cA b, b = h.size → Stand p l e R s m args below meth c T' locs (cells + 1) (slots + cap) → T'.heap = h' → Ext h h' → Arr Z h' b (newA cA (newarray.typeOf aty) z) (newarray.typeOf aty) → own_G p.tables e below P T' (mkF m pc' Ls (.ref b :: rest))) : own_G p.tables e below P T (mkF m pc Ls (.int z :: rest)) := by
  subst hp; obtain ⟨T', h', cA, X', e', E', A', stp⟩ := newP X hx hZ w eT (g := mkF m pc Ls (.int z :: rest)) rfl hd rfl hn hcap hb hc hl; exact own_go stp (k T' h' cA _ rfl X' e' E' A')
theorem own_newR (X : Stand p l e R s m args below meth c T locs cells slots) (hx : p.tables.exec = Jvm.exec) {pc pc' : Nat} {Ls : Array Slot} (hZ : Z.Warmed39 s.vm) {own C : String} {idx : Nat} {z : Int32} {rest : List Value} (hown : s.vm.findClass own = some m.cls) (w1 : (Cond.classLink own idx C).before a0 Z = true) (w2 : (Cond.arrayOver (.object C)).before a0 Z = true) (eT : T.heap = h) (hd : decode c.code pc = .ok (.anewarray idx, 3)) (hn : ¬ z < 0) (cap : Nat) (hcap : z.toNatClampNeg ≤ cap) (hb : cap * 8 ≤ 536870912) (hc : cells + 1 ≤ R.cells) (hl : slots + cap ≤ R.slots) (hp : pc + 3 = pc') (k : ∀ T' h' cA b, b = h.size → Stand p l e R s m args below meth c T' locs (cells + 1) (slots + cap) → T'.heap = h' → Ext h h' → Arr Z h' b (newA cA (.object C) z) (.object C) → Ovr Z cA C → own_G p.tables e below P T' (mkF m pc' Ls (.ref b :: rest))) : own_G p.tables e below P T (mkF m pc Ls (.int z :: rest)) := by
  subst hp; obtain ⟨T', h', cA, X', e', E', A', O', stp⟩ := newR X hx hZ hown w1 w2 eT (g := mkF m pc Ls (.int z :: rest)) rfl hd rfl hn hcap hb hc hl; exact own_go stp (k T' h' cA _ rfl X' e' E' A' O')
theorem own_initO (X : Stand p l e R s m args below meth c T locs cells slots) (hx : p.tables.exec = Jvm.exec) {pc pc' : Nat} {Ls : Array Slot} (hZ : Z.Warmed39 s.vm) {own : String} {idx : Nat} {a : Addr} {rest : List Value} (hown : s.vm.findClass own = some m.cls) (w1 : (Cond.methodLink own idx Lib.objectInit).before a0 Z = true) (w2 : (Cond.instanceMethod Lib.objectInit).before a0 Z = true) (w3 : (Cond.code Lib.objectInit ⟨#[0xb1]⟩ 1 none).before a0 Z = true) (eT : T.heap = h) (hsz : Ls.size = c.maxLocals) (hd : decode c.code pc = .ok (.invokespecial idx, 3)) (hf : 1 ≤ R.frames) (W : Nat) (hW : 2 * 0 + (rest.map fun v => v.category).sum ≤ W) (hl : W + 12 ≤ R.locals) (hp : pc + 3 = pc') (k : ∀ T', Stand p l e R s m args below meth c T' locs cells slots → T'.heap = h → own_G p.tables e below P T' (mkF m pc' Ls rest)) : own_G p.tables e below P T (mkF m pc Ls (.ref a :: rest)) := by
  subst hp; obtain ⟨T', X', e', st⟩ := initO X hx hZ hown w1 w2 w3 eT (g := mkF m pc Ls (.ref a :: rest)) rfl hsz rfl hd hf hW hl; exact own_go st (k T' X' e')
theorem own_callS (X : Stand p l e R s m args below meth c T locs cells slots) (hx : p.tables.exec = Jvm.exec) {pc pc' : Nat} {Ls : Array Slot} (hZ : Z.Warmed39 s.vm) {own : String} {idx : Nat} {y : MethodName} {bytes : ByteArray} {maxL : Nat} {ret : Option FieldType} {rm : Room} {as' : Array Value} {Q : Option Value → Heap → List Loc → Prop} (hown : s.vm.findClass own = some m.cls) (w1 : (Cond.methodLink own idx y).before a0 Z = true) (w2 : (Cond.static y).before a0 Z = true) (w3 : (Cond.initialized y.cls).before a0 Z = true) (w4 : (Cond.code y bytes maxL ret).before a0 Z = true) (hy : y.cls ≠ "java/lang/invoke/MethodHandle" ∧ y.cls ≠ "java/lang/invoke/VarHandle") (hM : MetFree l y (head1 [Cond.code y bytes maxL ret] rm) (fun a U => a = as' ∧ Z.Warmed39 U.vm ∧ U.heap = h) (fun _ _ _ _ _ => True) (fun _ U o U' => ∃ v L, o = .returned v ∧ Q v U'.heap L ∧ FrameEnd U o U' L rm.cells rm.slots)) (eT : T.heap = h) (W : Nat) (hf : rm.frames + 1 ≤ R.frames) (hl : W + (maxL + 11) + rm.locals ≤ R.locals) (hc : cells + rm.cells ≤ R.cells) (hsl : slots + rm.slots ≤ R.slots) {st : List Value} (argsL rest : List Value) (hsz : Ls.size = c.maxLocals) (hlen : ∀ sig, parseMethodDescriptor y.desc = some sig → argsL.length = sig.parameters.length) (has : argsL.toArray = as') (hst : st = argsL.reverse ++ rest) (hW : 2 * 0 + (rest.map fun v => v.category).sum ≤ W) (hd : decode c.code pc = .ok (.invokestatic idx, 3)) (hp : pc + 3 = pc') (k : ∀ v T' L, Stand p l e R s m args below meth c T' (locs ++ L) (cells + rm.cells) (slots + rm.slots) → Q v T'.heap L → own_G p.tables e below P T' (mkF m pc' Ls (v.toList ++ rest))) : own_G p.tables e below P T (mkF m pc Ls st) := by
  subst hp
  obtain ⟨v, vm, ⟨T', L', k', n'⟩, -, X', ⟨L, hQ, l', y', z'⟩, stp⟩ := Jvm.LawKit.callS X hx (y := y) hown (mvT hZ w1) (mvT hZ w2) (mvT hZ w3) (mvT hZ w4) hy (backOf (W := W) hM hZ w4 w3 hf hl) (g := mkF m pc Ls st) rfl hsz (argsL := argsL) (rest := rest) hlen hst hW hd (fun _ _ => ⟨has, eT, hc, hsl⟩)
  dsimp only [Pt.U, Pt.locs, Pt.cells, Pt.slots] at X' l' y' z' stp hQ
  subst l' y' z'
  exact own_go stp (k v T' L X' hQ)
theorem own_callV (X : Stand p l e R s m args below meth c T locs cells slots) (hx : p.tables.exec = Jvm.exec) {pc pc' : Nat} {Ls : Array Slot} (hZ : Z.Warmed39 s.vm) {own C : String} {idx : Nat} {y : MethodName} {bytes : ByteArray} {maxL : Nat} {ret : Option FieldType} {rm : Room} {as' : Array Value} {Q : Option Value → Heap → List Loc → Prop} (hown : s.vm.findClass own = some m.cls) (w1 : (Cond.methodLink own idx y).before a0 Z = true) (w2 : (Cond.instanceMethod y).before a0 Z = true) (w3 : (Cond.selects C y y).before a0 Z = true) (w4 : (Cond.code y bytes maxL ret).before a0 Z = true) (w5 : (Cond.initialized y.cls).before a0 Z = true) (hy : y.cls ≠ "java/lang/invoke/MethodHandle" ∧ y.cls ≠ "java/lang/invoke/VarHandle") (hM : MetFree l y (head1 [Cond.code y bytes maxL ret] rm) (fun a U => a = as' ∧ Z.Warmed39 U.vm ∧ U.heap = h) (fun _ _ _ _ _ => True) (fun _ U o U' => ∃ v L, o = .returned v ∧ Q v U'.heap L ∧ FrameEnd U o U' L rm.cells rm.slots)) (eT : T.heap = h) {b : Addr} (E : Exa Z h b C) (W : Nat) (hf : rm.frames + 1 ≤ R.frames) (hl : W + (maxL + 11) + rm.locals ≤ R.locals) (hc : cells + rm.cells ≤ R.cells) (hsl : slots + rm.slots ≤ R.slots) {st : List Value} (argsL rest : List Value) (hsz : Ls.size = c.maxLocals) (hlen : ∀ sig, parseMethodDescriptor y.desc = some sig → argsL.length = sig.parameters.length) (has : (Value.ref b :: argsL).toArray = as') (hst : st = argsL.reverse ++ .ref b :: rest) (hW : 2 * 0 + (rest.map fun v => v.category).sum ≤ W) (hd : decode c.code pc = .ok (.invokevirtual idx, 3)) (hp : pc + 3 = pc') (k : ∀ v T' L, Stand p l e R s m args below meth c T' (locs ++ L) (cells + rm.cells) (slots + rm.slots) → Q v T'.heap L → own_G p.tables e below P T' (mkF m pc' Ls (v.toList ++ rest))) : own_G p.tables e below P T (mkF m pc Ls st) := by
  subst hp
  obtain ⟨cell, kc, q1, q2, q3, q4, -⟩ := E
  obtain ⟨v, vm, ⟨T', L', k', n'⟩, -, X', ⟨L, hQ, l', y', z'⟩, stp⟩ := Jvm.LawKit.callV X hx (y := y) (C := C) hown (mvT hZ w1) (mvT hZ w2) (mvT hZ w3) (mvT hZ w4) hy (backOf (W := W) hM hZ w4 w5 hf hl) (b := b) (cellB := cell) (by rw [eT]; exact q1) q4 (by rw [hZ.alike.findClass]; exact q2) (g := mkF m pc Ls st) rfl hsz (argsL := argsL) (rest := rest) hlen hst hW hd (fun _ _ => ⟨has, eT, hc, hsl⟩)
  dsimp only [Pt.U, Pt.locs, Pt.cells, Pt.slots] at X' l' y' z' stp hQ
  subst l' y' z'
  exact own_go stp (k v T' L X' hQ)
theorem own_callI (X : Stand p l e R s m args below meth c T locs cells slots) (hx : p.tables.exec = Jvm.exec) {pc pc' : Nat} {Ls : Array Slot} (hZ : Z.Warmed39 s.vm) {own : String} {idx : Nat} {y : MethodName} {bytes : ByteArray} {maxL : Nat} {rm : Room} {as' : Array Value} {Q : Option Value → Heap → List Loc → Prop} (hy1 : y.name = "<init>") (hown : s.vm.findClass own = some m.cls) (w1 : (Cond.methodLink own idx y).before a0 Z = true) (w2 : (Cond.instanceMethod y).before a0 Z = true) (w4 : (Cond.code y bytes maxL none).before a0 Z = true) (w5 : (Cond.initialized y.cls).before a0 Z = true) (hy : y.cls ≠ "java/lang/invoke/MethodHandle" ∧ y.cls ≠ "java/lang/invoke/VarHandle") (hM : MetFree l y (head1 [Cond.code y bytes maxL none] rm) (fun a U => a = as' ∧ Z.Warmed39 U.vm ∧ U.heap = h) (fun _ _ _ _ _ => True) (fun _ U o U' => ∃ v L, o = .returned v ∧ Q v U'.heap L ∧ FrameEnd U o U' L rm.cells rm.slots)) (eT : T.heap = h) {b : Addr} (W : Nat) (hf : rm.frames + 1 ≤ R.frames) (hl : W + (maxL + 11) + rm.locals ≤ R.locals) (hc : cells + rm.cells ≤ R.cells) (hsl : slots + rm.slots ≤ R.slots) {st : List Value} (argsL rest : List Value) (hsz : Ls.size = c.maxLocals) (hlen : ∀ sig, parseMethodDescriptor y.desc = some sig → argsL.length = sig.parameters.length) (has : (Value.ref b :: argsL).toArray = as') (hst : st = argsL.reverse ++ .ref b :: rest) (hW : 2 * 0 + (rest.map fun v => v.category).sum ≤ W) (hd : decode c.code pc = .ok (.invokespecial idx, 3)) (hp : pc + 3 = pc') (k : ∀ v T' L, Stand p l e R s m args below meth c T' (locs ++ L) (cells + rm.cells) (slots + rm.slots) → Q v T'.heap L → own_G p.tables e below P T' (mkF m pc' Ls (v.toList ++ rest))) : own_G p.tables e below P T (mkF m pc Ls st) := by
  subst hp
  obtain ⟨v, vm, ⟨T', L', k', n'⟩, -, X', ⟨L, hQ, l', y', z'⟩, stp⟩ := Jvm.LawKit.callI X hx (y := y) hown hy1 (mvT hZ w1) (mvT hZ w2) (mvT hZ w4) hy (backOf (W := W) hM hZ w4 w5 hf hl) (g := mkF m pc Ls st) rfl hsz (a := b) (argsL := argsL) (rest := rest) hlen hst hW hd (fun _ _ => ⟨has, eT, hc, hsl⟩)
  dsimp only [Pt.U, Pt.locs, Pt.cells, Pt.slots] at X' l' y' z' stp hQ
  subst l' y' z'
  exact own_go stp (k v T' L X' hQ)
theorem own_fldI {u : Term} {C n d : String} {x : Addr} {z : Int32} (ht : u.eval args s none [] s = some (.ref x)) (hq : (Jvm.Cond.eq (.field u C n d) (.int z)).value args s none s [] = some true) : Fld s s.heap x C n d (.int z) :=
  Fld.start ((fld_at ht).symm.trans (Cond.eq_int (Cond.before_iff.mpr hq) rfl))
theorem own_fldR {u t : Term} {C n d : String} {x y : Addr} (ht : u.eval args s none [] s = some (.ref x)) (hu : t.eval args s none [] s = some (.ref y)) (hq : (Jvm.Cond.eq (.field u C n d) t).value args s none s [] = some true) : Fld s s.heap x C n d (.ref y) :=
  Fld.start ((fld_at ht).symm.trans (Cond.eq_refs (Cond.before_iff.mpr hq) hu rfl))
theorem own_none {u : Term} {x : Addr} {cl : Cell} (A : Arr s s.heap x cl .int) (ht : u.eval args s none [] s = some (.ref x)) (hq : (Jvm.Cond.eq (.length u) (.int 0)).value args s none s [] = some true) : Arv s s.heap x cl.cls .int (0 : Int32) [] (.int (0 : Int32)) := by
  have e1 := Cond.eq_int (Cond.before_iff.mpr hq) (n := 0) rfl
  obtain ⟨sd, SA, hev, harrAt, -⟩ := Term.length_spec e1
  have h31 := SBG.length_lt hev harrAt e1
  cases ht.symm.trans hev
  cases (Arr.fin (Vm.Alike.refl _) A).symm.trans harrAt
  have e2 := len_f ht harrAt h31
  have e3 : cl.slots.size.toInt32 = (0 : Int32) := by simpa using Option.some.inj (e2.symm.trans e1)
  have e4 : cl.slots.size = 0 := by
    have e5 := congrArg Int32.toInt e3
    rw [len_toInt h31] at e5
    have e6 : ((0 : Int32)).toInt = 0 := by decide
    omega
  exact ⟨cl, A, rfl, e4, by decide, fun k hk => by omega, fun i hi => by omega⟩
end OwnKit
theorem own_t32_m1 : (-1 : Int32).toInt = -1 := by decide
theorem own_t32_0 : (0 : Int32).toInt = 0 := by decide
theorem own_t32_1 : (1 : Int32).toInt = 1 := by decide
theorem own_t32_2 : (2 : Int32).toInt = 2 := by decide
theorem own_t32_3 : (3 : Int32).toInt = 3 := by decide
theorem own_t32_4 : (4 : Int32).toInt = 4 := by decide
theorem own_t32_5 : (5 : Int32).toInt = 5 := by decide
theorem own_t32_15 : (15 : Int32).toInt = 15 := by decide
theorem own_t32_16 : (16 : Int32).toInt = 16 := by decide
theorem own_t32_64 : (64 : Int32).toInt = 64 := by decide
def own_S (Z : State) (h : Heap) (sl hd an fr ag : Addr) (kh ka kf kg : ClassId) (t f : Int32) (g : Int64) (s0 s1 : Int32) : Prop := Exa Z h sl "com/example/pandarus/pandarus/Slots" ∧ Fld Z h sl "com/example/pandarus/pandarus/Slots" "held" "[Lcom/example/pandarus/pandarus/Ranked;" (.ref hd) ∧ Fld Z h sl "com/example/pandarus/pandarus/Slots" "answered" "[Lcom/example/pandarus/pandarus/Subscription;" (.ref an) ∧ Fld Z h sl "com/example/pandarus/pandarus/Slots" "freed" "[I" (.ref fr) ∧ Fld Z h sl "com/example/pandarus/pandarus/Slots" "again" "[J" (.ref ag) ∧ Fld Z h sl "com/example/pandarus/pandarus/Slots" "taken" "I" (.int t) ∧ Fld Z h sl "com/example/pandarus/pandarus/Slots" "free" "I" (.int f) ∧ (∃ vs : List Value, vs.length = 16 ∧ Arv Z h hd kh (.object "com/example/pandarus/pandarus/Ranked") (16 : Int32) vs .null) ∧ (∃ vs : List Value, vs.length = 16 ∧ Arv Z h an ka (.object "com/example/pandarus/pandarus/Subscription") (16 : Int32) vs .null) ∧ Arv Z h fr kf .int (16 : Int32) [.int s0, .int s1] (.int (0 : Int32)) ∧ Arv Z h ag kg .long (1 : Int32) [.long g] (.long (0 : Int64))
def own_D (Z : State) (n0 : Nat) (sl hd an fr ag : Addr) (kh : ClassId) : Prop := (n0 ≤ sl ∧ n0 ≤ hd ∧ n0 ≤ an ∧ n0 ≤ fr ∧ n0 ≤ ag) ∧ (sl ≠ hd ∧ sl ≠ an ∧ sl ≠ fr ∧ sl ≠ ag) ∧ (hd ≠ an ∧ hd ≠ fr ∧ hd ≠ ag ∧ an ≠ fr ∧ an ≠ ag ∧ fr ≠ ag) ∧ Ovr Z kh "com/example/pandarus/pandarus/Ranked"
theorem own_p2 (i : Nat) : (List.replicate 2 (Value.int (0 : Int32))).getD i (.int (0 : Int32)) = (List.replicate 16 (Value.int (0 : Int32))).getD i (.int (0 : Int32)) := (pad_rep [] (Value.int (0 : Int32)) 2 i).trans (pad_rep [] (Value.int (0 : Int32)) 16 i).symm
theorem d5_0 : decode jdk_30_method_1_code 0 = .ok (.aload_n 0, 1) := by decide +kernel
theorem d5_1 : decode jdk_30_method_1_code 1 = .ok (.invokespecial 1, 3) := by decide +kernel
theorem d5_4 : decode jdk_30_method_1_code 4 = .ok (.return_, 1) := by decide +kernel
def Qrec (h0 : Heap) (n0 : Nat) (v : Option Value) (h : Heap) (L : List Loc) : Prop := v = none ∧ Fr n0 L ∧ h = h0
theorem ef_rm_rec (m : MethodId) (x0 : Addr) : entryFrame m #[(.ref x0)] 1 = mkF m 0 #[.val (.ref x0)] [] := by first | (simp [entryFrame, mkF, argsToLocals, Value.category, maxLocals]; done) | rfl
theorem pf_0 : plainFor (⟨"java/lang/Record", "<init>", "()V"⟩ : MethodName) = true := by apply plainFor_of_name; first | (simp [plainName, overriddenIn]; done) | decide +kernel
theorem Wd42 {a0 : Array Value} {Z : State} (hw : ∀ d ∈ tables_1, d.before a0 Z = true) : (Jvm.Cond.methodLink "java/lang/Record" (1 : Nat) ({ cls := "java/lang/Object", name := "<init>", desc := "()V" } : Jvm.MethodName)).before a0 Z = true := hw _ (List.mem_of_getElem? (i := 42) rfl)
theorem Wd7 {a0 : Array Value} {Z : State} (hw : ∀ d ∈ tables_1, d.before a0 Z = true) : (Jvm.Cond.instanceMethod ({ cls := "java/lang/Object", name := "<init>", desc := "()V" } : Jvm.MethodName)).before a0 Z = true := hw _ (List.mem_of_getElem? (i := 7) rfl)
theorem Wd8 {a0 : Array Value} {Z : State} (hw : ∀ d ∈ tables_1, d.before a0 Z = true) : (Jvm.Cond.code ({ cls := "java/lang/Object", name := "<init>", desc := "()V" } : Jvm.MethodName) object_method_1_code (1 : Nat) (Option.none : Option Jvm.ClassFile.FieldType)).before a0 Z = true := hw _ (List.mem_of_getElem? (i := 8) rfl)
set_option maxRecDepth 65536 in
set_option maxHeartbeats 40000000 in
theorem rm_rec (l : Launch) (Z : State) (a0 : Array Value) (hw : ∀ d ∈ tables_1, d.before a0 Z = true) (ws : List Jvm.Cond) (a : Addr) (h0 : Heap) (n0 : Nat) (Z0 : n0 ≤ h0.size)  :
    MetFree l (⟨"java/lang/Record", "<init>", "()V"⟩ : MethodName) (head1 (Jvm.Cond.code (⟨"java/lang/Record", "<init>", "()V"⟩ : MethodName) jdk_30_method_1_code 1 none :: ws) ({ frames := 1, cells := 0, slots := 0, locals := 12 } : Room)) (fun aa U => aa = #[(.ref a)] ∧ Z.Warmed39 U.vm ∧ U.heap = h0) (fun _ _ _ _ _ => True) (fun _ U o U' => ∃ v L, o = .returned v ∧ Qrec h0 n0 v U'.heap L ∧ FrameEnd U o U' L (({ frames := 1, cells := 0, slots := 0, locals := 12 } : Room).cells) (({ frames := 1, cells := 0, slots := 0, locals := 12 } : Room).slots)) := by
  refine own_body pf_0 ?_
  intro p e s m below meth c s₁ hx hby hml hown hnm hlk hret hZ X0 e0
  have N0 : Fr n0 [] := Fr.nil n0
  refine own_go (f' := (mkF m 0 #[.val (.ref a)] [])) (fun t k => castTop (ef_rm_rec m a) k) ?_
  refine own_aloadN X0 hx (pc' := 1) (hb hby d5_0) rfl rfl rfl ?_
  refine own_initO X0 hx (pc' := 4) hZ hown (Wd42 hw) (Wd7 hw) (Wd8 hw) e0 (by rw [hml]; rfl) (hb hby d5_1) (by decide) 0 (Nat.le_of_eq rfl) (by decide) rfl (fun T1 X1 e1 => ?_)
  refine own_retV X1 hx hlk hret (hb hby d5_4) (by decide) (by decide) ?_
  exact ⟨rfl, N0, e1⟩

theorem d4_0 : decode prog_54_method_1_code 0 = .ok (.aload_n 0, 1) := by decide +kernel
theorem d4_1 : decode prog_54_method_1_code 1 = .ok (.invokespecial 1, 3) := by decide +kernel
theorem d4_4 : decode prog_54_method_1_code 4 = .ok (.aload_n 0, 1) := by decide +kernel
theorem d4_5 : decode prog_54_method_1_code 5 = .ok (.aload_n 1, 1) := by decide +kernel
theorem d4_6 : decode prog_54_method_1_code 6 = .ok (.putfield 7, 3) := by decide +kernel
theorem d4_9 : decode prog_54_method_1_code 9 = .ok (.aload_n 0, 1) := by decide +kernel
theorem d4_10 : decode prog_54_method_1_code 10 = .ok (.lload_n 2, 1) := by decide +kernel
theorem d4_11 : decode prog_54_method_1_code 11 = .ok (.putfield 13, 3) := by decide +kernel
theorem d4_14 : decode prog_54_method_1_code 14 = .ok (.aload_n 0, 1) := by decide +kernel
theorem d4_15 : decode prog_54_method_1_code 15 = .ok (.iload 4, 2) := by decide +kernel
theorem d4_17 : decode prog_54_method_1_code 17 = .ok (.putfield 17, 3) := by decide +kernel
theorem d4_20 : decode prog_54_method_1_code 20 = .ok (.return_, 1) := by decide +kernel
def Qrk (Z : State) (a : Addr) (z : Int32) (h0 : Heap) (n0 : Nat) (v : Option Value) (h : Heap) (L : List Loc) : Prop := v = none ∧ Fr n0 L ∧ Keep h0 h [a] ∧ Fld Z h a "com/example/pandarus/pandarus/Ranked" "slot" "I" (.int z)
theorem ef_rm_rk (m : MethodId) (x0 : Addr) (x2 : Int64) (x3 : Int32) : entryFrame m #[(.ref x0), .null, (.long x2), (.int x3)] 5 = mkF m 0 #[.val (.ref x0), .val .null, .val (.long x2), .second, .val (.int x3)] [] := by first | (simp [entryFrame, mkF, argsToLocals, Value.category, maxLocals]; done) | rfl
theorem pf_1 : plainFor (⟨"com/example/pandarus/pandarus/Ranked", "<init>", "(Lcom/example/pandarus/pandarus/Subscription;JI)V"⟩ : MethodName) = true := by apply plainFor_of_name; first | (simp [plainName, overriddenIn]; done) | decide +kernel
theorem Wd41 {a0 : Array Value} {Z : State} (hw : ∀ d ∈ tables_1, d.before a0 Z = true) : (Jvm.Cond.code ({ cls := "java/lang/Record", name := "<init>", desc := "()V" } : Jvm.MethodName) jdk_30_method_1_code (1 : Nat) (Option.none : Option Jvm.ClassFile.FieldType)).before a0 Z = true := hw _ (List.mem_of_getElem? (i := 41) rfl)
theorem Wd40 {a0 : Array Value} {Z : State} (hw : ∀ d ∈ tables_1, d.before a0 Z = true) : (Jvm.Cond.initialized "java/lang/Record").before a0 Z = true := hw _ (List.mem_of_getElem? (i := 40) rfl)
theorem pd_0 : parseMethodDescriptor "()V" = some ⟨[], none⟩ := by decide +kernel
theorem Wd37 {a0 : Array Value} {Z : State} (hw : ∀ d ∈ tables_1, d.before a0 Z = true) : (Jvm.Cond.methodLink "com/example/pandarus/pandarus/Ranked" (1 : Nat) ({ cls := "java/lang/Record", name := "<init>", desc := "()V" } : Jvm.MethodName)).before a0 Z = true := hw _ (List.mem_of_getElem? (i := 37) rfl)
theorem Wd38 {a0 : Array Value} {Z : State} (hw : ∀ d ∈ tables_1, d.before a0 Z = true) : (Jvm.Cond.instanceMethod ({ cls := "java/lang/Record", name := "<init>", desc := "()V" } : Jvm.MethodName)).before a0 Z = true := hw _ (List.mem_of_getElem? (i := 38) rfl)
theorem Wd43 {a0 : Array Value} {Z : State} (hw : ∀ d ∈ tables_1, d.before a0 Z = true) : (Jvm.Cond.fieldLink "com/example/pandarus/pandarus/Ranked" (7 : Nat) "com/example/pandarus/pandarus/Ranked" "subscription" "Lcom/example/pandarus/pandarus/Subscription;").before a0 Z = true := hw _ (List.mem_of_getElem? (i := 43) rfl)
theorem Wd44 {a0 : Array Value} {Z : State} (hw : ∀ d ∈ tables_1, d.before a0 Z = true) : (Jvm.Cond.laysFinal "com/example/pandarus/pandarus/Ranked" "com/example/pandarus/pandarus/Ranked" "subscription" "Lcom/example/pandarus/pandarus/Subscription;").before a0 Z = true := hw _ (List.mem_of_getElem? (i := 44) rfl)
theorem Wd32 {a0 : Array Value} {Z : State} (hw : ∀ d ∈ tables_1, d.before a0 Z = true) : (Jvm.Cond.instantiable "com/example/pandarus/pandarus/Ranked" (3 : Nat)).before a0 Z = true := hw _ (List.mem_of_getElem? (i := 32) rfl)
theorem Wd46 {a0 : Array Value} {Z : State} (hw : ∀ d ∈ tables_1, d.before a0 Z = true) : (Jvm.Cond.laysFinal "com/example/pandarus/pandarus/Ranked" "com/example/pandarus/pandarus/Ranked" "sequence" "J").before a0 Z = true := hw _ (List.mem_of_getElem? (i := 46) rfl)
theorem Wd48 {a0 : Array Value} {Z : State} (hw : ∀ d ∈ tables_1, d.before a0 Z = true) : (Jvm.Cond.laysFinal "com/example/pandarus/pandarus/Ranked" "com/example/pandarus/pandarus/Ranked" "slot" "I").before a0 Z = true := hw _ (List.mem_of_getElem? (i := 48) rfl)
theorem Wd45 {a0 : Array Value} {Z : State} (hw : ∀ d ∈ tables_1, d.before a0 Z = true) : (Jvm.Cond.fieldLink "com/example/pandarus/pandarus/Ranked" (13 : Nat) "com/example/pandarus/pandarus/Ranked" "sequence" "J").before a0 Z = true := hw _ (List.mem_of_getElem? (i := 45) rfl)
theorem Wd47 {a0 : Array Value} {Z : State} (hw : ∀ d ∈ tables_1, d.before a0 Z = true) : (Jvm.Cond.fieldLink "com/example/pandarus/pandarus/Ranked" (17 : Nat) "com/example/pandarus/pandarus/Ranked" "slot" "I").before a0 Z = true := hw _ (List.mem_of_getElem? (i := 47) rfl)
set_option maxRecDepth 65536 in
set_option maxHeartbeats 40000000 in
theorem rm_rk (l : Launch) (Z : State) (a0 : Array Value) (hw : ∀ d ∈ tables_1, d.before a0 Z = true) (ws : List Jvm.Cond) (a : Addr) (q : Int64) (z : Int32) (h0 : Heap) (n0 : Nat) (Z0 : n0 ≤ h0.size) (g_a : n0 ≤ a) (E_a : Exa Z h0 a "com/example/pandarus/pandarus/Ranked") (F_1 : Fld Z h0 a "com/example/pandarus/pandarus/Ranked" "subscription" "Lcom/example/pandarus/pandarus/Subscription;" .null) (F_2 : Fld Z h0 a "com/example/pandarus/pandarus/Ranked" "sequence" "J" (.long (0 : Int64))) (F_3 : Fld Z h0 a "com/example/pandarus/pandarus/Ranked" "slot" "I" (.int (0 : Int32))) :
    MetFree l (⟨"com/example/pandarus/pandarus/Ranked", "<init>", "(Lcom/example/pandarus/pandarus/Subscription;JI)V"⟩ : MethodName) (head1 (Jvm.Cond.code (⟨"com/example/pandarus/pandarus/Ranked", "<init>", "(Lcom/example/pandarus/pandarus/Subscription;JI)V"⟩ : MethodName) prog_54_method_1_code 5 none :: ws) ({ frames := 2, cells := 0, slots := 0, locals := 24 } : Room)) (fun aa U => aa = #[(.ref a), .null, (.long q), (.int z)] ∧ Z.Warmed39 U.vm ∧ U.heap = h0) (fun _ _ _ _ _ => True) (fun _ U o U' => ∃ v L, o = .returned v ∧ Qrk Z a z h0 n0 v U'.heap L ∧ FrameEnd U o U' L (({ frames := 2, cells := 0, slots := 0, locals := 24 } : Room).cells) (({ frames := 2, cells := 0, slots := 0, locals := 24 } : Room).slots)) := by
  refine own_body pf_1 ?_
  intro p e s m below meth c s₁ hx hby hml hown hnm hlk hret hZ X0 e0
  have N0 : Fr n0 [] := Fr.nil n0
  refine own_go (f' := (mkF m 0 #[.val (.ref a), .val .null, .val (.long q), .second, .val (.int z)] [])) (fun t k => castTop (ef_rm_rk m a q z) k) ?_
  have K1 : Keep h0 h0 [a] := Keep.refl _ _
  refine own_aloadN X0 hx (pc' := 1) (hb hby d4_0) rfl rfl rfl ?_
  refine own_callI X0 hx (pc' := 4) hZ rfl hown (Wd37 hw) (Wd38 hw) (Wd41 hw) (Wd40 hw) (by decide) (rm_rec l Z a0 hw [] a h0 n0 Z0) e0 (b := a) 0 (by decide) (by decide) (by decide) (by decide) [] [] (by rw [hml]; rfl) (lenOf pd_0 rfl) rfl rfl (Nat.le_of_eq rfl) (hb hby d4_1) rfl (fun v2 T2 L2 X2 hQ2 => ?_)
  obtain ⟨rfl, Nq2, e2⟩ := hQ2
  have N3 := Fr.app N0 Nq2
  show own_G p.tables e below _ T2 (mkF m 4 #[.val (.ref a), .val .null, .val (.long q), .second, .val (.int z)] [])
  refine own_aloadN X2 hx (pc' := 5) (hb hby d4_4) rfl rfl rfl ?_
  refine own_aloadN X2 hx (pc' := 6) (hb hby d4_5) rfl rfl rfl ?_
  refine own_putF X2 hx (pc' := 9) hZ (ty := (.object "com/example/pandarus/pandarus/Subscription")) hown (host := "") (Or.inl (Wd43 hw)) Via.refl e2 F_1 E_a (Or.inr ⟨(Wd44 hw), rfl, hnm⟩) (Wd32 hw) (by decide) rfl rfl (hb hby d4_6) rfl (fun T4 h4 X4 e4 W4 => ?_)
  have N5 := Fr.snoc X4 N3 g_a
  have Z6 : n0 ≤ h4.size := Nat.le_trans Z0 (Nat.le_of_eq (Wr.size W4).symm)
  have K7 : Keep h0 h4 [a] := K1.wr W4 (Or.inl (List.mem_of_getElem? (i := 0) rfl))
  have F8 := (Exa.wr W4 E_a)
  have F9 := (Fld.same W4 F_1)
  have F10 := (Fld.other W4 F_2 (Or.inr (slot_ne (Or.inr (Wd46 hw)) (Or.inr (Wd44 hw)) (by decide) (t := .long) (t' := (.object "com/example/pandarus/pandarus/Subscription")) (by decide) (by decide))))
  have F11 := (Fld.other W4 F_3 (Or.inr (slot_ne (Or.inr (Wd48 hw)) (Or.inr (Wd44 hw)) (by decide) (t := .int) (t' := (.object "com/example/pandarus/pandarus/Subscription")) (by decide) (by decide))))
  refine own_aloadN X4 hx (pc' := 10) (hb hby d4_9) rfl rfl rfl ?_
  refine own_lloadN X4 hx (pc' := 11) (hb hby d4_10) rfl rfl ?_
  refine own_putF X4 hx (pc' := 14) hZ (ty := .long) hown (host := "") (Or.inl (Wd45 hw)) Via.refl e4 F10 F8 (Or.inr ⟨(Wd46 hw), rfl, hnm⟩) (Wd32 hw) (by decide) rfl rfl (hb hby d4_11) rfl (fun T12 h12 X12 e12 W12 => ?_)
  have N13 := Fr.snoc X12 N5 g_a
  have Z14 : n0 ≤ h12.size := Nat.le_trans Z6 (Nat.le_of_eq (Wr.size W12).symm)
  have K15 : Keep h0 h12 [a] := K7.wr W12 (Or.inl (List.mem_of_getElem? (i := 0) rfl))
  have F16 := (Exa.wr W12 F8)
  have F17 := (Fld.other W12 F9 (Or.inr (slot_ne (Or.inr (Wd44 hw)) (Or.inr (Wd46 hw)) (by decide) (t := (.object "com/example/pandarus/pandarus/Subscription")) (t' := .long) (by decide) (by decide))))
  have F18 := (Fld.same W12 F10)
  have F19 := (Fld.other W12 F11 (Or.inr (slot_ne (Or.inr (Wd48 hw)) (Or.inr (Wd46 hw)) (by decide) (t := .int) (t' := .long) (by decide) (by decide))))
  refine own_aloadN X12 hx (pc' := 15) (hb hby d4_14) rfl rfl rfl ?_
  refine own_iload X12 hx (pc' := 17) (hb hby d4_15) rfl rfl ?_
  refine own_putF X12 hx (pc' := 20) hZ (ty := .int) hown (host := "") (Or.inl (Wd47 hw)) Via.refl e12 F19 F16 (Or.inr ⟨(Wd48 hw), rfl, hnm⟩) (Wd32 hw) (by decide) rfl rfl (hb hby d4_17) rfl (fun T20 h20 X20 e20 W20 => ?_)
  have N21 := Fr.snoc X20 N13 g_a
  have Z22 : n0 ≤ h20.size := Nat.le_trans Z14 (Nat.le_of_eq (Wr.size W20).symm)
  have K23 : Keep h0 h20 [a] := K15.wr W20 (Or.inl (List.mem_of_getElem? (i := 0) rfl))
  have F24 := (Exa.wr W20 F16)
  have F25 := (Fld.other W20 F17 (Or.inr (slot_ne (Or.inr (Wd44 hw)) (Or.inr (Wd48 hw)) (by decide) (t := (.object "com/example/pandarus/pandarus/Subscription")) (t' := .int) (by decide) (by decide))))
  have F26 := (Fld.other W20 F18 (Or.inr (slot_ne (Or.inr (Wd46 hw)) (Or.inr (Wd48 hw)) (by decide) (t := .long) (t' := .int) (by decide) (by decide))))
  have F27 := (Fld.same W20 F19)
  refine own_retV X20 hx hlk hret (hb hby d4_20) (by decide) (by decide) ?_
  rw [e20]
  exact ⟨rfl, N21, K23, F27⟩

theorem d8_0 : decode prog_54_method_9_code 0 = .ok (.aload_n 0, 1) := by decide +kernel
theorem d8_1 : decode prog_54_method_9_code 1 = .ok (.getfield 17, 3) := by decide +kernel
theorem d8_4 : decode prog_54_method_9_code 4 = .ok (.ireturn, 1) := by decide +kernel
def Qslot (z : Int32) (h0 : Heap) (n0 : Nat) (v : Option Value) (h : Heap) (L : List Loc) : Prop := v = some (.int z) ∧ Fr n0 L ∧ h = h0
theorem ef_rm_slot (m : MethodId) (x0 : Addr) : entryFrame m #[(.ref x0)] 1 = mkF m 0 #[.val (.ref x0)] [] := by first | (simp [entryFrame, mkF, argsToLocals, Value.category, maxLocals]; done) | rfl
theorem pf_2 : plainFor (⟨"com/example/pandarus/pandarus/Ranked", "slot", "()I"⟩ : MethodName) = true := by apply plainFor_of_name; first | (simp [plainName, overriddenIn]; done) | decide +kernel
set_option maxRecDepth 65536 in
set_option maxHeartbeats 40000000 in
theorem rm_slot (l : Launch) (Z : State) (a0 : Array Value) (hw : ∀ d ∈ tables_1, d.before a0 Z = true) (ws : List Jvm.Cond) (a : Addr) (z : Int32) (h0 : Heap) (n0 : Nat) (Z0 : n0 ≤ h0.size) (F_3 : Fld Z h0 a "com/example/pandarus/pandarus/Ranked" "slot" "I" (.int z)) :
    MetFree l (⟨"com/example/pandarus/pandarus/Ranked", "slot", "()I"⟩ : MethodName) (head1 (Jvm.Cond.code (⟨"com/example/pandarus/pandarus/Ranked", "slot", "()I"⟩ : MethodName) prog_54_method_9_code 1 (some .int) :: ws) ({ frames := 0, cells := 0, slots := 0, locals := 0 } : Room)) (fun aa U => aa = #[(.ref a)] ∧ Z.Warmed39 U.vm ∧ U.heap = h0) (fun _ _ _ _ _ => True) (fun _ U o U' => ∃ v L, o = .returned v ∧ Qslot z h0 n0 v U'.heap L ∧ FrameEnd U o U' L (({ frames := 0, cells := 0, slots := 0, locals := 0 } : Room).cells) (({ frames := 0, cells := 0, slots := 0, locals := 0 } : Room).slots)) := by
  refine own_body pf_2 ?_
  intro p e s m below meth c s₁ hx hby hml hown hnm hlk hret hZ X0 e0
  have N0 : Fr n0 [] := Fr.nil n0
  refine own_go (f' := (mkF m 0 #[.val (.ref a)] [])) (fun t k => castTop (ef_rm_slot m a) k) ?_
  refine own_aloadN X0 hx (pc' := 1) (hb hby d8_0) rfl rfl rfl ?_
  refine own_getF X0 hx (pc' := 4) hZ hown (host := "") (Or.inl (Wd47 hw)) Via.refl e0 F_3 (hb hby d8_1) rfl (fun T1 X1 e1 => ?_)
  refine own_retI X1 hx hlk hret (hb hby d8_4) (by decide) (by decide) ?_
  exact ⟨rfl, N0, e1⟩

theorem d1_0 : decode prog_65_method_1_code 0 = .ok (.aload_n 0, 1) := by decide +kernel
theorem d1_1 : decode prog_65_method_1_code 1 = .ok (.invokespecial 1, 3) := by decide +kernel
theorem d1_4 : decode prog_65_method_1_code 4 = .ok (.aload_n 0, 1) := by decide +kernel
theorem d1_5 : decode prog_65_method_1_code 5 = .ok (.bipush 16, 2) := by decide +kernel
theorem d1_7 : decode prog_65_method_1_code 7 = .ok (.anewarray 7, 3) := by decide +kernel
theorem d1_10 : decode prog_65_method_1_code 10 = .ok (.putfield 9, 3) := by decide +kernel
theorem d1_13 : decode prog_65_method_1_code 13 = .ok (.aload_n 0, 1) := by decide +kernel
theorem d1_14 : decode prog_65_method_1_code 14 = .ok (.bipush 16, 2) := by decide +kernel
theorem d1_16 : decode prog_65_method_1_code 16 = .ok (.anewarray 15, 3) := by decide +kernel
theorem d1_19 : decode prog_65_method_1_code 19 = .ok (.putfield 17, 3) := by decide +kernel
theorem d1_22 : decode prog_65_method_1_code 22 = .ok (.aload_n 0, 1) := by decide +kernel
theorem d1_23 : decode prog_65_method_1_code 23 = .ok (.bipush 16, 2) := by decide +kernel
theorem d1_25 : decode prog_65_method_1_code 25 = .ok (.newarray .int, 2) := by decide +kernel
theorem d1_27 : decode prog_65_method_1_code 27 = .ok (.putfield 21, 3) := by decide +kernel
theorem d1_30 : decode prog_65_method_1_code 30 = .ok (.aload_n 0, 1) := by decide +kernel
theorem d1_31 : decode prog_65_method_1_code 31 = .ok (.iconst 1, 1) := by decide +kernel
theorem d1_32 : decode prog_65_method_1_code 32 = .ok (.newarray .long, 2) := by decide +kernel
theorem d1_34 : decode prog_65_method_1_code 34 = .ok (.putfield 25, 3) := by decide +kernel
theorem d1_37 : decode prog_65_method_1_code 37 = .ok (.return_, 1) := by decide +kernel
def Qsi (Z : State) (sl : Addr) (h0 : Heap) (n0 : Nat) (v : Option Value) (h : Heap) (L : List Loc) : Prop := v = none ∧ Fr n0 L ∧ Keep h0 h [sl] ∧ ∃ (hd an fr ag : Addr) (kh ka kf kg : ClassId), own_D Z n0 sl hd an fr ag kh ∧ own_S Z h sl hd an fr ag kh ka kf kg (0 : Int32) (0 : Int32) (0 : Int64) (0 : Int32) (0 : Int32)
theorem ef_rm_si (m : MethodId) (x0 : Addr) : entryFrame m #[(.ref x0)] 1 = mkF m 0 #[.val (.ref x0)] [] := by first | (simp [entryFrame, mkF, argsToLocals, Value.category, maxLocals]; done) | rfl
theorem pf_3 : plainFor (⟨"com/example/pandarus/pandarus/Slots", "<init>", "()V"⟩ : MethodName) = true := by apply plainFor_of_name; first | (simp [plainName, overriddenIn]; done) | decide +kernel
theorem Wd6 {a0 : Array Value} {Z : State} (hw : ∀ d ∈ tables_1, d.before a0 Z = true) : (Jvm.Cond.methodLink "com/example/pandarus/pandarus/Slots" (1 : Nat) ({ cls := "java/lang/Object", name := "<init>", desc := "()V" } : Jvm.MethodName)).before a0 Z = true := hw _ (List.mem_of_getElem? (i := 6) rfl)
theorem Wd10 {a0 : Array Value} {Z : State} (hw : ∀ d ∈ tables_1, d.before a0 Z = true) : (Jvm.Cond.arrayOver (Jvm.ClassFile.FieldType.object "com/example/pandarus/pandarus/Ranked")).before a0 Z = true := hw _ (List.mem_of_getElem? (i := 10) rfl)
theorem Wd9 {a0 : Array Value} {Z : State} (hw : ∀ d ∈ tables_1, d.before a0 Z = true) : (Jvm.Cond.classLink "com/example/pandarus/pandarus/Slots" (7 : Nat) "com/example/pandarus/pandarus/Ranked").before a0 Z = true := hw _ (List.mem_of_getElem? (i := 9) rfl)
theorem Wd11 {a0 : Array Value} {Z : State} (hw : ∀ d ∈ tables_1, d.before a0 Z = true) : (Jvm.Cond.fieldLink "com/example/pandarus/pandarus/Slots" (9 : Nat) "com/example/pandarus/pandarus/Slots" "held" "[Lcom/example/pandarus/pandarus/Ranked;").before a0 Z = true := hw _ (List.mem_of_getElem? (i := 11) rfl)
theorem Wd12 {a0 : Array Value} {Z : State} (hw : ∀ d ∈ tables_1, d.before a0 Z = true) : (Jvm.Cond.lays "com/example/pandarus/pandarus/Slots" "com/example/pandarus/pandarus/Slots" "held" "[Lcom/example/pandarus/pandarus/Ranked;").before a0 Z = true := hw _ (List.mem_of_getElem? (i := 12) rfl)
theorem Wd1 {a0 : Array Value} {Z : State} (hw : ∀ d ∈ tables_1, d.before a0 Z = true) : (Jvm.Cond.instantiable "com/example/pandarus/pandarus/Slots" (6 : Nat)).before a0 Z = true := hw _ (List.mem_of_getElem? (i := 1) rfl)
theorem Wd16 {a0 : Array Value} {Z : State} (hw : ∀ d ∈ tables_1, d.before a0 Z = true) : (Jvm.Cond.lays "com/example/pandarus/pandarus/Slots" "com/example/pandarus/pandarus/Slots" "answered" "[Lcom/example/pandarus/pandarus/Subscription;").before a0 Z = true := hw _ (List.mem_of_getElem? (i := 16) rfl)
theorem Wd19 {a0 : Array Value} {Z : State} (hw : ∀ d ∈ tables_1, d.before a0 Z = true) : (Jvm.Cond.lays "com/example/pandarus/pandarus/Slots" "com/example/pandarus/pandarus/Slots" "freed" "[I").before a0 Z = true := hw _ (List.mem_of_getElem? (i := 19) rfl)
theorem Wd22 {a0 : Array Value} {Z : State} (hw : ∀ d ∈ tables_1, d.before a0 Z = true) : (Jvm.Cond.lays "com/example/pandarus/pandarus/Slots" "com/example/pandarus/pandarus/Slots" "again" "[J").before a0 Z = true := hw _ (List.mem_of_getElem? (i := 22) rfl)
theorem Wd31 {a0 : Array Value} {Z : State} (hw : ∀ d ∈ tables_1, d.before a0 Z = true) : (Jvm.Cond.lays "com/example/pandarus/pandarus/Slots" "com/example/pandarus/pandarus/Slots" "taken" "I").before a0 Z = true := hw _ (List.mem_of_getElem? (i := 31) rfl)
theorem Wd29 {a0 : Array Value} {Z : State} (hw : ∀ d ∈ tables_1, d.before a0 Z = true) : (Jvm.Cond.lays "com/example/pandarus/pandarus/Slots" "com/example/pandarus/pandarus/Slots" "free" "I").before a0 Z = true := hw _ (List.mem_of_getElem? (i := 29) rfl)
theorem Wd14 {a0 : Array Value} {Z : State} (hw : ∀ d ∈ tables_1, d.before a0 Z = true) : (Jvm.Cond.arrayOver (Jvm.ClassFile.FieldType.object "com/example/pandarus/pandarus/Subscription")).before a0 Z = true := hw _ (List.mem_of_getElem? (i := 14) rfl)
theorem Wd13 {a0 : Array Value} {Z : State} (hw : ∀ d ∈ tables_1, d.before a0 Z = true) : (Jvm.Cond.classLink "com/example/pandarus/pandarus/Slots" (15 : Nat) "com/example/pandarus/pandarus/Subscription").before a0 Z = true := hw _ (List.mem_of_getElem? (i := 13) rfl)
theorem Wd15 {a0 : Array Value} {Z : State} (hw : ∀ d ∈ tables_1, d.before a0 Z = true) : (Jvm.Cond.fieldLink "com/example/pandarus/pandarus/Slots" (17 : Nat) "com/example/pandarus/pandarus/Slots" "answered" "[Lcom/example/pandarus/pandarus/Subscription;").before a0 Z = true := hw _ (List.mem_of_getElem? (i := 15) rfl)
theorem Wd17 {a0 : Array Value} {Z : State} (hw : ∀ d ∈ tables_1, d.before a0 Z = true) : (Jvm.Cond.arrayClass Jvm.ClassFile.FieldType.int).before a0 Z = true := hw _ (List.mem_of_getElem? (i := 17) rfl)
theorem Wd18 {a0 : Array Value} {Z : State} (hw : ∀ d ∈ tables_1, d.before a0 Z = true) : (Jvm.Cond.fieldLink "com/example/pandarus/pandarus/Slots" (21 : Nat) "com/example/pandarus/pandarus/Slots" "freed" "[I").before a0 Z = true := hw _ (List.mem_of_getElem? (i := 18) rfl)
theorem Wd20 {a0 : Array Value} {Z : State} (hw : ∀ d ∈ tables_1, d.before a0 Z = true) : (Jvm.Cond.arrayClass Jvm.ClassFile.FieldType.long).before a0 Z = true := hw _ (List.mem_of_getElem? (i := 20) rfl)
theorem Wd21 {a0 : Array Value} {Z : State} (hw : ∀ d ∈ tables_1, d.before a0 Z = true) : (Jvm.Cond.fieldLink "com/example/pandarus/pandarus/Slots" (25 : Nat) "com/example/pandarus/pandarus/Slots" "again" "[J").before a0 Z = true := hw _ (List.mem_of_getElem? (i := 21) rfl)
set_option maxRecDepth 65536 in
set_option maxHeartbeats 40000000 in
theorem rm_si (l : Launch) (Z : State) (a0 : Array Value) (hw : ∀ d ∈ tables_1, d.before a0 Z = true) (ws : List Jvm.Cond) (sl : Addr) (h0 : Heap) (n0 : Nat) (Z0 : n0 ≤ h0.size) (g_sl : n0 ≤ sl) (E_s : Exa Z h0 sl "com/example/pandarus/pandarus/Slots") (F_held : Fld Z h0 sl "com/example/pandarus/pandarus/Slots" "held" "[Lcom/example/pandarus/pandarus/Ranked;" .null) (F_answered : Fld Z h0 sl "com/example/pandarus/pandarus/Slots" "answered" "[Lcom/example/pandarus/pandarus/Subscription;" .null) (F_freed : Fld Z h0 sl "com/example/pandarus/pandarus/Slots" "freed" "[I" .null) (F_again : Fld Z h0 sl "com/example/pandarus/pandarus/Slots" "again" "[J" .null) (F_taken : Fld Z h0 sl "com/example/pandarus/pandarus/Slots" "taken" "I" (.int (0 : Int32))) (F_free : Fld Z h0 sl "com/example/pandarus/pandarus/Slots" "free" "I" (.int (0 : Int32))) :
    MetFree l (⟨"com/example/pandarus/pandarus/Slots", "<init>", "()V"⟩ : MethodName) (head1 (Jvm.Cond.code (⟨"com/example/pandarus/pandarus/Slots", "<init>", "()V"⟩ : MethodName) prog_65_method_1_code 1 none :: ws) ({ frames := 1, cells := 4, slots := 49, locals := 12 } : Room)) (fun aa U => aa = #[(.ref sl)] ∧ Z.Warmed39 U.vm ∧ U.heap = h0) (fun _ _ _ _ _ => True) (fun _ U o U' => ∃ v L, o = .returned v ∧ Qsi Z sl h0 n0 v U'.heap L ∧ FrameEnd U o U' L (({ frames := 1, cells := 4, slots := 49, locals := 12 } : Room).cells) (({ frames := 1, cells := 4, slots := 49, locals := 12 } : Room).slots)) := by
  refine own_body pf_3 ?_
  intro p e s m below meth c s₁ hx hby hml hown hnm hlk hret hZ X0 e0
  have N0 : Fr n0 [] := Fr.nil n0
  refine own_go (f' := (mkF m 0 #[.val (.ref sl)] [])) (fun t k => castTop (ef_rm_si m sl) k) ?_
  have K1 : Keep h0 h0 [sl] := Keep.refl _ _
  refine own_aloadN X0 hx (pc' := 1) (hb hby d1_0) rfl rfl rfl ?_
  refine own_initO X0 hx (pc' := 4) hZ hown (Wd6 hw) (Wd7 hw) (Wd8 hw) e0 (by rw [hml]; rfl) (hb hby d1_1) (by decide) 0 (Nat.le_of_eq rfl) (by decide) rfl (fun T2 X2 e2 => ?_)
  refine own_aloadN X2 hx (pc' := 5) (hb hby d1_4) rfl rfl rfl ?_
  refine own_bipush X2 hx (pc' := 7) (16 : Int32) (hb hby d1_5) rfl rfl ?_
  refine own_newR X2 hx (pc' := 10) hZ hown (Wd9 hw) (Wd10 hw) e2 (hb hby d1_7) (by decide) 16 (by decide) (by decide) (by decide) (by decide) rfl (fun T3 h3 k3 nb3 g3 X3 e3 E3 A3 O3 => ?_)
  have ne_sl_nb3_4 : sl ≠ nb3 := Nat.ne_of_lt (Nat.lt_of_lt_of_le E_s.lt (Nat.le_of_eq g3.symm))
  have ge_nb3 : n0 ≤ nb3 := Nat.le_trans Z0 (Nat.le_of_eq g3.symm)
  have gk_nb3 : h0.size ≤ nb3 := Nat.le_trans K1.1 (Nat.le_of_eq g3.symm)
  have Z5 : n0 ≤ h3.size := Nat.le_trans Z0 E3.1
  have K6 : Keep h0 h3 [sl] := K1.ext E3
  have F7 := (Exa.ext E3 E_s)
  have F8 := (Fld.ext E3 F_held)
  have F9 := (Fld.ext E3 F_answered)
  have F10 := (Fld.ext E3 F_freed)
  have F11 := (Fld.ext E3 F_again)
  have F12 := (Fld.ext E3 F_taken)
  have F13 := (Fld.ext E3 F_free)
  have V14a : Arv Z h3 nb3 k3 (.object "com/example/pandarus/pandarus/Ranked") (16 : Int32) [] .null := Arv.new A3 (by decide)
  have V14b : Arv Z h3 nb3 k3 (.object "com/example/pandarus/pandarus/Ranked") (16 : Int32) (List.replicate 16 .null) .null := V14a.pad (pad_rep [] _ 16)
  have V14 : Arv Z h3 nb3 k3 (.object "com/example/pandarus/pandarus/Ranked") (16 : Int32) [.null, .null, .null, .null, .null, .null, .null, .null, .null, .null, .null, .null, .null, .null, .null, .null] .null := V14b
  refine own_putF X3 hx (pc' := 13) hZ (ty := (.array (.object "com/example/pandarus/pandarus/Ranked"))) hown (host := "") (Or.inl (Wd11 hw)) Via.refl e3 F8 F7 (Or.inl (Wd12 hw)) (Wd1 hw) (by decide) rfl rfl (hb hby d1_10) rfl (fun T15 h15 X15 e15 W15 => ?_)
  have N16 := Fr.snoc X15 N0 g_sl
  have Z17 : n0 ≤ h15.size := Nat.le_trans Z5 (Nat.le_of_eq (Wr.size W15).symm)
  have K18 : Keep h0 h15 [sl] := K6.wr W15 (Or.inl (List.mem_of_getElem? (i := 0) rfl))
  have F19 := (Exa.wr W15 F7)
  have F20 := (Fld.same W15 F8)
  have F21 := (Fld.other W15 F9 (Or.inr (slot_ne (Or.inl (Wd16 hw)) (Or.inl (Wd12 hw)) (by decide) (t := (.array (.object "com/example/pandarus/pandarus/Subscription"))) (t' := (.array (.object "com/example/pandarus/pandarus/Ranked"))) (by decide) (by decide))))
  have F22 := (Fld.other W15 F10 (Or.inr (slot_ne (Or.inl (Wd19 hw)) (Or.inl (Wd12 hw)) (by decide) (t := (.array .int)) (t' := (.array (.object "com/example/pandarus/pandarus/Ranked"))) (by decide) (by decide))))
  have F23 := (Fld.other W15 F11 (Or.inr (slot_ne (Or.inl (Wd22 hw)) (Or.inl (Wd12 hw)) (by decide) (t := (.array .long)) (t' := (.array (.object "com/example/pandarus/pandarus/Ranked"))) (by decide) (by decide))))
  have F24 := (Fld.other W15 F12 (Or.inr (slot_ne (Or.inl (Wd31 hw)) (Or.inl (Wd12 hw)) (by decide) (t := .int) (t' := (.array (.object "com/example/pandarus/pandarus/Ranked"))) (by decide) (by decide))))
  have F25 := (Fld.other W15 F13 (Or.inr (slot_ne (Or.inl (Wd29 hw)) (Or.inl (Wd12 hw)) (by decide) (t := .int) (t' := (.array (.object "com/example/pandarus/pandarus/Ranked"))) (by decide) (by decide))))
  have F26 := (V14.other W15 (Ne.symm ne_sl_nb3_4))
  refine own_aloadN X15 hx (pc' := 14) (hb hby d1_13) rfl rfl rfl ?_
  refine own_bipush X15 hx (pc' := 16) (16 : Int32) (hb hby d1_14) rfl rfl ?_
  refine own_newR X15 hx (pc' := 19) hZ hown (Wd13 hw) (Wd14 hw) e15 (hb hby d1_16) (by decide) 16 (by decide) (by decide) (by decide) (by decide) rfl (fun T27 h27 k27 nb27 g27 X27 e27 E27 A27 O27 => ?_)
  have ne_sl_nb27_28 : sl ≠ nb27 := Nat.ne_of_lt (Nat.lt_of_lt_of_le F19.lt (Nat.le_of_eq g27.symm))
  have ne_nb3_nb27_29 : nb3 ≠ nb27 := Nat.ne_of_lt (Nat.lt_of_lt_of_le F26.lt (Nat.le_of_eq g27.symm))
  have ge_nb27 : n0 ≤ nb27 := Nat.le_trans Z17 (Nat.le_of_eq g27.symm)
  have gk_nb27 : h0.size ≤ nb27 := Nat.le_trans K18.1 (Nat.le_of_eq g27.symm)
  have Z30 : n0 ≤ h27.size := Nat.le_trans Z17 E27.1
  have K31 : Keep h0 h27 [sl] := K18.ext E27
  have F32 := (Exa.ext E27 F19)
  have F33 := (Fld.ext E27 F20)
  have F34 := (Fld.ext E27 F21)
  have F35 := (Fld.ext E27 F22)
  have F36 := (Fld.ext E27 F23)
  have F37 := (Fld.ext E27 F24)
  have F38 := (Fld.ext E27 F25)
  have F39 := (F26.ext E27)
  have V40a : Arv Z h27 nb27 k27 (.object "com/example/pandarus/pandarus/Subscription") (16 : Int32) [] .null := Arv.new A27 (by decide)
  have V40b : Arv Z h27 nb27 k27 (.object "com/example/pandarus/pandarus/Subscription") (16 : Int32) (List.replicate 16 .null) .null := V40a.pad (pad_rep [] _ 16)
  have V40 : Arv Z h27 nb27 k27 (.object "com/example/pandarus/pandarus/Subscription") (16 : Int32) [.null, .null, .null, .null, .null, .null, .null, .null, .null, .null, .null, .null, .null, .null, .null, .null] .null := V40b
  refine own_putF X27 hx (pc' := 22) hZ (ty := (.array (.object "com/example/pandarus/pandarus/Subscription"))) hown (host := "") (Or.inl (Wd15 hw)) Via.refl e27 F34 F32 (Or.inl (Wd16 hw)) (Wd1 hw) (by decide) rfl rfl (hb hby d1_19) rfl (fun T41 h41 X41 e41 W41 => ?_)
  have N42 := Fr.snoc X41 N16 g_sl
  have Z43 : n0 ≤ h41.size := Nat.le_trans Z30 (Nat.le_of_eq (Wr.size W41).symm)
  have K44 : Keep h0 h41 [sl] := K31.wr W41 (Or.inl (List.mem_of_getElem? (i := 0) rfl))
  have F45 := (Exa.wr W41 F32)
  have F46 := (Fld.other W41 F33 (Or.inr (slot_ne (Or.inl (Wd12 hw)) (Or.inl (Wd16 hw)) (by decide) (t := (.array (.object "com/example/pandarus/pandarus/Ranked"))) (t' := (.array (.object "com/example/pandarus/pandarus/Subscription"))) (by decide) (by decide))))
  have F47 := (Fld.same W41 F34)
  have F48 := (Fld.other W41 F35 (Or.inr (slot_ne (Or.inl (Wd19 hw)) (Or.inl (Wd16 hw)) (by decide) (t := (.array .int)) (t' := (.array (.object "com/example/pandarus/pandarus/Subscription"))) (by decide) (by decide))))
  have F49 := (Fld.other W41 F36 (Or.inr (slot_ne (Or.inl (Wd22 hw)) (Or.inl (Wd16 hw)) (by decide) (t := (.array .long)) (t' := (.array (.object "com/example/pandarus/pandarus/Subscription"))) (by decide) (by decide))))
  have F50 := (Fld.other W41 F37 (Or.inr (slot_ne (Or.inl (Wd31 hw)) (Or.inl (Wd16 hw)) (by decide) (t := .int) (t' := (.array (.object "com/example/pandarus/pandarus/Subscription"))) (by decide) (by decide))))
  have F51 := (Fld.other W41 F38 (Or.inr (slot_ne (Or.inl (Wd29 hw)) (Or.inl (Wd16 hw)) (by decide) (t := .int) (t' := (.array (.object "com/example/pandarus/pandarus/Subscription"))) (by decide) (by decide))))
  have F52 := (F39.other W41 (Ne.symm ne_sl_nb3_4))
  have F53 := (V40.other W41 (Ne.symm ne_sl_nb27_28))
  refine own_aloadN X41 hx (pc' := 23) (hb hby d1_22) rfl rfl rfl ?_
  refine own_bipush X41 hx (pc' := 25) (16 : Int32) (hb hby d1_23) rfl rfl ?_
  refine own_newP X41 hx (pc' := 27) hZ (aty := .int) (Wd17 hw) e41 (hb hby d1_25) (by decide) 16 (by decide) (by decide) (by decide) (by decide) rfl (fun T54 h54 k54 nb54 g54 X54 e54 E54 A54 => ?_)
  have ne_sl_nb54_55 : sl ≠ nb54 := Nat.ne_of_lt (Nat.lt_of_lt_of_le F45.lt (Nat.le_of_eq g54.symm))
  have ne_nb3_nb54_56 : nb3 ≠ nb54 := Nat.ne_of_lt (Nat.lt_of_lt_of_le F52.lt (Nat.le_of_eq g54.symm))
  have ne_nb27_nb54_57 : nb27 ≠ nb54 := Nat.ne_of_lt (Nat.lt_of_lt_of_le F53.lt (Nat.le_of_eq g54.symm))
  have ge_nb54 : n0 ≤ nb54 := Nat.le_trans Z43 (Nat.le_of_eq g54.symm)
  have gk_nb54 : h0.size ≤ nb54 := Nat.le_trans K44.1 (Nat.le_of_eq g54.symm)
  have Z58 : n0 ≤ h54.size := Nat.le_trans Z43 E54.1
  have K59 : Keep h0 h54 [sl] := K44.ext E54
  have F60 := (Exa.ext E54 F45)
  have F61 := (Fld.ext E54 F46)
  have F62 := (Fld.ext E54 F47)
  have F63 := (Fld.ext E54 F48)
  have F64 := (Fld.ext E54 F49)
  have F65 := (Fld.ext E54 F50)
  have F66 := (Fld.ext E54 F51)
  have F67 := (F52.ext E54)
  have F68 := (F53.ext E54)
  have V69a : Arv Z h54 nb54 k54 .int (16 : Int32) [] (.int (0 : Int32)) := Arv.new A54 (by decide)
  have V69b : Arv Z h54 nb54 k54 .int (16 : Int32) (List.replicate 16 (.int (0 : Int32))) (.int (0 : Int32)) := V69a.pad (pad_rep [] _ 16)
  have V69 : Arv Z h54 nb54 k54 .int (16 : Int32) [(.int (0 : Int32)), (.int (0 : Int32)), (.int (0 : Int32)), (.int (0 : Int32)), (.int (0 : Int32)), (.int (0 : Int32)), (.int (0 : Int32)), (.int (0 : Int32)), (.int (0 : Int32)), (.int (0 : Int32)), (.int (0 : Int32)), (.int (0 : Int32)), (.int (0 : Int32)), (.int (0 : Int32)), (.int (0 : Int32)), (.int (0 : Int32))] (.int (0 : Int32)) := V69b
  refine own_putF X54 hx (pc' := 30) hZ (ty := (.array .int)) hown (host := "") (Or.inl (Wd18 hw)) Via.refl e54 F63 F60 (Or.inl (Wd19 hw)) (Wd1 hw) (by decide) rfl rfl (hb hby d1_27) rfl (fun T70 h70 X70 e70 W70 => ?_)
  have N71 := Fr.snoc X70 N42 g_sl
  have Z72 : n0 ≤ h70.size := Nat.le_trans Z58 (Nat.le_of_eq (Wr.size W70).symm)
  have K73 : Keep h0 h70 [sl] := K59.wr W70 (Or.inl (List.mem_of_getElem? (i := 0) rfl))
  have F74 := (Exa.wr W70 F60)
  have F75 := (Fld.other W70 F61 (Or.inr (slot_ne (Or.inl (Wd12 hw)) (Or.inl (Wd19 hw)) (by decide) (t := (.array (.object "com/example/pandarus/pandarus/Ranked"))) (t' := (.array .int)) (by decide) (by decide))))
  have F76 := (Fld.other W70 F62 (Or.inr (slot_ne (Or.inl (Wd16 hw)) (Or.inl (Wd19 hw)) (by decide) (t := (.array (.object "com/example/pandarus/pandarus/Subscription"))) (t' := (.array .int)) (by decide) (by decide))))
  have F77 := (Fld.same W70 F63)
  have F78 := (Fld.other W70 F64 (Or.inr (slot_ne (Or.inl (Wd22 hw)) (Or.inl (Wd19 hw)) (by decide) (t := (.array .long)) (t' := (.array .int)) (by decide) (by decide))))
  have F79 := (Fld.other W70 F65 (Or.inr (slot_ne (Or.inl (Wd31 hw)) (Or.inl (Wd19 hw)) (by decide) (t := .int) (t' := (.array .int)) (by decide) (by decide))))
  have F80 := (Fld.other W70 F66 (Or.inr (slot_ne (Or.inl (Wd29 hw)) (Or.inl (Wd19 hw)) (by decide) (t := .int) (t' := (.array .int)) (by decide) (by decide))))
  have F81 := (F67.other W70 (Ne.symm ne_sl_nb3_4))
  have F82 := (F68.other W70 (Ne.symm ne_sl_nb27_28))
  have F83 := (V69.other W70 (Ne.symm ne_sl_nb54_55))
  refine own_aloadN X70 hx (pc' := 31) (hb hby d1_30) rfl rfl rfl ?_
  refine own_iconst X70 hx (pc' := 32) (1 : Int32) (hb hby d1_31) rfl rfl ?_
  refine own_newP X70 hx (pc' := 34) hZ (aty := .long) (Wd20 hw) e70 (hb hby d1_32) (by decide) 1 (by decide) (by decide) (by decide) (by decide) rfl (fun T84 h84 k84 nb84 g84 X84 e84 E84 A84 => ?_)
  have ne_sl_nb84_85 : sl ≠ nb84 := Nat.ne_of_lt (Nat.lt_of_lt_of_le F74.lt (Nat.le_of_eq g84.symm))
  have ne_nb3_nb84_86 : nb3 ≠ nb84 := Nat.ne_of_lt (Nat.lt_of_lt_of_le F81.lt (Nat.le_of_eq g84.symm))
  have ne_nb27_nb84_87 : nb27 ≠ nb84 := Nat.ne_of_lt (Nat.lt_of_lt_of_le F82.lt (Nat.le_of_eq g84.symm))
  have ne_nb54_nb84_88 : nb54 ≠ nb84 := Nat.ne_of_lt (Nat.lt_of_lt_of_le F83.lt (Nat.le_of_eq g84.symm))
  have ge_nb84 : n0 ≤ nb84 := Nat.le_trans Z72 (Nat.le_of_eq g84.symm)
  have gk_nb84 : h0.size ≤ nb84 := Nat.le_trans K73.1 (Nat.le_of_eq g84.symm)
  have Z89 : n0 ≤ h84.size := Nat.le_trans Z72 E84.1
  have K90 : Keep h0 h84 [sl] := K73.ext E84
  have F91 := (Exa.ext E84 F74)
  have F92 := (Fld.ext E84 F75)
  have F93 := (Fld.ext E84 F76)
  have F94 := (Fld.ext E84 F77)
  have F95 := (Fld.ext E84 F78)
  have F96 := (Fld.ext E84 F79)
  have F97 := (Fld.ext E84 F80)
  have F98 := (F81.ext E84)
  have F99 := (F82.ext E84)
  have F100 := (F83.ext E84)
  have V101a : Arv Z h84 nb84 k84 .long (1 : Int32) [] (.long (0 : Int64)) := Arv.new A84 (by decide)
  have V101b : Arv Z h84 nb84 k84 .long (1 : Int32) (List.replicate 1 (.long (0 : Int64))) (.long (0 : Int64)) := V101a.pad (pad_rep [] _ 1)
  have V101 : Arv Z h84 nb84 k84 .long (1 : Int32) [(.long (0 : Int64))] (.long (0 : Int64)) := V101b
  refine own_putF X84 hx (pc' := 37) hZ (ty := (.array .long)) hown (host := "") (Or.inl (Wd21 hw)) Via.refl e84 F95 F91 (Or.inl (Wd22 hw)) (Wd1 hw) (by decide) rfl rfl (hb hby d1_34) rfl (fun T102 h102 X102 e102 W102 => ?_)
  have N103 := Fr.snoc X102 N71 g_sl
  have Z104 : n0 ≤ h102.size := Nat.le_trans Z89 (Nat.le_of_eq (Wr.size W102).symm)
  have K105 : Keep h0 h102 [sl] := K90.wr W102 (Or.inl (List.mem_of_getElem? (i := 0) rfl))
  have F106 := (Exa.wr W102 F91)
  have F107 := (Fld.other W102 F92 (Or.inr (slot_ne (Or.inl (Wd12 hw)) (Or.inl (Wd22 hw)) (by decide) (t := (.array (.object "com/example/pandarus/pandarus/Ranked"))) (t' := (.array .long)) (by decide) (by decide))))
  have F108 := (Fld.other W102 F93 (Or.inr (slot_ne (Or.inl (Wd16 hw)) (Or.inl (Wd22 hw)) (by decide) (t := (.array (.object "com/example/pandarus/pandarus/Subscription"))) (t' := (.array .long)) (by decide) (by decide))))
  have F109 := (Fld.other W102 F94 (Or.inr (slot_ne (Or.inl (Wd19 hw)) (Or.inl (Wd22 hw)) (by decide) (t := (.array .int)) (t' := (.array .long)) (by decide) (by decide))))
  have F110 := (Fld.same W102 F95)
  have F111 := (Fld.other W102 F96 (Or.inr (slot_ne (Or.inl (Wd31 hw)) (Or.inl (Wd22 hw)) (by decide) (t := .int) (t' := (.array .long)) (by decide) (by decide))))
  have F112 := (Fld.other W102 F97 (Or.inr (slot_ne (Or.inl (Wd29 hw)) (Or.inl (Wd22 hw)) (by decide) (t := .int) (t' := (.array .long)) (by decide) (by decide))))
  have F113 := (F98.other W102 (Ne.symm ne_sl_nb3_4))
  have F114 := (F99.other W102 (Ne.symm ne_sl_nb27_28))
  have F115 := (F100.other W102 (Ne.symm ne_sl_nb54_55))
  have F116 := (V101.other W102 (Ne.symm ne_sl_nb84_85))
  refine own_retV X102 hx hlk hret (hb hby d1_37) (by decide) (by decide) ?_
  have vF0 : Arv Z h102 nb54 k54 .int (16 : Int32) (List.replicate 16 (.int (0 : Int32))) (.int (0 : Int32)) := F115
  have vF1 : Arv Z h102 nb54 k54 .int (16 : Int32) (List.replicate 2 (.int (0 : Int32))) (.int (0 : Int32)) := vF0.pad own_p2
  have vF : Arv Z h102 nb54 k54 .int (16 : Int32) [(.int (0 : Int32)), (.int (0 : Int32))] (.int (0 : Int32)) := vF1
  rw [e102]
  exact ⟨rfl, N103, K105, nb3, nb27, nb54, nb84, _, _, _, _, ⟨⟨g_sl, ge_nb3, ge_nb27, ge_nb54, ge_nb84⟩, ⟨ne_sl_nb3_4, ne_sl_nb27_28, ne_sl_nb54_55, ne_sl_nb84_85⟩, ⟨ne_nb3_nb27_29, ne_nb3_nb54_56, ne_nb3_nb84_86, ne_nb27_nb54_57, ne_nb27_nb84_87, ne_nb54_nb84_88⟩, O3⟩, ⟨F106, F107, F108, F109, F110, F111, F112, ⟨_, rfl, F113⟩, ⟨_, rfl, F114⟩, vF, F116⟩⟩

theorem d3_0 : decode prog_65_method_2_code 0 = .ok (.aload_n 0, 1) := by decide +kernel
theorem d3_1 : decode prog_65_method_2_code 1 = .ok (.getfield 29, 3) := by decide +kernel
theorem d3_4 : decode prog_65_method_2_code 4 = .ok (.ifCond .le 7, 3) := by decide +kernel
theorem d3_7 : decode prog_65_method_2_code 7 = .ok (.iconst 1, 1) := by decide +kernel
theorem d3_8 : decode prog_65_method_2_code 8 = .ok (.goto 4, 3) := by decide +kernel
theorem d3_11 : decode prog_65_method_2_code 11 = .ok (.iconst 0, 1) := by decide +kernel
theorem d3_12 : decode prog_65_method_2_code 12 = .ok (.istore 4, 2) := by decide +kernel
theorem d3_14 : decode prog_65_method_2_code 14 = .ok (.iload 4, 2) := by decide +kernel
theorem d3_16 : decode prog_65_method_2_code 16 = .ok (.ifCond .eq 22, 3) := by decide +kernel
theorem d3_19 : decode prog_65_method_2_code 19 = .ok (.aload_n 0, 1) := by decide +kernel
theorem d3_20 : decode prog_65_method_2_code 20 = .ok (.getfield 21, 3) := by decide +kernel
theorem d3_23 : decode prog_65_method_2_code 23 = .ok (.aload_n 0, 1) := by decide +kernel
theorem d3_24 : decode prog_65_method_2_code 24 = .ok (.dup, 1) := by decide +kernel
theorem d3_25 : decode prog_65_method_2_code 25 = .ok (.getfield 29, 3) := by decide +kernel
theorem d3_28 : decode prog_65_method_2_code 28 = .ok (.iconst 1, 1) := by decide +kernel
theorem d3_29 : decode prog_65_method_2_code 29 = .ok (.isub, 1) := by decide +kernel
theorem d3_30 : decode prog_65_method_2_code 30 = .ok (.dup_x1, 1) := by decide +kernel
theorem d3_31 : decode prog_65_method_2_code 31 = .ok (.putfield 29, 3) := by decide +kernel
theorem d3_34 : decode prog_65_method_2_code 34 = .ok (.iaload, 1) := by decide +kernel
theorem d3_35 : decode prog_65_method_2_code 35 = .ok (.goto 14, 3) := by decide +kernel
theorem d3_38 : decode prog_65_method_2_code 38 = .ok (.aload_n 0, 1) := by decide +kernel
theorem d3_39 : decode prog_65_method_2_code 39 = .ok (.dup, 1) := by decide +kernel
theorem d3_40 : decode prog_65_method_2_code 40 = .ok (.getfield 33, 3) := by decide +kernel
theorem d3_43 : decode prog_65_method_2_code 43 = .ok (.dup_x1, 1) := by decide +kernel
theorem d3_44 : decode prog_65_method_2_code 44 = .ok (.iconst 1, 1) := by decide +kernel
theorem d3_45 : decode prog_65_method_2_code 45 = .ok (.iadd, 1) := by decide +kernel
theorem d3_46 : decode prog_65_method_2_code 46 = .ok (.putfield 33, 3) := by decide +kernel
theorem d3_49 : decode prog_65_method_2_code 49 = .ok (.istore 5, 2) := by decide +kernel
theorem d3_51 : decode prog_65_method_2_code 51 = .ok (.iload 5, 2) := by decide +kernel
theorem d3_53 : decode prog_65_method_2_code 53 = .ok (.aload_n 0, 1) := by decide +kernel
theorem d3_54 : decode prog_65_method_2_code 54 = .ok (.getfield 9, 3) := by decide +kernel
theorem d3_57 : decode prog_65_method_2_code 57 = .ok (.arraylength, 1) := by decide +kernel
theorem d3_58 : decode prog_65_method_2_code 58 = .ok (.if_icmp .ne 43, 3) := by decide +kernel
theorem d3_61 : decode prog_65_method_2_code 61 = .ok (.aload_n 0, 1) := by decide +kernel
theorem d3_62 : decode prog_65_method_2_code 62 = .ok (.aload_n 0, 1) := by decide +kernel
theorem d3_63 : decode prog_65_method_2_code 63 = .ok (.getfield 9, 3) := by decide +kernel
theorem d3_66 : decode prog_65_method_2_code 66 = .ok (.iconst 2, 1) := by decide +kernel
theorem d3_67 : decode prog_65_method_2_code 67 = .ok (.aload_n 0, 1) := by decide +kernel
theorem d3_68 : decode prog_65_method_2_code 68 = .ok (.getfield 9, 3) := by decide +kernel
theorem d3_71 : decode prog_65_method_2_code 71 = .ok (.arraylength, 1) := by decide +kernel
theorem d3_72 : decode prog_65_method_2_code 72 = .ok (.imul, 1) := by decide +kernel
theorem d3_73 : decode prog_65_method_2_code 73 = .ok (.invokestatic 36, 3) := by decide +kernel
theorem d3_76 : decode prog_65_method_2_code 76 = .ok (.checkcast 42, 3) := by decide +kernel
theorem d3_79 : decode prog_65_method_2_code 79 = .ok (.putfield 9, 3) := by decide +kernel
theorem d3_82 : decode prog_65_method_2_code 82 = .ok (.aload_n 0, 1) := by decide +kernel
theorem d3_83 : decode prog_65_method_2_code 83 = .ok (.aload_n 0, 1) := by decide +kernel
theorem d3_84 : decode prog_65_method_2_code 84 = .ok (.getfield 17, 3) := by decide +kernel
theorem d3_87 : decode prog_65_method_2_code 87 = .ok (.aload_n 0, 1) := by decide +kernel
theorem d3_88 : decode prog_65_method_2_code 88 = .ok (.getfield 9, 3) := by decide +kernel
theorem d3_91 : decode prog_65_method_2_code 91 = .ok (.arraylength, 1) := by decide +kernel
theorem d3_92 : decode prog_65_method_2_code 92 = .ok (.invokestatic 36, 3) := by decide +kernel
theorem d3_95 : decode prog_65_method_2_code 95 = .ok (.checkcast 43, 3) := by decide +kernel
theorem d3_98 : decode prog_65_method_2_code 98 = .ok (.putfield 17, 3) := by decide +kernel
theorem d3_101 : decode prog_65_method_2_code 101 = .ok (.iload 5, 2) := by decide +kernel
theorem d3_103 : decode prog_65_method_2_code 103 = .ok (.bipush 64, 2) := by decide +kernel
theorem d3_105 : decode prog_65_method_2_code 105 = .ok (.idiv, 1) := by decide +kernel
theorem d3_106 : decode prog_65_method_2_code 106 = .ok (.aload_n 0, 1) := by decide +kernel
theorem d3_107 : decode prog_65_method_2_code 107 = .ok (.getfield 25, 3) := by decide +kernel
theorem d3_110 : decode prog_65_method_2_code 110 = .ok (.arraylength, 1) := by decide +kernel
theorem d3_111 : decode prog_65_method_2_code 111 = .ok (.if_icmp .ne 21, 3) := by decide +kernel
theorem d3_114 : decode prog_65_method_2_code 114 = .ok (.aload_n 0, 1) := by decide +kernel
theorem d3_115 : decode prog_65_method_2_code 115 = .ok (.aload_n 0, 1) := by decide +kernel
theorem d3_116 : decode prog_65_method_2_code 116 = .ok (.getfield 25, 3) := by decide +kernel
theorem d3_119 : decode prog_65_method_2_code 119 = .ok (.iconst 2, 1) := by decide +kernel
theorem d3_120 : decode prog_65_method_2_code 120 = .ok (.aload_n 0, 1) := by decide +kernel
theorem d3_121 : decode prog_65_method_2_code 121 = .ok (.getfield 25, 3) := by decide +kernel
theorem d3_124 : decode prog_65_method_2_code 124 = .ok (.arraylength, 1) := by decide +kernel
theorem d3_125 : decode prog_65_method_2_code 125 = .ok (.imul, 1) := by decide +kernel
theorem d3_126 : decode prog_65_method_2_code 126 = .ok (.invokestatic 46, 3) := by decide +kernel
theorem d3_129 : decode prog_65_method_2_code 129 = .ok (.putfield 25, 3) := by decide +kernel
theorem d3_132 : decode prog_65_method_2_code 132 = .ok (.aload_n 0, 1) := by decide +kernel
theorem d3_133 : decode prog_65_method_2_code 133 = .ok (.getfield 25, 3) := by decide +kernel
theorem d3_136 : decode prog_65_method_2_code 136 = .ok (.iload 5, 2) := by decide +kernel
theorem d3_138 : decode prog_65_method_2_code 138 = .ok (.bipush 64, 2) := by decide +kernel
theorem d3_140 : decode prog_65_method_2_code 140 = .ok (.idiv, 1) := by decide +kernel
theorem d3_141 : decode prog_65_method_2_code 141 = .ok (.dup2, 1) := by decide +kernel
theorem d3_142 : decode prog_65_method_2_code 142 = .ok (.laload, 1) := by decide +kernel
theorem d3_143 : decode prog_65_method_2_code 143 = .ok (.iload 4, 2) := by decide +kernel
theorem d3_145 : decode prog_65_method_2_code 145 = .ok (.ifCond .eq 10, 3) := by decide +kernel
theorem d3_148 : decode prog_65_method_2_code 148 = .ok (.lconst 1, 1) := by decide +kernel
theorem d3_149 : decode prog_65_method_2_code 149 = .ok (.iload 5, 2) := by decide +kernel
theorem d3_151 : decode prog_65_method_2_code 151 = .ok (.lshl, 1) := by decide +kernel
theorem d3_152 : decode prog_65_method_2_code 152 = .ok (.goto 4, 3) := by decide +kernel
theorem d3_155 : decode prog_65_method_2_code 155 = .ok (.lconst 0, 1) := by decide +kernel
theorem d3_156 : decode prog_65_method_2_code 156 = .ok (.lor, 1) := by decide +kernel
theorem d3_157 : decode prog_65_method_2_code 157 = .ok (.lastore, 1) := by decide +kernel
theorem d3_158 : decode prog_65_method_2_code 158 = .ok (.new 7, 3) := by decide +kernel
theorem d3_161 : decode prog_65_method_2_code 161 = .ok (.dup, 1) := by decide +kernel
theorem d3_162 : decode prog_65_method_2_code 162 = .ok (.aload_n 1, 1) := by decide +kernel
theorem d3_163 : decode prog_65_method_2_code 163 = .ok (.lload_n 2, 1) := by decide +kernel
theorem d3_164 : decode prog_65_method_2_code 164 = .ok (.iload 5, 2) := by decide +kernel
theorem d3_166 : decode prog_65_method_2_code 166 = .ok (.invokespecial 49, 3) := by decide +kernel
theorem d3_169 : decode prog_65_method_2_code 169 = .ok (.astore 6, 2) := by decide +kernel
theorem d3_171 : decode prog_65_method_2_code 171 = .ok (.aload_n 0, 1) := by decide +kernel
theorem d3_172 : decode prog_65_method_2_code 172 = .ok (.getfield 9, 3) := by decide +kernel
theorem d3_175 : decode prog_65_method_2_code 175 = .ok (.iload 5, 2) := by decide +kernel
theorem d3_177 : decode prog_65_method_2_code 177 = .ok (.aload 6, 2) := by decide +kernel
theorem d3_179 : decode prog_65_method_2_code 179 = .ok (.aastore, 1) := by decide +kernel
theorem d3_180 : decode prog_65_method_2_code 180 = .ok (.aload_n 0, 1) := by decide +kernel
theorem d3_181 : decode prog_65_method_2_code 181 = .ok (.getfield 17, 3) := by decide +kernel
theorem d3_184 : decode prog_65_method_2_code 184 = .ok (.iload 5, 2) := by decide +kernel
theorem d3_186 : decode prog_65_method_2_code 186 = .ok (.aload_n 1, 1) := by decide +kernel
theorem d3_187 : decode prog_65_method_2_code 187 = .ok (.aastore, 1) := by decide +kernel
theorem d3_188 : decode prog_65_method_2_code 188 = .ok (.aload 6, 2) := by decide +kernel
theorem d3_190 : decode prog_65_method_2_code 190 = .ok (.areturn, 1) := by decide +kernel
def Qh0 (Z : State) (sl hd an fr ag : Addr) (kh ka kf kg : ClassId) (slot t2 : Int32) (g : Int64) (s0 s1 : Int32) (h0 : Heap) (n0 : Nat) (v : Option Value) (h : Heap) (L : List Loc) : Prop := ∃ rk : Addr, v = some (.ref rk) ∧ h0.size ≤ rk ∧ Fr n0 L ∧ Keep h0 h [sl, hd, an, fr, ag] ∧ Exa Z h rk "com/example/pandarus/pandarus/Ranked" ∧ Fld Z h rk "com/example/pandarus/pandarus/Ranked" "slot" "I" (.int slot) ∧ own_S Z h sl hd an fr ag kh ka kf kg t2 (0 : Int32) g s0 s1
theorem ef_rm_h0 (m : MethodId) (x0 : Addr) (x2 : Int64) : entryFrame m #[(.ref x0), .null, (.long x2)] 7 = mkF m 0 #[.val (.ref x0), .val .null, .val (.long x2), .second, .unset, .unset, .unset] [] := by first | (simp [entryFrame, mkF, argsToLocals, Value.category, maxLocals]; done) | rfl
theorem pf_4 : plainFor (⟨"com/example/pandarus/pandarus/Slots", "hold", "(Lcom/example/pandarus/pandarus/Subscription;J)Lcom/example/pandarus/pandarus/Ranked;"⟩ : MethodName) = true := by apply plainFor_of_name; first | (simp [plainName, overriddenIn]; done) | decide +kernel
theorem Wd28 {a0 : Array Value} {Z : State} (hw : ∀ d ∈ tables_1, d.before a0 Z = true) : (Jvm.Cond.fieldLink "com/example/pandarus/pandarus/Slots" (29 : Nat) "com/example/pandarus/pandarus/Slots" "free" "I").before a0 Z = true := hw _ (List.mem_of_getElem? (i := 28) rfl)
theorem Wd30 {a0 : Array Value} {Z : State} (hw : ∀ d ∈ tables_1, d.before a0 Z = true) : (Jvm.Cond.fieldLink "com/example/pandarus/pandarus/Slots" (33 : Nat) "com/example/pandarus/pandarus/Slots" "taken" "I").before a0 Z = true := hw _ (List.mem_of_getElem? (i := 30) rfl)
theorem Wd33 {a0 : Array Value} {Z : State} (hw : ∀ d ∈ tables_1, d.before a0 Z = true) : (Jvm.Cond.initialized "com/example/pandarus/pandarus/Ranked").before a0 Z = true := hw _ (List.mem_of_getElem? (i := 33) rfl)
theorem Wd36 {a0 : Array Value} {Z : State} (hw : ∀ d ∈ tables_1, d.before a0 Z = true) : (Jvm.Cond.code ({ cls := "com/example/pandarus/pandarus/Ranked", name := "<init>", desc := "(Lcom/example/pandarus/pandarus/Subscription;JI)V" } : Jvm.MethodName) prog_54_method_1_code (5 : Nat) (Option.none : Option Jvm.ClassFile.FieldType)).before a0 Z = true := hw _ (List.mem_of_getElem? (i := 36) rfl)
theorem pd_1 : parseMethodDescriptor "(Lcom/example/pandarus/pandarus/Subscription;JI)V" = some ⟨[(.object "com/example/pandarus/pandarus/Subscription"), .long, .int], none⟩ := by decide +kernel
theorem Wd34 {a0 : Array Value} {Z : State} (hw : ∀ d ∈ tables_1, d.before a0 Z = true) : (Jvm.Cond.methodLink "com/example/pandarus/pandarus/Slots" (49 : Nat) ({ cls := "com/example/pandarus/pandarus/Ranked", name := "<init>", desc := "(Lcom/example/pandarus/pandarus/Subscription;JI)V" } : Jvm.MethodName)).before a0 Z = true := hw _ (List.mem_of_getElem? (i := 34) rfl)
theorem Wd35 {a0 : Array Value} {Z : State} (hw : ∀ d ∈ tables_1, d.before a0 Z = true) : (Jvm.Cond.instanceMethod ({ cls := "com/example/pandarus/pandarus/Ranked", name := "<init>", desc := "(Lcom/example/pandarus/pandarus/Subscription;JI)V" } : Jvm.MethodName)).before a0 Z = true := hw _ (List.mem_of_getElem? (i := 35) rfl)
set_option maxRecDepth 65536 in
set_option maxHeartbeats 40000000 in
theorem rm_h0 (l : Launch) (Z : State) (a0 : Array Value) (hw : ∀ d ∈ tables_1, d.before a0 Z = true) (ws : List Jvm.Cond) (sl hd an fr ag : Addr) (kh ka kf kg : ClassId) (t t2 : Int32) (g : Int64) (s0 s1 : Int32) (q : Int64) (h0 : Heap) (n0 : Nat) (Z0 : n0 ≤ h0.size) (ht : 0 ≤ t.toInt ∧ t.toInt ≤ 15) (ht2 : t + (1 : Int32) = t2) (DD : own_D Z n0 sl hd an fr ag kh) (SS : own_S Z h0 sl hd an fr ag kh ka kf kg t (0 : Int32) g s0 s1) :
    MetFree l (⟨"com/example/pandarus/pandarus/Slots", "hold", "(Lcom/example/pandarus/pandarus/Subscription;J)Lcom/example/pandarus/pandarus/Ranked;"⟩ : MethodName) (head1 (Jvm.Cond.code (⟨"com/example/pandarus/pandarus/Slots", "hold", "(Lcom/example/pandarus/pandarus/Subscription;J)Lcom/example/pandarus/pandarus/Ranked;"⟩ : MethodName) prog_65_method_2_code 7 (some (.object "com/example/pandarus/pandarus/Ranked")) :: ws) ({ frames := 3, cells := 1, slots := 3, locals := 44 } : Room)) (fun aa U => aa = #[(.ref sl), .null, (.long q)] ∧ Z.Warmed39 U.vm ∧ U.heap = h0) (fun _ _ _ _ _ => True) (fun _ U o U' => ∃ v L, o = .returned v ∧ Qh0 Z sl hd an fr ag kh ka kf kg t t2 g s0 s1 h0 n0 v U'.heap L ∧ FrameEnd U o U' L (({ frames := 3, cells := 1, slots := 3, locals := 44 } : Room).cells) (({ frames := 3, cells := 1, slots := 3, locals := 44 } : Room).slots)) := by
  refine own_body pf_4 ?_
  intro p e s m below meth c s₁ hx hby hml hown hnm hlk hret hZ X0 e0
  have N0 : Fr n0 [] := Fr.nil n0
  refine own_go (f' := (mkF m 0 #[.val (.ref sl), .val .null, .val (.long q), .second, .unset, .unset, .unset] [])) (fun t k => castTop (ef_rm_h0 m sl q) k) ?_
  obtain ⟨⟨g_sl, g_hd, g_an, g_fr, g_ag⟩, ⟨n1, n2, n3, n4⟩, ⟨n5, n6, n7, n8, n9, n10⟩, OV⟩ := DD
  obtain ⟨E_s, F_h, F_n, F_f, F_a, F_t, F_r, ⟨vh, lh, V_h⟩, ⟨vn, ln, V_n⟩, V_f, V_g⟩ := SS
  have htn : ¬ t < 0 ∧ t < (16 : Int32) := ⟨by rw [Int32.lt_iff_toInt_lt]; show ¬ (t : Int32).toInt < 0; omega, by rw [Int32.lt_iff_toInt_lt, own_t32_16]; omega⟩
  have ht16 : (t : Int32).toNatClampNeg < 16 := by have q := nat_of htn.1; omega
  have hdiv : t / (64 : Int32) = (0 : Int32) := by have q := (c_idiv t (64 : Int32) 64 (by decide) (by decide)).1 ht.1; rw [← Int32.toInt_inj, own_t32_0]; omega
  have hc16 : ¬ (t = (16 : Int32)) := by rw [← Int32.toInt_inj, own_t32_16]; omega
  have K1 : Keep h0 h0 [sl, hd, an, fr, ag] := Keep.refl _ _
  refine own_aloadN X0 hx (pc' := 1) (hb hby d3_0) rfl rfl rfl ?_
  refine own_getF X0 hx (pc' := 4) hZ hown (host := "") (Or.inl (Wd28 hw)) Via.refl e0 F_r (hb hby d3_1) rfl (fun T2 X2 e2 => ?_)
  refine own_ifYes X2 hx (pc' := 11) (hb hby d3_4) (flt (by decide : ¬ ((0 : Int32) < (0 : Int32)))).2.2.2 (by decide) (by decide) ?_
  refine own_iconst X2 hx (pc' := 12) (0 : Int32) (hb hby d3_11) rfl rfl ?_
  refine own_istore X2 hx (pc' := 14) (Ls' := #[.val (.ref sl), .val .null, .val (.long q), .second, .val (.int (0 : Int32)), .unset, .unset]) (hb hby d3_12) rfl rfl ?_
  refine own_iload X2 hx (pc' := 16) (hb hby d3_14) rfl rfl ?_
  refine own_ifYes X2 hx (pc' := 38) (hb hby d3_16) (teq (by decide : (0 : Int32) = (0 : Int32))).1 (by decide) (by decide) ?_
  refine own_aloadN X2 hx (pc' := 39) (hb hby d3_38) rfl rfl rfl ?_
  refine own_dup X2 hx (pc' := 40) (hb hby d3_39) rfl rfl ?_
  refine own_getF X2 hx (pc' := 43) hZ hown (host := "") (Or.inl (Wd30 hw)) Via.refl e2 F_t (hb hby d3_40) rfl (fun T3 X3 e3 => ?_)
  refine own_dupX1 X3 hx (pc' := 44) (hb hby d3_43) rfl rfl rfl ?_
  refine own_iconst X3 hx (pc' := 45) (1 : Int32) (hb hby d3_44) rfl rfl ?_
  refine own_iadd X3 hx (pc' := 46) (hb hby d3_45) rfl rfl ?_
  rw [ht2]
  refine own_putF X3 hx (pc' := 49) hZ (ty := .int) hown (host := "") (Or.inl (Wd30 hw)) Via.refl e3 F_t E_s (Or.inl (Wd31 hw)) (Wd1 hw) (by decide) rfl rfl (hb hby d3_46) rfl (fun T4 h4 X4 e4 W4 => ?_)
  have N5 := Fr.snoc X4 N0 g_sl
  have Z6 : n0 ≤ h4.size := Nat.le_trans Z0 (Nat.le_of_eq (Wr.size W4).symm)
  have K7 : Keep h0 h4 [sl, hd, an, fr, ag] := K1.wr W4 (Or.inl (List.mem_of_getElem? (i := 0) rfl))
  have F8 := (Exa.wr W4 E_s)
  have F9 := (Fld.other W4 F_h (Or.inr (slot_ne (Or.inl (Wd12 hw)) (Or.inl (Wd31 hw)) (by decide) (t := (.array (.object "com/example/pandarus/pandarus/Ranked"))) (t' := .int) (by decide) (by decide))))
  have F10 := (Fld.other W4 F_n (Or.inr (slot_ne (Or.inl (Wd16 hw)) (Or.inl (Wd31 hw)) (by decide) (t := (.array (.object "com/example/pandarus/pandarus/Subscription"))) (t' := .int) (by decide) (by decide))))
  have F11 := (Fld.other W4 F_f (Or.inr (slot_ne (Or.inl (Wd19 hw)) (Or.inl (Wd31 hw)) (by decide) (t := (.array .int)) (t' := .int) (by decide) (by decide))))
  have F12 := (Fld.other W4 F_a (Or.inr (slot_ne (Or.inl (Wd22 hw)) (Or.inl (Wd31 hw)) (by decide) (t := (.array .long)) (t' := .int) (by decide) (by decide))))
  have F13 := (Fld.same W4 F_t)
  have F14 := (Fld.other W4 F_r (Or.inr (slot_ne (Or.inl (Wd29 hw)) (Or.inl (Wd31 hw)) (by decide) (t := .int) (t' := .int) (by decide) (by decide))))
  have F15 := (V_h.other W4 (Ne.symm n1))
  have F16 := (V_n.other W4 (Ne.symm n2))
  have F17 := (V_f.other W4 (Ne.symm n3))
  have F18 := (V_g.other W4 (Ne.symm n4))
  refine own_istore X4 hx (pc' := 51) (Ls' := #[.val (.ref sl), .val .null, .val (.long q), .second, .val (.int (0 : Int32)), .val (.int t), .unset]) (hb hby d3_49) rfl rfl ?_
  refine own_iload X4 hx (pc' := 53) (hb hby d3_51) rfl rfl ?_
  refine own_aloadN X4 hx (pc' := 54) (hb hby d3_53) rfl rfl rfl ?_
  refine own_getF X4 hx (pc' := 57) hZ hown (host := "") (Or.inl (Wd11 hw)) Via.refl e4 F9 (hb hby d3_54) rfl (fun T19 X19 e19 => ?_)
  obtain ⟨cl20, Ar20, q20, S20, M20, H20, G20⟩ := id F15
  refine own_len X19 hx (pc' := 58) hZ e19 Ar20 S20 M20 (hb hby d3_57) rfl ?_
  refine own_icmpYes X19 hx (pc' := 101) (hb hby d3_58) (feq hc16).2 (by decide) (by decide) ?_
  refine own_iload X19 hx (pc' := 103) (hb hby d3_101) rfl rfl ?_
  refine own_bipush X19 hx (pc' := 105) (64 : Int32) (hb hby d3_103) rfl rfl ?_
  refine own_idiv X19 hx (pc' := 106) (hb hby d3_105) rfl (by decide) rfl ?_
  rw [hdiv]
  refine own_aloadN X19 hx (pc' := 107) (hb hby d3_106) rfl rfl rfl ?_
  refine own_getF X19 hx (pc' := 110) hZ hown (host := "") (Or.inl (Wd21 hw)) Via.refl e19 F12 (hb hby d3_107) rfl (fun T21 X21 e21 => ?_)
  obtain ⟨cl22, Ar22, q22, S22, M22, H22, G22⟩ := id F18
  refine own_len X21 hx (pc' := 111) hZ e21 Ar22 S22 M22 (hb hby d3_110) rfl ?_
  refine own_icmpYes X21 hx (pc' := 132) (hb hby d3_111) (feq (by decide : ¬ ((0 : Int32) = (1 : Int32)))).2 (by decide) (by decide) ?_
  refine own_aloadN X21 hx (pc' := 133) (hb hby d3_132) rfl rfl rfl ?_
  refine own_getF X21 hx (pc' := 136) hZ hown (host := "") (Or.inl (Wd21 hw)) Via.refl e21 F12 (hb hby d3_133) rfl (fun T23 X23 e23 => ?_)
  refine own_iload X23 hx (pc' := 138) (hb hby d3_136) rfl rfl ?_
  refine own_bipush X23 hx (pc' := 140) (64 : Int32) (hb hby d3_138) rfl rfl ?_
  refine own_idiv X23 hx (pc' := 141) (hb hby d3_140) rfl (by decide) rfl ?_
  rw [hdiv]
  refine own_dup2 X23 hx (pc' := 142) (hb hby d3_141) rfl rfl rfl ?_
  obtain ⟨cl24, Ar24, q24, S24, M24, H24, G24⟩ := id F18
  refine own_laload X23 hx (pc' := 143) hZ (v := g) e23 Ar24 (inb_of S24 ⟨by decide, by decide⟩) (Has.at H24 (inb_of S24 ⟨by decide, by decide⟩) rfl) (hb hby d3_142) rfl ?_
  refine own_iload X23 hx (pc' := 145) (hb hby d3_143) rfl rfl ?_
  refine own_ifYes X23 hx (pc' := 155) (hb hby d3_145) (teq (by decide : (0 : Int32) = (0 : Int32))).1 (by decide) (by decide) ?_
  refine own_lconst X23 hx (pc' := 156) (0 : Int64) (hb hby d3_155) rfl rfl ?_
  refine own_lor X23 hx (pc' := 157) (hb hby d3_156) rfl rfl ?_
  rw [show g ||| (0 : Int64) = g from Int64.or_zero]
  obtain ⟨cl25, Ar25, q25, S25, M25, H25, G25⟩ := id F18
  refine own_stJ X23 hx (pc' := 158) hZ e23 Ar25 (inb_of S25 ⟨by decide, by decide⟩) (hb hby d3_157) rfl (fun T26 h26 X26 e26 W26 => ?_)
  have N27 := Fr.snoc X26 N5 g_ag
  have Z28 : n0 ≤ h26.size := Nat.le_trans Z6 (Nat.le_of_eq (Wr.size W26).symm)
  have K29 : Keep h0 h26 [sl, hd, an, fr, ag] := K7.wr W26 (Or.inl (List.mem_of_getElem? (i := 4) rfl))
  have F30 := (Exa.wr W26 F8)
  have F31 := (Fld.other W26 F9 (Or.inl n4))
  have F32 := (Fld.other W26 F10 (Or.inl n4))
  have F33 := (Fld.other W26 F11 (Or.inl n4))
  have F34 := (Fld.other W26 F12 (Or.inl n4))
  have F35 := (Fld.other W26 F13 (Or.inl n4))
  have F36 := (Fld.other W26 F14 (Or.inl n4))
  have F37 := (F15.other W26 n7)
  have F38 := (F16.other W26 n9)
  have F39 := (F17.other W26 n10)
  have F40 : Arv Z h26 ag kg .long (1 : Int32) [(.long g)] (.long (0 : Int64)) := (Arv.set Ar25 q25 S25 M25 H25 G25 rfl W26 0 rfl (Nat.le_of_ble_eq_true rfl))
  refine own_new X26 hx (pc' := 161) hZ hown (Wd9 hw) (Wd32 hw) (Wd33 hw) e26 (hb hby d3_158) (by decide) (by decide) rfl (fun T41 h41 nb41 g41 X41 e41 E41 A41 D41 => ?_)
  have ne_sl_nb41_42 : sl ≠ nb41 := Nat.ne_of_lt (Nat.lt_of_lt_of_le F30.lt (Nat.le_of_eq g41.symm))
  have ne_hd_nb41_43 : hd ≠ nb41 := Nat.ne_of_lt (Nat.lt_of_lt_of_le F37.lt (Nat.le_of_eq g41.symm))
  have ne_an_nb41_44 : an ≠ nb41 := Nat.ne_of_lt (Nat.lt_of_lt_of_le F38.lt (Nat.le_of_eq g41.symm))
  have ne_fr_nb41_45 : fr ≠ nb41 := Nat.ne_of_lt (Nat.lt_of_lt_of_le F39.lt (Nat.le_of_eq g41.symm))
  have ne_ag_nb41_46 : ag ≠ nb41 := Nat.ne_of_lt (Nat.lt_of_lt_of_le F40.lt (Nat.le_of_eq g41.symm))
  have ge_nb41 : n0 ≤ nb41 := Nat.le_trans Z28 (Nat.le_of_eq g41.symm)
  have gk_nb41 : h0.size ≤ nb41 := Nat.le_trans K29.1 (Nat.le_of_eq g41.symm)
  have Z47 : n0 ≤ h41.size := Nat.le_trans Z28 E41.1
  have K48 : Keep h0 h41 [sl, hd, an, fr, ag] := K29.ext E41
  have F49 := (Exa.ext E41 F30)
  have F50 := (Fld.ext E41 F31)
  have F51 := (Fld.ext E41 F32)
  have F52 := (Fld.ext E41 F33)
  have F53 := (Fld.ext E41 F34)
  have F54 := (Fld.ext E41 F35)
  have F55 := (Fld.ext E41 F36)
  have F56 := (F37.ext E41)
  have F57 := (F38.ext E41)
  have F58 := (F39.ext E41)
  have F59 := (F40.ext E41)
  have F60 : Fld Z h41 nb41 "com/example/pandarus/pandarus/Ranked" "subscription" "Lcom/example/pandarus/pandarus/Subscription;" .null := D41 (Or.inr (Wd44 hw)) (ty := (.object "com/example/pandarus/pandarus/Subscription")) (by decide)
  have F61 : Fld Z h41 nb41 "com/example/pandarus/pandarus/Ranked" "sequence" "J" (.long (0 : Int64)) := D41 (Or.inr (Wd46 hw)) (ty := .long) (by decide)
  have F62 : Fld Z h41 nb41 "com/example/pandarus/pandarus/Ranked" "slot" "I" (.int (0 : Int32)) := D41 (Or.inr (Wd48 hw)) (ty := .int) (by decide)
  refine own_dup X41 hx (pc' := 162) (hb hby d3_161) rfl rfl ?_
  refine own_aloadN X41 hx (pc' := 163) (hb hby d3_162) rfl rfl rfl ?_
  refine own_lloadN X41 hx (pc' := 164) (hb hby d3_163) rfl rfl ?_
  refine own_iload X41 hx (pc' := 166) (hb hby d3_164) rfl rfl ?_
  refine own_callI X41 hx (pc' := 169) hZ rfl hown (Wd34 hw) (Wd35 hw) (Wd36 hw) (Wd33 hw) (by decide) (rm_rk l Z a0 hw [] nb41 q t h41 n0 Z47 ge_nb41 A41 F60 F61 F62) e41 (b := nb41) 1 (by decide) (by decide) (by decide) (by decide) [.null, (.long q), (.int t)] [(.ref nb41)] (by rw [hml]; rfl) (lenOf pd_1 rfl) rfl rfl (Nat.le_of_eq rfl) (hb hby d3_166) rfl (fun v63 T63 L63 X63 hQ63 => ?_)
  obtain ⟨rfl, Nq63, K63, G63⟩ := hQ63
  have N64 := Fr.app N27 Nq63
  have Z65 : n0 ≤ T63.heap.size := Nat.le_trans Z47 K63.1
  have K66 : Keep h0 T63.heap [sl, hd, an, fr, ag] := Keep.trans K48 K63 (allS (Or.inr gk_nb41) all0)
  have F67 := (Exa.keep F49 K63)
  have F68 := (F50.keep K63 (ninS ne_sl_nb41_42 nin0))
  have F69 := (F51.keep K63 (ninS ne_sl_nb41_42 nin0))
  have F70 := (F52.keep K63 (ninS ne_sl_nb41_42 nin0))
  have F71 := (F53.keep K63 (ninS ne_sl_nb41_42 nin0))
  have F72 := (F54.keep K63 (ninS ne_sl_nb41_42 nin0))
  have F73 := (F55.keep K63 (ninS ne_sl_nb41_42 nin0))
  have F74 := (F56.keep K63 (ninS ne_hd_nb41_43 nin0))
  have F75 := (F57.keep K63 (ninS ne_an_nb41_44 nin0))
  have F76 := (F58.keep K63 (ninS ne_fr_nb41_45 nin0))
  have F77 := (F59.keep K63 (ninS ne_ag_nb41_46 nin0))
  have F78 := (Exa.keep A41 K63)
  show own_G p.tables e below _ T63 (mkF m 169 #[.val (.ref sl), .val .null, .val (.long q), .second, .val (.int (0 : Int32)), .val (.int t), .unset] [(.ref nb41)])
  refine own_astore X63 hx (pc' := 171) (Ls' := #[.val (.ref sl), .val .null, .val (.long q), .second, .val (.int (0 : Int32)), .val (.int t), .val (.ref nb41)]) (hb hby d3_169) rfl rfl rfl ?_
  refine own_aloadN X63 hx (pc' := 172) (hb hby d3_171) rfl rfl rfl ?_
  refine own_getF X63 hx (pc' := 175) hZ hown (host := "") (Or.inl (Wd11 hw)) Via.refl rfl F68 (hb hby d3_172) rfl (fun T79 X79 e79 => ?_)
  refine own_iload X79 hx (pc' := 177) (hb hby d3_175) rfl rfl ?_
  refine own_aload X79 hx (pc' := 179) (hb hby d3_177) rfl rfl rfl ?_
  obtain ⟨cl80, Ar80, q80, S80, M80, H80, G80⟩ := id F74
  refine own_stR X79 hx (pc' := 180) hZ e79 Ar80 (inb_of S80 htn) rfl (Sto.ofV Ar80 q80 OV (Ins.self F78)) (hb hby d3_179) rfl (fun T81 h81 X81 e81 W81 => ?_)
  have N82 := Fr.snoc X81 N64 g_hd
  have Z83 : n0 ≤ h81.size := Nat.le_trans Z65 (Nat.le_of_eq (Wr.size W81).symm)
  have K84 : Keep h0 h81 [sl, hd, an, fr, ag] := K66.wr W81 (Or.inl (List.mem_of_getElem? (i := 1) rfl))
  have F85 := (Exa.wr W81 F67)
  have F86 := (Fld.other W81 F68 (Or.inl n1))
  have F87 := (Fld.other W81 F69 (Or.inl n1))
  have F88 := (Fld.other W81 F70 (Or.inl n1))
  have F89 := (Fld.other W81 F71 (Or.inl n1))
  have F90 := (Fld.other W81 F72 (Or.inl n1))
  have F91 := (Fld.other W81 F73 (Or.inl n1))
  have F92 : Arv Z h81 hd kh (.object "com/example/pandarus/pandarus/Ranked") (16 : Int32) (vh.set (t : Int32).toNatClampNeg (.ref nb41)) .null := (Arv.set Ar80 q80 S80 M80 H80 G80 rfl W81 (t : Int32).toNatClampNeg rfl (by simp only [List.length_set, lh]; exact ht16))
  have F93 := (F75.other W81 (Ne.symm n5))
  have F94 := (F76.other W81 (Ne.symm n6))
  have F95 := (F77.other W81 (Ne.symm n7))
  have F96 := (Exa.wr W81 F78)
  have F97 := (Fld.other W81 G63 (Or.inl (Ne.symm ne_hd_nb41_43)))
  refine own_aloadN X81 hx (pc' := 181) (hb hby d3_180) rfl rfl rfl ?_
  refine own_getF X81 hx (pc' := 184) hZ hown (host := "") (Or.inl (Wd15 hw)) Via.refl e81 F87 (hb hby d3_181) rfl (fun T98 X98 e98 => ?_)
  refine own_iload X98 hx (pc' := 186) (hb hby d3_184) rfl rfl ?_
  refine own_aloadN X98 hx (pc' := 187) (hb hby d3_186) rfl rfl rfl ?_
  obtain ⟨cl99, Ar99, q99, S99, M99, H99, G99⟩ := id F93
  refine own_stR X98 hx (pc' := 188) hZ e98 Ar99 (inb_of S99 htn) rfl (Or.inl rfl) (hb hby d3_187) rfl (fun T100 h100 X100 e100 W100 => ?_)
  have N101 := Fr.snoc X100 N82 g_an
  have Z102 : n0 ≤ h100.size := Nat.le_trans Z83 (Nat.le_of_eq (Wr.size W100).symm)
  have K103 : Keep h0 h100 [sl, hd, an, fr, ag] := K84.wr W100 (Or.inl (List.mem_of_getElem? (i := 2) rfl))
  have F104 := (Exa.wr W100 F85)
  have F105 := (Fld.other W100 F86 (Or.inl n2))
  have F106 := (Fld.other W100 F87 (Or.inl n2))
  have F107 := (Fld.other W100 F88 (Or.inl n2))
  have F108 := (Fld.other W100 F89 (Or.inl n2))
  have F109 := (Fld.other W100 F90 (Or.inl n2))
  have F110 := (Fld.other W100 F91 (Or.inl n2))
  have F111 := (F92.other W100 n5)
  have F112 : Arv Z h100 an ka (.object "com/example/pandarus/pandarus/Subscription") (16 : Int32) (vn.set (t : Int32).toNatClampNeg .null) .null := (Arv.set Ar99 q99 S99 M99 H99 G99 rfl W100 (t : Int32).toNatClampNeg rfl (by simp only [List.length_set, ln]; exact ht16))
  have F113 := (F94.other W100 (Ne.symm n8))
  have F114 := (F95.other W100 (Ne.symm n9))
  have F115 := (Exa.wr W100 F96)
  have F116 := (Fld.other W100 F97 (Or.inl (Ne.symm ne_an_nb41_44)))
  refine own_aload X100 hx (pc' := 190) (hb hby d3_188) rfl rfl rfl ?_
  refine own_retA X100 hx hlk hret rfl rfl rfl (hb hby d3_190) (by decide) (by decide) ?_
  rw [e100]
  exact ⟨nb41, rfl, gk_nb41, N101, K103, F115, F116, ⟨F104, F105, F106, F107, F108, F109, F110, ⟨_, by simp only [List.length_set]; exact lh, F111⟩, ⟨_, by simp only [List.length_set]; exact ln, F112⟩, F113, F114⟩⟩

def Qh1 (Z : State) (sl hd an fr ag : Addr) (kh ka kf kg : ClassId) (slot t2 : Int32) (g : Int64) (s0 s1 : Int32) (h0 : Heap) (n0 : Nat) (v : Option Value) (h : Heap) (L : List Loc) : Prop := ∃ rk : Addr, v = some (.ref rk) ∧ h0.size ≤ rk ∧ Fr n0 L ∧ Keep h0 h [sl, hd, an, fr, ag] ∧ Exa Z h rk "com/example/pandarus/pandarus/Ranked" ∧ Fld Z h rk "com/example/pandarus/pandarus/Ranked" "slot" "I" (.int slot) ∧ own_S Z h sl hd an fr ag kh ka kf kg t2 (0 : Int32) (g ||| ((1 : Int64) <<< (slot &&& 0x3f).toInt64)) s0 s1
theorem ef_rm_h1 (m : MethodId) (x0 : Addr) (x2 : Int64) : entryFrame m #[(.ref x0), .null, (.long x2)] 7 = mkF m 0 #[.val (.ref x0), .val .null, .val (.long x2), .second, .unset, .unset, .unset] [] := by first | (simp [entryFrame, mkF, argsToLocals, Value.category, maxLocals]; done) | rfl
set_option maxRecDepth 65536 in
set_option maxHeartbeats 40000000 in
theorem rm_h1 (l : Launch) (Z : State) (a0 : Array Value) (hw : ∀ d ∈ tables_1, d.before a0 Z = true) (ws : List Jvm.Cond) (sl hd an fr ag : Addr) (kh ka kf kg : ClassId) (t : Int32) (g : Int64) (s0 s1 : Int32) (q : Int64) (h0 : Heap) (n0 : Nat) (Z0 : n0 ≤ h0.size) (ht : 0 ≤ s0.toInt ∧ s0.toInt ≤ 15) (DD : own_D Z n0 sl hd an fr ag kh) (SS : own_S Z h0 sl hd an fr ag kh ka kf kg t (1 : Int32) g s0 s1) :
    MetFree l (⟨"com/example/pandarus/pandarus/Slots", "hold", "(Lcom/example/pandarus/pandarus/Subscription;J)Lcom/example/pandarus/pandarus/Ranked;"⟩ : MethodName) (head1 (Jvm.Cond.code (⟨"com/example/pandarus/pandarus/Slots", "hold", "(Lcom/example/pandarus/pandarus/Subscription;J)Lcom/example/pandarus/pandarus/Ranked;"⟩ : MethodName) prog_65_method_2_code 7 (some (.object "com/example/pandarus/pandarus/Ranked")) :: ws) ({ frames := 3, cells := 1, slots := 3, locals := 44 } : Room)) (fun aa U => aa = #[(.ref sl), .null, (.long q)] ∧ Z.Warmed39 U.vm ∧ U.heap = h0) (fun _ _ _ _ _ => True) (fun _ U o U' => ∃ v L, o = .returned v ∧ Qh1 Z sl hd an fr ag kh ka kf kg s0 t g s0 s1 h0 n0 v U'.heap L ∧ FrameEnd U o U' L (({ frames := 3, cells := 1, slots := 3, locals := 44 } : Room).cells) (({ frames := 3, cells := 1, slots := 3, locals := 44 } : Room).slots)) := by
  refine own_body pf_4 ?_
  intro p e s m below meth c s₁ hx hby hml hown hnm hlk hret hZ X0 e0
  have N0 : Fr n0 [] := Fr.nil n0
  refine own_go (f' := (mkF m 0 #[.val (.ref sl), .val .null, .val (.long q), .second, .unset, .unset, .unset] [])) (fun t k => castTop (ef_rm_h1 m sl q) k) ?_
  obtain ⟨⟨g_sl, g_hd, g_an, g_fr, g_ag⟩, ⟨n1, n2, n3, n4⟩, ⟨n5, n6, n7, n8, n9, n10⟩, OV⟩ := DD
  obtain ⟨E_s, F_h, F_n, F_f, F_a, F_t, F_r, ⟨vh, lh, V_h⟩, ⟨vn, ln, V_n⟩, V_f, V_g⟩ := SS
  have htn : ¬ s0 < 0 ∧ s0 < (16 : Int32) := ⟨by rw [Int32.lt_iff_toInt_lt]; show ¬ (s0 : Int32).toInt < 0; omega, by rw [Int32.lt_iff_toInt_lt, own_t32_16]; omega⟩
  have ht16 : (s0 : Int32).toNatClampNeg < 16 := by have q := nat_of htn.1; omega
  have hdiv : s0 / (64 : Int32) = (0 : Int32) := by have q := (c_idiv s0 (64 : Int32) 64 (by decide) (by decide)).1 ht.1; rw [← Int32.toInt_inj, own_t32_0]; omega
  have hc16 : ¬ (s0 = (16 : Int32)) := by rw [← Int32.toInt_inj, own_t32_16]; omega
  have K1 : Keep h0 h0 [sl, hd, an, fr, ag] := Keep.refl _ _
  refine own_aloadN X0 hx (pc' := 1) (hb hby d3_0) rfl rfl rfl ?_
  refine own_getF X0 hx (pc' := 4) hZ hown (host := "") (Or.inl (Wd28 hw)) Via.refl e0 F_r (hb hby d3_1) rfl (fun T2 X2 e2 => ?_)
  refine own_ifNo X2 hx (pc' := 7) (hb hby d3_4) (tlt (by decide : (0 : Int32) < (1 : Int32))).2.2.2 rfl ?_
  refine own_iconst X2 hx (pc' := 8) (1 : Int32) (hb hby d3_7) rfl rfl ?_
  refine own_goto X2 hx (pc' := 12) (hb hby d3_8) (by decide) (by decide) ?_
  refine own_istore X2 hx (pc' := 14) (Ls' := #[.val (.ref sl), .val .null, .val (.long q), .second, .val (.int (1 : Int32)), .unset, .unset]) (hb hby d3_12) rfl rfl ?_
  refine own_iload X2 hx (pc' := 16) (hb hby d3_14) rfl rfl ?_
  refine own_ifNo X2 hx (pc' := 19) (hb hby d3_16) (feq (by decide : ¬ ((1 : Int32) = (0 : Int32)))).1 rfl ?_
  refine own_aloadN X2 hx (pc' := 20) (hb hby d3_19) rfl rfl rfl ?_
  refine own_getF X2 hx (pc' := 23) hZ hown (host := "") (Or.inl (Wd18 hw)) Via.refl e2 F_f (hb hby d3_20) rfl (fun T3 X3 e3 => ?_)
  refine own_aloadN X3 hx (pc' := 24) (hb hby d3_23) rfl rfl rfl ?_
  refine own_dup X3 hx (pc' := 25) (hb hby d3_24) rfl rfl ?_
  refine own_getF X3 hx (pc' := 28) hZ hown (host := "") (Or.inl (Wd28 hw)) Via.refl e3 F_r (hb hby d3_25) rfl (fun T4 X4 e4 => ?_)
  refine own_iconst X4 hx (pc' := 29) (1 : Int32) (hb hby d3_28) rfl rfl ?_
  refine own_isub X4 hx (pc' := 30) (z := (0 : Int32)) (hb hby d3_29) (by decide) rfl ?_
  refine own_dupX1 X4 hx (pc' := 31) (hb hby d3_30) rfl rfl rfl ?_
  refine own_putF X4 hx (pc' := 34) hZ (ty := .int) hown (host := "") (Or.inl (Wd28 hw)) Via.refl e4 F_r E_s (Or.inl (Wd29 hw)) (Wd1 hw) (by decide) rfl rfl (hb hby d3_31) rfl (fun T5 h5 X5 e5 W5 => ?_)
  have N6 := Fr.snoc X5 N0 g_sl
  have Z7 : n0 ≤ h5.size := Nat.le_trans Z0 (Nat.le_of_eq (Wr.size W5).symm)
  have K8 : Keep h0 h5 [sl, hd, an, fr, ag] := K1.wr W5 (Or.inl (List.mem_of_getElem? (i := 0) rfl))
  have F9 := (Exa.wr W5 E_s)
  have F10 := (Fld.other W5 F_h (Or.inr (slot_ne (Or.inl (Wd12 hw)) (Or.inl (Wd29 hw)) (by decide) (t := (.array (.object "com/example/pandarus/pandarus/Ranked"))) (t' := .int) (by decide) (by decide))))
  have F11 := (Fld.other W5 F_n (Or.inr (slot_ne (Or.inl (Wd16 hw)) (Or.inl (Wd29 hw)) (by decide) (t := (.array (.object "com/example/pandarus/pandarus/Subscription"))) (t' := .int) (by decide) (by decide))))
  have F12 := (Fld.other W5 F_f (Or.inr (slot_ne (Or.inl (Wd19 hw)) (Or.inl (Wd29 hw)) (by decide) (t := (.array .int)) (t' := .int) (by decide) (by decide))))
  have F13 := (Fld.other W5 F_a (Or.inr (slot_ne (Or.inl (Wd22 hw)) (Or.inl (Wd29 hw)) (by decide) (t := (.array .long)) (t' := .int) (by decide) (by decide))))
  have F14 := (Fld.other W5 F_t (Or.inr (slot_ne (Or.inl (Wd31 hw)) (Or.inl (Wd29 hw)) (by decide) (t := .int) (t' := .int) (by decide) (by decide))))
  have F15 := (Fld.same W5 F_r)
  have F16 := (V_h.other W5 (Ne.symm n1))
  have F17 := (V_n.other W5 (Ne.symm n2))
  have F18 := (V_f.other W5 (Ne.symm n3))
  have F19 := (V_g.other W5 (Ne.symm n4))
  obtain ⟨cl20, Ar20, q20, S20, M20, H20, G20⟩ := id F18
  refine own_iaload X5 hx (pc' := 35) hZ (v := s0) e5 Ar20 (inb_of S20 ⟨by decide, by decide⟩) (Has.at H20 (inb_of S20 ⟨by decide, by decide⟩) rfl) (hb hby d3_34) rfl ?_
  refine own_goto X5 hx (pc' := 49) (hb hby d3_35) (by decide) (by decide) ?_
  refine own_istore X5 hx (pc' := 51) (Ls' := #[.val (.ref sl), .val .null, .val (.long q), .second, .val (.int (1 : Int32)), .val (.int s0), .unset]) (hb hby d3_49) rfl rfl ?_
  refine own_iload X5 hx (pc' := 53) (hb hby d3_51) rfl rfl ?_
  refine own_aloadN X5 hx (pc' := 54) (hb hby d3_53) rfl rfl rfl ?_
  refine own_getF X5 hx (pc' := 57) hZ hown (host := "") (Or.inl (Wd11 hw)) Via.refl e5 F10 (hb hby d3_54) rfl (fun T21 X21 e21 => ?_)
  obtain ⟨cl22, Ar22, q22, S22, M22, H22, G22⟩ := id F16
  refine own_len X21 hx (pc' := 58) hZ e21 Ar22 S22 M22 (hb hby d3_57) rfl ?_
  refine own_icmpYes X21 hx (pc' := 101) (hb hby d3_58) (feq hc16).2 (by decide) (by decide) ?_
  refine own_iload X21 hx (pc' := 103) (hb hby d3_101) rfl rfl ?_
  refine own_bipush X21 hx (pc' := 105) (64 : Int32) (hb hby d3_103) rfl rfl ?_
  refine own_idiv X21 hx (pc' := 106) (hb hby d3_105) rfl (by decide) rfl ?_
  rw [hdiv]
  refine own_aloadN X21 hx (pc' := 107) (hb hby d3_106) rfl rfl rfl ?_
  refine own_getF X21 hx (pc' := 110) hZ hown (host := "") (Or.inl (Wd21 hw)) Via.refl e21 F13 (hb hby d3_107) rfl (fun T23 X23 e23 => ?_)
  obtain ⟨cl24, Ar24, q24, S24, M24, H24, G24⟩ := id F19
  refine own_len X23 hx (pc' := 111) hZ e23 Ar24 S24 M24 (hb hby d3_110) rfl ?_
  refine own_icmpYes X23 hx (pc' := 132) (hb hby d3_111) (feq (by decide : ¬ ((0 : Int32) = (1 : Int32)))).2 (by decide) (by decide) ?_
  refine own_aloadN X23 hx (pc' := 133) (hb hby d3_132) rfl rfl rfl ?_
  refine own_getF X23 hx (pc' := 136) hZ hown (host := "") (Or.inl (Wd21 hw)) Via.refl e23 F13 (hb hby d3_133) rfl (fun T25 X25 e25 => ?_)
  refine own_iload X25 hx (pc' := 138) (hb hby d3_136) rfl rfl ?_
  refine own_bipush X25 hx (pc' := 140) (64 : Int32) (hb hby d3_138) rfl rfl ?_
  refine own_idiv X25 hx (pc' := 141) (hb hby d3_140) rfl (by decide) rfl ?_
  rw [hdiv]
  refine own_dup2 X25 hx (pc' := 142) (hb hby d3_141) rfl rfl rfl ?_
  obtain ⟨cl26, Ar26, q26, S26, M26, H26, G26⟩ := id F19
  refine own_laload X25 hx (pc' := 143) hZ (v := g) e25 Ar26 (inb_of S26 ⟨by decide, by decide⟩) (Has.at H26 (inb_of S26 ⟨by decide, by decide⟩) rfl) (hb hby d3_142) rfl ?_
  refine own_iload X25 hx (pc' := 145) (hb hby d3_143) rfl rfl ?_
  refine own_ifNo X25 hx (pc' := 148) (hb hby d3_145) (feq (by decide : ¬ ((1 : Int32) = (0 : Int32)))).1 rfl ?_
  refine own_lconst X25 hx (pc' := 149) (1 : Int64) (hb hby d3_148) rfl rfl ?_
  refine own_iload X25 hx (pc' := 151) (hb hby d3_149) rfl rfl ?_
  refine own_lshl X25 hx (pc' := 152) (hb hby d3_151) rfl ?_
  refine own_goto X25 hx (pc' := 156) (hb hby d3_152) (by decide) (by decide) ?_
  refine own_lor X25 hx (pc' := 157) (hb hby d3_156) rfl rfl ?_
  obtain ⟨cl27, Ar27, q27, S27, M27, H27, G27⟩ := id F19
  refine own_stJ X25 hx (pc' := 158) hZ e25 Ar27 (inb_of S27 ⟨by decide, by decide⟩) (hb hby d3_157) rfl (fun T28 h28 X28 e28 W28 => ?_)
  have N29 := Fr.snoc X28 N6 g_ag
  have Z30 : n0 ≤ h28.size := Nat.le_trans Z7 (Nat.le_of_eq (Wr.size W28).symm)
  have K31 : Keep h0 h28 [sl, hd, an, fr, ag] := K8.wr W28 (Or.inl (List.mem_of_getElem? (i := 4) rfl))
  have F32 := (Exa.wr W28 F9)
  have F33 := (Fld.other W28 F10 (Or.inl n4))
  have F34 := (Fld.other W28 F11 (Or.inl n4))
  have F35 := (Fld.other W28 F12 (Or.inl n4))
  have F36 := (Fld.other W28 F13 (Or.inl n4))
  have F37 := (Fld.other W28 F14 (Or.inl n4))
  have F38 := (Fld.other W28 F15 (Or.inl n4))
  have F39 := (F16.other W28 n7)
  have F40 := (F17.other W28 n9)
  have F41 := (F18.other W28 n10)
  have F42 : Arv Z h28 ag kg .long (1 : Int32) [(.long (g ||| ((1 : Int64) <<< (s0 &&& 0x3f).toInt64)))] (.long (0 : Int64)) := (Arv.set Ar27 q27 S27 M27 H27 G27 rfl W28 0 rfl (Nat.le_of_ble_eq_true rfl))
  refine own_new X28 hx (pc' := 161) hZ hown (Wd9 hw) (Wd32 hw) (Wd33 hw) e28 (hb hby d3_158) (by decide) (by decide) rfl (fun T43 h43 nb43 g43 X43 e43 E43 A43 D43 => ?_)
  have ne_sl_nb43_44 : sl ≠ nb43 := Nat.ne_of_lt (Nat.lt_of_lt_of_le F32.lt (Nat.le_of_eq g43.symm))
  have ne_hd_nb43_45 : hd ≠ nb43 := Nat.ne_of_lt (Nat.lt_of_lt_of_le F39.lt (Nat.le_of_eq g43.symm))
  have ne_an_nb43_46 : an ≠ nb43 := Nat.ne_of_lt (Nat.lt_of_lt_of_le F40.lt (Nat.le_of_eq g43.symm))
  have ne_fr_nb43_47 : fr ≠ nb43 := Nat.ne_of_lt (Nat.lt_of_lt_of_le F41.lt (Nat.le_of_eq g43.symm))
  have ne_ag_nb43_48 : ag ≠ nb43 := Nat.ne_of_lt (Nat.lt_of_lt_of_le F42.lt (Nat.le_of_eq g43.symm))
  have ge_nb43 : n0 ≤ nb43 := Nat.le_trans Z30 (Nat.le_of_eq g43.symm)
  have gk_nb43 : h0.size ≤ nb43 := Nat.le_trans K31.1 (Nat.le_of_eq g43.symm)
  have Z49 : n0 ≤ h43.size := Nat.le_trans Z30 E43.1
  have K50 : Keep h0 h43 [sl, hd, an, fr, ag] := K31.ext E43
  have F51 := (Exa.ext E43 F32)
  have F52 := (Fld.ext E43 F33)
  have F53 := (Fld.ext E43 F34)
  have F54 := (Fld.ext E43 F35)
  have F55 := (Fld.ext E43 F36)
  have F56 := (Fld.ext E43 F37)
  have F57 := (Fld.ext E43 F38)
  have F58 := (F39.ext E43)
  have F59 := (F40.ext E43)
  have F60 := (F41.ext E43)
  have F61 := (F42.ext E43)
  have F62 : Fld Z h43 nb43 "com/example/pandarus/pandarus/Ranked" "subscription" "Lcom/example/pandarus/pandarus/Subscription;" .null := D43 (Or.inr (Wd44 hw)) (ty := (.object "com/example/pandarus/pandarus/Subscription")) (by decide)
  have F63 : Fld Z h43 nb43 "com/example/pandarus/pandarus/Ranked" "sequence" "J" (.long (0 : Int64)) := D43 (Or.inr (Wd46 hw)) (ty := .long) (by decide)
  have F64 : Fld Z h43 nb43 "com/example/pandarus/pandarus/Ranked" "slot" "I" (.int (0 : Int32)) := D43 (Or.inr (Wd48 hw)) (ty := .int) (by decide)
  refine own_dup X43 hx (pc' := 162) (hb hby d3_161) rfl rfl ?_
  refine own_aloadN X43 hx (pc' := 163) (hb hby d3_162) rfl rfl rfl ?_
  refine own_lloadN X43 hx (pc' := 164) (hb hby d3_163) rfl rfl ?_
  refine own_iload X43 hx (pc' := 166) (hb hby d3_164) rfl rfl ?_
  refine own_callI X43 hx (pc' := 169) hZ rfl hown (Wd34 hw) (Wd35 hw) (Wd36 hw) (Wd33 hw) (by decide) (rm_rk l Z a0 hw [] nb43 q s0 h43 n0 Z49 ge_nb43 A43 F62 F63 F64) e43 (b := nb43) 1 (by decide) (by decide) (by decide) (by decide) [.null, (.long q), (.int s0)] [(.ref nb43)] (by rw [hml]; rfl) (lenOf pd_1 rfl) rfl rfl (Nat.le_of_eq rfl) (hb hby d3_166) rfl (fun v65 T65 L65 X65 hQ65 => ?_)
  obtain ⟨rfl, Nq65, K65, G65⟩ := hQ65
  have N66 := Fr.app N29 Nq65
  have Z67 : n0 ≤ T65.heap.size := Nat.le_trans Z49 K65.1
  have K68 : Keep h0 T65.heap [sl, hd, an, fr, ag] := Keep.trans K50 K65 (allS (Or.inr gk_nb43) all0)
  have F69 := (Exa.keep F51 K65)
  have F70 := (F52.keep K65 (ninS ne_sl_nb43_44 nin0))
  have F71 := (F53.keep K65 (ninS ne_sl_nb43_44 nin0))
  have F72 := (F54.keep K65 (ninS ne_sl_nb43_44 nin0))
  have F73 := (F55.keep K65 (ninS ne_sl_nb43_44 nin0))
  have F74 := (F56.keep K65 (ninS ne_sl_nb43_44 nin0))
  have F75 := (F57.keep K65 (ninS ne_sl_nb43_44 nin0))
  have F76 := (F58.keep K65 (ninS ne_hd_nb43_45 nin0))
  have F77 := (F59.keep K65 (ninS ne_an_nb43_46 nin0))
  have F78 := (F60.keep K65 (ninS ne_fr_nb43_47 nin0))
  have F79 := (F61.keep K65 (ninS ne_ag_nb43_48 nin0))
  have F80 := (Exa.keep A43 K65)
  show own_G p.tables e below _ T65 (mkF m 169 #[.val (.ref sl), .val .null, .val (.long q), .second, .val (.int (1 : Int32)), .val (.int s0), .unset] [(.ref nb43)])
  refine own_astore X65 hx (pc' := 171) (Ls' := #[.val (.ref sl), .val .null, .val (.long q), .second, .val (.int (1 : Int32)), .val (.int s0), .val (.ref nb43)]) (hb hby d3_169) rfl rfl rfl ?_
  refine own_aloadN X65 hx (pc' := 172) (hb hby d3_171) rfl rfl rfl ?_
  refine own_getF X65 hx (pc' := 175) hZ hown (host := "") (Or.inl (Wd11 hw)) Via.refl rfl F70 (hb hby d3_172) rfl (fun T81 X81 e81 => ?_)
  refine own_iload X81 hx (pc' := 177) (hb hby d3_175) rfl rfl ?_
  refine own_aload X81 hx (pc' := 179) (hb hby d3_177) rfl rfl rfl ?_
  obtain ⟨cl82, Ar82, q82, S82, M82, H82, G82⟩ := id F76
  refine own_stR X81 hx (pc' := 180) hZ e81 Ar82 (inb_of S82 htn) rfl (Sto.ofV Ar82 q82 OV (Ins.self F80)) (hb hby d3_179) rfl (fun T83 h83 X83 e83 W83 => ?_)
  have N84 := Fr.snoc X83 N66 g_hd
  have Z85 : n0 ≤ h83.size := Nat.le_trans Z67 (Nat.le_of_eq (Wr.size W83).symm)
  have K86 : Keep h0 h83 [sl, hd, an, fr, ag] := K68.wr W83 (Or.inl (List.mem_of_getElem? (i := 1) rfl))
  have F87 := (Exa.wr W83 F69)
  have F88 := (Fld.other W83 F70 (Or.inl n1))
  have F89 := (Fld.other W83 F71 (Or.inl n1))
  have F90 := (Fld.other W83 F72 (Or.inl n1))
  have F91 := (Fld.other W83 F73 (Or.inl n1))
  have F92 := (Fld.other W83 F74 (Or.inl n1))
  have F93 := (Fld.other W83 F75 (Or.inl n1))
  have F94 : Arv Z h83 hd kh (.object "com/example/pandarus/pandarus/Ranked") (16 : Int32) (vh.set (s0 : Int32).toNatClampNeg (.ref nb43)) .null := (Arv.set Ar82 q82 S82 M82 H82 G82 rfl W83 (s0 : Int32).toNatClampNeg rfl (by simp only [List.length_set, lh]; exact ht16))
  have F95 := (F77.other W83 (Ne.symm n5))
  have F96 := (F78.other W83 (Ne.symm n6))
  have F97 := (F79.other W83 (Ne.symm n7))
  have F98 := (Exa.wr W83 F80)
  have F99 := (Fld.other W83 G65 (Or.inl (Ne.symm ne_hd_nb43_45)))
  refine own_aloadN X83 hx (pc' := 181) (hb hby d3_180) rfl rfl rfl ?_
  refine own_getF X83 hx (pc' := 184) hZ hown (host := "") (Or.inl (Wd15 hw)) Via.refl e83 F89 (hb hby d3_181) rfl (fun T100 X100 e100 => ?_)
  refine own_iload X100 hx (pc' := 186) (hb hby d3_184) rfl rfl ?_
  refine own_aloadN X100 hx (pc' := 187) (hb hby d3_186) rfl rfl rfl ?_
  obtain ⟨cl101, Ar101, q101, S101, M101, H101, G101⟩ := id F95
  refine own_stR X100 hx (pc' := 188) hZ e100 Ar101 (inb_of S101 htn) rfl (Or.inl rfl) (hb hby d3_187) rfl (fun T102 h102 X102 e102 W102 => ?_)
  have N103 := Fr.snoc X102 N84 g_an
  have Z104 : n0 ≤ h102.size := Nat.le_trans Z85 (Nat.le_of_eq (Wr.size W102).symm)
  have K105 : Keep h0 h102 [sl, hd, an, fr, ag] := K86.wr W102 (Or.inl (List.mem_of_getElem? (i := 2) rfl))
  have F106 := (Exa.wr W102 F87)
  have F107 := (Fld.other W102 F88 (Or.inl n2))
  have F108 := (Fld.other W102 F89 (Or.inl n2))
  have F109 := (Fld.other W102 F90 (Or.inl n2))
  have F110 := (Fld.other W102 F91 (Or.inl n2))
  have F111 := (Fld.other W102 F92 (Or.inl n2))
  have F112 := (Fld.other W102 F93 (Or.inl n2))
  have F113 := (F94.other W102 n5)
  have F114 : Arv Z h102 an ka (.object "com/example/pandarus/pandarus/Subscription") (16 : Int32) (vn.set (s0 : Int32).toNatClampNeg .null) .null := (Arv.set Ar101 q101 S101 M101 H101 G101 rfl W102 (s0 : Int32).toNatClampNeg rfl (by simp only [List.length_set, ln]; exact ht16))
  have F115 := (F96.other W102 (Ne.symm n8))
  have F116 := (F97.other W102 (Ne.symm n9))
  have F117 := (Exa.wr W102 F98)
  have F118 := (Fld.other W102 F99 (Or.inl (Ne.symm ne_an_nb43_46)))
  refine own_aload X102 hx (pc' := 190) (hb hby d3_188) rfl rfl rfl ?_
  refine own_retA X102 hx hlk hret rfl rfl rfl (hb hby d3_190) (by decide) (by decide) ?_
  rw [e102]
  exact ⟨nb43, rfl, gk_nb43, N103, K105, F117, F118, ⟨F106, F107, F108, F109, F110, F111, F112, ⟨_, by simp only [List.length_set]; exact lh, F113⟩, ⟨_, by simp only [List.length_set]; exact ln, F114⟩, F115, F116⟩⟩

def Qh2 (Z : State) (sl hd an fr ag : Addr) (kh ka kf kg : ClassId) (slot t2 : Int32) (g : Int64) (s0 s1 : Int32) (h0 : Heap) (n0 : Nat) (v : Option Value) (h : Heap) (L : List Loc) : Prop := ∃ rk : Addr, v = some (.ref rk) ∧ h0.size ≤ rk ∧ Fr n0 L ∧ Keep h0 h [sl, hd, an, fr, ag] ∧ Exa Z h rk "com/example/pandarus/pandarus/Ranked" ∧ Fld Z h rk "com/example/pandarus/pandarus/Ranked" "slot" "I" (.int slot) ∧ own_S Z h sl hd an fr ag kh ka kf kg t2 (1 : Int32) (g ||| ((1 : Int64) <<< (slot &&& 0x3f).toInt64)) s0 s1
theorem ef_rm_h2 (m : MethodId) (x0 : Addr) (x2 : Int64) : entryFrame m #[(.ref x0), .null, (.long x2)] 7 = mkF m 0 #[.val (.ref x0), .val .null, .val (.long x2), .second, .unset, .unset, .unset] [] := by first | (simp [entryFrame, mkF, argsToLocals, Value.category, maxLocals]; done) | rfl
set_option maxRecDepth 65536 in
set_option maxHeartbeats 40000000 in
theorem rm_h2 (l : Launch) (Z : State) (a0 : Array Value) (hw : ∀ d ∈ tables_1, d.before a0 Z = true) (ws : List Jvm.Cond) (sl hd an fr ag : Addr) (kh ka kf kg : ClassId) (t : Int32) (g : Int64) (s0 s1 : Int32) (q : Int64) (h0 : Heap) (n0 : Nat) (Z0 : n0 ≤ h0.size) (ht : 0 ≤ s1.toInt ∧ s1.toInt ≤ 15) (DD : own_D Z n0 sl hd an fr ag kh) (SS : own_S Z h0 sl hd an fr ag kh ka kf kg t (2 : Int32) g s0 s1) :
    MetFree l (⟨"com/example/pandarus/pandarus/Slots", "hold", "(Lcom/example/pandarus/pandarus/Subscription;J)Lcom/example/pandarus/pandarus/Ranked;"⟩ : MethodName) (head1 (Jvm.Cond.code (⟨"com/example/pandarus/pandarus/Slots", "hold", "(Lcom/example/pandarus/pandarus/Subscription;J)Lcom/example/pandarus/pandarus/Ranked;"⟩ : MethodName) prog_65_method_2_code 7 (some (.object "com/example/pandarus/pandarus/Ranked")) :: ws) ({ frames := 3, cells := 1, slots := 3, locals := 44 } : Room)) (fun aa U => aa = #[(.ref sl), .null, (.long q)] ∧ Z.Warmed39 U.vm ∧ U.heap = h0) (fun _ _ _ _ _ => True) (fun _ U o U' => ∃ v L, o = .returned v ∧ Qh2 Z sl hd an fr ag kh ka kf kg s1 t g s0 s1 h0 n0 v U'.heap L ∧ FrameEnd U o U' L (({ frames := 3, cells := 1, slots := 3, locals := 44 } : Room).cells) (({ frames := 3, cells := 1, slots := 3, locals := 44 } : Room).slots)) := by
  refine own_body pf_4 ?_
  intro p e s m below meth c s₁ hx hby hml hown hnm hlk hret hZ X0 e0
  have N0 : Fr n0 [] := Fr.nil n0
  refine own_go (f' := (mkF m 0 #[.val (.ref sl), .val .null, .val (.long q), .second, .unset, .unset, .unset] [])) (fun t k => castTop (ef_rm_h2 m sl q) k) ?_
  obtain ⟨⟨g_sl, g_hd, g_an, g_fr, g_ag⟩, ⟨n1, n2, n3, n4⟩, ⟨n5, n6, n7, n8, n9, n10⟩, OV⟩ := DD
  obtain ⟨E_s, F_h, F_n, F_f, F_a, F_t, F_r, ⟨vh, lh, V_h⟩, ⟨vn, ln, V_n⟩, V_f, V_g⟩ := SS
  have htn : ¬ s1 < 0 ∧ s1 < (16 : Int32) := ⟨by rw [Int32.lt_iff_toInt_lt]; show ¬ (s1 : Int32).toInt < 0; omega, by rw [Int32.lt_iff_toInt_lt, own_t32_16]; omega⟩
  have ht16 : (s1 : Int32).toNatClampNeg < 16 := by have q := nat_of htn.1; omega
  have hdiv : s1 / (64 : Int32) = (0 : Int32) := by have q := (c_idiv s1 (64 : Int32) 64 (by decide) (by decide)).1 ht.1; rw [← Int32.toInt_inj, own_t32_0]; omega
  have hc16 : ¬ (s1 = (16 : Int32)) := by rw [← Int32.toInt_inj, own_t32_16]; omega
  have K1 : Keep h0 h0 [sl, hd, an, fr, ag] := Keep.refl _ _
  refine own_aloadN X0 hx (pc' := 1) (hb hby d3_0) rfl rfl rfl ?_
  refine own_getF X0 hx (pc' := 4) hZ hown (host := "") (Or.inl (Wd28 hw)) Via.refl e0 F_r (hb hby d3_1) rfl (fun T2 X2 e2 => ?_)
  refine own_ifNo X2 hx (pc' := 7) (hb hby d3_4) (tlt (by decide : (0 : Int32) < (2 : Int32))).2.2.2 rfl ?_
  refine own_iconst X2 hx (pc' := 8) (1 : Int32) (hb hby d3_7) rfl rfl ?_
  refine own_goto X2 hx (pc' := 12) (hb hby d3_8) (by decide) (by decide) ?_
  refine own_istore X2 hx (pc' := 14) (Ls' := #[.val (.ref sl), .val .null, .val (.long q), .second, .val (.int (1 : Int32)), .unset, .unset]) (hb hby d3_12) rfl rfl ?_
  refine own_iload X2 hx (pc' := 16) (hb hby d3_14) rfl rfl ?_
  refine own_ifNo X2 hx (pc' := 19) (hb hby d3_16) (feq (by decide : ¬ ((1 : Int32) = (0 : Int32)))).1 rfl ?_
  refine own_aloadN X2 hx (pc' := 20) (hb hby d3_19) rfl rfl rfl ?_
  refine own_getF X2 hx (pc' := 23) hZ hown (host := "") (Or.inl (Wd18 hw)) Via.refl e2 F_f (hb hby d3_20) rfl (fun T3 X3 e3 => ?_)
  refine own_aloadN X3 hx (pc' := 24) (hb hby d3_23) rfl rfl rfl ?_
  refine own_dup X3 hx (pc' := 25) (hb hby d3_24) rfl rfl ?_
  refine own_getF X3 hx (pc' := 28) hZ hown (host := "") (Or.inl (Wd28 hw)) Via.refl e3 F_r (hb hby d3_25) rfl (fun T4 X4 e4 => ?_)
  refine own_iconst X4 hx (pc' := 29) (1 : Int32) (hb hby d3_28) rfl rfl ?_
  refine own_isub X4 hx (pc' := 30) (z := (1 : Int32)) (hb hby d3_29) (by decide) rfl ?_
  refine own_dupX1 X4 hx (pc' := 31) (hb hby d3_30) rfl rfl rfl ?_
  refine own_putF X4 hx (pc' := 34) hZ (ty := .int) hown (host := "") (Or.inl (Wd28 hw)) Via.refl e4 F_r E_s (Or.inl (Wd29 hw)) (Wd1 hw) (by decide) rfl rfl (hb hby d3_31) rfl (fun T5 h5 X5 e5 W5 => ?_)
  have N6 := Fr.snoc X5 N0 g_sl
  have Z7 : n0 ≤ h5.size := Nat.le_trans Z0 (Nat.le_of_eq (Wr.size W5).symm)
  have K8 : Keep h0 h5 [sl, hd, an, fr, ag] := K1.wr W5 (Or.inl (List.mem_of_getElem? (i := 0) rfl))
  have F9 := (Exa.wr W5 E_s)
  have F10 := (Fld.other W5 F_h (Or.inr (slot_ne (Or.inl (Wd12 hw)) (Or.inl (Wd29 hw)) (by decide) (t := (.array (.object "com/example/pandarus/pandarus/Ranked"))) (t' := .int) (by decide) (by decide))))
  have F11 := (Fld.other W5 F_n (Or.inr (slot_ne (Or.inl (Wd16 hw)) (Or.inl (Wd29 hw)) (by decide) (t := (.array (.object "com/example/pandarus/pandarus/Subscription"))) (t' := .int) (by decide) (by decide))))
  have F12 := (Fld.other W5 F_f (Or.inr (slot_ne (Or.inl (Wd19 hw)) (Or.inl (Wd29 hw)) (by decide) (t := (.array .int)) (t' := .int) (by decide) (by decide))))
  have F13 := (Fld.other W5 F_a (Or.inr (slot_ne (Or.inl (Wd22 hw)) (Or.inl (Wd29 hw)) (by decide) (t := (.array .long)) (t' := .int) (by decide) (by decide))))
  have F14 := (Fld.other W5 F_t (Or.inr (slot_ne (Or.inl (Wd31 hw)) (Or.inl (Wd29 hw)) (by decide) (t := .int) (t' := .int) (by decide) (by decide))))
  have F15 := (Fld.same W5 F_r)
  have F16 := (V_h.other W5 (Ne.symm n1))
  have F17 := (V_n.other W5 (Ne.symm n2))
  have F18 := (V_f.other W5 (Ne.symm n3))
  have F19 := (V_g.other W5 (Ne.symm n4))
  obtain ⟨cl20, Ar20, q20, S20, M20, H20, G20⟩ := id F18
  refine own_iaload X5 hx (pc' := 35) hZ (v := s1) e5 Ar20 (inb_of S20 ⟨by decide, by decide⟩) (Has.at H20 (inb_of S20 ⟨by decide, by decide⟩) rfl) (hb hby d3_34) rfl ?_
  refine own_goto X5 hx (pc' := 49) (hb hby d3_35) (by decide) (by decide) ?_
  refine own_istore X5 hx (pc' := 51) (Ls' := #[.val (.ref sl), .val .null, .val (.long q), .second, .val (.int (1 : Int32)), .val (.int s1), .unset]) (hb hby d3_49) rfl rfl ?_
  refine own_iload X5 hx (pc' := 53) (hb hby d3_51) rfl rfl ?_
  refine own_aloadN X5 hx (pc' := 54) (hb hby d3_53) rfl rfl rfl ?_
  refine own_getF X5 hx (pc' := 57) hZ hown (host := "") (Or.inl (Wd11 hw)) Via.refl e5 F10 (hb hby d3_54) rfl (fun T21 X21 e21 => ?_)
  obtain ⟨cl22, Ar22, q22, S22, M22, H22, G22⟩ := id F16
  refine own_len X21 hx (pc' := 58) hZ e21 Ar22 S22 M22 (hb hby d3_57) rfl ?_
  refine own_icmpYes X21 hx (pc' := 101) (hb hby d3_58) (feq hc16).2 (by decide) (by decide) ?_
  refine own_iload X21 hx (pc' := 103) (hb hby d3_101) rfl rfl ?_
  refine own_bipush X21 hx (pc' := 105) (64 : Int32) (hb hby d3_103) rfl rfl ?_
  refine own_idiv X21 hx (pc' := 106) (hb hby d3_105) rfl (by decide) rfl ?_
  rw [hdiv]
  refine own_aloadN X21 hx (pc' := 107) (hb hby d3_106) rfl rfl rfl ?_
  refine own_getF X21 hx (pc' := 110) hZ hown (host := "") (Or.inl (Wd21 hw)) Via.refl e21 F13 (hb hby d3_107) rfl (fun T23 X23 e23 => ?_)
  obtain ⟨cl24, Ar24, q24, S24, M24, H24, G24⟩ := id F19
  refine own_len X23 hx (pc' := 111) hZ e23 Ar24 S24 M24 (hb hby d3_110) rfl ?_
  refine own_icmpYes X23 hx (pc' := 132) (hb hby d3_111) (feq (by decide : ¬ ((0 : Int32) = (1 : Int32)))).2 (by decide) (by decide) ?_
  refine own_aloadN X23 hx (pc' := 133) (hb hby d3_132) rfl rfl rfl ?_
  refine own_getF X23 hx (pc' := 136) hZ hown (host := "") (Or.inl (Wd21 hw)) Via.refl e23 F13 (hb hby d3_133) rfl (fun T25 X25 e25 => ?_)
  refine own_iload X25 hx (pc' := 138) (hb hby d3_136) rfl rfl ?_
  refine own_bipush X25 hx (pc' := 140) (64 : Int32) (hb hby d3_138) rfl rfl ?_
  refine own_idiv X25 hx (pc' := 141) (hb hby d3_140) rfl (by decide) rfl ?_
  rw [hdiv]
  refine own_dup2 X25 hx (pc' := 142) (hb hby d3_141) rfl rfl rfl ?_
  obtain ⟨cl26, Ar26, q26, S26, M26, H26, G26⟩ := id F19
  refine own_laload X25 hx (pc' := 143) hZ (v := g) e25 Ar26 (inb_of S26 ⟨by decide, by decide⟩) (Has.at H26 (inb_of S26 ⟨by decide, by decide⟩) rfl) (hb hby d3_142) rfl ?_
  refine own_iload X25 hx (pc' := 145) (hb hby d3_143) rfl rfl ?_
  refine own_ifNo X25 hx (pc' := 148) (hb hby d3_145) (feq (by decide : ¬ ((1 : Int32) = (0 : Int32)))).1 rfl ?_
  refine own_lconst X25 hx (pc' := 149) (1 : Int64) (hb hby d3_148) rfl rfl ?_
  refine own_iload X25 hx (pc' := 151) (hb hby d3_149) rfl rfl ?_
  refine own_lshl X25 hx (pc' := 152) (hb hby d3_151) rfl ?_
  refine own_goto X25 hx (pc' := 156) (hb hby d3_152) (by decide) (by decide) ?_
  refine own_lor X25 hx (pc' := 157) (hb hby d3_156) rfl rfl ?_
  obtain ⟨cl27, Ar27, q27, S27, M27, H27, G27⟩ := id F19
  refine own_stJ X25 hx (pc' := 158) hZ e25 Ar27 (inb_of S27 ⟨by decide, by decide⟩) (hb hby d3_157) rfl (fun T28 h28 X28 e28 W28 => ?_)
  have N29 := Fr.snoc X28 N6 g_ag
  have Z30 : n0 ≤ h28.size := Nat.le_trans Z7 (Nat.le_of_eq (Wr.size W28).symm)
  have K31 : Keep h0 h28 [sl, hd, an, fr, ag] := K8.wr W28 (Or.inl (List.mem_of_getElem? (i := 4) rfl))
  have F32 := (Exa.wr W28 F9)
  have F33 := (Fld.other W28 F10 (Or.inl n4))
  have F34 := (Fld.other W28 F11 (Or.inl n4))
  have F35 := (Fld.other W28 F12 (Or.inl n4))
  have F36 := (Fld.other W28 F13 (Or.inl n4))
  have F37 := (Fld.other W28 F14 (Or.inl n4))
  have F38 := (Fld.other W28 F15 (Or.inl n4))
  have F39 := (F16.other W28 n7)
  have F40 := (F17.other W28 n9)
  have F41 := (F18.other W28 n10)
  have F42 : Arv Z h28 ag kg .long (1 : Int32) [(.long (g ||| ((1 : Int64) <<< (s1 &&& 0x3f).toInt64)))] (.long (0 : Int64)) := (Arv.set Ar27 q27 S27 M27 H27 G27 rfl W28 0 rfl (Nat.le_of_ble_eq_true rfl))
  refine own_new X28 hx (pc' := 161) hZ hown (Wd9 hw) (Wd32 hw) (Wd33 hw) e28 (hb hby d3_158) (by decide) (by decide) rfl (fun T43 h43 nb43 g43 X43 e43 E43 A43 D43 => ?_)
  have ne_sl_nb43_44 : sl ≠ nb43 := Nat.ne_of_lt (Nat.lt_of_lt_of_le F32.lt (Nat.le_of_eq g43.symm))
  have ne_hd_nb43_45 : hd ≠ nb43 := Nat.ne_of_lt (Nat.lt_of_lt_of_le F39.lt (Nat.le_of_eq g43.symm))
  have ne_an_nb43_46 : an ≠ nb43 := Nat.ne_of_lt (Nat.lt_of_lt_of_le F40.lt (Nat.le_of_eq g43.symm))
  have ne_fr_nb43_47 : fr ≠ nb43 := Nat.ne_of_lt (Nat.lt_of_lt_of_le F41.lt (Nat.le_of_eq g43.symm))
  have ne_ag_nb43_48 : ag ≠ nb43 := Nat.ne_of_lt (Nat.lt_of_lt_of_le F42.lt (Nat.le_of_eq g43.symm))
  have ge_nb43 : n0 ≤ nb43 := Nat.le_trans Z30 (Nat.le_of_eq g43.symm)
  have gk_nb43 : h0.size ≤ nb43 := Nat.le_trans K31.1 (Nat.le_of_eq g43.symm)
  have Z49 : n0 ≤ h43.size := Nat.le_trans Z30 E43.1
  have K50 : Keep h0 h43 [sl, hd, an, fr, ag] := K31.ext E43
  have F51 := (Exa.ext E43 F32)
  have F52 := (Fld.ext E43 F33)
  have F53 := (Fld.ext E43 F34)
  have F54 := (Fld.ext E43 F35)
  have F55 := (Fld.ext E43 F36)
  have F56 := (Fld.ext E43 F37)
  have F57 := (Fld.ext E43 F38)
  have F58 := (F39.ext E43)
  have F59 := (F40.ext E43)
  have F60 := (F41.ext E43)
  have F61 := (F42.ext E43)
  have F62 : Fld Z h43 nb43 "com/example/pandarus/pandarus/Ranked" "subscription" "Lcom/example/pandarus/pandarus/Subscription;" .null := D43 (Or.inr (Wd44 hw)) (ty := (.object "com/example/pandarus/pandarus/Subscription")) (by decide)
  have F63 : Fld Z h43 nb43 "com/example/pandarus/pandarus/Ranked" "sequence" "J" (.long (0 : Int64)) := D43 (Or.inr (Wd46 hw)) (ty := .long) (by decide)
  have F64 : Fld Z h43 nb43 "com/example/pandarus/pandarus/Ranked" "slot" "I" (.int (0 : Int32)) := D43 (Or.inr (Wd48 hw)) (ty := .int) (by decide)
  refine own_dup X43 hx (pc' := 162) (hb hby d3_161) rfl rfl ?_
  refine own_aloadN X43 hx (pc' := 163) (hb hby d3_162) rfl rfl rfl ?_
  refine own_lloadN X43 hx (pc' := 164) (hb hby d3_163) rfl rfl ?_
  refine own_iload X43 hx (pc' := 166) (hb hby d3_164) rfl rfl ?_
  refine own_callI X43 hx (pc' := 169) hZ rfl hown (Wd34 hw) (Wd35 hw) (Wd36 hw) (Wd33 hw) (by decide) (rm_rk l Z a0 hw [] nb43 q s1 h43 n0 Z49 ge_nb43 A43 F62 F63 F64) e43 (b := nb43) 1 (by decide) (by decide) (by decide) (by decide) [.null, (.long q), (.int s1)] [(.ref nb43)] (by rw [hml]; rfl) (lenOf pd_1 rfl) rfl rfl (Nat.le_of_eq rfl) (hb hby d3_166) rfl (fun v65 T65 L65 X65 hQ65 => ?_)
  obtain ⟨rfl, Nq65, K65, G65⟩ := hQ65
  have N66 := Fr.app N29 Nq65
  have Z67 : n0 ≤ T65.heap.size := Nat.le_trans Z49 K65.1
  have K68 : Keep h0 T65.heap [sl, hd, an, fr, ag] := Keep.trans K50 K65 (allS (Or.inr gk_nb43) all0)
  have F69 := (Exa.keep F51 K65)
  have F70 := (F52.keep K65 (ninS ne_sl_nb43_44 nin0))
  have F71 := (F53.keep K65 (ninS ne_sl_nb43_44 nin0))
  have F72 := (F54.keep K65 (ninS ne_sl_nb43_44 nin0))
  have F73 := (F55.keep K65 (ninS ne_sl_nb43_44 nin0))
  have F74 := (F56.keep K65 (ninS ne_sl_nb43_44 nin0))
  have F75 := (F57.keep K65 (ninS ne_sl_nb43_44 nin0))
  have F76 := (F58.keep K65 (ninS ne_hd_nb43_45 nin0))
  have F77 := (F59.keep K65 (ninS ne_an_nb43_46 nin0))
  have F78 := (F60.keep K65 (ninS ne_fr_nb43_47 nin0))
  have F79 := (F61.keep K65 (ninS ne_ag_nb43_48 nin0))
  have F80 := (Exa.keep A43 K65)
  show own_G p.tables e below _ T65 (mkF m 169 #[.val (.ref sl), .val .null, .val (.long q), .second, .val (.int (1 : Int32)), .val (.int s1), .unset] [(.ref nb43)])
  refine own_astore X65 hx (pc' := 171) (Ls' := #[.val (.ref sl), .val .null, .val (.long q), .second, .val (.int (1 : Int32)), .val (.int s1), .val (.ref nb43)]) (hb hby d3_169) rfl rfl rfl ?_
  refine own_aloadN X65 hx (pc' := 172) (hb hby d3_171) rfl rfl rfl ?_
  refine own_getF X65 hx (pc' := 175) hZ hown (host := "") (Or.inl (Wd11 hw)) Via.refl rfl F70 (hb hby d3_172) rfl (fun T81 X81 e81 => ?_)
  refine own_iload X81 hx (pc' := 177) (hb hby d3_175) rfl rfl ?_
  refine own_aload X81 hx (pc' := 179) (hb hby d3_177) rfl rfl rfl ?_
  obtain ⟨cl82, Ar82, q82, S82, M82, H82, G82⟩ := id F76
  refine own_stR X81 hx (pc' := 180) hZ e81 Ar82 (inb_of S82 htn) rfl (Sto.ofV Ar82 q82 OV (Ins.self F80)) (hb hby d3_179) rfl (fun T83 h83 X83 e83 W83 => ?_)
  have N84 := Fr.snoc X83 N66 g_hd
  have Z85 : n0 ≤ h83.size := Nat.le_trans Z67 (Nat.le_of_eq (Wr.size W83).symm)
  have K86 : Keep h0 h83 [sl, hd, an, fr, ag] := K68.wr W83 (Or.inl (List.mem_of_getElem? (i := 1) rfl))
  have F87 := (Exa.wr W83 F69)
  have F88 := (Fld.other W83 F70 (Or.inl n1))
  have F89 := (Fld.other W83 F71 (Or.inl n1))
  have F90 := (Fld.other W83 F72 (Or.inl n1))
  have F91 := (Fld.other W83 F73 (Or.inl n1))
  have F92 := (Fld.other W83 F74 (Or.inl n1))
  have F93 := (Fld.other W83 F75 (Or.inl n1))
  have F94 : Arv Z h83 hd kh (.object "com/example/pandarus/pandarus/Ranked") (16 : Int32) (vh.set (s1 : Int32).toNatClampNeg (.ref nb43)) .null := (Arv.set Ar82 q82 S82 M82 H82 G82 rfl W83 (s1 : Int32).toNatClampNeg rfl (by simp only [List.length_set, lh]; exact ht16))
  have F95 := (F77.other W83 (Ne.symm n5))
  have F96 := (F78.other W83 (Ne.symm n6))
  have F97 := (F79.other W83 (Ne.symm n7))
  have F98 := (Exa.wr W83 F80)
  have F99 := (Fld.other W83 G65 (Or.inl (Ne.symm ne_hd_nb43_45)))
  refine own_aloadN X83 hx (pc' := 181) (hb hby d3_180) rfl rfl rfl ?_
  refine own_getF X83 hx (pc' := 184) hZ hown (host := "") (Or.inl (Wd15 hw)) Via.refl e83 F89 (hb hby d3_181) rfl (fun T100 X100 e100 => ?_)
  refine own_iload X100 hx (pc' := 186) (hb hby d3_184) rfl rfl ?_
  refine own_aloadN X100 hx (pc' := 187) (hb hby d3_186) rfl rfl rfl ?_
  obtain ⟨cl101, Ar101, q101, S101, M101, H101, G101⟩ := id F95
  refine own_stR X100 hx (pc' := 188) hZ e100 Ar101 (inb_of S101 htn) rfl (Or.inl rfl) (hb hby d3_187) rfl (fun T102 h102 X102 e102 W102 => ?_)
  have N103 := Fr.snoc X102 N84 g_an
  have Z104 : n0 ≤ h102.size := Nat.le_trans Z85 (Nat.le_of_eq (Wr.size W102).symm)
  have K105 : Keep h0 h102 [sl, hd, an, fr, ag] := K86.wr W102 (Or.inl (List.mem_of_getElem? (i := 2) rfl))
  have F106 := (Exa.wr W102 F87)
  have F107 := (Fld.other W102 F88 (Or.inl n2))
  have F108 := (Fld.other W102 F89 (Or.inl n2))
  have F109 := (Fld.other W102 F90 (Or.inl n2))
  have F110 := (Fld.other W102 F91 (Or.inl n2))
  have F111 := (Fld.other W102 F92 (Or.inl n2))
  have F112 := (Fld.other W102 F93 (Or.inl n2))
  have F113 := (F94.other W102 n5)
  have F114 : Arv Z h102 an ka (.object "com/example/pandarus/pandarus/Subscription") (16 : Int32) (vn.set (s1 : Int32).toNatClampNeg .null) .null := (Arv.set Ar101 q101 S101 M101 H101 G101 rfl W102 (s1 : Int32).toNatClampNeg rfl (by simp only [List.length_set, ln]; exact ht16))
  have F115 := (F96.other W102 (Ne.symm n8))
  have F116 := (F97.other W102 (Ne.symm n9))
  have F117 := (Exa.wr W102 F98)
  have F118 := (Fld.other W102 F99 (Or.inl (Ne.symm ne_an_nb43_46)))
  refine own_aload X102 hx (pc' := 190) (hb hby d3_188) rfl rfl rfl ?_
  refine own_retA X102 hx hlk hret rfl rfl rfl (hb hby d3_190) (by decide) (by decide) ?_
  rw [e102]
  exact ⟨nb43, rfl, gk_nb43, N103, K105, F117, F118, ⟨F106, F107, F108, F109, F110, F111, F112, ⟨_, by simp only [List.length_set]; exact lh, F113⟩, ⟨_, by simp only [List.length_set]; exact ln, F114⟩, F115, F116⟩⟩

theorem d7_0 : decode prog_65_method_3_code 0 = .ok (.aload_n 0, 1) := by decide +kernel
theorem d7_1 : decode prog_65_method_3_code 1 = .ok (.getfield 9, 3) := by decide +kernel
theorem d7_4 : decode prog_65_method_3_code 4 = .ok (.aload_n 1, 1) := by decide +kernel
theorem d7_5 : decode prog_65_method_3_code 5 = .ok (.invokevirtual 52, 3) := by decide +kernel
theorem d7_8 : decode prog_65_method_3_code 8 = .ok (.aconst_null, 1) := by decide +kernel
theorem d7_9 : decode prog_65_method_3_code 9 = .ok (.aastore, 1) := by decide +kernel
theorem d7_10 : decode prog_65_method_3_code 10 = .ok (.aload_n 0, 1) := by decide +kernel
theorem d7_11 : decode prog_65_method_3_code 11 = .ok (.getfield 17, 3) := by decide +kernel
theorem d7_14 : decode prog_65_method_3_code 14 = .ok (.aload_n 1, 1) := by decide +kernel
theorem d7_15 : decode prog_65_method_3_code 15 = .ok (.invokevirtual 52, 3) := by decide +kernel
theorem d7_18 : decode prog_65_method_3_code 18 = .ok (.aconst_null, 1) := by decide +kernel
theorem d7_19 : decode prog_65_method_3_code 19 = .ok (.aastore, 1) := by decide +kernel
theorem d7_20 : decode prog_65_method_3_code 20 = .ok (.aload_n 0, 1) := by decide +kernel
theorem d7_21 : decode prog_65_method_3_code 21 = .ok (.getfield 29, 3) := by decide +kernel
theorem d7_24 : decode prog_65_method_3_code 24 = .ok (.aload_n 0, 1) := by decide +kernel
theorem d7_25 : decode prog_65_method_3_code 25 = .ok (.getfield 21, 3) := by decide +kernel
theorem d7_28 : decode prog_65_method_3_code 28 = .ok (.arraylength, 1) := by decide +kernel
theorem d7_29 : decode prog_65_method_3_code 29 = .ok (.if_icmp .ne 20, 3) := by decide +kernel
theorem d7_32 : decode prog_65_method_3_code 32 = .ok (.aload_n 0, 1) := by decide +kernel
theorem d7_33 : decode prog_65_method_3_code 33 = .ok (.aload_n 0, 1) := by decide +kernel
theorem d7_34 : decode prog_65_method_3_code 34 = .ok (.getfield 21, 3) := by decide +kernel
theorem d7_37 : decode prog_65_method_3_code 37 = .ok (.iconst 2, 1) := by decide +kernel
theorem d7_38 : decode prog_65_method_3_code 38 = .ok (.aload_n 0, 1) := by decide +kernel
theorem d7_39 : decode prog_65_method_3_code 39 = .ok (.getfield 29, 3) := by decide +kernel
theorem d7_42 : decode prog_65_method_3_code 42 = .ok (.imul, 1) := by decide +kernel
theorem d7_43 : decode prog_65_method_3_code 43 = .ok (.invokestatic 56, 3) := by decide +kernel
theorem d7_46 : decode prog_65_method_3_code 46 = .ok (.putfield 21, 3) := by decide +kernel
theorem d7_49 : decode prog_65_method_3_code 49 = .ok (.aload_n 0, 1) := by decide +kernel
theorem d7_50 : decode prog_65_method_3_code 50 = .ok (.getfield 21, 3) := by decide +kernel
theorem d7_53 : decode prog_65_method_3_code 53 = .ok (.aload_n 0, 1) := by decide +kernel
theorem d7_54 : decode prog_65_method_3_code 54 = .ok (.dup, 1) := by decide +kernel
theorem d7_55 : decode prog_65_method_3_code 55 = .ok (.getfield 29, 3) := by decide +kernel
theorem d7_58 : decode prog_65_method_3_code 58 = .ok (.dup_x1, 1) := by decide +kernel
theorem d7_59 : decode prog_65_method_3_code 59 = .ok (.iconst 1, 1) := by decide +kernel
theorem d7_60 : decode prog_65_method_3_code 60 = .ok (.iadd, 1) := by decide +kernel
theorem d7_61 : decode prog_65_method_3_code 61 = .ok (.putfield 29, 3) := by decide +kernel
theorem d7_64 : decode prog_65_method_3_code 64 = .ok (.aload_n 1, 1) := by decide +kernel
theorem d7_65 : decode prog_65_method_3_code 65 = .ok (.invokevirtual 52, 3) := by decide +kernel
theorem d7_68 : decode prog_65_method_3_code 68 = .ok (.iastore, 1) := by decide +kernel
theorem d7_69 : decode prog_65_method_3_code 69 = .ok (.return_, 1) := by decide +kernel
def Qr0 (Z : State) (sl hd an fr ag : Addr) (kh ka kf kg : ClassId) (t : Int32) (g : Int64) (s0 s1 z : Int32) (h0 : Heap) (n0 : Nat) (v : Option Value) (h : Heap) (L : List Loc) : Prop := v = none ∧ Fr n0 L ∧ Keep h0 h [sl, hd, an, fr, ag] ∧ own_S Z h sl hd an fr ag kh ka kf kg t (1 : Int32) g z s1
theorem ef_rm_r0 (m : MethodId) (x0 : Addr) (x1 : Addr) : entryFrame m #[(.ref x0), (.ref x1)] 2 = mkF m 0 #[.val (.ref x0), .val (.ref x1)] [] := by first | (simp [entryFrame, mkF, argsToLocals, Value.category, maxLocals]; done) | rfl
theorem pf_5 : plainFor (⟨"com/example/pandarus/pandarus/Slots", "release", "(Lcom/example/pandarus/pandarus/Ranked;)V"⟩ : MethodName) = true := by apply plainFor_of_name; first | (simp [plainName, overriddenIn]; done) | decide +kernel
theorem Wd65 {a0 : Array Value} {Z : State} (hw : ∀ d ∈ tables_1, d.before a0 Z = true) : (Jvm.Cond.code ({ cls := "com/example/pandarus/pandarus/Ranked", name := "slot", desc := "()I" } : Jvm.MethodName) prog_54_method_9_code (1 : Nat) (Option.some Jvm.ClassFile.FieldType.int)).before a0 Z = true := hw _ (List.mem_of_getElem? (i := 65) rfl)
theorem pd_2 : parseMethodDescriptor "()I" = some ⟨[], some .int⟩ := by decide +kernel
theorem Wd61 {a0 : Array Value} {Z : State} (hw : ∀ d ∈ tables_1, d.before a0 Z = true) : (Jvm.Cond.methodLink "com/example/pandarus/pandarus/Slots" (52 : Nat) ({ cls := "com/example/pandarus/pandarus/Ranked", name := "slot", desc := "()I" } : Jvm.MethodName)).before a0 Z = true := hw _ (List.mem_of_getElem? (i := 61) rfl)
theorem Wd63 {a0 : Array Value} {Z : State} (hw : ∀ d ∈ tables_1, d.before a0 Z = true) : (Jvm.Cond.instanceMethod ({ cls := "com/example/pandarus/pandarus/Ranked", name := "slot", desc := "()I" } : Jvm.MethodName)).before a0 Z = true := hw _ (List.mem_of_getElem? (i := 63) rfl)
theorem Wd64 {a0 : Array Value} {Z : State} (hw : ∀ d ∈ tables_1, d.before a0 Z = true) : (Jvm.Cond.selects "com/example/pandarus/pandarus/Ranked" ({ cls := "com/example/pandarus/pandarus/Ranked", name := "slot", desc := "()I" } : Jvm.MethodName) ({ cls := "com/example/pandarus/pandarus/Ranked", name := "slot", desc := "()I" } : Jvm.MethodName)).before a0 Z = true := hw _ (List.mem_of_getElem? (i := 64) rfl)
set_option maxRecDepth 65536 in
set_option maxHeartbeats 40000000 in
theorem rm_r0 (l : Launch) (Z : State) (a0 : Array Value) (hw : ∀ d ∈ tables_1, d.before a0 Z = true) (ws : List Jvm.Cond) (sl hd an fr ag : Addr) (kh ka kf kg : ClassId) (rk : Addr) (t : Int32) (g : Int64) (s0 s1 z : Int32) (h0 : Heap) (n0 : Nat) (Z0 : n0 ≤ h0.size) (ht : 0 ≤ z.toInt ∧ z.toInt ≤ 15) (hne : rk ≠ sl ∧ rk ≠ hd ∧ rk ≠ an ∧ rk ≠ fr ∧ rk ≠ ag) (DD : own_D Z n0 sl hd an fr ag kh) (E_k : Exa Z h0 rk "com/example/pandarus/pandarus/Ranked") (F_k : Fld Z h0 rk "com/example/pandarus/pandarus/Ranked" "slot" "I" (.int z)) (SS : own_S Z h0 sl hd an fr ag kh ka kf kg t (0 : Int32) g s0 s1) :
    MetFree l (⟨"com/example/pandarus/pandarus/Slots", "release", "(Lcom/example/pandarus/pandarus/Ranked;)V"⟩ : MethodName) (head1 (Jvm.Cond.code (⟨"com/example/pandarus/pandarus/Slots", "release", "(Lcom/example/pandarus/pandarus/Ranked;)V"⟩ : MethodName) prog_65_method_3_code 2 none :: ws) ({ frames := 1, cells := 0, slots := 0, locals := 16 } : Room)) (fun aa U => aa = #[(.ref sl), (.ref rk)] ∧ Z.Warmed39 U.vm ∧ U.heap = h0) (fun _ _ _ _ _ => True) (fun _ U o U' => ∃ v L, o = .returned v ∧ Qr0 Z sl hd an fr ag kh ka kf kg t g s0 s1 z h0 n0 v U'.heap L ∧ FrameEnd U o U' L (({ frames := 1, cells := 0, slots := 0, locals := 16 } : Room).cells) (({ frames := 1, cells := 0, slots := 0, locals := 16 } : Room).slots)) := by
  refine own_body pf_5 ?_
  intro p e s m below meth c s₁ hx hby hml hown hnm hlk hret hZ X0 e0
  have N0 : Fr n0 [] := Fr.nil n0
  refine own_go (f' := (mkF m 0 #[.val (.ref sl), .val (.ref rk)] [])) (fun t k => castTop (ef_rm_r0 m sl rk) k) ?_
  obtain ⟨⟨g_sl, g_hd, g_an, g_fr, g_ag⟩, ⟨n1, n2, n3, n4⟩, ⟨n5, n6, n7, n8, n9, n10⟩, OV⟩ := DD
  obtain ⟨E_s, F_h, F_n, F_f, F_a, F_t, F_r, ⟨vh, lh, V_h⟩, ⟨vn, ln, V_n⟩, V_f, V_g⟩ := SS
  have htn : ¬ z < 0 ∧ z < (16 : Int32) := ⟨by rw [Int32.lt_iff_toInt_lt]; show ¬ (z : Int32).toInt < 0; omega, by rw [Int32.lt_iff_toInt_lt, own_t32_16]; omega⟩
  have ht16 : (z : Int32).toNatClampNeg < 16 := by have q := nat_of htn.1; omega
  have hdiv : z / (64 : Int32) = (0 : Int32) := by have q := (c_idiv z (64 : Int32) 64 (by decide) (by decide)).1 ht.1; rw [← Int32.toInt_inj, own_t32_0]; omega
  have K1 : Keep h0 h0 [sl, hd, an, fr, ag] := Keep.refl _ _
  refine own_aloadN X0 hx (pc' := 1) (hb hby d7_0) rfl rfl rfl ?_
  refine own_getF X0 hx (pc' := 4) hZ hown (host := "") (Or.inl (Wd11 hw)) Via.refl e0 F_h (hb hby d7_1) rfl (fun T2 X2 e2 => ?_)
  refine own_aloadN X2 hx (pc' := 5) (hb hby d7_4) rfl rfl rfl ?_
  refine own_callV X2 hx (pc' := 8) hZ hown (Wd61 hw) (Wd63 hw) (Wd64 hw) (Wd65 hw) (Wd33 hw) (by decide) (rm_slot l Z a0 hw [] rk z h0 n0 Z0 F_k) e2 E_k 1 (by decide) (by decide) (by decide) (by decide) [] [(.ref hd)] (by rw [hml]; rfl) (lenOf pd_2 rfl) rfl rfl (Nat.le_of_eq rfl) (hb hby d7_5) rfl (fun v3 T3 L3 X3 hQ3 => ?_)
  obtain ⟨rfl, Nq3, e3⟩ := hQ3
  have N4 := Fr.app N0 Nq3
  show own_G p.tables e below _ T3 (mkF m 8 #[.val (.ref sl), .val (.ref rk)] [(.int z), (.ref hd)])
  refine own_aconstNull X3 hx (pc' := 9) (hb hby d7_8) rfl ?_
  obtain ⟨cl5, Ar5, q5, S5, M5, H5, G5⟩ := id V_h
  refine own_stR X3 hx (pc' := 10) hZ e3 Ar5 (inb_of S5 htn) rfl (Or.inl rfl) (hb hby d7_9) rfl (fun T6 h6 X6 e6 W6 => ?_)
  have N7 := Fr.snoc X6 N4 g_hd
  have Z8 : n0 ≤ h6.size := Nat.le_trans Z0 (Nat.le_of_eq (Wr.size W6).symm)
  have K9 : Keep h0 h6 [sl, hd, an, fr, ag] := K1.wr W6 (Or.inl (List.mem_of_getElem? (i := 1) rfl))
  have F10 := (Exa.wr W6 E_s)
  have F11 := (Fld.other W6 F_h (Or.inl n1))
  have F12 := (Fld.other W6 F_n (Or.inl n1))
  have F13 := (Fld.other W6 F_f (Or.inl n1))
  have F14 := (Fld.other W6 F_a (Or.inl n1))
  have F15 := (Fld.other W6 F_t (Or.inl n1))
  have F16 := (Fld.other W6 F_r (Or.inl n1))
  have F17 : Arv Z h6 hd kh (.object "com/example/pandarus/pandarus/Ranked") (16 : Int32) (vh.set (z : Int32).toNatClampNeg .null) .null := (Arv.set Ar5 q5 S5 M5 H5 G5 rfl W6 (z : Int32).toNatClampNeg rfl (by simp only [List.length_set, lh]; exact ht16))
  have F18 := (V_n.other W6 (Ne.symm n5))
  have F19 := (V_f.other W6 (Ne.symm n6))
  have F20 := (V_g.other W6 (Ne.symm n7))
  have F21 := (Exa.wr W6 E_k)
  have F22 := (Fld.other W6 F_k (Or.inl hne.2.1))
  refine own_aloadN X6 hx (pc' := 11) (hb hby d7_10) rfl rfl rfl ?_
  refine own_getF X6 hx (pc' := 14) hZ hown (host := "") (Or.inl (Wd15 hw)) Via.refl e6 F12 (hb hby d7_11) rfl (fun T23 X23 e23 => ?_)
  refine own_aloadN X23 hx (pc' := 15) (hb hby d7_14) rfl rfl rfl ?_
  refine own_callV X23 hx (pc' := 18) hZ hown (Wd61 hw) (Wd63 hw) (Wd64 hw) (Wd65 hw) (Wd33 hw) (by decide) (rm_slot l Z a0 hw [] rk z h6 n0 Z8 F22) e23 F21 1 (by decide) (by decide) (by decide) (by decide) [] [(.ref an)] (by rw [hml]; rfl) (lenOf pd_2 rfl) rfl rfl (Nat.le_of_eq rfl) (hb hby d7_15) rfl (fun v24 T24 L24 X24 hQ24 => ?_)
  obtain ⟨rfl, Nq24, e24⟩ := hQ24
  have N25 := Fr.app N7 Nq24
  show own_G p.tables e below _ T24 (mkF m 18 #[.val (.ref sl), .val (.ref rk)] [(.int z), (.ref an)])
  refine own_aconstNull X24 hx (pc' := 19) (hb hby d7_18) rfl ?_
  obtain ⟨cl26, Ar26, q26, S26, M26, H26, G26⟩ := id F18
  refine own_stR X24 hx (pc' := 20) hZ e24 Ar26 (inb_of S26 htn) rfl (Or.inl rfl) (hb hby d7_19) rfl (fun T27 h27 X27 e27 W27 => ?_)
  have N28 := Fr.snoc X27 N25 g_an
  have Z29 : n0 ≤ h27.size := Nat.le_trans Z8 (Nat.le_of_eq (Wr.size W27).symm)
  have K30 : Keep h0 h27 [sl, hd, an, fr, ag] := K9.wr W27 (Or.inl (List.mem_of_getElem? (i := 2) rfl))
  have F31 := (Exa.wr W27 F10)
  have F32 := (Fld.other W27 F11 (Or.inl n2))
  have F33 := (Fld.other W27 F12 (Or.inl n2))
  have F34 := (Fld.other W27 F13 (Or.inl n2))
  have F35 := (Fld.other W27 F14 (Or.inl n2))
  have F36 := (Fld.other W27 F15 (Or.inl n2))
  have F37 := (Fld.other W27 F16 (Or.inl n2))
  have F38 := (F17.other W27 n5)
  have F39 : Arv Z h27 an ka (.object "com/example/pandarus/pandarus/Subscription") (16 : Int32) (vn.set (z : Int32).toNatClampNeg .null) .null := (Arv.set Ar26 q26 S26 M26 H26 G26 rfl W27 (z : Int32).toNatClampNeg rfl (by simp only [List.length_set, ln]; exact ht16))
  have F40 := (F19.other W27 (Ne.symm n8))
  have F41 := (F20.other W27 (Ne.symm n9))
  have F42 := (Exa.wr W27 F21)
  have F43 := (Fld.other W27 F22 (Or.inl hne.2.2.1))
  refine own_aloadN X27 hx (pc' := 21) (hb hby d7_20) rfl rfl rfl ?_
  refine own_getF X27 hx (pc' := 24) hZ hown (host := "") (Or.inl (Wd28 hw)) Via.refl e27 F37 (hb hby d7_21) rfl (fun T44 X44 e44 => ?_)
  refine own_aloadN X44 hx (pc' := 25) (hb hby d7_24) rfl rfl rfl ?_
  refine own_getF X44 hx (pc' := 28) hZ hown (host := "") (Or.inl (Wd18 hw)) Via.refl e44 F34 (hb hby d7_25) rfl (fun T45 X45 e45 => ?_)
  obtain ⟨cl46, Ar46, q46, S46, M46, H46, G46⟩ := id F40
  refine own_len X45 hx (pc' := 29) hZ e45 Ar46 S46 M46 (hb hby d7_28) rfl ?_
  refine own_icmpYes X45 hx (pc' := 49) (hb hby d7_29) (feq (by decide : ¬ ((0 : Int32) = (16 : Int32)))).2 (by decide) (by decide) ?_
  refine own_aloadN X45 hx (pc' := 50) (hb hby d7_49) rfl rfl rfl ?_
  refine own_getF X45 hx (pc' := 53) hZ hown (host := "") (Or.inl (Wd18 hw)) Via.refl e45 F34 (hb hby d7_50) rfl (fun T47 X47 e47 => ?_)
  refine own_aloadN X47 hx (pc' := 54) (hb hby d7_53) rfl rfl rfl ?_
  refine own_dup X47 hx (pc' := 55) (hb hby d7_54) rfl rfl ?_
  refine own_getF X47 hx (pc' := 58) hZ hown (host := "") (Or.inl (Wd28 hw)) Via.refl e47 F37 (hb hby d7_55) rfl (fun T48 X48 e48 => ?_)
  refine own_dupX1 X48 hx (pc' := 59) (hb hby d7_58) rfl rfl rfl ?_
  refine own_iconst X48 hx (pc' := 60) (1 : Int32) (hb hby d7_59) rfl rfl ?_
  refine own_iadd X48 hx (pc' := 61) (z := (1 : Int32)) (hb hby d7_60) (by decide) rfl ?_
  refine own_putF X48 hx (pc' := 64) hZ (ty := .int) hown (host := "") (Or.inl (Wd28 hw)) Via.refl e48 F37 F31 (Or.inl (Wd29 hw)) (Wd1 hw) (by decide) rfl rfl (hb hby d7_61) rfl (fun T49 h49 X49 e49 W49 => ?_)
  have N50 := Fr.snoc X49 N28 g_sl
  have Z51 : n0 ≤ h49.size := Nat.le_trans Z29 (Nat.le_of_eq (Wr.size W49).symm)
  have K52 : Keep h0 h49 [sl, hd, an, fr, ag] := K30.wr W49 (Or.inl (List.mem_of_getElem? (i := 0) rfl))
  have F53 := (Exa.wr W49 F31)
  have F54 := (Fld.other W49 F32 (Or.inr (slot_ne (Or.inl (Wd12 hw)) (Or.inl (Wd29 hw)) (by decide) (t := (.array (.object "com/example/pandarus/pandarus/Ranked"))) (t' := .int) (by decide) (by decide))))
  have F55 := (Fld.other W49 F33 (Or.inr (slot_ne (Or.inl (Wd16 hw)) (Or.inl (Wd29 hw)) (by decide) (t := (.array (.object "com/example/pandarus/pandarus/Subscription"))) (t' := .int) (by decide) (by decide))))
  have F56 := (Fld.other W49 F34 (Or.inr (slot_ne (Or.inl (Wd19 hw)) (Or.inl (Wd29 hw)) (by decide) (t := (.array .int)) (t' := .int) (by decide) (by decide))))
  have F57 := (Fld.other W49 F35 (Or.inr (slot_ne (Or.inl (Wd22 hw)) (Or.inl (Wd29 hw)) (by decide) (t := (.array .long)) (t' := .int) (by decide) (by decide))))
  have F58 := (Fld.other W49 F36 (Or.inr (slot_ne (Or.inl (Wd31 hw)) (Or.inl (Wd29 hw)) (by decide) (t := .int) (t' := .int) (by decide) (by decide))))
  have F59 := (Fld.same W49 F37)
  have F60 := (F38.other W49 (Ne.symm n1))
  have F61 := (F39.other W49 (Ne.symm n2))
  have F62 := (F40.other W49 (Ne.symm n3))
  have F63 := (F41.other W49 (Ne.symm n4))
  have F64 := (Exa.wr W49 F42)
  have F65 := (Fld.other W49 F43 (Or.inl hne.1))
  refine own_aloadN X49 hx (pc' := 65) (hb hby d7_64) rfl rfl rfl ?_
  refine own_callV X49 hx (pc' := 68) hZ hown (Wd61 hw) (Wd63 hw) (Wd64 hw) (Wd65 hw) (Wd33 hw) (by decide) (rm_slot l Z a0 hw [] rk z h49 n0 Z51 F65) e49 F64 2 (by decide) (by decide) (by decide) (by decide) [] [(.int (0 : Int32)), (.ref fr)] (by rw [hml]; rfl) (lenOf pd_2 rfl) rfl rfl (Nat.le_of_eq rfl) (hb hby d7_65) rfl (fun v66 T66 L66 X66 hQ66 => ?_)
  obtain ⟨rfl, Nq66, e66⟩ := hQ66
  have N67 := Fr.app N50 Nq66
  show own_G p.tables e below _ T66 (mkF m 68 #[.val (.ref sl), .val (.ref rk)] [(.int z), (.int (0 : Int32)), (.ref fr)])
  obtain ⟨cl68, Ar68, q68, S68, M68, H68, G68⟩ := id F62
  refine own_stI X66 hx (pc' := 69) hZ e66 Ar68 (inb_of S68 ⟨by decide, by decide⟩) (hb hby d7_68) rfl (fun T69 h69 X69 e69 W69 => ?_)
  have N70 := Fr.snoc X69 N67 g_fr
  have Z71 : n0 ≤ h69.size := Nat.le_trans Z51 (Nat.le_of_eq (Wr.size W69).symm)
  have K72 : Keep h0 h69 [sl, hd, an, fr, ag] := K52.wr W69 (Or.inl (List.mem_of_getElem? (i := 3) rfl))
  have F73 := (Exa.wr W69 F53)
  have F74 := (Fld.other W69 F54 (Or.inl n3))
  have F75 := (Fld.other W69 F55 (Or.inl n3))
  have F76 := (Fld.other W69 F56 (Or.inl n3))
  have F77 := (Fld.other W69 F57 (Or.inl n3))
  have F78 := (Fld.other W69 F58 (Or.inl n3))
  have F79 := (Fld.other W69 F59 (Or.inl n3))
  have F80 := (F60.other W69 n6)
  have F81 := (F61.other W69 n8)
  have F82 : Arv Z h69 fr kf .int (16 : Int32) [(.int z), (.int s1)] (.int (0 : Int32)) := (Arv.set Ar68 q68 S68 M68 H68 G68 rfl W69 0 rfl (Nat.le_of_ble_eq_true rfl))
  have F83 := (F63.other W69 (Ne.symm n10))
  have F84 := (Exa.wr W69 F64)
  have F85 := (Fld.other W69 F65 (Or.inl hne.2.2.2.1))
  refine own_retV X69 hx hlk hret (hb hby d7_69) (by decide) (by decide) ?_
  rw [e69]
  exact ⟨rfl, N70, K72, ⟨F73, F74, F75, F76, F77, F78, F79, ⟨_, by simp only [List.length_set]; exact lh, F80⟩, ⟨_, by simp only [List.length_set]; exact ln, F81⟩, F82, F83⟩⟩

def Qr1 (Z : State) (sl hd an fr ag : Addr) (kh ka kf kg : ClassId) (t : Int32) (g : Int64) (s0 s1 z : Int32) (h0 : Heap) (n0 : Nat) (v : Option Value) (h : Heap) (L : List Loc) : Prop := v = none ∧ Fr n0 L ∧ Keep h0 h [sl, hd, an, fr, ag] ∧ own_S Z h sl hd an fr ag kh ka kf kg t (2 : Int32) g s0 z
theorem ef_rm_r1 (m : MethodId) (x0 : Addr) (x1 : Addr) : entryFrame m #[(.ref x0), (.ref x1)] 2 = mkF m 0 #[.val (.ref x0), .val (.ref x1)] [] := by first | (simp [entryFrame, mkF, argsToLocals, Value.category, maxLocals]; done) | rfl
set_option maxRecDepth 65536 in
set_option maxHeartbeats 40000000 in
theorem rm_r1 (l : Launch) (Z : State) (a0 : Array Value) (hw : ∀ d ∈ tables_1, d.before a0 Z = true) (ws : List Jvm.Cond) (sl hd an fr ag : Addr) (kh ka kf kg : ClassId) (rk : Addr) (t : Int32) (g : Int64) (s0 s1 z : Int32) (h0 : Heap) (n0 : Nat) (Z0 : n0 ≤ h0.size) (ht : 0 ≤ z.toInt ∧ z.toInt ≤ 15) (hne : rk ≠ sl ∧ rk ≠ hd ∧ rk ≠ an ∧ rk ≠ fr ∧ rk ≠ ag) (DD : own_D Z n0 sl hd an fr ag kh) (E_k : Exa Z h0 rk "com/example/pandarus/pandarus/Ranked") (F_k : Fld Z h0 rk "com/example/pandarus/pandarus/Ranked" "slot" "I" (.int z)) (SS : own_S Z h0 sl hd an fr ag kh ka kf kg t (1 : Int32) g s0 s1) :
    MetFree l (⟨"com/example/pandarus/pandarus/Slots", "release", "(Lcom/example/pandarus/pandarus/Ranked;)V"⟩ : MethodName) (head1 (Jvm.Cond.code (⟨"com/example/pandarus/pandarus/Slots", "release", "(Lcom/example/pandarus/pandarus/Ranked;)V"⟩ : MethodName) prog_65_method_3_code 2 none :: ws) ({ frames := 1, cells := 0, slots := 0, locals := 16 } : Room)) (fun aa U => aa = #[(.ref sl), (.ref rk)] ∧ Z.Warmed39 U.vm ∧ U.heap = h0) (fun _ _ _ _ _ => True) (fun _ U o U' => ∃ v L, o = .returned v ∧ Qr1 Z sl hd an fr ag kh ka kf kg t g s0 s1 z h0 n0 v U'.heap L ∧ FrameEnd U o U' L (({ frames := 1, cells := 0, slots := 0, locals := 16 } : Room).cells) (({ frames := 1, cells := 0, slots := 0, locals := 16 } : Room).slots)) := by
  refine own_body pf_5 ?_
  intro p e s m below meth c s₁ hx hby hml hown hnm hlk hret hZ X0 e0
  have N0 : Fr n0 [] := Fr.nil n0
  refine own_go (f' := (mkF m 0 #[.val (.ref sl), .val (.ref rk)] [])) (fun t k => castTop (ef_rm_r1 m sl rk) k) ?_
  obtain ⟨⟨g_sl, g_hd, g_an, g_fr, g_ag⟩, ⟨n1, n2, n3, n4⟩, ⟨n5, n6, n7, n8, n9, n10⟩, OV⟩ := DD
  obtain ⟨E_s, F_h, F_n, F_f, F_a, F_t, F_r, ⟨vh, lh, V_h⟩, ⟨vn, ln, V_n⟩, V_f, V_g⟩ := SS
  have htn : ¬ z < 0 ∧ z < (16 : Int32) := ⟨by rw [Int32.lt_iff_toInt_lt]; show ¬ (z : Int32).toInt < 0; omega, by rw [Int32.lt_iff_toInt_lt, own_t32_16]; omega⟩
  have ht16 : (z : Int32).toNatClampNeg < 16 := by have q := nat_of htn.1; omega
  have hdiv : z / (64 : Int32) = (0 : Int32) := by have q := (c_idiv z (64 : Int32) 64 (by decide) (by decide)).1 ht.1; rw [← Int32.toInt_inj, own_t32_0]; omega
  have K1 : Keep h0 h0 [sl, hd, an, fr, ag] := Keep.refl _ _
  refine own_aloadN X0 hx (pc' := 1) (hb hby d7_0) rfl rfl rfl ?_
  refine own_getF X0 hx (pc' := 4) hZ hown (host := "") (Or.inl (Wd11 hw)) Via.refl e0 F_h (hb hby d7_1) rfl (fun T2 X2 e2 => ?_)
  refine own_aloadN X2 hx (pc' := 5) (hb hby d7_4) rfl rfl rfl ?_
  refine own_callV X2 hx (pc' := 8) hZ hown (Wd61 hw) (Wd63 hw) (Wd64 hw) (Wd65 hw) (Wd33 hw) (by decide) (rm_slot l Z a0 hw [] rk z h0 n0 Z0 F_k) e2 E_k 1 (by decide) (by decide) (by decide) (by decide) [] [(.ref hd)] (by rw [hml]; rfl) (lenOf pd_2 rfl) rfl rfl (Nat.le_of_eq rfl) (hb hby d7_5) rfl (fun v3 T3 L3 X3 hQ3 => ?_)
  obtain ⟨rfl, Nq3, e3⟩ := hQ3
  have N4 := Fr.app N0 Nq3
  show own_G p.tables e below _ T3 (mkF m 8 #[.val (.ref sl), .val (.ref rk)] [(.int z), (.ref hd)])
  refine own_aconstNull X3 hx (pc' := 9) (hb hby d7_8) rfl ?_
  obtain ⟨cl5, Ar5, q5, S5, M5, H5, G5⟩ := id V_h
  refine own_stR X3 hx (pc' := 10) hZ e3 Ar5 (inb_of S5 htn) rfl (Or.inl rfl) (hb hby d7_9) rfl (fun T6 h6 X6 e6 W6 => ?_)
  have N7 := Fr.snoc X6 N4 g_hd
  have Z8 : n0 ≤ h6.size := Nat.le_trans Z0 (Nat.le_of_eq (Wr.size W6).symm)
  have K9 : Keep h0 h6 [sl, hd, an, fr, ag] := K1.wr W6 (Or.inl (List.mem_of_getElem? (i := 1) rfl))
  have F10 := (Exa.wr W6 E_s)
  have F11 := (Fld.other W6 F_h (Or.inl n1))
  have F12 := (Fld.other W6 F_n (Or.inl n1))
  have F13 := (Fld.other W6 F_f (Or.inl n1))
  have F14 := (Fld.other W6 F_a (Or.inl n1))
  have F15 := (Fld.other W6 F_t (Or.inl n1))
  have F16 := (Fld.other W6 F_r (Or.inl n1))
  have F17 : Arv Z h6 hd kh (.object "com/example/pandarus/pandarus/Ranked") (16 : Int32) (vh.set (z : Int32).toNatClampNeg .null) .null := (Arv.set Ar5 q5 S5 M5 H5 G5 rfl W6 (z : Int32).toNatClampNeg rfl (by simp only [List.length_set, lh]; exact ht16))
  have F18 := (V_n.other W6 (Ne.symm n5))
  have F19 := (V_f.other W6 (Ne.symm n6))
  have F20 := (V_g.other W6 (Ne.symm n7))
  have F21 := (Exa.wr W6 E_k)
  have F22 := (Fld.other W6 F_k (Or.inl hne.2.1))
  refine own_aloadN X6 hx (pc' := 11) (hb hby d7_10) rfl rfl rfl ?_
  refine own_getF X6 hx (pc' := 14) hZ hown (host := "") (Or.inl (Wd15 hw)) Via.refl e6 F12 (hb hby d7_11) rfl (fun T23 X23 e23 => ?_)
  refine own_aloadN X23 hx (pc' := 15) (hb hby d7_14) rfl rfl rfl ?_
  refine own_callV X23 hx (pc' := 18) hZ hown (Wd61 hw) (Wd63 hw) (Wd64 hw) (Wd65 hw) (Wd33 hw) (by decide) (rm_slot l Z a0 hw [] rk z h6 n0 Z8 F22) e23 F21 1 (by decide) (by decide) (by decide) (by decide) [] [(.ref an)] (by rw [hml]; rfl) (lenOf pd_2 rfl) rfl rfl (Nat.le_of_eq rfl) (hb hby d7_15) rfl (fun v24 T24 L24 X24 hQ24 => ?_)
  obtain ⟨rfl, Nq24, e24⟩ := hQ24
  have N25 := Fr.app N7 Nq24
  show own_G p.tables e below _ T24 (mkF m 18 #[.val (.ref sl), .val (.ref rk)] [(.int z), (.ref an)])
  refine own_aconstNull X24 hx (pc' := 19) (hb hby d7_18) rfl ?_
  obtain ⟨cl26, Ar26, q26, S26, M26, H26, G26⟩ := id F18
  refine own_stR X24 hx (pc' := 20) hZ e24 Ar26 (inb_of S26 htn) rfl (Or.inl rfl) (hb hby d7_19) rfl (fun T27 h27 X27 e27 W27 => ?_)
  have N28 := Fr.snoc X27 N25 g_an
  have Z29 : n0 ≤ h27.size := Nat.le_trans Z8 (Nat.le_of_eq (Wr.size W27).symm)
  have K30 : Keep h0 h27 [sl, hd, an, fr, ag] := K9.wr W27 (Or.inl (List.mem_of_getElem? (i := 2) rfl))
  have F31 := (Exa.wr W27 F10)
  have F32 := (Fld.other W27 F11 (Or.inl n2))
  have F33 := (Fld.other W27 F12 (Or.inl n2))
  have F34 := (Fld.other W27 F13 (Or.inl n2))
  have F35 := (Fld.other W27 F14 (Or.inl n2))
  have F36 := (Fld.other W27 F15 (Or.inl n2))
  have F37 := (Fld.other W27 F16 (Or.inl n2))
  have F38 := (F17.other W27 n5)
  have F39 : Arv Z h27 an ka (.object "com/example/pandarus/pandarus/Subscription") (16 : Int32) (vn.set (z : Int32).toNatClampNeg .null) .null := (Arv.set Ar26 q26 S26 M26 H26 G26 rfl W27 (z : Int32).toNatClampNeg rfl (by simp only [List.length_set, ln]; exact ht16))
  have F40 := (F19.other W27 (Ne.symm n8))
  have F41 := (F20.other W27 (Ne.symm n9))
  have F42 := (Exa.wr W27 F21)
  have F43 := (Fld.other W27 F22 (Or.inl hne.2.2.1))
  refine own_aloadN X27 hx (pc' := 21) (hb hby d7_20) rfl rfl rfl ?_
  refine own_getF X27 hx (pc' := 24) hZ hown (host := "") (Or.inl (Wd28 hw)) Via.refl e27 F37 (hb hby d7_21) rfl (fun T44 X44 e44 => ?_)
  refine own_aloadN X44 hx (pc' := 25) (hb hby d7_24) rfl rfl rfl ?_
  refine own_getF X44 hx (pc' := 28) hZ hown (host := "") (Or.inl (Wd18 hw)) Via.refl e44 F34 (hb hby d7_25) rfl (fun T45 X45 e45 => ?_)
  obtain ⟨cl46, Ar46, q46, S46, M46, H46, G46⟩ := id F40
  refine own_len X45 hx (pc' := 29) hZ e45 Ar46 S46 M46 (hb hby d7_28) rfl ?_
  refine own_icmpYes X45 hx (pc' := 49) (hb hby d7_29) (feq (by decide : ¬ ((1 : Int32) = (16 : Int32)))).2 (by decide) (by decide) ?_
  refine own_aloadN X45 hx (pc' := 50) (hb hby d7_49) rfl rfl rfl ?_
  refine own_getF X45 hx (pc' := 53) hZ hown (host := "") (Or.inl (Wd18 hw)) Via.refl e45 F34 (hb hby d7_50) rfl (fun T47 X47 e47 => ?_)
  refine own_aloadN X47 hx (pc' := 54) (hb hby d7_53) rfl rfl rfl ?_
  refine own_dup X47 hx (pc' := 55) (hb hby d7_54) rfl rfl ?_
  refine own_getF X47 hx (pc' := 58) hZ hown (host := "") (Or.inl (Wd28 hw)) Via.refl e47 F37 (hb hby d7_55) rfl (fun T48 X48 e48 => ?_)
  refine own_dupX1 X48 hx (pc' := 59) (hb hby d7_58) rfl rfl rfl ?_
  refine own_iconst X48 hx (pc' := 60) (1 : Int32) (hb hby d7_59) rfl rfl ?_
  refine own_iadd X48 hx (pc' := 61) (z := (2 : Int32)) (hb hby d7_60) (by decide) rfl ?_
  refine own_putF X48 hx (pc' := 64) hZ (ty := .int) hown (host := "") (Or.inl (Wd28 hw)) Via.refl e48 F37 F31 (Or.inl (Wd29 hw)) (Wd1 hw) (by decide) rfl rfl (hb hby d7_61) rfl (fun T49 h49 X49 e49 W49 => ?_)
  have N50 := Fr.snoc X49 N28 g_sl
  have Z51 : n0 ≤ h49.size := Nat.le_trans Z29 (Nat.le_of_eq (Wr.size W49).symm)
  have K52 : Keep h0 h49 [sl, hd, an, fr, ag] := K30.wr W49 (Or.inl (List.mem_of_getElem? (i := 0) rfl))
  have F53 := (Exa.wr W49 F31)
  have F54 := (Fld.other W49 F32 (Or.inr (slot_ne (Or.inl (Wd12 hw)) (Or.inl (Wd29 hw)) (by decide) (t := (.array (.object "com/example/pandarus/pandarus/Ranked"))) (t' := .int) (by decide) (by decide))))
  have F55 := (Fld.other W49 F33 (Or.inr (slot_ne (Or.inl (Wd16 hw)) (Or.inl (Wd29 hw)) (by decide) (t := (.array (.object "com/example/pandarus/pandarus/Subscription"))) (t' := .int) (by decide) (by decide))))
  have F56 := (Fld.other W49 F34 (Or.inr (slot_ne (Or.inl (Wd19 hw)) (Or.inl (Wd29 hw)) (by decide) (t := (.array .int)) (t' := .int) (by decide) (by decide))))
  have F57 := (Fld.other W49 F35 (Or.inr (slot_ne (Or.inl (Wd22 hw)) (Or.inl (Wd29 hw)) (by decide) (t := (.array .long)) (t' := .int) (by decide) (by decide))))
  have F58 := (Fld.other W49 F36 (Or.inr (slot_ne (Or.inl (Wd31 hw)) (Or.inl (Wd29 hw)) (by decide) (t := .int) (t' := .int) (by decide) (by decide))))
  have F59 := (Fld.same W49 F37)
  have F60 := (F38.other W49 (Ne.symm n1))
  have F61 := (F39.other W49 (Ne.symm n2))
  have F62 := (F40.other W49 (Ne.symm n3))
  have F63 := (F41.other W49 (Ne.symm n4))
  have F64 := (Exa.wr W49 F42)
  have F65 := (Fld.other W49 F43 (Or.inl hne.1))
  refine own_aloadN X49 hx (pc' := 65) (hb hby d7_64) rfl rfl rfl ?_
  refine own_callV X49 hx (pc' := 68) hZ hown (Wd61 hw) (Wd63 hw) (Wd64 hw) (Wd65 hw) (Wd33 hw) (by decide) (rm_slot l Z a0 hw [] rk z h49 n0 Z51 F65) e49 F64 2 (by decide) (by decide) (by decide) (by decide) [] [(.int (1 : Int32)), (.ref fr)] (by rw [hml]; rfl) (lenOf pd_2 rfl) rfl rfl (Nat.le_of_eq rfl) (hb hby d7_65) rfl (fun v66 T66 L66 X66 hQ66 => ?_)
  obtain ⟨rfl, Nq66, e66⟩ := hQ66
  have N67 := Fr.app N50 Nq66
  show own_G p.tables e below _ T66 (mkF m 68 #[.val (.ref sl), .val (.ref rk)] [(.int z), (.int (1 : Int32)), (.ref fr)])
  obtain ⟨cl68, Ar68, q68, S68, M68, H68, G68⟩ := id F62
  refine own_stI X66 hx (pc' := 69) hZ e66 Ar68 (inb_of S68 ⟨by decide, by decide⟩) (hb hby d7_68) rfl (fun T69 h69 X69 e69 W69 => ?_)
  have N70 := Fr.snoc X69 N67 g_fr
  have Z71 : n0 ≤ h69.size := Nat.le_trans Z51 (Nat.le_of_eq (Wr.size W69).symm)
  have K72 : Keep h0 h69 [sl, hd, an, fr, ag] := K52.wr W69 (Or.inl (List.mem_of_getElem? (i := 3) rfl))
  have F73 := (Exa.wr W69 F53)
  have F74 := (Fld.other W69 F54 (Or.inl n3))
  have F75 := (Fld.other W69 F55 (Or.inl n3))
  have F76 := (Fld.other W69 F56 (Or.inl n3))
  have F77 := (Fld.other W69 F57 (Or.inl n3))
  have F78 := (Fld.other W69 F58 (Or.inl n3))
  have F79 := (Fld.other W69 F59 (Or.inl n3))
  have F80 := (F60.other W69 n6)
  have F81 := (F61.other W69 n8)
  have F82 : Arv Z h69 fr kf .int (16 : Int32) [(.int s0), (.int z)] (.int (0 : Int32)) := (Arv.set Ar68 q68 S68 M68 H68 G68 rfl W69 1 rfl (Nat.le_of_ble_eq_true rfl))
  have F83 := (F63.other W69 (Ne.symm n10))
  have F84 := (Exa.wr W69 F64)
  have F85 := (Fld.other W69 F65 (Or.inl hne.2.2.2.1))
  refine own_retV X69 hx hlk hret (hb hby d7_69) (by decide) (by decide) ?_
  rw [e69]
  exact ⟨rfl, N70, K72, ⟨F73, F74, F75, F76, F77, F78, F79, ⟨_, by simp only [List.length_set]; exact lh, F80⟩, ⟨_, by simp only [List.length_set]; exact ln, F81⟩, F82, F83⟩⟩

theorem d11_0 : decode prog_65_method_4_code 0 = .ok (.aload_n 0, 1) := by decide +kernel
theorem d11_1 : decode prog_65_method_4_code 1 = .ok (.getfield 25, 3) := by decide +kernel
theorem d11_4 : decode prog_65_method_4_code 4 = .ok (.iload_n 1, 1) := by decide +kernel
theorem d11_5 : decode prog_65_method_4_code 5 = .ok (.bipush 64, 2) := by decide +kernel
theorem d11_7 : decode prog_65_method_4_code 7 = .ok (.idiv, 1) := by decide +kernel
theorem d11_8 : decode prog_65_method_4_code 8 = .ok (.laload, 1) := by decide +kernel
theorem d11_9 : decode prog_65_method_4_code 9 = .ok (.lconst 1, 1) := by decide +kernel
theorem d11_10 : decode prog_65_method_4_code 10 = .ok (.iload_n 1, 1) := by decide +kernel
theorem d11_11 : decode prog_65_method_4_code 11 = .ok (.lshl, 1) := by decide +kernel
theorem d11_12 : decode prog_65_method_4_code 12 = .ok (.land, 1) := by decide +kernel
theorem d11_13 : decode prog_65_method_4_code 13 = .ok (.lconst 0, 1) := by decide +kernel
theorem d11_14 : decode prog_65_method_4_code 14 = .ok (.lcmp, 1) := by decide +kernel
theorem d11_15 : decode prog_65_method_4_code 15 = .ok (.ifCond .ne 7, 3) := by decide +kernel
theorem d11_18 : decode prog_65_method_4_code 18 = .ok (.iconst 1, 1) := by decide +kernel
theorem d11_19 : decode prog_65_method_4_code 19 = .ok (.goto 4, 3) := by decide +kernel
theorem d11_22 : decode prog_65_method_4_code 22 = .ok (.iconst 0, 1) := by decide +kernel
theorem d11_23 : decode prog_65_method_4_code 23 = .ok (.ireturn, 1) := by decide +kernel
def own_bit (g : Int64) (i : Int32) : Int32 := if g &&& ((1 : Int64) <<< (i &&& 0x3f).toInt64) = 0 then 1 else 0
def Qio (g : Int64) (i : Int32) (h0 : Heap) (n0 : Nat) (v : Option Value) (h : Heap) (L : List Loc) : Prop := v = some (.int (own_bit g i)) ∧ Fr n0 L ∧ h = h0
theorem ef_rm_io0 (m : MethodId) (x0 : Addr) (x1 : Int32) : entryFrame m #[(.ref x0), (.int x1)] 2 = mkF m 0 #[.val (.ref x0), .val (.int x1)] [] := by first | (simp [entryFrame, mkF, argsToLocals, Value.category, maxLocals]; done) | rfl
theorem pf_6 : plainFor (⟨"com/example/pandarus/pandarus/Slots", "inOrder", "(I)Z"⟩ : MethodName) = true := by apply plainFor_of_name; first | (simp [plainName, overriddenIn]; done) | decide +kernel
set_option maxRecDepth 65536 in
set_option maxHeartbeats 40000000 in
theorem rm_io0 (l : Launch) (Z : State) (a0 : Array Value) (hw : ∀ d ∈ tables_1, d.before a0 Z = true) (ws : List Jvm.Cond) (sl hd an fr ag : Addr) (kh ka kf kg : ClassId) (t f : Int32) (g : Int64) (s0 s1 : Int32) (h0 : Heap) (n0 : Nat) (Z0 : n0 ≤ h0.size) (SS : own_S Z h0 sl hd an fr ag kh ka kf kg t f g s0 s1) :
    MetFree l (⟨"com/example/pandarus/pandarus/Slots", "inOrder", "(I)Z"⟩ : MethodName) (head1 (Jvm.Cond.code (⟨"com/example/pandarus/pandarus/Slots", "inOrder", "(I)Z"⟩ : MethodName) prog_65_method_4_code 2 (some .boolean) :: ws) ({ frames := 0, cells := 0, slots := 0, locals := 0 } : Room)) (fun aa U => aa = #[(.ref sl), (.int (0 : Int32))] ∧ Z.Warmed39 U.vm ∧ U.heap = h0) (fun _ _ _ _ _ => True) (fun _ U o U' => ∃ v L, o = .returned v ∧ Qio g (0 : Int32) h0 n0 v U'.heap L ∧ FrameEnd U o U' L (({ frames := 0, cells := 0, slots := 0, locals := 0 } : Room).cells) (({ frames := 0, cells := 0, slots := 0, locals := 0 } : Room).slots)) := by
  refine own_body pf_6 ?_
  intro p e s m below meth c s₁ hx hby hml hown hnm hlk hret hZ X0 e0
  have N0 : Fr n0 [] := Fr.nil n0
  refine own_go (f' := (mkF m 0 #[.val (.ref sl), .val (.int (0 : Int32))] [])) (fun t k => castTop (ef_rm_io0 m sl (0 : Int32)) k) ?_
  obtain ⟨E_s, F_h, F_n, F_f, F_a, F_t, F_r, ⟨vh, lh, V_h⟩, ⟨vn, ln, V_n⟩, V_f, V_g⟩ := SS
  refine own_aloadN X0 hx (pc' := 1) (hb hby d11_0) rfl rfl rfl ?_
  refine own_getF X0 hx (pc' := 4) hZ hown (host := "") (Or.inl (Wd21 hw)) Via.refl e0 F_a (hb hby d11_1) rfl (fun T1 X1 e1 => ?_)
  refine own_iloadN X1 hx (pc' := 5) (hb hby d11_4) rfl rfl ?_
  refine own_bipush X1 hx (pc' := 7) (64 : Int32) (hb hby d11_5) rfl rfl ?_
  refine own_idiv X1 hx (pc' := 8) (z := (0 : Int32)) (hb hby d11_7) (by decide) (by decide) rfl ?_
  obtain ⟨cl2, Ar2, q2, S2, M2, H2, G2⟩ := id V_g
  refine own_laload X1 hx (pc' := 9) hZ (v := g) e1 Ar2 (inb_of S2 ⟨by decide, by decide⟩) (Has.at H2 (inb_of S2 ⟨by decide, by decide⟩) rfl) (hb hby d11_8) rfl ?_
  refine own_lconst X1 hx (pc' := 10) (1 : Int64) (hb hby d11_9) rfl rfl ?_
  refine own_iloadN X1 hx (pc' := 11) (hb hby d11_10) rfl rfl ?_
  refine own_lshl X1 hx (pc' := 12) (hb hby d11_11) rfl ?_
  refine own_land X1 hx (pc' := 13) (hb hby d11_12) rfl rfl ?_
  refine own_lconst X1 hx (pc' := 14) (0 : Int64) (hb hby d11_13) rfl rfl ?_
  refine own_lcmp X1 hx (pc' := 15) (hb hby d11_14) rfl ?_
  by_cases hc15_3 : (g &&& ((1 : Int64) <<< ((0 : Int32) &&& 0x3f).toInt64)) = (0 : Int64)
  · skip
    refine own_ifNo X1 hx (pc' := 18) (hb hby d11_15) (teq ((lw_eq (g &&& ((1 : Int64) <<< ((0 : Int32) &&& 0x3f).toInt64)) (0 : Int64)).mpr hc15_3)).2 rfl ?_
    refine own_iconst X1 hx (pc' := 19) (1 : Int32) (hb hby d11_18) rfl rfl ?_
    refine own_goto X1 hx (pc' := 23) (hb hby d11_19) (by decide) (by decide) ?_
    refine own_retN X1 hx hlk hret (by simp) (hb hby d11_23) (by decide) (by decide) ?_
    refine ⟨?_, N0, e1⟩
    unfold own_bit
    rw [if_pos hc15_3]
    rfl
  · skip
    refine own_ifYes X1 hx (pc' := 22) (hb hby d11_15) (feq (fun q => hc15_3 ((lw_eq (g &&& ((1 : Int64) <<< ((0 : Int32) &&& 0x3f).toInt64)) (0 : Int64)).mp q))).2 (by decide) (by decide) ?_
    refine own_iconst X1 hx (pc' := 23) (0 : Int32) (hb hby d11_22) rfl rfl ?_
    refine own_retN X1 hx hlk hret (by simp) (hb hby d11_23) (by decide) (by decide) ?_
    refine ⟨?_, N0, e1⟩
    unfold own_bit
    rw [if_neg hc15_3]
    rfl

theorem ef_rm_io1 (m : MethodId) (x0 : Addr) (x1 : Int32) : entryFrame m #[(.ref x0), (.int x1)] 2 = mkF m 0 #[.val (.ref x0), .val (.int x1)] [] := by first | (simp [entryFrame, mkF, argsToLocals, Value.category, maxLocals]; done) | rfl
set_option maxRecDepth 65536 in
set_option maxHeartbeats 40000000 in
theorem rm_io1 (l : Launch) (Z : State) (a0 : Array Value) (hw : ∀ d ∈ tables_1, d.before a0 Z = true) (ws : List Jvm.Cond) (sl hd an fr ag : Addr) (kh ka kf kg : ClassId) (t f : Int32) (g : Int64) (s0 s1 : Int32) (h0 : Heap) (n0 : Nat) (Z0 : n0 ≤ h0.size) (SS : own_S Z h0 sl hd an fr ag kh ka kf kg t f g s0 s1) :
    MetFree l (⟨"com/example/pandarus/pandarus/Slots", "inOrder", "(I)Z"⟩ : MethodName) (head1 (Jvm.Cond.code (⟨"com/example/pandarus/pandarus/Slots", "inOrder", "(I)Z"⟩ : MethodName) prog_65_method_4_code 2 (some .boolean) :: ws) ({ frames := 0, cells := 0, slots := 0, locals := 0 } : Room)) (fun aa U => aa = #[(.ref sl), (.int (1 : Int32))] ∧ Z.Warmed39 U.vm ∧ U.heap = h0) (fun _ _ _ _ _ => True) (fun _ U o U' => ∃ v L, o = .returned v ∧ Qio g (1 : Int32) h0 n0 v U'.heap L ∧ FrameEnd U o U' L (({ frames := 0, cells := 0, slots := 0, locals := 0 } : Room).cells) (({ frames := 0, cells := 0, slots := 0, locals := 0 } : Room).slots)) := by
  refine own_body pf_6 ?_
  intro p e s m below meth c s₁ hx hby hml hown hnm hlk hret hZ X0 e0
  have N0 : Fr n0 [] := Fr.nil n0
  refine own_go (f' := (mkF m 0 #[.val (.ref sl), .val (.int (1 : Int32))] [])) (fun t k => castTop (ef_rm_io1 m sl (1 : Int32)) k) ?_
  obtain ⟨E_s, F_h, F_n, F_f, F_a, F_t, F_r, ⟨vh, lh, V_h⟩, ⟨vn, ln, V_n⟩, V_f, V_g⟩ := SS
  refine own_aloadN X0 hx (pc' := 1) (hb hby d11_0) rfl rfl rfl ?_
  refine own_getF X0 hx (pc' := 4) hZ hown (host := "") (Or.inl (Wd21 hw)) Via.refl e0 F_a (hb hby d11_1) rfl (fun T1 X1 e1 => ?_)
  refine own_iloadN X1 hx (pc' := 5) (hb hby d11_4) rfl rfl ?_
  refine own_bipush X1 hx (pc' := 7) (64 : Int32) (hb hby d11_5) rfl rfl ?_
  refine own_idiv X1 hx (pc' := 8) (z := (0 : Int32)) (hb hby d11_7) (by decide) (by decide) rfl ?_
  obtain ⟨cl2, Ar2, q2, S2, M2, H2, G2⟩ := id V_g
  refine own_laload X1 hx (pc' := 9) hZ (v := g) e1 Ar2 (inb_of S2 ⟨by decide, by decide⟩) (Has.at H2 (inb_of S2 ⟨by decide, by decide⟩) rfl) (hb hby d11_8) rfl ?_
  refine own_lconst X1 hx (pc' := 10) (1 : Int64) (hb hby d11_9) rfl rfl ?_
  refine own_iloadN X1 hx (pc' := 11) (hb hby d11_10) rfl rfl ?_
  refine own_lshl X1 hx (pc' := 12) (hb hby d11_11) rfl ?_
  refine own_land X1 hx (pc' := 13) (hb hby d11_12) rfl rfl ?_
  refine own_lconst X1 hx (pc' := 14) (0 : Int64) (hb hby d11_13) rfl rfl ?_
  refine own_lcmp X1 hx (pc' := 15) (hb hby d11_14) rfl ?_
  by_cases hc15_3 : (g &&& ((1 : Int64) <<< ((1 : Int32) &&& 0x3f).toInt64)) = (0 : Int64)
  · skip
    refine own_ifNo X1 hx (pc' := 18) (hb hby d11_15) (teq ((lw_eq (g &&& ((1 : Int64) <<< ((1 : Int32) &&& 0x3f).toInt64)) (0 : Int64)).mpr hc15_3)).2 rfl ?_
    refine own_iconst X1 hx (pc' := 19) (1 : Int32) (hb hby d11_18) rfl rfl ?_
    refine own_goto X1 hx (pc' := 23) (hb hby d11_19) (by decide) (by decide) ?_
    refine own_retN X1 hx hlk hret (by simp) (hb hby d11_23) (by decide) (by decide) ?_
    refine ⟨?_, N0, e1⟩
    unfold own_bit
    rw [if_pos hc15_3]
    rfl
  · skip
    refine own_ifYes X1 hx (pc' := 22) (hb hby d11_15) (feq (fun q => hc15_3 ((lw_eq (g &&& ((1 : Int64) <<< ((1 : Int32) &&& 0x3f).toInt64)) (0 : Int64)).mp q))).2 (by decide) (by decide) ?_
    refine own_iconst X1 hx (pc' := 23) (0 : Int32) (hb hby d11_22) rfl rfl ?_
    refine own_retN X1 hx hlk hret (by simp) (hb hby d11_23) (by decide) (by decide) ?_
    refine ⟨?_, N0, e1⟩
    unfold own_bit
    rw [if_neg hc15_3]
    rfl

theorem ef_rm_io2 (m : MethodId) (x0 : Addr) (x1 : Int32) : entryFrame m #[(.ref x0), (.int x1)] 2 = mkF m 0 #[.val (.ref x0), .val (.int x1)] [] := by first | (simp [entryFrame, mkF, argsToLocals, Value.category, maxLocals]; done) | rfl
set_option maxRecDepth 65536 in
set_option maxHeartbeats 40000000 in
theorem rm_io2 (l : Launch) (Z : State) (a0 : Array Value) (hw : ∀ d ∈ tables_1, d.before a0 Z = true) (ws : List Jvm.Cond) (sl hd an fr ag : Addr) (kh ka kf kg : ClassId) (t f : Int32) (g : Int64) (s0 s1 : Int32) (h0 : Heap) (n0 : Nat) (Z0 : n0 ≤ h0.size) (SS : own_S Z h0 sl hd an fr ag kh ka kf kg t f g s0 s1) :
    MetFree l (⟨"com/example/pandarus/pandarus/Slots", "inOrder", "(I)Z"⟩ : MethodName) (head1 (Jvm.Cond.code (⟨"com/example/pandarus/pandarus/Slots", "inOrder", "(I)Z"⟩ : MethodName) prog_65_method_4_code 2 (some .boolean) :: ws) ({ frames := 0, cells := 0, slots := 0, locals := 0 } : Room)) (fun aa U => aa = #[(.ref sl), (.int (2 : Int32))] ∧ Z.Warmed39 U.vm ∧ U.heap = h0) (fun _ _ _ _ _ => True) (fun _ U o U' => ∃ v L, o = .returned v ∧ Qio g (2 : Int32) h0 n0 v U'.heap L ∧ FrameEnd U o U' L (({ frames := 0, cells := 0, slots := 0, locals := 0 } : Room).cells) (({ frames := 0, cells := 0, slots := 0, locals := 0 } : Room).slots)) := by
  refine own_body pf_6 ?_
  intro p e s m below meth c s₁ hx hby hml hown hnm hlk hret hZ X0 e0
  have N0 : Fr n0 [] := Fr.nil n0
  refine own_go (f' := (mkF m 0 #[.val (.ref sl), .val (.int (2 : Int32))] [])) (fun t k => castTop (ef_rm_io2 m sl (2 : Int32)) k) ?_
  obtain ⟨E_s, F_h, F_n, F_f, F_a, F_t, F_r, ⟨vh, lh, V_h⟩, ⟨vn, ln, V_n⟩, V_f, V_g⟩ := SS
  refine own_aloadN X0 hx (pc' := 1) (hb hby d11_0) rfl rfl rfl ?_
  refine own_getF X0 hx (pc' := 4) hZ hown (host := "") (Or.inl (Wd21 hw)) Via.refl e0 F_a (hb hby d11_1) rfl (fun T1 X1 e1 => ?_)
  refine own_iloadN X1 hx (pc' := 5) (hb hby d11_4) rfl rfl ?_
  refine own_bipush X1 hx (pc' := 7) (64 : Int32) (hb hby d11_5) rfl rfl ?_
  refine own_idiv X1 hx (pc' := 8) (z := (0 : Int32)) (hb hby d11_7) (by decide) (by decide) rfl ?_
  obtain ⟨cl2, Ar2, q2, S2, M2, H2, G2⟩ := id V_g
  refine own_laload X1 hx (pc' := 9) hZ (v := g) e1 Ar2 (inb_of S2 ⟨by decide, by decide⟩) (Has.at H2 (inb_of S2 ⟨by decide, by decide⟩) rfl) (hb hby d11_8) rfl ?_
  refine own_lconst X1 hx (pc' := 10) (1 : Int64) (hb hby d11_9) rfl rfl ?_
  refine own_iloadN X1 hx (pc' := 11) (hb hby d11_10) rfl rfl ?_
  refine own_lshl X1 hx (pc' := 12) (hb hby d11_11) rfl ?_
  refine own_land X1 hx (pc' := 13) (hb hby d11_12) rfl rfl ?_
  refine own_lconst X1 hx (pc' := 14) (0 : Int64) (hb hby d11_13) rfl rfl ?_
  refine own_lcmp X1 hx (pc' := 15) (hb hby d11_14) rfl ?_
  by_cases hc15_3 : (g &&& ((1 : Int64) <<< ((2 : Int32) &&& 0x3f).toInt64)) = (0 : Int64)
  · skip
    refine own_ifNo X1 hx (pc' := 18) (hb hby d11_15) (teq ((lw_eq (g &&& ((1 : Int64) <<< ((2 : Int32) &&& 0x3f).toInt64)) (0 : Int64)).mpr hc15_3)).2 rfl ?_
    refine own_iconst X1 hx (pc' := 19) (1 : Int32) (hb hby d11_18) rfl rfl ?_
    refine own_goto X1 hx (pc' := 23) (hb hby d11_19) (by decide) (by decide) ?_
    refine own_retN X1 hx hlk hret (by simp) (hb hby d11_23) (by decide) (by decide) ?_
    refine ⟨?_, N0, e1⟩
    unfold own_bit
    rw [if_pos hc15_3]
    rfl
  · skip
    refine own_ifYes X1 hx (pc' := 22) (hb hby d11_15) (feq (fun q => hc15_3 ((lw_eq (g &&& ((1 : Int64) <<< ((2 : Int32) &&& 0x3f).toInt64)) (0 : Int64)).mp q))).2 (by decide) (by decide) ?_
    refine own_iconst X1 hx (pc' := 23) (0 : Int32) (hb hby d11_22) rfl rfl ?_
    refine own_retN X1 hx hlk hret (by simp) (hb hby d11_23) (by decide) (by decide) ?_
    refine ⟨?_, N0, e1⟩
    unfold own_bit
    rw [if_neg hc15_3]
    rfl

theorem ef_rm_io3 (m : MethodId) (x0 : Addr) (x1 : Int32) : entryFrame m #[(.ref x0), (.int x1)] 2 = mkF m 0 #[.val (.ref x0), .val (.int x1)] [] := by first | (simp [entryFrame, mkF, argsToLocals, Value.category, maxLocals]; done) | rfl
set_option maxRecDepth 65536 in
set_option maxHeartbeats 40000000 in
theorem rm_io3 (l : Launch) (Z : State) (a0 : Array Value) (hw : ∀ d ∈ tables_1, d.before a0 Z = true) (ws : List Jvm.Cond) (sl hd an fr ag : Addr) (kh ka kf kg : ClassId) (t f : Int32) (g : Int64) (s0 s1 : Int32) (h0 : Heap) (n0 : Nat) (Z0 : n0 ≤ h0.size) (SS : own_S Z h0 sl hd an fr ag kh ka kf kg t f g s0 s1) :
    MetFree l (⟨"com/example/pandarus/pandarus/Slots", "inOrder", "(I)Z"⟩ : MethodName) (head1 (Jvm.Cond.code (⟨"com/example/pandarus/pandarus/Slots", "inOrder", "(I)Z"⟩ : MethodName) prog_65_method_4_code 2 (some .boolean) :: ws) ({ frames := 0, cells := 0, slots := 0, locals := 0 } : Room)) (fun aa U => aa = #[(.ref sl), (.int (3 : Int32))] ∧ Z.Warmed39 U.vm ∧ U.heap = h0) (fun _ _ _ _ _ => True) (fun _ U o U' => ∃ v L, o = .returned v ∧ Qio g (3 : Int32) h0 n0 v U'.heap L ∧ FrameEnd U o U' L (({ frames := 0, cells := 0, slots := 0, locals := 0 } : Room).cells) (({ frames := 0, cells := 0, slots := 0, locals := 0 } : Room).slots)) := by
  refine own_body pf_6 ?_
  intro p e s m below meth c s₁ hx hby hml hown hnm hlk hret hZ X0 e0
  have N0 : Fr n0 [] := Fr.nil n0
  refine own_go (f' := (mkF m 0 #[.val (.ref sl), .val (.int (3 : Int32))] [])) (fun t k => castTop (ef_rm_io3 m sl (3 : Int32)) k) ?_
  obtain ⟨E_s, F_h, F_n, F_f, F_a, F_t, F_r, ⟨vh, lh, V_h⟩, ⟨vn, ln, V_n⟩, V_f, V_g⟩ := SS
  refine own_aloadN X0 hx (pc' := 1) (hb hby d11_0) rfl rfl rfl ?_
  refine own_getF X0 hx (pc' := 4) hZ hown (host := "") (Or.inl (Wd21 hw)) Via.refl e0 F_a (hb hby d11_1) rfl (fun T1 X1 e1 => ?_)
  refine own_iloadN X1 hx (pc' := 5) (hb hby d11_4) rfl rfl ?_
  refine own_bipush X1 hx (pc' := 7) (64 : Int32) (hb hby d11_5) rfl rfl ?_
  refine own_idiv X1 hx (pc' := 8) (z := (0 : Int32)) (hb hby d11_7) (by decide) (by decide) rfl ?_
  obtain ⟨cl2, Ar2, q2, S2, M2, H2, G2⟩ := id V_g
  refine own_laload X1 hx (pc' := 9) hZ (v := g) e1 Ar2 (inb_of S2 ⟨by decide, by decide⟩) (Has.at H2 (inb_of S2 ⟨by decide, by decide⟩) rfl) (hb hby d11_8) rfl ?_
  refine own_lconst X1 hx (pc' := 10) (1 : Int64) (hb hby d11_9) rfl rfl ?_
  refine own_iloadN X1 hx (pc' := 11) (hb hby d11_10) rfl rfl ?_
  refine own_lshl X1 hx (pc' := 12) (hb hby d11_11) rfl ?_
  refine own_land X1 hx (pc' := 13) (hb hby d11_12) rfl rfl ?_
  refine own_lconst X1 hx (pc' := 14) (0 : Int64) (hb hby d11_13) rfl rfl ?_
  refine own_lcmp X1 hx (pc' := 15) (hb hby d11_14) rfl ?_
  by_cases hc15_3 : (g &&& ((1 : Int64) <<< ((3 : Int32) &&& 0x3f).toInt64)) = (0 : Int64)
  · skip
    refine own_ifNo X1 hx (pc' := 18) (hb hby d11_15) (teq ((lw_eq (g &&& ((1 : Int64) <<< ((3 : Int32) &&& 0x3f).toInt64)) (0 : Int64)).mpr hc15_3)).2 rfl ?_
    refine own_iconst X1 hx (pc' := 19) (1 : Int32) (hb hby d11_18) rfl rfl ?_
    refine own_goto X1 hx (pc' := 23) (hb hby d11_19) (by decide) (by decide) ?_
    refine own_retN X1 hx hlk hret (by simp) (hb hby d11_23) (by decide) (by decide) ?_
    refine ⟨?_, N0, e1⟩
    unfold own_bit
    rw [if_pos hc15_3]
    rfl
  · skip
    refine own_ifYes X1 hx (pc' := 22) (hb hby d11_15) (feq (fun q => hc15_3 ((lw_eq (g &&& ((1 : Int64) <<< ((3 : Int32) &&& 0x3f).toInt64)) (0 : Int64)).mp q))).2 (by decide) (by decide) ?_
    refine own_iconst X1 hx (pc' := 23) (0 : Int32) (hb hby d11_22) rfl rfl ?_
    refine own_retN X1 hx hlk hret (by simp) (hb hby d11_23) (by decide) (by decide) ?_
    refine ⟨?_, N0, e1⟩
    unfold own_bit
    rw [if_neg hc15_3]
    rfl

theorem ef_rm_io4 (m : MethodId) (x0 : Addr) (x1 : Int32) : entryFrame m #[(.ref x0), (.int x1)] 2 = mkF m 0 #[.val (.ref x0), .val (.int x1)] [] := by first | (simp [entryFrame, mkF, argsToLocals, Value.category, maxLocals]; done) | rfl
set_option maxRecDepth 65536 in
set_option maxHeartbeats 40000000 in
theorem rm_io4 (l : Launch) (Z : State) (a0 : Array Value) (hw : ∀ d ∈ tables_1, d.before a0 Z = true) (ws : List Jvm.Cond) (sl hd an fr ag : Addr) (kh ka kf kg : ClassId) (t f : Int32) (g : Int64) (s0 s1 : Int32) (h0 : Heap) (n0 : Nat) (Z0 : n0 ≤ h0.size) (SS : own_S Z h0 sl hd an fr ag kh ka kf kg t f g s0 s1) :
    MetFree l (⟨"com/example/pandarus/pandarus/Slots", "inOrder", "(I)Z"⟩ : MethodName) (head1 (Jvm.Cond.code (⟨"com/example/pandarus/pandarus/Slots", "inOrder", "(I)Z"⟩ : MethodName) prog_65_method_4_code 2 (some .boolean) :: ws) ({ frames := 0, cells := 0, slots := 0, locals := 0 } : Room)) (fun aa U => aa = #[(.ref sl), (.int (4 : Int32))] ∧ Z.Warmed39 U.vm ∧ U.heap = h0) (fun _ _ _ _ _ => True) (fun _ U o U' => ∃ v L, o = .returned v ∧ Qio g (4 : Int32) h0 n0 v U'.heap L ∧ FrameEnd U o U' L (({ frames := 0, cells := 0, slots := 0, locals := 0 } : Room).cells) (({ frames := 0, cells := 0, slots := 0, locals := 0 } : Room).slots)) := by
  refine own_body pf_6 ?_
  intro p e s m below meth c s₁ hx hby hml hown hnm hlk hret hZ X0 e0
  have N0 : Fr n0 [] := Fr.nil n0
  refine own_go (f' := (mkF m 0 #[.val (.ref sl), .val (.int (4 : Int32))] [])) (fun t k => castTop (ef_rm_io4 m sl (4 : Int32)) k) ?_
  obtain ⟨E_s, F_h, F_n, F_f, F_a, F_t, F_r, ⟨vh, lh, V_h⟩, ⟨vn, ln, V_n⟩, V_f, V_g⟩ := SS
  refine own_aloadN X0 hx (pc' := 1) (hb hby d11_0) rfl rfl rfl ?_
  refine own_getF X0 hx (pc' := 4) hZ hown (host := "") (Or.inl (Wd21 hw)) Via.refl e0 F_a (hb hby d11_1) rfl (fun T1 X1 e1 => ?_)
  refine own_iloadN X1 hx (pc' := 5) (hb hby d11_4) rfl rfl ?_
  refine own_bipush X1 hx (pc' := 7) (64 : Int32) (hb hby d11_5) rfl rfl ?_
  refine own_idiv X1 hx (pc' := 8) (z := (0 : Int32)) (hb hby d11_7) (by decide) (by decide) rfl ?_
  obtain ⟨cl2, Ar2, q2, S2, M2, H2, G2⟩ := id V_g
  refine own_laload X1 hx (pc' := 9) hZ (v := g) e1 Ar2 (inb_of S2 ⟨by decide, by decide⟩) (Has.at H2 (inb_of S2 ⟨by decide, by decide⟩) rfl) (hb hby d11_8) rfl ?_
  refine own_lconst X1 hx (pc' := 10) (1 : Int64) (hb hby d11_9) rfl rfl ?_
  refine own_iloadN X1 hx (pc' := 11) (hb hby d11_10) rfl rfl ?_
  refine own_lshl X1 hx (pc' := 12) (hb hby d11_11) rfl ?_
  refine own_land X1 hx (pc' := 13) (hb hby d11_12) rfl rfl ?_
  refine own_lconst X1 hx (pc' := 14) (0 : Int64) (hb hby d11_13) rfl rfl ?_
  refine own_lcmp X1 hx (pc' := 15) (hb hby d11_14) rfl ?_
  by_cases hc15_3 : (g &&& ((1 : Int64) <<< ((4 : Int32) &&& 0x3f).toInt64)) = (0 : Int64)
  · skip
    refine own_ifNo X1 hx (pc' := 18) (hb hby d11_15) (teq ((lw_eq (g &&& ((1 : Int64) <<< ((4 : Int32) &&& 0x3f).toInt64)) (0 : Int64)).mpr hc15_3)).2 rfl ?_
    refine own_iconst X1 hx (pc' := 19) (1 : Int32) (hb hby d11_18) rfl rfl ?_
    refine own_goto X1 hx (pc' := 23) (hb hby d11_19) (by decide) (by decide) ?_
    refine own_retN X1 hx hlk hret (by simp) (hb hby d11_23) (by decide) (by decide) ?_
    refine ⟨?_, N0, e1⟩
    unfold own_bit
    rw [if_pos hc15_3]
    rfl
  · skip
    refine own_ifYes X1 hx (pc' := 22) (hb hby d11_15) (feq (fun q => hc15_3 ((lw_eq (g &&& ((1 : Int64) <<< ((4 : Int32) &&& 0x3f).toInt64)) (0 : Int64)).mp q))).2 (by decide) (by decide) ?_
    refine own_iconst X1 hx (pc' := 23) (0 : Int32) (hb hby d11_22) rfl rfl ?_
    refine own_retN X1 hx hlk hret (by simp) (hb hby d11_23) (by decide) (by decide) ?_
    refine ⟨?_, N0, e1⟩
    unfold own_bit
    rw [if_neg hc15_3]
    rfl

theorem d10_0 : decode method_5_code 0 = .ok (.aload_n 1, 1) := by decide +kernel
theorem d10_1 : decode method_5_code 1 = .ok (.iload_n 2, 1) := by decide +kernel
theorem d10_2 : decode method_5_code 2 = .ok (.iaload, 1) := by decide +kernel
theorem d10_3 : decode method_5_code 3 = .ok (.iconst 1, 1) := by decide +kernel
theorem d10_4 : decode method_5_code 4 = .ok (.if_icmp .ne 11, 3) := by decide +kernel
theorem d10_7 : decode method_5_code 7 = .ok (.aload_n 0, 1) := by decide +kernel
theorem d10_8 : decode method_5_code 8 = .ok (.iload_n 2, 1) := by decide +kernel
theorem d10_9 : decode method_5_code 9 = .ok (.invokevirtual 45, 3) := by decide +kernel
theorem d10_12 : decode method_5_code 12 = .ok (.goto 27, 3) := by decide +kernel
theorem d10_15 : decode method_5_code 15 = .ok (.aload_n 1, 1) := by decide +kernel
theorem d10_16 : decode method_5_code 16 = .ok (.iload_n 2, 1) := by decide +kernel
theorem d10_17 : decode method_5_code 17 = .ok (.iaload, 1) := by decide +kernel
theorem d10_18 : decode method_5_code 18 = .ok (.iconst 2, 1) := by decide +kernel
theorem d10_19 : decode method_5_code 19 = .ok (.if_icmp .ne 19, 3) := by decide +kernel
theorem d10_22 : decode method_5_code 22 = .ok (.aload_n 0, 1) := by decide +kernel
theorem d10_23 : decode method_5_code 23 = .ok (.iload_n 2, 1) := by decide +kernel
theorem d10_24 : decode method_5_code 24 = .ok (.invokevirtual 45, 3) := by decide +kernel
theorem d10_27 : decode method_5_code 27 = .ok (.ifCond .ne 7, 3) := by decide +kernel
theorem d10_30 : decode method_5_code 30 = .ok (.iconst 1, 1) := by decide +kernel
theorem d10_31 : decode method_5_code 31 = .ok (.goto 8, 3) := by decide +kernel
theorem d10_34 : decode method_5_code 34 = .ok (.iconst 0, 1) := by decide +kernel
theorem d10_35 : decode method_5_code 35 = .ok (.goto 4, 3) := by decide +kernel
theorem d10_38 : decode method_5_code 38 = .ok (.iconst 1, 1) := by decide +kernel
theorem d10_39 : decode method_5_code 39 = .ok (.ireturn, 1) := by decide +kernel
def Qck (h0 : Heap) (n0 : Nat) (v : Option Value) (h : Heap) (L : List Loc) : Prop := v = some (.int (1 : Int32)) ∧ Fr n0 L ∧ h = h0
theorem ef_rm_ck0 (m : MethodId) (x0 : Addr) (x1 : Addr) (x2 : Int32) : entryFrame m #[(.ref x0), (.ref x1), (.int x2)] 3 = mkF m 0 #[.val (.ref x0), .val (.ref x1), .val (.int x2)] [] := by first | (simp [entryFrame, mkF, argsToLocals, Value.category, maxLocals]; done) | rfl
theorem pf_7 : plainFor (⟨"com/example/pandarus/pandarus/SlotsInOrderPinLaw", "check", "(Lcom/example/pandarus/pandarus/Slots;[II)Z"⟩ : MethodName) = true := by apply plainFor_of_name; first | (simp [plainName, overriddenIn]; done) | decide +kernel
theorem Wd78 {a0 : Array Value} {Z : State} (hw : ∀ d ∈ tables_1, d.before a0 Z = true) : (Jvm.Cond.code ({ cls := "com/example/pandarus/pandarus/Slots", name := "inOrder", desc := "(I)Z" } : Jvm.MethodName) prog_65_method_4_code (2 : Nat) (Option.some Jvm.ClassFile.FieldType.boolean)).before a0 Z = true := hw _ (List.mem_of_getElem? (i := 78) rfl)
theorem Wd2 {a0 : Array Value} {Z : State} (hw : ∀ d ∈ tables_1, d.before a0 Z = true) : (Jvm.Cond.initialized "com/example/pandarus/pandarus/Slots").before a0 Z = true := hw _ (List.mem_of_getElem? (i := 2) rfl)
theorem pd_3 : parseMethodDescriptor "(I)Z" = some ⟨[.int], some .boolean⟩ := by decide +kernel
theorem Wd74 {a0 : Array Value} {Z : State} (hw : ∀ d ∈ tables_1, d.before a0 Z = true) : (Jvm.Cond.methodLink "com/example/pandarus/pandarus/SlotsInOrderPinLaw" (45 : Nat) ({ cls := "com/example/pandarus/pandarus/Slots", name := "inOrder", desc := "(I)Z" } : Jvm.MethodName)).before a0 Z = true := hw _ (List.mem_of_getElem? (i := 74) rfl)
theorem Wd76 {a0 : Array Value} {Z : State} (hw : ∀ d ∈ tables_1, d.before a0 Z = true) : (Jvm.Cond.instanceMethod ({ cls := "com/example/pandarus/pandarus/Slots", name := "inOrder", desc := "(I)Z" } : Jvm.MethodName)).before a0 Z = true := hw _ (List.mem_of_getElem? (i := 76) rfl)
theorem Wd77 {a0 : Array Value} {Z : State} (hw : ∀ d ∈ tables_1, d.before a0 Z = true) : (Jvm.Cond.selects "com/example/pandarus/pandarus/Slots" ({ cls := "com/example/pandarus/pandarus/Slots", name := "inOrder", desc := "(I)Z" } : Jvm.MethodName) ({ cls := "com/example/pandarus/pandarus/Slots", name := "inOrder", desc := "(I)Z" } : Jvm.MethodName)).before a0 Z = true := hw _ (List.mem_of_getElem? (i := 77) rfl)
set_option maxRecDepth 65536 in
set_option maxHeartbeats 40000000 in
theorem rm_ck0 (l : Launch) (Z : State) (a0 : Array Value) (hw : ∀ d ∈ tables_1, d.before a0 Z = true) (ws : List Jvm.Cond) (sl hd an fr ag : Addr) (kh ka kf kg : ClassId) (t f : Int32) (g : Int64) (s0 s1 : Int32) (sa : Addr) (ks : ClassId) (v0 v1 v2 v3 v4 : Int32) (h0 : Heap) (n0 : Nat) (Z0 : n0 ≤ h0.size) (hck : (v0 = 1 → own_bit g (0 : Int32) = 1) ∧ (v0 = 2 → own_bit g (0 : Int32) = 0)) (V_s : Arv Z h0 sa ks .int (5 : Int32) [(.int v0), (.int v1), (.int v2), (.int v3), (.int v4)] (.int (0 : Int32))) (SS : own_S Z h0 sl hd an fr ag kh ka kf kg t f g s0 s1) :
    MetFree l (⟨"com/example/pandarus/pandarus/SlotsInOrderPinLaw", "check", "(Lcom/example/pandarus/pandarus/Slots;[II)Z"⟩ : MethodName) (head1 (Jvm.Cond.code (⟨"com/example/pandarus/pandarus/SlotsInOrderPinLaw", "check", "(Lcom/example/pandarus/pandarus/Slots;[II)Z"⟩ : MethodName) method_5_code 3 (some .boolean) :: ws) ({ frames := 1, cells := 0, slots := 0, locals := 16 } : Room)) (fun aa U => aa = #[(.ref sl), (.ref sa), (.int (0 : Int32))] ∧ Z.Warmed39 U.vm ∧ U.heap = h0) (fun _ _ _ _ _ => True) (fun _ U o U' => ∃ v L, o = .returned v ∧ Qck h0 n0 v U'.heap L ∧ FrameEnd U o U' L (({ frames := 1, cells := 0, slots := 0, locals := 16 } : Room).cells) (({ frames := 1, cells := 0, slots := 0, locals := 16 } : Room).slots)) := by
  refine own_body pf_7 ?_
  intro p e s m below meth c s₁ hx hby hml hown hnm hlk hret hZ X0 e0
  have N0 : Fr n0 [] := Fr.nil n0
  refine own_go (f' := (mkF m 0 #[.val (.ref sl), .val (.ref sa), .val (.int (0 : Int32))] [])) (fun t k => castTop (ef_rm_ck0 m sl sa (0 : Int32)) k) ?_
  have E_s := SS.1
  refine own_aloadN X0 hx (pc' := 1) (hb hby d10_0) rfl rfl rfl ?_
  refine own_iloadN X0 hx (pc' := 2) (hb hby d10_1) rfl rfl ?_
  obtain ⟨cl1, Ar1, q1, S1, M1, H1, G1⟩ := id V_s
  refine own_iaload X0 hx (pc' := 3) hZ (v := v0) e0 Ar1 (inb_of S1 ⟨by decide, by decide⟩) (Has.at H1 (inb_of S1 ⟨by decide, by decide⟩) rfl) (hb hby d10_2) rfl ?_
  refine own_iconst X0 hx (pc' := 4) (1 : Int32) (hb hby d10_3) rfl rfl ?_
  by_cases hc4_2 : v0 = (1 : Int32)
  · skip
    refine own_icmpNo X0 hx (pc' := 7) (hb hby d10_4) (teq hc4_2).2 rfl ?_
    refine own_aloadN X0 hx (pc' := 8) (hb hby d10_7) rfl rfl rfl ?_
    refine own_iloadN X0 hx (pc' := 9) (hb hby d10_8) rfl rfl ?_
    refine own_callV X0 hx (pc' := 12) hZ hown (Wd74 hw) (Wd76 hw) (Wd77 hw) (Wd78 hw) (Wd2 hw) (by decide) (rm_io0 l Z a0 hw [] sl hd an fr ag kh ka kf kg t f g s0 s1 h0 n0 Z0 SS) e0 E_s 0 (by decide) (by decide) (by decide) (by decide) [(.int (0 : Int32))] [] (by rw [hml]; rfl) (lenOf pd_3 rfl) rfl rfl (Nat.le_of_eq rfl) (hb hby d10_9) rfl (fun v3 T3 L3 X3 hQ3 => ?_)
    obtain ⟨rfl, Nq3, e3⟩ := hQ3
    have N4 := Fr.app N0 Nq3
    show own_G p.tables e below _ T3 (mkF m 12 #[.val (.ref sl), .val (.ref sa), .val (.int (0 : Int32))] [(.int (own_bit g (0 : Int32)))])
    rw [show own_bit g (0 : Int32) = (1 : Int32) from hck.1 hc4_2]
    refine own_goto X3 hx (pc' := 39) (hb hby d10_12) (by decide) (by decide) ?_
    refine own_retN X3 hx hlk hret (by simp) (hb hby d10_39) (by decide) (by decide) ?_
    exact ⟨by decide, N4, e3⟩
  · skip
    refine own_icmpYes X0 hx (pc' := 15) (hb hby d10_4) (feq hc4_2).2 (by decide) (by decide) ?_
    refine own_aloadN X0 hx (pc' := 16) (hb hby d10_15) rfl rfl rfl ?_
    refine own_iloadN X0 hx (pc' := 17) (hb hby d10_16) rfl rfl ?_
    obtain ⟨cl5, Ar5, q5, S5, M5, H5, G5⟩ := id V_s
    refine own_iaload X0 hx (pc' := 18) hZ (v := v0) e0 Ar5 (inb_of S5 ⟨by decide, by decide⟩) (Has.at H5 (inb_of S5 ⟨by decide, by decide⟩) rfl) (hb hby d10_17) rfl ?_
    refine own_iconst X0 hx (pc' := 19) (2 : Int32) (hb hby d10_18) rfl rfl ?_
    by_cases hc19_6 : v0 = (2 : Int32)
    · skip
      refine own_icmpNo X0 hx (pc' := 22) (hb hby d10_19) (teq hc19_6).2 rfl ?_
      refine own_aloadN X0 hx (pc' := 23) (hb hby d10_22) rfl rfl rfl ?_
      refine own_iloadN X0 hx (pc' := 24) (hb hby d10_23) rfl rfl ?_
      refine own_callV X0 hx (pc' := 27) hZ hown (Wd74 hw) (Wd76 hw) (Wd77 hw) (Wd78 hw) (Wd2 hw) (by decide) (rm_io0 l Z a0 hw [] sl hd an fr ag kh ka kf kg t f g s0 s1 h0 n0 Z0 SS) e0 E_s 0 (by decide) (by decide) (by decide) (by decide) [(.int (0 : Int32))] [] (by rw [hml]; rfl) (lenOf pd_3 rfl) rfl rfl (Nat.le_of_eq rfl) (hb hby d10_24) rfl (fun v7 T7 L7 X7 hQ7 => ?_)
      obtain ⟨rfl, Nq7, e7⟩ := hQ7
      have N8 := Fr.app N0 Nq7
      show own_G p.tables e below _ T7 (mkF m 27 #[.val (.ref sl), .val (.ref sa), .val (.int (0 : Int32))] [(.int (own_bit g (0 : Int32)))])
      rw [show own_bit g (0 : Int32) = (0 : Int32) from hck.2 hc19_6]
      refine own_ifNo X7 hx (pc' := 30) (hb hby d10_27) (teq (by decide : (0 : Int32) = (0 : Int32))).2 rfl ?_
      refine own_iconst X7 hx (pc' := 31) (1 : Int32) (hb hby d10_30) rfl rfl ?_
      refine own_goto X7 hx (pc' := 39) (hb hby d10_31) (by decide) (by decide) ?_
      refine own_retN X7 hx hlk hret (by simp) (hb hby d10_39) (by decide) (by decide) ?_
      exact ⟨by decide, N8, e7⟩
    · skip
      refine own_icmpYes X0 hx (pc' := 38) (hb hby d10_19) (feq hc19_6).2 (by decide) (by decide) ?_
      refine own_iconst X0 hx (pc' := 39) (1 : Int32) (hb hby d10_38) rfl rfl ?_
      refine own_retN X0 hx hlk hret (by simp) (hb hby d10_39) (by decide) (by decide) ?_
      exact ⟨by decide, N0, e0⟩

theorem ef_rm_ck1 (m : MethodId) (x0 : Addr) (x1 : Addr) (x2 : Int32) : entryFrame m #[(.ref x0), (.ref x1), (.int x2)] 3 = mkF m 0 #[.val (.ref x0), .val (.ref x1), .val (.int x2)] [] := by first | (simp [entryFrame, mkF, argsToLocals, Value.category, maxLocals]; done) | rfl
set_option maxRecDepth 65536 in
set_option maxHeartbeats 40000000 in
theorem rm_ck1 (l : Launch) (Z : State) (a0 : Array Value) (hw : ∀ d ∈ tables_1, d.before a0 Z = true) (ws : List Jvm.Cond) (sl hd an fr ag : Addr) (kh ka kf kg : ClassId) (t f : Int32) (g : Int64) (s0 s1 : Int32) (sa : Addr) (ks : ClassId) (v0 v1 v2 v3 v4 : Int32) (h0 : Heap) (n0 : Nat) (Z0 : n0 ≤ h0.size) (hck : (v1 = 1 → own_bit g (1 : Int32) = 1) ∧ (v1 = 2 → own_bit g (1 : Int32) = 0)) (V_s : Arv Z h0 sa ks .int (5 : Int32) [(.int v0), (.int v1), (.int v2), (.int v3), (.int v4)] (.int (0 : Int32))) (SS : own_S Z h0 sl hd an fr ag kh ka kf kg t f g s0 s1) :
    MetFree l (⟨"com/example/pandarus/pandarus/SlotsInOrderPinLaw", "check", "(Lcom/example/pandarus/pandarus/Slots;[II)Z"⟩ : MethodName) (head1 (Jvm.Cond.code (⟨"com/example/pandarus/pandarus/SlotsInOrderPinLaw", "check", "(Lcom/example/pandarus/pandarus/Slots;[II)Z"⟩ : MethodName) method_5_code 3 (some .boolean) :: ws) ({ frames := 1, cells := 0, slots := 0, locals := 16 } : Room)) (fun aa U => aa = #[(.ref sl), (.ref sa), (.int (1 : Int32))] ∧ Z.Warmed39 U.vm ∧ U.heap = h0) (fun _ _ _ _ _ => True) (fun _ U o U' => ∃ v L, o = .returned v ∧ Qck h0 n0 v U'.heap L ∧ FrameEnd U o U' L (({ frames := 1, cells := 0, slots := 0, locals := 16 } : Room).cells) (({ frames := 1, cells := 0, slots := 0, locals := 16 } : Room).slots)) := by
  refine own_body pf_7 ?_
  intro p e s m below meth c s₁ hx hby hml hown hnm hlk hret hZ X0 e0
  have N0 : Fr n0 [] := Fr.nil n0
  refine own_go (f' := (mkF m 0 #[.val (.ref sl), .val (.ref sa), .val (.int (1 : Int32))] [])) (fun t k => castTop (ef_rm_ck1 m sl sa (1 : Int32)) k) ?_
  have E_s := SS.1
  refine own_aloadN X0 hx (pc' := 1) (hb hby d10_0) rfl rfl rfl ?_
  refine own_iloadN X0 hx (pc' := 2) (hb hby d10_1) rfl rfl ?_
  obtain ⟨cl1, Ar1, q1, S1, M1, H1, G1⟩ := id V_s
  refine own_iaload X0 hx (pc' := 3) hZ (v := v1) e0 Ar1 (inb_of S1 ⟨by decide, by decide⟩) (Has.at H1 (inb_of S1 ⟨by decide, by decide⟩) rfl) (hb hby d10_2) rfl ?_
  refine own_iconst X0 hx (pc' := 4) (1 : Int32) (hb hby d10_3) rfl rfl ?_
  by_cases hc4_2 : v1 = (1 : Int32)
  · skip
    refine own_icmpNo X0 hx (pc' := 7) (hb hby d10_4) (teq hc4_2).2 rfl ?_
    refine own_aloadN X0 hx (pc' := 8) (hb hby d10_7) rfl rfl rfl ?_
    refine own_iloadN X0 hx (pc' := 9) (hb hby d10_8) rfl rfl ?_
    refine own_callV X0 hx (pc' := 12) hZ hown (Wd74 hw) (Wd76 hw) (Wd77 hw) (Wd78 hw) (Wd2 hw) (by decide) (rm_io1 l Z a0 hw [] sl hd an fr ag kh ka kf kg t f g s0 s1 h0 n0 Z0 SS) e0 E_s 0 (by decide) (by decide) (by decide) (by decide) [(.int (1 : Int32))] [] (by rw [hml]; rfl) (lenOf pd_3 rfl) rfl rfl (Nat.le_of_eq rfl) (hb hby d10_9) rfl (fun v3 T3 L3 X3 hQ3 => ?_)
    obtain ⟨rfl, Nq3, e3⟩ := hQ3
    have N4 := Fr.app N0 Nq3
    show own_G p.tables e below _ T3 (mkF m 12 #[.val (.ref sl), .val (.ref sa), .val (.int (1 : Int32))] [(.int (own_bit g (1 : Int32)))])
    rw [show own_bit g (1 : Int32) = (1 : Int32) from hck.1 hc4_2]
    refine own_goto X3 hx (pc' := 39) (hb hby d10_12) (by decide) (by decide) ?_
    refine own_retN X3 hx hlk hret (by simp) (hb hby d10_39) (by decide) (by decide) ?_
    exact ⟨by decide, N4, e3⟩
  · skip
    refine own_icmpYes X0 hx (pc' := 15) (hb hby d10_4) (feq hc4_2).2 (by decide) (by decide) ?_
    refine own_aloadN X0 hx (pc' := 16) (hb hby d10_15) rfl rfl rfl ?_
    refine own_iloadN X0 hx (pc' := 17) (hb hby d10_16) rfl rfl ?_
    obtain ⟨cl5, Ar5, q5, S5, M5, H5, G5⟩ := id V_s
    refine own_iaload X0 hx (pc' := 18) hZ (v := v1) e0 Ar5 (inb_of S5 ⟨by decide, by decide⟩) (Has.at H5 (inb_of S5 ⟨by decide, by decide⟩) rfl) (hb hby d10_17) rfl ?_
    refine own_iconst X0 hx (pc' := 19) (2 : Int32) (hb hby d10_18) rfl rfl ?_
    by_cases hc19_6 : v1 = (2 : Int32)
    · skip
      refine own_icmpNo X0 hx (pc' := 22) (hb hby d10_19) (teq hc19_6).2 rfl ?_
      refine own_aloadN X0 hx (pc' := 23) (hb hby d10_22) rfl rfl rfl ?_
      refine own_iloadN X0 hx (pc' := 24) (hb hby d10_23) rfl rfl ?_
      refine own_callV X0 hx (pc' := 27) hZ hown (Wd74 hw) (Wd76 hw) (Wd77 hw) (Wd78 hw) (Wd2 hw) (by decide) (rm_io1 l Z a0 hw [] sl hd an fr ag kh ka kf kg t f g s0 s1 h0 n0 Z0 SS) e0 E_s 0 (by decide) (by decide) (by decide) (by decide) [(.int (1 : Int32))] [] (by rw [hml]; rfl) (lenOf pd_3 rfl) rfl rfl (Nat.le_of_eq rfl) (hb hby d10_24) rfl (fun v7 T7 L7 X7 hQ7 => ?_)
      obtain ⟨rfl, Nq7, e7⟩ := hQ7
      have N8 := Fr.app N0 Nq7
      show own_G p.tables e below _ T7 (mkF m 27 #[.val (.ref sl), .val (.ref sa), .val (.int (1 : Int32))] [(.int (own_bit g (1 : Int32)))])
      rw [show own_bit g (1 : Int32) = (0 : Int32) from hck.2 hc19_6]
      refine own_ifNo X7 hx (pc' := 30) (hb hby d10_27) (teq (by decide : (0 : Int32) = (0 : Int32))).2 rfl ?_
      refine own_iconst X7 hx (pc' := 31) (1 : Int32) (hb hby d10_30) rfl rfl ?_
      refine own_goto X7 hx (pc' := 39) (hb hby d10_31) (by decide) (by decide) ?_
      refine own_retN X7 hx hlk hret (by simp) (hb hby d10_39) (by decide) (by decide) ?_
      exact ⟨by decide, N8, e7⟩
    · skip
      refine own_icmpYes X0 hx (pc' := 38) (hb hby d10_19) (feq hc19_6).2 (by decide) (by decide) ?_
      refine own_iconst X0 hx (pc' := 39) (1 : Int32) (hb hby d10_38) rfl rfl ?_
      refine own_retN X0 hx hlk hret (by simp) (hb hby d10_39) (by decide) (by decide) ?_
      exact ⟨by decide, N0, e0⟩

theorem ef_rm_ck2 (m : MethodId) (x0 : Addr) (x1 : Addr) (x2 : Int32) : entryFrame m #[(.ref x0), (.ref x1), (.int x2)] 3 = mkF m 0 #[.val (.ref x0), .val (.ref x1), .val (.int x2)] [] := by first | (simp [entryFrame, mkF, argsToLocals, Value.category, maxLocals]; done) | rfl
set_option maxRecDepth 65536 in
set_option maxHeartbeats 40000000 in
theorem rm_ck2 (l : Launch) (Z : State) (a0 : Array Value) (hw : ∀ d ∈ tables_1, d.before a0 Z = true) (ws : List Jvm.Cond) (sl hd an fr ag : Addr) (kh ka kf kg : ClassId) (t f : Int32) (g : Int64) (s0 s1 : Int32) (sa : Addr) (ks : ClassId) (v0 v1 v2 v3 v4 : Int32) (h0 : Heap) (n0 : Nat) (Z0 : n0 ≤ h0.size) (hck : (v2 = 1 → own_bit g (2 : Int32) = 1) ∧ (v2 = 2 → own_bit g (2 : Int32) = 0)) (V_s : Arv Z h0 sa ks .int (5 : Int32) [(.int v0), (.int v1), (.int v2), (.int v3), (.int v4)] (.int (0 : Int32))) (SS : own_S Z h0 sl hd an fr ag kh ka kf kg t f g s0 s1) :
    MetFree l (⟨"com/example/pandarus/pandarus/SlotsInOrderPinLaw", "check", "(Lcom/example/pandarus/pandarus/Slots;[II)Z"⟩ : MethodName) (head1 (Jvm.Cond.code (⟨"com/example/pandarus/pandarus/SlotsInOrderPinLaw", "check", "(Lcom/example/pandarus/pandarus/Slots;[II)Z"⟩ : MethodName) method_5_code 3 (some .boolean) :: ws) ({ frames := 1, cells := 0, slots := 0, locals := 16 } : Room)) (fun aa U => aa = #[(.ref sl), (.ref sa), (.int (2 : Int32))] ∧ Z.Warmed39 U.vm ∧ U.heap = h0) (fun _ _ _ _ _ => True) (fun _ U o U' => ∃ v L, o = .returned v ∧ Qck h0 n0 v U'.heap L ∧ FrameEnd U o U' L (({ frames := 1, cells := 0, slots := 0, locals := 16 } : Room).cells) (({ frames := 1, cells := 0, slots := 0, locals := 16 } : Room).slots)) := by
  refine own_body pf_7 ?_
  intro p e s m below meth c s₁ hx hby hml hown hnm hlk hret hZ X0 e0
  have N0 : Fr n0 [] := Fr.nil n0
  refine own_go (f' := (mkF m 0 #[.val (.ref sl), .val (.ref sa), .val (.int (2 : Int32))] [])) (fun t k => castTop (ef_rm_ck2 m sl sa (2 : Int32)) k) ?_
  have E_s := SS.1
  refine own_aloadN X0 hx (pc' := 1) (hb hby d10_0) rfl rfl rfl ?_
  refine own_iloadN X0 hx (pc' := 2) (hb hby d10_1) rfl rfl ?_
  obtain ⟨cl1, Ar1, q1, S1, M1, H1, G1⟩ := id V_s
  refine own_iaload X0 hx (pc' := 3) hZ (v := v2) e0 Ar1 (inb_of S1 ⟨by decide, by decide⟩) (Has.at H1 (inb_of S1 ⟨by decide, by decide⟩) rfl) (hb hby d10_2) rfl ?_
  refine own_iconst X0 hx (pc' := 4) (1 : Int32) (hb hby d10_3) rfl rfl ?_
  by_cases hc4_2 : v2 = (1 : Int32)
  · skip
    refine own_icmpNo X0 hx (pc' := 7) (hb hby d10_4) (teq hc4_2).2 rfl ?_
    refine own_aloadN X0 hx (pc' := 8) (hb hby d10_7) rfl rfl rfl ?_
    refine own_iloadN X0 hx (pc' := 9) (hb hby d10_8) rfl rfl ?_
    refine own_callV X0 hx (pc' := 12) hZ hown (Wd74 hw) (Wd76 hw) (Wd77 hw) (Wd78 hw) (Wd2 hw) (by decide) (rm_io2 l Z a0 hw [] sl hd an fr ag kh ka kf kg t f g s0 s1 h0 n0 Z0 SS) e0 E_s 0 (by decide) (by decide) (by decide) (by decide) [(.int (2 : Int32))] [] (by rw [hml]; rfl) (lenOf pd_3 rfl) rfl rfl (Nat.le_of_eq rfl) (hb hby d10_9) rfl (fun v3 T3 L3 X3 hQ3 => ?_)
    obtain ⟨rfl, Nq3, e3⟩ := hQ3
    have N4 := Fr.app N0 Nq3
    show own_G p.tables e below _ T3 (mkF m 12 #[.val (.ref sl), .val (.ref sa), .val (.int (2 : Int32))] [(.int (own_bit g (2 : Int32)))])
    rw [show own_bit g (2 : Int32) = (1 : Int32) from hck.1 hc4_2]
    refine own_goto X3 hx (pc' := 39) (hb hby d10_12) (by decide) (by decide) ?_
    refine own_retN X3 hx hlk hret (by simp) (hb hby d10_39) (by decide) (by decide) ?_
    exact ⟨by decide, N4, e3⟩
  · skip
    refine own_icmpYes X0 hx (pc' := 15) (hb hby d10_4) (feq hc4_2).2 (by decide) (by decide) ?_
    refine own_aloadN X0 hx (pc' := 16) (hb hby d10_15) rfl rfl rfl ?_
    refine own_iloadN X0 hx (pc' := 17) (hb hby d10_16) rfl rfl ?_
    obtain ⟨cl5, Ar5, q5, S5, M5, H5, G5⟩ := id V_s
    refine own_iaload X0 hx (pc' := 18) hZ (v := v2) e0 Ar5 (inb_of S5 ⟨by decide, by decide⟩) (Has.at H5 (inb_of S5 ⟨by decide, by decide⟩) rfl) (hb hby d10_17) rfl ?_
    refine own_iconst X0 hx (pc' := 19) (2 : Int32) (hb hby d10_18) rfl rfl ?_
    by_cases hc19_6 : v2 = (2 : Int32)
    · skip
      refine own_icmpNo X0 hx (pc' := 22) (hb hby d10_19) (teq hc19_6).2 rfl ?_
      refine own_aloadN X0 hx (pc' := 23) (hb hby d10_22) rfl rfl rfl ?_
      refine own_iloadN X0 hx (pc' := 24) (hb hby d10_23) rfl rfl ?_
      refine own_callV X0 hx (pc' := 27) hZ hown (Wd74 hw) (Wd76 hw) (Wd77 hw) (Wd78 hw) (Wd2 hw) (by decide) (rm_io2 l Z a0 hw [] sl hd an fr ag kh ka kf kg t f g s0 s1 h0 n0 Z0 SS) e0 E_s 0 (by decide) (by decide) (by decide) (by decide) [(.int (2 : Int32))] [] (by rw [hml]; rfl) (lenOf pd_3 rfl) rfl rfl (Nat.le_of_eq rfl) (hb hby d10_24) rfl (fun v7 T7 L7 X7 hQ7 => ?_)
      obtain ⟨rfl, Nq7, e7⟩ := hQ7
      have N8 := Fr.app N0 Nq7
      show own_G p.tables e below _ T7 (mkF m 27 #[.val (.ref sl), .val (.ref sa), .val (.int (2 : Int32))] [(.int (own_bit g (2 : Int32)))])
      rw [show own_bit g (2 : Int32) = (0 : Int32) from hck.2 hc19_6]
      refine own_ifNo X7 hx (pc' := 30) (hb hby d10_27) (teq (by decide : (0 : Int32) = (0 : Int32))).2 rfl ?_
      refine own_iconst X7 hx (pc' := 31) (1 : Int32) (hb hby d10_30) rfl rfl ?_
      refine own_goto X7 hx (pc' := 39) (hb hby d10_31) (by decide) (by decide) ?_
      refine own_retN X7 hx hlk hret (by simp) (hb hby d10_39) (by decide) (by decide) ?_
      exact ⟨by decide, N8, e7⟩
    · skip
      refine own_icmpYes X0 hx (pc' := 38) (hb hby d10_19) (feq hc19_6).2 (by decide) (by decide) ?_
      refine own_iconst X0 hx (pc' := 39) (1 : Int32) (hb hby d10_38) rfl rfl ?_
      refine own_retN X0 hx hlk hret (by simp) (hb hby d10_39) (by decide) (by decide) ?_
      exact ⟨by decide, N0, e0⟩

theorem ef_rm_ck3 (m : MethodId) (x0 : Addr) (x1 : Addr) (x2 : Int32) : entryFrame m #[(.ref x0), (.ref x1), (.int x2)] 3 = mkF m 0 #[.val (.ref x0), .val (.ref x1), .val (.int x2)] [] := by first | (simp [entryFrame, mkF, argsToLocals, Value.category, maxLocals]; done) | rfl
set_option maxRecDepth 65536 in
set_option maxHeartbeats 40000000 in
theorem rm_ck3 (l : Launch) (Z : State) (a0 : Array Value) (hw : ∀ d ∈ tables_1, d.before a0 Z = true) (ws : List Jvm.Cond) (sl hd an fr ag : Addr) (kh ka kf kg : ClassId) (t f : Int32) (g : Int64) (s0 s1 : Int32) (sa : Addr) (ks : ClassId) (v0 v1 v2 v3 v4 : Int32) (h0 : Heap) (n0 : Nat) (Z0 : n0 ≤ h0.size) (hck : (v3 = 1 → own_bit g (3 : Int32) = 1) ∧ (v3 = 2 → own_bit g (3 : Int32) = 0)) (V_s : Arv Z h0 sa ks .int (5 : Int32) [(.int v0), (.int v1), (.int v2), (.int v3), (.int v4)] (.int (0 : Int32))) (SS : own_S Z h0 sl hd an fr ag kh ka kf kg t f g s0 s1) :
    MetFree l (⟨"com/example/pandarus/pandarus/SlotsInOrderPinLaw", "check", "(Lcom/example/pandarus/pandarus/Slots;[II)Z"⟩ : MethodName) (head1 (Jvm.Cond.code (⟨"com/example/pandarus/pandarus/SlotsInOrderPinLaw", "check", "(Lcom/example/pandarus/pandarus/Slots;[II)Z"⟩ : MethodName) method_5_code 3 (some .boolean) :: ws) ({ frames := 1, cells := 0, slots := 0, locals := 16 } : Room)) (fun aa U => aa = #[(.ref sl), (.ref sa), (.int (3 : Int32))] ∧ Z.Warmed39 U.vm ∧ U.heap = h0) (fun _ _ _ _ _ => True) (fun _ U o U' => ∃ v L, o = .returned v ∧ Qck h0 n0 v U'.heap L ∧ FrameEnd U o U' L (({ frames := 1, cells := 0, slots := 0, locals := 16 } : Room).cells) (({ frames := 1, cells := 0, slots := 0, locals := 16 } : Room).slots)) := by
  refine own_body pf_7 ?_
  intro p e s m below meth c s₁ hx hby hml hown hnm hlk hret hZ X0 e0
  have N0 : Fr n0 [] := Fr.nil n0
  refine own_go (f' := (mkF m 0 #[.val (.ref sl), .val (.ref sa), .val (.int (3 : Int32))] [])) (fun t k => castTop (ef_rm_ck3 m sl sa (3 : Int32)) k) ?_
  have E_s := SS.1
  refine own_aloadN X0 hx (pc' := 1) (hb hby d10_0) rfl rfl rfl ?_
  refine own_iloadN X0 hx (pc' := 2) (hb hby d10_1) rfl rfl ?_
  obtain ⟨cl1, Ar1, q1, S1, M1, H1, G1⟩ := id V_s
  refine own_iaload X0 hx (pc' := 3) hZ (v := v3) e0 Ar1 (inb_of S1 ⟨by decide, by decide⟩) (Has.at H1 (inb_of S1 ⟨by decide, by decide⟩) rfl) (hb hby d10_2) rfl ?_
  refine own_iconst X0 hx (pc' := 4) (1 : Int32) (hb hby d10_3) rfl rfl ?_
  by_cases hc4_2 : v3 = (1 : Int32)
  · skip
    refine own_icmpNo X0 hx (pc' := 7) (hb hby d10_4) (teq hc4_2).2 rfl ?_
    refine own_aloadN X0 hx (pc' := 8) (hb hby d10_7) rfl rfl rfl ?_
    refine own_iloadN X0 hx (pc' := 9) (hb hby d10_8) rfl rfl ?_
    refine own_callV X0 hx (pc' := 12) hZ hown (Wd74 hw) (Wd76 hw) (Wd77 hw) (Wd78 hw) (Wd2 hw) (by decide) (rm_io3 l Z a0 hw [] sl hd an fr ag kh ka kf kg t f g s0 s1 h0 n0 Z0 SS) e0 E_s 0 (by decide) (by decide) (by decide) (by decide) [(.int (3 : Int32))] [] (by rw [hml]; rfl) (lenOf pd_3 rfl) rfl rfl (Nat.le_of_eq rfl) (hb hby d10_9) rfl (fun v3 T3 L3 X3 hQ3 => ?_)
    obtain ⟨rfl, Nq3, e3⟩ := hQ3
    have N4 := Fr.app N0 Nq3
    show own_G p.tables e below _ T3 (mkF m 12 #[.val (.ref sl), .val (.ref sa), .val (.int (3 : Int32))] [(.int (own_bit g (3 : Int32)))])
    rw [show own_bit g (3 : Int32) = (1 : Int32) from hck.1 hc4_2]
    refine own_goto X3 hx (pc' := 39) (hb hby d10_12) (by decide) (by decide) ?_
    refine own_retN X3 hx hlk hret (by simp) (hb hby d10_39) (by decide) (by decide) ?_
    exact ⟨by decide, N4, e3⟩
  · skip
    refine own_icmpYes X0 hx (pc' := 15) (hb hby d10_4) (feq hc4_2).2 (by decide) (by decide) ?_
    refine own_aloadN X0 hx (pc' := 16) (hb hby d10_15) rfl rfl rfl ?_
    refine own_iloadN X0 hx (pc' := 17) (hb hby d10_16) rfl rfl ?_
    obtain ⟨cl5, Ar5, q5, S5, M5, H5, G5⟩ := id V_s
    refine own_iaload X0 hx (pc' := 18) hZ (v := v3) e0 Ar5 (inb_of S5 ⟨by decide, by decide⟩) (Has.at H5 (inb_of S5 ⟨by decide, by decide⟩) rfl) (hb hby d10_17) rfl ?_
    refine own_iconst X0 hx (pc' := 19) (2 : Int32) (hb hby d10_18) rfl rfl ?_
    by_cases hc19_6 : v3 = (2 : Int32)
    · skip
      refine own_icmpNo X0 hx (pc' := 22) (hb hby d10_19) (teq hc19_6).2 rfl ?_
      refine own_aloadN X0 hx (pc' := 23) (hb hby d10_22) rfl rfl rfl ?_
      refine own_iloadN X0 hx (pc' := 24) (hb hby d10_23) rfl rfl ?_
      refine own_callV X0 hx (pc' := 27) hZ hown (Wd74 hw) (Wd76 hw) (Wd77 hw) (Wd78 hw) (Wd2 hw) (by decide) (rm_io3 l Z a0 hw [] sl hd an fr ag kh ka kf kg t f g s0 s1 h0 n0 Z0 SS) e0 E_s 0 (by decide) (by decide) (by decide) (by decide) [(.int (3 : Int32))] [] (by rw [hml]; rfl) (lenOf pd_3 rfl) rfl rfl (Nat.le_of_eq rfl) (hb hby d10_24) rfl (fun v7 T7 L7 X7 hQ7 => ?_)
      obtain ⟨rfl, Nq7, e7⟩ := hQ7
      have N8 := Fr.app N0 Nq7
      show own_G p.tables e below _ T7 (mkF m 27 #[.val (.ref sl), .val (.ref sa), .val (.int (3 : Int32))] [(.int (own_bit g (3 : Int32)))])
      rw [show own_bit g (3 : Int32) = (0 : Int32) from hck.2 hc19_6]
      refine own_ifNo X7 hx (pc' := 30) (hb hby d10_27) (teq (by decide : (0 : Int32) = (0 : Int32))).2 rfl ?_
      refine own_iconst X7 hx (pc' := 31) (1 : Int32) (hb hby d10_30) rfl rfl ?_
      refine own_goto X7 hx (pc' := 39) (hb hby d10_31) (by decide) (by decide) ?_
      refine own_retN X7 hx hlk hret (by simp) (hb hby d10_39) (by decide) (by decide) ?_
      exact ⟨by decide, N8, e7⟩
    · skip
      refine own_icmpYes X0 hx (pc' := 38) (hb hby d10_19) (feq hc19_6).2 (by decide) (by decide) ?_
      refine own_iconst X0 hx (pc' := 39) (1 : Int32) (hb hby d10_38) rfl rfl ?_
      refine own_retN X0 hx hlk hret (by simp) (hb hby d10_39) (by decide) (by decide) ?_
      exact ⟨by decide, N0, e0⟩

theorem ef_rm_ck4 (m : MethodId) (x0 : Addr) (x1 : Addr) (x2 : Int32) : entryFrame m #[(.ref x0), (.ref x1), (.int x2)] 3 = mkF m 0 #[.val (.ref x0), .val (.ref x1), .val (.int x2)] [] := by first | (simp [entryFrame, mkF, argsToLocals, Value.category, maxLocals]; done) | rfl
set_option maxRecDepth 65536 in
set_option maxHeartbeats 40000000 in
theorem rm_ck4 (l : Launch) (Z : State) (a0 : Array Value) (hw : ∀ d ∈ tables_1, d.before a0 Z = true) (ws : List Jvm.Cond) (sl hd an fr ag : Addr) (kh ka kf kg : ClassId) (t f : Int32) (g : Int64) (s0 s1 : Int32) (sa : Addr) (ks : ClassId) (v0 v1 v2 v3 v4 : Int32) (h0 : Heap) (n0 : Nat) (Z0 : n0 ≤ h0.size) (hck : (v4 = 1 → own_bit g (4 : Int32) = 1) ∧ (v4 = 2 → own_bit g (4 : Int32) = 0)) (V_s : Arv Z h0 sa ks .int (5 : Int32) [(.int v0), (.int v1), (.int v2), (.int v3), (.int v4)] (.int (0 : Int32))) (SS : own_S Z h0 sl hd an fr ag kh ka kf kg t f g s0 s1) :
    MetFree l (⟨"com/example/pandarus/pandarus/SlotsInOrderPinLaw", "check", "(Lcom/example/pandarus/pandarus/Slots;[II)Z"⟩ : MethodName) (head1 (Jvm.Cond.code (⟨"com/example/pandarus/pandarus/SlotsInOrderPinLaw", "check", "(Lcom/example/pandarus/pandarus/Slots;[II)Z"⟩ : MethodName) method_5_code 3 (some .boolean) :: ws) ({ frames := 1, cells := 0, slots := 0, locals := 16 } : Room)) (fun aa U => aa = #[(.ref sl), (.ref sa), (.int (4 : Int32))] ∧ Z.Warmed39 U.vm ∧ U.heap = h0) (fun _ _ _ _ _ => True) (fun _ U o U' => ∃ v L, o = .returned v ∧ Qck h0 n0 v U'.heap L ∧ FrameEnd U o U' L (({ frames := 1, cells := 0, slots := 0, locals := 16 } : Room).cells) (({ frames := 1, cells := 0, slots := 0, locals := 16 } : Room).slots)) := by
  refine own_body pf_7 ?_
  intro p e s m below meth c s₁ hx hby hml hown hnm hlk hret hZ X0 e0
  have N0 : Fr n0 [] := Fr.nil n0
  refine own_go (f' := (mkF m 0 #[.val (.ref sl), .val (.ref sa), .val (.int (4 : Int32))] [])) (fun t k => castTop (ef_rm_ck4 m sl sa (4 : Int32)) k) ?_
  have E_s := SS.1
  refine own_aloadN X0 hx (pc' := 1) (hb hby d10_0) rfl rfl rfl ?_
  refine own_iloadN X0 hx (pc' := 2) (hb hby d10_1) rfl rfl ?_
  obtain ⟨cl1, Ar1, q1, S1, M1, H1, G1⟩ := id V_s
  refine own_iaload X0 hx (pc' := 3) hZ (v := v4) e0 Ar1 (inb_of S1 ⟨by decide, by decide⟩) (Has.at H1 (inb_of S1 ⟨by decide, by decide⟩) rfl) (hb hby d10_2) rfl ?_
  refine own_iconst X0 hx (pc' := 4) (1 : Int32) (hb hby d10_3) rfl rfl ?_
  by_cases hc4_2 : v4 = (1 : Int32)
  · skip
    refine own_icmpNo X0 hx (pc' := 7) (hb hby d10_4) (teq hc4_2).2 rfl ?_
    refine own_aloadN X0 hx (pc' := 8) (hb hby d10_7) rfl rfl rfl ?_
    refine own_iloadN X0 hx (pc' := 9) (hb hby d10_8) rfl rfl ?_
    refine own_callV X0 hx (pc' := 12) hZ hown (Wd74 hw) (Wd76 hw) (Wd77 hw) (Wd78 hw) (Wd2 hw) (by decide) (rm_io4 l Z a0 hw [] sl hd an fr ag kh ka kf kg t f g s0 s1 h0 n0 Z0 SS) e0 E_s 0 (by decide) (by decide) (by decide) (by decide) [(.int (4 : Int32))] [] (by rw [hml]; rfl) (lenOf pd_3 rfl) rfl rfl (Nat.le_of_eq rfl) (hb hby d10_9) rfl (fun v3 T3 L3 X3 hQ3 => ?_)
    obtain ⟨rfl, Nq3, e3⟩ := hQ3
    have N4 := Fr.app N0 Nq3
    show own_G p.tables e below _ T3 (mkF m 12 #[.val (.ref sl), .val (.ref sa), .val (.int (4 : Int32))] [(.int (own_bit g (4 : Int32)))])
    rw [show own_bit g (4 : Int32) = (1 : Int32) from hck.1 hc4_2]
    refine own_goto X3 hx (pc' := 39) (hb hby d10_12) (by decide) (by decide) ?_
    refine own_retN X3 hx hlk hret (by simp) (hb hby d10_39) (by decide) (by decide) ?_
    exact ⟨by decide, N4, e3⟩
  · skip
    refine own_icmpYes X0 hx (pc' := 15) (hb hby d10_4) (feq hc4_2).2 (by decide) (by decide) ?_
    refine own_aloadN X0 hx (pc' := 16) (hb hby d10_15) rfl rfl rfl ?_
    refine own_iloadN X0 hx (pc' := 17) (hb hby d10_16) rfl rfl ?_
    obtain ⟨cl5, Ar5, q5, S5, M5, H5, G5⟩ := id V_s
    refine own_iaload X0 hx (pc' := 18) hZ (v := v4) e0 Ar5 (inb_of S5 ⟨by decide, by decide⟩) (Has.at H5 (inb_of S5 ⟨by decide, by decide⟩) rfl) (hb hby d10_17) rfl ?_
    refine own_iconst X0 hx (pc' := 19) (2 : Int32) (hb hby d10_18) rfl rfl ?_
    by_cases hc19_6 : v4 = (2 : Int32)
    · skip
      refine own_icmpNo X0 hx (pc' := 22) (hb hby d10_19) (teq hc19_6).2 rfl ?_
      refine own_aloadN X0 hx (pc' := 23) (hb hby d10_22) rfl rfl rfl ?_
      refine own_iloadN X0 hx (pc' := 24) (hb hby d10_23) rfl rfl ?_
      refine own_callV X0 hx (pc' := 27) hZ hown (Wd74 hw) (Wd76 hw) (Wd77 hw) (Wd78 hw) (Wd2 hw) (by decide) (rm_io4 l Z a0 hw [] sl hd an fr ag kh ka kf kg t f g s0 s1 h0 n0 Z0 SS) e0 E_s 0 (by decide) (by decide) (by decide) (by decide) [(.int (4 : Int32))] [] (by rw [hml]; rfl) (lenOf pd_3 rfl) rfl rfl (Nat.le_of_eq rfl) (hb hby d10_24) rfl (fun v7 T7 L7 X7 hQ7 => ?_)
      obtain ⟨rfl, Nq7, e7⟩ := hQ7
      have N8 := Fr.app N0 Nq7
      show own_G p.tables e below _ T7 (mkF m 27 #[.val (.ref sl), .val (.ref sa), .val (.int (4 : Int32))] [(.int (own_bit g (4 : Int32)))])
      rw [show own_bit g (4 : Int32) = (0 : Int32) from hck.2 hc19_6]
      refine own_ifNo X7 hx (pc' := 30) (hb hby d10_27) (teq (by decide : (0 : Int32) = (0 : Int32))).2 rfl ?_
      refine own_iconst X7 hx (pc' := 31) (1 : Int32) (hb hby d10_30) rfl rfl ?_
      refine own_goto X7 hx (pc' := 39) (hb hby d10_31) (by decide) (by decide) ?_
      refine own_retN X7 hx hlk hret (by simp) (hb hby d10_39) (by decide) (by decide) ?_
      exact ⟨by decide, N8, e7⟩
    · skip
      refine own_icmpYes X0 hx (pc' := 38) (hb hby d10_19) (feq hc19_6).2 (by decide) (by decide) ?_
      refine own_iconst X0 hx (pc' := 39) (1 : Int32) (hb hby d10_38) rfl rfl ?_
      refine own_retN X0 hx hlk hret (by simp) (hb hby d10_39) (by decide) (by decide) ?_
      exact ⟨by decide, N0, e0⟩

theorem own_S_ext {Z : State} {h h' : Heap} {sl hd an fr ag : Addr} {kh ka kf kg : ClassId} {t f : Int32} {g : Int64} {s0 s1 : Int32} (S : own_S Z h sl hd an fr ag kh ka kf kg t f g s0 s1) (E : Ext h h') : own_S Z h' sl hd an fr ag kh ka kf kg t f g s0 s1 := by
  obtain ⟨E_s, F_h, F_n, F_f, F_a, F_t, F_r, ⟨vh, lh, V_h⟩, ⟨vn, ln, V_n⟩, V_f, V_g⟩ := S
  exact ⟨Exa.ext E E_s, Fld.ext E F_h, Fld.ext E F_n, Fld.ext E F_f, Fld.ext E F_a, Fld.ext E F_t, Fld.ext E F_r, ⟨vh, lh, V_h.ext E⟩, ⟨vn, ln, V_n.ext E⟩, V_f.ext E, V_g.ext E⟩
theorem own_S_wr {Z : State} {h h' : Heap} {sl hd an fr ag a : Addr} {kh ka kf kg : ClassId} {t f : Int32} {g : Int64} {s0 s1 : Int32} {i : Nat} {v : Value} (S : own_S Z h sl hd an fr ag kh ka kf kg t f g s0 s1) (W : Wr h h' a i v) (q : sl ≠ a ∧ hd ≠ a ∧ an ≠ a ∧ fr ≠ a ∧ ag ≠ a) : own_S Z h' sl hd an fr ag kh ka kf kg t f g s0 s1 := by
  obtain ⟨E_s, F_h, F_n, F_f, F_a, F_t, F_r, ⟨vh, lh, V_h⟩, ⟨vn, ln, V_n⟩, V_f, V_g⟩ := S
  obtain ⟨q1, q2, q3, q4, q5⟩ := q
  exact ⟨Exa.wr W E_s, Fld.other W F_h (Or.inl q1), Fld.other W F_n (Or.inl q1), Fld.other W F_f (Or.inl q1), Fld.other W F_a (Or.inl q1), Fld.other W F_t (Or.inl q1), Fld.other W F_r (Or.inl q1), ⟨vh, lh, V_h.other W q2⟩, ⟨vn, ln, V_n.other W q3⟩, V_f.other W q4, V_g.other W q5⟩
def own_up (x v a w : Int32) (i : Int32) : Prop := (x = i ∧ w = v) ∨ (x ≠ i ∧ w = a)
theorem own_set3 (x v v0 v1 v2 v3 v4 : Int32) (hx : x = 0 ∨ x = 1 ∨ x = 2) : ∃ w0 w1 w2 : Int32, [Value.int v0, .int v1, .int v2, .int v3, .int v4].set x.toNatClampNeg (.int v) = [.int w0, .int w1, .int w2, .int v3, .int v4] ∧ own_up x v v0 w0 0 ∧ own_up x v v1 w1 1 ∧ own_up x v v2 w2 2 := by
  rcases hx with rfl | rfl | rfl
  · exact ⟨v, v1, v2, rfl, Or.inl ⟨rfl, rfl⟩, Or.inr ⟨by decide, rfl⟩, Or.inr ⟨by decide, rfl⟩⟩
  · exact ⟨v0, v, v2, rfl, Or.inr ⟨by decide, rfl⟩, Or.inl ⟨rfl, rfl⟩, Or.inr ⟨by decide, rfl⟩⟩
  · exact ⟨v0, v1, v, rfl, Or.inr ⟨by decide, rfl⟩, Or.inr ⟨by decide, rfl⟩, Or.inl ⟨rfl, rfl⟩⟩
theorem own_get3 {x v0 v1 v2 v3 v4 z : Int32} (hx : x = 0 ∨ x = 1 ∨ x = 2) (h : (x = 0 → v0 = z) ∧ (x = 1 → v1 = z) ∧ (x = 2 → v2 = z)) (d : Value) : [Value.int v0, .int v1, .int v2, .int v3, .int v4].getD x.toNatClampNeg d = .int z := by
  rcases hx with rfl | rfl | rfl
  · exact congrArg Value.int (h.1 rfl)
  · exact congrArg Value.int (h.2.1 rfl)
  · exact congrArg Value.int (h.2.2 rfl)
theorem own_in3 {x : Int32} (hx : x = 0 ∨ x = 1 ∨ x = 2) : (¬ x < 0 ∧ x < (5 : Int32)) ∧ (0 ≤ x.toInt ∧ x.toInt ≤ 2) ∧ x.toNatClampNeg < 5 := by
  rcases hx with rfl | rfl | rfl <;> decide
def own_pk (x : Int32) (r0 r1 r2 : Addr) : Addr := if x = 0 then r0 else if x = 1 then r1 else r2
theorem d9_0 : decode method_4_code 0 = .ok (.aload_n 0, 1) := by decide +kernel
theorem d9_1 : decode method_4_code 1 = .ok (.aconst_null, 1) := by decide +kernel
theorem d9_2 : decode method_4_code 2 = .ok (.lload_n 3, 1) := by decide +kernel
theorem d9_3 : decode method_4_code 3 = .ok (.invokevirtual 10, 3) := by decide +kernel
theorem d9_6 : decode method_4_code 6 = .ok (.invokevirtual 39, 3) := by decide +kernel
theorem d9_9 : decode method_4_code 9 = .ok (.istore 5, 2) := by decide +kernel
theorem d9_11 : decode method_4_code 11 = .ok (.iload 5, 2) := by decide +kernel
theorem d9_13 : decode method_4_code 13 = .ok (.ifCond .lt 9, 3) := by decide +kernel
theorem d9_16 : decode method_4_code 16 = .ok (.iload 5, 2) := by decide +kernel
theorem d9_18 : decode method_4_code 18 = .ok (.iconst 4, 1) := by decide +kernel
theorem d9_19 : decode method_4_code 19 = .ok (.if_icmp .le 5, 3) := by decide +kernel
theorem d9_22 : decode method_4_code 22 = .ok (.iconst 0, 1) := by decide +kernel
theorem d9_23 : decode method_4_code 23 = .ok (.ireturn, 1) := by decide +kernel
theorem d9_24 : decode method_4_code 24 = .ok (.aload_n 1, 1) := by decide +kernel
theorem d9_25 : decode method_4_code 25 = .ok (.iload 5, 2) := by decide +kernel
theorem d9_27 : decode method_4_code 27 = .ok (.iaload, 1) := by decide +kernel
theorem d9_28 : decode method_4_code 28 = .ok (.istore 6, 2) := by decide +kernel
theorem d9_30 : decode method_4_code 30 = .ok (.iload_n 2, 1) := by decide +kernel
theorem d9_31 : decode method_4_code 31 = .ok (.ifCond .eq 12, 3) := by decide +kernel
theorem d9_34 : decode method_4_code 34 = .ok (.iload 6, 2) := by decide +kernel
theorem d9_36 : decode method_4_code 36 = .ok (.iconst 3, 1) := by decide +kernel
theorem d9_37 : decode method_4_code 37 = .ok (.if_icmp .eq 13, 3) := by decide +kernel
theorem d9_40 : decode method_4_code 40 = .ok (.goto 8, 3) := by decide +kernel
theorem d9_43 : decode method_4_code 43 = .ok (.iload 6, 2) := by decide +kernel
theorem d9_45 : decode method_4_code 45 = .ok (.ifCond .eq 5, 3) := by decide +kernel
theorem d9_48 : decode method_4_code 48 = .ok (.iconst 0, 1) := by decide +kernel
theorem d9_49 : decode method_4_code 49 = .ok (.ireturn, 1) := by decide +kernel
theorem d9_50 : decode method_4_code 50 = .ok (.aload_n 1, 1) := by decide +kernel
theorem d9_51 : decode method_4_code 51 = .ok (.iload 5, 2) := by decide +kernel
theorem d9_53 : decode method_4_code 53 = .ok (.iload_n 2, 1) := by decide +kernel
theorem d9_54 : decode method_4_code 54 = .ok (.ifCond .eq 7, 3) := by decide +kernel
theorem d9_57 : decode method_4_code 57 = .ok (.iconst 2, 1) := by decide +kernel
theorem d9_58 : decode method_4_code 58 = .ok (.goto 4, 3) := by decide +kernel
theorem d9_61 : decode method_4_code 61 = .ok (.iconst 1, 1) := by decide +kernel
theorem d9_62 : decode method_4_code 62 = .ok (.iastore, 1) := by decide +kernel
theorem d9_63 : decode method_4_code 63 = .ok (.iconst 1, 1) := by decide +kernel
theorem d9_64 : decode method_4_code 64 = .ok (.ireturn, 1) := by decide +kernel
def Qt3 (Z : State) (sl hd an fr ag : Addr) (kh ka kf kg : ClassId) (g : Int64) (s0 s1 : Int32) (sa : Addr) (ks : ClassId) (v0 v1 v2 v3 v4 : Int32) (h0 : Heap) (n0 : Nat) (v : Option Value) (h : Heap) (L : List Loc) : Prop := v = some (.int (1 : Int32)) ∧ Fr n0 L ∧ Keep h0 h [sl, hd, an, fr, ag, sa] ∧ own_S Z h sl hd an fr ag kh ka kf kg (4 : Int32) (0 : Int32) g s0 s1 ∧ Arv Z h sa ks .int (5 : Int32) [(.int v0), (.int v1), (.int v2), (.int (1 : Int32)), (.int v4)] (.int (0 : Int32))
theorem ef_rm_t3 (m : MethodId) (x0 : Addr) (x1 : Addr) (x2 : Int32) (x3 : Int64) : entryFrame m #[(.ref x0), (.ref x1), (.int x2), (.long x3)] 7 = mkF m 0 #[.val (.ref x0), .val (.ref x1), .val (.int x2), .val (.long x3), .second, .unset, .unset] [] := by first | (simp [entryFrame, mkF, argsToLocals, Value.category, maxLocals]; done) | rfl
theorem pf_8 : plainFor (⟨"com/example/pandarus/pandarus/SlotsInOrderPinLaw", "take", "(Lcom/example/pandarus/pandarus/Slots;[IZJ)Z"⟩ : MethodName) = true := by apply plainFor_of_name; first | (simp [plainName, overriddenIn]; done) | decide +kernel
theorem Wd27 {a0 : Array Value} {Z : State} (hw : ∀ d ∈ tables_1, d.before a0 Z = true) : (Jvm.Cond.code ({ cls := "com/example/pandarus/pandarus/Slots", name := "hold", desc := "(Lcom/example/pandarus/pandarus/Subscription;J)Lcom/example/pandarus/pandarus/Ranked;" } : Jvm.MethodName) prog_65_method_2_code (7 : Nat) (Option.some (Jvm.ClassFile.FieldType.object "com/example/pandarus/pandarus/Ranked"))).before a0 Z = true := hw _ (List.mem_of_getElem? (i := 27) rfl)
theorem pd_4 : parseMethodDescriptor "(Lcom/example/pandarus/pandarus/Subscription;J)Lcom/example/pandarus/pandarus/Ranked;" = some ⟨[(.object "com/example/pandarus/pandarus/Subscription"), .long], some (.object "com/example/pandarus/pandarus/Ranked")⟩ := by decide +kernel
theorem Wd23 {a0 : Array Value} {Z : State} (hw : ∀ d ∈ tables_1, d.before a0 Z = true) : (Jvm.Cond.methodLink "com/example/pandarus/pandarus/SlotsInOrderPinLaw" (10 : Nat) ({ cls := "com/example/pandarus/pandarus/Slots", name := "hold", desc := "(Lcom/example/pandarus/pandarus/Subscription;J)Lcom/example/pandarus/pandarus/Ranked;" } : Jvm.MethodName)).before a0 Z = true := hw _ (List.mem_of_getElem? (i := 23) rfl)
theorem Wd25 {a0 : Array Value} {Z : State} (hw : ∀ d ∈ tables_1, d.before a0 Z = true) : (Jvm.Cond.instanceMethod ({ cls := "com/example/pandarus/pandarus/Slots", name := "hold", desc := "(Lcom/example/pandarus/pandarus/Subscription;J)Lcom/example/pandarus/pandarus/Ranked;" } : Jvm.MethodName)).before a0 Z = true := hw _ (List.mem_of_getElem? (i := 25) rfl)
theorem Wd26 {a0 : Array Value} {Z : State} (hw : ∀ d ∈ tables_1, d.before a0 Z = true) : (Jvm.Cond.selects "com/example/pandarus/pandarus/Slots" ({ cls := "com/example/pandarus/pandarus/Slots", name := "hold", desc := "(Lcom/example/pandarus/pandarus/Subscription;J)Lcom/example/pandarus/pandarus/Ranked;" } : Jvm.MethodName) ({ cls := "com/example/pandarus/pandarus/Slots", name := "hold", desc := "(Lcom/example/pandarus/pandarus/Subscription;J)Lcom/example/pandarus/pandarus/Ranked;" } : Jvm.MethodName)).before a0 Z = true := hw _ (List.mem_of_getElem? (i := 26) rfl)
theorem Wd70 {a0 : Array Value} {Z : State} (hw : ∀ d ∈ tables_1, d.before a0 Z = true) : (Jvm.Cond.methodLink "com/example/pandarus/pandarus/SlotsInOrderPinLaw" (39 : Nat) ({ cls := "com/example/pandarus/pandarus/Ranked", name := "slot", desc := "()I" } : Jvm.MethodName)).before a0 Z = true := hw _ (List.mem_of_getElem? (i := 70) rfl)
set_option maxRecDepth 65536 in
set_option maxHeartbeats 40000000 in
theorem rm_t3 (l : Launch) (Z : State) (a0 : Array Value) (hw : ∀ d ∈ tables_1, d.before a0 Z = true) (ws : List Jvm.Cond) (sl hd an fr ag : Addr) (kh ka kf kg : ClassId) (g : Int64) (s0 s1 : Int32) (sa : Addr) (ks : ClassId) (v0 v1 v2 v3 v4 : Int32) (q : Int64) (h0 : Heap) (n0 : Nat) (Z0 : n0 ≤ h0.size) (g_sa : n0 ≤ sa) (hsa : sl ≠ sa ∧ hd ≠ sa ∧ an ≠ sa ∧ fr ≠ sa ∧ ag ≠ sa) (DD : own_D Z n0 sl hd an fr ag kh) (hv : v3 = 0) (V_s : Arv Z h0 sa ks .int (5 : Int32) [(.int v0), (.int v1), (.int v2), (.int v3), (.int v4)] (.int (0 : Int32))) (SS : own_S Z h0 sl hd an fr ag kh ka kf kg (3 : Int32) (0 : Int32) g s0 s1) :
    MetFree l (⟨"com/example/pandarus/pandarus/SlotsInOrderPinLaw", "take", "(Lcom/example/pandarus/pandarus/Slots;[IZJ)Z"⟩ : MethodName) (head1 (Jvm.Cond.code (⟨"com/example/pandarus/pandarus/SlotsInOrderPinLaw", "take", "(Lcom/example/pandarus/pandarus/Slots;[IZJ)Z"⟩ : MethodName) method_4_code 7 (some .boolean) :: ws) ({ frames := 4, cells := 1, slots := 3, locals := 66 } : Room)) (fun aa U => aa = #[(.ref sl), (.ref sa), (.int (0 : Int32)), (.long q)] ∧ Z.Warmed39 U.vm ∧ U.heap = h0) (fun _ _ _ _ _ => True) (fun _ U o U' => ∃ v L, o = .returned v ∧ Qt3 Z sl hd an fr ag kh ka kf kg g s0 s1 sa ks v0 v1 v2 v3 v4 h0 n0 v U'.heap L ∧ FrameEnd U o U' L (({ frames := 4, cells := 1, slots := 3, locals := 66 } : Room).cells) (({ frames := 4, cells := 1, slots := 3, locals := 66 } : Room).slots)) := by
  refine own_body pf_8 ?_
  intro p e s m below meth c s₁ hx hby hml hown hnm hlk hret hZ X0 e0
  have N0 : Fr n0 [] := Fr.nil n0
  refine own_go (f' := (mkF m 0 #[.val (.ref sl), .val (.ref sa), .val (.int (0 : Int32)), .val (.long q), .second, .unset, .unset] [])) (fun t k => castTop (ef_rm_t3 m sl sa (0 : Int32) q) k) ?_
  have E_s := SS.1
  have K1 : Keep h0 h0 [sl, hd, an, fr, ag, sa] := Keep.refl _ _
  refine own_aloadN X0 hx (pc' := 1) (hb hby d9_0) rfl rfl rfl ?_
  refine own_aconstNull X0 hx (pc' := 2) (hb hby d9_1) rfl ?_
  refine own_lloadN X0 hx (pc' := 3) (hb hby d9_2) rfl rfl ?_
  refine own_callV X0 hx (pc' := 6) hZ hown (Wd23 hw) (Wd25 hw) (Wd26 hw) (Wd27 hw) (Wd2 hw) (by decide) (rm_h0 l Z a0 hw [] sl hd an fr ag kh ka kf kg (3 : Int32) (4 : Int32) g s0 s1 q h0 n0 Z0 (by decide) (by decide) DD SS) e0 E_s 0 (by decide) (by decide) (by decide) (by decide) [.null, (.long q)] [] (by rw [hml]; rfl) (lenOf pd_4 rfl) rfl rfl (Nat.le_of_eq rfl) (hb hby d9_3) rfl (fun v2 T2 L2 X2 hQ2 => ?_)
  obtain ⟨rk, rfl, gs2, Nq2, K2, Ek2, Fk2, SS2⟩ := hQ2
  have N3 := Fr.app N0 Nq2
  have ne_rk : rk ≠ sa := Ne.symm (Nat.ne_of_lt (Nat.lt_of_lt_of_le V_s.lt gs2))
  have Z4 : n0 ≤ T2.heap.size := Nat.le_trans Z0 K2.1
  have K5 : Keep h0 T2.heap [sl, hd, an, fr, ag, sa] := Keep.trans K1 K2 (allS (Or.inl (List.mem_of_getElem? (i := 0) rfl)) (allS (Or.inl (List.mem_of_getElem? (i := 1) rfl)) (allS (Or.inl (List.mem_of_getElem? (i := 2) rfl)) (allS (Or.inl (List.mem_of_getElem? (i := 3) rfl)) (allS (Or.inl (List.mem_of_getElem? (i := 4) rfl)) all0)))))
  have F6 := (V_s.keep K2 (ninS (Ne.symm hsa.1) (ninS (Ne.symm hsa.2.1) (ninS (Ne.symm hsa.2.2.1) (ninS (Ne.symm hsa.2.2.2.1) (ninS (Ne.symm hsa.2.2.2.2) nin0))))))
  have F7 := (Exa.keep E_s K2)
  show own_G p.tables e below _ T2 (mkF m 6 #[.val (.ref sl), .val (.ref sa), .val (.int (0 : Int32)), .val (.long q), .second, .unset, .unset] [(.ref rk)])
  refine own_callV X2 hx (pc' := 9) hZ hown (Wd70 hw) (Wd63 hw) (Wd64 hw) (Wd65 hw) (Wd33 hw) (by decide) (rm_slot l Z a0 hw [] rk (3 : Int32) T2.heap n0 Z4 Fk2) rfl Ek2 0 (by decide) (by decide) (by decide) (by decide) [] [] (by rw [hml]; rfl) (lenOf pd_2 rfl) rfl rfl (Nat.le_of_eq rfl) (hb hby d9_6) rfl (fun v8 T8 L8 X8 hQ8 => ?_)
  obtain ⟨rfl, Nq8, e8⟩ := hQ8
  have N9 := Fr.app N3 Nq8
  show own_G p.tables e below _ T8 (mkF m 9 #[.val (.ref sl), .val (.ref sa), .val (.int (0 : Int32)), .val (.long q), .second, .unset, .unset] [(.int (3 : Int32))])
  refine own_istore X8 hx (pc' := 11) (Ls' := #[.val (.ref sl), .val (.ref sa), .val (.int (0 : Int32)), .val (.long q), .second, .val (.int (3 : Int32)), .unset]) (hb hby d9_9) rfl rfl ?_
  refine own_iload X8 hx (pc' := 13) (hb hby d9_11) rfl rfl ?_
  refine own_ifNo X8 hx (pc' := 16) (hb hby d9_13) (flt (by decide : ¬ ((3 : Int32) < (0 : Int32)))).1 rfl ?_
  refine own_iload X8 hx (pc' := 18) (hb hby d9_16) rfl rfl ?_
  refine own_iconst X8 hx (pc' := 19) (4 : Int32) (hb hby d9_18) rfl rfl ?_
  refine own_icmpYes X8 hx (pc' := 24) (hb hby d9_19) (flt (by decide : ¬ ((4 : Int32) < (3 : Int32)))).2.2.2 (by decide) (by decide) ?_
  refine own_aloadN X8 hx (pc' := 25) (hb hby d9_24) rfl rfl rfl ?_
  refine own_iload X8 hx (pc' := 27) (hb hby d9_25) rfl rfl ?_
  obtain ⟨cl10, Ar10, q10, S10, M10, H10, G10⟩ := id F6
  refine own_iaload X8 hx (pc' := 28) hZ (v := v3) e8 Ar10 (inb_of S10 ⟨by decide, by decide⟩) (Has.at H10 (inb_of S10 ⟨by decide, by decide⟩) rfl) (hb hby d9_27) rfl ?_
  rw [hv]
  refine own_istore X8 hx (pc' := 30) (Ls' := #[.val (.ref sl), .val (.ref sa), .val (.int (0 : Int32)), .val (.long q), .second, .val (.int (3 : Int32)), .val (.int (0 : Int32))]) (hb hby d9_28) rfl rfl ?_
  refine own_iloadN X8 hx (pc' := 31) (hb hby d9_30) rfl rfl ?_
  refine own_ifYes X8 hx (pc' := 43) (hb hby d9_31) (teq (by decide : (0 : Int32) = (0 : Int32))).1 (by decide) (by decide) ?_
  refine own_iload X8 hx (pc' := 45) (hb hby d9_43) rfl rfl ?_
  refine own_ifYes X8 hx (pc' := 50) (hb hby d9_45) (teq (by decide : (0 : Int32) = (0 : Int32))).1 (by decide) (by decide) ?_
  refine own_aloadN X8 hx (pc' := 51) (hb hby d9_50) rfl rfl rfl ?_
  refine own_iload X8 hx (pc' := 53) (hb hby d9_51) rfl rfl ?_
  refine own_iloadN X8 hx (pc' := 54) (hb hby d9_53) rfl rfl ?_
  refine own_ifYes X8 hx (pc' := 61) (hb hby d9_54) (teq (by decide : (0 : Int32) = (0 : Int32))).1 (by decide) (by decide) ?_
  refine own_iconst X8 hx (pc' := 62) (1 : Int32) (hb hby d9_61) rfl rfl ?_
  obtain ⟨cl11, Ar11, q11, S11, M11, H11, G11⟩ := id F6
  refine own_stI X8 hx (pc' := 63) hZ e8 Ar11 (inb_of S11 ⟨by decide, by decide⟩) (hb hby d9_62) rfl (fun T12 h12 X12 e12 W12 => ?_)
  have N13 := Fr.snoc X12 N9 g_sa
  have Z14 : n0 ≤ h12.size := Nat.le_trans Z4 (Nat.le_of_eq (Wr.size W12).symm)
  have K15 : Keep h0 h12 [sl, hd, an, fr, ag, sa] := K5.wr W12 (Or.inl (List.mem_of_getElem? (i := 5) rfl))
  have F16 : Arv Z h12 sa ks .int (5 : Int32) [(.int v0), (.int v1), (.int v2), (.int (1 : Int32)), (.int v4)] (.int (0 : Int32)) := (Arv.set Ar11 q11 S11 M11 H11 G11 rfl W12 3 rfl (Nat.le_of_ble_eq_true rfl))
  have F17 := (Exa.wr W12 F7)
  have F18 := (Exa.wr W12 Ek2)
  have F19 := (Fld.other W12 Fk2 (Or.inl ne_rk))
  have F20 := (own_S_wr SS2 W12 ⟨hsa.1, hsa.2.1, hsa.2.2.1, hsa.2.2.2.1, hsa.2.2.2.2⟩)
  refine own_iconst X12 hx (pc' := 64) (1 : Int32) (hb hby d9_63) rfl rfl ?_
  refine own_retN X12 hx hlk hret (by simp) (hb hby d9_64) (by decide) (by decide) ?_
  rw [e12]
  exact ⟨by decide, N13, K15, F20, F16⟩

def Qt4 (Z : State) (sl hd an fr ag : Addr) (kh ka kf kg : ClassId) (g : Int64) (s0 s1 : Int32) (sa : Addr) (ks : ClassId) (v0 v1 v2 v3 v4 : Int32) (h0 : Heap) (n0 : Nat) (v : Option Value) (h : Heap) (L : List Loc) : Prop := v = some (.int (1 : Int32)) ∧ Fr n0 L ∧ Keep h0 h [sl, hd, an, fr, ag, sa] ∧ own_S Z h sl hd an fr ag kh ka kf kg (5 : Int32) (0 : Int32) g s0 s1 ∧ Arv Z h sa ks .int (5 : Int32) [(.int v0), (.int v1), (.int v2), (.int v3), (.int (1 : Int32))] (.int (0 : Int32))
theorem ef_rm_t4 (m : MethodId) (x0 : Addr) (x1 : Addr) (x2 : Int32) (x3 : Int64) : entryFrame m #[(.ref x0), (.ref x1), (.int x2), (.long x3)] 7 = mkF m 0 #[.val (.ref x0), .val (.ref x1), .val (.int x2), .val (.long x3), .second, .unset, .unset] [] := by first | (simp [entryFrame, mkF, argsToLocals, Value.category, maxLocals]; done) | rfl
set_option maxRecDepth 65536 in
set_option maxHeartbeats 40000000 in
theorem rm_t4 (l : Launch) (Z : State) (a0 : Array Value) (hw : ∀ d ∈ tables_1, d.before a0 Z = true) (ws : List Jvm.Cond) (sl hd an fr ag : Addr) (kh ka kf kg : ClassId) (g : Int64) (s0 s1 : Int32) (sa : Addr) (ks : ClassId) (v0 v1 v2 v3 v4 : Int32) (q : Int64) (h0 : Heap) (n0 : Nat) (Z0 : n0 ≤ h0.size) (g_sa : n0 ≤ sa) (hsa : sl ≠ sa ∧ hd ≠ sa ∧ an ≠ sa ∧ fr ≠ sa ∧ ag ≠ sa) (DD : own_D Z n0 sl hd an fr ag kh) (hv : v4 = 0) (V_s : Arv Z h0 sa ks .int (5 : Int32) [(.int v0), (.int v1), (.int v2), (.int v3), (.int v4)] (.int (0 : Int32))) (SS : own_S Z h0 sl hd an fr ag kh ka kf kg (4 : Int32) (0 : Int32) g s0 s1) :
    MetFree l (⟨"com/example/pandarus/pandarus/SlotsInOrderPinLaw", "take", "(Lcom/example/pandarus/pandarus/Slots;[IZJ)Z"⟩ : MethodName) (head1 (Jvm.Cond.code (⟨"com/example/pandarus/pandarus/SlotsInOrderPinLaw", "take", "(Lcom/example/pandarus/pandarus/Slots;[IZJ)Z"⟩ : MethodName) method_4_code 7 (some .boolean) :: ws) ({ frames := 4, cells := 1, slots := 3, locals := 66 } : Room)) (fun aa U => aa = #[(.ref sl), (.ref sa), (.int (0 : Int32)), (.long q)] ∧ Z.Warmed39 U.vm ∧ U.heap = h0) (fun _ _ _ _ _ => True) (fun _ U o U' => ∃ v L, o = .returned v ∧ Qt4 Z sl hd an fr ag kh ka kf kg g s0 s1 sa ks v0 v1 v2 v3 v4 h0 n0 v U'.heap L ∧ FrameEnd U o U' L (({ frames := 4, cells := 1, slots := 3, locals := 66 } : Room).cells) (({ frames := 4, cells := 1, slots := 3, locals := 66 } : Room).slots)) := by
  refine own_body pf_8 ?_
  intro p e s m below meth c s₁ hx hby hml hown hnm hlk hret hZ X0 e0
  have N0 : Fr n0 [] := Fr.nil n0
  refine own_go (f' := (mkF m 0 #[.val (.ref sl), .val (.ref sa), .val (.int (0 : Int32)), .val (.long q), .second, .unset, .unset] [])) (fun t k => castTop (ef_rm_t4 m sl sa (0 : Int32) q) k) ?_
  have E_s := SS.1
  have K1 : Keep h0 h0 [sl, hd, an, fr, ag, sa] := Keep.refl _ _
  refine own_aloadN X0 hx (pc' := 1) (hb hby d9_0) rfl rfl rfl ?_
  refine own_aconstNull X0 hx (pc' := 2) (hb hby d9_1) rfl ?_
  refine own_lloadN X0 hx (pc' := 3) (hb hby d9_2) rfl rfl ?_
  refine own_callV X0 hx (pc' := 6) hZ hown (Wd23 hw) (Wd25 hw) (Wd26 hw) (Wd27 hw) (Wd2 hw) (by decide) (rm_h0 l Z a0 hw [] sl hd an fr ag kh ka kf kg (4 : Int32) (5 : Int32) g s0 s1 q h0 n0 Z0 (by decide) (by decide) DD SS) e0 E_s 0 (by decide) (by decide) (by decide) (by decide) [.null, (.long q)] [] (by rw [hml]; rfl) (lenOf pd_4 rfl) rfl rfl (Nat.le_of_eq rfl) (hb hby d9_3) rfl (fun v2 T2 L2 X2 hQ2 => ?_)
  obtain ⟨rk, rfl, gs2, Nq2, K2, Ek2, Fk2, SS2⟩ := hQ2
  have N3 := Fr.app N0 Nq2
  have ne_rk : rk ≠ sa := Ne.symm (Nat.ne_of_lt (Nat.lt_of_lt_of_le V_s.lt gs2))
  have Z4 : n0 ≤ T2.heap.size := Nat.le_trans Z0 K2.1
  have K5 : Keep h0 T2.heap [sl, hd, an, fr, ag, sa] := Keep.trans K1 K2 (allS (Or.inl (List.mem_of_getElem? (i := 0) rfl)) (allS (Or.inl (List.mem_of_getElem? (i := 1) rfl)) (allS (Or.inl (List.mem_of_getElem? (i := 2) rfl)) (allS (Or.inl (List.mem_of_getElem? (i := 3) rfl)) (allS (Or.inl (List.mem_of_getElem? (i := 4) rfl)) all0)))))
  have F6 := (V_s.keep K2 (ninS (Ne.symm hsa.1) (ninS (Ne.symm hsa.2.1) (ninS (Ne.symm hsa.2.2.1) (ninS (Ne.symm hsa.2.2.2.1) (ninS (Ne.symm hsa.2.2.2.2) nin0))))))
  have F7 := (Exa.keep E_s K2)
  show own_G p.tables e below _ T2 (mkF m 6 #[.val (.ref sl), .val (.ref sa), .val (.int (0 : Int32)), .val (.long q), .second, .unset, .unset] [(.ref rk)])
  refine own_callV X2 hx (pc' := 9) hZ hown (Wd70 hw) (Wd63 hw) (Wd64 hw) (Wd65 hw) (Wd33 hw) (by decide) (rm_slot l Z a0 hw [] rk (4 : Int32) T2.heap n0 Z4 Fk2) rfl Ek2 0 (by decide) (by decide) (by decide) (by decide) [] [] (by rw [hml]; rfl) (lenOf pd_2 rfl) rfl rfl (Nat.le_of_eq rfl) (hb hby d9_6) rfl (fun v8 T8 L8 X8 hQ8 => ?_)
  obtain ⟨rfl, Nq8, e8⟩ := hQ8
  have N9 := Fr.app N3 Nq8
  show own_G p.tables e below _ T8 (mkF m 9 #[.val (.ref sl), .val (.ref sa), .val (.int (0 : Int32)), .val (.long q), .second, .unset, .unset] [(.int (4 : Int32))])
  refine own_istore X8 hx (pc' := 11) (Ls' := #[.val (.ref sl), .val (.ref sa), .val (.int (0 : Int32)), .val (.long q), .second, .val (.int (4 : Int32)), .unset]) (hb hby d9_9) rfl rfl ?_
  refine own_iload X8 hx (pc' := 13) (hb hby d9_11) rfl rfl ?_
  refine own_ifNo X8 hx (pc' := 16) (hb hby d9_13) (flt (by decide : ¬ ((4 : Int32) < (0 : Int32)))).1 rfl ?_
  refine own_iload X8 hx (pc' := 18) (hb hby d9_16) rfl rfl ?_
  refine own_iconst X8 hx (pc' := 19) (4 : Int32) (hb hby d9_18) rfl rfl ?_
  refine own_icmpYes X8 hx (pc' := 24) (hb hby d9_19) (flt (by decide : ¬ ((4 : Int32) < (4 : Int32)))).2.2.2 (by decide) (by decide) ?_
  refine own_aloadN X8 hx (pc' := 25) (hb hby d9_24) rfl rfl rfl ?_
  refine own_iload X8 hx (pc' := 27) (hb hby d9_25) rfl rfl ?_
  obtain ⟨cl10, Ar10, q10, S10, M10, H10, G10⟩ := id F6
  refine own_iaload X8 hx (pc' := 28) hZ (v := v4) e8 Ar10 (inb_of S10 ⟨by decide, by decide⟩) (Has.at H10 (inb_of S10 ⟨by decide, by decide⟩) rfl) (hb hby d9_27) rfl ?_
  rw [hv]
  refine own_istore X8 hx (pc' := 30) (Ls' := #[.val (.ref sl), .val (.ref sa), .val (.int (0 : Int32)), .val (.long q), .second, .val (.int (4 : Int32)), .val (.int (0 : Int32))]) (hb hby d9_28) rfl rfl ?_
  refine own_iloadN X8 hx (pc' := 31) (hb hby d9_30) rfl rfl ?_
  refine own_ifYes X8 hx (pc' := 43) (hb hby d9_31) (teq (by decide : (0 : Int32) = (0 : Int32))).1 (by decide) (by decide) ?_
  refine own_iload X8 hx (pc' := 45) (hb hby d9_43) rfl rfl ?_
  refine own_ifYes X8 hx (pc' := 50) (hb hby d9_45) (teq (by decide : (0 : Int32) = (0 : Int32))).1 (by decide) (by decide) ?_
  refine own_aloadN X8 hx (pc' := 51) (hb hby d9_50) rfl rfl rfl ?_
  refine own_iload X8 hx (pc' := 53) (hb hby d9_51) rfl rfl ?_
  refine own_iloadN X8 hx (pc' := 54) (hb hby d9_53) rfl rfl ?_
  refine own_ifYes X8 hx (pc' := 61) (hb hby d9_54) (teq (by decide : (0 : Int32) = (0 : Int32))).1 (by decide) (by decide) ?_
  refine own_iconst X8 hx (pc' := 62) (1 : Int32) (hb hby d9_61) rfl rfl ?_
  obtain ⟨cl11, Ar11, q11, S11, M11, H11, G11⟩ := id F6
  refine own_stI X8 hx (pc' := 63) hZ e8 Ar11 (inb_of S11 ⟨by decide, by decide⟩) (hb hby d9_62) rfl (fun T12 h12 X12 e12 W12 => ?_)
  have N13 := Fr.snoc X12 N9 g_sa
  have Z14 : n0 ≤ h12.size := Nat.le_trans Z4 (Nat.le_of_eq (Wr.size W12).symm)
  have K15 : Keep h0 h12 [sl, hd, an, fr, ag, sa] := K5.wr W12 (Or.inl (List.mem_of_getElem? (i := 5) rfl))
  have F16 : Arv Z h12 sa ks .int (5 : Int32) [(.int v0), (.int v1), (.int v2), (.int v3), (.int (1 : Int32))] (.int (0 : Int32)) := (Arv.set Ar11 q11 S11 M11 H11 G11 rfl W12 4 rfl (Nat.le_of_ble_eq_true rfl))
  have F17 := (Exa.wr W12 F7)
  have F18 := (Exa.wr W12 Ek2)
  have F19 := (Fld.other W12 Fk2 (Or.inl ne_rk))
  have F20 := (own_S_wr SS2 W12 ⟨hsa.1, hsa.2.1, hsa.2.2.1, hsa.2.2.2.1, hsa.2.2.2.2⟩)
  refine own_iconst X12 hx (pc' := 64) (1 : Int32) (hb hby d9_63) rfl rfl ?_
  refine own_retN X12 hx hlk hret (by simp) (hb hby d9_64) (by decide) (by decide) ?_
  rw [e12]
  exact ⟨by decide, N13, K15, F20, F16⟩

def Qtf1 (Z : State) (sl hd an fr ag : Addr) (kh ka kf kg : ClassId) (t : Int32) (g : Int64) (s0 s1 : Int32) (sa : Addr) (ks : ClassId) (v0 v1 v2 v3 v4 : Int32) (h0 : Heap) (n0 : Nat) (v : Option Value) (h : Heap) (L : List Loc) : Prop := v = some (.int (1 : Int32)) ∧ Fr n0 L ∧ Keep h0 h [sl, hd, an, fr, ag, sa] ∧ ∃ w0 w1 w2 : Int32, own_up s0 2 v0 w0 0 ∧ own_up s0 2 v1 w1 1 ∧ own_up s0 2 v2 w2 2 ∧ own_S Z h sl hd an fr ag kh ka kf kg t (0 : Int32) (g ||| ((1 : Int64) <<< (s0 &&& 0x3f).toInt64)) s0 s1 ∧ Arv Z h sa ks .int (5 : Int32) [(.int w0), (.int w1), (.int w2), (.int v3), (.int v4)] (.int (0 : Int32))
theorem ef_rm_tf1 (m : MethodId) (x0 : Addr) (x1 : Addr) (x2 : Int32) (x3 : Int64) : entryFrame m #[(.ref x0), (.ref x1), (.int x2), (.long x3)] 7 = mkF m 0 #[.val (.ref x0), .val (.ref x1), .val (.int x2), .val (.long x3), .second, .unset, .unset] [] := by first | (simp [entryFrame, mkF, argsToLocals, Value.category, maxLocals]; done) | rfl
set_option maxRecDepth 65536 in
set_option maxHeartbeats 40000000 in
theorem rm_tf1 (l : Launch) (Z : State) (a0 : Array Value) (hw : ∀ d ∈ tables_1, d.before a0 Z = true) (ws : List Jvm.Cond) (sl hd an fr ag : Addr) (kh ka kf kg : ClassId) (t : Int32) (g : Int64) (s0 s1 : Int32) (sa : Addr) (ks : ClassId) (v0 v1 v2 v3 v4 : Int32) (q : Int64) (h0 : Heap) (n0 : Nat) (Z0 : n0 ≤ h0.size) (g_sa : n0 ≤ sa) (hsa : sl ≠ sa ∧ hd ≠ sa ∧ an ≠ sa ∧ fr ≠ sa ∧ ag ≠ sa) (DD : own_D Z n0 sl hd an fr ag kh) (hs : s0 = 0 ∨ s0 = 1 ∨ s0 = 2) (hv : (s0 = 0 → v0 = 3) ∧ (s0 = 1 → v1 = 3) ∧ (s0 = 2 → v2 = 3)) (V_s : Arv Z h0 sa ks .int (5 : Int32) [(.int v0), (.int v1), (.int v2), (.int v3), (.int v4)] (.int (0 : Int32))) (SS : own_S Z h0 sl hd an fr ag kh ka kf kg t (1 : Int32) g s0 s1) :
    MetFree l (⟨"com/example/pandarus/pandarus/SlotsInOrderPinLaw", "take", "(Lcom/example/pandarus/pandarus/Slots;[IZJ)Z"⟩ : MethodName) (head1 (Jvm.Cond.code (⟨"com/example/pandarus/pandarus/SlotsInOrderPinLaw", "take", "(Lcom/example/pandarus/pandarus/Slots;[IZJ)Z"⟩ : MethodName) method_4_code 7 (some .boolean) :: ws) ({ frames := 4, cells := 1, slots := 3, locals := 66 } : Room)) (fun aa U => aa = #[(.ref sl), (.ref sa), (.int (1 : Int32)), (.long q)] ∧ Z.Warmed39 U.vm ∧ U.heap = h0) (fun _ _ _ _ _ => True) (fun _ U o U' => ∃ v L, o = .returned v ∧ Qtf1 Z sl hd an fr ag kh ka kf kg t g s0 s1 sa ks v0 v1 v2 v3 v4 h0 n0 v U'.heap L ∧ FrameEnd U o U' L (({ frames := 4, cells := 1, slots := 3, locals := 66 } : Room).cells) (({ frames := 4, cells := 1, slots := 3, locals := 66 } : Room).slots)) := by
  refine own_body pf_8 ?_
  intro p e s m below meth c s₁ hx hby hml hown hnm hlk hret hZ X0 e0
  have N0 : Fr n0 [] := Fr.nil n0
  refine own_go (f' := (mkF m 0 #[.val (.ref sl), .val (.ref sa), .val (.int (1 : Int32)), .val (.long q), .second, .unset, .unset] [])) (fun t k => castTop (ef_rm_tf1 m sl sa (1 : Int32) q) k) ?_
  have E_s := SS.1
  have K1 : Keep h0 h0 [sl, hd, an, fr, ag, sa] := Keep.refl _ _
  refine own_aloadN X0 hx (pc' := 1) (hb hby d9_0) rfl rfl rfl ?_
  refine own_aconstNull X0 hx (pc' := 2) (hb hby d9_1) rfl ?_
  refine own_lloadN X0 hx (pc' := 3) (hb hby d9_2) rfl rfl ?_
  refine own_callV X0 hx (pc' := 6) hZ hown (Wd23 hw) (Wd25 hw) (Wd26 hw) (Wd27 hw) (Wd2 hw) (by decide) (rm_h1 l Z a0 hw [] sl hd an fr ag kh ka kf kg t g s0 s1 q h0 n0 Z0 ⟨(own_in3 hs).2.1.1, Int.le_trans (own_in3 hs).2.1.2 (by decide)⟩ DD SS) e0 E_s 0 (by decide) (by decide) (by decide) (by decide) [.null, (.long q)] [] (by rw [hml]; rfl) (lenOf pd_4 rfl) rfl rfl (Nat.le_of_eq rfl) (hb hby d9_3) rfl (fun v2 T2 L2 X2 hQ2 => ?_)
  obtain ⟨rk, rfl, gs2, Nq2, K2, Ek2, Fk2, SS2⟩ := hQ2
  have N3 := Fr.app N0 Nq2
  have ne_rk : rk ≠ sa := Ne.symm (Nat.ne_of_lt (Nat.lt_of_lt_of_le V_s.lt gs2))
  have Z4 : n0 ≤ T2.heap.size := Nat.le_trans Z0 K2.1
  have K5 : Keep h0 T2.heap [sl, hd, an, fr, ag, sa] := Keep.trans K1 K2 (allS (Or.inl (List.mem_of_getElem? (i := 0) rfl)) (allS (Or.inl (List.mem_of_getElem? (i := 1) rfl)) (allS (Or.inl (List.mem_of_getElem? (i := 2) rfl)) (allS (Or.inl (List.mem_of_getElem? (i := 3) rfl)) (allS (Or.inl (List.mem_of_getElem? (i := 4) rfl)) all0)))))
  have F6 := (V_s.keep K2 (ninS (Ne.symm hsa.1) (ninS (Ne.symm hsa.2.1) (ninS (Ne.symm hsa.2.2.1) (ninS (Ne.symm hsa.2.2.2.1) (ninS (Ne.symm hsa.2.2.2.2) nin0))))))
  have F7 := (Exa.keep E_s K2)
  show own_G p.tables e below _ T2 (mkF m 6 #[.val (.ref sl), .val (.ref sa), .val (.int (1 : Int32)), .val (.long q), .second, .unset, .unset] [(.ref rk)])
  refine own_callV X2 hx (pc' := 9) hZ hown (Wd70 hw) (Wd63 hw) (Wd64 hw) (Wd65 hw) (Wd33 hw) (by decide) (rm_slot l Z a0 hw [] rk s0 T2.heap n0 Z4 Fk2) rfl Ek2 0 (by decide) (by decide) (by decide) (by decide) [] [] (by rw [hml]; rfl) (lenOf pd_2 rfl) rfl rfl (Nat.le_of_eq rfl) (hb hby d9_6) rfl (fun v8 T8 L8 X8 hQ8 => ?_)
  obtain ⟨rfl, Nq8, e8⟩ := hQ8
  have N9 := Fr.app N3 Nq8
  show own_G p.tables e below _ T8 (mkF m 9 #[.val (.ref sl), .val (.ref sa), .val (.int (1 : Int32)), .val (.long q), .second, .unset, .unset] [(.int s0)])
  refine own_istore X8 hx (pc' := 11) (Ls' := #[.val (.ref sl), .val (.ref sa), .val (.int (1 : Int32)), .val (.long q), .second, .val (.int s0), .unset]) (hb hby d9_9) rfl rfl ?_
  have i3 := own_in3 hs
  have hr1 : ¬ (s0 < (0 : Int32)) := i3.1.1
  have hr2 : ¬ ((4 : Int32) < s0) := by rw [Int32.lt_iff_toInt_lt, own_t32_4]; omega
  refine own_iload X8 hx (pc' := 13) (hb hby d9_11) rfl rfl ?_
  refine own_ifNo X8 hx (pc' := 16) (hb hby d9_13) (flt hr1).1 rfl ?_
  refine own_iload X8 hx (pc' := 18) (hb hby d9_16) rfl rfl ?_
  refine own_iconst X8 hx (pc' := 19) (4 : Int32) (hb hby d9_18) rfl rfl ?_
  refine own_icmpYes X8 hx (pc' := 24) (hb hby d9_19) (flt hr2).2.2.2 (by decide) (by decide) ?_
  refine own_aloadN X8 hx (pc' := 25) (hb hby d9_24) rfl rfl rfl ?_
  refine own_iload X8 hx (pc' := 27) (hb hby d9_25) rfl rfl ?_
  obtain ⟨cl10, Ar10, q10, S10, M10, H10, G10⟩ := id F6
  refine own_iaload X8 hx (pc' := 28) hZ (v := (3 : Int32)) e8 Ar10 (inb_of S10 i3.1) (Has.at H10 (inb_of S10 i3.1) (own_get3 hs hv _)) (hb hby d9_27) rfl ?_
  refine own_istore X8 hx (pc' := 30) (Ls' := #[.val (.ref sl), .val (.ref sa), .val (.int (1 : Int32)), .val (.long q), .second, .val (.int s0), .val (.int (3 : Int32))]) (hb hby d9_28) rfl rfl ?_
  refine own_iloadN X8 hx (pc' := 31) (hb hby d9_30) rfl rfl ?_
  refine own_ifNo X8 hx (pc' := 34) (hb hby d9_31) (feq (by decide : ¬ ((1 : Int32) = (0 : Int32)))).1 rfl ?_
  refine own_iload X8 hx (pc' := 36) (hb hby d9_34) rfl rfl ?_
  refine own_iconst X8 hx (pc' := 37) (3 : Int32) (hb hby d9_36) rfl rfl ?_
  refine own_icmpYes X8 hx (pc' := 50) (hb hby d9_37) (teq (by decide : (3 : Int32) = (3 : Int32))).1 (by decide) (by decide) ?_
  refine own_aloadN X8 hx (pc' := 51) (hb hby d9_50) rfl rfl rfl ?_
  refine own_iload X8 hx (pc' := 53) (hb hby d9_51) rfl rfl ?_
  refine own_iloadN X8 hx (pc' := 54) (hb hby d9_53) rfl rfl ?_
  refine own_ifNo X8 hx (pc' := 57) (hb hby d9_54) (feq (by decide : ¬ ((1 : Int32) = (0 : Int32)))).1 rfl ?_
  refine own_iconst X8 hx (pc' := 58) (2 : Int32) (hb hby d9_57) rfl rfl ?_
  refine own_goto X8 hx (pc' := 62) (hb hby d9_58) (by decide) (by decide) ?_
  obtain ⟨cl11, Ar11, q11, S11, M11, H11, G11⟩ := id F6
  refine own_stI X8 hx (pc' := 63) hZ e8 Ar11 (inb_of S11 i3.1) (hb hby d9_62) rfl (fun T12 h12 X12 e12 W12 => ?_)
  have N13 := Fr.snoc X12 N9 g_sa
  have Z14 : n0 ≤ h12.size := Nat.le_trans Z4 (Nat.le_of_eq (Wr.size W12).symm)
  have K15 : Keep h0 h12 [sl, hd, an, fr, ag, sa] := K5.wr W12 (Or.inl (List.mem_of_getElem? (i := 5) rfl))
  have F16 : Arv Z h12 sa ks .int (5 : Int32) ([(.int v0), (.int v1), (.int v2), (.int v3), (.int v4)].set (s0 : Int32).toNatClampNeg (.int (2 : Int32))) (.int (0 : Int32)) := (Arv.set Ar11 q11 S11 M11 H11 G11 rfl W12 (s0 : Int32).toNatClampNeg rfl i3.2.2)
  have F17 := (Exa.wr W12 F7)
  have F18 := (Exa.wr W12 Ek2)
  have F19 := (Fld.other W12 Fk2 (Or.inl ne_rk))
  have F20 := (own_S_wr SS2 W12 ⟨hsa.1, hsa.2.1, hsa.2.2.1, hsa.2.2.2.1, hsa.2.2.2.2⟩)
  refine own_iconst X12 hx (pc' := 64) (1 : Int32) (hb hby d9_63) rfl rfl ?_
  refine own_retN X12 hx hlk hret (by simp) (hb hby d9_64) (by decide) (by decide) ?_
  obtain ⟨w0, w1, w2, ew, u0, u1, u2⟩ := own_set3 s0 2 v0 v1 v2 v3 v4 hs
  have Vw := F16
  rw [ew] at Vw
  rw [e12]
  exact ⟨by decide, N13, K15, w0, w1, w2, u0, u1, u2, F20, Vw⟩

def Qtf2 (Z : State) (sl hd an fr ag : Addr) (kh ka kf kg : ClassId) (t : Int32) (g : Int64) (s0 s1 : Int32) (sa : Addr) (ks : ClassId) (v0 v1 v2 v3 v4 : Int32) (h0 : Heap) (n0 : Nat) (v : Option Value) (h : Heap) (L : List Loc) : Prop := v = some (.int (1 : Int32)) ∧ Fr n0 L ∧ Keep h0 h [sl, hd, an, fr, ag, sa] ∧ ∃ w0 w1 w2 : Int32, own_up s1 2 v0 w0 0 ∧ own_up s1 2 v1 w1 1 ∧ own_up s1 2 v2 w2 2 ∧ own_S Z h sl hd an fr ag kh ka kf kg t (1 : Int32) (g ||| ((1 : Int64) <<< (s1 &&& 0x3f).toInt64)) s0 s1 ∧ Arv Z h sa ks .int (5 : Int32) [(.int w0), (.int w1), (.int w2), (.int v3), (.int v4)] (.int (0 : Int32))
theorem ef_rm_tf2 (m : MethodId) (x0 : Addr) (x1 : Addr) (x2 : Int32) (x3 : Int64) : entryFrame m #[(.ref x0), (.ref x1), (.int x2), (.long x3)] 7 = mkF m 0 #[.val (.ref x0), .val (.ref x1), .val (.int x2), .val (.long x3), .second, .unset, .unset] [] := by first | (simp [entryFrame, mkF, argsToLocals, Value.category, maxLocals]; done) | rfl
set_option maxRecDepth 65536 in
set_option maxHeartbeats 40000000 in
theorem rm_tf2 (l : Launch) (Z : State) (a0 : Array Value) (hw : ∀ d ∈ tables_1, d.before a0 Z = true) (ws : List Jvm.Cond) (sl hd an fr ag : Addr) (kh ka kf kg : ClassId) (t : Int32) (g : Int64) (s0 s1 : Int32) (sa : Addr) (ks : ClassId) (v0 v1 v2 v3 v4 : Int32) (q : Int64) (h0 : Heap) (n0 : Nat) (Z0 : n0 ≤ h0.size) (g_sa : n0 ≤ sa) (hsa : sl ≠ sa ∧ hd ≠ sa ∧ an ≠ sa ∧ fr ≠ sa ∧ ag ≠ sa) (DD : own_D Z n0 sl hd an fr ag kh) (hs : s1 = 0 ∨ s1 = 1 ∨ s1 = 2) (hv : (s1 = 0 → v0 = 3) ∧ (s1 = 1 → v1 = 3) ∧ (s1 = 2 → v2 = 3)) (V_s : Arv Z h0 sa ks .int (5 : Int32) [(.int v0), (.int v1), (.int v2), (.int v3), (.int v4)] (.int (0 : Int32))) (SS : own_S Z h0 sl hd an fr ag kh ka kf kg t (2 : Int32) g s0 s1) :
    MetFree l (⟨"com/example/pandarus/pandarus/SlotsInOrderPinLaw", "take", "(Lcom/example/pandarus/pandarus/Slots;[IZJ)Z"⟩ : MethodName) (head1 (Jvm.Cond.code (⟨"com/example/pandarus/pandarus/SlotsInOrderPinLaw", "take", "(Lcom/example/pandarus/pandarus/Slots;[IZJ)Z"⟩ : MethodName) method_4_code 7 (some .boolean) :: ws) ({ frames := 4, cells := 1, slots := 3, locals := 66 } : Room)) (fun aa U => aa = #[(.ref sl), (.ref sa), (.int (1 : Int32)), (.long q)] ∧ Z.Warmed39 U.vm ∧ U.heap = h0) (fun _ _ _ _ _ => True) (fun _ U o U' => ∃ v L, o = .returned v ∧ Qtf2 Z sl hd an fr ag kh ka kf kg t g s0 s1 sa ks v0 v1 v2 v3 v4 h0 n0 v U'.heap L ∧ FrameEnd U o U' L (({ frames := 4, cells := 1, slots := 3, locals := 66 } : Room).cells) (({ frames := 4, cells := 1, slots := 3, locals := 66 } : Room).slots)) := by
  refine own_body pf_8 ?_
  intro p e s m below meth c s₁ hx hby hml hown hnm hlk hret hZ X0 e0
  have N0 : Fr n0 [] := Fr.nil n0
  refine own_go (f' := (mkF m 0 #[.val (.ref sl), .val (.ref sa), .val (.int (1 : Int32)), .val (.long q), .second, .unset, .unset] [])) (fun t k => castTop (ef_rm_tf2 m sl sa (1 : Int32) q) k) ?_
  have E_s := SS.1
  have K1 : Keep h0 h0 [sl, hd, an, fr, ag, sa] := Keep.refl _ _
  refine own_aloadN X0 hx (pc' := 1) (hb hby d9_0) rfl rfl rfl ?_
  refine own_aconstNull X0 hx (pc' := 2) (hb hby d9_1) rfl ?_
  refine own_lloadN X0 hx (pc' := 3) (hb hby d9_2) rfl rfl ?_
  refine own_callV X0 hx (pc' := 6) hZ hown (Wd23 hw) (Wd25 hw) (Wd26 hw) (Wd27 hw) (Wd2 hw) (by decide) (rm_h2 l Z a0 hw [] sl hd an fr ag kh ka kf kg t g s0 s1 q h0 n0 Z0 ⟨(own_in3 hs).2.1.1, Int.le_trans (own_in3 hs).2.1.2 (by decide)⟩ DD SS) e0 E_s 0 (by decide) (by decide) (by decide) (by decide) [.null, (.long q)] [] (by rw [hml]; rfl) (lenOf pd_4 rfl) rfl rfl (Nat.le_of_eq rfl) (hb hby d9_3) rfl (fun v2 T2 L2 X2 hQ2 => ?_)
  obtain ⟨rk, rfl, gs2, Nq2, K2, Ek2, Fk2, SS2⟩ := hQ2
  have N3 := Fr.app N0 Nq2
  have ne_rk : rk ≠ sa := Ne.symm (Nat.ne_of_lt (Nat.lt_of_lt_of_le V_s.lt gs2))
  have Z4 : n0 ≤ T2.heap.size := Nat.le_trans Z0 K2.1
  have K5 : Keep h0 T2.heap [sl, hd, an, fr, ag, sa] := Keep.trans K1 K2 (allS (Or.inl (List.mem_of_getElem? (i := 0) rfl)) (allS (Or.inl (List.mem_of_getElem? (i := 1) rfl)) (allS (Or.inl (List.mem_of_getElem? (i := 2) rfl)) (allS (Or.inl (List.mem_of_getElem? (i := 3) rfl)) (allS (Or.inl (List.mem_of_getElem? (i := 4) rfl)) all0)))))
  have F6 := (V_s.keep K2 (ninS (Ne.symm hsa.1) (ninS (Ne.symm hsa.2.1) (ninS (Ne.symm hsa.2.2.1) (ninS (Ne.symm hsa.2.2.2.1) (ninS (Ne.symm hsa.2.2.2.2) nin0))))))
  have F7 := (Exa.keep E_s K2)
  show own_G p.tables e below _ T2 (mkF m 6 #[.val (.ref sl), .val (.ref sa), .val (.int (1 : Int32)), .val (.long q), .second, .unset, .unset] [(.ref rk)])
  refine own_callV X2 hx (pc' := 9) hZ hown (Wd70 hw) (Wd63 hw) (Wd64 hw) (Wd65 hw) (Wd33 hw) (by decide) (rm_slot l Z a0 hw [] rk s1 T2.heap n0 Z4 Fk2) rfl Ek2 0 (by decide) (by decide) (by decide) (by decide) [] [] (by rw [hml]; rfl) (lenOf pd_2 rfl) rfl rfl (Nat.le_of_eq rfl) (hb hby d9_6) rfl (fun v8 T8 L8 X8 hQ8 => ?_)
  obtain ⟨rfl, Nq8, e8⟩ := hQ8
  have N9 := Fr.app N3 Nq8
  show own_G p.tables e below _ T8 (mkF m 9 #[.val (.ref sl), .val (.ref sa), .val (.int (1 : Int32)), .val (.long q), .second, .unset, .unset] [(.int s1)])
  refine own_istore X8 hx (pc' := 11) (Ls' := #[.val (.ref sl), .val (.ref sa), .val (.int (1 : Int32)), .val (.long q), .second, .val (.int s1), .unset]) (hb hby d9_9) rfl rfl ?_
  have i3 := own_in3 hs
  have hr1 : ¬ (s1 < (0 : Int32)) := i3.1.1
  have hr2 : ¬ ((4 : Int32) < s1) := by rw [Int32.lt_iff_toInt_lt, own_t32_4]; omega
  refine own_iload X8 hx (pc' := 13) (hb hby d9_11) rfl rfl ?_
  refine own_ifNo X8 hx (pc' := 16) (hb hby d9_13) (flt hr1).1 rfl ?_
  refine own_iload X8 hx (pc' := 18) (hb hby d9_16) rfl rfl ?_
  refine own_iconst X8 hx (pc' := 19) (4 : Int32) (hb hby d9_18) rfl rfl ?_
  refine own_icmpYes X8 hx (pc' := 24) (hb hby d9_19) (flt hr2).2.2.2 (by decide) (by decide) ?_
  refine own_aloadN X8 hx (pc' := 25) (hb hby d9_24) rfl rfl rfl ?_
  refine own_iload X8 hx (pc' := 27) (hb hby d9_25) rfl rfl ?_
  obtain ⟨cl10, Ar10, q10, S10, M10, H10, G10⟩ := id F6
  refine own_iaload X8 hx (pc' := 28) hZ (v := (3 : Int32)) e8 Ar10 (inb_of S10 i3.1) (Has.at H10 (inb_of S10 i3.1) (own_get3 hs hv _)) (hb hby d9_27) rfl ?_
  refine own_istore X8 hx (pc' := 30) (Ls' := #[.val (.ref sl), .val (.ref sa), .val (.int (1 : Int32)), .val (.long q), .second, .val (.int s1), .val (.int (3 : Int32))]) (hb hby d9_28) rfl rfl ?_
  refine own_iloadN X8 hx (pc' := 31) (hb hby d9_30) rfl rfl ?_
  refine own_ifNo X8 hx (pc' := 34) (hb hby d9_31) (feq (by decide : ¬ ((1 : Int32) = (0 : Int32)))).1 rfl ?_
  refine own_iload X8 hx (pc' := 36) (hb hby d9_34) rfl rfl ?_
  refine own_iconst X8 hx (pc' := 37) (3 : Int32) (hb hby d9_36) rfl rfl ?_
  refine own_icmpYes X8 hx (pc' := 50) (hb hby d9_37) (teq (by decide : (3 : Int32) = (3 : Int32))).1 (by decide) (by decide) ?_
  refine own_aloadN X8 hx (pc' := 51) (hb hby d9_50) rfl rfl rfl ?_
  refine own_iload X8 hx (pc' := 53) (hb hby d9_51) rfl rfl ?_
  refine own_iloadN X8 hx (pc' := 54) (hb hby d9_53) rfl rfl ?_
  refine own_ifNo X8 hx (pc' := 57) (hb hby d9_54) (feq (by decide : ¬ ((1 : Int32) = (0 : Int32)))).1 rfl ?_
  refine own_iconst X8 hx (pc' := 58) (2 : Int32) (hb hby d9_57) rfl rfl ?_
  refine own_goto X8 hx (pc' := 62) (hb hby d9_58) (by decide) (by decide) ?_
  obtain ⟨cl11, Ar11, q11, S11, M11, H11, G11⟩ := id F6
  refine own_stI X8 hx (pc' := 63) hZ e8 Ar11 (inb_of S11 i3.1) (hb hby d9_62) rfl (fun T12 h12 X12 e12 W12 => ?_)
  have N13 := Fr.snoc X12 N9 g_sa
  have Z14 : n0 ≤ h12.size := Nat.le_trans Z4 (Nat.le_of_eq (Wr.size W12).symm)
  have K15 : Keep h0 h12 [sl, hd, an, fr, ag, sa] := K5.wr W12 (Or.inl (List.mem_of_getElem? (i := 5) rfl))
  have F16 : Arv Z h12 sa ks .int (5 : Int32) ([(.int v0), (.int v1), (.int v2), (.int v3), (.int v4)].set (s1 : Int32).toNatClampNeg (.int (2 : Int32))) (.int (0 : Int32)) := (Arv.set Ar11 q11 S11 M11 H11 G11 rfl W12 (s1 : Int32).toNatClampNeg rfl i3.2.2)
  have F17 := (Exa.wr W12 F7)
  have F18 := (Exa.wr W12 Ek2)
  have F19 := (Fld.other W12 Fk2 (Or.inl ne_rk))
  have F20 := (own_S_wr SS2 W12 ⟨hsa.1, hsa.2.1, hsa.2.2.1, hsa.2.2.2.1, hsa.2.2.2.2⟩)
  refine own_iconst X12 hx (pc' := 64) (1 : Int32) (hb hby d9_63) rfl rfl ?_
  refine own_retN X12 hx hlk hret (by simp) (hb hby d9_64) (by decide) (by decide) ?_
  obtain ⟨w0, w1, w2, ew, u0, u1, u2⟩ := own_set3 s1 2 v0 v1 v2 v3 v4 hs
  have Vw := F16
  rw [ew] at Vw
  rw [e12]
  exact ⟨by decide, N13, K15, w0, w1, w2, u0, u1, u2, F20, Vw⟩

theorem d6_0 : decode method_3_code 0 = .ok (.iload_n 0, 1) := by decide +kernel
theorem d6_1 : decode method_3_code 1 = .ok (.ifCond .ne 7, 3) := by decide +kernel
theorem d6_4 : decode method_3_code 4 = .ok (.aload_n 1, 1) := by decide +kernel
theorem d6_5 : decode method_3_code 5 = .ok (.goto 13, 3) := by decide +kernel
theorem d6_8 : decode method_3_code 8 = .ok (.iload_n 0, 1) := by decide +kernel
theorem d6_9 : decode method_3_code 9 = .ok (.iconst 1, 1) := by decide +kernel
theorem d6_10 : decode method_3_code 10 = .ok (.if_icmp .ne 7, 3) := by decide +kernel
theorem d6_13 : decode method_3_code 13 = .ok (.aload_n 2, 1) := by decide +kernel
theorem d6_14 : decode method_3_code 14 = .ok (.goto 4, 3) := by decide +kernel
theorem d6_17 : decode method_3_code 17 = .ok (.aload_n 3, 1) := by decide +kernel
theorem d6_18 : decode method_3_code 18 = .ok (.areturn, 1) := by decide +kernel
def Qpk (x : Int32) (r0 r1 r2 : Addr) (h0 : Heap) (n0 : Nat) (v : Option Value) (h : Heap) (L : List Loc) : Prop := v = some (.ref (own_pk x r0 r1 r2)) ∧ Fr n0 L ∧ h = h0
theorem ef_rm_pk (m : MethodId) (x0 : Int32) (x1 : Addr) (x2 : Addr) (x3 : Addr) : entryFrame m #[(.int x0), (.ref x1), (.ref x2), (.ref x3)] 4 = mkF m 0 #[.val (.int x0), .val (.ref x1), .val (.ref x2), .val (.ref x3)] [] := by first | (simp [entryFrame, mkF, argsToLocals, Value.category, maxLocals]; done) | rfl
theorem pf_9 : plainFor (⟨"com/example/pandarus/pandarus/SlotsInOrderPinLaw", "pick", "(ILcom/example/pandarus/pandarus/Ranked;Lcom/example/pandarus/pandarus/Ranked;Lcom/example/pandarus/pandarus/Ranked;)Lcom/example/pandarus/pandarus/Ranked;"⟩ : MethodName) = true := by apply plainFor_of_name; first | (simp [plainName, overriddenIn]; done) | decide +kernel
set_option maxRecDepth 65536 in
set_option maxHeartbeats 40000000 in
theorem rm_pk (l : Launch) (Z : State) (a0 : Array Value) (hw : ∀ d ∈ tables_1, d.before a0 Z = true) (ws : List Jvm.Cond) (x : Int32) (r0 r1 r2 : Addr) (h0 : Heap) (n0 : Nat) (Z0 : n0 ≤ h0.size)  :
    MetFree l (⟨"com/example/pandarus/pandarus/SlotsInOrderPinLaw", "pick", "(ILcom/example/pandarus/pandarus/Ranked;Lcom/example/pandarus/pandarus/Ranked;Lcom/example/pandarus/pandarus/Ranked;)Lcom/example/pandarus/pandarus/Ranked;"⟩ : MethodName) (head1 (Jvm.Cond.code (⟨"com/example/pandarus/pandarus/SlotsInOrderPinLaw", "pick", "(ILcom/example/pandarus/pandarus/Ranked;Lcom/example/pandarus/pandarus/Ranked;Lcom/example/pandarus/pandarus/Ranked;)Lcom/example/pandarus/pandarus/Ranked;"⟩ : MethodName) method_3_code 4 (some (.object "com/example/pandarus/pandarus/Ranked")) :: ws) ({ frames := 0, cells := 0, slots := 0, locals := 0 } : Room)) (fun aa U => aa = #[(.int x), (.ref r0), (.ref r1), (.ref r2)] ∧ Z.Warmed39 U.vm ∧ U.heap = h0) (fun _ _ _ _ _ => True) (fun _ U o U' => ∃ v L, o = .returned v ∧ Qpk x r0 r1 r2 h0 n0 v U'.heap L ∧ FrameEnd U o U' L (({ frames := 0, cells := 0, slots := 0, locals := 0 } : Room).cells) (({ frames := 0, cells := 0, slots := 0, locals := 0 } : Room).slots)) := by
  refine own_body pf_9 ?_
  intro p e s m below meth c s₁ hx hby hml hown hnm hlk hret hZ X0 e0
  have N0 : Fr n0 [] := Fr.nil n0
  refine own_go (f' := (mkF m 0 #[.val (.int x), .val (.ref r0), .val (.ref r1), .val (.ref r2)] [])) (fun t k => castTop (ef_rm_pk m x r0 r1 r2) k) ?_
  refine own_iloadN X0 hx (pc' := 1) (hb hby d6_0) rfl rfl ?_
  by_cases hc1_1 : x = (0 : Int32)
  · skip
    refine own_ifNo X0 hx (pc' := 4) (hb hby d6_1) (teq hc1_1).2 rfl ?_
    refine own_aloadN X0 hx (pc' := 5) (hb hby d6_4) rfl rfl rfl ?_
    refine own_goto X0 hx (pc' := 18) (hb hby d6_5) (by decide) (by decide) ?_
    refine own_retA X0 hx hlk hret rfl rfl rfl (hb hby d6_18) (by decide) (by decide) ?_
    exact ⟨by simp [own_pk, hc1_1], N0, e0⟩
  · skip
    refine own_ifYes X0 hx (pc' := 8) (hb hby d6_1) (feq hc1_1).2 (by decide) (by decide) ?_
    refine own_iloadN X0 hx (pc' := 9) (hb hby d6_8) rfl rfl ?_
    refine own_iconst X0 hx (pc' := 10) (1 : Int32) (hb hby d6_9) rfl rfl ?_
    by_cases hc10_2 : x = (1 : Int32)
    · skip
      refine own_icmpNo X0 hx (pc' := 13) (hb hby d6_10) (teq hc10_2).2 rfl ?_
      refine own_aloadN X0 hx (pc' := 14) (hb hby d6_13) rfl rfl rfl ?_
      refine own_goto X0 hx (pc' := 18) (hb hby d6_14) (by decide) (by decide) ?_
      refine own_retA X0 hx hlk hret rfl rfl rfl (hb hby d6_18) (by decide) (by decide) ?_
      exact ⟨by simp [own_pk, hc1_1, hc10_2], N0, e0⟩
    · skip
      refine own_icmpYes X0 hx (pc' := 17) (hb hby d6_10) (feq hc10_2).2 (by decide) (by decide) ?_
      refine own_aloadN X0 hx (pc' := 18) (hb hby d6_17) rfl rfl rfl ?_
      refine own_retA X0 hx hlk hret rfl rfl rfl (hb hby d6_18) (by decide) (by decide) ?_
      exact ⟨by simp [own_pk, hc1_1, hc10_2], N0, e0⟩

def Q0 (n0 : Nat) (v : Option Value) (h : Heap) (L : List Loc) : Prop := v = some (.int 1) ∧ Fr n0 L
theorem ef_rm0 (m : MethodId) (x0 : Int32) (x1 : Int32) (x2 : Int32) (x3 : Int32) : entryFrame m #[(.int x0), (.int x1), (.int x2), (.int x3)] maxLocals = mkF m 0 #[.val (.int x0), .val (.int x1), .val (.int x2), .val (.int x3), .unset, .unset, .unset, .unset, .unset, .unset, .unset, .unset, .unset, .unset] [] := by first | (simp [entryFrame, mkF, argsToLocals, Value.category, maxLocals]; done) | rfl
theorem pf_10 : plainFor (⟨"com/example/pandarus/pandarus/SlotsInOrderPinLaw", "law", "(IIII)Z"⟩ : MethodName) = true := by apply plainFor_of_name; first | (simp [plainName, overriddenIn]; done) | decide +kernel
theorem Wd0 {a0 : Array Value} {Z : State} (hw : ∀ d ∈ tables_1, d.before a0 Z = true) : (Jvm.Cond.classLink "com/example/pandarus/pandarus/SlotsInOrderPinLaw" (7 : Nat) "com/example/pandarus/pandarus/Slots").before a0 Z = true := hw _ (List.mem_of_getElem? (i := 0) rfl)
theorem Wd5 {a0 : Array Value} {Z : State} (hw : ∀ d ∈ tables_1, d.before a0 Z = true) : (Jvm.Cond.code ({ cls := "com/example/pandarus/pandarus/Slots", name := "<init>", desc := "()V" } : Jvm.MethodName) prog_65_method_1_code (1 : Nat) (Option.none : Option Jvm.ClassFile.FieldType)).before a0 Z = true := hw _ (List.mem_of_getElem? (i := 5) rfl)
theorem Wd3 {a0 : Array Value} {Z : State} (hw : ∀ d ∈ tables_1, d.before a0 Z = true) : (Jvm.Cond.methodLink "com/example/pandarus/pandarus/SlotsInOrderPinLaw" (9 : Nat) ({ cls := "com/example/pandarus/pandarus/Slots", name := "<init>", desc := "()V" } : Jvm.MethodName)).before a0 Z = true := hw _ (List.mem_of_getElem? (i := 3) rfl)
theorem Wd4 {a0 : Array Value} {Z : State} (hw : ∀ d ∈ tables_1, d.before a0 Z = true) : (Jvm.Cond.instanceMethod ({ cls := "com/example/pandarus/pandarus/Slots", name := "<init>", desc := "()V" } : Jvm.MethodName)).before a0 Z = true := hw _ (List.mem_of_getElem? (i := 4) rfl)
theorem Wd50 {a0 : Array Value} {Z : State} (hw : ∀ d ∈ tables_1, d.before a0 Z = true) : (Jvm.Cond.constantLong "com/example/pandarus/pandarus/SlotsInOrderPinLaw" (14 : Nat) (2 : Int64)).before a0 Z = true := hw _ (List.mem_of_getElem? (i := 50) rfl)
theorem Wd73 {a0 : Array Value} {Z : State} (hw : ∀ d ∈ tables_1, d.before a0 Z = true) : (Jvm.Cond.code ({ cls := "com/example/pandarus/pandarus/SlotsInOrderPinLaw", name := "check", desc := "(Lcom/example/pandarus/pandarus/Slots;[II)Z" } : Jvm.MethodName) method_5_code (3 : Nat) (Option.some Jvm.ClassFile.FieldType.boolean)).before a0 Z = true := hw _ (List.mem_of_getElem? (i := 73) rfl)
theorem Wd54 {a0 : Array Value} {Z : State} (hw : ∀ d ∈ tables_1, d.before a0 Z = true) : (Jvm.Cond.initialized "com/example/pandarus/pandarus/SlotsInOrderPinLaw").before a0 Z = true := hw _ (List.mem_of_getElem? (i := 54) rfl)
theorem pd_5 : parseMethodDescriptor "(Lcom/example/pandarus/pandarus/Slots;[II)Z" = some ⟨[(.object "com/example/pandarus/pandarus/Slots"), (.array .int), .int], some .boolean⟩ := by decide +kernel
theorem Wd71 {a0 : Array Value} {Z : State} (hw : ∀ d ∈ tables_1, d.before a0 Z = true) : (Jvm.Cond.methodLink "com/example/pandarus/pandarus/SlotsInOrderPinLaw" (35 : Nat) ({ cls := "com/example/pandarus/pandarus/SlotsInOrderPinLaw", name := "check", desc := "(Lcom/example/pandarus/pandarus/Slots;[II)Z" } : Jvm.MethodName)).before a0 Z = true := hw _ (List.mem_of_getElem? (i := 71) rfl)
theorem Wd72 {a0 : Array Value} {Z : State} (hw : ∀ d ∈ tables_1, d.before a0 Z = true) : (Jvm.Cond.static ({ cls := "com/example/pandarus/pandarus/SlotsInOrderPinLaw", name := "check", desc := "(Lcom/example/pandarus/pandarus/Slots;[II)Z" } : Jvm.MethodName)).before a0 Z = true := hw _ (List.mem_of_getElem? (i := 72) rfl)
theorem Wd51 {a0 : Array Value} {Z : State} (hw : ∀ d ∈ tables_1, d.before a0 Z = true) : (Jvm.Cond.constant "com/example/pandarus/pandarus/SlotsInOrderPinLaw" (16 : Nat) (2147483647 : Int32)).before a0 Z = true := hw _ (List.mem_of_getElem? (i := 51) rfl)
theorem own_fin1 (x y : Int32) (hx3 : x = 0 ∨ x = 1 ∨ x = 2) (hy3 : y = 0 ∨ y = 1 ∨ y = 2) (hxy : x ≠ y)  : ((1 : Int32) = 1 → own_bit (0 : Int64) (0 : Int32) = 1) ∧ ((1 : Int32) = 2 → own_bit (0 : Int64) (0 : Int32) = 0) := by
  rcases hx3 with rfl | rfl | rfl <;> rcases hy3 with rfl | rfl | rfl
  all_goals first | (exfalso; revert hxy; decide) | skip
  all_goals decide
theorem own_fin2 (x y : Int32) (hx3 : x = 0 ∨ x = 1 ∨ x = 2) (hy3 : y = 0 ∨ y = 1 ∨ y = 2) (hxy : x ≠ y)  : ((1 : Int32) = 1 → own_bit (0 : Int64) (1 : Int32) = 1) ∧ ((1 : Int32) = 2 → own_bit (0 : Int64) (1 : Int32) = 0) := by
  rcases hx3 with rfl | rfl | rfl <;> rcases hy3 with rfl | rfl | rfl
  all_goals first | (exfalso; revert hxy; decide) | skip
  all_goals decide
theorem own_fin3 (x y : Int32) (hx3 : x = 0 ∨ x = 1 ∨ x = 2) (hy3 : y = 0 ∨ y = 1 ∨ y = 2) (hxy : x ≠ y)  : ((1 : Int32) = 1 → own_bit (0 : Int64) (2 : Int32) = 1) ∧ ((1 : Int32) = 2 → own_bit (0 : Int64) (2 : Int32) = 0) := by
  rcases hx3 with rfl | rfl | rfl <;> rcases hy3 with rfl | rfl | rfl
  all_goals first | (exfalso; revert hxy; decide) | skip
  all_goals decide
theorem own_fin4 (x y : Int32) (hx3 : x = 0 ∨ x = 1 ∨ x = 2) (hy3 : y = 0 ∨ y = 1 ∨ y = 2) (hxy : x ≠ y)  : ((0 : Int32) = 1 → own_bit (0 : Int64) (3 : Int32) = 1) ∧ ((0 : Int32) = 2 → own_bit (0 : Int64) (3 : Int32) = 0) := by
  rcases hx3 with rfl | rfl | rfl <;> rcases hy3 with rfl | rfl | rfl
  all_goals first | (exfalso; revert hxy; decide) | skip
  all_goals decide
theorem own_fin5 (x y : Int32) (hx3 : x = 0 ∨ x = 1 ∨ x = 2) (hy3 : y = 0 ∨ y = 1 ∨ y = 2) (hxy : x ≠ y)  : ((0 : Int32) = 1 → own_bit (0 : Int64) (4 : Int32) = 1) ∧ ((0 : Int32) = 2 → own_bit (0 : Int64) (4 : Int32) = 0) := by
  rcases hx3 with rfl | rfl | rfl <;> rcases hy3 with rfl | rfl | rfl
  all_goals first | (exfalso; revert hxy; decide) | skip
  all_goals decide
theorem Wd66 {a0 : Array Value} {Z : State} (hw : ∀ d ∈ tables_1, d.before a0 Z = true) : (Jvm.Cond.constantLong "com/example/pandarus/pandarus/SlotsInOrderPinLaw" (27 : Nat) (3 : Int64)).before a0 Z = true := hw _ (List.mem_of_getElem? (i := 66) rfl)
theorem Wd69 {a0 : Array Value} {Z : State} (hw : ∀ d ∈ tables_1, d.before a0 Z = true) : (Jvm.Cond.code ({ cls := "com/example/pandarus/pandarus/SlotsInOrderPinLaw", name := "take", desc := "(Lcom/example/pandarus/pandarus/Slots;[IZJ)Z" } : Jvm.MethodName) method_4_code (7 : Nat) (Option.some Jvm.ClassFile.FieldType.boolean)).before a0 Z = true := hw _ (List.mem_of_getElem? (i := 69) rfl)
theorem pd_6 : parseMethodDescriptor "(Lcom/example/pandarus/pandarus/Slots;[IZJ)Z" = some ⟨[(.object "com/example/pandarus/pandarus/Slots"), (.array .int), .boolean, .long], some .boolean⟩ := by decide +kernel
theorem Wd67 {a0 : Array Value} {Z : State} (hw : ∀ d ∈ tables_1, d.before a0 Z = true) : (Jvm.Cond.methodLink "com/example/pandarus/pandarus/SlotsInOrderPinLaw" (29 : Nat) ({ cls := "com/example/pandarus/pandarus/SlotsInOrderPinLaw", name := "take", desc := "(Lcom/example/pandarus/pandarus/Slots;[IZJ)Z" } : Jvm.MethodName)).before a0 Z = true := hw _ (List.mem_of_getElem? (i := 67) rfl)
theorem Wd68 {a0 : Array Value} {Z : State} (hw : ∀ d ∈ tables_1, d.before a0 Z = true) : (Jvm.Cond.static ({ cls := "com/example/pandarus/pandarus/SlotsInOrderPinLaw", name := "take", desc := "(Lcom/example/pandarus/pandarus/Slots;[IZJ)Z" } : Jvm.MethodName)).before a0 Z = true := hw _ (List.mem_of_getElem? (i := 68) rfl)
theorem own_fin6 (x y : Int32) (hx3 : x = 0 ∨ x = 1 ∨ x = 2) (hy3 : y = 0 ∨ y = 1 ∨ y = 2) (hxy : x ≠ y)  : ((1 : Int32) = 1 → own_bit (0 : Int64) (0 : Int32) = 1) ∧ ((1 : Int32) = 2 → own_bit (0 : Int64) (0 : Int32) = 0) := by
  rcases hx3 with rfl | rfl | rfl <;> rcases hy3 with rfl | rfl | rfl
  all_goals first | (exfalso; revert hxy; decide) | skip
  all_goals decide
theorem own_fin7 (x y : Int32) (hx3 : x = 0 ∨ x = 1 ∨ x = 2) (hy3 : y = 0 ∨ y = 1 ∨ y = 2) (hxy : x ≠ y)  : ((1 : Int32) = 1 → own_bit (0 : Int64) (1 : Int32) = 1) ∧ ((1 : Int32) = 2 → own_bit (0 : Int64) (1 : Int32) = 0) := by
  rcases hx3 with rfl | rfl | rfl <;> rcases hy3 with rfl | rfl | rfl
  all_goals first | (exfalso; revert hxy; decide) | skip
  all_goals decide
theorem own_fin8 (x y : Int32) (hx3 : x = 0 ∨ x = 1 ∨ x = 2) (hy3 : y = 0 ∨ y = 1 ∨ y = 2) (hxy : x ≠ y)  : ((1 : Int32) = 1 → own_bit (0 : Int64) (2 : Int32) = 1) ∧ ((1 : Int32) = 2 → own_bit (0 : Int64) (2 : Int32) = 0) := by
  rcases hx3 with rfl | rfl | rfl <;> rcases hy3 with rfl | rfl | rfl
  all_goals first | (exfalso; revert hxy; decide) | skip
  all_goals decide
theorem own_fin9 (x y : Int32) (hx3 : x = 0 ∨ x = 1 ∨ x = 2) (hy3 : y = 0 ∨ y = 1 ∨ y = 2) (hxy : x ≠ y)  : ((1 : Int32) = 1 → own_bit (0 : Int64) (3 : Int32) = 1) ∧ ((1 : Int32) = 2 → own_bit (0 : Int64) (3 : Int32) = 0) := by
  rcases hx3 with rfl | rfl | rfl <;> rcases hy3 with rfl | rfl | rfl
  all_goals first | (exfalso; revert hxy; decide) | skip
  all_goals decide
theorem own_fin10 (x y : Int32) (hx3 : x = 0 ∨ x = 1 ∨ x = 2) (hy3 : y = 0 ∨ y = 1 ∨ y = 2) (hxy : x ≠ y)  : ((0 : Int32) = 1 → own_bit (0 : Int64) (4 : Int32) = 1) ∧ ((0 : Int32) = 2 → own_bit (0 : Int64) (4 : Int32) = 0) := by
  rcases hx3 with rfl | rfl | rfl <;> rcases hy3 with rfl | rfl | rfl
  all_goals first | (exfalso; revert hxy; decide) | skip
  all_goals decide
theorem Wd79 {a0 : Array Value} {Z : State} (hw : ∀ d ∈ tables_1, d.before a0 Z = true) : (Jvm.Cond.constantLong "com/example/pandarus/pandarus/SlotsInOrderPinLaw" (33 : Nat) (4 : Int64)).before a0 Z = true := hw _ (List.mem_of_getElem? (i := 79) rfl)
theorem own_fin11 (x y : Int32) (hx3 : x = 0 ∨ x = 1 ∨ x = 2) (hy3 : y = 0 ∨ y = 1 ∨ y = 2) (hxy : x ≠ y)  : ((1 : Int32) = 1 → own_bit (0 : Int64) (0 : Int32) = 1) ∧ ((1 : Int32) = 2 → own_bit (0 : Int64) (0 : Int32) = 0) := by
  rcases hx3 with rfl | rfl | rfl <;> rcases hy3 with rfl | rfl | rfl
  all_goals first | (exfalso; revert hxy; decide) | skip
  all_goals decide
theorem own_fin12 (x y : Int32) (hx3 : x = 0 ∨ x = 1 ∨ x = 2) (hy3 : y = 0 ∨ y = 1 ∨ y = 2) (hxy : x ≠ y)  : ((1 : Int32) = 1 → own_bit (0 : Int64) (1 : Int32) = 1) ∧ ((1 : Int32) = 2 → own_bit (0 : Int64) (1 : Int32) = 0) := by
  rcases hx3 with rfl | rfl | rfl <;> rcases hy3 with rfl | rfl | rfl
  all_goals first | (exfalso; revert hxy; decide) | skip
  all_goals decide
theorem own_fin13 (x y : Int32) (hx3 : x = 0 ∨ x = 1 ∨ x = 2) (hy3 : y = 0 ∨ y = 1 ∨ y = 2) (hxy : x ≠ y)  : ((1 : Int32) = 1 → own_bit (0 : Int64) (2 : Int32) = 1) ∧ ((1 : Int32) = 2 → own_bit (0 : Int64) (2 : Int32) = 0) := by
  rcases hx3 with rfl | rfl | rfl <;> rcases hy3 with rfl | rfl | rfl
  all_goals first | (exfalso; revert hxy; decide) | skip
  all_goals decide
theorem own_fin14 (x y : Int32) (hx3 : x = 0 ∨ x = 1 ∨ x = 2) (hy3 : y = 0 ∨ y = 1 ∨ y = 2) (hxy : x ≠ y)  : ((1 : Int32) = 1 → own_bit (0 : Int64) (3 : Int32) = 1) ∧ ((1 : Int32) = 2 → own_bit (0 : Int64) (3 : Int32) = 0) := by
  rcases hx3 with rfl | rfl | rfl <;> rcases hy3 with rfl | rfl | rfl
  all_goals first | (exfalso; revert hxy; decide) | skip
  all_goals decide
theorem own_fin15 (x y : Int32) (hx3 : x = 0 ∨ x = 1 ∨ x = 2) (hy3 : y = 0 ∨ y = 1 ∨ y = 2) (hxy : x ≠ y)  : ((1 : Int32) = 1 → own_bit (0 : Int64) (4 : Int32) = 1) ∧ ((1 : Int32) = 2 → own_bit (0 : Int64) (4 : Int32) = 0) := by
  rcases hx3 with rfl | rfl | rfl <;> rcases hy3 with rfl | rfl | rfl
  all_goals first | (exfalso; revert hxy; decide) | skip
  all_goals decide
theorem Wd55 {a0 : Array Value} {Z : State} (hw : ∀ d ∈ tables_1, d.before a0 Z = true) : (Jvm.Cond.code ({ cls := "com/example/pandarus/pandarus/SlotsInOrderPinLaw", name := "pick", desc := "(ILcom/example/pandarus/pandarus/Ranked;Lcom/example/pandarus/pandarus/Ranked;Lcom/example/pandarus/pandarus/Ranked;)Lcom/example/pandarus/pandarus/Ranked;" } : Jvm.MethodName) method_3_code (4 : Nat) (Option.some (Jvm.ClassFile.FieldType.object "com/example/pandarus/pandarus/Ranked"))).before a0 Z = true := hw _ (List.mem_of_getElem? (i := 55) rfl)
theorem pd_7 : parseMethodDescriptor "(ILcom/example/pandarus/pandarus/Ranked;Lcom/example/pandarus/pandarus/Ranked;Lcom/example/pandarus/pandarus/Ranked;)Lcom/example/pandarus/pandarus/Ranked;" = some ⟨[.int, (.object "com/example/pandarus/pandarus/Ranked"), (.object "com/example/pandarus/pandarus/Ranked"), (.object "com/example/pandarus/pandarus/Ranked")], some (.object "com/example/pandarus/pandarus/Ranked")⟩ := by decide +kernel
theorem Wd52 {a0 : Array Value} {Z : State} (hw : ∀ d ∈ tables_1, d.before a0 Z = true) : (Jvm.Cond.methodLink "com/example/pandarus/pandarus/SlotsInOrderPinLaw" (17 : Nat) ({ cls := "com/example/pandarus/pandarus/SlotsInOrderPinLaw", name := "pick", desc := "(ILcom/example/pandarus/pandarus/Ranked;Lcom/example/pandarus/pandarus/Ranked;Lcom/example/pandarus/pandarus/Ranked;)Lcom/example/pandarus/pandarus/Ranked;" } : Jvm.MethodName)).before a0 Z = true := hw _ (List.mem_of_getElem? (i := 52) rfl)
theorem Wd53 {a0 : Array Value} {Z : State} (hw : ∀ d ∈ tables_1, d.before a0 Z = true) : (Jvm.Cond.static ({ cls := "com/example/pandarus/pandarus/SlotsInOrderPinLaw", name := "pick", desc := "(ILcom/example/pandarus/pandarus/Ranked;Lcom/example/pandarus/pandarus/Ranked;Lcom/example/pandarus/pandarus/Ranked;)Lcom/example/pandarus/pandarus/Ranked;" } : Jvm.MethodName)).before a0 Z = true := hw _ (List.mem_of_getElem? (i := 53) rfl)
theorem Wd60 {a0 : Array Value} {Z : State} (hw : ∀ d ∈ tables_1, d.before a0 Z = true) : (Jvm.Cond.code ({ cls := "com/example/pandarus/pandarus/Slots", name := "release", desc := "(Lcom/example/pandarus/pandarus/Ranked;)V" } : Jvm.MethodName) prog_65_method_3_code (2 : Nat) (Option.none : Option Jvm.ClassFile.FieldType)).before a0 Z = true := hw _ (List.mem_of_getElem? (i := 60) rfl)
theorem pd_8 : parseMethodDescriptor "(Lcom/example/pandarus/pandarus/Ranked;)V" = some ⟨[(.object "com/example/pandarus/pandarus/Ranked")], none⟩ := by decide +kernel
theorem Wd56 {a0 : Array Value} {Z : State} (hw : ∀ d ∈ tables_1, d.before a0 Z = true) : (Jvm.Cond.methodLink "com/example/pandarus/pandarus/SlotsInOrderPinLaw" (23 : Nat) ({ cls := "com/example/pandarus/pandarus/Slots", name := "release", desc := "(Lcom/example/pandarus/pandarus/Ranked;)V" } : Jvm.MethodName)).before a0 Z = true := hw _ (List.mem_of_getElem? (i := 56) rfl)
theorem Wd58 {a0 : Array Value} {Z : State} (hw : ∀ d ∈ tables_1, d.before a0 Z = true) : (Jvm.Cond.instanceMethod ({ cls := "com/example/pandarus/pandarus/Slots", name := "release", desc := "(Lcom/example/pandarus/pandarus/Ranked;)V" } : Jvm.MethodName)).before a0 Z = true := hw _ (List.mem_of_getElem? (i := 58) rfl)
theorem Wd59 {a0 : Array Value} {Z : State} (hw : ∀ d ∈ tables_1, d.before a0 Z = true) : (Jvm.Cond.selects "com/example/pandarus/pandarus/Slots" ({ cls := "com/example/pandarus/pandarus/Slots", name := "release", desc := "(Lcom/example/pandarus/pandarus/Ranked;)V" } : Jvm.MethodName) ({ cls := "com/example/pandarus/pandarus/Slots", name := "release", desc := "(Lcom/example/pandarus/pandarus/Ranked;)V" } : Jvm.MethodName)).before a0 Z = true := hw _ (List.mem_of_getElem? (i := 59) rfl)
theorem own_fin16 (x y : Int32) (hx3 : x = 0 ∨ x = 1 ∨ x = 2) (hy3 : y = 0 ∨ y = 1 ∨ y = 2) (hxy : x ≠ y) (wa134 wb134 wc134 : Int32) (ua134 : own_up x 3 (1 : Int32) wa134 0) (ub134 : own_up x 3 (1 : Int32) wb134 1) (uc134 : own_up x 3 (1 : Int32) wc134 2) : (wa134 = 1 → own_bit (0 : Int64) (0 : Int32) = 1) ∧ (wa134 = 2 → own_bit (0 : Int64) (0 : Int32) = 0) := by
  rcases hx3 with rfl | rfl | rfl <;> rcases hy3 with rfl | rfl | rfl
  all_goals first | (exfalso; revert hxy; decide) | skip
  all_goals (rcases ua134 with ⟨q, rfl⟩ | ⟨q, rfl⟩)
  all_goals first | (exfalso; revert q; decide) | skip
  all_goals clear q
  all_goals (rcases ub134 with ⟨q, rfl⟩ | ⟨q, rfl⟩)
  all_goals first | (exfalso; revert q; decide) | skip
  all_goals clear q
  all_goals (rcases uc134 with ⟨q, rfl⟩ | ⟨q, rfl⟩)
  all_goals first | (exfalso; revert q; decide) | skip
  all_goals clear q
  all_goals decide
theorem own_fin17 (x y : Int32) (hx3 : x = 0 ∨ x = 1 ∨ x = 2) (hy3 : y = 0 ∨ y = 1 ∨ y = 2) (hxy : x ≠ y) (wa134 wb134 wc134 : Int32) (ua134 : own_up x 3 (1 : Int32) wa134 0) (ub134 : own_up x 3 (1 : Int32) wb134 1) (uc134 : own_up x 3 (1 : Int32) wc134 2) : (wb134 = 1 → own_bit (0 : Int64) (1 : Int32) = 1) ∧ (wb134 = 2 → own_bit (0 : Int64) (1 : Int32) = 0) := by
  rcases hx3 with rfl | rfl | rfl <;> rcases hy3 with rfl | rfl | rfl
  all_goals first | (exfalso; revert hxy; decide) | skip
  all_goals (rcases ua134 with ⟨q, rfl⟩ | ⟨q, rfl⟩)
  all_goals first | (exfalso; revert q; decide) | skip
  all_goals clear q
  all_goals (rcases ub134 with ⟨q, rfl⟩ | ⟨q, rfl⟩)
  all_goals first | (exfalso; revert q; decide) | skip
  all_goals clear q
  all_goals (rcases uc134 with ⟨q, rfl⟩ | ⟨q, rfl⟩)
  all_goals first | (exfalso; revert q; decide) | skip
  all_goals clear q
  all_goals decide
theorem own_fin18 (x y : Int32) (hx3 : x = 0 ∨ x = 1 ∨ x = 2) (hy3 : y = 0 ∨ y = 1 ∨ y = 2) (hxy : x ≠ y) (wa134 wb134 wc134 : Int32) (ua134 : own_up x 3 (1 : Int32) wa134 0) (ub134 : own_up x 3 (1 : Int32) wb134 1) (uc134 : own_up x 3 (1 : Int32) wc134 2) : (wc134 = 1 → own_bit (0 : Int64) (2 : Int32) = 1) ∧ (wc134 = 2 → own_bit (0 : Int64) (2 : Int32) = 0) := by
  rcases hx3 with rfl | rfl | rfl <;> rcases hy3 with rfl | rfl | rfl
  all_goals first | (exfalso; revert hxy; decide) | skip
  all_goals (rcases ua134 with ⟨q, rfl⟩ | ⟨q, rfl⟩)
  all_goals first | (exfalso; revert q; decide) | skip
  all_goals clear q
  all_goals (rcases ub134 with ⟨q, rfl⟩ | ⟨q, rfl⟩)
  all_goals first | (exfalso; revert q; decide) | skip
  all_goals clear q
  all_goals (rcases uc134 with ⟨q, rfl⟩ | ⟨q, rfl⟩)
  all_goals first | (exfalso; revert q; decide) | skip
  all_goals clear q
  all_goals decide
theorem own_fin19 (x y : Int32) (hx3 : x = 0 ∨ x = 1 ∨ x = 2) (hy3 : y = 0 ∨ y = 1 ∨ y = 2) (hxy : x ≠ y) (wa134 wb134 wc134 : Int32) (ua134 : own_up x 3 (1 : Int32) wa134 0) (ub134 : own_up x 3 (1 : Int32) wb134 1) (uc134 : own_up x 3 (1 : Int32) wc134 2) : ((0 : Int32) = 1 → own_bit (0 : Int64) (3 : Int32) = 1) ∧ ((0 : Int32) = 2 → own_bit (0 : Int64) (3 : Int32) = 0) := by
  rcases hx3 with rfl | rfl | rfl <;> rcases hy3 with rfl | rfl | rfl
  all_goals first | (exfalso; revert hxy; decide) | skip
  all_goals (rcases ua134 with ⟨q, rfl⟩ | ⟨q, rfl⟩)
  all_goals first | (exfalso; revert q; decide) | skip
  all_goals clear q
  all_goals (rcases ub134 with ⟨q, rfl⟩ | ⟨q, rfl⟩)
  all_goals first | (exfalso; revert q; decide) | skip
  all_goals clear q
  all_goals (rcases uc134 with ⟨q, rfl⟩ | ⟨q, rfl⟩)
  all_goals first | (exfalso; revert q; decide) | skip
  all_goals clear q
  all_goals decide
theorem own_fin20 (x y : Int32) (hx3 : x = 0 ∨ x = 1 ∨ x = 2) (hy3 : y = 0 ∨ y = 1 ∨ y = 2) (hxy : x ≠ y) (wa134 wb134 wc134 : Int32) (ua134 : own_up x 3 (1 : Int32) wa134 0) (ub134 : own_up x 3 (1 : Int32) wb134 1) (uc134 : own_up x 3 (1 : Int32) wc134 2) : ((0 : Int32) = 1 → own_bit (0 : Int64) (4 : Int32) = 1) ∧ ((0 : Int32) = 2 → own_bit (0 : Int64) (4 : Int32) = 0) := by
  rcases hx3 with rfl | rfl | rfl <;> rcases hy3 with rfl | rfl | rfl
  all_goals first | (exfalso; revert hxy; decide) | skip
  all_goals (rcases ua134 with ⟨q, rfl⟩ | ⟨q, rfl⟩)
  all_goals first | (exfalso; revert q; decide) | skip
  all_goals clear q
  all_goals (rcases ub134 with ⟨q, rfl⟩ | ⟨q, rfl⟩)
  all_goals first | (exfalso; revert q; decide) | skip
  all_goals clear q
  all_goals (rcases uc134 with ⟨q, rfl⟩ | ⟨q, rfl⟩)
  all_goals first | (exfalso; revert q; decide) | skip
  all_goals clear q
  all_goals decide
theorem own_fin21 (x y : Int32) (hx3 : x = 0 ∨ x = 1 ∨ x = 2) (hy3 : y = 0 ∨ y = 1 ∨ y = 2) (hxy : x ≠ y) (wa162 wb162 wc162 : Int32) (ua162 : own_up x 3 (1 : Int32) wa162 0) (ub162 : own_up x 3 (1 : Int32) wb162 1) (uc162 : own_up x 3 (1 : Int32) wc162 2) : (x = 0 → wa162 = 3) ∧ (x = 1 → wb162 = 3) ∧ (x = 2 → wc162 = 3) := by
  rcases hx3 with rfl | rfl | rfl <;> rcases hy3 with rfl | rfl | rfl
  all_goals first | (exfalso; revert hxy; decide) | skip
  all_goals (rcases ua162 with ⟨q, rfl⟩ | ⟨q, rfl⟩)
  all_goals first | (exfalso; revert q; decide) | skip
  all_goals clear q
  all_goals (rcases ub162 with ⟨q, rfl⟩ | ⟨q, rfl⟩)
  all_goals first | (exfalso; revert q; decide) | skip
  all_goals clear q
  all_goals (rcases uc162 with ⟨q, rfl⟩ | ⟨q, rfl⟩)
  all_goals first | (exfalso; revert q; decide) | skip
  all_goals clear q
  all_goals decide
theorem own_fin22 (x y : Int32) (hx3 : x = 0 ∨ x = 1 ∨ x = 2) (hy3 : y = 0 ∨ y = 1 ∨ y = 2) (hxy : x ≠ y) (wa162 wb162 wc162 wa164 wb164 wc164 : Int32) (ua162 : own_up x 3 (1 : Int32) wa162 0) (ub162 : own_up x 3 (1 : Int32) wb162 1) (uc162 : own_up x 3 (1 : Int32) wc162 2) (ua164 : own_up x 2 wa162 wa164 0) (ub164 : own_up x 2 wb162 wb164 1) (uc164 : own_up x 2 wc162 wc164 2) : (wa164 = 1 → own_bit ((0 : Int64) ||| ((1 : Int64) <<< (x &&& 0x3f).toInt64)) (0 : Int32) = 1) ∧ (wa164 = 2 → own_bit ((0 : Int64) ||| ((1 : Int64) <<< (x &&& 0x3f).toInt64)) (0 : Int32) = 0) := by
  rcases hx3 with rfl | rfl | rfl <;> rcases hy3 with rfl | rfl | rfl
  all_goals first | (exfalso; revert hxy; decide) | skip
  all_goals (rcases ua162 with ⟨q, rfl⟩ | ⟨q, rfl⟩)
  all_goals first | (exfalso; revert q; decide) | skip
  all_goals clear q
  all_goals (rcases ub162 with ⟨q, rfl⟩ | ⟨q, rfl⟩)
  all_goals first | (exfalso; revert q; decide) | skip
  all_goals clear q
  all_goals (rcases uc162 with ⟨q, rfl⟩ | ⟨q, rfl⟩)
  all_goals first | (exfalso; revert q; decide) | skip
  all_goals clear q
  all_goals (rcases ua164 with ⟨q, rfl⟩ | ⟨q, rfl⟩)
  all_goals first | (exfalso; revert q; decide) | skip
  all_goals clear q
  all_goals (rcases ub164 with ⟨q, rfl⟩ | ⟨q, rfl⟩)
  all_goals first | (exfalso; revert q; decide) | skip
  all_goals clear q
  all_goals (rcases uc164 with ⟨q, rfl⟩ | ⟨q, rfl⟩)
  all_goals first | (exfalso; revert q; decide) | skip
  all_goals clear q
  all_goals decide
theorem own_fin23 (x y : Int32) (hx3 : x = 0 ∨ x = 1 ∨ x = 2) (hy3 : y = 0 ∨ y = 1 ∨ y = 2) (hxy : x ≠ y) (wa162 wb162 wc162 wa164 wb164 wc164 : Int32) (ua162 : own_up x 3 (1 : Int32) wa162 0) (ub162 : own_up x 3 (1 : Int32) wb162 1) (uc162 : own_up x 3 (1 : Int32) wc162 2) (ua164 : own_up x 2 wa162 wa164 0) (ub164 : own_up x 2 wb162 wb164 1) (uc164 : own_up x 2 wc162 wc164 2) : (wb164 = 1 → own_bit ((0 : Int64) ||| ((1 : Int64) <<< (x &&& 0x3f).toInt64)) (1 : Int32) = 1) ∧ (wb164 = 2 → own_bit ((0 : Int64) ||| ((1 : Int64) <<< (x &&& 0x3f).toInt64)) (1 : Int32) = 0) := by
  rcases hx3 with rfl | rfl | rfl <;> rcases hy3 with rfl | rfl | rfl
  all_goals first | (exfalso; revert hxy; decide) | skip
  all_goals (rcases ua162 with ⟨q, rfl⟩ | ⟨q, rfl⟩)
  all_goals first | (exfalso; revert q; decide) | skip
  all_goals clear q
  all_goals (rcases ub162 with ⟨q, rfl⟩ | ⟨q, rfl⟩)
  all_goals first | (exfalso; revert q; decide) | skip
  all_goals clear q
  all_goals (rcases uc162 with ⟨q, rfl⟩ | ⟨q, rfl⟩)
  all_goals first | (exfalso; revert q; decide) | skip
  all_goals clear q
  all_goals (rcases ua164 with ⟨q, rfl⟩ | ⟨q, rfl⟩)
  all_goals first | (exfalso; revert q; decide) | skip
  all_goals clear q
  all_goals (rcases ub164 with ⟨q, rfl⟩ | ⟨q, rfl⟩)
  all_goals first | (exfalso; revert q; decide) | skip
  all_goals clear q
  all_goals (rcases uc164 with ⟨q, rfl⟩ | ⟨q, rfl⟩)
  all_goals first | (exfalso; revert q; decide) | skip
  all_goals clear q
  all_goals decide
theorem own_fin24 (x y : Int32) (hx3 : x = 0 ∨ x = 1 ∨ x = 2) (hy3 : y = 0 ∨ y = 1 ∨ y = 2) (hxy : x ≠ y) (wa162 wb162 wc162 wa164 wb164 wc164 : Int32) (ua162 : own_up x 3 (1 : Int32) wa162 0) (ub162 : own_up x 3 (1 : Int32) wb162 1) (uc162 : own_up x 3 (1 : Int32) wc162 2) (ua164 : own_up x 2 wa162 wa164 0) (ub164 : own_up x 2 wb162 wb164 1) (uc164 : own_up x 2 wc162 wc164 2) : (wc164 = 1 → own_bit ((0 : Int64) ||| ((1 : Int64) <<< (x &&& 0x3f).toInt64)) (2 : Int32) = 1) ∧ (wc164 = 2 → own_bit ((0 : Int64) ||| ((1 : Int64) <<< (x &&& 0x3f).toInt64)) (2 : Int32) = 0) := by
  rcases hx3 with rfl | rfl | rfl <;> rcases hy3 with rfl | rfl | rfl
  all_goals first | (exfalso; revert hxy; decide) | skip
  all_goals (rcases ua162 with ⟨q, rfl⟩ | ⟨q, rfl⟩)
  all_goals first | (exfalso; revert q; decide) | skip
  all_goals clear q
  all_goals (rcases ub162 with ⟨q, rfl⟩ | ⟨q, rfl⟩)
  all_goals first | (exfalso; revert q; decide) | skip
  all_goals clear q
  all_goals (rcases uc162 with ⟨q, rfl⟩ | ⟨q, rfl⟩)
  all_goals first | (exfalso; revert q; decide) | skip
  all_goals clear q
  all_goals (rcases ua164 with ⟨q, rfl⟩ | ⟨q, rfl⟩)
  all_goals first | (exfalso; revert q; decide) | skip
  all_goals clear q
  all_goals (rcases ub164 with ⟨q, rfl⟩ | ⟨q, rfl⟩)
  all_goals first | (exfalso; revert q; decide) | skip
  all_goals clear q
  all_goals (rcases uc164 with ⟨q, rfl⟩ | ⟨q, rfl⟩)
  all_goals first | (exfalso; revert q; decide) | skip
  all_goals clear q
  all_goals decide
theorem own_fin25 (x y : Int32) (hx3 : x = 0 ∨ x = 1 ∨ x = 2) (hy3 : y = 0 ∨ y = 1 ∨ y = 2) (hxy : x ≠ y) (wa162 wb162 wc162 wa164 wb164 wc164 : Int32) (ua162 : own_up x 3 (1 : Int32) wa162 0) (ub162 : own_up x 3 (1 : Int32) wb162 1) (uc162 : own_up x 3 (1 : Int32) wc162 2) (ua164 : own_up x 2 wa162 wa164 0) (ub164 : own_up x 2 wb162 wb164 1) (uc164 : own_up x 2 wc162 wc164 2) : ((0 : Int32) = 1 → own_bit ((0 : Int64) ||| ((1 : Int64) <<< (x &&& 0x3f).toInt64)) (3 : Int32) = 1) ∧ ((0 : Int32) = 2 → own_bit ((0 : Int64) ||| ((1 : Int64) <<< (x &&& 0x3f).toInt64)) (3 : Int32) = 0) := by
  rcases hx3 with rfl | rfl | rfl <;> rcases hy3 with rfl | rfl | rfl
  all_goals first | (exfalso; revert hxy; decide) | skip
  all_goals (rcases ua162 with ⟨q, rfl⟩ | ⟨q, rfl⟩)
  all_goals first | (exfalso; revert q; decide) | skip
  all_goals clear q
  all_goals (rcases ub162 with ⟨q, rfl⟩ | ⟨q, rfl⟩)
  all_goals first | (exfalso; revert q; decide) | skip
  all_goals clear q
  all_goals (rcases uc162 with ⟨q, rfl⟩ | ⟨q, rfl⟩)
  all_goals first | (exfalso; revert q; decide) | skip
  all_goals clear q
  all_goals (rcases ua164 with ⟨q, rfl⟩ | ⟨q, rfl⟩)
  all_goals first | (exfalso; revert q; decide) | skip
  all_goals clear q
  all_goals (rcases ub164 with ⟨q, rfl⟩ | ⟨q, rfl⟩)
  all_goals first | (exfalso; revert q; decide) | skip
  all_goals clear q
  all_goals (rcases uc164 with ⟨q, rfl⟩ | ⟨q, rfl⟩)
  all_goals first | (exfalso; revert q; decide) | skip
  all_goals clear q
  all_goals decide
theorem own_fin26 (x y : Int32) (hx3 : x = 0 ∨ x = 1 ∨ x = 2) (hy3 : y = 0 ∨ y = 1 ∨ y = 2) (hxy : x ≠ y) (wa162 wb162 wc162 wa164 wb164 wc164 : Int32) (ua162 : own_up x 3 (1 : Int32) wa162 0) (ub162 : own_up x 3 (1 : Int32) wb162 1) (uc162 : own_up x 3 (1 : Int32) wc162 2) (ua164 : own_up x 2 wa162 wa164 0) (ub164 : own_up x 2 wb162 wb164 1) (uc164 : own_up x 2 wc162 wc164 2) : ((0 : Int32) = 1 → own_bit ((0 : Int64) ||| ((1 : Int64) <<< (x &&& 0x3f).toInt64)) (4 : Int32) = 1) ∧ ((0 : Int32) = 2 → own_bit ((0 : Int64) ||| ((1 : Int64) <<< (x &&& 0x3f).toInt64)) (4 : Int32) = 0) := by
  rcases hx3 with rfl | rfl | rfl <;> rcases hy3 with rfl | rfl | rfl
  all_goals first | (exfalso; revert hxy; decide) | skip
  all_goals (rcases ua162 with ⟨q, rfl⟩ | ⟨q, rfl⟩)
  all_goals first | (exfalso; revert q; decide) | skip
  all_goals clear q
  all_goals (rcases ub162 with ⟨q, rfl⟩ | ⟨q, rfl⟩)
  all_goals first | (exfalso; revert q; decide) | skip
  all_goals clear q
  all_goals (rcases uc162 with ⟨q, rfl⟩ | ⟨q, rfl⟩)
  all_goals first | (exfalso; revert q; decide) | skip
  all_goals clear q
  all_goals (rcases ua164 with ⟨q, rfl⟩ | ⟨q, rfl⟩)
  all_goals first | (exfalso; revert q; decide) | skip
  all_goals clear q
  all_goals (rcases ub164 with ⟨q, rfl⟩ | ⟨q, rfl⟩)
  all_goals first | (exfalso; revert q; decide) | skip
  all_goals clear q
  all_goals (rcases uc164 with ⟨q, rfl⟩ | ⟨q, rfl⟩)
  all_goals first | (exfalso; revert q; decide) | skip
  all_goals clear q
  all_goals decide
theorem own_fin27 (x y : Int32) (hx3 : x = 0 ∨ x = 1 ∨ x = 2) (hy3 : y = 0 ∨ y = 1 ∨ y = 2) (hxy : x ≠ y) (wa195 wb195 wc195 : Int32) (ua195 : own_up x 3 (1 : Int32) wa195 0) (ub195 : own_up x 3 (1 : Int32) wb195 1) (uc195 : own_up x 3 (1 : Int32) wc195 2) : (x = 0 → wa195 = 3) ∧ (x = 1 → wb195 = 3) ∧ (x = 2 → wc195 = 3) := by
  rcases hx3 with rfl | rfl | rfl <;> rcases hy3 with rfl | rfl | rfl
  all_goals first | (exfalso; revert hxy; decide) | skip
  all_goals (rcases ua195 with ⟨q, rfl⟩ | ⟨q, rfl⟩)
  all_goals first | (exfalso; revert q; decide) | skip
  all_goals clear q
  all_goals (rcases ub195 with ⟨q, rfl⟩ | ⟨q, rfl⟩)
  all_goals first | (exfalso; revert q; decide) | skip
  all_goals clear q
  all_goals (rcases uc195 with ⟨q, rfl⟩ | ⟨q, rfl⟩)
  all_goals first | (exfalso; revert q; decide) | skip
  all_goals clear q
  all_goals decide
theorem own_fin28 (x y : Int32) (hx3 : x = 0 ∨ x = 1 ∨ x = 2) (hy3 : y = 0 ∨ y = 1 ∨ y = 2) (hxy : x ≠ y) (wa195 wb195 wc195 wa197 wb197 wc197 : Int32) (ua195 : own_up x 3 (1 : Int32) wa195 0) (ub195 : own_up x 3 (1 : Int32) wb195 1) (uc195 : own_up x 3 (1 : Int32) wc195 2) (ua197 : own_up x 2 wa195 wa197 0) (ub197 : own_up x 2 wb195 wb197 1) (uc197 : own_up x 2 wc195 wc197 2) : (wa197 = 1 → own_bit ((0 : Int64) ||| ((1 : Int64) <<< (x &&& 0x3f).toInt64)) (0 : Int32) = 1) ∧ (wa197 = 2 → own_bit ((0 : Int64) ||| ((1 : Int64) <<< (x &&& 0x3f).toInt64)) (0 : Int32) = 0) := by
  rcases hx3 with rfl | rfl | rfl <;> rcases hy3 with rfl | rfl | rfl
  all_goals first | (exfalso; revert hxy; decide) | skip
  all_goals (rcases ua195 with ⟨q, rfl⟩ | ⟨q, rfl⟩)
  all_goals first | (exfalso; revert q; decide) | skip
  all_goals clear q
  all_goals (rcases ub195 with ⟨q, rfl⟩ | ⟨q, rfl⟩)
  all_goals first | (exfalso; revert q; decide) | skip
  all_goals clear q
  all_goals (rcases uc195 with ⟨q, rfl⟩ | ⟨q, rfl⟩)
  all_goals first | (exfalso; revert q; decide) | skip
  all_goals clear q
  all_goals (rcases ua197 with ⟨q, rfl⟩ | ⟨q, rfl⟩)
  all_goals first | (exfalso; revert q; decide) | skip
  all_goals clear q
  all_goals (rcases ub197 with ⟨q, rfl⟩ | ⟨q, rfl⟩)
  all_goals first | (exfalso; revert q; decide) | skip
  all_goals clear q
  all_goals (rcases uc197 with ⟨q, rfl⟩ | ⟨q, rfl⟩)
  all_goals first | (exfalso; revert q; decide) | skip
  all_goals clear q
  all_goals decide
theorem own_fin29 (x y : Int32) (hx3 : x = 0 ∨ x = 1 ∨ x = 2) (hy3 : y = 0 ∨ y = 1 ∨ y = 2) (hxy : x ≠ y) (wa195 wb195 wc195 wa197 wb197 wc197 : Int32) (ua195 : own_up x 3 (1 : Int32) wa195 0) (ub195 : own_up x 3 (1 : Int32) wb195 1) (uc195 : own_up x 3 (1 : Int32) wc195 2) (ua197 : own_up x 2 wa195 wa197 0) (ub197 : own_up x 2 wb195 wb197 1) (uc197 : own_up x 2 wc195 wc197 2) : (wb197 = 1 → own_bit ((0 : Int64) ||| ((1 : Int64) <<< (x &&& 0x3f).toInt64)) (1 : Int32) = 1) ∧ (wb197 = 2 → own_bit ((0 : Int64) ||| ((1 : Int64) <<< (x &&& 0x3f).toInt64)) (1 : Int32) = 0) := by
  rcases hx3 with rfl | rfl | rfl <;> rcases hy3 with rfl | rfl | rfl
  all_goals first | (exfalso; revert hxy; decide) | skip
  all_goals (rcases ua195 with ⟨q, rfl⟩ | ⟨q, rfl⟩)
  all_goals first | (exfalso; revert q; decide) | skip
  all_goals clear q
  all_goals (rcases ub195 with ⟨q, rfl⟩ | ⟨q, rfl⟩)
  all_goals first | (exfalso; revert q; decide) | skip
  all_goals clear q
  all_goals (rcases uc195 with ⟨q, rfl⟩ | ⟨q, rfl⟩)
  all_goals first | (exfalso; revert q; decide) | skip
  all_goals clear q
  all_goals (rcases ua197 with ⟨q, rfl⟩ | ⟨q, rfl⟩)
  all_goals first | (exfalso; revert q; decide) | skip
  all_goals clear q
  all_goals (rcases ub197 with ⟨q, rfl⟩ | ⟨q, rfl⟩)
  all_goals first | (exfalso; revert q; decide) | skip
  all_goals clear q
  all_goals (rcases uc197 with ⟨q, rfl⟩ | ⟨q, rfl⟩)
  all_goals first | (exfalso; revert q; decide) | skip
  all_goals clear q
  all_goals decide
theorem own_fin30 (x y : Int32) (hx3 : x = 0 ∨ x = 1 ∨ x = 2) (hy3 : y = 0 ∨ y = 1 ∨ y = 2) (hxy : x ≠ y) (wa195 wb195 wc195 wa197 wb197 wc197 : Int32) (ua195 : own_up x 3 (1 : Int32) wa195 0) (ub195 : own_up x 3 (1 : Int32) wb195 1) (uc195 : own_up x 3 (1 : Int32) wc195 2) (ua197 : own_up x 2 wa195 wa197 0) (ub197 : own_up x 2 wb195 wb197 1) (uc197 : own_up x 2 wc195 wc197 2) : (wc197 = 1 → own_bit ((0 : Int64) ||| ((1 : Int64) <<< (x &&& 0x3f).toInt64)) (2 : Int32) = 1) ∧ (wc197 = 2 → own_bit ((0 : Int64) ||| ((1 : Int64) <<< (x &&& 0x3f).toInt64)) (2 : Int32) = 0) := by
  rcases hx3 with rfl | rfl | rfl <;> rcases hy3 with rfl | rfl | rfl
  all_goals first | (exfalso; revert hxy; decide) | skip
  all_goals (rcases ua195 with ⟨q, rfl⟩ | ⟨q, rfl⟩)
  all_goals first | (exfalso; revert q; decide) | skip
  all_goals clear q
  all_goals (rcases ub195 with ⟨q, rfl⟩ | ⟨q, rfl⟩)
  all_goals first | (exfalso; revert q; decide) | skip
  all_goals clear q
  all_goals (rcases uc195 with ⟨q, rfl⟩ | ⟨q, rfl⟩)
  all_goals first | (exfalso; revert q; decide) | skip
  all_goals clear q
  all_goals (rcases ua197 with ⟨q, rfl⟩ | ⟨q, rfl⟩)
  all_goals first | (exfalso; revert q; decide) | skip
  all_goals clear q
  all_goals (rcases ub197 with ⟨q, rfl⟩ | ⟨q, rfl⟩)
  all_goals first | (exfalso; revert q; decide) | skip
  all_goals clear q
  all_goals (rcases uc197 with ⟨q, rfl⟩ | ⟨q, rfl⟩)
  all_goals first | (exfalso; revert q; decide) | skip
  all_goals clear q
  all_goals decide
theorem own_fin31 (x y : Int32) (hx3 : x = 0 ∨ x = 1 ∨ x = 2) (hy3 : y = 0 ∨ y = 1 ∨ y = 2) (hxy : x ≠ y) (wa195 wb195 wc195 wa197 wb197 wc197 : Int32) (ua195 : own_up x 3 (1 : Int32) wa195 0) (ub195 : own_up x 3 (1 : Int32) wb195 1) (uc195 : own_up x 3 (1 : Int32) wc195 2) (ua197 : own_up x 2 wa195 wa197 0) (ub197 : own_up x 2 wb195 wb197 1) (uc197 : own_up x 2 wc195 wc197 2) : ((1 : Int32) = 1 → own_bit ((0 : Int64) ||| ((1 : Int64) <<< (x &&& 0x3f).toInt64)) (3 : Int32) = 1) ∧ ((1 : Int32) = 2 → own_bit ((0 : Int64) ||| ((1 : Int64) <<< (x &&& 0x3f).toInt64)) (3 : Int32) = 0) := by
  rcases hx3 with rfl | rfl | rfl <;> rcases hy3 with rfl | rfl | rfl
  all_goals first | (exfalso; revert hxy; decide) | skip
  all_goals (rcases ua195 with ⟨q, rfl⟩ | ⟨q, rfl⟩)
  all_goals first | (exfalso; revert q; decide) | skip
  all_goals clear q
  all_goals (rcases ub195 with ⟨q, rfl⟩ | ⟨q, rfl⟩)
  all_goals first | (exfalso; revert q; decide) | skip
  all_goals clear q
  all_goals (rcases uc195 with ⟨q, rfl⟩ | ⟨q, rfl⟩)
  all_goals first | (exfalso; revert q; decide) | skip
  all_goals clear q
  all_goals (rcases ua197 with ⟨q, rfl⟩ | ⟨q, rfl⟩)
  all_goals first | (exfalso; revert q; decide) | skip
  all_goals clear q
  all_goals (rcases ub197 with ⟨q, rfl⟩ | ⟨q, rfl⟩)
  all_goals first | (exfalso; revert q; decide) | skip
  all_goals clear q
  all_goals (rcases uc197 with ⟨q, rfl⟩ | ⟨q, rfl⟩)
  all_goals first | (exfalso; revert q; decide) | skip
  all_goals clear q
  all_goals decide
theorem own_fin32 (x y : Int32) (hx3 : x = 0 ∨ x = 1 ∨ x = 2) (hy3 : y = 0 ∨ y = 1 ∨ y = 2) (hxy : x ≠ y) (wa195 wb195 wc195 wa197 wb197 wc197 : Int32) (ua195 : own_up x 3 (1 : Int32) wa195 0) (ub195 : own_up x 3 (1 : Int32) wb195 1) (uc195 : own_up x 3 (1 : Int32) wc195 2) (ua197 : own_up x 2 wa195 wa197 0) (ub197 : own_up x 2 wb195 wb197 1) (uc197 : own_up x 2 wc195 wc197 2) : ((0 : Int32) = 1 → own_bit ((0 : Int64) ||| ((1 : Int64) <<< (x &&& 0x3f).toInt64)) (4 : Int32) = 1) ∧ ((0 : Int32) = 2 → own_bit ((0 : Int64) ||| ((1 : Int64) <<< (x &&& 0x3f).toInt64)) (4 : Int32) = 0) := by
  rcases hx3 with rfl | rfl | rfl <;> rcases hy3 with rfl | rfl | rfl
  all_goals first | (exfalso; revert hxy; decide) | skip
  all_goals (rcases ua195 with ⟨q, rfl⟩ | ⟨q, rfl⟩)
  all_goals first | (exfalso; revert q; decide) | skip
  all_goals clear q
  all_goals (rcases ub195 with ⟨q, rfl⟩ | ⟨q, rfl⟩)
  all_goals first | (exfalso; revert q; decide) | skip
  all_goals clear q
  all_goals (rcases uc195 with ⟨q, rfl⟩ | ⟨q, rfl⟩)
  all_goals first | (exfalso; revert q; decide) | skip
  all_goals clear q
  all_goals (rcases ua197 with ⟨q, rfl⟩ | ⟨q, rfl⟩)
  all_goals first | (exfalso; revert q; decide) | skip
  all_goals clear q
  all_goals (rcases ub197 with ⟨q, rfl⟩ | ⟨q, rfl⟩)
  all_goals first | (exfalso; revert q; decide) | skip
  all_goals clear q
  all_goals (rcases uc197 with ⟨q, rfl⟩ | ⟨q, rfl⟩)
  all_goals first | (exfalso; revert q; decide) | skip
  all_goals clear q
  all_goals decide
theorem own_fin33 (x y : Int32) (hx3 : x = 0 ∨ x = 1 ∨ x = 2) (hy3 : y = 0 ∨ y = 1 ∨ y = 2) (hxy : x ≠ y) (wa232 wb232 wc232 wa260 wb260 wc260 : Int32) (ua232 : own_up x 3 (1 : Int32) wa232 0) (ub232 : own_up x 3 (1 : Int32) wb232 1) (uc232 : own_up x 3 (1 : Int32) wc232 2) (ua260 : own_up y 3 wa232 wa260 0) (ub260 : own_up y 3 wb232 wb260 1) (uc260 : own_up y 3 wc232 wc260 2) : (wa260 = 1 → own_bit (0 : Int64) (0 : Int32) = 1) ∧ (wa260 = 2 → own_bit (0 : Int64) (0 : Int32) = 0) := by
  rcases hx3 with rfl | rfl | rfl <;> rcases hy3 with rfl | rfl | rfl
  all_goals first | (exfalso; revert hxy; decide) | skip
  all_goals (rcases ua232 with ⟨q, rfl⟩ | ⟨q, rfl⟩)
  all_goals first | (exfalso; revert q; decide) | skip
  all_goals clear q
  all_goals (rcases ub232 with ⟨q, rfl⟩ | ⟨q, rfl⟩)
  all_goals first | (exfalso; revert q; decide) | skip
  all_goals clear q
  all_goals (rcases uc232 with ⟨q, rfl⟩ | ⟨q, rfl⟩)
  all_goals first | (exfalso; revert q; decide) | skip
  all_goals clear q
  all_goals (rcases ua260 with ⟨q, rfl⟩ | ⟨q, rfl⟩)
  all_goals first | (exfalso; revert q; decide) | skip
  all_goals clear q
  all_goals (rcases ub260 with ⟨q, rfl⟩ | ⟨q, rfl⟩)
  all_goals first | (exfalso; revert q; decide) | skip
  all_goals clear q
  all_goals (rcases uc260 with ⟨q, rfl⟩ | ⟨q, rfl⟩)
  all_goals first | (exfalso; revert q; decide) | skip
  all_goals clear q
  all_goals decide
theorem own_fin34 (x y : Int32) (hx3 : x = 0 ∨ x = 1 ∨ x = 2) (hy3 : y = 0 ∨ y = 1 ∨ y = 2) (hxy : x ≠ y) (wa232 wb232 wc232 wa260 wb260 wc260 : Int32) (ua232 : own_up x 3 (1 : Int32) wa232 0) (ub232 : own_up x 3 (1 : Int32) wb232 1) (uc232 : own_up x 3 (1 : Int32) wc232 2) (ua260 : own_up y 3 wa232 wa260 0) (ub260 : own_up y 3 wb232 wb260 1) (uc260 : own_up y 3 wc232 wc260 2) : (wb260 = 1 → own_bit (0 : Int64) (1 : Int32) = 1) ∧ (wb260 = 2 → own_bit (0 : Int64) (1 : Int32) = 0) := by
  rcases hx3 with rfl | rfl | rfl <;> rcases hy3 with rfl | rfl | rfl
  all_goals first | (exfalso; revert hxy; decide) | skip
  all_goals (rcases ua232 with ⟨q, rfl⟩ | ⟨q, rfl⟩)
  all_goals first | (exfalso; revert q; decide) | skip
  all_goals clear q
  all_goals (rcases ub232 with ⟨q, rfl⟩ | ⟨q, rfl⟩)
  all_goals first | (exfalso; revert q; decide) | skip
  all_goals clear q
  all_goals (rcases uc232 with ⟨q, rfl⟩ | ⟨q, rfl⟩)
  all_goals first | (exfalso; revert q; decide) | skip
  all_goals clear q
  all_goals (rcases ua260 with ⟨q, rfl⟩ | ⟨q, rfl⟩)
  all_goals first | (exfalso; revert q; decide) | skip
  all_goals clear q
  all_goals (rcases ub260 with ⟨q, rfl⟩ | ⟨q, rfl⟩)
  all_goals first | (exfalso; revert q; decide) | skip
  all_goals clear q
  all_goals (rcases uc260 with ⟨q, rfl⟩ | ⟨q, rfl⟩)
  all_goals first | (exfalso; revert q; decide) | skip
  all_goals clear q
  all_goals decide
theorem own_fin35 (x y : Int32) (hx3 : x = 0 ∨ x = 1 ∨ x = 2) (hy3 : y = 0 ∨ y = 1 ∨ y = 2) (hxy : x ≠ y) (wa232 wb232 wc232 wa260 wb260 wc260 : Int32) (ua232 : own_up x 3 (1 : Int32) wa232 0) (ub232 : own_up x 3 (1 : Int32) wb232 1) (uc232 : own_up x 3 (1 : Int32) wc232 2) (ua260 : own_up y 3 wa232 wa260 0) (ub260 : own_up y 3 wb232 wb260 1) (uc260 : own_up y 3 wc232 wc260 2) : (wc260 = 1 → own_bit (0 : Int64) (2 : Int32) = 1) ∧ (wc260 = 2 → own_bit (0 : Int64) (2 : Int32) = 0) := by
  rcases hx3 with rfl | rfl | rfl <;> rcases hy3 with rfl | rfl | rfl
  all_goals first | (exfalso; revert hxy; decide) | skip
  all_goals (rcases ua232 with ⟨q, rfl⟩ | ⟨q, rfl⟩)
  all_goals first | (exfalso; revert q; decide) | skip
  all_goals clear q
  all_goals (rcases ub232 with ⟨q, rfl⟩ | ⟨q, rfl⟩)
  all_goals first | (exfalso; revert q; decide) | skip
  all_goals clear q
  all_goals (rcases uc232 with ⟨q, rfl⟩ | ⟨q, rfl⟩)
  all_goals first | (exfalso; revert q; decide) | skip
  all_goals clear q
  all_goals (rcases ua260 with ⟨q, rfl⟩ | ⟨q, rfl⟩)
  all_goals first | (exfalso; revert q; decide) | skip
  all_goals clear q
  all_goals (rcases ub260 with ⟨q, rfl⟩ | ⟨q, rfl⟩)
  all_goals first | (exfalso; revert q; decide) | skip
  all_goals clear q
  all_goals (rcases uc260 with ⟨q, rfl⟩ | ⟨q, rfl⟩)
  all_goals first | (exfalso; revert q; decide) | skip
  all_goals clear q
  all_goals decide
theorem own_fin36 (x y : Int32) (hx3 : x = 0 ∨ x = 1 ∨ x = 2) (hy3 : y = 0 ∨ y = 1 ∨ y = 2) (hxy : x ≠ y) (wa232 wb232 wc232 wa260 wb260 wc260 : Int32) (ua232 : own_up x 3 (1 : Int32) wa232 0) (ub232 : own_up x 3 (1 : Int32) wb232 1) (uc232 : own_up x 3 (1 : Int32) wc232 2) (ua260 : own_up y 3 wa232 wa260 0) (ub260 : own_up y 3 wb232 wb260 1) (uc260 : own_up y 3 wc232 wc260 2) : ((0 : Int32) = 1 → own_bit (0 : Int64) (3 : Int32) = 1) ∧ ((0 : Int32) = 2 → own_bit (0 : Int64) (3 : Int32) = 0) := by
  rcases hx3 with rfl | rfl | rfl <;> rcases hy3 with rfl | rfl | rfl
  all_goals first | (exfalso; revert hxy; decide) | skip
  all_goals (rcases ua232 with ⟨q, rfl⟩ | ⟨q, rfl⟩)
  all_goals first | (exfalso; revert q; decide) | skip
  all_goals clear q
  all_goals (rcases ub232 with ⟨q, rfl⟩ | ⟨q, rfl⟩)
  all_goals first | (exfalso; revert q; decide) | skip
  all_goals clear q
  all_goals (rcases uc232 with ⟨q, rfl⟩ | ⟨q, rfl⟩)
  all_goals first | (exfalso; revert q; decide) | skip
  all_goals clear q
  all_goals (rcases ua260 with ⟨q, rfl⟩ | ⟨q, rfl⟩)
  all_goals first | (exfalso; revert q; decide) | skip
  all_goals clear q
  all_goals (rcases ub260 with ⟨q, rfl⟩ | ⟨q, rfl⟩)
  all_goals first | (exfalso; revert q; decide) | skip
  all_goals clear q
  all_goals (rcases uc260 with ⟨q, rfl⟩ | ⟨q, rfl⟩)
  all_goals first | (exfalso; revert q; decide) | skip
  all_goals clear q
  all_goals decide
theorem own_fin37 (x y : Int32) (hx3 : x = 0 ∨ x = 1 ∨ x = 2) (hy3 : y = 0 ∨ y = 1 ∨ y = 2) (hxy : x ≠ y) (wa232 wb232 wc232 wa260 wb260 wc260 : Int32) (ua232 : own_up x 3 (1 : Int32) wa232 0) (ub232 : own_up x 3 (1 : Int32) wb232 1) (uc232 : own_up x 3 (1 : Int32) wc232 2) (ua260 : own_up y 3 wa232 wa260 0) (ub260 : own_up y 3 wb232 wb260 1) (uc260 : own_up y 3 wc232 wc260 2) : ((0 : Int32) = 1 → own_bit (0 : Int64) (4 : Int32) = 1) ∧ ((0 : Int32) = 2 → own_bit (0 : Int64) (4 : Int32) = 0) := by
  rcases hx3 with rfl | rfl | rfl <;> rcases hy3 with rfl | rfl | rfl
  all_goals first | (exfalso; revert hxy; decide) | skip
  all_goals (rcases ua232 with ⟨q, rfl⟩ | ⟨q, rfl⟩)
  all_goals first | (exfalso; revert q; decide) | skip
  all_goals clear q
  all_goals (rcases ub232 with ⟨q, rfl⟩ | ⟨q, rfl⟩)
  all_goals first | (exfalso; revert q; decide) | skip
  all_goals clear q
  all_goals (rcases uc232 with ⟨q, rfl⟩ | ⟨q, rfl⟩)
  all_goals first | (exfalso; revert q; decide) | skip
  all_goals clear q
  all_goals (rcases ua260 with ⟨q, rfl⟩ | ⟨q, rfl⟩)
  all_goals first | (exfalso; revert q; decide) | skip
  all_goals clear q
  all_goals (rcases ub260 with ⟨q, rfl⟩ | ⟨q, rfl⟩)
  all_goals first | (exfalso; revert q; decide) | skip
  all_goals clear q
  all_goals (rcases uc260 with ⟨q, rfl⟩ | ⟨q, rfl⟩)
  all_goals first | (exfalso; revert q; decide) | skip
  all_goals clear q
  all_goals decide
theorem own_fin38 (x y : Int32) (hx3 : x = 0 ∨ x = 1 ∨ x = 2) (hy3 : y = 0 ∨ y = 1 ∨ y = 2) (hxy : x ≠ y) (wa288 wb288 wc288 wa316 wb316 wc316 : Int32) (ua288 : own_up x 3 (1 : Int32) wa288 0) (ub288 : own_up x 3 (1 : Int32) wb288 1) (uc288 : own_up x 3 (1 : Int32) wc288 2) (ua316 : own_up y 3 wa288 wa316 0) (ub316 : own_up y 3 wb288 wb316 1) (uc316 : own_up y 3 wc288 wc316 2) : (y = 0 → wa316 = 3) ∧ (y = 1 → wb316 = 3) ∧ (y = 2 → wc316 = 3) := by
  rcases hx3 with rfl | rfl | rfl <;> rcases hy3 with rfl | rfl | rfl
  all_goals first | (exfalso; revert hxy; decide) | skip
  all_goals (rcases ua288 with ⟨q, rfl⟩ | ⟨q, rfl⟩)
  all_goals first | (exfalso; revert q; decide) | skip
  all_goals clear q
  all_goals (rcases ub288 with ⟨q, rfl⟩ | ⟨q, rfl⟩)
  all_goals first | (exfalso; revert q; decide) | skip
  all_goals clear q
  all_goals (rcases uc288 with ⟨q, rfl⟩ | ⟨q, rfl⟩)
  all_goals first | (exfalso; revert q; decide) | skip
  all_goals clear q
  all_goals (rcases ua316 with ⟨q, rfl⟩ | ⟨q, rfl⟩)
  all_goals first | (exfalso; revert q; decide) | skip
  all_goals clear q
  all_goals (rcases ub316 with ⟨q, rfl⟩ | ⟨q, rfl⟩)
  all_goals first | (exfalso; revert q; decide) | skip
  all_goals clear q
  all_goals (rcases uc316 with ⟨q, rfl⟩ | ⟨q, rfl⟩)
  all_goals first | (exfalso; revert q; decide) | skip
  all_goals clear q
  all_goals decide
theorem own_fin39 (x y : Int32) (hx3 : x = 0 ∨ x = 1 ∨ x = 2) (hy3 : y = 0 ∨ y = 1 ∨ y = 2) (hxy : x ≠ y) (wa288 wb288 wc288 wa316 wb316 wc316 wa318 wb318 wc318 : Int32) (ua288 : own_up x 3 (1 : Int32) wa288 0) (ub288 : own_up x 3 (1 : Int32) wb288 1) (uc288 : own_up x 3 (1 : Int32) wc288 2) (ua316 : own_up y 3 wa288 wa316 0) (ub316 : own_up y 3 wb288 wb316 1) (uc316 : own_up y 3 wc288 wc316 2) (ua318 : own_up y 2 wa316 wa318 0) (ub318 : own_up y 2 wb316 wb318 1) (uc318 : own_up y 2 wc316 wc318 2) : (wa318 = 1 → own_bit ((0 : Int64) ||| ((1 : Int64) <<< (y &&& 0x3f).toInt64)) (0 : Int32) = 1) ∧ (wa318 = 2 → own_bit ((0 : Int64) ||| ((1 : Int64) <<< (y &&& 0x3f).toInt64)) (0 : Int32) = 0) := by
  rcases hx3 with rfl | rfl | rfl <;> rcases hy3 with rfl | rfl | rfl
  all_goals first | (exfalso; revert hxy; decide) | skip
  all_goals (rcases ua288 with ⟨q, rfl⟩ | ⟨q, rfl⟩)
  all_goals first | (exfalso; revert q; decide) | skip
  all_goals clear q
  all_goals (rcases ub288 with ⟨q, rfl⟩ | ⟨q, rfl⟩)
  all_goals first | (exfalso; revert q; decide) | skip
  all_goals clear q
  all_goals (rcases uc288 with ⟨q, rfl⟩ | ⟨q, rfl⟩)
  all_goals first | (exfalso; revert q; decide) | skip
  all_goals clear q
  all_goals (rcases ua316 with ⟨q, rfl⟩ | ⟨q, rfl⟩)
  all_goals first | (exfalso; revert q; decide) | skip
  all_goals clear q
  all_goals (rcases ub316 with ⟨q, rfl⟩ | ⟨q, rfl⟩)
  all_goals first | (exfalso; revert q; decide) | skip
  all_goals clear q
  all_goals (rcases uc316 with ⟨q, rfl⟩ | ⟨q, rfl⟩)
  all_goals first | (exfalso; revert q; decide) | skip
  all_goals clear q
  all_goals (rcases ua318 with ⟨q, rfl⟩ | ⟨q, rfl⟩)
  all_goals first | (exfalso; revert q; decide) | skip
  all_goals clear q
  all_goals (rcases ub318 with ⟨q, rfl⟩ | ⟨q, rfl⟩)
  all_goals first | (exfalso; revert q; decide) | skip
  all_goals clear q
  all_goals (rcases uc318 with ⟨q, rfl⟩ | ⟨q, rfl⟩)
  all_goals first | (exfalso; revert q; decide) | skip
  all_goals clear q
  all_goals decide
theorem own_fin40 (x y : Int32) (hx3 : x = 0 ∨ x = 1 ∨ x = 2) (hy3 : y = 0 ∨ y = 1 ∨ y = 2) (hxy : x ≠ y) (wa288 wb288 wc288 wa316 wb316 wc316 wa318 wb318 wc318 : Int32) (ua288 : own_up x 3 (1 : Int32) wa288 0) (ub288 : own_up x 3 (1 : Int32) wb288 1) (uc288 : own_up x 3 (1 : Int32) wc288 2) (ua316 : own_up y 3 wa288 wa316 0) (ub316 : own_up y 3 wb288 wb316 1) (uc316 : own_up y 3 wc288 wc316 2) (ua318 : own_up y 2 wa316 wa318 0) (ub318 : own_up y 2 wb316 wb318 1) (uc318 : own_up y 2 wc316 wc318 2) : (wb318 = 1 → own_bit ((0 : Int64) ||| ((1 : Int64) <<< (y &&& 0x3f).toInt64)) (1 : Int32) = 1) ∧ (wb318 = 2 → own_bit ((0 : Int64) ||| ((1 : Int64) <<< (y &&& 0x3f).toInt64)) (1 : Int32) = 0) := by
  rcases hx3 with rfl | rfl | rfl <;> rcases hy3 with rfl | rfl | rfl
  all_goals first | (exfalso; revert hxy; decide) | skip
  all_goals (rcases ua288 with ⟨q, rfl⟩ | ⟨q, rfl⟩)
  all_goals first | (exfalso; revert q; decide) | skip
  all_goals clear q
  all_goals (rcases ub288 with ⟨q, rfl⟩ | ⟨q, rfl⟩)
  all_goals first | (exfalso; revert q; decide) | skip
  all_goals clear q
  all_goals (rcases uc288 with ⟨q, rfl⟩ | ⟨q, rfl⟩)
  all_goals first | (exfalso; revert q; decide) | skip
  all_goals clear q
  all_goals (rcases ua316 with ⟨q, rfl⟩ | ⟨q, rfl⟩)
  all_goals first | (exfalso; revert q; decide) | skip
  all_goals clear q
  all_goals (rcases ub316 with ⟨q, rfl⟩ | ⟨q, rfl⟩)
  all_goals first | (exfalso; revert q; decide) | skip
  all_goals clear q
  all_goals (rcases uc316 with ⟨q, rfl⟩ | ⟨q, rfl⟩)
  all_goals first | (exfalso; revert q; decide) | skip
  all_goals clear q
  all_goals (rcases ua318 with ⟨q, rfl⟩ | ⟨q, rfl⟩)
  all_goals first | (exfalso; revert q; decide) | skip
  all_goals clear q
  all_goals (rcases ub318 with ⟨q, rfl⟩ | ⟨q, rfl⟩)
  all_goals first | (exfalso; revert q; decide) | skip
  all_goals clear q
  all_goals (rcases uc318 with ⟨q, rfl⟩ | ⟨q, rfl⟩)
  all_goals first | (exfalso; revert q; decide) | skip
  all_goals clear q
  all_goals decide
theorem own_fin41 (x y : Int32) (hx3 : x = 0 ∨ x = 1 ∨ x = 2) (hy3 : y = 0 ∨ y = 1 ∨ y = 2) (hxy : x ≠ y) (wa288 wb288 wc288 wa316 wb316 wc316 wa318 wb318 wc318 : Int32) (ua288 : own_up x 3 (1 : Int32) wa288 0) (ub288 : own_up x 3 (1 : Int32) wb288 1) (uc288 : own_up x 3 (1 : Int32) wc288 2) (ua316 : own_up y 3 wa288 wa316 0) (ub316 : own_up y 3 wb288 wb316 1) (uc316 : own_up y 3 wc288 wc316 2) (ua318 : own_up y 2 wa316 wa318 0) (ub318 : own_up y 2 wb316 wb318 1) (uc318 : own_up y 2 wc316 wc318 2) : (wc318 = 1 → own_bit ((0 : Int64) ||| ((1 : Int64) <<< (y &&& 0x3f).toInt64)) (2 : Int32) = 1) ∧ (wc318 = 2 → own_bit ((0 : Int64) ||| ((1 : Int64) <<< (y &&& 0x3f).toInt64)) (2 : Int32) = 0) := by
  rcases hx3 with rfl | rfl | rfl <;> rcases hy3 with rfl | rfl | rfl
  all_goals first | (exfalso; revert hxy; decide) | skip
  all_goals (rcases ua288 with ⟨q, rfl⟩ | ⟨q, rfl⟩)
  all_goals first | (exfalso; revert q; decide) | skip
  all_goals clear q
  all_goals (rcases ub288 with ⟨q, rfl⟩ | ⟨q, rfl⟩)
  all_goals first | (exfalso; revert q; decide) | skip
  all_goals clear q
  all_goals (rcases uc288 with ⟨q, rfl⟩ | ⟨q, rfl⟩)
  all_goals first | (exfalso; revert q; decide) | skip
  all_goals clear q
  all_goals (rcases ua316 with ⟨q, rfl⟩ | ⟨q, rfl⟩)
  all_goals first | (exfalso; revert q; decide) | skip
  all_goals clear q
  all_goals (rcases ub316 with ⟨q, rfl⟩ | ⟨q, rfl⟩)
  all_goals first | (exfalso; revert q; decide) | skip
  all_goals clear q
  all_goals (rcases uc316 with ⟨q, rfl⟩ | ⟨q, rfl⟩)
  all_goals first | (exfalso; revert q; decide) | skip
  all_goals clear q
  all_goals (rcases ua318 with ⟨q, rfl⟩ | ⟨q, rfl⟩)
  all_goals first | (exfalso; revert q; decide) | skip
  all_goals clear q
  all_goals (rcases ub318 with ⟨q, rfl⟩ | ⟨q, rfl⟩)
  all_goals first | (exfalso; revert q; decide) | skip
  all_goals clear q
  all_goals (rcases uc318 with ⟨q, rfl⟩ | ⟨q, rfl⟩)
  all_goals first | (exfalso; revert q; decide) | skip
  all_goals clear q
  all_goals decide
theorem own_fin42 (x y : Int32) (hx3 : x = 0 ∨ x = 1 ∨ x = 2) (hy3 : y = 0 ∨ y = 1 ∨ y = 2) (hxy : x ≠ y) (wa288 wb288 wc288 wa316 wb316 wc316 wa318 wb318 wc318 : Int32) (ua288 : own_up x 3 (1 : Int32) wa288 0) (ub288 : own_up x 3 (1 : Int32) wb288 1) (uc288 : own_up x 3 (1 : Int32) wc288 2) (ua316 : own_up y 3 wa288 wa316 0) (ub316 : own_up y 3 wb288 wb316 1) (uc316 : own_up y 3 wc288 wc316 2) (ua318 : own_up y 2 wa316 wa318 0) (ub318 : own_up y 2 wb316 wb318 1) (uc318 : own_up y 2 wc316 wc318 2) : ((0 : Int32) = 1 → own_bit ((0 : Int64) ||| ((1 : Int64) <<< (y &&& 0x3f).toInt64)) (3 : Int32) = 1) ∧ ((0 : Int32) = 2 → own_bit ((0 : Int64) ||| ((1 : Int64) <<< (y &&& 0x3f).toInt64)) (3 : Int32) = 0) := by
  rcases hx3 with rfl | rfl | rfl <;> rcases hy3 with rfl | rfl | rfl
  all_goals first | (exfalso; revert hxy; decide) | skip
  all_goals (rcases ua288 with ⟨q, rfl⟩ | ⟨q, rfl⟩)
  all_goals first | (exfalso; revert q; decide) | skip
  all_goals clear q
  all_goals (rcases ub288 with ⟨q, rfl⟩ | ⟨q, rfl⟩)
  all_goals first | (exfalso; revert q; decide) | skip
  all_goals clear q
  all_goals (rcases uc288 with ⟨q, rfl⟩ | ⟨q, rfl⟩)
  all_goals first | (exfalso; revert q; decide) | skip
  all_goals clear q
  all_goals (rcases ua316 with ⟨q, rfl⟩ | ⟨q, rfl⟩)
  all_goals first | (exfalso; revert q; decide) | skip
  all_goals clear q
  all_goals (rcases ub316 with ⟨q, rfl⟩ | ⟨q, rfl⟩)
  all_goals first | (exfalso; revert q; decide) | skip
  all_goals clear q
  all_goals (rcases uc316 with ⟨q, rfl⟩ | ⟨q, rfl⟩)
  all_goals first | (exfalso; revert q; decide) | skip
  all_goals clear q
  all_goals (rcases ua318 with ⟨q, rfl⟩ | ⟨q, rfl⟩)
  all_goals first | (exfalso; revert q; decide) | skip
  all_goals clear q
  all_goals (rcases ub318 with ⟨q, rfl⟩ | ⟨q, rfl⟩)
  all_goals first | (exfalso; revert q; decide) | skip
  all_goals clear q
  all_goals (rcases uc318 with ⟨q, rfl⟩ | ⟨q, rfl⟩)
  all_goals first | (exfalso; revert q; decide) | skip
  all_goals clear q
  all_goals decide
theorem own_fin43 (x y : Int32) (hx3 : x = 0 ∨ x = 1 ∨ x = 2) (hy3 : y = 0 ∨ y = 1 ∨ y = 2) (hxy : x ≠ y) (wa288 wb288 wc288 wa316 wb316 wc316 wa318 wb318 wc318 : Int32) (ua288 : own_up x 3 (1 : Int32) wa288 0) (ub288 : own_up x 3 (1 : Int32) wb288 1) (uc288 : own_up x 3 (1 : Int32) wc288 2) (ua316 : own_up y 3 wa288 wa316 0) (ub316 : own_up y 3 wb288 wb316 1) (uc316 : own_up y 3 wc288 wc316 2) (ua318 : own_up y 2 wa316 wa318 0) (ub318 : own_up y 2 wb316 wb318 1) (uc318 : own_up y 2 wc316 wc318 2) : ((0 : Int32) = 1 → own_bit ((0 : Int64) ||| ((1 : Int64) <<< (y &&& 0x3f).toInt64)) (4 : Int32) = 1) ∧ ((0 : Int32) = 2 → own_bit ((0 : Int64) ||| ((1 : Int64) <<< (y &&& 0x3f).toInt64)) (4 : Int32) = 0) := by
  rcases hx3 with rfl | rfl | rfl <;> rcases hy3 with rfl | rfl | rfl
  all_goals first | (exfalso; revert hxy; decide) | skip
  all_goals (rcases ua288 with ⟨q, rfl⟩ | ⟨q, rfl⟩)
  all_goals first | (exfalso; revert q; decide) | skip
  all_goals clear q
  all_goals (rcases ub288 with ⟨q, rfl⟩ | ⟨q, rfl⟩)
  all_goals first | (exfalso; revert q; decide) | skip
  all_goals clear q
  all_goals (rcases uc288 with ⟨q, rfl⟩ | ⟨q, rfl⟩)
  all_goals first | (exfalso; revert q; decide) | skip
  all_goals clear q
  all_goals (rcases ua316 with ⟨q, rfl⟩ | ⟨q, rfl⟩)
  all_goals first | (exfalso; revert q; decide) | skip
  all_goals clear q
  all_goals (rcases ub316 with ⟨q, rfl⟩ | ⟨q, rfl⟩)
  all_goals first | (exfalso; revert q; decide) | skip
  all_goals clear q
  all_goals (rcases uc316 with ⟨q, rfl⟩ | ⟨q, rfl⟩)
  all_goals first | (exfalso; revert q; decide) | skip
  all_goals clear q
  all_goals (rcases ua318 with ⟨q, rfl⟩ | ⟨q, rfl⟩)
  all_goals first | (exfalso; revert q; decide) | skip
  all_goals clear q
  all_goals (rcases ub318 with ⟨q, rfl⟩ | ⟨q, rfl⟩)
  all_goals first | (exfalso; revert q; decide) | skip
  all_goals clear q
  all_goals (rcases uc318 with ⟨q, rfl⟩ | ⟨q, rfl⟩)
  all_goals first | (exfalso; revert q; decide) | skip
  all_goals clear q
  all_goals decide
theorem own_fin44 (x y : Int32) (hx3 : x = 0 ∨ x = 1 ∨ x = 2) (hy3 : y = 0 ∨ y = 1 ∨ y = 2) (hxy : x ≠ y) (wa349 wb349 wc349 wa377 wb377 wc377 : Int32) (ua349 : own_up x 3 (1 : Int32) wa349 0) (ub349 : own_up x 3 (1 : Int32) wb349 1) (uc349 : own_up x 3 (1 : Int32) wc349 2) (ua377 : own_up y 3 wa349 wa377 0) (ub377 : own_up y 3 wb349 wb377 1) (uc377 : own_up y 3 wc349 wc377 2) : (y = 0 → wa377 = 3) ∧ (y = 1 → wb377 = 3) ∧ (y = 2 → wc377 = 3) := by
  rcases hx3 with rfl | rfl | rfl <;> rcases hy3 with rfl | rfl | rfl
  all_goals first | (exfalso; revert hxy; decide) | skip
  all_goals (rcases ua349 with ⟨q, rfl⟩ | ⟨q, rfl⟩)
  all_goals first | (exfalso; revert q; decide) | skip
  all_goals clear q
  all_goals (rcases ub349 with ⟨q, rfl⟩ | ⟨q, rfl⟩)
  all_goals first | (exfalso; revert q; decide) | skip
  all_goals clear q
  all_goals (rcases uc349 with ⟨q, rfl⟩ | ⟨q, rfl⟩)
  all_goals first | (exfalso; revert q; decide) | skip
  all_goals clear q
  all_goals (rcases ua377 with ⟨q, rfl⟩ | ⟨q, rfl⟩)
  all_goals first | (exfalso; revert q; decide) | skip
  all_goals clear q
  all_goals (rcases ub377 with ⟨q, rfl⟩ | ⟨q, rfl⟩)
  all_goals first | (exfalso; revert q; decide) | skip
  all_goals clear q
  all_goals (rcases uc377 with ⟨q, rfl⟩ | ⟨q, rfl⟩)
  all_goals first | (exfalso; revert q; decide) | skip
  all_goals clear q
  all_goals decide
theorem own_fin45 (x y : Int32) (hx3 : x = 0 ∨ x = 1 ∨ x = 2) (hy3 : y = 0 ∨ y = 1 ∨ y = 2) (hxy : x ≠ y) (wa349 wb349 wc349 wa377 wb377 wc377 wa379 wb379 wc379 : Int32) (ua349 : own_up x 3 (1 : Int32) wa349 0) (ub349 : own_up x 3 (1 : Int32) wb349 1) (uc349 : own_up x 3 (1 : Int32) wc349 2) (ua377 : own_up y 3 wa349 wa377 0) (ub377 : own_up y 3 wb349 wb377 1) (uc377 : own_up y 3 wc349 wc377 2) (ua379 : own_up y 2 wa377 wa379 0) (ub379 : own_up y 2 wb377 wb379 1) (uc379 : own_up y 2 wc377 wc379 2) : (x = 0 → wa379 = 3) ∧ (x = 1 → wb379 = 3) ∧ (x = 2 → wc379 = 3) := by
  rcases hx3 with rfl | rfl | rfl <;> rcases hy3 with rfl | rfl | rfl
  all_goals first | (exfalso; revert hxy; decide) | skip
  all_goals (rcases ua349 with ⟨q, rfl⟩ | ⟨q, rfl⟩)
  all_goals first | (exfalso; revert q; decide) | skip
  all_goals clear q
  all_goals (rcases ub349 with ⟨q, rfl⟩ | ⟨q, rfl⟩)
  all_goals first | (exfalso; revert q; decide) | skip
  all_goals clear q
  all_goals (rcases uc349 with ⟨q, rfl⟩ | ⟨q, rfl⟩)
  all_goals first | (exfalso; revert q; decide) | skip
  all_goals clear q
  all_goals (rcases ua377 with ⟨q, rfl⟩ | ⟨q, rfl⟩)
  all_goals first | (exfalso; revert q; decide) | skip
  all_goals clear q
  all_goals (rcases ub377 with ⟨q, rfl⟩ | ⟨q, rfl⟩)
  all_goals first | (exfalso; revert q; decide) | skip
  all_goals clear q
  all_goals (rcases uc377 with ⟨q, rfl⟩ | ⟨q, rfl⟩)
  all_goals first | (exfalso; revert q; decide) | skip
  all_goals clear q
  all_goals (rcases ua379 with ⟨q, rfl⟩ | ⟨q, rfl⟩)
  all_goals first | (exfalso; revert q; decide) | skip
  all_goals clear q
  all_goals (rcases ub379 with ⟨q, rfl⟩ | ⟨q, rfl⟩)
  all_goals first | (exfalso; revert q; decide) | skip
  all_goals clear q
  all_goals (rcases uc379 with ⟨q, rfl⟩ | ⟨q, rfl⟩)
  all_goals first | (exfalso; revert q; decide) | skip
  all_goals clear q
  all_goals decide
theorem own_fin46 (x y : Int32) (hx3 : x = 0 ∨ x = 1 ∨ x = 2) (hy3 : y = 0 ∨ y = 1 ∨ y = 2) (hxy : x ≠ y) (wa349 wb349 wc349 wa377 wb377 wc377 wa379 wb379 wc379 wa384 wb384 wc384 : Int32) (ua349 : own_up x 3 (1 : Int32) wa349 0) (ub349 : own_up x 3 (1 : Int32) wb349 1) (uc349 : own_up x 3 (1 : Int32) wc349 2) (ua377 : own_up y 3 wa349 wa377 0) (ub377 : own_up y 3 wb349 wb377 1) (uc377 : own_up y 3 wc349 wc377 2) (ua379 : own_up y 2 wa377 wa379 0) (ub379 : own_up y 2 wb377 wb379 1) (uc379 : own_up y 2 wc377 wc379 2) (ua384 : own_up x 2 wa379 wa384 0) (ub384 : own_up x 2 wb379 wb384 1) (uc384 : own_up x 2 wc379 wc384 2) : (wa384 = 1 → own_bit (((0 : Int64) ||| ((1 : Int64) <<< (y &&& 0x3f).toInt64)) ||| ((1 : Int64) <<< (x &&& 0x3f).toInt64)) (0 : Int32) = 1) ∧ (wa384 = 2 → own_bit (((0 : Int64) ||| ((1 : Int64) <<< (y &&& 0x3f).toInt64)) ||| ((1 : Int64) <<< (x &&& 0x3f).toInt64)) (0 : Int32) = 0) := by
  rcases hx3 with rfl | rfl | rfl <;> rcases hy3 with rfl | rfl | rfl
  all_goals first | (exfalso; revert hxy; decide) | skip
  all_goals (rcases ua349 with ⟨q, rfl⟩ | ⟨q, rfl⟩)
  all_goals first | (exfalso; revert q; decide) | skip
  all_goals clear q
  all_goals (rcases ub349 with ⟨q, rfl⟩ | ⟨q, rfl⟩)
  all_goals first | (exfalso; revert q; decide) | skip
  all_goals clear q
  all_goals (rcases uc349 with ⟨q, rfl⟩ | ⟨q, rfl⟩)
  all_goals first | (exfalso; revert q; decide) | skip
  all_goals clear q
  all_goals (rcases ua377 with ⟨q, rfl⟩ | ⟨q, rfl⟩)
  all_goals first | (exfalso; revert q; decide) | skip
  all_goals clear q
  all_goals (rcases ub377 with ⟨q, rfl⟩ | ⟨q, rfl⟩)
  all_goals first | (exfalso; revert q; decide) | skip
  all_goals clear q
  all_goals (rcases uc377 with ⟨q, rfl⟩ | ⟨q, rfl⟩)
  all_goals first | (exfalso; revert q; decide) | skip
  all_goals clear q
  all_goals (rcases ua379 with ⟨q, rfl⟩ | ⟨q, rfl⟩)
  all_goals first | (exfalso; revert q; decide) | skip
  all_goals clear q
  all_goals (rcases ub379 with ⟨q, rfl⟩ | ⟨q, rfl⟩)
  all_goals first | (exfalso; revert q; decide) | skip
  all_goals clear q
  all_goals (rcases uc379 with ⟨q, rfl⟩ | ⟨q, rfl⟩)
  all_goals first | (exfalso; revert q; decide) | skip
  all_goals clear q
  all_goals (rcases ua384 with ⟨q, rfl⟩ | ⟨q, rfl⟩)
  all_goals first | (exfalso; revert q; decide) | skip
  all_goals clear q
  all_goals (rcases ub384 with ⟨q, rfl⟩ | ⟨q, rfl⟩)
  all_goals first | (exfalso; revert q; decide) | skip
  all_goals clear q
  all_goals (rcases uc384 with ⟨q, rfl⟩ | ⟨q, rfl⟩)
  all_goals first | (exfalso; revert q; decide) | skip
  all_goals clear q
  all_goals decide
theorem own_fin47 (x y : Int32) (hx3 : x = 0 ∨ x = 1 ∨ x = 2) (hy3 : y = 0 ∨ y = 1 ∨ y = 2) (hxy : x ≠ y) (wa349 wb349 wc349 wa377 wb377 wc377 wa379 wb379 wc379 wa384 wb384 wc384 : Int32) (ua349 : own_up x 3 (1 : Int32) wa349 0) (ub349 : own_up x 3 (1 : Int32) wb349 1) (uc349 : own_up x 3 (1 : Int32) wc349 2) (ua377 : own_up y 3 wa349 wa377 0) (ub377 : own_up y 3 wb349 wb377 1) (uc377 : own_up y 3 wc349 wc377 2) (ua379 : own_up y 2 wa377 wa379 0) (ub379 : own_up y 2 wb377 wb379 1) (uc379 : own_up y 2 wc377 wc379 2) (ua384 : own_up x 2 wa379 wa384 0) (ub384 : own_up x 2 wb379 wb384 1) (uc384 : own_up x 2 wc379 wc384 2) : (wb384 = 1 → own_bit (((0 : Int64) ||| ((1 : Int64) <<< (y &&& 0x3f).toInt64)) ||| ((1 : Int64) <<< (x &&& 0x3f).toInt64)) (1 : Int32) = 1) ∧ (wb384 = 2 → own_bit (((0 : Int64) ||| ((1 : Int64) <<< (y &&& 0x3f).toInt64)) ||| ((1 : Int64) <<< (x &&& 0x3f).toInt64)) (1 : Int32) = 0) := by
  rcases hx3 with rfl | rfl | rfl <;> rcases hy3 with rfl | rfl | rfl
  all_goals first | (exfalso; revert hxy; decide) | skip
  all_goals (rcases ua349 with ⟨q, rfl⟩ | ⟨q, rfl⟩)
  all_goals first | (exfalso; revert q; decide) | skip
  all_goals clear q
  all_goals (rcases ub349 with ⟨q, rfl⟩ | ⟨q, rfl⟩)
  all_goals first | (exfalso; revert q; decide) | skip
  all_goals clear q
  all_goals (rcases uc349 with ⟨q, rfl⟩ | ⟨q, rfl⟩)
  all_goals first | (exfalso; revert q; decide) | skip
  all_goals clear q
  all_goals (rcases ua377 with ⟨q, rfl⟩ | ⟨q, rfl⟩)
  all_goals first | (exfalso; revert q; decide) | skip
  all_goals clear q
  all_goals (rcases ub377 with ⟨q, rfl⟩ | ⟨q, rfl⟩)
  all_goals first | (exfalso; revert q; decide) | skip
  all_goals clear q
  all_goals (rcases uc377 with ⟨q, rfl⟩ | ⟨q, rfl⟩)
  all_goals first | (exfalso; revert q; decide) | skip
  all_goals clear q
  all_goals (rcases ua379 with ⟨q, rfl⟩ | ⟨q, rfl⟩)
  all_goals first | (exfalso; revert q; decide) | skip
  all_goals clear q
  all_goals (rcases ub379 with ⟨q, rfl⟩ | ⟨q, rfl⟩)
  all_goals first | (exfalso; revert q; decide) | skip
  all_goals clear q
  all_goals (rcases uc379 with ⟨q, rfl⟩ | ⟨q, rfl⟩)
  all_goals first | (exfalso; revert q; decide) | skip
  all_goals clear q
  all_goals (rcases ua384 with ⟨q, rfl⟩ | ⟨q, rfl⟩)
  all_goals first | (exfalso; revert q; decide) | skip
  all_goals clear q
  all_goals (rcases ub384 with ⟨q, rfl⟩ | ⟨q, rfl⟩)
  all_goals first | (exfalso; revert q; decide) | skip
  all_goals clear q
  all_goals (rcases uc384 with ⟨q, rfl⟩ | ⟨q, rfl⟩)
  all_goals first | (exfalso; revert q; decide) | skip
  all_goals clear q
  all_goals decide
theorem own_fin48 (x y : Int32) (hx3 : x = 0 ∨ x = 1 ∨ x = 2) (hy3 : y = 0 ∨ y = 1 ∨ y = 2) (hxy : x ≠ y) (wa349 wb349 wc349 wa377 wb377 wc377 wa379 wb379 wc379 wa384 wb384 wc384 : Int32) (ua349 : own_up x 3 (1 : Int32) wa349 0) (ub349 : own_up x 3 (1 : Int32) wb349 1) (uc349 : own_up x 3 (1 : Int32) wc349 2) (ua377 : own_up y 3 wa349 wa377 0) (ub377 : own_up y 3 wb349 wb377 1) (uc377 : own_up y 3 wc349 wc377 2) (ua379 : own_up y 2 wa377 wa379 0) (ub379 : own_up y 2 wb377 wb379 1) (uc379 : own_up y 2 wc377 wc379 2) (ua384 : own_up x 2 wa379 wa384 0) (ub384 : own_up x 2 wb379 wb384 1) (uc384 : own_up x 2 wc379 wc384 2) : (wc384 = 1 → own_bit (((0 : Int64) ||| ((1 : Int64) <<< (y &&& 0x3f).toInt64)) ||| ((1 : Int64) <<< (x &&& 0x3f).toInt64)) (2 : Int32) = 1) ∧ (wc384 = 2 → own_bit (((0 : Int64) ||| ((1 : Int64) <<< (y &&& 0x3f).toInt64)) ||| ((1 : Int64) <<< (x &&& 0x3f).toInt64)) (2 : Int32) = 0) := by
  rcases hx3 with rfl | rfl | rfl <;> rcases hy3 with rfl | rfl | rfl
  all_goals first | (exfalso; revert hxy; decide) | skip
  all_goals (rcases ua349 with ⟨q, rfl⟩ | ⟨q, rfl⟩)
  all_goals first | (exfalso; revert q; decide) | skip
  all_goals clear q
  all_goals (rcases ub349 with ⟨q, rfl⟩ | ⟨q, rfl⟩)
  all_goals first | (exfalso; revert q; decide) | skip
  all_goals clear q
  all_goals (rcases uc349 with ⟨q, rfl⟩ | ⟨q, rfl⟩)
  all_goals first | (exfalso; revert q; decide) | skip
  all_goals clear q
  all_goals (rcases ua377 with ⟨q, rfl⟩ | ⟨q, rfl⟩)
  all_goals first | (exfalso; revert q; decide) | skip
  all_goals clear q
  all_goals (rcases ub377 with ⟨q, rfl⟩ | ⟨q, rfl⟩)
  all_goals first | (exfalso; revert q; decide) | skip
  all_goals clear q
  all_goals (rcases uc377 with ⟨q, rfl⟩ | ⟨q, rfl⟩)
  all_goals first | (exfalso; revert q; decide) | skip
  all_goals clear q
  all_goals (rcases ua379 with ⟨q, rfl⟩ | ⟨q, rfl⟩)
  all_goals first | (exfalso; revert q; decide) | skip
  all_goals clear q
  all_goals (rcases ub379 with ⟨q, rfl⟩ | ⟨q, rfl⟩)
  all_goals first | (exfalso; revert q; decide) | skip
  all_goals clear q
  all_goals (rcases uc379 with ⟨q, rfl⟩ | ⟨q, rfl⟩)
  all_goals first | (exfalso; revert q; decide) | skip
  all_goals clear q
  all_goals (rcases ua384 with ⟨q, rfl⟩ | ⟨q, rfl⟩)
  all_goals first | (exfalso; revert q; decide) | skip
  all_goals clear q
  all_goals (rcases ub384 with ⟨q, rfl⟩ | ⟨q, rfl⟩)
  all_goals first | (exfalso; revert q; decide) | skip
  all_goals clear q
  all_goals (rcases uc384 with ⟨q, rfl⟩ | ⟨q, rfl⟩)
  all_goals first | (exfalso; revert q; decide) | skip
  all_goals clear q
  all_goals decide
theorem own_fin49 (x y : Int32) (hx3 : x = 0 ∨ x = 1 ∨ x = 2) (hy3 : y = 0 ∨ y = 1 ∨ y = 2) (hxy : x ≠ y) (wa349 wb349 wc349 wa377 wb377 wc377 wa379 wb379 wc379 wa384 wb384 wc384 : Int32) (ua349 : own_up x 3 (1 : Int32) wa349 0) (ub349 : own_up x 3 (1 : Int32) wb349 1) (uc349 : own_up x 3 (1 : Int32) wc349 2) (ua377 : own_up y 3 wa349 wa377 0) (ub377 : own_up y 3 wb349 wb377 1) (uc377 : own_up y 3 wc349 wc377 2) (ua379 : own_up y 2 wa377 wa379 0) (ub379 : own_up y 2 wb377 wb379 1) (uc379 : own_up y 2 wc377 wc379 2) (ua384 : own_up x 2 wa379 wa384 0) (ub384 : own_up x 2 wb379 wb384 1) (uc384 : own_up x 2 wc379 wc384 2) : ((0 : Int32) = 1 → own_bit (((0 : Int64) ||| ((1 : Int64) <<< (y &&& 0x3f).toInt64)) ||| ((1 : Int64) <<< (x &&& 0x3f).toInt64)) (3 : Int32) = 1) ∧ ((0 : Int32) = 2 → own_bit (((0 : Int64) ||| ((1 : Int64) <<< (y &&& 0x3f).toInt64)) ||| ((1 : Int64) <<< (x &&& 0x3f).toInt64)) (3 : Int32) = 0) := by
  rcases hx3 with rfl | rfl | rfl <;> rcases hy3 with rfl | rfl | rfl
  all_goals first | (exfalso; revert hxy; decide) | skip
  all_goals (rcases ua349 with ⟨q, rfl⟩ | ⟨q, rfl⟩)
  all_goals first | (exfalso; revert q; decide) | skip
  all_goals clear q
  all_goals (rcases ub349 with ⟨q, rfl⟩ | ⟨q, rfl⟩)
  all_goals first | (exfalso; revert q; decide) | skip
  all_goals clear q
  all_goals (rcases uc349 with ⟨q, rfl⟩ | ⟨q, rfl⟩)
  all_goals first | (exfalso; revert q; decide) | skip
  all_goals clear q
  all_goals (rcases ua377 with ⟨q, rfl⟩ | ⟨q, rfl⟩)
  all_goals first | (exfalso; revert q; decide) | skip
  all_goals clear q
  all_goals (rcases ub377 with ⟨q, rfl⟩ | ⟨q, rfl⟩)
  all_goals first | (exfalso; revert q; decide) | skip
  all_goals clear q
  all_goals (rcases uc377 with ⟨q, rfl⟩ | ⟨q, rfl⟩)
  all_goals first | (exfalso; revert q; decide) | skip
  all_goals clear q
  all_goals (rcases ua379 with ⟨q, rfl⟩ | ⟨q, rfl⟩)
  all_goals first | (exfalso; revert q; decide) | skip
  all_goals clear q
  all_goals (rcases ub379 with ⟨q, rfl⟩ | ⟨q, rfl⟩)
  all_goals first | (exfalso; revert q; decide) | skip
  all_goals clear q
  all_goals (rcases uc379 with ⟨q, rfl⟩ | ⟨q, rfl⟩)
  all_goals first | (exfalso; revert q; decide) | skip
  all_goals clear q
  all_goals (rcases ua384 with ⟨q, rfl⟩ | ⟨q, rfl⟩)
  all_goals first | (exfalso; revert q; decide) | skip
  all_goals clear q
  all_goals (rcases ub384 with ⟨q, rfl⟩ | ⟨q, rfl⟩)
  all_goals first | (exfalso; revert q; decide) | skip
  all_goals clear q
  all_goals (rcases uc384 with ⟨q, rfl⟩ | ⟨q, rfl⟩)
  all_goals first | (exfalso; revert q; decide) | skip
  all_goals clear q
  all_goals decide
theorem own_fin50 (x y : Int32) (hx3 : x = 0 ∨ x = 1 ∨ x = 2) (hy3 : y = 0 ∨ y = 1 ∨ y = 2) (hxy : x ≠ y) (wa349 wb349 wc349 wa377 wb377 wc377 wa379 wb379 wc379 wa384 wb384 wc384 : Int32) (ua349 : own_up x 3 (1 : Int32) wa349 0) (ub349 : own_up x 3 (1 : Int32) wb349 1) (uc349 : own_up x 3 (1 : Int32) wc349 2) (ua377 : own_up y 3 wa349 wa377 0) (ub377 : own_up y 3 wb349 wb377 1) (uc377 : own_up y 3 wc349 wc377 2) (ua379 : own_up y 2 wa377 wa379 0) (ub379 : own_up y 2 wb377 wb379 1) (uc379 : own_up y 2 wc377 wc379 2) (ua384 : own_up x 2 wa379 wa384 0) (ub384 : own_up x 2 wb379 wb384 1) (uc384 : own_up x 2 wc379 wc384 2) : ((0 : Int32) = 1 → own_bit (((0 : Int64) ||| ((1 : Int64) <<< (y &&& 0x3f).toInt64)) ||| ((1 : Int64) <<< (x &&& 0x3f).toInt64)) (4 : Int32) = 1) ∧ ((0 : Int32) = 2 → own_bit (((0 : Int64) ||| ((1 : Int64) <<< (y &&& 0x3f).toInt64)) ||| ((1 : Int64) <<< (x &&& 0x3f).toInt64)) (4 : Int32) = 0) := by
  rcases hx3 with rfl | rfl | rfl <;> rcases hy3 with rfl | rfl | rfl
  all_goals first | (exfalso; revert hxy; decide) | skip
  all_goals (rcases ua349 with ⟨q, rfl⟩ | ⟨q, rfl⟩)
  all_goals first | (exfalso; revert q; decide) | skip
  all_goals clear q
  all_goals (rcases ub349 with ⟨q, rfl⟩ | ⟨q, rfl⟩)
  all_goals first | (exfalso; revert q; decide) | skip
  all_goals clear q
  all_goals (rcases uc349 with ⟨q, rfl⟩ | ⟨q, rfl⟩)
  all_goals first | (exfalso; revert q; decide) | skip
  all_goals clear q
  all_goals (rcases ua377 with ⟨q, rfl⟩ | ⟨q, rfl⟩)
  all_goals first | (exfalso; revert q; decide) | skip
  all_goals clear q
  all_goals (rcases ub377 with ⟨q, rfl⟩ | ⟨q, rfl⟩)
  all_goals first | (exfalso; revert q; decide) | skip
  all_goals clear q
  all_goals (rcases uc377 with ⟨q, rfl⟩ | ⟨q, rfl⟩)
  all_goals first | (exfalso; revert q; decide) | skip
  all_goals clear q
  all_goals (rcases ua379 with ⟨q, rfl⟩ | ⟨q, rfl⟩)
  all_goals first | (exfalso; revert q; decide) | skip
  all_goals clear q
  all_goals (rcases ub379 with ⟨q, rfl⟩ | ⟨q, rfl⟩)
  all_goals first | (exfalso; revert q; decide) | skip
  all_goals clear q
  all_goals (rcases uc379 with ⟨q, rfl⟩ | ⟨q, rfl⟩)
  all_goals first | (exfalso; revert q; decide) | skip
  all_goals clear q
  all_goals (rcases ua384 with ⟨q, rfl⟩ | ⟨q, rfl⟩)
  all_goals first | (exfalso; revert q; decide) | skip
  all_goals clear q
  all_goals (rcases ub384 with ⟨q, rfl⟩ | ⟨q, rfl⟩)
  all_goals first | (exfalso; revert q; decide) | skip
  all_goals clear q
  all_goals (rcases uc384 with ⟨q, rfl⟩ | ⟨q, rfl⟩)
  all_goals first | (exfalso; revert q; decide) | skip
  all_goals clear q
  all_goals decide
set_option maxRecDepth 65536 in
set_option maxHeartbeats 40000000 in
theorem rm0 (l : Launch) (Z : State) (a0 : Array Value) (hw : ∀ d ∈ tables_1, d.before a0 Z = true) (ws : List Jvm.Cond) (p0 p1 p2 p3 : Int32) (h0 : Heap) (n0 : Nat) (Z0 : n0 ≤ h0.size)  :
    MetFree l x (head1 (Jvm.Cond.code x code maxLocals ret :: ws) room_1) (fun aa U => aa = #[(.int p0), (.int p1), (.int p2), (.int p3)] ∧ Z.Warmed39 U.vm ∧ U.heap = h0) (fun _ _ _ _ _ => True) (fun _ U o U' => ∃ v L, o = .returned v ∧ Q0 n0 v U'.heap L ∧ FrameEnd U o U' L 32 256) := by
  refine own_body pf_10 ?_
  intro p e s m below meth c s₁ hx hby hml hown hnm hlk hret hZ X0 e0
  have N0 : Fr n0 [] := Fr.nil n0
  refine own_go (f' := (mkF m 0 #[.val (.int p0), .val (.int p1), .val (.int p2), .val (.int p3), .unset, .unset, .unset, .unset, .unset, .unset, .unset, .unset, .unset, .unset] [])) (fun t k => castTop (ef_rm0 m p0 p1 p2 p3) k) ?_
  refine own_new X0 hx (pc' := 3) hZ hown (Wd0 hw) (Wd1 hw) (Wd2 hw) e0 (hb hby at_0) (by decide) (by decide) rfl (fun T1 h1 nb1 g1 X1 e1 E1 A1 D1 => ?_)
  have ge_nb1 : n0 ≤ nb1 := Nat.le_trans Z0 (Nat.le_of_eq g1.symm)
  have Z2 : n0 ≤ h1.size := Nat.le_trans Z0 E1.1
  have F3 : Fld Z h1 nb1 "com/example/pandarus/pandarus/Slots" "held" "[Lcom/example/pandarus/pandarus/Ranked;" .null := D1 (Or.inl (Wd12 hw)) (ty := (.array (.object "com/example/pandarus/pandarus/Ranked"))) (by decide)
  have F4 : Fld Z h1 nb1 "com/example/pandarus/pandarus/Slots" "answered" "[Lcom/example/pandarus/pandarus/Subscription;" .null := D1 (Or.inl (Wd16 hw)) (ty := (.array (.object "com/example/pandarus/pandarus/Subscription"))) (by decide)
  have F5 : Fld Z h1 nb1 "com/example/pandarus/pandarus/Slots" "freed" "[I" .null := D1 (Or.inl (Wd19 hw)) (ty := (.array .int)) (by decide)
  have F6 : Fld Z h1 nb1 "com/example/pandarus/pandarus/Slots" "again" "[J" .null := D1 (Or.inl (Wd22 hw)) (ty := (.array .long)) (by decide)
  have F7 : Fld Z h1 nb1 "com/example/pandarus/pandarus/Slots" "free" "I" (.int (0 : Int32)) := D1 (Or.inl (Wd29 hw)) (ty := .int) (by decide)
  have F8 : Fld Z h1 nb1 "com/example/pandarus/pandarus/Slots" "taken" "I" (.int (0 : Int32)) := D1 (Or.inl (Wd31 hw)) (ty := .int) (by decide)
  refine own_dup X1 hx (pc' := 4) (hb hby at_3) rfl rfl ?_
  refine own_callI X1 hx (pc' := 7) hZ rfl hown (Wd3 hw) (Wd4 hw) (Wd5 hw) (Wd2 hw) (by decide) (rm_si l Z a0 hw [] nb1 h1 n0 Z2 ge_nb1 A1 F3 F4 F5 F6 F8 F7) e1 (b := nb1) 1 (by decide) (by decide) (by decide) (by decide) [] [(.ref nb1)] (by rw [hml]; rfl) (lenOf pd_0 rfl) rfl rfl (Nat.le_of_eq rfl) (hb hby at_4) rfl (fun v9 T9 L9 X9 hQ9 => ?_)
  obtain ⟨rfl, Nq9, K9, hd, an, fr, ag, kh, ka, kf, kg, DD, SS⟩ := hQ9
  have N10 := Fr.app N0 Nq9
  have Z11 : n0 ≤ T9.heap.size := Nat.le_trans Z2 K9.1
  have F12 := (Exa.keep A1 K9)
  have E_s := SS.1
  obtain ⟨⟨g_sl, g_hd, g_an, g_fr, g_ag⟩, ⟨n1, n2, n3, n4⟩, ⟨n5, n6, n7, n8, n9, n10⟩, OV⟩ := id DD
  show own_G p.tables e below _ T9 (mkF m 7 #[.val (.int p0), .val (.int p1), .val (.int p2), .val (.int p3), .unset, .unset, .unset, .unset, .unset, .unset, .unset, .unset, .unset, .unset] [(.ref nb1)])
  refine own_astore X9 hx (pc' := 9) (Ls' := #[.val (.int p0), .val (.int p1), .val (.int p2), .val (.int p3), .val (.ref nb1), .unset, .unset, .unset, .unset, .unset, .unset, .unset, .unset, .unset]) (hb hby at_7) rfl rfl rfl ?_
  refine own_aload X9 hx (pc' := 11) (hb hby at_9) rfl rfl rfl ?_
  refine own_aconstNull X9 hx (pc' := 12) (hb hby at_11) rfl ?_
  refine own_lconst X9 hx (pc' := 13) (0 : Int64) (hb hby at_12) rfl rfl ?_
  refine own_callV X9 hx (pc' := 16) hZ hown (Wd23 hw) (Wd25 hw) (Wd26 hw) (Wd27 hw) (Wd2 hw) (by decide) (rm_h0 l Z a0 hw [] nb1 hd an fr ag kh ka kf kg (0 : Int32) (1 : Int32) (0 : Int64) (0 : Int32) (0 : Int32) (0 : Int64) T9.heap n0 Z11 (by decide) (by decide) DD SS) rfl E_s 0 (by decide) (by decide) (by decide) (by decide) [.null, (.long (0 : Int64))] [] (by rw [hml]; rfl) (lenOf pd_4 rfl) rfl rfl (Nat.le_of_eq rfl) (hb hby at_13) rfl (fun v13 T13 L13 X13 hQ13 => ?_)
  obtain ⟨r0, rfl, gs13, Nq13, K13, Ek13, Fk13, SS13⟩ := hQ13
  have N14 := Fr.app N10 Nq13
  have lt13 : nb1 < T9.heap.size ∧ hd < T9.heap.size ∧ an < T9.heap.size ∧ fr < T9.heap.size ∧ ag < T9.heap.size := by obtain ⟨q1, _, _, _, _, _, _, ⟨_, _, q2⟩, ⟨_, _, q3⟩, q4, q5⟩ := SS; exact ⟨q1.lt, q2.lt, q3.lt, q4.lt, q5.lt⟩
  have ne_r0_nb1 : r0 ≠ nb1 := Ne.symm (Nat.ne_of_lt (Nat.lt_of_lt_of_le lt13.1 gs13))
  have ne_r0_hd : r0 ≠ hd := Ne.symm (Nat.ne_of_lt (Nat.lt_of_lt_of_le lt13.2.1 gs13))
  have ne_r0_an : r0 ≠ an := Ne.symm (Nat.ne_of_lt (Nat.lt_of_lt_of_le lt13.2.2.1 gs13))
  have ne_r0_fr : r0 ≠ fr := Ne.symm (Nat.ne_of_lt (Nat.lt_of_lt_of_le lt13.2.2.2.1 gs13))
  have ne_r0_ag : r0 ≠ ag := Ne.symm (Nat.ne_of_lt (Nat.lt_of_lt_of_le lt13.2.2.2.2 gs13))
  have Z15 : n0 ≤ T13.heap.size := Nat.le_trans Z11 K13.1
  have F16 := (Exa.keep E_s K13)
  show own_G p.tables e below _ T13 (mkF m 16 #[.val (.int p0), .val (.int p1), .val (.int p2), .val (.int p3), .val (.ref nb1), .unset, .unset, .unset, .unset, .unset, .unset, .unset, .unset, .unset] [(.ref r0)])
  refine own_astore X13 hx (pc' := 18) (Ls' := #[.val (.int p0), .val (.int p1), .val (.int p2), .val (.int p3), .val (.ref nb1), .val (.ref r0), .unset, .unset, .unset, .unset, .unset, .unset, .unset, .unset]) (hb hby at_16) rfl rfl rfl ?_
  refine own_aload X13 hx (pc' := 20) (hb hby at_18) rfl rfl rfl ?_
  refine own_aconstNull X13 hx (pc' := 21) (hb hby at_20) rfl ?_
  refine own_lconst X13 hx (pc' := 22) (1 : Int64) (hb hby at_21) rfl rfl ?_
  refine own_callV X13 hx (pc' := 25) hZ hown (Wd23 hw) (Wd25 hw) (Wd26 hw) (Wd27 hw) (Wd2 hw) (by decide) (rm_h0 l Z a0 hw [] nb1 hd an fr ag kh ka kf kg (1 : Int32) (2 : Int32) (0 : Int64) (0 : Int32) (0 : Int32) (1 : Int64) T13.heap n0 Z15 (by decide) (by decide) DD SS13) rfl F16 0 (by decide) (by decide) (by decide) (by decide) [.null, (.long (1 : Int64))] [] (by rw [hml]; rfl) (lenOf pd_4 rfl) rfl rfl (Nat.le_of_eq rfl) (hb hby at_22) rfl (fun v17 T17 L17 X17 hQ17 => ?_)
  obtain ⟨r1, rfl, gs17, Nq17, K17, Ek17, Fk17, SS17⟩ := hQ17
  have N18 := Fr.app N14 Nq17
  have lt17 : nb1 < T13.heap.size ∧ hd < T13.heap.size ∧ an < T13.heap.size ∧ fr < T13.heap.size ∧ ag < T13.heap.size := by obtain ⟨q1, _, _, _, _, _, _, ⟨_, _, q2⟩, ⟨_, _, q3⟩, q4, q5⟩ := SS13; exact ⟨q1.lt, q2.lt, q3.lt, q4.lt, q5.lt⟩
  have ne_r1_nb1 : r1 ≠ nb1 := Ne.symm (Nat.ne_of_lt (Nat.lt_of_lt_of_le lt17.1 gs17))
  have ne_r1_hd : r1 ≠ hd := Ne.symm (Nat.ne_of_lt (Nat.lt_of_lt_of_le lt17.2.1 gs17))
  have ne_r1_an : r1 ≠ an := Ne.symm (Nat.ne_of_lt (Nat.lt_of_lt_of_le lt17.2.2.1 gs17))
  have ne_r1_fr : r1 ≠ fr := Ne.symm (Nat.ne_of_lt (Nat.lt_of_lt_of_le lt17.2.2.2.1 gs17))
  have ne_r1_ag : r1 ≠ ag := Ne.symm (Nat.ne_of_lt (Nat.lt_of_lt_of_le lt17.2.2.2.2 gs17))
  have Z19 : n0 ≤ T17.heap.size := Nat.le_trans Z15 K17.1
  have F20 := (Exa.keep F16 K17)
  have F21 := (Exa.keep Ek13 K17)
  have F22 := (Fk13.keep K17 (ninS ne_r0_nb1 (ninS ne_r0_hd (ninS ne_r0_an (ninS ne_r0_fr (ninS ne_r0_ag nin0))))))
  show own_G p.tables e below _ T17 (mkF m 25 #[.val (.int p0), .val (.int p1), .val (.int p2), .val (.int p3), .val (.ref nb1), .val (.ref r0), .unset, .unset, .unset, .unset, .unset, .unset, .unset, .unset] [(.ref r1)])
  refine own_astore X17 hx (pc' := 27) (Ls' := #[.val (.int p0), .val (.int p1), .val (.int p2), .val (.int p3), .val (.ref nb1), .val (.ref r0), .val (.ref r1), .unset, .unset, .unset, .unset, .unset, .unset, .unset]) (hb hby at_25) rfl rfl rfl ?_
  refine own_aload X17 hx (pc' := 29) (hb hby at_27) rfl rfl rfl ?_
  refine own_aconstNull X17 hx (pc' := 30) (hb hby at_29) rfl ?_
  refine own_ldc2J X17 hx (pc' := 33) hZ hown (Wd50 hw) (hb hby at_30) rfl ?_
  refine own_callV X17 hx (pc' := 36) hZ hown (Wd23 hw) (Wd25 hw) (Wd26 hw) (Wd27 hw) (Wd2 hw) (by decide) (rm_h0 l Z a0 hw [] nb1 hd an fr ag kh ka kf kg (2 : Int32) (3 : Int32) (0 : Int64) (0 : Int32) (0 : Int32) (2 : Int64) T17.heap n0 Z19 (by decide) (by decide) DD SS17) rfl F20 0 (by decide) (by decide) (by decide) (by decide) [.null, (.long (2 : Int64))] [] (by rw [hml]; rfl) (lenOf pd_4 rfl) rfl rfl (Nat.le_of_eq rfl) (hb hby at_33) rfl (fun v23 T23 L23 X23 hQ23 => ?_)
  obtain ⟨r2, rfl, gs23, Nq23, K23, Ek23, Fk23, SS23⟩ := hQ23
  have N24 := Fr.app N18 Nq23
  have lt23 : nb1 < T17.heap.size ∧ hd < T17.heap.size ∧ an < T17.heap.size ∧ fr < T17.heap.size ∧ ag < T17.heap.size := by obtain ⟨q1, _, _, _, _, _, _, ⟨_, _, q2⟩, ⟨_, _, q3⟩, q4, q5⟩ := SS17; exact ⟨q1.lt, q2.lt, q3.lt, q4.lt, q5.lt⟩
  have ne_r2_nb1 : r2 ≠ nb1 := Ne.symm (Nat.ne_of_lt (Nat.lt_of_lt_of_le lt23.1 gs23))
  have ne_r2_hd : r2 ≠ hd := Ne.symm (Nat.ne_of_lt (Nat.lt_of_lt_of_le lt23.2.1 gs23))
  have ne_r2_an : r2 ≠ an := Ne.symm (Nat.ne_of_lt (Nat.lt_of_lt_of_le lt23.2.2.1 gs23))
  have ne_r2_fr : r2 ≠ fr := Ne.symm (Nat.ne_of_lt (Nat.lt_of_lt_of_le lt23.2.2.2.1 gs23))
  have ne_r2_ag : r2 ≠ ag := Ne.symm (Nat.ne_of_lt (Nat.lt_of_lt_of_le lt23.2.2.2.2 gs23))
  have Z25 : n0 ≤ T23.heap.size := Nat.le_trans Z19 K23.1
  have F26 := (Exa.keep F20 K23)
  have F27 := (Exa.keep F21 K23)
  have F28 := (F22.keep K23 (ninS ne_r0_nb1 (ninS ne_r0_hd (ninS ne_r0_an (ninS ne_r0_fr (ninS ne_r0_ag nin0))))))
  have F29 := (Exa.keep Ek17 K23)
  have F30 := (Fk17.keep K23 (ninS ne_r1_nb1 (ninS ne_r1_hd (ninS ne_r1_an (ninS ne_r1_fr (ninS ne_r1_ag nin0))))))
  show own_G p.tables e below _ T23 (mkF m 36 #[.val (.int p0), .val (.int p1), .val (.int p2), .val (.int p3), .val (.ref nb1), .val (.ref r0), .val (.ref r1), .unset, .unset, .unset, .unset, .unset, .unset, .unset] [(.ref r2)])
  refine own_astore X23 hx (pc' := 38) (Ls' := #[.val (.int p0), .val (.int p1), .val (.int p2), .val (.int p3), .val (.ref nb1), .val (.ref r0), .val (.ref r1), .val (.ref r2), .unset, .unset, .unset, .unset, .unset, .unset]) (hb hby at_36) rfl rfl rfl ?_
  have J237 : ∀ (sa : Addr) (ks : ClassId) (x y r mm t f s0 s1 v0 v1 v2 v3 v4 : Int32) (g : Int64) (TJ : State) (locsJ : List Loc) (hJ : Heap) (XJ : Stand p l e room_1 s m #[(.int p0), (.int p1), (.int p2), (.int p3)] below meth c TJ locsJ 12 90) (eJ : TJ.heap = hJ) (NJ : Fr n0 locsJ) (ZJ : n0 ≤ hJ.size) (EJ : Exa Z hJ nb1 "com/example/pandarus/pandarus/Slots") (SSJ : own_S Z hJ nb1 hd an fr ag kh ka kf kg t f g s0 s1) (VJ : Arv Z hJ sa ks .int (5 : Int32) [(.int v0), (.int v1), (.int v2), (.int v3), (.int v4)] (.int (0 : Int32))) (hck0 : (v0 = 1 → own_bit g (0 : Int32) = 1) ∧ (v0 = 2 → own_bit g (0 : Int32) = 0)) (hck1 : (v1 = 1 → own_bit g (1 : Int32) = 1) ∧ (v1 = 2 → own_bit g (1 : Int32) = 0)) (hck2 : (v2 = 1 → own_bit g (2 : Int32) = 1) ∧ (v2 = 2 → own_bit g (2 : Int32) = 0)) (hck3 : (v3 = 1 → own_bit g (3 : Int32) = 1) ∧ (v3 = 2 → own_bit g (3 : Int32) = 0)) (hck4 : (v4 = 1 → own_bit g (4 : Int32) = 1) ∧ (v4 = 2 → own_bit g (4 : Int32) = 0)), own_G p.tables e below (own_P s (Q0 n0) 32 256) TJ (mkF m 237 #[.val (.int p0), .val (.int p1), .val (.int p2), .val (.int p3), .val (.ref nb1), .val (.ref r0), .val (.ref r1), .val (.ref r2), .val (.ref sa), .val (.int x), .val (.int y), .val (.int r), .val (.int mm), .val (.int (1 : Int32))] []) := by
    intro sa ks x y r mm t f s0 s1 v0 v1 v2 v3 v4 g TJ locsJ hJ XJ eJ NJ ZJ EJ SSJ VJ hck0 hck1 hck2 hck3 hck4
    refine own_iload XJ hx (pc' := 239) (hb hby at_237) rfl rfl ?_
    refine own_ifNo XJ hx (pc' := 242) (hb hby at_239) (feq (by decide : ¬ ((1 : Int32) = (0 : Int32)))).1 rfl ?_
    refine own_aload XJ hx (pc' := 244) (hb hby at_242) rfl rfl rfl ?_
    refine own_aload XJ hx (pc' := 246) (hb hby at_244) rfl rfl rfl ?_
    refine own_iconst XJ hx (pc' := 247) (0 : Int32) (hb hby at_246) rfl rfl ?_
    refine own_callS XJ hx (pc' := 250) hZ hown (Wd71 hw) (Wd72 hw) (Wd54 hw) (Wd73 hw) (by decide) (rm_ck0 l Z a0 hw [] nb1 hd an fr ag kh ka kf kg t f g s0 s1 sa ks v0 v1 v2 v3 v4 hJ n0 ZJ hck0 VJ SSJ) eJ 0 (by decide) (by decide) (by decide) (by decide) [(.ref nb1), (.ref sa), (.int (0 : Int32))] [] (by rw [hml]; rfl) (lenOf pd_5 rfl) rfl rfl (Nat.le_of_eq rfl) (hb hby at_247) rfl (fun v31 T31 L31 X31 hQ31 => ?_)
    obtain ⟨rfl, Nq31, e31⟩ := hQ31
    have N32 := Fr.app NJ Nq31
    show own_G p.tables e below _ T31 (mkF m 250 #[.val (.int p0), .val (.int p1), .val (.int p2), .val (.int p3), .val (.ref nb1), .val (.ref r0), .val (.ref r1), .val (.ref r2), .val (.ref sa), .val (.int x), .val (.int y), .val (.int r), .val (.int mm), .val (.int (1 : Int32))] [(.int (1 : Int32))])
    refine own_ifNo X31 hx (pc' := 253) (hb hby at_250) (feq (by decide : ¬ ((1 : Int32) = (0 : Int32)))).1 rfl ?_
    refine own_aload X31 hx (pc' := 255) (hb hby at_253) rfl rfl rfl ?_
    refine own_aload X31 hx (pc' := 257) (hb hby at_255) rfl rfl rfl ?_
    refine own_iconst X31 hx (pc' := 258) (1 : Int32) (hb hby at_257) rfl rfl ?_
    refine own_callS X31 hx (pc' := 261) hZ hown (Wd71 hw) (Wd72 hw) (Wd54 hw) (Wd73 hw) (by decide) (rm_ck1 l Z a0 hw [] nb1 hd an fr ag kh ka kf kg t f g s0 s1 sa ks v0 v1 v2 v3 v4 hJ n0 ZJ hck1 VJ SSJ) e31 0 (by decide) (by decide) (by decide) (by decide) [(.ref nb1), (.ref sa), (.int (1 : Int32))] [] (by rw [hml]; rfl) (lenOf pd_5 rfl) rfl rfl (Nat.le_of_eq rfl) (hb hby at_258) rfl (fun v33 T33 L33 X33 hQ33 => ?_)
    obtain ⟨rfl, Nq33, e33⟩ := hQ33
    have N34 := Fr.app N32 Nq33
    show own_G p.tables e below _ T33 (mkF m 261 #[.val (.int p0), .val (.int p1), .val (.int p2), .val (.int p3), .val (.ref nb1), .val (.ref r0), .val (.ref r1), .val (.ref r2), .val (.ref sa), .val (.int x), .val (.int y), .val (.int r), .val (.int mm), .val (.int (1 : Int32))] [(.int (1 : Int32))])
    refine own_ifNo X33 hx (pc' := 264) (hb hby at_261) (feq (by decide : ¬ ((1 : Int32) = (0 : Int32)))).1 rfl ?_
    refine own_aload X33 hx (pc' := 266) (hb hby at_264) rfl rfl rfl ?_
    refine own_aload X33 hx (pc' := 268) (hb hby at_266) rfl rfl rfl ?_
    refine own_iconst X33 hx (pc' := 269) (2 : Int32) (hb hby at_268) rfl rfl ?_
    refine own_callS X33 hx (pc' := 272) hZ hown (Wd71 hw) (Wd72 hw) (Wd54 hw) (Wd73 hw) (by decide) (rm_ck2 l Z a0 hw [] nb1 hd an fr ag kh ka kf kg t f g s0 s1 sa ks v0 v1 v2 v3 v4 hJ n0 ZJ hck2 VJ SSJ) e33 0 (by decide) (by decide) (by decide) (by decide) [(.ref nb1), (.ref sa), (.int (2 : Int32))] [] (by rw [hml]; rfl) (lenOf pd_5 rfl) rfl rfl (Nat.le_of_eq rfl) (hb hby at_269) rfl (fun v35 T35 L35 X35 hQ35 => ?_)
    obtain ⟨rfl, Nq35, e35⟩ := hQ35
    have N36 := Fr.app N34 Nq35
    show own_G p.tables e below _ T35 (mkF m 272 #[.val (.int p0), .val (.int p1), .val (.int p2), .val (.int p3), .val (.ref nb1), .val (.ref r0), .val (.ref r1), .val (.ref r2), .val (.ref sa), .val (.int x), .val (.int y), .val (.int r), .val (.int mm), .val (.int (1 : Int32))] [(.int (1 : Int32))])
    refine own_ifNo X35 hx (pc' := 275) (hb hby at_272) (feq (by decide : ¬ ((1 : Int32) = (0 : Int32)))).1 rfl ?_
    refine own_aload X35 hx (pc' := 277) (hb hby at_275) rfl rfl rfl ?_
    refine own_aload X35 hx (pc' := 279) (hb hby at_277) rfl rfl rfl ?_
    refine own_iconst X35 hx (pc' := 280) (3 : Int32) (hb hby at_279) rfl rfl ?_
    refine own_callS X35 hx (pc' := 283) hZ hown (Wd71 hw) (Wd72 hw) (Wd54 hw) (Wd73 hw) (by decide) (rm_ck3 l Z a0 hw [] nb1 hd an fr ag kh ka kf kg t f g s0 s1 sa ks v0 v1 v2 v3 v4 hJ n0 ZJ hck3 VJ SSJ) e35 0 (by decide) (by decide) (by decide) (by decide) [(.ref nb1), (.ref sa), (.int (3 : Int32))] [] (by rw [hml]; rfl) (lenOf pd_5 rfl) rfl rfl (Nat.le_of_eq rfl) (hb hby at_280) rfl (fun v37 T37 L37 X37 hQ37 => ?_)
    obtain ⟨rfl, Nq37, e37⟩ := hQ37
    have N38 := Fr.app N36 Nq37
    show own_G p.tables e below _ T37 (mkF m 283 #[.val (.int p0), .val (.int p1), .val (.int p2), .val (.int p3), .val (.ref nb1), .val (.ref r0), .val (.ref r1), .val (.ref r2), .val (.ref sa), .val (.int x), .val (.int y), .val (.int r), .val (.int mm), .val (.int (1 : Int32))] [(.int (1 : Int32))])
    refine own_ifNo X37 hx (pc' := 286) (hb hby at_283) (feq (by decide : ¬ ((1 : Int32) = (0 : Int32)))).1 rfl ?_
    refine own_aload X37 hx (pc' := 288) (hb hby at_286) rfl rfl rfl ?_
    refine own_aload X37 hx (pc' := 290) (hb hby at_288) rfl rfl rfl ?_
    refine own_iconst X37 hx (pc' := 291) (4 : Int32) (hb hby at_290) rfl rfl ?_
    refine own_callS X37 hx (pc' := 294) hZ hown (Wd71 hw) (Wd72 hw) (Wd54 hw) (Wd73 hw) (by decide) (rm_ck4 l Z a0 hw [] nb1 hd an fr ag kh ka kf kg t f g s0 s1 sa ks v0 v1 v2 v3 v4 hJ n0 ZJ hck4 VJ SSJ) e37 0 (by decide) (by decide) (by decide) (by decide) [(.ref nb1), (.ref sa), (.int (4 : Int32))] [] (by rw [hml]; rfl) (lenOf pd_5 rfl) rfl rfl (Nat.le_of_eq rfl) (hb hby at_291) rfl (fun v39 T39 L39 X39 hQ39 => ?_)
    obtain ⟨rfl, Nq39, e39⟩ := hQ39
    have N40 := Fr.app N38 Nq39
    show own_G p.tables e below _ T39 (mkF m 294 #[.val (.int p0), .val (.int p1), .val (.int p2), .val (.int p3), .val (.ref nb1), .val (.ref r0), .val (.ref r1), .val (.ref r2), .val (.ref sa), .val (.int x), .val (.int y), .val (.int r), .val (.int mm), .val (.int (1 : Int32))] [(.int (1 : Int32))])
    refine own_ifNo X39 hx (pc' := 297) (hb hby at_294) (feq (by decide : ¬ ((1 : Int32) = (0 : Int32)))).1 rfl ?_
    refine own_iconst X39 hx (pc' := 298) (1 : Int32) (hb hby at_297) rfl rfl ?_
    refine own_goto X39 hx (pc' := 302) (hb hby at_298) (by decide) (by decide) ?_
    refine own_retN X39 hx hlk hret (by simp) (hb hby at_302) (by decide) (by decide) ?_
    exact ⟨rfl, N40⟩
  refine own_iconst X23 hx (pc' := 39) (5 : Int32) (hb hby at_38) rfl rfl ?_
  have ltS : nb1 < T23.heap.size ∧ hd < T23.heap.size ∧ an < T23.heap.size ∧ fr < T23.heap.size ∧ ag < T23.heap.size := by obtain ⟨q1, _, _, _, _, _, _, ⟨_, _, q2⟩, ⟨_, _, q3⟩, q4, q5⟩ := SS23; exact ⟨q1.lt, q2.lt, q3.lt, q4.lt, q5.lt⟩
  refine own_newP X23 hx (pc' := 41) hZ (aty := .int) (Wd17 hw) rfl (hb hby at_39) (by decide) 5 (by decide) (by decide) (by decide) (by decide) rfl (fun T41 h41 k41 nb41 g41 X41 e41 E41 A41 => ?_)
  have ne_nb1_nb41_42 : nb1 ≠ nb41 := Nat.ne_of_lt (Nat.lt_of_lt_of_le F26.lt (Nat.le_of_eq g41.symm))
  have ne_r0_nb41_43 : r0 ≠ nb41 := Nat.ne_of_lt (Nat.lt_of_lt_of_le F27.lt (Nat.le_of_eq g41.symm))
  have ne_r1_nb41_44 : r1 ≠ nb41 := Nat.ne_of_lt (Nat.lt_of_lt_of_le F29.lt (Nat.le_of_eq g41.symm))
  have ne_r2_nb41_45 : r2 ≠ nb41 := Nat.ne_of_lt (Nat.lt_of_lt_of_le Ek23.lt (Nat.le_of_eq g41.symm))
  have ge_nb41 : n0 ≤ nb41 := Nat.le_trans Z25 (Nat.le_of_eq g41.symm)
  have Z46 : n0 ≤ h41.size := Nat.le_trans Z25 E41.1
  have F47 := (Exa.ext E41 F26)
  have F48 := (Exa.ext E41 F27)
  have F49 := (Fld.ext E41 F28)
  have F50 := (Exa.ext E41 F29)
  have F51 := (Fld.ext E41 F30)
  have F52 := (Exa.ext E41 Ek23)
  have F53 := (Fld.ext E41 Fk23)
  have F54 := (own_S_ext SS23 E41)
  have V55a : Arv Z h41 nb41 k41 .int (5 : Int32) [] (.int (0 : Int32)) := Arv.new A41 (by decide)
  have V55b : Arv Z h41 nb41 k41 .int (5 : Int32) (List.replicate 5 (.int (0 : Int32))) (.int (0 : Int32)) := V55a.pad (pad_rep [] _ 5)
  have V55 : Arv Z h41 nb41 k41 .int (5 : Int32) [(.int (0 : Int32)), (.int (0 : Int32)), (.int (0 : Int32)), (.int (0 : Int32)), (.int (0 : Int32))] (.int (0 : Int32)) := V55b
  have nes_hd : hd ≠ nb41 := Nat.ne_of_lt (Nat.lt_of_lt_of_le ltS.2.1 (Nat.le_of_eq g41.symm))
  have nes_an : an ≠ nb41 := Nat.ne_of_lt (Nat.lt_of_lt_of_le ltS.2.2.1 (Nat.le_of_eq g41.symm))
  have nes_fr : fr ≠ nb41 := Nat.ne_of_lt (Nat.lt_of_lt_of_le ltS.2.2.2.1 (Nat.le_of_eq g41.symm))
  have nes_ag : ag ≠ nb41 := Nat.ne_of_lt (Nat.lt_of_lt_of_le ltS.2.2.2.2 (Nat.le_of_eq g41.symm))
  refine own_astore X41 hx (pc' := 43) (Ls' := #[.val (.int p0), .val (.int p1), .val (.int p2), .val (.int p3), .val (.ref nb1), .val (.ref r0), .val (.ref r1), .val (.ref r2), .val (.ref nb41), .unset, .unset, .unset, .unset, .unset]) (hb hby at_41) rfl rfl rfl ?_
  refine own_aload X41 hx (pc' := 45) (hb hby at_43) rfl rfl rfl ?_
  refine own_iconst X41 hx (pc' := 46) (0 : Int32) (hb hby at_45) rfl rfl ?_
  refine own_iconst X41 hx (pc' := 47) (1 : Int32) (hb hby at_46) rfl rfl ?_
  obtain ⟨cl56, Ar56, q56, S56, M56, H56, G56⟩ := id V55
  refine own_stI X41 hx (pc' := 48) hZ e41 Ar56 (inb_of S56 ⟨by decide, by decide⟩) (hb hby at_47) rfl (fun T57 h57 X57 e57 W57 => ?_)
  have N58 := Fr.snoc X57 N24 ge_nb41
  have Z59 : n0 ≤ h57.size := Nat.le_trans Z46 (Nat.le_of_eq (Wr.size W57).symm)
  have F60 := (Exa.wr W57 F47)
  have F61 := (Exa.wr W57 F48)
  have F62 := (Fld.other W57 F49 (Or.inl ne_r0_nb41_43))
  have F63 := (Exa.wr W57 F50)
  have F64 := (Fld.other W57 F51 (Or.inl ne_r1_nb41_44))
  have F65 := (Exa.wr W57 F52)
  have F66 := (Fld.other W57 F53 (Or.inl ne_r2_nb41_45))
  have F67 := (own_S_wr F54 W57 ⟨ne_nb1_nb41_42, nes_hd, nes_an, nes_fr, nes_ag⟩)
  have F68 : Arv Z h57 nb41 k41 .int (5 : Int32) [(.int (1 : Int32)), (.int (0 : Int32)), (.int (0 : Int32)), (.int (0 : Int32)), (.int (0 : Int32))] (.int (0 : Int32)) := (Arv.set Ar56 q56 S56 M56 H56 G56 rfl W57 0 rfl (Nat.le_of_ble_eq_true rfl))
  refine own_aload X57 hx (pc' := 50) (hb hby at_48) rfl rfl rfl ?_
  refine own_iconst X57 hx (pc' := 51) (1 : Int32) (hb hby at_50) rfl rfl ?_
  refine own_iconst X57 hx (pc' := 52) (1 : Int32) (hb hby at_51) rfl rfl ?_
  obtain ⟨cl69, Ar69, q69, S69, M69, H69, G69⟩ := id F68
  refine own_stI X57 hx (pc' := 53) hZ e57 Ar69 (inb_of S69 ⟨by decide, by decide⟩) (hb hby at_52) rfl (fun T70 h70 X70 e70 W70 => ?_)
  have N71 := Fr.snoc X70 N58 ge_nb41
  have Z72 : n0 ≤ h70.size := Nat.le_trans Z59 (Nat.le_of_eq (Wr.size W70).symm)
  have F73 := (Exa.wr W70 F60)
  have F74 := (Exa.wr W70 F61)
  have F75 := (Fld.other W70 F62 (Or.inl ne_r0_nb41_43))
  have F76 := (Exa.wr W70 F63)
  have F77 := (Fld.other W70 F64 (Or.inl ne_r1_nb41_44))
  have F78 := (Exa.wr W70 F65)
  have F79 := (Fld.other W70 F66 (Or.inl ne_r2_nb41_45))
  have F80 := (own_S_wr F67 W70 ⟨ne_nb1_nb41_42, nes_hd, nes_an, nes_fr, nes_ag⟩)
  have F81 : Arv Z h70 nb41 k41 .int (5 : Int32) [(.int (1 : Int32)), (.int (1 : Int32)), (.int (0 : Int32)), (.int (0 : Int32)), (.int (0 : Int32))] (.int (0 : Int32)) := (Arv.set Ar69 q69 S69 M69 H69 G69 rfl W70 1 rfl (Nat.le_of_ble_eq_true rfl))
  refine own_aload X70 hx (pc' := 55) (hb hby at_53) rfl rfl rfl ?_
  refine own_iconst X70 hx (pc' := 56) (2 : Int32) (hb hby at_55) rfl rfl ?_
  refine own_iconst X70 hx (pc' := 57) (1 : Int32) (hb hby at_56) rfl rfl ?_
  obtain ⟨cl82, Ar82, q82, S82, M82, H82, G82⟩ := id F81
  refine own_stI X70 hx (pc' := 58) hZ e70 Ar82 (inb_of S82 ⟨by decide, by decide⟩) (hb hby at_57) rfl (fun T83 h83 X83 e83 W83 => ?_)
  have N84 := Fr.snoc X83 N71 ge_nb41
  have Z85 : n0 ≤ h83.size := Nat.le_trans Z72 (Nat.le_of_eq (Wr.size W83).symm)
  have F86 := (Exa.wr W83 F73)
  have F87 := (Exa.wr W83 F74)
  have F88 := (Fld.other W83 F75 (Or.inl ne_r0_nb41_43))
  have F89 := (Exa.wr W83 F76)
  have F90 := (Fld.other W83 F77 (Or.inl ne_r1_nb41_44))
  have F91 := (Exa.wr W83 F78)
  have F92 := (Fld.other W83 F79 (Or.inl ne_r2_nb41_45))
  have F93 := (own_S_wr F80 W83 ⟨ne_nb1_nb41_42, nes_hd, nes_an, nes_fr, nes_ag⟩)
  have F94 : Arv Z h83 nb41 k41 .int (5 : Int32) [(.int (1 : Int32)), (.int (1 : Int32)), (.int (1 : Int32)), (.int (0 : Int32)), (.int (0 : Int32))] (.int (0 : Int32)) := (Arv.set Ar82 q82 S82 M82 H82 G82 rfl W83 2 rfl (Nat.le_of_ble_eq_true rfl))
  refine own_iloadN X83 hx (pc' := 59) (hb hby at_58) rfl rfl ?_
  refine own_ldcI X83 hx (pc' := 61) hZ hown (Wd51 hw) (hb hby at_59) rfl ?_
  refine own_iand X83 hx (pc' := 62) (hb hby at_61) rfl rfl ?_
  refine own_iconst X83 hx (pc' := 63) (3 : Int32) (hb hby at_62) rfl rfl ?_
  refine own_irem X83 hx (pc' := 64) (hb hby at_63) (by decide) rfl ?_
  refine own_istore X83 hx (pc' := 66) (Ls' := #[.val (.int p0), .val (.int p1), .val (.int p2), .val (.int p3), .val (.ref nb1), .val (.ref r0), .val (.ref r1), .val (.ref r2), .val (.ref nb41), .val (.int ((p0 &&& (2147483647 : Int32)) % (3 : Int32))), .unset, .unset, .unset, .unset]) (hb hby at_64) rfl rfl ?_
  refine own_iload X83 hx (pc' := 68) (hb hby at_66) rfl rfl ?_
  refine own_iconst X83 hx (pc' := 69) (1 : Int32) (hb hby at_68) rfl rfl ?_
  refine own_iadd X83 hx (pc' := 70) (hb hby at_69) rfl rfl ?_
  refine own_iloadN X83 hx (pc' := 71) (hb hby at_70) rfl rfl ?_
  refine own_iconst X83 hx (pc' := 72) (1 : Int32) (hb hby at_71) rfl rfl ?_
  refine own_iand X83 hx (pc' := 73) (hb hby at_72) rfl rfl ?_
  refine own_iadd X83 hx (pc' := 74) (hb hby at_73) rfl rfl ?_
  refine own_iconst X83 hx (pc' := 75) (3 : Int32) (hb hby at_74) rfl rfl ?_
  refine own_irem X83 hx (pc' := 76) (hb hby at_75) (by decide) rfl ?_
  refine own_istore X83 hx (pc' := 78) (Ls' := #[.val (.int p0), .val (.int p1), .val (.int p2), .val (.int p3), .val (.ref nb1), .val (.ref r0), .val (.ref r1), .val (.ref r2), .val (.ref nb41), .val (.int ((p0 &&& (2147483647 : Int32)) % (3 : Int32))), .val (.int (((((p0 &&& (2147483647 : Int32)) % (3 : Int32)) + (1 : Int32)) + (p1 &&& (1 : Int32))) % (3 : Int32))), .unset, .unset, .unset]) (hb hby at_76) rfl rfl ?_
  refine own_iloadN X83 hx (pc' := 79) (hb hby at_78) rfl rfl ?_
  refine own_ldcI X83 hx (pc' := 81) hZ hown (Wd51 hw) (hb hby at_79) rfl ?_
  refine own_iand X83 hx (pc' := 82) (hb hby at_81) rfl rfl ?_
  refine own_iconst X83 hx (pc' := 83) (3 : Int32) (hb hby at_82) rfl rfl ?_
  refine own_irem X83 hx (pc' := 84) (hb hby at_83) (by decide) rfl ?_
  refine own_istore X83 hx (pc' := 86) (Ls' := #[.val (.int p0), .val (.int p1), .val (.int p2), .val (.int p3), .val (.ref nb1), .val (.ref r0), .val (.ref r1), .val (.ref r2), .val (.ref nb41), .val (.int ((p0 &&& (2147483647 : Int32)) % (3 : Int32))), .val (.int (((((p0 &&& (2147483647 : Int32)) % (3 : Int32)) + (1 : Int32)) + (p1 &&& (1 : Int32))) % (3 : Int32))), .val (.int ((p2 &&& (2147483647 : Int32)) % (3 : Int32))), .unset, .unset]) (hb hby at_84) rfl rfl ?_
  refine own_iloadN X83 hx (pc' := 87) (hb hby at_86) rfl rfl ?_
  refine own_ldcI X83 hx (pc' := 89) hZ hown (Wd51 hw) (hb hby at_87) rfl ?_
  refine own_iand X83 hx (pc' := 90) (hb hby at_89) rfl rfl ?_
  refine own_iconst X83 hx (pc' := 91) (3 : Int32) (hb hby at_90) rfl rfl ?_
  refine own_irem X83 hx (pc' := 92) (hb hby at_91) (by decide) rfl ?_
  refine own_istore X83 hx (pc' := 94) (Ls' := #[.val (.int p0), .val (.int p1), .val (.int p2), .val (.int p3), .val (.ref nb1), .val (.ref r0), .val (.ref r1), .val (.ref r2), .val (.ref nb41), .val (.int ((p0 &&& (2147483647 : Int32)) % (3 : Int32))), .val (.int (((((p0 &&& (2147483647 : Int32)) % (3 : Int32)) + (1 : Int32)) + (p1 &&& (1 : Int32))) % (3 : Int32))), .val (.int ((p2 &&& (2147483647 : Int32)) % (3 : Int32))), .val (.int ((p3 &&& (2147483647 : Int32)) % (3 : Int32))), .unset]) (hb hby at_92) rfl rfl ?_
  obtain ⟨x, ex⟩ : ∃ x, x = ((p0 &&& (2147483647 : Int32)) % (3 : Int32)) := ⟨_, rfl⟩
  rw [← ex]
  obtain ⟨y, ey⟩ : ∃ z, z = (((x + (1 : Int32)) + (p1 &&& (1 : Int32))) % (3 : Int32)) := ⟨_, rfl⟩
  rw [← ey]
  obtain ⟨r, er⟩ : ∃ z, z = ((p2 &&& (2147483647 : Int32)) % (3 : Int32)) := ⟨_, rfl⟩
  rw [← er]
  obtain ⟨mm, emm⟩ : ∃ z, z = ((p3 &&& (2147483647 : Int32)) % (3 : Int32)) := ⟨_, rfl⟩
  rw [← emm]
  have hx3 : x = 0 ∨ x = 1 ∨ x = 2 := by
    have q1 := c_mask p0 (2147483647 : Int32) 31 (by decide) (by decide)
    have q2 := (c_irem (p0 &&& (2147483647 : Int32)) (3 : Int32) 3 (by decide)).1 (by omega)
    rw [ex]
    simp only [← Int32.toInt_inj]
    show _ = (0 : Int) ∨ _ = (1 : Int) ∨ _ = (2 : Int)
    omega
  have hr3 : r = 0 ∨ r = 1 ∨ r = 2 := by
    have q1 := c_mask p2 (2147483647 : Int32) 31 (by decide) (by decide)
    have q2 := (c_irem (p2 &&& (2147483647 : Int32)) (3 : Int32) 3 (by decide)).1 (by omega)
    rw [er]
    simp only [← Int32.toInt_inj]
    show _ = (0 : Int) ∨ _ = (1 : Int) ∨ _ = (2 : Int)
    omega
  have hmm3 : mm = 0 ∨ mm = 1 ∨ mm = 2 := by
    have q1 := c_mask p3 (2147483647 : Int32) 31 (by decide) (by decide)
    have q2 := (c_irem (p3 &&& (2147483647 : Int32)) (3 : Int32) 3 (by decide)).1 (by omega)
    rw [emm]
    simp only [← Int32.toInt_inj]
    show _ = (0 : Int) ∨ _ = (1 : Int) ∨ _ = (2 : Int)
    omega
  have hyy : (y = 0 ∨ y = 1 ∨ y = 2) ∧ x ≠ y := by
    have q1 := c_mask p1 (1 : Int32) 1 (by decide) (by decide)
    have hb : p1 &&& (1 : Int32) = 0 ∨ p1 &&& (1 : Int32) = 1 := and_one p1
    rw [ey]
    rcases hb with q | q <;> rw [q] <;> rcases hx3 with rfl | rfl | rfl <;> decide
  have hy3 := hyy.1
  have hxy := hyy.2
  rcases hr3 with rfl | rfl | rfl
  · rcases hmm3 with rfl | rfl | rfl
    · skip
      show own_G p.tables e below _ T83 (mkF m 94 #[.val (.int p0), .val (.int p1), .val (.int p2), .val (.int p3), .val (.ref nb1), .val (.ref r0), .val (.ref r1), .val (.ref r2), .val (.ref nb41), .val (.int x), .val (.int y), .val (.int (0 : Int32)), .val (.int (0 : Int32)), .unset] [])
      refine own_iload X83 hx (pc' := 96) (hb hby at_94) rfl rfl ?_
      refine own_iconst X83 hx (pc' := 97) (1 : Int32) (hb hby at_96) rfl rfl ?_
      refine own_icmpYes X83 hx (pc' := 122) (hb hby at_97) (tlt (by decide : (0 : Int32) < (1 : Int32))).1 (by decide) (by decide) ?_
      refine own_iload X83 hx (pc' := 124) (hb hby at_122) rfl rfl ?_
      refine own_iconst X83 hx (pc' := 125) (2 : Int32) (hb hby at_124) rfl rfl ?_
      refine own_icmpYes X83 hx (pc' := 150) (hb hby at_125) (tlt (by decide : (0 : Int32) < (2 : Int32))).1 (by decide) (by decide) ?_
      refine own_iconst X83 hx (pc' := 151) (1 : Int32) (hb hby at_150) rfl rfl ?_
      refine own_istore X83 hx (pc' := 153) (Ls' := #[.val (.int p0), .val (.int p1), .val (.int p2), .val (.int p3), .val (.ref nb1), .val (.ref r0), .val (.ref r1), .val (.ref r2), .val (.ref nb41), .val (.int x), .val (.int y), .val (.int (0 : Int32)), .val (.int (0 : Int32)), .val (.int (1 : Int32))]) (hb hby at_151) rfl rfl ?_
      refine own_iload X83 hx (pc' := 155) (hb hby at_153) rfl rfl ?_
      refine own_iconst X83 hx (pc' := 156) (1 : Int32) (hb hby at_155) rfl rfl ?_
      refine own_icmpYes X83 hx (pc' := 195) (hb hby at_156) (tlt (by decide : (0 : Int32) < (1 : Int32))).1 (by decide) (by decide) ?_
      refine own_iload X83 hx (pc' := 197) (hb hby at_195) rfl rfl ?_
      refine own_iconst X83 hx (pc' := 198) (2 : Int32) (hb hby at_197) rfl rfl ?_
      refine own_icmpYes X83 hx (pc' := 237) (hb hby at_198) (tlt (by decide : (0 : Int32) < (2 : Int32))).1 (by decide) (by decide) ?_
      have hck0 := own_fin1 x y hx3 hy3 hxy  
      have hck1 := own_fin2 x y hx3 hy3 hxy  
      have hck2 := own_fin3 x y hx3 hy3 hxy  
      have hck3 := own_fin4 x y hx3 hy3 hxy  
      have hck4 := own_fin5 x y hx3 hy3 hxy  
      exact J237 nb41 k41 x y (0 : Int32) (0 : Int32) (3 : Int32) (0 : Int32) (0 : Int32) (0 : Int32) (1 : Int32) (1 : Int32) (1 : Int32) (0 : Int32) (0 : Int32) (0 : Int64) _ _ _ (X83.more (by decide) (by decide)) e83 N84 Z85 F86 F93 F94 hck0 hck1 hck2 hck3 hck4
    · skip
      show own_G p.tables e below _ T83 (mkF m 94 #[.val (.int p0), .val (.int p1), .val (.int p2), .val (.int p3), .val (.ref nb1), .val (.ref r0), .val (.ref r1), .val (.ref r2), .val (.ref nb41), .val (.int x), .val (.int y), .val (.int (0 : Int32)), .val (.int (1 : Int32)), .unset] [])
      refine own_iload X83 hx (pc' := 96) (hb hby at_94) rfl rfl ?_
      refine own_iconst X83 hx (pc' := 97) (1 : Int32) (hb hby at_96) rfl rfl ?_
      refine own_icmpYes X83 hx (pc' := 122) (hb hby at_97) (tlt (by decide : (0 : Int32) < (1 : Int32))).1 (by decide) (by decide) ?_
      refine own_iload X83 hx (pc' := 124) (hb hby at_122) rfl rfl ?_
      refine own_iconst X83 hx (pc' := 125) (2 : Int32) (hb hby at_124) rfl rfl ?_
      refine own_icmpYes X83 hx (pc' := 150) (hb hby at_125) (tlt (by decide : (0 : Int32) < (2 : Int32))).1 (by decide) (by decide) ?_
      refine own_iconst X83 hx (pc' := 151) (1 : Int32) (hb hby at_150) rfl rfl ?_
      refine own_istore X83 hx (pc' := 153) (Ls' := #[.val (.int p0), .val (.int p1), .val (.int p2), .val (.int p3), .val (.ref nb1), .val (.ref r0), .val (.ref r1), .val (.ref r2), .val (.ref nb41), .val (.int x), .val (.int y), .val (.int (0 : Int32)), .val (.int (1 : Int32)), .val (.int (1 : Int32))]) (hb hby at_151) rfl rfl ?_
      refine own_iload X83 hx (pc' := 155) (hb hby at_153) rfl rfl ?_
      refine own_iconst X83 hx (pc' := 156) (1 : Int32) (hb hby at_155) rfl rfl ?_
      refine own_icmpNo X83 hx (pc' := 159) (hb hby at_156) (flt (by decide : ¬ ((1 : Int32) < (1 : Int32)))).1 rfl ?_
      refine own_iload X83 hx (pc' := 161) (hb hby at_159) rfl rfl ?_
      refine own_ifNo X83 hx (pc' := 164) (hb hby at_161) (feq (by decide : ¬ ((1 : Int32) = (0 : Int32)))).1 rfl ?_
      refine own_aload X83 hx (pc' := 166) (hb hby at_164) rfl rfl rfl ?_
      refine own_aload X83 hx (pc' := 168) (hb hby at_166) rfl rfl rfl ?_
      refine own_iconst X83 hx (pc' := 169) (0 : Int32) (hb hby at_168) rfl rfl ?_
      refine own_iload X83 hx (pc' := 171) (hb hby at_169) rfl rfl ?_
      refine own_icmpYes X83 hx (pc' := 178) (hb hby at_171) (flt (by decide : ¬ ((0 : Int32) < (0 : Int32)))).2.1 (by decide) (by decide) ?_
      refine own_iconst X83 hx (pc' := 179) (0 : Int32) (hb hby at_178) rfl rfl ?_
      refine own_ldc2J X83 hx (pc' := 182) hZ hown (Wd66 hw) (hb hby at_179) rfl ?_
      refine own_callS X83 hx (pc' := 185) hZ hown (Wd67 hw) (Wd68 hw) (Wd54 hw) (Wd69 hw) (by decide) (rm_t3 l Z a0 hw [] nb1 hd an fr ag kh ka kf kg (0 : Int64) (0 : Int32) (0 : Int32) nb41 k41 (1 : Int32) (1 : Int32) (1 : Int32) (0 : Int32) (0 : Int32) (3 : Int64) h83 n0 Z85 ge_nb41 ⟨ne_nb1_nb41_42, nes_hd, nes_an, nes_fr, nes_ag⟩ DD rfl F94 F93) e83 0 (by decide) (by decide) (by decide) (by decide) [(.ref nb1), (.ref nb41), (.int (0 : Int32)), (.long (3 : Int64))] [] (by rw [hml]; rfl) (lenOf pd_6 rfl) rfl rfl (Nat.le_of_eq rfl) (hb hby at_182) rfl (fun v95 T95 L95 X95 hQ95 => ?_)
      obtain ⟨rfl, Nq95, K95, SS95, V95⟩ := hQ95
      have N96 := Fr.app N84 Nq95
      have Z97 : n0 ≤ T95.heap.size := Nat.le_trans Z85 K95.1
      have F98 := (Exa.keep F86 K95)
      show own_G p.tables e below _ T95 (mkF m 185 #[.val (.int p0), .val (.int p1), .val (.int p2), .val (.int p3), .val (.ref nb1), .val (.ref r0), .val (.ref r1), .val (.ref r2), .val (.ref nb41), .val (.int x), .val (.int y), .val (.int (0 : Int32)), .val (.int (1 : Int32)), .val (.int (1 : Int32))] [(.int (1 : Int32))])
      refine own_ifNo X95 hx (pc' := 188) (hb hby at_185) (feq (by decide : ¬ ((1 : Int32) = (0 : Int32)))).1 rfl ?_
      refine own_iconst X95 hx (pc' := 189) (1 : Int32) (hb hby at_188) rfl rfl ?_
      refine own_goto X95 hx (pc' := 193) (hb hby at_189) (by decide) (by decide) ?_
      refine own_istore X95 hx (pc' := 195) (Ls' := #[.val (.int p0), .val (.int p1), .val (.int p2), .val (.int p3), .val (.ref nb1), .val (.ref r0), .val (.ref r1), .val (.ref r2), .val (.ref nb41), .val (.int x), .val (.int y), .val (.int (0 : Int32)), .val (.int (1 : Int32)), .val (.int (1 : Int32))]) (hb hby at_193) rfl rfl ?_
      refine own_iload X95 hx (pc' := 197) (hb hby at_195) rfl rfl ?_
      refine own_iconst X95 hx (pc' := 198) (2 : Int32) (hb hby at_197) rfl rfl ?_
      refine own_icmpYes X95 hx (pc' := 237) (hb hby at_198) (tlt (by decide : (1 : Int32) < (2 : Int32))).1 (by decide) (by decide) ?_
      have hck0 := own_fin6 x y hx3 hy3 hxy  
      have hck1 := own_fin7 x y hx3 hy3 hxy  
      have hck2 := own_fin8 x y hx3 hy3 hxy  
      have hck3 := own_fin9 x y hx3 hy3 hxy  
      have hck4 := own_fin10 x y hx3 hy3 hxy  
      exact J237 nb41 k41 x y (0 : Int32) (1 : Int32) (4 : Int32) (0 : Int32) (0 : Int32) (0 : Int32) (1 : Int32) (1 : Int32) (1 : Int32) (1 : Int32) (0 : Int32) (0 : Int64) _ _ _ (X95.more (by decide) (by decide)) rfl N96 Z97 F98 SS95 V95 hck0 hck1 hck2 hck3 hck4
    · skip
      show own_G p.tables e below _ T83 (mkF m 94 #[.val (.int p0), .val (.int p1), .val (.int p2), .val (.int p3), .val (.ref nb1), .val (.ref r0), .val (.ref r1), .val (.ref r2), .val (.ref nb41), .val (.int x), .val (.int y), .val (.int (0 : Int32)), .val (.int (2 : Int32)), .unset] [])
      refine own_iload X83 hx (pc' := 96) (hb hby at_94) rfl rfl ?_
      refine own_iconst X83 hx (pc' := 97) (1 : Int32) (hb hby at_96) rfl rfl ?_
      refine own_icmpYes X83 hx (pc' := 122) (hb hby at_97) (tlt (by decide : (0 : Int32) < (1 : Int32))).1 (by decide) (by decide) ?_
      refine own_iload X83 hx (pc' := 124) (hb hby at_122) rfl rfl ?_
      refine own_iconst X83 hx (pc' := 125) (2 : Int32) (hb hby at_124) rfl rfl ?_
      refine own_icmpYes X83 hx (pc' := 150) (hb hby at_125) (tlt (by decide : (0 : Int32) < (2 : Int32))).1 (by decide) (by decide) ?_
      refine own_iconst X83 hx (pc' := 151) (1 : Int32) (hb hby at_150) rfl rfl ?_
      refine own_istore X83 hx (pc' := 153) (Ls' := #[.val (.int p0), .val (.int p1), .val (.int p2), .val (.int p3), .val (.ref nb1), .val (.ref r0), .val (.ref r1), .val (.ref r2), .val (.ref nb41), .val (.int x), .val (.int y), .val (.int (0 : Int32)), .val (.int (2 : Int32)), .val (.int (1 : Int32))]) (hb hby at_151) rfl rfl ?_
      refine own_iload X83 hx (pc' := 155) (hb hby at_153) rfl rfl ?_
      refine own_iconst X83 hx (pc' := 156) (1 : Int32) (hb hby at_155) rfl rfl ?_
      refine own_icmpNo X83 hx (pc' := 159) (hb hby at_156) (flt (by decide : ¬ ((2 : Int32) < (1 : Int32)))).1 rfl ?_
      refine own_iload X83 hx (pc' := 161) (hb hby at_159) rfl rfl ?_
      refine own_ifNo X83 hx (pc' := 164) (hb hby at_161) (feq (by decide : ¬ ((1 : Int32) = (0 : Int32)))).1 rfl ?_
      refine own_aload X83 hx (pc' := 166) (hb hby at_164) rfl rfl rfl ?_
      refine own_aload X83 hx (pc' := 168) (hb hby at_166) rfl rfl rfl ?_
      refine own_iconst X83 hx (pc' := 169) (0 : Int32) (hb hby at_168) rfl rfl ?_
      refine own_iload X83 hx (pc' := 171) (hb hby at_169) rfl rfl ?_
      refine own_icmpYes X83 hx (pc' := 178) (hb hby at_171) (flt (by decide : ¬ ((0 : Int32) < (0 : Int32)))).2.1 (by decide) (by decide) ?_
      refine own_iconst X83 hx (pc' := 179) (0 : Int32) (hb hby at_178) rfl rfl ?_
      refine own_ldc2J X83 hx (pc' := 182) hZ hown (Wd66 hw) (hb hby at_179) rfl ?_
      refine own_callS X83 hx (pc' := 185) hZ hown (Wd67 hw) (Wd68 hw) (Wd54 hw) (Wd69 hw) (by decide) (rm_t3 l Z a0 hw [] nb1 hd an fr ag kh ka kf kg (0 : Int64) (0 : Int32) (0 : Int32) nb41 k41 (1 : Int32) (1 : Int32) (1 : Int32) (0 : Int32) (0 : Int32) (3 : Int64) h83 n0 Z85 ge_nb41 ⟨ne_nb1_nb41_42, nes_hd, nes_an, nes_fr, nes_ag⟩ DD rfl F94 F93) e83 0 (by decide) (by decide) (by decide) (by decide) [(.ref nb1), (.ref nb41), (.int (0 : Int32)), (.long (3 : Int64))] [] (by rw [hml]; rfl) (lenOf pd_6 rfl) rfl rfl (Nat.le_of_eq rfl) (hb hby at_182) rfl (fun v99 T99 L99 X99 hQ99 => ?_)
      obtain ⟨rfl, Nq99, K99, SS99, V99⟩ := hQ99
      have N100 := Fr.app N84 Nq99
      have Z101 : n0 ≤ T99.heap.size := Nat.le_trans Z85 K99.1
      have F102 := (Exa.keep F86 K99)
      show own_G p.tables e below _ T99 (mkF m 185 #[.val (.int p0), .val (.int p1), .val (.int p2), .val (.int p3), .val (.ref nb1), .val (.ref r0), .val (.ref r1), .val (.ref r2), .val (.ref nb41), .val (.int x), .val (.int y), .val (.int (0 : Int32)), .val (.int (2 : Int32)), .val (.int (1 : Int32))] [(.int (1 : Int32))])
      refine own_ifNo X99 hx (pc' := 188) (hb hby at_185) (feq (by decide : ¬ ((1 : Int32) = (0 : Int32)))).1 rfl ?_
      refine own_iconst X99 hx (pc' := 189) (1 : Int32) (hb hby at_188) rfl rfl ?_
      refine own_goto X99 hx (pc' := 193) (hb hby at_189) (by decide) (by decide) ?_
      refine own_istore X99 hx (pc' := 195) (Ls' := #[.val (.int p0), .val (.int p1), .val (.int p2), .val (.int p3), .val (.ref nb1), .val (.ref r0), .val (.ref r1), .val (.ref r2), .val (.ref nb41), .val (.int x), .val (.int y), .val (.int (0 : Int32)), .val (.int (2 : Int32)), .val (.int (1 : Int32))]) (hb hby at_193) rfl rfl ?_
      refine own_iload X99 hx (pc' := 197) (hb hby at_195) rfl rfl ?_
      refine own_iconst X99 hx (pc' := 198) (2 : Int32) (hb hby at_197) rfl rfl ?_
      refine own_icmpNo X99 hx (pc' := 201) (hb hby at_198) (flt (by decide : ¬ ((2 : Int32) < (2 : Int32)))).1 rfl ?_
      refine own_iload X99 hx (pc' := 203) (hb hby at_201) rfl rfl ?_
      refine own_ifNo X99 hx (pc' := 206) (hb hby at_203) (feq (by decide : ¬ ((1 : Int32) = (0 : Int32)))).1 rfl ?_
      refine own_aload X99 hx (pc' := 208) (hb hby at_206) rfl rfl rfl ?_
      refine own_aload X99 hx (pc' := 210) (hb hby at_208) rfl rfl rfl ?_
      refine own_iconst X99 hx (pc' := 211) (1 : Int32) (hb hby at_210) rfl rfl ?_
      refine own_iload X99 hx (pc' := 213) (hb hby at_211) rfl rfl ?_
      refine own_icmpYes X99 hx (pc' := 220) (hb hby at_213) (flt (by decide : ¬ ((1 : Int32) < (0 : Int32)))).2.1 (by decide) (by decide) ?_
      refine own_iconst X99 hx (pc' := 221) (0 : Int32) (hb hby at_220) rfl rfl ?_
      refine own_ldc2J X99 hx (pc' := 224) hZ hown (Wd79 hw) (hb hby at_221) rfl ?_
      refine own_callS X99 hx (pc' := 227) hZ hown (Wd67 hw) (Wd68 hw) (Wd54 hw) (Wd69 hw) (by decide) (rm_t4 l Z a0 hw [] nb1 hd an fr ag kh ka kf kg (0 : Int64) (0 : Int32) (0 : Int32) nb41 k41 (1 : Int32) (1 : Int32) (1 : Int32) (1 : Int32) (0 : Int32) (4 : Int64) T99.heap n0 Z101 ge_nb41 ⟨ne_nb1_nb41_42, nes_hd, nes_an, nes_fr, nes_ag⟩ DD rfl V99 SS99) rfl 0 (by decide) (by decide) (by decide) (by decide) [(.ref nb1), (.ref nb41), (.int (0 : Int32)), (.long (4 : Int64))] [] (by rw [hml]; rfl) (lenOf pd_6 rfl) rfl rfl (Nat.le_of_eq rfl) (hb hby at_224) rfl (fun v103 T103 L103 X103 hQ103 => ?_)
      obtain ⟨rfl, Nq103, K103, SS103, V103⟩ := hQ103
      have N104 := Fr.app N100 Nq103
      have Z105 : n0 ≤ T103.heap.size := Nat.le_trans Z101 K103.1
      have F106 := (Exa.keep F102 K103)
      show own_G p.tables e below _ T103 (mkF m 227 #[.val (.int p0), .val (.int p1), .val (.int p2), .val (.int p3), .val (.ref nb1), .val (.ref r0), .val (.ref r1), .val (.ref r2), .val (.ref nb41), .val (.int x), .val (.int y), .val (.int (0 : Int32)), .val (.int (2 : Int32)), .val (.int (1 : Int32))] [(.int (1 : Int32))])
      refine own_ifNo X103 hx (pc' := 230) (hb hby at_227) (feq (by decide : ¬ ((1 : Int32) = (0 : Int32)))).1 rfl ?_
      refine own_iconst X103 hx (pc' := 231) (1 : Int32) (hb hby at_230) rfl rfl ?_
      refine own_goto X103 hx (pc' := 235) (hb hby at_231) (by decide) (by decide) ?_
      refine own_istore X103 hx (pc' := 237) (Ls' := #[.val (.int p0), .val (.int p1), .val (.int p2), .val (.int p3), .val (.ref nb1), .val (.ref r0), .val (.ref r1), .val (.ref r2), .val (.ref nb41), .val (.int x), .val (.int y), .val (.int (0 : Int32)), .val (.int (2 : Int32)), .val (.int (1 : Int32))]) (hb hby at_235) rfl rfl ?_
      have hck0 := own_fin11 x y hx3 hy3 hxy  
      have hck1 := own_fin12 x y hx3 hy3 hxy  
      have hck2 := own_fin13 x y hx3 hy3 hxy  
      have hck3 := own_fin14 x y hx3 hy3 hxy  
      have hck4 := own_fin15 x y hx3 hy3 hxy  
      exact J237 nb41 k41 x y (0 : Int32) (2 : Int32) (5 : Int32) (0 : Int32) (0 : Int32) (0 : Int32) (1 : Int32) (1 : Int32) (1 : Int32) (1 : Int32) (1 : Int32) (0 : Int64) _ _ _ (X103.more (by decide) (by decide)) rfl N104 Z105 F106 SS103 V103 hck0 hck1 hck2 hck3 hck4
  · rcases hmm3 with rfl | rfl | rfl
    · skip
      show own_G p.tables e below _ T83 (mkF m 94 #[.val (.int p0), .val (.int p1), .val (.int p2), .val (.int p3), .val (.ref nb1), .val (.ref r0), .val (.ref r1), .val (.ref r2), .val (.ref nb41), .val (.int x), .val (.int y), .val (.int (1 : Int32)), .val (.int (0 : Int32)), .unset] [])
      refine own_iload X83 hx (pc' := 96) (hb hby at_94) rfl rfl ?_
      refine own_iconst X83 hx (pc' := 97) (1 : Int32) (hb hby at_96) rfl rfl ?_
      refine own_icmpNo X83 hx (pc' := 100) (hb hby at_97) (flt (by decide : ¬ ((1 : Int32) < (1 : Int32)))).1 rfl ?_
      refine own_aload X83 hx (pc' := 102) (hb hby at_100) rfl rfl rfl ?_
      refine own_iload X83 hx (pc' := 104) (hb hby at_102) rfl rfl ?_
      refine own_aload X83 hx (pc' := 106) (hb hby at_104) rfl rfl rfl ?_
      refine own_aload X83 hx (pc' := 108) (hb hby at_106) rfl rfl rfl ?_
      refine own_aload X83 hx (pc' := 110) (hb hby at_108) rfl rfl rfl ?_
      refine own_callS X83 hx (pc' := 113) hZ hown (Wd52 hw) (Wd53 hw) (Wd54 hw) (Wd55 hw) (by decide) (rm_pk l Z a0 hw [] x r0 r1 r2 h83 n0 Z85) e83 1 (by decide) (by decide) (by decide) (by decide) [(.int x), (.ref r0), (.ref r1), (.ref r2)] [(.ref nb1)] (by rw [hml]; rfl) (lenOf pd_7 rfl) rfl rfl (Nat.le_of_eq rfl) (hb hby at_110) rfl (fun v107 T107 L107 X107 hQ107 => ?_)
      obtain ⟨rfl, Nq107, e107⟩ := hQ107
      have N108 := Fr.app N84 Nq107
      show own_G p.tables e below _ T107 (mkF m 113 #[.val (.int p0), .val (.int p1), .val (.int p2), .val (.int p3), .val (.ref nb1), .val (.ref r0), .val (.ref r1), .val (.ref r2), .val (.ref nb41), .val (.int x), .val (.int y), .val (.int (1 : Int32)), .val (.int (0 : Int32)), .unset] [(.ref (own_pk x r0 r1 r2)), (.ref nb1)])
      have pE109 : Exa Z h83 (own_pk x r0 r1 r2) "com/example/pandarus/pandarus/Ranked" := by rcases hx3 with q | q | q <;> rw [q] <;> first | exact F87 | exact F89 | exact F91
      have pF109 : Fld Z h83 (own_pk x r0 r1 r2) "com/example/pandarus/pandarus/Ranked" "slot" "I" (.int x) := by rcases hx3 with q | q | q <;> rw [q] <;> first | exact F88 | exact F90 | exact F92
      have pN109 : (own_pk x r0 r1 r2) ≠ nb1 ∧ (own_pk x r0 r1 r2) ≠ hd ∧ (own_pk x r0 r1 r2) ≠ an ∧ (own_pk x r0 r1 r2) ≠ fr ∧ (own_pk x r0 r1 r2) ≠ ag := by rcases hx3 with q | q | q <;> rw [q] <;> first | exact ⟨ne_r0_nb1, ne_r0_hd, ne_r0_an, ne_r0_fr, ne_r0_ag⟩ | exact ⟨ne_r1_nb1, ne_r1_hd, ne_r1_an, ne_r1_fr, ne_r1_ag⟩ | exact ⟨ne_r2_nb1, ne_r2_hd, ne_r2_an, ne_r2_fr, ne_r2_ag⟩
      refine own_callV X107 hx (pc' := 116) hZ hown (Wd56 hw) (Wd58 hw) (Wd59 hw) (Wd60 hw) (Wd2 hw) (by decide) (rm_r0 l Z a0 hw [] nb1 hd an fr ag kh ka kf kg (own_pk x r0 r1 r2) (3 : Int32) (0 : Int64) (0 : Int32) (0 : Int32) x h83 n0 Z85 ⟨(own_in3 hx3).2.1.1, Int.le_trans (own_in3 hx3).2.1.2 (by decide)⟩ pN109 DD pE109 pF109 F93) e107 F86 0 (by decide) (by decide) (by decide) (by decide) [(.ref (own_pk x r0 r1 r2))] [] (by rw [hml]; rfl) (lenOf pd_8 rfl) rfl rfl (Nat.le_of_eq rfl) (hb hby at_113) rfl (fun v110 T110 L110 X110 hQ110 => ?_)
      obtain ⟨rfl, Nq110, K110, SS110⟩ := hQ110
      have N111 := Fr.app N108 Nq110
      have Z112 : n0 ≤ T110.heap.size := Nat.le_trans Z85 K110.1
      have F113 := (Exa.keep F86 K110)
      have F114 := (Exa.keep F87 K110)
      have F115 := (F88.keep K110 (ninS ne_r0_nb1 (ninS ne_r0_hd (ninS ne_r0_an (ninS ne_r0_fr (ninS ne_r0_ag nin0))))))
      have F116 := (Exa.keep F89 K110)
      have F117 := (F90.keep K110 (ninS ne_r1_nb1 (ninS ne_r1_hd (ninS ne_r1_an (ninS ne_r1_fr (ninS ne_r1_ag nin0))))))
      have F118 := (Exa.keep F91 K110)
      have F119 := (F92.keep K110 (ninS ne_r2_nb1 (ninS ne_r2_hd (ninS ne_r2_an (ninS ne_r2_fr (ninS ne_r2_ag nin0))))))
      have F120 := (F94.keep K110 (ninS (Ne.symm ne_nb1_nb41_42) (ninS (Ne.symm nes_hd) (ninS (Ne.symm nes_an) (ninS (Ne.symm nes_fr) (ninS (Ne.symm nes_ag) nin0))))))
      show own_G p.tables e below _ T110 (mkF m 116 #[.val (.int p0), .val (.int p1), .val (.int p2), .val (.int p3), .val (.ref nb1), .val (.ref r0), .val (.ref r1), .val (.ref r2), .val (.ref nb41), .val (.int x), .val (.int y), .val (.int (1 : Int32)), .val (.int (0 : Int32)), .unset] [])
      refine own_aload X110 hx (pc' := 118) (hb hby at_116) rfl rfl rfl ?_
      refine own_iload X110 hx (pc' := 120) (hb hby at_118) rfl rfl ?_
      refine own_iconst X110 hx (pc' := 121) (3 : Int32) (hb hby at_120) rfl rfl ?_
      obtain ⟨cl121, Ar121, q121, S121, M121, H121, G121⟩ := id F120
      refine own_stI X110 hx (pc' := 122) hZ rfl Ar121 (inb_of S121 (own_in3 hx3).1) (hb hby at_121) rfl (fun T122 h122 X122 e122 W122 => ?_)
      have N123 := Fr.snoc X122 N111 ge_nb41
      have Z124 : n0 ≤ h122.size := Nat.le_trans Z112 (Nat.le_of_eq (Wr.size W122).symm)
      have F125 := (Exa.wr W122 F113)
      have F126 := (Exa.wr W122 F114)
      have F127 := (Fld.other W122 F115 (Or.inl ne_r0_nb41_43))
      have F128 := (Exa.wr W122 F116)
      have F129 := (Fld.other W122 F117 (Or.inl ne_r1_nb41_44))
      have F130 := (Exa.wr W122 F118)
      have F131 := (Fld.other W122 F119 (Or.inl ne_r2_nb41_45))
      have F132 : Arv Z h122 nb41 k41 .int (5 : Int32) ([(.int (1 : Int32)), (.int (1 : Int32)), (.int (1 : Int32)), (.int (0 : Int32)), (.int (0 : Int32))].set (x : Int32).toNatClampNeg (.int (3 : Int32))) (.int (0 : Int32)) := (Arv.set Ar121 q121 S121 M121 H121 G121 rfl W122 (x : Int32).toNatClampNeg rfl (own_in3 hx3).2.2)
      have F133 := (own_S_wr SS110 W122 ⟨ne_nb1_nb41_42, nes_hd, nes_an, nes_fr, nes_ag⟩)
      obtain ⟨wa134, wb134, wc134, ew134, ua134, ub134, uc134⟩ := own_set3 x 3 (1 : Int32) (1 : Int32) (1 : Int32) (0 : Int32) (0 : Int32) hx3
      have Vw134 := F132
      rw [ew134] at Vw134
      refine own_iload X122 hx (pc' := 124) (hb hby at_122) rfl rfl ?_
      refine own_iconst X122 hx (pc' := 125) (2 : Int32) (hb hby at_124) rfl rfl ?_
      refine own_icmpYes X122 hx (pc' := 150) (hb hby at_125) (tlt (by decide : (1 : Int32) < (2 : Int32))).1 (by decide) (by decide) ?_
      refine own_iconst X122 hx (pc' := 151) (1 : Int32) (hb hby at_150) rfl rfl ?_
      refine own_istore X122 hx (pc' := 153) (Ls' := #[.val (.int p0), .val (.int p1), .val (.int p2), .val (.int p3), .val (.ref nb1), .val (.ref r0), .val (.ref r1), .val (.ref r2), .val (.ref nb41), .val (.int x), .val (.int y), .val (.int (1 : Int32)), .val (.int (0 : Int32)), .val (.int (1 : Int32))]) (hb hby at_151) rfl rfl ?_
      refine own_iload X122 hx (pc' := 155) (hb hby at_153) rfl rfl ?_
      refine own_iconst X122 hx (pc' := 156) (1 : Int32) (hb hby at_155) rfl rfl ?_
      refine own_icmpYes X122 hx (pc' := 195) (hb hby at_156) (tlt (by decide : (0 : Int32) < (1 : Int32))).1 (by decide) (by decide) ?_
      refine own_iload X122 hx (pc' := 197) (hb hby at_195) rfl rfl ?_
      refine own_iconst X122 hx (pc' := 198) (2 : Int32) (hb hby at_197) rfl rfl ?_
      refine own_icmpYes X122 hx (pc' := 237) (hb hby at_198) (tlt (by decide : (0 : Int32) < (2 : Int32))).1 (by decide) (by decide) ?_
      have hck0 := own_fin16 x y hx3 hy3 hxy wa134 wb134 wc134 ua134 ub134 uc134
      have hck1 := own_fin17 x y hx3 hy3 hxy wa134 wb134 wc134 ua134 ub134 uc134
      have hck2 := own_fin18 x y hx3 hy3 hxy wa134 wb134 wc134 ua134 ub134 uc134
      have hck3 := own_fin19 x y hx3 hy3 hxy wa134 wb134 wc134 ua134 ub134 uc134
      have hck4 := own_fin20 x y hx3 hy3 hxy wa134 wb134 wc134 ua134 ub134 uc134
      exact J237 nb41 k41 x y (1 : Int32) (0 : Int32) (3 : Int32) (1 : Int32) x (0 : Int32) wa134 wb134 wc134 (0 : Int32) (0 : Int32) (0 : Int64) _ _ _ (X122.more (by decide) (by decide)) e122 N123 Z124 F125 F133 Vw134 hck0 hck1 hck2 hck3 hck4
    · skip
      show own_G p.tables e below _ T83 (mkF m 94 #[.val (.int p0), .val (.int p1), .val (.int p2), .val (.int p3), .val (.ref nb1), .val (.ref r0), .val (.ref r1), .val (.ref r2), .val (.ref nb41), .val (.int x), .val (.int y), .val (.int (1 : Int32)), .val (.int (1 : Int32)), .unset] [])
      refine own_iload X83 hx (pc' := 96) (hb hby at_94) rfl rfl ?_
      refine own_iconst X83 hx (pc' := 97) (1 : Int32) (hb hby at_96) rfl rfl ?_
      refine own_icmpNo X83 hx (pc' := 100) (hb hby at_97) (flt (by decide : ¬ ((1 : Int32) < (1 : Int32)))).1 rfl ?_
      refine own_aload X83 hx (pc' := 102) (hb hby at_100) rfl rfl rfl ?_
      refine own_iload X83 hx (pc' := 104) (hb hby at_102) rfl rfl ?_
      refine own_aload X83 hx (pc' := 106) (hb hby at_104) rfl rfl rfl ?_
      refine own_aload X83 hx (pc' := 108) (hb hby at_106) rfl rfl rfl ?_
      refine own_aload X83 hx (pc' := 110) (hb hby at_108) rfl rfl rfl ?_
      refine own_callS X83 hx (pc' := 113) hZ hown (Wd52 hw) (Wd53 hw) (Wd54 hw) (Wd55 hw) (by decide) (rm_pk l Z a0 hw [] x r0 r1 r2 h83 n0 Z85) e83 1 (by decide) (by decide) (by decide) (by decide) [(.int x), (.ref r0), (.ref r1), (.ref r2)] [(.ref nb1)] (by rw [hml]; rfl) (lenOf pd_7 rfl) rfl rfl (Nat.le_of_eq rfl) (hb hby at_110) rfl (fun v135 T135 L135 X135 hQ135 => ?_)
      obtain ⟨rfl, Nq135, e135⟩ := hQ135
      have N136 := Fr.app N84 Nq135
      show own_G p.tables e below _ T135 (mkF m 113 #[.val (.int p0), .val (.int p1), .val (.int p2), .val (.int p3), .val (.ref nb1), .val (.ref r0), .val (.ref r1), .val (.ref r2), .val (.ref nb41), .val (.int x), .val (.int y), .val (.int (1 : Int32)), .val (.int (1 : Int32)), .unset] [(.ref (own_pk x r0 r1 r2)), (.ref nb1)])
      have pE137 : Exa Z h83 (own_pk x r0 r1 r2) "com/example/pandarus/pandarus/Ranked" := by rcases hx3 with q | q | q <;> rw [q] <;> first | exact F87 | exact F89 | exact F91
      have pF137 : Fld Z h83 (own_pk x r0 r1 r2) "com/example/pandarus/pandarus/Ranked" "slot" "I" (.int x) := by rcases hx3 with q | q | q <;> rw [q] <;> first | exact F88 | exact F90 | exact F92
      have pN137 : (own_pk x r0 r1 r2) ≠ nb1 ∧ (own_pk x r0 r1 r2) ≠ hd ∧ (own_pk x r0 r1 r2) ≠ an ∧ (own_pk x r0 r1 r2) ≠ fr ∧ (own_pk x r0 r1 r2) ≠ ag := by rcases hx3 with q | q | q <;> rw [q] <;> first | exact ⟨ne_r0_nb1, ne_r0_hd, ne_r0_an, ne_r0_fr, ne_r0_ag⟩ | exact ⟨ne_r1_nb1, ne_r1_hd, ne_r1_an, ne_r1_fr, ne_r1_ag⟩ | exact ⟨ne_r2_nb1, ne_r2_hd, ne_r2_an, ne_r2_fr, ne_r2_ag⟩
      refine own_callV X135 hx (pc' := 116) hZ hown (Wd56 hw) (Wd58 hw) (Wd59 hw) (Wd60 hw) (Wd2 hw) (by decide) (rm_r0 l Z a0 hw [] nb1 hd an fr ag kh ka kf kg (own_pk x r0 r1 r2) (3 : Int32) (0 : Int64) (0 : Int32) (0 : Int32) x h83 n0 Z85 ⟨(own_in3 hx3).2.1.1, Int.le_trans (own_in3 hx3).2.1.2 (by decide)⟩ pN137 DD pE137 pF137 F93) e135 F86 0 (by decide) (by decide) (by decide) (by decide) [(.ref (own_pk x r0 r1 r2))] [] (by rw [hml]; rfl) (lenOf pd_8 rfl) rfl rfl (Nat.le_of_eq rfl) (hb hby at_113) rfl (fun v138 T138 L138 X138 hQ138 => ?_)
      obtain ⟨rfl, Nq138, K138, SS138⟩ := hQ138
      have N139 := Fr.app N136 Nq138
      have Z140 : n0 ≤ T138.heap.size := Nat.le_trans Z85 K138.1
      have F141 := (Exa.keep F86 K138)
      have F142 := (Exa.keep F87 K138)
      have F143 := (F88.keep K138 (ninS ne_r0_nb1 (ninS ne_r0_hd (ninS ne_r0_an (ninS ne_r0_fr (ninS ne_r0_ag nin0))))))
      have F144 := (Exa.keep F89 K138)
      have F145 := (F90.keep K138 (ninS ne_r1_nb1 (ninS ne_r1_hd (ninS ne_r1_an (ninS ne_r1_fr (ninS ne_r1_ag nin0))))))
      have F146 := (Exa.keep F91 K138)
      have F147 := (F92.keep K138 (ninS ne_r2_nb1 (ninS ne_r2_hd (ninS ne_r2_an (ninS ne_r2_fr (ninS ne_r2_ag nin0))))))
      have F148 := (F94.keep K138 (ninS (Ne.symm ne_nb1_nb41_42) (ninS (Ne.symm nes_hd) (ninS (Ne.symm nes_an) (ninS (Ne.symm nes_fr) (ninS (Ne.symm nes_ag) nin0))))))
      show own_G p.tables e below _ T138 (mkF m 116 #[.val (.int p0), .val (.int p1), .val (.int p2), .val (.int p3), .val (.ref nb1), .val (.ref r0), .val (.ref r1), .val (.ref r2), .val (.ref nb41), .val (.int x), .val (.int y), .val (.int (1 : Int32)), .val (.int (1 : Int32)), .unset] [])
      refine own_aload X138 hx (pc' := 118) (hb hby at_116) rfl rfl rfl ?_
      refine own_iload X138 hx (pc' := 120) (hb hby at_118) rfl rfl ?_
      refine own_iconst X138 hx (pc' := 121) (3 : Int32) (hb hby at_120) rfl rfl ?_
      obtain ⟨cl149, Ar149, q149, S149, M149, H149, G149⟩ := id F148
      refine own_stI X138 hx (pc' := 122) hZ rfl Ar149 (inb_of S149 (own_in3 hx3).1) (hb hby at_121) rfl (fun T150 h150 X150 e150 W150 => ?_)
      have N151 := Fr.snoc X150 N139 ge_nb41
      have Z152 : n0 ≤ h150.size := Nat.le_trans Z140 (Nat.le_of_eq (Wr.size W150).symm)
      have F153 := (Exa.wr W150 F141)
      have F154 := (Exa.wr W150 F142)
      have F155 := (Fld.other W150 F143 (Or.inl ne_r0_nb41_43))
      have F156 := (Exa.wr W150 F144)
      have F157 := (Fld.other W150 F145 (Or.inl ne_r1_nb41_44))
      have F158 := (Exa.wr W150 F146)
      have F159 := (Fld.other W150 F147 (Or.inl ne_r2_nb41_45))
      have F160 : Arv Z h150 nb41 k41 .int (5 : Int32) ([(.int (1 : Int32)), (.int (1 : Int32)), (.int (1 : Int32)), (.int (0 : Int32)), (.int (0 : Int32))].set (x : Int32).toNatClampNeg (.int (3 : Int32))) (.int (0 : Int32)) := (Arv.set Ar149 q149 S149 M149 H149 G149 rfl W150 (x : Int32).toNatClampNeg rfl (own_in3 hx3).2.2)
      have F161 := (own_S_wr SS138 W150 ⟨ne_nb1_nb41_42, nes_hd, nes_an, nes_fr, nes_ag⟩)
      obtain ⟨wa162, wb162, wc162, ew162, ua162, ub162, uc162⟩ := own_set3 x 3 (1 : Int32) (1 : Int32) (1 : Int32) (0 : Int32) (0 : Int32) hx3
      have Vw162 := F160
      rw [ew162] at Vw162
      refine own_iload X150 hx (pc' := 124) (hb hby at_122) rfl rfl ?_
      refine own_iconst X150 hx (pc' := 125) (2 : Int32) (hb hby at_124) rfl rfl ?_
      refine own_icmpYes X150 hx (pc' := 150) (hb hby at_125) (tlt (by decide : (1 : Int32) < (2 : Int32))).1 (by decide) (by decide) ?_
      refine own_iconst X150 hx (pc' := 151) (1 : Int32) (hb hby at_150) rfl rfl ?_
      refine own_istore X150 hx (pc' := 153) (Ls' := #[.val (.int p0), .val (.int p1), .val (.int p2), .val (.int p3), .val (.ref nb1), .val (.ref r0), .val (.ref r1), .val (.ref r2), .val (.ref nb41), .val (.int x), .val (.int y), .val (.int (1 : Int32)), .val (.int (1 : Int32)), .val (.int (1 : Int32))]) (hb hby at_151) rfl rfl ?_
      refine own_iload X150 hx (pc' := 155) (hb hby at_153) rfl rfl ?_
      refine own_iconst X150 hx (pc' := 156) (1 : Int32) (hb hby at_155) rfl rfl ?_
      refine own_icmpNo X150 hx (pc' := 159) (hb hby at_156) (flt (by decide : ¬ ((1 : Int32) < (1 : Int32)))).1 rfl ?_
      refine own_iload X150 hx (pc' := 161) (hb hby at_159) rfl rfl ?_
      refine own_ifNo X150 hx (pc' := 164) (hb hby at_161) (feq (by decide : ¬ ((1 : Int32) = (0 : Int32)))).1 rfl ?_
      refine own_aload X150 hx (pc' := 166) (hb hby at_164) rfl rfl rfl ?_
      refine own_aload X150 hx (pc' := 168) (hb hby at_166) rfl rfl rfl ?_
      refine own_iconst X150 hx (pc' := 169) (0 : Int32) (hb hby at_168) rfl rfl ?_
      refine own_iload X150 hx (pc' := 171) (hb hby at_169) rfl rfl ?_
      refine own_icmpNo X150 hx (pc' := 174) (hb hby at_171) (tlt (by decide : (0 : Int32) < (1 : Int32))).2.1 rfl ?_
      refine own_iconst X150 hx (pc' := 175) (1 : Int32) (hb hby at_174) rfl rfl ?_
      refine own_goto X150 hx (pc' := 179) (hb hby at_175) (by decide) (by decide) ?_
      refine own_ldc2J X150 hx (pc' := 182) hZ hown (Wd66 hw) (hb hby at_179) rfl ?_
      have hv163 := own_fin21 x y hx3 hy3 hxy wa162 wb162 wc162 ua162 ub162 uc162
      refine own_callS X150 hx (pc' := 185) hZ hown (Wd67 hw) (Wd68 hw) (Wd54 hw) (Wd69 hw) (by decide) (rm_tf1 l Z a0 hw [] nb1 hd an fr ag kh ka kf kg (3 : Int32) (0 : Int64) x (0 : Int32) nb41 k41 wa162 wb162 wc162 (0 : Int32) (0 : Int32) (3 : Int64) h150 n0 Z152 ge_nb41 ⟨ne_nb1_nb41_42, nes_hd, nes_an, nes_fr, nes_ag⟩ DD hx3 hv163 Vw162 F161) e150 0 (by decide) (by decide) (by decide) (by decide) [(.ref nb1), (.ref nb41), (.int (1 : Int32)), (.long (3 : Int64))] [] (by rw [hml]; rfl) (lenOf pd_6 rfl) rfl rfl (Nat.le_of_eq rfl) (hb hby at_182) rfl (fun v164 T164 L164 X164 hQ164 => ?_)
      obtain ⟨rfl, Nq164, K164, wa164, wb164, wc164, ua164, ub164, uc164, SS164, V164⟩ := hQ164
      have N165 := Fr.app N151 Nq164
      have Z166 : n0 ≤ T164.heap.size := Nat.le_trans Z152 K164.1
      have F167 := (Exa.keep F153 K164)
      show own_G p.tables e below _ T164 (mkF m 185 #[.val (.int p0), .val (.int p1), .val (.int p2), .val (.int p3), .val (.ref nb1), .val (.ref r0), .val (.ref r1), .val (.ref r2), .val (.ref nb41), .val (.int x), .val (.int y), .val (.int (1 : Int32)), .val (.int (1 : Int32)), .val (.int (1 : Int32))] [(.int (1 : Int32))])
      refine own_ifNo X164 hx (pc' := 188) (hb hby at_185) (feq (by decide : ¬ ((1 : Int32) = (0 : Int32)))).1 rfl ?_
      refine own_iconst X164 hx (pc' := 189) (1 : Int32) (hb hby at_188) rfl rfl ?_
      refine own_goto X164 hx (pc' := 193) (hb hby at_189) (by decide) (by decide) ?_
      refine own_istore X164 hx (pc' := 195) (Ls' := #[.val (.int p0), .val (.int p1), .val (.int p2), .val (.int p3), .val (.ref nb1), .val (.ref r0), .val (.ref r1), .val (.ref r2), .val (.ref nb41), .val (.int x), .val (.int y), .val (.int (1 : Int32)), .val (.int (1 : Int32)), .val (.int (1 : Int32))]) (hb hby at_193) rfl rfl ?_
      refine own_iload X164 hx (pc' := 197) (hb hby at_195) rfl rfl ?_
      refine own_iconst X164 hx (pc' := 198) (2 : Int32) (hb hby at_197) rfl rfl ?_
      refine own_icmpYes X164 hx (pc' := 237) (hb hby at_198) (tlt (by decide : (1 : Int32) < (2 : Int32))).1 (by decide) (by decide) ?_
      have hck0 := own_fin22 x y hx3 hy3 hxy wa162 wb162 wc162 wa164 wb164 wc164 ua162 ub162 uc162 ua164 ub164 uc164
      have hck1 := own_fin23 x y hx3 hy3 hxy wa162 wb162 wc162 wa164 wb164 wc164 ua162 ub162 uc162 ua164 ub164 uc164
      have hck2 := own_fin24 x y hx3 hy3 hxy wa162 wb162 wc162 wa164 wb164 wc164 ua162 ub162 uc162 ua164 ub164 uc164
      have hck3 := own_fin25 x y hx3 hy3 hxy wa162 wb162 wc162 wa164 wb164 wc164 ua162 ub162 uc162 ua164 ub164 uc164
      have hck4 := own_fin26 x y hx3 hy3 hxy wa162 wb162 wc162 wa164 wb164 wc164 ua162 ub162 uc162 ua164 ub164 uc164
      exact J237 nb41 k41 x y (1 : Int32) (1 : Int32) (3 : Int32) (0 : Int32) x (0 : Int32) wa164 wb164 wc164 (0 : Int32) (0 : Int32) ((0 : Int64) ||| ((1 : Int64) <<< (x &&& 0x3f).toInt64)) _ _ _ (X164.more (by decide) (by decide)) rfl N165 Z166 F167 SS164 V164 hck0 hck1 hck2 hck3 hck4
    · skip
      show own_G p.tables e below _ T83 (mkF m 94 #[.val (.int p0), .val (.int p1), .val (.int p2), .val (.int p3), .val (.ref nb1), .val (.ref r0), .val (.ref r1), .val (.ref r2), .val (.ref nb41), .val (.int x), .val (.int y), .val (.int (1 : Int32)), .val (.int (2 : Int32)), .unset] [])
      refine own_iload X83 hx (pc' := 96) (hb hby at_94) rfl rfl ?_
      refine own_iconst X83 hx (pc' := 97) (1 : Int32) (hb hby at_96) rfl rfl ?_
      refine own_icmpNo X83 hx (pc' := 100) (hb hby at_97) (flt (by decide : ¬ ((1 : Int32) < (1 : Int32)))).1 rfl ?_
      refine own_aload X83 hx (pc' := 102) (hb hby at_100) rfl rfl rfl ?_
      refine own_iload X83 hx (pc' := 104) (hb hby at_102) rfl rfl ?_
      refine own_aload X83 hx (pc' := 106) (hb hby at_104) rfl rfl rfl ?_
      refine own_aload X83 hx (pc' := 108) (hb hby at_106) rfl rfl rfl ?_
      refine own_aload X83 hx (pc' := 110) (hb hby at_108) rfl rfl rfl ?_
      refine own_callS X83 hx (pc' := 113) hZ hown (Wd52 hw) (Wd53 hw) (Wd54 hw) (Wd55 hw) (by decide) (rm_pk l Z a0 hw [] x r0 r1 r2 h83 n0 Z85) e83 1 (by decide) (by decide) (by decide) (by decide) [(.int x), (.ref r0), (.ref r1), (.ref r2)] [(.ref nb1)] (by rw [hml]; rfl) (lenOf pd_7 rfl) rfl rfl (Nat.le_of_eq rfl) (hb hby at_110) rfl (fun v168 T168 L168 X168 hQ168 => ?_)
      obtain ⟨rfl, Nq168, e168⟩ := hQ168
      have N169 := Fr.app N84 Nq168
      show own_G p.tables e below _ T168 (mkF m 113 #[.val (.int p0), .val (.int p1), .val (.int p2), .val (.int p3), .val (.ref nb1), .val (.ref r0), .val (.ref r1), .val (.ref r2), .val (.ref nb41), .val (.int x), .val (.int y), .val (.int (1 : Int32)), .val (.int (2 : Int32)), .unset] [(.ref (own_pk x r0 r1 r2)), (.ref nb1)])
      have pE170 : Exa Z h83 (own_pk x r0 r1 r2) "com/example/pandarus/pandarus/Ranked" := by rcases hx3 with q | q | q <;> rw [q] <;> first | exact F87 | exact F89 | exact F91
      have pF170 : Fld Z h83 (own_pk x r0 r1 r2) "com/example/pandarus/pandarus/Ranked" "slot" "I" (.int x) := by rcases hx3 with q | q | q <;> rw [q] <;> first | exact F88 | exact F90 | exact F92
      have pN170 : (own_pk x r0 r1 r2) ≠ nb1 ∧ (own_pk x r0 r1 r2) ≠ hd ∧ (own_pk x r0 r1 r2) ≠ an ∧ (own_pk x r0 r1 r2) ≠ fr ∧ (own_pk x r0 r1 r2) ≠ ag := by rcases hx3 with q | q | q <;> rw [q] <;> first | exact ⟨ne_r0_nb1, ne_r0_hd, ne_r0_an, ne_r0_fr, ne_r0_ag⟩ | exact ⟨ne_r1_nb1, ne_r1_hd, ne_r1_an, ne_r1_fr, ne_r1_ag⟩ | exact ⟨ne_r2_nb1, ne_r2_hd, ne_r2_an, ne_r2_fr, ne_r2_ag⟩
      refine own_callV X168 hx (pc' := 116) hZ hown (Wd56 hw) (Wd58 hw) (Wd59 hw) (Wd60 hw) (Wd2 hw) (by decide) (rm_r0 l Z a0 hw [] nb1 hd an fr ag kh ka kf kg (own_pk x r0 r1 r2) (3 : Int32) (0 : Int64) (0 : Int32) (0 : Int32) x h83 n0 Z85 ⟨(own_in3 hx3).2.1.1, Int.le_trans (own_in3 hx3).2.1.2 (by decide)⟩ pN170 DD pE170 pF170 F93) e168 F86 0 (by decide) (by decide) (by decide) (by decide) [(.ref (own_pk x r0 r1 r2))] [] (by rw [hml]; rfl) (lenOf pd_8 rfl) rfl rfl (Nat.le_of_eq rfl) (hb hby at_113) rfl (fun v171 T171 L171 X171 hQ171 => ?_)
      obtain ⟨rfl, Nq171, K171, SS171⟩ := hQ171
      have N172 := Fr.app N169 Nq171
      have Z173 : n0 ≤ T171.heap.size := Nat.le_trans Z85 K171.1
      have F174 := (Exa.keep F86 K171)
      have F175 := (Exa.keep F87 K171)
      have F176 := (F88.keep K171 (ninS ne_r0_nb1 (ninS ne_r0_hd (ninS ne_r0_an (ninS ne_r0_fr (ninS ne_r0_ag nin0))))))
      have F177 := (Exa.keep F89 K171)
      have F178 := (F90.keep K171 (ninS ne_r1_nb1 (ninS ne_r1_hd (ninS ne_r1_an (ninS ne_r1_fr (ninS ne_r1_ag nin0))))))
      have F179 := (Exa.keep F91 K171)
      have F180 := (F92.keep K171 (ninS ne_r2_nb1 (ninS ne_r2_hd (ninS ne_r2_an (ninS ne_r2_fr (ninS ne_r2_ag nin0))))))
      have F181 := (F94.keep K171 (ninS (Ne.symm ne_nb1_nb41_42) (ninS (Ne.symm nes_hd) (ninS (Ne.symm nes_an) (ninS (Ne.symm nes_fr) (ninS (Ne.symm nes_ag) nin0))))))
      show own_G p.tables e below _ T171 (mkF m 116 #[.val (.int p0), .val (.int p1), .val (.int p2), .val (.int p3), .val (.ref nb1), .val (.ref r0), .val (.ref r1), .val (.ref r2), .val (.ref nb41), .val (.int x), .val (.int y), .val (.int (1 : Int32)), .val (.int (2 : Int32)), .unset] [])
      refine own_aload X171 hx (pc' := 118) (hb hby at_116) rfl rfl rfl ?_
      refine own_iload X171 hx (pc' := 120) (hb hby at_118) rfl rfl ?_
      refine own_iconst X171 hx (pc' := 121) (3 : Int32) (hb hby at_120) rfl rfl ?_
      obtain ⟨cl182, Ar182, q182, S182, M182, H182, G182⟩ := id F181
      refine own_stI X171 hx (pc' := 122) hZ rfl Ar182 (inb_of S182 (own_in3 hx3).1) (hb hby at_121) rfl (fun T183 h183 X183 e183 W183 => ?_)
      have N184 := Fr.snoc X183 N172 ge_nb41
      have Z185 : n0 ≤ h183.size := Nat.le_trans Z173 (Nat.le_of_eq (Wr.size W183).symm)
      have F186 := (Exa.wr W183 F174)
      have F187 := (Exa.wr W183 F175)
      have F188 := (Fld.other W183 F176 (Or.inl ne_r0_nb41_43))
      have F189 := (Exa.wr W183 F177)
      have F190 := (Fld.other W183 F178 (Or.inl ne_r1_nb41_44))
      have F191 := (Exa.wr W183 F179)
      have F192 := (Fld.other W183 F180 (Or.inl ne_r2_nb41_45))
      have F193 : Arv Z h183 nb41 k41 .int (5 : Int32) ([(.int (1 : Int32)), (.int (1 : Int32)), (.int (1 : Int32)), (.int (0 : Int32)), (.int (0 : Int32))].set (x : Int32).toNatClampNeg (.int (3 : Int32))) (.int (0 : Int32)) := (Arv.set Ar182 q182 S182 M182 H182 G182 rfl W183 (x : Int32).toNatClampNeg rfl (own_in3 hx3).2.2)
      have F194 := (own_S_wr SS171 W183 ⟨ne_nb1_nb41_42, nes_hd, nes_an, nes_fr, nes_ag⟩)
      obtain ⟨wa195, wb195, wc195, ew195, ua195, ub195, uc195⟩ := own_set3 x 3 (1 : Int32) (1 : Int32) (1 : Int32) (0 : Int32) (0 : Int32) hx3
      have Vw195 := F193
      rw [ew195] at Vw195
      refine own_iload X183 hx (pc' := 124) (hb hby at_122) rfl rfl ?_
      refine own_iconst X183 hx (pc' := 125) (2 : Int32) (hb hby at_124) rfl rfl ?_
      refine own_icmpYes X183 hx (pc' := 150) (hb hby at_125) (tlt (by decide : (1 : Int32) < (2 : Int32))).1 (by decide) (by decide) ?_
      refine own_iconst X183 hx (pc' := 151) (1 : Int32) (hb hby at_150) rfl rfl ?_
      refine own_istore X183 hx (pc' := 153) (Ls' := #[.val (.int p0), .val (.int p1), .val (.int p2), .val (.int p3), .val (.ref nb1), .val (.ref r0), .val (.ref r1), .val (.ref r2), .val (.ref nb41), .val (.int x), .val (.int y), .val (.int (1 : Int32)), .val (.int (2 : Int32)), .val (.int (1 : Int32))]) (hb hby at_151) rfl rfl ?_
      refine own_iload X183 hx (pc' := 155) (hb hby at_153) rfl rfl ?_
      refine own_iconst X183 hx (pc' := 156) (1 : Int32) (hb hby at_155) rfl rfl ?_
      refine own_icmpNo X183 hx (pc' := 159) (hb hby at_156) (flt (by decide : ¬ ((2 : Int32) < (1 : Int32)))).1 rfl ?_
      refine own_iload X183 hx (pc' := 161) (hb hby at_159) rfl rfl ?_
      refine own_ifNo X183 hx (pc' := 164) (hb hby at_161) (feq (by decide : ¬ ((1 : Int32) = (0 : Int32)))).1 rfl ?_
      refine own_aload X183 hx (pc' := 166) (hb hby at_164) rfl rfl rfl ?_
      refine own_aload X183 hx (pc' := 168) (hb hby at_166) rfl rfl rfl ?_
      refine own_iconst X183 hx (pc' := 169) (0 : Int32) (hb hby at_168) rfl rfl ?_
      refine own_iload X183 hx (pc' := 171) (hb hby at_169) rfl rfl ?_
      refine own_icmpNo X183 hx (pc' := 174) (hb hby at_171) (tlt (by decide : (0 : Int32) < (1 : Int32))).2.1 rfl ?_
      refine own_iconst X183 hx (pc' := 175) (1 : Int32) (hb hby at_174) rfl rfl ?_
      refine own_goto X183 hx (pc' := 179) (hb hby at_175) (by decide) (by decide) ?_
      refine own_ldc2J X183 hx (pc' := 182) hZ hown (Wd66 hw) (hb hby at_179) rfl ?_
      have hv196 := own_fin27 x y hx3 hy3 hxy wa195 wb195 wc195 ua195 ub195 uc195
      refine own_callS X183 hx (pc' := 185) hZ hown (Wd67 hw) (Wd68 hw) (Wd54 hw) (Wd69 hw) (by decide) (rm_tf1 l Z a0 hw [] nb1 hd an fr ag kh ka kf kg (3 : Int32) (0 : Int64) x (0 : Int32) nb41 k41 wa195 wb195 wc195 (0 : Int32) (0 : Int32) (3 : Int64) h183 n0 Z185 ge_nb41 ⟨ne_nb1_nb41_42, nes_hd, nes_an, nes_fr, nes_ag⟩ DD hx3 hv196 Vw195 F194) e183 0 (by decide) (by decide) (by decide) (by decide) [(.ref nb1), (.ref nb41), (.int (1 : Int32)), (.long (3 : Int64))] [] (by rw [hml]; rfl) (lenOf pd_6 rfl) rfl rfl (Nat.le_of_eq rfl) (hb hby at_182) rfl (fun v197 T197 L197 X197 hQ197 => ?_)
      obtain ⟨rfl, Nq197, K197, wa197, wb197, wc197, ua197, ub197, uc197, SS197, V197⟩ := hQ197
      have N198 := Fr.app N184 Nq197
      have Z199 : n0 ≤ T197.heap.size := Nat.le_trans Z185 K197.1
      have F200 := (Exa.keep F186 K197)
      show own_G p.tables e below _ T197 (mkF m 185 #[.val (.int p0), .val (.int p1), .val (.int p2), .val (.int p3), .val (.ref nb1), .val (.ref r0), .val (.ref r1), .val (.ref r2), .val (.ref nb41), .val (.int x), .val (.int y), .val (.int (1 : Int32)), .val (.int (2 : Int32)), .val (.int (1 : Int32))] [(.int (1 : Int32))])
      refine own_ifNo X197 hx (pc' := 188) (hb hby at_185) (feq (by decide : ¬ ((1 : Int32) = (0 : Int32)))).1 rfl ?_
      refine own_iconst X197 hx (pc' := 189) (1 : Int32) (hb hby at_188) rfl rfl ?_
      refine own_goto X197 hx (pc' := 193) (hb hby at_189) (by decide) (by decide) ?_
      refine own_istore X197 hx (pc' := 195) (Ls' := #[.val (.int p0), .val (.int p1), .val (.int p2), .val (.int p3), .val (.ref nb1), .val (.ref r0), .val (.ref r1), .val (.ref r2), .val (.ref nb41), .val (.int x), .val (.int y), .val (.int (1 : Int32)), .val (.int (2 : Int32)), .val (.int (1 : Int32))]) (hb hby at_193) rfl rfl ?_
      refine own_iload X197 hx (pc' := 197) (hb hby at_195) rfl rfl ?_
      refine own_iconst X197 hx (pc' := 198) (2 : Int32) (hb hby at_197) rfl rfl ?_
      refine own_icmpNo X197 hx (pc' := 201) (hb hby at_198) (flt (by decide : ¬ ((2 : Int32) < (2 : Int32)))).1 rfl ?_
      refine own_iload X197 hx (pc' := 203) (hb hby at_201) rfl rfl ?_
      refine own_ifNo X197 hx (pc' := 206) (hb hby at_203) (feq (by decide : ¬ ((1 : Int32) = (0 : Int32)))).1 rfl ?_
      refine own_aload X197 hx (pc' := 208) (hb hby at_206) rfl rfl rfl ?_
      refine own_aload X197 hx (pc' := 210) (hb hby at_208) rfl rfl rfl ?_
      refine own_iconst X197 hx (pc' := 211) (1 : Int32) (hb hby at_210) rfl rfl ?_
      refine own_iload X197 hx (pc' := 213) (hb hby at_211) rfl rfl ?_
      refine own_icmpYes X197 hx (pc' := 220) (hb hby at_213) (flt (by decide : ¬ ((1 : Int32) < (1 : Int32)))).2.1 (by decide) (by decide) ?_
      refine own_iconst X197 hx (pc' := 221) (0 : Int32) (hb hby at_220) rfl rfl ?_
      refine own_ldc2J X197 hx (pc' := 224) hZ hown (Wd79 hw) (hb hby at_221) rfl ?_
      refine own_callS X197 hx (pc' := 227) hZ hown (Wd67 hw) (Wd68 hw) (Wd54 hw) (Wd69 hw) (by decide) (rm_t3 l Z a0 hw [] nb1 hd an fr ag kh ka kf kg ((0 : Int64) ||| ((1 : Int64) <<< (x &&& 0x3f).toInt64)) x (0 : Int32) nb41 k41 wa197 wb197 wc197 (0 : Int32) (0 : Int32) (4 : Int64) T197.heap n0 Z199 ge_nb41 ⟨ne_nb1_nb41_42, nes_hd, nes_an, nes_fr, nes_ag⟩ DD rfl V197 SS197) rfl 0 (by decide) (by decide) (by decide) (by decide) [(.ref nb1), (.ref nb41), (.int (0 : Int32)), (.long (4 : Int64))] [] (by rw [hml]; rfl) (lenOf pd_6 rfl) rfl rfl (Nat.le_of_eq rfl) (hb hby at_224) rfl (fun v201 T201 L201 X201 hQ201 => ?_)
      obtain ⟨rfl, Nq201, K201, SS201, V201⟩ := hQ201
      have N202 := Fr.app N198 Nq201
      have Z203 : n0 ≤ T201.heap.size := Nat.le_trans Z199 K201.1
      have F204 := (Exa.keep F200 K201)
      show own_G p.tables e below _ T201 (mkF m 227 #[.val (.int p0), .val (.int p1), .val (.int p2), .val (.int p3), .val (.ref nb1), .val (.ref r0), .val (.ref r1), .val (.ref r2), .val (.ref nb41), .val (.int x), .val (.int y), .val (.int (1 : Int32)), .val (.int (2 : Int32)), .val (.int (1 : Int32))] [(.int (1 : Int32))])
      refine own_ifNo X201 hx (pc' := 230) (hb hby at_227) (feq (by decide : ¬ ((1 : Int32) = (0 : Int32)))).1 rfl ?_
      refine own_iconst X201 hx (pc' := 231) (1 : Int32) (hb hby at_230) rfl rfl ?_
      refine own_goto X201 hx (pc' := 235) (hb hby at_231) (by decide) (by decide) ?_
      refine own_istore X201 hx (pc' := 237) (Ls' := #[.val (.int p0), .val (.int p1), .val (.int p2), .val (.int p3), .val (.ref nb1), .val (.ref r0), .val (.ref r1), .val (.ref r2), .val (.ref nb41), .val (.int x), .val (.int y), .val (.int (1 : Int32)), .val (.int (2 : Int32)), .val (.int (1 : Int32))]) (hb hby at_235) rfl rfl ?_
      have hck0 := own_fin28 x y hx3 hy3 hxy wa195 wb195 wc195 wa197 wb197 wc197 ua195 ub195 uc195 ua197 ub197 uc197
      have hck1 := own_fin29 x y hx3 hy3 hxy wa195 wb195 wc195 wa197 wb197 wc197 ua195 ub195 uc195 ua197 ub197 uc197
      have hck2 := own_fin30 x y hx3 hy3 hxy wa195 wb195 wc195 wa197 wb197 wc197 ua195 ub195 uc195 ua197 ub197 uc197
      have hck3 := own_fin31 x y hx3 hy3 hxy wa195 wb195 wc195 wa197 wb197 wc197 ua195 ub195 uc195 ua197 ub197 uc197
      have hck4 := own_fin32 x y hx3 hy3 hxy wa195 wb195 wc195 wa197 wb197 wc197 ua195 ub195 uc195 ua197 ub197 uc197
      exact J237 nb41 k41 x y (1 : Int32) (2 : Int32) (4 : Int32) (0 : Int32) x (0 : Int32) wa197 wb197 wc197 (1 : Int32) (0 : Int32) ((0 : Int64) ||| ((1 : Int64) <<< (x &&& 0x3f).toInt64)) _ _ _ (X201.more (by decide) (by decide)) rfl N202 Z203 F204 SS201 V201 hck0 hck1 hck2 hck3 hck4
  · rcases hmm3 with rfl | rfl | rfl
    · skip
      show own_G p.tables e below _ T83 (mkF m 94 #[.val (.int p0), .val (.int p1), .val (.int p2), .val (.int p3), .val (.ref nb1), .val (.ref r0), .val (.ref r1), .val (.ref r2), .val (.ref nb41), .val (.int x), .val (.int y), .val (.int (2 : Int32)), .val (.int (0 : Int32)), .unset] [])
      refine own_iload X83 hx (pc' := 96) (hb hby at_94) rfl rfl ?_
      refine own_iconst X83 hx (pc' := 97) (1 : Int32) (hb hby at_96) rfl rfl ?_
      refine own_icmpNo X83 hx (pc' := 100) (hb hby at_97) (flt (by decide : ¬ ((2 : Int32) < (1 : Int32)))).1 rfl ?_
      refine own_aload X83 hx (pc' := 102) (hb hby at_100) rfl rfl rfl ?_
      refine own_iload X83 hx (pc' := 104) (hb hby at_102) rfl rfl ?_
      refine own_aload X83 hx (pc' := 106) (hb hby at_104) rfl rfl rfl ?_
      refine own_aload X83 hx (pc' := 108) (hb hby at_106) rfl rfl rfl ?_
      refine own_aload X83 hx (pc' := 110) (hb hby at_108) rfl rfl rfl ?_
      refine own_callS X83 hx (pc' := 113) hZ hown (Wd52 hw) (Wd53 hw) (Wd54 hw) (Wd55 hw) (by decide) (rm_pk l Z a0 hw [] x r0 r1 r2 h83 n0 Z85) e83 1 (by decide) (by decide) (by decide) (by decide) [(.int x), (.ref r0), (.ref r1), (.ref r2)] [(.ref nb1)] (by rw [hml]; rfl) (lenOf pd_7 rfl) rfl rfl (Nat.le_of_eq rfl) (hb hby at_110) rfl (fun v205 T205 L205 X205 hQ205 => ?_)
      obtain ⟨rfl, Nq205, e205⟩ := hQ205
      have N206 := Fr.app N84 Nq205
      show own_G p.tables e below _ T205 (mkF m 113 #[.val (.int p0), .val (.int p1), .val (.int p2), .val (.int p3), .val (.ref nb1), .val (.ref r0), .val (.ref r1), .val (.ref r2), .val (.ref nb41), .val (.int x), .val (.int y), .val (.int (2 : Int32)), .val (.int (0 : Int32)), .unset] [(.ref (own_pk x r0 r1 r2)), (.ref nb1)])
      have pE207 : Exa Z h83 (own_pk x r0 r1 r2) "com/example/pandarus/pandarus/Ranked" := by rcases hx3 with q | q | q <;> rw [q] <;> first | exact F87 | exact F89 | exact F91
      have pF207 : Fld Z h83 (own_pk x r0 r1 r2) "com/example/pandarus/pandarus/Ranked" "slot" "I" (.int x) := by rcases hx3 with q | q | q <;> rw [q] <;> first | exact F88 | exact F90 | exact F92
      have pN207 : (own_pk x r0 r1 r2) ≠ nb1 ∧ (own_pk x r0 r1 r2) ≠ hd ∧ (own_pk x r0 r1 r2) ≠ an ∧ (own_pk x r0 r1 r2) ≠ fr ∧ (own_pk x r0 r1 r2) ≠ ag := by rcases hx3 with q | q | q <;> rw [q] <;> first | exact ⟨ne_r0_nb1, ne_r0_hd, ne_r0_an, ne_r0_fr, ne_r0_ag⟩ | exact ⟨ne_r1_nb1, ne_r1_hd, ne_r1_an, ne_r1_fr, ne_r1_ag⟩ | exact ⟨ne_r2_nb1, ne_r2_hd, ne_r2_an, ne_r2_fr, ne_r2_ag⟩
      refine own_callV X205 hx (pc' := 116) hZ hown (Wd56 hw) (Wd58 hw) (Wd59 hw) (Wd60 hw) (Wd2 hw) (by decide) (rm_r0 l Z a0 hw [] nb1 hd an fr ag kh ka kf kg (own_pk x r0 r1 r2) (3 : Int32) (0 : Int64) (0 : Int32) (0 : Int32) x h83 n0 Z85 ⟨(own_in3 hx3).2.1.1, Int.le_trans (own_in3 hx3).2.1.2 (by decide)⟩ pN207 DD pE207 pF207 F93) e205 F86 0 (by decide) (by decide) (by decide) (by decide) [(.ref (own_pk x r0 r1 r2))] [] (by rw [hml]; rfl) (lenOf pd_8 rfl) rfl rfl (Nat.le_of_eq rfl) (hb hby at_113) rfl (fun v208 T208 L208 X208 hQ208 => ?_)
      obtain ⟨rfl, Nq208, K208, SS208⟩ := hQ208
      have N209 := Fr.app N206 Nq208
      have Z210 : n0 ≤ T208.heap.size := Nat.le_trans Z85 K208.1
      have F211 := (Exa.keep F86 K208)
      have F212 := (Exa.keep F87 K208)
      have F213 := (F88.keep K208 (ninS ne_r0_nb1 (ninS ne_r0_hd (ninS ne_r0_an (ninS ne_r0_fr (ninS ne_r0_ag nin0))))))
      have F214 := (Exa.keep F89 K208)
      have F215 := (F90.keep K208 (ninS ne_r1_nb1 (ninS ne_r1_hd (ninS ne_r1_an (ninS ne_r1_fr (ninS ne_r1_ag nin0))))))
      have F216 := (Exa.keep F91 K208)
      have F217 := (F92.keep K208 (ninS ne_r2_nb1 (ninS ne_r2_hd (ninS ne_r2_an (ninS ne_r2_fr (ninS ne_r2_ag nin0))))))
      have F218 := (F94.keep K208 (ninS (Ne.symm ne_nb1_nb41_42) (ninS (Ne.symm nes_hd) (ninS (Ne.symm nes_an) (ninS (Ne.symm nes_fr) (ninS (Ne.symm nes_ag) nin0))))))
      show own_G p.tables e below _ T208 (mkF m 116 #[.val (.int p0), .val (.int p1), .val (.int p2), .val (.int p3), .val (.ref nb1), .val (.ref r0), .val (.ref r1), .val (.ref r2), .val (.ref nb41), .val (.int x), .val (.int y), .val (.int (2 : Int32)), .val (.int (0 : Int32)), .unset] [])
      refine own_aload X208 hx (pc' := 118) (hb hby at_116) rfl rfl rfl ?_
      refine own_iload X208 hx (pc' := 120) (hb hby at_118) rfl rfl ?_
      refine own_iconst X208 hx (pc' := 121) (3 : Int32) (hb hby at_120) rfl rfl ?_
      obtain ⟨cl219, Ar219, q219, S219, M219, H219, G219⟩ := id F218
      refine own_stI X208 hx (pc' := 122) hZ rfl Ar219 (inb_of S219 (own_in3 hx3).1) (hb hby at_121) rfl (fun T220 h220 X220 e220 W220 => ?_)
      have N221 := Fr.snoc X220 N209 ge_nb41
      have Z222 : n0 ≤ h220.size := Nat.le_trans Z210 (Nat.le_of_eq (Wr.size W220).symm)
      have F223 := (Exa.wr W220 F211)
      have F224 := (Exa.wr W220 F212)
      have F225 := (Fld.other W220 F213 (Or.inl ne_r0_nb41_43))
      have F226 := (Exa.wr W220 F214)
      have F227 := (Fld.other W220 F215 (Or.inl ne_r1_nb41_44))
      have F228 := (Exa.wr W220 F216)
      have F229 := (Fld.other W220 F217 (Or.inl ne_r2_nb41_45))
      have F230 : Arv Z h220 nb41 k41 .int (5 : Int32) ([(.int (1 : Int32)), (.int (1 : Int32)), (.int (1 : Int32)), (.int (0 : Int32)), (.int (0 : Int32))].set (x : Int32).toNatClampNeg (.int (3 : Int32))) (.int (0 : Int32)) := (Arv.set Ar219 q219 S219 M219 H219 G219 rfl W220 (x : Int32).toNatClampNeg rfl (own_in3 hx3).2.2)
      have F231 := (own_S_wr SS208 W220 ⟨ne_nb1_nb41_42, nes_hd, nes_an, nes_fr, nes_ag⟩)
      obtain ⟨wa232, wb232, wc232, ew232, ua232, ub232, uc232⟩ := own_set3 x 3 (1 : Int32) (1 : Int32) (1 : Int32) (0 : Int32) (0 : Int32) hx3
      have Vw232 := F230
      rw [ew232] at Vw232
      refine own_iload X220 hx (pc' := 124) (hb hby at_122) rfl rfl ?_
      refine own_iconst X220 hx (pc' := 125) (2 : Int32) (hb hby at_124) rfl rfl ?_
      refine own_icmpNo X220 hx (pc' := 128) (hb hby at_125) (flt (by decide : ¬ ((2 : Int32) < (2 : Int32)))).1 rfl ?_
      refine own_aload X220 hx (pc' := 130) (hb hby at_128) rfl rfl rfl ?_
      refine own_iload X220 hx (pc' := 132) (hb hby at_130) rfl rfl ?_
      refine own_aload X220 hx (pc' := 134) (hb hby at_132) rfl rfl rfl ?_
      refine own_aload X220 hx (pc' := 136) (hb hby at_134) rfl rfl rfl ?_
      refine own_aload X220 hx (pc' := 138) (hb hby at_136) rfl rfl rfl ?_
      refine own_callS X220 hx (pc' := 141) hZ hown (Wd52 hw) (Wd53 hw) (Wd54 hw) (Wd55 hw) (by decide) (rm_pk l Z a0 hw [] y r0 r1 r2 h220 n0 Z222) e220 1 (by decide) (by decide) (by decide) (by decide) [(.int y), (.ref r0), (.ref r1), (.ref r2)] [(.ref nb1)] (by rw [hml]; rfl) (lenOf pd_7 rfl) rfl rfl (Nat.le_of_eq rfl) (hb hby at_138) rfl (fun v233 T233 L233 X233 hQ233 => ?_)
      obtain ⟨rfl, Nq233, e233⟩ := hQ233
      have N234 := Fr.app N221 Nq233
      show own_G p.tables e below _ T233 (mkF m 141 #[.val (.int p0), .val (.int p1), .val (.int p2), .val (.int p3), .val (.ref nb1), .val (.ref r0), .val (.ref r1), .val (.ref r2), .val (.ref nb41), .val (.int x), .val (.int y), .val (.int (2 : Int32)), .val (.int (0 : Int32)), .unset] [(.ref (own_pk y r0 r1 r2)), (.ref nb1)])
      have pE235 : Exa Z h220 (own_pk y r0 r1 r2) "com/example/pandarus/pandarus/Ranked" := by rcases hy3 with q | q | q <;> rw [q] <;> first | exact F224 | exact F226 | exact F228
      have pF235 : Fld Z h220 (own_pk y r0 r1 r2) "com/example/pandarus/pandarus/Ranked" "slot" "I" (.int y) := by rcases hy3 with q | q | q <;> rw [q] <;> first | exact F225 | exact F227 | exact F229
      have pN235 : (own_pk y r0 r1 r2) ≠ nb1 ∧ (own_pk y r0 r1 r2) ≠ hd ∧ (own_pk y r0 r1 r2) ≠ an ∧ (own_pk y r0 r1 r2) ≠ fr ∧ (own_pk y r0 r1 r2) ≠ ag := by rcases hy3 with q | q | q <;> rw [q] <;> first | exact ⟨ne_r0_nb1, ne_r0_hd, ne_r0_an, ne_r0_fr, ne_r0_ag⟩ | exact ⟨ne_r1_nb1, ne_r1_hd, ne_r1_an, ne_r1_fr, ne_r1_ag⟩ | exact ⟨ne_r2_nb1, ne_r2_hd, ne_r2_an, ne_r2_fr, ne_r2_ag⟩
      refine own_callV X233 hx (pc' := 144) hZ hown (Wd56 hw) (Wd58 hw) (Wd59 hw) (Wd60 hw) (Wd2 hw) (by decide) (rm_r1 l Z a0 hw [] nb1 hd an fr ag kh ka kf kg (own_pk y r0 r1 r2) (3 : Int32) (0 : Int64) x (0 : Int32) y h220 n0 Z222 ⟨(own_in3 hy3).2.1.1, Int.le_trans (own_in3 hy3).2.1.2 (by decide)⟩ pN235 DD pE235 pF235 F231) e233 F223 0 (by decide) (by decide) (by decide) (by decide) [(.ref (own_pk y r0 r1 r2))] [] (by rw [hml]; rfl) (lenOf pd_8 rfl) rfl rfl (Nat.le_of_eq rfl) (hb hby at_141) rfl (fun v236 T236 L236 X236 hQ236 => ?_)
      obtain ⟨rfl, Nq236, K236, SS236⟩ := hQ236
      have N237 := Fr.app N234 Nq236
      have Z238 : n0 ≤ T236.heap.size := Nat.le_trans Z222 K236.1
      have F239 := (Exa.keep F223 K236)
      have F240 := (Exa.keep F224 K236)
      have F241 := (F225.keep K236 (ninS ne_r0_nb1 (ninS ne_r0_hd (ninS ne_r0_an (ninS ne_r0_fr (ninS ne_r0_ag nin0))))))
      have F242 := (Exa.keep F226 K236)
      have F243 := (F227.keep K236 (ninS ne_r1_nb1 (ninS ne_r1_hd (ninS ne_r1_an (ninS ne_r1_fr (ninS ne_r1_ag nin0))))))
      have F244 := (Exa.keep F228 K236)
      have F245 := (F229.keep K236 (ninS ne_r2_nb1 (ninS ne_r2_hd (ninS ne_r2_an (ninS ne_r2_fr (ninS ne_r2_ag nin0))))))
      have F246 := (Vw232.keep K236 (ninS (Ne.symm ne_nb1_nb41_42) (ninS (Ne.symm nes_hd) (ninS (Ne.symm nes_an) (ninS (Ne.symm nes_fr) (ninS (Ne.symm nes_ag) nin0))))))
      show own_G p.tables e below _ T236 (mkF m 144 #[.val (.int p0), .val (.int p1), .val (.int p2), .val (.int p3), .val (.ref nb1), .val (.ref r0), .val (.ref r1), .val (.ref r2), .val (.ref nb41), .val (.int x), .val (.int y), .val (.int (2 : Int32)), .val (.int (0 : Int32)), .unset] [])
      refine own_aload X236 hx (pc' := 146) (hb hby at_144) rfl rfl rfl ?_
      refine own_iload X236 hx (pc' := 148) (hb hby at_146) rfl rfl ?_
      refine own_iconst X236 hx (pc' := 149) (3 : Int32) (hb hby at_148) rfl rfl ?_
      obtain ⟨cl247, Ar247, q247, S247, M247, H247, G247⟩ := id F246
      refine own_stI X236 hx (pc' := 150) hZ rfl Ar247 (inb_of S247 (own_in3 hy3).1) (hb hby at_149) rfl (fun T248 h248 X248 e248 W248 => ?_)
      have N249 := Fr.snoc X248 N237 ge_nb41
      have Z250 : n0 ≤ h248.size := Nat.le_trans Z238 (Nat.le_of_eq (Wr.size W248).symm)
      have F251 := (Exa.wr W248 F239)
      have F252 := (Exa.wr W248 F240)
      have F253 := (Fld.other W248 F241 (Or.inl ne_r0_nb41_43))
      have F254 := (Exa.wr W248 F242)
      have F255 := (Fld.other W248 F243 (Or.inl ne_r1_nb41_44))
      have F256 := (Exa.wr W248 F244)
      have F257 := (Fld.other W248 F245 (Or.inl ne_r2_nb41_45))
      have F258 : Arv Z h248 nb41 k41 .int (5 : Int32) ([(.int wa232), (.int wb232), (.int wc232), (.int (0 : Int32)), (.int (0 : Int32))].set (y : Int32).toNatClampNeg (.int (3 : Int32))) (.int (0 : Int32)) := (Arv.set Ar247 q247 S247 M247 H247 G247 rfl W248 (y : Int32).toNatClampNeg rfl (own_in3 hy3).2.2)
      have F259 := (own_S_wr SS236 W248 ⟨ne_nb1_nb41_42, nes_hd, nes_an, nes_fr, nes_ag⟩)
      obtain ⟨wa260, wb260, wc260, ew260, ua260, ub260, uc260⟩ := own_set3 y 3 wa232 wb232 wc232 (0 : Int32) (0 : Int32) hy3
      have Vw260 := F258
      rw [ew260] at Vw260
      refine own_iconst X248 hx (pc' := 151) (1 : Int32) (hb hby at_150) rfl rfl ?_
      refine own_istore X248 hx (pc' := 153) (Ls' := #[.val (.int p0), .val (.int p1), .val (.int p2), .val (.int p3), .val (.ref nb1), .val (.ref r0), .val (.ref r1), .val (.ref r2), .val (.ref nb41), .val (.int x), .val (.int y), .val (.int (2 : Int32)), .val (.int (0 : Int32)), .val (.int (1 : Int32))]) (hb hby at_151) rfl rfl ?_
      refine own_iload X248 hx (pc' := 155) (hb hby at_153) rfl rfl ?_
      refine own_iconst X248 hx (pc' := 156) (1 : Int32) (hb hby at_155) rfl rfl ?_
      refine own_icmpYes X248 hx (pc' := 195) (hb hby at_156) (tlt (by decide : (0 : Int32) < (1 : Int32))).1 (by decide) (by decide) ?_
      refine own_iload X248 hx (pc' := 197) (hb hby at_195) rfl rfl ?_
      refine own_iconst X248 hx (pc' := 198) (2 : Int32) (hb hby at_197) rfl rfl ?_
      refine own_icmpYes X248 hx (pc' := 237) (hb hby at_198) (tlt (by decide : (0 : Int32) < (2 : Int32))).1 (by decide) (by decide) ?_
      have hck0 := own_fin33 x y hx3 hy3 hxy wa232 wb232 wc232 wa260 wb260 wc260 ua232 ub232 uc232 ua260 ub260 uc260
      have hck1 := own_fin34 x y hx3 hy3 hxy wa232 wb232 wc232 wa260 wb260 wc260 ua232 ub232 uc232 ua260 ub260 uc260
      have hck2 := own_fin35 x y hx3 hy3 hxy wa232 wb232 wc232 wa260 wb260 wc260 ua232 ub232 uc232 ua260 ub260 uc260
      have hck3 := own_fin36 x y hx3 hy3 hxy wa232 wb232 wc232 wa260 wb260 wc260 ua232 ub232 uc232 ua260 ub260 uc260
      have hck4 := own_fin37 x y hx3 hy3 hxy wa232 wb232 wc232 wa260 wb260 wc260 ua232 ub232 uc232 ua260 ub260 uc260
      exact J237 nb41 k41 x y (2 : Int32) (0 : Int32) (3 : Int32) (2 : Int32) x y wa260 wb260 wc260 (0 : Int32) (0 : Int32) (0 : Int64) _ _ _ (X248.more (by decide) (by decide)) e248 N249 Z250 F251 F259 Vw260 hck0 hck1 hck2 hck3 hck4
    · skip
      show own_G p.tables e below _ T83 (mkF m 94 #[.val (.int p0), .val (.int p1), .val (.int p2), .val (.int p3), .val (.ref nb1), .val (.ref r0), .val (.ref r1), .val (.ref r2), .val (.ref nb41), .val (.int x), .val (.int y), .val (.int (2 : Int32)), .val (.int (1 : Int32)), .unset] [])
      refine own_iload X83 hx (pc' := 96) (hb hby at_94) rfl rfl ?_
      refine own_iconst X83 hx (pc' := 97) (1 : Int32) (hb hby at_96) rfl rfl ?_
      refine own_icmpNo X83 hx (pc' := 100) (hb hby at_97) (flt (by decide : ¬ ((2 : Int32) < (1 : Int32)))).1 rfl ?_
      refine own_aload X83 hx (pc' := 102) (hb hby at_100) rfl rfl rfl ?_
      refine own_iload X83 hx (pc' := 104) (hb hby at_102) rfl rfl ?_
      refine own_aload X83 hx (pc' := 106) (hb hby at_104) rfl rfl rfl ?_
      refine own_aload X83 hx (pc' := 108) (hb hby at_106) rfl rfl rfl ?_
      refine own_aload X83 hx (pc' := 110) (hb hby at_108) rfl rfl rfl ?_
      refine own_callS X83 hx (pc' := 113) hZ hown (Wd52 hw) (Wd53 hw) (Wd54 hw) (Wd55 hw) (by decide) (rm_pk l Z a0 hw [] x r0 r1 r2 h83 n0 Z85) e83 1 (by decide) (by decide) (by decide) (by decide) [(.int x), (.ref r0), (.ref r1), (.ref r2)] [(.ref nb1)] (by rw [hml]; rfl) (lenOf pd_7 rfl) rfl rfl (Nat.le_of_eq rfl) (hb hby at_110) rfl (fun v261 T261 L261 X261 hQ261 => ?_)
      obtain ⟨rfl, Nq261, e261⟩ := hQ261
      have N262 := Fr.app N84 Nq261
      show own_G p.tables e below _ T261 (mkF m 113 #[.val (.int p0), .val (.int p1), .val (.int p2), .val (.int p3), .val (.ref nb1), .val (.ref r0), .val (.ref r1), .val (.ref r2), .val (.ref nb41), .val (.int x), .val (.int y), .val (.int (2 : Int32)), .val (.int (1 : Int32)), .unset] [(.ref (own_pk x r0 r1 r2)), (.ref nb1)])
      have pE263 : Exa Z h83 (own_pk x r0 r1 r2) "com/example/pandarus/pandarus/Ranked" := by rcases hx3 with q | q | q <;> rw [q] <;> first | exact F87 | exact F89 | exact F91
      have pF263 : Fld Z h83 (own_pk x r0 r1 r2) "com/example/pandarus/pandarus/Ranked" "slot" "I" (.int x) := by rcases hx3 with q | q | q <;> rw [q] <;> first | exact F88 | exact F90 | exact F92
      have pN263 : (own_pk x r0 r1 r2) ≠ nb1 ∧ (own_pk x r0 r1 r2) ≠ hd ∧ (own_pk x r0 r1 r2) ≠ an ∧ (own_pk x r0 r1 r2) ≠ fr ∧ (own_pk x r0 r1 r2) ≠ ag := by rcases hx3 with q | q | q <;> rw [q] <;> first | exact ⟨ne_r0_nb1, ne_r0_hd, ne_r0_an, ne_r0_fr, ne_r0_ag⟩ | exact ⟨ne_r1_nb1, ne_r1_hd, ne_r1_an, ne_r1_fr, ne_r1_ag⟩ | exact ⟨ne_r2_nb1, ne_r2_hd, ne_r2_an, ne_r2_fr, ne_r2_ag⟩
      refine own_callV X261 hx (pc' := 116) hZ hown (Wd56 hw) (Wd58 hw) (Wd59 hw) (Wd60 hw) (Wd2 hw) (by decide) (rm_r0 l Z a0 hw [] nb1 hd an fr ag kh ka kf kg (own_pk x r0 r1 r2) (3 : Int32) (0 : Int64) (0 : Int32) (0 : Int32) x h83 n0 Z85 ⟨(own_in3 hx3).2.1.1, Int.le_trans (own_in3 hx3).2.1.2 (by decide)⟩ pN263 DD pE263 pF263 F93) e261 F86 0 (by decide) (by decide) (by decide) (by decide) [(.ref (own_pk x r0 r1 r2))] [] (by rw [hml]; rfl) (lenOf pd_8 rfl) rfl rfl (Nat.le_of_eq rfl) (hb hby at_113) rfl (fun v264 T264 L264 X264 hQ264 => ?_)
      obtain ⟨rfl, Nq264, K264, SS264⟩ := hQ264
      have N265 := Fr.app N262 Nq264
      have Z266 : n0 ≤ T264.heap.size := Nat.le_trans Z85 K264.1
      have F267 := (Exa.keep F86 K264)
      have F268 := (Exa.keep F87 K264)
      have F269 := (F88.keep K264 (ninS ne_r0_nb1 (ninS ne_r0_hd (ninS ne_r0_an (ninS ne_r0_fr (ninS ne_r0_ag nin0))))))
      have F270 := (Exa.keep F89 K264)
      have F271 := (F90.keep K264 (ninS ne_r1_nb1 (ninS ne_r1_hd (ninS ne_r1_an (ninS ne_r1_fr (ninS ne_r1_ag nin0))))))
      have F272 := (Exa.keep F91 K264)
      have F273 := (F92.keep K264 (ninS ne_r2_nb1 (ninS ne_r2_hd (ninS ne_r2_an (ninS ne_r2_fr (ninS ne_r2_ag nin0))))))
      have F274 := (F94.keep K264 (ninS (Ne.symm ne_nb1_nb41_42) (ninS (Ne.symm nes_hd) (ninS (Ne.symm nes_an) (ninS (Ne.symm nes_fr) (ninS (Ne.symm nes_ag) nin0))))))
      show own_G p.tables e below _ T264 (mkF m 116 #[.val (.int p0), .val (.int p1), .val (.int p2), .val (.int p3), .val (.ref nb1), .val (.ref r0), .val (.ref r1), .val (.ref r2), .val (.ref nb41), .val (.int x), .val (.int y), .val (.int (2 : Int32)), .val (.int (1 : Int32)), .unset] [])
      refine own_aload X264 hx (pc' := 118) (hb hby at_116) rfl rfl rfl ?_
      refine own_iload X264 hx (pc' := 120) (hb hby at_118) rfl rfl ?_
      refine own_iconst X264 hx (pc' := 121) (3 : Int32) (hb hby at_120) rfl rfl ?_
      obtain ⟨cl275, Ar275, q275, S275, M275, H275, G275⟩ := id F274
      refine own_stI X264 hx (pc' := 122) hZ rfl Ar275 (inb_of S275 (own_in3 hx3).1) (hb hby at_121) rfl (fun T276 h276 X276 e276 W276 => ?_)
      have N277 := Fr.snoc X276 N265 ge_nb41
      have Z278 : n0 ≤ h276.size := Nat.le_trans Z266 (Nat.le_of_eq (Wr.size W276).symm)
      have F279 := (Exa.wr W276 F267)
      have F280 := (Exa.wr W276 F268)
      have F281 := (Fld.other W276 F269 (Or.inl ne_r0_nb41_43))
      have F282 := (Exa.wr W276 F270)
      have F283 := (Fld.other W276 F271 (Or.inl ne_r1_nb41_44))
      have F284 := (Exa.wr W276 F272)
      have F285 := (Fld.other W276 F273 (Or.inl ne_r2_nb41_45))
      have F286 : Arv Z h276 nb41 k41 .int (5 : Int32) ([(.int (1 : Int32)), (.int (1 : Int32)), (.int (1 : Int32)), (.int (0 : Int32)), (.int (0 : Int32))].set (x : Int32).toNatClampNeg (.int (3 : Int32))) (.int (0 : Int32)) := (Arv.set Ar275 q275 S275 M275 H275 G275 rfl W276 (x : Int32).toNatClampNeg rfl (own_in3 hx3).2.2)
      have F287 := (own_S_wr SS264 W276 ⟨ne_nb1_nb41_42, nes_hd, nes_an, nes_fr, nes_ag⟩)
      obtain ⟨wa288, wb288, wc288, ew288, ua288, ub288, uc288⟩ := own_set3 x 3 (1 : Int32) (1 : Int32) (1 : Int32) (0 : Int32) (0 : Int32) hx3
      have Vw288 := F286
      rw [ew288] at Vw288
      refine own_iload X276 hx (pc' := 124) (hb hby at_122) rfl rfl ?_
      refine own_iconst X276 hx (pc' := 125) (2 : Int32) (hb hby at_124) rfl rfl ?_
      refine own_icmpNo X276 hx (pc' := 128) (hb hby at_125) (flt (by decide : ¬ ((2 : Int32) < (2 : Int32)))).1 rfl ?_
      refine own_aload X276 hx (pc' := 130) (hb hby at_128) rfl rfl rfl ?_
      refine own_iload X276 hx (pc' := 132) (hb hby at_130) rfl rfl ?_
      refine own_aload X276 hx (pc' := 134) (hb hby at_132) rfl rfl rfl ?_
      refine own_aload X276 hx (pc' := 136) (hb hby at_134) rfl rfl rfl ?_
      refine own_aload X276 hx (pc' := 138) (hb hby at_136) rfl rfl rfl ?_
      refine own_callS X276 hx (pc' := 141) hZ hown (Wd52 hw) (Wd53 hw) (Wd54 hw) (Wd55 hw) (by decide) (rm_pk l Z a0 hw [] y r0 r1 r2 h276 n0 Z278) e276 1 (by decide) (by decide) (by decide) (by decide) [(.int y), (.ref r0), (.ref r1), (.ref r2)] [(.ref nb1)] (by rw [hml]; rfl) (lenOf pd_7 rfl) rfl rfl (Nat.le_of_eq rfl) (hb hby at_138) rfl (fun v289 T289 L289 X289 hQ289 => ?_)
      obtain ⟨rfl, Nq289, e289⟩ := hQ289
      have N290 := Fr.app N277 Nq289
      show own_G p.tables e below _ T289 (mkF m 141 #[.val (.int p0), .val (.int p1), .val (.int p2), .val (.int p3), .val (.ref nb1), .val (.ref r0), .val (.ref r1), .val (.ref r2), .val (.ref nb41), .val (.int x), .val (.int y), .val (.int (2 : Int32)), .val (.int (1 : Int32)), .unset] [(.ref (own_pk y r0 r1 r2)), (.ref nb1)])
      have pE291 : Exa Z h276 (own_pk y r0 r1 r2) "com/example/pandarus/pandarus/Ranked" := by rcases hy3 with q | q | q <;> rw [q] <;> first | exact F280 | exact F282 | exact F284
      have pF291 : Fld Z h276 (own_pk y r0 r1 r2) "com/example/pandarus/pandarus/Ranked" "slot" "I" (.int y) := by rcases hy3 with q | q | q <;> rw [q] <;> first | exact F281 | exact F283 | exact F285
      have pN291 : (own_pk y r0 r1 r2) ≠ nb1 ∧ (own_pk y r0 r1 r2) ≠ hd ∧ (own_pk y r0 r1 r2) ≠ an ∧ (own_pk y r0 r1 r2) ≠ fr ∧ (own_pk y r0 r1 r2) ≠ ag := by rcases hy3 with q | q | q <;> rw [q] <;> first | exact ⟨ne_r0_nb1, ne_r0_hd, ne_r0_an, ne_r0_fr, ne_r0_ag⟩ | exact ⟨ne_r1_nb1, ne_r1_hd, ne_r1_an, ne_r1_fr, ne_r1_ag⟩ | exact ⟨ne_r2_nb1, ne_r2_hd, ne_r2_an, ne_r2_fr, ne_r2_ag⟩
      refine own_callV X289 hx (pc' := 144) hZ hown (Wd56 hw) (Wd58 hw) (Wd59 hw) (Wd60 hw) (Wd2 hw) (by decide) (rm_r1 l Z a0 hw [] nb1 hd an fr ag kh ka kf kg (own_pk y r0 r1 r2) (3 : Int32) (0 : Int64) x (0 : Int32) y h276 n0 Z278 ⟨(own_in3 hy3).2.1.1, Int.le_trans (own_in3 hy3).2.1.2 (by decide)⟩ pN291 DD pE291 pF291 F287) e289 F279 0 (by decide) (by decide) (by decide) (by decide) [(.ref (own_pk y r0 r1 r2))] [] (by rw [hml]; rfl) (lenOf pd_8 rfl) rfl rfl (Nat.le_of_eq rfl) (hb hby at_141) rfl (fun v292 T292 L292 X292 hQ292 => ?_)
      obtain ⟨rfl, Nq292, K292, SS292⟩ := hQ292
      have N293 := Fr.app N290 Nq292
      have Z294 : n0 ≤ T292.heap.size := Nat.le_trans Z278 K292.1
      have F295 := (Exa.keep F279 K292)
      have F296 := (Exa.keep F280 K292)
      have F297 := (F281.keep K292 (ninS ne_r0_nb1 (ninS ne_r0_hd (ninS ne_r0_an (ninS ne_r0_fr (ninS ne_r0_ag nin0))))))
      have F298 := (Exa.keep F282 K292)
      have F299 := (F283.keep K292 (ninS ne_r1_nb1 (ninS ne_r1_hd (ninS ne_r1_an (ninS ne_r1_fr (ninS ne_r1_ag nin0))))))
      have F300 := (Exa.keep F284 K292)
      have F301 := (F285.keep K292 (ninS ne_r2_nb1 (ninS ne_r2_hd (ninS ne_r2_an (ninS ne_r2_fr (ninS ne_r2_ag nin0))))))
      have F302 := (Vw288.keep K292 (ninS (Ne.symm ne_nb1_nb41_42) (ninS (Ne.symm nes_hd) (ninS (Ne.symm nes_an) (ninS (Ne.symm nes_fr) (ninS (Ne.symm nes_ag) nin0))))))
      show own_G p.tables e below _ T292 (mkF m 144 #[.val (.int p0), .val (.int p1), .val (.int p2), .val (.int p3), .val (.ref nb1), .val (.ref r0), .val (.ref r1), .val (.ref r2), .val (.ref nb41), .val (.int x), .val (.int y), .val (.int (2 : Int32)), .val (.int (1 : Int32)), .unset] [])
      refine own_aload X292 hx (pc' := 146) (hb hby at_144) rfl rfl rfl ?_
      refine own_iload X292 hx (pc' := 148) (hb hby at_146) rfl rfl ?_
      refine own_iconst X292 hx (pc' := 149) (3 : Int32) (hb hby at_148) rfl rfl ?_
      obtain ⟨cl303, Ar303, q303, S303, M303, H303, G303⟩ := id F302
      refine own_stI X292 hx (pc' := 150) hZ rfl Ar303 (inb_of S303 (own_in3 hy3).1) (hb hby at_149) rfl (fun T304 h304 X304 e304 W304 => ?_)
      have N305 := Fr.snoc X304 N293 ge_nb41
      have Z306 : n0 ≤ h304.size := Nat.le_trans Z294 (Nat.le_of_eq (Wr.size W304).symm)
      have F307 := (Exa.wr W304 F295)
      have F308 := (Exa.wr W304 F296)
      have F309 := (Fld.other W304 F297 (Or.inl ne_r0_nb41_43))
      have F310 := (Exa.wr W304 F298)
      have F311 := (Fld.other W304 F299 (Or.inl ne_r1_nb41_44))
      have F312 := (Exa.wr W304 F300)
      have F313 := (Fld.other W304 F301 (Or.inl ne_r2_nb41_45))
      have F314 : Arv Z h304 nb41 k41 .int (5 : Int32) ([(.int wa288), (.int wb288), (.int wc288), (.int (0 : Int32)), (.int (0 : Int32))].set (y : Int32).toNatClampNeg (.int (3 : Int32))) (.int (0 : Int32)) := (Arv.set Ar303 q303 S303 M303 H303 G303 rfl W304 (y : Int32).toNatClampNeg rfl (own_in3 hy3).2.2)
      have F315 := (own_S_wr SS292 W304 ⟨ne_nb1_nb41_42, nes_hd, nes_an, nes_fr, nes_ag⟩)
      obtain ⟨wa316, wb316, wc316, ew316, ua316, ub316, uc316⟩ := own_set3 y 3 wa288 wb288 wc288 (0 : Int32) (0 : Int32) hy3
      have Vw316 := F314
      rw [ew316] at Vw316
      refine own_iconst X304 hx (pc' := 151) (1 : Int32) (hb hby at_150) rfl rfl ?_
      refine own_istore X304 hx (pc' := 153) (Ls' := #[.val (.int p0), .val (.int p1), .val (.int p2), .val (.int p3), .val (.ref nb1), .val (.ref r0), .val (.ref r1), .val (.ref r2), .val (.ref nb41), .val (.int x), .val (.int y), .val (.int (2 : Int32)), .val (.int (1 : Int32)), .val (.int (1 : Int32))]) (hb hby at_151) rfl rfl ?_
      refine own_iload X304 hx (pc' := 155) (hb hby at_153) rfl rfl ?_
      refine own_iconst X304 hx (pc' := 156) (1 : Int32) (hb hby at_155) rfl rfl ?_
      refine own_icmpNo X304 hx (pc' := 159) (hb hby at_156) (flt (by decide : ¬ ((1 : Int32) < (1 : Int32)))).1 rfl ?_
      refine own_iload X304 hx (pc' := 161) (hb hby at_159) rfl rfl ?_
      refine own_ifNo X304 hx (pc' := 164) (hb hby at_161) (feq (by decide : ¬ ((1 : Int32) = (0 : Int32)))).1 rfl ?_
      refine own_aload X304 hx (pc' := 166) (hb hby at_164) rfl rfl rfl ?_
      refine own_aload X304 hx (pc' := 168) (hb hby at_166) rfl rfl rfl ?_
      refine own_iconst X304 hx (pc' := 169) (0 : Int32) (hb hby at_168) rfl rfl ?_
      refine own_iload X304 hx (pc' := 171) (hb hby at_169) rfl rfl ?_
      refine own_icmpNo X304 hx (pc' := 174) (hb hby at_171) (tlt (by decide : (0 : Int32) < (2 : Int32))).2.1 rfl ?_
      refine own_iconst X304 hx (pc' := 175) (1 : Int32) (hb hby at_174) rfl rfl ?_
      refine own_goto X304 hx (pc' := 179) (hb hby at_175) (by decide) (by decide) ?_
      refine own_ldc2J X304 hx (pc' := 182) hZ hown (Wd66 hw) (hb hby at_179) rfl ?_
      have hv317 := own_fin38 x y hx3 hy3 hxy wa288 wb288 wc288 wa316 wb316 wc316 ua288 ub288 uc288 ua316 ub316 uc316
      refine own_callS X304 hx (pc' := 185) hZ hown (Wd67 hw) (Wd68 hw) (Wd54 hw) (Wd69 hw) (by decide) (rm_tf2 l Z a0 hw [] nb1 hd an fr ag kh ka kf kg (3 : Int32) (0 : Int64) x y nb41 k41 wa316 wb316 wc316 (0 : Int32) (0 : Int32) (3 : Int64) h304 n0 Z306 ge_nb41 ⟨ne_nb1_nb41_42, nes_hd, nes_an, nes_fr, nes_ag⟩ DD hy3 hv317 Vw316 F315) e304 0 (by decide) (by decide) (by decide) (by decide) [(.ref nb1), (.ref nb41), (.int (1 : Int32)), (.long (3 : Int64))] [] (by rw [hml]; rfl) (lenOf pd_6 rfl) rfl rfl (Nat.le_of_eq rfl) (hb hby at_182) rfl (fun v318 T318 L318 X318 hQ318 => ?_)
      obtain ⟨rfl, Nq318, K318, wa318, wb318, wc318, ua318, ub318, uc318, SS318, V318⟩ := hQ318
      have N319 := Fr.app N305 Nq318
      have Z320 : n0 ≤ T318.heap.size := Nat.le_trans Z306 K318.1
      have F321 := (Exa.keep F307 K318)
      show own_G p.tables e below _ T318 (mkF m 185 #[.val (.int p0), .val (.int p1), .val (.int p2), .val (.int p3), .val (.ref nb1), .val (.ref r0), .val (.ref r1), .val (.ref r2), .val (.ref nb41), .val (.int x), .val (.int y), .val (.int (2 : Int32)), .val (.int (1 : Int32)), .val (.int (1 : Int32))] [(.int (1 : Int32))])
      refine own_ifNo X318 hx (pc' := 188) (hb hby at_185) (feq (by decide : ¬ ((1 : Int32) = (0 : Int32)))).1 rfl ?_
      refine own_iconst X318 hx (pc' := 189) (1 : Int32) (hb hby at_188) rfl rfl ?_
      refine own_goto X318 hx (pc' := 193) (hb hby at_189) (by decide) (by decide) ?_
      refine own_istore X318 hx (pc' := 195) (Ls' := #[.val (.int p0), .val (.int p1), .val (.int p2), .val (.int p3), .val (.ref nb1), .val (.ref r0), .val (.ref r1), .val (.ref r2), .val (.ref nb41), .val (.int x), .val (.int y), .val (.int (2 : Int32)), .val (.int (1 : Int32)), .val (.int (1 : Int32))]) (hb hby at_193) rfl rfl ?_
      refine own_iload X318 hx (pc' := 197) (hb hby at_195) rfl rfl ?_
      refine own_iconst X318 hx (pc' := 198) (2 : Int32) (hb hby at_197) rfl rfl ?_
      refine own_icmpYes X318 hx (pc' := 237) (hb hby at_198) (tlt (by decide : (1 : Int32) < (2 : Int32))).1 (by decide) (by decide) ?_
      have hck0 := own_fin39 x y hx3 hy3 hxy wa288 wb288 wc288 wa316 wb316 wc316 wa318 wb318 wc318 ua288 ub288 uc288 ua316 ub316 uc316 ua318 ub318 uc318
      have hck1 := own_fin40 x y hx3 hy3 hxy wa288 wb288 wc288 wa316 wb316 wc316 wa318 wb318 wc318 ua288 ub288 uc288 ua316 ub316 uc316 ua318 ub318 uc318
      have hck2 := own_fin41 x y hx3 hy3 hxy wa288 wb288 wc288 wa316 wb316 wc316 wa318 wb318 wc318 ua288 ub288 uc288 ua316 ub316 uc316 ua318 ub318 uc318
      have hck3 := own_fin42 x y hx3 hy3 hxy wa288 wb288 wc288 wa316 wb316 wc316 wa318 wb318 wc318 ua288 ub288 uc288 ua316 ub316 uc316 ua318 ub318 uc318
      have hck4 := own_fin43 x y hx3 hy3 hxy wa288 wb288 wc288 wa316 wb316 wc316 wa318 wb318 wc318 ua288 ub288 uc288 ua316 ub316 uc316 ua318 ub318 uc318
      exact J237 nb41 k41 x y (2 : Int32) (1 : Int32) (3 : Int32) (1 : Int32) x y wa318 wb318 wc318 (0 : Int32) (0 : Int32) ((0 : Int64) ||| ((1 : Int64) <<< (y &&& 0x3f).toInt64)) _ _ _ (X318.more (by decide) (by decide)) rfl N319 Z320 F321 SS318 V318 hck0 hck1 hck2 hck3 hck4
    · skip
      show own_G p.tables e below _ T83 (mkF m 94 #[.val (.int p0), .val (.int p1), .val (.int p2), .val (.int p3), .val (.ref nb1), .val (.ref r0), .val (.ref r1), .val (.ref r2), .val (.ref nb41), .val (.int x), .val (.int y), .val (.int (2 : Int32)), .val (.int (2 : Int32)), .unset] [])
      refine own_iload X83 hx (pc' := 96) (hb hby at_94) rfl rfl ?_
      refine own_iconst X83 hx (pc' := 97) (1 : Int32) (hb hby at_96) rfl rfl ?_
      refine own_icmpNo X83 hx (pc' := 100) (hb hby at_97) (flt (by decide : ¬ ((2 : Int32) < (1 : Int32)))).1 rfl ?_
      refine own_aload X83 hx (pc' := 102) (hb hby at_100) rfl rfl rfl ?_
      refine own_iload X83 hx (pc' := 104) (hb hby at_102) rfl rfl ?_
      refine own_aload X83 hx (pc' := 106) (hb hby at_104) rfl rfl rfl ?_
      refine own_aload X83 hx (pc' := 108) (hb hby at_106) rfl rfl rfl ?_
      refine own_aload X83 hx (pc' := 110) (hb hby at_108) rfl rfl rfl ?_
      refine own_callS X83 hx (pc' := 113) hZ hown (Wd52 hw) (Wd53 hw) (Wd54 hw) (Wd55 hw) (by decide) (rm_pk l Z a0 hw [] x r0 r1 r2 h83 n0 Z85) e83 1 (by decide) (by decide) (by decide) (by decide) [(.int x), (.ref r0), (.ref r1), (.ref r2)] [(.ref nb1)] (by rw [hml]; rfl) (lenOf pd_7 rfl) rfl rfl (Nat.le_of_eq rfl) (hb hby at_110) rfl (fun v322 T322 L322 X322 hQ322 => ?_)
      obtain ⟨rfl, Nq322, e322⟩ := hQ322
      have N323 := Fr.app N84 Nq322
      show own_G p.tables e below _ T322 (mkF m 113 #[.val (.int p0), .val (.int p1), .val (.int p2), .val (.int p3), .val (.ref nb1), .val (.ref r0), .val (.ref r1), .val (.ref r2), .val (.ref nb41), .val (.int x), .val (.int y), .val (.int (2 : Int32)), .val (.int (2 : Int32)), .unset] [(.ref (own_pk x r0 r1 r2)), (.ref nb1)])
      have pE324 : Exa Z h83 (own_pk x r0 r1 r2) "com/example/pandarus/pandarus/Ranked" := by rcases hx3 with q | q | q <;> rw [q] <;> first | exact F87 | exact F89 | exact F91
      have pF324 : Fld Z h83 (own_pk x r0 r1 r2) "com/example/pandarus/pandarus/Ranked" "slot" "I" (.int x) := by rcases hx3 with q | q | q <;> rw [q] <;> first | exact F88 | exact F90 | exact F92
      have pN324 : (own_pk x r0 r1 r2) ≠ nb1 ∧ (own_pk x r0 r1 r2) ≠ hd ∧ (own_pk x r0 r1 r2) ≠ an ∧ (own_pk x r0 r1 r2) ≠ fr ∧ (own_pk x r0 r1 r2) ≠ ag := by rcases hx3 with q | q | q <;> rw [q] <;> first | exact ⟨ne_r0_nb1, ne_r0_hd, ne_r0_an, ne_r0_fr, ne_r0_ag⟩ | exact ⟨ne_r1_nb1, ne_r1_hd, ne_r1_an, ne_r1_fr, ne_r1_ag⟩ | exact ⟨ne_r2_nb1, ne_r2_hd, ne_r2_an, ne_r2_fr, ne_r2_ag⟩
      refine own_callV X322 hx (pc' := 116) hZ hown (Wd56 hw) (Wd58 hw) (Wd59 hw) (Wd60 hw) (Wd2 hw) (by decide) (rm_r0 l Z a0 hw [] nb1 hd an fr ag kh ka kf kg (own_pk x r0 r1 r2) (3 : Int32) (0 : Int64) (0 : Int32) (0 : Int32) x h83 n0 Z85 ⟨(own_in3 hx3).2.1.1, Int.le_trans (own_in3 hx3).2.1.2 (by decide)⟩ pN324 DD pE324 pF324 F93) e322 F86 0 (by decide) (by decide) (by decide) (by decide) [(.ref (own_pk x r0 r1 r2))] [] (by rw [hml]; rfl) (lenOf pd_8 rfl) rfl rfl (Nat.le_of_eq rfl) (hb hby at_113) rfl (fun v325 T325 L325 X325 hQ325 => ?_)
      obtain ⟨rfl, Nq325, K325, SS325⟩ := hQ325
      have N326 := Fr.app N323 Nq325
      have Z327 : n0 ≤ T325.heap.size := Nat.le_trans Z85 K325.1
      have F328 := (Exa.keep F86 K325)
      have F329 := (Exa.keep F87 K325)
      have F330 := (F88.keep K325 (ninS ne_r0_nb1 (ninS ne_r0_hd (ninS ne_r0_an (ninS ne_r0_fr (ninS ne_r0_ag nin0))))))
      have F331 := (Exa.keep F89 K325)
      have F332 := (F90.keep K325 (ninS ne_r1_nb1 (ninS ne_r1_hd (ninS ne_r1_an (ninS ne_r1_fr (ninS ne_r1_ag nin0))))))
      have F333 := (Exa.keep F91 K325)
      have F334 := (F92.keep K325 (ninS ne_r2_nb1 (ninS ne_r2_hd (ninS ne_r2_an (ninS ne_r2_fr (ninS ne_r2_ag nin0))))))
      have F335 := (F94.keep K325 (ninS (Ne.symm ne_nb1_nb41_42) (ninS (Ne.symm nes_hd) (ninS (Ne.symm nes_an) (ninS (Ne.symm nes_fr) (ninS (Ne.symm nes_ag) nin0))))))
      show own_G p.tables e below _ T325 (mkF m 116 #[.val (.int p0), .val (.int p1), .val (.int p2), .val (.int p3), .val (.ref nb1), .val (.ref r0), .val (.ref r1), .val (.ref r2), .val (.ref nb41), .val (.int x), .val (.int y), .val (.int (2 : Int32)), .val (.int (2 : Int32)), .unset] [])
      refine own_aload X325 hx (pc' := 118) (hb hby at_116) rfl rfl rfl ?_
      refine own_iload X325 hx (pc' := 120) (hb hby at_118) rfl rfl ?_
      refine own_iconst X325 hx (pc' := 121) (3 : Int32) (hb hby at_120) rfl rfl ?_
      obtain ⟨cl336, Ar336, q336, S336, M336, H336, G336⟩ := id F335
      refine own_stI X325 hx (pc' := 122) hZ rfl Ar336 (inb_of S336 (own_in3 hx3).1) (hb hby at_121) rfl (fun T337 h337 X337 e337 W337 => ?_)
      have N338 := Fr.snoc X337 N326 ge_nb41
      have Z339 : n0 ≤ h337.size := Nat.le_trans Z327 (Nat.le_of_eq (Wr.size W337).symm)
      have F340 := (Exa.wr W337 F328)
      have F341 := (Exa.wr W337 F329)
      have F342 := (Fld.other W337 F330 (Or.inl ne_r0_nb41_43))
      have F343 := (Exa.wr W337 F331)
      have F344 := (Fld.other W337 F332 (Or.inl ne_r1_nb41_44))
      have F345 := (Exa.wr W337 F333)
      have F346 := (Fld.other W337 F334 (Or.inl ne_r2_nb41_45))
      have F347 : Arv Z h337 nb41 k41 .int (5 : Int32) ([(.int (1 : Int32)), (.int (1 : Int32)), (.int (1 : Int32)), (.int (0 : Int32)), (.int (0 : Int32))].set (x : Int32).toNatClampNeg (.int (3 : Int32))) (.int (0 : Int32)) := (Arv.set Ar336 q336 S336 M336 H336 G336 rfl W337 (x : Int32).toNatClampNeg rfl (own_in3 hx3).2.2)
      have F348 := (own_S_wr SS325 W337 ⟨ne_nb1_nb41_42, nes_hd, nes_an, nes_fr, nes_ag⟩)
      obtain ⟨wa349, wb349, wc349, ew349, ua349, ub349, uc349⟩ := own_set3 x 3 (1 : Int32) (1 : Int32) (1 : Int32) (0 : Int32) (0 : Int32) hx3
      have Vw349 := F347
      rw [ew349] at Vw349
      refine own_iload X337 hx (pc' := 124) (hb hby at_122) rfl rfl ?_
      refine own_iconst X337 hx (pc' := 125) (2 : Int32) (hb hby at_124) rfl rfl ?_
      refine own_icmpNo X337 hx (pc' := 128) (hb hby at_125) (flt (by decide : ¬ ((2 : Int32) < (2 : Int32)))).1 rfl ?_
      refine own_aload X337 hx (pc' := 130) (hb hby at_128) rfl rfl rfl ?_
      refine own_iload X337 hx (pc' := 132) (hb hby at_130) rfl rfl ?_
      refine own_aload X337 hx (pc' := 134) (hb hby at_132) rfl rfl rfl ?_
      refine own_aload X337 hx (pc' := 136) (hb hby at_134) rfl rfl rfl ?_
      refine own_aload X337 hx (pc' := 138) (hb hby at_136) rfl rfl rfl ?_
      refine own_callS X337 hx (pc' := 141) hZ hown (Wd52 hw) (Wd53 hw) (Wd54 hw) (Wd55 hw) (by decide) (rm_pk l Z a0 hw [] y r0 r1 r2 h337 n0 Z339) e337 1 (by decide) (by decide) (by decide) (by decide) [(.int y), (.ref r0), (.ref r1), (.ref r2)] [(.ref nb1)] (by rw [hml]; rfl) (lenOf pd_7 rfl) rfl rfl (Nat.le_of_eq rfl) (hb hby at_138) rfl (fun v350 T350 L350 X350 hQ350 => ?_)
      obtain ⟨rfl, Nq350, e350⟩ := hQ350
      have N351 := Fr.app N338 Nq350
      show own_G p.tables e below _ T350 (mkF m 141 #[.val (.int p0), .val (.int p1), .val (.int p2), .val (.int p3), .val (.ref nb1), .val (.ref r0), .val (.ref r1), .val (.ref r2), .val (.ref nb41), .val (.int x), .val (.int y), .val (.int (2 : Int32)), .val (.int (2 : Int32)), .unset] [(.ref (own_pk y r0 r1 r2)), (.ref nb1)])
      have pE352 : Exa Z h337 (own_pk y r0 r1 r2) "com/example/pandarus/pandarus/Ranked" := by rcases hy3 with q | q | q <;> rw [q] <;> first | exact F341 | exact F343 | exact F345
      have pF352 : Fld Z h337 (own_pk y r0 r1 r2) "com/example/pandarus/pandarus/Ranked" "slot" "I" (.int y) := by rcases hy3 with q | q | q <;> rw [q] <;> first | exact F342 | exact F344 | exact F346
      have pN352 : (own_pk y r0 r1 r2) ≠ nb1 ∧ (own_pk y r0 r1 r2) ≠ hd ∧ (own_pk y r0 r1 r2) ≠ an ∧ (own_pk y r0 r1 r2) ≠ fr ∧ (own_pk y r0 r1 r2) ≠ ag := by rcases hy3 with q | q | q <;> rw [q] <;> first | exact ⟨ne_r0_nb1, ne_r0_hd, ne_r0_an, ne_r0_fr, ne_r0_ag⟩ | exact ⟨ne_r1_nb1, ne_r1_hd, ne_r1_an, ne_r1_fr, ne_r1_ag⟩ | exact ⟨ne_r2_nb1, ne_r2_hd, ne_r2_an, ne_r2_fr, ne_r2_ag⟩
      refine own_callV X350 hx (pc' := 144) hZ hown (Wd56 hw) (Wd58 hw) (Wd59 hw) (Wd60 hw) (Wd2 hw) (by decide) (rm_r1 l Z a0 hw [] nb1 hd an fr ag kh ka kf kg (own_pk y r0 r1 r2) (3 : Int32) (0 : Int64) x (0 : Int32) y h337 n0 Z339 ⟨(own_in3 hy3).2.1.1, Int.le_trans (own_in3 hy3).2.1.2 (by decide)⟩ pN352 DD pE352 pF352 F348) e350 F340 0 (by decide) (by decide) (by decide) (by decide) [(.ref (own_pk y r0 r1 r2))] [] (by rw [hml]; rfl) (lenOf pd_8 rfl) rfl rfl (Nat.le_of_eq rfl) (hb hby at_141) rfl (fun v353 T353 L353 X353 hQ353 => ?_)
      obtain ⟨rfl, Nq353, K353, SS353⟩ := hQ353
      have N354 := Fr.app N351 Nq353
      have Z355 : n0 ≤ T353.heap.size := Nat.le_trans Z339 K353.1
      have F356 := (Exa.keep F340 K353)
      have F357 := (Exa.keep F341 K353)
      have F358 := (F342.keep K353 (ninS ne_r0_nb1 (ninS ne_r0_hd (ninS ne_r0_an (ninS ne_r0_fr (ninS ne_r0_ag nin0))))))
      have F359 := (Exa.keep F343 K353)
      have F360 := (F344.keep K353 (ninS ne_r1_nb1 (ninS ne_r1_hd (ninS ne_r1_an (ninS ne_r1_fr (ninS ne_r1_ag nin0))))))
      have F361 := (Exa.keep F345 K353)
      have F362 := (F346.keep K353 (ninS ne_r2_nb1 (ninS ne_r2_hd (ninS ne_r2_an (ninS ne_r2_fr (ninS ne_r2_ag nin0))))))
      have F363 := (Vw349.keep K353 (ninS (Ne.symm ne_nb1_nb41_42) (ninS (Ne.symm nes_hd) (ninS (Ne.symm nes_an) (ninS (Ne.symm nes_fr) (ninS (Ne.symm nes_ag) nin0))))))
      show own_G p.tables e below _ T353 (mkF m 144 #[.val (.int p0), .val (.int p1), .val (.int p2), .val (.int p3), .val (.ref nb1), .val (.ref r0), .val (.ref r1), .val (.ref r2), .val (.ref nb41), .val (.int x), .val (.int y), .val (.int (2 : Int32)), .val (.int (2 : Int32)), .unset] [])
      refine own_aload X353 hx (pc' := 146) (hb hby at_144) rfl rfl rfl ?_
      refine own_iload X353 hx (pc' := 148) (hb hby at_146) rfl rfl ?_
      refine own_iconst X353 hx (pc' := 149) (3 : Int32) (hb hby at_148) rfl rfl ?_
      obtain ⟨cl364, Ar364, q364, S364, M364, H364, G364⟩ := id F363
      refine own_stI X353 hx (pc' := 150) hZ rfl Ar364 (inb_of S364 (own_in3 hy3).1) (hb hby at_149) rfl (fun T365 h365 X365 e365 W365 => ?_)
      have N366 := Fr.snoc X365 N354 ge_nb41
      have Z367 : n0 ≤ h365.size := Nat.le_trans Z355 (Nat.le_of_eq (Wr.size W365).symm)
      have F368 := (Exa.wr W365 F356)
      have F369 := (Exa.wr W365 F357)
      have F370 := (Fld.other W365 F358 (Or.inl ne_r0_nb41_43))
      have F371 := (Exa.wr W365 F359)
      have F372 := (Fld.other W365 F360 (Or.inl ne_r1_nb41_44))
      have F373 := (Exa.wr W365 F361)
      have F374 := (Fld.other W365 F362 (Or.inl ne_r2_nb41_45))
      have F375 : Arv Z h365 nb41 k41 .int (5 : Int32) ([(.int wa349), (.int wb349), (.int wc349), (.int (0 : Int32)), (.int (0 : Int32))].set (y : Int32).toNatClampNeg (.int (3 : Int32))) (.int (0 : Int32)) := (Arv.set Ar364 q364 S364 M364 H364 G364 rfl W365 (y : Int32).toNatClampNeg rfl (own_in3 hy3).2.2)
      have F376 := (own_S_wr SS353 W365 ⟨ne_nb1_nb41_42, nes_hd, nes_an, nes_fr, nes_ag⟩)
      obtain ⟨wa377, wb377, wc377, ew377, ua377, ub377, uc377⟩ := own_set3 y 3 wa349 wb349 wc349 (0 : Int32) (0 : Int32) hy3
      have Vw377 := F375
      rw [ew377] at Vw377
      refine own_iconst X365 hx (pc' := 151) (1 : Int32) (hb hby at_150) rfl rfl ?_
      refine own_istore X365 hx (pc' := 153) (Ls' := #[.val (.int p0), .val (.int p1), .val (.int p2), .val (.int p3), .val (.ref nb1), .val (.ref r0), .val (.ref r1), .val (.ref r2), .val (.ref nb41), .val (.int x), .val (.int y), .val (.int (2 : Int32)), .val (.int (2 : Int32)), .val (.int (1 : Int32))]) (hb hby at_151) rfl rfl ?_
      refine own_iload X365 hx (pc' := 155) (hb hby at_153) rfl rfl ?_
      refine own_iconst X365 hx (pc' := 156) (1 : Int32) (hb hby at_155) rfl rfl ?_
      refine own_icmpNo X365 hx (pc' := 159) (hb hby at_156) (flt (by decide : ¬ ((2 : Int32) < (1 : Int32)))).1 rfl ?_
      refine own_iload X365 hx (pc' := 161) (hb hby at_159) rfl rfl ?_
      refine own_ifNo X365 hx (pc' := 164) (hb hby at_161) (feq (by decide : ¬ ((1 : Int32) = (0 : Int32)))).1 rfl ?_
      refine own_aload X365 hx (pc' := 166) (hb hby at_164) rfl rfl rfl ?_
      refine own_aload X365 hx (pc' := 168) (hb hby at_166) rfl rfl rfl ?_
      refine own_iconst X365 hx (pc' := 169) (0 : Int32) (hb hby at_168) rfl rfl ?_
      refine own_iload X365 hx (pc' := 171) (hb hby at_169) rfl rfl ?_
      refine own_icmpNo X365 hx (pc' := 174) (hb hby at_171) (tlt (by decide : (0 : Int32) < (2 : Int32))).2.1 rfl ?_
      refine own_iconst X365 hx (pc' := 175) (1 : Int32) (hb hby at_174) rfl rfl ?_
      refine own_goto X365 hx (pc' := 179) (hb hby at_175) (by decide) (by decide) ?_
      refine own_ldc2J X365 hx (pc' := 182) hZ hown (Wd66 hw) (hb hby at_179) rfl ?_
      have hv378 := own_fin44 x y hx3 hy3 hxy wa349 wb349 wc349 wa377 wb377 wc377 ua349 ub349 uc349 ua377 ub377 uc377
      refine own_callS X365 hx (pc' := 185) hZ hown (Wd67 hw) (Wd68 hw) (Wd54 hw) (Wd69 hw) (by decide) (rm_tf2 l Z a0 hw [] nb1 hd an fr ag kh ka kf kg (3 : Int32) (0 : Int64) x y nb41 k41 wa377 wb377 wc377 (0 : Int32) (0 : Int32) (3 : Int64) h365 n0 Z367 ge_nb41 ⟨ne_nb1_nb41_42, nes_hd, nes_an, nes_fr, nes_ag⟩ DD hy3 hv378 Vw377 F376) e365 0 (by decide) (by decide) (by decide) (by decide) [(.ref nb1), (.ref nb41), (.int (1 : Int32)), (.long (3 : Int64))] [] (by rw [hml]; rfl) (lenOf pd_6 rfl) rfl rfl (Nat.le_of_eq rfl) (hb hby at_182) rfl (fun v379 T379 L379 X379 hQ379 => ?_)
      obtain ⟨rfl, Nq379, K379, wa379, wb379, wc379, ua379, ub379, uc379, SS379, V379⟩ := hQ379
      have N380 := Fr.app N366 Nq379
      have Z381 : n0 ≤ T379.heap.size := Nat.le_trans Z367 K379.1
      have F382 := (Exa.keep F368 K379)
      show own_G p.tables e below _ T379 (mkF m 185 #[.val (.int p0), .val (.int p1), .val (.int p2), .val (.int p3), .val (.ref nb1), .val (.ref r0), .val (.ref r1), .val (.ref r2), .val (.ref nb41), .val (.int x), .val (.int y), .val (.int (2 : Int32)), .val (.int (2 : Int32)), .val (.int (1 : Int32))] [(.int (1 : Int32))])
      refine own_ifNo X379 hx (pc' := 188) (hb hby at_185) (feq (by decide : ¬ ((1 : Int32) = (0 : Int32)))).1 rfl ?_
      refine own_iconst X379 hx (pc' := 189) (1 : Int32) (hb hby at_188) rfl rfl ?_
      refine own_goto X379 hx (pc' := 193) (hb hby at_189) (by decide) (by decide) ?_
      refine own_istore X379 hx (pc' := 195) (Ls' := #[.val (.int p0), .val (.int p1), .val (.int p2), .val (.int p3), .val (.ref nb1), .val (.ref r0), .val (.ref r1), .val (.ref r2), .val (.ref nb41), .val (.int x), .val (.int y), .val (.int (2 : Int32)), .val (.int (2 : Int32)), .val (.int (1 : Int32))]) (hb hby at_193) rfl rfl ?_
      refine own_iload X379 hx (pc' := 197) (hb hby at_195) rfl rfl ?_
      refine own_iconst X379 hx (pc' := 198) (2 : Int32) (hb hby at_197) rfl rfl ?_
      refine own_icmpNo X379 hx (pc' := 201) (hb hby at_198) (flt (by decide : ¬ ((2 : Int32) < (2 : Int32)))).1 rfl ?_
      refine own_iload X379 hx (pc' := 203) (hb hby at_201) rfl rfl ?_
      refine own_ifNo X379 hx (pc' := 206) (hb hby at_203) (feq (by decide : ¬ ((1 : Int32) = (0 : Int32)))).1 rfl ?_
      refine own_aload X379 hx (pc' := 208) (hb hby at_206) rfl rfl rfl ?_
      refine own_aload X379 hx (pc' := 210) (hb hby at_208) rfl rfl rfl ?_
      refine own_iconst X379 hx (pc' := 211) (1 : Int32) (hb hby at_210) rfl rfl ?_
      refine own_iload X379 hx (pc' := 213) (hb hby at_211) rfl rfl ?_
      refine own_icmpNo X379 hx (pc' := 216) (hb hby at_213) (tlt (by decide : (1 : Int32) < (2 : Int32))).2.1 rfl ?_
      refine own_iconst X379 hx (pc' := 217) (1 : Int32) (hb hby at_216) rfl rfl ?_
      refine own_goto X379 hx (pc' := 221) (hb hby at_217) (by decide) (by decide) ?_
      refine own_ldc2J X379 hx (pc' := 224) hZ hown (Wd79 hw) (hb hby at_221) rfl ?_
      have hv383 := own_fin45 x y hx3 hy3 hxy wa349 wb349 wc349 wa377 wb377 wc377 wa379 wb379 wc379 ua349 ub349 uc349 ua377 ub377 uc377 ua379 ub379 uc379
      refine own_callS X379 hx (pc' := 227) hZ hown (Wd67 hw) (Wd68 hw) (Wd54 hw) (Wd69 hw) (by decide) (rm_tf1 l Z a0 hw [] nb1 hd an fr ag kh ka kf kg (3 : Int32) ((0 : Int64) ||| ((1 : Int64) <<< (y &&& 0x3f).toInt64)) x y nb41 k41 wa379 wb379 wc379 (0 : Int32) (0 : Int32) (4 : Int64) T379.heap n0 Z381 ge_nb41 ⟨ne_nb1_nb41_42, nes_hd, nes_an, nes_fr, nes_ag⟩ DD hx3 hv383 V379 SS379) rfl 0 (by decide) (by decide) (by decide) (by decide) [(.ref nb1), (.ref nb41), (.int (1 : Int32)), (.long (4 : Int64))] [] (by rw [hml]; rfl) (lenOf pd_6 rfl) rfl rfl (Nat.le_of_eq rfl) (hb hby at_224) rfl (fun v384 T384 L384 X384 hQ384 => ?_)
      obtain ⟨rfl, Nq384, K384, wa384, wb384, wc384, ua384, ub384, uc384, SS384, V384⟩ := hQ384
      have N385 := Fr.app N380 Nq384
      have Z386 : n0 ≤ T384.heap.size := Nat.le_trans Z381 K384.1
      have F387 := (Exa.keep F382 K384)
      show own_G p.tables e below _ T384 (mkF m 227 #[.val (.int p0), .val (.int p1), .val (.int p2), .val (.int p3), .val (.ref nb1), .val (.ref r0), .val (.ref r1), .val (.ref r2), .val (.ref nb41), .val (.int x), .val (.int y), .val (.int (2 : Int32)), .val (.int (2 : Int32)), .val (.int (1 : Int32))] [(.int (1 : Int32))])
      refine own_ifNo X384 hx (pc' := 230) (hb hby at_227) (feq (by decide : ¬ ((1 : Int32) = (0 : Int32)))).1 rfl ?_
      refine own_iconst X384 hx (pc' := 231) (1 : Int32) (hb hby at_230) rfl rfl ?_
      refine own_goto X384 hx (pc' := 235) (hb hby at_231) (by decide) (by decide) ?_
      refine own_istore X384 hx (pc' := 237) (Ls' := #[.val (.int p0), .val (.int p1), .val (.int p2), .val (.int p3), .val (.ref nb1), .val (.ref r0), .val (.ref r1), .val (.ref r2), .val (.ref nb41), .val (.int x), .val (.int y), .val (.int (2 : Int32)), .val (.int (2 : Int32)), .val (.int (1 : Int32))]) (hb hby at_235) rfl rfl ?_
      have hck0 := own_fin46 x y hx3 hy3 hxy wa349 wb349 wc349 wa377 wb377 wc377 wa379 wb379 wc379 wa384 wb384 wc384 ua349 ub349 uc349 ua377 ub377 uc377 ua379 ub379 uc379 ua384 ub384 uc384
      have hck1 := own_fin47 x y hx3 hy3 hxy wa349 wb349 wc349 wa377 wb377 wc377 wa379 wb379 wc379 wa384 wb384 wc384 ua349 ub349 uc349 ua377 ub377 uc377 ua379 ub379 uc379 ua384 ub384 uc384
      have hck2 := own_fin48 x y hx3 hy3 hxy wa349 wb349 wc349 wa377 wb377 wc377 wa379 wb379 wc379 wa384 wb384 wc384 ua349 ub349 uc349 ua377 ub377 uc377 ua379 ub379 uc379 ua384 ub384 uc384
      have hck3 := own_fin49 x y hx3 hy3 hxy wa349 wb349 wc349 wa377 wb377 wc377 wa379 wb379 wc379 wa384 wb384 wc384 ua349 ub349 uc349 ua377 ub377 uc377 ua379 ub379 uc379 ua384 ub384 uc384
      have hck4 := own_fin50 x y hx3 hy3 hxy wa349 wb349 wc349 wa377 wb377 wc377 wa379 wb379 wc379 wa384 wb384 wc384 ua349 ub349 uc349 ua377 ub377 uc377 ua379 ub379 uc379 ua384 ub384 uc384
      exact J237 nb41 k41 x y (2 : Int32) (2 : Int32) (3 : Int32) (0 : Int32) x y wa384 wb384 wc384 (0 : Int32) (0 : Int32) (((0 : Int64) ||| ((1 : Int64) <<< (y &&& 0x3f).toInt64)) ||| ((1 : Int64) <<< (x &&& 0x3f).toInt64)) _ _ _ (X384.more (by decide) (by decide)) rfl N385 Z386 F387 SS384 V384 hck0 hck1 hck2 hck3 hck4

set_option maxRecDepth 65536 in
set_option maxHeartbeats 40000000 in
theorem comes_1 {Post : Tables → Env → Array Value → State → Outcome → State → Prop} (hpost : ∀ tb e args s v u, (limb_1_1.after args s (.returned v) u = true ∧ limb_1_2.after args s (.returned v) u = true ∧ True) → FrameEnd s (.returned v) u (Jvm.fieldLocs frame_1_writes args s ++ Jvm.arrayLocs frame_1_arrays args s ++ Jvm.staticLocs frame_1_statics s) 32 256 → Post tb e args s (.returned v) u) :
    ArmFor flags0 classFile x code maxLocals ret World_1 tables_1 room_1 Calls_1 rest_1 Pre_1 Post := by
  intro l hfl _ _ p e ha hc hk s m args below hf hA hF happ hP
  obtain ⟨hcalls, hrest, hpre⟩ := hP
  obtain ⟨-, -, -, hnamed, -, -, -, hat⟩ := (Spec.applies_iff hf).mp happ
  obtain ⟨hg, hn⟩ := and_e (Cond.before_iff.mp (show (Jvm.Cond.and given_1 narrow_1).before args s = true from hpre))
  obtain ⟨hcnt, hg0⟩ := and_e hg
  obtain ⟨ha0, hg1⟩ := and_e hg0
  obtain ⟨ha1, hg2⟩ := and_e hg1
  obtain ⟨ha2, hg3⟩ := and_e hg2
  obtain ⟨w0, w1, w2, w3, rfl⟩ : ∃ w0 w1 w2 w3 : Value, args = #[w0, w1, w2, w3] := by
    have hs : args.size = 4 := by simpa [Cond.value, given_1] using hcnt
    obtain ⟨L⟩ := args
    match L, hs with
    | [w0, w1, w2, w3], _ => exact ⟨w0, w1, w2, w3, rfl⟩
  have hw := fun d (hd : d ∈ tables_1) => atoms_spec (ws := Jvm.Cond.code x code maxLocals ret :: tables_1) hat d (List.mem_cons_of_mem _ hd)
  have hfit : Fit s := fun {y c} hc i hi => by
    obtain ⟨ha, rfl⟩ := Array.getElem?_eq_some_iff.mp hc
    have q := List.all_eq_true.mp ((Array.all_eq_true_iff_forall_mem.mp hF) _ (Array.getElem_mem ha)) i (List.mem_range.mpr hi)
    simpa [Array.getElem?_eq_getElem hi] using q
  obtain ⟨i0, ei0⟩ := is_v ha0
  obtain rfl : w0 = (.int i0) := Option.some.inj ei0
  obtain ⟨i1, ei1⟩ := is_v ha1
  obtain rfl : w1 = (.int i1) := Option.some.inj ei1
  obtain ⟨i2, ei2⟩ := is_v ha2
  obtain rfl : w2 = (.int i2) := Option.some.inj ei2
  obtain ⟨i3, ei3⟩ := is_v hg3
  obtain rfl : w3 = (.int i3) := Option.some.inj ei3
  obtain ⟨n, o, h1, h2, h3, _, L, rfl, ⟨rfl, N⟩, hq⟩ := rm0 l s _ hw tables_1 i0 i1 i2 i3  s.heap s.heap.size (Nat.le_refl _)  p e ha hc hk s m _ below hf ((Spec.applies_iff_loose hf).mp happ).1 ⟨rfl, State.Warmed39.refl s, rfl⟩ trivial
  refine ⟨n, _, h1, h2, h3, hpost _ _ _ _ _ _ ⟨Cond.after_iff.mpr rfl, Cond.after_iff.mpr (eq_i res_at (Term.int_eval (1)) rfl), trivial⟩ ⟨hq.1, hq.2.1, (hq.2.2.sift fun y hy => Or.inr (N y hy)).mono (by decide) (by decide)⟩⟩
theorem main_1_1 : Claimed_1_1 := comes_1 fun _ _ _ _ _ _ h hF => ⟨h.1, hF⟩
theorem main_1_2 : Claimed_1_2 := comes_1 fun _ _ _ _ _ _ h hF => ⟨h.2.1, hF⟩
end Jvm.Pilot.@@N@@
namespace Jvm.Pilot.@@N@@
open Jvm Jvm.ClassFile Sem Op Lib Jvm.Free Jvm.Stand Jvm.Pilot.@@N@@.Jvm.D
/-! MADE BY PROGRAM (witnessworld.py) out of the Statement's table words and the real class files: 16 classes; the members and pool entries that the words name. The judged class is class 1, her method 1. -/
namespace start1
open Jvm.ClassFile
def u (s : String) : CpInfo := .utf8 (stringToUtf16 s)
/-- a pool by its gaps: so many unusable entries, then the entry; so many at the end -/
def gap : Nat → List CpInfo → List CpInfo
  | 0, r => r
  | n + 1, r => .unusable :: gap n r
def poolList (es : List (Nat × CpInfo)) (last : Nat) : List CpInfo := es.foldr (fun e r => gap e.1 (e.2 :: r)) (gap last [])
def pool (es : List (Nat × CpInfo)) (last : Nat) : Array CpInfo := ⟨poolList es last⟩
def fileOf (pool : Array CpInfo) (this : Nat) (attrs : Array Attribute := #[]) (ms : Array MethodInfo := #[]) (fl : Nat := 33) (sup : Nat := 0) (ifs : Array Nat := #[]) (fds : Array FieldInfo := #[]) : ClassFile where
  minorVersion := 0
  majorVersion := 65
  constantPool := pool
  accessFlags := fl
  thisClass := this
  superClass := sup
  interfaces := ifs
  fields := fds
  methods := ms
  attributes := attrs
def plain (name : String) (sup : Option ClassId) : Class where
  name := name
  kind := .ordinary
  loader := none
  accessFlags := 33
  super := sup
  interfaces := #[]
  cf := none
  fields := #[]
  methods := #[]
  instanceTypes := #[]
  staticTypes := #[]
  resolved := #[]
  callSites := []
  init := .initialized
  statics := none
  mirror := none

def pool0 : Array CpInfo := pool [(5, u "<init>"), (0, u "()V"), (1, .class_ 10), (1, u "java/lang/Object")] 113

def k0c0 : Code := { maxStack := 0, maxLocals := 1, code := object_method_1_code, exceptionTable := #[], attributes := #[] }
def k0m0 : Method := { name := "<init>", desc := "()V", sig := { parameters := [], returnType := none }, accessFlags := 1, code := some k0c0 }
/-- java/lang/Object -/
def k0 : Class := { plain "java/lang/Object" none with
  accessFlags := 33
  interfaces := #[]
  cf := some (fileOf pool0 8 #[] #[{ accessFlags := 1, nameIndex := 5, descriptorIndex := 6, attributes := #[] }] 33 0 #[] #[])
  fields := #[]
  methods := #[k0m0]
  instanceTypes := #[]
  staticTypes := #[]
  resolved := Array.replicate 124 none
  statics := none }

def pool1 : Array CpInfo := pool [(2, .class_ 4), (0, .nameAndType 5 6), (0, u "java/lang/Object"), (0, u "<init>"), (0, u "()V"), (0, .class_ 8), (0, u "com/example/pandarus/pandarus/Slots"), (0, .methodref 7 3), (0, .methodref 7 11), (0, .nameAndType 12 13), (0, u "hold"), (0, u "(Lcom/example/pandarus/pandarus/Subscription;J)Lcom/example/pandarus/pandarus/Ranked;"), (0, .long 2), (1, .integer 2147483647), (0, .methodref 18 19), (0, .class_ 20), (0, .nameAndType 21 22), (0, u "com/example/pandarus/pandarus/SlotsInOrderPinLaw"), (0, u "pick"), (0, u "(ILcom/example/pandarus/pandarus/Ranked;Lcom/example/pandarus/pandarus/Ranked;Lcom/example/pandarus/pandarus/Ranked;)Lcom/example/pandarus/pandarus/Ranked;"), (0, .methodref 7 24), (0, .nameAndType 25 26), (0, u "release"), (0, u "(Lcom/example/pandarus/pandarus/Ranked;)V"), (0, .long 3), (1, .methodref 18 30), (0, .nameAndType 31 32), (0, u "take"), (0, u "(Lcom/example/pandarus/pandarus/Slots;[IZJ)Z"), (0, .long 4), (1, .methodref 18 36), (0, .nameAndType 37 38), (0, u "check"), (0, u "(Lcom/example/pandarus/pandarus/Slots;[II)Z"), (0, .methodref 40 41), (0, .class_ 42), (0, .nameAndType 43 44), (0, u "com/example/pandarus/pandarus/Ranked"), (0, u "slot"), (0, u "()I"), (0, .methodref 7 46), (0, .nameAndType 47 48), (0, u "inOrder"), (0, u "(I)Z"), (2, u "law"), (0, u "(IIII)Z")] 5

def k1m0 : Method := { name := "<init>", desc := "()V", sig := { parameters := [], returnType := none }, accessFlags := 1, code := none }
def k1c1 : Code := { maxStack := 5, maxLocals := 14, code := code, exceptionTable := #[], attributes := #[] }
def k1m1 : Method := { name := "law", desc := "(IIII)Z", sig := { parameters := [.int, .int, .int, .int], returnType := some .boolean }, accessFlags := 9, code := some k1c1 }
def k1c2 : Code := { maxStack := 2, maxLocals := 4, code := method_3_code, exceptionTable := #[], attributes := #[] }
def k1m2 : Method := { name := "pick", desc := "(ILcom/example/pandarus/pandarus/Ranked;Lcom/example/pandarus/pandarus/Ranked;Lcom/example/pandarus/pandarus/Ranked;)Lcom/example/pandarus/pandarus/Ranked;", sig := { parameters := [.int, (.object "com/example/pandarus/pandarus/Ranked"), (.object "com/example/pandarus/pandarus/Ranked"), (.object "com/example/pandarus/pandarus/Ranked")], returnType := some (.object "com/example/pandarus/pandarus/Ranked") }, accessFlags := 10, code := some k1c2 }
def k1c3 : Code := { maxStack := 4, maxLocals := 7, code := method_4_code, exceptionTable := #[], attributes := #[] }
def k1m3 : Method := { name := "take", desc := "(Lcom/example/pandarus/pandarus/Slots;[IZJ)Z", sig := { parameters := [(.object "com/example/pandarus/pandarus/Slots"), (.array .int), .boolean, .long], returnType := some .boolean }, accessFlags := 10, code := some k1c3 }
def k1c4 : Code := { maxStack := 2, maxLocals := 3, code := method_5_code, exceptionTable := #[], attributes := #[] }
def k1m4 : Method := { name := "check", desc := "(Lcom/example/pandarus/pandarus/Slots;[II)Z", sig := { parameters := [(.object "com/example/pandarus/pandarus/Slots"), (.array .int), .int], returnType := some .boolean }, accessFlags := 10, code := some k1c4 }
/-- com/example/pandarus/pandarus/SlotsInOrderPinLaw -/
def k1 : Class := { plain "com/example/pandarus/pandarus/SlotsInOrderPinLaw" (some 0) with
  accessFlags := 49
  interfaces := #[]
  cf := some (fileOf pool1 18 #[] #[{ accessFlags := 1, nameIndex := 5, descriptorIndex := 6, attributes := #[] }, { accessFlags := 9, nameIndex := 51, descriptorIndex := 52, attributes := #[] }, { accessFlags := 10, nameIndex := 21, descriptorIndex := 22, attributes := #[] }, { accessFlags := 10, nameIndex := 31, descriptorIndex := 32, attributes := #[] }, { accessFlags := 10, nameIndex := 37, descriptorIndex := 38, attributes := #[] }] 49 2 #[] #[])
  fields := #[]
  methods := #[k1m0, k1m1, k1m2, k1m3, k1m4]
  instanceTypes := #[]
  staticTypes := #[]
  resolved := Array.replicate 58 none
  statics := none }

def pool2 : Array CpInfo := pool [(1, .methodref 2 3), (0, .class_ 4), (0, .nameAndType 5 6), (0, u "java/lang/Object"), (0, u "<init>"), (0, u "()V"), (0, .class_ 8), (0, u "com/example/pandarus/pandarus/Ranked"), (0, .fieldref 10 11), (0, .class_ 12), (0, .nameAndType 13 14), (0, u "com/example/pandarus/pandarus/Slots"), (0, u "held"), (0, u "[Lcom/example/pandarus/pandarus/Ranked;"), (0, .class_ 16), (0, u "com/example/pandarus/pandarus/Subscription"), (0, .fieldref 10 18), (0, .nameAndType 19 20), (0, u "answered"), (0, u "[Lcom/example/pandarus/pandarus/Subscription;"), (0, .fieldref 10 22), (0, .nameAndType 23 24), (0, u "freed"), (0, u "[I"), (0, .fieldref 10 26), (0, .nameAndType 27 28), (0, u "again"), (0, u "[J"), (0, .fieldref 10 30), (0, .nameAndType 31 32), (0, u "free"), (0, u "I"), (0, .fieldref 10 34), (0, .nameAndType 35 32), (0, u "taken"), (13, .methodref 7 50), (0, .nameAndType 5 51), (0, u "(Lcom/example/pandarus/pandarus/Subscription;JI)V"), (0, .methodref 7 53), (0, .nameAndType 54 55), (0, u "slot"), (0, u "()I"), (5, u "hold"), (0, u "(Lcom/example/pandarus/pandarus/Subscription;J)Lcom/example/pandarus/pandarus/Ranked;"), (2, u "release"), (0, u "(Lcom/example/pandarus/pandarus/Ranked;)V"), (0, u "inOrder"), (0, u "(I)Z")] 7

def k2c0 : Code := { maxStack := 2, maxLocals := 1, code := prog_65_method_1_code, exceptionTable := #[], attributes := #[] }
def k2m0 : Method := { name := "<init>", desc := "()V", sig := { parameters := [], returnType := none }, accessFlags := 0, code := some k2c0 }
def k2c1 : Code := { maxStack := 7, maxLocals := 7, code := prog_65_method_2_code, exceptionTable := #[], attributes := #[] }
def k2m1 : Method := { name := "hold", desc := "(Lcom/example/pandarus/pandarus/Subscription;J)Lcom/example/pandarus/pandarus/Ranked;", sig := { parameters := [(.object "com/example/pandarus/pandarus/Subscription"), .long], returnType := some (.object "com/example/pandarus/pandarus/Ranked") }, accessFlags := 0, code := some k2c1 }
def k2c2 : Code := { maxStack := 5, maxLocals := 2, code := prog_65_method_3_code, exceptionTable := #[], attributes := #[] }
def k2m2 : Method := { name := "release", desc := "(Lcom/example/pandarus/pandarus/Ranked;)V", sig := { parameters := [(.object "com/example/pandarus/pandarus/Ranked")], returnType := none }, accessFlags := 0, code := some k2c2 }
def k2c3 : Code := { maxStack := 5, maxLocals := 2, code := prog_65_method_4_code, exceptionTable := #[], attributes := #[] }
def k2m3 : Method := { name := "inOrder", desc := "(I)Z", sig := { parameters := [.int], returnType := some .boolean }, accessFlags := 0, code := some k2c3 }
/-- com/example/pandarus/pandarus/Slots -/
def k2 : Class := { plain "com/example/pandarus/pandarus/Slots" (some 0) with
  accessFlags := 32
  interfaces := #[]
  cf := some (fileOf pool2 10 #[] #[{ accessFlags := 0, nameIndex := 5, descriptorIndex := 6, attributes := #[] }, { accessFlags := 0, nameIndex := 61, descriptorIndex := 62, attributes := #[] }, { accessFlags := 0, nameIndex := 65, descriptorIndex := 66, attributes := #[] }, { accessFlags := 0, nameIndex := 67, descriptorIndex := 68, attributes := #[] }] 32 2 #[] #[{ accessFlags := 2, nameIndex := 13, descriptorIndex := 14, attributes := #[] }, { accessFlags := 2, nameIndex := 19, descriptorIndex := 20, attributes := #[] }, { accessFlags := 2, nameIndex := 35, descriptorIndex := 32, attributes := #[] }, { accessFlags := 2, nameIndex := 23, descriptorIndex := 24, attributes := #[] }, { accessFlags := 2, nameIndex := 31, descriptorIndex := 32, attributes := #[] }, { accessFlags := 2, nameIndex := 27, descriptorIndex := 28, attributes := #[] }])
  fields := #[{ name := "held", type := (.array (.object "com/example/pandarus/pandarus/Ranked")), accessFlags := 2, slot := 0, constantValue := 0 }, { name := "answered", type := (.array (.object "com/example/pandarus/pandarus/Subscription")), accessFlags := 2, slot := 1, constantValue := 0 }, { name := "taken", type := .int, accessFlags := 2, slot := 2, constantValue := 0 }, { name := "freed", type := (.array .int), accessFlags := 2, slot := 3, constantValue := 0 }, { name := "free", type := .int, accessFlags := 2, slot := 4, constantValue := 0 }, { name := "again", type := (.array .long), accessFlags := 2, slot := 5, constantValue := 0 }]
  methods := #[k2m0, k2m1, k2m2, k2m3]
  instanceTypes := #[(.array (.object "com/example/pandarus/pandarus/Ranked")), (.array (.object "com/example/pandarus/pandarus/Subscription")), .int, (.array .int), .int, (.array .long)]
  staticTypes := #[]
  resolved := Array.replicate 76 none
  statics := none }

def pool3 : Array CpInfo := pool [(1, .methodref 2 3), (0, .class_ 4), (0, .nameAndType 5 6), (0, u "java/lang/Object"), (0, u "<init>"), (0, u "()V"), (0, .class_ 8), (0, u "java/lang/Record")] 13

def k3c0 : Code := { maxStack := 1, maxLocals := 1, code := jdk_30_method_1_code, exceptionTable := #[], attributes := #[] }
def k3m0 : Method := { name := "<init>", desc := "()V", sig := { parameters := [], returnType := none }, accessFlags := 4, code := some k3c0 }
/-- java/lang/Record -/
def k3 : Class := { plain "java/lang/Record" (some 0) with
  accessFlags := 1057
  interfaces := #[]
  cf := some (fileOf pool3 7 #[] #[{ accessFlags := 4, nameIndex := 5, descriptorIndex := 6, attributes := #[] }] 1057 2 #[] #[])
  fields := #[]
  methods := #[k3m0]
  instanceTypes := #[]
  staticTypes := #[]
  resolved := Array.replicate 22 none
  statics := none }

def pool4 : Array CpInfo := pool [(1, .methodref 2 3), (0, .class_ 4), (0, .nameAndType 5 6), (0, u "java/lang/Record"), (0, u "<init>"), (0, u "()V"), (0, .fieldref 8 9), (0, .class_ 10), (0, .nameAndType 11 12), (0, u "com/example/pandarus/pandarus/Ranked"), (0, u "subscription"), (0, u "Lcom/example/pandarus/pandarus/Subscription;"), (0, .fieldref 8 14), (0, .nameAndType 15 16), (0, u "sequence"), (0, u "J"), (0, .fieldref 8 18), (0, .nameAndType 19 20), (0, u "slot"), (0, u "I"), (0, .class_ 22), (0, u "com/example/pandarus/pandarus/Ranked$Order"), (52, u "ORDER"), (0, u "Lcom/example/pandarus/pandarus/Ranked$Order;"), (12, u "SUBSCRIBED"), (0, u "Ljava/util/Comparator;"), (3, u "BY_WEIGHT_SUM"), (2, u "(Lcom/example/pandarus/pandarus/Subscription;JI)V"), (8, u "()I")] 58

def k4c0 : Code := { maxStack := 3, maxLocals := 5, code := prog_54_method_1_code, exceptionTable := #[], attributes := #[] }
def k4m0 : Method := { name := "<init>", desc := "(Lcom/example/pandarus/pandarus/Subscription;JI)V", sig := { parameters := [(.object "com/example/pandarus/pandarus/Subscription"), .long, .int], returnType := none }, accessFlags := 0, code := some k4c0 }
def k4c1 : Code := { maxStack := 1, maxLocals := 1, code := prog_54_method_9_code, exceptionTable := #[], attributes := #[] }
def k4m1 : Method := { name := "slot", desc := "()I", sig := { parameters := [], returnType := some .int }, accessFlags := 1, code := some k4c1 }
/-- com/example/pandarus/pandarus/Ranked -/
def k4 : Class := { plain "com/example/pandarus/pandarus/Ranked" (some 3) with
  accessFlags := 48
  interfaces := #[]
  cf := some (fileOf pool4 8 #[.nestMembers #[21]] #[{ accessFlags := 0, nameIndex := 5, descriptorIndex := 97, attributes := #[] }, { accessFlags := 1, nameIndex := 19, descriptorIndex := 106, attributes := #[] }] 48 2 #[] #[{ accessFlags := 18, nameIndex := 11, descriptorIndex := 12, attributes := #[] }, { accessFlags := 18, nameIndex := 15, descriptorIndex := 16, attributes := #[] }, { accessFlags := 18, nameIndex := 19, descriptorIndex := 20, attributes := #[] }, { accessFlags := 24, nameIndex := 75, descriptorIndex := 76, attributes := #[] }, { accessFlags := 24, nameIndex := 89, descriptorIndex := 90, attributes := #[] }, { accessFlags := 24, nameIndex := 94, descriptorIndex := 76, attributes := #[] }])
  fields := #[{ name := "subscription", type := (.object "com/example/pandarus/pandarus/Subscription"), accessFlags := 18, slot := 0, constantValue := 0 }, { name := "sequence", type := .long, accessFlags := 18, slot := 1, constantValue := 0 }, { name := "slot", type := .int, accessFlags := 18, slot := 2, constantValue := 0 }, { name := "ORDER", type := (.object "com/example/pandarus/pandarus/Ranked$Order"), accessFlags := 24, slot := 0, constantValue := 0 }, { name := "SUBSCRIBED", type := (.object "java/util/Comparator"), accessFlags := 24, slot := 1, constantValue := 0 }, { name := "BY_WEIGHT_SUM", type := (.object "com/example/pandarus/pandarus/Ranked$Order"), accessFlags := 24, slot := 2, constantValue := 0 }]
  methods := #[k4m0, k4m1]
  instanceTypes := #[(.object "com/example/pandarus/pandarus/Subscription"), .long, .int]
  staticTypes := #[(.object "com/example/pandarus/pandarus/Ranked$Order"), (.object "java/util/Comparator"), (.object "com/example/pandarus/pandarus/Ranked$Order")]
  resolved := Array.replicate 165 none
  statics := none }

def pool5 : Array CpInfo := pool [(2, .class_ 4), (1, u "java/lang/Object"), (6, u "id"), (2, .class_ 16), (1, u "com/example/pandarus/pandarus/Subscription"), (0, u "Ljava/lang/String;"), (3, u "score"), (14, u "Ljava/math/BigDecimal;"), (75, u "LEAST_WEIGHT"), (6, u "WEIGHT_LIMIT"), (16, u "where"), (0, u "Ljava/util/Map;"), (2, u "weights"), (18, u "weightSum"), (5, u "[Ljava/lang/String;"), (2, u "tested"), (2, u "fences"), (0, u "[D")] 140

/-- com/example/pandarus/pandarus/Subscription -/
def k5 : Class := { plain "com/example/pandarus/pandarus/Subscription" (some 0) with
  accessFlags := 33
  interfaces := #[]
  cf := some (fileOf pool5 14 #[] #[] 33 2 #[] #[{ accessFlags := 26, nameIndex := 112, descriptorIndex := 36, attributes := #[] }, { accessFlags := 26, nameIndex := 119, descriptorIndex := 36, attributes := #[] }, { accessFlags := 18, nameIndex := 11, descriptorIndex := 17, attributes := #[] }, { accessFlags := 18, nameIndex := 21, descriptorIndex := 36, attributes := #[] }, { accessFlags := 18, nameIndex := 136, descriptorIndex := 137, attributes := #[] }, { accessFlags := 18, nameIndex := 140, descriptorIndex := 137, attributes := #[] }, { accessFlags := 18, nameIndex := 159, descriptorIndex := 36, attributes := #[] }, { accessFlags := 18, nameIndex := 168, descriptorIndex := 165, attributes := #[] }, { accessFlags := 18, nameIndex := 171, descriptorIndex := 172, attributes := #[] }])
  fields := #[{ name := "LEAST_WEIGHT", type := (.object "java/math/BigDecimal"), accessFlags := 26, slot := 0, constantValue := 0 }, { name := "WEIGHT_LIMIT", type := (.object "java/math/BigDecimal"), accessFlags := 26, slot := 1, constantValue := 0 }, { name := "id", type := (.object "java/lang/String"), accessFlags := 18, slot := 0, constantValue := 0 }, { name := "score", type := (.object "java/math/BigDecimal"), accessFlags := 18, slot := 1, constantValue := 0 }, { name := "where", type := (.object "java/util/Map"), accessFlags := 18, slot := 2, constantValue := 0 }, { name := "weights", type := (.object "java/util/Map"), accessFlags := 18, slot := 3, constantValue := 0 }, { name := "weightSum", type := (.object "java/math/BigDecimal"), accessFlags := 18, slot := 4, constantValue := 0 }, { name := "tested", type := (.array (.object "java/lang/String")), accessFlags := 18, slot := 5, constantValue := 0 }, { name := "fences", type := (.array .double), accessFlags := 18, slot := 6, constantValue := 0 }]
  methods := #[]
  instanceTypes := #[(.object "java/lang/String"), (.object "java/math/BigDecimal"), (.object "java/util/Map"), (.object "java/util/Map"), (.object "java/math/BigDecimal"), (.array (.object "java/lang/String")), (.array .double)]
  staticTypes := #[(.object "java/math/BigDecimal"), (.object "java/math/BigDecimal")]
  resolved := Array.replicate 313 none
  statics := none }

def pool6 : Array CpInfo := pool [(1, u "java/lang/Cloneable"), (0, .class_ 1), (0, u "java/lang/Object"), (0, .class_ 3)] 3

/-- java/lang/Cloneable -/
def k6 : Class := { plain "java/lang/Cloneable" (some 0) with
  accessFlags := 1537
  interfaces := #[]
  cf := some (fileOf pool6 2 #[] #[] 1537 4 #[] #[])
  fields := #[]
  methods := #[]
  instanceTypes := #[]
  staticTypes := #[]
  resolved := Array.replicate 8 none
  statics := none }

def pool7 : Array CpInfo := pool [(1, u "java/io/Serializable"), (0, .class_ 1), (0, u "java/lang/Object"), (0, .class_ 3)] 3

/-- java/io/Serializable -/
def k7 : Class := { plain "java/io/Serializable" (some 0) with
  accessFlags := 1537
  interfaces := #[]
  cf := some (fileOf pool7 2 #[] #[] 1537 4 #[] #[])
  fields := #[]
  methods := #[]
  instanceTypes := #[]
  staticTypes := #[]
  resolved := Array.replicate 8 none
  statics := none }

/-- the primitive byte -/
def k8 : Class := { plain "byte" none with kind := .primitive 'B', accessFlags := 0x411 }
/-- [B -/
def k9 : Class := { plain "[B" (some 0) with kind := .array 8 .byte, interfaces := #[6, 7], accessFlags := 1041 }

/-- the primitive int -/
def k10 : Class := { plain "int" none with kind := .primitive 'I', accessFlags := 0x411 }
/-- [I -/
def k11 : Class := { plain "[I" (some 0) with kind := .array 10 .int, interfaces := #[6, 7], accessFlags := 1041 }

/-- the primitive long -/
def k12 : Class := { plain "long" none with kind := .primitive 'J', accessFlags := 0x411 }
/-- [J -/
def k13 : Class := { plain "[J" (some 0) with kind := .array 12 .long, interfaces := #[6, 7], accessFlags := 1041 }

/-- [Lcom/example/pandarus/pandarus/Ranked; -/
def k14 : Class := { plain "[Lcom/example/pandarus/pandarus/Ranked;" (some 0) with kind := .array 4 (.object "com/example/pandarus/pandarus/Ranked"), interfaces := #[6, 7], accessFlags := 1041 }

/-- [Lcom/example/pandarus/pandarus/Subscription; -/
def k15 : Class := { plain "[Lcom/example/pandarus/pandarus/Subscription;" (some 0) with kind := .array 5 (.object "com/example/pandarus/pandarus/Subscription"), interfaces := #[6, 7], accessFlags := 1041 }

def heap : Heap := #[]
def classes : Array Class := #[k0, k1, k2, k3, k4, k5, k6, k7, k8, k9, k10, k11, k12, k13, k14, k15]
def interned : List (Array UInt16 × Addr) := []
def slotsUsed : Nat := 0
def theMethod : MethodId := ⟨1, 1⟩
def args0 : Array Value := #[.int 5, .int 2, .int 7, .int 1]
def aboutOver (below : List Frame) : State where
  vm := { classes := classes, interned := interned.toArray }
  heap := heap
  slotsUsed := slotsUsed
  threads := #[{ frames := .invoking theMethod args0 :: below }]
def below0 : List Frame := [.native { method := ⟨0, 0⟩, args := #[] }]
def about1 : State := aboutOver below0
def p0 : Program := .bare "" "" ""
def e0 : Env := launch0.env 0 0 0
theorem w_frames : about1.frames = Frame.invoking theMethod args0 :: below0 := rfl
set_option maxRecDepth 65536 in
theorem w_args : argsFit about1.vm theMethod args0 = true := by decide +kernel
set_option maxRecDepth 65536 in
theorem w_heap : heapFits about1 = true := by decide +kernel
set_option maxRecDepth 65536 in
theorem w_runnable : about1.curStatus? = some .runnable := by decide +kernel
set_option maxRecDepth 65536 in
theorem w_alone : about1.alone = true := by decide +kernel
set_option maxRecDepth 65536 in
theorem w_named : about1.methodNamed? x = some theMethod := by decide +kernel
set_option maxRecDepth 65536 in
theorem w_hears : about1.hears theMethod below0 = true := by decide +kernel
set_option maxRecDepth 65536 in
theorem w_ripe : about1.ripe theMethod args0 below0 = true := by decide +kernel
theorem w_running : about1.status = .running := rfl
set_option maxRecDepth 65536 in
theorem w_room : about1.hasRoom e0.platform room_1 = true :=
  launch0.hasRoom_least _ room_1 (by decide +kernel) (by decide +kernel) (by decide +kernel) (by decide +kernel) (by decide +kernel) (by decide +kernel)
theorem allAtoms_all (ts : List Jvm.Cond) (a : Array Jvm.Value) (st : Jvm.State) : (allAtoms ts).before a st = ts.all (fun c => c.before a st) := by
  induction ts with
  | nil => rfl
  | cons c t ih =>
    show (Jvm.Cond.and c (allAtoms t)).before a st = _
    rw [Jvm.Cond.before_and, ih, List.all_cons]
def words1 : List Jvm.Cond := Jvm.Cond.code x code maxLocals ret :: tables_1
/-- a 'code' word, met by the world's own term for the bytes: nothing is compared byte by byte -/
theorem code_word {y : MethodName} {bytes : ByteArray} {mx : Nat} {rt : Option FieldType} {a : Array Value} {s : State} {m : MethodId} {meth : Method} {c : Code} (h1 : s.methodNamed? y = some m) (h2 : s.vm.method? m = some meth) (h3 : meth.code = some c) (h4 : c.code = bytes)
    (h5 : (c.maxLocals == mx && c.exceptionTable.isEmpty && decide (c.maxStack ≤ mostOperands) && decide (meth.sig.returnType = rt) && !meth.locks && decide (parseMethodDescriptor y.desc = some meth.sig)) = true) : (Jvm.Cond.code y bytes mx rt).before a s = true := by
  simp only [Bool.and_eq_true, beq_iff_eq, Bool.not_eq_true', decide_eq_true_eq] at h5
  obtain ⟨⟨⟨⟨⟨g1, g2⟩, g3⟩, g4⟩, g5⟩, g6⟩ := h5
  simp [Cond.before, Cond.holds, Cond.value, h1, h2, h3, h4, g1, g2, g3, g4, g5, g6]
def isCode : Jvm.Cond → Bool
  | .code _ _ _ _ => true
  | _ => false
theorem all_split {L : List Jvm.Cond} {P : Jvm.Cond → Bool} (h1 : L.all (fun c => isCode c || P c) = true) (h2 : ∀ c ∈ L.filter isCode, P c = true) : L.all P = true := by
  refine List.all_eq_true.mpr fun c hc => ?_
  have h := List.all_eq_true.mp h1 c hc
  rcases Bool.eq_false_or_eq_true (isCode c) with hi | hi
  · exact h2 c (List.mem_filter.mpr ⟨hc, hi⟩)
  · simpa [hi] using h
set_option maxRecDepth 65536 in
theorem w_c0 : (Jvm.Cond.code x code maxLocals ret).before args0 about1 = true := code_word (m := ⟨1, 1⟩) (meth := k1m1) (c := k1c1) (by decide +kernel) rfl rfl rfl (by decide +kernel)
set_option maxRecDepth 65536 in
theorem w_c1 : (Jvm.Cond.code ({ cls := "com/example/pandarus/pandarus/Slots", name := "<init>", desc := "()V" } : Jvm.MethodName) prog_65_method_1_code (1 : Nat) (Option.none : Option Jvm.ClassFile.FieldType)).before args0 about1 = true := code_word (m := ⟨2, 0⟩) (meth := k2m0) (c := k2c0) (by decide +kernel) rfl rfl rfl (by decide +kernel)
set_option maxRecDepth 65536 in
theorem w_c2 : (Jvm.Cond.code ({ cls := "java/lang/Object", name := "<init>", desc := "()V" } : Jvm.MethodName) object_method_1_code (1 : Nat) (Option.none : Option Jvm.ClassFile.FieldType)).before args0 about1 = true := code_word (m := ⟨0, 0⟩) (meth := k0m0) (c := k0c0) (by decide +kernel) rfl rfl rfl (by decide +kernel)
set_option maxRecDepth 65536 in
theorem w_c3 : (Jvm.Cond.code ({ cls := "com/example/pandarus/pandarus/Slots", name := "hold", desc := "(Lcom/example/pandarus/pandarus/Subscription;J)Lcom/example/pandarus/pandarus/Ranked;" } : Jvm.MethodName) prog_65_method_2_code (7 : Nat) (Option.some (Jvm.ClassFile.FieldType.object "com/example/pandarus/pandarus/Ranked"))).before args0 about1 = true := code_word (m := ⟨2, 1⟩) (meth := k2m1) (c := k2c1) (by decide +kernel) rfl rfl rfl (by decide +kernel)
set_option maxRecDepth 65536 in
theorem w_c4 : (Jvm.Cond.code ({ cls := "com/example/pandarus/pandarus/Ranked", name := "<init>", desc := "(Lcom/example/pandarus/pandarus/Subscription;JI)V" } : Jvm.MethodName) prog_54_method_1_code (5 : Nat) (Option.none : Option Jvm.ClassFile.FieldType)).before args0 about1 = true := code_word (m := ⟨4, 0⟩) (meth := k4m0) (c := k4c0) (by decide +kernel) rfl rfl rfl (by decide +kernel)
set_option maxRecDepth 65536 in
theorem w_c5 : (Jvm.Cond.code ({ cls := "java/lang/Record", name := "<init>", desc := "()V" } : Jvm.MethodName) jdk_30_method_1_code (1 : Nat) (Option.none : Option Jvm.ClassFile.FieldType)).before args0 about1 = true := code_word (m := ⟨3, 0⟩) (meth := k3m0) (c := k3c0) (by decide +kernel) rfl rfl rfl (by decide +kernel)
set_option maxRecDepth 65536 in
theorem w_c6 : (Jvm.Cond.code ({ cls := "com/example/pandarus/pandarus/SlotsInOrderPinLaw", name := "pick", desc := "(ILcom/example/pandarus/pandarus/Ranked;Lcom/example/pandarus/pandarus/Ranked;Lcom/example/pandarus/pandarus/Ranked;)Lcom/example/pandarus/pandarus/Ranked;" } : Jvm.MethodName) method_3_code (4 : Nat) (Option.some (Jvm.ClassFile.FieldType.object "com/example/pandarus/pandarus/Ranked"))).before args0 about1 = true := code_word (m := ⟨1, 2⟩) (meth := k1m2) (c := k1c2) (by decide +kernel) rfl rfl rfl (by decide +kernel)
set_option maxRecDepth 65536 in
theorem w_c7 : (Jvm.Cond.code ({ cls := "com/example/pandarus/pandarus/Slots", name := "release", desc := "(Lcom/example/pandarus/pandarus/Ranked;)V" } : Jvm.MethodName) prog_65_method_3_code (2 : Nat) (Option.none : Option Jvm.ClassFile.FieldType)).before args0 about1 = true := code_word (m := ⟨2, 2⟩) (meth := k2m2) (c := k2c2) (by decide +kernel) rfl rfl rfl (by decide +kernel)
set_option maxRecDepth 65536 in
theorem w_c8 : (Jvm.Cond.code ({ cls := "com/example/pandarus/pandarus/Ranked", name := "slot", desc := "()I" } : Jvm.MethodName) prog_54_method_9_code (1 : Nat) (Option.some Jvm.ClassFile.FieldType.int)).before args0 about1 = true := code_word (m := ⟨4, 1⟩) (meth := k4m1) (c := k4c1) (by decide +kernel) rfl rfl rfl (by decide +kernel)
set_option maxRecDepth 65536 in
theorem w_c9 : (Jvm.Cond.code ({ cls := "com/example/pandarus/pandarus/SlotsInOrderPinLaw", name := "take", desc := "(Lcom/example/pandarus/pandarus/Slots;[IZJ)Z" } : Jvm.MethodName) method_4_code (7 : Nat) (Option.some Jvm.ClassFile.FieldType.boolean)).before args0 about1 = true := code_word (m := ⟨1, 3⟩) (meth := k1m3) (c := k1c3) (by decide +kernel) rfl rfl rfl (by decide +kernel)
set_option maxRecDepth 65536 in
theorem w_c10 : (Jvm.Cond.code ({ cls := "com/example/pandarus/pandarus/SlotsInOrderPinLaw", name := "check", desc := "(Lcom/example/pandarus/pandarus/Slots;[II)Z" } : Jvm.MethodName) method_5_code (3 : Nat) (Option.some Jvm.ClassFile.FieldType.boolean)).before args0 about1 = true := code_word (m := ⟨1, 4⟩) (meth := k1m4) (c := k1c4) (by decide +kernel) rfl rfl rfl (by decide +kernel)
set_option maxRecDepth 65536 in
theorem w_c11 : (Jvm.Cond.code ({ cls := "com/example/pandarus/pandarus/Slots", name := "inOrder", desc := "(I)Z" } : Jvm.MethodName) prog_65_method_4_code (2 : Nat) (Option.some Jvm.ClassFile.FieldType.boolean)).before args0 about1 = true := code_word (m := ⟨2, 3⟩) (meth := k2m3) (c := k2c3) (by decide +kernel) rfl rfl rfl (by decide +kernel)
def codes1 : List Jvm.Cond := [Jvm.Cond.code x code maxLocals ret, Jvm.Cond.code ({ cls := "com/example/pandarus/pandarus/Slots", name := "<init>", desc := "()V" } : Jvm.MethodName) prog_65_method_1_code (1 : Nat) (Option.none : Option Jvm.ClassFile.FieldType), Jvm.Cond.code ({ cls := "java/lang/Object", name := "<init>", desc := "()V" } : Jvm.MethodName) object_method_1_code (1 : Nat) (Option.none : Option Jvm.ClassFile.FieldType), Jvm.Cond.code ({ cls := "com/example/pandarus/pandarus/Slots", name := "hold", desc := "(Lcom/example/pandarus/pandarus/Subscription;J)Lcom/example/pandarus/pandarus/Ranked;" } : Jvm.MethodName) prog_65_method_2_code (7 : Nat) (Option.some (Jvm.ClassFile.FieldType.object "com/example/pandarus/pandarus/Ranked")), Jvm.Cond.code ({ cls := "com/example/pandarus/pandarus/Ranked", name := "<init>", desc := "(Lcom/example/pandarus/pandarus/Subscription;JI)V" } : Jvm.MethodName) prog_54_method_1_code (5 : Nat) (Option.none : Option Jvm.ClassFile.FieldType), Jvm.Cond.code ({ cls := "java/lang/Record", name := "<init>", desc := "()V" } : Jvm.MethodName) jdk_30_method_1_code (1 : Nat) (Option.none : Option Jvm.ClassFile.FieldType), Jvm.Cond.code ({ cls := "com/example/pandarus/pandarus/SlotsInOrderPinLaw", name := "pick", desc := "(ILcom/example/pandarus/pandarus/Ranked;Lcom/example/pandarus/pandarus/Ranked;Lcom/example/pandarus/pandarus/Ranked;)Lcom/example/pandarus/pandarus/Ranked;" } : Jvm.MethodName) method_3_code (4 : Nat) (Option.some (Jvm.ClassFile.FieldType.object "com/example/pandarus/pandarus/Ranked")), Jvm.Cond.code ({ cls := "com/example/pandarus/pandarus/Slots", name := "release", desc := "(Lcom/example/pandarus/pandarus/Ranked;)V" } : Jvm.MethodName) prog_65_method_3_code (2 : Nat) (Option.none : Option Jvm.ClassFile.FieldType), Jvm.Cond.code ({ cls := "com/example/pandarus/pandarus/Ranked", name := "slot", desc := "()I" } : Jvm.MethodName) prog_54_method_9_code (1 : Nat) (Option.some Jvm.ClassFile.FieldType.int), Jvm.Cond.code ({ cls := "com/example/pandarus/pandarus/SlotsInOrderPinLaw", name := "take", desc := "(Lcom/example/pandarus/pandarus/Slots;[IZJ)Z" } : Jvm.MethodName) method_4_code (7 : Nat) (Option.some Jvm.ClassFile.FieldType.boolean), Jvm.Cond.code ({ cls := "com/example/pandarus/pandarus/SlotsInOrderPinLaw", name := "check", desc := "(Lcom/example/pandarus/pandarus/Slots;[II)Z" } : Jvm.MethodName) method_5_code (3 : Nat) (Option.some Jvm.ClassFile.FieldType.boolean), Jvm.Cond.code ({ cls := "com/example/pandarus/pandarus/Slots", name := "inOrder", desc := "(I)Z" } : Jvm.MethodName) prog_65_method_4_code (2 : Nat) (Option.some Jvm.ClassFile.FieldType.boolean)]
set_option maxRecDepth 65536 in
theorem codes_eq : words1.filter isCode = codes1 := rfl
theorem w_codes : ∀ c ∈ words1.filter isCode, c.before args0 about1 = true := by
  rw [codes_eq]
  intro c hc
  simp only [codes1, List.mem_cons, List.not_mem_nil, or_false] at hc
  rcases hc with rfl | rfl | rfl | rfl | rfl | rfl | rfl | rfl | rfl | rfl | rfl | rfl
  · exact w_c0
  · exact w_c1
  · exact w_c2
  · exact w_c3
  · exact w_c4
  · exact w_c5
  · exact w_c6
  · exact w_c7
  · exact w_c8
  · exact w_c9
  · exact w_c10
  · exact w_c11
set_option maxRecDepth 65536 in
theorem w_t1 : (words1.take 24).all (fun c => isCode c || c.before args0 about1) = true := by decide +kernel
set_option maxRecDepth 65536 in
theorem w_t2 : ((words1.drop 24).take 24).all (fun c => isCode c || c.before args0 about1) = true := by decide +kernel
set_option maxRecDepth 65536 in
theorem w_t3 : (((words1.drop 24).drop 24).take 24).all (fun c => isCode c || c.before args0 about1) = true := by decide +kernel
set_option maxRecDepth 65536 in
theorem w_t4 : (((words1.drop 24).drop 24).drop 24).all (fun c => isCode c || c.before args0 about1) = true := by decide +kernel
theorem w_tables : (allAtoms (Jvm.Cond.code x code maxLocals ret :: tables_1)).before args0 about1 = true := by
  rw [allAtoms_all]
  show words1.all (fun c => c.before args0 about1) = true
  refine all_split ?_ w_codes
  rw [← List.take_append_drop 24 words1, List.all_append, w_t1, ← List.take_append_drop 24 (words1.drop 24), List.all_append, w_t2, ← List.take_append_drop 24 ((words1.drop 24).drop 24), List.all_append, w_t3, w_t4]
  rfl
set_option maxRecDepth 65536 in
theorem w_case : (Jvm.Cond.and given_1 narrow_1).before args0 about1 = true := by decide +kernel
theorem w_applies : (headSpec (Jvm.Cond.code x code maxLocals ret :: tables_1) room_1).applies x e0.platform about1 = true :=
  (Spec.applies_iff w_frames).mpr ⟨w_running, w_runnable, w_alone, w_named, w_hears, w_ripe, w_room, w_tables⟩
theorem atStart : AtStart classFile x code maxLocals ret World_1 tables_1 room_1 Calls_1 rest_1 Pre_1 launch0 p0 e0 about1 theMethod args0 below0 :=
  ⟨lists_1, trivial, launch0.admits_env _ _ _, launch0.least_env, fairChoices_fair.cas, fairChoices_fair.clock, w_frames, w_args, w_heap, w_applies, trivial, trivial, w_case⟩
end start1
theorem witness_1 : WitnessClaimed_1 := ⟨start1.p0, start1.e0, start1.about1, start1.theMethod, start1.args0, start1.below0, start1.atStart⟩
end Jvm.Pilot.@@N@@
