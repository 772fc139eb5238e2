import JvmDerived
import JvmDerived.Pilot.@@N@@Statement
import JvmDerived.Pilot.@@N@@Code
set_option linter.unusedVariables false
set_option linter.unusedSimpArgs false
namespace Jvm.Pilot.@@N@@
open Jvm Jvm.ClassFile Sem Op Lib Jvm.Free Jvm.Stand Jvm.LawKit Jvm.RoadKit Bundle Jvm.Pilot.@@N@@.Jvm.D
/-! own kit: the walk in program order: own_G says that from this frame on the run ends as promised -/
def own_G (tb : Tables) (e : Env) (below : List Frame) (P : Outcome → State → Prop) (T : State) (f : JFrame) : Prop :=
  ∃ s₂ o, Steps tb e below (T.setTop f) s₂ ∧ s₂.status = .running ∧ Ended s₂ below o ∧ P o s₂
def own_P (s : State) (Q : Option Value → Heap → List Loc → Prop) (C S : Nat) (o : Outcome) (U : State) : Prop :=
  ∃ v L, o = .returned v ∧ Q v U.heap L ∧ FrameEnd s o U L C S
theorem own_go {tb : Tables} {e : Env} {below : List Frame} {P : Outcome → State → Prop} {T T' : State} {f f' : JFrame} (st : ∀ target, Steps tb e below (T'.setTop f') target → Steps tb e below (T.setTop f) target) (k : own_G tb e below P T' f') : own_G tb e below P T f := by
  obtain ⟨s₂, o, h1, h2⟩ := k
  exact ⟨s₂, o, st _ h1, h2⟩
section OwnKit
variable {p : Program} {l : Launch} {e : Env} {R : Room} {s : State} {m : MethodId} {args : Array Value} {below : List Frame} {meth : Method} {c : Code} {T : State} {locs : List Loc} {cells slots : Nat} {Z : State} {a0 : Array Value} {h : Heap} {P : Outcome → State → Prop}
theorem own_body {y : MethodName} {bytes : ByteArray} {maxL : Nat} {ret : Option FieldType} {ws : List Jvm.Cond} {rm : Room} {as' : Array Value} {Q : Option Value → Heap → List Loc → Prop} {C S : Nat} (pn : plainFor y = true)
    (body : ∀ p e s m below meth c s₁, p.tables.exec = Jvm.exec → c.code = bytes → c.maxLocals = maxL → s.vm.findClass y.cls = some m.cls → meth.name = y.name → meth.locks = false → meth.sig.returnType = ret → Z.Warmed39 s.vm → Stand p l e rm s m as' below meth c s₁ [] 0 0 → s₁.heap = h →
      own_G p.tables e below (own_P s Q C S) s₁ (entryFrame m as' maxL)) :
    MetFree l y (head1 (Jvm.Cond.code y bytes maxL ret :: ws) rm) (fun a U => a = as' ∧ Z.Warmed39 U.vm ∧ U.heap = h) (fun _ _ _ _ _ => True) (fun _ U o U' => ∃ v L, o = .returned v ∧ Q v U'.heap L ∧ FrameEnd U o U' L C S) := by
  refine MetFree.of_bodySF (maxLocals := maxL) (ret := ret) (code := bytes) pn hisR ?_
  intro p e s m args below meth c s₁ Bd hml0 hP hK
  obtain ⟨rfl, hZ, hh⟩ := hP
  exact body p e s m below meth c s₁ Bd.exec Bd.bytes hml0 (findClass_of_methodNamed Bd.named) (name_of_methodNamed Bd.named Bd.method).1 (BodyLoose.notSynchronized Bd) Bd.returns hZ (Stand.of_body Bd) (by rw [← hh, Bd.state]; rfl)
theorem own_ret {v : Option Value} {f : JFrame} {Q : Option Value → Heap → List Loc → Prop} {C S : Nat} (X : Stand p l e R s m args below meth c T locs cells slots) (hlk : meth.locks = false) (hv : meth.sig.returnType = none → v = none)
    (st : ∀ fs, (∀ (f : JFrame) (acts : List Action), f.method = m → f.locked = none → f.entered = [] → (doReturn e (T.setTop f) acts v).1 = T.setFrames fs) → Steps p.tables e below (T.setTop f) (T.setFrames fs)) (hC : cells ≤ C) (hS : slots ≤ S) (hq : Q v T.heap locs) : own_G p.tables e below (own_P s Q C S) T f := by
  obtain ⟨fs, hr, hrun, hended, hW, hsame⟩ := X.leave (v := v) hv hlk
  exact ⟨_, _, st fs hr, hrun, hended, _, _, rfl, hq, ⟨_, rfl⟩, hW, hsame.mono hC hS⟩
theorem own_retN {Q : Option Value → Heap → List Loc → Prop} {C S : Nat} (X : Stand p l e R s m args below meth c T locs cells slots) (hx : p.tables.exec = Jvm.exec) (hlk : meth.locks = false) {t : FieldType} (hret : meth.sig.returnType = some t) (ht : t = .boolean ∨ t = .byte ∨ t = .char ∨ t = .short) {pc : Nat} {Ls : Array Slot} {z : Int32} {rest : List Value} (hd : decode c.code pc = .ok (.ireturn, 1)) (hC : cells ≤ C) (hS : slots ≤ S) (hq : Q (some (.int (nar t z))) T.heap locs) :
    own_G p.tables e below (own_P s Q C S) T (mkF m pc Ls (.int z :: rest)) :=
  own_ret X hlk (fun h => by rw [hret] at h; cases h) (fun fs hr => retN X hx hret ht hd hr) hC hS hq
theorem own_retI {Q : Option Value → Heap → List Loc → Prop} {C S : Nat} (X : Stand p l e R s m args below meth c T locs cells slots) (hx : p.tables.exec = Jvm.exec) (hlk : meth.locks = false) (hret : meth.sig.returnType = some .int) {pc : Nat} {Ls : Array Slot} {z : Int32} {rest : List Value} (hd : decode c.code pc = .ok (.ireturn, 1)) (hC : cells ≤ C) (hS : slots ≤ S) (hq : Q (some (.int z)) T.heap locs) :
    own_G p.tables e below (own_P s Q C S) T (mkF m pc Ls (.int z :: rest)) :=
  own_ret X hlk (fun h => by rw [hret] at h; cases h) (fun fs hr => retOut X hx hret rfl (Or.inl ⟨rfl, Or.inl rfl, z, rfl⟩) hd hr) hC hS hq
theorem own_retJ {Q : Option Value → Heap → List Loc → Prop} {C S : Nat} (X : Stand p l e R s m args below meth c T locs cells slots) (hx : p.tables.exec = Jvm.exec) (hlk : meth.locks = false) (hret : meth.sig.returnType = some .long) {pc : Nat} {Ls : Array Slot} {z : Int64} {rest : List Value} (hd : decode c.code pc = .ok (.lreturn, 1)) (hC : cells ≤ C) (hS : slots ≤ S) (hq : Q (some (.long z)) T.heap locs) :
    own_G p.tables e below (own_P s Q C S) T (mkF m pc Ls (.long z :: rest)) :=
  own_ret X hlk (fun h => by rw [hret] at h; cases h) (fun fs hr => retOut X hx hret rfl (Or.inr (Or.inl ⟨rfl, rfl, z, rfl⟩)) hd hr) hC hS hq
theorem own_retA {Q : Option Value → Heap → List Loc → Prop} {C S : Nat} (X : Stand p l e R s m args below meth c T locs cells slots) (hx : p.tables.exec = Jvm.exec) (hlk : meth.locks = false) {t : FieldType} (hret : meth.sig.returnType = some t) (ht : t.isReference = true) {pc : Nat} {Ls : Array Slot} {w : Value} {rest : List Value} (hw : w.isRef = true) (hn : narrow t w = w) (hd : decode c.code pc = .ok (.areturn, 1)) (hC : cells ≤ C) (hS : slots ≤ S) (hq : Q (some w) T.heap locs) :
    own_G p.tables e below (own_P s Q C S) T (mkF m pc Ls (w :: rest)) :=
  own_ret X hlk (fun h => by rw [hret] at h; cases h) (fun fs hr => retOut X hx hret hn (Or.inr (Or.inr (Or.inr (Or.inr ⟨rfl, ht, hw⟩)))) hd hr) hC hS hq
theorem own_retV {Q : Option Value → Heap → List Loc → Prop} {C S : Nat} (X : Stand p l e R s m args below meth c T locs cells slots) (hx : p.tables.exec = Jvm.exec) (hlk : meth.locks = false) (hret : meth.sig.returnType = none) {pc : Nat} {Ls : Array Slot} (hd : decode c.code pc = .ok (.return_, 1)) (hC : cells ≤ C) (hS : slots ≤ S) (hq : Q none T.heap locs) :
    own_G p.tables e below (own_P s Q C S) T (mkF m pc Ls []) :=
  own_ret X hlk (fun h => rfl) (fun fs hr => X.returnOut hx hret hd hr) hC hS hq
theorem own_iadd (X : Stand p l e R s m args below meth c T locs cells slots) (hx : p.tables.exec = Jvm.exec) {pc pc' : Nat} {Ls : Array Slot} {x y z : Int32} {rest : List Value} (hd : decode c.code pc = .ok (.iadd, 1)) (hz : x + y = z) (hp : pc + 1 = pc') (k : own_G p.tables e below P T (mkF m pc' Ls (.int z :: rest))) : own_G p.tables e below P T (mkF m pc Ls (.int y :: .int x :: rest)) := by
  subst hp; subst hz; exact own_go (fun t q => XS.iadd X.here hx rfl hd rfl q) k
theorem own_isub (X : Stand p l e R s m args below meth c T locs cells slots) (hx : p.tables.exec = Jvm.exec) {pc pc' : Nat} {Ls : Array Slot} {x y z : Int32} {rest : List Value} (hd : decode c.code pc = .ok (.isub, 1)) (hz : x - y = z) (hp : pc + 1 = pc') (k : own_G p.tables e below P T (mkF m pc' Ls (.int z :: rest))) : own_G p.tables e below P T (mkF m pc Ls (.int y :: .int x :: rest)) := by
  subst hp; subst hz; exact own_go (fun t q => XS.isub X.here hx rfl hd rfl q) k
theorem own_imul (X : Stand p l e R s m args below meth c T locs cells slots) (hx : p.tables.exec = Jvm.exec) {pc pc' : Nat} {Ls : Array Slot} {x y z : Int32} {rest : List Value} (hd : decode c.code pc = .ok (.imul, 1)) (hz : x * y = z) (hp : pc + 1 = pc') (k : own_G p.tables e below P T (mkF m pc' Ls (.int z :: rest))) : own_G p.tables e below P T (mkF m pc Ls (.int y :: .int x :: rest)) := by
  subst hp; subst hz; exact own_go (fun t q => XS.imul X.here hx rfl hd rfl q) k
theorem own_iand (X : Stand p l e R s m args below meth c T locs cells slots) (hx : p.tables.exec = Jvm.exec) {pc pc' : Nat} {Ls : Array Slot} {x y z : Int32} {rest : List Value} (hd : decode c.code pc = .ok (.iand, 1)) (hz : x &&& y = z) (hp : pc + 1 = pc') (k : own_G p.tables e below P T (mkF m pc' Ls (.int z :: rest))) : own_G p.tables e below P T (mkF m pc Ls (.int y :: .int x :: rest)) := by
  subst hp; subst hz; exact own_go (fun t q => XS.iand X.here hx rfl hd rfl q) k
theorem own_ior (X : Stand p l e R s m args below meth c T locs cells slots) (hx : p.tables.exec = Jvm.exec) {pc pc' : Nat} {Ls : Array Slot} {x y z : Int32} {rest : List Value} (hd : decode c.code pc = .ok (.ior, 1)) (hz : x ||| y = z) (hp : pc + 1 = pc') (k : own_G p.tables e below P T (mkF m pc' Ls (.int z :: rest))) : own_G p.tables e below P T (mkF m pc Ls (.int y :: .int x :: rest)) := by
  subst hp; subst hz; exact own_go (fun t q => XS.ior X.here hx rfl hd rfl q) k
theorem own_ixor (X : Stand p l e R s m args below meth c T locs cells slots) (hx : p.tables.exec = Jvm.exec) {pc pc' : Nat} {Ls : Array Slot} {x y z : Int32} {rest : List Value} (hd : decode c.code pc = .ok (.ixor, 1)) (hz : x ^^^ y = z) (hp : pc + 1 = pc') (k : own_G p.tables e below P T (mkF m pc' Ls (.int z :: rest))) : own_G p.tables e below P T (mkF m pc Ls (.int y :: .int x :: rest)) := by
  subst hp; subst hz; exact own_go (fun t q => XS.ixor X.here hx rfl hd rfl q) k
theorem own_ladd (X : Stand p l e R s m args below meth c T locs cells slots) (hx : p.tables.exec = Jvm.exec) {pc pc' : Nat} {Ls : Array Slot} {x y z : Int64} {rest : List Value} (hd : decode c.code pc = .ok (.ladd, 1)) (hz : x + y = z) (hp : pc + 1 = pc') (k : own_G p.tables e below P T (mkF m pc' Ls (.long z :: rest))) : own_G p.tables e below P T (mkF m pc Ls (.long y :: .long x :: rest)) := by
  subst hp; subst hz; exact own_go (fun t q => XS.ladd X.here hx rfl hd rfl q) k
theorem own_lsub (X : Stand p l e R s m args below meth c T locs cells slots) (hx : p.tables.exec = Jvm.exec) {pc pc' : Nat} {Ls : Array Slot} {x y z : Int64} {rest : List Value} (hd : decode c.code pc = .ok (.lsub, 1)) (hz : x - y = z) (hp : pc + 1 = pc') (k : own_G p.tables e below P T (mkF m pc' Ls (.long z :: rest))) : own_G p.tables e below P T (mkF m pc Ls (.long y :: .long x :: rest)) := by
  subst hp; subst hz; exact own_go (fun t q => XS.lsub X.here hx rfl hd rfl q) k
theorem own_lmul (X : Stand p l e R s m args below meth c T locs cells slots) (hx : p.tables.exec = Jvm.exec) {pc pc' : Nat} {Ls : Array Slot} {x y z : Int64} {rest : List Value} (hd : decode c.code pc = .ok (.lmul, 1)) (hz : x * y = z) (hp : pc + 1 = pc') (k : own_G p.tables e below P T (mkF m pc' Ls (.long z :: rest))) : own_G p.tables e below P T (mkF m pc Ls (.long y :: .long x :: rest)) := by
  subst hp; subst hz; exact own_go (fun t q => XS.lmul X.here hx rfl hd rfl q) k
theorem own_land (X : Stand p l e R s m args below meth c T locs cells slots) (hx : p.tables.exec = Jvm.exec) {pc pc' : Nat} {Ls : Array Slot} {x y z : Int64} {rest : List Value} (hd : decode c.code pc = .ok (.land, 1)) (hz : x &&& y = z) (hp : pc + 1 = pc') (k : own_G p.tables e below P T (mkF m pc' Ls (.long z :: rest))) : own_G p.tables e below P T (mkF m pc Ls (.long y :: .long x :: rest)) := by
  subst hp; subst hz; exact own_go (fun t q => XS.land X.here hx rfl hd rfl q) k
theorem own_lor (X : Stand p l e R s m args below meth c T locs cells slots) (hx : p.tables.exec = Jvm.exec) {pc pc' : Nat} {Ls : Array Slot} {x y z : Int64} {rest : List Value} (hd : decode c.code pc = .ok (.lor, 1)) (hz : x ||| y = z) (hp : pc + 1 = pc') (k : own_G p.tables e below P T (mkF m pc' Ls (.long z :: rest))) : own_G p.tables e below P T (mkF m pc Ls (.long y :: .long x :: rest)) := by
  subst hp; subst hz; exact own_go (fun t q => XS.lor X.here hx rfl hd rfl q) k
theorem own_lxor (X : Stand p l e R s m args below meth c T locs cells slots) (hx : p.tables.exec = Jvm.exec) {pc pc' : Nat} {Ls : Array Slot} {x y z : Int64} {rest : List Value} (hd : decode c.code pc = .ok (.lxor, 1)) (hz : x ^^^ y = z) (hp : pc + 1 = pc') (k : own_G p.tables e below P T (mkF m pc' Ls (.long z :: rest))) : own_G p.tables e below P T (mkF m pc Ls (.long y :: .long x :: rest)) := by
  subst hp; subst hz; exact own_go (fun t q => XS.lxor X.here hx rfl hd rfl q) k
theorem own_ishl (X : Stand p l e R s m args below meth c T locs cells slots) (hx : p.tables.exec = Jvm.exec) {pc pc' : Nat} {Ls : Array Slot} {x y : Int32} {rest : List Value} (hd : decode c.code pc = .ok (.ishl, 1)) (hp : pc + 1 = pc') (k : own_G p.tables e below P T (mkF m pc' Ls (.int (x <<< (y &&& 31)) :: rest))) : own_G p.tables e below P T (mkF m pc Ls (.int y :: .int x :: rest)) := by
  subst hp; exact own_go (fun t q => XS.ishl X.here hx rfl hd rfl q) k
theorem own_ishr (X : Stand p l e R s m args below meth c T locs cells slots) (hx : p.tables.exec = Jvm.exec) {pc pc' : Nat} {Ls : Array Slot} {x y : Int32} {rest : List Value} (hd : decode c.code pc = .ok (.ishr, 1)) (hp : pc + 1 = pc') (k : own_G p.tables e below P T (mkF m pc' Ls (.int (x >>> (y &&& 31)) :: rest))) : own_G p.tables e below P T (mkF m pc Ls (.int y :: .int x :: rest)) := by
  subst hp; exact own_go (fun t q => XS.ishr X.here hx rfl hd rfl q) k
theorem own_iushr (X : Stand p l e R s m args below meth c T locs cells slots) (hx : p.tables.exec = Jvm.exec) {pc pc' : Nat} {Ls : Array Slot} {x y : Int32} {rest : List Value} (hd : decode c.code pc = .ok (.iushr, 1)) (hp : pc + 1 = pc') (k : own_G p.tables e below P T (mkF m pc' Ls (.int ((x.toUInt32 >>> (y &&& 31).toUInt32).toInt32) :: rest))) : own_G p.tables e below P T (mkF m pc Ls (.int y :: .int x :: rest)) := by
  subst hp; exact own_go (fun t q => XS.iushr X.here hx rfl hd rfl q) k
theorem own_lshl (X : Stand p l e R s m args below meth c T locs cells slots) (hx : p.tables.exec = Jvm.exec) {pc pc' : Nat} {Ls : Array Slot} {x : Int64} {y : Int32} {rest : List Value} (hd : decode c.code pc = .ok (.lshl, 1)) (hp : pc + 1 = pc') (k : own_G p.tables e below P T (mkF m pc' Ls (.long (x <<< (y &&& 0x3f).toInt64) :: rest))) : own_G p.tables e below P T (mkF m pc Ls (.int y :: .long x :: rest)) := by
  subst hp; exact own_go (fun t q => XS.lshl X.here hx rfl hd rfl q) k
theorem own_lshr (X : Stand p l e R s m args below meth c T locs cells slots) (hx : p.tables.exec = Jvm.exec) {pc pc' : Nat} {Ls : Array Slot} {x : Int64} {y : Int32} {rest : List Value} (hd : decode c.code pc = .ok (.lshr, 1)) (hp : pc + 1 = pc') (k : own_G p.tables e below P T (mkF m pc' Ls (.long (x >>> (y &&& 0x3f).toInt64) :: rest))) : own_G p.tables e below P T (mkF m pc Ls (.int y :: .long x :: rest)) := by
  subst hp; exact own_go (fun t q => XS.lshr X.here hx rfl hd rfl q) k
theorem own_lushr (X : Stand p l e R s m args below meth c T locs cells slots) (hx : p.tables.exec = Jvm.exec) {pc pc' : Nat} {Ls : Array Slot} {x : Int64} {y : Int32} {rest : List Value} (hd : decode c.code pc = .ok (.lushr, 1)) (hp : pc + 1 = pc') (k : own_G p.tables e below P T (mkF m pc' Ls (.long ((x.toUInt64 >>> (y &&& 0x3f).toInt64.toUInt64).toInt64) :: rest))) : own_G p.tables e below P T (mkF m pc Ls (.int y :: .long x :: rest)) := by
  subst hp; exact own_go (fun t q => XS.lushr X.here hx rfl hd rfl q) k
theorem own_i2l (X : Stand p l e R s m args below meth c T locs cells slots) (hx : p.tables.exec = Jvm.exec) {pc pc' : Nat} {Ls : Array Slot} {x : Int32} {rest : List Value} (hd : decode c.code pc = .ok (.i2l, 1)) (hp : pc + 1 = pc') (k : own_G p.tables e below P T (mkF m pc' Ls (.long (x.toInt64) :: rest))) : own_G p.tables e below P T (mkF m pc Ls (.int x :: rest)) := by
  subst hp; exact own_go (fun t q => XS.i2l X.here hx rfl hd rfl q) k
theorem own_l2i (X : Stand p l e R s m args below meth c T locs cells slots) (hx : p.tables.exec = Jvm.exec) {pc pc' : Nat} {Ls : Array Slot} {x : Int64} {rest : List Value} (hd : decode c.code pc = .ok (.l2i, 1)) (hp : pc + 1 = pc') (k : own_G p.tables e below P T (mkF m pc' Ls (.int (x.toInt32) :: rest))) : own_G p.tables e below P T (mkF m pc Ls (.long x :: rest)) := by
  subst hp; exact own_go (fun t q => XS.l2i X.here hx rfl hd rfl q) k
theorem own_i2b (X : Stand p l e R s m args below meth c T locs cells slots) (hx : p.tables.exec = Jvm.exec) {pc pc' : Nat} {Ls : Array Slot} {x : Int32} {rest : List Value} (hd : decode c.code pc = .ok (.i2b, 1)) (hp : pc + 1 = pc') (k : own_G p.tables e below P T (mkF m pc' Ls (.int (x.toInt8.toInt32) :: rest))) : own_G p.tables e below P T (mkF m pc Ls (.int x :: rest)) := by
  subst hp; exact own_go (fun t q => XS.i2b X.here hx rfl hd rfl q) k
theorem own_i2s (X : Stand p l e R s m args below meth c T locs cells slots) (hx : p.tables.exec = Jvm.exec) {pc pc' : Nat} {Ls : Array Slot} {x : Int32} {rest : List Value} (hd : decode c.code pc = .ok (.i2s, 1)) (hp : pc + 1 = pc') (k : own_G p.tables e below P T (mkF m pc' Ls (.int (x.toInt16.toInt32) :: rest))) : own_G p.tables e below P T (mkF m pc Ls (.int x :: rest)) := by
  subst hp; exact own_go (fun t q => XS.i2s X.here hx rfl hd rfl q) k
theorem own_i2c (X : Stand p l e R s m args below meth c T locs cells slots) (hx : p.tables.exec = Jvm.exec) {pc pc' : Nat} {Ls : Array Slot} {x : Int32} {rest : List Value} (hd : decode c.code pc = .ok (.i2c, 1)) (hp : pc + 1 = pc') (k : own_G p.tables e below P T (mkF m pc' Ls (.int (x.toUInt32.toUInt16.toUInt32.toInt32) :: rest))) : own_G p.tables e below P T (mkF m pc Ls (.int x :: rest)) := by
  subst hp; exact own_go (fun t q => XS.i2c X.here hx rfl hd rfl q) k
theorem own_ineg (X : Stand p l e R s m args below meth c T locs cells slots) (hx : p.tables.exec = Jvm.exec) {pc pc' : Nat} {Ls : Array Slot} {x : Int32} {rest : List Value} (hd : decode c.code pc = .ok (.ineg, 1)) (hp : pc + 1 = pc') (k : own_G p.tables e below P T (mkF m pc' Ls (.int (-x) :: rest))) : own_G p.tables e below P T (mkF m pc Ls (.int x :: rest)) := by
  subst hp; exact own_go (fun t q => XS.ineg X.here hx rfl hd rfl q) k
theorem own_lneg (X : Stand p l e R s m args below meth c T locs cells slots) (hx : p.tables.exec = Jvm.exec) {pc pc' : Nat} {Ls : Array Slot} {x : Int64} {rest : List Value} (hd : decode c.code pc = .ok (.lneg, 1)) (hp : pc + 1 = pc') (k : own_G p.tables e below P T (mkF m pc' Ls (.long (-x) :: rest))) : own_G p.tables e below P T (mkF m pc Ls (.long x :: rest)) := by
  subst hp; exact own_go (fun t q => XS.lneg X.here hx rfl hd rfl q) k
theorem own_lcmp (X : Stand p l e R s m args below meth c T locs cells slots) (hx : p.tables.exec = Jvm.exec) {pc pc' : Nat} {Ls : Array Slot} {x y : Int64} {rest : List Value} (hd : decode c.code pc = .ok (.lcmp, 1)) (hp : pc + 1 = pc') (k : own_G p.tables e below P T (mkF m pc' Ls (.int (lcmpW x y) :: rest))) : own_G p.tables e below P T (mkF m pc Ls (.long y :: .long x :: rest)) := by
  subst hp; exact own_go (fun t q => XS.lcmp X.here hx rfl hd rfl q) k
theorem own_idiv (X : Stand p l e R s m args below meth c T locs cells slots) (hx : p.tables.exec = Jvm.exec) {pc pc' : Nat} {Ls : Array Slot} {x y z : Int32} {rest : List Value} (hd : decode c.code pc = .ok (.idiv, 1)) (hz : x / y = z) (hy : y ≠ 0) (hp : pc + 1 = pc') (k : own_G p.tables e below P T (mkF m pc' Ls (.int z :: rest))) : own_G p.tables e below P T (mkF m pc Ls (.int y :: .int x :: rest)) := by
  subst hp; subst hz; exact own_go (fun t q => XS.idiv X.here hx rfl hd rfl hy q) k
theorem own_irem (X : Stand p l e R s m args below meth c T locs cells slots) (hx : p.tables.exec = Jvm.exec) {pc pc' : Nat} {Ls : Array Slot} {x y : Int32} {rest : List Value} (hd : decode c.code pc = .ok (.irem, 1)) (hy : y ≠ 0) (hp : pc + 1 = pc') (k : own_G p.tables e below P T (mkF m pc' Ls (.int (x % y) :: rest))) : own_G p.tables e below P T (mkF m pc Ls (.int y :: .int x :: rest)) := by
  subst hp; exact own_go (fun t q => iremM X hx rfl hd rfl hy q) k
theorem own_iloadN (X : Stand p l e R s m args below meth c T locs cells slots) (hx : p.tables.exec = Jvm.exec) {pc pc' : Nat} {Ls : Array Slot} {j : Fin 4} {v : Int32} {st : List Value} (hd : decode c.code pc = .ok (.iload_n j, 1)) (hl : Ls[j.val]? = some (.val (.int v))) (hp : pc + 1 = pc') (k : own_G p.tables e below P T (mkF m pc' Ls (.int v :: st))) : own_G p.tables e below P T (mkF m pc Ls (st)) := by
  subst hp; exact own_go (fun t q => XS.iloadN X.here hx rfl hd hl q) k
theorem own_iload (X : Stand p l e R s m args below meth c T locs cells slots) (hx : p.tables.exec = Jvm.exec) {pc pc' : Nat} {Ls : Array Slot} {j : Nat} {v : Int32} {st : List Value} (hd : decode c.code pc = .ok (.iload j, 2)) (hl : Ls[j]? = some (.val (.int v))) (hp : pc + 2 = pc') (k : own_G p.tables e below P T (mkF m pc' Ls (.int v :: st))) : own_G p.tables e below P T (mkF m pc Ls (st)) := by
  subst hp; exact own_go (fun t q => XS.iload X.here hx rfl hd hl q) k
theorem own_lloadN (X : Stand p l e R s m args below meth c T locs cells slots) (hx : p.tables.exec = Jvm.exec) {pc pc' : Nat} {Ls : Array Slot} {j : Fin 4} {v : Int64} {st : List Value} (hd : decode c.code pc = .ok (.lload_n j, 1)) (hl : Ls[j.val]? = some (.val (.long v))) (hp : pc + 1 = pc') (k : own_G p.tables e below P T (mkF m pc' Ls (.long v :: st))) : own_G p.tables e below P T (mkF m pc Ls (st)) := by
  subst hp; exact own_go (fun t q => XS.lloadN X.here hx rfl hd hl q) k
theorem own_lload (X : Stand p l e R s m args below meth c T locs cells slots) (hx : p.tables.exec = Jvm.exec) {pc pc' : Nat} {Ls : Array Slot} {j : Nat} {v : Int64} {st : List Value} (hd : decode c.code pc = .ok (.lload j, 2)) (hl : Ls[j]? = some (.val (.long v))) (hp : pc + 2 = pc') (k : own_G p.tables e below P T (mkF m pc' Ls (.long v :: st))) : own_G p.tables e below P T (mkF m pc Ls (st)) := by
  subst hp; exact own_go (fun t q => XS.lload X.here hx rfl hd hl q) k
theorem own_aloadN (X : Stand p l e R s m args below meth c T locs cells slots) (hx : p.tables.exec = Jvm.exec) {pc pc' : Nat} {Ls : Array Slot} {j : Fin 4} {v : Value} {st : List Value} (hd : decode c.code pc = .ok (.aload_n j, 1)) (hl : Ls[j.val]? = some (.val v)) (hv : v.isRef = true) (hp : pc + 1 = pc') (k : own_G p.tables e below P T (mkF m pc' Ls (v :: st))) : own_G p.tables e below P T (mkF m pc Ls (st)) := by
  subst hp; exact own_go (fun t q => XS.aloadN X.here hx rfl hd hl hv q) k
theorem own_istoreN (X : Stand p l e R s m args below meth c T locs cells slots) (hx : p.tables.exec = Jvm.exec) {pc pc' : Nat} {Ls : Array Slot} {j : Fin 4} {v : Int32} {rest : List Value} {Ls' : Array Slot} (hd : decode c.code pc = .ok (.istore_n j, 1)) (hl : storeLocals Ls j.val (.int v) = some Ls') (hp : pc + 1 = pc') (k : own_G p.tables e below P T (mkF m pc' Ls' (rest))) : own_G p.tables e below P T (mkF m pc Ls (.int v :: rest)) := by
  subst hp; exact own_go (fun t q => XS.istoreN X.here hx rfl hd rfl hl q) k
theorem own_lstoreN (X : Stand p l e R s m args below meth c T locs cells slots) (hx : p.tables.exec = Jvm.exec) {pc pc' : Nat} {Ls : Array Slot} {j : Fin 4} {v : Int64} {rest : List Value} {Ls' : Array Slot} (hd : decode c.code pc = .ok (.lstore_n j, 1)) (hl : storeLocals Ls j.val (.long v) = some Ls') (hp : pc + 1 = pc') (k : own_G p.tables e below P T (mkF m pc' Ls' (rest))) : own_G p.tables e below P T (mkF m pc Ls (.long v :: rest)) := by
  subst hp; exact own_go (fun t q => XS.lstoreN X.here hx rfl hd rfl hl q) k
theorem own_astoreN (X : Stand p l e R s m args below meth c T locs cells slots) (hx : p.tables.exec = Jvm.exec) {pc pc' : Nat} {Ls : Array Slot} {j : Fin 4} {v : Value} {rest : List Value} {Ls' : Array Slot} (hd : decode c.code pc = .ok (.astore_n j, 1)) (hv : v.isRef = true) (hl : storeLocals Ls j.val v = some Ls') (hp : pc + 1 = pc') (k : own_G p.tables e below P T (mkF m pc' Ls' (rest))) : own_G p.tables e below P T (mkF m pc Ls (v :: rest)) := by
  subst hp; exact own_go (fun t q => XS.astoreN X.here hx rfl hd rfl hv hl q) k
theorem own_aload (X : Stand p l e R s m args below meth c T locs cells slots) (hx : p.tables.exec = Jvm.exec) {pc pc' : Nat} {Ls : Array Slot} {j : Nat} {v : Value} {st : List Value} (hd : decode c.code pc = .ok (.aload j, 2)) (hl : Ls[j]? = some (.val v)) (hv : v.isRef = true) (hp : pc + 2 = pc') (k : own_G p.tables e below P T (mkF m pc' Ls (v :: st))) : own_G p.tables e below P T (mkF m pc Ls (st)) := by
  subst hp; exact own_go (fun t q => XS.aload X.here hx rfl hd hl hv q) k
theorem own_istore (X : Stand p l e R s m args below meth c T locs cells slots) (hx : p.tables.exec = Jvm.exec) {pc pc' : Nat} {Ls : Array Slot} {j : Nat} {v : Int32} {rest : List Value} {Ls' : Array Slot} (hd : decode c.code pc = .ok (.istore j, 2)) (hl : storeLocals Ls j (.int v) = some Ls') (hp : pc + 2 = pc') (k : own_G p.tables e below P T (mkF m pc' Ls' (rest))) : own_G p.tables e below P T (mkF m pc Ls (.int v :: rest)) := by
  subst hp; exact own_go (fun t q => XS.istore X.here hx rfl hd rfl hl q) k
theorem own_lstore (X : Stand p l e R s m args below meth c T locs cells slots) (hx : p.tables.exec = Jvm.exec) {pc pc' : Nat} {Ls : Array Slot} {j : Nat} {v : Int64} {rest : List Value} {Ls' : Array Slot} (hd : decode c.code pc = .ok (.lstore j, 2)) (hl : storeLocals Ls j (.long v) = some Ls') (hp : pc + 2 = pc') (k : own_G p.tables e below P T (mkF m pc' Ls' (rest))) : own_G p.tables e below P T (mkF m pc Ls (.long v :: rest)) := by
  subst hp; exact own_go (fun t q => XS.lstore X.here hx rfl hd rfl hl q) k
theorem own_astore (X : Stand p l e R s m args below meth c T locs cells slots) (hx : p.tables.exec = Jvm.exec) {pc pc' : Nat} {Ls : Array Slot} {j : Nat} {v : Value} {rest : List Value} {Ls' : Array Slot} (hd : decode c.code pc = .ok (.astore j, 2)) (hv : v.isRef = true) (hl : storeLocals Ls j v = some Ls') (hp : pc + 2 = pc') (k : own_G p.tables e below P T (mkF m pc' Ls' (rest))) : own_G p.tables e below P T (mkF m pc Ls (v :: rest)) := by
  subst hp; exact own_go (fun t q => XS.astore X.here hx rfl hd rfl hv hl q) k
theorem own_iinc (X : Stand p l e R s m args below meth c T locs cells slots) (hx : p.tables.exec = Jvm.exec) {pc pc' : Nat} {Ls : Array Slot} {j : Nat} {cst : Int} {x : Int32} {st : List Value} {Ls' : Array Slot} (hd : decode c.code pc = .ok (.iinc j cst, 3)) (hl : Ls[j]? = some (.val (.int x))) (hl' : storeLocals Ls j (.int (x + Int32.ofInt cst)) = some Ls') (hp : pc + 3 = pc') (k : own_G p.tables e below P T (mkF m pc' Ls' (st))) : own_G p.tables e below P T (mkF m pc Ls (st)) := by
  subst hp; exact own_go (fun t q => XS.iinc X.here hx rfl hd hl hl' q) k
theorem own_iconst (X : Stand p l e R s m args below meth c T locs cells slots) (hx : p.tables.exec = Jvm.exec) {pc pc' : Nat} {Ls : Array Slot} {i : Int} {st : List Value} (z : Int32) (hd : decode c.code pc = .ok (.iconst i, 1)) (hz : Int32.ofInt i = z) (hp : pc + 1 = pc') (k : own_G p.tables e below P T (mkF m pc' Ls (.int z :: st))) : own_G p.tables e below P T (mkF m pc Ls (st)) := by
  subst hp; subst hz; exact own_go (fun t q => XS.iconst X.here hx rfl hd q) k
theorem own_bipush (X : Stand p l e R s m args below meth c T locs cells slots) (hx : p.tables.exec = Jvm.exec) {pc pc' : Nat} {Ls : Array Slot} {i : Int} {st : List Value} (z : Int32) (hd : decode c.code pc = .ok (.bipush i, 2)) (hz : (Int8.ofInt i).toInt32 = z) (hp : pc + 2 = pc') (k : own_G p.tables e below P T (mkF m pc' Ls (.int z :: st))) : own_G p.tables e below P T (mkF m pc Ls (st)) := by
  subst hp; subst hz; exact own_go (fun t q => XS.bipush X.here hx rfl hd q) k
theorem own_sipush (X : Stand p l e R s m args below meth c T locs cells slots) (hx : p.tables.exec = Jvm.exec) {pc pc' : Nat} {Ls : Array Slot} {i : Int} {st : List Value} (z : Int32) (hd : decode c.code pc = .ok (.sipush i, 3)) (hz : (Int16.ofInt i).toInt32 = z) (hp : pc + 3 = pc') (k : own_G p.tables e below P T (mkF m pc' Ls (.int z :: st))) : own_G p.tables e below P T (mkF m pc Ls (st)) := by
  subst hp; subst hz; exact own_go (fun t q => XS.sipush X.here hx rfl hd q) k
theorem own_lconst (X : Stand p l e R s m args below meth c T locs cells slots) (hx : p.tables.exec = Jvm.exec) {pc pc' : Nat} {Ls : Array Slot} {i : Fin 2} {st : List Value} (z : Int64) (hd : decode c.code pc = .ok (.lconst i, 1)) (hz : Int64.ofNat i = z) (hp : pc + 1 = pc') (k : own_G p.tables e below P T (mkF m pc' Ls (.long z :: st))) : own_G p.tables e below P T (mkF m pc Ls (st)) := by
  subst hp; subst hz; exact own_go (fun t q => XS.lconst X.here hx rfl hd q) k
theorem own_aconstNull (X : Stand p l e R s m args below meth c T locs cells slots) (hx : p.tables.exec = Jvm.exec) {pc pc' : Nat} {Ls : Array Slot} {st : List Value} (hd : decode c.code pc = .ok (.aconst_null, 1)) (hp : pc + 1 = pc') (k : own_G p.tables e below P T (mkF m pc' Ls (.null :: st))) : own_G p.tables e below P T (mkF m pc Ls (st)) := by
  subst hp; exact own_go (fun t q => XS.aconstNull X.here hx rfl hd q) k
theorem own_dup (X : Stand p l e R s m args below meth c T locs cells slots) (hx : p.tables.exec = Jvm.exec) {pc pc' : Nat} {Ls : Array Slot} {v : Value} {rest : List Value} (hd : decode c.code pc = .ok (.dup, 1)) (hc : v.category = 1) (hp : pc + 1 = pc') (k : own_G p.tables e below P T (mkF m pc' Ls (v :: v :: rest))) : own_G p.tables e below P T (mkF m pc Ls (v :: rest)) := by
  subst hp; exact own_go (fun t q => XS.dup X.here hx rfl hd rfl hc q) k
theorem own_pop (X : Stand p l e R s m args below meth c T locs cells slots) (hx : p.tables.exec = Jvm.exec) {pc pc' : Nat} {Ls : Array Slot} {v : Value} {rest : List Value} (hd : decode c.code pc = .ok (.pop, 1)) (hc : v.category = 1) (hp : pc + 1 = pc') (k : own_G p.tables e below P T (mkF m pc' Ls (rest))) : own_G p.tables e below P T (mkF m pc Ls (v :: rest)) := by
  subst hp; exact own_go (fun t q => XS.pop X.here hx rfl hd rfl hc q) k
theorem own_dupX1 (X : Stand p l e R s m args below meth c T locs cells slots) (hx : p.tables.exec = Jvm.exec) {pc pc' : Nat} {Ls : Array Slot} {v w : Value} {rest : List Value} (hd : decode c.code pc = .ok (.dup_x1, 1)) (hc : v.category = 1) (hc' : w.category = 1) (hp : pc + 1 = pc') (k : own_G p.tables e below P T (mkF m pc' Ls (v :: w :: v :: rest))) : own_G p.tables e below P T (mkF m pc Ls (v :: w :: rest)) := by
  subst hp; exact own_go (fun t q => XS.dupX1 X.here hx rfl hd rfl hc hc' q) k
theorem own_dup2 (X : Stand p l e R s m args below meth c T locs cells slots) (hx : p.tables.exec = Jvm.exec) {pc pc' : Nat} {Ls : Array Slot} {v w : Value} {rest : List Value} (hd : decode c.code pc = .ok (.dup2, 1)) (hc : v.category = 1) (hc' : w.category = 1) (hp : pc + 1 = pc') (k : own_G p.tables e below P T (mkF m pc' Ls (v :: w :: v :: w :: rest))) : own_G p.tables e below P T (mkF m pc Ls (v :: w :: rest)) := by
  subst hp; exact own_go (fun t q => Jvm.Free.XT.dup2 X.here hx rfl hd rfl hc hc' q) k
theorem own_goto (X : Stand p l e R s m args below meth c T locs cells slots) (hx : p.tables.exec = Jvm.exec) {pc pc' : Nat} {Ls : Array Slot} {st : List Value} {o : Int} (hd : decode c.code pc = .ok (.goto o, 3)) (ho : 0 ≤ (pc : Int) + o) (hp : ((pc : Int) + o).toNat = pc') (k : own_G p.tables e below P T (mkF m pc' Ls (st))) : own_G p.tables e below P T (mkF m pc Ls (st)) := by
  exact own_go (fun t q => XS.goto X.here hx rfl (pc0 := pc) (pc' := pc') rfl hd ho hp q) k
theorem own_ifYes (X : Stand p l e R s m args below meth c T locs cells slots) (hx : p.tables.exec = Jvm.exec) {pc pc' : Nat} {Ls : Array Slot} {cd : ClassFile.Cond} {x : Int32} {rest : List Value} {o : Int} (hd : decode c.code pc = .ok (.ifCond cd o, 3)) (hc : if_icmp.holds cd x 0 = true) (ho : 0 ≤ (pc : Int) + o) (hp : ((pc : Int) + o).toNat = pc') (k : own_G p.tables e below P T (mkF m pc' Ls (rest))) : own_G p.tables e below P T (mkF m pc Ls (.int x :: rest)) := by
  exact own_go (fun t q => XS.ifYes X.here hx rfl (pc0 := pc) (pc' := pc') rfl hd rfl ((if0 _ _).trans hc) ho hp q) k
theorem own_icmpYes (X : Stand p l e R s m args below meth c T locs cells slots) (hx : p.tables.exec = Jvm.exec) {pc pc' : Nat} {Ls : Array Slot} {cd : ClassFile.Cond} {x y : Int32} {rest : List Value} {o : Int} (hd : decode c.code pc = .ok (.if_icmp cd o, 3)) (hc : if_icmp.holds cd x y = true) (ho : 0 ≤ (pc : Int) + o) (hp : ((pc : Int) + o).toNat = pc') (k : own_G p.tables e below P T (mkF m pc' Ls (rest))) : own_G p.tables e below P T (mkF m pc Ls (.int y :: .int x :: rest)) := by
  exact own_go (fun t q => XS.icmpYes X.here hx rfl (pc0 := pc) (pc' := pc') rfl hd rfl hc ho hp q) k
theorem own_ifnullYes (X : Stand p l e R s m args below meth c T locs cells slots) (hx : p.tables.exec = Jvm.exec) {pc pc' : Nat} {Ls : Array Slot} {rest : List Value} {o : Int} (hd : decode c.code pc = .ok (.ifnull o, 3)) (ho : 0 ≤ (pc : Int) + o) (hp : ((pc : Int) + o).toNat = pc') (k : own_G p.tables e below P T (mkF m pc' Ls (rest))) : own_G p.tables e below P T (mkF m pc Ls (.null :: rest)) := by
  exact own_go (fun t q => XS.ifnullYes X.here hx rfl (pc0 := pc) (pc' := pc') rfl hd rfl ho hp q) k
theorem own_ifnonnullYes (X : Stand p l e R s m args below meth c T locs cells slots) (hx : p.tables.exec = Jvm.exec) {pc pc' : Nat} {Ls : Array Slot} {b : Addr} {rest : List Value} {o : Int} (hd : decode c.code pc = .ok (.ifnonnull o, 3)) (ho : 0 ≤ (pc : Int) + o) (hp : ((pc : Int) + o).toNat = pc') (k : own_G p.tables e below P T (mkF m pc' Ls (rest))) : own_G p.tables e below P T (mkF m pc Ls (.ref b :: rest)) := by
  exact own_go (fun t q => XS.ifnonnullYes X.here hx rfl (pc0 := pc) (pc' := pc') rfl hd rfl ho hp q) k
theorem own_ifNo (X : Stand p l e R s m args below meth c T locs cells slots) (hx : p.tables.exec = Jvm.exec) {pc pc' : Nat} {Ls : Array Slot} {cd : ClassFile.Cond} {o : Int} {x : Int32} {rest : List Value} (hd : decode c.code pc = .ok (.ifCond cd o, 3)) (hc : if_icmp.holds cd x 0 = false) (hp : pc + 3 = pc') (k : own_G p.tables e below P T (mkF m pc' Ls (rest))) : own_G p.tables e below P T (mkF m pc Ls (.int x :: rest)) := by
  subst hp; exact own_go (fun t q => XS.ifNo X.here hx rfl hd rfl ((if0 _ _).trans hc) q) k
theorem own_icmpNo (X : Stand p l e R s m args below meth c T locs cells slots) (hx : p.tables.exec = Jvm.exec) {pc pc' : Nat} {Ls : Array Slot} {cd : ClassFile.Cond} {o : Int} {x y : Int32} {rest : List Value} (hd : decode c.code pc = .ok (.if_icmp cd o, 3)) (hc : if_icmp.holds cd x y = false) (hp : pc + 3 = pc') (k : own_G p.tables e below P T (mkF m pc' Ls (rest))) : own_G p.tables e below P T (mkF m pc Ls (.int y :: .int x :: rest)) := by
  subst hp; exact own_go (fun t q => XS.icmpNo X.here hx rfl hd rfl hc q) k
theorem own_ifnullNo (X : Stand p l e R s m args below meth c T locs cells slots) (hx : p.tables.exec = Jvm.exec) {pc pc' : Nat} {Ls : Array Slot} {o : Int} {b : Addr} {rest : List Value} (hd : decode c.code pc = .ok (.ifnull o, 3)) (hp : pc + 3 = pc') (k : own_G p.tables e below P T (mkF m pc' Ls (rest))) : own_G p.tables e below P T (mkF m pc Ls (.ref b :: rest)) := by
  subst hp; exact own_go (fun t q => XS.ifnullNo X.here hx rfl hd rfl q) k
theorem own_ifnonnullNo (X : Stand p l e R s m args below meth c T locs cells slots) (hx : p.tables.exec = Jvm.exec) {pc pc' : Nat} {Ls : Array Slot} {o : Int} {rest : List Value} (hd : decode c.code pc = .ok (.ifnonnull o, 3)) (hp : pc + 3 = pc') (k : own_G p.tables e below P T (mkF m pc' Ls (rest))) : own_G p.tables e below P T (mkF m pc Ls (.null :: rest)) := by
  subst hp; exact own_go (fun t q => XS.ifnonnullNo X.here hx rfl hd rfl q) k
theorem own_acmp (X : Stand p l e R s m args below meth c T locs cells slots) (hx : p.tables.exec = Jvm.exec) {pc pc' : Nat} {Ls : Array Slot} {cd : ACond} {x y : Value} {rest : List Value} {o : Int} (same : Bool) (hd : decode c.code pc = .ok (.if_acmp cd o, 3)) (h1 : x.isRef = true) (h2 : y.isRef = true) (hq : decide (x = y) = same) (ho : 0 ≤ (pc : Int) + o) (hp : pc' = if acV cd same = true then ((pc : Int) + o).toNat else pc + 3) (k : own_G p.tables e below P T (mkF m pc' Ls rest)) : own_G p.tables e below P T (mkF m pc Ls (y :: x :: rest)) := by
  exact own_go (fun t q => Jvm.RoadKit.acmp (g := mkF m pc Ls (y :: x :: rest)) X hx rfl h1 h2 (pc0 := pc) (pc' := pc') rfl hd rfl hq ho hp q) k
theorem own_ldcI (X : Stand p l e R s m args below meth c T locs cells slots) (hx : p.tables.exec = Jvm.exec) {pc pc' : Nat} {Ls : Array Slot} (hZ : Z.Warmed39 s.vm) {own : String} {idx : Nat} {z : Int32} {st : List Value} (hown : s.vm.findClass own = some m.cls) (w : (Jvm.Cond.constant own idx z).before a0 Z = true) (hd : decode c.code pc = .ok (.ldc idx, 2)) (hp : pc + 2 = pc') (k : own_G p.tables e below P T (mkF m pc' Ls (.int z :: st))) : own_G p.tables e below P T (mkF m pc Ls st) := by
  subst hp; exact own_go (X.ldcInt hx hown (mvT hZ w) (g := mkF m pc Ls st) rfl hd) k
theorem own_ldcwI (X : Stand p l e R s m args below meth c T locs cells slots) (hx : p.tables.exec = Jvm.exec) {pc pc' : Nat} {Ls : Array Slot} (hZ : Z.Warmed39 s.vm) {own : String} {idx : Nat} {z : Int32} {st : List Value} (hown : s.vm.findClass own = some m.cls) (w : (Jvm.Cond.constant own idx z).before a0 Z = true) (hd : decode c.code pc = .ok (.ldc_w idx, 3)) (hp : pc + 3 = pc') (k : own_G p.tables e below P T (mkF m pc' Ls (.int z :: st))) : own_G p.tables e below P T (mkF m pc Ls st) := by
  subst hp; exact own_go (X.ldcwInt hx hown (mvT hZ w) (g := mkF m pc Ls st) rfl hd) k
theorem own_ldc2J (X : Stand p l e R s m args below meth c T locs cells slots) (hx : p.tables.exec = Jvm.exec) {pc pc' : Nat} {Ls : Array Slot} (hZ : Z.Warmed39 s.vm) {own : String} {idx : Nat} {z : Int64} {st : List Value} (hown : s.vm.findClass own = some m.cls) (w : (Jvm.Cond.constantLong own idx z).before a0 Z = true) (hd : decode c.code pc = .ok (.ldc2_w idx, 3)) (hp : pc + 3 = pc') (k : own_G p.tables e below P T (mkF m pc' Ls (.long z :: st))) : own_G p.tables e below P T (mkF m pc Ls st) := by
  subst hp; exact own_go (X.ldc2Long hx hown (mvT hZ w) (g := mkF m pc Ls st) rfl hd) k
theorem own_getF (X : Stand p l e R s m args below meth c T locs cells slots) (hx : p.tables.exec = Jvm.exec) {pc pc' : Nat} {Ls : Array Slot} (hZ : Z.Warmed39 s.vm) {own R0 O n d host : String} {idx : Nat} {a : Addr} {v : Value} {rest : List Value} (hown : s.vm.findClass own = some m.cls) (w : (Cond.fieldLink own idx R0 n d).before a0 Z = true ∨ (Cond.fieldLinkNest own idx R0 n d host).before a0 Z = true) (via : Via Z R0 O n d) (eT : T.heap = h) (F : Fld Z h a O n d v) (hd : decode c.code pc = .ok (.getfield idx, 3)) (hp : pc + 3 = pc') (k : ∀ T', Stand p l e R s m args below meth c T' locs cells slots → T'.heap = h → own_G p.tables e below P T' (mkF m pc' Ls (v :: rest))) : own_G p.tables e below P T (mkF m pc Ls (.ref a :: rest)) := by
  subst hp; obtain ⟨T', X', e', st⟩ := getF X hx hZ hown w via eT F (g := mkF m pc Ls (.ref a :: rest)) rfl rfl hd; exact own_go st (k T' X' e')
theorem own_getS (X : Stand p l e R s m args below meth c T locs cells slots) (hx : p.tables.exec = Jvm.exec) {pc pc' : Nat} {Ls : Array Slot} (hZ : Z.Warmed39 s.vm) {own R0 O n d host : String} {idx : Nat} {v : Value} {st : List Value} (hown : s.vm.findClass own = some m.cls) (w : (Cond.fieldLink own idx R0 n d).before a0 Z = true ∨ (Cond.fieldLinkNest own idx R0 n d host).before a0 Z = true) (via : Via Z R0 O n d) (eT : T.heap = h) (F : Sta Z h O n d v) (hd : decode c.code pc = .ok (.getstatic idx, 3)) (hp : pc + 3 = pc') (k : ∀ T', Stand p l e R s m args below meth c T' locs cells slots → T'.heap = h → own_G p.tables e below P T' (mkF m pc' Ls (v :: st))) : own_G p.tables e below P T (mkF m pc Ls st) := by
  subst hp; obtain ⟨T', X', e', stp⟩ := getS2 X hx hZ hown w via eT F (g := mkF m pc Ls st) rfl hd; exact own_go stp (k T' X' e')
theorem own_len (X : Stand p l e R s m args below meth c T locs cells slots) (hx : p.tables.exec = Jvm.exec) {pc pc' : Nat} {Ls : Array Slot} (hZ : Z.Warmed39 s.vm) {a : Addr} {cl : Cell} {ty : FieldType} {z : Int32} {rest : List Value} (eT : T.heap = h) (A : Arr Z h a cl ty) (S : cl.slots.size = z.toNatClampNeg) (M : ¬ z < 0) (hd : decode c.code pc = .ok (.arraylength, 1)) (hp : pc + 1 = pc') (k : own_G p.tables e below P T (mkF m pc' Ls (.int z :: rest))) : own_G p.tables e below P T (mkF m pc Ls (.ref a :: rest)) := by
  subst hp; exact own_go (fun t q => X.arraylength hx (by rw [eT]; exact A.1) (State.isArrayOf_alike hZ.alike A.2.1) (g := mkF m pc Ls (.ref a :: rest)) rfl rfl hd _ (by rw [len_of S M]; exact q)) k
theorem own_iaload (X : Stand p l e R s m args below meth c T locs cells slots) (hx : p.tables.exec = Jvm.exec) {pc pc' : Nat} {Ls : Array Slot} (hZ : Z.Warmed39 s.vm) {a : Addr} {cl : Cell} {j : Int32} {v : Int32} {rest : List Value} (eT : T.heap = h) (A : Arr Z h a cl .int) (hj : ¬ (j < 0 ∨ cl.slots.size ≤ j.toNatClampNeg)) (hv : cl.slots[j.toNatClampNeg]? = some (.int v)) (hd : decode c.code pc = .ok (.iaload, 1)) (hp : pc + 1 = pc') (k : own_G p.tables e below P T (mkF m pc' Ls ((.int v) :: rest))) : own_G p.tables e below P T (mkF m pc Ls (.int j :: .ref a :: rest)) := by
  subst hp; exact own_go (X.iaload hx (j := j) (v := (.int v)) (by rw [eT]; exact A.1) (State.isArrayOf_alike hZ.alike A.2.1) A.2.2 hj hv (g := mkF m pc Ls (.int j :: .ref a :: rest)) rfl rfl hd) k
theorem own_laload (X : Stand p l e R s m args below meth c T locs cells slots) (hx : p.tables.exec = Jvm.exec) {pc pc' : Nat} {Ls : Array Slot} (hZ : Z.Warmed39 s.vm) {a : Addr} {cl : Cell} {j : Int32} {v : Int64} {rest : List Value} (eT : T.heap = h) (A : Arr Z h a cl .long) (hj : ¬ (j < 0 ∨ cl.slots.size ≤ j.toNatClampNeg)) (hv : cl.slots[j.toNatClampNeg]? = some (.long v)) (hd : decode c.code pc = .ok (.laload, 1)) (hp : pc + 1 = pc') (k : own_G p.tables e below P T (mkF m pc' Ls ((.long v) :: rest))) : own_G p.tables e below P T (mkF m pc Ls (.int j :: .ref a :: rest)) := by
  subst hp; exact own_go (X.laload hx (j := j) (v := (.long v)) (by rw [eT]; exact A.1) (State.isArrayOf_alike hZ.alike A.2.1) A.2.2 hj hv (g := mkF m pc Ls (.int j :: .ref a :: rest)) rfl rfl hd) k
theorem own_baload (X : Stand p l e R s m args below meth c T locs cells slots) (hx : p.tables.exec = Jvm.exec) {pc pc' : Nat} {Ls : Array Slot} (hZ : Z.Warmed39 s.vm) {a : Addr} {cl : Cell} {j : Int32} {v : Int32} {rest : List Value} (eT : T.heap = h) (A : Arr Z h a cl .byte) (hj : ¬ (j < 0 ∨ cl.slots.size ≤ j.toNatClampNeg)) (hv : cl.slots[j.toNatClampNeg]? = some (.int v)) (hd : decode c.code pc = .ok (.baload, 1)) (hp : pc + 1 = pc') (k : own_G p.tables e below P T (mkF m pc' Ls ((.int v) :: rest))) : own_G p.tables e below P T (mkF m pc Ls (.int j :: .ref a :: rest)) := by
  subst hp; exact own_go (X.baloadBytes hx (j := j) (v := (.int v)) (by rw [eT]; exact A.1) (State.isArrayOf_alike hZ.alike A.2.1) A.2.2 hj hv (g := mkF m pc Ls (.int j :: .ref a :: rest)) rfl rfl hd) k
theorem own_caload (X : Stand p l e R s m args below meth c T locs cells slots) (hx : p.tables.exec = Jvm.exec) {pc pc' : Nat} {Ls : Array Slot} (hZ : Z.Warmed39 s.vm) {a : Addr} {cl : Cell} {j : Int32} {v : Int32} {rest : List Value} (eT : T.heap = h) (A : Arr Z h a cl .char) (hj : ¬ (j < 0 ∨ cl.slots.size ≤ j.toNatClampNeg)) (hv : cl.slots[j.toNatClampNeg]? = some (.int v)) (hd : decode c.code pc = .ok (.caload, 1)) (hp : pc + 1 = pc') (k : own_G p.tables e below P T (mkF m pc' Ls ((.int v) :: rest))) : own_G p.tables e below P T (mkF m pc Ls (.int j :: .ref a :: rest)) := by
  subst hp; exact own_go (X.caload hx (j := j) (v := (.int v)) (by rw [eT]; exact A.1) (State.isArrayOf_alike hZ.alike A.2.1) A.2.2 hj hv (g := mkF m pc Ls (.int j :: .ref a :: rest)) rfl rfl hd) k
theorem own_aaload (X : Stand p l e R s m args below meth c T locs cells slots) (hx : p.tables.exec = Jvm.exec) {pc pc' : Nat} {Ls : Array Slot} (hZ : Z.Warmed39 s.vm) {a : Addr} {cl : Cell} {ty : FieldType} {j : Int32} {v : Value} {rest : List Value} (eT : T.heap = h) (A : Arr Z h a cl ty) (hty : ty.isReference = true) (hj : ¬ (j < 0 ∨ cl.slots.size ≤ j.toNatClampNeg)) (hv : cl.slots[j.toNatClampNeg]? = some v) (hd : decode c.code pc = .ok (.aaload, 1)) (hp : pc + 1 = pc') (k : own_G p.tables e below P T (mkF m pc' Ls (v :: rest))) : own_G p.tables e below P T (mkF m pc Ls (.int j :: .ref a :: rest)) := by
  subst hp; exact own_go (X.aaload hx (j := j) (v := v) (by rw [eT]; exact A.1) (State.isArrayOf_alike hZ.alike A.2.1) hty A.2.2 hj hv (g := mkF m pc Ls (.int j :: .ref a :: rest)) rfl rfl hd) k
theorem own_stI (X : Stand p l e R s m args below meth c T locs cells slots) (hx : p.tables.exec = Jvm.exec) {pc pc' : Nat} {Ls : Array Slot} (hZ : Z.Warmed39 s.vm) {a : Addr} {cl : Cell} {j : Int32} {x : Int32} {rest : List Value} (eT : T.heap = h) (A : Arr Z h a cl .int) (hj : ¬ (j < 0 ∨ cl.slots.size ≤ j.toNatClampNeg)) (hd : decode c.code pc = .ok (.iastore, 1)) (hp : pc + 1 = pc') (k : ∀ T' h', Stand p l e R s m args below meth c T' (locs ++ [⟨a, j.toNatClampNeg⟩]) cells slots → T'.heap = h' → Wr h h' a j.toNatClampNeg (.int x) → own_G p.tables e below P T' (mkF m pc' Ls rest)) : own_G p.tables e below P T (mkF m pc Ls (.int x :: .int j :: .ref a :: rest)) := by
  subst hp; obtain ⟨T', h', X', e', W', st⟩ := stI X hx hZ eT A (j := j) hj (g := mkF m pc Ls (.int x :: .int j :: .ref a :: rest)) rfl rfl hd; exact own_go st (k T' h' X' e' W')
theorem own_stJ (X : Stand p l e R s m args below meth c T locs cells slots) (hx : p.tables.exec = Jvm.exec) {pc pc' : Nat} {Ls : Array Slot} (hZ : Z.Warmed39 s.vm) {a : Addr} {cl : Cell} {j : Int32} {x : Int64} {rest : List Value} (eT : T.heap = h) (A : Arr Z h a cl .long) (hj : ¬ (j < 0 ∨ cl.slots.size ≤ j.toNatClampNeg)) (hd : decode c.code pc = .ok (.lastore, 1)) (hp : pc + 1 = pc') (k : ∀ T' h', Stand p l e R s m args below meth c T' (locs ++ [⟨a, j.toNatClampNeg⟩]) cells slots → T'.heap = h' → Wr h h' a j.toNatClampNeg (.long x) → own_G p.tables e below P T' (mkF m pc' Ls rest)) : own_G p.tables e below P T (mkF m pc Ls (.long x :: .int j :: .ref a :: rest)) := by
  subst hp; obtain ⟨T', h', X', e', W', st⟩ := stJ X hx hZ eT A (j := j) hj (g := mkF m pc Ls (.long x :: .int j :: .ref a :: rest)) rfl rfl hd; exact own_go st (k T' h' X' e' W')
theorem own_stB (X : Stand p l e R s m args below meth c T locs cells slots) (hx : p.tables.exec = Jvm.exec) {pc pc' : Nat} {Ls : Array Slot} (hZ : Z.Warmed39 s.vm) {a : Addr} {cl : Cell} {j : Int32} {x : Int32} {rest : List Value} (eT : T.heap = h) (A : Arr Z h a cl .byte) (hj : ¬ (j < 0 ∨ cl.slots.size ≤ j.toNatClampNeg)) (hd : decode c.code pc = .ok (.bastore, 1)) (hp : pc + 1 = pc') (k : ∀ T' h', Stand p l e R s m args below meth c T' (locs ++ [⟨a, j.toNatClampNeg⟩]) cells slots → T'.heap = h' → Wr h h' a j.toNatClampNeg (.int (nar .byte x)) → own_G p.tables e below P T' (mkF m pc' Ls rest)) : own_G p.tables e below P T (mkF m pc Ls (.int x :: .int j :: .ref a :: rest)) := by
  subst hp; obtain ⟨T', h', X', e', W', st⟩ := stB X hx hZ eT A (j := j) hj (g := mkF m pc Ls (.int x :: .int j :: .ref a :: rest)) rfl rfl hd; exact own_go st (k T' h' X' e' W')
theorem own_stC (X : Stand p l e R s m args below meth c T locs cells slots) (hx : p.tables.exec = Jvm.exec) {pc pc' : Nat} {Ls : Array Slot} (hZ : Z.Warmed39 s.vm) {a : Addr} {cl : Cell} {j : Int32} {x : Int32} {rest : List Value} (eT : T.heap = h) (A : Arr Z h a cl .char) (hj : ¬ (j < 0 ∨ cl.slots.size ≤ j.toNatClampNeg)) (hd : decode c.code pc = .ok (.castore, 1)) (hp : pc + 1 = pc') (k : ∀ T' h', Stand p l e R s m args below meth c T' (locs ++ [⟨a, j.toNatClampNeg⟩]) cells slots → T'.heap = h' → Wr h h' a j.toNatClampNeg (.int (nar .char x)) → own_G p.tables e below P T' (mkF m pc' Ls rest)) : own_G p.tables e below P T (mkF m pc Ls (.int x :: .int j :: .ref a :: rest)) := by
  subst hp; obtain ⟨T', h', X', e', W', st⟩ := stC X hx hZ eT A (j := j) hj (g := mkF m pc Ls (.int x :: .int j :: .ref a :: rest)) rfl rfl hd; exact own_go st (k T' h' X' e' W')
theorem own_stR (X : Stand p l e R s m args below meth c T locs cells slots) (hx : p.tables.exec = Jvm.exec) {pc pc' : Nat} {Ls : Array Slot} (hZ : Z.Warmed39 s.vm) {a : Addr} {cl : Cell} {j : Int32} {x : Value} {ty : FieldType} {rest : List Value} (eT : T.heap = h) (A : Arr Z h a cl ty) (hj : ¬ (j < 0 ∨ cl.slots.size ≤ j.toNatClampNeg)) (hty : ty.isReference = true) (F : Sto Z h a x) (hd : decode c.code pc = .ok (.aastore, 1)) (hp : pc + 1 = pc') (k : ∀ T' h', Stand p l e R s m args below meth c T' (locs ++ [⟨a, j.toNatClampNeg⟩]) cells slots → T'.heap = h' → Wr h h' a j.toNatClampNeg x → own_G p.tables e below P T' (mkF m pc' Ls rest)) : own_G p.tables e below P T (mkF m pc Ls (x :: .int j :: .ref a :: rest)) := by
  subst hp; obtain ⟨T', h', X', e', W', st⟩ := stR X hx hZ eT A (j := j) hj hty F (g := mkF m pc Ls (x :: .int j :: .ref a :: rest)) rfl rfl hd; exact own_go st (k T' h' X' e' W')
theorem own_putF (X : Stand p l e R s m args below meth c T locs cells slots) (hx : p.tables.exec = Jvm.exec) {pc pc' : Nat} {Ls : Array Slot} (hZ : Z.Warmed39 s.vm) {own R0 O n d host C : String} {idx kk : Nat} {ty : FieldType} {a : Addr} {v old : Value} {rest : List Value} (hown : s.vm.findClass own = some m.cls) (w : (Cond.fieldLink own idx R0 n d).before a0 Z = true ∨ (Cond.fieldLinkNest own idx R0 n d host).before a0 Z = true) (via : Via Z R0 O n d) (eT : T.heap = h) (F : Fld Z h a O n d old) (E : Exa Z h a C) (L : (Cond.lays C O n d).before a0 Z = true ∨ ((Cond.laysFinal C O n d).before a0 Z = true ∧ own = O ∧ meth.name = "<init>")) (wi : (Cond.instantiable C kk).before a0 Z = true) (hty : parseFieldDescriptor d = some ty) (hn : narrow ty v = v) (hf : fits ty v = true) (hd : decode c.code pc = .ok (.putfield idx, 3)) (hp : pc + 3 = pc') (k : ∀ T' h', Stand p l e R s m args below meth c T' (locs ++ [⟨a, Jvm.RoadKit.slotOf Z O n d⟩]) cells slots → T'.heap = h' → Wr h h' a (Jvm.RoadKit.slotOf Z O n d) v → own_G p.tables e below P T' (mkF m pc' Ls rest)) : own_G p.tables e below P T (mkF m pc Ls (v :: .ref a :: rest)) := by
  subst hp; obtain ⟨T', h', X', e', W', st⟩ := putF X hx hZ hown w via eT F E L wi hty hn hf (g := mkF m pc Ls (v :: .ref a :: rest)) rfl rfl hd; exact own_go st (k T' h' X' e' W')
theorem own_putFN (X : Stand p l e R s m args below meth c T locs cells slots) (hx : p.tables.exec = Jvm.exec) {pc pc' : Nat} {Ls : Array Slot} (hZ : Z.Warmed39 s.vm) {own R0 O n d C : String} {idx kk : Nat} {ty : FieldType} {a : Addr} {v old : Value} (v' : Value) {rest : List Value} (hown : s.vm.findClass own = some m.cls) (w : (Cond.fieldLink own idx R0 n d).before a0 Z = true) (via : Via Z R0 O n d) (eT : T.heap = h) (F : Fld Z h a O n d old) (E : Exa Z h a C) (L : (Cond.lays C O n d).before a0 Z = true ∨ ((Cond.laysFinal C O n d).before a0 Z = true ∧ own = O ∧ meth.name = "<init>")) (wi : (Cond.instantiable C kk).before a0 Z = true) (hty : parseFieldDescriptor d = some ty) (hn : narrow ty v = v') (hf : fits ty v' = true) (hd : decode c.code pc = .ok (.putfield idx, 3)) (hp : pc + 3 = pc') (k : ∀ T' h', Stand p l e R s m args below meth c T' (locs ++ [⟨a, Jvm.RoadKit.slotOf Z O n d⟩]) cells slots → T'.heap = h' → Wr h h' a (Jvm.RoadKit.slotOf Z O n d) v' → own_G p.tables e below P T' (mkF m pc' Ls rest)) : own_G p.tables e below P T (mkF m pc Ls (v :: .ref a :: rest)) := by
  subst hp; obtain ⟨T', h', X', e', W', st⟩ := putFN X hx hZ hown w via eT F E L wi hty hn hf (g := mkF m pc Ls (v :: .ref a :: rest)) rfl rfl hd; exact own_go st (k T' h' X' e' W')
theorem own_new (X : Stand p l e R s m args below meth c T locs cells slots) (hx : p.tables.exec = Jvm.exec) {pc pc' : Nat} {Ls : Array Slot} (hZ : Z.Warmed39 s.vm) {own C : String} {idx n : Nat} {st : List Value} (hown : s.vm.findClass own = some m.cls) (w : (Cond.classLink own idx C).before a0 Z = true) (wi : (Cond.instantiable C n).before a0 Z = true) (wz : (Cond.initialized C).before a0 Z = true) (eT : T.heap = h) (hd : decode c.code pc = .ok (.new idx, 3)) (hc : cells + 1 ≤ R.cells) (hl : slots + n ≤ R.slots) (hp : pc + 3 = pc') (k : ∀ T' h' b, b = h.size → Stand p l e R s m args below meth c T' locs (cells + 1) (slots + n) → T'.heap = h' → Ext h h' → Exa Z h' b C → (∀ {O nm d : String} {ty : FieldType}, Laid Z a0 C O nm d → parseFieldDescriptor d = some ty → Fld Z h' b O nm d (defaultValue ty)) → own_G p.tables e below P T' (mkF m pc' Ls (.ref b :: st))) : own_G p.tables e below P T (mkF m pc Ls st) := by
  subst hp; obtain ⟨T', h', X', e', E', A', D', -, stp⟩ := newO X hx hZ hown w wi wz eT (g := mkF m pc Ls st) rfl hd hc hl; exact own_go stp (k T' h' _ rfl X' e' E' A' D')
theorem own_newP (X : Stand p l e R s m args below meth c T locs cells slots) (hx : p.tables.exec = Jvm.exec) {pc pc' : Nat} {Ls : Array Slot} (hZ : Z.Warmed39 s.vm) {aty : ArrayType} {z : Int32} {rest : List Value} (w : (Cond.arrayClass (newarray.typeOf aty)).before a0 Z = true) (eT : T.heap = h) (hd : decode c.code pc = .ok (.newarray aty, 2)) (hn : ¬ z < 0) (cap : Nat) (hcap : z.toNatClampNeg ≤ cap) (hb : cap * 8 ≤ 536870912) (hc : cells + 1 ≤ R.cells) (hl : slots + cap ≤ R.slots) (hp : pc + 2 = pc') (k : ∀ T' h' cA b, b = h.size → Stand p l e R s m args below meth c T' locs (cells + 1) (slots + cap) → T'.heap = h' → Ext h h' → Arr Z h' b (newA cA (newarray.typeOf aty) z) (newarray.typeOf aty) → own_G p.tables e below P T' (mkF m pc' Ls (.ref b :: rest))) : own_G p.tables e below P T (mkF m pc Ls (.int z :: rest)) := by
  subst hp; obtain ⟨T', h', cA, X', e', E', A', stp⟩ := newP X hx hZ w eT (g := mkF m pc Ls (.int z :: rest)) rfl hd rfl hn hcap hb hc hl; exact own_go stp (k T' h' cA _ rfl X' e' E' A')
theorem own_newR (X : Stand p l e R s m args below meth c T locs cells slots) (hx : p.tables.exec = Jvm.exec) {pc pc' : Nat} {Ls : Array Slot} (hZ : Z.Warmed39 s.vm) {own C : String} {idx : Nat} {z : Int32} {rest : List Value} (hown : s.vm.findClass own = some m.cls) (w1 : (Cond.classLink own idx C).before a0 Z = true) (w2 : (Cond.arrayOver (.object C)).before a0 Z = true) (eT : T.heap = h) (hd : decode c.code pc = .ok (.anewarray idx, 3)) (hn : ¬ z < 0) (cap : Nat) (hcap : z.toNatClampNeg ≤ cap) (hb : cap * 8 ≤ 536870912) (hc : cells + 1 ≤ R.cells) (hl : slots + cap ≤ R.slots) (hp : pc + 3 = pc') (k : ∀ T' h' cA b, b = h.size → Stand p l e R s m args below meth c T' locs (cells + 1) (slots + cap) → T'.heap = h' → Ext h h' → Arr Z h' b (newA cA (.object C) z) (.object C) → Ovr Z cA C → own_G p.tables e below P T' (mkF m pc' Ls (.ref b :: rest))) : own_G p.tables e below P T (mkF m pc Ls (.int z :: rest)) := by
  subst hp; obtain ⟨T', h', cA, X', e', E', A', O', stp⟩ := newR X hx hZ hown w1 w2 eT (g := mkF m pc Ls (.int z :: rest)) rfl hd rfl hn hcap hb hc hl; exact own_go stp (k T' h' cA _ rfl X' e' E' A' O')
theorem own_initO (X : Stand p l e R s m args below meth c T locs cells slots) (hx : p.tables.exec = Jvm.exec) {pc pc' : Nat} {Ls : Array Slot} (hZ : Z.Warmed39 s.vm) {own : String} {idx : Nat} {a : Addr} {rest : List Value} (hown : s.vm.findClass own = some m.cls) (w1 : (Cond.methodLink own idx Lib.objectInit).before a0 Z = true) (w2 : (Cond.instanceMethod Lib.objectInit).before a0 Z = true) (w3 : (Cond.code Lib.objectInit ⟨#[0xb1]⟩ 1 none).before a0 Z = true) (eT : T.heap = h) (hsz : Ls.size = c.maxLocals) (hd : decode c.code pc = .ok (.invokespecial idx, 3)) (hf : 1 ≤ R.frames) (W : Nat) (hW : 2 * 0 + (rest.map fun v => v.category).sum ≤ W) (hl : W + 12 ≤ R.locals) (hp : pc + 3 = pc') (k : ∀ T', Stand p l e R s m args below meth c T' locs cells slots → T'.heap = h → own_G p.tables e below P T' (mkF m pc' Ls rest)) : own_G p.tables e below P T (mkF m pc Ls (.ref a :: rest)) := by
  subst hp; obtain ⟨T', X', e', st⟩ := initO X hx hZ hown w1 w2 w3 eT (g := mkF m pc Ls (.ref a :: rest)) rfl hsz rfl hd hf hW hl; exact own_go st (k T' X' e')
theorem own_callS (X : Stand p l e R s m args below meth c T locs cells slots) (hx : p.tables.exec = Jvm.exec) {pc pc' : Nat} {Ls : Array Slot} (hZ : Z.Warmed39 s.vm) {own : String} {idx : Nat} {y : MethodName} {bytes : ByteArray} {maxL : Nat} {ret : Option FieldType} {rm : Room} {as' : Array Value} {Q : Option Value → Heap → List Loc → Prop} (hown : s.vm.findClass own = some m.cls) (w1 : (Cond.methodLink own idx y).before a0 Z = true) (w2 : (Cond.static y).before a0 Z = true) (w3 : (Cond.initialized y.cls).before a0 Z = true) (w4 : (Cond.code y bytes maxL ret).before a0 Z = true) (hy : y.cls ≠ "java/lang/invoke/MethodHandle" ∧ y.cls ≠ "java/lang/invoke/VarHandle") (hM : MetFree l y (head1 [Cond.code y bytes maxL ret] rm) (fun a U => a = as' ∧ Z.Warmed39 U.vm ∧ U.heap = h) (fun _ _ _ _ _ => True) (fun _ U o U' => ∃ v L, o = .returned v ∧ Q v U'.heap L ∧ FrameEnd U o U' L rm.cells rm.slots)) (eT : T.heap = h) (W : Nat) (hf : rm.frames + 1 ≤ R.frames) (hl : W + (maxL + 11) + rm.locals ≤ R.locals) (hc : cells + rm.cells ≤ R.cells) (hsl : slots + rm.slots ≤ R.slots) {st : List Value} (argsL rest : List Value) (hsz : Ls.size = c.maxLocals) (hlen : ∀ sig, parseMethodDescriptor y.desc = some sig → argsL.length = sig.parameters.length) (has : argsL.toArray = as') (hst : st = argsL.reverse ++ rest) (hW : 2 * 0 + (rest.map fun v => v.category).sum ≤ W) (hd : decode c.code pc = .ok (.invokestatic idx, 3)) (hp : pc + 3 = pc') (k : ∀ v T' L, Stand p l e R s m args below meth c T' (locs ++ L) (cells + rm.cells) (slots + rm.slots) → Q v T'.heap L → own_G p.tables e below P T' (mkF m pc' Ls (v.toList ++ rest))) : own_G p.tables e below P T (mkF m pc Ls st) := by
  subst hp
  obtain ⟨v, vm, ⟨T', L', k', n'⟩, -, X', ⟨L, hQ, l', y', z'⟩, stp⟩ := Jvm.LawKit.callS X hx (y := y) hown (mvT hZ w1) (mvT hZ w2) (mvT hZ w3) (mvT hZ w4) hy (backOf (W := W) hM hZ w4 w3 hf hl) (g := mkF m pc Ls st) rfl hsz (argsL := argsL) (rest := rest) hlen hst hW hd (fun _ _ => ⟨has, eT, hc, hsl⟩)
  dsimp only [Pt.U, Pt.locs, Pt.cells, Pt.slots] at X' l' y' z' stp hQ
  subst l' y' z'
  exact own_go stp (k v T' L X' hQ)
theorem own_callV (X : Stand p l e R s m args below meth c T locs cells slots) (hx : p.tables.exec = Jvm.exec) {pc pc' : Nat} {Ls : Array Slot} (hZ : Z.Warmed39 s.vm) {own C : String} {idx : Nat} {y : MethodName} {bytes : ByteArray} {maxL : Nat} {ret : Option FieldType} {rm : Room} {as' : Array Value} {Q : Option Value → Heap → List Loc → Prop} (hown : s.vm.findClass own = some m.cls) (w1 : (Cond.methodLink own idx y).before a0 Z = true) (w2 : (Cond.instanceMethod y).before a0 Z = true) (w3 : (Cond.selects C y y).before a0 Z = true) (w4 : (Cond.code y bytes maxL ret).before a0 Z = true) (w5 : (Cond.initialized y.cls).before a0 Z = true) (hy : y.cls ≠ "java/lang/invoke/MethodHandle" ∧ y.cls ≠ "java/lang/invoke/VarHandle") (hM : MetFree l y (head1 [Cond.code y bytes maxL ret] rm) (fun a U => a = as' ∧ Z.Warmed39 U.vm ∧ U.heap = h) (fun _ _ _ _ _ => True) (fun _ U o U' => ∃ v L, o = .returned v ∧ Q v U'.heap L ∧ FrameEnd U o U' L rm.cells rm.slots)) (eT : T.heap = h) {b : Addr} (E : Exa Z h b C) (W : Nat) (hf : rm.frames + 1 ≤ R.frames) (hl : W + (maxL + 11) + rm.locals ≤ R.locals) (hc : cells + rm.cells ≤ R.cells) (hsl : slots + rm.slots ≤ R.slots) {st : List Value} (argsL rest : List Value) (hsz : Ls.size = c.maxLocals) (hlen : ∀ sig, parseMethodDescriptor y.desc = some sig → argsL.length = sig.parameters.length) (has : (Value.ref b :: argsL).toArray = as') (hst : st = argsL.reverse ++ .ref b :: rest) (hW : 2 * 0 + (rest.map fun v => v.category).sum ≤ W) (hd : decode c.code pc = .ok (.invokevirtual idx, 3)) (hp : pc + 3 = pc') (k : ∀ v T' L, Stand p l e R s m args below meth c T' (locs ++ L) (cells + rm.cells) (slots + rm.slots) → Q v T'.heap L → own_G p.tables e below P T' (mkF m pc' Ls (v.toList ++ rest))) : own_G p.tables e below P T (mkF m pc Ls st) := by
  subst hp
  obtain ⟨cell, kc, q1, q2, q3, q4, -⟩ := E
  obtain ⟨v, vm, ⟨T', L', k', n'⟩, -, X', ⟨L, hQ, l', y', z'⟩, stp⟩ := Jvm.LawKit.callV X hx (y := y) (C := C) hown (mvT hZ w1) (mvT hZ w2) (mvT hZ w3) (mvT hZ w4) hy (backOf (W := W) hM hZ w4 w5 hf hl) (b := b) (cellB := cell) (by rw [eT]; exact q1) q4 (by rw [hZ.alike.findClass]; exact q2) (g := mkF m pc Ls st) rfl hsz (argsL := argsL) (rest := rest) hlen hst hW hd (fun _ _ => ⟨has, eT, hc, hsl⟩)
  dsimp only [Pt.U, Pt.locs, Pt.cells, Pt.slots] at X' l' y' z' stp hQ
  subst l' y' z'
  exact own_go stp (k v T' L X' hQ)
theorem own_callI (X : Stand p l e R s m args below meth c T locs cells slots) (hx : p.tables.exec = Jvm.exec) {pc pc' : Nat} {Ls : Array Slot} (hZ : Z.Warmed39 s.vm) {own : String} {idx : Nat} {y : MethodName} {bytes : ByteArray} {maxL : Nat} {rm : Room} {as' : Array Value} {Q : Option Value → Heap → List Loc → Prop} (hy1 : y.name = "<init>") (hown : s.vm.findClass own = some m.cls) (w1 : (Cond.methodLink own idx y).before a0 Z = true) (w2 : (Cond.instanceMethod y).before a0 Z = true) (w4 : (Cond.code y bytes maxL none).before a0 Z = true) (w5 : (Cond.initialized y.cls).before a0 Z = true) (hy : y.cls ≠ "java/lang/invoke/MethodHandle" ∧ y.cls ≠ "java/lang/invoke/VarHandle") (hM : MetFree l y (head1 [Cond.code y bytes maxL none] rm) (fun a U => a = as' ∧ Z.Warmed39 U.vm ∧ U.heap = h) (fun _ _ _ _ _ => True) (fun _ U o U' => ∃ v L, o = .returned v ∧ Q v U'.heap L ∧ FrameEnd U o U' L rm.cells rm.slots)) (eT : T.heap = h) {b : Addr} (W : Nat) (hf : rm.frames + 1 ≤ R.frames) (hl : W + (maxL + 11) + rm.locals ≤ R.locals) (hc : cells + rm.cells ≤ R.cells) (hsl : slots + rm.slots ≤ R.slots) {st : List Value} (argsL rest : List Value) (hsz : Ls.size = c.maxLocals) (hlen : ∀ sig, parseMethodDescriptor y.desc = some sig → argsL.length = sig.parameters.length) (has : (Value.ref b :: argsL).toArray = as') (hst : st = argsL.reverse ++ .ref b :: rest) (hW : 2 * 0 + (rest.map fun v => v.category).sum ≤ W) (hd : decode c.code pc = .ok (.invokespecial idx, 3)) (hp : pc + 3 = pc') (k : ∀ v T' L, Stand p l e R s m args below meth c T' (locs ++ L) (cells + rm.cells) (slots + rm.slots) → Q v T'.heap L → own_G p.tables e below P T' (mkF m pc' Ls (v.toList ++ rest))) : own_G p.tables e below P T (mkF m pc Ls st) := by
  subst hp
  obtain ⟨v, vm, ⟨T', L', k', n'⟩, -, X', ⟨L, hQ, l', y', z'⟩, stp⟩ := Jvm.LawKit.callI X hx (y := y) hown hy1 (mvT hZ w1) (mvT hZ w2) (mvT hZ w4) hy (backOf (W := W) hM hZ w4 w5 hf hl) (g := mkF m pc Ls st) rfl hsz (a := b) (argsL := argsL) (rest := rest) hlen hst hW hd (fun _ _ => ⟨has, eT, hc, hsl⟩)
  dsimp only [Pt.U, Pt.locs, Pt.cells, Pt.slots] at X' l' y' z' stp hQ
  subst l' y' z'
  exact own_go stp (k v T' L X' hQ)
theorem own_dupX2 (X : Stand p l e R s m args below meth c T locs cells slots) (hx : p.tables.exec = Jvm.exec) {pc pc' : Nat} {Ls : Array Slot} {x j : Int32} {a : Addr} {rest : List Value} (hd : decode c.code pc = .ok (.dup_x2, 1)) (hp : pc + 1 = pc') (k : own_G p.tables e below P T (mkF m pc' Ls (.int x :: .int j :: .ref a :: .int x :: rest))) : own_G p.tables e below P T (mkF m pc Ls (.int x :: .int j :: .ref a :: rest)) := by
  subst hp
  refine own_go (fun t q => ?_) k
  jvm_step X.here [X.here.top, hx, hd, Value.category]
  exact q
theorem own_callP (X : Stand p l e R s m args below meth c T locs cells slots) (hx : p.tables.exec = Jvm.exec) {pc pc' : Nat} {Ls : Array Slot} (hZ : Z.Warmed39 s.vm) {own C : String} {idx nn : Nat} {y : MethodName} {bytes : ByteArray} {maxL : Nat} {ret : Option FieldType} {rm : Room} {as' : Array Value} {Q : Option Value → Heap → List Loc → Prop} (hown : s.vm.findClass own = some m.cls) (w1 : (Cond.methodLink own idx y).before a0 Z = true) (w2 : (Cond.instanceMethod y).before a0 Z = true) (w3 : (Cond.privateMethod y).before a0 Z = true) (w4 : (Cond.code y bytes maxL ret).before a0 Z = true) (w5 : (Cond.initialized y.cls).before a0 Z = true) (w6 : (Cond.instantiable y.cls nn).before a0 Z = true) (hy : y.cls ≠ "java/lang/invoke/MethodHandle" ∧ y.cls ≠ "java/lang/invoke/VarHandle") (hM : MetFree l y (head1 [Cond.code y bytes maxL ret] rm) (fun a U => a = as' ∧ Z.Warmed39 U.vm ∧ U.heap = h) (fun _ _ _ _ _ => True) (fun _ U o U' => ∃ v L, o = .returned v ∧ Q v U'.heap L ∧ FrameEnd U o U' L rm.cells rm.slots)) (eT : T.heap = h) {b : Addr} (E : Exa Z h b C) (W : Nat) (hf : rm.frames + 1 ≤ R.frames) (hl : W + (maxL + 11) + rm.locals ≤ R.locals) (hc : cells + rm.cells ≤ R.cells) (hsl : slots + rm.slots ≤ R.slots) {st : List Value} (argsL rest : List Value) (hsz : Ls.size = c.maxLocals) (hlen : ∀ sig, parseMethodDescriptor y.desc = some sig → argsL.length = sig.parameters.length) (has : (Value.ref b :: argsL).toArray = as') (hst : st = argsL.reverse ++ .ref b :: rest) (hW : 2 * 0 + (rest.map fun v => v.category).sum ≤ W) (hd : decode c.code pc = .ok (.invokevirtual idx, 3)) (hp : pc + 3 = pc') (k : ∀ v T' L, Stand p l e R s m args below meth c T' (locs ++ L) (cells + rm.cells) (slots + rm.slots) → Q v T'.heap L → own_G p.tables e below P T' (mkF m pc' Ls (v.toList ++ rest))) : own_G p.tables e below P T (mkF m pc Ls st) := by
  subst hp
  obtain ⟨cell, q1, q2⟩ := E.cell
  obtain ⟨cc, kk, i1, i2, -, i4, -⟩ := Cond.instantiable_spec (mvT hZ w6 (args := args))
  have hpv := Cond.privateMethod_at (mvP hZ w3 (args := args))
  obtain ⟨v, vm, ⟨T', L', k', n'⟩, -, X', ⟨L, hQ, l', y', z'⟩, stp⟩ := X.privateBack hx (y := y) hown (mvT hZ w1) (mvT hZ w2) (Jvm.Stand.selects_self_of_private i1 i2 (Bool.or_eq_false_iff.mp i4).1 hpv (mvT hZ w2) hy) hpv (mvT hZ w4) hy (backOf (W := W) hM hZ w4 w5 hf hl) (g := mkF m pc Ls st) rfl hsz (Steps.refl _) (a := b) (cell := cell) (by rw [eT]; exact q1) q2 (argsL := argsL) (rest := rest) hlen hst hW hd (fun _ _ => ⟨has, eT, hc, hsl⟩)
  dsimp only [Pt.U, Pt.locs, Pt.cells, Pt.slots] at X' l' y' z' stp hQ
  subst l' y' z'
  exact own_go (fun t q => stp.trans q) (k v T' L X' hQ)
theorem own_fldI {u : Term} {C n d : String} {x : Addr} {z : Int32} (ht : u.eval args s none [] s = some (.ref x)) (hq : (Jvm.Cond.eq (.field u C n d) (.int z)).value args s none s [] = some true) : Fld s s.heap x C n d (.int z) :=
  Fld.start ((fld_at ht).symm.trans (Cond.eq_int (Cond.before_iff.mpr hq) rfl))
theorem own_fldR {u t : Term} {C n d : String} {x y : Addr} (ht : u.eval args s none [] s = some (.ref x)) (hu : t.eval args s none [] s = some (.ref y)) (hq : (Jvm.Cond.eq (.field u C n d) t).value args s none s [] = some true) : Fld s s.heap x C n d (.ref y) :=
  Fld.start ((fld_at ht).symm.trans (Cond.eq_refs (Cond.before_iff.mpr hq) hu rfl))
theorem own_none {u : Term} {x : Addr} {cl : Cell} (A : Arr s s.heap x cl .int) (ht : u.eval args s none [] s = some (.ref x)) (hq : (Jvm.Cond.eq (.length u) (.int 0)).value args s none s [] = some true) : Arv s s.heap x cl.cls .int (0 : Int32) [] (.int (0 : Int32)) := by
  have e1 := Cond.eq_int (Cond.before_iff.mpr hq) (n := 0) rfl
  obtain ⟨sd, SA, hev, harrAt, -⟩ := Term.length_spec e1
  have h31 := SBG.length_lt hev harrAt e1
  cases ht.symm.trans hev
  cases (Arr.fin (Vm.Alike.refl _) A).symm.trans harrAt
  have e2 := len_f ht harrAt h31
  have e3 : cl.slots.size.toInt32 = (0 : Int32) := by simpa using Option.some.inj (e2.symm.trans e1)
  have e4 : cl.slots.size = 0 := by
    have e5 := congrArg Int32.toInt e3
    rw [len_toInt h31] at e5
    have e6 : ((0 : Int32)).toInt = 0 := by decide
    omega
  exact ⟨cl, A, rfl, e4, by decide, fun k hk => by omega, fun i hi => by omega⟩
end OwnKit
def own_max (x y : Int32) : Int32 := if x < y then y else x
def own_min (x y : Int32) : Int32 := if y < x then y else x
theorem own_t32_m1 : (-1 : Int32).toInt = -1 := by decide
theorem own_t32_0 : (0 : Int32).toInt = 0 := by decide
theorem own_t32_1 : (1 : Int32).toInt = 1 := by decide
theorem own_t32_2 : (2 : Int32).toInt = 2 := by decide
theorem own_t32_3 : (3 : Int32).toInt = 3 := by decide
theorem own_t32_4 : (4 : Int32).toInt = 4 := by decide
theorem own_t32_5 : (5 : Int32).toInt = 5 := by decide
theorem own_t32_6 : (6 : Int32).toInt = 6 := by decide
theorem own_t32_7 : (7 : Int32).toInt = 7 := by decide
theorem own_t32_8 : (8 : Int32).toInt = 8 := by decide
theorem own_t32_32 : (32 : Int32).toInt = 32 := by decide
theorem own_t32_16777215 : (16777215 : Int32).toInt = 16777215 := by decide
theorem d4_0 : decode jdk_29_method_65_code 0 = .ok (.iload_n 0, 1) := by decide +kernel
theorem d4_1 : decode jdk_29_method_65_code 1 = .ok (.iload_n 1, 1) := by decide +kernel
theorem d4_2 : decode jdk_29_method_65_code 2 = .ok (.if_icmp .lt 7, 3) := by decide +kernel
theorem d4_5 : decode jdk_29_method_65_code 5 = .ok (.iload_n 0, 1) := by decide +kernel
theorem d4_6 : decode jdk_29_method_65_code 6 = .ok (.goto 4, 3) := by decide +kernel
theorem d4_9 : decode jdk_29_method_65_code 9 = .ok (.iload_n 1, 1) := by decide +kernel
theorem d4_10 : decode jdk_29_method_65_code 10 = .ok (.ireturn, 1) := by decide +kernel
def Qmax (x y : Int32) (h0 : Heap) (n0 : Nat) (v : Option Value) (h : Heap) (L : List Loc) : Prop := v = some (.int (own_max x y)) ∧ Fr n0 L ∧ h = h0
theorem ef_rm_max (m : MethodId) (x0 : Int32) (x1 : Int32) : entryFrame m #[(.int x0), (.int x1)] 2 = mkF m 0 #[.val (.int x0), .val (.int x1)] [] := by first | (simp [entryFrame, mkF, argsToLocals, Value.category, maxLocals]; done) | rfl
theorem pf_0 : plainFor (⟨"java/lang/Math", "max", "(II)I"⟩ : MethodName) = true := by decide +kernel
set_option maxRecDepth 65536 in
set_option maxHeartbeats 40000000 in
theorem rm_max (l : Launch) (Z : State) (a0 : Array Value) (hw : ∀ d ∈ tables_1, d.before a0 Z = true) (ws : List Jvm.Cond) (q0 q1 : Int32) (h0 : Heap) (n0 : Nat) (Z0 : n0 ≤ h0.size)  :
    MetFree l (⟨"java/lang/Math", "max", "(II)I"⟩ : MethodName) (head1 (Jvm.Cond.code (⟨"java/lang/Math", "max", "(II)I"⟩ : MethodName) jdk_29_method_65_code 2 (some .int) :: ws) ({ frames := 0, cells := 0, slots := 0, locals := 0 } : Room)) (fun aa U => aa = #[(.int q0), (.int q1)] ∧ Z.Warmed39 U.vm ∧ U.heap = h0) (fun _ _ _ _ _ => True) (fun _ U o U' => ∃ v L, o = .returned v ∧ Qmax q0 q1 h0 n0 v U'.heap L ∧ FrameEnd U o U' L (({ frames := 0, cells := 0, slots := 0, locals := 0 } : Room).cells) (({ frames := 0, cells := 0, slots := 0, locals := 0 } : Room).slots)) := by
  refine own_body pf_0 ?_
  intro p e s m below meth c s₁ hx hby hml hown hnm hlk hret hZ X0 e0
  have N0 : Fr n0 [] := Fr.nil n0
  refine own_go (f' := (mkF m 0 #[.val (.int q0), .val (.int q1)] [])) (fun t k => castTop (ef_rm_max m q0 q1) k) ?_
  refine own_iloadN X0 hx (pc' := 1) (hb hby d4_0) rfl rfl ?_
  refine own_iloadN X0 hx (pc' := 2) (hb hby d4_1) rfl rfl ?_
  by_cases hc2_1 : q0 < q1
  · skip
    refine own_icmpYes X0 hx (pc' := 9) (hb hby d4_2) (tlt hc2_1).1 (by decide) (by decide) ?_
    refine own_iloadN X0 hx (pc' := 10) (hb hby d4_9) rfl rfl ?_
    refine own_retI X0 hx hlk hret (hb hby d4_10) (by decide) (by decide) ?_
    exact ⟨by simp [own_max, hc2_1], N0, e0⟩
  · skip
    refine own_icmpNo X0 hx (pc' := 5) (hb hby d4_2) (flt hc2_1).1 rfl ?_
    refine own_iloadN X0 hx (pc' := 6) (hb hby d4_5) rfl rfl ?_
    refine own_goto X0 hx (pc' := 10) (hb hby d4_6) (by decide) (by decide) ?_
    refine own_retI X0 hx hlk hret (hb hby d4_10) (by decide) (by decide) ?_
    exact ⟨by simp [own_max, hc2_1], N0, e0⟩

theorem d5_0 : decode jdk_29_method_69_code 0 = .ok (.iload_n 0, 1) := by decide +kernel
theorem d5_1 : decode jdk_29_method_69_code 1 = .ok (.iload_n 1, 1) := by decide +kernel
theorem d5_2 : decode jdk_29_method_69_code 2 = .ok (.if_icmp .gt 7, 3) := by decide +kernel
theorem d5_5 : decode jdk_29_method_69_code 5 = .ok (.iload_n 0, 1) := by decide +kernel
theorem d5_6 : decode jdk_29_method_69_code 6 = .ok (.goto 4, 3) := by decide +kernel
theorem d5_9 : decode jdk_29_method_69_code 9 = .ok (.iload_n 1, 1) := by decide +kernel
theorem d5_10 : decode jdk_29_method_69_code 10 = .ok (.ireturn, 1) := by decide +kernel
def Qmin (x y : Int32) (h0 : Heap) (n0 : Nat) (v : Option Value) (h : Heap) (L : List Loc) : Prop := v = some (.int (own_min x y)) ∧ Fr n0 L ∧ h = h0
theorem ef_rm_min (m : MethodId) (x0 : Int32) (x1 : Int32) : entryFrame m #[(.int x0), (.int x1)] 2 = mkF m 0 #[.val (.int x0), .val (.int x1)] [] := by first | (simp [entryFrame, mkF, argsToLocals, Value.category, maxLocals]; done) | rfl
theorem pf_1 : plainFor (⟨"java/lang/Math", "min", "(II)I"⟩ : MethodName) = true := by decide +kernel
set_option maxRecDepth 65536 in
set_option maxHeartbeats 40000000 in
theorem rm_min (l : Launch) (Z : State) (a0 : Array Value) (hw : ∀ d ∈ tables_1, d.before a0 Z = true) (ws : List Jvm.Cond) (q0 q1 : Int32) (h0 : Heap) (n0 : Nat) (Z0 : n0 ≤ h0.size)  :
    MetFree l (⟨"java/lang/Math", "min", "(II)I"⟩ : MethodName) (head1 (Jvm.Cond.code (⟨"java/lang/Math", "min", "(II)I"⟩ : MethodName) jdk_29_method_69_code 2 (some .int) :: ws) ({ frames := 0, cells := 0, slots := 0, locals := 0 } : Room)) (fun aa U => aa = #[(.int q0), (.int q1)] ∧ Z.Warmed39 U.vm ∧ U.heap = h0) (fun _ _ _ _ _ => True) (fun _ U o U' => ∃ v L, o = .returned v ∧ Qmin q0 q1 h0 n0 v U'.heap L ∧ FrameEnd U o U' L (({ frames := 0, cells := 0, slots := 0, locals := 0 } : Room).cells) (({ frames := 0, cells := 0, slots := 0, locals := 0 } : Room).slots)) := by
  refine own_body pf_1 ?_
  intro p e s m below meth c s₁ hx hby hml hown hnm hlk hret hZ X0 e0
  have N0 : Fr n0 [] := Fr.nil n0
  refine own_go (f' := (mkF m 0 #[.val (.int q0), .val (.int q1)] [])) (fun t k => castTop (ef_rm_min m q0 q1) k) ?_
  refine own_iloadN X0 hx (pc' := 1) (hb hby d5_0) rfl rfl ?_
  refine own_iloadN X0 hx (pc' := 2) (hb hby d5_1) rfl rfl ?_
  by_cases hc2_1 : q1 < q0
  · skip
    refine own_icmpYes X0 hx (pc' := 9) (hb hby d5_2) (tlt hc2_1).2.2.1 (by decide) (by decide) ?_
    refine own_iloadN X0 hx (pc' := 10) (hb hby d5_9) rfl rfl ?_
    refine own_retI X0 hx hlk hret (hb hby d5_10) (by decide) (by decide) ?_
    exact ⟨by simp [own_min, hc2_1], N0, e0⟩
  · skip
    refine own_icmpNo X0 hx (pc' := 5) (hb hby d5_2) (flt hc2_1).2.2.1 rfl ?_
    refine own_iloadN X0 hx (pc' := 6) (hb hby d5_5) rfl rfl ?_
    refine own_goto X0 hx (pc' := 10) (hb hby d5_6) (by decide) (by decide) ?_
    refine own_retI X0 hx hlk hret (hb hby d5_10) (by decide) (by decide) ?_
    exact ⟨by simp [own_min, hc2_1], N0, e0⟩

theorem d1_0 : decode prog_127_method_1_code 0 = .ok (.aload_n 0, 1) := by decide +kernel
theorem d1_1 : decode prog_127_method_1_code 1 = .ok (.invokespecial 1, 3) := by decide +kernel
theorem d1_4 : decode prog_127_method_1_code 4 = .ok (.aload_n 0, 1) := by decide +kernel
theorem d1_5 : decode prog_127_method_1_code 5 = .ok (.getstatic 7, 3) := by decide +kernel
theorem d1_8 : decode prog_127_method_1_code 8 = .ok (.putfield 13, 3) := by decide +kernel
theorem d1_11 : decode prog_127_method_1_code 11 = .ok (.aload_n 0, 1) := by decide +kernel
theorem d1_12 : decode prog_127_method_1_code 12 = .ok (.getstatic 7, 3) := by decide +kernel
theorem d1_15 : decode prog_127_method_1_code 15 = .ok (.putfield 16, 3) := by decide +kernel
theorem d1_18 : decode prog_127_method_1_code 18 = .ok (.aload_n 0, 1) := by decide +kernel
theorem d1_19 : decode prog_127_method_1_code 19 = .ok (.getstatic 7, 3) := by decide +kernel
theorem d1_22 : decode prog_127_method_1_code 22 = .ok (.putfield 19, 3) := by decide +kernel
theorem d1_25 : decode prog_127_method_1_code 25 = .ok (.aload_n 0, 1) := by decide +kernel
theorem d1_26 : decode prog_127_method_1_code 26 = .ok (.getstatic 7, 3) := by decide +kernel
theorem d1_29 : decode prog_127_method_1_code 29 = .ok (.putfield 22, 3) := by decide +kernel
theorem d1_32 : decode prog_127_method_1_code 32 = .ok (.aload_n 0, 1) := by decide +kernel
theorem d1_33 : decode prog_127_method_1_code 33 = .ok (.getstatic 7, 3) := by decide +kernel
theorem d1_36 : decode prog_127_method_1_code 36 = .ok (.putfield 25, 3) := by decide +kernel
theorem d1_39 : decode prog_127_method_1_code 39 = .ok (.aload_n 0, 1) := by decide +kernel
theorem d1_40 : decode prog_127_method_1_code 40 = .ok (.getstatic 7, 3) := by decide +kernel
theorem d1_43 : decode prog_127_method_1_code 43 = .ok (.putfield 28, 3) := by decide +kernel
theorem d1_46 : decode prog_127_method_1_code 46 = .ok (.aload_n 0, 1) := by decide +kernel
theorem d1_47 : decode prog_127_method_1_code 47 = .ok (.iload_n 1, 1) := by decide +kernel
theorem d1_48 : decode prog_127_method_1_code 48 = .ok (.putfield 31, 3) := by decide +kernel
theorem d1_51 : decode prog_127_method_1_code 51 = .ok (.return_, 1) := by decide +kernel
def Qinit (Z : State) (a nn : Addr) (q : Int32) (h0 : Heap) (n0 : Nat) (v : Option Value) (h : Heap) (L : List Loc) : Prop := v = none ∧ Fr n0 L ∧ Keep h0 h [a] ∧ Fld Z h a "com/example/rootcast/rootcast/tree/Children" "peers" "[I" (.ref nn) ∧ Fld Z h a "com/example/rootcast/rootcast/tree/Children" "subtree" "[I" (.ref nn) ∧ Fld Z h a "com/example/rootcast/rootcast/tree/Children" "sent" "[I" (.ref nn) ∧ Fld Z h a "com/example/rootcast/rootcast/tree/Children" "stopped" "[I" (.ref nn) ∧ Fld Z h a "com/example/rootcast/rootcast/tree/Children" "toCome" "[I" (.ref nn) ∧ Fld Z h a "com/example/rootcast/rootcast/tree/Children" "beatsLeft" "[I" (.ref nn) ∧ Fld Z h a "com/example/rootcast/rootcast/tree/Children" "degree" "I" (.int q) ∧ Fld Z h a "com/example/rootcast/rootcast/tree/Children" "count" "I" (.int (0 : Int32)) ∧ Fld Z h a "com/example/rootcast/rootcast/tree/Children" "awaited" "I" (.int (0 : Int32))
theorem ef_rm_init (m : MethodId) (x0 : Addr) (x1 : Int32) : entryFrame m #[(.ref x0), (.int x1)] 2 = mkF m 0 #[.val (.ref x0), .val (.int x1)] [] := by first | (simp [entryFrame, mkF, argsToLocals, Value.category, maxLocals]; done) | rfl
theorem pf_2 : plainFor (⟨"com/example/rootcast/rootcast/tree/Children", "<init>", "(I)V"⟩ : MethodName) = true := by apply plainFor_of_name; first | (simp [plainName, overriddenIn]; done) | decide +kernel
theorem Wd8 {a0 : Array Value} {Z : State} (hw : ∀ d ∈ tables_1, d.before a0 Z = true) : (Jvm.Cond.methodLink "com/example/rootcast/rootcast/tree/Children" (1 : Nat) ({ cls := "java/lang/Object", name := "<init>", desc := "()V" } : Jvm.MethodName)).before a0 Z = true := hw _ (List.mem_of_getElem? (i := 8) rfl)
theorem Wd9 {a0 : Array Value} {Z : State} (hw : ∀ d ∈ tables_1, d.before a0 Z = true) : (Jvm.Cond.instanceMethod ({ cls := "java/lang/Object", name := "<init>", desc := "()V" } : Jvm.MethodName)).before a0 Z = true := hw _ (List.mem_of_getElem? (i := 9) rfl)
theorem Wd10 {a0 : Array Value} {Z : State} (hw : ∀ d ∈ tables_1, d.before a0 Z = true) : (Jvm.Cond.code ({ cls := "java/lang/Object", name := "<init>", desc := "()V" } : Jvm.MethodName) object_method_1_code (1 : Nat) (Option.none : Option Jvm.ClassFile.FieldType)).before a0 Z = true := hw _ (List.mem_of_getElem? (i := 10) rfl)
theorem Wd11 {a0 : Array Value} {Z : State} (hw : ∀ d ∈ tables_1, d.before a0 Z = true) : (Jvm.Cond.fieldLink "com/example/rootcast/rootcast/tree/Children" (7 : Nat) "com/example/rootcast/rootcast/tree/Children" "NONE" "[I").before a0 Z = true := hw _ (List.mem_of_getElem? (i := 11) rfl)
theorem Wd13 {a0 : Array Value} {Z : State} (hw : ∀ d ∈ tables_1, d.before a0 Z = true) : (Jvm.Cond.fieldLink "com/example/rootcast/rootcast/tree/Children" (13 : Nat) "com/example/rootcast/rootcast/tree/Children" "peers" "[I").before a0 Z = true := hw _ (List.mem_of_getElem? (i := 13) rfl)
theorem Wd14 {a0 : Array Value} {Z : State} (hw : ∀ d ∈ tables_1, d.before a0 Z = true) : (Jvm.Cond.lays "com/example/rootcast/rootcast/tree/Children" "com/example/rootcast/rootcast/tree/Children" "peers" "[I").before a0 Z = true := hw _ (List.mem_of_getElem? (i := 14) rfl)
theorem Wd3 {a0 : Array Value} {Z : State} (hw : ∀ d ∈ tables_1, d.before a0 Z = true) : (Jvm.Cond.instantiable "com/example/rootcast/rootcast/tree/Children" (9 : Nat)).before a0 Z = true := hw _ (List.mem_of_getElem? (i := 3) rfl)
theorem Wd16 {a0 : Array Value} {Z : State} (hw : ∀ d ∈ tables_1, d.before a0 Z = true) : (Jvm.Cond.lays "com/example/rootcast/rootcast/tree/Children" "com/example/rootcast/rootcast/tree/Children" "subtree" "[I").before a0 Z = true := hw _ (List.mem_of_getElem? (i := 16) rfl)
theorem Wd18 {a0 : Array Value} {Z : State} (hw : ∀ d ∈ tables_1, d.before a0 Z = true) : (Jvm.Cond.lays "com/example/rootcast/rootcast/tree/Children" "com/example/rootcast/rootcast/tree/Children" "sent" "[I").before a0 Z = true := hw _ (List.mem_of_getElem? (i := 18) rfl)
theorem Wd20 {a0 : Array Value} {Z : State} (hw : ∀ d ∈ tables_1, d.before a0 Z = true) : (Jvm.Cond.lays "com/example/rootcast/rootcast/tree/Children" "com/example/rootcast/rootcast/tree/Children" "stopped" "[I").before a0 Z = true := hw _ (List.mem_of_getElem? (i := 20) rfl)
theorem Wd22 {a0 : Array Value} {Z : State} (hw : ∀ d ∈ tables_1, d.before a0 Z = true) : (Jvm.Cond.lays "com/example/rootcast/rootcast/tree/Children" "com/example/rootcast/rootcast/tree/Children" "toCome" "[I").before a0 Z = true := hw _ (List.mem_of_getElem? (i := 22) rfl)
theorem Wd24 {a0 : Array Value} {Z : State} (hw : ∀ d ∈ tables_1, d.before a0 Z = true) : (Jvm.Cond.lays "com/example/rootcast/rootcast/tree/Children" "com/example/rootcast/rootcast/tree/Children" "beatsLeft" "[I").before a0 Z = true := hw _ (List.mem_of_getElem? (i := 24) rfl)
theorem Wd26 {a0 : Array Value} {Z : State} (hw : ∀ d ∈ tables_1, d.before a0 Z = true) : (Jvm.Cond.laysFinal "com/example/rootcast/rootcast/tree/Children" "com/example/rootcast/rootcast/tree/Children" "degree" "I").before a0 Z = true := hw _ (List.mem_of_getElem? (i := 26) rfl)
theorem Wd33 {a0 : Array Value} {Z : State} (hw : ∀ d ∈ tables_1, d.before a0 Z = true) : (Jvm.Cond.lays "com/example/rootcast/rootcast/tree/Children" "com/example/rootcast/rootcast/tree/Children" "count" "I").before a0 Z = true := hw _ (List.mem_of_getElem? (i := 33) rfl)
theorem Wd56 {a0 : Array Value} {Z : State} (hw : ∀ d ∈ tables_1, d.before a0 Z = true) : (Jvm.Cond.lays "com/example/rootcast/rootcast/tree/Children" "com/example/rootcast/rootcast/tree/Children" "awaited" "I").before a0 Z = true := hw _ (List.mem_of_getElem? (i := 56) rfl)
theorem Wd15 {a0 : Array Value} {Z : State} (hw : ∀ d ∈ tables_1, d.before a0 Z = true) : (Jvm.Cond.fieldLink "com/example/rootcast/rootcast/tree/Children" (16 : Nat) "com/example/rootcast/rootcast/tree/Children" "subtree" "[I").before a0 Z = true := hw _ (List.mem_of_getElem? (i := 15) rfl)
theorem Wd17 {a0 : Array Value} {Z : State} (hw : ∀ d ∈ tables_1, d.before a0 Z = true) : (Jvm.Cond.fieldLink "com/example/rootcast/rootcast/tree/Children" (19 : Nat) "com/example/rootcast/rootcast/tree/Children" "sent" "[I").before a0 Z = true := hw _ (List.mem_of_getElem? (i := 17) rfl)
theorem Wd19 {a0 : Array Value} {Z : State} (hw : ∀ d ∈ tables_1, d.before a0 Z = true) : (Jvm.Cond.fieldLink "com/example/rootcast/rootcast/tree/Children" (22 : Nat) "com/example/rootcast/rootcast/tree/Children" "stopped" "[I").before a0 Z = true := hw _ (List.mem_of_getElem? (i := 19) rfl)
theorem Wd21 {a0 : Array Value} {Z : State} (hw : ∀ d ∈ tables_1, d.before a0 Z = true) : (Jvm.Cond.fieldLink "com/example/rootcast/rootcast/tree/Children" (25 : Nat) "com/example/rootcast/rootcast/tree/Children" "toCome" "[I").before a0 Z = true := hw _ (List.mem_of_getElem? (i := 21) rfl)
theorem Wd23 {a0 : Array Value} {Z : State} (hw : ∀ d ∈ tables_1, d.before a0 Z = true) : (Jvm.Cond.fieldLink "com/example/rootcast/rootcast/tree/Children" (28 : Nat) "com/example/rootcast/rootcast/tree/Children" "beatsLeft" "[I").before a0 Z = true := hw _ (List.mem_of_getElem? (i := 23) rfl)
theorem Wd25 {a0 : Array Value} {Z : State} (hw : ∀ d ∈ tables_1, d.before a0 Z = true) : (Jvm.Cond.fieldLink "com/example/rootcast/rootcast/tree/Children" (31 : Nat) "com/example/rootcast/rootcast/tree/Children" "degree" "I").before a0 Z = true := hw _ (List.mem_of_getElem? (i := 25) rfl)
set_option maxRecDepth 65536 in
set_option maxHeartbeats 40000000 in
theorem rm_init (l : Launch) (Z : State) (a0 : Array Value) (hw : ∀ d ∈ tables_1, d.before a0 Z = true) (ws : List Jvm.Cond) (a nn : Addr) (q : Int32) (h0 : Heap) (n0 : Nat) (Z0 : n0 ≤ h0.size) (g_a : n0 ≤ a) (E_a : Exa Z h0 a "com/example/rootcast/rootcast/tree/Children") (S_n : Sta Z h0 "com/example/rootcast/rootcast/tree/Children" "NONE" "[I" (.ref nn)) (F_peers : Fld Z h0 a "com/example/rootcast/rootcast/tree/Children" "peers" "[I" .null) (F_subtree : Fld Z h0 a "com/example/rootcast/rootcast/tree/Children" "subtree" "[I" .null) (F_sent : Fld Z h0 a "com/example/rootcast/rootcast/tree/Children" "sent" "[I" .null) (F_stopped : Fld Z h0 a "com/example/rootcast/rootcast/tree/Children" "stopped" "[I" .null) (F_toCome : Fld Z h0 a "com/example/rootcast/rootcast/tree/Children" "toCome" "[I" .null) (F_beatsLeft : Fld Z h0 a "com/example/rootcast/rootcast/tree/Children" "beatsLeft" "[I" .null) (F_degree : Fld Z h0 a "com/example/rootcast/rootcast/tree/Children" "degree" "I" (.int (0 : Int32))) (F_count : Fld Z h0 a "com/example/rootcast/rootcast/tree/Children" "count" "I" (.int (0 : Int32))) (F_awaited : Fld Z h0 a "com/example/rootcast/rootcast/tree/Children" "awaited" "I" (.int (0 : Int32))) :
    MetFree l (⟨"com/example/rootcast/rootcast/tree/Children", "<init>", "(I)V"⟩ : MethodName) (head1 (Jvm.Cond.code (⟨"com/example/rootcast/rootcast/tree/Children", "<init>", "(I)V"⟩ : MethodName) prog_127_method_1_code 2 none :: ws) ({ frames := 1, cells := 0, slots := 0, locals := 12 } : Room)) (fun aa U => aa = #[(.ref a), (.int q)] ∧ Z.Warmed39 U.vm ∧ U.heap = h0) (fun _ _ _ _ _ => True) (fun _ U o U' => ∃ v L, o = .returned v ∧ Qinit Z a nn q h0 n0 v U'.heap L ∧ FrameEnd U o U' L (({ frames := 1, cells := 0, slots := 0, locals := 12 } : Room).cells) (({ frames := 1, cells := 0, slots := 0, locals := 12 } : Room).slots)) := by
  refine own_body pf_2 ?_
  intro p e s m below meth c s₁ hx hby hml hown hnm hlk hret hZ X0 e0
  have N0 : Fr n0 [] := Fr.nil n0
  refine own_go (f' := (mkF m 0 #[.val (.ref a), .val (.int q)] [])) (fun t k => castTop (ef_rm_init m a q) k) ?_
  have K1 : Keep h0 h0 [a] := Keep.refl _ _
  refine own_aloadN X0 hx (pc' := 1) (hb hby d1_0) rfl rfl rfl ?_
  refine own_initO X0 hx (pc' := 4) hZ hown (Wd8 hw) (Wd9 hw) (Wd10 hw) e0 (by rw [hml]; rfl) (hb hby d1_1) (by decide) 0 (Nat.le_of_eq rfl) (by decide) rfl (fun T2 X2 e2 => ?_)
  refine own_aloadN X2 hx (pc' := 5) (hb hby d1_4) rfl rfl rfl ?_
  refine own_getS X2 hx (pc' := 8) hZ hown (host := "") (Or.inl (Wd11 hw)) Via.refl e2 S_n (hb hby d1_5) rfl (fun T3 X3 e3 => ?_)
  refine own_putF X3 hx (pc' := 11) hZ (ty := (.array .int)) hown (host := "") (Or.inl (Wd13 hw)) Via.refl e3 F_peers E_a (Or.inl (Wd14 hw)) (Wd3 hw) (by decide) rfl rfl (hb hby d1_8) rfl (fun T4 h4 X4 e4 W4 => ?_)
  have N5 := Fr.snoc X4 N0 g_a
  have Z6 : n0 ≤ h4.size := Nat.le_trans Z0 (Nat.le_of_eq (Wr.size W4).symm)
  have K7 : Keep h0 h4 [a] := K1.wr W4 (Or.inl (List.mem_of_getElem? (i := 0) rfl))
  have F8 := (Exa.wr W4 E_a)
  have F9 := (Sta.wr W4 S_n)
  have F10 := (Fld.same W4 F_peers)
  have F11 := (Fld.other W4 F_subtree (Or.inr (slot_ne (Or.inl (Wd16 hw)) (Or.inl (Wd14 hw)) (by decide) (t := (.array .int)) (t' := (.array .int)) (by decide) (by decide))))
  have F12 := (Fld.other W4 F_sent (Or.inr (slot_ne (Or.inl (Wd18 hw)) (Or.inl (Wd14 hw)) (by decide) (t := (.array .int)) (t' := (.array .int)) (by decide) (by decide))))
  have F13 := (Fld.other W4 F_stopped (Or.inr (slot_ne (Or.inl (Wd20 hw)) (Or.inl (Wd14 hw)) (by decide) (t := (.array .int)) (t' := (.array .int)) (by decide) (by decide))))
  have F14 := (Fld.other W4 F_toCome (Or.inr (slot_ne (Or.inl (Wd22 hw)) (Or.inl (Wd14 hw)) (by decide) (t := (.array .int)) (t' := (.array .int)) (by decide) (by decide))))
  have F15 := (Fld.other W4 F_beatsLeft (Or.inr (slot_ne (Or.inl (Wd24 hw)) (Or.inl (Wd14 hw)) (by decide) (t := (.array .int)) (t' := (.array .int)) (by decide) (by decide))))
  have F16 := (Fld.other W4 F_degree (Or.inr (slot_ne (Or.inr (Wd26 hw)) (Or.inl (Wd14 hw)) (by decide) (t := .int) (t' := (.array .int)) (by decide) (by decide))))
  have F17 := (Fld.other W4 F_count (Or.inr (slot_ne (Or.inl (Wd33 hw)) (Or.inl (Wd14 hw)) (by decide) (t := .int) (t' := (.array .int)) (by decide) (by decide))))
  have F18 := (Fld.other W4 F_awaited (Or.inr (slot_ne (Or.inl (Wd56 hw)) (Or.inl (Wd14 hw)) (by decide) (t := .int) (t' := (.array .int)) (by decide) (by decide))))
  refine own_aloadN X4 hx (pc' := 12) (hb hby d1_11) rfl rfl rfl ?_
  refine own_getS X4 hx (pc' := 15) hZ hown (host := "") (Or.inl (Wd11 hw)) Via.refl e4 F9 (hb hby d1_12) rfl (fun T19 X19 e19 => ?_)
  refine own_putF X19 hx (pc' := 18) hZ (ty := (.array .int)) hown (host := "") (Or.inl (Wd15 hw)) Via.refl e19 F11 F8 (Or.inl (Wd16 hw)) (Wd3 hw) (by decide) rfl rfl (hb hby d1_15) rfl (fun T20 h20 X20 e20 W20 => ?_)
  have N21 := Fr.snoc X20 N5 g_a
  have Z22 : n0 ≤ h20.size := Nat.le_trans Z6 (Nat.le_of_eq (Wr.size W20).symm)
  have K23 : Keep h0 h20 [a] := K7.wr W20 (Or.inl (List.mem_of_getElem? (i := 0) rfl))
  have F24 := (Exa.wr W20 F8)
  have F25 := (Sta.wr W20 F9)
  have F26 := (Fld.other W20 F10 (Or.inr (slot_ne (Or.inl (Wd14 hw)) (Or.inl (Wd16 hw)) (by decide) (t := (.array .int)) (t' := (.array .int)) (by decide) (by decide))))
  have F27 := (Fld.same W20 F11)
  have F28 := (Fld.other W20 F12 (Or.inr (slot_ne (Or.inl (Wd18 hw)) (Or.inl (Wd16 hw)) (by decide) (t := (.array .int)) (t' := (.array .int)) (by decide) (by decide))))
  have F29 := (Fld.other W20 F13 (Or.inr (slot_ne (Or.inl (Wd20 hw)) (Or.inl (Wd16 hw)) (by decide) (t := (.array .int)) (t' := (.array .int)) (by decide) (by decide))))
  have F30 := (Fld.other W20 F14 (Or.inr (slot_ne (Or.inl (Wd22 hw)) (Or.inl (Wd16 hw)) (by decide) (t := (.array .int)) (t' := (.array .int)) (by decide) (by decide))))
  have F31 := (Fld.other W20 F15 (Or.inr (slot_ne (Or.inl (Wd24 hw)) (Or.inl (Wd16 hw)) (by decide) (t := (.array .int)) (t' := (.array .int)) (by decide) (by decide))))
  have F32 := (Fld.other W20 F16 (Or.inr (slot_ne (Or.inr (Wd26 hw)) (Or.inl (Wd16 hw)) (by decide) (t := .int) (t' := (.array .int)) (by decide) (by decide))))
  have F33 := (Fld.other W20 F17 (Or.inr (slot_ne (Or.inl (Wd33 hw)) (Or.inl (Wd16 hw)) (by decide) (t := .int) (t' := (.array .int)) (by decide) (by decide))))
  have F34 := (Fld.other W20 F18 (Or.inr (slot_ne (Or.inl (Wd56 hw)) (Or.inl (Wd16 hw)) (by decide) (t := .int) (t' := (.array .int)) (by decide) (by decide))))
  refine own_aloadN X20 hx (pc' := 19) (hb hby d1_18) rfl rfl rfl ?_
  refine own_getS X20 hx (pc' := 22) hZ hown (host := "") (Or.inl (Wd11 hw)) Via.refl e20 F25 (hb hby d1_19) rfl (fun T35 X35 e35 => ?_)
  refine own_putF X35 hx (pc' := 25) hZ (ty := (.array .int)) hown (host := "") (Or.inl (Wd17 hw)) Via.refl e35 F28 F24 (Or.inl (Wd18 hw)) (Wd3 hw) (by decide) rfl rfl (hb hby d1_22) rfl (fun T36 h36 X36 e36 W36 => ?_)
  have N37 := Fr.snoc X36 N21 g_a
  have Z38 : n0 ≤ h36.size := Nat.le_trans Z22 (Nat.le_of_eq (Wr.size W36).symm)
  have K39 : Keep h0 h36 [a] := K23.wr W36 (Or.inl (List.mem_of_getElem? (i := 0) rfl))
  have F40 := (Exa.wr W36 F24)
  have F41 := (Sta.wr W36 F25)
  have F42 := (Fld.other W36 F26 (Or.inr (slot_ne (Or.inl (Wd14 hw)) (Or.inl (Wd18 hw)) (by decide) (t := (.array .int)) (t' := (.array .int)) (by decide) (by decide))))
  have F43 := (Fld.other W36 F27 (Or.inr (slot_ne (Or.inl (Wd16 hw)) (Or.inl (Wd18 hw)) (by decide) (t := (.array .int)) (t' := (.array .int)) (by decide) (by decide))))
  have F44 := (Fld.same W36 F28)
  have F45 := (Fld.other W36 F29 (Or.inr (slot_ne (Or.inl (Wd20 hw)) (Or.inl (Wd18 hw)) (by decide) (t := (.array .int)) (t' := (.array .int)) (by decide) (by decide))))
  have F46 := (Fld.other W36 F30 (Or.inr (slot_ne (Or.inl (Wd22 hw)) (Or.inl (Wd18 hw)) (by decide) (t := (.array .int)) (t' := (.array .int)) (by decide) (by decide))))
  have F47 := (Fld.other W36 F31 (Or.inr (slot_ne (Or.inl (Wd24 hw)) (Or.inl (Wd18 hw)) (by decide) (t := (.array .int)) (t' := (.array .int)) (by decide) (by decide))))
  have F48 := (Fld.other W36 F32 (Or.inr (slot_ne (Or.inr (Wd26 hw)) (Or.inl (Wd18 hw)) (by decide) (t := .int) (t' := (.array .int)) (by decide) (by decide))))
  have F49 := (Fld.other W36 F33 (Or.inr (slot_ne (Or.inl (Wd33 hw)) (Or.inl (Wd18 hw)) (by decide) (t := .int) (t' := (.array .int)) (by decide) (by decide))))
  have F50 := (Fld.other W36 F34 (Or.inr (slot_ne (Or.inl (Wd56 hw)) (Or.inl (Wd18 hw)) (by decide) (t := .int) (t' := (.array .int)) (by decide) (by decide))))
  refine own_aloadN X36 hx (pc' := 26) (hb hby d1_25) rfl rfl rfl ?_
  refine own_getS X36 hx (pc' := 29) hZ hown (host := "") (Or.inl (Wd11 hw)) Via.refl e36 F41 (hb hby d1_26) rfl (fun T51 X51 e51 => ?_)
  refine own_putF X51 hx (pc' := 32) hZ (ty := (.array .int)) hown (host := "") (Or.inl (Wd19 hw)) Via.refl e51 F45 F40 (Or.inl (Wd20 hw)) (Wd3 hw) (by decide) rfl rfl (hb hby d1_29) rfl (fun T52 h52 X52 e52 W52 => ?_)
  have N53 := Fr.snoc X52 N37 g_a
  have Z54 : n0 ≤ h52.size := Nat.le_trans Z38 (Nat.le_of_eq (Wr.size W52).symm)
  have K55 : Keep h0 h52 [a] := K39.wr W52 (Or.inl (List.mem_of_getElem? (i := 0) rfl))
  have F56 := (Exa.wr W52 F40)
  have F57 := (Sta.wr W52 F41)
  have F58 := (Fld.other W52 F42 (Or.inr (slot_ne (Or.inl (Wd14 hw)) (Or.inl (Wd20 hw)) (by decide) (t := (.array .int)) (t' := (.array .int)) (by decide) (by decide))))
  have F59 := (Fld.other W52 F43 (Or.inr (slot_ne (Or.inl (Wd16 hw)) (Or.inl (Wd20 hw)) (by decide) (t := (.array .int)) (t' := (.array .int)) (by decide) (by decide))))
  have F60 := (Fld.other W52 F44 (Or.inr (slot_ne (Or.inl (Wd18 hw)) (Or.inl (Wd20 hw)) (by decide) (t := (.array .int)) (t' := (.array .int)) (by decide) (by decide))))
  have F61 := (Fld.same W52 F45)
  have F62 := (Fld.other W52 F46 (Or.inr (slot_ne (Or.inl (Wd22 hw)) (Or.inl (Wd20 hw)) (by decide) (t := (.array .int)) (t' := (.array .int)) (by decide) (by decide))))
  have F63 := (Fld.other W52 F47 (Or.inr (slot_ne (Or.inl (Wd24 hw)) (Or.inl (Wd20 hw)) (by decide) (t := (.array .int)) (t' := (.array .int)) (by decide) (by decide))))
  have F64 := (Fld.other W52 F48 (Or.inr (slot_ne (Or.inr (Wd26 hw)) (Or.inl (Wd20 hw)) (by decide) (t := .int) (t' := (.array .int)) (by decide) (by decide))))
  have F65 := (Fld.other W52 F49 (Or.inr (slot_ne (Or.inl (Wd33 hw)) (Or.inl (Wd20 hw)) (by decide) (t := .int) (t' := (.array .int)) (by decide) (by decide))))
  have F66 := (Fld.other W52 F50 (Or.inr (slot_ne (Or.inl (Wd56 hw)) (Or.inl (Wd20 hw)) (by decide) (t := .int) (t' := (.array .int)) (by decide) (by decide))))
  refine own_aloadN X52 hx (pc' := 33) (hb hby d1_32) rfl rfl rfl ?_
  refine own_getS X52 hx (pc' := 36) hZ hown (host := "") (Or.inl (Wd11 hw)) Via.refl e52 F57 (hb hby d1_33) rfl (fun T67 X67 e67 => ?_)
  refine own_putF X67 hx (pc' := 39) hZ (ty := (.array .int)) hown (host := "") (Or.inl (Wd21 hw)) Via.refl e67 F62 F56 (Or.inl (Wd22 hw)) (Wd3 hw) (by decide) rfl rfl (hb hby d1_36) rfl (fun T68 h68 X68 e68 W68 => ?_)
  have N69 := Fr.snoc X68 N53 g_a
  have Z70 : n0 ≤ h68.size := Nat.le_trans Z54 (Nat.le_of_eq (Wr.size W68).symm)
  have K71 : Keep h0 h68 [a] := K55.wr W68 (Or.inl (List.mem_of_getElem? (i := 0) rfl))
  have F72 := (Exa.wr W68 F56)
  have F73 := (Sta.wr W68 F57)
  have F74 := (Fld.other W68 F58 (Or.inr (slot_ne (Or.inl (Wd14 hw)) (Or.inl (Wd22 hw)) (by decide) (t := (.array .int)) (t' := (.array .int)) (by decide) (by decide))))
  have F75 := (Fld.other W68 F59 (Or.inr (slot_ne (Or.inl (Wd16 hw)) (Or.inl (Wd22 hw)) (by decide) (t := (.array .int)) (t' := (.array .int)) (by decide) (by decide))))
  have F76 := (Fld.other W68 F60 (Or.inr (slot_ne (Or.inl (Wd18 hw)) (Or.inl (Wd22 hw)) (by decide) (t := (.array .int)) (t' := (.array .int)) (by decide) (by decide))))
  have F77 := (Fld.other W68 F61 (Or.inr (slot_ne (Or.inl (Wd20 hw)) (Or.inl (Wd22 hw)) (by decide) (t := (.array .int)) (t' := (.array .int)) (by decide) (by decide))))
  have F78 := (Fld.same W68 F62)
  have F79 := (Fld.other W68 F63 (Or.inr (slot_ne (Or.inl (Wd24 hw)) (Or.inl (Wd22 hw)) (by decide) (t := (.array .int)) (t' := (.array .int)) (by decide) (by decide))))
  have F80 := (Fld.other W68 F64 (Or.inr (slot_ne (Or.inr (Wd26 hw)) (Or.inl (Wd22 hw)) (by decide) (t := .int) (t' := (.array .int)) (by decide) (by decide))))
  have F81 := (Fld.other W68 F65 (Or.inr (slot_ne (Or.inl (Wd33 hw)) (Or.inl (Wd22 hw)) (by decide) (t := .int) (t' := (.array .int)) (by decide) (by decide))))
  have F82 := (Fld.other W68 F66 (Or.inr (slot_ne (Or.inl (Wd56 hw)) (Or.inl (Wd22 hw)) (by decide) (t := .int) (t' := (.array .int)) (by decide) (by decide))))
  refine own_aloadN X68 hx (pc' := 40) (hb hby d1_39) rfl rfl rfl ?_
  refine own_getS X68 hx (pc' := 43) hZ hown (host := "") (Or.inl (Wd11 hw)) Via.refl e68 F73 (hb hby d1_40) rfl (fun T83 X83 e83 => ?_)
  refine own_putF X83 hx (pc' := 46) hZ (ty := (.array .int)) hown (host := "") (Or.inl (Wd23 hw)) Via.refl e83 F79 F72 (Or.inl (Wd24 hw)) (Wd3 hw) (by decide) rfl rfl (hb hby d1_43) rfl (fun T84 h84 X84 e84 W84 => ?_)
  have N85 := Fr.snoc X84 N69 g_a
  have Z86 : n0 ≤ h84.size := Nat.le_trans Z70 (Nat.le_of_eq (Wr.size W84).symm)
  have K87 : Keep h0 h84 [a] := K71.wr W84 (Or.inl (List.mem_of_getElem? (i := 0) rfl))
  have F88 := (Exa.wr W84 F72)
  have F89 := (Sta.wr W84 F73)
  have F90 := (Fld.other W84 F74 (Or.inr (slot_ne (Or.inl (Wd14 hw)) (Or.inl (Wd24 hw)) (by decide) (t := (.array .int)) (t' := (.array .int)) (by decide) (by decide))))
  have F91 := (Fld.other W84 F75 (Or.inr (slot_ne (Or.inl (Wd16 hw)) (Or.inl (Wd24 hw)) (by decide) (t := (.array .int)) (t' := (.array .int)) (by decide) (by decide))))
  have F92 := (Fld.other W84 F76 (Or.inr (slot_ne (Or.inl (Wd18 hw)) (Or.inl (Wd24 hw)) (by decide) (t := (.array .int)) (t' := (.array .int)) (by decide) (by decide))))
  have F93 := (Fld.other W84 F77 (Or.inr (slot_ne (Or.inl (Wd20 hw)) (Or.inl (Wd24 hw)) (by decide) (t := (.array .int)) (t' := (.array .int)) (by decide) (by decide))))
  have F94 := (Fld.other W84 F78 (Or.inr (slot_ne (Or.inl (Wd22 hw)) (Or.inl (Wd24 hw)) (by decide) (t := (.array .int)) (t' := (.array .int)) (by decide) (by decide))))
  have F95 := (Fld.same W84 F79)
  have F96 := (Fld.other W84 F80 (Or.inr (slot_ne (Or.inr (Wd26 hw)) (Or.inl (Wd24 hw)) (by decide) (t := .int) (t' := (.array .int)) (by decide) (by decide))))
  have F97 := (Fld.other W84 F81 (Or.inr (slot_ne (Or.inl (Wd33 hw)) (Or.inl (Wd24 hw)) (by decide) (t := .int) (t' := (.array .int)) (by decide) (by decide))))
  have F98 := (Fld.other W84 F82 (Or.inr (slot_ne (Or.inl (Wd56 hw)) (Or.inl (Wd24 hw)) (by decide) (t := .int) (t' := (.array .int)) (by decide) (by decide))))
  refine own_aloadN X84 hx (pc' := 47) (hb hby d1_46) rfl rfl rfl ?_
  refine own_iloadN X84 hx (pc' := 48) (hb hby d1_47) rfl rfl ?_
  refine own_putF X84 hx (pc' := 51) hZ (ty := .int) hown (host := "") (Or.inl (Wd25 hw)) Via.refl e84 F96 F88 (Or.inr ⟨(Wd26 hw), rfl, hnm⟩) (Wd3 hw) (by decide) rfl rfl (hb hby d1_48) rfl (fun T99 h99 X99 e99 W99 => ?_)
  have N100 := Fr.snoc X99 N85 g_a
  have Z101 : n0 ≤ h99.size := Nat.le_trans Z86 (Nat.le_of_eq (Wr.size W99).symm)
  have K102 : Keep h0 h99 [a] := K87.wr W99 (Or.inl (List.mem_of_getElem? (i := 0) rfl))
  have F103 := (Exa.wr W99 F88)
  have F104 := (Sta.wr W99 F89)
  have F105 := (Fld.other W99 F90 (Or.inr (slot_ne (Or.inl (Wd14 hw)) (Or.inr (Wd26 hw)) (by decide) (t := (.array .int)) (t' := .int) (by decide) (by decide))))
  have F106 := (Fld.other W99 F91 (Or.inr (slot_ne (Or.inl (Wd16 hw)) (Or.inr (Wd26 hw)) (by decide) (t := (.array .int)) (t' := .int) (by decide) (by decide))))
  have F107 := (Fld.other W99 F92 (Or.inr (slot_ne (Or.inl (Wd18 hw)) (Or.inr (Wd26 hw)) (by decide) (t := (.array .int)) (t' := .int) (by decide) (by decide))))
  have F108 := (Fld.other W99 F93 (Or.inr (slot_ne (Or.inl (Wd20 hw)) (Or.inr (Wd26 hw)) (by decide) (t := (.array .int)) (t' := .int) (by decide) (by decide))))
  have F109 := (Fld.other W99 F94 (Or.inr (slot_ne (Or.inl (Wd22 hw)) (Or.inr (Wd26 hw)) (by decide) (t := (.array .int)) (t' := .int) (by decide) (by decide))))
  have F110 := (Fld.other W99 F95 (Or.inr (slot_ne (Or.inl (Wd24 hw)) (Or.inr (Wd26 hw)) (by decide) (t := (.array .int)) (t' := .int) (by decide) (by decide))))
  have F111 := (Fld.same W99 F96)
  have F112 := (Fld.other W99 F97 (Or.inr (slot_ne (Or.inl (Wd33 hw)) (Or.inr (Wd26 hw)) (by decide) (t := .int) (t' := .int) (by decide) (by decide))))
  have F113 := (Fld.other W99 F98 (Or.inr (slot_ne (Or.inl (Wd56 hw)) (Or.inr (Wd26 hw)) (by decide) (t := .int) (t' := .int) (by decide) (by decide))))
  refine own_retV X99 hx hlk hret (hb hby d1_51) (by decide) (by decide) ?_
  rw [e99]
  exact ⟨rfl, N100, K102, F105, F106, F107, F108, F109, F110, F111, F112, F113⟩

theorem d6_0 : decode jdk_65_method_123_code 0 = .ok (.iload_n 1, 1) := by decide +kernel
theorem d6_1 : decode jdk_65_method_123_code 1 = .ok (.aload_n 0, 1) := by decide +kernel
theorem d6_2 : decode jdk_65_method_123_code 2 = .ok (.arraylength, 1) := by decide +kernel
theorem d6_3 : decode jdk_65_method_123_code 3 = .ok (.if_icmp .ne 11, 3) := by decide +kernel
theorem d6_6 : decode jdk_65_method_123_code 6 = .ok (.aload_n 0, 1) := by decide +kernel
theorem d6_7 : decode jdk_65_method_123_code 7 = .ok (.invokevirtual 316, 3) := by decide +kernel
theorem d6_10 : decode jdk_65_method_123_code 10 = .ok (.checkcast 317, 3) := by decide +kernel
theorem d6_13 : decode jdk_65_method_123_code 13 = .ok (.areturn, 1) := by decide +kernel
theorem d6_14 : decode jdk_65_method_123_code 14 = .ok (.iload_n 1, 1) := by decide +kernel
theorem d6_15 : decode jdk_65_method_123_code 15 = .ok (.newarray .int, 2) := by decide +kernel
theorem d6_17 : decode jdk_65_method_123_code 17 = .ok (.astore_n 2, 1) := by decide +kernel
theorem d6_18 : decode jdk_65_method_123_code 18 = .ok (.aload_n 0, 1) := by decide +kernel
theorem d6_19 : decode jdk_65_method_123_code 19 = .ok (.iconst 0, 1) := by decide +kernel
theorem d6_20 : decode jdk_65_method_123_code 20 = .ok (.aload_n 2, 1) := by decide +kernel
theorem d6_21 : decode jdk_65_method_123_code 21 = .ok (.iconst 0, 1) := by decide +kernel
theorem d6_22 : decode jdk_65_method_123_code 22 = .ok (.aload_n 0, 1) := by decide +kernel
theorem d6_23 : decode jdk_65_method_123_code 23 = .ok (.arraylength, 1) := by decide +kernel
theorem d6_24 : decode jdk_65_method_123_code 24 = .ok (.iload_n 1, 1) := by decide +kernel
theorem d6_25 : decode jdk_65_method_123_code 25 = .ok (.invokestatic 304, 3) := by decide +kernel
theorem d6_28 : decode jdk_65_method_123_code 28 = .ok (.invokestatic 150, 3) := by decide +kernel
theorem d6_31 : decode jdk_65_method_123_code 31 = .ok (.aload_n 2, 1) := by decide +kernel
theorem d6_32 : decode jdk_65_method_123_code 32 = .ok (.areturn, 1) := by decide +kernel
def Qcopy (Z : State) (z : Int32) (h0 : Heap) (n0 : Nat) (v : Option Value) (h : Heap) (L : List Loc) : Prop := ∃ (b : Addr) (k : ClassId), v = some (.ref b) ∧ h0.size ≤ b ∧ Fr n0 L ∧ Keep h0 h [] ∧ Arv Z h b k .int z [(.int (0 : Int32)), (.int (0 : Int32)), (.int (0 : Int32))] (.int (0 : Int32))
theorem ef_rm_copy (m : MethodId) (x0 : Addr) (x1 : Int32) : entryFrame m #[(.ref x0), (.int x1)] 3 = mkF m 0 #[.val (.ref x0), .val (.int x1), .unset] [] := by first | (simp [entryFrame, mkF, argsToLocals, Value.category, maxLocals]; done) | rfl
theorem pf_3 : plainFor (⟨"java/util/Arrays", "copyOf", "([II)[I"⟩ : MethodName) = true := by apply plainFor_of_name; first | (simp [plainName, overriddenIn]; done) | decide +kernel
theorem Wd0 {a0 : Array Value} {Z : State} (hw : ∀ d ∈ tables_1, d.before a0 Z = true) : (Jvm.Cond.arrayClass Jvm.ClassFile.FieldType.int).before a0 Z = true := hw _ (List.mem_of_getElem? (i := 0) rfl)
theorem Wd40 {a0 : Array Value} {Z : State} (hw : ∀ d ∈ tables_1, d.before a0 Z = true) : (Jvm.Cond.code ({ cls := "java/lang/Math", name := "min", desc := "(II)I" } : Jvm.MethodName) jdk_29_method_69_code (2 : Nat) (Option.some Jvm.ClassFile.FieldType.int)).before a0 Z = true := hw _ (List.mem_of_getElem? (i := 40) rfl)
theorem Wd36 {a0 : Array Value} {Z : State} (hw : ∀ d ∈ tables_1, d.before a0 Z = true) : (Jvm.Cond.initialized "java/lang/Math").before a0 Z = true := hw _ (List.mem_of_getElem? (i := 36) rfl)
theorem pd_0 : parseMethodDescriptor "(II)I" = some ⟨[.int, .int], some .int⟩ := by decide +kernel
theorem Wd45 {a0 : Array Value} {Z : State} (hw : ∀ d ∈ tables_1, d.before a0 Z = true) : (Jvm.Cond.methodLink "java/util/Arrays" (304 : Nat) ({ cls := "java/lang/Math", name := "min", desc := "(II)I" } : Jvm.MethodName)).before a0 Z = true := hw _ (List.mem_of_getElem? (i := 45) rfl)
theorem Wd39 {a0 : Array Value} {Z : State} (hw : ∀ d ∈ tables_1, d.before a0 Z = true) : (Jvm.Cond.static ({ cls := "java/lang/Math", name := "min", desc := "(II)I" } : Jvm.MethodName)).before a0 Z = true := hw _ (List.mem_of_getElem? (i := 39) rfl)
theorem Wd46 {a0 : Array Value} {Z : State} (hw : ∀ d ∈ tables_1, d.before a0 Z = true) : (Jvm.Cond.methodLink "java/util/Arrays" (150 : Nat) ({ cls := "java/lang/System", name := "arraycopy", desc := "(Ljava/lang/Object;ILjava/lang/Object;II)V" } : Jvm.MethodName)).before a0 Z = true := hw _ (List.mem_of_getElem? (i := 46) rfl)
theorem Wd49 {a0 : Array Value} {Z : State} (hw : ∀ d ∈ tables_1, d.before a0 Z = true) : (Jvm.Cond.native ({ cls := "java/lang/System", name := "arraycopy", desc := "(Ljava/lang/Object;ILjava/lang/Object;II)V" } : Jvm.MethodName)).before a0 Z = true := hw _ (List.mem_of_getElem? (i := 49) rfl)
theorem Wd47 {a0 : Array Value} {Z : State} (hw : ∀ d ∈ tables_1, d.before a0 Z = true) : (Jvm.Cond.static ({ cls := "java/lang/System", name := "arraycopy", desc := "(Ljava/lang/Object;ILjava/lang/Object;II)V" } : Jvm.MethodName)).before a0 Z = true := hw _ (List.mem_of_getElem? (i := 47) rfl)
theorem Wd48 {a0 : Array Value} {Z : State} (hw : ∀ d ∈ tables_1, d.before a0 Z = true) : (Jvm.Cond.initialized "java/lang/System").before a0 Z = true := hw _ (List.mem_of_getElem? (i := 48) rfl)
set_option maxRecDepth 65536 in
set_option maxHeartbeats 40000000 in
theorem rm_copy (l : Launch) (Z : State) (a0 : Array Value) (hw : ∀ d ∈ tables_1, d.before a0 Z = true) (ws : List Jvm.Cond) (nn : Addr) (kn : ClassId) (z : Int32) (h0 : Heap) (n0 : Nat) (Z0 : n0 ≤ h0.size) (hz : z.toInt = 3 ∨ z.toInt = 4) (V_n : Arv Z h0 nn kn .int (0 : Int32) [] (.int (0 : Int32))) :
    MetFree l (⟨"java/util/Arrays", "copyOf", "([II)[I"⟩ : MethodName) (head1 (Jvm.Cond.code (⟨"java/util/Arrays", "copyOf", "([II)[I"⟩ : MethodName) jdk_65_method_123_code 3 (some (.array .int)) :: ws) ({ frames := 1, cells := 1, slots := 4, locals := 30 } : Room)) (fun aa U => aa = #[(.ref nn), (.int z)] ∧ Z.Warmed39 U.vm ∧ U.heap = h0) (fun _ _ _ _ _ => True) (fun _ U o U' => ∃ v L, o = .returned v ∧ Qcopy Z z h0 n0 v U'.heap L ∧ FrameEnd U o U' L (({ frames := 1, cells := 1, slots := 4, locals := 30 } : Room).cells) (({ frames := 1, cells := 1, slots := 4, locals := 30 } : Room).slots)) := by
  refine own_body pf_3 ?_
  intro p e s m below meth c s₁ hx hby hml hown hnm hlk hret hZ X0 e0
  have N0 : Fr n0 [] := Fr.nil n0
  refine own_go (f' := (mkF m 0 #[.val (.ref nn), .val (.int z), .unset] [])) (fun t k => castTop (ef_rm_copy m nn z) k) ?_
  have K1 : Keep h0 h0 [] := Keep.refl _ _
  refine own_iloadN X0 hx (pc' := 1) (hb hby d6_0) rfl rfl ?_
  refine own_aloadN X0 hx (pc' := 2) (hb hby d6_1) rfl rfl rfl ?_
  obtain ⟨cl2, Ar2, q2, S2, M2, H2, G2⟩ := id V_n
  refine own_len X0 hx (pc' := 3) hZ e0 Ar2 S2 M2 (hb hby d6_2) rfl ?_
  have hne : ¬ (z = (0 : Int32)) := by rw [← Int32.toInt_inj, own_t32_0]; omega
  refine own_icmpYes X0 hx (pc' := 14) (hb hby d6_3) (feq hne).2 (by decide) (by decide) ?_
  refine own_iloadN X0 hx (pc' := 15) (hb hby d6_14) rfl rfl ?_
  have hzn : ¬ z < 0 := by rw [Int32.lt_iff_toInt_lt]; show ¬ z.toInt < 0; omega
  have hcap : z.toNatClampNeg ≤ 4 := by have := nat_of hzn; omega
  have hcap3 : 3 ≤ z.toNatClampNeg := by have := nat_of hzn; omega
  refine own_newP X0 hx (pc' := 17) hZ (aty := .int) (Wd0 hw) e0 (hb hby d6_15) hzn 4 hcap (by decide) (by decide) (by decide) rfl (fun T3 h3 kc3 nb3 g3 X3 e3 E3 A3 => ?_)
  have ne_nn_nb3_4 : nn ≠ nb3 := Nat.ne_of_lt (Nat.lt_of_lt_of_le V_n.lt (Nat.le_of_eq g3.symm))
  have ge_nb3 : n0 ≤ nb3 := Nat.le_trans Z0 (Nat.le_of_eq g3.symm)
  have gk_nb3 : h0.size ≤ nb3 := Nat.le_trans K1.1 (Nat.le_of_eq g3.symm)
  have Z5 : n0 ≤ h3.size := Nat.le_trans Z0 E3.1
  have K6 : Keep h0 h3 [] := K1.ext E3
  have F7 := (V_n.ext E3)
  have V8 : Arv Z h3 nb3 kc3 .int z [] (.int (0 : Int32)) := Arv.new A3 hzn
  have V9 : Arv Z h3 nb3 kc3 .int z [(.int (0 : Int32)), (.int (0 : Int32)), (.int (0 : Int32))] (.int (0 : Int32)) := V8.pad (pad_rep [] (.int (0 : Int32)) 3)
  refine own_astoreN X3 hx (pc' := 18) (Ls' := #[.val (.ref nn), .val (.int z), .val (.ref nb3)]) (hb hby d6_17) rfl rfl rfl ?_
  refine own_aloadN X3 hx (pc' := 19) (hb hby d6_18) rfl rfl rfl ?_
  refine own_iconst X3 hx (pc' := 20) (0 : Int32) (hb hby d6_19) rfl rfl ?_
  refine own_aloadN X3 hx (pc' := 21) (hb hby d6_20) rfl rfl rfl ?_
  refine own_iconst X3 hx (pc' := 22) (0 : Int32) (hb hby d6_21) rfl rfl ?_
  refine own_aloadN X3 hx (pc' := 23) (hb hby d6_22) rfl rfl rfl ?_
  obtain ⟨cl10, Ar10, q10, S10, M10, H10, G10⟩ := id F7
  refine own_len X3 hx (pc' := 24) hZ e3 Ar10 S10 M10 (hb hby d6_23) rfl ?_
  refine own_iloadN X3 hx (pc' := 25) (hb hby d6_24) rfl rfl ?_
  refine own_callS X3 hx (pc' := 28) hZ hown (Wd45 hw) (Wd39 hw) (Wd36 hw) (Wd40 hw) (by decide) (rm_min l Z a0 hw [] (0 : Int32) z h3 n0 Z5) e3 4 (by decide) (by decide) (by decide) (by decide) [(.int (0 : Int32)), (.int z)] [(.int (0 : Int32)), (.ref nb3), (.int (0 : Int32)), (.ref nn)] (by rw [hml]; rfl) (lenOf pd_0 rfl) rfl rfl (Nat.le_of_eq rfl) (hb hby d6_25) rfl (fun v11 T11 L11 X11 hQ11 => ?_)
  obtain ⟨rfl, Nq11, e11⟩ := hQ11
  have N12 := Fr.app N0 Nq11
  show own_G p.tables e below _ T11 (mkF m 28 #[.val (.ref nn), .val (.int z), .val (.ref nb3)] [(.int (own_min (0 : Int32) z)), (.int (0 : Int32)), (.ref nb3), (.int (0 : Int32)), (.ref nn)])
  rw [show own_min (0 : Int32) z = (0 : Int32) from by unfold own_min; rw [if_neg]; rw [Int32.lt_iff_toInt_lt, own_t32_0]; omega]
  obtain ⟨T13, h13, L13, X13, e13, N13, K13, V13, st13⟩ := cpA X11 hx hZ hown (Wd46 hw) (Wd49 hw) (Wd47 hw) (Wd48 hw) e11 F7 V9 (Or.inl ⟨rfl, rfl⟩) (by decide) (by decide) (by decide) (by decide) (Nat.le_trans (by decide : ((0 : Int32) : Int32).toNatClampNeg + ((0 : Int32) : Int32).toNatClampNeg ≤ 0) (Nat.le_trans (by decide) hcap3)) (us := []) rfl (Nat.le_of_ble_eq_true rfl) N12 ge_nb3 (g := (mkF m 28 #[.val (.ref nn), .val (.int z), .val (.ref nb3)] [(.int (0 : Int32)), (.int (0 : Int32)), (.ref nb3), (.int (0 : Int32)), (.ref nn)])) rfl (by rw [hml]; rfl) rfl (hb hby d6_28) (by decide) (W := 0) (by show 2 * 0 + _ ≤ _; exact Nat.le_of_eq rfl) (by decide)
  have Z14 : n0 ≤ h13.size := Nat.le_trans Z5 K13.1
  have K15 : Keep h0 h13 [] := Keep.trans K6 K13 (allS (Or.inr gk_nb3) all0)
  have F16 := (F7.keep K13 (ninS ne_nn_nb3_4 nin0))
  have V17 : Arv Z h13 nb3 kc3 .int z [(.int (0 : Int32)), (.int (0 : Int32)), (.int (0 : Int32))] (.int (0 : Int32)) := V13
  refine own_go (f' := (mkF m 31 #[.val (.ref nn), .val (.int z), .val (.ref nb3)] [])) st13 ?_
  refine own_aloadN X13 hx (pc' := 32) (hb hby d6_31) rfl rfl rfl ?_
  refine own_retA X13 hx hlk hret rfl rfl rfl (hb hby d6_32) (by decide) (by decide) ?_
  rw [e13]
  exact ⟨nb3, _, rfl, gk_nb3, N13, K15, V17⟩

theorem d3_0 : decode prog_127_method_7_code 0 = .ok (.aload_n 0, 1) := by decide +kernel
theorem d3_1 : decode prog_127_method_7_code 1 = .ok (.getfield 35, 3) := by decide +kernel
theorem d3_4 : decode prog_127_method_7_code 4 = .ok (.aload_n 0, 1) := by decide +kernel
theorem d3_5 : decode prog_127_method_7_code 5 = .ok (.getfield 13, 3) := by decide +kernel
theorem d3_8 : decode prog_127_method_7_code 8 = .ok (.arraylength, 1) := by decide +kernel
theorem d3_9 : decode prog_127_method_7_code 9 = .ok (.if_icmp .ne 57, 3) := by decide +kernel
theorem d3_12 : decode prog_127_method_7_code 12 = .ok (.aload_n 0, 1) := by decide +kernel
theorem d3_13 : decode prog_127_method_7_code 13 = .ok (.getfield 31, 3) := by decide +kernel
theorem d3_16 : decode prog_127_method_7_code 16 = .ok (.iconst 4, 1) := by decide +kernel
theorem d3_17 : decode prog_127_method_7_code 17 = .ok (.iconst 2, 1) := by decide +kernel
theorem d3_18 : decode prog_127_method_7_code 18 = .ok (.aload_n 0, 1) := by decide +kernel
theorem d3_19 : decode prog_127_method_7_code 19 = .ok (.getfield 35, 3) := by decide +kernel
theorem d3_22 : decode prog_127_method_7_code 22 = .ok (.imul, 1) := by decide +kernel
theorem d3_23 : decode prog_127_method_7_code 23 = .ok (.invokestatic 38, 3) := by decide +kernel
theorem d3_26 : decode prog_127_method_7_code 26 = .ok (.invokestatic 44, 3) := by decide +kernel
theorem d3_29 : decode prog_127_method_7_code 29 = .ok (.istore_n 3, 1) := by decide +kernel
theorem d3_30 : decode prog_127_method_7_code 30 = .ok (.aload_n 0, 1) := by decide +kernel
theorem d3_31 : decode prog_127_method_7_code 31 = .ok (.aload_n 0, 1) := by decide +kernel
theorem d3_32 : decode prog_127_method_7_code 32 = .ok (.getfield 13, 3) := by decide +kernel
theorem d3_35 : decode prog_127_method_7_code 35 = .ok (.iload_n 3, 1) := by decide +kernel
theorem d3_36 : decode prog_127_method_7_code 36 = .ok (.invokestatic 47, 3) := by decide +kernel
theorem d3_39 : decode prog_127_method_7_code 39 = .ok (.putfield 13, 3) := by decide +kernel
theorem d3_42 : decode prog_127_method_7_code 42 = .ok (.aload_n 0, 1) := by decide +kernel
theorem d3_43 : decode prog_127_method_7_code 43 = .ok (.aload_n 0, 1) := by decide +kernel
theorem d3_44 : decode prog_127_method_7_code 44 = .ok (.getfield 16, 3) := by decide +kernel
theorem d3_47 : decode prog_127_method_7_code 47 = .ok (.iload_n 3, 1) := by decide +kernel
theorem d3_48 : decode prog_127_method_7_code 48 = .ok (.invokestatic 47, 3) := by decide +kernel
theorem d3_51 : decode prog_127_method_7_code 51 = .ok (.putfield 16, 3) := by decide +kernel
theorem d3_54 : decode prog_127_method_7_code 54 = .ok (.aload_n 0, 1) := by decide +kernel
theorem d3_55 : decode prog_127_method_7_code 55 = .ok (.aload_n 0, 1) := by decide +kernel
theorem d3_56 : decode prog_127_method_7_code 56 = .ok (.getfield 19, 3) := by decide +kernel
theorem d3_59 : decode prog_127_method_7_code 59 = .ok (.iload_n 3, 1) := by decide +kernel
theorem d3_60 : decode prog_127_method_7_code 60 = .ok (.invokestatic 47, 3) := by decide +kernel
theorem d3_63 : decode prog_127_method_7_code 63 = .ok (.putfield 19, 3) := by decide +kernel
theorem d3_66 : decode prog_127_method_7_code 66 = .ok (.aload_n 0, 1) := by decide +kernel
theorem d3_67 : decode prog_127_method_7_code 67 = .ok (.getfield 13, 3) := by decide +kernel
theorem d3_70 : decode prog_127_method_7_code 70 = .ok (.aload_n 0, 1) := by decide +kernel
theorem d3_71 : decode prog_127_method_7_code 71 = .ok (.getfield 35, 3) := by decide +kernel
theorem d3_74 : decode prog_127_method_7_code 74 = .ok (.iload_n 1, 1) := by decide +kernel
theorem d3_75 : decode prog_127_method_7_code 75 = .ok (.iastore, 1) := by decide +kernel
theorem d3_76 : decode prog_127_method_7_code 76 = .ok (.aload_n 0, 1) := by decide +kernel
theorem d3_77 : decode prog_127_method_7_code 77 = .ok (.getfield 16, 3) := by decide +kernel
theorem d3_80 : decode prog_127_method_7_code 80 = .ok (.aload_n 0, 1) := by decide +kernel
theorem d3_81 : decode prog_127_method_7_code 81 = .ok (.getfield 35, 3) := by decide +kernel
theorem d3_84 : decode prog_127_method_7_code 84 = .ok (.iload_n 2, 1) := by decide +kernel
theorem d3_85 : decode prog_127_method_7_code 85 = .ok (.iastore, 1) := by decide +kernel
theorem d3_86 : decode prog_127_method_7_code 86 = .ok (.aload_n 0, 1) := by decide +kernel
theorem d3_87 : decode prog_127_method_7_code 87 = .ok (.getfield 19, 3) := by decide +kernel
theorem d3_90 : decode prog_127_method_7_code 90 = .ok (.aload_n 0, 1) := by decide +kernel
theorem d3_91 : decode prog_127_method_7_code 91 = .ok (.getfield 35, 3) := by decide +kernel
theorem d3_94 : decode prog_127_method_7_code 94 = .ok (.iconst 0, 1) := by decide +kernel
theorem d3_95 : decode prog_127_method_7_code 95 = .ok (.iastore, 1) := by decide +kernel
theorem d3_96 : decode prog_127_method_7_code 96 = .ok (.aload_n 0, 1) := by decide +kernel
theorem d3_97 : decode prog_127_method_7_code 97 = .ok (.dup, 1) := by decide +kernel
theorem d3_98 : decode prog_127_method_7_code 98 = .ok (.getfield 35, 3) := by decide +kernel
theorem d3_101 : decode prog_127_method_7_code 101 = .ok (.iconst 1, 1) := by decide +kernel
theorem d3_102 : decode prog_127_method_7_code 102 = .ok (.iadd, 1) := by decide +kernel
theorem d3_103 : decode prog_127_method_7_code 103 = .ok (.putfield 35, 3) := by decide +kernel
theorem d3_106 : decode prog_127_method_7_code 106 = .ok (.return_, 1) := by decide +kernel
def Qadd0 (Z : State) (a : Addr) (d q s : Int32) (c1 c2 c3 : Addr) (aw : Int32) (h0 : Heap) (n0 : Nat) (v : Option Value) (h : Heap) (L : List Loc) : Prop := v = none ∧ Fr n0 L ∧ Keep h0 h [a] ∧ ∃ (z : Int32) (b1 b2 b3 : Addr) (k1 k2 k3 : ClassId), (z.toInt = 3 ∨ z.toInt = 4) ∧ h0.size ≤ b1 ∧ h0.size ≤ b2 ∧ h0.size ≤ b3 ∧ b1 ≠ b2 ∧ b1 ≠ b3 ∧ b2 ≠ b3 ∧ Fld Z h a "com/example/rootcast/rootcast/tree/Children" "count" "I" (.int (1 : Int32)) ∧ Fld Z h a "com/example/rootcast/rootcast/tree/Children" "peers" "[I" (.ref b1) ∧ Fld Z h a "com/example/rootcast/rootcast/tree/Children" "subtree" "[I" (.ref b2) ∧ Fld Z h a "com/example/rootcast/rootcast/tree/Children" "sent" "[I" (.ref b3) ∧ Arv Z h b1 k1 .int z [(.int q), (.int (0 : Int32)), (.int (0 : Int32))] (.int (0 : Int32)) ∧ Arv Z h b2 k2 .int z [(.int s), (.int (0 : Int32)), (.int (0 : Int32))] (.int (0 : Int32)) ∧ Arv Z h b3 k3 .int z [(.int (0 : Int32)), (.int (0 : Int32)), (.int (0 : Int32))] (.int (0 : Int32)) ∧ Fld Z h a "com/example/rootcast/rootcast/tree/Children" "awaited" "I" (.int aw) ∧ Fld Z h a "com/example/rootcast/rootcast/tree/Children" "stopped" "[I" (.ref c1) ∧ Fld Z h a "com/example/rootcast/rootcast/tree/Children" "toCome" "[I" (.ref c2) ∧ Fld Z h a "com/example/rootcast/rootcast/tree/Children" "beatsLeft" "[I" (.ref c3)
theorem ef_rm_add0 (m : MethodId) (x0 : Addr) (x1 : Int32) (x2 : Int32) : entryFrame m #[(.ref x0), (.int x1), (.int x2)] 4 = mkF m 0 #[.val (.ref x0), .val (.int x1), .val (.int x2), .unset] [] := by first | (simp [entryFrame, mkF, argsToLocals, Value.category, maxLocals]; done) | rfl
theorem pf_4 : plainFor (⟨"com/example/rootcast/rootcast/tree/Children", "add", "(II)V"⟩ : MethodName) = true := by apply plainFor_of_name; first | (simp [plainName, overriddenIn]; done) | decide +kernel
theorem Wd32 {a0 : Array Value} {Z : State} (hw : ∀ d ∈ tables_1, d.before a0 Z = true) : (Jvm.Cond.fieldLink "com/example/rootcast/rootcast/tree/Children" (35 : Nat) "com/example/rootcast/rootcast/tree/Children" "count" "I").before a0 Z = true := hw _ (List.mem_of_getElem? (i := 32) rfl)
theorem Wd37 {a0 : Array Value} {Z : State} (hw : ∀ d ∈ tables_1, d.before a0 Z = true) : (Jvm.Cond.code ({ cls := "java/lang/Math", name := "max", desc := "(II)I" } : Jvm.MethodName) jdk_29_method_65_code (2 : Nat) (Option.some Jvm.ClassFile.FieldType.int)).before a0 Z = true := hw _ (List.mem_of_getElem? (i := 37) rfl)
theorem Wd34 {a0 : Array Value} {Z : State} (hw : ∀ d ∈ tables_1, d.before a0 Z = true) : (Jvm.Cond.methodLink "com/example/rootcast/rootcast/tree/Children" (38 : Nat) ({ cls := "java/lang/Math", name := "max", desc := "(II)I" } : Jvm.MethodName)).before a0 Z = true := hw _ (List.mem_of_getElem? (i := 34) rfl)
theorem Wd35 {a0 : Array Value} {Z : State} (hw : ∀ d ∈ tables_1, d.before a0 Z = true) : (Jvm.Cond.static ({ cls := "java/lang/Math", name := "max", desc := "(II)I" } : Jvm.MethodName)).before a0 Z = true := hw _ (List.mem_of_getElem? (i := 35) rfl)
theorem Wd38 {a0 : Array Value} {Z : State} (hw : ∀ d ∈ tables_1, d.before a0 Z = true) : (Jvm.Cond.methodLink "com/example/rootcast/rootcast/tree/Children" (44 : Nat) ({ cls := "java/lang/Math", name := "min", desc := "(II)I" } : Jvm.MethodName)).before a0 Z = true := hw _ (List.mem_of_getElem? (i := 38) rfl)
theorem Wd44 {a0 : Array Value} {Z : State} (hw : ∀ d ∈ tables_1, d.before a0 Z = true) : (Jvm.Cond.code ({ cls := "java/util/Arrays", name := "copyOf", desc := "([II)[I" } : Jvm.MethodName) jdk_65_method_123_code (3 : Nat) (Option.some (Jvm.ClassFile.FieldType.array Jvm.ClassFile.FieldType.int))).before a0 Z = true := hw _ (List.mem_of_getElem? (i := 44) rfl)
theorem Wd43 {a0 : Array Value} {Z : State} (hw : ∀ d ∈ tables_1, d.before a0 Z = true) : (Jvm.Cond.initialized "java/util/Arrays").before a0 Z = true := hw _ (List.mem_of_getElem? (i := 43) rfl)
theorem pd_1 : parseMethodDescriptor "([II)[I" = some ⟨[(.array .int), .int], some (.array .int)⟩ := by decide +kernel
theorem Wd41 {a0 : Array Value} {Z : State} (hw : ∀ d ∈ tables_1, d.before a0 Z = true) : (Jvm.Cond.methodLink "com/example/rootcast/rootcast/tree/Children" (47 : Nat) ({ cls := "java/util/Arrays", name := "copyOf", desc := "([II)[I" } : Jvm.MethodName)).before a0 Z = true := hw _ (List.mem_of_getElem? (i := 41) rfl)
theorem Wd42 {a0 : Array Value} {Z : State} (hw : ∀ d ∈ tables_1, d.before a0 Z = true) : (Jvm.Cond.static ({ cls := "java/util/Arrays", name := "copyOf", desc := "([II)[I" } : Jvm.MethodName)).before a0 Z = true := hw _ (List.mem_of_getElem? (i := 42) rfl)
set_option maxRecDepth 65536 in
set_option maxHeartbeats 40000000 in
theorem rm_add0 (l : Launch) (Z : State) (a0 : Array Value) (hw : ∀ d ∈ tables_1, d.before a0 Z = true) (ws : List Jvm.Cond) (a nn : Addr) (kn : ClassId) (d q sz : Int32) (c1 c2 c3 : Addr) (aw : Int32) (h0 : Heap) (n0 : Nat) (Z0 : n0 ≤ h0.size) (g_a : n0 ≤ a) (hd : d.toInt = 3 ∨ d.toInt = 4) (E_a : Exa Z h0 a "com/example/rootcast/rootcast/tree/Children") (F_c : Fld Z h0 a "com/example/rootcast/rootcast/tree/Children" "count" "I" (.int (0 : Int32))) (F_p : Fld Z h0 a "com/example/rootcast/rootcast/tree/Children" "peers" "[I" (.ref nn)) (F_u : Fld Z h0 a "com/example/rootcast/rootcast/tree/Children" "subtree" "[I" (.ref nn)) (F_t : Fld Z h0 a "com/example/rootcast/rootcast/tree/Children" "sent" "[I" (.ref nn)) (F_d : Fld Z h0 a "com/example/rootcast/rootcast/tree/Children" "degree" "I" (.int d)) (V_n : Arv Z h0 nn kn .int (0 : Int32) [] (.int (0 : Int32))) (X_awaited : Fld Z h0 a "com/example/rootcast/rootcast/tree/Children" "awaited" "I" (.int aw)) (X_stopped : Fld Z h0 a "com/example/rootcast/rootcast/tree/Children" "stopped" "[I" (.ref c1)) (X_toCome : Fld Z h0 a "com/example/rootcast/rootcast/tree/Children" "toCome" "[I" (.ref c2)) (X_beatsLeft : Fld Z h0 a "com/example/rootcast/rootcast/tree/Children" "beatsLeft" "[I" (.ref c3)) :
    MetFree l (⟨"com/example/rootcast/rootcast/tree/Children", "add", "(II)V"⟩ : MethodName) (head1 (Jvm.Cond.code (⟨"com/example/rootcast/rootcast/tree/Children", "add", "(II)V"⟩ : MethodName) prog_127_method_7_code 4 none :: ws) ({ frames := 2, cells := 3, slots := 12, locals := 48 } : Room)) (fun aa U => aa = #[(.ref a), (.int q), (.int sz)] ∧ Z.Warmed39 U.vm ∧ U.heap = h0) (fun _ _ _ _ _ => True) (fun _ U o U' => ∃ v L, o = .returned v ∧ Qadd0 Z a d q sz c1 c2 c3 aw h0 n0 v U'.heap L ∧ FrameEnd U o U' L (({ frames := 2, cells := 3, slots := 12, locals := 48 } : Room).cells) (({ frames := 2, cells := 3, slots := 12, locals := 48 } : Room).slots)) := by
  refine own_body pf_4 ?_
  intro p e s m below meth c s₁ hx hby hml hown hnm hlk hret hZ X0 e0
  have N0 : Fr n0 [] := Fr.nil n0
  refine own_go (f' := (mkF m 0 #[.val (.ref a), .val (.int q), .val (.int sz), .unset] [])) (fun t k => castTop (ef_rm_add0 m a q sz) k) ?_
  have ne_a_nn : a ≠ nn := by obtain ⟨c1, A1, -⟩ := V_n; exact ne_arr E_a (Wd3 hw) A1
  have K1 : Keep h0 h0 [a] := Keep.refl _ _
  refine own_aloadN X0 hx (pc' := 1) (hb hby d3_0) rfl rfl rfl ?_
  refine own_getF X0 hx (pc' := 4) hZ hown (host := "") (Or.inl (Wd32 hw)) Via.refl e0 F_c (hb hby d3_1) rfl (fun T2 X2 e2 => ?_)
  refine own_aloadN X2 hx (pc' := 5) (hb hby d3_4) rfl rfl rfl ?_
  refine own_getF X2 hx (pc' := 8) hZ hown (host := "") (Or.inl (Wd13 hw)) Via.refl e2 F_p (hb hby d3_5) rfl (fun T3 X3 e3 => ?_)
  obtain ⟨cl4, Ar4, q4, S4, M4, H4, G4⟩ := id V_n
  refine own_len X3 hx (pc' := 9) hZ e3 Ar4 S4 M4 (hb hby d3_8) rfl ?_
  refine own_icmpNo X3 hx (pc' := 12) (hb hby d3_9) (teq rfl).2 rfl ?_
  refine own_aloadN X3 hx (pc' := 13) (hb hby d3_12) rfl rfl rfl ?_
  refine own_getF X3 hx (pc' := 16) hZ hown (host := "") (Or.inl (Wd25 hw)) Via.refl e3 F_d (hb hby d3_13) rfl (fun T5 X5 e5 => ?_)
  refine own_iconst X5 hx (pc' := 17) (4 : Int32) (hb hby d3_16) rfl rfl ?_
  refine own_iconst X5 hx (pc' := 18) (2 : Int32) (hb hby d3_17) rfl rfl ?_
  refine own_aloadN X5 hx (pc' := 19) (hb hby d3_18) rfl rfl rfl ?_
  refine own_getF X5 hx (pc' := 22) hZ hown (host := "") (Or.inl (Wd32 hw)) Via.refl e5 F_c (hb hby d3_19) rfl (fun T6 X6 e6 => ?_)
  refine own_imul X6 hx (pc' := 23) (z := (0 : Int32)) (hb hby d3_22) (by decide) rfl ?_
  refine own_callS X6 hx (pc' := 26) hZ hown (Wd34 hw) (Wd35 hw) (Wd36 hw) (Wd37 hw) (by decide) (rm_max l Z a0 hw [] (4 : Int32) (0 : Int32) h0 n0 Z0) e6 1 (by decide) (by decide) (by decide) (by decide) [(.int (4 : Int32)), (.int (0 : Int32))] [(.int d)] (by rw [hml]; rfl) (lenOf pd_0 rfl) rfl rfl (Nat.le_of_eq rfl) (hb hby d3_23) rfl (fun v7 T7 L7 X7 hQ7 => ?_)
  obtain ⟨rfl, Nq7, e7⟩ := hQ7
  have N8 := Fr.app N0 Nq7
  show own_G p.tables e below _ T7 (mkF m 26 #[.val (.ref a), .val (.int q), .val (.int sz), .unset] [(.int (own_max (4 : Int32) (0 : Int32))), (.int d)])
  rw [show (own_max (4 : Int32) (0 : Int32)) = (4 : Int32) from by decide]
  refine own_callS X7 hx (pc' := 29) hZ hown (Wd38 hw) (Wd39 hw) (Wd36 hw) (Wd40 hw) (by decide) (rm_min l Z a0 hw [] d (4 : Int32) h0 n0 Z0) e7 0 (by decide) (by decide) (by decide) (by decide) [(.int d), (.int (4 : Int32))] [] (by rw [hml]; rfl) (lenOf pd_0 rfl) rfl rfl (Nat.le_of_eq rfl) (hb hby d3_26) rfl (fun v9 T9 L9 X9 hQ9 => ?_)
  obtain ⟨rfl, Nq9, e9⟩ := hQ9
  have N10 := Fr.app N8 Nq9
  show own_G p.tables e below _ T9 (mkF m 29 #[.val (.ref a), .val (.int q), .val (.int sz), .unset] [(.int (own_min d (4 : Int32)))])
  obtain ⟨z, ez⟩ : ∃ z, z = (own_min d (4 : Int32)) := ⟨_, rfl⟩
  rw [← ez]
  have hz : z.toInt = 3 ∨ z.toInt = 4 := by rw [ez]; unfold own_min; split <;> first | (rw [own_t32_4]; omega) | omega
  have hzn : ¬ z < 0 := by rw [Int32.lt_iff_toInt_lt]; show ¬ z.toInt < 0; omega
  have hz0 : ¬ (0 : Int32) < 0 ∧ (0 : Int32) < z := ⟨by decide, by rw [Int32.lt_iff_toInt_lt, own_t32_0]; omega⟩
  refine own_istoreN X9 hx (pc' := 30) (Ls' := #[.val (.ref a), .val (.int q), .val (.int sz), .val (.int z)]) (hb hby d3_29) rfl rfl ?_
  refine own_aloadN X9 hx (pc' := 31) (hb hby d3_30) rfl rfl rfl ?_
  refine own_aloadN X9 hx (pc' := 32) (hb hby d3_31) rfl rfl rfl ?_
  refine own_getF X9 hx (pc' := 35) hZ hown (host := "") (Or.inl (Wd13 hw)) Via.refl e9 F_p (hb hby d3_32) rfl (fun T11 X11 e11 => ?_)
  refine own_iloadN X11 hx (pc' := 36) (hb hby d3_35) rfl rfl ?_
  refine own_callS X11 hx (pc' := 39) hZ hown (Wd41 hw) (Wd42 hw) (Wd43 hw) (Wd44 hw) (by decide) (rm_copy l Z a0 hw [] nn kn z h0 n0 Z0 hz V_n) e11 1 (by decide) (by decide) (by decide) (by decide) [(.ref nn), (.int z)] [(.ref a)] (by rw [hml]; rfl) (lenOf pd_1 rfl) rfl rfl (Nat.le_of_eq rfl) (hb hby d3_36) rfl (fun v12 T12 L12 X12 hQ12 => ?_)
  obtain ⟨nb12, k12, rfl, gs12, Nq12, K12, V12⟩ := hQ12
  have N13 := Fr.app N10 Nq12
  have ne_a_nb12 : a ≠ nb12 := Nat.ne_of_lt (Nat.lt_of_lt_of_le X_awaited.lt gs12)
  have ne_nn_nb12 : nn ≠ nb12 := Nat.ne_of_lt (Nat.lt_of_lt_of_le V_n.lt gs12)
  have ge_nb12 : n0 ≤ nb12 := Nat.le_trans Z0 gs12
  have gk_nb12 : h0.size ≤ nb12 := Nat.le_trans K1.1 gs12
  have Z14 : n0 ≤ T12.heap.size := Nat.le_trans Z0 K12.1
  have K15 : Keep h0 T12.heap [a] := Keep.trans K1 K12 all0
  have F16 := (X_awaited.keep K12 nin0)
  have F17 := (X_stopped.keep K12 nin0)
  have F18 := (X_toCome.keep K12 nin0)
  have F19 := (X_beatsLeft.keep K12 nin0)
  have F20 := (Exa.keep E_a K12)
  have F21 := (F_c.keep K12 nin0)
  have F22 := (F_p.keep K12 nin0)
  have F23 := (F_u.keep K12 nin0)
  have F24 := (F_t.keep K12 nin0)
  have F25 := (F_d.keep K12 nin0)
  have F26 := (V_n.keep K12 nin0)
  show own_G p.tables e below _ T12 (mkF m 39 #[.val (.ref a), .val (.int q), .val (.int sz), .val (.int z)] [(.ref nb12), (.ref a)])
  refine own_putF X12 hx (pc' := 42) hZ (ty := (.array .int)) hown (host := "") (Or.inl (Wd13 hw)) Via.refl rfl F22 F20 (Or.inl (Wd14 hw)) (Wd3 hw) (by decide) rfl rfl (hb hby d3_39) rfl (fun T27 h27 X27 e27 W27 => ?_)
  have N28 := Fr.snoc X27 N13 g_a
  have Z29 : n0 ≤ h27.size := Nat.le_trans Z14 (Nat.le_of_eq (Wr.size W27).symm)
  have K30 : Keep h0 h27 [a] := K15.wr W27 (Or.inl (List.mem_of_getElem? (i := 0) rfl))
  have F31 := (Fld.other W27 F16 (Or.inr (slot_ne (Or.inl (Wd56 hw)) (Or.inl (Wd14 hw)) (by decide) (t := .int) (t' := (.array .int)) (by decide) (by decide))))
  have F32 := (Fld.other W27 F17 (Or.inr (slot_ne (Or.inl (Wd20 hw)) (Or.inl (Wd14 hw)) (by decide) (t := (.array .int)) (t' := (.array .int)) (by decide) (by decide))))
  have F33 := (Fld.other W27 F18 (Or.inr (slot_ne (Or.inl (Wd22 hw)) (Or.inl (Wd14 hw)) (by decide) (t := (.array .int)) (t' := (.array .int)) (by decide) (by decide))))
  have F34 := (Fld.other W27 F19 (Or.inr (slot_ne (Or.inl (Wd24 hw)) (Or.inl (Wd14 hw)) (by decide) (t := (.array .int)) (t' := (.array .int)) (by decide) (by decide))))
  have F35 := (Exa.wr W27 F20)
  have F36 := (Fld.other W27 F21 (Or.inr (slot_ne (Or.inl (Wd33 hw)) (Or.inl (Wd14 hw)) (by decide) (t := .int) (t' := (.array .int)) (by decide) (by decide))))
  have F37 := (Fld.same W27 F22)
  have F38 := (Fld.other W27 F23 (Or.inr (slot_ne (Or.inl (Wd16 hw)) (Or.inl (Wd14 hw)) (by decide) (t := (.array .int)) (t' := (.array .int)) (by decide) (by decide))))
  have F39 := (Fld.other W27 F24 (Or.inr (slot_ne (Or.inl (Wd18 hw)) (Or.inl (Wd14 hw)) (by decide) (t := (.array .int)) (t' := (.array .int)) (by decide) (by decide))))
  have F40 := (Fld.other W27 F25 (Or.inr (slot_ne (Or.inr (Wd26 hw)) (Or.inl (Wd14 hw)) (by decide) (t := .int) (t' := (.array .int)) (by decide) (by decide))))
  have F41 := (F26.other W27 (Ne.symm ne_a_nn))
  have F42 := (V12.other W27 (Ne.symm ne_a_nb12))
  refine own_aloadN X27 hx (pc' := 43) (hb hby d3_42) rfl rfl rfl ?_
  refine own_aloadN X27 hx (pc' := 44) (hb hby d3_43) rfl rfl rfl ?_
  refine own_getF X27 hx (pc' := 47) hZ hown (host := "") (Or.inl (Wd15 hw)) Via.refl e27 F38 (hb hby d3_44) rfl (fun T43 X43 e43 => ?_)
  refine own_iloadN X43 hx (pc' := 48) (hb hby d3_47) rfl rfl ?_
  refine own_callS X43 hx (pc' := 51) hZ hown (Wd41 hw) (Wd42 hw) (Wd43 hw) (Wd44 hw) (by decide) (rm_copy l Z a0 hw [] nn kn z h27 n0 Z29 hz F41) e43 1 (by decide) (by decide) (by decide) (by decide) [(.ref nn), (.int z)] [(.ref a)] (by rw [hml]; rfl) (lenOf pd_1 rfl) rfl rfl (Nat.le_of_eq rfl) (hb hby d3_48) rfl (fun v44 T44 L44 X44 hQ44 => ?_)
  obtain ⟨nb44, k44, rfl, gs44, Nq44, K44, V44⟩ := hQ44
  have N45 := Fr.app N28 Nq44
  have ne_a_nb44 : a ≠ nb44 := Nat.ne_of_lt (Nat.lt_of_lt_of_le F31.lt gs44)
  have ne_nn_nb44 : nn ≠ nb44 := Nat.ne_of_lt (Nat.lt_of_lt_of_le F41.lt gs44)
  have ne_nb12_nb44 : nb12 ≠ nb44 := Nat.ne_of_lt (Nat.lt_of_lt_of_le F42.lt gs44)
  have ge_nb44 : n0 ≤ nb44 := Nat.le_trans Z29 gs44
  have gk_nb44 : h0.size ≤ nb44 := Nat.le_trans K30.1 gs44
  have Z46 : n0 ≤ T44.heap.size := Nat.le_trans Z29 K44.1
  have K47 : Keep h0 T44.heap [a] := Keep.trans K30 K44 all0
  have F48 := (F31.keep K44 nin0)
  have F49 := (F32.keep K44 nin0)
  have F50 := (F33.keep K44 nin0)
  have F51 := (F34.keep K44 nin0)
  have F52 := (Exa.keep F35 K44)
  have F53 := (F36.keep K44 nin0)
  have F54 := (F37.keep K44 nin0)
  have F55 := (F38.keep K44 nin0)
  have F56 := (F39.keep K44 nin0)
  have F57 := (F40.keep K44 nin0)
  have F58 := (F41.keep K44 nin0)
  have F59 := (F42.keep K44 nin0)
  show own_G p.tables e below _ T44 (mkF m 51 #[.val (.ref a), .val (.int q), .val (.int sz), .val (.int z)] [(.ref nb44), (.ref a)])
  refine own_putF X44 hx (pc' := 54) hZ (ty := (.array .int)) hown (host := "") (Or.inl (Wd15 hw)) Via.refl rfl F55 F52 (Or.inl (Wd16 hw)) (Wd3 hw) (by decide) rfl rfl (hb hby d3_51) rfl (fun T60 h60 X60 e60 W60 => ?_)
  have N61 := Fr.snoc X60 N45 g_a
  have Z62 : n0 ≤ h60.size := Nat.le_trans Z46 (Nat.le_of_eq (Wr.size W60).symm)
  have K63 : Keep h0 h60 [a] := K47.wr W60 (Or.inl (List.mem_of_getElem? (i := 0) rfl))
  have F64 := (Fld.other W60 F48 (Or.inr (slot_ne (Or.inl (Wd56 hw)) (Or.inl (Wd16 hw)) (by decide) (t := .int) (t' := (.array .int)) (by decide) (by decide))))
  have F65 := (Fld.other W60 F49 (Or.inr (slot_ne (Or.inl (Wd20 hw)) (Or.inl (Wd16 hw)) (by decide) (t := (.array .int)) (t' := (.array .int)) (by decide) (by decide))))
  have F66 := (Fld.other W60 F50 (Or.inr (slot_ne (Or.inl (Wd22 hw)) (Or.inl (Wd16 hw)) (by decide) (t := (.array .int)) (t' := (.array .int)) (by decide) (by decide))))
  have F67 := (Fld.other W60 F51 (Or.inr (slot_ne (Or.inl (Wd24 hw)) (Or.inl (Wd16 hw)) (by decide) (t := (.array .int)) (t' := (.array .int)) (by decide) (by decide))))
  have F68 := (Exa.wr W60 F52)
  have F69 := (Fld.other W60 F53 (Or.inr (slot_ne (Or.inl (Wd33 hw)) (Or.inl (Wd16 hw)) (by decide) (t := .int) (t' := (.array .int)) (by decide) (by decide))))
  have F70 := (Fld.other W60 F54 (Or.inr (slot_ne (Or.inl (Wd14 hw)) (Or.inl (Wd16 hw)) (by decide) (t := (.array .int)) (t' := (.array .int)) (by decide) (by decide))))
  have F71 := (Fld.same W60 F55)
  have F72 := (Fld.other W60 F56 (Or.inr (slot_ne (Or.inl (Wd18 hw)) (Or.inl (Wd16 hw)) (by decide) (t := (.array .int)) (t' := (.array .int)) (by decide) (by decide))))
  have F73 := (Fld.other W60 F57 (Or.inr (slot_ne (Or.inr (Wd26 hw)) (Or.inl (Wd16 hw)) (by decide) (t := .int) (t' := (.array .int)) (by decide) (by decide))))
  have F74 := (F58.other W60 (Ne.symm ne_a_nn))
  have F75 := (F59.other W60 (Ne.symm ne_a_nb12))
  have F76 := (V44.other W60 (Ne.symm ne_a_nb44))
  refine own_aloadN X60 hx (pc' := 55) (hb hby d3_54) rfl rfl rfl ?_
  refine own_aloadN X60 hx (pc' := 56) (hb hby d3_55) rfl rfl rfl ?_
  refine own_getF X60 hx (pc' := 59) hZ hown (host := "") (Or.inl (Wd17 hw)) Via.refl e60 F72 (hb hby d3_56) rfl (fun T77 X77 e77 => ?_)
  refine own_iloadN X77 hx (pc' := 60) (hb hby d3_59) rfl rfl ?_
  refine own_callS X77 hx (pc' := 63) hZ hown (Wd41 hw) (Wd42 hw) (Wd43 hw) (Wd44 hw) (by decide) (rm_copy l Z a0 hw [] nn kn z h60 n0 Z62 hz F74) e77 1 (by decide) (by decide) (by decide) (by decide) [(.ref nn), (.int z)] [(.ref a)] (by rw [hml]; rfl) (lenOf pd_1 rfl) rfl rfl (Nat.le_of_eq rfl) (hb hby d3_60) rfl (fun v78 T78 L78 X78 hQ78 => ?_)
  obtain ⟨nb78, k78, rfl, gs78, Nq78, K78, V78⟩ := hQ78
  have N79 := Fr.app N61 Nq78
  have ne_a_nb78 : a ≠ nb78 := Nat.ne_of_lt (Nat.lt_of_lt_of_le F64.lt gs78)
  have ne_nn_nb78 : nn ≠ nb78 := Nat.ne_of_lt (Nat.lt_of_lt_of_le F74.lt gs78)
  have ne_nb12_nb78 : nb12 ≠ nb78 := Nat.ne_of_lt (Nat.lt_of_lt_of_le F75.lt gs78)
  have ne_nb44_nb78 : nb44 ≠ nb78 := Nat.ne_of_lt (Nat.lt_of_lt_of_le F76.lt gs78)
  have ge_nb78 : n0 ≤ nb78 := Nat.le_trans Z62 gs78
  have gk_nb78 : h0.size ≤ nb78 := Nat.le_trans K63.1 gs78
  have Z80 : n0 ≤ T78.heap.size := Nat.le_trans Z62 K78.1
  have K81 : Keep h0 T78.heap [a] := Keep.trans K63 K78 all0
  have F82 := (F64.keep K78 nin0)
  have F83 := (F65.keep K78 nin0)
  have F84 := (F66.keep K78 nin0)
  have F85 := (F67.keep K78 nin0)
  have F86 := (Exa.keep F68 K78)
  have F87 := (F69.keep K78 nin0)
  have F88 := (F70.keep K78 nin0)
  have F89 := (F71.keep K78 nin0)
  have F90 := (F72.keep K78 nin0)
  have F91 := (F73.keep K78 nin0)
  have F92 := (F74.keep K78 nin0)
  have F93 := (F75.keep K78 nin0)
  have F94 := (F76.keep K78 nin0)
  show own_G p.tables e below _ T78 (mkF m 63 #[.val (.ref a), .val (.int q), .val (.int sz), .val (.int z)] [(.ref nb78), (.ref a)])
  refine own_putF X78 hx (pc' := 66) hZ (ty := (.array .int)) hown (host := "") (Or.inl (Wd17 hw)) Via.refl rfl F90 F86 (Or.inl (Wd18 hw)) (Wd3 hw) (by decide) rfl rfl (hb hby d3_63) rfl (fun T95 h95 X95 e95 W95 => ?_)
  have N96 := Fr.snoc X95 N79 g_a
  have Z97 : n0 ≤ h95.size := Nat.le_trans Z80 (Nat.le_of_eq (Wr.size W95).symm)
  have K98 : Keep h0 h95 [a] := K81.wr W95 (Or.inl (List.mem_of_getElem? (i := 0) rfl))
  have F99 := (Fld.other W95 F82 (Or.inr (slot_ne (Or.inl (Wd56 hw)) (Or.inl (Wd18 hw)) (by decide) (t := .int) (t' := (.array .int)) (by decide) (by decide))))
  have F100 := (Fld.other W95 F83 (Or.inr (slot_ne (Or.inl (Wd20 hw)) (Or.inl (Wd18 hw)) (by decide) (t := (.array .int)) (t' := (.array .int)) (by decide) (by decide))))
  have F101 := (Fld.other W95 F84 (Or.inr (slot_ne (Or.inl (Wd22 hw)) (Or.inl (Wd18 hw)) (by decide) (t := (.array .int)) (t' := (.array .int)) (by decide) (by decide))))
  have F102 := (Fld.other W95 F85 (Or.inr (slot_ne (Or.inl (Wd24 hw)) (Or.inl (Wd18 hw)) (by decide) (t := (.array .int)) (t' := (.array .int)) (by decide) (by decide))))
  have F103 := (Exa.wr W95 F86)
  have F104 := (Fld.other W95 F87 (Or.inr (slot_ne (Or.inl (Wd33 hw)) (Or.inl (Wd18 hw)) (by decide) (t := .int) (t' := (.array .int)) (by decide) (by decide))))
  have F105 := (Fld.other W95 F88 (Or.inr (slot_ne (Or.inl (Wd14 hw)) (Or.inl (Wd18 hw)) (by decide) (t := (.array .int)) (t' := (.array .int)) (by decide) (by decide))))
  have F106 := (Fld.other W95 F89 (Or.inr (slot_ne (Or.inl (Wd16 hw)) (Or.inl (Wd18 hw)) (by decide) (t := (.array .int)) (t' := (.array .int)) (by decide) (by decide))))
  have F107 := (Fld.same W95 F90)
  have F108 := (Fld.other W95 F91 (Or.inr (slot_ne (Or.inr (Wd26 hw)) (Or.inl (Wd18 hw)) (by decide) (t := .int) (t' := (.array .int)) (by decide) (by decide))))
  have F109 := (F92.other W95 (Ne.symm ne_a_nn))
  have F110 := (F93.other W95 (Ne.symm ne_a_nb12))
  have F111 := (F94.other W95 (Ne.symm ne_a_nb44))
  have F112 := (V78.other W95 (Ne.symm ne_a_nb78))
  refine own_aloadN X95 hx (pc' := 67) (hb hby d3_66) rfl rfl rfl ?_
  refine own_getF X95 hx (pc' := 70) hZ hown (host := "") (Or.inl (Wd13 hw)) Via.refl e95 F105 (hb hby d3_67) rfl (fun T113 X113 e113 => ?_)
  refine own_aloadN X113 hx (pc' := 71) (hb hby d3_70) rfl rfl rfl ?_
  refine own_getF X113 hx (pc' := 74) hZ hown (host := "") (Or.inl (Wd32 hw)) Via.refl e113 F104 (hb hby d3_71) rfl (fun T114 X114 e114 => ?_)
  refine own_iloadN X114 hx (pc' := 75) (hb hby d3_74) rfl rfl ?_
  obtain ⟨cl115, Ar115, q115, S115, M115, H115, G115⟩ := id F110
  refine own_stI X114 hx (pc' := 76) hZ e114 Ar115 (inb_of S115 hz0) (hb hby d3_75) rfl (fun T116 h116 X116 e116 W116 => ?_)
  have N117 := Fr.snoc X116 N96 ge_nb12
  have Z118 : n0 ≤ h116.size := Nat.le_trans Z97 (Nat.le_of_eq (Wr.size W116).symm)
  have K119 : Keep h0 h116 [a] := K98.wr W116 (Or.inr gk_nb12)
  have F120 := (Fld.other W116 F99 (Or.inl ne_a_nb12))
  have F121 := (Fld.other W116 F100 (Or.inl ne_a_nb12))
  have F122 := (Fld.other W116 F101 (Or.inl ne_a_nb12))
  have F123 := (Fld.other W116 F102 (Or.inl ne_a_nb12))
  have F124 := (Exa.wr W116 F103)
  have F125 := (Fld.other W116 F104 (Or.inl ne_a_nb12))
  have F126 := (Fld.other W116 F105 (Or.inl ne_a_nb12))
  have F127 := (Fld.other W116 F106 (Or.inl ne_a_nb12))
  have F128 := (Fld.other W116 F107 (Or.inl ne_a_nb12))
  have F129 := (Fld.other W116 F108 (Or.inl ne_a_nb12))
  have F130 := (F109.other W116 ne_nn_nb12)
  have F131 : Arv Z h116 nb12 k12 .int z [(.int q), (.int (0 : Int32)), (.int (0 : Int32))] (.int (0 : Int32)) := (Arv.set Ar115 q115 S115 M115 H115 G115 rfl W116 0 rfl (Nat.le_of_ble_eq_true rfl))
  have F132 := (F111.other W116 (Ne.symm ne_nb12_nb44))
  have F133 := (F112.other W116 (Ne.symm ne_nb12_nb78))
  refine own_aloadN X116 hx (pc' := 77) (hb hby d3_76) rfl rfl rfl ?_
  refine own_getF X116 hx (pc' := 80) hZ hown (host := "") (Or.inl (Wd15 hw)) Via.refl e116 F127 (hb hby d3_77) rfl (fun T134 X134 e134 => ?_)
  refine own_aloadN X134 hx (pc' := 81) (hb hby d3_80) rfl rfl rfl ?_
  refine own_getF X134 hx (pc' := 84) hZ hown (host := "") (Or.inl (Wd32 hw)) Via.refl e134 F125 (hb hby d3_81) rfl (fun T135 X135 e135 => ?_)
  refine own_iloadN X135 hx (pc' := 85) (hb hby d3_84) rfl rfl ?_
  obtain ⟨cl136, Ar136, q136, S136, M136, H136, G136⟩ := id F132
  refine own_stI X135 hx (pc' := 86) hZ e135 Ar136 (inb_of S136 hz0) (hb hby d3_85) rfl (fun T137 h137 X137 e137 W137 => ?_)
  have N138 := Fr.snoc X137 N117 ge_nb44
  have Z139 : n0 ≤ h137.size := Nat.le_trans Z118 (Nat.le_of_eq (Wr.size W137).symm)
  have K140 : Keep h0 h137 [a] := K119.wr W137 (Or.inr gk_nb44)
  have F141 := (Fld.other W137 F120 (Or.inl ne_a_nb44))
  have F142 := (Fld.other W137 F121 (Or.inl ne_a_nb44))
  have F143 := (Fld.other W137 F122 (Or.inl ne_a_nb44))
  have F144 := (Fld.other W137 F123 (Or.inl ne_a_nb44))
  have F145 := (Exa.wr W137 F124)
  have F146 := (Fld.other W137 F125 (Or.inl ne_a_nb44))
  have F147 := (Fld.other W137 F126 (Or.inl ne_a_nb44))
  have F148 := (Fld.other W137 F127 (Or.inl ne_a_nb44))
  have F149 := (Fld.other W137 F128 (Or.inl ne_a_nb44))
  have F150 := (Fld.other W137 F129 (Or.inl ne_a_nb44))
  have F151 := (F130.other W137 ne_nn_nb44)
  have F152 := (F131.other W137 ne_nb12_nb44)
  have F153 : Arv Z h137 nb44 k44 .int z [(.int sz), (.int (0 : Int32)), (.int (0 : Int32))] (.int (0 : Int32)) := (Arv.set Ar136 q136 S136 M136 H136 G136 rfl W137 0 rfl (Nat.le_of_ble_eq_true rfl))
  have F154 := (F133.other W137 (Ne.symm ne_nb44_nb78))
  refine own_aloadN X137 hx (pc' := 87) (hb hby d3_86) rfl rfl rfl ?_
  refine own_getF X137 hx (pc' := 90) hZ hown (host := "") (Or.inl (Wd17 hw)) Via.refl e137 F149 (hb hby d3_87) rfl (fun T155 X155 e155 => ?_)
  refine own_aloadN X155 hx (pc' := 91) (hb hby d3_90) rfl rfl rfl ?_
  refine own_getF X155 hx (pc' := 94) hZ hown (host := "") (Or.inl (Wd32 hw)) Via.refl e155 F146 (hb hby d3_91) rfl (fun T156 X156 e156 => ?_)
  refine own_iconst X156 hx (pc' := 95) (0 : Int32) (hb hby d3_94) rfl rfl ?_
  obtain ⟨cl157, Ar157, q157, S157, M157, H157, G157⟩ := id F154
  refine own_stI X156 hx (pc' := 96) hZ e156 Ar157 (inb_of S157 hz0) (hb hby d3_95) rfl (fun T158 h158 X158 e158 W158 => ?_)
  have N159 := Fr.snoc X158 N138 ge_nb78
  have Z160 : n0 ≤ h158.size := Nat.le_trans Z139 (Nat.le_of_eq (Wr.size W158).symm)
  have K161 : Keep h0 h158 [a] := K140.wr W158 (Or.inr gk_nb78)
  have F162 := (Fld.other W158 F141 (Or.inl ne_a_nb78))
  have F163 := (Fld.other W158 F142 (Or.inl ne_a_nb78))
  have F164 := (Fld.other W158 F143 (Or.inl ne_a_nb78))
  have F165 := (Fld.other W158 F144 (Or.inl ne_a_nb78))
  have F166 := (Exa.wr W158 F145)
  have F167 := (Fld.other W158 F146 (Or.inl ne_a_nb78))
  have F168 := (Fld.other W158 F147 (Or.inl ne_a_nb78))
  have F169 := (Fld.other W158 F148 (Or.inl ne_a_nb78))
  have F170 := (Fld.other W158 F149 (Or.inl ne_a_nb78))
  have F171 := (Fld.other W158 F150 (Or.inl ne_a_nb78))
  have F172 := (F151.other W158 ne_nn_nb78)
  have F173 := (F152.other W158 ne_nb12_nb78)
  have F174 := (F153.other W158 ne_nb44_nb78)
  have F175 : Arv Z h158 nb78 k78 .int z [(.int (0 : Int32)), (.int (0 : Int32)), (.int (0 : Int32))] (.int (0 : Int32)) := (Arv.set Ar157 q157 S157 M157 H157 G157 rfl W158 0 rfl (Nat.le_of_ble_eq_true rfl))
  refine own_aloadN X158 hx (pc' := 97) (hb hby d3_96) rfl rfl rfl ?_
  refine own_dup X158 hx (pc' := 98) (hb hby d3_97) rfl rfl ?_
  refine own_getF X158 hx (pc' := 101) hZ hown (host := "") (Or.inl (Wd32 hw)) Via.refl e158 F167 (hb hby d3_98) rfl (fun T176 X176 e176 => ?_)
  refine own_iconst X176 hx (pc' := 102) (1 : Int32) (hb hby d3_101) rfl rfl ?_
  refine own_iadd X176 hx (pc' := 103) (z := (1 : Int32)) (hb hby d3_102) (by decide) rfl ?_
  refine own_putF X176 hx (pc' := 106) hZ (ty := .int) hown (host := "") (Or.inl (Wd32 hw)) Via.refl e176 F167 F166 (Or.inl (Wd33 hw)) (Wd3 hw) (by decide) rfl rfl (hb hby d3_103) rfl (fun T177 h177 X177 e177 W177 => ?_)
  have N178 := Fr.snoc X177 N159 g_a
  have Z179 : n0 ≤ h177.size := Nat.le_trans Z160 (Nat.le_of_eq (Wr.size W177).symm)
  have K180 : Keep h0 h177 [a] := K161.wr W177 (Or.inl (List.mem_of_getElem? (i := 0) rfl))
  have F181 := (Fld.other W177 F162 (Or.inr (slot_ne (Or.inl (Wd56 hw)) (Or.inl (Wd33 hw)) (by decide) (t := .int) (t' := .int) (by decide) (by decide))))
  have F182 := (Fld.other W177 F163 (Or.inr (slot_ne (Or.inl (Wd20 hw)) (Or.inl (Wd33 hw)) (by decide) (t := (.array .int)) (t' := .int) (by decide) (by decide))))
  have F183 := (Fld.other W177 F164 (Or.inr (slot_ne (Or.inl (Wd22 hw)) (Or.inl (Wd33 hw)) (by decide) (t := (.array .int)) (t' := .int) (by decide) (by decide))))
  have F184 := (Fld.other W177 F165 (Or.inr (slot_ne (Or.inl (Wd24 hw)) (Or.inl (Wd33 hw)) (by decide) (t := (.array .int)) (t' := .int) (by decide) (by decide))))
  have F185 := (Exa.wr W177 F166)
  have F186 := (Fld.same W177 F167)
  have F187 := (Fld.other W177 F168 (Or.inr (slot_ne (Or.inl (Wd14 hw)) (Or.inl (Wd33 hw)) (by decide) (t := (.array .int)) (t' := .int) (by decide) (by decide))))
  have F188 := (Fld.other W177 F169 (Or.inr (slot_ne (Or.inl (Wd16 hw)) (Or.inl (Wd33 hw)) (by decide) (t := (.array .int)) (t' := .int) (by decide) (by decide))))
  have F189 := (Fld.other W177 F170 (Or.inr (slot_ne (Or.inl (Wd18 hw)) (Or.inl (Wd33 hw)) (by decide) (t := (.array .int)) (t' := .int) (by decide) (by decide))))
  have F190 := (Fld.other W177 F171 (Or.inr (slot_ne (Or.inr (Wd26 hw)) (Or.inl (Wd33 hw)) (by decide) (t := .int) (t' := .int) (by decide) (by decide))))
  have F191 := (F172.other W177 (Ne.symm ne_a_nn))
  have F192 := (F173.other W177 (Ne.symm ne_a_nb12))
  have F193 := (F174.other W177 (Ne.symm ne_a_nb44))
  have F194 := (F175.other W177 (Ne.symm ne_a_nb78))
  refine own_retV X177 hx hlk hret (hb hby d3_106) (by decide) (by decide) ?_
  rw [e177]
  exact ⟨rfl, N178, K180, z, nb12, nb44, nb78, _, _, _, hz, gk_nb12, gk_nb44, gk_nb78, ne_nb12_nb44, ne_nb12_nb78, ne_nb44_nb78, F186, F187, F188, F189, F192, F193, F194, F181, F182, F183, F184⟩

def Qadd1 (Z : State) (a b1 b2 b3 : Addr) (k1 k2 k3 : ClassId) (z x0 x1 x2 u0 u1 u2 t0 t1 t2 q sz : Int32) (c1 c2 c3 : Addr) (aw : Int32) (h0 : Heap) (n0 : Nat) (v : Option Value) (h : Heap) (L : List Loc) : Prop := v = none ∧ Fr n0 L ∧ Keep h0 h [a, b1, b2, b3] ∧ Fld Z h a "com/example/rootcast/rootcast/tree/Children" "count" "I" (.int (2 : Int32)) ∧ Fld Z h a "com/example/rootcast/rootcast/tree/Children" "peers" "[I" (.ref b1) ∧ Fld Z h a "com/example/rootcast/rootcast/tree/Children" "subtree" "[I" (.ref b2) ∧ Fld Z h a "com/example/rootcast/rootcast/tree/Children" "sent" "[I" (.ref b3) ∧ Arv Z h b1 k1 .int z [(.int x0), (.int q), (.int x2)] (.int (0 : Int32)) ∧ Arv Z h b2 k2 .int z [(.int u0), (.int sz), (.int u2)] (.int (0 : Int32)) ∧ Arv Z h b3 k3 .int z [(.int t0), (.int (0 : Int32)), (.int t2)] (.int (0 : Int32)) ∧ Fld Z h a "com/example/rootcast/rootcast/tree/Children" "awaited" "I" (.int aw) ∧ Fld Z h a "com/example/rootcast/rootcast/tree/Children" "stopped" "[I" (.ref c1) ∧ Fld Z h a "com/example/rootcast/rootcast/tree/Children" "toCome" "[I" (.ref c2) ∧ Fld Z h a "com/example/rootcast/rootcast/tree/Children" "beatsLeft" "[I" (.ref c3)
theorem ef_rm_add1 (m : MethodId) (x0 : Addr) (x1 : Int32) (x2 : Int32) : entryFrame m #[(.ref x0), (.int x1), (.int x2)] 4 = mkF m 0 #[.val (.ref x0), .val (.int x1), .val (.int x2), .unset] [] := by first | (simp [entryFrame, mkF, argsToLocals, Value.category, maxLocals]; done) | rfl
set_option maxRecDepth 65536 in
set_option maxHeartbeats 40000000 in
theorem rm_add1 (l : Launch) (Z : State) (a0 : Array Value) (hw : ∀ d ∈ tables_1, d.before a0 Z = true) (ws : List Jvm.Cond) (a b1 b2 b3 : Addr) (k1 k2 k3 : ClassId) (z x0 x1 x2 u0 u1 u2 t0 t1 t2 q sz : Int32) (c1 c2 c3 : Addr) (aw : Int32) (h0 : Heap) (n0 : Nat) (Z0 : n0 ≤ h0.size) (hz : z.toInt = 3 ∨ z.toInt = 4) (g_a : n0 ≤ a) (g_b1 : n0 ≤ b1) (g_b2 : n0 ≤ b2) (g_b3 : n0 ≤ b3) (dj12 : b1 ≠ b2) (dj13 : b1 ≠ b3) (dj23 : b2 ≠ b3) (E_a : Exa Z h0 a "com/example/rootcast/rootcast/tree/Children") (F_c : Fld Z h0 a "com/example/rootcast/rootcast/tree/Children" "count" "I" (.int (1 : Int32))) (F_p : Fld Z h0 a "com/example/rootcast/rootcast/tree/Children" "peers" "[I" (.ref b1)) (F_u : Fld Z h0 a "com/example/rootcast/rootcast/tree/Children" "subtree" "[I" (.ref b2)) (F_t : Fld Z h0 a "com/example/rootcast/rootcast/tree/Children" "sent" "[I" (.ref b3)) (V_1 : Arv Z h0 b1 k1 .int z [(.int x0), (.int x1), (.int x2)] (.int (0 : Int32))) (V_2 : Arv Z h0 b2 k2 .int z [(.int u0), (.int u1), (.int u2)] (.int (0 : Int32))) (V_3 : Arv Z h0 b3 k3 .int z [(.int t0), (.int t1), (.int t2)] (.int (0 : Int32))) (X_awaited : Fld Z h0 a "com/example/rootcast/rootcast/tree/Children" "awaited" "I" (.int aw)) (X_stopped : Fld Z h0 a "com/example/rootcast/rootcast/tree/Children" "stopped" "[I" (.ref c1)) (X_toCome : Fld Z h0 a "com/example/rootcast/rootcast/tree/Children" "toCome" "[I" (.ref c2)) (X_beatsLeft : Fld Z h0 a "com/example/rootcast/rootcast/tree/Children" "beatsLeft" "[I" (.ref c3)) :
    MetFree l (⟨"com/example/rootcast/rootcast/tree/Children", "add", "(II)V"⟩ : MethodName) (head1 (Jvm.Cond.code (⟨"com/example/rootcast/rootcast/tree/Children", "add", "(II)V"⟩ : MethodName) prog_127_method_7_code 4 none :: ws) ({ frames := 0, cells := 0, slots := 0, locals := 0 } : Room)) (fun aa U => aa = #[(.ref a), (.int q), (.int sz)] ∧ Z.Warmed39 U.vm ∧ U.heap = h0) (fun _ _ _ _ _ => True) (fun _ U o U' => ∃ v L, o = .returned v ∧ Qadd1 Z a b1 b2 b3 k1 k2 k3 z x0 x1 x2 u0 u1 u2 t0 t1 t2 q sz c1 c2 c3 aw h0 n0 v U'.heap L ∧ FrameEnd U o U' L (({ frames := 0, cells := 0, slots := 0, locals := 0 } : Room).cells) (({ frames := 0, cells := 0, slots := 0, locals := 0 } : Room).slots)) := by
  refine own_body pf_4 ?_
  intro p e s m below meth c s₁ hx hby hml hown hnm hlk hret hZ X0 e0
  have N0 : Fr n0 [] := Fr.nil n0
  refine own_go (f' := (mkF m 0 #[.val (.ref a), .val (.int q), .val (.int sz), .unset] [])) (fun t k => castTop (ef_rm_add1 m a q sz) k) ?_
  have ea1 : a ≠ b1 := by obtain ⟨c1, A1, -⟩ := V_1; exact ne_arr E_a (Wd3 hw) A1
  have ea2 : a ≠ b2 := by obtain ⟨c1, A1, -⟩ := V_2; exact ne_arr E_a (Wd3 hw) A1
  have ea3 : a ≠ b3 := by obtain ⟨c1, A1, -⟩ := V_3; exact ne_arr E_a (Wd3 hw) A1
  have hne : ¬ ((1 : Int32) = z) := by rw [← Int32.toInt_inj, own_t32_1]; omega
  have hz1 : ¬ (1 : Int32) < 0 ∧ (1 : Int32) < z := ⟨by decide, by rw [Int32.lt_iff_toInt_lt, own_t32_1]; omega⟩
  have K1 : Keep h0 h0 [a, b1, b2, b3] := Keep.refl _ _
  refine own_aloadN X0 hx (pc' := 1) (hb hby d3_0) rfl rfl rfl ?_
  refine own_getF X0 hx (pc' := 4) hZ hown (host := "") (Or.inl (Wd32 hw)) Via.refl e0 F_c (hb hby d3_1) rfl (fun T2 X2 e2 => ?_)
  refine own_aloadN X2 hx (pc' := 5) (hb hby d3_4) rfl rfl rfl ?_
  refine own_getF X2 hx (pc' := 8) hZ hown (host := "") (Or.inl (Wd13 hw)) Via.refl e2 F_p (hb hby d3_5) rfl (fun T3 X3 e3 => ?_)
  obtain ⟨cl4, Ar4, q4, S4, M4, H4, G4⟩ := id V_1
  refine own_len X3 hx (pc' := 9) hZ e3 Ar4 S4 M4 (hb hby d3_8) rfl ?_
  refine own_icmpYes X3 hx (pc' := 66) (hb hby d3_9) (feq hne).2 (by decide) (by decide) ?_
  refine own_aloadN X3 hx (pc' := 67) (hb hby d3_66) rfl rfl rfl ?_
  refine own_getF X3 hx (pc' := 70) hZ hown (host := "") (Or.inl (Wd13 hw)) Via.refl e3 F_p (hb hby d3_67) rfl (fun T5 X5 e5 => ?_)
  refine own_aloadN X5 hx (pc' := 71) (hb hby d3_70) rfl rfl rfl ?_
  refine own_getF X5 hx (pc' := 74) hZ hown (host := "") (Or.inl (Wd32 hw)) Via.refl e5 F_c (hb hby d3_71) rfl (fun T6 X6 e6 => ?_)
  refine own_iloadN X6 hx (pc' := 75) (hb hby d3_74) rfl rfl ?_
  obtain ⟨cl7, Ar7, q7, S7, M7, H7, G7⟩ := id V_1
  refine own_stI X6 hx (pc' := 76) hZ e6 Ar7 (inb_of S7 hz1) (hb hby d3_75) rfl (fun T8 h8 X8 e8 W8 => ?_)
  have N9 := Fr.snoc X8 N0 g_b1
  have Z10 : n0 ≤ h8.size := Nat.le_trans Z0 (Nat.le_of_eq (Wr.size W8).symm)
  have K11 : Keep h0 h8 [a, b1, b2, b3] := K1.wr W8 (Or.inl (List.mem_of_getElem? (i := 1) rfl))
  have F12 := (Fld.other W8 X_awaited (Or.inl ea1))
  have F13 := (Fld.other W8 X_stopped (Or.inl ea1))
  have F14 := (Fld.other W8 X_toCome (Or.inl ea1))
  have F15 := (Fld.other W8 X_beatsLeft (Or.inl ea1))
  have F16 := (Exa.wr W8 E_a)
  have F17 := (Fld.other W8 F_c (Or.inl ea1))
  have F18 := (Fld.other W8 F_p (Or.inl ea1))
  have F19 := (Fld.other W8 F_u (Or.inl ea1))
  have F20 := (Fld.other W8 F_t (Or.inl ea1))
  have F21 : Arv Z h8 b1 k1 .int z [(.int x0), (.int q), (.int x2)] (.int (0 : Int32)) := (Arv.set Ar7 q7 S7 M7 H7 G7 rfl W8 1 rfl (Nat.le_of_ble_eq_true rfl))
  have F22 := (V_2.other W8 (Ne.symm dj12))
  have F23 := (V_3.other W8 (Ne.symm dj13))
  refine own_aloadN X8 hx (pc' := 77) (hb hby d3_76) rfl rfl rfl ?_
  refine own_getF X8 hx (pc' := 80) hZ hown (host := "") (Or.inl (Wd15 hw)) Via.refl e8 F19 (hb hby d3_77) rfl (fun T24 X24 e24 => ?_)
  refine own_aloadN X24 hx (pc' := 81) (hb hby d3_80) rfl rfl rfl ?_
  refine own_getF X24 hx (pc' := 84) hZ hown (host := "") (Or.inl (Wd32 hw)) Via.refl e24 F17 (hb hby d3_81) rfl (fun T25 X25 e25 => ?_)
  refine own_iloadN X25 hx (pc' := 85) (hb hby d3_84) rfl rfl ?_
  obtain ⟨cl26, Ar26, q26, S26, M26, H26, G26⟩ := id F22
  refine own_stI X25 hx (pc' := 86) hZ e25 Ar26 (inb_of S26 hz1) (hb hby d3_85) rfl (fun T27 h27 X27 e27 W27 => ?_)
  have N28 := Fr.snoc X27 N9 g_b2
  have Z29 : n0 ≤ h27.size := Nat.le_trans Z10 (Nat.le_of_eq (Wr.size W27).symm)
  have K30 : Keep h0 h27 [a, b1, b2, b3] := K11.wr W27 (Or.inl (List.mem_of_getElem? (i := 2) rfl))
  have F31 := (Fld.other W27 F12 (Or.inl ea2))
  have F32 := (Fld.other W27 F13 (Or.inl ea2))
  have F33 := (Fld.other W27 F14 (Or.inl ea2))
  have F34 := (Fld.other W27 F15 (Or.inl ea2))
  have F35 := (Exa.wr W27 F16)
  have F36 := (Fld.other W27 F17 (Or.inl ea2))
  have F37 := (Fld.other W27 F18 (Or.inl ea2))
  have F38 := (Fld.other W27 F19 (Or.inl ea2))
  have F39 := (Fld.other W27 F20 (Or.inl ea2))
  have F40 := (F21.other W27 dj12)
  have F41 : Arv Z h27 b2 k2 .int z [(.int u0), (.int sz), (.int u2)] (.int (0 : Int32)) := (Arv.set Ar26 q26 S26 M26 H26 G26 rfl W27 1 rfl (Nat.le_of_ble_eq_true rfl))
  have F42 := (F23.other W27 (Ne.symm dj23))
  refine own_aloadN X27 hx (pc' := 87) (hb hby d3_86) rfl rfl rfl ?_
  refine own_getF X27 hx (pc' := 90) hZ hown (host := "") (Or.inl (Wd17 hw)) Via.refl e27 F39 (hb hby d3_87) rfl (fun T43 X43 e43 => ?_)
  refine own_aloadN X43 hx (pc' := 91) (hb hby d3_90) rfl rfl rfl ?_
  refine own_getF X43 hx (pc' := 94) hZ hown (host := "") (Or.inl (Wd32 hw)) Via.refl e43 F36 (hb hby d3_91) rfl (fun T44 X44 e44 => ?_)
  refine own_iconst X44 hx (pc' := 95) (0 : Int32) (hb hby d3_94) rfl rfl ?_
  obtain ⟨cl45, Ar45, q45, S45, M45, H45, G45⟩ := id F42
  refine own_stI X44 hx (pc' := 96) hZ e44 Ar45 (inb_of S45 hz1) (hb hby d3_95) rfl (fun T46 h46 X46 e46 W46 => ?_)
  have N47 := Fr.snoc X46 N28 g_b3
  have Z48 : n0 ≤ h46.size := Nat.le_trans Z29 (Nat.le_of_eq (Wr.size W46).symm)
  have K49 : Keep h0 h46 [a, b1, b2, b3] := K30.wr W46 (Or.inl (List.mem_of_getElem? (i := 3) rfl))
  have F50 := (Fld.other W46 F31 (Or.inl ea3))
  have F51 := (Fld.other W46 F32 (Or.inl ea3))
  have F52 := (Fld.other W46 F33 (Or.inl ea3))
  have F53 := (Fld.other W46 F34 (Or.inl ea3))
  have F54 := (Exa.wr W46 F35)
  have F55 := (Fld.other W46 F36 (Or.inl ea3))
  have F56 := (Fld.other W46 F37 (Or.inl ea3))
  have F57 := (Fld.other W46 F38 (Or.inl ea3))
  have F58 := (Fld.other W46 F39 (Or.inl ea3))
  have F59 := (F40.other W46 dj13)
  have F60 := (F41.other W46 dj23)
  have F61 : Arv Z h46 b3 k3 .int z [(.int t0), (.int (0 : Int32)), (.int t2)] (.int (0 : Int32)) := (Arv.set Ar45 q45 S45 M45 H45 G45 rfl W46 1 rfl (Nat.le_of_ble_eq_true rfl))
  refine own_aloadN X46 hx (pc' := 97) (hb hby d3_96) rfl rfl rfl ?_
  refine own_dup X46 hx (pc' := 98) (hb hby d3_97) rfl rfl ?_
  refine own_getF X46 hx (pc' := 101) hZ hown (host := "") (Or.inl (Wd32 hw)) Via.refl e46 F55 (hb hby d3_98) rfl (fun T62 X62 e62 => ?_)
  refine own_iconst X62 hx (pc' := 102) (1 : Int32) (hb hby d3_101) rfl rfl ?_
  refine own_iadd X62 hx (pc' := 103) (z := (2 : Int32)) (hb hby d3_102) (by decide) rfl ?_
  refine own_putF X62 hx (pc' := 106) hZ (ty := .int) hown (host := "") (Or.inl (Wd32 hw)) Via.refl e62 F55 F54 (Or.inl (Wd33 hw)) (Wd3 hw) (by decide) rfl rfl (hb hby d3_103) rfl (fun T63 h63 X63 e63 W63 => ?_)
  have N64 := Fr.snoc X63 N47 g_a
  have Z65 : n0 ≤ h63.size := Nat.le_trans Z48 (Nat.le_of_eq (Wr.size W63).symm)
  have K66 : Keep h0 h63 [a, b1, b2, b3] := K49.wr W63 (Or.inl (List.mem_of_getElem? (i := 0) rfl))
  have F67 := (Fld.other W63 F50 (Or.inr (slot_ne (Or.inl (Wd56 hw)) (Or.inl (Wd33 hw)) (by decide) (t := .int) (t' := .int) (by decide) (by decide))))
  have F68 := (Fld.other W63 F51 (Or.inr (slot_ne (Or.inl (Wd20 hw)) (Or.inl (Wd33 hw)) (by decide) (t := (.array .int)) (t' := .int) (by decide) (by decide))))
  have F69 := (Fld.other W63 F52 (Or.inr (slot_ne (Or.inl (Wd22 hw)) (Or.inl (Wd33 hw)) (by decide) (t := (.array .int)) (t' := .int) (by decide) (by decide))))
  have F70 := (Fld.other W63 F53 (Or.inr (slot_ne (Or.inl (Wd24 hw)) (Or.inl (Wd33 hw)) (by decide) (t := (.array .int)) (t' := .int) (by decide) (by decide))))
  have F71 := (Exa.wr W63 F54)
  have F72 := (Fld.same W63 F55)
  have F73 := (Fld.other W63 F56 (Or.inr (slot_ne (Or.inl (Wd14 hw)) (Or.inl (Wd33 hw)) (by decide) (t := (.array .int)) (t' := .int) (by decide) (by decide))))
  have F74 := (Fld.other W63 F57 (Or.inr (slot_ne (Or.inl (Wd16 hw)) (Or.inl (Wd33 hw)) (by decide) (t := (.array .int)) (t' := .int) (by decide) (by decide))))
  have F75 := (Fld.other W63 F58 (Or.inr (slot_ne (Or.inl (Wd18 hw)) (Or.inl (Wd33 hw)) (by decide) (t := (.array .int)) (t' := .int) (by decide) (by decide))))
  have F76 := (F59.other W63 (Ne.symm ea1))
  have F77 := (F60.other W63 (Ne.symm ea2))
  have F78 := (F61.other W63 (Ne.symm ea3))
  refine own_retV X63 hx hlk hret (hb hby d3_106) (by decide) (by decide) ?_
  rw [e63]
  exact ⟨rfl, N64, K66, F72, F73, F74, F75, F76, F77, F78, F67, F68, F69, F70⟩

def Qadd2 (Z : State) (a b1 b2 b3 : Addr) (k1 k2 k3 : ClassId) (z x0 x1 x2 u0 u1 u2 t0 t1 t2 q sz : Int32) (c1 c2 c3 : Addr) (aw : Int32) (h0 : Heap) (n0 : Nat) (v : Option Value) (h : Heap) (L : List Loc) : Prop := v = none ∧ Fr n0 L ∧ Keep h0 h [a, b1, b2, b3] ∧ Fld Z h a "com/example/rootcast/rootcast/tree/Children" "count" "I" (.int (3 : Int32)) ∧ Fld Z h a "com/example/rootcast/rootcast/tree/Children" "peers" "[I" (.ref b1) ∧ Fld Z h a "com/example/rootcast/rootcast/tree/Children" "subtree" "[I" (.ref b2) ∧ Fld Z h a "com/example/rootcast/rootcast/tree/Children" "sent" "[I" (.ref b3) ∧ Arv Z h b1 k1 .int z [(.int x0), (.int x1), (.int q)] (.int (0 : Int32)) ∧ Arv Z h b2 k2 .int z [(.int u0), (.int u1), (.int sz)] (.int (0 : Int32)) ∧ Arv Z h b3 k3 .int z [(.int t0), (.int t1), (.int (0 : Int32))] (.int (0 : Int32)) ∧ Fld Z h a "com/example/rootcast/rootcast/tree/Children" "awaited" "I" (.int aw) ∧ Fld Z h a "com/example/rootcast/rootcast/tree/Children" "stopped" "[I" (.ref c1) ∧ Fld Z h a "com/example/rootcast/rootcast/tree/Children" "toCome" "[I" (.ref c2) ∧ Fld Z h a "com/example/rootcast/rootcast/tree/Children" "beatsLeft" "[I" (.ref c3)
theorem ef_rm_add2 (m : MethodId) (x0 : Addr) (x1 : Int32) (x2 : Int32) : entryFrame m #[(.ref x0), (.int x1), (.int x2)] 4 = mkF m 0 #[.val (.ref x0), .val (.int x1), .val (.int x2), .unset] [] := by first | (simp [entryFrame, mkF, argsToLocals, Value.category, maxLocals]; done) | rfl
set_option maxRecDepth 65536 in
set_option maxHeartbeats 40000000 in
theorem rm_add2 (l : Launch) (Z : State) (a0 : Array Value) (hw : ∀ d ∈ tables_1, d.before a0 Z = true) (ws : List Jvm.Cond) (a b1 b2 b3 : Addr) (k1 k2 k3 : ClassId) (z x0 x1 x2 u0 u1 u2 t0 t1 t2 q sz : Int32) (c1 c2 c3 : Addr) (aw : Int32) (h0 : Heap) (n0 : Nat) (Z0 : n0 ≤ h0.size) (hz : z.toInt = 3 ∨ z.toInt = 4) (g_a : n0 ≤ a) (g_b1 : n0 ≤ b1) (g_b2 : n0 ≤ b2) (g_b3 : n0 ≤ b3) (dj12 : b1 ≠ b2) (dj13 : b1 ≠ b3) (dj23 : b2 ≠ b3) (E_a : Exa Z h0 a "com/example/rootcast/rootcast/tree/Children") (F_c : Fld Z h0 a "com/example/rootcast/rootcast/tree/Children" "count" "I" (.int (2 : Int32))) (F_p : Fld Z h0 a "com/example/rootcast/rootcast/tree/Children" "peers" "[I" (.ref b1)) (F_u : Fld Z h0 a "com/example/rootcast/rootcast/tree/Children" "subtree" "[I" (.ref b2)) (F_t : Fld Z h0 a "com/example/rootcast/rootcast/tree/Children" "sent" "[I" (.ref b3)) (V_1 : Arv Z h0 b1 k1 .int z [(.int x0), (.int x1), (.int x2)] (.int (0 : Int32))) (V_2 : Arv Z h0 b2 k2 .int z [(.int u0), (.int u1), (.int u2)] (.int (0 : Int32))) (V_3 : Arv Z h0 b3 k3 .int z [(.int t0), (.int t1), (.int t2)] (.int (0 : Int32))) (X_awaited : Fld Z h0 a "com/example/rootcast/rootcast/tree/Children" "awaited" "I" (.int aw)) (X_stopped : Fld Z h0 a "com/example/rootcast/rootcast/tree/Children" "stopped" "[I" (.ref c1)) (X_toCome : Fld Z h0 a "com/example/rootcast/rootcast/tree/Children" "toCome" "[I" (.ref c2)) (X_beatsLeft : Fld Z h0 a "com/example/rootcast/rootcast/tree/Children" "beatsLeft" "[I" (.ref c3)) :
    MetFree l (⟨"com/example/rootcast/rootcast/tree/Children", "add", "(II)V"⟩ : MethodName) (head1 (Jvm.Cond.code (⟨"com/example/rootcast/rootcast/tree/Children", "add", "(II)V"⟩ : MethodName) prog_127_method_7_code 4 none :: ws) ({ frames := 0, cells := 0, slots := 0, locals := 0 } : Room)) (fun aa U => aa = #[(.ref a), (.int q), (.int sz)] ∧ Z.Warmed39 U.vm ∧ U.heap = h0) (fun _ _ _ _ _ => True) (fun _ U o U' => ∃ v L, o = .returned v ∧ Qadd2 Z a b1 b2 b3 k1 k2 k3 z x0 x1 x2 u0 u1 u2 t0 t1 t2 q sz c1 c2 c3 aw h0 n0 v U'.heap L ∧ FrameEnd U o U' L (({ frames := 0, cells := 0, slots := 0, locals := 0 } : Room).cells) (({ frames := 0, cells := 0, slots := 0, locals := 0 } : Room).slots)) := by
  refine own_body pf_4 ?_
  intro p e s m below meth c s₁ hx hby hml hown hnm hlk hret hZ X0 e0
  have N0 : Fr n0 [] := Fr.nil n0
  refine own_go (f' := (mkF m 0 #[.val (.ref a), .val (.int q), .val (.int sz), .unset] [])) (fun t k => castTop (ef_rm_add2 m a q sz) k) ?_
  have ea1 : a ≠ b1 := by obtain ⟨c1, A1, -⟩ := V_1; exact ne_arr E_a (Wd3 hw) A1
  have ea2 : a ≠ b2 := by obtain ⟨c1, A1, -⟩ := V_2; exact ne_arr E_a (Wd3 hw) A1
  have ea3 : a ≠ b3 := by obtain ⟨c1, A1, -⟩ := V_3; exact ne_arr E_a (Wd3 hw) A1
  have hne : ¬ ((2 : Int32) = z) := by rw [← Int32.toInt_inj, own_t32_2]; omega
  have hz2 : ¬ (2 : Int32) < 0 ∧ (2 : Int32) < z := ⟨by decide, by rw [Int32.lt_iff_toInt_lt, own_t32_2]; omega⟩
  have K1 : Keep h0 h0 [a, b1, b2, b3] := Keep.refl _ _
  refine own_aloadN X0 hx (pc' := 1) (hb hby d3_0) rfl rfl rfl ?_
  refine own_getF X0 hx (pc' := 4) hZ hown (host := "") (Or.inl (Wd32 hw)) Via.refl e0 F_c (hb hby d3_1) rfl (fun T2 X2 e2 => ?_)
  refine own_aloadN X2 hx (pc' := 5) (hb hby d3_4) rfl rfl rfl ?_
  refine own_getF X2 hx (pc' := 8) hZ hown (host := "") (Or.inl (Wd13 hw)) Via.refl e2 F_p (hb hby d3_5) rfl (fun T3 X3 e3 => ?_)
  obtain ⟨cl4, Ar4, q4, S4, M4, H4, G4⟩ := id V_1
  refine own_len X3 hx (pc' := 9) hZ e3 Ar4 S4 M4 (hb hby d3_8) rfl ?_
  refine own_icmpYes X3 hx (pc' := 66) (hb hby d3_9) (feq hne).2 (by decide) (by decide) ?_
  refine own_aloadN X3 hx (pc' := 67) (hb hby d3_66) rfl rfl rfl ?_
  refine own_getF X3 hx (pc' := 70) hZ hown (host := "") (Or.inl (Wd13 hw)) Via.refl e3 F_p (hb hby d3_67) rfl (fun T5 X5 e5 => ?_)
  refine own_aloadN X5 hx (pc' := 71) (hb hby d3_70) rfl rfl rfl ?_
  refine own_getF X5 hx (pc' := 74) hZ hown (host := "") (Or.inl (Wd32 hw)) Via.refl e5 F_c (hb hby d3_71) rfl (fun T6 X6 e6 => ?_)
  refine own_iloadN X6 hx (pc' := 75) (hb hby d3_74) rfl rfl ?_
  obtain ⟨cl7, Ar7, q7, S7, M7, H7, G7⟩ := id V_1
  refine own_stI X6 hx (pc' := 76) hZ e6 Ar7 (inb_of S7 hz2) (hb hby d3_75) rfl (fun T8 h8 X8 e8 W8 => ?_)
  have N9 := Fr.snoc X8 N0 g_b1
  have Z10 : n0 ≤ h8.size := Nat.le_trans Z0 (Nat.le_of_eq (Wr.size W8).symm)
  have K11 : Keep h0 h8 [a, b1, b2, b3] := K1.wr W8 (Or.inl (List.mem_of_getElem? (i := 1) rfl))
  have F12 := (Fld.other W8 X_awaited (Or.inl ea1))
  have F13 := (Fld.other W8 X_stopped (Or.inl ea1))
  have F14 := (Fld.other W8 X_toCome (Or.inl ea1))
  have F15 := (Fld.other W8 X_beatsLeft (Or.inl ea1))
  have F16 := (Exa.wr W8 E_a)
  have F17 := (Fld.other W8 F_c (Or.inl ea1))
  have F18 := (Fld.other W8 F_p (Or.inl ea1))
  have F19 := (Fld.other W8 F_u (Or.inl ea1))
  have F20 := (Fld.other W8 F_t (Or.inl ea1))
  have F21 : Arv Z h8 b1 k1 .int z [(.int x0), (.int x1), (.int q)] (.int (0 : Int32)) := (Arv.set Ar7 q7 S7 M7 H7 G7 rfl W8 2 rfl (Nat.le_of_ble_eq_true rfl))
  have F22 := (V_2.other W8 (Ne.symm dj12))
  have F23 := (V_3.other W8 (Ne.symm dj13))
  refine own_aloadN X8 hx (pc' := 77) (hb hby d3_76) rfl rfl rfl ?_
  refine own_getF X8 hx (pc' := 80) hZ hown (host := "") (Or.inl (Wd15 hw)) Via.refl e8 F19 (hb hby d3_77) rfl (fun T24 X24 e24 => ?_)
  refine own_aloadN X24 hx (pc' := 81) (hb hby d3_80) rfl rfl rfl ?_
  refine own_getF X24 hx (pc' := 84) hZ hown (host := "") (Or.inl (Wd32 hw)) Via.refl e24 F17 (hb hby d3_81) rfl (fun T25 X25 e25 => ?_)
  refine own_iloadN X25 hx (pc' := 85) (hb hby d3_84) rfl rfl ?_
  obtain ⟨cl26, Ar26, q26, S26, M26, H26, G26⟩ := id F22
  refine own_stI X25 hx (pc' := 86) hZ e25 Ar26 (inb_of S26 hz2) (hb hby d3_85) rfl (fun T27 h27 X27 e27 W27 => ?_)
  have N28 := Fr.snoc X27 N9 g_b2
  have Z29 : n0 ≤ h27.size := Nat.le_trans Z10 (Nat.le_of_eq (Wr.size W27).symm)
  have K30 : Keep h0 h27 [a, b1, b2, b3] := K11.wr W27 (Or.inl (List.mem_of_getElem? (i := 2) rfl))
  have F31 := (Fld.other W27 F12 (Or.inl ea2))
  have F32 := (Fld.other W27 F13 (Or.inl ea2))
  have F33 := (Fld.other W27 F14 (Or.inl ea2))
  have F34 := (Fld.other W27 F15 (Or.inl ea2))
  have F35 := (Exa.wr W27 F16)
  have F36 := (Fld.other W27 F17 (Or.inl ea2))
  have F37 := (Fld.other W27 F18 (Or.inl ea2))
  have F38 := (Fld.other W27 F19 (Or.inl ea2))
  have F39 := (Fld.other W27 F20 (Or.inl ea2))
  have F40 := (F21.other W27 dj12)
  have F41 : Arv Z h27 b2 k2 .int z [(.int u0), (.int u1), (.int sz)] (.int (0 : Int32)) := (Arv.set Ar26 q26 S26 M26 H26 G26 rfl W27 2 rfl (Nat.le_of_ble_eq_true rfl))
  have F42 := (F23.other W27 (Ne.symm dj23))
  refine own_aloadN X27 hx (pc' := 87) (hb hby d3_86) rfl rfl rfl ?_
  refine own_getF X27 hx (pc' := 90) hZ hown (host := "") (Or.inl (Wd17 hw)) Via.refl e27 F39 (hb hby d3_87) rfl (fun T43 X43 e43 => ?_)
  refine own_aloadN X43 hx (pc' := 91) (hb hby d3_90) rfl rfl rfl ?_
  refine own_getF X43 hx (pc' := 94) hZ hown (host := "") (Or.inl (Wd32 hw)) Via.refl e43 F36 (hb hby d3_91) rfl (fun T44 X44 e44 => ?_)
  refine own_iconst X44 hx (pc' := 95) (0 : Int32) (hb hby d3_94) rfl rfl ?_
  obtain ⟨cl45, Ar45, q45, S45, M45, H45, G45⟩ := id F42
  refine own_stI X44 hx (pc' := 96) hZ e44 Ar45 (inb_of S45 hz2) (hb hby d3_95) rfl (fun T46 h46 X46 e46 W46 => ?_)
  have N47 := Fr.snoc X46 N28 g_b3
  have Z48 : n0 ≤ h46.size := Nat.le_trans Z29 (Nat.le_of_eq (Wr.size W46).symm)
  have K49 : Keep h0 h46 [a, b1, b2, b3] := K30.wr W46 (Or.inl (List.mem_of_getElem? (i := 3) rfl))
  have F50 := (Fld.other W46 F31 (Or.inl ea3))
  have F51 := (Fld.other W46 F32 (Or.inl ea3))
  have F52 := (Fld.other W46 F33 (Or.inl ea3))
  have F53 := (Fld.other W46 F34 (Or.inl ea3))
  have F54 := (Exa.wr W46 F35)
  have F55 := (Fld.other W46 F36 (Or.inl ea3))
  have F56 := (Fld.other W46 F37 (Or.inl ea3))
  have F57 := (Fld.other W46 F38 (Or.inl ea3))
  have F58 := (Fld.other W46 F39 (Or.inl ea3))
  have F59 := (F40.other W46 dj13)
  have F60 := (F41.other W46 dj23)
  have F61 : Arv Z h46 b3 k3 .int z [(.int t0), (.int t1), (.int (0 : Int32))] (.int (0 : Int32)) := (Arv.set Ar45 q45 S45 M45 H45 G45 rfl W46 2 rfl (Nat.le_of_ble_eq_true rfl))
  refine own_aloadN X46 hx (pc' := 97) (hb hby d3_96) rfl rfl rfl ?_
  refine own_dup X46 hx (pc' := 98) (hb hby d3_97) rfl rfl ?_
  refine own_getF X46 hx (pc' := 101) hZ hown (host := "") (Or.inl (Wd32 hw)) Via.refl e46 F55 (hb hby d3_98) rfl (fun T62 X62 e62 => ?_)
  refine own_iconst X62 hx (pc' := 102) (1 : Int32) (hb hby d3_101) rfl rfl ?_
  refine own_iadd X62 hx (pc' := 103) (z := (3 : Int32)) (hb hby d3_102) (by decide) rfl ?_
  refine own_putF X62 hx (pc' := 106) hZ (ty := .int) hown (host := "") (Or.inl (Wd32 hw)) Via.refl e62 F55 F54 (Or.inl (Wd33 hw)) (Wd3 hw) (by decide) rfl rfl (hb hby d3_103) rfl (fun T63 h63 X63 e63 W63 => ?_)
  have N64 := Fr.snoc X63 N47 g_a
  have Z65 : n0 ≤ h63.size := Nat.le_trans Z48 (Nat.le_of_eq (Wr.size W63).symm)
  have K66 : Keep h0 h63 [a, b1, b2, b3] := K49.wr W63 (Or.inl (List.mem_of_getElem? (i := 0) rfl))
  have F67 := (Fld.other W63 F50 (Or.inr (slot_ne (Or.inl (Wd56 hw)) (Or.inl (Wd33 hw)) (by decide) (t := .int) (t' := .int) (by decide) (by decide))))
  have F68 := (Fld.other W63 F51 (Or.inr (slot_ne (Or.inl (Wd20 hw)) (Or.inl (Wd33 hw)) (by decide) (t := (.array .int)) (t' := .int) (by decide) (by decide))))
  have F69 := (Fld.other W63 F52 (Or.inr (slot_ne (Or.inl (Wd22 hw)) (Or.inl (Wd33 hw)) (by decide) (t := (.array .int)) (t' := .int) (by decide) (by decide))))
  have F70 := (Fld.other W63 F53 (Or.inr (slot_ne (Or.inl (Wd24 hw)) (Or.inl (Wd33 hw)) (by decide) (t := (.array .int)) (t' := .int) (by decide) (by decide))))
  have F71 := (Exa.wr W63 F54)
  have F72 := (Fld.same W63 F55)
  have F73 := (Fld.other W63 F56 (Or.inr (slot_ne (Or.inl (Wd14 hw)) (Or.inl (Wd33 hw)) (by decide) (t := (.array .int)) (t' := .int) (by decide) (by decide))))
  have F74 := (Fld.other W63 F57 (Or.inr (slot_ne (Or.inl (Wd16 hw)) (Or.inl (Wd33 hw)) (by decide) (t := (.array .int)) (t' := .int) (by decide) (by decide))))
  have F75 := (Fld.other W63 F58 (Or.inr (slot_ne (Or.inl (Wd18 hw)) (Or.inl (Wd33 hw)) (by decide) (t := (.array .int)) (t' := .int) (by decide) (by decide))))
  have F76 := (F59.other W63 (Ne.symm ea1))
  have F77 := (F60.other W63 (Ne.symm ea2))
  have F78 := (F61.other W63 (Ne.symm ea3))
  refine own_retV X63 hx hlk hret (hb hby d3_106) (by decide) (by decide) ?_
  rw [e63]
  exact ⟨rfl, N64, K66, F72, F73, F74, F75, F76, F77, F78, F67, F68, F69, F70⟩

theorem d9_0 : decode prog_127_method_8_code 0 = .ok (.aload_n 0, 1) := by decide +kernel
theorem d9_1 : decode prog_127_method_8_code 1 = .ok (.dup, 1) := by decide +kernel
theorem d9_2 : decode prog_127_method_8_code 2 = .ok (.getfield 35, 3) := by decide +kernel
theorem d9_5 : decode prog_127_method_8_code 5 = .ok (.iconst 1, 1) := by decide +kernel
theorem d9_6 : decode prog_127_method_8_code 6 = .ok (.isub, 1) := by decide +kernel
theorem d9_7 : decode prog_127_method_8_code 7 = .ok (.putfield 35, 3) := by decide +kernel
theorem d9_10 : decode prog_127_method_8_code 10 = .ok (.aload_n 0, 1) := by decide +kernel
theorem d9_11 : decode prog_127_method_8_code 11 = .ok (.getfield 13, 3) := by decide +kernel
theorem d9_14 : decode prog_127_method_8_code 14 = .ok (.iload_n 1, 1) := by decide +kernel
theorem d9_15 : decode prog_127_method_8_code 15 = .ok (.iconst 1, 1) := by decide +kernel
theorem d9_16 : decode prog_127_method_8_code 16 = .ok (.iadd, 1) := by decide +kernel
theorem d9_17 : decode prog_127_method_8_code 17 = .ok (.aload_n 0, 1) := by decide +kernel
theorem d9_18 : decode prog_127_method_8_code 18 = .ok (.getfield 13, 3) := by decide +kernel
theorem d9_21 : decode prog_127_method_8_code 21 = .ok (.iload_n 1, 1) := by decide +kernel
theorem d9_22 : decode prog_127_method_8_code 22 = .ok (.aload_n 0, 1) := by decide +kernel
theorem d9_23 : decode prog_127_method_8_code 23 = .ok (.getfield 35, 3) := by decide +kernel
theorem d9_26 : decode prog_127_method_8_code 26 = .ok (.iload_n 1, 1) := by decide +kernel
theorem d9_27 : decode prog_127_method_8_code 27 = .ok (.isub, 1) := by decide +kernel
theorem d9_28 : decode prog_127_method_8_code 28 = .ok (.invokestatic 53, 3) := by decide +kernel
theorem d9_31 : decode prog_127_method_8_code 31 = .ok (.aload_n 0, 1) := by decide +kernel
theorem d9_32 : decode prog_127_method_8_code 32 = .ok (.getfield 16, 3) := by decide +kernel
theorem d9_35 : decode prog_127_method_8_code 35 = .ok (.iload_n 1, 1) := by decide +kernel
theorem d9_36 : decode prog_127_method_8_code 36 = .ok (.iconst 1, 1) := by decide +kernel
theorem d9_37 : decode prog_127_method_8_code 37 = .ok (.iadd, 1) := by decide +kernel
theorem d9_38 : decode prog_127_method_8_code 38 = .ok (.aload_n 0, 1) := by decide +kernel
theorem d9_39 : decode prog_127_method_8_code 39 = .ok (.getfield 16, 3) := by decide +kernel
theorem d9_42 : decode prog_127_method_8_code 42 = .ok (.iload_n 1, 1) := by decide +kernel
theorem d9_43 : decode prog_127_method_8_code 43 = .ok (.aload_n 0, 1) := by decide +kernel
theorem d9_44 : decode prog_127_method_8_code 44 = .ok (.getfield 35, 3) := by decide +kernel
theorem d9_47 : decode prog_127_method_8_code 47 = .ok (.iload_n 1, 1) := by decide +kernel
theorem d9_48 : decode prog_127_method_8_code 48 = .ok (.isub, 1) := by decide +kernel
theorem d9_49 : decode prog_127_method_8_code 49 = .ok (.invokestatic 53, 3) := by decide +kernel
theorem d9_52 : decode prog_127_method_8_code 52 = .ok (.aload_n 0, 1) := by decide +kernel
theorem d9_53 : decode prog_127_method_8_code 53 = .ok (.getfield 19, 3) := by decide +kernel
theorem d9_56 : decode prog_127_method_8_code 56 = .ok (.iload_n 1, 1) := by decide +kernel
theorem d9_57 : decode prog_127_method_8_code 57 = .ok (.iconst 1, 1) := by decide +kernel
theorem d9_58 : decode prog_127_method_8_code 58 = .ok (.iadd, 1) := by decide +kernel
theorem d9_59 : decode prog_127_method_8_code 59 = .ok (.aload_n 0, 1) := by decide +kernel
theorem d9_60 : decode prog_127_method_8_code 60 = .ok (.getfield 19, 3) := by decide +kernel
theorem d9_63 : decode prog_127_method_8_code 63 = .ok (.iload_n 1, 1) := by decide +kernel
theorem d9_64 : decode prog_127_method_8_code 64 = .ok (.aload_n 0, 1) := by decide +kernel
theorem d9_65 : decode prog_127_method_8_code 65 = .ok (.getfield 35, 3) := by decide +kernel
theorem d9_68 : decode prog_127_method_8_code 68 = .ok (.iload_n 1, 1) := by decide +kernel
theorem d9_69 : decode prog_127_method_8_code 69 = .ok (.isub, 1) := by decide +kernel
theorem d9_70 : decode prog_127_method_8_code 70 = .ok (.invokestatic 53, 3) := by decide +kernel
theorem d9_73 : decode prog_127_method_8_code 73 = .ok (.return_, 1) := by decide +kernel
def Qrem10 (Z : State) (a b1 b2 b3 : Addr) (k1 k2 k3 : ClassId) (z x0 x1 x2 u0 u1 u2 t0 t1 t2 : Int32) (c1 c2 c3 : Addr) (aw : Int32) (h0 : Heap) (n0 : Nat) (v : Option Value) (h : Heap) (L : List Loc) : Prop := v = none ∧ Fr n0 L ∧ Keep h0 h [a, b1, b2, b3] ∧ Fld Z h a "com/example/rootcast/rootcast/tree/Children" "count" "I" (.int (0 : Int32)) ∧ Fld Z h a "com/example/rootcast/rootcast/tree/Children" "peers" "[I" (.ref b1) ∧ Fld Z h a "com/example/rootcast/rootcast/tree/Children" "subtree" "[I" (.ref b2) ∧ Fld Z h a "com/example/rootcast/rootcast/tree/Children" "sent" "[I" (.ref b3) ∧ Arv Z h b1 k1 .int z [(.int x0), (.int x1), (.int x2)] (.int (0 : Int32)) ∧ Arv Z h b2 k2 .int z [(.int u0), (.int u1), (.int u2)] (.int (0 : Int32)) ∧ Arv Z h b3 k3 .int z [(.int t0), (.int t1), (.int t2)] (.int (0 : Int32)) ∧ Fld Z h a "com/example/rootcast/rootcast/tree/Children" "awaited" "I" (.int aw) ∧ Fld Z h a "com/example/rootcast/rootcast/tree/Children" "stopped" "[I" (.ref c1) ∧ Fld Z h a "com/example/rootcast/rootcast/tree/Children" "toCome" "[I" (.ref c2) ∧ Fld Z h a "com/example/rootcast/rootcast/tree/Children" "beatsLeft" "[I" (.ref c3)
theorem ef_rm_rem10 (m : MethodId) (x0 : Addr) (x1 : Int32) : entryFrame m #[(.ref x0), (.int x1)] 2 = mkF m 0 #[.val (.ref x0), .val (.int x1)] [] := by first | (simp [entryFrame, mkF, argsToLocals, Value.category, maxLocals]; done) | rfl
theorem pf_5 : plainFor (⟨"com/example/rootcast/rootcast/tree/Children", "remove", "(I)V"⟩ : MethodName) = true := by apply plainFor_of_name; first | (simp [plainName, overriddenIn]; done) | decide +kernel
theorem Wd67 {a0 : Array Value} {Z : State} (hw : ∀ d ∈ tables_1, d.before a0 Z = true) : (Jvm.Cond.methodLink "com/example/rootcast/rootcast/tree/Children" (53 : Nat) ({ cls := "java/lang/System", name := "arraycopy", desc := "(Ljava/lang/Object;ILjava/lang/Object;II)V" } : Jvm.MethodName)).before a0 Z = true := hw _ (List.mem_of_getElem? (i := 67) rfl)
set_option maxRecDepth 65536 in
set_option maxHeartbeats 40000000 in
theorem rm_rem10 (l : Launch) (Z : State) (a0 : Array Value) (hw : ∀ d ∈ tables_1, d.before a0 Z = true) (ws : List Jvm.Cond) (a b1 b2 b3 : Addr) (k1 k2 k3 : ClassId) (z x0 x1 x2 u0 u1 u2 t0 t1 t2 : Int32) (c1 c2 c3 : Addr) (aw : Int32) (h0 : Heap) (n0 : Nat) (Z0 : n0 ≤ h0.size) (hz : z.toInt = 3 ∨ z.toInt = 4) (g_a : n0 ≤ a) (g_b1 : n0 ≤ b1) (g_b2 : n0 ≤ b2) (g_b3 : n0 ≤ b3) (dj12 : b1 ≠ b2) (dj13 : b1 ≠ b3) (dj23 : b2 ≠ b3) (E_a : Exa Z h0 a "com/example/rootcast/rootcast/tree/Children") (F_c : Fld Z h0 a "com/example/rootcast/rootcast/tree/Children" "count" "I" (.int (1 : Int32))) (F_p : Fld Z h0 a "com/example/rootcast/rootcast/tree/Children" "peers" "[I" (.ref b1)) (F_u : Fld Z h0 a "com/example/rootcast/rootcast/tree/Children" "subtree" "[I" (.ref b2)) (F_t : Fld Z h0 a "com/example/rootcast/rootcast/tree/Children" "sent" "[I" (.ref b3)) (V_1 : Arv Z h0 b1 k1 .int z [(.int x0), (.int x1), (.int x2)] (.int (0 : Int32))) (V_2 : Arv Z h0 b2 k2 .int z [(.int u0), (.int u1), (.int u2)] (.int (0 : Int32))) (V_3 : Arv Z h0 b3 k3 .int z [(.int t0), (.int t1), (.int t2)] (.int (0 : Int32))) (X_awaited : Fld Z h0 a "com/example/rootcast/rootcast/tree/Children" "awaited" "I" (.int aw)) (X_stopped : Fld Z h0 a "com/example/rootcast/rootcast/tree/Children" "stopped" "[I" (.ref c1)) (X_toCome : Fld Z h0 a "com/example/rootcast/rootcast/tree/Children" "toCome" "[I" (.ref c2)) (X_beatsLeft : Fld Z h0 a "com/example/rootcast/rootcast/tree/Children" "beatsLeft" "[I" (.ref c3)) :
    MetFree l (⟨"com/example/rootcast/rootcast/tree/Children", "remove", "(I)V"⟩ : MethodName) (head1 (Jvm.Cond.code (⟨"com/example/rootcast/rootcast/tree/Children", "remove", "(I)V"⟩ : MethodName) prog_127_method_8_code 2 none :: ws) ({ frames := 1, cells := 0, slots := 0, locals := 18 } : Room)) (fun aa U => aa = #[(.ref a), (.int (0 : Int32))] ∧ Z.Warmed39 U.vm ∧ U.heap = h0) (fun _ _ _ _ _ => True) (fun _ U o U' => ∃ v L, o = .returned v ∧ Qrem10 Z a b1 b2 b3 k1 k2 k3 z x0 x1 x2 u0 u1 u2 t0 t1 t2 c1 c2 c3 aw h0 n0 v U'.heap L ∧ FrameEnd U o U' L (({ frames := 1, cells := 0, slots := 0, locals := 18 } : Room).cells) (({ frames := 1, cells := 0, slots := 0, locals := 18 } : Room).slots)) := by
  refine own_body pf_5 ?_
  intro p e s m below meth c s₁ hx hby hml hown hnm hlk hret hZ X0 e0
  have N0 : Fr n0 [] := Fr.nil n0
  refine own_go (f' := (mkF m 0 #[.val (.ref a), .val (.int (0 : Int32))] [])) (fun t k => castTop (ef_rm_rem10 m a (0 : Int32)) k) ?_
  have ea1 : a ≠ b1 := by obtain ⟨c1, A1, -⟩ := V_1; exact ne_arr E_a (Wd3 hw) A1
  have ea2 : a ≠ b2 := by obtain ⟨c1, A1, -⟩ := V_2; exact ne_arr E_a (Wd3 hw) A1
  have ea3 : a ≠ b3 := by obtain ⟨c1, A1, -⟩ := V_3; exact ne_arr E_a (Wd3 hw) A1
  have hzn : ¬ z < 0 := by rw [Int32.lt_iff_toInt_lt]; show ¬ z.toInt < 0; omega
  have hz3 : 3 ≤ z.toNatClampNeg := by have := nat_of hzn; omega
  have K1 : Keep h0 h0 [a, b1, b2, b3] := Keep.refl _ _
  refine own_aloadN X0 hx (pc' := 1) (hb hby d9_0) rfl rfl rfl ?_
  refine own_dup X0 hx (pc' := 2) (hb hby d9_1) rfl rfl ?_
  refine own_getF X0 hx (pc' := 5) hZ hown (host := "") (Or.inl (Wd32 hw)) Via.refl e0 F_c (hb hby d9_2) rfl (fun T2 X2 e2 => ?_)
  refine own_iconst X2 hx (pc' := 6) (1 : Int32) (hb hby d9_5) rfl rfl ?_
  refine own_isub X2 hx (pc' := 7) (z := (0 : Int32)) (hb hby d9_6) (by decide) rfl ?_
  refine own_putF X2 hx (pc' := 10) hZ (ty := .int) hown (host := "") (Or.inl (Wd32 hw)) Via.refl e2 F_c E_a (Or.inl (Wd33 hw)) (Wd3 hw) (by decide) rfl rfl (hb hby d9_7) rfl (fun T3 h3 X3 e3 W3 => ?_)
  have N4 := Fr.snoc X3 N0 g_a
  have Z5 : n0 ≤ h3.size := Nat.le_trans Z0 (Nat.le_of_eq (Wr.size W3).symm)
  have K6 : Keep h0 h3 [a, b1, b2, b3] := K1.wr W3 (Or.inl (List.mem_of_getElem? (i := 0) rfl))
  have F7 := (Fld.other W3 X_awaited (Or.inr (slot_ne (Or.inl (Wd56 hw)) (Or.inl (Wd33 hw)) (by decide) (t := .int) (t' := .int) (by decide) (by decide))))
  have F8 := (Fld.other W3 X_stopped (Or.inr (slot_ne (Or.inl (Wd20 hw)) (Or.inl (Wd33 hw)) (by decide) (t := (.array .int)) (t' := .int) (by decide) (by decide))))
  have F9 := (Fld.other W3 X_toCome (Or.inr (slot_ne (Or.inl (Wd22 hw)) (Or.inl (Wd33 hw)) (by decide) (t := (.array .int)) (t' := .int) (by decide) (by decide))))
  have F10 := (Fld.other W3 X_beatsLeft (Or.inr (slot_ne (Or.inl (Wd24 hw)) (Or.inl (Wd33 hw)) (by decide) (t := (.array .int)) (t' := .int) (by decide) (by decide))))
  have F11 := (Exa.wr W3 E_a)
  have F12 := (Fld.same W3 F_c)
  have F13 := (Fld.other W3 F_p (Or.inr (slot_ne (Or.inl (Wd14 hw)) (Or.inl (Wd33 hw)) (by decide) (t := (.array .int)) (t' := .int) (by decide) (by decide))))
  have F14 := (Fld.other W3 F_u (Or.inr (slot_ne (Or.inl (Wd16 hw)) (Or.inl (Wd33 hw)) (by decide) (t := (.array .int)) (t' := .int) (by decide) (by decide))))
  have F15 := (Fld.other W3 F_t (Or.inr (slot_ne (Or.inl (Wd18 hw)) (Or.inl (Wd33 hw)) (by decide) (t := (.array .int)) (t' := .int) (by decide) (by decide))))
  have F16 := (V_1.other W3 (Ne.symm ea1))
  have F17 := (V_2.other W3 (Ne.symm ea2))
  have F18 := (V_3.other W3 (Ne.symm ea3))
  refine own_aloadN X3 hx (pc' := 11) (hb hby d9_10) rfl rfl rfl ?_
  refine own_getF X3 hx (pc' := 14) hZ hown (host := "") (Or.inl (Wd13 hw)) Via.refl e3 F13 (hb hby d9_11) rfl (fun T19 X19 e19 => ?_)
  refine own_iloadN X19 hx (pc' := 15) (hb hby d9_14) rfl rfl ?_
  refine own_iconst X19 hx (pc' := 16) (1 : Int32) (hb hby d9_15) rfl rfl ?_
  refine own_iadd X19 hx (pc' := 17) (z := (1 : Int32)) (hb hby d9_16) (by decide) rfl ?_
  refine own_aloadN X19 hx (pc' := 18) (hb hby d9_17) rfl rfl rfl ?_
  refine own_getF X19 hx (pc' := 21) hZ hown (host := "") (Or.inl (Wd13 hw)) Via.refl e19 F13 (hb hby d9_18) rfl (fun T20 X20 e20 => ?_)
  refine own_iloadN X20 hx (pc' := 22) (hb hby d9_21) rfl rfl ?_
  refine own_aloadN X20 hx (pc' := 23) (hb hby d9_22) rfl rfl rfl ?_
  refine own_getF X20 hx (pc' := 26) hZ hown (host := "") (Or.inl (Wd32 hw)) Via.refl e20 F12 (hb hby d9_23) rfl (fun T21 X21 e21 => ?_)
  refine own_iloadN X21 hx (pc' := 27) (hb hby d9_26) rfl rfl ?_
  refine own_isub X21 hx (pc' := 28) (z := (0 : Int32)) (hb hby d9_27) (by decide) rfl ?_
  obtain ⟨T22, h22, L22, X22, e22, N22, K22, V22, st22⟩ := cpA X21 hx hZ hown (Wd67 hw) (Wd49 hw) (Wd47 hw) (Wd48 hw) e21 F16 F16 (Or.inl ⟨rfl, rfl⟩) (by decide) (by decide) (by decide) (Nat.le_trans (by decide : ((1 : Int32) : Int32).toNatClampNeg + ((0 : Int32) : Int32).toNatClampNeg ≤ 1) (Nat.le_trans (by decide) hz3)) (Nat.le_trans (by decide : ((0 : Int32) : Int32).toNatClampNeg + ((0 : Int32) : Int32).toNatClampNeg ≤ 0) (Nat.le_trans (by decide) hz3)) (us := []) rfl (Nat.le_of_ble_eq_true rfl) N4 g_b1 (g := (mkF m 28 #[.val (.ref a), .val (.int (0 : Int32))] [(.int (0 : Int32)), (.int (0 : Int32)), (.ref b1), (.int (1 : Int32)), (.ref b1)])) rfl (by rw [hml]; rfl) rfl (hb hby d9_28) (by decide) (W := 0) (by show 2 * 0 + _ ≤ _; exact Nat.le_of_eq rfl) (by decide)
  have Z23 : n0 ≤ h22.size := Nat.le_trans Z5 K22.1
  have K24 : Keep h0 h22 [a, b1, b2, b3] := Keep.trans K6 K22 (allS (Or.inl (List.mem_of_getElem? (i := 1) rfl)) all0)
  have F25 := (F7.keep K22 (ninS ea1 nin0))
  have F26 := (F8.keep K22 (ninS ea1 nin0))
  have F27 := (F9.keep K22 (ninS ea1 nin0))
  have F28 := (F10.keep K22 (ninS ea1 nin0))
  have F29 := (Exa.keep F11 K22)
  have F30 := (F12.keep K22 (ninS ea1 nin0))
  have F31 := (F13.keep K22 (ninS ea1 nin0))
  have F32 := (F14.keep K22 (ninS ea1 nin0))
  have F33 := (F15.keep K22 (ninS ea1 nin0))
  have F34 := (F17.keep K22 (ninS (Ne.symm dj12) nin0))
  have F35 := (F18.keep K22 (ninS (Ne.symm dj13) nin0))
  have V36 : Arv Z h22 b1 k1 .int z [(.int x0), (.int x1), (.int x2)] (.int (0 : Int32)) := V22
  refine own_go (f' := (mkF m 31 #[.val (.ref a), .val (.int (0 : Int32))] [])) st22 ?_
  refine own_aloadN X22 hx (pc' := 32) (hb hby d9_31) rfl rfl rfl ?_
  refine own_getF X22 hx (pc' := 35) hZ hown (host := "") (Or.inl (Wd15 hw)) Via.refl e22 F32 (hb hby d9_32) rfl (fun T37 X37 e37 => ?_)
  refine own_iloadN X37 hx (pc' := 36) (hb hby d9_35) rfl rfl ?_
  refine own_iconst X37 hx (pc' := 37) (1 : Int32) (hb hby d9_36) rfl rfl ?_
  refine own_iadd X37 hx (pc' := 38) (z := (1 : Int32)) (hb hby d9_37) (by decide) rfl ?_
  refine own_aloadN X37 hx (pc' := 39) (hb hby d9_38) rfl rfl rfl ?_
  refine own_getF X37 hx (pc' := 42) hZ hown (host := "") (Or.inl (Wd15 hw)) Via.refl e37 F32 (hb hby d9_39) rfl (fun T38 X38 e38 => ?_)
  refine own_iloadN X38 hx (pc' := 43) (hb hby d9_42) rfl rfl ?_
  refine own_aloadN X38 hx (pc' := 44) (hb hby d9_43) rfl rfl rfl ?_
  refine own_getF X38 hx (pc' := 47) hZ hown (host := "") (Or.inl (Wd32 hw)) Via.refl e38 F30 (hb hby d9_44) rfl (fun T39 X39 e39 => ?_)
  refine own_iloadN X39 hx (pc' := 48) (hb hby d9_47) rfl rfl ?_
  refine own_isub X39 hx (pc' := 49) (z := (0 : Int32)) (hb hby d9_48) (by decide) rfl ?_
  obtain ⟨T40, h40, L40, X40, e40, N40, K40, V40, st40⟩ := cpA X39 hx hZ hown (Wd67 hw) (Wd49 hw) (Wd47 hw) (Wd48 hw) e39 F34 F34 (Or.inl ⟨rfl, rfl⟩) (by decide) (by decide) (by decide) (Nat.le_trans (by decide : ((1 : Int32) : Int32).toNatClampNeg + ((0 : Int32) : Int32).toNatClampNeg ≤ 1) (Nat.le_trans (by decide) hz3)) (Nat.le_trans (by decide : ((0 : Int32) : Int32).toNatClampNeg + ((0 : Int32) : Int32).toNatClampNeg ≤ 0) (Nat.le_trans (by decide) hz3)) (us := []) rfl (Nat.le_of_ble_eq_true rfl) N22 g_b2 (g := (mkF m 49 #[.val (.ref a), .val (.int (0 : Int32))] [(.int (0 : Int32)), (.int (0 : Int32)), (.ref b2), (.int (1 : Int32)), (.ref b2)])) rfl (by rw [hml]; rfl) rfl (hb hby d9_49) (by decide) (W := 0) (by show 2 * 0 + _ ≤ _; exact Nat.le_of_eq rfl) (by decide)
  have Z41 : n0 ≤ h40.size := Nat.le_trans Z23 K40.1
  have K42 : Keep h0 h40 [a, b1, b2, b3] := Keep.trans K24 K40 (allS (Or.inl (List.mem_of_getElem? (i := 2) rfl)) all0)
  have F43 := (F25.keep K40 (ninS ea2 nin0))
  have F44 := (F26.keep K40 (ninS ea2 nin0))
  have F45 := (F27.keep K40 (ninS ea2 nin0))
  have F46 := (F28.keep K40 (ninS ea2 nin0))
  have F47 := (Exa.keep F29 K40)
  have F48 := (F30.keep K40 (ninS ea2 nin0))
  have F49 := (F31.keep K40 (ninS ea2 nin0))
  have F50 := (F32.keep K40 (ninS ea2 nin0))
  have F51 := (F33.keep K40 (ninS ea2 nin0))
  have F52 := (F35.keep K40 (ninS (Ne.symm dj23) nin0))
  have F53 := (V36.keep K40 (ninS dj12 nin0))
  have V54 : Arv Z h40 b2 k2 .int z [(.int u0), (.int u1), (.int u2)] (.int (0 : Int32)) := V40
  refine own_go (f' := (mkF m 52 #[.val (.ref a), .val (.int (0 : Int32))] [])) st40 ?_
  refine own_aloadN X40 hx (pc' := 53) (hb hby d9_52) rfl rfl rfl ?_
  refine own_getF X40 hx (pc' := 56) hZ hown (host := "") (Or.inl (Wd17 hw)) Via.refl e40 F51 (hb hby d9_53) rfl (fun T55 X55 e55 => ?_)
  refine own_iloadN X55 hx (pc' := 57) (hb hby d9_56) rfl rfl ?_
  refine own_iconst X55 hx (pc' := 58) (1 : Int32) (hb hby d9_57) rfl rfl ?_
  refine own_iadd X55 hx (pc' := 59) (z := (1 : Int32)) (hb hby d9_58) (by decide) rfl ?_
  refine own_aloadN X55 hx (pc' := 60) (hb hby d9_59) rfl rfl rfl ?_
  refine own_getF X55 hx (pc' := 63) hZ hown (host := "") (Or.inl (Wd17 hw)) Via.refl e55 F51 (hb hby d9_60) rfl (fun T56 X56 e56 => ?_)
  refine own_iloadN X56 hx (pc' := 64) (hb hby d9_63) rfl rfl ?_
  refine own_aloadN X56 hx (pc' := 65) (hb hby d9_64) rfl rfl rfl ?_
  refine own_getF X56 hx (pc' := 68) hZ hown (host := "") (Or.inl (Wd32 hw)) Via.refl e56 F48 (hb hby d9_65) rfl (fun T57 X57 e57 => ?_)
  refine own_iloadN X57 hx (pc' := 69) (hb hby d9_68) rfl rfl ?_
  refine own_isub X57 hx (pc' := 70) (z := (0 : Int32)) (hb hby d9_69) (by decide) rfl ?_
  obtain ⟨T58, h58, L58, X58, e58, N58, K58, V58, st58⟩ := cpA X57 hx hZ hown (Wd67 hw) (Wd49 hw) (Wd47 hw) (Wd48 hw) e57 F52 F52 (Or.inl ⟨rfl, rfl⟩) (by decide) (by decide) (by decide) (Nat.le_trans (by decide : ((1 : Int32) : Int32).toNatClampNeg + ((0 : Int32) : Int32).toNatClampNeg ≤ 1) (Nat.le_trans (by decide) hz3)) (Nat.le_trans (by decide : ((0 : Int32) : Int32).toNatClampNeg + ((0 : Int32) : Int32).toNatClampNeg ≤ 0) (Nat.le_trans (by decide) hz3)) (us := []) rfl (Nat.le_of_ble_eq_true rfl) N40 g_b3 (g := (mkF m 70 #[.val (.ref a), .val (.int (0 : Int32))] [(.int (0 : Int32)), (.int (0 : Int32)), (.ref b3), (.int (1 : Int32)), (.ref b3)])) rfl (by rw [hml]; rfl) rfl (hb hby d9_70) (by decide) (W := 0) (by show 2 * 0 + _ ≤ _; exact Nat.le_of_eq rfl) (by decide)
  have Z59 : n0 ≤ h58.size := Nat.le_trans Z41 K58.1
  have K60 : Keep h0 h58 [a, b1, b2, b3] := Keep.trans K42 K58 (allS (Or.inl (List.mem_of_getElem? (i := 3) rfl)) all0)
  have F61 := (F43.keep K58 (ninS ea3 nin0))
  have F62 := (F44.keep K58 (ninS ea3 nin0))
  have F63 := (F45.keep K58 (ninS ea3 nin0))
  have F64 := (F46.keep K58 (ninS ea3 nin0))
  have F65 := (Exa.keep F47 K58)
  have F66 := (F48.keep K58 (ninS ea3 nin0))
  have F67 := (F49.keep K58 (ninS ea3 nin0))
  have F68 := (F50.keep K58 (ninS ea3 nin0))
  have F69 := (F51.keep K58 (ninS ea3 nin0))
  have F70 := (F53.keep K58 (ninS dj13 nin0))
  have F71 := (V54.keep K58 (ninS dj23 nin0))
  have V72 : Arv Z h58 b3 k3 .int z [(.int t0), (.int t1), (.int t2)] (.int (0 : Int32)) := V58
  refine own_go (f' := (mkF m 73 #[.val (.ref a), .val (.int (0 : Int32))] [])) st58 ?_
  refine own_retV X58 hx hlk hret (hb hby d9_73) (by decide) (by decide) ?_
  rw [e58]
  exact ⟨rfl, N58, K60, F66, F67, F68, F69, F70, F71, V72, F61, F62, F63, F64⟩

def Qrem20 (Z : State) (a b1 b2 b3 : Addr) (k1 k2 k3 : ClassId) (z x0 x1 x2 u0 u1 u2 t0 t1 t2 : Int32) (c1 c2 c3 : Addr) (aw : Int32) (h0 : Heap) (n0 : Nat) (v : Option Value) (h : Heap) (L : List Loc) : Prop := v = none ∧ Fr n0 L ∧ Keep h0 h [a, b1, b2, b3] ∧ Fld Z h a "com/example/rootcast/rootcast/tree/Children" "count" "I" (.int (1 : Int32)) ∧ Fld Z h a "com/example/rootcast/rootcast/tree/Children" "peers" "[I" (.ref b1) ∧ Fld Z h a "com/example/rootcast/rootcast/tree/Children" "subtree" "[I" (.ref b2) ∧ Fld Z h a "com/example/rootcast/rootcast/tree/Children" "sent" "[I" (.ref b3) ∧ Arv Z h b1 k1 .int z [(.int x1), (.int x1), (.int x2)] (.int (0 : Int32)) ∧ Arv Z h b2 k2 .int z [(.int u1), (.int u1), (.int u2)] (.int (0 : Int32)) ∧ Arv Z h b3 k3 .int z [(.int t1), (.int t1), (.int t2)] (.int (0 : Int32)) ∧ Fld Z h a "com/example/rootcast/rootcast/tree/Children" "awaited" "I" (.int aw) ∧ Fld Z h a "com/example/rootcast/rootcast/tree/Children" "stopped" "[I" (.ref c1) ∧ Fld Z h a "com/example/rootcast/rootcast/tree/Children" "toCome" "[I" (.ref c2) ∧ Fld Z h a "com/example/rootcast/rootcast/tree/Children" "beatsLeft" "[I" (.ref c3)
theorem ef_rm_rem20 (m : MethodId) (x0 : Addr) (x1 : Int32) : entryFrame m #[(.ref x0), (.int x1)] 2 = mkF m 0 #[.val (.ref x0), .val (.int x1)] [] := by first | (simp [entryFrame, mkF, argsToLocals, Value.category, maxLocals]; done) | rfl
set_option maxRecDepth 65536 in
set_option maxHeartbeats 40000000 in
theorem rm_rem20 (l : Launch) (Z : State) (a0 : Array Value) (hw : ∀ d ∈ tables_1, d.before a0 Z = true) (ws : List Jvm.Cond) (a b1 b2 b3 : Addr) (k1 k2 k3 : ClassId) (z x0 x1 x2 u0 u1 u2 t0 t1 t2 : Int32) (c1 c2 c3 : Addr) (aw : Int32) (h0 : Heap) (n0 : Nat) (Z0 : n0 ≤ h0.size) (hz : z.toInt = 3 ∨ z.toInt = 4) (g_a : n0 ≤ a) (g_b1 : n0 ≤ b1) (g_b2 : n0 ≤ b2) (g_b3 : n0 ≤ b3) (dj12 : b1 ≠ b2) (dj13 : b1 ≠ b3) (dj23 : b2 ≠ b3) (E_a : Exa Z h0 a "com/example/rootcast/rootcast/tree/Children") (F_c : Fld Z h0 a "com/example/rootcast/rootcast/tree/Children" "count" "I" (.int (2 : Int32))) (F_p : Fld Z h0 a "com/example/rootcast/rootcast/tree/Children" "peers" "[I" (.ref b1)) (F_u : Fld Z h0 a "com/example/rootcast/rootcast/tree/Children" "subtree" "[I" (.ref b2)) (F_t : Fld Z h0 a "com/example/rootcast/rootcast/tree/Children" "sent" "[I" (.ref b3)) (V_1 : Arv Z h0 b1 k1 .int z [(.int x0), (.int x1), (.int x2)] (.int (0 : Int32))) (V_2 : Arv Z h0 b2 k2 .int z [(.int u0), (.int u1), (.int u2)] (.int (0 : Int32))) (V_3 : Arv Z h0 b3 k3 .int z [(.int t0), (.int t1), (.int t2)] (.int (0 : Int32))) (X_awaited : Fld Z h0 a "com/example/rootcast/rootcast/tree/Children" "awaited" "I" (.int aw)) (X_stopped : Fld Z h0 a "com/example/rootcast/rootcast/tree/Children" "stopped" "[I" (.ref c1)) (X_toCome : Fld Z h0 a "com/example/rootcast/rootcast/tree/Children" "toCome" "[I" (.ref c2)) (X_beatsLeft : Fld Z h0 a "com/example/rootcast/rootcast/tree/Children" "beatsLeft" "[I" (.ref c3)) :
    MetFree l (⟨"com/example/rootcast/rootcast/tree/Children", "remove", "(I)V"⟩ : MethodName) (head1 (Jvm.Cond.code (⟨"com/example/rootcast/rootcast/tree/Children", "remove", "(I)V"⟩ : MethodName) prog_127_method_8_code 2 none :: ws) ({ frames := 1, cells := 0, slots := 0, locals := 18 } : Room)) (fun aa U => aa = #[(.ref a), (.int (0 : Int32))] ∧ Z.Warmed39 U.vm ∧ U.heap = h0) (fun _ _ _ _ _ => True) (fun _ U o U' => ∃ v L, o = .returned v ∧ Qrem20 Z a b1 b2 b3 k1 k2 k3 z x0 x1 x2 u0 u1 u2 t0 t1 t2 c1 c2 c3 aw h0 n0 v U'.heap L ∧ FrameEnd U o U' L (({ frames := 1, cells := 0, slots := 0, locals := 18 } : Room).cells) (({ frames := 1, cells := 0, slots := 0, locals := 18 } : Room).slots)) := by
  refine own_body pf_5 ?_
  intro p e s m below meth c s₁ hx hby hml hown hnm hlk hret hZ X0 e0
  have N0 : Fr n0 [] := Fr.nil n0
  refine own_go (f' := (mkF m 0 #[.val (.ref a), .val (.int (0 : Int32))] [])) (fun t k => castTop (ef_rm_rem20 m a (0 : Int32)) k) ?_
  have ea1 : a ≠ b1 := by obtain ⟨c1, A1, -⟩ := V_1; exact ne_arr E_a (Wd3 hw) A1
  have ea2 : a ≠ b2 := by obtain ⟨c1, A1, -⟩ := V_2; exact ne_arr E_a (Wd3 hw) A1
  have ea3 : a ≠ b3 := by obtain ⟨c1, A1, -⟩ := V_3; exact ne_arr E_a (Wd3 hw) A1
  have hzn : ¬ z < 0 := by rw [Int32.lt_iff_toInt_lt]; show ¬ z.toInt < 0; omega
  have hz3 : 3 ≤ z.toNatClampNeg := by have := nat_of hzn; omega
  have K1 : Keep h0 h0 [a, b1, b2, b3] := Keep.refl _ _
  refine own_aloadN X0 hx (pc' := 1) (hb hby d9_0) rfl rfl rfl ?_
  refine own_dup X0 hx (pc' := 2) (hb hby d9_1) rfl rfl ?_
  refine own_getF X0 hx (pc' := 5) hZ hown (host := "") (Or.inl (Wd32 hw)) Via.refl e0 F_c (hb hby d9_2) rfl (fun T2 X2 e2 => ?_)
  refine own_iconst X2 hx (pc' := 6) (1 : Int32) (hb hby d9_5) rfl rfl ?_
  refine own_isub X2 hx (pc' := 7) (z := (1 : Int32)) (hb hby d9_6) (by decide) rfl ?_
  refine own_putF X2 hx (pc' := 10) hZ (ty := .int) hown (host := "") (Or.inl (Wd32 hw)) Via.refl e2 F_c E_a (Or.inl (Wd33 hw)) (Wd3 hw) (by decide) rfl rfl (hb hby d9_7) rfl (fun T3 h3 X3 e3 W3 => ?_)
  have N4 := Fr.snoc X3 N0 g_a
  have Z5 : n0 ≤ h3.size := Nat.le_trans Z0 (Nat.le_of_eq (Wr.size W3).symm)
  have K6 : Keep h0 h3 [a, b1, b2, b3] := K1.wr W3 (Or.inl (List.mem_of_getElem? (i := 0) rfl))
  have F7 := (Fld.other W3 X_awaited (Or.inr (slot_ne (Or.inl (Wd56 hw)) (Or.inl (Wd33 hw)) (by decide) (t := .int) (t' := .int) (by decide) (by decide))))
  have F8 := (Fld.other W3 X_stopped (Or.inr (slot_ne (Or.inl (Wd20 hw)) (Or.inl (Wd33 hw)) (by decide) (t := (.array .int)) (t' := .int) (by decide) (by decide))))
  have F9 := (Fld.other W3 X_toCome (Or.inr (slot_ne (Or.inl (Wd22 hw)) (Or.inl (Wd33 hw)) (by decide) (t := (.array .int)) (t' := .int) (by decide) (by decide))))
  have F10 := (Fld.other W3 X_beatsLeft (Or.inr (slot_ne (Or.inl (Wd24 hw)) (Or.inl (Wd33 hw)) (by decide) (t := (.array .int)) (t' := .int) (by decide) (by decide))))
  have F11 := (Exa.wr W3 E_a)
  have F12 := (Fld.same W3 F_c)
  have F13 := (Fld.other W3 F_p (Or.inr (slot_ne (Or.inl (Wd14 hw)) (Or.inl (Wd33 hw)) (by decide) (t := (.array .int)) (t' := .int) (by decide) (by decide))))
  have F14 := (Fld.other W3 F_u (Or.inr (slot_ne (Or.inl (Wd16 hw)) (Or.inl (Wd33 hw)) (by decide) (t := (.array .int)) (t' := .int) (by decide) (by decide))))
  have F15 := (Fld.other W3 F_t (Or.inr (slot_ne (Or.inl (Wd18 hw)) (Or.inl (Wd33 hw)) (by decide) (t := (.array .int)) (t' := .int) (by decide) (by decide))))
  have F16 := (V_1.other W3 (Ne.symm ea1))
  have F17 := (V_2.other W3 (Ne.symm ea2))
  have F18 := (V_3.other W3 (Ne.symm ea3))
  refine own_aloadN X3 hx (pc' := 11) (hb hby d9_10) rfl rfl rfl ?_
  refine own_getF X3 hx (pc' := 14) hZ hown (host := "") (Or.inl (Wd13 hw)) Via.refl e3 F13 (hb hby d9_11) rfl (fun T19 X19 e19 => ?_)
  refine own_iloadN X19 hx (pc' := 15) (hb hby d9_14) rfl rfl ?_
  refine own_iconst X19 hx (pc' := 16) (1 : Int32) (hb hby d9_15) rfl rfl ?_
  refine own_iadd X19 hx (pc' := 17) (z := (1 : Int32)) (hb hby d9_16) (by decide) rfl ?_
  refine own_aloadN X19 hx (pc' := 18) (hb hby d9_17) rfl rfl rfl ?_
  refine own_getF X19 hx (pc' := 21) hZ hown (host := "") (Or.inl (Wd13 hw)) Via.refl e19 F13 (hb hby d9_18) rfl (fun T20 X20 e20 => ?_)
  refine own_iloadN X20 hx (pc' := 22) (hb hby d9_21) rfl rfl ?_
  refine own_aloadN X20 hx (pc' := 23) (hb hby d9_22) rfl rfl rfl ?_
  refine own_getF X20 hx (pc' := 26) hZ hown (host := "") (Or.inl (Wd32 hw)) Via.refl e20 F12 (hb hby d9_23) rfl (fun T21 X21 e21 => ?_)
  refine own_iloadN X21 hx (pc' := 27) (hb hby d9_26) rfl rfl ?_
  refine own_isub X21 hx (pc' := 28) (z := (1 : Int32)) (hb hby d9_27) (by decide) rfl ?_
  obtain ⟨T22, h22, L22, X22, e22, N22, K22, V22, st22⟩ := cpA X21 hx hZ hown (Wd67 hw) (Wd49 hw) (Wd47 hw) (Wd48 hw) e21 F16 F16 (Or.inl ⟨rfl, rfl⟩) (by decide) (by decide) (by decide) (Nat.le_trans (by decide : ((1 : Int32) : Int32).toNatClampNeg + ((1 : Int32) : Int32).toNatClampNeg ≤ 2) (Nat.le_trans (by decide) hz3)) (Nat.le_trans (by decide : ((0 : Int32) : Int32).toNatClampNeg + ((1 : Int32) : Int32).toNatClampNeg ≤ 1) (Nat.le_trans (by decide) hz3)) (us := [(.int x1)]) rfl (Nat.le_of_ble_eq_true rfl) N4 g_b1 (g := (mkF m 28 #[.val (.ref a), .val (.int (0 : Int32))] [(.int (1 : Int32)), (.int (0 : Int32)), (.ref b1), (.int (1 : Int32)), (.ref b1)])) rfl (by rw [hml]; rfl) rfl (hb hby d9_28) (by decide) (W := 0) (by show 2 * 0 + _ ≤ _; exact Nat.le_of_eq rfl) (by decide)
  have Z23 : n0 ≤ h22.size := Nat.le_trans Z5 K22.1
  have K24 : Keep h0 h22 [a, b1, b2, b3] := Keep.trans K6 K22 (allS (Or.inl (List.mem_of_getElem? (i := 1) rfl)) all0)
  have F25 := (F7.keep K22 (ninS ea1 nin0))
  have F26 := (F8.keep K22 (ninS ea1 nin0))
  have F27 := (F9.keep K22 (ninS ea1 nin0))
  have F28 := (F10.keep K22 (ninS ea1 nin0))
  have F29 := (Exa.keep F11 K22)
  have F30 := (F12.keep K22 (ninS ea1 nin0))
  have F31 := (F13.keep K22 (ninS ea1 nin0))
  have F32 := (F14.keep K22 (ninS ea1 nin0))
  have F33 := (F15.keep K22 (ninS ea1 nin0))
  have F34 := (F17.keep K22 (ninS (Ne.symm dj12) nin0))
  have F35 := (F18.keep K22 (ninS (Ne.symm dj13) nin0))
  have V36 : Arv Z h22 b1 k1 .int z [(.int x1), (.int x1), (.int x2)] (.int (0 : Int32)) := V22
  refine own_go (f' := (mkF m 31 #[.val (.ref a), .val (.int (0 : Int32))] [])) st22 ?_
  refine own_aloadN X22 hx (pc' := 32) (hb hby d9_31) rfl rfl rfl ?_
  refine own_getF X22 hx (pc' := 35) hZ hown (host := "") (Or.inl (Wd15 hw)) Via.refl e22 F32 (hb hby d9_32) rfl (fun T37 X37 e37 => ?_)
  refine own_iloadN X37 hx (pc' := 36) (hb hby d9_35) rfl rfl ?_
  refine own_iconst X37 hx (pc' := 37) (1 : Int32) (hb hby d9_36) rfl rfl ?_
  refine own_iadd X37 hx (pc' := 38) (z := (1 : Int32)) (hb hby d9_37) (by decide) rfl ?_
  refine own_aloadN X37 hx (pc' := 39) (hb hby d9_38) rfl rfl rfl ?_
  refine own_getF X37 hx (pc' := 42) hZ hown (host := "") (Or.inl (Wd15 hw)) Via.refl e37 F32 (hb hby d9_39) rfl (fun T38 X38 e38 => ?_)
  refine own_iloadN X38 hx (pc' := 43) (hb hby d9_42) rfl rfl ?_
  refine own_aloadN X38 hx (pc' := 44) (hb hby d9_43) rfl rfl rfl ?_
  refine own_getF X38 hx (pc' := 47) hZ hown (host := "") (Or.inl (Wd32 hw)) Via.refl e38 F30 (hb hby d9_44) rfl (fun T39 X39 e39 => ?_)
  refine own_iloadN X39 hx (pc' := 48) (hb hby d9_47) rfl rfl ?_
  refine own_isub X39 hx (pc' := 49) (z := (1 : Int32)) (hb hby d9_48) (by decide) rfl ?_
  obtain ⟨T40, h40, L40, X40, e40, N40, K40, V40, st40⟩ := cpA X39 hx hZ hown (Wd67 hw) (Wd49 hw) (Wd47 hw) (Wd48 hw) e39 F34 F34 (Or.inl ⟨rfl, rfl⟩) (by decide) (by decide) (by decide) (Nat.le_trans (by decide : ((1 : Int32) : Int32).toNatClampNeg + ((1 : Int32) : Int32).toNatClampNeg ≤ 2) (Nat.le_trans (by decide) hz3)) (Nat.le_trans (by decide : ((0 : Int32) : Int32).toNatClampNeg + ((1 : Int32) : Int32).toNatClampNeg ≤ 1) (Nat.le_trans (by decide) hz3)) (us := [(.int u1)]) rfl (Nat.le_of_ble_eq_true rfl) N22 g_b2 (g := (mkF m 49 #[.val (.ref a), .val (.int (0 : Int32))] [(.int (1 : Int32)), (.int (0 : Int32)), (.ref b2), (.int (1 : Int32)), (.ref b2)])) rfl (by rw [hml]; rfl) rfl (hb hby d9_49) (by decide) (W := 0) (by show 2 * 0 + _ ≤ _; exact Nat.le_of_eq rfl) (by decide)
  have Z41 : n0 ≤ h40.size := Nat.le_trans Z23 K40.1
  have K42 : Keep h0 h40 [a, b1, b2, b3] := Keep.trans K24 K40 (allS (Or.inl (List.mem_of_getElem? (i := 2) rfl)) all0)
  have F43 := (F25.keep K40 (ninS ea2 nin0))
  have F44 := (F26.keep K40 (ninS ea2 nin0))
  have F45 := (F27.keep K40 (ninS ea2 nin0))
  have F46 := (F28.keep K40 (ninS ea2 nin0))
  have F47 := (Exa.keep F29 K40)
  have F48 := (F30.keep K40 (ninS ea2 nin0))
  have F49 := (F31.keep K40 (ninS ea2 nin0))
  have F50 := (F32.keep K40 (ninS ea2 nin0))
  have F51 := (F33.keep K40 (ninS ea2 nin0))
  have F52 := (F35.keep K40 (ninS (Ne.symm dj23) nin0))
  have F53 := (V36.keep K40 (ninS dj12 nin0))
  have V54 : Arv Z h40 b2 k2 .int z [(.int u1), (.int u1), (.int u2)] (.int (0 : Int32)) := V40
  refine own_go (f' := (mkF m 52 #[.val (.ref a), .val (.int (0 : Int32))] [])) st40 ?_
  refine own_aloadN X40 hx (pc' := 53) (hb hby d9_52) rfl rfl rfl ?_
  refine own_getF X40 hx (pc' := 56) hZ hown (host := "") (Or.inl (Wd17 hw)) Via.refl e40 F51 (hb hby d9_53) rfl (fun T55 X55 e55 => ?_)
  refine own_iloadN X55 hx (pc' := 57) (hb hby d9_56) rfl rfl ?_
  refine own_iconst X55 hx (pc' := 58) (1 : Int32) (hb hby d9_57) rfl rfl ?_
  refine own_iadd X55 hx (pc' := 59) (z := (1 : Int32)) (hb hby d9_58) (by decide) rfl ?_
  refine own_aloadN X55 hx (pc' := 60) (hb hby d9_59) rfl rfl rfl ?_
  refine own_getF X55 hx (pc' := 63) hZ hown (host := "") (Or.inl (Wd17 hw)) Via.refl e55 F51 (hb hby d9_60) rfl (fun T56 X56 e56 => ?_)
  refine own_iloadN X56 hx (pc' := 64) (hb hby d9_63) rfl rfl ?_
  refine own_aloadN X56 hx (pc' := 65) (hb hby d9_64) rfl rfl rfl ?_
  refine own_getF X56 hx (pc' := 68) hZ hown (host := "") (Or.inl (Wd32 hw)) Via.refl e56 F48 (hb hby d9_65) rfl (fun T57 X57 e57 => ?_)
  refine own_iloadN X57 hx (pc' := 69) (hb hby d9_68) rfl rfl ?_
  refine own_isub X57 hx (pc' := 70) (z := (1 : Int32)) (hb hby d9_69) (by decide) rfl ?_
  obtain ⟨T58, h58, L58, X58, e58, N58, K58, V58, st58⟩ := cpA X57 hx hZ hown (Wd67 hw) (Wd49 hw) (Wd47 hw) (Wd48 hw) e57 F52 F52 (Or.inl ⟨rfl, rfl⟩) (by decide) (by decide) (by decide) (Nat.le_trans (by decide : ((1 : Int32) : Int32).toNatClampNeg + ((1 : Int32) : Int32).toNatClampNeg ≤ 2) (Nat.le_trans (by decide) hz3)) (Nat.le_trans (by decide : ((0 : Int32) : Int32).toNatClampNeg + ((1 : Int32) : Int32).toNatClampNeg ≤ 1) (Nat.le_trans (by decide) hz3)) (us := [(.int t1)]) rfl (Nat.le_of_ble_eq_true rfl) N40 g_b3 (g := (mkF m 70 #[.val (.ref a), .val (.int (0 : Int32))] [(.int (1 : Int32)), (.int (0 : Int32)), (.ref b3), (.int (1 : Int32)), (.ref b3)])) rfl (by rw [hml]; rfl) rfl (hb hby d9_70) (by decide) (W := 0) (by show 2 * 0 + _ ≤ _; exact Nat.le_of_eq rfl) (by decide)
  have Z59 : n0 ≤ h58.size := Nat.le_trans Z41 K58.1
  have K60 : Keep h0 h58 [a, b1, b2, b3] := Keep.trans K42 K58 (allS (Or.inl (List.mem_of_getElem? (i := 3) rfl)) all0)
  have F61 := (F43.keep K58 (ninS ea3 nin0))
  have F62 := (F44.keep K58 (ninS ea3 nin0))
  have F63 := (F45.keep K58 (ninS ea3 nin0))
  have F64 := (F46.keep K58 (ninS ea3 nin0))
  have F65 := (Exa.keep F47 K58)
  have F66 := (F48.keep K58 (ninS ea3 nin0))
  have F67 := (F49.keep K58 (ninS ea3 nin0))
  have F68 := (F50.keep K58 (ninS ea3 nin0))
  have F69 := (F51.keep K58 (ninS ea3 nin0))
  have F70 := (F53.keep K58 (ninS dj13 nin0))
  have F71 := (V54.keep K58 (ninS dj23 nin0))
  have V72 : Arv Z h58 b3 k3 .int z [(.int t1), (.int t1), (.int t2)] (.int (0 : Int32)) := V58
  refine own_go (f' := (mkF m 73 #[.val (.ref a), .val (.int (0 : Int32))] [])) st58 ?_
  refine own_retV X58 hx hlk hret (hb hby d9_73) (by decide) (by decide) ?_
  rw [e58]
  exact ⟨rfl, N58, K60, F66, F67, F68, F69, F70, F71, V72, F61, F62, F63, F64⟩

def Qrem21 (Z : State) (a b1 b2 b3 : Addr) (k1 k2 k3 : ClassId) (z x0 x1 x2 u0 u1 u2 t0 t1 t2 : Int32) (c1 c2 c3 : Addr) (aw : Int32) (h0 : Heap) (n0 : Nat) (v : Option Value) (h : Heap) (L : List Loc) : Prop := v = none ∧ Fr n0 L ∧ Keep h0 h [a, b1, b2, b3] ∧ Fld Z h a "com/example/rootcast/rootcast/tree/Children" "count" "I" (.int (1 : Int32)) ∧ Fld Z h a "com/example/rootcast/rootcast/tree/Children" "peers" "[I" (.ref b1) ∧ Fld Z h a "com/example/rootcast/rootcast/tree/Children" "subtree" "[I" (.ref b2) ∧ Fld Z h a "com/example/rootcast/rootcast/tree/Children" "sent" "[I" (.ref b3) ∧ Arv Z h b1 k1 .int z [(.int x0), (.int x1), (.int x2)] (.int (0 : Int32)) ∧ Arv Z h b2 k2 .int z [(.int u0), (.int u1), (.int u2)] (.int (0 : Int32)) ∧ Arv Z h b3 k3 .int z [(.int t0), (.int t1), (.int t2)] (.int (0 : Int32)) ∧ Fld Z h a "com/example/rootcast/rootcast/tree/Children" "awaited" "I" (.int aw) ∧ Fld Z h a "com/example/rootcast/rootcast/tree/Children" "stopped" "[I" (.ref c1) ∧ Fld Z h a "com/example/rootcast/rootcast/tree/Children" "toCome" "[I" (.ref c2) ∧ Fld Z h a "com/example/rootcast/rootcast/tree/Children" "beatsLeft" "[I" (.ref c3)
theorem ef_rm_rem21 (m : MethodId) (x0 : Addr) (x1 : Int32) : entryFrame m #[(.ref x0), (.int x1)] 2 = mkF m 0 #[.val (.ref x0), .val (.int x1)] [] := by first | (simp [entryFrame, mkF, argsToLocals, Value.category, maxLocals]; done) | rfl
set_option maxRecDepth 65536 in
set_option maxHeartbeats 40000000 in
theorem rm_rem21 (l : Launch) (Z : State) (a0 : Array Value) (hw : ∀ d ∈ tables_1, d.before a0 Z = true) (ws : List Jvm.Cond) (a b1 b2 b3 : Addr) (k1 k2 k3 : ClassId) (z x0 x1 x2 u0 u1 u2 t0 t1 t2 : Int32) (c1 c2 c3 : Addr) (aw : Int32) (h0 : Heap) (n0 : Nat) (Z0 : n0 ≤ h0.size) (hz : z.toInt = 3 ∨ z.toInt = 4) (g_a : n0 ≤ a) (g_b1 : n0 ≤ b1) (g_b2 : n0 ≤ b2) (g_b3 : n0 ≤ b3) (dj12 : b1 ≠ b2) (dj13 : b1 ≠ b3) (dj23 : b2 ≠ b3) (E_a : Exa Z h0 a "com/example/rootcast/rootcast/tree/Children") (F_c : Fld Z h0 a "com/example/rootcast/rootcast/tree/Children" "count" "I" (.int (2 : Int32))) (F_p : Fld Z h0 a "com/example/rootcast/rootcast/tree/Children" "peers" "[I" (.ref b1)) (F_u : Fld Z h0 a "com/example/rootcast/rootcast/tree/Children" "subtree" "[I" (.ref b2)) (F_t : Fld Z h0 a "com/example/rootcast/rootcast/tree/Children" "sent" "[I" (.ref b3)) (V_1 : Arv Z h0 b1 k1 .int z [(.int x0), (.int x1), (.int x2)] (.int (0 : Int32))) (V_2 : Arv Z h0 b2 k2 .int z [(.int u0), (.int u1), (.int u2)] (.int (0 : Int32))) (V_3 : Arv Z h0 b3 k3 .int z [(.int t0), (.int t1), (.int t2)] (.int (0 : Int32))) (X_awaited : Fld Z h0 a "com/example/rootcast/rootcast/tree/Children" "awaited" "I" (.int aw)) (X_stopped : Fld Z h0 a "com/example/rootcast/rootcast/tree/Children" "stopped" "[I" (.ref c1)) (X_toCome : Fld Z h0 a "com/example/rootcast/rootcast/tree/Children" "toCome" "[I" (.ref c2)) (X_beatsLeft : Fld Z h0 a "com/example/rootcast/rootcast/tree/Children" "beatsLeft" "[I" (.ref c3)) :
    MetFree l (⟨"com/example/rootcast/rootcast/tree/Children", "remove", "(I)V"⟩ : MethodName) (head1 (Jvm.Cond.code (⟨"com/example/rootcast/rootcast/tree/Children", "remove", "(I)V"⟩ : MethodName) prog_127_method_8_code 2 none :: ws) ({ frames := 1, cells := 0, slots := 0, locals := 18 } : Room)) (fun aa U => aa = #[(.ref a), (.int (1 : Int32))] ∧ Z.Warmed39 U.vm ∧ U.heap = h0) (fun _ _ _ _ _ => True) (fun _ U o U' => ∃ v L, o = .returned v ∧ Qrem21 Z a b1 b2 b3 k1 k2 k3 z x0 x1 x2 u0 u1 u2 t0 t1 t2 c1 c2 c3 aw h0 n0 v U'.heap L ∧ FrameEnd U o U' L (({ frames := 1, cells := 0, slots := 0, locals := 18 } : Room).cells) (({ frames := 1, cells := 0, slots := 0, locals := 18 } : Room).slots)) := by
  refine own_body pf_5 ?_
  intro p e s m below meth c s₁ hx hby hml hown hnm hlk hret hZ X0 e0
  have N0 : Fr n0 [] := Fr.nil n0
  refine own_go (f' := (mkF m 0 #[.val (.ref a), .val (.int (1 : Int32))] [])) (fun t k => castTop (ef_rm_rem21 m a (1 : Int32)) k) ?_
  have ea1 : a ≠ b1 := by obtain ⟨c1, A1, -⟩ := V_1; exact ne_arr E_a (Wd3 hw) A1
  have ea2 : a ≠ b2 := by obtain ⟨c1, A1, -⟩ := V_2; exact ne_arr E_a (Wd3 hw) A1
  have ea3 : a ≠ b3 := by obtain ⟨c1, A1, -⟩ := V_3; exact ne_arr E_a (Wd3 hw) A1
  have hzn : ¬ z < 0 := by rw [Int32.lt_iff_toInt_lt]; show ¬ z.toInt < 0; omega
  have hz3 : 3 ≤ z.toNatClampNeg := by have := nat_of hzn; omega
  have K1 : Keep h0 h0 [a, b1, b2, b3] := Keep.refl _ _
  refine own_aloadN X0 hx (pc' := 1) (hb hby d9_0) rfl rfl rfl ?_
  refine own_dup X0 hx (pc' := 2) (hb hby d9_1) rfl rfl ?_
  refine own_getF X0 hx (pc' := 5) hZ hown (host := "") (Or.inl (Wd32 hw)) Via.refl e0 F_c (hb hby d9_2) rfl (fun T2 X2 e2 => ?_)
  refine own_iconst X2 hx (pc' := 6) (1 : Int32) (hb hby d9_5) rfl rfl ?_
  refine own_isub X2 hx (pc' := 7) (z := (1 : Int32)) (hb hby d9_6) (by decide) rfl ?_
  refine own_putF X2 hx (pc' := 10) hZ (ty := .int) hown (host := "") (Or.inl (Wd32 hw)) Via.refl e2 F_c E_a (Or.inl (Wd33 hw)) (Wd3 hw) (by decide) rfl rfl (hb hby d9_7) rfl (fun T3 h3 X3 e3 W3 => ?_)
  have N4 := Fr.snoc X3 N0 g_a
  have Z5 : n0 ≤ h3.size := Nat.le_trans Z0 (Nat.le_of_eq (Wr.size W3).symm)
  have K6 : Keep h0 h3 [a, b1, b2, b3] := K1.wr W3 (Or.inl (List.mem_of_getElem? (i := 0) rfl))
  have F7 := (Fld.other W3 X_awaited (Or.inr (slot_ne (Or.inl (Wd56 hw)) (Or.inl (Wd33 hw)) (by decide) (t := .int) (t' := .int) (by decide) (by decide))))
  have F8 := (Fld.other W3 X_stopped (Or.inr (slot_ne (Or.inl (Wd20 hw)) (Or.inl (Wd33 hw)) (by decide) (t := (.array .int)) (t' := .int) (by decide) (by decide))))
  have F9 := (Fld.other W3 X_toCome (Or.inr (slot_ne (Or.inl (Wd22 hw)) (Or.inl (Wd33 hw)) (by decide) (t := (.array .int)) (t' := .int) (by decide) (by decide))))
  have F10 := (Fld.other W3 X_beatsLeft (Or.inr (slot_ne (Or.inl (Wd24 hw)) (Or.inl (Wd33 hw)) (by decide) (t := (.array .int)) (t' := .int) (by decide) (by decide))))
  have F11 := (Exa.wr W3 E_a)
  have F12 := (Fld.same W3 F_c)
  have F13 := (Fld.other W3 F_p (Or.inr (slot_ne (Or.inl (Wd14 hw)) (Or.inl (Wd33 hw)) (by decide) (t := (.array .int)) (t' := .int) (by decide) (by decide))))
  have F14 := (Fld.other W3 F_u (Or.inr (slot_ne (Or.inl (Wd16 hw)) (Or.inl (Wd33 hw)) (by decide) (t := (.array .int)) (t' := .int) (by decide) (by decide))))
  have F15 := (Fld.other W3 F_t (Or.inr (slot_ne (Or.inl (Wd18 hw)) (Or.inl (Wd33 hw)) (by decide) (t := (.array .int)) (t' := .int) (by decide) (by decide))))
  have F16 := (V_1.other W3 (Ne.symm ea1))
  have F17 := (V_2.other W3 (Ne.symm ea2))
  have F18 := (V_3.other W3 (Ne.symm ea3))
  refine own_aloadN X3 hx (pc' := 11) (hb hby d9_10) rfl rfl rfl ?_
  refine own_getF X3 hx (pc' := 14) hZ hown (host := "") (Or.inl (Wd13 hw)) Via.refl e3 F13 (hb hby d9_11) rfl (fun T19 X19 e19 => ?_)
  refine own_iloadN X19 hx (pc' := 15) (hb hby d9_14) rfl rfl ?_
  refine own_iconst X19 hx (pc' := 16) (1 : Int32) (hb hby d9_15) rfl rfl ?_
  refine own_iadd X19 hx (pc' := 17) (z := (2 : Int32)) (hb hby d9_16) (by decide) rfl ?_
  refine own_aloadN X19 hx (pc' := 18) (hb hby d9_17) rfl rfl rfl ?_
  refine own_getF X19 hx (pc' := 21) hZ hown (host := "") (Or.inl (Wd13 hw)) Via.refl e19 F13 (hb hby d9_18) rfl (fun T20 X20 e20 => ?_)
  refine own_iloadN X20 hx (pc' := 22) (hb hby d9_21) rfl rfl ?_
  refine own_aloadN X20 hx (pc' := 23) (hb hby d9_22) rfl rfl rfl ?_
  refine own_getF X20 hx (pc' := 26) hZ hown (host := "") (Or.inl (Wd32 hw)) Via.refl e20 F12 (hb hby d9_23) rfl (fun T21 X21 e21 => ?_)
  refine own_iloadN X21 hx (pc' := 27) (hb hby d9_26) rfl rfl ?_
  refine own_isub X21 hx (pc' := 28) (z := (0 : Int32)) (hb hby d9_27) (by decide) rfl ?_
  obtain ⟨T22, h22, L22, X22, e22, N22, K22, V22, st22⟩ := cpA X21 hx hZ hown (Wd67 hw) (Wd49 hw) (Wd47 hw) (Wd48 hw) e21 F16 F16 (Or.inl ⟨rfl, rfl⟩) (by decide) (by decide) (by decide) (Nat.le_trans (by decide : ((2 : Int32) : Int32).toNatClampNeg + ((0 : Int32) : Int32).toNatClampNeg ≤ 2) (Nat.le_trans (by decide) hz3)) (Nat.le_trans (by decide : ((1 : Int32) : Int32).toNatClampNeg + ((0 : Int32) : Int32).toNatClampNeg ≤ 1) (Nat.le_trans (by decide) hz3)) (us := []) rfl (Nat.le_of_ble_eq_true rfl) N4 g_b1 (g := (mkF m 28 #[.val (.ref a), .val (.int (1 : Int32))] [(.int (0 : Int32)), (.int (1 : Int32)), (.ref b1), (.int (2 : Int32)), (.ref b1)])) rfl (by rw [hml]; rfl) rfl (hb hby d9_28) (by decide) (W := 0) (by show 2 * 0 + _ ≤ _; exact Nat.le_of_eq rfl) (by decide)
  have Z23 : n0 ≤ h22.size := Nat.le_trans Z5 K22.1
  have K24 : Keep h0 h22 [a, b1, b2, b3] := Keep.trans K6 K22 (allS (Or.inl (List.mem_of_getElem? (i := 1) rfl)) all0)
  have F25 := (F7.keep K22 (ninS ea1 nin0))
  have F26 := (F8.keep K22 (ninS ea1 nin0))
  have F27 := (F9.keep K22 (ninS ea1 nin0))
  have F28 := (F10.keep K22 (ninS ea1 nin0))
  have F29 := (Exa.keep F11 K22)
  have F30 := (F12.keep K22 (ninS ea1 nin0))
  have F31 := (F13.keep K22 (ninS ea1 nin0))
  have F32 := (F14.keep K22 (ninS ea1 nin0))
  have F33 := (F15.keep K22 (ninS ea1 nin0))
  have F34 := (F17.keep K22 (ninS (Ne.symm dj12) nin0))
  have F35 := (F18.keep K22 (ninS (Ne.symm dj13) nin0))
  have V36 : Arv Z h22 b1 k1 .int z [(.int x0), (.int x1), (.int x2)] (.int (0 : Int32)) := V22
  refine own_go (f' := (mkF m 31 #[.val (.ref a), .val (.int (1 : Int32))] [])) st22 ?_
  refine own_aloadN X22 hx (pc' := 32) (hb hby d9_31) rfl rfl rfl ?_
  refine own_getF X22 hx (pc' := 35) hZ hown (host := "") (Or.inl (Wd15 hw)) Via.refl e22 F32 (hb hby d9_32) rfl (fun T37 X37 e37 => ?_)
  refine own_iloadN X37 hx (pc' := 36) (hb hby d9_35) rfl rfl ?_
  refine own_iconst X37 hx (pc' := 37) (1 : Int32) (hb hby d9_36) rfl rfl ?_
  refine own_iadd X37 hx (pc' := 38) (z := (2 : Int32)) (hb hby d9_37) (by decide) rfl ?_
  refine own_aloadN X37 hx (pc' := 39) (hb hby d9_38) rfl rfl rfl ?_
  refine own_getF X37 hx (pc' := 42) hZ hown (host := "") (Or.inl (Wd15 hw)) Via.refl e37 F32 (hb hby d9_39) rfl (fun T38 X38 e38 => ?_)
  refine own_iloadN X38 hx (pc' := 43) (hb hby d9_42) rfl rfl ?_
  refine own_aloadN X38 hx (pc' := 44) (hb hby d9_43) rfl rfl rfl ?_
  refine own_getF X38 hx (pc' := 47) hZ hown (host := "") (Or.inl (Wd32 hw)) Via.refl e38 F30 (hb hby d9_44) rfl (fun T39 X39 e39 => ?_)
  refine own_iloadN X39 hx (pc' := 48) (hb hby d9_47) rfl rfl ?_
  refine own_isub X39 hx (pc' := 49) (z := (0 : Int32)) (hb hby d9_48) (by decide) rfl ?_
  obtain ⟨T40, h40, L40, X40, e40, N40, K40, V40, st40⟩ := cpA X39 hx hZ hown (Wd67 hw) (Wd49 hw) (Wd47 hw) (Wd48 hw) e39 F34 F34 (Or.inl ⟨rfl, rfl⟩) (by decide) (by decide) (by decide) (Nat.le_trans (by decide : ((2 : Int32) : Int32).toNatClampNeg + ((0 : Int32) : Int32).toNatClampNeg ≤ 2) (Nat.le_trans (by decide) hz3)) (Nat.le_trans (by decide : ((1 : Int32) : Int32).toNatClampNeg + ((0 : Int32) : Int32).toNatClampNeg ≤ 1) (Nat.le_trans (by decide) hz3)) (us := []) rfl (Nat.le_of_ble_eq_true rfl) N22 g_b2 (g := (mkF m 49 #[.val (.ref a), .val (.int (1 : Int32))] [(.int (0 : Int32)), (.int (1 : Int32)), (.ref b2), (.int (2 : Int32)), (.ref b2)])) rfl (by rw [hml]; rfl) rfl (hb hby d9_49) (by decide) (W := 0) (by show 2 * 0 + _ ≤ _; exact Nat.le_of_eq rfl) (by decide)
  have Z41 : n0 ≤ h40.size := Nat.le_trans Z23 K40.1
  have K42 : Keep h0 h40 [a, b1, b2, b3] := Keep.trans K24 K40 (allS (Or.inl (List.mem_of_getElem? (i := 2) rfl)) all0)
  have F43 := (F25.keep K40 (ninS ea2 nin0))
  have F44 := (F26.keep K40 (ninS ea2 nin0))
  have F45 := (F27.keep K40 (ninS ea2 nin0))
  have F46 := (F28.keep K40 (ninS ea2 nin0))
  have F47 := (Exa.keep F29 K40)
  have F48 := (F30.keep K40 (ninS ea2 nin0))
  have F49 := (F31.keep K40 (ninS ea2 nin0))
  have F50 := (F32.keep K40 (ninS ea2 nin0))
  have F51 := (F33.keep K40 (ninS ea2 nin0))
  have F52 := (F35.keep K40 (ninS (Ne.symm dj23) nin0))
  have F53 := (V36.keep K40 (ninS dj12 nin0))
  have V54 : Arv Z h40 b2 k2 .int z [(.int u0), (.int u1), (.int u2)] (.int (0 : Int32)) := V40
  refine own_go (f' := (mkF m 52 #[.val (.ref a), .val (.int (1 : Int32))] [])) st40 ?_
  refine own_aloadN X40 hx (pc' := 53) (hb hby d9_52) rfl rfl rfl ?_
  refine own_getF X40 hx (pc' := 56) hZ hown (host := "") (Or.inl (Wd17 hw)) Via.refl e40 F51 (hb hby d9_53) rfl (fun T55 X55 e55 => ?_)
  refine own_iloadN X55 hx (pc' := 57) (hb hby d9_56) rfl rfl ?_
  refine own_iconst X55 hx (pc' := 58) (1 : Int32) (hb hby d9_57) rfl rfl ?_
  refine own_iadd X55 hx (pc' := 59) (z := (2 : Int32)) (hb hby d9_58) (by decide) rfl ?_
  refine own_aloadN X55 hx (pc' := 60) (hb hby d9_59) rfl rfl rfl ?_
  refine own_getF X55 hx (pc' := 63) hZ hown (host := "") (Or.inl (Wd17 hw)) Via.refl e55 F51 (hb hby d9_60) rfl (fun T56 X56 e56 => ?_)
  refine own_iloadN X56 hx (pc' := 64) (hb hby d9_63) rfl rfl ?_
  refine own_aloadN X56 hx (pc' := 65) (hb hby d9_64) rfl rfl rfl ?_
  refine own_getF X56 hx (pc' := 68) hZ hown (host := "") (Or.inl (Wd32 hw)) Via.refl e56 F48 (hb hby d9_65) rfl (fun T57 X57 e57 => ?_)
  refine own_iloadN X57 hx (pc' := 69) (hb hby d9_68) rfl rfl ?_
  refine own_isub X57 hx (pc' := 70) (z := (0 : Int32)) (hb hby d9_69) (by decide) rfl ?_
  obtain ⟨T58, h58, L58, X58, e58, N58, K58, V58, st58⟩ := cpA X57 hx hZ hown (Wd67 hw) (Wd49 hw) (Wd47 hw) (Wd48 hw) e57 F52 F52 (Or.inl ⟨rfl, rfl⟩) (by decide) (by decide) (by decide) (Nat.le_trans (by decide : ((2 : Int32) : Int32).toNatClampNeg + ((0 : Int32) : Int32).toNatClampNeg ≤ 2) (Nat.le_trans (by decide) hz3)) (Nat.le_trans (by decide : ((1 : Int32) : Int32).toNatClampNeg + ((0 : Int32) : Int32).toNatClampNeg ≤ 1) (Nat.le_trans (by decide) hz3)) (us := []) rfl (Nat.le_of_ble_eq_true rfl) N40 g_b3 (g := (mkF m 70 #[.val (.ref a), .val (.int (1 : Int32))] [(.int (0 : Int32)), (.int (1 : Int32)), (.ref b3), (.int (2 : Int32)), (.ref b3)])) rfl (by rw [hml]; rfl) rfl (hb hby d9_70) (by decide) (W := 0) (by show 2 * 0 + _ ≤ _; exact Nat.le_of_eq rfl) (by decide)
  have Z59 : n0 ≤ h58.size := Nat.le_trans Z41 K58.1
  have K60 : Keep h0 h58 [a, b1, b2, b3] := Keep.trans K42 K58 (allS (Or.inl (List.mem_of_getElem? (i := 3) rfl)) all0)
  have F61 := (F43.keep K58 (ninS ea3 nin0))
  have F62 := (F44.keep K58 (ninS ea3 nin0))
  have F63 := (F45.keep K58 (ninS ea3 nin0))
  have F64 := (F46.keep K58 (ninS ea3 nin0))
  have F65 := (Exa.keep F47 K58)
  have F66 := (F48.keep K58 (ninS ea3 nin0))
  have F67 := (F49.keep K58 (ninS ea3 nin0))
  have F68 := (F50.keep K58 (ninS ea3 nin0))
  have F69 := (F51.keep K58 (ninS ea3 nin0))
  have F70 := (F53.keep K58 (ninS dj13 nin0))
  have F71 := (V54.keep K58 (ninS dj23 nin0))
  have V72 : Arv Z h58 b3 k3 .int z [(.int t0), (.int t1), (.int t2)] (.int (0 : Int32)) := V58
  refine own_go (f' := (mkF m 73 #[.val (.ref a), .val (.int (1 : Int32))] [])) st58 ?_
  refine own_retV X58 hx hlk hret (hb hby d9_73) (by decide) (by decide) ?_
  rw [e58]
  exact ⟨rfl, N58, K60, F66, F67, F68, F69, F70, F71, V72, F61, F62, F63, F64⟩

def Qrem30 (Z : State) (a b1 b2 b3 : Addr) (k1 k2 k3 : ClassId) (z x0 x1 x2 u0 u1 u2 t0 t1 t2 : Int32) (c1 c2 c3 : Addr) (aw : Int32) (h0 : Heap) (n0 : Nat) (v : Option Value) (h : Heap) (L : List Loc) : Prop := v = none ∧ Fr n0 L ∧ Keep h0 h [a, b1, b2, b3] ∧ Fld Z h a "com/example/rootcast/rootcast/tree/Children" "count" "I" (.int (2 : Int32)) ∧ Fld Z h a "com/example/rootcast/rootcast/tree/Children" "peers" "[I" (.ref b1) ∧ Fld Z h a "com/example/rootcast/rootcast/tree/Children" "subtree" "[I" (.ref b2) ∧ Fld Z h a "com/example/rootcast/rootcast/tree/Children" "sent" "[I" (.ref b3) ∧ Arv Z h b1 k1 .int z [(.int x1), (.int x2), (.int x2)] (.int (0 : Int32)) ∧ Arv Z h b2 k2 .int z [(.int u1), (.int u2), (.int u2)] (.int (0 : Int32)) ∧ Arv Z h b3 k3 .int z [(.int t1), (.int t2), (.int t2)] (.int (0 : Int32)) ∧ Fld Z h a "com/example/rootcast/rootcast/tree/Children" "awaited" "I" (.int aw) ∧ Fld Z h a "com/example/rootcast/rootcast/tree/Children" "stopped" "[I" (.ref c1) ∧ Fld Z h a "com/example/rootcast/rootcast/tree/Children" "toCome" "[I" (.ref c2) ∧ Fld Z h a "com/example/rootcast/rootcast/tree/Children" "beatsLeft" "[I" (.ref c3)
theorem ef_rm_rem30 (m : MethodId) (x0 : Addr) (x1 : Int32) : entryFrame m #[(.ref x0), (.int x1)] 2 = mkF m 0 #[.val (.ref x0), .val (.int x1)] [] := by first | (simp [entryFrame, mkF, argsToLocals, Value.category, maxLocals]; done) | rfl
set_option maxRecDepth 65536 in
set_option maxHeartbeats 40000000 in
theorem rm_rem30 (l : Launch) (Z : State) (a0 : Array Value) (hw : ∀ d ∈ tables_1, d.before a0 Z = true) (ws : List Jvm.Cond) (a b1 b2 b3 : Addr) (k1 k2 k3 : ClassId) (z x0 x1 x2 u0 u1 u2 t0 t1 t2 : Int32) (c1 c2 c3 : Addr) (aw : Int32) (h0 : Heap) (n0 : Nat) (Z0 : n0 ≤ h0.size) (hz : z.toInt = 3 ∨ z.toInt = 4) (g_a : n0 ≤ a) (g_b1 : n0 ≤ b1) (g_b2 : n0 ≤ b2) (g_b3 : n0 ≤ b3) (dj12 : b1 ≠ b2) (dj13 : b1 ≠ b3) (dj23 : b2 ≠ b3) (E_a : Exa Z h0 a "com/example/rootcast/rootcast/tree/Children") (F_c : Fld Z h0 a "com/example/rootcast/rootcast/tree/Children" "count" "I" (.int (3 : Int32))) (F_p : Fld Z h0 a "com/example/rootcast/rootcast/tree/Children" "peers" "[I" (.ref b1)) (F_u : Fld Z h0 a "com/example/rootcast/rootcast/tree/Children" "subtree" "[I" (.ref b2)) (F_t : Fld Z h0 a "com/example/rootcast/rootcast/tree/Children" "sent" "[I" (.ref b3)) (V_1 : Arv Z h0 b1 k1 .int z [(.int x0), (.int x1), (.int x2)] (.int (0 : Int32))) (V_2 : Arv Z h0 b2 k2 .int z [(.int u0), (.int u1), (.int u2)] (.int (0 : Int32))) (V_3 : Arv Z h0 b3 k3 .int z [(.int t0), (.int t1), (.int t2)] (.int (0 : Int32))) (X_awaited : Fld Z h0 a "com/example/rootcast/rootcast/tree/Children" "awaited" "I" (.int aw)) (X_stopped : Fld Z h0 a "com/example/rootcast/rootcast/tree/Children" "stopped" "[I" (.ref c1)) (X_toCome : Fld Z h0 a "com/example/rootcast/rootcast/tree/Children" "toCome" "[I" (.ref c2)) (X_beatsLeft : Fld Z h0 a "com/example/rootcast/rootcast/tree/Children" "beatsLeft" "[I" (.ref c3)) :
    MetFree l (⟨"com/example/rootcast/rootcast/tree/Children", "remove", "(I)V"⟩ : MethodName) (head1 (Jvm.Cond.code (⟨"com/example/rootcast/rootcast/tree/Children", "remove", "(I)V"⟩ : MethodName) prog_127_method_8_code 2 none :: ws) ({ frames := 1, cells := 0, slots := 0, locals := 18 } : Room)) (fun aa U => aa = #[(.ref a), (.int (0 : Int32))] ∧ Z.Warmed39 U.vm ∧ U.heap = h0) (fun _ _ _ _ _ => True) (fun _ U o U' => ∃ v L, o = .returned v ∧ Qrem30 Z a b1 b2 b3 k1 k2 k3 z x0 x1 x2 u0 u1 u2 t0 t1 t2 c1 c2 c3 aw h0 n0 v U'.heap L ∧ FrameEnd U o U' L (({ frames := 1, cells := 0, slots := 0, locals := 18 } : Room).cells) (({ frames := 1, cells := 0, slots := 0, locals := 18 } : Room).slots)) := by
  refine own_body pf_5 ?_
  intro p e s m below meth c s₁ hx hby hml hown hnm hlk hret hZ X0 e0
  have N0 : Fr n0 [] := Fr.nil n0
  refine own_go (f' := (mkF m 0 #[.val (.ref a), .val (.int (0 : Int32))] [])) (fun t k => castTop (ef_rm_rem30 m a (0 : Int32)) k) ?_
  have ea1 : a ≠ b1 := by obtain ⟨c1, A1, -⟩ := V_1; exact ne_arr E_a (Wd3 hw) A1
  have ea2 : a ≠ b2 := by obtain ⟨c1, A1, -⟩ := V_2; exact ne_arr E_a (Wd3 hw) A1
  have ea3 : a ≠ b3 := by obtain ⟨c1, A1, -⟩ := V_3; exact ne_arr E_a (Wd3 hw) A1
  have hzn : ¬ z < 0 := by rw [Int32.lt_iff_toInt_lt]; show ¬ z.toInt < 0; omega
  have hz3 : 3 ≤ z.toNatClampNeg := by have := nat_of hzn; omega
  have K1 : Keep h0 h0 [a, b1, b2, b3] := Keep.refl _ _
  refine own_aloadN X0 hx (pc' := 1) (hb hby d9_0) rfl rfl rfl ?_
  refine own_dup X0 hx (pc' := 2) (hb hby d9_1) rfl rfl ?_
  refine own_getF X0 hx (pc' := 5) hZ hown (host := "") (Or.inl (Wd32 hw)) Via.refl e0 F_c (hb hby d9_2) rfl (fun T2 X2 e2 => ?_)
  refine own_iconst X2 hx (pc' := 6) (1 : Int32) (hb hby d9_5) rfl rfl ?_
  refine own_isub X2 hx (pc' := 7) (z := (2 : Int32)) (hb hby d9_6) (by decide) rfl ?_
  refine own_putF X2 hx (pc' := 10) hZ (ty := .int) hown (host := "") (Or.inl (Wd32 hw)) Via.refl e2 F_c E_a (Or.inl (Wd33 hw)) (Wd3 hw) (by decide) rfl rfl (hb hby d9_7) rfl (fun T3 h3 X3 e3 W3 => ?_)
  have N4 := Fr.snoc X3 N0 g_a
  have Z5 : n0 ≤ h3.size := Nat.le_trans Z0 (Nat.le_of_eq (Wr.size W3).symm)
  have K6 : Keep h0 h3 [a, b1, b2, b3] := K1.wr W3 (Or.inl (List.mem_of_getElem? (i := 0) rfl))
  have F7 := (Fld.other W3 X_awaited (Or.inr (slot_ne (Or.inl (Wd56 hw)) (Or.inl (Wd33 hw)) (by decide) (t := .int) (t' := .int) (by decide) (by decide))))
  have F8 := (Fld.other W3 X_stopped (Or.inr (slot_ne (Or.inl (Wd20 hw)) (Or.inl (Wd33 hw)) (by decide) (t := (.array .int)) (t' := .int) (by decide) (by decide))))
  have F9 := (Fld.other W3 X_toCome (Or.inr (slot_ne (Or.inl (Wd22 hw)) (Or.inl (Wd33 hw)) (by decide) (t := (.array .int)) (t' := .int) (by decide) (by decide))))
  have F10 := (Fld.other W3 X_beatsLeft (Or.inr (slot_ne (Or.inl (Wd24 hw)) (Or.inl (Wd33 hw)) (by decide) (t := (.array .int)) (t' := .int) (by decide) (by decide))))
  have F11 := (Exa.wr W3 E_a)
  have F12 := (Fld.same W3 F_c)
  have F13 := (Fld.other W3 F_p (Or.inr (slot_ne (Or.inl (Wd14 hw)) (Or.inl (Wd33 hw)) (by decide) (t := (.array .int)) (t' := .int) (by decide) (by decide))))
  have F14 := (Fld.other W3 F_u (Or.inr (slot_ne (Or.inl (Wd16 hw)) (Or.inl (Wd33 hw)) (by decide) (t := (.array .int)) (t' := .int) (by decide) (by decide))))
  have F15 := (Fld.other W3 F_t (Or.inr (slot_ne (Or.inl (Wd18 hw)) (Or.inl (Wd33 hw)) (by decide) (t := (.array .int)) (t' := .int) (by decide) (by decide))))
  have F16 := (V_1.other W3 (Ne.symm ea1))
  have F17 := (V_2.other W3 (Ne.symm ea2))
  have F18 := (V_3.other W3 (Ne.symm ea3))
  refine own_aloadN X3 hx (pc' := 11) (hb hby d9_10) rfl rfl rfl ?_
  refine own_getF X3 hx (pc' := 14) hZ hown (host := "") (Or.inl (Wd13 hw)) Via.refl e3 F13 (hb hby d9_11) rfl (fun T19 X19 e19 => ?_)
  refine own_iloadN X19 hx (pc' := 15) (hb hby d9_14) rfl rfl ?_
  refine own_iconst X19 hx (pc' := 16) (1 : Int32) (hb hby d9_15) rfl rfl ?_
  refine own_iadd X19 hx (pc' := 17) (z := (1 : Int32)) (hb hby d9_16) (by decide) rfl ?_
  refine own_aloadN X19 hx (pc' := 18) (hb hby d9_17) rfl rfl rfl ?_
  refine own_getF X19 hx (pc' := 21) hZ hown (host := "") (Or.inl (Wd13 hw)) Via.refl e19 F13 (hb hby d9_18) rfl (fun T20 X20 e20 => ?_)
  refine own_iloadN X20 hx (pc' := 22) (hb hby d9_21) rfl rfl ?_
  refine own_aloadN X20 hx (pc' := 23) (hb hby d9_22) rfl rfl rfl ?_
  refine own_getF X20 hx (pc' := 26) hZ hown (host := "") (Or.inl (Wd32 hw)) Via.refl e20 F12 (hb hby d9_23) rfl (fun T21 X21 e21 => ?_)
  refine own_iloadN X21 hx (pc' := 27) (hb hby d9_26) rfl rfl ?_
  refine own_isub X21 hx (pc' := 28) (z := (2 : Int32)) (hb hby d9_27) (by decide) rfl ?_
  obtain ⟨T22, h22, L22, X22, e22, N22, K22, V22, st22⟩ := cpA X21 hx hZ hown (Wd67 hw) (Wd49 hw) (Wd47 hw) (Wd48 hw) e21 F16 F16 (Or.inl ⟨rfl, rfl⟩) (by decide) (by decide) (by decide) (Nat.le_trans (by decide : ((1 : Int32) : Int32).toNatClampNeg + ((2 : Int32) : Int32).toNatClampNeg ≤ 3) (Nat.le_trans (by decide) hz3)) (Nat.le_trans (by decide : ((0 : Int32) : Int32).toNatClampNeg + ((2 : Int32) : Int32).toNatClampNeg ≤ 2) (Nat.le_trans (by decide) hz3)) (us := [(.int x1), (.int x2)]) rfl (Nat.le_of_ble_eq_true rfl) N4 g_b1 (g := (mkF m 28 #[.val (.ref a), .val (.int (0 : Int32))] [(.int (2 : Int32)), (.int (0 : Int32)), (.ref b1), (.int (1 : Int32)), (.ref b1)])) rfl (by rw [hml]; rfl) rfl (hb hby d9_28) (by decide) (W := 0) (by show 2 * 0 + _ ≤ _; exact Nat.le_of_eq rfl) (by decide)
  have Z23 : n0 ≤ h22.size := Nat.le_trans Z5 K22.1
  have K24 : Keep h0 h22 [a, b1, b2, b3] := Keep.trans K6 K22 (allS (Or.inl (List.mem_of_getElem? (i := 1) rfl)) all0)
  have F25 := (F7.keep K22 (ninS ea1 nin0))
  have F26 := (F8.keep K22 (ninS ea1 nin0))
  have F27 := (F9.keep K22 (ninS ea1 nin0))
  have F28 := (F10.keep K22 (ninS ea1 nin0))
  have F29 := (Exa.keep F11 K22)
  have F30 := (F12.keep K22 (ninS ea1 nin0))
  have F31 := (F13.keep K22 (ninS ea1 nin0))
  have F32 := (F14.keep K22 (ninS ea1 nin0))
  have F33 := (F15.keep K22 (ninS ea1 nin0))
  have F34 := (F17.keep K22 (ninS (Ne.symm dj12) nin0))
  have F35 := (F18.keep K22 (ninS (Ne.symm dj13) nin0))
  have V36 : Arv Z h22 b1 k1 .int z [(.int x1), (.int x2), (.int x2)] (.int (0 : Int32)) := V22
  refine own_go (f' := (mkF m 31 #[.val (.ref a), .val (.int (0 : Int32))] [])) st22 ?_
  refine own_aloadN X22 hx (pc' := 32) (hb hby d9_31) rfl rfl rfl ?_
  refine own_getF X22 hx (pc' := 35) hZ hown (host := "") (Or.inl (Wd15 hw)) Via.refl e22 F32 (hb hby d9_32) rfl (fun T37 X37 e37 => ?_)
  refine own_iloadN X37 hx (pc' := 36) (hb hby d9_35) rfl rfl ?_
  refine own_iconst X37 hx (pc' := 37) (1 : Int32) (hb hby d9_36) rfl rfl ?_
  refine own_iadd X37 hx (pc' := 38) (z := (1 : Int32)) (hb hby d9_37) (by decide) rfl ?_
  refine own_aloadN X37 hx (pc' := 39) (hb hby d9_38) rfl rfl rfl ?_
  refine own_getF X37 hx (pc' := 42) hZ hown (host := "") (Or.inl (Wd15 hw)) Via.refl e37 F32 (hb hby d9_39) rfl (fun T38 X38 e38 => ?_)
  refine own_iloadN X38 hx (pc' := 43) (hb hby d9_42) rfl rfl ?_
  refine own_aloadN X38 hx (pc' := 44) (hb hby d9_43) rfl rfl rfl ?_
  refine own_getF X38 hx (pc' := 47) hZ hown (host := "") (Or.inl (Wd32 hw)) Via.refl e38 F30 (hb hby d9_44) rfl (fun T39 X39 e39 => ?_)
  refine own_iloadN X39 hx (pc' := 48) (hb hby d9_47) rfl rfl ?_
  refine own_isub X39 hx (pc' := 49) (z := (2 : Int32)) (hb hby d9_48) (by decide) rfl ?_
  obtain ⟨T40, h40, L40, X40, e40, N40, K40, V40, st40⟩ := cpA X39 hx hZ hown (Wd67 hw) (Wd49 hw) (Wd47 hw) (Wd48 hw) e39 F34 F34 (Or.inl ⟨rfl, rfl⟩) (by decide) (by decide) (by decide) (Nat.le_trans (by decide : ((1 : Int32) : Int32).toNatClampNeg + ((2 : Int32) : Int32).toNatClampNeg ≤ 3) (Nat.le_trans (by decide) hz3)) (Nat.le_trans (by decide : ((0 : Int32) : Int32).toNatClampNeg + ((2 : Int32) : Int32).toNatClampNeg ≤ 2) (Nat.le_trans (by decide) hz3)) (us := [(.int u1), (.int u2)]) rfl (Nat.le_of_ble_eq_true rfl) N22 g_b2 (g := (mkF m 49 #[.val (.ref a), .val (.int (0 : Int32))] [(.int (2 : Int32)), (.int (0 : Int32)), (.ref b2), (.int (1 : Int32)), (.ref b2)])) rfl (by rw [hml]; rfl) rfl (hb hby d9_49) (by decide) (W := 0) (by show 2 * 0 + _ ≤ _; exact Nat.le_of_eq rfl) (by decide)
  have Z41 : n0 ≤ h40.size := Nat.le_trans Z23 K40.1
  have K42 : Keep h0 h40 [a, b1, b2, b3] := Keep.trans K24 K40 (allS (Or.inl (List.mem_of_getElem? (i := 2) rfl)) all0)
  have F43 := (F25.keep K40 (ninS ea2 nin0))
  have F44 := (F26.keep K40 (ninS ea2 nin0))
  have F45 := (F27.keep K40 (ninS ea2 nin0))
  have F46 := (F28.keep K40 (ninS ea2 nin0))
  have F47 := (Exa.keep F29 K40)
  have F48 := (F30.keep K40 (ninS ea2 nin0))
  have F49 := (F31.keep K40 (ninS ea2 nin0))
  have F50 := (F32.keep K40 (ninS ea2 nin0))
  have F51 := (F33.keep K40 (ninS ea2 nin0))
  have F52 := (F35.keep K40 (ninS (Ne.symm dj23) nin0))
  have F53 := (V36.keep K40 (ninS dj12 nin0))
  have V54 : Arv Z h40 b2 k2 .int z [(.int u1), (.int u2), (.int u2)] (.int (0 : Int32)) := V40
  refine own_go (f' := (mkF m 52 #[.val (.ref a), .val (.int (0 : Int32))] [])) st40 ?_
  refine own_aloadN X40 hx (pc' := 53) (hb hby d9_52) rfl rfl rfl ?_
  refine own_getF X40 hx (pc' := 56) hZ hown (host := "") (Or.inl (Wd17 hw)) Via.refl e40 F51 (hb hby d9_53) rfl (fun T55 X55 e55 => ?_)
  refine own_iloadN X55 hx (pc' := 57) (hb hby d9_56) rfl rfl ?_
  refine own_iconst X55 hx (pc' := 58) (1 : Int32) (hb hby d9_57) rfl rfl ?_
  refine own_iadd X55 hx (pc' := 59) (z := (1 : Int32)) (hb hby d9_58) (by decide) rfl ?_
  refine own_aloadN X55 hx (pc' := 60) (hb hby d9_59) rfl rfl rfl ?_
  refine own_getF X55 hx (pc' := 63) hZ hown (host := "") (Or.inl (Wd17 hw)) Via.refl e55 F51 (hb hby d9_60) rfl (fun T56 X56 e56 => ?_)
  refine own_iloadN X56 hx (pc' := 64) (hb hby d9_63) rfl rfl ?_
  refine own_aloadN X56 hx (pc' := 65) (hb hby d9_64) rfl rfl rfl ?_
  refine own_getF X56 hx (pc' := 68) hZ hown (host := "") (Or.inl (Wd32 hw)) Via.refl e56 F48 (hb hby d9_65) rfl (fun T57 X57 e57 => ?_)
  refine own_iloadN X57 hx (pc' := 69) (hb hby d9_68) rfl rfl ?_
  refine own_isub X57 hx (pc' := 70) (z := (2 : Int32)) (hb hby d9_69) (by decide) rfl ?_
  obtain ⟨T58, h58, L58, X58, e58, N58, K58, V58, st58⟩ := cpA X57 hx hZ hown (Wd67 hw) (Wd49 hw) (Wd47 hw) (Wd48 hw) e57 F52 F52 (Or.inl ⟨rfl, rfl⟩) (by decide) (by decide) (by decide) (Nat.le_trans (by decide : ((1 : Int32) : Int32).toNatClampNeg + ((2 : Int32) : Int32).toNatClampNeg ≤ 3) (Nat.le_trans (by decide) hz3)) (Nat.le_trans (by decide : ((0 : Int32) : Int32).toNatClampNeg + ((2 : Int32) : Int32).toNatClampNeg ≤ 2) (Nat.le_trans (by decide) hz3)) (us := [(.int t1), (.int t2)]) rfl (Nat.le_of_ble_eq_true rfl) N40 g_b3 (g := (mkF m 70 #[.val (.ref a), .val (.int (0 : Int32))] [(.int (2 : Int32)), (.int (0 : Int32)), (.ref b3), (.int (1 : Int32)), (.ref b3)])) rfl (by rw [hml]; rfl) rfl (hb hby d9_70) (by decide) (W := 0) (by show 2 * 0 + _ ≤ _; exact Nat.le_of_eq rfl) (by decide)
  have Z59 : n0 ≤ h58.size := Nat.le_trans Z41 K58.1
  have K60 : Keep h0 h58 [a, b1, b2, b3] := Keep.trans K42 K58 (allS (Or.inl (List.mem_of_getElem? (i := 3) rfl)) all0)
  have F61 := (F43.keep K58 (ninS ea3 nin0))
  have F62 := (F44.keep K58 (ninS ea3 nin0))
  have F63 := (F45.keep K58 (ninS ea3 nin0))
  have F64 := (F46.keep K58 (ninS ea3 nin0))
  have F65 := (Exa.keep F47 K58)
  have F66 := (F48.keep K58 (ninS ea3 nin0))
  have F67 := (F49.keep K58 (ninS ea3 nin0))
  have F68 := (F50.keep K58 (ninS ea3 nin0))
  have F69 := (F51.keep K58 (ninS ea3 nin0))
  have F70 := (F53.keep K58 (ninS dj13 nin0))
  have F71 := (V54.keep K58 (ninS dj23 nin0))
  have V72 : Arv Z h58 b3 k3 .int z [(.int t1), (.int t2), (.int t2)] (.int (0 : Int32)) := V58
  refine own_go (f' := (mkF m 73 #[.val (.ref a), .val (.int (0 : Int32))] [])) st58 ?_
  refine own_retV X58 hx hlk hret (hb hby d9_73) (by decide) (by decide) ?_
  rw [e58]
  exact ⟨rfl, N58, K60, F66, F67, F68, F69, F70, F71, V72, F61, F62, F63, F64⟩

def Qrem31 (Z : State) (a b1 b2 b3 : Addr) (k1 k2 k3 : ClassId) (z x0 x1 x2 u0 u1 u2 t0 t1 t2 : Int32) (c1 c2 c3 : Addr) (aw : Int32) (h0 : Heap) (n0 : Nat) (v : Option Value) (h : Heap) (L : List Loc) : Prop := v = none ∧ Fr n0 L ∧ Keep h0 h [a, b1, b2, b3] ∧ Fld Z h a "com/example/rootcast/rootcast/tree/Children" "count" "I" (.int (2 : Int32)) ∧ Fld Z h a "com/example/rootcast/rootcast/tree/Children" "peers" "[I" (.ref b1) ∧ Fld Z h a "com/example/rootcast/rootcast/tree/Children" "subtree" "[I" (.ref b2) ∧ Fld Z h a "com/example/rootcast/rootcast/tree/Children" "sent" "[I" (.ref b3) ∧ Arv Z h b1 k1 .int z [(.int x0), (.int x2), (.int x2)] (.int (0 : Int32)) ∧ Arv Z h b2 k2 .int z [(.int u0), (.int u2), (.int u2)] (.int (0 : Int32)) ∧ Arv Z h b3 k3 .int z [(.int t0), (.int t2), (.int t2)] (.int (0 : Int32)) ∧ Fld Z h a "com/example/rootcast/rootcast/tree/Children" "awaited" "I" (.int aw) ∧ Fld Z h a "com/example/rootcast/rootcast/tree/Children" "stopped" "[I" (.ref c1) ∧ Fld Z h a "com/example/rootcast/rootcast/tree/Children" "toCome" "[I" (.ref c2) ∧ Fld Z h a "com/example/rootcast/rootcast/tree/Children" "beatsLeft" "[I" (.ref c3)
theorem ef_rm_rem31 (m : MethodId) (x0 : Addr) (x1 : Int32) : entryFrame m #[(.ref x0), (.int x1)] 2 = mkF m 0 #[.val (.ref x0), .val (.int x1)] [] := by first | (simp [entryFrame, mkF, argsToLocals, Value.category, maxLocals]; done) | rfl
set_option maxRecDepth 65536 in
set_option maxHeartbeats 40000000 in
theorem rm_rem31 (l : Launch) (Z : State) (a0 : Array Value) (hw : ∀ d ∈ tables_1, d.before a0 Z = true) (ws : List Jvm.Cond) (a b1 b2 b3 : Addr) (k1 k2 k3 : ClassId) (z x0 x1 x2 u0 u1 u2 t0 t1 t2 : Int32) (c1 c2 c3 : Addr) (aw : Int32) (h0 : Heap) (n0 : Nat) (Z0 : n0 ≤ h0.size) (hz : z.toInt = 3 ∨ z.toInt = 4) (g_a : n0 ≤ a) (g_b1 : n0 ≤ b1) (g_b2 : n0 ≤ b2) (g_b3 : n0 ≤ b3) (dj12 : b1 ≠ b2) (dj13 : b1 ≠ b3) (dj23 : b2 ≠ b3) (E_a : Exa Z h0 a "com/example/rootcast/rootcast/tree/Children") (F_c : Fld Z h0 a "com/example/rootcast/rootcast/tree/Children" "count" "I" (.int (3 : Int32))) (F_p : Fld Z h0 a "com/example/rootcast/rootcast/tree/Children" "peers" "[I" (.ref b1)) (F_u : Fld Z h0 a "com/example/rootcast/rootcast/tree/Children" "subtree" "[I" (.ref b2)) (F_t : Fld Z h0 a "com/example/rootcast/rootcast/tree/Children" "sent" "[I" (.ref b3)) (V_1 : Arv Z h0 b1 k1 .int z [(.int x0), (.int x1), (.int x2)] (.int (0 : Int32))) (V_2 : Arv Z h0 b2 k2 .int z [(.int u0), (.int u1), (.int u2)] (.int (0 : Int32))) (V_3 : Arv Z h0 b3 k3 .int z [(.int t0), (.int t1), (.int t2)] (.int (0 : Int32))) (X_awaited : Fld Z h0 a "com/example/rootcast/rootcast/tree/Children" "awaited" "I" (.int aw)) (X_stopped : Fld Z h0 a "com/example/rootcast/rootcast/tree/Children" "stopped" "[I" (.ref c1)) (X_toCome : Fld Z h0 a "com/example/rootcast/rootcast/tree/Children" "toCome" "[I" (.ref c2)) (X_beatsLeft : Fld Z h0 a "com/example/rootcast/rootcast/tree/Children" "beatsLeft" "[I" (.ref c3)) :
    MetFree l (⟨"com/example/rootcast/rootcast/tree/Children", "remove", "(I)V"⟩ : MethodName) (head1 (Jvm.Cond.code (⟨"com/example/rootcast/rootcast/tree/Children", "remove", "(I)V"⟩ : MethodName) prog_127_method_8_code 2 none :: ws) ({ frames := 1, cells := 0, slots := 0, locals := 18 } : Room)) (fun aa U => aa = #[(.ref a), (.int (1 : Int32))] ∧ Z.Warmed39 U.vm ∧ U.heap = h0) (fun _ _ _ _ _ => True) (fun _ U o U' => ∃ v L, o = .returned v ∧ Qrem31 Z a b1 b2 b3 k1 k2 k3 z x0 x1 x2 u0 u1 u2 t0 t1 t2 c1 c2 c3 aw h0 n0 v U'.heap L ∧ FrameEnd U o U' L (({ frames := 1, cells := 0, slots := 0, locals := 18 } : Room).cells) (({ frames := 1, cells := 0, slots := 0, locals := 18 } : Room).slots)) := by
  refine own_body pf_5 ?_
  intro p e s m below meth c s₁ hx hby hml hown hnm hlk hret hZ X0 e0
  have N0 : Fr n0 [] := Fr.nil n0
  refine own_go (f' := (mkF m 0 #[.val (.ref a), .val (.int (1 : Int32))] [])) (fun t k => castTop (ef_rm_rem31 m a (1 : Int32)) k) ?_
  have ea1 : a ≠ b1 := by obtain ⟨c1, A1, -⟩ := V_1; exact ne_arr E_a (Wd3 hw) A1
  have ea2 : a ≠ b2 := by obtain ⟨c1, A1, -⟩ := V_2; exact ne_arr E_a (Wd3 hw) A1
  have ea3 : a ≠ b3 := by obtain ⟨c1, A1, -⟩ := V_3; exact ne_arr E_a (Wd3 hw) A1
  have hzn : ¬ z < 0 := by rw [Int32.lt_iff_toInt_lt]; show ¬ z.toInt < 0; omega
  have hz3 : 3 ≤ z.toNatClampNeg := by have := nat_of hzn; omega
  have K1 : Keep h0 h0 [a, b1, b2, b3] := Keep.refl _ _
  refine own_aloadN X0 hx (pc' := 1) (hb hby d9_0) rfl rfl rfl ?_
  refine own_dup X0 hx (pc' := 2) (hb hby d9_1) rfl rfl ?_
  refine own_getF X0 hx (pc' := 5) hZ hown (host := "") (Or.inl (Wd32 hw)) Via.refl e0 F_c (hb hby d9_2) rfl (fun T2 X2 e2 => ?_)
  refine own_iconst X2 hx (pc' := 6) (1 : Int32) (hb hby d9_5) rfl rfl ?_
  refine own_isub X2 hx (pc' := 7) (z := (2 : Int32)) (hb hby d9_6) (by decide) rfl ?_
  refine own_putF X2 hx (pc' := 10) hZ (ty := .int) hown (host := "") (Or.inl (Wd32 hw)) Via.refl e2 F_c E_a (Or.inl (Wd33 hw)) (Wd3 hw) (by decide) rfl rfl (hb hby d9_7) rfl (fun T3 h3 X3 e3 W3 => ?_)
  have N4 := Fr.snoc X3 N0 g_a
  have Z5 : n0 ≤ h3.size := Nat.le_trans Z0 (Nat.le_of_eq (Wr.size W3).symm)
  have K6 : Keep h0 h3 [a, b1, b2, b3] := K1.wr W3 (Or.inl (List.mem_of_getElem? (i := 0) rfl))
  have F7 := (Fld.other W3 X_awaited (Or.inr (slot_ne (Or.inl (Wd56 hw)) (Or.inl (Wd33 hw)) (by decide) (t := .int) (t' := .int) (by decide) (by decide))))
  have F8 := (Fld.other W3 X_stopped (Or.inr (slot_ne (Or.inl (Wd20 hw)) (Or.inl (Wd33 hw)) (by decide) (t := (.array .int)) (t' := .int) (by decide) (by decide))))
  have F9 := (Fld.other W3 X_toCome (Or.inr (slot_ne (Or.inl (Wd22 hw)) (Or.inl (Wd33 hw)) (by decide) (t := (.array .int)) (t' := .int) (by decide) (by decide))))
  have F10 := (Fld.other W3 X_beatsLeft (Or.inr (slot_ne (Or.inl (Wd24 hw)) (Or.inl (Wd33 hw)) (by decide) (t := (.array .int)) (t' := .int) (by decide) (by decide))))
  have F11 := (Exa.wr W3 E_a)
  have F12 := (Fld.same W3 F_c)
  have F13 := (Fld.other W3 F_p (Or.inr (slot_ne (Or.inl (Wd14 hw)) (Or.inl (Wd33 hw)) (by decide) (t := (.array .int)) (t' := .int) (by decide) (by decide))))
  have F14 := (Fld.other W3 F_u (Or.inr (slot_ne (Or.inl (Wd16 hw)) (Or.inl (Wd33 hw)) (by decide) (t := (.array .int)) (t' := .int) (by decide) (by decide))))
  have F15 := (Fld.other W3 F_t (Or.inr (slot_ne (Or.inl (Wd18 hw)) (Or.inl (Wd33 hw)) (by decide) (t := (.array .int)) (t' := .int) (by decide) (by decide))))
  have F16 := (V_1.other W3 (Ne.symm ea1))
  have F17 := (V_2.other W3 (Ne.symm ea2))
  have F18 := (V_3.other W3 (Ne.symm ea3))
  refine own_aloadN X3 hx (pc' := 11) (hb hby d9_10) rfl rfl rfl ?_
  refine own_getF X3 hx (pc' := 14) hZ hown (host := "") (Or.inl (Wd13 hw)) Via.refl e3 F13 (hb hby d9_11) rfl (fun T19 X19 e19 => ?_)
  refine own_iloadN X19 hx (pc' := 15) (hb hby d9_14) rfl rfl ?_
  refine own_iconst X19 hx (pc' := 16) (1 : Int32) (hb hby d9_15) rfl rfl ?_
  refine own_iadd X19 hx (pc' := 17) (z := (2 : Int32)) (hb hby d9_16) (by decide) rfl ?_
  refine own_aloadN X19 hx (pc' := 18) (hb hby d9_17) rfl rfl rfl ?_
  refine own_getF X19 hx (pc' := 21) hZ hown (host := "") (Or.inl (Wd13 hw)) Via.refl e19 F13 (hb hby d9_18) rfl (fun T20 X20 e20 => ?_)
  refine own_iloadN X20 hx (pc' := 22) (hb hby d9_21) rfl rfl ?_
  refine own_aloadN X20 hx (pc' := 23) (hb hby d9_22) rfl rfl rfl ?_
  refine own_getF X20 hx (pc' := 26) hZ hown (host := "") (Or.inl (Wd32 hw)) Via.refl e20 F12 (hb hby d9_23) rfl (fun T21 X21 e21 => ?_)
  refine own_iloadN X21 hx (pc' := 27) (hb hby d9_26) rfl rfl ?_
  refine own_isub X21 hx (pc' := 28) (z := (1 : Int32)) (hb hby d9_27) (by decide) rfl ?_
  obtain ⟨T22, h22, L22, X22, e22, N22, K22, V22, st22⟩ := cpA X21 hx hZ hown (Wd67 hw) (Wd49 hw) (Wd47 hw) (Wd48 hw) e21 F16 F16 (Or.inl ⟨rfl, rfl⟩) (by decide) (by decide) (by decide) (Nat.le_trans (by decide : ((2 : Int32) : Int32).toNatClampNeg + ((1 : Int32) : Int32).toNatClampNeg ≤ 3) (Nat.le_trans (by decide) hz3)) (Nat.le_trans (by decide : ((1 : Int32) : Int32).toNatClampNeg + ((1 : Int32) : Int32).toNatClampNeg ≤ 2) (Nat.le_trans (by decide) hz3)) (us := [(.int x2)]) rfl (Nat.le_of_ble_eq_true rfl) N4 g_b1 (g := (mkF m 28 #[.val (.ref a), .val (.int (1 : Int32))] [(.int (1 : Int32)), (.int (1 : Int32)), (.ref b1), (.int (2 : Int32)), (.ref b1)])) rfl (by rw [hml]; rfl) rfl (hb hby d9_28) (by decide) (W := 0) (by show 2 * 0 + _ ≤ _; exact Nat.le_of_eq rfl) (by decide)
  have Z23 : n0 ≤ h22.size := Nat.le_trans Z5 K22.1
  have K24 : Keep h0 h22 [a, b1, b2, b3] := Keep.trans K6 K22 (allS (Or.inl (List.mem_of_getElem? (i := 1) rfl)) all0)
  have F25 := (F7.keep K22 (ninS ea1 nin0))
  have F26 := (F8.keep K22 (ninS ea1 nin0))
  have F27 := (F9.keep K22 (ninS ea1 nin0))
  have F28 := (F10.keep K22 (ninS ea1 nin0))
  have F29 := (Exa.keep F11 K22)
  have F30 := (F12.keep K22 (ninS ea1 nin0))
  have F31 := (F13.keep K22 (ninS ea1 nin0))
  have F32 := (F14.keep K22 (ninS ea1 nin0))
  have F33 := (F15.keep K22 (ninS ea1 nin0))
  have F34 := (F17.keep K22 (ninS (Ne.symm dj12) nin0))
  have F35 := (F18.keep K22 (ninS (Ne.symm dj13) nin0))
  have V36 : Arv Z h22 b1 k1 .int z [(.int x0), (.int x2), (.int x2)] (.int (0 : Int32)) := V22
  refine own_go (f' := (mkF m 31 #[.val (.ref a), .val (.int (1 : Int32))] [])) st22 ?_
  refine own_aloadN X22 hx (pc' := 32) (hb hby d9_31) rfl rfl rfl ?_
  refine own_getF X22 hx (pc' := 35) hZ hown (host := "") (Or.inl (Wd15 hw)) Via.refl e22 F32 (hb hby d9_32) rfl (fun T37 X37 e37 => ?_)
  refine own_iloadN X37 hx (pc' := 36) (hb hby d9_35) rfl rfl ?_
  refine own_iconst X37 hx (pc' := 37) (1 : Int32) (hb hby d9_36) rfl rfl ?_
  refine own_iadd X37 hx (pc' := 38) (z := (2 : Int32)) (hb hby d9_37) (by decide) rfl ?_
  refine own_aloadN X37 hx (pc' := 39) (hb hby d9_38) rfl rfl rfl ?_
  refine own_getF X37 hx (pc' := 42) hZ hown (host := "") (Or.inl (Wd15 hw)) Via.refl e37 F32 (hb hby d9_39) rfl (fun T38 X38 e38 => ?_)
  refine own_iloadN X38 hx (pc' := 43) (hb hby d9_42) rfl rfl ?_
  refine own_aloadN X38 hx (pc' := 44) (hb hby d9_43) rfl rfl rfl ?_
  refine own_getF X38 hx (pc' := 47) hZ hown (host := "") (Or.inl (Wd32 hw)) Via.refl e38 F30 (hb hby d9_44) rfl (fun T39 X39 e39 => ?_)
  refine own_iloadN X39 hx (pc' := 48) (hb hby d9_47) rfl rfl ?_
  refine own_isub X39 hx (pc' := 49) (z := (1 : Int32)) (hb hby d9_48) (by decide) rfl ?_
  obtain ⟨T40, h40, L40, X40, e40, N40, K40, V40, st40⟩ := cpA X39 hx hZ hown (Wd67 hw) (Wd49 hw) (Wd47 hw) (Wd48 hw) e39 F34 F34 (Or.inl ⟨rfl, rfl⟩) (by decide) (by decide) (by decide) (Nat.le_trans (by decide : ((2 : Int32) : Int32).toNatClampNeg + ((1 : Int32) : Int32).toNatClampNeg ≤ 3) (Nat.le_trans (by decide) hz3)) (Nat.le_trans (by decide : ((1 : Int32) : Int32).toNatClampNeg + ((1 : Int32) : Int32).toNatClampNeg ≤ 2) (Nat.le_trans (by decide) hz3)) (us := [(.int u2)]) rfl (Nat.le_of_ble_eq_true rfl) N22 g_b2 (g := (mkF m 49 #[.val (.ref a), .val (.int (1 : Int32))] [(.int (1 : Int32)), (.int (1 : Int32)), (.ref b2), (.int (2 : Int32)), (.ref b2)])) rfl (by rw [hml]; rfl) rfl (hb hby d9_49) (by decide) (W := 0) (by show 2 * 0 + _ ≤ _; exact Nat.le_of_eq rfl) (by decide)
  have Z41 : n0 ≤ h40.size := Nat.le_trans Z23 K40.1
  have K42 : Keep h0 h40 [a, b1, b2, b3] := Keep.trans K24 K40 (allS (Or.inl (List.mem_of_getElem? (i := 2) rfl)) all0)
  have F43 := (F25.keep K40 (ninS ea2 nin0))
  have F44 := (F26.keep K40 (ninS ea2 nin0))
  have F45 := (F27.keep K40 (ninS ea2 nin0))
  have F46 := (F28.keep K40 (ninS ea2 nin0))
  have F47 := (Exa.keep F29 K40)
  have F48 := (F30.keep K40 (ninS ea2 nin0))
  have F49 := (F31.keep K40 (ninS ea2 nin0))
  have F50 := (F32.keep K40 (ninS ea2 nin0))
  have F51 := (F33.keep K40 (ninS ea2 nin0))
  have F52 := (F35.keep K40 (ninS (Ne.symm dj23) nin0))
  have F53 := (V36.keep K40 (ninS dj12 nin0))
  have V54 : Arv Z h40 b2 k2 .int z [(.int u0), (.int u2), (.int u2)] (.int (0 : Int32)) := V40
  refine own_go (f' := (mkF m 52 #[.val (.ref a), .val (.int (1 : Int32))] [])) st40 ?_
  refine own_aloadN X40 hx (pc' := 53) (hb hby d9_52) rfl rfl rfl ?_
  refine own_getF X40 hx (pc' := 56) hZ hown (host := "") (Or.inl (Wd17 hw)) Via.refl e40 F51 (hb hby d9_53) rfl (fun T55 X55 e55 => ?_)
  refine own_iloadN X55 hx (pc' := 57) (hb hby d9_56) rfl rfl ?_
  refine own_iconst X55 hx (pc' := 58) (1 : Int32) (hb hby d9_57) rfl rfl ?_
  refine own_iadd X55 hx (pc' := 59) (z := (2 : Int32)) (hb hby d9_58) (by decide) rfl ?_
  refine own_aloadN X55 hx (pc' := 60) (hb hby d9_59) rfl rfl rfl ?_
  refine own_getF X55 hx (pc' := 63) hZ hown (host := "") (Or.inl (Wd17 hw)) Via.refl e55 F51 (hb hby d9_60) rfl (fun T56 X56 e56 => ?_)
  refine own_iloadN X56 hx (pc' := 64) (hb hby d9_63) rfl rfl ?_
  refine own_aloadN X56 hx (pc' := 65) (hb hby d9_64) rfl rfl rfl ?_
  refine own_getF X56 hx (pc' := 68) hZ hown (host := "") (Or.inl (Wd32 hw)) Via.refl e56 F48 (hb hby d9_65) rfl (fun T57 X57 e57 => ?_)
  refine own_iloadN X57 hx (pc' := 69) (hb hby d9_68) rfl rfl ?_
  refine own_isub X57 hx (pc' := 70) (z := (1 : Int32)) (hb hby d9_69) (by decide) rfl ?_
  obtain ⟨T58, h58, L58, X58, e58, N58, K58, V58, st58⟩ := cpA X57 hx hZ hown (Wd67 hw) (Wd49 hw) (Wd47 hw) (Wd48 hw) e57 F52 F52 (Or.inl ⟨rfl, rfl⟩) (by decide) (by decide) (by decide) (Nat.le_trans (by decide : ((2 : Int32) : Int32).toNatClampNeg + ((1 : Int32) : Int32).toNatClampNeg ≤ 3) (Nat.le_trans (by decide) hz3)) (Nat.le_trans (by decide : ((1 : Int32) : Int32).toNatClampNeg + ((1 : Int32) : Int32).toNatClampNeg ≤ 2) (Nat.le_trans (by decide) hz3)) (us := [(.int t2)]) rfl (Nat.le_of_ble_eq_true rfl) N40 g_b3 (g := (mkF m 70 #[.val (.ref a), .val (.int (1 : Int32))] [(.int (1 : Int32)), (.int (1 : Int32)), (.ref b3), (.int (2 : Int32)), (.ref b3)])) rfl (by rw [hml]; rfl) rfl (hb hby d9_70) (by decide) (W := 0) (by show 2 * 0 + _ ≤ _; exact Nat.le_of_eq rfl) (by decide)
  have Z59 : n0 ≤ h58.size := Nat.le_trans Z41 K58.1
  have K60 : Keep h0 h58 [a, b1, b2, b3] := Keep.trans K42 K58 (allS (Or.inl (List.mem_of_getElem? (i := 3) rfl)) all0)
  have F61 := (F43.keep K58 (ninS ea3 nin0))
  have F62 := (F44.keep K58 (ninS ea3 nin0))
  have F63 := (F45.keep K58 (ninS ea3 nin0))
  have F64 := (F46.keep K58 (ninS ea3 nin0))
  have F65 := (Exa.keep F47 K58)
  have F66 := (F48.keep K58 (ninS ea3 nin0))
  have F67 := (F49.keep K58 (ninS ea3 nin0))
  have F68 := (F50.keep K58 (ninS ea3 nin0))
  have F69 := (F51.keep K58 (ninS ea3 nin0))
  have F70 := (F53.keep K58 (ninS dj13 nin0))
  have F71 := (V54.keep K58 (ninS dj23 nin0))
  have V72 : Arv Z h58 b3 k3 .int z [(.int t0), (.int t2), (.int t2)] (.int (0 : Int32)) := V58
  refine own_go (f' := (mkF m 73 #[.val (.ref a), .val (.int (1 : Int32))] [])) st58 ?_
  refine own_retV X58 hx hlk hret (hb hby d9_73) (by decide) (by decide) ?_
  rw [e58]
  exact ⟨rfl, N58, K60, F66, F67, F68, F69, F70, F71, V72, F61, F62, F63, F64⟩

def Qrem32 (Z : State) (a b1 b2 b3 : Addr) (k1 k2 k3 : ClassId) (z x0 x1 x2 u0 u1 u2 t0 t1 t2 : Int32) (c1 c2 c3 : Addr) (aw : Int32) (h0 : Heap) (n0 : Nat) (v : Option Value) (h : Heap) (L : List Loc) : Prop := v = none ∧ Fr n0 L ∧ Keep h0 h [a, b1, b2, b3] ∧ Fld Z h a "com/example/rootcast/rootcast/tree/Children" "count" "I" (.int (2 : Int32)) ∧ Fld Z h a "com/example/rootcast/rootcast/tree/Children" "peers" "[I" (.ref b1) ∧ Fld Z h a "com/example/rootcast/rootcast/tree/Children" "subtree" "[I" (.ref b2) ∧ Fld Z h a "com/example/rootcast/rootcast/tree/Children" "sent" "[I" (.ref b3) ∧ Arv Z h b1 k1 .int z [(.int x0), (.int x1), (.int x2)] (.int (0 : Int32)) ∧ Arv Z h b2 k2 .int z [(.int u0), (.int u1), (.int u2)] (.int (0 : Int32)) ∧ Arv Z h b3 k3 .int z [(.int t0), (.int t1), (.int t2)] (.int (0 : Int32)) ∧ Fld Z h a "com/example/rootcast/rootcast/tree/Children" "awaited" "I" (.int aw) ∧ Fld Z h a "com/example/rootcast/rootcast/tree/Children" "stopped" "[I" (.ref c1) ∧ Fld Z h a "com/example/rootcast/rootcast/tree/Children" "toCome" "[I" (.ref c2) ∧ Fld Z h a "com/example/rootcast/rootcast/tree/Children" "beatsLeft" "[I" (.ref c3)
theorem ef_rm_rem32 (m : MethodId) (x0 : Addr) (x1 : Int32) : entryFrame m #[(.ref x0), (.int x1)] 2 = mkF m 0 #[.val (.ref x0), .val (.int x1)] [] := by first | (simp [entryFrame, mkF, argsToLocals, Value.category, maxLocals]; done) | rfl
set_option maxRecDepth 65536 in
set_option maxHeartbeats 40000000 in
theorem rm_rem32 (l : Launch) (Z : State) (a0 : Array Value) (hw : ∀ d ∈ tables_1, d.before a0 Z = true) (ws : List Jvm.Cond) (a b1 b2 b3 : Addr) (k1 k2 k3 : ClassId) (z x0 x1 x2 u0 u1 u2 t0 t1 t2 : Int32) (c1 c2 c3 : Addr) (aw : Int32) (h0 : Heap) (n0 : Nat) (Z0 : n0 ≤ h0.size) (hz : z.toInt = 3 ∨ z.toInt = 4) (g_a : n0 ≤ a) (g_b1 : n0 ≤ b1) (g_b2 : n0 ≤ b2) (g_b3 : n0 ≤ b3) (dj12 : b1 ≠ b2) (dj13 : b1 ≠ b3) (dj23 : b2 ≠ b3) (E_a : Exa Z h0 a "com/example/rootcast/rootcast/tree/Children") (F_c : Fld Z h0 a "com/example/rootcast/rootcast/tree/Children" "count" "I" (.int (3 : Int32))) (F_p : Fld Z h0 a "com/example/rootcast/rootcast/tree/Children" "peers" "[I" (.ref b1)) (F_u : Fld Z h0 a "com/example/rootcast/rootcast/tree/Children" "subtree" "[I" (.ref b2)) (F_t : Fld Z h0 a "com/example/rootcast/rootcast/tree/Children" "sent" "[I" (.ref b3)) (V_1 : Arv Z h0 b1 k1 .int z [(.int x0), (.int x1), (.int x2)] (.int (0 : Int32))) (V_2 : Arv Z h0 b2 k2 .int z [(.int u0), (.int u1), (.int u2)] (.int (0 : Int32))) (V_3 : Arv Z h0 b3 k3 .int z [(.int t0), (.int t1), (.int t2)] (.int (0 : Int32))) (X_awaited : Fld Z h0 a "com/example/rootcast/rootcast/tree/Children" "awaited" "I" (.int aw)) (X_stopped : Fld Z h0 a "com/example/rootcast/rootcast/tree/Children" "stopped" "[I" (.ref c1)) (X_toCome : Fld Z h0 a "com/example/rootcast/rootcast/tree/Children" "toCome" "[I" (.ref c2)) (X_beatsLeft : Fld Z h0 a "com/example/rootcast/rootcast/tree/Children" "beatsLeft" "[I" (.ref c3)) :
    MetFree l (⟨"com/example/rootcast/rootcast/tree/Children", "remove", "(I)V"⟩ : MethodName) (head1 (Jvm.Cond.code (⟨"com/example/rootcast/rootcast/tree/Children", "remove", "(I)V"⟩ : MethodName) prog_127_method_8_code 2 none :: ws) ({ frames := 1, cells := 0, slots := 0, locals := 18 } : Room)) (fun aa U => aa = #[(.ref a), (.int (2 : Int32))] ∧ Z.Warmed39 U.vm ∧ U.heap = h0) (fun _ _ _ _ _ => True) (fun _ U o U' => ∃ v L, o = .returned v ∧ Qrem32 Z a b1 b2 b3 k1 k2 k3 z x0 x1 x2 u0 u1 u2 t0 t1 t2 c1 c2 c3 aw h0 n0 v U'.heap L ∧ FrameEnd U o U' L (({ frames := 1, cells := 0, slots := 0, locals := 18 } : Room).cells) (({ frames := 1, cells := 0, slots := 0, locals := 18 } : Room).slots)) := by
  refine own_body pf_5 ?_
  intro p e s m below meth c s₁ hx hby hml hown hnm hlk hret hZ X0 e0
  have N0 : Fr n0 [] := Fr.nil n0
  refine own_go (f' := (mkF m 0 #[.val (.ref a), .val (.int (2 : Int32))] [])) (fun t k => castTop (ef_rm_rem32 m a (2 : Int32)) k) ?_
  have ea1 : a ≠ b1 := by obtain ⟨c1, A1, -⟩ := V_1; exact ne_arr E_a (Wd3 hw) A1
  have ea2 : a ≠ b2 := by obtain ⟨c1, A1, -⟩ := V_2; exact ne_arr E_a (Wd3 hw) A1
  have ea3 : a ≠ b3 := by obtain ⟨c1, A1, -⟩ := V_3; exact ne_arr E_a (Wd3 hw) A1
  have hzn : ¬ z < 0 := by rw [Int32.lt_iff_toInt_lt]; show ¬ z.toInt < 0; omega
  have hz3 : 3 ≤ z.toNatClampNeg := by have := nat_of hzn; omega
  have K1 : Keep h0 h0 [a, b1, b2, b3] := Keep.refl _ _
  refine own_aloadN X0 hx (pc' := 1) (hb hby d9_0) rfl rfl rfl ?_
  refine own_dup X0 hx (pc' := 2) (hb hby d9_1) rfl rfl ?_
  refine own_getF X0 hx (pc' := 5) hZ hown (host := "") (Or.inl (Wd32 hw)) Via.refl e0 F_c (hb hby d9_2) rfl (fun T2 X2 e2 => ?_)
  refine own_iconst X2 hx (pc' := 6) (1 : Int32) (hb hby d9_5) rfl rfl ?_
  refine own_isub X2 hx (pc' := 7) (z := (2 : Int32)) (hb hby d9_6) (by decide) rfl ?_
  refine own_putF X2 hx (pc' := 10) hZ (ty := .int) hown (host := "") (Or.inl (Wd32 hw)) Via.refl e2 F_c E_a (Or.inl (Wd33 hw)) (Wd3 hw) (by decide) rfl rfl (hb hby d9_7) rfl (fun T3 h3 X3 e3 W3 => ?_)
  have N4 := Fr.snoc X3 N0 g_a
  have Z5 : n0 ≤ h3.size := Nat.le_trans Z0 (Nat.le_of_eq (Wr.size W3).symm)
  have K6 : Keep h0 h3 [a, b1, b2, b3] := K1.wr W3 (Or.inl (List.mem_of_getElem? (i := 0) rfl))
  have F7 := (Fld.other W3 X_awaited (Or.inr (slot_ne (Or.inl (Wd56 hw)) (Or.inl (Wd33 hw)) (by decide) (t := .int) (t' := .int) (by decide) (by decide))))
  have F8 := (Fld.other W3 X_stopped (Or.inr (slot_ne (Or.inl (Wd20 hw)) (Or.inl (Wd33 hw)) (by decide) (t := (.array .int)) (t' := .int) (by decide) (by decide))))
  have F9 := (Fld.other W3 X_toCome (Or.inr (slot_ne (Or.inl (Wd22 hw)) (Or.inl (Wd33 hw)) (by decide) (t := (.array .int)) (t' := .int) (by decide) (by decide))))
  have F10 := (Fld.other W3 X_beatsLeft (Or.inr (slot_ne (Or.inl (Wd24 hw)) (Or.inl (Wd33 hw)) (by decide) (t := (.array .int)) (t' := .int) (by decide) (by decide))))
  have F11 := (Exa.wr W3 E_a)
  have F12 := (Fld.same W3 F_c)
  have F13 := (Fld.other W3 F_p (Or.inr (slot_ne (Or.inl (Wd14 hw)) (Or.inl (Wd33 hw)) (by decide) (t := (.array .int)) (t' := .int) (by decide) (by decide))))
  have F14 := (Fld.other W3 F_u (Or.inr (slot_ne (Or.inl (Wd16 hw)) (Or.inl (Wd33 hw)) (by decide) (t := (.array .int)) (t' := .int) (by decide) (by decide))))
  have F15 := (Fld.other W3 F_t (Or.inr (slot_ne (Or.inl (Wd18 hw)) (Or.inl (Wd33 hw)) (by decide) (t := (.array .int)) (t' := .int) (by decide) (by decide))))
  have F16 := (V_1.other W3 (Ne.symm ea1))
  have F17 := (V_2.other W3 (Ne.symm ea2))
  have F18 := (V_3.other W3 (Ne.symm ea3))
  refine own_aloadN X3 hx (pc' := 11) (hb hby d9_10) rfl rfl rfl ?_
  refine own_getF X3 hx (pc' := 14) hZ hown (host := "") (Or.inl (Wd13 hw)) Via.refl e3 F13 (hb hby d9_11) rfl (fun T19 X19 e19 => ?_)
  refine own_iloadN X19 hx (pc' := 15) (hb hby d9_14) rfl rfl ?_
  refine own_iconst X19 hx (pc' := 16) (1 : Int32) (hb hby d9_15) rfl rfl ?_
  refine own_iadd X19 hx (pc' := 17) (z := (3 : Int32)) (hb hby d9_16) (by decide) rfl ?_
  refine own_aloadN X19 hx (pc' := 18) (hb hby d9_17) rfl rfl rfl ?_
  refine own_getF X19 hx (pc' := 21) hZ hown (host := "") (Or.inl (Wd13 hw)) Via.refl e19 F13 (hb hby d9_18) rfl (fun T20 X20 e20 => ?_)
  refine own_iloadN X20 hx (pc' := 22) (hb hby d9_21) rfl rfl ?_
  refine own_aloadN X20 hx (pc' := 23) (hb hby d9_22) rfl rfl rfl ?_
  refine own_getF X20 hx (pc' := 26) hZ hown (host := "") (Or.inl (Wd32 hw)) Via.refl e20 F12 (hb hby d9_23) rfl (fun T21 X21 e21 => ?_)
  refine own_iloadN X21 hx (pc' := 27) (hb hby d9_26) rfl rfl ?_
  refine own_isub X21 hx (pc' := 28) (z := (0 : Int32)) (hb hby d9_27) (by decide) rfl ?_
  obtain ⟨T22, h22, L22, X22, e22, N22, K22, V22, st22⟩ := cpA X21 hx hZ hown (Wd67 hw) (Wd49 hw) (Wd47 hw) (Wd48 hw) e21 F16 F16 (Or.inl ⟨rfl, rfl⟩) (by decide) (by decide) (by decide) (Nat.le_trans (by decide : ((3 : Int32) : Int32).toNatClampNeg + ((0 : Int32) : Int32).toNatClampNeg ≤ 3) (Nat.le_trans (by decide) hz3)) (Nat.le_trans (by decide : ((2 : Int32) : Int32).toNatClampNeg + ((0 : Int32) : Int32).toNatClampNeg ≤ 2) (Nat.le_trans (by decide) hz3)) (us := []) rfl (Nat.le_of_ble_eq_true rfl) N4 g_b1 (g := (mkF m 28 #[.val (.ref a), .val (.int (2 : Int32))] [(.int (0 : Int32)), (.int (2 : Int32)), (.ref b1), (.int (3 : Int32)), (.ref b1)])) rfl (by rw [hml]; rfl) rfl (hb hby d9_28) (by decide) (W := 0) (by show 2 * 0 + _ ≤ _; exact Nat.le_of_eq rfl) (by decide)
  have Z23 : n0 ≤ h22.size := Nat.le_trans Z5 K22.1
  have K24 : Keep h0 h22 [a, b1, b2, b3] := Keep.trans K6 K22 (allS (Or.inl (List.mem_of_getElem? (i := 1) rfl)) all0)
  have F25 := (F7.keep K22 (ninS ea1 nin0))
  have F26 := (F8.keep K22 (ninS ea1 nin0))
  have F27 := (F9.keep K22 (ninS ea1 nin0))
  have F28 := (F10.keep K22 (ninS ea1 nin0))
  have F29 := (Exa.keep F11 K22)
  have F30 := (F12.keep K22 (ninS ea1 nin0))
  have F31 := (F13.keep K22 (ninS ea1 nin0))
  have F32 := (F14.keep K22 (ninS ea1 nin0))
  have F33 := (F15.keep K22 (ninS ea1 nin0))
  have F34 := (F17.keep K22 (ninS (Ne.symm dj12) nin0))
  have F35 := (F18.keep K22 (ninS (Ne.symm dj13) nin0))
  have V36 : Arv Z h22 b1 k1 .int z [(.int x0), (.int x1), (.int x2)] (.int (0 : Int32)) := V22
  refine own_go (f' := (mkF m 31 #[.val (.ref a), .val (.int (2 : Int32))] [])) st22 ?_
  refine own_aloadN X22 hx (pc' := 32) (hb hby d9_31) rfl rfl rfl ?_
  refine own_getF X22 hx (pc' := 35) hZ hown (host := "") (Or.inl (Wd15 hw)) Via.refl e22 F32 (hb hby d9_32) rfl (fun T37 X37 e37 => ?_)
  refine own_iloadN X37 hx (pc' := 36) (hb hby d9_35) rfl rfl ?_
  refine own_iconst X37 hx (pc' := 37) (1 : Int32) (hb hby d9_36) rfl rfl ?_
  refine own_iadd X37 hx (pc' := 38) (z := (3 : Int32)) (hb hby d9_37) (by decide) rfl ?_
  refine own_aloadN X37 hx (pc' := 39) (hb hby d9_38) rfl rfl rfl ?_
  refine own_getF X37 hx (pc' := 42) hZ hown (host := "") (Or.inl (Wd15 hw)) Via.refl e37 F32 (hb hby d9_39) rfl (fun T38 X38 e38 => ?_)
  refine own_iloadN X38 hx (pc' := 43) (hb hby d9_42) rfl rfl ?_
  refine own_aloadN X38 hx (pc' := 44) (hb hby d9_43) rfl rfl rfl ?_
  refine own_getF X38 hx (pc' := 47) hZ hown (host := "") (Or.inl (Wd32 hw)) Via.refl e38 F30 (hb hby d9_44) rfl (fun T39 X39 e39 => ?_)
  refine own_iloadN X39 hx (pc' := 48) (hb hby d9_47) rfl rfl ?_
  refine own_isub X39 hx (pc' := 49) (z := (0 : Int32)) (hb hby d9_48) (by decide) rfl ?_
  obtain ⟨T40, h40, L40, X40, e40, N40, K40, V40, st40⟩ := cpA X39 hx hZ hown (Wd67 hw) (Wd49 hw) (Wd47 hw) (Wd48 hw) e39 F34 F34 (Or.inl ⟨rfl, rfl⟩) (by decide) (by decide) (by decide) (Nat.le_trans (by decide : ((3 : Int32) : Int32).toNatClampNeg + ((0 : Int32) : Int32).toNatClampNeg ≤ 3) (Nat.le_trans (by decide) hz3)) (Nat.le_trans (by decide : ((2 : Int32) : Int32).toNatClampNeg + ((0 : Int32) : Int32).toNatClampNeg ≤ 2) (Nat.le_trans (by decide) hz3)) (us := []) rfl (Nat.le_of_ble_eq_true rfl) N22 g_b2 (g := (mkF m 49 #[.val (.ref a), .val (.int (2 : Int32))] [(.int (0 : Int32)), (.int (2 : Int32)), (.ref b2), (.int (3 : Int32)), (.ref b2)])) rfl (by rw [hml]; rfl) rfl (hb hby d9_49) (by decide) (W := 0) (by show 2 * 0 + _ ≤ _; exact Nat.le_of_eq rfl) (by decide)
  have Z41 : n0 ≤ h40.size := Nat.le_trans Z23 K40.1
  have K42 : Keep h0 h40 [a, b1, b2, b3] := Keep.trans K24 K40 (allS (Or.inl (List.mem_of_getElem? (i := 2) rfl)) all0)
  have F43 := (F25.keep K40 (ninS ea2 nin0))
  have F44 := (F26.keep K40 (ninS ea2 nin0))
  have F45 := (F27.keep K40 (ninS ea2 nin0))
  have F46 := (F28.keep K40 (ninS ea2 nin0))
  have F47 := (Exa.keep F29 K40)
  have F48 := (F30.keep K40 (ninS ea2 nin0))
  have F49 := (F31.keep K40 (ninS ea2 nin0))
  have F50 := (F32.keep K40 (ninS ea2 nin0))
  have F51 := (F33.keep K40 (ninS ea2 nin0))
  have F52 := (F35.keep K40 (ninS (Ne.symm dj23) nin0))
  have F53 := (V36.keep K40 (ninS dj12 nin0))
  have V54 : Arv Z h40 b2 k2 .int z [(.int u0), (.int u1), (.int u2)] (.int (0 : Int32)) := V40
  refine own_go (f' := (mkF m 52 #[.val (.ref a), .val (.int (2 : Int32))] [])) st40 ?_
  refine own_aloadN X40 hx (pc' := 53) (hb hby d9_52) rfl rfl rfl ?_
  refine own_getF X40 hx (pc' := 56) hZ hown (host := "") (Or.inl (Wd17 hw)) Via.refl e40 F51 (hb hby d9_53) rfl (fun T55 X55 e55 => ?_)
  refine own_iloadN X55 hx (pc' := 57) (hb hby d9_56) rfl rfl ?_
  refine own_iconst X55 hx (pc' := 58) (1 : Int32) (hb hby d9_57) rfl rfl ?_
  refine own_iadd X55 hx (pc' := 59) (z := (3 : Int32)) (hb hby d9_58) (by decide) rfl ?_
  refine own_aloadN X55 hx (pc' := 60) (hb hby d9_59) rfl rfl rfl ?_
  refine own_getF X55 hx (pc' := 63) hZ hown (host := "") (Or.inl (Wd17 hw)) Via.refl e55 F51 (hb hby d9_60) rfl (fun T56 X56 e56 => ?_)
  refine own_iloadN X56 hx (pc' := 64) (hb hby d9_63) rfl rfl ?_
  refine own_aloadN X56 hx (pc' := 65) (hb hby d9_64) rfl rfl rfl ?_
  refine own_getF X56 hx (pc' := 68) hZ hown (host := "") (Or.inl (Wd32 hw)) Via.refl e56 F48 (hb hby d9_65) rfl (fun T57 X57 e57 => ?_)
  refine own_iloadN X57 hx (pc' := 69) (hb hby d9_68) rfl rfl ?_
  refine own_isub X57 hx (pc' := 70) (z := (0 : Int32)) (hb hby d9_69) (by decide) rfl ?_
  obtain ⟨T58, h58, L58, X58, e58, N58, K58, V58, st58⟩ := cpA X57 hx hZ hown (Wd67 hw) (Wd49 hw) (Wd47 hw) (Wd48 hw) e57 F52 F52 (Or.inl ⟨rfl, rfl⟩) (by decide) (by decide) (by decide) (Nat.le_trans (by decide : ((3 : Int32) : Int32).toNatClampNeg + ((0 : Int32) : Int32).toNatClampNeg ≤ 3) (Nat.le_trans (by decide) hz3)) (Nat.le_trans (by decide : ((2 : Int32) : Int32).toNatClampNeg + ((0 : Int32) : Int32).toNatClampNeg ≤ 2) (Nat.le_trans (by decide) hz3)) (us := []) rfl (Nat.le_of_ble_eq_true rfl) N40 g_b3 (g := (mkF m 70 #[.val (.ref a), .val (.int (2 : Int32))] [(.int (0 : Int32)), (.int (2 : Int32)), (.ref b3), (.int (3 : Int32)), (.ref b3)])) rfl (by rw [hml]; rfl) rfl (hb hby d9_70) (by decide) (W := 0) (by show 2 * 0 + _ ≤ _; exact Nat.le_of_eq rfl) (by decide)
  have Z59 : n0 ≤ h58.size := Nat.le_trans Z41 K58.1
  have K60 : Keep h0 h58 [a, b1, b2, b3] := Keep.trans K42 K58 (allS (Or.inl (List.mem_of_getElem? (i := 3) rfl)) all0)
  have F61 := (F43.keep K58 (ninS ea3 nin0))
  have F62 := (F44.keep K58 (ninS ea3 nin0))
  have F63 := (F45.keep K58 (ninS ea3 nin0))
  have F64 := (F46.keep K58 (ninS ea3 nin0))
  have F65 := (Exa.keep F47 K58)
  have F66 := (F48.keep K58 (ninS ea3 nin0))
  have F67 := (F49.keep K58 (ninS ea3 nin0))
  have F68 := (F50.keep K58 (ninS ea3 nin0))
  have F69 := (F51.keep K58 (ninS ea3 nin0))
  have F70 := (F53.keep K58 (ninS dj13 nin0))
  have F71 := (V54.keep K58 (ninS dj23 nin0))
  have V72 : Arv Z h58 b3 k3 .int z [(.int t0), (.int t1), (.int t2)] (.int (0 : Int32)) := V58
  refine own_go (f' := (mkF m 73 #[.val (.ref a), .val (.int (2 : Int32))] [])) st58 ?_
  refine own_retV X58 hx hlk hret (hb hby d9_73) (by decide) (by decide) ?_
  rw [e58]
  exact ⟨rfl, N58, K60, F66, F67, F68, F69, F70, F71, V72, F61, F62, F63, F64⟩

def own_sum (n u0 u1 u2 : Int32) : Int32 := if 0 < n then (if 1 < n then (if 2 < n then (((1 : Int32) + u0) + u1) + u2 else ((1 : Int32) + u0) + u1) else (1 : Int32) + u0) else 1
theorem d7_0 : decode prog_127_method_18_code 0 = .ok (.iconst 1, 1) := by decide +kernel
theorem d7_1 : decode prog_127_method_18_code 1 = .ok (.istore_n 1, 1) := by decide +kernel
theorem d7_2 : decode prog_127_method_18_code 2 = .ok (.iconst 0, 1) := by decide +kernel
theorem d7_3 : decode prog_127_method_18_code 3 = .ok (.istore_n 2, 1) := by decide +kernel
theorem d7_4 : decode prog_127_method_18_code 4 = .ok (.iload_n 2, 1) := by decide +kernel
theorem d7_5 : decode prog_127_method_18_code 5 = .ok (.aload_n 0, 1) := by decide +kernel
theorem d7_6 : decode prog_127_method_18_code 6 = .ok (.getfield 35, 3) := by decide +kernel
theorem d7_9 : decode prog_127_method_18_code 9 = .ok (.if_icmp .ge 18, 3) := by decide +kernel
theorem d7_12 : decode prog_127_method_18_code 12 = .ok (.iload_n 1, 1) := by decide +kernel
theorem d7_13 : decode prog_127_method_18_code 13 = .ok (.aload_n 0, 1) := by decide +kernel
theorem d7_14 : decode prog_127_method_18_code 14 = .ok (.getfield 16, 3) := by decide +kernel
theorem d7_17 : decode prog_127_method_18_code 17 = .ok (.iload_n 2, 1) := by decide +kernel
theorem d7_18 : decode prog_127_method_18_code 18 = .ok (.iaload, 1) := by decide +kernel
theorem d7_19 : decode prog_127_method_18_code 19 = .ok (.iadd, 1) := by decide +kernel
theorem d7_20 : decode prog_127_method_18_code 20 = .ok (.istore_n 1, 1) := by decide +kernel
theorem d7_21 : decode prog_127_method_18_code 21 = .ok (.iinc 2 1, 3) := by decide +kernel
theorem d7_24 : decode prog_127_method_18_code 24 = .ok (.goto (-20), 3) := by decide +kernel
theorem d7_27 : decode prog_127_method_18_code 27 = .ok (.iconst 0, 1) := by decide +kernel
theorem d7_28 : decode prog_127_method_18_code 28 = .ok (.istore_n 2, 1) := by decide +kernel
theorem d7_29 : decode prog_127_method_18_code 29 = .ok (.iload_n 2, 1) := by decide +kernel
theorem d7_30 : decode prog_127_method_18_code 30 = .ok (.aload_n 0, 1) := by decide +kernel
theorem d7_31 : decode prog_127_method_18_code 31 = .ok (.getfield 59, 3) := by decide +kernel
theorem d7_34 : decode prog_127_method_18_code 34 = .ok (.if_icmp .ge 18, 3) := by decide +kernel
theorem d7_37 : decode prog_127_method_18_code 37 = .ok (.iload_n 1, 1) := by decide +kernel
theorem d7_38 : decode prog_127_method_18_code 38 = .ok (.aload_n 0, 1) := by decide +kernel
theorem d7_39 : decode prog_127_method_18_code 39 = .ok (.getfield 25, 3) := by decide +kernel
theorem d7_42 : decode prog_127_method_18_code 42 = .ok (.iload_n 2, 1) := by decide +kernel
theorem d7_43 : decode prog_127_method_18_code 43 = .ok (.iaload, 1) := by decide +kernel
theorem d7_44 : decode prog_127_method_18_code 44 = .ok (.iadd, 1) := by decide +kernel
theorem d7_45 : decode prog_127_method_18_code 45 = .ok (.istore_n 1, 1) := by decide +kernel
theorem d7_46 : decode prog_127_method_18_code 46 = .ok (.iinc 2 1, 3) := by decide +kernel
theorem d7_49 : decode prog_127_method_18_code 49 = .ok (.goto (-20), 3) := by decide +kernel
theorem d7_52 : decode prog_127_method_18_code 52 = .ok (.iload_n 1, 1) := by decide +kernel
theorem d7_53 : decode prog_127_method_18_code 53 = .ok (.ireturn, 1) := by decide +kernel
def QpeN (n u0 u1 u2 tc : Int32) (h0 : Heap) (n0 : Nat) (v : Option Value) (h : Heap) (L : List Loc) : Prop := v = some (.int (own_sum n u0 u1 u2)) ∧ Fr n0 L ∧ h = h0
theorem ef_rm_peN (m : MethodId) (x0 : Addr) : entryFrame m #[(.ref x0)] 3 = mkF m 0 #[.val (.ref x0), .unset, .unset] [] := by first | (simp [entryFrame, mkF, argsToLocals, Value.category, maxLocals]; done) | rfl
theorem pf_6 : plainFor (⟨"com/example/rootcast/rootcast/tree/Children", "peers", "()I"⟩ : MethodName) = true := by apply plainFor_of_name; first | (simp [plainName, overriddenIn]; done) | decide +kernel
theorem Wd55 {a0 : Array Value} {Z : State} (hw : ∀ d ∈ tables_1, d.before a0 Z = true) : (Jvm.Cond.fieldLink "com/example/rootcast/rootcast/tree/Children" (59 : Nat) "com/example/rootcast/rootcast/tree/Children" "awaited" "I").before a0 Z = true := hw _ (List.mem_of_getElem? (i := 55) rfl)
set_option maxRecDepth 65536 in
set_option maxHeartbeats 40000000 in
theorem rm_peN (l : Launch) (Z : State) (a0 : Array Value) (hw : ∀ d ∈ tables_1, d.before a0 Z = true) (ws : List Jvm.Cond) (a b2 c2 : Addr) (k2 j2 : ClassId) (z z4 n u0 u1 u2 tc : Int32) (h0 : Heap) (n0 : Nat) (Z0 : n0 ≤ h0.size) (hn : n.toInt ≤ 3) (hz : z.toInt = 3 ∨ z.toInt = 4) (hz4 : z4.toInt = 3 ∨ z4.toInt = 4) (F_c : Fld Z h0 a "com/example/rootcast/rootcast/tree/Children" "count" "I" (.int n)) (F_u : Fld Z h0 a "com/example/rootcast/rootcast/tree/Children" "subtree" "[I" (.ref b2)) (F_w : Fld Z h0 a "com/example/rootcast/rootcast/tree/Children" "awaited" "I" (.int (0 : Int32))) (V_2 : Arv Z h0 b2 k2 .int z [(.int u0), (.int u1), (.int u2)] (.int (0 : Int32))) :
    MetFree l (⟨"com/example/rootcast/rootcast/tree/Children", "peers", "()I"⟩ : MethodName) (head1 (Jvm.Cond.code (⟨"com/example/rootcast/rootcast/tree/Children", "peers", "()I"⟩ : MethodName) prog_127_method_18_code 3 (some .int) :: ws) ({ frames := 0, cells := 0, slots := 0, locals := 0 } : Room)) (fun aa U => aa = #[(.ref a)] ∧ Z.Warmed39 U.vm ∧ U.heap = h0) (fun _ _ _ _ _ => True) (fun _ U o U' => ∃ v L, o = .returned v ∧ QpeN n u0 u1 u2 tc h0 n0 v U'.heap L ∧ FrameEnd U o U' L (({ frames := 0, cells := 0, slots := 0, locals := 0 } : Room).cells) (({ frames := 0, cells := 0, slots := 0, locals := 0 } : Room).slots)) := by
  refine own_body pf_6 ?_
  intro p e s m below meth c s₁ hx hby hml hown hnm hlk hret hZ X0 e0
  have N0 : Fr n0 [] := Fr.nil n0
  refine own_go (f' := (mkF m 0 #[.val (.ref a), .unset, .unset] [])) (fun t k => castTop (ef_rm_peN m a) k) ?_
  refine own_iconst X0 hx (pc' := 1) (1 : Int32) (hb hby d7_0) rfl rfl ?_
  refine own_istoreN X0 hx (pc' := 2) (Ls' := #[.val (.ref a), .val (.int (1 : Int32)), .unset]) (hb hby d7_1) rfl rfl ?_
  refine own_iconst X0 hx (pc' := 3) (0 : Int32) (hb hby d7_2) rfl rfl ?_
  refine own_istoreN X0 hx (pc' := 4) (Ls' := #[.val (.ref a), .val (.int (1 : Int32)), .val (.int (0 : Int32))]) (hb hby d7_3) rfl rfl ?_
  refine own_iloadN X0 hx (pc' := 5) (hb hby d7_4) rfl rfl ?_
  refine own_aloadN X0 hx (pc' := 6) (hb hby d7_5) rfl rfl rfl ?_
  refine own_getF X0 hx (pc' := 9) hZ hown (host := "") (Or.inl (Wd32 hw)) Via.refl e0 F_c (hb hby d7_6) rfl (fun T1 X1 e1 => ?_)
  by_cases hc9_2 : (0 : Int32) < n
  · skip
    refine own_icmpNo X1 hx (pc' := 12) (hb hby d7_9) (tlt hc9_2).2.1 rfl ?_
    refine own_iloadN X1 hx (pc' := 13) (hb hby d7_12) rfl rfl ?_
    refine own_aloadN X1 hx (pc' := 14) (hb hby d7_13) rfl rfl rfl ?_
    refine own_getF X1 hx (pc' := 17) hZ hown (host := "") (Or.inl (Wd15 hw)) Via.refl e1 F_u (hb hby d7_14) rfl (fun T3 X3 e3 => ?_)
    refine own_iloadN X3 hx (pc' := 18) (hb hby d7_17) rfl rfl ?_
    have hi4 : ¬ (0 : Int32) < 0 ∧ (0 : Int32) < z := ⟨by decide, by rw [Int32.lt_iff_toInt_lt, own_t32_0]; omega⟩
    obtain ⟨cl5, Ar5, q5, S5, M5, H5, G5⟩ := id V_2
    refine own_iaload X3 hx (pc' := 19) hZ (v := u0) e3 Ar5 (inb_of S5 hi4) (Has.at H5 (inb_of S5 hi4) rfl) (hb hby d7_18) rfl ?_
    refine own_iadd X3 hx (pc' := 20) (hb hby d7_19) rfl rfl ?_
    refine own_istoreN X3 hx (pc' := 21) (Ls' := #[.val (.ref a), .val (.int ((1 : Int32) + u0)), .val (.int (0 : Int32))]) (hb hby d7_20) rfl rfl ?_
    refine own_iinc X3 hx (pc' := 24) (Ls' := #[.val (.ref a), .val (.int ((1 : Int32) + u0)), .val (.int (1 : Int32))]) (hb hby d7_21) rfl rfl rfl ?_
    refine own_goto X3 hx (pc' := 4) (hb hby d7_24) (by decide) (by decide) ?_
    refine own_iloadN X3 hx (pc' := 5) (hb hby d7_4) rfl rfl ?_
    refine own_aloadN X3 hx (pc' := 6) (hb hby d7_5) rfl rfl rfl ?_
    refine own_getF X3 hx (pc' := 9) hZ hown (host := "") (Or.inl (Wd32 hw)) Via.refl e3 F_c (hb hby d7_6) rfl (fun T6 X6 e6 => ?_)
    by_cases hc9_7 : (1 : Int32) < n
    · skip
      refine own_icmpNo X6 hx (pc' := 12) (hb hby d7_9) (tlt hc9_7).2.1 rfl ?_
      refine own_iloadN X6 hx (pc' := 13) (hb hby d7_12) rfl rfl ?_
      refine own_aloadN X6 hx (pc' := 14) (hb hby d7_13) rfl rfl rfl ?_
      refine own_getF X6 hx (pc' := 17) hZ hown (host := "") (Or.inl (Wd15 hw)) Via.refl e6 F_u (hb hby d7_14) rfl (fun T8 X8 e8 => ?_)
      refine own_iloadN X8 hx (pc' := 18) (hb hby d7_17) rfl rfl ?_
      have hi9 : ¬ (1 : Int32) < 0 ∧ (1 : Int32) < z := ⟨by decide, by rw [Int32.lt_iff_toInt_lt, own_t32_1]; omega⟩
      obtain ⟨cl10, Ar10, q10, S10, M10, H10, G10⟩ := id V_2
      refine own_iaload X8 hx (pc' := 19) hZ (v := u1) e8 Ar10 (inb_of S10 hi9) (Has.at H10 (inb_of S10 hi9) rfl) (hb hby d7_18) rfl ?_
      refine own_iadd X8 hx (pc' := 20) (hb hby d7_19) rfl rfl ?_
      refine own_istoreN X8 hx (pc' := 21) (Ls' := #[.val (.ref a), .val (.int (((1 : Int32) + u0) + u1)), .val (.int (1 : Int32))]) (hb hby d7_20) rfl rfl ?_
      refine own_iinc X8 hx (pc' := 24) (Ls' := #[.val (.ref a), .val (.int (((1 : Int32) + u0) + u1)), .val (.int (2 : Int32))]) (hb hby d7_21) rfl rfl rfl ?_
      refine own_goto X8 hx (pc' := 4) (hb hby d7_24) (by decide) (by decide) ?_
      refine own_iloadN X8 hx (pc' := 5) (hb hby d7_4) rfl rfl ?_
      refine own_aloadN X8 hx (pc' := 6) (hb hby d7_5) rfl rfl rfl ?_
      refine own_getF X8 hx (pc' := 9) hZ hown (host := "") (Or.inl (Wd32 hw)) Via.refl e8 F_c (hb hby d7_6) rfl (fun T11 X11 e11 => ?_)
      by_cases hc9_12 : (2 : Int32) < n
      · skip
        refine own_icmpNo X11 hx (pc' := 12) (hb hby d7_9) (tlt hc9_12).2.1 rfl ?_
        refine own_iloadN X11 hx (pc' := 13) (hb hby d7_12) rfl rfl ?_
        refine own_aloadN X11 hx (pc' := 14) (hb hby d7_13) rfl rfl rfl ?_
        refine own_getF X11 hx (pc' := 17) hZ hown (host := "") (Or.inl (Wd15 hw)) Via.refl e11 F_u (hb hby d7_14) rfl (fun T13 X13 e13 => ?_)
        refine own_iloadN X13 hx (pc' := 18) (hb hby d7_17) rfl rfl ?_
        have hi14 : ¬ (2 : Int32) < 0 ∧ (2 : Int32) < z := ⟨by decide, by rw [Int32.lt_iff_toInt_lt, own_t32_2]; omega⟩
        obtain ⟨cl15, Ar15, q15, S15, M15, H15, G15⟩ := id V_2
        refine own_iaload X13 hx (pc' := 19) hZ (v := u2) e13 Ar15 (inb_of S15 hi14) (Has.at H15 (inb_of S15 hi14) rfl) (hb hby d7_18) rfl ?_
        refine own_iadd X13 hx (pc' := 20) (hb hby d7_19) rfl rfl ?_
        refine own_istoreN X13 hx (pc' := 21) (Ls' := #[.val (.ref a), .val (.int ((((1 : Int32) + u0) + u1) + u2)), .val (.int (2 : Int32))]) (hb hby d7_20) rfl rfl ?_
        refine own_iinc X13 hx (pc' := 24) (Ls' := #[.val (.ref a), .val (.int ((((1 : Int32) + u0) + u1) + u2)), .val (.int (3 : Int32))]) (hb hby d7_21) rfl rfl rfl ?_
        refine own_goto X13 hx (pc' := 4) (hb hby d7_24) (by decide) (by decide) ?_
        refine own_iloadN X13 hx (pc' := 5) (hb hby d7_4) rfl rfl ?_
        refine own_aloadN X13 hx (pc' := 6) (hb hby d7_5) rfl rfl rfl ?_
        refine own_getF X13 hx (pc' := 9) hZ hown (host := "") (Or.inl (Wd32 hw)) Via.refl e13 F_c (hb hby d7_6) rfl (fun T16 X16 e16 => ?_)
        by_cases hc9_17 : (3 : Int32) < n
        · skip
          exact absurd hc9_17 (by rw [Int32.lt_iff_toInt_lt, own_t32_3]; omega)
        · skip
          refine own_icmpYes X16 hx (pc' := 27) (hb hby d7_9) (flt hc9_17).2.1 (by decide) (by decide) ?_
          refine own_iconst X16 hx (pc' := 28) (0 : Int32) (hb hby d7_27) rfl rfl ?_
          refine own_istoreN X16 hx (pc' := 29) (Ls' := #[.val (.ref a), .val (.int ((((1 : Int32) + u0) + u1) + u2)), .val (.int (0 : Int32))]) (hb hby d7_28) rfl rfl ?_
          refine own_iloadN X16 hx (pc' := 30) (hb hby d7_29) rfl rfl ?_
          refine own_aloadN X16 hx (pc' := 31) (hb hby d7_30) rfl rfl rfl ?_
          refine own_getF X16 hx (pc' := 34) hZ hown (host := "") (Or.inl (Wd55 hw)) Via.refl e16 F_w (hb hby d7_31) rfl (fun T18 X18 e18 => ?_)
          refine own_icmpYes X18 hx (pc' := 52) (hb hby d7_34) (flt (by decide : ¬ ((0 : Int32) < (0 : Int32)))).2.1 (by decide) (by decide) ?_
          refine own_iloadN X18 hx (pc' := 53) (hb hby d7_52) rfl rfl ?_
          refine own_retI X18 hx hlk hret (hb hby d7_53) (by decide) (by decide) ?_
          refine ⟨?_, N0, e18⟩
          simp [own_sum, hc9_2, hc9_7, hc9_12, hc9_17]
      · skip
        refine own_icmpYes X11 hx (pc' := 27) (hb hby d7_9) (flt hc9_12).2.1 (by decide) (by decide) ?_
        refine own_iconst X11 hx (pc' := 28) (0 : Int32) (hb hby d7_27) rfl rfl ?_
        refine own_istoreN X11 hx (pc' := 29) (Ls' := #[.val (.ref a), .val (.int (((1 : Int32) + u0) + u1)), .val (.int (0 : Int32))]) (hb hby d7_28) rfl rfl ?_
        refine own_iloadN X11 hx (pc' := 30) (hb hby d7_29) rfl rfl ?_
        refine own_aloadN X11 hx (pc' := 31) (hb hby d7_30) rfl rfl rfl ?_
        refine own_getF X11 hx (pc' := 34) hZ hown (host := "") (Or.inl (Wd55 hw)) Via.refl e11 F_w (hb hby d7_31) rfl (fun T19 X19 e19 => ?_)
        refine own_icmpYes X19 hx (pc' := 52) (hb hby d7_34) (flt (by decide : ¬ ((0 : Int32) < (0 : Int32)))).2.1 (by decide) (by decide) ?_
        refine own_iloadN X19 hx (pc' := 53) (hb hby d7_52) rfl rfl ?_
        refine own_retI X19 hx hlk hret (hb hby d7_53) (by decide) (by decide) ?_
        refine ⟨?_, N0, e19⟩
        simp [own_sum, hc9_2, hc9_7, hc9_12]
    · skip
      refine own_icmpYes X6 hx (pc' := 27) (hb hby d7_9) (flt hc9_7).2.1 (by decide) (by decide) ?_
      refine own_iconst X6 hx (pc' := 28) (0 : Int32) (hb hby d7_27) rfl rfl ?_
      refine own_istoreN X6 hx (pc' := 29) (Ls' := #[.val (.ref a), .val (.int ((1 : Int32) + u0)), .val (.int (0 : Int32))]) (hb hby d7_28) rfl rfl ?_
      refine own_iloadN X6 hx (pc' := 30) (hb hby d7_29) rfl rfl ?_
      refine own_aloadN X6 hx (pc' := 31) (hb hby d7_30) rfl rfl rfl ?_
      refine own_getF X6 hx (pc' := 34) hZ hown (host := "") (Or.inl (Wd55 hw)) Via.refl e6 F_w (hb hby d7_31) rfl (fun T20 X20 e20 => ?_)
      refine own_icmpYes X20 hx (pc' := 52) (hb hby d7_34) (flt (by decide : ¬ ((0 : Int32) < (0 : Int32)))).2.1 (by decide) (by decide) ?_
      refine own_iloadN X20 hx (pc' := 53) (hb hby d7_52) rfl rfl ?_
      refine own_retI X20 hx hlk hret (hb hby d7_53) (by decide) (by decide) ?_
      refine ⟨?_, N0, e20⟩
      simp [own_sum, hc9_2, hc9_7]
  · skip
    refine own_icmpYes X1 hx (pc' := 27) (hb hby d7_9) (flt hc9_2).2.1 (by decide) (by decide) ?_
    refine own_iconst X1 hx (pc' := 28) (0 : Int32) (hb hby d7_27) rfl rfl ?_
    refine own_istoreN X1 hx (pc' := 29) (Ls' := #[.val (.ref a), .val (.int (1 : Int32)), .val (.int (0 : Int32))]) (hb hby d7_28) rfl rfl ?_
    refine own_iloadN X1 hx (pc' := 30) (hb hby d7_29) rfl rfl ?_
    refine own_aloadN X1 hx (pc' := 31) (hb hby d7_30) rfl rfl rfl ?_
    refine own_getF X1 hx (pc' := 34) hZ hown (host := "") (Or.inl (Wd55 hw)) Via.refl e1 F_w (hb hby d7_31) rfl (fun T21 X21 e21 => ?_)
    refine own_icmpYes X21 hx (pc' := 52) (hb hby d7_34) (flt (by decide : ¬ ((0 : Int32) < (0 : Int32)))).2.1 (by decide) (by decide) ?_
    refine own_iloadN X21 hx (pc' := 53) (hb hby d7_52) rfl rfl ?_
    refine own_retI X21 hx hlk hret (hb hby d7_53) (by decide) (by decide) ?_
    refine ⟨?_, N0, e21⟩
    simp [own_sum, hc9_2]

def QpeA (n u0 u1 u2 tc : Int32) (h0 : Heap) (n0 : Nat) (v : Option Value) (h : Heap) (L : List Loc) : Prop := v = some (.int (own_sum n u0 u1 u2 + tc)) ∧ Fr n0 L ∧ h = h0
theorem ef_rm_peA (m : MethodId) (x0 : Addr) : entryFrame m #[(.ref x0)] 3 = mkF m 0 #[.val (.ref x0), .unset, .unset] [] := by first | (simp [entryFrame, mkF, argsToLocals, Value.category, maxLocals]; done) | rfl
set_option maxRecDepth 65536 in
set_option maxHeartbeats 40000000 in
theorem rm_peA (l : Launch) (Z : State) (a0 : Array Value) (hw : ∀ d ∈ tables_1, d.before a0 Z = true) (ws : List Jvm.Cond) (a b2 c2 : Addr) (k2 j2 : ClassId) (z z4 n u0 u1 u2 tc : Int32) (h0 : Heap) (n0 : Nat) (Z0 : n0 ≤ h0.size) (hn : n.toInt ≤ 3) (hz : z.toInt = 3 ∨ z.toInt = 4) (hz4 : z4.toInt = 3 ∨ z4.toInt = 4) (F_c : Fld Z h0 a "com/example/rootcast/rootcast/tree/Children" "count" "I" (.int n)) (F_u : Fld Z h0 a "com/example/rootcast/rootcast/tree/Children" "subtree" "[I" (.ref b2)) (F_w : Fld Z h0 a "com/example/rootcast/rootcast/tree/Children" "awaited" "I" (.int (1 : Int32))) (V_2 : Arv Z h0 b2 k2 .int z [(.int u0), (.int u1), (.int u2)] (.int (0 : Int32))) (F_t : Fld Z h0 a "com/example/rootcast/rootcast/tree/Children" "toCome" "[I" (.ref c2)) (V_t : Arv Z h0 c2 j2 .int z4 [(.int tc), (.int (0 : Int32)), (.int (0 : Int32))] (.int (0 : Int32))) :
    MetFree l (⟨"com/example/rootcast/rootcast/tree/Children", "peers", "()I"⟩ : MethodName) (head1 (Jvm.Cond.code (⟨"com/example/rootcast/rootcast/tree/Children", "peers", "()I"⟩ : MethodName) prog_127_method_18_code 3 (some .int) :: ws) ({ frames := 0, cells := 0, slots := 0, locals := 0 } : Room)) (fun aa U => aa = #[(.ref a)] ∧ Z.Warmed39 U.vm ∧ U.heap = h0) (fun _ _ _ _ _ => True) (fun _ U o U' => ∃ v L, o = .returned v ∧ QpeA n u0 u1 u2 tc h0 n0 v U'.heap L ∧ FrameEnd U o U' L (({ frames := 0, cells := 0, slots := 0, locals := 0 } : Room).cells) (({ frames := 0, cells := 0, slots := 0, locals := 0 } : Room).slots)) := by
  refine own_body pf_6 ?_
  intro p e s m below meth c s₁ hx hby hml hown hnm hlk hret hZ X0 e0
  have N0 : Fr n0 [] := Fr.nil n0
  refine own_go (f' := (mkF m 0 #[.val (.ref a), .unset, .unset] [])) (fun t k => castTop (ef_rm_peA m a) k) ?_
  refine own_iconst X0 hx (pc' := 1) (1 : Int32) (hb hby d7_0) rfl rfl ?_
  refine own_istoreN X0 hx (pc' := 2) (Ls' := #[.val (.ref a), .val (.int (1 : Int32)), .unset]) (hb hby d7_1) rfl rfl ?_
  refine own_iconst X0 hx (pc' := 3) (0 : Int32) (hb hby d7_2) rfl rfl ?_
  refine own_istoreN X0 hx (pc' := 4) (Ls' := #[.val (.ref a), .val (.int (1 : Int32)), .val (.int (0 : Int32))]) (hb hby d7_3) rfl rfl ?_
  refine own_iloadN X0 hx (pc' := 5) (hb hby d7_4) rfl rfl ?_
  refine own_aloadN X0 hx (pc' := 6) (hb hby d7_5) rfl rfl rfl ?_
  refine own_getF X0 hx (pc' := 9) hZ hown (host := "") (Or.inl (Wd32 hw)) Via.refl e0 F_c (hb hby d7_6) rfl (fun T1 X1 e1 => ?_)
  by_cases hc9_2 : (0 : Int32) < n
  · skip
    refine own_icmpNo X1 hx (pc' := 12) (hb hby d7_9) (tlt hc9_2).2.1 rfl ?_
    refine own_iloadN X1 hx (pc' := 13) (hb hby d7_12) rfl rfl ?_
    refine own_aloadN X1 hx (pc' := 14) (hb hby d7_13) rfl rfl rfl ?_
    refine own_getF X1 hx (pc' := 17) hZ hown (host := "") (Or.inl (Wd15 hw)) Via.refl e1 F_u (hb hby d7_14) rfl (fun T3 X3 e3 => ?_)
    refine own_iloadN X3 hx (pc' := 18) (hb hby d7_17) rfl rfl ?_
    have hi4 : ¬ (0 : Int32) < 0 ∧ (0 : Int32) < z := ⟨by decide, by rw [Int32.lt_iff_toInt_lt, own_t32_0]; omega⟩
    obtain ⟨cl5, Ar5, q5, S5, M5, H5, G5⟩ := id V_2
    refine own_iaload X3 hx (pc' := 19) hZ (v := u0) e3 Ar5 (inb_of S5 hi4) (Has.at H5 (inb_of S5 hi4) rfl) (hb hby d7_18) rfl ?_
    refine own_iadd X3 hx (pc' := 20) (hb hby d7_19) rfl rfl ?_
    refine own_istoreN X3 hx (pc' := 21) (Ls' := #[.val (.ref a), .val (.int ((1 : Int32) + u0)), .val (.int (0 : Int32))]) (hb hby d7_20) rfl rfl ?_
    refine own_iinc X3 hx (pc' := 24) (Ls' := #[.val (.ref a), .val (.int ((1 : Int32) + u0)), .val (.int (1 : Int32))]) (hb hby d7_21) rfl rfl rfl ?_
    refine own_goto X3 hx (pc' := 4) (hb hby d7_24) (by decide) (by decide) ?_
    refine own_iloadN X3 hx (pc' := 5) (hb hby d7_4) rfl rfl ?_
    refine own_aloadN X3 hx (pc' := 6) (hb hby d7_5) rfl rfl rfl ?_
    refine own_getF X3 hx (pc' := 9) hZ hown (host := "") (Or.inl (Wd32 hw)) Via.refl e3 F_c (hb hby d7_6) rfl (fun T6 X6 e6 => ?_)
    by_cases hc9_7 : (1 : Int32) < n
    · skip
      refine own_icmpNo X6 hx (pc' := 12) (hb hby d7_9) (tlt hc9_7).2.1 rfl ?_
      refine own_iloadN X6 hx (pc' := 13) (hb hby d7_12) rfl rfl ?_
      refine own_aloadN X6 hx (pc' := 14) (hb hby d7_13) rfl rfl rfl ?_
      refine own_getF X6 hx (pc' := 17) hZ hown (host := "") (Or.inl (Wd15 hw)) Via.refl e6 F_u (hb hby d7_14) rfl (fun T8 X8 e8 => ?_)
      refine own_iloadN X8 hx (pc' := 18) (hb hby d7_17) rfl rfl ?_
      have hi9 : ¬ (1 : Int32) < 0 ∧ (1 : Int32) < z := ⟨by decide, by rw [Int32.lt_iff_toInt_lt, own_t32_1]; omega⟩
      obtain ⟨cl10, Ar10, q10, S10, M10, H10, G10⟩ := id V_2
      refine own_iaload X8 hx (pc' := 19) hZ (v := u1) e8 Ar10 (inb_of S10 hi9) (Has.at H10 (inb_of S10 hi9) rfl) (hb hby d7_18) rfl ?_
      refine own_iadd X8 hx (pc' := 20) (hb hby d7_19) rfl rfl ?_
      refine own_istoreN X8 hx (pc' := 21) (Ls' := #[.val (.ref a), .val (.int (((1 : Int32) + u0) + u1)), .val (.int (1 : Int32))]) (hb hby d7_20) rfl rfl ?_
      refine own_iinc X8 hx (pc' := 24) (Ls' := #[.val (.ref a), .val (.int (((1 : Int32) + u0) + u1)), .val (.int (2 : Int32))]) (hb hby d7_21) rfl rfl rfl ?_
      refine own_goto X8 hx (pc' := 4) (hb hby d7_24) (by decide) (by decide) ?_
      refine own_iloadN X8 hx (pc' := 5) (hb hby d7_4) rfl rfl ?_
      refine own_aloadN X8 hx (pc' := 6) (hb hby d7_5) rfl rfl rfl ?_
      refine own_getF X8 hx (pc' := 9) hZ hown (host := "") (Or.inl (Wd32 hw)) Via.refl e8 F_c (hb hby d7_6) rfl (fun T11 X11 e11 => ?_)
      by_cases hc9_12 : (2 : Int32) < n
      · skip
        refine own_icmpNo X11 hx (pc' := 12) (hb hby d7_9) (tlt hc9_12).2.1 rfl ?_
        refine own_iloadN X11 hx (pc' := 13) (hb hby d7_12) rfl rfl ?_
        refine own_aloadN X11 hx (pc' := 14) (hb hby d7_13) rfl rfl rfl ?_
        refine own_getF X11 hx (pc' := 17) hZ hown (host := "") (Or.inl (Wd15 hw)) Via.refl e11 F_u (hb hby d7_14) rfl (fun T13 X13 e13 => ?_)
        refine own_iloadN X13 hx (pc' := 18) (hb hby d7_17) rfl rfl ?_
        have hi14 : ¬ (2 : Int32) < 0 ∧ (2 : Int32) < z := ⟨by decide, by rw [Int32.lt_iff_toInt_lt, own_t32_2]; omega⟩
        obtain ⟨cl15, Ar15, q15, S15, M15, H15, G15⟩ := id V_2
        refine own_iaload X13 hx (pc' := 19) hZ (v := u2) e13 Ar15 (inb_of S15 hi14) (Has.at H15 (inb_of S15 hi14) rfl) (hb hby d7_18) rfl ?_
        refine own_iadd X13 hx (pc' := 20) (hb hby d7_19) rfl rfl ?_
        refine own_istoreN X13 hx (pc' := 21) (Ls' := #[.val (.ref a), .val (.int ((((1 : Int32) + u0) + u1) + u2)), .val (.int (2 : Int32))]) (hb hby d7_20) rfl rfl ?_
        refine own_iinc X13 hx (pc' := 24) (Ls' := #[.val (.ref a), .val (.int ((((1 : Int32) + u0) + u1) + u2)), .val (.int (3 : Int32))]) (hb hby d7_21) rfl rfl rfl ?_
        refine own_goto X13 hx (pc' := 4) (hb hby d7_24) (by decide) (by decide) ?_
        refine own_iloadN X13 hx (pc' := 5) (hb hby d7_4) rfl rfl ?_
        refine own_aloadN X13 hx (pc' := 6) (hb hby d7_5) rfl rfl rfl ?_
        refine own_getF X13 hx (pc' := 9) hZ hown (host := "") (Or.inl (Wd32 hw)) Via.refl e13 F_c (hb hby d7_6) rfl (fun T16 X16 e16 => ?_)
        by_cases hc9_17 : (3 : Int32) < n
        · skip
          exact absurd hc9_17 (by rw [Int32.lt_iff_toInt_lt, own_t32_3]; omega)
        · skip
          refine own_icmpYes X16 hx (pc' := 27) (hb hby d7_9) (flt hc9_17).2.1 (by decide) (by decide) ?_
          refine own_iconst X16 hx (pc' := 28) (0 : Int32) (hb hby d7_27) rfl rfl ?_
          refine own_istoreN X16 hx (pc' := 29) (Ls' := #[.val (.ref a), .val (.int ((((1 : Int32) + u0) + u1) + u2)), .val (.int (0 : Int32))]) (hb hby d7_28) rfl rfl ?_
          refine own_iloadN X16 hx (pc' := 30) (hb hby d7_29) rfl rfl ?_
          refine own_aloadN X16 hx (pc' := 31) (hb hby d7_30) rfl rfl rfl ?_
          refine own_getF X16 hx (pc' := 34) hZ hown (host := "") (Or.inl (Wd55 hw)) Via.refl e16 F_w (hb hby d7_31) rfl (fun T18 X18 e18 => ?_)
          refine own_icmpNo X18 hx (pc' := 37) (hb hby d7_34) (tlt (by decide : (0 : Int32) < (1 : Int32))).2.1 rfl ?_
          refine own_iloadN X18 hx (pc' := 38) (hb hby d7_37) rfl rfl ?_
          refine own_aloadN X18 hx (pc' := 39) (hb hby d7_38) rfl rfl rfl ?_
          refine own_getF X18 hx (pc' := 42) hZ hown (host := "") (Or.inl (Wd21 hw)) Via.refl e18 F_t (hb hby d7_39) rfl (fun T19 X19 e19 => ?_)
          refine own_iloadN X19 hx (pc' := 43) (hb hby d7_42) rfl rfl ?_
          have hi20 : ¬ (0 : Int32) < 0 ∧ (0 : Int32) < z4 := ⟨by decide, by rw [Int32.lt_iff_toInt_lt, own_t32_0]; omega⟩
          obtain ⟨cl21, Ar21, q21, S21, M21, H21, G21⟩ := id V_t
          refine own_iaload X19 hx (pc' := 44) hZ (v := tc) e19 Ar21 (inb_of S21 hi20) (Has.at H21 (inb_of S21 hi20) rfl) (hb hby d7_43) rfl ?_
          refine own_iadd X19 hx (pc' := 45) (hb hby d7_44) rfl rfl ?_
          refine own_istoreN X19 hx (pc' := 46) (Ls' := #[.val (.ref a), .val (.int (((((1 : Int32) + u0) + u1) + u2) + tc)), .val (.int (0 : Int32))]) (hb hby d7_45) rfl rfl ?_
          refine own_iinc X19 hx (pc' := 49) (Ls' := #[.val (.ref a), .val (.int (((((1 : Int32) + u0) + u1) + u2) + tc)), .val (.int (1 : Int32))]) (hb hby d7_46) rfl rfl rfl ?_
          refine own_goto X19 hx (pc' := 29) (hb hby d7_49) (by decide) (by decide) ?_
          refine own_iloadN X19 hx (pc' := 30) (hb hby d7_29) rfl rfl ?_
          refine own_aloadN X19 hx (pc' := 31) (hb hby d7_30) rfl rfl rfl ?_
          refine own_getF X19 hx (pc' := 34) hZ hown (host := "") (Or.inl (Wd55 hw)) Via.refl e19 F_w (hb hby d7_31) rfl (fun T22 X22 e22 => ?_)
          refine own_icmpYes X22 hx (pc' := 52) (hb hby d7_34) (flt (by decide : ¬ ((1 : Int32) < (1 : Int32)))).2.1 (by decide) (by decide) ?_
          refine own_iloadN X22 hx (pc' := 53) (hb hby d7_52) rfl rfl ?_
          refine own_retI X22 hx hlk hret (hb hby d7_53) (by decide) (by decide) ?_
          refine ⟨?_, N0, e22⟩
          simp [own_sum, hc9_2, hc9_7, hc9_12, hc9_17]
      · skip
        refine own_icmpYes X11 hx (pc' := 27) (hb hby d7_9) (flt hc9_12).2.1 (by decide) (by decide) ?_
        refine own_iconst X11 hx (pc' := 28) (0 : Int32) (hb hby d7_27) rfl rfl ?_
        refine own_istoreN X11 hx (pc' := 29) (Ls' := #[.val (.ref a), .val (.int (((1 : Int32) + u0) + u1)), .val (.int (0 : Int32))]) (hb hby d7_28) rfl rfl ?_
        refine own_iloadN X11 hx (pc' := 30) (hb hby d7_29) rfl rfl ?_
        refine own_aloadN X11 hx (pc' := 31) (hb hby d7_30) rfl rfl rfl ?_
        refine own_getF X11 hx (pc' := 34) hZ hown (host := "") (Or.inl (Wd55 hw)) Via.refl e11 F_w (hb hby d7_31) rfl (fun T23 X23 e23 => ?_)
        refine own_icmpNo X23 hx (pc' := 37) (hb hby d7_34) (tlt (by decide : (0 : Int32) < (1 : Int32))).2.1 rfl ?_
        refine own_iloadN X23 hx (pc' := 38) (hb hby d7_37) rfl rfl ?_
        refine own_aloadN X23 hx (pc' := 39) (hb hby d7_38) rfl rfl rfl ?_
        refine own_getF X23 hx (pc' := 42) hZ hown (host := "") (Or.inl (Wd21 hw)) Via.refl e23 F_t (hb hby d7_39) rfl (fun T24 X24 e24 => ?_)
        refine own_iloadN X24 hx (pc' := 43) (hb hby d7_42) rfl rfl ?_
        have hi25 : ¬ (0 : Int32) < 0 ∧ (0 : Int32) < z4 := ⟨by decide, by rw [Int32.lt_iff_toInt_lt, own_t32_0]; omega⟩
        obtain ⟨cl26, Ar26, q26, S26, M26, H26, G26⟩ := id V_t
        refine own_iaload X24 hx (pc' := 44) hZ (v := tc) e24 Ar26 (inb_of S26 hi25) (Has.at H26 (inb_of S26 hi25) rfl) (hb hby d7_43) rfl ?_
        refine own_iadd X24 hx (pc' := 45) (hb hby d7_44) rfl rfl ?_
        refine own_istoreN X24 hx (pc' := 46) (Ls' := #[.val (.ref a), .val (.int ((((1 : Int32) + u0) + u1) + tc)), .val (.int (0 : Int32))]) (hb hby d7_45) rfl rfl ?_
        refine own_iinc X24 hx (pc' := 49) (Ls' := #[.val (.ref a), .val (.int ((((1 : Int32) + u0) + u1) + tc)), .val (.int (1 : Int32))]) (hb hby d7_46) rfl rfl rfl ?_
        refine own_goto X24 hx (pc' := 29) (hb hby d7_49) (by decide) (by decide) ?_
        refine own_iloadN X24 hx (pc' := 30) (hb hby d7_29) rfl rfl ?_
        refine own_aloadN X24 hx (pc' := 31) (hb hby d7_30) rfl rfl rfl ?_
        refine own_getF X24 hx (pc' := 34) hZ hown (host := "") (Or.inl (Wd55 hw)) Via.refl e24 F_w (hb hby d7_31) rfl (fun T27 X27 e27 => ?_)
        refine own_icmpYes X27 hx (pc' := 52) (hb hby d7_34) (flt (by decide : ¬ ((1 : Int32) < (1 : Int32)))).2.1 (by decide) (by decide) ?_
        refine own_iloadN X27 hx (pc' := 53) (hb hby d7_52) rfl rfl ?_
        refine own_retI X27 hx hlk hret (hb hby d7_53) (by decide) (by decide) ?_
        refine ⟨?_, N0, e27⟩
        simp [own_sum, hc9_2, hc9_7, hc9_12]
    · skip
      refine own_icmpYes X6 hx (pc' := 27) (hb hby d7_9) (flt hc9_7).2.1 (by decide) (by decide) ?_
      refine own_iconst X6 hx (pc' := 28) (0 : Int32) (hb hby d7_27) rfl rfl ?_
      refine own_istoreN X6 hx (pc' := 29) (Ls' := #[.val (.ref a), .val (.int ((1 : Int32) + u0)), .val (.int (0 : Int32))]) (hb hby d7_28) rfl rfl ?_
      refine own_iloadN X6 hx (pc' := 30) (hb hby d7_29) rfl rfl ?_
      refine own_aloadN X6 hx (pc' := 31) (hb hby d7_30) rfl rfl rfl ?_
      refine own_getF X6 hx (pc' := 34) hZ hown (host := "") (Or.inl (Wd55 hw)) Via.refl e6 F_w (hb hby d7_31) rfl (fun T28 X28 e28 => ?_)
      refine own_icmpNo X28 hx (pc' := 37) (hb hby d7_34) (tlt (by decide : (0 : Int32) < (1 : Int32))).2.1 rfl ?_
      refine own_iloadN X28 hx (pc' := 38) (hb hby d7_37) rfl rfl ?_
      refine own_aloadN X28 hx (pc' := 39) (hb hby d7_38) rfl rfl rfl ?_
      refine own_getF X28 hx (pc' := 42) hZ hown (host := "") (Or.inl (Wd21 hw)) Via.refl e28 F_t (hb hby d7_39) rfl (fun T29 X29 e29 => ?_)
      refine own_iloadN X29 hx (pc' := 43) (hb hby d7_42) rfl rfl ?_
      have hi30 : ¬ (0 : Int32) < 0 ∧ (0 : Int32) < z4 := ⟨by decide, by rw [Int32.lt_iff_toInt_lt, own_t32_0]; omega⟩
      obtain ⟨cl31, Ar31, q31, S31, M31, H31, G31⟩ := id V_t
      refine own_iaload X29 hx (pc' := 44) hZ (v := tc) e29 Ar31 (inb_of S31 hi30) (Has.at H31 (inb_of S31 hi30) rfl) (hb hby d7_43) rfl ?_
      refine own_iadd X29 hx (pc' := 45) (hb hby d7_44) rfl rfl ?_
      refine own_istoreN X29 hx (pc' := 46) (Ls' := #[.val (.ref a), .val (.int (((1 : Int32) + u0) + tc)), .val (.int (0 : Int32))]) (hb hby d7_45) rfl rfl ?_
      refine own_iinc X29 hx (pc' := 49) (Ls' := #[.val (.ref a), .val (.int (((1 : Int32) + u0) + tc)), .val (.int (1 : Int32))]) (hb hby d7_46) rfl rfl rfl ?_
      refine own_goto X29 hx (pc' := 29) (hb hby d7_49) (by decide) (by decide) ?_
      refine own_iloadN X29 hx (pc' := 30) (hb hby d7_29) rfl rfl ?_
      refine own_aloadN X29 hx (pc' := 31) (hb hby d7_30) rfl rfl rfl ?_
      refine own_getF X29 hx (pc' := 34) hZ hown (host := "") (Or.inl (Wd55 hw)) Via.refl e29 F_w (hb hby d7_31) rfl (fun T32 X32 e32 => ?_)
      refine own_icmpYes X32 hx (pc' := 52) (hb hby d7_34) (flt (by decide : ¬ ((1 : Int32) < (1 : Int32)))).2.1 (by decide) (by decide) ?_
      refine own_iloadN X32 hx (pc' := 53) (hb hby d7_52) rfl rfl ?_
      refine own_retI X32 hx hlk hret (hb hby d7_53) (by decide) (by decide) ?_
      refine ⟨?_, N0, e32⟩
      simp [own_sum, hc9_2, hc9_7]
  · skip
    refine own_icmpYes X1 hx (pc' := 27) (hb hby d7_9) (flt hc9_2).2.1 (by decide) (by decide) ?_
    refine own_iconst X1 hx (pc' := 28) (0 : Int32) (hb hby d7_27) rfl rfl ?_
    refine own_istoreN X1 hx (pc' := 29) (Ls' := #[.val (.ref a), .val (.int (1 : Int32)), .val (.int (0 : Int32))]) (hb hby d7_28) rfl rfl ?_
    refine own_iloadN X1 hx (pc' := 30) (hb hby d7_29) rfl rfl ?_
    refine own_aloadN X1 hx (pc' := 31) (hb hby d7_30) rfl rfl rfl ?_
    refine own_getF X1 hx (pc' := 34) hZ hown (host := "") (Or.inl (Wd55 hw)) Via.refl e1 F_w (hb hby d7_31) rfl (fun T33 X33 e33 => ?_)
    refine own_icmpNo X33 hx (pc' := 37) (hb hby d7_34) (tlt (by decide : (0 : Int32) < (1 : Int32))).2.1 rfl ?_
    refine own_iloadN X33 hx (pc' := 38) (hb hby d7_37) rfl rfl ?_
    refine own_aloadN X33 hx (pc' := 39) (hb hby d7_38) rfl rfl rfl ?_
    refine own_getF X33 hx (pc' := 42) hZ hown (host := "") (Or.inl (Wd21 hw)) Via.refl e33 F_t (hb hby d7_39) rfl (fun T34 X34 e34 => ?_)
    refine own_iloadN X34 hx (pc' := 43) (hb hby d7_42) rfl rfl ?_
    have hi35 : ¬ (0 : Int32) < 0 ∧ (0 : Int32) < z4 := ⟨by decide, by rw [Int32.lt_iff_toInt_lt, own_t32_0]; omega⟩
    obtain ⟨cl36, Ar36, q36, S36, M36, H36, G36⟩ := id V_t
    refine own_iaload X34 hx (pc' := 44) hZ (v := tc) e34 Ar36 (inb_of S36 hi35) (Has.at H36 (inb_of S36 hi35) rfl) (hb hby d7_43) rfl ?_
    refine own_iadd X34 hx (pc' := 45) (hb hby d7_44) rfl rfl ?_
    refine own_istoreN X34 hx (pc' := 46) (Ls' := #[.val (.ref a), .val (.int ((1 : Int32) + tc)), .val (.int (0 : Int32))]) (hb hby d7_45) rfl rfl ?_
    refine own_iinc X34 hx (pc' := 49) (Ls' := #[.val (.ref a), .val (.int ((1 : Int32) + tc)), .val (.int (1 : Int32))]) (hb hby d7_46) rfl rfl rfl ?_
    refine own_goto X34 hx (pc' := 29) (hb hby d7_49) (by decide) (by decide) ?_
    refine own_iloadN X34 hx (pc' := 30) (hb hby d7_29) rfl rfl ?_
    refine own_aloadN X34 hx (pc' := 31) (hb hby d7_30) rfl rfl rfl ?_
    refine own_getF X34 hx (pc' := 34) hZ hown (host := "") (Or.inl (Wd55 hw)) Via.refl e34 F_w (hb hby d7_31) rfl (fun T37 X37 e37 => ?_)
    refine own_icmpYes X37 hx (pc' := 52) (hb hby d7_34) (flt (by decide : ¬ ((1 : Int32) < (1 : Int32)))).2.1 (by decide) (by decide) ?_
    refine own_iloadN X37 hx (pc' := 53) (hb hby d7_52) rfl rfl ?_
    refine own_retI X37 hx hlk hret (hb hby d7_53) (by decide) (by decide) ?_
    refine ⟨?_, N0, e37⟩
    simp [own_sum, hc9_2]

def Qpe0 (h0 : Heap) (n0 : Nat) (v : Option Value) (h : Heap) (L : List Loc) : Prop := v = some (.int (1 : Int32)) ∧ Fr n0 L ∧ h = h0
theorem ef_rm_pe0 (m : MethodId) (x0 : Addr) : entryFrame m #[(.ref x0)] 3 = mkF m 0 #[.val (.ref x0), .unset, .unset] [] := by first | (simp [entryFrame, mkF, argsToLocals, Value.category, maxLocals]; done) | rfl
set_option maxRecDepth 65536 in
set_option maxHeartbeats 40000000 in
theorem rm_pe0 (l : Launch) (Z : State) (a0 : Array Value) (hw : ∀ d ∈ tables_1, d.before a0 Z = true) (ws : List Jvm.Cond) (a : Addr) (h0 : Heap) (n0 : Nat) (Z0 : n0 ≤ h0.size) (F_c : Fld Z h0 a "com/example/rootcast/rootcast/tree/Children" "count" "I" (.int (0 : Int32))) (F_w : Fld Z h0 a "com/example/rootcast/rootcast/tree/Children" "awaited" "I" (.int (0 : Int32))) :
    MetFree l (⟨"com/example/rootcast/rootcast/tree/Children", "peers", "()I"⟩ : MethodName) (head1 (Jvm.Cond.code (⟨"com/example/rootcast/rootcast/tree/Children", "peers", "()I"⟩ : MethodName) prog_127_method_18_code 3 (some .int) :: ws) ({ frames := 0, cells := 0, slots := 0, locals := 0 } : Room)) (fun aa U => aa = #[(.ref a)] ∧ Z.Warmed39 U.vm ∧ U.heap = h0) (fun _ _ _ _ _ => True) (fun _ U o U' => ∃ v L, o = .returned v ∧ Qpe0 h0 n0 v U'.heap L ∧ FrameEnd U o U' L (({ frames := 0, cells := 0, slots := 0, locals := 0 } : Room).cells) (({ frames := 0, cells := 0, slots := 0, locals := 0 } : Room).slots)) := by
  refine own_body pf_6 ?_
  intro p e s m below meth c s₁ hx hby hml hown hnm hlk hret hZ X0 e0
  have N0 : Fr n0 [] := Fr.nil n0
  refine own_go (f' := (mkF m 0 #[.val (.ref a), .unset, .unset] [])) (fun t k => castTop (ef_rm_pe0 m a) k) ?_
  refine own_iconst X0 hx (pc' := 1) (1 : Int32) (hb hby d7_0) rfl rfl ?_
  refine own_istoreN X0 hx (pc' := 2) (Ls' := #[.val (.ref a), .val (.int (1 : Int32)), .unset]) (hb hby d7_1) rfl rfl ?_
  refine own_iconst X0 hx (pc' := 3) (0 : Int32) (hb hby d7_2) rfl rfl ?_
  refine own_istoreN X0 hx (pc' := 4) (Ls' := #[.val (.ref a), .val (.int (1 : Int32)), .val (.int (0 : Int32))]) (hb hby d7_3) rfl rfl ?_
  refine own_iloadN X0 hx (pc' := 5) (hb hby d7_4) rfl rfl ?_
  refine own_aloadN X0 hx (pc' := 6) (hb hby d7_5) rfl rfl rfl ?_
  refine own_getF X0 hx (pc' := 9) hZ hown (host := "") (Or.inl (Wd32 hw)) Via.refl e0 F_c (hb hby d7_6) rfl (fun T1 X1 e1 => ?_)
  refine own_icmpYes X1 hx (pc' := 27) (hb hby d7_9) (flt (by decide : ¬ ((0 : Int32) < (0 : Int32)))).2.1 (by decide) (by decide) ?_
  refine own_iconst X1 hx (pc' := 28) (0 : Int32) (hb hby d7_27) rfl rfl ?_
  refine own_istoreN X1 hx (pc' := 29) (Ls' := #[.val (.ref a), .val (.int (1 : Int32)), .val (.int (0 : Int32))]) (hb hby d7_28) rfl rfl ?_
  refine own_iloadN X1 hx (pc' := 30) (hb hby d7_29) rfl rfl ?_
  refine own_aloadN X1 hx (pc' := 31) (hb hby d7_30) rfl rfl rfl ?_
  refine own_getF X1 hx (pc' := 34) hZ hown (host := "") (Or.inl (Wd55 hw)) Via.refl e1 F_w (hb hby d7_31) rfl (fun T2 X2 e2 => ?_)
  refine own_icmpYes X2 hx (pc' := 52) (hb hby d7_34) (flt (by decide : ¬ ((0 : Int32) < (0 : Int32)))).2.1 (by decide) (by decide) ?_
  refine own_iloadN X2 hx (pc' := 53) (hb hby d7_52) rfl rfl ?_
  refine own_retI X2 hx hlk hret (hb hby d7_53) (by decide) (by decide) ?_
  exact ⟨rfl, N0, e2⟩

theorem d12_0 : decode prog_127_method_13_code 0 = .ok (.aload_n 0, 1) := by decide +kernel
theorem d12_1 : decode prog_127_method_13_code 1 = .ok (.dup, 1) := by decide +kernel
theorem d12_2 : decode prog_127_method_13_code 2 = .ok (.getfield 59, 3) := by decide +kernel
theorem d12_5 : decode prog_127_method_13_code 5 = .ok (.iconst 1, 1) := by decide +kernel
theorem d12_6 : decode prog_127_method_13_code 6 = .ok (.isub, 1) := by decide +kernel
theorem d12_7 : decode prog_127_method_13_code 7 = .ok (.putfield 59, 3) := by decide +kernel
theorem d12_10 : decode prog_127_method_13_code 10 = .ok (.aload_n 0, 1) := by decide +kernel
theorem d12_11 : decode prog_127_method_13_code 11 = .ok (.getfield 22, 3) := by decide +kernel
theorem d12_14 : decode prog_127_method_13_code 14 = .ok (.iload_n 1, 1) := by decide +kernel
theorem d12_15 : decode prog_127_method_13_code 15 = .ok (.iconst 1, 1) := by decide +kernel
theorem d12_16 : decode prog_127_method_13_code 16 = .ok (.iadd, 1) := by decide +kernel
theorem d12_17 : decode prog_127_method_13_code 17 = .ok (.aload_n 0, 1) := by decide +kernel
theorem d12_18 : decode prog_127_method_13_code 18 = .ok (.getfield 22, 3) := by decide +kernel
theorem d12_21 : decode prog_127_method_13_code 21 = .ok (.iload_n 1, 1) := by decide +kernel
theorem d12_22 : decode prog_127_method_13_code 22 = .ok (.aload_n 0, 1) := by decide +kernel
theorem d12_23 : decode prog_127_method_13_code 23 = .ok (.getfield 59, 3) := by decide +kernel
theorem d12_26 : decode prog_127_method_13_code 26 = .ok (.iload_n 1, 1) := by decide +kernel
theorem d12_27 : decode prog_127_method_13_code 27 = .ok (.isub, 1) := by decide +kernel
theorem d12_28 : decode prog_127_method_13_code 28 = .ok (.invokestatic 53, 3) := by decide +kernel
theorem d12_31 : decode prog_127_method_13_code 31 = .ok (.aload_n 0, 1) := by decide +kernel
theorem d12_32 : decode prog_127_method_13_code 32 = .ok (.getfield 25, 3) := by decide +kernel
theorem d12_35 : decode prog_127_method_13_code 35 = .ok (.iload_n 1, 1) := by decide +kernel
theorem d12_36 : decode prog_127_method_13_code 36 = .ok (.iconst 1, 1) := by decide +kernel
theorem d12_37 : decode prog_127_method_13_code 37 = .ok (.iadd, 1) := by decide +kernel
theorem d12_38 : decode prog_127_method_13_code 38 = .ok (.aload_n 0, 1) := by decide +kernel
theorem d12_39 : decode prog_127_method_13_code 39 = .ok (.getfield 25, 3) := by decide +kernel
theorem d12_42 : decode prog_127_method_13_code 42 = .ok (.iload_n 1, 1) := by decide +kernel
theorem d12_43 : decode prog_127_method_13_code 43 = .ok (.aload_n 0, 1) := by decide +kernel
theorem d12_44 : decode prog_127_method_13_code 44 = .ok (.getfield 59, 3) := by decide +kernel
theorem d12_47 : decode prog_127_method_13_code 47 = .ok (.iload_n 1, 1) := by decide +kernel
theorem d12_48 : decode prog_127_method_13_code 48 = .ok (.isub, 1) := by decide +kernel
theorem d12_49 : decode prog_127_method_13_code 49 = .ok (.invokestatic 53, 3) := by decide +kernel
theorem d12_52 : decode prog_127_method_13_code 52 = .ok (.aload_n 0, 1) := by decide +kernel
theorem d12_53 : decode prog_127_method_13_code 53 = .ok (.getfield 28, 3) := by decide +kernel
theorem d12_56 : decode prog_127_method_13_code 56 = .ok (.iload_n 1, 1) := by decide +kernel
theorem d12_57 : decode prog_127_method_13_code 57 = .ok (.iconst 1, 1) := by decide +kernel
theorem d12_58 : decode prog_127_method_13_code 58 = .ok (.iadd, 1) := by decide +kernel
theorem d12_59 : decode prog_127_method_13_code 59 = .ok (.aload_n 0, 1) := by decide +kernel
theorem d12_60 : decode prog_127_method_13_code 60 = .ok (.getfield 28, 3) := by decide +kernel
theorem d12_63 : decode prog_127_method_13_code 63 = .ok (.iload_n 1, 1) := by decide +kernel
theorem d12_64 : decode prog_127_method_13_code 64 = .ok (.aload_n 0, 1) := by decide +kernel
theorem d12_65 : decode prog_127_method_13_code 65 = .ok (.getfield 59, 3) := by decide +kernel
theorem d12_68 : decode prog_127_method_13_code 68 = .ok (.iload_n 1, 1) := by decide +kernel
theorem d12_69 : decode prog_127_method_13_code 69 = .ok (.isub, 1) := by decide +kernel
theorem d12_70 : decode prog_127_method_13_code 70 = .ok (.invokestatic 53, 3) := by decide +kernel
theorem d12_73 : decode prog_127_method_13_code 73 = .ok (.return_, 1) := by decide +kernel
def Qfg (Z : State) (a c1 c2 c3 : Addr) (j1 j2 j3 : ClassId) (z4 sp tc bt cnt : Int32) (b2 : Addr) (h0 : Heap) (n0 : Nat) (v : Option Value) (h : Heap) (L : List Loc) : Prop := v = none ∧ Fr n0 L ∧ Keep h0 h [a, c1, c2, c3] ∧ Fld Z h a "com/example/rootcast/rootcast/tree/Children" "count" "I" (.int cnt) ∧ Fld Z h a "com/example/rootcast/rootcast/tree/Children" "subtree" "[I" (.ref b2) ∧ Fld Z h a "com/example/rootcast/rootcast/tree/Children" "awaited" "I" (.int (0 : Int32)) ∧ Fld Z h a "com/example/rootcast/rootcast/tree/Children" "stopped" "[I" (.ref c1) ∧ Fld Z h a "com/example/rootcast/rootcast/tree/Children" "toCome" "[I" (.ref c2) ∧ Fld Z h a "com/example/rootcast/rootcast/tree/Children" "beatsLeft" "[I" (.ref c3) ∧ Arv Z h c1 j1 .int z4 [(.int sp), (.int (0 : Int32)), (.int (0 : Int32))] (.int (0 : Int32)) ∧ Arv Z h c2 j2 .int z4 [(.int tc), (.int (0 : Int32)), (.int (0 : Int32))] (.int (0 : Int32)) ∧ Arv Z h c3 j3 .int z4 [(.int bt), (.int (0 : Int32)), (.int (0 : Int32))] (.int (0 : Int32))
theorem ef_rm_fg (m : MethodId) (x0 : Addr) (x1 : Int32) : entryFrame m #[(.ref x0), (.int x1)] 2 = mkF m 0 #[.val (.ref x0), .val (.int x1)] [] := by first | (simp [entryFrame, mkF, argsToLocals, Value.category, maxLocals]; done) | rfl
theorem pf_7 : plainFor (⟨"com/example/rootcast/rootcast/tree/Children", "forget", "(I)V"⟩ : MethodName) = true := by apply plainFor_of_name; first | (simp [plainName, overriddenIn]; done) | decide +kernel
set_option maxRecDepth 65536 in
set_option maxHeartbeats 40000000 in
theorem rm_fg (l : Launch) (Z : State) (a0 : Array Value) (hw : ∀ d ∈ tables_1, d.before a0 Z = true) (ws : List Jvm.Cond) (a c1 c2 c3 : Addr) (j1 j2 j3 : ClassId) (z4 sp tc bt cnt : Int32) (b2 : Addr) (h0 : Heap) (n0 : Nat) (Z0 : n0 ≤ h0.size) (hz4 : z4.toInt = 3 ∨ z4.toInt = 4) (g_a : n0 ≤ a) (g_c1 : n0 ≤ c1) (g_c2 : n0 ≤ c2) (g_c3 : n0 ≤ c3) (m12 : c1 ≠ c2) (m13 : c1 ≠ c3) (m23 : c2 ≠ c3)  (E_a : Exa Z h0 a "com/example/rootcast/rootcast/tree/Children") (A_c : Fld Z h0 a "com/example/rootcast/rootcast/tree/Children" "count" "I" (.int cnt)) (A_u : Fld Z h0 a "com/example/rootcast/rootcast/tree/Children" "subtree" "[I" (.ref b2)) (A_w : Fld Z h0 a "com/example/rootcast/rootcast/tree/Children" "awaited" "I" (.int (1 : Int32))) (A_s : Fld Z h0 a "com/example/rootcast/rootcast/tree/Children" "stopped" "[I" (.ref c1)) (A_t : Fld Z h0 a "com/example/rootcast/rootcast/tree/Children" "toCome" "[I" (.ref c2)) (A_b : Fld Z h0 a "com/example/rootcast/rootcast/tree/Children" "beatsLeft" "[I" (.ref c3)) (A_1 : Arv Z h0 c1 j1 .int z4 [(.int sp), (.int (0 : Int32)), (.int (0 : Int32))] (.int (0 : Int32))) (A_2 : Arv Z h0 c2 j2 .int z4 [(.int tc), (.int (0 : Int32)), (.int (0 : Int32))] (.int (0 : Int32))) (A_3 : Arv Z h0 c3 j3 .int z4 [(.int bt), (.int (0 : Int32)), (.int (0 : Int32))] (.int (0 : Int32))) :
    MetFree l (⟨"com/example/rootcast/rootcast/tree/Children", "forget", "(I)V"⟩ : MethodName) (head1 (Jvm.Cond.code (⟨"com/example/rootcast/rootcast/tree/Children", "forget", "(I)V"⟩ : MethodName) prog_127_method_13_code 2 none :: ws) ({ frames := 1, cells := 0, slots := 0, locals := 18 } : Room)) (fun aa U => aa = #[(.ref a), (.int (0 : Int32))] ∧ Z.Warmed39 U.vm ∧ U.heap = h0) (fun _ _ _ _ _ => True) (fun _ U o U' => ∃ v L, o = .returned v ∧ Qfg Z a c1 c2 c3 j1 j2 j3 z4 sp tc bt cnt b2 h0 n0 v U'.heap L ∧ FrameEnd U o U' L (({ frames := 1, cells := 0, slots := 0, locals := 18 } : Room).cells) (({ frames := 1, cells := 0, slots := 0, locals := 18 } : Room).slots)) := by
  refine own_body pf_7 ?_
  intro p e s m below meth c s₁ hx hby hml hown hnm hlk hret hZ X0 e0
  have N0 : Fr n0 [] := Fr.nil n0
  refine own_go (f' := (mkF m 0 #[.val (.ref a), .val (.int (0 : Int32))] [])) (fun t k => castTop (ef_rm_fg m a (0 : Int32)) k) ?_
  have ma1 : a ≠ c1 := by obtain ⟨q1, A1, -⟩ := id A_1; exact ne_arr E_a (Wd3 hw) A1
  have ma2 : a ≠ c2 := by obtain ⟨q1, A1, -⟩ := id A_2; exact ne_arr E_a (Wd3 hw) A1
  have ma3 : a ≠ c3 := by obtain ⟨q1, A1, -⟩ := id A_3; exact ne_arr E_a (Wd3 hw) A1
  have hzn : ¬ z4 < 0 := by rw [Int32.lt_iff_toInt_lt]; show ¬ z4.toInt < 0; omega
  have hz3 : 3 ≤ z4.toNatClampNeg := by have := nat_of hzn; omega
  have hz0 : ¬ (0 : Int32) < 0 ∧ (0 : Int32) < z4 := ⟨by decide, by rw [Int32.lt_iff_toInt_lt, own_t32_0]; omega⟩
  have K1 : Keep h0 h0 [a, c1, c2, c3] := Keep.refl _ _
  refine own_aloadN X0 hx (pc' := 1) (hb hby d12_0) rfl rfl rfl ?_
  refine own_dup X0 hx (pc' := 2) (hb hby d12_1) rfl rfl ?_
  refine own_getF X0 hx (pc' := 5) hZ hown (host := "") (Or.inl (Wd55 hw)) Via.refl e0 A_w (hb hby d12_2) rfl (fun T2 X2 e2 => ?_)
  refine own_iconst X2 hx (pc' := 6) (1 : Int32) (hb hby d12_5) rfl rfl ?_
  refine own_isub X2 hx (pc' := 7) (z := (0 : Int32)) (hb hby d12_6) (by decide) rfl ?_
  refine own_putF X2 hx (pc' := 10) hZ (ty := .int) hown (host := "") (Or.inl (Wd55 hw)) Via.refl e2 A_w E_a (Or.inl (Wd56 hw)) (Wd3 hw) (by decide) rfl rfl (hb hby d12_7) rfl (fun T3 h3 X3 e3 W3 => ?_)
  have N4 := Fr.snoc X3 N0 g_a
  have Z5 : n0 ≤ h3.size := Nat.le_trans Z0 (Nat.le_of_eq (Wr.size W3).symm)
  have K6 : Keep h0 h3 [a, c1, c2, c3] := K1.wr W3 (Or.inl (List.mem_of_getElem? (i := 0) rfl))
  have F7 := (Exa.wr W3 E_a)
  have F8 := (Fld.other W3 A_c (Or.inr (slot_ne (Or.inl (Wd33 hw)) (Or.inl (Wd56 hw)) (by decide) (t := .int) (t' := .int) (by decide) (by decide))))
  have F9 := (Fld.other W3 A_u (Or.inr (slot_ne (Or.inl (Wd16 hw)) (Or.inl (Wd56 hw)) (by decide) (t := (.array .int)) (t' := .int) (by decide) (by decide))))
  have F10 := (Fld.same W3 A_w)
  have F11 := (Fld.other W3 A_s (Or.inr (slot_ne (Or.inl (Wd20 hw)) (Or.inl (Wd56 hw)) (by decide) (t := (.array .int)) (t' := .int) (by decide) (by decide))))
  have F12 := (Fld.other W3 A_t (Or.inr (slot_ne (Or.inl (Wd22 hw)) (Or.inl (Wd56 hw)) (by decide) (t := (.array .int)) (t' := .int) (by decide) (by decide))))
  have F13 := (Fld.other W3 A_b (Or.inr (slot_ne (Or.inl (Wd24 hw)) (Or.inl (Wd56 hw)) (by decide) (t := (.array .int)) (t' := .int) (by decide) (by decide))))
  have F14 := (A_1.other W3 (Ne.symm ma1))
  have F15 := (A_2.other W3 (Ne.symm ma2))
  have F16 := (A_3.other W3 (Ne.symm ma3))
  refine own_aloadN X3 hx (pc' := 11) (hb hby d12_10) rfl rfl rfl ?_
  refine own_getF X3 hx (pc' := 14) hZ hown (host := "") (Or.inl (Wd19 hw)) Via.refl e3 F11 (hb hby d12_11) rfl (fun T17 X17 e17 => ?_)
  refine own_iloadN X17 hx (pc' := 15) (hb hby d12_14) rfl rfl ?_
  refine own_iconst X17 hx (pc' := 16) (1 : Int32) (hb hby d12_15) rfl rfl ?_
  refine own_iadd X17 hx (pc' := 17) (z := (1 : Int32)) (hb hby d12_16) (by decide) rfl ?_
  refine own_aloadN X17 hx (pc' := 18) (hb hby d12_17) rfl rfl rfl ?_
  refine own_getF X17 hx (pc' := 21) hZ hown (host := "") (Or.inl (Wd19 hw)) Via.refl e17 F11 (hb hby d12_18) rfl (fun T18 X18 e18 => ?_)
  refine own_iloadN X18 hx (pc' := 22) (hb hby d12_21) rfl rfl ?_
  refine own_aloadN X18 hx (pc' := 23) (hb hby d12_22) rfl rfl rfl ?_
  refine own_getF X18 hx (pc' := 26) hZ hown (host := "") (Or.inl (Wd55 hw)) Via.refl e18 F10 (hb hby d12_23) rfl (fun T19 X19 e19 => ?_)
  refine own_iloadN X19 hx (pc' := 27) (hb hby d12_26) rfl rfl ?_
  refine own_isub X19 hx (pc' := 28) (z := (0 : Int32)) (hb hby d12_27) (by decide) rfl ?_
  obtain ⟨T20, h20, L20, X20, e20, N20, K20, V20, st20⟩ := cpA X19 hx hZ hown (Wd67 hw) (Wd49 hw) (Wd47 hw) (Wd48 hw) e19 F14 F14 (Or.inl ⟨rfl, rfl⟩) (by decide) (by decide) (by decide) (Nat.le_trans (by decide : ((1 : Int32) : Int32).toNatClampNeg + ((0 : Int32) : Int32).toNatClampNeg ≤ 1) (Nat.le_trans (by decide) hz3)) (Nat.le_trans (by decide : ((0 : Int32) : Int32).toNatClampNeg + ((0 : Int32) : Int32).toNatClampNeg ≤ 0) (Nat.le_trans (by decide) hz3)) (us := []) rfl (Nat.le_of_ble_eq_true rfl) N4 g_c1 (g := (mkF m 28 #[.val (.ref a), .val (.int (0 : Int32))] [(.int (0 : Int32)), (.int (0 : Int32)), (.ref c1), (.int (1 : Int32)), (.ref c1)])) rfl (by rw [hml]; rfl) rfl (hb hby d12_28) (by decide) (W := 0) (by show 2 * 0 + _ ≤ _; exact Nat.le_of_eq rfl) (by decide)
  have Z21 : n0 ≤ h20.size := Nat.le_trans Z5 K20.1
  have K22 : Keep h0 h20 [a, c1, c2, c3] := Keep.trans K6 K20 (allS (Or.inl (List.mem_of_getElem? (i := 1) rfl)) all0)
  have F23 := (Exa.keep F7 K20)
  have F24 := (F8.keep K20 (ninS ma1 nin0))
  have F25 := (F9.keep K20 (ninS ma1 nin0))
  have F26 := (F10.keep K20 (ninS ma1 nin0))
  have F27 := (F11.keep K20 (ninS ma1 nin0))
  have F28 := (F12.keep K20 (ninS ma1 nin0))
  have F29 := (F13.keep K20 (ninS ma1 nin0))
  have F30 := (F15.keep K20 (ninS (Ne.symm m12) nin0))
  have F31 := (F16.keep K20 (ninS (Ne.symm m13) nin0))
  have V32 : Arv Z h20 c1 j1 .int z4 [(.int sp), (.int (0 : Int32)), (.int (0 : Int32))] (.int (0 : Int32)) := V20
  refine own_go (f' := (mkF m 31 #[.val (.ref a), .val (.int (0 : Int32))] [])) st20 ?_
  refine own_aloadN X20 hx (pc' := 32) (hb hby d12_31) rfl rfl rfl ?_
  refine own_getF X20 hx (pc' := 35) hZ hown (host := "") (Or.inl (Wd21 hw)) Via.refl e20 F28 (hb hby d12_32) rfl (fun T33 X33 e33 => ?_)
  refine own_iloadN X33 hx (pc' := 36) (hb hby d12_35) rfl rfl ?_
  refine own_iconst X33 hx (pc' := 37) (1 : Int32) (hb hby d12_36) rfl rfl ?_
  refine own_iadd X33 hx (pc' := 38) (z := (1 : Int32)) (hb hby d12_37) (by decide) rfl ?_
  refine own_aloadN X33 hx (pc' := 39) (hb hby d12_38) rfl rfl rfl ?_
  refine own_getF X33 hx (pc' := 42) hZ hown (host := "") (Or.inl (Wd21 hw)) Via.refl e33 F28 (hb hby d12_39) rfl (fun T34 X34 e34 => ?_)
  refine own_iloadN X34 hx (pc' := 43) (hb hby d12_42) rfl rfl ?_
  refine own_aloadN X34 hx (pc' := 44) (hb hby d12_43) rfl rfl rfl ?_
  refine own_getF X34 hx (pc' := 47) hZ hown (host := "") (Or.inl (Wd55 hw)) Via.refl e34 F26 (hb hby d12_44) rfl (fun T35 X35 e35 => ?_)
  refine own_iloadN X35 hx (pc' := 48) (hb hby d12_47) rfl rfl ?_
  refine own_isub X35 hx (pc' := 49) (z := (0 : Int32)) (hb hby d12_48) (by decide) rfl ?_
  obtain ⟨T36, h36, L36, X36, e36, N36, K36, V36, st36⟩ := cpA X35 hx hZ hown (Wd67 hw) (Wd49 hw) (Wd47 hw) (Wd48 hw) e35 F30 F30 (Or.inl ⟨rfl, rfl⟩) (by decide) (by decide) (by decide) (Nat.le_trans (by decide : ((1 : Int32) : Int32).toNatClampNeg + ((0 : Int32) : Int32).toNatClampNeg ≤ 1) (Nat.le_trans (by decide) hz3)) (Nat.le_trans (by decide : ((0 : Int32) : Int32).toNatClampNeg + ((0 : Int32) : Int32).toNatClampNeg ≤ 0) (Nat.le_trans (by decide) hz3)) (us := []) rfl (Nat.le_of_ble_eq_true rfl) N20 g_c2 (g := (mkF m 49 #[.val (.ref a), .val (.int (0 : Int32))] [(.int (0 : Int32)), (.int (0 : Int32)), (.ref c2), (.int (1 : Int32)), (.ref c2)])) rfl (by rw [hml]; rfl) rfl (hb hby d12_49) (by decide) (W := 0) (by show 2 * 0 + _ ≤ _; exact Nat.le_of_eq rfl) (by decide)
  have Z37 : n0 ≤ h36.size := Nat.le_trans Z21 K36.1
  have K38 : Keep h0 h36 [a, c1, c2, c3] := Keep.trans K22 K36 (allS (Or.inl (List.mem_of_getElem? (i := 2) rfl)) all0)
  have F39 := (Exa.keep F23 K36)
  have F40 := (F24.keep K36 (ninS ma2 nin0))
  have F41 := (F25.keep K36 (ninS ma2 nin0))
  have F42 := (F26.keep K36 (ninS ma2 nin0))
  have F43 := (F27.keep K36 (ninS ma2 nin0))
  have F44 := (F28.keep K36 (ninS ma2 nin0))
  have F45 := (F29.keep K36 (ninS ma2 nin0))
  have F46 := (F31.keep K36 (ninS (Ne.symm m23) nin0))
  have F47 := (V32.keep K36 (ninS m12 nin0))
  have V48 : Arv Z h36 c2 j2 .int z4 [(.int tc), (.int (0 : Int32)), (.int (0 : Int32))] (.int (0 : Int32)) := V36
  refine own_go (f' := (mkF m 52 #[.val (.ref a), .val (.int (0 : Int32))] [])) st36 ?_
  refine own_aloadN X36 hx (pc' := 53) (hb hby d12_52) rfl rfl rfl ?_
  refine own_getF X36 hx (pc' := 56) hZ hown (host := "") (Or.inl (Wd23 hw)) Via.refl e36 F45 (hb hby d12_53) rfl (fun T49 X49 e49 => ?_)
  refine own_iloadN X49 hx (pc' := 57) (hb hby d12_56) rfl rfl ?_
  refine own_iconst X49 hx (pc' := 58) (1 : Int32) (hb hby d12_57) rfl rfl ?_
  refine own_iadd X49 hx (pc' := 59) (z := (1 : Int32)) (hb hby d12_58) (by decide) rfl ?_
  refine own_aloadN X49 hx (pc' := 60) (hb hby d12_59) rfl rfl rfl ?_
  refine own_getF X49 hx (pc' := 63) hZ hown (host := "") (Or.inl (Wd23 hw)) Via.refl e49 F45 (hb hby d12_60) rfl (fun T50 X50 e50 => ?_)
  refine own_iloadN X50 hx (pc' := 64) (hb hby d12_63) rfl rfl ?_
  refine own_aloadN X50 hx (pc' := 65) (hb hby d12_64) rfl rfl rfl ?_
  refine own_getF X50 hx (pc' := 68) hZ hown (host := "") (Or.inl (Wd55 hw)) Via.refl e50 F42 (hb hby d12_65) rfl (fun T51 X51 e51 => ?_)
  refine own_iloadN X51 hx (pc' := 69) (hb hby d12_68) rfl rfl ?_
  refine own_isub X51 hx (pc' := 70) (z := (0 : Int32)) (hb hby d12_69) (by decide) rfl ?_
  obtain ⟨T52, h52, L52, X52, e52, N52, K52, V52, st52⟩ := cpA X51 hx hZ hown (Wd67 hw) (Wd49 hw) (Wd47 hw) (Wd48 hw) e51 F46 F46 (Or.inl ⟨rfl, rfl⟩) (by decide) (by decide) (by decide) (Nat.le_trans (by decide : ((1 : Int32) : Int32).toNatClampNeg + ((0 : Int32) : Int32).toNatClampNeg ≤ 1) (Nat.le_trans (by decide) hz3)) (Nat.le_trans (by decide : ((0 : Int32) : Int32).toNatClampNeg + ((0 : Int32) : Int32).toNatClampNeg ≤ 0) (Nat.le_trans (by decide) hz3)) (us := []) rfl (Nat.le_of_ble_eq_true rfl) N36 g_c3 (g := (mkF m 70 #[.val (.ref a), .val (.int (0 : Int32))] [(.int (0 : Int32)), (.int (0 : Int32)), (.ref c3), (.int (1 : Int32)), (.ref c3)])) rfl (by rw [hml]; rfl) rfl (hb hby d12_70) (by decide) (W := 0) (by show 2 * 0 + _ ≤ _; exact Nat.le_of_eq rfl) (by decide)
  have Z53 : n0 ≤ h52.size := Nat.le_trans Z37 K52.1
  have K54 : Keep h0 h52 [a, c1, c2, c3] := Keep.trans K38 K52 (allS (Or.inl (List.mem_of_getElem? (i := 3) rfl)) all0)
  have F55 := (Exa.keep F39 K52)
  have F56 := (F40.keep K52 (ninS ma3 nin0))
  have F57 := (F41.keep K52 (ninS ma3 nin0))
  have F58 := (F42.keep K52 (ninS ma3 nin0))
  have F59 := (F43.keep K52 (ninS ma3 nin0))
  have F60 := (F44.keep K52 (ninS ma3 nin0))
  have F61 := (F45.keep K52 (ninS ma3 nin0))
  have F62 := (F47.keep K52 (ninS m13 nin0))
  have F63 := (V48.keep K52 (ninS m23 nin0))
  have V64 : Arv Z h52 c3 j3 .int z4 [(.int bt), (.int (0 : Int32)), (.int (0 : Int32))] (.int (0 : Int32)) := V52
  refine own_go (f' := (mkF m 73 #[.val (.ref a), .val (.int (0 : Int32))] [])) st52 ?_
  refine own_retV X52 hx hlk hret (hb hby d12_73) (by decide) (by decide) ?_
  rw [e52]
  exact ⟨rfl, N52, K54, F56, F57, F58, F59, F60, F61, F62, F63, V64⟩

theorem d10_0 : decode prog_127_method_10_code 0 = .ok (.iconst 0, 1) := by decide +kernel
theorem d10_1 : decode prog_127_method_10_code 1 = .ok (.istore_n 3, 1) := by decide +kernel
theorem d10_2 : decode prog_127_method_10_code 2 = .ok (.iload_n 3, 1) := by decide +kernel
theorem d10_3 : decode prog_127_method_10_code 3 = .ok (.aload_n 0, 1) := by decide +kernel
theorem d10_4 : decode prog_127_method_10_code 4 = .ok (.getfield 59, 3) := by decide +kernel
theorem d10_7 : decode prog_127_method_10_code 7 = .ok (.if_icmp .ge 44, 3) := by decide +kernel
theorem d10_10 : decode prog_127_method_10_code 10 = .ok (.aload_n 0, 1) := by decide +kernel
theorem d10_11 : decode prog_127_method_10_code 11 = .ok (.getfield 22, 3) := by decide +kernel
theorem d10_14 : decode prog_127_method_10_code 14 = .ok (.iload_n 3, 1) := by decide +kernel
theorem d10_15 : decode prog_127_method_10_code 15 = .ok (.iaload, 1) := by decide +kernel
theorem d10_16 : decode prog_127_method_10_code 16 = .ok (.iload_n 1, 1) := by decide +kernel
theorem d10_17 : decode prog_127_method_10_code 17 = .ok (.if_icmp .ne 28, 3) := by decide +kernel
theorem d10_20 : decode prog_127_method_10_code 20 = .ok (.aload_n 0, 1) := by decide +kernel
theorem d10_21 : decode prog_127_method_10_code 21 = .ok (.getfield 25, 3) := by decide +kernel
theorem d10_24 : decode prog_127_method_10_code 24 = .ok (.iload_n 3, 1) := by decide +kernel
theorem d10_25 : decode prog_127_method_10_code 25 = .ok (.dup2, 1) := by decide +kernel
theorem d10_26 : decode prog_127_method_10_code 26 = .ok (.iaload, 1) := by decide +kernel
theorem d10_27 : decode prog_127_method_10_code 27 = .ok (.iload_n 2, 1) := by decide +kernel
theorem d10_28 : decode prog_127_method_10_code 28 = .ok (.isub, 1) := by decide +kernel
theorem d10_29 : decode prog_127_method_10_code 29 = .ok (.iastore, 1) := by decide +kernel
theorem d10_30 : decode prog_127_method_10_code 30 = .ok (.aload_n 0, 1) := by decide +kernel
theorem d10_31 : decode prog_127_method_10_code 31 = .ok (.getfield 25, 3) := by decide +kernel
theorem d10_34 : decode prog_127_method_10_code 34 = .ok (.iload_n 3, 1) := by decide +kernel
theorem d10_35 : decode prog_127_method_10_code 35 = .ok (.iaload, 1) := by decide +kernel
theorem d10_36 : decode prog_127_method_10_code 36 = .ok (.ifCond .gt 8, 3) := by decide +kernel
theorem d10_39 : decode prog_127_method_10_code 39 = .ok (.aload_n 0, 1) := by decide +kernel
theorem d10_40 : decode prog_127_method_10_code 40 = .ok (.iload_n 3, 1) := by decide +kernel
theorem d10_41 : decode prog_127_method_10_code 41 = .ok (.invokevirtual 66, 3) := by decide +kernel
theorem d10_44 : decode prog_127_method_10_code 44 = .ok (.return_, 1) := by decide +kernel
theorem d10_45 : decode prog_127_method_10_code 45 = .ok (.iinc 3 1, 3) := by decide +kernel
theorem d10_48 : decode prog_127_method_10_code 48 = .ok (.goto (-46), 3) := by decide +kernel
theorem d10_51 : decode prog_127_method_10_code 51 = .ok (.return_, 1) := by decide +kernel
def QcbE (Z : State) (a c1 c2 c3 : Addr) (j1 j2 j3 : ClassId) (z4 sp tc bt cnt : Int32) (b2 : Addr) (gone : Int32) (back : Int32) (h0 : Heap) (n0 : Nat) (v : Option Value) (h : Heap) (L : List Loc) : Prop := v = none ∧ Fr n0 L ∧ Keep h0 h [a, c1, c2, c3] ∧ Fld Z h a "com/example/rootcast/rootcast/tree/Children" "count" "I" (.int cnt) ∧ Fld Z h a "com/example/rootcast/rootcast/tree/Children" "subtree" "[I" (.ref b2) ∧ Fld Z h a "com/example/rootcast/rootcast/tree/Children" "awaited" "I" (.int (1 : Int32)) ∧ Fld Z h a "com/example/rootcast/rootcast/tree/Children" "stopped" "[I" (.ref c1) ∧ Fld Z h a "com/example/rootcast/rootcast/tree/Children" "toCome" "[I" (.ref c2) ∧ Fld Z h a "com/example/rootcast/rootcast/tree/Children" "beatsLeft" "[I" (.ref c3) ∧ Arv Z h c1 j1 .int z4 [(.int sp), (.int (0 : Int32)), (.int (0 : Int32))] (.int (0 : Int32)) ∧ Arv Z h c2 j2 .int z4 [(.int (tc - back)), (.int (0 : Int32)), (.int (0 : Int32))] (.int (0 : Int32)) ∧ Arv Z h c3 j3 .int z4 [(.int bt), (.int (0 : Int32)), (.int (0 : Int32))] (.int (0 : Int32))
theorem ef_rm_cbE (m : MethodId) (x0 : Addr) (x1 : Int32) (x2 : Int32) : entryFrame m #[(.ref x0), (.int x1), (.int x2)] 4 = mkF m 0 #[.val (.ref x0), .val (.int x1), .val (.int x2), .unset] [] := by first | (simp [entryFrame, mkF, argsToLocals, Value.category, maxLocals]; done) | rfl
theorem pf_8 : plainFor (⟨"com/example/rootcast/rootcast/tree/Children", "cameBack", "(II)V"⟩ : MethodName) = true := by apply plainFor_of_name; first | (simp [plainName, overriddenIn]; done) | decide +kernel
set_option maxRecDepth 65536 in
set_option maxHeartbeats 40000000 in
theorem rm_cbE (l : Launch) (Z : State) (a0 : Array Value) (hw : ∀ d ∈ tables_1, d.before a0 Z = true) (ws : List Jvm.Cond) (a c1 c2 c3 : Addr) (j1 j2 j3 : ClassId) (z4 sp tc bt cnt : Int32) (b2 : Addr) (gone : Int32) (back : Int32) (h0 : Heap) (n0 : Nat) (Z0 : n0 ≤ h0.size) (hz4 : z4.toInt = 3 ∨ z4.toInt = 4) (g_a : n0 ≤ a) (g_c1 : n0 ≤ c1) (g_c2 : n0 ≤ c2) (g_c3 : n0 ≤ c3) (m12 : c1 ≠ c2) (m13 : c1 ≠ c3) (m23 : c2 ≠ c3) (he : sp = gone) (hp : (0 : Int32) < (tc - back)) (E_a : Exa Z h0 a "com/example/rootcast/rootcast/tree/Children") (A_c : Fld Z h0 a "com/example/rootcast/rootcast/tree/Children" "count" "I" (.int cnt)) (A_u : Fld Z h0 a "com/example/rootcast/rootcast/tree/Children" "subtree" "[I" (.ref b2)) (A_w : Fld Z h0 a "com/example/rootcast/rootcast/tree/Children" "awaited" "I" (.int (1 : Int32))) (A_s : Fld Z h0 a "com/example/rootcast/rootcast/tree/Children" "stopped" "[I" (.ref c1)) (A_t : Fld Z h0 a "com/example/rootcast/rootcast/tree/Children" "toCome" "[I" (.ref c2)) (A_b : Fld Z h0 a "com/example/rootcast/rootcast/tree/Children" "beatsLeft" "[I" (.ref c3)) (A_1 : Arv Z h0 c1 j1 .int z4 [(.int sp), (.int (0 : Int32)), (.int (0 : Int32))] (.int (0 : Int32))) (A_2 : Arv Z h0 c2 j2 .int z4 [(.int tc), (.int (0 : Int32)), (.int (0 : Int32))] (.int (0 : Int32))) (A_3 : Arv Z h0 c3 j3 .int z4 [(.int bt), (.int (0 : Int32)), (.int (0 : Int32))] (.int (0 : Int32))) :
    MetFree l (⟨"com/example/rootcast/rootcast/tree/Children", "cameBack", "(II)V"⟩ : MethodName) (head1 (Jvm.Cond.code (⟨"com/example/rootcast/rootcast/tree/Children", "cameBack", "(II)V"⟩ : MethodName) prog_127_method_10_code 4 none :: ws) ({ frames := 0, cells := 0, slots := 0, locals := 0 } : Room)) (fun aa U => aa = #[(.ref a), (.int gone), (.int back)] ∧ Z.Warmed39 U.vm ∧ U.heap = h0) (fun _ _ _ _ _ => True) (fun _ U o U' => ∃ v L, o = .returned v ∧ QcbE Z a c1 c2 c3 j1 j2 j3 z4 sp tc bt cnt b2 gone back h0 n0 v U'.heap L ∧ FrameEnd U o U' L (({ frames := 0, cells := 0, slots := 0, locals := 0 } : Room).cells) (({ frames := 0, cells := 0, slots := 0, locals := 0 } : Room).slots)) := by
  refine own_body pf_8 ?_
  intro p e s m below meth c s₁ hx hby hml hown hnm hlk hret hZ X0 e0
  have N0 : Fr n0 [] := Fr.nil n0
  refine own_go (f' := (mkF m 0 #[.val (.ref a), .val (.int gone), .val (.int back), .unset] [])) (fun t k => castTop (ef_rm_cbE m a gone back) k) ?_
  have ma1 : a ≠ c1 := by obtain ⟨q1, A1, -⟩ := id A_1; exact ne_arr E_a (Wd3 hw) A1
  have ma2 : a ≠ c2 := by obtain ⟨q1, A1, -⟩ := id A_2; exact ne_arr E_a (Wd3 hw) A1
  have ma3 : a ≠ c3 := by obtain ⟨q1, A1, -⟩ := id A_3; exact ne_arr E_a (Wd3 hw) A1
  have hzn : ¬ z4 < 0 := by rw [Int32.lt_iff_toInt_lt]; show ¬ z4.toInt < 0; omega
  have hz3 : 3 ≤ z4.toNatClampNeg := by have := nat_of hzn; omega
  have hz0 : ¬ (0 : Int32) < 0 ∧ (0 : Int32) < z4 := ⟨by decide, by rw [Int32.lt_iff_toInt_lt, own_t32_0]; omega⟩
  have K1 : Keep h0 h0 [a, c1, c2, c3] := Keep.refl _ _
  refine own_iconst X0 hx (pc' := 1) (0 : Int32) (hb hby d10_0) rfl rfl ?_
  refine own_istoreN X0 hx (pc' := 2) (Ls' := #[.val (.ref a), .val (.int gone), .val (.int back), .val (.int (0 : Int32))]) (hb hby d10_1) rfl rfl ?_
  refine own_iloadN X0 hx (pc' := 3) (hb hby d10_2) rfl rfl ?_
  refine own_aloadN X0 hx (pc' := 4) (hb hby d10_3) rfl rfl rfl ?_
  refine own_getF X0 hx (pc' := 7) hZ hown (host := "") (Or.inl (Wd55 hw)) Via.refl e0 A_w (hb hby d10_4) rfl (fun T2 X2 e2 => ?_)
  refine own_icmpNo X2 hx (pc' := 10) (hb hby d10_7) (tlt (by decide : (0 : Int32) < (1 : Int32))).2.1 rfl ?_
  refine own_aloadN X2 hx (pc' := 11) (hb hby d10_10) rfl rfl rfl ?_
  refine own_getF X2 hx (pc' := 14) hZ hown (host := "") (Or.inl (Wd19 hw)) Via.refl e2 A_s (hb hby d10_11) rfl (fun T3 X3 e3 => ?_)
  refine own_iloadN X3 hx (pc' := 15) (hb hby d10_14) rfl rfl ?_
  obtain ⟨cl4, Ar4, q4, S4, M4, H4, G4⟩ := id A_1
  refine own_iaload X3 hx (pc' := 16) hZ (v := sp) e3 Ar4 (inb_of S4 hz0) (Has.at H4 (inb_of S4 hz0) rfl) (hb hby d10_15) rfl ?_
  refine own_iloadN X3 hx (pc' := 17) (hb hby d10_16) rfl rfl ?_
  refine own_icmpNo X3 hx (pc' := 20) (hb hby d10_17) (teq he).2 rfl ?_
  refine own_aloadN X3 hx (pc' := 21) (hb hby d10_20) rfl rfl rfl ?_
  refine own_getF X3 hx (pc' := 24) hZ hown (host := "") (Or.inl (Wd21 hw)) Via.refl e3 A_t (hb hby d10_21) rfl (fun T5 X5 e5 => ?_)
  refine own_iloadN X5 hx (pc' := 25) (hb hby d10_24) rfl rfl ?_
  refine own_dup2 X5 hx (pc' := 26) (hb hby d10_25) rfl rfl rfl ?_
  obtain ⟨cl6, Ar6, q6, S6, M6, H6, G6⟩ := id A_2
  refine own_iaload X5 hx (pc' := 27) hZ (v := tc) e5 Ar6 (inb_of S6 hz0) (Has.at H6 (inb_of S6 hz0) rfl) (hb hby d10_26) rfl ?_
  refine own_iloadN X5 hx (pc' := 28) (hb hby d10_27) rfl rfl ?_
  refine own_isub X5 hx (pc' := 29) (hb hby d10_28) rfl rfl ?_
  obtain ⟨cl7, Ar7, q7, S7, M7, H7, G7⟩ := id A_2
  refine own_stI X5 hx (pc' := 30) hZ e5 Ar7 (inb_of S7 hz0) (hb hby d10_29) rfl (fun T8 h8 X8 e8 W8 => ?_)
  have N9 := Fr.snoc X8 N0 g_c2
  have Z10 : n0 ≤ h8.size := Nat.le_trans Z0 (Nat.le_of_eq (Wr.size W8).symm)
  have K11 : Keep h0 h8 [a, c1, c2, c3] := K1.wr W8 (Or.inl (List.mem_of_getElem? (i := 2) rfl))
  have F12 := (Exa.wr W8 E_a)
  have F13 := (Fld.other W8 A_c (Or.inl ma2))
  have F14 := (Fld.other W8 A_u (Or.inl ma2))
  have F15 := (Fld.other W8 A_w (Or.inl ma2))
  have F16 := (Fld.other W8 A_s (Or.inl ma2))
  have F17 := (Fld.other W8 A_t (Or.inl ma2))
  have F18 := (Fld.other W8 A_b (Or.inl ma2))
  have F19 := (A_1.other W8 m12)
  have F20 : Arv Z h8 c2 j2 .int z4 [(.int (tc - back)), (.int (0 : Int32)), (.int (0 : Int32))] (.int (0 : Int32)) := (Arv.set Ar7 q7 S7 M7 H7 G7 rfl W8 0 rfl (Nat.le_of_ble_eq_true rfl))
  have F21 := (A_3.other W8 (Ne.symm m23))
  refine own_aloadN X8 hx (pc' := 31) (hb hby d10_30) rfl rfl rfl ?_
  refine own_getF X8 hx (pc' := 34) hZ hown (host := "") (Or.inl (Wd21 hw)) Via.refl e8 F17 (hb hby d10_31) rfl (fun T22 X22 e22 => ?_)
  refine own_iloadN X22 hx (pc' := 35) (hb hby d10_34) rfl rfl ?_
  obtain ⟨cl23, Ar23, q23, S23, M23, H23, G23⟩ := id F20
  refine own_iaload X22 hx (pc' := 36) hZ (v := (tc - back)) e22 Ar23 (inb_of S23 hz0) (Has.at H23 (inb_of S23 hz0) rfl) (hb hby d10_35) rfl ?_
  refine own_ifYes X22 hx (pc' := 44) (hb hby d10_36) (tlt hp).2.2.1 (by decide) (by decide) ?_
  refine own_retV X22 hx hlk hret (hb hby d10_44) (by decide) (by decide) ?_
  rw [e22]
  exact ⟨rfl, N9, K11, F13, F14, F15, F16, F17, F18, F19, F20, F21⟩

def QcbF (Z : State) (a c1 c2 c3 : Addr) (j1 j2 j3 : ClassId) (z4 sp tc bt cnt : Int32) (b2 : Addr) (gone : Int32) (back : Int32) (h0 : Heap) (n0 : Nat) (v : Option Value) (h : Heap) (L : List Loc) : Prop := v = none ∧ Fr n0 L ∧ Keep h0 h [a, c1, c2, c3] ∧ Fld Z h a "com/example/rootcast/rootcast/tree/Children" "count" "I" (.int cnt) ∧ Fld Z h a "com/example/rootcast/rootcast/tree/Children" "subtree" "[I" (.ref b2) ∧ Fld Z h a "com/example/rootcast/rootcast/tree/Children" "awaited" "I" (.int (0 : Int32)) ∧ Fld Z h a "com/example/rootcast/rootcast/tree/Children" "stopped" "[I" (.ref c1) ∧ Fld Z h a "com/example/rootcast/rootcast/tree/Children" "toCome" "[I" (.ref c2) ∧ Fld Z h a "com/example/rootcast/rootcast/tree/Children" "beatsLeft" "[I" (.ref c3) ∧ Arv Z h c1 j1 .int z4 [(.int sp), (.int (0 : Int32)), (.int (0 : Int32))] (.int (0 : Int32)) ∧ Arv Z h c2 j2 .int z4 [(.int (tc - back)), (.int (0 : Int32)), (.int (0 : Int32))] (.int (0 : Int32)) ∧ Arv Z h c3 j3 .int z4 [(.int bt), (.int (0 : Int32)), (.int (0 : Int32))] (.int (0 : Int32))
theorem ef_rm_cbF (m : MethodId) (x0 : Addr) (x1 : Int32) (x2 : Int32) : entryFrame m #[(.ref x0), (.int x1), (.int x2)] 4 = mkF m 0 #[.val (.ref x0), .val (.int x1), .val (.int x2), .unset] [] := by first | (simp [entryFrame, mkF, argsToLocals, Value.category, maxLocals]; done) | rfl
theorem Wd81 {a0 : Array Value} {Z : State} (hw : ∀ d ∈ tables_1, d.before a0 Z = true) : (Jvm.Cond.code ({ cls := "com/example/rootcast/rootcast/tree/Children", name := "forget", desc := "(I)V" } : Jvm.MethodName) prog_127_method_13_code (2 : Nat) (Option.none : Option Jvm.ClassFile.FieldType)).before a0 Z = true := hw _ (List.mem_of_getElem? (i := 81) rfl)
theorem Wd4 {a0 : Array Value} {Z : State} (hw : ∀ d ∈ tables_1, d.before a0 Z = true) : (Jvm.Cond.initialized "com/example/rootcast/rootcast/tree/Children").before a0 Z = true := hw _ (List.mem_of_getElem? (i := 4) rfl)
theorem pd_2 : parseMethodDescriptor "(I)V" = some ⟨[.int], none⟩ := by decide +kernel
theorem Wd78 {a0 : Array Value} {Z : State} (hw : ∀ d ∈ tables_1, d.before a0 Z = true) : (Jvm.Cond.methodLink "com/example/rootcast/rootcast/tree/Children" (66 : Nat) ({ cls := "com/example/rootcast/rootcast/tree/Children", name := "forget", desc := "(I)V" } : Jvm.MethodName)).before a0 Z = true := hw _ (List.mem_of_getElem? (i := 78) rfl)
theorem Wd79 {a0 : Array Value} {Z : State} (hw : ∀ d ∈ tables_1, d.before a0 Z = true) : (Jvm.Cond.instanceMethod ({ cls := "com/example/rootcast/rootcast/tree/Children", name := "forget", desc := "(I)V" } : Jvm.MethodName)).before a0 Z = true := hw _ (List.mem_of_getElem? (i := 79) rfl)
theorem Wd80 {a0 : Array Value} {Z : State} (hw : ∀ d ∈ tables_1, d.before a0 Z = true) : (Jvm.Cond.privateMethod ({ cls := "com/example/rootcast/rootcast/tree/Children", name := "forget", desc := "(I)V" } : Jvm.MethodName)).before a0 Z = true := hw _ (List.mem_of_getElem? (i := 80) rfl)
set_option maxRecDepth 65536 in
set_option maxHeartbeats 40000000 in
theorem rm_cbF (l : Launch) (Z : State) (a0 : Array Value) (hw : ∀ d ∈ tables_1, d.before a0 Z = true) (ws : List Jvm.Cond) (a c1 c2 c3 : Addr) (j1 j2 j3 : ClassId) (z4 sp tc bt cnt : Int32) (b2 : Addr) (gone : Int32) (back : Int32) (h0 : Heap) (n0 : Nat) (Z0 : n0 ≤ h0.size) (hz4 : z4.toInt = 3 ∨ z4.toInt = 4) (g_a : n0 ≤ a) (g_c1 : n0 ≤ c1) (g_c2 : n0 ≤ c2) (g_c3 : n0 ≤ c3) (m12 : c1 ≠ c2) (m13 : c1 ≠ c3) (m23 : c2 ≠ c3) (he : sp = gone) (hp : ¬ (0 : Int32) < (tc - back)) (E_a : Exa Z h0 a "com/example/rootcast/rootcast/tree/Children") (A_c : Fld Z h0 a "com/example/rootcast/rootcast/tree/Children" "count" "I" (.int cnt)) (A_u : Fld Z h0 a "com/example/rootcast/rootcast/tree/Children" "subtree" "[I" (.ref b2)) (A_w : Fld Z h0 a "com/example/rootcast/rootcast/tree/Children" "awaited" "I" (.int (1 : Int32))) (A_s : Fld Z h0 a "com/example/rootcast/rootcast/tree/Children" "stopped" "[I" (.ref c1)) (A_t : Fld Z h0 a "com/example/rootcast/rootcast/tree/Children" "toCome" "[I" (.ref c2)) (A_b : Fld Z h0 a "com/example/rootcast/rootcast/tree/Children" "beatsLeft" "[I" (.ref c3)) (A_1 : Arv Z h0 c1 j1 .int z4 [(.int sp), (.int (0 : Int32)), (.int (0 : Int32))] (.int (0 : Int32))) (A_2 : Arv Z h0 c2 j2 .int z4 [(.int tc), (.int (0 : Int32)), (.int (0 : Int32))] (.int (0 : Int32))) (A_3 : Arv Z h0 c3 j3 .int z4 [(.int bt), (.int (0 : Int32)), (.int (0 : Int32))] (.int (0 : Int32))) :
    MetFree l (⟨"com/example/rootcast/rootcast/tree/Children", "cameBack", "(II)V"⟩ : MethodName) (head1 (Jvm.Cond.code (⟨"com/example/rootcast/rootcast/tree/Children", "cameBack", "(II)V"⟩ : MethodName) prog_127_method_10_code 4 none :: ws) ({ frames := 2, cells := 0, slots := 0, locals := 34 } : Room)) (fun aa U => aa = #[(.ref a), (.int gone), (.int back)] ∧ Z.Warmed39 U.vm ∧ U.heap = h0) (fun _ _ _ _ _ => True) (fun _ U o U' => ∃ v L, o = .returned v ∧ QcbF Z a c1 c2 c3 j1 j2 j3 z4 sp tc bt cnt b2 gone back h0 n0 v U'.heap L ∧ FrameEnd U o U' L (({ frames := 2, cells := 0, slots := 0, locals := 34 } : Room).cells) (({ frames := 2, cells := 0, slots := 0, locals := 34 } : Room).slots)) := by
  refine own_body pf_8 ?_
  intro p e s m below meth c s₁ hx hby hml hown hnm hlk hret hZ X0 e0
  have N0 : Fr n0 [] := Fr.nil n0
  refine own_go (f' := (mkF m 0 #[.val (.ref a), .val (.int gone), .val (.int back), .unset] [])) (fun t k => castTop (ef_rm_cbF m a gone back) k) ?_
  have ma1 : a ≠ c1 := by obtain ⟨q1, A1, -⟩ := id A_1; exact ne_arr E_a (Wd3 hw) A1
  have ma2 : a ≠ c2 := by obtain ⟨q1, A1, -⟩ := id A_2; exact ne_arr E_a (Wd3 hw) A1
  have ma3 : a ≠ c3 := by obtain ⟨q1, A1, -⟩ := id A_3; exact ne_arr E_a (Wd3 hw) A1
  have hzn : ¬ z4 < 0 := by rw [Int32.lt_iff_toInt_lt]; show ¬ z4.toInt < 0; omega
  have hz3 : 3 ≤ z4.toNatClampNeg := by have := nat_of hzn; omega
  have hz0 : ¬ (0 : Int32) < 0 ∧ (0 : Int32) < z4 := ⟨by decide, by rw [Int32.lt_iff_toInt_lt, own_t32_0]; omega⟩
  have K1 : Keep h0 h0 [a, c1, c2, c3] := Keep.refl _ _
  refine own_iconst X0 hx (pc' := 1) (0 : Int32) (hb hby d10_0) rfl rfl ?_
  refine own_istoreN X0 hx (pc' := 2) (Ls' := #[.val (.ref a), .val (.int gone), .val (.int back), .val (.int (0 : Int32))]) (hb hby d10_1) rfl rfl ?_
  refine own_iloadN X0 hx (pc' := 3) (hb hby d10_2) rfl rfl ?_
  refine own_aloadN X0 hx (pc' := 4) (hb hby d10_3) rfl rfl rfl ?_
  refine own_getF X0 hx (pc' := 7) hZ hown (host := "") (Or.inl (Wd55 hw)) Via.refl e0 A_w (hb hby d10_4) rfl (fun T2 X2 e2 => ?_)
  refine own_icmpNo X2 hx (pc' := 10) (hb hby d10_7) (tlt (by decide : (0 : Int32) < (1 : Int32))).2.1 rfl ?_
  refine own_aloadN X2 hx (pc' := 11) (hb hby d10_10) rfl rfl rfl ?_
  refine own_getF X2 hx (pc' := 14) hZ hown (host := "") (Or.inl (Wd19 hw)) Via.refl e2 A_s (hb hby d10_11) rfl (fun T3 X3 e3 => ?_)
  refine own_iloadN X3 hx (pc' := 15) (hb hby d10_14) rfl rfl ?_
  obtain ⟨cl4, Ar4, q4, S4, M4, H4, G4⟩ := id A_1
  refine own_iaload X3 hx (pc' := 16) hZ (v := sp) e3 Ar4 (inb_of S4 hz0) (Has.at H4 (inb_of S4 hz0) rfl) (hb hby d10_15) rfl ?_
  refine own_iloadN X3 hx (pc' := 17) (hb hby d10_16) rfl rfl ?_
  refine own_icmpNo X3 hx (pc' := 20) (hb hby d10_17) (teq he).2 rfl ?_
  refine own_aloadN X3 hx (pc' := 21) (hb hby d10_20) rfl rfl rfl ?_
  refine own_getF X3 hx (pc' := 24) hZ hown (host := "") (Or.inl (Wd21 hw)) Via.refl e3 A_t (hb hby d10_21) rfl (fun T5 X5 e5 => ?_)
  refine own_iloadN X5 hx (pc' := 25) (hb hby d10_24) rfl rfl ?_
  refine own_dup2 X5 hx (pc' := 26) (hb hby d10_25) rfl rfl rfl ?_
  obtain ⟨cl6, Ar6, q6, S6, M6, H6, G6⟩ := id A_2
  refine own_iaload X5 hx (pc' := 27) hZ (v := tc) e5 Ar6 (inb_of S6 hz0) (Has.at H6 (inb_of S6 hz0) rfl) (hb hby d10_26) rfl ?_
  refine own_iloadN X5 hx (pc' := 28) (hb hby d10_27) rfl rfl ?_
  refine own_isub X5 hx (pc' := 29) (hb hby d10_28) rfl rfl ?_
  obtain ⟨cl7, Ar7, q7, S7, M7, H7, G7⟩ := id A_2
  refine own_stI X5 hx (pc' := 30) hZ e5 Ar7 (inb_of S7 hz0) (hb hby d10_29) rfl (fun T8 h8 X8 e8 W8 => ?_)
  have N9 := Fr.snoc X8 N0 g_c2
  have Z10 : n0 ≤ h8.size := Nat.le_trans Z0 (Nat.le_of_eq (Wr.size W8).symm)
  have K11 : Keep h0 h8 [a, c1, c2, c3] := K1.wr W8 (Or.inl (List.mem_of_getElem? (i := 2) rfl))
  have F12 := (Exa.wr W8 E_a)
  have F13 := (Fld.other W8 A_c (Or.inl ma2))
  have F14 := (Fld.other W8 A_u (Or.inl ma2))
  have F15 := (Fld.other W8 A_w (Or.inl ma2))
  have F16 := (Fld.other W8 A_s (Or.inl ma2))
  have F17 := (Fld.other W8 A_t (Or.inl ma2))
  have F18 := (Fld.other W8 A_b (Or.inl ma2))
  have F19 := (A_1.other W8 m12)
  have F20 : Arv Z h8 c2 j2 .int z4 [(.int (tc - back)), (.int (0 : Int32)), (.int (0 : Int32))] (.int (0 : Int32)) := (Arv.set Ar7 q7 S7 M7 H7 G7 rfl W8 0 rfl (Nat.le_of_ble_eq_true rfl))
  have F21 := (A_3.other W8 (Ne.symm m23))
  refine own_aloadN X8 hx (pc' := 31) (hb hby d10_30) rfl rfl rfl ?_
  refine own_getF X8 hx (pc' := 34) hZ hown (host := "") (Or.inl (Wd21 hw)) Via.refl e8 F17 (hb hby d10_31) rfl (fun T22 X22 e22 => ?_)
  refine own_iloadN X22 hx (pc' := 35) (hb hby d10_34) rfl rfl ?_
  obtain ⟨cl23, Ar23, q23, S23, M23, H23, G23⟩ := id F20
  refine own_iaload X22 hx (pc' := 36) hZ (v := (tc - back)) e22 Ar23 (inb_of S23 hz0) (Has.at H23 (inb_of S23 hz0) rfl) (hb hby d10_35) rfl ?_
  refine own_ifNo X22 hx (pc' := 39) (hb hby d10_36) (flt hp).2.2.1 rfl ?_
  refine own_aloadN X22 hx (pc' := 40) (hb hby d10_39) rfl rfl rfl ?_
  refine own_iloadN X22 hx (pc' := 41) (hb hby d10_40) rfl rfl ?_
  refine own_callP X22 hx (pc' := 44) hZ hown (Wd78 hw) (Wd79 hw) (Wd80 hw) (Wd81 hw) (Wd4 hw) (Wd3 hw) (by decide) (rm_fg l Z a0 hw [] a c1 c2 c3 j1 j2 j3 z4 sp (tc - back) bt cnt b2 h8 n0 Z10 hz4 g_a g_c1 g_c2 g_c3 m12 m13 m23 F12 F13 F14 F15 F16 F17 F18 F19 F20 F21) e22 F12 0 (by decide) (by decide) (by decide) (by decide) [(.int (0 : Int32))] [] (by rw [hml]; rfl) (lenOf pd_2 rfl) rfl rfl (Nat.le_of_eq rfl) (hb hby d10_41) rfl (fun v24 T24 L24 X24 hQ24 => ?_)
  obtain ⟨rfl, Nq24, K24, Q24_0, Q24_1, Q24_2, Q24_3, Q24_4, Q24_5, Q24_6, Q24_7, Q24_8⟩ := hQ24
  have N25 := Fr.app N9 Nq24
  have Z26 : n0 ≤ T24.heap.size := Nat.le_trans Z10 K24.1
  have K27 : Keep h0 T24.heap [a, c1, c2, c3] := Keep.trans K11 K24 (allS (Or.inl (List.mem_of_getElem? (i := 0) rfl)) (allS (Or.inl (List.mem_of_getElem? (i := 1) rfl)) (allS (Or.inl (List.mem_of_getElem? (i := 2) rfl)) (allS (Or.inl (List.mem_of_getElem? (i := 3) rfl)) all0))))
  have F28 := (Exa.keep F12 K24)
  show own_G p.tables e below _ T24 (mkF m 44 #[.val (.ref a), .val (.int gone), .val (.int back), .val (.int (0 : Int32))] [])
  refine own_retV X24 hx hlk hret (hb hby d10_44) (by decide) (by decide) ?_
  exact ⟨rfl, N25, K27, Q24_0, Q24_1, Q24_2, Q24_3, Q24_4, Q24_5, Q24_6, Q24_7, Q24_8⟩

def QcbN (Z : State) (a c1 c2 c3 : Addr) (j1 j2 j3 : ClassId) (z4 sp tc bt cnt : Int32) (b2 : Addr) (gone : Int32) (back : Int32) (h0 : Heap) (n0 : Nat) (v : Option Value) (h : Heap) (L : List Loc) : Prop := v = none ∧ Fr n0 L ∧ Keep h0 h [a, c1, c2, c3] ∧ Fld Z h a "com/example/rootcast/rootcast/tree/Children" "count" "I" (.int cnt) ∧ Fld Z h a "com/example/rootcast/rootcast/tree/Children" "subtree" "[I" (.ref b2) ∧ Fld Z h a "com/example/rootcast/rootcast/tree/Children" "awaited" "I" (.int (1 : Int32)) ∧ Fld Z h a "com/example/rootcast/rootcast/tree/Children" "stopped" "[I" (.ref c1) ∧ Fld Z h a "com/example/rootcast/rootcast/tree/Children" "toCome" "[I" (.ref c2) ∧ Fld Z h a "com/example/rootcast/rootcast/tree/Children" "beatsLeft" "[I" (.ref c3) ∧ Arv Z h c1 j1 .int z4 [(.int sp), (.int (0 : Int32)), (.int (0 : Int32))] (.int (0 : Int32)) ∧ Arv Z h c2 j2 .int z4 [(.int tc), (.int (0 : Int32)), (.int (0 : Int32))] (.int (0 : Int32)) ∧ Arv Z h c3 j3 .int z4 [(.int bt), (.int (0 : Int32)), (.int (0 : Int32))] (.int (0 : Int32))
theorem ef_rm_cbN (m : MethodId) (x0 : Addr) (x1 : Int32) (x2 : Int32) : entryFrame m #[(.ref x0), (.int x1), (.int x2)] 4 = mkF m 0 #[.val (.ref x0), .val (.int x1), .val (.int x2), .unset] [] := by first | (simp [entryFrame, mkF, argsToLocals, Value.category, maxLocals]; done) | rfl
set_option maxRecDepth 65536 in
set_option maxHeartbeats 40000000 in
theorem rm_cbN (l : Launch) (Z : State) (a0 : Array Value) (hw : ∀ d ∈ tables_1, d.before a0 Z = true) (ws : List Jvm.Cond) (a c1 c2 c3 : Addr) (j1 j2 j3 : ClassId) (z4 sp tc bt cnt : Int32) (b2 : Addr) (gone : Int32) (back : Int32) (h0 : Heap) (n0 : Nat) (Z0 : n0 ≤ h0.size) (hz4 : z4.toInt = 3 ∨ z4.toInt = 4) (g_a : n0 ≤ a) (g_c1 : n0 ≤ c1) (g_c2 : n0 ≤ c2) (g_c3 : n0 ≤ c3) (m12 : c1 ≠ c2) (m13 : c1 ≠ c3) (m23 : c2 ≠ c3) (he : ¬ sp = gone) (E_a : Exa Z h0 a "com/example/rootcast/rootcast/tree/Children") (A_c : Fld Z h0 a "com/example/rootcast/rootcast/tree/Children" "count" "I" (.int cnt)) (A_u : Fld Z h0 a "com/example/rootcast/rootcast/tree/Children" "subtree" "[I" (.ref b2)) (A_w : Fld Z h0 a "com/example/rootcast/rootcast/tree/Children" "awaited" "I" (.int (1 : Int32))) (A_s : Fld Z h0 a "com/example/rootcast/rootcast/tree/Children" "stopped" "[I" (.ref c1)) (A_t : Fld Z h0 a "com/example/rootcast/rootcast/tree/Children" "toCome" "[I" (.ref c2)) (A_b : Fld Z h0 a "com/example/rootcast/rootcast/tree/Children" "beatsLeft" "[I" (.ref c3)) (A_1 : Arv Z h0 c1 j1 .int z4 [(.int sp), (.int (0 : Int32)), (.int (0 : Int32))] (.int (0 : Int32))) (A_2 : Arv Z h0 c2 j2 .int z4 [(.int tc), (.int (0 : Int32)), (.int (0 : Int32))] (.int (0 : Int32))) (A_3 : Arv Z h0 c3 j3 .int z4 [(.int bt), (.int (0 : Int32)), (.int (0 : Int32))] (.int (0 : Int32))) :
    MetFree l (⟨"com/example/rootcast/rootcast/tree/Children", "cameBack", "(II)V"⟩ : MethodName) (head1 (Jvm.Cond.code (⟨"com/example/rootcast/rootcast/tree/Children", "cameBack", "(II)V"⟩ : MethodName) prog_127_method_10_code 4 none :: ws) ({ frames := 0, cells := 0, slots := 0, locals := 0 } : Room)) (fun aa U => aa = #[(.ref a), (.int gone), (.int back)] ∧ Z.Warmed39 U.vm ∧ U.heap = h0) (fun _ _ _ _ _ => True) (fun _ U o U' => ∃ v L, o = .returned v ∧ QcbN Z a c1 c2 c3 j1 j2 j3 z4 sp tc bt cnt b2 gone back h0 n0 v U'.heap L ∧ FrameEnd U o U' L (({ frames := 0, cells := 0, slots := 0, locals := 0 } : Room).cells) (({ frames := 0, cells := 0, slots := 0, locals := 0 } : Room).slots)) := by
  refine own_body pf_8 ?_
  intro p e s m below meth c s₁ hx hby hml hown hnm hlk hret hZ X0 e0
  have N0 : Fr n0 [] := Fr.nil n0
  refine own_go (f' := (mkF m 0 #[.val (.ref a), .val (.int gone), .val (.int back), .unset] [])) (fun t k => castTop (ef_rm_cbN m a gone back) k) ?_
  have ma1 : a ≠ c1 := by obtain ⟨q1, A1, -⟩ := id A_1; exact ne_arr E_a (Wd3 hw) A1
  have ma2 : a ≠ c2 := by obtain ⟨q1, A1, -⟩ := id A_2; exact ne_arr E_a (Wd3 hw) A1
  have ma3 : a ≠ c3 := by obtain ⟨q1, A1, -⟩ := id A_3; exact ne_arr E_a (Wd3 hw) A1
  have hzn : ¬ z4 < 0 := by rw [Int32.lt_iff_toInt_lt]; show ¬ z4.toInt < 0; omega
  have hz3 : 3 ≤ z4.toNatClampNeg := by have := nat_of hzn; omega
  have hz0 : ¬ (0 : Int32) < 0 ∧ (0 : Int32) < z4 := ⟨by decide, by rw [Int32.lt_iff_toInt_lt, own_t32_0]; omega⟩
  have K1 : Keep h0 h0 [a, c1, c2, c3] := Keep.refl _ _
  refine own_iconst X0 hx (pc' := 1) (0 : Int32) (hb hby d10_0) rfl rfl ?_
  refine own_istoreN X0 hx (pc' := 2) (Ls' := #[.val (.ref a), .val (.int gone), .val (.int back), .val (.int (0 : Int32))]) (hb hby d10_1) rfl rfl ?_
  refine own_iloadN X0 hx (pc' := 3) (hb hby d10_2) rfl rfl ?_
  refine own_aloadN X0 hx (pc' := 4) (hb hby d10_3) rfl rfl rfl ?_
  refine own_getF X0 hx (pc' := 7) hZ hown (host := "") (Or.inl (Wd55 hw)) Via.refl e0 A_w (hb hby d10_4) rfl (fun T2 X2 e2 => ?_)
  refine own_icmpNo X2 hx (pc' := 10) (hb hby d10_7) (tlt (by decide : (0 : Int32) < (1 : Int32))).2.1 rfl ?_
  refine own_aloadN X2 hx (pc' := 11) (hb hby d10_10) rfl rfl rfl ?_
  refine own_getF X2 hx (pc' := 14) hZ hown (host := "") (Or.inl (Wd19 hw)) Via.refl e2 A_s (hb hby d10_11) rfl (fun T3 X3 e3 => ?_)
  refine own_iloadN X3 hx (pc' := 15) (hb hby d10_14) rfl rfl ?_
  obtain ⟨cl4, Ar4, q4, S4, M4, H4, G4⟩ := id A_1
  refine own_iaload X3 hx (pc' := 16) hZ (v := sp) e3 Ar4 (inb_of S4 hz0) (Has.at H4 (inb_of S4 hz0) rfl) (hb hby d10_15) rfl ?_
  refine own_iloadN X3 hx (pc' := 17) (hb hby d10_16) rfl rfl ?_
  refine own_icmpYes X3 hx (pc' := 45) (hb hby d10_17) (feq he).2 (by decide) (by decide) ?_
  refine own_iinc X3 hx (pc' := 48) (Ls' := #[.val (.ref a), .val (.int gone), .val (.int back), .val (.int (1 : Int32))]) (hb hby d10_45) rfl rfl rfl ?_
  refine own_goto X3 hx (pc' := 2) (hb hby d10_48) (by decide) (by decide) ?_
  refine own_iloadN X3 hx (pc' := 3) (hb hby d10_2) rfl rfl ?_
  refine own_aloadN X3 hx (pc' := 4) (hb hby d10_3) rfl rfl rfl ?_
  refine own_getF X3 hx (pc' := 7) hZ hown (host := "") (Or.inl (Wd55 hw)) Via.refl e3 A_w (hb hby d10_4) rfl (fun T5 X5 e5 => ?_)
  refine own_icmpYes X5 hx (pc' := 51) (hb hby d10_7) (flt (by decide : ¬ ((1 : Int32) < (1 : Int32)))).2.1 (by decide) (by decide) ?_
  refine own_retV X5 hx hlk hret (hb hby d10_51) (by decide) (by decide) ?_
  rw [e5]
  exact ⟨rfl, N0, K1, A_c, A_u, A_w, A_s, A_t, A_b, A_1, A_2, A_3⟩

theorem d11_0 : decode prog_127_method_11_code 0 = .ok (.aload_n 0, 1) := by decide +kernel
theorem d11_1 : decode prog_127_method_11_code 1 = .ok (.getfield 59, 3) := by decide +kernel
theorem d11_4 : decode prog_127_method_11_code 4 = .ok (.iconst 1, 1) := by decide +kernel
theorem d11_5 : decode prog_127_method_11_code 5 = .ok (.isub, 1) := by decide +kernel
theorem d11_6 : decode prog_127_method_11_code 6 = .ok (.istore_n 1, 1) := by decide +kernel
theorem d11_7 : decode prog_127_method_11_code 7 = .ok (.iload_n 1, 1) := by decide +kernel
theorem d11_8 : decode prog_127_method_11_code 8 = .ok (.ifCond .lt 28, 3) := by decide +kernel
theorem d11_11 : decode prog_127_method_11_code 11 = .ok (.aload_n 0, 1) := by decide +kernel
theorem d11_12 : decode prog_127_method_11_code 12 = .ok (.getfield 28, 3) := by decide +kernel
theorem d11_15 : decode prog_127_method_11_code 15 = .ok (.iload_n 1, 1) := by decide +kernel
theorem d11_16 : decode prog_127_method_11_code 16 = .ok (.dup2, 1) := by decide +kernel
theorem d11_17 : decode prog_127_method_11_code 17 = .ok (.iaload, 1) := by decide +kernel
theorem d11_18 : decode prog_127_method_11_code 18 = .ok (.iconst 1, 1) := by decide +kernel
theorem d11_19 : decode prog_127_method_11_code 19 = .ok (.isub, 1) := by decide +kernel
theorem d11_20 : decode prog_127_method_11_code 20 = .ok (.dup_x2, 1) := by decide +kernel
theorem d11_21 : decode prog_127_method_11_code 21 = .ok (.iastore, 1) := by decide +kernel
theorem d11_22 : decode prog_127_method_11_code 22 = .ok (.ifCond .ne 8, 3) := by decide +kernel
theorem d11_25 : decode prog_127_method_11_code 25 = .ok (.aload_n 0, 1) := by decide +kernel
theorem d11_26 : decode prog_127_method_11_code 26 = .ok (.iload_n 1, 1) := by decide +kernel
theorem d11_27 : decode prog_127_method_11_code 27 = .ok (.invokevirtual 66, 3) := by decide +kernel
theorem d11_30 : decode prog_127_method_11_code 30 = .ok (.iinc 1 (-1), 3) := by decide +kernel
theorem d11_33 : decode prog_127_method_11_code 33 = .ok (.goto (-26), 3) := by decide +kernel
theorem d11_36 : decode prog_127_method_11_code 36 = .ok (.return_, 1) := by decide +kernel
def Qbt1 (Z : State) (a c1 c2 c3 : Addr) (j1 j2 j3 : ClassId) (z4 sp tc bt cnt : Int32) (b2 : Addr) (h0 : Heap) (n0 : Nat) (v : Option Value) (h : Heap) (L : List Loc) : Prop := v = none ∧ Fr n0 L ∧ Keep h0 h [a, c1, c2, c3] ∧ Fld Z h a "com/example/rootcast/rootcast/tree/Children" "count" "I" (.int cnt) ∧ Fld Z h a "com/example/rootcast/rootcast/tree/Children" "subtree" "[I" (.ref b2) ∧ Fld Z h a "com/example/rootcast/rootcast/tree/Children" "awaited" "I" (.int (0 : Int32)) ∧ Fld Z h a "com/example/rootcast/rootcast/tree/Children" "stopped" "[I" (.ref c1) ∧ Fld Z h a "com/example/rootcast/rootcast/tree/Children" "toCome" "[I" (.ref c2) ∧ Fld Z h a "com/example/rootcast/rootcast/tree/Children" "beatsLeft" "[I" (.ref c3) ∧ Arv Z h c1 j1 .int z4 [(.int sp), (.int (0 : Int32)), (.int (0 : Int32))] (.int (0 : Int32)) ∧ Arv Z h c2 j2 .int z4 [(.int tc), (.int (0 : Int32)), (.int (0 : Int32))] (.int (0 : Int32)) ∧ Arv Z h c3 j3 .int z4 [(.int (0 : Int32)), (.int (0 : Int32)), (.int (0 : Int32))] (.int (0 : Int32))
theorem ef_rm_bt1 (m : MethodId) (x0 : Addr) : entryFrame m #[(.ref x0)] 2 = mkF m 0 #[.val (.ref x0), .unset] [] := by first | (simp [entryFrame, mkF, argsToLocals, Value.category, maxLocals]; done) | rfl
theorem pf_9 : plainFor (⟨"com/example/rootcast/rootcast/tree/Children", "beaten", "()V"⟩ : MethodName) = true := by apply plainFor_of_name; first | (simp [plainName, overriddenIn]; done) | decide +kernel
set_option maxRecDepth 65536 in
set_option maxHeartbeats 40000000 in
theorem rm_bt1 (l : Launch) (Z : State) (a0 : Array Value) (hw : ∀ d ∈ tables_1, d.before a0 Z = true) (ws : List Jvm.Cond) (a c1 c2 c3 : Addr) (j1 j2 j3 : ClassId) (z4 sp tc bt cnt : Int32) (b2 : Addr) (h0 : Heap) (n0 : Nat) (Z0 : n0 ≤ h0.size) (hz4 : z4.toInt = 3 ∨ z4.toInt = 4) (g_a : n0 ≤ a) (g_c1 : n0 ≤ c1) (g_c2 : n0 ≤ c2) (g_c3 : n0 ≤ c3) (m12 : c1 ≠ c2) (m13 : c1 ≠ c3) (m23 : c2 ≠ c3) (hbt : bt - (1 : Int32) = (0 : Int32)) (E_a : Exa Z h0 a "com/example/rootcast/rootcast/tree/Children") (A_c : Fld Z h0 a "com/example/rootcast/rootcast/tree/Children" "count" "I" (.int cnt)) (A_u : Fld Z h0 a "com/example/rootcast/rootcast/tree/Children" "subtree" "[I" (.ref b2)) (A_w : Fld Z h0 a "com/example/rootcast/rootcast/tree/Children" "awaited" "I" (.int (1 : Int32))) (A_s : Fld Z h0 a "com/example/rootcast/rootcast/tree/Children" "stopped" "[I" (.ref c1)) (A_t : Fld Z h0 a "com/example/rootcast/rootcast/tree/Children" "toCome" "[I" (.ref c2)) (A_b : Fld Z h0 a "com/example/rootcast/rootcast/tree/Children" "beatsLeft" "[I" (.ref c3)) (A_1 : Arv Z h0 c1 j1 .int z4 [(.int sp), (.int (0 : Int32)), (.int (0 : Int32))] (.int (0 : Int32))) (A_2 : Arv Z h0 c2 j2 .int z4 [(.int tc), (.int (0 : Int32)), (.int (0 : Int32))] (.int (0 : Int32))) (A_3 : Arv Z h0 c3 j3 .int z4 [(.int bt), (.int (0 : Int32)), (.int (0 : Int32))] (.int (0 : Int32))) :
    MetFree l (⟨"com/example/rootcast/rootcast/tree/Children", "beaten", "()V"⟩ : MethodName) (head1 (Jvm.Cond.code (⟨"com/example/rootcast/rootcast/tree/Children", "beaten", "()V"⟩ : MethodName) prog_127_method_11_code 2 none :: ws) ({ frames := 2, cells := 0, slots := 0, locals := 32 } : Room)) (fun aa U => aa = #[(.ref a)] ∧ Z.Warmed39 U.vm ∧ U.heap = h0) (fun _ _ _ _ _ => True) (fun _ U o U' => ∃ v L, o = .returned v ∧ Qbt1 Z a c1 c2 c3 j1 j2 j3 z4 sp tc bt cnt b2 h0 n0 v U'.heap L ∧ FrameEnd U o U' L (({ frames := 2, cells := 0, slots := 0, locals := 32 } : Room).cells) (({ frames := 2, cells := 0, slots := 0, locals := 32 } : Room).slots)) := by
  refine own_body pf_9 ?_
  intro p e s m below meth c s₁ hx hby hml hown hnm hlk hret hZ X0 e0
  have N0 : Fr n0 [] := Fr.nil n0
  refine own_go (f' := (mkF m 0 #[.val (.ref a), .unset] [])) (fun t k => castTop (ef_rm_bt1 m a) k) ?_
  have ma1 : a ≠ c1 := by obtain ⟨q1, A1, -⟩ := id A_1; exact ne_arr E_a (Wd3 hw) A1
  have ma2 : a ≠ c2 := by obtain ⟨q1, A1, -⟩ := id A_2; exact ne_arr E_a (Wd3 hw) A1
  have ma3 : a ≠ c3 := by obtain ⟨q1, A1, -⟩ := id A_3; exact ne_arr E_a (Wd3 hw) A1
  have hzn : ¬ z4 < 0 := by rw [Int32.lt_iff_toInt_lt]; show ¬ z4.toInt < 0; omega
  have hz3 : 3 ≤ z4.toNatClampNeg := by have := nat_of hzn; omega
  have hz0 : ¬ (0 : Int32) < 0 ∧ (0 : Int32) < z4 := ⟨by decide, by rw [Int32.lt_iff_toInt_lt, own_t32_0]; omega⟩
  have K1 : Keep h0 h0 [a, c1, c2, c3] := Keep.refl _ _
  refine own_aloadN X0 hx (pc' := 1) (hb hby d11_0) rfl rfl rfl ?_
  refine own_getF X0 hx (pc' := 4) hZ hown (host := "") (Or.inl (Wd55 hw)) Via.refl e0 A_w (hb hby d11_1) rfl (fun T2 X2 e2 => ?_)
  refine own_iconst X2 hx (pc' := 5) (1 : Int32) (hb hby d11_4) rfl rfl ?_
  refine own_isub X2 hx (pc' := 6) (z := (0 : Int32)) (hb hby d11_5) (by decide) rfl ?_
  refine own_istoreN X2 hx (pc' := 7) (Ls' := #[.val (.ref a), .val (.int (0 : Int32))]) (hb hby d11_6) rfl rfl ?_
  refine own_iloadN X2 hx (pc' := 8) (hb hby d11_7) rfl rfl ?_
  refine own_ifNo X2 hx (pc' := 11) (hb hby d11_8) (flt (by decide : ¬ ((0 : Int32) < (0 : Int32)))).1 rfl ?_
  refine own_aloadN X2 hx (pc' := 12) (hb hby d11_11) rfl rfl rfl ?_
  refine own_getF X2 hx (pc' := 15) hZ hown (host := "") (Or.inl (Wd23 hw)) Via.refl e2 A_b (hb hby d11_12) rfl (fun T3 X3 e3 => ?_)
  refine own_iloadN X3 hx (pc' := 16) (hb hby d11_15) rfl rfl ?_
  refine own_dup2 X3 hx (pc' := 17) (hb hby d11_16) rfl rfl rfl ?_
  obtain ⟨cl4, Ar4, q4, S4, M4, H4, G4⟩ := id A_3
  refine own_iaload X3 hx (pc' := 18) hZ (v := bt) e3 Ar4 (inb_of S4 hz0) (Has.at H4 (inb_of S4 hz0) rfl) (hb hby d11_17) rfl ?_
  refine own_iconst X3 hx (pc' := 19) (1 : Int32) (hb hby d11_18) rfl rfl ?_
  refine own_isub X3 hx (pc' := 20) (hb hby d11_19) rfl rfl ?_
  rw [hbt]
  refine own_dupX2 X3 hx (pc' := 21) (hb hby d11_20) rfl ?_
  obtain ⟨cl5, Ar5, q5, S5, M5, H5, G5⟩ := id A_3
  refine own_stI X3 hx (pc' := 22) hZ e3 Ar5 (inb_of S5 hz0) (hb hby d11_21) rfl (fun T6 h6 X6 e6 W6 => ?_)
  have N7 := Fr.snoc X6 N0 g_c3
  have Z8 : n0 ≤ h6.size := Nat.le_trans Z0 (Nat.le_of_eq (Wr.size W6).symm)
  have K9 : Keep h0 h6 [a, c1, c2, c3] := K1.wr W6 (Or.inl (List.mem_of_getElem? (i := 3) rfl))
  have F10 := (Exa.wr W6 E_a)
  have F11 := (Fld.other W6 A_c (Or.inl ma3))
  have F12 := (Fld.other W6 A_u (Or.inl ma3))
  have F13 := (Fld.other W6 A_w (Or.inl ma3))
  have F14 := (Fld.other W6 A_s (Or.inl ma3))
  have F15 := (Fld.other W6 A_t (Or.inl ma3))
  have F16 := (Fld.other W6 A_b (Or.inl ma3))
  have F17 := (A_1.other W6 m13)
  have F18 := (A_2.other W6 m23)
  have F19 : Arv Z h6 c3 j3 .int z4 [(.int (0 : Int32)), (.int (0 : Int32)), (.int (0 : Int32))] (.int (0 : Int32)) := (Arv.set Ar5 q5 S5 M5 H5 G5 rfl W6 0 rfl (Nat.le_of_ble_eq_true rfl))
  refine own_ifNo X6 hx (pc' := 25) (hb hby d11_22) (teq rfl).2 rfl ?_
  refine own_aloadN X6 hx (pc' := 26) (hb hby d11_25) rfl rfl rfl ?_
  refine own_iloadN X6 hx (pc' := 27) (hb hby d11_26) rfl rfl ?_
  refine own_callP X6 hx (pc' := 30) hZ hown (Wd78 hw) (Wd79 hw) (Wd80 hw) (Wd81 hw) (Wd4 hw) (Wd3 hw) (by decide) (rm_fg l Z a0 hw [] a c1 c2 c3 j1 j2 j3 z4 sp tc (0 : Int32) cnt b2 h6 n0 Z8 hz4 g_a g_c1 g_c2 g_c3 m12 m13 m23 F10 F11 F12 F13 F14 F15 F16 F17 F18 F19) e6 F10 0 (by decide) (by decide) (by decide) (by decide) [(.int (0 : Int32))] [] (by rw [hml]; rfl) (lenOf pd_2 rfl) rfl rfl (Nat.le_of_eq rfl) (hb hby d11_27) rfl (fun v20 T20 L20 X20 hQ20 => ?_)
  obtain ⟨rfl, Nq20, K20, Q20_0, Q20_1, Q20_2, Q20_3, Q20_4, Q20_5, Q20_6, Q20_7, Q20_8⟩ := hQ20
  have N21 := Fr.app N7 Nq20
  have Z22 : n0 ≤ T20.heap.size := Nat.le_trans Z8 K20.1
  have K23 : Keep h0 T20.heap [a, c1, c2, c3] := Keep.trans K9 K20 (allS (Or.inl (List.mem_of_getElem? (i := 0) rfl)) (allS (Or.inl (List.mem_of_getElem? (i := 1) rfl)) (allS (Or.inl (List.mem_of_getElem? (i := 2) rfl)) (allS (Or.inl (List.mem_of_getElem? (i := 3) rfl)) all0))))
  have F24 := (Exa.keep F10 K20)
  show own_G p.tables e below _ T20 (mkF m 30 #[.val (.ref a), .val (.int (0 : Int32))] [])
  refine own_iinc X20 hx (pc' := 33) (Ls' := #[.val (.ref a), .val (.int (-1 : Int32))]) (hb hby d11_30) rfl rfl rfl ?_
  refine own_goto X20 hx (pc' := 7) (hb hby d11_33) (by decide) (by decide) ?_
  refine own_iloadN X20 hx (pc' := 8) (hb hby d11_7) rfl rfl ?_
  refine own_ifYes X20 hx (pc' := 36) (hb hby d11_8) (tlt (by decide : (-1 : Int32) < (0 : Int32))).1 (by decide) (by decide) ?_
  refine own_retV X20 hx hlk hret (hb hby d11_36) (by decide) (by decide) ?_
  exact ⟨rfl, N21, K23, Q20_0, Q20_1, Q20_2, Q20_3, Q20_4, Q20_5, Q20_6, Q20_7, Q20_8⟩

def Qbt2 (Z : State) (a c1 c2 c3 : Addr) (j1 j2 j3 : ClassId) (z4 sp tc bt cnt : Int32) (b2 : Addr) (h0 : Heap) (n0 : Nat) (v : Option Value) (h : Heap) (L : List Loc) : Prop := v = none ∧ Fr n0 L ∧ Keep h0 h [a, c1, c2, c3] ∧ Fld Z h a "com/example/rootcast/rootcast/tree/Children" "count" "I" (.int cnt) ∧ Fld Z h a "com/example/rootcast/rootcast/tree/Children" "subtree" "[I" (.ref b2) ∧ Fld Z h a "com/example/rootcast/rootcast/tree/Children" "awaited" "I" (.int (1 : Int32)) ∧ Fld Z h a "com/example/rootcast/rootcast/tree/Children" "stopped" "[I" (.ref c1) ∧ Fld Z h a "com/example/rootcast/rootcast/tree/Children" "toCome" "[I" (.ref c2) ∧ Fld Z h a "com/example/rootcast/rootcast/tree/Children" "beatsLeft" "[I" (.ref c3) ∧ Arv Z h c1 j1 .int z4 [(.int sp), (.int (0 : Int32)), (.int (0 : Int32))] (.int (0 : Int32)) ∧ Arv Z h c2 j2 .int z4 [(.int tc), (.int (0 : Int32)), (.int (0 : Int32))] (.int (0 : Int32)) ∧ Arv Z h c3 j3 .int z4 [(.int (1 : Int32)), (.int (0 : Int32)), (.int (0 : Int32))] (.int (0 : Int32))
theorem ef_rm_bt2 (m : MethodId) (x0 : Addr) : entryFrame m #[(.ref x0)] 2 = mkF m 0 #[.val (.ref x0), .unset] [] := by first | (simp [entryFrame, mkF, argsToLocals, Value.category, maxLocals]; done) | rfl
set_option maxRecDepth 65536 in
set_option maxHeartbeats 40000000 in
theorem rm_bt2 (l : Launch) (Z : State) (a0 : Array Value) (hw : ∀ d ∈ tables_1, d.before a0 Z = true) (ws : List Jvm.Cond) (a c1 c2 c3 : Addr) (j1 j2 j3 : ClassId) (z4 sp tc bt cnt : Int32) (b2 : Addr) (h0 : Heap) (n0 : Nat) (Z0 : n0 ≤ h0.size) (hz4 : z4.toInt = 3 ∨ z4.toInt = 4) (g_a : n0 ≤ a) (g_c1 : n0 ≤ c1) (g_c2 : n0 ≤ c2) (g_c3 : n0 ≤ c3) (m12 : c1 ≠ c2) (m13 : c1 ≠ c3) (m23 : c2 ≠ c3) (hbt : bt - (1 : Int32) = (1 : Int32)) (E_a : Exa Z h0 a "com/example/rootcast/rootcast/tree/Children") (A_c : Fld Z h0 a "com/example/rootcast/rootcast/tree/Children" "count" "I" (.int cnt)) (A_u : Fld Z h0 a "com/example/rootcast/rootcast/tree/Children" "subtree" "[I" (.ref b2)) (A_w : Fld Z h0 a "com/example/rootcast/rootcast/tree/Children" "awaited" "I" (.int (1 : Int32))) (A_s : Fld Z h0 a "com/example/rootcast/rootcast/tree/Children" "stopped" "[I" (.ref c1)) (A_t : Fld Z h0 a "com/example/rootcast/rootcast/tree/Children" "toCome" "[I" (.ref c2)) (A_b : Fld Z h0 a "com/example/rootcast/rootcast/tree/Children" "beatsLeft" "[I" (.ref c3)) (A_1 : Arv Z h0 c1 j1 .int z4 [(.int sp), (.int (0 : Int32)), (.int (0 : Int32))] (.int (0 : Int32))) (A_2 : Arv Z h0 c2 j2 .int z4 [(.int tc), (.int (0 : Int32)), (.int (0 : Int32))] (.int (0 : Int32))) (A_3 : Arv Z h0 c3 j3 .int z4 [(.int bt), (.int (0 : Int32)), (.int (0 : Int32))] (.int (0 : Int32))) :
    MetFree l (⟨"com/example/rootcast/rootcast/tree/Children", "beaten", "()V"⟩ : MethodName) (head1 (Jvm.Cond.code (⟨"com/example/rootcast/rootcast/tree/Children", "beaten", "()V"⟩ : MethodName) prog_127_method_11_code 2 none :: ws) ({ frames := 2, cells := 0, slots := 0, locals := 32 } : Room)) (fun aa U => aa = #[(.ref a)] ∧ Z.Warmed39 U.vm ∧ U.heap = h0) (fun _ _ _ _ _ => True) (fun _ U o U' => ∃ v L, o = .returned v ∧ Qbt2 Z a c1 c2 c3 j1 j2 j3 z4 sp tc bt cnt b2 h0 n0 v U'.heap L ∧ FrameEnd U o U' L (({ frames := 2, cells := 0, slots := 0, locals := 32 } : Room).cells) (({ frames := 2, cells := 0, slots := 0, locals := 32 } : Room).slots)) := by
  refine own_body pf_9 ?_
  intro p e s m below meth c s₁ hx hby hml hown hnm hlk hret hZ X0 e0
  have N0 : Fr n0 [] := Fr.nil n0
  refine own_go (f' := (mkF m 0 #[.val (.ref a), .unset] [])) (fun t k => castTop (ef_rm_bt2 m a) k) ?_
  have ma1 : a ≠ c1 := by obtain ⟨q1, A1, -⟩ := id A_1; exact ne_arr E_a (Wd3 hw) A1
  have ma2 : a ≠ c2 := by obtain ⟨q1, A1, -⟩ := id A_2; exact ne_arr E_a (Wd3 hw) A1
  have ma3 : a ≠ c3 := by obtain ⟨q1, A1, -⟩ := id A_3; exact ne_arr E_a (Wd3 hw) A1
  have hzn : ¬ z4 < 0 := by rw [Int32.lt_iff_toInt_lt]; show ¬ z4.toInt < 0; omega
  have hz3 : 3 ≤ z4.toNatClampNeg := by have := nat_of hzn; omega
  have hz0 : ¬ (0 : Int32) < 0 ∧ (0 : Int32) < z4 := ⟨by decide, by rw [Int32.lt_iff_toInt_lt, own_t32_0]; omega⟩
  have K1 : Keep h0 h0 [a, c1, c2, c3] := Keep.refl _ _
  refine own_aloadN X0 hx (pc' := 1) (hb hby d11_0) rfl rfl rfl ?_
  refine own_getF X0 hx (pc' := 4) hZ hown (host := "") (Or.inl (Wd55 hw)) Via.refl e0 A_w (hb hby d11_1) rfl (fun T2 X2 e2 => ?_)
  refine own_iconst X2 hx (pc' := 5) (1 : Int32) (hb hby d11_4) rfl rfl ?_
  refine own_isub X2 hx (pc' := 6) (z := (0 : Int32)) (hb hby d11_5) (by decide) rfl ?_
  refine own_istoreN X2 hx (pc' := 7) (Ls' := #[.val (.ref a), .val (.int (0 : Int32))]) (hb hby d11_6) rfl rfl ?_
  refine own_iloadN X2 hx (pc' := 8) (hb hby d11_7) rfl rfl ?_
  refine own_ifNo X2 hx (pc' := 11) (hb hby d11_8) (flt (by decide : ¬ ((0 : Int32) < (0 : Int32)))).1 rfl ?_
  refine own_aloadN X2 hx (pc' := 12) (hb hby d11_11) rfl rfl rfl ?_
  refine own_getF X2 hx (pc' := 15) hZ hown (host := "") (Or.inl (Wd23 hw)) Via.refl e2 A_b (hb hby d11_12) rfl (fun T3 X3 e3 => ?_)
  refine own_iloadN X3 hx (pc' := 16) (hb hby d11_15) rfl rfl ?_
  refine own_dup2 X3 hx (pc' := 17) (hb hby d11_16) rfl rfl rfl ?_
  obtain ⟨cl4, Ar4, q4, S4, M4, H4, G4⟩ := id A_3
  refine own_iaload X3 hx (pc' := 18) hZ (v := bt) e3 Ar4 (inb_of S4 hz0) (Has.at H4 (inb_of S4 hz0) rfl) (hb hby d11_17) rfl ?_
  refine own_iconst X3 hx (pc' := 19) (1 : Int32) (hb hby d11_18) rfl rfl ?_
  refine own_isub X3 hx (pc' := 20) (hb hby d11_19) rfl rfl ?_
  rw [hbt]
  refine own_dupX2 X3 hx (pc' := 21) (hb hby d11_20) rfl ?_
  obtain ⟨cl5, Ar5, q5, S5, M5, H5, G5⟩ := id A_3
  refine own_stI X3 hx (pc' := 22) hZ e3 Ar5 (inb_of S5 hz0) (hb hby d11_21) rfl (fun T6 h6 X6 e6 W6 => ?_)
  have N7 := Fr.snoc X6 N0 g_c3
  have Z8 : n0 ≤ h6.size := Nat.le_trans Z0 (Nat.le_of_eq (Wr.size W6).symm)
  have K9 : Keep h0 h6 [a, c1, c2, c3] := K1.wr W6 (Or.inl (List.mem_of_getElem? (i := 3) rfl))
  have F10 := (Exa.wr W6 E_a)
  have F11 := (Fld.other W6 A_c (Or.inl ma3))
  have F12 := (Fld.other W6 A_u (Or.inl ma3))
  have F13 := (Fld.other W6 A_w (Or.inl ma3))
  have F14 := (Fld.other W6 A_s (Or.inl ma3))
  have F15 := (Fld.other W6 A_t (Or.inl ma3))
  have F16 := (Fld.other W6 A_b (Or.inl ma3))
  have F17 := (A_1.other W6 m13)
  have F18 := (A_2.other W6 m23)
  have F19 : Arv Z h6 c3 j3 .int z4 [(.int (1 : Int32)), (.int (0 : Int32)), (.int (0 : Int32))] (.int (0 : Int32)) := (Arv.set Ar5 q5 S5 M5 H5 G5 rfl W6 0 rfl (Nat.le_of_ble_eq_true rfl))
  refine own_ifYes X6 hx (pc' := 30) (hb hby d11_22) (feq (by decide : ¬ ((1 : Int32) = (0 : Int32)))).2 (by decide) (by decide) ?_
  refine own_iinc X6 hx (pc' := 33) (Ls' := #[.val (.ref a), .val (.int (-1 : Int32))]) (hb hby d11_30) rfl rfl rfl ?_
  refine own_goto X6 hx (pc' := 7) (hb hby d11_33) (by decide) (by decide) ?_
  refine own_iloadN X6 hx (pc' := 8) (hb hby d11_7) rfl rfl ?_
  refine own_ifYes X6 hx (pc' := 36) (hb hby d11_8) (tlt (by decide : (-1 : Int32) < (0 : Int32))).1 (by decide) (by decide) ?_
  refine own_retV X6 hx hlk hret (hb hby d11_36) (by decide) (by decide) ?_
  rw [e6]
  exact ⟨rfl, N7, K9, F11, F12, F13, F14, F15, F16, F17, F18, F19⟩

def Qcb0 (h0 : Heap) (n0 : Nat) (v : Option Value) (h : Heap) (L : List Loc) : Prop := v = none ∧ Fr n0 L ∧ h = h0
theorem ef_rm_cb0 (m : MethodId) (x0 : Addr) (x1 : Int32) (x2 : Int32) : entryFrame m #[(.ref x0), (.int x1), (.int x2)] 4 = mkF m 0 #[.val (.ref x0), .val (.int x1), .val (.int x2), .unset] [] := by first | (simp [entryFrame, mkF, argsToLocals, Value.category, maxLocals]; done) | rfl
set_option maxRecDepth 65536 in
set_option maxHeartbeats 40000000 in
theorem rm_cb0 (l : Launch) (Z : State) (a0 : Array Value) (hw : ∀ d ∈ tables_1, d.before a0 Z = true) (ws : List Jvm.Cond) (a : Addr) (gone back : Int32) (h0 : Heap) (n0 : Nat) (Z0 : n0 ≤ h0.size) (F_w : Fld Z h0 a "com/example/rootcast/rootcast/tree/Children" "awaited" "I" (.int (0 : Int32))) :
    MetFree l (⟨"com/example/rootcast/rootcast/tree/Children", "cameBack", "(II)V"⟩ : MethodName) (head1 (Jvm.Cond.code (⟨"com/example/rootcast/rootcast/tree/Children", "cameBack", "(II)V"⟩ : MethodName) prog_127_method_10_code 4 none :: ws) ({ frames := 0, cells := 0, slots := 0, locals := 0 } : Room)) (fun aa U => aa = #[(.ref a), (.int gone), (.int back)] ∧ Z.Warmed39 U.vm ∧ U.heap = h0) (fun _ _ _ _ _ => True) (fun _ U o U' => ∃ v L, o = .returned v ∧ Qcb0 h0 n0 v U'.heap L ∧ FrameEnd U o U' L (({ frames := 0, cells := 0, slots := 0, locals := 0 } : Room).cells) (({ frames := 0, cells := 0, slots := 0, locals := 0 } : Room).slots)) := by
  refine own_body pf_8 ?_
  intro p e s m below meth c s₁ hx hby hml hown hnm hlk hret hZ X0 e0
  have N0 : Fr n0 [] := Fr.nil n0
  refine own_go (f' := (mkF m 0 #[.val (.ref a), .val (.int gone), .val (.int back), .unset] [])) (fun t k => castTop (ef_rm_cb0 m a gone back) k) ?_
  refine own_iconst X0 hx (pc' := 1) (0 : Int32) (hb hby d10_0) rfl rfl ?_
  refine own_istoreN X0 hx (pc' := 2) (Ls' := #[.val (.ref a), .val (.int gone), .val (.int back), .val (.int (0 : Int32))]) (hb hby d10_1) rfl rfl ?_
  refine own_iloadN X0 hx (pc' := 3) (hb hby d10_2) rfl rfl ?_
  refine own_aloadN X0 hx (pc' := 4) (hb hby d10_3) rfl rfl rfl ?_
  refine own_getF X0 hx (pc' := 7) hZ hown (host := "") (Or.inl (Wd55 hw)) Via.refl e0 F_w (hb hby d10_4) rfl (fun T1 X1 e1 => ?_)
  refine own_icmpYes X1 hx (pc' := 51) (hb hby d10_7) (flt (by decide : ¬ ((0 : Int32) < (0 : Int32)))).2.1 (by decide) (by decide) ?_
  refine own_retV X1 hx hlk hret (hb hby d10_51) (by decide) (by decide) ?_
  exact ⟨rfl, N0, e1⟩

def Qbt0 (h0 : Heap) (n0 : Nat) (v : Option Value) (h : Heap) (L : List Loc) : Prop := v = none ∧ Fr n0 L ∧ h = h0
theorem ef_rm_bt0 (m : MethodId) (x0 : Addr) : entryFrame m #[(.ref x0)] 2 = mkF m 0 #[.val (.ref x0), .unset] [] := by first | (simp [entryFrame, mkF, argsToLocals, Value.category, maxLocals]; done) | rfl
set_option maxRecDepth 65536 in
set_option maxHeartbeats 40000000 in
theorem rm_bt0 (l : Launch) (Z : State) (a0 : Array Value) (hw : ∀ d ∈ tables_1, d.before a0 Z = true) (ws : List Jvm.Cond) (a : Addr) (h0 : Heap) (n0 : Nat) (Z0 : n0 ≤ h0.size) (F_w : Fld Z h0 a "com/example/rootcast/rootcast/tree/Children" "awaited" "I" (.int (0 : Int32))) :
    MetFree l (⟨"com/example/rootcast/rootcast/tree/Children", "beaten", "()V"⟩ : MethodName) (head1 (Jvm.Cond.code (⟨"com/example/rootcast/rootcast/tree/Children", "beaten", "()V"⟩ : MethodName) prog_127_method_11_code 2 none :: ws) ({ frames := 0, cells := 0, slots := 0, locals := 0 } : Room)) (fun aa U => aa = #[(.ref a)] ∧ Z.Warmed39 U.vm ∧ U.heap = h0) (fun _ _ _ _ _ => True) (fun _ U o U' => ∃ v L, o = .returned v ∧ Qbt0 h0 n0 v U'.heap L ∧ FrameEnd U o U' L (({ frames := 0, cells := 0, slots := 0, locals := 0 } : Room).cells) (({ frames := 0, cells := 0, slots := 0, locals := 0 } : Room).slots)) := by
  refine own_body pf_9 ?_
  intro p e s m below meth c s₁ hx hby hml hown hnm hlk hret hZ X0 e0
  have N0 : Fr n0 [] := Fr.nil n0
  refine own_go (f' := (mkF m 0 #[.val (.ref a), .unset] [])) (fun t k => castTop (ef_rm_bt0 m a) k) ?_
  refine own_aloadN X0 hx (pc' := 1) (hb hby d11_0) rfl rfl rfl ?_
  refine own_getF X0 hx (pc' := 4) hZ hown (host := "") (Or.inl (Wd55 hw)) Via.refl e0 F_w (hb hby d11_1) rfl (fun T1 X1 e1 => ?_)
  refine own_iconst X1 hx (pc' := 5) (1 : Int32) (hb hby d11_4) rfl rfl ?_
  refine own_isub X1 hx (pc' := 6) (z := (-1 : Int32)) (hb hby d11_5) (by decide) rfl ?_
  refine own_istoreN X1 hx (pc' := 7) (Ls' := #[.val (.ref a), .val (.int (-1 : Int32))]) (hb hby d11_6) rfl rfl ?_
  refine own_iloadN X1 hx (pc' := 8) (hb hby d11_7) rfl rfl ?_
  refine own_ifYes X1 hx (pc' := 36) (hb hby d11_8) (tlt (by decide : (-1 : Int32) < (0 : Int32))).1 (by decide) (by decide) ?_
  refine own_retV X1 hx hlk hret (hb hby d11_36) (by decide) (by decide) ?_
  exact ⟨rfl, N0, e1⟩

theorem d8_0 : decode prog_127_method_9_code 0 = .ok (.aload_n 0, 1) := by decide +kernel
theorem d8_1 : decode prog_127_method_9_code 1 = .ok (.getfield 16, 3) := by decide +kernel
theorem d8_4 : decode prog_127_method_9_code 4 = .ok (.iload_n 1, 1) := by decide +kernel
theorem d8_5 : decode prog_127_method_9_code 5 = .ok (.iaload, 1) := by decide +kernel
theorem d8_6 : decode prog_127_method_9_code 6 = .ok (.iconst 1, 1) := by decide +kernel
theorem d8_7 : decode prog_127_method_9_code 7 = .ok (.if_icmp .le 114, 3) := by decide +kernel
theorem d8_10 : decode prog_127_method_9_code 10 = .ok (.aload_n 0, 1) := by decide +kernel
theorem d8_11 : decode prog_127_method_9_code 11 = .ok (.getfield 59, 3) := by decide +kernel
theorem d8_14 : decode prog_127_method_9_code 14 = .ok (.aload_n 0, 1) := by decide +kernel
theorem d8_15 : decode prog_127_method_9_code 15 = .ok (.getfield 22, 3) := by decide +kernel
theorem d8_18 : decode prog_127_method_9_code 18 = .ok (.arraylength, 1) := by decide +kernel
theorem d8_19 : decode prog_127_method_9_code 19 = .ok (.if_icmp .ne 50, 3) := by decide +kernel
theorem d8_22 : decode prog_127_method_9_code 22 = .ok (.iconst 4, 1) := by decide +kernel
theorem d8_23 : decode prog_127_method_9_code 23 = .ok (.iconst 2, 1) := by decide +kernel
theorem d8_24 : decode prog_127_method_9_code 24 = .ok (.aload_n 0, 1) := by decide +kernel
theorem d8_25 : decode prog_127_method_9_code 25 = .ok (.getfield 59, 3) := by decide +kernel
theorem d8_28 : decode prog_127_method_9_code 28 = .ok (.imul, 1) := by decide +kernel
theorem d8_29 : decode prog_127_method_9_code 29 = .ok (.invokestatic 38, 3) := by decide +kernel
theorem d8_32 : decode prog_127_method_9_code 32 = .ok (.istore_n 3, 1) := by decide +kernel
theorem d8_33 : decode prog_127_method_9_code 33 = .ok (.aload_n 0, 1) := by decide +kernel
theorem d8_34 : decode prog_127_method_9_code 34 = .ok (.aload_n 0, 1) := by decide +kernel
theorem d8_35 : decode prog_127_method_9_code 35 = .ok (.getfield 22, 3) := by decide +kernel
theorem d8_38 : decode prog_127_method_9_code 38 = .ok (.iload_n 3, 1) := by decide +kernel
theorem d8_39 : decode prog_127_method_9_code 39 = .ok (.invokestatic 47, 3) := by decide +kernel
theorem d8_42 : decode prog_127_method_9_code 42 = .ok (.putfield 22, 3) := by decide +kernel
theorem d8_45 : decode prog_127_method_9_code 45 = .ok (.aload_n 0, 1) := by decide +kernel
theorem d8_46 : decode prog_127_method_9_code 46 = .ok (.aload_n 0, 1) := by decide +kernel
theorem d8_47 : decode prog_127_method_9_code 47 = .ok (.getfield 25, 3) := by decide +kernel
theorem d8_50 : decode prog_127_method_9_code 50 = .ok (.iload_n 3, 1) := by decide +kernel
theorem d8_51 : decode prog_127_method_9_code 51 = .ok (.invokestatic 47, 3) := by decide +kernel
theorem d8_54 : decode prog_127_method_9_code 54 = .ok (.putfield 25, 3) := by decide +kernel
theorem d8_57 : decode prog_127_method_9_code 57 = .ok (.aload_n 0, 1) := by decide +kernel
theorem d8_58 : decode prog_127_method_9_code 58 = .ok (.aload_n 0, 1) := by decide +kernel
theorem d8_59 : decode prog_127_method_9_code 59 = .ok (.getfield 28, 3) := by decide +kernel
theorem d8_62 : decode prog_127_method_9_code 62 = .ok (.iload_n 3, 1) := by decide +kernel
theorem d8_63 : decode prog_127_method_9_code 63 = .ok (.invokestatic 47, 3) := by decide +kernel
theorem d8_66 : decode prog_127_method_9_code 66 = .ok (.putfield 28, 3) := by decide +kernel
theorem d8_69 : decode prog_127_method_9_code 69 = .ok (.aload_n 0, 1) := by decide +kernel
theorem d8_70 : decode prog_127_method_9_code 70 = .ok (.getfield 22, 3) := by decide +kernel
theorem d8_73 : decode prog_127_method_9_code 73 = .ok (.aload_n 0, 1) := by decide +kernel
theorem d8_74 : decode prog_127_method_9_code 74 = .ok (.getfield 59, 3) := by decide +kernel
theorem d8_77 : decode prog_127_method_9_code 77 = .ok (.aload_n 0, 1) := by decide +kernel
theorem d8_78 : decode prog_127_method_9_code 78 = .ok (.getfield 13, 3) := by decide +kernel
theorem d8_81 : decode prog_127_method_9_code 81 = .ok (.iload_n 1, 1) := by decide +kernel
theorem d8_82 : decode prog_127_method_9_code 82 = .ok (.iaload, 1) := by decide +kernel
theorem d8_83 : decode prog_127_method_9_code 83 = .ok (.iastore, 1) := by decide +kernel
theorem d8_84 : decode prog_127_method_9_code 84 = .ok (.aload_n 0, 1) := by decide +kernel
theorem d8_85 : decode prog_127_method_9_code 85 = .ok (.getfield 25, 3) := by decide +kernel
theorem d8_88 : decode prog_127_method_9_code 88 = .ok (.aload_n 0, 1) := by decide +kernel
theorem d8_89 : decode prog_127_method_9_code 89 = .ok (.getfield 59, 3) := by decide +kernel
theorem d8_92 : decode prog_127_method_9_code 92 = .ok (.aload_n 0, 1) := by decide +kernel
theorem d8_93 : decode prog_127_method_9_code 93 = .ok (.getfield 16, 3) := by decide +kernel
theorem d8_96 : decode prog_127_method_9_code 96 = .ok (.iload_n 1, 1) := by decide +kernel
theorem d8_97 : decode prog_127_method_9_code 97 = .ok (.iaload, 1) := by decide +kernel
theorem d8_98 : decode prog_127_method_9_code 98 = .ok (.iconst 1, 1) := by decide +kernel
theorem d8_99 : decode prog_127_method_9_code 99 = .ok (.isub, 1) := by decide +kernel
theorem d8_100 : decode prog_127_method_9_code 100 = .ok (.iastore, 1) := by decide +kernel
theorem d8_101 : decode prog_127_method_9_code 101 = .ok (.aload_n 0, 1) := by decide +kernel
theorem d8_102 : decode prog_127_method_9_code 102 = .ok (.getfield 28, 3) := by decide +kernel
theorem d8_105 : decode prog_127_method_9_code 105 = .ok (.aload_n 0, 1) := by decide +kernel
theorem d8_106 : decode prog_127_method_9_code 106 = .ok (.getfield 59, 3) := by decide +kernel
theorem d8_109 : decode prog_127_method_9_code 109 = .ok (.iload_n 2, 1) := by decide +kernel
theorem d8_110 : decode prog_127_method_9_code 110 = .ok (.iastore, 1) := by decide +kernel
theorem d8_111 : decode prog_127_method_9_code 111 = .ok (.aload_n 0, 1) := by decide +kernel
theorem d8_112 : decode prog_127_method_9_code 112 = .ok (.dup, 1) := by decide +kernel
theorem d8_113 : decode prog_127_method_9_code 113 = .ok (.getfield 59, 3) := by decide +kernel
theorem d8_116 : decode prog_127_method_9_code 116 = .ok (.iconst 1, 1) := by decide +kernel
theorem d8_117 : decode prog_127_method_9_code 117 = .ok (.iadd, 1) := by decide +kernel
theorem d8_118 : decode prog_127_method_9_code 118 = .ok (.putfield 59, 3) := by decide +kernel
theorem d8_121 : decode prog_127_method_9_code 121 = .ok (.aload_n 0, 1) := by decide +kernel
theorem d8_122 : decode prog_127_method_9_code 122 = .ok (.iload_n 1, 1) := by decide +kernel
theorem d8_123 : decode prog_127_method_9_code 123 = .ok (.invokevirtual 62, 3) := by decide +kernel
theorem d8_126 : decode prog_127_method_9_code 126 = .ok (.return_, 1) := by decide +kernel
def QrsN10 (Z : State) (a b1 b2 b3 : Addr) (k1 k2 k3 : ClassId) (z x0 x1 x2 u0 u1 u2 t0 t1 t2 : Int32) (nn : Addr) (kn : ClassId) (bt : Int32) (h0 : Heap) (n0 : Nat) (v : Option Value) (h : Heap) (L : List Loc) : Prop := v = none ∧ Fr n0 L ∧ Keep h0 h [a, b1, b2, b3] ∧ Fld Z h a "com/example/rootcast/rootcast/tree/Children" "count" "I" (.int (0 : Int32)) ∧ Fld Z h a "com/example/rootcast/rootcast/tree/Children" "subtree" "[I" (.ref b2) ∧ Arv Z h b2 k2 .int z [(.int u0), (.int u1), (.int u2)] (.int (0 : Int32)) ∧ Fld Z h a "com/example/rootcast/rootcast/tree/Children" "awaited" "I" (.int (0 : Int32))
theorem ef_rm_rsN10 (m : MethodId) (x0 : Addr) (x1 : Int32) (x2 : Int32) : entryFrame m #[(.ref x0), (.int x1), (.int x2)] 4 = mkF m 0 #[.val (.ref x0), .val (.int x1), .val (.int x2), .unset] [] := by first | (simp [entryFrame, mkF, argsToLocals, Value.category, maxLocals]; done) | rfl
theorem pf_10 : plainFor (⟨"com/example/rootcast/rootcast/tree/Children", "removeStopped", "(II)V"⟩ : MethodName) = true := by apply plainFor_of_name; first | (simp [plainName, overriddenIn]; done) | decide +kernel
theorem Wd66 {a0 : Array Value} {Z : State} (hw : ∀ d ∈ tables_1, d.before a0 Z = true) : (Jvm.Cond.code ({ cls := "com/example/rootcast/rootcast/tree/Children", name := "remove", desc := "(I)V" } : Jvm.MethodName) prog_127_method_8_code (2 : Nat) (Option.none : Option Jvm.ClassFile.FieldType)).before a0 Z = true := hw _ (List.mem_of_getElem? (i := 66) rfl)
theorem Wd62 {a0 : Array Value} {Z : State} (hw : ∀ d ∈ tables_1, d.before a0 Z = true) : (Jvm.Cond.methodLink "com/example/rootcast/rootcast/tree/Children" (62 : Nat) ({ cls := "com/example/rootcast/rootcast/tree/Children", name := "remove", desc := "(I)V" } : Jvm.MethodName)).before a0 Z = true := hw _ (List.mem_of_getElem? (i := 62) rfl)
theorem Wd64 {a0 : Array Value} {Z : State} (hw : ∀ d ∈ tables_1, d.before a0 Z = true) : (Jvm.Cond.instanceMethod ({ cls := "com/example/rootcast/rootcast/tree/Children", name := "remove", desc := "(I)V" } : Jvm.MethodName)).before a0 Z = true := hw _ (List.mem_of_getElem? (i := 64) rfl)
theorem Wd65 {a0 : Array Value} {Z : State} (hw : ∀ d ∈ tables_1, d.before a0 Z = true) : (Jvm.Cond.selects "com/example/rootcast/rootcast/tree/Children" ({ cls := "com/example/rootcast/rootcast/tree/Children", name := "remove", desc := "(I)V" } : Jvm.MethodName) ({ cls := "com/example/rootcast/rootcast/tree/Children", name := "remove", desc := "(I)V" } : Jvm.MethodName)).before a0 Z = true := hw _ (List.mem_of_getElem? (i := 65) rfl)
set_option maxRecDepth 65536 in
set_option maxHeartbeats 40000000 in
theorem rm_rsN10 (l : Launch) (Z : State) (a0 : Array Value) (hw : ∀ d ∈ tables_1, d.before a0 Z = true) (ws : List Jvm.Cond) (a b1 b2 b3 : Addr) (k1 k2 k3 : ClassId) (z x0 x1 x2 u0 u1 u2 t0 t1 t2 : Int32) (nn : Addr) (kn : ClassId) (bt : Int32) (h0 : Heap) (n0 : Nat) (Z0 : n0 ≤ h0.size) (hz : z.toInt = 3 ∨ z.toInt = 4) (g_a : n0 ≤ a) (g_b1 : n0 ≤ b1) (g_b2 : n0 ≤ b2) (g_b3 : n0 ≤ b3) (dj12 : b1 ≠ b2) (dj13 : b1 ≠ b3) (dj23 : b2 ≠ b3) (hgt : ¬ (1 : Int32) < u0) (E_a : Exa Z h0 a "com/example/rootcast/rootcast/tree/Children") (F_c : Fld Z h0 a "com/example/rootcast/rootcast/tree/Children" "count" "I" (.int (1 : Int32))) (F_p : Fld Z h0 a "com/example/rootcast/rootcast/tree/Children" "peers" "[I" (.ref b1)) (F_u : Fld Z h0 a "com/example/rootcast/rootcast/tree/Children" "subtree" "[I" (.ref b2)) (F_t : Fld Z h0 a "com/example/rootcast/rootcast/tree/Children" "sent" "[I" (.ref b3)) (X_awaited : Fld Z h0 a "com/example/rootcast/rootcast/tree/Children" "awaited" "I" (.int (0 : Int32))) (X_stopped : Fld Z h0 a "com/example/rootcast/rootcast/tree/Children" "stopped" "[I" (.ref nn)) (X_toCome : Fld Z h0 a "com/example/rootcast/rootcast/tree/Children" "toCome" "[I" (.ref nn)) (X_beatsLeft : Fld Z h0 a "com/example/rootcast/rootcast/tree/Children" "beatsLeft" "[I" (.ref nn)) (V_1 : Arv Z h0 b1 k1 .int z [(.int x0), (.int x1), (.int x2)] (.int (0 : Int32))) (V_2 : Arv Z h0 b2 k2 .int z [(.int u0), (.int u1), (.int u2)] (.int (0 : Int32))) (V_3 : Arv Z h0 b3 k3 .int z [(.int t0), (.int t1), (.int t2)] (.int (0 : Int32))) (V_n : Arv Z h0 nn kn .int (0 : Int32) [] (.int (0 : Int32))) :
    MetFree l (⟨"com/example/rootcast/rootcast/tree/Children", "removeStopped", "(II)V"⟩ : MethodName) (head1 (Jvm.Cond.code (⟨"com/example/rootcast/rootcast/tree/Children", "removeStopped", "(II)V"⟩ : MethodName) prog_127_method_9_code 4 none :: ws) ({ frames := 2, cells := 0, slots := 0, locals := 34 } : Room)) (fun aa U => aa = #[(.ref a), (.int (0 : Int32)), (.int bt)] ∧ Z.Warmed39 U.vm ∧ U.heap = h0) (fun _ _ _ _ _ => True) (fun _ U o U' => ∃ v L, o = .returned v ∧ QrsN10 Z a b1 b2 b3 k1 k2 k3 z x0 x1 x2 u0 u1 u2 t0 t1 t2 nn kn bt h0 n0 v U'.heap L ∧ FrameEnd U o U' L (({ frames := 2, cells := 0, slots := 0, locals := 34 } : Room).cells) (({ frames := 2, cells := 0, slots := 0, locals := 34 } : Room).slots)) := by
  refine own_body pf_10 ?_
  intro p e s m below meth c s₁ hx hby hml hown hnm hlk hret hZ X0 e0
  have N0 : Fr n0 [] := Fr.nil n0
  refine own_go (f' := (mkF m 0 #[.val (.ref a), .val (.int (0 : Int32)), .val (.int bt), .unset] [])) (fun t k => castTop (ef_rm_rsN10 m a (0 : Int32) bt) k) ?_
  have ea1 : a ≠ b1 := by obtain ⟨c1, A1, -⟩ := V_1; exact ne_arr E_a (Wd3 hw) A1
  have ea2 : a ≠ b2 := by obtain ⟨c1, A1, -⟩ := V_2; exact ne_arr E_a (Wd3 hw) A1
  have ea3 : a ≠ b3 := by obtain ⟨c1, A1, -⟩ := V_3; exact ne_arr E_a (Wd3 hw) A1
  have ne_a_nn : a ≠ nn := by obtain ⟨q1, A1, -⟩ := id V_n; exact ne_arr E_a (Wd3 hw) A1
  have hzn : ¬ z < 0 := by rw [Int32.lt_iff_toInt_lt]; show ¬ z.toInt < 0; omega
  have hz3 : 3 ≤ z.toNatClampNeg := by have := nat_of hzn; omega
  have K1 : Keep h0 h0 [a, b1, b2, b3] := Keep.refl _ _
  refine own_aloadN X0 hx (pc' := 1) (hb hby d8_0) rfl rfl rfl ?_
  refine own_getF X0 hx (pc' := 4) hZ hown (host := "") (Or.inl (Wd15 hw)) Via.refl e0 F_u (hb hby d8_1) rfl (fun T2 X2 e2 => ?_)
  refine own_iloadN X2 hx (pc' := 5) (hb hby d8_4) rfl rfl ?_
  have hi3 : ¬ (0 : Int32) < 0 ∧ (0 : Int32) < z := ⟨by decide, by rw [Int32.lt_iff_toInt_lt, own_t32_0]; omega⟩
  obtain ⟨cl4, Ar4, q4, S4, M4, H4, G4⟩ := id V_2
  refine own_iaload X2 hx (pc' := 6) hZ (v := u0) e2 Ar4 (inb_of S4 hi3) (Has.at H4 (inb_of S4 hi3) rfl) (hb hby d8_5) rfl ?_
  refine own_iconst X2 hx (pc' := 7) (1 : Int32) (hb hby d8_6) rfl rfl ?_
  refine own_icmpYes X2 hx (pc' := 121) (hb hby d8_7) (flt hgt).2.2.2 (by decide) (by decide) ?_
  refine own_aloadN X2 hx (pc' := 122) (hb hby d8_121) rfl rfl rfl ?_
  refine own_iloadN X2 hx (pc' := 123) (hb hby d8_122) rfl rfl ?_
  refine own_callV X2 hx (pc' := 126) hZ hown (Wd62 hw) (Wd64 hw) (Wd65 hw) (Wd66 hw) (Wd4 hw) (by decide) (rm_rem10 l Z a0 hw [] a b1 b2 b3 k1 k2 k3 z x0 x1 x2 u0 u1 u2 t0 t1 t2 nn nn nn (0 : Int32) h0 n0 Z0 hz g_a g_b1 g_b2 g_b3 dj12 dj13 dj23 E_a F_c F_p F_u F_t V_1 V_2 V_3 X_awaited X_stopped X_toCome X_beatsLeft) e2 E_a 0 (by decide) (by decide) (by decide) (by decide) [(.int (0 : Int32))] [] (by rw [hml]; rfl) (lenOf pd_2 rfl) rfl rfl (Nat.le_of_eq rfl) (hb hby d8_123) rfl (fun v5 T5 L5 X5 hQ5 => ?_)
  obtain ⟨rfl, Nq5, K5, Gc5, Gp5, Gu5, Gt5, Va5, Vb5, Vc5, Xa5, Xb5, Xc5, Xd5⟩ := hQ5
  have N6 := Fr.app N0 Nq5
  have Z7 : n0 ≤ T5.heap.size := Nat.le_trans Z0 K5.1
  have K8 : Keep h0 T5.heap [a, b1, b2, b3] := Keep.trans K1 K5 (allS (Or.inl (List.mem_of_getElem? (i := 0) rfl)) (allS (Or.inl (List.mem_of_getElem? (i := 1) rfl)) (allS (Or.inl (List.mem_of_getElem? (i := 2) rfl)) (allS (Or.inl (List.mem_of_getElem? (i := 3) rfl)) all0))))
  have F9 := (Exa.keep E_a K5)
  show own_G p.tables e below _ T5 (mkF m 126 #[.val (.ref a), .val (.int (0 : Int32)), .val (.int bt), .unset] [])
  refine own_retV X5 hx hlk hret (hb hby d8_126) (by decide) (by decide) ?_
  exact ⟨rfl, N6, K8, Gc5, Gu5, Vb5, Xa5⟩

def QrsA10 (Z : State) (a b1 b2 b3 : Addr) (k1 k2 k3 : ClassId) (z x0 x1 x2 u0 u1 u2 t0 t1 t2 : Int32) (nn : Addr) (kn : ClassId) (bt : Int32) (h0 : Heap) (n0 : Nat) (v : Option Value) (h : Heap) (L : List Loc) : Prop := v = none ∧ Fr n0 L ∧ Keep h0 h [a, b1, b2, b3] ∧ Fld Z h a "com/example/rootcast/rootcast/tree/Children" "count" "I" (.int (0 : Int32)) ∧ Fld Z h a "com/example/rootcast/rootcast/tree/Children" "subtree" "[I" (.ref b2) ∧ Arv Z h b2 k2 .int z [(.int u0), (.int u1), (.int u2)] (.int (0 : Int32)) ∧ ∃ (c1 c2 c3 : Addr) (j1 j2 j3 : ClassId), (h0.size ≤ c1 ∧ h0.size ≤ c2 ∧ h0.size ≤ c3) ∧ (c1 ≠ c2 ∧ c1 ≠ c3 ∧ c2 ≠ c3) ∧ Fld Z h a "com/example/rootcast/rootcast/tree/Children" "awaited" "I" (.int (1 : Int32)) ∧ Fld Z h a "com/example/rootcast/rootcast/tree/Children" "stopped" "[I" (.ref c1) ∧ Fld Z h a "com/example/rootcast/rootcast/tree/Children" "toCome" "[I" (.ref c2) ∧ Fld Z h a "com/example/rootcast/rootcast/tree/Children" "beatsLeft" "[I" (.ref c3) ∧ Arv Z h c1 j1 .int (4 : Int32) [(.int x0), (.int (0 : Int32)), (.int (0 : Int32))] (.int (0 : Int32)) ∧ Arv Z h c2 j2 .int (4 : Int32) [(.int (u0 - (1 : Int32))), (.int (0 : Int32)), (.int (0 : Int32))] (.int (0 : Int32)) ∧ Arv Z h c3 j3 .int (4 : Int32) [(.int bt), (.int (0 : Int32)), (.int (0 : Int32))] (.int (0 : Int32))
theorem ef_rm_rsA10 (m : MethodId) (x0 : Addr) (x1 : Int32) (x2 : Int32) : entryFrame m #[(.ref x0), (.int x1), (.int x2)] 4 = mkF m 0 #[.val (.ref x0), .val (.int x1), .val (.int x2), .unset] [] := by first | (simp [entryFrame, mkF, argsToLocals, Value.category, maxLocals]; done) | rfl
set_option maxRecDepth 65536 in
set_option maxHeartbeats 40000000 in
theorem rm_rsA10 (l : Launch) (Z : State) (a0 : Array Value) (hw : ∀ d ∈ tables_1, d.before a0 Z = true) (ws : List Jvm.Cond) (a b1 b2 b3 : Addr) (k1 k2 k3 : ClassId) (z x0 x1 x2 u0 u1 u2 t0 t1 t2 : Int32) (nn : Addr) (kn : ClassId) (bt : Int32) (h0 : Heap) (n0 : Nat) (Z0 : n0 ≤ h0.size) (hz : z.toInt = 3 ∨ z.toInt = 4) (g_a : n0 ≤ a) (g_b1 : n0 ≤ b1) (g_b2 : n0 ≤ b2) (g_b3 : n0 ≤ b3) (dj12 : b1 ≠ b2) (dj13 : b1 ≠ b3) (dj23 : b2 ≠ b3) (hgt : (1 : Int32) < u0) (E_a : Exa Z h0 a "com/example/rootcast/rootcast/tree/Children") (F_c : Fld Z h0 a "com/example/rootcast/rootcast/tree/Children" "count" "I" (.int (1 : Int32))) (F_p : Fld Z h0 a "com/example/rootcast/rootcast/tree/Children" "peers" "[I" (.ref b1)) (F_u : Fld Z h0 a "com/example/rootcast/rootcast/tree/Children" "subtree" "[I" (.ref b2)) (F_t : Fld Z h0 a "com/example/rootcast/rootcast/tree/Children" "sent" "[I" (.ref b3)) (X_awaited : Fld Z h0 a "com/example/rootcast/rootcast/tree/Children" "awaited" "I" (.int (0 : Int32))) (X_stopped : Fld Z h0 a "com/example/rootcast/rootcast/tree/Children" "stopped" "[I" (.ref nn)) (X_toCome : Fld Z h0 a "com/example/rootcast/rootcast/tree/Children" "toCome" "[I" (.ref nn)) (X_beatsLeft : Fld Z h0 a "com/example/rootcast/rootcast/tree/Children" "beatsLeft" "[I" (.ref nn)) (V_1 : Arv Z h0 b1 k1 .int z [(.int x0), (.int x1), (.int x2)] (.int (0 : Int32))) (V_2 : Arv Z h0 b2 k2 .int z [(.int u0), (.int u1), (.int u2)] (.int (0 : Int32))) (V_3 : Arv Z h0 b3 k3 .int z [(.int t0), (.int t1), (.int t2)] (.int (0 : Int32))) (V_n : Arv Z h0 nn kn .int (0 : Int32) [] (.int (0 : Int32))) :
    MetFree l (⟨"com/example/rootcast/rootcast/tree/Children", "removeStopped", "(II)V"⟩ : MethodName) (head1 (Jvm.Cond.code (⟨"com/example/rootcast/rootcast/tree/Children", "removeStopped", "(II)V"⟩ : MethodName) prog_127_method_9_code 4 none :: ws) ({ frames := 2, cells := 3, slots := 12, locals := 48 } : Room)) (fun aa U => aa = #[(.ref a), (.int (0 : Int32)), (.int bt)] ∧ Z.Warmed39 U.vm ∧ U.heap = h0) (fun _ _ _ _ _ => True) (fun _ U o U' => ∃ v L, o = .returned v ∧ QrsA10 Z a b1 b2 b3 k1 k2 k3 z x0 x1 x2 u0 u1 u2 t0 t1 t2 nn kn bt h0 n0 v U'.heap L ∧ FrameEnd U o U' L (({ frames := 2, cells := 3, slots := 12, locals := 48 } : Room).cells) (({ frames := 2, cells := 3, slots := 12, locals := 48 } : Room).slots)) := by
  refine own_body pf_10 ?_
  intro p e s m below meth c s₁ hx hby hml hown hnm hlk hret hZ X0 e0
  have N0 : Fr n0 [] := Fr.nil n0
  refine own_go (f' := (mkF m 0 #[.val (.ref a), .val (.int (0 : Int32)), .val (.int bt), .unset] [])) (fun t k => castTop (ef_rm_rsA10 m a (0 : Int32) bt) k) ?_
  have ea1 : a ≠ b1 := by obtain ⟨c1, A1, -⟩ := V_1; exact ne_arr E_a (Wd3 hw) A1
  have ea2 : a ≠ b2 := by obtain ⟨c1, A1, -⟩ := V_2; exact ne_arr E_a (Wd3 hw) A1
  have ea3 : a ≠ b3 := by obtain ⟨c1, A1, -⟩ := V_3; exact ne_arr E_a (Wd3 hw) A1
  have ne_a_nn : a ≠ nn := by obtain ⟨q1, A1, -⟩ := id V_n; exact ne_arr E_a (Wd3 hw) A1
  have hzn : ¬ z < 0 := by rw [Int32.lt_iff_toInt_lt]; show ¬ z.toInt < 0; omega
  have hz3 : 3 ≤ z.toNatClampNeg := by have := nat_of hzn; omega
  have K1 : Keep h0 h0 [a, b1, b2, b3] := Keep.refl _ _
  refine own_aloadN X0 hx (pc' := 1) (hb hby d8_0) rfl rfl rfl ?_
  refine own_getF X0 hx (pc' := 4) hZ hown (host := "") (Or.inl (Wd15 hw)) Via.refl e0 F_u (hb hby d8_1) rfl (fun T2 X2 e2 => ?_)
  refine own_iloadN X2 hx (pc' := 5) (hb hby d8_4) rfl rfl ?_
  have hi3 : ¬ (0 : Int32) < 0 ∧ (0 : Int32) < z := ⟨by decide, by rw [Int32.lt_iff_toInt_lt, own_t32_0]; omega⟩
  obtain ⟨cl4, Ar4, q4, S4, M4, H4, G4⟩ := id V_2
  refine own_iaload X2 hx (pc' := 6) hZ (v := u0) e2 Ar4 (inb_of S4 hi3) (Has.at H4 (inb_of S4 hi3) rfl) (hb hby d8_5) rfl ?_
  refine own_iconst X2 hx (pc' := 7) (1 : Int32) (hb hby d8_6) rfl rfl ?_
  refine own_icmpNo X2 hx (pc' := 10) (hb hby d8_7) (tlt hgt).2.2.2 rfl ?_
  refine own_aloadN X2 hx (pc' := 11) (hb hby d8_10) rfl rfl rfl ?_
  refine own_getF X2 hx (pc' := 14) hZ hown (host := "") (Or.inl (Wd55 hw)) Via.refl e2 X_awaited (hb hby d8_11) rfl (fun T5 X5 e5 => ?_)
  refine own_aloadN X5 hx (pc' := 15) (hb hby d8_14) rfl rfl rfl ?_
  refine own_getF X5 hx (pc' := 18) hZ hown (host := "") (Or.inl (Wd19 hw)) Via.refl e5 X_stopped (hb hby d8_15) rfl (fun T6 X6 e6 => ?_)
  obtain ⟨cl7, Ar7, q7, S7, M7, H7, G7⟩ := id V_n
  refine own_len X6 hx (pc' := 19) hZ e6 Ar7 S7 M7 (hb hby d8_18) rfl ?_
  refine own_icmpNo X6 hx (pc' := 22) (hb hby d8_19) (teq rfl).2 rfl ?_
  refine own_iconst X6 hx (pc' := 23) (4 : Int32) (hb hby d8_22) rfl rfl ?_
  refine own_iconst X6 hx (pc' := 24) (2 : Int32) (hb hby d8_23) rfl rfl ?_
  refine own_aloadN X6 hx (pc' := 25) (hb hby d8_24) rfl rfl rfl ?_
  refine own_getF X6 hx (pc' := 28) hZ hown (host := "") (Or.inl (Wd55 hw)) Via.refl e6 X_awaited (hb hby d8_25) rfl (fun T8 X8 e8 => ?_)
  refine own_imul X8 hx (pc' := 29) (z := (0 : Int32)) (hb hby d8_28) (by decide) rfl ?_
  refine own_callS X8 hx (pc' := 32) hZ hown (Wd34 hw) (Wd35 hw) (Wd36 hw) (Wd37 hw) (by decide) (rm_max l Z a0 hw [] (4 : Int32) (0 : Int32) h0 n0 Z0) e8 0 (by decide) (by decide) (by decide) (by decide) [(.int (4 : Int32)), (.int (0 : Int32))] [] (by rw [hml]; rfl) (lenOf pd_0 rfl) rfl rfl (Nat.le_of_eq rfl) (hb hby d8_29) rfl (fun v9 T9 L9 X9 hQ9 => ?_)
  obtain ⟨rfl, Nq9, e9⟩ := hQ9
  have N10 := Fr.app N0 Nq9
  show own_G p.tables e below _ T9 (mkF m 32 #[.val (.ref a), .val (.int (0 : Int32)), .val (.int bt), .unset] [(.int (own_max (4 : Int32) (0 : Int32)))])
  rw [show (own_max (4 : Int32) (0 : Int32)) = (4 : Int32) from by decide]
  refine own_istoreN X9 hx (pc' := 33) (Ls' := #[.val (.ref a), .val (.int (0 : Int32)), .val (.int bt), .val (.int (4 : Int32))]) (hb hby d8_32) rfl rfl ?_
  refine own_aloadN X9 hx (pc' := 34) (hb hby d8_33) rfl rfl rfl ?_
  refine own_aloadN X9 hx (pc' := 35) (hb hby d8_34) rfl rfl rfl ?_
  refine own_getF X9 hx (pc' := 38) hZ hown (host := "") (Or.inl (Wd19 hw)) Via.refl e9 X_stopped (hb hby d8_35) rfl (fun T11 X11 e11 => ?_)
  refine own_iloadN X11 hx (pc' := 39) (hb hby d8_38) rfl rfl ?_
  refine own_callS X11 hx (pc' := 42) hZ hown (Wd41 hw) (Wd42 hw) (Wd43 hw) (Wd44 hw) (by decide) (rm_copy l Z a0 hw [] nn kn (4 : Int32) h0 n0 Z0 (Or.inr (by decide)) V_n) e11 1 (by decide) (by decide) (by decide) (by decide) [(.ref nn), (.int (4 : Int32))] [(.ref a)] (by rw [hml]; rfl) (lenOf pd_1 rfl) rfl rfl (Nat.le_of_eq rfl) (hb hby d8_39) rfl (fun v12 T12 L12 X12 hQ12 => ?_)
  obtain ⟨nb12, k12, rfl, gs12, Nq12, K12, V12⟩ := hQ12
  have N13 := Fr.app N10 Nq12
  have ne_a_nb12 : a ≠ nb12 := Nat.ne_of_lt (Nat.lt_of_lt_of_le E_a.lt gs12)
  have ne_b1_nb12 : b1 ≠ nb12 := Nat.ne_of_lt (Nat.lt_of_lt_of_le V_1.lt gs12)
  have ne_b2_nb12 : b2 ≠ nb12 := Nat.ne_of_lt (Nat.lt_of_lt_of_le V_2.lt gs12)
  have ne_b3_nb12 : b3 ≠ nb12 := Nat.ne_of_lt (Nat.lt_of_lt_of_le V_3.lt gs12)
  have ne_nn_nb12 : nn ≠ nb12 := Nat.ne_of_lt (Nat.lt_of_lt_of_le V_n.lt gs12)
  have ge_nb12 : n0 ≤ nb12 := Nat.le_trans Z0 gs12
  have gk_nb12 : h0.size ≤ nb12 := Nat.le_trans K1.1 gs12
  have Z14 : n0 ≤ T12.heap.size := Nat.le_trans Z0 K12.1
  have K15 : Keep h0 T12.heap [a, b1, b2, b3] := Keep.trans K1 K12 all0
  have F16 := (Exa.keep E_a K12)
  have F17 := (F_c.keep K12 nin0)
  have F18 := (F_p.keep K12 nin0)
  have F19 := (F_u.keep K12 nin0)
  have F20 := (F_t.keep K12 nin0)
  have F21 := (X_awaited.keep K12 nin0)
  have F22 := (X_stopped.keep K12 nin0)
  have F23 := (X_toCome.keep K12 nin0)
  have F24 := (X_beatsLeft.keep K12 nin0)
  have F25 := (V_1.keep K12 nin0)
  have F26 := (V_2.keep K12 nin0)
  have F27 := (V_3.keep K12 nin0)
  have F28 := (V_n.keep K12 nin0)
  show own_G p.tables e below _ T12 (mkF m 42 #[.val (.ref a), .val (.int (0 : Int32)), .val (.int bt), .val (.int (4 : Int32))] [(.ref nb12), (.ref a)])
  refine own_putF X12 hx (pc' := 45) hZ (ty := (.array .int)) hown (host := "") (Or.inl (Wd19 hw)) Via.refl rfl F22 F16 (Or.inl (Wd20 hw)) (Wd3 hw) (by decide) rfl rfl (hb hby d8_42) rfl (fun T29 h29 X29 e29 W29 => ?_)
  have N30 := Fr.snoc X29 N13 g_a
  have Z31 : n0 ≤ h29.size := Nat.le_trans Z14 (Nat.le_of_eq (Wr.size W29).symm)
  have K32 : Keep h0 h29 [a, b1, b2, b3] := K15.wr W29 (Or.inl (List.mem_of_getElem? (i := 0) rfl))
  have F33 := (Exa.wr W29 F16)
  have F34 := (Fld.other W29 F17 (Or.inr (slot_ne (Or.inl (Wd33 hw)) (Or.inl (Wd20 hw)) (by decide) (t := .int) (t' := (.array .int)) (by decide) (by decide))))
  have F35 := (Fld.other W29 F18 (Or.inr (slot_ne (Or.inl (Wd14 hw)) (Or.inl (Wd20 hw)) (by decide) (t := (.array .int)) (t' := (.array .int)) (by decide) (by decide))))
  have F36 := (Fld.other W29 F19 (Or.inr (slot_ne (Or.inl (Wd16 hw)) (Or.inl (Wd20 hw)) (by decide) (t := (.array .int)) (t' := (.array .int)) (by decide) (by decide))))
  have F37 := (Fld.other W29 F20 (Or.inr (slot_ne (Or.inl (Wd18 hw)) (Or.inl (Wd20 hw)) (by decide) (t := (.array .int)) (t' := (.array .int)) (by decide) (by decide))))
  have F38 := (Fld.other W29 F21 (Or.inr (slot_ne (Or.inl (Wd56 hw)) (Or.inl (Wd20 hw)) (by decide) (t := .int) (t' := (.array .int)) (by decide) (by decide))))
  have F39 := (Fld.same W29 F22)
  have F40 := (Fld.other W29 F23 (Or.inr (slot_ne (Or.inl (Wd22 hw)) (Or.inl (Wd20 hw)) (by decide) (t := (.array .int)) (t' := (.array .int)) (by decide) (by decide))))
  have F41 := (Fld.other W29 F24 (Or.inr (slot_ne (Or.inl (Wd24 hw)) (Or.inl (Wd20 hw)) (by decide) (t := (.array .int)) (t' := (.array .int)) (by decide) (by decide))))
  have F42 := (F25.other W29 (Ne.symm ea1))
  have F43 := (F26.other W29 (Ne.symm ea2))
  have F44 := (F27.other W29 (Ne.symm ea3))
  have F45 := (F28.other W29 (Ne.symm ne_a_nn))
  have F46 := (V12.other W29 (Ne.symm ne_a_nb12))
  refine own_aloadN X29 hx (pc' := 46) (hb hby d8_45) rfl rfl rfl ?_
  refine own_aloadN X29 hx (pc' := 47) (hb hby d8_46) rfl rfl rfl ?_
  refine own_getF X29 hx (pc' := 50) hZ hown (host := "") (Or.inl (Wd21 hw)) Via.refl e29 F40 (hb hby d8_47) rfl (fun T47 X47 e47 => ?_)
  refine own_iloadN X47 hx (pc' := 51) (hb hby d8_50) rfl rfl ?_
  refine own_callS X47 hx (pc' := 54) hZ hown (Wd41 hw) (Wd42 hw) (Wd43 hw) (Wd44 hw) (by decide) (rm_copy l Z a0 hw [] nn kn (4 : Int32) h29 n0 Z31 (Or.inr (by decide)) F45) e47 1 (by decide) (by decide) (by decide) (by decide) [(.ref nn), (.int (4 : Int32))] [(.ref a)] (by rw [hml]; rfl) (lenOf pd_1 rfl) rfl rfl (Nat.le_of_eq rfl) (hb hby d8_51) rfl (fun v48 T48 L48 X48 hQ48 => ?_)
  obtain ⟨nb48, k48, rfl, gs48, Nq48, K48, V48⟩ := hQ48
  have N49 := Fr.app N30 Nq48
  have ne_a_nb48 : a ≠ nb48 := Nat.ne_of_lt (Nat.lt_of_lt_of_le F33.lt gs48)
  have ne_b1_nb48 : b1 ≠ nb48 := Nat.ne_of_lt (Nat.lt_of_lt_of_le F42.lt gs48)
  have ne_b2_nb48 : b2 ≠ nb48 := Nat.ne_of_lt (Nat.lt_of_lt_of_le F43.lt gs48)
  have ne_b3_nb48 : b3 ≠ nb48 := Nat.ne_of_lt (Nat.lt_of_lt_of_le F44.lt gs48)
  have ne_nn_nb48 : nn ≠ nb48 := Nat.ne_of_lt (Nat.lt_of_lt_of_le F45.lt gs48)
  have ne_nb12_nb48 : nb12 ≠ nb48 := Nat.ne_of_lt (Nat.lt_of_lt_of_le F46.lt gs48)
  have ge_nb48 : n0 ≤ nb48 := Nat.le_trans Z31 gs48
  have gk_nb48 : h0.size ≤ nb48 := Nat.le_trans K32.1 gs48
  have Z50 : n0 ≤ T48.heap.size := Nat.le_trans Z31 K48.1
  have K51 : Keep h0 T48.heap [a, b1, b2, b3] := Keep.trans K32 K48 all0
  have F52 := (Exa.keep F33 K48)
  have F53 := (F34.keep K48 nin0)
  have F54 := (F35.keep K48 nin0)
  have F55 := (F36.keep K48 nin0)
  have F56 := (F37.keep K48 nin0)
  have F57 := (F38.keep K48 nin0)
  have F58 := (F39.keep K48 nin0)
  have F59 := (F40.keep K48 nin0)
  have F60 := (F41.keep K48 nin0)
  have F61 := (F42.keep K48 nin0)
  have F62 := (F43.keep K48 nin0)
  have F63 := (F44.keep K48 nin0)
  have F64 := (F45.keep K48 nin0)
  have F65 := (F46.keep K48 nin0)
  show own_G p.tables e below _ T48 (mkF m 54 #[.val (.ref a), .val (.int (0 : Int32)), .val (.int bt), .val (.int (4 : Int32))] [(.ref nb48), (.ref a)])
  refine own_putF X48 hx (pc' := 57) hZ (ty := (.array .int)) hown (host := "") (Or.inl (Wd21 hw)) Via.refl rfl F59 F52 (Or.inl (Wd22 hw)) (Wd3 hw) (by decide) rfl rfl (hb hby d8_54) rfl (fun T66 h66 X66 e66 W66 => ?_)
  have N67 := Fr.snoc X66 N49 g_a
  have Z68 : n0 ≤ h66.size := Nat.le_trans Z50 (Nat.le_of_eq (Wr.size W66).symm)
  have K69 : Keep h0 h66 [a, b1, b2, b3] := K51.wr W66 (Or.inl (List.mem_of_getElem? (i := 0) rfl))
  have F70 := (Exa.wr W66 F52)
  have F71 := (Fld.other W66 F53 (Or.inr (slot_ne (Or.inl (Wd33 hw)) (Or.inl (Wd22 hw)) (by decide) (t := .int) (t' := (.array .int)) (by decide) (by decide))))
  have F72 := (Fld.other W66 F54 (Or.inr (slot_ne (Or.inl (Wd14 hw)) (Or.inl (Wd22 hw)) (by decide) (t := (.array .int)) (t' := (.array .int)) (by decide) (by decide))))
  have F73 := (Fld.other W66 F55 (Or.inr (slot_ne (Or.inl (Wd16 hw)) (Or.inl (Wd22 hw)) (by decide) (t := (.array .int)) (t' := (.array .int)) (by decide) (by decide))))
  have F74 := (Fld.other W66 F56 (Or.inr (slot_ne (Or.inl (Wd18 hw)) (Or.inl (Wd22 hw)) (by decide) (t := (.array .int)) (t' := (.array .int)) (by decide) (by decide))))
  have F75 := (Fld.other W66 F57 (Or.inr (slot_ne (Or.inl (Wd56 hw)) (Or.inl (Wd22 hw)) (by decide) (t := .int) (t' := (.array .int)) (by decide) (by decide))))
  have F76 := (Fld.other W66 F58 (Or.inr (slot_ne (Or.inl (Wd20 hw)) (Or.inl (Wd22 hw)) (by decide) (t := (.array .int)) (t' := (.array .int)) (by decide) (by decide))))
  have F77 := (Fld.same W66 F59)
  have F78 := (Fld.other W66 F60 (Or.inr (slot_ne (Or.inl (Wd24 hw)) (Or.inl (Wd22 hw)) (by decide) (t := (.array .int)) (t' := (.array .int)) (by decide) (by decide))))
  have F79 := (F61.other W66 (Ne.symm ea1))
  have F80 := (F62.other W66 (Ne.symm ea2))
  have F81 := (F63.other W66 (Ne.symm ea3))
  have F82 := (F64.other W66 (Ne.symm ne_a_nn))
  have F83 := (F65.other W66 (Ne.symm ne_a_nb12))
  have F84 := (V48.other W66 (Ne.symm ne_a_nb48))
  refine own_aloadN X66 hx (pc' := 58) (hb hby d8_57) rfl rfl rfl ?_
  refine own_aloadN X66 hx (pc' := 59) (hb hby d8_58) rfl rfl rfl ?_
  refine own_getF X66 hx (pc' := 62) hZ hown (host := "") (Or.inl (Wd23 hw)) Via.refl e66 F78 (hb hby d8_59) rfl (fun T85 X85 e85 => ?_)
  refine own_iloadN X85 hx (pc' := 63) (hb hby d8_62) rfl rfl ?_
  refine own_callS X85 hx (pc' := 66) hZ hown (Wd41 hw) (Wd42 hw) (Wd43 hw) (Wd44 hw) (by decide) (rm_copy l Z a0 hw [] nn kn (4 : Int32) h66 n0 Z68 (Or.inr (by decide)) F82) e85 1 (by decide) (by decide) (by decide) (by decide) [(.ref nn), (.int (4 : Int32))] [(.ref a)] (by rw [hml]; rfl) (lenOf pd_1 rfl) rfl rfl (Nat.le_of_eq rfl) (hb hby d8_63) rfl (fun v86 T86 L86 X86 hQ86 => ?_)
  obtain ⟨nb86, k86, rfl, gs86, Nq86, K86, V86⟩ := hQ86
  have N87 := Fr.app N67 Nq86
  have ne_a_nb86 : a ≠ nb86 := Nat.ne_of_lt (Nat.lt_of_lt_of_le F70.lt gs86)
  have ne_b1_nb86 : b1 ≠ nb86 := Nat.ne_of_lt (Nat.lt_of_lt_of_le F79.lt gs86)
  have ne_b2_nb86 : b2 ≠ nb86 := Nat.ne_of_lt (Nat.lt_of_lt_of_le F80.lt gs86)
  have ne_b3_nb86 : b3 ≠ nb86 := Nat.ne_of_lt (Nat.lt_of_lt_of_le F81.lt gs86)
  have ne_nn_nb86 : nn ≠ nb86 := Nat.ne_of_lt (Nat.lt_of_lt_of_le F82.lt gs86)
  have ne_nb12_nb86 : nb12 ≠ nb86 := Nat.ne_of_lt (Nat.lt_of_lt_of_le F83.lt gs86)
  have ne_nb48_nb86 : nb48 ≠ nb86 := Nat.ne_of_lt (Nat.lt_of_lt_of_le F84.lt gs86)
  have ge_nb86 : n0 ≤ nb86 := Nat.le_trans Z68 gs86
  have gk_nb86 : h0.size ≤ nb86 := Nat.le_trans K69.1 gs86
  have Z88 : n0 ≤ T86.heap.size := Nat.le_trans Z68 K86.1
  have K89 : Keep h0 T86.heap [a, b1, b2, b3] := Keep.trans K69 K86 all0
  have F90 := (Exa.keep F70 K86)
  have F91 := (F71.keep K86 nin0)
  have F92 := (F72.keep K86 nin0)
  have F93 := (F73.keep K86 nin0)
  have F94 := (F74.keep K86 nin0)
  have F95 := (F75.keep K86 nin0)
  have F96 := (F76.keep K86 nin0)
  have F97 := (F77.keep K86 nin0)
  have F98 := (F78.keep K86 nin0)
  have F99 := (F79.keep K86 nin0)
  have F100 := (F80.keep K86 nin0)
  have F101 := (F81.keep K86 nin0)
  have F102 := (F82.keep K86 nin0)
  have F103 := (F83.keep K86 nin0)
  have F104 := (F84.keep K86 nin0)
  show own_G p.tables e below _ T86 (mkF m 66 #[.val (.ref a), .val (.int (0 : Int32)), .val (.int bt), .val (.int (4 : Int32))] [(.ref nb86), (.ref a)])
  refine own_putF X86 hx (pc' := 69) hZ (ty := (.array .int)) hown (host := "") (Or.inl (Wd23 hw)) Via.refl rfl F98 F90 (Or.inl (Wd24 hw)) (Wd3 hw) (by decide) rfl rfl (hb hby d8_66) rfl (fun T105 h105 X105 e105 W105 => ?_)
  have N106 := Fr.snoc X105 N87 g_a
  have Z107 : n0 ≤ h105.size := Nat.le_trans Z88 (Nat.le_of_eq (Wr.size W105).symm)
  have K108 : Keep h0 h105 [a, b1, b2, b3] := K89.wr W105 (Or.inl (List.mem_of_getElem? (i := 0) rfl))
  have F109 := (Exa.wr W105 F90)
  have F110 := (Fld.other W105 F91 (Or.inr (slot_ne (Or.inl (Wd33 hw)) (Or.inl (Wd24 hw)) (by decide) (t := .int) (t' := (.array .int)) (by decide) (by decide))))
  have F111 := (Fld.other W105 F92 (Or.inr (slot_ne (Or.inl (Wd14 hw)) (Or.inl (Wd24 hw)) (by decide) (t := (.array .int)) (t' := (.array .int)) (by decide) (by decide))))
  have F112 := (Fld.other W105 F93 (Or.inr (slot_ne (Or.inl (Wd16 hw)) (Or.inl (Wd24 hw)) (by decide) (t := (.array .int)) (t' := (.array .int)) (by decide) (by decide))))
  have F113 := (Fld.other W105 F94 (Or.inr (slot_ne (Or.inl (Wd18 hw)) (Or.inl (Wd24 hw)) (by decide) (t := (.array .int)) (t' := (.array .int)) (by decide) (by decide))))
  have F114 := (Fld.other W105 F95 (Or.inr (slot_ne (Or.inl (Wd56 hw)) (Or.inl (Wd24 hw)) (by decide) (t := .int) (t' := (.array .int)) (by decide) (by decide))))
  have F115 := (Fld.other W105 F96 (Or.inr (slot_ne (Or.inl (Wd20 hw)) (Or.inl (Wd24 hw)) (by decide) (t := (.array .int)) (t' := (.array .int)) (by decide) (by decide))))
  have F116 := (Fld.other W105 F97 (Or.inr (slot_ne (Or.inl (Wd22 hw)) (Or.inl (Wd24 hw)) (by decide) (t := (.array .int)) (t' := (.array .int)) (by decide) (by decide))))
  have F117 := (Fld.same W105 F98)
  have F118 := (F99.other W105 (Ne.symm ea1))
  have F119 := (F100.other W105 (Ne.symm ea2))
  have F120 := (F101.other W105 (Ne.symm ea3))
  have F121 := (F102.other W105 (Ne.symm ne_a_nn))
  have F122 := (F103.other W105 (Ne.symm ne_a_nb12))
  have F123 := (F104.other W105 (Ne.symm ne_a_nb48))
  have F124 := (V86.other W105 (Ne.symm ne_a_nb86))
  refine own_aloadN X105 hx (pc' := 70) (hb hby d8_69) rfl rfl rfl ?_
  refine own_getF X105 hx (pc' := 73) hZ hown (host := "") (Or.inl (Wd19 hw)) Via.refl e105 F115 (hb hby d8_70) rfl (fun T125 X125 e125 => ?_)
  refine own_aloadN X125 hx (pc' := 74) (hb hby d8_73) rfl rfl rfl ?_
  refine own_getF X125 hx (pc' := 77) hZ hown (host := "") (Or.inl (Wd55 hw)) Via.refl e125 F114 (hb hby d8_74) rfl (fun T126 X126 e126 => ?_)
  refine own_aloadN X126 hx (pc' := 78) (hb hby d8_77) rfl rfl rfl ?_
  refine own_getF X126 hx (pc' := 81) hZ hown (host := "") (Or.inl (Wd13 hw)) Via.refl e126 F111 (hb hby d8_78) rfl (fun T127 X127 e127 => ?_)
  refine own_iloadN X127 hx (pc' := 82) (hb hby d8_81) rfl rfl ?_
  have hi128 : ¬ (0 : Int32) < 0 ∧ (0 : Int32) < z := ⟨by decide, by rw [Int32.lt_iff_toInt_lt, own_t32_0]; omega⟩
  obtain ⟨cl129, Ar129, q129, S129, M129, H129, G129⟩ := id F118
  refine own_iaload X127 hx (pc' := 83) hZ (v := x0) e127 Ar129 (inb_of S129 hi128) (Has.at H129 (inb_of S129 hi128) rfl) (hb hby d8_82) rfl ?_
  obtain ⟨cl130, Ar130, q130, S130, M130, H130, G130⟩ := id F122
  refine own_stI X127 hx (pc' := 84) hZ e127 Ar130 (inb_of S130 ⟨by decide, by decide⟩) (hb hby d8_83) rfl (fun T131 h131 X131 e131 W131 => ?_)
  have N132 := Fr.snoc X131 N106 ge_nb12
  have Z133 : n0 ≤ h131.size := Nat.le_trans Z107 (Nat.le_of_eq (Wr.size W131).symm)
  have K134 : Keep h0 h131 [a, b1, b2, b3] := K108.wr W131 (Or.inr gk_nb12)
  have F135 := (Exa.wr W131 F109)
  have F136 := (Fld.other W131 F110 (Or.inl ne_a_nb12))
  have F137 := (Fld.other W131 F111 (Or.inl ne_a_nb12))
  have F138 := (Fld.other W131 F112 (Or.inl ne_a_nb12))
  have F139 := (Fld.other W131 F113 (Or.inl ne_a_nb12))
  have F140 := (Fld.other W131 F114 (Or.inl ne_a_nb12))
  have F141 := (Fld.other W131 F115 (Or.inl ne_a_nb12))
  have F142 := (Fld.other W131 F116 (Or.inl ne_a_nb12))
  have F143 := (Fld.other W131 F117 (Or.inl ne_a_nb12))
  have F144 := (F118.other W131 ne_b1_nb12)
  have F145 := (F119.other W131 ne_b2_nb12)
  have F146 := (F120.other W131 ne_b3_nb12)
  have F147 := (F121.other W131 ne_nn_nb12)
  have F148 : Arv Z h131 nb12 k12 .int (4 : Int32) [(.int x0), (.int (0 : Int32)), (.int (0 : Int32))] (.int (0 : Int32)) := (Arv.set Ar130 q130 S130 M130 H130 G130 rfl W131 0 rfl (Nat.le_of_ble_eq_true rfl))
  have F149 := (F123.other W131 (Ne.symm ne_nb12_nb48))
  have F150 := (F124.other W131 (Ne.symm ne_nb12_nb86))
  refine own_aloadN X131 hx (pc' := 85) (hb hby d8_84) rfl rfl rfl ?_
  refine own_getF X131 hx (pc' := 88) hZ hown (host := "") (Or.inl (Wd21 hw)) Via.refl e131 F142 (hb hby d8_85) rfl (fun T151 X151 e151 => ?_)
  refine own_aloadN X151 hx (pc' := 89) (hb hby d8_88) rfl rfl rfl ?_
  refine own_getF X151 hx (pc' := 92) hZ hown (host := "") (Or.inl (Wd55 hw)) Via.refl e151 F140 (hb hby d8_89) rfl (fun T152 X152 e152 => ?_)
  refine own_aloadN X152 hx (pc' := 93) (hb hby d8_92) rfl rfl rfl ?_
  refine own_getF X152 hx (pc' := 96) hZ hown (host := "") (Or.inl (Wd15 hw)) Via.refl e152 F138 (hb hby d8_93) rfl (fun T153 X153 e153 => ?_)
  refine own_iloadN X153 hx (pc' := 97) (hb hby d8_96) rfl rfl ?_
  have hi154 : ¬ (0 : Int32) < 0 ∧ (0 : Int32) < z := ⟨by decide, by rw [Int32.lt_iff_toInt_lt, own_t32_0]; omega⟩
  obtain ⟨cl155, Ar155, q155, S155, M155, H155, G155⟩ := id F145
  refine own_iaload X153 hx (pc' := 98) hZ (v := u0) e153 Ar155 (inb_of S155 hi154) (Has.at H155 (inb_of S155 hi154) rfl) (hb hby d8_97) rfl ?_
  refine own_iconst X153 hx (pc' := 99) (1 : Int32) (hb hby d8_98) rfl rfl ?_
  refine own_isub X153 hx (pc' := 100) (hb hby d8_99) rfl rfl ?_
  obtain ⟨cl156, Ar156, q156, S156, M156, H156, G156⟩ := id F149
  refine own_stI X153 hx (pc' := 101) hZ e153 Ar156 (inb_of S156 ⟨by decide, by decide⟩) (hb hby d8_100) rfl (fun T157 h157 X157 e157 W157 => ?_)
  have N158 := Fr.snoc X157 N132 ge_nb48
  have Z159 : n0 ≤ h157.size := Nat.le_trans Z133 (Nat.le_of_eq (Wr.size W157).symm)
  have K160 : Keep h0 h157 [a, b1, b2, b3] := K134.wr W157 (Or.inr gk_nb48)
  have F161 := (Exa.wr W157 F135)
  have F162 := (Fld.other W157 F136 (Or.inl ne_a_nb48))
  have F163 := (Fld.other W157 F137 (Or.inl ne_a_nb48))
  have F164 := (Fld.other W157 F138 (Or.inl ne_a_nb48))
  have F165 := (Fld.other W157 F139 (Or.inl ne_a_nb48))
  have F166 := (Fld.other W157 F140 (Or.inl ne_a_nb48))
  have F167 := (Fld.other W157 F141 (Or.inl ne_a_nb48))
  have F168 := (Fld.other W157 F142 (Or.inl ne_a_nb48))
  have F169 := (Fld.other W157 F143 (Or.inl ne_a_nb48))
  have F170 := (F144.other W157 ne_b1_nb48)
  have F171 := (F145.other W157 ne_b2_nb48)
  have F172 := (F146.other W157 ne_b3_nb48)
  have F173 := (F147.other W157 ne_nn_nb48)
  have F174 := (F148.other W157 ne_nb12_nb48)
  have F175 : Arv Z h157 nb48 k48 .int (4 : Int32) [(.int (u0 - (1 : Int32))), (.int (0 : Int32)), (.int (0 : Int32))] (.int (0 : Int32)) := (Arv.set Ar156 q156 S156 M156 H156 G156 rfl W157 0 rfl (Nat.le_of_ble_eq_true rfl))
  have F176 := (F150.other W157 (Ne.symm ne_nb48_nb86))
  refine own_aloadN X157 hx (pc' := 102) (hb hby d8_101) rfl rfl rfl ?_
  refine own_getF X157 hx (pc' := 105) hZ hown (host := "") (Or.inl (Wd23 hw)) Via.refl e157 F169 (hb hby d8_102) rfl (fun T177 X177 e177 => ?_)
  refine own_aloadN X177 hx (pc' := 106) (hb hby d8_105) rfl rfl rfl ?_
  refine own_getF X177 hx (pc' := 109) hZ hown (host := "") (Or.inl (Wd55 hw)) Via.refl e177 F166 (hb hby d8_106) rfl (fun T178 X178 e178 => ?_)
  refine own_iloadN X178 hx (pc' := 110) (hb hby d8_109) rfl rfl ?_
  obtain ⟨cl179, Ar179, q179, S179, M179, H179, G179⟩ := id F176
  refine own_stI X178 hx (pc' := 111) hZ e178 Ar179 (inb_of S179 ⟨by decide, by decide⟩) (hb hby d8_110) rfl (fun T180 h180 X180 e180 W180 => ?_)
  have N181 := Fr.snoc X180 N158 ge_nb86
  have Z182 : n0 ≤ h180.size := Nat.le_trans Z159 (Nat.le_of_eq (Wr.size W180).symm)
  have K183 : Keep h0 h180 [a, b1, b2, b3] := K160.wr W180 (Or.inr gk_nb86)
  have F184 := (Exa.wr W180 F161)
  have F185 := (Fld.other W180 F162 (Or.inl ne_a_nb86))
  have F186 := (Fld.other W180 F163 (Or.inl ne_a_nb86))
  have F187 := (Fld.other W180 F164 (Or.inl ne_a_nb86))
  have F188 := (Fld.other W180 F165 (Or.inl ne_a_nb86))
  have F189 := (Fld.other W180 F166 (Or.inl ne_a_nb86))
  have F190 := (Fld.other W180 F167 (Or.inl ne_a_nb86))
  have F191 := (Fld.other W180 F168 (Or.inl ne_a_nb86))
  have F192 := (Fld.other W180 F169 (Or.inl ne_a_nb86))
  have F193 := (F170.other W180 ne_b1_nb86)
  have F194 := (F171.other W180 ne_b2_nb86)
  have F195 := (F172.other W180 ne_b3_nb86)
  have F196 := (F173.other W180 ne_nn_nb86)
  have F197 := (F174.other W180 ne_nb12_nb86)
  have F198 := (F175.other W180 ne_nb48_nb86)
  have F199 : Arv Z h180 nb86 k86 .int (4 : Int32) [(.int bt), (.int (0 : Int32)), (.int (0 : Int32))] (.int (0 : Int32)) := (Arv.set Ar179 q179 S179 M179 H179 G179 rfl W180 0 rfl (Nat.le_of_ble_eq_true rfl))
  refine own_aloadN X180 hx (pc' := 112) (hb hby d8_111) rfl rfl rfl ?_
  refine own_dup X180 hx (pc' := 113) (hb hby d8_112) rfl rfl ?_
  refine own_getF X180 hx (pc' := 116) hZ hown (host := "") (Or.inl (Wd55 hw)) Via.refl e180 F189 (hb hby d8_113) rfl (fun T200 X200 e200 => ?_)
  refine own_iconst X200 hx (pc' := 117) (1 : Int32) (hb hby d8_116) rfl rfl ?_
  refine own_iadd X200 hx (pc' := 118) (z := (1 : Int32)) (hb hby d8_117) (by decide) rfl ?_
  refine own_putF X200 hx (pc' := 121) hZ (ty := .int) hown (host := "") (Or.inl (Wd55 hw)) Via.refl e200 F189 F184 (Or.inl (Wd56 hw)) (Wd3 hw) (by decide) rfl rfl (hb hby d8_118) rfl (fun T201 h201 X201 e201 W201 => ?_)
  have N202 := Fr.snoc X201 N181 g_a
  have Z203 : n0 ≤ h201.size := Nat.le_trans Z182 (Nat.le_of_eq (Wr.size W201).symm)
  have K204 : Keep h0 h201 [a, b1, b2, b3] := K183.wr W201 (Or.inl (List.mem_of_getElem? (i := 0) rfl))
  have F205 := (Exa.wr W201 F184)
  have F206 := (Fld.other W201 F185 (Or.inr (slot_ne (Or.inl (Wd33 hw)) (Or.inl (Wd56 hw)) (by decide) (t := .int) (t' := .int) (by decide) (by decide))))
  have F207 := (Fld.other W201 F186 (Or.inr (slot_ne (Or.inl (Wd14 hw)) (Or.inl (Wd56 hw)) (by decide) (t := (.array .int)) (t' := .int) (by decide) (by decide))))
  have F208 := (Fld.other W201 F187 (Or.inr (slot_ne (Or.inl (Wd16 hw)) (Or.inl (Wd56 hw)) (by decide) (t := (.array .int)) (t' := .int) (by decide) (by decide))))
  have F209 := (Fld.other W201 F188 (Or.inr (slot_ne (Or.inl (Wd18 hw)) (Or.inl (Wd56 hw)) (by decide) (t := (.array .int)) (t' := .int) (by decide) (by decide))))
  have F210 := (Fld.same W201 F189)
  have F211 := (Fld.other W201 F190 (Or.inr (slot_ne (Or.inl (Wd20 hw)) (Or.inl (Wd56 hw)) (by decide) (t := (.array .int)) (t' := .int) (by decide) (by decide))))
  have F212 := (Fld.other W201 F191 (Or.inr (slot_ne (Or.inl (Wd22 hw)) (Or.inl (Wd56 hw)) (by decide) (t := (.array .int)) (t' := .int) (by decide) (by decide))))
  have F213 := (Fld.other W201 F192 (Or.inr (slot_ne (Or.inl (Wd24 hw)) (Or.inl (Wd56 hw)) (by decide) (t := (.array .int)) (t' := .int) (by decide) (by decide))))
  have F214 := (F193.other W201 (Ne.symm ea1))
  have F215 := (F194.other W201 (Ne.symm ea2))
  have F216 := (F195.other W201 (Ne.symm ea3))
  have F217 := (F196.other W201 (Ne.symm ne_a_nn))
  have F218 := (F197.other W201 (Ne.symm ne_a_nb12))
  have F219 := (F198.other W201 (Ne.symm ne_a_nb48))
  have F220 := (F199.other W201 (Ne.symm ne_a_nb86))
  refine own_aloadN X201 hx (pc' := 122) (hb hby d8_121) rfl rfl rfl ?_
  refine own_iloadN X201 hx (pc' := 123) (hb hby d8_122) rfl rfl ?_
  refine own_callV X201 hx (pc' := 126) hZ hown (Wd62 hw) (Wd64 hw) (Wd65 hw) (Wd66 hw) (Wd4 hw) (by decide) (rm_rem10 l Z a0 hw [] a b1 b2 b3 k1 k2 k3 z x0 x1 x2 u0 u1 u2 t0 t1 t2 nb12 nb48 nb86 (1 : Int32) h201 n0 Z203 hz g_a g_b1 g_b2 g_b3 dj12 dj13 dj23 F205 F206 F207 F208 F209 F214 F215 F216 F210 F211 F212 F213) e201 F205 0 (by decide) (by decide) (by decide) (by decide) [(.int (0 : Int32))] [] (by rw [hml]; rfl) (lenOf pd_2 rfl) rfl rfl (Nat.le_of_eq rfl) (hb hby d8_123) rfl (fun v221 T221 L221 X221 hQ221 => ?_)
  obtain ⟨rfl, Nq221, K221, Gc221, Gp221, Gu221, Gt221, Va221, Vb221, Vc221, Xa221, Xb221, Xc221, Xd221⟩ := hQ221
  have N222 := Fr.app N202 Nq221
  have Z223 : n0 ≤ T221.heap.size := Nat.le_trans Z203 K221.1
  have K224 : Keep h0 T221.heap [a, b1, b2, b3] := Keep.trans K204 K221 (allS (Or.inl (List.mem_of_getElem? (i := 0) rfl)) (allS (Or.inl (List.mem_of_getElem? (i := 1) rfl)) (allS (Or.inl (List.mem_of_getElem? (i := 2) rfl)) (allS (Or.inl (List.mem_of_getElem? (i := 3) rfl)) all0))))
  have F225 := (Exa.keep F205 K221)
  have F226 := (F218.keep K221 (ninS (Ne.symm ne_a_nb12) (ninS (Ne.symm ne_b1_nb12) (ninS (Ne.symm ne_b2_nb12) (ninS (Ne.symm ne_b3_nb12) nin0)))))
  have F227 := (F219.keep K221 (ninS (Ne.symm ne_a_nb48) (ninS (Ne.symm ne_b1_nb48) (ninS (Ne.symm ne_b2_nb48) (ninS (Ne.symm ne_b3_nb48) nin0)))))
  have F228 := (F220.keep K221 (ninS (Ne.symm ne_a_nb86) (ninS (Ne.symm ne_b1_nb86) (ninS (Ne.symm ne_b2_nb86) (ninS (Ne.symm ne_b3_nb86) nin0)))))
  show own_G p.tables e below _ T221 (mkF m 126 #[.val (.ref a), .val (.int (0 : Int32)), .val (.int bt), .val (.int (4 : Int32))] [])
  refine own_retV X221 hx hlk hret (hb hby d8_126) (by decide) (by decide) ?_
  exact ⟨rfl, N222, K224, Gc221, Gu221, Vb221, nb12, nb48, nb86, _, _, _, ⟨gk_nb12, gk_nb48, gk_nb86⟩, ⟨ne_nb12_nb48, ne_nb12_nb86, ne_nb48_nb86⟩, Xa221, Xb221, Xc221, Xd221, F226, F227, F228⟩

def QrsN20 (Z : State) (a b1 b2 b3 : Addr) (k1 k2 k3 : ClassId) (z x0 x1 x2 u0 u1 u2 t0 t1 t2 : Int32) (nn : Addr) (kn : ClassId) (bt : Int32) (h0 : Heap) (n0 : Nat) (v : Option Value) (h : Heap) (L : List Loc) : Prop := v = none ∧ Fr n0 L ∧ Keep h0 h [a, b1, b2, b3] ∧ Fld Z h a "com/example/rootcast/rootcast/tree/Children" "count" "I" (.int (1 : Int32)) ∧ Fld Z h a "com/example/rootcast/rootcast/tree/Children" "subtree" "[I" (.ref b2) ∧ Arv Z h b2 k2 .int z [(.int u1), (.int u1), (.int u2)] (.int (0 : Int32)) ∧ Fld Z h a "com/example/rootcast/rootcast/tree/Children" "awaited" "I" (.int (0 : Int32))
theorem ef_rm_rsN20 (m : MethodId) (x0 : Addr) (x1 : Int32) (x2 : Int32) : entryFrame m #[(.ref x0), (.int x1), (.int x2)] 4 = mkF m 0 #[.val (.ref x0), .val (.int x1), .val (.int x2), .unset] [] := by first | (simp [entryFrame, mkF, argsToLocals, Value.category, maxLocals]; done) | rfl
set_option maxRecDepth 65536 in
set_option maxHeartbeats 40000000 in
theorem rm_rsN20 (l : Launch) (Z : State) (a0 : Array Value) (hw : ∀ d ∈ tables_1, d.before a0 Z = true) (ws : List Jvm.Cond) (a b1 b2 b3 : Addr) (k1 k2 k3 : ClassId) (z x0 x1 x2 u0 u1 u2 t0 t1 t2 : Int32) (nn : Addr) (kn : ClassId) (bt : Int32) (h0 : Heap) (n0 : Nat) (Z0 : n0 ≤ h0.size) (hz : z.toInt = 3 ∨ z.toInt = 4) (g_a : n0 ≤ a) (g_b1 : n0 ≤ b1) (g_b2 : n0 ≤ b2) (g_b3 : n0 ≤ b3) (dj12 : b1 ≠ b2) (dj13 : b1 ≠ b3) (dj23 : b2 ≠ b3) (hgt : ¬ (1 : Int32) < u0) (E_a : Exa Z h0 a "com/example/rootcast/rootcast/tree/Children") (F_c : Fld Z h0 a "com/example/rootcast/rootcast/tree/Children" "count" "I" (.int (2 : Int32))) (F_p : Fld Z h0 a "com/example/rootcast/rootcast/tree/Children" "peers" "[I" (.ref b1)) (F_u : Fld Z h0 a "com/example/rootcast/rootcast/tree/Children" "subtree" "[I" (.ref b2)) (F_t : Fld Z h0 a "com/example/rootcast/rootcast/tree/Children" "sent" "[I" (.ref b3)) (X_awaited : Fld Z h0 a "com/example/rootcast/rootcast/tree/Children" "awaited" "I" (.int (0 : Int32))) (X_stopped : Fld Z h0 a "com/example/rootcast/rootcast/tree/Children" "stopped" "[I" (.ref nn)) (X_toCome : Fld Z h0 a "com/example/rootcast/rootcast/tree/Children" "toCome" "[I" (.ref nn)) (X_beatsLeft : Fld Z h0 a "com/example/rootcast/rootcast/tree/Children" "beatsLeft" "[I" (.ref nn)) (V_1 : Arv Z h0 b1 k1 .int z [(.int x0), (.int x1), (.int x2)] (.int (0 : Int32))) (V_2 : Arv Z h0 b2 k2 .int z [(.int u0), (.int u1), (.int u2)] (.int (0 : Int32))) (V_3 : Arv Z h0 b3 k3 .int z [(.int t0), (.int t1), (.int t2)] (.int (0 : Int32))) (V_n : Arv Z h0 nn kn .int (0 : Int32) [] (.int (0 : Int32))) :
    MetFree l (⟨"com/example/rootcast/rootcast/tree/Children", "removeStopped", "(II)V"⟩ : MethodName) (head1 (Jvm.Cond.code (⟨"com/example/rootcast/rootcast/tree/Children", "removeStopped", "(II)V"⟩ : MethodName) prog_127_method_9_code 4 none :: ws) ({ frames := 2, cells := 0, slots := 0, locals := 34 } : Room)) (fun aa U => aa = #[(.ref a), (.int (0 : Int32)), (.int bt)] ∧ Z.Warmed39 U.vm ∧ U.heap = h0) (fun _ _ _ _ _ => True) (fun _ U o U' => ∃ v L, o = .returned v ∧ QrsN20 Z a b1 b2 b3 k1 k2 k3 z x0 x1 x2 u0 u1 u2 t0 t1 t2 nn kn bt h0 n0 v U'.heap L ∧ FrameEnd U o U' L (({ frames := 2, cells := 0, slots := 0, locals := 34 } : Room).cells) (({ frames := 2, cells := 0, slots := 0, locals := 34 } : Room).slots)) := by
  refine own_body pf_10 ?_
  intro p e s m below meth c s₁ hx hby hml hown hnm hlk hret hZ X0 e0
  have N0 : Fr n0 [] := Fr.nil n0
  refine own_go (f' := (mkF m 0 #[.val (.ref a), .val (.int (0 : Int32)), .val (.int bt), .unset] [])) (fun t k => castTop (ef_rm_rsN20 m a (0 : Int32) bt) k) ?_
  have ea1 : a ≠ b1 := by obtain ⟨c1, A1, -⟩ := V_1; exact ne_arr E_a (Wd3 hw) A1
  have ea2 : a ≠ b2 := by obtain ⟨c1, A1, -⟩ := V_2; exact ne_arr E_a (Wd3 hw) A1
  have ea3 : a ≠ b3 := by obtain ⟨c1, A1, -⟩ := V_3; exact ne_arr E_a (Wd3 hw) A1
  have ne_a_nn : a ≠ nn := by obtain ⟨q1, A1, -⟩ := id V_n; exact ne_arr E_a (Wd3 hw) A1
  have hzn : ¬ z < 0 := by rw [Int32.lt_iff_toInt_lt]; show ¬ z.toInt < 0; omega
  have hz3 : 3 ≤ z.toNatClampNeg := by have := nat_of hzn; omega
  have K1 : Keep h0 h0 [a, b1, b2, b3] := Keep.refl _ _
  refine own_aloadN X0 hx (pc' := 1) (hb hby d8_0) rfl rfl rfl ?_
  refine own_getF X0 hx (pc' := 4) hZ hown (host := "") (Or.inl (Wd15 hw)) Via.refl e0 F_u (hb hby d8_1) rfl (fun T2 X2 e2 => ?_)
  refine own_iloadN X2 hx (pc' := 5) (hb hby d8_4) rfl rfl ?_
  have hi3 : ¬ (0 : Int32) < 0 ∧ (0 : Int32) < z := ⟨by decide, by rw [Int32.lt_iff_toInt_lt, own_t32_0]; omega⟩
  obtain ⟨cl4, Ar4, q4, S4, M4, H4, G4⟩ := id V_2
  refine own_iaload X2 hx (pc' := 6) hZ (v := u0) e2 Ar4 (inb_of S4 hi3) (Has.at H4 (inb_of S4 hi3) rfl) (hb hby d8_5) rfl ?_
  refine own_iconst X2 hx (pc' := 7) (1 : Int32) (hb hby d8_6) rfl rfl ?_
  refine own_icmpYes X2 hx (pc' := 121) (hb hby d8_7) (flt hgt).2.2.2 (by decide) (by decide) ?_
  refine own_aloadN X2 hx (pc' := 122) (hb hby d8_121) rfl rfl rfl ?_
  refine own_iloadN X2 hx (pc' := 123) (hb hby d8_122) rfl rfl ?_
  refine own_callV X2 hx (pc' := 126) hZ hown (Wd62 hw) (Wd64 hw) (Wd65 hw) (Wd66 hw) (Wd4 hw) (by decide) (rm_rem20 l Z a0 hw [] a b1 b2 b3 k1 k2 k3 z x0 x1 x2 u0 u1 u2 t0 t1 t2 nn nn nn (0 : Int32) h0 n0 Z0 hz g_a g_b1 g_b2 g_b3 dj12 dj13 dj23 E_a F_c F_p F_u F_t V_1 V_2 V_3 X_awaited X_stopped X_toCome X_beatsLeft) e2 E_a 0 (by decide) (by decide) (by decide) (by decide) [(.int (0 : Int32))] [] (by rw [hml]; rfl) (lenOf pd_2 rfl) rfl rfl (Nat.le_of_eq rfl) (hb hby d8_123) rfl (fun v5 T5 L5 X5 hQ5 => ?_)
  obtain ⟨rfl, Nq5, K5, Gc5, Gp5, Gu5, Gt5, Va5, Vb5, Vc5, Xa5, Xb5, Xc5, Xd5⟩ := hQ5
  have N6 := Fr.app N0 Nq5
  have Z7 : n0 ≤ T5.heap.size := Nat.le_trans Z0 K5.1
  have K8 : Keep h0 T5.heap [a, b1, b2, b3] := Keep.trans K1 K5 (allS (Or.inl (List.mem_of_getElem? (i := 0) rfl)) (allS (Or.inl (List.mem_of_getElem? (i := 1) rfl)) (allS (Or.inl (List.mem_of_getElem? (i := 2) rfl)) (allS (Or.inl (List.mem_of_getElem? (i := 3) rfl)) all0))))
  have F9 := (Exa.keep E_a K5)
  show own_G p.tables e below _ T5 (mkF m 126 #[.val (.ref a), .val (.int (0 : Int32)), .val (.int bt), .unset] [])
  refine own_retV X5 hx hlk hret (hb hby d8_126) (by decide) (by decide) ?_
  exact ⟨rfl, N6, K8, Gc5, Gu5, Vb5, Xa5⟩

def QrsA20 (Z : State) (a b1 b2 b3 : Addr) (k1 k2 k3 : ClassId) (z x0 x1 x2 u0 u1 u2 t0 t1 t2 : Int32) (nn : Addr) (kn : ClassId) (bt : Int32) (h0 : Heap) (n0 : Nat) (v : Option Value) (h : Heap) (L : List Loc) : Prop := v = none ∧ Fr n0 L ∧ Keep h0 h [a, b1, b2, b3] ∧ Fld Z h a "com/example/rootcast/rootcast/tree/Children" "count" "I" (.int (1 : Int32)) ∧ Fld Z h a "com/example/rootcast/rootcast/tree/Children" "subtree" "[I" (.ref b2) ∧ Arv Z h b2 k2 .int z [(.int u1), (.int u1), (.int u2)] (.int (0 : Int32)) ∧ ∃ (c1 c2 c3 : Addr) (j1 j2 j3 : ClassId), (h0.size ≤ c1 ∧ h0.size ≤ c2 ∧ h0.size ≤ c3) ∧ (c1 ≠ c2 ∧ c1 ≠ c3 ∧ c2 ≠ c3) ∧ Fld Z h a "com/example/rootcast/rootcast/tree/Children" "awaited" "I" (.int (1 : Int32)) ∧ Fld Z h a "com/example/rootcast/rootcast/tree/Children" "stopped" "[I" (.ref c1) ∧ Fld Z h a "com/example/rootcast/rootcast/tree/Children" "toCome" "[I" (.ref c2) ∧ Fld Z h a "com/example/rootcast/rootcast/tree/Children" "beatsLeft" "[I" (.ref c3) ∧ Arv Z h c1 j1 .int (4 : Int32) [(.int x0), (.int (0 : Int32)), (.int (0 : Int32))] (.int (0 : Int32)) ∧ Arv Z h c2 j2 .int (4 : Int32) [(.int (u0 - (1 : Int32))), (.int (0 : Int32)), (.int (0 : Int32))] (.int (0 : Int32)) ∧ Arv Z h c3 j3 .int (4 : Int32) [(.int bt), (.int (0 : Int32)), (.int (0 : Int32))] (.int (0 : Int32))
theorem ef_rm_rsA20 (m : MethodId) (x0 : Addr) (x1 : Int32) (x2 : Int32) : entryFrame m #[(.ref x0), (.int x1), (.int x2)] 4 = mkF m 0 #[.val (.ref x0), .val (.int x1), .val (.int x2), .unset] [] := by first | (simp [entryFrame, mkF, argsToLocals, Value.category, maxLocals]; done) | rfl
set_option maxRecDepth 65536 in
set_option maxHeartbeats 40000000 in
theorem rm_rsA20 (l : Launch) (Z : State) (a0 : Array Value) (hw : ∀ d ∈ tables_1, d.before a0 Z = true) (ws : List Jvm.Cond) (a b1 b2 b3 : Addr) (k1 k2 k3 : ClassId) (z x0 x1 x2 u0 u1 u2 t0 t1 t2 : Int32) (nn : Addr) (kn : ClassId) (bt : Int32) (h0 : Heap) (n0 : Nat) (Z0 : n0 ≤ h0.size) (hz : z.toInt = 3 ∨ z.toInt = 4) (g_a : n0 ≤ a) (g_b1 : n0 ≤ b1) (g_b2 : n0 ≤ b2) (g_b3 : n0 ≤ b3) (dj12 : b1 ≠ b2) (dj13 : b1 ≠ b3) (dj23 : b2 ≠ b3) (hgt : (1 : Int32) < u0) (E_a : Exa Z h0 a "com/example/rootcast/rootcast/tree/Children") (F_c : Fld Z h0 a "com/example/rootcast/rootcast/tree/Children" "count" "I" (.int (2 : Int32))) (F_p : Fld Z h0 a "com/example/rootcast/rootcast/tree/Children" "peers" "[I" (.ref b1)) (F_u : Fld Z h0 a "com/example/rootcast/rootcast/tree/Children" "subtree" "[I" (.ref b2)) (F_t : Fld Z h0 a "com/example/rootcast/rootcast/tree/Children" "sent" "[I" (.ref b3)) (X_awaited : Fld Z h0 a "com/example/rootcast/rootcast/tree/Children" "awaited" "I" (.int (0 : Int32))) (X_stopped : Fld Z h0 a "com/example/rootcast/rootcast/tree/Children" "stopped" "[I" (.ref nn)) (X_toCome : Fld Z h0 a "com/example/rootcast/rootcast/tree/Children" "toCome" "[I" (.ref nn)) (X_beatsLeft : Fld Z h0 a "com/example/rootcast/rootcast/tree/Children" "beatsLeft" "[I" (.ref nn)) (V_1 : Arv Z h0 b1 k1 .int z [(.int x0), (.int x1), (.int x2)] (.int (0 : Int32))) (V_2 : Arv Z h0 b2 k2 .int z [(.int u0), (.int u1), (.int u2)] (.int (0 : Int32))) (V_3 : Arv Z h0 b3 k3 .int z [(.int t0), (.int t1), (.int t2)] (.int (0 : Int32))) (V_n : Arv Z h0 nn kn .int (0 : Int32) [] (.int (0 : Int32))) :
    MetFree l (⟨"com/example/rootcast/rootcast/tree/Children", "removeStopped", "(II)V"⟩ : MethodName) (head1 (Jvm.Cond.code (⟨"com/example/rootcast/rootcast/tree/Children", "removeStopped", "(II)V"⟩ : MethodName) prog_127_method_9_code 4 none :: ws) ({ frames := 2, cells := 3, slots := 12, locals := 48 } : Room)) (fun aa U => aa = #[(.ref a), (.int (0 : Int32)), (.int bt)] ∧ Z.Warmed39 U.vm ∧ U.heap = h0) (fun _ _ _ _ _ => True) (fun _ U o U' => ∃ v L, o = .returned v ∧ QrsA20 Z a b1 b2 b3 k1 k2 k3 z x0 x1 x2 u0 u1 u2 t0 t1 t2 nn kn bt h0 n0 v U'.heap L ∧ FrameEnd U o U' L (({ frames := 2, cells := 3, slots := 12, locals := 48 } : Room).cells) (({ frames := 2, cells := 3, slots := 12, locals := 48 } : Room).slots)) := by
  refine own_body pf_10 ?_
  intro p e s m below meth c s₁ hx hby hml hown hnm hlk hret hZ X0 e0
  have N0 : Fr n0 [] := Fr.nil n0
  refine own_go (f' := (mkF m 0 #[.val (.ref a), .val (.int (0 : Int32)), .val (.int bt), .unset] [])) (fun t k => castTop (ef_rm_rsA20 m a (0 : Int32) bt) k) ?_
  have ea1 : a ≠ b1 := by obtain ⟨c1, A1, -⟩ := V_1; exact ne_arr E_a (Wd3 hw) A1
  have ea2 : a ≠ b2 := by obtain ⟨c1, A1, -⟩ := V_2; exact ne_arr E_a (Wd3 hw) A1
  have ea3 : a ≠ b3 := by obtain ⟨c1, A1, -⟩ := V_3; exact ne_arr E_a (Wd3 hw) A1
  have ne_a_nn : a ≠ nn := by obtain ⟨q1, A1, -⟩ := id V_n; exact ne_arr E_a (Wd3 hw) A1
  have hzn : ¬ z < 0 := by rw [Int32.lt_iff_toInt_lt]; show ¬ z.toInt < 0; omega
  have hz3 : 3 ≤ z.toNatClampNeg := by have := nat_of hzn; omega
  have K1 : Keep h0 h0 [a, b1, b2, b3] := Keep.refl _ _
  refine own_aloadN X0 hx (pc' := 1) (hb hby d8_0) rfl rfl rfl ?_
  refine own_getF X0 hx (pc' := 4) hZ hown (host := "") (Or.inl (Wd15 hw)) Via.refl e0 F_u (hb hby d8_1) rfl (fun T2 X2 e2 => ?_)
  refine own_iloadN X2 hx (pc' := 5) (hb hby d8_4) rfl rfl ?_
  have hi3 : ¬ (0 : Int32) < 0 ∧ (0 : Int32) < z := ⟨by decide, by rw [Int32.lt_iff_toInt_lt, own_t32_0]; omega⟩
  obtain ⟨cl4, Ar4, q4, S4, M4, H4, G4⟩ := id V_2
  refine own_iaload X2 hx (pc' := 6) hZ (v := u0) e2 Ar4 (inb_of S4 hi3) (Has.at H4 (inb_of S4 hi3) rfl) (hb hby d8_5) rfl ?_
  refine own_iconst X2 hx (pc' := 7) (1 : Int32) (hb hby d8_6) rfl rfl ?_
  refine own_icmpNo X2 hx (pc' := 10) (hb hby d8_7) (tlt hgt).2.2.2 rfl ?_
  refine own_aloadN X2 hx (pc' := 11) (hb hby d8_10) rfl rfl rfl ?_
  refine own_getF X2 hx (pc' := 14) hZ hown (host := "") (Or.inl (Wd55 hw)) Via.refl e2 X_awaited (hb hby d8_11) rfl (fun T5 X5 e5 => ?_)
  refine own_aloadN X5 hx (pc' := 15) (hb hby d8_14) rfl rfl rfl ?_
  refine own_getF X5 hx (pc' := 18) hZ hown (host := "") (Or.inl (Wd19 hw)) Via.refl e5 X_stopped (hb hby d8_15) rfl (fun T6 X6 e6 => ?_)
  obtain ⟨cl7, Ar7, q7, S7, M7, H7, G7⟩ := id V_n
  refine own_len X6 hx (pc' := 19) hZ e6 Ar7 S7 M7 (hb hby d8_18) rfl ?_
  refine own_icmpNo X6 hx (pc' := 22) (hb hby d8_19) (teq rfl).2 rfl ?_
  refine own_iconst X6 hx (pc' := 23) (4 : Int32) (hb hby d8_22) rfl rfl ?_
  refine own_iconst X6 hx (pc' := 24) (2 : Int32) (hb hby d8_23) rfl rfl ?_
  refine own_aloadN X6 hx (pc' := 25) (hb hby d8_24) rfl rfl rfl ?_
  refine own_getF X6 hx (pc' := 28) hZ hown (host := "") (Or.inl (Wd55 hw)) Via.refl e6 X_awaited (hb hby d8_25) rfl (fun T8 X8 e8 => ?_)
  refine own_imul X8 hx (pc' := 29) (z := (0 : Int32)) (hb hby d8_28) (by decide) rfl ?_
  refine own_callS X8 hx (pc' := 32) hZ hown (Wd34 hw) (Wd35 hw) (Wd36 hw) (Wd37 hw) (by decide) (rm_max l Z a0 hw [] (4 : Int32) (0 : Int32) h0 n0 Z0) e8 0 (by decide) (by decide) (by decide) (by decide) [(.int (4 : Int32)), (.int (0 : Int32))] [] (by rw [hml]; rfl) (lenOf pd_0 rfl) rfl rfl (Nat.le_of_eq rfl) (hb hby d8_29) rfl (fun v9 T9 L9 X9 hQ9 => ?_)
  obtain ⟨rfl, Nq9, e9⟩ := hQ9
  have N10 := Fr.app N0 Nq9
  show own_G p.tables e below _ T9 (mkF m 32 #[.val (.ref a), .val (.int (0 : Int32)), .val (.int bt), .unset] [(.int (own_max (4 : Int32) (0 : Int32)))])
  rw [show (own_max (4 : Int32) (0 : Int32)) = (4 : Int32) from by decide]
  refine own_istoreN X9 hx (pc' := 33) (Ls' := #[.val (.ref a), .val (.int (0 : Int32)), .val (.int bt), .val (.int (4 : Int32))]) (hb hby d8_32) rfl rfl ?_
  refine own_aloadN X9 hx (pc' := 34) (hb hby d8_33) rfl rfl rfl ?_
  refine own_aloadN X9 hx (pc' := 35) (hb hby d8_34) rfl rfl rfl ?_
  refine own_getF X9 hx (pc' := 38) hZ hown (host := "") (Or.inl (Wd19 hw)) Via.refl e9 X_stopped (hb hby d8_35) rfl (fun T11 X11 e11 => ?_)
  refine own_iloadN X11 hx (pc' := 39) (hb hby d8_38) rfl rfl ?_
  refine own_callS X11 hx (pc' := 42) hZ hown (Wd41 hw) (Wd42 hw) (Wd43 hw) (Wd44 hw) (by decide) (rm_copy l Z a0 hw [] nn kn (4 : Int32) h0 n0 Z0 (Or.inr (by decide)) V_n) e11 1 (by decide) (by decide) (by decide) (by decide) [(.ref nn), (.int (4 : Int32))] [(.ref a)] (by rw [hml]; rfl) (lenOf pd_1 rfl) rfl rfl (Nat.le_of_eq rfl) (hb hby d8_39) rfl (fun v12 T12 L12 X12 hQ12 => ?_)
  obtain ⟨nb12, k12, rfl, gs12, Nq12, K12, V12⟩ := hQ12
  have N13 := Fr.app N10 Nq12
  have ne_a_nb12 : a ≠ nb12 := Nat.ne_of_lt (Nat.lt_of_lt_of_le E_a.lt gs12)
  have ne_b1_nb12 : b1 ≠ nb12 := Nat.ne_of_lt (Nat.lt_of_lt_of_le V_1.lt gs12)
  have ne_b2_nb12 : b2 ≠ nb12 := Nat.ne_of_lt (Nat.lt_of_lt_of_le V_2.lt gs12)
  have ne_b3_nb12 : b3 ≠ nb12 := Nat.ne_of_lt (Nat.lt_of_lt_of_le V_3.lt gs12)
  have ne_nn_nb12 : nn ≠ nb12 := Nat.ne_of_lt (Nat.lt_of_lt_of_le V_n.lt gs12)
  have ge_nb12 : n0 ≤ nb12 := Nat.le_trans Z0 gs12
  have gk_nb12 : h0.size ≤ nb12 := Nat.le_trans K1.1 gs12
  have Z14 : n0 ≤ T12.heap.size := Nat.le_trans Z0 K12.1
  have K15 : Keep h0 T12.heap [a, b1, b2, b3] := Keep.trans K1 K12 all0
  have F16 := (Exa.keep E_a K12)
  have F17 := (F_c.keep K12 nin0)
  have F18 := (F_p.keep K12 nin0)
  have F19 := (F_u.keep K12 nin0)
  have F20 := (F_t.keep K12 nin0)
  have F21 := (X_awaited.keep K12 nin0)
  have F22 := (X_stopped.keep K12 nin0)
  have F23 := (X_toCome.keep K12 nin0)
  have F24 := (X_beatsLeft.keep K12 nin0)
  have F25 := (V_1.keep K12 nin0)
  have F26 := (V_2.keep K12 nin0)
  have F27 := (V_3.keep K12 nin0)
  have F28 := (V_n.keep K12 nin0)
  show own_G p.tables e below _ T12 (mkF m 42 #[.val (.ref a), .val (.int (0 : Int32)), .val (.int bt), .val (.int (4 : Int32))] [(.ref nb12), (.ref a)])
  refine own_putF X12 hx (pc' := 45) hZ (ty := (.array .int)) hown (host := "") (Or.inl (Wd19 hw)) Via.refl rfl F22 F16 (Or.inl (Wd20 hw)) (Wd3 hw) (by decide) rfl rfl (hb hby d8_42) rfl (fun T29 h29 X29 e29 W29 => ?_)
  have N30 := Fr.snoc X29 N13 g_a
  have Z31 : n0 ≤ h29.size := Nat.le_trans Z14 (Nat.le_of_eq (Wr.size W29).symm)
  have K32 : Keep h0 h29 [a, b1, b2, b3] := K15.wr W29 (Or.inl (List.mem_of_getElem? (i := 0) rfl))
  have F33 := (Exa.wr W29 F16)
  have F34 := (Fld.other W29 F17 (Or.inr (slot_ne (Or.inl (Wd33 hw)) (Or.inl (Wd20 hw)) (by decide) (t := .int) (t' := (.array .int)) (by decide) (by decide))))
  have F35 := (Fld.other W29 F18 (Or.inr (slot_ne (Or.inl (Wd14 hw)) (Or.inl (Wd20 hw)) (by decide) (t := (.array .int)) (t' := (.array .int)) (by decide) (by decide))))
  have F36 := (Fld.other W29 F19 (Or.inr (slot_ne (Or.inl (Wd16 hw)) (Or.inl (Wd20 hw)) (by decide) (t := (.array .int)) (t' := (.array .int)) (by decide) (by decide))))
  have F37 := (Fld.other W29 F20 (Or.inr (slot_ne (Or.inl (Wd18 hw)) (Or.inl (Wd20 hw)) (by decide) (t := (.array .int)) (t' := (.array .int)) (by decide) (by decide))))
  have F38 := (Fld.other W29 F21 (Or.inr (slot_ne (Or.inl (Wd56 hw)) (Or.inl (Wd20 hw)) (by decide) (t := .int) (t' := (.array .int)) (by decide) (by decide))))
  have F39 := (Fld.same W29 F22)
  have F40 := (Fld.other W29 F23 (Or.inr (slot_ne (Or.inl (Wd22 hw)) (Or.inl (Wd20 hw)) (by decide) (t := (.array .int)) (t' := (.array .int)) (by decide) (by decide))))
  have F41 := (Fld.other W29 F24 (Or.inr (slot_ne (Or.inl (Wd24 hw)) (Or.inl (Wd20 hw)) (by decide) (t := (.array .int)) (t' := (.array .int)) (by decide) (by decide))))
  have F42 := (F25.other W29 (Ne.symm ea1))
  have F43 := (F26.other W29 (Ne.symm ea2))
  have F44 := (F27.other W29 (Ne.symm ea3))
  have F45 := (F28.other W29 (Ne.symm ne_a_nn))
  have F46 := (V12.other W29 (Ne.symm ne_a_nb12))
  refine own_aloadN X29 hx (pc' := 46) (hb hby d8_45) rfl rfl rfl ?_
  refine own_aloadN X29 hx (pc' := 47) (hb hby d8_46) rfl rfl rfl ?_
  refine own_getF X29 hx (pc' := 50) hZ hown (host := "") (Or.inl (Wd21 hw)) Via.refl e29 F40 (hb hby d8_47) rfl (fun T47 X47 e47 => ?_)
  refine own_iloadN X47 hx (pc' := 51) (hb hby d8_50) rfl rfl ?_
  refine own_callS X47 hx (pc' := 54) hZ hown (Wd41 hw) (Wd42 hw) (Wd43 hw) (Wd44 hw) (by decide) (rm_copy l Z a0 hw [] nn kn (4 : Int32) h29 n0 Z31 (Or.inr (by decide)) F45) e47 1 (by decide) (by decide) (by decide) (by decide) [(.ref nn), (.int (4 : Int32))] [(.ref a)] (by rw [hml]; rfl) (lenOf pd_1 rfl) rfl rfl (Nat.le_of_eq rfl) (hb hby d8_51) rfl (fun v48 T48 L48 X48 hQ48 => ?_)
  obtain ⟨nb48, k48, rfl, gs48, Nq48, K48, V48⟩ := hQ48
  have N49 := Fr.app N30 Nq48
  have ne_a_nb48 : a ≠ nb48 := Nat.ne_of_lt (Nat.lt_of_lt_of_le F33.lt gs48)
  have ne_b1_nb48 : b1 ≠ nb48 := Nat.ne_of_lt (Nat.lt_of_lt_of_le F42.lt gs48)
  have ne_b2_nb48 : b2 ≠ nb48 := Nat.ne_of_lt (Nat.lt_of_lt_of_le F43.lt gs48)
  have ne_b3_nb48 : b3 ≠ nb48 := Nat.ne_of_lt (Nat.lt_of_lt_of_le F44.lt gs48)
  have ne_nn_nb48 : nn ≠ nb48 := Nat.ne_of_lt (Nat.lt_of_lt_of_le F45.lt gs48)
  have ne_nb12_nb48 : nb12 ≠ nb48 := Nat.ne_of_lt (Nat.lt_of_lt_of_le F46.lt gs48)
  have ge_nb48 : n0 ≤ nb48 := Nat.le_trans Z31 gs48
  have gk_nb48 : h0.size ≤ nb48 := Nat.le_trans K32.1 gs48
  have Z50 : n0 ≤ T48.heap.size := Nat.le_trans Z31 K48.1
  have K51 : Keep h0 T48.heap [a, b1, b2, b3] := Keep.trans K32 K48 all0
  have F52 := (Exa.keep F33 K48)
  have F53 := (F34.keep K48 nin0)
  have F54 := (F35.keep K48 nin0)
  have F55 := (F36.keep K48 nin0)
  have F56 := (F37.keep K48 nin0)
  have F57 := (F38.keep K48 nin0)
  have F58 := (F39.keep K48 nin0)
  have F59 := (F40.keep K48 nin0)
  have F60 := (F41.keep K48 nin0)
  have F61 := (F42.keep K48 nin0)
  have F62 := (F43.keep K48 nin0)
  have F63 := (F44.keep K48 nin0)
  have F64 := (F45.keep K48 nin0)
  have F65 := (F46.keep K48 nin0)
  show own_G p.tables e below _ T48 (mkF m 54 #[.val (.ref a), .val (.int (0 : Int32)), .val (.int bt), .val (.int (4 : Int32))] [(.ref nb48), (.ref a)])
  refine own_putF X48 hx (pc' := 57) hZ (ty := (.array .int)) hown (host := "") (Or.inl (Wd21 hw)) Via.refl rfl F59 F52 (Or.inl (Wd22 hw)) (Wd3 hw) (by decide) rfl rfl (hb hby d8_54) rfl (fun T66 h66 X66 e66 W66 => ?_)
  have N67 := Fr.snoc X66 N49 g_a
  have Z68 : n0 ≤ h66.size := Nat.le_trans Z50 (Nat.le_of_eq (Wr.size W66).symm)
  have K69 : Keep h0 h66 [a, b1, b2, b3] := K51.wr W66 (Or.inl (List.mem_of_getElem? (i := 0) rfl))
  have F70 := (Exa.wr W66 F52)
  have F71 := (Fld.other W66 F53 (Or.inr (slot_ne (Or.inl (Wd33 hw)) (Or.inl (Wd22 hw)) (by decide) (t := .int) (t' := (.array .int)) (by decide) (by decide))))
  have F72 := (Fld.other W66 F54 (Or.inr (slot_ne (Or.inl (Wd14 hw)) (Or.inl (Wd22 hw)) (by decide) (t := (.array .int)) (t' := (.array .int)) (by decide) (by decide))))
  have F73 := (Fld.other W66 F55 (Or.inr (slot_ne (Or.inl (Wd16 hw)) (Or.inl (Wd22 hw)) (by decide) (t := (.array .int)) (t' := (.array .int)) (by decide) (by decide))))
  have F74 := (Fld.other W66 F56 (Or.inr (slot_ne (Or.inl (Wd18 hw)) (Or.inl (Wd22 hw)) (by decide) (t := (.array .int)) (t' := (.array .int)) (by decide) (by decide))))
  have F75 := (Fld.other W66 F57 (Or.inr (slot_ne (Or.inl (Wd56 hw)) (Or.inl (Wd22 hw)) (by decide) (t := .int) (t' := (.array .int)) (by decide) (by decide))))
  have F76 := (Fld.other W66 F58 (Or.inr (slot_ne (Or.inl (Wd20 hw)) (Or.inl (Wd22 hw)) (by decide) (t := (.array .int)) (t' := (.array .int)) (by decide) (by decide))))
  have F77 := (Fld.same W66 F59)
  have F78 := (Fld.other W66 F60 (Or.inr (slot_ne (Or.inl (Wd24 hw)) (Or.inl (Wd22 hw)) (by decide) (t := (.array .int)) (t' := (.array .int)) (by decide) (by decide))))
  have F79 := (F61.other W66 (Ne.symm ea1))
  have F80 := (F62.other W66 (Ne.symm ea2))
  have F81 := (F63.other W66 (Ne.symm ea3))
  have F82 := (F64.other W66 (Ne.symm ne_a_nn))
  have F83 := (F65.other W66 (Ne.symm ne_a_nb12))
  have F84 := (V48.other W66 (Ne.symm ne_a_nb48))
  refine own_aloadN X66 hx (pc' := 58) (hb hby d8_57) rfl rfl rfl ?_
  refine own_aloadN X66 hx (pc' := 59) (hb hby d8_58) rfl rfl rfl ?_
  refine own_getF X66 hx (pc' := 62) hZ hown (host := "") (Or.inl (Wd23 hw)) Via.refl e66 F78 (hb hby d8_59) rfl (fun T85 X85 e85 => ?_)
  refine own_iloadN X85 hx (pc' := 63) (hb hby d8_62) rfl rfl ?_
  refine own_callS X85 hx (pc' := 66) hZ hown (Wd41 hw) (Wd42 hw) (Wd43 hw) (Wd44 hw) (by decide) (rm_copy l Z a0 hw [] nn kn (4 : Int32) h66 n0 Z68 (Or.inr (by decide)) F82) e85 1 (by decide) (by decide) (by decide) (by decide) [(.ref nn), (.int (4 : Int32))] [(.ref a)] (by rw [hml]; rfl) (lenOf pd_1 rfl) rfl rfl (Nat.le_of_eq rfl) (hb hby d8_63) rfl (fun v86 T86 L86 X86 hQ86 => ?_)
  obtain ⟨nb86, k86, rfl, gs86, Nq86, K86, V86⟩ := hQ86
  have N87 := Fr.app N67 Nq86
  have ne_a_nb86 : a ≠ nb86 := Nat.ne_of_lt (Nat.lt_of_lt_of_le F70.lt gs86)
  have ne_b1_nb86 : b1 ≠ nb86 := Nat.ne_of_lt (Nat.lt_of_lt_of_le F79.lt gs86)
  have ne_b2_nb86 : b2 ≠ nb86 := Nat.ne_of_lt (Nat.lt_of_lt_of_le F80.lt gs86)
  have ne_b3_nb86 : b3 ≠ nb86 := Nat.ne_of_lt (Nat.lt_of_lt_of_le F81.lt gs86)
  have ne_nn_nb86 : nn ≠ nb86 := Nat.ne_of_lt (Nat.lt_of_lt_of_le F82.lt gs86)
  have ne_nb12_nb86 : nb12 ≠ nb86 := Nat.ne_of_lt (Nat.lt_of_lt_of_le F83.lt gs86)
  have ne_nb48_nb86 : nb48 ≠ nb86 := Nat.ne_of_lt (Nat.lt_of_lt_of_le F84.lt gs86)
  have ge_nb86 : n0 ≤ nb86 := Nat.le_trans Z68 gs86
  have gk_nb86 : h0.size ≤ nb86 := Nat.le_trans K69.1 gs86
  have Z88 : n0 ≤ T86.heap.size := Nat.le_trans Z68 K86.1
  have K89 : Keep h0 T86.heap [a, b1, b2, b3] := Keep.trans K69 K86 all0
  have F90 := (Exa.keep F70 K86)
  have F91 := (F71.keep K86 nin0)
  have F92 := (F72.keep K86 nin0)
  have F93 := (F73.keep K86 nin0)
  have F94 := (F74.keep K86 nin0)
  have F95 := (F75.keep K86 nin0)
  have F96 := (F76.keep K86 nin0)
  have F97 := (F77.keep K86 nin0)
  have F98 := (F78.keep K86 nin0)
  have F99 := (F79.keep K86 nin0)
  have F100 := (F80.keep K86 nin0)
  have F101 := (F81.keep K86 nin0)
  have F102 := (F82.keep K86 nin0)
  have F103 := (F83.keep K86 nin0)
  have F104 := (F84.keep K86 nin0)
  show own_G p.tables e below _ T86 (mkF m 66 #[.val (.ref a), .val (.int (0 : Int32)), .val (.int bt), .val (.int (4 : Int32))] [(.ref nb86), (.ref a)])
  refine own_putF X86 hx (pc' := 69) hZ (ty := (.array .int)) hown (host := "") (Or.inl (Wd23 hw)) Via.refl rfl F98 F90 (Or.inl (Wd24 hw)) (Wd3 hw) (by decide) rfl rfl (hb hby d8_66) rfl (fun T105 h105 X105 e105 W105 => ?_)
  have N106 := Fr.snoc X105 N87 g_a
  have Z107 : n0 ≤ h105.size := Nat.le_trans Z88 (Nat.le_of_eq (Wr.size W105).symm)
  have K108 : Keep h0 h105 [a, b1, b2, b3] := K89.wr W105 (Or.inl (List.mem_of_getElem? (i := 0) rfl))
  have F109 := (Exa.wr W105 F90)
  have F110 := (Fld.other W105 F91 (Or.inr (slot_ne (Or.inl (Wd33 hw)) (Or.inl (Wd24 hw)) (by decide) (t := .int) (t' := (.array .int)) (by decide) (by decide))))
  have F111 := (Fld.other W105 F92 (Or.inr (slot_ne (Or.inl (Wd14 hw)) (Or.inl (Wd24 hw)) (by decide) (t := (.array .int)) (t' := (.array .int)) (by decide) (by decide))))
  have F112 := (Fld.other W105 F93 (Or.inr (slot_ne (Or.inl (Wd16 hw)) (Or.inl (Wd24 hw)) (by decide) (t := (.array .int)) (t' := (.array .int)) (by decide) (by decide))))
  have F113 := (Fld.other W105 F94 (Or.inr (slot_ne (Or.inl (Wd18 hw)) (Or.inl (Wd24 hw)) (by decide) (t := (.array .int)) (t' := (.array .int)) (by decide) (by decide))))
  have F114 := (Fld.other W105 F95 (Or.inr (slot_ne (Or.inl (Wd56 hw)) (Or.inl (Wd24 hw)) (by decide) (t := .int) (t' := (.array .int)) (by decide) (by decide))))
  have F115 := (Fld.other W105 F96 (Or.inr (slot_ne (Or.inl (Wd20 hw)) (Or.inl (Wd24 hw)) (by decide) (t := (.array .int)) (t' := (.array .int)) (by decide) (by decide))))
  have F116 := (Fld.other W105 F97 (Or.inr (slot_ne (Or.inl (Wd22 hw)) (Or.inl (Wd24 hw)) (by decide) (t := (.array .int)) (t' := (.array .int)) (by decide) (by decide))))
  have F117 := (Fld.same W105 F98)
  have F118 := (F99.other W105 (Ne.symm ea1))
  have F119 := (F100.other W105 (Ne.symm ea2))
  have F120 := (F101.other W105 (Ne.symm ea3))
  have F121 := (F102.other W105 (Ne.symm ne_a_nn))
  have F122 := (F103.other W105 (Ne.symm ne_a_nb12))
  have F123 := (F104.other W105 (Ne.symm ne_a_nb48))
  have F124 := (V86.other W105 (Ne.symm ne_a_nb86))
  refine own_aloadN X105 hx (pc' := 70) (hb hby d8_69) rfl rfl rfl ?_
  refine own_getF X105 hx (pc' := 73) hZ hown (host := "") (Or.inl (Wd19 hw)) Via.refl e105 F115 (hb hby d8_70) rfl (fun T125 X125 e125 => ?_)
  refine own_aloadN X125 hx (pc' := 74) (hb hby d8_73) rfl rfl rfl ?_
  refine own_getF X125 hx (pc' := 77) hZ hown (host := "") (Or.inl (Wd55 hw)) Via.refl e125 F114 (hb hby d8_74) rfl (fun T126 X126 e126 => ?_)
  refine own_aloadN X126 hx (pc' := 78) (hb hby d8_77) rfl rfl rfl ?_
  refine own_getF X126 hx (pc' := 81) hZ hown (host := "") (Or.inl (Wd13 hw)) Via.refl e126 F111 (hb hby d8_78) rfl (fun T127 X127 e127 => ?_)
  refine own_iloadN X127 hx (pc' := 82) (hb hby d8_81) rfl rfl ?_
  have hi128 : ¬ (0 : Int32) < 0 ∧ (0 : Int32) < z := ⟨by decide, by rw [Int32.lt_iff_toInt_lt, own_t32_0]; omega⟩
  obtain ⟨cl129, Ar129, q129, S129, M129, H129, G129⟩ := id F118
  refine own_iaload X127 hx (pc' := 83) hZ (v := x0) e127 Ar129 (inb_of S129 hi128) (Has.at H129 (inb_of S129 hi128) rfl) (hb hby d8_82) rfl ?_
  obtain ⟨cl130, Ar130, q130, S130, M130, H130, G130⟩ := id F122
  refine own_stI X127 hx (pc' := 84) hZ e127 Ar130 (inb_of S130 ⟨by decide, by decide⟩) (hb hby d8_83) rfl (fun T131 h131 X131 e131 W131 => ?_)
  have N132 := Fr.snoc X131 N106 ge_nb12
  have Z133 : n0 ≤ h131.size := Nat.le_trans Z107 (Nat.le_of_eq (Wr.size W131).symm)
  have K134 : Keep h0 h131 [a, b1, b2, b3] := K108.wr W131 (Or.inr gk_nb12)
  have F135 := (Exa.wr W131 F109)
  have F136 := (Fld.other W131 F110 (Or.inl ne_a_nb12))
  have F137 := (Fld.other W131 F111 (Or.inl ne_a_nb12))
  have F138 := (Fld.other W131 F112 (Or.inl ne_a_nb12))
  have F139 := (Fld.other W131 F113 (Or.inl ne_a_nb12))
  have F140 := (Fld.other W131 F114 (Or.inl ne_a_nb12))
  have F141 := (Fld.other W131 F115 (Or.inl ne_a_nb12))
  have F142 := (Fld.other W131 F116 (Or.inl ne_a_nb12))
  have F143 := (Fld.other W131 F117 (Or.inl ne_a_nb12))
  have F144 := (F118.other W131 ne_b1_nb12)
  have F145 := (F119.other W131 ne_b2_nb12)
  have F146 := (F120.other W131 ne_b3_nb12)
  have F147 := (F121.other W131 ne_nn_nb12)
  have F148 : Arv Z h131 nb12 k12 .int (4 : Int32) [(.int x0), (.int (0 : Int32)), (.int (0 : Int32))] (.int (0 : Int32)) := (Arv.set Ar130 q130 S130 M130 H130 G130 rfl W131 0 rfl (Nat.le_of_ble_eq_true rfl))
  have F149 := (F123.other W131 (Ne.symm ne_nb12_nb48))
  have F150 := (F124.other W131 (Ne.symm ne_nb12_nb86))
  refine own_aloadN X131 hx (pc' := 85) (hb hby d8_84) rfl rfl rfl ?_
  refine own_getF X131 hx (pc' := 88) hZ hown (host := "") (Or.inl (Wd21 hw)) Via.refl e131 F142 (hb hby d8_85) rfl (fun T151 X151 e151 => ?_)
  refine own_aloadN X151 hx (pc' := 89) (hb hby d8_88) rfl rfl rfl ?_
  refine own_getF X151 hx (pc' := 92) hZ hown (host := "") (Or.inl (Wd55 hw)) Via.refl e151 F140 (hb hby d8_89) rfl (fun T152 X152 e152 => ?_)
  refine own_aloadN X152 hx (pc' := 93) (hb hby d8_92) rfl rfl rfl ?_
  refine own_getF X152 hx (pc' := 96) hZ hown (host := "") (Or.inl (Wd15 hw)) Via.refl e152 F138 (hb hby d8_93) rfl (fun T153 X153 e153 => ?_)
  refine own_iloadN X153 hx (pc' := 97) (hb hby d8_96) rfl rfl ?_
  have hi154 : ¬ (0 : Int32) < 0 ∧ (0 : Int32) < z := ⟨by decide, by rw [Int32.lt_iff_toInt_lt, own_t32_0]; omega⟩
  obtain ⟨cl155, Ar155, q155, S155, M155, H155, G155⟩ := id F145
  refine own_iaload X153 hx (pc' := 98) hZ (v := u0) e153 Ar155 (inb_of S155 hi154) (Has.at H155 (inb_of S155 hi154) rfl) (hb hby d8_97) rfl ?_
  refine own_iconst X153 hx (pc' := 99) (1 : Int32) (hb hby d8_98) rfl rfl ?_
  refine own_isub X153 hx (pc' := 100) (hb hby d8_99) rfl rfl ?_
  obtain ⟨cl156, Ar156, q156, S156, M156, H156, G156⟩ := id F149
  refine own_stI X153 hx (pc' := 101) hZ e153 Ar156 (inb_of S156 ⟨by decide, by decide⟩) (hb hby d8_100) rfl (fun T157 h157 X157 e157 W157 => ?_)
  have N158 := Fr.snoc X157 N132 ge_nb48
  have Z159 : n0 ≤ h157.size := Nat.le_trans Z133 (Nat.le_of_eq (Wr.size W157).symm)
  have K160 : Keep h0 h157 [a, b1, b2, b3] := K134.wr W157 (Or.inr gk_nb48)
  have F161 := (Exa.wr W157 F135)
  have F162 := (Fld.other W157 F136 (Or.inl ne_a_nb48))
  have F163 := (Fld.other W157 F137 (Or.inl ne_a_nb48))
  have F164 := (Fld.other W157 F138 (Or.inl ne_a_nb48))
  have F165 := (Fld.other W157 F139 (Or.inl ne_a_nb48))
  have F166 := (Fld.other W157 F140 (Or.inl ne_a_nb48))
  have F167 := (Fld.other W157 F141 (Or.inl ne_a_nb48))
  have F168 := (Fld.other W157 F142 (Or.inl ne_a_nb48))
  have F169 := (Fld.other W157 F143 (Or.inl ne_a_nb48))
  have F170 := (F144.other W157 ne_b1_nb48)
  have F171 := (F145.other W157 ne_b2_nb48)
  have F172 := (F146.other W157 ne_b3_nb48)
  have F173 := (F147.other W157 ne_nn_nb48)
  have F174 := (F148.other W157 ne_nb12_nb48)
  have F175 : Arv Z h157 nb48 k48 .int (4 : Int32) [(.int (u0 - (1 : Int32))), (.int (0 : Int32)), (.int (0 : Int32))] (.int (0 : Int32)) := (Arv.set Ar156 q156 S156 M156 H156 G156 rfl W157 0 rfl (Nat.le_of_ble_eq_true rfl))
  have F176 := (F150.other W157 (Ne.symm ne_nb48_nb86))
  refine own_aloadN X157 hx (pc' := 102) (hb hby d8_101) rfl rfl rfl ?_
  refine own_getF X157 hx (pc' := 105) hZ hown (host := "") (Or.inl (Wd23 hw)) Via.refl e157 F169 (hb hby d8_102) rfl (fun T177 X177 e177 => ?_)
  refine own_aloadN X177 hx (pc' := 106) (hb hby d8_105) rfl rfl rfl ?_
  refine own_getF X177 hx (pc' := 109) hZ hown (host := "") (Or.inl (Wd55 hw)) Via.refl e177 F166 (hb hby d8_106) rfl (fun T178 X178 e178 => ?_)
  refine own_iloadN X178 hx (pc' := 110) (hb hby d8_109) rfl rfl ?_
  obtain ⟨cl179, Ar179, q179, S179, M179, H179, G179⟩ := id F176
  refine own_stI X178 hx (pc' := 111) hZ e178 Ar179 (inb_of S179 ⟨by decide, by decide⟩) (hb hby d8_110) rfl (fun T180 h180 X180 e180 W180 => ?_)
  have N181 := Fr.snoc X180 N158 ge_nb86
  have Z182 : n0 ≤ h180.size := Nat.le_trans Z159 (Nat.le_of_eq (Wr.size W180).symm)
  have K183 : Keep h0 h180 [a, b1, b2, b3] := K160.wr W180 (Or.inr gk_nb86)
  have F184 := (Exa.wr W180 F161)
  have F185 := (Fld.other W180 F162 (Or.inl ne_a_nb86))
  have F186 := (Fld.other W180 F163 (Or.inl ne_a_nb86))
  have F187 := (Fld.other W180 F164 (Or.inl ne_a_nb86))
  have F188 := (Fld.other W180 F165 (Or.inl ne_a_nb86))
  have F189 := (Fld.other W180 F166 (Or.inl ne_a_nb86))
  have F190 := (Fld.other W180 F167 (Or.inl ne_a_nb86))
  have F191 := (Fld.other W180 F168 (Or.inl ne_a_nb86))
  have F192 := (Fld.other W180 F169 (Or.inl ne_a_nb86))
  have F193 := (F170.other W180 ne_b1_nb86)
  have F194 := (F171.other W180 ne_b2_nb86)
  have F195 := (F172.other W180 ne_b3_nb86)
  have F196 := (F173.other W180 ne_nn_nb86)
  have F197 := (F174.other W180 ne_nb12_nb86)
  have F198 := (F175.other W180 ne_nb48_nb86)
  have F199 : Arv Z h180 nb86 k86 .int (4 : Int32) [(.int bt), (.int (0 : Int32)), (.int (0 : Int32))] (.int (0 : Int32)) := (Arv.set Ar179 q179 S179 M179 H179 G179 rfl W180 0 rfl (Nat.le_of_ble_eq_true rfl))
  refine own_aloadN X180 hx (pc' := 112) (hb hby d8_111) rfl rfl rfl ?_
  refine own_dup X180 hx (pc' := 113) (hb hby d8_112) rfl rfl ?_
  refine own_getF X180 hx (pc' := 116) hZ hown (host := "") (Or.inl (Wd55 hw)) Via.refl e180 F189 (hb hby d8_113) rfl (fun T200 X200 e200 => ?_)
  refine own_iconst X200 hx (pc' := 117) (1 : Int32) (hb hby d8_116) rfl rfl ?_
  refine own_iadd X200 hx (pc' := 118) (z := (1 : Int32)) (hb hby d8_117) (by decide) rfl ?_
  refine own_putF X200 hx (pc' := 121) hZ (ty := .int) hown (host := "") (Or.inl (Wd55 hw)) Via.refl e200 F189 F184 (Or.inl (Wd56 hw)) (Wd3 hw) (by decide) rfl rfl (hb hby d8_118) rfl (fun T201 h201 X201 e201 W201 => ?_)
  have N202 := Fr.snoc X201 N181 g_a
  have Z203 : n0 ≤ h201.size := Nat.le_trans Z182 (Nat.le_of_eq (Wr.size W201).symm)
  have K204 : Keep h0 h201 [a, b1, b2, b3] := K183.wr W201 (Or.inl (List.mem_of_getElem? (i := 0) rfl))
  have F205 := (Exa.wr W201 F184)
  have F206 := (Fld.other W201 F185 (Or.inr (slot_ne (Or.inl (Wd33 hw)) (Or.inl (Wd56 hw)) (by decide) (t := .int) (t' := .int) (by decide) (by decide))))
  have F207 := (Fld.other W201 F186 (Or.inr (slot_ne (Or.inl (Wd14 hw)) (Or.inl (Wd56 hw)) (by decide) (t := (.array .int)) (t' := .int) (by decide) (by decide))))
  have F208 := (Fld.other W201 F187 (Or.inr (slot_ne (Or.inl (Wd16 hw)) (Or.inl (Wd56 hw)) (by decide) (t := (.array .int)) (t' := .int) (by decide) (by decide))))
  have F209 := (Fld.other W201 F188 (Or.inr (slot_ne (Or.inl (Wd18 hw)) (Or.inl (Wd56 hw)) (by decide) (t := (.array .int)) (t' := .int) (by decide) (by decide))))
  have F210 := (Fld.same W201 F189)
  have F211 := (Fld.other W201 F190 (Or.inr (slot_ne (Or.inl (Wd20 hw)) (Or.inl (Wd56 hw)) (by decide) (t := (.array .int)) (t' := .int) (by decide) (by decide))))
  have F212 := (Fld.other W201 F191 (Or.inr (slot_ne (Or.inl (Wd22 hw)) (Or.inl (Wd56 hw)) (by decide) (t := (.array .int)) (t' := .int) (by decide) (by decide))))
  have F213 := (Fld.other W201 F192 (Or.inr (slot_ne (Or.inl (Wd24 hw)) (Or.inl (Wd56 hw)) (by decide) (t := (.array .int)) (t' := .int) (by decide) (by decide))))
  have F214 := (F193.other W201 (Ne.symm ea1))
  have F215 := (F194.other W201 (Ne.symm ea2))
  have F216 := (F195.other W201 (Ne.symm ea3))
  have F217 := (F196.other W201 (Ne.symm ne_a_nn))
  have F218 := (F197.other W201 (Ne.symm ne_a_nb12))
  have F219 := (F198.other W201 (Ne.symm ne_a_nb48))
  have F220 := (F199.other W201 (Ne.symm ne_a_nb86))
  refine own_aloadN X201 hx (pc' := 122) (hb hby d8_121) rfl rfl rfl ?_
  refine own_iloadN X201 hx (pc' := 123) (hb hby d8_122) rfl rfl ?_
  refine own_callV X201 hx (pc' := 126) hZ hown (Wd62 hw) (Wd64 hw) (Wd65 hw) (Wd66 hw) (Wd4 hw) (by decide) (rm_rem20 l Z a0 hw [] a b1 b2 b3 k1 k2 k3 z x0 x1 x2 u0 u1 u2 t0 t1 t2 nb12 nb48 nb86 (1 : Int32) h201 n0 Z203 hz g_a g_b1 g_b2 g_b3 dj12 dj13 dj23 F205 F206 F207 F208 F209 F214 F215 F216 F210 F211 F212 F213) e201 F205 0 (by decide) (by decide) (by decide) (by decide) [(.int (0 : Int32))] [] (by rw [hml]; rfl) (lenOf pd_2 rfl) rfl rfl (Nat.le_of_eq rfl) (hb hby d8_123) rfl (fun v221 T221 L221 X221 hQ221 => ?_)
  obtain ⟨rfl, Nq221, K221, Gc221, Gp221, Gu221, Gt221, Va221, Vb221, Vc221, Xa221, Xb221, Xc221, Xd221⟩ := hQ221
  have N222 := Fr.app N202 Nq221
  have Z223 : n0 ≤ T221.heap.size := Nat.le_trans Z203 K221.1
  have K224 : Keep h0 T221.heap [a, b1, b2, b3] := Keep.trans K204 K221 (allS (Or.inl (List.mem_of_getElem? (i := 0) rfl)) (allS (Or.inl (List.mem_of_getElem? (i := 1) rfl)) (allS (Or.inl (List.mem_of_getElem? (i := 2) rfl)) (allS (Or.inl (List.mem_of_getElem? (i := 3) rfl)) all0))))
  have F225 := (Exa.keep F205 K221)
  have F226 := (F218.keep K221 (ninS (Ne.symm ne_a_nb12) (ninS (Ne.symm ne_b1_nb12) (ninS (Ne.symm ne_b2_nb12) (ninS (Ne.symm ne_b3_nb12) nin0)))))
  have F227 := (F219.keep K221 (ninS (Ne.symm ne_a_nb48) (ninS (Ne.symm ne_b1_nb48) (ninS (Ne.symm ne_b2_nb48) (ninS (Ne.symm ne_b3_nb48) nin0)))))
  have F228 := (F220.keep K221 (ninS (Ne.symm ne_a_nb86) (ninS (Ne.symm ne_b1_nb86) (ninS (Ne.symm ne_b2_nb86) (ninS (Ne.symm ne_b3_nb86) nin0)))))
  show own_G p.tables e below _ T221 (mkF m 126 #[.val (.ref a), .val (.int (0 : Int32)), .val (.int bt), .val (.int (4 : Int32))] [])
  refine own_retV X221 hx hlk hret (hb hby d8_126) (by decide) (by decide) ?_
  exact ⟨rfl, N222, K224, Gc221, Gu221, Vb221, nb12, nb48, nb86, _, _, _, ⟨gk_nb12, gk_nb48, gk_nb86⟩, ⟨ne_nb12_nb48, ne_nb12_nb86, ne_nb48_nb86⟩, Xa221, Xb221, Xc221, Xd221, F226, F227, F228⟩

def QrsN21 (Z : State) (a b1 b2 b3 : Addr) (k1 k2 k3 : ClassId) (z x0 x1 x2 u0 u1 u2 t0 t1 t2 : Int32) (nn : Addr) (kn : ClassId) (bt : Int32) (h0 : Heap) (n0 : Nat) (v : Option Value) (h : Heap) (L : List Loc) : Prop := v = none ∧ Fr n0 L ∧ Keep h0 h [a, b1, b2, b3] ∧ Fld Z h a "com/example/rootcast/rootcast/tree/Children" "count" "I" (.int (1 : Int32)) ∧ Fld Z h a "com/example/rootcast/rootcast/tree/Children" "subtree" "[I" (.ref b2) ∧ Arv Z h b2 k2 .int z [(.int u0), (.int u1), (.int u2)] (.int (0 : Int32)) ∧ Fld Z h a "com/example/rootcast/rootcast/tree/Children" "awaited" "I" (.int (0 : Int32))
theorem ef_rm_rsN21 (m : MethodId) (x0 : Addr) (x1 : Int32) (x2 : Int32) : entryFrame m #[(.ref x0), (.int x1), (.int x2)] 4 = mkF m 0 #[.val (.ref x0), .val (.int x1), .val (.int x2), .unset] [] := by first | (simp [entryFrame, mkF, argsToLocals, Value.category, maxLocals]; done) | rfl
set_option maxRecDepth 65536 in
set_option maxHeartbeats 40000000 in
theorem rm_rsN21 (l : Launch) (Z : State) (a0 : Array Value) (hw : ∀ d ∈ tables_1, d.before a0 Z = true) (ws : List Jvm.Cond) (a b1 b2 b3 : Addr) (k1 k2 k3 : ClassId) (z x0 x1 x2 u0 u1 u2 t0 t1 t2 : Int32) (nn : Addr) (kn : ClassId) (bt : Int32) (h0 : Heap) (n0 : Nat) (Z0 : n0 ≤ h0.size) (hz : z.toInt = 3 ∨ z.toInt = 4) (g_a : n0 ≤ a) (g_b1 : n0 ≤ b1) (g_b2 : n0 ≤ b2) (g_b3 : n0 ≤ b3) (dj12 : b1 ≠ b2) (dj13 : b1 ≠ b3) (dj23 : b2 ≠ b3) (hgt : ¬ (1 : Int32) < u1) (E_a : Exa Z h0 a "com/example/rootcast/rootcast/tree/Children") (F_c : Fld Z h0 a "com/example/rootcast/rootcast/tree/Children" "count" "I" (.int (2 : Int32))) (F_p : Fld Z h0 a "com/example/rootcast/rootcast/tree/Children" "peers" "[I" (.ref b1)) (F_u : Fld Z h0 a "com/example/rootcast/rootcast/tree/Children" "subtree" "[I" (.ref b2)) (F_t : Fld Z h0 a "com/example/rootcast/rootcast/tree/Children" "sent" "[I" (.ref b3)) (X_awaited : Fld Z h0 a "com/example/rootcast/rootcast/tree/Children" "awaited" "I" (.int (0 : Int32))) (X_stopped : Fld Z h0 a "com/example/rootcast/rootcast/tree/Children" "stopped" "[I" (.ref nn)) (X_toCome : Fld Z h0 a "com/example/rootcast/rootcast/tree/Children" "toCome" "[I" (.ref nn)) (X_beatsLeft : Fld Z h0 a "com/example/rootcast/rootcast/tree/Children" "beatsLeft" "[I" (.ref nn)) (V_1 : Arv Z h0 b1 k1 .int z [(.int x0), (.int x1), (.int x2)] (.int (0 : Int32))) (V_2 : Arv Z h0 b2 k2 .int z [(.int u0), (.int u1), (.int u2)] (.int (0 : Int32))) (V_3 : Arv Z h0 b3 k3 .int z [(.int t0), (.int t1), (.int t2)] (.int (0 : Int32))) (V_n : Arv Z h0 nn kn .int (0 : Int32) [] (.int (0 : Int32))) :
    MetFree l (⟨"com/example/rootcast/rootcast/tree/Children", "removeStopped", "(II)V"⟩ : MethodName) (head1 (Jvm.Cond.code (⟨"com/example/rootcast/rootcast/tree/Children", "removeStopped", "(II)V"⟩ : MethodName) prog_127_method_9_code 4 none :: ws) ({ frames := 2, cells := 0, slots := 0, locals := 34 } : Room)) (fun aa U => aa = #[(.ref a), (.int (1 : Int32)), (.int bt)] ∧ Z.Warmed39 U.vm ∧ U.heap = h0) (fun _ _ _ _ _ => True) (fun _ U o U' => ∃ v L, o = .returned v ∧ QrsN21 Z a b1 b2 b3 k1 k2 k3 z x0 x1 x2 u0 u1 u2 t0 t1 t2 nn kn bt h0 n0 v U'.heap L ∧ FrameEnd U o U' L (({ frames := 2, cells := 0, slots := 0, locals := 34 } : Room).cells) (({ frames := 2, cells := 0, slots := 0, locals := 34 } : Room).slots)) := by
  refine own_body pf_10 ?_
  intro p e s m below meth c s₁ hx hby hml hown hnm hlk hret hZ X0 e0
  have N0 : Fr n0 [] := Fr.nil n0
  refine own_go (f' := (mkF m 0 #[.val (.ref a), .val (.int (1 : Int32)), .val (.int bt), .unset] [])) (fun t k => castTop (ef_rm_rsN21 m a (1 : Int32) bt) k) ?_
  have ea1 : a ≠ b1 := by obtain ⟨c1, A1, -⟩ := V_1; exact ne_arr E_a (Wd3 hw) A1
  have ea2 : a ≠ b2 := by obtain ⟨c1, A1, -⟩ := V_2; exact ne_arr E_a (Wd3 hw) A1
  have ea3 : a ≠ b3 := by obtain ⟨c1, A1, -⟩ := V_3; exact ne_arr E_a (Wd3 hw) A1
  have ne_a_nn : a ≠ nn := by obtain ⟨q1, A1, -⟩ := id V_n; exact ne_arr E_a (Wd3 hw) A1
  have hzn : ¬ z < 0 := by rw [Int32.lt_iff_toInt_lt]; show ¬ z.toInt < 0; omega
  have hz3 : 3 ≤ z.toNatClampNeg := by have := nat_of hzn; omega
  have K1 : Keep h0 h0 [a, b1, b2, b3] := Keep.refl _ _
  refine own_aloadN X0 hx (pc' := 1) (hb hby d8_0) rfl rfl rfl ?_
  refine own_getF X0 hx (pc' := 4) hZ hown (host := "") (Or.inl (Wd15 hw)) Via.refl e0 F_u (hb hby d8_1) rfl (fun T2 X2 e2 => ?_)
  refine own_iloadN X2 hx (pc' := 5) (hb hby d8_4) rfl rfl ?_
  have hi3 : ¬ (1 : Int32) < 0 ∧ (1 : Int32) < z := ⟨by decide, by rw [Int32.lt_iff_toInt_lt, own_t32_1]; omega⟩
  obtain ⟨cl4, Ar4, q4, S4, M4, H4, G4⟩ := id V_2
  refine own_iaload X2 hx (pc' := 6) hZ (v := u1) e2 Ar4 (inb_of S4 hi3) (Has.at H4 (inb_of S4 hi3) rfl) (hb hby d8_5) rfl ?_
  refine own_iconst X2 hx (pc' := 7) (1 : Int32) (hb hby d8_6) rfl rfl ?_
  refine own_icmpYes X2 hx (pc' := 121) (hb hby d8_7) (flt hgt).2.2.2 (by decide) (by decide) ?_
  refine own_aloadN X2 hx (pc' := 122) (hb hby d8_121) rfl rfl rfl ?_
  refine own_iloadN X2 hx (pc' := 123) (hb hby d8_122) rfl rfl ?_
  refine own_callV X2 hx (pc' := 126) hZ hown (Wd62 hw) (Wd64 hw) (Wd65 hw) (Wd66 hw) (Wd4 hw) (by decide) (rm_rem21 l Z a0 hw [] a b1 b2 b3 k1 k2 k3 z x0 x1 x2 u0 u1 u2 t0 t1 t2 nn nn nn (0 : Int32) h0 n0 Z0 hz g_a g_b1 g_b2 g_b3 dj12 dj13 dj23 E_a F_c F_p F_u F_t V_1 V_2 V_3 X_awaited X_stopped X_toCome X_beatsLeft) e2 E_a 0 (by decide) (by decide) (by decide) (by decide) [(.int (1 : Int32))] [] (by rw [hml]; rfl) (lenOf pd_2 rfl) rfl rfl (Nat.le_of_eq rfl) (hb hby d8_123) rfl (fun v5 T5 L5 X5 hQ5 => ?_)
  obtain ⟨rfl, Nq5, K5, Gc5, Gp5, Gu5, Gt5, Va5, Vb5, Vc5, Xa5, Xb5, Xc5, Xd5⟩ := hQ5
  have N6 := Fr.app N0 Nq5
  have Z7 : n0 ≤ T5.heap.size := Nat.le_trans Z0 K5.1
  have K8 : Keep h0 T5.heap [a, b1, b2, b3] := Keep.trans K1 K5 (allS (Or.inl (List.mem_of_getElem? (i := 0) rfl)) (allS (Or.inl (List.mem_of_getElem? (i := 1) rfl)) (allS (Or.inl (List.mem_of_getElem? (i := 2) rfl)) (allS (Or.inl (List.mem_of_getElem? (i := 3) rfl)) all0))))
  have F9 := (Exa.keep E_a K5)
  show own_G p.tables e below _ T5 (mkF m 126 #[.val (.ref a), .val (.int (1 : Int32)), .val (.int bt), .unset] [])
  refine own_retV X5 hx hlk hret (hb hby d8_126) (by decide) (by decide) ?_
  exact ⟨rfl, N6, K8, Gc5, Gu5, Vb5, Xa5⟩

def QrsA21 (Z : State) (a b1 b2 b3 : Addr) (k1 k2 k3 : ClassId) (z x0 x1 x2 u0 u1 u2 t0 t1 t2 : Int32) (nn : Addr) (kn : ClassId) (bt : Int32) (h0 : Heap) (n0 : Nat) (v : Option Value) (h : Heap) (L : List Loc) : Prop := v = none ∧ Fr n0 L ∧ Keep h0 h [a, b1, b2, b3] ∧ Fld Z h a "com/example/rootcast/rootcast/tree/Children" "count" "I" (.int (1 : Int32)) ∧ Fld Z h a "com/example/rootcast/rootcast/tree/Children" "subtree" "[I" (.ref b2) ∧ Arv Z h b2 k2 .int z [(.int u0), (.int u1), (.int u2)] (.int (0 : Int32)) ∧ ∃ (c1 c2 c3 : Addr) (j1 j2 j3 : ClassId), (h0.size ≤ c1 ∧ h0.size ≤ c2 ∧ h0.size ≤ c3) ∧ (c1 ≠ c2 ∧ c1 ≠ c3 ∧ c2 ≠ c3) ∧ Fld Z h a "com/example/rootcast/rootcast/tree/Children" "awaited" "I" (.int (1 : Int32)) ∧ Fld Z h a "com/example/rootcast/rootcast/tree/Children" "stopped" "[I" (.ref c1) ∧ Fld Z h a "com/example/rootcast/rootcast/tree/Children" "toCome" "[I" (.ref c2) ∧ Fld Z h a "com/example/rootcast/rootcast/tree/Children" "beatsLeft" "[I" (.ref c3) ∧ Arv Z h c1 j1 .int (4 : Int32) [(.int x1), (.int (0 : Int32)), (.int (0 : Int32))] (.int (0 : Int32)) ∧ Arv Z h c2 j2 .int (4 : Int32) [(.int (u1 - (1 : Int32))), (.int (0 : Int32)), (.int (0 : Int32))] (.int (0 : Int32)) ∧ Arv Z h c3 j3 .int (4 : Int32) [(.int bt), (.int (0 : Int32)), (.int (0 : Int32))] (.int (0 : Int32))
theorem ef_rm_rsA21 (m : MethodId) (x0 : Addr) (x1 : Int32) (x2 : Int32) : entryFrame m #[(.ref x0), (.int x1), (.int x2)] 4 = mkF m 0 #[.val (.ref x0), .val (.int x1), .val (.int x2), .unset] [] := by first | (simp [entryFrame, mkF, argsToLocals, Value.category, maxLocals]; done) | rfl
set_option maxRecDepth 65536 in
set_option maxHeartbeats 40000000 in
theorem rm_rsA21 (l : Launch) (Z : State) (a0 : Array Value) (hw : ∀ d ∈ tables_1, d.before a0 Z = true) (ws : List Jvm.Cond) (a b1 b2 b3 : Addr) (k1 k2 k3 : ClassId) (z x0 x1 x2 u0 u1 u2 t0 t1 t2 : Int32) (nn : Addr) (kn : ClassId) (bt : Int32) (h0 : Heap) (n0 : Nat) (Z0 : n0 ≤ h0.size) (hz : z.toInt = 3 ∨ z.toInt = 4) (g_a : n0 ≤ a) (g_b1 : n0 ≤ b1) (g_b2 : n0 ≤ b2) (g_b3 : n0 ≤ b3) (dj12 : b1 ≠ b2) (dj13 : b1 ≠ b3) (dj23 : b2 ≠ b3) (hgt : (1 : Int32) < u1) (E_a : Exa Z h0 a "com/example/rootcast/rootcast/tree/Children") (F_c : Fld Z h0 a "com/example/rootcast/rootcast/tree/Children" "count" "I" (.int (2 : Int32))) (F_p : Fld Z h0 a "com/example/rootcast/rootcast/tree/Children" "peers" "[I" (.ref b1)) (F_u : Fld Z h0 a "com/example/rootcast/rootcast/tree/Children" "subtree" "[I" (.ref b2)) (F_t : Fld Z h0 a "com/example/rootcast/rootcast/tree/Children" "sent" "[I" (.ref b3)) (X_awaited : Fld Z h0 a "com/example/rootcast/rootcast/tree/Children" "awaited" "I" (.int (0 : Int32))) (X_stopped : Fld Z h0 a "com/example/rootcast/rootcast/tree/Children" "stopped" "[I" (.ref nn)) (X_toCome : Fld Z h0 a "com/example/rootcast/rootcast/tree/Children" "toCome" "[I" (.ref nn)) (X_beatsLeft : Fld Z h0 a "com/example/rootcast/rootcast/tree/Children" "beatsLeft" "[I" (.ref nn)) (V_1 : Arv Z h0 b1 k1 .int z [(.int x0), (.int x1), (.int x2)] (.int (0 : Int32))) (V_2 : Arv Z h0 b2 k2 .int z [(.int u0), (.int u1), (.int u2)] (.int (0 : Int32))) (V_3 : Arv Z h0 b3 k3 .int z [(.int t0), (.int t1), (.int t2)] (.int (0 : Int32))) (V_n : Arv Z h0 nn kn .int (0 : Int32) [] (.int (0 : Int32))) :
    MetFree l (⟨"com/example/rootcast/rootcast/tree/Children", "removeStopped", "(II)V"⟩ : MethodName) (head1 (Jvm.Cond.code (⟨"com/example/rootcast/rootcast/tree/Children", "removeStopped", "(II)V"⟩ : MethodName) prog_127_method_9_code 4 none :: ws) ({ frames := 2, cells := 3, slots := 12, locals := 48 } : Room)) (fun aa U => aa = #[(.ref a), (.int (1 : Int32)), (.int bt)] ∧ Z.Warmed39 U.vm ∧ U.heap = h0) (fun _ _ _ _ _ => True) (fun _ U o U' => ∃ v L, o = .returned v ∧ QrsA21 Z a b1 b2 b3 k1 k2 k3 z x0 x1 x2 u0 u1 u2 t0 t1 t2 nn kn bt h0 n0 v U'.heap L ∧ FrameEnd U o U' L (({ frames := 2, cells := 3, slots := 12, locals := 48 } : Room).cells) (({ frames := 2, cells := 3, slots := 12, locals := 48 } : Room).slots)) := by
  refine own_body pf_10 ?_
  intro p e s m below meth c s₁ hx hby hml hown hnm hlk hret hZ X0 e0
  have N0 : Fr n0 [] := Fr.nil n0
  refine own_go (f' := (mkF m 0 #[.val (.ref a), .val (.int (1 : Int32)), .val (.int bt), .unset] [])) (fun t k => castTop (ef_rm_rsA21 m a (1 : Int32) bt) k) ?_
  have ea1 : a ≠ b1 := by obtain ⟨c1, A1, -⟩ := V_1; exact ne_arr E_a (Wd3 hw) A1
  have ea2 : a ≠ b2 := by obtain ⟨c1, A1, -⟩ := V_2; exact ne_arr E_a (Wd3 hw) A1
  have ea3 : a ≠ b3 := by obtain ⟨c1, A1, -⟩ := V_3; exact ne_arr E_a (Wd3 hw) A1
  have ne_a_nn : a ≠ nn := by obtain ⟨q1, A1, -⟩ := id V_n; exact ne_arr E_a (Wd3 hw) A1
  have hzn : ¬ z < 0 := by rw [Int32.lt_iff_toInt_lt]; show ¬ z.toInt < 0; omega
  have hz3 : 3 ≤ z.toNatClampNeg := by have := nat_of hzn; omega
  have K1 : Keep h0 h0 [a, b1, b2, b3] := Keep.refl _ _
  refine own_aloadN X0 hx (pc' := 1) (hb hby d8_0) rfl rfl rfl ?_
  refine own_getF X0 hx (pc' := 4) hZ hown (host := "") (Or.inl (Wd15 hw)) Via.refl e0 F_u (hb hby d8_1) rfl (fun T2 X2 e2 => ?_)
  refine own_iloadN X2 hx (pc' := 5) (hb hby d8_4) rfl rfl ?_
  have hi3 : ¬ (1 : Int32) < 0 ∧ (1 : Int32) < z := ⟨by decide, by rw [Int32.lt_iff_toInt_lt, own_t32_1]; omega⟩
  obtain ⟨cl4, Ar4, q4, S4, M4, H4, G4⟩ := id V_2
  refine own_iaload X2 hx (pc' := 6) hZ (v := u1) e2 Ar4 (inb_of S4 hi3) (Has.at H4 (inb_of S4 hi3) rfl) (hb hby d8_5) rfl ?_
  refine own_iconst X2 hx (pc' := 7) (1 : Int32) (hb hby d8_6) rfl rfl ?_
  refine own_icmpNo X2 hx (pc' := 10) (hb hby d8_7) (tlt hgt).2.2.2 rfl ?_
  refine own_aloadN X2 hx (pc' := 11) (hb hby d8_10) rfl rfl rfl ?_
  refine own_getF X2 hx (pc' := 14) hZ hown (host := "") (Or.inl (Wd55 hw)) Via.refl e2 X_awaited (hb hby d8_11) rfl (fun T5 X5 e5 => ?_)
  refine own_aloadN X5 hx (pc' := 15) (hb hby d8_14) rfl rfl rfl ?_
  refine own_getF X5 hx (pc' := 18) hZ hown (host := "") (Or.inl (Wd19 hw)) Via.refl e5 X_stopped (hb hby d8_15) rfl (fun T6 X6 e6 => ?_)
  obtain ⟨cl7, Ar7, q7, S7, M7, H7, G7⟩ := id V_n
  refine own_len X6 hx (pc' := 19) hZ e6 Ar7 S7 M7 (hb hby d8_18) rfl ?_
  refine own_icmpNo X6 hx (pc' := 22) (hb hby d8_19) (teq rfl).2 rfl ?_
  refine own_iconst X6 hx (pc' := 23) (4 : Int32) (hb hby d8_22) rfl rfl ?_
  refine own_iconst X6 hx (pc' := 24) (2 : Int32) (hb hby d8_23) rfl rfl ?_
  refine own_aloadN X6 hx (pc' := 25) (hb hby d8_24) rfl rfl rfl ?_
  refine own_getF X6 hx (pc' := 28) hZ hown (host := "") (Or.inl (Wd55 hw)) Via.refl e6 X_awaited (hb hby d8_25) rfl (fun T8 X8 e8 => ?_)
  refine own_imul X8 hx (pc' := 29) (z := (0 : Int32)) (hb hby d8_28) (by decide) rfl ?_
  refine own_callS X8 hx (pc' := 32) hZ hown (Wd34 hw) (Wd35 hw) (Wd36 hw) (Wd37 hw) (by decide) (rm_max l Z a0 hw [] (4 : Int32) (0 : Int32) h0 n0 Z0) e8 0 (by decide) (by decide) (by decide) (by decide) [(.int (4 : Int32)), (.int (0 : Int32))] [] (by rw [hml]; rfl) (lenOf pd_0 rfl) rfl rfl (Nat.le_of_eq rfl) (hb hby d8_29) rfl (fun v9 T9 L9 X9 hQ9 => ?_)
  obtain ⟨rfl, Nq9, e9⟩ := hQ9
  have N10 := Fr.app N0 Nq9
  show own_G p.tables e below _ T9 (mkF m 32 #[.val (.ref a), .val (.int (1 : Int32)), .val (.int bt), .unset] [(.int (own_max (4 : Int32) (0 : Int32)))])
  rw [show (own_max (4 : Int32) (0 : Int32)) = (4 : Int32) from by decide]
  refine own_istoreN X9 hx (pc' := 33) (Ls' := #[.val (.ref a), .val (.int (1 : Int32)), .val (.int bt), .val (.int (4 : Int32))]) (hb hby d8_32) rfl rfl ?_
  refine own_aloadN X9 hx (pc' := 34) (hb hby d8_33) rfl rfl rfl ?_
  refine own_aloadN X9 hx (pc' := 35) (hb hby d8_34) rfl rfl rfl ?_
  refine own_getF X9 hx (pc' := 38) hZ hown (host := "") (Or.inl (Wd19 hw)) Via.refl e9 X_stopped (hb hby d8_35) rfl (fun T11 X11 e11 => ?_)
  refine own_iloadN X11 hx (pc' := 39) (hb hby d8_38) rfl rfl ?_
  refine own_callS X11 hx (pc' := 42) hZ hown (Wd41 hw) (Wd42 hw) (Wd43 hw) (Wd44 hw) (by decide) (rm_copy l Z a0 hw [] nn kn (4 : Int32) h0 n0 Z0 (Or.inr (by decide)) V_n) e11 1 (by decide) (by decide) (by decide) (by decide) [(.ref nn), (.int (4 : Int32))] [(.ref a)] (by rw [hml]; rfl) (lenOf pd_1 rfl) rfl rfl (Nat.le_of_eq rfl) (hb hby d8_39) rfl (fun v12 T12 L12 X12 hQ12 => ?_)
  obtain ⟨nb12, k12, rfl, gs12, Nq12, K12, V12⟩ := hQ12
  have N13 := Fr.app N10 Nq12
  have ne_a_nb12 : a ≠ nb12 := Nat.ne_of_lt (Nat.lt_of_lt_of_le E_a.lt gs12)
  have ne_b1_nb12 : b1 ≠ nb12 := Nat.ne_of_lt (Nat.lt_of_lt_of_le V_1.lt gs12)
  have ne_b2_nb12 : b2 ≠ nb12 := Nat.ne_of_lt (Nat.lt_of_lt_of_le V_2.lt gs12)
  have ne_b3_nb12 : b3 ≠ nb12 := Nat.ne_of_lt (Nat.lt_of_lt_of_le V_3.lt gs12)
  have ne_nn_nb12 : nn ≠ nb12 := Nat.ne_of_lt (Nat.lt_of_lt_of_le V_n.lt gs12)
  have ge_nb12 : n0 ≤ nb12 := Nat.le_trans Z0 gs12
  have gk_nb12 : h0.size ≤ nb12 := Nat.le_trans K1.1 gs12
  have Z14 : n0 ≤ T12.heap.size := Nat.le_trans Z0 K12.1
  have K15 : Keep h0 T12.heap [a, b1, b2, b3] := Keep.trans K1 K12 all0
  have F16 := (Exa.keep E_a K12)
  have F17 := (F_c.keep K12 nin0)
  have F18 := (F_p.keep K12 nin0)
  have F19 := (F_u.keep K12 nin0)
  have F20 := (F_t.keep K12 nin0)
  have F21 := (X_awaited.keep K12 nin0)
  have F22 := (X_stopped.keep K12 nin0)
  have F23 := (X_toCome.keep K12 nin0)
  have F24 := (X_beatsLeft.keep K12 nin0)
  have F25 := (V_1.keep K12 nin0)
  have F26 := (V_2.keep K12 nin0)
  have F27 := (V_3.keep K12 nin0)
  have F28 := (V_n.keep K12 nin0)
  show own_G p.tables e below _ T12 (mkF m 42 #[.val (.ref a), .val (.int (1 : Int32)), .val (.int bt), .val (.int (4 : Int32))] [(.ref nb12), (.ref a)])
  refine own_putF X12 hx (pc' := 45) hZ (ty := (.array .int)) hown (host := "") (Or.inl (Wd19 hw)) Via.refl rfl F22 F16 (Or.inl (Wd20 hw)) (Wd3 hw) (by decide) rfl rfl (hb hby d8_42) rfl (fun T29 h29 X29 e29 W29 => ?_)
  have N30 := Fr.snoc X29 N13 g_a
  have Z31 : n0 ≤ h29.size := Nat.le_trans Z14 (Nat.le_of_eq (Wr.size W29).symm)
  have K32 : Keep h0 h29 [a, b1, b2, b3] := K15.wr W29 (Or.inl (List.mem_of_getElem? (i := 0) rfl))
  have F33 := (Exa.wr W29 F16)
  have F34 := (Fld.other W29 F17 (Or.inr (slot_ne (Or.inl (Wd33 hw)) (Or.inl (Wd20 hw)) (by decide) (t := .int) (t' := (.array .int)) (by decide) (by decide))))
  have F35 := (Fld.other W29 F18 (Or.inr (slot_ne (Or.inl (Wd14 hw)) (Or.inl (Wd20 hw)) (by decide) (t := (.array .int)) (t' := (.array .int)) (by decide) (by decide))))
  have F36 := (Fld.other W29 F19 (Or.inr (slot_ne (Or.inl (Wd16 hw)) (Or.inl (Wd20 hw)) (by decide) (t := (.array .int)) (t' := (.array .int)) (by decide) (by decide))))
  have F37 := (Fld.other W29 F20 (Or.inr (slot_ne (Or.inl (Wd18 hw)) (Or.inl (Wd20 hw)) (by decide) (t := (.array .int)) (t' := (.array .int)) (by decide) (by decide))))
  have F38 := (Fld.other W29 F21 (Or.inr (slot_ne (Or.inl (Wd56 hw)) (Or.inl (Wd20 hw)) (by decide) (t := .int) (t' := (.array .int)) (by decide) (by decide))))
  have F39 := (Fld.same W29 F22)
  have F40 := (Fld.other W29 F23 (Or.inr (slot_ne (Or.inl (Wd22 hw)) (Or.inl (Wd20 hw)) (by decide) (t := (.array .int)) (t' := (.array .int)) (by decide) (by decide))))
  have F41 := (Fld.other W29 F24 (Or.inr (slot_ne (Or.inl (Wd24 hw)) (Or.inl (Wd20 hw)) (by decide) (t := (.array .int)) (t' := (.array .int)) (by decide) (by decide))))
  have F42 := (F25.other W29 (Ne.symm ea1))
  have F43 := (F26.other W29 (Ne.symm ea2))
  have F44 := (F27.other W29 (Ne.symm ea3))
  have F45 := (F28.other W29 (Ne.symm ne_a_nn))
  have F46 := (V12.other W29 (Ne.symm ne_a_nb12))
  refine own_aloadN X29 hx (pc' := 46) (hb hby d8_45) rfl rfl rfl ?_
  refine own_aloadN X29 hx (pc' := 47) (hb hby d8_46) rfl rfl rfl ?_
  refine own_getF X29 hx (pc' := 50) hZ hown (host := "") (Or.inl (Wd21 hw)) Via.refl e29 F40 (hb hby d8_47) rfl (fun T47 X47 e47 => ?_)
  refine own_iloadN X47 hx (pc' := 51) (hb hby d8_50) rfl rfl ?_
  refine own_callS X47 hx (pc' := 54) hZ hown (Wd41 hw) (Wd42 hw) (Wd43 hw) (Wd44 hw) (by decide) (rm_copy l Z a0 hw [] nn kn (4 : Int32) h29 n0 Z31 (Or.inr (by decide)) F45) e47 1 (by decide) (by decide) (by decide) (by decide) [(.ref nn), (.int (4 : Int32))] [(.ref a)] (by rw [hml]; rfl) (lenOf pd_1 rfl) rfl rfl (Nat.le_of_eq rfl) (hb hby d8_51) rfl (fun v48 T48 L48 X48 hQ48 => ?_)
  obtain ⟨nb48, k48, rfl, gs48, Nq48, K48, V48⟩ := hQ48
  have N49 := Fr.app N30 Nq48
  have ne_a_nb48 : a ≠ nb48 := Nat.ne_of_lt (Nat.lt_of_lt_of_le F33.lt gs48)
  have ne_b1_nb48 : b1 ≠ nb48 := Nat.ne_of_lt (Nat.lt_of_lt_of_le F42.lt gs48)
  have ne_b2_nb48 : b2 ≠ nb48 := Nat.ne_of_lt (Nat.lt_of_lt_of_le F43.lt gs48)
  have ne_b3_nb48 : b3 ≠ nb48 := Nat.ne_of_lt (Nat.lt_of_lt_of_le F44.lt gs48)
  have ne_nn_nb48 : nn ≠ nb48 := Nat.ne_of_lt (Nat.lt_of_lt_of_le F45.lt gs48)
  have ne_nb12_nb48 : nb12 ≠ nb48 := Nat.ne_of_lt (Nat.lt_of_lt_of_le F46.lt gs48)
  have ge_nb48 : n0 ≤ nb48 := Nat.le_trans Z31 gs48
  have gk_nb48 : h0.size ≤ nb48 := Nat.le_trans K32.1 gs48
  have Z50 : n0 ≤ T48.heap.size := Nat.le_trans Z31 K48.1
  have K51 : Keep h0 T48.heap [a, b1, b2, b3] := Keep.trans K32 K48 all0
  have F52 := (Exa.keep F33 K48)
  have F53 := (F34.keep K48 nin0)
  have F54 := (F35.keep K48 nin0)
  have F55 := (F36.keep K48 nin0)
  have F56 := (F37.keep K48 nin0)
  have F57 := (F38.keep K48 nin0)
  have F58 := (F39.keep K48 nin0)
  have F59 := (F40.keep K48 nin0)
  have F60 := (F41.keep K48 nin0)
  have F61 := (F42.keep K48 nin0)
  have F62 := (F43.keep K48 nin0)
  have F63 := (F44.keep K48 nin0)
  have F64 := (F45.keep K48 nin0)
  have F65 := (F46.keep K48 nin0)
  show own_G p.tables e below _ T48 (mkF m 54 #[.val (.ref a), .val (.int (1 : Int32)), .val (.int bt), .val (.int (4 : Int32))] [(.ref nb48), (.ref a)])
  refine own_putF X48 hx (pc' := 57) hZ (ty := (.array .int)) hown (host := "") (Or.inl (Wd21 hw)) Via.refl rfl F59 F52 (Or.inl (Wd22 hw)) (Wd3 hw) (by decide) rfl rfl (hb hby d8_54) rfl (fun T66 h66 X66 e66 W66 => ?_)
  have N67 := Fr.snoc X66 N49 g_a
  have Z68 : n0 ≤ h66.size := Nat.le_trans Z50 (Nat.le_of_eq (Wr.size W66).symm)
  have K69 : Keep h0 h66 [a, b1, b2, b3] := K51.wr W66 (Or.inl (List.mem_of_getElem? (i := 0) rfl))
  have F70 := (Exa.wr W66 F52)
  have F71 := (Fld.other W66 F53 (Or.inr (slot_ne (Or.inl (Wd33 hw)) (Or.inl (Wd22 hw)) (by decide) (t := .int) (t' := (.array .int)) (by decide) (by decide))))
  have F72 := (Fld.other W66 F54 (Or.inr (slot_ne (Or.inl (Wd14 hw)) (Or.inl (Wd22 hw)) (by decide) (t := (.array .int)) (t' := (.array .int)) (by decide) (by decide))))
  have F73 := (Fld.other W66 F55 (Or.inr (slot_ne (Or.inl (Wd16 hw)) (Or.inl (Wd22 hw)) (by decide) (t := (.array .int)) (t' := (.array .int)) (by decide) (by decide))))
  have F74 := (Fld.other W66 F56 (Or.inr (slot_ne (Or.inl (Wd18 hw)) (Or.inl (Wd22 hw)) (by decide) (t := (.array .int)) (t' := (.array .int)) (by decide) (by decide))))
  have F75 := (Fld.other W66 F57 (Or.inr (slot_ne (Or.inl (Wd56 hw)) (Or.inl (Wd22 hw)) (by decide) (t := .int) (t' := (.array .int)) (by decide) (by decide))))
  have F76 := (Fld.other W66 F58 (Or.inr (slot_ne (Or.inl (Wd20 hw)) (Or.inl (Wd22 hw)) (by decide) (t := (.array .int)) (t' := (.array .int)) (by decide) (by decide))))
  have F77 := (Fld.same W66 F59)
  have F78 := (Fld.other W66 F60 (Or.inr (slot_ne (Or.inl (Wd24 hw)) (Or.inl (Wd22 hw)) (by decide) (t := (.array .int)) (t' := (.array .int)) (by decide) (by decide))))
  have F79 := (F61.other W66 (Ne.symm ea1))
  have F80 := (F62.other W66 (Ne.symm ea2))
  have F81 := (F63.other W66 (Ne.symm ea3))
  have F82 := (F64.other W66 (Ne.symm ne_a_nn))
  have F83 := (F65.other W66 (Ne.symm ne_a_nb12))
  have F84 := (V48.other W66 (Ne.symm ne_a_nb48))
  refine own_aloadN X66 hx (pc' := 58) (hb hby d8_57) rfl rfl rfl ?_
  refine own_aloadN X66 hx (pc' := 59) (hb hby d8_58) rfl rfl rfl ?_
  refine own_getF X66 hx (pc' := 62) hZ hown (host := "") (Or.inl (Wd23 hw)) Via.refl e66 F78 (hb hby d8_59) rfl (fun T85 X85 e85 => ?_)
  refine own_iloadN X85 hx (pc' := 63) (hb hby d8_62) rfl rfl ?_
  refine own_callS X85 hx (pc' := 66) hZ hown (Wd41 hw) (Wd42 hw) (Wd43 hw) (Wd44 hw) (by decide) (rm_copy l Z a0 hw [] nn kn (4 : Int32) h66 n0 Z68 (Or.inr (by decide)) F82) e85 1 (by decide) (by decide) (by decide) (by decide) [(.ref nn), (.int (4 : Int32))] [(.ref a)] (by rw [hml]; rfl) (lenOf pd_1 rfl) rfl rfl (Nat.le_of_eq rfl) (hb hby d8_63) rfl (fun v86 T86 L86 X86 hQ86 => ?_)
  obtain ⟨nb86, k86, rfl, gs86, Nq86, K86, V86⟩ := hQ86
  have N87 := Fr.app N67 Nq86
  have ne_a_nb86 : a ≠ nb86 := Nat.ne_of_lt (Nat.lt_of_lt_of_le F70.lt gs86)
  have ne_b1_nb86 : b1 ≠ nb86 := Nat.ne_of_lt (Nat.lt_of_lt_of_le F79.lt gs86)
  have ne_b2_nb86 : b2 ≠ nb86 := Nat.ne_of_lt (Nat.lt_of_lt_of_le F80.lt gs86)
  have ne_b3_nb86 : b3 ≠ nb86 := Nat.ne_of_lt (Nat.lt_of_lt_of_le F81.lt gs86)
  have ne_nn_nb86 : nn ≠ nb86 := Nat.ne_of_lt (Nat.lt_of_lt_of_le F82.lt gs86)
  have ne_nb12_nb86 : nb12 ≠ nb86 := Nat.ne_of_lt (Nat.lt_of_lt_of_le F83.lt gs86)
  have ne_nb48_nb86 : nb48 ≠ nb86 := Nat.ne_of_lt (Nat.lt_of_lt_of_le F84.lt gs86)
  have ge_nb86 : n0 ≤ nb86 := Nat.le_trans Z68 gs86
  have gk_nb86 : h0.size ≤ nb86 := Nat.le_trans K69.1 gs86
  have Z88 : n0 ≤ T86.heap.size := Nat.le_trans Z68 K86.1
  have K89 : Keep h0 T86.heap [a, b1, b2, b3] := Keep.trans K69 K86 all0
  have F90 := (Exa.keep F70 K86)
  have F91 := (F71.keep K86 nin0)
  have F92 := (F72.keep K86 nin0)
  have F93 := (F73.keep K86 nin0)
  have F94 := (F74.keep K86 nin0)
  have F95 := (F75.keep K86 nin0)
  have F96 := (F76.keep K86 nin0)
  have F97 := (F77.keep K86 nin0)
  have F98 := (F78.keep K86 nin0)
  have F99 := (F79.keep K86 nin0)
  have F100 := (F80.keep K86 nin0)
  have F101 := (F81.keep K86 nin0)
  have F102 := (F82.keep K86 nin0)
  have F103 := (F83.keep K86 nin0)
  have F104 := (F84.keep K86 nin0)
  show own_G p.tables e below _ T86 (mkF m 66 #[.val (.ref a), .val (.int (1 : Int32)), .val (.int bt), .val (.int (4 : Int32))] [(.ref nb86), (.ref a)])
  refine own_putF X86 hx (pc' := 69) hZ (ty := (.array .int)) hown (host := "") (Or.inl (Wd23 hw)) Via.refl rfl F98 F90 (Or.inl (Wd24 hw)) (Wd3 hw) (by decide) rfl rfl (hb hby d8_66) rfl (fun T105 h105 X105 e105 W105 => ?_)
  have N106 := Fr.snoc X105 N87 g_a
  have Z107 : n0 ≤ h105.size := Nat.le_trans Z88 (Nat.le_of_eq (Wr.size W105).symm)
  have K108 : Keep h0 h105 [a, b1, b2, b3] := K89.wr W105 (Or.inl (List.mem_of_getElem? (i := 0) rfl))
  have F109 := (Exa.wr W105 F90)
  have F110 := (Fld.other W105 F91 (Or.inr (slot_ne (Or.inl (Wd33 hw)) (Or.inl (Wd24 hw)) (by decide) (t := .int) (t' := (.array .int)) (by decide) (by decide))))
  have F111 := (Fld.other W105 F92 (Or.inr (slot_ne (Or.inl (Wd14 hw)) (Or.inl (Wd24 hw)) (by decide) (t := (.array .int)) (t' := (.array .int)) (by decide) (by decide))))
  have F112 := (Fld.other W105 F93 (Or.inr (slot_ne (Or.inl (Wd16 hw)) (Or.inl (Wd24 hw)) (by decide) (t := (.array .int)) (t' := (.array .int)) (by decide) (by decide))))
  have F113 := (Fld.other W105 F94 (Or.inr (slot_ne (Or.inl (Wd18 hw)) (Or.inl (Wd24 hw)) (by decide) (t := (.array .int)) (t' := (.array .int)) (by decide) (by decide))))
  have F114 := (Fld.other W105 F95 (Or.inr (slot_ne (Or.inl (Wd56 hw)) (Or.inl (Wd24 hw)) (by decide) (t := .int) (t' := (.array .int)) (by decide) (by decide))))
  have F115 := (Fld.other W105 F96 (Or.inr (slot_ne (Or.inl (Wd20 hw)) (Or.inl (Wd24 hw)) (by decide) (t := (.array .int)) (t' := (.array .int)) (by decide) (by decide))))
  have F116 := (Fld.other W105 F97 (Or.inr (slot_ne (Or.inl (Wd22 hw)) (Or.inl (Wd24 hw)) (by decide) (t := (.array .int)) (t' := (.array .int)) (by decide) (by decide))))
  have F117 := (Fld.same W105 F98)
  have F118 := (F99.other W105 (Ne.symm ea1))
  have F119 := (F100.other W105 (Ne.symm ea2))
  have F120 := (F101.other W105 (Ne.symm ea3))
  have F121 := (F102.other W105 (Ne.symm ne_a_nn))
  have F122 := (F103.other W105 (Ne.symm ne_a_nb12))
  have F123 := (F104.other W105 (Ne.symm ne_a_nb48))
  have F124 := (V86.other W105 (Ne.symm ne_a_nb86))
  refine own_aloadN X105 hx (pc' := 70) (hb hby d8_69) rfl rfl rfl ?_
  refine own_getF X105 hx (pc' := 73) hZ hown (host := "") (Or.inl (Wd19 hw)) Via.refl e105 F115 (hb hby d8_70) rfl (fun T125 X125 e125 => ?_)
  refine own_aloadN X125 hx (pc' := 74) (hb hby d8_73) rfl rfl rfl ?_
  refine own_getF X125 hx (pc' := 77) hZ hown (host := "") (Or.inl (Wd55 hw)) Via.refl e125 F114 (hb hby d8_74) rfl (fun T126 X126 e126 => ?_)
  refine own_aloadN X126 hx (pc' := 78) (hb hby d8_77) rfl rfl rfl ?_
  refine own_getF X126 hx (pc' := 81) hZ hown (host := "") (Or.inl (Wd13 hw)) Via.refl e126 F111 (hb hby d8_78) rfl (fun T127 X127 e127 => ?_)
  refine own_iloadN X127 hx (pc' := 82) (hb hby d8_81) rfl rfl ?_
  have hi128 : ¬ (1 : Int32) < 0 ∧ (1 : Int32) < z := ⟨by decide, by rw [Int32.lt_iff_toInt_lt, own_t32_1]; omega⟩
  obtain ⟨cl129, Ar129, q129, S129, M129, H129, G129⟩ := id F118
  refine own_iaload X127 hx (pc' := 83) hZ (v := x1) e127 Ar129 (inb_of S129 hi128) (Has.at H129 (inb_of S129 hi128) rfl) (hb hby d8_82) rfl ?_
  obtain ⟨cl130, Ar130, q130, S130, M130, H130, G130⟩ := id F122
  refine own_stI X127 hx (pc' := 84) hZ e127 Ar130 (inb_of S130 ⟨by decide, by decide⟩) (hb hby d8_83) rfl (fun T131 h131 X131 e131 W131 => ?_)
  have N132 := Fr.snoc X131 N106 ge_nb12
  have Z133 : n0 ≤ h131.size := Nat.le_trans Z107 (Nat.le_of_eq (Wr.size W131).symm)
  have K134 : Keep h0 h131 [a, b1, b2, b3] := K108.wr W131 (Or.inr gk_nb12)
  have F135 := (Exa.wr W131 F109)
  have F136 := (Fld.other W131 F110 (Or.inl ne_a_nb12))
  have F137 := (Fld.other W131 F111 (Or.inl ne_a_nb12))
  have F138 := (Fld.other W131 F112 (Or.inl ne_a_nb12))
  have F139 := (Fld.other W131 F113 (Or.inl ne_a_nb12))
  have F140 := (Fld.other W131 F114 (Or.inl ne_a_nb12))
  have F141 := (Fld.other W131 F115 (Or.inl ne_a_nb12))
  have F142 := (Fld.other W131 F116 (Or.inl ne_a_nb12))
  have F143 := (Fld.other W131 F117 (Or.inl ne_a_nb12))
  have F144 := (F118.other W131 ne_b1_nb12)
  have F145 := (F119.other W131 ne_b2_nb12)
  have F146 := (F120.other W131 ne_b3_nb12)
  have F147 := (F121.other W131 ne_nn_nb12)
  have F148 : Arv Z h131 nb12 k12 .int (4 : Int32) [(.int x1), (.int (0 : Int32)), (.int (0 : Int32))] (.int (0 : Int32)) := (Arv.set Ar130 q130 S130 M130 H130 G130 rfl W131 0 rfl (Nat.le_of_ble_eq_true rfl))
  have F149 := (F123.other W131 (Ne.symm ne_nb12_nb48))
  have F150 := (F124.other W131 (Ne.symm ne_nb12_nb86))
  refine own_aloadN X131 hx (pc' := 85) (hb hby d8_84) rfl rfl rfl ?_
  refine own_getF X131 hx (pc' := 88) hZ hown (host := "") (Or.inl (Wd21 hw)) Via.refl e131 F142 (hb hby d8_85) rfl (fun T151 X151 e151 => ?_)
  refine own_aloadN X151 hx (pc' := 89) (hb hby d8_88) rfl rfl rfl ?_
  refine own_getF X151 hx (pc' := 92) hZ hown (host := "") (Or.inl (Wd55 hw)) Via.refl e151 F140 (hb hby d8_89) rfl (fun T152 X152 e152 => ?_)
  refine own_aloadN X152 hx (pc' := 93) (hb hby d8_92) rfl rfl rfl ?_
  refine own_getF X152 hx (pc' := 96) hZ hown (host := "") (Or.inl (Wd15 hw)) Via.refl e152 F138 (hb hby d8_93) rfl (fun T153 X153 e153 => ?_)
  refine own_iloadN X153 hx (pc' := 97) (hb hby d8_96) rfl rfl ?_
  have hi154 : ¬ (1 : Int32) < 0 ∧ (1 : Int32) < z := ⟨by decide, by rw [Int32.lt_iff_toInt_lt, own_t32_1]; omega⟩
  obtain ⟨cl155, Ar155, q155, S155, M155, H155, G155⟩ := id F145
  refine own_iaload X153 hx (pc' := 98) hZ (v := u1) e153 Ar155 (inb_of S155 hi154) (Has.at H155 (inb_of S155 hi154) rfl) (hb hby d8_97) rfl ?_
  refine own_iconst X153 hx (pc' := 99) (1 : Int32) (hb hby d8_98) rfl rfl ?_
  refine own_isub X153 hx (pc' := 100) (hb hby d8_99) rfl rfl ?_
  obtain ⟨cl156, Ar156, q156, S156, M156, H156, G156⟩ := id F149
  refine own_stI X153 hx (pc' := 101) hZ e153 Ar156 (inb_of S156 ⟨by decide, by decide⟩) (hb hby d8_100) rfl (fun T157 h157 X157 e157 W157 => ?_)
  have N158 := Fr.snoc X157 N132 ge_nb48
  have Z159 : n0 ≤ h157.size := Nat.le_trans Z133 (Nat.le_of_eq (Wr.size W157).symm)
  have K160 : Keep h0 h157 [a, b1, b2, b3] := K134.wr W157 (Or.inr gk_nb48)
  have F161 := (Exa.wr W157 F135)
  have F162 := (Fld.other W157 F136 (Or.inl ne_a_nb48))
  have F163 := (Fld.other W157 F137 (Or.inl ne_a_nb48))
  have F164 := (Fld.other W157 F138 (Or.inl ne_a_nb48))
  have F165 := (Fld.other W157 F139 (Or.inl ne_a_nb48))
  have F166 := (Fld.other W157 F140 (Or.inl ne_a_nb48))
  have F167 := (Fld.other W157 F141 (Or.inl ne_a_nb48))
  have F168 := (Fld.other W157 F142 (Or.inl ne_a_nb48))
  have F169 := (Fld.other W157 F143 (Or.inl ne_a_nb48))
  have F170 := (F144.other W157 ne_b1_nb48)
  have F171 := (F145.other W157 ne_b2_nb48)
  have F172 := (F146.other W157 ne_b3_nb48)
  have F173 := (F147.other W157 ne_nn_nb48)
  have F174 := (F148.other W157 ne_nb12_nb48)
  have F175 : Arv Z h157 nb48 k48 .int (4 : Int32) [(.int (u1 - (1 : Int32))), (.int (0 : Int32)), (.int (0 : Int32))] (.int (0 : Int32)) := (Arv.set Ar156 q156 S156 M156 H156 G156 rfl W157 0 rfl (Nat.le_of_ble_eq_true rfl))
  have F176 := (F150.other W157 (Ne.symm ne_nb48_nb86))
  refine own_aloadN X157 hx (pc' := 102) (hb hby d8_101) rfl rfl rfl ?_
  refine own_getF X157 hx (pc' := 105) hZ hown (host := "") (Or.inl (Wd23 hw)) Via.refl e157 F169 (hb hby d8_102) rfl (fun T177 X177 e177 => ?_)
  refine own_aloadN X177 hx (pc' := 106) (hb hby d8_105) rfl rfl rfl ?_
  refine own_getF X177 hx (pc' := 109) hZ hown (host := "") (Or.inl (Wd55 hw)) Via.refl e177 F166 (hb hby d8_106) rfl (fun T178 X178 e178 => ?_)
  refine own_iloadN X178 hx (pc' := 110) (hb hby d8_109) rfl rfl ?_
  obtain ⟨cl179, Ar179, q179, S179, M179, H179, G179⟩ := id F176
  refine own_stI X178 hx (pc' := 111) hZ e178 Ar179 (inb_of S179 ⟨by decide, by decide⟩) (hb hby d8_110) rfl (fun T180 h180 X180 e180 W180 => ?_)
  have N181 := Fr.snoc X180 N158 ge_nb86
  have Z182 : n0 ≤ h180.size := Nat.le_trans Z159 (Nat.le_of_eq (Wr.size W180).symm)
  have K183 : Keep h0 h180 [a, b1, b2, b3] := K160.wr W180 (Or.inr gk_nb86)
  have F184 := (Exa.wr W180 F161)
  have F185 := (Fld.other W180 F162 (Or.inl ne_a_nb86))
  have F186 := (Fld.other W180 F163 (Or.inl ne_a_nb86))
  have F187 := (Fld.other W180 F164 (Or.inl ne_a_nb86))
  have F188 := (Fld.other W180 F165 (Or.inl ne_a_nb86))
  have F189 := (Fld.other W180 F166 (Or.inl ne_a_nb86))
  have F190 := (Fld.other W180 F167 (Or.inl ne_a_nb86))
  have F191 := (Fld.other W180 F168 (Or.inl ne_a_nb86))
  have F192 := (Fld.other W180 F169 (Or.inl ne_a_nb86))
  have F193 := (F170.other W180 ne_b1_nb86)
  have F194 := (F171.other W180 ne_b2_nb86)
  have F195 := (F172.other W180 ne_b3_nb86)
  have F196 := (F173.other W180 ne_nn_nb86)
  have F197 := (F174.other W180 ne_nb12_nb86)
  have F198 := (F175.other W180 ne_nb48_nb86)
  have F199 : Arv Z h180 nb86 k86 .int (4 : Int32) [(.int bt), (.int (0 : Int32)), (.int (0 : Int32))] (.int (0 : Int32)) := (Arv.set Ar179 q179 S179 M179 H179 G179 rfl W180 0 rfl (Nat.le_of_ble_eq_true rfl))
  refine own_aloadN X180 hx (pc' := 112) (hb hby d8_111) rfl rfl rfl ?_
  refine own_dup X180 hx (pc' := 113) (hb hby d8_112) rfl rfl ?_
  refine own_getF X180 hx (pc' := 116) hZ hown (host := "") (Or.inl (Wd55 hw)) Via.refl e180 F189 (hb hby d8_113) rfl (fun T200 X200 e200 => ?_)
  refine own_iconst X200 hx (pc' := 117) (1 : Int32) (hb hby d8_116) rfl rfl ?_
  refine own_iadd X200 hx (pc' := 118) (z := (1 : Int32)) (hb hby d8_117) (by decide) rfl ?_
  refine own_putF X200 hx (pc' := 121) hZ (ty := .int) hown (host := "") (Or.inl (Wd55 hw)) Via.refl e200 F189 F184 (Or.inl (Wd56 hw)) (Wd3 hw) (by decide) rfl rfl (hb hby d8_118) rfl (fun T201 h201 X201 e201 W201 => ?_)
  have N202 := Fr.snoc X201 N181 g_a
  have Z203 : n0 ≤ h201.size := Nat.le_trans Z182 (Nat.le_of_eq (Wr.size W201).symm)
  have K204 : Keep h0 h201 [a, b1, b2, b3] := K183.wr W201 (Or.inl (List.mem_of_getElem? (i := 0) rfl))
  have F205 := (Exa.wr W201 F184)
  have F206 := (Fld.other W201 F185 (Or.inr (slot_ne (Or.inl (Wd33 hw)) (Or.inl (Wd56 hw)) (by decide) (t := .int) (t' := .int) (by decide) (by decide))))
  have F207 := (Fld.other W201 F186 (Or.inr (slot_ne (Or.inl (Wd14 hw)) (Or.inl (Wd56 hw)) (by decide) (t := (.array .int)) (t' := .int) (by decide) (by decide))))
  have F208 := (Fld.other W201 F187 (Or.inr (slot_ne (Or.inl (Wd16 hw)) (Or.inl (Wd56 hw)) (by decide) (t := (.array .int)) (t' := .int) (by decide) (by decide))))
  have F209 := (Fld.other W201 F188 (Or.inr (slot_ne (Or.inl (Wd18 hw)) (Or.inl (Wd56 hw)) (by decide) (t := (.array .int)) (t' := .int) (by decide) (by decide))))
  have F210 := (Fld.same W201 F189)
  have F211 := (Fld.other W201 F190 (Or.inr (slot_ne (Or.inl (Wd20 hw)) (Or.inl (Wd56 hw)) (by decide) (t := (.array .int)) (t' := .int) (by decide) (by decide))))
  have F212 := (Fld.other W201 F191 (Or.inr (slot_ne (Or.inl (Wd22 hw)) (Or.inl (Wd56 hw)) (by decide) (t := (.array .int)) (t' := .int) (by decide) (by decide))))
  have F213 := (Fld.other W201 F192 (Or.inr (slot_ne (Or.inl (Wd24 hw)) (Or.inl (Wd56 hw)) (by decide) (t := (.array .int)) (t' := .int) (by decide) (by decide))))
  have F214 := (F193.other W201 (Ne.symm ea1))
  have F215 := (F194.other W201 (Ne.symm ea2))
  have F216 := (F195.other W201 (Ne.symm ea3))
  have F217 := (F196.other W201 (Ne.symm ne_a_nn))
  have F218 := (F197.other W201 (Ne.symm ne_a_nb12))
  have F219 := (F198.other W201 (Ne.symm ne_a_nb48))
  have F220 := (F199.other W201 (Ne.symm ne_a_nb86))
  refine own_aloadN X201 hx (pc' := 122) (hb hby d8_121) rfl rfl rfl ?_
  refine own_iloadN X201 hx (pc' := 123) (hb hby d8_122) rfl rfl ?_
  refine own_callV X201 hx (pc' := 126) hZ hown (Wd62 hw) (Wd64 hw) (Wd65 hw) (Wd66 hw) (Wd4 hw) (by decide) (rm_rem21 l Z a0 hw [] a b1 b2 b3 k1 k2 k3 z x0 x1 x2 u0 u1 u2 t0 t1 t2 nb12 nb48 nb86 (1 : Int32) h201 n0 Z203 hz g_a g_b1 g_b2 g_b3 dj12 dj13 dj23 F205 F206 F207 F208 F209 F214 F215 F216 F210 F211 F212 F213) e201 F205 0 (by decide) (by decide) (by decide) (by decide) [(.int (1 : Int32))] [] (by rw [hml]; rfl) (lenOf pd_2 rfl) rfl rfl (Nat.le_of_eq rfl) (hb hby d8_123) rfl (fun v221 T221 L221 X221 hQ221 => ?_)
  obtain ⟨rfl, Nq221, K221, Gc221, Gp221, Gu221, Gt221, Va221, Vb221, Vc221, Xa221, Xb221, Xc221, Xd221⟩ := hQ221
  have N222 := Fr.app N202 Nq221
  have Z223 : n0 ≤ T221.heap.size := Nat.le_trans Z203 K221.1
  have K224 : Keep h0 T221.heap [a, b1, b2, b3] := Keep.trans K204 K221 (allS (Or.inl (List.mem_of_getElem? (i := 0) rfl)) (allS (Or.inl (List.mem_of_getElem? (i := 1) rfl)) (allS (Or.inl (List.mem_of_getElem? (i := 2) rfl)) (allS (Or.inl (List.mem_of_getElem? (i := 3) rfl)) all0))))
  have F225 := (Exa.keep F205 K221)
  have F226 := (F218.keep K221 (ninS (Ne.symm ne_a_nb12) (ninS (Ne.symm ne_b1_nb12) (ninS (Ne.symm ne_b2_nb12) (ninS (Ne.symm ne_b3_nb12) nin0)))))
  have F227 := (F219.keep K221 (ninS (Ne.symm ne_a_nb48) (ninS (Ne.symm ne_b1_nb48) (ninS (Ne.symm ne_b2_nb48) (ninS (Ne.symm ne_b3_nb48) nin0)))))
  have F228 := (F220.keep K221 (ninS (Ne.symm ne_a_nb86) (ninS (Ne.symm ne_b1_nb86) (ninS (Ne.symm ne_b2_nb86) (ninS (Ne.symm ne_b3_nb86) nin0)))))
  show own_G p.tables e below _ T221 (mkF m 126 #[.val (.ref a), .val (.int (1 : Int32)), .val (.int bt), .val (.int (4 : Int32))] [])
  refine own_retV X221 hx hlk hret (hb hby d8_126) (by decide) (by decide) ?_
  exact ⟨rfl, N222, K224, Gc221, Gu221, Vb221, nb12, nb48, nb86, _, _, _, ⟨gk_nb12, gk_nb48, gk_nb86⟩, ⟨ne_nb12_nb48, ne_nb12_nb86, ne_nb48_nb86⟩, Xa221, Xb221, Xc221, Xd221, F226, F227, F228⟩

def QrsN30 (Z : State) (a b1 b2 b3 : Addr) (k1 k2 k3 : ClassId) (z x0 x1 x2 u0 u1 u2 t0 t1 t2 : Int32) (nn : Addr) (kn : ClassId) (bt : Int32) (h0 : Heap) (n0 : Nat) (v : Option Value) (h : Heap) (L : List Loc) : Prop := v = none ∧ Fr n0 L ∧ Keep h0 h [a, b1, b2, b3] ∧ Fld Z h a "com/example/rootcast/rootcast/tree/Children" "count" "I" (.int (2 : Int32)) ∧ Fld Z h a "com/example/rootcast/rootcast/tree/Children" "subtree" "[I" (.ref b2) ∧ Arv Z h b2 k2 .int z [(.int u1), (.int u2), (.int u2)] (.int (0 : Int32)) ∧ Fld Z h a "com/example/rootcast/rootcast/tree/Children" "awaited" "I" (.int (0 : Int32))
theorem ef_rm_rsN30 (m : MethodId) (x0 : Addr) (x1 : Int32) (x2 : Int32) : entryFrame m #[(.ref x0), (.int x1), (.int x2)] 4 = mkF m 0 #[.val (.ref x0), .val (.int x1), .val (.int x2), .unset] [] := by first | (simp [entryFrame, mkF, argsToLocals, Value.category, maxLocals]; done) | rfl
set_option maxRecDepth 65536 in
set_option maxHeartbeats 40000000 in
theorem rm_rsN30 (l : Launch) (Z : State) (a0 : Array Value) (hw : ∀ d ∈ tables_1, d.before a0 Z = true) (ws : List Jvm.Cond) (a b1 b2 b3 : Addr) (k1 k2 k3 : ClassId) (z x0 x1 x2 u0 u1 u2 t0 t1 t2 : Int32) (nn : Addr) (kn : ClassId) (bt : Int32) (h0 : Heap) (n0 : Nat) (Z0 : n0 ≤ h0.size) (hz : z.toInt = 3 ∨ z.toInt = 4) (g_a : n0 ≤ a) (g_b1 : n0 ≤ b1) (g_b2 : n0 ≤ b2) (g_b3 : n0 ≤ b3) (dj12 : b1 ≠ b2) (dj13 : b1 ≠ b3) (dj23 : b2 ≠ b3) (hgt : ¬ (1 : Int32) < u0) (E_a : Exa Z h0 a "com/example/rootcast/rootcast/tree/Children") (F_c : Fld Z h0 a "com/example/rootcast/rootcast/tree/Children" "count" "I" (.int (3 : Int32))) (F_p : Fld Z h0 a "com/example/rootcast/rootcast/tree/Children" "peers" "[I" (.ref b1)) (F_u : Fld Z h0 a "com/example/rootcast/rootcast/tree/Children" "subtree" "[I" (.ref b2)) (F_t : Fld Z h0 a "com/example/rootcast/rootcast/tree/Children" "sent" "[I" (.ref b3)) (X_awaited : Fld Z h0 a "com/example/rootcast/rootcast/tree/Children" "awaited" "I" (.int (0 : Int32))) (X_stopped : Fld Z h0 a "com/example/rootcast/rootcast/tree/Children" "stopped" "[I" (.ref nn)) (X_toCome : Fld Z h0 a "com/example/rootcast/rootcast/tree/Children" "toCome" "[I" (.ref nn)) (X_beatsLeft : Fld Z h0 a "com/example/rootcast/rootcast/tree/Children" "beatsLeft" "[I" (.ref nn)) (V_1 : Arv Z h0 b1 k1 .int z [(.int x0), (.int x1), (.int x2)] (.int (0 : Int32))) (V_2 : Arv Z h0 b2 k2 .int z [(.int u0), (.int u1), (.int u2)] (.int (0 : Int32))) (V_3 : Arv Z h0 b3 k3 .int z [(.int t0), (.int t1), (.int t2)] (.int (0 : Int32))) (V_n : Arv Z h0 nn kn .int (0 : Int32) [] (.int (0 : Int32))) :
    MetFree l (⟨"com/example/rootcast/rootcast/tree/Children", "removeStopped", "(II)V"⟩ : MethodName) (head1 (Jvm.Cond.code (⟨"com/example/rootcast/rootcast/tree/Children", "removeStopped", "(II)V"⟩ : MethodName) prog_127_method_9_code 4 none :: ws) ({ frames := 2, cells := 0, slots := 0, locals := 34 } : Room)) (fun aa U => aa = #[(.ref a), (.int (0 : Int32)), (.int bt)] ∧ Z.Warmed39 U.vm ∧ U.heap = h0) (fun _ _ _ _ _ => True) (fun _ U o U' => ∃ v L, o = .returned v ∧ QrsN30 Z a b1 b2 b3 k1 k2 k3 z x0 x1 x2 u0 u1 u2 t0 t1 t2 nn kn bt h0 n0 v U'.heap L ∧ FrameEnd U o U' L (({ frames := 2, cells := 0, slots := 0, locals := 34 } : Room).cells) (({ frames := 2, cells := 0, slots := 0, locals := 34 } : Room).slots)) := by
  refine own_body pf_10 ?_
  intro p e s m below meth c s₁ hx hby hml hown hnm hlk hret hZ X0 e0
  have N0 : Fr n0 [] := Fr.nil n0
  refine own_go (f' := (mkF m 0 #[.val (.ref a), .val (.int (0 : Int32)), .val (.int bt), .unset] [])) (fun t k => castTop (ef_rm_rsN30 m a (0 : Int32) bt) k) ?_
  have ea1 : a ≠ b1 := by obtain ⟨c1, A1, -⟩ := V_1; exact ne_arr E_a (Wd3 hw) A1
  have ea2 : a ≠ b2 := by obtain ⟨c1, A1, -⟩ := V_2; exact ne_arr E_a (Wd3 hw) A1
  have ea3 : a ≠ b3 := by obtain ⟨c1, A1, -⟩ := V_3; exact ne_arr E_a (Wd3 hw) A1
  have ne_a_nn : a ≠ nn := by obtain ⟨q1, A1, -⟩ := id V_n; exact ne_arr E_a (Wd3 hw) A1
  have hzn : ¬ z < 0 := by rw [Int32.lt_iff_toInt_lt]; show ¬ z.toInt < 0; omega
  have hz3 : 3 ≤ z.toNatClampNeg := by have := nat_of hzn; omega
  have K1 : Keep h0 h0 [a, b1, b2, b3] := Keep.refl _ _
  refine own_aloadN X0 hx (pc' := 1) (hb hby d8_0) rfl rfl rfl ?_
  refine own_getF X0 hx (pc' := 4) hZ hown (host := "") (Or.inl (Wd15 hw)) Via.refl e0 F_u (hb hby d8_1) rfl (fun T2 X2 e2 => ?_)
  refine own_iloadN X2 hx (pc' := 5) (hb hby d8_4) rfl rfl ?_
  have hi3 : ¬ (0 : Int32) < 0 ∧ (0 : Int32) < z := ⟨by decide, by rw [Int32.lt_iff_toInt_lt, own_t32_0]; omega⟩
  obtain ⟨cl4, Ar4, q4, S4, M4, H4, G4⟩ := id V_2
  refine own_iaload X2 hx (pc' := 6) hZ (v := u0) e2 Ar4 (inb_of S4 hi3) (Has.at H4 (inb_of S4 hi3) rfl) (hb hby d8_5) rfl ?_
  refine own_iconst X2 hx (pc' := 7) (1 : Int32) (hb hby d8_6) rfl rfl ?_
  refine own_icmpYes X2 hx (pc' := 121) (hb hby d8_7) (flt hgt).2.2.2 (by decide) (by decide) ?_
  refine own_aloadN X2 hx (pc' := 122) (hb hby d8_121) rfl rfl rfl ?_
  refine own_iloadN X2 hx (pc' := 123) (hb hby d8_122) rfl rfl ?_
  refine own_callV X2 hx (pc' := 126) hZ hown (Wd62 hw) (Wd64 hw) (Wd65 hw) (Wd66 hw) (Wd4 hw) (by decide) (rm_rem30 l Z a0 hw [] a b1 b2 b3 k1 k2 k3 z x0 x1 x2 u0 u1 u2 t0 t1 t2 nn nn nn (0 : Int32) h0 n0 Z0 hz g_a g_b1 g_b2 g_b3 dj12 dj13 dj23 E_a F_c F_p F_u F_t V_1 V_2 V_3 X_awaited X_stopped X_toCome X_beatsLeft) e2 E_a 0 (by decide) (by decide) (by decide) (by decide) [(.int (0 : Int32))] [] (by rw [hml]; rfl) (lenOf pd_2 rfl) rfl rfl (Nat.le_of_eq rfl) (hb hby d8_123) rfl (fun v5 T5 L5 X5 hQ5 => ?_)
  obtain ⟨rfl, Nq5, K5, Gc5, Gp5, Gu5, Gt5, Va5, Vb5, Vc5, Xa5, Xb5, Xc5, Xd5⟩ := hQ5
  have N6 := Fr.app N0 Nq5
  have Z7 : n0 ≤ T5.heap.size := Nat.le_trans Z0 K5.1
  have K8 : Keep h0 T5.heap [a, b1, b2, b3] := Keep.trans K1 K5 (allS (Or.inl (List.mem_of_getElem? (i := 0) rfl)) (allS (Or.inl (List.mem_of_getElem? (i := 1) rfl)) (allS (Or.inl (List.mem_of_getElem? (i := 2) rfl)) (allS (Or.inl (List.mem_of_getElem? (i := 3) rfl)) all0))))
  have F9 := (Exa.keep E_a K5)
  show own_G p.tables e below _ T5 (mkF m 126 #[.val (.ref a), .val (.int (0 : Int32)), .val (.int bt), .unset] [])
  refine own_retV X5 hx hlk hret (hb hby d8_126) (by decide) (by decide) ?_
  exact ⟨rfl, N6, K8, Gc5, Gu5, Vb5, Xa5⟩

def QrsA30 (Z : State) (a b1 b2 b3 : Addr) (k1 k2 k3 : ClassId) (z x0 x1 x2 u0 u1 u2 t0 t1 t2 : Int32) (nn : Addr) (kn : ClassId) (bt : Int32) (h0 : Heap) (n0 : Nat) (v : Option Value) (h : Heap) (L : List Loc) : Prop := v = none ∧ Fr n0 L ∧ Keep h0 h [a, b1, b2, b3] ∧ Fld Z h a "com/example/rootcast/rootcast/tree/Children" "count" "I" (.int (2 : Int32)) ∧ Fld Z h a "com/example/rootcast/rootcast/tree/Children" "subtree" "[I" (.ref b2) ∧ Arv Z h b2 k2 .int z [(.int u1), (.int u2), (.int u2)] (.int (0 : Int32)) ∧ ∃ (c1 c2 c3 : Addr) (j1 j2 j3 : ClassId), (h0.size ≤ c1 ∧ h0.size ≤ c2 ∧ h0.size ≤ c3) ∧ (c1 ≠ c2 ∧ c1 ≠ c3 ∧ c2 ≠ c3) ∧ Fld Z h a "com/example/rootcast/rootcast/tree/Children" "awaited" "I" (.int (1 : Int32)) ∧ Fld Z h a "com/example/rootcast/rootcast/tree/Children" "stopped" "[I" (.ref c1) ∧ Fld Z h a "com/example/rootcast/rootcast/tree/Children" "toCome" "[I" (.ref c2) ∧ Fld Z h a "com/example/rootcast/rootcast/tree/Children" "beatsLeft" "[I" (.ref c3) ∧ Arv Z h c1 j1 .int (4 : Int32) [(.int x0), (.int (0 : Int32)), (.int (0 : Int32))] (.int (0 : Int32)) ∧ Arv Z h c2 j2 .int (4 : Int32) [(.int (u0 - (1 : Int32))), (.int (0 : Int32)), (.int (0 : Int32))] (.int (0 : Int32)) ∧ Arv Z h c3 j3 .int (4 : Int32) [(.int bt), (.int (0 : Int32)), (.int (0 : Int32))] (.int (0 : Int32))
theorem ef_rm_rsA30 (m : MethodId) (x0 : Addr) (x1 : Int32) (x2 : Int32) : entryFrame m #[(.ref x0), (.int x1), (.int x2)] 4 = mkF m 0 #[.val (.ref x0), .val (.int x1), .val (.int x2), .unset] [] := by first | (simp [entryFrame, mkF, argsToLocals, Value.category, maxLocals]; done) | rfl
set_option maxRecDepth 65536 in
set_option maxHeartbeats 40000000 in
theorem rm_rsA30 (l : Launch) (Z : State) (a0 : Array Value) (hw : ∀ d ∈ tables_1, d.before a0 Z = true) (ws : List Jvm.Cond) (a b1 b2 b3 : Addr) (k1 k2 k3 : ClassId) (z x0 x1 x2 u0 u1 u2 t0 t1 t2 : Int32) (nn : Addr) (kn : ClassId) (bt : Int32) (h0 : Heap) (n0 : Nat) (Z0 : n0 ≤ h0.size) (hz : z.toInt = 3 ∨ z.toInt = 4) (g_a : n0 ≤ a) (g_b1 : n0 ≤ b1) (g_b2 : n0 ≤ b2) (g_b3 : n0 ≤ b3) (dj12 : b1 ≠ b2) (dj13 : b1 ≠ b3) (dj23 : b2 ≠ b3) (hgt : (1 : Int32) < u0) (E_a : Exa Z h0 a "com/example/rootcast/rootcast/tree/Children") (F_c : Fld Z h0 a "com/example/rootcast/rootcast/tree/Children" "count" "I" (.int (3 : Int32))) (F_p : Fld Z h0 a "com/example/rootcast/rootcast/tree/Children" "peers" "[I" (.ref b1)) (F_u : Fld Z h0 a "com/example/rootcast/rootcast/tree/Children" "subtree" "[I" (.ref b2)) (F_t : Fld Z h0 a "com/example/rootcast/rootcast/tree/Children" "sent" "[I" (.ref b3)) (X_awaited : Fld Z h0 a "com/example/rootcast/rootcast/tree/Children" "awaited" "I" (.int (0 : Int32))) (X_stopped : Fld Z h0 a "com/example/rootcast/rootcast/tree/Children" "stopped" "[I" (.ref nn)) (X_toCome : Fld Z h0 a "com/example/rootcast/rootcast/tree/Children" "toCome" "[I" (.ref nn)) (X_beatsLeft : Fld Z h0 a "com/example/rootcast/rootcast/tree/Children" "beatsLeft" "[I" (.ref nn)) (V_1 : Arv Z h0 b1 k1 .int z [(.int x0), (.int x1), (.int x2)] (.int (0 : Int32))) (V_2 : Arv Z h0 b2 k2 .int z [(.int u0), (.int u1), (.int u2)] (.int (0 : Int32))) (V_3 : Arv Z h0 b3 k3 .int z [(.int t0), (.int t1), (.int t2)] (.int (0 : Int32))) (V_n : Arv Z h0 nn kn .int (0 : Int32) [] (.int (0 : Int32))) :
    MetFree l (⟨"com/example/rootcast/rootcast/tree/Children", "removeStopped", "(II)V"⟩ : MethodName) (head1 (Jvm.Cond.code (⟨"com/example/rootcast/rootcast/tree/Children", "removeStopped", "(II)V"⟩ : MethodName) prog_127_method_9_code 4 none :: ws) ({ frames := 2, cells := 3, slots := 12, locals := 48 } : Room)) (fun aa U => aa = #[(.ref a), (.int (0 : Int32)), (.int bt)] ∧ Z.Warmed39 U.vm ∧ U.heap = h0) (fun _ _ _ _ _ => True) (fun _ U o U' => ∃ v L, o = .returned v ∧ QrsA30 Z a b1 b2 b3 k1 k2 k3 z x0 x1 x2 u0 u1 u2 t0 t1 t2 nn kn bt h0 n0 v U'.heap L ∧ FrameEnd U o U' L (({ frames := 2, cells := 3, slots := 12, locals := 48 } : Room).cells) (({ frames := 2, cells := 3, slots := 12, locals := 48 } : Room).slots)) := by
  refine own_body pf_10 ?_
  intro p e s m below meth c s₁ hx hby hml hown hnm hlk hret hZ X0 e0
  have N0 : Fr n0 [] := Fr.nil n0
  refine own_go (f' := (mkF m 0 #[.val (.ref a), .val (.int (0 : Int32)), .val (.int bt), .unset] [])) (fun t k => castTop (ef_rm_rsA30 m a (0 : Int32) bt) k) ?_
  have ea1 : a ≠ b1 := by obtain ⟨c1, A1, -⟩ := V_1; exact ne_arr E_a (Wd3 hw) A1
  have ea2 : a ≠ b2 := by obtain ⟨c1, A1, -⟩ := V_2; exact ne_arr E_a (Wd3 hw) A1
  have ea3 : a ≠ b3 := by obtain ⟨c1, A1, -⟩ := V_3; exact ne_arr E_a (Wd3 hw) A1
  have ne_a_nn : a ≠ nn := by obtain ⟨q1, A1, -⟩ := id V_n; exact ne_arr E_a (Wd3 hw) A1
  have hzn : ¬ z < 0 := by rw [Int32.lt_iff_toInt_lt]; show ¬ z.toInt < 0; omega
  have hz3 : 3 ≤ z.toNatClampNeg := by have := nat_of hzn; omega
  have K1 : Keep h0 h0 [a, b1, b2, b3] := Keep.refl _ _
  refine own_aloadN X0 hx (pc' := 1) (hb hby d8_0) rfl rfl rfl ?_
  refine own_getF X0 hx (pc' := 4) hZ hown (host := "") (Or.inl (Wd15 hw)) Via.refl e0 F_u (hb hby d8_1) rfl (fun T2 X2 e2 => ?_)
  refine own_iloadN X2 hx (pc' := 5) (hb hby d8_4) rfl rfl ?_
  have hi3 : ¬ (0 : Int32) < 0 ∧ (0 : Int32) < z := ⟨by decide, by rw [Int32.lt_iff_toInt_lt, own_t32_0]; omega⟩
  obtain ⟨cl4, Ar4, q4, S4, M4, H4, G4⟩ := id V_2
  refine own_iaload X2 hx (pc' := 6) hZ (v := u0) e2 Ar4 (inb_of S4 hi3) (Has.at H4 (inb_of S4 hi3) rfl) (hb hby d8_5) rfl ?_
  refine own_iconst X2 hx (pc' := 7) (1 : Int32) (hb hby d8_6) rfl rfl ?_
  refine own_icmpNo X2 hx (pc' := 10) (hb hby d8_7) (tlt hgt).2.2.2 rfl ?_
  refine own_aloadN X2 hx (pc' := 11) (hb hby d8_10) rfl rfl rfl ?_
  refine own_getF X2 hx (pc' := 14) hZ hown (host := "") (Or.inl (Wd55 hw)) Via.refl e2 X_awaited (hb hby d8_11) rfl (fun T5 X5 e5 => ?_)
  refine own_aloadN X5 hx (pc' := 15) (hb hby d8_14) rfl rfl rfl ?_
  refine own_getF X5 hx (pc' := 18) hZ hown (host := "") (Or.inl (Wd19 hw)) Via.refl e5 X_stopped (hb hby d8_15) rfl (fun T6 X6 e6 => ?_)
  obtain ⟨cl7, Ar7, q7, S7, M7, H7, G7⟩ := id V_n
  refine own_len X6 hx (pc' := 19) hZ e6 Ar7 S7 M7 (hb hby d8_18) rfl ?_
  refine own_icmpNo X6 hx (pc' := 22) (hb hby d8_19) (teq rfl).2 rfl ?_
  refine own_iconst X6 hx (pc' := 23) (4 : Int32) (hb hby d8_22) rfl rfl ?_
  refine own_iconst X6 hx (pc' := 24) (2 : Int32) (hb hby d8_23) rfl rfl ?_
  refine own_aloadN X6 hx (pc' := 25) (hb hby d8_24) rfl rfl rfl ?_
  refine own_getF X6 hx (pc' := 28) hZ hown (host := "") (Or.inl (Wd55 hw)) Via.refl e6 X_awaited (hb hby d8_25) rfl (fun T8 X8 e8 => ?_)
  refine own_imul X8 hx (pc' := 29) (z := (0 : Int32)) (hb hby d8_28) (by decide) rfl ?_
  refine own_callS X8 hx (pc' := 32) hZ hown (Wd34 hw) (Wd35 hw) (Wd36 hw) (Wd37 hw) (by decide) (rm_max l Z a0 hw [] (4 : Int32) (0 : Int32) h0 n0 Z0) e8 0 (by decide) (by decide) (by decide) (by decide) [(.int (4 : Int32)), (.int (0 : Int32))] [] (by rw [hml]; rfl) (lenOf pd_0 rfl) rfl rfl (Nat.le_of_eq rfl) (hb hby d8_29) rfl (fun v9 T9 L9 X9 hQ9 => ?_)
  obtain ⟨rfl, Nq9, e9⟩ := hQ9
  have N10 := Fr.app N0 Nq9
  show own_G p.tables e below _ T9 (mkF m 32 #[.val (.ref a), .val (.int (0 : Int32)), .val (.int bt), .unset] [(.int (own_max (4 : Int32) (0 : Int32)))])
  rw [show (own_max (4 : Int32) (0 : Int32)) = (4 : Int32) from by decide]
  refine own_istoreN X9 hx (pc' := 33) (Ls' := #[.val (.ref a), .val (.int (0 : Int32)), .val (.int bt), .val (.int (4 : Int32))]) (hb hby d8_32) rfl rfl ?_
  refine own_aloadN X9 hx (pc' := 34) (hb hby d8_33) rfl rfl rfl ?_
  refine own_aloadN X9 hx (pc' := 35) (hb hby d8_34) rfl rfl rfl ?_
  refine own_getF X9 hx (pc' := 38) hZ hown (host := "") (Or.inl (Wd19 hw)) Via.refl e9 X_stopped (hb hby d8_35) rfl (fun T11 X11 e11 => ?_)
  refine own_iloadN X11 hx (pc' := 39) (hb hby d8_38) rfl rfl ?_
  refine own_callS X11 hx (pc' := 42) hZ hown (Wd41 hw) (Wd42 hw) (Wd43 hw) (Wd44 hw) (by decide) (rm_copy l Z a0 hw [] nn kn (4 : Int32) h0 n0 Z0 (Or.inr (by decide)) V_n) e11 1 (by decide) (by decide) (by decide) (by decide) [(.ref nn), (.int (4 : Int32))] [(.ref a)] (by rw [hml]; rfl) (lenOf pd_1 rfl) rfl rfl (Nat.le_of_eq rfl) (hb hby d8_39) rfl (fun v12 T12 L12 X12 hQ12 => ?_)
  obtain ⟨nb12, k12, rfl, gs12, Nq12, K12, V12⟩ := hQ12
  have N13 := Fr.app N10 Nq12
  have ne_a_nb12 : a ≠ nb12 := Nat.ne_of_lt (Nat.lt_of_lt_of_le E_a.lt gs12)
  have ne_b1_nb12 : b1 ≠ nb12 := Nat.ne_of_lt (Nat.lt_of_lt_of_le V_1.lt gs12)
  have ne_b2_nb12 : b2 ≠ nb12 := Nat.ne_of_lt (Nat.lt_of_lt_of_le V_2.lt gs12)
  have ne_b3_nb12 : b3 ≠ nb12 := Nat.ne_of_lt (Nat.lt_of_lt_of_le V_3.lt gs12)
  have ne_nn_nb12 : nn ≠ nb12 := Nat.ne_of_lt (Nat.lt_of_lt_of_le V_n.lt gs12)
  have ge_nb12 : n0 ≤ nb12 := Nat.le_trans Z0 gs12
  have gk_nb12 : h0.size ≤ nb12 := Nat.le_trans K1.1 gs12
  have Z14 : n0 ≤ T12.heap.size := Nat.le_trans Z0 K12.1
  have K15 : Keep h0 T12.heap [a, b1, b2, b3] := Keep.trans K1 K12 all0
  have F16 := (Exa.keep E_a K12)
  have F17 := (F_c.keep K12 nin0)
  have F18 := (F_p.keep K12 nin0)
  have F19 := (F_u.keep K12 nin0)
  have F20 := (F_t.keep K12 nin0)
  have F21 := (X_awaited.keep K12 nin0)
  have F22 := (X_stopped.keep K12 nin0)
  have F23 := (X_toCome.keep K12 nin0)
  have F24 := (X_beatsLeft.keep K12 nin0)
  have F25 := (V_1.keep K12 nin0)
  have F26 := (V_2.keep K12 nin0)
  have F27 := (V_3.keep K12 nin0)
  have F28 := (V_n.keep K12 nin0)
  show own_G p.tables e below _ T12 (mkF m 42 #[.val (.ref a), .val (.int (0 : Int32)), .val (.int bt), .val (.int (4 : Int32))] [(.ref nb12), (.ref a)])
  refine own_putF X12 hx (pc' := 45) hZ (ty := (.array .int)) hown (host := "") (Or.inl (Wd19 hw)) Via.refl rfl F22 F16 (Or.inl (Wd20 hw)) (Wd3 hw) (by decide) rfl rfl (hb hby d8_42) rfl (fun T29 h29 X29 e29 W29 => ?_)
  have N30 := Fr.snoc X29 N13 g_a
  have Z31 : n0 ≤ h29.size := Nat.le_trans Z14 (Nat.le_of_eq (Wr.size W29).symm)
  have K32 : Keep h0 h29 [a, b1, b2, b3] := K15.wr W29 (Or.inl (List.mem_of_getElem? (i := 0) rfl))
  have F33 := (Exa.wr W29 F16)
  have F34 := (Fld.other W29 F17 (Or.inr (slot_ne (Or.inl (Wd33 hw)) (Or.inl (Wd20 hw)) (by decide) (t := .int) (t' := (.array .int)) (by decide) (by decide))))
  have F35 := (Fld.other W29 F18 (Or.inr (slot_ne (Or.inl (Wd14 hw)) (Or.inl (Wd20 hw)) (by decide) (t := (.array .int)) (t' := (.array .int)) (by decide) (by decide))))
  have F36 := (Fld.other W29 F19 (Or.inr (slot_ne (Or.inl (Wd16 hw)) (Or.inl (Wd20 hw)) (by decide) (t := (.array .int)) (t' := (.array .int)) (by decide) (by decide))))
  have F37 := (Fld.other W29 F20 (Or.inr (slot_ne (Or.inl (Wd18 hw)) (Or.inl (Wd20 hw)) (by decide) (t := (.array .int)) (t' := (.array .int)) (by decide) (by decide))))
  have F38 := (Fld.other W29 F21 (Or.inr (slot_ne (Or.inl (Wd56 hw)) (Or.inl (Wd20 hw)) (by decide) (t := .int) (t' := (.array .int)) (by decide) (by decide))))
  have F39 := (Fld.same W29 F22)
  have F40 := (Fld.other W29 F23 (Or.inr (slot_ne (Or.inl (Wd22 hw)) (Or.inl (Wd20 hw)) (by decide) (t := (.array .int)) (t' := (.array .int)) (by decide) (by decide))))
  have F41 := (Fld.other W29 F24 (Or.inr (slot_ne (Or.inl (Wd24 hw)) (Or.inl (Wd20 hw)) (by decide) (t := (.array .int)) (t' := (.array .int)) (by decide) (by decide))))
  have F42 := (F25.other W29 (Ne.symm ea1))
  have F43 := (F26.other W29 (Ne.symm ea2))
  have F44 := (F27.other W29 (Ne.symm ea3))
  have F45 := (F28.other W29 (Ne.symm ne_a_nn))
  have F46 := (V12.other W29 (Ne.symm ne_a_nb12))
  refine own_aloadN X29 hx (pc' := 46) (hb hby d8_45) rfl rfl rfl ?_
  refine own_aloadN X29 hx (pc' := 47) (hb hby d8_46) rfl rfl rfl ?_
  refine own_getF X29 hx (pc' := 50) hZ hown (host := "") (Or.inl (Wd21 hw)) Via.refl e29 F40 (hb hby d8_47) rfl (fun T47 X47 e47 => ?_)
  refine own_iloadN X47 hx (pc' := 51) (hb hby d8_50) rfl rfl ?_
  refine own_callS X47 hx (pc' := 54) hZ hown (Wd41 hw) (Wd42 hw) (Wd43 hw) (Wd44 hw) (by decide) (rm_copy l Z a0 hw [] nn kn (4 : Int32) h29 n0 Z31 (Or.inr (by decide)) F45) e47 1 (by decide) (by decide) (by decide) (by decide) [(.ref nn), (.int (4 : Int32))] [(.ref a)] (by rw [hml]; rfl) (lenOf pd_1 rfl) rfl rfl (Nat.le_of_eq rfl) (hb hby d8_51) rfl (fun v48 T48 L48 X48 hQ48 => ?_)
  obtain ⟨nb48, k48, rfl, gs48, Nq48, K48, V48⟩ := hQ48
  have N49 := Fr.app N30 Nq48
  have ne_a_nb48 : a ≠ nb48 := Nat.ne_of_lt (Nat.lt_of_lt_of_le F33.lt gs48)
  have ne_b1_nb48 : b1 ≠ nb48 := Nat.ne_of_lt (Nat.lt_of_lt_of_le F42.lt gs48)
  have ne_b2_nb48 : b2 ≠ nb48 := Nat.ne_of_lt (Nat.lt_of_lt_of_le F43.lt gs48)
  have ne_b3_nb48 : b3 ≠ nb48 := Nat.ne_of_lt (Nat.lt_of_lt_of_le F44.lt gs48)
  have ne_nn_nb48 : nn ≠ nb48 := Nat.ne_of_lt (Nat.lt_of_lt_of_le F45.lt gs48)
  have ne_nb12_nb48 : nb12 ≠ nb48 := Nat.ne_of_lt (Nat.lt_of_lt_of_le F46.lt gs48)
  have ge_nb48 : n0 ≤ nb48 := Nat.le_trans Z31 gs48
  have gk_nb48 : h0.size ≤ nb48 := Nat.le_trans K32.1 gs48
  have Z50 : n0 ≤ T48.heap.size := Nat.le_trans Z31 K48.1
  have K51 : Keep h0 T48.heap [a, b1, b2, b3] := Keep.trans K32 K48 all0
  have F52 := (Exa.keep F33 K48)
  have F53 := (F34.keep K48 nin0)
  have F54 := (F35.keep K48 nin0)
  have F55 := (F36.keep K48 nin0)
  have F56 := (F37.keep K48 nin0)
  have F57 := (F38.keep K48 nin0)
  have F58 := (F39.keep K48 nin0)
  have F59 := (F40.keep K48 nin0)
  have F60 := (F41.keep K48 nin0)
  have F61 := (F42.keep K48 nin0)
  have F62 := (F43.keep K48 nin0)
  have F63 := (F44.keep K48 nin0)
  have F64 := (F45.keep K48 nin0)
  have F65 := (F46.keep K48 nin0)
  show own_G p.tables e below _ T48 (mkF m 54 #[.val (.ref a), .val (.int (0 : Int32)), .val (.int bt), .val (.int (4 : Int32))] [(.ref nb48), (.ref a)])
  refine own_putF X48 hx (pc' := 57) hZ (ty := (.array .int)) hown (host := "") (Or.inl (Wd21 hw)) Via.refl rfl F59 F52 (Or.inl (Wd22 hw)) (Wd3 hw) (by decide) rfl rfl (hb hby d8_54) rfl (fun T66 h66 X66 e66 W66 => ?_)
  have N67 := Fr.snoc X66 N49 g_a
  have Z68 : n0 ≤ h66.size := Nat.le_trans Z50 (Nat.le_of_eq (Wr.size W66).symm)
  have K69 : Keep h0 h66 [a, b1, b2, b3] := K51.wr W66 (Or.inl (List.mem_of_getElem? (i := 0) rfl))
  have F70 := (Exa.wr W66 F52)
  have F71 := (Fld.other W66 F53 (Or.inr (slot_ne (Or.inl (Wd33 hw)) (Or.inl (Wd22 hw)) (by decide) (t := .int) (t' := (.array .int)) (by decide) (by decide))))
  have F72 := (Fld.other W66 F54 (Or.inr (slot_ne (Or.inl (Wd14 hw)) (Or.inl (Wd22 hw)) (by decide) (t := (.array .int)) (t' := (.array .int)) (by decide) (by decide))))
  have F73 := (Fld.other W66 F55 (Or.inr (slot_ne (Or.inl (Wd16 hw)) (Or.inl (Wd22 hw)) (by decide) (t := (.array .int)) (t' := (.array .int)) (by decide) (by decide))))
  have F74 := (Fld.other W66 F56 (Or.inr (slot_ne (Or.inl (Wd18 hw)) (Or.inl (Wd22 hw)) (by decide) (t := (.array .int)) (t' := (.array .int)) (by decide) (by decide))))
  have F75 := (Fld.other W66 F57 (Or.inr (slot_ne (Or.inl (Wd56 hw)) (Or.inl (Wd22 hw)) (by decide) (t := .int) (t' := (.array .int)) (by decide) (by decide))))
  have F76 := (Fld.other W66 F58 (Or.inr (slot_ne (Or.inl (Wd20 hw)) (Or.inl (Wd22 hw)) (by decide) (t := (.array .int)) (t' := (.array .int)) (by decide) (by decide))))
  have F77 := (Fld.same W66 F59)
  have F78 := (Fld.other W66 F60 (Or.inr (slot_ne (Or.inl (Wd24 hw)) (Or.inl (Wd22 hw)) (by decide) (t := (.array .int)) (t' := (.array .int)) (by decide) (by decide))))
  have F79 := (F61.other W66 (Ne.symm ea1))
  have F80 := (F62.other W66 (Ne.symm ea2))
  have F81 := (F63.other W66 (Ne.symm ea3))
  have F82 := (F64.other W66 (Ne.symm ne_a_nn))
  have F83 := (F65.other W66 (Ne.symm ne_a_nb12))
  have F84 := (V48.other W66 (Ne.symm ne_a_nb48))
  refine own_aloadN X66 hx (pc' := 58) (hb hby d8_57) rfl rfl rfl ?_
  refine own_aloadN X66 hx (pc' := 59) (hb hby d8_58) rfl rfl rfl ?_
  refine own_getF X66 hx (pc' := 62) hZ hown (host := "") (Or.inl (Wd23 hw)) Via.refl e66 F78 (hb hby d8_59) rfl (fun T85 X85 e85 => ?_)
  refine own_iloadN X85 hx (pc' := 63) (hb hby d8_62) rfl rfl ?_
  refine own_callS X85 hx (pc' := 66) hZ hown (Wd41 hw) (Wd42 hw) (Wd43 hw) (Wd44 hw) (by decide) (rm_copy l Z a0 hw [] nn kn (4 : Int32) h66 n0 Z68 (Or.inr (by decide)) F82) e85 1 (by decide) (by decide) (by decide) (by decide) [(.ref nn), (.int (4 : Int32))] [(.ref a)] (by rw [hml]; rfl) (lenOf pd_1 rfl) rfl rfl (Nat.le_of_eq rfl) (hb hby d8_63) rfl (fun v86 T86 L86 X86 hQ86 => ?_)
  obtain ⟨nb86, k86, rfl, gs86, Nq86, K86, V86⟩ := hQ86
  have N87 := Fr.app N67 Nq86
  have ne_a_nb86 : a ≠ nb86 := Nat.ne_of_lt (Nat.lt_of_lt_of_le F70.lt gs86)
  have ne_b1_nb86 : b1 ≠ nb86 := Nat.ne_of_lt (Nat.lt_of_lt_of_le F79.lt gs86)
  have ne_b2_nb86 : b2 ≠ nb86 := Nat.ne_of_lt (Nat.lt_of_lt_of_le F80.lt gs86)
  have ne_b3_nb86 : b3 ≠ nb86 := Nat.ne_of_lt (Nat.lt_of_lt_of_le F81.lt gs86)
  have ne_nn_nb86 : nn ≠ nb86 := Nat.ne_of_lt (Nat.lt_of_lt_of_le F82.lt gs86)
  have ne_nb12_nb86 : nb12 ≠ nb86 := Nat.ne_of_lt (Nat.lt_of_lt_of_le F83.lt gs86)
  have ne_nb48_nb86 : nb48 ≠ nb86 := Nat.ne_of_lt (Nat.lt_of_lt_of_le F84.lt gs86)
  have ge_nb86 : n0 ≤ nb86 := Nat.le_trans Z68 gs86
  have gk_nb86 : h0.size ≤ nb86 := Nat.le_trans K69.1 gs86
  have Z88 : n0 ≤ T86.heap.size := Nat.le_trans Z68 K86.1
  have K89 : Keep h0 T86.heap [a, b1, b2, b3] := Keep.trans K69 K86 all0
  have F90 := (Exa.keep F70 K86)
  have F91 := (F71.keep K86 nin0)
  have F92 := (F72.keep K86 nin0)
  have F93 := (F73.keep K86 nin0)
  have F94 := (F74.keep K86 nin0)
  have F95 := (F75.keep K86 nin0)
  have F96 := (F76.keep K86 nin0)
  have F97 := (F77.keep K86 nin0)
  have F98 := (F78.keep K86 nin0)
  have F99 := (F79.keep K86 nin0)
  have F100 := (F80.keep K86 nin0)
  have F101 := (F81.keep K86 nin0)
  have F102 := (F82.keep K86 nin0)
  have F103 := (F83.keep K86 nin0)
  have F104 := (F84.keep K86 nin0)
  show own_G p.tables e below _ T86 (mkF m 66 #[.val (.ref a), .val (.int (0 : Int32)), .val (.int bt), .val (.int (4 : Int32))] [(.ref nb86), (.ref a)])
  refine own_putF X86 hx (pc' := 69) hZ (ty := (.array .int)) hown (host := "") (Or.inl (Wd23 hw)) Via.refl rfl F98 F90 (Or.inl (Wd24 hw)) (Wd3 hw) (by decide) rfl rfl (hb hby d8_66) rfl (fun T105 h105 X105 e105 W105 => ?_)
  have N106 := Fr.snoc X105 N87 g_a
  have Z107 : n0 ≤ h105.size := Nat.le_trans Z88 (Nat.le_of_eq (Wr.size W105).symm)
  have K108 : Keep h0 h105 [a, b1, b2, b3] := K89.wr W105 (Or.inl (List.mem_of_getElem? (i := 0) rfl))
  have F109 := (Exa.wr W105 F90)
  have F110 := (Fld.other W105 F91 (Or.inr (slot_ne (Or.inl (Wd33 hw)) (Or.inl (Wd24 hw)) (by decide) (t := .int) (t' := (.array .int)) (by decide) (by decide))))
  have F111 := (Fld.other W105 F92 (Or.inr (slot_ne (Or.inl (Wd14 hw)) (Or.inl (Wd24 hw)) (by decide) (t := (.array .int)) (t' := (.array .int)) (by decide) (by decide))))
  have F112 := (Fld.other W105 F93 (Or.inr (slot_ne (Or.inl (Wd16 hw)) (Or.inl (Wd24 hw)) (by decide) (t := (.array .int)) (t' := (.array .int)) (by decide) (by decide))))
  have F113 := (Fld.other W105 F94 (Or.inr (slot_ne (Or.inl (Wd18 hw)) (Or.inl (Wd24 hw)) (by decide) (t := (.array .int)) (t' := (.array .int)) (by decide) (by decide))))
  have F114 := (Fld.other W105 F95 (Or.inr (slot_ne (Or.inl (Wd56 hw)) (Or.inl (Wd24 hw)) (by decide) (t := .int) (t' := (.array .int)) (by decide) (by decide))))
  have F115 := (Fld.other W105 F96 (Or.inr (slot_ne (Or.inl (Wd20 hw)) (Or.inl (Wd24 hw)) (by decide) (t := (.array .int)) (t' := (.array .int)) (by decide) (by decide))))
  have F116 := (Fld.other W105 F97 (Or.inr (slot_ne (Or.inl (Wd22 hw)) (Or.inl (Wd24 hw)) (by decide) (t := (.array .int)) (t' := (.array .int)) (by decide) (by decide))))
  have F117 := (Fld.same W105 F98)
  have F118 := (F99.other W105 (Ne.symm ea1))
  have F119 := (F100.other W105 (Ne.symm ea2))
  have F120 := (F101.other W105 (Ne.symm ea3))
  have F121 := (F102.other W105 (Ne.symm ne_a_nn))
  have F122 := (F103.other W105 (Ne.symm ne_a_nb12))
  have F123 := (F104.other W105 (Ne.symm ne_a_nb48))
  have F124 := (V86.other W105 (Ne.symm ne_a_nb86))
  refine own_aloadN X105 hx (pc' := 70) (hb hby d8_69) rfl rfl rfl ?_
  refine own_getF X105 hx (pc' := 73) hZ hown (host := "") (Or.inl (Wd19 hw)) Via.refl e105 F115 (hb hby d8_70) rfl (fun T125 X125 e125 => ?_)
  refine own_aloadN X125 hx (pc' := 74) (hb hby d8_73) rfl rfl rfl ?_
  refine own_getF X125 hx (pc' := 77) hZ hown (host := "") (Or.inl (Wd55 hw)) Via.refl e125 F114 (hb hby d8_74) rfl (fun T126 X126 e126 => ?_)
  refine own_aloadN X126 hx (pc' := 78) (hb hby d8_77) rfl rfl rfl ?_
  refine own_getF X126 hx (pc' := 81) hZ hown (host := "") (Or.inl (Wd13 hw)) Via.refl e126 F111 (hb hby d8_78) rfl (fun T127 X127 e127 => ?_)
  refine own_iloadN X127 hx (pc' := 82) (hb hby d8_81) rfl rfl ?_
  have hi128 : ¬ (0 : Int32) < 0 ∧ (0 : Int32) < z := ⟨by decide, by rw [Int32.lt_iff_toInt_lt, own_t32_0]; omega⟩
  obtain ⟨cl129, Ar129, q129, S129, M129, H129, G129⟩ := id F118
  refine own_iaload X127 hx (pc' := 83) hZ (v := x0) e127 Ar129 (inb_of S129 hi128) (Has.at H129 (inb_of S129 hi128) rfl) (hb hby d8_82) rfl ?_
  obtain ⟨cl130, Ar130, q130, S130, M130, H130, G130⟩ := id F122
  refine own_stI X127 hx (pc' := 84) hZ e127 Ar130 (inb_of S130 ⟨by decide, by decide⟩) (hb hby d8_83) rfl (fun T131 h131 X131 e131 W131 => ?_)
  have N132 := Fr.snoc X131 N106 ge_nb12
  have Z133 : n0 ≤ h131.size := Nat.le_trans Z107 (Nat.le_of_eq (Wr.size W131).symm)
  have K134 : Keep h0 h131 [a, b1, b2, b3] := K108.wr W131 (Or.inr gk_nb12)
  have F135 := (Exa.wr W131 F109)
  have F136 := (Fld.other W131 F110 (Or.inl ne_a_nb12))
  have F137 := (Fld.other W131 F111 (Or.inl ne_a_nb12))
  have F138 := (Fld.other W131 F112 (Or.inl ne_a_nb12))
  have F139 := (Fld.other W131 F113 (Or.inl ne_a_nb12))
  have F140 := (Fld.other W131 F114 (Or.inl ne_a_nb12))
  have F141 := (Fld.other W131 F115 (Or.inl ne_a_nb12))
  have F142 := (Fld.other W131 F116 (Or.inl ne_a_nb12))
  have F143 := (Fld.other W131 F117 (Or.inl ne_a_nb12))
  have F144 := (F118.other W131 ne_b1_nb12)
  have F145 := (F119.other W131 ne_b2_nb12)
  have F146 := (F120.other W131 ne_b3_nb12)
  have F147 := (F121.other W131 ne_nn_nb12)
  have F148 : Arv Z h131 nb12 k12 .int (4 : Int32) [(.int x0), (.int (0 : Int32)), (.int (0 : Int32))] (.int (0 : Int32)) := (Arv.set Ar130 q130 S130 M130 H130 G130 rfl W131 0 rfl (Nat.le_of_ble_eq_true rfl))
  have F149 := (F123.other W131 (Ne.symm ne_nb12_nb48))
  have F150 := (F124.other W131 (Ne.symm ne_nb12_nb86))
  refine own_aloadN X131 hx (pc' := 85) (hb hby d8_84) rfl rfl rfl ?_
  refine own_getF X131 hx (pc' := 88) hZ hown (host := "") (Or.inl (Wd21 hw)) Via.refl e131 F142 (hb hby d8_85) rfl (fun T151 X151 e151 => ?_)
  refine own_aloadN X151 hx (pc' := 89) (hb hby d8_88) rfl rfl rfl ?_
  refine own_getF X151 hx (pc' := 92) hZ hown (host := "") (Or.inl (Wd55 hw)) Via.refl e151 F140 (hb hby d8_89) rfl (fun T152 X152 e152 => ?_)
  refine own_aloadN X152 hx (pc' := 93) (hb hby d8_92) rfl rfl rfl ?_
  refine own_getF X152 hx (pc' := 96) hZ hown (host := "") (Or.inl (Wd15 hw)) Via.refl e152 F138 (hb hby d8_93) rfl (fun T153 X153 e153 => ?_)
  refine own_iloadN X153 hx (pc' := 97) (hb hby d8_96) rfl rfl ?_
  have hi154 : ¬ (0 : Int32) < 0 ∧ (0 : Int32) < z := ⟨by decide, by rw [Int32.lt_iff_toInt_lt, own_t32_0]; omega⟩
  obtain ⟨cl155, Ar155, q155, S155, M155, H155, G155⟩ := id F145
  refine own_iaload X153 hx (pc' := 98) hZ (v := u0) e153 Ar155 (inb_of S155 hi154) (Has.at H155 (inb_of S155 hi154) rfl) (hb hby d8_97) rfl ?_
  refine own_iconst X153 hx (pc' := 99) (1 : Int32) (hb hby d8_98) rfl rfl ?_
  refine own_isub X153 hx (pc' := 100) (hb hby d8_99) rfl rfl ?_
  obtain ⟨cl156, Ar156, q156, S156, M156, H156, G156⟩ := id F149
  refine own_stI X153 hx (pc' := 101) hZ e153 Ar156 (inb_of S156 ⟨by decide, by decide⟩) (hb hby d8_100) rfl (fun T157 h157 X157 e157 W157 => ?_)
  have N158 := Fr.snoc X157 N132 ge_nb48
  have Z159 : n0 ≤ h157.size := Nat.le_trans Z133 (Nat.le_of_eq (Wr.size W157).symm)
  have K160 : Keep h0 h157 [a, b1, b2, b3] := K134.wr W157 (Or.inr gk_nb48)
  have F161 := (Exa.wr W157 F135)
  have F162 := (Fld.other W157 F136 (Or.inl ne_a_nb48))
  have F163 := (Fld.other W157 F137 (Or.inl ne_a_nb48))
  have F164 := (Fld.other W157 F138 (Or.inl ne_a_nb48))
  have F165 := (Fld.other W157 F139 (Or.inl ne_a_nb48))
  have F166 := (Fld.other W157 F140 (Or.inl ne_a_nb48))
  have F167 := (Fld.other W157 F141 (Or.inl ne_a_nb48))
  have F168 := (Fld.other W157 F142 (Or.inl ne_a_nb48))
  have F169 := (Fld.other W157 F143 (Or.inl ne_a_nb48))
  have F170 := (F144.other W157 ne_b1_nb48)
  have F171 := (F145.other W157 ne_b2_nb48)
  have F172 := (F146.other W157 ne_b3_nb48)
  have F173 := (F147.other W157 ne_nn_nb48)
  have F174 := (F148.other W157 ne_nb12_nb48)
  have F175 : Arv Z h157 nb48 k48 .int (4 : Int32) [(.int (u0 - (1 : Int32))), (.int (0 : Int32)), (.int (0 : Int32))] (.int (0 : Int32)) := (Arv.set Ar156 q156 S156 M156 H156 G156 rfl W157 0 rfl (Nat.le_of_ble_eq_true rfl))
  have F176 := (F150.other W157 (Ne.symm ne_nb48_nb86))
  refine own_aloadN X157 hx (pc' := 102) (hb hby d8_101) rfl rfl rfl ?_
  refine own_getF X157 hx (pc' := 105) hZ hown (host := "") (Or.inl (Wd23 hw)) Via.refl e157 F169 (hb hby d8_102) rfl (fun T177 X177 e177 => ?_)
  refine own_aloadN X177 hx (pc' := 106) (hb hby d8_105) rfl rfl rfl ?_
  refine own_getF X177 hx (pc' := 109) hZ hown (host := "") (Or.inl (Wd55 hw)) Via.refl e177 F166 (hb hby d8_106) rfl (fun T178 X178 e178 => ?_)
  refine own_iloadN X178 hx (pc' := 110) (hb hby d8_109) rfl rfl ?_
  obtain ⟨cl179, Ar179, q179, S179, M179, H179, G179⟩ := id F176
  refine own_stI X178 hx (pc' := 111) hZ e178 Ar179 (inb_of S179 ⟨by decide, by decide⟩) (hb hby d8_110) rfl (fun T180 h180 X180 e180 W180 => ?_)
  have N181 := Fr.snoc X180 N158 ge_nb86
  have Z182 : n0 ≤ h180.size := Nat.le_trans Z159 (Nat.le_of_eq (Wr.size W180).symm)
  have K183 : Keep h0 h180 [a, b1, b2, b3] := K160.wr W180 (Or.inr gk_nb86)
  have F184 := (Exa.wr W180 F161)
  have F185 := (Fld.other W180 F162 (Or.inl ne_a_nb86))
  have F186 := (Fld.other W180 F163 (Or.inl ne_a_nb86))
  have F187 := (Fld.other W180 F164 (Or.inl ne_a_nb86))
  have F188 := (Fld.other W180 F165 (Or.inl ne_a_nb86))
  have F189 := (Fld.other W180 F166 (Or.inl ne_a_nb86))
  have F190 := (Fld.other W180 F167 (Or.inl ne_a_nb86))
  have F191 := (Fld.other W180 F168 (Or.inl ne_a_nb86))
  have F192 := (Fld.other W180 F169 (Or.inl ne_a_nb86))
  have F193 := (F170.other W180 ne_b1_nb86)
  have F194 := (F171.other W180 ne_b2_nb86)
  have F195 := (F172.other W180 ne_b3_nb86)
  have F196 := (F173.other W180 ne_nn_nb86)
  have F197 := (F174.other W180 ne_nb12_nb86)
  have F198 := (F175.other W180 ne_nb48_nb86)
  have F199 : Arv Z h180 nb86 k86 .int (4 : Int32) [(.int bt), (.int (0 : Int32)), (.int (0 : Int32))] (.int (0 : Int32)) := (Arv.set Ar179 q179 S179 M179 H179 G179 rfl W180 0 rfl (Nat.le_of_ble_eq_true rfl))
  refine own_aloadN X180 hx (pc' := 112) (hb hby d8_111) rfl rfl rfl ?_
  refine own_dup X180 hx (pc' := 113) (hb hby d8_112) rfl rfl ?_
  refine own_getF X180 hx (pc' := 116) hZ hown (host := "") (Or.inl (Wd55 hw)) Via.refl e180 F189 (hb hby d8_113) rfl (fun T200 X200 e200 => ?_)
  refine own_iconst X200 hx (pc' := 117) (1 : Int32) (hb hby d8_116) rfl rfl ?_
  refine own_iadd X200 hx (pc' := 118) (z := (1 : Int32)) (hb hby d8_117) (by decide) rfl ?_
  refine own_putF X200 hx (pc' := 121) hZ (ty := .int) hown (host := "") (Or.inl (Wd55 hw)) Via.refl e200 F189 F184 (Or.inl (Wd56 hw)) (Wd3 hw) (by decide) rfl rfl (hb hby d8_118) rfl (fun T201 h201 X201 e201 W201 => ?_)
  have N202 := Fr.snoc X201 N181 g_a
  have Z203 : n0 ≤ h201.size := Nat.le_trans Z182 (Nat.le_of_eq (Wr.size W201).symm)
  have K204 : Keep h0 h201 [a, b1, b2, b3] := K183.wr W201 (Or.inl (List.mem_of_getElem? (i := 0) rfl))
  have F205 := (Exa.wr W201 F184)
  have F206 := (Fld.other W201 F185 (Or.inr (slot_ne (Or.inl (Wd33 hw)) (Or.inl (Wd56 hw)) (by decide) (t := .int) (t' := .int) (by decide) (by decide))))
  have F207 := (Fld.other W201 F186 (Or.inr (slot_ne (Or.inl (Wd14 hw)) (Or.inl (Wd56 hw)) (by decide) (t := (.array .int)) (t' := .int) (by decide) (by decide))))
  have F208 := (Fld.other W201 F187 (Or.inr (slot_ne (Or.inl (Wd16 hw)) (Or.inl (Wd56 hw)) (by decide) (t := (.array .int)) (t' := .int) (by decide) (by decide))))
  have F209 := (Fld.other W201 F188 (Or.inr (slot_ne (Or.inl (Wd18 hw)) (Or.inl (Wd56 hw)) (by decide) (t := (.array .int)) (t' := .int) (by decide) (by decide))))
  have F210 := (Fld.same W201 F189)
  have F211 := (Fld.other W201 F190 (Or.inr (slot_ne (Or.inl (Wd20 hw)) (Or.inl (Wd56 hw)) (by decide) (t := (.array .int)) (t' := .int) (by decide) (by decide))))
  have F212 := (Fld.other W201 F191 (Or.inr (slot_ne (Or.inl (Wd22 hw)) (Or.inl (Wd56 hw)) (by decide) (t := (.array .int)) (t' := .int) (by decide) (by decide))))
  have F213 := (Fld.other W201 F192 (Or.inr (slot_ne (Or.inl (Wd24 hw)) (Or.inl (Wd56 hw)) (by decide) (t := (.array .int)) (t' := .int) (by decide) (by decide))))
  have F214 := (F193.other W201 (Ne.symm ea1))
  have F215 := (F194.other W201 (Ne.symm ea2))
  have F216 := (F195.other W201 (Ne.symm ea3))
  have F217 := (F196.other W201 (Ne.symm ne_a_nn))
  have F218 := (F197.other W201 (Ne.symm ne_a_nb12))
  have F219 := (F198.other W201 (Ne.symm ne_a_nb48))
  have F220 := (F199.other W201 (Ne.symm ne_a_nb86))
  refine own_aloadN X201 hx (pc' := 122) (hb hby d8_121) rfl rfl rfl ?_
  refine own_iloadN X201 hx (pc' := 123) (hb hby d8_122) rfl rfl ?_
  refine own_callV X201 hx (pc' := 126) hZ hown (Wd62 hw) (Wd64 hw) (Wd65 hw) (Wd66 hw) (Wd4 hw) (by decide) (rm_rem30 l Z a0 hw [] a b1 b2 b3 k1 k2 k3 z x0 x1 x2 u0 u1 u2 t0 t1 t2 nb12 nb48 nb86 (1 : Int32) h201 n0 Z203 hz g_a g_b1 g_b2 g_b3 dj12 dj13 dj23 F205 F206 F207 F208 F209 F214 F215 F216 F210 F211 F212 F213) e201 F205 0 (by decide) (by decide) (by decide) (by decide) [(.int (0 : Int32))] [] (by rw [hml]; rfl) (lenOf pd_2 rfl) rfl rfl (Nat.le_of_eq rfl) (hb hby d8_123) rfl (fun v221 T221 L221 X221 hQ221 => ?_)
  obtain ⟨rfl, Nq221, K221, Gc221, Gp221, Gu221, Gt221, Va221, Vb221, Vc221, Xa221, Xb221, Xc221, Xd221⟩ := hQ221
  have N222 := Fr.app N202 Nq221
  have Z223 : n0 ≤ T221.heap.size := Nat.le_trans Z203 K221.1
  have K224 : Keep h0 T221.heap [a, b1, b2, b3] := Keep.trans K204 K221 (allS (Or.inl (List.mem_of_getElem? (i := 0) rfl)) (allS (Or.inl (List.mem_of_getElem? (i := 1) rfl)) (allS (Or.inl (List.mem_of_getElem? (i := 2) rfl)) (allS (Or.inl (List.mem_of_getElem? (i := 3) rfl)) all0))))
  have F225 := (Exa.keep F205 K221)
  have F226 := (F218.keep K221 (ninS (Ne.symm ne_a_nb12) (ninS (Ne.symm ne_b1_nb12) (ninS (Ne.symm ne_b2_nb12) (ninS (Ne.symm ne_b3_nb12) nin0)))))
  have F227 := (F219.keep K221 (ninS (Ne.symm ne_a_nb48) (ninS (Ne.symm ne_b1_nb48) (ninS (Ne.symm ne_b2_nb48) (ninS (Ne.symm ne_b3_nb48) nin0)))))
  have F228 := (F220.keep K221 (ninS (Ne.symm ne_a_nb86) (ninS (Ne.symm ne_b1_nb86) (ninS (Ne.symm ne_b2_nb86) (ninS (Ne.symm ne_b3_nb86) nin0)))))
  show own_G p.tables e below _ T221 (mkF m 126 #[.val (.ref a), .val (.int (0 : Int32)), .val (.int bt), .val (.int (4 : Int32))] [])
  refine own_retV X221 hx hlk hret (hb hby d8_126) (by decide) (by decide) ?_
  exact ⟨rfl, N222, K224, Gc221, Gu221, Vb221, nb12, nb48, nb86, _, _, _, ⟨gk_nb12, gk_nb48, gk_nb86⟩, ⟨ne_nb12_nb48, ne_nb12_nb86, ne_nb48_nb86⟩, Xa221, Xb221, Xc221, Xd221, F226, F227, F228⟩

def QrsN31 (Z : State) (a b1 b2 b3 : Addr) (k1 k2 k3 : ClassId) (z x0 x1 x2 u0 u1 u2 t0 t1 t2 : Int32) (nn : Addr) (kn : ClassId) (bt : Int32) (h0 : Heap) (n0 : Nat) (v : Option Value) (h : Heap) (L : List Loc) : Prop := v = none ∧ Fr n0 L ∧ Keep h0 h [a, b1, b2, b3] ∧ Fld Z h a "com/example/rootcast/rootcast/tree/Children" "count" "I" (.int (2 : Int32)) ∧ Fld Z h a "com/example/rootcast/rootcast/tree/Children" "subtree" "[I" (.ref b2) ∧ Arv Z h b2 k2 .int z [(.int u0), (.int u2), (.int u2)] (.int (0 : Int32)) ∧ Fld Z h a "com/example/rootcast/rootcast/tree/Children" "awaited" "I" (.int (0 : Int32))
theorem ef_rm_rsN31 (m : MethodId) (x0 : Addr) (x1 : Int32) (x2 : Int32) : entryFrame m #[(.ref x0), (.int x1), (.int x2)] 4 = mkF m 0 #[.val (.ref x0), .val (.int x1), .val (.int x2), .unset] [] := by first | (simp [entryFrame, mkF, argsToLocals, Value.category, maxLocals]; done) | rfl
set_option maxRecDepth 65536 in
set_option maxHeartbeats 40000000 in
theorem rm_rsN31 (l : Launch) (Z : State) (a0 : Array Value) (hw : ∀ d ∈ tables_1, d.before a0 Z = true) (ws : List Jvm.Cond) (a b1 b2 b3 : Addr) (k1 k2 k3 : ClassId) (z x0 x1 x2 u0 u1 u2 t0 t1 t2 : Int32) (nn : Addr) (kn : ClassId) (bt : Int32) (h0 : Heap) (n0 : Nat) (Z0 : n0 ≤ h0.size) (hz : z.toInt = 3 ∨ z.toInt = 4) (g_a : n0 ≤ a) (g_b1 : n0 ≤ b1) (g_b2 : n0 ≤ b2) (g_b3 : n0 ≤ b3) (dj12 : b1 ≠ b2) (dj13 : b1 ≠ b3) (dj23 : b2 ≠ b3) (hgt : ¬ (1 : Int32) < u1) (E_a : Exa Z h0 a "com/example/rootcast/rootcast/tree/Children") (F_c : Fld Z h0 a "com/example/rootcast/rootcast/tree/Children" "count" "I" (.int (3 : Int32))) (F_p : Fld Z h0 a "com/example/rootcast/rootcast/tree/Children" "peers" "[I" (.ref b1)) (F_u : Fld Z h0 a "com/example/rootcast/rootcast/tree/Children" "subtree" "[I" (.ref b2)) (F_t : Fld Z h0 a "com/example/rootcast/rootcast/tree/Children" "sent" "[I" (.ref b3)) (X_awaited : Fld Z h0 a "com/example/rootcast/rootcast/tree/Children" "awaited" "I" (.int (0 : Int32))) (X_stopped : Fld Z h0 a "com/example/rootcast/rootcast/tree/Children" "stopped" "[I" (.ref nn)) (X_toCome : Fld Z h0 a "com/example/rootcast/rootcast/tree/Children" "toCome" "[I" (.ref nn)) (X_beatsLeft : Fld Z h0 a "com/example/rootcast/rootcast/tree/Children" "beatsLeft" "[I" (.ref nn)) (V_1 : Arv Z h0 b1 k1 .int z [(.int x0), (.int x1), (.int x2)] (.int (0 : Int32))) (V_2 : Arv Z h0 b2 k2 .int z [(.int u0), (.int u1), (.int u2)] (.int (0 : Int32))) (V_3 : Arv Z h0 b3 k3 .int z [(.int t0), (.int t1), (.int t2)] (.int (0 : Int32))) (V_n : Arv Z h0 nn kn .int (0 : Int32) [] (.int (0 : Int32))) :
    MetFree l (⟨"com/example/rootcast/rootcast/tree/Children", "removeStopped", "(II)V"⟩ : MethodName) (head1 (Jvm.Cond.code (⟨"com/example/rootcast/rootcast/tree/Children", "removeStopped", "(II)V"⟩ : MethodName) prog_127_method_9_code 4 none :: ws) ({ frames := 2, cells := 0, slots := 0, locals := 34 } : Room)) (fun aa U => aa = #[(.ref a), (.int (1 : Int32)), (.int bt)] ∧ Z.Warmed39 U.vm ∧ U.heap = h0) (fun _ _ _ _ _ => True) (fun _ U o U' => ∃ v L, o = .returned v ∧ QrsN31 Z a b1 b2 b3 k1 k2 k3 z x0 x1 x2 u0 u1 u2 t0 t1 t2 nn kn bt h0 n0 v U'.heap L ∧ FrameEnd U o U' L (({ frames := 2, cells := 0, slots := 0, locals := 34 } : Room).cells) (({ frames := 2, cells := 0, slots := 0, locals := 34 } : Room).slots)) := by
  refine own_body pf_10 ?_
  intro p e s m below meth c s₁ hx hby hml hown hnm hlk hret hZ X0 e0
  have N0 : Fr n0 [] := Fr.nil n0
  refine own_go (f' := (mkF m 0 #[.val (.ref a), .val (.int (1 : Int32)), .val (.int bt), .unset] [])) (fun t k => castTop (ef_rm_rsN31 m a (1 : Int32) bt) k) ?_
  have ea1 : a ≠ b1 := by obtain ⟨c1, A1, -⟩ := V_1; exact ne_arr E_a (Wd3 hw) A1
  have ea2 : a ≠ b2 := by obtain ⟨c1, A1, -⟩ := V_2; exact ne_arr E_a (Wd3 hw) A1
  have ea3 : a ≠ b3 := by obtain ⟨c1, A1, -⟩ := V_3; exact ne_arr E_a (Wd3 hw) A1
  have ne_a_nn : a ≠ nn := by obtain ⟨q1, A1, -⟩ := id V_n; exact ne_arr E_a (Wd3 hw) A1
  have hzn : ¬ z < 0 := by rw [Int32.lt_iff_toInt_lt]; show ¬ z.toInt < 0; omega
  have hz3 : 3 ≤ z.toNatClampNeg := by have := nat_of hzn; omega
  have K1 : Keep h0 h0 [a, b1, b2, b3] := Keep.refl _ _
  refine own_aloadN X0 hx (pc' := 1) (hb hby d8_0) rfl rfl rfl ?_
  refine own_getF X0 hx (pc' := 4) hZ hown (host := "") (Or.inl (Wd15 hw)) Via.refl e0 F_u (hb hby d8_1) rfl (fun T2 X2 e2 => ?_)
  refine own_iloadN X2 hx (pc' := 5) (hb hby d8_4) rfl rfl ?_
  have hi3 : ¬ (1 : Int32) < 0 ∧ (1 : Int32) < z := ⟨by decide, by rw [Int32.lt_iff_toInt_lt, own_t32_1]; omega⟩
  obtain ⟨cl4, Ar4, q4, S4, M4, H4, G4⟩ := id V_2
  refine own_iaload X2 hx (pc' := 6) hZ (v := u1) e2 Ar4 (inb_of S4 hi3) (Has.at H4 (inb_of S4 hi3) rfl) (hb hby d8_5) rfl ?_
  refine own_iconst X2 hx (pc' := 7) (1 : Int32) (hb hby d8_6) rfl rfl ?_
  refine own_icmpYes X2 hx (pc' := 121) (hb hby d8_7) (flt hgt).2.2.2 (by decide) (by decide) ?_
  refine own_aloadN X2 hx (pc' := 122) (hb hby d8_121) rfl rfl rfl ?_
  refine own_iloadN X2 hx (pc' := 123) (hb hby d8_122) rfl rfl ?_
  refine own_callV X2 hx (pc' := 126) hZ hown (Wd62 hw) (Wd64 hw) (Wd65 hw) (Wd66 hw) (Wd4 hw) (by decide) (rm_rem31 l Z a0 hw [] a b1 b2 b3 k1 k2 k3 z x0 x1 x2 u0 u1 u2 t0 t1 t2 nn nn nn (0 : Int32) h0 n0 Z0 hz g_a g_b1 g_b2 g_b3 dj12 dj13 dj23 E_a F_c F_p F_u F_t V_1 V_2 V_3 X_awaited X_stopped X_toCome X_beatsLeft) e2 E_a 0 (by decide) (by decide) (by decide) (by decide) [(.int (1 : Int32))] [] (by rw [hml]; rfl) (lenOf pd_2 rfl) rfl rfl (Nat.le_of_eq rfl) (hb hby d8_123) rfl (fun v5 T5 L5 X5 hQ5 => ?_)
  obtain ⟨rfl, Nq5, K5, Gc5, Gp5, Gu5, Gt5, Va5, Vb5, Vc5, Xa5, Xb5, Xc5, Xd5⟩ := hQ5
  have N6 := Fr.app N0 Nq5
  have Z7 : n0 ≤ T5.heap.size := Nat.le_trans Z0 K5.1
  have K8 : Keep h0 T5.heap [a, b1, b2, b3] := Keep.trans K1 K5 (allS (Or.inl (List.mem_of_getElem? (i := 0) rfl)) (allS (Or.inl (List.mem_of_getElem? (i := 1) rfl)) (allS (Or.inl (List.mem_of_getElem? (i := 2) rfl)) (allS (Or.inl (List.mem_of_getElem? (i := 3) rfl)) all0))))
  have F9 := (Exa.keep E_a K5)
  show own_G p.tables e below _ T5 (mkF m 126 #[.val (.ref a), .val (.int (1 : Int32)), .val (.int bt), .unset] [])
  refine own_retV X5 hx hlk hret (hb hby d8_126) (by decide) (by decide) ?_
  exact ⟨rfl, N6, K8, Gc5, Gu5, Vb5, Xa5⟩

def QrsA31 (Z : State) (a b1 b2 b3 : Addr) (k1 k2 k3 : ClassId) (z x0 x1 x2 u0 u1 u2 t0 t1 t2 : Int32) (nn : Addr) (kn : ClassId) (bt : Int32) (h0 : Heap) (n0 : Nat) (v : Option Value) (h : Heap) (L : List Loc) : Prop := v = none ∧ Fr n0 L ∧ Keep h0 h [a, b1, b2, b3] ∧ Fld Z h a "com/example/rootcast/rootcast/tree/Children" "count" "I" (.int (2 : Int32)) ∧ Fld Z h a "com/example/rootcast/rootcast/tree/Children" "subtree" "[I" (.ref b2) ∧ Arv Z h b2 k2 .int z [(.int u0), (.int u2), (.int u2)] (.int (0 : Int32)) ∧ ∃ (c1 c2 c3 : Addr) (j1 j2 j3 : ClassId), (h0.size ≤ c1 ∧ h0.size ≤ c2 ∧ h0.size ≤ c3) ∧ (c1 ≠ c2 ∧ c1 ≠ c3 ∧ c2 ≠ c3) ∧ Fld Z h a "com/example/rootcast/rootcast/tree/Children" "awaited" "I" (.int (1 : Int32)) ∧ Fld Z h a "com/example/rootcast/rootcast/tree/Children" "stopped" "[I" (.ref c1) ∧ Fld Z h a "com/example/rootcast/rootcast/tree/Children" "toCome" "[I" (.ref c2) ∧ Fld Z h a "com/example/rootcast/rootcast/tree/Children" "beatsLeft" "[I" (.ref c3) ∧ Arv Z h c1 j1 .int (4 : Int32) [(.int x1), (.int (0 : Int32)), (.int (0 : Int32))] (.int (0 : Int32)) ∧ Arv Z h c2 j2 .int (4 : Int32) [(.int (u1 - (1 : Int32))), (.int (0 : Int32)), (.int (0 : Int32))] (.int (0 : Int32)) ∧ Arv Z h c3 j3 .int (4 : Int32) [(.int bt), (.int (0 : Int32)), (.int (0 : Int32))] (.int (0 : Int32))
theorem ef_rm_rsA31 (m : MethodId) (x0 : Addr) (x1 : Int32) (x2 : Int32) : entryFrame m #[(.ref x0), (.int x1), (.int x2)] 4 = mkF m 0 #[.val (.ref x0), .val (.int x1), .val (.int x2), .unset] [] := by first | (simp [entryFrame, mkF, argsToLocals, Value.category, maxLocals]; done) | rfl
set_option maxRecDepth 65536 in
set_option maxHeartbeats 40000000 in
theorem rm_rsA31 (l : Launch) (Z : State) (a0 : Array Value) (hw : ∀ d ∈ tables_1, d.before a0 Z = true) (ws : List Jvm.Cond) (a b1 b2 b3 : Addr) (k1 k2 k3 : ClassId) (z x0 x1 x2 u0 u1 u2 t0 t1 t2 : Int32) (nn : Addr) (kn : ClassId) (bt : Int32) (h0 : Heap) (n0 : Nat) (Z0 : n0 ≤ h0.size) (hz : z.toInt = 3 ∨ z.toInt = 4) (g_a : n0 ≤ a) (g_b1 : n0 ≤ b1) (g_b2 : n0 ≤ b2) (g_b3 : n0 ≤ b3) (dj12 : b1 ≠ b2) (dj13 : b1 ≠ b3) (dj23 : b2 ≠ b3) (hgt : (1 : Int32) < u1) (E_a : Exa Z h0 a "com/example/rootcast/rootcast/tree/Children") (F_c : Fld Z h0 a "com/example/rootcast/rootcast/tree/Children" "count" "I" (.int (3 : Int32))) (F_p : Fld Z h0 a "com/example/rootcast/rootcast/tree/Children" "peers" "[I" (.ref b1)) (F_u : Fld Z h0 a "com/example/rootcast/rootcast/tree/Children" "subtree" "[I" (.ref b2)) (F_t : Fld Z h0 a "com/example/rootcast/rootcast/tree/Children" "sent" "[I" (.ref b3)) (X_awaited : Fld Z h0 a "com/example/rootcast/rootcast/tree/Children" "awaited" "I" (.int (0 : Int32))) (X_stopped : Fld Z h0 a "com/example/rootcast/rootcast/tree/Children" "stopped" "[I" (.ref nn)) (X_toCome : Fld Z h0 a "com/example/rootcast/rootcast/tree/Children" "toCome" "[I" (.ref nn)) (X_beatsLeft : Fld Z h0 a "com/example/rootcast/rootcast/tree/Children" "beatsLeft" "[I" (.ref nn)) (V_1 : Arv Z h0 b1 k1 .int z [(.int x0), (.int x1), (.int x2)] (.int (0 : Int32))) (V_2 : Arv Z h0 b2 k2 .int z [(.int u0), (.int u1), (.int u2)] (.int (0 : Int32))) (V_3 : Arv Z h0 b3 k3 .int z [(.int t0), (.int t1), (.int t2)] (.int (0 : Int32))) (V_n : Arv Z h0 nn kn .int (0 : Int32) [] (.int (0 : Int32))) :
    MetFree l (⟨"com/example/rootcast/rootcast/tree/Children", "removeStopped", "(II)V"⟩ : MethodName) (head1 (Jvm.Cond.code (⟨"com/example/rootcast/rootcast/tree/Children", "removeStopped", "(II)V"⟩ : MethodName) prog_127_method_9_code 4 none :: ws) ({ frames := 2, cells := 3, slots := 12, locals := 48 } : Room)) (fun aa U => aa = #[(.ref a), (.int (1 : Int32)), (.int bt)] ∧ Z.Warmed39 U.vm ∧ U.heap = h0) (fun _ _ _ _ _ => True) (fun _ U o U' => ∃ v L, o = .returned v ∧ QrsA31 Z a b1 b2 b3 k1 k2 k3 z x0 x1 x2 u0 u1 u2 t0 t1 t2 nn kn bt h0 n0 v U'.heap L ∧ FrameEnd U o U' L (({ frames := 2, cells := 3, slots := 12, locals := 48 } : Room).cells) (({ frames := 2, cells := 3, slots := 12, locals := 48 } : Room).slots)) := by
  refine own_body pf_10 ?_
  intro p e s m below meth c s₁ hx hby hml hown hnm hlk hret hZ X0 e0
  have N0 : Fr n0 [] := Fr.nil n0
  refine own_go (f' := (mkF m 0 #[.val (.ref a), .val (.int (1 : Int32)), .val (.int bt), .unset] [])) (fun t k => castTop (ef_rm_rsA31 m a (1 : Int32) bt) k) ?_
  have ea1 : a ≠ b1 := by obtain ⟨c1, A1, -⟩ := V_1; exact ne_arr E_a (Wd3 hw) A1
  have ea2 : a ≠ b2 := by obtain ⟨c1, A1, -⟩ := V_2; exact ne_arr E_a (Wd3 hw) A1
  have ea3 : a ≠ b3 := by obtain ⟨c1, A1, -⟩ := V_3; exact ne_arr E_a (Wd3 hw) A1
  have ne_a_nn : a ≠ nn := by obtain ⟨q1, A1, -⟩ := id V_n; exact ne_arr E_a (Wd3 hw) A1
  have hzn : ¬ z < 0 := by rw [Int32.lt_iff_toInt_lt]; show ¬ z.toInt < 0; omega
  have hz3 : 3 ≤ z.toNatClampNeg := by have := nat_of hzn; omega
  have K1 : Keep h0 h0 [a, b1, b2, b3] := Keep.refl _ _
  refine own_aloadN X0 hx (pc' := 1) (hb hby d8_0) rfl rfl rfl ?_
  refine own_getF X0 hx (pc' := 4) hZ hown (host := "") (Or.inl (Wd15 hw)) Via.refl e0 F_u (hb hby d8_1) rfl (fun T2 X2 e2 => ?_)
  refine own_iloadN X2 hx (pc' := 5) (hb hby d8_4) rfl rfl ?_
  have hi3 : ¬ (1 : Int32) < 0 ∧ (1 : Int32) < z := ⟨by decide, by rw [Int32.lt_iff_toInt_lt, own_t32_1]; omega⟩
  obtain ⟨cl4, Ar4, q4, S4, M4, H4, G4⟩ := id V_2
  refine own_iaload X2 hx (pc' := 6) hZ (v := u1) e2 Ar4 (inb_of S4 hi3) (Has.at H4 (inb_of S4 hi3) rfl) (hb hby d8_5) rfl ?_
  refine own_iconst X2 hx (pc' := 7) (1 : Int32) (hb hby d8_6) rfl rfl ?_
  refine own_icmpNo X2 hx (pc' := 10) (hb hby d8_7) (tlt hgt).2.2.2 rfl ?_
  refine own_aloadN X2 hx (pc' := 11) (hb hby d8_10) rfl rfl rfl ?_
  refine own_getF X2 hx (pc' := 14) hZ hown (host := "") (Or.inl (Wd55 hw)) Via.refl e2 X_awaited (hb hby d8_11) rfl (fun T5 X5 e5 => ?_)
  refine own_aloadN X5 hx (pc' := 15) (hb hby d8_14) rfl rfl rfl ?_
  refine own_getF X5 hx (pc' := 18) hZ hown (host := "") (Or.inl (Wd19 hw)) Via.refl e5 X_stopped (hb hby d8_15) rfl (fun T6 X6 e6 => ?_)
  obtain ⟨cl7, Ar7, q7, S7, M7, H7, G7⟩ := id V_n
  refine own_len X6 hx (pc' := 19) hZ e6 Ar7 S7 M7 (hb hby d8_18) rfl ?_
  refine own_icmpNo X6 hx (pc' := 22) (hb hby d8_19) (teq rfl).2 rfl ?_
  refine own_iconst X6 hx (pc' := 23) (4 : Int32) (hb hby d8_22) rfl rfl ?_
  refine own_iconst X6 hx (pc' := 24) (2 : Int32) (hb hby d8_23) rfl rfl ?_
  refine own_aloadN X6 hx (pc' := 25) (hb hby d8_24) rfl rfl rfl ?_
  refine own_getF X6 hx (pc' := 28) hZ hown (host := "") (Or.inl (Wd55 hw)) Via.refl e6 X_awaited (hb hby d8_25) rfl (fun T8 X8 e8 => ?_)
  refine own_imul X8 hx (pc' := 29) (z := (0 : Int32)) (hb hby d8_28) (by decide) rfl ?_
  refine own_callS X8 hx (pc' := 32) hZ hown (Wd34 hw) (Wd35 hw) (Wd36 hw) (Wd37 hw) (by decide) (rm_max l Z a0 hw [] (4 : Int32) (0 : Int32) h0 n0 Z0) e8 0 (by decide) (by decide) (by decide) (by decide) [(.int (4 : Int32)), (.int (0 : Int32))] [] (by rw [hml]; rfl) (lenOf pd_0 rfl) rfl rfl (Nat.le_of_eq rfl) (hb hby d8_29) rfl (fun v9 T9 L9 X9 hQ9 => ?_)
  obtain ⟨rfl, Nq9, e9⟩ := hQ9
  have N10 := Fr.app N0 Nq9
  show own_G p.tables e below _ T9 (mkF m 32 #[.val (.ref a), .val (.int (1 : Int32)), .val (.int bt), .unset] [(.int (own_max (4 : Int32) (0 : Int32)))])
  rw [show (own_max (4 : Int32) (0 : Int32)) = (4 : Int32) from by decide]
  refine own_istoreN X9 hx (pc' := 33) (Ls' := #[.val (.ref a), .val (.int (1 : Int32)), .val (.int bt), .val (.int (4 : Int32))]) (hb hby d8_32) rfl rfl ?_
  refine own_aloadN X9 hx (pc' := 34) (hb hby d8_33) rfl rfl rfl ?_
  refine own_aloadN X9 hx (pc' := 35) (hb hby d8_34) rfl rfl rfl ?_
  refine own_getF X9 hx (pc' := 38) hZ hown (host := "") (Or.inl (Wd19 hw)) Via.refl e9 X_stopped (hb hby d8_35) rfl (fun T11 X11 e11 => ?_)
  refine own_iloadN X11 hx (pc' := 39) (hb hby d8_38) rfl rfl ?_
  refine own_callS X11 hx (pc' := 42) hZ hown (Wd41 hw) (Wd42 hw) (Wd43 hw) (Wd44 hw) (by decide) (rm_copy l Z a0 hw [] nn kn (4 : Int32) h0 n0 Z0 (Or.inr (by decide)) V_n) e11 1 (by decide) (by decide) (by decide) (by decide) [(.ref nn), (.int (4 : Int32))] [(.ref a)] (by rw [hml]; rfl) (lenOf pd_1 rfl) rfl rfl (Nat.le_of_eq rfl) (hb hby d8_39) rfl (fun v12 T12 L12 X12 hQ12 => ?_)
  obtain ⟨nb12, k12, rfl, gs12, Nq12, K12, V12⟩ := hQ12
  have N13 := Fr.app N10 Nq12
  have ne_a_nb12 : a ≠ nb12 := Nat.ne_of_lt (Nat.lt_of_lt_of_le E_a.lt gs12)
  have ne_b1_nb12 : b1 ≠ nb12 := Nat.ne_of_lt (Nat.lt_of_lt_of_le V_1.lt gs12)
  have ne_b2_nb12 : b2 ≠ nb12 := Nat.ne_of_lt (Nat.lt_of_lt_of_le V_2.lt gs12)
  have ne_b3_nb12 : b3 ≠ nb12 := Nat.ne_of_lt (Nat.lt_of_lt_of_le V_3.lt gs12)
  have ne_nn_nb12 : nn ≠ nb12 := Nat.ne_of_lt (Nat.lt_of_lt_of_le V_n.lt gs12)
  have ge_nb12 : n0 ≤ nb12 := Nat.le_trans Z0 gs12
  have gk_nb12 : h0.size ≤ nb12 := Nat.le_trans K1.1 gs12
  have Z14 : n0 ≤ T12.heap.size := Nat.le_trans Z0 K12.1
  have K15 : Keep h0 T12.heap [a, b1, b2, b3] := Keep.trans K1 K12 all0
  have F16 := (Exa.keep E_a K12)
  have F17 := (F_c.keep K12 nin0)
  have F18 := (F_p.keep K12 nin0)
  have F19 := (F_u.keep K12 nin0)
  have F20 := (F_t.keep K12 nin0)
  have F21 := (X_awaited.keep K12 nin0)
  have F22 := (X_stopped.keep K12 nin0)
  have F23 := (X_toCome.keep K12 nin0)
  have F24 := (X_beatsLeft.keep K12 nin0)
  have F25 := (V_1.keep K12 nin0)
  have F26 := (V_2.keep K12 nin0)
  have F27 := (V_3.keep K12 nin0)
  have F28 := (V_n.keep K12 nin0)
  show own_G p.tables e below _ T12 (mkF m 42 #[.val (.ref a), .val (.int (1 : Int32)), .val (.int bt), .val (.int (4 : Int32))] [(.ref nb12), (.ref a)])
  refine own_putF X12 hx (pc' := 45) hZ (ty := (.array .int)) hown (host := "") (Or.inl (Wd19 hw)) Via.refl rfl F22 F16 (Or.inl (Wd20 hw)) (Wd3 hw) (by decide) rfl rfl (hb hby d8_42) rfl (fun T29 h29 X29 e29 W29 => ?_)
  have N30 := Fr.snoc X29 N13 g_a
  have Z31 : n0 ≤ h29.size := Nat.le_trans Z14 (Nat.le_of_eq (Wr.size W29).symm)
  have K32 : Keep h0 h29 [a, b1, b2, b3] := K15.wr W29 (Or.inl (List.mem_of_getElem? (i := 0) rfl))
  have F33 := (Exa.wr W29 F16)
  have F34 := (Fld.other W29 F17 (Or.inr (slot_ne (Or.inl (Wd33 hw)) (Or.inl (Wd20 hw)) (by decide) (t := .int) (t' := (.array .int)) (by decide) (by decide))))
  have F35 := (Fld.other W29 F18 (Or.inr (slot_ne (Or.inl (Wd14 hw)) (Or.inl (Wd20 hw)) (by decide) (t := (.array .int)) (t' := (.array .int)) (by decide) (by decide))))
  have F36 := (Fld.other W29 F19 (Or.inr (slot_ne (Or.inl (Wd16 hw)) (Or.inl (Wd20 hw)) (by decide) (t := (.array .int)) (t' := (.array .int)) (by decide) (by decide))))
  have F37 := (Fld.other W29 F20 (Or.inr (slot_ne (Or.inl (Wd18 hw)) (Or.inl (Wd20 hw)) (by decide) (t := (.array .int)) (t' := (.array .int)) (by decide) (by decide))))
  have F38 := (Fld.other W29 F21 (Or.inr (slot_ne (Or.inl (Wd56 hw)) (Or.inl (Wd20 hw)) (by decide) (t := .int) (t' := (.array .int)) (by decide) (by decide))))
  have F39 := (Fld.same W29 F22)
  have F40 := (Fld.other W29 F23 (Or.inr (slot_ne (Or.inl (Wd22 hw)) (Or.inl (Wd20 hw)) (by decide) (t := (.array .int)) (t' := (.array .int)) (by decide) (by decide))))
  have F41 := (Fld.other W29 F24 (Or.inr (slot_ne (Or.inl (Wd24 hw)) (Or.inl (Wd20 hw)) (by decide) (t := (.array .int)) (t' := (.array .int)) (by decide) (by decide))))
  have F42 := (F25.other W29 (Ne.symm ea1))
  have F43 := (F26.other W29 (Ne.symm ea2))
  have F44 := (F27.other W29 (Ne.symm ea3))
  have F45 := (F28.other W29 (Ne.symm ne_a_nn))
  have F46 := (V12.other W29 (Ne.symm ne_a_nb12))
  refine own_aloadN X29 hx (pc' := 46) (hb hby d8_45) rfl rfl rfl ?_
  refine own_aloadN X29 hx (pc' := 47) (hb hby d8_46) rfl rfl rfl ?_
  refine own_getF X29 hx (pc' := 50) hZ hown (host := "") (Or.inl (Wd21 hw)) Via.refl e29 F40 (hb hby d8_47) rfl (fun T47 X47 e47 => ?_)
  refine own_iloadN X47 hx (pc' := 51) (hb hby d8_50) rfl rfl ?_
  refine own_callS X47 hx (pc' := 54) hZ hown (Wd41 hw) (Wd42 hw) (Wd43 hw) (Wd44 hw) (by decide) (rm_copy l Z a0 hw [] nn kn (4 : Int32) h29 n0 Z31 (Or.inr (by decide)) F45) e47 1 (by decide) (by decide) (by decide) (by decide) [(.ref nn), (.int (4 : Int32))] [(.ref a)] (by rw [hml]; rfl) (lenOf pd_1 rfl) rfl rfl (Nat.le_of_eq rfl) (hb hby d8_51) rfl (fun v48 T48 L48 X48 hQ48 => ?_)
  obtain ⟨nb48, k48, rfl, gs48, Nq48, K48, V48⟩ := hQ48
  have N49 := Fr.app N30 Nq48
  have ne_a_nb48 : a ≠ nb48 := Nat.ne_of_lt (Nat.lt_of_lt_of_le F33.lt gs48)
  have ne_b1_nb48 : b1 ≠ nb48 := Nat.ne_of_lt (Nat.lt_of_lt_of_le F42.lt gs48)
  have ne_b2_nb48 : b2 ≠ nb48 := Nat.ne_of_lt (Nat.lt_of_lt_of_le F43.lt gs48)
  have ne_b3_nb48 : b3 ≠ nb48 := Nat.ne_of_lt (Nat.lt_of_lt_of_le F44.lt gs48)
  have ne_nn_nb48 : nn ≠ nb48 := Nat.ne_of_lt (Nat.lt_of_lt_of_le F45.lt gs48)
  have ne_nb12_nb48 : nb12 ≠ nb48 := Nat.ne_of_lt (Nat.lt_of_lt_of_le F46.lt gs48)
  have ge_nb48 : n0 ≤ nb48 := Nat.le_trans Z31 gs48
  have gk_nb48 : h0.size ≤ nb48 := Nat.le_trans K32.1 gs48
  have Z50 : n0 ≤ T48.heap.size := Nat.le_trans Z31 K48.1
  have K51 : Keep h0 T48.heap [a, b1, b2, b3] := Keep.trans K32 K48 all0
  have F52 := (Exa.keep F33 K48)
  have F53 := (F34.keep K48 nin0)
  have F54 := (F35.keep K48 nin0)
  have F55 := (F36.keep K48 nin0)
  have F56 := (F37.keep K48 nin0)
  have F57 := (F38.keep K48 nin0)
  have F58 := (F39.keep K48 nin0)
  have F59 := (F40.keep K48 nin0)
  have F60 := (F41.keep K48 nin0)
  have F61 := (F42.keep K48 nin0)
  have F62 := (F43.keep K48 nin0)
  have F63 := (F44.keep K48 nin0)
  have F64 := (F45.keep K48 nin0)
  have F65 := (F46.keep K48 nin0)
  show own_G p.tables e below _ T48 (mkF m 54 #[.val (.ref a), .val (.int (1 : Int32)), .val (.int bt), .val (.int (4 : Int32))] [(.ref nb48), (.ref a)])
  refine own_putF X48 hx (pc' := 57) hZ (ty := (.array .int)) hown (host := "") (Or.inl (Wd21 hw)) Via.refl rfl F59 F52 (Or.inl (Wd22 hw)) (Wd3 hw) (by decide) rfl rfl (hb hby d8_54) rfl (fun T66 h66 X66 e66 W66 => ?_)
  have N67 := Fr.snoc X66 N49 g_a
  have Z68 : n0 ≤ h66.size := Nat.le_trans Z50 (Nat.le_of_eq (Wr.size W66).symm)
  have K69 : Keep h0 h66 [a, b1, b2, b3] := K51.wr W66 (Or.inl (List.mem_of_getElem? (i := 0) rfl))
  have F70 := (Exa.wr W66 F52)
  have F71 := (Fld.other W66 F53 (Or.inr (slot_ne (Or.inl (Wd33 hw)) (Or.inl (Wd22 hw)) (by decide) (t := .int) (t' := (.array .int)) (by decide) (by decide))))
  have F72 := (Fld.other W66 F54 (Or.inr (slot_ne (Or.inl (Wd14 hw)) (Or.inl (Wd22 hw)) (by decide) (t := (.array .int)) (t' := (.array .int)) (by decide) (by decide))))
  have F73 := (Fld.other W66 F55 (Or.inr (slot_ne (Or.inl (Wd16 hw)) (Or.inl (Wd22 hw)) (by decide) (t := (.array .int)) (t' := (.array .int)) (by decide) (by decide))))
  have F74 := (Fld.other W66 F56 (Or.inr (slot_ne (Or.inl (Wd18 hw)) (Or.inl (Wd22 hw)) (by decide) (t := (.array .int)) (t' := (.array .int)) (by decide) (by decide))))
  have F75 := (Fld.other W66 F57 (Or.inr (slot_ne (Or.inl (Wd56 hw)) (Or.inl (Wd22 hw)) (by decide) (t := .int) (t' := (.array .int)) (by decide) (by decide))))
  have F76 := (Fld.other W66 F58 (Or.inr (slot_ne (Or.inl (Wd20 hw)) (Or.inl (Wd22 hw)) (by decide) (t := (.array .int)) (t' := (.array .int)) (by decide) (by decide))))
  have F77 := (Fld.same W66 F59)
  have F78 := (Fld.other W66 F60 (Or.inr (slot_ne (Or.inl (Wd24 hw)) (Or.inl (Wd22 hw)) (by decide) (t := (.array .int)) (t' := (.array .int)) (by decide) (by decide))))
  have F79 := (F61.other W66 (Ne.symm ea1))
  have F80 := (F62.other W66 (Ne.symm ea2))
  have F81 := (F63.other W66 (Ne.symm ea3))
  have F82 := (F64.other W66 (Ne.symm ne_a_nn))
  have F83 := (F65.other W66 (Ne.symm ne_a_nb12))
  have F84 := (V48.other W66 (Ne.symm ne_a_nb48))
  refine own_aloadN X66 hx (pc' := 58) (hb hby d8_57) rfl rfl rfl ?_
  refine own_aloadN X66 hx (pc' := 59) (hb hby d8_58) rfl rfl rfl ?_
  refine own_getF X66 hx (pc' := 62) hZ hown (host := "") (Or.inl (Wd23 hw)) Via.refl e66 F78 (hb hby d8_59) rfl (fun T85 X85 e85 => ?_)
  refine own_iloadN X85 hx (pc' := 63) (hb hby d8_62) rfl rfl ?_
  refine own_callS X85 hx (pc' := 66) hZ hown (Wd41 hw) (Wd42 hw) (Wd43 hw) (Wd44 hw) (by decide) (rm_copy l Z a0 hw [] nn kn (4 : Int32) h66 n0 Z68 (Or.inr (by decide)) F82) e85 1 (by decide) (by decide) (by decide) (by decide) [(.ref nn), (.int (4 : Int32))] [(.ref a)] (by rw [hml]; rfl) (lenOf pd_1 rfl) rfl rfl (Nat.le_of_eq rfl) (hb hby d8_63) rfl (fun v86 T86 L86 X86 hQ86 => ?_)
  obtain ⟨nb86, k86, rfl, gs86, Nq86, K86, V86⟩ := hQ86
  have N87 := Fr.app N67 Nq86
  have ne_a_nb86 : a ≠ nb86 := Nat.ne_of_lt (Nat.lt_of_lt_of_le F70.lt gs86)
  have ne_b1_nb86 : b1 ≠ nb86 := Nat.ne_of_lt (Nat.lt_of_lt_of_le F79.lt gs86)
  have ne_b2_nb86 : b2 ≠ nb86 := Nat.ne_of_lt (Nat.lt_of_lt_of_le F80.lt gs86)
  have ne_b3_nb86 : b3 ≠ nb86 := Nat.ne_of_lt (Nat.lt_of_lt_of_le F81.lt gs86)
  have ne_nn_nb86 : nn ≠ nb86 := Nat.ne_of_lt (Nat.lt_of_lt_of_le F82.lt gs86)
  have ne_nb12_nb86 : nb12 ≠ nb86 := Nat.ne_of_lt (Nat.lt_of_lt_of_le F83.lt gs86)
  have ne_nb48_nb86 : nb48 ≠ nb86 := Nat.ne_of_lt (Nat.lt_of_lt_of_le F84.lt gs86)
  have ge_nb86 : n0 ≤ nb86 := Nat.le_trans Z68 gs86
  have gk_nb86 : h0.size ≤ nb86 := Nat.le_trans K69.1 gs86
  have Z88 : n0 ≤ T86.heap.size := Nat.le_trans Z68 K86.1
  have K89 : Keep h0 T86.heap [a, b1, b2, b3] := Keep.trans K69 K86 all0
  have F90 := (Exa.keep F70 K86)
  have F91 := (F71.keep K86 nin0)
  have F92 := (F72.keep K86 nin0)
  have F93 := (F73.keep K86 nin0)
  have F94 := (F74.keep K86 nin0)
  have F95 := (F75.keep K86 nin0)
  have F96 := (F76.keep K86 nin0)
  have F97 := (F77.keep K86 nin0)
  have F98 := (F78.keep K86 nin0)
  have F99 := (F79.keep K86 nin0)
  have F100 := (F80.keep K86 nin0)
  have F101 := (F81.keep K86 nin0)
  have F102 := (F82.keep K86 nin0)
  have F103 := (F83.keep K86 nin0)
  have F104 := (F84.keep K86 nin0)
  show own_G p.tables e below _ T86 (mkF m 66 #[.val (.ref a), .val (.int (1 : Int32)), .val (.int bt), .val (.int (4 : Int32))] [(.ref nb86), (.ref a)])
  refine own_putF X86 hx (pc' := 69) hZ (ty := (.array .int)) hown (host := "") (Or.inl (Wd23 hw)) Via.refl rfl F98 F90 (Or.inl (Wd24 hw)) (Wd3 hw) (by decide) rfl rfl (hb hby d8_66) rfl (fun T105 h105 X105 e105 W105 => ?_)
  have N106 := Fr.snoc X105 N87 g_a
  have Z107 : n0 ≤ h105.size := Nat.le_trans Z88 (Nat.le_of_eq (Wr.size W105).symm)
  have K108 : Keep h0 h105 [a, b1, b2, b3] := K89.wr W105 (Or.inl (List.mem_of_getElem? (i := 0) rfl))
  have F109 := (Exa.wr W105 F90)
  have F110 := (Fld.other W105 F91 (Or.inr (slot_ne (Or.inl (Wd33 hw)) (Or.inl (Wd24 hw)) (by decide) (t := .int) (t' := (.array .int)) (by decide) (by decide))))
  have F111 := (Fld.other W105 F92 (Or.inr (slot_ne (Or.inl (Wd14 hw)) (Or.inl (Wd24 hw)) (by decide) (t := (.array .int)) (t' := (.array .int)) (by decide) (by decide))))
  have F112 := (Fld.other W105 F93 (Or.inr (slot_ne (Or.inl (Wd16 hw)) (Or.inl (Wd24 hw)) (by decide) (t := (.array .int)) (t' := (.array .int)) (by decide) (by decide))))
  have F113 := (Fld.other W105 F94 (Or.inr (slot_ne (Or.inl (Wd18 hw)) (Or.inl (Wd24 hw)) (by decide) (t := (.array .int)) (t' := (.array .int)) (by decide) (by decide))))
  have F114 := (Fld.other W105 F95 (Or.inr (slot_ne (Or.inl (Wd56 hw)) (Or.inl (Wd24 hw)) (by decide) (t := .int) (t' := (.array .int)) (by decide) (by decide))))
  have F115 := (Fld.other W105 F96 (Or.inr (slot_ne (Or.inl (Wd20 hw)) (Or.inl (Wd24 hw)) (by decide) (t := (.array .int)) (t' := (.array .int)) (by decide) (by decide))))
  have F116 := (Fld.other W105 F97 (Or.inr (slot_ne (Or.inl (Wd22 hw)) (Or.inl (Wd24 hw)) (by decide) (t := (.array .int)) (t' := (.array .int)) (by decide) (by decide))))
  have F117 := (Fld.same W105 F98)
  have F118 := (F99.other W105 (Ne.symm ea1))
  have F119 := (F100.other W105 (Ne.symm ea2))
  have F120 := (F101.other W105 (Ne.symm ea3))
  have F121 := (F102.other W105 (Ne.symm ne_a_nn))
  have F122 := (F103.other W105 (Ne.symm ne_a_nb12))
  have F123 := (F104.other W105 (Ne.symm ne_a_nb48))
  have F124 := (V86.other W105 (Ne.symm ne_a_nb86))
  refine own_aloadN X105 hx (pc' := 70) (hb hby d8_69) rfl rfl rfl ?_
  refine own_getF X105 hx (pc' := 73) hZ hown (host := "") (Or.inl (Wd19 hw)) Via.refl e105 F115 (hb hby d8_70) rfl (fun T125 X125 e125 => ?_)
  refine own_aloadN X125 hx (pc' := 74) (hb hby d8_73) rfl rfl rfl ?_
  refine own_getF X125 hx (pc' := 77) hZ hown (host := "") (Or.inl (Wd55 hw)) Via.refl e125 F114 (hb hby d8_74) rfl (fun T126 X126 e126 => ?_)
  refine own_aloadN X126 hx (pc' := 78) (hb hby d8_77) rfl rfl rfl ?_
  refine own_getF X126 hx (pc' := 81) hZ hown (host := "") (Or.inl (Wd13 hw)) Via.refl e126 F111 (hb hby d8_78) rfl (fun T127 X127 e127 => ?_)
  refine own_iloadN X127 hx (pc' := 82) (hb hby d8_81) rfl rfl ?_
  have hi128 : ¬ (1 : Int32) < 0 ∧ (1 : Int32) < z := ⟨by decide, by rw [Int32.lt_iff_toInt_lt, own_t32_1]; omega⟩
  obtain ⟨cl129, Ar129, q129, S129, M129, H129, G129⟩ := id F118
  refine own_iaload X127 hx (pc' := 83) hZ (v := x1) e127 Ar129 (inb_of S129 hi128) (Has.at H129 (inb_of S129 hi128) rfl) (hb hby d8_82) rfl ?_
  obtain ⟨cl130, Ar130, q130, S130, M130, H130, G130⟩ := id F122
  refine own_stI X127 hx (pc' := 84) hZ e127 Ar130 (inb_of S130 ⟨by decide, by decide⟩) (hb hby d8_83) rfl (fun T131 h131 X131 e131 W131 => ?_)
  have N132 := Fr.snoc X131 N106 ge_nb12
  have Z133 : n0 ≤ h131.size := Nat.le_trans Z107 (Nat.le_of_eq (Wr.size W131).symm)
  have K134 : Keep h0 h131 [a, b1, b2, b3] := K108.wr W131 (Or.inr gk_nb12)
  have F135 := (Exa.wr W131 F109)
  have F136 := (Fld.other W131 F110 (Or.inl ne_a_nb12))
  have F137 := (Fld.other W131 F111 (Or.inl ne_a_nb12))
  have F138 := (Fld.other W131 F112 (Or.inl ne_a_nb12))
  have F139 := (Fld.other W131 F113 (Or.inl ne_a_nb12))
  have F140 := (Fld.other W131 F114 (Or.inl ne_a_nb12))
  have F141 := (Fld.other W131 F115 (Or.inl ne_a_nb12))
  have F142 := (Fld.other W131 F116 (Or.inl ne_a_nb12))
  have F143 := (Fld.other W131 F117 (Or.inl ne_a_nb12))
  have F144 := (F118.other W131 ne_b1_nb12)
  have F145 := (F119.other W131 ne_b2_nb12)
  have F146 := (F120.other W131 ne_b3_nb12)
  have F147 := (F121.other W131 ne_nn_nb12)
  have F148 : Arv Z h131 nb12 k12 .int (4 : Int32) [(.int x1), (.int (0 : Int32)), (.int (0 : Int32))] (.int (0 : Int32)) := (Arv.set Ar130 q130 S130 M130 H130 G130 rfl W131 0 rfl (Nat.le_of_ble_eq_true rfl))
  have F149 := (F123.other W131 (Ne.symm ne_nb12_nb48))
  have F150 := (F124.other W131 (Ne.symm ne_nb12_nb86))
  refine own_aloadN X131 hx (pc' := 85) (hb hby d8_84) rfl rfl rfl ?_
  refine own_getF X131 hx (pc' := 88) hZ hown (host := "") (Or.inl (Wd21 hw)) Via.refl e131 F142 (hb hby d8_85) rfl (fun T151 X151 e151 => ?_)
  refine own_aloadN X151 hx (pc' := 89) (hb hby d8_88) rfl rfl rfl ?_
  refine own_getF X151 hx (pc' := 92) hZ hown (host := "") (Or.inl (Wd55 hw)) Via.refl e151 F140 (hb hby d8_89) rfl (fun T152 X152 e152 => ?_)
  refine own_aloadN X152 hx (pc' := 93) (hb hby d8_92) rfl rfl rfl ?_
  refine own_getF X152 hx (pc' := 96) hZ hown (host := "") (Or.inl (Wd15 hw)) Via.refl e152 F138 (hb hby d8_93) rfl (fun T153 X153 e153 => ?_)
  refine own_iloadN X153 hx (pc' := 97) (hb hby d8_96) rfl rfl ?_
  have hi154 : ¬ (1 : Int32) < 0 ∧ (1 : Int32) < z := ⟨by decide, by rw [Int32.lt_iff_toInt_lt, own_t32_1]; omega⟩
  obtain ⟨cl155, Ar155, q155, S155, M155, H155, G155⟩ := id F145
  refine own_iaload X153 hx (pc' := 98) hZ (v := u1) e153 Ar155 (inb_of S155 hi154) (Has.at H155 (inb_of S155 hi154) rfl) (hb hby d8_97) rfl ?_
  refine own_iconst X153 hx (pc' := 99) (1 : Int32) (hb hby d8_98) rfl rfl ?_
  refine own_isub X153 hx (pc' := 100) (hb hby d8_99) rfl rfl ?_
  obtain ⟨cl156, Ar156, q156, S156, M156, H156, G156⟩ := id F149
  refine own_stI X153 hx (pc' := 101) hZ e153 Ar156 (inb_of S156 ⟨by decide, by decide⟩) (hb hby d8_100) rfl (fun T157 h157 X157 e157 W157 => ?_)
  have N158 := Fr.snoc X157 N132 ge_nb48
  have Z159 : n0 ≤ h157.size := Nat.le_trans Z133 (Nat.le_of_eq (Wr.size W157).symm)
  have K160 : Keep h0 h157 [a, b1, b2, b3] := K134.wr W157 (Or.inr gk_nb48)
  have F161 := (Exa.wr W157 F135)
  have F162 := (Fld.other W157 F136 (Or.inl ne_a_nb48))
  have F163 := (Fld.other W157 F137 (Or.inl ne_a_nb48))
  have F164 := (Fld.other W157 F138 (Or.inl ne_a_nb48))
  have F165 := (Fld.other W157 F139 (Or.inl ne_a_nb48))
  have F166 := (Fld.other W157 F140 (Or.inl ne_a_nb48))
  have F167 := (Fld.other W157 F141 (Or.inl ne_a_nb48))
  have F168 := (Fld.other W157 F142 (Or.inl ne_a_nb48))
  have F169 := (Fld.other W157 F143 (Or.inl ne_a_nb48))
  have F170 := (F144.other W157 ne_b1_nb48)
  have F171 := (F145.other W157 ne_b2_nb48)
  have F172 := (F146.other W157 ne_b3_nb48)
  have F173 := (F147.other W157 ne_nn_nb48)
  have F174 := (F148.other W157 ne_nb12_nb48)
  have F175 : Arv Z h157 nb48 k48 .int (4 : Int32) [(.int (u1 - (1 : Int32))), (.int (0 : Int32)), (.int (0 : Int32))] (.int (0 : Int32)) := (Arv.set Ar156 q156 S156 M156 H156 G156 rfl W157 0 rfl (Nat.le_of_ble_eq_true rfl))
  have F176 := (F150.other W157 (Ne.symm ne_nb48_nb86))
  refine own_aloadN X157 hx (pc' := 102) (hb hby d8_101) rfl rfl rfl ?_
  refine own_getF X157 hx (pc' := 105) hZ hown (host := "") (Or.inl (Wd23 hw)) Via.refl e157 F169 (hb hby d8_102) rfl (fun T177 X177 e177 => ?_)
  refine own_aloadN X177 hx (pc' := 106) (hb hby d8_105) rfl rfl rfl ?_
  refine own_getF X177 hx (pc' := 109) hZ hown (host := "") (Or.inl (Wd55 hw)) Via.refl e177 F166 (hb hby d8_106) rfl (fun T178 X178 e178 => ?_)
  refine own_iloadN X178 hx (pc' := 110) (hb hby d8_109) rfl rfl ?_
  obtain ⟨cl179, Ar179, q179, S179, M179, H179, G179⟩ := id F176
  refine own_stI X178 hx (pc' := 111) hZ e178 Ar179 (inb_of S179 ⟨by decide, by decide⟩) (hb hby d8_110) rfl (fun T180 h180 X180 e180 W180 => ?_)
  have N181 := Fr.snoc X180 N158 ge_nb86
  have Z182 : n0 ≤ h180.size := Nat.le_trans Z159 (Nat.le_of_eq (Wr.size W180).symm)
  have K183 : Keep h0 h180 [a, b1, b2, b3] := K160.wr W180 (Or.inr gk_nb86)
  have F184 := (Exa.wr W180 F161)
  have F185 := (Fld.other W180 F162 (Or.inl ne_a_nb86))
  have F186 := (Fld.other W180 F163 (Or.inl ne_a_nb86))
  have F187 := (Fld.other W180 F164 (Or.inl ne_a_nb86))
  have F188 := (Fld.other W180 F165 (Or.inl ne_a_nb86))
  have F189 := (Fld.other W180 F166 (Or.inl ne_a_nb86))
  have F190 := (Fld.other W180 F167 (Or.inl ne_a_nb86))
  have F191 := (Fld.other W180 F168 (Or.inl ne_a_nb86))
  have F192 := (Fld.other W180 F169 (Or.inl ne_a_nb86))
  have F193 := (F170.other W180 ne_b1_nb86)
  have F194 := (F171.other W180 ne_b2_nb86)
  have F195 := (F172.other W180 ne_b3_nb86)
  have F196 := (F173.other W180 ne_nn_nb86)
  have F197 := (F174.other W180 ne_nb12_nb86)
  have F198 := (F175.other W180 ne_nb48_nb86)
  have F199 : Arv Z h180 nb86 k86 .int (4 : Int32) [(.int bt), (.int (0 : Int32)), (.int (0 : Int32))] (.int (0 : Int32)) := (Arv.set Ar179 q179 S179 M179 H179 G179 rfl W180 0 rfl (Nat.le_of_ble_eq_true rfl))
  refine own_aloadN X180 hx (pc' := 112) (hb hby d8_111) rfl rfl rfl ?_
  refine own_dup X180 hx (pc' := 113) (hb hby d8_112) rfl rfl ?_
  refine own_getF X180 hx (pc' := 116) hZ hown (host := "") (Or.inl (Wd55 hw)) Via.refl e180 F189 (hb hby d8_113) rfl (fun T200 X200 e200 => ?_)
  refine own_iconst X200 hx (pc' := 117) (1 : Int32) (hb hby d8_116) rfl rfl ?_
  refine own_iadd X200 hx (pc' := 118) (z := (1 : Int32)) (hb hby d8_117) (by decide) rfl ?_
  refine own_putF X200 hx (pc' := 121) hZ (ty := .int) hown (host := "") (Or.inl (Wd55 hw)) Via.refl e200 F189 F184 (Or.inl (Wd56 hw)) (Wd3 hw) (by decide) rfl rfl (hb hby d8_118) rfl (fun T201 h201 X201 e201 W201 => ?_)
  have N202 := Fr.snoc X201 N181 g_a
  have Z203 : n0 ≤ h201.size := Nat.le_trans Z182 (Nat.le_of_eq (Wr.size W201).symm)
  have K204 : Keep h0 h201 [a, b1, b2, b3] := K183.wr W201 (Or.inl (List.mem_of_getElem? (i := 0) rfl))
  have F205 := (Exa.wr W201 F184)
  have F206 := (Fld.other W201 F185 (Or.inr (slot_ne (Or.inl (Wd33 hw)) (Or.inl (Wd56 hw)) (by decide) (t := .int) (t' := .int) (by decide) (by decide))))
  have F207 := (Fld.other W201 F186 (Or.inr (slot_ne (Or.inl (Wd14 hw)) (Or.inl (Wd56 hw)) (by decide) (t := (.array .int)) (t' := .int) (by decide) (by decide))))
  have F208 := (Fld.other W201 F187 (Or.inr (slot_ne (Or.inl (Wd16 hw)) (Or.inl (Wd56 hw)) (by decide) (t := (.array .int)) (t' := .int) (by decide) (by decide))))
  have F209 := (Fld.other W201 F188 (Or.inr (slot_ne (Or.inl (Wd18 hw)) (Or.inl (Wd56 hw)) (by decide) (t := (.array .int)) (t' := .int) (by decide) (by decide))))
  have F210 := (Fld.same W201 F189)
  have F211 := (Fld.other W201 F190 (Or.inr (slot_ne (Or.inl (Wd20 hw)) (Or.inl (Wd56 hw)) (by decide) (t := (.array .int)) (t' := .int) (by decide) (by decide))))
  have F212 := (Fld.other W201 F191 (Or.inr (slot_ne (Or.inl (Wd22 hw)) (Or.inl (Wd56 hw)) (by decide) (t := (.array .int)) (t' := .int) (by decide) (by decide))))
  have F213 := (Fld.other W201 F192 (Or.inr (slot_ne (Or.inl (Wd24 hw)) (Or.inl (Wd56 hw)) (by decide) (t := (.array .int)) (t' := .int) (by decide) (by decide))))
  have F214 := (F193.other W201 (Ne.symm ea1))
  have F215 := (F194.other W201 (Ne.symm ea2))
  have F216 := (F195.other W201 (Ne.symm ea3))
  have F217 := (F196.other W201 (Ne.symm ne_a_nn))
  have F218 := (F197.other W201 (Ne.symm ne_a_nb12))
  have F219 := (F198.other W201 (Ne.symm ne_a_nb48))
  have F220 := (F199.other W201 (Ne.symm ne_a_nb86))
  refine own_aloadN X201 hx (pc' := 122) (hb hby d8_121) rfl rfl rfl ?_
  refine own_iloadN X201 hx (pc' := 123) (hb hby d8_122) rfl rfl ?_
  refine own_callV X201 hx (pc' := 126) hZ hown (Wd62 hw) (Wd64 hw) (Wd65 hw) (Wd66 hw) (Wd4 hw) (by decide) (rm_rem31 l Z a0 hw [] a b1 b2 b3 k1 k2 k3 z x0 x1 x2 u0 u1 u2 t0 t1 t2 nb12 nb48 nb86 (1 : Int32) h201 n0 Z203 hz g_a g_b1 g_b2 g_b3 dj12 dj13 dj23 F205 F206 F207 F208 F209 F214 F215 F216 F210 F211 F212 F213) e201 F205 0 (by decide) (by decide) (by decide) (by decide) [(.int (1 : Int32))] [] (by rw [hml]; rfl) (lenOf pd_2 rfl) rfl rfl (Nat.le_of_eq rfl) (hb hby d8_123) rfl (fun v221 T221 L221 X221 hQ221 => ?_)
  obtain ⟨rfl, Nq221, K221, Gc221, Gp221, Gu221, Gt221, Va221, Vb221, Vc221, Xa221, Xb221, Xc221, Xd221⟩ := hQ221
  have N222 := Fr.app N202 Nq221
  have Z223 : n0 ≤ T221.heap.size := Nat.le_trans Z203 K221.1
  have K224 : Keep h0 T221.heap [a, b1, b2, b3] := Keep.trans K204 K221 (allS (Or.inl (List.mem_of_getElem? (i := 0) rfl)) (allS (Or.inl (List.mem_of_getElem? (i := 1) rfl)) (allS (Or.inl (List.mem_of_getElem? (i := 2) rfl)) (allS (Or.inl (List.mem_of_getElem? (i := 3) rfl)) all0))))
  have F225 := (Exa.keep F205 K221)
  have F226 := (F218.keep K221 (ninS (Ne.symm ne_a_nb12) (ninS (Ne.symm ne_b1_nb12) (ninS (Ne.symm ne_b2_nb12) (ninS (Ne.symm ne_b3_nb12) nin0)))))
  have F227 := (F219.keep K221 (ninS (Ne.symm ne_a_nb48) (ninS (Ne.symm ne_b1_nb48) (ninS (Ne.symm ne_b2_nb48) (ninS (Ne.symm ne_b3_nb48) nin0)))))
  have F228 := (F220.keep K221 (ninS (Ne.symm ne_a_nb86) (ninS (Ne.symm ne_b1_nb86) (ninS (Ne.symm ne_b2_nb86) (ninS (Ne.symm ne_b3_nb86) nin0)))))
  show own_G p.tables e below _ T221 (mkF m 126 #[.val (.ref a), .val (.int (1 : Int32)), .val (.int bt), .val (.int (4 : Int32))] [])
  refine own_retV X221 hx hlk hret (hb hby d8_126) (by decide) (by decide) ?_
  exact ⟨rfl, N222, K224, Gc221, Gu221, Vb221, nb12, nb48, nb86, _, _, _, ⟨gk_nb12, gk_nb48, gk_nb86⟩, ⟨ne_nb12_nb48, ne_nb12_nb86, ne_nb48_nb86⟩, Xa221, Xb221, Xc221, Xd221, F226, F227, F228⟩

def QrsN32 (Z : State) (a b1 b2 b3 : Addr) (k1 k2 k3 : ClassId) (z x0 x1 x2 u0 u1 u2 t0 t1 t2 : Int32) (nn : Addr) (kn : ClassId) (bt : Int32) (h0 : Heap) (n0 : Nat) (v : Option Value) (h : Heap) (L : List Loc) : Prop := v = none ∧ Fr n0 L ∧ Keep h0 h [a, b1, b2, b3] ∧ Fld Z h a "com/example/rootcast/rootcast/tree/Children" "count" "I" (.int (2 : Int32)) ∧ Fld Z h a "com/example/rootcast/rootcast/tree/Children" "subtree" "[I" (.ref b2) ∧ Arv Z h b2 k2 .int z [(.int u0), (.int u1), (.int u2)] (.int (0 : Int32)) ∧ Fld Z h a "com/example/rootcast/rootcast/tree/Children" "awaited" "I" (.int (0 : Int32))
theorem ef_rm_rsN32 (m : MethodId) (x0 : Addr) (x1 : Int32) (x2 : Int32) : entryFrame m #[(.ref x0), (.int x1), (.int x2)] 4 = mkF m 0 #[.val (.ref x0), .val (.int x1), .val (.int x2), .unset] [] := by first | (simp [entryFrame, mkF, argsToLocals, Value.category, maxLocals]; done) | rfl
set_option maxRecDepth 65536 in
set_option maxHeartbeats 40000000 in
theorem rm_rsN32 (l : Launch) (Z : State) (a0 : Array Value) (hw : ∀ d ∈ tables_1, d.before a0 Z = true) (ws : List Jvm.Cond) (a b1 b2 b3 : Addr) (k1 k2 k3 : ClassId) (z x0 x1 x2 u0 u1 u2 t0 t1 t2 : Int32) (nn : Addr) (kn : ClassId) (bt : Int32) (h0 : Heap) (n0 : Nat) (Z0 : n0 ≤ h0.size) (hz : z.toInt = 3 ∨ z.toInt = 4) (g_a : n0 ≤ a) (g_b1 : n0 ≤ b1) (g_b2 : n0 ≤ b2) (g_b3 : n0 ≤ b3) (dj12 : b1 ≠ b2) (dj13 : b1 ≠ b3) (dj23 : b2 ≠ b3) (hgt : ¬ (1 : Int32) < u2) (E_a : Exa Z h0 a "com/example/rootcast/rootcast/tree/Children") (F_c : Fld Z h0 a "com/example/rootcast/rootcast/tree/Children" "count" "I" (.int (3 : Int32))) (F_p : Fld Z h0 a "com/example/rootcast/rootcast/tree/Children" "peers" "[I" (.ref b1)) (F_u : Fld Z h0 a "com/example/rootcast/rootcast/tree/Children" "subtree" "[I" (.ref b2)) (F_t : Fld Z h0 a "com/example/rootcast/rootcast/tree/Children" "sent" "[I" (.ref b3)) (X_awaited : Fld Z h0 a "com/example/rootcast/rootcast/tree/Children" "awaited" "I" (.int (0 : Int32))) (X_stopped : Fld Z h0 a "com/example/rootcast/rootcast/tree/Children" "stopped" "[I" (.ref nn)) (X_toCome : Fld Z h0 a "com/example/rootcast/rootcast/tree/Children" "toCome" "[I" (.ref nn)) (X_beatsLeft : Fld Z h0 a "com/example/rootcast/rootcast/tree/Children" "beatsLeft" "[I" (.ref nn)) (V_1 : Arv Z h0 b1 k1 .int z [(.int x0), (.int x1), (.int x2)] (.int (0 : Int32))) (V_2 : Arv Z h0 b2 k2 .int z [(.int u0), (.int u1), (.int u2)] (.int (0 : Int32))) (V_3 : Arv Z h0 b3 k3 .int z [(.int t0), (.int t1), (.int t2)] (.int (0 : Int32))) (V_n : Arv Z h0 nn kn .int (0 : Int32) [] (.int (0 : Int32))) :
    MetFree l (⟨"com/example/rootcast/rootcast/tree/Children", "removeStopped", "(II)V"⟩ : MethodName) (head1 (Jvm.Cond.code (⟨"com/example/rootcast/rootcast/tree/Children", "removeStopped", "(II)V"⟩ : MethodName) prog_127_method_9_code 4 none :: ws) ({ frames := 2, cells := 0, slots := 0, locals := 34 } : Room)) (fun aa U => aa = #[(.ref a), (.int (2 : Int32)), (.int bt)] ∧ Z.Warmed39 U.vm ∧ U.heap = h0) (fun _ _ _ _ _ => True) (fun _ U o U' => ∃ v L, o = .returned v ∧ QrsN32 Z a b1 b2 b3 k1 k2 k3 z x0 x1 x2 u0 u1 u2 t0 t1 t2 nn kn bt h0 n0 v U'.heap L ∧ FrameEnd U o U' L (({ frames := 2, cells := 0, slots := 0, locals := 34 } : Room).cells) (({ frames := 2, cells := 0, slots := 0, locals := 34 } : Room).slots)) := by
  refine own_body pf_10 ?_
  intro p e s m below meth c s₁ hx hby hml hown hnm hlk hret hZ X0 e0
  have N0 : Fr n0 [] := Fr.nil n0
  refine own_go (f' := (mkF m 0 #[.val (.ref a), .val (.int (2 : Int32)), .val (.int bt), .unset] [])) (fun t k => castTop (ef_rm_rsN32 m a (2 : Int32) bt) k) ?_
  have ea1 : a ≠ b1 := by obtain ⟨c1, A1, -⟩ := V_1; exact ne_arr E_a (Wd3 hw) A1
  have ea2 : a ≠ b2 := by obtain ⟨c1, A1, -⟩ := V_2; exact ne_arr E_a (Wd3 hw) A1
  have ea3 : a ≠ b3 := by obtain ⟨c1, A1, -⟩ := V_3; exact ne_arr E_a (Wd3 hw) A1
  have ne_a_nn : a ≠ nn := by obtain ⟨q1, A1, -⟩ := id V_n; exact ne_arr E_a (Wd3 hw) A1
  have hzn : ¬ z < 0 := by rw [Int32.lt_iff_toInt_lt]; show ¬ z.toInt < 0; omega
  have hz3 : 3 ≤ z.toNatClampNeg := by have := nat_of hzn; omega
  have K1 : Keep h0 h0 [a, b1, b2, b3] := Keep.refl _ _
  refine own_aloadN X0 hx (pc' := 1) (hb hby d8_0) rfl rfl rfl ?_
  refine own_getF X0 hx (pc' := 4) hZ hown (host := "") (Or.inl (Wd15 hw)) Via.refl e0 F_u (hb hby d8_1) rfl (fun T2 X2 e2 => ?_)
  refine own_iloadN X2 hx (pc' := 5) (hb hby d8_4) rfl rfl ?_
  have hi3 : ¬ (2 : Int32) < 0 ∧ (2 : Int32) < z := ⟨by decide, by rw [Int32.lt_iff_toInt_lt, own_t32_2]; omega⟩
  obtain ⟨cl4, Ar4, q4, S4, M4, H4, G4⟩ := id V_2
  refine own_iaload X2 hx (pc' := 6) hZ (v := u2) e2 Ar4 (inb_of S4 hi3) (Has.at H4 (inb_of S4 hi3) rfl) (hb hby d8_5) rfl ?_
  refine own_iconst X2 hx (pc' := 7) (1 : Int32) (hb hby d8_6) rfl rfl ?_
  refine own_icmpYes X2 hx (pc' := 121) (hb hby d8_7) (flt hgt).2.2.2 (by decide) (by decide) ?_
  refine own_aloadN X2 hx (pc' := 122) (hb hby d8_121) rfl rfl rfl ?_
  refine own_iloadN X2 hx (pc' := 123) (hb hby d8_122) rfl rfl ?_
  refine own_callV X2 hx (pc' := 126) hZ hown (Wd62 hw) (Wd64 hw) (Wd65 hw) (Wd66 hw) (Wd4 hw) (by decide) (rm_rem32 l Z a0 hw [] a b1 b2 b3 k1 k2 k3 z x0 x1 x2 u0 u1 u2 t0 t1 t2 nn nn nn (0 : Int32) h0 n0 Z0 hz g_a g_b1 g_b2 g_b3 dj12 dj13 dj23 E_a F_c F_p F_u F_t V_1 V_2 V_3 X_awaited X_stopped X_toCome X_beatsLeft) e2 E_a 0 (by decide) (by decide) (by decide) (by decide) [(.int (2 : Int32))] [] (by rw [hml]; rfl) (lenOf pd_2 rfl) rfl rfl (Nat.le_of_eq rfl) (hb hby d8_123) rfl (fun v5 T5 L5 X5 hQ5 => ?_)
  obtain ⟨rfl, Nq5, K5, Gc5, Gp5, Gu5, Gt5, Va5, Vb5, Vc5, Xa5, Xb5, Xc5, Xd5⟩ := hQ5
  have N6 := Fr.app N0 Nq5
  have Z7 : n0 ≤ T5.heap.size := Nat.le_trans Z0 K5.1
  have K8 : Keep h0 T5.heap [a, b1, b2, b3] := Keep.trans K1 K5 (allS (Or.inl (List.mem_of_getElem? (i := 0) rfl)) (allS (Or.inl (List.mem_of_getElem? (i := 1) rfl)) (allS (Or.inl (List.mem_of_getElem? (i := 2) rfl)) (allS (Or.inl (List.mem_of_getElem? (i := 3) rfl)) all0))))
  have F9 := (Exa.keep E_a K5)
  show own_G p.tables e below _ T5 (mkF m 126 #[.val (.ref a), .val (.int (2 : Int32)), .val (.int bt), .unset] [])
  refine own_retV X5 hx hlk hret (hb hby d8_126) (by decide) (by decide) ?_
  exact ⟨rfl, N6, K8, Gc5, Gu5, Vb5, Xa5⟩

def QrsA32 (Z : State) (a b1 b2 b3 : Addr) (k1 k2 k3 : ClassId) (z x0 x1 x2 u0 u1 u2 t0 t1 t2 : Int32) (nn : Addr) (kn : ClassId) (bt : Int32) (h0 : Heap) (n0 : Nat) (v : Option Value) (h : Heap) (L : List Loc) : Prop := v = none ∧ Fr n0 L ∧ Keep h0 h [a, b1, b2, b3] ∧ Fld Z h a "com/example/rootcast/rootcast/tree/Children" "count" "I" (.int (2 : Int32)) ∧ Fld Z h a "com/example/rootcast/rootcast/tree/Children" "subtree" "[I" (.ref b2) ∧ Arv Z h b2 k2 .int z [(.int u0), (.int u1), (.int u2)] (.int (0 : Int32)) ∧ ∃ (c1 c2 c3 : Addr) (j1 j2 j3 : ClassId), (h0.size ≤ c1 ∧ h0.size ≤ c2 ∧ h0.size ≤ c3) ∧ (c1 ≠ c2 ∧ c1 ≠ c3 ∧ c2 ≠ c3) ∧ Fld Z h a "com/example/rootcast/rootcast/tree/Children" "awaited" "I" (.int (1 : Int32)) ∧ Fld Z h a "com/example/rootcast/rootcast/tree/Children" "stopped" "[I" (.ref c1) ∧ Fld Z h a "com/example/rootcast/rootcast/tree/Children" "toCome" "[I" (.ref c2) ∧ Fld Z h a "com/example/rootcast/rootcast/tree/Children" "beatsLeft" "[I" (.ref c3) ∧ Arv Z h c1 j1 .int (4 : Int32) [(.int x2), (.int (0 : Int32)), (.int (0 : Int32))] (.int (0 : Int32)) ∧ Arv Z h c2 j2 .int (4 : Int32) [(.int (u2 - (1 : Int32))), (.int (0 : Int32)), (.int (0 : Int32))] (.int (0 : Int32)) ∧ Arv Z h c3 j3 .int (4 : Int32) [(.int bt), (.int (0 : Int32)), (.int (0 : Int32))] (.int (0 : Int32))
theorem ef_rm_rsA32 (m : MethodId) (x0 : Addr) (x1 : Int32) (x2 : Int32) : entryFrame m #[(.ref x0), (.int x1), (.int x2)] 4 = mkF m 0 #[.val (.ref x0), .val (.int x1), .val (.int x2), .unset] [] := by first | (simp [entryFrame, mkF, argsToLocals, Value.category, maxLocals]; done) | rfl
set_option maxRecDepth 65536 in
set_option maxHeartbeats 40000000 in
theorem rm_rsA32 (l : Launch) (Z : State) (a0 : Array Value) (hw : ∀ d ∈ tables_1, d.before a0 Z = true) (ws : List Jvm.Cond) (a b1 b2 b3 : Addr) (k1 k2 k3 : ClassId) (z x0 x1 x2 u0 u1 u2 t0 t1 t2 : Int32) (nn : Addr) (kn : ClassId) (bt : Int32) (h0 : Heap) (n0 : Nat) (Z0 : n0 ≤ h0.size) (hz : z.toInt = 3 ∨ z.toInt = 4) (g_a : n0 ≤ a) (g_b1 : n0 ≤ b1) (g_b2 : n0 ≤ b2) (g_b3 : n0 ≤ b3) (dj12 : b1 ≠ b2) (dj13 : b1 ≠ b3) (dj23 : b2 ≠ b3) (hgt : (1 : Int32) < u2) (E_a : Exa Z h0 a "com/example/rootcast/rootcast/tree/Children") (F_c : Fld Z h0 a "com/example/rootcast/rootcast/tree/Children" "count" "I" (.int (3 : Int32))) (F_p : Fld Z h0 a "com/example/rootcast/rootcast/tree/Children" "peers" "[I" (.ref b1)) (F_u : Fld Z h0 a "com/example/rootcast/rootcast/tree/Children" "subtree" "[I" (.ref b2)) (F_t : Fld Z h0 a "com/example/rootcast/rootcast/tree/Children" "sent" "[I" (.ref b3)) (X_awaited : Fld Z h0 a "com/example/rootcast/rootcast/tree/Children" "awaited" "I" (.int (0 : Int32))) (X_stopped : Fld Z h0 a "com/example/rootcast/rootcast/tree/Children" "stopped" "[I" (.ref nn)) (X_toCome : Fld Z h0 a "com/example/rootcast/rootcast/tree/Children" "toCome" "[I" (.ref nn)) (X_beatsLeft : Fld Z h0 a "com/example/rootcast/rootcast/tree/Children" "beatsLeft" "[I" (.ref nn)) (V_1 : Arv Z h0 b1 k1 .int z [(.int x0), (.int x1), (.int x2)] (.int (0 : Int32))) (V_2 : Arv Z h0 b2 k2 .int z [(.int u0), (.int u1), (.int u2)] (.int (0 : Int32))) (V_3 : Arv Z h0 b3 k3 .int z [(.int t0), (.int t1), (.int t2)] (.int (0 : Int32))) (V_n : Arv Z h0 nn kn .int (0 : Int32) [] (.int (0 : Int32))) :
    MetFree l (⟨"com/example/rootcast/rootcast/tree/Children", "removeStopped", "(II)V"⟩ : MethodName) (head1 (Jvm.Cond.code (⟨"com/example/rootcast/rootcast/tree/Children", "removeStopped", "(II)V"⟩ : MethodName) prog_127_method_9_code 4 none :: ws) ({ frames := 2, cells := 3, slots := 12, locals := 48 } : Room)) (fun aa U => aa = #[(.ref a), (.int (2 : Int32)), (.int bt)] ∧ Z.Warmed39 U.vm ∧ U.heap = h0) (fun _ _ _ _ _ => True) (fun _ U o U' => ∃ v L, o = .returned v ∧ QrsA32 Z a b1 b2 b3 k1 k2 k3 z x0 x1 x2 u0 u1 u2 t0 t1 t2 nn kn bt h0 n0 v U'.heap L ∧ FrameEnd U o U' L (({ frames := 2, cells := 3, slots := 12, locals := 48 } : Room).cells) (({ frames := 2, cells := 3, slots := 12, locals := 48 } : Room).slots)) := by
  refine own_body pf_10 ?_
  intro p e s m below meth c s₁ hx hby hml hown hnm hlk hret hZ X0 e0
  have N0 : Fr n0 [] := Fr.nil n0
  refine own_go (f' := (mkF m 0 #[.val (.ref a), .val (.int (2 : Int32)), .val (.int bt), .unset] [])) (fun t k => castTop (ef_rm_rsA32 m a (2 : Int32) bt) k) ?_
  have ea1 : a ≠ b1 := by obtain ⟨c1, A1, -⟩ := V_1; exact ne_arr E_a (Wd3 hw) A1
  have ea2 : a ≠ b2 := by obtain ⟨c1, A1, -⟩ := V_2; exact ne_arr E_a (Wd3 hw) A1
  have ea3 : a ≠ b3 := by obtain ⟨c1, A1, -⟩ := V_3; exact ne_arr E_a (Wd3 hw) A1
  have ne_a_nn : a ≠ nn := by obtain ⟨q1, A1, -⟩ := id V_n; exact ne_arr E_a (Wd3 hw) A1
  have hzn : ¬ z < 0 := by rw [Int32.lt_iff_toInt_lt]; show ¬ z.toInt < 0; omega
  have hz3 : 3 ≤ z.toNatClampNeg := by have := nat_of hzn; omega
  have K1 : Keep h0 h0 [a, b1, b2, b3] := Keep.refl _ _
  refine own_aloadN X0 hx (pc' := 1) (hb hby d8_0) rfl rfl rfl ?_
  refine own_getF X0 hx (pc' := 4) hZ hown (host := "") (Or.inl (Wd15 hw)) Via.refl e0 F_u (hb hby d8_1) rfl (fun T2 X2 e2 => ?_)
  refine own_iloadN X2 hx (pc' := 5) (hb hby d8_4) rfl rfl ?_
  have hi3 : ¬ (2 : Int32) < 0 ∧ (2 : Int32) < z := ⟨by decide, by rw [Int32.lt_iff_toInt_lt, own_t32_2]; omega⟩
  obtain ⟨cl4, Ar4, q4, S4, M4, H4, G4⟩ := id V_2
  refine own_iaload X2 hx (pc' := 6) hZ (v := u2) e2 Ar4 (inb_of S4 hi3) (Has.at H4 (inb_of S4 hi3) rfl) (hb hby d8_5) rfl ?_
  refine own_iconst X2 hx (pc' := 7) (1 : Int32) (hb hby d8_6) rfl rfl ?_
  refine own_icmpNo X2 hx (pc' := 10) (hb hby d8_7) (tlt hgt).2.2.2 rfl ?_
  refine own_aloadN X2 hx (pc' := 11) (hb hby d8_10) rfl rfl rfl ?_
  refine own_getF X2 hx (pc' := 14) hZ hown (host := "") (Or.inl (Wd55 hw)) Via.refl e2 X_awaited (hb hby d8_11) rfl (fun T5 X5 e5 => ?_)
  refine own_aloadN X5 hx (pc' := 15) (hb hby d8_14) rfl rfl rfl ?_
  refine own_getF X5 hx (pc' := 18) hZ hown (host := "") (Or.inl (Wd19 hw)) Via.refl e5 X_stopped (hb hby d8_15) rfl (fun T6 X6 e6 => ?_)
  obtain ⟨cl7, Ar7, q7, S7, M7, H7, G7⟩ := id V_n
  refine own_len X6 hx (pc' := 19) hZ e6 Ar7 S7 M7 (hb hby d8_18) rfl ?_
  refine own_icmpNo X6 hx (pc' := 22) (hb hby d8_19) (teq rfl).2 rfl ?_
  refine own_iconst X6 hx (pc' := 23) (4 : Int32) (hb hby d8_22) rfl rfl ?_
  refine own_iconst X6 hx (pc' := 24) (2 : Int32) (hb hby d8_23) rfl rfl ?_
  refine own_aloadN X6 hx (pc' := 25) (hb hby d8_24) rfl rfl rfl ?_
  refine own_getF X6 hx (pc' := 28) hZ hown (host := "") (Or.inl (Wd55 hw)) Via.refl e6 X_awaited (hb hby d8_25) rfl (fun T8 X8 e8 => ?_)
  refine own_imul X8 hx (pc' := 29) (z := (0 : Int32)) (hb hby d8_28) (by decide) rfl ?_
  refine own_callS X8 hx (pc' := 32) hZ hown (Wd34 hw) (Wd35 hw) (Wd36 hw) (Wd37 hw) (by decide) (rm_max l Z a0 hw [] (4 : Int32) (0 : Int32) h0 n0 Z0) e8 0 (by decide) (by decide) (by decide) (by decide) [(.int (4 : Int32)), (.int (0 : Int32))] [] (by rw [hml]; rfl) (lenOf pd_0 rfl) rfl rfl (Nat.le_of_eq rfl) (hb hby d8_29) rfl (fun v9 T9 L9 X9 hQ9 => ?_)
  obtain ⟨rfl, Nq9, e9⟩ := hQ9
  have N10 := Fr.app N0 Nq9
  show own_G p.tables e below _ T9 (mkF m 32 #[.val (.ref a), .val (.int (2 : Int32)), .val (.int bt), .unset] [(.int (own_max (4 : Int32) (0 : Int32)))])
  rw [show (own_max (4 : Int32) (0 : Int32)) = (4 : Int32) from by decide]
  refine own_istoreN X9 hx (pc' := 33) (Ls' := #[.val (.ref a), .val (.int (2 : Int32)), .val (.int bt), .val (.int (4 : Int32))]) (hb hby d8_32) rfl rfl ?_
  refine own_aloadN X9 hx (pc' := 34) (hb hby d8_33) rfl rfl rfl ?_
  refine own_aloadN X9 hx (pc' := 35) (hb hby d8_34) rfl rfl rfl ?_
  refine own_getF X9 hx (pc' := 38) hZ hown (host := "") (Or.inl (Wd19 hw)) Via.refl e9 X_stopped (hb hby d8_35) rfl (fun T11 X11 e11 => ?_)
  refine own_iloadN X11 hx (pc' := 39) (hb hby d8_38) rfl rfl ?_
  refine own_callS X11 hx (pc' := 42) hZ hown (Wd41 hw) (Wd42 hw) (Wd43 hw) (Wd44 hw) (by decide) (rm_copy l Z a0 hw [] nn kn (4 : Int32) h0 n0 Z0 (Or.inr (by decide)) V_n) e11 1 (by decide) (by decide) (by decide) (by decide) [(.ref nn), (.int (4 : Int32))] [(.ref a)] (by rw [hml]; rfl) (lenOf pd_1 rfl) rfl rfl (Nat.le_of_eq rfl) (hb hby d8_39) rfl (fun v12 T12 L12 X12 hQ12 => ?_)
  obtain ⟨nb12, k12, rfl, gs12, Nq12, K12, V12⟩ := hQ12
  have N13 := Fr.app N10 Nq12
  have ne_a_nb12 : a ≠ nb12 := Nat.ne_of_lt (Nat.lt_of_lt_of_le E_a.lt gs12)
  have ne_b1_nb12 : b1 ≠ nb12 := Nat.ne_of_lt (Nat.lt_of_lt_of_le V_1.lt gs12)
  have ne_b2_nb12 : b2 ≠ nb12 := Nat.ne_of_lt (Nat.lt_of_lt_of_le V_2.lt gs12)
  have ne_b3_nb12 : b3 ≠ nb12 := Nat.ne_of_lt (Nat.lt_of_lt_of_le V_3.lt gs12)
  have ne_nn_nb12 : nn ≠ nb12 := Nat.ne_of_lt (Nat.lt_of_lt_of_le V_n.lt gs12)
  have ge_nb12 : n0 ≤ nb12 := Nat.le_trans Z0 gs12
  have gk_nb12 : h0.size ≤ nb12 := Nat.le_trans K1.1 gs12
  have Z14 : n0 ≤ T12.heap.size := Nat.le_trans Z0 K12.1
  have K15 : Keep h0 T12.heap [a, b1, b2, b3] := Keep.trans K1 K12 all0
  have F16 := (Exa.keep E_a K12)
  have F17 := (F_c.keep K12 nin0)
  have F18 := (F_p.keep K12 nin0)
  have F19 := (F_u.keep K12 nin0)
  have F20 := (F_t.keep K12 nin0)
  have F21 := (X_awaited.keep K12 nin0)
  have F22 := (X_stopped.keep K12 nin0)
  have F23 := (X_toCome.keep K12 nin0)
  have F24 := (X_beatsLeft.keep K12 nin0)
  have F25 := (V_1.keep K12 nin0)
  have F26 := (V_2.keep K12 nin0)
  have F27 := (V_3.keep K12 nin0)
  have F28 := (V_n.keep K12 nin0)
  show own_G p.tables e below _ T12 (mkF m 42 #[.val (.ref a), .val (.int (2 : Int32)), .val (.int bt), .val (.int (4 : Int32))] [(.ref nb12), (.ref a)])
  refine own_putF X12 hx (pc' := 45) hZ (ty := (.array .int)) hown (host := "") (Or.inl (Wd19 hw)) Via.refl rfl F22 F16 (Or.inl (Wd20 hw)) (Wd3 hw) (by decide) rfl rfl (hb hby d8_42) rfl (fun T29 h29 X29 e29 W29 => ?_)
  have N30 := Fr.snoc X29 N13 g_a
  have Z31 : n0 ≤ h29.size := Nat.le_trans Z14 (Nat.le_of_eq (Wr.size W29).symm)
  have K32 : Keep h0 h29 [a, b1, b2, b3] := K15.wr W29 (Or.inl (List.mem_of_getElem? (i := 0) rfl))
  have F33 := (Exa.wr W29 F16)
  have F34 := (Fld.other W29 F17 (Or.inr (slot_ne (Or.inl (Wd33 hw)) (Or.inl (Wd20 hw)) (by decide) (t := .int) (t' := (.array .int)) (by decide) (by decide))))
  have F35 := (Fld.other W29 F18 (Or.inr (slot_ne (Or.inl (Wd14 hw)) (Or.inl (Wd20 hw)) (by decide) (t := (.array .int)) (t' := (.array .int)) (by decide) (by decide))))
  have F36 := (Fld.other W29 F19 (Or.inr (slot_ne (Or.inl (Wd16 hw)) (Or.inl (Wd20 hw)) (by decide) (t := (.array .int)) (t' := (.array .int)) (by decide) (by decide))))
  have F37 := (Fld.other W29 F20 (Or.inr (slot_ne (Or.inl (Wd18 hw)) (Or.inl (Wd20 hw)) (by decide) (t := (.array .int)) (t' := (.array .int)) (by decide) (by decide))))
  have F38 := (Fld.other W29 F21 (Or.inr (slot_ne (Or.inl (Wd56 hw)) (Or.inl (Wd20 hw)) (by decide) (t := .int) (t' := (.array .int)) (by decide) (by decide))))
  have F39 := (Fld.same W29 F22)
  have F40 := (Fld.other W29 F23 (Or.inr (slot_ne (Or.inl (Wd22 hw)) (Or.inl (Wd20 hw)) (by decide) (t := (.array .int)) (t' := (.array .int)) (by decide) (by decide))))
  have F41 := (Fld.other W29 F24 (Or.inr (slot_ne (Or.inl (Wd24 hw)) (Or.inl (Wd20 hw)) (by decide) (t := (.array .int)) (t' := (.array .int)) (by decide) (by decide))))
  have F42 := (F25.other W29 (Ne.symm ea1))
  have F43 := (F26.other W29 (Ne.symm ea2))
  have F44 := (F27.other W29 (Ne.symm ea3))
  have F45 := (F28.other W29 (Ne.symm ne_a_nn))
  have F46 := (V12.other W29 (Ne.symm ne_a_nb12))
  refine own_aloadN X29 hx (pc' := 46) (hb hby d8_45) rfl rfl rfl ?_
  refine own_aloadN X29 hx (pc' := 47) (hb hby d8_46) rfl rfl rfl ?_
  refine own_getF X29 hx (pc' := 50) hZ hown (host := "") (Or.inl (Wd21 hw)) Via.refl e29 F40 (hb hby d8_47) rfl (fun T47 X47 e47 => ?_)
  refine own_iloadN X47 hx (pc' := 51) (hb hby d8_50) rfl rfl ?_
  refine own_callS X47 hx (pc' := 54) hZ hown (Wd41 hw) (Wd42 hw) (Wd43 hw) (Wd44 hw) (by decide) (rm_copy l Z a0 hw [] nn kn (4 : Int32) h29 n0 Z31 (Or.inr (by decide)) F45) e47 1 (by decide) (by decide) (by decide) (by decide) [(.ref nn), (.int (4 : Int32))] [(.ref a)] (by rw [hml]; rfl) (lenOf pd_1 rfl) rfl rfl (Nat.le_of_eq rfl) (hb hby d8_51) rfl (fun v48 T48 L48 X48 hQ48 => ?_)
  obtain ⟨nb48, k48, rfl, gs48, Nq48, K48, V48⟩ := hQ48
  have N49 := Fr.app N30 Nq48
  have ne_a_nb48 : a ≠ nb48 := Nat.ne_of_lt (Nat.lt_of_lt_of_le F33.lt gs48)
  have ne_b1_nb48 : b1 ≠ nb48 := Nat.ne_of_lt (Nat.lt_of_lt_of_le F42.lt gs48)
  have ne_b2_nb48 : b2 ≠ nb48 := Nat.ne_of_lt (Nat.lt_of_lt_of_le F43.lt gs48)
  have ne_b3_nb48 : b3 ≠ nb48 := Nat.ne_of_lt (Nat.lt_of_lt_of_le F44.lt gs48)
  have ne_nn_nb48 : nn ≠ nb48 := Nat.ne_of_lt (Nat.lt_of_lt_of_le F45.lt gs48)
  have ne_nb12_nb48 : nb12 ≠ nb48 := Nat.ne_of_lt (Nat.lt_of_lt_of_le F46.lt gs48)
  have ge_nb48 : n0 ≤ nb48 := Nat.le_trans Z31 gs48
  have gk_nb48 : h0.size ≤ nb48 := Nat.le_trans K32.1 gs48
  have Z50 : n0 ≤ T48.heap.size := Nat.le_trans Z31 K48.1
  have K51 : Keep h0 T48.heap [a, b1, b2, b3] := Keep.trans K32 K48 all0
  have F52 := (Exa.keep F33 K48)
  have F53 := (F34.keep K48 nin0)
  have F54 := (F35.keep K48 nin0)
  have F55 := (F36.keep K48 nin0)
  have F56 := (F37.keep K48 nin0)
  have F57 := (F38.keep K48 nin0)
  have F58 := (F39.keep K48 nin0)
  have F59 := (F40.keep K48 nin0)
  have F60 := (F41.keep K48 nin0)
  have F61 := (F42.keep K48 nin0)
  have F62 := (F43.keep K48 nin0)
  have F63 := (F44.keep K48 nin0)
  have F64 := (F45.keep K48 nin0)
  have F65 := (F46.keep K48 nin0)
  show own_G p.tables e below _ T48 (mkF m 54 #[.val (.ref a), .val (.int (2 : Int32)), .val (.int bt), .val (.int (4 : Int32))] [(.ref nb48), (.ref a)])
  refine own_putF X48 hx (pc' := 57) hZ (ty := (.array .int)) hown (host := "") (Or.inl (Wd21 hw)) Via.refl rfl F59 F52 (Or.inl (Wd22 hw)) (Wd3 hw) (by decide) rfl rfl (hb hby d8_54) rfl (fun T66 h66 X66 e66 W66 => ?_)
  have N67 := Fr.snoc X66 N49 g_a
  have Z68 : n0 ≤ h66.size := Nat.le_trans Z50 (Nat.le_of_eq (Wr.size W66).symm)
  have K69 : Keep h0 h66 [a, b1, b2, b3] := K51.wr W66 (Or.inl (List.mem_of_getElem? (i := 0) rfl))
  have F70 := (Exa.wr W66 F52)
  have F71 := (Fld.other W66 F53 (Or.inr (slot_ne (Or.inl (Wd33 hw)) (Or.inl (Wd22 hw)) (by decide) (t := .int) (t' := (.array .int)) (by decide) (by decide))))
  have F72 := (Fld.other W66 F54 (Or.inr (slot_ne (Or.inl (Wd14 hw)) (Or.inl (Wd22 hw)) (by decide) (t := (.array .int)) (t' := (.array .int)) (by decide) (by decide))))
  have F73 := (Fld.other W66 F55 (Or.inr (slot_ne (Or.inl (Wd16 hw)) (Or.inl (Wd22 hw)) (by decide) (t := (.array .int)) (t' := (.array .int)) (by decide) (by decide))))
  have F74 := (Fld.other W66 F56 (Or.inr (slot_ne (Or.inl (Wd18 hw)) (Or.inl (Wd22 hw)) (by decide) (t := (.array .int)) (t' := (.array .int)) (by decide) (by decide))))
  have F75 := (Fld.other W66 F57 (Or.inr (slot_ne (Or.inl (Wd56 hw)) (Or.inl (Wd22 hw)) (by decide) (t := .int) (t' := (.array .int)) (by decide) (by decide))))
  have F76 := (Fld.other W66 F58 (Or.inr (slot_ne (Or.inl (Wd20 hw)) (Or.inl (Wd22 hw)) (by decide) (t := (.array .int)) (t' := (.array .int)) (by decide) (by decide))))
  have F77 := (Fld.same W66 F59)
  have F78 := (Fld.other W66 F60 (Or.inr (slot_ne (Or.inl (Wd24 hw)) (Or.inl (Wd22 hw)) (by decide) (t := (.array .int)) (t' := (.array .int)) (by decide) (by decide))))
  have F79 := (F61.other W66 (Ne.symm ea1))
  have F80 := (F62.other W66 (Ne.symm ea2))
  have F81 := (F63.other W66 (Ne.symm ea3))
  have F82 := (F64.other W66 (Ne.symm ne_a_nn))
  have F83 := (F65.other W66 (Ne.symm ne_a_nb12))
  have F84 := (V48.other W66 (Ne.symm ne_a_nb48))
  refine own_aloadN X66 hx (pc' := 58) (hb hby d8_57) rfl rfl rfl ?_
  refine own_aloadN X66 hx (pc' := 59) (hb hby d8_58) rfl rfl rfl ?_
  refine own_getF X66 hx (pc' := 62) hZ hown (host := "") (Or.inl (Wd23 hw)) Via.refl e66 F78 (hb hby d8_59) rfl (fun T85 X85 e85 => ?_)
  refine own_iloadN X85 hx (pc' := 63) (hb hby d8_62) rfl rfl ?_
  refine own_callS X85 hx (pc' := 66) hZ hown (Wd41 hw) (Wd42 hw) (Wd43 hw) (Wd44 hw) (by decide) (rm_copy l Z a0 hw [] nn kn (4 : Int32) h66 n0 Z68 (Or.inr (by decide)) F82) e85 1 (by decide) (by decide) (by decide) (by decide) [(.ref nn), (.int (4 : Int32))] [(.ref a)] (by rw [hml]; rfl) (lenOf pd_1 rfl) rfl rfl (Nat.le_of_eq rfl) (hb hby d8_63) rfl (fun v86 T86 L86 X86 hQ86 => ?_)
  obtain ⟨nb86, k86, rfl, gs86, Nq86, K86, V86⟩ := hQ86
  have N87 := Fr.app N67 Nq86
  have ne_a_nb86 : a ≠ nb86 := Nat.ne_of_lt (Nat.lt_of_lt_of_le F70.lt gs86)
  have ne_b1_nb86 : b1 ≠ nb86 := Nat.ne_of_lt (Nat.lt_of_lt_of_le F79.lt gs86)
  have ne_b2_nb86 : b2 ≠ nb86 := Nat.ne_of_lt (Nat.lt_of_lt_of_le F80.lt gs86)
  have ne_b3_nb86 : b3 ≠ nb86 := Nat.ne_of_lt (Nat.lt_of_lt_of_le F81.lt gs86)
  have ne_nn_nb86 : nn ≠ nb86 := Nat.ne_of_lt (Nat.lt_of_lt_of_le F82.lt gs86)
  have ne_nb12_nb86 : nb12 ≠ nb86 := Nat.ne_of_lt (Nat.lt_of_lt_of_le F83.lt gs86)
  have ne_nb48_nb86 : nb48 ≠ nb86 := Nat.ne_of_lt (Nat.lt_of_lt_of_le F84.lt gs86)
  have ge_nb86 : n0 ≤ nb86 := Nat.le_trans Z68 gs86
  have gk_nb86 : h0.size ≤ nb86 := Nat.le_trans K69.1 gs86
  have Z88 : n0 ≤ T86.heap.size := Nat.le_trans Z68 K86.1
  have K89 : Keep h0 T86.heap [a, b1, b2, b3] := Keep.trans K69 K86 all0
  have F90 := (Exa.keep F70 K86)
  have F91 := (F71.keep K86 nin0)
  have F92 := (F72.keep K86 nin0)
  have F93 := (F73.keep K86 nin0)
  have F94 := (F74.keep K86 nin0)
  have F95 := (F75.keep K86 nin0)
  have F96 := (F76.keep K86 nin0)
  have F97 := (F77.keep K86 nin0)
  have F98 := (F78.keep K86 nin0)
  have F99 := (F79.keep K86 nin0)
  have F100 := (F80.keep K86 nin0)
  have F101 := (F81.keep K86 nin0)
  have F102 := (F82.keep K86 nin0)
  have F103 := (F83.keep K86 nin0)
  have F104 := (F84.keep K86 nin0)
  show own_G p.tables e below _ T86 (mkF m 66 #[.val (.ref a), .val (.int (2 : Int32)), .val (.int bt), .val (.int (4 : Int32))] [(.ref nb86), (.ref a)])
  refine own_putF X86 hx (pc' := 69) hZ (ty := (.array .int)) hown (host := "") (Or.inl (Wd23 hw)) Via.refl rfl F98 F90 (Or.inl (Wd24 hw)) (Wd3 hw) (by decide) rfl rfl (hb hby d8_66) rfl (fun T105 h105 X105 e105 W105 => ?_)
  have N106 := Fr.snoc X105 N87 g_a
  have Z107 : n0 ≤ h105.size := Nat.le_trans Z88 (Nat.le_of_eq (Wr.size W105).symm)
  have K108 : Keep h0 h105 [a, b1, b2, b3] := K89.wr W105 (Or.inl (List.mem_of_getElem? (i := 0) rfl))
  have F109 := (Exa.wr W105 F90)
  have F110 := (Fld.other W105 F91 (Or.inr (slot_ne (Or.inl (Wd33 hw)) (Or.inl (Wd24 hw)) (by decide) (t := .int) (t' := (.array .int)) (by decide) (by decide))))
  have F111 := (Fld.other W105 F92 (Or.inr (slot_ne (Or.inl (Wd14 hw)) (Or.inl (Wd24 hw)) (by decide) (t := (.array .int)) (t' := (.array .int)) (by decide) (by decide))))
  have F112 := (Fld.other W105 F93 (Or.inr (slot_ne (Or.inl (Wd16 hw)) (Or.inl (Wd24 hw)) (by decide) (t := (.array .int)) (t' := (.array .int)) (by decide) (by decide))))
  have F113 := (Fld.other W105 F94 (Or.inr (slot_ne (Or.inl (Wd18 hw)) (Or.inl (Wd24 hw)) (by decide) (t := (.array .int)) (t' := (.array .int)) (by decide) (by decide))))
  have F114 := (Fld.other W105 F95 (Or.inr (slot_ne (Or.inl (Wd56 hw)) (Or.inl (Wd24 hw)) (by decide) (t := .int) (t' := (.array .int)) (by decide) (by decide))))
  have F115 := (Fld.other W105 F96 (Or.inr (slot_ne (Or.inl (Wd20 hw)) (Or.inl (Wd24 hw)) (by decide) (t := (.array .int)) (t' := (.array .int)) (by decide) (by decide))))
  have F116 := (Fld.other W105 F97 (Or.inr (slot_ne (Or.inl (Wd22 hw)) (Or.inl (Wd24 hw)) (by decide) (t := (.array .int)) (t' := (.array .int)) (by decide) (by decide))))
  have F117 := (Fld.same W105 F98)
  have F118 := (F99.other W105 (Ne.symm ea1))
  have F119 := (F100.other W105 (Ne.symm ea2))
  have F120 := (F101.other W105 (Ne.symm ea3))
  have F121 := (F102.other W105 (Ne.symm ne_a_nn))
  have F122 := (F103.other W105 (Ne.symm ne_a_nb12))
  have F123 := (F104.other W105 (Ne.symm ne_a_nb48))
  have F124 := (V86.other W105 (Ne.symm ne_a_nb86))
  refine own_aloadN X105 hx (pc' := 70) (hb hby d8_69) rfl rfl rfl ?_
  refine own_getF X105 hx (pc' := 73) hZ hown (host := "") (Or.inl (Wd19 hw)) Via.refl e105 F115 (hb hby d8_70) rfl (fun T125 X125 e125 => ?_)
  refine own_aloadN X125 hx (pc' := 74) (hb hby d8_73) rfl rfl rfl ?_
  refine own_getF X125 hx (pc' := 77) hZ hown (host := "") (Or.inl (Wd55 hw)) Via.refl e125 F114 (hb hby d8_74) rfl (fun T126 X126 e126 => ?_)
  refine own_aloadN X126 hx (pc' := 78) (hb hby d8_77) rfl rfl rfl ?_
  refine own_getF X126 hx (pc' := 81) hZ hown (host := "") (Or.inl (Wd13 hw)) Via.refl e126 F111 (hb hby d8_78) rfl (fun T127 X127 e127 => ?_)
  refine own_iloadN X127 hx (pc' := 82) (hb hby d8_81) rfl rfl ?_
  have hi128 : ¬ (2 : Int32) < 0 ∧ (2 : Int32) < z := ⟨by decide, by rw [Int32.lt_iff_toInt_lt, own_t32_2]; omega⟩
  obtain ⟨cl129, Ar129, q129, S129, M129, H129, G129⟩ := id F118
  refine own_iaload X127 hx (pc' := 83) hZ (v := x2) e127 Ar129 (inb_of S129 hi128) (Has.at H129 (inb_of S129 hi128) rfl) (hb hby d8_82) rfl ?_
  obtain ⟨cl130, Ar130, q130, S130, M130, H130, G130⟩ := id F122
  refine own_stI X127 hx (pc' := 84) hZ e127 Ar130 (inb_of S130 ⟨by decide, by decide⟩) (hb hby d8_83) rfl (fun T131 h131 X131 e131 W131 => ?_)
  have N132 := Fr.snoc X131 N106 ge_nb12
  have Z133 : n0 ≤ h131.size := Nat.le_trans Z107 (Nat.le_of_eq (Wr.size W131).symm)
  have K134 : Keep h0 h131 [a, b1, b2, b3] := K108.wr W131 (Or.inr gk_nb12)
  have F135 := (Exa.wr W131 F109)
  have F136 := (Fld.other W131 F110 (Or.inl ne_a_nb12))
  have F137 := (Fld.other W131 F111 (Or.inl ne_a_nb12))
  have F138 := (Fld.other W131 F112 (Or.inl ne_a_nb12))
  have F139 := (Fld.other W131 F113 (Or.inl ne_a_nb12))
  have F140 := (Fld.other W131 F114 (Or.inl ne_a_nb12))
  have F141 := (Fld.other W131 F115 (Or.inl ne_a_nb12))
  have F142 := (Fld.other W131 F116 (Or.inl ne_a_nb12))
  have F143 := (Fld.other W131 F117 (Or.inl ne_a_nb12))
  have F144 := (F118.other W131 ne_b1_nb12)
  have F145 := (F119.other W131 ne_b2_nb12)
  have F146 := (F120.other W131 ne_b3_nb12)
  have F147 := (F121.other W131 ne_nn_nb12)
  have F148 : Arv Z h131 nb12 k12 .int (4 : Int32) [(.int x2), (.int (0 : Int32)), (.int (0 : Int32))] (.int (0 : Int32)) := (Arv.set Ar130 q130 S130 M130 H130 G130 rfl W131 0 rfl (Nat.le_of_ble_eq_true rfl))
  have F149 := (F123.other W131 (Ne.symm ne_nb12_nb48))
  have F150 := (F124.other W131 (Ne.symm ne_nb12_nb86))
  refine own_aloadN X131 hx (pc' := 85) (hb hby d8_84) rfl rfl rfl ?_
  refine own_getF X131 hx (pc' := 88) hZ hown (host := "") (Or.inl (Wd21 hw)) Via.refl e131 F142 (hb hby d8_85) rfl (fun T151 X151 e151 => ?_)
  refine own_aloadN X151 hx (pc' := 89) (hb hby d8_88) rfl rfl rfl ?_
  refine own_getF X151 hx (pc' := 92) hZ hown (host := "") (Or.inl (Wd55 hw)) Via.refl e151 F140 (hb hby d8_89) rfl (fun T152 X152 e152 => ?_)
  refine own_aloadN X152 hx (pc' := 93) (hb hby d8_92) rfl rfl rfl ?_
  refine own_getF X152 hx (pc' := 96) hZ hown (host := "") (Or.inl (Wd15 hw)) Via.refl e152 F138 (hb hby d8_93) rfl (fun T153 X153 e153 => ?_)
  refine own_iloadN X153 hx (pc' := 97) (hb hby d8_96) rfl rfl ?_
  have hi154 : ¬ (2 : Int32) < 0 ∧ (2 : Int32) < z := ⟨by decide, by rw [Int32.lt_iff_toInt_lt, own_t32_2]; omega⟩
  obtain ⟨cl155, Ar155, q155, S155, M155, H155, G155⟩ := id F145
  refine own_iaload X153 hx (pc' := 98) hZ (v := u2) e153 Ar155 (inb_of S155 hi154) (Has.at H155 (inb_of S155 hi154) rfl) (hb hby d8_97) rfl ?_
  refine own_iconst X153 hx (pc' := 99) (1 : Int32) (hb hby d8_98) rfl rfl ?_
  refine own_isub X153 hx (pc' := 100) (hb hby d8_99) rfl rfl ?_
  obtain ⟨cl156, Ar156, q156, S156, M156, H156, G156⟩ := id F149
  refine own_stI X153 hx (pc' := 101) hZ e153 Ar156 (inb_of S156 ⟨by decide, by decide⟩) (hb hby d8_100) rfl (fun T157 h157 X157 e157 W157 => ?_)
  have N158 := Fr.snoc X157 N132 ge_nb48
  have Z159 : n0 ≤ h157.size := Nat.le_trans Z133 (Nat.le_of_eq (Wr.size W157).symm)
  have K160 : Keep h0 h157 [a, b1, b2, b3] := K134.wr W157 (Or.inr gk_nb48)
  have F161 := (Exa.wr W157 F135)
  have F162 := (Fld.other W157 F136 (Or.inl ne_a_nb48))
  have F163 := (Fld.other W157 F137 (Or.inl ne_a_nb48))
  have F164 := (Fld.other W157 F138 (Or.inl ne_a_nb48))
  have F165 := (Fld.other W157 F139 (Or.inl ne_a_nb48))
  have F166 := (Fld.other W157 F140 (Or.inl ne_a_nb48))
  have F167 := (Fld.other W157 F141 (Or.inl ne_a_nb48))
  have F168 := (Fld.other W157 F142 (Or.inl ne_a_nb48))
  have F169 := (Fld.other W157 F143 (Or.inl ne_a_nb48))
  have F170 := (F144.other W157 ne_b1_nb48)
  have F171 := (F145.other W157 ne_b2_nb48)
  have F172 := (F146.other W157 ne_b3_nb48)
  have F173 := (F147.other W157 ne_nn_nb48)
  have F174 := (F148.other W157 ne_nb12_nb48)
  have F175 : Arv Z h157 nb48 k48 .int (4 : Int32) [(.int (u2 - (1 : Int32))), (.int (0 : Int32)), (.int (0 : Int32))] (.int (0 : Int32)) := (Arv.set Ar156 q156 S156 M156 H156 G156 rfl W157 0 rfl (Nat.le_of_ble_eq_true rfl))
  have F176 := (F150.other W157 (Ne.symm ne_nb48_nb86))
  refine own_aloadN X157 hx (pc' := 102) (hb hby d8_101) rfl rfl rfl ?_
  refine own_getF X157 hx (pc' := 105) hZ hown (host := "") (Or.inl (Wd23 hw)) Via.refl e157 F169 (hb hby d8_102) rfl (fun T177 X177 e177 => ?_)
  refine own_aloadN X177 hx (pc' := 106) (hb hby d8_105) rfl rfl rfl ?_
  refine own_getF X177 hx (pc' := 109) hZ hown (host := "") (Or.inl (Wd55 hw)) Via.refl e177 F166 (hb hby d8_106) rfl (fun T178 X178 e178 => ?_)
  refine own_iloadN X178 hx (pc' := 110) (hb hby d8_109) rfl rfl ?_
  obtain ⟨cl179, Ar179, q179, S179, M179, H179, G179⟩ := id F176
  refine own_stI X178 hx (pc' := 111) hZ e178 Ar179 (inb_of S179 ⟨by decide, by decide⟩) (hb hby d8_110) rfl (fun T180 h180 X180 e180 W180 => ?_)
  have N181 := Fr.snoc X180 N158 ge_nb86
  have Z182 : n0 ≤ h180.size := Nat.le_trans Z159 (Nat.le_of_eq (Wr.size W180).symm)
  have K183 : Keep h0 h180 [a, b1, b2, b3] := K160.wr W180 (Or.inr gk_nb86)
  have F184 := (Exa.wr W180 F161)
  have F185 := (Fld.other W180 F162 (Or.inl ne_a_nb86))
  have F186 := (Fld.other W180 F163 (Or.inl ne_a_nb86))
  have F187 := (Fld.other W180 F164 (Or.inl ne_a_nb86))
  have F188 := (Fld.other W180 F165 (Or.inl ne_a_nb86))
  have F189 := (Fld.other W180 F166 (Or.inl ne_a_nb86))
  have F190 := (Fld.other W180 F167 (Or.inl ne_a_nb86))
  have F191 := (Fld.other W180 F168 (Or.inl ne_a_nb86))
  have F192 := (Fld.other W180 F169 (Or.inl ne_a_nb86))
  have F193 := (F170.other W180 ne_b1_nb86)
  have F194 := (F171.other W180 ne_b2_nb86)
  have F195 := (F172.other W180 ne_b3_nb86)
  have F196 := (F173.other W180 ne_nn_nb86)
  have F197 := (F174.other W180 ne_nb12_nb86)
  have F198 := (F175.other W180 ne_nb48_nb86)
  have F199 : Arv Z h180 nb86 k86 .int (4 : Int32) [(.int bt), (.int (0 : Int32)), (.int (0 : Int32))] (.int (0 : Int32)) := (Arv.set Ar179 q179 S179 M179 H179 G179 rfl W180 0 rfl (Nat.le_of_ble_eq_true rfl))
  refine own_aloadN X180 hx (pc' := 112) (hb hby d8_111) rfl rfl rfl ?_
  refine own_dup X180 hx (pc' := 113) (hb hby d8_112) rfl rfl ?_
  refine own_getF X180 hx (pc' := 116) hZ hown (host := "") (Or.inl (Wd55 hw)) Via.refl e180 F189 (hb hby d8_113) rfl (fun T200 X200 e200 => ?_)
  refine own_iconst X200 hx (pc' := 117) (1 : Int32) (hb hby d8_116) rfl rfl ?_
  refine own_iadd X200 hx (pc' := 118) (z := (1 : Int32)) (hb hby d8_117) (by decide) rfl ?_
  refine own_putF X200 hx (pc' := 121) hZ (ty := .int) hown (host := "") (Or.inl (Wd55 hw)) Via.refl e200 F189 F184 (Or.inl (Wd56 hw)) (Wd3 hw) (by decide) rfl rfl (hb hby d8_118) rfl (fun T201 h201 X201 e201 W201 => ?_)
  have N202 := Fr.snoc X201 N181 g_a
  have Z203 : n0 ≤ h201.size := Nat.le_trans Z182 (Nat.le_of_eq (Wr.size W201).symm)
  have K204 : Keep h0 h201 [a, b1, b2, b3] := K183.wr W201 (Or.inl (List.mem_of_getElem? (i := 0) rfl))
  have F205 := (Exa.wr W201 F184)
  have F206 := (Fld.other W201 F185 (Or.inr (slot_ne (Or.inl (Wd33 hw)) (Or.inl (Wd56 hw)) (by decide) (t := .int) (t' := .int) (by decide) (by decide))))
  have F207 := (Fld.other W201 F186 (Or.inr (slot_ne (Or.inl (Wd14 hw)) (Or.inl (Wd56 hw)) (by decide) (t := (.array .int)) (t' := .int) (by decide) (by decide))))
  have F208 := (Fld.other W201 F187 (Or.inr (slot_ne (Or.inl (Wd16 hw)) (Or.inl (Wd56 hw)) (by decide) (t := (.array .int)) (t' := .int) (by decide) (by decide))))
  have F209 := (Fld.other W201 F188 (Or.inr (slot_ne (Or.inl (Wd18 hw)) (Or.inl (Wd56 hw)) (by decide) (t := (.array .int)) (t' := .int) (by decide) (by decide))))
  have F210 := (Fld.same W201 F189)
  have F211 := (Fld.other W201 F190 (Or.inr (slot_ne (Or.inl (Wd20 hw)) (Or.inl (Wd56 hw)) (by decide) (t := (.array .int)) (t' := .int) (by decide) (by decide))))
  have F212 := (Fld.other W201 F191 (Or.inr (slot_ne (Or.inl (Wd22 hw)) (Or.inl (Wd56 hw)) (by decide) (t := (.array .int)) (t' := .int) (by decide) (by decide))))
  have F213 := (Fld.other W201 F192 (Or.inr (slot_ne (Or.inl (Wd24 hw)) (Or.inl (Wd56 hw)) (by decide) (t := (.array .int)) (t' := .int) (by decide) (by decide))))
  have F214 := (F193.other W201 (Ne.symm ea1))
  have F215 := (F194.other W201 (Ne.symm ea2))
  have F216 := (F195.other W201 (Ne.symm ea3))
  have F217 := (F196.other W201 (Ne.symm ne_a_nn))
  have F218 := (F197.other W201 (Ne.symm ne_a_nb12))
  have F219 := (F198.other W201 (Ne.symm ne_a_nb48))
  have F220 := (F199.other W201 (Ne.symm ne_a_nb86))
  refine own_aloadN X201 hx (pc' := 122) (hb hby d8_121) rfl rfl rfl ?_
  refine own_iloadN X201 hx (pc' := 123) (hb hby d8_122) rfl rfl ?_
  refine own_callV X201 hx (pc' := 126) hZ hown (Wd62 hw) (Wd64 hw) (Wd65 hw) (Wd66 hw) (Wd4 hw) (by decide) (rm_rem32 l Z a0 hw [] a b1 b2 b3 k1 k2 k3 z x0 x1 x2 u0 u1 u2 t0 t1 t2 nb12 nb48 nb86 (1 : Int32) h201 n0 Z203 hz g_a g_b1 g_b2 g_b3 dj12 dj13 dj23 F205 F206 F207 F208 F209 F214 F215 F216 F210 F211 F212 F213) e201 F205 0 (by decide) (by decide) (by decide) (by decide) [(.int (2 : Int32))] [] (by rw [hml]; rfl) (lenOf pd_2 rfl) rfl rfl (Nat.le_of_eq rfl) (hb hby d8_123) rfl (fun v221 T221 L221 X221 hQ221 => ?_)
  obtain ⟨rfl, Nq221, K221, Gc221, Gp221, Gu221, Gt221, Va221, Vb221, Vc221, Xa221, Xb221, Xc221, Xd221⟩ := hQ221
  have N222 := Fr.app N202 Nq221
  have Z223 : n0 ≤ T221.heap.size := Nat.le_trans Z203 K221.1
  have K224 : Keep h0 T221.heap [a, b1, b2, b3] := Keep.trans K204 K221 (allS (Or.inl (List.mem_of_getElem? (i := 0) rfl)) (allS (Or.inl (List.mem_of_getElem? (i := 1) rfl)) (allS (Or.inl (List.mem_of_getElem? (i := 2) rfl)) (allS (Or.inl (List.mem_of_getElem? (i := 3) rfl)) all0))))
  have F225 := (Exa.keep F205 K221)
  have F226 := (F218.keep K221 (ninS (Ne.symm ne_a_nb12) (ninS (Ne.symm ne_b1_nb12) (ninS (Ne.symm ne_b2_nb12) (ninS (Ne.symm ne_b3_nb12) nin0)))))
  have F227 := (F219.keep K221 (ninS (Ne.symm ne_a_nb48) (ninS (Ne.symm ne_b1_nb48) (ninS (Ne.symm ne_b2_nb48) (ninS (Ne.symm ne_b3_nb48) nin0)))))
  have F228 := (F220.keep K221 (ninS (Ne.symm ne_a_nb86) (ninS (Ne.symm ne_b1_nb86) (ninS (Ne.symm ne_b2_nb86) (ninS (Ne.symm ne_b3_nb86) nin0)))))
  show own_G p.tables e below _ T221 (mkF m 126 #[.val (.ref a), .val (.int (2 : Int32)), .val (.int bt), .val (.int (4 : Int32))] [])
  refine own_retV X221 hx hlk hret (hb hby d8_126) (by decide) (by decide) ?_
  exact ⟨rfl, N222, K224, Gc221, Gu221, Vb221, nb12, nb48, nb86, _, _, _, ⟨gk_nb12, gk_nb48, gk_nb86⟩, ⟨ne_nb12_nb48, ne_nb12_nb86, ne_nb48_nb86⟩, Xa221, Xb221, Xc221, Xd221, F226, F227, F228⟩

def Q0 (n0 : Nat) (v : Option Value) (h : Heap) (L : List Loc) : Prop := v = some (.int 1) ∧ Fr n0 L
theorem ef_rm0 (m : MethodId) (x0 : Int64) (x1 : Int64) (x2 : Int64) (x3 : Int64) (x4 : Int32) : entryFrame m #[(.long x0), (.long x1), (.long x2), (.long x3), (.int x4)] maxLocals = mkF m 0 #[.val (.long x0), .second, .val (.long x1), .second, .val (.long x2), .second, .val (.long x3), .second, .val (.int x4), .unset, .unset, .unset, .unset, .unset, .unset, .unset, .unset, .unset, .unset, .unset, .unset, .unset, .unset, .unset, .unset, .unset, .unset, .unset, .unset, .unset] [] := by first | (simp [entryFrame, mkF, argsToLocals, Value.category, maxLocals]; done) | rfl
theorem pf_11 : plainFor (⟨"com/example/rootcast/rootcast/tree/ChildrenPeersPinLaw", "law", "(JJJJI)Z"⟩ : MethodName) = true := by apply plainFor_of_name; first | (simp [plainName, overriddenIn]; done) | decide +kernel
theorem Wd1 {a0 : Array Value} {Z : State} (hw : ∀ d ∈ tables_1, d.before a0 Z = true) : (Jvm.Cond.constant "com/example/rootcast/rootcast/tree/ChildrenPeersPinLaw" (7 : Nat) (16777215 : Int32)).before a0 Z = true := hw _ (List.mem_of_getElem? (i := 1) rfl)
theorem Wd54 {a0 : Array Value} {Z : State} (hw : ∀ d ∈ tables_1, d.before a0 Z = true) : (Jvm.Cond.code ({ cls := "com/example/rootcast/rootcast/tree/Children", name := "peers", desc := "()I" } : Jvm.MethodName) prog_127_method_18_code (3 : Nat) (Option.some Jvm.ClassFile.FieldType.int)).before a0 Z = true := hw _ (List.mem_of_getElem? (i := 54) rfl)
theorem pd_3 : parseMethodDescriptor "()I" = some ⟨[], some .int⟩ := by decide +kernel
theorem Wd50 {a0 : Array Value} {Z : State} (hw : ∀ d ∈ tables_1, d.before a0 Z = true) : (Jvm.Cond.methodLink "com/example/rootcast/rootcast/tree/ChildrenPeersPinLaw" (17 : Nat) ({ cls := "com/example/rootcast/rootcast/tree/Children", name := "peers", desc := "()I" } : Jvm.MethodName)).before a0 Z = true := hw _ (List.mem_of_getElem? (i := 50) rfl)
theorem Wd52 {a0 : Array Value} {Z : State} (hw : ∀ d ∈ tables_1, d.before a0 Z = true) : (Jvm.Cond.instanceMethod ({ cls := "com/example/rootcast/rootcast/tree/Children", name := "peers", desc := "()I" } : Jvm.MethodName)).before a0 Z = true := hw _ (List.mem_of_getElem? (i := 52) rfl)
theorem Wd53 {a0 : Array Value} {Z : State} (hw : ∀ d ∈ tables_1, d.before a0 Z = true) : (Jvm.Cond.selects "com/example/rootcast/rootcast/tree/Children" ({ cls := "com/example/rootcast/rootcast/tree/Children", name := "peers", desc := "()I" } : Jvm.MethodName) ({ cls := "com/example/rootcast/rootcast/tree/Children", name := "peers", desc := "()I" } : Jvm.MethodName)).before a0 Z = true := hw _ (List.mem_of_getElem? (i := 53) rfl)
theorem Wd77 {a0 : Array Value} {Z : State} (hw : ∀ d ∈ tables_1, d.before a0 Z = true) : (Jvm.Cond.code ({ cls := "com/example/rootcast/rootcast/tree/Children", name := "beaten", desc := "()V" } : Jvm.MethodName) prog_127_method_11_code (2 : Nat) (Option.none : Option Jvm.ClassFile.FieldType)).before a0 Z = true := hw _ (List.mem_of_getElem? (i := 77) rfl)
theorem pd_4 : parseMethodDescriptor "()V" = some ⟨[], none⟩ := by decide +kernel
theorem Wd73 {a0 : Array Value} {Z : State} (hw : ∀ d ∈ tables_1, d.before a0 Z = true) : (Jvm.Cond.methodLink "com/example/rootcast/rootcast/tree/ChildrenPeersPinLaw" (27 : Nat) ({ cls := "com/example/rootcast/rootcast/tree/Children", name := "beaten", desc := "()V" } : Jvm.MethodName)).before a0 Z = true := hw _ (List.mem_of_getElem? (i := 73) rfl)
theorem Wd75 {a0 : Array Value} {Z : State} (hw : ∀ d ∈ tables_1, d.before a0 Z = true) : (Jvm.Cond.instanceMethod ({ cls := "com/example/rootcast/rootcast/tree/Children", name := "beaten", desc := "()V" } : Jvm.MethodName)).before a0 Z = true := hw _ (List.mem_of_getElem? (i := 75) rfl)
theorem Wd76 {a0 : Array Value} {Z : State} (hw : ∀ d ∈ tables_1, d.before a0 Z = true) : (Jvm.Cond.selects "com/example/rootcast/rootcast/tree/Children" ({ cls := "com/example/rootcast/rootcast/tree/Children", name := "beaten", desc := "()V" } : Jvm.MethodName) ({ cls := "com/example/rootcast/rootcast/tree/Children", name := "beaten", desc := "()V" } : Jvm.MethodName)).before a0 Z = true := hw _ (List.mem_of_getElem? (i := 76) rfl)
theorem Wd72 {a0 : Array Value} {Z : State} (hw : ∀ d ∈ tables_1, d.before a0 Z = true) : (Jvm.Cond.code ({ cls := "com/example/rootcast/rootcast/tree/Children", name := "cameBack", desc := "(II)V" } : Jvm.MethodName) prog_127_method_10_code (4 : Nat) (Option.none : Option Jvm.ClassFile.FieldType)).before a0 Z = true := hw _ (List.mem_of_getElem? (i := 72) rfl)
theorem pd_5 : parseMethodDescriptor "(II)V" = some ⟨[.int, .int], none⟩ := by decide +kernel
theorem Wd68 {a0 : Array Value} {Z : State} (hw : ∀ d ∈ tables_1, d.before a0 Z = true) : (Jvm.Cond.methodLink "com/example/rootcast/rootcast/tree/ChildrenPeersPinLaw" (24 : Nat) ({ cls := "com/example/rootcast/rootcast/tree/Children", name := "cameBack", desc := "(II)V" } : Jvm.MethodName)).before a0 Z = true := hw _ (List.mem_of_getElem? (i := 68) rfl)
theorem Wd70 {a0 : Array Value} {Z : State} (hw : ∀ d ∈ tables_1, d.before a0 Z = true) : (Jvm.Cond.instanceMethod ({ cls := "com/example/rootcast/rootcast/tree/Children", name := "cameBack", desc := "(II)V" } : Jvm.MethodName)).before a0 Z = true := hw _ (List.mem_of_getElem? (i := 70) rfl)
theorem Wd71 {a0 : Array Value} {Z : State} (hw : ∀ d ∈ tables_1, d.before a0 Z = true) : (Jvm.Cond.selects "com/example/rootcast/rootcast/tree/Children" ({ cls := "com/example/rootcast/rootcast/tree/Children", name := "cameBack", desc := "(II)V" } : Jvm.MethodName) ({ cls := "com/example/rootcast/rootcast/tree/Children", name := "cameBack", desc := "(II)V" } : Jvm.MethodName)).before a0 Z = true := hw _ (List.mem_of_getElem? (i := 71) rfl)
theorem Wd2 {a0 : Array Value} {Z : State} (hw : ∀ d ∈ tables_1, d.before a0 Z = true) : (Jvm.Cond.classLink "com/example/rootcast/rootcast/tree/ChildrenPeersPinLaw" (8 : Nat) "com/example/rootcast/rootcast/tree/Children").before a0 Z = true := hw _ (List.mem_of_getElem? (i := 2) rfl)
theorem Wd7 {a0 : Array Value} {Z : State} (hw : ∀ d ∈ tables_1, d.before a0 Z = true) : (Jvm.Cond.code ({ cls := "com/example/rootcast/rootcast/tree/Children", name := "<init>", desc := "(I)V" } : Jvm.MethodName) prog_127_method_1_code (2 : Nat) (Option.none : Option Jvm.ClassFile.FieldType)).before a0 Z = true := hw _ (List.mem_of_getElem? (i := 7) rfl)
theorem Wd5 {a0 : Array Value} {Z : State} (hw : ∀ d ∈ tables_1, d.before a0 Z = true) : (Jvm.Cond.methodLink "com/example/rootcast/rootcast/tree/ChildrenPeersPinLaw" (10 : Nat) ({ cls := "com/example/rootcast/rootcast/tree/Children", name := "<init>", desc := "(I)V" } : Jvm.MethodName)).before a0 Z = true := hw _ (List.mem_of_getElem? (i := 5) rfl)
theorem Wd6 {a0 : Array Value} {Z : State} (hw : ∀ d ∈ tables_1, d.before a0 Z = true) : (Jvm.Cond.instanceMethod ({ cls := "com/example/rootcast/rootcast/tree/Children", name := "<init>", desc := "(I)V" } : Jvm.MethodName)).before a0 Z = true := hw _ (List.mem_of_getElem? (i := 6) rfl)
theorem Wd31 {a0 : Array Value} {Z : State} (hw : ∀ d ∈ tables_1, d.before a0 Z = true) : (Jvm.Cond.code ({ cls := "com/example/rootcast/rootcast/tree/Children", name := "add", desc := "(II)V" } : Jvm.MethodName) prog_127_method_7_code (4 : Nat) (Option.none : Option Jvm.ClassFile.FieldType)).before a0 Z = true := hw _ (List.mem_of_getElem? (i := 31) rfl)
theorem Wd27 {a0 : Array Value} {Z : State} (hw : ∀ d ∈ tables_1, d.before a0 Z = true) : (Jvm.Cond.methodLink "com/example/rootcast/rootcast/tree/ChildrenPeersPinLaw" (13 : Nat) ({ cls := "com/example/rootcast/rootcast/tree/Children", name := "add", desc := "(II)V" } : Jvm.MethodName)).before a0 Z = true := hw _ (List.mem_of_getElem? (i := 27) rfl)
theorem Wd29 {a0 : Array Value} {Z : State} (hw : ∀ d ∈ tables_1, d.before a0 Z = true) : (Jvm.Cond.instanceMethod ({ cls := "com/example/rootcast/rootcast/tree/Children", name := "add", desc := "(II)V" } : Jvm.MethodName)).before a0 Z = true := hw _ (List.mem_of_getElem? (i := 29) rfl)
theorem Wd30 {a0 : Array Value} {Z : State} (hw : ∀ d ∈ tables_1, d.before a0 Z = true) : (Jvm.Cond.selects "com/example/rootcast/rootcast/tree/Children" ({ cls := "com/example/rootcast/rootcast/tree/Children", name := "add", desc := "(II)V" } : Jvm.MethodName) ({ cls := "com/example/rootcast/rootcast/tree/Children", name := "add", desc := "(II)V" } : Jvm.MethodName)).before a0 Z = true := hw _ (List.mem_of_getElem? (i := 30) rfl)
theorem Wd61 {a0 : Array Value} {Z : State} (hw : ∀ d ∈ tables_1, d.before a0 Z = true) : (Jvm.Cond.code ({ cls := "com/example/rootcast/rootcast/tree/Children", name := "removeStopped", desc := "(II)V" } : Jvm.MethodName) prog_127_method_9_code (4 : Nat) (Option.none : Option Jvm.ClassFile.FieldType)).before a0 Z = true := hw _ (List.mem_of_getElem? (i := 61) rfl)
theorem Wd57 {a0 : Array Value} {Z : State} (hw : ∀ d ∈ tables_1, d.before a0 Z = true) : (Jvm.Cond.methodLink "com/example/rootcast/rootcast/tree/ChildrenPeersPinLaw" (21 : Nat) ({ cls := "com/example/rootcast/rootcast/tree/Children", name := "removeStopped", desc := "(II)V" } : Jvm.MethodName)).before a0 Z = true := hw _ (List.mem_of_getElem? (i := 57) rfl)
theorem Wd59 {a0 : Array Value} {Z : State} (hw : ∀ d ∈ tables_1, d.before a0 Z = true) : (Jvm.Cond.instanceMethod ({ cls := "com/example/rootcast/rootcast/tree/Children", name := "removeStopped", desc := "(II)V" } : Jvm.MethodName)).before a0 Z = true := hw _ (List.mem_of_getElem? (i := 59) rfl)
theorem Wd60 {a0 : Array Value} {Z : State} (hw : ∀ d ∈ tables_1, d.before a0 Z = true) : (Jvm.Cond.selects "com/example/rootcast/rootcast/tree/Children" ({ cls := "com/example/rootcast/rootcast/tree/Children", name := "removeStopped", desc := "(II)V" } : Jvm.MethodName) ({ cls := "com/example/rootcast/rootcast/tree/Children", name := "removeStopped", desc := "(II)V" } : Jvm.MethodName)).before a0 Z = true := hw _ (List.mem_of_getElem? (i := 60) rfl)
set_option maxRecDepth 65536 in
set_option maxHeartbeats 40000000 in
theorem rm0 (l : Launch) (Z : State) (a0 : Array Value) (hw : ∀ d ∈ tables_1, d.before a0 Z = true) (ws : List Jvm.Cond) (p0 p1 p2 p3 : Int64) (p4 : Int32) (nn : Addr) (kn : ClassId) (h0 : Heap) (n0 : Nat) (Z0 : n0 ≤ h0.size) (S_n : Sta Z h0 "com/example/rootcast/rootcast/tree/Children" "NONE" "[I" (.ref nn)) (V_n : Arv Z h0 nn kn .int (0 : Int32) [] (.int (0 : Int32))) :
    MetFree l x (head1 (Jvm.Cond.code x code maxLocals ret :: ws) room_1) (fun aa U => aa = #[(.long p0), (.long p1), (.long p2), (.long p3), (.int p4)] ∧ Z.Warmed39 U.vm ∧ U.heap = h0) (fun _ _ _ _ _ => True) (fun _ U o U' => ∃ v L, o = .returned v ∧ Q0 n0 v U'.heap L ∧ FrameEnd U o U' L 32 192) := by
  refine own_body pf_11 ?_
  intro p e s m below meth c s₁ hx hby hml hown hnm hlk hret hZ X0 e0
  have N0 : Fr n0 [] := Fr.nil n0
  refine own_go (f' := (mkF m 0 #[.val (.long p0), .second, .val (.long p1), .second, .val (.long p2), .second, .val (.long p3), .second, .val (.int p4), .unset, .unset, .unset, .unset, .unset, .unset, .unset, .unset, .unset, .unset, .unset, .unset, .unset, .unset, .unset, .unset, .unset, .unset, .unset, .unset, .unset] [])) (fun t k => castTop (ef_rm0 m p0 p1 p2 p3 p4) k) ?_
  refine own_iload X0 hx (pc' := 2) (hb hby at_0) rfl rfl ?_
  refine own_iconst X0 hx (pc' := 3) (3 : Int32) (hb hby at_2) rfl rfl ?_
  refine own_iand X0 hx (pc' := 4) (hb hby at_3) rfl rfl ?_
  refine own_istore X0 hx (pc' := 6) (Ls' := #[.val (.long p0), .second, .val (.long p1), .second, .val (.long p2), .second, .val (.long p3), .second, .val (.int p4), .val (.int (p4 &&& (3 : Int32))), .unset, .unset, .unset, .unset, .unset, .unset, .unset, .unset, .unset, .unset, .unset, .unset, .unset, .unset, .unset, .unset, .unset, .unset, .unset, .unset]) (hb hby at_4) rfl rfl ?_
  obtain ⟨n, en⟩ : ∃ n, n = (p4 &&& (3 : Int32)) := ⟨_, rfl⟩
  rw [← en]
  have hn : n = 0 ∨ n = 1 ∨ n = 2 ∨ n = 3 := by
    have q1 := c_mask p4 (3 : Int32) 2 (by decide) (by decide)
    rw [en]
    simp only [← Int32.toInt_inj]
    show _ = (0 : Int) ∨ _ = (1 : Int) ∨ _ = (2 : Int) ∨ _ = (3 : Int)
    omega
  refine own_iconst X0 hx (pc' := 7) (3 : Int32) (hb hby at_6) rfl rfl ?_
  refine own_newP X0 hx (pc' := 9) hZ (aty := .int) (Wd0 hw) e0 (hb hby at_7) (by decide) 3 (by decide) (by decide) (by decide) (by decide) rfl (fun T1 h1 kc1 nb1 g1 X1 e1 E1 A1 => ?_)
  have ne_nn_nb1_2 : nn ≠ nb1 := Nat.ne_of_lt (Nat.lt_of_lt_of_le V_n.lt (Nat.le_of_eq g1.symm))
  have ge_nb1 : n0 ≤ nb1 := Nat.le_trans Z0 (Nat.le_of_eq g1.symm)
  have Z3 : n0 ≤ h1.size := Nat.le_trans Z0 E1.1
  have F4 := (Sta.ext E1 S_n)
  have F5 := (V_n.ext E1)
  have V6a : Arv Z h1 nb1 kc1 .int (3 : Int32) [] (.int (0 : Int32)) := Arv.new A1 (by decide)
  have V6b : Arv Z h1 nb1 kc1 .int (3 : Int32) (List.replicate 3 (.int (0 : Int32))) (.int (0 : Int32)) := V6a.pad (pad_rep [] _ 3)
  have V6 : Arv Z h1 nb1 kc1 .int (3 : Int32) [(.int (0 : Int32)), (.int (0 : Int32)), (.int (0 : Int32))] (.int (0 : Int32)) := V6b
  refine own_dup X1 hx (pc' := 10) (hb hby at_9) rfl rfl ?_
  refine own_iconst X1 hx (pc' := 11) (0 : Int32) (hb hby at_10) rfl rfl ?_
  refine own_lloadN X1 hx (pc' := 12) (hb hby at_11) rfl rfl ?_
  refine own_bipush X1 hx (pc' := 14) (32 : Int32) (hb hby at_12) rfl rfl ?_
  refine own_lushr X1 hx (pc' := 15) (hb hby at_14) rfl ?_
  refine own_l2i X1 hx (pc' := 16) (hb hby at_15) rfl ?_
  obtain ⟨i0, e_i0⟩ : ∃ z, z = (((p0.toUInt64 >>> ((32 : Int32) &&& 0x3f).toInt64.toUInt64).toInt64).toInt32) := ⟨_, rfl⟩
  rw [← e_i0]
  obtain ⟨cl7, Ar7, q7, S7, M7, H7, G7⟩ := id V6
  refine own_stI X1 hx (pc' := 17) hZ e1 Ar7 (inb_of S7 ⟨by decide, by decide⟩) (hb hby at_16) rfl (fun T8 h8 X8 e8 W8 => ?_)
  have N9 := Fr.snoc X8 N0 ge_nb1
  have Z10 : n0 ≤ h8.size := Nat.le_trans Z3 (Nat.le_of_eq (Wr.size W8).symm)
  have F11 := (Sta.wr W8 F4)
  have F12 := (F5.other W8 ne_nn_nb1_2)
  have F13 : Arv Z h8 nb1 kc1 .int (3 : Int32) [(.int i0), (.int (0 : Int32)), (.int (0 : Int32))] (.int (0 : Int32)) := (Arv.set Ar7 q7 S7 M7 H7 G7 rfl W8 0 rfl (Nat.le_of_ble_eq_true rfl))
  refine own_dup X8 hx (pc' := 18) (hb hby at_17) rfl rfl ?_
  refine own_iconst X8 hx (pc' := 19) (1 : Int32) (hb hby at_18) rfl rfl ?_
  refine own_lloadN X8 hx (pc' := 20) (hb hby at_19) rfl rfl ?_
  refine own_bipush X8 hx (pc' := 22) (32 : Int32) (hb hby at_20) rfl rfl ?_
  refine own_lushr X8 hx (pc' := 23) (hb hby at_22) rfl ?_
  refine own_l2i X8 hx (pc' := 24) (hb hby at_23) rfl ?_
  obtain ⟨i1, e_i1⟩ : ∃ z, z = (((p1.toUInt64 >>> ((32 : Int32) &&& 0x3f).toInt64.toUInt64).toInt64).toInt32) := ⟨_, rfl⟩
  rw [← e_i1]
  obtain ⟨cl14, Ar14, q14, S14, M14, H14, G14⟩ := id F13
  refine own_stI X8 hx (pc' := 25) hZ e8 Ar14 (inb_of S14 ⟨by decide, by decide⟩) (hb hby at_24) rfl (fun T15 h15 X15 e15 W15 => ?_)
  have N16 := Fr.snoc X15 N9 ge_nb1
  have Z17 : n0 ≤ h15.size := Nat.le_trans Z10 (Nat.le_of_eq (Wr.size W15).symm)
  have F18 := (Sta.wr W15 F11)
  have F19 := (F12.other W15 ne_nn_nb1_2)
  have F20 : Arv Z h15 nb1 kc1 .int (3 : Int32) [(.int i0), (.int i1), (.int (0 : Int32))] (.int (0 : Int32)) := (Arv.set Ar14 q14 S14 M14 H14 G14 rfl W15 1 rfl (Nat.le_of_ble_eq_true rfl))
  refine own_dup X15 hx (pc' := 26) (hb hby at_25) rfl rfl ?_
  refine own_iconst X15 hx (pc' := 27) (2 : Int32) (hb hby at_26) rfl rfl ?_
  refine own_lload X15 hx (pc' := 29) (hb hby at_27) rfl rfl ?_
  refine own_bipush X15 hx (pc' := 31) (32 : Int32) (hb hby at_29) rfl rfl ?_
  refine own_lushr X15 hx (pc' := 32) (hb hby at_31) rfl ?_
  refine own_l2i X15 hx (pc' := 33) (hb hby at_32) rfl ?_
  obtain ⟨i2, e_i2⟩ : ∃ z, z = (((p2.toUInt64 >>> ((32 : Int32) &&& 0x3f).toInt64.toUInt64).toInt64).toInt32) := ⟨_, rfl⟩
  rw [← e_i2]
  obtain ⟨cl21, Ar21, q21, S21, M21, H21, G21⟩ := id F20
  refine own_stI X15 hx (pc' := 34) hZ e15 Ar21 (inb_of S21 ⟨by decide, by decide⟩) (hb hby at_33) rfl (fun T22 h22 X22 e22 W22 => ?_)
  have N23 := Fr.snoc X22 N16 ge_nb1
  have Z24 : n0 ≤ h22.size := Nat.le_trans Z17 (Nat.le_of_eq (Wr.size W22).symm)
  have F25 := (Sta.wr W22 F18)
  have F26 := (F19.other W22 ne_nn_nb1_2)
  have F27 : Arv Z h22 nb1 kc1 .int (3 : Int32) [(.int i0), (.int i1), (.int i2)] (.int (0 : Int32)) := (Arv.set Ar21 q21 S21 M21 H21 G21 rfl W22 2 rfl (Nat.le_of_ble_eq_true rfl))
  refine own_astore X22 hx (pc' := 36) (Ls' := #[.val (.long p0), .second, .val (.long p1), .second, .val (.long p2), .second, .val (.long p3), .second, .val (.int p4), .val (.int n), .val (.ref nb1), .unset, .unset, .unset, .unset, .unset, .unset, .unset, .unset, .unset, .unset, .unset, .unset, .unset, .unset, .unset, .unset, .unset, .unset, .unset]) (hb hby at_34) rfl rfl rfl ?_
  refine own_iconst X22 hx (pc' := 37) (3 : Int32) (hb hby at_36) rfl rfl ?_
  refine own_newP X22 hx (pc' := 39) hZ (aty := .int) (Wd0 hw) e22 (hb hby at_37) (by decide) 3 (by decide) (by decide) (by decide) (by decide) rfl (fun T28 h28 kc28 nb28 g28 X28 e28 E28 A28 => ?_)
  have ne_nn_nb28_29 : nn ≠ nb28 := Nat.ne_of_lt (Nat.lt_of_lt_of_le F26.lt (Nat.le_of_eq g28.symm))
  have ne_nb1_nb28_30 : nb1 ≠ nb28 := Nat.ne_of_lt (Nat.lt_of_lt_of_le F27.lt (Nat.le_of_eq g28.symm))
  have ge_nb28 : n0 ≤ nb28 := Nat.le_trans Z24 (Nat.le_of_eq g28.symm)
  have Z31 : n0 ≤ h28.size := Nat.le_trans Z24 E28.1
  have F32 := (Sta.ext E28 F25)
  have F33 := (F26.ext E28)
  have F34 := (F27.ext E28)
  have V35a : Arv Z h28 nb28 kc28 .int (3 : Int32) [] (.int (0 : Int32)) := Arv.new A28 (by decide)
  have V35b : Arv Z h28 nb28 kc28 .int (3 : Int32) (List.replicate 3 (.int (0 : Int32))) (.int (0 : Int32)) := V35a.pad (pad_rep [] _ 3)
  have V35 : Arv Z h28 nb28 kc28 .int (3 : Int32) [(.int (0 : Int32)), (.int (0 : Int32)), (.int (0 : Int32))] (.int (0 : Int32)) := V35b
  refine own_dup X28 hx (pc' := 40) (hb hby at_39) rfl rfl ?_
  refine own_iconst X28 hx (pc' := 41) (0 : Int32) (hb hby at_40) rfl rfl ?_
  refine own_lloadN X28 hx (pc' := 42) (hb hby at_41) rfl rfl ?_
  refine own_l2i X28 hx (pc' := 43) (hb hby at_42) rfl ?_
  refine own_ldcI X28 hx (pc' := 45) hZ hown (Wd1 hw) (hb hby at_43) rfl ?_
  refine own_iand X28 hx (pc' := 46) (hb hby at_45) rfl rfl ?_
  refine own_iconst X28 hx (pc' := 47) (1 : Int32) (hb hby at_46) rfl rfl ?_
  refine own_iadd X28 hx (pc' := 48) (hb hby at_47) rfl rfl ?_
  obtain ⟨y0, e_y0⟩ : ∃ z, z = (((p0.toInt32) &&& (16777215 : Int32)) + (1 : Int32)) := ⟨_, rfl⟩
  rw [← e_y0]
  have h_y0 : 1 ≤ y0.toInt ∧ y0.toInt ≤ 16777216 := by
    have q1 := c_mask (p0.toInt32) (16777215 : Int32) 24 (by decide) (by decide)
    have q2 := c_iadd ((p0.toInt32) &&& (16777215 : Int32)) (1 : Int32)
    have q3 := rng32 (((p0.toInt32) &&& (16777215 : Int32)) + (1 : Int32))
    rw [own_t32_1] at q2
    rw [e_y0]
    omega
  obtain ⟨cl36, Ar36, q36, S36, M36, H36, G36⟩ := id V35
  refine own_stI X28 hx (pc' := 49) hZ e28 Ar36 (inb_of S36 ⟨by decide, by decide⟩) (hb hby at_48) rfl (fun T37 h37 X37 e37 W37 => ?_)
  have N38 := Fr.snoc X37 N23 ge_nb28
  have Z39 : n0 ≤ h37.size := Nat.le_trans Z31 (Nat.le_of_eq (Wr.size W37).symm)
  have F40 := (Sta.wr W37 F32)
  have F41 := (F33.other W37 ne_nn_nb28_29)
  have F42 := (F34.other W37 ne_nb1_nb28_30)
  have F43 : Arv Z h37 nb28 kc28 .int (3 : Int32) [(.int y0), (.int (0 : Int32)), (.int (0 : Int32))] (.int (0 : Int32)) := (Arv.set Ar36 q36 S36 M36 H36 G36 rfl W37 0 rfl (Nat.le_of_ble_eq_true rfl))
  refine own_dup X37 hx (pc' := 50) (hb hby at_49) rfl rfl ?_
  refine own_iconst X37 hx (pc' := 51) (1 : Int32) (hb hby at_50) rfl rfl ?_
  refine own_lloadN X37 hx (pc' := 52) (hb hby at_51) rfl rfl ?_
  refine own_l2i X37 hx (pc' := 53) (hb hby at_52) rfl ?_
  refine own_ldcI X37 hx (pc' := 55) hZ hown (Wd1 hw) (hb hby at_53) rfl ?_
  refine own_iand X37 hx (pc' := 56) (hb hby at_55) rfl rfl ?_
  refine own_iconst X37 hx (pc' := 57) (1 : Int32) (hb hby at_56) rfl rfl ?_
  refine own_iadd X37 hx (pc' := 58) (hb hby at_57) rfl rfl ?_
  obtain ⟨y1, e_y1⟩ : ∃ z, z = (((p1.toInt32) &&& (16777215 : Int32)) + (1 : Int32)) := ⟨_, rfl⟩
  rw [← e_y1]
  have h_y1 : 1 ≤ y1.toInt ∧ y1.toInt ≤ 16777216 := by
    have q1 := c_mask (p1.toInt32) (16777215 : Int32) 24 (by decide) (by decide)
    have q2 := c_iadd ((p1.toInt32) &&& (16777215 : Int32)) (1 : Int32)
    have q3 := rng32 (((p1.toInt32) &&& (16777215 : Int32)) + (1 : Int32))
    rw [own_t32_1] at q2
    rw [e_y1]
    omega
  obtain ⟨cl44, Ar44, q44, S44, M44, H44, G44⟩ := id F43
  refine own_stI X37 hx (pc' := 59) hZ e37 Ar44 (inb_of S44 ⟨by decide, by decide⟩) (hb hby at_58) rfl (fun T45 h45 X45 e45 W45 => ?_)
  have N46 := Fr.snoc X45 N38 ge_nb28
  have Z47 : n0 ≤ h45.size := Nat.le_trans Z39 (Nat.le_of_eq (Wr.size W45).symm)
  have F48 := (Sta.wr W45 F40)
  have F49 := (F41.other W45 ne_nn_nb28_29)
  have F50 := (F42.other W45 ne_nb1_nb28_30)
  have F51 : Arv Z h45 nb28 kc28 .int (3 : Int32) [(.int y0), (.int y1), (.int (0 : Int32))] (.int (0 : Int32)) := (Arv.set Ar44 q44 S44 M44 H44 G44 rfl W45 1 rfl (Nat.le_of_ble_eq_true rfl))
  refine own_dup X45 hx (pc' := 60) (hb hby at_59) rfl rfl ?_
  refine own_iconst X45 hx (pc' := 61) (2 : Int32) (hb hby at_60) rfl rfl ?_
  refine own_lload X45 hx (pc' := 63) (hb hby at_61) rfl rfl ?_
  refine own_l2i X45 hx (pc' := 64) (hb hby at_63) rfl ?_
  refine own_ldcI X45 hx (pc' := 66) hZ hown (Wd1 hw) (hb hby at_64) rfl ?_
  refine own_iand X45 hx (pc' := 67) (hb hby at_66) rfl rfl ?_
  refine own_iconst X45 hx (pc' := 68) (1 : Int32) (hb hby at_67) rfl rfl ?_
  refine own_iadd X45 hx (pc' := 69) (hb hby at_68) rfl rfl ?_
  obtain ⟨y2, e_y2⟩ : ∃ z, z = (((p2.toInt32) &&& (16777215 : Int32)) + (1 : Int32)) := ⟨_, rfl⟩
  rw [← e_y2]
  have h_y2 : 1 ≤ y2.toInt ∧ y2.toInt ≤ 16777216 := by
    have q1 := c_mask (p2.toInt32) (16777215 : Int32) 24 (by decide) (by decide)
    have q2 := c_iadd ((p2.toInt32) &&& (16777215 : Int32)) (1 : Int32)
    have q3 := rng32 (((p2.toInt32) &&& (16777215 : Int32)) + (1 : Int32))
    rw [own_t32_1] at q2
    rw [e_y2]
    omega
  obtain ⟨cl52, Ar52, q52, S52, M52, H52, G52⟩ := id F51
  refine own_stI X45 hx (pc' := 70) hZ e45 Ar52 (inb_of S52 ⟨by decide, by decide⟩) (hb hby at_69) rfl (fun T53 h53 X53 e53 W53 => ?_)
  have N54 := Fr.snoc X53 N46 ge_nb28
  have Z55 : n0 ≤ h53.size := Nat.le_trans Z47 (Nat.le_of_eq (Wr.size W53).symm)
  have F56 := (Sta.wr W53 F48)
  have F57 := (F49.other W53 ne_nn_nb28_29)
  have F58 := (F50.other W53 ne_nb1_nb28_30)
  have F59 : Arv Z h53 nb28 kc28 .int (3 : Int32) [(.int y0), (.int y1), (.int y2)] (.int (0 : Int32)) := (Arv.set Ar52 q52 S52 M52 H52 G52 rfl W53 2 rfl (Nat.le_of_ble_eq_true rfl))
  refine own_astore X53 hx (pc' := 72) (Ls' := #[.val (.long p0), .second, .val (.long p1), .second, .val (.long p2), .second, .val (.long p3), .second, .val (.int p4), .val (.int n), .val (.ref nb1), .val (.ref nb28), .unset, .unset, .unset, .unset, .unset, .unset, .unset, .unset, .unset, .unset, .unset, .unset, .unset, .unset, .unset, .unset, .unset, .unset]) (hb hby at_70) rfl rfl rfl ?_
  have J175 : ∀ (f12 p13 f14 f15 f16 bt g18 bk : Int32) (hp13 : 0 ≤ p13.toInt ∧ p13.toInt ≤ 3) (hbt : bt = 1 ∨ bt = 2), own_G p.tables e below (own_P s (Q0 n0) 32 192) T53 (mkF m 175 #[.val (.long p0), .second, .val (.long p1), .second, .val (.long p2), .second, .val (.long p3), .second, .val (.int p4), .val (.int n), .val (.ref nb1), .val (.ref nb28), .val (.int f12), .val (.int p13), .val (.int f14), .val (.int f15), .val (.int f16), .val (.int bt), .val (.int g18), .val (.int bk), .unset, .unset, .unset, .unset, .unset, .unset, .unset, .unset, .unset, .unset] []) := by
    intro f12 p13 f14 f15 f16 bt g18 bk hp13 hbt
    have JEA : ∀ (c1 c2 c3 : Addr) (j1 j2 j3 : ClassId) (ch b2 : Addr) (k2 : ClassId) (z cnt u0 u1 u2 : Int32) (sp tc bb ex : Int32) (s9 s21 s24 s25 s26 s27 s28 s29 : Slot) (TJ : State) (locsJ : List Loc) (hJ : Heap) (XJ : Stand p l e room_1 s m #[(.long p0), (.long p1), (.long p2), (.long p3), (.int p4)] below meth c TJ locsJ 9 40) (eJ : TJ.heap = hJ) (NJ : Fr n0 locsJ) (ZJ : n0 ≤ hJ.size) (EJ : Exa Z hJ ch "com/example/rootcast/rootcast/tree/Children") (FJ0 : Fld Z hJ ch "com/example/rootcast/rootcast/tree/Children" "count" "I" (.int cnt)) (FJ1 : Fld Z hJ ch "com/example/rootcast/rootcast/tree/Children" "subtree" "[I" (.ref b2)) (FJ2 : Fld Z hJ ch "com/example/rootcast/rootcast/tree/Children" "awaited" "I" (.int (1 : Int32))) (FJ3 : Fld Z hJ ch "com/example/rootcast/rootcast/tree/Children" "stopped" "[I" (.ref c1)) (FJ4 : Fld Z hJ ch "com/example/rootcast/rootcast/tree/Children" "toCome" "[I" (.ref c2)) (FJ5 : Fld Z hJ ch "com/example/rootcast/rootcast/tree/Children" "beatsLeft" "[I" (.ref c3)) (FJ6 : Arv Z hJ c1 j1 .int (4 : Int32) [(.int sp), (.int (0 : Int32)), (.int (0 : Int32))] (.int (0 : Int32))) (FJ7 : Arv Z hJ c2 j2 .int (4 : Int32) [(.int tc), (.int (0 : Int32)), (.int (0 : Int32))] (.int (0 : Int32))) (FJ8 : Arv Z hJ c3 j3 .int (4 : Int32) [(.int bb), (.int (0 : Int32)), (.int (0 : Int32))] (.int (0 : Int32))) (VJ : Arv Z hJ b2 k2 .int z [(.int u0), (.int u1), (.int u2)] (.int (0 : Int32))) (hcnt : cnt.toInt ≤ 3) (hz : z.toInt = 3 ∨ z.toInt = 4) (hbch : b2 ≠ ch) (hex : ex = own_sum cnt u0 u1 u2 + tc), own_G p.tables e below (own_P s (Q0 n0) 32 192) TJ (mkF m 493 #[.val (.long p0), .second, .val (.long p1), .second, .val (.long p2), .second, .val (.long p3), .second, .val (.int p4), s9, .val (.ref nb1), .val (.ref nb28), .val (.int f12), .val (.int p13), .val (.int f14), .val (.int f15), .val (.int f16), .val (.int bt), .val (.int g18), .val (.int bk), .val (.ref ch), s21, .val (.int (1 : Int32)), .val (.int ex), s24, s25, s26, s27, s28, s29] []) := by
      intro c1 c2 c3 j1 j2 j3 ch b2 k2 z cnt u0 u1 u2 sp tc bb ex s9 s21 s24 s25 s26 s27 s28 s29 TJ locsJ hJ XJ eJ NJ ZJ EJ FJ0 FJ1 FJ2 FJ3 FJ4 FJ5 FJ6 FJ7 FJ8 VJ hcnt hz hbch hex
      refine own_iload XJ hx (pc' := 495) (hb hby at_493) rfl rfl ?_
      refine own_ifNo XJ hx (pc' := 498) (hb hby at_495) (feq (by decide : ¬ ((1 : Int32) = (0 : Int32)))).1 rfl ?_
      refine own_aload XJ hx (pc' := 500) (hb hby at_498) rfl rfl rfl ?_
      refine own_callV XJ hx (pc' := 503) hZ hown (Wd50 hw) (Wd52 hw) (Wd53 hw) (Wd54 hw) (Wd4 hw) (by decide) (rm_peA l Z a0 hw [] ch b2 c2 k2 j2 z (4 : Int32) cnt u0 u1 u2 tc hJ n0 ZJ hcnt hz (Or.inr (by decide)) FJ0 FJ1 FJ2 VJ FJ4 FJ7) eJ EJ 0 (by decide) (by decide) (by decide) (by decide) [] [] (by rw [hml]; rfl) (lenOf pd_3 rfl) rfl rfl (Nat.le_of_eq rfl) (hb hby at_500) rfl (fun v60 T60 L60 X60 hQ60 => ?_)
      obtain ⟨rfl, Nq60, e60⟩ := hQ60
      have N61 := Fr.app NJ Nq60
      show own_G p.tables e below _ T60 (mkF m 503 #[.val (.long p0), .second, .val (.long p1), .second, .val (.long p2), .second, .val (.long p3), .second, .val (.int p4), s9, .val (.ref nb1), .val (.ref nb28), .val (.int f12), .val (.int p13), .val (.int f14), .val (.int f15), .val (.int f16), .val (.int bt), .val (.int g18), .val (.int bk), .val (.ref ch), s21, .val (.int (1 : Int32)), .val (.int ex), s24, s25, s26, s27, s28, s29] [(.int (own_sum cnt u0 u1 u2 + tc))])
      refine own_iload X60 hx (pc' := 505) (hb hby at_503) rfl rfl ?_
      refine own_icmpNo X60 hx (pc' := 508) (hb hby at_505) (teq hex.symm).2 rfl ?_
      refine own_iconst X60 hx (pc' := 509) (1 : Int32) (hb hby at_508) rfl rfl ?_
      refine own_goto X60 hx (pc' := 513) (hb hby at_509) (by decide) (by decide) ?_
      refine own_retN X60 hx hlk hret (by simp) (hb hby at_513) (by decide) (by decide) ?_
      exact ⟨rfl, N61⟩
    have JEN : ∀ (ch b2 : Addr) (k2 : ClassId) (z cnt u0 u1 u2 : Int32) (ex : Int32) (s9 s21 s24 s25 s26 s27 s28 s29 : Slot) (TJ : State) (locsJ : List Loc) (hJ : Heap) (XJ : Stand p l e room_1 s m #[(.long p0), (.long p1), (.long p2), (.long p3), (.int p4)] below meth c TJ locsJ 9 40) (eJ : TJ.heap = hJ) (NJ : Fr n0 locsJ) (ZJ : n0 ≤ hJ.size) (EJ : Exa Z hJ ch "com/example/rootcast/rootcast/tree/Children") (FJ0 : Fld Z hJ ch "com/example/rootcast/rootcast/tree/Children" "count" "I" (.int cnt)) (FJ1 : Fld Z hJ ch "com/example/rootcast/rootcast/tree/Children" "subtree" "[I" (.ref b2)) (FJ2 : Fld Z hJ ch "com/example/rootcast/rootcast/tree/Children" "awaited" "I" (.int (0 : Int32))) (VJ : Arv Z hJ b2 k2 .int z [(.int u0), (.int u1), (.int u2)] (.int (0 : Int32))) (hcnt : cnt.toInt ≤ 3) (hz : z.toInt = 3 ∨ z.toInt = 4) (hbch : b2 ≠ ch) (hex : ex = own_sum cnt u0 u1 u2), own_G p.tables e below (own_P s (Q0 n0) 32 192) TJ (mkF m 493 #[.val (.long p0), .second, .val (.long p1), .second, .val (.long p2), .second, .val (.long p3), .second, .val (.int p4), s9, .val (.ref nb1), .val (.ref nb28), .val (.int f12), .val (.int p13), .val (.int f14), .val (.int f15), .val (.int f16), .val (.int bt), .val (.int g18), .val (.int bk), .val (.ref ch), s21, .val (.int (1 : Int32)), .val (.int ex), s24, s25, s26, s27, s28, s29] []) := by
      intro ch b2 k2 z cnt u0 u1 u2 ex s9 s21 s24 s25 s26 s27 s28 s29 TJ locsJ hJ XJ eJ NJ ZJ EJ FJ0 FJ1 FJ2 VJ hcnt hz hbch hex
      refine own_iload XJ hx (pc' := 495) (hb hby at_493) rfl rfl ?_
      refine own_ifNo XJ hx (pc' := 498) (hb hby at_495) (feq (by decide : ¬ ((1 : Int32) = (0 : Int32)))).1 rfl ?_
      refine own_aload XJ hx (pc' := 500) (hb hby at_498) rfl rfl rfl ?_
      refine own_callV XJ hx (pc' := 503) hZ hown (Wd50 hw) (Wd52 hw) (Wd53 hw) (Wd54 hw) (Wd4 hw) (by decide) (rm_peN l Z a0 hw [] ch b2 nn k2 kn z (4 : Int32) cnt u0 u1 u2 (0 : Int32) hJ n0 ZJ hcnt hz (Or.inr (by decide)) FJ0 FJ1 FJ2 VJ) eJ EJ 0 (by decide) (by decide) (by decide) (by decide) [] [] (by rw [hml]; rfl) (lenOf pd_3 rfl) rfl rfl (Nat.le_of_eq rfl) (hb hby at_500) rfl (fun v62 T62 L62 X62 hQ62 => ?_)
      obtain ⟨rfl, Nq62, e62⟩ := hQ62
      have N63 := Fr.app NJ Nq62
      show own_G p.tables e below _ T62 (mkF m 503 #[.val (.long p0), .second, .val (.long p1), .second, .val (.long p2), .second, .val (.long p3), .second, .val (.int p4), s9, .val (.ref nb1), .val (.ref nb28), .val (.int f12), .val (.int p13), .val (.int f14), .val (.int f15), .val (.int f16), .val (.int bt), .val (.int g18), .val (.int bk), .val (.ref ch), s21, .val (.int (1 : Int32)), .val (.int ex), s24, s25, s26, s27, s28, s29] [(.int (own_sum cnt u0 u1 u2))])
      refine own_iload X62 hx (pc' := 505) (hb hby at_503) rfl rfl ?_
      refine own_icmpNo X62 hx (pc' := 508) (hb hby at_505) (teq hex.symm).2 rfl ?_
      refine own_iconst X62 hx (pc' := 509) (1 : Int32) (hb hby at_508) rfl rfl ?_
      refine own_goto X62 hx (pc' := 513) (hb hby at_509) (by decide) (by decide) ?_
      refine own_retN X62 hx hlk hret (by simp) (hb hby at_513) (by decide) (by decide) ?_
      exact ⟨rfl, N63⟩
    have J4A : ∀ (c1 c2 c3 : Addr) (j1 j2 j3 : ClassId) (ch b2 : Addr) (k2 : ClassId) (z cnt u0 u1 u2 : Int32) (n9 tt pl rs rp : Int32) (sp tc : Int32) (s29 : Slot) (TJ : State) (locsJ : List Loc) (hJ : Heap) (XJ : Stand p l e room_1 s m #[(.long p0), (.long p1), (.long p2), (.long p3), (.int p4)] below meth c TJ locsJ 9 40) (eJ : TJ.heap = hJ) (NJ : Fr n0 locsJ) (ZJ : n0 ≤ hJ.size) (EJ : Exa Z hJ ch "com/example/rootcast/rootcast/tree/Children") (FJ0 : Fld Z hJ ch "com/example/rootcast/rootcast/tree/Children" "count" "I" (.int cnt)) (FJ1 : Fld Z hJ ch "com/example/rootcast/rootcast/tree/Children" "subtree" "[I" (.ref b2)) (FJ2 : Fld Z hJ ch "com/example/rootcast/rootcast/tree/Children" "awaited" "I" (.int (1 : Int32))) (FJ3 : Fld Z hJ ch "com/example/rootcast/rootcast/tree/Children" "stopped" "[I" (.ref c1)) (FJ4 : Fld Z hJ ch "com/example/rootcast/rootcast/tree/Children" "toCome" "[I" (.ref c2)) (FJ5 : Fld Z hJ ch "com/example/rootcast/rootcast/tree/Children" "beatsLeft" "[I" (.ref c3)) (FJ6 : Arv Z hJ c1 j1 .int (4 : Int32) [(.int sp), (.int (0 : Int32)), (.int (0 : Int32))] (.int (0 : Int32))) (FJ7 : Arv Z hJ c2 j2 .int (4 : Int32) [(.int tc), (.int (0 : Int32)), (.int (0 : Int32))] (.int (0 : Int32))) (FJ8 : Arv Z hJ c3 j3 .int (4 : Int32) [(.int bt), (.int (0 : Int32)), (.int (0 : Int32))] (.int (0 : Int32))) (VJ : Arv Z hJ b2 k2 .int z [(.int u0), (.int u1), (.int u2)] (.int (0 : Int32))) (hcnt : cnt.toInt ≤ 3) (hz : z.toInt = 3 ∨ z.toInt = 4) (hbch : b2 ≠ ch) (hsum : own_sum cnt u0 u1 u2 = tt - rs) (ge_ch : n0 ≤ ch) (ge_c1 : n0 ≤ c1) (ge_c2 : n0 ≤ c2) (ge_c3 : n0 ≤ c3) (m12 : c1 ≠ c2) (m13 : c1 ≠ c3) (m23 : c2 ≠ c3) (hq1 : b2 ≠ c1) (hq2 : b2 ≠ c2) (hq3 : b2 ≠ c3), own_G p.tables e below (own_P s (Q0 n0) 32 192) TJ (mkF m 423 #[.val (.long p0), .second, .val (.long p1), .second, .val (.long p2), .second, .val (.long p3), .second, .val (.int p4), .val (.int n9), .val (.ref nb1), .val (.ref nb28), .val (.int f12), .val (.int p13), .val (.int f14), .val (.int f15), .val (.int f16), .val (.int bt), .val (.int g18), .val (.int bk), .val (.ref ch), .val (.int tt), .val (.int (1 : Int32)), .val (.int tt), .val (.int pl), .val (.int rs), .val (.int rp), .val (.int (1 : Int32)), .val (.int tc), s29] []) := by
      intro c1 c2 c3 j1 j2 j3 ch b2 k2 z cnt u0 u1 u2 n9 tt pl rs rp sp tc s29 TJ locsJ hJ XJ eJ NJ ZJ EJ FJ0 FJ1 FJ2 FJ3 FJ4 FJ5 FJ6 FJ7 FJ8 VJ hcnt hz hbch hsum ge_ch ge_c1 ge_c2 ge_c3 m12 m13 m23 hq1 hq2 hq3
      refine own_iload XJ hx (pc' := 425) (hb hby at_423) rfl rfl ?_
      by_cases hc425_64 : f16 = (0 : Int32)
      · skip
        refine own_ifYes XJ hx (pc' := 447) (hb hby at_425) (teq hc425_64).1 (by decide) (by decide) ?_
        refine own_iload XJ hx (pc' := 449) (hb hby at_447) rfl rfl ?_
        refine own_iload XJ hx (pc' := 451) (hb hby at_449) rfl rfl ?_
        refine own_isub XJ hx (pc' := 452) (hb hby at_451) rfl rfl ?_
        refine own_iload XJ hx (pc' := 454) (hb hby at_452) rfl rfl ?_
        refine own_ifNo XJ hx (pc' := 457) (hb hby at_454) (feq (by decide : ¬ ((1 : Int32) = (0 : Int32)))).1 rfl ?_
        refine own_iload XJ hx (pc' := 459) (hb hby at_457) rfl rfl ?_
        refine own_goto XJ hx (pc' := 463) (hb hby at_459) (by decide) (by decide) ?_
        refine own_iadd XJ hx (pc' := 464) (hb hby at_463) rfl rfl ?_
        refine own_istore XJ hx (pc' := 466) (Ls' := #[.val (.long p0), .second, .val (.long p1), .second, .val (.long p2), .second, .val (.long p3), .second, .val (.int p4), .val (.int n9), .val (.ref nb1), .val (.ref nb28), .val (.int f12), .val (.int p13), .val (.int f14), .val (.int f15), .val (.int f16), .val (.int bt), .val (.int g18), .val (.int bk), .val (.ref ch), .val (.int tt), .val (.int (1 : Int32)), .val (.int ((tt - rs) + tc)), .val (.int pl), .val (.int rs), .val (.int rp), .val (.int (1 : Int32)), .val (.int tc), s29]) (hb hby at_464) rfl rfl ?_
        refine own_goto XJ hx (pc' := 493) (hb hby at_466) (by decide) (by decide) ?_
        exact JEA c1 c2 c3 j1 j2 j3 ch b2 k2 z cnt u0 u1 u2 sp tc bt ((tt - rs) + tc) (.val (.int n9)) (.val (.int tt)) (.val (.int pl)) (.val (.int rs)) (.val (.int rp)) (.val (.int (1 : Int32))) (.val (.int tc)) s29 _ _ _ XJ eJ NJ ZJ EJ FJ0 FJ1 FJ2 FJ3 FJ4 FJ5 FJ6 FJ7 FJ8 VJ hcnt hz hbch (by rw [hsum])
      · skip
        refine own_ifNo XJ hx (pc' := 428) (hb hby at_425) (feq hc425_64).1 rfl ?_
        refine own_aload XJ hx (pc' := 430) (hb hby at_428) rfl rfl rfl ?_
        rcases hbt with hbt | hbt
        · have hb1 : bt - (1 : Int32) = (0 : Int32) := by rw [hbt]; decide
          have hbe : bt = (1 : Int32) := hbt
          refine own_callV XJ hx (pc' := 433) hZ hown (Wd73 hw) (Wd75 hw) (Wd76 hw) (Wd77 hw) (Wd4 hw) (by decide) (rm_bt1 l Z a0 hw [] ch c1 c2 c3 j1 j2 j3 (4 : Int32) sp tc bt cnt b2 hJ n0 ZJ (Or.inr (by decide)) ge_ch ge_c1 ge_c2 ge_c3 m12 m13 m23 hb1 EJ FJ0 FJ1 FJ2 FJ3 FJ4 FJ5 FJ6 FJ7 FJ8) eJ EJ 0 (by decide) (by decide) (by decide) (by decide) [] [] (by rw [hml]; rfl) (lenOf pd_4 rfl) rfl rfl (Nat.le_of_eq rfl) (hb hby at_430) rfl (fun v65 T65 L65 X65 hQ65 => ?_)
          obtain ⟨rfl, Nq65, K65, Q65_0, Q65_1, Q65_2, Q65_3, Q65_4, Q65_5, Q65_6, Q65_7, Q65_8⟩ := hQ65
          have N66 := Fr.app NJ Nq65
          have Z67 : n0 ≤ T65.heap.size := Nat.le_trans ZJ K65.1
          have F68 := (Exa.keep EJ K65)
          have F69 := (VJ.keep K65 (ninS hbch (ninS hq1 (ninS hq2 (ninS hq3 nin0)))))
          show own_G p.tables e below _ T65 (mkF m 433 #[.val (.long p0), .second, .val (.long p1), .second, .val (.long p2), .second, .val (.long p3), .second, .val (.int p4), .val (.int n9), .val (.ref nb1), .val (.ref nb28), .val (.int f12), .val (.int p13), .val (.int f14), .val (.int f15), .val (.int f16), .val (.int bt), .val (.int g18), .val (.int bk), .val (.ref ch), .val (.int tt), .val (.int (1 : Int32)), .val (.int tt), .val (.int pl), .val (.int rs), .val (.int rp), .val (.int (1 : Int32)), .val (.int tc), s29] [])
          refine own_iload X65 hx (pc' := 435) (hb hby at_433) rfl rfl ?_
          refine own_ifNo X65 hx (pc' := 438) (hb hby at_435) (feq (by decide : ¬ ((1 : Int32) = (0 : Int32)))).1 rfl ?_
          refine own_iload X65 hx (pc' := 440) (hb hby at_438) rfl rfl ?_
          refine own_iconst X65 hx (pc' := 441) (1 : Int32) (hb hby at_440) rfl rfl ?_
          refine own_icmpNo X65 hx (pc' := 444) (hb hby at_441) (teq hbe).2 rfl ?_
          refine own_iconst X65 hx (pc' := 445) (0 : Int32) (hb hby at_444) rfl rfl ?_
          refine own_istore X65 hx (pc' := 447) (Ls' := #[.val (.long p0), .second, .val (.long p1), .second, .val (.long p2), .second, .val (.long p3), .second, .val (.int p4), .val (.int n9), .val (.ref nb1), .val (.ref nb28), .val (.int f12), .val (.int p13), .val (.int f14), .val (.int f15), .val (.int f16), .val (.int bt), .val (.int g18), .val (.int bk), .val (.ref ch), .val (.int tt), .val (.int (1 : Int32)), .val (.int tt), .val (.int pl), .val (.int rs), .val (.int rp), .val (.int (0 : Int32)), .val (.int tc), s29]) (hb hby at_445) rfl rfl ?_
          refine own_iload X65 hx (pc' := 449) (hb hby at_447) rfl rfl ?_
          refine own_iload X65 hx (pc' := 451) (hb hby at_449) rfl rfl ?_
          refine own_isub X65 hx (pc' := 452) (hb hby at_451) rfl rfl ?_
          refine own_iload X65 hx (pc' := 454) (hb hby at_452) rfl rfl ?_
          refine own_ifYes X65 hx (pc' := 462) (hb hby at_454) (teq rfl).1 (by decide) (by decide) ?_
          refine own_iconst X65 hx (pc' := 463) (0 : Int32) (hb hby at_462) rfl rfl ?_
          refine own_iadd X65 hx (pc' := 464) (hb hby at_463) rfl rfl ?_
          refine own_istore X65 hx (pc' := 466) (Ls' := #[.val (.long p0), .second, .val (.long p1), .second, .val (.long p2), .second, .val (.long p3), .second, .val (.int p4), .val (.int n9), .val (.ref nb1), .val (.ref nb28), .val (.int f12), .val (.int p13), .val (.int f14), .val (.int f15), .val (.int f16), .val (.int bt), .val (.int g18), .val (.int bk), .val (.ref ch), .val (.int tt), .val (.int (1 : Int32)), .val (.int ((tt - rs) + (0 : Int32))), .val (.int pl), .val (.int rs), .val (.int rp), .val (.int (0 : Int32)), .val (.int tc), s29]) (hb hby at_464) rfl rfl ?_
          refine own_goto X65 hx (pc' := 493) (hb hby at_466) (by decide) (by decide) ?_
          exact JEN ch b2 k2 z cnt u0 u1 u2 ((tt - rs) + (0 : Int32)) (.val (.int n9)) (.val (.int tt)) (.val (.int pl)) (.val (.int rs)) (.val (.int rp)) (.val (.int (0 : Int32))) (.val (.int tc)) s29 _ _ _ X65 rfl N66 Z67 F68 Q65_0 Q65_1 Q65_2 F69 hcnt hz hbch (by rw [hsum, Int32.add_zero])
        · have hb1 : bt - (1 : Int32) = (1 : Int32) := by rw [hbt]; decide
          have hbe : ¬ (bt = (1 : Int32)) := by rw [hbt]; decide
          refine own_callV XJ hx (pc' := 433) hZ hown (Wd73 hw) (Wd75 hw) (Wd76 hw) (Wd77 hw) (Wd4 hw) (by decide) (rm_bt2 l Z a0 hw [] ch c1 c2 c3 j1 j2 j3 (4 : Int32) sp tc bt cnt b2 hJ n0 ZJ (Or.inr (by decide)) ge_ch ge_c1 ge_c2 ge_c3 m12 m13 m23 hb1 EJ FJ0 FJ1 FJ2 FJ3 FJ4 FJ5 FJ6 FJ7 FJ8) eJ EJ 0 (by decide) (by decide) (by decide) (by decide) [] [] (by rw [hml]; rfl) (lenOf pd_4 rfl) rfl rfl (Nat.le_of_eq rfl) (hb hby at_430) rfl (fun v70 T70 L70 X70 hQ70 => ?_)
          obtain ⟨rfl, Nq70, K70, Q70_0, Q70_1, Q70_2, Q70_3, Q70_4, Q70_5, Q70_6, Q70_7, Q70_8⟩ := hQ70
          have N71 := Fr.app NJ Nq70
          have Z72 : n0 ≤ T70.heap.size := Nat.le_trans ZJ K70.1
          have F73 := (Exa.keep EJ K70)
          have F74 := (VJ.keep K70 (ninS hbch (ninS hq1 (ninS hq2 (ninS hq3 nin0)))))
          show own_G p.tables e below _ T70 (mkF m 433 #[.val (.long p0), .second, .val (.long p1), .second, .val (.long p2), .second, .val (.long p3), .second, .val (.int p4), .val (.int n9), .val (.ref nb1), .val (.ref nb28), .val (.int f12), .val (.int p13), .val (.int f14), .val (.int f15), .val (.int f16), .val (.int bt), .val (.int g18), .val (.int bk), .val (.ref ch), .val (.int tt), .val (.int (1 : Int32)), .val (.int tt), .val (.int pl), .val (.int rs), .val (.int rp), .val (.int (1 : Int32)), .val (.int tc), s29] [])
          refine own_iload X70 hx (pc' := 435) (hb hby at_433) rfl rfl ?_
          refine own_ifNo X70 hx (pc' := 438) (hb hby at_435) (feq (by decide : ¬ ((1 : Int32) = (0 : Int32)))).1 rfl ?_
          refine own_iload X70 hx (pc' := 440) (hb hby at_438) rfl rfl ?_
          refine own_iconst X70 hx (pc' := 441) (1 : Int32) (hb hby at_440) rfl rfl ?_
          refine own_icmpYes X70 hx (pc' := 447) (hb hby at_441) (feq hbe).2 (by decide) (by decide) ?_
          refine own_iload X70 hx (pc' := 449) (hb hby at_447) rfl rfl ?_
          refine own_iload X70 hx (pc' := 451) (hb hby at_449) rfl rfl ?_
          refine own_isub X70 hx (pc' := 452) (hb hby at_451) rfl rfl ?_
          refine own_iload X70 hx (pc' := 454) (hb hby at_452) rfl rfl ?_
          refine own_ifNo X70 hx (pc' := 457) (hb hby at_454) (feq (by decide : ¬ ((1 : Int32) = (0 : Int32)))).1 rfl ?_
          refine own_iload X70 hx (pc' := 459) (hb hby at_457) rfl rfl ?_
          refine own_goto X70 hx (pc' := 463) (hb hby at_459) (by decide) (by decide) ?_
          refine own_iadd X70 hx (pc' := 464) (hb hby at_463) rfl rfl ?_
          refine own_istore X70 hx (pc' := 466) (Ls' := #[.val (.long p0), .second, .val (.long p1), .second, .val (.long p2), .second, .val (.long p3), .second, .val (.int p4), .val (.int n9), .val (.ref nb1), .val (.ref nb28), .val (.int f12), .val (.int p13), .val (.int f14), .val (.int f15), .val (.int f16), .val (.int bt), .val (.int g18), .val (.int bk), .val (.ref ch), .val (.int tt), .val (.int (1 : Int32)), .val (.int ((tt - rs) + tc)), .val (.int pl), .val (.int rs), .val (.int rp), .val (.int (1 : Int32)), .val (.int tc), s29]) (hb hby at_464) rfl rfl ?_
          refine own_goto X70 hx (pc' := 493) (hb hby at_466) (by decide) (by decide) ?_
          exact JEA c1 c2 c3 j1 j2 j3 ch b2 k2 z cnt u0 u1 u2 sp tc (1 : Int32) ((tt - rs) + tc) (.val (.int n9)) (.val (.int tt)) (.val (.int pl)) (.val (.int rs)) (.val (.int rp)) (.val (.int (1 : Int32))) (.val (.int tc)) s29 _ _ _ X70 rfl N71 Z72 F73 Q70_0 Q70_1 Q70_2 Q70_3 Q70_4 Q70_5 Q70_6 Q70_7 Q70_8 F74 hcnt hz hbch (by rw [hsum])
    have J4N : ∀ (ch b2 : Addr) (k2 : ClassId) (z cnt u0 u1 u2 : Int32) (n9 tt pl rs rp : Int32) (tc : Int32) (s29 : Slot) (TJ : State) (locsJ : List Loc) (hJ : Heap) (XJ : Stand p l e room_1 s m #[(.long p0), (.long p1), (.long p2), (.long p3), (.int p4)] below meth c TJ locsJ 9 40) (eJ : TJ.heap = hJ) (NJ : Fr n0 locsJ) (ZJ : n0 ≤ hJ.size) (EJ : Exa Z hJ ch "com/example/rootcast/rootcast/tree/Children") (FJ0 : Fld Z hJ ch "com/example/rootcast/rootcast/tree/Children" "count" "I" (.int cnt)) (FJ1 : Fld Z hJ ch "com/example/rootcast/rootcast/tree/Children" "subtree" "[I" (.ref b2)) (FJ2 : Fld Z hJ ch "com/example/rootcast/rootcast/tree/Children" "awaited" "I" (.int (0 : Int32))) (VJ : Arv Z hJ b2 k2 .int z [(.int u0), (.int u1), (.int u2)] (.int (0 : Int32))) (hcnt : cnt.toInt ≤ 3) (hz : z.toInt = 3 ∨ z.toInt = 4) (hbch : b2 ≠ ch) (hsum : own_sum cnt u0 u1 u2 = tt - rs), own_G p.tables e below (own_P s (Q0 n0) 32 192) TJ (mkF m 423 #[.val (.long p0), .second, .val (.long p1), .second, .val (.long p2), .second, .val (.long p3), .second, .val (.int p4), .val (.int n9), .val (.ref nb1), .val (.ref nb28), .val (.int f12), .val (.int p13), .val (.int f14), .val (.int f15), .val (.int f16), .val (.int bt), .val (.int g18), .val (.int bk), .val (.ref ch), .val (.int tt), .val (.int (1 : Int32)), .val (.int tt), .val (.int pl), .val (.int rs), .val (.int rp), .val (.int (0 : Int32)), .val (.int tc), s29] []) := by
      intro ch b2 k2 z cnt u0 u1 u2 n9 tt pl rs rp tc s29 TJ locsJ hJ XJ eJ NJ ZJ EJ FJ0 FJ1 FJ2 VJ hcnt hz hbch hsum
      refine own_iload XJ hx (pc' := 425) (hb hby at_423) rfl rfl ?_
      by_cases hc425_75 : f16 = (0 : Int32)
      · skip
        refine own_ifYes XJ hx (pc' := 447) (hb hby at_425) (teq hc425_75).1 (by decide) (by decide) ?_
        refine own_iload XJ hx (pc' := 449) (hb hby at_447) rfl rfl ?_
        refine own_iload XJ hx (pc' := 451) (hb hby at_449) rfl rfl ?_
        refine own_isub XJ hx (pc' := 452) (hb hby at_451) rfl rfl ?_
        refine own_iload XJ hx (pc' := 454) (hb hby at_452) rfl rfl ?_
        refine own_ifYes XJ hx (pc' := 462) (hb hby at_454) (teq rfl).1 (by decide) (by decide) ?_
        refine own_iconst XJ hx (pc' := 463) (0 : Int32) (hb hby at_462) rfl rfl ?_
        refine own_iadd XJ hx (pc' := 464) (hb hby at_463) rfl rfl ?_
        refine own_istore XJ hx (pc' := 466) (Ls' := #[.val (.long p0), .second, .val (.long p1), .second, .val (.long p2), .second, .val (.long p3), .second, .val (.int p4), .val (.int n9), .val (.ref nb1), .val (.ref nb28), .val (.int f12), .val (.int p13), .val (.int f14), .val (.int f15), .val (.int f16), .val (.int bt), .val (.int g18), .val (.int bk), .val (.ref ch), .val (.int tt), .val (.int (1 : Int32)), .val (.int ((tt - rs) + (0 : Int32))), .val (.int pl), .val (.int rs), .val (.int rp), .val (.int (0 : Int32)), .val (.int tc), s29]) (hb hby at_464) rfl rfl ?_
        refine own_goto XJ hx (pc' := 493) (hb hby at_466) (by decide) (by decide) ?_
        exact JEN ch b2 k2 z cnt u0 u1 u2 ((tt - rs) + (0 : Int32)) (.val (.int n9)) (.val (.int tt)) (.val (.int pl)) (.val (.int rs)) (.val (.int rp)) (.val (.int (0 : Int32))) (.val (.int tc)) s29 _ _ _ XJ eJ NJ ZJ EJ FJ0 FJ1 FJ2 VJ hcnt hz hbch (by rw [hsum, Int32.add_zero])
      · skip
        refine own_ifNo XJ hx (pc' := 428) (hb hby at_425) (feq hc425_75).1 rfl ?_
        refine own_aload XJ hx (pc' := 430) (hb hby at_428) rfl rfl rfl ?_
        refine own_callV XJ hx (pc' := 433) hZ hown (Wd73 hw) (Wd75 hw) (Wd76 hw) (Wd77 hw) (Wd4 hw) (by decide) (rm_bt0 l Z a0 hw [] ch hJ n0 ZJ FJ2) eJ EJ 0 (by decide) (by decide) (by decide) (by decide) [] [] (by rw [hml]; rfl) (lenOf pd_4 rfl) rfl rfl (Nat.le_of_eq rfl) (hb hby at_430) rfl (fun v76 T76 L76 X76 hQ76 => ?_)
        obtain ⟨rfl, Nq76, e76⟩ := hQ76
        have N77 := Fr.app NJ Nq76
        show own_G p.tables e below _ T76 (mkF m 433 #[.val (.long p0), .second, .val (.long p1), .second, .val (.long p2), .second, .val (.long p3), .second, .val (.int p4), .val (.int n9), .val (.ref nb1), .val (.ref nb28), .val (.int f12), .val (.int p13), .val (.int f14), .val (.int f15), .val (.int f16), .val (.int bt), .val (.int g18), .val (.int bk), .val (.ref ch), .val (.int tt), .val (.int (1 : Int32)), .val (.int tt), .val (.int pl), .val (.int rs), .val (.int rp), .val (.int (0 : Int32)), .val (.int tc), s29] [])
        refine own_iload X76 hx (pc' := 435) (hb hby at_433) rfl rfl ?_
        refine own_ifYes X76 hx (pc' := 447) (hb hby at_435) (teq rfl).1 (by decide) (by decide) ?_
        refine own_iload X76 hx (pc' := 449) (hb hby at_447) rfl rfl ?_
        refine own_iload X76 hx (pc' := 451) (hb hby at_449) rfl rfl ?_
        refine own_isub X76 hx (pc' := 452) (hb hby at_451) rfl rfl ?_
        refine own_iload X76 hx (pc' := 454) (hb hby at_452) rfl rfl ?_
        refine own_ifYes X76 hx (pc' := 462) (hb hby at_454) (teq rfl).1 (by decide) (by decide) ?_
        refine own_iconst X76 hx (pc' := 463) (0 : Int32) (hb hby at_462) rfl rfl ?_
        refine own_iadd X76 hx (pc' := 464) (hb hby at_463) rfl rfl ?_
        refine own_istore X76 hx (pc' := 466) (Ls' := #[.val (.long p0), .second, .val (.long p1), .second, .val (.long p2), .second, .val (.long p3), .second, .val (.int p4), .val (.int n9), .val (.ref nb1), .val (.ref nb28), .val (.int f12), .val (.int p13), .val (.int f14), .val (.int f15), .val (.int f16), .val (.int bt), .val (.int g18), .val (.int bk), .val (.ref ch), .val (.int tt), .val (.int (1 : Int32)), .val (.int ((tt - rs) + (0 : Int32))), .val (.int pl), .val (.int rs), .val (.int rp), .val (.int (0 : Int32)), .val (.int tc), s29]) (hb hby at_464) rfl rfl ?_
        refine own_goto X76 hx (pc' := 493) (hb hby at_466) (by decide) (by decide) ?_
        exact JEN ch b2 k2 z cnt u0 u1 u2 ((tt - rs) + (0 : Int32)) (.val (.int n9)) (.val (.int tt)) (.val (.int pl)) (.val (.int rs)) (.val (.int rp)) (.val (.int (0 : Int32))) (.val (.int tc)) s29 _ _ _ X76 e76 N77 ZJ EJ FJ0 FJ1 FJ2 VJ hcnt hz hbch (by rw [hsum, Int32.add_zero])
    have JA : ∀ (c1 c2 c3 : Addr) (j1 j2 j3 : ClassId) (ch b2 : Addr) (k2 : ClassId) (z cnt u0 u1 u2 : Int32) (n9 tt pl rs rp : Int32) (TJ : State) (locsJ : List Loc) (hJ : Heap) (XJ : Stand p l e room_1 s m #[(.long p0), (.long p1), (.long p2), (.long p3), (.int p4)] below meth c TJ locsJ 9 40) (eJ : TJ.heap = hJ) (NJ : Fr n0 locsJ) (ZJ : n0 ≤ hJ.size) (EJ : Exa Z hJ ch "com/example/rootcast/rootcast/tree/Children") (FJ0 : Fld Z hJ ch "com/example/rootcast/rootcast/tree/Children" "count" "I" (.int cnt)) (FJ1 : Fld Z hJ ch "com/example/rootcast/rootcast/tree/Children" "subtree" "[I" (.ref b2)) (FJ2 : Fld Z hJ ch "com/example/rootcast/rootcast/tree/Children" "awaited" "I" (.int (1 : Int32))) (FJ3 : Fld Z hJ ch "com/example/rootcast/rootcast/tree/Children" "stopped" "[I" (.ref c1)) (FJ4 : Fld Z hJ ch "com/example/rootcast/rootcast/tree/Children" "toCome" "[I" (.ref c2)) (FJ5 : Fld Z hJ ch "com/example/rootcast/rootcast/tree/Children" "beatsLeft" "[I" (.ref c3)) (FJ6 : Arv Z hJ c1 j1 .int (4 : Int32) [(.int rp), (.int (0 : Int32)), (.int (0 : Int32))] (.int (0 : Int32))) (FJ7 : Arv Z hJ c2 j2 .int (4 : Int32) [(.int (rs - (1 : Int32))), (.int (0 : Int32)), (.int (0 : Int32))] (.int (0 : Int32))) (FJ8 : Arv Z hJ c3 j3 .int (4 : Int32) [(.int bt), (.int (0 : Int32)), (.int (0 : Int32))] (.int (0 : Int32))) (VJ : Arv Z hJ b2 k2 .int z [(.int u0), (.int u1), (.int u2)] (.int (0 : Int32))) (hcnt : cnt.toInt ≤ 3) (hz : z.toInt = 3 ∨ z.toInt = 4) (hbch : b2 ≠ ch) (hR : (1 : Int32) < rs) (hsum : own_sum cnt u0 u1 u2 = tt - rs) (ge_ch : n0 ≤ ch) (ge_c1 : n0 ≤ c1) (ge_c2 : n0 ≤ c2) (ge_c3 : n0 ≤ c3) (m12 : c1 ≠ c2) (m13 : c1 ≠ c3) (m23 : c2 ≠ c3) (hq1 : b2 ≠ c1) (hq2 : b2 ≠ c2) (hq3 : b2 ≠ c3), own_G p.tables e below (own_P s (Q0 n0) 32 192) TJ (mkF m 349 #[.val (.long p0), .second, .val (.long p1), .second, .val (.long p2), .second, .val (.long p3), .second, .val (.int p4), .val (.int n9), .val (.ref nb1), .val (.ref nb28), .val (.int f12), .val (.int p13), .val (.int f14), .val (.int f15), .val (.int f16), .val (.int bt), .val (.int g18), .val (.int bk), .val (.ref ch), .val (.int tt), .val (.int (1 : Int32)), .val (.int tt), .val (.int pl), .val (.int rs), .val (.int rp), .unset, .unset, .unset] []) := by
      intro c1 c2 c3 j1 j2 j3 ch b2 k2 z cnt u0 u1 u2 n9 tt pl rs rp TJ locsJ hJ XJ eJ NJ ZJ EJ FJ0 FJ1 FJ2 FJ3 FJ4 FJ5 FJ6 FJ7 FJ8 VJ hcnt hz hbch hR hsum ge_ch ge_c1 ge_c2 ge_c3 m12 m13 m23 hq1 hq2 hq3
      refine own_iload XJ hx (pc' := 351) (hb hby at_349) rfl rfl ?_
      refine own_iconst XJ hx (pc' := 352) (1 : Int32) (hb hby at_351) rfl rfl ?_
      refine own_icmpNo XJ hx (pc' := 355) (hb hby at_352) (tlt hR).2.2.2 rfl ?_
      refine own_iconst XJ hx (pc' := 356) (1 : Int32) (hb hby at_355) rfl rfl ?_
      refine own_goto XJ hx (pc' := 360) (hb hby at_356) (by decide) (by decide) ?_
      refine own_istore XJ hx (pc' := 362) (Ls' := #[.val (.long p0), .second, .val (.long p1), .second, .val (.long p2), .second, .val (.long p3), .second, .val (.int p4), .val (.int n9), .val (.ref nb1), .val (.ref nb28), .val (.int f12), .val (.int p13), .val (.int f14), .val (.int f15), .val (.int f16), .val (.int bt), .val (.int g18), .val (.int bk), .val (.ref ch), .val (.int tt), .val (.int (1 : Int32)), .val (.int tt), .val (.int pl), .val (.int rs), .val (.int rp), .val (.int (1 : Int32)), .unset, .unset]) (hb hby at_360) rfl rfl ?_
      refine own_iload XJ hx (pc' := 364) (hb hby at_362) rfl rfl ?_
      refine own_iconst XJ hx (pc' := 365) (1 : Int32) (hb hby at_364) rfl rfl ?_
      refine own_isub XJ hx (pc' := 366) (hb hby at_365) rfl rfl ?_
      refine own_istore XJ hx (pc' := 368) (Ls' := #[.val (.long p0), .second, .val (.long p1), .second, .val (.long p2), .second, .val (.long p3), .second, .val (.int p4), .val (.int n9), .val (.ref nb1), .val (.ref nb28), .val (.int f12), .val (.int p13), .val (.int f14), .val (.int f15), .val (.int f16), .val (.int bt), .val (.int g18), .val (.int bk), .val (.ref ch), .val (.int tt), .val (.int (1 : Int32)), .val (.int tt), .val (.int pl), .val (.int rs), .val (.int rp), .val (.int (1 : Int32)), .val (.int (rs - (1 : Int32))), .unset]) (hb hby at_366) rfl rfl ?_
      refine own_iload XJ hx (pc' := 370) (hb hby at_368) rfl rfl ?_
      by_cases hc370_78 : f14 = (0 : Int32)
      · skip
        refine own_ifYes XJ hx (pc' := 423) (hb hby at_370) (teq hc370_78).1 (by decide) (by decide) ?_
        exact J4A c1 c2 c3 j1 j2 j3 ch b2 k2 z cnt u0 u1 u2 n9 tt pl rs rp rp (rs - (1 : Int32)) (.unset) _ _ _ XJ eJ NJ ZJ EJ FJ0 FJ1 FJ2 FJ3 FJ4 FJ5 FJ6 FJ7 FJ8 VJ hcnt hz hbch hsum ge_ch ge_c1 ge_c2 ge_c3 m12 m13 m23 hq1 hq2 hq3
      · skip
        refine own_ifNo XJ hx (pc' := 373) (hb hby at_370) (feq hc370_78).1 rfl ?_
        refine own_iload XJ hx (pc' := 375) (hb hby at_373) rfl rfl ?_
        by_cases hc375_79 : f15 = (0 : Int32)
        · skip
          refine own_ifYes XJ hx (pc' := 383) (hb hby at_375) (teq hc375_79).1 (by decide) (by decide) ?_
          refine own_iload XJ hx (pc' := 385) (hb hby at_383) rfl rfl ?_
          refine own_istore XJ hx (pc' := 387) (Ls' := #[.val (.long p0), .second, .val (.long p1), .second, .val (.long p2), .second, .val (.long p3), .second, .val (.int p4), .val (.int n9), .val (.ref nb1), .val (.ref nb28), .val (.int f12), .val (.int p13), .val (.int f14), .val (.int f15), .val (.int f16), .val (.int bt), .val (.int g18), .val (.int bk), .val (.ref ch), .val (.int tt), .val (.int (1 : Int32)), .val (.int tt), .val (.int pl), .val (.int rs), .val (.int rp), .val (.int (1 : Int32)), .val (.int (rs - (1 : Int32))), .val (.int g18)]) (hb hby at_385) rfl rfl ?_
          refine own_aload XJ hx (pc' := 389) (hb hby at_387) rfl rfl rfl ?_
          refine own_iload XJ hx (pc' := 391) (hb hby at_389) rfl rfl ?_
          refine own_iload XJ hx (pc' := 393) (hb hby at_391) rfl rfl ?_
          by_cases hE : g18 = rp
          · skip
            by_cases hP : (0 : Int32) < ((rs - (1 : Int32)) - bk)
            · skip
              refine own_callV XJ hx (pc' := 396) hZ hown (Wd68 hw) (Wd70 hw) (Wd71 hw) (Wd72 hw) (Wd4 hw) (by decide) (rm_cbE l Z a0 hw [] ch c1 c2 c3 j1 j2 j3 (4 : Int32) rp (rs - (1 : Int32)) bt cnt b2 g18 bk hJ n0 ZJ (Or.inr (by decide)) ge_ch ge_c1 ge_c2 ge_c3 m12 m13 m23 hE.symm hP EJ FJ0 FJ1 FJ2 FJ3 FJ4 FJ5 FJ6 FJ7 FJ8) eJ EJ 0 (by decide) (by decide) (by decide) (by decide) [(.int g18), (.int bk)] [] (by rw [hml]; rfl) (lenOf pd_5 rfl) rfl rfl (Nat.le_of_eq rfl) (hb hby at_393) rfl (fun v80 T80 L80 X80 hQ80 => ?_)
              obtain ⟨rfl, Nq80, K80, Q80_0, Q80_1, Q80_2, Q80_3, Q80_4, Q80_5, Q80_6, Q80_7, Q80_8⟩ := hQ80
              have N81 := Fr.app NJ Nq80
              have Z82 : n0 ≤ T80.heap.size := Nat.le_trans ZJ K80.1
              have F83 := (Exa.keep EJ K80)
              have F84 := (VJ.keep K80 (ninS hbch (ninS hq1 (ninS hq2 (ninS hq3 nin0)))))
              show own_G p.tables e below _ T80 (mkF m 396 #[.val (.long p0), .second, .val (.long p1), .second, .val (.long p2), .second, .val (.long p3), .second, .val (.int p4), .val (.int n9), .val (.ref nb1), .val (.ref nb28), .val (.int f12), .val (.int p13), .val (.int f14), .val (.int f15), .val (.int f16), .val (.int bt), .val (.int g18), .val (.int bk), .val (.ref ch), .val (.int tt), .val (.int (1 : Int32)), .val (.int tt), .val (.int pl), .val (.int rs), .val (.int rp), .val (.int (1 : Int32)), .val (.int (rs - (1 : Int32))), .val (.int g18)] [])
              refine own_iload X80 hx (pc' := 398) (hb hby at_396) rfl rfl ?_
              refine own_ifNo X80 hx (pc' := 401) (hb hby at_398) (feq (by decide : ¬ ((1 : Int32) = (0 : Int32)))).1 rfl ?_
              refine own_iload X80 hx (pc' := 403) (hb hby at_401) rfl rfl ?_
              refine own_iload X80 hx (pc' := 405) (hb hby at_403) rfl rfl ?_
              refine own_icmpNo X80 hx (pc' := 408) (hb hby at_405) (teq hE).2 rfl ?_
              refine own_iload X80 hx (pc' := 410) (hb hby at_408) rfl rfl ?_
              refine own_iload X80 hx (pc' := 412) (hb hby at_410) rfl rfl ?_
              refine own_isub X80 hx (pc' := 413) (hb hby at_412) rfl rfl ?_
              refine own_istore X80 hx (pc' := 415) (Ls' := #[.val (.long p0), .second, .val (.long p1), .second, .val (.long p2), .second, .val (.long p3), .second, .val (.int p4), .val (.int n9), .val (.ref nb1), .val (.ref nb28), .val (.int f12), .val (.int p13), .val (.int f14), .val (.int f15), .val (.int f16), .val (.int bt), .val (.int g18), .val (.int bk), .val (.ref ch), .val (.int tt), .val (.int (1 : Int32)), .val (.int tt), .val (.int pl), .val (.int rs), .val (.int rp), .val (.int (1 : Int32)), .val (.int ((rs - (1 : Int32)) - bk)), .val (.int g18)]) (hb hby at_413) rfl rfl ?_
              refine own_iload X80 hx (pc' := 417) (hb hby at_415) rfl rfl ?_
              refine own_ifYes X80 hx (pc' := 423) (hb hby at_417) (tlt hP).2.2.1 (by decide) (by decide) ?_
              exact J4A c1 c2 c3 j1 j2 j3 ch b2 k2 z cnt u0 u1 u2 n9 tt pl rs rp rp ((rs - (1 : Int32)) - bk) (.val (.int g18)) _ _ _ X80 rfl N81 Z82 F83 Q80_0 Q80_1 Q80_2 Q80_3 Q80_4 Q80_5 Q80_6 Q80_7 Q80_8 F84 hcnt hz hbch hsum ge_ch ge_c1 ge_c2 ge_c3 m12 m13 m23 hq1 hq2 hq3
            · skip
              refine own_callV XJ hx (pc' := 396) hZ hown (Wd68 hw) (Wd70 hw) (Wd71 hw) (Wd72 hw) (Wd4 hw) (by decide) (rm_cbF l Z a0 hw [] ch c1 c2 c3 j1 j2 j3 (4 : Int32) rp (rs - (1 : Int32)) bt cnt b2 g18 bk hJ n0 ZJ (Or.inr (by decide)) ge_ch ge_c1 ge_c2 ge_c3 m12 m13 m23 hE.symm hP EJ FJ0 FJ1 FJ2 FJ3 FJ4 FJ5 FJ6 FJ7 FJ8) eJ EJ 0 (by decide) (by decide) (by decide) (by decide) [(.int g18), (.int bk)] [] (by rw [hml]; rfl) (lenOf pd_5 rfl) rfl rfl (Nat.le_of_eq rfl) (hb hby at_393) rfl (fun v85 T85 L85 X85 hQ85 => ?_)
              obtain ⟨rfl, Nq85, K85, Q85_0, Q85_1, Q85_2, Q85_3, Q85_4, Q85_5, Q85_6, Q85_7, Q85_8⟩ := hQ85
              have N86 := Fr.app NJ Nq85
              have Z87 : n0 ≤ T85.heap.size := Nat.le_trans ZJ K85.1
              have F88 := (Exa.keep EJ K85)
              have F89 := (VJ.keep K85 (ninS hbch (ninS hq1 (ninS hq2 (ninS hq3 nin0)))))
              show own_G p.tables e below _ T85 (mkF m 396 #[.val (.long p0), .second, .val (.long p1), .second, .val (.long p2), .second, .val (.long p3), .second, .val (.int p4), .val (.int n9), .val (.ref nb1), .val (.ref nb28), .val (.int f12), .val (.int p13), .val (.int f14), .val (.int f15), .val (.int f16), .val (.int bt), .val (.int g18), .val (.int bk), .val (.ref ch), .val (.int tt), .val (.int (1 : Int32)), .val (.int tt), .val (.int pl), .val (.int rs), .val (.int rp), .val (.int (1 : Int32)), .val (.int (rs - (1 : Int32))), .val (.int g18)] [])
              refine own_iload X85 hx (pc' := 398) (hb hby at_396) rfl rfl ?_
              refine own_ifNo X85 hx (pc' := 401) (hb hby at_398) (feq (by decide : ¬ ((1 : Int32) = (0 : Int32)))).1 rfl ?_
              refine own_iload X85 hx (pc' := 403) (hb hby at_401) rfl rfl ?_
              refine own_iload X85 hx (pc' := 405) (hb hby at_403) rfl rfl ?_
              refine own_icmpNo X85 hx (pc' := 408) (hb hby at_405) (teq hE).2 rfl ?_
              refine own_iload X85 hx (pc' := 410) (hb hby at_408) rfl rfl ?_
              refine own_iload X85 hx (pc' := 412) (hb hby at_410) rfl rfl ?_
              refine own_isub X85 hx (pc' := 413) (hb hby at_412) rfl rfl ?_
              refine own_istore X85 hx (pc' := 415) (Ls' := #[.val (.long p0), .second, .val (.long p1), .second, .val (.long p2), .second, .val (.long p3), .second, .val (.int p4), .val (.int n9), .val (.ref nb1), .val (.ref nb28), .val (.int f12), .val (.int p13), .val (.int f14), .val (.int f15), .val (.int f16), .val (.int bt), .val (.int g18), .val (.int bk), .val (.ref ch), .val (.int tt), .val (.int (1 : Int32)), .val (.int tt), .val (.int pl), .val (.int rs), .val (.int rp), .val (.int (1 : Int32)), .val (.int ((rs - (1 : Int32)) - bk)), .val (.int g18)]) (hb hby at_413) rfl rfl ?_
              refine own_iload X85 hx (pc' := 417) (hb hby at_415) rfl rfl ?_
              refine own_ifNo X85 hx (pc' := 420) (hb hby at_417) (flt hP).2.2.1 rfl ?_
              refine own_iconst X85 hx (pc' := 421) (0 : Int32) (hb hby at_420) rfl rfl ?_
              refine own_istore X85 hx (pc' := 423) (Ls' := #[.val (.long p0), .second, .val (.long p1), .second, .val (.long p2), .second, .val (.long p3), .second, .val (.int p4), .val (.int n9), .val (.ref nb1), .val (.ref nb28), .val (.int f12), .val (.int p13), .val (.int f14), .val (.int f15), .val (.int f16), .val (.int bt), .val (.int g18), .val (.int bk), .val (.ref ch), .val (.int tt), .val (.int (1 : Int32)), .val (.int tt), .val (.int pl), .val (.int rs), .val (.int rp), .val (.int (0 : Int32)), .val (.int ((rs - (1 : Int32)) - bk)), .val (.int g18)]) (hb hby at_421) rfl rfl ?_
              exact J4N ch b2 k2 z cnt u0 u1 u2 n9 tt pl rs rp ((rs - (1 : Int32)) - bk) (.val (.int g18)) _ _ _ X85 rfl N86 Z87 F88 Q85_0 Q85_1 Q85_2 F89 hcnt hz hbch hsum
          · skip
            refine own_callV XJ hx (pc' := 396) hZ hown (Wd68 hw) (Wd70 hw) (Wd71 hw) (Wd72 hw) (Wd4 hw) (by decide) (rm_cbN l Z a0 hw [] ch c1 c2 c3 j1 j2 j3 (4 : Int32) rp (rs - (1 : Int32)) bt cnt b2 g18 bk hJ n0 ZJ (Or.inr (by decide)) ge_ch ge_c1 ge_c2 ge_c3 m12 m13 m23 (fun q => hE q.symm) EJ FJ0 FJ1 FJ2 FJ3 FJ4 FJ5 FJ6 FJ7 FJ8) eJ EJ 0 (by decide) (by decide) (by decide) (by decide) [(.int g18), (.int bk)] [] (by rw [hml]; rfl) (lenOf pd_5 rfl) rfl rfl (Nat.le_of_eq rfl) (hb hby at_393) rfl (fun v90 T90 L90 X90 hQ90 => ?_)
            obtain ⟨rfl, Nq90, K90, Q90_0, Q90_1, Q90_2, Q90_3, Q90_4, Q90_5, Q90_6, Q90_7, Q90_8⟩ := hQ90
            have N91 := Fr.app NJ Nq90
            have Z92 : n0 ≤ T90.heap.size := Nat.le_trans ZJ K90.1
            have F93 := (Exa.keep EJ K90)
            have F94 := (VJ.keep K90 (ninS hbch (ninS hq1 (ninS hq2 (ninS hq3 nin0)))))
            show own_G p.tables e below _ T90 (mkF m 396 #[.val (.long p0), .second, .val (.long p1), .second, .val (.long p2), .second, .val (.long p3), .second, .val (.int p4), .val (.int n9), .val (.ref nb1), .val (.ref nb28), .val (.int f12), .val (.int p13), .val (.int f14), .val (.int f15), .val (.int f16), .val (.int bt), .val (.int g18), .val (.int bk), .val (.ref ch), .val (.int tt), .val (.int (1 : Int32)), .val (.int tt), .val (.int pl), .val (.int rs), .val (.int rp), .val (.int (1 : Int32)), .val (.int (rs - (1 : Int32))), .val (.int g18)] [])
            refine own_iload X90 hx (pc' := 398) (hb hby at_396) rfl rfl ?_
            refine own_ifNo X90 hx (pc' := 401) (hb hby at_398) (feq (by decide : ¬ ((1 : Int32) = (0 : Int32)))).1 rfl ?_
            refine own_iload X90 hx (pc' := 403) (hb hby at_401) rfl rfl ?_
            refine own_iload X90 hx (pc' := 405) (hb hby at_403) rfl rfl ?_
            refine own_icmpYes X90 hx (pc' := 423) (hb hby at_405) (feq hE).2 (by decide) (by decide) ?_
            exact J4A c1 c2 c3 j1 j2 j3 ch b2 k2 z cnt u0 u1 u2 n9 tt pl rs rp rp (rs - (1 : Int32)) (.val (.int g18)) _ _ _ X90 rfl N91 Z92 F93 Q90_0 Q90_1 Q90_2 Q90_3 Q90_4 Q90_5 Q90_6 Q90_7 Q90_8 F94 hcnt hz hbch hsum ge_ch ge_c1 ge_c2 ge_c3 m12 m13 m23 hq1 hq2 hq3
        · skip
          refine own_ifNo XJ hx (pc' := 378) (hb hby at_375) (feq hc375_79).1 rfl ?_
          refine own_iload XJ hx (pc' := 380) (hb hby at_378) rfl rfl ?_
          refine own_goto XJ hx (pc' := 385) (hb hby at_380) (by decide) (by decide) ?_
          refine own_istore XJ hx (pc' := 387) (Ls' := #[.val (.long p0), .second, .val (.long p1), .second, .val (.long p2), .second, .val (.long p3), .second, .val (.int p4), .val (.int n9), .val (.ref nb1), .val (.ref nb28), .val (.int f12), .val (.int p13), .val (.int f14), .val (.int f15), .val (.int f16), .val (.int bt), .val (.int g18), .val (.int bk), .val (.ref ch), .val (.int tt), .val (.int (1 : Int32)), .val (.int tt), .val (.int pl), .val (.int rs), .val (.int rp), .val (.int (1 : Int32)), .val (.int (rs - (1 : Int32))), .val (.int rp)]) (hb hby at_385) rfl rfl ?_
          refine own_aload XJ hx (pc' := 389) (hb hby at_387) rfl rfl rfl ?_
          refine own_iload XJ hx (pc' := 391) (hb hby at_389) rfl rfl ?_
          refine own_iload XJ hx (pc' := 393) (hb hby at_391) rfl rfl ?_
          by_cases hP : (0 : Int32) < ((rs - (1 : Int32)) - bk)
          · skip
            refine own_callV XJ hx (pc' := 396) hZ hown (Wd68 hw) (Wd70 hw) (Wd71 hw) (Wd72 hw) (Wd4 hw) (by decide) (rm_cbE l Z a0 hw [] ch c1 c2 c3 j1 j2 j3 (4 : Int32) rp (rs - (1 : Int32)) bt cnt b2 rp bk hJ n0 ZJ (Or.inr (by decide)) ge_ch ge_c1 ge_c2 ge_c3 m12 m13 m23 rfl hP EJ FJ0 FJ1 FJ2 FJ3 FJ4 FJ5 FJ6 FJ7 FJ8) eJ EJ 0 (by decide) (by decide) (by decide) (by decide) [(.int rp), (.int bk)] [] (by rw [hml]; rfl) (lenOf pd_5 rfl) rfl rfl (Nat.le_of_eq rfl) (hb hby at_393) rfl (fun v95 T95 L95 X95 hQ95 => ?_)
            obtain ⟨rfl, Nq95, K95, Q95_0, Q95_1, Q95_2, Q95_3, Q95_4, Q95_5, Q95_6, Q95_7, Q95_8⟩ := hQ95
            have N96 := Fr.app NJ Nq95
            have Z97 : n0 ≤ T95.heap.size := Nat.le_trans ZJ K95.1
            have F98 := (Exa.keep EJ K95)
            have F99 := (VJ.keep K95 (ninS hbch (ninS hq1 (ninS hq2 (ninS hq3 nin0)))))
            show own_G p.tables e below _ T95 (mkF m 396 #[.val (.long p0), .second, .val (.long p1), .second, .val (.long p2), .second, .val (.long p3), .second, .val (.int p4), .val (.int n9), .val (.ref nb1), .val (.ref nb28), .val (.int f12), .val (.int p13), .val (.int f14), .val (.int f15), .val (.int f16), .val (.int bt), .val (.int g18), .val (.int bk), .val (.ref ch), .val (.int tt), .val (.int (1 : Int32)), .val (.int tt), .val (.int pl), .val (.int rs), .val (.int rp), .val (.int (1 : Int32)), .val (.int (rs - (1 : Int32))), .val (.int rp)] [])
            refine own_iload X95 hx (pc' := 398) (hb hby at_396) rfl rfl ?_
            refine own_ifNo X95 hx (pc' := 401) (hb hby at_398) (feq (by decide : ¬ ((1 : Int32) = (0 : Int32)))).1 rfl ?_
            refine own_iload X95 hx (pc' := 403) (hb hby at_401) rfl rfl ?_
            refine own_iload X95 hx (pc' := 405) (hb hby at_403) rfl rfl ?_
            refine own_icmpNo X95 hx (pc' := 408) (hb hby at_405) (teq rfl).2 rfl ?_
            refine own_iload X95 hx (pc' := 410) (hb hby at_408) rfl rfl ?_
            refine own_iload X95 hx (pc' := 412) (hb hby at_410) rfl rfl ?_
            refine own_isub X95 hx (pc' := 413) (hb hby at_412) rfl rfl ?_
            refine own_istore X95 hx (pc' := 415) (Ls' := #[.val (.long p0), .second, .val (.long p1), .second, .val (.long p2), .second, .val (.long p3), .second, .val (.int p4), .val (.int n9), .val (.ref nb1), .val (.ref nb28), .val (.int f12), .val (.int p13), .val (.int f14), .val (.int f15), .val (.int f16), .val (.int bt), .val (.int g18), .val (.int bk), .val (.ref ch), .val (.int tt), .val (.int (1 : Int32)), .val (.int tt), .val (.int pl), .val (.int rs), .val (.int rp), .val (.int (1 : Int32)), .val (.int ((rs - (1 : Int32)) - bk)), .val (.int rp)]) (hb hby at_413) rfl rfl ?_
            refine own_iload X95 hx (pc' := 417) (hb hby at_415) rfl rfl ?_
            refine own_ifYes X95 hx (pc' := 423) (hb hby at_417) (tlt hP).2.2.1 (by decide) (by decide) ?_
            exact J4A c1 c2 c3 j1 j2 j3 ch b2 k2 z cnt u0 u1 u2 n9 tt pl rs rp rp ((rs - (1 : Int32)) - bk) (.val (.int rp)) _ _ _ X95 rfl N96 Z97 F98 Q95_0 Q95_1 Q95_2 Q95_3 Q95_4 Q95_5 Q95_6 Q95_7 Q95_8 F99 hcnt hz hbch hsum ge_ch ge_c1 ge_c2 ge_c3 m12 m13 m23 hq1 hq2 hq3
          · skip
            refine own_callV XJ hx (pc' := 396) hZ hown (Wd68 hw) (Wd70 hw) (Wd71 hw) (Wd72 hw) (Wd4 hw) (by decide) (rm_cbF l Z a0 hw [] ch c1 c2 c3 j1 j2 j3 (4 : Int32) rp (rs - (1 : Int32)) bt cnt b2 rp bk hJ n0 ZJ (Or.inr (by decide)) ge_ch ge_c1 ge_c2 ge_c3 m12 m13 m23 rfl hP EJ FJ0 FJ1 FJ2 FJ3 FJ4 FJ5 FJ6 FJ7 FJ8) eJ EJ 0 (by decide) (by decide) (by decide) (by decide) [(.int rp), (.int bk)] [] (by rw [hml]; rfl) (lenOf pd_5 rfl) rfl rfl (Nat.le_of_eq rfl) (hb hby at_393) rfl (fun v100 T100 L100 X100 hQ100 => ?_)
            obtain ⟨rfl, Nq100, K100, Q100_0, Q100_1, Q100_2, Q100_3, Q100_4, Q100_5, Q100_6, Q100_7, Q100_8⟩ := hQ100
            have N101 := Fr.app NJ Nq100
            have Z102 : n0 ≤ T100.heap.size := Nat.le_trans ZJ K100.1
            have F103 := (Exa.keep EJ K100)
            have F104 := (VJ.keep K100 (ninS hbch (ninS hq1 (ninS hq2 (ninS hq3 nin0)))))
            show own_G p.tables e below _ T100 (mkF m 396 #[.val (.long p0), .second, .val (.long p1), .second, .val (.long p2), .second, .val (.long p3), .second, .val (.int p4), .val (.int n9), .val (.ref nb1), .val (.ref nb28), .val (.int f12), .val (.int p13), .val (.int f14), .val (.int f15), .val (.int f16), .val (.int bt), .val (.int g18), .val (.int bk), .val (.ref ch), .val (.int tt), .val (.int (1 : Int32)), .val (.int tt), .val (.int pl), .val (.int rs), .val (.int rp), .val (.int (1 : Int32)), .val (.int (rs - (1 : Int32))), .val (.int rp)] [])
            refine own_iload X100 hx (pc' := 398) (hb hby at_396) rfl rfl ?_
            refine own_ifNo X100 hx (pc' := 401) (hb hby at_398) (feq (by decide : ¬ ((1 : Int32) = (0 : Int32)))).1 rfl ?_
            refine own_iload X100 hx (pc' := 403) (hb hby at_401) rfl rfl ?_
            refine own_iload X100 hx (pc' := 405) (hb hby at_403) rfl rfl ?_
            refine own_icmpNo X100 hx (pc' := 408) (hb hby at_405) (teq rfl).2 rfl ?_
            refine own_iload X100 hx (pc' := 410) (hb hby at_408) rfl rfl ?_
            refine own_iload X100 hx (pc' := 412) (hb hby at_410) rfl rfl ?_
            refine own_isub X100 hx (pc' := 413) (hb hby at_412) rfl rfl ?_
            refine own_istore X100 hx (pc' := 415) (Ls' := #[.val (.long p0), .second, .val (.long p1), .second, .val (.long p2), .second, .val (.long p3), .second, .val (.int p4), .val (.int n9), .val (.ref nb1), .val (.ref nb28), .val (.int f12), .val (.int p13), .val (.int f14), .val (.int f15), .val (.int f16), .val (.int bt), .val (.int g18), .val (.int bk), .val (.ref ch), .val (.int tt), .val (.int (1 : Int32)), .val (.int tt), .val (.int pl), .val (.int rs), .val (.int rp), .val (.int (1 : Int32)), .val (.int ((rs - (1 : Int32)) - bk)), .val (.int rp)]) (hb hby at_413) rfl rfl ?_
            refine own_iload X100 hx (pc' := 417) (hb hby at_415) rfl rfl ?_
            refine own_ifNo X100 hx (pc' := 420) (hb hby at_417) (flt hP).2.2.1 rfl ?_
            refine own_iconst X100 hx (pc' := 421) (0 : Int32) (hb hby at_420) rfl rfl ?_
            refine own_istore X100 hx (pc' := 423) (Ls' := #[.val (.long p0), .second, .val (.long p1), .second, .val (.long p2), .second, .val (.long p3), .second, .val (.int p4), .val (.int n9), .val (.ref nb1), .val (.ref nb28), .val (.int f12), .val (.int p13), .val (.int f14), .val (.int f15), .val (.int f16), .val (.int bt), .val (.int g18), .val (.int bk), .val (.ref ch), .val (.int tt), .val (.int (1 : Int32)), .val (.int tt), .val (.int pl), .val (.int rs), .val (.int rp), .val (.int (0 : Int32)), .val (.int ((rs - (1 : Int32)) - bk)), .val (.int rp)]) (hb hby at_421) rfl rfl ?_
            exact J4N ch b2 k2 z cnt u0 u1 u2 n9 tt pl rs rp ((rs - (1 : Int32)) - bk) (.val (.int rp)) _ _ _ X100 rfl N101 Z102 F103 Q100_0 Q100_1 Q100_2 F104 hcnt hz hbch hsum
    have JN : ∀ (ch b2 : Addr) (k2 : ClassId) (z cnt u0 u1 u2 : Int32) (n9 tt pl rs rp : Int32) (TJ : State) (locsJ : List Loc) (hJ : Heap) (XJ : Stand p l e room_1 s m #[(.long p0), (.long p1), (.long p2), (.long p3), (.int p4)] below meth c TJ locsJ 9 40) (eJ : TJ.heap = hJ) (NJ : Fr n0 locsJ) (ZJ : n0 ≤ hJ.size) (EJ : Exa Z hJ ch "com/example/rootcast/rootcast/tree/Children") (FJ0 : Fld Z hJ ch "com/example/rootcast/rootcast/tree/Children" "count" "I" (.int cnt)) (FJ1 : Fld Z hJ ch "com/example/rootcast/rootcast/tree/Children" "subtree" "[I" (.ref b2)) (FJ2 : Fld Z hJ ch "com/example/rootcast/rootcast/tree/Children" "awaited" "I" (.int (0 : Int32))) (VJ : Arv Z hJ b2 k2 .int z [(.int u0), (.int u1), (.int u2)] (.int (0 : Int32))) (hcnt : cnt.toInt ≤ 3) (hz : z.toInt = 3 ∨ z.toInt = 4) (hbch : b2 ≠ ch) (hR : ¬ (1 : Int32) < rs) (hsum : own_sum cnt u0 u1 u2 = tt - rs), own_G p.tables e below (own_P s (Q0 n0) 32 192) TJ (mkF m 349 #[.val (.long p0), .second, .val (.long p1), .second, .val (.long p2), .second, .val (.long p3), .second, .val (.int p4), .val (.int n9), .val (.ref nb1), .val (.ref nb28), .val (.int f12), .val (.int p13), .val (.int f14), .val (.int f15), .val (.int f16), .val (.int bt), .val (.int g18), .val (.int bk), .val (.ref ch), .val (.int tt), .val (.int (1 : Int32)), .val (.int tt), .val (.int pl), .val (.int rs), .val (.int rp), .unset, .unset, .unset] []) := by
      intro ch b2 k2 z cnt u0 u1 u2 n9 tt pl rs rp TJ locsJ hJ XJ eJ NJ ZJ EJ FJ0 FJ1 FJ2 VJ hcnt hz hbch hR hsum
      refine own_iload XJ hx (pc' := 351) (hb hby at_349) rfl rfl ?_
      refine own_iconst XJ hx (pc' := 352) (1 : Int32) (hb hby at_351) rfl rfl ?_
      refine own_icmpYes XJ hx (pc' := 359) (hb hby at_352) (flt hR).2.2.2 (by decide) (by decide) ?_
      refine own_iconst XJ hx (pc' := 360) (0 : Int32) (hb hby at_359) rfl rfl ?_
      refine own_istore XJ hx (pc' := 362) (Ls' := #[.val (.long p0), .second, .val (.long p1), .second, .val (.long p2), .second, .val (.long p3), .second, .val (.int p4), .val (.int n9), .val (.ref nb1), .val (.ref nb28), .val (.int f12), .val (.int p13), .val (.int f14), .val (.int f15), .val (.int f16), .val (.int bt), .val (.int g18), .val (.int bk), .val (.ref ch), .val (.int tt), .val (.int (1 : Int32)), .val (.int tt), .val (.int pl), .val (.int rs), .val (.int rp), .val (.int (0 : Int32)), .unset, .unset]) (hb hby at_360) rfl rfl ?_
      refine own_iload XJ hx (pc' := 364) (hb hby at_362) rfl rfl ?_
      refine own_iconst XJ hx (pc' := 365) (1 : Int32) (hb hby at_364) rfl rfl ?_
      refine own_isub XJ hx (pc' := 366) (hb hby at_365) rfl rfl ?_
      refine own_istore XJ hx (pc' := 368) (Ls' := #[.val (.long p0), .second, .val (.long p1), .second, .val (.long p2), .second, .val (.long p3), .second, .val (.int p4), .val (.int n9), .val (.ref nb1), .val (.ref nb28), .val (.int f12), .val (.int p13), .val (.int f14), .val (.int f15), .val (.int f16), .val (.int bt), .val (.int g18), .val (.int bk), .val (.ref ch), .val (.int tt), .val (.int (1 : Int32)), .val (.int tt), .val (.int pl), .val (.int rs), .val (.int rp), .val (.int (0 : Int32)), .val (.int (rs - (1 : Int32))), .unset]) (hb hby at_366) rfl rfl ?_
      refine own_iload XJ hx (pc' := 370) (hb hby at_368) rfl rfl ?_
      by_cases hc370_105 : f14 = (0 : Int32)
      · skip
        refine own_ifYes XJ hx (pc' := 423) (hb hby at_370) (teq hc370_105).1 (by decide) (by decide) ?_
        exact J4N ch b2 k2 z cnt u0 u1 u2 n9 tt pl rs rp (rs - (1 : Int32)) (.unset) _ _ _ XJ eJ NJ ZJ EJ FJ0 FJ1 FJ2 VJ hcnt hz hbch hsum
      · skip
        refine own_ifNo XJ hx (pc' := 373) (hb hby at_370) (feq hc370_105).1 rfl ?_
        refine own_iload XJ hx (pc' := 375) (hb hby at_373) rfl rfl ?_
        by_cases hc375_106 : f15 = (0 : Int32)
        · skip
          refine own_ifYes XJ hx (pc' := 383) (hb hby at_375) (teq hc375_106).1 (by decide) (by decide) ?_
          refine own_iload XJ hx (pc' := 385) (hb hby at_383) rfl rfl ?_
          refine own_istore XJ hx (pc' := 387) (Ls' := #[.val (.long p0), .second, .val (.long p1), .second, .val (.long p2), .second, .val (.long p3), .second, .val (.int p4), .val (.int n9), .val (.ref nb1), .val (.ref nb28), .val (.int f12), .val (.int p13), .val (.int f14), .val (.int f15), .val (.int f16), .val (.int bt), .val (.int g18), .val (.int bk), .val (.ref ch), .val (.int tt), .val (.int (1 : Int32)), .val (.int tt), .val (.int pl), .val (.int rs), .val (.int rp), .val (.int (0 : Int32)), .val (.int (rs - (1 : Int32))), .val (.int g18)]) (hb hby at_385) rfl rfl ?_
          refine own_aload XJ hx (pc' := 389) (hb hby at_387) rfl rfl rfl ?_
          refine own_iload XJ hx (pc' := 391) (hb hby at_389) rfl rfl ?_
          refine own_iload XJ hx (pc' := 393) (hb hby at_391) rfl rfl ?_
          refine own_callV XJ hx (pc' := 396) hZ hown (Wd68 hw) (Wd70 hw) (Wd71 hw) (Wd72 hw) (Wd4 hw) (by decide) (rm_cb0 l Z a0 hw [] ch g18 bk hJ n0 ZJ FJ2) eJ EJ 0 (by decide) (by decide) (by decide) (by decide) [(.int g18), (.int bk)] [] (by rw [hml]; rfl) (lenOf pd_5 rfl) rfl rfl (Nat.le_of_eq rfl) (hb hby at_393) rfl (fun v107 T107 L107 X107 hQ107 => ?_)
          obtain ⟨rfl, Nq107, e107⟩ := hQ107
          have N108 := Fr.app NJ Nq107
          show own_G p.tables e below _ T107 (mkF m 396 #[.val (.long p0), .second, .val (.long p1), .second, .val (.long p2), .second, .val (.long p3), .second, .val (.int p4), .val (.int n9), .val (.ref nb1), .val (.ref nb28), .val (.int f12), .val (.int p13), .val (.int f14), .val (.int f15), .val (.int f16), .val (.int bt), .val (.int g18), .val (.int bk), .val (.ref ch), .val (.int tt), .val (.int (1 : Int32)), .val (.int tt), .val (.int pl), .val (.int rs), .val (.int rp), .val (.int (0 : Int32)), .val (.int (rs - (1 : Int32))), .val (.int g18)] [])
          refine own_iload X107 hx (pc' := 398) (hb hby at_396) rfl rfl ?_
          refine own_ifYes X107 hx (pc' := 423) (hb hby at_398) (teq rfl).1 (by decide) (by decide) ?_
          exact J4N ch b2 k2 z cnt u0 u1 u2 n9 tt pl rs rp (rs - (1 : Int32)) (.val (.int g18)) _ _ _ X107 e107 N108 ZJ EJ FJ0 FJ1 FJ2 VJ hcnt hz hbch hsum
        · skip
          refine own_ifNo XJ hx (pc' := 378) (hb hby at_375) (feq hc375_106).1 rfl ?_
          refine own_iload XJ hx (pc' := 380) (hb hby at_378) rfl rfl ?_
          refine own_goto XJ hx (pc' := 385) (hb hby at_380) (by decide) (by decide) ?_
          refine own_istore XJ hx (pc' := 387) (Ls' := #[.val (.long p0), .second, .val (.long p1), .second, .val (.long p2), .second, .val (.long p3), .second, .val (.int p4), .val (.int n9), .val (.ref nb1), .val (.ref nb28), .val (.int f12), .val (.int p13), .val (.int f14), .val (.int f15), .val (.int f16), .val (.int bt), .val (.int g18), .val (.int bk), .val (.ref ch), .val (.int tt), .val (.int (1 : Int32)), .val (.int tt), .val (.int pl), .val (.int rs), .val (.int rp), .val (.int (0 : Int32)), .val (.int (rs - (1 : Int32))), .val (.int rp)]) (hb hby at_385) rfl rfl ?_
          refine own_aload XJ hx (pc' := 389) (hb hby at_387) rfl rfl rfl ?_
          refine own_iload XJ hx (pc' := 391) (hb hby at_389) rfl rfl ?_
          refine own_iload XJ hx (pc' := 393) (hb hby at_391) rfl rfl ?_
          refine own_callV XJ hx (pc' := 396) hZ hown (Wd68 hw) (Wd70 hw) (Wd71 hw) (Wd72 hw) (Wd4 hw) (by decide) (rm_cb0 l Z a0 hw [] ch rp bk hJ n0 ZJ FJ2) eJ EJ 0 (by decide) (by decide) (by decide) (by decide) [(.int rp), (.int bk)] [] (by rw [hml]; rfl) (lenOf pd_5 rfl) rfl rfl (Nat.le_of_eq rfl) (hb hby at_393) rfl (fun v109 T109 L109 X109 hQ109 => ?_)
          obtain ⟨rfl, Nq109, e109⟩ := hQ109
          have N110 := Fr.app NJ Nq109
          show own_G p.tables e below _ T109 (mkF m 396 #[.val (.long p0), .second, .val (.long p1), .second, .val (.long p2), .second, .val (.long p3), .second, .val (.int p4), .val (.int n9), .val (.ref nb1), .val (.ref nb28), .val (.int f12), .val (.int p13), .val (.int f14), .val (.int f15), .val (.int f16), .val (.int bt), .val (.int g18), .val (.int bk), .val (.ref ch), .val (.int tt), .val (.int (1 : Int32)), .val (.int tt), .val (.int pl), .val (.int rs), .val (.int rp), .val (.int (0 : Int32)), .val (.int (rs - (1 : Int32))), .val (.int rp)] [])
          refine own_iload X109 hx (pc' := 398) (hb hby at_396) rfl rfl ?_
          refine own_ifYes X109 hx (pc' := 423) (hb hby at_398) (teq rfl).1 (by decide) (by decide) ?_
          exact J4N ch b2 k2 z cnt u0 u1 u2 n9 tt pl rs rp (rs - (1 : Int32)) (.val (.int rp)) _ _ _ X109 e109 N110 ZJ EJ FJ0 FJ1 FJ2 VJ hcnt hz hbch hsum
    rcases hn with rfl | rfl | rfl | rfl
    · skip
      show own_G p.tables e below _ T53 (mkF m 175 #[.val (.long p0), .second, .val (.long p1), .second, .val (.long p2), .second, .val (.long p3), .second, .val (.int p4), .val (.int (0 : Int32)), .val (.ref nb1), .val (.ref nb28), .val (.int f12), .val (.int p13), .val (.int f14), .val (.int f15), .val (.int f16), .val (.int bt), .val (.int g18), .val (.int bk), .unset, .unset, .unset, .unset, .unset, .unset, .unset, .unset, .unset, .unset] [])
      refine own_new X53 hx (pc' := 178) hZ hown (Wd2 hw) (Wd3 hw) (Wd4 hw) e53 (hb hby at_175) (by decide) (by decide) rfl (fun T111 h111 nb111 g111 X111 e111 E111 A111 D111 => ?_)
      have ne_nn_nb111_112 : nn ≠ nb111 := Nat.ne_of_lt (Nat.lt_of_lt_of_le F57.lt (Nat.le_of_eq g111.symm))
      have ne_nb1_nb111_113 : nb1 ≠ nb111 := Nat.ne_of_lt (Nat.lt_of_lt_of_le F58.lt (Nat.le_of_eq g111.symm))
      have ne_nb28_nb111_114 : nb28 ≠ nb111 := Nat.ne_of_lt (Nat.lt_of_lt_of_le F59.lt (Nat.le_of_eq g111.symm))
      have ge_nb111 : n0 ≤ nb111 := Nat.le_trans Z55 (Nat.le_of_eq g111.symm)
      have Z115 : n0 ≤ h111.size := Nat.le_trans Z55 E111.1
      have F116 := (Sta.ext E111 F56)
      have F117 := (F57.ext E111)
      have F118 := (F58.ext E111)
      have F119 := (F59.ext E111)
      have F120 : Fld Z h111 nb111 "com/example/rootcast/rootcast/tree/Children" "peers" "[I" .null := D111 (Or.inl (Wd14 hw)) (ty := (.array .int)) (by decide)
      have F121 : Fld Z h111 nb111 "com/example/rootcast/rootcast/tree/Children" "subtree" "[I" .null := D111 (Or.inl (Wd16 hw)) (ty := (.array .int)) (by decide)
      have F122 : Fld Z h111 nb111 "com/example/rootcast/rootcast/tree/Children" "sent" "[I" .null := D111 (Or.inl (Wd18 hw)) (ty := (.array .int)) (by decide)
      have F123 : Fld Z h111 nb111 "com/example/rootcast/rootcast/tree/Children" "stopped" "[I" .null := D111 (Or.inl (Wd20 hw)) (ty := (.array .int)) (by decide)
      have F124 : Fld Z h111 nb111 "com/example/rootcast/rootcast/tree/Children" "toCome" "[I" .null := D111 (Or.inl (Wd22 hw)) (ty := (.array .int)) (by decide)
      have F125 : Fld Z h111 nb111 "com/example/rootcast/rootcast/tree/Children" "beatsLeft" "[I" .null := D111 (Or.inl (Wd24 hw)) (ty := (.array .int)) (by decide)
      have F126 : Fld Z h111 nb111 "com/example/rootcast/rootcast/tree/Children" "degree" "I" (.int (0 : Int32)) := D111 (Or.inr (Wd26 hw)) (ty := .int) (by decide)
      have F127 : Fld Z h111 nb111 "com/example/rootcast/rootcast/tree/Children" "count" "I" (.int (0 : Int32)) := D111 (Or.inl (Wd33 hw)) (ty := .int) (by decide)
      have F128 : Fld Z h111 nb111 "com/example/rootcast/rootcast/tree/Children" "awaited" "I" (.int (0 : Int32)) := D111 (Or.inl (Wd56 hw)) (ty := .int) (by decide)
      refine own_dup X111 hx (pc' := 179) (hb hby at_178) rfl rfl ?_
      refine own_iconst X111 hx (pc' := 180) (3 : Int32) (hb hby at_179) rfl rfl ?_
      refine own_callI X111 hx (pc' := 183) hZ rfl hown (Wd5 hw) (Wd6 hw) (Wd7 hw) (Wd4 hw) (by decide) (rm_init l Z a0 hw [] nb111 nn (3 : Int32) h111 n0 Z115 ge_nb111 A111 F116 F120 F121 F122 F123 F124 F125 F126 F127 F128) e111 (b := nb111) 1 (by decide) (by decide) (by decide) (by decide) [(.int (3 : Int32))] [(.ref nb111)] (by rw [hml]; rfl) (lenOf pd_2 rfl) rfl rfl (Nat.le_of_eq rfl) (hb hby at_180) rfl (fun v129 T129 L129 X129 hQ129 => ?_)
      obtain ⟨rfl, Nq129, K129, G129_peers, G129_subtree, G129_sent, G129_stopped, G129_toCome, G129_beatsLeft, G129_degree, G129_count, G129_awaited⟩ := hQ129
      have N130 := Fr.app N54 Nq129
      have Z131 : n0 ≤ T129.heap.size := Nat.le_trans Z115 K129.1
      have F132 := (F117.keep K129 (ninS ne_nn_nb111_112 nin0))
      have F133 := (F118.keep K129 (ninS ne_nb1_nb111_113 nin0))
      have F134 := (F119.keep K129 (ninS ne_nb28_nb111_114 nin0))
      have F135 := (Exa.keep A111 K129)
      show own_G p.tables e below _ T129 (mkF m 183 #[.val (.long p0), .second, .val (.long p1), .second, .val (.long p2), .second, .val (.long p3), .second, .val (.int p4), .val (.int (0 : Int32)), .val (.ref nb1), .val (.ref nb28), .val (.int f12), .val (.int p13), .val (.int f14), .val (.int f15), .val (.int f16), .val (.int bt), .val (.int g18), .val (.int bk), .unset, .unset, .unset, .unset, .unset, .unset, .unset, .unset, .unset, .unset] [(.ref nb111)])
      refine own_astore X129 hx (pc' := 185) (Ls' := #[.val (.long p0), .second, .val (.long p1), .second, .val (.long p2), .second, .val (.long p3), .second, .val (.int p4), .val (.int (0 : Int32)), .val (.ref nb1), .val (.ref nb28), .val (.int f12), .val (.int p13), .val (.int f14), .val (.int f15), .val (.int f16), .val (.int bt), .val (.int g18), .val (.int bk), .val (.ref nb111), .unset, .unset, .unset, .unset, .unset, .unset, .unset, .unset, .unset]) (hb hby at_183) rfl rfl rfl ?_
      refine own_iload X129 hx (pc' := 187) (hb hby at_185) rfl rfl ?_
      refine own_ifYes X129 hx (pc' := 203) (hb hby at_187) (flt (by decide : ¬ ((0 : Int32) < (0 : Int32)))).2.2.2 (by decide) (by decide) ?_
      refine own_iload X129 hx (pc' := 205) (hb hby at_203) rfl rfl ?_
      refine own_iconst X129 hx (pc' := 206) (1 : Int32) (hb hby at_205) rfl rfl ?_
      refine own_icmpYes X129 hx (pc' := 222) (hb hby at_206) (flt (by decide : ¬ ((1 : Int32) < (0 : Int32)))).2.2.2 (by decide) (by decide) ?_
      refine own_iload X129 hx (pc' := 224) (hb hby at_222) rfl rfl ?_
      refine own_iconst X129 hx (pc' := 225) (2 : Int32) (hb hby at_224) rfl rfl ?_
      refine own_icmpYes X129 hx (pc' := 241) (hb hby at_225) (flt (by decide : ¬ ((2 : Int32) < (0 : Int32)))).2.2.2 (by decide) (by decide) ?_
      refine own_iconst X129 hx (pc' := 242) (1 : Int32) (hb hby at_241) rfl rfl ?_
      refine own_istore X129 hx (pc' := 244) (Ls' := #[.val (.long p0), .second, .val (.long p1), .second, .val (.long p2), .second, .val (.long p3), .second, .val (.int p4), .val (.int (0 : Int32)), .val (.ref nb1), .val (.ref nb28), .val (.int f12), .val (.int p13), .val (.int f14), .val (.int f15), .val (.int f16), .val (.int bt), .val (.int g18), .val (.int bk), .val (.ref nb111), .val (.int (1 : Int32)), .unset, .unset, .unset, .unset, .unset, .unset, .unset, .unset]) (hb hby at_242) rfl rfl ?_
      refine own_iload X129 hx (pc' := 246) (hb hby at_244) rfl rfl ?_
      refine own_ifYes X129 hx (pc' := 258) (hb hby at_246) (flt (by decide : ¬ ((0 : Int32) < (0 : Int32)))).2.2.2 (by decide) (by decide) ?_
      refine own_iload X129 hx (pc' := 260) (hb hby at_258) rfl rfl ?_
      refine own_iconst X129 hx (pc' := 261) (1 : Int32) (hb hby at_260) rfl rfl ?_
      refine own_icmpYes X129 hx (pc' := 273) (hb hby at_261) (flt (by decide : ¬ ((1 : Int32) < (0 : Int32)))).2.2.2 (by decide) (by decide) ?_
      refine own_iload X129 hx (pc' := 275) (hb hby at_273) rfl rfl ?_
      refine own_iconst X129 hx (pc' := 276) (2 : Int32) (hb hby at_275) rfl rfl ?_
      refine own_icmpYes X129 hx (pc' := 288) (hb hby at_276) (flt (by decide : ¬ ((2 : Int32) < (0 : Int32)))).2.2.2 (by decide) (by decide) ?_
      refine own_aload X129 hx (pc' := 290) (hb hby at_288) rfl rfl rfl ?_
      refine own_callV X129 hx (pc' := 293) hZ hown (Wd50 hw) (Wd52 hw) (Wd53 hw) (Wd54 hw) (Wd4 hw) (by decide) (rm_pe0 l Z a0 hw [] nb111 T129.heap n0 Z131 G129_count G129_awaited) rfl F135 0 (by decide) (by decide) (by decide) (by decide) [] [] (by rw [hml]; rfl) (lenOf pd_3 rfl) rfl rfl (Nat.le_of_eq rfl) (hb hby at_290) rfl (fun v136 T136 L136 X136 hQ136 => ?_)
      obtain ⟨rfl, Nq136, e136⟩ := hQ136
      have N137 := Fr.app N130 Nq136
      show own_G p.tables e below _ T136 (mkF m 293 #[.val (.long p0), .second, .val (.long p1), .second, .val (.long p2), .second, .val (.long p3), .second, .val (.int p4), .val (.int (0 : Int32)), .val (.ref nb1), .val (.ref nb28), .val (.int f12), .val (.int p13), .val (.int f14), .val (.int f15), .val (.int f16), .val (.int bt), .val (.int g18), .val (.int bk), .val (.ref nb111), .val (.int (1 : Int32)), .unset, .unset, .unset, .unset, .unset, .unset, .unset, .unset] [(.int (1 : Int32))])
      refine own_iload X136 hx (pc' := 295) (hb hby at_293) rfl rfl ?_
      refine own_icmpNo X136 hx (pc' := 298) (hb hby at_295) (teq rfl).2 rfl ?_
      refine own_iconst X136 hx (pc' := 299) (1 : Int32) (hb hby at_298) rfl rfl ?_
      refine own_goto X136 hx (pc' := 303) (hb hby at_299) (by decide) (by decide) ?_
      refine own_istore X136 hx (pc' := 305) (Ls' := #[.val (.long p0), .second, .val (.long p1), .second, .val (.long p2), .second, .val (.long p3), .second, .val (.int p4), .val (.int (0 : Int32)), .val (.ref nb1), .val (.ref nb28), .val (.int f12), .val (.int p13), .val (.int f14), .val (.int f15), .val (.int f16), .val (.int bt), .val (.int g18), .val (.int bk), .val (.ref nb111), .val (.int (1 : Int32)), .val (.int (1 : Int32)), .unset, .unset, .unset, .unset, .unset, .unset, .unset]) (hb hby at_303) rfl rfl ?_
      refine own_iload X136 hx (pc' := 307) (hb hby at_305) rfl rfl ?_
      refine own_istore X136 hx (pc' := 309) (Ls' := #[.val (.long p0), .second, .val (.long p1), .second, .val (.long p2), .second, .val (.long p3), .second, .val (.int p4), .val (.int (0 : Int32)), .val (.ref nb1), .val (.ref nb28), .val (.int f12), .val (.int p13), .val (.int f14), .val (.int f15), .val (.int f16), .val (.int bt), .val (.int g18), .val (.int bk), .val (.ref nb111), .val (.int (1 : Int32)), .val (.int (1 : Int32)), .val (.int (1 : Int32)), .unset, .unset, .unset, .unset, .unset, .unset]) (hb hby at_307) rfl rfl ?_
      refine own_iload X136 hx (pc' := 311) (hb hby at_309) rfl rfl ?_
      by_cases hc311_138 : f12 = (0 : Int32)
      · skip
        refine own_ifYes X136 hx (pc' := 469) (hb hby at_311) (teq hc311_138).1 (by decide) (by decide) ?_
        refine own_iload X136 hx (pc' := 471) (hb hby at_469) rfl rfl ?_
        by_cases hc471_139 : f14 = (0 : Int32)
        · skip
          refine own_ifYes X136 hx (pc' := 483) (hb hby at_471) (teq hc471_139).1 (by decide) (by decide) ?_
          refine own_iload X136 hx (pc' := 485) (hb hby at_483) rfl rfl ?_
          by_cases hc485_140 : f16 = (0 : Int32)
          · skip
            refine own_ifYes X136 hx (pc' := 493) (hb hby at_485) (teq hc485_140).1 (by decide) (by decide) ?_
            refine own_iload X136 hx (pc' := 495) (hb hby at_493) rfl rfl ?_
            refine own_ifNo X136 hx (pc' := 498) (hb hby at_495) (feq (by decide : ¬ ((1 : Int32) = (0 : Int32)))).1 rfl ?_
            refine own_aload X136 hx (pc' := 500) (hb hby at_498) rfl rfl rfl ?_
            refine own_callV X136 hx (pc' := 503) hZ hown (Wd50 hw) (Wd52 hw) (Wd53 hw) (Wd54 hw) (Wd4 hw) (by decide) (rm_pe0 l Z a0 hw [] nb111 T129.heap n0 Z131 G129_count G129_awaited) e136 F135 0 (by decide) (by decide) (by decide) (by decide) [] [] (by rw [hml]; rfl) (lenOf pd_3 rfl) rfl rfl (Nat.le_of_eq rfl) (hb hby at_500) rfl (fun v141 T141 L141 X141 hQ141 => ?_)
            obtain ⟨rfl, Nq141, e141⟩ := hQ141
            have N142 := Fr.app N137 Nq141
            show own_G p.tables e below _ T141 (mkF m 503 #[.val (.long p0), .second, .val (.long p1), .second, .val (.long p2), .second, .val (.long p3), .second, .val (.int p4), .val (.int (0 : Int32)), .val (.ref nb1), .val (.ref nb28), .val (.int f12), .val (.int p13), .val (.int f14), .val (.int f15), .val (.int f16), .val (.int bt), .val (.int g18), .val (.int bk), .val (.ref nb111), .val (.int (1 : Int32)), .val (.int (1 : Int32)), .val (.int (1 : Int32)), .unset, .unset, .unset, .unset, .unset, .unset] [(.int (1 : Int32))])
            refine own_iload X141 hx (pc' := 505) (hb hby at_503) rfl rfl ?_
            refine own_icmpNo X141 hx (pc' := 508) (hb hby at_505) (teq rfl).2 rfl ?_
            refine own_iconst X141 hx (pc' := 509) (1 : Int32) (hb hby at_508) rfl rfl ?_
            refine own_goto X141 hx (pc' := 513) (hb hby at_509) (by decide) (by decide) ?_
            refine own_retN X141 hx hlk hret (by simp) (hb hby at_513) (by decide) (by decide) ?_
            exact ⟨rfl, N142⟩
          · skip
            refine own_ifNo X136 hx (pc' := 488) (hb hby at_485) (feq hc485_140).1 rfl ?_
            refine own_aload X136 hx (pc' := 490) (hb hby at_488) rfl rfl rfl ?_
            refine own_callV X136 hx (pc' := 493) hZ hown (Wd73 hw) (Wd75 hw) (Wd76 hw) (Wd77 hw) (Wd4 hw) (by decide) (rm_bt0 l Z a0 hw [] nb111 T129.heap n0 Z131 G129_awaited) e136 F135 0 (by decide) (by decide) (by decide) (by decide) [] [] (by rw [hml]; rfl) (lenOf pd_4 rfl) rfl rfl (Nat.le_of_eq rfl) (hb hby at_490) rfl (fun v143 T143 L143 X143 hQ143 => ?_)
            obtain ⟨rfl, Nq143, e143⟩ := hQ143
            have N144 := Fr.app N137 Nq143
            show own_G p.tables e below _ T143 (mkF m 493 #[.val (.long p0), .second, .val (.long p1), .second, .val (.long p2), .second, .val (.long p3), .second, .val (.int p4), .val (.int (0 : Int32)), .val (.ref nb1), .val (.ref nb28), .val (.int f12), .val (.int p13), .val (.int f14), .val (.int f15), .val (.int f16), .val (.int bt), .val (.int g18), .val (.int bk), .val (.ref nb111), .val (.int (1 : Int32)), .val (.int (1 : Int32)), .val (.int (1 : Int32)), .unset, .unset, .unset, .unset, .unset, .unset] [])
            refine own_iload X143 hx (pc' := 495) (hb hby at_493) rfl rfl ?_
            refine own_ifNo X143 hx (pc' := 498) (hb hby at_495) (feq (by decide : ¬ ((1 : Int32) = (0 : Int32)))).1 rfl ?_
            refine own_aload X143 hx (pc' := 500) (hb hby at_498) rfl rfl rfl ?_
            refine own_callV X143 hx (pc' := 503) hZ hown (Wd50 hw) (Wd52 hw) (Wd53 hw) (Wd54 hw) (Wd4 hw) (by decide) (rm_pe0 l Z a0 hw [] nb111 T129.heap n0 Z131 G129_count G129_awaited) e143 F135 0 (by decide) (by decide) (by decide) (by decide) [] [] (by rw [hml]; rfl) (lenOf pd_3 rfl) rfl rfl (Nat.le_of_eq rfl) (hb hby at_500) rfl (fun v145 T145 L145 X145 hQ145 => ?_)
            obtain ⟨rfl, Nq145, e145⟩ := hQ145
            have N146 := Fr.app N144 Nq145
            show own_G p.tables e below _ T145 (mkF m 503 #[.val (.long p0), .second, .val (.long p1), .second, .val (.long p2), .second, .val (.long p3), .second, .val (.int p4), .val (.int (0 : Int32)), .val (.ref nb1), .val (.ref nb28), .val (.int f12), .val (.int p13), .val (.int f14), .val (.int f15), .val (.int f16), .val (.int bt), .val (.int g18), .val (.int bk), .val (.ref nb111), .val (.int (1 : Int32)), .val (.int (1 : Int32)), .val (.int (1 : Int32)), .unset, .unset, .unset, .unset, .unset, .unset] [(.int (1 : Int32))])
            refine own_iload X145 hx (pc' := 505) (hb hby at_503) rfl rfl ?_
            refine own_icmpNo X145 hx (pc' := 508) (hb hby at_505) (teq rfl).2 rfl ?_
            refine own_iconst X145 hx (pc' := 509) (1 : Int32) (hb hby at_508) rfl rfl ?_
            refine own_goto X145 hx (pc' := 513) (hb hby at_509) (by decide) (by decide) ?_
            refine own_retN X145 hx hlk hret (by simp) (hb hby at_513) (by decide) (by decide) ?_
            exact ⟨rfl, N146⟩
        · skip
          refine own_ifNo X136 hx (pc' := 474) (hb hby at_471) (feq hc471_139).1 rfl ?_
          refine own_aload X136 hx (pc' := 476) (hb hby at_474) rfl rfl rfl ?_
          refine own_iload X136 hx (pc' := 478) (hb hby at_476) rfl rfl ?_
          refine own_iload X136 hx (pc' := 480) (hb hby at_478) rfl rfl ?_
          refine own_callV X136 hx (pc' := 483) hZ hown (Wd68 hw) (Wd70 hw) (Wd71 hw) (Wd72 hw) (Wd4 hw) (by decide) (rm_cb0 l Z a0 hw [] nb111 g18 bk T129.heap n0 Z131 G129_awaited) e136 F135 0 (by decide) (by decide) (by decide) (by decide) [(.int g18), (.int bk)] [] (by rw [hml]; rfl) (lenOf pd_5 rfl) rfl rfl (Nat.le_of_eq rfl) (hb hby at_480) rfl (fun v147 T147 L147 X147 hQ147 => ?_)
          obtain ⟨rfl, Nq147, e147⟩ := hQ147
          have N148 := Fr.app N137 Nq147
          show own_G p.tables e below _ T147 (mkF m 483 #[.val (.long p0), .second, .val (.long p1), .second, .val (.long p2), .second, .val (.long p3), .second, .val (.int p4), .val (.int (0 : Int32)), .val (.ref nb1), .val (.ref nb28), .val (.int f12), .val (.int p13), .val (.int f14), .val (.int f15), .val (.int f16), .val (.int bt), .val (.int g18), .val (.int bk), .val (.ref nb111), .val (.int (1 : Int32)), .val (.int (1 : Int32)), .val (.int (1 : Int32)), .unset, .unset, .unset, .unset, .unset, .unset] [])
          refine own_iload X147 hx (pc' := 485) (hb hby at_483) rfl rfl ?_
          by_cases hc485_149 : f16 = (0 : Int32)
          · skip
            refine own_ifYes X147 hx (pc' := 493) (hb hby at_485) (teq hc485_149).1 (by decide) (by decide) ?_
            refine own_iload X147 hx (pc' := 495) (hb hby at_493) rfl rfl ?_
            refine own_ifNo X147 hx (pc' := 498) (hb hby at_495) (feq (by decide : ¬ ((1 : Int32) = (0 : Int32)))).1 rfl ?_
            refine own_aload X147 hx (pc' := 500) (hb hby at_498) rfl rfl rfl ?_
            refine own_callV X147 hx (pc' := 503) hZ hown (Wd50 hw) (Wd52 hw) (Wd53 hw) (Wd54 hw) (Wd4 hw) (by decide) (rm_pe0 l Z a0 hw [] nb111 T129.heap n0 Z131 G129_count G129_awaited) e147 F135 0 (by decide) (by decide) (by decide) (by decide) [] [] (by rw [hml]; rfl) (lenOf pd_3 rfl) rfl rfl (Nat.le_of_eq rfl) (hb hby at_500) rfl (fun v150 T150 L150 X150 hQ150 => ?_)
            obtain ⟨rfl, Nq150, e150⟩ := hQ150
            have N151 := Fr.app N148 Nq150
            show own_G p.tables e below _ T150 (mkF m 503 #[.val (.long p0), .second, .val (.long p1), .second, .val (.long p2), .second, .val (.long p3), .second, .val (.int p4), .val (.int (0 : Int32)), .val (.ref nb1), .val (.ref nb28), .val (.int f12), .val (.int p13), .val (.int f14), .val (.int f15), .val (.int f16), .val (.int bt), .val (.int g18), .val (.int bk), .val (.ref nb111), .val (.int (1 : Int32)), .val (.int (1 : Int32)), .val (.int (1 : Int32)), .unset, .unset, .unset, .unset, .unset, .unset] [(.int (1 : Int32))])
            refine own_iload X150 hx (pc' := 505) (hb hby at_503) rfl rfl ?_
            refine own_icmpNo X150 hx (pc' := 508) (hb hby at_505) (teq rfl).2 rfl ?_
            refine own_iconst X150 hx (pc' := 509) (1 : Int32) (hb hby at_508) rfl rfl ?_
            refine own_goto X150 hx (pc' := 513) (hb hby at_509) (by decide) (by decide) ?_
            refine own_retN X150 hx hlk hret (by simp) (hb hby at_513) (by decide) (by decide) ?_
            exact ⟨rfl, N151⟩
          · skip
            refine own_ifNo X147 hx (pc' := 488) (hb hby at_485) (feq hc485_149).1 rfl ?_
            refine own_aload X147 hx (pc' := 490) (hb hby at_488) rfl rfl rfl ?_
            refine own_callV X147 hx (pc' := 493) hZ hown (Wd73 hw) (Wd75 hw) (Wd76 hw) (Wd77 hw) (Wd4 hw) (by decide) (rm_bt0 l Z a0 hw [] nb111 T129.heap n0 Z131 G129_awaited) e147 F135 0 (by decide) (by decide) (by decide) (by decide) [] [] (by rw [hml]; rfl) (lenOf pd_4 rfl) rfl rfl (Nat.le_of_eq rfl) (hb hby at_490) rfl (fun v152 T152 L152 X152 hQ152 => ?_)
            obtain ⟨rfl, Nq152, e152⟩ := hQ152
            have N153 := Fr.app N148 Nq152
            show own_G p.tables e below _ T152 (mkF m 493 #[.val (.long p0), .second, .val (.long p1), .second, .val (.long p2), .second, .val (.long p3), .second, .val (.int p4), .val (.int (0 : Int32)), .val (.ref nb1), .val (.ref nb28), .val (.int f12), .val (.int p13), .val (.int f14), .val (.int f15), .val (.int f16), .val (.int bt), .val (.int g18), .val (.int bk), .val (.ref nb111), .val (.int (1 : Int32)), .val (.int (1 : Int32)), .val (.int (1 : Int32)), .unset, .unset, .unset, .unset, .unset, .unset] [])
            refine own_iload X152 hx (pc' := 495) (hb hby at_493) rfl rfl ?_
            refine own_ifNo X152 hx (pc' := 498) (hb hby at_495) (feq (by decide : ¬ ((1 : Int32) = (0 : Int32)))).1 rfl ?_
            refine own_aload X152 hx (pc' := 500) (hb hby at_498) rfl rfl rfl ?_
            refine own_callV X152 hx (pc' := 503) hZ hown (Wd50 hw) (Wd52 hw) (Wd53 hw) (Wd54 hw) (Wd4 hw) (by decide) (rm_pe0 l Z a0 hw [] nb111 T129.heap n0 Z131 G129_count G129_awaited) e152 F135 0 (by decide) (by decide) (by decide) (by decide) [] [] (by rw [hml]; rfl) (lenOf pd_3 rfl) rfl rfl (Nat.le_of_eq rfl) (hb hby at_500) rfl (fun v154 T154 L154 X154 hQ154 => ?_)
            obtain ⟨rfl, Nq154, e154⟩ := hQ154
            have N155 := Fr.app N153 Nq154
            show own_G p.tables e below _ T154 (mkF m 503 #[.val (.long p0), .second, .val (.long p1), .second, .val (.long p2), .second, .val (.long p3), .second, .val (.int p4), .val (.int (0 : Int32)), .val (.ref nb1), .val (.ref nb28), .val (.int f12), .val (.int p13), .val (.int f14), .val (.int f15), .val (.int f16), .val (.int bt), .val (.int g18), .val (.int bk), .val (.ref nb111), .val (.int (1 : Int32)), .val (.int (1 : Int32)), .val (.int (1 : Int32)), .unset, .unset, .unset, .unset, .unset, .unset] [(.int (1 : Int32))])
            refine own_iload X154 hx (pc' := 505) (hb hby at_503) rfl rfl ?_
            refine own_icmpNo X154 hx (pc' := 508) (hb hby at_505) (teq rfl).2 rfl ?_
            refine own_iconst X154 hx (pc' := 509) (1 : Int32) (hb hby at_508) rfl rfl ?_
            refine own_goto X154 hx (pc' := 513) (hb hby at_509) (by decide) (by decide) ?_
            refine own_retN X154 hx hlk hret (by simp) (hb hby at_513) (by decide) (by decide) ?_
            exact ⟨rfl, N155⟩
      · skip
        refine own_ifNo X136 hx (pc' := 314) (hb hby at_311) (feq hc311_138).1 rfl ?_
        refine own_iload X136 hx (pc' := 316) (hb hby at_314) rfl rfl ?_
        refine own_ifYes X136 hx (pc' := 469) (hb hby at_316) (flt (by decide : ¬ ((0 : Int32) < (0 : Int32)))).2.2.2 (by decide) (by decide) ?_
        refine own_iload X136 hx (pc' := 471) (hb hby at_469) rfl rfl ?_
        by_cases hc471_156 : f14 = (0 : Int32)
        · skip
          refine own_ifYes X136 hx (pc' := 483) (hb hby at_471) (teq hc471_156).1 (by decide) (by decide) ?_
          refine own_iload X136 hx (pc' := 485) (hb hby at_483) rfl rfl ?_
          by_cases hc485_157 : f16 = (0 : Int32)
          · skip
            refine own_ifYes X136 hx (pc' := 493) (hb hby at_485) (teq hc485_157).1 (by decide) (by decide) ?_
            refine own_iload X136 hx (pc' := 495) (hb hby at_493) rfl rfl ?_
            refine own_ifNo X136 hx (pc' := 498) (hb hby at_495) (feq (by decide : ¬ ((1 : Int32) = (0 : Int32)))).1 rfl ?_
            refine own_aload X136 hx (pc' := 500) (hb hby at_498) rfl rfl rfl ?_
            refine own_callV X136 hx (pc' := 503) hZ hown (Wd50 hw) (Wd52 hw) (Wd53 hw) (Wd54 hw) (Wd4 hw) (by decide) (rm_pe0 l Z a0 hw [] nb111 T129.heap n0 Z131 G129_count G129_awaited) e136 F135 0 (by decide) (by decide) (by decide) (by decide) [] [] (by rw [hml]; rfl) (lenOf pd_3 rfl) rfl rfl (Nat.le_of_eq rfl) (hb hby at_500) rfl (fun v158 T158 L158 X158 hQ158 => ?_)
            obtain ⟨rfl, Nq158, e158⟩ := hQ158
            have N159 := Fr.app N137 Nq158
            show own_G p.tables e below _ T158 (mkF m 503 #[.val (.long p0), .second, .val (.long p1), .second, .val (.long p2), .second, .val (.long p3), .second, .val (.int p4), .val (.int (0 : Int32)), .val (.ref nb1), .val (.ref nb28), .val (.int f12), .val (.int p13), .val (.int f14), .val (.int f15), .val (.int f16), .val (.int bt), .val (.int g18), .val (.int bk), .val (.ref nb111), .val (.int (1 : Int32)), .val (.int (1 : Int32)), .val (.int (1 : Int32)), .unset, .unset, .unset, .unset, .unset, .unset] [(.int (1 : Int32))])
            refine own_iload X158 hx (pc' := 505) (hb hby at_503) rfl rfl ?_
            refine own_icmpNo X158 hx (pc' := 508) (hb hby at_505) (teq rfl).2 rfl ?_
            refine own_iconst X158 hx (pc' := 509) (1 : Int32) (hb hby at_508) rfl rfl ?_
            refine own_goto X158 hx (pc' := 513) (hb hby at_509) (by decide) (by decide) ?_
            refine own_retN X158 hx hlk hret (by simp) (hb hby at_513) (by decide) (by decide) ?_
            exact ⟨rfl, N159⟩
          · skip
            refine own_ifNo X136 hx (pc' := 488) (hb hby at_485) (feq hc485_157).1 rfl ?_
            refine own_aload X136 hx (pc' := 490) (hb hby at_488) rfl rfl rfl ?_
            refine own_callV X136 hx (pc' := 493) hZ hown (Wd73 hw) (Wd75 hw) (Wd76 hw) (Wd77 hw) (Wd4 hw) (by decide) (rm_bt0 l Z a0 hw [] nb111 T129.heap n0 Z131 G129_awaited) e136 F135 0 (by decide) (by decide) (by decide) (by decide) [] [] (by rw [hml]; rfl) (lenOf pd_4 rfl) rfl rfl (Nat.le_of_eq rfl) (hb hby at_490) rfl (fun v160 T160 L160 X160 hQ160 => ?_)
            obtain ⟨rfl, Nq160, e160⟩ := hQ160
            have N161 := Fr.app N137 Nq160
            show own_G p.tables e below _ T160 (mkF m 493 #[.val (.long p0), .second, .val (.long p1), .second, .val (.long p2), .second, .val (.long p3), .second, .val (.int p4), .val (.int (0 : Int32)), .val (.ref nb1), .val (.ref nb28), .val (.int f12), .val (.int p13), .val (.int f14), .val (.int f15), .val (.int f16), .val (.int bt), .val (.int g18), .val (.int bk), .val (.ref nb111), .val (.int (1 : Int32)), .val (.int (1 : Int32)), .val (.int (1 : Int32)), .unset, .unset, .unset, .unset, .unset, .unset] [])
            refine own_iload X160 hx (pc' := 495) (hb hby at_493) rfl rfl ?_
            refine own_ifNo X160 hx (pc' := 498) (hb hby at_495) (feq (by decide : ¬ ((1 : Int32) = (0 : Int32)))).1 rfl ?_
            refine own_aload X160 hx (pc' := 500) (hb hby at_498) rfl rfl rfl ?_
            refine own_callV X160 hx (pc' := 503) hZ hown (Wd50 hw) (Wd52 hw) (Wd53 hw) (Wd54 hw) (Wd4 hw) (by decide) (rm_pe0 l Z a0 hw [] nb111 T129.heap n0 Z131 G129_count G129_awaited) e160 F135 0 (by decide) (by decide) (by decide) (by decide) [] [] (by rw [hml]; rfl) (lenOf pd_3 rfl) rfl rfl (Nat.le_of_eq rfl) (hb hby at_500) rfl (fun v162 T162 L162 X162 hQ162 => ?_)
            obtain ⟨rfl, Nq162, e162⟩ := hQ162
            have N163 := Fr.app N161 Nq162
            show own_G p.tables e below _ T162 (mkF m 503 #[.val (.long p0), .second, .val (.long p1), .second, .val (.long p2), .second, .val (.long p3), .second, .val (.int p4), .val (.int (0 : Int32)), .val (.ref nb1), .val (.ref nb28), .val (.int f12), .val (.int p13), .val (.int f14), .val (.int f15), .val (.int f16), .val (.int bt), .val (.int g18), .val (.int bk), .val (.ref nb111), .val (.int (1 : Int32)), .val (.int (1 : Int32)), .val (.int (1 : Int32)), .unset, .unset, .unset, .unset, .unset, .unset] [(.int (1 : Int32))])
            refine own_iload X162 hx (pc' := 505) (hb hby at_503) rfl rfl ?_
            refine own_icmpNo X162 hx (pc' := 508) (hb hby at_505) (teq rfl).2 rfl ?_
            refine own_iconst X162 hx (pc' := 509) (1 : Int32) (hb hby at_508) rfl rfl ?_
            refine own_goto X162 hx (pc' := 513) (hb hby at_509) (by decide) (by decide) ?_
            refine own_retN X162 hx hlk hret (by simp) (hb hby at_513) (by decide) (by decide) ?_
            exact ⟨rfl, N163⟩
        · skip
          refine own_ifNo X136 hx (pc' := 474) (hb hby at_471) (feq hc471_156).1 rfl ?_
          refine own_aload X136 hx (pc' := 476) (hb hby at_474) rfl rfl rfl ?_
          refine own_iload X136 hx (pc' := 478) (hb hby at_476) rfl rfl ?_
          refine own_iload X136 hx (pc' := 480) (hb hby at_478) rfl rfl ?_
          refine own_callV X136 hx (pc' := 483) hZ hown (Wd68 hw) (Wd70 hw) (Wd71 hw) (Wd72 hw) (Wd4 hw) (by decide) (rm_cb0 l Z a0 hw [] nb111 g18 bk T129.heap n0 Z131 G129_awaited) e136 F135 0 (by decide) (by decide) (by decide) (by decide) [(.int g18), (.int bk)] [] (by rw [hml]; rfl) (lenOf pd_5 rfl) rfl rfl (Nat.le_of_eq rfl) (hb hby at_480) rfl (fun v164 T164 L164 X164 hQ164 => ?_)
          obtain ⟨rfl, Nq164, e164⟩ := hQ164
          have N165 := Fr.app N137 Nq164
          show own_G p.tables e below _ T164 (mkF m 483 #[.val (.long p0), .second, .val (.long p1), .second, .val (.long p2), .second, .val (.long p3), .second, .val (.int p4), .val (.int (0 : Int32)), .val (.ref nb1), .val (.ref nb28), .val (.int f12), .val (.int p13), .val (.int f14), .val (.int f15), .val (.int f16), .val (.int bt), .val (.int g18), .val (.int bk), .val (.ref nb111), .val (.int (1 : Int32)), .val (.int (1 : Int32)), .val (.int (1 : Int32)), .unset, .unset, .unset, .unset, .unset, .unset] [])
          refine own_iload X164 hx (pc' := 485) (hb hby at_483) rfl rfl ?_
          by_cases hc485_166 : f16 = (0 : Int32)
          · skip
            refine own_ifYes X164 hx (pc' := 493) (hb hby at_485) (teq hc485_166).1 (by decide) (by decide) ?_
            refine own_iload X164 hx (pc' := 495) (hb hby at_493) rfl rfl ?_
            refine own_ifNo X164 hx (pc' := 498) (hb hby at_495) (feq (by decide : ¬ ((1 : Int32) = (0 : Int32)))).1 rfl ?_
            refine own_aload X164 hx (pc' := 500) (hb hby at_498) rfl rfl rfl ?_
            refine own_callV X164 hx (pc' := 503) hZ hown (Wd50 hw) (Wd52 hw) (Wd53 hw) (Wd54 hw) (Wd4 hw) (by decide) (rm_pe0 l Z a0 hw [] nb111 T129.heap n0 Z131 G129_count G129_awaited) e164 F135 0 (by decide) (by decide) (by decide) (by decide) [] [] (by rw [hml]; rfl) (lenOf pd_3 rfl) rfl rfl (Nat.le_of_eq rfl) (hb hby at_500) rfl (fun v167 T167 L167 X167 hQ167 => ?_)
            obtain ⟨rfl, Nq167, e167⟩ := hQ167
            have N168 := Fr.app N165 Nq167
            show own_G p.tables e below _ T167 (mkF m 503 #[.val (.long p0), .second, .val (.long p1), .second, .val (.long p2), .second, .val (.long p3), .second, .val (.int p4), .val (.int (0 : Int32)), .val (.ref nb1), .val (.ref nb28), .val (.int f12), .val (.int p13), .val (.int f14), .val (.int f15), .val (.int f16), .val (.int bt), .val (.int g18), .val (.int bk), .val (.ref nb111), .val (.int (1 : Int32)), .val (.int (1 : Int32)), .val (.int (1 : Int32)), .unset, .unset, .unset, .unset, .unset, .unset] [(.int (1 : Int32))])
            refine own_iload X167 hx (pc' := 505) (hb hby at_503) rfl rfl ?_
            refine own_icmpNo X167 hx (pc' := 508) (hb hby at_505) (teq rfl).2 rfl ?_
            refine own_iconst X167 hx (pc' := 509) (1 : Int32) (hb hby at_508) rfl rfl ?_
            refine own_goto X167 hx (pc' := 513) (hb hby at_509) (by decide) (by decide) ?_
            refine own_retN X167 hx hlk hret (by simp) (hb hby at_513) (by decide) (by decide) ?_
            exact ⟨rfl, N168⟩
          · skip
            refine own_ifNo X164 hx (pc' := 488) (hb hby at_485) (feq hc485_166).1 rfl ?_
            refine own_aload X164 hx (pc' := 490) (hb hby at_488) rfl rfl rfl ?_
            refine own_callV X164 hx (pc' := 493) hZ hown (Wd73 hw) (Wd75 hw) (Wd76 hw) (Wd77 hw) (Wd4 hw) (by decide) (rm_bt0 l Z a0 hw [] nb111 T129.heap n0 Z131 G129_awaited) e164 F135 0 (by decide) (by decide) (by decide) (by decide) [] [] (by rw [hml]; rfl) (lenOf pd_4 rfl) rfl rfl (Nat.le_of_eq rfl) (hb hby at_490) rfl (fun v169 T169 L169 X169 hQ169 => ?_)
            obtain ⟨rfl, Nq169, e169⟩ := hQ169
            have N170 := Fr.app N165 Nq169
            show own_G p.tables e below _ T169 (mkF m 493 #[.val (.long p0), .second, .val (.long p1), .second, .val (.long p2), .second, .val (.long p3), .second, .val (.int p4), .val (.int (0 : Int32)), .val (.ref nb1), .val (.ref nb28), .val (.int f12), .val (.int p13), .val (.int f14), .val (.int f15), .val (.int f16), .val (.int bt), .val (.int g18), .val (.int bk), .val (.ref nb111), .val (.int (1 : Int32)), .val (.int (1 : Int32)), .val (.int (1 : Int32)), .unset, .unset, .unset, .unset, .unset, .unset] [])
            refine own_iload X169 hx (pc' := 495) (hb hby at_493) rfl rfl ?_
            refine own_ifNo X169 hx (pc' := 498) (hb hby at_495) (feq (by decide : ¬ ((1 : Int32) = (0 : Int32)))).1 rfl ?_
            refine own_aload X169 hx (pc' := 500) (hb hby at_498) rfl rfl rfl ?_
            refine own_callV X169 hx (pc' := 503) hZ hown (Wd50 hw) (Wd52 hw) (Wd53 hw) (Wd54 hw) (Wd4 hw) (by decide) (rm_pe0 l Z a0 hw [] nb111 T129.heap n0 Z131 G129_count G129_awaited) e169 F135 0 (by decide) (by decide) (by decide) (by decide) [] [] (by rw [hml]; rfl) (lenOf pd_3 rfl) rfl rfl (Nat.le_of_eq rfl) (hb hby at_500) rfl (fun v171 T171 L171 X171 hQ171 => ?_)
            obtain ⟨rfl, Nq171, e171⟩ := hQ171
            have N172 := Fr.app N170 Nq171
            show own_G p.tables e below _ T171 (mkF m 503 #[.val (.long p0), .second, .val (.long p1), .second, .val (.long p2), .second, .val (.long p3), .second, .val (.int p4), .val (.int (0 : Int32)), .val (.ref nb1), .val (.ref nb28), .val (.int f12), .val (.int p13), .val (.int f14), .val (.int f15), .val (.int f16), .val (.int bt), .val (.int g18), .val (.int bk), .val (.ref nb111), .val (.int (1 : Int32)), .val (.int (1 : Int32)), .val (.int (1 : Int32)), .unset, .unset, .unset, .unset, .unset, .unset] [(.int (1 : Int32))])
            refine own_iload X171 hx (pc' := 505) (hb hby at_503) rfl rfl ?_
            refine own_icmpNo X171 hx (pc' := 508) (hb hby at_505) (teq rfl).2 rfl ?_
            refine own_iconst X171 hx (pc' := 509) (1 : Int32) (hb hby at_508) rfl rfl ?_
            refine own_goto X171 hx (pc' := 513) (hb hby at_509) (by decide) (by decide) ?_
            refine own_retN X171 hx hlk hret (by simp) (hb hby at_513) (by decide) (by decide) ?_
            exact ⟨rfl, N172⟩
    · skip
      show own_G p.tables e below _ T53 (mkF m 175 #[.val (.long p0), .second, .val (.long p1), .second, .val (.long p2), .second, .val (.long p3), .second, .val (.int p4), .val (.int (1 : Int32)), .val (.ref nb1), .val (.ref nb28), .val (.int f12), .val (.int p13), .val (.int f14), .val (.int f15), .val (.int f16), .val (.int bt), .val (.int g18), .val (.int bk), .unset, .unset, .unset, .unset, .unset, .unset, .unset, .unset, .unset, .unset] [])
      refine own_new X53 hx (pc' := 178) hZ hown (Wd2 hw) (Wd3 hw) (Wd4 hw) e53 (hb hby at_175) (by decide) (by decide) rfl (fun T173 h173 nb173 g173 X173 e173 E173 A173 D173 => ?_)
      have ne_nn_nb173_174 : nn ≠ nb173 := Nat.ne_of_lt (Nat.lt_of_lt_of_le F57.lt (Nat.le_of_eq g173.symm))
      have ne_nb1_nb173_175 : nb1 ≠ nb173 := Nat.ne_of_lt (Nat.lt_of_lt_of_le F58.lt (Nat.le_of_eq g173.symm))
      have ne_nb28_nb173_176 : nb28 ≠ nb173 := Nat.ne_of_lt (Nat.lt_of_lt_of_le F59.lt (Nat.le_of_eq g173.symm))
      have ge_nb173 : n0 ≤ nb173 := Nat.le_trans Z55 (Nat.le_of_eq g173.symm)
      have Z177 : n0 ≤ h173.size := Nat.le_trans Z55 E173.1
      have F178 := (Sta.ext E173 F56)
      have F179 := (F57.ext E173)
      have F180 := (F58.ext E173)
      have F181 := (F59.ext E173)
      have F182 : Fld Z h173 nb173 "com/example/rootcast/rootcast/tree/Children" "peers" "[I" .null := D173 (Or.inl (Wd14 hw)) (ty := (.array .int)) (by decide)
      have F183 : Fld Z h173 nb173 "com/example/rootcast/rootcast/tree/Children" "subtree" "[I" .null := D173 (Or.inl (Wd16 hw)) (ty := (.array .int)) (by decide)
      have F184 : Fld Z h173 nb173 "com/example/rootcast/rootcast/tree/Children" "sent" "[I" .null := D173 (Or.inl (Wd18 hw)) (ty := (.array .int)) (by decide)
      have F185 : Fld Z h173 nb173 "com/example/rootcast/rootcast/tree/Children" "stopped" "[I" .null := D173 (Or.inl (Wd20 hw)) (ty := (.array .int)) (by decide)
      have F186 : Fld Z h173 nb173 "com/example/rootcast/rootcast/tree/Children" "toCome" "[I" .null := D173 (Or.inl (Wd22 hw)) (ty := (.array .int)) (by decide)
      have F187 : Fld Z h173 nb173 "com/example/rootcast/rootcast/tree/Children" "beatsLeft" "[I" .null := D173 (Or.inl (Wd24 hw)) (ty := (.array .int)) (by decide)
      have F188 : Fld Z h173 nb173 "com/example/rootcast/rootcast/tree/Children" "degree" "I" (.int (0 : Int32)) := D173 (Or.inr (Wd26 hw)) (ty := .int) (by decide)
      have F189 : Fld Z h173 nb173 "com/example/rootcast/rootcast/tree/Children" "count" "I" (.int (0 : Int32)) := D173 (Or.inl (Wd33 hw)) (ty := .int) (by decide)
      have F190 : Fld Z h173 nb173 "com/example/rootcast/rootcast/tree/Children" "awaited" "I" (.int (0 : Int32)) := D173 (Or.inl (Wd56 hw)) (ty := .int) (by decide)
      refine own_dup X173 hx (pc' := 179) (hb hby at_178) rfl rfl ?_
      refine own_iconst X173 hx (pc' := 180) (3 : Int32) (hb hby at_179) rfl rfl ?_
      refine own_callI X173 hx (pc' := 183) hZ rfl hown (Wd5 hw) (Wd6 hw) (Wd7 hw) (Wd4 hw) (by decide) (rm_init l Z a0 hw [] nb173 nn (3 : Int32) h173 n0 Z177 ge_nb173 A173 F178 F182 F183 F184 F185 F186 F187 F188 F189 F190) e173 (b := nb173) 1 (by decide) (by decide) (by decide) (by decide) [(.int (3 : Int32))] [(.ref nb173)] (by rw [hml]; rfl) (lenOf pd_2 rfl) rfl rfl (Nat.le_of_eq rfl) (hb hby at_180) rfl (fun v191 T191 L191 X191 hQ191 => ?_)
      obtain ⟨rfl, Nq191, K191, G191_peers, G191_subtree, G191_sent, G191_stopped, G191_toCome, G191_beatsLeft, G191_degree, G191_count, G191_awaited⟩ := hQ191
      have N192 := Fr.app N54 Nq191
      have Z193 : n0 ≤ T191.heap.size := Nat.le_trans Z177 K191.1
      have F194 := (F179.keep K191 (ninS ne_nn_nb173_174 nin0))
      have F195 := (F180.keep K191 (ninS ne_nb1_nb173_175 nin0))
      have F196 := (F181.keep K191 (ninS ne_nb28_nb173_176 nin0))
      have F197 := (Exa.keep A173 K191)
      show own_G p.tables e below _ T191 (mkF m 183 #[.val (.long p0), .second, .val (.long p1), .second, .val (.long p2), .second, .val (.long p3), .second, .val (.int p4), .val (.int (1 : Int32)), .val (.ref nb1), .val (.ref nb28), .val (.int f12), .val (.int p13), .val (.int f14), .val (.int f15), .val (.int f16), .val (.int bt), .val (.int g18), .val (.int bk), .unset, .unset, .unset, .unset, .unset, .unset, .unset, .unset, .unset, .unset] [(.ref nb173)])
      refine own_astore X191 hx (pc' := 185) (Ls' := #[.val (.long p0), .second, .val (.long p1), .second, .val (.long p2), .second, .val (.long p3), .second, .val (.int p4), .val (.int (1 : Int32)), .val (.ref nb1), .val (.ref nb28), .val (.int f12), .val (.int p13), .val (.int f14), .val (.int f15), .val (.int f16), .val (.int bt), .val (.int g18), .val (.int bk), .val (.ref nb173), .unset, .unset, .unset, .unset, .unset, .unset, .unset, .unset, .unset]) (hb hby at_183) rfl rfl rfl ?_
      refine own_iload X191 hx (pc' := 187) (hb hby at_185) rfl rfl ?_
      refine own_ifNo X191 hx (pc' := 190) (hb hby at_187) (tlt (by decide : (0 : Int32) < (1 : Int32))).2.2.2 rfl ?_
      refine own_aload X191 hx (pc' := 192) (hb hby at_190) rfl rfl rfl ?_
      refine own_aload X191 hx (pc' := 194) (hb hby at_192) rfl rfl rfl ?_
      refine own_iconst X191 hx (pc' := 195) (0 : Int32) (hb hby at_194) rfl rfl ?_
      obtain ⟨cl198, Ar198, q198, S198, M198, H198, G198⟩ := id F195
      refine own_iaload X191 hx (pc' := 196) hZ (v := i0) rfl Ar198 (inb_of S198 ⟨by decide, by decide⟩) (Has.at H198 (inb_of S198 ⟨by decide, by decide⟩) rfl) (hb hby at_195) rfl ?_
      refine own_aload X191 hx (pc' := 198) (hb hby at_196) rfl rfl rfl ?_
      refine own_iconst X191 hx (pc' := 199) (0 : Int32) (hb hby at_198) rfl rfl ?_
      obtain ⟨cl199, Ar199, q199, S199, M199, H199, G199⟩ := id F196
      refine own_iaload X191 hx (pc' := 200) hZ (v := y0) rfl Ar199 (inb_of S199 ⟨by decide, by decide⟩) (Has.at H199 (inb_of S199 ⟨by decide, by decide⟩) rfl) (hb hby at_199) rfl ?_
      refine own_callV X191 hx (pc' := 203) hZ hown (Wd27 hw) (Wd29 hw) (Wd30 hw) (Wd31 hw) (Wd4 hw) (by decide) (rm_add0 l Z a0 hw [] nb173 nn kn (3 : Int32) i0 y0 nn nn nn (0 : Int32) T191.heap n0 Z193 ge_nb173 (Or.inl (by decide)) F197 G191_count G191_peers G191_subtree G191_sent G191_degree F194 G191_awaited G191_stopped G191_toCome G191_beatsLeft) rfl F197 0 (by decide) (by decide) (by decide) (by decide) [(.int i0), (.int y0)] [] (by rw [hml]; rfl) (lenOf pd_5 rfl) rfl rfl (Nat.le_of_eq rfl) (hb hby at_200) rfl (fun v200 T200 L200 X200 hQ200 => ?_)
      obtain ⟨rfl, Nq200, K200, z, b1, b2, b3, k1, k2, k3, hz, s1, s2, s3, dj12, dj13, dj23, Gc, Gp, Gu, Gt, V1, V2, V3, Xa, Xb, Xc, Xd⟩ := hQ200
      have N201 := Fr.app N192 Nq200
      have ge_b1 : n0 ≤ b1 := Nat.le_trans Z193 s1
      have na_nn_1 : nn ≠ b1 := Nat.ne_of_lt (Nat.lt_of_lt_of_le F194.lt s1)
      have na_nb1_1 : nb1 ≠ b1 := Nat.ne_of_lt (Nat.lt_of_lt_of_le F195.lt s1)
      have na_nb28_1 : nb28 ≠ b1 := Nat.ne_of_lt (Nat.lt_of_lt_of_le F196.lt s1)
      have na_nb173_1 : nb173 ≠ b1 := Nat.ne_of_lt (Nat.lt_of_lt_of_le F197.lt s1)
      have ge_b2 : n0 ≤ b2 := Nat.le_trans Z193 s2
      have na_nn_2 : nn ≠ b2 := Nat.ne_of_lt (Nat.lt_of_lt_of_le F194.lt s2)
      have na_nb1_2 : nb1 ≠ b2 := Nat.ne_of_lt (Nat.lt_of_lt_of_le F195.lt s2)
      have na_nb28_2 : nb28 ≠ b2 := Nat.ne_of_lt (Nat.lt_of_lt_of_le F196.lt s2)
      have na_nb173_2 : nb173 ≠ b2 := Nat.ne_of_lt (Nat.lt_of_lt_of_le F197.lt s2)
      have ge_b3 : n0 ≤ b3 := Nat.le_trans Z193 s3
      have na_nn_3 : nn ≠ b3 := Nat.ne_of_lt (Nat.lt_of_lt_of_le F194.lt s3)
      have na_nb1_3 : nb1 ≠ b3 := Nat.ne_of_lt (Nat.lt_of_lt_of_le F195.lt s3)
      have na_nb28_3 : nb28 ≠ b3 := Nat.ne_of_lt (Nat.lt_of_lt_of_le F196.lt s3)
      have na_nb173_3 : nb173 ≠ b3 := Nat.ne_of_lt (Nat.lt_of_lt_of_le F197.lt s3)
      have Z202 : n0 ≤ T200.heap.size := Nat.le_trans Z193 K200.1
      have F203 := (F194.keep K200 (ninS ne_nn_nb173_174 nin0))
      have F204 := (F195.keep K200 (ninS ne_nb1_nb173_175 nin0))
      have F205 := (F196.keep K200 (ninS ne_nb28_nb173_176 nin0))
      have F206 := (Exa.keep F197 K200)
      show own_G p.tables e below _ T200 (mkF m 203 #[.val (.long p0), .second, .val (.long p1), .second, .val (.long p2), .second, .val (.long p3), .second, .val (.int p4), .val (.int (1 : Int32)), .val (.ref nb1), .val (.ref nb28), .val (.int f12), .val (.int p13), .val (.int f14), .val (.int f15), .val (.int f16), .val (.int bt), .val (.int g18), .val (.int bk), .val (.ref nb173), .unset, .unset, .unset, .unset, .unset, .unset, .unset, .unset, .unset] [])
      refine own_iload X200 hx (pc' := 205) (hb hby at_203) rfl rfl ?_
      refine own_iconst X200 hx (pc' := 206) (1 : Int32) (hb hby at_205) rfl rfl ?_
      refine own_icmpYes X200 hx (pc' := 222) (hb hby at_206) (flt (by decide : ¬ ((1 : Int32) < (1 : Int32)))).2.2.2 (by decide) (by decide) ?_
      refine own_iload X200 hx (pc' := 224) (hb hby at_222) rfl rfl ?_
      refine own_iconst X200 hx (pc' := 225) (2 : Int32) (hb hby at_224) rfl rfl ?_
      refine own_icmpYes X200 hx (pc' := 241) (hb hby at_225) (flt (by decide : ¬ ((2 : Int32) < (1 : Int32)))).2.2.2 (by decide) (by decide) ?_
      refine own_iconst X200 hx (pc' := 242) (1 : Int32) (hb hby at_241) rfl rfl ?_
      refine own_istore X200 hx (pc' := 244) (Ls' := #[.val (.long p0), .second, .val (.long p1), .second, .val (.long p2), .second, .val (.long p3), .second, .val (.int p4), .val (.int (1 : Int32)), .val (.ref nb1), .val (.ref nb28), .val (.int f12), .val (.int p13), .val (.int f14), .val (.int f15), .val (.int f16), .val (.int bt), .val (.int g18), .val (.int bk), .val (.ref nb173), .val (.int (1 : Int32)), .unset, .unset, .unset, .unset, .unset, .unset, .unset, .unset]) (hb hby at_242) rfl rfl ?_
      refine own_iload X200 hx (pc' := 246) (hb hby at_244) rfl rfl ?_
      refine own_ifNo X200 hx (pc' := 249) (hb hby at_246) (tlt (by decide : (0 : Int32) < (1 : Int32))).2.2.2 rfl ?_
      refine own_iload X200 hx (pc' := 251) (hb hby at_249) rfl rfl ?_
      refine own_aload X200 hx (pc' := 253) (hb hby at_251) rfl rfl rfl ?_
      refine own_iconst X200 hx (pc' := 254) (0 : Int32) (hb hby at_253) rfl rfl ?_
      obtain ⟨cl207, Ar207, q207, S207, M207, H207, G207⟩ := id F205
      refine own_iaload X200 hx (pc' := 255) hZ (v := y0) rfl Ar207 (inb_of S207 ⟨by decide, by decide⟩) (Has.at H207 (inb_of S207 ⟨by decide, by decide⟩) rfl) (hb hby at_254) rfl ?_
      refine own_iadd X200 hx (pc' := 256) (hb hby at_255) rfl rfl ?_
      refine own_istore X200 hx (pc' := 258) (Ls' := #[.val (.long p0), .second, .val (.long p1), .second, .val (.long p2), .second, .val (.long p3), .second, .val (.int p4), .val (.int (1 : Int32)), .val (.ref nb1), .val (.ref nb28), .val (.int f12), .val (.int p13), .val (.int f14), .val (.int f15), .val (.int f16), .val (.int bt), .val (.int g18), .val (.int bk), .val (.ref nb173), .val (.int ((1 : Int32) + y0)), .unset, .unset, .unset, .unset, .unset, .unset, .unset, .unset]) (hb hby at_256) rfl rfl ?_
      refine own_iload X200 hx (pc' := 260) (hb hby at_258) rfl rfl ?_
      refine own_iconst X200 hx (pc' := 261) (1 : Int32) (hb hby at_260) rfl rfl ?_
      refine own_icmpYes X200 hx (pc' := 273) (hb hby at_261) (flt (by decide : ¬ ((1 : Int32) < (1 : Int32)))).2.2.2 (by decide) (by decide) ?_
      refine own_iload X200 hx (pc' := 275) (hb hby at_273) rfl rfl ?_
      refine own_iconst X200 hx (pc' := 276) (2 : Int32) (hb hby at_275) rfl rfl ?_
      refine own_icmpYes X200 hx (pc' := 288) (hb hby at_276) (flt (by decide : ¬ ((2 : Int32) < (1 : Int32)))).2.2.2 (by decide) (by decide) ?_
      refine own_aload X200 hx (pc' := 290) (hb hby at_288) rfl rfl rfl ?_
      refine own_callV X200 hx (pc' := 293) hZ hown (Wd50 hw) (Wd52 hw) (Wd53 hw) (Wd54 hw) (Wd4 hw) (by decide) (rm_peN l Z a0 hw [] nb173 b2 nn k2 kn z (4 : Int32) (1 : Int32) y0 (0 : Int32) (0 : Int32) (0 : Int32) T200.heap n0 Z202 (by decide) hz (Or.inr (by decide)) Gc Gu Xa V2) rfl F206 0 (by decide) (by decide) (by decide) (by decide) [] [] (by rw [hml]; rfl) (lenOf pd_3 rfl) rfl rfl (Nat.le_of_eq rfl) (hb hby at_290) rfl (fun v208 T208 L208 X208 hQ208 => ?_)
      obtain ⟨rfl, Nq208, e208⟩ := hQ208
      have N209 := Fr.app N201 Nq208
      show own_G p.tables e below _ T208 (mkF m 293 #[.val (.long p0), .second, .val (.long p1), .second, .val (.long p2), .second, .val (.long p3), .second, .val (.int p4), .val (.int (1 : Int32)), .val (.ref nb1), .val (.ref nb28), .val (.int f12), .val (.int p13), .val (.int f14), .val (.int f15), .val (.int f16), .val (.int bt), .val (.int g18), .val (.int bk), .val (.ref nb173), .val (.int ((1 : Int32) + y0)), .unset, .unset, .unset, .unset, .unset, .unset, .unset, .unset] [(.int (own_sum (1 : Int32) y0 (0 : Int32) (0 : Int32)))])
      rw [show own_sum (1 : Int32) y0 (0 : Int32) (0 : Int32) = ((1 : Int32) + y0) from (by unfold own_sum; rw [if_pos (by decide), if_neg (by decide)])]
      refine own_iload X208 hx (pc' := 295) (hb hby at_293) rfl rfl ?_
      refine own_icmpNo X208 hx (pc' := 298) (hb hby at_295) (teq rfl).2 rfl ?_
      refine own_iconst X208 hx (pc' := 299) (1 : Int32) (hb hby at_298) rfl rfl ?_
      refine own_goto X208 hx (pc' := 303) (hb hby at_299) (by decide) (by decide) ?_
      refine own_istore X208 hx (pc' := 305) (Ls' := #[.val (.long p0), .second, .val (.long p1), .second, .val (.long p2), .second, .val (.long p3), .second, .val (.int p4), .val (.int (1 : Int32)), .val (.ref nb1), .val (.ref nb28), .val (.int f12), .val (.int p13), .val (.int f14), .val (.int f15), .val (.int f16), .val (.int bt), .val (.int g18), .val (.int bk), .val (.ref nb173), .val (.int ((1 : Int32) + y0)), .val (.int (1 : Int32)), .unset, .unset, .unset, .unset, .unset, .unset, .unset]) (hb hby at_303) rfl rfl ?_
      refine own_iload X208 hx (pc' := 307) (hb hby at_305) rfl rfl ?_
      refine own_istore X208 hx (pc' := 309) (Ls' := #[.val (.long p0), .second, .val (.long p1), .second, .val (.long p2), .second, .val (.long p3), .second, .val (.int p4), .val (.int (1 : Int32)), .val (.ref nb1), .val (.ref nb28), .val (.int f12), .val (.int p13), .val (.int f14), .val (.int f15), .val (.int f16), .val (.int bt), .val (.int g18), .val (.int bk), .val (.ref nb173), .val (.int ((1 : Int32) + y0)), .val (.int (1 : Int32)), .val (.int ((1 : Int32) + y0)), .unset, .unset, .unset, .unset, .unset, .unset]) (hb hby at_307) rfl rfl ?_
      refine own_iload X208 hx (pc' := 311) (hb hby at_309) rfl rfl ?_
      by_cases hc311_210 : f12 = (0 : Int32)
      · skip
        refine own_ifYes X208 hx (pc' := 469) (hb hby at_311) (teq hc311_210).1 (by decide) (by decide) ?_
        refine own_iload X208 hx (pc' := 471) (hb hby at_469) rfl rfl ?_
        by_cases hc471_211 : f14 = (0 : Int32)
        · skip
          refine own_ifYes X208 hx (pc' := 483) (hb hby at_471) (teq hc471_211).1 (by decide) (by decide) ?_
          refine own_iload X208 hx (pc' := 485) (hb hby at_483) rfl rfl ?_
          by_cases hc485_212 : f16 = (0 : Int32)
          · skip
            refine own_ifYes X208 hx (pc' := 493) (hb hby at_485) (teq hc485_212).1 (by decide) (by decide) ?_
            exact JEN nb173 b2 k2 z (1 : Int32) y0 (0 : Int32) (0 : Int32) ((1 : Int32) + y0) (.val (.int (1 : Int32))) (.val (.int ((1 : Int32) + y0))) (.unset) (.unset) (.unset) (.unset) (.unset) (.unset) _ _ _ (X208.more (by decide) (by decide)) e208 N209 Z202 F206 Gc Gu Xa V2 (by decide) hz (Ne.symm na_nb173_2) (show ((1 : Int32) + y0) = own_sum (1 : Int32) y0 (0 : Int32) (0 : Int32) from (show own_sum (1 : Int32) y0 (0 : Int32) (0 : Int32) = ((1 : Int32) + y0) from (by unfold own_sum; rw [if_pos (by decide), if_neg (by decide)])).symm)
          · skip
            refine own_ifNo X208 hx (pc' := 488) (hb hby at_485) (feq hc485_212).1 rfl ?_
            refine own_aload X208 hx (pc' := 490) (hb hby at_488) rfl rfl rfl ?_
            refine own_callV X208 hx (pc' := 493) hZ hown (Wd73 hw) (Wd75 hw) (Wd76 hw) (Wd77 hw) (Wd4 hw) (by decide) (rm_bt0 l Z a0 hw [] nb173 T200.heap n0 Z202 Xa) e208 F206 0 (by decide) (by decide) (by decide) (by decide) [] [] (by rw [hml]; rfl) (lenOf pd_4 rfl) rfl rfl (Nat.le_of_eq rfl) (hb hby at_490) rfl (fun v213 T213 L213 X213 hQ213 => ?_)
            obtain ⟨rfl, Nq213, e213⟩ := hQ213
            have N214 := Fr.app N209 Nq213
            show own_G p.tables e below _ T213 (mkF m 493 #[.val (.long p0), .second, .val (.long p1), .second, .val (.long p2), .second, .val (.long p3), .second, .val (.int p4), .val (.int (1 : Int32)), .val (.ref nb1), .val (.ref nb28), .val (.int f12), .val (.int p13), .val (.int f14), .val (.int f15), .val (.int f16), .val (.int bt), .val (.int g18), .val (.int bk), .val (.ref nb173), .val (.int ((1 : Int32) + y0)), .val (.int (1 : Int32)), .val (.int ((1 : Int32) + y0)), .unset, .unset, .unset, .unset, .unset, .unset] [])
            exact JEN nb173 b2 k2 z (1 : Int32) y0 (0 : Int32) (0 : Int32) ((1 : Int32) + y0) (.val (.int (1 : Int32))) (.val (.int ((1 : Int32) + y0))) (.unset) (.unset) (.unset) (.unset) (.unset) (.unset) _ _ _ (X213.more (by decide) (by decide)) e213 N214 Z202 F206 Gc Gu Xa V2 (by decide) hz (Ne.symm na_nb173_2) (show ((1 : Int32) + y0) = own_sum (1 : Int32) y0 (0 : Int32) (0 : Int32) from (show own_sum (1 : Int32) y0 (0 : Int32) (0 : Int32) = ((1 : Int32) + y0) from (by unfold own_sum; rw [if_pos (by decide), if_neg (by decide)])).symm)
        · skip
          refine own_ifNo X208 hx (pc' := 474) (hb hby at_471) (feq hc471_211).1 rfl ?_
          refine own_aload X208 hx (pc' := 476) (hb hby at_474) rfl rfl rfl ?_
          refine own_iload X208 hx (pc' := 478) (hb hby at_476) rfl rfl ?_
          refine own_iload X208 hx (pc' := 480) (hb hby at_478) rfl rfl ?_
          refine own_callV X208 hx (pc' := 483) hZ hown (Wd68 hw) (Wd70 hw) (Wd71 hw) (Wd72 hw) (Wd4 hw) (by decide) (rm_cb0 l Z a0 hw [] nb173 g18 bk T200.heap n0 Z202 Xa) e208 F206 0 (by decide) (by decide) (by decide) (by decide) [(.int g18), (.int bk)] [] (by rw [hml]; rfl) (lenOf pd_5 rfl) rfl rfl (Nat.le_of_eq rfl) (hb hby at_480) rfl (fun v215 T215 L215 X215 hQ215 => ?_)
          obtain ⟨rfl, Nq215, e215⟩ := hQ215
          have N216 := Fr.app N209 Nq215
          show own_G p.tables e below _ T215 (mkF m 483 #[.val (.long p0), .second, .val (.long p1), .second, .val (.long p2), .second, .val (.long p3), .second, .val (.int p4), .val (.int (1 : Int32)), .val (.ref nb1), .val (.ref nb28), .val (.int f12), .val (.int p13), .val (.int f14), .val (.int f15), .val (.int f16), .val (.int bt), .val (.int g18), .val (.int bk), .val (.ref nb173), .val (.int ((1 : Int32) + y0)), .val (.int (1 : Int32)), .val (.int ((1 : Int32) + y0)), .unset, .unset, .unset, .unset, .unset, .unset] [])
          refine own_iload X215 hx (pc' := 485) (hb hby at_483) rfl rfl ?_
          by_cases hc485_217 : f16 = (0 : Int32)
          · skip
            refine own_ifYes X215 hx (pc' := 493) (hb hby at_485) (teq hc485_217).1 (by decide) (by decide) ?_
            exact JEN nb173 b2 k2 z (1 : Int32) y0 (0 : Int32) (0 : Int32) ((1 : Int32) + y0) (.val (.int (1 : Int32))) (.val (.int ((1 : Int32) + y0))) (.unset) (.unset) (.unset) (.unset) (.unset) (.unset) _ _ _ (X215.more (by decide) (by decide)) e215 N216 Z202 F206 Gc Gu Xa V2 (by decide) hz (Ne.symm na_nb173_2) (show ((1 : Int32) + y0) = own_sum (1 : Int32) y0 (0 : Int32) (0 : Int32) from (show own_sum (1 : Int32) y0 (0 : Int32) (0 : Int32) = ((1 : Int32) + y0) from (by unfold own_sum; rw [if_pos (by decide), if_neg (by decide)])).symm)
          · skip
            refine own_ifNo X215 hx (pc' := 488) (hb hby at_485) (feq hc485_217).1 rfl ?_
            refine own_aload X215 hx (pc' := 490) (hb hby at_488) rfl rfl rfl ?_
            refine own_callV X215 hx (pc' := 493) hZ hown (Wd73 hw) (Wd75 hw) (Wd76 hw) (Wd77 hw) (Wd4 hw) (by decide) (rm_bt0 l Z a0 hw [] nb173 T200.heap n0 Z202 Xa) e215 F206 0 (by decide) (by decide) (by decide) (by decide) [] [] (by rw [hml]; rfl) (lenOf pd_4 rfl) rfl rfl (Nat.le_of_eq rfl) (hb hby at_490) rfl (fun v218 T218 L218 X218 hQ218 => ?_)
            obtain ⟨rfl, Nq218, e218⟩ := hQ218
            have N219 := Fr.app N216 Nq218
            show own_G p.tables e below _ T218 (mkF m 493 #[.val (.long p0), .second, .val (.long p1), .second, .val (.long p2), .second, .val (.long p3), .second, .val (.int p4), .val (.int (1 : Int32)), .val (.ref nb1), .val (.ref nb28), .val (.int f12), .val (.int p13), .val (.int f14), .val (.int f15), .val (.int f16), .val (.int bt), .val (.int g18), .val (.int bk), .val (.ref nb173), .val (.int ((1 : Int32) + y0)), .val (.int (1 : Int32)), .val (.int ((1 : Int32) + y0)), .unset, .unset, .unset, .unset, .unset, .unset] [])
            exact JEN nb173 b2 k2 z (1 : Int32) y0 (0 : Int32) (0 : Int32) ((1 : Int32) + y0) (.val (.int (1 : Int32))) (.val (.int ((1 : Int32) + y0))) (.unset) (.unset) (.unset) (.unset) (.unset) (.unset) _ _ _ (X218.more (by decide) (by decide)) e218 N219 Z202 F206 Gc Gu Xa V2 (by decide) hz (Ne.symm na_nb173_2) (show ((1 : Int32) + y0) = own_sum (1 : Int32) y0 (0 : Int32) (0 : Int32) from (show own_sum (1 : Int32) y0 (0 : Int32) (0 : Int32) = ((1 : Int32) + y0) from (by unfold own_sum; rw [if_pos (by decide), if_neg (by decide)])).symm)
      · skip
        refine own_ifNo X208 hx (pc' := 314) (hb hby at_311) (feq hc311_210).1 rfl ?_
        refine own_iload X208 hx (pc' := 316) (hb hby at_314) rfl rfl ?_
        refine own_ifNo X208 hx (pc' := 319) (hb hby at_316) (tlt (by decide : (0 : Int32) < (1 : Int32))).2.2.2 rfl ?_
        refine own_iload X208 hx (pc' := 321) (hb hby at_319) rfl rfl ?_
        refine own_iload X208 hx (pc' := 323) (hb hby at_321) rfl rfl ?_
        refine own_irem X208 hx (pc' := 324) (hb hby at_323) (by decide) rfl ?_
        refine own_istore X208 hx (pc' := 326) (Ls' := #[.val (.long p0), .second, .val (.long p1), .second, .val (.long p2), .second, .val (.long p3), .second, .val (.int p4), .val (.int (1 : Int32)), .val (.ref nb1), .val (.ref nb28), .val (.int f12), .val (.int p13), .val (.int f14), .val (.int f15), .val (.int f16), .val (.int bt), .val (.int g18), .val (.int bk), .val (.ref nb173), .val (.int ((1 : Int32) + y0)), .val (.int (1 : Int32)), .val (.int ((1 : Int32) + y0)), .val (.int (p13 % (1 : Int32))), .unset, .unset, .unset, .unset, .unset]) (hb hby at_324) rfl rfl ?_
        have hpl : (p13 % (1 : Int32)) = (0 : Int32) := by
          have q1 := (c_irem p13 (1 : Int32) 1 (by decide)).1 hp13.1
          simp only [← Int32.toInt_inj, own_t32_0, own_t32_1, own_t32_2, own_t32_3]
          omega
        rw [hpl]
        refine own_aload X208 hx (pc' := 328) (hb hby at_326) rfl rfl rfl ?_
        refine own_iload X208 hx (pc' := 330) (hb hby at_328) rfl rfl ?_
        obtain ⟨cl220, Ar220, q220, S220, M220, H220, G220⟩ := id F205
        refine own_iaload X208 hx (pc' := 331) hZ (v := y0) e208 Ar220 (inb_of S220 ⟨by decide, by decide⟩) (Has.at H220 (inb_of S220 ⟨by decide, by decide⟩) rfl) (hb hby at_330) rfl ?_
        refine own_istore X208 hx (pc' := 333) (Ls' := #[.val (.long p0), .second, .val (.long p1), .second, .val (.long p2), .second, .val (.long p3), .second, .val (.int p4), .val (.int (1 : Int32)), .val (.ref nb1), .val (.ref nb28), .val (.int f12), .val (.int p13), .val (.int f14), .val (.int f15), .val (.int f16), .val (.int bt), .val (.int g18), .val (.int bk), .val (.ref nb173), .val (.int ((1 : Int32) + y0)), .val (.int (1 : Int32)), .val (.int ((1 : Int32) + y0)), .val (.int (0 : Int32)), .val (.int y0), .unset, .unset, .unset, .unset]) (hb hby at_331) rfl rfl ?_
        refine own_aload X208 hx (pc' := 335) (hb hby at_333) rfl rfl rfl ?_
        refine own_iload X208 hx (pc' := 337) (hb hby at_335) rfl rfl ?_
        obtain ⟨cl221, Ar221, q221, S221, M221, H221, G221⟩ := id F204
        refine own_iaload X208 hx (pc' := 338) hZ (v := i0) e208 Ar221 (inb_of S221 ⟨by decide, by decide⟩) (Has.at H221 (inb_of S221 ⟨by decide, by decide⟩) rfl) (hb hby at_337) rfl ?_
        refine own_istore X208 hx (pc' := 340) (Ls' := #[.val (.long p0), .second, .val (.long p1), .second, .val (.long p2), .second, .val (.long p3), .second, .val (.int p4), .val (.int (1 : Int32)), .val (.ref nb1), .val (.ref nb28), .val (.int f12), .val (.int p13), .val (.int f14), .val (.int f15), .val (.int f16), .val (.int bt), .val (.int g18), .val (.int bk), .val (.ref nb173), .val (.int ((1 : Int32) + y0)), .val (.int (1 : Int32)), .val (.int ((1 : Int32) + y0)), .val (.int (0 : Int32)), .val (.int y0), .val (.int i0), .unset, .unset, .unset]) (hb hby at_338) rfl rfl ?_
        refine own_aload X208 hx (pc' := 342) (hb hby at_340) rfl rfl rfl ?_
        refine own_iload X208 hx (pc' := 344) (hb hby at_342) rfl rfl ?_
        refine own_iload X208 hx (pc' := 346) (hb hby at_344) rfl rfl ?_
        have hsum : own_sum (0 : Int32) y0 (0 : Int32) (0 : Int32) = ((1 : Int32) + y0) - y0 := by
          rw [show own_sum (0 : Int32) y0 (0 : Int32) (0 : Int32) = (1 : Int32) from (by unfold own_sum; rw [if_neg (by decide)])]
          have q0 := c_iadd (1 : Int32) y0
          have q1 := rng32 ((1 : Int32) + y0)
          have q2 := c_isub ((1 : Int32) + y0) y0
          have q3 := rng32 (((1 : Int32) + y0) - y0)
          simp only [own_t32_1] at q0 q1 q2 q3
          rw [← Int32.toInt_inj]
          try simp only [own_t32_1]
          omega
        by_cases hR : (1 : Int32) < y0
        · skip
          refine own_callV X208 hx (pc' := 349) hZ hown (Wd57 hw) (Wd59 hw) (Wd60 hw) (Wd61 hw) (Wd4 hw) (by decide) (rm_rsA10 l Z a0 hw [] nb173 b1 b2 b3 k1 k2 k3 z i0 (0 : Int32) (0 : Int32) y0 (0 : Int32) (0 : Int32) (0 : Int32) (0 : Int32) (0 : Int32) nn kn bt T200.heap n0 Z202 hz ge_nb173 ge_b1 ge_b2 ge_b3 dj12 dj13 dj23 hR F206 Gc Gp Gu Gt Xa Xb Xc Xd V1 V2 V3 F203) e208 F206 0 (by decide) (by decide) (by decide) (by decide) [(.int (0 : Int32)), (.int bt)] [] (by rw [hml]; rfl) (lenOf pd_5 rfl) rfl rfl (Nat.le_of_eq rfl) (hb hby at_346) rfl (fun v222 T222 L222 X222 hQ222 => ?_)
          obtain ⟨rfl, Nq222, K222, Gc222, Gu222, Vb222, c1, c2, c3, j1, j2, j3, ⟨hs1, hs2, hs3⟩, ⟨m12, m13, m23⟩, Ha, Hb, Hc, Hd, Va, Vt, Vd⟩ := hQ222
          have N223 := Fr.app N209 Nq222
          have ge_c1 : n0 ≤ c1 := Nat.le_trans Z202 hs1
          have nb2_1 : b2 ≠ c1 := Nat.ne_of_lt (Nat.lt_of_lt_of_le V2.lt hs1)
          have ge_c2 : n0 ≤ c2 := Nat.le_trans Z202 hs2
          have nb2_2 : b2 ≠ c2 := Nat.ne_of_lt (Nat.lt_of_lt_of_le V2.lt hs2)
          have ge_c3 : n0 ≤ c3 := Nat.le_trans Z202 hs3
          have nb2_3 : b2 ≠ c3 := Nat.ne_of_lt (Nat.lt_of_lt_of_le V2.lt hs3)
          have Z224 : n0 ≤ T222.heap.size := Nat.le_trans Z202 K222.1
          have F225 := (Exa.keep F206 K222)
          show own_G p.tables e below _ T222 (mkF m 349 #[.val (.long p0), .second, .val (.long p1), .second, .val (.long p2), .second, .val (.long p3), .second, .val (.int p4), .val (.int (1 : Int32)), .val (.ref nb1), .val (.ref nb28), .val (.int f12), .val (.int p13), .val (.int f14), .val (.int f15), .val (.int f16), .val (.int bt), .val (.int g18), .val (.int bk), .val (.ref nb173), .val (.int ((1 : Int32) + y0)), .val (.int (1 : Int32)), .val (.int ((1 : Int32) + y0)), .val (.int (0 : Int32)), .val (.int y0), .val (.int i0), .unset, .unset, .unset] [])
          exact JA c1 c2 c3 j1 j2 j3 nb173 b2 k2 z (0 : Int32) y0 (0 : Int32) (0 : Int32) (1 : Int32) ((1 : Int32) + y0) (0 : Int32) y0 i0 _ _ _ (X222.more (by decide) (by decide)) rfl N223 Z224 F225 Gc222 Gu222 Ha Hb Hc Hd Va Vt Vd Vb222 (by decide) hz (Ne.symm na_nb173_2) hR hsum ge_nb173 ge_c1 ge_c2 ge_c3 m12 m13 m23 nb2_1 nb2_2 nb2_3
        · skip
          refine own_callV X208 hx (pc' := 349) hZ hown (Wd57 hw) (Wd59 hw) (Wd60 hw) (Wd61 hw) (Wd4 hw) (by decide) (rm_rsN10 l Z a0 hw [] nb173 b1 b2 b3 k1 k2 k3 z i0 (0 : Int32) (0 : Int32) y0 (0 : Int32) (0 : Int32) (0 : Int32) (0 : Int32) (0 : Int32) nn kn bt T200.heap n0 Z202 hz ge_nb173 ge_b1 ge_b2 ge_b3 dj12 dj13 dj23 hR F206 Gc Gp Gu Gt Xa Xb Xc Xd V1 V2 V3 F203) e208 F206 0 (by decide) (by decide) (by decide) (by decide) [(.int (0 : Int32)), (.int bt)] [] (by rw [hml]; rfl) (lenOf pd_5 rfl) rfl rfl (Nat.le_of_eq rfl) (hb hby at_346) rfl (fun v226 T226 L226 X226 hQ226 => ?_)
          obtain ⟨rfl, Nq226, K226, Gc226, Gu226, Vb226, Ha⟩ := hQ226
          have N227 := Fr.app N209 Nq226
          have Z228 : n0 ≤ T226.heap.size := Nat.le_trans Z202 K226.1
          have F229 := (Exa.keep F206 K226)
          show own_G p.tables e below _ T226 (mkF m 349 #[.val (.long p0), .second, .val (.long p1), .second, .val (.long p2), .second, .val (.long p3), .second, .val (.int p4), .val (.int (1 : Int32)), .val (.ref nb1), .val (.ref nb28), .val (.int f12), .val (.int p13), .val (.int f14), .val (.int f15), .val (.int f16), .val (.int bt), .val (.int g18), .val (.int bk), .val (.ref nb173), .val (.int ((1 : Int32) + y0)), .val (.int (1 : Int32)), .val (.int ((1 : Int32) + y0)), .val (.int (0 : Int32)), .val (.int y0), .val (.int i0), .unset, .unset, .unset] [])
          exact JN nb173 b2 k2 z (0 : Int32) y0 (0 : Int32) (0 : Int32) (1 : Int32) ((1 : Int32) + y0) (0 : Int32) y0 i0 _ _ _ (X226.more (by decide) (by decide)) rfl N227 Z228 F229 Gc226 Gu226 Ha Vb226 (by decide) hz (Ne.symm na_nb173_2) hR hsum
    · skip
      show own_G p.tables e below _ T53 (mkF m 175 #[.val (.long p0), .second, .val (.long p1), .second, .val (.long p2), .second, .val (.long p3), .second, .val (.int p4), .val (.int (2 : Int32)), .val (.ref nb1), .val (.ref nb28), .val (.int f12), .val (.int p13), .val (.int f14), .val (.int f15), .val (.int f16), .val (.int bt), .val (.int g18), .val (.int bk), .unset, .unset, .unset, .unset, .unset, .unset, .unset, .unset, .unset, .unset] [])
      refine own_new X53 hx (pc' := 178) hZ hown (Wd2 hw) (Wd3 hw) (Wd4 hw) e53 (hb hby at_175) (by decide) (by decide) rfl (fun T230 h230 nb230 g230 X230 e230 E230 A230 D230 => ?_)
      have ne_nn_nb230_231 : nn ≠ nb230 := Nat.ne_of_lt (Nat.lt_of_lt_of_le F57.lt (Nat.le_of_eq g230.symm))
      have ne_nb1_nb230_232 : nb1 ≠ nb230 := Nat.ne_of_lt (Nat.lt_of_lt_of_le F58.lt (Nat.le_of_eq g230.symm))
      have ne_nb28_nb230_233 : nb28 ≠ nb230 := Nat.ne_of_lt (Nat.lt_of_lt_of_le F59.lt (Nat.le_of_eq g230.symm))
      have ge_nb230 : n0 ≤ nb230 := Nat.le_trans Z55 (Nat.le_of_eq g230.symm)
      have Z234 : n0 ≤ h230.size := Nat.le_trans Z55 E230.1
      have F235 := (Sta.ext E230 F56)
      have F236 := (F57.ext E230)
      have F237 := (F58.ext E230)
      have F238 := (F59.ext E230)
      have F239 : Fld Z h230 nb230 "com/example/rootcast/rootcast/tree/Children" "peers" "[I" .null := D230 (Or.inl (Wd14 hw)) (ty := (.array .int)) (by decide)
      have F240 : Fld Z h230 nb230 "com/example/rootcast/rootcast/tree/Children" "subtree" "[I" .null := D230 (Or.inl (Wd16 hw)) (ty := (.array .int)) (by decide)
      have F241 : Fld Z h230 nb230 "com/example/rootcast/rootcast/tree/Children" "sent" "[I" .null := D230 (Or.inl (Wd18 hw)) (ty := (.array .int)) (by decide)
      have F242 : Fld Z h230 nb230 "com/example/rootcast/rootcast/tree/Children" "stopped" "[I" .null := D230 (Or.inl (Wd20 hw)) (ty := (.array .int)) (by decide)
      have F243 : Fld Z h230 nb230 "com/example/rootcast/rootcast/tree/Children" "toCome" "[I" .null := D230 (Or.inl (Wd22 hw)) (ty := (.array .int)) (by decide)
      have F244 : Fld Z h230 nb230 "com/example/rootcast/rootcast/tree/Children" "beatsLeft" "[I" .null := D230 (Or.inl (Wd24 hw)) (ty := (.array .int)) (by decide)
      have F245 : Fld Z h230 nb230 "com/example/rootcast/rootcast/tree/Children" "degree" "I" (.int (0 : Int32)) := D230 (Or.inr (Wd26 hw)) (ty := .int) (by decide)
      have F246 : Fld Z h230 nb230 "com/example/rootcast/rootcast/tree/Children" "count" "I" (.int (0 : Int32)) := D230 (Or.inl (Wd33 hw)) (ty := .int) (by decide)
      have F247 : Fld Z h230 nb230 "com/example/rootcast/rootcast/tree/Children" "awaited" "I" (.int (0 : Int32)) := D230 (Or.inl (Wd56 hw)) (ty := .int) (by decide)
      refine own_dup X230 hx (pc' := 179) (hb hby at_178) rfl rfl ?_
      refine own_iconst X230 hx (pc' := 180) (3 : Int32) (hb hby at_179) rfl rfl ?_
      refine own_callI X230 hx (pc' := 183) hZ rfl hown (Wd5 hw) (Wd6 hw) (Wd7 hw) (Wd4 hw) (by decide) (rm_init l Z a0 hw [] nb230 nn (3 : Int32) h230 n0 Z234 ge_nb230 A230 F235 F239 F240 F241 F242 F243 F244 F245 F246 F247) e230 (b := nb230) 1 (by decide) (by decide) (by decide) (by decide) [(.int (3 : Int32))] [(.ref nb230)] (by rw [hml]; rfl) (lenOf pd_2 rfl) rfl rfl (Nat.le_of_eq rfl) (hb hby at_180) rfl (fun v248 T248 L248 X248 hQ248 => ?_)
      obtain ⟨rfl, Nq248, K248, G248_peers, G248_subtree, G248_sent, G248_stopped, G248_toCome, G248_beatsLeft, G248_degree, G248_count, G248_awaited⟩ := hQ248
      have N249 := Fr.app N54 Nq248
      have Z250 : n0 ≤ T248.heap.size := Nat.le_trans Z234 K248.1
      have F251 := (F236.keep K248 (ninS ne_nn_nb230_231 nin0))
      have F252 := (F237.keep K248 (ninS ne_nb1_nb230_232 nin0))
      have F253 := (F238.keep K248 (ninS ne_nb28_nb230_233 nin0))
      have F254 := (Exa.keep A230 K248)
      show own_G p.tables e below _ T248 (mkF m 183 #[.val (.long p0), .second, .val (.long p1), .second, .val (.long p2), .second, .val (.long p3), .second, .val (.int p4), .val (.int (2 : Int32)), .val (.ref nb1), .val (.ref nb28), .val (.int f12), .val (.int p13), .val (.int f14), .val (.int f15), .val (.int f16), .val (.int bt), .val (.int g18), .val (.int bk), .unset, .unset, .unset, .unset, .unset, .unset, .unset, .unset, .unset, .unset] [(.ref nb230)])
      refine own_astore X248 hx (pc' := 185) (Ls' := #[.val (.long p0), .second, .val (.long p1), .second, .val (.long p2), .second, .val (.long p3), .second, .val (.int p4), .val (.int (2 : Int32)), .val (.ref nb1), .val (.ref nb28), .val (.int f12), .val (.int p13), .val (.int f14), .val (.int f15), .val (.int f16), .val (.int bt), .val (.int g18), .val (.int bk), .val (.ref nb230), .unset, .unset, .unset, .unset, .unset, .unset, .unset, .unset, .unset]) (hb hby at_183) rfl rfl rfl ?_
      refine own_iload X248 hx (pc' := 187) (hb hby at_185) rfl rfl ?_
      refine own_ifNo X248 hx (pc' := 190) (hb hby at_187) (tlt (by decide : (0 : Int32) < (2 : Int32))).2.2.2 rfl ?_
      refine own_aload X248 hx (pc' := 192) (hb hby at_190) rfl rfl rfl ?_
      refine own_aload X248 hx (pc' := 194) (hb hby at_192) rfl rfl rfl ?_
      refine own_iconst X248 hx (pc' := 195) (0 : Int32) (hb hby at_194) rfl rfl ?_
      obtain ⟨cl255, Ar255, q255, S255, M255, H255, G255⟩ := id F252
      refine own_iaload X248 hx (pc' := 196) hZ (v := i0) rfl Ar255 (inb_of S255 ⟨by decide, by decide⟩) (Has.at H255 (inb_of S255 ⟨by decide, by decide⟩) rfl) (hb hby at_195) rfl ?_
      refine own_aload X248 hx (pc' := 198) (hb hby at_196) rfl rfl rfl ?_
      refine own_iconst X248 hx (pc' := 199) (0 : Int32) (hb hby at_198) rfl rfl ?_
      obtain ⟨cl256, Ar256, q256, S256, M256, H256, G256⟩ := id F253
      refine own_iaload X248 hx (pc' := 200) hZ (v := y0) rfl Ar256 (inb_of S256 ⟨by decide, by decide⟩) (Has.at H256 (inb_of S256 ⟨by decide, by decide⟩) rfl) (hb hby at_199) rfl ?_
      refine own_callV X248 hx (pc' := 203) hZ hown (Wd27 hw) (Wd29 hw) (Wd30 hw) (Wd31 hw) (Wd4 hw) (by decide) (rm_add0 l Z a0 hw [] nb230 nn kn (3 : Int32) i0 y0 nn nn nn (0 : Int32) T248.heap n0 Z250 ge_nb230 (Or.inl (by decide)) F254 G248_count G248_peers G248_subtree G248_sent G248_degree F251 G248_awaited G248_stopped G248_toCome G248_beatsLeft) rfl F254 0 (by decide) (by decide) (by decide) (by decide) [(.int i0), (.int y0)] [] (by rw [hml]; rfl) (lenOf pd_5 rfl) rfl rfl (Nat.le_of_eq rfl) (hb hby at_200) rfl (fun v257 T257 L257 X257 hQ257 => ?_)
      obtain ⟨rfl, Nq257, K257, z, b1, b2, b3, k1, k2, k3, hz, s1, s2, s3, dj12, dj13, dj23, Gc, Gp, Gu, Gt, V1, V2, V3, Xa, Xb, Xc, Xd⟩ := hQ257
      have N258 := Fr.app N249 Nq257
      have ge_b1 : n0 ≤ b1 := Nat.le_trans Z250 s1
      have na_nn_1 : nn ≠ b1 := Nat.ne_of_lt (Nat.lt_of_lt_of_le F251.lt s1)
      have na_nb1_1 : nb1 ≠ b1 := Nat.ne_of_lt (Nat.lt_of_lt_of_le F252.lt s1)
      have na_nb28_1 : nb28 ≠ b1 := Nat.ne_of_lt (Nat.lt_of_lt_of_le F253.lt s1)
      have na_nb230_1 : nb230 ≠ b1 := Nat.ne_of_lt (Nat.lt_of_lt_of_le F254.lt s1)
      have ge_b2 : n0 ≤ b2 := Nat.le_trans Z250 s2
      have na_nn_2 : nn ≠ b2 := Nat.ne_of_lt (Nat.lt_of_lt_of_le F251.lt s2)
      have na_nb1_2 : nb1 ≠ b2 := Nat.ne_of_lt (Nat.lt_of_lt_of_le F252.lt s2)
      have na_nb28_2 : nb28 ≠ b2 := Nat.ne_of_lt (Nat.lt_of_lt_of_le F253.lt s2)
      have na_nb230_2 : nb230 ≠ b2 := Nat.ne_of_lt (Nat.lt_of_lt_of_le F254.lt s2)
      have ge_b3 : n0 ≤ b3 := Nat.le_trans Z250 s3
      have na_nn_3 : nn ≠ b3 := Nat.ne_of_lt (Nat.lt_of_lt_of_le F251.lt s3)
      have na_nb1_3 : nb1 ≠ b3 := Nat.ne_of_lt (Nat.lt_of_lt_of_le F252.lt s3)
      have na_nb28_3 : nb28 ≠ b3 := Nat.ne_of_lt (Nat.lt_of_lt_of_le F253.lt s3)
      have na_nb230_3 : nb230 ≠ b3 := Nat.ne_of_lt (Nat.lt_of_lt_of_le F254.lt s3)
      have Z259 : n0 ≤ T257.heap.size := Nat.le_trans Z250 K257.1
      have F260 := (F251.keep K257 (ninS ne_nn_nb230_231 nin0))
      have F261 := (F252.keep K257 (ninS ne_nb1_nb230_232 nin0))
      have F262 := (F253.keep K257 (ninS ne_nb28_nb230_233 nin0))
      have F263 := (Exa.keep F254 K257)
      show own_G p.tables e below _ T257 (mkF m 203 #[.val (.long p0), .second, .val (.long p1), .second, .val (.long p2), .second, .val (.long p3), .second, .val (.int p4), .val (.int (2 : Int32)), .val (.ref nb1), .val (.ref nb28), .val (.int f12), .val (.int p13), .val (.int f14), .val (.int f15), .val (.int f16), .val (.int bt), .val (.int g18), .val (.int bk), .val (.ref nb230), .unset, .unset, .unset, .unset, .unset, .unset, .unset, .unset, .unset] [])
      refine own_iload X257 hx (pc' := 205) (hb hby at_203) rfl rfl ?_
      refine own_iconst X257 hx (pc' := 206) (1 : Int32) (hb hby at_205) rfl rfl ?_
      refine own_icmpNo X257 hx (pc' := 209) (hb hby at_206) (tlt (by decide : (1 : Int32) < (2 : Int32))).2.2.2 rfl ?_
      refine own_aload X257 hx (pc' := 211) (hb hby at_209) rfl rfl rfl ?_
      refine own_aload X257 hx (pc' := 213) (hb hby at_211) rfl rfl rfl ?_
      refine own_iconst X257 hx (pc' := 214) (1 : Int32) (hb hby at_213) rfl rfl ?_
      obtain ⟨cl264, Ar264, q264, S264, M264, H264, G264⟩ := id F261
      refine own_iaload X257 hx (pc' := 215) hZ (v := i1) rfl Ar264 (inb_of S264 ⟨by decide, by decide⟩) (Has.at H264 (inb_of S264 ⟨by decide, by decide⟩) rfl) (hb hby at_214) rfl ?_
      refine own_aload X257 hx (pc' := 217) (hb hby at_215) rfl rfl rfl ?_
      refine own_iconst X257 hx (pc' := 218) (1 : Int32) (hb hby at_217) rfl rfl ?_
      obtain ⟨cl265, Ar265, q265, S265, M265, H265, G265⟩ := id F262
      refine own_iaload X257 hx (pc' := 219) hZ (v := y1) rfl Ar265 (inb_of S265 ⟨by decide, by decide⟩) (Has.at H265 (inb_of S265 ⟨by decide, by decide⟩) rfl) (hb hby at_218) rfl ?_
      refine own_callV X257 hx (pc' := 222) hZ hown (Wd27 hw) (Wd29 hw) (Wd30 hw) (Wd31 hw) (Wd4 hw) (by decide) (rm_add1 l Z a0 hw [] nb230 b1 b2 b3 k1 k2 k3 z i0 (0 : Int32) (0 : Int32) y0 (0 : Int32) (0 : Int32) (0 : Int32) (0 : Int32) (0 : Int32) i1 y1 nn nn nn (0 : Int32) T257.heap n0 Z259 hz ge_nb230 ge_b1 ge_b2 ge_b3 dj12 dj13 dj23 F263 Gc Gp Gu Gt V1 V2 V3 Xa Xb Xc Xd) rfl F263 0 (by decide) (by decide) (by decide) (by decide) [(.int i1), (.int y1)] [] (by rw [hml]; rfl) (lenOf pd_5 rfl) rfl rfl (Nat.le_of_eq rfl) (hb hby at_219) rfl (fun v266 T266 L266 X266 hQ266 => ?_)
      obtain ⟨rfl, Nq266, K266, Gc266, Gp266, Gu266, Gt266, Va266, Vb266, Vc266, Xa266, Xb266, Xc266, Xd266⟩ := hQ266
      have N267 := Fr.app N258 Nq266
      have Z268 : n0 ≤ T266.heap.size := Nat.le_trans Z259 K266.1
      have F269 := (F260.keep K266 (ninS ne_nn_nb230_231 (ninS na_nn_1 (ninS na_nn_2 (ninS na_nn_3 nin0)))))
      have F270 := (F261.keep K266 (ninS ne_nb1_nb230_232 (ninS na_nb1_1 (ninS na_nb1_2 (ninS na_nb1_3 nin0)))))
      have F271 := (F262.keep K266 (ninS ne_nb28_nb230_233 (ninS na_nb28_1 (ninS na_nb28_2 (ninS na_nb28_3 nin0)))))
      have F272 := (Exa.keep F263 K266)
      show own_G p.tables e below _ T266 (mkF m 222 #[.val (.long p0), .second, .val (.long p1), .second, .val (.long p2), .second, .val (.long p3), .second, .val (.int p4), .val (.int (2 : Int32)), .val (.ref nb1), .val (.ref nb28), .val (.int f12), .val (.int p13), .val (.int f14), .val (.int f15), .val (.int f16), .val (.int bt), .val (.int g18), .val (.int bk), .val (.ref nb230), .unset, .unset, .unset, .unset, .unset, .unset, .unset, .unset, .unset] [])
      refine own_iload X266 hx (pc' := 224) (hb hby at_222) rfl rfl ?_
      refine own_iconst X266 hx (pc' := 225) (2 : Int32) (hb hby at_224) rfl rfl ?_
      refine own_icmpYes X266 hx (pc' := 241) (hb hby at_225) (flt (by decide : ¬ ((2 : Int32) < (2 : Int32)))).2.2.2 (by decide) (by decide) ?_
      refine own_iconst X266 hx (pc' := 242) (1 : Int32) (hb hby at_241) rfl rfl ?_
      refine own_istore X266 hx (pc' := 244) (Ls' := #[.val (.long p0), .second, .val (.long p1), .second, .val (.long p2), .second, .val (.long p3), .second, .val (.int p4), .val (.int (2 : Int32)), .val (.ref nb1), .val (.ref nb28), .val (.int f12), .val (.int p13), .val (.int f14), .val (.int f15), .val (.int f16), .val (.int bt), .val (.int g18), .val (.int bk), .val (.ref nb230), .val (.int (1 : Int32)), .unset, .unset, .unset, .unset, .unset, .unset, .unset, .unset]) (hb hby at_242) rfl rfl ?_
      refine own_iload X266 hx (pc' := 246) (hb hby at_244) rfl rfl ?_
      refine own_ifNo X266 hx (pc' := 249) (hb hby at_246) (tlt (by decide : (0 : Int32) < (2 : Int32))).2.2.2 rfl ?_
      refine own_iload X266 hx (pc' := 251) (hb hby at_249) rfl rfl ?_
      refine own_aload X266 hx (pc' := 253) (hb hby at_251) rfl rfl rfl ?_
      refine own_iconst X266 hx (pc' := 254) (0 : Int32) (hb hby at_253) rfl rfl ?_
      obtain ⟨cl273, Ar273, q273, S273, M273, H273, G273⟩ := id F271
      refine own_iaload X266 hx (pc' := 255) hZ (v := y0) rfl Ar273 (inb_of S273 ⟨by decide, by decide⟩) (Has.at H273 (inb_of S273 ⟨by decide, by decide⟩) rfl) (hb hby at_254) rfl ?_
      refine own_iadd X266 hx (pc' := 256) (hb hby at_255) rfl rfl ?_
      refine own_istore X266 hx (pc' := 258) (Ls' := #[.val (.long p0), .second, .val (.long p1), .second, .val (.long p2), .second, .val (.long p3), .second, .val (.int p4), .val (.int (2 : Int32)), .val (.ref nb1), .val (.ref nb28), .val (.int f12), .val (.int p13), .val (.int f14), .val (.int f15), .val (.int f16), .val (.int bt), .val (.int g18), .val (.int bk), .val (.ref nb230), .val (.int ((1 : Int32) + y0)), .unset, .unset, .unset, .unset, .unset, .unset, .unset, .unset]) (hb hby at_256) rfl rfl ?_
      refine own_iload X266 hx (pc' := 260) (hb hby at_258) rfl rfl ?_
      refine own_iconst X266 hx (pc' := 261) (1 : Int32) (hb hby at_260) rfl rfl ?_
      refine own_icmpNo X266 hx (pc' := 264) (hb hby at_261) (tlt (by decide : (1 : Int32) < (2 : Int32))).2.2.2 rfl ?_
      refine own_iload X266 hx (pc' := 266) (hb hby at_264) rfl rfl ?_
      refine own_aload X266 hx (pc' := 268) (hb hby at_266) rfl rfl rfl ?_
      refine own_iconst X266 hx (pc' := 269) (1 : Int32) (hb hby at_268) rfl rfl ?_
      obtain ⟨cl274, Ar274, q274, S274, M274, H274, G274⟩ := id F271
      refine own_iaload X266 hx (pc' := 270) hZ (v := y1) rfl Ar274 (inb_of S274 ⟨by decide, by decide⟩) (Has.at H274 (inb_of S274 ⟨by decide, by decide⟩) rfl) (hb hby at_269) rfl ?_
      refine own_iadd X266 hx (pc' := 271) (hb hby at_270) rfl rfl ?_
      refine own_istore X266 hx (pc' := 273) (Ls' := #[.val (.long p0), .second, .val (.long p1), .second, .val (.long p2), .second, .val (.long p3), .second, .val (.int p4), .val (.int (2 : Int32)), .val (.ref nb1), .val (.ref nb28), .val (.int f12), .val (.int p13), .val (.int f14), .val (.int f15), .val (.int f16), .val (.int bt), .val (.int g18), .val (.int bk), .val (.ref nb230), .val (.int (((1 : Int32) + y0) + y1)), .unset, .unset, .unset, .unset, .unset, .unset, .unset, .unset]) (hb hby at_271) rfl rfl ?_
      refine own_iload X266 hx (pc' := 275) (hb hby at_273) rfl rfl ?_
      refine own_iconst X266 hx (pc' := 276) (2 : Int32) (hb hby at_275) rfl rfl ?_
      refine own_icmpYes X266 hx (pc' := 288) (hb hby at_276) (flt (by decide : ¬ ((2 : Int32) < (2 : Int32)))).2.2.2 (by decide) (by decide) ?_
      refine own_aload X266 hx (pc' := 290) (hb hby at_288) rfl rfl rfl ?_
      refine own_callV X266 hx (pc' := 293) hZ hown (Wd50 hw) (Wd52 hw) (Wd53 hw) (Wd54 hw) (Wd4 hw) (by decide) (rm_peN l Z a0 hw [] nb230 b2 nn k2 kn z (4 : Int32) (2 : Int32) y0 y1 (0 : Int32) (0 : Int32) T266.heap n0 Z268 (by decide) hz (Or.inr (by decide)) Gc266 Gu266 Xa266 Vb266) rfl F272 0 (by decide) (by decide) (by decide) (by decide) [] [] (by rw [hml]; rfl) (lenOf pd_3 rfl) rfl rfl (Nat.le_of_eq rfl) (hb hby at_290) rfl (fun v275 T275 L275 X275 hQ275 => ?_)
      obtain ⟨rfl, Nq275, e275⟩ := hQ275
      have N276 := Fr.app N267 Nq275
      show own_G p.tables e below _ T275 (mkF m 293 #[.val (.long p0), .second, .val (.long p1), .second, .val (.long p2), .second, .val (.long p3), .second, .val (.int p4), .val (.int (2 : Int32)), .val (.ref nb1), .val (.ref nb28), .val (.int f12), .val (.int p13), .val (.int f14), .val (.int f15), .val (.int f16), .val (.int bt), .val (.int g18), .val (.int bk), .val (.ref nb230), .val (.int (((1 : Int32) + y0) + y1)), .unset, .unset, .unset, .unset, .unset, .unset, .unset, .unset] [(.int (own_sum (2 : Int32) y0 y1 (0 : Int32)))])
      rw [show own_sum (2 : Int32) y0 y1 (0 : Int32) = (((1 : Int32) + y0) + y1) from (by unfold own_sum; rw [if_pos (by decide), if_pos (by decide), if_neg (by decide)])]
      refine own_iload X275 hx (pc' := 295) (hb hby at_293) rfl rfl ?_
      refine own_icmpNo X275 hx (pc' := 298) (hb hby at_295) (teq rfl).2 rfl ?_
      refine own_iconst X275 hx (pc' := 299) (1 : Int32) (hb hby at_298) rfl rfl ?_
      refine own_goto X275 hx (pc' := 303) (hb hby at_299) (by decide) (by decide) ?_
      refine own_istore X275 hx (pc' := 305) (Ls' := #[.val (.long p0), .second, .val (.long p1), .second, .val (.long p2), .second, .val (.long p3), .second, .val (.int p4), .val (.int (2 : Int32)), .val (.ref nb1), .val (.ref nb28), .val (.int f12), .val (.int p13), .val (.int f14), .val (.int f15), .val (.int f16), .val (.int bt), .val (.int g18), .val (.int bk), .val (.ref nb230), .val (.int (((1 : Int32) + y0) + y1)), .val (.int (1 : Int32)), .unset, .unset, .unset, .unset, .unset, .unset, .unset]) (hb hby at_303) rfl rfl ?_
      refine own_iload X275 hx (pc' := 307) (hb hby at_305) rfl rfl ?_
      refine own_istore X275 hx (pc' := 309) (Ls' := #[.val (.long p0), .second, .val (.long p1), .second, .val (.long p2), .second, .val (.long p3), .second, .val (.int p4), .val (.int (2 : Int32)), .val (.ref nb1), .val (.ref nb28), .val (.int f12), .val (.int p13), .val (.int f14), .val (.int f15), .val (.int f16), .val (.int bt), .val (.int g18), .val (.int bk), .val (.ref nb230), .val (.int (((1 : Int32) + y0) + y1)), .val (.int (1 : Int32)), .val (.int (((1 : Int32) + y0) + y1)), .unset, .unset, .unset, .unset, .unset, .unset]) (hb hby at_307) rfl rfl ?_
      refine own_iload X275 hx (pc' := 311) (hb hby at_309) rfl rfl ?_
      by_cases hc311_277 : f12 = (0 : Int32)
      · skip
        refine own_ifYes X275 hx (pc' := 469) (hb hby at_311) (teq hc311_277).1 (by decide) (by decide) ?_
        refine own_iload X275 hx (pc' := 471) (hb hby at_469) rfl rfl ?_
        by_cases hc471_278 : f14 = (0 : Int32)
        · skip
          refine own_ifYes X275 hx (pc' := 483) (hb hby at_471) (teq hc471_278).1 (by decide) (by decide) ?_
          refine own_iload X275 hx (pc' := 485) (hb hby at_483) rfl rfl ?_
          by_cases hc485_279 : f16 = (0 : Int32)
          · skip
            refine own_ifYes X275 hx (pc' := 493) (hb hby at_485) (teq hc485_279).1 (by decide) (by decide) ?_
            exact JEN nb230 b2 k2 z (2 : Int32) y0 y1 (0 : Int32) (((1 : Int32) + y0) + y1) (.val (.int (2 : Int32))) (.val (.int (((1 : Int32) + y0) + y1))) (.unset) (.unset) (.unset) (.unset) (.unset) (.unset) _ _ _ (X275.more (by decide) (by decide)) e275 N276 Z268 F272 Gc266 Gu266 Xa266 Vb266 (by decide) hz (Ne.symm na_nb230_2) (show (((1 : Int32) + y0) + y1) = own_sum (2 : Int32) y0 y1 (0 : Int32) from (show own_sum (2 : Int32) y0 y1 (0 : Int32) = (((1 : Int32) + y0) + y1) from (by unfold own_sum; rw [if_pos (by decide), if_pos (by decide), if_neg (by decide)])).symm)
          · skip
            refine own_ifNo X275 hx (pc' := 488) (hb hby at_485) (feq hc485_279).1 rfl ?_
            refine own_aload X275 hx (pc' := 490) (hb hby at_488) rfl rfl rfl ?_
            refine own_callV X275 hx (pc' := 493) hZ hown (Wd73 hw) (Wd75 hw) (Wd76 hw) (Wd77 hw) (Wd4 hw) (by decide) (rm_bt0 l Z a0 hw [] nb230 T266.heap n0 Z268 Xa266) e275 F272 0 (by decide) (by decide) (by decide) (by decide) [] [] (by rw [hml]; rfl) (lenOf pd_4 rfl) rfl rfl (Nat.le_of_eq rfl) (hb hby at_490) rfl (fun v280 T280 L280 X280 hQ280 => ?_)
            obtain ⟨rfl, Nq280, e280⟩ := hQ280
            have N281 := Fr.app N276 Nq280
            show own_G p.tables e below _ T280 (mkF m 493 #[.val (.long p0), .second, .val (.long p1), .second, .val (.long p2), .second, .val (.long p3), .second, .val (.int p4), .val (.int (2 : Int32)), .val (.ref nb1), .val (.ref nb28), .val (.int f12), .val (.int p13), .val (.int f14), .val (.int f15), .val (.int f16), .val (.int bt), .val (.int g18), .val (.int bk), .val (.ref nb230), .val (.int (((1 : Int32) + y0) + y1)), .val (.int (1 : Int32)), .val (.int (((1 : Int32) + y0) + y1)), .unset, .unset, .unset, .unset, .unset, .unset] [])
            exact JEN nb230 b2 k2 z (2 : Int32) y0 y1 (0 : Int32) (((1 : Int32) + y0) + y1) (.val (.int (2 : Int32))) (.val (.int (((1 : Int32) + y0) + y1))) (.unset) (.unset) (.unset) (.unset) (.unset) (.unset) _ _ _ (X280.more (by decide) (by decide)) e280 N281 Z268 F272 Gc266 Gu266 Xa266 Vb266 (by decide) hz (Ne.symm na_nb230_2) (show (((1 : Int32) + y0) + y1) = own_sum (2 : Int32) y0 y1 (0 : Int32) from (show own_sum (2 : Int32) y0 y1 (0 : Int32) = (((1 : Int32) + y0) + y1) from (by unfold own_sum; rw [if_pos (by decide), if_pos (by decide), if_neg (by decide)])).symm)
        · skip
          refine own_ifNo X275 hx (pc' := 474) (hb hby at_471) (feq hc471_278).1 rfl ?_
          refine own_aload X275 hx (pc' := 476) (hb hby at_474) rfl rfl rfl ?_
          refine own_iload X275 hx (pc' := 478) (hb hby at_476) rfl rfl ?_
          refine own_iload X275 hx (pc' := 480) (hb hby at_478) rfl rfl ?_
          refine own_callV X275 hx (pc' := 483) hZ hown (Wd68 hw) (Wd70 hw) (Wd71 hw) (Wd72 hw) (Wd4 hw) (by decide) (rm_cb0 l Z a0 hw [] nb230 g18 bk T266.heap n0 Z268 Xa266) e275 F272 0 (by decide) (by decide) (by decide) (by decide) [(.int g18), (.int bk)] [] (by rw [hml]; rfl) (lenOf pd_5 rfl) rfl rfl (Nat.le_of_eq rfl) (hb hby at_480) rfl (fun v282 T282 L282 X282 hQ282 => ?_)
          obtain ⟨rfl, Nq282, e282⟩ := hQ282
          have N283 := Fr.app N276 Nq282
          show own_G p.tables e below _ T282 (mkF m 483 #[.val (.long p0), .second, .val (.long p1), .second, .val (.long p2), .second, .val (.long p3), .second, .val (.int p4), .val (.int (2 : Int32)), .val (.ref nb1), .val (.ref nb28), .val (.int f12), .val (.int p13), .val (.int f14), .val (.int f15), .val (.int f16), .val (.int bt), .val (.int g18), .val (.int bk), .val (.ref nb230), .val (.int (((1 : Int32) + y0) + y1)), .val (.int (1 : Int32)), .val (.int (((1 : Int32) + y0) + y1)), .unset, .unset, .unset, .unset, .unset, .unset] [])
          refine own_iload X282 hx (pc' := 485) (hb hby at_483) rfl rfl ?_
          by_cases hc485_284 : f16 = (0 : Int32)
          · skip
            refine own_ifYes X282 hx (pc' := 493) (hb hby at_485) (teq hc485_284).1 (by decide) (by decide) ?_
            exact JEN nb230 b2 k2 z (2 : Int32) y0 y1 (0 : Int32) (((1 : Int32) + y0) + y1) (.val (.int (2 : Int32))) (.val (.int (((1 : Int32) + y0) + y1))) (.unset) (.unset) (.unset) (.unset) (.unset) (.unset) _ _ _ (X282.more (by decide) (by decide)) e282 N283 Z268 F272 Gc266 Gu266 Xa266 Vb266 (by decide) hz (Ne.symm na_nb230_2) (show (((1 : Int32) + y0) + y1) = own_sum (2 : Int32) y0 y1 (0 : Int32) from (show own_sum (2 : Int32) y0 y1 (0 : Int32) = (((1 : Int32) + y0) + y1) from (by unfold own_sum; rw [if_pos (by decide), if_pos (by decide), if_neg (by decide)])).symm)
          · skip
            refine own_ifNo X282 hx (pc' := 488) (hb hby at_485) (feq hc485_284).1 rfl ?_
            refine own_aload X282 hx (pc' := 490) (hb hby at_488) rfl rfl rfl ?_
            refine own_callV X282 hx (pc' := 493) hZ hown (Wd73 hw) (Wd75 hw) (Wd76 hw) (Wd77 hw) (Wd4 hw) (by decide) (rm_bt0 l Z a0 hw [] nb230 T266.heap n0 Z268 Xa266) e282 F272 0 (by decide) (by decide) (by decide) (by decide) [] [] (by rw [hml]; rfl) (lenOf pd_4 rfl) rfl rfl (Nat.le_of_eq rfl) (hb hby at_490) rfl (fun v285 T285 L285 X285 hQ285 => ?_)
            obtain ⟨rfl, Nq285, e285⟩ := hQ285
            have N286 := Fr.app N283 Nq285
            show own_G p.tables e below _ T285 (mkF m 493 #[.val (.long p0), .second, .val (.long p1), .second, .val (.long p2), .second, .val (.long p3), .second, .val (.int p4), .val (.int (2 : Int32)), .val (.ref nb1), .val (.ref nb28), .val (.int f12), .val (.int p13), .val (.int f14), .val (.int f15), .val (.int f16), .val (.int bt), .val (.int g18), .val (.int bk), .val (.ref nb230), .val (.int (((1 : Int32) + y0) + y1)), .val (.int (1 : Int32)), .val (.int (((1 : Int32) + y0) + y1)), .unset, .unset, .unset, .unset, .unset, .unset] [])
            exact JEN nb230 b2 k2 z (2 : Int32) y0 y1 (0 : Int32) (((1 : Int32) + y0) + y1) (.val (.int (2 : Int32))) (.val (.int (((1 : Int32) + y0) + y1))) (.unset) (.unset) (.unset) (.unset) (.unset) (.unset) _ _ _ (X285.more (by decide) (by decide)) e285 N286 Z268 F272 Gc266 Gu266 Xa266 Vb266 (by decide) hz (Ne.symm na_nb230_2) (show (((1 : Int32) + y0) + y1) = own_sum (2 : Int32) y0 y1 (0 : Int32) from (show own_sum (2 : Int32) y0 y1 (0 : Int32) = (((1 : Int32) + y0) + y1) from (by unfold own_sum; rw [if_pos (by decide), if_pos (by decide), if_neg (by decide)])).symm)
      · skip
        refine own_ifNo X275 hx (pc' := 314) (hb hby at_311) (feq hc311_277).1 rfl ?_
        refine own_iload X275 hx (pc' := 316) (hb hby at_314) rfl rfl ?_
        refine own_ifNo X275 hx (pc' := 319) (hb hby at_316) (tlt (by decide : (0 : Int32) < (2 : Int32))).2.2.2 rfl ?_
        refine own_iload X275 hx (pc' := 321) (hb hby at_319) rfl rfl ?_
        refine own_iload X275 hx (pc' := 323) (hb hby at_321) rfl rfl ?_
        refine own_irem X275 hx (pc' := 324) (hb hby at_323) (by decide) rfl ?_
        refine own_istore X275 hx (pc' := 326) (Ls' := #[.val (.long p0), .second, .val (.long p1), .second, .val (.long p2), .second, .val (.long p3), .second, .val (.int p4), .val (.int (2 : Int32)), .val (.ref nb1), .val (.ref nb28), .val (.int f12), .val (.int p13), .val (.int f14), .val (.int f15), .val (.int f16), .val (.int bt), .val (.int g18), .val (.int bk), .val (.ref nb230), .val (.int (((1 : Int32) + y0) + y1)), .val (.int (1 : Int32)), .val (.int (((1 : Int32) + y0) + y1)), .val (.int (p13 % (2 : Int32))), .unset, .unset, .unset, .unset, .unset]) (hb hby at_324) rfl rfl ?_
        have hpl : (p13 % (2 : Int32)) = (0 : Int32) ∨ (p13 % (2 : Int32)) = (1 : Int32) := by
          have q1 := (c_irem p13 (2 : Int32) 2 (by decide)).1 hp13.1
          simp only [← Int32.toInt_inj, own_t32_0, own_t32_1, own_t32_2, own_t32_3]
          omega
        rcases hpl with hpl | hpl
        · rw [hpl]
          refine own_aload X275 hx (pc' := 328) (hb hby at_326) rfl rfl rfl ?_
          refine own_iload X275 hx (pc' := 330) (hb hby at_328) rfl rfl ?_
          obtain ⟨cl287, Ar287, q287, S287, M287, H287, G287⟩ := id F271
          refine own_iaload X275 hx (pc' := 331) hZ (v := y0) e275 Ar287 (inb_of S287 ⟨by decide, by decide⟩) (Has.at H287 (inb_of S287 ⟨by decide, by decide⟩) rfl) (hb hby at_330) rfl ?_
          refine own_istore X275 hx (pc' := 333) (Ls' := #[.val (.long p0), .second, .val (.long p1), .second, .val (.long p2), .second, .val (.long p3), .second, .val (.int p4), .val (.int (2 : Int32)), .val (.ref nb1), .val (.ref nb28), .val (.int f12), .val (.int p13), .val (.int f14), .val (.int f15), .val (.int f16), .val (.int bt), .val (.int g18), .val (.int bk), .val (.ref nb230), .val (.int (((1 : Int32) + y0) + y1)), .val (.int (1 : Int32)), .val (.int (((1 : Int32) + y0) + y1)), .val (.int (0 : Int32)), .val (.int y0), .unset, .unset, .unset, .unset]) (hb hby at_331) rfl rfl ?_
          refine own_aload X275 hx (pc' := 335) (hb hby at_333) rfl rfl rfl ?_
          refine own_iload X275 hx (pc' := 337) (hb hby at_335) rfl rfl ?_
          obtain ⟨cl288, Ar288, q288, S288, M288, H288, G288⟩ := id F270
          refine own_iaload X275 hx (pc' := 338) hZ (v := i0) e275 Ar288 (inb_of S288 ⟨by decide, by decide⟩) (Has.at H288 (inb_of S288 ⟨by decide, by decide⟩) rfl) (hb hby at_337) rfl ?_
          refine own_istore X275 hx (pc' := 340) (Ls' := #[.val (.long p0), .second, .val (.long p1), .second, .val (.long p2), .second, .val (.long p3), .second, .val (.int p4), .val (.int (2 : Int32)), .val (.ref nb1), .val (.ref nb28), .val (.int f12), .val (.int p13), .val (.int f14), .val (.int f15), .val (.int f16), .val (.int bt), .val (.int g18), .val (.int bk), .val (.ref nb230), .val (.int (((1 : Int32) + y0) + y1)), .val (.int (1 : Int32)), .val (.int (((1 : Int32) + y0) + y1)), .val (.int (0 : Int32)), .val (.int y0), .val (.int i0), .unset, .unset, .unset]) (hb hby at_338) rfl rfl ?_
          refine own_aload X275 hx (pc' := 342) (hb hby at_340) rfl rfl rfl ?_
          refine own_iload X275 hx (pc' := 344) (hb hby at_342) rfl rfl ?_
          refine own_iload X275 hx (pc' := 346) (hb hby at_344) rfl rfl ?_
          have hsum : own_sum (1 : Int32) y1 y1 (0 : Int32) = (((1 : Int32) + y0) + y1) - y0 := by
            rw [show own_sum (1 : Int32) y1 y1 (0 : Int32) = ((1 : Int32) + y1) from (by unfold own_sum; rw [if_pos (by decide), if_neg (by decide)])]
            have q0 := c_iadd (1 : Int32) y0
            have q1 := rng32 ((1 : Int32) + y0)
            have q2 := c_iadd ((1 : Int32) + y0) y1
            have q3 := rng32 (((1 : Int32) + y0) + y1)
            have q4 := c_iadd (1 : Int32) y1
            have q5 := rng32 ((1 : Int32) + y1)
            have q6 := c_isub (((1 : Int32) + y0) + y1) y0
            have q7 := rng32 ((((1 : Int32) + y0) + y1) - y0)
            simp only [own_t32_1] at q0 q1 q2 q3 q4 q5 q6 q7
            rw [← Int32.toInt_inj]
            try simp only [own_t32_1]
            omega
          by_cases hR : (1 : Int32) < y0
          · skip
            refine own_callV X275 hx (pc' := 349) hZ hown (Wd57 hw) (Wd59 hw) (Wd60 hw) (Wd61 hw) (Wd4 hw) (by decide) (rm_rsA20 l Z a0 hw [] nb230 b1 b2 b3 k1 k2 k3 z i0 i1 (0 : Int32) y0 y1 (0 : Int32) (0 : Int32) (0 : Int32) (0 : Int32) nn kn bt T266.heap n0 Z268 hz ge_nb230 ge_b1 ge_b2 ge_b3 dj12 dj13 dj23 hR F272 Gc266 Gp266 Gu266 Gt266 Xa266 Xb266 Xc266 Xd266 Va266 Vb266 Vc266 F269) e275 F272 0 (by decide) (by decide) (by decide) (by decide) [(.int (0 : Int32)), (.int bt)] [] (by rw [hml]; rfl) (lenOf pd_5 rfl) rfl rfl (Nat.le_of_eq rfl) (hb hby at_346) rfl (fun v289 T289 L289 X289 hQ289 => ?_)
            obtain ⟨rfl, Nq289, K289, Gc289, Gu289, Vb289, c1, c2, c3, j1, j2, j3, ⟨hs1, hs2, hs3⟩, ⟨m12, m13, m23⟩, Ha, Hb, Hc, Hd, Va, Vt, Vd⟩ := hQ289
            have N290 := Fr.app N276 Nq289
            have ge_c1 : n0 ≤ c1 := Nat.le_trans Z268 hs1
            have nb2_1 : b2 ≠ c1 := Nat.ne_of_lt (Nat.lt_of_lt_of_le Vb266.lt hs1)
            have ge_c2 : n0 ≤ c2 := Nat.le_trans Z268 hs2
            have nb2_2 : b2 ≠ c2 := Nat.ne_of_lt (Nat.lt_of_lt_of_le Vb266.lt hs2)
            have ge_c3 : n0 ≤ c3 := Nat.le_trans Z268 hs3
            have nb2_3 : b2 ≠ c3 := Nat.ne_of_lt (Nat.lt_of_lt_of_le Vb266.lt hs3)
            have Z291 : n0 ≤ T289.heap.size := Nat.le_trans Z268 K289.1
            have F292 := (Exa.keep F272 K289)
            show own_G p.tables e below _ T289 (mkF m 349 #[.val (.long p0), .second, .val (.long p1), .second, .val (.long p2), .second, .val (.long p3), .second, .val (.int p4), .val (.int (2 : Int32)), .val (.ref nb1), .val (.ref nb28), .val (.int f12), .val (.int p13), .val (.int f14), .val (.int f15), .val (.int f16), .val (.int bt), .val (.int g18), .val (.int bk), .val (.ref nb230), .val (.int (((1 : Int32) + y0) + y1)), .val (.int (1 : Int32)), .val (.int (((1 : Int32) + y0) + y1)), .val (.int (0 : Int32)), .val (.int y0), .val (.int i0), .unset, .unset, .unset] [])
            exact JA c1 c2 c3 j1 j2 j3 nb230 b2 k2 z (1 : Int32) y1 y1 (0 : Int32) (2 : Int32) (((1 : Int32) + y0) + y1) (0 : Int32) y0 i0 _ _ _ (X289.more (by decide) (by decide)) rfl N290 Z291 F292 Gc289 Gu289 Ha Hb Hc Hd Va Vt Vd Vb289 (by decide) hz (Ne.symm na_nb230_2) hR hsum ge_nb230 ge_c1 ge_c2 ge_c3 m12 m13 m23 nb2_1 nb2_2 nb2_3
          · skip
            refine own_callV X275 hx (pc' := 349) hZ hown (Wd57 hw) (Wd59 hw) (Wd60 hw) (Wd61 hw) (Wd4 hw) (by decide) (rm_rsN20 l Z a0 hw [] nb230 b1 b2 b3 k1 k2 k3 z i0 i1 (0 : Int32) y0 y1 (0 : Int32) (0 : Int32) (0 : Int32) (0 : Int32) nn kn bt T266.heap n0 Z268 hz ge_nb230 ge_b1 ge_b2 ge_b3 dj12 dj13 dj23 hR F272 Gc266 Gp266 Gu266 Gt266 Xa266 Xb266 Xc266 Xd266 Va266 Vb266 Vc266 F269) e275 F272 0 (by decide) (by decide) (by decide) (by decide) [(.int (0 : Int32)), (.int bt)] [] (by rw [hml]; rfl) (lenOf pd_5 rfl) rfl rfl (Nat.le_of_eq rfl) (hb hby at_346) rfl (fun v293 T293 L293 X293 hQ293 => ?_)
            obtain ⟨rfl, Nq293, K293, Gc293, Gu293, Vb293, Ha⟩ := hQ293
            have N294 := Fr.app N276 Nq293
            have Z295 : n0 ≤ T293.heap.size := Nat.le_trans Z268 K293.1
            have F296 := (Exa.keep F272 K293)
            show own_G p.tables e below _ T293 (mkF m 349 #[.val (.long p0), .second, .val (.long p1), .second, .val (.long p2), .second, .val (.long p3), .second, .val (.int p4), .val (.int (2 : Int32)), .val (.ref nb1), .val (.ref nb28), .val (.int f12), .val (.int p13), .val (.int f14), .val (.int f15), .val (.int f16), .val (.int bt), .val (.int g18), .val (.int bk), .val (.ref nb230), .val (.int (((1 : Int32) + y0) + y1)), .val (.int (1 : Int32)), .val (.int (((1 : Int32) + y0) + y1)), .val (.int (0 : Int32)), .val (.int y0), .val (.int i0), .unset, .unset, .unset] [])
            exact JN nb230 b2 k2 z (1 : Int32) y1 y1 (0 : Int32) (2 : Int32) (((1 : Int32) + y0) + y1) (0 : Int32) y0 i0 _ _ _ (X293.more (by decide) (by decide)) rfl N294 Z295 F296 Gc293 Gu293 Ha Vb293 (by decide) hz (Ne.symm na_nb230_2) hR hsum
        · rw [hpl]
          refine own_aload X275 hx (pc' := 328) (hb hby at_326) rfl rfl rfl ?_
          refine own_iload X275 hx (pc' := 330) (hb hby at_328) rfl rfl ?_
          obtain ⟨cl297, Ar297, q297, S297, M297, H297, G297⟩ := id F271
          refine own_iaload X275 hx (pc' := 331) hZ (v := y1) e275 Ar297 (inb_of S297 ⟨by decide, by decide⟩) (Has.at H297 (inb_of S297 ⟨by decide, by decide⟩) rfl) (hb hby at_330) rfl ?_
          refine own_istore X275 hx (pc' := 333) (Ls' := #[.val (.long p0), .second, .val (.long p1), .second, .val (.long p2), .second, .val (.long p3), .second, .val (.int p4), .val (.int (2 : Int32)), .val (.ref nb1), .val (.ref nb28), .val (.int f12), .val (.int p13), .val (.int f14), .val (.int f15), .val (.int f16), .val (.int bt), .val (.int g18), .val (.int bk), .val (.ref nb230), .val (.int (((1 : Int32) + y0) + y1)), .val (.int (1 : Int32)), .val (.int (((1 : Int32) + y0) + y1)), .val (.int (1 : Int32)), .val (.int y1), .unset, .unset, .unset, .unset]) (hb hby at_331) rfl rfl ?_
          refine own_aload X275 hx (pc' := 335) (hb hby at_333) rfl rfl rfl ?_
          refine own_iload X275 hx (pc' := 337) (hb hby at_335) rfl rfl ?_
          obtain ⟨cl298, Ar298, q298, S298, M298, H298, G298⟩ := id F270
          refine own_iaload X275 hx (pc' := 338) hZ (v := i1) e275 Ar298 (inb_of S298 ⟨by decide, by decide⟩) (Has.at H298 (inb_of S298 ⟨by decide, by decide⟩) rfl) (hb hby at_337) rfl ?_
          refine own_istore X275 hx (pc' := 340) (Ls' := #[.val (.long p0), .second, .val (.long p1), .second, .val (.long p2), .second, .val (.long p3), .second, .val (.int p4), .val (.int (2 : Int32)), .val (.ref nb1), .val (.ref nb28), .val (.int f12), .val (.int p13), .val (.int f14), .val (.int f15), .val (.int f16), .val (.int bt), .val (.int g18), .val (.int bk), .val (.ref nb230), .val (.int (((1 : Int32) + y0) + y1)), .val (.int (1 : Int32)), .val (.int (((1 : Int32) + y0) + y1)), .val (.int (1 : Int32)), .val (.int y1), .val (.int i1), .unset, .unset, .unset]) (hb hby at_338) rfl rfl ?_
          refine own_aload X275 hx (pc' := 342) (hb hby at_340) rfl rfl rfl ?_
          refine own_iload X275 hx (pc' := 344) (hb hby at_342) rfl rfl ?_
          refine own_iload X275 hx (pc' := 346) (hb hby at_344) rfl rfl ?_
          have hsum : own_sum (1 : Int32) y0 y1 (0 : Int32) = (((1 : Int32) + y0) + y1) - y1 := by
            rw [show own_sum (1 : Int32) y0 y1 (0 : Int32) = ((1 : Int32) + y0) from (by unfold own_sum; rw [if_pos (by decide), if_neg (by decide)])]
            have q0 := c_iadd (1 : Int32) y0
            have q1 := rng32 ((1 : Int32) + y0)
            have q2 := c_iadd ((1 : Int32) + y0) y1
            have q3 := rng32 (((1 : Int32) + y0) + y1)
            have q4 := c_iadd (1 : Int32) y0
            have q5 := rng32 ((1 : Int32) + y0)
            have q6 := c_isub (((1 : Int32) + y0) + y1) y1
            have q7 := rng32 ((((1 : Int32) + y0) + y1) - y1)
            simp only [own_t32_1] at q0 q1 q2 q3 q4 q5 q6 q7
            rw [← Int32.toInt_inj]
            try simp only [own_t32_1]
            omega
          by_cases hR : (1 : Int32) < y1
          · skip
            refine own_callV X275 hx (pc' := 349) hZ hown (Wd57 hw) (Wd59 hw) (Wd60 hw) (Wd61 hw) (Wd4 hw) (by decide) (rm_rsA21 l Z a0 hw [] nb230 b1 b2 b3 k1 k2 k3 z i0 i1 (0 : Int32) y0 y1 (0 : Int32) (0 : Int32) (0 : Int32) (0 : Int32) nn kn bt T266.heap n0 Z268 hz ge_nb230 ge_b1 ge_b2 ge_b3 dj12 dj13 dj23 hR F272 Gc266 Gp266 Gu266 Gt266 Xa266 Xb266 Xc266 Xd266 Va266 Vb266 Vc266 F269) e275 F272 0 (by decide) (by decide) (by decide) (by decide) [(.int (1 : Int32)), (.int bt)] [] (by rw [hml]; rfl) (lenOf pd_5 rfl) rfl rfl (Nat.le_of_eq rfl) (hb hby at_346) rfl (fun v299 T299 L299 X299 hQ299 => ?_)
            obtain ⟨rfl, Nq299, K299, Gc299, Gu299, Vb299, c1, c2, c3, j1, j2, j3, ⟨hs1, hs2, hs3⟩, ⟨m12, m13, m23⟩, Ha, Hb, Hc, Hd, Va, Vt, Vd⟩ := hQ299
            have N300 := Fr.app N276 Nq299
            have ge_c1 : n0 ≤ c1 := Nat.le_trans Z268 hs1
            have nb2_1 : b2 ≠ c1 := Nat.ne_of_lt (Nat.lt_of_lt_of_le Vb266.lt hs1)
            have ge_c2 : n0 ≤ c2 := Nat.le_trans Z268 hs2
            have nb2_2 : b2 ≠ c2 := Nat.ne_of_lt (Nat.lt_of_lt_of_le Vb266.lt hs2)
            have ge_c3 : n0 ≤ c3 := Nat.le_trans Z268 hs3
            have nb2_3 : b2 ≠ c3 := Nat.ne_of_lt (Nat.lt_of_lt_of_le Vb266.lt hs3)
            have Z301 : n0 ≤ T299.heap.size := Nat.le_trans Z268 K299.1
            have F302 := (Exa.keep F272 K299)
            show own_G p.tables e below _ T299 (mkF m 349 #[.val (.long p0), .second, .val (.long p1), .second, .val (.long p2), .second, .val (.long p3), .second, .val (.int p4), .val (.int (2 : Int32)), .val (.ref nb1), .val (.ref nb28), .val (.int f12), .val (.int p13), .val (.int f14), .val (.int f15), .val (.int f16), .val (.int bt), .val (.int g18), .val (.int bk), .val (.ref nb230), .val (.int (((1 : Int32) + y0) + y1)), .val (.int (1 : Int32)), .val (.int (((1 : Int32) + y0) + y1)), .val (.int (1 : Int32)), .val (.int y1), .val (.int i1), .unset, .unset, .unset] [])
            exact JA c1 c2 c3 j1 j2 j3 nb230 b2 k2 z (1 : Int32) y0 y1 (0 : Int32) (2 : Int32) (((1 : Int32) + y0) + y1) (1 : Int32) y1 i1 _ _ _ (X299.more (by decide) (by decide)) rfl N300 Z301 F302 Gc299 Gu299 Ha Hb Hc Hd Va Vt Vd Vb299 (by decide) hz (Ne.symm na_nb230_2) hR hsum ge_nb230 ge_c1 ge_c2 ge_c3 m12 m13 m23 nb2_1 nb2_2 nb2_3
          · skip
            refine own_callV X275 hx (pc' := 349) hZ hown (Wd57 hw) (Wd59 hw) (Wd60 hw) (Wd61 hw) (Wd4 hw) (by decide) (rm_rsN21 l Z a0 hw [] nb230 b1 b2 b3 k1 k2 k3 z i0 i1 (0 : Int32) y0 y1 (0 : Int32) (0 : Int32) (0 : Int32) (0 : Int32) nn kn bt T266.heap n0 Z268 hz ge_nb230 ge_b1 ge_b2 ge_b3 dj12 dj13 dj23 hR F272 Gc266 Gp266 Gu266 Gt266 Xa266 Xb266 Xc266 Xd266 Va266 Vb266 Vc266 F269) e275 F272 0 (by decide) (by decide) (by decide) (by decide) [(.int (1 : Int32)), (.int bt)] [] (by rw [hml]; rfl) (lenOf pd_5 rfl) rfl rfl (Nat.le_of_eq rfl) (hb hby at_346) rfl (fun v303 T303 L303 X303 hQ303 => ?_)
            obtain ⟨rfl, Nq303, K303, Gc303, Gu303, Vb303, Ha⟩ := hQ303
            have N304 := Fr.app N276 Nq303
            have Z305 : n0 ≤ T303.heap.size := Nat.le_trans Z268 K303.1
            have F306 := (Exa.keep F272 K303)
            show own_G p.tables e below _ T303 (mkF m 349 #[.val (.long p0), .second, .val (.long p1), .second, .val (.long p2), .second, .val (.long p3), .second, .val (.int p4), .val (.int (2 : Int32)), .val (.ref nb1), .val (.ref nb28), .val (.int f12), .val (.int p13), .val (.int f14), .val (.int f15), .val (.int f16), .val (.int bt), .val (.int g18), .val (.int bk), .val (.ref nb230), .val (.int (((1 : Int32) + y0) + y1)), .val (.int (1 : Int32)), .val (.int (((1 : Int32) + y0) + y1)), .val (.int (1 : Int32)), .val (.int y1), .val (.int i1), .unset, .unset, .unset] [])
            exact JN nb230 b2 k2 z (1 : Int32) y0 y1 (0 : Int32) (2 : Int32) (((1 : Int32) + y0) + y1) (1 : Int32) y1 i1 _ _ _ (X303.more (by decide) (by decide)) rfl N304 Z305 F306 Gc303 Gu303 Ha Vb303 (by decide) hz (Ne.symm na_nb230_2) hR hsum
    · skip
      show own_G p.tables e below _ T53 (mkF m 175 #[.val (.long p0), .second, .val (.long p1), .second, .val (.long p2), .second, .val (.long p3), .second, .val (.int p4), .val (.int (3 : Int32)), .val (.ref nb1), .val (.ref nb28), .val (.int f12), .val (.int p13), .val (.int f14), .val (.int f15), .val (.int f16), .val (.int bt), .val (.int g18), .val (.int bk), .unset, .unset, .unset, .unset, .unset, .unset, .unset, .unset, .unset, .unset] [])
      refine own_new X53 hx (pc' := 178) hZ hown (Wd2 hw) (Wd3 hw) (Wd4 hw) e53 (hb hby at_175) (by decide) (by decide) rfl (fun T307 h307 nb307 g307 X307 e307 E307 A307 D307 => ?_)
      have ne_nn_nb307_308 : nn ≠ nb307 := Nat.ne_of_lt (Nat.lt_of_lt_of_le F57.lt (Nat.le_of_eq g307.symm))
      have ne_nb1_nb307_309 : nb1 ≠ nb307 := Nat.ne_of_lt (Nat.lt_of_lt_of_le F58.lt (Nat.le_of_eq g307.symm))
      have ne_nb28_nb307_310 : nb28 ≠ nb307 := Nat.ne_of_lt (Nat.lt_of_lt_of_le F59.lt (Nat.le_of_eq g307.symm))
      have ge_nb307 : n0 ≤ nb307 := Nat.le_trans Z55 (Nat.le_of_eq g307.symm)
      have Z311 : n0 ≤ h307.size := Nat.le_trans Z55 E307.1
      have F312 := (Sta.ext E307 F56)
      have F313 := (F57.ext E307)
      have F314 := (F58.ext E307)
      have F315 := (F59.ext E307)
      have F316 : Fld Z h307 nb307 "com/example/rootcast/rootcast/tree/Children" "peers" "[I" .null := D307 (Or.inl (Wd14 hw)) (ty := (.array .int)) (by decide)
      have F317 : Fld Z h307 nb307 "com/example/rootcast/rootcast/tree/Children" "subtree" "[I" .null := D307 (Or.inl (Wd16 hw)) (ty := (.array .int)) (by decide)
      have F318 : Fld Z h307 nb307 "com/example/rootcast/rootcast/tree/Children" "sent" "[I" .null := D307 (Or.inl (Wd18 hw)) (ty := (.array .int)) (by decide)
      have F319 : Fld Z h307 nb307 "com/example/rootcast/rootcast/tree/Children" "stopped" "[I" .null := D307 (Or.inl (Wd20 hw)) (ty := (.array .int)) (by decide)
      have F320 : Fld Z h307 nb307 "com/example/rootcast/rootcast/tree/Children" "toCome" "[I" .null := D307 (Or.inl (Wd22 hw)) (ty := (.array .int)) (by decide)
      have F321 : Fld Z h307 nb307 "com/example/rootcast/rootcast/tree/Children" "beatsLeft" "[I" .null := D307 (Or.inl (Wd24 hw)) (ty := (.array .int)) (by decide)
      have F322 : Fld Z h307 nb307 "com/example/rootcast/rootcast/tree/Children" "degree" "I" (.int (0 : Int32)) := D307 (Or.inr (Wd26 hw)) (ty := .int) (by decide)
      have F323 : Fld Z h307 nb307 "com/example/rootcast/rootcast/tree/Children" "count" "I" (.int (0 : Int32)) := D307 (Or.inl (Wd33 hw)) (ty := .int) (by decide)
      have F324 : Fld Z h307 nb307 "com/example/rootcast/rootcast/tree/Children" "awaited" "I" (.int (0 : Int32)) := D307 (Or.inl (Wd56 hw)) (ty := .int) (by decide)
      refine own_dup X307 hx (pc' := 179) (hb hby at_178) rfl rfl ?_
      refine own_iconst X307 hx (pc' := 180) (3 : Int32) (hb hby at_179) rfl rfl ?_
      refine own_callI X307 hx (pc' := 183) hZ rfl hown (Wd5 hw) (Wd6 hw) (Wd7 hw) (Wd4 hw) (by decide) (rm_init l Z a0 hw [] nb307 nn (3 : Int32) h307 n0 Z311 ge_nb307 A307 F312 F316 F317 F318 F319 F320 F321 F322 F323 F324) e307 (b := nb307) 1 (by decide) (by decide) (by decide) (by decide) [(.int (3 : Int32))] [(.ref nb307)] (by rw [hml]; rfl) (lenOf pd_2 rfl) rfl rfl (Nat.le_of_eq rfl) (hb hby at_180) rfl (fun v325 T325 L325 X325 hQ325 => ?_)
      obtain ⟨rfl, Nq325, K325, G325_peers, G325_subtree, G325_sent, G325_stopped, G325_toCome, G325_beatsLeft, G325_degree, G325_count, G325_awaited⟩ := hQ325
      have N326 := Fr.app N54 Nq325
      have Z327 : n0 ≤ T325.heap.size := Nat.le_trans Z311 K325.1
      have F328 := (F313.keep K325 (ninS ne_nn_nb307_308 nin0))
      have F329 := (F314.keep K325 (ninS ne_nb1_nb307_309 nin0))
      have F330 := (F315.keep K325 (ninS ne_nb28_nb307_310 nin0))
      have F331 := (Exa.keep A307 K325)
      show own_G p.tables e below _ T325 (mkF m 183 #[.val (.long p0), .second, .val (.long p1), .second, .val (.long p2), .second, .val (.long p3), .second, .val (.int p4), .val (.int (3 : Int32)), .val (.ref nb1), .val (.ref nb28), .val (.int f12), .val (.int p13), .val (.int f14), .val (.int f15), .val (.int f16), .val (.int bt), .val (.int g18), .val (.int bk), .unset, .unset, .unset, .unset, .unset, .unset, .unset, .unset, .unset, .unset] [(.ref nb307)])
      refine own_astore X325 hx (pc' := 185) (Ls' := #[.val (.long p0), .second, .val (.long p1), .second, .val (.long p2), .second, .val (.long p3), .second, .val (.int p4), .val (.int (3 : Int32)), .val (.ref nb1), .val (.ref nb28), .val (.int f12), .val (.int p13), .val (.int f14), .val (.int f15), .val (.int f16), .val (.int bt), .val (.int g18), .val (.int bk), .val (.ref nb307), .unset, .unset, .unset, .unset, .unset, .unset, .unset, .unset, .unset]) (hb hby at_183) rfl rfl rfl ?_
      refine own_iload X325 hx (pc' := 187) (hb hby at_185) rfl rfl ?_
      refine own_ifNo X325 hx (pc' := 190) (hb hby at_187) (tlt (by decide : (0 : Int32) < (3 : Int32))).2.2.2 rfl ?_
      refine own_aload X325 hx (pc' := 192) (hb hby at_190) rfl rfl rfl ?_
      refine own_aload X325 hx (pc' := 194) (hb hby at_192) rfl rfl rfl ?_
      refine own_iconst X325 hx (pc' := 195) (0 : Int32) (hb hby at_194) rfl rfl ?_
      obtain ⟨cl332, Ar332, q332, S332, M332, H332, G332⟩ := id F329
      refine own_iaload X325 hx (pc' := 196) hZ (v := i0) rfl Ar332 (inb_of S332 ⟨by decide, by decide⟩) (Has.at H332 (inb_of S332 ⟨by decide, by decide⟩) rfl) (hb hby at_195) rfl ?_
      refine own_aload X325 hx (pc' := 198) (hb hby at_196) rfl rfl rfl ?_
      refine own_iconst X325 hx (pc' := 199) (0 : Int32) (hb hby at_198) rfl rfl ?_
      obtain ⟨cl333, Ar333, q333, S333, M333, H333, G333⟩ := id F330
      refine own_iaload X325 hx (pc' := 200) hZ (v := y0) rfl Ar333 (inb_of S333 ⟨by decide, by decide⟩) (Has.at H333 (inb_of S333 ⟨by decide, by decide⟩) rfl) (hb hby at_199) rfl ?_
      refine own_callV X325 hx (pc' := 203) hZ hown (Wd27 hw) (Wd29 hw) (Wd30 hw) (Wd31 hw) (Wd4 hw) (by decide) (rm_add0 l Z a0 hw [] nb307 nn kn (3 : Int32) i0 y0 nn nn nn (0 : Int32) T325.heap n0 Z327 ge_nb307 (Or.inl (by decide)) F331 G325_count G325_peers G325_subtree G325_sent G325_degree F328 G325_awaited G325_stopped G325_toCome G325_beatsLeft) rfl F331 0 (by decide) (by decide) (by decide) (by decide) [(.int i0), (.int y0)] [] (by rw [hml]; rfl) (lenOf pd_5 rfl) rfl rfl (Nat.le_of_eq rfl) (hb hby at_200) rfl (fun v334 T334 L334 X334 hQ334 => ?_)
      obtain ⟨rfl, Nq334, K334, z, b1, b2, b3, k1, k2, k3, hz, s1, s2, s3, dj12, dj13, dj23, Gc, Gp, Gu, Gt, V1, V2, V3, Xa, Xb, Xc, Xd⟩ := hQ334
      have N335 := Fr.app N326 Nq334
      have ge_b1 : n0 ≤ b1 := Nat.le_trans Z327 s1
      have na_nn_1 : nn ≠ b1 := Nat.ne_of_lt (Nat.lt_of_lt_of_le F328.lt s1)
      have na_nb1_1 : nb1 ≠ b1 := Nat.ne_of_lt (Nat.lt_of_lt_of_le F329.lt s1)
      have na_nb28_1 : nb28 ≠ b1 := Nat.ne_of_lt (Nat.lt_of_lt_of_le F330.lt s1)
      have na_nb307_1 : nb307 ≠ b1 := Nat.ne_of_lt (Nat.lt_of_lt_of_le F331.lt s1)
      have ge_b2 : n0 ≤ b2 := Nat.le_trans Z327 s2
      have na_nn_2 : nn ≠ b2 := Nat.ne_of_lt (Nat.lt_of_lt_of_le F328.lt s2)
      have na_nb1_2 : nb1 ≠ b2 := Nat.ne_of_lt (Nat.lt_of_lt_of_le F329.lt s2)
      have na_nb28_2 : nb28 ≠ b2 := Nat.ne_of_lt (Nat.lt_of_lt_of_le F330.lt s2)
      have na_nb307_2 : nb307 ≠ b2 := Nat.ne_of_lt (Nat.lt_of_lt_of_le F331.lt s2)
      have ge_b3 : n0 ≤ b3 := Nat.le_trans Z327 s3
      have na_nn_3 : nn ≠ b3 := Nat.ne_of_lt (Nat.lt_of_lt_of_le F328.lt s3)
      have na_nb1_3 : nb1 ≠ b3 := Nat.ne_of_lt (Nat.lt_of_lt_of_le F329.lt s3)
      have na_nb28_3 : nb28 ≠ b3 := Nat.ne_of_lt (Nat.lt_of_lt_of_le F330.lt s3)
      have na_nb307_3 : nb307 ≠ b3 := Nat.ne_of_lt (Nat.lt_of_lt_of_le F331.lt s3)
      have Z336 : n0 ≤ T334.heap.size := Nat.le_trans Z327 K334.1
      have F337 := (F328.keep K334 (ninS ne_nn_nb307_308 nin0))
      have F338 := (F329.keep K334 (ninS ne_nb1_nb307_309 nin0))
      have F339 := (F330.keep K334 (ninS ne_nb28_nb307_310 nin0))
      have F340 := (Exa.keep F331 K334)
      show own_G p.tables e below _ T334 (mkF m 203 #[.val (.long p0), .second, .val (.long p1), .second, .val (.long p2), .second, .val (.long p3), .second, .val (.int p4), .val (.int (3 : Int32)), .val (.ref nb1), .val (.ref nb28), .val (.int f12), .val (.int p13), .val (.int f14), .val (.int f15), .val (.int f16), .val (.int bt), .val (.int g18), .val (.int bk), .val (.ref nb307), .unset, .unset, .unset, .unset, .unset, .unset, .unset, .unset, .unset] [])
      refine own_iload X334 hx (pc' := 205) (hb hby at_203) rfl rfl ?_
      refine own_iconst X334 hx (pc' := 206) (1 : Int32) (hb hby at_205) rfl rfl ?_
      refine own_icmpNo X334 hx (pc' := 209) (hb hby at_206) (tlt (by decide : (1 : Int32) < (3 : Int32))).2.2.2 rfl ?_
      refine own_aload X334 hx (pc' := 211) (hb hby at_209) rfl rfl rfl ?_
      refine own_aload X334 hx (pc' := 213) (hb hby at_211) rfl rfl rfl ?_
      refine own_iconst X334 hx (pc' := 214) (1 : Int32) (hb hby at_213) rfl rfl ?_
      obtain ⟨cl341, Ar341, q341, S341, M341, H341, G341⟩ := id F338
      refine own_iaload X334 hx (pc' := 215) hZ (v := i1) rfl Ar341 (inb_of S341 ⟨by decide, by decide⟩) (Has.at H341 (inb_of S341 ⟨by decide, by decide⟩) rfl) (hb hby at_214) rfl ?_
      refine own_aload X334 hx (pc' := 217) (hb hby at_215) rfl rfl rfl ?_
      refine own_iconst X334 hx (pc' := 218) (1 : Int32) (hb hby at_217) rfl rfl ?_
      obtain ⟨cl342, Ar342, q342, S342, M342, H342, G342⟩ := id F339
      refine own_iaload X334 hx (pc' := 219) hZ (v := y1) rfl Ar342 (inb_of S342 ⟨by decide, by decide⟩) (Has.at H342 (inb_of S342 ⟨by decide, by decide⟩) rfl) (hb hby at_218) rfl ?_
      refine own_callV X334 hx (pc' := 222) hZ hown (Wd27 hw) (Wd29 hw) (Wd30 hw) (Wd31 hw) (Wd4 hw) (by decide) (rm_add1 l Z a0 hw [] nb307 b1 b2 b3 k1 k2 k3 z i0 (0 : Int32) (0 : Int32) y0 (0 : Int32) (0 : Int32) (0 : Int32) (0 : Int32) (0 : Int32) i1 y1 nn nn nn (0 : Int32) T334.heap n0 Z336 hz ge_nb307 ge_b1 ge_b2 ge_b3 dj12 dj13 dj23 F340 Gc Gp Gu Gt V1 V2 V3 Xa Xb Xc Xd) rfl F340 0 (by decide) (by decide) (by decide) (by decide) [(.int i1), (.int y1)] [] (by rw [hml]; rfl) (lenOf pd_5 rfl) rfl rfl (Nat.le_of_eq rfl) (hb hby at_219) rfl (fun v343 T343 L343 X343 hQ343 => ?_)
      obtain ⟨rfl, Nq343, K343, Gc343, Gp343, Gu343, Gt343, Va343, Vb343, Vc343, Xa343, Xb343, Xc343, Xd343⟩ := hQ343
      have N344 := Fr.app N335 Nq343
      have Z345 : n0 ≤ T343.heap.size := Nat.le_trans Z336 K343.1
      have F346 := (F337.keep K343 (ninS ne_nn_nb307_308 (ninS na_nn_1 (ninS na_nn_2 (ninS na_nn_3 nin0)))))
      have F347 := (F338.keep K343 (ninS ne_nb1_nb307_309 (ninS na_nb1_1 (ninS na_nb1_2 (ninS na_nb1_3 nin0)))))
      have F348 := (F339.keep K343 (ninS ne_nb28_nb307_310 (ninS na_nb28_1 (ninS na_nb28_2 (ninS na_nb28_3 nin0)))))
      have F349 := (Exa.keep F340 K343)
      show own_G p.tables e below _ T343 (mkF m 222 #[.val (.long p0), .second, .val (.long p1), .second, .val (.long p2), .second, .val (.long p3), .second, .val (.int p4), .val (.int (3 : Int32)), .val (.ref nb1), .val (.ref nb28), .val (.int f12), .val (.int p13), .val (.int f14), .val (.int f15), .val (.int f16), .val (.int bt), .val (.int g18), .val (.int bk), .val (.ref nb307), .unset, .unset, .unset, .unset, .unset, .unset, .unset, .unset, .unset] [])
      refine own_iload X343 hx (pc' := 224) (hb hby at_222) rfl rfl ?_
      refine own_iconst X343 hx (pc' := 225) (2 : Int32) (hb hby at_224) rfl rfl ?_
      refine own_icmpNo X343 hx (pc' := 228) (hb hby at_225) (tlt (by decide : (2 : Int32) < (3 : Int32))).2.2.2 rfl ?_
      refine own_aload X343 hx (pc' := 230) (hb hby at_228) rfl rfl rfl ?_
      refine own_aload X343 hx (pc' := 232) (hb hby at_230) rfl rfl rfl ?_
      refine own_iconst X343 hx (pc' := 233) (2 : Int32) (hb hby at_232) rfl rfl ?_
      obtain ⟨cl350, Ar350, q350, S350, M350, H350, G350⟩ := id F347
      refine own_iaload X343 hx (pc' := 234) hZ (v := i2) rfl Ar350 (inb_of S350 ⟨by decide, by decide⟩) (Has.at H350 (inb_of S350 ⟨by decide, by decide⟩) rfl) (hb hby at_233) rfl ?_
      refine own_aload X343 hx (pc' := 236) (hb hby at_234) rfl rfl rfl ?_
      refine own_iconst X343 hx (pc' := 237) (2 : Int32) (hb hby at_236) rfl rfl ?_
      obtain ⟨cl351, Ar351, q351, S351, M351, H351, G351⟩ := id F348
      refine own_iaload X343 hx (pc' := 238) hZ (v := y2) rfl Ar351 (inb_of S351 ⟨by decide, by decide⟩) (Has.at H351 (inb_of S351 ⟨by decide, by decide⟩) rfl) (hb hby at_237) rfl ?_
      refine own_callV X343 hx (pc' := 241) hZ hown (Wd27 hw) (Wd29 hw) (Wd30 hw) (Wd31 hw) (Wd4 hw) (by decide) (rm_add2 l Z a0 hw [] nb307 b1 b2 b3 k1 k2 k3 z i0 i1 (0 : Int32) y0 y1 (0 : Int32) (0 : Int32) (0 : Int32) (0 : Int32) i2 y2 nn nn nn (0 : Int32) T343.heap n0 Z345 hz ge_nb307 ge_b1 ge_b2 ge_b3 dj12 dj13 dj23 F349 Gc343 Gp343 Gu343 Gt343 Va343 Vb343 Vc343 Xa343 Xb343 Xc343 Xd343) rfl F349 0 (by decide) (by decide) (by decide) (by decide) [(.int i2), (.int y2)] [] (by rw [hml]; rfl) (lenOf pd_5 rfl) rfl rfl (Nat.le_of_eq rfl) (hb hby at_238) rfl (fun v352 T352 L352 X352 hQ352 => ?_)
      obtain ⟨rfl, Nq352, K352, Gc352, Gp352, Gu352, Gt352, Va352, Vb352, Vc352, Xa352, Xb352, Xc352, Xd352⟩ := hQ352
      have N353 := Fr.app N344 Nq352
      have Z354 : n0 ≤ T352.heap.size := Nat.le_trans Z345 K352.1
      have F355 := (F346.keep K352 (ninS ne_nn_nb307_308 (ninS na_nn_1 (ninS na_nn_2 (ninS na_nn_3 nin0)))))
      have F356 := (F347.keep K352 (ninS ne_nb1_nb307_309 (ninS na_nb1_1 (ninS na_nb1_2 (ninS na_nb1_3 nin0)))))
      have F357 := (F348.keep K352 (ninS ne_nb28_nb307_310 (ninS na_nb28_1 (ninS na_nb28_2 (ninS na_nb28_3 nin0)))))
      have F358 := (Exa.keep F349 K352)
      show own_G p.tables e below _ T352 (mkF m 241 #[.val (.long p0), .second, .val (.long p1), .second, .val (.long p2), .second, .val (.long p3), .second, .val (.int p4), .val (.int (3 : Int32)), .val (.ref nb1), .val (.ref nb28), .val (.int f12), .val (.int p13), .val (.int f14), .val (.int f15), .val (.int f16), .val (.int bt), .val (.int g18), .val (.int bk), .val (.ref nb307), .unset, .unset, .unset, .unset, .unset, .unset, .unset, .unset, .unset] [])
      refine own_iconst X352 hx (pc' := 242) (1 : Int32) (hb hby at_241) rfl rfl ?_
      refine own_istore X352 hx (pc' := 244) (Ls' := #[.val (.long p0), .second, .val (.long p1), .second, .val (.long p2), .second, .val (.long p3), .second, .val (.int p4), .val (.int (3 : Int32)), .val (.ref nb1), .val (.ref nb28), .val (.int f12), .val (.int p13), .val (.int f14), .val (.int f15), .val (.int f16), .val (.int bt), .val (.int g18), .val (.int bk), .val (.ref nb307), .val (.int (1 : Int32)), .unset, .unset, .unset, .unset, .unset, .unset, .unset, .unset]) (hb hby at_242) rfl rfl ?_
      refine own_iload X352 hx (pc' := 246) (hb hby at_244) rfl rfl ?_
      refine own_ifNo X352 hx (pc' := 249) (hb hby at_246) (tlt (by decide : (0 : Int32) < (3 : Int32))).2.2.2 rfl ?_
      refine own_iload X352 hx (pc' := 251) (hb hby at_249) rfl rfl ?_
      refine own_aload X352 hx (pc' := 253) (hb hby at_251) rfl rfl rfl ?_
      refine own_iconst X352 hx (pc' := 254) (0 : Int32) (hb hby at_253) rfl rfl ?_
      obtain ⟨cl359, Ar359, q359, S359, M359, H359, G359⟩ := id F357
      refine own_iaload X352 hx (pc' := 255) hZ (v := y0) rfl Ar359 (inb_of S359 ⟨by decide, by decide⟩) (Has.at H359 (inb_of S359 ⟨by decide, by decide⟩) rfl) (hb hby at_254) rfl ?_
      refine own_iadd X352 hx (pc' := 256) (hb hby at_255) rfl rfl ?_
      refine own_istore X352 hx (pc' := 258) (Ls' := #[.val (.long p0), .second, .val (.long p1), .second, .val (.long p2), .second, .val (.long p3), .second, .val (.int p4), .val (.int (3 : Int32)), .val (.ref nb1), .val (.ref nb28), .val (.int f12), .val (.int p13), .val (.int f14), .val (.int f15), .val (.int f16), .val (.int bt), .val (.int g18), .val (.int bk), .val (.ref nb307), .val (.int ((1 : Int32) + y0)), .unset, .unset, .unset, .unset, .unset, .unset, .unset, .unset]) (hb hby at_256) rfl rfl ?_
      refine own_iload X352 hx (pc' := 260) (hb hby at_258) rfl rfl ?_
      refine own_iconst X352 hx (pc' := 261) (1 : Int32) (hb hby at_260) rfl rfl ?_
      refine own_icmpNo X352 hx (pc' := 264) (hb hby at_261) (tlt (by decide : (1 : Int32) < (3 : Int32))).2.2.2 rfl ?_
      refine own_iload X352 hx (pc' := 266) (hb hby at_264) rfl rfl ?_
      refine own_aload X352 hx (pc' := 268) (hb hby at_266) rfl rfl rfl ?_
      refine own_iconst X352 hx (pc' := 269) (1 : Int32) (hb hby at_268) rfl rfl ?_
      obtain ⟨cl360, Ar360, q360, S360, M360, H360, G360⟩ := id F357
      refine own_iaload X352 hx (pc' := 270) hZ (v := y1) rfl Ar360 (inb_of S360 ⟨by decide, by decide⟩) (Has.at H360 (inb_of S360 ⟨by decide, by decide⟩) rfl) (hb hby at_269) rfl ?_
      refine own_iadd X352 hx (pc' := 271) (hb hby at_270) rfl rfl ?_
      refine own_istore X352 hx (pc' := 273) (Ls' := #[.val (.long p0), .second, .val (.long p1), .second, .val (.long p2), .second, .val (.long p3), .second, .val (.int p4), .val (.int (3 : Int32)), .val (.ref nb1), .val (.ref nb28), .val (.int f12), .val (.int p13), .val (.int f14), .val (.int f15), .val (.int f16), .val (.int bt), .val (.int g18), .val (.int bk), .val (.ref nb307), .val (.int (((1 : Int32) + y0) + y1)), .unset, .unset, .unset, .unset, .unset, .unset, .unset, .unset]) (hb hby at_271) rfl rfl ?_
      refine own_iload X352 hx (pc' := 275) (hb hby at_273) rfl rfl ?_
      refine own_iconst X352 hx (pc' := 276) (2 : Int32) (hb hby at_275) rfl rfl ?_
      refine own_icmpNo X352 hx (pc' := 279) (hb hby at_276) (tlt (by decide : (2 : Int32) < (3 : Int32))).2.2.2 rfl ?_
      refine own_iload X352 hx (pc' := 281) (hb hby at_279) rfl rfl ?_
      refine own_aload X352 hx (pc' := 283) (hb hby at_281) rfl rfl rfl ?_
      refine own_iconst X352 hx (pc' := 284) (2 : Int32) (hb hby at_283) rfl rfl ?_
      obtain ⟨cl361, Ar361, q361, S361, M361, H361, G361⟩ := id F357
      refine own_iaload X352 hx (pc' := 285) hZ (v := y2) rfl Ar361 (inb_of S361 ⟨by decide, by decide⟩) (Has.at H361 (inb_of S361 ⟨by decide, by decide⟩) rfl) (hb hby at_284) rfl ?_
      refine own_iadd X352 hx (pc' := 286) (hb hby at_285) rfl rfl ?_
      refine own_istore X352 hx (pc' := 288) (Ls' := #[.val (.long p0), .second, .val (.long p1), .second, .val (.long p2), .second, .val (.long p3), .second, .val (.int p4), .val (.int (3 : Int32)), .val (.ref nb1), .val (.ref nb28), .val (.int f12), .val (.int p13), .val (.int f14), .val (.int f15), .val (.int f16), .val (.int bt), .val (.int g18), .val (.int bk), .val (.ref nb307), .val (.int ((((1 : Int32) + y0) + y1) + y2)), .unset, .unset, .unset, .unset, .unset, .unset, .unset, .unset]) (hb hby at_286) rfl rfl ?_
      refine own_aload X352 hx (pc' := 290) (hb hby at_288) rfl rfl rfl ?_
      refine own_callV X352 hx (pc' := 293) hZ hown (Wd50 hw) (Wd52 hw) (Wd53 hw) (Wd54 hw) (Wd4 hw) (by decide) (rm_peN l Z a0 hw [] nb307 b2 nn k2 kn z (4 : Int32) (3 : Int32) y0 y1 y2 (0 : Int32) T352.heap n0 Z354 (by decide) hz (Or.inr (by decide)) Gc352 Gu352 Xa352 Vb352) rfl F358 0 (by decide) (by decide) (by decide) (by decide) [] [] (by rw [hml]; rfl) (lenOf pd_3 rfl) rfl rfl (Nat.le_of_eq rfl) (hb hby at_290) rfl (fun v362 T362 L362 X362 hQ362 => ?_)
      obtain ⟨rfl, Nq362, e362⟩ := hQ362
      have N363 := Fr.app N353 Nq362
      show own_G p.tables e below _ T362 (mkF m 293 #[.val (.long p0), .second, .val (.long p1), .second, .val (.long p2), .second, .val (.long p3), .second, .val (.int p4), .val (.int (3 : Int32)), .val (.ref nb1), .val (.ref nb28), .val (.int f12), .val (.int p13), .val (.int f14), .val (.int f15), .val (.int f16), .val (.int bt), .val (.int g18), .val (.int bk), .val (.ref nb307), .val (.int ((((1 : Int32) + y0) + y1) + y2)), .unset, .unset, .unset, .unset, .unset, .unset, .unset, .unset] [(.int (own_sum (3 : Int32) y0 y1 y2))])
      rw [show own_sum (3 : Int32) y0 y1 y2 = ((((1 : Int32) + y0) + y1) + y2) from (by unfold own_sum; rw [if_pos (by decide), if_pos (by decide), if_pos (by decide)])]
      refine own_iload X362 hx (pc' := 295) (hb hby at_293) rfl rfl ?_
      refine own_icmpNo X362 hx (pc' := 298) (hb hby at_295) (teq rfl).2 rfl ?_
      refine own_iconst X362 hx (pc' := 299) (1 : Int32) (hb hby at_298) rfl rfl ?_
      refine own_goto X362 hx (pc' := 303) (hb hby at_299) (by decide) (by decide) ?_
      refine own_istore X362 hx (pc' := 305) (Ls' := #[.val (.long p0), .second, .val (.long p1), .second, .val (.long p2), .second, .val (.long p3), .second, .val (.int p4), .val (.int (3 : Int32)), .val (.ref nb1), .val (.ref nb28), .val (.int f12), .val (.int p13), .val (.int f14), .val (.int f15), .val (.int f16), .val (.int bt), .val (.int g18), .val (.int bk), .val (.ref nb307), .val (.int ((((1 : Int32) + y0) + y1) + y2)), .val (.int (1 : Int32)), .unset, .unset, .unset, .unset, .unset, .unset, .unset]) (hb hby at_303) rfl rfl ?_
      refine own_iload X362 hx (pc' := 307) (hb hby at_305) rfl rfl ?_
      refine own_istore X362 hx (pc' := 309) (Ls' := #[.val (.long p0), .second, .val (.long p1), .second, .val (.long p2), .second, .val (.long p3), .second, .val (.int p4), .val (.int (3 : Int32)), .val (.ref nb1), .val (.ref nb28), .val (.int f12), .val (.int p13), .val (.int f14), .val (.int f15), .val (.int f16), .val (.int bt), .val (.int g18), .val (.int bk), .val (.ref nb307), .val (.int ((((1 : Int32) + y0) + y1) + y2)), .val (.int (1 : Int32)), .val (.int ((((1 : Int32) + y0) + y1) + y2)), .unset, .unset, .unset, .unset, .unset, .unset]) (hb hby at_307) rfl rfl ?_
      refine own_iload X362 hx (pc' := 311) (hb hby at_309) rfl rfl ?_
      by_cases hc311_364 : f12 = (0 : Int32)
      · skip
        refine own_ifYes X362 hx (pc' := 469) (hb hby at_311) (teq hc311_364).1 (by decide) (by decide) ?_
        refine own_iload X362 hx (pc' := 471) (hb hby at_469) rfl rfl ?_
        by_cases hc471_365 : f14 = (0 : Int32)
        · skip
          refine own_ifYes X362 hx (pc' := 483) (hb hby at_471) (teq hc471_365).1 (by decide) (by decide) ?_
          refine own_iload X362 hx (pc' := 485) (hb hby at_483) rfl rfl ?_
          by_cases hc485_366 : f16 = (0 : Int32)
          · skip
            refine own_ifYes X362 hx (pc' := 493) (hb hby at_485) (teq hc485_366).1 (by decide) (by decide) ?_
            exact JEN nb307 b2 k2 z (3 : Int32) y0 y1 y2 ((((1 : Int32) + y0) + y1) + y2) (.val (.int (3 : Int32))) (.val (.int ((((1 : Int32) + y0) + y1) + y2))) (.unset) (.unset) (.unset) (.unset) (.unset) (.unset) _ _ _ (X362.more (by decide) (by decide)) e362 N363 Z354 F358 Gc352 Gu352 Xa352 Vb352 (by decide) hz (Ne.symm na_nb307_2) (show ((((1 : Int32) + y0) + y1) + y2) = own_sum (3 : Int32) y0 y1 y2 from (show own_sum (3 : Int32) y0 y1 y2 = ((((1 : Int32) + y0) + y1) + y2) from (by unfold own_sum; rw [if_pos (by decide), if_pos (by decide), if_pos (by decide)])).symm)
          · skip
            refine own_ifNo X362 hx (pc' := 488) (hb hby at_485) (feq hc485_366).1 rfl ?_
            refine own_aload X362 hx (pc' := 490) (hb hby at_488) rfl rfl rfl ?_
            refine own_callV X362 hx (pc' := 493) hZ hown (Wd73 hw) (Wd75 hw) (Wd76 hw) (Wd77 hw) (Wd4 hw) (by decide) (rm_bt0 l Z a0 hw [] nb307 T352.heap n0 Z354 Xa352) e362 F358 0 (by decide) (by decide) (by decide) (by decide) [] [] (by rw [hml]; rfl) (lenOf pd_4 rfl) rfl rfl (Nat.le_of_eq rfl) (hb hby at_490) rfl (fun v367 T367 L367 X367 hQ367 => ?_)
            obtain ⟨rfl, Nq367, e367⟩ := hQ367
            have N368 := Fr.app N363 Nq367
            show own_G p.tables e below _ T367 (mkF m 493 #[.val (.long p0), .second, .val (.long p1), .second, .val (.long p2), .second, .val (.long p3), .second, .val (.int p4), .val (.int (3 : Int32)), .val (.ref nb1), .val (.ref nb28), .val (.int f12), .val (.int p13), .val (.int f14), .val (.int f15), .val (.int f16), .val (.int bt), .val (.int g18), .val (.int bk), .val (.ref nb307), .val (.int ((((1 : Int32) + y0) + y1) + y2)), .val (.int (1 : Int32)), .val (.int ((((1 : Int32) + y0) + y1) + y2)), .unset, .unset, .unset, .unset, .unset, .unset] [])
            exact JEN nb307 b2 k2 z (3 : Int32) y0 y1 y2 ((((1 : Int32) + y0) + y1) + y2) (.val (.int (3 : Int32))) (.val (.int ((((1 : Int32) + y0) + y1) + y2))) (.unset) (.unset) (.unset) (.unset) (.unset) (.unset) _ _ _ (X367.more (by decide) (by decide)) e367 N368 Z354 F358 Gc352 Gu352 Xa352 Vb352 (by decide) hz (Ne.symm na_nb307_2) (show ((((1 : Int32) + y0) + y1) + y2) = own_sum (3 : Int32) y0 y1 y2 from (show own_sum (3 : Int32) y0 y1 y2 = ((((1 : Int32) + y0) + y1) + y2) from (by unfold own_sum; rw [if_pos (by decide), if_pos (by decide), if_pos (by decide)])).symm)
        · skip
          refine own_ifNo X362 hx (pc' := 474) (hb hby at_471) (feq hc471_365).1 rfl ?_
          refine own_aload X362 hx (pc' := 476) (hb hby at_474) rfl rfl rfl ?_
          refine own_iload X362 hx (pc' := 478) (hb hby at_476) rfl rfl ?_
          refine own_iload X362 hx (pc' := 480) (hb hby at_478) rfl rfl ?_
          refine own_callV X362 hx (pc' := 483) hZ hown (Wd68 hw) (Wd70 hw) (Wd71 hw) (Wd72 hw) (Wd4 hw) (by decide) (rm_cb0 l Z a0 hw [] nb307 g18 bk T352.heap n0 Z354 Xa352) e362 F358 0 (by decide) (by decide) (by decide) (by decide) [(.int g18), (.int bk)] [] (by rw [hml]; rfl) (lenOf pd_5 rfl) rfl rfl (Nat.le_of_eq rfl) (hb hby at_480) rfl (fun v369 T369 L369 X369 hQ369 => ?_)
          obtain ⟨rfl, Nq369, e369⟩ := hQ369
          have N370 := Fr.app N363 Nq369
          show own_G p.tables e below _ T369 (mkF m 483 #[.val (.long p0), .second, .val (.long p1), .second, .val (.long p2), .second, .val (.long p3), .second, .val (.int p4), .val (.int (3 : Int32)), .val (.ref nb1), .val (.ref nb28), .val (.int f12), .val (.int p13), .val (.int f14), .val (.int f15), .val (.int f16), .val (.int bt), .val (.int g18), .val (.int bk), .val (.ref nb307), .val (.int ((((1 : Int32) + y0) + y1) + y2)), .val (.int (1 : Int32)), .val (.int ((((1 : Int32) + y0) + y1) + y2)), .unset, .unset, .unset, .unset, .unset, .unset] [])
          refine own_iload X369 hx (pc' := 485) (hb hby at_483) rfl rfl ?_
          by_cases hc485_371 : f16 = (0 : Int32)
          · skip
            refine own_ifYes X369 hx (pc' := 493) (hb hby at_485) (teq hc485_371).1 (by decide) (by decide) ?_
            exact JEN nb307 b2 k2 z (3 : Int32) y0 y1 y2 ((((1 : Int32) + y0) + y1) + y2) (.val (.int (3 : Int32))) (.val (.int ((((1 : Int32) + y0) + y1) + y2))) (.unset) (.unset) (.unset) (.unset) (.unset) (.unset) _ _ _ (X369.more (by decide) (by decide)) e369 N370 Z354 F358 Gc352 Gu352 Xa352 Vb352 (by decide) hz (Ne.symm na_nb307_2) (show ((((1 : Int32) + y0) + y1) + y2) = own_sum (3 : Int32) y0 y1 y2 from (show own_sum (3 : Int32) y0 y1 y2 = ((((1 : Int32) + y0) + y1) + y2) from (by unfold own_sum; rw [if_pos (by decide), if_pos (by decide), if_pos (by decide)])).symm)
          · skip
            refine own_ifNo X369 hx (pc' := 488) (hb hby at_485) (feq hc485_371).1 rfl ?_
            refine own_aload X369 hx (pc' := 490) (hb hby at_488) rfl rfl rfl ?_
            refine own_callV X369 hx (pc' := 493) hZ hown (Wd73 hw) (Wd75 hw) (Wd76 hw) (Wd77 hw) (Wd4 hw) (by decide) (rm_bt0 l Z a0 hw [] nb307 T352.heap n0 Z354 Xa352) e369 F358 0 (by decide) (by decide) (by decide) (by decide) [] [] (by rw [hml]; rfl) (lenOf pd_4 rfl) rfl rfl (Nat.le_of_eq rfl) (hb hby at_490) rfl (fun v372 T372 L372 X372 hQ372 => ?_)
            obtain ⟨rfl, Nq372, e372⟩ := hQ372
            have N373 := Fr.app N370 Nq372
            show own_G p.tables e below _ T372 (mkF m 493 #[.val (.long p0), .second, .val (.long p1), .second, .val (.long p2), .second, .val (.long p3), .second, .val (.int p4), .val (.int (3 : Int32)), .val (.ref nb1), .val (.ref nb28), .val (.int f12), .val (.int p13), .val (.int f14), .val (.int f15), .val (.int f16), .val (.int bt), .val (.int g18), .val (.int bk), .val (.ref nb307), .val (.int ((((1 : Int32) + y0) + y1) + y2)), .val (.int (1 : Int32)), .val (.int ((((1 : Int32) + y0) + y1) + y2)), .unset, .unset, .unset, .unset, .unset, .unset] [])
            exact JEN nb307 b2 k2 z (3 : Int32) y0 y1 y2 ((((1 : Int32) + y0) + y1) + y2) (.val (.int (3 : Int32))) (.val (.int ((((1 : Int32) + y0) + y1) + y2))) (.unset) (.unset) (.unset) (.unset) (.unset) (.unset) _ _ _ (X372.more (by decide) (by decide)) e372 N373 Z354 F358 Gc352 Gu352 Xa352 Vb352 (by decide) hz (Ne.symm na_nb307_2) (show ((((1 : Int32) + y0) + y1) + y2) = own_sum (3 : Int32) y0 y1 y2 from (show own_sum (3 : Int32) y0 y1 y2 = ((((1 : Int32) + y0) + y1) + y2) from (by unfold own_sum; rw [if_pos (by decide), if_pos (by decide), if_pos (by decide)])).symm)
      · skip
        refine own_ifNo X362 hx (pc' := 314) (hb hby at_311) (feq hc311_364).1 rfl ?_
        refine own_iload X362 hx (pc' := 316) (hb hby at_314) rfl rfl ?_
        refine own_ifNo X362 hx (pc' := 319) (hb hby at_316) (tlt (by decide : (0 : Int32) < (3 : Int32))).2.2.2 rfl ?_
        refine own_iload X362 hx (pc' := 321) (hb hby at_319) rfl rfl ?_
        refine own_iload X362 hx (pc' := 323) (hb hby at_321) rfl rfl ?_
        refine own_irem X362 hx (pc' := 324) (hb hby at_323) (by decide) rfl ?_
        refine own_istore X362 hx (pc' := 326) (Ls' := #[.val (.long p0), .second, .val (.long p1), .second, .val (.long p2), .second, .val (.long p3), .second, .val (.int p4), .val (.int (3 : Int32)), .val (.ref nb1), .val (.ref nb28), .val (.int f12), .val (.int p13), .val (.int f14), .val (.int f15), .val (.int f16), .val (.int bt), .val (.int g18), .val (.int bk), .val (.ref nb307), .val (.int ((((1 : Int32) + y0) + y1) + y2)), .val (.int (1 : Int32)), .val (.int ((((1 : Int32) + y0) + y1) + y2)), .val (.int (p13 % (3 : Int32))), .unset, .unset, .unset, .unset, .unset]) (hb hby at_324) rfl rfl ?_
        have hpl : (p13 % (3 : Int32)) = (0 : Int32) ∨ (p13 % (3 : Int32)) = (1 : Int32) ∨ (p13 % (3 : Int32)) = (2 : Int32) := by
          have q1 := (c_irem p13 (3 : Int32) 3 (by decide)).1 hp13.1
          simp only [← Int32.toInt_inj, own_t32_0, own_t32_1, own_t32_2, own_t32_3]
          omega
        rcases hpl with hpl | hpl | hpl
        · rw [hpl]
          refine own_aload X362 hx (pc' := 328) (hb hby at_326) rfl rfl rfl ?_
          refine own_iload X362 hx (pc' := 330) (hb hby at_328) rfl rfl ?_
          obtain ⟨cl374, Ar374, q374, S374, M374, H374, G374⟩ := id F357
          refine own_iaload X362 hx (pc' := 331) hZ (v := y0) e362 Ar374 (inb_of S374 ⟨by decide, by decide⟩) (Has.at H374 (inb_of S374 ⟨by decide, by decide⟩) rfl) (hb hby at_330) rfl ?_
          refine own_istore X362 hx (pc' := 333) (Ls' := #[.val (.long p0), .second, .val (.long p1), .second, .val (.long p2), .second, .val (.long p3), .second, .val (.int p4), .val (.int (3 : Int32)), .val (.ref nb1), .val (.ref nb28), .val (.int f12), .val (.int p13), .val (.int f14), .val (.int f15), .val (.int f16), .val (.int bt), .val (.int g18), .val (.int bk), .val (.ref nb307), .val (.int ((((1 : Int32) + y0) + y1) + y2)), .val (.int (1 : Int32)), .val (.int ((((1 : Int32) + y0) + y1) + y2)), .val (.int (0 : Int32)), .val (.int y0), .unset, .unset, .unset, .unset]) (hb hby at_331) rfl rfl ?_
          refine own_aload X362 hx (pc' := 335) (hb hby at_333) rfl rfl rfl ?_
          refine own_iload X362 hx (pc' := 337) (hb hby at_335) rfl rfl ?_
          obtain ⟨cl375, Ar375, q375, S375, M375, H375, G375⟩ := id F356
          refine own_iaload X362 hx (pc' := 338) hZ (v := i0) e362 Ar375 (inb_of S375 ⟨by decide, by decide⟩) (Has.at H375 (inb_of S375 ⟨by decide, by decide⟩) rfl) (hb hby at_337) rfl ?_
          refine own_istore X362 hx (pc' := 340) (Ls' := #[.val (.long p0), .second, .val (.long p1), .second, .val (.long p2), .second, .val (.long p3), .second, .val (.int p4), .val (.int (3 : Int32)), .val (.ref nb1), .val (.ref nb28), .val (.int f12), .val (.int p13), .val (.int f14), .val (.int f15), .val (.int f16), .val (.int bt), .val (.int g18), .val (.int bk), .val (.ref nb307), .val (.int ((((1 : Int32) + y0) + y1) + y2)), .val (.int (1 : Int32)), .val (.int ((((1 : Int32) + y0) + y1) + y2)), .val (.int (0 : Int32)), .val (.int y0), .val (.int i0), .unset, .unset, .unset]) (hb hby at_338) rfl rfl ?_
          refine own_aload X362 hx (pc' := 342) (hb hby at_340) rfl rfl rfl ?_
          refine own_iload X362 hx (pc' := 344) (hb hby at_342) rfl rfl ?_
          refine own_iload X362 hx (pc' := 346) (hb hby at_344) rfl rfl ?_
          have hsum : own_sum (2 : Int32) y1 y2 y2 = ((((1 : Int32) + y0) + y1) + y2) - y0 := by
            rw [show own_sum (2 : Int32) y1 y2 y2 = (((1 : Int32) + y1) + y2) from (by unfold own_sum; rw [if_pos (by decide), if_pos (by decide), if_neg (by decide)])]
            have q0 := c_iadd (1 : Int32) y0
            have q1 := rng32 ((1 : Int32) + y0)
            have q2 := c_iadd ((1 : Int32) + y0) y1
            have q3 := rng32 (((1 : Int32) + y0) + y1)
            have q4 := c_iadd (((1 : Int32) + y0) + y1) y2
            have q5 := rng32 ((((1 : Int32) + y0) + y1) + y2)
            have q6 := c_iadd (1 : Int32) y1
            have q7 := rng32 ((1 : Int32) + y1)
            have q8 := c_iadd ((1 : Int32) + y1) y2
            have q9 := rng32 (((1 : Int32) + y1) + y2)
            have q10 := c_isub ((((1 : Int32) + y0) + y1) + y2) y0
            have q11 := rng32 (((((1 : Int32) + y0) + y1) + y2) - y0)
            simp only [own_t32_1] at q0 q1 q2 q3 q4 q5 q6 q7 q8 q9 q10 q11
            rw [← Int32.toInt_inj]
            try simp only [own_t32_1]
            omega
          by_cases hR : (1 : Int32) < y0
          · skip
            refine own_callV X362 hx (pc' := 349) hZ hown (Wd57 hw) (Wd59 hw) (Wd60 hw) (Wd61 hw) (Wd4 hw) (by decide) (rm_rsA30 l Z a0 hw [] nb307 b1 b2 b3 k1 k2 k3 z i0 i1 i2 y0 y1 y2 (0 : Int32) (0 : Int32) (0 : Int32) nn kn bt T352.heap n0 Z354 hz ge_nb307 ge_b1 ge_b2 ge_b3 dj12 dj13 dj23 hR F358 Gc352 Gp352 Gu352 Gt352 Xa352 Xb352 Xc352 Xd352 Va352 Vb352 Vc352 F355) e362 F358 0 (by decide) (by decide) (by decide) (by decide) [(.int (0 : Int32)), (.int bt)] [] (by rw [hml]; rfl) (lenOf pd_5 rfl) rfl rfl (Nat.le_of_eq rfl) (hb hby at_346) rfl (fun v376 T376 L376 X376 hQ376 => ?_)
            obtain ⟨rfl, Nq376, K376, Gc376, Gu376, Vb376, c1, c2, c3, j1, j2, j3, ⟨hs1, hs2, hs3⟩, ⟨m12, m13, m23⟩, Ha, Hb, Hc, Hd, Va, Vt, Vd⟩ := hQ376
            have N377 := Fr.app N363 Nq376
            have ge_c1 : n0 ≤ c1 := Nat.le_trans Z354 hs1
            have nb2_1 : b2 ≠ c1 := Nat.ne_of_lt (Nat.lt_of_lt_of_le Vb352.lt hs1)
            have ge_c2 : n0 ≤ c2 := Nat.le_trans Z354 hs2
            have nb2_2 : b2 ≠ c2 := Nat.ne_of_lt (Nat.lt_of_lt_of_le Vb352.lt hs2)
            have ge_c3 : n0 ≤ c3 := Nat.le_trans Z354 hs3
            have nb2_3 : b2 ≠ c3 := Nat.ne_of_lt (Nat.lt_of_lt_of_le Vb352.lt hs3)
            have Z378 : n0 ≤ T376.heap.size := Nat.le_trans Z354 K376.1
            have F379 := (Exa.keep F358 K376)
            show own_G p.tables e below _ T376 (mkF m 349 #[.val (.long p0), .second, .val (.long p1), .second, .val (.long p2), .second, .val (.long p3), .second, .val (.int p4), .val (.int (3 : Int32)), .val (.ref nb1), .val (.ref nb28), .val (.int f12), .val (.int p13), .val (.int f14), .val (.int f15), .val (.int f16), .val (.int bt), .val (.int g18), .val (.int bk), .val (.ref nb307), .val (.int ((((1 : Int32) + y0) + y1) + y2)), .val (.int (1 : Int32)), .val (.int ((((1 : Int32) + y0) + y1) + y2)), .val (.int (0 : Int32)), .val (.int y0), .val (.int i0), .unset, .unset, .unset] [])
            exact JA c1 c2 c3 j1 j2 j3 nb307 b2 k2 z (2 : Int32) y1 y2 y2 (3 : Int32) ((((1 : Int32) + y0) + y1) + y2) (0 : Int32) y0 i0 _ _ _ (X376.more (by decide) (by decide)) rfl N377 Z378 F379 Gc376 Gu376 Ha Hb Hc Hd Va Vt Vd Vb376 (by decide) hz (Ne.symm na_nb307_2) hR hsum ge_nb307 ge_c1 ge_c2 ge_c3 m12 m13 m23 nb2_1 nb2_2 nb2_3
          · skip
            refine own_callV X362 hx (pc' := 349) hZ hown (Wd57 hw) (Wd59 hw) (Wd60 hw) (Wd61 hw) (Wd4 hw) (by decide) (rm_rsN30 l Z a0 hw [] nb307 b1 b2 b3 k1 k2 k3 z i0 i1 i2 y0 y1 y2 (0 : Int32) (0 : Int32) (0 : Int32) nn kn bt T352.heap n0 Z354 hz ge_nb307 ge_b1 ge_b2 ge_b3 dj12 dj13 dj23 hR F358 Gc352 Gp352 Gu352 Gt352 Xa352 Xb352 Xc352 Xd352 Va352 Vb352 Vc352 F355) e362 F358 0 (by decide) (by decide) (by decide) (by decide) [(.int (0 : Int32)), (.int bt)] [] (by rw [hml]; rfl) (lenOf pd_5 rfl) rfl rfl (Nat.le_of_eq rfl) (hb hby at_346) rfl (fun v380 T380 L380 X380 hQ380 => ?_)
            obtain ⟨rfl, Nq380, K380, Gc380, Gu380, Vb380, Ha⟩ := hQ380
            have N381 := Fr.app N363 Nq380
            have Z382 : n0 ≤ T380.heap.size := Nat.le_trans Z354 K380.1
            have F383 := (Exa.keep F358 K380)
            show own_G p.tables e below _ T380 (mkF m 349 #[.val (.long p0), .second, .val (.long p1), .second, .val (.long p2), .second, .val (.long p3), .second, .val (.int p4), .val (.int (3 : Int32)), .val (.ref nb1), .val (.ref nb28), .val (.int f12), .val (.int p13), .val (.int f14), .val (.int f15), .val (.int f16), .val (.int bt), .val (.int g18), .val (.int bk), .val (.ref nb307), .val (.int ((((1 : Int32) + y0) + y1) + y2)), .val (.int (1 : Int32)), .val (.int ((((1 : Int32) + y0) + y1) + y2)), .val (.int (0 : Int32)), .val (.int y0), .val (.int i0), .unset, .unset, .unset] [])
            exact JN nb307 b2 k2 z (2 : Int32) y1 y2 y2 (3 : Int32) ((((1 : Int32) + y0) + y1) + y2) (0 : Int32) y0 i0 _ _ _ (X380.more (by decide) (by decide)) rfl N381 Z382 F383 Gc380 Gu380 Ha Vb380 (by decide) hz (Ne.symm na_nb307_2) hR hsum
        · rw [hpl]
          refine own_aload X362 hx (pc' := 328) (hb hby at_326) rfl rfl rfl ?_
          refine own_iload X362 hx (pc' := 330) (hb hby at_328) rfl rfl ?_
          obtain ⟨cl384, Ar384, q384, S384, M384, H384, G384⟩ := id F357
          refine own_iaload X362 hx (pc' := 331) hZ (v := y1) e362 Ar384 (inb_of S384 ⟨by decide, by decide⟩) (Has.at H384 (inb_of S384 ⟨by decide, by decide⟩) rfl) (hb hby at_330) rfl ?_
          refine own_istore X362 hx (pc' := 333) (Ls' := #[.val (.long p0), .second, .val (.long p1), .second, .val (.long p2), .second, .val (.long p3), .second, .val (.int p4), .val (.int (3 : Int32)), .val (.ref nb1), .val (.ref nb28), .val (.int f12), .val (.int p13), .val (.int f14), .val (.int f15), .val (.int f16), .val (.int bt), .val (.int g18), .val (.int bk), .val (.ref nb307), .val (.int ((((1 : Int32) + y0) + y1) + y2)), .val (.int (1 : Int32)), .val (.int ((((1 : Int32) + y0) + y1) + y2)), .val (.int (1 : Int32)), .val (.int y1), .unset, .unset, .unset, .unset]) (hb hby at_331) rfl rfl ?_
          refine own_aload X362 hx (pc' := 335) (hb hby at_333) rfl rfl rfl ?_
          refine own_iload X362 hx (pc' := 337) (hb hby at_335) rfl rfl ?_
          obtain ⟨cl385, Ar385, q385, S385, M385, H385, G385⟩ := id F356
          refine own_iaload X362 hx (pc' := 338) hZ (v := i1) e362 Ar385 (inb_of S385 ⟨by decide, by decide⟩) (Has.at H385 (inb_of S385 ⟨by decide, by decide⟩) rfl) (hb hby at_337) rfl ?_
          refine own_istore X362 hx (pc' := 340) (Ls' := #[.val (.long p0), .second, .val (.long p1), .second, .val (.long p2), .second, .val (.long p3), .second, .val (.int p4), .val (.int (3 : Int32)), .val (.ref nb1), .val (.ref nb28), .val (.int f12), .val (.int p13), .val (.int f14), .val (.int f15), .val (.int f16), .val (.int bt), .val (.int g18), .val (.int bk), .val (.ref nb307), .val (.int ((((1 : Int32) + y0) + y1) + y2)), .val (.int (1 : Int32)), .val (.int ((((1 : Int32) + y0) + y1) + y2)), .val (.int (1 : Int32)), .val (.int y1), .val (.int i1), .unset, .unset, .unset]) (hb hby at_338) rfl rfl ?_
          refine own_aload X362 hx (pc' := 342) (hb hby at_340) rfl rfl rfl ?_
          refine own_iload X362 hx (pc' := 344) (hb hby at_342) rfl rfl ?_
          refine own_iload X362 hx (pc' := 346) (hb hby at_344) rfl rfl ?_
          have hsum : own_sum (2 : Int32) y0 y2 y2 = ((((1 : Int32) + y0) + y1) + y2) - y1 := by
            rw [show own_sum (2 : Int32) y0 y2 y2 = (((1 : Int32) + y0) + y2) from (by unfold own_sum; rw [if_pos (by decide), if_pos (by decide), if_neg (by decide)])]
            have q0 := c_iadd (1 : Int32) y0
            have q1 := rng32 ((1 : Int32) + y0)
            have q2 := c_iadd ((1 : Int32) + y0) y1
            have q3 := rng32 (((1 : Int32) + y0) + y1)
            have q4 := c_iadd (((1 : Int32) + y0) + y1) y2
            have q5 := rng32 ((((1 : Int32) + y0) + y1) + y2)
            have q6 := c_iadd (1 : Int32) y0
            have q7 := rng32 ((1 : Int32) + y0)
            have q8 := c_iadd ((1 : Int32) + y0) y2
            have q9 := rng32 (((1 : Int32) + y0) + y2)
            have q10 := c_isub ((((1 : Int32) + y0) + y1) + y2) y1
            have q11 := rng32 (((((1 : Int32) + y0) + y1) + y2) - y1)
            simp only [own_t32_1] at q0 q1 q2 q3 q4 q5 q6 q7 q8 q9 q10 q11
            rw [← Int32.toInt_inj]
            try simp only [own_t32_1]
            omega
          by_cases hR : (1 : Int32) < y1
          · skip
            refine own_callV X362 hx (pc' := 349) hZ hown (Wd57 hw) (Wd59 hw) (Wd60 hw) (Wd61 hw) (Wd4 hw) (by decide) (rm_rsA31 l Z a0 hw [] nb307 b1 b2 b3 k1 k2 k3 z i0 i1 i2 y0 y1 y2 (0 : Int32) (0 : Int32) (0 : Int32) nn kn bt T352.heap n0 Z354 hz ge_nb307 ge_b1 ge_b2 ge_b3 dj12 dj13 dj23 hR F358 Gc352 Gp352 Gu352 Gt352 Xa352 Xb352 Xc352 Xd352 Va352 Vb352 Vc352 F355) e362 F358 0 (by decide) (by decide) (by decide) (by decide) [(.int (1 : Int32)), (.int bt)] [] (by rw [hml]; rfl) (lenOf pd_5 rfl) rfl rfl (Nat.le_of_eq rfl) (hb hby at_346) rfl (fun v386 T386 L386 X386 hQ386 => ?_)
            obtain ⟨rfl, Nq386, K386, Gc386, Gu386, Vb386, c1, c2, c3, j1, j2, j3, ⟨hs1, hs2, hs3⟩, ⟨m12, m13, m23⟩, Ha, Hb, Hc, Hd, Va, Vt, Vd⟩ := hQ386
            have N387 := Fr.app N363 Nq386
            have ge_c1 : n0 ≤ c1 := Nat.le_trans Z354 hs1
            have nb2_1 : b2 ≠ c1 := Nat.ne_of_lt (Nat.lt_of_lt_of_le Vb352.lt hs1)
            have ge_c2 : n0 ≤ c2 := Nat.le_trans Z354 hs2
            have nb2_2 : b2 ≠ c2 := Nat.ne_of_lt (Nat.lt_of_lt_of_le Vb352.lt hs2)
            have ge_c3 : n0 ≤ c3 := Nat.le_trans Z354 hs3
            have nb2_3 : b2 ≠ c3 := Nat.ne_of_lt (Nat.lt_of_lt_of_le Vb352.lt hs3)
            have Z388 : n0 ≤ T386.heap.size := Nat.le_trans Z354 K386.1
            have F389 := (Exa.keep F358 K386)
            show own_G p.tables e below _ T386 (mkF m 349 #[.val (.long p0), .second, .val (.long p1), .second, .val (.long p2), .second, .val (.long p3), .second, .val (.int p4), .val (.int (3 : Int32)), .val (.ref nb1), .val (.ref nb28), .val (.int f12), .val (.int p13), .val (.int f14), .val (.int f15), .val (.int f16), .val (.int bt), .val (.int g18), .val (.int bk), .val (.ref nb307), .val (.int ((((1 : Int32) + y0) + y1) + y2)), .val (.int (1 : Int32)), .val (.int ((((1 : Int32) + y0) + y1) + y2)), .val (.int (1 : Int32)), .val (.int y1), .val (.int i1), .unset, .unset, .unset] [])
            exact JA c1 c2 c3 j1 j2 j3 nb307 b2 k2 z (2 : Int32) y0 y2 y2 (3 : Int32) ((((1 : Int32) + y0) + y1) + y2) (1 : Int32) y1 i1 _ _ _ (X386.more (by decide) (by decide)) rfl N387 Z388 F389 Gc386 Gu386 Ha Hb Hc Hd Va Vt Vd Vb386 (by decide) hz (Ne.symm na_nb307_2) hR hsum ge_nb307 ge_c1 ge_c2 ge_c3 m12 m13 m23 nb2_1 nb2_2 nb2_3
          · skip
            refine own_callV X362 hx (pc' := 349) hZ hown (Wd57 hw) (Wd59 hw) (Wd60 hw) (Wd61 hw) (Wd4 hw) (by decide) (rm_rsN31 l Z a0 hw [] nb307 b1 b2 b3 k1 k2 k3 z i0 i1 i2 y0 y1 y2 (0 : Int32) (0 : Int32) (0 : Int32) nn kn bt T352.heap n0 Z354 hz ge_nb307 ge_b1 ge_b2 ge_b3 dj12 dj13 dj23 hR F358 Gc352 Gp352 Gu352 Gt352 Xa352 Xb352 Xc352 Xd352 Va352 Vb352 Vc352 F355) e362 F358 0 (by decide) (by decide) (by decide) (by decide) [(.int (1 : Int32)), (.int bt)] [] (by rw [hml]; rfl) (lenOf pd_5 rfl) rfl rfl (Nat.le_of_eq rfl) (hb hby at_346) rfl (fun v390 T390 L390 X390 hQ390 => ?_)
            obtain ⟨rfl, Nq390, K390, Gc390, Gu390, Vb390, Ha⟩ := hQ390
            have N391 := Fr.app N363 Nq390
            have Z392 : n0 ≤ T390.heap.size := Nat.le_trans Z354 K390.1
            have F393 := (Exa.keep F358 K390)
            show own_G p.tables e below _ T390 (mkF m 349 #[.val (.long p0), .second, .val (.long p1), .second, .val (.long p2), .second, .val (.long p3), .second, .val (.int p4), .val (.int (3 : Int32)), .val (.ref nb1), .val (.ref nb28), .val (.int f12), .val (.int p13), .val (.int f14), .val (.int f15), .val (.int f16), .val (.int bt), .val (.int g18), .val (.int bk), .val (.ref nb307), .val (.int ((((1 : Int32) + y0) + y1) + y2)), .val (.int (1 : Int32)), .val (.int ((((1 : Int32) + y0) + y1) + y2)), .val (.int (1 : Int32)), .val (.int y1), .val (.int i1), .unset, .unset, .unset] [])
            exact JN nb307 b2 k2 z (2 : Int32) y0 y2 y2 (3 : Int32) ((((1 : Int32) + y0) + y1) + y2) (1 : Int32) y1 i1 _ _ _ (X390.more (by decide) (by decide)) rfl N391 Z392 F393 Gc390 Gu390 Ha Vb390 (by decide) hz (Ne.symm na_nb307_2) hR hsum
        · rw [hpl]
          refine own_aload X362 hx (pc' := 328) (hb hby at_326) rfl rfl rfl ?_
          refine own_iload X362 hx (pc' := 330) (hb hby at_328) rfl rfl ?_
          obtain ⟨cl394, Ar394, q394, S394, M394, H394, G394⟩ := id F357
          refine own_iaload X362 hx (pc' := 331) hZ (v := y2) e362 Ar394 (inb_of S394 ⟨by decide, by decide⟩) (Has.at H394 (inb_of S394 ⟨by decide, by decide⟩) rfl) (hb hby at_330) rfl ?_
          refine own_istore X362 hx (pc' := 333) (Ls' := #[.val (.long p0), .second, .val (.long p1), .second, .val (.long p2), .second, .val (.long p3), .second, .val (.int p4), .val (.int (3 : Int32)), .val (.ref nb1), .val (.ref nb28), .val (.int f12), .val (.int p13), .val (.int f14), .val (.int f15), .val (.int f16), .val (.int bt), .val (.int g18), .val (.int bk), .val (.ref nb307), .val (.int ((((1 : Int32) + y0) + y1) + y2)), .val (.int (1 : Int32)), .val (.int ((((1 : Int32) + y0) + y1) + y2)), .val (.int (2 : Int32)), .val (.int y2), .unset, .unset, .unset, .unset]) (hb hby at_331) rfl rfl ?_
          refine own_aload X362 hx (pc' := 335) (hb hby at_333) rfl rfl rfl ?_
          refine own_iload X362 hx (pc' := 337) (hb hby at_335) rfl rfl ?_
          obtain ⟨cl395, Ar395, q395, S395, M395, H395, G395⟩ := id F356
          refine own_iaload X362 hx (pc' := 338) hZ (v := i2) e362 Ar395 (inb_of S395 ⟨by decide, by decide⟩) (Has.at H395 (inb_of S395 ⟨by decide, by decide⟩) rfl) (hb hby at_337) rfl ?_
          refine own_istore X362 hx (pc' := 340) (Ls' := #[.val (.long p0), .second, .val (.long p1), .second, .val (.long p2), .second, .val (.long p3), .second, .val (.int p4), .val (.int (3 : Int32)), .val (.ref nb1), .val (.ref nb28), .val (.int f12), .val (.int p13), .val (.int f14), .val (.int f15), .val (.int f16), .val (.int bt), .val (.int g18), .val (.int bk), .val (.ref nb307), .val (.int ((((1 : Int32) + y0) + y1) + y2)), .val (.int (1 : Int32)), .val (.int ((((1 : Int32) + y0) + y1) + y2)), .val (.int (2 : Int32)), .val (.int y2), .val (.int i2), .unset, .unset, .unset]) (hb hby at_338) rfl rfl ?_
          refine own_aload X362 hx (pc' := 342) (hb hby at_340) rfl rfl rfl ?_
          refine own_iload X362 hx (pc' := 344) (hb hby at_342) rfl rfl ?_
          refine own_iload X362 hx (pc' := 346) (hb hby at_344) rfl rfl ?_
          have hsum : own_sum (2 : Int32) y0 y1 y2 = ((((1 : Int32) + y0) + y1) + y2) - y2 := by
            rw [show own_sum (2 : Int32) y0 y1 y2 = (((1 : Int32) + y0) + y1) from (by unfold own_sum; rw [if_pos (by decide), if_pos (by decide), if_neg (by decide)])]
            have q0 := c_iadd (1 : Int32) y0
            have q1 := rng32 ((1 : Int32) + y0)
            have q2 := c_iadd ((1 : Int32) + y0) y1
            have q3 := rng32 (((1 : Int32) + y0) + y1)
            have q4 := c_iadd (((1 : Int32) + y0) + y1) y2
            have q5 := rng32 ((((1 : Int32) + y0) + y1) + y2)
            have q6 := c_iadd (1 : Int32) y0
            have q7 := rng32 ((1 : Int32) + y0)
            have q8 := c_iadd ((1 : Int32) + y0) y1
            have q9 := rng32 (((1 : Int32) + y0) + y1)
            have q10 := c_isub ((((1 : Int32) + y0) + y1) + y2) y2
            have q11 := rng32 (((((1 : Int32) + y0) + y1) + y2) - y2)
            simp only [own_t32_1] at q0 q1 q2 q3 q4 q5 q6 q7 q8 q9 q10 q11
            rw [← Int32.toInt_inj]
            try simp only [own_t32_1]
            omega
          by_cases hR : (1 : Int32) < y2
          · skip
            refine own_callV X362 hx (pc' := 349) hZ hown (Wd57 hw) (Wd59 hw) (Wd60 hw) (Wd61 hw) (Wd4 hw) (by decide) (rm_rsA32 l Z a0 hw [] nb307 b1 b2 b3 k1 k2 k3 z i0 i1 i2 y0 y1 y2 (0 : Int32) (0 : Int32) (0 : Int32) nn kn bt T352.heap n0 Z354 hz ge_nb307 ge_b1 ge_b2 ge_b3 dj12 dj13 dj23 hR F358 Gc352 Gp352 Gu352 Gt352 Xa352 Xb352 Xc352 Xd352 Va352 Vb352 Vc352 F355) e362 F358 0 (by decide) (by decide) (by decide) (by decide) [(.int (2 : Int32)), (.int bt)] [] (by rw [hml]; rfl) (lenOf pd_5 rfl) rfl rfl (Nat.le_of_eq rfl) (hb hby at_346) rfl (fun v396 T396 L396 X396 hQ396 => ?_)
            obtain ⟨rfl, Nq396, K396, Gc396, Gu396, Vb396, c1, c2, c3, j1, j2, j3, ⟨hs1, hs2, hs3⟩, ⟨m12, m13, m23⟩, Ha, Hb, Hc, Hd, Va, Vt, Vd⟩ := hQ396
            have N397 := Fr.app N363 Nq396
            have ge_c1 : n0 ≤ c1 := Nat.le_trans Z354 hs1
            have nb2_1 : b2 ≠ c1 := Nat.ne_of_lt (Nat.lt_of_lt_of_le Vb352.lt hs1)
            have ge_c2 : n0 ≤ c2 := Nat.le_trans Z354 hs2
            have nb2_2 : b2 ≠ c2 := Nat.ne_of_lt (Nat.lt_of_lt_of_le Vb352.lt hs2)
            have ge_c3 : n0 ≤ c3 := Nat.le_trans Z354 hs3
            have nb2_3 : b2 ≠ c3 := Nat.ne_of_lt (Nat.lt_of_lt_of_le Vb352.lt hs3)
            have Z398 : n0 ≤ T396.heap.size := Nat.le_trans Z354 K396.1
            have F399 := (Exa.keep F358 K396)
            show own_G p.tables e below _ T396 (mkF m 349 #[.val (.long p0), .second, .val (.long p1), .second, .val (.long p2), .second, .val (.long p3), .second, .val (.int p4), .val (.int (3 : Int32)), .val (.ref nb1), .val (.ref nb28), .val (.int f12), .val (.int p13), .val (.int f14), .val (.int f15), .val (.int f16), .val (.int bt), .val (.int g18), .val (.int bk), .val (.ref nb307), .val (.int ((((1 : Int32) + y0) + y1) + y2)), .val (.int (1 : Int32)), .val (.int ((((1 : Int32) + y0) + y1) + y2)), .val (.int (2 : Int32)), .val (.int y2), .val (.int i2), .unset, .unset, .unset] [])
            exact JA c1 c2 c3 j1 j2 j3 nb307 b2 k2 z (2 : Int32) y0 y1 y2 (3 : Int32) ((((1 : Int32) + y0) + y1) + y2) (2 : Int32) y2 i2 _ _ _ (X396.more (by decide) (by decide)) rfl N397 Z398 F399 Gc396 Gu396 Ha Hb Hc Hd Va Vt Vd Vb396 (by decide) hz (Ne.symm na_nb307_2) hR hsum ge_nb307 ge_c1 ge_c2 ge_c3 m12 m13 m23 nb2_1 nb2_2 nb2_3
          · skip
            refine own_callV X362 hx (pc' := 349) hZ hown (Wd57 hw) (Wd59 hw) (Wd60 hw) (Wd61 hw) (Wd4 hw) (by decide) (rm_rsN32 l Z a0 hw [] nb307 b1 b2 b3 k1 k2 k3 z i0 i1 i2 y0 y1 y2 (0 : Int32) (0 : Int32) (0 : Int32) nn kn bt T352.heap n0 Z354 hz ge_nb307 ge_b1 ge_b2 ge_b3 dj12 dj13 dj23 hR F358 Gc352 Gp352 Gu352 Gt352 Xa352 Xb352 Xc352 Xd352 Va352 Vb352 Vc352 F355) e362 F358 0 (by decide) (by decide) (by decide) (by decide) [(.int (2 : Int32)), (.int bt)] [] (by rw [hml]; rfl) (lenOf pd_5 rfl) rfl rfl (Nat.le_of_eq rfl) (hb hby at_346) rfl (fun v400 T400 L400 X400 hQ400 => ?_)
            obtain ⟨rfl, Nq400, K400, Gc400, Gu400, Vb400, Ha⟩ := hQ400
            have N401 := Fr.app N363 Nq400
            have Z402 : n0 ≤ T400.heap.size := Nat.le_trans Z354 K400.1
            have F403 := (Exa.keep F358 K400)
            show own_G p.tables e below _ T400 (mkF m 349 #[.val (.long p0), .second, .val (.long p1), .second, .val (.long p2), .second, .val (.long p3), .second, .val (.int p4), .val (.int (3 : Int32)), .val (.ref nb1), .val (.ref nb28), .val (.int f12), .val (.int p13), .val (.int f14), .val (.int f15), .val (.int f16), .val (.int bt), .val (.int g18), .val (.int bk), .val (.ref nb307), .val (.int ((((1 : Int32) + y0) + y1) + y2)), .val (.int (1 : Int32)), .val (.int ((((1 : Int32) + y0) + y1) + y2)), .val (.int (2 : Int32)), .val (.int y2), .val (.int i2), .unset, .unset, .unset] [])
            exact JN nb307 b2 k2 z (2 : Int32) y0 y1 y2 (3 : Int32) ((((1 : Int32) + y0) + y1) + y2) (2 : Int32) y2 i2 _ _ _ (X400.more (by decide) (by decide)) rfl N401 Z402 F403 Gc400 Gu400 Ha Vb400 (by decide) hz (Ne.symm na_nb307_2) hR hsum
  have J144 : ∀ (f12 p13 f14 f15 f16 : Int32) (hp13 : 0 ≤ p13.toInt ∧ p13.toInt ≤ 3), own_G p.tables e below (own_P s (Q0 n0) 32 192) T53 (mkF m 144 #[.val (.long p0), .second, .val (.long p1), .second, .val (.long p2), .second, .val (.long p3), .second, .val (.int p4), .val (.int n), .val (.ref nb1), .val (.ref nb28), .val (.int f12), .val (.int p13), .val (.int f14), .val (.int f15), .unset, .unset, .unset, .unset, .unset, .unset, .unset, .unset, .unset, .unset, .unset, .unset, .unset, .unset] [(.int f16)]) := by
    intro f12 p13 f14 f15 f16 hp13
    refine own_istore X53 hx (pc' := 146) (Ls' := #[.val (.long p0), .second, .val (.long p1), .second, .val (.long p2), .second, .val (.long p3), .second, .val (.int p4), .val (.int n), .val (.ref nb1), .val (.ref nb28), .val (.int f12), .val (.int p13), .val (.int f14), .val (.int f15), .val (.int f16), .unset, .unset, .unset, .unset, .unset, .unset, .unset, .unset, .unset, .unset, .unset, .unset, .unset]) (hb hby at_144) rfl rfl ?_
    refine own_iload X53 hx (pc' := 148) (hb hby at_146) rfl rfl ?_
    refine own_bipush X53 hx (pc' := 150) (8 : Int32) (hb hby at_148) rfl rfl ?_
    refine own_iushr X53 hx (pc' := 151) (hb hby at_150) rfl ?_
    refine own_iconst X53 hx (pc' := 152) (1 : Int32) (hb hby at_151) rfl rfl ?_
    refine own_iand X53 hx (pc' := 153) (hb hby at_152) rfl rfl ?_
    refine own_iconst X53 hx (pc' := 154) (1 : Int32) (hb hby at_153) rfl rfl ?_
    refine own_iadd X53 hx (pc' := 155) (hb hby at_154) rfl rfl ?_
    refine own_istore X53 hx (pc' := 157) (Ls' := #[.val (.long p0), .second, .val (.long p1), .second, .val (.long p2), .second, .val (.long p3), .second, .val (.int p4), .val (.int n), .val (.ref nb1), .val (.ref nb28), .val (.int f12), .val (.int p13), .val (.int f14), .val (.int f15), .val (.int f16), .val (.int ((((p4.toUInt32 >>> ((8 : Int32) &&& 31).toUInt32).toInt32) &&& (1 : Int32)) + (1 : Int32))), .unset, .unset, .unset, .unset, .unset, .unset, .unset, .unset, .unset, .unset, .unset, .unset]) (hb hby at_155) rfl rfl ?_
    refine own_lload X53 hx (pc' := 159) (hb hby at_157) rfl rfl ?_
    refine own_bipush X53 hx (pc' := 161) (32 : Int32) (hb hby at_159) rfl rfl ?_
    refine own_lushr X53 hx (pc' := 162) (hb hby at_161) rfl ?_
    refine own_l2i X53 hx (pc' := 163) (hb hby at_162) rfl ?_
    refine own_istore X53 hx (pc' := 165) (Ls' := #[.val (.long p0), .second, .val (.long p1), .second, .val (.long p2), .second, .val (.long p3), .second, .val (.int p4), .val (.int n), .val (.ref nb1), .val (.ref nb28), .val (.int f12), .val (.int p13), .val (.int f14), .val (.int f15), .val (.int f16), .val (.int ((((p4.toUInt32 >>> ((8 : Int32) &&& 31).toUInt32).toInt32) &&& (1 : Int32)) + (1 : Int32))), .val (.int (((p3.toUInt64 >>> ((32 : Int32) &&& 0x3f).toInt64.toUInt64).toInt64).toInt32)), .unset, .unset, .unset, .unset, .unset, .unset, .unset, .unset, .unset, .unset, .unset]) (hb hby at_163) rfl rfl ?_
    refine own_lload X53 hx (pc' := 167) (hb hby at_165) rfl rfl ?_
    refine own_l2i X53 hx (pc' := 168) (hb hby at_167) rfl ?_
    refine own_ldcI X53 hx (pc' := 170) hZ hown (Wd1 hw) (hb hby at_168) rfl ?_
    refine own_iand X53 hx (pc' := 171) (hb hby at_170) rfl rfl ?_
    refine own_iconst X53 hx (pc' := 172) (1 : Int32) (hb hby at_171) rfl rfl ?_
    refine own_iadd X53 hx (pc' := 173) (hb hby at_172) rfl rfl ?_
    refine own_istore X53 hx (pc' := 175) (Ls' := #[.val (.long p0), .second, .val (.long p1), .second, .val (.long p2), .second, .val (.long p3), .second, .val (.int p4), .val (.int n), .val (.ref nb1), .val (.ref nb28), .val (.int f12), .val (.int p13), .val (.int f14), .val (.int f15), .val (.int f16), .val (.int ((((p4.toUInt32 >>> ((8 : Int32) &&& 31).toUInt32).toInt32) &&& (1 : Int32)) + (1 : Int32))), .val (.int (((p3.toUInt64 >>> ((32 : Int32) &&& 0x3f).toInt64.toUInt64).toInt64).toInt32)), .val (.int (((p3.toInt32) &&& (16777215 : Int32)) + (1 : Int32))), .unset, .unset, .unset, .unset, .unset, .unset, .unset, .unset, .unset, .unset]) (hb hby at_173) rfl rfl ?_
    have hbt : ((((p4.toUInt32 >>> ((8 : Int32) &&& 31).toUInt32).toInt32) &&& (1 : Int32)) + (1 : Int32)) = 1 ∨ ((((p4.toUInt32 >>> ((8 : Int32) &&& 31).toUInt32).toInt32) &&& (1 : Int32)) + (1 : Int32)) = 2 := by
      rcases and_one ((p4.toUInt32 >>> ((8 : Int32) &&& 31).toUInt32).toInt32) with q | q <;> rw [q] <;> decide
    exact J175 f12 p13 f14 f15 f16 ((((p4.toUInt32 >>> ((8 : Int32) &&& 31).toUInt32).toInt32) &&& (1 : Int32)) + (1 : Int32)) (((p3.toUInt64 >>> ((32 : Int32) &&& 0x3f).toInt64.toUInt64).toInt64).toInt32) (((p3.toInt32) &&& (16777215 : Int32)) + (1 : Int32)) hp13 hbt
  have J127 : ∀ (f12 p13 f14 f15 : Int32) (hp13 : 0 ≤ p13.toInt ∧ p13.toInt ≤ 3), own_G p.tables e below (own_P s (Q0 n0) 32 192) T53 (mkF m 127 #[.val (.long p0), .second, .val (.long p1), .second, .val (.long p2), .second, .val (.long p3), .second, .val (.int p4), .val (.int n), .val (.ref nb1), .val (.ref nb28), .val (.int f12), .val (.int p13), .val (.int f14), .unset, .unset, .unset, .unset, .unset, .unset, .unset, .unset, .unset, .unset, .unset, .unset, .unset, .unset, .unset] [(.int f15)]) := by
    intro f12 p13 f14 f15 hp13
    refine own_istore X53 hx (pc' := 129) (Ls' := #[.val (.long p0), .second, .val (.long p1), .second, .val (.long p2), .second, .val (.long p3), .second, .val (.int p4), .val (.int n), .val (.ref nb1), .val (.ref nb28), .val (.int f12), .val (.int p13), .val (.int f14), .val (.int f15), .unset, .unset, .unset, .unset, .unset, .unset, .unset, .unset, .unset, .unset, .unset, .unset, .unset, .unset]) (hb hby at_127) rfl rfl ?_
    refine own_iload X53 hx (pc' := 131) (hb hby at_129) rfl rfl ?_
    refine own_bipush X53 hx (pc' := 133) (7 : Int32) (hb hby at_131) rfl rfl ?_
    refine own_iushr X53 hx (pc' := 134) (hb hby at_133) rfl ?_
    refine own_iconst X53 hx (pc' := 135) (1 : Int32) (hb hby at_134) rfl rfl ?_
    refine own_iand X53 hx (pc' := 136) (hb hby at_135) rfl rfl ?_
    by_cases hc136_404 : (((p4.toUInt32 >>> ((7 : Int32) &&& 31).toUInt32).toInt32) &&& (1 : Int32)) = (0 : Int32)
    · skip
      refine own_ifYes X53 hx (pc' := 143) (hb hby at_136) (teq hc136_404).1 (by decide) (by decide) ?_
      refine own_iconst X53 hx (pc' := 144) (0 : Int32) (hb hby at_143) rfl rfl ?_
      exact J144 f12 p13 f14 f15 (0 : Int32) hp13
    · skip
      refine own_ifNo X53 hx (pc' := 139) (hb hby at_136) (feq hc136_404).1 rfl ?_
      refine own_iconst X53 hx (pc' := 140) (1 : Int32) (hb hby at_139) rfl rfl ?_
      refine own_goto X53 hx (pc' := 144) (hb hby at_140) (by decide) (by decide) ?_
      exact J144 f12 p13 f14 f15 (1 : Int32) hp13
  have J110 : ∀ (f12 p13 f14 : Int32) (hp13 : 0 ≤ p13.toInt ∧ p13.toInt ≤ 3), own_G p.tables e below (own_P s (Q0 n0) 32 192) T53 (mkF m 110 #[.val (.long p0), .second, .val (.long p1), .second, .val (.long p2), .second, .val (.long p3), .second, .val (.int p4), .val (.int n), .val (.ref nb1), .val (.ref nb28), .val (.int f12), .val (.int p13), .unset, .unset, .unset, .unset, .unset, .unset, .unset, .unset, .unset, .unset, .unset, .unset, .unset, .unset, .unset, .unset] [(.int f14)]) := by
    intro f12 p13 f14 hp13
    refine own_istore X53 hx (pc' := 112) (Ls' := #[.val (.long p0), .second, .val (.long p1), .second, .val (.long p2), .second, .val (.long p3), .second, .val (.int p4), .val (.int n), .val (.ref nb1), .val (.ref nb28), .val (.int f12), .val (.int p13), .val (.int f14), .unset, .unset, .unset, .unset, .unset, .unset, .unset, .unset, .unset, .unset, .unset, .unset, .unset, .unset, .unset]) (hb hby at_110) rfl rfl ?_
    refine own_iload X53 hx (pc' := 114) (hb hby at_112) rfl rfl ?_
    refine own_bipush X53 hx (pc' := 116) (6 : Int32) (hb hby at_114) rfl rfl ?_
    refine own_iushr X53 hx (pc' := 117) (hb hby at_116) rfl ?_
    refine own_iconst X53 hx (pc' := 118) (1 : Int32) (hb hby at_117) rfl rfl ?_
    refine own_iand X53 hx (pc' := 119) (hb hby at_118) rfl rfl ?_
    by_cases hc119_405 : (((p4.toUInt32 >>> ((6 : Int32) &&& 31).toUInt32).toInt32) &&& (1 : Int32)) = (0 : Int32)
    · skip
      refine own_ifYes X53 hx (pc' := 126) (hb hby at_119) (teq hc119_405).1 (by decide) (by decide) ?_
      refine own_iconst X53 hx (pc' := 127) (0 : Int32) (hb hby at_126) rfl rfl ?_
      exact J127 f12 p13 f14 (0 : Int32) hp13
    · skip
      refine own_ifNo X53 hx (pc' := 122) (hb hby at_119) (feq hc119_405).1 rfl ?_
      refine own_iconst X53 hx (pc' := 123) (1 : Int32) (hb hby at_122) rfl rfl ?_
      refine own_goto X53 hx (pc' := 127) (hb hby at_123) (by decide) (by decide) ?_
      exact J127 f12 p13 f14 (1 : Int32) hp13
  have J86 : ∀ (f12 : Int32), own_G p.tables e below (own_P s (Q0 n0) 32 192) T53 (mkF m 86 #[.val (.long p0), .second, .val (.long p1), .second, .val (.long p2), .second, .val (.long p3), .second, .val (.int p4), .val (.int n), .val (.ref nb1), .val (.ref nb28), .unset, .unset, .unset, .unset, .unset, .unset, .unset, .unset, .unset, .unset, .unset, .unset, .unset, .unset, .unset, .unset, .unset, .unset] [(.int f12)]) := by
    intro f12
    refine own_istore X53 hx (pc' := 88) (Ls' := #[.val (.long p0), .second, .val (.long p1), .second, .val (.long p2), .second, .val (.long p3), .second, .val (.int p4), .val (.int n), .val (.ref nb1), .val (.ref nb28), .val (.int f12), .unset, .unset, .unset, .unset, .unset, .unset, .unset, .unset, .unset, .unset, .unset, .unset, .unset, .unset, .unset, .unset, .unset]) (hb hby at_86) rfl rfl ?_
    refine own_iload X53 hx (pc' := 90) (hb hby at_88) rfl rfl ?_
    refine own_iconst X53 hx (pc' := 91) (3 : Int32) (hb hby at_90) rfl rfl ?_
    refine own_iushr X53 hx (pc' := 92) (hb hby at_91) rfl ?_
    refine own_iconst X53 hx (pc' := 93) (3 : Int32) (hb hby at_92) rfl rfl ?_
    refine own_iand X53 hx (pc' := 94) (hb hby at_93) rfl rfl ?_
    refine own_istore X53 hx (pc' := 96) (Ls' := #[.val (.long p0), .second, .val (.long p1), .second, .val (.long p2), .second, .val (.long p3), .second, .val (.int p4), .val (.int n), .val (.ref nb1), .val (.ref nb28), .val (.int f12), .val (.int (((p4.toUInt32 >>> ((3 : Int32) &&& 31).toUInt32).toInt32) &&& (3 : Int32))), .unset, .unset, .unset, .unset, .unset, .unset, .unset, .unset, .unset, .unset, .unset, .unset, .unset, .unset, .unset, .unset]) (hb hby at_94) rfl rfl ?_
    obtain ⟨p13, e13⟩ : ∃ z, z = (((p4.toUInt32 >>> ((3 : Int32) &&& 31).toUInt32).toInt32) &&& (3 : Int32)) := ⟨_, rfl⟩
    rw [← e13]
    have hp13 : 0 ≤ p13.toInt ∧ p13.toInt ≤ 3 := by
      have q1 := c_mask ((p4.toUInt32 >>> ((3 : Int32) &&& 31).toUInt32).toInt32) (3 : Int32) 2 (by decide) (by decide)
      rw [e13]
      omega
    refine own_iload X53 hx (pc' := 98) (hb hby at_96) rfl rfl ?_
    refine own_iconst X53 hx (pc' := 99) (5 : Int32) (hb hby at_98) rfl rfl ?_
    refine own_iushr X53 hx (pc' := 100) (hb hby at_99) rfl ?_
    refine own_iconst X53 hx (pc' := 101) (1 : Int32) (hb hby at_100) rfl rfl ?_
    refine own_iand X53 hx (pc' := 102) (hb hby at_101) rfl rfl ?_
    by_cases hc102_406 : (((p4.toUInt32 >>> ((5 : Int32) &&& 31).toUInt32).toInt32) &&& (1 : Int32)) = (0 : Int32)
    · skip
      refine own_ifYes X53 hx (pc' := 109) (hb hby at_102) (teq hc102_406).1 (by decide) (by decide) ?_
      refine own_iconst X53 hx (pc' := 110) (0 : Int32) (hb hby at_109) rfl rfl ?_
      exact J110 f12 p13 (0 : Int32) hp13
    · skip
      refine own_ifNo X53 hx (pc' := 105) (hb hby at_102) (feq hc102_406).1 rfl ?_
      refine own_iconst X53 hx (pc' := 106) (1 : Int32) (hb hby at_105) rfl rfl ?_
      refine own_goto X53 hx (pc' := 110) (hb hby at_106) (by decide) (by decide) ?_
      exact J110 f12 p13 (1 : Int32) hp13
  refine own_iload X53 hx (pc' := 74) (hb hby at_72) rfl rfl ?_
  refine own_iconst X53 hx (pc' := 75) (2 : Int32) (hb hby at_74) rfl rfl ?_
  refine own_iushr X53 hx (pc' := 76) (hb hby at_75) rfl ?_
  refine own_iconst X53 hx (pc' := 77) (1 : Int32) (hb hby at_76) rfl rfl ?_
  refine own_iand X53 hx (pc' := 78) (hb hby at_77) rfl rfl ?_
  by_cases hc78_407 : (((p4.toUInt32 >>> ((2 : Int32) &&& 31).toUInt32).toInt32) &&& (1 : Int32)) = (0 : Int32)
  · skip
    refine own_ifYes X53 hx (pc' := 85) (hb hby at_78) (teq hc78_407).1 (by decide) (by decide) ?_
    refine own_iconst X53 hx (pc' := 86) (0 : Int32) (hb hby at_85) rfl rfl ?_
    exact J86 (0 : Int32)
  · skip
    refine own_ifNo X53 hx (pc' := 81) (hb hby at_78) (feq hc78_407).1 rfl ?_
    refine own_iconst X53 hx (pc' := 82) (1 : Int32) (hb hby at_81) rfl rfl ?_
    refine own_goto X53 hx (pc' := 86) (hb hby at_82) (by decide) (by decide) ?_
    exact J86 (1 : Int32)

theorem Wd12 {a0 : Array Value} {Z : State} (hw : ∀ d ∈ tables_1, d.before a0 Z = true) : (Jvm.Cond.laysStatic "com/example/rootcast/rootcast/tree/Children" "NONE" "[I").before a0 Z = true := hw _ (List.mem_of_getElem? (i := 12) rfl)
set_option maxRecDepth 65536 in
set_option maxHeartbeats 40000000 in
theorem comes_1 {Post : Tables → Env → Array Value → State → Outcome → State → Prop} (hpost : ∀ tb e args s v u, (limb_1_1.after args s (.returned v) u = true ∧ limb_1_2.after args s (.returned v) u = true ∧ True) → FrameEnd s (.returned v) u (Jvm.fieldLocs frame_1_writes args s ++ Jvm.arrayLocs frame_1_arrays args s ++ Jvm.staticLocs frame_1_statics s) 32 192 → Post tb e args s (.returned v) u) :
    ArmFor flags0 classFile x code maxLocals ret World_1 tables_1 room_1 Calls_1 rest_1 Pre_1 Post := by
  intro l hfl _ _ p e ha hc hk s m args below hf hA hF happ hP
  obtain ⟨hcalls, hrest, hpre⟩ := hP
  obtain ⟨-, -, -, hnamed, -, -, -, hat⟩ := (Spec.applies_iff hf).mp happ
  obtain ⟨hg, hn⟩ := and_e (Cond.before_iff.mp (show (Jvm.Cond.and given_1 narrow_1).before args s = true from hpre))
  obtain ⟨hcnt, hg0⟩ := and_e hg
  obtain ⟨ha0, hg1⟩ := and_e hg0
  obtain ⟨ha1, hg2⟩ := and_e hg1
  obtain ⟨ha2, hg3⟩ := and_e hg2
  obtain ⟨ha3, hg4⟩ := and_e hg3
  obtain ⟨w0, w1, w2, w3, w4, rfl⟩ : ∃ w0 w1 w2 w3 w4 : Value, args = #[w0, w1, w2, w3, w4] := by
    have hs : args.size = 5 := by simpa [Cond.value, given_1] using hcnt
    obtain ⟨L⟩ := args
    match L, hs with
    | [w0, w1, w2, w3, w4], _ => exact ⟨w0, w1, w2, w3, w4, rfl⟩
  have hw := fun d (hd : d ∈ tables_1) => atoms_spec (ws := Jvm.Cond.code x code maxLocals ret :: tables_1) hat d (List.mem_cons_of_mem _ hd)
  have hfit : Fit s := fun {y c} hc i hi => by
    obtain ⟨ha, rfl⟩ := Array.getElem?_eq_some_iff.mp hc
    have q := List.all_eq_true.mp ((Array.all_eq_true_iff_forall_mem.mp hF) _ (Array.getElem_mem ha)) i (List.mem_range.mpr hi)
    simpa [Array.getElem?_eq_getElem hi] using q
  obtain ⟨i0, ei0⟩ := isL_v ha0
  obtain rfl : w0 = (.long i0) := Option.some.inj ei0
  obtain ⟨i1, ei1⟩ := isL_v ha1
  obtain rfl : w1 = (.long i1) := Option.some.inj ei1
  obtain ⟨i2, ei2⟩ := isL_v ha2
  obtain rfl : w2 = (.long i2) := Option.some.inj ei2
  obtain ⟨i3, ei3⟩ := isL_v ha3
  obtain rfl : w3 = (.long i3) := Option.some.inj ei3
  obtain ⟨i4, ei4⟩ := is_v hg4
  obtain rfl : w4 = (.int i4) := Option.some.inj ei4
  obtain ⟨m0, hn0⟩ := and_e hn
  obtain ⟨m1, m2⟩ := and_e hn0
  obtain ⟨nn, ev⟩ := exa_v m1
  have S_n : Sta s s.heap "com/example/rootcast/rootcast/tree/Children" "NONE" "[I" (.ref nn) := Sta.start ev (Or.inr ⟨(Wd4 hw), (Wd12 hw)⟩)
  obtain ⟨cl0, A0⟩ := Arr.start ev m0
  have V_n : Arv s s.heap nn cl0.cls .int (0 : Int32) [] (.int (0 : Int32)) := own_none A0 ev m2
  obtain ⟨n, o, h1, h2, h3, _, L, rfl, ⟨rfl, N⟩, hq⟩ := rm0 l s _ hw tables_1 i0 i1 i2 i3 i4 nn cl0.cls s.heap s.heap.size (Nat.le_refl _) S_n V_n p e ha hc hk s m _ below hf ((Spec.applies_iff_loose hf).mp happ).1 ⟨rfl, State.Warmed39.refl s, rfl⟩ trivial
  refine ⟨n, _, h1, h2, h3, hpost _ _ _ _ _ _ ⟨Cond.after_iff.mpr rfl, Cond.after_iff.mpr (eq_i res_at (Term.int_eval (1)) rfl), trivial⟩ ⟨hq.1, hq.2.1, (hq.2.2.sift fun y hy => Or.inr (N y hy)).mono (by decide) (by decide)⟩⟩
theorem main_1_1 : Claimed_1_1 := comes_1 fun _ _ _ _ _ _ h hF => ⟨h.1, hF⟩
theorem main_1_2 : Claimed_1_2 := comes_1 fun _ _ _ _ _ _ h hF => ⟨h.2.1, hF⟩
end Jvm.Pilot.@@N@@
namespace Jvm.Pilot.@@N@@
open Jvm Jvm.ClassFile Sem Op Lib Jvm.Free Jvm.Stand Jvm.Pilot.@@N@@.Jvm.D
/-! MADE BY PROGRAM (witnessworld.py) out of the Statement's table words and the real class files: 12 classes; the members and pool entries that the words name. The judged class is class 1, her method 1. -/
namespace start1
open Jvm.ClassFile
def u (s : String) : CpInfo := .utf8 (stringToUtf16 s)
/-- a pool by its gaps: so many unusable entries, then the entry; so many at the end -/
def gap : Nat → List CpInfo → List CpInfo
  | 0, r => r
  | n + 1, r => .unusable :: gap n r
def poolList (es : List (Nat × CpInfo)) (last : Nat) : List CpInfo := es.foldr (fun e r => gap e.1 (e.2 :: r)) (gap last [])
def pool (es : List (Nat × CpInfo)) (last : Nat) : Array CpInfo := ⟨poolList es last⟩
def fileOf (pool : Array CpInfo) (this : Nat) (attrs : Array Attribute := #[]) (ms : Array MethodInfo := #[]) (fl : Nat := 33) (sup : Nat := 0) (ifs : Array Nat := #[]) (fds : Array FieldInfo := #[]) : ClassFile where
  minorVersion := 0
  majorVersion := 65
  constantPool := pool
  accessFlags := fl
  thisClass := this
  superClass := sup
  interfaces := ifs
  fields := fds
  methods := ms
  attributes := attrs
def plain (name : String) (sup : Option ClassId) : Class where
  name := name
  kind := .ordinary
  loader := none
  accessFlags := 33
  super := sup
  interfaces := #[]
  cf := none
  fields := #[]
  methods := #[]
  instanceTypes := #[]
  staticTypes := #[]
  resolved := #[]
  callSites := []
  init := .initialized
  statics := none
  mirror := none

def pool0 : Array CpInfo := pool [(5, u "<init>"), (0, u "()V"), (1, .class_ 10), (1, u "java/lang/Object")] 113

def k0c0 : Code := { maxStack := 0, maxLocals := 1, code := object_method_1_code, exceptionTable := #[], attributes := #[] }
def k0m0 : Method := { name := "<init>", desc := "()V", sig := { parameters := [], returnType := none }, accessFlags := 1, code := some k0c0 }
/-- java/lang/Object -/
def k0 : Class := { plain "java/lang/Object" none with
  accessFlags := 33
  interfaces := #[]
  cf := some (fileOf pool0 8 #[] #[{ accessFlags := 1, nameIndex := 5, descriptorIndex := 6, attributes := #[] }] 33 0 #[] #[])
  fields := #[]
  methods := #[k0m0]
  instanceTypes := #[]
  staticTypes := #[]
  resolved := Array.replicate 124 none
  statics := none }

def pool1 : Array CpInfo := pool [(2, .class_ 4), (1, u "java/lang/Object"), (0, u "<init>"), (0, u "()V"), (0, .integer 16777215), (0, .class_ 9), (0, u "com/example/rootcast/rootcast/tree/Children"), (0, .methodref 8 11), (0, .nameAndType 5 12), (0, u "(I)V"), (0, .methodref 8 14), (0, .nameAndType 15 16), (0, u "add"), (0, u "(II)V"), (0, .methodref 8 18), (0, .nameAndType 19 20), (0, u "peers"), (0, u "()I"), (0, .methodref 8 22), (0, .nameAndType 23 16), (0, u "removeStopped"), (0, .methodref 8 25), (0, .nameAndType 26 16), (0, u "cameBack"), (0, .methodref 8 28), (0, .nameAndType 29 6), (0, u "beaten"), (0, .class_ 31), (0, u "com/example/rootcast/rootcast/tree/ChildrenPeersPinLaw"), (2, u "law"), (0, u "(JJJJI)Z")] 5

def k1m0 : Method := { name := "<init>", desc := "()V", sig := { parameters := [], returnType := none }, accessFlags := 1, code := none }
def k1c1 : Code := { maxStack := 6, maxLocals := 30, code := code, exceptionTable := #[], attributes := #[] }
def k1m1 : Method := { name := "law", desc := "(JJJJI)Z", sig := { parameters := [.long, .long, .long, .long, .int], returnType := some .boolean }, accessFlags := 9, code := some k1c1 }
/-- com/example/rootcast/rootcast/tree/ChildrenPeersPinLaw -/
def k1 : Class := { plain "com/example/rootcast/rootcast/tree/ChildrenPeersPinLaw" (some 0) with
  accessFlags := 49
  interfaces := #[]
  cf := some (fileOf pool1 30 #[] #[{ accessFlags := 1, nameIndex := 5, descriptorIndex := 6, attributes := #[] }, { accessFlags := 9, nameIndex := 34, descriptorIndex := 35, attributes := #[] }] 49 2 #[] #[])
  fields := #[]
  methods := #[k1m0, k1m1]
  instanceTypes := #[]
  staticTypes := #[]
  resolved := Array.replicate 41 none
  statics := none }

def pool2 : Array CpInfo := pool [(1, .methodref 2 3), (0, .class_ 4), (0, .nameAndType 5 6), (0, u "java/lang/Object"), (0, u "<init>"), (0, u "()V"), (0, .fieldref 8 9), (0, .class_ 10), (0, .nameAndType 11 12), (0, u "com/example/rootcast/rootcast/tree/Children"), (0, u "NONE"), (0, u "[I"), (0, .fieldref 8 14), (0, .nameAndType 15 12), (0, u "peers"), (0, .fieldref 8 17), (0, .nameAndType 18 12), (0, u "subtree"), (0, .fieldref 8 20), (0, .nameAndType 21 12), (0, u "sent"), (0, .fieldref 8 23), (0, .nameAndType 24 12), (0, u "stopped"), (0, .fieldref 8 26), (0, .nameAndType 27 12), (0, u "toCome"), (0, .fieldref 8 29), (0, .nameAndType 30 12), (0, u "beatsLeft"), (0, .fieldref 8 32), (0, .nameAndType 33 34), (0, u "degree"), (0, u "I"), (0, .fieldref 8 36), (0, .nameAndType 37 34), (0, u "count"), (0, .methodref 39 40), (0, .class_ 41), (0, .nameAndType 42 43), (0, u "java/lang/Math"), (0, u "max"), (0, u "(II)I"), (0, .methodref 39 45), (0, .nameAndType 46 43), (0, u "min"), (0, .methodref 48 49), (0, .class_ 50), (0, .nameAndType 51 52), (0, u "java/util/Arrays"), (0, u "copyOf"), (0, u "([II)[I"), (0, .methodref 54 55), (0, .class_ 56), (0, .nameAndType 57 58), (0, u "java/lang/System"), (0, u "arraycopy"), (0, u "(Ljava/lang/Object;ILjava/lang/Object;II)V"), (0, .fieldref 8 60), (0, .nameAndType 61 34), (0, u "awaited"), (0, .methodref 8 63), (0, .nameAndType 64 65), (0, u "remove"), (0, u "(I)V"), (0, .methodref 8 67), (0, .nameAndType 68 65), (0, u "forget"), (8, u "()I"), (7, u "add"), (0, u "(II)V"), (0, u "removeStopped"), (0, u "cameBack"), (0, u "beaten")] 10

def k2c0 : Code := { maxStack := 2, maxLocals := 2, code := prog_127_method_1_code, exceptionTable := #[], attributes := #[] }
def k2m0 : Method := { name := "<init>", desc := "(I)V", sig := { parameters := [.int], returnType := none }, accessFlags := 0, code := some k2c0 }
def k2c1 : Code := { maxStack := 4, maxLocals := 4, code := prog_127_method_7_code, exceptionTable := #[], attributes := #[] }
def k2m1 : Method := { name := "add", desc := "(II)V", sig := { parameters := [.int, .int], returnType := none }, accessFlags := 0, code := some k2c1 }
def k2c2 : Code := { maxStack := 6, maxLocals := 2, code := prog_127_method_8_code, exceptionTable := #[], attributes := #[] }
def k2m2 : Method := { name := "remove", desc := "(I)V", sig := { parameters := [.int], returnType := none }, accessFlags := 0, code := some k2c2 }
def k2c3 : Code := { maxStack := 4, maxLocals := 4, code := prog_127_method_9_code, exceptionTable := #[], attributes := #[] }
def k2m3 : Method := { name := "removeStopped", desc := "(II)V", sig := { parameters := [.int, .int], returnType := none }, accessFlags := 0, code := some k2c3 }
def k2c4 : Code := { maxStack := 4, maxLocals := 4, code := prog_127_method_10_code, exceptionTable := #[], attributes := #[] }
def k2m4 : Method := { name := "cameBack", desc := "(II)V", sig := { parameters := [.int, .int], returnType := none }, accessFlags := 0, code := some k2c4 }
def k2c5 : Code := { maxStack := 4, maxLocals := 2, code := prog_127_method_11_code, exceptionTable := #[], attributes := #[] }
def k2m5 : Method := { name := "beaten", desc := "()V", sig := { parameters := [], returnType := none }, accessFlags := 0, code := some k2c5 }
def k2c6 : Code := { maxStack := 6, maxLocals := 2, code := prog_127_method_13_code, exceptionTable := #[], attributes := #[] }
def k2m6 : Method := { name := "forget", desc := "(I)V", sig := { parameters := [.int], returnType := none }, accessFlags := 2, code := some k2c6 }
def k2c7 : Code := { maxStack := 3, maxLocals := 3, code := prog_127_method_18_code, exceptionTable := #[], attributes := #[] }
def k2m7 : Method := { name := "peers", desc := "()I", sig := { parameters := [], returnType := some .int }, accessFlags := 0, code := some k2c7 }
/-- com/example/rootcast/rootcast/tree/Children -/
def k2 : Class := { plain "com/example/rootcast/rootcast/tree/Children" (some 0) with
  accessFlags := 48
  interfaces := #[]
  cf := some (fileOf pool2 8 #[] #[{ accessFlags := 0, nameIndex := 5, descriptorIndex := 65, attributes := #[] }, { accessFlags := 0, nameIndex := 85, descriptorIndex := 86, attributes := #[] }, { accessFlags := 0, nameIndex := 64, descriptorIndex := 65, attributes := #[] }, { accessFlags := 0, nameIndex := 87, descriptorIndex := 86, attributes := #[] }, { accessFlags := 0, nameIndex := 88, descriptorIndex := 86, attributes := #[] }, { accessFlags := 0, nameIndex := 89, descriptorIndex := 6, attributes := #[] }, { accessFlags := 2, nameIndex := 68, descriptorIndex := 65, attributes := #[] }, { accessFlags := 0, nameIndex := 15, descriptorIndex := 77, attributes := #[] }] 48 2 #[] #[{ accessFlags := 26, nameIndex := 11, descriptorIndex := 12, attributes := #[] }, { accessFlags := 18, nameIndex := 33, descriptorIndex := 34, attributes := #[] }, { accessFlags := 2, nameIndex := 15, descriptorIndex := 12, attributes := #[] }, { accessFlags := 2, nameIndex := 18, descriptorIndex := 12, attributes := #[] }, { accessFlags := 2, nameIndex := 21, descriptorIndex := 12, attributes := #[] }, { accessFlags := 2, nameIndex := 37, descriptorIndex := 34, attributes := #[] }, { accessFlags := 2, nameIndex := 24, descriptorIndex := 12, attributes := #[] }, { accessFlags := 2, nameIndex := 27, descriptorIndex := 12, attributes := #[] }, { accessFlags := 2, nameIndex := 30, descriptorIndex := 12, attributes := #[] }, { accessFlags := 2, nameIndex := 61, descriptorIndex := 34, attributes := #[] }])
  fields := #[{ name := "NONE", type := (.array .int), accessFlags := 26, slot := 0, constantValue := 0 }, { name := "degree", type := .int, accessFlags := 18, slot := 0, constantValue := 0 }, { name := "peers", type := (.array .int), accessFlags := 2, slot := 1, constantValue := 0 }, { name := "subtree", type := (.array .int), accessFlags := 2, slot := 2, constantValue := 0 }, { name := "sent", type := (.array .int), accessFlags := 2, slot := 3, constantValue := 0 }, { name := "count", type := .int, accessFlags := 2, slot := 4, constantValue := 0 }, { name := "stopped", type := (.array .int), accessFlags := 2, slot := 5, constantValue := 0 }, { name := "toCome", type := (.array .int), accessFlags := 2, slot := 6, constantValue := 0 }, { name := "beatsLeft", type := (.array .int), accessFlags := 2, slot := 7, constantValue := 0 }, { name := "awaited", type := .int, accessFlags := 2, slot := 8, constantValue := 0 }]
  methods := #[k2m0, k2m1, k2m2, k2m3, k2m4, k2m5, k2m6, k2m7]
  instanceTypes := #[.int, (.array .int), (.array .int), (.array .int), .int, (.array .int), (.array .int), (.array .int), .int]
  staticTypes := #[(.array .int)]
  resolved := Array.replicate 100 none
  statics := some 0 }

def pool3 : Array CpInfo := pool [(1, .class_ 2), (0, u "java/lang/Math"), (1, .class_ 6), (1, u "java/lang/Object"), (0, u "<init>"), (0, u "()V"), (89, .class_ 100), (1, u "java/lang/Math$RandomNumberGeneratorHolder"), (71, u "negativeZeroFloatBits"), (0, u "J"), (2, u "negativeZeroDoubleBits"), (21, u "max"), (2, u "min"), (43, u "$assertionsDisabled"), (0, u "Z"), (88, u "(II)I"), (2, u "twoToTheDoubleScaleDown"), (0, u "D"), (4, u "twoToTheDoubleScaleUp"), (9, u "E"), (3, u "PI"), (2, u "TAU"), (2, u "DEGREES_TO_RADIANS"), (0, u "RADIANS_TO_DEGREES")] 94

def k3m0 : Method := { name := "<init>", desc := "()V", sig := { parameters := [], returnType := none }, accessFlags := 2, code := none }
def k3c1 : Code := { maxStack := 2, maxLocals := 2, code := jdk_29_method_65_code, exceptionTable := #[], attributes := #[] }
def k3m1 : Method := { name := "max", desc := "(II)I", sig := { parameters := [.int, .int], returnType := some .int }, accessFlags := 9, code := some k3c1 }
def k3c2 : Code := { maxStack := 2, maxLocals := 2, code := jdk_29_method_69_code, exceptionTable := #[], attributes := #[] }
def k3m2 : Method := { name := "min", desc := "(II)I", sig := { parameters := [.int, .int], returnType := some .int }, accessFlags := 9, code := some k3c2 }
/-- java/lang/Math -/
def k3 : Class := { plain "java/lang/Math" (some 0) with
  accessFlags := 49
  interfaces := #[]
  cf := some (fileOf pool3 1 #[.nestMembers #[98]] #[{ accessFlags := 2, nameIndex := 7, descriptorIndex := 8, attributes := #[] }, { accessFlags := 9, nameIndex := 198, descriptorIndex := 335, attributes := #[] }, { accessFlags := 9, nameIndex := 201, descriptorIndex := 335, attributes := #[] }] 49 4 #[] #[{ accessFlags := 25, nameIndex := 354, descriptorIndex := 339, attributes := #[] }, { accessFlags := 25, nameIndex := 358, descriptorIndex := 339, attributes := #[] }, { accessFlags := 25, nameIndex := 361, descriptorIndex := 339, attributes := #[] }, { accessFlags := 26, nameIndex := 364, descriptorIndex := 339, attributes := #[] }, { accessFlags := 26, nameIndex := 365, descriptorIndex := 339, attributes := #[] }, { accessFlags := 26, nameIndex := 172, descriptorIndex := 173, attributes := #[] }, { accessFlags := 26, nameIndex := 176, descriptorIndex := 173, attributes := #[] }, { accessFlags := 8, nameIndex := 344, descriptorIndex := 339, attributes := #[] }, { accessFlags := 8, nameIndex := 338, descriptorIndex := 339, attributes := #[] }, { accessFlags := 4120, nameIndex := 245, descriptorIndex := 246, attributes := #[] }])
  fields := #[{ name := "E", type := .double, accessFlags := 25, slot := 0, constantValue := 0 }, { name := "PI", type := .double, accessFlags := 25, slot := 1, constantValue := 0 }, { name := "TAU", type := .double, accessFlags := 25, slot := 2, constantValue := 0 }, { name := "DEGREES_TO_RADIANS", type := .double, accessFlags := 26, slot := 3, constantValue := 0 }, { name := "RADIANS_TO_DEGREES", type := .double, accessFlags := 26, slot := 4, constantValue := 0 }, { name := "negativeZeroFloatBits", type := .long, accessFlags := 26, slot := 5, constantValue := 0 }, { name := "negativeZeroDoubleBits", type := .long, accessFlags := 26, slot := 6, constantValue := 0 }, { name := "twoToTheDoubleScaleUp", type := .double, accessFlags := 8, slot := 7, constantValue := 0 }, { name := "twoToTheDoubleScaleDown", type := .double, accessFlags := 8, slot := 8, constantValue := 0 }, { name := "$assertionsDisabled", type := .boolean, accessFlags := 4120, slot := 9, constantValue := 0 }]
  methods := #[k3m0, k3m1, k3m2]
  instanceTypes := #[]
  staticTypes := #[.double, .double, .double, .double, .double, .long, .long, .double, .double, .boolean]
  resolved := Array.replicate 460 none
  statics := none }

def pool4 : Array CpInfo := pool [(2, .class_ 4), (1, u "java/lang/Object"), (0, u "<init>"), (0, u "()V"), (7, .class_ 16), (1, u "java/util/Arrays"), (57, .class_ 76), (1, u "java/util/Arrays$NaturalOrder"), (36, .class_ 115), (1, u "java/util/Arrays$LegacyMergeSort"), (1, u "Z"), (32, .methodref 151 152), (0, .class_ 153), (0, .nameAndType 154 155), (0, u "java/lang/System"), (0, u "arraycopy"), (0, u "(Ljava/lang/Object;ILjava/lang/Object;II)V"), (146, u "copyOf"), (1, .methodref 305 306), (0, .class_ 307), (0, .nameAndType 308 309), (0, u "java/lang/Math"), (0, u "min"), (0, u "(II)I"), (65, .class_ 376), (0, u "java/util/Arrays$ArrayList"), (68, u "$assertionsDisabled"), (269, u "MIN_ARRAY_SORT_GRAN"), (0, u "I"), (2, u "INSERTIONSORT_THRESHOLD"), (151, u "([II)[I"), (103, .class_ 976), (0, u "java/util/Arrays$ArrayItr")] 52

def k4m0 : Method := { name := "<init>", desc := "()V", sig := { parameters := [], returnType := none }, accessFlags := 2, code := none }
def k4c1 : Code := { maxStack := 6, maxLocals := 3, code := jdk_65_method_123_code, exceptionTable := #[], attributes := #[] }
def k4m1 : Method := { name := "copyOf", desc := "([II)[I", sig := { parameters := [(.array .int), .int], returnType := some (.array .int) }, accessFlags := 9, code := some k4c1 }
/-- java/util/Arrays -/
def k4 : Class := { plain "java/util/Arrays" (some 0) with
  accessFlags := 49
  interfaces := #[]
  cf := some (fileOf pool4 14 #[.nestMembers #[975, 375, 113, 74]] #[{ accessFlags := 2, nameIndex := 5, descriptorIndex := 6, attributes := #[] }, { accessFlags := 9, nameIndex := 302, descriptorIndex := 871, attributes := #[] }] 49 2 #[] #[{ accessFlags := 26, nameIndex := 715, descriptorIndex := 716, attributes := #[] }, { accessFlags := 26, nameIndex := 719, descriptorIndex := 716, attributes := #[] }, { accessFlags := 4120, nameIndex := 445, descriptorIndex := 117, attributes := #[] }])
  fields := #[{ name := "MIN_ARRAY_SORT_GRAN", type := .int, accessFlags := 26, slot := 0, constantValue := 0 }, { name := "INSERTIONSORT_THRESHOLD", type := .int, accessFlags := 26, slot := 1, constantValue := 0 }, { name := "$assertionsDisabled", type := .boolean, accessFlags := 4120, slot := 2, constantValue := 0 }]
  methods := #[k4m0, k4m1]
  instanceTypes := #[]
  staticTypes := #[.int, .int, .boolean]
  resolved := Array.replicate 1029 none
  statics := none }

def pool5 : Array CpInfo := pool [(2, .class_ 4), (1, u "java/lang/Object"), (0, u "<init>"), (0, u "()V"), (1, .class_ 10), (1, u "java/lang/System"), (0, u "allowSecurityManager"), (0, u "I"), (16, u "cons"), (0, u "Ljava/io/Console;"), (77, .class_ 110), (1, u "java/lang/System$CallersHolder"), (43, u "initialErrStream"), (0, u "Ljava/io/PrintStream;"), (19, u "security"), (0, u "Ljava/lang/SecurityManager;"), (31, .class_ 209), (0, u "java/lang/System$1"), (7, u "props"), (0, u "Ljava/util/Properties;"), (2, u "lineSeparator"), (0, u "Ljava/lang/String;"), (96, .class_ 321), (1, u "java/lang/System$LoggerFinder"), (5, .class_ 328), (0, u "java/lang/System$Logger"), (67, u "err"), (2, u "out"), (91, u "notSupportedJnuEncoding"), (15, u "in"), (17, u "initialIn"), (0, u "Ljava/io/InputStream;"), (35, u "bootLayer"), (0, u "Ljava/lang/ModuleLayer;"), (99, .class_ 664), (0, u "java/lang/System$2"), (9, u "NEVER"), (2, u "MAYBE"), (49, u "arraycopy"), (0, u "(Ljava/lang/Object;ILjava/lang/Object;II)V"), (72, .class_ 802), (0, u "java/lang/System$Logger$Level")] 31

def k5m0 : Method := { name := "<init>", desc := "()V", sig := { parameters := [], returnType := none }, accessFlags := 2, code := none }
def k5m1 : Method := { name := "arraycopy", desc := "(Ljava/lang/Object;ILjava/lang/Object;II)V", sig := { parameters := [(.object "java/lang/Object"), .int, (.object "java/lang/Object"), .int, .int], returnType := none }, accessFlags := 265, code := none }
/-- java/lang/System -/
def k5 : Class := { plain "java/lang/System" (some 0) with
  accessFlags := 49
  interfaces := #[]
  cf := some (fileOf pool5 8 #[.nestMembers #[319, 327, 801, 108, 663, 208]] #[{ accessFlags := 2, nameIndex := 5, descriptorIndex := 6, attributes := #[] }, { accessFlags := 265, nameIndex := 727, descriptorIndex := 728, attributes := #[] }] 49 2 #[] #[{ accessFlags := 25, nameIndex := 507, descriptorIndex := 526, attributes := #[] }, { accessFlags := 25, nameIndex := 399, descriptorIndex := 155, attributes := #[] }, { accessFlags := 25, nameIndex := 396, descriptorIndex := 155, attributes := #[] }, { accessFlags := 10, nameIndex := 525, descriptorIndex := 526, attributes := #[] }, { accessFlags := 26, nameIndex := 674, descriptorIndex := 12, attributes := #[] }, { accessFlags := 26, nameIndex := 677, descriptorIndex := 12, attributes := #[] }, { accessFlags := 10, nameIndex := 11, descriptorIndex := 12, attributes := #[] }, { accessFlags := 74, nameIndex := 175, descriptorIndex := 176, attributes := #[] }, { accessFlags := 10, nameIndex := 491, descriptorIndex := 222, attributes := #[] }, { accessFlags := 74, nameIndex := 29, descriptorIndex := 30, attributes := #[] }, { accessFlags := 74, nameIndex := 154, descriptorIndex := 155, attributes := #[] }, { accessFlags := 10, nameIndex := 217, descriptorIndex := 218, attributes := #[] }, { accessFlags := 10, nameIndex := 221, descriptorIndex := 222, attributes := #[] }, { accessFlags := 8, nameIndex := 562, descriptorIndex := 563, attributes := #[] }])
  fields := #[{ name := "in", type := (.object "java/io/InputStream"), accessFlags := 25, slot := 0, constantValue := 0 }, { name := "out", type := (.object "java/io/PrintStream"), accessFlags := 25, slot := 1, constantValue := 0 }, { name := "err", type := (.object "java/io/PrintStream"), accessFlags := 25, slot := 2, constantValue := 0 }, { name := "initialIn", type := (.object "java/io/InputStream"), accessFlags := 10, slot := 3, constantValue := 0 }, { name := "NEVER", type := .int, accessFlags := 26, slot := 4, constantValue := 0 }, { name := "MAYBE", type := .int, accessFlags := 26, slot := 5, constantValue := 0 }, { name := "allowSecurityManager", type := .int, accessFlags := 10, slot := 6, constantValue := 0 }, { name := "security", type := (.object "java/lang/SecurityManager"), accessFlags := 74, slot := 7, constantValue := 0 }, { name := "notSupportedJnuEncoding", type := (.object "java/lang/String"), accessFlags := 10, slot := 8, constantValue := 0 }, { name := "cons", type := (.object "java/io/Console"), accessFlags := 74, slot := 9, constantValue := 0 }, { name := "initialErrStream", type := (.object "java/io/PrintStream"), accessFlags := 74, slot := 10, constantValue := 0 }, { name := "props", type := (.object "java/util/Properties"), accessFlags := 10, slot := 11, constantValue := 0 }, { name := "lineSeparator", type := (.object "java/lang/String"), accessFlags := 10, slot := 12, constantValue := 0 }, { name := "bootLayer", type := (.object "java/lang/ModuleLayer"), accessFlags := 8, slot := 13, constantValue := 0 }]
  methods := #[k5m0, k5m1]
  instanceTypes := #[]
  staticTypes := #[(.object "java/io/InputStream"), (.object "java/io/PrintStream"), (.object "java/io/PrintStream"), (.object "java/io/InputStream"), .int, .int, .int, (.object "java/lang/SecurityManager"), (.object "java/lang/String"), (.object "java/io/Console"), (.object "java/io/PrintStream"), (.object "java/util/Properties"), (.object "java/lang/String"), (.object "java/lang/ModuleLayer")]
  resolved := Array.replicate 834 none
  statics := none }

def pool6 : Array CpInfo := pool [(1, u "java/lang/Cloneable"), (0, .class_ 1), (0, u "java/lang/Object"), (0, .class_ 3)] 3

/-- java/lang/Cloneable -/
def k6 : Class := { plain "java/lang/Cloneable" (some 0) with
  accessFlags := 1537
  interfaces := #[]
  cf := some (fileOf pool6 2 #[] #[] 1537 4 #[] #[])
  fields := #[]
  methods := #[]
  instanceTypes := #[]
  staticTypes := #[]
  resolved := Array.replicate 8 none
  statics := none }

def pool7 : Array CpInfo := pool [(1, u "java/io/Serializable"), (0, .class_ 1), (0, u "java/lang/Object"), (0, .class_ 3)] 3

/-- java/io/Serializable -/
def k7 : Class := { plain "java/io/Serializable" (some 0) with
  accessFlags := 1537
  interfaces := #[]
  cf := some (fileOf pool7 2 #[] #[] 1537 4 #[] #[])
  fields := #[]
  methods := #[]
  instanceTypes := #[]
  staticTypes := #[]
  resolved := Array.replicate 8 none
  statics := none }

/-- the primitive byte -/
def k8 : Class := { plain "byte" none with kind := .primitive 'B', accessFlags := 0x411 }
/-- [B -/
def k9 : Class := { plain "[B" (some 0) with kind := .array 8 .byte, interfaces := #[6, 7], accessFlags := 1041 }

/-- the primitive int -/
def k10 : Class := { plain "int" none with kind := .primitive 'I', accessFlags := 0x411 }
/-- [I -/
def k11 : Class := { plain "[I" (some 0) with kind := .array 10 .int, interfaces := #[6, 7], accessFlags := 1041 }

def heap : Heap := #[{ cls := 2, slots := #[.ref 1], vm := .statics 2 },
  { cls := 11, slots := #[], vm := .none }]
def classes : Array Class := #[k0, k1, k2, k3, k4, k5, k6, k7, k8, k9, k10, k11]
def interned : List (Array UInt16 × Addr) := []
def slotsUsed : Nat := 1
def theMethod : MethodId := ⟨1, 1⟩
def args0 : Array Value := #[.long 5, .long 2, .long 7, .long 1, .int 15]
def aboutOver (below : List Frame) : State where
  vm := { classes := classes, interned := interned.toArray }
  heap := heap
  slotsUsed := slotsUsed
  threads := #[{ frames := .invoking theMethod args0 :: below }]
def below0 : List Frame := [.native { method := ⟨0, 0⟩, args := #[] }]
def about1 : State := aboutOver below0
def p0 : Program := .bare "" "" ""
def e0 : Env := launch0.env 0 0 0
theorem w_frames : about1.frames = Frame.invoking theMethod args0 :: below0 := rfl
set_option maxRecDepth 65536 in
theorem w_args : argsFit about1.vm theMethod args0 = true := by decide +kernel
set_option maxRecDepth 65536 in
theorem w_heap : heapFits about1 = true := by decide +kernel
set_option maxRecDepth 65536 in
theorem w_runnable : about1.curStatus? = some .runnable := by decide +kernel
set_option maxRecDepth 65536 in
theorem w_alone : about1.alone = true := by decide +kernel
set_option maxRecDepth 65536 in
theorem w_named : about1.methodNamed? x = some theMethod := by decide +kernel
set_option maxRecDepth 65536 in
theorem w_hears : about1.hears theMethod below0 = true := by decide +kernel
set_option maxRecDepth 65536 in
theorem w_ripe : about1.ripe theMethod args0 below0 = true := by decide +kernel
theorem w_running : about1.status = .running := rfl
set_option maxRecDepth 65536 in
theorem w_room : about1.hasRoom e0.platform room_1 = true :=
  launch0.hasRoom_least _ room_1 (by decide +kernel) (by decide +kernel) (by decide +kernel) (by decide +kernel) (by decide +kernel) (by decide +kernel)
theorem allAtoms_all (ts : List Jvm.Cond) (a : Array Jvm.Value) (st : Jvm.State) : (allAtoms ts).before a st = ts.all (fun c => c.before a st) := by
  induction ts with
  | nil => rfl
  | cons c t ih =>
    show (Jvm.Cond.and c (allAtoms t)).before a st = _
    rw [Jvm.Cond.before_and, ih, List.all_cons]
def words1 : List Jvm.Cond := Jvm.Cond.code x code maxLocals ret :: tables_1
/-- a 'code' word, met by the world's own term for the bytes: nothing is compared byte by byte -/
theorem code_word {y : MethodName} {bytes : ByteArray} {mx : Nat} {rt : Option FieldType} {a : Array Value} {s : State} {m : MethodId} {meth : Method} {c : Code} (h1 : s.methodNamed? y = some m) (h2 : s.vm.method? m = some meth) (h3 : meth.code = some c) (h4 : c.code = bytes)
    (h5 : (c.maxLocals == mx && c.exceptionTable.isEmpty && decide (c.maxStack ≤ mostOperands) && decide (meth.sig.returnType = rt) && !meth.locks && decide (parseMethodDescriptor y.desc = some meth.sig)) = true) : (Jvm.Cond.code y bytes mx rt).before a s = true := by
  simp only [Bool.and_eq_true, beq_iff_eq, Bool.not_eq_true', decide_eq_true_eq] at h5
  obtain ⟨⟨⟨⟨⟨g1, g2⟩, g3⟩, g4⟩, g5⟩, g6⟩ := h5
  simp [Cond.before, Cond.holds, Cond.value, h1, h2, h3, h4, g1, g2, g3, g4, g5, g6]
def isCode : Jvm.Cond → Bool
  | .code _ _ _ _ => true
  | _ => false
theorem all_split {L : List Jvm.Cond} {P : Jvm.Cond → Bool} (h1 : L.all (fun c => isCode c || P c) = true) (h2 : ∀ c ∈ L.filter isCode, P c = true) : L.all P = true := by
  refine List.all_eq_true.mpr fun c hc => ?_
  have h := List.all_eq_true.mp h1 c hc
  rcases Bool.eq_false_or_eq_true (isCode c) with hi | hi
  · exact h2 c (List.mem_filter.mpr ⟨hc, hi⟩)
  · simpa [hi] using h
set_option maxRecDepth 65536 in
theorem w_c0 : (Jvm.Cond.code x code maxLocals ret).before args0 about1 = true := code_word (m := ⟨1, 1⟩) (meth := k1m1) (c := k1c1) (by decide +kernel) rfl rfl rfl (by decide +kernel)
set_option maxRecDepth 65536 in
theorem w_c1 : (Jvm.Cond.code ({ cls := "com/example/rootcast/rootcast/tree/Children", name := "<init>", desc := "(I)V" } : Jvm.MethodName) prog_127_method_1_code (2 : Nat) (Option.none : Option Jvm.ClassFile.FieldType)).before args0 about1 = true := code_word (m := ⟨2, 0⟩) (meth := k2m0) (c := k2c0) (by decide +kernel) rfl rfl rfl (by decide +kernel)
set_option maxRecDepth 65536 in
theorem w_c2 : (Jvm.Cond.code ({ cls := "java/lang/Object", name := "<init>", desc := "()V" } : Jvm.MethodName) object_method_1_code (1 : Nat) (Option.none : Option Jvm.ClassFile.FieldType)).before args0 about1 = true := code_word (m := ⟨0, 0⟩) (meth := k0m0) (c := k0c0) (by decide +kernel) rfl rfl rfl (by decide +kernel)
set_option maxRecDepth 65536 in
theorem w_c3 : (Jvm.Cond.code ({ cls := "com/example/rootcast/rootcast/tree/Children", name := "add", desc := "(II)V" } : Jvm.MethodName) prog_127_method_7_code (4 : Nat) (Option.none : Option Jvm.ClassFile.FieldType)).before args0 about1 = true := code_word (m := ⟨2, 1⟩) (meth := k2m1) (c := k2c1) (by decide +kernel) rfl rfl rfl (by decide +kernel)
set_option maxRecDepth 65536 in
theorem w_c4 : (Jvm.Cond.code ({ cls := "java/lang/Math", name := "max", desc := "(II)I" } : Jvm.MethodName) jdk_29_method_65_code (2 : Nat) (Option.some Jvm.ClassFile.FieldType.int)).before args0 about1 = true := code_word (m := ⟨3, 1⟩) (meth := k3m1) (c := k3c1) (by decide +kernel) rfl rfl rfl (by decide +kernel)
set_option maxRecDepth 65536 in
theorem w_c5 : (Jvm.Cond.code ({ cls := "java/lang/Math", name := "min", desc := "(II)I" } : Jvm.MethodName) jdk_29_method_69_code (2 : Nat) (Option.some Jvm.ClassFile.FieldType.int)).before args0 about1 = true := code_word (m := ⟨3, 2⟩) (meth := k3m2) (c := k3c2) (by decide +kernel) rfl rfl rfl (by decide +kernel)
set_option maxRecDepth 65536 in
theorem w_c6 : (Jvm.Cond.code ({ cls := "java/util/Arrays", name := "copyOf", desc := "([II)[I" } : Jvm.MethodName) jdk_65_method_123_code (3 : Nat) (Option.some (Jvm.ClassFile.FieldType.array Jvm.ClassFile.FieldType.int))).before args0 about1 = true := code_word (m := ⟨4, 1⟩) (meth := k4m1) (c := k4c1) (by decide +kernel) rfl rfl rfl (by decide +kernel)
set_option maxRecDepth 65536 in
theorem w_c7 : (Jvm.Cond.code ({ cls := "com/example/rootcast/rootcast/tree/Children", name := "peers", desc := "()I" } : Jvm.MethodName) prog_127_method_18_code (3 : Nat) (Option.some Jvm.ClassFile.FieldType.int)).before args0 about1 = true := code_word (m := ⟨2, 7⟩) (meth := k2m7) (c := k2c7) (by decide +kernel) rfl rfl rfl (by decide +kernel)
set_option maxRecDepth 65536 in
theorem w_c8 : (Jvm.Cond.code ({ cls := "com/example/rootcast/rootcast/tree/Children", name := "removeStopped", desc := "(II)V" } : Jvm.MethodName) prog_127_method_9_code (4 : Nat) (Option.none : Option Jvm.ClassFile.FieldType)).before args0 about1 = true := code_word (m := ⟨2, 3⟩) (meth := k2m3) (c := k2c3) (by decide +kernel) rfl rfl rfl (by decide +kernel)
set_option maxRecDepth 65536 in
theorem w_c9 : (Jvm.Cond.code ({ cls := "com/example/rootcast/rootcast/tree/Children", name := "remove", desc := "(I)V" } : Jvm.MethodName) prog_127_method_8_code (2 : Nat) (Option.none : Option Jvm.ClassFile.FieldType)).before args0 about1 = true := code_word (m := ⟨2, 2⟩) (meth := k2m2) (c := k2c2) (by decide +kernel) rfl rfl rfl (by decide +kernel)
set_option maxRecDepth 65536 in
theorem w_c10 : (Jvm.Cond.code ({ cls := "com/example/rootcast/rootcast/tree/Children", name := "cameBack", desc := "(II)V" } : Jvm.MethodName) prog_127_method_10_code (4 : Nat) (Option.none : Option Jvm.ClassFile.FieldType)).before args0 about1 = true := code_word (m := ⟨2, 4⟩) (meth := k2m4) (c := k2c4) (by decide +kernel) rfl rfl rfl (by decide +kernel)
set_option maxRecDepth 65536 in
theorem w_c11 : (Jvm.Cond.code ({ cls := "com/example/rootcast/rootcast/tree/Children", name := "beaten", desc := "()V" } : Jvm.MethodName) prog_127_method_11_code (2 : Nat) (Option.none : Option Jvm.ClassFile.FieldType)).before args0 about1 = true := code_word (m := ⟨2, 5⟩) (meth := k2m5) (c := k2c5) (by decide +kernel) rfl rfl rfl (by decide +kernel)
set_option maxRecDepth 65536 in
theorem w_c12 : (Jvm.Cond.code ({ cls := "com/example/rootcast/rootcast/tree/Children", name := "forget", desc := "(I)V" } : Jvm.MethodName) prog_127_method_13_code (2 : Nat) (Option.none : Option Jvm.ClassFile.FieldType)).before args0 about1 = true := code_word (m := ⟨2, 6⟩) (meth := k2m6) (c := k2c6) (by decide +kernel) rfl rfl rfl (by decide +kernel)
def codes1 : List Jvm.Cond := [Jvm.Cond.code x code maxLocals ret, Jvm.Cond.code ({ cls := "com/example/rootcast/rootcast/tree/Children", name := "<init>", desc := "(I)V" } : Jvm.MethodName) prog_127_method_1_code (2 : Nat) (Option.none : Option Jvm.ClassFile.FieldType), Jvm.Cond.code ({ cls := "java/lang/Object", name := "<init>", desc := "()V" } : Jvm.MethodName) object_method_1_code (1 : Nat) (Option.none : Option Jvm.ClassFile.FieldType), Jvm.Cond.code ({ cls := "com/example/rootcast/rootcast/tree/Children", name := "add", desc := "(II)V" } : Jvm.MethodName) prog_127_method_7_code (4 : Nat) (Option.none : Option Jvm.ClassFile.FieldType), Jvm.Cond.code ({ cls := "java/lang/Math", name := "max", desc := "(II)I" } : Jvm.MethodName) jdk_29_method_65_code (2 : Nat) (Option.some Jvm.ClassFile.FieldType.int), Jvm.Cond.code ({ cls := "java/lang/Math", name := "min", desc := "(II)I" } : Jvm.MethodName) jdk_29_method_69_code (2 : Nat) (Option.some Jvm.ClassFile.FieldType.int), Jvm.Cond.code ({ cls := "java/util/Arrays", name := "copyOf", desc := "([II)[I" } : Jvm.MethodName) jdk_65_method_123_code (3 : Nat) (Option.some (Jvm.ClassFile.FieldType.array Jvm.ClassFile.FieldType.int)), Jvm.Cond.code ({ cls := "com/example/rootcast/rootcast/tree/Children", name := "peers", desc := "()I" } : Jvm.MethodName) prog_127_method_18_code (3 : Nat) (Option.some Jvm.ClassFile.FieldType.int), Jvm.Cond.code ({ cls := "com/example/rootcast/rootcast/tree/Children", name := "removeStopped", desc := "(II)V" } : Jvm.MethodName) prog_127_method_9_code (4 : Nat) (Option.none : Option Jvm.ClassFile.FieldType), Jvm.Cond.code ({ cls := "com/example/rootcast/rootcast/tree/Children", name := "remove", desc := "(I)V" } : Jvm.MethodName) prog_127_method_8_code (2 : Nat) (Option.none : Option Jvm.ClassFile.FieldType), Jvm.Cond.code ({ cls := "com/example/rootcast/rootcast/tree/Children", name := "cameBack", desc := "(II)V" } : Jvm.MethodName) prog_127_method_10_code (4 : Nat) (Option.none : Option Jvm.ClassFile.FieldType), Jvm.Cond.code ({ cls := "com/example/rootcast/rootcast/tree/Children", name := "beaten", desc := "()V" } : Jvm.MethodName) prog_127_method_11_code (2 : Nat) (Option.none : Option Jvm.ClassFile.FieldType), Jvm.Cond.code ({ cls := "com/example/rootcast/rootcast/tree/Children", name := "forget", desc := "(I)V" } : Jvm.MethodName) prog_127_method_13_code (2 : Nat) (Option.none : Option Jvm.ClassFile.FieldType)]
set_option maxRecDepth 65536 in
theorem codes_eq : words1.filter isCode = codes1 := rfl
theorem w_codes : ∀ c ∈ words1.filter isCode, c.before args0 about1 = true := by
  rw [codes_eq]
  intro c hc
  simp only [codes1, List.mem_cons, List.not_mem_nil, or_false] at hc
  rcases hc with rfl | rfl | rfl | rfl | rfl | rfl | rfl | rfl | rfl | rfl | rfl | rfl | rfl
  · exact w_c0
  · exact w_c1
  · exact w_c2
  · exact w_c3
  · exact w_c4
  · exact w_c5
  · exact w_c6
  · exact w_c7
  · exact w_c8
  · exact w_c9
  · exact w_c10
  · exact w_c11
  · exact w_c12
set_option maxRecDepth 65536 in
theorem w_t1 : (words1.take 24).all (fun c => isCode c || c.before args0 about1) = true := by decide +kernel
set_option maxRecDepth 65536 in
theorem w_t2 : ((words1.drop 24).take 24).all (fun c => isCode c || c.before args0 about1) = true := by decide +kernel
set_option maxRecDepth 65536 in
theorem w_t3 : (((words1.drop 24).drop 24).take 24).all (fun c => isCode c || c.before args0 about1) = true := by decide +kernel
set_option maxRecDepth 65536 in
theorem w_t4 : (((words1.drop 24).drop 24).drop 24).all (fun c => isCode c || c.before args0 about1) = true := by decide +kernel
theorem w_tables : (allAtoms (Jvm.Cond.code x code maxLocals ret :: tables_1)).before args0 about1 = true := by
  rw [allAtoms_all]
  show words1.all (fun c => c.before args0 about1) = true
  refine all_split ?_ w_codes
  rw [← List.take_append_drop 24 words1, List.all_append, w_t1, ← List.take_append_drop 24 (words1.drop 24), List.all_append, w_t2, ← List.take_append_drop 24 ((words1.drop 24).drop 24), List.all_append, w_t3, w_t4]
  rfl
set_option maxRecDepth 65536 in
theorem w_case : (Jvm.Cond.and given_1 narrow_1).before args0 about1 = true := by decide +kernel
theorem w_applies : (headSpec (Jvm.Cond.code x code maxLocals ret :: tables_1) room_1).applies x e0.platform about1 = true :=
  (Spec.applies_iff w_frames).mpr ⟨w_running, w_runnable, w_alone, w_named, w_hears, w_ripe, w_room, w_tables⟩
theorem atStart : AtStart classFile x code maxLocals ret World_1 tables_1 room_1 Calls_1 rest_1 Pre_1 launch0 p0 e0 about1 theMethod args0 below0 :=
  ⟨lists_1, trivial, launch0.admits_env _ _ _, launch0.least_env, fairChoices_fair.cas, fairChoices_fair.clock, w_frames, w_args, w_heap, w_applies, trivial, trivial, w_case⟩
end start1
theorem witness_1 : WitnessClaimed_1 := ⟨start1.p0, start1.e0, start1.about1, start1.theMethod, start1.args0, start1.below0, start1.atStart⟩
end Jvm.Pilot.@@N@@
