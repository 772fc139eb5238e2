import JvmDerived
import JvmDerived.Pilot.@@N@@Statement
import JvmDerived.Pilot.@@N@@Code
set_option linter.unusedVariables false
set_option linter.unusedSimpArgs false
namespace Jvm.Pilot.@@N@@
open Jvm Jvm.ClassFile Sem Op Lib Jvm.Free Jvm.Stand Jvm.LawKit Jvm.RoadKit Bundle Jvm.Pilot.@@N@@.Jvm.D
/-! own kit: the walk in program order: own_G says that from this frame on the run ends as promised -/
def own_G (tb : Tables) (e : Env) (below : List Frame) (P : Outcome → State → Prop) (T : State) (f : JFrame) : Prop :=
  ∃ s₂ o, Steps tb e below (T.setTop f) s₂ ∧ s₂.status = .running ∧ Ended s₂ below o ∧ P o s₂
def own_P (s : State) (Q : Option Value → Heap → List Loc → Prop) (C S : Nat) (o : Outcome) (U : State) : Prop :=
  ∃ v L, o = .returned v ∧ Q v U.heap L ∧ FrameEnd s o U L C S
theorem own_go {tb : Tables} {e : Env} {below : List Frame} {P : Outcome → State → Prop} {T T' : State} {f f' : JFrame} (st : ∀ target, Steps tb e below (T'.setTop f') target → Steps tb e below (T.setTop f) target) (k : own_G tb e below P T' f') : own_G tb e below P T f := by
  obtain ⟨s₂, o, h1, h2⟩ := k
  exact ⟨s₂, o, st _ h1, h2⟩
section OwnKit
variable {p : Program} {l : Launch} {e : Env} {R : Room} {s : State} {m : MethodId} {args : Array Value} {below : List Frame} {meth : Method} {c : Code} {T : State} {locs : List Loc} {cells slots : Nat} {Z : State} {a0 : Array Value} {h : Heap} {P : Outcome → State → Prop}
theorem own_body {y : MethodName} {bytes : ByteArray} {maxL : Nat} {ret : Option FieldType} {ws : List Jvm.Cond} {rm : Room} {as' : Array Value} {Q : Option Value → Heap → List Loc → Prop} {C S : Nat} (pn : plainFor y = true)
    (body : ∀ p e s m below meth c s₁, p.tables.exec = Jvm.exec → c.code = bytes → c.maxLocals = maxL → s.vm.findClass y.cls = some m.cls → meth.name = y.name → meth.locks = false → meth.sig.returnType = ret → Z.Warmed39 s.vm → Stand p l e rm s m as' below meth c s₁ [] 0 0 → s₁.heap = h →
      own_G p.tables e below (own_P s Q C S) s₁ (entryFrame m as' maxL)) :
    MetFree l y (head1 (Jvm.Cond.code y bytes maxL ret :: ws) rm) (fun a U => a = as' ∧ Z.Warmed39 U.vm ∧ U.heap = h) (fun _ _ _ _ _ => True) (fun _ U o U' => ∃ v L, o = .returned v ∧ Q v U'.heap L ∧ FrameEnd U o U' L C S) := by
  refine MetFree.of_bodySF (maxLocals := maxL) (ret := ret) (code := bytes) pn hisR ?_
  intro p e s m args below meth c s₁ Bd hml0 hP hK
  obtain ⟨rfl, hZ, hh⟩ := hP
  exact body p e s m below meth c s₁ Bd.exec Bd.bytes hml0 (findClass_of_methodNamed Bd.named) (name_of_methodNamed Bd.named Bd.method).1 (BodyLoose.notSynchronized Bd) Bd.returns hZ (Stand.of_body Bd) (by rw [← hh, Bd.state]; rfl)
theorem own_ret {v : Option Value} {f : JFrame} {Q : Option Value → Heap → List Loc → Prop} {C S : Nat} (X : Stand p l e R s m args below meth c T locs cells slots) (hlk : meth.locks = false) (hv : meth.sig.returnType = none → v = none)
    (st : ∀ fs, (∀ (f : JFrame) (acts : List Action), f.method = m → f.locked = none → f.entered = [] → (doReturn e (T.setTop f) acts v).1 = T.setFrames fs) → Steps p.tables e below (T.setTop f) (T.setFrames fs)) (hC : cells ≤ C) (hS : slots ≤ S) (hq : Q v T.heap locs) : own_G p.tables e below (own_P s Q C S) T f := by
  obtain ⟨fs, hr, hrun, hended, hW, hsame⟩ := X.leave (v := v) hv hlk
  exact ⟨_, _, st fs hr, hrun, hended, _, _, rfl, hq, ⟨_, rfl⟩, hW, hsame.mono hC hS⟩
theorem own_retN {Q : Option Value → Heap → List Loc → Prop} {C S : Nat} (X : Stand p l e R s m args below meth c T locs cells slots) (hx : p.tables.exec = Jvm.exec) (hlk : meth.locks = false) {t : FieldType} (hret : meth.sig.returnType = some t) (ht : t = .boolean ∨ t = .byte ∨ t = .char ∨ t = .short) {pc : Nat} {Ls : Array Slot} {z : Int32} {rest : List Value} (hd : decode c.code pc = .ok (.ireturn, 1)) (hC : cells ≤ C) (hS : slots ≤ S) (hq : Q (some (.int (nar t z))) T.heap locs) :
    own_G p.tables e below (own_P s Q C S) T (mkF m pc Ls (.int z :: rest)) :=
  own_ret X hlk (fun h => by rw [hret] at h; cases h) (fun fs hr => retN X hx hret ht hd hr) hC hS hq
theorem own_retI {Q : Option Value → Heap → List Loc → Prop} {C S : Nat} (X : Stand p l e R s m args below meth c T locs cells slots) (hx : p.tables.exec = Jvm.exec) (hlk : meth.locks = false) (hret : meth.sig.returnType = some .int) {pc : Nat} {Ls : Array Slot} {z : Int32} {rest : List Value} (hd : decode c.code pc = .ok (.ireturn, 1)) (hC : cells ≤ C) (hS : slots ≤ S) (hq : Q (some (.int z)) T.heap locs) :
    own_G p.tables e below (own_P s Q C S) T (mkF m pc Ls (.int z :: rest)) :=
  own_ret X hlk (fun h => by rw [hret] at h; cases h) (fun fs hr => retOut X hx hret rfl (Or.inl ⟨rfl, Or.inl rfl, z, rfl⟩) hd hr) hC hS hq
theorem own_retJ {Q : Option Value → Heap → List Loc → Prop} {C S : Nat} (X : Stand p l e R s m args below meth c T locs cells slots) (hx : p.tables.exec = Jvm.exec) (hlk : meth.locks = false) (hret : meth.sig.returnType = some .long) {pc : Nat} {Ls : Array Slot} {z : Int64} {rest : List Value} (hd : decode c.code pc = .ok (.lreturn, 1)) (hC : cells ≤ C) (hS : slots ≤ S) (hq : Q (some (.long z)) T.heap locs) :
    own_G p.tables e below (own_P s Q C S) T (mkF m pc Ls (.long z :: rest)) :=
  own_ret X hlk (fun h => by rw [hret] at h; cases h) (fun fs hr => retOut X hx hret rfl (Or.inr (Or.inl ⟨rfl, rfl, z, rfl⟩)) hd hr) hC hS hq
theorem own_retA {Q : Option Value → Heap → List Loc → Prop} {C S : Nat} (X : Stand p l e R s m args below meth c T locs cells slots) (hx : p.tables.exec = Jvm.exec) (hlk : meth.locks = false) {t : FieldType} (hret : meth.sig.returnType = some t) (ht : t.isReference = true) {pc : Nat} {Ls : Array Slot} {w : Value} {rest : List Value} (hw : w.isRef = true) (hn : narrow t w = w) (hd : decode c.code pc = .ok (.areturn, 1)) (hC : cells ≤ C) (hS : slots ≤ S) (hq : Q (some w) T.heap locs) :
    own_G p.tables e below (own_P s Q C S) T (mkF m pc Ls (w :: rest)) :=
  own_ret X hlk (fun h => by rw [hret] at h; cases h) (fun fs hr => retOut X hx hret hn (Or.inr (Or.inr (Or.inr (Or.inr ⟨rfl, ht, hw⟩)))) hd hr) hC hS hq
theorem own_retV {Q : Option Value → Heap → List Loc → Prop} {C S : Nat} (X : Stand p l e R s m args below meth c T locs cells slots) (hx : p.tables.exec = Jvm.exec) (hlk : meth.locks = false) (hret : meth.sig.returnType = none) {pc : Nat} {Ls : Array Slot} (hd : decode c.code pc = .ok (.return_, 1)) (hC : cells ≤ C) (hS : slots ≤ S) (hq : Q none T.heap locs) :
    own_G p.tables e below (own_P s Q C S) T (mkF m pc Ls []) :=
  own_ret X hlk (fun h => rfl) (fun fs hr => X.returnOut hx hret hd hr) hC hS hq
theorem own_iadd (X : Stand p l e R s m args below meth c T locs cells slots) (hx : p.tables.exec = Jvm.exec) {pc pc' : Nat} {Ls : Array Slot} {x y z : Int32} {rest : List Value} (hd : decode c.code pc = .ok (.iadd, 1)) (hz : x + y = z) (hp : pc + 1 = pc') (k : own_G p.tables e below P T (mkF m pc' Ls (.int z :: rest))) : own_G p.tables e below P T (mkF m pc Ls (.int y :: .int x :: rest)) := by
  subst hp; subst hz; exact own_go (fun t q => XS.iadd X.here hx rfl hd rfl q) k
theorem own_isub (X : Stand p l e R s m args below meth c T locs cells slots) (hx : p.tables.exec = Jvm.exec) {pc pc' : Nat} {Ls : Array Slot} {x y z : Int32} {rest : List Value} (hd : decode c.code pc = .ok (.isub, 1)) (hz : x - y = z) (hp : pc + 1 = pc') (k : own_G p.tables e below P T (mkF m pc' Ls (.int z :: rest))) : own_G p.tables e below P T (mkF m pc Ls (.int y :: .int x :: rest)) := by
  subst hp; subst hz; exact own_go (fun t q => XS.isub X.here hx rfl hd rfl q) k
theorem own_imul (X : Stand p l e R s m args below meth c T locs cells slots) (hx : p.tables.exec = Jvm.exec) {pc pc' : Nat} {Ls : Array Slot} {x y z : Int32} {rest : List Value} (hd : decode c.code pc = .ok (.imul, 1)) (hz : x * y = z) (hp : pc + 1 = pc') (k : own_G p.tables e below P T (mkF m pc' Ls (.int z :: rest))) : own_G p.tables e below P T (mkF m pc Ls (.int y :: .int x :: rest)) := by
  subst hp; subst hz; exact own_go (fun t q => XS.imul X.here hx rfl hd rfl q) k
theorem own_iand (X : Stand p l e R s m args below meth c T locs cells slots) (hx : p.tables.exec = Jvm.exec) {pc pc' : Nat} {Ls : Array Slot} {x y z : Int32} {rest : List Value} (hd : decode c.code pc = .ok (.iand, 1)) (hz : x &&& y = z) (hp : pc + 1 = pc') (k : own_G p.tables e below P T (mkF m pc' Ls (.int z :: rest))) : own_G p.tables e below P T (mkF m pc Ls (.int y :: .int x :: rest)) := by
  subst hp; subst hz; exact own_go (fun t q => XS.iand X.here hx rfl hd rfl q) k
theorem own_ior (X : Stand p l e R s m args below meth c T locs cells slots) (hx : p.tables.exec = Jvm.exec) {pc pc' : Nat} {Ls : Array Slot} {x y z : Int32} {rest : List Value} (hd : decode c.code pc = .ok (.ior, 1)) (hz : x ||| y = z) (hp : pc + 1 = pc') (k : own_G p.tables e below P T (mkF m pc' Ls (.int z :: rest))) : own_G p.tables e below P T (mkF m pc Ls (.int y :: .int x :: rest)) := by
  subst hp; subst hz; exact own_go (fun t q => XS.ior X.here hx rfl hd rfl q) k
theorem own_ixor (X : Stand p l e R s m args below meth c T locs cells slots) (hx : p.tables.exec = Jvm.exec) {pc pc' : Nat} {Ls : Array Slot} {x y z : Int32} {rest : List Value} (hd : decode c.code pc = .ok (.ixor, 1)) (hz : x ^^^ y = z) (hp : pc + 1 = pc') (k : own_G p.tables e below P T (mkF m pc' Ls (.int z :: rest))) : own_G p.tables e below P T (mkF m pc Ls (.int y :: .int x :: rest)) := by
  subst hp; subst hz; exact own_go (fun t q => XS.ixor X.here hx rfl hd rfl q) k
theorem own_ladd (X : Stand p l e R s m args below meth c T locs cells slots) (hx : p.tables.exec = Jvm.exec) {pc pc' : Nat} {Ls : Array Slot} {x y z : Int64} {rest : List Value} (hd : decode c.code pc = .ok (.ladd, 1)) (hz : x + y = z) (hp : pc + 1 = pc') (k : own_G p.tables e below P T (mkF m pc' Ls (.long z :: rest))) : own_G p.tables e below P T (mkF m pc Ls (.long y :: .long x :: rest)) := by
  subst hp; subst hz; exact own_go (fun t q => XS.ladd X.here hx rfl hd rfl q) k
theorem own_lsub (X : Stand p l e R s m args below meth c T locs cells slots) (hx : p.tables.exec = Jvm.exec) {pc pc' : Nat} {Ls : Array Slot} {x y z : Int64} {rest : List Value} (hd : decode c.code pc = .ok (.lsub, 1)) (hz : x - y = z) (hp : pc + 1 = pc') (k : own_G p.tables e below P T (mkF m pc' Ls (.long z :: rest))) : own_G p.tables e below P T (mkF m pc Ls (.long y :: .long x :: rest)) := by
  subst hp; subst hz; exact own_go (fun t q => XS.lsub X.here hx rfl hd rfl q) k
theorem own_lmul (X : Stand p l e R s m args below meth c T locs cells slots) (hx : p.tables.exec = Jvm.exec) {pc pc' : Nat} {Ls : Array Slot} {x y z : Int64} {rest : List Value} (hd : decode c.code pc = .ok (.lmul, 1)) (hz : x * y = z) (hp : pc + 1 = pc') (k : own_G p.tables e below P T (mkF m pc' Ls (.long z :: rest))) : own_G p.tables e below P T (mkF m pc Ls (.long y :: .long x :: rest)) := by
  subst hp; subst hz; exact own_go (fun t q => XS.lmul X.here hx rfl hd rfl q) k
theorem own_land (X : Stand p l e R s m args below meth c T locs cells slots) (hx : p.tables.exec = Jvm.exec) {pc pc' : Nat} {Ls : Array Slot} {x y z : Int64} {rest : List Value} (hd : decode c.code pc = .ok (.land, 1)) (hz : x &&& y = z) (hp : pc + 1 = pc') (k : own_G p.tables e below P T (mkF m pc' Ls (.long z :: rest))) : own_G p.tables e below P T (mkF m pc Ls (.long y :: .long x :: rest)) := by
  subst hp; subst hz; exact own_go (fun t q => XS.land X.here hx rfl hd rfl q) k
theorem own_lor (X : Stand p l e R s m args below meth c T locs cells slots) (hx : p.tables.exec = Jvm.exec) {pc pc' : Nat} {Ls : Array Slot} {x y z : Int64} {rest : List Value} (hd : decode c.code pc = .ok (.lor, 1)) (hz : x ||| y = z) (hp : pc + 1 = pc') (k : own_G p.tables e below P T (mkF m pc' Ls (.long z :: rest))) : own_G p.tables e below P T (mkF m pc Ls (.long y :: .long x :: rest)) := by
  subst hp; subst hz; exact own_go (fun t q => XS.lor X.here hx rfl hd rfl q) k
theorem own_lxor (X : Stand p l e R s m args below meth c T locs cells slots) (hx : p.tables.exec = Jvm.exec) {pc pc' : Nat} {Ls : Array Slot} {x y z : Int64} {rest : List Value} (hd : decode c.code pc = .ok (.lxor, 1)) (hz : x ^^^ y = z) (hp : pc + 1 = pc') (k : own_G p.tables e below P T (mkF m pc' Ls (.long z :: rest))) : own_G p.tables e below P T (mkF m pc Ls (.long y :: .long x :: rest)) := by
  subst hp; subst hz; exact own_go (fun t q => XS.lxor X.here hx rfl hd rfl q) k
theorem own_ishl (X : Stand p l e R s m args below meth c T locs cells slots) (hx : p.tables.exec = Jvm.exec) {pc pc' : Nat} {Ls : Array Slot} {x y : Int32} {rest : List Value} (hd : decode c.code pc = .ok (.ishl, 1)) (hp : pc + 1 = pc') (k : own_G p.tables e below P T (mkF m pc' Ls (.int (x <<< (y &&& 31)) :: rest))) : own_G p.tables e below P T (mkF m pc Ls (.int y :: .int x :: rest)) := by
  subst hp; exact own_go (fun t q => XS.ishl X.here hx rfl hd rfl q) k
theorem own_ishr (X : Stand p l e R s m args below meth c T locs cells slots) (hx : p.tables.exec = Jvm.exec) {pc pc' : Nat} {Ls : Array Slot} {x y : Int32} {rest : List Value} (hd : decode c.code pc = .ok (.ishr, 1)) (hp : pc + 1 = pc') (k : own_G p.tables e below P T (mkF m pc' Ls (.int (x >>> (y &&& 31)) :: rest))) : own_G p.tables e below P T (mkF m pc Ls (.int y :: .int x :: rest)) := by
  subst hp; exact own_go (fun t q => XS.ishr X.here hx rfl hd rfl q) k
theorem own_iushr (X : Stand p l e R s m args below meth c T locs cells slots) (hx : p.tables.exec = Jvm.exec) {pc pc' : Nat} {Ls : Array Slot} {x y : Int32} {rest : List Value} (hd : decode c.code pc = .ok (.iushr, 1)) (hp : pc + 1 = pc') (k : own_G p.tables e below P T (mkF m pc' Ls (.int ((x.toUInt32 >>> (y &&& 31).toUInt32).toInt32) :: rest))) : own_G p.tables e below P T (mkF m pc Ls (.int y :: .int x :: rest)) := by
  subst hp; exact own_go (fun t q => XS.iushr X.here hx rfl hd rfl q) k
theorem own_lshl (X : Stand p l e R s m args below meth c T locs cells slots) (hx : p.tables.exec = Jvm.exec) {pc pc' : Nat} {Ls : Array Slot} {x : Int64} {y : Int32} {rest : List Value} (hd : decode c.code pc = .ok (.lshl, 1)) (hp : pc + 1 = pc') (k : own_G p.tables e below P T (mkF m pc' Ls (.long (x <<< (y &&& 0x3f).toInt64) :: rest))) : own_G p.tables e below P T (mkF m pc Ls (.int y :: .long x :: rest)) := by
  subst hp; exact own_go (fun t q => XS.lshl X.here hx rfl hd rfl q) k
theorem own_lshr (X : Stand p l e R s m args below meth c T locs cells slots) (hx : p.tables.exec = Jvm.exec) {pc pc' : Nat} {Ls : Array Slot} {x : Int64} {y : Int32} {rest : List Value} (hd : decode c.code pc = .ok (.lshr, 1)) (hp : pc + 1 = pc') (k : own_G p.tables e below P T (mkF m pc' Ls (.long (x >>> (y &&& 0x3f).toInt64) :: rest))) : own_G p.tables e below P T (mkF m pc Ls (.int y :: .long x :: rest)) := by
  subst hp; exact own_go (fun t q => XS.lshr X.here hx rfl hd rfl q) k
theorem own_lushr (X : Stand p l e R s m args below meth c T locs cells slots) (hx : p.tables.exec = Jvm.exec) {pc pc' : Nat} {Ls : Array Slot} {x : Int64} {y : Int32} {rest : List Value} (hd : decode c.code pc = .ok (.lushr, 1)) (hp : pc + 1 = pc') (k : own_G p.tables e below P T (mkF m pc' Ls (.long ((x.toUInt64 >>> (y &&& 0x3f).toInt64.toUInt64).toInt64) :: rest))) : own_G p.tables e below P T (mkF m pc Ls (.int y :: .long x :: rest)) := by
  subst hp; exact own_go (fun t q => XS.lushr X.here hx rfl hd rfl q) k
theorem own_i2l (X : Stand p l e R s m args below meth c T locs cells slots) (hx : p.tables.exec = Jvm.exec) {pc pc' : Nat} {Ls : Array Slot} {x : Int32} {rest : List Value} (hd : decode c.code pc = .ok (.i2l, 1)) (hp : pc + 1 = pc') (k : own_G p.tables e below P T (mkF m pc' Ls (.long (x.toInt64) :: rest))) : own_G p.tables e below P T (mkF m pc Ls (.int x :: rest)) := by
  subst hp; exact own_go (fun t q => XS.i2l X.here hx rfl hd rfl q) k
theorem own_l2i (X : Stand p l e R s m args below meth c T locs cells slots) (hx : p.tables.exec = Jvm.exec) {pc pc' : Nat} {Ls : Array Slot} {x : Int64} {rest : List Value} (hd : decode c.code pc = .ok (.l2i, 1)) (hp : pc + 1 = pc') (k : own_G p.tables e below P T (mkF m pc' Ls (.int (x.toInt32) :: rest))) : own_G p.tables e below P T (mkF m pc Ls (.long x :: rest)) := by
  subst hp; exact own_go (fun t q => XS.l2i X.here hx rfl hd rfl q) k
theorem own_i2b (X : Stand p l e R s m args below meth c T locs cells slots) (hx : p.tables.exec = Jvm.exec) {pc pc' : Nat} {Ls : Array Slot} {x : Int32} {rest : List Value} (hd : decode c.code pc = .ok (.i2b, 1)) (hp : pc + 1 = pc') (k : own_G p.tables e below P T (mkF m pc' Ls (.int (x.toInt8.toInt32) :: rest))) : own_G p.tables e below P T (mkF m pc Ls (.int x :: rest)) := by
  subst hp; exact own_go (fun t q => XS.i2b X.here hx rfl hd rfl q) k
theorem own_i2s (X : Stand p l e R s m args below meth c T locs cells slots) (hx : p.tables.exec = Jvm.exec) {pc pc' : Nat} {Ls : Array Slot} {x : Int32} {rest : List Value} (hd : decode c.code pc = .ok (.i2s, 1)) (hp : pc + 1 = pc') (k : own_G p.tables e below P T (mkF m pc' Ls (.int (x.toInt16.toInt32) :: rest))) : own_G p.tables e below P T (mkF m pc Ls (.int x :: rest)) := by
  subst hp; exact own_go (fun t q => XS.i2s X.here hx rfl hd rfl q) k
theorem own_i2c (X : Stand p l e R s m args below meth c T locs cells slots) (hx : p.tables.exec = Jvm.exec) {pc pc' : Nat} {Ls : Array Slot} {x : Int32} {rest : List Value} (hd : decode c.code pc = .ok (.i2c, 1)) (hp : pc + 1 = pc') (k : own_G p.tables e below P T (mkF m pc' Ls (.int (x.toUInt32.toUInt16.toUInt32.toInt32) :: rest))) : own_G p.tables e below P T (mkF m pc Ls (.int x :: rest)) := by
  subst hp; exact own_go (fun t q => XS.i2c X.here hx rfl hd rfl q) k
theorem own_ineg (X : Stand p l e R s m args below meth c T locs cells slots) (hx : p.tables.exec = Jvm.exec) {pc pc' : Nat} {Ls : Array Slot} {x : Int32} {rest : List Value} (hd : decode c.code pc = .ok (.ineg, 1)) (hp : pc + 1 = pc') (k : own_G p.tables e below P T (mkF m pc' Ls (.int (-x) :: rest))) : own_G p.tables e below P T (mkF m pc Ls (.int x :: rest)) := by
  subst hp; exact own_go (fun t q => XS.ineg X.here hx rfl hd rfl q) k
theorem own_lneg (X : Stand p l e R s m args below meth c T locs cells slots) (hx : p.tables.exec = Jvm.exec) {pc pc' : Nat} {Ls : Array Slot} {x : Int64} {rest : List Value} (hd : decode c.code pc = .ok (.lneg, 1)) (hp : pc + 1 = pc') (k : own_G p.tables e below P T (mkF m pc' Ls (.long (-x) :: rest))) : own_G p.tables e below P T (mkF m pc Ls (.long x :: rest)) := by
  subst hp; exact own_go (fun t q => XS.lneg X.here hx rfl hd rfl q) k
theorem own_lcmp (X : Stand p l e R s m args below meth c T locs cells slots) (hx : p.tables.exec = Jvm.exec) {pc pc' : Nat} {Ls : Array Slot} {x y : Int64} {rest : List Value} (hd : decode c.code pc = .ok (.lcmp, 1)) (hp : pc + 1 = pc') (k : own_G p.tables e below P T (mkF m pc' Ls (.int (lcmpW x y) :: rest))) : own_G p.tables e below P T (mkF m pc Ls (.long y :: .long x :: rest)) := by
  subst hp; exact own_go (fun t q => XS.lcmp X.here hx rfl hd rfl q) k
theorem own_idiv (X : Stand p l e R s m args below meth c T locs cells slots) (hx : p.tables.exec = Jvm.exec) {pc pc' : Nat} {Ls : Array Slot} {x y z : Int32} {rest : List Value} (hd : decode c.code pc = .ok (.idiv, 1)) (hz : x / y = z) (hy : y ≠ 0) (hp : pc + 1 = pc') (k : own_G p.tables e below P T (mkF m pc' Ls (.int z :: rest))) : own_G p.tables e below P T (mkF m pc Ls (.int y :: .int x :: rest)) := by
  subst hp; subst hz; exact own_go (fun t q => XS.idiv X.here hx rfl hd rfl hy q) k
theorem own_irem (X : Stand p l e R s m args below meth c T locs cells slots) (hx : p.tables.exec = Jvm.exec) {pc pc' : Nat} {Ls : Array Slot} {x y : Int32} {rest : List Value} (hd : decode c.code pc = .ok (.irem, 1)) (hy : y ≠ 0) (hp : pc + 1 = pc') (k : own_G p.tables e below P T (mkF m pc' Ls (.int (x % y) :: rest))) : own_G p.tables e below P T (mkF m pc Ls (.int y :: .int x :: rest)) := by
  subst hp; exact own_go (fun t q => iremM X hx rfl hd rfl hy q) k
theorem own_iloadN (X : Stand p l e R s m args below meth c T locs cells slots) (hx : p.tables.exec = Jvm.exec) {pc pc' : Nat} {Ls : Array Slot} {j : Fin 4} {v : Int32} {st : List Value} (hd : decode c.code pc = .ok (.iload_n j, 1)) (hl : Ls[j.val]? = some (.val (.int v))) (hp : pc + 1 = pc') (k : own_G p.tables e below P T (mkF m pc' Ls (.int v :: st))) : own_G p.tables e below P T (mkF m pc Ls (st)) := by
  subst hp; exact own_go (fun t q => XS.iloadN X.here hx rfl hd hl q) k
theorem own_iload (X : Stand p l e R s m args below meth c T locs cells slots) (hx : p.tables.exec = Jvm.exec) {pc pc' : Nat} {Ls : Array Slot} {j : Nat} {v : Int32} {st : List Value} (hd : decode c.code pc = .ok (.iload j, 2)) (hl : Ls[j]? = some (.val (.int v))) (hp : pc + 2 = pc') (k : own_G p.tables e below P T (mkF m pc' Ls (.int v :: st))) : own_G p.tables e below P T (mkF m pc Ls (st)) := by
  subst hp; exact own_go (fun t q => XS.iload X.here hx rfl hd hl q) k
theorem own_lloadN (X : Stand p l e R s m args below meth c T locs cells slots) (hx : p.tables.exec = Jvm.exec) {pc pc' : Nat} {Ls : Array Slot} {j : Fin 4} {v : Int64} {st : List Value} (hd : decode c.code pc = .ok (.lload_n j, 1)) (hl : Ls[j.val]? = some (.val (.long v))) (hp : pc + 1 = pc') (k : own_G p.tables e below P T (mkF m pc' Ls (.long v :: st))) : own_G p.tables e below P T (mkF m pc Ls (st)) := by
  subst hp; exact own_go (fun t q => XS.lloadN X.here hx rfl hd hl q) k
theorem own_lload (X : Stand p l e R s m args below meth c T locs cells slots) (hx : p.tables.exec = Jvm.exec) {pc pc' : Nat} {Ls : Array Slot} {j : Nat} {v : Int64} {st : List Value} (hd : decode c.code pc = .ok (.lload j, 2)) (hl : Ls[j]? = some (.val (.long v))) (hp : pc + 2 = pc') (k : own_G p.tables e below P T (mkF m pc' Ls (.long v :: st))) : own_G p.tables e below P T (mkF m pc Ls (st)) := by
  subst hp; exact own_go (fun t q => XS.lload X.here hx rfl hd hl q) k
theorem own_aloadN (X : Stand p l e R s m args below meth c T locs cells slots) (hx : p.tables.exec = Jvm.exec) {pc pc' : Nat} {Ls : Array Slot} {j : Fin 4} {v : Value} {st : List Value} (hd : decode c.code pc = .ok (.aload_n j, 1)) (hl : Ls[j.val]? = some (.val v)) (hv : v.isRef = true) (hp : pc + 1 = pc') (k : own_G p.tables e below P T (mkF m pc' Ls (v :: st))) : own_G p.tables e below P T (mkF m pc Ls (st)) := by
  subst hp; exact own_go (fun t q => XS.aloadN X.here hx rfl hd hl hv q) k
theorem own_istoreN (X : Stand p l e R s m args below meth c T locs cells slots) (hx : p.tables.exec = Jvm.exec) {pc pc' : Nat} {Ls : Array Slot} {j : Fin 4} {v : Int32} {rest : List Value} {Ls' : Array Slot} (hd : decode c.code pc = .ok (.istore_n j, 1)) (hl : storeLocals Ls j.val (.int v) = some Ls') (hp : pc + 1 = pc') (k : own_G p.tables e below P T (mkF m pc' Ls' (rest))) : own_G p.tables e below P T (mkF m pc Ls (.int v :: rest)) := by
  subst hp; exact own_go (fun t q => XS.istoreN X.here hx rfl hd rfl hl q) k
theorem own_lstoreN (X : Stand p l e R s m args below meth c T locs cells slots) (hx : p.tables.exec = Jvm.exec) {pc pc' : Nat} {Ls : Array Slot} {j : Fin 4} {v : Int64} {rest : List Value} {Ls' : Array Slot} (hd : decode c.code pc = .ok (.lstore_n j, 1)) (hl : storeLocals Ls j.val (.long v) = some Ls') (hp : pc + 1 = pc') (k : own_G p.tables e below P T (mkF m pc' Ls' (rest))) : own_G p.tables e below P T (mkF m pc Ls (.long v :: rest)) := by
  subst hp; exact own_go (fun t q => XS.lstoreN X.here hx rfl hd rfl hl q) k
theorem own_astoreN (X : Stand p l e R s m args below meth c T locs cells slots) (hx : p.tables.exec = Jvm.exec) {pc pc' : Nat} {Ls : Array Slot} {j : Fin 4} {v : Value} {rest : List Value} {Ls' : Array Slot} (hd : decode c.code pc = .ok (.astore_n j, 1)) (hv : v.isRef = true) (hl : storeLocals Ls j.val v = some Ls') (hp : pc + 1 = pc') (k : own_G p.tables e below P T (mkF m pc' Ls' (rest))) : own_G p.tables e below P T (mkF m pc Ls (v :: rest)) := by
  subst hp; exact own_go (fun t q => XS.astoreN X.here hx rfl hd rfl hv hl q) k
theorem own_aload (X : Stand p l e R s m args below meth c T locs cells slots) (hx : p.tables.exec = Jvm.exec) {pc pc' : Nat} {Ls : Array Slot} {j : Nat} {v : Value} {st : List Value} (hd : decode c.code pc = .ok (.aload j, 2)) (hl : Ls[j]? = some (.val v)) (hv : v.isRef = true) (hp : pc + 2 = pc') (k : own_G p.tables e below P T (mkF m pc' Ls (v :: st))) : own_G p.tables e below P T (mkF m pc Ls (st)) := by
  subst hp; exact own_go (fun t q => XS.aload X.here hx rfl hd hl hv q) k
theorem own_istore (X : Stand p l e R s m args below meth c T locs cells slots) (hx : p.tables.exec = Jvm.exec) {pc pc' : Nat} {Ls : Array Slot} {j : Nat} {v : Int32} {rest : List Value} {Ls' : Array Slot} (hd : decode c.code pc = .ok (.istore j, 2)) (hl : storeLocals Ls j (.int v) = some Ls') (hp : pc + 2 = pc') (k : own_G p.tables e below P T (mkF m pc' Ls' (rest))) : own_G p.tables e below P T (mkF m pc Ls (.int v :: rest)) := by
  subst hp; exact own_go (fun t q => XS.istore X.here hx rfl hd rfl hl q) k
theorem own_lstore (X : Stand p l e R s m args below meth c T locs cells slots) (hx : p.tables.exec = Jvm.exec) {pc pc' : Nat} {Ls : Array Slot} {j : Nat} {v : Int64} {rest : List Value} {Ls' : Array Slot} (hd : decode c.code pc = .ok (.lstore j, 2)) (hl : storeLocals Ls j (.long v) = some Ls') (hp : pc + 2 = pc') (k : own_G p.tables e below P T (mkF m pc' Ls' (rest))) : own_G p.tables e below P T (mkF m pc Ls (.long v :: rest)) := by
  subst hp; exact own_go (fun t q => XS.lstore X.here hx rfl hd rfl hl q) k
theorem own_astore (X : Stand p l e R s m args below meth c T locs cells slots) (hx : p.tables.exec = Jvm.exec) {pc pc' : Nat} {Ls : Array Slot} {j : Nat} {v : Value} {rest : List Value} {Ls' : Array Slot} (hd : decode c.code pc = .ok (.astore j, 2)) (hv : v.isRef = true) (hl : storeLocals Ls j v = some Ls') (hp : pc + 2 = pc') (k : own_G p.tables e below P T (mkF m pc' Ls' (rest))) : own_G p.tables e below P T (mkF m pc Ls (v :: rest)) := by
  subst hp; exact own_go (fun t q => XS.astore X.here hx rfl hd rfl hv hl q) k
theorem own_iinc (X : Stand p l e R s m args below meth c T locs cells slots) (hx : p.tables.exec = Jvm.exec) {pc pc' : Nat} {Ls : Array Slot} {j : Nat} {cst : Int} {x : Int32} {st : List Value} {Ls' : Array Slot} (hd : decode c.code pc = .ok (.iinc j cst, 3)) (hl : Ls[j]? = some (.val (.int x))) (hl' : storeLocals Ls j (.int (x + Int32.ofInt cst)) = some Ls') (hp : pc + 3 = pc') (k : own_G p.tables e below P T (mkF m pc' Ls' (st))) : own_G p.tables e below P T (mkF m pc Ls (st)) := by
  subst hp; exact own_go (fun t q => XS.iinc X.here hx rfl hd hl hl' q) k
theorem own_iconst (X : Stand p l e R s m args below meth c T locs cells slots) (hx : p.tables.exec = Jvm.exec) {pc pc' : Nat} {Ls : Array Slot} {i : Int} {st : List Value} (z : Int32) (hd : decode c.code pc = .ok (.iconst i, 1)) (hz : Int32.ofInt i = z) (hp : pc + 1 = pc') (k : own_G p.tables e below P T (mkF m pc' Ls (.int z :: st))) : own_G p.tables e below P T (mkF m pc Ls (st)) := by
  subst hp; subst hz; exact own_go (fun t q => XS.iconst X.here hx rfl hd q) k
theorem own_bipush (X : Stand p l e R s m args below meth c T locs cells slots) (hx : p.tables.exec = Jvm.exec) {pc pc' : Nat} {Ls : Array Slot} {i : Int} {st : List Value} (z : Int32) (hd : decode c.code pc = .ok (.bipush i, 2)) (hz : (Int8.ofInt i).toInt32 = z) (hp : pc + 2 = pc') (k : own_G p.tables e below P T (mkF m pc' Ls (.int z :: st))) : own_G p.tables e below P T (mkF m pc Ls (st)) := by
  subst hp; subst hz; exact own_go (fun t q => XS.bipush X.here hx rfl hd q) k
theorem own_sipush (X : Stand p l e R s m args below meth c T locs cells slots) (hx : p.tables.exec = Jvm.exec) {pc pc' : Nat} {Ls : Array Slot} {i : Int} {st : List Value} (z : Int32) (hd : decode c.code pc = .ok (.sipush i, 3)) (hz : (Int16.ofInt i).toInt32 = z) (hp : pc + 3 = pc') (k : own_G p.tables e below P T (mkF m pc' Ls (.int z :: st))) : own_G p.tables e below P T (mkF m pc Ls (st)) := by
  subst hp; subst hz; exact own_go (fun t q => XS.sipush X.here hx rfl hd q) k
theorem own_lconst (X : Stand p l e R s m args below meth c T locs cells slots) (hx : p.tables.exec = Jvm.exec) {pc pc' : Nat} {Ls : Array Slot} {i : Fin 2} {st : List Value} (z : Int64) (hd : decode c.code pc = .ok (.lconst i, 1)) (hz : Int64.ofNat i = z) (hp : pc + 1 = pc') (k : own_G p.tables e below P T (mkF m pc' Ls (.long z :: st))) : own_G p.tables e below P T (mkF m pc Ls (st)) := by
  subst hp; subst hz; exact own_go (fun t q => XS.lconst X.here hx rfl hd q) k
theorem own_aconstNull (X : Stand p l e R s m args below meth c T locs cells slots) (hx : p.tables.exec = Jvm.exec) {pc pc' : Nat} {Ls : Array Slot} {st : List Value} (hd : decode c.code pc = .ok (.aconst_null, 1)) (hp : pc + 1 = pc') (k : own_G p.tables e below P T (mkF m pc' Ls (.null :: st))) : own_G p.tables e below P T (mkF m pc Ls (st)) := by
  subst hp; exact own_go (fun t q => XS.aconstNull X.here hx rfl hd q) k
theorem own_dup (X : Stand p l e R s m args below meth c T locs cells slots) (hx : p.tables.exec = Jvm.exec) {pc pc' : Nat} {Ls : Array Slot} {v : Value} {rest : List Value} (hd : decode c.code pc = .ok (.dup, 1)) (hc : v.category = 1) (hp : pc + 1 = pc') (k : own_G p.tables e below P T (mkF m pc' Ls (v :: v :: rest))) : own_G p.tables e below P T (mkF m pc Ls (v :: rest)) := by
  subst hp; exact own_go (fun t q => XS.dup X.here hx rfl hd rfl hc q) k
theorem own_pop (X : Stand p l e R s m args below meth c T locs cells slots) (hx : p.tables.exec = Jvm.exec) {pc pc' : Nat} {Ls : Array Slot} {v : Value} {rest : List Value} (hd : decode c.code pc = .ok (.pop, 1)) (hc : v.category = 1) (hp : pc + 1 = pc') (k : own_G p.tables e below P T (mkF m pc' Ls (rest))) : own_G p.tables e below P T (mkF m pc Ls (v :: rest)) := by
  subst hp; exact own_go (fun t q => XS.pop X.here hx rfl hd rfl hc q) k
theorem own_dupX1 (X : Stand p l e R s m args below meth c T locs cells slots) (hx : p.tables.exec = Jvm.exec) {pc pc' : Nat} {Ls : Array Slot} {v w : Value} {rest : List Value} (hd : decode c.code pc = .ok (.dup_x1, 1)) (hc : v.category = 1) (hc' : w.category = 1) (hp : pc + 1 = pc') (k : own_G p.tables e below P T (mkF m pc' Ls (v :: w :: v :: rest))) : own_G p.tables e below P T (mkF m pc Ls (v :: w :: rest)) := by
  subst hp; exact own_go (fun t q => XS.dupX1 X.here hx rfl hd rfl hc hc' q) k
theorem own_dup2 (X : Stand p l e R s m args below meth c T locs cells slots) (hx : p.tables.exec = Jvm.exec) {pc pc' : Nat} {Ls : Array Slot} {v w : Value} {rest : List Value} (hd : decode c.code pc = .ok (.dup2, 1)) (hc : v.category = 1) (hc' : w.category = 1) (hp : pc + 1 = pc') (k : own_G p.tables e below P T (mkF m pc' Ls (v :: w :: v :: w :: rest))) : own_G p.tables e below P T (mkF m pc Ls (v :: w :: rest)) := by
  subst hp; exact own_go (fun t q => Jvm.Free.XT.dup2 X.here hx rfl hd rfl hc hc' q) k
theorem own_goto (X : Stand p l e R s m args below meth c T locs cells slots) (hx : p.tables.exec = Jvm.exec) {pc pc' : Nat} {Ls : Array Slot} {st : List Value} {o : Int} (hd : decode c.code pc = .ok (.goto o, 3)) (ho : 0 ≤ (pc : Int) + o) (hp : ((pc : Int) + o).toNat = pc') (k : own_G p.tables e below P T (mkF m pc' Ls (st))) : own_G p.tables e below P T (mkF m pc Ls (st)) := by
  exact own_go (fun t q => XS.goto X.here hx rfl (pc0 := pc) (pc' := pc') rfl hd ho hp q) k
theorem own_ifYes (X : Stand p l e R s m args below meth c T locs cells slots) (hx : p.tables.exec = Jvm.exec) {pc pc' : Nat} {Ls : Array Slot} {cd : ClassFile.Cond} {x : Int32} {rest : List Value} {o : Int} (hd : decode c.code pc = .ok (.ifCond cd o, 3)) (hc : if_icmp.holds cd x 0 = true) (ho : 0 ≤ (pc : Int) + o) (hp : ((pc : Int) + o).toNat = pc') (k : own_G p.tables e below P T (mkF m pc' Ls (rest))) : own_G p.tables e below P T (mkF m pc Ls (.int x :: rest)) := by
  exact own_go (fun t q => XS.ifYes X.here hx rfl (pc0 := pc) (pc' := pc') rfl hd rfl ((if0 _ _).trans hc) ho hp q) k
theorem own_icmpYes (X : Stand p l e R s m args below meth c T locs cells slots) (hx : p.tables.exec = Jvm.exec) {pc pc' : Nat} {Ls : Array Slot} {cd : ClassFile.Cond} {x y : Int32} {rest : List Value} {o : Int} (hd : decode c.code pc = .ok (.if_icmp cd o, 3)) (hc : if_icmp.holds cd x y = true) (ho : 0 ≤ (pc : Int) + o) (hp : ((pc : Int) + o).toNat = pc') (k : own_G p.tables e below P T (mkF m pc' Ls (rest))) : own_G p.tables e below P T (mkF m pc Ls (.int y :: .int x :: rest)) := by
  exact own_go (fun t q => XS.icmpYes X.here hx rfl (pc0 := pc) (pc' := pc') rfl hd rfl hc ho hp q) k
theorem own_ifnullYes (X : Stand p l e R s m args below meth c T locs cells slots) (hx : p.tables.exec = Jvm.exec) {pc pc' : Nat} {Ls : Array Slot} {rest : List Value} {o : Int} (hd : decode c.code pc = .ok (.ifnull o, 3)) (ho : 0 ≤ (pc : Int) + o) (hp : ((pc : Int) + o).toNat = pc') (k : own_G p.tables e below P T (mkF m pc' Ls (rest))) : own_G p.tables e below P T (mkF m pc Ls (.null :: rest)) := by
  exact own_go (fun t q => XS.ifnullYes X.here hx rfl (pc0 := pc) (pc' := pc') rfl hd rfl ho hp q) k
theorem own_ifnonnullYes (X : Stand p l e R s m args below meth c T locs cells slots) (hx : p.tables.exec = Jvm.exec) {pc pc' : Nat} {Ls : Array Slot} {b : Addr} {rest : List Value} {o : Int} (hd : decode c.code pc = .ok (.ifnonnull o, 3)) (ho : 0 ≤ (pc : Int) + o) (hp : ((pc : Int) + o).toNat = pc') (k : own_G p.tables e below P T (mkF m pc' Ls (rest))) : own_G p.tables e below P T (mkF m pc Ls (.ref b :: rest)) := by
  exact own_go (fun t q => XS.ifnonnullYes X.here hx rfl (pc0 := pc) (pc' := pc') rfl hd rfl ho hp q) k
theorem own_ifNo (X : Stand p l e R s m args below meth c T locs cells slots) (hx : p.tables.exec = Jvm.exec) {pc pc' : Nat} {Ls : Array Slot} {cd : ClassFile.Cond} {o : Int} {x : Int32} {rest : List Value} (hd : decode c.code pc = .ok (.ifCond cd o, 3)) (hc : if_icmp.holds cd x 0 = false) (hp : pc + 3 = pc') (k : own_G p.tables e below P T (mkF m pc' Ls (rest))) : own_G p.tables e below P T (mkF m pc Ls (.int x :: rest)) := by
  subst hp; exact own_go (fun t q => XS.ifNo X.here hx rfl hd rfl ((if0 _ _).trans hc) q) k
theorem own_icmpNo (X : Stand p l e R s m args below meth c T locs cells slots) (hx : p.tables.exec = Jvm.exec) {pc pc' : Nat} {Ls : Array Slot} {cd : ClassFile.Cond} {o : Int} {x y : Int32} {rest : List Value} (hd : decode c.code pc = .ok (.if_icmp cd o, 3)) (hc : if_icmp.holds cd x y = false) (hp : pc + 3 = pc') (k : own_G p.tables e below P T (mkF m pc' Ls (rest))) : own_G p.tables e below P T (mkF m pc Ls (.int y :: .int x :: rest)) := by
  subst hp; exact own_go (fun t q => XS.icmpNo X.here hx rfl hd rfl hc q) k
theorem own_ifnullNo (X : Stand p l e R s m args below meth c T locs cells slots) (hx : p.tables.exec = Jvm.exec) {pc pc' : Nat} {Ls : Array Slot} {o : Int} {b : Addr} {rest : List Value} (hd : decode c.code pc = .ok (.ifnull o, 3)) (hp : pc + 3 = pc') (k : own_G p.tables e below P T (mkF m pc' Ls (rest))) : own_G p.tables e below P T (mkF m pc Ls (.ref b :: rest)) := by
  subst hp; exact own_go (fun t q => XS.ifnullNo X.here hx rfl hd rfl q) k
theorem own_ifnonnullNo (X : Stand p l e R s m args below meth c T locs cells slots) (hx : p.tables.exec = Jvm.exec) {pc pc' : Nat} {Ls : Array Slot} {o : Int} {rest : List Value} (hd : decode c.code pc = .ok (.ifnonnull o, 3)) (hp : pc + 3 = pc') (k : own_G p.tables e below P T (mkF m pc' Ls (rest))) : own_G p.tables e below P T (mkF m pc Ls (.null :: rest)) := by
  subst hp; exact own_go (fun t q => XS.ifnonnullNo X.here hx rfl hd rfl q) k
theorem own_acmp (X : Stand p l e R s m args below meth c T locs cells slots) (hx : p.tables.exec = Jvm.exec) {pc pc' : Nat} {Ls : Array Slot} {cd : ACond} {x y : Value} {rest : List Value} {o : Int} (same : Bool) (hd : decode c.code pc = .ok (.if_acmp cd o, 3)) (h1 : x.isRef = true) (h2 : y.isRef = true) (hq : decide (x = y) = same) (ho : 0 ≤ (pc : Int) + o) (hp : pc' = if acV cd same = true then ((pc : Int) + o).toNat else pc + 3) (k : own_G p.tables e below P T (mkF m pc' Ls rest)) : own_G p.tables e below P T (mkF m pc Ls (y :: x :: rest)) := by
  exact own_go (fun t q => Jvm.RoadKit.acmp (g := mkF m pc Ls (y :: x :: rest)) X hx rfl h1 h2 (pc0 := pc) (pc' := pc') rfl hd rfl hq ho hp q) k
theorem own_ldcI (X : Stand p l e R s m args below meth c T locs cells slots) (hx : p.tables.exec = Jvm.exec) {pc pc' : Nat} {Ls : Array Slot} (hZ : Z.Warmed39 s.vm) {own : String} {idx : Nat} {z : Int32} {st : List Value} (hown : s.vm.findClass own = some m.cls) (w : (Jvm.Cond.constant own idx z).before a0 Z = true) (hd : decode c.code pc = .ok (.ldc idx, 2)) (hp : pc + 2 = pc') (k : own_G p.tables e below P T (mkF m pc' Ls (.int z :: st))) : own_G p.tables e below P T (mkF m pc Ls st) := by
  subst hp; exact own_go (X.ldcInt hx hown (mvT hZ w) (g := mkF m pc Ls st) rfl hd) k
theorem own_ldcwI (X : Stand p l e R s m args below meth c T locs cells slots) (hx : p.tables.exec = Jvm.exec) {pc pc' : Nat} {Ls : Array Slot} (hZ : Z.Warmed39 s.vm) {own : String} {idx : Nat} {z : Int32} {st : List Value} (hown : s.vm.findClass own = some m.cls) (w : (Jvm.Cond.constant own idx z).before a0 Z = true) (hd : decode c.code pc = .ok (.ldc_w idx, 3)) (hp : pc + 3 = pc') (k : own_G p.tables e below P T (mkF m pc' Ls (.int z :: st))) : own_G p.tables e below P T (mkF m pc Ls st) := by
  subst hp; exact own_go (X.ldcwInt hx hown (mvT hZ w) (g := mkF m pc Ls st) rfl hd) k
theorem own_ldc2J (X : Stand p l e R s m args below meth c T locs cells slots) (hx : p.tables.exec = Jvm.exec) {pc pc' : Nat} {Ls : Array Slot} (hZ : Z.Warmed39 s.vm) {own : String} {idx : Nat} {z : Int64} {st : List Value} (hown : s.vm.findClass own = some m.cls) (w : (Jvm.Cond.constantLong own idx z).before a0 Z = true) (hd : decode c.code pc = .ok (.ldc2_w idx, 3)) (hp : pc + 3 = pc') (k : own_G p.tables e below P T (mkF m pc' Ls (.long z :: st))) : own_G p.tables e below P T (mkF m pc Ls st) := by
  subst hp; exact own_go (X.ldc2Long hx hown (mvT hZ w) (g := mkF m pc Ls st) rfl hd) k
theorem own_getF (X : Stand p l e R s m args below meth c T locs cells slots) (hx : p.tables.exec = Jvm.exec) {pc pc' : Nat} {Ls : Array Slot} (hZ : Z.Warmed39 s.vm) {own R0 O n d host : String} {idx : Nat} {a : Addr} {v : Value} {rest : List Value} (hown : s.vm.findClass own = some m.cls) (w : (Cond.fieldLink own idx R0 n d).before a0 Z = true ∨ (Cond.fieldLinkNest own idx R0 n d host).before a0 Z = true) (via : Via Z R0 O n d) (eT : T.heap = h) (F : Fld Z h a O n d v) (hd : decode c.code pc = .ok (.getfield idx, 3)) (hp : pc + 3 = pc') (k : ∀ T', Stand p l e R s m args below meth c T' locs cells slots → T'.heap = h → own_G p.tables e below P T' (mkF m pc' Ls (v :: rest))) : own_G p.tables e below P T (mkF m pc Ls (.ref a :: rest)) := by
  subst hp; obtain ⟨T', X', e', st⟩ := getF X hx hZ hown w via eT F (g := mkF m pc Ls (.ref a :: rest)) rfl rfl hd; exact own_go st (k T' X' e')
theorem own_getS (X : Stand p l e R s m args below meth c T locs cells slots) (hx : p.tables.exec = Jvm.exec) {pc pc' : Nat} {Ls : Array Slot} (hZ : Z.Warmed39 s.vm) {own R0 O n d host : String} {idx : Nat} {v : Value} {st : List Value} (hown : s.vm.findClass own = some m.cls) (w : (Cond.fieldLink own idx R0 n d).before a0 Z = true ∨ (Cond.fieldLinkNest own idx R0 n d host).before a0 Z = true) (via : Via Z R0 O n d) (eT : T.heap = h) (F : Sta Z h O n d v) (hd : decode c.code pc = .ok (.getstatic idx, 3)) (hp : pc + 3 = pc') (k : ∀ T', Stand p l e R s m args below meth c T' locs cells slots → T'.heap = h → own_G p.tables e below P T' (mkF m pc' Ls (v :: st))) : own_G p.tables e below P T (mkF m pc Ls st) := by
  subst hp; obtain ⟨T', X', e', stp⟩ := getS2 X hx hZ hown w via eT F (g := mkF m pc Ls st) rfl hd; exact own_go stp (k T' X' e')
theorem own_len (X : Stand p l e R s m args below meth c T locs cells slots) (hx : p.tables.exec = Jvm.exec) {pc pc' : Nat} {Ls : Array Slot} (hZ : Z.Warmed39 s.vm) {a : Addr} {cl : Cell} {ty : FieldType} {z : Int32} {rest : List Value} (eT : T.heap = h) (A : Arr Z h a cl ty) (S : cl.slots.size = z.toNatClampNeg) (M : ¬ z < 0) (hd : decode c.code pc = .ok (.arraylength, 1)) (hp : pc + 1 = pc') (k : own_G p.tables e below P T (mkF m pc' Ls (.int z :: rest))) : own_G p.tables e below P T (mkF m pc Ls (.ref a :: rest)) := by
  subst hp; exact own_go (fun t q => X.arraylength hx (by rw [eT]; exact A.1) (State.isArrayOf_alike hZ.alike A.2.1) (g := mkF m pc Ls (.ref a :: rest)) rfl rfl hd _ (by rw [len_of S M]; exact q)) k
theorem own_iaload (X : Stand p l e R s m args below meth c T locs cells slots) (hx : p.tables.exec = Jvm.exec) {pc pc' : Nat} {Ls : Array Slot} (hZ : Z.Warmed39 s.vm) {a : Addr} {cl : Cell} {j : Int32} {v : Int32} {rest : List Value} (eT : T.heap = h) (A : Arr Z h a cl .int) (hj : ¬ (j < 0 ∨ cl.slots.size ≤ j.toNatClampNeg)) (hv : cl.slots[j.toNatClampNeg]? = some (.int v)) (hd : decode c.code pc = .ok (.iaload, 1)) (hp : pc + 1 = pc') (k : own_G p.tables e below P T (mkF m pc' Ls ((.int v) :: rest))) : own_G p.tables e below P T (mkF m pc Ls (.int j :: .ref a :: rest)) := by
  subst hp; exact own_go (X.iaload hx (j := j) (v := (.int v)) (by rw [eT]; exact A.1) (State.isArrayOf_alike hZ.alike A.2.1) A.2.2 hj hv (g := mkF m pc Ls (.int j :: .ref a :: rest)) rfl rfl hd) k
theorem own_laload (X : Stand p l e R s m args below meth c T locs cells slots) (hx : p.tables.exec = Jvm.exec) {pc pc' : Nat} {Ls : Array Slot} (hZ : Z.Warmed39 s.vm) {a : Addr} {cl : Cell} {j : Int32} {v : Int64} {rest : List Value} (eT : T.heap = h) (A : Arr Z h a cl .long) (hj : ¬ (j < 0 ∨ cl.slots.size ≤ j.toNatClampNeg)) (hv : cl.slots[j.toNatClampNeg]? = some (.long v)) (hd : decode c.code pc = .ok (.laload, 1)) (hp : pc + 1 = pc') (k : own_G p.tables e below P T (mkF m pc' Ls ((.long v) :: rest))) : own_G p.tables e below P T (mkF m pc Ls (.int j :: .ref a :: rest)) := by
  subst hp; exact own_go (X.laload hx (j := j) (v := (.long v)) (by rw [eT]; exact A.1) (State.isArrayOf_alike hZ.alike A.2.1) A.2.2 hj hv (g := mkF m pc Ls (.int j :: .ref a :: rest)) rfl rfl hd) k
theorem own_baload (X : Stand p l e R s m args below meth c T locs cells slots) (hx : p.tables.exec = Jvm.exec) {pc pc' : Nat} {Ls : Array Slot} (hZ : Z.Warmed39 s.vm) {a : Addr} {cl : Cell} {j : Int32} {v : Int32} {rest : List Value} (eT : T.heap = h) (A : Arr Z h a cl .byte) (hj : ¬ (j < 0 ∨ cl.slots.size ≤ j.toNatClampNeg)) (hv : cl.slots[j.toNatClampNeg]? = some (.int v)) (hd : decode c.code pc = .ok (.baload, 1)) (hp : pc + 1 = pc') (k : own_G p.tables e below P T (mkF m pc' Ls ((.int v) :: rest))) : own_G p.tables e below P T (mkF m pc Ls (.int j :: .ref a :: rest)) := by
  subst hp; exact own_go (X.baloadBytes hx (j := j) (v := (.int v)) (by rw [eT]; exact A.1) (State.isArrayOf_alike hZ.alike A.2.1) A.2.2 hj hv (g := mkF m pc Ls (.int j :: .ref a :: rest)) rfl rfl hd) k
theorem own_caload (X : Stand p l e R s m args below meth c T locs cells slots) (hx : p.tables.exec = Jvm.exec) {pc pc' : Nat} {Ls : Array Slot} (hZ : Z.Warmed39 s.vm) {a : Addr} {cl : Cell} {j : Int32} {v : Int32} {rest : List Value} (eT : T.heap = h) (A : Arr Z h a cl .char) (hj : ¬ (j < 0 ∨ cl.slots.size ≤ j.toNatClampNeg)) (hv : cl.slots[j.toNatClampNeg]? = some (.int v)) (hd : decode c.code pc = .ok (.caload, 1)) (hp : pc + 1 = pc') (k : own_G p.tables e below P T (mkF m pc' Ls ((.int v) :: rest))) : own_G p.tables e below P T (mkF m pc Ls (.int j :: .ref a :: rest)) := by
  subst hp; exact own_go (X.caload hx (j := j) (v := (.int v)) (by rw [eT]; exact A.1) (State.isArrayOf_alike hZ.alike A.2.1) A.2.2 hj hv (g := mkF m pc Ls (.int j :: .ref a :: rest)) rfl rfl hd) k
theorem own_aaload (X : Stand p l e R s m args below meth c T locs cells slots) (hx : p.tables.exec = Jvm.exec) {pc pc' : Nat} {Ls : Array Slot} (hZ : Z.Warmed39 s.vm) {a : Addr} {cl : Cell} {ty : FieldType} {j : Int32} {v : Value} {rest : List Value} (eT : T.heap = h) (A : Arr Z h a cl ty) (hty : ty.isReference = true) (hj : ¬ (j < 0 ∨ cl.slots.size ≤ j.toNatClampNeg)) (hv : cl.slots[j.toNatClampNeg]? = some v) (hd : decode c.code pc = .ok (.aaload, 1)) (hp : pc + 1 = pc') (k : own_G p.tables e below P T (mkF m pc' Ls (v :: rest))) : own_G p.tables e below P T (mkF m pc Ls (.int j :: .ref a :: rest)) := by
  subst hp; exact own_go (X.aaload hx (j := j) (v := v) (by rw [eT]; exact A.1) (State.isArrayOf_alike hZ.alike A.2.1) hty A.2.2 hj hv (g := mkF m pc Ls (.int j :: .ref a :: rest)) rfl rfl hd) k
theorem own_stI (X : Stand p l e R s m args below meth c T locs cells slots) (hx : p.tables.exec = Jvm.exec) {pc pc' : Nat} {Ls : Array Slot} (hZ : Z.Warmed39 s.vm) {a : Addr} {cl : Cell} {j : Int32} {x : Int32} {rest : List Value} (eT : T.heap = h) (A : Arr Z h a cl .int) (hj : ¬ (j < 0 ∨ cl.slots.size ≤ j.toNatClampNeg)) (hd : decode c.code pc = .ok (.iastore, 1)) (hp : pc + 1 = pc') (k : ∀ T' h', Stand p l e R s m args below meth c T' (locs ++ [⟨a, j.toNatClampNeg⟩]) cells slots → T'.heap = h' → Wr h h' a j.toNatClampNeg (.int x) → own_G p.tables e below P T' (mkF m pc' Ls rest)) : own_G p.tables e below P T (mkF m pc Ls (.int x :: .int j :: .ref a :: rest)) := by
  subst hp; obtain ⟨T', h', X', e', W', st⟩ := stI X hx hZ eT A (j := j) hj (g := mkF m pc Ls (.int x :: .int j :: .ref a :: rest)) rfl rfl hd; exact own_go st (k T' h' X' e' W')
theorem own_stJ (X : Stand p l e R s m args below meth c T locs cells slots) (hx : p.tables.exec = Jvm.exec) {pc pc' : Nat} {Ls : Array Slot} (hZ : Z.Warmed39 s.vm) {a : Addr} {cl : Cell} {j : Int32} {x : Int64} {rest : List Value} (eT : T.heap = h) (A : Arr Z h a cl .long) (hj : ¬ (j < 0 ∨ cl.slots.size ≤ j.toNatClampNeg)) (hd : decode c.code pc = .ok (.lastore, 1)) (hp : pc + 1 = pc') (k : ∀ T' h', Stand p l e R s m args below meth c T' (locs ++ [⟨a, j.toNatClampNeg⟩]) cells slots → T'.heap = h' → Wr h h' a j.toNatClampNeg (.long x) → own_G p.tables e below P T' (mkF m pc' Ls rest)) : own_G p.tables e below P T (mkF m pc Ls (.long x :: .int j :: .ref a :: rest)) := by
  subst hp; obtain ⟨T', h', X', e', W', st⟩ := stJ X hx hZ eT A (j := j) hj (g := mkF m pc Ls (.long x :: .int j :: .ref a :: rest)) rfl rfl hd; exact own_go st (k T' h' X' e' W')
theorem own_stB (X : Stand p l e R s m args below meth c T locs cells slots) (hx : p.tables.exec = Jvm.exec) {pc pc' : Nat} {Ls : Array Slot} (hZ : Z.Warmed39 s.vm) {a : Addr} {cl : Cell} {j : Int32} {x : Int32} {rest : List Value} (eT : T.heap = h) (A : Arr Z h a cl .byte) (hj : ¬ (j < 0 ∨ cl.slots.size ≤ j.toNatClampNeg)) (hd : decode c.code pc = .ok (.bastore, 1)) (hp : pc + 1 = pc') (k : ∀ T' h', Stand p l e R s m args below meth c T' (locs ++ [⟨a, j.toNatClampNeg⟩]) cells slots → T'.heap = h' → Wr h h' a j.toNatClampNeg (.int (nar .byte x)) → own_G p.tables e below P T' (mkF m pc' Ls rest)) : own_G p.tables e below P T (mkF m pc Ls (.int x :: .int j :: .ref a :: rest)) := by
  subst hp; obtain ⟨T', h', X', e', W', st⟩ := stB X hx hZ eT A (j := j) hj (g := mkF m pc Ls (.int x :: .int j :: .ref a :: rest)) rfl rfl hd; exact own_go st (k T' h' X' e' W')
theorem own_stC (X : Stand p l e R s m args below meth c T locs cells slots) (hx : p.tables.exec = Jvm.exec) {pc pc' : Nat} {Ls : Array Slot} (hZ : Z.Warmed39 s.vm) {a : Addr} {cl : Cell} {j : Int32} {x : Int32} {rest : List Value} (eT : T.heap = h) (A : Arr Z h a cl .char) (hj : ¬ (j < 0 ∨ cl.slots.size ≤ j.toNatClampNeg)) (hd : decode c.code pc = .ok (.castore, 1)) (hp : pc + 1 = pc') (k : ∀ T' h', Stand p l e R s m args below meth c T' (locs ++ [⟨a, j.toNatClampNeg⟩]) cells slots → T'.heap = h' → Wr h h' a j.toNatClampNeg (.int (nar .char x)) → own_G p.tables e below P T' (mkF m pc' Ls rest)) : own_G p.tables e below P T (mkF m pc Ls (.int x :: .int j :: .ref a :: rest)) := by
  subst hp; obtain ⟨T', h', X', e', W', st⟩ := stC X hx hZ eT A (j := j) hj (g := mkF m pc Ls (.int x :: .int j :: .ref a :: rest)) rfl rfl hd; exact own_go st (k T' h' X' e' W')
theorem own_stR (X : Stand p l e R s m args below meth c T locs cells slots) (hx : p.tables.exec = Jvm.exec) {pc pc' : Nat} {Ls : Array Slot} (hZ : Z.Warmed39 s.vm) {a : Addr} {cl : Cell} {j : Int32} {x : Value} {ty : FieldType} {rest : List Value} (eT : T.heap = h) (A : Arr Z h a cl ty) (hj : ¬ (j < 0 ∨ cl.slots.size ≤ j.toNatClampNeg)) (hty : ty.isReference = true) (F : Sto Z h a x) (hd : decode c.code pc = .ok (.aastore, 1)) (hp : pc + 1 = pc') (k : ∀ T' h', Stand p l e R s m args below meth c T' (locs ++ [⟨a, j.toNatClampNeg⟩]) cells slots → T'.heap = h' → Wr h h' a j.toNatClampNeg x → own_G p.tables e below P T' (mkF m pc' Ls rest)) : own_G p.tables e below P T (mkF m pc Ls (x :: .int j :: .ref a :: rest)) := by
  subst hp; obtain ⟨T', h', X', e', W', st⟩ := stR X hx hZ eT A (j := j) hj hty F (g := mkF m pc Ls (x :: .int j :: .ref a :: rest)) rfl rfl hd; exact own_go st (k T' h' X' e' W')
theorem own_putF (X : Stand p l e R s m args below meth c T locs cells slots) (hx : p.tables.exec = Jvm.exec) {pc pc' : Nat} {Ls : Array Slot} (hZ : Z.Warmed39 s.vm) {own R0 O n d host C : String} {idx kk : Nat} {ty : FieldType} {a : Addr} {v old : Value} {rest : List Value} (hown : s.vm.findClass own = some m.cls) (w : (Cond.fieldLink own idx R0 n d).before a0 Z = true ∨ (Cond.fieldLinkNest own idx R0 n d host).before a0 Z = true) (via : Via Z R0 O n d) (eT : T.heap = h) (F : Fld Z h a O n d old) (E : Exa Z h a C) (L : (Cond.lays C O n d).before a0 Z = true ∨ ((Cond.laysFinal C O n d).before a0 Z = true ∧ own = O ∧ meth.name = "<init>")) (wi : (Cond.instantiable C kk).before a0 Z = true) (hty : parseFieldDescriptor d = some ty) (hn : narrow ty v = v) (hf : fits ty v = true) (hd : decode c.code pc = .ok (.putfield idx, 3)) (hp : pc + 3 = pc') (k : ∀ T' h', Stand p l e R s m args below meth c T' (locs ++ [⟨a, Jvm.RoadKit.slotOf Z O n d⟩]) cells slots → T'.heap = h' → Wr h h' a (Jvm.RoadKit.slotOf Z O n d) v → own_G p.tables e below P T' (mkF m pc' Ls rest)) : own_G p.tables e below P T (mkF m pc Ls (v :: .ref a :: rest)) := by
  subst hp; obtain ⟨T', h', X', e', W', st⟩ := putF X hx hZ hown w via eT F E L wi hty hn hf (g := mkF m pc Ls (v :: .ref a :: rest)) rfl rfl hd; exact own_go st (k T' h' X' e' W')
theorem own_putFN (X : Stand p l e R s m args below meth c T locs cells slots) (hx : p.tables.exec = Jvm.exec) {pc pc' : Nat} {Ls : Array Slot} (hZ : Z.Warmed39 s.vm) {own R0 O n d C : String} {idx kk : Nat} {ty : FieldType} {a : Addr} {v old : Value} (v' : Value) {rest : List Value} (hown : s.vm.findClass own = some m.cls) (w : (Cond.fieldLink own idx R0 n d).before a0 Z = true) (via : Via Z R0 O n d) (eT : T.heap = h) (F : Fld Z h a O n d old) (E : Exa Z h a C) (L : (Cond.lays C O n d).before a0 Z = true ∨ ((Cond.laysFinal C O n d).before a0 Z = true ∧ own = O ∧ meth.name = "<init>")) (wi : (Cond.instantiable C kk).before a0 Z = true) (hty : parseFieldDescriptor d = some ty) (hn : narrow ty v = v') (hf : fits ty v' = true) (hd : decode c.code pc = .ok (.putfield idx, 3)) (hp : pc + 3 = pc') (k : ∀ T' h', Stand p l e R s m args below meth c T' (locs ++ [⟨a, Jvm.RoadKit.slotOf Z O n d⟩]) cells slots → T'.heap = h' → Wr h h' a (Jvm.RoadKit.slotOf Z O n d) v' → own_G p.tables e below P T' (mkF m pc' Ls rest)) : own_G p.tables e below P T (mkF m pc Ls (v :: .ref a :: rest)) := by
  subst hp; obtain ⟨T', h', X', e', W', st⟩ := putFN X hx hZ hown w via eT F E L wi hty hn hf (g := mkF m pc Ls (v :: .ref a :: rest)) rfl rfl hd; exact own_go st (k T' h' X' e' W')
theorem own_new (X : Stand p l e R s m args below meth c T locs cells slots) (hx : p.tables.exec = Jvm.exec) {pc pc' : Nat} {Ls : Array Slot} (hZ : Z.Warmed39 s.vm) {own C : String} {idx n : Nat} {st : List Value} (hown : s.vm.findClass own = some m.cls) (w : (Cond.classLink own idx C).before a0 Z = true) (wi : (Cond.instantiable C n).before a0 Z = true) (wz : (Cond.initialized C).before a0 Z = true) (eT : T.heap = h) (hd : decode c.code pc = .ok (.new idx, 3)) (hc : cells + 1 ≤ R.cells) (hl : slots + n ≤ R.slots) (hp : pc + 3 = pc') (k : ∀ T' h' b, b = h.size → Stand p l e R s m args below meth c T' locs (cells + 1) (slots + n) → T'.heap = h' → Ext h h' → Exa Z h' b C → (∀ {O nm d : String} {ty : FieldType}, Laid Z a0 C O nm d → parseFieldDescriptor d = some ty → Fld Z h' b O nm d (defaultValue ty)) → own_G p.tables e below P T' (mkF m pc' Ls (.ref b :: st))) : own_G p.tables e below P T (mkF m pc Ls st) := by
  subst hp; obtain ⟨T', h', X', e', E', A', D', -, stp⟩ := newO X hx hZ hown w wi wz eT (g := mkF m pc Ls st) rfl hd hc hl; exact own_go stp (k T' h' _ rfl X' e' E' A' D')
theorem own_newP (X : Stand p l e R s m args below meth c T locs cells slots) (hx : p.tables.exec = Jvm.exec) {pc pc' : Nat} {Ls : Array Slot} (hZ : Z.Warmed39 s.vm) {aty : ArrayType} {z : Int32} {rest : List Value} (w : (Cond.arrayClass (newarray.typeOf aty)).before a0 Z = true) (eT : T.heap = h) (hd : decode c.code pc = .ok (.newarray aty, 2)) (hn : ¬ z < 0) (cap : Nat) (hcap : z.toNatClampNeg ≤ cap) (hb : cap * 8 ≤ 536870912) (hc : cells + 1 ≤ R.cells) (hl : slots + cap ≤ R.slots) (hp : pc + 2 = pc') (k : ∀ T' h' cA b, b = h.size → Stand p l e R s m args below meth c T' locs (cells + 1) (slots + cap) → T'.heap = h' → Ext h h' → Arr Z h' b (newA cA (newarray.typeOf aty) z) (newarray.typeOf aty) → own_G p.tables e below P T' (mkF m pc' Ls (.ref b :: rest))) : own_G p.tables e below P T (mkF m pc Ls (.int z :: rest)) := by
  subst hp; obtain ⟨T', h', cA, X', e', E', A', stp⟩ := newP X hx hZ w eT (g := mkF m pc Ls (.int z :: rest)) rfl hd rfl hn hcap hb hc hl; exact own_go stp (k T' h' cA _ rfl X' e' E' A')
theorem own_newR (X : Stand p l e R s m args below meth c T locs cells slots) (hx : p.tables.exec = Jvm.exec) {pc pc' : Nat} {Ls : Array Slot} (hZ : Z.Warmed39 s.vm) {own C : String} {idx : Nat} {z : Int32} {rest : List Value} (hown : s.vm.findClass own = some m.cls) (w1 : (Cond.classLink own idx C).before a0 Z = true) (w2 : (Cond.arrayOver (.object C)).before a0 Z = true) (eT : T.heap = h) (hd : decode c.code pc = .ok (.anewarray idx, 3)) (hn : ¬ z < 0) (cap : Nat) (hcap : z.toNatClampNeg ≤ cap) (hb : cap * 8 ≤ 536870912) (hc : cells + 1 ≤ R.cells) (hl : slots + cap ≤ R.slots) (hp : pc + 3 = pc') (k : ∀ T' h' cA b, b = h.size → Stand p l e R s m args below meth c T' locs (cells + 1) (slots + cap) → T'.heap = h' → Ext h h' → Arr Z h' b (newA cA (.object C) z) (.object C) → Ovr Z cA C → own_G p.tables e below P T' (mkF m pc' Ls (.ref b :: rest))) : own_G p.tables e below P T (mkF m pc Ls (.int z :: rest)) := by
  subst hp; obtain ⟨T', h', cA, X', e', E', A', O', stp⟩ := newR X hx hZ hown w1 w2 eT (g := mkF m pc Ls (.int z :: rest)) rfl hd rfl hn hcap hb hc hl; exact own_go stp (k T' h' cA _ rfl X' e' E' A' O')
theorem own_initO (X : Stand p l e R s m args below meth c T locs cells slots) (hx : p.tables.exec = Jvm.exec) {pc pc' : Nat} {Ls : Array Slot} (hZ : Z.Warmed39 s.vm) {own : String} {idx : Nat} {a : Addr} {rest : List Value} (hown : s.vm.findClass own = some m.cls) (w1 : (Cond.methodLink own idx Lib.objectInit).before a0 Z = true) (w2 : (Cond.instanceMethod Lib.objectInit).before a0 Z = true) (w3 : (Cond.code Lib.objectInit ⟨#[0xb1]⟩ 1 none).before a0 Z = true) (eT : T.heap = h) (hsz : Ls.size = c.maxLocals) (hd : decode c.code pc = .ok (.invokespecial idx, 3)) (hf : 1 ≤ R.frames) (W : Nat) (hW : 2 * 0 + (rest.map fun v => v.category).sum ≤ W) (hl : W + 12 ≤ R.locals) (hp : pc + 3 = pc') (k : ∀ T', Stand p l e R s m args below meth c T' locs cells slots → T'.heap = h → own_G p.tables e below P T' (mkF m pc' Ls rest)) : own_G p.tables e below P T (mkF m pc Ls (.ref a :: rest)) := by
  subst hp; obtain ⟨T', X', e', st⟩ := initO X hx hZ hown w1 w2 w3 eT (g := mkF m pc Ls (.ref a :: rest)) rfl hsz rfl hd hf hW hl; exact own_go st (k T' X' e')
theorem own_callS (X : Stand p l e R s m args below meth c T locs cells slots) (hx : p.tables.exec = Jvm.exec) {pc pc' : Nat} {Ls : Array Slot} (hZ : Z.Warmed39 s.vm) {own : String} {idx : Nat} {y : MethodName} {bytes : ByteArray} {maxL : Nat} {ret : Option FieldType} {rm : Room} {as' : Array Value} {Q : Option Value → Heap → List Loc → Prop} (hown : s.vm.findClass own = some m.cls) (w1 : (Cond.methodLink own idx y).before a0 Z = true) (w2 : (Cond.static y).before a0 Z = true) (w3 : (Cond.initialized y.cls).before a0 Z = true) (w4 : (Cond.code y bytes maxL ret).before a0 Z = true) (hy : y.cls ≠ "java/lang/invoke/MethodHandle" ∧ y.cls ≠ "java/lang/invoke/VarHandle") (hM : MetFree l y (head1 [Cond.code y bytes maxL ret] rm) (fun a U => a = as' ∧ Z.Warmed39 U.vm ∧ U.heap = h) (fun _ _ _ _ _ => True) (fun _ U o U' => ∃ v L, o = .returned v ∧ Q v U'.heap L ∧ FrameEnd U o U' L rm.cells rm.slots)) (eT : T.heap = h) (W : Nat) (hf : rm.frames + 1 ≤ R.frames) (hl : W + (maxL + 11) + rm.locals ≤ R.locals) (hc : cells + rm.cells ≤ R.cells) (hsl : slots + rm.slots ≤ R.slots) {st : List Value} (argsL rest : List Value) (hsz : Ls.size = c.maxLocals) (hlen : ∀ sig, parseMethodDescriptor y.desc = some sig → argsL.length = sig.parameters.length) (has : argsL.toArray = as') (hst : st = argsL.reverse ++ rest) (hW : 2 * 0 + (rest.map fun v => v.category).sum ≤ W) (hd : decode c.code pc = .ok (.invokestatic idx, 3)) (hp : pc + 3 = pc') (k : ∀ v T' L, Stand p l e R s m args below meth c T' (locs ++ L) (cells + rm.cells) (slots + rm.slots) → Q v T'.heap L → own_G p.tables e below P T' (mkF m pc' Ls (v.toList ++ rest))) : own_G p.tables e below P T (mkF m pc Ls st) := by
  subst hp
  obtain ⟨v, vm, ⟨T', L', k', n'⟩, -, X', ⟨L, hQ, l', y', z'⟩, stp⟩ := Jvm.LawKit.callS X hx (y := y) hown (mvT hZ w1) (mvT hZ w2) (mvT hZ w3) (mvT hZ w4) hy (backOf (W := W) hM hZ w4 w3 hf hl) (g := mkF m pc Ls st) rfl hsz (argsL := argsL) (rest := rest) hlen hst hW hd (fun _ _ => ⟨has, eT, hc, hsl⟩)
  dsimp only [Pt.U, Pt.locs, Pt.cells, Pt.slots] at X' l' y' z' stp hQ
  subst l' y' z'
  exact own_go stp (k v T' L X' hQ)
theorem own_callV (X : Stand p l e R s m args below meth c T locs cells slots) (hx : p.tables.exec = Jvm.exec) {pc pc' : Nat} {Ls : Array Slot} (hZ : Z.Warmed39 s.vm) {own C : String} {idx : Nat} {y : MethodName} {bytes : ByteArray} {maxL : Nat} {ret : Option FieldType} {rm : Room} {as' : Array Value} {Q : Option Value → Heap → List Loc → Prop} (hown : s.vm.findClass own = some m.cls) (w1 : (Cond.methodLink own idx y).before a0 Z = true) (w2 : (Cond.instanceMethod y).before a0 Z = true) (w3 : (Cond.selects C y y).before a0 Z = true) (w4 : (Cond.code y bytes maxL ret).before a0 Z = true) (w5 : (Cond.initialized y.cls).before a0 Z = true) (hy : y.cls ≠ "java/lang/invoke/MethodHandle" ∧ y.cls ≠ "java/lang/invoke/VarHandle") (hM : MetFree l y (head1 [Cond.code y bytes maxL ret] rm) (fun a U => a = as' ∧ Z.Warmed39 U.vm ∧ U.heap = h) (fun _ _ _ _ _ => True) (fun _ U o U' => ∃ v L, o = .returned v ∧ Q v U'.heap L ∧ FrameEnd U o U' L rm.cells rm.slots)) (eT : T.heap = h) {b : Addr} (E : Exa Z h b C) (W : Nat) (hf : rm.frames + 1 ≤ R.frames) (hl : W + (maxL + 11) + rm.locals ≤ R.locals) (hc : cells + rm.cells ≤ R.cells) (hsl : slots + rm.slots ≤ R.slots) {st : List Value} (argsL rest : List Value) (hsz : Ls.size = c.maxLocals) (hlen : ∀ sig, parseMethodDescriptor y.desc = some sig → argsL.length = sig.parameters.length) (has : (Value.ref b :: argsL).toArray = as') (hst : st = argsL.reverse ++ .ref b :: rest) (hW : 2 * 0 + (rest.map fun v => v.category).sum ≤ W) (hd : decode c.code pc = .ok (.invokevirtual idx, 3)) (hp : pc + 3 = pc') (k : ∀ v T' L, Stand p l e R s m args below meth c T' (locs ++ L) (cells + rm.cells) (slots + rm.slots) → Q v T'.heap L → own_G p.tables e below P T' (mkF m pc' Ls (v.toList ++ rest))) : own_G p.tables e below P T (mkF m pc Ls st) := by
  subst hp
  obtain ⟨cell, kc, q1, q2, q3, q4, -⟩ := E
  obtain ⟨v, vm, ⟨T', L', k', n'⟩, -, X', ⟨L, hQ, l', y', z'⟩, stp⟩ := Jvm.LawKit.callV X hx (y := y) (C := C) hown (mvT hZ w1) (mvT hZ w2) (mvT hZ w3) (mvT hZ w4) hy (backOf (W := W) hM hZ w4 w5 hf hl) (b := b) (cellB := cell) (by rw [eT]; exact q1) q4 (by rw [hZ.alike.findClass]; exact q2) (g := mkF m pc Ls st) rfl hsz (argsL := argsL) (rest := rest) hlen hst hW hd (fun _ _ => ⟨has, eT, hc, hsl⟩)
  dsimp only [Pt.U, Pt.locs, Pt.cells, Pt.slots] at X' l' y' z' stp hQ
  subst l' y' z'
  exact own_go stp (k v T' L X' hQ)
theorem own_callI (X : Stand p l e R s m args below meth c T locs cells slots) (hx : p.tables.exec = Jvm.exec) {pc pc' : Nat} {Ls : Array Slot} (hZ : Z.Warmed39 s.vm) {own : String} {idx : Nat} {y : MethodName} {bytes : ByteArray} {maxL : Nat} {rm : Room} {as' : Array Value} {Q : Option Value → Heap → List Loc → Prop} (hy1 : y.name = "<init>") (hown : s.vm.findClass own = some m.cls) (w1 : (Cond.methodLink own idx y).before a0 Z = true) (w2 : (Cond.instanceMethod y).before a0 Z = true) (w4 : (Cond.code y bytes maxL none).before a0 Z = true) (w5 : (Cond.initialized y.cls).before a0 Z = true) (hy : y.cls ≠ "java/lang/invoke/MethodHandle" ∧ y.cls ≠ "java/lang/invoke/VarHandle") (hM : MetFree l y (head1 [Cond.code y bytes maxL none] rm) (fun a U => a = as' ∧ Z.Warmed39 U.vm ∧ U.heap = h) (fun _ _ _ _ _ => True) (fun _ U o U' => ∃ v L, o = .returned v ∧ Q v U'.heap L ∧ FrameEnd U o U' L rm.cells rm.slots)) (eT : T.heap = h) {b : Addr} (W : Nat) (hf : rm.frames + 1 ≤ R.frames) (hl : W + (maxL + 11) + rm.locals ≤ R.locals) (hc : cells + rm.cells ≤ R.cells) (hsl : slots + rm.slots ≤ R.slots) {st : List Value} (argsL rest : List Value) (hsz : Ls.size = c.maxLocals) (hlen : ∀ sig, parseMethodDescriptor y.desc = some sig → argsL.length = sig.parameters.length) (has : (Value.ref b :: argsL).toArray = as') (hst : st = argsL.reverse ++ .ref b :: rest) (hW : 2 * 0 + (rest.map fun v => v.category).sum ≤ W) (hd : decode c.code pc = .ok (.invokespecial idx, 3)) (hp : pc + 3 = pc') (k : ∀ v T' L, Stand p l e R s m args below meth c T' (locs ++ L) (cells + rm.cells) (slots + rm.slots) → Q v T'.heap L → own_G p.tables e below P T' (mkF m pc' Ls (v.toList ++ rest))) : own_G p.tables e below P T (mkF m pc Ls st) := by
  subst hp
  obtain ⟨v, vm, ⟨T', L', k', n'⟩, -, X', ⟨L, hQ, l', y', z'⟩, stp⟩ := Jvm.LawKit.callI X hx (y := y) hown hy1 (mvT hZ w1) (mvT hZ w2) (mvT hZ w4) hy (backOf (W := W) hM hZ w4 w5 hf hl) (g := mkF m pc Ls st) rfl hsz (a := b) (argsL := argsL) (rest := rest) hlen hst hW hd (fun _ _ => ⟨has, eT, hc, hsl⟩)
  dsimp only [Pt.U, Pt.locs, Pt.cells, Pt.slots] at X' l' y' z' stp hQ
  subst l' y' z'
  exact own_go stp (k v T' L X' hQ)
theorem own_fldI {u : Term} {C n d : String} {x : Addr} {z : Int32} (ht : u.eval args s none [] s = some (.ref x)) (hq : (Jvm.Cond.eq (.field u C n d) (.int z)).value args s none s [] = some true) : Fld s s.heap x C n d (.int z) :=
  Fld.start ((fld_at ht).symm.trans (Cond.eq_int (Cond.before_iff.mpr hq) rfl))
theorem own_fldR {u t : Term} {C n d : String} {x y : Addr} (ht : u.eval args s none [] s = some (.ref x)) (hu : t.eval args s none [] s = some (.ref y)) (hq : (Jvm.Cond.eq (.field u C n d) t).value args s none s [] = some true) : Fld s s.heap x C n d (.ref y) :=
  Fld.start ((fld_at ht).symm.trans (Cond.eq_refs (Cond.before_iff.mpr hq) hu rfl))
theorem own_none {u : Term} {x : Addr} {cl : Cell} (A : Arr s s.heap x cl .int) (ht : u.eval args s none [] s = some (.ref x)) (hq : (Jvm.Cond.eq (.length u) (.int 0)).value args s none s [] = some true) : Arv s s.heap x cl.cls .int (0 : Int32) [] (.int (0 : Int32)) := by
  have e1 := Cond.eq_int (Cond.before_iff.mpr hq) (n := 0) rfl
  obtain ⟨sd, SA, hev, harrAt, -⟩ := Term.length_spec e1
  have h31 := SBG.length_lt hev harrAt e1
  cases ht.symm.trans hev
  cases (Arr.fin (Vm.Alike.refl _) A).symm.trans harrAt
  have e2 := len_f ht harrAt h31
  have e3 : cl.slots.size.toInt32 = (0 : Int32) := by simpa using Option.some.inj (e2.symm.trans e1)
  have e4 : cl.slots.size = 0 := by
    have e5 := congrArg Int32.toInt e3
    rw [len_toInt h31] at e5
    have e6 : ((0 : Int32)).toInt = 0 := by decide
    omega
  exact ⟨cl, A, rfl, e4, by decide, fun k hk => by omega, fun i hi => by omega⟩
end OwnKit
def own_max (x y : Int32) : Int32 := if x < y then y else x
def own_min (x y : Int32) : Int32 := if y < x then y else x
theorem own_t32_m1 : (-1 : Int32).toInt = -1 := by decide
theorem own_t32_0 : (0 : Int32).toInt = 0 := by decide
theorem own_t32_1 : (1 : Int32).toInt = 1 := by decide
theorem own_t32_2 : (2 : Int32).toInt = 2 := by decide
theorem own_t32_3 : (3 : Int32).toInt = 3 := by decide
theorem own_t32_4 : (4 : Int32).toInt = 4 := by decide
theorem own_t32_5 : (5 : Int32).toInt = 5 := by decide
theorem d6_0 : decode jdk_29_method_65_code 0 = .ok (.iload_n 0, 1) := by decide +kernel
theorem d6_1 : decode jdk_29_method_65_code 1 = .ok (.iload_n 1, 1) := by decide +kernel
theorem d6_2 : decode jdk_29_method_65_code 2 = .ok (.if_icmp .lt 7, 3) := by decide +kernel
theorem d6_5 : decode jdk_29_method_65_code 5 = .ok (.iload_n 0, 1) := by decide +kernel
theorem d6_6 : decode jdk_29_method_65_code 6 = .ok (.goto 4, 3) := by decide +kernel
theorem d6_9 : decode jdk_29_method_65_code 9 = .ok (.iload_n 1, 1) := by decide +kernel
theorem d6_10 : decode jdk_29_method_65_code 10 = .ok (.ireturn, 1) := by decide +kernel
def Qmax (x y : Int32) (h0 : Heap) (n0 : Nat) (v : Option Value) (h : Heap) (L : List Loc) : Prop := v = some (.int (own_max x y)) ∧ Fr n0 L ∧ h = h0
theorem ef_rm_max (m : MethodId) (x0 : Int32) (x1 : Int32) : entryFrame m #[(.int x0), (.int x1)] 2 = mkF m 0 #[.val (.int x0), .val (.int x1)] [] := by first | (simp [entryFrame, mkF, argsToLocals, Value.category, maxLocals]; done) | rfl
theorem pf_0 : plainFor (⟨"java/lang/Math", "max", "(II)I"⟩ : MethodName) = true := by decide +kernel
set_option maxRecDepth 65536 in
set_option maxHeartbeats 40000000 in
theorem rm_max (l : Launch) (Z : State) (a0 : Array Value) (hw : ∀ d ∈ tables_1, d.before a0 Z = true) (ws : List Jvm.Cond) (q0 q1 : Int32) (h0 : Heap) (n0 : Nat) (Z0 : n0 ≤ h0.size)  :
    MetFree l (⟨"java/lang/Math", "max", "(II)I"⟩ : MethodName) (head1 (Jvm.Cond.code (⟨"java/lang/Math", "max", "(II)I"⟩ : MethodName) jdk_29_method_65_code 2 (some .int) :: ws) ({ frames := 0, cells := 0, slots := 0, locals := 0 } : Room)) (fun aa U => aa = #[(.int q0), (.int q1)] ∧ Z.Warmed39 U.vm ∧ U.heap = h0) (fun _ _ _ _ _ => True) (fun _ U o U' => ∃ v L, o = .returned v ∧ Qmax q0 q1 h0 n0 v U'.heap L ∧ FrameEnd U o U' L (({ frames := 0, cells := 0, slots := 0, locals := 0 } : Room).cells) (({ frames := 0, cells := 0, slots := 0, locals := 0 } : Room).slots)) := by
  refine own_body pf_0 ?_
  intro p e s m below meth c s₁ hx hby hml hown hnm hlk hret hZ X0 e0
  have N0 : Fr n0 [] := Fr.nil n0
  refine own_go (f' := (mkF m 0 #[.val (.int q0), .val (.int q1)] [])) (fun t k => castTop (ef_rm_max m q0 q1) k) ?_
  refine own_iloadN X0 hx (pc' := 1) (hb hby d6_0) rfl rfl ?_
  refine own_iloadN X0 hx (pc' := 2) (hb hby d6_1) rfl rfl ?_
  by_cases hc2_1 : q0 < q1
  · skip
    refine own_icmpYes X0 hx (pc' := 9) (hb hby d6_2) (tlt hc2_1).1 (by decide) (by decide) ?_
    refine own_iloadN X0 hx (pc' := 10) (hb hby d6_9) rfl rfl ?_
    refine own_retI X0 hx hlk hret (hb hby d6_10) (by decide) (by decide) ?_
    exact ⟨by simp [own_max, hc2_1], N0, e0⟩
  · skip
    refine own_icmpNo X0 hx (pc' := 5) (hb hby d6_2) (flt hc2_1).1 rfl ?_
    refine own_iloadN X0 hx (pc' := 6) (hb hby d6_5) rfl rfl ?_
    refine own_goto X0 hx (pc' := 10) (hb hby d6_6) (by decide) (by decide) ?_
    refine own_retI X0 hx hlk hret (hb hby d6_10) (by decide) (by decide) ?_
    exact ⟨by simp [own_max, hc2_1], N0, e0⟩

theorem d7_0 : decode jdk_29_method_69_code 0 = .ok (.iload_n 0, 1) := by decide +kernel
theorem d7_1 : decode jdk_29_method_69_code 1 = .ok (.iload_n 1, 1) := by decide +kernel
theorem d7_2 : decode jdk_29_method_69_code 2 = .ok (.if_icmp .gt 7, 3) := by decide +kernel
theorem d7_5 : decode jdk_29_method_69_code 5 = .ok (.iload_n 0, 1) := by decide +kernel
theorem d7_6 : decode jdk_29_method_69_code 6 = .ok (.goto 4, 3) := by decide +kernel
theorem d7_9 : decode jdk_29_method_69_code 9 = .ok (.iload_n 1, 1) := by decide +kernel
theorem d7_10 : decode jdk_29_method_69_code 10 = .ok (.ireturn, 1) := by decide +kernel
def Qmin (x y : Int32) (h0 : Heap) (n0 : Nat) (v : Option Value) (h : Heap) (L : List Loc) : Prop := v = some (.int (own_min x y)) ∧ Fr n0 L ∧ h = h0
theorem ef_rm_min (m : MethodId) (x0 : Int32) (x1 : Int32) : entryFrame m #[(.int x0), (.int x1)] 2 = mkF m 0 #[.val (.int x0), .val (.int x1)] [] := by first | (simp [entryFrame, mkF, argsToLocals, Value.category, maxLocals]; done) | rfl
theorem pf_1 : plainFor (⟨"java/lang/Math", "min", "(II)I"⟩ : MethodName) = true := by decide +kernel
set_option maxRecDepth 65536 in
set_option maxHeartbeats 40000000 in
theorem rm_min (l : Launch) (Z : State) (a0 : Array Value) (hw : ∀ d ∈ tables_1, d.before a0 Z = true) (ws : List Jvm.Cond) (q0 q1 : Int32) (h0 : Heap) (n0 : Nat) (Z0 : n0 ≤ h0.size)  :
    MetFree l (⟨"java/lang/Math", "min", "(II)I"⟩ : MethodName) (head1 (Jvm.Cond.code (⟨"java/lang/Math", "min", "(II)I"⟩ : MethodName) jdk_29_method_69_code 2 (some .int) :: ws) ({ frames := 0, cells := 0, slots := 0, locals := 0 } : Room)) (fun aa U => aa = #[(.int q0), (.int q1)] ∧ Z.Warmed39 U.vm ∧ U.heap = h0) (fun _ _ _ _ _ => True) (fun _ U o U' => ∃ v L, o = .returned v ∧ Qmin q0 q1 h0 n0 v U'.heap L ∧ FrameEnd U o U' L (({ frames := 0, cells := 0, slots := 0, locals := 0 } : Room).cells) (({ frames := 0, cells := 0, slots := 0, locals := 0 } : Room).slots)) := by
  refine own_body pf_1 ?_
  intro p e s m below meth c s₁ hx hby hml hown hnm hlk hret hZ X0 e0
  have N0 : Fr n0 [] := Fr.nil n0
  refine own_go (f' := (mkF m 0 #[.val (.int q0), .val (.int q1)] [])) (fun t k => castTop (ef_rm_min m q0 q1) k) ?_
  refine own_iloadN X0 hx (pc' := 1) (hb hby d7_0) rfl rfl ?_
  refine own_iloadN X0 hx (pc' := 2) (hb hby d7_1) rfl rfl ?_
  by_cases hc2_1 : q1 < q0
  · skip
    refine own_icmpYes X0 hx (pc' := 9) (hb hby d7_2) (tlt hc2_1).2.2.1 (by decide) (by decide) ?_
    refine own_iloadN X0 hx (pc' := 10) (hb hby d7_9) rfl rfl ?_
    refine own_retI X0 hx hlk hret (hb hby d7_10) (by decide) (by decide) ?_
    exact ⟨by simp [own_min, hc2_1], N0, e0⟩
  · skip
    refine own_icmpNo X0 hx (pc' := 5) (hb hby d7_2) (flt hc2_1).2.2.1 rfl ?_
    refine own_iloadN X0 hx (pc' := 6) (hb hby d7_5) rfl rfl ?_
    refine own_goto X0 hx (pc' := 10) (hb hby d7_6) (by decide) (by decide) ?_
    refine own_retI X0 hx hlk hret (hb hby d7_10) (by decide) (by decide) ?_
    exact ⟨by simp [own_min, hc2_1], N0, e0⟩

theorem d1_0 : decode prog_127_method_1_code 0 = .ok (.aload_n 0, 1) := by decide +kernel
theorem d1_1 : decode prog_127_method_1_code 1 = .ok (.invokespecial 1, 3) := by decide +kernel
theorem d1_4 : decode prog_127_method_1_code 4 = .ok (.aload_n 0, 1) := by decide +kernel
theorem d1_5 : decode prog_127_method_1_code 5 = .ok (.getstatic 7, 3) := by decide +kernel
theorem d1_8 : decode prog_127_method_1_code 8 = .ok (.putfield 13, 3) := by decide +kernel
theorem d1_11 : decode prog_127_method_1_code 11 = .ok (.aload_n 0, 1) := by decide +kernel
theorem d1_12 : decode prog_127_method_1_code 12 = .ok (.getstatic 7, 3) := by decide +kernel
theorem d1_15 : decode prog_127_method_1_code 15 = .ok (.putfield 16, 3) := by decide +kernel
theorem d1_18 : decode prog_127_method_1_code 18 = .ok (.aload_n 0, 1) := by decide +kernel
theorem d1_19 : decode prog_127_method_1_code 19 = .ok (.getstatic 7, 3) := by decide +kernel
theorem d1_22 : decode prog_127_method_1_code 22 = .ok (.putfield 19, 3) := by decide +kernel
theorem d1_25 : decode prog_127_method_1_code 25 = .ok (.aload_n 0, 1) := by decide +kernel
theorem d1_26 : decode prog_127_method_1_code 26 = .ok (.getstatic 7, 3) := by decide +kernel
theorem d1_29 : decode prog_127_method_1_code 29 = .ok (.putfield 22, 3) := by decide +kernel
theorem d1_32 : decode prog_127_method_1_code 32 = .ok (.aload_n 0, 1) := by decide +kernel
theorem d1_33 : decode prog_127_method_1_code 33 = .ok (.getstatic 7, 3) := by decide +kernel
theorem d1_36 : decode prog_127_method_1_code 36 = .ok (.putfield 25, 3) := by decide +kernel
theorem d1_39 : decode prog_127_method_1_code 39 = .ok (.aload_n 0, 1) := by decide +kernel
theorem d1_40 : decode prog_127_method_1_code 40 = .ok (.getstatic 7, 3) := by decide +kernel
theorem d1_43 : decode prog_127_method_1_code 43 = .ok (.putfield 28, 3) := by decide +kernel
theorem d1_46 : decode prog_127_method_1_code 46 = .ok (.aload_n 0, 1) := by decide +kernel
theorem d1_47 : decode prog_127_method_1_code 47 = .ok (.iload_n 1, 1) := by decide +kernel
theorem d1_48 : decode prog_127_method_1_code 48 = .ok (.putfield 31, 3) := by decide +kernel
theorem d1_51 : decode prog_127_method_1_code 51 = .ok (.return_, 1) := by decide +kernel
def Qinit (Z : State) (a nn : Addr) (q : Int32) (h0 : Heap) (n0 : Nat) (v : Option Value) (h : Heap) (L : List Loc) : Prop := v = none ∧ Fr n0 L ∧ Keep h0 h [a] ∧ Fld Z h a "com/example/rootcast/rootcast/tree/Children" "peers" "[I" (.ref nn) ∧ Fld Z h a "com/example/rootcast/rootcast/tree/Children" "subtree" "[I" (.ref nn) ∧ Fld Z h a "com/example/rootcast/rootcast/tree/Children" "sent" "[I" (.ref nn) ∧ Fld Z h a "com/example/rootcast/rootcast/tree/Children" "stopped" "[I" (.ref nn) ∧ Fld Z h a "com/example/rootcast/rootcast/tree/Children" "toCome" "[I" (.ref nn) ∧ Fld Z h a "com/example/rootcast/rootcast/tree/Children" "beatsLeft" "[I" (.ref nn) ∧ Fld Z h a "com/example/rootcast/rootcast/tree/Children" "degree" "I" (.int q) ∧ Fld Z h a "com/example/rootcast/rootcast/tree/Children" "count" "I" (.int (0 : Int32))
theorem ef_rm_init (m : MethodId) (x0 : Addr) (x1 : Int32) : entryFrame m #[(.ref x0), (.int x1)] 2 = mkF m 0 #[.val (.ref x0), .val (.int x1)] [] := by first | (simp [entryFrame, mkF, argsToLocals, Value.category, maxLocals]; done) | rfl
theorem pf_2 : plainFor (⟨"com/example/rootcast/rootcast/tree/Children", "<init>", "(I)V"⟩ : MethodName) = true := by apply plainFor_of_name; first | (simp [plainName, overriddenIn]; done) | decide +kernel
theorem Wd6 {a0 : Array Value} {Z : State} (hw : ∀ d ∈ tables_1, d.before a0 Z = true) : (Jvm.Cond.methodLink "com/example/rootcast/rootcast/tree/Children" (1 : Nat) ({ cls := "java/lang/Object", name := "<init>", desc := "()V" } : Jvm.MethodName)).before a0 Z = true := hw _ (List.mem_of_getElem? (i := 6) rfl)
theorem Wd7 {a0 : Array Value} {Z : State} (hw : ∀ d ∈ tables_1, d.before a0 Z = true) : (Jvm.Cond.instanceMethod ({ cls := "java/lang/Object", name := "<init>", desc := "()V" } : Jvm.MethodName)).before a0 Z = true := hw _ (List.mem_of_getElem? (i := 7) rfl)
theorem Wd8 {a0 : Array Value} {Z : State} (hw : ∀ d ∈ tables_1, d.before a0 Z = true) : (Jvm.Cond.code ({ cls := "java/lang/Object", name := "<init>", desc := "()V" } : Jvm.MethodName) object_method_1_code (1 : Nat) (Option.none : Option Jvm.ClassFile.FieldType)).before a0 Z = true := hw _ (List.mem_of_getElem? (i := 8) rfl)
theorem Wd9 {a0 : Array Value} {Z : State} (hw : ∀ d ∈ tables_1, d.before a0 Z = true) : (Jvm.Cond.fieldLink "com/example/rootcast/rootcast/tree/Children" (7 : Nat) "com/example/rootcast/rootcast/tree/Children" "NONE" "[I").before a0 Z = true := hw _ (List.mem_of_getElem? (i := 9) rfl)
theorem Wd11 {a0 : Array Value} {Z : State} (hw : ∀ d ∈ tables_1, d.before a0 Z = true) : (Jvm.Cond.fieldLink "com/example/rootcast/rootcast/tree/Children" (13 : Nat) "com/example/rootcast/rootcast/tree/Children" "peers" "[I").before a0 Z = true := hw _ (List.mem_of_getElem? (i := 11) rfl)
theorem Wd12 {a0 : Array Value} {Z : State} (hw : ∀ d ∈ tables_1, d.before a0 Z = true) : (Jvm.Cond.lays "com/example/rootcast/rootcast/tree/Children" "com/example/rootcast/rootcast/tree/Children" "peers" "[I").before a0 Z = true := hw _ (List.mem_of_getElem? (i := 12) rfl)
theorem Wd1 {a0 : Array Value} {Z : State} (hw : ∀ d ∈ tables_1, d.before a0 Z = true) : (Jvm.Cond.instantiable "com/example/rootcast/rootcast/tree/Children" (9 : Nat)).before a0 Z = true := hw _ (List.mem_of_getElem? (i := 1) rfl)
theorem Wd14 {a0 : Array Value} {Z : State} (hw : ∀ d ∈ tables_1, d.before a0 Z = true) : (Jvm.Cond.lays "com/example/rootcast/rootcast/tree/Children" "com/example/rootcast/rootcast/tree/Children" "subtree" "[I").before a0 Z = true := hw _ (List.mem_of_getElem? (i := 14) rfl)
theorem Wd16 {a0 : Array Value} {Z : State} (hw : ∀ d ∈ tables_1, d.before a0 Z = true) : (Jvm.Cond.lays "com/example/rootcast/rootcast/tree/Children" "com/example/rootcast/rootcast/tree/Children" "sent" "[I").before a0 Z = true := hw _ (List.mem_of_getElem? (i := 16) rfl)
theorem Wd18 {a0 : Array Value} {Z : State} (hw : ∀ d ∈ tables_1, d.before a0 Z = true) : (Jvm.Cond.lays "com/example/rootcast/rootcast/tree/Children" "com/example/rootcast/rootcast/tree/Children" "stopped" "[I").before a0 Z = true := hw _ (List.mem_of_getElem? (i := 18) rfl)
theorem Wd20 {a0 : Array Value} {Z : State} (hw : ∀ d ∈ tables_1, d.before a0 Z = true) : (Jvm.Cond.lays "com/example/rootcast/rootcast/tree/Children" "com/example/rootcast/rootcast/tree/Children" "toCome" "[I").before a0 Z = true := hw _ (List.mem_of_getElem? (i := 20) rfl)
theorem Wd22 {a0 : Array Value} {Z : State} (hw : ∀ d ∈ tables_1, d.before a0 Z = true) : (Jvm.Cond.lays "com/example/rootcast/rootcast/tree/Children" "com/example/rootcast/rootcast/tree/Children" "beatsLeft" "[I").before a0 Z = true := hw _ (List.mem_of_getElem? (i := 22) rfl)
theorem Wd24 {a0 : Array Value} {Z : State} (hw : ∀ d ∈ tables_1, d.before a0 Z = true) : (Jvm.Cond.laysFinal "com/example/rootcast/rootcast/tree/Children" "com/example/rootcast/rootcast/tree/Children" "degree" "I").before a0 Z = true := hw _ (List.mem_of_getElem? (i := 24) rfl)
theorem Wd36 {a0 : Array Value} {Z : State} (hw : ∀ d ∈ tables_1, d.before a0 Z = true) : (Jvm.Cond.lays "com/example/rootcast/rootcast/tree/Children" "com/example/rootcast/rootcast/tree/Children" "count" "I").before a0 Z = true := hw _ (List.mem_of_getElem? (i := 36) rfl)
theorem Wd13 {a0 : Array Value} {Z : State} (hw : ∀ d ∈ tables_1, d.before a0 Z = true) : (Jvm.Cond.fieldLink "com/example/rootcast/rootcast/tree/Children" (16 : Nat) "com/example/rootcast/rootcast/tree/Children" "subtree" "[I").before a0 Z = true := hw _ (List.mem_of_getElem? (i := 13) rfl)
theorem Wd15 {a0 : Array Value} {Z : State} (hw : ∀ d ∈ tables_1, d.before a0 Z = true) : (Jvm.Cond.fieldLink "com/example/rootcast/rootcast/tree/Children" (19 : Nat) "com/example/rootcast/rootcast/tree/Children" "sent" "[I").before a0 Z = true := hw _ (List.mem_of_getElem? (i := 15) rfl)
theorem Wd17 {a0 : Array Value} {Z : State} (hw : ∀ d ∈ tables_1, d.before a0 Z = true) : (Jvm.Cond.fieldLink "com/example/rootcast/rootcast/tree/Children" (22 : Nat) "com/example/rootcast/rootcast/tree/Children" "stopped" "[I").before a0 Z = true := hw _ (List.mem_of_getElem? (i := 17) rfl)
theorem Wd19 {a0 : Array Value} {Z : State} (hw : ∀ d ∈ tables_1, d.before a0 Z = true) : (Jvm.Cond.fieldLink "com/example/rootcast/rootcast/tree/Children" (25 : Nat) "com/example/rootcast/rootcast/tree/Children" "toCome" "[I").before a0 Z = true := hw _ (List.mem_of_getElem? (i := 19) rfl)
theorem Wd21 {a0 : Array Value} {Z : State} (hw : ∀ d ∈ tables_1, d.before a0 Z = true) : (Jvm.Cond.fieldLink "com/example/rootcast/rootcast/tree/Children" (28 : Nat) "com/example/rootcast/rootcast/tree/Children" "beatsLeft" "[I").before a0 Z = true := hw _ (List.mem_of_getElem? (i := 21) rfl)
theorem Wd23 {a0 : Array Value} {Z : State} (hw : ∀ d ∈ tables_1, d.before a0 Z = true) : (Jvm.Cond.fieldLink "com/example/rootcast/rootcast/tree/Children" (31 : Nat) "com/example/rootcast/rootcast/tree/Children" "degree" "I").before a0 Z = true := hw _ (List.mem_of_getElem? (i := 23) rfl)
set_option maxRecDepth 65536 in
set_option maxHeartbeats 40000000 in
theorem rm_init (l : Launch) (Z : State) (a0 : Array Value) (hw : ∀ d ∈ tables_1, d.before a0 Z = true) (ws : List Jvm.Cond) (a nn : Addr) (q : Int32) (h0 : Heap) (n0 : Nat) (Z0 : n0 ≤ h0.size) (g_a : n0 ≤ a) (E_a : Exa Z h0 a "com/example/rootcast/rootcast/tree/Children") (S_n : Sta Z h0 "com/example/rootcast/rootcast/tree/Children" "NONE" "[I" (.ref nn)) (F_peers : Fld Z h0 a "com/example/rootcast/rootcast/tree/Children" "peers" "[I" .null) (F_subtree : Fld Z h0 a "com/example/rootcast/rootcast/tree/Children" "subtree" "[I" .null) (F_sent : Fld Z h0 a "com/example/rootcast/rootcast/tree/Children" "sent" "[I" .null) (F_stopped : Fld Z h0 a "com/example/rootcast/rootcast/tree/Children" "stopped" "[I" .null) (F_toCome : Fld Z h0 a "com/example/rootcast/rootcast/tree/Children" "toCome" "[I" .null) (F_beatsLeft : Fld Z h0 a "com/example/rootcast/rootcast/tree/Children" "beatsLeft" "[I" .null) (F_degree : Fld Z h0 a "com/example/rootcast/rootcast/tree/Children" "degree" "I" (.int (0 : Int32))) (F_count : Fld Z h0 a "com/example/rootcast/rootcast/tree/Children" "count" "I" (.int (0 : Int32))) :
    MetFree l (⟨"com/example/rootcast/rootcast/tree/Children", "<init>", "(I)V"⟩ : MethodName) (head1 (Jvm.Cond.code (⟨"com/example/rootcast/rootcast/tree/Children", "<init>", "(I)V"⟩ : MethodName) prog_127_method_1_code 2 none :: ws) ({ frames := 1, cells := 0, slots := 0, locals := 12 } : Room)) (fun aa U => aa = #[(.ref a), (.int q)] ∧ Z.Warmed39 U.vm ∧ U.heap = h0) (fun _ _ _ _ _ => True) (fun _ U o U' => ∃ v L, o = .returned v ∧ Qinit Z a nn q h0 n0 v U'.heap L ∧ FrameEnd U o U' L (({ frames := 1, cells := 0, slots := 0, locals := 12 } : Room).cells) (({ frames := 1, cells := 0, slots := 0, locals := 12 } : Room).slots)) := by
  refine own_body pf_2 ?_
  intro p e s m below meth c s₁ hx hby hml hown hnm hlk hret hZ X0 e0
  have N0 : Fr n0 [] := Fr.nil n0
  refine own_go (f' := (mkF m 0 #[.val (.ref a), .val (.int q)] [])) (fun t k => castTop (ef_rm_init m a q) k) ?_
  have K1 : Keep h0 h0 [a] := Keep.refl _ _
  refine own_aloadN X0 hx (pc' := 1) (hb hby d1_0) rfl rfl rfl ?_
  refine own_initO X0 hx (pc' := 4) hZ hown (Wd6 hw) (Wd7 hw) (Wd8 hw) e0 (by rw [hml]; rfl) (hb hby d1_1) (by decide) 0 (Nat.le_of_eq rfl) (by decide) rfl (fun T2 X2 e2 => ?_)
  refine own_aloadN X2 hx (pc' := 5) (hb hby d1_4) rfl rfl rfl ?_
  refine own_getS X2 hx (pc' := 8) hZ hown (host := "") (Or.inl (Wd9 hw)) Via.refl e2 S_n (hb hby d1_5) rfl (fun T3 X3 e3 => ?_)
  refine own_putF X3 hx (pc' := 11) hZ (ty := (.array .int)) hown (host := "") (Or.inl (Wd11 hw)) Via.refl e3 F_peers E_a (Or.inl (Wd12 hw)) (Wd1 hw) (by decide) rfl rfl (hb hby d1_8) rfl (fun T4 h4 X4 e4 W4 => ?_)
  have N5 := Fr.snoc X4 N0 g_a
  have Z6 : n0 ≤ h4.size := Nat.le_trans Z0 (Nat.le_of_eq (Wr.size W4).symm)
  have K7 : Keep h0 h4 [a] := K1.wr W4 (Or.inl (List.mem_of_getElem? (i := 0) rfl))
  have F8 := (Exa.wr W4 E_a)
  have F9 := (Sta.wr W4 S_n)
  have F10 := (Fld.same W4 F_peers)
  have F11 := (Fld.other W4 F_subtree (Or.inr (slot_ne (Or.inl (Wd14 hw)) (Or.inl (Wd12 hw)) (by decide) (t := (.array .int)) (t' := (.array .int)) (by decide) (by decide))))
  have F12 := (Fld.other W4 F_sent (Or.inr (slot_ne (Or.inl (Wd16 hw)) (Or.inl (Wd12 hw)) (by decide) (t := (.array .int)) (t' := (.array .int)) (by decide) (by decide))))
  have F13 := (Fld.other W4 F_stopped (Or.inr (slot_ne (Or.inl (Wd18 hw)) (Or.inl (Wd12 hw)) (by decide) (t := (.array .int)) (t' := (.array .int)) (by decide) (by decide))))
  have F14 := (Fld.other W4 F_toCome (Or.inr (slot_ne (Or.inl (Wd20 hw)) (Or.inl (Wd12 hw)) (by decide) (t := (.array .int)) (t' := (.array .int)) (by decide) (by decide))))
  have F15 := (Fld.other W4 F_beatsLeft (Or.inr (slot_ne (Or.inl (Wd22 hw)) (Or.inl (Wd12 hw)) (by decide) (t := (.array .int)) (t' := (.array .int)) (by decide) (by decide))))
  have F16 := (Fld.other W4 F_degree (Or.inr (slot_ne (Or.inr (Wd24 hw)) (Or.inl (Wd12 hw)) (by decide) (t := .int) (t' := (.array .int)) (by decide) (by decide))))
  have F17 := (Fld.other W4 F_count (Or.inr (slot_ne (Or.inl (Wd36 hw)) (Or.inl (Wd12 hw)) (by decide) (t := .int) (t' := (.array .int)) (by decide) (by decide))))
  refine own_aloadN X4 hx (pc' := 12) (hb hby d1_11) rfl rfl rfl ?_
  refine own_getS X4 hx (pc' := 15) hZ hown (host := "") (Or.inl (Wd9 hw)) Via.refl e4 F9 (hb hby d1_12) rfl (fun T18 X18 e18 => ?_)
  refine own_putF X18 hx (pc' := 18) hZ (ty := (.array .int)) hown (host := "") (Or.inl (Wd13 hw)) Via.refl e18 F11 F8 (Or.inl (Wd14 hw)) (Wd1 hw) (by decide) rfl rfl (hb hby d1_15) rfl (fun T19 h19 X19 e19 W19 => ?_)
  have N20 := Fr.snoc X19 N5 g_a
  have Z21 : n0 ≤ h19.size := Nat.le_trans Z6 (Nat.le_of_eq (Wr.size W19).symm)
  have K22 : Keep h0 h19 [a] := K7.wr W19 (Or.inl (List.mem_of_getElem? (i := 0) rfl))
  have F23 := (Exa.wr W19 F8)
  have F24 := (Sta.wr W19 F9)
  have F25 := (Fld.other W19 F10 (Or.inr (slot_ne (Or.inl (Wd12 hw)) (Or.inl (Wd14 hw)) (by decide) (t := (.array .int)) (t' := (.array .int)) (by decide) (by decide))))
  have F26 := (Fld.same W19 F11)
  have F27 := (Fld.other W19 F12 (Or.inr (slot_ne (Or.inl (Wd16 hw)) (Or.inl (Wd14 hw)) (by decide) (t := (.array .int)) (t' := (.array .int)) (by decide) (by decide))))
  have F28 := (Fld.other W19 F13 (Or.inr (slot_ne (Or.inl (Wd18 hw)) (Or.inl (Wd14 hw)) (by decide) (t := (.array .int)) (t' := (.array .int)) (by decide) (by decide))))
  have F29 := (Fld.other W19 F14 (Or.inr (slot_ne (Or.inl (Wd20 hw)) (Or.inl (Wd14 hw)) (by decide) (t := (.array .int)) (t' := (.array .int)) (by decide) (by decide))))
  have F30 := (Fld.other W19 F15 (Or.inr (slot_ne (Or.inl (Wd22 hw)) (Or.inl (Wd14 hw)) (by decide) (t := (.array .int)) (t' := (.array .int)) (by decide) (by decide))))
  have F31 := (Fld.other W19 F16 (Or.inr (slot_ne (Or.inr (Wd24 hw)) (Or.inl (Wd14 hw)) (by decide) (t := .int) (t' := (.array .int)) (by decide) (by decide))))
  have F32 := (Fld.other W19 F17 (Or.inr (slot_ne (Or.inl (Wd36 hw)) (Or.inl (Wd14 hw)) (by decide) (t := .int) (t' := (.array .int)) (by decide) (by decide))))
  refine own_aloadN X19 hx (pc' := 19) (hb hby d1_18) rfl rfl rfl ?_
  refine own_getS X19 hx (pc' := 22) hZ hown (host := "") (Or.inl (Wd9 hw)) Via.refl e19 F24 (hb hby d1_19) rfl (fun T33 X33 e33 => ?_)
  refine own_putF X33 hx (pc' := 25) hZ (ty := (.array .int)) hown (host := "") (Or.inl (Wd15 hw)) Via.refl e33 F27 F23 (Or.inl (Wd16 hw)) (Wd1 hw) (by decide) rfl rfl (hb hby d1_22) rfl (fun T34 h34 X34 e34 W34 => ?_)
  have N35 := Fr.snoc X34 N20 g_a
  have Z36 : n0 ≤ h34.size := Nat.le_trans Z21 (Nat.le_of_eq (Wr.size W34).symm)
  have K37 : Keep h0 h34 [a] := K22.wr W34 (Or.inl (List.mem_of_getElem? (i := 0) rfl))
  have F38 := (Exa.wr W34 F23)
  have F39 := (Sta.wr W34 F24)
  have F40 := (Fld.other W34 F25 (Or.inr (slot_ne (Or.inl (Wd12 hw)) (Or.inl (Wd16 hw)) (by decide) (t := (.array .int)) (t' := (.array .int)) (by decide) (by decide))))
  have F41 := (Fld.other W34 F26 (Or.inr (slot_ne (Or.inl (Wd14 hw)) (Or.inl (Wd16 hw)) (by decide) (t := (.array .int)) (t' := (.array .int)) (by decide) (by decide))))
  have F42 := (Fld.same W34 F27)
  have F43 := (Fld.other W34 F28 (Or.inr (slot_ne (Or.inl (Wd18 hw)) (Or.inl (Wd16 hw)) (by decide) (t := (.array .int)) (t' := (.array .int)) (by decide) (by decide))))
  have F44 := (Fld.other W34 F29 (Or.inr (slot_ne (Or.inl (Wd20 hw)) (Or.inl (Wd16 hw)) (by decide) (t := (.array .int)) (t' := (.array .int)) (by decide) (by decide))))
  have F45 := (Fld.other W34 F30 (Or.inr (slot_ne (Or.inl (Wd22 hw)) (Or.inl (Wd16 hw)) (by decide) (t := (.array .int)) (t' := (.array .int)) (by decide) (by decide))))
  have F46 := (Fld.other W34 F31 (Or.inr (slot_ne (Or.inr (Wd24 hw)) (Or.inl (Wd16 hw)) (by decide) (t := .int) (t' := (.array .int)) (by decide) (by decide))))
  have F47 := (Fld.other W34 F32 (Or.inr (slot_ne (Or.inl (Wd36 hw)) (Or.inl (Wd16 hw)) (by decide) (t := .int) (t' := (.array .int)) (by decide) (by decide))))
  refine own_aloadN X34 hx (pc' := 26) (hb hby d1_25) rfl rfl rfl ?_
  refine own_getS X34 hx (pc' := 29) hZ hown (host := "") (Or.inl (Wd9 hw)) Via.refl e34 F39 (hb hby d1_26) rfl (fun T48 X48 e48 => ?_)
  refine own_putF X48 hx (pc' := 32) hZ (ty := (.array .int)) hown (host := "") (Or.inl (Wd17 hw)) Via.refl e48 F43 F38 (Or.inl (Wd18 hw)) (Wd1 hw) (by decide) rfl rfl (hb hby d1_29) rfl (fun T49 h49 X49 e49 W49 => ?_)
  have N50 := Fr.snoc X49 N35 g_a
  have Z51 : n0 ≤ h49.size := Nat.le_trans Z36 (Nat.le_of_eq (Wr.size W49).symm)
  have K52 : Keep h0 h49 [a] := K37.wr W49 (Or.inl (List.mem_of_getElem? (i := 0) rfl))
  have F53 := (Exa.wr W49 F38)
  have F54 := (Sta.wr W49 F39)
  have F55 := (Fld.other W49 F40 (Or.inr (slot_ne (Or.inl (Wd12 hw)) (Or.inl (Wd18 hw)) (by decide) (t := (.array .int)) (t' := (.array .int)) (by decide) (by decide))))
  have F56 := (Fld.other W49 F41 (Or.inr (slot_ne (Or.inl (Wd14 hw)) (Or.inl (Wd18 hw)) (by decide) (t := (.array .int)) (t' := (.array .int)) (by decide) (by decide))))
  have F57 := (Fld.other W49 F42 (Or.inr (slot_ne (Or.inl (Wd16 hw)) (Or.inl (Wd18 hw)) (by decide) (t := (.array .int)) (t' := (.array .int)) (by decide) (by decide))))
  have F58 := (Fld.same W49 F43)
  have F59 := (Fld.other W49 F44 (Or.inr (slot_ne (Or.inl (Wd20 hw)) (Or.inl (Wd18 hw)) (by decide) (t := (.array .int)) (t' := (.array .int)) (by decide) (by decide))))
  have F60 := (Fld.other W49 F45 (Or.inr (slot_ne (Or.inl (Wd22 hw)) (Or.inl (Wd18 hw)) (by decide) (t := (.array .int)) (t' := (.array .int)) (by decide) (by decide))))
  have F61 := (Fld.other W49 F46 (Or.inr (slot_ne (Or.inr (Wd24 hw)) (Or.inl (Wd18 hw)) (by decide) (t := .int) (t' := (.array .int)) (by decide) (by decide))))
  have F62 := (Fld.other W49 F47 (Or.inr (slot_ne (Or.inl (Wd36 hw)) (Or.inl (Wd18 hw)) (by decide) (t := .int) (t' := (.array .int)) (by decide) (by decide))))
  refine own_aloadN X49 hx (pc' := 33) (hb hby d1_32) rfl rfl rfl ?_
  refine own_getS X49 hx (pc' := 36) hZ hown (host := "") (Or.inl (Wd9 hw)) Via.refl e49 F54 (hb hby d1_33) rfl (fun T63 X63 e63 => ?_)
  refine own_putF X63 hx (pc' := 39) hZ (ty := (.array .int)) hown (host := "") (Or.inl (Wd19 hw)) Via.refl e63 F59 F53 (Or.inl (Wd20 hw)) (Wd1 hw) (by decide) rfl rfl (hb hby d1_36) rfl (fun T64 h64 X64 e64 W64 => ?_)
  have N65 := Fr.snoc X64 N50 g_a
  have Z66 : n0 ≤ h64.size := Nat.le_trans Z51 (Nat.le_of_eq (Wr.size W64).symm)
  have K67 : Keep h0 h64 [a] := K52.wr W64 (Or.inl (List.mem_of_getElem? (i := 0) rfl))
  have F68 := (Exa.wr W64 F53)
  have F69 := (Sta.wr W64 F54)
  have F70 := (Fld.other W64 F55 (Or.inr (slot_ne (Or.inl (Wd12 hw)) (Or.inl (Wd20 hw)) (by decide) (t := (.array .int)) (t' := (.array .int)) (by decide) (by decide))))
  have F71 := (Fld.other W64 F56 (Or.inr (slot_ne (Or.inl (Wd14 hw)) (Or.inl (Wd20 hw)) (by decide) (t := (.array .int)) (t' := (.array .int)) (by decide) (by decide))))
  have F72 := (Fld.other W64 F57 (Or.inr (slot_ne (Or.inl (Wd16 hw)) (Or.inl (Wd20 hw)) (by decide) (t := (.array .int)) (t' := (.array .int)) (by decide) (by decide))))
  have F73 := (Fld.other W64 F58 (Or.inr (slot_ne (Or.inl (Wd18 hw)) (Or.inl (Wd20 hw)) (by decide) (t := (.array .int)) (t' := (.array .int)) (by decide) (by decide))))
  have F74 := (Fld.same W64 F59)
  have F75 := (Fld.other W64 F60 (Or.inr (slot_ne (Or.inl (Wd22 hw)) (Or.inl (Wd20 hw)) (by decide) (t := (.array .int)) (t' := (.array .int)) (by decide) (by decide))))
  have F76 := (Fld.other W64 F61 (Or.inr (slot_ne (Or.inr (Wd24 hw)) (Or.inl (Wd20 hw)) (by decide) (t := .int) (t' := (.array .int)) (by decide) (by decide))))
  have F77 := (Fld.other W64 F62 (Or.inr (slot_ne (Or.inl (Wd36 hw)) (Or.inl (Wd20 hw)) (by decide) (t := .int) (t' := (.array .int)) (by decide) (by decide))))
  refine own_aloadN X64 hx (pc' := 40) (hb hby d1_39) rfl rfl rfl ?_
  refine own_getS X64 hx (pc' := 43) hZ hown (host := "") (Or.inl (Wd9 hw)) Via.refl e64 F69 (hb hby d1_40) rfl (fun T78 X78 e78 => ?_)
  refine own_putF X78 hx (pc' := 46) hZ (ty := (.array .int)) hown (host := "") (Or.inl (Wd21 hw)) Via.refl e78 F75 F68 (Or.inl (Wd22 hw)) (Wd1 hw) (by decide) rfl rfl (hb hby d1_43) rfl (fun T79 h79 X79 e79 W79 => ?_)
  have N80 := Fr.snoc X79 N65 g_a
  have Z81 : n0 ≤ h79.size := Nat.le_trans Z66 (Nat.le_of_eq (Wr.size W79).symm)
  have K82 : Keep h0 h79 [a] := K67.wr W79 (Or.inl (List.mem_of_getElem? (i := 0) rfl))
  have F83 := (Exa.wr W79 F68)
  have F84 := (Sta.wr W79 F69)
  have F85 := (Fld.other W79 F70 (Or.inr (slot_ne (Or.inl (Wd12 hw)) (Or.inl (Wd22 hw)) (by decide) (t := (.array .int)) (t' := (.array .int)) (by decide) (by decide))))
  have F86 := (Fld.other W79 F71 (Or.inr (slot_ne (Or.inl (Wd14 hw)) (Or.inl (Wd22 hw)) (by decide) (t := (.array .int)) (t' := (.array .int)) (by decide) (by decide))))
  have F87 := (Fld.other W79 F72 (Or.inr (slot_ne (Or.inl (Wd16 hw)) (Or.inl (Wd22 hw)) (by decide) (t := (.array .int)) (t' := (.array .int)) (by decide) (by decide))))
  have F88 := (Fld.other W79 F73 (Or.inr (slot_ne (Or.inl (Wd18 hw)) (Or.inl (Wd22 hw)) (by decide) (t := (.array .int)) (t' := (.array .int)) (by decide) (by decide))))
  have F89 := (Fld.other W79 F74 (Or.inr (slot_ne (Or.inl (Wd20 hw)) (Or.inl (Wd22 hw)) (by decide) (t := (.array .int)) (t' := (.array .int)) (by decide) (by decide))))
  have F90 := (Fld.same W79 F75)
  have F91 := (Fld.other W79 F76 (Or.inr (slot_ne (Or.inr (Wd24 hw)) (Or.inl (Wd22 hw)) (by decide) (t := .int) (t' := (.array .int)) (by decide) (by decide))))
  have F92 := (Fld.other W79 F77 (Or.inr (slot_ne (Or.inl (Wd36 hw)) (Or.inl (Wd22 hw)) (by decide) (t := .int) (t' := (.array .int)) (by decide) (by decide))))
  refine own_aloadN X79 hx (pc' := 47) (hb hby d1_46) rfl rfl rfl ?_
  refine own_iloadN X79 hx (pc' := 48) (hb hby d1_47) rfl rfl ?_
  refine own_putF X79 hx (pc' := 51) hZ (ty := .int) hown (host := "") (Or.inl (Wd23 hw)) Via.refl e79 F91 F83 (Or.inr ⟨(Wd24 hw), rfl, hnm⟩) (Wd1 hw) (by decide) rfl rfl (hb hby d1_48) rfl (fun T93 h93 X93 e93 W93 => ?_)
  have N94 := Fr.snoc X93 N80 g_a
  have Z95 : n0 ≤ h93.size := Nat.le_trans Z81 (Nat.le_of_eq (Wr.size W93).symm)
  have K96 : Keep h0 h93 [a] := K82.wr W93 (Or.inl (List.mem_of_getElem? (i := 0) rfl))
  have F97 := (Exa.wr W93 F83)
  have F98 := (Sta.wr W93 F84)
  have F99 := (Fld.other W93 F85 (Or.inr (slot_ne (Or.inl (Wd12 hw)) (Or.inr (Wd24 hw)) (by decide) (t := (.array .int)) (t' := .int) (by decide) (by decide))))
  have F100 := (Fld.other W93 F86 (Or.inr (slot_ne (Or.inl (Wd14 hw)) (Or.inr (Wd24 hw)) (by decide) (t := (.array .int)) (t' := .int) (by decide) (by decide))))
  have F101 := (Fld.other W93 F87 (Or.inr (slot_ne (Or.inl (Wd16 hw)) (Or.inr (Wd24 hw)) (by decide) (t := (.array .int)) (t' := .int) (by decide) (by decide))))
  have F102 := (Fld.other W93 F88 (Or.inr (slot_ne (Or.inl (Wd18 hw)) (Or.inr (Wd24 hw)) (by decide) (t := (.array .int)) (t' := .int) (by decide) (by decide))))
  have F103 := (Fld.other W93 F89 (Or.inr (slot_ne (Or.inl (Wd20 hw)) (Or.inr (Wd24 hw)) (by decide) (t := (.array .int)) (t' := .int) (by decide) (by decide))))
  have F104 := (Fld.other W93 F90 (Or.inr (slot_ne (Or.inl (Wd22 hw)) (Or.inr (Wd24 hw)) (by decide) (t := (.array .int)) (t' := .int) (by decide) (by decide))))
  have F105 := (Fld.same W93 F91)
  have F106 := (Fld.other W93 F92 (Or.inr (slot_ne (Or.inl (Wd36 hw)) (Or.inr (Wd24 hw)) (by decide) (t := .int) (t' := .int) (by decide) (by decide))))
  refine own_retV X93 hx hlk hret (hb hby d1_51) (by decide) (by decide) ?_
  rw [e93]
  exact ⟨rfl, N94, K96, F99, F100, F101, F102, F103, F104, F105, F106⟩

theorem d8_0 : decode jdk_65_method_123_code 0 = .ok (.iload_n 1, 1) := by decide +kernel
theorem d8_1 : decode jdk_65_method_123_code 1 = .ok (.aload_n 0, 1) := by decide +kernel
theorem d8_2 : decode jdk_65_method_123_code 2 = .ok (.arraylength, 1) := by decide +kernel
theorem d8_3 : decode jdk_65_method_123_code 3 = .ok (.if_icmp .ne 11, 3) := by decide +kernel
theorem d8_6 : decode jdk_65_method_123_code 6 = .ok (.aload_n 0, 1) := by decide +kernel
theorem d8_7 : decode jdk_65_method_123_code 7 = .ok (.invokevirtual 316, 3) := by decide +kernel
theorem d8_10 : decode jdk_65_method_123_code 10 = .ok (.checkcast 317, 3) := by decide +kernel
theorem d8_13 : decode jdk_65_method_123_code 13 = .ok (.areturn, 1) := by decide +kernel
theorem d8_14 : decode jdk_65_method_123_code 14 = .ok (.iload_n 1, 1) := by decide +kernel
theorem d8_15 : decode jdk_65_method_123_code 15 = .ok (.newarray .int, 2) := by decide +kernel
theorem d8_17 : decode jdk_65_method_123_code 17 = .ok (.astore_n 2, 1) := by decide +kernel
theorem d8_18 : decode jdk_65_method_123_code 18 = .ok (.aload_n 0, 1) := by decide +kernel
theorem d8_19 : decode jdk_65_method_123_code 19 = .ok (.iconst 0, 1) := by decide +kernel
theorem d8_20 : decode jdk_65_method_123_code 20 = .ok (.aload_n 2, 1) := by decide +kernel
theorem d8_21 : decode jdk_65_method_123_code 21 = .ok (.iconst 0, 1) := by decide +kernel
theorem d8_22 : decode jdk_65_method_123_code 22 = .ok (.aload_n 0, 1) := by decide +kernel
theorem d8_23 : decode jdk_65_method_123_code 23 = .ok (.arraylength, 1) := by decide +kernel
theorem d8_24 : decode jdk_65_method_123_code 24 = .ok (.iload_n 1, 1) := by decide +kernel
theorem d8_25 : decode jdk_65_method_123_code 25 = .ok (.invokestatic 304, 3) := by decide +kernel
theorem d8_28 : decode jdk_65_method_123_code 28 = .ok (.invokestatic 150, 3) := by decide +kernel
theorem d8_31 : decode jdk_65_method_123_code 31 = .ok (.aload_n 2, 1) := by decide +kernel
theorem d8_32 : decode jdk_65_method_123_code 32 = .ok (.areturn, 1) := by decide +kernel
def Qcopy (Z : State) (z : Int32) (h0 : Heap) (n0 : Nat) (v : Option Value) (h : Heap) (L : List Loc) : Prop := ∃ (b : Addr) (k : ClassId), v = some (.ref b) ∧ h0.size ≤ b ∧ Fr n0 L ∧ Keep h0 h [] ∧ Arv Z h b k .int z [(.int (0 : Int32)), (.int (0 : Int32)), (.int (0 : Int32))] (.int (0 : Int32))
theorem ef_rm_copy (m : MethodId) (x0 : Addr) (x1 : Int32) : entryFrame m #[(.ref x0), (.int x1)] 3 = mkF m 0 #[.val (.ref x0), .val (.int x1), .unset] [] := by first | (simp [entryFrame, mkF, argsToLocals, Value.category, maxLocals]; done) | rfl
theorem pf_3 : plainFor (⟨"java/util/Arrays", "copyOf", "([II)[I"⟩ : MethodName) = true := by apply plainFor_of_name; first | (simp [plainName, overriddenIn]; done) | decide +kernel
theorem Wd25 {a0 : Array Value} {Z : State} (hw : ∀ d ∈ tables_1, d.before a0 Z = true) : (Jvm.Cond.arrayClass Jvm.ClassFile.FieldType.int).before a0 Z = true := hw _ (List.mem_of_getElem? (i := 25) rfl)
theorem Wd48 {a0 : Array Value} {Z : State} (hw : ∀ d ∈ tables_1, d.before a0 Z = true) : (Jvm.Cond.code ({ cls := "java/lang/Math", name := "min", desc := "(II)I" } : Jvm.MethodName) jdk_29_method_69_code (2 : Nat) (Option.some Jvm.ClassFile.FieldType.int)).before a0 Z = true := hw _ (List.mem_of_getElem? (i := 48) rfl)
theorem Wd44 {a0 : Array Value} {Z : State} (hw : ∀ d ∈ tables_1, d.before a0 Z = true) : (Jvm.Cond.initialized "java/lang/Math").before a0 Z = true := hw _ (List.mem_of_getElem? (i := 44) rfl)
theorem pd_0 : parseMethodDescriptor "(II)I" = some ⟨[.int, .int], some .int⟩ := by decide +kernel
theorem Wd53 {a0 : Array Value} {Z : State} (hw : ∀ d ∈ tables_1, d.before a0 Z = true) : (Jvm.Cond.methodLink "java/util/Arrays" (304 : Nat) ({ cls := "java/lang/Math", name := "min", desc := "(II)I" } : Jvm.MethodName)).before a0 Z = true := hw _ (List.mem_of_getElem? (i := 53) rfl)
theorem Wd47 {a0 : Array Value} {Z : State} (hw : ∀ d ∈ tables_1, d.before a0 Z = true) : (Jvm.Cond.static ({ cls := "java/lang/Math", name := "min", desc := "(II)I" } : Jvm.MethodName)).before a0 Z = true := hw _ (List.mem_of_getElem? (i := 47) rfl)
theorem Wd54 {a0 : Array Value} {Z : State} (hw : ∀ d ∈ tables_1, d.before a0 Z = true) : (Jvm.Cond.methodLink "java/util/Arrays" (150 : Nat) ({ cls := "java/lang/System", name := "arraycopy", desc := "(Ljava/lang/Object;ILjava/lang/Object;II)V" } : Jvm.MethodName)).before a0 Z = true := hw _ (List.mem_of_getElem? (i := 54) rfl)
theorem Wd57 {a0 : Array Value} {Z : State} (hw : ∀ d ∈ tables_1, d.before a0 Z = true) : (Jvm.Cond.native ({ cls := "java/lang/System", name := "arraycopy", desc := "(Ljava/lang/Object;ILjava/lang/Object;II)V" } : Jvm.MethodName)).before a0 Z = true := hw _ (List.mem_of_getElem? (i := 57) rfl)
theorem Wd55 {a0 : Array Value} {Z : State} (hw : ∀ d ∈ tables_1, d.before a0 Z = true) : (Jvm.Cond.static ({ cls := "java/lang/System", name := "arraycopy", desc := "(Ljava/lang/Object;ILjava/lang/Object;II)V" } : Jvm.MethodName)).before a0 Z = true := hw _ (List.mem_of_getElem? (i := 55) rfl)
theorem Wd56 {a0 : Array Value} {Z : State} (hw : ∀ d ∈ tables_1, d.before a0 Z = true) : (Jvm.Cond.initialized "java/lang/System").before a0 Z = true := hw _ (List.mem_of_getElem? (i := 56) rfl)
set_option maxRecDepth 65536 in
set_option maxHeartbeats 40000000 in
theorem rm_copy (l : Launch) (Z : State) (a0 : Array Value) (hw : ∀ d ∈ tables_1, d.before a0 Z = true) (ws : List Jvm.Cond) (nn : Addr) (kn : ClassId) (z : Int32) (h0 : Heap) (n0 : Nat) (Z0 : n0 ≤ h0.size) (hz : z.toInt = 3 ∨ z.toInt = 4) (V_n : Arv Z h0 nn kn .int (0 : Int32) [] (.int (0 : Int32))) :
    MetFree l (⟨"java/util/Arrays", "copyOf", "([II)[I"⟩ : MethodName) (head1 (Jvm.Cond.code (⟨"java/util/Arrays", "copyOf", "([II)[I"⟩ : MethodName) jdk_65_method_123_code 3 (some (.array .int)) :: ws) ({ frames := 1, cells := 1, slots := 4, locals := 30 } : Room)) (fun aa U => aa = #[(.ref nn), (.int z)] ∧ Z.Warmed39 U.vm ∧ U.heap = h0) (fun _ _ _ _ _ => True) (fun _ U o U' => ∃ v L, o = .returned v ∧ Qcopy Z z h0 n0 v U'.heap L ∧ FrameEnd U o U' L (({ frames := 1, cells := 1, slots := 4, locals := 30 } : Room).cells) (({ frames := 1, cells := 1, slots := 4, locals := 30 } : Room).slots)) := by
  refine own_body pf_3 ?_
  intro p e s m below meth c s₁ hx hby hml hown hnm hlk hret hZ X0 e0
  have N0 : Fr n0 [] := Fr.nil n0
  refine own_go (f' := (mkF m 0 #[.val (.ref nn), .val (.int z), .unset] [])) (fun t k => castTop (ef_rm_copy m nn z) k) ?_
  have K1 : Keep h0 h0 [] := Keep.refl _ _
  refine own_iloadN X0 hx (pc' := 1) (hb hby d8_0) rfl rfl ?_
  refine own_aloadN X0 hx (pc' := 2) (hb hby d8_1) rfl rfl rfl ?_
  obtain ⟨cl2, Ar2, q2, S2, M2, H2, G2⟩ := id V_n
  refine own_len X0 hx (pc' := 3) hZ e0 Ar2 S2 M2 (hb hby d8_2) rfl ?_
  have hne : ¬ (z = (0 : Int32)) := by rw [← Int32.toInt_inj, own_t32_0]; omega
  refine own_icmpYes X0 hx (pc' := 14) (hb hby d8_3) (feq hne).2 (by decide) (by decide) ?_
  refine own_iloadN X0 hx (pc' := 15) (hb hby d8_14) rfl rfl ?_
  have hzn : ¬ z < 0 := by rw [Int32.lt_iff_toInt_lt]; show ¬ z.toInt < 0; omega
  have hcap : z.toNatClampNeg ≤ 4 := by have := nat_of hzn; omega
  have hcap3 : 3 ≤ z.toNatClampNeg := by have := nat_of hzn; omega
  refine own_newP X0 hx (pc' := 17) hZ (aty := .int) (Wd25 hw) e0 (hb hby d8_15) hzn 4 hcap (by decide) (by decide) (by decide) rfl (fun T3 h3 kc3 nb3 g3 X3 e3 E3 A3 => ?_)
  have ne_nn_nb3_4 : nn ≠ nb3 := Nat.ne_of_lt (Nat.lt_of_lt_of_le V_n.lt (Nat.le_of_eq g3.symm))
  have ge_nb3 : n0 ≤ nb3 := Nat.le_trans Z0 (Nat.le_of_eq g3.symm)
  have gk_nb3 : h0.size ≤ nb3 := Nat.le_trans K1.1 (Nat.le_of_eq g3.symm)
  have Z5 : n0 ≤ h3.size := Nat.le_trans Z0 E3.1
  have K6 : Keep h0 h3 [] := K1.ext E3
  have F7 := (V_n.ext E3)
  have V8 : Arv Z h3 nb3 kc3 .int z [] (.int (0 : Int32)) := Arv.new A3 hzn
  have V9 : Arv Z h3 nb3 kc3 .int z [(.int (0 : Int32)), (.int (0 : Int32)), (.int (0 : Int32))] (.int (0 : Int32)) := V8.pad (pad_rep [] (.int (0 : Int32)) 3)
  refine own_astoreN X3 hx (pc' := 18) (Ls' := #[.val (.ref nn), .val (.int z), .val (.ref nb3)]) (hb hby d8_17) rfl rfl rfl ?_
  refine own_aloadN X3 hx (pc' := 19) (hb hby d8_18) rfl rfl rfl ?_
  refine own_iconst X3 hx (pc' := 20) (0 : Int32) (hb hby d8_19) rfl rfl ?_
  refine own_aloadN X3 hx (pc' := 21) (hb hby d8_20) rfl rfl rfl ?_
  refine own_iconst X3 hx (pc' := 22) (0 : Int32) (hb hby d8_21) rfl rfl ?_
  refine own_aloadN X3 hx (pc' := 23) (hb hby d8_22) rfl rfl rfl ?_
  obtain ⟨cl10, Ar10, q10, S10, M10, H10, G10⟩ := id F7
  refine own_len X3 hx (pc' := 24) hZ e3 Ar10 S10 M10 (hb hby d8_23) rfl ?_
  refine own_iloadN X3 hx (pc' := 25) (hb hby d8_24) rfl rfl ?_
  refine own_callS X3 hx (pc' := 28) hZ hown (Wd53 hw) (Wd47 hw) (Wd44 hw) (Wd48 hw) (by decide) (rm_min l Z a0 hw [] (0 : Int32) z h3 n0 Z5) e3 4 (by decide) (by decide) (by decide) (by decide) [(.int (0 : Int32)), (.int z)] [(.int (0 : Int32)), (.ref nb3), (.int (0 : Int32)), (.ref nn)] (by rw [hml]; rfl) (lenOf pd_0 rfl) rfl rfl (Nat.le_of_eq rfl) (hb hby d8_25) rfl (fun v11 T11 L11 X11 hQ11 => ?_)
  obtain ⟨rfl, Nq11, e11⟩ := hQ11
  have N12 := Fr.app N0 Nq11
  show own_G p.tables e below _ T11 (mkF m 28 #[.val (.ref nn), .val (.int z), .val (.ref nb3)] [(.int (own_min (0 : Int32) z)), (.int (0 : Int32)), (.ref nb3), (.int (0 : Int32)), (.ref nn)])
  rw [show own_min (0 : Int32) z = (0 : Int32) from by unfold own_min; rw [if_neg]; rw [Int32.lt_iff_toInt_lt, own_t32_0]; omega]
  obtain ⟨T13, h13, L13, X13, e13, N13, K13, V13, st13⟩ := cpA X11 hx hZ hown (Wd54 hw) (Wd57 hw) (Wd55 hw) (Wd56 hw) e11 F7 V9 (Or.inl ⟨rfl, rfl⟩) (by decide) (by decide) (by decide) (by decide) (Nat.le_trans (by decide : ((0 : Int32) : Int32).toNatClampNeg + ((0 : Int32) : Int32).toNatClampNeg ≤ 0) (Nat.le_trans (by decide) hcap3)) (us := []) rfl (Nat.le_of_ble_eq_true rfl) N12 ge_nb3 (g := (mkF m 28 #[.val (.ref nn), .val (.int z), .val (.ref nb3)] [(.int (0 : Int32)), (.int (0 : Int32)), (.ref nb3), (.int (0 : Int32)), (.ref nn)])) rfl (by rw [hml]; rfl) rfl (hb hby d8_28) (by decide) (W := 0) (by show 2 * 0 + _ ≤ _; exact Nat.le_of_eq rfl) (by decide)
  have Z14 : n0 ≤ h13.size := Nat.le_trans Z5 K13.1
  have K15 : Keep h0 h13 [] := Keep.trans K6 K13 (allS (Or.inr gk_nb3) all0)
  have F16 := (F7.keep K13 (ninS ne_nn_nb3_4 nin0))
  have V17 : Arv Z h13 nb3 kc3 .int z [(.int (0 : Int32)), (.int (0 : Int32)), (.int (0 : Int32))] (.int (0 : Int32)) := V13
  refine own_go (f' := (mkF m 31 #[.val (.ref nn), .val (.int z), .val (.ref nb3)] [])) st13 ?_
  refine own_aloadN X13 hx (pc' := 32) (hb hby d8_31) rfl rfl rfl ?_
  refine own_retA X13 hx hlk hret rfl rfl rfl (hb hby d8_32) (by decide) (by decide) ?_
  rw [e13]
  exact ⟨nb3, _, rfl, gk_nb3, N13, K15, V17⟩

theorem d5_0 : decode prog_127_method_7_code 0 = .ok (.aload_n 0, 1) := by decide +kernel
theorem d5_1 : decode prog_127_method_7_code 1 = .ok (.getfield 35, 3) := by decide +kernel
theorem d5_4 : decode prog_127_method_7_code 4 = .ok (.aload_n 0, 1) := by decide +kernel
theorem d5_5 : decode prog_127_method_7_code 5 = .ok (.getfield 13, 3) := by decide +kernel
theorem d5_8 : decode prog_127_method_7_code 8 = .ok (.arraylength, 1) := by decide +kernel
theorem d5_9 : decode prog_127_method_7_code 9 = .ok (.if_icmp .ne 57, 3) := by decide +kernel
theorem d5_12 : decode prog_127_method_7_code 12 = .ok (.aload_n 0, 1) := by decide +kernel
theorem d5_13 : decode prog_127_method_7_code 13 = .ok (.getfield 31, 3) := by decide +kernel
theorem d5_16 : decode prog_127_method_7_code 16 = .ok (.iconst 4, 1) := by decide +kernel
theorem d5_17 : decode prog_127_method_7_code 17 = .ok (.iconst 2, 1) := by decide +kernel
theorem d5_18 : decode prog_127_method_7_code 18 = .ok (.aload_n 0, 1) := by decide +kernel
theorem d5_19 : decode prog_127_method_7_code 19 = .ok (.getfield 35, 3) := by decide +kernel
theorem d5_22 : decode prog_127_method_7_code 22 = .ok (.imul, 1) := by decide +kernel
theorem d5_23 : decode prog_127_method_7_code 23 = .ok (.invokestatic 38, 3) := by decide +kernel
theorem d5_26 : decode prog_127_method_7_code 26 = .ok (.invokestatic 44, 3) := by decide +kernel
theorem d5_29 : decode prog_127_method_7_code 29 = .ok (.istore_n 3, 1) := by decide +kernel
theorem d5_30 : decode prog_127_method_7_code 30 = .ok (.aload_n 0, 1) := by decide +kernel
theorem d5_31 : decode prog_127_method_7_code 31 = .ok (.aload_n 0, 1) := by decide +kernel
theorem d5_32 : decode prog_127_method_7_code 32 = .ok (.getfield 13, 3) := by decide +kernel
theorem d5_35 : decode prog_127_method_7_code 35 = .ok (.iload_n 3, 1) := by decide +kernel
theorem d5_36 : decode prog_127_method_7_code 36 = .ok (.invokestatic 47, 3) := by decide +kernel
theorem d5_39 : decode prog_127_method_7_code 39 = .ok (.putfield 13, 3) := by decide +kernel
theorem d5_42 : decode prog_127_method_7_code 42 = .ok (.aload_n 0, 1) := by decide +kernel
theorem d5_43 : decode prog_127_method_7_code 43 = .ok (.aload_n 0, 1) := by decide +kernel
theorem d5_44 : decode prog_127_method_7_code 44 = .ok (.getfield 16, 3) := by decide +kernel
theorem d5_47 : decode prog_127_method_7_code 47 = .ok (.iload_n 3, 1) := by decide +kernel
theorem d5_48 : decode prog_127_method_7_code 48 = .ok (.invokestatic 47, 3) := by decide +kernel
theorem d5_51 : decode prog_127_method_7_code 51 = .ok (.putfield 16, 3) := by decide +kernel
theorem d5_54 : decode prog_127_method_7_code 54 = .ok (.aload_n 0, 1) := by decide +kernel
theorem d5_55 : decode prog_127_method_7_code 55 = .ok (.aload_n 0, 1) := by decide +kernel
theorem d5_56 : decode prog_127_method_7_code 56 = .ok (.getfield 19, 3) := by decide +kernel
theorem d5_59 : decode prog_127_method_7_code 59 = .ok (.iload_n 3, 1) := by decide +kernel
theorem d5_60 : decode prog_127_method_7_code 60 = .ok (.invokestatic 47, 3) := by decide +kernel
theorem d5_63 : decode prog_127_method_7_code 63 = .ok (.putfield 19, 3) := by decide +kernel
theorem d5_66 : decode prog_127_method_7_code 66 = .ok (.aload_n 0, 1) := by decide +kernel
theorem d5_67 : decode prog_127_method_7_code 67 = .ok (.getfield 13, 3) := by decide +kernel
theorem d5_70 : decode prog_127_method_7_code 70 = .ok (.aload_n 0, 1) := by decide +kernel
theorem d5_71 : decode prog_127_method_7_code 71 = .ok (.getfield 35, 3) := by decide +kernel
theorem d5_74 : decode prog_127_method_7_code 74 = .ok (.iload_n 1, 1) := by decide +kernel
theorem d5_75 : decode prog_127_method_7_code 75 = .ok (.iastore, 1) := by decide +kernel
theorem d5_76 : decode prog_127_method_7_code 76 = .ok (.aload_n 0, 1) := by decide +kernel
theorem d5_77 : decode prog_127_method_7_code 77 = .ok (.getfield 16, 3) := by decide +kernel
theorem d5_80 : decode prog_127_method_7_code 80 = .ok (.aload_n 0, 1) := by decide +kernel
theorem d5_81 : decode prog_127_method_7_code 81 = .ok (.getfield 35, 3) := by decide +kernel
theorem d5_84 : decode prog_127_method_7_code 84 = .ok (.iload_n 2, 1) := by decide +kernel
theorem d5_85 : decode prog_127_method_7_code 85 = .ok (.iastore, 1) := by decide +kernel
theorem d5_86 : decode prog_127_method_7_code 86 = .ok (.aload_n 0, 1) := by decide +kernel
theorem d5_87 : decode prog_127_method_7_code 87 = .ok (.getfield 19, 3) := by decide +kernel
theorem d5_90 : decode prog_127_method_7_code 90 = .ok (.aload_n 0, 1) := by decide +kernel
theorem d5_91 : decode prog_127_method_7_code 91 = .ok (.getfield 35, 3) := by decide +kernel
theorem d5_94 : decode prog_127_method_7_code 94 = .ok (.iconst 0, 1) := by decide +kernel
theorem d5_95 : decode prog_127_method_7_code 95 = .ok (.iastore, 1) := by decide +kernel
theorem d5_96 : decode prog_127_method_7_code 96 = .ok (.aload_n 0, 1) := by decide +kernel
theorem d5_97 : decode prog_127_method_7_code 97 = .ok (.dup, 1) := by decide +kernel
theorem d5_98 : decode prog_127_method_7_code 98 = .ok (.getfield 35, 3) := by decide +kernel
theorem d5_101 : decode prog_127_method_7_code 101 = .ok (.iconst 1, 1) := by decide +kernel
theorem d5_102 : decode prog_127_method_7_code 102 = .ok (.iadd, 1) := by decide +kernel
theorem d5_103 : decode prog_127_method_7_code 103 = .ok (.putfield 35, 3) := by decide +kernel
theorem d5_106 : decode prog_127_method_7_code 106 = .ok (.return_, 1) := by decide +kernel
def Qadd0 (Z : State) (a : Addr) (d q s : Int32) (h0 : Heap) (n0 : Nat) (v : Option Value) (h : Heap) (L : List Loc) : Prop := v = none ∧ Fr n0 L ∧ Keep h0 h [a] ∧ ∃ (z : Int32) (b1 b2 b3 : Addr) (k1 k2 k3 : ClassId), (z.toInt = 3 ∨ z.toInt = 4) ∧ h0.size ≤ b1 ∧ h0.size ≤ b2 ∧ h0.size ≤ b3 ∧ b1 ≠ b2 ∧ b1 ≠ b3 ∧ b2 ≠ b3 ∧ Fld Z h a "com/example/rootcast/rootcast/tree/Children" "count" "I" (.int (1 : Int32)) ∧ Fld Z h a "com/example/rootcast/rootcast/tree/Children" "peers" "[I" (.ref b1) ∧ Fld Z h a "com/example/rootcast/rootcast/tree/Children" "subtree" "[I" (.ref b2) ∧ Fld Z h a "com/example/rootcast/rootcast/tree/Children" "sent" "[I" (.ref b3) ∧ Arv Z h b1 k1 .int z [(.int q), (.int (0 : Int32)), (.int (0 : Int32))] (.int (0 : Int32)) ∧ Arv Z h b2 k2 .int z [(.int s), (.int (0 : Int32)), (.int (0 : Int32))] (.int (0 : Int32)) ∧ Arv Z h b3 k3 .int z [(.int (0 : Int32)), (.int (0 : Int32)), (.int (0 : Int32))] (.int (0 : Int32))
theorem ef_rm_add0 (m : MethodId) (x0 : Addr) (x1 : Int32) (x2 : Int32) : entryFrame m #[(.ref x0), (.int x1), (.int x2)] 4 = mkF m 0 #[.val (.ref x0), .val (.int x1), .val (.int x2), .unset] [] := by first | (simp [entryFrame, mkF, argsToLocals, Value.category, maxLocals]; done) | rfl
theorem pf_4 : plainFor (⟨"com/example/rootcast/rootcast/tree/Children", "add", "(II)V"⟩ : MethodName) = true := by apply plainFor_of_name; first | (simp [plainName, overriddenIn]; done) | decide +kernel
theorem Wd35 {a0 : Array Value} {Z : State} (hw : ∀ d ∈ tables_1, d.before a0 Z = true) : (Jvm.Cond.fieldLink "com/example/rootcast/rootcast/tree/Children" (35 : Nat) "com/example/rootcast/rootcast/tree/Children" "count" "I").before a0 Z = true := hw _ (List.mem_of_getElem? (i := 35) rfl)
theorem Wd45 {a0 : Array Value} {Z : State} (hw : ∀ d ∈ tables_1, d.before a0 Z = true) : (Jvm.Cond.code ({ cls := "java/lang/Math", name := "max", desc := "(II)I" } : Jvm.MethodName) jdk_29_method_65_code (2 : Nat) (Option.some Jvm.ClassFile.FieldType.int)).before a0 Z = true := hw _ (List.mem_of_getElem? (i := 45) rfl)
theorem Wd42 {a0 : Array Value} {Z : State} (hw : ∀ d ∈ tables_1, d.before a0 Z = true) : (Jvm.Cond.methodLink "com/example/rootcast/rootcast/tree/Children" (38 : Nat) ({ cls := "java/lang/Math", name := "max", desc := "(II)I" } : Jvm.MethodName)).before a0 Z = true := hw _ (List.mem_of_getElem? (i := 42) rfl)
theorem Wd43 {a0 : Array Value} {Z : State} (hw : ∀ d ∈ tables_1, d.before a0 Z = true) : (Jvm.Cond.static ({ cls := "java/lang/Math", name := "max", desc := "(II)I" } : Jvm.MethodName)).before a0 Z = true := hw _ (List.mem_of_getElem? (i := 43) rfl)
theorem Wd46 {a0 : Array Value} {Z : State} (hw : ∀ d ∈ tables_1, d.before a0 Z = true) : (Jvm.Cond.methodLink "com/example/rootcast/rootcast/tree/Children" (44 : Nat) ({ cls := "java/lang/Math", name := "min", desc := "(II)I" } : Jvm.MethodName)).before a0 Z = true := hw _ (List.mem_of_getElem? (i := 46) rfl)
theorem Wd52 {a0 : Array Value} {Z : State} (hw : ∀ d ∈ tables_1, d.before a0 Z = true) : (Jvm.Cond.code ({ cls := "java/util/Arrays", name := "copyOf", desc := "([II)[I" } : Jvm.MethodName) jdk_65_method_123_code (3 : Nat) (Option.some (Jvm.ClassFile.FieldType.array Jvm.ClassFile.FieldType.int))).before a0 Z = true := hw _ (List.mem_of_getElem? (i := 52) rfl)
theorem Wd51 {a0 : Array Value} {Z : State} (hw : ∀ d ∈ tables_1, d.before a0 Z = true) : (Jvm.Cond.initialized "java/util/Arrays").before a0 Z = true := hw _ (List.mem_of_getElem? (i := 51) rfl)
theorem pd_1 : parseMethodDescriptor "([II)[I" = some ⟨[(.array .int), .int], some (.array .int)⟩ := by decide +kernel
theorem Wd49 {a0 : Array Value} {Z : State} (hw : ∀ d ∈ tables_1, d.before a0 Z = true) : (Jvm.Cond.methodLink "com/example/rootcast/rootcast/tree/Children" (47 : Nat) ({ cls := "java/util/Arrays", name := "copyOf", desc := "([II)[I" } : Jvm.MethodName)).before a0 Z = true := hw _ (List.mem_of_getElem? (i := 49) rfl)
theorem Wd50 {a0 : Array Value} {Z : State} (hw : ∀ d ∈ tables_1, d.before a0 Z = true) : (Jvm.Cond.static ({ cls := "java/util/Arrays", name := "copyOf", desc := "([II)[I" } : Jvm.MethodName)).before a0 Z = true := hw _ (List.mem_of_getElem? (i := 50) rfl)
set_option maxRecDepth 65536 in
set_option maxHeartbeats 40000000 in
theorem rm_add0 (l : Launch) (Z : State) (a0 : Array Value) (hw : ∀ d ∈ tables_1, d.before a0 Z = true) (ws : List Jvm.Cond) (a nn : Addr) (kn : ClassId) (d q sz : Int32) (h0 : Heap) (n0 : Nat) (Z0 : n0 ≤ h0.size) (g_a : n0 ≤ a) (hd : d.toInt = 3 ∨ d.toInt = 4) (E_a : Exa Z h0 a "com/example/rootcast/rootcast/tree/Children") (F_c : Fld Z h0 a "com/example/rootcast/rootcast/tree/Children" "count" "I" (.int (0 : Int32))) (F_p : Fld Z h0 a "com/example/rootcast/rootcast/tree/Children" "peers" "[I" (.ref nn)) (F_u : Fld Z h0 a "com/example/rootcast/rootcast/tree/Children" "subtree" "[I" (.ref nn)) (F_t : Fld Z h0 a "com/example/rootcast/rootcast/tree/Children" "sent" "[I" (.ref nn)) (F_d : Fld Z h0 a "com/example/rootcast/rootcast/tree/Children" "degree" "I" (.int d)) (V_n : Arv Z h0 nn kn .int (0 : Int32) [] (.int (0 : Int32))) :
    MetFree l (⟨"com/example/rootcast/rootcast/tree/Children", "add", "(II)V"⟩ : MethodName) (head1 (Jvm.Cond.code (⟨"com/example/rootcast/rootcast/tree/Children", "add", "(II)V"⟩ : MethodName) prog_127_method_7_code 4 none :: ws) ({ frames := 2, cells := 3, slots := 12, locals := 48 } : Room)) (fun aa U => aa = #[(.ref a), (.int q), (.int sz)] ∧ Z.Warmed39 U.vm ∧ U.heap = h0) (fun _ _ _ _ _ => True) (fun _ U o U' => ∃ v L, o = .returned v ∧ Qadd0 Z a d q sz h0 n0 v U'.heap L ∧ FrameEnd U o U' L (({ frames := 2, cells := 3, slots := 12, locals := 48 } : Room).cells) (({ frames := 2, cells := 3, slots := 12, locals := 48 } : Room).slots)) := by
  refine own_body pf_4 ?_
  intro p e s m below meth c s₁ hx hby hml hown hnm hlk hret hZ X0 e0
  have N0 : Fr n0 [] := Fr.nil n0
  refine own_go (f' := (mkF m 0 #[.val (.ref a), .val (.int q), .val (.int sz), .unset] [])) (fun t k => castTop (ef_rm_add0 m a q sz) k) ?_
  have ne_a_nn : a ≠ nn := by obtain ⟨c1, A1, -⟩ := V_n; exact ne_arr E_a (Wd1 hw) A1
  have K1 : Keep h0 h0 [a] := Keep.refl _ _
  refine own_aloadN X0 hx (pc' := 1) (hb hby d5_0) rfl rfl rfl ?_
  refine own_getF X0 hx (pc' := 4) hZ hown (host := "") (Or.inl (Wd35 hw)) Via.refl e0 F_c (hb hby d5_1) rfl (fun T2 X2 e2 => ?_)
  refine own_aloadN X2 hx (pc' := 5) (hb hby d5_4) rfl rfl rfl ?_
  refine own_getF X2 hx (pc' := 8) hZ hown (host := "") (Or.inl (Wd11 hw)) Via.refl e2 F_p (hb hby d5_5) rfl (fun T3 X3 e3 => ?_)
  obtain ⟨cl4, Ar4, q4, S4, M4, H4, G4⟩ := id V_n
  refine own_len X3 hx (pc' := 9) hZ e3 Ar4 S4 M4 (hb hby d5_8) rfl ?_
  refine own_icmpNo X3 hx (pc' := 12) (hb hby d5_9) (teq (by decide : (0 : Int32) = (0 : Int32))).2 rfl ?_
  refine own_aloadN X3 hx (pc' := 13) (hb hby d5_12) rfl rfl rfl ?_
  refine own_getF X3 hx (pc' := 16) hZ hown (host := "") (Or.inl (Wd23 hw)) Via.refl e3 F_d (hb hby d5_13) rfl (fun T5 X5 e5 => ?_)
  refine own_iconst X5 hx (pc' := 17) (4 : Int32) (hb hby d5_16) rfl rfl ?_
  refine own_iconst X5 hx (pc' := 18) (2 : Int32) (hb hby d5_17) rfl rfl ?_
  refine own_aloadN X5 hx (pc' := 19) (hb hby d5_18) rfl rfl rfl ?_
  refine own_getF X5 hx (pc' := 22) hZ hown (host := "") (Or.inl (Wd35 hw)) Via.refl e5 F_c (hb hby d5_19) rfl (fun T6 X6 e6 => ?_)
  refine own_imul X6 hx (pc' := 23) (z := (0 : Int32)) (hb hby d5_22) (by decide) rfl ?_
  refine own_callS X6 hx (pc' := 26) hZ hown (Wd42 hw) (Wd43 hw) (Wd44 hw) (Wd45 hw) (by decide) (rm_max l Z a0 hw [] (4 : Int32) (0 : Int32) h0 n0 Z0) e6 1 (by decide) (by decide) (by decide) (by decide) [(.int (4 : Int32)), (.int (0 : Int32))] [(.int d)] (by rw [hml]; rfl) (lenOf pd_0 rfl) rfl rfl (Nat.le_of_eq rfl) (hb hby d5_23) rfl (fun v7 T7 L7 X7 hQ7 => ?_)
  obtain ⟨rfl, Nq7, e7⟩ := hQ7
  have N8 := Fr.app N0 Nq7
  show own_G p.tables e below _ T7 (mkF m 26 #[.val (.ref a), .val (.int q), .val (.int sz), .unset] [(.int (own_max (4 : Int32) (0 : Int32))), (.int d)])
  rw [show (own_max (4 : Int32) (0 : Int32)) = (4 : Int32) from by decide]
  refine own_callS X7 hx (pc' := 29) hZ hown (Wd46 hw) (Wd47 hw) (Wd44 hw) (Wd48 hw) (by decide) (rm_min l Z a0 hw [] d (4 : Int32) h0 n0 Z0) e7 0 (by decide) (by decide) (by decide) (by decide) [(.int d), (.int (4 : Int32))] [] (by rw [hml]; rfl) (lenOf pd_0 rfl) rfl rfl (Nat.le_of_eq rfl) (hb hby d5_26) rfl (fun v9 T9 L9 X9 hQ9 => ?_)
  obtain ⟨rfl, Nq9, e9⟩ := hQ9
  have N10 := Fr.app N8 Nq9
  show own_G p.tables e below _ T9 (mkF m 29 #[.val (.ref a), .val (.int q), .val (.int sz), .unset] [(.int (own_min d (4 : Int32)))])
  obtain ⟨z, ez⟩ : ∃ z, z = (own_min d (4 : Int32)) := ⟨_, rfl⟩
  rw [← ez]
  have hz : z.toInt = 3 ∨ z.toInt = 4 := by rw [ez]; unfold own_min; split <;> first | (rw [own_t32_4]; omega) | omega
  have hzn : ¬ z < 0 := by rw [Int32.lt_iff_toInt_lt]; show ¬ z.toInt < 0; omega
  have hz0 : ¬ (0 : Int32) < 0 ∧ (0 : Int32) < z := ⟨by decide, by rw [Int32.lt_iff_toInt_lt, own_t32_0]; omega⟩
  refine own_istoreN X9 hx (pc' := 30) (Ls' := #[.val (.ref a), .val (.int q), .val (.int sz), .val (.int z)]) (hb hby d5_29) rfl rfl ?_
  refine own_aloadN X9 hx (pc' := 31) (hb hby d5_30) rfl rfl rfl ?_
  refine own_aloadN X9 hx (pc' := 32) (hb hby d5_31) rfl rfl rfl ?_
  refine own_getF X9 hx (pc' := 35) hZ hown (host := "") (Or.inl (Wd11 hw)) Via.refl e9 F_p (hb hby d5_32) rfl (fun T11 X11 e11 => ?_)
  refine own_iloadN X11 hx (pc' := 36) (hb hby d5_35) rfl rfl ?_
  refine own_callS X11 hx (pc' := 39) hZ hown (Wd49 hw) (Wd50 hw) (Wd51 hw) (Wd52 hw) (by decide) (rm_copy l Z a0 hw [] nn kn z h0 n0 Z0 hz V_n) e11 1 (by decide) (by decide) (by decide) (by decide) [(.ref nn), (.int z)] [(.ref a)] (by rw [hml]; rfl) (lenOf pd_1 rfl) rfl rfl (Nat.le_of_eq rfl) (hb hby d5_36) rfl (fun v12 T12 L12 X12 hQ12 => ?_)
  obtain ⟨nb12, k12, rfl, gs12, Nq12, K12, V12⟩ := hQ12
  have N13 := Fr.app N10 Nq12
  have ne_a_nb12 : a ≠ nb12 := Nat.ne_of_lt (Nat.lt_of_lt_of_le E_a.lt gs12)
  have ne_nn_nb12 : nn ≠ nb12 := Nat.ne_of_lt (Nat.lt_of_lt_of_le V_n.lt gs12)
  have ge_nb12 : n0 ≤ nb12 := Nat.le_trans Z0 gs12
  have gk_nb12 : h0.size ≤ nb12 := Nat.le_trans K1.1 gs12
  have Z14 : n0 ≤ T12.heap.size := Nat.le_trans Z0 K12.1
  have K15 : Keep h0 T12.heap [a] := Keep.trans K1 K12 all0
  have F16 := (Exa.keep E_a K12)
  have F17 := (F_c.keep K12 nin0)
  have F18 := (F_p.keep K12 nin0)
  have F19 := (F_u.keep K12 nin0)
  have F20 := (F_t.keep K12 nin0)
  have F21 := (F_d.keep K12 nin0)
  have F22 := (V_n.keep K12 nin0)
  show own_G p.tables e below _ T12 (mkF m 39 #[.val (.ref a), .val (.int q), .val (.int sz), .val (.int z)] [(.ref nb12), (.ref a)])
  refine own_putF X12 hx (pc' := 42) hZ (ty := (.array .int)) hown (host := "") (Or.inl (Wd11 hw)) Via.refl rfl F18 F16 (Or.inl (Wd12 hw)) (Wd1 hw) (by decide) rfl rfl (hb hby d5_39) rfl (fun T23 h23 X23 e23 W23 => ?_)
  have N24 := Fr.snoc X23 N13 g_a
  have Z25 : n0 ≤ h23.size := Nat.le_trans Z14 (Nat.le_of_eq (Wr.size W23).symm)
  have K26 : Keep h0 h23 [a] := K15.wr W23 (Or.inl (List.mem_of_getElem? (i := 0) rfl))
  have F27 := (Exa.wr W23 F16)
  have F28 := (Fld.other W23 F17 (Or.inr (slot_ne (Or.inl (Wd36 hw)) (Or.inl (Wd12 hw)) (by decide) (t := .int) (t' := (.array .int)) (by decide) (by decide))))
  have F29 := (Fld.same W23 F18)
  have F30 := (Fld.other W23 F19 (Or.inr (slot_ne (Or.inl (Wd14 hw)) (Or.inl (Wd12 hw)) (by decide) (t := (.array .int)) (t' := (.array .int)) (by decide) (by decide))))
  have F31 := (Fld.other W23 F20 (Or.inr (slot_ne (Or.inl (Wd16 hw)) (Or.inl (Wd12 hw)) (by decide) (t := (.array .int)) (t' := (.array .int)) (by decide) (by decide))))
  have F32 := (Fld.other W23 F21 (Or.inr (slot_ne (Or.inr (Wd24 hw)) (Or.inl (Wd12 hw)) (by decide) (t := .int) (t' := (.array .int)) (by decide) (by decide))))
  have F33 := (F22.other W23 (Ne.symm ne_a_nn))
  have F34 := (V12.other W23 (Ne.symm ne_a_nb12))
  refine own_aloadN X23 hx (pc' := 43) (hb hby d5_42) rfl rfl rfl ?_
  refine own_aloadN X23 hx (pc' := 44) (hb hby d5_43) rfl rfl rfl ?_
  refine own_getF X23 hx (pc' := 47) hZ hown (host := "") (Or.inl (Wd13 hw)) Via.refl e23 F30 (hb hby d5_44) rfl (fun T35 X35 e35 => ?_)
  refine own_iloadN X35 hx (pc' := 48) (hb hby d5_47) rfl rfl ?_
  refine own_callS X35 hx (pc' := 51) hZ hown (Wd49 hw) (Wd50 hw) (Wd51 hw) (Wd52 hw) (by decide) (rm_copy l Z a0 hw [] nn kn z h23 n0 Z25 hz F33) e35 1 (by decide) (by decide) (by decide) (by decide) [(.ref nn), (.int z)] [(.ref a)] (by rw [hml]; rfl) (lenOf pd_1 rfl) rfl rfl (Nat.le_of_eq rfl) (hb hby d5_48) rfl (fun v36 T36 L36 X36 hQ36 => ?_)
  obtain ⟨nb36, k36, rfl, gs36, Nq36, K36, V36⟩ := hQ36
  have N37 := Fr.app N24 Nq36
  have ne_a_nb36 : a ≠ nb36 := Nat.ne_of_lt (Nat.lt_of_lt_of_le F27.lt gs36)
  have ne_nn_nb36 : nn ≠ nb36 := Nat.ne_of_lt (Nat.lt_of_lt_of_le F33.lt gs36)
  have ne_nb12_nb36 : nb12 ≠ nb36 := Nat.ne_of_lt (Nat.lt_of_lt_of_le F34.lt gs36)
  have ge_nb36 : n0 ≤ nb36 := Nat.le_trans Z25 gs36
  have gk_nb36 : h0.size ≤ nb36 := Nat.le_trans K26.1 gs36
  have Z38 : n0 ≤ T36.heap.size := Nat.le_trans Z25 K36.1
  have K39 : Keep h0 T36.heap [a] := Keep.trans K26 K36 all0
  have F40 := (Exa.keep F27 K36)
  have F41 := (F28.keep K36 nin0)
  have F42 := (F29.keep K36 nin0)
  have F43 := (F30.keep K36 nin0)
  have F44 := (F31.keep K36 nin0)
  have F45 := (F32.keep K36 nin0)
  have F46 := (F33.keep K36 nin0)
  have F47 := (F34.keep K36 nin0)
  show own_G p.tables e below _ T36 (mkF m 51 #[.val (.ref a), .val (.int q), .val (.int sz), .val (.int z)] [(.ref nb36), (.ref a)])
  refine own_putF X36 hx (pc' := 54) hZ (ty := (.array .int)) hown (host := "") (Or.inl (Wd13 hw)) Via.refl rfl F43 F40 (Or.inl (Wd14 hw)) (Wd1 hw) (by decide) rfl rfl (hb hby d5_51) rfl (fun T48 h48 X48 e48 W48 => ?_)
  have N49 := Fr.snoc X48 N37 g_a
  have Z50 : n0 ≤ h48.size := Nat.le_trans Z38 (Nat.le_of_eq (Wr.size W48).symm)
  have K51 : Keep h0 h48 [a] := K39.wr W48 (Or.inl (List.mem_of_getElem? (i := 0) rfl))
  have F52 := (Exa.wr W48 F40)
  have F53 := (Fld.other W48 F41 (Or.inr (slot_ne (Or.inl (Wd36 hw)) (Or.inl (Wd14 hw)) (by decide) (t := .int) (t' := (.array .int)) (by decide) (by decide))))
  have F54 := (Fld.other W48 F42 (Or.inr (slot_ne (Or.inl (Wd12 hw)) (Or.inl (Wd14 hw)) (by decide) (t := (.array .int)) (t' := (.array .int)) (by decide) (by decide))))
  have F55 := (Fld.same W48 F43)
  have F56 := (Fld.other W48 F44 (Or.inr (slot_ne (Or.inl (Wd16 hw)) (Or.inl (Wd14 hw)) (by decide) (t := (.array .int)) (t' := (.array .int)) (by decide) (by decide))))
  have F57 := (Fld.other W48 F45 (Or.inr (slot_ne (Or.inr (Wd24 hw)) (Or.inl (Wd14 hw)) (by decide) (t := .int) (t' := (.array .int)) (by decide) (by decide))))
  have F58 := (F46.other W48 (Ne.symm ne_a_nn))
  have F59 := (F47.other W48 (Ne.symm ne_a_nb12))
  have F60 := (V36.other W48 (Ne.symm ne_a_nb36))
  refine own_aloadN X48 hx (pc' := 55) (hb hby d5_54) rfl rfl rfl ?_
  refine own_aloadN X48 hx (pc' := 56) (hb hby d5_55) rfl rfl rfl ?_
  refine own_getF X48 hx (pc' := 59) hZ hown (host := "") (Or.inl (Wd15 hw)) Via.refl e48 F56 (hb hby d5_56) rfl (fun T61 X61 e61 => ?_)
  refine own_iloadN X61 hx (pc' := 60) (hb hby d5_59) rfl rfl ?_
  refine own_callS X61 hx (pc' := 63) hZ hown (Wd49 hw) (Wd50 hw) (Wd51 hw) (Wd52 hw) (by decide) (rm_copy l Z a0 hw [] nn kn z h48 n0 Z50 hz F58) e61 1 (by decide) (by decide) (by decide) (by decide) [(.ref nn), (.int z)] [(.ref a)] (by rw [hml]; rfl) (lenOf pd_1 rfl) rfl rfl (Nat.le_of_eq rfl) (hb hby d5_60) rfl (fun v62 T62 L62 X62 hQ62 => ?_)
  obtain ⟨nb62, k62, rfl, gs62, Nq62, K62, V62⟩ := hQ62
  have N63 := Fr.app N49 Nq62
  have ne_a_nb62 : a ≠ nb62 := Nat.ne_of_lt (Nat.lt_of_lt_of_le F52.lt gs62)
  have ne_nn_nb62 : nn ≠ nb62 := Nat.ne_of_lt (Nat.lt_of_lt_of_le F58.lt gs62)
  have ne_nb12_nb62 : nb12 ≠ nb62 := Nat.ne_of_lt (Nat.lt_of_lt_of_le F59.lt gs62)
  have ne_nb36_nb62 : nb36 ≠ nb62 := Nat.ne_of_lt (Nat.lt_of_lt_of_le F60.lt gs62)
  have ge_nb62 : n0 ≤ nb62 := Nat.le_trans Z50 gs62
  have gk_nb62 : h0.size ≤ nb62 := Nat.le_trans K51.1 gs62
  have Z64 : n0 ≤ T62.heap.size := Nat.le_trans Z50 K62.1
  have K65 : Keep h0 T62.heap [a] := Keep.trans K51 K62 all0
  have F66 := (Exa.keep F52 K62)
  have F67 := (F53.keep K62 nin0)
  have F68 := (F54.keep K62 nin0)
  have F69 := (F55.keep K62 nin0)
  have F70 := (F56.keep K62 nin0)
  have F71 := (F57.keep K62 nin0)
  have F72 := (F58.keep K62 nin0)
  have F73 := (F59.keep K62 nin0)
  have F74 := (F60.keep K62 nin0)
  show own_G p.tables e below _ T62 (mkF m 63 #[.val (.ref a), .val (.int q), .val (.int sz), .val (.int z)] [(.ref nb62), (.ref a)])
  refine own_putF X62 hx (pc' := 66) hZ (ty := (.array .int)) hown (host := "") (Or.inl (Wd15 hw)) Via.refl rfl F70 F66 (Or.inl (Wd16 hw)) (Wd1 hw) (by decide) rfl rfl (hb hby d5_63) rfl (fun T75 h75 X75 e75 W75 => ?_)
  have N76 := Fr.snoc X75 N63 g_a
  have Z77 : n0 ≤ h75.size := Nat.le_trans Z64 (Nat.le_of_eq (Wr.size W75).symm)
  have K78 : Keep h0 h75 [a] := K65.wr W75 (Or.inl (List.mem_of_getElem? (i := 0) rfl))
  have F79 := (Exa.wr W75 F66)
  have F80 := (Fld.other W75 F67 (Or.inr (slot_ne (Or.inl (Wd36 hw)) (Or.inl (Wd16 hw)) (by decide) (t := .int) (t' := (.array .int)) (by decide) (by decide))))
  have F81 := (Fld.other W75 F68 (Or.inr (slot_ne (Or.inl (Wd12 hw)) (Or.inl (Wd16 hw)) (by decide) (t := (.array .int)) (t' := (.array .int)) (by decide) (by decide))))
  have F82 := (Fld.other W75 F69 (Or.inr (slot_ne (Or.inl (Wd14 hw)) (Or.inl (Wd16 hw)) (by decide) (t := (.array .int)) (t' := (.array .int)) (by decide) (by decide))))
  have F83 := (Fld.same W75 F70)
  have F84 := (Fld.other W75 F71 (Or.inr (slot_ne (Or.inr (Wd24 hw)) (Or.inl (Wd16 hw)) (by decide) (t := .int) (t' := (.array .int)) (by decide) (by decide))))
  have F85 := (F72.other W75 (Ne.symm ne_a_nn))
  have F86 := (F73.other W75 (Ne.symm ne_a_nb12))
  have F87 := (F74.other W75 (Ne.symm ne_a_nb36))
  have F88 := (V62.other W75 (Ne.symm ne_a_nb62))
  refine own_aloadN X75 hx (pc' := 67) (hb hby d5_66) rfl rfl rfl ?_
  refine own_getF X75 hx (pc' := 70) hZ hown (host := "") (Or.inl (Wd11 hw)) Via.refl e75 F81 (hb hby d5_67) rfl (fun T89 X89 e89 => ?_)
  refine own_aloadN X89 hx (pc' := 71) (hb hby d5_70) rfl rfl rfl ?_
  refine own_getF X89 hx (pc' := 74) hZ hown (host := "") (Or.inl (Wd35 hw)) Via.refl e89 F80 (hb hby d5_71) rfl (fun T90 X90 e90 => ?_)
  refine own_iloadN X90 hx (pc' := 75) (hb hby d5_74) rfl rfl ?_
  obtain ⟨cl91, Ar91, q91, S91, M91, H91, G91⟩ := id F86
  refine own_stI X90 hx (pc' := 76) hZ e90 Ar91 (inb_of S91 hz0) (hb hby d5_75) rfl (fun T92 h92 X92 e92 W92 => ?_)
  have N93 := Fr.snoc X92 N76 ge_nb12
  have Z94 : n0 ≤ h92.size := Nat.le_trans Z77 (Nat.le_of_eq (Wr.size W92).symm)
  have K95 : Keep h0 h92 [a] := K78.wr W92 (Or.inr gk_nb12)
  have F96 := (Exa.wr W92 F79)
  have F97 := (Fld.other W92 F80 (Or.inl ne_a_nb12))
  have F98 := (Fld.other W92 F81 (Or.inl ne_a_nb12))
  have F99 := (Fld.other W92 F82 (Or.inl ne_a_nb12))
  have F100 := (Fld.other W92 F83 (Or.inl ne_a_nb12))
  have F101 := (Fld.other W92 F84 (Or.inl ne_a_nb12))
  have F102 := (F85.other W92 ne_nn_nb12)
  have F103 : Arv Z h92 nb12 k12 .int z [(.int q), (.int (0 : Int32)), (.int (0 : Int32))] (.int (0 : Int32)) := (Arv.set Ar91 q91 S91 M91 H91 G91 rfl W92 0 rfl (Nat.le_of_ble_eq_true rfl))
  have F104 := (F87.other W92 (Ne.symm ne_nb12_nb36))
  have F105 := (F88.other W92 (Ne.symm ne_nb12_nb62))
  refine own_aloadN X92 hx (pc' := 77) (hb hby d5_76) rfl rfl rfl ?_
  refine own_getF X92 hx (pc' := 80) hZ hown (host := "") (Or.inl (Wd13 hw)) Via.refl e92 F99 (hb hby d5_77) rfl (fun T106 X106 e106 => ?_)
  refine own_aloadN X106 hx (pc' := 81) (hb hby d5_80) rfl rfl rfl ?_
  refine own_getF X106 hx (pc' := 84) hZ hown (host := "") (Or.inl (Wd35 hw)) Via.refl e106 F97 (hb hby d5_81) rfl (fun T107 X107 e107 => ?_)
  refine own_iloadN X107 hx (pc' := 85) (hb hby d5_84) rfl rfl ?_
  obtain ⟨cl108, Ar108, q108, S108, M108, H108, G108⟩ := id F104
  refine own_stI X107 hx (pc' := 86) hZ e107 Ar108 (inb_of S108 hz0) (hb hby d5_85) rfl (fun T109 h109 X109 e109 W109 => ?_)
  have N110 := Fr.snoc X109 N93 ge_nb36
  have Z111 : n0 ≤ h109.size := Nat.le_trans Z94 (Nat.le_of_eq (Wr.size W109).symm)
  have K112 : Keep h0 h109 [a] := K95.wr W109 (Or.inr gk_nb36)
  have F113 := (Exa.wr W109 F96)
  have F114 := (Fld.other W109 F97 (Or.inl ne_a_nb36))
  have F115 := (Fld.other W109 F98 (Or.inl ne_a_nb36))
  have F116 := (Fld.other W109 F99 (Or.inl ne_a_nb36))
  have F117 := (Fld.other W109 F100 (Or.inl ne_a_nb36))
  have F118 := (Fld.other W109 F101 (Or.inl ne_a_nb36))
  have F119 := (F102.other W109 ne_nn_nb36)
  have F120 := (F103.other W109 ne_nb12_nb36)
  have F121 : Arv Z h109 nb36 k36 .int z [(.int sz), (.int (0 : Int32)), (.int (0 : Int32))] (.int (0 : Int32)) := (Arv.set Ar108 q108 S108 M108 H108 G108 rfl W109 0 rfl (Nat.le_of_ble_eq_true rfl))
  have F122 := (F105.other W109 (Ne.symm ne_nb36_nb62))
  refine own_aloadN X109 hx (pc' := 87) (hb hby d5_86) rfl rfl rfl ?_
  refine own_getF X109 hx (pc' := 90) hZ hown (host := "") (Or.inl (Wd15 hw)) Via.refl e109 F117 (hb hby d5_87) rfl (fun T123 X123 e123 => ?_)
  refine own_aloadN X123 hx (pc' := 91) (hb hby d5_90) rfl rfl rfl ?_
  refine own_getF X123 hx (pc' := 94) hZ hown (host := "") (Or.inl (Wd35 hw)) Via.refl e123 F114 (hb hby d5_91) rfl (fun T124 X124 e124 => ?_)
  refine own_iconst X124 hx (pc' := 95) (0 : Int32) (hb hby d5_94) rfl rfl ?_
  obtain ⟨cl125, Ar125, q125, S125, M125, H125, G125⟩ := id F122
  refine own_stI X124 hx (pc' := 96) hZ e124 Ar125 (inb_of S125 hz0) (hb hby d5_95) rfl (fun T126 h126 X126 e126 W126 => ?_)
  have N127 := Fr.snoc X126 N110 ge_nb62
  have Z128 : n0 ≤ h126.size := Nat.le_trans Z111 (Nat.le_of_eq (Wr.size W126).symm)
  have K129 : Keep h0 h126 [a] := K112.wr W126 (Or.inr gk_nb62)
  have F130 := (Exa.wr W126 F113)
  have F131 := (Fld.other W126 F114 (Or.inl ne_a_nb62))
  have F132 := (Fld.other W126 F115 (Or.inl ne_a_nb62))
  have F133 := (Fld.other W126 F116 (Or.inl ne_a_nb62))
  have F134 := (Fld.other W126 F117 (Or.inl ne_a_nb62))
  have F135 := (Fld.other W126 F118 (Or.inl ne_a_nb62))
  have F136 := (F119.other W126 ne_nn_nb62)
  have F137 := (F120.other W126 ne_nb12_nb62)
  have F138 := (F121.other W126 ne_nb36_nb62)
  have F139 : Arv Z h126 nb62 k62 .int z [(.int (0 : Int32)), (.int (0 : Int32)), (.int (0 : Int32))] (.int (0 : Int32)) := (Arv.set Ar125 q125 S125 M125 H125 G125 rfl W126 0 rfl (Nat.le_of_ble_eq_true rfl))
  refine own_aloadN X126 hx (pc' := 97) (hb hby d5_96) rfl rfl rfl ?_
  refine own_dup X126 hx (pc' := 98) (hb hby d5_97) rfl rfl ?_
  refine own_getF X126 hx (pc' := 101) hZ hown (host := "") (Or.inl (Wd35 hw)) Via.refl e126 F131 (hb hby d5_98) rfl (fun T140 X140 e140 => ?_)
  refine own_iconst X140 hx (pc' := 102) (1 : Int32) (hb hby d5_101) rfl rfl ?_
  refine own_iadd X140 hx (pc' := 103) (z := (1 : Int32)) (hb hby d5_102) (by decide) rfl ?_
  refine own_putF X140 hx (pc' := 106) hZ (ty := .int) hown (host := "") (Or.inl (Wd35 hw)) Via.refl e140 F131 F130 (Or.inl (Wd36 hw)) (Wd1 hw) (by decide) rfl rfl (hb hby d5_103) rfl (fun T141 h141 X141 e141 W141 => ?_)
  have N142 := Fr.snoc X141 N127 g_a
  have Z143 : n0 ≤ h141.size := Nat.le_trans Z128 (Nat.le_of_eq (Wr.size W141).symm)
  have K144 : Keep h0 h141 [a] := K129.wr W141 (Or.inl (List.mem_of_getElem? (i := 0) rfl))
  have F145 := (Exa.wr W141 F130)
  have F146 := (Fld.same W141 F131)
  have F147 := (Fld.other W141 F132 (Or.inr (slot_ne (Or.inl (Wd12 hw)) (Or.inl (Wd36 hw)) (by decide) (t := (.array .int)) (t' := .int) (by decide) (by decide))))
  have F148 := (Fld.other W141 F133 (Or.inr (slot_ne (Or.inl (Wd14 hw)) (Or.inl (Wd36 hw)) (by decide) (t := (.array .int)) (t' := .int) (by decide) (by decide))))
  have F149 := (Fld.other W141 F134 (Or.inr (slot_ne (Or.inl (Wd16 hw)) (Or.inl (Wd36 hw)) (by decide) (t := (.array .int)) (t' := .int) (by decide) (by decide))))
  have F150 := (Fld.other W141 F135 (Or.inr (slot_ne (Or.inr (Wd24 hw)) (Or.inl (Wd36 hw)) (by decide) (t := .int) (t' := .int) (by decide) (by decide))))
  have F151 := (F136.other W141 (Ne.symm ne_a_nn))
  have F152 := (F137.other W141 (Ne.symm ne_a_nb12))
  have F153 := (F138.other W141 (Ne.symm ne_a_nb36))
  have F154 := (F139.other W141 (Ne.symm ne_a_nb62))
  refine own_retV X141 hx hlk hret (hb hby d5_106) (by decide) (by decide) ?_
  rw [e141]
  exact ⟨rfl, N142, K144, z, nb12, nb36, nb62, _, _, _, hz, gk_nb12, gk_nb36, gk_nb62, ne_nb12_nb36, ne_nb12_nb62, ne_nb36_nb62, F146, F147, F148, F149, F152, F153, F154⟩

def Qadd1 (Z : State) (a b1 b2 b3 : Addr) (k1 k2 k3 : ClassId) (z x0 x1 x2 u0 u1 u2 t0 t1 t2 q sz : Int32) (h0 : Heap) (n0 : Nat) (v : Option Value) (h : Heap) (L : List Loc) : Prop := v = none ∧ Fr n0 L ∧ Keep h0 h [a, b1, b2, b3] ∧ Fld Z h a "com/example/rootcast/rootcast/tree/Children" "count" "I" (.int (2 : Int32)) ∧ Fld Z h a "com/example/rootcast/rootcast/tree/Children" "peers" "[I" (.ref b1) ∧ Fld Z h a "com/example/rootcast/rootcast/tree/Children" "subtree" "[I" (.ref b2) ∧ Fld Z h a "com/example/rootcast/rootcast/tree/Children" "sent" "[I" (.ref b3) ∧ Arv Z h b1 k1 .int z [(.int x0), (.int q), (.int x2)] (.int (0 : Int32)) ∧ Arv Z h b2 k2 .int z [(.int u0), (.int sz), (.int u2)] (.int (0 : Int32)) ∧ Arv Z h b3 k3 .int z [(.int t0), (.int (0 : Int32)), (.int t2)] (.int (0 : Int32))
theorem ef_rm_add1 (m : MethodId) (x0 : Addr) (x1 : Int32) (x2 : Int32) : entryFrame m #[(.ref x0), (.int x1), (.int x2)] 4 = mkF m 0 #[.val (.ref x0), .val (.int x1), .val (.int x2), .unset] [] := by first | (simp [entryFrame, mkF, argsToLocals, Value.category, maxLocals]; done) | rfl
set_option maxRecDepth 65536 in
set_option maxHeartbeats 40000000 in
theorem rm_add1 (l : Launch) (Z : State) (a0 : Array Value) (hw : ∀ d ∈ tables_1, d.before a0 Z = true) (ws : List Jvm.Cond) (a b1 b2 b3 : Addr) (k1 k2 k3 : ClassId) (z x0 x1 x2 u0 u1 u2 t0 t1 t2 q sz : Int32) (h0 : Heap) (n0 : Nat) (Z0 : n0 ≤ h0.size) (hz : z.toInt = 3 ∨ z.toInt = 4) (g_a : n0 ≤ a) (g_b1 : n0 ≤ b1) (g_b2 : n0 ≤ b2) (g_b3 : n0 ≤ b3) (dj12 : b1 ≠ b2) (dj13 : b1 ≠ b3) (dj23 : b2 ≠ b3) (E_a : Exa Z h0 a "com/example/rootcast/rootcast/tree/Children") (F_c : Fld Z h0 a "com/example/rootcast/rootcast/tree/Children" "count" "I" (.int (1 : Int32))) (F_p : Fld Z h0 a "com/example/rootcast/rootcast/tree/Children" "peers" "[I" (.ref b1)) (F_u : Fld Z h0 a "com/example/rootcast/rootcast/tree/Children" "subtree" "[I" (.ref b2)) (F_t : Fld Z h0 a "com/example/rootcast/rootcast/tree/Children" "sent" "[I" (.ref b3)) (V_1 : Arv Z h0 b1 k1 .int z [(.int x0), (.int x1), (.int x2)] (.int (0 : Int32))) (V_2 : Arv Z h0 b2 k2 .int z [(.int u0), (.int u1), (.int u2)] (.int (0 : Int32))) (V_3 : Arv Z h0 b3 k3 .int z [(.int t0), (.int t1), (.int t2)] (.int (0 : Int32))) :
    MetFree l (⟨"com/example/rootcast/rootcast/tree/Children", "add", "(II)V"⟩ : MethodName) (head1 (Jvm.Cond.code (⟨"com/example/rootcast/rootcast/tree/Children", "add", "(II)V"⟩ : MethodName) prog_127_method_7_code 4 none :: ws) ({ frames := 0, cells := 0, slots := 0, locals := 0 } : Room)) (fun aa U => aa = #[(.ref a), (.int q), (.int sz)] ∧ Z.Warmed39 U.vm ∧ U.heap = h0) (fun _ _ _ _ _ => True) (fun _ U o U' => ∃ v L, o = .returned v ∧ Qadd1 Z a b1 b2 b3 k1 k2 k3 z x0 x1 x2 u0 u1 u2 t0 t1 t2 q sz h0 n0 v U'.heap L ∧ FrameEnd U o U' L (({ frames := 0, cells := 0, slots := 0, locals := 0 } : Room).cells) (({ frames := 0, cells := 0, slots := 0, locals := 0 } : Room).slots)) := by
  refine own_body pf_4 ?_
  intro p e s m below meth c s₁ hx hby hml hown hnm hlk hret hZ X0 e0
  have N0 : Fr n0 [] := Fr.nil n0
  refine own_go (f' := (mkF m 0 #[.val (.ref a), .val (.int q), .val (.int sz), .unset] [])) (fun t k => castTop (ef_rm_add1 m a q sz) k) ?_
  have ea1 : a ≠ b1 := by obtain ⟨c1, A1, -⟩ := V_1; exact ne_arr E_a (Wd1 hw) A1
  have ea2 : a ≠ b2 := by obtain ⟨c1, A1, -⟩ := V_2; exact ne_arr E_a (Wd1 hw) A1
  have ea3 : a ≠ b3 := by obtain ⟨c1, A1, -⟩ := V_3; exact ne_arr E_a (Wd1 hw) A1
  have hne : ¬ ((1 : Int32) = z) := by rw [← Int32.toInt_inj, own_t32_1]; omega
  have hz1 : ¬ (1 : Int32) < 0 ∧ (1 : Int32) < z := ⟨by decide, by rw [Int32.lt_iff_toInt_lt, own_t32_1]; omega⟩
  have K1 : Keep h0 h0 [a, b1, b2, b3] := Keep.refl _ _
  refine own_aloadN X0 hx (pc' := 1) (hb hby d5_0) rfl rfl rfl ?_
  refine own_getF X0 hx (pc' := 4) hZ hown (host := "") (Or.inl (Wd35 hw)) Via.refl e0 F_c (hb hby d5_1) rfl (fun T2 X2 e2 => ?_)
  refine own_aloadN X2 hx (pc' := 5) (hb hby d5_4) rfl rfl rfl ?_
  refine own_getF X2 hx (pc' := 8) hZ hown (host := "") (Or.inl (Wd11 hw)) Via.refl e2 F_p (hb hby d5_5) rfl (fun T3 X3 e3 => ?_)
  obtain ⟨cl4, Ar4, q4, S4, M4, H4, G4⟩ := id V_1
  refine own_len X3 hx (pc' := 9) hZ e3 Ar4 S4 M4 (hb hby d5_8) rfl ?_
  refine own_icmpYes X3 hx (pc' := 66) (hb hby d5_9) (feq hne).2 (by decide) (by decide) ?_
  refine own_aloadN X3 hx (pc' := 67) (hb hby d5_66) rfl rfl rfl ?_
  refine own_getF X3 hx (pc' := 70) hZ hown (host := "") (Or.inl (Wd11 hw)) Via.refl e3 F_p (hb hby d5_67) rfl (fun T5 X5 e5 => ?_)
  refine own_aloadN X5 hx (pc' := 71) (hb hby d5_70) rfl rfl rfl ?_
  refine own_getF X5 hx (pc' := 74) hZ hown (host := "") (Or.inl (Wd35 hw)) Via.refl e5 F_c (hb hby d5_71) rfl (fun T6 X6 e6 => ?_)
  refine own_iloadN X6 hx (pc' := 75) (hb hby d5_74) rfl rfl ?_
  obtain ⟨cl7, Ar7, q7, S7, M7, H7, G7⟩ := id V_1
  refine own_stI X6 hx (pc' := 76) hZ e6 Ar7 (inb_of S7 hz1) (hb hby d5_75) rfl (fun T8 h8 X8 e8 W8 => ?_)
  have N9 := Fr.snoc X8 N0 g_b1
  have Z10 : n0 ≤ h8.size := Nat.le_trans Z0 (Nat.le_of_eq (Wr.size W8).symm)
  have K11 : Keep h0 h8 [a, b1, b2, b3] := K1.wr W8 (Or.inl (List.mem_of_getElem? (i := 1) rfl))
  have F12 := (Exa.wr W8 E_a)
  have F13 := (Fld.other W8 F_c (Or.inl ea1))
  have F14 := (Fld.other W8 F_p (Or.inl ea1))
  have F15 := (Fld.other W8 F_u (Or.inl ea1))
  have F16 := (Fld.other W8 F_t (Or.inl ea1))
  have F17 : Arv Z h8 b1 k1 .int z [(.int x0), (.int q), (.int x2)] (.int (0 : Int32)) := (Arv.set Ar7 q7 S7 M7 H7 G7 rfl W8 1 rfl (Nat.le_of_ble_eq_true rfl))
  have F18 := (V_2.other W8 (Ne.symm dj12))
  have F19 := (V_3.other W8 (Ne.symm dj13))
  refine own_aloadN X8 hx (pc' := 77) (hb hby d5_76) rfl rfl rfl ?_
  refine own_getF X8 hx (pc' := 80) hZ hown (host := "") (Or.inl (Wd13 hw)) Via.refl e8 F15 (hb hby d5_77) rfl (fun T20 X20 e20 => ?_)
  refine own_aloadN X20 hx (pc' := 81) (hb hby d5_80) rfl rfl rfl ?_
  refine own_getF X20 hx (pc' := 84) hZ hown (host := "") (Or.inl (Wd35 hw)) Via.refl e20 F13 (hb hby d5_81) rfl (fun T21 X21 e21 => ?_)
  refine own_iloadN X21 hx (pc' := 85) (hb hby d5_84) rfl rfl ?_
  obtain ⟨cl22, Ar22, q22, S22, M22, H22, G22⟩ := id F18
  refine own_stI X21 hx (pc' := 86) hZ e21 Ar22 (inb_of S22 hz1) (hb hby d5_85) rfl (fun T23 h23 X23 e23 W23 => ?_)
  have N24 := Fr.snoc X23 N9 g_b2
  have Z25 : n0 ≤ h23.size := Nat.le_trans Z10 (Nat.le_of_eq (Wr.size W23).symm)
  have K26 : Keep h0 h23 [a, b1, b2, b3] := K11.wr W23 (Or.inl (List.mem_of_getElem? (i := 2) rfl))
  have F27 := (Exa.wr W23 F12)
  have F28 := (Fld.other W23 F13 (Or.inl ea2))
  have F29 := (Fld.other W23 F14 (Or.inl ea2))
  have F30 := (Fld.other W23 F15 (Or.inl ea2))
  have F31 := (Fld.other W23 F16 (Or.inl ea2))
  have F32 := (F17.other W23 dj12)
  have F33 : Arv Z h23 b2 k2 .int z [(.int u0), (.int sz), (.int u2)] (.int (0 : Int32)) := (Arv.set Ar22 q22 S22 M22 H22 G22 rfl W23 1 rfl (Nat.le_of_ble_eq_true rfl))
  have F34 := (F19.other W23 (Ne.symm dj23))
  refine own_aloadN X23 hx (pc' := 87) (hb hby d5_86) rfl rfl rfl ?_
  refine own_getF X23 hx (pc' := 90) hZ hown (host := "") (Or.inl (Wd15 hw)) Via.refl e23 F31 (hb hby d5_87) rfl (fun T35 X35 e35 => ?_)
  refine own_aloadN X35 hx (pc' := 91) (hb hby d5_90) rfl rfl rfl ?_
  refine own_getF X35 hx (pc' := 94) hZ hown (host := "") (Or.inl (Wd35 hw)) Via.refl e35 F28 (hb hby d5_91) rfl (fun T36 X36 e36 => ?_)
  refine own_iconst X36 hx (pc' := 95) (0 : Int32) (hb hby d5_94) rfl rfl ?_
  obtain ⟨cl37, Ar37, q37, S37, M37, H37, G37⟩ := id F34
  refine own_stI X36 hx (pc' := 96) hZ e36 Ar37 (inb_of S37 hz1) (hb hby d5_95) rfl (fun T38 h38 X38 e38 W38 => ?_)
  have N39 := Fr.snoc X38 N24 g_b3
  have Z40 : n0 ≤ h38.size := Nat.le_trans Z25 (Nat.le_of_eq (Wr.size W38).symm)
  have K41 : Keep h0 h38 [a, b1, b2, b3] := K26.wr W38 (Or.inl (List.mem_of_getElem? (i := 3) rfl))
  have F42 := (Exa.wr W38 F27)
  have F43 := (Fld.other W38 F28 (Or.inl ea3))
  have F44 := (Fld.other W38 F29 (Or.inl ea3))
  have F45 := (Fld.other W38 F30 (Or.inl ea3))
  have F46 := (Fld.other W38 F31 (Or.inl ea3))
  have F47 := (F32.other W38 dj13)
  have F48 := (F33.other W38 dj23)
  have F49 : Arv Z h38 b3 k3 .int z [(.int t0), (.int (0 : Int32)), (.int t2)] (.int (0 : Int32)) := (Arv.set Ar37 q37 S37 M37 H37 G37 rfl W38 1 rfl (Nat.le_of_ble_eq_true rfl))
  refine own_aloadN X38 hx (pc' := 97) (hb hby d5_96) rfl rfl rfl ?_
  refine own_dup X38 hx (pc' := 98) (hb hby d5_97) rfl rfl ?_
  refine own_getF X38 hx (pc' := 101) hZ hown (host := "") (Or.inl (Wd35 hw)) Via.refl e38 F43 (hb hby d5_98) rfl (fun T50 X50 e50 => ?_)
  refine own_iconst X50 hx (pc' := 102) (1 : Int32) (hb hby d5_101) rfl rfl ?_
  refine own_iadd X50 hx (pc' := 103) (z := (2 : Int32)) (hb hby d5_102) (by decide) rfl ?_
  refine own_putF X50 hx (pc' := 106) hZ (ty := .int) hown (host := "") (Or.inl (Wd35 hw)) Via.refl e50 F43 F42 (Or.inl (Wd36 hw)) (Wd1 hw) (by decide) rfl rfl (hb hby d5_103) rfl (fun T51 h51 X51 e51 W51 => ?_)
  have N52 := Fr.snoc X51 N39 g_a
  have Z53 : n0 ≤ h51.size := Nat.le_trans Z40 (Nat.le_of_eq (Wr.size W51).symm)
  have K54 : Keep h0 h51 [a, b1, b2, b3] := K41.wr W51 (Or.inl (List.mem_of_getElem? (i := 0) rfl))
  have F55 := (Exa.wr W51 F42)
  have F56 := (Fld.same W51 F43)
  have F57 := (Fld.other W51 F44 (Or.inr (slot_ne (Or.inl (Wd12 hw)) (Or.inl (Wd36 hw)) (by decide) (t := (.array .int)) (t' := .int) (by decide) (by decide))))
  have F58 := (Fld.other W51 F45 (Or.inr (slot_ne (Or.inl (Wd14 hw)) (Or.inl (Wd36 hw)) (by decide) (t := (.array .int)) (t' := .int) (by decide) (by decide))))
  have F59 := (Fld.other W51 F46 (Or.inr (slot_ne (Or.inl (Wd16 hw)) (Or.inl (Wd36 hw)) (by decide) (t := (.array .int)) (t' := .int) (by decide) (by decide))))
  have F60 := (F47.other W51 (Ne.symm ea1))
  have F61 := (F48.other W51 (Ne.symm ea2))
  have F62 := (F49.other W51 (Ne.symm ea3))
  refine own_retV X51 hx hlk hret (hb hby d5_106) (by decide) (by decide) ?_
  rw [e51]
  exact ⟨rfl, N52, K54, F56, F57, F58, F59, F60, F61, F62⟩

def Qadd2 (Z : State) (a b1 b2 b3 : Addr) (k1 k2 k3 : ClassId) (z x0 x1 x2 u0 u1 u2 t0 t1 t2 q sz : Int32) (h0 : Heap) (n0 : Nat) (v : Option Value) (h : Heap) (L : List Loc) : Prop := v = none ∧ Fr n0 L ∧ Keep h0 h [a, b1, b2, b3] ∧ Fld Z h a "com/example/rootcast/rootcast/tree/Children" "count" "I" (.int (3 : Int32)) ∧ Fld Z h a "com/example/rootcast/rootcast/tree/Children" "peers" "[I" (.ref b1) ∧ Fld Z h a "com/example/rootcast/rootcast/tree/Children" "subtree" "[I" (.ref b2) ∧ Fld Z h a "com/example/rootcast/rootcast/tree/Children" "sent" "[I" (.ref b3) ∧ Arv Z h b1 k1 .int z [(.int x0), (.int x1), (.int q)] (.int (0 : Int32)) ∧ Arv Z h b2 k2 .int z [(.int u0), (.int u1), (.int sz)] (.int (0 : Int32)) ∧ Arv Z h b3 k3 .int z [(.int t0), (.int t1), (.int (0 : Int32))] (.int (0 : Int32))
theorem ef_rm_add2 (m : MethodId) (x0 : Addr) (x1 : Int32) (x2 : Int32) : entryFrame m #[(.ref x0), (.int x1), (.int x2)] 4 = mkF m 0 #[.val (.ref x0), .val (.int x1), .val (.int x2), .unset] [] := by first | (simp [entryFrame, mkF, argsToLocals, Value.category, maxLocals]; done) | rfl
set_option maxRecDepth 65536 in
set_option maxHeartbeats 40000000 in
theorem rm_add2 (l : Launch) (Z : State) (a0 : Array Value) (hw : ∀ d ∈ tables_1, d.before a0 Z = true) (ws : List Jvm.Cond) (a b1 b2 b3 : Addr) (k1 k2 k3 : ClassId) (z x0 x1 x2 u0 u1 u2 t0 t1 t2 q sz : Int32) (h0 : Heap) (n0 : Nat) (Z0 : n0 ≤ h0.size) (hz : z.toInt = 3 ∨ z.toInt = 4) (g_a : n0 ≤ a) (g_b1 : n0 ≤ b1) (g_b2 : n0 ≤ b2) (g_b3 : n0 ≤ b3) (dj12 : b1 ≠ b2) (dj13 : b1 ≠ b3) (dj23 : b2 ≠ b3) (E_a : Exa Z h0 a "com/example/rootcast/rootcast/tree/Children") (F_c : Fld Z h0 a "com/example/rootcast/rootcast/tree/Children" "count" "I" (.int (2 : Int32))) (F_p : Fld Z h0 a "com/example/rootcast/rootcast/tree/Children" "peers" "[I" (.ref b1)) (F_u : Fld Z h0 a "com/example/rootcast/rootcast/tree/Children" "subtree" "[I" (.ref b2)) (F_t : Fld Z h0 a "com/example/rootcast/rootcast/tree/Children" "sent" "[I" (.ref b3)) (V_1 : Arv Z h0 b1 k1 .int z [(.int x0), (.int x1), (.int x2)] (.int (0 : Int32))) (V_2 : Arv Z h0 b2 k2 .int z [(.int u0), (.int u1), (.int u2)] (.int (0 : Int32))) (V_3 : Arv Z h0 b3 k3 .int z [(.int t0), (.int t1), (.int t2)] (.int (0 : Int32))) :
    MetFree l (⟨"com/example/rootcast/rootcast/tree/Children", "add", "(II)V"⟩ : MethodName) (head1 (Jvm.Cond.code (⟨"com/example/rootcast/rootcast/tree/Children", "add", "(II)V"⟩ : MethodName) prog_127_method_7_code 4 none :: ws) ({ frames := 0, cells := 0, slots := 0, locals := 0 } : Room)) (fun aa U => aa = #[(.ref a), (.int q), (.int sz)] ∧ Z.Warmed39 U.vm ∧ U.heap = h0) (fun _ _ _ _ _ => True) (fun _ U o U' => ∃ v L, o = .returned v ∧ Qadd2 Z a b1 b2 b3 k1 k2 k3 z x0 x1 x2 u0 u1 u2 t0 t1 t2 q sz h0 n0 v U'.heap L ∧ FrameEnd U o U' L (({ frames := 0, cells := 0, slots := 0, locals := 0 } : Room).cells) (({ frames := 0, cells := 0, slots := 0, locals := 0 } : Room).slots)) := by
  refine own_body pf_4 ?_
  intro p e s m below meth c s₁ hx hby hml hown hnm hlk hret hZ X0 e0
  have N0 : Fr n0 [] := Fr.nil n0
  refine own_go (f' := (mkF m 0 #[.val (.ref a), .val (.int q), .val (.int sz), .unset] [])) (fun t k => castTop (ef_rm_add2 m a q sz) k) ?_
  have ea1 : a ≠ b1 := by obtain ⟨c1, A1, -⟩ := V_1; exact ne_arr E_a (Wd1 hw) A1
  have ea2 : a ≠ b2 := by obtain ⟨c1, A1, -⟩ := V_2; exact ne_arr E_a (Wd1 hw) A1
  have ea3 : a ≠ b3 := by obtain ⟨c1, A1, -⟩ := V_3; exact ne_arr E_a (Wd1 hw) A1
  have hne : ¬ ((2 : Int32) = z) := by rw [← Int32.toInt_inj, own_t32_2]; omega
  have hz2 : ¬ (2 : Int32) < 0 ∧ (2 : Int32) < z := ⟨by decide, by rw [Int32.lt_iff_toInt_lt, own_t32_2]; omega⟩
  have K1 : Keep h0 h0 [a, b1, b2, b3] := Keep.refl _ _
  refine own_aloadN X0 hx (pc' := 1) (hb hby d5_0) rfl rfl rfl ?_
  refine own_getF X0 hx (pc' := 4) hZ hown (host := "") (Or.inl (Wd35 hw)) Via.refl e0 F_c (hb hby d5_1) rfl (fun T2 X2 e2 => ?_)
  refine own_aloadN X2 hx (pc' := 5) (hb hby d5_4) rfl rfl rfl ?_
  refine own_getF X2 hx (pc' := 8) hZ hown (host := "") (Or.inl (Wd11 hw)) Via.refl e2 F_p (hb hby d5_5) rfl (fun T3 X3 e3 => ?_)
  obtain ⟨cl4, Ar4, q4, S4, M4, H4, G4⟩ := id V_1
  refine own_len X3 hx (pc' := 9) hZ e3 Ar4 S4 M4 (hb hby d5_8) rfl ?_
  refine own_icmpYes X3 hx (pc' := 66) (hb hby d5_9) (feq hne).2 (by decide) (by decide) ?_
  refine own_aloadN X3 hx (pc' := 67) (hb hby d5_66) rfl rfl rfl ?_
  refine own_getF X3 hx (pc' := 70) hZ hown (host := "") (Or.inl (Wd11 hw)) Via.refl e3 F_p (hb hby d5_67) rfl (fun T5 X5 e5 => ?_)
  refine own_aloadN X5 hx (pc' := 71) (hb hby d5_70) rfl rfl rfl ?_
  refine own_getF X5 hx (pc' := 74) hZ hown (host := "") (Or.inl (Wd35 hw)) Via.refl e5 F_c (hb hby d5_71) rfl (fun T6 X6 e6 => ?_)
  refine own_iloadN X6 hx (pc' := 75) (hb hby d5_74) rfl rfl ?_
  obtain ⟨cl7, Ar7, q7, S7, M7, H7, G7⟩ := id V_1
  refine own_stI X6 hx (pc' := 76) hZ e6 Ar7 (inb_of S7 hz2) (hb hby d5_75) rfl (fun T8 h8 X8 e8 W8 => ?_)
  have N9 := Fr.snoc X8 N0 g_b1
  have Z10 : n0 ≤ h8.size := Nat.le_trans Z0 (Nat.le_of_eq (Wr.size W8).symm)
  have K11 : Keep h0 h8 [a, b1, b2, b3] := K1.wr W8 (Or.inl (List.mem_of_getElem? (i := 1) rfl))
  have F12 := (Exa.wr W8 E_a)
  have F13 := (Fld.other W8 F_c (Or.inl ea1))
  have F14 := (Fld.other W8 F_p (Or.inl ea1))
  have F15 := (Fld.other W8 F_u (Or.inl ea1))
  have F16 := (Fld.other W8 F_t (Or.inl ea1))
  have F17 : Arv Z h8 b1 k1 .int z [(.int x0), (.int x1), (.int q)] (.int (0 : Int32)) := (Arv.set Ar7 q7 S7 M7 H7 G7 rfl W8 2 rfl (Nat.le_of_ble_eq_true rfl))
  have F18 := (V_2.other W8 (Ne.symm dj12))
  have F19 := (V_3.other W8 (Ne.symm dj13))
  refine own_aloadN X8 hx (pc' := 77) (hb hby d5_76) rfl rfl rfl ?_
  refine own_getF X8 hx (pc' := 80) hZ hown (host := "") (Or.inl (Wd13 hw)) Via.refl e8 F15 (hb hby d5_77) rfl (fun T20 X20 e20 => ?_)
  refine own_aloadN X20 hx (pc' := 81) (hb hby d5_80) rfl rfl rfl ?_
  refine own_getF X20 hx (pc' := 84) hZ hown (host := "") (Or.inl (Wd35 hw)) Via.refl e20 F13 (hb hby d5_81) rfl (fun T21 X21 e21 => ?_)
  refine own_iloadN X21 hx (pc' := 85) (hb hby d5_84) rfl rfl ?_
  obtain ⟨cl22, Ar22, q22, S22, M22, H22, G22⟩ := id F18
  refine own_stI X21 hx (pc' := 86) hZ e21 Ar22 (inb_of S22 hz2) (hb hby d5_85) rfl (fun T23 h23 X23 e23 W23 => ?_)
  have N24 := Fr.snoc X23 N9 g_b2
  have Z25 : n0 ≤ h23.size := Nat.le_trans Z10 (Nat.le_of_eq (Wr.size W23).symm)
  have K26 : Keep h0 h23 [a, b1, b2, b3] := K11.wr W23 (Or.inl (List.mem_of_getElem? (i := 2) rfl))
  have F27 := (Exa.wr W23 F12)
  have F28 := (Fld.other W23 F13 (Or.inl ea2))
  have F29 := (Fld.other W23 F14 (Or.inl ea2))
  have F30 := (Fld.other W23 F15 (Or.inl ea2))
  have F31 := (Fld.other W23 F16 (Or.inl ea2))
  have F32 := (F17.other W23 dj12)
  have F33 : Arv Z h23 b2 k2 .int z [(.int u0), (.int u1), (.int sz)] (.int (0 : Int32)) := (Arv.set Ar22 q22 S22 M22 H22 G22 rfl W23 2 rfl (Nat.le_of_ble_eq_true rfl))
  have F34 := (F19.other W23 (Ne.symm dj23))
  refine own_aloadN X23 hx (pc' := 87) (hb hby d5_86) rfl rfl rfl ?_
  refine own_getF X23 hx (pc' := 90) hZ hown (host := "") (Or.inl (Wd15 hw)) Via.refl e23 F31 (hb hby d5_87) rfl (fun T35 X35 e35 => ?_)
  refine own_aloadN X35 hx (pc' := 91) (hb hby d5_90) rfl rfl rfl ?_
  refine own_getF X35 hx (pc' := 94) hZ hown (host := "") (Or.inl (Wd35 hw)) Via.refl e35 F28 (hb hby d5_91) rfl (fun T36 X36 e36 => ?_)
  refine own_iconst X36 hx (pc' := 95) (0 : Int32) (hb hby d5_94) rfl rfl ?_
  obtain ⟨cl37, Ar37, q37, S37, M37, H37, G37⟩ := id F34
  refine own_stI X36 hx (pc' := 96) hZ e36 Ar37 (inb_of S37 hz2) (hb hby d5_95) rfl (fun T38 h38 X38 e38 W38 => ?_)
  have N39 := Fr.snoc X38 N24 g_b3
  have Z40 : n0 ≤ h38.size := Nat.le_trans Z25 (Nat.le_of_eq (Wr.size W38).symm)
  have K41 : Keep h0 h38 [a, b1, b2, b3] := K26.wr W38 (Or.inl (List.mem_of_getElem? (i := 3) rfl))
  have F42 := (Exa.wr W38 F27)
  have F43 := (Fld.other W38 F28 (Or.inl ea3))
  have F44 := (Fld.other W38 F29 (Or.inl ea3))
  have F45 := (Fld.other W38 F30 (Or.inl ea3))
  have F46 := (Fld.other W38 F31 (Or.inl ea3))
  have F47 := (F32.other W38 dj13)
  have F48 := (F33.other W38 dj23)
  have F49 : Arv Z h38 b3 k3 .int z [(.int t0), (.int t1), (.int (0 : Int32))] (.int (0 : Int32)) := (Arv.set Ar37 q37 S37 M37 H37 G37 rfl W38 2 rfl (Nat.le_of_ble_eq_true rfl))
  refine own_aloadN X38 hx (pc' := 97) (hb hby d5_96) rfl rfl rfl ?_
  refine own_dup X38 hx (pc' := 98) (hb hby d5_97) rfl rfl ?_
  refine own_getF X38 hx (pc' := 101) hZ hown (host := "") (Or.inl (Wd35 hw)) Via.refl e38 F43 (hb hby d5_98) rfl (fun T50 X50 e50 => ?_)
  refine own_iconst X50 hx (pc' := 102) (1 : Int32) (hb hby d5_101) rfl rfl ?_
  refine own_iadd X50 hx (pc' := 103) (z := (3 : Int32)) (hb hby d5_102) (by decide) rfl ?_
  refine own_putF X50 hx (pc' := 106) hZ (ty := .int) hown (host := "") (Or.inl (Wd35 hw)) Via.refl e50 F43 F42 (Or.inl (Wd36 hw)) (Wd1 hw) (by decide) rfl rfl (hb hby d5_103) rfl (fun T51 h51 X51 e51 W51 => ?_)
  have N52 := Fr.snoc X51 N39 g_a
  have Z53 : n0 ≤ h51.size := Nat.le_trans Z40 (Nat.le_of_eq (Wr.size W51).symm)
  have K54 : Keep h0 h51 [a, b1, b2, b3] := K41.wr W51 (Or.inl (List.mem_of_getElem? (i := 0) rfl))
  have F55 := (Exa.wr W51 F42)
  have F56 := (Fld.same W51 F43)
  have F57 := (Fld.other W51 F44 (Or.inr (slot_ne (Or.inl (Wd12 hw)) (Or.inl (Wd36 hw)) (by decide) (t := (.array .int)) (t' := .int) (by decide) (by decide))))
  have F58 := (Fld.other W51 F45 (Or.inr (slot_ne (Or.inl (Wd14 hw)) (Or.inl (Wd36 hw)) (by decide) (t := (.array .int)) (t' := .int) (by decide) (by decide))))
  have F59 := (Fld.other W51 F46 (Or.inr (slot_ne (Or.inl (Wd16 hw)) (Or.inl (Wd36 hw)) (by decide) (t := (.array .int)) (t' := .int) (by decide) (by decide))))
  have F60 := (F47.other W51 (Ne.symm ea1))
  have F61 := (F48.other W51 (Ne.symm ea2))
  have F62 := (F49.other W51 (Ne.symm ea3))
  refine own_retV X51 hx hlk hret (hb hby d5_106) (by decide) (by decide) ?_
  rw [e51]
  exact ⟨rfl, N52, K54, F56, F57, F58, F59, F60, F61, F62⟩

theorem d9_0 : decode prog_127_method_8_code 0 = .ok (.aload_n 0, 1) := by decide +kernel
theorem d9_1 : decode prog_127_method_8_code 1 = .ok (.dup, 1) := by decide +kernel
theorem d9_2 : decode prog_127_method_8_code 2 = .ok (.getfield 35, 3) := by decide +kernel
theorem d9_5 : decode prog_127_method_8_code 5 = .ok (.iconst 1, 1) := by decide +kernel
theorem d9_6 : decode prog_127_method_8_code 6 = .ok (.isub, 1) := by decide +kernel
theorem d9_7 : decode prog_127_method_8_code 7 = .ok (.putfield 35, 3) := by decide +kernel
theorem d9_10 : decode prog_127_method_8_code 10 = .ok (.aload_n 0, 1) := by decide +kernel
theorem d9_11 : decode prog_127_method_8_code 11 = .ok (.getfield 13, 3) := by decide +kernel
theorem d9_14 : decode prog_127_method_8_code 14 = .ok (.iload_n 1, 1) := by decide +kernel
theorem d9_15 : decode prog_127_method_8_code 15 = .ok (.iconst 1, 1) := by decide +kernel
theorem d9_16 : decode prog_127_method_8_code 16 = .ok (.iadd, 1) := by decide +kernel
theorem d9_17 : decode prog_127_method_8_code 17 = .ok (.aload_n 0, 1) := by decide +kernel
theorem d9_18 : decode prog_127_method_8_code 18 = .ok (.getfield 13, 3) := by decide +kernel
theorem d9_21 : decode prog_127_method_8_code 21 = .ok (.iload_n 1, 1) := by decide +kernel
theorem d9_22 : decode prog_127_method_8_code 22 = .ok (.aload_n 0, 1) := by decide +kernel
theorem d9_23 : decode prog_127_method_8_code 23 = .ok (.getfield 35, 3) := by decide +kernel
theorem d9_26 : decode prog_127_method_8_code 26 = .ok (.iload_n 1, 1) := by decide +kernel
theorem d9_27 : decode prog_127_method_8_code 27 = .ok (.isub, 1) := by decide +kernel
theorem d9_28 : decode prog_127_method_8_code 28 = .ok (.invokestatic 53, 3) := by decide +kernel
theorem d9_31 : decode prog_127_method_8_code 31 = .ok (.aload_n 0, 1) := by decide +kernel
theorem d9_32 : decode prog_127_method_8_code 32 = .ok (.getfield 16, 3) := by decide +kernel
theorem d9_35 : decode prog_127_method_8_code 35 = .ok (.iload_n 1, 1) := by decide +kernel
theorem d9_36 : decode prog_127_method_8_code 36 = .ok (.iconst 1, 1) := by decide +kernel
theorem d9_37 : decode prog_127_method_8_code 37 = .ok (.iadd, 1) := by decide +kernel
theorem d9_38 : decode prog_127_method_8_code 38 = .ok (.aload_n 0, 1) := by decide +kernel
theorem d9_39 : decode prog_127_method_8_code 39 = .ok (.getfield 16, 3) := by decide +kernel
theorem d9_42 : decode prog_127_method_8_code 42 = .ok (.iload_n 1, 1) := by decide +kernel
theorem d9_43 : decode prog_127_method_8_code 43 = .ok (.aload_n 0, 1) := by decide +kernel
theorem d9_44 : decode prog_127_method_8_code 44 = .ok (.getfield 35, 3) := by decide +kernel
theorem d9_47 : decode prog_127_method_8_code 47 = .ok (.iload_n 1, 1) := by decide +kernel
theorem d9_48 : decode prog_127_method_8_code 48 = .ok (.isub, 1) := by decide +kernel
theorem d9_49 : decode prog_127_method_8_code 49 = .ok (.invokestatic 53, 3) := by decide +kernel
theorem d9_52 : decode prog_127_method_8_code 52 = .ok (.aload_n 0, 1) := by decide +kernel
theorem d9_53 : decode prog_127_method_8_code 53 = .ok (.getfield 19, 3) := by decide +kernel
theorem d9_56 : decode prog_127_method_8_code 56 = .ok (.iload_n 1, 1) := by decide +kernel
theorem d9_57 : decode prog_127_method_8_code 57 = .ok (.iconst 1, 1) := by decide +kernel
theorem d9_58 : decode prog_127_method_8_code 58 = .ok (.iadd, 1) := by decide +kernel
theorem d9_59 : decode prog_127_method_8_code 59 = .ok (.aload_n 0, 1) := by decide +kernel
theorem d9_60 : decode prog_127_method_8_code 60 = .ok (.getfield 19, 3) := by decide +kernel
theorem d9_63 : decode prog_127_method_8_code 63 = .ok (.iload_n 1, 1) := by decide +kernel
theorem d9_64 : decode prog_127_method_8_code 64 = .ok (.aload_n 0, 1) := by decide +kernel
theorem d9_65 : decode prog_127_method_8_code 65 = .ok (.getfield 35, 3) := by decide +kernel
theorem d9_68 : decode prog_127_method_8_code 68 = .ok (.iload_n 1, 1) := by decide +kernel
theorem d9_69 : decode prog_127_method_8_code 69 = .ok (.isub, 1) := by decide +kernel
theorem d9_70 : decode prog_127_method_8_code 70 = .ok (.invokestatic 53, 3) := by decide +kernel
theorem d9_73 : decode prog_127_method_8_code 73 = .ok (.return_, 1) := by decide +kernel
def Qrem10 (Z : State) (a b1 b2 b3 : Addr) (k1 k2 k3 : ClassId) (z x0 x1 x2 u0 u1 u2 t0 t1 t2 : Int32) (h0 : Heap) (n0 : Nat) (v : Option Value) (h : Heap) (L : List Loc) : Prop := v = none ∧ Fr n0 L ∧ Keep h0 h [a, b1, b2, b3] ∧ Fld Z h a "com/example/rootcast/rootcast/tree/Children" "count" "I" (.int (0 : Int32)) ∧ Fld Z h a "com/example/rootcast/rootcast/tree/Children" "peers" "[I" (.ref b1) ∧ Fld Z h a "com/example/rootcast/rootcast/tree/Children" "subtree" "[I" (.ref b2) ∧ Fld Z h a "com/example/rootcast/rootcast/tree/Children" "sent" "[I" (.ref b3) ∧ Arv Z h b1 k1 .int z [(.int x0), (.int x1), (.int x2)] (.int (0 : Int32)) ∧ Arv Z h b2 k2 .int z [(.int u0), (.int u1), (.int u2)] (.int (0 : Int32)) ∧ Arv Z h b3 k3 .int z [(.int t0), (.int t1), (.int t2)] (.int (0 : Int32))
theorem ef_rm_rem10 (m : MethodId) (x0 : Addr) (x1 : Int32) : entryFrame m #[(.ref x0), (.int x1)] 2 = mkF m 0 #[.val (.ref x0), .val (.int x1)] [] := by first | (simp [entryFrame, mkF, argsToLocals, Value.category, maxLocals]; done) | rfl
theorem pf_5 : plainFor (⟨"com/example/rootcast/rootcast/tree/Children", "remove", "(I)V"⟩ : MethodName) = true := by apply plainFor_of_name; first | (simp [plainName, overriddenIn]; done) | decide +kernel
theorem Wd63 {a0 : Array Value} {Z : State} (hw : ∀ d ∈ tables_1, d.before a0 Z = true) : (Jvm.Cond.methodLink "com/example/rootcast/rootcast/tree/Children" (53 : Nat) ({ cls := "java/lang/System", name := "arraycopy", desc := "(Ljava/lang/Object;ILjava/lang/Object;II)V" } : Jvm.MethodName)).before a0 Z = true := hw _ (List.mem_of_getElem? (i := 63) rfl)
set_option maxRecDepth 65536 in
set_option maxHeartbeats 40000000 in
theorem rm_rem10 (l : Launch) (Z : State) (a0 : Array Value) (hw : ∀ d ∈ tables_1, d.before a0 Z = true) (ws : List Jvm.Cond) (a b1 b2 b3 : Addr) (k1 k2 k3 : ClassId) (z x0 x1 x2 u0 u1 u2 t0 t1 t2 : Int32) (h0 : Heap) (n0 : Nat) (Z0 : n0 ≤ h0.size) (hz : z.toInt = 3 ∨ z.toInt = 4) (g_a : n0 ≤ a) (g_b1 : n0 ≤ b1) (g_b2 : n0 ≤ b2) (g_b3 : n0 ≤ b3) (dj12 : b1 ≠ b2) (dj13 : b1 ≠ b3) (dj23 : b2 ≠ b3) (E_a : Exa Z h0 a "com/example/rootcast/rootcast/tree/Children") (F_c : Fld Z h0 a "com/example/rootcast/rootcast/tree/Children" "count" "I" (.int (1 : Int32))) (F_p : Fld Z h0 a "com/example/rootcast/rootcast/tree/Children" "peers" "[I" (.ref b1)) (F_u : Fld Z h0 a "com/example/rootcast/rootcast/tree/Children" "subtree" "[I" (.ref b2)) (F_t : Fld Z h0 a "com/example/rootcast/rootcast/tree/Children" "sent" "[I" (.ref b3)) (V_1 : Arv Z h0 b1 k1 .int z [(.int x0), (.int x1), (.int x2)] (.int (0 : Int32))) (V_2 : Arv Z h0 b2 k2 .int z [(.int u0), (.int u1), (.int u2)] (.int (0 : Int32))) (V_3 : Arv Z h0 b3 k3 .int z [(.int t0), (.int t1), (.int t2)] (.int (0 : Int32))) :
    MetFree l (⟨"com/example/rootcast/rootcast/tree/Children", "remove", "(I)V"⟩ : MethodName) (head1 (Jvm.Cond.code (⟨"com/example/rootcast/rootcast/tree/Children", "remove", "(I)V"⟩ : MethodName) prog_127_method_8_code 2 none :: ws) ({ frames := 1, cells := 0, slots := 0, locals := 18 } : Room)) (fun aa U => aa = #[(.ref a), (.int (0 : Int32))] ∧ Z.Warmed39 U.vm ∧ U.heap = h0) (fun _ _ _ _ _ => True) (fun _ U o U' => ∃ v L, o = .returned v ∧ Qrem10 Z a b1 b2 b3 k1 k2 k3 z x0 x1 x2 u0 u1 u2 t0 t1 t2 h0 n0 v U'.heap L ∧ FrameEnd U o U' L (({ frames := 1, cells := 0, slots := 0, locals := 18 } : Room).cells) (({ frames := 1, cells := 0, slots := 0, locals := 18 } : Room).slots)) := by
  refine own_body pf_5 ?_
  intro p e s m below meth c s₁ hx hby hml hown hnm hlk hret hZ X0 e0
  have N0 : Fr n0 [] := Fr.nil n0
  refine own_go (f' := (mkF m 0 #[.val (.ref a), .val (.int (0 : Int32))] [])) (fun t k => castTop (ef_rm_rem10 m a (0 : Int32)) k) ?_
  have ea1 : a ≠ b1 := by obtain ⟨c1, A1, -⟩ := V_1; exact ne_arr E_a (Wd1 hw) A1
  have ea2 : a ≠ b2 := by obtain ⟨c1, A1, -⟩ := V_2; exact ne_arr E_a (Wd1 hw) A1
  have ea3 : a ≠ b3 := by obtain ⟨c1, A1, -⟩ := V_3; exact ne_arr E_a (Wd1 hw) A1
  have hzn : ¬ z < 0 := by rw [Int32.lt_iff_toInt_lt]; show ¬ z.toInt < 0; omega
  have hz3 : 3 ≤ z.toNatClampNeg := by have := nat_of hzn; omega
  have K1 : Keep h0 h0 [a, b1, b2, b3] := Keep.refl _ _
  refine own_aloadN X0 hx (pc' := 1) (hb hby d9_0) rfl rfl rfl ?_
  refine own_dup X0 hx (pc' := 2) (hb hby d9_1) rfl rfl ?_
  refine own_getF X0 hx (pc' := 5) hZ hown (host := "") (Or.inl (Wd35 hw)) Via.refl e0 F_c (hb hby d9_2) rfl (fun T2 X2 e2 => ?_)
  refine own_iconst X2 hx (pc' := 6) (1 : Int32) (hb hby d9_5) rfl rfl ?_
  refine own_isub X2 hx (pc' := 7) (z := (0 : Int32)) (hb hby d9_6) (by decide) rfl ?_
  refine own_putF X2 hx (pc' := 10) hZ (ty := .int) hown (host := "") (Or.inl (Wd35 hw)) Via.refl e2 F_c E_a (Or.inl (Wd36 hw)) (Wd1 hw) (by decide) rfl rfl (hb hby d9_7) rfl (fun T3 h3 X3 e3 W3 => ?_)
  have N4 := Fr.snoc X3 N0 g_a
  have Z5 : n0 ≤ h3.size := Nat.le_trans Z0 (Nat.le_of_eq (Wr.size W3).symm)
  have K6 : Keep h0 h3 [a, b1, b2, b3] := K1.wr W3 (Or.inl (List.mem_of_getElem? (i := 0) rfl))
  have F7 := (Exa.wr W3 E_a)
  have F8 := (Fld.same W3 F_c)
  have F9 := (Fld.other W3 F_p (Or.inr (slot_ne (Or.inl (Wd12 hw)) (Or.inl (Wd36 hw)) (by decide) (t := (.array .int)) (t' := .int) (by decide) (by decide))))
  have F10 := (Fld.other W3 F_u (Or.inr (slot_ne (Or.inl (Wd14 hw)) (Or.inl (Wd36 hw)) (by decide) (t := (.array .int)) (t' := .int) (by decide) (by decide))))
  have F11 := (Fld.other W3 F_t (Or.inr (slot_ne (Or.inl (Wd16 hw)) (Or.inl (Wd36 hw)) (by decide) (t := (.array .int)) (t' := .int) (by decide) (by decide))))
  have F12 := (V_1.other W3 (Ne.symm ea1))
  have F13 := (V_2.other W3 (Ne.symm ea2))
  have F14 := (V_3.other W3 (Ne.symm ea3))
  refine own_aloadN X3 hx (pc' := 11) (hb hby d9_10) rfl rfl rfl ?_
  refine own_getF X3 hx (pc' := 14) hZ hown (host := "") (Or.inl (Wd11 hw)) Via.refl e3 F9 (hb hby d9_11) rfl (fun T15 X15 e15 => ?_)
  refine own_iloadN X15 hx (pc' := 15) (hb hby d9_14) rfl rfl ?_
  refine own_iconst X15 hx (pc' := 16) (1 : Int32) (hb hby d9_15) rfl rfl ?_
  refine own_iadd X15 hx (pc' := 17) (z := (1 : Int32)) (hb hby d9_16) (by decide) rfl ?_
  refine own_aloadN X15 hx (pc' := 18) (hb hby d9_17) rfl rfl rfl ?_
  refine own_getF X15 hx (pc' := 21) hZ hown (host := "") (Or.inl (Wd11 hw)) Via.refl e15 F9 (hb hby d9_18) rfl (fun T16 X16 e16 => ?_)
  refine own_iloadN X16 hx (pc' := 22) (hb hby d9_21) rfl rfl ?_
  refine own_aloadN X16 hx (pc' := 23) (hb hby d9_22) rfl rfl rfl ?_
  refine own_getF X16 hx (pc' := 26) hZ hown (host := "") (Or.inl (Wd35 hw)) Via.refl e16 F8 (hb hby d9_23) rfl (fun T17 X17 e17 => ?_)
  refine own_iloadN X17 hx (pc' := 27) (hb hby d9_26) rfl rfl ?_
  refine own_isub X17 hx (pc' := 28) (z := (0 : Int32)) (hb hby d9_27) (by decide) rfl ?_
  obtain ⟨T18, h18, L18, X18, e18, N18, K18, V18, st18⟩ := cpA X17 hx hZ hown (Wd63 hw) (Wd57 hw) (Wd55 hw) (Wd56 hw) e17 F12 F12 (Or.inl ⟨rfl, rfl⟩) (by decide) (by decide) (by decide) (Nat.le_trans (by decide : ((1 : Int32) : Int32).toNatClampNeg + ((0 : Int32) : Int32).toNatClampNeg ≤ 1) (Nat.le_trans (by decide) hz3)) (Nat.le_trans (by decide : ((0 : Int32) : Int32).toNatClampNeg + ((0 : Int32) : Int32).toNatClampNeg ≤ 0) (Nat.le_trans (by decide) hz3)) (us := []) rfl (Nat.le_of_ble_eq_true rfl) N4 g_b1 (g := (mkF m 28 #[.val (.ref a), .val (.int (0 : Int32))] [(.int (0 : Int32)), (.int (0 : Int32)), (.ref b1), (.int (1 : Int32)), (.ref b1)])) rfl (by rw [hml]; rfl) rfl (hb hby d9_28) (by decide) (W := 0) (by show 2 * 0 + _ ≤ _; exact Nat.le_of_eq rfl) (by decide)
  have Z19 : n0 ≤ h18.size := Nat.le_trans Z5 K18.1
  have K20 : Keep h0 h18 [a, b1, b2, b3] := Keep.trans K6 K18 (allS (Or.inl (List.mem_of_getElem? (i := 1) rfl)) all0)
  have F21 := (Exa.keep F7 K18)
  have F22 := (F8.keep K18 (ninS ea1 nin0))
  have F23 := (F9.keep K18 (ninS ea1 nin0))
  have F24 := (F10.keep K18 (ninS ea1 nin0))
  have F25 := (F11.keep K18 (ninS ea1 nin0))
  have F26 := (F13.keep K18 (ninS (Ne.symm dj12) nin0))
  have F27 := (F14.keep K18 (ninS (Ne.symm dj13) nin0))
  have V28 : Arv Z h18 b1 k1 .int z [(.int x0), (.int x1), (.int x2)] (.int (0 : Int32)) := V18
  refine own_go (f' := (mkF m 31 #[.val (.ref a), .val (.int (0 : Int32))] [])) st18 ?_
  refine own_aloadN X18 hx (pc' := 32) (hb hby d9_31) rfl rfl rfl ?_
  refine own_getF X18 hx (pc' := 35) hZ hown (host := "") (Or.inl (Wd13 hw)) Via.refl e18 F24 (hb hby d9_32) rfl (fun T29 X29 e29 => ?_)
  refine own_iloadN X29 hx (pc' := 36) (hb hby d9_35) rfl rfl ?_
  refine own_iconst X29 hx (pc' := 37) (1 : Int32) (hb hby d9_36) rfl rfl ?_
  refine own_iadd X29 hx (pc' := 38) (z := (1 : Int32)) (hb hby d9_37) (by decide) rfl ?_
  refine own_aloadN X29 hx (pc' := 39) (hb hby d9_38) rfl rfl rfl ?_
  refine own_getF X29 hx (pc' := 42) hZ hown (host := "") (Or.inl (Wd13 hw)) Via.refl e29 F24 (hb hby d9_39) rfl (fun T30 X30 e30 => ?_)
  refine own_iloadN X30 hx (pc' := 43) (hb hby d9_42) rfl rfl ?_
  refine own_aloadN X30 hx (pc' := 44) (hb hby d9_43) rfl rfl rfl ?_
  refine own_getF X30 hx (pc' := 47) hZ hown (host := "") (Or.inl (Wd35 hw)) Via.refl e30 F22 (hb hby d9_44) rfl (fun T31 X31 e31 => ?_)
  refine own_iloadN X31 hx (pc' := 48) (hb hby d9_47) rfl rfl ?_
  refine own_isub X31 hx (pc' := 49) (z := (0 : Int32)) (hb hby d9_48) (by decide) rfl ?_
  obtain ⟨T32, h32, L32, X32, e32, N32, K32, V32, st32⟩ := cpA X31 hx hZ hown (Wd63 hw) (Wd57 hw) (Wd55 hw) (Wd56 hw) e31 F26 F26 (Or.inl ⟨rfl, rfl⟩) (by decide) (by decide) (by decide) (Nat.le_trans (by decide : ((1 : Int32) : Int32).toNatClampNeg + ((0 : Int32) : Int32).toNatClampNeg ≤ 1) (Nat.le_trans (by decide) hz3)) (Nat.le_trans (by decide : ((0 : Int32) : Int32).toNatClampNeg + ((0 : Int32) : Int32).toNatClampNeg ≤ 0) (Nat.le_trans (by decide) hz3)) (us := []) rfl (Nat.le_of_ble_eq_true rfl) N18 g_b2 (g := (mkF m 49 #[.val (.ref a), .val (.int (0 : Int32))] [(.int (0 : Int32)), (.int (0 : Int32)), (.ref b2), (.int (1 : Int32)), (.ref b2)])) rfl (by rw [hml]; rfl) rfl (hb hby d9_49) (by decide) (W := 0) (by show 2 * 0 + _ ≤ _; exact Nat.le_of_eq rfl) (by decide)
  have Z33 : n0 ≤ h32.size := Nat.le_trans Z19 K32.1
  have K34 : Keep h0 h32 [a, b1, b2, b3] := Keep.trans K20 K32 (allS (Or.inl (List.mem_of_getElem? (i := 2) rfl)) all0)
  have F35 := (Exa.keep F21 K32)
  have F36 := (F22.keep K32 (ninS ea2 nin0))
  have F37 := (F23.keep K32 (ninS ea2 nin0))
  have F38 := (F24.keep K32 (ninS ea2 nin0))
  have F39 := (F25.keep K32 (ninS ea2 nin0))
  have F40 := (F27.keep K32 (ninS (Ne.symm dj23) nin0))
  have F41 := (V28.keep K32 (ninS dj12 nin0))
  have V42 : Arv Z h32 b2 k2 .int z [(.int u0), (.int u1), (.int u2)] (.int (0 : Int32)) := V32
  refine own_go (f' := (mkF m 52 #[.val (.ref a), .val (.int (0 : Int32))] [])) st32 ?_
  refine own_aloadN X32 hx (pc' := 53) (hb hby d9_52) rfl rfl rfl ?_
  refine own_getF X32 hx (pc' := 56) hZ hown (host := "") (Or.inl (Wd15 hw)) Via.refl e32 F39 (hb hby d9_53) rfl (fun T43 X43 e43 => ?_)
  refine own_iloadN X43 hx (pc' := 57) (hb hby d9_56) rfl rfl ?_
  refine own_iconst X43 hx (pc' := 58) (1 : Int32) (hb hby d9_57) rfl rfl ?_
  refine own_iadd X43 hx (pc' := 59) (z := (1 : Int32)) (hb hby d9_58) (by decide) rfl ?_
  refine own_aloadN X43 hx (pc' := 60) (hb hby d9_59) rfl rfl rfl ?_
  refine own_getF X43 hx (pc' := 63) hZ hown (host := "") (Or.inl (Wd15 hw)) Via.refl e43 F39 (hb hby d9_60) rfl (fun T44 X44 e44 => ?_)
  refine own_iloadN X44 hx (pc' := 64) (hb hby d9_63) rfl rfl ?_
  refine own_aloadN X44 hx (pc' := 65) (hb hby d9_64) rfl rfl rfl ?_
  refine own_getF X44 hx (pc' := 68) hZ hown (host := "") (Or.inl (Wd35 hw)) Via.refl e44 F36 (hb hby d9_65) rfl (fun T45 X45 e45 => ?_)
  refine own_iloadN X45 hx (pc' := 69) (hb hby d9_68) rfl rfl ?_
  refine own_isub X45 hx (pc' := 70) (z := (0 : Int32)) (hb hby d9_69) (by decide) rfl ?_
  obtain ⟨T46, h46, L46, X46, e46, N46, K46, V46, st46⟩ := cpA X45 hx hZ hown (Wd63 hw) (Wd57 hw) (Wd55 hw) (Wd56 hw) e45 F40 F40 (Or.inl ⟨rfl, rfl⟩) (by decide) (by decide) (by decide) (Nat.le_trans (by decide : ((1 : Int32) : Int32).toNatClampNeg + ((0 : Int32) : Int32).toNatClampNeg ≤ 1) (Nat.le_trans (by decide) hz3)) (Nat.le_trans (by decide : ((0 : Int32) : Int32).toNatClampNeg + ((0 : Int32) : Int32).toNatClampNeg ≤ 0) (Nat.le_trans (by decide) hz3)) (us := []) rfl (Nat.le_of_ble_eq_true rfl) N32 g_b3 (g := (mkF m 70 #[.val (.ref a), .val (.int (0 : Int32))] [(.int (0 : Int32)), (.int (0 : Int32)), (.ref b3), (.int (1 : Int32)), (.ref b3)])) rfl (by rw [hml]; rfl) rfl (hb hby d9_70) (by decide) (W := 0) (by show 2 * 0 + _ ≤ _; exact Nat.le_of_eq rfl) (by decide)
  have Z47 : n0 ≤ h46.size := Nat.le_trans Z33 K46.1
  have K48 : Keep h0 h46 [a, b1, b2, b3] := Keep.trans K34 K46 (allS (Or.inl (List.mem_of_getElem? (i := 3) rfl)) all0)
  have F49 := (Exa.keep F35 K46)
  have F50 := (F36.keep K46 (ninS ea3 nin0))
  have F51 := (F37.keep K46 (ninS ea3 nin0))
  have F52 := (F38.keep K46 (ninS ea3 nin0))
  have F53 := (F39.keep K46 (ninS ea3 nin0))
  have F54 := (F41.keep K46 (ninS dj13 nin0))
  have F55 := (V42.keep K46 (ninS dj23 nin0))
  have V56 : Arv Z h46 b3 k3 .int z [(.int t0), (.int t1), (.int t2)] (.int (0 : Int32)) := V46
  refine own_go (f' := (mkF m 73 #[.val (.ref a), .val (.int (0 : Int32))] [])) st46 ?_
  refine own_retV X46 hx hlk hret (hb hby d9_73) (by decide) (by decide) ?_
  rw [e46]
  exact ⟨rfl, N46, K48, F50, F51, F52, F53, F54, F55, V56⟩

def Qrem20 (Z : State) (a b1 b2 b3 : Addr) (k1 k2 k3 : ClassId) (z x0 x1 x2 u0 u1 u2 t0 t1 t2 : Int32) (h0 : Heap) (n0 : Nat) (v : Option Value) (h : Heap) (L : List Loc) : Prop := v = none ∧ Fr n0 L ∧ Keep h0 h [a, b1, b2, b3] ∧ Fld Z h a "com/example/rootcast/rootcast/tree/Children" "count" "I" (.int (1 : Int32)) ∧ Fld Z h a "com/example/rootcast/rootcast/tree/Children" "peers" "[I" (.ref b1) ∧ Fld Z h a "com/example/rootcast/rootcast/tree/Children" "subtree" "[I" (.ref b2) ∧ Fld Z h a "com/example/rootcast/rootcast/tree/Children" "sent" "[I" (.ref b3) ∧ Arv Z h b1 k1 .int z [(.int x1), (.int x1), (.int x2)] (.int (0 : Int32)) ∧ Arv Z h b2 k2 .int z [(.int u1), (.int u1), (.int u2)] (.int (0 : Int32)) ∧ Arv Z h b3 k3 .int z [(.int t1), (.int t1), (.int t2)] (.int (0 : Int32))
theorem ef_rm_rem20 (m : MethodId) (x0 : Addr) (x1 : Int32) : entryFrame m #[(.ref x0), (.int x1)] 2 = mkF m 0 #[.val (.ref x0), .val (.int x1)] [] := by first | (simp [entryFrame, mkF, argsToLocals, Value.category, maxLocals]; done) | rfl
set_option maxRecDepth 65536 in
set_option maxHeartbeats 40000000 in
theorem rm_rem20 (l : Launch) (Z : State) (a0 : Array Value) (hw : ∀ d ∈ tables_1, d.before a0 Z = true) (ws : List Jvm.Cond) (a b1 b2 b3 : Addr) (k1 k2 k3 : ClassId) (z x0 x1 x2 u0 u1 u2 t0 t1 t2 : Int32) (h0 : Heap) (n0 : Nat) (Z0 : n0 ≤ h0.size) (hz : z.toInt = 3 ∨ z.toInt = 4) (g_a : n0 ≤ a) (g_b1 : n0 ≤ b1) (g_b2 : n0 ≤ b2) (g_b3 : n0 ≤ b3) (dj12 : b1 ≠ b2) (dj13 : b1 ≠ b3) (dj23 : b2 ≠ b3) (E_a : Exa Z h0 a "com/example/rootcast/rootcast/tree/Children") (F_c : Fld Z h0 a "com/example/rootcast/rootcast/tree/Children" "count" "I" (.int (2 : Int32))) (F_p : Fld Z h0 a "com/example/rootcast/rootcast/tree/Children" "peers" "[I" (.ref b1)) (F_u : Fld Z h0 a "com/example/rootcast/rootcast/tree/Children" "subtree" "[I" (.ref b2)) (F_t : Fld Z h0 a "com/example/rootcast/rootcast/tree/Children" "sent" "[I" (.ref b3)) (V_1 : Arv Z h0 b1 k1 .int z [(.int x0), (.int x1), (.int x2)] (.int (0 : Int32))) (V_2 : Arv Z h0 b2 k2 .int z [(.int u0), (.int u1), (.int u2)] (.int (0 : Int32))) (V_3 : Arv Z h0 b3 k3 .int z [(.int t0), (.int t1), (.int t2)] (.int (0 : Int32))) :
    MetFree l (⟨"com/example/rootcast/rootcast/tree/Children", "remove", "(I)V"⟩ : MethodName) (head1 (Jvm.Cond.code (⟨"com/example/rootcast/rootcast/tree/Children", "remove", "(I)V"⟩ : MethodName) prog_127_method_8_code 2 none :: ws) ({ frames := 1, cells := 0, slots := 0, locals := 18 } : Room)) (fun aa U => aa = #[(.ref a), (.int (0 : Int32))] ∧ Z.Warmed39 U.vm ∧ U.heap = h0) (fun _ _ _ _ _ => True) (fun _ U o U' => ∃ v L, o = .returned v ∧ Qrem20 Z a b1 b2 b3 k1 k2 k3 z x0 x1 x2 u0 u1 u2 t0 t1 t2 h0 n0 v U'.heap L ∧ FrameEnd U o U' L (({ frames := 1, cells := 0, slots := 0, locals := 18 } : Room).cells) (({ frames := 1, cells := 0, slots := 0, locals := 18 } : Room).slots)) := by
  refine own_body pf_5 ?_
  intro p e s m below meth c s₁ hx hby hml hown hnm hlk hret hZ X0 e0
  have N0 : Fr n0 [] := Fr.nil n0
  refine own_go (f' := (mkF m 0 #[.val (.ref a), .val (.int (0 : Int32))] [])) (fun t k => castTop (ef_rm_rem20 m a (0 : Int32)) k) ?_
  have ea1 : a ≠ b1 := by obtain ⟨c1, A1, -⟩ := V_1; exact ne_arr E_a (Wd1 hw) A1
  have ea2 : a ≠ b2 := by obtain ⟨c1, A1, -⟩ := V_2; exact ne_arr E_a (Wd1 hw) A1
  have ea3 : a ≠ b3 := by obtain ⟨c1, A1, -⟩ := V_3; exact ne_arr E_a (Wd1 hw) A1
  have hzn : ¬ z < 0 := by rw [Int32.lt_iff_toInt_lt]; show ¬ z.toInt < 0; omega
  have hz3 : 3 ≤ z.toNatClampNeg := by have := nat_of hzn; omega
  have K1 : Keep h0 h0 [a, b1, b2, b3] := Keep.refl _ _
  refine own_aloadN X0 hx (pc' := 1) (hb hby d9_0) rfl rfl rfl ?_
  refine own_dup X0 hx (pc' := 2) (hb hby d9_1) rfl rfl ?_
  refine own_getF X0 hx (pc' := 5) hZ hown (host := "") (Or.inl (Wd35 hw)) Via.refl e0 F_c (hb hby d9_2) rfl (fun T2 X2 e2 => ?_)
  refine own_iconst X2 hx (pc' := 6) (1 : Int32) (hb hby d9_5) rfl rfl ?_
  refine own_isub X2 hx (pc' := 7) (z := (1 : Int32)) (hb hby d9_6) (by decide) rfl ?_
  refine own_putF X2 hx (pc' := 10) hZ (ty := .int) hown (host := "") (Or.inl (Wd35 hw)) Via.refl e2 F_c E_a (Or.inl (Wd36 hw)) (Wd1 hw) (by decide) rfl rfl (hb hby d9_7) rfl (fun T3 h3 X3 e3 W3 => ?_)
  have N4 := Fr.snoc X3 N0 g_a
  have Z5 : n0 ≤ h3.size := Nat.le_trans Z0 (Nat.le_of_eq (Wr.size W3).symm)
  have K6 : Keep h0 h3 [a, b1, b2, b3] := K1.wr W3 (Or.inl (List.mem_of_getElem? (i := 0) rfl))
  have F7 := (Exa.wr W3 E_a)
  have F8 := (Fld.same W3 F_c)
  have F9 := (Fld.other W3 F_p (Or.inr (slot_ne (Or.inl (Wd12 hw)) (Or.inl (Wd36 hw)) (by decide) (t := (.array .int)) (t' := .int) (by decide) (by decide))))
  have F10 := (Fld.other W3 F_u (Or.inr (slot_ne (Or.inl (Wd14 hw)) (Or.inl (Wd36 hw)) (by decide) (t := (.array .int)) (t' := .int) (by decide) (by decide))))
  have F11 := (Fld.other W3 F_t (Or.inr (slot_ne (Or.inl (Wd16 hw)) (Or.inl (Wd36 hw)) (by decide) (t := (.array .int)) (t' := .int) (by decide) (by decide))))
  have F12 := (V_1.other W3 (Ne.symm ea1))
  have F13 := (V_2.other W3 (Ne.symm ea2))
  have F14 := (V_3.other W3 (Ne.symm ea3))
  refine own_aloadN X3 hx (pc' := 11) (hb hby d9_10) rfl rfl rfl ?_
  refine own_getF X3 hx (pc' := 14) hZ hown (host := "") (Or.inl (Wd11 hw)) Via.refl e3 F9 (hb hby d9_11) rfl (fun T15 X15 e15 => ?_)
  refine own_iloadN X15 hx (pc' := 15) (hb hby d9_14) rfl rfl ?_
  refine own_iconst X15 hx (pc' := 16) (1 : Int32) (hb hby d9_15) rfl rfl ?_
  refine own_iadd X15 hx (pc' := 17) (z := (1 : Int32)) (hb hby d9_16) (by decide) rfl ?_
  refine own_aloadN X15 hx (pc' := 18) (hb hby d9_17) rfl rfl rfl ?_
  refine own_getF X15 hx (pc' := 21) hZ hown (host := "") (Or.inl (Wd11 hw)) Via.refl e15 F9 (hb hby d9_18) rfl (fun T16 X16 e16 => ?_)
  refine own_iloadN X16 hx (pc' := 22) (hb hby d9_21) rfl rfl ?_
  refine own_aloadN X16 hx (pc' := 23) (hb hby d9_22) rfl rfl rfl ?_
  refine own_getF X16 hx (pc' := 26) hZ hown (host := "") (Or.inl (Wd35 hw)) Via.refl e16 F8 (hb hby d9_23) rfl (fun T17 X17 e17 => ?_)
  refine own_iloadN X17 hx (pc' := 27) (hb hby d9_26) rfl rfl ?_
  refine own_isub X17 hx (pc' := 28) (z := (1 : Int32)) (hb hby d9_27) (by decide) rfl ?_
  obtain ⟨T18, h18, L18, X18, e18, N18, K18, V18, st18⟩ := cpA X17 hx hZ hown (Wd63 hw) (Wd57 hw) (Wd55 hw) (Wd56 hw) e17 F12 F12 (Or.inl ⟨rfl, rfl⟩) (by decide) (by decide) (by decide) (Nat.le_trans (by decide : ((1 : Int32) : Int32).toNatClampNeg + ((1 : Int32) : Int32).toNatClampNeg ≤ 2) (Nat.le_trans (by decide) hz3)) (Nat.le_trans (by decide : ((0 : Int32) : Int32).toNatClampNeg + ((1 : Int32) : Int32).toNatClampNeg ≤ 1) (Nat.le_trans (by decide) hz3)) (us := [(.int x1)]) rfl (Nat.le_of_ble_eq_true rfl) N4 g_b1 (g := (mkF m 28 #[.val (.ref a), .val (.int (0 : Int32))] [(.int (1 : Int32)), (.int (0 : Int32)), (.ref b1), (.int (1 : Int32)), (.ref b1)])) rfl (by rw [hml]; rfl) rfl (hb hby d9_28) (by decide) (W := 0) (by show 2 * 0 + _ ≤ _; exact Nat.le_of_eq rfl) (by decide)
  have Z19 : n0 ≤ h18.size := Nat.le_trans Z5 K18.1
  have K20 : Keep h0 h18 [a, b1, b2, b3] := Keep.trans K6 K18 (allS (Or.inl (List.mem_of_getElem? (i := 1) rfl)) all0)
  have F21 := (Exa.keep F7 K18)
  have F22 := (F8.keep K18 (ninS ea1 nin0))
  have F23 := (F9.keep K18 (ninS ea1 nin0))
  have F24 := (F10.keep K18 (ninS ea1 nin0))
  have F25 := (F11.keep K18 (ninS ea1 nin0))
  have F26 := (F13.keep K18 (ninS (Ne.symm dj12) nin0))
  have F27 := (F14.keep K18 (ninS (Ne.symm dj13) nin0))
  have V28 : Arv Z h18 b1 k1 .int z [(.int x1), (.int x1), (.int x2)] (.int (0 : Int32)) := V18
  refine own_go (f' := (mkF m 31 #[.val (.ref a), .val (.int (0 : Int32))] [])) st18 ?_
  refine own_aloadN X18 hx (pc' := 32) (hb hby d9_31) rfl rfl rfl ?_
  refine own_getF X18 hx (pc' := 35) hZ hown (host := "") (Or.inl (Wd13 hw)) Via.refl e18 F24 (hb hby d9_32) rfl (fun T29 X29 e29 => ?_)
  refine own_iloadN X29 hx (pc' := 36) (hb hby d9_35) rfl rfl ?_
  refine own_iconst X29 hx (pc' := 37) (1 : Int32) (hb hby d9_36) rfl rfl ?_
  refine own_iadd X29 hx (pc' := 38) (z := (1 : Int32)) (hb hby d9_37) (by decide) rfl ?_
  refine own_aloadN X29 hx (pc' := 39) (hb hby d9_38) rfl rfl rfl ?_
  refine own_getF X29 hx (pc' := 42) hZ hown (host := "") (Or.inl (Wd13 hw)) Via.refl e29 F24 (hb hby d9_39) rfl (fun T30 X30 e30 => ?_)
  refine own_iloadN X30 hx (pc' := 43) (hb hby d9_42) rfl rfl ?_
  refine own_aloadN X30 hx (pc' := 44) (hb hby d9_43) rfl rfl rfl ?_
  refine own_getF X30 hx (pc' := 47) hZ hown (host := "") (Or.inl (Wd35 hw)) Via.refl e30 F22 (hb hby d9_44) rfl (fun T31 X31 e31 => ?_)
  refine own_iloadN X31 hx (pc' := 48) (hb hby d9_47) rfl rfl ?_
  refine own_isub X31 hx (pc' := 49) (z := (1 : Int32)) (hb hby d9_48) (by decide) rfl ?_
  obtain ⟨T32, h32, L32, X32, e32, N32, K32, V32, st32⟩ := cpA X31 hx hZ hown (Wd63 hw) (Wd57 hw) (Wd55 hw) (Wd56 hw) e31 F26 F26 (Or.inl ⟨rfl, rfl⟩) (by decide) (by decide) (by decide) (Nat.le_trans (by decide : ((1 : Int32) : Int32).toNatClampNeg + ((1 : Int32) : Int32).toNatClampNeg ≤ 2) (Nat.le_trans (by decide) hz3)) (Nat.le_trans (by decide : ((0 : Int32) : Int32).toNatClampNeg + ((1 : Int32) : Int32).toNatClampNeg ≤ 1) (Nat.le_trans (by decide) hz3)) (us := [(.int u1)]) rfl (Nat.le_of_ble_eq_true rfl) N18 g_b2 (g := (mkF m 49 #[.val (.ref a), .val (.int (0 : Int32))] [(.int (1 : Int32)), (.int (0 : Int32)), (.ref b2), (.int (1 : Int32)), (.ref b2)])) rfl (by rw [hml]; rfl) rfl (hb hby d9_49) (by decide) (W := 0) (by show 2 * 0 + _ ≤ _; exact Nat.le_of_eq rfl) (by decide)
  have Z33 : n0 ≤ h32.size := Nat.le_trans Z19 K32.1
  have K34 : Keep h0 h32 [a, b1, b2, b3] := Keep.trans K20 K32 (allS (Or.inl (List.mem_of_getElem? (i := 2) rfl)) all0)
  have F35 := (Exa.keep F21 K32)
  have F36 := (F22.keep K32 (ninS ea2 nin0))
  have F37 := (F23.keep K32 (ninS ea2 nin0))
  have F38 := (F24.keep K32 (ninS ea2 nin0))
  have F39 := (F25.keep K32 (ninS ea2 nin0))
  have F40 := (F27.keep K32 (ninS (Ne.symm dj23) nin0))
  have F41 := (V28.keep K32 (ninS dj12 nin0))
  have V42 : Arv Z h32 b2 k2 .int z [(.int u1), (.int u1), (.int u2)] (.int (0 : Int32)) := V32
  refine own_go (f' := (mkF m 52 #[.val (.ref a), .val (.int (0 : Int32))] [])) st32 ?_
  refine own_aloadN X32 hx (pc' := 53) (hb hby d9_52) rfl rfl rfl ?_
  refine own_getF X32 hx (pc' := 56) hZ hown (host := "") (Or.inl (Wd15 hw)) Via.refl e32 F39 (hb hby d9_53) rfl (fun T43 X43 e43 => ?_)
  refine own_iloadN X43 hx (pc' := 57) (hb hby d9_56) rfl rfl ?_
  refine own_iconst X43 hx (pc' := 58) (1 : Int32) (hb hby d9_57) rfl rfl ?_
  refine own_iadd X43 hx (pc' := 59) (z := (1 : Int32)) (hb hby d9_58) (by decide) rfl ?_
  refine own_aloadN X43 hx (pc' := 60) (hb hby d9_59) rfl rfl rfl ?_
  refine own_getF X43 hx (pc' := 63) hZ hown (host := "") (Or.inl (Wd15 hw)) Via.refl e43 F39 (hb hby d9_60) rfl (fun T44 X44 e44 => ?_)
  refine own_iloadN X44 hx (pc' := 64) (hb hby d9_63) rfl rfl ?_
  refine own_aloadN X44 hx (pc' := 65) (hb hby d9_64) rfl rfl rfl ?_
  refine own_getF X44 hx (pc' := 68) hZ hown (host := "") (Or.inl (Wd35 hw)) Via.refl e44 F36 (hb hby d9_65) rfl (fun T45 X45 e45 => ?_)
  refine own_iloadN X45 hx (pc' := 69) (hb hby d9_68) rfl rfl ?_
  refine own_isub X45 hx (pc' := 70) (z := (1 : Int32)) (hb hby d9_69) (by decide) rfl ?_
  obtain ⟨T46, h46, L46, X46, e46, N46, K46, V46, st46⟩ := cpA X45 hx hZ hown (Wd63 hw) (Wd57 hw) (Wd55 hw) (Wd56 hw) e45 F40 F40 (Or.inl ⟨rfl, rfl⟩) (by decide) (by decide) (by decide) (Nat.le_trans (by decide : ((1 : Int32) : Int32).toNatClampNeg + ((1 : Int32) : Int32).toNatClampNeg ≤ 2) (Nat.le_trans (by decide) hz3)) (Nat.le_trans (by decide : ((0 : Int32) : Int32).toNatClampNeg + ((1 : Int32) : Int32).toNatClampNeg ≤ 1) (Nat.le_trans (by decide) hz3)) (us := [(.int t1)]) rfl (Nat.le_of_ble_eq_true rfl) N32 g_b3 (g := (mkF m 70 #[.val (.ref a), .val (.int (0 : Int32))] [(.int (1 : Int32)), (.int (0 : Int32)), (.ref b3), (.int (1 : Int32)), (.ref b3)])) rfl (by rw [hml]; rfl) rfl (hb hby d9_70) (by decide) (W := 0) (by show 2 * 0 + _ ≤ _; exact Nat.le_of_eq rfl) (by decide)
  have Z47 : n0 ≤ h46.size := Nat.le_trans Z33 K46.1
  have K48 : Keep h0 h46 [a, b1, b2, b3] := Keep.trans K34 K46 (allS (Or.inl (List.mem_of_getElem? (i := 3) rfl)) all0)
  have F49 := (Exa.keep F35 K46)
  have F50 := (F36.keep K46 (ninS ea3 nin0))
  have F51 := (F37.keep K46 (ninS ea3 nin0))
  have F52 := (F38.keep K46 (ninS ea3 nin0))
  have F53 := (F39.keep K46 (ninS ea3 nin0))
  have F54 := (F41.keep K46 (ninS dj13 nin0))
  have F55 := (V42.keep K46 (ninS dj23 nin0))
  have V56 : Arv Z h46 b3 k3 .int z [(.int t1), (.int t1), (.int t2)] (.int (0 : Int32)) := V46
  refine own_go (f' := (mkF m 73 #[.val (.ref a), .val (.int (0 : Int32))] [])) st46 ?_
  refine own_retV X46 hx hlk hret (hb hby d9_73) (by decide) (by decide) ?_
  rw [e46]
  exact ⟨rfl, N46, K48, F50, F51, F52, F53, F54, F55, V56⟩

def Qrem21 (Z : State) (a b1 b2 b3 : Addr) (k1 k2 k3 : ClassId) (z x0 x1 x2 u0 u1 u2 t0 t1 t2 : Int32) (h0 : Heap) (n0 : Nat) (v : Option Value) (h : Heap) (L : List Loc) : Prop := v = none ∧ Fr n0 L ∧ Keep h0 h [a, b1, b2, b3] ∧ Fld Z h a "com/example/rootcast/rootcast/tree/Children" "count" "I" (.int (1 : Int32)) ∧ Fld Z h a "com/example/rootcast/rootcast/tree/Children" "peers" "[I" (.ref b1) ∧ Fld Z h a "com/example/rootcast/rootcast/tree/Children" "subtree" "[I" (.ref b2) ∧ Fld Z h a "com/example/rootcast/rootcast/tree/Children" "sent" "[I" (.ref b3) ∧ Arv Z h b1 k1 .int z [(.int x0), (.int x1), (.int x2)] (.int (0 : Int32)) ∧ Arv Z h b2 k2 .int z [(.int u0), (.int u1), (.int u2)] (.int (0 : Int32)) ∧ Arv Z h b3 k3 .int z [(.int t0), (.int t1), (.int t2)] (.int (0 : Int32))
theorem ef_rm_rem21 (m : MethodId) (x0 : Addr) (x1 : Int32) : entryFrame m #[(.ref x0), (.int x1)] 2 = mkF m 0 #[.val (.ref x0), .val (.int x1)] [] := by first | (simp [entryFrame, mkF, argsToLocals, Value.category, maxLocals]; done) | rfl
set_option maxRecDepth 65536 in
set_option maxHeartbeats 40000000 in
theorem rm_rem21 (l : Launch) (Z : State) (a0 : Array Value) (hw : ∀ d ∈ tables_1, d.before a0 Z = true) (ws : List Jvm.Cond) (a b1 b2 b3 : Addr) (k1 k2 k3 : ClassId) (z x0 x1 x2 u0 u1 u2 t0 t1 t2 : Int32) (h0 : Heap) (n0 : Nat) (Z0 : n0 ≤ h0.size) (hz : z.toInt = 3 ∨ z.toInt = 4) (g_a : n0 ≤ a) (g_b1 : n0 ≤ b1) (g_b2 : n0 ≤ b2) (g_b3 : n0 ≤ b3) (dj12 : b1 ≠ b2) (dj13 : b1 ≠ b3) (dj23 : b2 ≠ b3) (E_a : Exa Z h0 a "com/example/rootcast/rootcast/tree/Children") (F_c : Fld Z h0 a "com/example/rootcast/rootcast/tree/Children" "count" "I" (.int (2 : Int32))) (F_p : Fld Z h0 a "com/example/rootcast/rootcast/tree/Children" "peers" "[I" (.ref b1)) (F_u : Fld Z h0 a "com/example/rootcast/rootcast/tree/Children" "subtree" "[I" (.ref b2)) (F_t : Fld Z h0 a "com/example/rootcast/rootcast/tree/Children" "sent" "[I" (.ref b3)) (V_1 : Arv Z h0 b1 k1 .int z [(.int x0), (.int x1), (.int x2)] (.int (0 : Int32))) (V_2 : Arv Z h0 b2 k2 .int z [(.int u0), (.int u1), (.int u2)] (.int (0 : Int32))) (V_3 : Arv Z h0 b3 k3 .int z [(.int t0), (.int t1), (.int t2)] (.int (0 : Int32))) :
    MetFree l (⟨"com/example/rootcast/rootcast/tree/Children", "remove", "(I)V"⟩ : MethodName) (head1 (Jvm.Cond.code (⟨"com/example/rootcast/rootcast/tree/Children", "remove", "(I)V"⟩ : MethodName) prog_127_method_8_code 2 none :: ws) ({ frames := 1, cells := 0, slots := 0, locals := 18 } : Room)) (fun aa U => aa = #[(.ref a), (.int (1 : Int32))] ∧ Z.Warmed39 U.vm ∧ U.heap = h0) (fun _ _ _ _ _ => True) (fun _ U o U' => ∃ v L, o = .returned v ∧ Qrem21 Z a b1 b2 b3 k1 k2 k3 z x0 x1 x2 u0 u1 u2 t0 t1 t2 h0 n0 v U'.heap L ∧ FrameEnd U o U' L (({ frames := 1, cells := 0, slots := 0, locals := 18 } : Room).cells) (({ frames := 1, cells := 0, slots := 0, locals := 18 } : Room).slots)) := by
  refine own_body pf_5 ?_
  intro p e s m below meth c s₁ hx hby hml hown hnm hlk hret hZ X0 e0
  have N0 : Fr n0 [] := Fr.nil n0
  refine own_go (f' := (mkF m 0 #[.val (.ref a), .val (.int (1 : Int32))] [])) (fun t k => castTop (ef_rm_rem21 m a (1 : Int32)) k) ?_
  have ea1 : a ≠ b1 := by obtain ⟨c1, A1, -⟩ := V_1; exact ne_arr E_a (Wd1 hw) A1
  have ea2 : a ≠ b2 := by obtain ⟨c1, A1, -⟩ := V_2; exact ne_arr E_a (Wd1 hw) A1
  have ea3 : a ≠ b3 := by obtain ⟨c1, A1, -⟩ := V_3; exact ne_arr E_a (Wd1 hw) A1
  have hzn : ¬ z < 0 := by rw [Int32.lt_iff_toInt_lt]; show ¬ z.toInt < 0; omega
  have hz3 : 3 ≤ z.toNatClampNeg := by have := nat_of hzn; omega
  have K1 : Keep h0 h0 [a, b1, b2, b3] := Keep.refl _ _
  refine own_aloadN X0 hx (pc' := 1) (hb hby d9_0) rfl rfl rfl ?_
  refine own_dup X0 hx (pc' := 2) (hb hby d9_1) rfl rfl ?_
  refine own_getF X0 hx (pc' := 5) hZ hown (host := "") (Or.inl (Wd35 hw)) Via.refl e0 F_c (hb hby d9_2) rfl (fun T2 X2 e2 => ?_)
  refine own_iconst X2 hx (pc' := 6) (1 : Int32) (hb hby d9_5) rfl rfl ?_
  refine own_isub X2 hx (pc' := 7) (z := (1 : Int32)) (hb hby d9_6) (by decide) rfl ?_
  refine own_putF X2 hx (pc' := 10) hZ (ty := .int) hown (host := "") (Or.inl (Wd35 hw)) Via.refl e2 F_c E_a (Or.inl (Wd36 hw)) (Wd1 hw) (by decide) rfl rfl (hb hby d9_7) rfl (fun T3 h3 X3 e3 W3 => ?_)
  have N4 := Fr.snoc X3 N0 g_a
  have Z5 : n0 ≤ h3.size := Nat.le_trans Z0 (Nat.le_of_eq (Wr.size W3).symm)
  have K6 : Keep h0 h3 [a, b1, b2, b3] := K1.wr W3 (Or.inl (List.mem_of_getElem? (i := 0) rfl))
  have F7 := (Exa.wr W3 E_a)
  have F8 := (Fld.same W3 F_c)
  have F9 := (Fld.other W3 F_p (Or.inr (slot_ne (Or.inl (Wd12 hw)) (Or.inl (Wd36 hw)) (by decide) (t := (.array .int)) (t' := .int) (by decide) (by decide))))
  have F10 := (Fld.other W3 F_u (Or.inr (slot_ne (Or.inl (Wd14 hw)) (Or.inl (Wd36 hw)) (by decide) (t := (.array .int)) (t' := .int) (by decide) (by decide))))
  have F11 := (Fld.other W3 F_t (Or.inr (slot_ne (Or.inl (Wd16 hw)) (Or.inl (Wd36 hw)) (by decide) (t := (.array .int)) (t' := .int) (by decide) (by decide))))
  have F12 := (V_1.other W3 (Ne.symm ea1))
  have F13 := (V_2.other W3 (Ne.symm ea2))
  have F14 := (V_3.other W3 (Ne.symm ea3))
  refine own_aloadN X3 hx (pc' := 11) (hb hby d9_10) rfl rfl rfl ?_
  refine own_getF X3 hx (pc' := 14) hZ hown (host := "") (Or.inl (Wd11 hw)) Via.refl e3 F9 (hb hby d9_11) rfl (fun T15 X15 e15 => ?_)
  refine own_iloadN X15 hx (pc' := 15) (hb hby d9_14) rfl rfl ?_
  refine own_iconst X15 hx (pc' := 16) (1 : Int32) (hb hby d9_15) rfl rfl ?_
  refine own_iadd X15 hx (pc' := 17) (z := (2 : Int32)) (hb hby d9_16) (by decide) rfl ?_
  refine own_aloadN X15 hx (pc' := 18) (hb hby d9_17) rfl rfl rfl ?_
  refine own_getF X15 hx (pc' := 21) hZ hown (host := "") (Or.inl (Wd11 hw)) Via.refl e15 F9 (hb hby d9_18) rfl (fun T16 X16 e16 => ?_)
  refine own_iloadN X16 hx (pc' := 22) (hb hby d9_21) rfl rfl ?_
  refine own_aloadN X16 hx (pc' := 23) (hb hby d9_22) rfl rfl rfl ?_
  refine own_getF X16 hx (pc' := 26) hZ hown (host := "") (Or.inl (Wd35 hw)) Via.refl e16 F8 (hb hby d9_23) rfl (fun T17 X17 e17 => ?_)
  refine own_iloadN X17 hx (pc' := 27) (hb hby d9_26) rfl rfl ?_
  refine own_isub X17 hx (pc' := 28) (z := (0 : Int32)) (hb hby d9_27) (by decide) rfl ?_
  obtain ⟨T18, h18, L18, X18, e18, N18, K18, V18, st18⟩ := cpA X17 hx hZ hown (Wd63 hw) (Wd57 hw) (Wd55 hw) (Wd56 hw) e17 F12 F12 (Or.inl ⟨rfl, rfl⟩) (by decide) (by decide) (by decide) (Nat.le_trans (by decide : ((2 : Int32) : Int32).toNatClampNeg + ((0 : Int32) : Int32).toNatClampNeg ≤ 2) (Nat.le_trans (by decide) hz3)) (Nat.le_trans (by decide : ((1 : Int32) : Int32).toNatClampNeg + ((0 : Int32) : Int32).toNatClampNeg ≤ 1) (Nat.le_trans (by decide) hz3)) (us := []) rfl (Nat.le_of_ble_eq_true rfl) N4 g_b1 (g := (mkF m 28 #[.val (.ref a), .val (.int (1 : Int32))] [(.int (0 : Int32)), (.int (1 : Int32)), (.ref b1), (.int (2 : Int32)), (.ref b1)])) rfl (by rw [hml]; rfl) rfl (hb hby d9_28) (by decide) (W := 0) (by show 2 * 0 + _ ≤ _; exact Nat.le_of_eq rfl) (by decide)
  have Z19 : n0 ≤ h18.size := Nat.le_trans Z5 K18.1
  have K20 : Keep h0 h18 [a, b1, b2, b3] := Keep.trans K6 K18 (allS (Or.inl (List.mem_of_getElem? (i := 1) rfl)) all0)
  have F21 := (Exa.keep F7 K18)
  have F22 := (F8.keep K18 (ninS ea1 nin0))
  have F23 := (F9.keep K18 (ninS ea1 nin0))
  have F24 := (F10.keep K18 (ninS ea1 nin0))
  have F25 := (F11.keep K18 (ninS ea1 nin0))
  have F26 := (F13.keep K18 (ninS (Ne.symm dj12) nin0))
  have F27 := (F14.keep K18 (ninS (Ne.symm dj13) nin0))
  have V28 : Arv Z h18 b1 k1 .int z [(.int x0), (.int x1), (.int x2)] (.int (0 : Int32)) := V18
  refine own_go (f' := (mkF m 31 #[.val (.ref a), .val (.int (1 : Int32))] [])) st18 ?_
  refine own_aloadN X18 hx (pc' := 32) (hb hby d9_31) rfl rfl rfl ?_
  refine own_getF X18 hx (pc' := 35) hZ hown (host := "") (Or.inl (Wd13 hw)) Via.refl e18 F24 (hb hby d9_32) rfl (fun T29 X29 e29 => ?_)
  refine own_iloadN X29 hx (pc' := 36) (hb hby d9_35) rfl rfl ?_
  refine own_iconst X29 hx (pc' := 37) (1 : Int32) (hb hby d9_36) rfl rfl ?_
  refine own_iadd X29 hx (pc' := 38) (z := (2 : Int32)) (hb hby d9_37) (by decide) rfl ?_
  refine own_aloadN X29 hx (pc' := 39) (hb hby d9_38) rfl rfl rfl ?_
  refine own_getF X29 hx (pc' := 42) hZ hown (host := "") (Or.inl (Wd13 hw)) Via.refl e29 F24 (hb hby d9_39) rfl (fun T30 X30 e30 => ?_)
  refine own_iloadN X30 hx (pc' := 43) (hb hby d9_42) rfl rfl ?_
  refine own_aloadN X30 hx (pc' := 44) (hb hby d9_43) rfl rfl rfl ?_
  refine own_getF X30 hx (pc' := 47) hZ hown (host := "") (Or.inl (Wd35 hw)) Via.refl e30 F22 (hb hby d9_44) rfl (fun T31 X31 e31 => ?_)
  refine own_iloadN X31 hx (pc' := 48) (hb hby d9_47) rfl rfl ?_
  refine own_isub X31 hx (pc' := 49) (z := (0 : Int32)) (hb hby d9_48) (by decide) rfl ?_
  obtain ⟨T32, h32, L32, X32, e32, N32, K32, V32, st32⟩ := cpA X31 hx hZ hown (Wd63 hw) (Wd57 hw) (Wd55 hw) (Wd56 hw) e31 F26 F26 (Or.inl ⟨rfl, rfl⟩) (by decide) (by decide) (by decide) (Nat.le_trans (by decide : ((2 : Int32) : Int32).toNatClampNeg + ((0 : Int32) : Int32).toNatClampNeg ≤ 2) (Nat.le_trans (by decide) hz3)) (Nat.le_trans (by decide : ((1 : Int32) : Int32).toNatClampNeg + ((0 : Int32) : Int32).toNatClampNeg ≤ 1) (Nat.le_trans (by decide) hz3)) (us := []) rfl (Nat.le_of_ble_eq_true rfl) N18 g_b2 (g := (mkF m 49 #[.val (.ref a), .val (.int (1 : Int32))] [(.int (0 : Int32)), (.int (1 : Int32)), (.ref b2), (.int (2 : Int32)), (.ref b2)])) rfl (by rw [hml]; rfl) rfl (hb hby d9_49) (by decide) (W := 0) (by show 2 * 0 + _ ≤ _; exact Nat.le_of_eq rfl) (by decide)
  have Z33 : n0 ≤ h32.size := Nat.le_trans Z19 K32.1
  have K34 : Keep h0 h32 [a, b1, b2, b3] := Keep.trans K20 K32 (allS (Or.inl (List.mem_of_getElem? (i := 2) rfl)) all0)
  have F35 := (Exa.keep F21 K32)
  have F36 := (F22.keep K32 (ninS ea2 nin0))
  have F37 := (F23.keep K32 (ninS ea2 nin0))
  have F38 := (F24.keep K32 (ninS ea2 nin0))
  have F39 := (F25.keep K32 (ninS ea2 nin0))
  have F40 := (F27.keep K32 (ninS (Ne.symm dj23) nin0))
  have F41 := (V28.keep K32 (ninS dj12 nin0))
  have V42 : Arv Z h32 b2 k2 .int z [(.int u0), (.int u1), (.int u2)] (.int (0 : Int32)) := V32
  refine own_go (f' := (mkF m 52 #[.val (.ref a), .val (.int (1 : Int32))] [])) st32 ?_
  refine own_aloadN X32 hx (pc' := 53) (hb hby d9_52) rfl rfl rfl ?_
  refine own_getF X32 hx (pc' := 56) hZ hown (host := "") (Or.inl (Wd15 hw)) Via.refl e32 F39 (hb hby d9_53) rfl (fun T43 X43 e43 => ?_)
  refine own_iloadN X43 hx (pc' := 57) (hb hby d9_56) rfl rfl ?_
  refine own_iconst X43 hx (pc' := 58) (1 : Int32) (hb hby d9_57) rfl rfl ?_
  refine own_iadd X43 hx (pc' := 59) (z := (2 : Int32)) (hb hby d9_58) (by decide) rfl ?_
  refine own_aloadN X43 hx (pc' := 60) (hb hby d9_59) rfl rfl rfl ?_
  refine own_getF X43 hx (pc' := 63) hZ hown (host := "") (Or.inl (Wd15 hw)) Via.refl e43 F39 (hb hby d9_60) rfl (fun T44 X44 e44 => ?_)
  refine own_iloadN X44 hx (pc' := 64) (hb hby d9_63) rfl rfl ?_
  refine own_aloadN X44 hx (pc' := 65) (hb hby d9_64) rfl rfl rfl ?_
  refine own_getF X44 hx (pc' := 68) hZ hown (host := "") (Or.inl (Wd35 hw)) Via.refl e44 F36 (hb hby d9_65) rfl (fun T45 X45 e45 => ?_)
  refine own_iloadN X45 hx (pc' := 69) (hb hby d9_68) rfl rfl ?_
  refine own_isub X45 hx (pc' := 70) (z := (0 : Int32)) (hb hby d9_69) (by decide) rfl ?_
  obtain ⟨T46, h46, L46, X46, e46, N46, K46, V46, st46⟩ := cpA X45 hx hZ hown (Wd63 hw) (Wd57 hw) (Wd55 hw) (Wd56 hw) e45 F40 F40 (Or.inl ⟨rfl, rfl⟩) (by decide) (by decide) (by decide) (Nat.le_trans (by decide : ((2 : Int32) : Int32).toNatClampNeg + ((0 : Int32) : Int32).toNatClampNeg ≤ 2) (Nat.le_trans (by decide) hz3)) (Nat.le_trans (by decide : ((1 : Int32) : Int32).toNatClampNeg + ((0 : Int32) : Int32).toNatClampNeg ≤ 1) (Nat.le_trans (by decide) hz3)) (us := []) rfl (Nat.le_of_ble_eq_true rfl) N32 g_b3 (g := (mkF m 70 #[.val (.ref a), .val (.int (1 : Int32))] [(.int (0 : Int32)), (.int (1 : Int32)), (.ref b3), (.int (2 : Int32)), (.ref b3)])) rfl (by rw [hml]; rfl) rfl (hb hby d9_70) (by decide) (W := 0) (by show 2 * 0 + _ ≤ _; exact Nat.le_of_eq rfl) (by decide)
  have Z47 : n0 ≤ h46.size := Nat.le_trans Z33 K46.1
  have K48 : Keep h0 h46 [a, b1, b2, b3] := Keep.trans K34 K46 (allS (Or.inl (List.mem_of_getElem? (i := 3) rfl)) all0)
  have F49 := (Exa.keep F35 K46)
  have F50 := (F36.keep K46 (ninS ea3 nin0))
  have F51 := (F37.keep K46 (ninS ea3 nin0))
  have F52 := (F38.keep K46 (ninS ea3 nin0))
  have F53 := (F39.keep K46 (ninS ea3 nin0))
  have F54 := (F41.keep K46 (ninS dj13 nin0))
  have F55 := (V42.keep K46 (ninS dj23 nin0))
  have V56 : Arv Z h46 b3 k3 .int z [(.int t0), (.int t1), (.int t2)] (.int (0 : Int32)) := V46
  refine own_go (f' := (mkF m 73 #[.val (.ref a), .val (.int (1 : Int32))] [])) st46 ?_
  refine own_retV X46 hx hlk hret (hb hby d9_73) (by decide) (by decide) ?_
  rw [e46]
  exact ⟨rfl, N46, K48, F50, F51, F52, F53, F54, F55, V56⟩

def Qrem30 (Z : State) (a b1 b2 b3 : Addr) (k1 k2 k3 : ClassId) (z x0 x1 x2 u0 u1 u2 t0 t1 t2 : Int32) (h0 : Heap) (n0 : Nat) (v : Option Value) (h : Heap) (L : List Loc) : Prop := v = none ∧ Fr n0 L ∧ Keep h0 h [a, b1, b2, b3] ∧ Fld Z h a "com/example/rootcast/rootcast/tree/Children" "count" "I" (.int (2 : Int32)) ∧ Fld Z h a "com/example/rootcast/rootcast/tree/Children" "peers" "[I" (.ref b1) ∧ Fld Z h a "com/example/rootcast/rootcast/tree/Children" "subtree" "[I" (.ref b2) ∧ Fld Z h a "com/example/rootcast/rootcast/tree/Children" "sent" "[I" (.ref b3) ∧ Arv Z h b1 k1 .int z [(.int x1), (.int x2), (.int x2)] (.int (0 : Int32)) ∧ Arv Z h b2 k2 .int z [(.int u1), (.int u2), (.int u2)] (.int (0 : Int32)) ∧ Arv Z h b3 k3 .int z [(.int t1), (.int t2), (.int t2)] (.int (0 : Int32))
theorem ef_rm_rem30 (m : MethodId) (x0 : Addr) (x1 : Int32) : entryFrame m #[(.ref x0), (.int x1)] 2 = mkF m 0 #[.val (.ref x0), .val (.int x1)] [] := by first | (simp [entryFrame, mkF, argsToLocals, Value.category, maxLocals]; done) | rfl
set_option maxRecDepth 65536 in
set_option maxHeartbeats 40000000 in
theorem rm_rem30 (l : Launch) (Z : State) (a0 : Array Value) (hw : ∀ d ∈ tables_1, d.before a0 Z = true) (ws : List Jvm.Cond) (a b1 b2 b3 : Addr) (k1 k2 k3 : ClassId) (z x0 x1 x2 u0 u1 u2 t0 t1 t2 : Int32) (h0 : Heap) (n0 : Nat) (Z0 : n0 ≤ h0.size) (hz : z.toInt = 3 ∨ z.toInt = 4) (g_a : n0 ≤ a) (g_b1 : n0 ≤ b1) (g_b2 : n0 ≤ b2) (g_b3 : n0 ≤ b3) (dj12 : b1 ≠ b2) (dj13 : b1 ≠ b3) (dj23 : b2 ≠ b3) (E_a : Exa Z h0 a "com/example/rootcast/rootcast/tree/Children") (F_c : Fld Z h0 a "com/example/rootcast/rootcast/tree/Children" "count" "I" (.int (3 : Int32))) (F_p : Fld Z h0 a "com/example/rootcast/rootcast/tree/Children" "peers" "[I" (.ref b1)) (F_u : Fld Z h0 a "com/example/rootcast/rootcast/tree/Children" "subtree" "[I" (.ref b2)) (F_t : Fld Z h0 a "com/example/rootcast/rootcast/tree/Children" "sent" "[I" (.ref b3)) (V_1 : Arv Z h0 b1 k1 .int z [(.int x0), (.int x1), (.int x2)] (.int (0 : Int32))) (V_2 : Arv Z h0 b2 k2 .int z [(.int u0), (.int u1), (.int u2)] (.int (0 : Int32))) (V_3 : Arv Z h0 b3 k3 .int z [(.int t0), (.int t1), (.int t2)] (.int (0 : Int32))) :
    MetFree l (⟨"com/example/rootcast/rootcast/tree/Children", "remove", "(I)V"⟩ : MethodName) (head1 (Jvm.Cond.code (⟨"com/example/rootcast/rootcast/tree/Children", "remove", "(I)V"⟩ : MethodName) prog_127_method_8_code 2 none :: ws) ({ frames := 1, cells := 0, slots := 0, locals := 18 } : Room)) (fun aa U => aa = #[(.ref a), (.int (0 : Int32))] ∧ Z.Warmed39 U.vm ∧ U.heap = h0) (fun _ _ _ _ _ => True) (fun _ U o U' => ∃ v L, o = .returned v ∧ Qrem30 Z a b1 b2 b3 k1 k2 k3 z x0 x1 x2 u0 u1 u2 t0 t1 t2 h0 n0 v U'.heap L ∧ FrameEnd U o U' L (({ frames := 1, cells := 0, slots := 0, locals := 18 } : Room).cells) (({ frames := 1, cells := 0, slots := 0, locals := 18 } : Room).slots)) := by
  refine own_body pf_5 ?_
  intro p e s m below meth c s₁ hx hby hml hown hnm hlk hret hZ X0 e0
  have N0 : Fr n0 [] := Fr.nil n0
  refine own_go (f' := (mkF m 0 #[.val (.ref a), .val (.int (0 : Int32))] [])) (fun t k => castTop (ef_rm_rem30 m a (0 : Int32)) k) ?_
  have ea1 : a ≠ b1 := by obtain ⟨c1, A1, -⟩ := V_1; exact ne_arr E_a (Wd1 hw) A1
  have ea2 : a ≠ b2 := by obtain ⟨c1, A1, -⟩ := V_2; exact ne_arr E_a (Wd1 hw) A1
  have ea3 : a ≠ b3 := by obtain ⟨c1, A1, -⟩ := V_3; exact ne_arr E_a (Wd1 hw) A1
  have hzn : ¬ z < 0 := by rw [Int32.lt_iff_toInt_lt]; show ¬ z.toInt < 0; omega
  have hz3 : 3 ≤ z.toNatClampNeg := by have := nat_of hzn; omega
  have K1 : Keep h0 h0 [a, b1, b2, b3] := Keep.refl _ _
  refine own_aloadN X0 hx (pc' := 1) (hb hby d9_0) rfl rfl rfl ?_
  refine own_dup X0 hx (pc' := 2) (hb hby d9_1) rfl rfl ?_
  refine own_getF X0 hx (pc' := 5) hZ hown (host := "") (Or.inl (Wd35 hw)) Via.refl e0 F_c (hb hby d9_2) rfl (fun T2 X2 e2 => ?_)
  refine own_iconst X2 hx (pc' := 6) (1 : Int32) (hb hby d9_5) rfl rfl ?_
  refine own_isub X2 hx (pc' := 7) (z := (2 : Int32)) (hb hby d9_6) (by decide) rfl ?_
  refine own_putF X2 hx (pc' := 10) hZ (ty := .int) hown (host := "") (Or.inl (Wd35 hw)) Via.refl e2 F_c E_a (Or.inl (Wd36 hw)) (Wd1 hw) (by decide) rfl rfl (hb hby d9_7) rfl (fun T3 h3 X3 e3 W3 => ?_)
  have N4 := Fr.snoc X3 N0 g_a
  have Z5 : n0 ≤ h3.size := Nat.le_trans Z0 (Nat.le_of_eq (Wr.size W3).symm)
  have K6 : Keep h0 h3 [a, b1, b2, b3] := K1.wr W3 (Or.inl (List.mem_of_getElem? (i := 0) rfl))
  have F7 := (Exa.wr W3 E_a)
  have F8 := (Fld.same W3 F_c)
  have F9 := (Fld.other W3 F_p (Or.inr (slot_ne (Or.inl (Wd12 hw)) (Or.inl (Wd36 hw)) (by decide) (t := (.array .int)) (t' := .int) (by decide) (by decide))))
  have F10 := (Fld.other W3 F_u (Or.inr (slot_ne (Or.inl (Wd14 hw)) (Or.inl (Wd36 hw)) (by decide) (t := (.array .int)) (t' := .int) (by decide) (by decide))))
  have F11 := (Fld.other W3 F_t (Or.inr (slot_ne (Or.inl (Wd16 hw)) (Or.inl (Wd36 hw)) (by decide) (t := (.array .int)) (t' := .int) (by decide) (by decide))))
  have F12 := (V_1.other W3 (Ne.symm ea1))
  have F13 := (V_2.other W3 (Ne.symm ea2))
  have F14 := (V_3.other W3 (Ne.symm ea3))
  refine own_aloadN X3 hx (pc' := 11) (hb hby d9_10) rfl rfl rfl ?_
  refine own_getF X3 hx (pc' := 14) hZ hown (host := "") (Or.inl (Wd11 hw)) Via.refl e3 F9 (hb hby d9_11) rfl (fun T15 X15 e15 => ?_)
  refine own_iloadN X15 hx (pc' := 15) (hb hby d9_14) rfl rfl ?_
  refine own_iconst X15 hx (pc' := 16) (1 : Int32) (hb hby d9_15) rfl rfl ?_
  refine own_iadd X15 hx (pc' := 17) (z := (1 : Int32)) (hb hby d9_16) (by decide) rfl ?_
  refine own_aloadN X15 hx (pc' := 18) (hb hby d9_17) rfl rfl rfl ?_
  refine own_getF X15 hx (pc' := 21) hZ hown (host := "") (Or.inl (Wd11 hw)) Via.refl e15 F9 (hb hby d9_18) rfl (fun T16 X16 e16 => ?_)
  refine own_iloadN X16 hx (pc' := 22) (hb hby d9_21) rfl rfl ?_
  refine own_aloadN X16 hx (pc' := 23) (hb hby d9_22) rfl rfl rfl ?_
  refine own_getF X16 hx (pc' := 26) hZ hown (host := "") (Or.inl (Wd35 hw)) Via.refl e16 F8 (hb hby d9_23) rfl (fun T17 X17 e17 => ?_)
  refine own_iloadN X17 hx (pc' := 27) (hb hby d9_26) rfl rfl ?_
  refine own_isub X17 hx (pc' := 28) (z := (2 : Int32)) (hb hby d9_27) (by decide) rfl ?_
  obtain ⟨T18, h18, L18, X18, e18, N18, K18, V18, st18⟩ := cpA X17 hx hZ hown (Wd63 hw) (Wd57 hw) (Wd55 hw) (Wd56 hw) e17 F12 F12 (Or.inl ⟨rfl, rfl⟩) (by decide) (by decide) (by decide) (Nat.le_trans (by decide : ((1 : Int32) : Int32).toNatClampNeg + ((2 : Int32) : Int32).toNatClampNeg ≤ 3) (Nat.le_trans (by decide) hz3)) (Nat.le_trans (by decide : ((0 : Int32) : Int32).toNatClampNeg + ((2 : Int32) : Int32).toNatClampNeg ≤ 2) (Nat.le_trans (by decide) hz3)) (us := [(.int x1), (.int x2)]) rfl (Nat.le_of_ble_eq_true rfl) N4 g_b1 (g := (mkF m 28 #[.val (.ref a), .val (.int (0 : Int32))] [(.int (2 : Int32)), (.int (0 : Int32)), (.ref b1), (.int (1 : Int32)), (.ref b1)])) rfl (by rw [hml]; rfl) rfl (hb hby d9_28) (by decide) (W := 0) (by show 2 * 0 + _ ≤ _; exact Nat.le_of_eq rfl) (by decide)
  have Z19 : n0 ≤ h18.size := Nat.le_trans Z5 K18.1
  have K20 : Keep h0 h18 [a, b1, b2, b3] := Keep.trans K6 K18 (allS (Or.inl (List.mem_of_getElem? (i := 1) rfl)) all0)
  have F21 := (Exa.keep F7 K18)
  have F22 := (F8.keep K18 (ninS ea1 nin0))
  have F23 := (F9.keep K18 (ninS ea1 nin0))
  have F24 := (F10.keep K18 (ninS ea1 nin0))
  have F25 := (F11.keep K18 (ninS ea1 nin0))
  have F26 := (F13.keep K18 (ninS (Ne.symm dj12) nin0))
  have F27 := (F14.keep K18 (ninS (Ne.symm dj13) nin0))
  have V28 : Arv Z h18 b1 k1 .int z [(.int x1), (.int x2), (.int x2)] (.int (0 : Int32)) := V18
  refine own_go (f' := (mkF m 31 #[.val (.ref a), .val (.int (0 : Int32))] [])) st18 ?_
  refine own_aloadN X18 hx (pc' := 32) (hb hby d9_31) rfl rfl rfl ?_
  refine own_getF X18 hx (pc' := 35) hZ hown (host := "") (Or.inl (Wd13 hw)) Via.refl e18 F24 (hb hby d9_32) rfl (fun T29 X29 e29 => ?_)
  refine own_iloadN X29 hx (pc' := 36) (hb hby d9_35) rfl rfl ?_
  refine own_iconst X29 hx (pc' := 37) (1 : Int32) (hb hby d9_36) rfl rfl ?_
  refine own_iadd X29 hx (pc' := 38) (z := (1 : Int32)) (hb hby d9_37) (by decide) rfl ?_
  refine own_aloadN X29 hx (pc' := 39) (hb hby d9_38) rfl rfl rfl ?_
  refine own_getF X29 hx (pc' := 42) hZ hown (host := "") (Or.inl (Wd13 hw)) Via.refl e29 F24 (hb hby d9_39) rfl (fun T30 X30 e30 => ?_)
  refine own_iloadN X30 hx (pc' := 43) (hb hby d9_42) rfl rfl ?_
  refine own_aloadN X30 hx (pc' := 44) (hb hby d9_43) rfl rfl rfl ?_
  refine own_getF X30 hx (pc' := 47) hZ hown (host := "") (Or.inl (Wd35 hw)) Via.refl e30 F22 (hb hby d9_44) rfl (fun T31 X31 e31 => ?_)
  refine own_iloadN X31 hx (pc' := 48) (hb hby d9_47) rfl rfl ?_
  refine own_isub X31 hx (pc' := 49) (z := (2 : Int32)) (hb hby d9_48) (by decide) rfl ?_
  obtain ⟨T32, h32, L32, X32, e32, N32, K32, V32, st32⟩ := cpA X31 hx hZ hown (Wd63 hw) (Wd57 hw) (Wd55 hw) (Wd56 hw) e31 F26 F26 (Or.inl ⟨rfl, rfl⟩) (by decide) (by decide) (by decide) (Nat.le_trans (by decide : ((1 : Int32) : Int32).toNatClampNeg + ((2 : Int32) : Int32).toNatClampNeg ≤ 3) (Nat.le_trans (by decide) hz3)) (Nat.le_trans (by decide : ((0 : Int32) : Int32).toNatClampNeg + ((2 : Int32) : Int32).toNatClampNeg ≤ 2) (Nat.le_trans (by decide) hz3)) (us := [(.int u1), (.int u2)]) rfl (Nat.le_of_ble_eq_true rfl) N18 g_b2 (g := (mkF m 49 #[.val (.ref a), .val (.int (0 : Int32))] [(.int (2 : Int32)), (.int (0 : Int32)), (.ref b2), (.int (1 : Int32)), (.ref b2)])) rfl (by rw [hml]; rfl) rfl (hb hby d9_49) (by decide) (W := 0) (by show 2 * 0 + _ ≤ _; exact Nat.le_of_eq rfl) (by decide)
  have Z33 : n0 ≤ h32.size := Nat.le_trans Z19 K32.1
  have K34 : Keep h0 h32 [a, b1, b2, b3] := Keep.trans K20 K32 (allS (Or.inl (List.mem_of_getElem? (i := 2) rfl)) all0)
  have F35 := (Exa.keep F21 K32)
  have F36 := (F22.keep K32 (ninS ea2 nin0))
  have F37 := (F23.keep K32 (ninS ea2 nin0))
  have F38 := (F24.keep K32 (ninS ea2 nin0))
  have F39 := (F25.keep K32 (ninS ea2 nin0))
  have F40 := (F27.keep K32 (ninS (Ne.symm dj23) nin0))
  have F41 := (V28.keep K32 (ninS dj12 nin0))
  have V42 : Arv Z h32 b2 k2 .int z [(.int u1), (.int u2), (.int u2)] (.int (0 : Int32)) := V32
  refine own_go (f' := (mkF m 52 #[.val (.ref a), .val (.int (0 : Int32))] [])) st32 ?_
  refine own_aloadN X32 hx (pc' := 53) (hb hby d9_52) rfl rfl rfl ?_
  refine own_getF X32 hx (pc' := 56) hZ hown (host := "") (Or.inl (Wd15 hw)) Via.refl e32 F39 (hb hby d9_53) rfl (fun T43 X43 e43 => ?_)
  refine own_iloadN X43 hx (pc' := 57) (hb hby d9_56) rfl rfl ?_
  refine own_iconst X43 hx (pc' := 58) (1 : Int32) (hb hby d9_57) rfl rfl ?_
  refine own_iadd X43 hx (pc' := 59) (z := (1 : Int32)) (hb hby d9_58) (by decide) rfl ?_
  refine own_aloadN X43 hx (pc' := 60) (hb hby d9_59) rfl rfl rfl ?_
  refine own_getF X43 hx (pc' := 63) hZ hown (host := "") (Or.inl (Wd15 hw)) Via.refl e43 F39 (hb hby d9_60) rfl (fun T44 X44 e44 => ?_)
  refine own_iloadN X44 hx (pc' := 64) (hb hby d9_63) rfl rfl ?_
  refine own_aloadN X44 hx (pc' := 65) (hb hby d9_64) rfl rfl rfl ?_
  refine own_getF X44 hx (pc' := 68) hZ hown (host := "") (Or.inl (Wd35 hw)) Via.refl e44 F36 (hb hby d9_65) rfl (fun T45 X45 e45 => ?_)
  refine own_iloadN X45 hx (pc' := 69) (hb hby d9_68) rfl rfl ?_
  refine own_isub X45 hx (pc' := 70) (z := (2 : Int32)) (hb hby d9_69) (by decide) rfl ?_
  obtain ⟨T46, h46, L46, X46, e46, N46, K46, V46, st46⟩ := cpA X45 hx hZ hown (Wd63 hw) (Wd57 hw) (Wd55 hw) (Wd56 hw) e45 F40 F40 (Or.inl ⟨rfl, rfl⟩) (by decide) (by decide) (by decide) (Nat.le_trans (by decide : ((1 : Int32) : Int32).toNatClampNeg + ((2 : Int32) : Int32).toNatClampNeg ≤ 3) (Nat.le_trans (by decide) hz3)) (Nat.le_trans (by decide : ((0 : Int32) : Int32).toNatClampNeg + ((2 : Int32) : Int32).toNatClampNeg ≤ 2) (Nat.le_trans (by decide) hz3)) (us := [(.int t1), (.int t2)]) rfl (Nat.le_of_ble_eq_true rfl) N32 g_b3 (g := (mkF m 70 #[.val (.ref a), .val (.int (0 : Int32))] [(.int (2 : Int32)), (.int (0 : Int32)), (.ref b3), (.int (1 : Int32)), (.ref b3)])) rfl (by rw [hml]; rfl) rfl (hb hby d9_70) (by decide) (W := 0) (by show 2 * 0 + _ ≤ _; exact Nat.le_of_eq rfl) (by decide)
  have Z47 : n0 ≤ h46.size := Nat.le_trans Z33 K46.1
  have K48 : Keep h0 h46 [a, b1, b2, b3] := Keep.trans K34 K46 (allS (Or.inl (List.mem_of_getElem? (i := 3) rfl)) all0)
  have F49 := (Exa.keep F35 K46)
  have F50 := (F36.keep K46 (ninS ea3 nin0))
  have F51 := (F37.keep K46 (ninS ea3 nin0))
  have F52 := (F38.keep K46 (ninS ea3 nin0))
  have F53 := (F39.keep K46 (ninS ea3 nin0))
  have F54 := (F41.keep K46 (ninS dj13 nin0))
  have F55 := (V42.keep K46 (ninS dj23 nin0))
  have V56 : Arv Z h46 b3 k3 .int z [(.int t1), (.int t2), (.int t2)] (.int (0 : Int32)) := V46
  refine own_go (f' := (mkF m 73 #[.val (.ref a), .val (.int (0 : Int32))] [])) st46 ?_
  refine own_retV X46 hx hlk hret (hb hby d9_73) (by decide) (by decide) ?_
  rw [e46]
  exact ⟨rfl, N46, K48, F50, F51, F52, F53, F54, F55, V56⟩

def Qrem31 (Z : State) (a b1 b2 b3 : Addr) (k1 k2 k3 : ClassId) (z x0 x1 x2 u0 u1 u2 t0 t1 t2 : Int32) (h0 : Heap) (n0 : Nat) (v : Option Value) (h : Heap) (L : List Loc) : Prop := v = none ∧ Fr n0 L ∧ Keep h0 h [a, b1, b2, b3] ∧ Fld Z h a "com/example/rootcast/rootcast/tree/Children" "count" "I" (.int (2 : Int32)) ∧ Fld Z h a "com/example/rootcast/rootcast/tree/Children" "peers" "[I" (.ref b1) ∧ Fld Z h a "com/example/rootcast/rootcast/tree/Children" "subtree" "[I" (.ref b2) ∧ Fld Z h a "com/example/rootcast/rootcast/tree/Children" "sent" "[I" (.ref b3) ∧ Arv Z h b1 k1 .int z [(.int x0), (.int x2), (.int x2)] (.int (0 : Int32)) ∧ Arv Z h b2 k2 .int z [(.int u0), (.int u2), (.int u2)] (.int (0 : Int32)) ∧ Arv Z h b3 k3 .int z [(.int t0), (.int t2), (.int t2)] (.int (0 : Int32))
theorem ef_rm_rem31 (m : MethodId) (x0 : Addr) (x1 : Int32) : entryFrame m #[(.ref x0), (.int x1)] 2 = mkF m 0 #[.val (.ref x0), .val (.int x1)] [] := by first | (simp [entryFrame, mkF, argsToLocals, Value.category, maxLocals]; done) | rfl
set_option maxRecDepth 65536 in
set_option maxHeartbeats 40000000 in
theorem rm_rem31 (l : Launch) (Z : State) (a0 : Array Value) (hw : ∀ d ∈ tables_1, d.before a0 Z = true) (ws : List Jvm.Cond) (a b1 b2 b3 : Addr) (k1 k2 k3 : ClassId) (z x0 x1 x2 u0 u1 u2 t0 t1 t2 : Int32) (h0 : Heap) (n0 : Nat) (Z0 : n0 ≤ h0.size) (hz : z.toInt = 3 ∨ z.toInt = 4) (g_a : n0 ≤ a) (g_b1 : n0 ≤ b1) (g_b2 : n0 ≤ b2) (g_b3 : n0 ≤ b3) (dj12 : b1 ≠ b2) (dj13 : b1 ≠ b3) (dj23 : b2 ≠ b3) (E_a : Exa Z h0 a "com/example/rootcast/rootcast/tree/Children") (F_c : Fld Z h0 a "com/example/rootcast/rootcast/tree/Children" "count" "I" (.int (3 : Int32))) (F_p : Fld Z h0 a "com/example/rootcast/rootcast/tree/Children" "peers" "[I" (.ref b1)) (F_u : Fld Z h0 a "com/example/rootcast/rootcast/tree/Children" "subtree" "[I" (.ref b2)) (F_t : Fld Z h0 a "com/example/rootcast/rootcast/tree/Children" "sent" "[I" (.ref b3)) (V_1 : Arv Z h0 b1 k1 .int z [(.int x0), (.int x1), (.int x2)] (.int (0 : Int32))) (V_2 : Arv Z h0 b2 k2 .int z [(.int u0), (.int u1), (.int u2)] (.int (0 : Int32))) (V_3 : Arv Z h0 b3 k3 .int z [(.int t0), (.int t1), (.int t2)] (.int (0 : Int32))) :
    MetFree l (⟨"com/example/rootcast/rootcast/tree/Children", "remove", "(I)V"⟩ : MethodName) (head1 (Jvm.Cond.code (⟨"com/example/rootcast/rootcast/tree/Children", "remove", "(I)V"⟩ : MethodName) prog_127_method_8_code 2 none :: ws) ({ frames := 1, cells := 0, slots := 0, locals := 18 } : Room)) (fun aa U => aa = #[(.ref a), (.int (1 : Int32))] ∧ Z.Warmed39 U.vm ∧ U.heap = h0) (fun _ _ _ _ _ => True) (fun _ U o U' => ∃ v L, o = .returned v ∧ Qrem31 Z a b1 b2 b3 k1 k2 k3 z x0 x1 x2 u0 u1 u2 t0 t1 t2 h0 n0 v U'.heap L ∧ FrameEnd U o U' L (({ frames := 1, cells := 0, slots := 0, locals := 18 } : Room).cells) (({ frames := 1, cells := 0, slots := 0, locals := 18 } : Room).slots)) := by
  refine own_body pf_5 ?_
  intro p e s m below meth c s₁ hx hby hml hown hnm hlk hret hZ X0 e0
  have N0 : Fr n0 [] := Fr.nil n0
  refine own_go (f' := (mkF m 0 #[.val (.ref a), .val (.int (1 : Int32))] [])) (fun t k => castTop (ef_rm_rem31 m a (1 : Int32)) k) ?_
  have ea1 : a ≠ b1 := by obtain ⟨c1, A1, -⟩ := V_1; exact ne_arr E_a (Wd1 hw) A1
  have ea2 : a ≠ b2 := by obtain ⟨c1, A1, -⟩ := V_2; exact ne_arr E_a (Wd1 hw) A1
  have ea3 : a ≠ b3 := by obtain ⟨c1, A1, -⟩ := V_3; exact ne_arr E_a (Wd1 hw) A1
  have hzn : ¬ z < 0 := by rw [Int32.lt_iff_toInt_lt]; show ¬ z.toInt < 0; omega
  have hz3 : 3 ≤ z.toNatClampNeg := by have := nat_of hzn; omega
  have K1 : Keep h0 h0 [a, b1, b2, b3] := Keep.refl _ _
  refine own_aloadN X0 hx (pc' := 1) (hb hby d9_0) rfl rfl rfl ?_
  refine own_dup X0 hx (pc' := 2) (hb hby d9_1) rfl rfl ?_
  refine own_getF X0 hx (pc' := 5) hZ hown (host := "") (Or.inl (Wd35 hw)) Via.refl e0 F_c (hb hby d9_2) rfl (fun T2 X2 e2 => ?_)
  refine own_iconst X2 hx (pc' := 6) (1 : Int32) (hb hby d9_5) rfl rfl ?_
  refine own_isub X2 hx (pc' := 7) (z := (2 : Int32)) (hb hby d9_6) (by decide) rfl ?_
  refine own_putF X2 hx (pc' := 10) hZ (ty := .int) hown (host := "") (Or.inl (Wd35 hw)) Via.refl e2 F_c E_a (Or.inl (Wd36 hw)) (Wd1 hw) (by decide) rfl rfl (hb hby d9_7) rfl (fun T3 h3 X3 e3 W3 => ?_)
  have N4 := Fr.snoc X3 N0 g_a
  have Z5 : n0 ≤ h3.size := Nat.le_trans Z0 (Nat.le_of_eq (Wr.size W3).symm)
  have K6 : Keep h0 h3 [a, b1, b2, b3] := K1.wr W3 (Or.inl (List.mem_of_getElem? (i := 0) rfl))
  have F7 := (Exa.wr W3 E_a)
  have F8 := (Fld.same W3 F_c)
  have F9 := (Fld.other W3 F_p (Or.inr (slot_ne (Or.inl (Wd12 hw)) (Or.inl (Wd36 hw)) (by decide) (t := (.array .int)) (t' := .int) (by decide) (by decide))))
  have F10 := (Fld.other W3 F_u (Or.inr (slot_ne (Or.inl (Wd14 hw)) (Or.inl (Wd36 hw)) (by decide) (t := (.array .int)) (t' := .int) (by decide) (by decide))))
  have F11 := (Fld.other W3 F_t (Or.inr (slot_ne (Or.inl (Wd16 hw)) (Or.inl (Wd36 hw)) (by decide) (t := (.array .int)) (t' := .int) (by decide) (by decide))))
  have F12 := (V_1.other W3 (Ne.symm ea1))
  have F13 := (V_2.other W3 (Ne.symm ea2))
  have F14 := (V_3.other W3 (Ne.symm ea3))
  refine own_aloadN X3 hx (pc' := 11) (hb hby d9_10) rfl rfl rfl ?_
  refine own_getF X3 hx (pc' := 14) hZ hown (host := "") (Or.inl (Wd11 hw)) Via.refl e3 F9 (hb hby d9_11) rfl (fun T15 X15 e15 => ?_)
  refine own_iloadN X15 hx (pc' := 15) (hb hby d9_14) rfl rfl ?_
  refine own_iconst X15 hx (pc' := 16) (1 : Int32) (hb hby d9_15) rfl rfl ?_
  refine own_iadd X15 hx (pc' := 17) (z := (2 : Int32)) (hb hby d9_16) (by decide) rfl ?_
  refine own_aloadN X15 hx (pc' := 18) (hb hby d9_17) rfl rfl rfl ?_
  refine own_getF X15 hx (pc' := 21) hZ hown (host := "") (Or.inl (Wd11 hw)) Via.refl e15 F9 (hb hby d9_18) rfl (fun T16 X16 e16 => ?_)
  refine own_iloadN X16 hx (pc' := 22) (hb hby d9_21) rfl rfl ?_
  refine own_aloadN X16 hx (pc' := 23) (hb hby d9_22) rfl rfl rfl ?_
  refine own_getF X16 hx (pc' := 26) hZ hown (host := "") (Or.inl (Wd35 hw)) Via.refl e16 F8 (hb hby d9_23) rfl (fun T17 X17 e17 => ?_)
  refine own_iloadN X17 hx (pc' := 27) (hb hby d9_26) rfl rfl ?_
  refine own_isub X17 hx (pc' := 28) (z := (1 : Int32)) (hb hby d9_27) (by decide) rfl ?_
  obtain ⟨T18, h18, L18, X18, e18, N18, K18, V18, st18⟩ := cpA X17 hx hZ hown (Wd63 hw) (Wd57 hw) (Wd55 hw) (Wd56 hw) e17 F12 F12 (Or.inl ⟨rfl, rfl⟩) (by decide) (by decide) (by decide) (Nat.le_trans (by decide : ((2 : Int32) : Int32).toNatClampNeg + ((1 : Int32) : Int32).toNatClampNeg ≤ 3) (Nat.le_trans (by decide) hz3)) (Nat.le_trans (by decide : ((1 : Int32) : Int32).toNatClampNeg + ((1 : Int32) : Int32).toNatClampNeg ≤ 2) (Nat.le_trans (by decide) hz3)) (us := [(.int x2)]) rfl (Nat.le_of_ble_eq_true rfl) N4 g_b1 (g := (mkF m 28 #[.val (.ref a), .val (.int (1 : Int32))] [(.int (1 : Int32)), (.int (1 : Int32)), (.ref b1), (.int (2 : Int32)), (.ref b1)])) rfl (by rw [hml]; rfl) rfl (hb hby d9_28) (by decide) (W := 0) (by show 2 * 0 + _ ≤ _; exact Nat.le_of_eq rfl) (by decide)
  have Z19 : n0 ≤ h18.size := Nat.le_trans Z5 K18.1
  have K20 : Keep h0 h18 [a, b1, b2, b3] := Keep.trans K6 K18 (allS (Or.inl (List.mem_of_getElem? (i := 1) rfl)) all0)
  have F21 := (Exa.keep F7 K18)
  have F22 := (F8.keep K18 (ninS ea1 nin0))
  have F23 := (F9.keep K18 (ninS ea1 nin0))
  have F24 := (F10.keep K18 (ninS ea1 nin0))
  have F25 := (F11.keep K18 (ninS ea1 nin0))
  have F26 := (F13.keep K18 (ninS (Ne.symm dj12) nin0))
  have F27 := (F14.keep K18 (ninS (Ne.symm dj13) nin0))
  have V28 : Arv Z h18 b1 k1 .int z [(.int x0), (.int x2), (.int x2)] (.int (0 : Int32)) := V18
  refine own_go (f' := (mkF m 31 #[.val (.ref a), .val (.int (1 : Int32))] [])) st18 ?_
  refine own_aloadN X18 hx (pc' := 32) (hb hby d9_31) rfl rfl rfl ?_
  refine own_getF X18 hx (pc' := 35) hZ hown (host := "") (Or.inl (Wd13 hw)) Via.refl e18 F24 (hb hby d9_32) rfl (fun T29 X29 e29 => ?_)
  refine own_iloadN X29 hx (pc' := 36) (hb hby d9_35) rfl rfl ?_
  refine own_iconst X29 hx (pc' := 37) (1 : Int32) (hb hby d9_36) rfl rfl ?_
  refine own_iadd X29 hx (pc' := 38) (z := (2 : Int32)) (hb hby d9_37) (by decide) rfl ?_
  refine own_aloadN X29 hx (pc' := 39) (hb hby d9_38) rfl rfl rfl ?_
  refine own_getF X29 hx (pc' := 42) hZ hown (host := "") (Or.inl (Wd13 hw)) Via.refl e29 F24 (hb hby d9_39) rfl (fun T30 X30 e30 => ?_)
  refine own_iloadN X30 hx (pc' := 43) (hb hby d9_42) rfl rfl ?_
  refine own_aloadN X30 hx (pc' := 44) (hb hby d9_43) rfl rfl rfl ?_
  refine own_getF X30 hx (pc' := 47) hZ hown (host := "") (Or.inl (Wd35 hw)) Via.refl e30 F22 (hb hby d9_44) rfl (fun T31 X31 e31 => ?_)
  refine own_iloadN X31 hx (pc' := 48) (hb hby d9_47) rfl rfl ?_
  refine own_isub X31 hx (pc' := 49) (z := (1 : Int32)) (hb hby d9_48) (by decide) rfl ?_
  obtain ⟨T32, h32, L32, X32, e32, N32, K32, V32, st32⟩ := cpA X31 hx hZ hown (Wd63 hw) (Wd57 hw) (Wd55 hw) (Wd56 hw) e31 F26 F26 (Or.inl ⟨rfl, rfl⟩) (by decide) (by decide) (by decide) (Nat.le_trans (by decide : ((2 : Int32) : Int32).toNatClampNeg + ((1 : Int32) : Int32).toNatClampNeg ≤ 3) (Nat.le_trans (by decide) hz3)) (Nat.le_trans (by decide : ((1 : Int32) : Int32).toNatClampNeg + ((1 : Int32) : Int32).toNatClampNeg ≤ 2) (Nat.le_trans (by decide) hz3)) (us := [(.int u2)]) rfl (Nat.le_of_ble_eq_true rfl) N18 g_b2 (g := (mkF m 49 #[.val (.ref a), .val (.int (1 : Int32))] [(.int (1 : Int32)), (.int (1 : Int32)), (.ref b2), (.int (2 : Int32)), (.ref b2)])) rfl (by rw [hml]; rfl) rfl (hb hby d9_49) (by decide) (W := 0) (by show 2 * 0 + _ ≤ _; exact Nat.le_of_eq rfl) (by decide)
  have Z33 : n0 ≤ h32.size := Nat.le_trans Z19 K32.1
  have K34 : Keep h0 h32 [a, b1, b2, b3] := Keep.trans K20 K32 (allS (Or.inl (List.mem_of_getElem? (i := 2) rfl)) all0)
  have F35 := (Exa.keep F21 K32)
  have F36 := (F22.keep K32 (ninS ea2 nin0))
  have F37 := (F23.keep K32 (ninS ea2 nin0))
  have F38 := (F24.keep K32 (ninS ea2 nin0))
  have F39 := (F25.keep K32 (ninS ea2 nin0))
  have F40 := (F27.keep K32 (ninS (Ne.symm dj23) nin0))
  have F41 := (V28.keep K32 (ninS dj12 nin0))
  have V42 : Arv Z h32 b2 k2 .int z [(.int u0), (.int u2), (.int u2)] (.int (0 : Int32)) := V32
  refine own_go (f' := (mkF m 52 #[.val (.ref a), .val (.int (1 : Int32))] [])) st32 ?_
  refine own_aloadN X32 hx (pc' := 53) (hb hby d9_52) rfl rfl rfl ?_
  refine own_getF X32 hx (pc' := 56) hZ hown (host := "") (Or.inl (Wd15 hw)) Via.refl e32 F39 (hb hby d9_53) rfl (fun T43 X43 e43 => ?_)
  refine own_iloadN X43 hx (pc' := 57) (hb hby d9_56) rfl rfl ?_
  refine own_iconst X43 hx (pc' := 58) (1 : Int32) (hb hby d9_57) rfl rfl ?_
  refine own_iadd X43 hx (pc' := 59) (z := (2 : Int32)) (hb hby d9_58) (by decide) rfl ?_
  refine own_aloadN X43 hx (pc' := 60) (hb hby d9_59) rfl rfl rfl ?_
  refine own_getF X43 hx (pc' := 63) hZ hown (host := "") (Or.inl (Wd15 hw)) Via.refl e43 F39 (hb hby d9_60) rfl (fun T44 X44 e44 => ?_)
  refine own_iloadN X44 hx (pc' := 64) (hb hby d9_63) rfl rfl ?_
  refine own_aloadN X44 hx (pc' := 65) (hb hby d9_64) rfl rfl rfl ?_
  refine own_getF X44 hx (pc' := 68) hZ hown (host := "") (Or.inl (Wd35 hw)) Via.refl e44 F36 (hb hby d9_65) rfl (fun T45 X45 e45 => ?_)
  refine own_iloadN X45 hx (pc' := 69) (hb hby d9_68) rfl rfl ?_
  refine own_isub X45 hx (pc' := 70) (z := (1 : Int32)) (hb hby d9_69) (by decide) rfl ?_
  obtain ⟨T46, h46, L46, X46, e46, N46, K46, V46, st46⟩ := cpA X45 hx hZ hown (Wd63 hw) (Wd57 hw) (Wd55 hw) (Wd56 hw) e45 F40 F40 (Or.inl ⟨rfl, rfl⟩) (by decide) (by decide) (by decide) (Nat.le_trans (by decide : ((2 : Int32) : Int32).toNatClampNeg + ((1 : Int32) : Int32).toNatClampNeg ≤ 3) (Nat.le_trans (by decide) hz3)) (Nat.le_trans (by decide : ((1 : Int32) : Int32).toNatClampNeg + ((1 : Int32) : Int32).toNatClampNeg ≤ 2) (Nat.le_trans (by decide) hz3)) (us := [(.int t2)]) rfl (Nat.le_of_ble_eq_true rfl) N32 g_b3 (g := (mkF m 70 #[.val (.ref a), .val (.int (1 : Int32))] [(.int (1 : Int32)), (.int (1 : Int32)), (.ref b3), (.int (2 : Int32)), (.ref b3)])) rfl (by rw [hml]; rfl) rfl (hb hby d9_70) (by decide) (W := 0) (by show 2 * 0 + _ ≤ _; exact Nat.le_of_eq rfl) (by decide)
  have Z47 : n0 ≤ h46.size := Nat.le_trans Z33 K46.1
  have K48 : Keep h0 h46 [a, b1, b2, b3] := Keep.trans K34 K46 (allS (Or.inl (List.mem_of_getElem? (i := 3) rfl)) all0)
  have F49 := (Exa.keep F35 K46)
  have F50 := (F36.keep K46 (ninS ea3 nin0))
  have F51 := (F37.keep K46 (ninS ea3 nin0))
  have F52 := (F38.keep K46 (ninS ea3 nin0))
  have F53 := (F39.keep K46 (ninS ea3 nin0))
  have F54 := (F41.keep K46 (ninS dj13 nin0))
  have F55 := (V42.keep K46 (ninS dj23 nin0))
  have V56 : Arv Z h46 b3 k3 .int z [(.int t0), (.int t2), (.int t2)] (.int (0 : Int32)) := V46
  refine own_go (f' := (mkF m 73 #[.val (.ref a), .val (.int (1 : Int32))] [])) st46 ?_
  refine own_retV X46 hx hlk hret (hb hby d9_73) (by decide) (by decide) ?_
  rw [e46]
  exact ⟨rfl, N46, K48, F50, F51, F52, F53, F54, F55, V56⟩

def Qrem32 (Z : State) (a b1 b2 b3 : Addr) (k1 k2 k3 : ClassId) (z x0 x1 x2 u0 u1 u2 t0 t1 t2 : Int32) (h0 : Heap) (n0 : Nat) (v : Option Value) (h : Heap) (L : List Loc) : Prop := v = none ∧ Fr n0 L ∧ Keep h0 h [a, b1, b2, b3] ∧ Fld Z h a "com/example/rootcast/rootcast/tree/Children" "count" "I" (.int (2 : Int32)) ∧ Fld Z h a "com/example/rootcast/rootcast/tree/Children" "peers" "[I" (.ref b1) ∧ Fld Z h a "com/example/rootcast/rootcast/tree/Children" "subtree" "[I" (.ref b2) ∧ Fld Z h a "com/example/rootcast/rootcast/tree/Children" "sent" "[I" (.ref b3) ∧ Arv Z h b1 k1 .int z [(.int x0), (.int x1), (.int x2)] (.int (0 : Int32)) ∧ Arv Z h b2 k2 .int z [(.int u0), (.int u1), (.int u2)] (.int (0 : Int32)) ∧ Arv Z h b3 k3 .int z [(.int t0), (.int t1), (.int t2)] (.int (0 : Int32))
theorem ef_rm_rem32 (m : MethodId) (x0 : Addr) (x1 : Int32) : entryFrame m #[(.ref x0), (.int x1)] 2 = mkF m 0 #[.val (.ref x0), .val (.int x1)] [] := by first | (simp [entryFrame, mkF, argsToLocals, Value.category, maxLocals]; done) | rfl
set_option maxRecDepth 65536 in
set_option maxHeartbeats 40000000 in
theorem rm_rem32 (l : Launch) (Z : State) (a0 : Array Value) (hw : ∀ d ∈ tables_1, d.before a0 Z = true) (ws : List Jvm.Cond) (a b1 b2 b3 : Addr) (k1 k2 k3 : ClassId) (z x0 x1 x2 u0 u1 u2 t0 t1 t2 : Int32) (h0 : Heap) (n0 : Nat) (Z0 : n0 ≤ h0.size) (hz : z.toInt = 3 ∨ z.toInt = 4) (g_a : n0 ≤ a) (g_b1 : n0 ≤ b1) (g_b2 : n0 ≤ b2) (g_b3 : n0 ≤ b3) (dj12 : b1 ≠ b2) (dj13 : b1 ≠ b3) (dj23 : b2 ≠ b3) (E_a : Exa Z h0 a "com/example/rootcast/rootcast/tree/Children") (F_c : Fld Z h0 a "com/example/rootcast/rootcast/tree/Children" "count" "I" (.int (3 : Int32))) (F_p : Fld Z h0 a "com/example/rootcast/rootcast/tree/Children" "peers" "[I" (.ref b1)) (F_u : Fld Z h0 a "com/example/rootcast/rootcast/tree/Children" "subtree" "[I" (.ref b2)) (F_t : Fld Z h0 a "com/example/rootcast/rootcast/tree/Children" "sent" "[I" (.ref b3)) (V_1 : Arv Z h0 b1 k1 .int z [(.int x0), (.int x1), (.int x2)] (.int (0 : Int32))) (V_2 : Arv Z h0 b2 k2 .int z [(.int u0), (.int u1), (.int u2)] (.int (0 : Int32))) (V_3 : Arv Z h0 b3 k3 .int z [(.int t0), (.int t1), (.int t2)] (.int (0 : Int32))) :
    MetFree l (⟨"com/example/rootcast/rootcast/tree/Children", "remove", "(I)V"⟩ : MethodName) (head1 (Jvm.Cond.code (⟨"com/example/rootcast/rootcast/tree/Children", "remove", "(I)V"⟩ : MethodName) prog_127_method_8_code 2 none :: ws) ({ frames := 1, cells := 0, slots := 0, locals := 18 } : Room)) (fun aa U => aa = #[(.ref a), (.int (2 : Int32))] ∧ Z.Warmed39 U.vm ∧ U.heap = h0) (fun _ _ _ _ _ => True) (fun _ U o U' => ∃ v L, o = .returned v ∧ Qrem32 Z a b1 b2 b3 k1 k2 k3 z x0 x1 x2 u0 u1 u2 t0 t1 t2 h0 n0 v U'.heap L ∧ FrameEnd U o U' L (({ frames := 1, cells := 0, slots := 0, locals := 18 } : Room).cells) (({ frames := 1, cells := 0, slots := 0, locals := 18 } : Room).slots)) := by
  refine own_body pf_5 ?_
  intro p e s m below meth c s₁ hx hby hml hown hnm hlk hret hZ X0 e0
  have N0 : Fr n0 [] := Fr.nil n0
  refine own_go (f' := (mkF m 0 #[.val (.ref a), .val (.int (2 : Int32))] [])) (fun t k => castTop (ef_rm_rem32 m a (2 : Int32)) k) ?_
  have ea1 : a ≠ b1 := by obtain ⟨c1, A1, -⟩ := V_1; exact ne_arr E_a (Wd1 hw) A1
  have ea2 : a ≠ b2 := by obtain ⟨c1, A1, -⟩ := V_2; exact ne_arr E_a (Wd1 hw) A1
  have ea3 : a ≠ b3 := by obtain ⟨c1, A1, -⟩ := V_3; exact ne_arr E_a (Wd1 hw) A1
  have hzn : ¬ z < 0 := by rw [Int32.lt_iff_toInt_lt]; show ¬ z.toInt < 0; omega
  have hz3 : 3 ≤ z.toNatClampNeg := by have := nat_of hzn; omega
  have K1 : Keep h0 h0 [a, b1, b2, b3] := Keep.refl _ _
  refine own_aloadN X0 hx (pc' := 1) (hb hby d9_0) rfl rfl rfl ?_
  refine own_dup X0 hx (pc' := 2) (hb hby d9_1) rfl rfl ?_
  refine own_getF X0 hx (pc' := 5) hZ hown (host := "") (Or.inl (Wd35 hw)) Via.refl e0 F_c (hb hby d9_2) rfl (fun T2 X2 e2 => ?_)
  refine own_iconst X2 hx (pc' := 6) (1 : Int32) (hb hby d9_5) rfl rfl ?_
  refine own_isub X2 hx (pc' := 7) (z := (2 : Int32)) (hb hby d9_6) (by decide) rfl ?_
  refine own_putF X2 hx (pc' := 10) hZ (ty := .int) hown (host := "") (Or.inl (Wd35 hw)) Via.refl e2 F_c E_a (Or.inl (Wd36 hw)) (Wd1 hw) (by decide) rfl rfl (hb hby d9_7) rfl (fun T3 h3 X3 e3 W3 => ?_)
  have N4 := Fr.snoc X3 N0 g_a
  have Z5 : n0 ≤ h3.size := Nat.le_trans Z0 (Nat.le_of_eq (Wr.size W3).symm)
  have K6 : Keep h0 h3 [a, b1, b2, b3] := K1.wr W3 (Or.inl (List.mem_of_getElem? (i := 0) rfl))
  have F7 := (Exa.wr W3 E_a)
  have F8 := (Fld.same W3 F_c)
  have F9 := (Fld.other W3 F_p (Or.inr (slot_ne (Or.inl (Wd12 hw)) (Or.inl (Wd36 hw)) (by decide) (t := (.array .int)) (t' := .int) (by decide) (by decide))))
  have F10 := (Fld.other W3 F_u (Or.inr (slot_ne (Or.inl (Wd14 hw)) (Or.inl (Wd36 hw)) (by decide) (t := (.array .int)) (t' := .int) (by decide) (by decide))))
  have F11 := (Fld.other W3 F_t (Or.inr (slot_ne (Or.inl (Wd16 hw)) (Or.inl (Wd36 hw)) (by decide) (t := (.array .int)) (t' := .int) (by decide) (by decide))))
  have F12 := (V_1.other W3 (Ne.symm ea1))
  have F13 := (V_2.other W3 (Ne.symm ea2))
  have F14 := (V_3.other W3 (Ne.symm ea3))
  refine own_aloadN X3 hx (pc' := 11) (hb hby d9_10) rfl rfl rfl ?_
  refine own_getF X3 hx (pc' := 14) hZ hown (host := "") (Or.inl (Wd11 hw)) Via.refl e3 F9 (hb hby d9_11) rfl (fun T15 X15 e15 => ?_)
  refine own_iloadN X15 hx (pc' := 15) (hb hby d9_14) rfl rfl ?_
  refine own_iconst X15 hx (pc' := 16) (1 : Int32) (hb hby d9_15) rfl rfl ?_
  refine own_iadd X15 hx (pc' := 17) (z := (3 : Int32)) (hb hby d9_16) (by decide) rfl ?_
  refine own_aloadN X15 hx (pc' := 18) (hb hby d9_17) rfl rfl rfl ?_
  refine own_getF X15 hx (pc' := 21) hZ hown (host := "") (Or.inl (Wd11 hw)) Via.refl e15 F9 (hb hby d9_18) rfl (fun T16 X16 e16 => ?_)
  refine own_iloadN X16 hx (pc' := 22) (hb hby d9_21) rfl rfl ?_
  refine own_aloadN X16 hx (pc' := 23) (hb hby d9_22) rfl rfl rfl ?_
  refine own_getF X16 hx (pc' := 26) hZ hown (host := "") (Or.inl (Wd35 hw)) Via.refl e16 F8 (hb hby d9_23) rfl (fun T17 X17 e17 => ?_)
  refine own_iloadN X17 hx (pc' := 27) (hb hby d9_26) rfl rfl ?_
  refine own_isub X17 hx (pc' := 28) (z := (0 : Int32)) (hb hby d9_27) (by decide) rfl ?_
  obtain ⟨T18, h18, L18, X18, e18, N18, K18, V18, st18⟩ := cpA X17 hx hZ hown (Wd63 hw) (Wd57 hw) (Wd55 hw) (Wd56 hw) e17 F12 F12 (Or.inl ⟨rfl, rfl⟩) (by decide) (by decide) (by decide) (Nat.le_trans (by decide : ((3 : Int32) : Int32).toNatClampNeg + ((0 : Int32) : Int32).toNatClampNeg ≤ 3) (Nat.le_trans (by decide) hz3)) (Nat.le_trans (by decide : ((2 : Int32) : Int32).toNatClampNeg + ((0 : Int32) : Int32).toNatClampNeg ≤ 2) (Nat.le_trans (by decide) hz3)) (us := []) rfl (Nat.le_of_ble_eq_true rfl) N4 g_b1 (g := (mkF m 28 #[.val (.ref a), .val (.int (2 : Int32))] [(.int (0 : Int32)), (.int (2 : Int32)), (.ref b1), (.int (3 : Int32)), (.ref b1)])) rfl (by rw [hml]; rfl) rfl (hb hby d9_28) (by decide) (W := 0) (by show 2 * 0 + _ ≤ _; exact Nat.le_of_eq rfl) (by decide)
  have Z19 : n0 ≤ h18.size := Nat.le_trans Z5 K18.1
  have K20 : Keep h0 h18 [a, b1, b2, b3] := Keep.trans K6 K18 (allS (Or.inl (List.mem_of_getElem? (i := 1) rfl)) all0)
  have F21 := (Exa.keep F7 K18)
  have F22 := (F8.keep K18 (ninS ea1 nin0))
  have F23 := (F9.keep K18 (ninS ea1 nin0))
  have F24 := (F10.keep K18 (ninS ea1 nin0))
  have F25 := (F11.keep K18 (ninS ea1 nin0))
  have F26 := (F13.keep K18 (ninS (Ne.symm dj12) nin0))
  have F27 := (F14.keep K18 (ninS (Ne.symm dj13) nin0))
  have V28 : Arv Z h18 b1 k1 .int z [(.int x0), (.int x1), (.int x2)] (.int (0 : Int32)) := V18
  refine own_go (f' := (mkF m 31 #[.val (.ref a), .val (.int (2 : Int32))] [])) st18 ?_
  refine own_aloadN X18 hx (pc' := 32) (hb hby d9_31) rfl rfl rfl ?_
  refine own_getF X18 hx (pc' := 35) hZ hown (host := "") (Or.inl (Wd13 hw)) Via.refl e18 F24 (hb hby d9_32) rfl (fun T29 X29 e29 => ?_)
  refine own_iloadN X29 hx (pc' := 36) (hb hby d9_35) rfl rfl ?_
  refine own_iconst X29 hx (pc' := 37) (1 : Int32) (hb hby d9_36) rfl rfl ?_
  refine own_iadd X29 hx (pc' := 38) (z := (3 : Int32)) (hb hby d9_37) (by decide) rfl ?_
  refine own_aloadN X29 hx (pc' := 39) (hb hby d9_38) rfl rfl rfl ?_
  refine own_getF X29 hx (pc' := 42) hZ hown (host := "") (Or.inl (Wd13 hw)) Via.refl e29 F24 (hb hby d9_39) rfl (fun T30 X30 e30 => ?_)
  refine own_iloadN X30 hx (pc' := 43) (hb hby d9_42) rfl rfl ?_
  refine own_aloadN X30 hx (pc' := 44) (hb hby d9_43) rfl rfl rfl ?_
  refine own_getF X30 hx (pc' := 47) hZ hown (host := "") (Or.inl (Wd35 hw)) Via.refl e30 F22 (hb hby d9_44) rfl (fun T31 X31 e31 => ?_)
  refine own_iloadN X31 hx (pc' := 48) (hb hby d9_47) rfl rfl ?_
  refine own_isub X31 hx (pc' := 49) (z := (0 : Int32)) (hb hby d9_48) (by decide) rfl ?_
  obtain ⟨T32, h32, L32, X32, e32, N32, K32, V32, st32⟩ := cpA X31 hx hZ hown (Wd63 hw) (Wd57 hw) (Wd55 hw) (Wd56 hw) e31 F26 F26 (Or.inl ⟨rfl, rfl⟩) (by decide) (by decide) (by decide) (Nat.le_trans (by decide : ((3 : Int32) : Int32).toNatClampNeg + ((0 : Int32) : Int32).toNatClampNeg ≤ 3) (Nat.le_trans (by decide) hz3)) (Nat.le_trans (by decide : ((2 : Int32) : Int32).toNatClampNeg + ((0 : Int32) : Int32).toNatClampNeg ≤ 2) (Nat.le_trans (by decide) hz3)) (us := []) rfl (Nat.le_of_ble_eq_true rfl) N18 g_b2 (g := (mkF m 49 #[.val (.ref a), .val (.int (2 : Int32))] [(.int (0 : Int32)), (.int (2 : Int32)), (.ref b2), (.int (3 : Int32)), (.ref b2)])) rfl (by rw [hml]; rfl) rfl (hb hby d9_49) (by decide) (W := 0) (by show 2 * 0 + _ ≤ _; exact Nat.le_of_eq rfl) (by decide)
  have Z33 : n0 ≤ h32.size := Nat.le_trans Z19 K32.1
  have K34 : Keep h0 h32 [a, b1, b2, b3] := Keep.trans K20 K32 (allS (Or.inl (List.mem_of_getElem? (i := 2) rfl)) all0)
  have F35 := (Exa.keep F21 K32)
  have F36 := (F22.keep K32 (ninS ea2 nin0))
  have F37 := (F23.keep K32 (ninS ea2 nin0))
  have F38 := (F24.keep K32 (ninS ea2 nin0))
  have F39 := (F25.keep K32 (ninS ea2 nin0))
  have F40 := (F27.keep K32 (ninS (Ne.symm dj23) nin0))
  have F41 := (V28.keep K32 (ninS dj12 nin0))
  have V42 : Arv Z h32 b2 k2 .int z [(.int u0), (.int u1), (.int u2)] (.int (0 : Int32)) := V32
  refine own_go (f' := (mkF m 52 #[.val (.ref a), .val (.int (2 : Int32))] [])) st32 ?_
  refine own_aloadN X32 hx (pc' := 53) (hb hby d9_52) rfl rfl rfl ?_
  refine own_getF X32 hx (pc' := 56) hZ hown (host := "") (Or.inl (Wd15 hw)) Via.refl e32 F39 (hb hby d9_53) rfl (fun T43 X43 e43 => ?_)
  refine own_iloadN X43 hx (pc' := 57) (hb hby d9_56) rfl rfl ?_
  refine own_iconst X43 hx (pc' := 58) (1 : Int32) (hb hby d9_57) rfl rfl ?_
  refine own_iadd X43 hx (pc' := 59) (z := (3 : Int32)) (hb hby d9_58) (by decide) rfl ?_
  refine own_aloadN X43 hx (pc' := 60) (hb hby d9_59) rfl rfl rfl ?_
  refine own_getF X43 hx (pc' := 63) hZ hown (host := "") (Or.inl (Wd15 hw)) Via.refl e43 F39 (hb hby d9_60) rfl (fun T44 X44 e44 => ?_)
  refine own_iloadN X44 hx (pc' := 64) (hb hby d9_63) rfl rfl ?_
  refine own_aloadN X44 hx (pc' := 65) (hb hby d9_64) rfl rfl rfl ?_
  refine own_getF X44 hx (pc' := 68) hZ hown (host := "") (Or.inl (Wd35 hw)) Via.refl e44 F36 (hb hby d9_65) rfl (fun T45 X45 e45 => ?_)
  refine own_iloadN X45 hx (pc' := 69) (hb hby d9_68) rfl rfl ?_
  refine own_isub X45 hx (pc' := 70) (z := (0 : Int32)) (hb hby d9_69) (by decide) rfl ?_
  obtain ⟨T46, h46, L46, X46, e46, N46, K46, V46, st46⟩ := cpA X45 hx hZ hown (Wd63 hw) (Wd57 hw) (Wd55 hw) (Wd56 hw) e45 F40 F40 (Or.inl ⟨rfl, rfl⟩) (by decide) (by decide) (by decide) (Nat.le_trans (by decide : ((3 : Int32) : Int32).toNatClampNeg + ((0 : Int32) : Int32).toNatClampNeg ≤ 3) (Nat.le_trans (by decide) hz3)) (Nat.le_trans (by decide : ((2 : Int32) : Int32).toNatClampNeg + ((0 : Int32) : Int32).toNatClampNeg ≤ 2) (Nat.le_trans (by decide) hz3)) (us := []) rfl (Nat.le_of_ble_eq_true rfl) N32 g_b3 (g := (mkF m 70 #[.val (.ref a), .val (.int (2 : Int32))] [(.int (0 : Int32)), (.int (2 : Int32)), (.ref b3), (.int (3 : Int32)), (.ref b3)])) rfl (by rw [hml]; rfl) rfl (hb hby d9_70) (by decide) (W := 0) (by show 2 * 0 + _ ≤ _; exact Nat.le_of_eq rfl) (by decide)
  have Z47 : n0 ≤ h46.size := Nat.le_trans Z33 K46.1
  have K48 : Keep h0 h46 [a, b1, b2, b3] := Keep.trans K34 K46 (allS (Or.inl (List.mem_of_getElem? (i := 3) rfl)) all0)
  have F49 := (Exa.keep F35 K46)
  have F50 := (F36.keep K46 (ninS ea3 nin0))
  have F51 := (F37.keep K46 (ninS ea3 nin0))
  have F52 := (F38.keep K46 (ninS ea3 nin0))
  have F53 := (F39.keep K46 (ninS ea3 nin0))
  have F54 := (F41.keep K46 (ninS dj13 nin0))
  have F55 := (V42.keep K46 (ninS dj23 nin0))
  have V56 : Arv Z h46 b3 k3 .int z [(.int t0), (.int t1), (.int t2)] (.int (0 : Int32)) := V46
  refine own_go (f' := (mkF m 73 #[.val (.ref a), .val (.int (2 : Int32))] [])) st46 ?_
  refine own_retV X46 hx hlk hret (hb hby d9_73) (by decide) (by decide) ?_
  rw [e46]
  exact ⟨rfl, N46, K48, F50, F51, F52, F53, F54, F55, V56⟩

def own_sel (r dr i x y : Int32) : Int32 := if dr = 0 then x else if i < r then x else y
def own_place (n x0 x1 x2 q : Int32) : Int32 := if 0 < n ∧ x0 = q then 0 else if 1 < n ∧ x1 = q then 1 else if 2 < n ∧ x2 = q then 2 else -1
theorem d3_0 : decode method_3_code 0 = .ok (.iload_n 2, 1) := by decide +kernel
theorem d3_1 : decode method_3_code 1 = .ok (.ifCond .eq 16, 3) := by decide +kernel
theorem d3_4 : decode method_3_code 4 = .ok (.iload_n 3, 1) := by decide +kernel
theorem d3_5 : decode method_3_code 5 = .ok (.iload_n 1, 1) := by decide +kernel
theorem d3_6 : decode method_3_code 6 = .ok (.if_icmp .lt 11, 3) := by decide +kernel
theorem d3_9 : decode method_3_code 9 = .ok (.aload_n 0, 1) := by decide +kernel
theorem d3_10 : decode method_3_code 10 = .ok (.iload_n 3, 1) := by decide +kernel
theorem d3_11 : decode method_3_code 11 = .ok (.iconst 1, 1) := by decide +kernel
theorem d3_12 : decode method_3_code 12 = .ok (.iadd, 1) := by decide +kernel
theorem d3_13 : decode method_3_code 13 = .ok (.iaload, 1) := by decide +kernel
theorem d3_14 : decode method_3_code 14 = .ok (.goto 6, 3) := by decide +kernel
theorem d3_17 : decode method_3_code 17 = .ok (.aload_n 0, 1) := by decide +kernel
theorem d3_18 : decode method_3_code 18 = .ok (.iload_n 3, 1) := by decide +kernel
theorem d3_19 : decode method_3_code 19 = .ok (.iaload, 1) := by decide +kernel
theorem d3_20 : decode method_3_code 20 = .ok (.ireturn, 1) := by decide +kernel
def Qat0 (r dr y0 y1 y2 y3 : Int32) (h0 : Heap) (n0 : Nat) (v : Option Value) (h : Heap) (L : List Loc) : Prop := v = some (.int (own_sel r dr (0 : Int32) y0 y1)) ∧ Fr n0 L ∧ h = h0
theorem ef_rm_at0 (m : MethodId) (x0 : Addr) (x1 : Int32) (x2 : Int32) (x3 : Int32) : entryFrame m #[(.ref x0), (.int x1), (.int x2), (.int x3)] 4 = mkF m 0 #[.val (.ref x0), .val (.int x1), .val (.int x2), .val (.int x3)] [] := by first | (simp [entryFrame, mkF, argsToLocals, Value.category, maxLocals]; done) | rfl
theorem pf_6 : plainFor (⟨"com/example/rootcast/rootcast/tree/ChildrenPlaceOfPinLaw", "at", "([IIZI)I"⟩ : MethodName) = true := by apply plainFor_of_name; first | (simp [plainName, overriddenIn]; done) | decide +kernel
set_option maxRecDepth 65536 in
set_option maxHeartbeats 40000000 in
theorem rm_at0 (l : Launch) (Z : State) (a0 : Array Value) (hw : ∀ d ∈ tables_1, d.before a0 Z = true) (ws : List Jvm.Cond) (va : Addr) (kv : ClassId) (r dr y0 y1 y2 y3 : Int32) (h0 : Heap) (n0 : Nat) (Z0 : n0 ≤ h0.size) (V_v : Arv Z h0 va kv .int (4 : Int32) [(.int y0), (.int y1), (.int y2), (.int y3)] (.int (0 : Int32))) :
    MetFree l (⟨"com/example/rootcast/rootcast/tree/ChildrenPlaceOfPinLaw", "at", "([IIZI)I"⟩ : MethodName) (head1 (Jvm.Cond.code (⟨"com/example/rootcast/rootcast/tree/ChildrenPlaceOfPinLaw", "at", "([IIZI)I"⟩ : MethodName) method_3_code 4 (some .int) :: ws) ({ frames := 0, cells := 0, slots := 0, locals := 0 } : Room)) (fun aa U => aa = #[(.ref va), (.int r), (.int dr), (.int (0 : Int32))] ∧ Z.Warmed39 U.vm ∧ U.heap = h0) (fun _ _ _ _ _ => True) (fun _ U o U' => ∃ v L, o = .returned v ∧ Qat0 r dr y0 y1 y2 y3 h0 n0 v U'.heap L ∧ FrameEnd U o U' L (({ frames := 0, cells := 0, slots := 0, locals := 0 } : Room).cells) (({ frames := 0, cells := 0, slots := 0, locals := 0 } : Room).slots)) := by
  refine own_body pf_6 ?_
  intro p e s m below meth c s₁ hx hby hml hown hnm hlk hret hZ X0 e0
  have N0 : Fr n0 [] := Fr.nil n0
  refine own_go (f' := (mkF m 0 #[.val (.ref va), .val (.int r), .val (.int dr), .val (.int (0 : Int32))] [])) (fun t k => castTop (ef_rm_at0 m va r dr (0 : Int32)) k) ?_
  refine own_iloadN X0 hx (pc' := 1) (hb hby d3_0) rfl rfl ?_
  by_cases hc1_1 : dr = (0 : Int32)
  · skip
    refine own_ifYes X0 hx (pc' := 17) (hb hby d3_1) (teq hc1_1).1 (by decide) (by decide) ?_
    refine own_aloadN X0 hx (pc' := 18) (hb hby d3_17) rfl rfl rfl ?_
    refine own_iloadN X0 hx (pc' := 19) (hb hby d3_18) rfl rfl ?_
    obtain ⟨cl2, Ar2, q2, S2, M2, H2, G2⟩ := id V_v
    refine own_iaload X0 hx (pc' := 20) hZ (v := y0) e0 Ar2 (inb_of S2 ⟨by decide, by decide⟩) (Has.at H2 (inb_of S2 ⟨by decide, by decide⟩) rfl) (hb hby d3_19) rfl ?_
    refine own_retI X0 hx hlk hret (hb hby d3_20) (by decide) (by decide) ?_
    exact ⟨by simp [own_sel, hc1_1], N0, e0⟩
  · skip
    refine own_ifNo X0 hx (pc' := 4) (hb hby d3_1) (feq hc1_1).1 rfl ?_
    refine own_iloadN X0 hx (pc' := 5) (hb hby d3_4) rfl rfl ?_
    refine own_iloadN X0 hx (pc' := 6) (hb hby d3_5) rfl rfl ?_
    by_cases hc6_3 : (0 : Int32) < r
    · skip
      refine own_icmpYes X0 hx (pc' := 17) (hb hby d3_6) (tlt hc6_3).1 (by decide) (by decide) ?_
      refine own_aloadN X0 hx (pc' := 18) (hb hby d3_17) rfl rfl rfl ?_
      refine own_iloadN X0 hx (pc' := 19) (hb hby d3_18) rfl rfl ?_
      obtain ⟨cl4, Ar4, q4, S4, M4, H4, G4⟩ := id V_v
      refine own_iaload X0 hx (pc' := 20) hZ (v := y0) e0 Ar4 (inb_of S4 ⟨by decide, by decide⟩) (Has.at H4 (inb_of S4 ⟨by decide, by decide⟩) rfl) (hb hby d3_19) rfl ?_
      refine own_retI X0 hx hlk hret (hb hby d3_20) (by decide) (by decide) ?_
      exact ⟨by simp [own_sel, hc1_1, hc6_3], N0, e0⟩
    · skip
      refine own_icmpNo X0 hx (pc' := 9) (hb hby d3_6) (flt hc6_3).1 rfl ?_
      refine own_aloadN X0 hx (pc' := 10) (hb hby d3_9) rfl rfl rfl ?_
      refine own_iloadN X0 hx (pc' := 11) (hb hby d3_10) rfl rfl ?_
      refine own_iconst X0 hx (pc' := 12) (1 : Int32) (hb hby d3_11) rfl rfl ?_
      refine own_iadd X0 hx (pc' := 13) (z := (1 : Int32)) (hb hby d3_12) (by decide) rfl ?_
      obtain ⟨cl5, Ar5, q5, S5, M5, H5, G5⟩ := id V_v
      refine own_iaload X0 hx (pc' := 14) hZ (v := y1) e0 Ar5 (inb_of S5 ⟨by decide, by decide⟩) (Has.at H5 (inb_of S5 ⟨by decide, by decide⟩) rfl) (hb hby d3_13) rfl ?_
      refine own_goto X0 hx (pc' := 20) (hb hby d3_14) (by decide) (by decide) ?_
      refine own_retI X0 hx hlk hret (hb hby d3_20) (by decide) (by decide) ?_
      exact ⟨by simp [own_sel, hc1_1, hc6_3], N0, e0⟩

def Qat1 (r dr y0 y1 y2 y3 : Int32) (h0 : Heap) (n0 : Nat) (v : Option Value) (h : Heap) (L : List Loc) : Prop := v = some (.int (own_sel r dr (1 : Int32) y1 y2)) ∧ Fr n0 L ∧ h = h0
theorem ef_rm_at1 (m : MethodId) (x0 : Addr) (x1 : Int32) (x2 : Int32) (x3 : Int32) : entryFrame m #[(.ref x0), (.int x1), (.int x2), (.int x3)] 4 = mkF m 0 #[.val (.ref x0), .val (.int x1), .val (.int x2), .val (.int x3)] [] := by first | (simp [entryFrame, mkF, argsToLocals, Value.category, maxLocals]; done) | rfl
set_option maxRecDepth 65536 in
set_option maxHeartbeats 40000000 in
theorem rm_at1 (l : Launch) (Z : State) (a0 : Array Value) (hw : ∀ d ∈ tables_1, d.before a0 Z = true) (ws : List Jvm.Cond) (va : Addr) (kv : ClassId) (r dr y0 y1 y2 y3 : Int32) (h0 : Heap) (n0 : Nat) (Z0 : n0 ≤ h0.size) (V_v : Arv Z h0 va kv .int (4 : Int32) [(.int y0), (.int y1), (.int y2), (.int y3)] (.int (0 : Int32))) :
    MetFree l (⟨"com/example/rootcast/rootcast/tree/ChildrenPlaceOfPinLaw", "at", "([IIZI)I"⟩ : MethodName) (head1 (Jvm.Cond.code (⟨"com/example/rootcast/rootcast/tree/ChildrenPlaceOfPinLaw", "at", "([IIZI)I"⟩ : MethodName) method_3_code 4 (some .int) :: ws) ({ frames := 0, cells := 0, slots := 0, locals := 0 } : Room)) (fun aa U => aa = #[(.ref va), (.int r), (.int dr), (.int (1 : Int32))] ∧ Z.Warmed39 U.vm ∧ U.heap = h0) (fun _ _ _ _ _ => True) (fun _ U o U' => ∃ v L, o = .returned v ∧ Qat1 r dr y0 y1 y2 y3 h0 n0 v U'.heap L ∧ FrameEnd U o U' L (({ frames := 0, cells := 0, slots := 0, locals := 0 } : Room).cells) (({ frames := 0, cells := 0, slots := 0, locals := 0 } : Room).slots)) := by
  refine own_body pf_6 ?_
  intro p e s m below meth c s₁ hx hby hml hown hnm hlk hret hZ X0 e0
  have N0 : Fr n0 [] := Fr.nil n0
  refine own_go (f' := (mkF m 0 #[.val (.ref va), .val (.int r), .val (.int dr), .val (.int (1 : Int32))] [])) (fun t k => castTop (ef_rm_at1 m va r dr (1 : Int32)) k) ?_
  refine own_iloadN X0 hx (pc' := 1) (hb hby d3_0) rfl rfl ?_
  by_cases hc1_1 : dr = (0 : Int32)
  · skip
    refine own_ifYes X0 hx (pc' := 17) (hb hby d3_1) (teq hc1_1).1 (by decide) (by decide) ?_
    refine own_aloadN X0 hx (pc' := 18) (hb hby d3_17) rfl rfl rfl ?_
    refine own_iloadN X0 hx (pc' := 19) (hb hby d3_18) rfl rfl ?_
    obtain ⟨cl2, Ar2, q2, S2, M2, H2, G2⟩ := id V_v
    refine own_iaload X0 hx (pc' := 20) hZ (v := y1) e0 Ar2 (inb_of S2 ⟨by decide, by decide⟩) (Has.at H2 (inb_of S2 ⟨by decide, by decide⟩) rfl) (hb hby d3_19) rfl ?_
    refine own_retI X0 hx hlk hret (hb hby d3_20) (by decide) (by decide) ?_
    exact ⟨by simp [own_sel, hc1_1], N0, e0⟩
  · skip
    refine own_ifNo X0 hx (pc' := 4) (hb hby d3_1) (feq hc1_1).1 rfl ?_
    refine own_iloadN X0 hx (pc' := 5) (hb hby d3_4) rfl rfl ?_
    refine own_iloadN X0 hx (pc' := 6) (hb hby d3_5) rfl rfl ?_
    by_cases hc6_3 : (1 : Int32) < r
    · skip
      refine own_icmpYes X0 hx (pc' := 17) (hb hby d3_6) (tlt hc6_3).1 (by decide) (by decide) ?_
      refine own_aloadN X0 hx (pc' := 18) (hb hby d3_17) rfl rfl rfl ?_
      refine own_iloadN X0 hx (pc' := 19) (hb hby d3_18) rfl rfl ?_
      obtain ⟨cl4, Ar4, q4, S4, M4, H4, G4⟩ := id V_v
      refine own_iaload X0 hx (pc' := 20) hZ (v := y1) e0 Ar4 (inb_of S4 ⟨by decide, by decide⟩) (Has.at H4 (inb_of S4 ⟨by decide, by decide⟩) rfl) (hb hby d3_19) rfl ?_
      refine own_retI X0 hx hlk hret (hb hby d3_20) (by decide) (by decide) ?_
      exact ⟨by simp [own_sel, hc1_1, hc6_3], N0, e0⟩
    · skip
      refine own_icmpNo X0 hx (pc' := 9) (hb hby d3_6) (flt hc6_3).1 rfl ?_
      refine own_aloadN X0 hx (pc' := 10) (hb hby d3_9) rfl rfl rfl ?_
      refine own_iloadN X0 hx (pc' := 11) (hb hby d3_10) rfl rfl ?_
      refine own_iconst X0 hx (pc' := 12) (1 : Int32) (hb hby d3_11) rfl rfl ?_
      refine own_iadd X0 hx (pc' := 13) (z := (2 : Int32)) (hb hby d3_12) (by decide) rfl ?_
      obtain ⟨cl5, Ar5, q5, S5, M5, H5, G5⟩ := id V_v
      refine own_iaload X0 hx (pc' := 14) hZ (v := y2) e0 Ar5 (inb_of S5 ⟨by decide, by decide⟩) (Has.at H5 (inb_of S5 ⟨by decide, by decide⟩) rfl) (hb hby d3_13) rfl ?_
      refine own_goto X0 hx (pc' := 20) (hb hby d3_14) (by decide) (by decide) ?_
      refine own_retI X0 hx hlk hret (hb hby d3_20) (by decide) (by decide) ?_
      exact ⟨by simp [own_sel, hc1_1, hc6_3], N0, e0⟩

def Qat2 (r dr y0 y1 y2 y3 : Int32) (h0 : Heap) (n0 : Nat) (v : Option Value) (h : Heap) (L : List Loc) : Prop := v = some (.int (own_sel r dr (2 : Int32) y2 y3)) ∧ Fr n0 L ∧ h = h0
theorem ef_rm_at2 (m : MethodId) (x0 : Addr) (x1 : Int32) (x2 : Int32) (x3 : Int32) : entryFrame m #[(.ref x0), (.int x1), (.int x2), (.int x3)] 4 = mkF m 0 #[.val (.ref x0), .val (.int x1), .val (.int x2), .val (.int x3)] [] := by first | (simp [entryFrame, mkF, argsToLocals, Value.category, maxLocals]; done) | rfl
set_option maxRecDepth 65536 in
set_option maxHeartbeats 40000000 in
theorem rm_at2 (l : Launch) (Z : State) (a0 : Array Value) (hw : ∀ d ∈ tables_1, d.before a0 Z = true) (ws : List Jvm.Cond) (va : Addr) (kv : ClassId) (r dr y0 y1 y2 y3 : Int32) (h0 : Heap) (n0 : Nat) (Z0 : n0 ≤ h0.size) (V_v : Arv Z h0 va kv .int (4 : Int32) [(.int y0), (.int y1), (.int y2), (.int y3)] (.int (0 : Int32))) :
    MetFree l (⟨"com/example/rootcast/rootcast/tree/ChildrenPlaceOfPinLaw", "at", "([IIZI)I"⟩ : MethodName) (head1 (Jvm.Cond.code (⟨"com/example/rootcast/rootcast/tree/ChildrenPlaceOfPinLaw", "at", "([IIZI)I"⟩ : MethodName) method_3_code 4 (some .int) :: ws) ({ frames := 0, cells := 0, slots := 0, locals := 0 } : Room)) (fun aa U => aa = #[(.ref va), (.int r), (.int dr), (.int (2 : Int32))] ∧ Z.Warmed39 U.vm ∧ U.heap = h0) (fun _ _ _ _ _ => True) (fun _ U o U' => ∃ v L, o = .returned v ∧ Qat2 r dr y0 y1 y2 y3 h0 n0 v U'.heap L ∧ FrameEnd U o U' L (({ frames := 0, cells := 0, slots := 0, locals := 0 } : Room).cells) (({ frames := 0, cells := 0, slots := 0, locals := 0 } : Room).slots)) := by
  refine own_body pf_6 ?_
  intro p e s m below meth c s₁ hx hby hml hown hnm hlk hret hZ X0 e0
  have N0 : Fr n0 [] := Fr.nil n0
  refine own_go (f' := (mkF m 0 #[.val (.ref va), .val (.int r), .val (.int dr), .val (.int (2 : Int32))] [])) (fun t k => castTop (ef_rm_at2 m va r dr (2 : Int32)) k) ?_
  refine own_iloadN X0 hx (pc' := 1) (hb hby d3_0) rfl rfl ?_
  by_cases hc1_1 : dr = (0 : Int32)
  · skip
    refine own_ifYes X0 hx (pc' := 17) (hb hby d3_1) (teq hc1_1).1 (by decide) (by decide) ?_
    refine own_aloadN X0 hx (pc' := 18) (hb hby d3_17) rfl rfl rfl ?_
    refine own_iloadN X0 hx (pc' := 19) (hb hby d3_18) rfl rfl ?_
    obtain ⟨cl2, Ar2, q2, S2, M2, H2, G2⟩ := id V_v
    refine own_iaload X0 hx (pc' := 20) hZ (v := y2) e0 Ar2 (inb_of S2 ⟨by decide, by decide⟩) (Has.at H2 (inb_of S2 ⟨by decide, by decide⟩) rfl) (hb hby d3_19) rfl ?_
    refine own_retI X0 hx hlk hret (hb hby d3_20) (by decide) (by decide) ?_
    exact ⟨by simp [own_sel, hc1_1], N0, e0⟩
  · skip
    refine own_ifNo X0 hx (pc' := 4) (hb hby d3_1) (feq hc1_1).1 rfl ?_
    refine own_iloadN X0 hx (pc' := 5) (hb hby d3_4) rfl rfl ?_
    refine own_iloadN X0 hx (pc' := 6) (hb hby d3_5) rfl rfl ?_
    by_cases hc6_3 : (2 : Int32) < r
    · skip
      refine own_icmpYes X0 hx (pc' := 17) (hb hby d3_6) (tlt hc6_3).1 (by decide) (by decide) ?_
      refine own_aloadN X0 hx (pc' := 18) (hb hby d3_17) rfl rfl rfl ?_
      refine own_iloadN X0 hx (pc' := 19) (hb hby d3_18) rfl rfl ?_
      obtain ⟨cl4, Ar4, q4, S4, M4, H4, G4⟩ := id V_v
      refine own_iaload X0 hx (pc' := 20) hZ (v := y2) e0 Ar4 (inb_of S4 ⟨by decide, by decide⟩) (Has.at H4 (inb_of S4 ⟨by decide, by decide⟩) rfl) (hb hby d3_19) rfl ?_
      refine own_retI X0 hx hlk hret (hb hby d3_20) (by decide) (by decide) ?_
      exact ⟨by simp [own_sel, hc1_1, hc6_3], N0, e0⟩
    · skip
      refine own_icmpNo X0 hx (pc' := 9) (hb hby d3_6) (flt hc6_3).1 rfl ?_
      refine own_aloadN X0 hx (pc' := 10) (hb hby d3_9) rfl rfl rfl ?_
      refine own_iloadN X0 hx (pc' := 11) (hb hby d3_10) rfl rfl ?_
      refine own_iconst X0 hx (pc' := 12) (1 : Int32) (hb hby d3_11) rfl rfl ?_
      refine own_iadd X0 hx (pc' := 13) (z := (3 : Int32)) (hb hby d3_12) (by decide) rfl ?_
      obtain ⟨cl5, Ar5, q5, S5, M5, H5, G5⟩ := id V_v
      refine own_iaload X0 hx (pc' := 14) hZ (v := y3) e0 Ar5 (inb_of S5 ⟨by decide, by decide⟩) (Has.at H5 (inb_of S5 ⟨by decide, by decide⟩) rfl) (hb hby d3_13) rfl ?_
      refine own_goto X0 hx (pc' := 20) (hb hby d3_14) (by decide) (by decide) ?_
      refine own_retI X0 hx hlk hret (hb hby d3_20) (by decide) (by decide) ?_
      exact ⟨by simp [own_sel, hc1_1, hc6_3], N0, e0⟩

theorem d4_0 : decode prog_127_method_6_code 0 = .ok (.iconst (-1), 1) := by decide +kernel
theorem d4_1 : decode prog_127_method_6_code 1 = .ok (.istore_n 2, 1) := by decide +kernel
theorem d4_2 : decode prog_127_method_6_code 2 = .ok (.iconst 0, 1) := by decide +kernel
theorem d4_3 : decode prog_127_method_6_code 3 = .ok (.istore_n 3, 1) := by decide +kernel
theorem d4_4 : decode prog_127_method_6_code 4 = .ok (.iload_n 3, 1) := by decide +kernel
theorem d4_5 : decode prog_127_method_6_code 5 = .ok (.aload_n 0, 1) := by decide +kernel
theorem d4_6 : decode prog_127_method_6_code 6 = .ok (.getfield 35, 3) := by decide +kernel
theorem d4_9 : decode prog_127_method_6_code 9 = .ok (.if_icmp .ge 29, 3) := by decide +kernel
theorem d4_12 : decode prog_127_method_6_code 12 = .ok (.iload_n 2, 1) := by decide +kernel
theorem d4_13 : decode prog_127_method_6_code 13 = .ok (.ifCond .ge 25, 3) := by decide +kernel
theorem d4_16 : decode prog_127_method_6_code 16 = .ok (.aload_n 0, 1) := by decide +kernel
theorem d4_17 : decode prog_127_method_6_code 17 = .ok (.getfield 13, 3) := by decide +kernel
theorem d4_20 : decode prog_127_method_6_code 20 = .ok (.iload_n 3, 1) := by decide +kernel
theorem d4_21 : decode prog_127_method_6_code 21 = .ok (.iaload, 1) := by decide +kernel
theorem d4_22 : decode prog_127_method_6_code 22 = .ok (.iload_n 1, 1) := by decide +kernel
theorem d4_23 : decode prog_127_method_6_code 23 = .ok (.if_icmp .ne 7, 3) := by decide +kernel
theorem d4_26 : decode prog_127_method_6_code 26 = .ok (.iload_n 3, 1) := by decide +kernel
theorem d4_27 : decode prog_127_method_6_code 27 = .ok (.goto 4, 3) := by decide +kernel
theorem d4_30 : decode prog_127_method_6_code 30 = .ok (.iconst (-1), 1) := by decide +kernel
theorem d4_31 : decode prog_127_method_6_code 31 = .ok (.istore_n 2, 1) := by decide +kernel
theorem d4_32 : decode prog_127_method_6_code 32 = .ok (.iinc 3 1, 3) := by decide +kernel
theorem d4_35 : decode prog_127_method_6_code 35 = .ok (.goto (-31), 3) := by decide +kernel
theorem d4_38 : decode prog_127_method_6_code 38 = .ok (.iload_n 2, 1) := by decide +kernel
theorem d4_39 : decode prog_127_method_6_code 39 = .ok (.ireturn, 1) := by decide +kernel
def Qplace (n x0 x1 x2 q : Int32) (h0 : Heap) (n0 : Nat) (v : Option Value) (h : Heap) (L : List Loc) : Prop := v = some (.int (own_place n x0 x1 x2 q)) ∧ Fr n0 L ∧ h = h0
theorem ef_rm_place (m : MethodId) (x0 : Addr) (x1 : Int32) : entryFrame m #[(.ref x0), (.int x1)] 4 = mkF m 0 #[.val (.ref x0), .val (.int x1), .unset, .unset] [] := by first | (simp [entryFrame, mkF, argsToLocals, Value.category, maxLocals]; done) | rfl
theorem pf_7 : plainFor (⟨"com/example/rootcast/rootcast/tree/Children", "placeOf", "(I)I"⟩ : MethodName) = true := by apply plainFor_of_name; first | (simp [plainName, overriddenIn]; done) | decide +kernel
set_option maxRecDepth 65536 in
set_option maxHeartbeats 40000000 in
theorem rm_place (l : Launch) (Z : State) (a0 : Array Value) (hw : ∀ d ∈ tables_1, d.before a0 Z = true) (ws : List Jvm.Cond) (a b1 : Addr) (k1 : ClassId) (z n x0 x1 x2 q : Int32) (h0 : Heap) (n0 : Nat) (Z0 : n0 ≤ h0.size) (hn : n.toInt ≤ 3) (hz : z.toInt = 3 ∨ z.toInt = 4) (F_c : Fld Z h0 a "com/example/rootcast/rootcast/tree/Children" "count" "I" (.int n)) (F_p : Fld Z h0 a "com/example/rootcast/rootcast/tree/Children" "peers" "[I" (.ref b1)) (V_1 : Arv Z h0 b1 k1 .int z [(.int x0), (.int x1), (.int x2)] (.int (0 : Int32))) :
    MetFree l (⟨"com/example/rootcast/rootcast/tree/Children", "placeOf", "(I)I"⟩ : MethodName) (head1 (Jvm.Cond.code (⟨"com/example/rootcast/rootcast/tree/Children", "placeOf", "(I)I"⟩ : MethodName) prog_127_method_6_code 4 (some .int) :: ws) ({ frames := 0, cells := 0, slots := 0, locals := 0 } : Room)) (fun aa U => aa = #[(.ref a), (.int q)] ∧ Z.Warmed39 U.vm ∧ U.heap = h0) (fun _ _ _ _ _ => True) (fun _ U o U' => ∃ v L, o = .returned v ∧ Qplace n x0 x1 x2 q h0 n0 v U'.heap L ∧ FrameEnd U o U' L (({ frames := 0, cells := 0, slots := 0, locals := 0 } : Room).cells) (({ frames := 0, cells := 0, slots := 0, locals := 0 } : Room).slots)) := by
  refine own_body pf_7 ?_
  intro p e s m below meth c s₁ hx hby hml hown hnm hlk hret hZ X0 e0
  have N0 : Fr n0 [] := Fr.nil n0
  refine own_go (f' := (mkF m 0 #[.val (.ref a), .val (.int q), .unset, .unset] [])) (fun t k => castTop (ef_rm_place m a q) k) ?_
  refine own_iconst X0 hx (pc' := 1) (-1 : Int32) (hb hby d4_0) rfl rfl ?_
  refine own_istoreN X0 hx (pc' := 2) (Ls' := #[.val (.ref a), .val (.int q), .val (.int (-1 : Int32)), .unset]) (hb hby d4_1) rfl rfl ?_
  refine own_iconst X0 hx (pc' := 3) (0 : Int32) (hb hby d4_2) rfl rfl ?_
  refine own_istoreN X0 hx (pc' := 4) (Ls' := #[.val (.ref a), .val (.int q), .val (.int (-1 : Int32)), .val (.int (0 : Int32))]) (hb hby d4_3) rfl rfl ?_
  refine own_iloadN X0 hx (pc' := 5) (hb hby d4_4) rfl rfl ?_
  refine own_aloadN X0 hx (pc' := 6) (hb hby d4_5) rfl rfl rfl ?_
  refine own_getF X0 hx (pc' := 9) hZ hown (host := "") (Or.inl (Wd35 hw)) Via.refl e0 F_c (hb hby d4_6) rfl (fun T1 X1 e1 => ?_)
  by_cases hc9_2 : (0 : Int32) < n
  · skip
    refine own_icmpNo X1 hx (pc' := 12) (hb hby d4_9) (tlt hc9_2).2.1 rfl ?_
    refine own_iloadN X1 hx (pc' := 13) (hb hby d4_12) rfl rfl ?_
    refine own_ifNo X1 hx (pc' := 16) (hb hby d4_13) (tlt (by decide : (-1 : Int32) < (0 : Int32))).2.1 rfl ?_
    refine own_aloadN X1 hx (pc' := 17) (hb hby d4_16) rfl rfl rfl ?_
    refine own_getF X1 hx (pc' := 20) hZ hown (host := "") (Or.inl (Wd11 hw)) Via.refl e1 F_p (hb hby d4_17) rfl (fun T3 X3 e3 => ?_)
    refine own_iloadN X3 hx (pc' := 21) (hb hby d4_20) rfl rfl ?_
    have hi0 : ¬ (0 : Int32) < 0 ∧ (0 : Int32) < z := ⟨by decide, by rw [Int32.lt_iff_toInt_lt, own_t32_0]; omega⟩
    obtain ⟨cl4, Ar4, q4, S4, M4, H4, G4⟩ := id V_1
    refine own_iaload X3 hx (pc' := 22) hZ (v := x0) e3 Ar4 (inb_of S4 hi0) (Has.at H4 (inb_of S4 hi0) rfl) (hb hby d4_21) rfl ?_
    refine own_iloadN X3 hx (pc' := 23) (hb hby d4_22) rfl rfl ?_
    by_cases hc23_5 : x0 = q
    · skip
      refine own_icmpNo X3 hx (pc' := 26) (hb hby d4_23) (teq hc23_5).2 rfl ?_
      refine own_iloadN X3 hx (pc' := 27) (hb hby d4_26) rfl rfl ?_
      refine own_goto X3 hx (pc' := 31) (hb hby d4_27) (by decide) (by decide) ?_
      refine own_istoreN X3 hx (pc' := 32) (Ls' := #[.val (.ref a), .val (.int q), .val (.int (0 : Int32)), .val (.int (0 : Int32))]) (hb hby d4_31) rfl rfl ?_
      refine own_iinc X3 hx (pc' := 35) (Ls' := #[.val (.ref a), .val (.int q), .val (.int (0 : Int32)), .val (.int (1 : Int32))]) (hb hby d4_32) rfl rfl rfl ?_
      refine own_goto X3 hx (pc' := 4) (hb hby d4_35) (by decide) (by decide) ?_
      refine own_iloadN X3 hx (pc' := 5) (hb hby d4_4) rfl rfl ?_
      refine own_aloadN X3 hx (pc' := 6) (hb hby d4_5) rfl rfl rfl ?_
      refine own_getF X3 hx (pc' := 9) hZ hown (host := "") (Or.inl (Wd35 hw)) Via.refl e3 F_c (hb hby d4_6) rfl (fun T6 X6 e6 => ?_)
      by_cases hc9_7 : (1 : Int32) < n
      · skip
        refine own_icmpNo X6 hx (pc' := 12) (hb hby d4_9) (tlt hc9_7).2.1 rfl ?_
        refine own_iloadN X6 hx (pc' := 13) (hb hby d4_12) rfl rfl ?_
        refine own_ifYes X6 hx (pc' := 38) (hb hby d4_13) (flt (by decide : ¬ ((0 : Int32) < (0 : Int32)))).2.1 (by decide) (by decide) ?_
        refine own_iloadN X6 hx (pc' := 39) (hb hby d4_38) rfl rfl ?_
        refine own_retI X6 hx hlk hret (hb hby d4_39) (by decide) (by decide) ?_
        refine ⟨congrArg (fun x => some (Value.int x)) ?_, N0, e6⟩
        unfold own_place
        have q0 := rng32 n
        have a0 := hc9_2
        have a1 := hc23_5
        have a2 := hc9_7
        simp only [Int32.lt_iff_toInt_lt, own_t32_m1, own_t32_0, own_t32_1, own_t32_2, own_t32_3, own_t32_4, own_t32_5] at a0 a1 a2 hn ⊢
        repeat' split
        all_goals first | rfl | omega | (exfalso; simp_all; done) | (exfalso; simp_all; omega)
      · skip
        refine own_icmpYes X6 hx (pc' := 38) (hb hby d4_9) (flt hc9_7).2.1 (by decide) (by decide) ?_
        refine own_iloadN X6 hx (pc' := 39) (hb hby d4_38) rfl rfl ?_
        refine own_retI X6 hx hlk hret (hb hby d4_39) (by decide) (by decide) ?_
        refine ⟨congrArg (fun x => some (Value.int x)) ?_, N0, e6⟩
        unfold own_place
        have q0 := rng32 n
        have a0 := hc9_2
        have a1 := hc23_5
        have a2 := hc9_7
        simp only [Int32.lt_iff_toInt_lt, own_t32_m1, own_t32_0, own_t32_1, own_t32_2, own_t32_3, own_t32_4, own_t32_5] at a0 a1 a2 hn ⊢
        repeat' split
        all_goals first | rfl | omega | (exfalso; simp_all; done) | (exfalso; simp_all; omega)
    · skip
      refine own_icmpYes X3 hx (pc' := 30) (hb hby d4_23) (feq hc23_5).2 (by decide) (by decide) ?_
      refine own_iconst X3 hx (pc' := 31) (-1 : Int32) (hb hby d4_30) rfl rfl ?_
      refine own_istoreN X3 hx (pc' := 32) (Ls' := #[.val (.ref a), .val (.int q), .val (.int (-1 : Int32)), .val (.int (0 : Int32))]) (hb hby d4_31) rfl rfl ?_
      refine own_iinc X3 hx (pc' := 35) (Ls' := #[.val (.ref a), .val (.int q), .val (.int (-1 : Int32)), .val (.int (1 : Int32))]) (hb hby d4_32) rfl rfl rfl ?_
      refine own_goto X3 hx (pc' := 4) (hb hby d4_35) (by decide) (by decide) ?_
      refine own_iloadN X3 hx (pc' := 5) (hb hby d4_4) rfl rfl ?_
      refine own_aloadN X3 hx (pc' := 6) (hb hby d4_5) rfl rfl rfl ?_
      refine own_getF X3 hx (pc' := 9) hZ hown (host := "") (Or.inl (Wd35 hw)) Via.refl e3 F_c (hb hby d4_6) rfl (fun T8 X8 e8 => ?_)
      by_cases hc9_9 : (1 : Int32) < n
      · skip
        refine own_icmpNo X8 hx (pc' := 12) (hb hby d4_9) (tlt hc9_9).2.1 rfl ?_
        refine own_iloadN X8 hx (pc' := 13) (hb hby d4_12) rfl rfl ?_
        refine own_ifNo X8 hx (pc' := 16) (hb hby d4_13) (tlt (by decide : (-1 : Int32) < (0 : Int32))).2.1 rfl ?_
        refine own_aloadN X8 hx (pc' := 17) (hb hby d4_16) rfl rfl rfl ?_
        refine own_getF X8 hx (pc' := 20) hZ hown (host := "") (Or.inl (Wd11 hw)) Via.refl e8 F_p (hb hby d4_17) rfl (fun T10 X10 e10 => ?_)
        refine own_iloadN X10 hx (pc' := 21) (hb hby d4_20) rfl rfl ?_
        have hi1 : ¬ (1 : Int32) < 0 ∧ (1 : Int32) < z := ⟨by decide, by rw [Int32.lt_iff_toInt_lt, own_t32_1]; omega⟩
        obtain ⟨cl11, Ar11, q11, S11, M11, H11, G11⟩ := id V_1
        refine own_iaload X10 hx (pc' := 22) hZ (v := x1) e10 Ar11 (inb_of S11 hi1) (Has.at H11 (inb_of S11 hi1) rfl) (hb hby d4_21) rfl ?_
        refine own_iloadN X10 hx (pc' := 23) (hb hby d4_22) rfl rfl ?_
        by_cases hc23_12 : x1 = q
        · skip
          refine own_icmpNo X10 hx (pc' := 26) (hb hby d4_23) (teq hc23_12).2 rfl ?_
          refine own_iloadN X10 hx (pc' := 27) (hb hby d4_26) rfl rfl ?_
          refine own_goto X10 hx (pc' := 31) (hb hby d4_27) (by decide) (by decide) ?_
          refine own_istoreN X10 hx (pc' := 32) (Ls' := #[.val (.ref a), .val (.int q), .val (.int (1 : Int32)), .val (.int (1 : Int32))]) (hb hby d4_31) rfl rfl ?_
          refine own_iinc X10 hx (pc' := 35) (Ls' := #[.val (.ref a), .val (.int q), .val (.int (1 : Int32)), .val (.int (2 : Int32))]) (hb hby d4_32) rfl rfl rfl ?_
          refine own_goto X10 hx (pc' := 4) (hb hby d4_35) (by decide) (by decide) ?_
          refine own_iloadN X10 hx (pc' := 5) (hb hby d4_4) rfl rfl ?_
          refine own_aloadN X10 hx (pc' := 6) (hb hby d4_5) rfl rfl rfl ?_
          refine own_getF X10 hx (pc' := 9) hZ hown (host := "") (Or.inl (Wd35 hw)) Via.refl e10 F_c (hb hby d4_6) rfl (fun T13 X13 e13 => ?_)
          by_cases hc9_14 : (2 : Int32) < n
          · skip
            refine own_icmpNo X13 hx (pc' := 12) (hb hby d4_9) (tlt hc9_14).2.1 rfl ?_
            refine own_iloadN X13 hx (pc' := 13) (hb hby d4_12) rfl rfl ?_
            refine own_ifYes X13 hx (pc' := 38) (hb hby d4_13) (flt (by decide : ¬ ((1 : Int32) < (0 : Int32)))).2.1 (by decide) (by decide) ?_
            refine own_iloadN X13 hx (pc' := 39) (hb hby d4_38) rfl rfl ?_
            refine own_retI X13 hx hlk hret (hb hby d4_39) (by decide) (by decide) ?_
            refine ⟨congrArg (fun x => some (Value.int x)) ?_, N0, e13⟩
            unfold own_place
            have q0 := rng32 n
            have a0 := hc9_2
            have a1 := hc23_5
            have a2 := hc9_9
            have a3 := hc23_12
            have a4 := hc9_14
            simp only [Int32.lt_iff_toInt_lt, own_t32_m1, own_t32_0, own_t32_1, own_t32_2, own_t32_3, own_t32_4, own_t32_5] at a0 a1 a2 a3 a4 hn ⊢
            repeat' split
            all_goals first | rfl | omega | (exfalso; simp_all; done) | (exfalso; simp_all; omega)
          · skip
            refine own_icmpYes X13 hx (pc' := 38) (hb hby d4_9) (flt hc9_14).2.1 (by decide) (by decide) ?_
            refine own_iloadN X13 hx (pc' := 39) (hb hby d4_38) rfl rfl ?_
            refine own_retI X13 hx hlk hret (hb hby d4_39) (by decide) (by decide) ?_
            refine ⟨congrArg (fun x => some (Value.int x)) ?_, N0, e13⟩
            unfold own_place
            have q0 := rng32 n
            have a0 := hc9_2
            have a1 := hc23_5
            have a2 := hc9_9
            have a3 := hc23_12
            have a4 := hc9_14
            simp only [Int32.lt_iff_toInt_lt, own_t32_m1, own_t32_0, own_t32_1, own_t32_2, own_t32_3, own_t32_4, own_t32_5] at a0 a1 a2 a3 a4 hn ⊢
            repeat' split
            all_goals first | rfl | omega | (exfalso; simp_all; done) | (exfalso; simp_all; omega)
        · skip
          refine own_icmpYes X10 hx (pc' := 30) (hb hby d4_23) (feq hc23_12).2 (by decide) (by decide) ?_
          refine own_iconst X10 hx (pc' := 31) (-1 : Int32) (hb hby d4_30) rfl rfl ?_
          refine own_istoreN X10 hx (pc' := 32) (Ls' := #[.val (.ref a), .val (.int q), .val (.int (-1 : Int32)), .val (.int (1 : Int32))]) (hb hby d4_31) rfl rfl ?_
          refine own_iinc X10 hx (pc' := 35) (Ls' := #[.val (.ref a), .val (.int q), .val (.int (-1 : Int32)), .val (.int (2 : Int32))]) (hb hby d4_32) rfl rfl rfl ?_
          refine own_goto X10 hx (pc' := 4) (hb hby d4_35) (by decide) (by decide) ?_
          refine own_iloadN X10 hx (pc' := 5) (hb hby d4_4) rfl rfl ?_
          refine own_aloadN X10 hx (pc' := 6) (hb hby d4_5) rfl rfl rfl ?_
          refine own_getF X10 hx (pc' := 9) hZ hown (host := "") (Or.inl (Wd35 hw)) Via.refl e10 F_c (hb hby d4_6) rfl (fun T15 X15 e15 => ?_)
          by_cases hc9_16 : (2 : Int32) < n
          · skip
            refine own_icmpNo X15 hx (pc' := 12) (hb hby d4_9) (tlt hc9_16).2.1 rfl ?_
            refine own_iloadN X15 hx (pc' := 13) (hb hby d4_12) rfl rfl ?_
            refine own_ifNo X15 hx (pc' := 16) (hb hby d4_13) (tlt (by decide : (-1 : Int32) < (0 : Int32))).2.1 rfl ?_
            refine own_aloadN X15 hx (pc' := 17) (hb hby d4_16) rfl rfl rfl ?_
            refine own_getF X15 hx (pc' := 20) hZ hown (host := "") (Or.inl (Wd11 hw)) Via.refl e15 F_p (hb hby d4_17) rfl (fun T17 X17 e17 => ?_)
            refine own_iloadN X17 hx (pc' := 21) (hb hby d4_20) rfl rfl ?_
            have hi2 : ¬ (2 : Int32) < 0 ∧ (2 : Int32) < z := ⟨by decide, by rw [Int32.lt_iff_toInt_lt, own_t32_2]; omega⟩
            obtain ⟨cl18, Ar18, q18, S18, M18, H18, G18⟩ := id V_1
            refine own_iaload X17 hx (pc' := 22) hZ (v := x2) e17 Ar18 (inb_of S18 hi2) (Has.at H18 (inb_of S18 hi2) rfl) (hb hby d4_21) rfl ?_
            refine own_iloadN X17 hx (pc' := 23) (hb hby d4_22) rfl rfl ?_
            by_cases hc23_19 : x2 = q
            · skip
              refine own_icmpNo X17 hx (pc' := 26) (hb hby d4_23) (teq hc23_19).2 rfl ?_
              refine own_iloadN X17 hx (pc' := 27) (hb hby d4_26) rfl rfl ?_
              refine own_goto X17 hx (pc' := 31) (hb hby d4_27) (by decide) (by decide) ?_
              refine own_istoreN X17 hx (pc' := 32) (Ls' := #[.val (.ref a), .val (.int q), .val (.int (2 : Int32)), .val (.int (2 : Int32))]) (hb hby d4_31) rfl rfl ?_
              refine own_iinc X17 hx (pc' := 35) (Ls' := #[.val (.ref a), .val (.int q), .val (.int (2 : Int32)), .val (.int (3 : Int32))]) (hb hby d4_32) rfl rfl rfl ?_
              refine own_goto X17 hx (pc' := 4) (hb hby d4_35) (by decide) (by decide) ?_
              refine own_iloadN X17 hx (pc' := 5) (hb hby d4_4) rfl rfl ?_
              refine own_aloadN X17 hx (pc' := 6) (hb hby d4_5) rfl rfl rfl ?_
              refine own_getF X17 hx (pc' := 9) hZ hown (host := "") (Or.inl (Wd35 hw)) Via.refl e17 F_c (hb hby d4_6) rfl (fun T20 X20 e20 => ?_)
              by_cases hc9_21 : (3 : Int32) < n
              · skip
                exact absurd hc9_21 (by rw [Int32.lt_iff_toInt_lt, own_t32_3]; omega)
              · skip
                refine own_icmpYes X20 hx (pc' := 38) (hb hby d4_9) (flt hc9_21).2.1 (by decide) (by decide) ?_
                refine own_iloadN X20 hx (pc' := 39) (hb hby d4_38) rfl rfl ?_
                refine own_retI X20 hx hlk hret (hb hby d4_39) (by decide) (by decide) ?_
                refine ⟨congrArg (fun x => some (Value.int x)) ?_, N0, e20⟩
                unfold own_place
                have q0 := rng32 n
                have a0 := hc9_2
                have a1 := hc23_5
                have a2 := hc9_9
                have a3 := hc23_12
                have a4 := hc9_16
                have a5 := hc23_19
                have a6 := hc9_21
                simp only [Int32.lt_iff_toInt_lt, own_t32_m1, own_t32_0, own_t32_1, own_t32_2, own_t32_3, own_t32_4, own_t32_5] at a0 a1 a2 a3 a4 a5 a6 hn ⊢
                repeat' split
                all_goals first | rfl | omega | (exfalso; simp_all; done) | (exfalso; simp_all; omega)
            · skip
              refine own_icmpYes X17 hx (pc' := 30) (hb hby d4_23) (feq hc23_19).2 (by decide) (by decide) ?_
              refine own_iconst X17 hx (pc' := 31) (-1 : Int32) (hb hby d4_30) rfl rfl ?_
              refine own_istoreN X17 hx (pc' := 32) (Ls' := #[.val (.ref a), .val (.int q), .val (.int (-1 : Int32)), .val (.int (2 : Int32))]) (hb hby d4_31) rfl rfl ?_
              refine own_iinc X17 hx (pc' := 35) (Ls' := #[.val (.ref a), .val (.int q), .val (.int (-1 : Int32)), .val (.int (3 : Int32))]) (hb hby d4_32) rfl rfl rfl ?_
              refine own_goto X17 hx (pc' := 4) (hb hby d4_35) (by decide) (by decide) ?_
              refine own_iloadN X17 hx (pc' := 5) (hb hby d4_4) rfl rfl ?_
              refine own_aloadN X17 hx (pc' := 6) (hb hby d4_5) rfl rfl rfl ?_
              refine own_getF X17 hx (pc' := 9) hZ hown (host := "") (Or.inl (Wd35 hw)) Via.refl e17 F_c (hb hby d4_6) rfl (fun T22 X22 e22 => ?_)
              by_cases hc9_23 : (3 : Int32) < n
              · skip
                exact absurd hc9_23 (by rw [Int32.lt_iff_toInt_lt, own_t32_3]; omega)
              · skip
                refine own_icmpYes X22 hx (pc' := 38) (hb hby d4_9) (flt hc9_23).2.1 (by decide) (by decide) ?_
                refine own_iloadN X22 hx (pc' := 39) (hb hby d4_38) rfl rfl ?_
                refine own_retI X22 hx hlk hret (hb hby d4_39) (by decide) (by decide) ?_
                refine ⟨congrArg (fun x => some (Value.int x)) ?_, N0, e22⟩
                unfold own_place
                have q0 := rng32 n
                have a0 := hc9_2
                have a1 := hc23_5
                have a2 := hc9_9
                have a3 := hc23_12
                have a4 := hc9_16
                have a5 := hc23_19
                have a6 := hc9_23
                simp only [Int32.lt_iff_toInt_lt, own_t32_m1, own_t32_0, own_t32_1, own_t32_2, own_t32_3, own_t32_4, own_t32_5] at a0 a1 a2 a3 a4 a5 a6 hn ⊢
                repeat' split
                all_goals first | rfl | omega | (exfalso; simp_all; done) | (exfalso; simp_all; omega)
          · skip
            refine own_icmpYes X15 hx (pc' := 38) (hb hby d4_9) (flt hc9_16).2.1 (by decide) (by decide) ?_
            refine own_iloadN X15 hx (pc' := 39) (hb hby d4_38) rfl rfl ?_
            refine own_retI X15 hx hlk hret (hb hby d4_39) (by decide) (by decide) ?_
            refine ⟨congrArg (fun x => some (Value.int x)) ?_, N0, e15⟩
            unfold own_place
            have q0 := rng32 n
            have a0 := hc9_2
            have a1 := hc23_5
            have a2 := hc9_9
            have a3 := hc23_12
            have a4 := hc9_16
            simp only [Int32.lt_iff_toInt_lt, own_t32_m1, own_t32_0, own_t32_1, own_t32_2, own_t32_3, own_t32_4, own_t32_5] at a0 a1 a2 a3 a4 hn ⊢
            repeat' split
            all_goals first | rfl | omega | (exfalso; simp_all; done) | (exfalso; simp_all; omega)
      · skip
        refine own_icmpYes X8 hx (pc' := 38) (hb hby d4_9) (flt hc9_9).2.1 (by decide) (by decide) ?_
        refine own_iloadN X8 hx (pc' := 39) (hb hby d4_38) rfl rfl ?_
        refine own_retI X8 hx hlk hret (hb hby d4_39) (by decide) (by decide) ?_
        refine ⟨congrArg (fun x => some (Value.int x)) ?_, N0, e8⟩
        unfold own_place
        have q0 := rng32 n
        have a0 := hc9_2
        have a1 := hc23_5
        have a2 := hc9_9
        simp only [Int32.lt_iff_toInt_lt, own_t32_m1, own_t32_0, own_t32_1, own_t32_2, own_t32_3, own_t32_4, own_t32_5] at a0 a1 a2 hn ⊢
        repeat' split
        all_goals first | rfl | omega | (exfalso; simp_all; done) | (exfalso; simp_all; omega)
  · skip
    refine own_icmpYes X1 hx (pc' := 38) (hb hby d4_9) (flt hc9_2).2.1 (by decide) (by decide) ?_
    refine own_iloadN X1 hx (pc' := 39) (hb hby d4_38) rfl rfl ?_
    refine own_retI X1 hx hlk hret (hb hby d4_39) (by decide) (by decide) ?_
    refine ⟨congrArg (fun x => some (Value.int x)) ?_, N0, e1⟩
    unfold own_place
    have q0 := rng32 n
    have a0 := hc9_2
    simp only [Int32.lt_iff_toInt_lt, own_t32_m1, own_t32_0, own_t32_1, own_t32_2, own_t32_3, own_t32_4, own_t32_5] at a0 hn ⊢
    repeat' split
    all_goals first | rfl | omega | (exfalso; simp_all; done) | (exfalso; simp_all; omega)

def Qplace0 (h0 : Heap) (n0 : Nat) (v : Option Value) (h : Heap) (L : List Loc) : Prop := v = some (.int (-1 : Int32)) ∧ Fr n0 L ∧ h = h0
theorem ef_rm_place0 (m : MethodId) (x0 : Addr) (x1 : Int32) : entryFrame m #[(.ref x0), (.int x1)] 4 = mkF m 0 #[.val (.ref x0), .val (.int x1), .unset, .unset] [] := by first | (simp [entryFrame, mkF, argsToLocals, Value.category, maxLocals]; done) | rfl
set_option maxRecDepth 65536 in
set_option maxHeartbeats 40000000 in
theorem rm_place0 (l : Launch) (Z : State) (a0 : Array Value) (hw : ∀ d ∈ tables_1, d.before a0 Z = true) (ws : List Jvm.Cond) (a : Addr) (q : Int32) (h0 : Heap) (n0 : Nat) (Z0 : n0 ≤ h0.size) (F_c : Fld Z h0 a "com/example/rootcast/rootcast/tree/Children" "count" "I" (.int (0 : Int32))) :
    MetFree l (⟨"com/example/rootcast/rootcast/tree/Children", "placeOf", "(I)I"⟩ : MethodName) (head1 (Jvm.Cond.code (⟨"com/example/rootcast/rootcast/tree/Children", "placeOf", "(I)I"⟩ : MethodName) prog_127_method_6_code 4 (some .int) :: ws) ({ frames := 0, cells := 0, slots := 0, locals := 0 } : Room)) (fun aa U => aa = #[(.ref a), (.int q)] ∧ Z.Warmed39 U.vm ∧ U.heap = h0) (fun _ _ _ _ _ => True) (fun _ U o U' => ∃ v L, o = .returned v ∧ Qplace0 h0 n0 v U'.heap L ∧ FrameEnd U o U' L (({ frames := 0, cells := 0, slots := 0, locals := 0 } : Room).cells) (({ frames := 0, cells := 0, slots := 0, locals := 0 } : Room).slots)) := by
  refine own_body pf_7 ?_
  intro p e s m below meth c s₁ hx hby hml hown hnm hlk hret hZ X0 e0
  have N0 : Fr n0 [] := Fr.nil n0
  refine own_go (f' := (mkF m 0 #[.val (.ref a), .val (.int q), .unset, .unset] [])) (fun t k => castTop (ef_rm_place0 m a q) k) ?_
  refine own_iconst X0 hx (pc' := 1) (-1 : Int32) (hb hby d4_0) rfl rfl ?_
  refine own_istoreN X0 hx (pc' := 2) (Ls' := #[.val (.ref a), .val (.int q), .val (.int (-1 : Int32)), .unset]) (hb hby d4_1) rfl rfl ?_
  refine own_iconst X0 hx (pc' := 3) (0 : Int32) (hb hby d4_2) rfl rfl ?_
  refine own_istoreN X0 hx (pc' := 4) (Ls' := #[.val (.ref a), .val (.int q), .val (.int (-1 : Int32)), .val (.int (0 : Int32))]) (hb hby d4_3) rfl rfl ?_
  refine own_iloadN X0 hx (pc' := 5) (hb hby d4_4) rfl rfl ?_
  refine own_aloadN X0 hx (pc' := 6) (hb hby d4_5) rfl rfl rfl ?_
  refine own_getF X0 hx (pc' := 9) hZ hown (host := "") (Or.inl (Wd35 hw)) Via.refl e0 F_c (hb hby d4_6) rfl (fun T1 X1 e1 => ?_)
  refine own_icmpYes X1 hx (pc' := 38) (hb hby d4_9) (flt (by decide : ¬ ((0 : Int32) < (0 : Int32)))).2.1 (by decide) (by decide) ?_
  refine own_iloadN X1 hx (pc' := 39) (hb hby d4_38) rfl rfl ?_
  refine own_retI X1 hx hlk hret (hb hby d4_39) (by decide) (by decide) ?_
  exact ⟨rfl, N0, e1⟩

def Q0 (n0 : Nat) (v : Option Value) (h : Heap) (L : List Loc) : Prop := v = some (.int 1) ∧ Fr n0 L
theorem ef_rm0 (m : MethodId) (x0 : Int32) (x1 : Int32) (x2 : Int32) (x3 : Int32) (x4 : Int32) : entryFrame m #[(.int x0), (.int x1), (.int x2), (.int x3), (.int x4)] maxLocals = mkF m 0 #[.val (.int x0), .val (.int x1), .val (.int x2), .val (.int x3), .val (.int x4), .unset, .unset, .unset, .unset, .unset, .unset, .unset, .unset, .unset, .unset, .unset, .unset, .unset] [] := by first | (simp [entryFrame, mkF, argsToLocals, Value.category, maxLocals]; done) | rfl
theorem pf_8 : plainFor (⟨"com/example/rootcast/rootcast/tree/ChildrenPlaceOfPinLaw", "law", "(IIIII)Z"⟩ : MethodName) = true := by apply plainFor_of_name; first | (simp [plainName, overriddenIn]; done) | decide +kernel
theorem Wd29 {a0 : Array Value} {Z : State} (hw : ∀ d ∈ tables_1, d.before a0 Z = true) : (Jvm.Cond.code ({ cls := "com/example/rootcast/rootcast/tree/ChildrenPlaceOfPinLaw", name := "at", desc := "([IIZI)I" } : Jvm.MethodName) method_3_code (4 : Nat) (Option.some Jvm.ClassFile.FieldType.int)).before a0 Z = true := hw _ (List.mem_of_getElem? (i := 29) rfl)
theorem Wd28 {a0 : Array Value} {Z : State} (hw : ∀ d ∈ tables_1, d.before a0 Z = true) : (Jvm.Cond.initialized "com/example/rootcast/rootcast/tree/ChildrenPlaceOfPinLaw").before a0 Z = true := hw _ (List.mem_of_getElem? (i := 28) rfl)
theorem pd_2 : parseMethodDescriptor "([IIZI)I" = some ⟨[(.array .int), .int, .boolean, .int], some .int⟩ := by decide +kernel
theorem Wd26 {a0 : Array Value} {Z : State} (hw : ∀ d ∈ tables_1, d.before a0 Z = true) : (Jvm.Cond.methodLink "com/example/rootcast/rootcast/tree/ChildrenPlaceOfPinLaw" (19 : Nat) ({ cls := "com/example/rootcast/rootcast/tree/ChildrenPlaceOfPinLaw", name := "at", desc := "([IIZI)I" } : Jvm.MethodName)).before a0 Z = true := hw _ (List.mem_of_getElem? (i := 26) rfl)
theorem Wd27 {a0 : Array Value} {Z : State} (hw : ∀ d ∈ tables_1, d.before a0 Z = true) : (Jvm.Cond.static ({ cls := "com/example/rootcast/rootcast/tree/ChildrenPlaceOfPinLaw", name := "at", desc := "([IIZI)I" } : Jvm.MethodName)).before a0 Z = true := hw _ (List.mem_of_getElem? (i := 27) rfl)
theorem Wd34 {a0 : Array Value} {Z : State} (hw : ∀ d ∈ tables_1, d.before a0 Z = true) : (Jvm.Cond.code ({ cls := "com/example/rootcast/rootcast/tree/Children", name := "placeOf", desc := "(I)I" } : Jvm.MethodName) prog_127_method_6_code (4 : Nat) (Option.some Jvm.ClassFile.FieldType.int)).before a0 Z = true := hw _ (List.mem_of_getElem? (i := 34) rfl)
theorem Wd2 {a0 : Array Value} {Z : State} (hw : ∀ d ∈ tables_1, d.before a0 Z = true) : (Jvm.Cond.initialized "com/example/rootcast/rootcast/tree/Children").before a0 Z = true := hw _ (List.mem_of_getElem? (i := 2) rfl)
theorem pd_3 : parseMethodDescriptor "(I)I" = some ⟨[.int], some .int⟩ := by decide +kernel
theorem Wd30 {a0 : Array Value} {Z : State} (hw : ∀ d ∈ tables_1, d.before a0 Z = true) : (Jvm.Cond.methodLink "com/example/rootcast/rootcast/tree/ChildrenPlaceOfPinLaw" (25 : Nat) ({ cls := "com/example/rootcast/rootcast/tree/Children", name := "placeOf", desc := "(I)I" } : Jvm.MethodName)).before a0 Z = true := hw _ (List.mem_of_getElem? (i := 30) rfl)
theorem Wd32 {a0 : Array Value} {Z : State} (hw : ∀ d ∈ tables_1, d.before a0 Z = true) : (Jvm.Cond.instanceMethod ({ cls := "com/example/rootcast/rootcast/tree/Children", name := "placeOf", desc := "(I)I" } : Jvm.MethodName)).before a0 Z = true := hw _ (List.mem_of_getElem? (i := 32) rfl)
theorem Wd33 {a0 : Array Value} {Z : State} (hw : ∀ d ∈ tables_1, d.before a0 Z = true) : (Jvm.Cond.selects "com/example/rootcast/rootcast/tree/Children" ({ cls := "com/example/rootcast/rootcast/tree/Children", name := "placeOf", desc := "(I)I" } : Jvm.MethodName) ({ cls := "com/example/rootcast/rootcast/tree/Children", name := "placeOf", desc := "(I)I" } : Jvm.MethodName)).before a0 Z = true := hw _ (List.mem_of_getElem? (i := 33) rfl)
theorem Wd0 {a0 : Array Value} {Z : State} (hw : ∀ d ∈ tables_1, d.before a0 Z = true) : (Jvm.Cond.classLink "com/example/rootcast/rootcast/tree/ChildrenPlaceOfPinLaw" (7 : Nat) "com/example/rootcast/rootcast/tree/Children").before a0 Z = true := hw _ (List.mem_of_getElem? (i := 0) rfl)
theorem Wd5 {a0 : Array Value} {Z : State} (hw : ∀ d ∈ tables_1, d.before a0 Z = true) : (Jvm.Cond.code ({ cls := "com/example/rootcast/rootcast/tree/Children", name := "<init>", desc := "(I)V" } : Jvm.MethodName) prog_127_method_1_code (2 : Nat) (Option.none : Option Jvm.ClassFile.FieldType)).before a0 Z = true := hw _ (List.mem_of_getElem? (i := 5) rfl)
theorem pd_4 : parseMethodDescriptor "(I)V" = some ⟨[.int], none⟩ := by decide +kernel
theorem Wd3 {a0 : Array Value} {Z : State} (hw : ∀ d ∈ tables_1, d.before a0 Z = true) : (Jvm.Cond.methodLink "com/example/rootcast/rootcast/tree/ChildrenPlaceOfPinLaw" (9 : Nat) ({ cls := "com/example/rootcast/rootcast/tree/Children", name := "<init>", desc := "(I)V" } : Jvm.MethodName)).before a0 Z = true := hw _ (List.mem_of_getElem? (i := 3) rfl)
theorem Wd4 {a0 : Array Value} {Z : State} (hw : ∀ d ∈ tables_1, d.before a0 Z = true) : (Jvm.Cond.instanceMethod ({ cls := "com/example/rootcast/rootcast/tree/Children", name := "<init>", desc := "(I)V" } : Jvm.MethodName)).before a0 Z = true := hw _ (List.mem_of_getElem? (i := 4) rfl)
theorem Wd41 {a0 : Array Value} {Z : State} (hw : ∀ d ∈ tables_1, d.before a0 Z = true) : (Jvm.Cond.code ({ cls := "com/example/rootcast/rootcast/tree/Children", name := "add", desc := "(II)V" } : Jvm.MethodName) prog_127_method_7_code (4 : Nat) (Option.none : Option Jvm.ClassFile.FieldType)).before a0 Z = true := hw _ (List.mem_of_getElem? (i := 41) rfl)
theorem pd_5 : parseMethodDescriptor "(II)V" = some ⟨[.int, .int], none⟩ := by decide +kernel
theorem Wd37 {a0 : Array Value} {Z : State} (hw : ∀ d ∈ tables_1, d.before a0 Z = true) : (Jvm.Cond.methodLink "com/example/rootcast/rootcast/tree/ChildrenPlaceOfPinLaw" (12 : Nat) ({ cls := "com/example/rootcast/rootcast/tree/Children", name := "add", desc := "(II)V" } : Jvm.MethodName)).before a0 Z = true := hw _ (List.mem_of_getElem? (i := 37) rfl)
theorem Wd39 {a0 : Array Value} {Z : State} (hw : ∀ d ∈ tables_1, d.before a0 Z = true) : (Jvm.Cond.instanceMethod ({ cls := "com/example/rootcast/rootcast/tree/Children", name := "add", desc := "(II)V" } : Jvm.MethodName)).before a0 Z = true := hw _ (List.mem_of_getElem? (i := 39) rfl)
theorem Wd40 {a0 : Array Value} {Z : State} (hw : ∀ d ∈ tables_1, d.before a0 Z = true) : (Jvm.Cond.selects "com/example/rootcast/rootcast/tree/Children" ({ cls := "com/example/rootcast/rootcast/tree/Children", name := "add", desc := "(II)V" } : Jvm.MethodName) ({ cls := "com/example/rootcast/rootcast/tree/Children", name := "add", desc := "(II)V" } : Jvm.MethodName)).before a0 Z = true := hw _ (List.mem_of_getElem? (i := 40) rfl)
theorem Wd62 {a0 : Array Value} {Z : State} (hw : ∀ d ∈ tables_1, d.before a0 Z = true) : (Jvm.Cond.code ({ cls := "com/example/rootcast/rootcast/tree/Children", name := "remove", desc := "(I)V" } : Jvm.MethodName) prog_127_method_8_code (2 : Nat) (Option.none : Option Jvm.ClassFile.FieldType)).before a0 Z = true := hw _ (List.mem_of_getElem? (i := 62) rfl)
theorem Wd58 {a0 : Array Value} {Z : State} (hw : ∀ d ∈ tables_1, d.before a0 Z = true) : (Jvm.Cond.methodLink "com/example/rootcast/rootcast/tree/ChildrenPlaceOfPinLaw" (16 : Nat) ({ cls := "com/example/rootcast/rootcast/tree/Children", name := "remove", desc := "(I)V" } : Jvm.MethodName)).before a0 Z = true := hw _ (List.mem_of_getElem? (i := 58) rfl)
theorem Wd60 {a0 : Array Value} {Z : State} (hw : ∀ d ∈ tables_1, d.before a0 Z = true) : (Jvm.Cond.instanceMethod ({ cls := "com/example/rootcast/rootcast/tree/Children", name := "remove", desc := "(I)V" } : Jvm.MethodName)).before a0 Z = true := hw _ (List.mem_of_getElem? (i := 60) rfl)
theorem Wd61 {a0 : Array Value} {Z : State} (hw : ∀ d ∈ tables_1, d.before a0 Z = true) : (Jvm.Cond.selects "com/example/rootcast/rootcast/tree/Children" ({ cls := "com/example/rootcast/rootcast/tree/Children", name := "remove", desc := "(I)V" } : Jvm.MethodName) ({ cls := "com/example/rootcast/rootcast/tree/Children", name := "remove", desc := "(I)V" } : Jvm.MethodName)).before a0 Z = true := hw _ (List.mem_of_getElem? (i := 61) rfl)
set_option maxRecDepth 65536 in
set_option maxHeartbeats 40000000 in
theorem rm0 (l : Launch) (Z : State) (a0 : Array Value) (hw : ∀ d ∈ tables_1, d.before a0 Z = true) (ws : List Jvm.Cond) (p0 p1 p2 p3 p4 : Int32) (nn : Addr) (kn : ClassId) (h0 : Heap) (n0 : Nat) (Z0 : n0 ≤ h0.size) (S_n : Sta Z h0 "com/example/rootcast/rootcast/tree/Children" "NONE" "[I" (.ref nn)) (V_n : Arv Z h0 nn kn .int (0 : Int32) [] (.int (0 : Int32))) :
    MetFree l x (head1 (Jvm.Cond.code x code maxLocals ret :: ws) room_1) (fun aa U => aa = #[(.int p0), (.int p1), (.int p2), (.int p3), (.int p4)] ∧ Z.Warmed39 U.vm ∧ U.heap = h0) (fun _ _ _ _ _ => True) (fun _ U o U' => ∃ v L, o = .returned v ∧ Q0 n0 v U'.heap L ∧ FrameEnd U o U' L 24 128) := by
  refine own_body pf_8 ?_
  intro p e s m below meth c s₁ hx hby hml hown hnm hlk hret hZ X0 e0
  have N0 : Fr n0 [] := Fr.nil n0
  refine own_go (f' := (mkF m 0 #[.val (.int p0), .val (.int p1), .val (.int p2), .val (.int p3), .val (.int p4), .unset, .unset, .unset, .unset, .unset, .unset, .unset, .unset, .unset, .unset, .unset, .unset, .unset] [])) (fun t k => castTop (ef_rm0 m p0 p1 p2 p3 p4) k) ?_
  have J85 : ∀ (n dr r q : Int32) (hn : 0 ≤ n.toInt ∧ n.toInt ≤ 3) (hcfg : ((dr.toInt = 0 ∧ r.toInt = 0) ∨ (dr.toInt = 1 ∧ 0 < n.toInt ∧ 0 ≤ r.toInt ∧ r.toInt < n.toInt))), own_G p.tables e below (own_P s (Q0 n0) 24 128) s₁ (mkF m 85 #[.val (.int p0), .val (.int p1), .val (.int p2), .val (.int p3), .val (.int p4), .val (.int n), .val (.int dr), .val (.int r), .val (.int (((p4.toUInt32 >>> ((5 : Int32) &&& 31).toUInt32).toInt32) &&& (3 : Int32))), .unset, .unset, .unset, .unset, .unset, .unset, .unset, .unset, .unset] [(.int q)]) := by
    intro n dr r q hn hcfg
    have J159 : ∀ (ch b1 : Addr) (k1 : ClassId) (z d cnt x0 x1 x2 : Int32) (TJ : State) (locsJ : List Loc) (hJ : Heap) (XJ : Stand p l e room_1 s m #[(.int p0), (.int p1), (.int p2), (.int p3), (.int p4)] below meth c TJ locsJ 4 30) (eJ : TJ.heap = hJ) (NJ : Fr n0 locsJ) (ZJ : n0 ≤ hJ.size) (EJ : Exa Z hJ ch "com/example/rootcast/rootcast/tree/Children") (FJc : Fld Z hJ ch "com/example/rootcast/rootcast/tree/Children" "count" "I" (.int cnt)) (FJp : Fld Z hJ ch "com/example/rootcast/rootcast/tree/Children" "peers" "[I" (.ref b1)) (VJ : Arv Z hJ b1 k1 .int z [(.int x0), (.int x1), (.int x2)] (.int (0 : Int32))) (hz : z.toInt = 3 ∨ z.toInt = 4) (hcnt : (dr.toInt = 0 ∧ cnt.toInt = n.toInt) ∨ (dr.toInt = 1 ∧ cnt.toInt = n.toInt - 1)) (hx0 : cnt.toInt ≤ 0 ∨ x0.toInt = (own_sel r dr (0 : Int32) p0 p1).toInt) (hx1 : cnt.toInt ≤ 1 ∨ x1.toInt = (own_sel r dr (1 : Int32) p1 p2).toInt) (hx2 : cnt.toInt ≤ 2 ∨ x2.toInt = (own_sel r dr (2 : Int32) p2 (0 : Int32)).toInt), own_G p.tables e below (own_P s (Q0 n0) 24 128) TJ (mkF m 159 #[.val (.int p0), .val (.int p1), .val (.int p2), .val (.int p3), .val (.int p4), .val (.int n), .val (.int dr), .val (.int r), .val (.int (((p4.toUInt32 >>> ((5 : Int32) &&& 31).toUInt32).toInt32) &&& (3 : Int32))), .val (.int q), .val (.int d), .val (.ref ch), .unset, .unset, .unset, .unset, .unset, .unset] []) := by
      intro ch b1 k1 z d cnt x0 x1 x2 TJ locsJ hJ XJ eJ NJ ZJ EJ FJc FJp VJ hz hcnt hx0 hx1 hx2
      have hcnt3 : cnt.toInt ≤ 3 := by omega
      refine own_iconst XJ hx (pc' := 160) (4 : Int32) (hb hby at_159) rfl rfl ?_
      refine own_newP XJ hx (pc' := 162) hZ (aty := .int) (Wd25 hw) eJ (hb hby at_160) (by decide) 4 (by decide) (by decide) (by decide) (by decide) rfl (fun T1 h1 kc1 nb1 g1 X1 e1 E1 A1 => ?_)
      have ne_ch_nb1_2 : ch ≠ nb1 := Nat.ne_of_lt (Nat.lt_of_lt_of_le EJ.lt (Nat.le_of_eq g1.symm))
      have ne_b1_nb1_3 : b1 ≠ nb1 := Nat.ne_of_lt (Nat.lt_of_lt_of_le VJ.lt (Nat.le_of_eq g1.symm))
      have ge_nb1 : n0 ≤ nb1 := Nat.le_trans ZJ (Nat.le_of_eq g1.symm)
      have Z4 : n0 ≤ h1.size := Nat.le_trans ZJ E1.1
      have F5 := (Exa.ext E1 EJ)
      have F6 := (Fld.ext E1 FJc)
      have F7 := (Fld.ext E1 FJp)
      have F8 := (VJ.ext E1)
      have V9a : Arv Z h1 nb1 kc1 .int (4 : Int32) [] (.int (0 : Int32)) := Arv.new A1 (by decide)
      have V9b : Arv Z h1 nb1 kc1 .int (4 : Int32) (List.replicate 4 (.int (0 : Int32))) (.int (0 : Int32)) := V9a.pad (pad_rep [] _ 4)
      have V9 : Arv Z h1 nb1 kc1 .int (4 : Int32) [(.int (0 : Int32)), (.int (0 : Int32)), (.int (0 : Int32)), (.int (0 : Int32))] (.int (0 : Int32)) := V9b
      refine own_dup X1 hx (pc' := 163) (hb hby at_162) rfl rfl ?_
      refine own_iconst X1 hx (pc' := 164) (0 : Int32) (hb hby at_163) rfl rfl ?_
      refine own_iloadN X1 hx (pc' := 165) (hb hby at_164) rfl rfl ?_
      obtain ⟨cl10, Ar10, q10, S10, M10, H10, G10⟩ := id V9
      refine own_stI X1 hx (pc' := 166) hZ e1 Ar10 (inb_of S10 ⟨by decide, by decide⟩) (hb hby at_165) rfl (fun T11 h11 X11 e11 W11 => ?_)
      have N12 := Fr.snoc X11 NJ ge_nb1
      have Z13 : n0 ≤ h11.size := Nat.le_trans Z4 (Nat.le_of_eq (Wr.size W11).symm)
      have F14 := (Exa.wr W11 F5)
      have F15 := (Fld.other W11 F6 (Or.inl ne_ch_nb1_2))
      have F16 := (Fld.other W11 F7 (Or.inl ne_ch_nb1_2))
      have F17 := (F8.other W11 ne_b1_nb1_3)
      have F18 : Arv Z h11 nb1 kc1 .int (4 : Int32) [(.int p0), (.int (0 : Int32)), (.int (0 : Int32)), (.int (0 : Int32))] (.int (0 : Int32)) := (Arv.set Ar10 q10 S10 M10 H10 G10 rfl W11 0 rfl (Nat.le_of_ble_eq_true rfl))
      refine own_dup X11 hx (pc' := 167) (hb hby at_166) rfl rfl ?_
      refine own_iconst X11 hx (pc' := 168) (1 : Int32) (hb hby at_167) rfl rfl ?_
      refine own_iloadN X11 hx (pc' := 169) (hb hby at_168) rfl rfl ?_
      obtain ⟨cl19, Ar19, q19, S19, M19, H19, G19⟩ := id F18
      refine own_stI X11 hx (pc' := 170) hZ e11 Ar19 (inb_of S19 ⟨by decide, by decide⟩) (hb hby at_169) rfl (fun T20 h20 X20 e20 W20 => ?_)
      have N21 := Fr.snoc X20 N12 ge_nb1
      have Z22 : n0 ≤ h20.size := Nat.le_trans Z13 (Nat.le_of_eq (Wr.size W20).symm)
      have F23 := (Exa.wr W20 F14)
      have F24 := (Fld.other W20 F15 (Or.inl ne_ch_nb1_2))
      have F25 := (Fld.other W20 F16 (Or.inl ne_ch_nb1_2))
      have F26 := (F17.other W20 ne_b1_nb1_3)
      have F27 : Arv Z h20 nb1 kc1 .int (4 : Int32) [(.int p0), (.int p1), (.int (0 : Int32)), (.int (0 : Int32))] (.int (0 : Int32)) := (Arv.set Ar19 q19 S19 M19 H19 G19 rfl W20 1 rfl (Nat.le_of_ble_eq_true rfl))
      refine own_dup X20 hx (pc' := 171) (hb hby at_170) rfl rfl ?_
      refine own_iconst X20 hx (pc' := 172) (2 : Int32) (hb hby at_171) rfl rfl ?_
      refine own_iloadN X20 hx (pc' := 173) (hb hby at_172) rfl rfl ?_
      obtain ⟨cl28, Ar28, q28, S28, M28, H28, G28⟩ := id F27
      refine own_stI X20 hx (pc' := 174) hZ e20 Ar28 (inb_of S28 ⟨by decide, by decide⟩) (hb hby at_173) rfl (fun T29 h29 X29 e29 W29 => ?_)
      have N30 := Fr.snoc X29 N21 ge_nb1
      have Z31 : n0 ≤ h29.size := Nat.le_trans Z22 (Nat.le_of_eq (Wr.size W29).symm)
      have F32 := (Exa.wr W29 F23)
      have F33 := (Fld.other W29 F24 (Or.inl ne_ch_nb1_2))
      have F34 := (Fld.other W29 F25 (Or.inl ne_ch_nb1_2))
      have F35 := (F26.other W29 ne_b1_nb1_3)
      have F36 : Arv Z h29 nb1 kc1 .int (4 : Int32) [(.int p0), (.int p1), (.int p2), (.int (0 : Int32))] (.int (0 : Int32)) := (Arv.set Ar28 q28 S28 M28 H28 G28 rfl W29 2 rfl (Nat.le_of_ble_eq_true rfl))
      refine own_dup X29 hx (pc' := 175) (hb hby at_174) rfl rfl ?_
      refine own_iconst X29 hx (pc' := 176) (3 : Int32) (hb hby at_175) rfl rfl ?_
      refine own_iconst X29 hx (pc' := 177) (0 : Int32) (hb hby at_176) rfl rfl ?_
      obtain ⟨cl37, Ar37, q37, S37, M37, H37, G37⟩ := id F36
      refine own_stI X29 hx (pc' := 178) hZ e29 Ar37 (inb_of S37 ⟨by decide, by decide⟩) (hb hby at_177) rfl (fun T38 h38 X38 e38 W38 => ?_)
      have N39 := Fr.snoc X38 N30 ge_nb1
      have Z40 : n0 ≤ h38.size := Nat.le_trans Z31 (Nat.le_of_eq (Wr.size W38).symm)
      have F41 := (Exa.wr W38 F32)
      have F42 := (Fld.other W38 F33 (Or.inl ne_ch_nb1_2))
      have F43 := (Fld.other W38 F34 (Or.inl ne_ch_nb1_2))
      have F44 := (F35.other W38 ne_b1_nb1_3)
      have F45 : Arv Z h38 nb1 kc1 .int (4 : Int32) [(.int p0), (.int p1), (.int p2), (.int (0 : Int32))] (.int (0 : Int32)) := (Arv.set Ar37 q37 S37 M37 H37 G37 rfl W38 3 rfl (Nat.le_of_ble_eq_true rfl))
      refine own_astore X38 hx (pc' := 180) (Ls' := #[.val (.int p0), .val (.int p1), .val (.int p2), .val (.int p3), .val (.int p4), .val (.int n), .val (.int dr), .val (.int r), .val (.int (((p4.toUInt32 >>> ((5 : Int32) &&& 31).toUInt32).toInt32) &&& (3 : Int32))), .val (.int q), .val (.int d), .val (.ref ch), .val (.ref nb1), .unset, .unset, .unset, .unset, .unset]) (hb hby at_178) rfl rfl rfl ?_
      refine own_iload X38 hx (pc' := 182) (hb hby at_180) rfl rfl ?_
      by_cases hc182_46 : dr = (0 : Int32)
      · skip
        refine own_ifYes X38 hx (pc' := 192) (hb hby at_182) (teq hc182_46).1 (by decide) (by decide) ?_
        refine own_iload X38 hx (pc' := 194) (hb hby at_192) rfl rfl ?_
        refine own_istore X38 hx (pc' := 196) (Ls' := #[.val (.int p0), .val (.int p1), .val (.int p2), .val (.int p3), .val (.int p4), .val (.int n), .val (.int dr), .val (.int r), .val (.int (((p4.toUInt32 >>> ((5 : Int32) &&& 31).toUInt32).toInt32) &&& (3 : Int32))), .val (.int q), .val (.int d), .val (.ref ch), .val (.ref nb1), .val (.int n), .unset, .unset, .unset, .unset]) (hb hby at_194) rfl rfl ?_
        refine own_aload X38 hx (pc' := 198) (hb hby at_196) rfl rfl rfl ?_
        refine own_iload X38 hx (pc' := 200) (hb hby at_198) rfl rfl ?_
        refine own_iload X38 hx (pc' := 202) (hb hby at_200) rfl rfl ?_
        refine own_iconst X38 hx (pc' := 203) (0 : Int32) (hb hby at_202) rfl rfl ?_
        refine own_callS X38 hx (pc' := 206) hZ hown (Wd26 hw) (Wd27 hw) (Wd28 hw) (Wd29 hw) (by decide) (rm_at0 l Z a0 hw [] nb1 kc1 r dr p0 p1 p2 (0 : Int32) h38 n0 Z40 F45) e38 0 (by decide) (by decide) (by decide) (by decide) [(.ref nb1), (.int r), (.int dr), (.int (0 : Int32))] [] (by rw [hml]; rfl) (lenOf pd_2 rfl) rfl rfl (Nat.le_of_eq rfl) (hb hby at_203) rfl (fun v47 T47 L47 X47 hQ47 => ?_)
        obtain ⟨rfl, Nq47, e47⟩ := hQ47
        have N48 := Fr.app N39 Nq47
        show own_G p.tables e below _ T47 (mkF m 206 #[.val (.int p0), .val (.int p1), .val (.int p2), .val (.int p3), .val (.int p4), .val (.int n), .val (.int dr), .val (.int r), .val (.int (((p4.toUInt32 >>> ((5 : Int32) &&& 31).toUInt32).toInt32) &&& (3 : Int32))), .val (.int q), .val (.int d), .val (.ref ch), .val (.ref nb1), .val (.int n), .unset, .unset, .unset, .unset] [(.int (own_sel r dr (0 : Int32) p0 p1))])
        refine own_istore X47 hx (pc' := 208) (Ls' := #[.val (.int p0), .val (.int p1), .val (.int p2), .val (.int p3), .val (.int p4), .val (.int n), .val (.int dr), .val (.int r), .val (.int (((p4.toUInt32 >>> ((5 : Int32) &&& 31).toUInt32).toInt32) &&& (3 : Int32))), .val (.int q), .val (.int d), .val (.ref ch), .val (.ref nb1), .val (.int n), .val (.int (own_sel r dr (0 : Int32) p0 p1)), .unset, .unset, .unset]) (hb hby at_206) rfl rfl ?_
        refine own_aload X47 hx (pc' := 210) (hb hby at_208) rfl rfl rfl ?_
        refine own_iload X47 hx (pc' := 212) (hb hby at_210) rfl rfl ?_
        refine own_iload X47 hx (pc' := 214) (hb hby at_212) rfl rfl ?_
        refine own_iconst X47 hx (pc' := 215) (1 : Int32) (hb hby at_214) rfl rfl ?_
        refine own_callS X47 hx (pc' := 218) hZ hown (Wd26 hw) (Wd27 hw) (Wd28 hw) (Wd29 hw) (by decide) (rm_at1 l Z a0 hw [] nb1 kc1 r dr p0 p1 p2 (0 : Int32) h38 n0 Z40 F45) e47 0 (by decide) (by decide) (by decide) (by decide) [(.ref nb1), (.int r), (.int dr), (.int (1 : Int32))] [] (by rw [hml]; rfl) (lenOf pd_2 rfl) rfl rfl (Nat.le_of_eq rfl) (hb hby at_215) rfl (fun v49 T49 L49 X49 hQ49 => ?_)
        obtain ⟨rfl, Nq49, e49⟩ := hQ49
        have N50 := Fr.app N48 Nq49
        show own_G p.tables e below _ T49 (mkF m 218 #[.val (.int p0), .val (.int p1), .val (.int p2), .val (.int p3), .val (.int p4), .val (.int n), .val (.int dr), .val (.int r), .val (.int (((p4.toUInt32 >>> ((5 : Int32) &&& 31).toUInt32).toInt32) &&& (3 : Int32))), .val (.int q), .val (.int d), .val (.ref ch), .val (.ref nb1), .val (.int n), .val (.int (own_sel r dr (0 : Int32) p0 p1)), .unset, .unset, .unset] [(.int (own_sel r dr (1 : Int32) p1 p2))])
        refine own_istore X49 hx (pc' := 220) (Ls' := #[.val (.int p0), .val (.int p1), .val (.int p2), .val (.int p3), .val (.int p4), .val (.int n), .val (.int dr), .val (.int r), .val (.int (((p4.toUInt32 >>> ((5 : Int32) &&& 31).toUInt32).toInt32) &&& (3 : Int32))), .val (.int q), .val (.int d), .val (.ref ch), .val (.ref nb1), .val (.int n), .val (.int (own_sel r dr (0 : Int32) p0 p1)), .val (.int (own_sel r dr (1 : Int32) p1 p2)), .unset, .unset]) (hb hby at_218) rfl rfl ?_
        refine own_aload X49 hx (pc' := 222) (hb hby at_220) rfl rfl rfl ?_
        refine own_iload X49 hx (pc' := 224) (hb hby at_222) rfl rfl ?_
        refine own_iload X49 hx (pc' := 226) (hb hby at_224) rfl rfl ?_
        refine own_iconst X49 hx (pc' := 227) (2 : Int32) (hb hby at_226) rfl rfl ?_
        refine own_callS X49 hx (pc' := 230) hZ hown (Wd26 hw) (Wd27 hw) (Wd28 hw) (Wd29 hw) (by decide) (rm_at2 l Z a0 hw [] nb1 kc1 r dr p0 p1 p2 (0 : Int32) h38 n0 Z40 F45) e49 0 (by decide) (by decide) (by decide) (by decide) [(.ref nb1), (.int r), (.int dr), (.int (2 : Int32))] [] (by rw [hml]; rfl) (lenOf pd_2 rfl) rfl rfl (Nat.le_of_eq rfl) (hb hby at_227) rfl (fun v51 T51 L51 X51 hQ51 => ?_)
        obtain ⟨rfl, Nq51, e51⟩ := hQ51
        have N52 := Fr.app N50 Nq51
        show own_G p.tables e below _ T51 (mkF m 230 #[.val (.int p0), .val (.int p1), .val (.int p2), .val (.int p3), .val (.int p4), .val (.int n), .val (.int dr), .val (.int r), .val (.int (((p4.toUInt32 >>> ((5 : Int32) &&& 31).toUInt32).toInt32) &&& (3 : Int32))), .val (.int q), .val (.int d), .val (.ref ch), .val (.ref nb1), .val (.int n), .val (.int (own_sel r dr (0 : Int32) p0 p1)), .val (.int (own_sel r dr (1 : Int32) p1 p2)), .unset, .unset] [(.int (own_sel r dr (2 : Int32) p2 (0 : Int32)))])
        refine own_istore X51 hx (pc' := 232) (Ls' := #[.val (.int p0), .val (.int p1), .val (.int p2), .val (.int p3), .val (.int p4), .val (.int n), .val (.int dr), .val (.int r), .val (.int (((p4.toUInt32 >>> ((5 : Int32) &&& 31).toUInt32).toInt32) &&& (3 : Int32))), .val (.int q), .val (.int d), .val (.ref ch), .val (.ref nb1), .val (.int n), .val (.int (own_sel r dr (0 : Int32) p0 p1)), .val (.int (own_sel r dr (1 : Int32) p1 p2)), .val (.int (own_sel r dr (2 : Int32) p2 (0 : Int32))), .unset]) (hb hby at_230) rfl rfl ?_
        refine own_iload X51 hx (pc' := 234) (hb hby at_232) rfl rfl ?_
        by_cases hc234_53 : (0 : Int32) < n
        · skip
          refine own_ifNo X51 hx (pc' := 237) (hb hby at_234) (tlt hc234_53).2.2.2 rfl ?_
          refine own_iload X51 hx (pc' := 239) (hb hby at_237) rfl rfl ?_
          refine own_iload X51 hx (pc' := 241) (hb hby at_239) rfl rfl ?_
          by_cases hc241_54 : (own_sel r dr (0 : Int32) p0 p1) = q
          · skip
            refine own_icmpNo X51 hx (pc' := 244) (hb hby at_241) (teq hc241_54).2 rfl ?_
            refine own_iconst X51 hx (pc' := 245) (0 : Int32) (hb hby at_244) rfl rfl ?_
            refine own_istore X51 hx (pc' := 247) (Ls' := #[.val (.int p0), .val (.int p1), .val (.int p2), .val (.int p3), .val (.int p4), .val (.int n), .val (.int dr), .val (.int r), .val (.int (((p4.toUInt32 >>> ((5 : Int32) &&& 31).toUInt32).toInt32) &&& (3 : Int32))), .val (.int q), .val (.int d), .val (.ref ch), .val (.ref nb1), .val (.int n), .val (.int (own_sel r dr (0 : Int32) p0 p1)), .val (.int (own_sel r dr (1 : Int32) p1 p2)), .val (.int (own_sel r dr (2 : Int32) p2 (0 : Int32))), .val (.int (0 : Int32))]) (hb hby at_245) rfl rfl ?_
            refine own_goto X51 hx (pc' := 291) (hb hby at_247) (by decide) (by decide) ?_
            refine own_aload X51 hx (pc' := 293) (hb hby at_291) rfl rfl rfl ?_
            refine own_iload X51 hx (pc' := 295) (hb hby at_293) rfl rfl ?_
            refine own_callV X51 hx (pc' := 298) hZ hown (Wd30 hw) (Wd32 hw) (Wd33 hw) (Wd34 hw) (Wd2 hw) (by decide) (rm_place l Z a0 hw [] ch b1 k1 z cnt x0 x1 x2 q h38 n0 Z40 hcnt3 hz F42 F43 F44) e51 F41 0 (by decide) (by decide) (by decide) (by decide) [(.int q)] [] (by rw [hml]; rfl) (lenOf pd_3 rfl) rfl rfl (Nat.le_of_eq rfl) (hb hby at_295) rfl (fun v55 T55 L55 X55 hQ55 => ?_)
            obtain ⟨rfl, Nq55, e55⟩ := hQ55
            have N56 := Fr.app N52 Nq55
            show own_G p.tables e below _ T55 (mkF m 298 #[.val (.int p0), .val (.int p1), .val (.int p2), .val (.int p3), .val (.int p4), .val (.int n), .val (.int dr), .val (.int r), .val (.int (((p4.toUInt32 >>> ((5 : Int32) &&& 31).toUInt32).toInt32) &&& (3 : Int32))), .val (.int q), .val (.int d), .val (.ref ch), .val (.ref nb1), .val (.int n), .val (.int (own_sel r dr (0 : Int32) p0 p1)), .val (.int (own_sel r dr (1 : Int32) p1 p2)), .val (.int (own_sel r dr (2 : Int32) p2 (0 : Int32))), .val (.int (0 : Int32))] [(.int (own_place cnt x0 x1 x2 q))])
            have hv57 : (own_place cnt x0 x1 x2 q) = (0 : Int32) := by
              have a0 := hc182_46
              have a1 := hc234_53
              have a2 := hc241_54
              have b0 := hn
              have b1 := hcfg
              have b2 := hcnt
              have b3 := hx0
              have b4 := hx1
              have b5 := hx2
              have b6 := c_isub n (1 : Int32)
              have b7 := rng32 n
              have b8 := rng32 (n - (1 : Int32))
              have b9 := rng32 cnt
              simp only [Int32.lt_iff_toInt_lt, Int32.le_iff_toInt_le, Int64.lt_iff_toInt_lt, Int64.le_iff_toInt_le, ← Int32.toInt_inj, ← Int64.toInt_inj, own_t32_m1, own_t32_0, own_t32_1, own_t32_2, own_t32_3, own_t32_4, own_t32_5] at a0 a1 a2 b0 b1 b2 b3 b4 b5 b6 b7 b8 b9
              unfold own_place
              simp only [Int32.lt_iff_toInt_lt, Int32.le_iff_toInt_le, Int64.lt_iff_toInt_lt, Int64.le_iff_toInt_le, ← Int32.toInt_inj, ← Int64.toInt_inj, own_t32_m1, own_t32_0, own_t32_1, own_t32_2, own_t32_3, own_t32_4, own_t32_5]
              repeat' split
              all_goals first | rfl | omega
            refine own_iload X55 hx (pc' := 300) (hb hby at_298) rfl rfl ?_
            refine own_icmpNo X55 hx (pc' := 303) (hb hby at_300) (teq hv57).2 rfl ?_
            refine own_iconst X55 hx (pc' := 304) (1 : Int32) (hb hby at_303) rfl rfl ?_
            refine own_goto X55 hx (pc' := 308) (hb hby at_304) (by decide) (by decide) ?_
            refine own_retN X55 hx hlk hret (by simp) (hb hby at_308) (by decide) (by decide) ?_
            exact ⟨rfl, N56⟩
          · skip
            refine own_icmpYes X51 hx (pc' := 250) (hb hby at_241) (feq hc241_54).2 (by decide) (by decide) ?_
            refine own_iload X51 hx (pc' := 252) (hb hby at_250) rfl rfl ?_
            refine own_iconst X51 hx (pc' := 253) (1 : Int32) (hb hby at_252) rfl rfl ?_
            by_cases hc253_58 : (1 : Int32) < n
            · skip
              refine own_icmpNo X51 hx (pc' := 256) (hb hby at_253) (tlt hc253_58).2.2.2 rfl ?_
              refine own_iload X51 hx (pc' := 258) (hb hby at_256) rfl rfl ?_
              refine own_iload X51 hx (pc' := 260) (hb hby at_258) rfl rfl ?_
              by_cases hc260_59 : (own_sel r dr (1 : Int32) p1 p2) = q
              · skip
                refine own_icmpNo X51 hx (pc' := 263) (hb hby at_260) (teq hc260_59).2 rfl ?_
                refine own_iconst X51 hx (pc' := 264) (1 : Int32) (hb hby at_263) rfl rfl ?_
                refine own_istore X51 hx (pc' := 266) (Ls' := #[.val (.int p0), .val (.int p1), .val (.int p2), .val (.int p3), .val (.int p4), .val (.int n), .val (.int dr), .val (.int r), .val (.int (((p4.toUInt32 >>> ((5 : Int32) &&& 31).toUInt32).toInt32) &&& (3 : Int32))), .val (.int q), .val (.int d), .val (.ref ch), .val (.ref nb1), .val (.int n), .val (.int (own_sel r dr (0 : Int32) p0 p1)), .val (.int (own_sel r dr (1 : Int32) p1 p2)), .val (.int (own_sel r dr (2 : Int32) p2 (0 : Int32))), .val (.int (1 : Int32))]) (hb hby at_264) rfl rfl ?_
                refine own_goto X51 hx (pc' := 291) (hb hby at_266) (by decide) (by decide) ?_
                refine own_aload X51 hx (pc' := 293) (hb hby at_291) rfl rfl rfl ?_
                refine own_iload X51 hx (pc' := 295) (hb hby at_293) rfl rfl ?_
                refine own_callV X51 hx (pc' := 298) hZ hown (Wd30 hw) (Wd32 hw) (Wd33 hw) (Wd34 hw) (Wd2 hw) (by decide) (rm_place l Z a0 hw [] ch b1 k1 z cnt x0 x1 x2 q h38 n0 Z40 hcnt3 hz F42 F43 F44) e51 F41 0 (by decide) (by decide) (by decide) (by decide) [(.int q)] [] (by rw [hml]; rfl) (lenOf pd_3 rfl) rfl rfl (Nat.le_of_eq rfl) (hb hby at_295) rfl (fun v60 T60 L60 X60 hQ60 => ?_)
                obtain ⟨rfl, Nq60, e60⟩ := hQ60
                have N61 := Fr.app N52 Nq60
                show own_G p.tables e below _ T60 (mkF m 298 #[.val (.int p0), .val (.int p1), .val (.int p2), .val (.int p3), .val (.int p4), .val (.int n), .val (.int dr), .val (.int r), .val (.int (((p4.toUInt32 >>> ((5 : Int32) &&& 31).toUInt32).toInt32) &&& (3 : Int32))), .val (.int q), .val (.int d), .val (.ref ch), .val (.ref nb1), .val (.int n), .val (.int (own_sel r dr (0 : Int32) p0 p1)), .val (.int (own_sel r dr (1 : Int32) p1 p2)), .val (.int (own_sel r dr (2 : Int32) p2 (0 : Int32))), .val (.int (1 : Int32))] [(.int (own_place cnt x0 x1 x2 q))])
                have hv62 : (own_place cnt x0 x1 x2 q) = (1 : Int32) := by
                  have a0 := hc182_46
                  have a1 := hc234_53
                  have a2 := hc241_54
                  have a3 := hc253_58
                  have a4 := hc260_59
                  have b0 := hn
                  have b1 := hcfg
                  have b2 := hcnt
                  have b3 := hx0
                  have b4 := hx1
                  have b5 := hx2
                  have b6 := c_isub n (1 : Int32)
                  have b7 := rng32 n
                  have b8 := rng32 (n - (1 : Int32))
                  have b9 := rng32 cnt
                  simp only [Int32.lt_iff_toInt_lt, Int32.le_iff_toInt_le, Int64.lt_iff_toInt_lt, Int64.le_iff_toInt_le, ← Int32.toInt_inj, ← Int64.toInt_inj, own_t32_m1, own_t32_0, own_t32_1, own_t32_2, own_t32_3, own_t32_4, own_t32_5] at a0 a1 a2 a3 a4 b0 b1 b2 b3 b4 b5 b6 b7 b8 b9
                  unfold own_place
                  simp only [Int32.lt_iff_toInt_lt, Int32.le_iff_toInt_le, Int64.lt_iff_toInt_lt, Int64.le_iff_toInt_le, ← Int32.toInt_inj, ← Int64.toInt_inj, own_t32_m1, own_t32_0, own_t32_1, own_t32_2, own_t32_3, own_t32_4, own_t32_5]
                  repeat' split
                  all_goals first | rfl | omega
                refine own_iload X60 hx (pc' := 300) (hb hby at_298) rfl rfl ?_
                refine own_icmpNo X60 hx (pc' := 303) (hb hby at_300) (teq hv62).2 rfl ?_
                refine own_iconst X60 hx (pc' := 304) (1 : Int32) (hb hby at_303) rfl rfl ?_
                refine own_goto X60 hx (pc' := 308) (hb hby at_304) (by decide) (by decide) ?_
                refine own_retN X60 hx hlk hret (by simp) (hb hby at_308) (by decide) (by decide) ?_
                exact ⟨rfl, N61⟩
              · skip
                refine own_icmpYes X51 hx (pc' := 269) (hb hby at_260) (feq hc260_59).2 (by decide) (by decide) ?_
                refine own_iload X51 hx (pc' := 271) (hb hby at_269) rfl rfl ?_
                refine own_iconst X51 hx (pc' := 272) (2 : Int32) (hb hby at_271) rfl rfl ?_
                by_cases hc272_63 : (2 : Int32) < n
                · skip
                  refine own_icmpNo X51 hx (pc' := 275) (hb hby at_272) (tlt hc272_63).2.2.2 rfl ?_
                  refine own_iload X51 hx (pc' := 277) (hb hby at_275) rfl rfl ?_
                  refine own_iload X51 hx (pc' := 279) (hb hby at_277) rfl rfl ?_
                  by_cases hc279_64 : (own_sel r dr (2 : Int32) p2 (0 : Int32)) = q
                  · skip
                    refine own_icmpNo X51 hx (pc' := 282) (hb hby at_279) (teq hc279_64).2 rfl ?_
                    refine own_iconst X51 hx (pc' := 283) (2 : Int32) (hb hby at_282) rfl rfl ?_
                    refine own_istore X51 hx (pc' := 285) (Ls' := #[.val (.int p0), .val (.int p1), .val (.int p2), .val (.int p3), .val (.int p4), .val (.int n), .val (.int dr), .val (.int r), .val (.int (((p4.toUInt32 >>> ((5 : Int32) &&& 31).toUInt32).toInt32) &&& (3 : Int32))), .val (.int q), .val (.int d), .val (.ref ch), .val (.ref nb1), .val (.int n), .val (.int (own_sel r dr (0 : Int32) p0 p1)), .val (.int (own_sel r dr (1 : Int32) p1 p2)), .val (.int (own_sel r dr (2 : Int32) p2 (0 : Int32))), .val (.int (2 : Int32))]) (hb hby at_283) rfl rfl ?_
                    refine own_goto X51 hx (pc' := 291) (hb hby at_285) (by decide) (by decide) ?_
                    refine own_aload X51 hx (pc' := 293) (hb hby at_291) rfl rfl rfl ?_
                    refine own_iload X51 hx (pc' := 295) (hb hby at_293) rfl rfl ?_
                    refine own_callV X51 hx (pc' := 298) hZ hown (Wd30 hw) (Wd32 hw) (Wd33 hw) (Wd34 hw) (Wd2 hw) (by decide) (rm_place l Z a0 hw [] ch b1 k1 z cnt x0 x1 x2 q h38 n0 Z40 hcnt3 hz F42 F43 F44) e51 F41 0 (by decide) (by decide) (by decide) (by decide) [(.int q)] [] (by rw [hml]; rfl) (lenOf pd_3 rfl) rfl rfl (Nat.le_of_eq rfl) (hb hby at_295) rfl (fun v65 T65 L65 X65 hQ65 => ?_)
                    obtain ⟨rfl, Nq65, e65⟩ := hQ65
                    have N66 := Fr.app N52 Nq65
                    show own_G p.tables e below _ T65 (mkF m 298 #[.val (.int p0), .val (.int p1), .val (.int p2), .val (.int p3), .val (.int p4), .val (.int n), .val (.int dr), .val (.int r), .val (.int (((p4.toUInt32 >>> ((5 : Int32) &&& 31).toUInt32).toInt32) &&& (3 : Int32))), .val (.int q), .val (.int d), .val (.ref ch), .val (.ref nb1), .val (.int n), .val (.int (own_sel r dr (0 : Int32) p0 p1)), .val (.int (own_sel r dr (1 : Int32) p1 p2)), .val (.int (own_sel r dr (2 : Int32) p2 (0 : Int32))), .val (.int (2 : Int32))] [(.int (own_place cnt x0 x1 x2 q))])
                    have hv67 : (own_place cnt x0 x1 x2 q) = (2 : Int32) := by
                      have a0 := hc182_46
                      have a1 := hc234_53
                      have a2 := hc241_54
                      have a3 := hc253_58
                      have a4 := hc260_59
                      have a5 := hc272_63
                      have a6 := hc279_64
                      have b0 := hn
                      have b1 := hcfg
                      have b2 := hcnt
                      have b3 := hx0
                      have b4 := hx1
                      have b5 := hx2
                      have b6 := c_isub n (1 : Int32)
                      have b7 := rng32 n
                      have b8 := rng32 (n - (1 : Int32))
                      have b9 := rng32 cnt
                      simp only [Int32.lt_iff_toInt_lt, Int32.le_iff_toInt_le, Int64.lt_iff_toInt_lt, Int64.le_iff_toInt_le, ← Int32.toInt_inj, ← Int64.toInt_inj, own_t32_m1, own_t32_0, own_t32_1, own_t32_2, own_t32_3, own_t32_4, own_t32_5] at a0 a1 a2 a3 a4 a5 a6 b0 b1 b2 b3 b4 b5 b6 b7 b8 b9
                      unfold own_place
                      simp only [Int32.lt_iff_toInt_lt, Int32.le_iff_toInt_le, Int64.lt_iff_toInt_lt, Int64.le_iff_toInt_le, ← Int32.toInt_inj, ← Int64.toInt_inj, own_t32_m1, own_t32_0, own_t32_1, own_t32_2, own_t32_3, own_t32_4, own_t32_5]
                      repeat' split
                      all_goals first | rfl | omega
                    refine own_iload X65 hx (pc' := 300) (hb hby at_298) rfl rfl ?_
                    refine own_icmpNo X65 hx (pc' := 303) (hb hby at_300) (teq hv67).2 rfl ?_
                    refine own_iconst X65 hx (pc' := 304) (1 : Int32) (hb hby at_303) rfl rfl ?_
                    refine own_goto X65 hx (pc' := 308) (hb hby at_304) (by decide) (by decide) ?_
                    refine own_retN X65 hx hlk hret (by simp) (hb hby at_308) (by decide) (by decide) ?_
                    exact ⟨rfl, N66⟩
                  · skip
                    refine own_icmpYes X51 hx (pc' := 288) (hb hby at_279) (feq hc279_64).2 (by decide) (by decide) ?_
                    refine own_iconst X51 hx (pc' := 289) (-1 : Int32) (hb hby at_288) rfl rfl ?_
                    refine own_istore X51 hx (pc' := 291) (Ls' := #[.val (.int p0), .val (.int p1), .val (.int p2), .val (.int p3), .val (.int p4), .val (.int n), .val (.int dr), .val (.int r), .val (.int (((p4.toUInt32 >>> ((5 : Int32) &&& 31).toUInt32).toInt32) &&& (3 : Int32))), .val (.int q), .val (.int d), .val (.ref ch), .val (.ref nb1), .val (.int n), .val (.int (own_sel r dr (0 : Int32) p0 p1)), .val (.int (own_sel r dr (1 : Int32) p1 p2)), .val (.int (own_sel r dr (2 : Int32) p2 (0 : Int32))), .val (.int (-1 : Int32))]) (hb hby at_289) rfl rfl ?_
                    refine own_aload X51 hx (pc' := 293) (hb hby at_291) rfl rfl rfl ?_
                    refine own_iload X51 hx (pc' := 295) (hb hby at_293) rfl rfl ?_
                    refine own_callV X51 hx (pc' := 298) hZ hown (Wd30 hw) (Wd32 hw) (Wd33 hw) (Wd34 hw) (Wd2 hw) (by decide) (rm_place l Z a0 hw [] ch b1 k1 z cnt x0 x1 x2 q h38 n0 Z40 hcnt3 hz F42 F43 F44) e51 F41 0 (by decide) (by decide) (by decide) (by decide) [(.int q)] [] (by rw [hml]; rfl) (lenOf pd_3 rfl) rfl rfl (Nat.le_of_eq rfl) (hb hby at_295) rfl (fun v68 T68 L68 X68 hQ68 => ?_)
                    obtain ⟨rfl, Nq68, e68⟩ := hQ68
                    have N69 := Fr.app N52 Nq68
                    show own_G p.tables e below _ T68 (mkF m 298 #[.val (.int p0), .val (.int p1), .val (.int p2), .val (.int p3), .val (.int p4), .val (.int n), .val (.int dr), .val (.int r), .val (.int (((p4.toUInt32 >>> ((5 : Int32) &&& 31).toUInt32).toInt32) &&& (3 : Int32))), .val (.int q), .val (.int d), .val (.ref ch), .val (.ref nb1), .val (.int n), .val (.int (own_sel r dr (0 : Int32) p0 p1)), .val (.int (own_sel r dr (1 : Int32) p1 p2)), .val (.int (own_sel r dr (2 : Int32) p2 (0 : Int32))), .val (.int (-1 : Int32))] [(.int (own_place cnt x0 x1 x2 q))])
                    have hv70 : (own_place cnt x0 x1 x2 q) = (-1 : Int32) := by
                      have a0 := hc182_46
                      have a1 := hc234_53
                      have a2 := hc241_54
                      have a3 := hc253_58
                      have a4 := hc260_59
                      have a5 := hc272_63
                      have a6 := hc279_64
                      have b0 := hn
                      have b1 := hcfg
                      have b2 := hcnt
                      have b3 := hx0
                      have b4 := hx1
                      have b5 := hx2
                      have b6 := c_isub n (1 : Int32)
                      have b7 := rng32 n
                      have b8 := rng32 (n - (1 : Int32))
                      have b9 := rng32 cnt
                      simp only [Int32.lt_iff_toInt_lt, Int32.le_iff_toInt_le, Int64.lt_iff_toInt_lt, Int64.le_iff_toInt_le, ← Int32.toInt_inj, ← Int64.toInt_inj, own_t32_m1, own_t32_0, own_t32_1, own_t32_2, own_t32_3, own_t32_4, own_t32_5] at a0 a1 a2 a3 a4 a5 a6 b0 b1 b2 b3 b4 b5 b6 b7 b8 b9
                      unfold own_place
                      simp only [Int32.lt_iff_toInt_lt, Int32.le_iff_toInt_le, Int64.lt_iff_toInt_lt, Int64.le_iff_toInt_le, ← Int32.toInt_inj, ← Int64.toInt_inj, own_t32_m1, own_t32_0, own_t32_1, own_t32_2, own_t32_3, own_t32_4, own_t32_5]
                      repeat' split
                      all_goals first | rfl | omega
                    refine own_iload X68 hx (pc' := 300) (hb hby at_298) rfl rfl ?_
                    refine own_icmpNo X68 hx (pc' := 303) (hb hby at_300) (teq hv70).2 rfl ?_
                    refine own_iconst X68 hx (pc' := 304) (1 : Int32) (hb hby at_303) rfl rfl ?_
                    refine own_goto X68 hx (pc' := 308) (hb hby at_304) (by decide) (by decide) ?_
                    refine own_retN X68 hx hlk hret (by simp) (hb hby at_308) (by decide) (by decide) ?_
                    exact ⟨rfl, N69⟩
                · skip
                  refine own_icmpYes X51 hx (pc' := 288) (hb hby at_272) (flt hc272_63).2.2.2 (by decide) (by decide) ?_
                  refine own_iconst X51 hx (pc' := 289) (-1 : Int32) (hb hby at_288) rfl rfl ?_
                  refine own_istore X51 hx (pc' := 291) (Ls' := #[.val (.int p0), .val (.int p1), .val (.int p2), .val (.int p3), .val (.int p4), .val (.int n), .val (.int dr), .val (.int r), .val (.int (((p4.toUInt32 >>> ((5 : Int32) &&& 31).toUInt32).toInt32) &&& (3 : Int32))), .val (.int q), .val (.int d), .val (.ref ch), .val (.ref nb1), .val (.int n), .val (.int (own_sel r dr (0 : Int32) p0 p1)), .val (.int (own_sel r dr (1 : Int32) p1 p2)), .val (.int (own_sel r dr (2 : Int32) p2 (0 : Int32))), .val (.int (-1 : Int32))]) (hb hby at_289) rfl rfl ?_
                  refine own_aload X51 hx (pc' := 293) (hb hby at_291) rfl rfl rfl ?_
                  refine own_iload X51 hx (pc' := 295) (hb hby at_293) rfl rfl ?_
                  refine own_callV X51 hx (pc' := 298) hZ hown (Wd30 hw) (Wd32 hw) (Wd33 hw) (Wd34 hw) (Wd2 hw) (by decide) (rm_place l Z a0 hw [] ch b1 k1 z cnt x0 x1 x2 q h38 n0 Z40 hcnt3 hz F42 F43 F44) e51 F41 0 (by decide) (by decide) (by decide) (by decide) [(.int q)] [] (by rw [hml]; rfl) (lenOf pd_3 rfl) rfl rfl (Nat.le_of_eq rfl) (hb hby at_295) rfl (fun v71 T71 L71 X71 hQ71 => ?_)
                  obtain ⟨rfl, Nq71, e71⟩ := hQ71
                  have N72 := Fr.app N52 Nq71
                  show own_G p.tables e below _ T71 (mkF m 298 #[.val (.int p0), .val (.int p1), .val (.int p2), .val (.int p3), .val (.int p4), .val (.int n), .val (.int dr), .val (.int r), .val (.int (((p4.toUInt32 >>> ((5 : Int32) &&& 31).toUInt32).toInt32) &&& (3 : Int32))), .val (.int q), .val (.int d), .val (.ref ch), .val (.ref nb1), .val (.int n), .val (.int (own_sel r dr (0 : Int32) p0 p1)), .val (.int (own_sel r dr (1 : Int32) p1 p2)), .val (.int (own_sel r dr (2 : Int32) p2 (0 : Int32))), .val (.int (-1 : Int32))] [(.int (own_place cnt x0 x1 x2 q))])
                  have hv73 : (own_place cnt x0 x1 x2 q) = (-1 : Int32) := by
                    have a0 := hc182_46
                    have a1 := hc234_53
                    have a2 := hc241_54
                    have a3 := hc253_58
                    have a4 := hc260_59
                    have a5 := hc272_63
                    have b0 := hn
                    have b1 := hcfg
                    have b2 := hcnt
                    have b3 := hx0
                    have b4 := hx1
                    have b5 := hx2
                    have b6 := c_isub n (1 : Int32)
                    have b7 := rng32 n
                    have b8 := rng32 (n - (1 : Int32))
                    have b9 := rng32 cnt
                    simp only [Int32.lt_iff_toInt_lt, Int32.le_iff_toInt_le, Int64.lt_iff_toInt_lt, Int64.le_iff_toInt_le, ← Int32.toInt_inj, ← Int64.toInt_inj, own_t32_m1, own_t32_0, own_t32_1, own_t32_2, own_t32_3, own_t32_4, own_t32_5] at a0 a1 a2 a3 a4 a5 b0 b1 b2 b3 b4 b5 b6 b7 b8 b9
                    unfold own_place
                    simp only [Int32.lt_iff_toInt_lt, Int32.le_iff_toInt_le, Int64.lt_iff_toInt_lt, Int64.le_iff_toInt_le, ← Int32.toInt_inj, ← Int64.toInt_inj, own_t32_m1, own_t32_0, own_t32_1, own_t32_2, own_t32_3, own_t32_4, own_t32_5]
                    repeat' split
                    all_goals first | rfl | omega
                  refine own_iload X71 hx (pc' := 300) (hb hby at_298) rfl rfl ?_
                  refine own_icmpNo X71 hx (pc' := 303) (hb hby at_300) (teq hv73).2 rfl ?_
                  refine own_iconst X71 hx (pc' := 304) (1 : Int32) (hb hby at_303) rfl rfl ?_
                  refine own_goto X71 hx (pc' := 308) (hb hby at_304) (by decide) (by decide) ?_
                  refine own_retN X71 hx hlk hret (by simp) (hb hby at_308) (by decide) (by decide) ?_
                  exact ⟨rfl, N72⟩
            · skip
              refine own_icmpYes X51 hx (pc' := 269) (hb hby at_253) (flt hc253_58).2.2.2 (by decide) (by decide) ?_
              refine own_iload X51 hx (pc' := 271) (hb hby at_269) rfl rfl ?_
              refine own_iconst X51 hx (pc' := 272) (2 : Int32) (hb hby at_271) rfl rfl ?_
              by_cases hc272_74 : (2 : Int32) < n
              · skip
                refine own_icmpNo X51 hx (pc' := 275) (hb hby at_272) (tlt hc272_74).2.2.2 rfl ?_
                refine own_iload X51 hx (pc' := 277) (hb hby at_275) rfl rfl ?_
                refine own_iload X51 hx (pc' := 279) (hb hby at_277) rfl rfl ?_
                by_cases hc279_75 : (own_sel r dr (2 : Int32) p2 (0 : Int32)) = q
                · skip
                  refine own_icmpNo X51 hx (pc' := 282) (hb hby at_279) (teq hc279_75).2 rfl ?_
                  refine own_iconst X51 hx (pc' := 283) (2 : Int32) (hb hby at_282) rfl rfl ?_
                  refine own_istore X51 hx (pc' := 285) (Ls' := #[.val (.int p0), .val (.int p1), .val (.int p2), .val (.int p3), .val (.int p4), .val (.int n), .val (.int dr), .val (.int r), .val (.int (((p4.toUInt32 >>> ((5 : Int32) &&& 31).toUInt32).toInt32) &&& (3 : Int32))), .val (.int q), .val (.int d), .val (.ref ch), .val (.ref nb1), .val (.int n), .val (.int (own_sel r dr (0 : Int32) p0 p1)), .val (.int (own_sel r dr (1 : Int32) p1 p2)), .val (.int (own_sel r dr (2 : Int32) p2 (0 : Int32))), .val (.int (2 : Int32))]) (hb hby at_283) rfl rfl ?_
                  refine own_goto X51 hx (pc' := 291) (hb hby at_285) (by decide) (by decide) ?_
                  refine own_aload X51 hx (pc' := 293) (hb hby at_291) rfl rfl rfl ?_
                  refine own_iload X51 hx (pc' := 295) (hb hby at_293) rfl rfl ?_
                  refine own_callV X51 hx (pc' := 298) hZ hown (Wd30 hw) (Wd32 hw) (Wd33 hw) (Wd34 hw) (Wd2 hw) (by decide) (rm_place l Z a0 hw [] ch b1 k1 z cnt x0 x1 x2 q h38 n0 Z40 hcnt3 hz F42 F43 F44) e51 F41 0 (by decide) (by decide) (by decide) (by decide) [(.int q)] [] (by rw [hml]; rfl) (lenOf pd_3 rfl) rfl rfl (Nat.le_of_eq rfl) (hb hby at_295) rfl (fun v76 T76 L76 X76 hQ76 => ?_)
                  obtain ⟨rfl, Nq76, e76⟩ := hQ76
                  have N77 := Fr.app N52 Nq76
                  show own_G p.tables e below _ T76 (mkF m 298 #[.val (.int p0), .val (.int p1), .val (.int p2), .val (.int p3), .val (.int p4), .val (.int n), .val (.int dr), .val (.int r), .val (.int (((p4.toUInt32 >>> ((5 : Int32) &&& 31).toUInt32).toInt32) &&& (3 : Int32))), .val (.int q), .val (.int d), .val (.ref ch), .val (.ref nb1), .val (.int n), .val (.int (own_sel r dr (0 : Int32) p0 p1)), .val (.int (own_sel r dr (1 : Int32) p1 p2)), .val (.int (own_sel r dr (2 : Int32) p2 (0 : Int32))), .val (.int (2 : Int32))] [(.int (own_place cnt x0 x1 x2 q))])
                  have hv78 : (own_place cnt x0 x1 x2 q) = (2 : Int32) := by
                    have a0 := hc182_46
                    have a1 := hc234_53
                    have a2 := hc241_54
                    have a3 := hc253_58
                    have a4 := hc272_74
                    have a5 := hc279_75
                    have b0 := hn
                    have b1 := hcfg
                    have b2 := hcnt
                    have b3 := hx0
                    have b4 := hx1
                    have b5 := hx2
                    have b6 := c_isub n (1 : Int32)
                    have b7 := rng32 n
                    have b8 := rng32 (n - (1 : Int32))
                    have b9 := rng32 cnt
                    simp only [Int32.lt_iff_toInt_lt, Int32.le_iff_toInt_le, Int64.lt_iff_toInt_lt, Int64.le_iff_toInt_le, ← Int32.toInt_inj, ← Int64.toInt_inj, own_t32_m1, own_t32_0, own_t32_1, own_t32_2, own_t32_3, own_t32_4, own_t32_5] at a0 a1 a2 a3 a4 a5 b0 b1 b2 b3 b4 b5 b6 b7 b8 b9
                    unfold own_place
                    simp only [Int32.lt_iff_toInt_lt, Int32.le_iff_toInt_le, Int64.lt_iff_toInt_lt, Int64.le_iff_toInt_le, ← Int32.toInt_inj, ← Int64.toInt_inj, own_t32_m1, own_t32_0, own_t32_1, own_t32_2, own_t32_3, own_t32_4, own_t32_5]
                    repeat' split
                    all_goals first | rfl | omega
                  refine own_iload X76 hx (pc' := 300) (hb hby at_298) rfl rfl ?_
                  refine own_icmpNo X76 hx (pc' := 303) (hb hby at_300) (teq hv78).2 rfl ?_
                  refine own_iconst X76 hx (pc' := 304) (1 : Int32) (hb hby at_303) rfl rfl ?_
                  refine own_goto X76 hx (pc' := 308) (hb hby at_304) (by decide) (by decide) ?_
                  refine own_retN X76 hx hlk hret (by simp) (hb hby at_308) (by decide) (by decide) ?_
                  exact ⟨rfl, N77⟩
                · skip
                  refine own_icmpYes X51 hx (pc' := 288) (hb hby at_279) (feq hc279_75).2 (by decide) (by decide) ?_
                  refine own_iconst X51 hx (pc' := 289) (-1 : Int32) (hb hby at_288) rfl rfl ?_
                  refine own_istore X51 hx (pc' := 291) (Ls' := #[.val (.int p0), .val (.int p1), .val (.int p2), .val (.int p3), .val (.int p4), .val (.int n), .val (.int dr), .val (.int r), .val (.int (((p4.toUInt32 >>> ((5 : Int32) &&& 31).toUInt32).toInt32) &&& (3 : Int32))), .val (.int q), .val (.int d), .val (.ref ch), .val (.ref nb1), .val (.int n), .val (.int (own_sel r dr (0 : Int32) p0 p1)), .val (.int (own_sel r dr (1 : Int32) p1 p2)), .val (.int (own_sel r dr (2 : Int32) p2 (0 : Int32))), .val (.int (-1 : Int32))]) (hb hby at_289) rfl rfl ?_
                  refine own_aload X51 hx (pc' := 293) (hb hby at_291) rfl rfl rfl ?_
                  refine own_iload X51 hx (pc' := 295) (hb hby at_293) rfl rfl ?_
                  refine own_callV X51 hx (pc' := 298) hZ hown (Wd30 hw) (Wd32 hw) (Wd33 hw) (Wd34 hw) (Wd2 hw) (by decide) (rm_place l Z a0 hw [] ch b1 k1 z cnt x0 x1 x2 q h38 n0 Z40 hcnt3 hz F42 F43 F44) e51 F41 0 (by decide) (by decide) (by decide) (by decide) [(.int q)] [] (by rw [hml]; rfl) (lenOf pd_3 rfl) rfl rfl (Nat.le_of_eq rfl) (hb hby at_295) rfl (fun v79 T79 L79 X79 hQ79 => ?_)
                  obtain ⟨rfl, Nq79, e79⟩ := hQ79
                  have N80 := Fr.app N52 Nq79
                  show own_G p.tables e below _ T79 (mkF m 298 #[.val (.int p0), .val (.int p1), .val (.int p2), .val (.int p3), .val (.int p4), .val (.int n), .val (.int dr), .val (.int r), .val (.int (((p4.toUInt32 >>> ((5 : Int32) &&& 31).toUInt32).toInt32) &&& (3 : Int32))), .val (.int q), .val (.int d), .val (.ref ch), .val (.ref nb1), .val (.int n), .val (.int (own_sel r dr (0 : Int32) p0 p1)), .val (.int (own_sel r dr (1 : Int32) p1 p2)), .val (.int (own_sel r dr (2 : Int32) p2 (0 : Int32))), .val (.int (-1 : Int32))] [(.int (own_place cnt x0 x1 x2 q))])
                  have hv81 : (own_place cnt x0 x1 x2 q) = (-1 : Int32) := by
                    have a0 := hc182_46
                    have a1 := hc234_53
                    have a2 := hc241_54
                    have a3 := hc253_58
                    have a4 := hc272_74
                    have a5 := hc279_75
                    have b0 := hn
                    have b1 := hcfg
                    have b2 := hcnt
                    have b3 := hx0
                    have b4 := hx1
                    have b5 := hx2
                    have b6 := c_isub n (1 : Int32)
                    have b7 := rng32 n
                    have b8 := rng32 (n - (1 : Int32))
                    have b9 := rng32 cnt
                    simp only [Int32.lt_iff_toInt_lt, Int32.le_iff_toInt_le, Int64.lt_iff_toInt_lt, Int64.le_iff_toInt_le, ← Int32.toInt_inj, ← Int64.toInt_inj, own_t32_m1, own_t32_0, own_t32_1, own_t32_2, own_t32_3, own_t32_4, own_t32_5] at a0 a1 a2 a3 a4 a5 b0 b1 b2 b3 b4 b5 b6 b7 b8 b9
                    unfold own_place
                    simp only [Int32.lt_iff_toInt_lt, Int32.le_iff_toInt_le, Int64.lt_iff_toInt_lt, Int64.le_iff_toInt_le, ← Int32.toInt_inj, ← Int64.toInt_inj, own_t32_m1, own_t32_0, own_t32_1, own_t32_2, own_t32_3, own_t32_4, own_t32_5]
                    repeat' split
                    all_goals first | rfl | omega
                  refine own_iload X79 hx (pc' := 300) (hb hby at_298) rfl rfl ?_
                  refine own_icmpNo X79 hx (pc' := 303) (hb hby at_300) (teq hv81).2 rfl ?_
                  refine own_iconst X79 hx (pc' := 304) (1 : Int32) (hb hby at_303) rfl rfl ?_
                  refine own_goto X79 hx (pc' := 308) (hb hby at_304) (by decide) (by decide) ?_
                  refine own_retN X79 hx hlk hret (by simp) (hb hby at_308) (by decide) (by decide) ?_
                  exact ⟨rfl, N80⟩
              · skip
                refine own_icmpYes X51 hx (pc' := 288) (hb hby at_272) (flt hc272_74).2.2.2 (by decide) (by decide) ?_
                refine own_iconst X51 hx (pc' := 289) (-1 : Int32) (hb hby at_288) rfl rfl ?_
                refine own_istore X51 hx (pc' := 291) (Ls' := #[.val (.int p0), .val (.int p1), .val (.int p2), .val (.int p3), .val (.int p4), .val (.int n), .val (.int dr), .val (.int r), .val (.int (((p4.toUInt32 >>> ((5 : Int32) &&& 31).toUInt32).toInt32) &&& (3 : Int32))), .val (.int q), .val (.int d), .val (.ref ch), .val (.ref nb1), .val (.int n), .val (.int (own_sel r dr (0 : Int32) p0 p1)), .val (.int (own_sel r dr (1 : Int32) p1 p2)), .val (.int (own_sel r dr (2 : Int32) p2 (0 : Int32))), .val (.int (-1 : Int32))]) (hb hby at_289) rfl rfl ?_
                refine own_aload X51 hx (pc' := 293) (hb hby at_291) rfl rfl rfl ?_
                refine own_iload X51 hx (pc' := 295) (hb hby at_293) rfl rfl ?_
                refine own_callV X51 hx (pc' := 298) hZ hown (Wd30 hw) (Wd32 hw) (Wd33 hw) (Wd34 hw) (Wd2 hw) (by decide) (rm_place l Z a0 hw [] ch b1 k1 z cnt x0 x1 x2 q h38 n0 Z40 hcnt3 hz F42 F43 F44) e51 F41 0 (by decide) (by decide) (by decide) (by decide) [(.int q)] [] (by rw [hml]; rfl) (lenOf pd_3 rfl) rfl rfl (Nat.le_of_eq rfl) (hb hby at_295) rfl (fun v82 T82 L82 X82 hQ82 => ?_)
                obtain ⟨rfl, Nq82, e82⟩ := hQ82
                have N83 := Fr.app N52 Nq82
                show own_G p.tables e below _ T82 (mkF m 298 #[.val (.int p0), .val (.int p1), .val (.int p2), .val (.int p3), .val (.int p4), .val (.int n), .val (.int dr), .val (.int r), .val (.int (((p4.toUInt32 >>> ((5 : Int32) &&& 31).toUInt32).toInt32) &&& (3 : Int32))), .val (.int q), .val (.int d), .val (.ref ch), .val (.ref nb1), .val (.int n), .val (.int (own_sel r dr (0 : Int32) p0 p1)), .val (.int (own_sel r dr (1 : Int32) p1 p2)), .val (.int (own_sel r dr (2 : Int32) p2 (0 : Int32))), .val (.int (-1 : Int32))] [(.int (own_place cnt x0 x1 x2 q))])
                have hv84 : (own_place cnt x0 x1 x2 q) = (-1 : Int32) := by
                  have a0 := hc182_46
                  have a1 := hc234_53
                  have a2 := hc241_54
                  have a3 := hc253_58
                  have a4 := hc272_74
                  have b0 := hn
                  have b1 := hcfg
                  have b2 := hcnt
                  have b3 := hx0
                  have b4 := hx1
                  have b5 := hx2
                  have b6 := c_isub n (1 : Int32)
                  have b7 := rng32 n
                  have b8 := rng32 (n - (1 : Int32))
                  have b9 := rng32 cnt
                  simp only [Int32.lt_iff_toInt_lt, Int32.le_iff_toInt_le, Int64.lt_iff_toInt_lt, Int64.le_iff_toInt_le, ← Int32.toInt_inj, ← Int64.toInt_inj, own_t32_m1, own_t32_0, own_t32_1, own_t32_2, own_t32_3, own_t32_4, own_t32_5] at a0 a1 a2 a3 a4 b0 b1 b2 b3 b4 b5 b6 b7 b8 b9
                  unfold own_place
                  simp only [Int32.lt_iff_toInt_lt, Int32.le_iff_toInt_le, Int64.lt_iff_toInt_lt, Int64.le_iff_toInt_le, ← Int32.toInt_inj, ← Int64.toInt_inj, own_t32_m1, own_t32_0, own_t32_1, own_t32_2, own_t32_3, own_t32_4, own_t32_5]
                  repeat' split
                  all_goals first | rfl | omega
                refine own_iload X82 hx (pc' := 300) (hb hby at_298) rfl rfl ?_
                refine own_icmpNo X82 hx (pc' := 303) (hb hby at_300) (teq hv84).2 rfl ?_
                refine own_iconst X82 hx (pc' := 304) (1 : Int32) (hb hby at_303) rfl rfl ?_
                refine own_goto X82 hx (pc' := 308) (hb hby at_304) (by decide) (by decide) ?_
                refine own_retN X82 hx hlk hret (by simp) (hb hby at_308) (by decide) (by decide) ?_
                exact ⟨rfl, N83⟩
        · skip
          refine own_ifYes X51 hx (pc' := 250) (hb hby at_234) (flt hc234_53).2.2.2 (by decide) (by decide) ?_
          refine own_iload X51 hx (pc' := 252) (hb hby at_250) rfl rfl ?_
          refine own_iconst X51 hx (pc' := 253) (1 : Int32) (hb hby at_252) rfl rfl ?_
          by_cases hc253_85 : (1 : Int32) < n
          · skip
            refine own_icmpNo X51 hx (pc' := 256) (hb hby at_253) (tlt hc253_85).2.2.2 rfl ?_
            refine own_iload X51 hx (pc' := 258) (hb hby at_256) rfl rfl ?_
            refine own_iload X51 hx (pc' := 260) (hb hby at_258) rfl rfl ?_
            by_cases hc260_86 : (own_sel r dr (1 : Int32) p1 p2) = q
            · skip
              refine own_icmpNo X51 hx (pc' := 263) (hb hby at_260) (teq hc260_86).2 rfl ?_
              refine own_iconst X51 hx (pc' := 264) (1 : Int32) (hb hby at_263) rfl rfl ?_
              refine own_istore X51 hx (pc' := 266) (Ls' := #[.val (.int p0), .val (.int p1), .val (.int p2), .val (.int p3), .val (.int p4), .val (.int n), .val (.int dr), .val (.int r), .val (.int (((p4.toUInt32 >>> ((5 : Int32) &&& 31).toUInt32).toInt32) &&& (3 : Int32))), .val (.int q), .val (.int d), .val (.ref ch), .val (.ref nb1), .val (.int n), .val (.int (own_sel r dr (0 : Int32) p0 p1)), .val (.int (own_sel r dr (1 : Int32) p1 p2)), .val (.int (own_sel r dr (2 : Int32) p2 (0 : Int32))), .val (.int (1 : Int32))]) (hb hby at_264) rfl rfl ?_
              refine own_goto X51 hx (pc' := 291) (hb hby at_266) (by decide) (by decide) ?_
              refine own_aload X51 hx (pc' := 293) (hb hby at_291) rfl rfl rfl ?_
              refine own_iload X51 hx (pc' := 295) (hb hby at_293) rfl rfl ?_
              refine own_callV X51 hx (pc' := 298) hZ hown (Wd30 hw) (Wd32 hw) (Wd33 hw) (Wd34 hw) (Wd2 hw) (by decide) (rm_place l Z a0 hw [] ch b1 k1 z cnt x0 x1 x2 q h38 n0 Z40 hcnt3 hz F42 F43 F44) e51 F41 0 (by decide) (by decide) (by decide) (by decide) [(.int q)] [] (by rw [hml]; rfl) (lenOf pd_3 rfl) rfl rfl (Nat.le_of_eq rfl) (hb hby at_295) rfl (fun v87 T87 L87 X87 hQ87 => ?_)
              obtain ⟨rfl, Nq87, e87⟩ := hQ87
              have N88 := Fr.app N52 Nq87
              show own_G p.tables e below _ T87 (mkF m 298 #[.val (.int p0), .val (.int p1), .val (.int p2), .val (.int p3), .val (.int p4), .val (.int n), .val (.int dr), .val (.int r), .val (.int (((p4.toUInt32 >>> ((5 : Int32) &&& 31).toUInt32).toInt32) &&& (3 : Int32))), .val (.int q), .val (.int d), .val (.ref ch), .val (.ref nb1), .val (.int n), .val (.int (own_sel r dr (0 : Int32) p0 p1)), .val (.int (own_sel r dr (1 : Int32) p1 p2)), .val (.int (own_sel r dr (2 : Int32) p2 (0 : Int32))), .val (.int (1 : Int32))] [(.int (own_place cnt x0 x1 x2 q))])
              have hv89 : (own_place cnt x0 x1 x2 q) = (1 : Int32) := by
                have a0 := hc182_46
                have a1 := hc234_53
                have a2 := hc253_85
                have a3 := hc260_86
                have b0 := hn
                have b1 := hcfg
                have b2 := hcnt
                have b3 := hx0
                have b4 := hx1
                have b5 := hx2
                have b6 := c_isub n (1 : Int32)
                have b7 := rng32 n
                have b8 := rng32 (n - (1 : Int32))
                have b9 := rng32 cnt
                simp only [Int32.lt_iff_toInt_lt, Int32.le_iff_toInt_le, Int64.lt_iff_toInt_lt, Int64.le_iff_toInt_le, ← Int32.toInt_inj, ← Int64.toInt_inj, own_t32_m1, own_t32_0, own_t32_1, own_t32_2, own_t32_3, own_t32_4, own_t32_5] at a0 a1 a2 a3 b0 b1 b2 b3 b4 b5 b6 b7 b8 b9
                unfold own_place
                simp only [Int32.lt_iff_toInt_lt, Int32.le_iff_toInt_le, Int64.lt_iff_toInt_lt, Int64.le_iff_toInt_le, ← Int32.toInt_inj, ← Int64.toInt_inj, own_t32_m1, own_t32_0, own_t32_1, own_t32_2, own_t32_3, own_t32_4, own_t32_5]
                repeat' split
                all_goals first | rfl | omega
              refine own_iload X87 hx (pc' := 300) (hb hby at_298) rfl rfl ?_
              refine own_icmpNo X87 hx (pc' := 303) (hb hby at_300) (teq hv89).2 rfl ?_
              refine own_iconst X87 hx (pc' := 304) (1 : Int32) (hb hby at_303) rfl rfl ?_
              refine own_goto X87 hx (pc' := 308) (hb hby at_304) (by decide) (by decide) ?_
              refine own_retN X87 hx hlk hret (by simp) (hb hby at_308) (by decide) (by decide) ?_
              exact ⟨rfl, N88⟩
            · skip
              refine own_icmpYes X51 hx (pc' := 269) (hb hby at_260) (feq hc260_86).2 (by decide) (by decide) ?_
              refine own_iload X51 hx (pc' := 271) (hb hby at_269) rfl rfl ?_
              refine own_iconst X51 hx (pc' := 272) (2 : Int32) (hb hby at_271) rfl rfl ?_
              by_cases hc272_90 : (2 : Int32) < n
              · skip
                refine own_icmpNo X51 hx (pc' := 275) (hb hby at_272) (tlt hc272_90).2.2.2 rfl ?_
                refine own_iload X51 hx (pc' := 277) (hb hby at_275) rfl rfl ?_
                refine own_iload X51 hx (pc' := 279) (hb hby at_277) rfl rfl ?_
                by_cases hc279_91 : (own_sel r dr (2 : Int32) p2 (0 : Int32)) = q
                · skip
                  refine own_icmpNo X51 hx (pc' := 282) (hb hby at_279) (teq hc279_91).2 rfl ?_
                  refine own_iconst X51 hx (pc' := 283) (2 : Int32) (hb hby at_282) rfl rfl ?_
                  refine own_istore X51 hx (pc' := 285) (Ls' := #[.val (.int p0), .val (.int p1), .val (.int p2), .val (.int p3), .val (.int p4), .val (.int n), .val (.int dr), .val (.int r), .val (.int (((p4.toUInt32 >>> ((5 : Int32) &&& 31).toUInt32).toInt32) &&& (3 : Int32))), .val (.int q), .val (.int d), .val (.ref ch), .val (.ref nb1), .val (.int n), .val (.int (own_sel r dr (0 : Int32) p0 p1)), .val (.int (own_sel r dr (1 : Int32) p1 p2)), .val (.int (own_sel r dr (2 : Int32) p2 (0 : Int32))), .val (.int (2 : Int32))]) (hb hby at_283) rfl rfl ?_
                  refine own_goto X51 hx (pc' := 291) (hb hby at_285) (by decide) (by decide) ?_
                  refine own_aload X51 hx (pc' := 293) (hb hby at_291) rfl rfl rfl ?_
                  refine own_iload X51 hx (pc' := 295) (hb hby at_293) rfl rfl ?_
                  refine own_callV X51 hx (pc' := 298) hZ hown (Wd30 hw) (Wd32 hw) (Wd33 hw) (Wd34 hw) (Wd2 hw) (by decide) (rm_place l Z a0 hw [] ch b1 k1 z cnt x0 x1 x2 q h38 n0 Z40 hcnt3 hz F42 F43 F44) e51 F41 0 (by decide) (by decide) (by decide) (by decide) [(.int q)] [] (by rw [hml]; rfl) (lenOf pd_3 rfl) rfl rfl (Nat.le_of_eq rfl) (hb hby at_295) rfl (fun v92 T92 L92 X92 hQ92 => ?_)
                  obtain ⟨rfl, Nq92, e92⟩ := hQ92
                  have N93 := Fr.app N52 Nq92
                  show own_G p.tables e below _ T92 (mkF m 298 #[.val (.int p0), .val (.int p1), .val (.int p2), .val (.int p3), .val (.int p4), .val (.int n), .val (.int dr), .val (.int r), .val (.int (((p4.toUInt32 >>> ((5 : Int32) &&& 31).toUInt32).toInt32) &&& (3 : Int32))), .val (.int q), .val (.int d), .val (.ref ch), .val (.ref nb1), .val (.int n), .val (.int (own_sel r dr (0 : Int32) p0 p1)), .val (.int (own_sel r dr (1 : Int32) p1 p2)), .val (.int (own_sel r dr (2 : Int32) p2 (0 : Int32))), .val (.int (2 : Int32))] [(.int (own_place cnt x0 x1 x2 q))])
                  have hv94 : (own_place cnt x0 x1 x2 q) = (2 : Int32) := by
                    have a0 := hc182_46
                    have a1 := hc234_53
                    have a2 := hc253_85
                    have a3 := hc260_86
                    have a4 := hc272_90
                    have a5 := hc279_91
                    have b0 := hn
                    have b1 := hcfg
                    have b2 := hcnt
                    have b3 := hx0
                    have b4 := hx1
                    have b5 := hx2
                    have b6 := c_isub n (1 : Int32)
                    have b7 := rng32 n
                    have b8 := rng32 (n - (1 : Int32))
                    have b9 := rng32 cnt
                    simp only [Int32.lt_iff_toInt_lt, Int32.le_iff_toInt_le, Int64.lt_iff_toInt_lt, Int64.le_iff_toInt_le, ← Int32.toInt_inj, ← Int64.toInt_inj, own_t32_m1, own_t32_0, own_t32_1, own_t32_2, own_t32_3, own_t32_4, own_t32_5] at a0 a1 a2 a3 a4 a5 b0 b1 b2 b3 b4 b5 b6 b7 b8 b9
                    unfold own_place
                    simp only [Int32.lt_iff_toInt_lt, Int32.le_iff_toInt_le, Int64.lt_iff_toInt_lt, Int64.le_iff_toInt_le, ← Int32.toInt_inj, ← Int64.toInt_inj, own_t32_m1, own_t32_0, own_t32_1, own_t32_2, own_t32_3, own_t32_4, own_t32_5]
                    repeat' split
                    all_goals first | rfl | omega
                  refine own_iload X92 hx (pc' := 300) (hb hby at_298) rfl rfl ?_
                  refine own_icmpNo X92 hx (pc' := 303) (hb hby at_300) (teq hv94).2 rfl ?_
                  refine own_iconst X92 hx (pc' := 304) (1 : Int32) (hb hby at_303) rfl rfl ?_
                  refine own_goto X92 hx (pc' := 308) (hb hby at_304) (by decide) (by decide) ?_
                  refine own_retN X92 hx hlk hret (by simp) (hb hby at_308) (by decide) (by decide) ?_
                  exact ⟨rfl, N93⟩
                · skip
                  refine own_icmpYes X51 hx (pc' := 288) (hb hby at_279) (feq hc279_91).2 (by decide) (by decide) ?_
                  refine own_iconst X51 hx (pc' := 289) (-1 : Int32) (hb hby at_288) rfl rfl ?_
                  refine own_istore X51 hx (pc' := 291) (Ls' := #[.val (.int p0), .val (.int p1), .val (.int p2), .val (.int p3), .val (.int p4), .val (.int n), .val (.int dr), .val (.int r), .val (.int (((p4.toUInt32 >>> ((5 : Int32) &&& 31).toUInt32).toInt32) &&& (3 : Int32))), .val (.int q), .val (.int d), .val (.ref ch), .val (.ref nb1), .val (.int n), .val (.int (own_sel r dr (0 : Int32) p0 p1)), .val (.int (own_sel r dr (1 : Int32) p1 p2)), .val (.int (own_sel r dr (2 : Int32) p2 (0 : Int32))), .val (.int (-1 : Int32))]) (hb hby at_289) rfl rfl ?_
                  refine own_aload X51 hx (pc' := 293) (hb hby at_291) rfl rfl rfl ?_
                  refine own_iload X51 hx (pc' := 295) (hb hby at_293) rfl rfl ?_
                  refine own_callV X51 hx (pc' := 298) hZ hown (Wd30 hw) (Wd32 hw) (Wd33 hw) (Wd34 hw) (Wd2 hw) (by decide) (rm_place l Z a0 hw [] ch b1 k1 z cnt x0 x1 x2 q h38 n0 Z40 hcnt3 hz F42 F43 F44) e51 F41 0 (by decide) (by decide) (by decide) (by decide) [(.int q)] [] (by rw [hml]; rfl) (lenOf pd_3 rfl) rfl rfl (Nat.le_of_eq rfl) (hb hby at_295) rfl (fun v95 T95 L95 X95 hQ95 => ?_)
                  obtain ⟨rfl, Nq95, e95⟩ := hQ95
                  have N96 := Fr.app N52 Nq95
                  show own_G p.tables e below _ T95 (mkF m 298 #[.val (.int p0), .val (.int p1), .val (.int p2), .val (.int p3), .val (.int p4), .val (.int n), .val (.int dr), .val (.int r), .val (.int (((p4.toUInt32 >>> ((5 : Int32) &&& 31).toUInt32).toInt32) &&& (3 : Int32))), .val (.int q), .val (.int d), .val (.ref ch), .val (.ref nb1), .val (.int n), .val (.int (own_sel r dr (0 : Int32) p0 p1)), .val (.int (own_sel r dr (1 : Int32) p1 p2)), .val (.int (own_sel r dr (2 : Int32) p2 (0 : Int32))), .val (.int (-1 : Int32))] [(.int (own_place cnt x0 x1 x2 q))])
                  have hv97 : (own_place cnt x0 x1 x2 q) = (-1 : Int32) := by
                    have a0 := hc182_46
                    have a1 := hc234_53
                    have a2 := hc253_85
                    have a3 := hc260_86
                    have a4 := hc272_90
                    have a5 := hc279_91
                    have b0 := hn
                    have b1 := hcfg
                    have b2 := hcnt
                    have b3 := hx0
                    have b4 := hx1
                    have b5 := hx2
                    have b6 := c_isub n (1 : Int32)
                    have b7 := rng32 n
                    have b8 := rng32 (n - (1 : Int32))
                    have b9 := rng32 cnt
                    simp only [Int32.lt_iff_toInt_lt, Int32.le_iff_toInt_le, Int64.lt_iff_toInt_lt, Int64.le_iff_toInt_le, ← Int32.toInt_inj, ← Int64.toInt_inj, own_t32_m1, own_t32_0, own_t32_1, own_t32_2, own_t32_3, own_t32_4, own_t32_5] at a0 a1 a2 a3 a4 a5 b0 b1 b2 b3 b4 b5 b6 b7 b8 b9
                    unfold own_place
                    simp only [Int32.lt_iff_toInt_lt, Int32.le_iff_toInt_le, Int64.lt_iff_toInt_lt, Int64.le_iff_toInt_le, ← Int32.toInt_inj, ← Int64.toInt_inj, own_t32_m1, own_t32_0, own_t32_1, own_t32_2, own_t32_3, own_t32_4, own_t32_5]
                    repeat' split
                    all_goals first | rfl | omega
                  refine own_iload X95 hx (pc' := 300) (hb hby at_298) rfl rfl ?_
                  refine own_icmpNo X95 hx (pc' := 303) (hb hby at_300) (teq hv97).2 rfl ?_
                  refine own_iconst X95 hx (pc' := 304) (1 : Int32) (hb hby at_303) rfl rfl ?_
                  refine own_goto X95 hx (pc' := 308) (hb hby at_304) (by decide) (by decide) ?_
                  refine own_retN X95 hx hlk hret (by simp) (hb hby at_308) (by decide) (by decide) ?_
                  exact ⟨rfl, N96⟩
              · skip
                refine own_icmpYes X51 hx (pc' := 288) (hb hby at_272) (flt hc272_90).2.2.2 (by decide) (by decide) ?_
                refine own_iconst X51 hx (pc' := 289) (-1 : Int32) (hb hby at_288) rfl rfl ?_
                refine own_istore X51 hx (pc' := 291) (Ls' := #[.val (.int p0), .val (.int p1), .val (.int p2), .val (.int p3), .val (.int p4), .val (.int n), .val (.int dr), .val (.int r), .val (.int (((p4.toUInt32 >>> ((5 : Int32) &&& 31).toUInt32).toInt32) &&& (3 : Int32))), .val (.int q), .val (.int d), .val (.ref ch), .val (.ref nb1), .val (.int n), .val (.int (own_sel r dr (0 : Int32) p0 p1)), .val (.int (own_sel r dr (1 : Int32) p1 p2)), .val (.int (own_sel r dr (2 : Int32) p2 (0 : Int32))), .val (.int (-1 : Int32))]) (hb hby at_289) rfl rfl ?_
                refine own_aload X51 hx (pc' := 293) (hb hby at_291) rfl rfl rfl ?_
                refine own_iload X51 hx (pc' := 295) (hb hby at_293) rfl rfl ?_
                refine own_callV X51 hx (pc' := 298) hZ hown (Wd30 hw) (Wd32 hw) (Wd33 hw) (Wd34 hw) (Wd2 hw) (by decide) (rm_place l Z a0 hw [] ch b1 k1 z cnt x0 x1 x2 q h38 n0 Z40 hcnt3 hz F42 F43 F44) e51 F41 0 (by decide) (by decide) (by decide) (by decide) [(.int q)] [] (by rw [hml]; rfl) (lenOf pd_3 rfl) rfl rfl (Nat.le_of_eq rfl) (hb hby at_295) rfl (fun v98 T98 L98 X98 hQ98 => ?_)
                obtain ⟨rfl, Nq98, e98⟩ := hQ98
                have N99 := Fr.app N52 Nq98
                show own_G p.tables e below _ T98 (mkF m 298 #[.val (.int p0), .val (.int p1), .val (.int p2), .val (.int p3), .val (.int p4), .val (.int n), .val (.int dr), .val (.int r), .val (.int (((p4.toUInt32 >>> ((5 : Int32) &&& 31).toUInt32).toInt32) &&& (3 : Int32))), .val (.int q), .val (.int d), .val (.ref ch), .val (.ref nb1), .val (.int n), .val (.int (own_sel r dr (0 : Int32) p0 p1)), .val (.int (own_sel r dr (1 : Int32) p1 p2)), .val (.int (own_sel r dr (2 : Int32) p2 (0 : Int32))), .val (.int (-1 : Int32))] [(.int (own_place cnt x0 x1 x2 q))])
                have hv100 : (own_place cnt x0 x1 x2 q) = (-1 : Int32) := by
                  have a0 := hc182_46
                  have a1 := hc234_53
                  have a2 := hc253_85
                  have a3 := hc260_86
                  have a4 := hc272_90
                  have b0 := hn
                  have b1 := hcfg
                  have b2 := hcnt
                  have b3 := hx0
                  have b4 := hx1
                  have b5 := hx2
                  have b6 := c_isub n (1 : Int32)
                  have b7 := rng32 n
                  have b8 := rng32 (n - (1 : Int32))
                  have b9 := rng32 cnt
                  simp only [Int32.lt_iff_toInt_lt, Int32.le_iff_toInt_le, Int64.lt_iff_toInt_lt, Int64.le_iff_toInt_le, ← Int32.toInt_inj, ← Int64.toInt_inj, own_t32_m1, own_t32_0, own_t32_1, own_t32_2, own_t32_3, own_t32_4, own_t32_5] at a0 a1 a2 a3 a4 b0 b1 b2 b3 b4 b5 b6 b7 b8 b9
                  unfold own_place
                  simp only [Int32.lt_iff_toInt_lt, Int32.le_iff_toInt_le, Int64.lt_iff_toInt_lt, Int64.le_iff_toInt_le, ← Int32.toInt_inj, ← Int64.toInt_inj, own_t32_m1, own_t32_0, own_t32_1, own_t32_2, own_t32_3, own_t32_4, own_t32_5]
                  repeat' split
                  all_goals first | rfl | omega
                refine own_iload X98 hx (pc' := 300) (hb hby at_298) rfl rfl ?_
                refine own_icmpNo X98 hx (pc' := 303) (hb hby at_300) (teq hv100).2 rfl ?_
                refine own_iconst X98 hx (pc' := 304) (1 : Int32) (hb hby at_303) rfl rfl ?_
                refine own_goto X98 hx (pc' := 308) (hb hby at_304) (by decide) (by decide) ?_
                refine own_retN X98 hx hlk hret (by simp) (hb hby at_308) (by decide) (by decide) ?_
                exact ⟨rfl, N99⟩
          · skip
            refine own_icmpYes X51 hx (pc' := 269) (hb hby at_253) (flt hc253_85).2.2.2 (by decide) (by decide) ?_
            refine own_iload X51 hx (pc' := 271) (hb hby at_269) rfl rfl ?_
            refine own_iconst X51 hx (pc' := 272) (2 : Int32) (hb hby at_271) rfl rfl ?_
            by_cases hc272_101 : (2 : Int32) < n
            · skip
              refine own_icmpNo X51 hx (pc' := 275) (hb hby at_272) (tlt hc272_101).2.2.2 rfl ?_
              refine own_iload X51 hx (pc' := 277) (hb hby at_275) rfl rfl ?_
              refine own_iload X51 hx (pc' := 279) (hb hby at_277) rfl rfl ?_
              by_cases hc279_102 : (own_sel r dr (2 : Int32) p2 (0 : Int32)) = q
              · skip
                refine own_icmpNo X51 hx (pc' := 282) (hb hby at_279) (teq hc279_102).2 rfl ?_
                refine own_iconst X51 hx (pc' := 283) (2 : Int32) (hb hby at_282) rfl rfl ?_
                refine own_istore X51 hx (pc' := 285) (Ls' := #[.val (.int p0), .val (.int p1), .val (.int p2), .val (.int p3), .val (.int p4), .val (.int n), .val (.int dr), .val (.int r), .val (.int (((p4.toUInt32 >>> ((5 : Int32) &&& 31).toUInt32).toInt32) &&& (3 : Int32))), .val (.int q), .val (.int d), .val (.ref ch), .val (.ref nb1), .val (.int n), .val (.int (own_sel r dr (0 : Int32) p0 p1)), .val (.int (own_sel r dr (1 : Int32) p1 p2)), .val (.int (own_sel r dr (2 : Int32) p2 (0 : Int32))), .val (.int (2 : Int32))]) (hb hby at_283) rfl rfl ?_
                refine own_goto X51 hx (pc' := 291) (hb hby at_285) (by decide) (by decide) ?_
                refine own_aload X51 hx (pc' := 293) (hb hby at_291) rfl rfl rfl ?_
                refine own_iload X51 hx (pc' := 295) (hb hby at_293) rfl rfl ?_
                refine own_callV X51 hx (pc' := 298) hZ hown (Wd30 hw) (Wd32 hw) (Wd33 hw) (Wd34 hw) (Wd2 hw) (by decide) (rm_place l Z a0 hw [] ch b1 k1 z cnt x0 x1 x2 q h38 n0 Z40 hcnt3 hz F42 F43 F44) e51 F41 0 (by decide) (by decide) (by decide) (by decide) [(.int q)] [] (by rw [hml]; rfl) (lenOf pd_3 rfl) rfl rfl (Nat.le_of_eq rfl) (hb hby at_295) rfl (fun v103 T103 L103 X103 hQ103 => ?_)
                obtain ⟨rfl, Nq103, e103⟩ := hQ103
                have N104 := Fr.app N52 Nq103
                show own_G p.tables e below _ T103 (mkF m 298 #[.val (.int p0), .val (.int p1), .val (.int p2), .val (.int p3), .val (.int p4), .val (.int n), .val (.int dr), .val (.int r), .val (.int (((p4.toUInt32 >>> ((5 : Int32) &&& 31).toUInt32).toInt32) &&& (3 : Int32))), .val (.int q), .val (.int d), .val (.ref ch), .val (.ref nb1), .val (.int n), .val (.int (own_sel r dr (0 : Int32) p0 p1)), .val (.int (own_sel r dr (1 : Int32) p1 p2)), .val (.int (own_sel r dr (2 : Int32) p2 (0 : Int32))), .val (.int (2 : Int32))] [(.int (own_place cnt x0 x1 x2 q))])
                have hv105 : (own_place cnt x0 x1 x2 q) = (2 : Int32) := by
                  have a0 := hc182_46
                  have a1 := hc234_53
                  have a2 := hc253_85
                  have a3 := hc272_101
                  have a4 := hc279_102
                  have b0 := hn
                  have b1 := hcfg
                  have b2 := hcnt
                  have b3 := hx0
                  have b4 := hx1
                  have b5 := hx2
                  have b6 := c_isub n (1 : Int32)
                  have b7 := rng32 n
                  have b8 := rng32 (n - (1 : Int32))
                  have b9 := rng32 cnt
                  simp only [Int32.lt_iff_toInt_lt, Int32.le_iff_toInt_le, Int64.lt_iff_toInt_lt, Int64.le_iff_toInt_le, ← Int32.toInt_inj, ← Int64.toInt_inj, own_t32_m1, own_t32_0, own_t32_1, own_t32_2, own_t32_3, own_t32_4, own_t32_5] at a0 a1 a2 a3 a4 b0 b1 b2 b3 b4 b5 b6 b7 b8 b9
                  unfold own_place
                  simp only [Int32.lt_iff_toInt_lt, Int32.le_iff_toInt_le, Int64.lt_iff_toInt_lt, Int64.le_iff_toInt_le, ← Int32.toInt_inj, ← Int64.toInt_inj, own_t32_m1, own_t32_0, own_t32_1, own_t32_2, own_t32_3, own_t32_4, own_t32_5]
                  repeat' split
                  all_goals first | rfl | omega
                refine own_iload X103 hx (pc' := 300) (hb hby at_298) rfl rfl ?_
                refine own_icmpNo X103 hx (pc' := 303) (hb hby at_300) (teq hv105).2 rfl ?_
                refine own_iconst X103 hx (pc' := 304) (1 : Int32) (hb hby at_303) rfl rfl ?_
                refine own_goto X103 hx (pc' := 308) (hb hby at_304) (by decide) (by decide) ?_
                refine own_retN X103 hx hlk hret (by simp) (hb hby at_308) (by decide) (by decide) ?_
                exact ⟨rfl, N104⟩
              · skip
                refine own_icmpYes X51 hx (pc' := 288) (hb hby at_279) (feq hc279_102).2 (by decide) (by decide) ?_
                refine own_iconst X51 hx (pc' := 289) (-1 : Int32) (hb hby at_288) rfl rfl ?_
                refine own_istore X51 hx (pc' := 291) (Ls' := #[.val (.int p0), .val (.int p1), .val (.int p2), .val (.int p3), .val (.int p4), .val (.int n), .val (.int dr), .val (.int r), .val (.int (((p4.toUInt32 >>> ((5 : Int32) &&& 31).toUInt32).toInt32) &&& (3 : Int32))), .val (.int q), .val (.int d), .val (.ref ch), .val (.ref nb1), .val (.int n), .val (.int (own_sel r dr (0 : Int32) p0 p1)), .val (.int (own_sel r dr (1 : Int32) p1 p2)), .val (.int (own_sel r dr (2 : Int32) p2 (0 : Int32))), .val (.int (-1 : Int32))]) (hb hby at_289) rfl rfl ?_
                refine own_aload X51 hx (pc' := 293) (hb hby at_291) rfl rfl rfl ?_
                refine own_iload X51 hx (pc' := 295) (hb hby at_293) rfl rfl ?_
                refine own_callV X51 hx (pc' := 298) hZ hown (Wd30 hw) (Wd32 hw) (Wd33 hw) (Wd34 hw) (Wd2 hw) (by decide) (rm_place l Z a0 hw [] ch b1 k1 z cnt x0 x1 x2 q h38 n0 Z40 hcnt3 hz F42 F43 F44) e51 F41 0 (by decide) (by decide) (by decide) (by decide) [(.int q)] [] (by rw [hml]; rfl) (lenOf pd_3 rfl) rfl rfl (Nat.le_of_eq rfl) (hb hby at_295) rfl (fun v106 T106 L106 X106 hQ106 => ?_)
                obtain ⟨rfl, Nq106, e106⟩ := hQ106
                have N107 := Fr.app N52 Nq106
                show own_G p.tables e below _ T106 (mkF m 298 #[.val (.int p0), .val (.int p1), .val (.int p2), .val (.int p3), .val (.int p4), .val (.int n), .val (.int dr), .val (.int r), .val (.int (((p4.toUInt32 >>> ((5 : Int32) &&& 31).toUInt32).toInt32) &&& (3 : Int32))), .val (.int q), .val (.int d), .val (.ref ch), .val (.ref nb1), .val (.int n), .val (.int (own_sel r dr (0 : Int32) p0 p1)), .val (.int (own_sel r dr (1 : Int32) p1 p2)), .val (.int (own_sel r dr (2 : Int32) p2 (0 : Int32))), .val (.int (-1 : Int32))] [(.int (own_place cnt x0 x1 x2 q))])
                have hv108 : (own_place cnt x0 x1 x2 q) = (-1 : Int32) := by
                  have a0 := hc182_46
                  have a1 := hc234_53
                  have a2 := hc253_85
                  have a3 := hc272_101
                  have a4 := hc279_102
                  have b0 := hn
                  have b1 := hcfg
                  have b2 := hcnt
                  have b3 := hx0
                  have b4 := hx1
                  have b5 := hx2
                  have b6 := c_isub n (1 : Int32)
                  have b7 := rng32 n
                  have b8 := rng32 (n - (1 : Int32))
                  have b9 := rng32 cnt
                  simp only [Int32.lt_iff_toInt_lt, Int32.le_iff_toInt_le, Int64.lt_iff_toInt_lt, Int64.le_iff_toInt_le, ← Int32.toInt_inj, ← Int64.toInt_inj, own_t32_m1, own_t32_0, own_t32_1, own_t32_2, own_t32_3, own_t32_4, own_t32_5] at a0 a1 a2 a3 a4 b0 b1 b2 b3 b4 b5 b6 b7 b8 b9
                  unfold own_place
                  simp only [Int32.lt_iff_toInt_lt, Int32.le_iff_toInt_le, Int64.lt_iff_toInt_lt, Int64.le_iff_toInt_le, ← Int32.toInt_inj, ← Int64.toInt_inj, own_t32_m1, own_t32_0, own_t32_1, own_t32_2, own_t32_3, own_t32_4, own_t32_5]
                  repeat' split
                  all_goals first | rfl | omega
                refine own_iload X106 hx (pc' := 300) (hb hby at_298) rfl rfl ?_
                refine own_icmpNo X106 hx (pc' := 303) (hb hby at_300) (teq hv108).2 rfl ?_
                refine own_iconst X106 hx (pc' := 304) (1 : Int32) (hb hby at_303) rfl rfl ?_
                refine own_goto X106 hx (pc' := 308) (hb hby at_304) (by decide) (by decide) ?_
                refine own_retN X106 hx hlk hret (by simp) (hb hby at_308) (by decide) (by decide) ?_
                exact ⟨rfl, N107⟩
            · skip
              refine own_icmpYes X51 hx (pc' := 288) (hb hby at_272) (flt hc272_101).2.2.2 (by decide) (by decide) ?_
              refine own_iconst X51 hx (pc' := 289) (-1 : Int32) (hb hby at_288) rfl rfl ?_
              refine own_istore X51 hx (pc' := 291) (Ls' := #[.val (.int p0), .val (.int p1), .val (.int p2), .val (.int p3), .val (.int p4), .val (.int n), .val (.int dr), .val (.int r), .val (.int (((p4.toUInt32 >>> ((5 : Int32) &&& 31).toUInt32).toInt32) &&& (3 : Int32))), .val (.int q), .val (.int d), .val (.ref ch), .val (.ref nb1), .val (.int n), .val (.int (own_sel r dr (0 : Int32) p0 p1)), .val (.int (own_sel r dr (1 : Int32) p1 p2)), .val (.int (own_sel r dr (2 : Int32) p2 (0 : Int32))), .val (.int (-1 : Int32))]) (hb hby at_289) rfl rfl ?_
              refine own_aload X51 hx (pc' := 293) (hb hby at_291) rfl rfl rfl ?_
              refine own_iload X51 hx (pc' := 295) (hb hby at_293) rfl rfl ?_
              refine own_callV X51 hx (pc' := 298) hZ hown (Wd30 hw) (Wd32 hw) (Wd33 hw) (Wd34 hw) (Wd2 hw) (by decide) (rm_place l Z a0 hw [] ch b1 k1 z cnt x0 x1 x2 q h38 n0 Z40 hcnt3 hz F42 F43 F44) e51 F41 0 (by decide) (by decide) (by decide) (by decide) [(.int q)] [] (by rw [hml]; rfl) (lenOf pd_3 rfl) rfl rfl (Nat.le_of_eq rfl) (hb hby at_295) rfl (fun v109 T109 L109 X109 hQ109 => ?_)
              obtain ⟨rfl, Nq109, e109⟩ := hQ109
              have N110 := Fr.app N52 Nq109
              show own_G p.tables e below _ T109 (mkF m 298 #[.val (.int p0), .val (.int p1), .val (.int p2), .val (.int p3), .val (.int p4), .val (.int n), .val (.int dr), .val (.int r), .val (.int (((p4.toUInt32 >>> ((5 : Int32) &&& 31).toUInt32).toInt32) &&& (3 : Int32))), .val (.int q), .val (.int d), .val (.ref ch), .val (.ref nb1), .val (.int n), .val (.int (own_sel r dr (0 : Int32) p0 p1)), .val (.int (own_sel r dr (1 : Int32) p1 p2)), .val (.int (own_sel r dr (2 : Int32) p2 (0 : Int32))), .val (.int (-1 : Int32))] [(.int (own_place cnt x0 x1 x2 q))])
              have hv111 : (own_place cnt x0 x1 x2 q) = (-1 : Int32) := by
                have a0 := hc182_46
                have a1 := hc234_53
                have a2 := hc253_85
                have a3 := hc272_101
                have b0 := hn
                have b1 := hcfg
                have b2 := hcnt
                have b3 := hx0
                have b4 := hx1
                have b5 := hx2
                have b6 := c_isub n (1 : Int32)
                have b7 := rng32 n
                have b8 := rng32 (n - (1 : Int32))
                have b9 := rng32 cnt
                simp only [Int32.lt_iff_toInt_lt, Int32.le_iff_toInt_le, Int64.lt_iff_toInt_lt, Int64.le_iff_toInt_le, ← Int32.toInt_inj, ← Int64.toInt_inj, own_t32_m1, own_t32_0, own_t32_1, own_t32_2, own_t32_3, own_t32_4, own_t32_5] at a0 a1 a2 a3 b0 b1 b2 b3 b4 b5 b6 b7 b8 b9
                unfold own_place
                simp only [Int32.lt_iff_toInt_lt, Int32.le_iff_toInt_le, Int64.lt_iff_toInt_lt, Int64.le_iff_toInt_le, ← Int32.toInt_inj, ← Int64.toInt_inj, own_t32_m1, own_t32_0, own_t32_1, own_t32_2, own_t32_3, own_t32_4, own_t32_5]
                repeat' split
                all_goals first | rfl | omega
              refine own_iload X109 hx (pc' := 300) (hb hby at_298) rfl rfl ?_
              refine own_icmpNo X109 hx (pc' := 303) (hb hby at_300) (teq hv111).2 rfl ?_
              refine own_iconst X109 hx (pc' := 304) (1 : Int32) (hb hby at_303) rfl rfl ?_
              refine own_goto X109 hx (pc' := 308) (hb hby at_304) (by decide) (by decide) ?_
              refine own_retN X109 hx hlk hret (by simp) (hb hby at_308) (by decide) (by decide) ?_
              exact ⟨rfl, N110⟩
      · skip
        refine own_ifNo X38 hx (pc' := 185) (hb hby at_182) (feq hc182_46).1 rfl ?_
        refine own_iload X38 hx (pc' := 187) (hb hby at_185) rfl rfl ?_
        refine own_iconst X38 hx (pc' := 188) (1 : Int32) (hb hby at_187) rfl rfl ?_
        refine own_isub X38 hx (pc' := 189) (hb hby at_188) rfl rfl ?_
        refine own_goto X38 hx (pc' := 194) (hb hby at_189) (by decide) (by decide) ?_
        refine own_istore X38 hx (pc' := 196) (Ls' := #[.val (.int p0), .val (.int p1), .val (.int p2), .val (.int p3), .val (.int p4), .val (.int n), .val (.int dr), .val (.int r), .val (.int (((p4.toUInt32 >>> ((5 : Int32) &&& 31).toUInt32).toInt32) &&& (3 : Int32))), .val (.int q), .val (.int d), .val (.ref ch), .val (.ref nb1), .val (.int (n - (1 : Int32))), .unset, .unset, .unset, .unset]) (hb hby at_194) rfl rfl ?_
        refine own_aload X38 hx (pc' := 198) (hb hby at_196) rfl rfl rfl ?_
        refine own_iload X38 hx (pc' := 200) (hb hby at_198) rfl rfl ?_
        refine own_iload X38 hx (pc' := 202) (hb hby at_200) rfl rfl ?_
        refine own_iconst X38 hx (pc' := 203) (0 : Int32) (hb hby at_202) rfl rfl ?_
        refine own_callS X38 hx (pc' := 206) hZ hown (Wd26 hw) (Wd27 hw) (Wd28 hw) (Wd29 hw) (by decide) (rm_at0 l Z a0 hw [] nb1 kc1 r dr p0 p1 p2 (0 : Int32) h38 n0 Z40 F45) e38 0 (by decide) (by decide) (by decide) (by decide) [(.ref nb1), (.int r), (.int dr), (.int (0 : Int32))] [] (by rw [hml]; rfl) (lenOf pd_2 rfl) rfl rfl (Nat.le_of_eq rfl) (hb hby at_203) rfl (fun v112 T112 L112 X112 hQ112 => ?_)
        obtain ⟨rfl, Nq112, e112⟩ := hQ112
        have N113 := Fr.app N39 Nq112
        show own_G p.tables e below _ T112 (mkF m 206 #[.val (.int p0), .val (.int p1), .val (.int p2), .val (.int p3), .val (.int p4), .val (.int n), .val (.int dr), .val (.int r), .val (.int (((p4.toUInt32 >>> ((5 : Int32) &&& 31).toUInt32).toInt32) &&& (3 : Int32))), .val (.int q), .val (.int d), .val (.ref ch), .val (.ref nb1), .val (.int (n - (1 : Int32))), .unset, .unset, .unset, .unset] [(.int (own_sel r dr (0 : Int32) p0 p1))])
        refine own_istore X112 hx (pc' := 208) (Ls' := #[.val (.int p0), .val (.int p1), .val (.int p2), .val (.int p3), .val (.int p4), .val (.int n), .val (.int dr), .val (.int r), .val (.int (((p4.toUInt32 >>> ((5 : Int32) &&& 31).toUInt32).toInt32) &&& (3 : Int32))), .val (.int q), .val (.int d), .val (.ref ch), .val (.ref nb1), .val (.int (n - (1 : Int32))), .val (.int (own_sel r dr (0 : Int32) p0 p1)), .unset, .unset, .unset]) (hb hby at_206) rfl rfl ?_
        refine own_aload X112 hx (pc' := 210) (hb hby at_208) rfl rfl rfl ?_
        refine own_iload X112 hx (pc' := 212) (hb hby at_210) rfl rfl ?_
        refine own_iload X112 hx (pc' := 214) (hb hby at_212) rfl rfl ?_
        refine own_iconst X112 hx (pc' := 215) (1 : Int32) (hb hby at_214) rfl rfl ?_
        refine own_callS X112 hx (pc' := 218) hZ hown (Wd26 hw) (Wd27 hw) (Wd28 hw) (Wd29 hw) (by decide) (rm_at1 l Z a0 hw [] nb1 kc1 r dr p0 p1 p2 (0 : Int32) h38 n0 Z40 F45) e112 0 (by decide) (by decide) (by decide) (by decide) [(.ref nb1), (.int r), (.int dr), (.int (1 : Int32))] [] (by rw [hml]; rfl) (lenOf pd_2 rfl) rfl rfl (Nat.le_of_eq rfl) (hb hby at_215) rfl (fun v114 T114 L114 X114 hQ114 => ?_)
        obtain ⟨rfl, Nq114, e114⟩ := hQ114
        have N115 := Fr.app N113 Nq114
        show own_G p.tables e below _ T114 (mkF m 218 #[.val (.int p0), .val (.int p1), .val (.int p2), .val (.int p3), .val (.int p4), .val (.int n), .val (.int dr), .val (.int r), .val (.int (((p4.toUInt32 >>> ((5 : Int32) &&& 31).toUInt32).toInt32) &&& (3 : Int32))), .val (.int q), .val (.int d), .val (.ref ch), .val (.ref nb1), .val (.int (n - (1 : Int32))), .val (.int (own_sel r dr (0 : Int32) p0 p1)), .unset, .unset, .unset] [(.int (own_sel r dr (1 : Int32) p1 p2))])
        refine own_istore X114 hx (pc' := 220) (Ls' := #[.val (.int p0), .val (.int p1), .val (.int p2), .val (.int p3), .val (.int p4), .val (.int n), .val (.int dr), .val (.int r), .val (.int (((p4.toUInt32 >>> ((5 : Int32) &&& 31).toUInt32).toInt32) &&& (3 : Int32))), .val (.int q), .val (.int d), .val (.ref ch), .val (.ref nb1), .val (.int (n - (1 : Int32))), .val (.int (own_sel r dr (0 : Int32) p0 p1)), .val (.int (own_sel r dr (1 : Int32) p1 p2)), .unset, .unset]) (hb hby at_218) rfl rfl ?_
        refine own_aload X114 hx (pc' := 222) (hb hby at_220) rfl rfl rfl ?_
        refine own_iload X114 hx (pc' := 224) (hb hby at_222) rfl rfl ?_
        refine own_iload X114 hx (pc' := 226) (hb hby at_224) rfl rfl ?_
        refine own_iconst X114 hx (pc' := 227) (2 : Int32) (hb hby at_226) rfl rfl ?_
        refine own_callS X114 hx (pc' := 230) hZ hown (Wd26 hw) (Wd27 hw) (Wd28 hw) (Wd29 hw) (by decide) (rm_at2 l Z a0 hw [] nb1 kc1 r dr p0 p1 p2 (0 : Int32) h38 n0 Z40 F45) e114 0 (by decide) (by decide) (by decide) (by decide) [(.ref nb1), (.int r), (.int dr), (.int (2 : Int32))] [] (by rw [hml]; rfl) (lenOf pd_2 rfl) rfl rfl (Nat.le_of_eq rfl) (hb hby at_227) rfl (fun v116 T116 L116 X116 hQ116 => ?_)
        obtain ⟨rfl, Nq116, e116⟩ := hQ116
        have N117 := Fr.app N115 Nq116
        show own_G p.tables e below _ T116 (mkF m 230 #[.val (.int p0), .val (.int p1), .val (.int p2), .val (.int p3), .val (.int p4), .val (.int n), .val (.int dr), .val (.int r), .val (.int (((p4.toUInt32 >>> ((5 : Int32) &&& 31).toUInt32).toInt32) &&& (3 : Int32))), .val (.int q), .val (.int d), .val (.ref ch), .val (.ref nb1), .val (.int (n - (1 : Int32))), .val (.int (own_sel r dr (0 : Int32) p0 p1)), .val (.int (own_sel r dr (1 : Int32) p1 p2)), .unset, .unset] [(.int (own_sel r dr (2 : Int32) p2 (0 : Int32)))])
        refine own_istore X116 hx (pc' := 232) (Ls' := #[.val (.int p0), .val (.int p1), .val (.int p2), .val (.int p3), .val (.int p4), .val (.int n), .val (.int dr), .val (.int r), .val (.int (((p4.toUInt32 >>> ((5 : Int32) &&& 31).toUInt32).toInt32) &&& (3 : Int32))), .val (.int q), .val (.int d), .val (.ref ch), .val (.ref nb1), .val (.int (n - (1 : Int32))), .val (.int (own_sel r dr (0 : Int32) p0 p1)), .val (.int (own_sel r dr (1 : Int32) p1 p2)), .val (.int (own_sel r dr (2 : Int32) p2 (0 : Int32))), .unset]) (hb hby at_230) rfl rfl ?_
        refine own_iload X116 hx (pc' := 234) (hb hby at_232) rfl rfl ?_
        by_cases hc234_118 : (0 : Int32) < (n - (1 : Int32))
        · skip
          refine own_ifNo X116 hx (pc' := 237) (hb hby at_234) (tlt hc234_118).2.2.2 rfl ?_
          refine own_iload X116 hx (pc' := 239) (hb hby at_237) rfl rfl ?_
          refine own_iload X116 hx (pc' := 241) (hb hby at_239) rfl rfl ?_
          by_cases hc241_119 : (own_sel r dr (0 : Int32) p0 p1) = q
          · skip
            refine own_icmpNo X116 hx (pc' := 244) (hb hby at_241) (teq hc241_119).2 rfl ?_
            refine own_iconst X116 hx (pc' := 245) (0 : Int32) (hb hby at_244) rfl rfl ?_
            refine own_istore X116 hx (pc' := 247) (Ls' := #[.val (.int p0), .val (.int p1), .val (.int p2), .val (.int p3), .val (.int p4), .val (.int n), .val (.int dr), .val (.int r), .val (.int (((p4.toUInt32 >>> ((5 : Int32) &&& 31).toUInt32).toInt32) &&& (3 : Int32))), .val (.int q), .val (.int d), .val (.ref ch), .val (.ref nb1), .val (.int (n - (1 : Int32))), .val (.int (own_sel r dr (0 : Int32) p0 p1)), .val (.int (own_sel r dr (1 : Int32) p1 p2)), .val (.int (own_sel r dr (2 : Int32) p2 (0 : Int32))), .val (.int (0 : Int32))]) (hb hby at_245) rfl rfl ?_
            refine own_goto X116 hx (pc' := 291) (hb hby at_247) (by decide) (by decide) ?_
            refine own_aload X116 hx (pc' := 293) (hb hby at_291) rfl rfl rfl ?_
            refine own_iload X116 hx (pc' := 295) (hb hby at_293) rfl rfl ?_
            refine own_callV X116 hx (pc' := 298) hZ hown (Wd30 hw) (Wd32 hw) (Wd33 hw) (Wd34 hw) (Wd2 hw) (by decide) (rm_place l Z a0 hw [] ch b1 k1 z cnt x0 x1 x2 q h38 n0 Z40 hcnt3 hz F42 F43 F44) e116 F41 0 (by decide) (by decide) (by decide) (by decide) [(.int q)] [] (by rw [hml]; rfl) (lenOf pd_3 rfl) rfl rfl (Nat.le_of_eq rfl) (hb hby at_295) rfl (fun v120 T120 L120 X120 hQ120 => ?_)
            obtain ⟨rfl, Nq120, e120⟩ := hQ120
            have N121 := Fr.app N117 Nq120
            show own_G p.tables e below _ T120 (mkF m 298 #[.val (.int p0), .val (.int p1), .val (.int p2), .val (.int p3), .val (.int p4), .val (.int n), .val (.int dr), .val (.int r), .val (.int (((p4.toUInt32 >>> ((5 : Int32) &&& 31).toUInt32).toInt32) &&& (3 : Int32))), .val (.int q), .val (.int d), .val (.ref ch), .val (.ref nb1), .val (.int (n - (1 : Int32))), .val (.int (own_sel r dr (0 : Int32) p0 p1)), .val (.int (own_sel r dr (1 : Int32) p1 p2)), .val (.int (own_sel r dr (2 : Int32) p2 (0 : Int32))), .val (.int (0 : Int32))] [(.int (own_place cnt x0 x1 x2 q))])
            have hv122 : (own_place cnt x0 x1 x2 q) = (0 : Int32) := by
              have a0 := hc182_46
              have a1 := hc234_118
              have a2 := hc241_119
              have b0 := hn
              have b1 := hcfg
              have b2 := hcnt
              have b3 := hx0
              have b4 := hx1
              have b5 := hx2
              have b6 := c_isub n (1 : Int32)
              have b7 := rng32 n
              have b8 := rng32 (n - (1 : Int32))
              have b9 := rng32 cnt
              simp only [Int32.lt_iff_toInt_lt, Int32.le_iff_toInt_le, Int64.lt_iff_toInt_lt, Int64.le_iff_toInt_le, ← Int32.toInt_inj, ← Int64.toInt_inj, own_t32_m1, own_t32_0, own_t32_1, own_t32_2, own_t32_3, own_t32_4, own_t32_5] at a0 a1 a2 b0 b1 b2 b3 b4 b5 b6 b7 b8 b9
              unfold own_place
              simp only [Int32.lt_iff_toInt_lt, Int32.le_iff_toInt_le, Int64.lt_iff_toInt_lt, Int64.le_iff_toInt_le, ← Int32.toInt_inj, ← Int64.toInt_inj, own_t32_m1, own_t32_0, own_t32_1, own_t32_2, own_t32_3, own_t32_4, own_t32_5]
              repeat' split
              all_goals first | rfl | omega
            refine own_iload X120 hx (pc' := 300) (hb hby at_298) rfl rfl ?_
            refine own_icmpNo X120 hx (pc' := 303) (hb hby at_300) (teq hv122).2 rfl ?_
            refine own_iconst X120 hx (pc' := 304) (1 : Int32) (hb hby at_303) rfl rfl ?_
            refine own_goto X120 hx (pc' := 308) (hb hby at_304) (by decide) (by decide) ?_
            refine own_retN X120 hx hlk hret (by simp) (hb hby at_308) (by decide) (by decide) ?_
            exact ⟨rfl, N121⟩
          · skip
            refine own_icmpYes X116 hx (pc' := 250) (hb hby at_241) (feq hc241_119).2 (by decide) (by decide) ?_
            refine own_iload X116 hx (pc' := 252) (hb hby at_250) rfl rfl ?_
            refine own_iconst X116 hx (pc' := 253) (1 : Int32) (hb hby at_252) rfl rfl ?_
            by_cases hc253_123 : (1 : Int32) < (n - (1 : Int32))
            · skip
              refine own_icmpNo X116 hx (pc' := 256) (hb hby at_253) (tlt hc253_123).2.2.2 rfl ?_
              refine own_iload X116 hx (pc' := 258) (hb hby at_256) rfl rfl ?_
              refine own_iload X116 hx (pc' := 260) (hb hby at_258) rfl rfl ?_
              by_cases hc260_124 : (own_sel r dr (1 : Int32) p1 p2) = q
              · skip
                refine own_icmpNo X116 hx (pc' := 263) (hb hby at_260) (teq hc260_124).2 rfl ?_
                refine own_iconst X116 hx (pc' := 264) (1 : Int32) (hb hby at_263) rfl rfl ?_
                refine own_istore X116 hx (pc' := 266) (Ls' := #[.val (.int p0), .val (.int p1), .val (.int p2), .val (.int p3), .val (.int p4), .val (.int n), .val (.int dr), .val (.int r), .val (.int (((p4.toUInt32 >>> ((5 : Int32) &&& 31).toUInt32).toInt32) &&& (3 : Int32))), .val (.int q), .val (.int d), .val (.ref ch), .val (.ref nb1), .val (.int (n - (1 : Int32))), .val (.int (own_sel r dr (0 : Int32) p0 p1)), .val (.int (own_sel r dr (1 : Int32) p1 p2)), .val (.int (own_sel r dr (2 : Int32) p2 (0 : Int32))), .val (.int (1 : Int32))]) (hb hby at_264) rfl rfl ?_
                refine own_goto X116 hx (pc' := 291) (hb hby at_266) (by decide) (by decide) ?_
                refine own_aload X116 hx (pc' := 293) (hb hby at_291) rfl rfl rfl ?_
                refine own_iload X116 hx (pc' := 295) (hb hby at_293) rfl rfl ?_
                refine own_callV X116 hx (pc' := 298) hZ hown (Wd30 hw) (Wd32 hw) (Wd33 hw) (Wd34 hw) (Wd2 hw) (by decide) (rm_place l Z a0 hw [] ch b1 k1 z cnt x0 x1 x2 q h38 n0 Z40 hcnt3 hz F42 F43 F44) e116 F41 0 (by decide) (by decide) (by decide) (by decide) [(.int q)] [] (by rw [hml]; rfl) (lenOf pd_3 rfl) rfl rfl (Nat.le_of_eq rfl) (hb hby at_295) rfl (fun v125 T125 L125 X125 hQ125 => ?_)
                obtain ⟨rfl, Nq125, e125⟩ := hQ125
                have N126 := Fr.app N117 Nq125
                show own_G p.tables e below _ T125 (mkF m 298 #[.val (.int p0), .val (.int p1), .val (.int p2), .val (.int p3), .val (.int p4), .val (.int n), .val (.int dr), .val (.int r), .val (.int (((p4.toUInt32 >>> ((5 : Int32) &&& 31).toUInt32).toInt32) &&& (3 : Int32))), .val (.int q), .val (.int d), .val (.ref ch), .val (.ref nb1), .val (.int (n - (1 : Int32))), .val (.int (own_sel r dr (0 : Int32) p0 p1)), .val (.int (own_sel r dr (1 : Int32) p1 p2)), .val (.int (own_sel r dr (2 : Int32) p2 (0 : Int32))), .val (.int (1 : Int32))] [(.int (own_place cnt x0 x1 x2 q))])
                have hv127 : (own_place cnt x0 x1 x2 q) = (1 : Int32) := by
                  have a0 := hc182_46
                  have a1 := hc234_118
                  have a2 := hc241_119
                  have a3 := hc253_123
                  have a4 := hc260_124
                  have b0 := hn
                  have b1 := hcfg
                  have b2 := hcnt
                  have b3 := hx0
                  have b4 := hx1
                  have b5 := hx2
                  have b6 := c_isub n (1 : Int32)
                  have b7 := rng32 n
                  have b8 := rng32 (n - (1 : Int32))
                  have b9 := rng32 cnt
                  simp only [Int32.lt_iff_toInt_lt, Int32.le_iff_toInt_le, Int64.lt_iff_toInt_lt, Int64.le_iff_toInt_le, ← Int32.toInt_inj, ← Int64.toInt_inj, own_t32_m1, own_t32_0, own_t32_1, own_t32_2, own_t32_3, own_t32_4, own_t32_5] at a0 a1 a2 a3 a4 b0 b1 b2 b3 b4 b5 b6 b7 b8 b9
                  unfold own_place
                  simp only [Int32.lt_iff_toInt_lt, Int32.le_iff_toInt_le, Int64.lt_iff_toInt_lt, Int64.le_iff_toInt_le, ← Int32.toInt_inj, ← Int64.toInt_inj, own_t32_m1, own_t32_0, own_t32_1, own_t32_2, own_t32_3, own_t32_4, own_t32_5]
                  repeat' split
                  all_goals first | rfl | omega
                refine own_iload X125 hx (pc' := 300) (hb hby at_298) rfl rfl ?_
                refine own_icmpNo X125 hx (pc' := 303) (hb hby at_300) (teq hv127).2 rfl ?_
                refine own_iconst X125 hx (pc' := 304) (1 : Int32) (hb hby at_303) rfl rfl ?_
                refine own_goto X125 hx (pc' := 308) (hb hby at_304) (by decide) (by decide) ?_
                refine own_retN X125 hx hlk hret (by simp) (hb hby at_308) (by decide) (by decide) ?_
                exact ⟨rfl, N126⟩
              · skip
                refine own_icmpYes X116 hx (pc' := 269) (hb hby at_260) (feq hc260_124).2 (by decide) (by decide) ?_
                refine own_iload X116 hx (pc' := 271) (hb hby at_269) rfl rfl ?_
                refine own_iconst X116 hx (pc' := 272) (2 : Int32) (hb hby at_271) rfl rfl ?_
                by_cases hc272_128 : (2 : Int32) < (n - (1 : Int32))
                · skip
                  refine own_icmpNo X116 hx (pc' := 275) (hb hby at_272) (tlt hc272_128).2.2.2 rfl ?_
                  refine own_iload X116 hx (pc' := 277) (hb hby at_275) rfl rfl ?_
                  refine own_iload X116 hx (pc' := 279) (hb hby at_277) rfl rfl ?_
                  by_cases hc279_129 : (own_sel r dr (2 : Int32) p2 (0 : Int32)) = q
                  · skip
                    refine own_icmpNo X116 hx (pc' := 282) (hb hby at_279) (teq hc279_129).2 rfl ?_
                    refine own_iconst X116 hx (pc' := 283) (2 : Int32) (hb hby at_282) rfl rfl ?_
                    refine own_istore X116 hx (pc' := 285) (Ls' := #[.val (.int p0), .val (.int p1), .val (.int p2), .val (.int p3), .val (.int p4), .val (.int n), .val (.int dr), .val (.int r), .val (.int (((p4.toUInt32 >>> ((5 : Int32) &&& 31).toUInt32).toInt32) &&& (3 : Int32))), .val (.int q), .val (.int d), .val (.ref ch), .val (.ref nb1), .val (.int (n - (1 : Int32))), .val (.int (own_sel r dr (0 : Int32) p0 p1)), .val (.int (own_sel r dr (1 : Int32) p1 p2)), .val (.int (own_sel r dr (2 : Int32) p2 (0 : Int32))), .val (.int (2 : Int32))]) (hb hby at_283) rfl rfl ?_
                    refine own_goto X116 hx (pc' := 291) (hb hby at_285) (by decide) (by decide) ?_
                    refine own_aload X116 hx (pc' := 293) (hb hby at_291) rfl rfl rfl ?_
                    refine own_iload X116 hx (pc' := 295) (hb hby at_293) rfl rfl ?_
                    refine own_callV X116 hx (pc' := 298) hZ hown (Wd30 hw) (Wd32 hw) (Wd33 hw) (Wd34 hw) (Wd2 hw) (by decide) (rm_place l Z a0 hw [] ch b1 k1 z cnt x0 x1 x2 q h38 n0 Z40 hcnt3 hz F42 F43 F44) e116 F41 0 (by decide) (by decide) (by decide) (by decide) [(.int q)] [] (by rw [hml]; rfl) (lenOf pd_3 rfl) rfl rfl (Nat.le_of_eq rfl) (hb hby at_295) rfl (fun v130 T130 L130 X130 hQ130 => ?_)
                    obtain ⟨rfl, Nq130, e130⟩ := hQ130
                    have N131 := Fr.app N117 Nq130
                    show own_G p.tables e below _ T130 (mkF m 298 #[.val (.int p0), .val (.int p1), .val (.int p2), .val (.int p3), .val (.int p4), .val (.int n), .val (.int dr), .val (.int r), .val (.int (((p4.toUInt32 >>> ((5 : Int32) &&& 31).toUInt32).toInt32) &&& (3 : Int32))), .val (.int q), .val (.int d), .val (.ref ch), .val (.ref nb1), .val (.int (n - (1 : Int32))), .val (.int (own_sel r dr (0 : Int32) p0 p1)), .val (.int (own_sel r dr (1 : Int32) p1 p2)), .val (.int (own_sel r dr (2 : Int32) p2 (0 : Int32))), .val (.int (2 : Int32))] [(.int (own_place cnt x0 x1 x2 q))])
                    have hv132 : (own_place cnt x0 x1 x2 q) = (2 : Int32) := by
                      have a0 := hc182_46
                      have a1 := hc234_118
                      have a2 := hc241_119
                      have a3 := hc253_123
                      have a4 := hc260_124
                      have a5 := hc272_128
                      have a6 := hc279_129
                      have b0 := hn
                      have b1 := hcfg
                      have b2 := hcnt
                      have b3 := hx0
                      have b4 := hx1
                      have b5 := hx2
                      have b6 := c_isub n (1 : Int32)
                      have b7 := rng32 n
                      have b8 := rng32 (n - (1 : Int32))
                      have b9 := rng32 cnt
                      simp only [Int32.lt_iff_toInt_lt, Int32.le_iff_toInt_le, Int64.lt_iff_toInt_lt, Int64.le_iff_toInt_le, ← Int32.toInt_inj, ← Int64.toInt_inj, own_t32_m1, own_t32_0, own_t32_1, own_t32_2, own_t32_3, own_t32_4, own_t32_5] at a0 a1 a2 a3 a4 a5 a6 b0 b1 b2 b3 b4 b5 b6 b7 b8 b9
                      unfold own_place
                      simp only [Int32.lt_iff_toInt_lt, Int32.le_iff_toInt_le, Int64.lt_iff_toInt_lt, Int64.le_iff_toInt_le, ← Int32.toInt_inj, ← Int64.toInt_inj, own_t32_m1, own_t32_0, own_t32_1, own_t32_2, own_t32_3, own_t32_4, own_t32_5]
                      repeat' split
                      all_goals first | rfl | omega
                    refine own_iload X130 hx (pc' := 300) (hb hby at_298) rfl rfl ?_
                    refine own_icmpNo X130 hx (pc' := 303) (hb hby at_300) (teq hv132).2 rfl ?_
                    refine own_iconst X130 hx (pc' := 304) (1 : Int32) (hb hby at_303) rfl rfl ?_
                    refine own_goto X130 hx (pc' := 308) (hb hby at_304) (by decide) (by decide) ?_
                    refine own_retN X130 hx hlk hret (by simp) (hb hby at_308) (by decide) (by decide) ?_
                    exact ⟨rfl, N131⟩
                  · skip
                    refine own_icmpYes X116 hx (pc' := 288) (hb hby at_279) (feq hc279_129).2 (by decide) (by decide) ?_
                    refine own_iconst X116 hx (pc' := 289) (-1 : Int32) (hb hby at_288) rfl rfl ?_
                    refine own_istore X116 hx (pc' := 291) (Ls' := #[.val (.int p0), .val (.int p1), .val (.int p2), .val (.int p3), .val (.int p4), .val (.int n), .val (.int dr), .val (.int r), .val (.int (((p4.toUInt32 >>> ((5 : Int32) &&& 31).toUInt32).toInt32) &&& (3 : Int32))), .val (.int q), .val (.int d), .val (.ref ch), .val (.ref nb1), .val (.int (n - (1 : Int32))), .val (.int (own_sel r dr (0 : Int32) p0 p1)), .val (.int (own_sel r dr (1 : Int32) p1 p2)), .val (.int (own_sel r dr (2 : Int32) p2 (0 : Int32))), .val (.int (-1 : Int32))]) (hb hby at_289) rfl rfl ?_
                    refine own_aload X116 hx (pc' := 293) (hb hby at_291) rfl rfl rfl ?_
                    refine own_iload X116 hx (pc' := 295) (hb hby at_293) rfl rfl ?_
                    refine own_callV X116 hx (pc' := 298) hZ hown (Wd30 hw) (Wd32 hw) (Wd33 hw) (Wd34 hw) (Wd2 hw) (by decide) (rm_place l Z a0 hw [] ch b1 k1 z cnt x0 x1 x2 q h38 n0 Z40 hcnt3 hz F42 F43 F44) e116 F41 0 (by decide) (by decide) (by decide) (by decide) [(.int q)] [] (by rw [hml]; rfl) (lenOf pd_3 rfl) rfl rfl (Nat.le_of_eq rfl) (hb hby at_295) rfl (fun v133 T133 L133 X133 hQ133 => ?_)
                    obtain ⟨rfl, Nq133, e133⟩ := hQ133
                    have N134 := Fr.app N117 Nq133
                    show own_G p.tables e below _ T133 (mkF m 298 #[.val (.int p0), .val (.int p1), .val (.int p2), .val (.int p3), .val (.int p4), .val (.int n), .val (.int dr), .val (.int r), .val (.int (((p4.toUInt32 >>> ((5 : Int32) &&& 31).toUInt32).toInt32) &&& (3 : Int32))), .val (.int q), .val (.int d), .val (.ref ch), .val (.ref nb1), .val (.int (n - (1 : Int32))), .val (.int (own_sel r dr (0 : Int32) p0 p1)), .val (.int (own_sel r dr (1 : Int32) p1 p2)), .val (.int (own_sel r dr (2 : Int32) p2 (0 : Int32))), .val (.int (-1 : Int32))] [(.int (own_place cnt x0 x1 x2 q))])
                    have hv135 : (own_place cnt x0 x1 x2 q) = (-1 : Int32) := by
                      have a0 := hc182_46
                      have a1 := hc234_118
                      have a2 := hc241_119
                      have a3 := hc253_123
                      have a4 := hc260_124
                      have a5 := hc272_128
                      have a6 := hc279_129
                      have b0 := hn
                      have b1 := hcfg
                      have b2 := hcnt
                      have b3 := hx0
                      have b4 := hx1
                      have b5 := hx2
                      have b6 := c_isub n (1 : Int32)
                      have b7 := rng32 n
                      have b8 := rng32 (n - (1 : Int32))
                      have b9 := rng32 cnt
                      simp only [Int32.lt_iff_toInt_lt, Int32.le_iff_toInt_le, Int64.lt_iff_toInt_lt, Int64.le_iff_toInt_le, ← Int32.toInt_inj, ← Int64.toInt_inj, own_t32_m1, own_t32_0, own_t32_1, own_t32_2, own_t32_3, own_t32_4, own_t32_5] at a0 a1 a2 a3 a4 a5 a6 b0 b1 b2 b3 b4 b5 b6 b7 b8 b9
                      unfold own_place
                      simp only [Int32.lt_iff_toInt_lt, Int32.le_iff_toInt_le, Int64.lt_iff_toInt_lt, Int64.le_iff_toInt_le, ← Int32.toInt_inj, ← Int64.toInt_inj, own_t32_m1, own_t32_0, own_t32_1, own_t32_2, own_t32_3, own_t32_4, own_t32_5]
                      repeat' split
                      all_goals first | rfl | omega
                    refine own_iload X133 hx (pc' := 300) (hb hby at_298) rfl rfl ?_
                    refine own_icmpNo X133 hx (pc' := 303) (hb hby at_300) (teq hv135).2 rfl ?_
                    refine own_iconst X133 hx (pc' := 304) (1 : Int32) (hb hby at_303) rfl rfl ?_
                    refine own_goto X133 hx (pc' := 308) (hb hby at_304) (by decide) (by decide) ?_
                    refine own_retN X133 hx hlk hret (by simp) (hb hby at_308) (by decide) (by decide) ?_
                    exact ⟨rfl, N134⟩
                · skip
                  refine own_icmpYes X116 hx (pc' := 288) (hb hby at_272) (flt hc272_128).2.2.2 (by decide) (by decide) ?_
                  refine own_iconst X116 hx (pc' := 289) (-1 : Int32) (hb hby at_288) rfl rfl ?_
                  refine own_istore X116 hx (pc' := 291) (Ls' := #[.val (.int p0), .val (.int p1), .val (.int p2), .val (.int p3), .val (.int p4), .val (.int n), .val (.int dr), .val (.int r), .val (.int (((p4.toUInt32 >>> ((5 : Int32) &&& 31).toUInt32).toInt32) &&& (3 : Int32))), .val (.int q), .val (.int d), .val (.ref ch), .val (.ref nb1), .val (.int (n - (1 : Int32))), .val (.int (own_sel r dr (0 : Int32) p0 p1)), .val (.int (own_sel r dr (1 : Int32) p1 p2)), .val (.int (own_sel r dr (2 : Int32) p2 (0 : Int32))), .val (.int (-1 : Int32))]) (hb hby at_289) rfl rfl ?_
                  refine own_aload X116 hx (pc' := 293) (hb hby at_291) rfl rfl rfl ?_
                  refine own_iload X116 hx (pc' := 295) (hb hby at_293) rfl rfl ?_
                  refine own_callV X116 hx (pc' := 298) hZ hown (Wd30 hw) (Wd32 hw) (Wd33 hw) (Wd34 hw) (Wd2 hw) (by decide) (rm_place l Z a0 hw [] ch b1 k1 z cnt x0 x1 x2 q h38 n0 Z40 hcnt3 hz F42 F43 F44) e116 F41 0 (by decide) (by decide) (by decide) (by decide) [(.int q)] [] (by rw [hml]; rfl) (lenOf pd_3 rfl) rfl rfl (Nat.le_of_eq rfl) (hb hby at_295) rfl (fun v136 T136 L136 X136 hQ136 => ?_)
                  obtain ⟨rfl, Nq136, e136⟩ := hQ136
                  have N137 := Fr.app N117 Nq136
                  show own_G p.tables e below _ T136 (mkF m 298 #[.val (.int p0), .val (.int p1), .val (.int p2), .val (.int p3), .val (.int p4), .val (.int n), .val (.int dr), .val (.int r), .val (.int (((p4.toUInt32 >>> ((5 : Int32) &&& 31).toUInt32).toInt32) &&& (3 : Int32))), .val (.int q), .val (.int d), .val (.ref ch), .val (.ref nb1), .val (.int (n - (1 : Int32))), .val (.int (own_sel r dr (0 : Int32) p0 p1)), .val (.int (own_sel r dr (1 : Int32) p1 p2)), .val (.int (own_sel r dr (2 : Int32) p2 (0 : Int32))), .val (.int (-1 : Int32))] [(.int (own_place cnt x0 x1 x2 q))])
                  have hv138 : (own_place cnt x0 x1 x2 q) = (-1 : Int32) := by
                    have a0 := hc182_46
                    have a1 := hc234_118
                    have a2 := hc241_119
                    have a3 := hc253_123
                    have a4 := hc260_124
                    have a5 := hc272_128
                    have b0 := hn
                    have b1 := hcfg
                    have b2 := hcnt
                    have b3 := hx0
                    have b4 := hx1
                    have b5 := hx2
                    have b6 := c_isub n (1 : Int32)
                    have b7 := rng32 n
                    have b8 := rng32 (n - (1 : Int32))
                    have b9 := rng32 cnt
                    simp only [Int32.lt_iff_toInt_lt, Int32.le_iff_toInt_le, Int64.lt_iff_toInt_lt, Int64.le_iff_toInt_le, ← Int32.toInt_inj, ← Int64.toInt_inj, own_t32_m1, own_t32_0, own_t32_1, own_t32_2, own_t32_3, own_t32_4, own_t32_5] at a0 a1 a2 a3 a4 a5 b0 b1 b2 b3 b4 b5 b6 b7 b8 b9
                    unfold own_place
                    simp only [Int32.lt_iff_toInt_lt, Int32.le_iff_toInt_le, Int64.lt_iff_toInt_lt, Int64.le_iff_toInt_le, ← Int32.toInt_inj, ← Int64.toInt_inj, own_t32_m1, own_t32_0, own_t32_1, own_t32_2, own_t32_3, own_t32_4, own_t32_5]
                    repeat' split
                    all_goals first | rfl | omega
                  refine own_iload X136 hx (pc' := 300) (hb hby at_298) rfl rfl ?_
                  refine own_icmpNo X136 hx (pc' := 303) (hb hby at_300) (teq hv138).2 rfl ?_
                  refine own_iconst X136 hx (pc' := 304) (1 : Int32) (hb hby at_303) rfl rfl ?_
                  refine own_goto X136 hx (pc' := 308) (hb hby at_304) (by decide) (by decide) ?_
                  refine own_retN X136 hx hlk hret (by simp) (hb hby at_308) (by decide) (by decide) ?_
                  exact ⟨rfl, N137⟩
            · skip
              refine own_icmpYes X116 hx (pc' := 269) (hb hby at_253) (flt hc253_123).2.2.2 (by decide) (by decide) ?_
              refine own_iload X116 hx (pc' := 271) (hb hby at_269) rfl rfl ?_
              refine own_iconst X116 hx (pc' := 272) (2 : Int32) (hb hby at_271) rfl rfl ?_
              by_cases hc272_139 : (2 : Int32) < (n - (1 : Int32))
              · skip
                refine own_icmpNo X116 hx (pc' := 275) (hb hby at_272) (tlt hc272_139).2.2.2 rfl ?_
                refine own_iload X116 hx (pc' := 277) (hb hby at_275) rfl rfl ?_
                refine own_iload X116 hx (pc' := 279) (hb hby at_277) rfl rfl ?_
                by_cases hc279_140 : (own_sel r dr (2 : Int32) p2 (0 : Int32)) = q
                · skip
                  refine own_icmpNo X116 hx (pc' := 282) (hb hby at_279) (teq hc279_140).2 rfl ?_
                  refine own_iconst X116 hx (pc' := 283) (2 : Int32) (hb hby at_282) rfl rfl ?_
                  refine own_istore X116 hx (pc' := 285) (Ls' := #[.val (.int p0), .val (.int p1), .val (.int p2), .val (.int p3), .val (.int p4), .val (.int n), .val (.int dr), .val (.int r), .val (.int (((p4.toUInt32 >>> ((5 : Int32) &&& 31).toUInt32).toInt32) &&& (3 : Int32))), .val (.int q), .val (.int d), .val (.ref ch), .val (.ref nb1), .val (.int (n - (1 : Int32))), .val (.int (own_sel r dr (0 : Int32) p0 p1)), .val (.int (own_sel r dr (1 : Int32) p1 p2)), .val (.int (own_sel r dr (2 : Int32) p2 (0 : Int32))), .val (.int (2 : Int32))]) (hb hby at_283) rfl rfl ?_
                  refine own_goto X116 hx (pc' := 291) (hb hby at_285) (by decide) (by decide) ?_
                  refine own_aload X116 hx (pc' := 293) (hb hby at_291) rfl rfl rfl ?_
                  refine own_iload X116 hx (pc' := 295) (hb hby at_293) rfl rfl ?_
                  refine own_callV X116 hx (pc' := 298) hZ hown (Wd30 hw) (Wd32 hw) (Wd33 hw) (Wd34 hw) (Wd2 hw) (by decide) (rm_place l Z a0 hw [] ch b1 k1 z cnt x0 x1 x2 q h38 n0 Z40 hcnt3 hz F42 F43 F44) e116 F41 0 (by decide) (by decide) (by decide) (by decide) [(.int q)] [] (by rw [hml]; rfl) (lenOf pd_3 rfl) rfl rfl (Nat.le_of_eq rfl) (hb hby at_295) rfl (fun v141 T141 L141 X141 hQ141 => ?_)
                  obtain ⟨rfl, Nq141, e141⟩ := hQ141
                  have N142 := Fr.app N117 Nq141
                  show own_G p.tables e below _ T141 (mkF m 298 #[.val (.int p0), .val (.int p1), .val (.int p2), .val (.int p3), .val (.int p4), .val (.int n), .val (.int dr), .val (.int r), .val (.int (((p4.toUInt32 >>> ((5 : Int32) &&& 31).toUInt32).toInt32) &&& (3 : Int32))), .val (.int q), .val (.int d), .val (.ref ch), .val (.ref nb1), .val (.int (n - (1 : Int32))), .val (.int (own_sel r dr (0 : Int32) p0 p1)), .val (.int (own_sel r dr (1 : Int32) p1 p2)), .val (.int (own_sel r dr (2 : Int32) p2 (0 : Int32))), .val (.int (2 : Int32))] [(.int (own_place cnt x0 x1 x2 q))])
                  have hv143 : (own_place cnt x0 x1 x2 q) = (2 : Int32) := by
                    have a0 := hc182_46
                    have a1 := hc234_118
                    have a2 := hc241_119
                    have a3 := hc253_123
                    have a4 := hc272_139
                    have a5 := hc279_140
                    have b0 := hn
                    have b1 := hcfg
                    have b2 := hcnt
                    have b3 := hx0
                    have b4 := hx1
                    have b5 := hx2
                    have b6 := c_isub n (1 : Int32)
                    have b7 := rng32 n
                    have b8 := rng32 (n - (1 : Int32))
                    have b9 := rng32 cnt
                    simp only [Int32.lt_iff_toInt_lt, Int32.le_iff_toInt_le, Int64.lt_iff_toInt_lt, Int64.le_iff_toInt_le, ← Int32.toInt_inj, ← Int64.toInt_inj, own_t32_m1, own_t32_0, own_t32_1, own_t32_2, own_t32_3, own_t32_4, own_t32_5] at a0 a1 a2 a3 a4 a5 b0 b1 b2 b3 b4 b5 b6 b7 b8 b9
                    unfold own_place
                    simp only [Int32.lt_iff_toInt_lt, Int32.le_iff_toInt_le, Int64.lt_iff_toInt_lt, Int64.le_iff_toInt_le, ← Int32.toInt_inj, ← Int64.toInt_inj, own_t32_m1, own_t32_0, own_t32_1, own_t32_2, own_t32_3, own_t32_4, own_t32_5]
                    repeat' split
                    all_goals first | rfl | omega
                  refine own_iload X141 hx (pc' := 300) (hb hby at_298) rfl rfl ?_
                  refine own_icmpNo X141 hx (pc' := 303) (hb hby at_300) (teq hv143).2 rfl ?_
                  refine own_iconst X141 hx (pc' := 304) (1 : Int32) (hb hby at_303) rfl rfl ?_
                  refine own_goto X141 hx (pc' := 308) (hb hby at_304) (by decide) (by decide) ?_
                  refine own_retN X141 hx hlk hret (by simp) (hb hby at_308) (by decide) (by decide) ?_
                  exact ⟨rfl, N142⟩
                · skip
                  refine own_icmpYes X116 hx (pc' := 288) (hb hby at_279) (feq hc279_140).2 (by decide) (by decide) ?_
                  refine own_iconst X116 hx (pc' := 289) (-1 : Int32) (hb hby at_288) rfl rfl ?_
                  refine own_istore X116 hx (pc' := 291) (Ls' := #[.val (.int p0), .val (.int p1), .val (.int p2), .val (.int p3), .val (.int p4), .val (.int n), .val (.int dr), .val (.int r), .val (.int (((p4.toUInt32 >>> ((5 : Int32) &&& 31).toUInt32).toInt32) &&& (3 : Int32))), .val (.int q), .val (.int d), .val (.ref ch), .val (.ref nb1), .val (.int (n - (1 : Int32))), .val (.int (own_sel r dr (0 : Int32) p0 p1)), .val (.int (own_sel r dr (1 : Int32) p1 p2)), .val (.int (own_sel r dr (2 : Int32) p2 (0 : Int32))), .val (.int (-1 : Int32))]) (hb hby at_289) rfl rfl ?_
                  refine own_aload X116 hx (pc' := 293) (hb hby at_291) rfl rfl rfl ?_
                  refine own_iload X116 hx (pc' := 295) (hb hby at_293) rfl rfl ?_
                  refine own_callV X116 hx (pc' := 298) hZ hown (Wd30 hw) (Wd32 hw) (Wd33 hw) (Wd34 hw) (Wd2 hw) (by decide) (rm_place l Z a0 hw [] ch b1 k1 z cnt x0 x1 x2 q h38 n0 Z40 hcnt3 hz F42 F43 F44) e116 F41 0 (by decide) (by decide) (by decide) (by decide) [(.int q)] [] (by rw [hml]; rfl) (lenOf pd_3 rfl) rfl rfl (Nat.le_of_eq rfl) (hb hby at_295) rfl (fun v144 T144 L144 X144 hQ144 => ?_)
                  obtain ⟨rfl, Nq144, e144⟩ := hQ144
                  have N145 := Fr.app N117 Nq144
                  show own_G p.tables e below _ T144 (mkF m 298 #[.val (.int p0), .val (.int p1), .val (.int p2), .val (.int p3), .val (.int p4), .val (.int n), .val (.int dr), .val (.int r), .val (.int (((p4.toUInt32 >>> ((5 : Int32) &&& 31).toUInt32).toInt32) &&& (3 : Int32))), .val (.int q), .val (.int d), .val (.ref ch), .val (.ref nb1), .val (.int (n - (1 : Int32))), .val (.int (own_sel r dr (0 : Int32) p0 p1)), .val (.int (own_sel r dr (1 : Int32) p1 p2)), .val (.int (own_sel r dr (2 : Int32) p2 (0 : Int32))), .val (.int (-1 : Int32))] [(.int (own_place cnt x0 x1 x2 q))])
                  have hv146 : (own_place cnt x0 x1 x2 q) = (-1 : Int32) := by
                    have a0 := hc182_46
                    have a1 := hc234_118
                    have a2 := hc241_119
                    have a3 := hc253_123
                    have a4 := hc272_139
                    have a5 := hc279_140
                    have b0 := hn
                    have b1 := hcfg
                    have b2 := hcnt
                    have b3 := hx0
                    have b4 := hx1
                    have b5 := hx2
                    have b6 := c_isub n (1 : Int32)
                    have b7 := rng32 n
                    have b8 := rng32 (n - (1 : Int32))
                    have b9 := rng32 cnt
                    simp only [Int32.lt_iff_toInt_lt, Int32.le_iff_toInt_le, Int64.lt_iff_toInt_lt, Int64.le_iff_toInt_le, ← Int32.toInt_inj, ← Int64.toInt_inj, own_t32_m1, own_t32_0, own_t32_1, own_t32_2, own_t32_3, own_t32_4, own_t32_5] at a0 a1 a2 a3 a4 a5 b0 b1 b2 b3 b4 b5 b6 b7 b8 b9
                    unfold own_place
                    simp only [Int32.lt_iff_toInt_lt, Int32.le_iff_toInt_le, Int64.lt_iff_toInt_lt, Int64.le_iff_toInt_le, ← Int32.toInt_inj, ← Int64.toInt_inj, own_t32_m1, own_t32_0, own_t32_1, own_t32_2, own_t32_3, own_t32_4, own_t32_5]
                    repeat' split
                    all_goals first | rfl | omega
                  refine own_iload X144 hx (pc' := 300) (hb hby at_298) rfl rfl ?_
                  refine own_icmpNo X144 hx (pc' := 303) (hb hby at_300) (teq hv146).2 rfl ?_
                  refine own_iconst X144 hx (pc' := 304) (1 : Int32) (hb hby at_303) rfl rfl ?_
                  refine own_goto X144 hx (pc' := 308) (hb hby at_304) (by decide) (by decide) ?_
                  refine own_retN X144 hx hlk hret (by simp) (hb hby at_308) (by decide) (by decide) ?_
                  exact ⟨rfl, N145⟩
              · skip
                refine own_icmpYes X116 hx (pc' := 288) (hb hby at_272) (flt hc272_139).2.2.2 (by decide) (by decide) ?_
                refine own_iconst X116 hx (pc' := 289) (-1 : Int32) (hb hby at_288) rfl rfl ?_
                refine own_istore X116 hx (pc' := 291) (Ls' := #[.val (.int p0), .val (.int p1), .val (.int p2), .val (.int p3), .val (.int p4), .val (.int n), .val (.int dr), .val (.int r), .val (.int (((p4.toUInt32 >>> ((5 : Int32) &&& 31).toUInt32).toInt32) &&& (3 : Int32))), .val (.int q), .val (.int d), .val (.ref ch), .val (.ref nb1), .val (.int (n - (1 : Int32))), .val (.int (own_sel r dr (0 : Int32) p0 p1)), .val (.int (own_sel r dr (1 : Int32) p1 p2)), .val (.int (own_sel r dr (2 : Int32) p2 (0 : Int32))), .val (.int (-1 : Int32))]) (hb hby at_289) rfl rfl ?_
                refine own_aload X116 hx (pc' := 293) (hb hby at_291) rfl rfl rfl ?_
                refine own_iload X116 hx (pc' := 295) (hb hby at_293) rfl rfl ?_
                refine own_callV X116 hx (pc' := 298) hZ hown (Wd30 hw) (Wd32 hw) (Wd33 hw) (Wd34 hw) (Wd2 hw) (by decide) (rm_place l Z a0 hw [] ch b1 k1 z cnt x0 x1 x2 q h38 n0 Z40 hcnt3 hz F42 F43 F44) e116 F41 0 (by decide) (by decide) (by decide) (by decide) [(.int q)] [] (by rw [hml]; rfl) (lenOf pd_3 rfl) rfl rfl (Nat.le_of_eq rfl) (hb hby at_295) rfl (fun v147 T147 L147 X147 hQ147 => ?_)
                obtain ⟨rfl, Nq147, e147⟩ := hQ147
                have N148 := Fr.app N117 Nq147
                show own_G p.tables e below _ T147 (mkF m 298 #[.val (.int p0), .val (.int p1), .val (.int p2), .val (.int p3), .val (.int p4), .val (.int n), .val (.int dr), .val (.int r), .val (.int (((p4.toUInt32 >>> ((5 : Int32) &&& 31).toUInt32).toInt32) &&& (3 : Int32))), .val (.int q), .val (.int d), .val (.ref ch), .val (.ref nb1), .val (.int (n - (1 : Int32))), .val (.int (own_sel r dr (0 : Int32) p0 p1)), .val (.int (own_sel r dr (1 : Int32) p1 p2)), .val (.int (own_sel r dr (2 : Int32) p2 (0 : Int32))), .val (.int (-1 : Int32))] [(.int (own_place cnt x0 x1 x2 q))])
                have hv149 : (own_place cnt x0 x1 x2 q) = (-1 : Int32) := by
                  have a0 := hc182_46
                  have a1 := hc234_118
                  have a2 := hc241_119
                  have a3 := hc253_123
                  have a4 := hc272_139
                  have b0 := hn
                  have b1 := hcfg
                  have b2 := hcnt
                  have b3 := hx0
                  have b4 := hx1
                  have b5 := hx2
                  have b6 := c_isub n (1 : Int32)
                  have b7 := rng32 n
                  have b8 := rng32 (n - (1 : Int32))
                  have b9 := rng32 cnt
                  simp only [Int32.lt_iff_toInt_lt, Int32.le_iff_toInt_le, Int64.lt_iff_toInt_lt, Int64.le_iff_toInt_le, ← Int32.toInt_inj, ← Int64.toInt_inj, own_t32_m1, own_t32_0, own_t32_1, own_t32_2, own_t32_3, own_t32_4, own_t32_5] at a0 a1 a2 a3 a4 b0 b1 b2 b3 b4 b5 b6 b7 b8 b9
                  unfold own_place
                  simp only [Int32.lt_iff_toInt_lt, Int32.le_iff_toInt_le, Int64.lt_iff_toInt_lt, Int64.le_iff_toInt_le, ← Int32.toInt_inj, ← Int64.toInt_inj, own_t32_m1, own_t32_0, own_t32_1, own_t32_2, own_t32_3, own_t32_4, own_t32_5]
                  repeat' split
                  all_goals first | rfl | omega
                refine own_iload X147 hx (pc' := 300) (hb hby at_298) rfl rfl ?_
                refine own_icmpNo X147 hx (pc' := 303) (hb hby at_300) (teq hv149).2 rfl ?_
                refine own_iconst X147 hx (pc' := 304) (1 : Int32) (hb hby at_303) rfl rfl ?_
                refine own_goto X147 hx (pc' := 308) (hb hby at_304) (by decide) (by decide) ?_
                refine own_retN X147 hx hlk hret (by simp) (hb hby at_308) (by decide) (by decide) ?_
                exact ⟨rfl, N148⟩
        · skip
          refine own_ifYes X116 hx (pc' := 250) (hb hby at_234) (flt hc234_118).2.2.2 (by decide) (by decide) ?_
          refine own_iload X116 hx (pc' := 252) (hb hby at_250) rfl rfl ?_
          refine own_iconst X116 hx (pc' := 253) (1 : Int32) (hb hby at_252) rfl rfl ?_
          by_cases hc253_150 : (1 : Int32) < (n - (1 : Int32))
          · skip
            refine own_icmpNo X116 hx (pc' := 256) (hb hby at_253) (tlt hc253_150).2.2.2 rfl ?_
            refine own_iload X116 hx (pc' := 258) (hb hby at_256) rfl rfl ?_
            refine own_iload X116 hx (pc' := 260) (hb hby at_258) rfl rfl ?_
            by_cases hc260_151 : (own_sel r dr (1 : Int32) p1 p2) = q
            · skip
              refine own_icmpNo X116 hx (pc' := 263) (hb hby at_260) (teq hc260_151).2 rfl ?_
              refine own_iconst X116 hx (pc' := 264) (1 : Int32) (hb hby at_263) rfl rfl ?_
              refine own_istore X116 hx (pc' := 266) (Ls' := #[.val (.int p0), .val (.int p1), .val (.int p2), .val (.int p3), .val (.int p4), .val (.int n), .val (.int dr), .val (.int r), .val (.int (((p4.toUInt32 >>> ((5 : Int32) &&& 31).toUInt32).toInt32) &&& (3 : Int32))), .val (.int q), .val (.int d), .val (.ref ch), .val (.ref nb1), .val (.int (n - (1 : Int32))), .val (.int (own_sel r dr (0 : Int32) p0 p1)), .val (.int (own_sel r dr (1 : Int32) p1 p2)), .val (.int (own_sel r dr (2 : Int32) p2 (0 : Int32))), .val (.int (1 : Int32))]) (hb hby at_264) rfl rfl ?_
              refine own_goto X116 hx (pc' := 291) (hb hby at_266) (by decide) (by decide) ?_
              refine own_aload X116 hx (pc' := 293) (hb hby at_291) rfl rfl rfl ?_
              refine own_iload X116 hx (pc' := 295) (hb hby at_293) rfl rfl ?_
              refine own_callV X116 hx (pc' := 298) hZ hown (Wd30 hw) (Wd32 hw) (Wd33 hw) (Wd34 hw) (Wd2 hw) (by decide) (rm_place l Z a0 hw [] ch b1 k1 z cnt x0 x1 x2 q h38 n0 Z40 hcnt3 hz F42 F43 F44) e116 F41 0 (by decide) (by decide) (by decide) (by decide) [(.int q)] [] (by rw [hml]; rfl) (lenOf pd_3 rfl) rfl rfl (Nat.le_of_eq rfl) (hb hby at_295) rfl (fun v152 T152 L152 X152 hQ152 => ?_)
              obtain ⟨rfl, Nq152, e152⟩ := hQ152
              have N153 := Fr.app N117 Nq152
              show own_G p.tables e below _ T152 (mkF m 298 #[.val (.int p0), .val (.int p1), .val (.int p2), .val (.int p3), .val (.int p4), .val (.int n), .val (.int dr), .val (.int r), .val (.int (((p4.toUInt32 >>> ((5 : Int32) &&& 31).toUInt32).toInt32) &&& (3 : Int32))), .val (.int q), .val (.int d), .val (.ref ch), .val (.ref nb1), .val (.int (n - (1 : Int32))), .val (.int (own_sel r dr (0 : Int32) p0 p1)), .val (.int (own_sel r dr (1 : Int32) p1 p2)), .val (.int (own_sel r dr (2 : Int32) p2 (0 : Int32))), .val (.int (1 : Int32))] [(.int (own_place cnt x0 x1 x2 q))])
              have hv154 : (own_place cnt x0 x1 x2 q) = (1 : Int32) := by
                have a0 := hc182_46
                have a1 := hc234_118
                have a2 := hc253_150
                have a3 := hc260_151
                have b0 := hn
                have b1 := hcfg
                have b2 := hcnt
                have b3 := hx0
                have b4 := hx1
                have b5 := hx2
                have b6 := c_isub n (1 : Int32)
                have b7 := rng32 n
                have b8 := rng32 (n - (1 : Int32))
                have b9 := rng32 cnt
                simp only [Int32.lt_iff_toInt_lt, Int32.le_iff_toInt_le, Int64.lt_iff_toInt_lt, Int64.le_iff_toInt_le, ← Int32.toInt_inj, ← Int64.toInt_inj, own_t32_m1, own_t32_0, own_t32_1, own_t32_2, own_t32_3, own_t32_4, own_t32_5] at a0 a1 a2 a3 b0 b1 b2 b3 b4 b5 b6 b7 b8 b9
                unfold own_place
                simp only [Int32.lt_iff_toInt_lt, Int32.le_iff_toInt_le, Int64.lt_iff_toInt_lt, Int64.le_iff_toInt_le, ← Int32.toInt_inj, ← Int64.toInt_inj, own_t32_m1, own_t32_0, own_t32_1, own_t32_2, own_t32_3, own_t32_4, own_t32_5]
                repeat' split
                all_goals first | rfl | omega
              refine own_iload X152 hx (pc' := 300) (hb hby at_298) rfl rfl ?_
              refine own_icmpNo X152 hx (pc' := 303) (hb hby at_300) (teq hv154).2 rfl ?_
              refine own_iconst X152 hx (pc' := 304) (1 : Int32) (hb hby at_303) rfl rfl ?_
              refine own_goto X152 hx (pc' := 308) (hb hby at_304) (by decide) (by decide) ?_
              refine own_retN X152 hx hlk hret (by simp) (hb hby at_308) (by decide) (by decide) ?_
              exact ⟨rfl, N153⟩
            · skip
              refine own_icmpYes X116 hx (pc' := 269) (hb hby at_260) (feq hc260_151).2 (by decide) (by decide) ?_
              refine own_iload X116 hx (pc' := 271) (hb hby at_269) rfl rfl ?_
              refine own_iconst X116 hx (pc' := 272) (2 : Int32) (hb hby at_271) rfl rfl ?_
              by_cases hc272_155 : (2 : Int32) < (n - (1 : Int32))
              · skip
                refine own_icmpNo X116 hx (pc' := 275) (hb hby at_272) (tlt hc272_155).2.2.2 rfl ?_
                refine own_iload X116 hx (pc' := 277) (hb hby at_275) rfl rfl ?_
                refine own_iload X116 hx (pc' := 279) (hb hby at_277) rfl rfl ?_
                by_cases hc279_156 : (own_sel r dr (2 : Int32) p2 (0 : Int32)) = q
                · skip
                  refine own_icmpNo X116 hx (pc' := 282) (hb hby at_279) (teq hc279_156).2 rfl ?_
                  refine own_iconst X116 hx (pc' := 283) (2 : Int32) (hb hby at_282) rfl rfl ?_
                  refine own_istore X116 hx (pc' := 285) (Ls' := #[.val (.int p0), .val (.int p1), .val (.int p2), .val (.int p3), .val (.int p4), .val (.int n), .val (.int dr), .val (.int r), .val (.int (((p4.toUInt32 >>> ((5 : Int32) &&& 31).toUInt32).toInt32) &&& (3 : Int32))), .val (.int q), .val (.int d), .val (.ref ch), .val (.ref nb1), .val (.int (n - (1 : Int32))), .val (.int (own_sel r dr (0 : Int32) p0 p1)), .val (.int (own_sel r dr (1 : Int32) p1 p2)), .val (.int (own_sel r dr (2 : Int32) p2 (0 : Int32))), .val (.int (2 : Int32))]) (hb hby at_283) rfl rfl ?_
                  refine own_goto X116 hx (pc' := 291) (hb hby at_285) (by decide) (by decide) ?_
                  refine own_aload X116 hx (pc' := 293) (hb hby at_291) rfl rfl rfl ?_
                  refine own_iload X116 hx (pc' := 295) (hb hby at_293) rfl rfl ?_
                  refine own_callV X116 hx (pc' := 298) hZ hown (Wd30 hw) (Wd32 hw) (Wd33 hw) (Wd34 hw) (Wd2 hw) (by decide) (rm_place l Z a0 hw [] ch b1 k1 z cnt x0 x1 x2 q h38 n0 Z40 hcnt3 hz F42 F43 F44) e116 F41 0 (by decide) (by decide) (by decide) (by decide) [(.int q)] [] (by rw [hml]; rfl) (lenOf pd_3 rfl) rfl rfl (Nat.le_of_eq rfl) (hb hby at_295) rfl (fun v157 T157 L157 X157 hQ157 => ?_)
                  obtain ⟨rfl, Nq157, e157⟩ := hQ157
                  have N158 := Fr.app N117 Nq157
                  show own_G p.tables e below _ T157 (mkF m 298 #[.val (.int p0), .val (.int p1), .val (.int p2), .val (.int p3), .val (.int p4), .val (.int n), .val (.int dr), .val (.int r), .val (.int (((p4.toUInt32 >>> ((5 : Int32) &&& 31).toUInt32).toInt32) &&& (3 : Int32))), .val (.int q), .val (.int d), .val (.ref ch), .val (.ref nb1), .val (.int (n - (1 : Int32))), .val (.int (own_sel r dr (0 : Int32) p0 p1)), .val (.int (own_sel r dr (1 : Int32) p1 p2)), .val (.int (own_sel r dr (2 : Int32) p2 (0 : Int32))), .val (.int (2 : Int32))] [(.int (own_place cnt x0 x1 x2 q))])
                  have hv159 : (own_place cnt x0 x1 x2 q) = (2 : Int32) := by
                    have a0 := hc182_46
                    have a1 := hc234_118
                    have a2 := hc253_150
                    have a3 := hc260_151
                    have a4 := hc272_155
                    have a5 := hc279_156
                    have b0 := hn
                    have b1 := hcfg
                    have b2 := hcnt
                    have b3 := hx0
                    have b4 := hx1
                    have b5 := hx2
                    have b6 := c_isub n (1 : Int32)
                    have b7 := rng32 n
                    have b8 := rng32 (n - (1 : Int32))
                    have b9 := rng32 cnt
                    simp only [Int32.lt_iff_toInt_lt, Int32.le_iff_toInt_le, Int64.lt_iff_toInt_lt, Int64.le_iff_toInt_le, ← Int32.toInt_inj, ← Int64.toInt_inj, own_t32_m1, own_t32_0, own_t32_1, own_t32_2, own_t32_3, own_t32_4, own_t32_5] at a0 a1 a2 a3 a4 a5 b0 b1 b2 b3 b4 b5 b6 b7 b8 b9
                    unfold own_place
                    simp only [Int32.lt_iff_toInt_lt, Int32.le_iff_toInt_le, Int64.lt_iff_toInt_lt, Int64.le_iff_toInt_le, ← Int32.toInt_inj, ← Int64.toInt_inj, own_t32_m1, own_t32_0, own_t32_1, own_t32_2, own_t32_3, own_t32_4, own_t32_5]
                    repeat' split
                    all_goals first | rfl | omega
                  refine own_iload X157 hx (pc' := 300) (hb hby at_298) rfl rfl ?_
                  refine own_icmpNo X157 hx (pc' := 303) (hb hby at_300) (teq hv159).2 rfl ?_
                  refine own_iconst X157 hx (pc' := 304) (1 : Int32) (hb hby at_303) rfl rfl ?_
                  refine own_goto X157 hx (pc' := 308) (hb hby at_304) (by decide) (by decide) ?_
                  refine own_retN X157 hx hlk hret (by simp) (hb hby at_308) (by decide) (by decide) ?_
                  exact ⟨rfl, N158⟩
                · skip
                  refine own_icmpYes X116 hx (pc' := 288) (hb hby at_279) (feq hc279_156).2 (by decide) (by decide) ?_
                  refine own_iconst X116 hx (pc' := 289) (-1 : Int32) (hb hby at_288) rfl rfl ?_
                  refine own_istore X116 hx (pc' := 291) (Ls' := #[.val (.int p0), .val (.int p1), .val (.int p2), .val (.int p3), .val (.int p4), .val (.int n), .val (.int dr), .val (.int r), .val (.int (((p4.toUInt32 >>> ((5 : Int32) &&& 31).toUInt32).toInt32) &&& (3 : Int32))), .val (.int q), .val (.int d), .val (.ref ch), .val (.ref nb1), .val (.int (n - (1 : Int32))), .val (.int (own_sel r dr (0 : Int32) p0 p1)), .val (.int (own_sel r dr (1 : Int32) p1 p2)), .val (.int (own_sel r dr (2 : Int32) p2 (0 : Int32))), .val (.int (-1 : Int32))]) (hb hby at_289) rfl rfl ?_
                  refine own_aload X116 hx (pc' := 293) (hb hby at_291) rfl rfl rfl ?_
                  refine own_iload X116 hx (pc' := 295) (hb hby at_293) rfl rfl ?_
                  refine own_callV X116 hx (pc' := 298) hZ hown (Wd30 hw) (Wd32 hw) (Wd33 hw) (Wd34 hw) (Wd2 hw) (by decide) (rm_place l Z a0 hw [] ch b1 k1 z cnt x0 x1 x2 q h38 n0 Z40 hcnt3 hz F42 F43 F44) e116 F41 0 (by decide) (by decide) (by decide) (by decide) [(.int q)] [] (by rw [hml]; rfl) (lenOf pd_3 rfl) rfl rfl (Nat.le_of_eq rfl) (hb hby at_295) rfl (fun v160 T160 L160 X160 hQ160 => ?_)
                  obtain ⟨rfl, Nq160, e160⟩ := hQ160
                  have N161 := Fr.app N117 Nq160
                  show own_G p.tables e below _ T160 (mkF m 298 #[.val (.int p0), .val (.int p1), .val (.int p2), .val (.int p3), .val (.int p4), .val (.int n), .val (.int dr), .val (.int r), .val (.int (((p4.toUInt32 >>> ((5 : Int32) &&& 31).toUInt32).toInt32) &&& (3 : Int32))), .val (.int q), .val (.int d), .val (.ref ch), .val (.ref nb1), .val (.int (n - (1 : Int32))), .val (.int (own_sel r dr (0 : Int32) p0 p1)), .val (.int (own_sel r dr (1 : Int32) p1 p2)), .val (.int (own_sel r dr (2 : Int32) p2 (0 : Int32))), .val (.int (-1 : Int32))] [(.int (own_place cnt x0 x1 x2 q))])
                  have hv162 : (own_place cnt x0 x1 x2 q) = (-1 : Int32) := by
                    have a0 := hc182_46
                    have a1 := hc234_118
                    have a2 := hc253_150
                    have a3 := hc260_151
                    have a4 := hc272_155
                    have a5 := hc279_156
                    have b0 := hn
                    have b1 := hcfg
                    have b2 := hcnt
                    have b3 := hx0
                    have b4 := hx1
                    have b5 := hx2
                    have b6 := c_isub n (1 : Int32)
                    have b7 := rng32 n
                    have b8 := rng32 (n - (1 : Int32))
                    have b9 := rng32 cnt
                    simp only [Int32.lt_iff_toInt_lt, Int32.le_iff_toInt_le, Int64.lt_iff_toInt_lt, Int64.le_iff_toInt_le, ← Int32.toInt_inj, ← Int64.toInt_inj, own_t32_m1, own_t32_0, own_t32_1, own_t32_2, own_t32_3, own_t32_4, own_t32_5] at a0 a1 a2 a3 a4 a5 b0 b1 b2 b3 b4 b5 b6 b7 b8 b9
                    unfold own_place
                    simp only [Int32.lt_iff_toInt_lt, Int32.le_iff_toInt_le, Int64.lt_iff_toInt_lt, Int64.le_iff_toInt_le, ← Int32.toInt_inj, ← Int64.toInt_inj, own_t32_m1, own_t32_0, own_t32_1, own_t32_2, own_t32_3, own_t32_4, own_t32_5]
                    repeat' split
                    all_goals first | rfl | omega
                  refine own_iload X160 hx (pc' := 300) (hb hby at_298) rfl rfl ?_
                  refine own_icmpNo X160 hx (pc' := 303) (hb hby at_300) (teq hv162).2 rfl ?_
                  refine own_iconst X160 hx (pc' := 304) (1 : Int32) (hb hby at_303) rfl rfl ?_
                  refine own_goto X160 hx (pc' := 308) (hb hby at_304) (by decide) (by decide) ?_
                  refine own_retN X160 hx hlk hret (by simp) (hb hby at_308) (by decide) (by decide) ?_
                  exact ⟨rfl, N161⟩
              · skip
                refine own_icmpYes X116 hx (pc' := 288) (hb hby at_272) (flt hc272_155).2.2.2 (by decide) (by decide) ?_
                refine own_iconst X116 hx (pc' := 289) (-1 : Int32) (hb hby at_288) rfl rfl ?_
                refine own_istore X116 hx (pc' := 291) (Ls' := #[.val (.int p0), .val (.int p1), .val (.int p2), .val (.int p3), .val (.int p4), .val (.int n), .val (.int dr), .val (.int r), .val (.int (((p4.toUInt32 >>> ((5 : Int32) &&& 31).toUInt32).toInt32) &&& (3 : Int32))), .val (.int q), .val (.int d), .val (.ref ch), .val (.ref nb1), .val (.int (n - (1 : Int32))), .val (.int (own_sel r dr (0 : Int32) p0 p1)), .val (.int (own_sel r dr (1 : Int32) p1 p2)), .val (.int (own_sel r dr (2 : Int32) p2 (0 : Int32))), .val (.int (-1 : Int32))]) (hb hby at_289) rfl rfl ?_
                refine own_aload X116 hx (pc' := 293) (hb hby at_291) rfl rfl rfl ?_
                refine own_iload X116 hx (pc' := 295) (hb hby at_293) rfl rfl ?_
                refine own_callV X116 hx (pc' := 298) hZ hown (Wd30 hw) (Wd32 hw) (Wd33 hw) (Wd34 hw) (Wd2 hw) (by decide) (rm_place l Z a0 hw [] ch b1 k1 z cnt x0 x1 x2 q h38 n0 Z40 hcnt3 hz F42 F43 F44) e116 F41 0 (by decide) (by decide) (by decide) (by decide) [(.int q)] [] (by rw [hml]; rfl) (lenOf pd_3 rfl) rfl rfl (Nat.le_of_eq rfl) (hb hby at_295) rfl (fun v163 T163 L163 X163 hQ163 => ?_)
                obtain ⟨rfl, Nq163, e163⟩ := hQ163
                have N164 := Fr.app N117 Nq163
                show own_G p.tables e below _ T163 (mkF m 298 #[.val (.int p0), .val (.int p1), .val (.int p2), .val (.int p3), .val (.int p4), .val (.int n), .val (.int dr), .val (.int r), .val (.int (((p4.toUInt32 >>> ((5 : Int32) &&& 31).toUInt32).toInt32) &&& (3 : Int32))), .val (.int q), .val (.int d), .val (.ref ch), .val (.ref nb1), .val (.int (n - (1 : Int32))), .val (.int (own_sel r dr (0 : Int32) p0 p1)), .val (.int (own_sel r dr (1 : Int32) p1 p2)), .val (.int (own_sel r dr (2 : Int32) p2 (0 : Int32))), .val (.int (-1 : Int32))] [(.int (own_place cnt x0 x1 x2 q))])
                have hv165 : (own_place cnt x0 x1 x2 q) = (-1 : Int32) := by
                  have a0 := hc182_46
                  have a1 := hc234_118
                  have a2 := hc253_150
                  have a3 := hc260_151
                  have a4 := hc272_155
                  have b0 := hn
                  have b1 := hcfg
                  have b2 := hcnt
                  have b3 := hx0
                  have b4 := hx1
                  have b5 := hx2
                  have b6 := c_isub n (1 : Int32)
                  have b7 := rng32 n
                  have b8 := rng32 (n - (1 : Int32))
                  have b9 := rng32 cnt
                  simp only [Int32.lt_iff_toInt_lt, Int32.le_iff_toInt_le, Int64.lt_iff_toInt_lt, Int64.le_iff_toInt_le, ← Int32.toInt_inj, ← Int64.toInt_inj, own_t32_m1, own_t32_0, own_t32_1, own_t32_2, own_t32_3, own_t32_4, own_t32_5] at a0 a1 a2 a3 a4 b0 b1 b2 b3 b4 b5 b6 b7 b8 b9
                  unfold own_place
                  simp only [Int32.lt_iff_toInt_lt, Int32.le_iff_toInt_le, Int64.lt_iff_toInt_lt, Int64.le_iff_toInt_le, ← Int32.toInt_inj, ← Int64.toInt_inj, own_t32_m1, own_t32_0, own_t32_1, own_t32_2, own_t32_3, own_t32_4, own_t32_5]
                  repeat' split
                  all_goals first | rfl | omega
                refine own_iload X163 hx (pc' := 300) (hb hby at_298) rfl rfl ?_
                refine own_icmpNo X163 hx (pc' := 303) (hb hby at_300) (teq hv165).2 rfl ?_
                refine own_iconst X163 hx (pc' := 304) (1 : Int32) (hb hby at_303) rfl rfl ?_
                refine own_goto X163 hx (pc' := 308) (hb hby at_304) (by decide) (by decide) ?_
                refine own_retN X163 hx hlk hret (by simp) (hb hby at_308) (by decide) (by decide) ?_
                exact ⟨rfl, N164⟩
          · skip
            refine own_icmpYes X116 hx (pc' := 269) (hb hby at_253) (flt hc253_150).2.2.2 (by decide) (by decide) ?_
            refine own_iload X116 hx (pc' := 271) (hb hby at_269) rfl rfl ?_
            refine own_iconst X116 hx (pc' := 272) (2 : Int32) (hb hby at_271) rfl rfl ?_
            by_cases hc272_166 : (2 : Int32) < (n - (1 : Int32))
            · skip
              refine own_icmpNo X116 hx (pc' := 275) (hb hby at_272) (tlt hc272_166).2.2.2 rfl ?_
              refine own_iload X116 hx (pc' := 277) (hb hby at_275) rfl rfl ?_
              refine own_iload X116 hx (pc' := 279) (hb hby at_277) rfl rfl ?_
              by_cases hc279_167 : (own_sel r dr (2 : Int32) p2 (0 : Int32)) = q
              · skip
                refine own_icmpNo X116 hx (pc' := 282) (hb hby at_279) (teq hc279_167).2 rfl ?_
                refine own_iconst X116 hx (pc' := 283) (2 : Int32) (hb hby at_282) rfl rfl ?_
                refine own_istore X116 hx (pc' := 285) (Ls' := #[.val (.int p0), .val (.int p1), .val (.int p2), .val (.int p3), .val (.int p4), .val (.int n), .val (.int dr), .val (.int r), .val (.int (((p4.toUInt32 >>> ((5 : Int32) &&& 31).toUInt32).toInt32) &&& (3 : Int32))), .val (.int q), .val (.int d), .val (.ref ch), .val (.ref nb1), .val (.int (n - (1 : Int32))), .val (.int (own_sel r dr (0 : Int32) p0 p1)), .val (.int (own_sel r dr (1 : Int32) p1 p2)), .val (.int (own_sel r dr (2 : Int32) p2 (0 : Int32))), .val (.int (2 : Int32))]) (hb hby at_283) rfl rfl ?_
                refine own_goto X116 hx (pc' := 291) (hb hby at_285) (by decide) (by decide) ?_
                refine own_aload X116 hx (pc' := 293) (hb hby at_291) rfl rfl rfl ?_
                refine own_iload X116 hx (pc' := 295) (hb hby at_293) rfl rfl ?_
                refine own_callV X116 hx (pc' := 298) hZ hown (Wd30 hw) (Wd32 hw) (Wd33 hw) (Wd34 hw) (Wd2 hw) (by decide) (rm_place l Z a0 hw [] ch b1 k1 z cnt x0 x1 x2 q h38 n0 Z40 hcnt3 hz F42 F43 F44) e116 F41 0 (by decide) (by decide) (by decide) (by decide) [(.int q)] [] (by rw [hml]; rfl) (lenOf pd_3 rfl) rfl rfl (Nat.le_of_eq rfl) (hb hby at_295) rfl (fun v168 T168 L168 X168 hQ168 => ?_)
                obtain ⟨rfl, Nq168, e168⟩ := hQ168
                have N169 := Fr.app N117 Nq168
                show own_G p.tables e below _ T168 (mkF m 298 #[.val (.int p0), .val (.int p1), .val (.int p2), .val (.int p3), .val (.int p4), .val (.int n), .val (.int dr), .val (.int r), .val (.int (((p4.toUInt32 >>> ((5 : Int32) &&& 31).toUInt32).toInt32) &&& (3 : Int32))), .val (.int q), .val (.int d), .val (.ref ch), .val (.ref nb1), .val (.int (n - (1 : Int32))), .val (.int (own_sel r dr (0 : Int32) p0 p1)), .val (.int (own_sel r dr (1 : Int32) p1 p2)), .val (.int (own_sel r dr (2 : Int32) p2 (0 : Int32))), .val (.int (2 : Int32))] [(.int (own_place cnt x0 x1 x2 q))])
                have hv170 : (own_place cnt x0 x1 x2 q) = (2 : Int32) := by
                  have a0 := hc182_46
                  have a1 := hc234_118
                  have a2 := hc253_150
                  have a3 := hc272_166
                  have a4 := hc279_167
                  have b0 := hn
                  have b1 := hcfg
                  have b2 := hcnt
                  have b3 := hx0
                  have b4 := hx1
                  have b5 := hx2
                  have b6 := c_isub n (1 : Int32)
                  have b7 := rng32 n
                  have b8 := rng32 (n - (1 : Int32))
                  have b9 := rng32 cnt
                  simp only [Int32.lt_iff_toInt_lt, Int32.le_iff_toInt_le, Int64.lt_iff_toInt_lt, Int64.le_iff_toInt_le, ← Int32.toInt_inj, ← Int64.toInt_inj, own_t32_m1, own_t32_0, own_t32_1, own_t32_2, own_t32_3, own_t32_4, own_t32_5] at a0 a1 a2 a3 a4 b0 b1 b2 b3 b4 b5 b6 b7 b8 b9
                  unfold own_place
                  simp only [Int32.lt_iff_toInt_lt, Int32.le_iff_toInt_le, Int64.lt_iff_toInt_lt, Int64.le_iff_toInt_le, ← Int32.toInt_inj, ← Int64.toInt_inj, own_t32_m1, own_t32_0, own_t32_1, own_t32_2, own_t32_3, own_t32_4, own_t32_5]
                  repeat' split
                  all_goals first | rfl | omega
                refine own_iload X168 hx (pc' := 300) (hb hby at_298) rfl rfl ?_
                refine own_icmpNo X168 hx (pc' := 303) (hb hby at_300) (teq hv170).2 rfl ?_
                refine own_iconst X168 hx (pc' := 304) (1 : Int32) (hb hby at_303) rfl rfl ?_
                refine own_goto X168 hx (pc' := 308) (hb hby at_304) (by decide) (by decide) ?_
                refine own_retN X168 hx hlk hret (by simp) (hb hby at_308) (by decide) (by decide) ?_
                exact ⟨rfl, N169⟩
              · skip
                refine own_icmpYes X116 hx (pc' := 288) (hb hby at_279) (feq hc279_167).2 (by decide) (by decide) ?_
                refine own_iconst X116 hx (pc' := 289) (-1 : Int32) (hb hby at_288) rfl rfl ?_
                refine own_istore X116 hx (pc' := 291) (Ls' := #[.val (.int p0), .val (.int p1), .val (.int p2), .val (.int p3), .val (.int p4), .val (.int n), .val (.int dr), .val (.int r), .val (.int (((p4.toUInt32 >>> ((5 : Int32) &&& 31).toUInt32).toInt32) &&& (3 : Int32))), .val (.int q), .val (.int d), .val (.ref ch), .val (.ref nb1), .val (.int (n - (1 : Int32))), .val (.int (own_sel r dr (0 : Int32) p0 p1)), .val (.int (own_sel r dr (1 : Int32) p1 p2)), .val (.int (own_sel r dr (2 : Int32) p2 (0 : Int32))), .val (.int (-1 : Int32))]) (hb hby at_289) rfl rfl ?_
                refine own_aload X116 hx (pc' := 293) (hb hby at_291) rfl rfl rfl ?_
                refine own_iload X116 hx (pc' := 295) (hb hby at_293) rfl rfl ?_
                refine own_callV X116 hx (pc' := 298) hZ hown (Wd30 hw) (Wd32 hw) (Wd33 hw) (Wd34 hw) (Wd2 hw) (by decide) (rm_place l Z a0 hw [] ch b1 k1 z cnt x0 x1 x2 q h38 n0 Z40 hcnt3 hz F42 F43 F44) e116 F41 0 (by decide) (by decide) (by decide) (by decide) [(.int q)] [] (by rw [hml]; rfl) (lenOf pd_3 rfl) rfl rfl (Nat.le_of_eq rfl) (hb hby at_295) rfl (fun v171 T171 L171 X171 hQ171 => ?_)
                obtain ⟨rfl, Nq171, e171⟩ := hQ171
                have N172 := Fr.app N117 Nq171
                show own_G p.tables e below _ T171 (mkF m 298 #[.val (.int p0), .val (.int p1), .val (.int p2), .val (.int p3), .val (.int p4), .val (.int n), .val (.int dr), .val (.int r), .val (.int (((p4.toUInt32 >>> ((5 : Int32) &&& 31).toUInt32).toInt32) &&& (3 : Int32))), .val (.int q), .val (.int d), .val (.ref ch), .val (.ref nb1), .val (.int (n - (1 : Int32))), .val (.int (own_sel r dr (0 : Int32) p0 p1)), .val (.int (own_sel r dr (1 : Int32) p1 p2)), .val (.int (own_sel r dr (2 : Int32) p2 (0 : Int32))), .val (.int (-1 : Int32))] [(.int (own_place cnt x0 x1 x2 q))])
                have hv173 : (own_place cnt x0 x1 x2 q) = (-1 : Int32) := by
                  have a0 := hc182_46
                  have a1 := hc234_118
                  have a2 := hc253_150
                  have a3 := hc272_166
                  have a4 := hc279_167
                  have b0 := hn
                  have b1 := hcfg
                  have b2 := hcnt
                  have b3 := hx0
                  have b4 := hx1
                  have b5 := hx2
                  have b6 := c_isub n (1 : Int32)
                  have b7 := rng32 n
                  have b8 := rng32 (n - (1 : Int32))
                  have b9 := rng32 cnt
                  simp only [Int32.lt_iff_toInt_lt, Int32.le_iff_toInt_le, Int64.lt_iff_toInt_lt, Int64.le_iff_toInt_le, ← Int32.toInt_inj, ← Int64.toInt_inj, own_t32_m1, own_t32_0, own_t32_1, own_t32_2, own_t32_3, own_t32_4, own_t32_5] at a0 a1 a2 a3 a4 b0 b1 b2 b3 b4 b5 b6 b7 b8 b9
                  unfold own_place
                  simp only [Int32.lt_iff_toInt_lt, Int32.le_iff_toInt_le, Int64.lt_iff_toInt_lt, Int64.le_iff_toInt_le, ← Int32.toInt_inj, ← Int64.toInt_inj, own_t32_m1, own_t32_0, own_t32_1, own_t32_2, own_t32_3, own_t32_4, own_t32_5]
                  repeat' split
                  all_goals first | rfl | omega
                refine own_iload X171 hx (pc' := 300) (hb hby at_298) rfl rfl ?_
                refine own_icmpNo X171 hx (pc' := 303) (hb hby at_300) (teq hv173).2 rfl ?_
                refine own_iconst X171 hx (pc' := 304) (1 : Int32) (hb hby at_303) rfl rfl ?_
                refine own_goto X171 hx (pc' := 308) (hb hby at_304) (by decide) (by decide) ?_
                refine own_retN X171 hx hlk hret (by simp) (hb hby at_308) (by decide) (by decide) ?_
                exact ⟨rfl, N172⟩
            · skip
              refine own_icmpYes X116 hx (pc' := 288) (hb hby at_272) (flt hc272_166).2.2.2 (by decide) (by decide) ?_
              refine own_iconst X116 hx (pc' := 289) (-1 : Int32) (hb hby at_288) rfl rfl ?_
              refine own_istore X116 hx (pc' := 291) (Ls' := #[.val (.int p0), .val (.int p1), .val (.int p2), .val (.int p3), .val (.int p4), .val (.int n), .val (.int dr), .val (.int r), .val (.int (((p4.toUInt32 >>> ((5 : Int32) &&& 31).toUInt32).toInt32) &&& (3 : Int32))), .val (.int q), .val (.int d), .val (.ref ch), .val (.ref nb1), .val (.int (n - (1 : Int32))), .val (.int (own_sel r dr (0 : Int32) p0 p1)), .val (.int (own_sel r dr (1 : Int32) p1 p2)), .val (.int (own_sel r dr (2 : Int32) p2 (0 : Int32))), .val (.int (-1 : Int32))]) (hb hby at_289) rfl rfl ?_
              refine own_aload X116 hx (pc' := 293) (hb hby at_291) rfl rfl rfl ?_
              refine own_iload X116 hx (pc' := 295) (hb hby at_293) rfl rfl ?_
              refine own_callV X116 hx (pc' := 298) hZ hown (Wd30 hw) (Wd32 hw) (Wd33 hw) (Wd34 hw) (Wd2 hw) (by decide) (rm_place l Z a0 hw [] ch b1 k1 z cnt x0 x1 x2 q h38 n0 Z40 hcnt3 hz F42 F43 F44) e116 F41 0 (by decide) (by decide) (by decide) (by decide) [(.int q)] [] (by rw [hml]; rfl) (lenOf pd_3 rfl) rfl rfl (Nat.le_of_eq rfl) (hb hby at_295) rfl (fun v174 T174 L174 X174 hQ174 => ?_)
              obtain ⟨rfl, Nq174, e174⟩ := hQ174
              have N175 := Fr.app N117 Nq174
              show own_G p.tables e below _ T174 (mkF m 298 #[.val (.int p0), .val (.int p1), .val (.int p2), .val (.int p3), .val (.int p4), .val (.int n), .val (.int dr), .val (.int r), .val (.int (((p4.toUInt32 >>> ((5 : Int32) &&& 31).toUInt32).toInt32) &&& (3 : Int32))), .val (.int q), .val (.int d), .val (.ref ch), .val (.ref nb1), .val (.int (n - (1 : Int32))), .val (.int (own_sel r dr (0 : Int32) p0 p1)), .val (.int (own_sel r dr (1 : Int32) p1 p2)), .val (.int (own_sel r dr (2 : Int32) p2 (0 : Int32))), .val (.int (-1 : Int32))] [(.int (own_place cnt x0 x1 x2 q))])
              have hv176 : (own_place cnt x0 x1 x2 q) = (-1 : Int32) := by
                have a0 := hc182_46
                have a1 := hc234_118
                have a2 := hc253_150
                have a3 := hc272_166
                have b0 := hn
                have b1 := hcfg
                have b2 := hcnt
                have b3 := hx0
                have b4 := hx1
                have b5 := hx2
                have b6 := c_isub n (1 : Int32)
                have b7 := rng32 n
                have b8 := rng32 (n - (1 : Int32))
                have b9 := rng32 cnt
                simp only [Int32.lt_iff_toInt_lt, Int32.le_iff_toInt_le, Int64.lt_iff_toInt_lt, Int64.le_iff_toInt_le, ← Int32.toInt_inj, ← Int64.toInt_inj, own_t32_m1, own_t32_0, own_t32_1, own_t32_2, own_t32_3, own_t32_4, own_t32_5] at a0 a1 a2 a3 b0 b1 b2 b3 b4 b5 b6 b7 b8 b9
                unfold own_place
                simp only [Int32.lt_iff_toInt_lt, Int32.le_iff_toInt_le, Int64.lt_iff_toInt_lt, Int64.le_iff_toInt_le, ← Int32.toInt_inj, ← Int64.toInt_inj, own_t32_m1, own_t32_0, own_t32_1, own_t32_2, own_t32_3, own_t32_4, own_t32_5]
                repeat' split
                all_goals first | rfl | omega
              refine own_iload X174 hx (pc' := 300) (hb hby at_298) rfl rfl ?_
              refine own_icmpNo X174 hx (pc' := 303) (hb hby at_300) (teq hv176).2 rfl ?_
              refine own_iconst X174 hx (pc' := 304) (1 : Int32) (hb hby at_303) rfl rfl ?_
              refine own_goto X174 hx (pc' := 308) (hb hby at_304) (by decide) (by decide) ?_
              refine own_retN X174 hx hlk hret (by simp) (hb hby at_308) (by decide) (by decide) ?_
              exact ⟨rfl, N175⟩
    refine own_istore X0 hx (pc' := 87) (Ls' := #[.val (.int p0), .val (.int p1), .val (.int p2), .val (.int p3), .val (.int p4), .val (.int n), .val (.int dr), .val (.int r), .val (.int (((p4.toUInt32 >>> ((5 : Int32) &&& 31).toUInt32).toInt32) &&& (3 : Int32))), .val (.int q), .unset, .unset, .unset, .unset, .unset, .unset, .unset, .unset]) (hb hby at_85) rfl rfl ?_
    refine own_iconst X0 hx (pc' := 88) (3 : Int32) (hb hby at_87) rfl rfl ?_
    refine own_iload X0 hx (pc' := 90) (hb hby at_88) rfl rfl ?_
    refine own_bipush X0 hx (pc' := 92) (7 : Int32) (hb hby at_90) rfl rfl ?_
    refine own_iushr X0 hx (pc' := 93) (hb hby at_92) rfl ?_
    refine own_iconst X0 hx (pc' := 94) (1 : Int32) (hb hby at_93) rfl rfl ?_
    refine own_iand X0 hx (pc' := 95) (hb hby at_94) rfl rfl ?_
    refine own_iadd X0 hx (pc' := 96) (hb hby at_95) rfl rfl ?_
    refine own_istore X0 hx (pc' := 98) (Ls' := #[.val (.int p0), .val (.int p1), .val (.int p2), .val (.int p3), .val (.int p4), .val (.int n), .val (.int dr), .val (.int r), .val (.int (((p4.toUInt32 >>> ((5 : Int32) &&& 31).toUInt32).toInt32) &&& (3 : Int32))), .val (.int q), .val (.int ((3 : Int32) + (((p4.toUInt32 >>> ((7 : Int32) &&& 31).toUInt32).toInt32) &&& (1 : Int32)))), .unset, .unset, .unset, .unset, .unset, .unset, .unset]) (hb hby at_96) rfl rfl ?_
    obtain ⟨d, ed⟩ : ∃ d, d = ((3 : Int32) + (((p4.toUInt32 >>> ((7 : Int32) &&& 31).toUInt32).toInt32) &&& (1 : Int32))) := ⟨_, rfl⟩
    rw [← ed]
    have hd : d.toInt = 3 ∨ d.toInt = 4 := by
      have q1 := c_mask ((p4.toUInt32 >>> ((7 : Int32) &&& 31).toUInt32).toInt32) (1 : Int32) 1 (by decide) (by decide)
      have q2 := c_iadd (3 : Int32) (((p4.toUInt32 >>> ((7 : Int32) &&& 31).toUInt32).toInt32) &&& (1 : Int32))
      have q3 := rng32 ((3 : Int32) + (((p4.toUInt32 >>> ((7 : Int32) &&& 31).toUInt32).toInt32) &&& (1 : Int32)))
      rw [own_t32_3] at q2
      rw [ed]
      omega
    refine own_new X0 hx (pc' := 101) hZ hown (Wd0 hw) (Wd1 hw) (Wd2 hw) e0 (hb hby at_98) (by decide) (by decide) rfl (fun T177 h177 nb177 g177 X177 e177 E177 A177 D177 => ?_)
    have ne_nn_nb177_178 : nn ≠ nb177 := Nat.ne_of_lt (Nat.lt_of_lt_of_le V_n.lt (Nat.le_of_eq g177.symm))
    have ge_nb177 : n0 ≤ nb177 := Nat.le_trans Z0 (Nat.le_of_eq g177.symm)
    have Z179 : n0 ≤ h177.size := Nat.le_trans Z0 E177.1
    have F180 := (Sta.ext E177 S_n)
    have F181 := (V_n.ext E177)
    have F182 : Fld Z h177 nb177 "com/example/rootcast/rootcast/tree/Children" "peers" "[I" .null := D177 (Or.inl (Wd12 hw)) (ty := (.array .int)) (by decide)
    have F183 : Fld Z h177 nb177 "com/example/rootcast/rootcast/tree/Children" "subtree" "[I" .null := D177 (Or.inl (Wd14 hw)) (ty := (.array .int)) (by decide)
    have F184 : Fld Z h177 nb177 "com/example/rootcast/rootcast/tree/Children" "sent" "[I" .null := D177 (Or.inl (Wd16 hw)) (ty := (.array .int)) (by decide)
    have F185 : Fld Z h177 nb177 "com/example/rootcast/rootcast/tree/Children" "stopped" "[I" .null := D177 (Or.inl (Wd18 hw)) (ty := (.array .int)) (by decide)
    have F186 : Fld Z h177 nb177 "com/example/rootcast/rootcast/tree/Children" "toCome" "[I" .null := D177 (Or.inl (Wd20 hw)) (ty := (.array .int)) (by decide)
    have F187 : Fld Z h177 nb177 "com/example/rootcast/rootcast/tree/Children" "beatsLeft" "[I" .null := D177 (Or.inl (Wd22 hw)) (ty := (.array .int)) (by decide)
    have F188 : Fld Z h177 nb177 "com/example/rootcast/rootcast/tree/Children" "degree" "I" (.int (0 : Int32)) := D177 (Or.inr (Wd24 hw)) (ty := .int) (by decide)
    have F189 : Fld Z h177 nb177 "com/example/rootcast/rootcast/tree/Children" "count" "I" (.int (0 : Int32)) := D177 (Or.inl (Wd36 hw)) (ty := .int) (by decide)
    refine own_dup X177 hx (pc' := 102) (hb hby at_101) rfl rfl ?_
    refine own_iload X177 hx (pc' := 104) (hb hby at_102) rfl rfl ?_
    refine own_callI X177 hx (pc' := 107) hZ rfl hown (Wd3 hw) (Wd4 hw) (Wd5 hw) (Wd2 hw) (by decide) (rm_init l Z a0 hw [] nb177 nn d h177 n0 Z179 ge_nb177 A177 F180 F182 F183 F184 F185 F186 F187 F188 F189) e177 (b := nb177) 1 (by decide) (by decide) (by decide) (by decide) [(.int d)] [(.ref nb177)] (by rw [hml]; rfl) (lenOf pd_4 rfl) rfl rfl (Nat.le_of_eq rfl) (hb hby at_104) rfl (fun v190 T190 L190 X190 hQ190 => ?_)
    obtain ⟨rfl, Nq190, K190, G190_peers, G190_subtree, G190_sent, G190_stopped, G190_toCome, G190_beatsLeft, G190_degree, G190_count⟩ := hQ190
    have N191 := Fr.app N0 Nq190
    have Z192 : n0 ≤ T190.heap.size := Nat.le_trans Z179 K190.1
    have F193 := (F181.keep K190 (ninS ne_nn_nb177_178 nin0))
    have F194 := (Exa.keep A177 K190)
    show own_G p.tables e below _ T190 (mkF m 107 #[.val (.int p0), .val (.int p1), .val (.int p2), .val (.int p3), .val (.int p4), .val (.int n), .val (.int dr), .val (.int r), .val (.int (((p4.toUInt32 >>> ((5 : Int32) &&& 31).toUInt32).toInt32) &&& (3 : Int32))), .val (.int q), .val (.int d), .unset, .unset, .unset, .unset, .unset, .unset, .unset] [(.ref nb177)])
    refine own_astore X190 hx (pc' := 109) (Ls' := #[.val (.int p0), .val (.int p1), .val (.int p2), .val (.int p3), .val (.int p4), .val (.int n), .val (.int dr), .val (.int r), .val (.int (((p4.toUInt32 >>> ((5 : Int32) &&& 31).toUInt32).toInt32) &&& (3 : Int32))), .val (.int q), .val (.int d), .val (.ref nb177), .unset, .unset, .unset, .unset, .unset, .unset]) (hb hby at_107) rfl rfl rfl ?_
    refine own_iload X190 hx (pc' := 111) (hb hby at_109) rfl rfl ?_
    by_cases hc111_195 : (0 : Int32) < n
    · skip
      refine own_ifNo X190 hx (pc' := 114) (hb hby at_111) (tlt hc111_195).2.2.2 rfl ?_
      refine own_aload X190 hx (pc' := 116) (hb hby at_114) rfl rfl rfl ?_
      refine own_iloadN X190 hx (pc' := 117) (hb hby at_116) rfl rfl ?_
      refine own_iconst X190 hx (pc' := 118) (1 : Int32) (hb hby at_117) rfl rfl ?_
      refine own_callV X190 hx (pc' := 121) hZ hown (Wd37 hw) (Wd39 hw) (Wd40 hw) (Wd41 hw) (Wd2 hw) (by decide) (rm_add0 l Z a0 hw [] nb177 nn kn d p0 (1 : Int32) T190.heap n0 Z192 ge_nb177 hd F194 G190_count G190_peers G190_subtree G190_sent G190_degree F193) rfl F194 0 (by decide) (by decide) (by decide) (by decide) [(.int p0), (.int (1 : Int32))] [] (by rw [hml]; rfl) (lenOf pd_5 rfl) rfl rfl (Nat.le_of_eq rfl) (hb hby at_118) rfl (fun v196 T196 L196 X196 hQ196 => ?_)
      obtain ⟨rfl, Nq196, K196, z, b1, b2, b3, k1, k2, k3, hz, s1, s2, s3, dj12, dj13, dj23, Gc, Gp, Gu, Gt, V1, V2, V3⟩ := hQ196
      have N197 := Fr.app N191 Nq196
      have ge_b1 : n0 ≤ b1 := Nat.le_trans Z192 s1
      have ge_b2 : n0 ≤ b2 := Nat.le_trans Z192 s2
      have ge_b3 : n0 ≤ b3 := Nat.le_trans Z192 s3
      have na_1 : nb177 ≠ b1 := Nat.ne_of_lt (Nat.lt_of_lt_of_le F194.lt s1)
      have na_2 : nb177 ≠ b2 := Nat.ne_of_lt (Nat.lt_of_lt_of_le F194.lt s2)
      have na_3 : nb177 ≠ b3 := Nat.ne_of_lt (Nat.lt_of_lt_of_le F194.lt s3)
      have Z198 : n0 ≤ T196.heap.size := Nat.le_trans Z192 K196.1
      have F199 := (Exa.keep F194 K196)
      show own_G p.tables e below _ T196 (mkF m 121 #[.val (.int p0), .val (.int p1), .val (.int p2), .val (.int p3), .val (.int p4), .val (.int n), .val (.int dr), .val (.int r), .val (.int (((p4.toUInt32 >>> ((5 : Int32) &&& 31).toUInt32).toInt32) &&& (3 : Int32))), .val (.int q), .val (.int d), .val (.ref nb177), .unset, .unset, .unset, .unset, .unset, .unset] [])
      refine own_iload X196 hx (pc' := 123) (hb hby at_121) rfl rfl ?_
      refine own_iconst X196 hx (pc' := 124) (1 : Int32) (hb hby at_123) rfl rfl ?_
      by_cases hc124_200 : (1 : Int32) < n
      · skip
        refine own_icmpNo X196 hx (pc' := 127) (hb hby at_124) (tlt hc124_200).2.2.2 rfl ?_
        refine own_aload X196 hx (pc' := 129) (hb hby at_127) rfl rfl rfl ?_
        refine own_iloadN X196 hx (pc' := 130) (hb hby at_129) rfl rfl ?_
        refine own_iconst X196 hx (pc' := 131) (1 : Int32) (hb hby at_130) rfl rfl ?_
        refine own_callV X196 hx (pc' := 134) hZ hown (Wd37 hw) (Wd39 hw) (Wd40 hw) (Wd41 hw) (Wd2 hw) (by decide) (rm_add1 l Z a0 hw [] nb177 b1 b2 b3 k1 k2 k3 z p0 (0 : Int32) (0 : Int32) (1 : Int32) (0 : Int32) (0 : Int32) (0 : Int32) (0 : Int32) (0 : Int32) p1 (1 : Int32) T196.heap n0 Z198 hz ge_nb177 ge_b1 ge_b2 ge_b3 dj12 dj13 dj23 F199 Gc Gp Gu Gt V1 V2 V3) rfl F199 0 (by decide) (by decide) (by decide) (by decide) [(.int p1), (.int (1 : Int32))] [] (by rw [hml]; rfl) (lenOf pd_5 rfl) rfl rfl (Nat.le_of_eq rfl) (hb hby at_131) rfl (fun v201 T201 L201 X201 hQ201 => ?_)
        obtain ⟨rfl, Nq201, K201, Gc201, Gp201, Gu201, Gt201, Va201, Vb201, Vc201⟩ := hQ201
        have N202 := Fr.app N197 Nq201
        have Z203 : n0 ≤ T201.heap.size := Nat.le_trans Z198 K201.1
        have F204 := (Exa.keep F199 K201)
        show own_G p.tables e below _ T201 (mkF m 134 #[.val (.int p0), .val (.int p1), .val (.int p2), .val (.int p3), .val (.int p4), .val (.int n), .val (.int dr), .val (.int r), .val (.int (((p4.toUInt32 >>> ((5 : Int32) &&& 31).toUInt32).toInt32) &&& (3 : Int32))), .val (.int q), .val (.int d), .val (.ref nb177), .unset, .unset, .unset, .unset, .unset, .unset] [])
        refine own_iload X201 hx (pc' := 136) (hb hby at_134) rfl rfl ?_
        refine own_iconst X201 hx (pc' := 137) (2 : Int32) (hb hby at_136) rfl rfl ?_
        by_cases hc137_205 : (2 : Int32) < n
        · skip
          refine own_icmpNo X201 hx (pc' := 140) (hb hby at_137) (tlt hc137_205).2.2.2 rfl ?_
          refine own_aload X201 hx (pc' := 142) (hb hby at_140) rfl rfl rfl ?_
          refine own_iloadN X201 hx (pc' := 143) (hb hby at_142) rfl rfl ?_
          refine own_iconst X201 hx (pc' := 144) (1 : Int32) (hb hby at_143) rfl rfl ?_
          refine own_callV X201 hx (pc' := 147) hZ hown (Wd37 hw) (Wd39 hw) (Wd40 hw) (Wd41 hw) (Wd2 hw) (by decide) (rm_add2 l Z a0 hw [] nb177 b1 b2 b3 k1 k2 k3 z p0 p1 (0 : Int32) (1 : Int32) (1 : Int32) (0 : Int32) (0 : Int32) (0 : Int32) (0 : Int32) p2 (1 : Int32) T201.heap n0 Z203 hz ge_nb177 ge_b1 ge_b2 ge_b3 dj12 dj13 dj23 F204 Gc201 Gp201 Gu201 Gt201 Va201 Vb201 Vc201) rfl F204 0 (by decide) (by decide) (by decide) (by decide) [(.int p2), (.int (1 : Int32))] [] (by rw [hml]; rfl) (lenOf pd_5 rfl) rfl rfl (Nat.le_of_eq rfl) (hb hby at_144) rfl (fun v206 T206 L206 X206 hQ206 => ?_)
          obtain ⟨rfl, Nq206, K206, Gc206, Gp206, Gu206, Gt206, Va206, Vb206, Vc206⟩ := hQ206
          have N207 := Fr.app N202 Nq206
          have Z208 : n0 ≤ T206.heap.size := Nat.le_trans Z203 K206.1
          have F209 := (Exa.keep F204 K206)
          show own_G p.tables e below _ T206 (mkF m 147 #[.val (.int p0), .val (.int p1), .val (.int p2), .val (.int p3), .val (.int p4), .val (.int n), .val (.int dr), .val (.int r), .val (.int (((p4.toUInt32 >>> ((5 : Int32) &&& 31).toUInt32).toInt32) &&& (3 : Int32))), .val (.int q), .val (.int d), .val (.ref nb177), .unset, .unset, .unset, .unset, .unset, .unset] [])
          refine own_iload X206 hx (pc' := 149) (hb hby at_147) rfl rfl ?_
          by_cases hc149_210 : dr = (0 : Int32)
          · skip
            refine own_ifYes X206 hx (pc' := 159) (hb hby at_149) (teq hc149_210).1 (by decide) (by decide) ?_
            have hcnt : (dr.toInt = 0 ∧ (3 : Int32).toInt = n.toInt) ∨ (dr.toInt = 1 ∧ (3 : Int32).toInt = n.toInt - 1) := by
              have a0 := hc111_195
              have a1 := hc124_200
              have a2 := hc137_205
              have a3 := hc149_210
              have b0 := hn
              have b1 := hcfg
              simp only [Int32.lt_iff_toInt_lt, Int32.le_iff_toInt_le, Int64.lt_iff_toInt_lt, Int64.le_iff_toInt_le, ← Int32.toInt_inj, ← Int64.toInt_inj, own_t32_m1, own_t32_0, own_t32_1, own_t32_2, own_t32_3, own_t32_4, own_t32_5] at a0 a1 a2 a3 b0 b1
              try simp only [Int32.lt_iff_toInt_lt, Int32.le_iff_toInt_le, Int64.lt_iff_toInt_lt, Int64.le_iff_toInt_le, ← Int32.toInt_inj, ← Int64.toInt_inj, own_t32_m1, own_t32_0, own_t32_1, own_t32_2, own_t32_3, own_t32_4, own_t32_5]
              repeat' split
              all_goals first | rfl | omega
            exact J159 nb177 b1 k1 z d (3 : Int32) p0 p1 p2 _ _ _ (X206.more (by decide) (by decide)) rfl N207 Z208 F209 Gc206 Gp206 Va206 hz hcnt (Or.inr (by unfold own_sel; rw [if_pos hc149_210])) (Or.inr (by unfold own_sel; rw [if_pos hc149_210])) (Or.inr (by unfold own_sel; rw [if_pos hc149_210]))
          · skip
            refine own_ifNo X206 hx (pc' := 152) (hb hby at_149) (feq hc149_210).1 rfl ?_
            have hrc : r.toInt = 0 ∨ r.toInt = 1 ∨ r.toInt = 2 := by
              have a0 := hc111_195
              have a1 := hc124_200
              have a2 := hc137_205
              have a3 := hc149_210
              have b0 := hn
              have b1 := hcfg
              simp only [Int32.lt_iff_toInt_lt, Int32.le_iff_toInt_le, Int64.lt_iff_toInt_lt, Int64.le_iff_toInt_le, ← Int32.toInt_inj, ← Int64.toInt_inj, own_t32_m1, own_t32_0, own_t32_1, own_t32_2, own_t32_3, own_t32_4, own_t32_5] at a0 a1 a2 a3 b0 b1
              try simp only [Int32.lt_iff_toInt_lt, Int32.le_iff_toInt_le, Int64.lt_iff_toInt_lt, Int64.le_iff_toInt_le, ← Int32.toInt_inj, ← Int64.toInt_inj, own_t32_m1, own_t32_0, own_t32_1, own_t32_2, own_t32_3, own_t32_4, own_t32_5]
              repeat' split
              all_goals first | rfl | omega
            rcases hrc with hrc | hrc | hrc
            · have hr : r = (0 : Int32) := by rw [← Int32.toInt_inj, own_t32_0]; exact hrc
              subst hr
              refine own_aload X206 hx (pc' := 154) (hb hby at_152) rfl rfl rfl ?_
              refine own_iload X206 hx (pc' := 156) (hb hby at_154) rfl rfl ?_
              refine own_callV X206 hx (pc' := 159) hZ hown (Wd58 hw) (Wd60 hw) (Wd61 hw) (Wd62 hw) (Wd2 hw) (by decide) (rm_rem30 l Z a0 hw [] nb177 b1 b2 b3 k1 k2 k3 z p0 p1 p2 (1 : Int32) (1 : Int32) (1 : Int32) (0 : Int32) (0 : Int32) (0 : Int32)  T206.heap n0 Z208 hz ge_nb177 ge_b1 ge_b2 ge_b3 dj12 dj13 dj23 F209 Gc206 Gp206 Gu206 Gt206 Va206 Vb206 Vc206) rfl F209 0 (by decide) (by decide) (by decide) (by decide) [(.int (0 : Int32))] [] (by rw [hml]; rfl) (lenOf pd_4 rfl) rfl rfl (Nat.le_of_eq rfl) (hb hby at_156) rfl (fun v211 T211 L211 X211 hQ211 => ?_)
              obtain ⟨rfl, Nq211, K211, Gc211, Gp211, Gu211, Gt211, Va211, Vb211, Vc211⟩ := hQ211
              have N212 := Fr.app N207 Nq211
              have Z213 : n0 ≤ T211.heap.size := Nat.le_trans Z208 K211.1
              have F214 := (Exa.keep F209 K211)
              show own_G p.tables e below _ T211 (mkF m 159 #[.val (.int p0), .val (.int p1), .val (.int p2), .val (.int p3), .val (.int p4), .val (.int n), .val (.int dr), .val (.int (0 : Int32)), .val (.int (((p4.toUInt32 >>> ((5 : Int32) &&& 31).toUInt32).toInt32) &&& (3 : Int32))), .val (.int q), .val (.int d), .val (.ref nb177), .unset, .unset, .unset, .unset, .unset, .unset] [])
              have hcnt : (dr.toInt = 0 ∧ (2 : Int32).toInt = n.toInt) ∨ (dr.toInt = 1 ∧ (2 : Int32).toInt = n.toInt - 1) := by
                have a0 := hc111_195
                have a1 := hc124_200
                have a2 := hc137_205
                have a3 := hc149_210
                have b0 := hn
                have b1 := hcfg
                simp only [Int32.lt_iff_toInt_lt, Int32.le_iff_toInt_le, Int64.lt_iff_toInt_lt, Int64.le_iff_toInt_le, ← Int32.toInt_inj, ← Int64.toInt_inj, own_t32_m1, own_t32_0, own_t32_1, own_t32_2, own_t32_3, own_t32_4, own_t32_5] at a0 a1 a2 a3 b0 b1
                try simp only [Int32.lt_iff_toInt_lt, Int32.le_iff_toInt_le, Int64.lt_iff_toInt_lt, Int64.le_iff_toInt_le, ← Int32.toInt_inj, ← Int64.toInt_inj, own_t32_m1, own_t32_0, own_t32_1, own_t32_2, own_t32_3, own_t32_4, own_t32_5]
                repeat' split
                all_goals first | rfl | omega
              exact J159 nb177 b1 k1 z d (2 : Int32) p1 p2 p2 _ _ _ (X211.more (by decide) (by decide)) rfl N212 Z213 F214 Gc211 Gp211 Va211 hz hcnt (Or.inr (by unfold own_sel; rw [if_neg hc149_210, if_neg (by decide)])) (Or.inr (by unfold own_sel; rw [if_neg hc149_210, if_neg (by decide)])) (Or.inl (by decide))
            · have hr : r = (1 : Int32) := by rw [← Int32.toInt_inj, own_t32_1]; exact hrc
              subst hr
              refine own_aload X206 hx (pc' := 154) (hb hby at_152) rfl rfl rfl ?_
              refine own_iload X206 hx (pc' := 156) (hb hby at_154) rfl rfl ?_
              refine own_callV X206 hx (pc' := 159) hZ hown (Wd58 hw) (Wd60 hw) (Wd61 hw) (Wd62 hw) (Wd2 hw) (by decide) (rm_rem31 l Z a0 hw [] nb177 b1 b2 b3 k1 k2 k3 z p0 p1 p2 (1 : Int32) (1 : Int32) (1 : Int32) (0 : Int32) (0 : Int32) (0 : Int32)  T206.heap n0 Z208 hz ge_nb177 ge_b1 ge_b2 ge_b3 dj12 dj13 dj23 F209 Gc206 Gp206 Gu206 Gt206 Va206 Vb206 Vc206) rfl F209 0 (by decide) (by decide) (by decide) (by decide) [(.int (1 : Int32))] [] (by rw [hml]; rfl) (lenOf pd_4 rfl) rfl rfl (Nat.le_of_eq rfl) (hb hby at_156) rfl (fun v215 T215 L215 X215 hQ215 => ?_)
              obtain ⟨rfl, Nq215, K215, Gc215, Gp215, Gu215, Gt215, Va215, Vb215, Vc215⟩ := hQ215
              have N216 := Fr.app N207 Nq215
              have Z217 : n0 ≤ T215.heap.size := Nat.le_trans Z208 K215.1
              have F218 := (Exa.keep F209 K215)
              show own_G p.tables e below _ T215 (mkF m 159 #[.val (.int p0), .val (.int p1), .val (.int p2), .val (.int p3), .val (.int p4), .val (.int n), .val (.int dr), .val (.int (1 : Int32)), .val (.int (((p4.toUInt32 >>> ((5 : Int32) &&& 31).toUInt32).toInt32) &&& (3 : Int32))), .val (.int q), .val (.int d), .val (.ref nb177), .unset, .unset, .unset, .unset, .unset, .unset] [])
              have hcnt : (dr.toInt = 0 ∧ (2 : Int32).toInt = n.toInt) ∨ (dr.toInt = 1 ∧ (2 : Int32).toInt = n.toInt - 1) := by
                have a0 := hc111_195
                have a1 := hc124_200
                have a2 := hc137_205
                have a3 := hc149_210
                have b0 := hn
                have b1 := hcfg
                simp only [Int32.lt_iff_toInt_lt, Int32.le_iff_toInt_le, Int64.lt_iff_toInt_lt, Int64.le_iff_toInt_le, ← Int32.toInt_inj, ← Int64.toInt_inj, own_t32_m1, own_t32_0, own_t32_1, own_t32_2, own_t32_3, own_t32_4, own_t32_5] at a0 a1 a2 a3 b0 b1
                try simp only [Int32.lt_iff_toInt_lt, Int32.le_iff_toInt_le, Int64.lt_iff_toInt_lt, Int64.le_iff_toInt_le, ← Int32.toInt_inj, ← Int64.toInt_inj, own_t32_m1, own_t32_0, own_t32_1, own_t32_2, own_t32_3, own_t32_4, own_t32_5]
                repeat' split
                all_goals first | rfl | omega
              exact J159 nb177 b1 k1 z d (2 : Int32) p0 p2 p2 _ _ _ (X215.more (by decide) (by decide)) rfl N216 Z217 F218 Gc215 Gp215 Va215 hz hcnt (Or.inr (by unfold own_sel; rw [if_neg hc149_210, if_pos (by decide)])) (Or.inr (by unfold own_sel; rw [if_neg hc149_210, if_neg (by decide)])) (Or.inl (by decide))
            · have hr : r = (2 : Int32) := by rw [← Int32.toInt_inj, own_t32_2]; exact hrc
              subst hr
              refine own_aload X206 hx (pc' := 154) (hb hby at_152) rfl rfl rfl ?_
              refine own_iload X206 hx (pc' := 156) (hb hby at_154) rfl rfl ?_
              refine own_callV X206 hx (pc' := 159) hZ hown (Wd58 hw) (Wd60 hw) (Wd61 hw) (Wd62 hw) (Wd2 hw) (by decide) (rm_rem32 l Z a0 hw [] nb177 b1 b2 b3 k1 k2 k3 z p0 p1 p2 (1 : Int32) (1 : Int32) (1 : Int32) (0 : Int32) (0 : Int32) (0 : Int32)  T206.heap n0 Z208 hz ge_nb177 ge_b1 ge_b2 ge_b3 dj12 dj13 dj23 F209 Gc206 Gp206 Gu206 Gt206 Va206 Vb206 Vc206) rfl F209 0 (by decide) (by decide) (by decide) (by decide) [(.int (2 : Int32))] [] (by rw [hml]; rfl) (lenOf pd_4 rfl) rfl rfl (Nat.le_of_eq rfl) (hb hby at_156) rfl (fun v219 T219 L219 X219 hQ219 => ?_)
              obtain ⟨rfl, Nq219, K219, Gc219, Gp219, Gu219, Gt219, Va219, Vb219, Vc219⟩ := hQ219
              have N220 := Fr.app N207 Nq219
              have Z221 : n0 ≤ T219.heap.size := Nat.le_trans Z208 K219.1
              have F222 := (Exa.keep F209 K219)
              show own_G p.tables e below _ T219 (mkF m 159 #[.val (.int p0), .val (.int p1), .val (.int p2), .val (.int p3), .val (.int p4), .val (.int n), .val (.int dr), .val (.int (2 : Int32)), .val (.int (((p4.toUInt32 >>> ((5 : Int32) &&& 31).toUInt32).toInt32) &&& (3 : Int32))), .val (.int q), .val (.int d), .val (.ref nb177), .unset, .unset, .unset, .unset, .unset, .unset] [])
              have hcnt : (dr.toInt = 0 ∧ (2 : Int32).toInt = n.toInt) ∨ (dr.toInt = 1 ∧ (2 : Int32).toInt = n.toInt - 1) := by
                have a0 := hc111_195
                have a1 := hc124_200
                have a2 := hc137_205
                have a3 := hc149_210
                have b0 := hn
                have b1 := hcfg
                simp only [Int32.lt_iff_toInt_lt, Int32.le_iff_toInt_le, Int64.lt_iff_toInt_lt, Int64.le_iff_toInt_le, ← Int32.toInt_inj, ← Int64.toInt_inj, own_t32_m1, own_t32_0, own_t32_1, own_t32_2, own_t32_3, own_t32_4, own_t32_5] at a0 a1 a2 a3 b0 b1
                try simp only [Int32.lt_iff_toInt_lt, Int32.le_iff_toInt_le, Int64.lt_iff_toInt_lt, Int64.le_iff_toInt_le, ← Int32.toInt_inj, ← Int64.toInt_inj, own_t32_m1, own_t32_0, own_t32_1, own_t32_2, own_t32_3, own_t32_4, own_t32_5]
                repeat' split
                all_goals first | rfl | omega
              exact J159 nb177 b1 k1 z d (2 : Int32) p0 p1 p2 _ _ _ (X219.more (by decide) (by decide)) rfl N220 Z221 F222 Gc219 Gp219 Va219 hz hcnt (Or.inr (by unfold own_sel; rw [if_neg hc149_210, if_pos (by decide)])) (Or.inr (by unfold own_sel; rw [if_neg hc149_210, if_pos (by decide)])) (Or.inl (by decide))
        · skip
          refine own_icmpYes X201 hx (pc' := 147) (hb hby at_137) (flt hc137_205).2.2.2 (by decide) (by decide) ?_
          refine own_iload X201 hx (pc' := 149) (hb hby at_147) rfl rfl ?_
          by_cases hc149_223 : dr = (0 : Int32)
          · skip
            refine own_ifYes X201 hx (pc' := 159) (hb hby at_149) (teq hc149_223).1 (by decide) (by decide) ?_
            have hcnt : (dr.toInt = 0 ∧ (2 : Int32).toInt = n.toInt) ∨ (dr.toInt = 1 ∧ (2 : Int32).toInt = n.toInt - 1) := by
              have a0 := hc111_195
              have a1 := hc124_200
              have a2 := hc137_205
              have a3 := hc149_223
              have b0 := hn
              have b1 := hcfg
              simp only [Int32.lt_iff_toInt_lt, Int32.le_iff_toInt_le, Int64.lt_iff_toInt_lt, Int64.le_iff_toInt_le, ← Int32.toInt_inj, ← Int64.toInt_inj, own_t32_m1, own_t32_0, own_t32_1, own_t32_2, own_t32_3, own_t32_4, own_t32_5] at a0 a1 a2 a3 b0 b1
              try simp only [Int32.lt_iff_toInt_lt, Int32.le_iff_toInt_le, Int64.lt_iff_toInt_lt, Int64.le_iff_toInt_le, ← Int32.toInt_inj, ← Int64.toInt_inj, own_t32_m1, own_t32_0, own_t32_1, own_t32_2, own_t32_3, own_t32_4, own_t32_5]
              repeat' split
              all_goals first | rfl | omega
            exact J159 nb177 b1 k1 z d (2 : Int32) p0 p1 (0 : Int32) _ _ _ (X201.more (by decide) (by decide)) rfl N202 Z203 F204 Gc201 Gp201 Va201 hz hcnt (Or.inr (by unfold own_sel; rw [if_pos hc149_223])) (Or.inr (by unfold own_sel; rw [if_pos hc149_223])) (Or.inl (by decide))
          · skip
            refine own_ifNo X201 hx (pc' := 152) (hb hby at_149) (feq hc149_223).1 rfl ?_
            have hrc : r.toInt = 0 ∨ r.toInt = 1 := by
              have a0 := hc111_195
              have a1 := hc124_200
              have a2 := hc137_205
              have a3 := hc149_223
              have b0 := hn
              have b1 := hcfg
              simp only [Int32.lt_iff_toInt_lt, Int32.le_iff_toInt_le, Int64.lt_iff_toInt_lt, Int64.le_iff_toInt_le, ← Int32.toInt_inj, ← Int64.toInt_inj, own_t32_m1, own_t32_0, own_t32_1, own_t32_2, own_t32_3, own_t32_4, own_t32_5] at a0 a1 a2 a3 b0 b1
              try simp only [Int32.lt_iff_toInt_lt, Int32.le_iff_toInt_le, Int64.lt_iff_toInt_lt, Int64.le_iff_toInt_le, ← Int32.toInt_inj, ← Int64.toInt_inj, own_t32_m1, own_t32_0, own_t32_1, own_t32_2, own_t32_3, own_t32_4, own_t32_5]
              repeat' split
              all_goals first | rfl | omega
            rcases hrc with hrc | hrc
            · have hr : r = (0 : Int32) := by rw [← Int32.toInt_inj, own_t32_0]; exact hrc
              subst hr
              refine own_aload X201 hx (pc' := 154) (hb hby at_152) rfl rfl rfl ?_
              refine own_iload X201 hx (pc' := 156) (hb hby at_154) rfl rfl ?_
              refine own_callV X201 hx (pc' := 159) hZ hown (Wd58 hw) (Wd60 hw) (Wd61 hw) (Wd62 hw) (Wd2 hw) (by decide) (rm_rem20 l Z a0 hw [] nb177 b1 b2 b3 k1 k2 k3 z p0 p1 (0 : Int32) (1 : Int32) (1 : Int32) (0 : Int32) (0 : Int32) (0 : Int32) (0 : Int32)  T201.heap n0 Z203 hz ge_nb177 ge_b1 ge_b2 ge_b3 dj12 dj13 dj23 F204 Gc201 Gp201 Gu201 Gt201 Va201 Vb201 Vc201) rfl F204 0 (by decide) (by decide) (by decide) (by decide) [(.int (0 : Int32))] [] (by rw [hml]; rfl) (lenOf pd_4 rfl) rfl rfl (Nat.le_of_eq rfl) (hb hby at_156) rfl (fun v224 T224 L224 X224 hQ224 => ?_)
              obtain ⟨rfl, Nq224, K224, Gc224, Gp224, Gu224, Gt224, Va224, Vb224, Vc224⟩ := hQ224
              have N225 := Fr.app N202 Nq224
              have Z226 : n0 ≤ T224.heap.size := Nat.le_trans Z203 K224.1
              have F227 := (Exa.keep F204 K224)
              show own_G p.tables e below _ T224 (mkF m 159 #[.val (.int p0), .val (.int p1), .val (.int p2), .val (.int p3), .val (.int p4), .val (.int n), .val (.int dr), .val (.int (0 : Int32)), .val (.int (((p4.toUInt32 >>> ((5 : Int32) &&& 31).toUInt32).toInt32) &&& (3 : Int32))), .val (.int q), .val (.int d), .val (.ref nb177), .unset, .unset, .unset, .unset, .unset, .unset] [])
              have hcnt : (dr.toInt = 0 ∧ (1 : Int32).toInt = n.toInt) ∨ (dr.toInt = 1 ∧ (1 : Int32).toInt = n.toInt - 1) := by
                have a0 := hc111_195
                have a1 := hc124_200
                have a2 := hc137_205
                have a3 := hc149_223
                have b0 := hn
                have b1 := hcfg
                simp only [Int32.lt_iff_toInt_lt, Int32.le_iff_toInt_le, Int64.lt_iff_toInt_lt, Int64.le_iff_toInt_le, ← Int32.toInt_inj, ← Int64.toInt_inj, own_t32_m1, own_t32_0, own_t32_1, own_t32_2, own_t32_3, own_t32_4, own_t32_5] at a0 a1 a2 a3 b0 b1
                try simp only [Int32.lt_iff_toInt_lt, Int32.le_iff_toInt_le, Int64.lt_iff_toInt_lt, Int64.le_iff_toInt_le, ← Int32.toInt_inj, ← Int64.toInt_inj, own_t32_m1, own_t32_0, own_t32_1, own_t32_2, own_t32_3, own_t32_4, own_t32_5]
                repeat' split
                all_goals first | rfl | omega
              exact J159 nb177 b1 k1 z d (1 : Int32) p1 p1 (0 : Int32) _ _ _ (X224.more (by decide) (by decide)) rfl N225 Z226 F227 Gc224 Gp224 Va224 hz hcnt (Or.inr (by unfold own_sel; rw [if_neg hc149_223, if_neg (by decide)])) (Or.inl (by decide)) (Or.inl (by decide))
            · have hr : r = (1 : Int32) := by rw [← Int32.toInt_inj, own_t32_1]; exact hrc
              subst hr
              refine own_aload X201 hx (pc' := 154) (hb hby at_152) rfl rfl rfl ?_
              refine own_iload X201 hx (pc' := 156) (hb hby at_154) rfl rfl ?_
              refine own_callV X201 hx (pc' := 159) hZ hown (Wd58 hw) (Wd60 hw) (Wd61 hw) (Wd62 hw) (Wd2 hw) (by decide) (rm_rem21 l Z a0 hw [] nb177 b1 b2 b3 k1 k2 k3 z p0 p1 (0 : Int32) (1 : Int32) (1 : Int32) (0 : Int32) (0 : Int32) (0 : Int32) (0 : Int32)  T201.heap n0 Z203 hz ge_nb177 ge_b1 ge_b2 ge_b3 dj12 dj13 dj23 F204 Gc201 Gp201 Gu201 Gt201 Va201 Vb201 Vc201) rfl F204 0 (by decide) (by decide) (by decide) (by decide) [(.int (1 : Int32))] [] (by rw [hml]; rfl) (lenOf pd_4 rfl) rfl rfl (Nat.le_of_eq rfl) (hb hby at_156) rfl (fun v228 T228 L228 X228 hQ228 => ?_)
              obtain ⟨rfl, Nq228, K228, Gc228, Gp228, Gu228, Gt228, Va228, Vb228, Vc228⟩ := hQ228
              have N229 := Fr.app N202 Nq228
              have Z230 : n0 ≤ T228.heap.size := Nat.le_trans Z203 K228.1
              have F231 := (Exa.keep F204 K228)
              show own_G p.tables e below _ T228 (mkF m 159 #[.val (.int p0), .val (.int p1), .val (.int p2), .val (.int p3), .val (.int p4), .val (.int n), .val (.int dr), .val (.int (1 : Int32)), .val (.int (((p4.toUInt32 >>> ((5 : Int32) &&& 31).toUInt32).toInt32) &&& (3 : Int32))), .val (.int q), .val (.int d), .val (.ref nb177), .unset, .unset, .unset, .unset, .unset, .unset] [])
              have hcnt : (dr.toInt = 0 ∧ (1 : Int32).toInt = n.toInt) ∨ (dr.toInt = 1 ∧ (1 : Int32).toInt = n.toInt - 1) := by
                have a0 := hc111_195
                have a1 := hc124_200
                have a2 := hc137_205
                have a3 := hc149_223
                have b0 := hn
                have b1 := hcfg
                simp only [Int32.lt_iff_toInt_lt, Int32.le_iff_toInt_le, Int64.lt_iff_toInt_lt, Int64.le_iff_toInt_le, ← Int32.toInt_inj, ← Int64.toInt_inj, own_t32_m1, own_t32_0, own_t32_1, own_t32_2, own_t32_3, own_t32_4, own_t32_5] at a0 a1 a2 a3 b0 b1
                try simp only [Int32.lt_iff_toInt_lt, Int32.le_iff_toInt_le, Int64.lt_iff_toInt_lt, Int64.le_iff_toInt_le, ← Int32.toInt_inj, ← Int64.toInt_inj, own_t32_m1, own_t32_0, own_t32_1, own_t32_2, own_t32_3, own_t32_4, own_t32_5]
                repeat' split
                all_goals first | rfl | omega
              exact J159 nb177 b1 k1 z d (1 : Int32) p0 p1 (0 : Int32) _ _ _ (X228.more (by decide) (by decide)) rfl N229 Z230 F231 Gc228 Gp228 Va228 hz hcnt (Or.inr (by unfold own_sel; rw [if_neg hc149_223, if_pos (by decide)])) (Or.inl (by decide)) (Or.inl (by decide))
      · skip
        refine own_icmpYes X196 hx (pc' := 134) (hb hby at_124) (flt hc124_200).2.2.2 (by decide) (by decide) ?_
        refine own_iload X196 hx (pc' := 136) (hb hby at_134) rfl rfl ?_
        refine own_iconst X196 hx (pc' := 137) (2 : Int32) (hb hby at_136) rfl rfl ?_
        by_cases hc137_232 : (2 : Int32) < n
        · skip
          have hF : False := by
            have a0 := hc111_195
            have a1 := hc124_200
            have a2 := hc137_232
            have b0 := hn
            have b1 := hcfg
            simp only [Int32.lt_iff_toInt_lt, Int32.le_iff_toInt_le, Int64.lt_iff_toInt_lt, Int64.le_iff_toInt_le, ← Int32.toInt_inj, ← Int64.toInt_inj, own_t32_m1, own_t32_0, own_t32_1, own_t32_2, own_t32_3, own_t32_4, own_t32_5] at a0 a1 a2 b0 b1
            try simp only [Int32.lt_iff_toInt_lt, Int32.le_iff_toInt_le, Int64.lt_iff_toInt_lt, Int64.le_iff_toInt_le, ← Int32.toInt_inj, ← Int64.toInt_inj, own_t32_m1, own_t32_0, own_t32_1, own_t32_2, own_t32_3, own_t32_4, own_t32_5]
            repeat' split
            all_goals first | rfl | omega
          exact hF.elim
        · skip
          refine own_icmpYes X196 hx (pc' := 147) (hb hby at_137) (flt hc137_232).2.2.2 (by decide) (by decide) ?_
          refine own_iload X196 hx (pc' := 149) (hb hby at_147) rfl rfl ?_
          by_cases hc149_233 : dr = (0 : Int32)
          · skip
            refine own_ifYes X196 hx (pc' := 159) (hb hby at_149) (teq hc149_233).1 (by decide) (by decide) ?_
            have hcnt : (dr.toInt = 0 ∧ (1 : Int32).toInt = n.toInt) ∨ (dr.toInt = 1 ∧ (1 : Int32).toInt = n.toInt - 1) := by
              have a0 := hc111_195
              have a1 := hc124_200
              have a2 := hc137_232
              have a3 := hc149_233
              have b0 := hn
              have b1 := hcfg
              simp only [Int32.lt_iff_toInt_lt, Int32.le_iff_toInt_le, Int64.lt_iff_toInt_lt, Int64.le_iff_toInt_le, ← Int32.toInt_inj, ← Int64.toInt_inj, own_t32_m1, own_t32_0, own_t32_1, own_t32_2, own_t32_3, own_t32_4, own_t32_5] at a0 a1 a2 a3 b0 b1
              try simp only [Int32.lt_iff_toInt_lt, Int32.le_iff_toInt_le, Int64.lt_iff_toInt_lt, Int64.le_iff_toInt_le, ← Int32.toInt_inj, ← Int64.toInt_inj, own_t32_m1, own_t32_0, own_t32_1, own_t32_2, own_t32_3, own_t32_4, own_t32_5]
              repeat' split
              all_goals first | rfl | omega
            exact J159 nb177 b1 k1 z d (1 : Int32) p0 (0 : Int32) (0 : Int32) _ _ _ (X196.more (by decide) (by decide)) rfl N197 Z198 F199 Gc Gp V1 hz hcnt (Or.inr (by unfold own_sel; rw [if_pos hc149_233])) (Or.inl (by decide)) (Or.inl (by decide))
          · skip
            refine own_ifNo X196 hx (pc' := 152) (hb hby at_149) (feq hc149_233).1 rfl ?_
            have hrc : r.toInt = 0 := by
              have a0 := hc111_195
              have a1 := hc124_200
              have a2 := hc137_232
              have a3 := hc149_233
              have b0 := hn
              have b1 := hcfg
              simp only [Int32.lt_iff_toInt_lt, Int32.le_iff_toInt_le, Int64.lt_iff_toInt_lt, Int64.le_iff_toInt_le, ← Int32.toInt_inj, ← Int64.toInt_inj, own_t32_m1, own_t32_0, own_t32_1, own_t32_2, own_t32_3, own_t32_4, own_t32_5] at a0 a1 a2 a3 b0 b1
              try simp only [Int32.lt_iff_toInt_lt, Int32.le_iff_toInt_le, Int64.lt_iff_toInt_lt, Int64.le_iff_toInt_le, ← Int32.toInt_inj, ← Int64.toInt_inj, own_t32_m1, own_t32_0, own_t32_1, own_t32_2, own_t32_3, own_t32_4, own_t32_5]
              repeat' split
              all_goals first | rfl | omega
            have hr : r = (0 : Int32) := by rw [← Int32.toInt_inj, own_t32_0]; exact hrc
            subst hr
            refine own_aload X196 hx (pc' := 154) (hb hby at_152) rfl rfl rfl ?_
            refine own_iload X196 hx (pc' := 156) (hb hby at_154) rfl rfl ?_
            refine own_callV X196 hx (pc' := 159) hZ hown (Wd58 hw) (Wd60 hw) (Wd61 hw) (Wd62 hw) (Wd2 hw) (by decide) (rm_rem10 l Z a0 hw [] nb177 b1 b2 b3 k1 k2 k3 z p0 (0 : Int32) (0 : Int32) (1 : Int32) (0 : Int32) (0 : Int32) (0 : Int32) (0 : Int32) (0 : Int32)  T196.heap n0 Z198 hz ge_nb177 ge_b1 ge_b2 ge_b3 dj12 dj13 dj23 F199 Gc Gp Gu Gt V1 V2 V3) rfl F199 0 (by decide) (by decide) (by decide) (by decide) [(.int (0 : Int32))] [] (by rw [hml]; rfl) (lenOf pd_4 rfl) rfl rfl (Nat.le_of_eq rfl) (hb hby at_156) rfl (fun v234 T234 L234 X234 hQ234 => ?_)
            obtain ⟨rfl, Nq234, K234, Gc234, Gp234, Gu234, Gt234, Va234, Vb234, Vc234⟩ := hQ234
            have N235 := Fr.app N197 Nq234
            have Z236 : n0 ≤ T234.heap.size := Nat.le_trans Z198 K234.1
            have F237 := (Exa.keep F199 K234)
            show own_G p.tables e below _ T234 (mkF m 159 #[.val (.int p0), .val (.int p1), .val (.int p2), .val (.int p3), .val (.int p4), .val (.int n), .val (.int dr), .val (.int (0 : Int32)), .val (.int (((p4.toUInt32 >>> ((5 : Int32) &&& 31).toUInt32).toInt32) &&& (3 : Int32))), .val (.int q), .val (.int d), .val (.ref nb177), .unset, .unset, .unset, .unset, .unset, .unset] [])
            have hcnt : (dr.toInt = 0 ∧ (0 : Int32).toInt = n.toInt) ∨ (dr.toInt = 1 ∧ (0 : Int32).toInt = n.toInt - 1) := by
              have a0 := hc111_195
              have a1 := hc124_200
              have a2 := hc137_232
              have a3 := hc149_233
              have b0 := hn
              have b1 := hcfg
              simp only [Int32.lt_iff_toInt_lt, Int32.le_iff_toInt_le, Int64.lt_iff_toInt_lt, Int64.le_iff_toInt_le, ← Int32.toInt_inj, ← Int64.toInt_inj, own_t32_m1, own_t32_0, own_t32_1, own_t32_2, own_t32_3, own_t32_4, own_t32_5] at a0 a1 a2 a3 b0 b1
              try simp only [Int32.lt_iff_toInt_lt, Int32.le_iff_toInt_le, Int64.lt_iff_toInt_lt, Int64.le_iff_toInt_le, ← Int32.toInt_inj, ← Int64.toInt_inj, own_t32_m1, own_t32_0, own_t32_1, own_t32_2, own_t32_3, own_t32_4, own_t32_5]
              repeat' split
              all_goals first | rfl | omega
            exact J159 nb177 b1 k1 z d (0 : Int32) p0 (0 : Int32) (0 : Int32) _ _ _ (X234.more (by decide) (by decide)) rfl N235 Z236 F237 Gc234 Gp234 Va234 hz hcnt (Or.inl (by decide)) (Or.inl (by decide)) (Or.inl (by decide))
    · skip
      refine own_ifYes X190 hx (pc' := 121) (hb hby at_111) (flt hc111_195).2.2.2 (by decide) (by decide) ?_
      refine own_iload X190 hx (pc' := 123) (hb hby at_121) rfl rfl ?_
      refine own_iconst X190 hx (pc' := 124) (1 : Int32) (hb hby at_123) rfl rfl ?_
      by_cases hc124_238 : (1 : Int32) < n
      · skip
        have hF : False := by
          have a0 := hc111_195
          have a1 := hc124_238
          have b0 := hn
          have b1 := hcfg
          simp only [Int32.lt_iff_toInt_lt, Int32.le_iff_toInt_le, Int64.lt_iff_toInt_lt, Int64.le_iff_toInt_le, ← Int32.toInt_inj, ← Int64.toInt_inj, own_t32_m1, own_t32_0, own_t32_1, own_t32_2, own_t32_3, own_t32_4, own_t32_5] at a0 a1 b0 b1
          try simp only [Int32.lt_iff_toInt_lt, Int32.le_iff_toInt_le, Int64.lt_iff_toInt_lt, Int64.le_iff_toInt_le, ← Int32.toInt_inj, ← Int64.toInt_inj, own_t32_m1, own_t32_0, own_t32_1, own_t32_2, own_t32_3, own_t32_4, own_t32_5]
          repeat' split
          all_goals first | rfl | omega
        exact hF.elim
      · skip
        refine own_icmpYes X190 hx (pc' := 134) (hb hby at_124) (flt hc124_238).2.2.2 (by decide) (by decide) ?_
        refine own_iload X190 hx (pc' := 136) (hb hby at_134) rfl rfl ?_
        refine own_iconst X190 hx (pc' := 137) (2 : Int32) (hb hby at_136) rfl rfl ?_
        by_cases hc137_239 : (2 : Int32) < n
        · skip
          have hF : False := by
            have a0 := hc111_195
            have a1 := hc124_238
            have a2 := hc137_239
            have b0 := hn
            have b1 := hcfg
            simp only [Int32.lt_iff_toInt_lt, Int32.le_iff_toInt_le, Int64.lt_iff_toInt_lt, Int64.le_iff_toInt_le, ← Int32.toInt_inj, ← Int64.toInt_inj, own_t32_m1, own_t32_0, own_t32_1, own_t32_2, own_t32_3, own_t32_4, own_t32_5] at a0 a1 a2 b0 b1
            try simp only [Int32.lt_iff_toInt_lt, Int32.le_iff_toInt_le, Int64.lt_iff_toInt_lt, Int64.le_iff_toInt_le, ← Int32.toInt_inj, ← Int64.toInt_inj, own_t32_m1, own_t32_0, own_t32_1, own_t32_2, own_t32_3, own_t32_4, own_t32_5]
            repeat' split
            all_goals first | rfl | omega
          exact hF.elim
        · skip
          refine own_icmpYes X190 hx (pc' := 147) (hb hby at_137) (flt hc137_239).2.2.2 (by decide) (by decide) ?_
          refine own_iload X190 hx (pc' := 149) (hb hby at_147) rfl rfl ?_
          by_cases hc149_240 : dr = (0 : Int32)
          · skip
            refine own_ifYes X190 hx (pc' := 159) (hb hby at_149) (teq hc149_240).1 (by decide) (by decide) ?_
            refine own_iconst X190 hx (pc' := 160) (4 : Int32) (hb hby at_159) rfl rfl ?_
            refine own_newP X190 hx (pc' := 162) hZ (aty := .int) (Wd25 hw) rfl (hb hby at_160) (by decide) 4 (by decide) (by decide) (by decide) (by decide) rfl (fun T241 h241 kc241 nb241 g241 X241 e241 E241 A241 => ?_)
            have ne_nn_nb241_242 : nn ≠ nb241 := Nat.ne_of_lt (Nat.lt_of_lt_of_le F193.lt (Nat.le_of_eq g241.symm))
            have ne_nb177_nb241_243 : nb177 ≠ nb241 := Nat.ne_of_lt (Nat.lt_of_lt_of_le F194.lt (Nat.le_of_eq g241.symm))
            have ge_nb241 : n0 ≤ nb241 := Nat.le_trans Z192 (Nat.le_of_eq g241.symm)
            have Z244 : n0 ≤ h241.size := Nat.le_trans Z192 E241.1
            have F245 := (F193.ext E241)
            have F246 := (Exa.ext E241 F194)
            have F247 := (Fld.ext E241 G190_peers)
            have F248 := (Fld.ext E241 G190_subtree)
            have F249 := (Fld.ext E241 G190_sent)
            have F250 := (Fld.ext E241 G190_degree)
            have F251 := (Fld.ext E241 G190_count)
            have V252a : Arv Z h241 nb241 kc241 .int (4 : Int32) [] (.int (0 : Int32)) := Arv.new A241 (by decide)
            have V252b : Arv Z h241 nb241 kc241 .int (4 : Int32) (List.replicate 4 (.int (0 : Int32))) (.int (0 : Int32)) := V252a.pad (pad_rep [] _ 4)
            have V252 : Arv Z h241 nb241 kc241 .int (4 : Int32) [(.int (0 : Int32)), (.int (0 : Int32)), (.int (0 : Int32)), (.int (0 : Int32))] (.int (0 : Int32)) := V252b
            refine own_dup X241 hx (pc' := 163) (hb hby at_162) rfl rfl ?_
            refine own_iconst X241 hx (pc' := 164) (0 : Int32) (hb hby at_163) rfl rfl ?_
            refine own_iloadN X241 hx (pc' := 165) (hb hby at_164) rfl rfl ?_
            obtain ⟨cl253, Ar253, q253, S253, M253, H253, G253⟩ := id V252
            refine own_stI X241 hx (pc' := 166) hZ e241 Ar253 (inb_of S253 ⟨by decide, by decide⟩) (hb hby at_165) rfl (fun T254 h254 X254 e254 W254 => ?_)
            have N255 := Fr.snoc X254 N191 ge_nb241
            have Z256 : n0 ≤ h254.size := Nat.le_trans Z244 (Nat.le_of_eq (Wr.size W254).symm)
            have F257 := (F245.other W254 ne_nn_nb241_242)
            have F258 := (Exa.wr W254 F246)
            have F259 := (Fld.other W254 F247 (Or.inl ne_nb177_nb241_243))
            have F260 := (Fld.other W254 F248 (Or.inl ne_nb177_nb241_243))
            have F261 := (Fld.other W254 F249 (Or.inl ne_nb177_nb241_243))
            have F262 := (Fld.other W254 F250 (Or.inl ne_nb177_nb241_243))
            have F263 := (Fld.other W254 F251 (Or.inl ne_nb177_nb241_243))
            have F264 : Arv Z h254 nb241 kc241 .int (4 : Int32) [(.int p0), (.int (0 : Int32)), (.int (0 : Int32)), (.int (0 : Int32))] (.int (0 : Int32)) := (Arv.set Ar253 q253 S253 M253 H253 G253 rfl W254 0 rfl (Nat.le_of_ble_eq_true rfl))
            refine own_dup X254 hx (pc' := 167) (hb hby at_166) rfl rfl ?_
            refine own_iconst X254 hx (pc' := 168) (1 : Int32) (hb hby at_167) rfl rfl ?_
            refine own_iloadN X254 hx (pc' := 169) (hb hby at_168) rfl rfl ?_
            obtain ⟨cl265, Ar265, q265, S265, M265, H265, G265⟩ := id F264
            refine own_stI X254 hx (pc' := 170) hZ e254 Ar265 (inb_of S265 ⟨by decide, by decide⟩) (hb hby at_169) rfl (fun T266 h266 X266 e266 W266 => ?_)
            have N267 := Fr.snoc X266 N255 ge_nb241
            have Z268 : n0 ≤ h266.size := Nat.le_trans Z256 (Nat.le_of_eq (Wr.size W266).symm)
            have F269 := (F257.other W266 ne_nn_nb241_242)
            have F270 := (Exa.wr W266 F258)
            have F271 := (Fld.other W266 F259 (Or.inl ne_nb177_nb241_243))
            have F272 := (Fld.other W266 F260 (Or.inl ne_nb177_nb241_243))
            have F273 := (Fld.other W266 F261 (Or.inl ne_nb177_nb241_243))
            have F274 := (Fld.other W266 F262 (Or.inl ne_nb177_nb241_243))
            have F275 := (Fld.other W266 F263 (Or.inl ne_nb177_nb241_243))
            have F276 : Arv Z h266 nb241 kc241 .int (4 : Int32) [(.int p0), (.int p1), (.int (0 : Int32)), (.int (0 : Int32))] (.int (0 : Int32)) := (Arv.set Ar265 q265 S265 M265 H265 G265 rfl W266 1 rfl (Nat.le_of_ble_eq_true rfl))
            refine own_dup X266 hx (pc' := 171) (hb hby at_170) rfl rfl ?_
            refine own_iconst X266 hx (pc' := 172) (2 : Int32) (hb hby at_171) rfl rfl ?_
            refine own_iloadN X266 hx (pc' := 173) (hb hby at_172) rfl rfl ?_
            obtain ⟨cl277, Ar277, q277, S277, M277, H277, G277⟩ := id F276
            refine own_stI X266 hx (pc' := 174) hZ e266 Ar277 (inb_of S277 ⟨by decide, by decide⟩) (hb hby at_173) rfl (fun T278 h278 X278 e278 W278 => ?_)
            have N279 := Fr.snoc X278 N267 ge_nb241
            have Z280 : n0 ≤ h278.size := Nat.le_trans Z268 (Nat.le_of_eq (Wr.size W278).symm)
            have F281 := (F269.other W278 ne_nn_nb241_242)
            have F282 := (Exa.wr W278 F270)
            have F283 := (Fld.other W278 F271 (Or.inl ne_nb177_nb241_243))
            have F284 := (Fld.other W278 F272 (Or.inl ne_nb177_nb241_243))
            have F285 := (Fld.other W278 F273 (Or.inl ne_nb177_nb241_243))
            have F286 := (Fld.other W278 F274 (Or.inl ne_nb177_nb241_243))
            have F287 := (Fld.other W278 F275 (Or.inl ne_nb177_nb241_243))
            have F288 : Arv Z h278 nb241 kc241 .int (4 : Int32) [(.int p0), (.int p1), (.int p2), (.int (0 : Int32))] (.int (0 : Int32)) := (Arv.set Ar277 q277 S277 M277 H277 G277 rfl W278 2 rfl (Nat.le_of_ble_eq_true rfl))
            refine own_dup X278 hx (pc' := 175) (hb hby at_174) rfl rfl ?_
            refine own_iconst X278 hx (pc' := 176) (3 : Int32) (hb hby at_175) rfl rfl ?_
            refine own_iconst X278 hx (pc' := 177) (0 : Int32) (hb hby at_176) rfl rfl ?_
            obtain ⟨cl289, Ar289, q289, S289, M289, H289, G289⟩ := id F288
            refine own_stI X278 hx (pc' := 178) hZ e278 Ar289 (inb_of S289 ⟨by decide, by decide⟩) (hb hby at_177) rfl (fun T290 h290 X290 e290 W290 => ?_)
            have N291 := Fr.snoc X290 N279 ge_nb241
            have Z292 : n0 ≤ h290.size := Nat.le_trans Z280 (Nat.le_of_eq (Wr.size W290).symm)
            have F293 := (F281.other W290 ne_nn_nb241_242)
            have F294 := (Exa.wr W290 F282)
            have F295 := (Fld.other W290 F283 (Or.inl ne_nb177_nb241_243))
            have F296 := (Fld.other W290 F284 (Or.inl ne_nb177_nb241_243))
            have F297 := (Fld.other W290 F285 (Or.inl ne_nb177_nb241_243))
            have F298 := (Fld.other W290 F286 (Or.inl ne_nb177_nb241_243))
            have F299 := (Fld.other W290 F287 (Or.inl ne_nb177_nb241_243))
            have F300 : Arv Z h290 nb241 kc241 .int (4 : Int32) [(.int p0), (.int p1), (.int p2), (.int (0 : Int32))] (.int (0 : Int32)) := (Arv.set Ar289 q289 S289 M289 H289 G289 rfl W290 3 rfl (Nat.le_of_ble_eq_true rfl))
            refine own_astore X290 hx (pc' := 180) (Ls' := #[.val (.int p0), .val (.int p1), .val (.int p2), .val (.int p3), .val (.int p4), .val (.int n), .val (.int dr), .val (.int r), .val (.int (((p4.toUInt32 >>> ((5 : Int32) &&& 31).toUInt32).toInt32) &&& (3 : Int32))), .val (.int q), .val (.int d), .val (.ref nb177), .val (.ref nb241), .unset, .unset, .unset, .unset, .unset]) (hb hby at_178) rfl rfl rfl ?_
            refine own_iload X290 hx (pc' := 182) (hb hby at_180) rfl rfl ?_
            refine own_ifYes X290 hx (pc' := 192) (hb hby at_182) (teq hc149_240).1 (by decide) (by decide) ?_
            refine own_iload X290 hx (pc' := 194) (hb hby at_192) rfl rfl ?_
            refine own_istore X290 hx (pc' := 196) (Ls' := #[.val (.int p0), .val (.int p1), .val (.int p2), .val (.int p3), .val (.int p4), .val (.int n), .val (.int dr), .val (.int r), .val (.int (((p4.toUInt32 >>> ((5 : Int32) &&& 31).toUInt32).toInt32) &&& (3 : Int32))), .val (.int q), .val (.int d), .val (.ref nb177), .val (.ref nb241), .val (.int n), .unset, .unset, .unset, .unset]) (hb hby at_194) rfl rfl ?_
            refine own_aload X290 hx (pc' := 198) (hb hby at_196) rfl rfl rfl ?_
            refine own_iload X290 hx (pc' := 200) (hb hby at_198) rfl rfl ?_
            refine own_iload X290 hx (pc' := 202) (hb hby at_200) rfl rfl ?_
            refine own_iconst X290 hx (pc' := 203) (0 : Int32) (hb hby at_202) rfl rfl ?_
            refine own_callS X290 hx (pc' := 206) hZ hown (Wd26 hw) (Wd27 hw) (Wd28 hw) (Wd29 hw) (by decide) (rm_at0 l Z a0 hw [] nb241 kc241 r dr p0 p1 p2 (0 : Int32) h290 n0 Z292 F300) e290 0 (by decide) (by decide) (by decide) (by decide) [(.ref nb241), (.int r), (.int dr), (.int (0 : Int32))] [] (by rw [hml]; rfl) (lenOf pd_2 rfl) rfl rfl (Nat.le_of_eq rfl) (hb hby at_203) rfl (fun v301 T301 L301 X301 hQ301 => ?_)
            obtain ⟨rfl, Nq301, e301⟩ := hQ301
            have N302 := Fr.app N291 Nq301
            show own_G p.tables e below _ T301 (mkF m 206 #[.val (.int p0), .val (.int p1), .val (.int p2), .val (.int p3), .val (.int p4), .val (.int n), .val (.int dr), .val (.int r), .val (.int (((p4.toUInt32 >>> ((5 : Int32) &&& 31).toUInt32).toInt32) &&& (3 : Int32))), .val (.int q), .val (.int d), .val (.ref nb177), .val (.ref nb241), .val (.int n), .unset, .unset, .unset, .unset] [(.int (own_sel r dr (0 : Int32) p0 p1))])
            refine own_istore X301 hx (pc' := 208) (Ls' := #[.val (.int p0), .val (.int p1), .val (.int p2), .val (.int p3), .val (.int p4), .val (.int n), .val (.int dr), .val (.int r), .val (.int (((p4.toUInt32 >>> ((5 : Int32) &&& 31).toUInt32).toInt32) &&& (3 : Int32))), .val (.int q), .val (.int d), .val (.ref nb177), .val (.ref nb241), .val (.int n), .val (.int (own_sel r dr (0 : Int32) p0 p1)), .unset, .unset, .unset]) (hb hby at_206) rfl rfl ?_
            refine own_aload X301 hx (pc' := 210) (hb hby at_208) rfl rfl rfl ?_
            refine own_iload X301 hx (pc' := 212) (hb hby at_210) rfl rfl ?_
            refine own_iload X301 hx (pc' := 214) (hb hby at_212) rfl rfl ?_
            refine own_iconst X301 hx (pc' := 215) (1 : Int32) (hb hby at_214) rfl rfl ?_
            refine own_callS X301 hx (pc' := 218) hZ hown (Wd26 hw) (Wd27 hw) (Wd28 hw) (Wd29 hw) (by decide) (rm_at1 l Z a0 hw [] nb241 kc241 r dr p0 p1 p2 (0 : Int32) h290 n0 Z292 F300) e301 0 (by decide) (by decide) (by decide) (by decide) [(.ref nb241), (.int r), (.int dr), (.int (1 : Int32))] [] (by rw [hml]; rfl) (lenOf pd_2 rfl) rfl rfl (Nat.le_of_eq rfl) (hb hby at_215) rfl (fun v303 T303 L303 X303 hQ303 => ?_)
            obtain ⟨rfl, Nq303, e303⟩ := hQ303
            have N304 := Fr.app N302 Nq303
            show own_G p.tables e below _ T303 (mkF m 218 #[.val (.int p0), .val (.int p1), .val (.int p2), .val (.int p3), .val (.int p4), .val (.int n), .val (.int dr), .val (.int r), .val (.int (((p4.toUInt32 >>> ((5 : Int32) &&& 31).toUInt32).toInt32) &&& (3 : Int32))), .val (.int q), .val (.int d), .val (.ref nb177), .val (.ref nb241), .val (.int n), .val (.int (own_sel r dr (0 : Int32) p0 p1)), .unset, .unset, .unset] [(.int (own_sel r dr (1 : Int32) p1 p2))])
            refine own_istore X303 hx (pc' := 220) (Ls' := #[.val (.int p0), .val (.int p1), .val (.int p2), .val (.int p3), .val (.int p4), .val (.int n), .val (.int dr), .val (.int r), .val (.int (((p4.toUInt32 >>> ((5 : Int32) &&& 31).toUInt32).toInt32) &&& (3 : Int32))), .val (.int q), .val (.int d), .val (.ref nb177), .val (.ref nb241), .val (.int n), .val (.int (own_sel r dr (0 : Int32) p0 p1)), .val (.int (own_sel r dr (1 : Int32) p1 p2)), .unset, .unset]) (hb hby at_218) rfl rfl ?_
            refine own_aload X303 hx (pc' := 222) (hb hby at_220) rfl rfl rfl ?_
            refine own_iload X303 hx (pc' := 224) (hb hby at_222) rfl rfl ?_
            refine own_iload X303 hx (pc' := 226) (hb hby at_224) rfl rfl ?_
            refine own_iconst X303 hx (pc' := 227) (2 : Int32) (hb hby at_226) rfl rfl ?_
            refine own_callS X303 hx (pc' := 230) hZ hown (Wd26 hw) (Wd27 hw) (Wd28 hw) (Wd29 hw) (by decide) (rm_at2 l Z a0 hw [] nb241 kc241 r dr p0 p1 p2 (0 : Int32) h290 n0 Z292 F300) e303 0 (by decide) (by decide) (by decide) (by decide) [(.ref nb241), (.int r), (.int dr), (.int (2 : Int32))] [] (by rw [hml]; rfl) (lenOf pd_2 rfl) rfl rfl (Nat.le_of_eq rfl) (hb hby at_227) rfl (fun v305 T305 L305 X305 hQ305 => ?_)
            obtain ⟨rfl, Nq305, e305⟩ := hQ305
            have N306 := Fr.app N304 Nq305
            show own_G p.tables e below _ T305 (mkF m 230 #[.val (.int p0), .val (.int p1), .val (.int p2), .val (.int p3), .val (.int p4), .val (.int n), .val (.int dr), .val (.int r), .val (.int (((p4.toUInt32 >>> ((5 : Int32) &&& 31).toUInt32).toInt32) &&& (3 : Int32))), .val (.int q), .val (.int d), .val (.ref nb177), .val (.ref nb241), .val (.int n), .val (.int (own_sel r dr (0 : Int32) p0 p1)), .val (.int (own_sel r dr (1 : Int32) p1 p2)), .unset, .unset] [(.int (own_sel r dr (2 : Int32) p2 (0 : Int32)))])
            refine own_istore X305 hx (pc' := 232) (Ls' := #[.val (.int p0), .val (.int p1), .val (.int p2), .val (.int p3), .val (.int p4), .val (.int n), .val (.int dr), .val (.int r), .val (.int (((p4.toUInt32 >>> ((5 : Int32) &&& 31).toUInt32).toInt32) &&& (3 : Int32))), .val (.int q), .val (.int d), .val (.ref nb177), .val (.ref nb241), .val (.int n), .val (.int (own_sel r dr (0 : Int32) p0 p1)), .val (.int (own_sel r dr (1 : Int32) p1 p2)), .val (.int (own_sel r dr (2 : Int32) p2 (0 : Int32))), .unset]) (hb hby at_230) rfl rfl ?_
            refine own_iload X305 hx (pc' := 234) (hb hby at_232) rfl rfl ?_
            refine own_ifYes X305 hx (pc' := 250) (hb hby at_234) (flt hc111_195).2.2.2 (by decide) (by decide) ?_
            refine own_iload X305 hx (pc' := 252) (hb hby at_250) rfl rfl ?_
            refine own_iconst X305 hx (pc' := 253) (1 : Int32) (hb hby at_252) rfl rfl ?_
            refine own_icmpYes X305 hx (pc' := 269) (hb hby at_253) (flt hc124_238).2.2.2 (by decide) (by decide) ?_
            refine own_iload X305 hx (pc' := 271) (hb hby at_269) rfl rfl ?_
            refine own_iconst X305 hx (pc' := 272) (2 : Int32) (hb hby at_271) rfl rfl ?_
            refine own_icmpYes X305 hx (pc' := 288) (hb hby at_272) (flt hc137_239).2.2.2 (by decide) (by decide) ?_
            refine own_iconst X305 hx (pc' := 289) (-1 : Int32) (hb hby at_288) rfl rfl ?_
            refine own_istore X305 hx (pc' := 291) (Ls' := #[.val (.int p0), .val (.int p1), .val (.int p2), .val (.int p3), .val (.int p4), .val (.int n), .val (.int dr), .val (.int r), .val (.int (((p4.toUInt32 >>> ((5 : Int32) &&& 31).toUInt32).toInt32) &&& (3 : Int32))), .val (.int q), .val (.int d), .val (.ref nb177), .val (.ref nb241), .val (.int n), .val (.int (own_sel r dr (0 : Int32) p0 p1)), .val (.int (own_sel r dr (1 : Int32) p1 p2)), .val (.int (own_sel r dr (2 : Int32) p2 (0 : Int32))), .val (.int (-1 : Int32))]) (hb hby at_289) rfl rfl ?_
            refine own_aload X305 hx (pc' := 293) (hb hby at_291) rfl rfl rfl ?_
            refine own_iload X305 hx (pc' := 295) (hb hby at_293) rfl rfl ?_
            refine own_callV X305 hx (pc' := 298) hZ hown (Wd30 hw) (Wd32 hw) (Wd33 hw) (Wd34 hw) (Wd2 hw) (by decide) (rm_place0 l Z a0 hw [] nb177 q h290 n0 Z292 F299) e305 F294 0 (by decide) (by decide) (by decide) (by decide) [(.int q)] [] (by rw [hml]; rfl) (lenOf pd_3 rfl) rfl rfl (Nat.le_of_eq rfl) (hb hby at_295) rfl (fun v307 T307 L307 X307 hQ307 => ?_)
            obtain ⟨rfl, Nq307, e307⟩ := hQ307
            have N308 := Fr.app N306 Nq307
            show own_G p.tables e below _ T307 (mkF m 298 #[.val (.int p0), .val (.int p1), .val (.int p2), .val (.int p3), .val (.int p4), .val (.int n), .val (.int dr), .val (.int r), .val (.int (((p4.toUInt32 >>> ((5 : Int32) &&& 31).toUInt32).toInt32) &&& (3 : Int32))), .val (.int q), .val (.int d), .val (.ref nb177), .val (.ref nb241), .val (.int n), .val (.int (own_sel r dr (0 : Int32) p0 p1)), .val (.int (own_sel r dr (1 : Int32) p1 p2)), .val (.int (own_sel r dr (2 : Int32) p2 (0 : Int32))), .val (.int (-1 : Int32))] [(.int (-1 : Int32))])
            refine own_iload X307 hx (pc' := 300) (hb hby at_298) rfl rfl ?_
            refine own_icmpNo X307 hx (pc' := 303) (hb hby at_300) (teq (by decide : (-1 : Int32) = (-1 : Int32))).2 rfl ?_
            refine own_iconst X307 hx (pc' := 304) (1 : Int32) (hb hby at_303) rfl rfl ?_
            refine own_goto X307 hx (pc' := 308) (hb hby at_304) (by decide) (by decide) ?_
            refine own_retN X307 hx hlk hret (by simp) (hb hby at_308) (by decide) (by decide) ?_
            exact ⟨rfl, N308⟩
          · skip
            have hF : False := by
              have a0 := hc111_195
              have a1 := hc124_238
              have a2 := hc137_239
              have a3 := hc149_240
              have b0 := hn
              have b1 := hcfg
              simp only [Int32.lt_iff_toInt_lt, Int32.le_iff_toInt_le, Int64.lt_iff_toInt_lt, Int64.le_iff_toInt_le, ← Int32.toInt_inj, ← Int64.toInt_inj, own_t32_m1, own_t32_0, own_t32_1, own_t32_2, own_t32_3, own_t32_4, own_t32_5] at a0 a1 a2 a3 b0 b1
              try simp only [Int32.lt_iff_toInt_lt, Int32.le_iff_toInt_le, Int64.lt_iff_toInt_lt, Int64.le_iff_toInt_le, ← Int32.toInt_inj, ← Int64.toInt_inj, own_t32_m1, own_t32_0, own_t32_1, own_t32_2, own_t32_3, own_t32_4, own_t32_5]
              repeat' split
              all_goals first | rfl | omega
            exact hF.elim
  refine own_iload X0 hx (pc' := 2) (hb hby at_0) rfl rfl ?_
  refine own_iconst X0 hx (pc' := 3) (3 : Int32) (hb hby at_2) rfl rfl ?_
  refine own_iand X0 hx (pc' := 4) (hb hby at_3) rfl rfl ?_
  refine own_istore X0 hx (pc' := 6) (Ls' := #[.val (.int p0), .val (.int p1), .val (.int p2), .val (.int p3), .val (.int p4), .val (.int (p4 &&& (3 : Int32))), .unset, .unset, .unset, .unset, .unset, .unset, .unset, .unset, .unset, .unset, .unset, .unset]) (hb hby at_4) rfl rfl ?_
  obtain ⟨n, en⟩ : ∃ n, n = (p4 &&& (3 : Int32)) := ⟨_, rfl⟩
  rw [← en]
  have hn : 0 ≤ n.toInt ∧ n.toInt ≤ 3 := by
    have q1 := c_mask p4 (3 : Int32) 2 (by decide) (by decide)
    rw [en]
    omega
  refine own_iload X0 hx (pc' := 8) (hb hby at_6) rfl rfl ?_
  refine own_iconst X0 hx (pc' := 9) (2 : Int32) (hb hby at_8) rfl rfl ?_
  refine own_iushr X0 hx (pc' := 10) (hb hby at_9) rfl ?_
  refine own_iconst X0 hx (pc' := 11) (1 : Int32) (hb hby at_10) rfl rfl ?_
  refine own_iand X0 hx (pc' := 12) (hb hby at_11) rfl rfl ?_
  by_cases hc12_309 : (((p4.toUInt32 >>> ((2 : Int32) &&& 31).toUInt32).toInt32) &&& (1 : Int32)) = (0 : Int32)
  · skip
    refine own_ifYes X0 hx (pc' := 24) (hb hby at_12) (teq hc12_309).1 (by decide) (by decide) ?_
    refine own_iconst X0 hx (pc' := 25) (0 : Int32) (hb hby at_24) rfl rfl ?_
    refine own_istore X0 hx (pc' := 27) (Ls' := #[.val (.int p0), .val (.int p1), .val (.int p2), .val (.int p3), .val (.int p4), .val (.int n), .val (.int (0 : Int32)), .unset, .unset, .unset, .unset, .unset, .unset, .unset, .unset, .unset, .unset, .unset]) (hb hby at_25) rfl rfl ?_
    refine own_iload X0 hx (pc' := 29) (hb hby at_27) rfl rfl ?_
    refine own_ifYes X0 hx (pc' := 44) (hb hby at_29) (teq (by decide : (0 : Int32) = (0 : Int32))).1 (by decide) (by decide) ?_
    refine own_iconst X0 hx (pc' := 45) (0 : Int32) (hb hby at_44) rfl rfl ?_
    refine own_istore X0 hx (pc' := 47) (Ls' := #[.val (.int p0), .val (.int p1), .val (.int p2), .val (.int p3), .val (.int p4), .val (.int n), .val (.int (0 : Int32)), .val (.int (0 : Int32)), .unset, .unset, .unset, .unset, .unset, .unset, .unset, .unset, .unset, .unset]) (hb hby at_45) rfl rfl ?_
    refine own_iload X0 hx (pc' := 49) (hb hby at_47) rfl rfl ?_
    refine own_iconst X0 hx (pc' := 50) (5 : Int32) (hb hby at_49) rfl rfl ?_
    refine own_iushr X0 hx (pc' := 51) (hb hby at_50) rfl ?_
    refine own_iconst X0 hx (pc' := 52) (3 : Int32) (hb hby at_51) rfl rfl ?_
    refine own_iand X0 hx (pc' := 53) (hb hby at_52) rfl rfl ?_
    refine own_istore X0 hx (pc' := 55) (Ls' := #[.val (.int p0), .val (.int p1), .val (.int p2), .val (.int p3), .val (.int p4), .val (.int n), .val (.int (0 : Int32)), .val (.int (0 : Int32)), .val (.int (((p4.toUInt32 >>> ((5 : Int32) &&& 31).toUInt32).toInt32) &&& (3 : Int32))), .unset, .unset, .unset, .unset, .unset, .unset, .unset, .unset, .unset]) (hb hby at_53) rfl rfl ?_
    refine own_iload X0 hx (pc' := 57) (hb hby at_55) rfl rfl ?_
    by_cases hc57_310 : (((p4.toUInt32 >>> ((5 : Int32) &&& 31).toUInt32).toInt32) &&& (3 : Int32)) = (0 : Int32)
    · skip
      refine own_ifNo X0 hx (pc' := 60) (hb hby at_57) (teq hc57_310).2 rfl ?_
      refine own_iloadN X0 hx (pc' := 61) (hb hby at_60) rfl rfl ?_
      refine own_goto X0 hx (pc' := 85) (hb hby at_61) (by decide) (by decide) ?_
      exact J85 n (0 : Int32) (0 : Int32) p0 hn (Or.inl ⟨rfl, rfl⟩)
    · skip
      refine own_ifYes X0 hx (pc' := 64) (hb hby at_57) (feq hc57_310).2 (by decide) (by decide) ?_
      refine own_iload X0 hx (pc' := 66) (hb hby at_64) rfl rfl ?_
      refine own_iconst X0 hx (pc' := 67) (1 : Int32) (hb hby at_66) rfl rfl ?_
      by_cases hc67_311 : (((p4.toUInt32 >>> ((5 : Int32) &&& 31).toUInt32).toInt32) &&& (3 : Int32)) = (1 : Int32)
      · skip
        refine own_icmpNo X0 hx (pc' := 70) (hb hby at_67) (teq hc67_311).2 rfl ?_
        refine own_iloadN X0 hx (pc' := 71) (hb hby at_70) rfl rfl ?_
        refine own_goto X0 hx (pc' := 85) (hb hby at_71) (by decide) (by decide) ?_
        exact J85 n (0 : Int32) (0 : Int32) p1 hn (Or.inl ⟨rfl, rfl⟩)
      · skip
        refine own_icmpYes X0 hx (pc' := 74) (hb hby at_67) (feq hc67_311).2 (by decide) (by decide) ?_
        refine own_iload X0 hx (pc' := 76) (hb hby at_74) rfl rfl ?_
        refine own_iconst X0 hx (pc' := 77) (2 : Int32) (hb hby at_76) rfl rfl ?_
        by_cases hc77_312 : (((p4.toUInt32 >>> ((5 : Int32) &&& 31).toUInt32).toInt32) &&& (3 : Int32)) = (2 : Int32)
        · skip
          refine own_icmpNo X0 hx (pc' := 80) (hb hby at_77) (teq hc77_312).2 rfl ?_
          refine own_iloadN X0 hx (pc' := 81) (hb hby at_80) rfl rfl ?_
          refine own_goto X0 hx (pc' := 85) (hb hby at_81) (by decide) (by decide) ?_
          exact J85 n (0 : Int32) (0 : Int32) p2 hn (Or.inl ⟨rfl, rfl⟩)
        · skip
          refine own_icmpYes X0 hx (pc' := 84) (hb hby at_77) (feq hc77_312).2 (by decide) (by decide) ?_
          refine own_iloadN X0 hx (pc' := 85) (hb hby at_84) rfl rfl ?_
          exact J85 n (0 : Int32) (0 : Int32) p3 hn (Or.inl ⟨rfl, rfl⟩)
  · skip
    refine own_ifNo X0 hx (pc' := 15) (hb hby at_12) (feq hc12_309).1 rfl ?_
    refine own_iload X0 hx (pc' := 17) (hb hby at_15) rfl rfl ?_
    by_cases hc17_313 : (0 : Int32) < n
    · skip
      refine own_ifNo X0 hx (pc' := 20) (hb hby at_17) (tlt hc17_313).2.2.2 rfl ?_
      refine own_iconst X0 hx (pc' := 21) (1 : Int32) (hb hby at_20) rfl rfl ?_
      refine own_goto X0 hx (pc' := 25) (hb hby at_21) (by decide) (by decide) ?_
      refine own_istore X0 hx (pc' := 27) (Ls' := #[.val (.int p0), .val (.int p1), .val (.int p2), .val (.int p3), .val (.int p4), .val (.int n), .val (.int (1 : Int32)), .unset, .unset, .unset, .unset, .unset, .unset, .unset, .unset, .unset, .unset, .unset]) (hb hby at_25) rfl rfl ?_
      refine own_iload X0 hx (pc' := 29) (hb hby at_27) rfl rfl ?_
      refine own_ifNo X0 hx (pc' := 32) (hb hby at_29) (feq (by decide : ¬ ((1 : Int32) = (0 : Int32)))).1 rfl ?_
      refine own_iload X0 hx (pc' := 34) (hb hby at_32) rfl rfl ?_
      refine own_iconst X0 hx (pc' := 35) (3 : Int32) (hb hby at_34) rfl rfl ?_
      refine own_iushr X0 hx (pc' := 36) (hb hby at_35) rfl ?_
      refine own_iconst X0 hx (pc' := 37) (3 : Int32) (hb hby at_36) rfl rfl ?_
      refine own_iand X0 hx (pc' := 38) (hb hby at_37) rfl rfl ?_
      refine own_iload X0 hx (pc' := 40) (hb hby at_38) rfl rfl ?_
      have hnz : n ≠ 0 := by intro q; rw [q] at hc17_313; exact absurd hc17_313 (by decide)
      refine own_irem X0 hx (pc' := 41) (hb hby at_40) hnz rfl ?_
      refine own_goto X0 hx (pc' := 45) (hb hby at_41) (by decide) (by decide) ?_
      refine own_istore X0 hx (pc' := 47) (Ls' := #[.val (.int p0), .val (.int p1), .val (.int p2), .val (.int p3), .val (.int p4), .val (.int n), .val (.int (1 : Int32)), .val (.int ((((p4.toUInt32 >>> ((3 : Int32) &&& 31).toUInt32).toInt32) &&& (3 : Int32)) % n)), .unset, .unset, .unset, .unset, .unset, .unset, .unset, .unset, .unset, .unset]) (hb hby at_45) rfl rfl ?_
      refine own_iload X0 hx (pc' := 49) (hb hby at_47) rfl rfl ?_
      refine own_iconst X0 hx (pc' := 50) (5 : Int32) (hb hby at_49) rfl rfl ?_
      refine own_iushr X0 hx (pc' := 51) (hb hby at_50) rfl ?_
      refine own_iconst X0 hx (pc' := 52) (3 : Int32) (hb hby at_51) rfl rfl ?_
      refine own_iand X0 hx (pc' := 53) (hb hby at_52) rfl rfl ?_
      refine own_istore X0 hx (pc' := 55) (Ls' := #[.val (.int p0), .val (.int p1), .val (.int p2), .val (.int p3), .val (.int p4), .val (.int n), .val (.int (1 : Int32)), .val (.int ((((p4.toUInt32 >>> ((3 : Int32) &&& 31).toUInt32).toInt32) &&& (3 : Int32)) % n)), .val (.int (((p4.toUInt32 >>> ((5 : Int32) &&& 31).toUInt32).toInt32) &&& (3 : Int32))), .unset, .unset, .unset, .unset, .unset, .unset, .unset, .unset, .unset]) (hb hby at_53) rfl rfl ?_
      refine own_iload X0 hx (pc' := 57) (hb hby at_55) rfl rfl ?_
      by_cases hc57_314 : (((p4.toUInt32 >>> ((5 : Int32) &&& 31).toUInt32).toInt32) &&& (3 : Int32)) = (0 : Int32)
      · skip
        refine own_ifNo X0 hx (pc' := 60) (hb hby at_57) (teq hc57_314).2 rfl ?_
        refine own_iloadN X0 hx (pc' := 61) (hb hby at_60) rfl rfl ?_
        refine own_goto X0 hx (pc' := 85) (hb hby at_61) (by decide) (by decide) ?_
        have hcf : (0 : Int) < n.toInt ∧ 0 ≤ (((((p4.toUInt32 >>> ((3 : Int32) &&& 31).toUInt32).toInt32) &&& (3 : Int32)) % n)).toInt ∧ (((((p4.toUInt32 >>> ((3 : Int32) &&& 31).toUInt32).toInt32) &&& (3 : Int32)) % n)).toInt < n.toInt := by
          have a0 := hc17_313
          rw [Int32.lt_iff_toInt_lt, own_t32_0] at a0
          have q1 := c_mask ((p4.toUInt32 >>> ((3 : Int32) &&& 31).toUInt32).toInt32) (3 : Int32) 2 (by decide) (by decide)
          have q2 := (c_iremV (((p4.toUInt32 >>> ((3 : Int32) &&& 31).toUInt32).toInt32) &&& (3 : Int32)) n).1 (by omega) a0
          exact ⟨a0, q2.1, q2.2.1⟩
        exact J85 n (1 : Int32) ((((p4.toUInt32 >>> ((3 : Int32) &&& 31).toUInt32).toInt32) &&& (3 : Int32)) % n) p0 hn (Or.inr ⟨rfl, hcf⟩)
      · skip
        refine own_ifYes X0 hx (pc' := 64) (hb hby at_57) (feq hc57_314).2 (by decide) (by decide) ?_
        refine own_iload X0 hx (pc' := 66) (hb hby at_64) rfl rfl ?_
        refine own_iconst X0 hx (pc' := 67) (1 : Int32) (hb hby at_66) rfl rfl ?_
        by_cases hc67_315 : (((p4.toUInt32 >>> ((5 : Int32) &&& 31).toUInt32).toInt32) &&& (3 : Int32)) = (1 : Int32)
        · skip
          refine own_icmpNo X0 hx (pc' := 70) (hb hby at_67) (teq hc67_315).2 rfl ?_
          refine own_iloadN X0 hx (pc' := 71) (hb hby at_70) rfl rfl ?_
          refine own_goto X0 hx (pc' := 85) (hb hby at_71) (by decide) (by decide) ?_
          have hcf : (0 : Int) < n.toInt ∧ 0 ≤ (((((p4.toUInt32 >>> ((3 : Int32) &&& 31).toUInt32).toInt32) &&& (3 : Int32)) % n)).toInt ∧ (((((p4.toUInt32 >>> ((3 : Int32) &&& 31).toUInt32).toInt32) &&& (3 : Int32)) % n)).toInt < n.toInt := by
            have a0 := hc17_313
            rw [Int32.lt_iff_toInt_lt, own_t32_0] at a0
            have q1 := c_mask ((p4.toUInt32 >>> ((3 : Int32) &&& 31).toUInt32).toInt32) (3 : Int32) 2 (by decide) (by decide)
            have q2 := (c_iremV (((p4.toUInt32 >>> ((3 : Int32) &&& 31).toUInt32).toInt32) &&& (3 : Int32)) n).1 (by omega) a0
            exact ⟨a0, q2.1, q2.2.1⟩
          exact J85 n (1 : Int32) ((((p4.toUInt32 >>> ((3 : Int32) &&& 31).toUInt32).toInt32) &&& (3 : Int32)) % n) p1 hn (Or.inr ⟨rfl, hcf⟩)
        · skip
          refine own_icmpYes X0 hx (pc' := 74) (hb hby at_67) (feq hc67_315).2 (by decide) (by decide) ?_
          refine own_iload X0 hx (pc' := 76) (hb hby at_74) rfl rfl ?_
          refine own_iconst X0 hx (pc' := 77) (2 : Int32) (hb hby at_76) rfl rfl ?_
          by_cases hc77_316 : (((p4.toUInt32 >>> ((5 : Int32) &&& 31).toUInt32).toInt32) &&& (3 : Int32)) = (2 : Int32)
          · skip
            refine own_icmpNo X0 hx (pc' := 80) (hb hby at_77) (teq hc77_316).2 rfl ?_
            refine own_iloadN X0 hx (pc' := 81) (hb hby at_80) rfl rfl ?_
            refine own_goto X0 hx (pc' := 85) (hb hby at_81) (by decide) (by decide) ?_
            have hcf : (0 : Int) < n.toInt ∧ 0 ≤ (((((p4.toUInt32 >>> ((3 : Int32) &&& 31).toUInt32).toInt32) &&& (3 : Int32)) % n)).toInt ∧ (((((p4.toUInt32 >>> ((3 : Int32) &&& 31).toUInt32).toInt32) &&& (3 : Int32)) % n)).toInt < n.toInt := by
              have a0 := hc17_313
              rw [Int32.lt_iff_toInt_lt, own_t32_0] at a0
              have q1 := c_mask ((p4.toUInt32 >>> ((3 : Int32) &&& 31).toUInt32).toInt32) (3 : Int32) 2 (by decide) (by decide)
              have q2 := (c_iremV (((p4.toUInt32 >>> ((3 : Int32) &&& 31).toUInt32).toInt32) &&& (3 : Int32)) n).1 (by omega) a0
              exact ⟨a0, q2.1, q2.2.1⟩
            exact J85 n (1 : Int32) ((((p4.toUInt32 >>> ((3 : Int32) &&& 31).toUInt32).toInt32) &&& (3 : Int32)) % n) p2 hn (Or.inr ⟨rfl, hcf⟩)
          · skip
            refine own_icmpYes X0 hx (pc' := 84) (hb hby at_77) (feq hc77_316).2 (by decide) (by decide) ?_
            refine own_iloadN X0 hx (pc' := 85) (hb hby at_84) rfl rfl ?_
            have hcf : (0 : Int) < n.toInt ∧ 0 ≤ (((((p4.toUInt32 >>> ((3 : Int32) &&& 31).toUInt32).toInt32) &&& (3 : Int32)) % n)).toInt ∧ (((((p4.toUInt32 >>> ((3 : Int32) &&& 31).toUInt32).toInt32) &&& (3 : Int32)) % n)).toInt < n.toInt := by
              have a0 := hc17_313
              rw [Int32.lt_iff_toInt_lt, own_t32_0] at a0
              have q1 := c_mask ((p4.toUInt32 >>> ((3 : Int32) &&& 31).toUInt32).toInt32) (3 : Int32) 2 (by decide) (by decide)
              have q2 := (c_iremV (((p4.toUInt32 >>> ((3 : Int32) &&& 31).toUInt32).toInt32) &&& (3 : Int32)) n).1 (by omega) a0
              exact ⟨a0, q2.1, q2.2.1⟩
            exact J85 n (1 : Int32) ((((p4.toUInt32 >>> ((3 : Int32) &&& 31).toUInt32).toInt32) &&& (3 : Int32)) % n) p3 hn (Or.inr ⟨rfl, hcf⟩)
    · skip
      refine own_ifYes X0 hx (pc' := 24) (hb hby at_17) (flt hc17_313).2.2.2 (by decide) (by decide) ?_
      refine own_iconst X0 hx (pc' := 25) (0 : Int32) (hb hby at_24) rfl rfl ?_
      refine own_istore X0 hx (pc' := 27) (Ls' := #[.val (.int p0), .val (.int p1), .val (.int p2), .val (.int p3), .val (.int p4), .val (.int n), .val (.int (0 : Int32)), .unset, .unset, .unset, .unset, .unset, .unset, .unset, .unset, .unset, .unset, .unset]) (hb hby at_25) rfl rfl ?_
      refine own_iload X0 hx (pc' := 29) (hb hby at_27) rfl rfl ?_
      refine own_ifYes X0 hx (pc' := 44) (hb hby at_29) (teq (by decide : (0 : Int32) = (0 : Int32))).1 (by decide) (by decide) ?_
      refine own_iconst X0 hx (pc' := 45) (0 : Int32) (hb hby at_44) rfl rfl ?_
      refine own_istore X0 hx (pc' := 47) (Ls' := #[.val (.int p0), .val (.int p1), .val (.int p2), .val (.int p3), .val (.int p4), .val (.int n), .val (.int (0 : Int32)), .val (.int (0 : Int32)), .unset, .unset, .unset, .unset, .unset, .unset, .unset, .unset, .unset, .unset]) (hb hby at_45) rfl rfl ?_
      refine own_iload X0 hx (pc' := 49) (hb hby at_47) rfl rfl ?_
      refine own_iconst X0 hx (pc' := 50) (5 : Int32) (hb hby at_49) rfl rfl ?_
      refine own_iushr X0 hx (pc' := 51) (hb hby at_50) rfl ?_
      refine own_iconst X0 hx (pc' := 52) (3 : Int32) (hb hby at_51) rfl rfl ?_
      refine own_iand X0 hx (pc' := 53) (hb hby at_52) rfl rfl ?_
      refine own_istore X0 hx (pc' := 55) (Ls' := #[.val (.int p0), .val (.int p1), .val (.int p2), .val (.int p3), .val (.int p4), .val (.int n), .val (.int (0 : Int32)), .val (.int (0 : Int32)), .val (.int (((p4.toUInt32 >>> ((5 : Int32) &&& 31).toUInt32).toInt32) &&& (3 : Int32))), .unset, .unset, .unset, .unset, .unset, .unset, .unset, .unset, .unset]) (hb hby at_53) rfl rfl ?_
      refine own_iload X0 hx (pc' := 57) (hb hby at_55) rfl rfl ?_
      by_cases hc57_317 : (((p4.toUInt32 >>> ((5 : Int32) &&& 31).toUInt32).toInt32) &&& (3 : Int32)) = (0 : Int32)
      · skip
        refine own_ifNo X0 hx (pc' := 60) (hb hby at_57) (teq hc57_317).2 rfl ?_
        refine own_iloadN X0 hx (pc' := 61) (hb hby at_60) rfl rfl ?_
        refine own_goto X0 hx (pc' := 85) (hb hby at_61) (by decide) (by decide) ?_
        exact J85 n (0 : Int32) (0 : Int32) p0 hn (Or.inl ⟨rfl, rfl⟩)
      · skip
        refine own_ifYes X0 hx (pc' := 64) (hb hby at_57) (feq hc57_317).2 (by decide) (by decide) ?_
        refine own_iload X0 hx (pc' := 66) (hb hby at_64) rfl rfl ?_
        refine own_iconst X0 hx (pc' := 67) (1 : Int32) (hb hby at_66) rfl rfl ?_
        by_cases hc67_318 : (((p4.toUInt32 >>> ((5 : Int32) &&& 31).toUInt32).toInt32) &&& (3 : Int32)) = (1 : Int32)
        · skip
          refine own_icmpNo X0 hx (pc' := 70) (hb hby at_67) (teq hc67_318).2 rfl ?_
          refine own_iloadN X0 hx (pc' := 71) (hb hby at_70) rfl rfl ?_
          refine own_goto X0 hx (pc' := 85) (hb hby at_71) (by decide) (by decide) ?_
          exact J85 n (0 : Int32) (0 : Int32) p1 hn (Or.inl ⟨rfl, rfl⟩)
        · skip
          refine own_icmpYes X0 hx (pc' := 74) (hb hby at_67) (feq hc67_318).2 (by decide) (by decide) ?_
          refine own_iload X0 hx (pc' := 76) (hb hby at_74) rfl rfl ?_
          refine own_iconst X0 hx (pc' := 77) (2 : Int32) (hb hby at_76) rfl rfl ?_
          by_cases hc77_319 : (((p4.toUInt32 >>> ((5 : Int32) &&& 31).toUInt32).toInt32) &&& (3 : Int32)) = (2 : Int32)
          · skip
            refine own_icmpNo X0 hx (pc' := 80) (hb hby at_77) (teq hc77_319).2 rfl ?_
            refine own_iloadN X0 hx (pc' := 81) (hb hby at_80) rfl rfl ?_
            refine own_goto X0 hx (pc' := 85) (hb hby at_81) (by decide) (by decide) ?_
            exact J85 n (0 : Int32) (0 : Int32) p2 hn (Or.inl ⟨rfl, rfl⟩)
          · skip
            refine own_icmpYes X0 hx (pc' := 84) (hb hby at_77) (feq hc77_319).2 (by decide) (by decide) ?_
            refine own_iloadN X0 hx (pc' := 85) (hb hby at_84) rfl rfl ?_
            exact J85 n (0 : Int32) (0 : Int32) p3 hn (Or.inl ⟨rfl, rfl⟩)

theorem Wd10 {a0 : Array Value} {Z : State} (hw : ∀ d ∈ tables_1, d.before a0 Z = true) : (Jvm.Cond.laysStatic "com/example/rootcast/rootcast/tree/Children" "NONE" "[I").before a0 Z = true := hw _ (List.mem_of_getElem? (i := 10) rfl)
set_option maxRecDepth 65536 in
set_option maxHeartbeats 40000000 in
theorem comes_1 {Post : Tables → Env → Array Value → State → Outcome → State → Prop} (hpost : ∀ tb e args s v u, (limb_1_1.after args s (.returned v) u = true ∧ limb_1_2.after args s (.returned v) u = true ∧ True) → FrameEnd s (.returned v) u (Jvm.fieldLocs frame_1_writes args s ++ Jvm.arrayLocs frame_1_arrays args s ++ Jvm.staticLocs frame_1_statics s) 24 128 → Post tb e args s (.returned v) u) :
    ArmFor flags0 classFile x code maxLocals ret World_1 tables_1 room_1 Calls_1 rest_1 Pre_1 Post := by
  intro l hfl _ _ p e ha hc hk s m args below hf hA hF happ hP
  obtain ⟨hcalls, hrest, hpre⟩ := hP
  obtain ⟨-, -, -, hnamed, -, -, -, hat⟩ := (Spec.applies_iff hf).mp happ
  obtain ⟨hg, hn⟩ := and_e (Cond.before_iff.mp (show (Jvm.Cond.and given_1 narrow_1).before args s = true from hpre))
  obtain ⟨hcnt, hg0⟩ := and_e hg
  obtain ⟨ha0, hg1⟩ := and_e hg0
  obtain ⟨ha1, hg2⟩ := and_e hg1
  obtain ⟨ha2, hg3⟩ := and_e hg2
  obtain ⟨ha3, hg4⟩ := and_e hg3
  obtain ⟨w0, w1, w2, w3, w4, rfl⟩ : ∃ w0 w1 w2 w3 w4 : Value, args = #[w0, w1, w2, w3, w4] := by
    have hs : args.size = 5 := by simpa [Cond.value, given_1] using hcnt
    obtain ⟨L⟩ := args
    match L, hs with
    | [w0, w1, w2, w3, w4], _ => exact ⟨w0, w1, w2, w3, w4, rfl⟩
  have hw := fun d (hd : d ∈ tables_1) => atoms_spec (ws := Jvm.Cond.code x code maxLocals ret :: tables_1) hat d (List.mem_cons_of_mem _ hd)
  have hfit : Fit s := fun {y c} hc i hi => by
    obtain ⟨ha, rfl⟩ := Array.getElem?_eq_some_iff.mp hc
    have q := List.all_eq_true.mp ((Array.all_eq_true_iff_forall_mem.mp hF) _ (Array.getElem_mem ha)) i (List.mem_range.mpr hi)
    simpa [Array.getElem?_eq_getElem hi] using q
  obtain ⟨i0, ei0⟩ := is_v ha0
  obtain rfl : w0 = (.int i0) := Option.some.inj ei0
  obtain ⟨i1, ei1⟩ := is_v ha1
  obtain rfl : w1 = (.int i1) := Option.some.inj ei1
  obtain ⟨i2, ei2⟩ := is_v ha2
  obtain rfl : w2 = (.int i2) := Option.some.inj ei2
  obtain ⟨i3, ei3⟩ := is_v ha3
  obtain rfl : w3 = (.int i3) := Option.some.inj ei3
  obtain ⟨i4, ei4⟩ := is_v hg4
  obtain rfl : w4 = (.int i4) := Option.some.inj ei4
  obtain ⟨m0, hn0⟩ := and_e hn
  obtain ⟨m1, m2⟩ := and_e hn0
  obtain ⟨nn, ev⟩ := exa_v m1
  have S_n : Sta s s.heap "com/example/rootcast/rootcast/tree/Children" "NONE" "[I" (.ref nn) := Sta.start ev (Or.inr ⟨(Wd2 hw), (Wd10 hw)⟩)
  obtain ⟨cl0, A0⟩ := Arr.start ev m0
  have V_n : Arv s s.heap nn cl0.cls .int (0 : Int32) [] (.int (0 : Int32)) := own_none A0 ev m2
  obtain ⟨n, o, h1, h2, h3, _, L, rfl, ⟨rfl, N⟩, hq⟩ := rm0 l s _ hw tables_1 i0 i1 i2 i3 i4 nn cl0.cls s.heap s.heap.size (Nat.le_refl _) S_n V_n p e ha hc hk s m _ below hf ((Spec.applies_iff_loose hf).mp happ).1 ⟨rfl, State.Warmed39.refl s, rfl⟩ trivial
  refine ⟨n, _, h1, h2, h3, hpost _ _ _ _ _ _ ⟨Cond.after_iff.mpr rfl, Cond.after_iff.mpr (eq_i res_at (Term.int_eval (1)) rfl), trivial⟩ ⟨hq.1, hq.2.1, (hq.2.2.sift fun y hy => Or.inr (N y hy)).mono (by decide) (by decide)⟩⟩
theorem main_1_1 : Claimed_1_1 := comes_1 fun _ _ _ _ _ _ h hF => ⟨h.1, hF⟩
theorem main_1_2 : Claimed_1_2 := comes_1 fun _ _ _ _ _ _ h hF => ⟨h.2.1, hF⟩
end Jvm.Pilot.@@N@@
namespace Jvm.Pilot.@@N@@
open Jvm Jvm.ClassFile Sem Op Lib Jvm.Free Jvm.Stand Jvm.Pilot.@@N@@.Jvm.D
/-! MADE BY PROGRAM (witnessworld.py) out of the Statement's table words and the real class files: 12 classes; the members and pool entries that the words name. The judged class is class 1, her method 1. -/
namespace start1
open Jvm.ClassFile
def u (s : String) : CpInfo := .utf8 (stringToUtf16 s)
/-- a pool by its gaps: so many unusable entries, then the entry; so many at the end -/
def gap : Nat → List CpInfo → List CpInfo
  | 0, r => r
  | n + 1, r => .unusable :: gap n r
def poolList (es : List (Nat × CpInfo)) (last : Nat) : List CpInfo := es.foldr (fun e r => gap e.1 (e.2 :: r)) (gap last [])
def pool (es : List (Nat × CpInfo)) (last : Nat) : Array CpInfo := ⟨poolList es last⟩
def fileOf (pool : Array CpInfo) (this : Nat) (attrs : Array Attribute := #[]) (ms : Array MethodInfo := #[]) (fl : Nat := 33) (sup : Nat := 0) (ifs : Array Nat := #[]) (fds : Array FieldInfo := #[]) : ClassFile where
  minorVersion := 0
  majorVersion := 65
  constantPool := pool
  accessFlags := fl
  thisClass := this
  superClass := sup
  interfaces := ifs
  fields := fds
  methods := ms
  attributes := attrs
def plain (name : String) (sup : Option ClassId) : Class where
  name := name
  kind := .ordinary
  loader := none
  accessFlags := 33
  super := sup
  interfaces := #[]
  cf := none
  fields := #[]
  methods := #[]
  instanceTypes := #[]
  staticTypes := #[]
  resolved := #[]
  callSites := []
  init := .initialized
  statics := none
  mirror := none

def pool0 : Array CpInfo := pool [(5, u "<init>"), (0, u "()V"), (1, .class_ 10), (1, u "java/lang/Object")] 113

def k0c0 : Code := { maxStack := 0, maxLocals := 1, code := object_method_1_code, exceptionTable := #[], attributes := #[] }
def k0m0 : Method := { name := "<init>", desc := "()V", sig := { parameters := [], returnType := none }, accessFlags := 1, code := some k0c0 }
/-- java/lang/Object -/
def k0 : Class := { plain "java/lang/Object" none with
  accessFlags := 33
  interfaces := #[]
  cf := some (fileOf pool0 8 #[] #[{ accessFlags := 1, nameIndex := 5, descriptorIndex := 6, attributes := #[] }] 33 0 #[] #[])
  fields := #[]
  methods := #[k0m0]
  instanceTypes := #[]
  staticTypes := #[]
  resolved := Array.replicate 124 none
  statics := none }

def pool1 : Array CpInfo := pool [(2, .class_ 4), (1, u "java/lang/Object"), (0, u "<init>"), (0, u "()V"), (0, .class_ 8), (0, u "com/example/rootcast/rootcast/tree/Children"), (0, .methodref 7 10), (0, .nameAndType 5 11), (0, u "(I)V"), (0, .methodref 7 13), (0, .nameAndType 14 15), (0, u "add"), (0, u "(II)V"), (0, .methodref 7 17), (0, .nameAndType 18 11), (0, u "remove"), (0, .methodref 20 21), (0, .class_ 22), (0, .nameAndType 23 24), (0, u "com/example/rootcast/rootcast/tree/ChildrenPlaceOfPinLaw"), (0, u "at"), (0, u "([IIZI)I"), (0, .methodref 7 26), (0, .nameAndType 27 28), (0, u "placeOf"), (0, u "(I)I"), (2, u "law"), (0, u "(IIIII)Z")] 5

def k1m0 : Method := { name := "<init>", desc := "()V", sig := { parameters := [], returnType := none }, accessFlags := 1, code := none }
def k1c1 : Code := { maxStack := 4, maxLocals := 18, code := code, exceptionTable := #[], attributes := #[] }
def k1m1 : Method := { name := "law", desc := "(IIIII)Z", sig := { parameters := [.int, .int, .int, .int, .int], returnType := some .boolean }, accessFlags := 9, code := some k1c1 }
def k1c2 : Code := { maxStack := 3, maxLocals := 4, code := method_3_code, exceptionTable := #[], attributes := #[] }
def k1m2 : Method := { name := "at", desc := "([IIZI)I", sig := { parameters := [(.array .int), .int, .boolean, .int], returnType := some .int }, accessFlags := 10, code := some k1c2 }
/-- com/example/rootcast/rootcast/tree/ChildrenPlaceOfPinLaw -/
def k1 : Class := { plain "com/example/rootcast/rootcast/tree/ChildrenPlaceOfPinLaw" (some 0) with
  accessFlags := 49
  interfaces := #[]
  cf := some (fileOf pool1 20 #[] #[{ accessFlags := 1, nameIndex := 5, descriptorIndex := 6, attributes := #[] }, { accessFlags := 9, nameIndex := 31, descriptorIndex := 32, attributes := #[] }, { accessFlags := 10, nameIndex := 23, descriptorIndex := 24, attributes := #[] }] 49 2 #[] #[])
  fields := #[]
  methods := #[k1m0, k1m1, k1m2]
  instanceTypes := #[]
  staticTypes := #[]
  resolved := Array.replicate 38 none
  statics := none }

def pool2 : Array CpInfo := pool [(1, .methodref 2 3), (0, .class_ 4), (0, .nameAndType 5 6), (0, u "java/lang/Object"), (0, u "<init>"), (0, u "()V"), (0, .fieldref 8 9), (0, .class_ 10), (0, .nameAndType 11 12), (0, u "com/example/rootcast/rootcast/tree/Children"), (0, u "NONE"), (0, u "[I"), (0, .fieldref 8 14), (0, .nameAndType 15 12), (0, u "peers"), (0, .fieldref 8 17), (0, .nameAndType 18 12), (0, u "subtree"), (0, .fieldref 8 20), (0, .nameAndType 21 12), (0, u "sent"), (0, .fieldref 8 23), (0, .nameAndType 24 12), (0, u "stopped"), (0, .fieldref 8 26), (0, .nameAndType 27 12), (0, u "toCome"), (0, .fieldref 8 29), (0, .nameAndType 30 12), (0, u "beatsLeft"), (0, .fieldref 8 32), (0, .nameAndType 33 34), (0, u "degree"), (0, u "I"), (0, .fieldref 8 36), (0, .nameAndType 37 34), (0, u "count"), (0, .methodref 39 40), (0, .class_ 41), (0, .nameAndType 42 43), (0, u "java/lang/Math"), (0, u "max"), (0, u "(II)I"), (0, .methodref 39 45), (0, .nameAndType 46 43), (0, u "min"), (0, .methodref 48 49), (0, .class_ 50), (0, .nameAndType 51 52), (0, u "java/util/Arrays"), (0, u "copyOf"), (0, u "([II)[I"), (0, .methodref 54 55), (0, .class_ 56), (0, .nameAndType 57 58), (0, u "java/lang/System"), (0, u "arraycopy"), (0, u "(Ljava/lang/Object;ILjava/lang/Object;II)V"), (2, u "awaited"), (2, u "remove"), (0, u "(I)V"), (8, u "(I)I"), (9, u "placeOf"), (0, u "add"), (0, u "(II)V")] 13

def k2c0 : Code := { maxStack := 2, maxLocals := 2, code := prog_127_method_1_code, exceptionTable := #[], attributes := #[] }
def k2m0 : Method := { name := "<init>", desc := "(I)V", sig := { parameters := [.int], returnType := none }, accessFlags := 0, code := some k2c0 }
def k2c1 : Code := { maxStack := 2, maxLocals := 4, code := prog_127_method_6_code, exceptionTable := #[], attributes := #[] }
def k2m1 : Method := { name := "placeOf", desc := "(I)I", sig := { parameters := [.int], returnType := some .int }, accessFlags := 0, code := some k2c1 }
def k2c2 : Code := { maxStack := 4, maxLocals := 4, code := prog_127_method_7_code, exceptionTable := #[], attributes := #[] }
def k2m2 : Method := { name := "add", desc := "(II)V", sig := { parameters := [.int, .int], returnType := none }, accessFlags := 0, code := some k2c2 }
def k2c3 : Code := { maxStack := 6, maxLocals := 2, code := prog_127_method_8_code, exceptionTable := #[], attributes := #[] }
def k2m3 : Method := { name := "remove", desc := "(I)V", sig := { parameters := [.int], returnType := none }, accessFlags := 0, code := some k2c3 }
/-- com/example/rootcast/rootcast/tree/Children -/
def k2 : Class := { plain "com/example/rootcast/rootcast/tree/Children" (some 0) with
  accessFlags := 48
  interfaces := #[]
  cf := some (fileOf pool2 8 #[] #[{ accessFlags := 0, nameIndex := 5, descriptorIndex := 65, attributes := #[] }, { accessFlags := 0, nameIndex := 84, descriptorIndex := 74, attributes := #[] }, { accessFlags := 0, nameIndex := 85, descriptorIndex := 86, attributes := #[] }, { accessFlags := 0, nameIndex := 64, descriptorIndex := 65, attributes := #[] }] 48 2 #[] #[{ accessFlags := 26, nameIndex := 11, descriptorIndex := 12, attributes := #[] }, { accessFlags := 18, nameIndex := 33, descriptorIndex := 34, attributes := #[] }, { accessFlags := 2, nameIndex := 15, descriptorIndex := 12, attributes := #[] }, { accessFlags := 2, nameIndex := 18, descriptorIndex := 12, attributes := #[] }, { accessFlags := 2, nameIndex := 21, descriptorIndex := 12, attributes := #[] }, { accessFlags := 2, nameIndex := 37, descriptorIndex := 34, attributes := #[] }, { accessFlags := 2, nameIndex := 24, descriptorIndex := 12, attributes := #[] }, { accessFlags := 2, nameIndex := 27, descriptorIndex := 12, attributes := #[] }, { accessFlags := 2, nameIndex := 30, descriptorIndex := 12, attributes := #[] }, { accessFlags := 2, nameIndex := 61, descriptorIndex := 34, attributes := #[] }])
  fields := #[{ name := "NONE", type := (.array .int), accessFlags := 26, slot := 0, constantValue := 0 }, { name := "degree", type := .int, accessFlags := 18, slot := 0, constantValue := 0 }, { name := "peers", type := (.array .int), accessFlags := 2, slot := 1, constantValue := 0 }, { name := "subtree", type := (.array .int), accessFlags := 2, slot := 2, constantValue := 0 }, { name := "sent", type := (.array .int), accessFlags := 2, slot := 3, constantValue := 0 }, { name := "count", type := .int, accessFlags := 2, slot := 4, constantValue := 0 }, { name := "stopped", type := (.array .int), accessFlags := 2, slot := 5, constantValue := 0 }, { name := "toCome", type := (.array .int), accessFlags := 2, slot := 6, constantValue := 0 }, { name := "beatsLeft", type := (.array .int), accessFlags := 2, slot := 7, constantValue := 0 }, { name := "awaited", type := .int, accessFlags := 2, slot := 8, constantValue := 0 }]
  methods := #[k2m0, k2m1, k2m2, k2m3]
  instanceTypes := #[.int, (.array .int), (.array .int), (.array .int), .int, (.array .int), (.array .int), (.array .int), .int]
  staticTypes := #[(.array .int)]
  resolved := Array.replicate 100 none
  statics := some 0 }

def pool3 : Array CpInfo := pool [(1, .class_ 2), (0, u "java/lang/Math"), (1, .class_ 6), (1, u "java/lang/Object"), (0, u "<init>"), (0, u "()V"), (89, .class_ 100), (1, u "java/lang/Math$RandomNumberGeneratorHolder"), (71, u "negativeZeroFloatBits"), (0, u "J"), (2, u "negativeZeroDoubleBits"), (21, u "max"), (2, u "min"), (43, u "$assertionsDisabled"), (0, u "Z"), (88, u "(II)I"), (2, u "twoToTheDoubleScaleDown"), (0, u "D"), (4, u "twoToTheDoubleScaleUp"), (9, u "E"), (3, u "PI"), (2, u "TAU"), (2, u "DEGREES_TO_RADIANS"), (0, u "RADIANS_TO_DEGREES")] 94

def k3m0 : Method := { name := "<init>", desc := "()V", sig := { parameters := [], returnType := none }, accessFlags := 2, code := none }
def k3c1 : Code := { maxStack := 2, maxLocals := 2, code := jdk_29_method_65_code, exceptionTable := #[], attributes := #[] }
def k3m1 : Method := { name := "max", desc := "(II)I", sig := { parameters := [.int, .int], returnType := some .int }, accessFlags := 9, code := some k3c1 }
def k3c2 : Code := { maxStack := 2, maxLocals := 2, code := jdk_29_method_69_code, exceptionTable := #[], attributes := #[] }
def k3m2 : Method := { name := "min", desc := "(II)I", sig := { parameters := [.int, .int], returnType := some .int }, accessFlags := 9, code := some k3c2 }
/-- java/lang/Math -/
def k3 : Class := { plain "java/lang/Math" (some 0) with
  accessFlags := 49
  interfaces := #[]
  cf := some (fileOf pool3 1 #[.nestMembers #[98]] #[{ accessFlags := 2, nameIndex := 7, descriptorIndex := 8, attributes := #[] }, { accessFlags := 9, nameIndex := 198, descriptorIndex := 335, attributes := #[] }, { accessFlags := 9, nameIndex := 201, descriptorIndex := 335, attributes := #[] }] 49 4 #[] #[{ accessFlags := 25, nameIndex := 354, descriptorIndex := 339, attributes := #[] }, { accessFlags := 25, nameIndex := 358, descriptorIndex := 339, attributes := #[] }, { accessFlags := 25, nameIndex := 361, descriptorIndex := 339, attributes := #[] }, { accessFlags := 26, nameIndex := 364, descriptorIndex := 339, attributes := #[] }, { accessFlags := 26, nameIndex := 365, descriptorIndex := 339, attributes := #[] }, { accessFlags := 26, nameIndex := 172, descriptorIndex := 173, attributes := #[] }, { accessFlags := 26, nameIndex := 176, descriptorIndex := 173, attributes := #[] }, { accessFlags := 8, nameIndex := 344, descriptorIndex := 339, attributes := #[] }, { accessFlags := 8, nameIndex := 338, descriptorIndex := 339, attributes := #[] }, { accessFlags := 4120, nameIndex := 245, descriptorIndex := 246, attributes := #[] }])
  fields := #[{ name := "E", type := .double, accessFlags := 25, slot := 0, constantValue := 0 }, { name := "PI", type := .double, accessFlags := 25, slot := 1, constantValue := 0 }, { name := "TAU", type := .double, accessFlags := 25, slot := 2, constantValue := 0 }, { name := "DEGREES_TO_RADIANS", type := .double, accessFlags := 26, slot := 3, constantValue := 0 }, { name := "RADIANS_TO_DEGREES", type := .double, accessFlags := 26, slot := 4, constantValue := 0 }, { name := "negativeZeroFloatBits", type := .long, accessFlags := 26, slot := 5, constantValue := 0 }, { name := "negativeZeroDoubleBits", type := .long, accessFlags := 26, slot := 6, constantValue := 0 }, { name := "twoToTheDoubleScaleUp", type := .double, accessFlags := 8, slot := 7, constantValue := 0 }, { name := "twoToTheDoubleScaleDown", type := .double, accessFlags := 8, slot := 8, constantValue := 0 }, { name := "$assertionsDisabled", type := .boolean, accessFlags := 4120, slot := 9, constantValue := 0 }]
  methods := #[k3m0, k3m1, k3m2]
  instanceTypes := #[]
  staticTypes := #[.double, .double, .double, .double, .double, .long, .long, .double, .double, .boolean]
  resolved := Array.replicate 460 none
  statics := none }

def pool4 : Array CpInfo := pool [(2, .class_ 4), (1, u "java/lang/Object"), (0, u "<init>"), (0, u "()V"), (7, .class_ 16), (1, u "java/util/Arrays"), (57, .class_ 76), (1, u "java/util/Arrays$NaturalOrder"), (36, .class_ 115), (1, u "java/util/Arrays$LegacyMergeSort"), (1, u "Z"), (32, .methodref 151 152), (0, .class_ 153), (0, .nameAndType 154 155), (0, u "java/lang/System"), (0, u "arraycopy"), (0, u "(Ljava/lang/Object;ILjava/lang/Object;II)V"), (146, u "copyOf"), (1, .methodref 305 306), (0, .class_ 307), (0, .nameAndType 308 309), (0, u "java/lang/Math"), (0, u "min"), (0, u "(II)I"), (65, .class_ 376), (0, u "java/util/Arrays$ArrayList"), (68, u "$assertionsDisabled"), (269, u "MIN_ARRAY_SORT_GRAN"), (0, u "I"), (2, u "INSERTIONSORT_THRESHOLD"), (151, u "([II)[I"), (103, .class_ 976), (0, u "java/util/Arrays$ArrayItr")] 52

def k4m0 : Method := { name := "<init>", desc := "()V", sig := { parameters := [], returnType := none }, accessFlags := 2, code := none }
def k4c1 : Code := { maxStack := 6, maxLocals := 3, code := jdk_65_method_123_code, exceptionTable := #[], attributes := #[] }
def k4m1 : Method := { name := "copyOf", desc := "([II)[I", sig := { parameters := [(.array .int), .int], returnType := some (.array .int) }, accessFlags := 9, code := some k4c1 }
/-- java/util/Arrays -/
def k4 : Class := { plain "java/util/Arrays" (some 0) with
  accessFlags := 49
  interfaces := #[]
  cf := some (fileOf pool4 14 #[.nestMembers #[975, 375, 113, 74]] #[{ accessFlags := 2, nameIndex := 5, descriptorIndex := 6, attributes := #[] }, { accessFlags := 9, nameIndex := 302, descriptorIndex := 871, attributes := #[] }] 49 2 #[] #[{ accessFlags := 26, nameIndex := 715, descriptorIndex := 716, attributes := #[] }, { accessFlags := 26, nameIndex := 719, descriptorIndex := 716, attributes := #[] }, { accessFlags := 4120, nameIndex := 445, descriptorIndex := 117, attributes := #[] }])
  fields := #[{ name := "MIN_ARRAY_SORT_GRAN", type := .int, accessFlags := 26, slot := 0, constantValue := 0 }, { name := "INSERTIONSORT_THRESHOLD", type := .int, accessFlags := 26, slot := 1, constantValue := 0 }, { name := "$assertionsDisabled", type := .boolean, accessFlags := 4120, slot := 2, constantValue := 0 }]
  methods := #[k4m0, k4m1]
  instanceTypes := #[]
  staticTypes := #[.int, .int, .boolean]
  resolved := Array.replicate 1029 none
  statics := none }

def pool5 : Array CpInfo := pool [(2, .class_ 4), (1, u "java/lang/Object"), (0, u "<init>"), (0, u "()V"), (1, .class_ 10), (1, u "java/lang/System"), (0, u "allowSecurityManager"), (0, u "I"), (16, u "cons"), (0, u "Ljava/io/Console;"), (77, .class_ 110), (1, u "java/lang/System$CallersHolder"), (43, u "initialErrStream"), (0, u "Ljava/io/PrintStream;"), (19, u "security"), (0, u "Ljava/lang/SecurityManager;"), (31, .class_ 209), (0, u "java/lang/System$1"), (7, u "props"), (0, u "Ljava/util/Properties;"), (2, u "lineSeparator"), (0, u "Ljava/lang/String;"), (96, .class_ 321), (1, u "java/lang/System$LoggerFinder"), (5, .class_ 328), (0, u "java/lang/System$Logger"), (67, u "err"), (2, u "out"), (91, u "notSupportedJnuEncoding"), (15, u "in"), (17, u "initialIn"), (0, u "Ljava/io/InputStream;"), (35, u "bootLayer"), (0, u "Ljava/lang/ModuleLayer;"), (99, .class_ 664), (0, u "java/lang/System$2"), (9, u "NEVER"), (2, u "MAYBE"), (49, u "arraycopy"), (0, u "(Ljava/lang/Object;ILjava/lang/Object;II)V"), (72, .class_ 802), (0, u "java/lang/System$Logger$Level")] 31

def k5m0 : Method := { name := "<init>", desc := "()V", sig := { parameters := [], returnType := none }, accessFlags := 2, code := none }
def k5m1 : Method := { name := "arraycopy", desc := "(Ljava/lang/Object;ILjava/lang/Object;II)V", sig := { parameters := [(.object "java/lang/Object"), .int, (.object "java/lang/Object"), .int, .int], returnType := none }, accessFlags := 265, code := none }
/-- java/lang/System -/
def k5 : Class := { plain "java/lang/System" (some 0) with
  accessFlags := 49
  interfaces := #[]
  cf := some (fileOf pool5 8 #[.nestMembers #[319, 327, 801, 108, 663, 208]] #[{ accessFlags := 2, nameIndex := 5, descriptorIndex := 6, attributes := #[] }, { accessFlags := 265, nameIndex := 727, descriptorIndex := 728, attributes := #[] }] 49 2 #[] #[{ accessFlags := 25, nameIndex := 507, descriptorIndex := 526, attributes := #[] }, { accessFlags := 25, nameIndex := 399, descriptorIndex := 155, attributes := #[] }, { accessFlags := 25, nameIndex := 396, descriptorIndex := 155, attributes := #[] }, { accessFlags := 10, nameIndex := 525, descriptorIndex := 526, attributes := #[] }, { accessFlags := 26, nameIndex := 674, descriptorIndex := 12, attributes := #[] }, { accessFlags := 26, nameIndex := 677, descriptorIndex := 12, attributes := #[] }, { accessFlags := 10, nameIndex := 11, descriptorIndex := 12, attributes := #[] }, { accessFlags := 74, nameIndex := 175, descriptorIndex := 176, attributes := #[] }, { accessFlags := 10, nameIndex := 491, descriptorIndex := 222, attributes := #[] }, { accessFlags := 74, nameIndex := 29, descriptorIndex := 30, attributes := #[] }, { accessFlags := 74, nameIndex := 154, descriptorIndex := 155, attributes := #[] }, { accessFlags := 10, nameIndex := 217, descriptorIndex := 218, attributes := #[] }, { accessFlags := 10, nameIndex := 221, descriptorIndex := 222, attributes := #[] }, { accessFlags := 8, nameIndex := 562, descriptorIndex := 563, attributes := #[] }])
  fields := #[{ name := "in", type := (.object "java/io/InputStream"), accessFlags := 25, slot := 0, constantValue := 0 }, { name := "out", type := (.object "java/io/PrintStream"), accessFlags := 25, slot := 1, constantValue := 0 }, { name := "err", type := (.object "java/io/PrintStream"), accessFlags := 25, slot := 2, constantValue := 0 }, { name := "initialIn", type := (.object "java/io/InputStream"), accessFlags := 10, slot := 3, constantValue := 0 }, { name := "NEVER", type := .int, accessFlags := 26, slot := 4, constantValue := 0 }, { name := "MAYBE", type := .int, accessFlags := 26, slot := 5, constantValue := 0 }, { name := "allowSecurityManager", type := .int, accessFlags := 10, slot := 6, constantValue := 0 }, { name := "security", type := (.object "java/lang/SecurityManager"), accessFlags := 74, slot := 7, constantValue := 0 }, { name := "notSupportedJnuEncoding", type := (.object "java/lang/String"), accessFlags := 10, slot := 8, constantValue := 0 }, { name := "cons", type := (.object "java/io/Console"), accessFlags := 74, slot := 9, constantValue := 0 }, { name := "initialErrStream", type := (.object "java/io/PrintStream"), accessFlags := 74, slot := 10, constantValue := 0 }, { name := "props", type := (.object "java/util/Properties"), accessFlags := 10, slot := 11, constantValue := 0 }, { name := "lineSeparator", type := (.object "java/lang/String"), accessFlags := 10, slot := 12, constantValue := 0 }, { name := "bootLayer", type := (.object "java/lang/ModuleLayer"), accessFlags := 8, slot := 13, constantValue := 0 }]
  methods := #[k5m0, k5m1]
  instanceTypes := #[]
  staticTypes := #[(.object "java/io/InputStream"), (.object "java/io/PrintStream"), (.object "java/io/PrintStream"), (.object "java/io/InputStream"), .int, .int, .int, (.object "java/lang/SecurityManager"), (.object "java/lang/String"), (.object "java/io/Console"), (.object "java/io/PrintStream"), (.object "java/util/Properties"), (.object "java/lang/String"), (.object "java/lang/ModuleLayer")]
  resolved := Array.replicate 834 none
  statics := none }

def pool6 : Array CpInfo := pool [(1, u "java/lang/Cloneable"), (0, .class_ 1), (0, u "java/lang/Object"), (0, .class_ 3)] 3

/-- java/lang/Cloneable -/
def k6 : Class := { plain "java/lang/Cloneable" (some 0) with
  accessFlags := 1537
  interfaces := #[]
  cf := some (fileOf pool6 2 #[] #[] 1537 4 #[] #[])
  fields := #[]
  methods := #[]
  instanceTypes := #[]
  staticTypes := #[]
  resolved := Array.replicate 8 none
  statics := none }

def pool7 : Array CpInfo := pool [(1, u "java/io/Serializable"), (0, .class_ 1), (0, u "java/lang/Object"), (0, .class_ 3)] 3

/-- java/io/Serializable -/
def k7 : Class := { plain "java/io/Serializable" (some 0) with
  accessFlags := 1537
  interfaces := #[]
  cf := some (fileOf pool7 2 #[] #[] 1537 4 #[] #[])
  fields := #[]
  methods := #[]
  instanceTypes := #[]
  staticTypes := #[]
  resolved := Array.replicate 8 none
  statics := none }

/-- the primitive byte -/
def k8 : Class := { plain "byte" none with kind := .primitive 'B', accessFlags := 0x411 }
/-- [B -/
def k9 : Class := { plain "[B" (some 0) with kind := .array 8 .byte, interfaces := #[6, 7], accessFlags := 1041 }

/-- the primitive int -/
def k10 : Class := { plain "int" none with kind := .primitive 'I', accessFlags := 0x411 }
/-- [I -/
def k11 : Class := { plain "[I" (some 0) with kind := .array 10 .int, interfaces := #[6, 7], accessFlags := 1041 }

def heap : Heap := #[{ cls := 2, slots := #[.ref 1], vm := .statics 2 },
  { cls := 11, slots := #[], vm := .none }]
def classes : Array Class := #[k0, k1, k2, k3, k4, k5, k6, k7, k8, k9, k10, k11]
def interned : List (Array UInt16 × Addr) := []
def slotsUsed : Nat := 1
def theMethod : MethodId := ⟨1, 1⟩
def args0 : Array Value := #[.int 5, .int 2, .int 7, .int 1, .int 15]
def aboutOver (below : List Frame) : State where
  vm := { classes := classes, interned := interned.toArray }
  heap := heap
  slotsUsed := slotsUsed
  threads := #[{ frames := .invoking theMethod args0 :: below }]
def below0 : List Frame := [.native { method := ⟨0, 0⟩, args := #[] }]
def about1 : State := aboutOver below0
def p0 : Program := .bare "" "" ""
def e0 : Env := launch0.env 0 0 0
theorem w_frames : about1.frames = Frame.invoking theMethod args0 :: below0 := rfl
set_option maxRecDepth 65536 in
theorem w_args : argsFit about1.vm theMethod args0 = true := by decide +kernel
set_option maxRecDepth 65536 in
theorem w_heap : heapFits about1 = true := by decide +kernel
set_option maxRecDepth 65536 in
theorem w_runnable : about1.curStatus? = some .runnable := by decide +kernel
set_option maxRecDepth 65536 in
theorem w_alone : about1.alone = true := by decide +kernel
set_option maxRecDepth 65536 in
theorem w_named : about1.methodNamed? x = some theMethod := by decide +kernel
set_option maxRecDepth 65536 in
theorem w_hears : about1.hears theMethod below0 = true := by decide +kernel
set_option maxRecDepth 65536 in
theorem w_ripe : about1.ripe theMethod args0 below0 = true := by decide +kernel
theorem w_running : about1.status = .running := rfl
set_option maxRecDepth 65536 in
theorem w_room : about1.hasRoom e0.platform room_1 = true :=
  launch0.hasRoom_least _ room_1 (by decide +kernel) (by decide +kernel) (by decide +kernel) (by decide +kernel) (by decide +kernel) (by decide +kernel)
theorem allAtoms_all (ts : List Jvm.Cond) (a : Array Jvm.Value) (st : Jvm.State) : (allAtoms ts).before a st = ts.all (fun c => c.before a st) := by
  induction ts with
  | nil => rfl
  | cons c t ih =>
    show (Jvm.Cond.and c (allAtoms t)).before a st = _
    rw [Jvm.Cond.before_and, ih, List.all_cons]
def words1 : List Jvm.Cond := Jvm.Cond.code x code maxLocals ret :: tables_1
/-- a 'code' word, met by the world's own term for the bytes: nothing is compared byte by byte -/
theorem code_word {y : MethodName} {bytes : ByteArray} {mx : Nat} {rt : Option FieldType} {a : Array Value} {s : State} {m : MethodId} {meth : Method} {c : Code} (h1 : s.methodNamed? y = some m) (h2 : s.vm.method? m = some meth) (h3 : meth.code = some c) (h4 : c.code = bytes)
    (h5 : (c.maxLocals == mx && c.exceptionTable.isEmpty && decide (c.maxStack ≤ mostOperands) && decide (meth.sig.returnType = rt) && !meth.locks && decide (parseMethodDescriptor y.desc = some meth.sig)) = true) : (Jvm.Cond.code y bytes mx rt).before a s = true := by
  simp only [Bool.and_eq_true, beq_iff_eq, Bool.not_eq_true', decide_eq_true_eq] at h5
  obtain ⟨⟨⟨⟨⟨g1, g2⟩, g3⟩, g4⟩, g5⟩, g6⟩ := h5
  simp [Cond.before, Cond.holds, Cond.value, h1, h2, h3, h4, g1, g2, g3, g4, g5, g6]
def isCode : Jvm.Cond → Bool
  | .code _ _ _ _ => true
  | _ => false
theorem all_split {L : List Jvm.Cond} {P : Jvm.Cond → Bool} (h1 : L.all (fun c => isCode c || P c) = true) (h2 : ∀ c ∈ L.filter isCode, P c = true) : L.all P = true := by
  refine List.all_eq_true.mpr fun c hc => ?_
  have h := List.all_eq_true.mp h1 c hc
  rcases Bool.eq_false_or_eq_true (isCode c) with hi | hi
  · exact h2 c (List.mem_filter.mpr ⟨hc, hi⟩)
  · simpa [hi] using h
set_option maxRecDepth 65536 in
theorem w_c0 : (Jvm.Cond.code x code maxLocals ret).before args0 about1 = true := code_word (m := ⟨1, 1⟩) (meth := k1m1) (c := k1c1) (by decide +kernel) rfl rfl rfl (by decide +kernel)
set_option maxRecDepth 65536 in
theorem w_c1 : (Jvm.Cond.code ({ cls := "com/example/rootcast/rootcast/tree/Children", name := "<init>", desc := "(I)V" } : Jvm.MethodName) prog_127_method_1_code (2 : Nat) (Option.none : Option Jvm.ClassFile.FieldType)).before args0 about1 = true := code_word (m := ⟨2, 0⟩) (meth := k2m0) (c := k2c0) (by decide +kernel) rfl rfl rfl (by decide +kernel)
set_option maxRecDepth 65536 in
theorem w_c2 : (Jvm.Cond.code ({ cls := "java/lang/Object", name := "<init>", desc := "()V" } : Jvm.MethodName) object_method_1_code (1 : Nat) (Option.none : Option Jvm.ClassFile.FieldType)).before args0 about1 = true := code_word (m := ⟨0, 0⟩) (meth := k0m0) (c := k0c0) (by decide +kernel) rfl rfl rfl (by decide +kernel)
set_option maxRecDepth 65536 in
theorem w_c3 : (Jvm.Cond.code ({ cls := "com/example/rootcast/rootcast/tree/ChildrenPlaceOfPinLaw", name := "at", desc := "([IIZI)I" } : Jvm.MethodName) method_3_code (4 : Nat) (Option.some Jvm.ClassFile.FieldType.int)).before args0 about1 = true := code_word (m := ⟨1, 2⟩) (meth := k1m2) (c := k1c2) (by decide +kernel) rfl rfl rfl (by decide +kernel)
set_option maxRecDepth 65536 in
theorem w_c4 : (Jvm.Cond.code ({ cls := "com/example/rootcast/rootcast/tree/Children", name := "placeOf", desc := "(I)I" } : Jvm.MethodName) prog_127_method_6_code (4 : Nat) (Option.some Jvm.ClassFile.FieldType.int)).before args0 about1 = true := code_word (m := ⟨2, 1⟩) (meth := k2m1) (c := k2c1) (by decide +kernel) rfl rfl rfl (by decide +kernel)
set_option maxRecDepth 65536 in
theorem w_c5 : (Jvm.Cond.code ({ cls := "com/example/rootcast/rootcast/tree/Children", name := "add", desc := "(II)V" } : Jvm.MethodName) prog_127_method_7_code (4 : Nat) (Option.none : Option Jvm.ClassFile.FieldType)).before args0 about1 = true := code_word (m := ⟨2, 2⟩) (meth := k2m2) (c := k2c2) (by decide +kernel) rfl rfl rfl (by decide +kernel)
set_option maxRecDepth 65536 in
theorem w_c6 : (Jvm.Cond.code ({ cls := "java/lang/Math", name := "max", desc := "(II)I" } : Jvm.MethodName) jdk_29_method_65_code (2 : Nat) (Option.some Jvm.ClassFile.FieldType.int)).before args0 about1 = true := code_word (m := ⟨3, 1⟩) (meth := k3m1) (c := k3c1) (by decide +kernel) rfl rfl rfl (by decide +kernel)
set_option maxRecDepth 65536 in
theorem w_c7 : (Jvm.Cond.code ({ cls := "java/lang/Math", name := "min", desc := "(II)I" } : Jvm.MethodName) jdk_29_method_69_code (2 : Nat) (Option.some Jvm.ClassFile.FieldType.int)).before args0 about1 = true := code_word (m := ⟨3, 2⟩) (meth := k3m2) (c := k3c2) (by decide +kernel) rfl rfl rfl (by decide +kernel)
set_option maxRecDepth 65536 in
theorem w_c8 : (Jvm.Cond.code ({ cls := "java/util/Arrays", name := "copyOf", desc := "([II)[I" } : Jvm.MethodName) jdk_65_method_123_code (3 : Nat) (Option.some (Jvm.ClassFile.FieldType.array Jvm.ClassFile.FieldType.int))).before args0 about1 = true := code_word (m := ⟨4, 1⟩) (meth := k4m1) (c := k4c1) (by decide +kernel) rfl rfl rfl (by decide +kernel)
set_option maxRecDepth 65536 in
theorem w_c9 : (Jvm.Cond.code ({ cls := "com/example/rootcast/rootcast/tree/Children", name := "remove", desc := "(I)V" } : Jvm.MethodName) prog_127_method_8_code (2 : Nat) (Option.none : Option Jvm.ClassFile.FieldType)).before args0 about1 = true := code_word (m := ⟨2, 3⟩) (meth := k2m3) (c := k2c3) (by decide +kernel) rfl rfl rfl (by decide +kernel)
def codes1 : List Jvm.Cond := [Jvm.Cond.code x code maxLocals ret, Jvm.Cond.code ({ cls := "com/example/rootcast/rootcast/tree/Children", name := "<init>", desc := "(I)V" } : Jvm.MethodName) prog_127_method_1_code (2 : Nat) (Option.none : Option Jvm.ClassFile.FieldType), Jvm.Cond.code ({ cls := "java/lang/Object", name := "<init>", desc := "()V" } : Jvm.MethodName) object_method_1_code (1 : Nat) (Option.none : Option Jvm.ClassFile.FieldType), Jvm.Cond.code ({ cls := "com/example/rootcast/rootcast/tree/ChildrenPlaceOfPinLaw", name := "at", desc := "([IIZI)I" } : Jvm.MethodName) method_3_code (4 : Nat) (Option.some Jvm.ClassFile.FieldType.int), Jvm.Cond.code ({ cls := "com/example/rootcast/rootcast/tree/Children", name := "placeOf", desc := "(I)I" } : Jvm.MethodName) prog_127_method_6_code (4 : Nat) (Option.some Jvm.ClassFile.FieldType.int), Jvm.Cond.code ({ cls := "com/example/rootcast/rootcast/tree/Children", name := "add", desc := "(II)V" } : Jvm.MethodName) prog_127_method_7_code (4 : Nat) (Option.none : Option Jvm.ClassFile.FieldType), Jvm.Cond.code ({ cls := "java/lang/Math", name := "max", desc := "(II)I" } : Jvm.MethodName) jdk_29_method_65_code (2 : Nat) (Option.some Jvm.ClassFile.FieldType.int), Jvm.Cond.code ({ cls := "java/lang/Math", name := "min", desc := "(II)I" } : Jvm.MethodName) jdk_29_method_69_code (2 : Nat) (Option.some Jvm.ClassFile.FieldType.int), Jvm.Cond.code ({ cls := "java/util/Arrays", name := "copyOf", desc := "([II)[I" } : Jvm.MethodName) jdk_65_method_123_code (3 : Nat) (Option.some (Jvm.ClassFile.FieldType.array Jvm.ClassFile.FieldType.int)), Jvm.Cond.code ({ cls := "com/example/rootcast/rootcast/tree/Children", name := "remove", desc := "(I)V" } : Jvm.MethodName) prog_127_method_8_code (2 : Nat) (Option.none : Option Jvm.ClassFile.FieldType)]
set_option maxRecDepth 65536 in
theorem codes_eq : words1.filter isCode = codes1 := rfl
theorem w_codes : ∀ c ∈ words1.filter isCode, c.before args0 about1 = true := by
  rw [codes_eq]
  intro c hc
  simp only [codes1, List.mem_cons, List.not_mem_nil, or_false] at hc
  rcases hc with rfl | rfl | rfl | rfl | rfl | rfl | rfl | rfl | rfl | rfl
  · exact w_c0
  · exact w_c1
  · exact w_c2
  · exact w_c3
  · exact w_c4
  · exact w_c5
  · exact w_c6
  · exact w_c7
  · exact w_c8
  · exact w_c9
set_option maxRecDepth 65536 in
theorem w_t1 : (words1.take 24).all (fun c => isCode c || c.before args0 about1) = true := by decide +kernel
set_option maxRecDepth 65536 in
theorem w_t2 : ((words1.drop 24).take 24).all (fun c => isCode c || c.before args0 about1) = true := by decide +kernel
set_option maxRecDepth 65536 in
theorem w_t3 : ((words1.drop 24).drop 24).all (fun c => isCode c || c.before args0 about1) = true := by decide +kernel
theorem w_tables : (allAtoms (Jvm.Cond.code x code maxLocals ret :: tables_1)).before args0 about1 = true := by
  rw [allAtoms_all]
  show words1.all (fun c => c.before args0 about1) = true
  refine all_split ?_ w_codes
  rw [← List.take_append_drop 24 words1, List.all_append, w_t1, ← List.take_append_drop 24 (words1.drop 24), List.all_append, w_t2, w_t3]
  rfl
set_option maxRecDepth 65536 in
theorem w_case : (Jvm.Cond.and given_1 narrow_1).before args0 about1 = true := by decide +kernel
theorem w_applies : (headSpec (Jvm.Cond.code x code maxLocals ret :: tables_1) room_1).applies x e0.platform about1 = true :=
  (Spec.applies_iff w_frames).mpr ⟨w_running, w_runnable, w_alone, w_named, w_hears, w_ripe, w_room, w_tables⟩
theorem atStart : AtStart classFile x code maxLocals ret World_1 tables_1 room_1 Calls_1 rest_1 Pre_1 launch0 p0 e0 about1 theMethod args0 below0 :=
  ⟨lists_1, trivial, launch0.admits_env _ _ _, launch0.least_env, fairChoices_fair.cas, fairChoices_fair.clock, w_frames, w_args, w_heap, w_applies, trivial, trivial, w_case⟩
end start1
theorem witness_1 : WitnessClaimed_1 := ⟨start1.p0, start1.e0, start1.about1, start1.theMethod, start1.args0, start1.below0, start1.atStart⟩
end Jvm.Pilot.@@N@@
