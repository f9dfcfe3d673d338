import JvmDerived
import JvmDerived.Pilot.@@N@@Statement
import JvmDerived.Pilot.@@N@@Code
set_option linter.unusedVariables false
set_option linter.unusedSimpArgs false
namespace Jvm.Pilot.@@N@@
open Jvm Jvm.ClassFile Sem Op Lib Jvm.Free Jvm.Stand Jvm.LawKit Jvm.RoadKit Bundle Jvm.Pilot.@@N@@.Jvm.D
section Own
variable {p : Program} {l : Launch} {e : Env} {R : Room} {s : State} {m : MethodId} {args : Array Value} {below : List Frame} {meth : Method} {c : Code} {T : State} {locs : List Loc} {cells slots : Nat} {C S : Nat} {Q : Option Value → Heap → List Loc → Prop}
/-- from the state T with the frame g on top the run comes to the method's end, and Q holds there -/
def Goes (p : Program) (e : Env) (below : List Frame) (s : State) (C S : Nat) (Q : Option Value → Heap → List Loc → Prop) (T : State) (g : JFrame) : Prop :=
  ∃ s₂ o, Steps p.tables e below (T.setTop g) s₂ ∧ s₂.status = .running ∧ Ended s₂ below o ∧ ∃ v L, o = .returned v ∧ Q v s₂.heap L ∧ FrameEnd s o s₂ L C S
theorem Goes.go {T' : State} {g g' : JFrame} (st : ∀ t, Steps p.tables e below (T'.setTop g') t → Steps p.tables e below (T.setTop g) t) (h : Goes p e below s C S Q T' g') : Goes p e below s C S Q T g := by
  obtain ⟨s₂, o, h1, h2⟩ := h; exact ⟨s₂, o, st _ h1, h2⟩
theorem Goes.tr {T' : State} {g g' : JFrame} (st : Steps p.tables e below (T.setTop g) (T'.setTop g')) (h : Goes p e below s C S Q T' g') : Goes p e below s C S Q T g := Goes.go (fun _ k => st.trans k) h
/-- a value comes back -/
theorem own_ret (X : Stand p l e R s m args below meth c T locs cells slots) (hx : p.tables.exec = Jvm.exec) (hlk : meth.locks = false) {t : FieldType} (hret : meth.sig.returnType = some t) {i : Instr} {w : Value} (hn : narrow t w = w)
    (hi : (i = .ireturn ∧ (t = .int ∨ t = .boolean ∨ t = .byte ∨ t = .char ∨ t = .short) ∧ ∃ z, w = .int z) ∨ (i = .lreturn ∧ t = .long ∧ ∃ z, w = .long z) ∨ (i = .dreturn ∧ t = .double ∧ ∃ z, w = .double z) ∨ (i = .freturn ∧ t = .float ∧ ∃ z, w = .float z) ∨ (i = .areturn ∧ t.isReference = true ∧ w.isRef = true))
    {pc : Nat} {Ls : Array Slot} {rest : List Value} (hd : decode c.code pc = .ok (i, 1)) (hC : cells ≤ C) (hS : slots ≤ S) {h : Heap} (eT : T.heap = h) (hQ : Q (some w) h locs) : Goes p e below s C S Q T (mkF m pc Ls (w :: rest)) := by
  obtain ⟨fs, hr, hrun, hended, hW, hsame⟩ := X.leave (v := some w) (fun h => by rw [hret] at h; cases h)
  subst eT
  exact ⟨_, _, retOut X hx hret hn hi hd hr, hrun, hended, _, _, rfl, hQ, ⟨_, rfl⟩, hW, hsame.mono hC hS⟩
theorem own_retI (X : Stand p l e R s m args below meth c T locs cells slots) (hx : p.tables.exec = Jvm.exec) (hlk : meth.locks = false) (hret : meth.sig.returnType = some .int) {z : Int32}
    {pc : Nat} {Ls : Array Slot} {rest : List Value} (hd : decode c.code pc = .ok (.ireturn, 1)) (hC : cells ≤ C) (hS : slots ≤ S) {h : Heap} (eT : T.heap = h) (hQ : Q (some (.int z)) h locs) : Goes p e below s C S Q T (mkF m pc Ls (.int z :: rest)) :=
  own_ret X hx hlk hret rfl (Or.inl ⟨rfl, Or.inl rfl, z, rfl⟩) hd hC hS eT hQ
theorem own_retZ (X : Stand p l e R s m args below meth c T locs cells slots) (hx : p.tables.exec = Jvm.exec) (hlk : meth.locks = false) (hret : meth.sig.returnType = some .boolean) {z : Int32} (hn : narrow .boolean (.int z) = .int z)
    {pc : Nat} {Ls : Array Slot} {rest : List Value} (hd : decode c.code pc = .ok (.ireturn, 1)) (hC : cells ≤ C) (hS : slots ≤ S) {h : Heap} (eT : T.heap = h) (hQ : Q (some (.int z)) h locs) : Goes p e below s C S Q T (mkF m pc Ls (.int z :: rest)) :=
  own_ret X hx hlk hret hn (Or.inl ⟨rfl, Or.inr (Or.inl rfl), z, rfl⟩) hd hC hS eT hQ
theorem own_retJ (X : Stand p l e R s m args below meth c T locs cells slots) (hx : p.tables.exec = Jvm.exec) (hlk : meth.locks = false) (hret : meth.sig.returnType = some .long) {z : Int64}
    {pc : Nat} {Ls : Array Slot} {rest : List Value} (hd : decode c.code pc = .ok (.lreturn, 1)) (hC : cells ≤ C) (hS : slots ≤ S) {h : Heap} (eT : T.heap = h) (hQ : Q (some (.long z)) h locs) : Goes p e below s C S Q T (mkF m pc Ls (.long z :: rest)) :=
  own_ret X hx hlk hret rfl (Or.inr (Or.inl ⟨rfl, rfl, z, rfl⟩)) hd hC hS eT hQ
theorem own_narR {t : FieldType} {w : Value} (hw : w.isRef = true) : narrow t w = w := by
  rcases ref_cases hw with rfl | ⟨a, rfl⟩ <;> cases t <;> rfl
theorem own_retR (X : Stand p l e R s m args below meth c T locs cells slots) (hx : p.tables.exec = Jvm.exec) (hlk : meth.locks = false) {t : FieldType} (hret : meth.sig.returnType = some t) (ht : t.isReference = true) {w : Value} (hw : w.isRef = true)
    {pc : Nat} {Ls : Array Slot} {rest : List Value} (hd : decode c.code pc = .ok (.areturn, 1)) (hC : cells ≤ C) (hS : slots ≤ S) {h : Heap} (eT : T.heap = h) (hQ : Q (some w) h locs) : Goes p e below s C S Q T (mkF m pc Ls (w :: rest)) :=
  own_ret X hx hlk hret (own_narR hw) (Or.inr (Or.inr (Or.inr (Or.inr ⟨rfl, ht, hw⟩)))) hd hC hS eT hQ
theorem own_retV (X : Stand p l e R s m args below meth c T locs cells slots) (hx : p.tables.exec = Jvm.exec) (hlk : meth.locks = false) (hret : meth.sig.returnType = none)
    {pc : Nat} {Ls : Array Slot} (hd : decode c.code pc = .ok (.return_, 1)) (hC : cells ≤ C) (hS : slots ≤ S) {h : Heap} (eT : T.heap = h) (hQ : Q none h locs) : Goes p e below s C S Q T (mkF m pc Ls []) := by
  obtain ⟨fs, hr, hrun, hended, hW, hsame⟩ := X.leave (v := none) (fun _ => rfl)
  subst eT
  exact ⟨_, _, X.returnOut hx hret hd hr, hrun, hended, _, _, rfl, hQ, ⟨_, rfl⟩, hW, hsame.mono hC hS⟩
/-- the entry -/
theorem own_enter {s₁ : State} {maxL : Nat} {as' : Array Value} {Ls : Array Slot} (hE : entryFrame m as' maxL = mkF m 0 Ls []) (h : Goes p e below s C S Q s₁ (mkF m 0 Ls [])) :
    ∃ s₂ o, Steps p.tables e below (s₁.setTop (entryFrame m as' maxL)) s₂ ∧ s₂.status = .running ∧ Ended s₂ below o ∧ ∃ v L, o = .returned v ∧ Q v s₂.heap L ∧ FrameEnd s o s₂ L C S := by
  rw [hE]; exact h
section Steps1
variable {pc : Nat} {Ls : Array Slot} {rest : List Value}
theorem own_iadd (X : Stand p l e R s m args below meth c T locs cells slots) (hx : p.tables.exec = Jvm.exec) (pc' : Nat) (hp : pc + 1 = pc') {x y z : Int32} (hd : decode c.code pc = .ok (.iadd, 1)) (hz : x + y = z) (h : Goes p e below s C S Q T (mkF m pc' Ls (.int z :: rest))) : Goes p e below s C S Q T (mkF m pc Ls (.int y :: .int x :: rest)) := by
  subst hp; subst hz; exact Goes.go (fun _ k => XS.iadd X.here hx rfl hd rfl k) h
theorem own_isub (X : Stand p l e R s m args below meth c T locs cells slots) (hx : p.tables.exec = Jvm.exec) (pc' : Nat) (hp : pc + 1 = pc') {x y z : Int32} (hd : decode c.code pc = .ok (.isub, 1)) (hz : x - y = z) (h : Goes p e below s C S Q T (mkF m pc' Ls (.int z :: rest))) : Goes p e below s C S Q T (mkF m pc Ls (.int y :: .int x :: rest)) := by
  subst hp; subst hz; exact Goes.go (fun _ k => XS.isub X.here hx rfl hd rfl k) h
theorem own_imul (X : Stand p l e R s m args below meth c T locs cells slots) (hx : p.tables.exec = Jvm.exec) (pc' : Nat) (hp : pc + 1 = pc') {x y z : Int32} (hd : decode c.code pc = .ok (.imul, 1)) (hz : x * y = z) (h : Goes p e below s C S Q T (mkF m pc' Ls (.int z :: rest))) : Goes p e below s C S Q T (mkF m pc Ls (.int y :: .int x :: rest)) := by
  subst hp; subst hz; exact Goes.go (fun _ k => XS.imul X.here hx rfl hd rfl k) h
theorem own_iand (X : Stand p l e R s m args below meth c T locs cells slots) (hx : p.tables.exec = Jvm.exec) (pc' : Nat) (hp : pc + 1 = pc') {x y z : Int32} (hd : decode c.code pc = .ok (.iand, 1)) (hz : x &&& y = z) (h : Goes p e below s C S Q T (mkF m pc' Ls (.int z :: rest))) : Goes p e below s C S Q T (mkF m pc Ls (.int y :: .int x :: rest)) := by
  subst hp; subst hz; exact Goes.go (fun _ k => XS.iand X.here hx rfl hd rfl k) h
theorem own_ior (X : Stand p l e R s m args below meth c T locs cells slots) (hx : p.tables.exec = Jvm.exec) (pc' : Nat) (hp : pc + 1 = pc') {x y z : Int32} (hd : decode c.code pc = .ok (.ior, 1)) (hz : x ||| y = z) (h : Goes p e below s C S Q T (mkF m pc' Ls (.int z :: rest))) : Goes p e below s C S Q T (mkF m pc Ls (.int y :: .int x :: rest)) := by
  subst hp; subst hz; exact Goes.go (fun _ k => XS.ior X.here hx rfl hd rfl k) h
theorem own_ixor (X : Stand p l e R s m args below meth c T locs cells slots) (hx : p.tables.exec = Jvm.exec) (pc' : Nat) (hp : pc + 1 = pc') {x y z : Int32} (hd : decode c.code pc = .ok (.ixor, 1)) (hz : x ^^^ y = z) (h : Goes p e below s C S Q T (mkF m pc' Ls (.int z :: rest))) : Goes p e below s C S Q T (mkF m pc Ls (.int y :: .int x :: rest)) := by
  subst hp; subst hz; exact Goes.go (fun _ k => XS.ixor X.here hx rfl hd rfl k) h
theorem own_idiv (X : Stand p l e R s m args below meth c T locs cells slots) (hx : p.tables.exec = Jvm.exec) (pc' : Nat) (hp : pc + 1 = pc') {x y z : Int32} (hd : decode c.code pc = .ok (.idiv, 1)) (hy : y ≠ 0) (hz : x / y = z) (h : Goes p e below s C S Q T (mkF m pc' Ls (.int z :: rest))) : Goes p e below s C S Q T (mkF m pc Ls (.int y :: .int x :: rest)) := by
  subst hp; subst hz; exact Goes.go (fun _ k => XS.idiv X.here hx rfl hd rfl hy k) h
theorem own_ishl (X : Stand p l e R s m args below meth c T locs cells slots) (hx : p.tables.exec = Jvm.exec) (pc' : Nat) (hp : pc + 1 = pc') {x z : Int32} {y : Int32} (hd : decode c.code pc = .ok (.ishl, 1)) (hz : (x <<< (y &&& 31)) = z) (h : Goes p e below s C S Q T (mkF m pc' Ls (.int z :: rest))) : Goes p e below s C S Q T (mkF m pc Ls (.int y :: .int x :: rest)) := by
  subst hp; subst hz; exact Goes.go (fun _ k => XS.ishl X.here hx rfl hd rfl k) h
theorem own_ishr (X : Stand p l e R s m args below meth c T locs cells slots) (hx : p.tables.exec = Jvm.exec) (pc' : Nat) (hp : pc + 1 = pc') {x z : Int32} {y : Int32} (hd : decode c.code pc = .ok (.ishr, 1)) (hz : (x >>> (y &&& 31)) = z) (h : Goes p e below s C S Q T (mkF m pc' Ls (.int z :: rest))) : Goes p e below s C S Q T (mkF m pc Ls (.int y :: .int x :: rest)) := by
  subst hp; subst hz; exact Goes.go (fun _ k => XS.ishr X.here hx rfl hd rfl k) h
theorem own_iushr (X : Stand p l e R s m args below meth c T locs cells slots) (hx : p.tables.exec = Jvm.exec) (pc' : Nat) (hp : pc + 1 = pc') {x z : Int32} {y : Int32} (hd : decode c.code pc = .ok (.iushr, 1)) (hz : ((x.toUInt32 >>> (y &&& 31).toUInt32).toInt32) = z) (h : Goes p e below s C S Q T (mkF m pc' Ls (.int z :: rest))) : Goes p e below s C S Q T (mkF m pc Ls (.int y :: .int x :: rest)) := by
  subst hp; subst hz; exact Goes.go (fun _ k => XS.iushr X.here hx rfl hd rfl k) h
theorem own_ladd (X : Stand p l e R s m args below meth c T locs cells slots) (hx : p.tables.exec = Jvm.exec) (pc' : Nat) (hp : pc + 1 = pc') {x y z : Int64} (hd : decode c.code pc = .ok (.ladd, 1)) (hz : x + y = z) (h : Goes p e below s C S Q T (mkF m pc' Ls (.long z :: rest))) : Goes p e below s C S Q T (mkF m pc Ls (.long y :: .long x :: rest)) := by
  subst hp; subst hz; exact Goes.go (fun _ k => XS.ladd X.here hx rfl hd rfl k) h
theorem own_lsub (X : Stand p l e R s m args below meth c T locs cells slots) (hx : p.tables.exec = Jvm.exec) (pc' : Nat) (hp : pc + 1 = pc') {x y z : Int64} (hd : decode c.code pc = .ok (.lsub, 1)) (hz : x - y = z) (h : Goes p e below s C S Q T (mkF m pc' Ls (.long z :: rest))) : Goes p e below s C S Q T (mkF m pc Ls (.long y :: .long x :: rest)) := by
  subst hp; subst hz; exact Goes.go (fun _ k => XS.lsub X.here hx rfl hd rfl k) h
theorem own_lmul (X : Stand p l e R s m args below meth c T locs cells slots) (hx : p.tables.exec = Jvm.exec) (pc' : Nat) (hp : pc + 1 = pc') {x y z : Int64} (hd : decode c.code pc = .ok (.lmul, 1)) (hz : x * y = z) (h : Goes p e below s C S Q T (mkF m pc' Ls (.long z :: rest))) : Goes p e below s C S Q T (mkF m pc Ls (.long y :: .long x :: rest)) := by
  subst hp; subst hz; exact Goes.go (fun _ k => XS.lmul X.here hx rfl hd rfl k) h
theorem own_land (X : Stand p l e R s m args below meth c T locs cells slots) (hx : p.tables.exec = Jvm.exec) (pc' : Nat) (hp : pc + 1 = pc') {x y z : Int64} (hd : decode c.code pc = .ok (.land, 1)) (hz : x &&& y = z) (h : Goes p e below s C S Q T (mkF m pc' Ls (.long z :: rest))) : Goes p e below s C S Q T (mkF m pc Ls (.long y :: .long x :: rest)) := by
  subst hp; subst hz; exact Goes.go (fun _ k => XS.land X.here hx rfl hd rfl k) h
theorem own_lor (X : Stand p l e R s m args below meth c T locs cells slots) (hx : p.tables.exec = Jvm.exec) (pc' : Nat) (hp : pc + 1 = pc') {x y z : Int64} (hd : decode c.code pc = .ok (.lor, 1)) (hz : x ||| y = z) (h : Goes p e below s C S Q T (mkF m pc' Ls (.long z :: rest))) : Goes p e below s C S Q T (mkF m pc Ls (.long y :: .long x :: rest)) := by
  subst hp; subst hz; exact Goes.go (fun _ k => XS.lor X.here hx rfl hd rfl k) h
theorem own_lxor (X : Stand p l e R s m args below meth c T locs cells slots) (hx : p.tables.exec = Jvm.exec) (pc' : Nat) (hp : pc + 1 = pc') {x y z : Int64} (hd : decode c.code pc = .ok (.lxor, 1)) (hz : x ^^^ y = z) (h : Goes p e below s C S Q T (mkF m pc' Ls (.long z :: rest))) : Goes p e below s C S Q T (mkF m pc Ls (.long y :: .long x :: rest)) := by
  subst hp; subst hz; exact Goes.go (fun _ k => XS.lxor X.here hx rfl hd rfl k) h
theorem own_ldiv (X : Stand p l e R s m args below meth c T locs cells slots) (hx : p.tables.exec = Jvm.exec) (pc' : Nat) (hp : pc + 1 = pc') {x y z : Int64} (hd : decode c.code pc = .ok (.ldiv, 1)) (hy : y ≠ 0) (hz : x / y = z) (h : Goes p e below s C S Q T (mkF m pc' Ls (.long z :: rest))) : Goes p e below s C S Q T (mkF m pc Ls (.long y :: .long x :: rest)) := by
  subst hp; subst hz; exact Goes.go (fun _ k => XS.ldiv X.here hx rfl hd rfl hy k) h
theorem own_lshl (X : Stand p l e R s m args below meth c T locs cells slots) (hx : p.tables.exec = Jvm.exec) (pc' : Nat) (hp : pc + 1 = pc') {x z : Int64} {y : Int32} (hd : decode c.code pc = .ok (.lshl, 1)) (hz : (x <<< (y &&& 0x3f).toInt64) = z) (h : Goes p e below s C S Q T (mkF m pc' Ls (.long z :: rest))) : Goes p e below s C S Q T (mkF m pc Ls (.int y :: .long x :: rest)) := by
  subst hp; subst hz; exact Goes.go (fun _ k => XS.lshl X.here hx rfl hd rfl k) h
theorem own_lshr (X : Stand p l e R s m args below meth c T locs cells slots) (hx : p.tables.exec = Jvm.exec) (pc' : Nat) (hp : pc + 1 = pc') {x z : Int64} {y : Int32} (hd : decode c.code pc = .ok (.lshr, 1)) (hz : (x >>> (y &&& 0x3f).toInt64) = z) (h : Goes p e below s C S Q T (mkF m pc' Ls (.long z :: rest))) : Goes p e below s C S Q T (mkF m pc Ls (.int y :: .long x :: rest)) := by
  subst hp; subst hz; exact Goes.go (fun _ k => XS.lshr X.here hx rfl hd rfl k) h
theorem own_lushr (X : Stand p l e R s m args below meth c T locs cells slots) (hx : p.tables.exec = Jvm.exec) (pc' : Nat) (hp : pc + 1 = pc') {x z : Int64} {y : Int32} (hd : decode c.code pc = .ok (.lushr, 1)) (hz : ((x.toUInt64 >>> (y &&& 0x3f).toInt64.toUInt64).toInt64) = z) (h : Goes p e below s C S Q T (mkF m pc' Ls (.long z :: rest))) : Goes p e below s C S Q T (mkF m pc Ls (.int y :: .long x :: rest)) := by
  subst hp; subst hz; exact Goes.go (fun _ k => XS.lushr X.here hx rfl hd rfl k) h
theorem own_irem (X : Stand p l e R s m args below meth c T locs cells slots) (hx : p.tables.exec = Jvm.exec) (pc' : Nat) (hp : pc + 1 = pc') {x y z : Int32} (hd : decode c.code pc = .ok (.irem, 1)) (hy : y ≠ 0) (hz : x % y = z) (h : Goes p e below s C S Q T (mkF m pc' Ls (.int z :: rest))) : Goes p e below s C S Q T (mkF m pc Ls (.int y :: .int x :: rest)) := by
  subst hp; subst hz; exact Goes.go (fun _ k => iremM X hx rfl hd rfl hy k) h
theorem own_lrem (X : Stand p l e R s m args below meth c T locs cells slots) (hx : p.tables.exec = Jvm.exec) (pc' : Nat) (hp : pc + 1 = pc') {x y z : Int64} (hd : decode c.code pc = .ok (.lrem, 1)) (hy : y ≠ 0) (hz : x % y = z) (h : Goes p e below s C S Q T (mkF m pc' Ls (.long z :: rest))) : Goes p e below s C S Q T (mkF m pc Ls (.long y :: .long x :: rest)) := by
  subst hp; subst hz; exact Goes.go (fun _ k => XS.lrem X.here hx rfl hd rfl hy (by rw [lrem_mod]; exact k)) h
theorem own_ineg (X : Stand p l e R s m args below meth c T locs cells slots) (hx : p.tables.exec = Jvm.exec) (pc' : Nat) (hp : pc + 1 = pc') {x : Int32} {z : Int32} (hd : decode c.code pc = .ok (.ineg, 1)) (hz : -x = z) (h : Goes p e below s C S Q T (mkF m pc' Ls (.int z :: rest))) : Goes p e below s C S Q T (mkF m pc Ls (.int x :: rest)) := by
  subst hp; subst hz; exact Goes.go (fun _ k => XS.ineg X.here hx rfl hd rfl k) h
theorem own_lneg (X : Stand p l e R s m args below meth c T locs cells slots) (hx : p.tables.exec = Jvm.exec) (pc' : Nat) (hp : pc + 1 = pc') {x : Int64} {z : Int64} (hd : decode c.code pc = .ok (.lneg, 1)) (hz : -x = z) (h : Goes p e below s C S Q T (mkF m pc' Ls (.long z :: rest))) : Goes p e below s C S Q T (mkF m pc Ls (.long x :: rest)) := by
  subst hp; subst hz; exact Goes.go (fun _ k => XS.lneg X.here hx rfl hd rfl k) h
theorem own_i2l (X : Stand p l e R s m args below meth c T locs cells slots) (hx : p.tables.exec = Jvm.exec) (pc' : Nat) (hp : pc + 1 = pc') {x : Int32} {z : Int64} (hd : decode c.code pc = .ok (.i2l, 1)) (hz : x.toInt64 = z) (h : Goes p e below s C S Q T (mkF m pc' Ls (.long z :: rest))) : Goes p e below s C S Q T (mkF m pc Ls (.int x :: rest)) := by
  subst hp; subst hz; exact Goes.go (fun _ k => XS.i2l X.here hx rfl hd rfl k) h
theorem own_l2i (X : Stand p l e R s m args below meth c T locs cells slots) (hx : p.tables.exec = Jvm.exec) (pc' : Nat) (hp : pc + 1 = pc') {x : Int64} {z : Int32} (hd : decode c.code pc = .ok (.l2i, 1)) (hz : x.toInt32 = z) (h : Goes p e below s C S Q T (mkF m pc' Ls (.int z :: rest))) : Goes p e below s C S Q T (mkF m pc Ls (.long x :: rest)) := by
  subst hp; subst hz; exact Goes.go (fun _ k => XS.l2i X.here hx rfl hd rfl k) h
theorem own_i2b (X : Stand p l e R s m args below meth c T locs cells slots) (hx : p.tables.exec = Jvm.exec) (pc' : Nat) (hp : pc + 1 = pc') {x : Int32} {z : Int32} (hd : decode c.code pc = .ok (.i2b, 1)) (hz : x.toInt8.toInt32 = z) (h : Goes p e below s C S Q T (mkF m pc' Ls (.int z :: rest))) : Goes p e below s C S Q T (mkF m pc Ls (.int x :: rest)) := by
  subst hp; subst hz; exact Goes.go (fun _ k => XS.i2b X.here hx rfl hd rfl k) h
theorem own_i2s (X : Stand p l e R s m args below meth c T locs cells slots) (hx : p.tables.exec = Jvm.exec) (pc' : Nat) (hp : pc + 1 = pc') {x : Int32} {z : Int32} (hd : decode c.code pc = .ok (.i2s, 1)) (hz : x.toInt16.toInt32 = z) (h : Goes p e below s C S Q T (mkF m pc' Ls (.int z :: rest))) : Goes p e below s C S Q T (mkF m pc Ls (.int x :: rest)) := by
  subst hp; subst hz; exact Goes.go (fun _ k => XS.i2s X.here hx rfl hd rfl k) h
theorem own_i2c (X : Stand p l e R s m args below meth c T locs cells slots) (hx : p.tables.exec = Jvm.exec) (pc' : Nat) (hp : pc + 1 = pc') {x : Int32} {z : Int32} (hd : decode c.code pc = .ok (.i2c, 1)) (hz : x.toUInt32.toUInt16.toUInt32.toInt32 = z) (h : Goes p e below s C S Q T (mkF m pc' Ls (.int z :: rest))) : Goes p e below s C S Q T (mkF m pc Ls (.int x :: rest)) := by
  subst hp; subst hz; exact Goes.go (fun _ k => XS.i2c X.here hx rfl hd rfl k) h
theorem own_lcmp (X : Stand p l e R s m args below meth c T locs cells slots) (hx : p.tables.exec = Jvm.exec) (pc' : Nat) (hp : pc + 1 = pc') {x y : Int64} (hd : decode c.code pc = .ok (.lcmp, 1))  (h : Goes p e below s C S Q T (mkF m pc' Ls (.int (lcmpW x y) :: rest))) : Goes p e below s C S Q T (mkF m pc Ls (.long y :: .long x :: rest)) := by
  subst hp; exact Goes.go (fun _ k => XS.lcmp X.here hx rfl hd rfl k) h
theorem own_iload (X : Stand p l e R s m args below meth c T locs cells slots) (hx : p.tables.exec = Jvm.exec) (pc' : Nat) (hp : pc + 2 = pc') {k : Nat} {v : Int32} (hd : decode c.code pc = .ok (.iload k, 2)) (hl : Ls[k]? = some (.val (.int v))) (h : Goes p e below s C S Q T (mkF m pc' Ls ((.int v) :: rest))) : Goes p e below s C S Q T (mkF m pc Ls rest) := by
  subst hp; exact Goes.go (fun _ k => XS.iload X.here hx rfl hd hl k) h
theorem own_iloadN (X : Stand p l e R s m args below meth c T locs cells slots) (hx : p.tables.exec = Jvm.exec) (pc' : Nat) (hp : pc + 1 = pc') {k : Fin 4} {v : Int32} (hd : decode c.code pc = .ok (.iload_n k, 1)) (hl : Ls[k.val]? = some (.val (.int v))) (h : Goes p e below s C S Q T (mkF m pc' Ls ((.int v) :: rest))) : Goes p e below s C S Q T (mkF m pc Ls rest) := by
  subst hp; exact Goes.go (fun _ k => XS.iloadN X.here hx rfl hd hl k) h
theorem own_istore (X : Stand p l e R s m args below meth c T locs cells slots) (hx : p.tables.exec = Jvm.exec) (pc' : Nat) (hp : pc + 2 = pc') {k : Nat} {v : Int32} (Ls' : Array Slot) (hd : decode c.code pc = .ok (.istore k, 2)) (hl : storeLocals Ls k (.int v) = some Ls') (h : Goes p e below s C S Q T (mkF m pc' Ls' rest)) : Goes p e below s C S Q T (mkF m pc Ls ((.int v) :: rest)) := by
  subst hp; exact Goes.go (fun _ k => XS.istore X.here hx rfl hd rfl hl k) h
theorem own_istoreN (X : Stand p l e R s m args below meth c T locs cells slots) (hx : p.tables.exec = Jvm.exec) (pc' : Nat) (hp : pc + 1 = pc') {k : Fin 4} {v : Int32} (Ls' : Array Slot) (hd : decode c.code pc = .ok (.istore_n k, 1)) (hl : storeLocals Ls k.val (.int v) = some Ls') (h : Goes p e below s C S Q T (mkF m pc' Ls' rest)) : Goes p e below s C S Q T (mkF m pc Ls ((.int v) :: rest)) := by
  subst hp; exact Goes.go (fun _ k => XS.istoreN X.here hx rfl hd rfl hl k) h
theorem own_lload (X : Stand p l e R s m args below meth c T locs cells slots) (hx : p.tables.exec = Jvm.exec) (pc' : Nat) (hp : pc + 2 = pc') {k : Nat} {v : Int64} (hd : decode c.code pc = .ok (.lload k, 2)) (hl : Ls[k]? = some (.val (.long v))) (h : Goes p e below s C S Q T (mkF m pc' Ls ((.long v) :: rest))) : Goes p e below s C S Q T (mkF m pc Ls rest) := by
  subst hp; exact Goes.go (fun _ k => XS.lload X.here hx rfl hd hl k) h
theorem own_lloadN (X : Stand p l e R s m args below meth c T locs cells slots) (hx : p.tables.exec = Jvm.exec) (pc' : Nat) (hp : pc + 1 = pc') {k : Fin 4} {v : Int64} (hd : decode c.code pc = .ok (.lload_n k, 1)) (hl : Ls[k.val]? = some (.val (.long v))) (h : Goes p e below s C S Q T (mkF m pc' Ls ((.long v) :: rest))) : Goes p e below s C S Q T (mkF m pc Ls rest) := by
  subst hp; exact Goes.go (fun _ k => XS.lloadN X.here hx rfl hd hl k) h
theorem own_lstore (X : Stand p l e R s m args below meth c T locs cells slots) (hx : p.tables.exec = Jvm.exec) (pc' : Nat) (hp : pc + 2 = pc') {k : Nat} {v : Int64} (Ls' : Array Slot) (hd : decode c.code pc = .ok (.lstore k, 2)) (hl : storeLocals Ls k (.long v) = some Ls') (h : Goes p e below s C S Q T (mkF m pc' Ls' rest)) : Goes p e below s C S Q T (mkF m pc Ls ((.long v) :: rest)) := by
  subst hp; exact Goes.go (fun _ k => XS.lstore X.here hx rfl hd rfl hl k) h
theorem own_lstoreN (X : Stand p l e R s m args below meth c T locs cells slots) (hx : p.tables.exec = Jvm.exec) (pc' : Nat) (hp : pc + 1 = pc') {k : Fin 4} {v : Int64} (Ls' : Array Slot) (hd : decode c.code pc = .ok (.lstore_n k, 1)) (hl : storeLocals Ls k.val (.long v) = some Ls') (h : Goes p e below s C S Q T (mkF m pc' Ls' rest)) : Goes p e below s C S Q T (mkF m pc Ls ((.long v) :: rest)) := by
  subst hp; exact Goes.go (fun _ k => XS.lstoreN X.here hx rfl hd rfl hl k) h
theorem own_aload (X : Stand p l e R s m args below meth c T locs cells slots) (hx : p.tables.exec = Jvm.exec) (pc' : Nat) (hp : pc + 2 = pc') {k : Nat} {v : Value} (hd : decode c.code pc = .ok (.aload k, 2)) (hl : Ls[k]? = some (.val v)) (hv : v.isRef = true) (h : Goes p e below s C S Q T (mkF m pc' Ls (v :: rest))) : Goes p e below s C S Q T (mkF m pc Ls rest) := by
  subst hp; exact Goes.go (fun _ k => XS.aload X.here hx rfl hd hl hv k) h
theorem own_aloadN (X : Stand p l e R s m args below meth c T locs cells slots) (hx : p.tables.exec = Jvm.exec) (pc' : Nat) (hp : pc + 1 = pc') {k : Fin 4} {v : Value} (hd : decode c.code pc = .ok (.aload_n k, 1)) (hl : Ls[k.val]? = some (.val v)) (hv : v.isRef = true) (h : Goes p e below s C S Q T (mkF m pc' Ls (v :: rest))) : Goes p e below s C S Q T (mkF m pc Ls rest) := by
  subst hp; exact Goes.go (fun _ k => XS.aloadN X.here hx rfl hd hl hv k) h
theorem own_astore (X : Stand p l e R s m args below meth c T locs cells slots) (hx : p.tables.exec = Jvm.exec) (pc' : Nat) (hp : pc + 2 = pc') {k : Nat} {v : Value} (Ls' : Array Slot) (hd : decode c.code pc = .ok (.astore k, 2)) (hl : storeLocals Ls k v = some Ls') (hv : v.isRef = true) (h : Goes p e below s C S Q T (mkF m pc' Ls' rest)) : Goes p e below s C S Q T (mkF m pc Ls (v :: rest)) := by
  subst hp; exact Goes.go (fun _ k => XS.astore X.here hx rfl hd rfl hv hl k) h
theorem own_astoreN (X : Stand p l e R s m args below meth c T locs cells slots) (hx : p.tables.exec = Jvm.exec) (pc' : Nat) (hp : pc + 1 = pc') {k : Fin 4} {v : Value} (Ls' : Array Slot) (hd : decode c.code pc = .ok (.astore_n k, 1)) (hl : storeLocals Ls k.val v = some Ls') (hv : v.isRef = true) (h : Goes p e below s C S Q T (mkF m pc' Ls' rest)) : Goes p e below s C S Q T (mkF m pc Ls (v :: rest)) := by
  subst hp; exact Goes.go (fun _ k => XS.astoreN X.here hx rfl hd rfl hv hl k) h
theorem own_iconst (X : Stand p l e R s m args below meth c T locs cells slots) (hx : p.tables.exec = Jvm.exec) (pc' : Nat) (hp : pc + 1 = pc') {i : Int} (v : Int32) (hd : decode c.code pc = .ok (.iconst i, 1)) (hv : Int32.ofInt i = v) (h : Goes p e below s C S Q T (mkF m pc' Ls (.int v :: rest))) : Goes p e below s C S Q T (mkF m pc Ls rest) := by
  subst hp; subst hv; exact Goes.go (fun _ k => XS.iconst X.here hx rfl hd k) h
theorem own_bipush (X : Stand p l e R s m args below meth c T locs cells slots) (hx : p.tables.exec = Jvm.exec) (pc' : Nat) (hp : pc + 2 = pc') {i : Int} (v : Int32) (hd : decode c.code pc = .ok (.bipush i, 2)) (hv : (Int8.ofInt i).toInt32 = v) (h : Goes p e below s C S Q T (mkF m pc' Ls (.int v :: rest))) : Goes p e below s C S Q T (mkF m pc Ls rest) := by
  subst hp; subst hv; exact Goes.go (fun _ k => XS.bipush X.here hx rfl hd k) h
theorem own_sipush (X : Stand p l e R s m args below meth c T locs cells slots) (hx : p.tables.exec = Jvm.exec) (pc' : Nat) (hp : pc + 3 = pc') {i : Int} (v : Int32) (hd : decode c.code pc = .ok (.sipush i, 3)) (hv : (Int16.ofInt i).toInt32 = v) (h : Goes p e below s C S Q T (mkF m pc' Ls (.int v :: rest))) : Goes p e below s C S Q T (mkF m pc Ls rest) := by
  subst hp; subst hv; exact Goes.go (fun _ k => XS.sipush X.here hx rfl hd k) h
theorem own_lconst (X : Stand p l e R s m args below meth c T locs cells slots) (hx : p.tables.exec = Jvm.exec) (pc' : Nat) (hp : pc + 1 = pc') {i : Fin 2} (v : Int64) (hd : decode c.code pc = .ok (.lconst i, 1)) (hv : Int64.ofNat i = v) (h : Goes p e below s C S Q T (mkF m pc' Ls (.long v :: rest))) : Goes p e below s C S Q T (mkF m pc Ls rest) := by
  subst hp; subst hv; exact Goes.go (fun _ k => XS.lconst X.here hx rfl hd k) h
theorem own_aconst_null (X : Stand p l e R s m args below meth c T locs cells slots) (hx : p.tables.exec = Jvm.exec) (pc' : Nat) (hp : pc + 1 = pc')  (hd : decode c.code pc = .ok (.aconst_null, 1))  (h : Goes p e below s C S Q T (mkF m pc' Ls (.null :: rest))) : Goes p e below s C S Q T (mkF m pc Ls rest) := by
  subst hp; exact Goes.go (fun _ k => XS.aconstNull X.here hx rfl hd k) h
theorem own_dup (X : Stand p l e R s m args below meth c T locs cells slots) (hx : p.tables.exec = Jvm.exec) (pc' : Nat) (hp : pc + 1 = pc') {v : Value} (hd : decode c.code pc = .ok (.dup, 1)) (hc : v.category = 1) (h : Goes p e below s C S Q T (mkF m pc' Ls (v :: v :: rest))) : Goes p e below s C S Q T (mkF m pc Ls (v :: rest)) := by
  subst hp; exact Goes.go (fun _ k => XS.dup X.here hx rfl hd rfl hc k) h
theorem own_pop (X : Stand p l e R s m args below meth c T locs cells slots) (hx : p.tables.exec = Jvm.exec) (pc' : Nat) (hp : pc + 1 = pc') {v : Value} (hd : decode c.code pc = .ok (.pop, 1)) (hc : v.category = 1) (h : Goes p e below s C S Q T (mkF m pc' Ls rest)) : Goes p e below s C S Q T (mkF m pc Ls (v :: rest)) := by
  subst hp; exact Goes.go (fun _ k => XS.pop X.here hx rfl hd rfl hc k) h
theorem own_dup_x1 (X : Stand p l e R s m args below meth c T locs cells slots) (hx : p.tables.exec = Jvm.exec) (pc' : Nat) (hp : pc + 1 = pc') {v w : Value} (hd : decode c.code pc = .ok (.dup_x1, 1)) (hc : v.category = 1) (hc' : w.category = 1) (h : Goes p e below s C S Q T (mkF m pc' Ls (v :: w :: v :: rest))) : Goes p e below s C S Q T (mkF m pc Ls (v :: w :: rest)) := by
  subst hp; exact Goes.go (fun _ k => XS.dupX1 X.here hx rfl hd rfl hc hc' k) h
theorem own_dup2L (X : Stand p l e R s m args below meth c T locs cells slots) (hx : p.tables.exec = Jvm.exec) (pc' : Nat) (hp : pc + 1 = pc') {v : Int64} (hd : decode c.code pc = .ok (.dup2, 1))  (h : Goes p e below s C S Q T (mkF m pc' Ls (.long v :: .long v :: rest))) : Goes p e below s C S Q T (mkF m pc Ls (.long v :: rest)) := by
  subst hp; exact Goes.go (fun _ k => Jvm.Free.XT.dup2L X.here hx rfl hd rfl k) h
theorem own_dup2 (X : Stand p l e R s m args below meth c T locs cells slots) (hx : p.tables.exec = Jvm.exec) (pc' : Nat) (hp : pc + 1 = pc') {v w : Value} (hd : decode c.code pc = .ok (.dup2, 1)) (hc : v.category = 1) (hc' : w.category = 1) (h : Goes p e below s C S Q T (mkF m pc' Ls (v :: w :: v :: w :: rest))) : Goes p e below s C S Q T (mkF m pc Ls (v :: w :: rest)) := by
  subst hp; exact Goes.go (fun _ k => Jvm.Free.XT.dup2 X.here hx rfl hd rfl hc hc' k) h
theorem own_iinc (X : Stand p l e R s m args below meth c T locs cells slots) (hx : p.tables.exec = Jvm.exec) (pc' : Nat) (hp : pc + 3 = pc') {k : Nat} {cst : Int} {x z : Int32} (Ls' : Array Slot) (hd : decode c.code pc = .ok (.iinc k cst, 3)) (hl : Ls[k]? = some (.val (.int x))) (hz : x + Int32.ofInt cst = z) (hl' : storeLocals Ls k (.int z) = some Ls') (h : Goes p e below s C S Q T (mkF m pc' Ls' rest)) : Goes p e below s C S Q T (mkF m pc Ls rest) := by
  subst hp; subst hz; exact Goes.go (fun _ k => XS.iinc X.here hx rfl hd hl hl' k) h
theorem own_goto (X : Stand p l e R s m args below meth c T locs cells slots) (hx : p.tables.exec = Jvm.exec) (pc' : Nat) {o : Int} (hd : decode c.code pc = .ok (.goto o, 3)) (ho : 0 ≤ (pc : Int) + o) (hp : ((pc : Int) + o).toNat = pc') (h : Goes p e below s C S Q T (mkF m pc' Ls rest)) : Goes p e below s C S Q T (mkF m pc Ls rest) :=
  Goes.go (fun _ k => XS.goto X.here hx rfl rfl hd ho hp k) h
theorem own_ifY (X : Stand p l e R s m args below meth c T locs cells slots) (hx : p.tables.exec = Jvm.exec) (pc' : Nat) {o : Int} {cd : ClassFile.Cond} {x : Int32} (hd : decode c.code pc = .ok (.ifCond cd o, 3)) (hc : ifCond.holds cd x = true) (ho : 0 ≤ (pc : Int) + o) (hp : ((pc : Int) + o).toNat = pc') (h : Goes p e below s C S Q T (mkF m pc' Ls rest)) : Goes p e below s C S Q T (mkF m pc Ls (.int x :: rest)) :=
  Goes.go (fun _ k => XS.ifYes X.here hx rfl rfl hd rfl hc ho hp k) h
theorem own_ifN (X : Stand p l e R s m args below meth c T locs cells slots) (hx : p.tables.exec = Jvm.exec) (pc' : Nat) {o : Int} {cd : ClassFile.Cond} {x : Int32} (hd : decode c.code pc = .ok (.ifCond cd o, 3)) (hc : ifCond.holds cd x = false) (hp : pc + 3 = pc') (h : Goes p e below s C S Q T (mkF m pc' Ls rest)) : Goes p e below s C S Q T (mkF m pc Ls (.int x :: rest)) := by
  subst hp; exact Goes.go (fun _ k => XS.ifNo X.here hx rfl hd rfl hc k) h
theorem own_icmpY (X : Stand p l e R s m args below meth c T locs cells slots) (hx : p.tables.exec = Jvm.exec) (pc' : Nat) {o : Int} {cd : ClassFile.Cond} {x y : Int32} (hd : decode c.code pc = .ok (.if_icmp cd o, 3)) (hc : if_icmp.holds cd x y = true) (ho : 0 ≤ (pc : Int) + o) (hp : ((pc : Int) + o).toNat = pc') (h : Goes p e below s C S Q T (mkF m pc' Ls rest)) : Goes p e below s C S Q T (mkF m pc Ls (.int y :: .int x :: rest)) :=
  Goes.go (fun _ k => XS.icmpYes X.here hx rfl rfl hd rfl hc ho hp k) h
theorem own_icmpN (X : Stand p l e R s m args below meth c T locs cells slots) (hx : p.tables.exec = Jvm.exec) (pc' : Nat) {o : Int} {cd : ClassFile.Cond} {x y : Int32} (hd : decode c.code pc = .ok (.if_icmp cd o, 3)) (hc : if_icmp.holds cd x y = false) (hp : pc + 3 = pc') (h : Goes p e below s C S Q T (mkF m pc' Ls rest)) : Goes p e below s C S Q T (mkF m pc Ls (.int y :: .int x :: rest)) := by
  subst hp; exact Goes.go (fun _ k => XS.icmpNo X.here hx rfl hd rfl hc k) h
theorem own_acmp (X : Stand p l e R s m args below meth c T locs cells slots) (hx : p.tables.exec = Jvm.exec) (pc' : Nat) {o : Int} {cd : ACond} {x y : Value} {same : Bool} (h1 : x.isRef = true) (h2 : y.isRef = true) (hd : decode c.code pc = .ok (.if_acmp cd o, 3)) (hq : decide (x = y) = same) (ho : 0 ≤ (pc : Int) + o) (hp : pc' = if acV cd same = true then ((pc : Int) + o).toNat else pc + 3) (h : Goes p e below s C S Q T (mkF m pc' Ls rest)) : Goes p e below s C S Q T (mkF m pc Ls (y :: x :: rest)) :=
  Goes.go (fun _ k => Jvm.RoadKit.acmp (g := mkF m pc Ls (y :: x :: rest)) X hx rfl h1 h2 rfl hd rfl hq ho hp k) h
theorem own_ifnullY (X : Stand p l e R s m args below meth c T locs cells slots) (hx : p.tables.exec = Jvm.exec) (pc' : Nat) {o : Int} (hd : decode c.code pc = .ok (.ifnull o, 3)) (ho : 0 ≤ (pc : Int) + o) (hp : ((pc : Int) + o).toNat = pc') (h : Goes p e below s C S Q T (mkF m pc' Ls rest)) : Goes p e below s C S Q T (mkF m pc Ls (.null :: rest)) :=
  Goes.go (fun _ k => XS.ifnullYes X.here hx rfl rfl hd rfl ho hp k) h
theorem own_ifnullN (X : Stand p l e R s m args below meth c T locs cells slots) (hx : p.tables.exec = Jvm.exec) (pc' : Nat) {o : Int} {b : Addr} (hd : decode c.code pc = .ok (.ifnull o, 3)) (hp : pc + 3 = pc') (h : Goes p e below s C S Q T (mkF m pc' Ls rest)) : Goes p e below s C S Q T (mkF m pc Ls (.ref b :: rest)) := by
  subst hp; exact Goes.go (fun _ k => XS.ifnullNo X.here hx rfl hd rfl k) h
theorem own_ifnonnullY (X : Stand p l e R s m args below meth c T locs cells slots) (hx : p.tables.exec = Jvm.exec) (pc' : Nat) {o : Int} {b : Addr} (hd : decode c.code pc = .ok (.ifnonnull o, 3)) (ho : 0 ≤ (pc : Int) + o) (hp : ((pc : Int) + o).toNat = pc') (h : Goes p e below s C S Q T (mkF m pc' Ls rest)) : Goes p e below s C S Q T (mkF m pc Ls (.ref b :: rest)) :=
  Goes.go (fun _ k => XS.ifnonnullYes X.here hx rfl rfl hd rfl ho hp k) h
theorem own_ifnonnullN (X : Stand p l e R s m args below meth c T locs cells slots) (hx : p.tables.exec = Jvm.exec) (pc' : Nat) {o : Int} (hd : decode c.code pc = .ok (.ifnonnull o, 3)) (hp : pc + 3 = pc') (h : Goes p e below s C S Q T (mkF m pc' Ls rest)) : Goes p e below s C S Q T (mkF m pc Ls (.null :: rest)) := by
  subst hp; exact Goes.go (fun _ k => XS.ifnonnullNo X.here hx rfl hd rfl k) h
end Steps1
/-- the branches on a long comparison -/
theorem Ltlt {x y : Int64} (h : x < y) : ifCond.holds .lt (lcmpW x y) = true ∧ ifCond.holds .ge (lcmpW x y) = false ∧ ifCond.holds .gt (lcmpW y x) = true ∧ ifCond.holds .le (lcmpW y x) = false :=
  ⟨(if0 _ _).trans (tlt ((lw_lt x y).mpr h)).1, (if0 _ _).trans (tlt ((lw_lt x y).mpr h)).2.1, (if0 _ _).trans (tlt ((lw_gt y x).mpr h)).2.2.1, (if0 _ _).trans (tlt ((lw_gt y x).mpr h)).2.2.2⟩
theorem Lflt {x y : Int64} (h : ¬ x < y) : ifCond.holds .lt (lcmpW x y) = false ∧ ifCond.holds .ge (lcmpW x y) = true ∧ ifCond.holds .gt (lcmpW y x) = false ∧ ifCond.holds .le (lcmpW y x) = true :=
  ⟨(if0 _ _).trans (flt fun q => h ((lw_lt x y).mp q)).1, (if0 _ _).trans (flt fun q => h ((lw_lt x y).mp q)).2.1, (if0 _ _).trans (flt fun q => h ((lw_gt y x).mp q)).2.2.1, (if0 _ _).trans (flt fun q => h ((lw_gt y x).mp q)).2.2.2⟩
theorem Lteq {x y : Int64} (h : x = y) : ifCond.holds .eq (lcmpW x y) = true ∧ ifCond.holds .ne (lcmpW x y) = false :=
  ⟨(if0 _ _).trans (teq ((lw_eq x y).mpr h)).1, (if0 _ _).trans (teq ((lw_eq x y).mpr h)).2⟩
theorem Lfeq {x y : Int64} (h : ¬ x = y) : ifCond.holds .eq (lcmpW x y) = false ∧ ifCond.holds .ne (lcmpW x y) = true :=
  ⟨(if0 _ _).trans (feq fun q => h ((lw_eq x y).mp q)).1, (if0 _ _).trans (feq fun q => h ((lw_eq x y).mp q)).2⟩
theorem Ztlt {x y : Int32} (h : x < y) : if_icmp.holds .lt x y = true ∧ if_icmp.holds .ge x y = false ∧ if_icmp.holds .gt y x = true ∧ if_icmp.holds .le y x = false := tlt h
/-- the pieces of a memory fact -/
theorem own_lt_ne {a b n : Nat} (h : a < n) (g : b = n) : a ≠ b := by omega
end Own
theorem own_eqv {args : Array Value} {s : State} {t u : Term} {v : Value} (hu : u.eval args s none [] s = some v) (h : (Jvm.Cond.eq t u).value args s none s [] = some true) : t.eval args s none [] s = some v := by
  cases ht : t.eval args s none [] s with
  | none => simp [Cond.value, ht] at h
  | some x =>
    simp only [Cond.value, ht, hu] at h
    cases x <;> cases v <;> simp_all
theorem own_fldv {args : Array Value} {s : State} {t u : Term} {a : Addr} {C n d : String} {v : Value} (ev : t.eval args s none [] s = some (.ref a)) (hu : u.eval args s none [] s = some v) (h : (Jvm.Cond.eq (Term.field t C n d) u).value args s none s [] = some true) : s.fieldOf? a C n d = some v :=
  (fld_at ev).symm.trans (own_eqv hu h)
theorem own_sta_keep {Z : State} {h h' : Heap} {C n d : String} {v : Value} {ws : List Addr} (F : Sta Z h C n d v) (K : Keep h h' ws) (q : ∀ x ∈ ws, ∀ cell : Cell, h[x]? = some cell → cell.vm.isStatics = false) : Sta Z h' C n d v := by
  obtain ⟨cf, i, k, f, st, cell, h1, h2, h3, h4, h5, h6, h7⟩ := F
  refine ⟨cf, i, k, f, st, cell, h1, h2, h3, h4, K.2.1 _ _ h5 (fun hm => ?_), h6, h7⟩
  have q1 := q _ hm cell h5
  rw [h6] at q1; cases q1
theorem own_eplain {Z : State} {h : Heap} {a : Addr} {C : String} (F : Exa Z h a C) : ∀ cell : Cell, h[a]? = some cell → cell.vm.isStatics = false := fun cell hc => by
  obtain ⟨c, k, h1, -, -, h4, -⟩ := F; cases h1.symm.trans hc; exact h4
theorem own_rplain {Z : State} {h : Heap} {a : Addr} {c : Cell} {ty : FieldType} (F : Arr Z h a c ty) : ∀ cell : Cell, h[a]? = some cell → cell.vm.isStatics = false := fun cell hc => by
  cases F.1.symm.trans hc; exact F.plain
theorem own_aplain {Z : State} {h : Heap} {a : Addr} {k : ClassId} {ty : FieldType} {n : Int32} {vs : List Value} {dv : Value} (F : Arv Z h a k ty n vs dv) : ∀ cell : Cell, h[a]? = some cell → cell.vm.isStatics = false := by
  obtain ⟨c, A, -⟩ := F; exact own_rplain A
theorem own_d2_0 : decode prog_15_method_1_code 0 = .ok (.aload_n 0, 1) := by decide +kernel
theorem own_d2_1 : decode prog_15_method_1_code 1 = .ok (.invokespecial 1, 3) := by decide +kernel
theorem own_d2_4 : decode prog_15_method_1_code 4 = .ok (.aload_n 0, 1) := by decide +kernel
theorem own_d2_5 : decode prog_15_method_1_code 5 = .ok (.aload_n 1, 1) := by decide +kernel
theorem own_d2_6 : decode prog_15_method_1_code 6 = .ok (.putfield 7, 3) := by decide +kernel
theorem own_d2_9 : decode prog_15_method_1_code 9 = .ok (.aload_n 0, 1) := by decide +kernel
theorem own_d2_10 : decode prog_15_method_1_code 10 = .ok (.iload_n 2, 1) := by decide +kernel
theorem own_d2_11 : decode prog_15_method_1_code 11 = .ok (.putfield 13, 3) := by decide +kernel
theorem own_d2_14 : decode prog_15_method_1_code 14 = .ok (.aload_n 0, 1) := by decide +kernel
theorem own_d2_15 : decode prog_15_method_1_code 15 = .ok (.lload_n 3, 1) := by decide +kernel
theorem own_d2_16 : decode prog_15_method_1_code 16 = .ok (.putfield 17, 3) := by decide +kernel
theorem own_d2_19 : decode prog_15_method_1_code 19 = .ok (.aload_n 0, 1) := by decide +kernel
theorem own_d2_20 : decode prog_15_method_1_code 20 = .ok (.lload 5, 2) := by decide +kernel
theorem own_d2_22 : decode prog_15_method_1_code 22 = .ok (.putfield 21, 3) := by decide +kernel
theorem own_d2_25 : decode prog_15_method_1_code 25 = .ok (.aload_n 0, 1) := by decide +kernel
theorem own_d2_26 : decode prog_15_method_1_code 26 = .ok (.lload 7, 2) := by decide +kernel
theorem own_d2_28 : decode prog_15_method_1_code 28 = .ok (.putfield 24, 3) := by decide +kernel
theorem own_d2_31 : decode prog_15_method_1_code 31 = .ok (.aload_n 0, 1) := by decide +kernel
theorem own_d2_32 : decode prog_15_method_1_code 32 = .ok (.iload 9, 2) := by decide +kernel
theorem own_d2_34 : decode prog_15_method_1_code 34 = .ok (.putfield 27, 3) := by decide +kernel
theorem own_d2_37 : decode prog_15_method_1_code 37 = .ok (.aload_n 0, 1) := by decide +kernel
theorem own_d2_38 : decode prog_15_method_1_code 38 = .ok (.aload 10, 2) := by decide +kernel
theorem own_d2_40 : decode prog_15_method_1_code 40 = .ok (.putfield 31, 3) := by decide +kernel
theorem own_d2_43 : decode prog_15_method_1_code 43 = .ok (.aload_n 0, 1) := by decide +kernel
theorem own_d2_44 : decode prog_15_method_1_code 44 = .ok (.aload 11, 2) := by decide +kernel
theorem own_d2_46 : decode prog_15_method_1_code 46 = .ok (.putfield 35, 3) := by decide +kernel
theorem own_d2_49 : decode prog_15_method_1_code 49 = .ok (.return_, 1) := by decide +kernel
theorem own_pn_com_example_narrow_gate_narrowgate_model_Standing : plainName "com/example/narrow_gate/narrowgate/model/Standing" = true := by first | (simp [plainName, overriddenIn]; done) | decide +kernel
def Q2 (Z : State) (st : Addr) (kz : Addr) (h0 : Heap) (n0 : Nat) (v : Option Value) (h : Heap) (L : List Loc) : Prop := v = none ∧ Fr n0 L ∧ Keep h0 h [st] ∧ Fld Z h st "com/example/narrow_gate/narrowgate/model/Standing" "kind" "Lcom/example/narrow_gate/narrowgate/model/Standing$Kind;" (.ref kz) ∧ Fld Z h st "com/example/narrow_gate/narrowgate/model/Standing" "inRoom" "Z" (.int (0 : Int32))
set_option maxRecDepth 65536 in
set_option maxHeartbeats 40000000 in
theorem rm2 (l : Launch) (Z : State) (a0 : Array Value) (hw : ∀ d ∈ tables_1, d.before a0 Z = true) (ws : List Jvm.Cond) (st : Addr) (kz : Addr) (h0 : Heap) (n0 : Nat) (Z0 : n0 ≤ h0.size) (ES : Exa Z h0 st "com/example/narrow_gate/narrowgate/model/Standing") (gs : n0 ≤ st) (Fkind : Fld Z h0 st "com/example/narrow_gate/narrowgate/model/Standing" "kind" "Lcom/example/narrow_gate/narrowgate/model/Standing$Kind;" .null) (FinRoom : Fld Z h0 st "com/example/narrow_gate/narrowgate/model/Standing" "inRoom" "Z" (.int (0 : Int32))) (Fposition : Fld Z h0 st "com/example/narrow_gate/narrowgate/model/Standing" "position" "J" (.long (0 : Int64))) (FqueueSize : Fld Z h0 st "com/example/narrow_gate/narrowgate/model/Standing" "queueSize" "J" (.long (0 : Int64))) (FcurrentUsers : Fld Z h0 st "com/example/narrow_gate/narrowgate/model/Standing" "currentUsers" "J" (.long (0 : Int64))) (Fthreshold : Fld Z h0 st "com/example/narrow_gate/narrowgate/model/Standing" "threshold" "I" (.int (0 : Int32))) (Fpace : Fld Z h0 st "com/example/narrow_gate/narrowgate/model/Standing" "pace" "Lcom/example/narrow_gate/narrowgate/model/Pace;" .null) (FentryToken : Fld Z h0 st "com/example/narrow_gate/narrowgate/model/Standing" "entryToken" "Ljava/lang/String;" .null) :
    MetFree l (⟨"com/example/narrow_gate/narrowgate/model/Standing", "<init>", "(Lcom/example/narrow_gate/narrowgate/model/Standing$Kind;ZJJJILcom/example/narrow_gate/narrowgate/model/Pace;Ljava/lang/String;)V"⟩ : MethodName) (head1 (Jvm.Cond.code (⟨"com/example/narrow_gate/narrowgate/model/Standing", "<init>", "(Lcom/example/narrow_gate/narrowgate/model/Standing$Kind;ZJJJILcom/example/narrow_gate/narrowgate/model/Pace;Ljava/lang/String;)V"⟩ : MethodName) prog_15_method_1_code 12 none :: ws) ({ frames := 1, cells := 0, slots := 0, locals := 12 } : Room)) (fun a U => a = #[(.ref st), (.ref kz), (.int (0 : Int32)), (.long (0 : Int64)), (.long (0 : Int64)), (.long (0 : Int64)), (.int (0 : Int32)), .null, .null] ∧ Z.Warmed39 U.vm ∧ U.heap = h0) (fun _ _ _ _ _ => True) (fun _ U o U' => ∃ v L, o = .returned v ∧ Q2 Z st kz h0 n0 v U'.heap L ∧ FrameEnd U o U' L ({ frames := 1, cells := 0, slots := 0, locals := 12 } : Room).cells ({ frames := 1, cells := 0, slots := 0, locals := 12 } : Room).slots) := by
  refine MetFree.of_bodySF (plainFor_of_name own_pn_com_example_narrow_gate_narrowgate_model_Standing) hisR ?_
  intro p e s m args below meth c s₁ Bd hml0 hP hK
  obtain ⟨rfl, hZ, hh⟩ := hP
  have hx := Bd.exec
  have hby := Bd.bytes
  have hml : c.maxLocals = 12 := hml0
  have hlk := Bd.notSynchronized
  have hown : s.vm.findClass "com/example/narrow_gate/narrowgate/model/Standing" = some m.cls := findClass_of_methodNamed Bd.named
  have hnm := (name_of_methodNamed Bd.named Bd.method).1
  have X0 : Stand p l e ({ frames := 1, cells := 0, slots := 0, locals := 12 } : Room) s m #[(.ref st), (.ref kz), (.int (0 : Int32)), (.long (0 : Int64)), (.long (0 : Int64)), (.long (0 : Int64)), (.int (0 : Int32)), .null, .null] below meth c s₁ [] 0 0 := Stand.of_body Bd
  have e0 : s₁.heap = h0 := by rw [← hh, Bd.state]; rfl
  have N0 := Fr.nil n0
  have K0 : Keep h0 h0 [st] := Keep.refl _ _
  refine own_enter (Q := Q2 Z st kz h0 n0) (Ls := #[.val (.ref st), .val (.ref kz), .val (.int (0 : Int32)), .val (.long (0 : Int64)), .second, .val (.long (0 : Int64)), .second, .val (.long (0 : Int64)), .second, .val (.int (0 : Int32)), .val .null, .val .null]) (by first | (simp [entryFrame, mkF, argsToLocals, Value.category]; done) | rfl) ?_
  refine own_aloadN X0 hx 1 rfl (hb hby own_d2_0) rfl rfl ?_
  obtain ⟨T1, X1, e1, st1⟩ := initO X0 hx hZ hown (hw _ (List.mem_of_getElem? (i := 12) rfl)) (hw _ (List.mem_of_getElem? (i := 13) rfl)) (hw _ (List.mem_of_getElem? (i := 14) rfl)) e0 (g := (mkF m 1 #[.val (.ref st), .val (.ref kz), .val (.int (0 : Int32)), .val (.long (0 : Int64)), .second, .val (.long (0 : Int64)), .second, .val (.long (0 : Int64)), .second, .val (.int (0 : Int32)), .val .null, .val .null] [(.ref st)])) rfl (by rw [hml]; rfl) rfl (hb hby own_d2_1) (by decide) (W := 0) (by show 2 * 0 + _ ≤ _; exact Nat.le_of_eq rfl) (by decide)
  refine Goes.go st1 ?_
  show Goes p e below s _ _ _ T1 (mkF m 4 #[.val (.ref st), .val (.ref kz), .val (.int (0 : Int32)), .val (.long (0 : Int64)), .second, .val (.long (0 : Int64)), .second, .val (.long (0 : Int64)), .second, .val (.int (0 : Int32)), .val .null, .val .null] [])
  refine own_aloadN X1 hx 5 rfl (hb hby own_d2_4) rfl rfl ?_
  refine own_aloadN X1 hx 6 rfl (hb hby own_d2_5) rfl rfl ?_
  obtain ⟨T2, h2, X2, e2, W2, st2⟩ := putF X1 hx hZ hown (host := "") (Or.inl (hw _ (List.mem_of_getElem? (i := 15) rfl))) Via.refl e1 Fkind ES (Or.inr ⟨(hw _ (List.mem_of_getElem? (i := 16) rfl)), rfl, hnm⟩) (hw _ (List.mem_of_getElem? (i := 5) rfl)) (ty := (.object "com/example/narrow_gate/narrowgate/model/Standing$Kind")) (by decide) rfl rfl (g := (mkF m 6 #[.val (.ref st), .val (.ref kz), .val (.int (0 : Int32)), .val (.long (0 : Int64)), .second, .val (.long (0 : Int64)), .second, .val (.long (0 : Int64)), .second, .val (.int (0 : Int32)), .val .null, .val .null] [(.ref kz), (.ref st)])) rfl rfl (hb hby own_d2_6)
  have N2 := Fr.snoc X2 N0 gs
  have f3 := ES.wr W2
  have f4 := Fkind.same W2
  have f5 := FinRoom.other W2 (Or.inr (slot_ne (Or.inr (hw _ (List.mem_of_getElem? (i := 18) rfl))) (Or.inr (hw _ (List.mem_of_getElem? (i := 16) rfl))) (by decide) (t := .boolean) (t' := (.object "com/example/narrow_gate/narrowgate/model/Standing$Kind")) (by decide) (by decide)))
  have f6 := Fposition.other W2 (Or.inr (slot_ne (Or.inr (hw _ (List.mem_of_getElem? (i := 20) rfl))) (Or.inr (hw _ (List.mem_of_getElem? (i := 16) rfl))) (by decide) (t := .long) (t' := (.object "com/example/narrow_gate/narrowgate/model/Standing$Kind")) (by decide) (by decide)))
  have f7 := FqueueSize.other W2 (Or.inr (slot_ne (Or.inr (hw _ (List.mem_of_getElem? (i := 22) rfl))) (Or.inr (hw _ (List.mem_of_getElem? (i := 16) rfl))) (by decide) (t := .long) (t' := (.object "com/example/narrow_gate/narrowgate/model/Standing$Kind")) (by decide) (by decide)))
  have f8 := FcurrentUsers.other W2 (Or.inr (slot_ne (Or.inr (hw _ (List.mem_of_getElem? (i := 24) rfl))) (Or.inr (hw _ (List.mem_of_getElem? (i := 16) rfl))) (by decide) (t := .long) (t' := (.object "com/example/narrow_gate/narrowgate/model/Standing$Kind")) (by decide) (by decide)))
  have f9 := Fthreshold.other W2 (Or.inr (slot_ne (Or.inr (hw _ (List.mem_of_getElem? (i := 26) rfl))) (Or.inr (hw _ (List.mem_of_getElem? (i := 16) rfl))) (by decide) (t := .int) (t' := (.object "com/example/narrow_gate/narrowgate/model/Standing$Kind")) (by decide) (by decide)))
  have f10 := Fpace.other W2 (Or.inr (slot_ne (Or.inr (hw _ (List.mem_of_getElem? (i := 28) rfl))) (Or.inr (hw _ (List.mem_of_getElem? (i := 16) rfl))) (by decide) (t := (.object "com/example/narrow_gate/narrowgate/model/Pace")) (t' := (.object "com/example/narrow_gate/narrowgate/model/Standing$Kind")) (by decide) (by decide)))
  have f11 := FentryToken.other W2 (Or.inr (slot_ne (Or.inr (hw _ (List.mem_of_getElem? (i := 30) rfl))) (Or.inr (hw _ (List.mem_of_getElem? (i := 16) rfl))) (by decide) (t := (.object "java/lang/String")) (t' := (.object "com/example/narrow_gate/narrowgate/model/Standing$Kind")) (by decide) (by decide)))
  have K2 := K0.wr W2 (Or.inl (List.mem_of_getElem? (i := 0) rfl))
  have Z2 := Nat.le_trans Z0 (Nat.le_of_eq W2.size.symm)
  refine Goes.go st2 ?_
  show Goes p e below s _ _ _ T2 (mkF m 9 #[.val (.ref st), .val (.ref kz), .val (.int (0 : Int32)), .val (.long (0 : Int64)), .second, .val (.long (0 : Int64)), .second, .val (.long (0 : Int64)), .second, .val (.int (0 : Int32)), .val .null, .val .null] [])
  refine own_aloadN X2 hx 10 rfl (hb hby own_d2_9) rfl rfl ?_
  refine own_iloadN X2 hx 11 rfl (hb hby own_d2_10) rfl ?_
  obtain ⟨T12, h12, X12, e12, W12, st12⟩ := putFN X2 hx hZ hown (hw _ (List.mem_of_getElem? (i := 17) rfl)) Via.refl e2 f5 f3 (Or.inr ⟨(hw _ (List.mem_of_getElem? (i := 18) rfl)), rfl, hnm⟩) (hw _ (List.mem_of_getElem? (i := 5) rfl)) (ty := .boolean) (v' := (.int (0 : Int32))) (by decide) rfl (by decide) (g := (mkF m 11 #[.val (.ref st), .val (.ref kz), .val (.int (0 : Int32)), .val (.long (0 : Int64)), .second, .val (.long (0 : Int64)), .second, .val (.long (0 : Int64)), .second, .val (.int (0 : Int32)), .val .null, .val .null] [(.int (0 : Int32)), (.ref st)])) rfl rfl (hb hby own_d2_11)
  have N12 := Fr.snoc X12 N2 gs
  have f13 := f3.wr W12
  have f14 := f4.other W12 (Or.inr (slot_ne (Or.inr (hw _ (List.mem_of_getElem? (i := 16) rfl))) (Or.inr (hw _ (List.mem_of_getElem? (i := 18) rfl))) (by decide) (t := (.object "com/example/narrow_gate/narrowgate/model/Standing$Kind")) (t' := .boolean) (by decide) (by decide)))
  have f15 := f5.same W12
  have f16 := f6.other W12 (Or.inr (slot_ne (Or.inr (hw _ (List.mem_of_getElem? (i := 20) rfl))) (Or.inr (hw _ (List.mem_of_getElem? (i := 18) rfl))) (by decide) (t := .long) (t' := .boolean) (by decide) (by decide)))
  have f17 := f7.other W12 (Or.inr (slot_ne (Or.inr (hw _ (List.mem_of_getElem? (i := 22) rfl))) (Or.inr (hw _ (List.mem_of_getElem? (i := 18) rfl))) (by decide) (t := .long) (t' := .boolean) (by decide) (by decide)))
  have f18 := f8.other W12 (Or.inr (slot_ne (Or.inr (hw _ (List.mem_of_getElem? (i := 24) rfl))) (Or.inr (hw _ (List.mem_of_getElem? (i := 18) rfl))) (by decide) (t := .long) (t' := .boolean) (by decide) (by decide)))
  have f19 := f9.other W12 (Or.inr (slot_ne (Or.inr (hw _ (List.mem_of_getElem? (i := 26) rfl))) (Or.inr (hw _ (List.mem_of_getElem? (i := 18) rfl))) (by decide) (t := .int) (t' := .boolean) (by decide) (by decide)))
  have f20 := f10.other W12 (Or.inr (slot_ne (Or.inr (hw _ (List.mem_of_getElem? (i := 28) rfl))) (Or.inr (hw _ (List.mem_of_getElem? (i := 18) rfl))) (by decide) (t := (.object "com/example/narrow_gate/narrowgate/model/Pace")) (t' := .boolean) (by decide) (by decide)))
  have f21 := f11.other W12 (Or.inr (slot_ne (Or.inr (hw _ (List.mem_of_getElem? (i := 30) rfl))) (Or.inr (hw _ (List.mem_of_getElem? (i := 18) rfl))) (by decide) (t := (.object "java/lang/String")) (t' := .boolean) (by decide) (by decide)))
  have K12 := K2.wr W12 (Or.inl (List.mem_of_getElem? (i := 0) rfl))
  have Z12 := Nat.le_trans Z2 (Nat.le_of_eq W12.size.symm)
  refine Goes.go st12 ?_
  show Goes p e below s _ _ _ T12 (mkF m 14 #[.val (.ref st), .val (.ref kz), .val (.int (0 : Int32)), .val (.long (0 : Int64)), .second, .val (.long (0 : Int64)), .second, .val (.long (0 : Int64)), .second, .val (.int (0 : Int32)), .val .null, .val .null] [])
  refine own_aloadN X12 hx 15 rfl (hb hby own_d2_14) rfl rfl ?_
  refine own_lloadN X12 hx 16 rfl (hb hby own_d2_15) rfl ?_
  obtain ⟨T22, h22, X22, e22, W22, st22⟩ := putF X12 hx hZ hown (host := "") (Or.inl (hw _ (List.mem_of_getElem? (i := 19) rfl))) Via.refl e12 f16 f13 (Or.inr ⟨(hw _ (List.mem_of_getElem? (i := 20) rfl)), rfl, hnm⟩) (hw _ (List.mem_of_getElem? (i := 5) rfl)) (ty := .long) (by decide) rfl rfl (g := (mkF m 16 #[.val (.ref st), .val (.ref kz), .val (.int (0 : Int32)), .val (.long (0 : Int64)), .second, .val (.long (0 : Int64)), .second, .val (.long (0 : Int64)), .second, .val (.int (0 : Int32)), .val .null, .val .null] [(.long (0 : Int64)), (.ref st)])) rfl rfl (hb hby own_d2_16)
  have N22 := Fr.snoc X22 N12 gs
  have f23 := f13.wr W22
  have f24 := f14.other W22 (Or.inr (slot_ne (Or.inr (hw _ (List.mem_of_getElem? (i := 16) rfl))) (Or.inr (hw _ (List.mem_of_getElem? (i := 20) rfl))) (by decide) (t := (.object "com/example/narrow_gate/narrowgate/model/Standing$Kind")) (t' := .long) (by decide) (by decide)))
  have f25 := f15.other W22 (Or.inr (slot_ne (Or.inr (hw _ (List.mem_of_getElem? (i := 18) rfl))) (Or.inr (hw _ (List.mem_of_getElem? (i := 20) rfl))) (by decide) (t := .boolean) (t' := .long) (by decide) (by decide)))
  have f26 := f16.same W22
  have f27 := f17.other W22 (Or.inr (slot_ne (Or.inr (hw _ (List.mem_of_getElem? (i := 22) rfl))) (Or.inr (hw _ (List.mem_of_getElem? (i := 20) rfl))) (by decide) (t := .long) (t' := .long) (by decide) (by decide)))
  have f28 := f18.other W22 (Or.inr (slot_ne (Or.inr (hw _ (List.mem_of_getElem? (i := 24) rfl))) (Or.inr (hw _ (List.mem_of_getElem? (i := 20) rfl))) (by decide) (t := .long) (t' := .long) (by decide) (by decide)))
  have f29 := f19.other W22 (Or.inr (slot_ne (Or.inr (hw _ (List.mem_of_getElem? (i := 26) rfl))) (Or.inr (hw _ (List.mem_of_getElem? (i := 20) rfl))) (by decide) (t := .int) (t' := .long) (by decide) (by decide)))
  have f30 := f20.other W22 (Or.inr (slot_ne (Or.inr (hw _ (List.mem_of_getElem? (i := 28) rfl))) (Or.inr (hw _ (List.mem_of_getElem? (i := 20) rfl))) (by decide) (t := (.object "com/example/narrow_gate/narrowgate/model/Pace")) (t' := .long) (by decide) (by decide)))
  have f31 := f21.other W22 (Or.inr (slot_ne (Or.inr (hw _ (List.mem_of_getElem? (i := 30) rfl))) (Or.inr (hw _ (List.mem_of_getElem? (i := 20) rfl))) (by decide) (t := (.object "java/lang/String")) (t' := .long) (by decide) (by decide)))
  have K22 := K12.wr W22 (Or.inl (List.mem_of_getElem? (i := 0) rfl))
  have Z22 := Nat.le_trans Z12 (Nat.le_of_eq W22.size.symm)
  refine Goes.go st22 ?_
  show Goes p e below s _ _ _ T22 (mkF m 19 #[.val (.ref st), .val (.ref kz), .val (.int (0 : Int32)), .val (.long (0 : Int64)), .second, .val (.long (0 : Int64)), .second, .val (.long (0 : Int64)), .second, .val (.int (0 : Int32)), .val .null, .val .null] [])
  refine own_aloadN X22 hx 20 rfl (hb hby own_d2_19) rfl rfl ?_
  refine own_lload X22 hx 22 rfl (hb hby own_d2_20) rfl ?_
  obtain ⟨T32, h32, X32, e32, W32, st32⟩ := putF X22 hx hZ hown (host := "") (Or.inl (hw _ (List.mem_of_getElem? (i := 21) rfl))) Via.refl e22 f27 f23 (Or.inr ⟨(hw _ (List.mem_of_getElem? (i := 22) rfl)), rfl, hnm⟩) (hw _ (List.mem_of_getElem? (i := 5) rfl)) (ty := .long) (by decide) rfl rfl (g := (mkF m 22 #[.val (.ref st), .val (.ref kz), .val (.int (0 : Int32)), .val (.long (0 : Int64)), .second, .val (.long (0 : Int64)), .second, .val (.long (0 : Int64)), .second, .val (.int (0 : Int32)), .val .null, .val .null] [(.long (0 : Int64)), (.ref st)])) rfl rfl (hb hby own_d2_22)
  have N32 := Fr.snoc X32 N22 gs
  have f33 := f23.wr W32
  have f34 := f24.other W32 (Or.inr (slot_ne (Or.inr (hw _ (List.mem_of_getElem? (i := 16) rfl))) (Or.inr (hw _ (List.mem_of_getElem? (i := 22) rfl))) (by decide) (t := (.object "com/example/narrow_gate/narrowgate/model/Standing$Kind")) (t' := .long) (by decide) (by decide)))
  have f35 := f25.other W32 (Or.inr (slot_ne (Or.inr (hw _ (List.mem_of_getElem? (i := 18) rfl))) (Or.inr (hw _ (List.mem_of_getElem? (i := 22) rfl))) (by decide) (t := .boolean) (t' := .long) (by decide) (by decide)))
  have f36 := f26.other W32 (Or.inr (slot_ne (Or.inr (hw _ (List.mem_of_getElem? (i := 20) rfl))) (Or.inr (hw _ (List.mem_of_getElem? (i := 22) rfl))) (by decide) (t := .long) (t' := .long) (by decide) (by decide)))
  have f37 := f27.same W32
  have f38 := f28.other W32 (Or.inr (slot_ne (Or.inr (hw _ (List.mem_of_getElem? (i := 24) rfl))) (Or.inr (hw _ (List.mem_of_getElem? (i := 22) rfl))) (by decide) (t := .long) (t' := .long) (by decide) (by decide)))
  have f39 := f29.other W32 (Or.inr (slot_ne (Or.inr (hw _ (List.mem_of_getElem? (i := 26) rfl))) (Or.inr (hw _ (List.mem_of_getElem? (i := 22) rfl))) (by decide) (t := .int) (t' := .long) (by decide) (by decide)))
  have f40 := f30.other W32 (Or.inr (slot_ne (Or.inr (hw _ (List.mem_of_getElem? (i := 28) rfl))) (Or.inr (hw _ (List.mem_of_getElem? (i := 22) rfl))) (by decide) (t := (.object "com/example/narrow_gate/narrowgate/model/Pace")) (t' := .long) (by decide) (by decide)))
  have f41 := f31.other W32 (Or.inr (slot_ne (Or.inr (hw _ (List.mem_of_getElem? (i := 30) rfl))) (Or.inr (hw _ (List.mem_of_getElem? (i := 22) rfl))) (by decide) (t := (.object "java/lang/String")) (t' := .long) (by decide) (by decide)))
  have K32 := K22.wr W32 (Or.inl (List.mem_of_getElem? (i := 0) rfl))
  have Z32 := Nat.le_trans Z22 (Nat.le_of_eq W32.size.symm)
  refine Goes.go st32 ?_
  show Goes p e below s _ _ _ T32 (mkF m 25 #[.val (.ref st), .val (.ref kz), .val (.int (0 : Int32)), .val (.long (0 : Int64)), .second, .val (.long (0 : Int64)), .second, .val (.long (0 : Int64)), .second, .val (.int (0 : Int32)), .val .null, .val .null] [])
  refine own_aloadN X32 hx 26 rfl (hb hby own_d2_25) rfl rfl ?_
  refine own_lload X32 hx 28 rfl (hb hby own_d2_26) rfl ?_
  obtain ⟨T42, h42, X42, e42, W42, st42⟩ := putF X32 hx hZ hown (host := "") (Or.inl (hw _ (List.mem_of_getElem? (i := 23) rfl))) Via.refl e32 f38 f33 (Or.inr ⟨(hw _ (List.mem_of_getElem? (i := 24) rfl)), rfl, hnm⟩) (hw _ (List.mem_of_getElem? (i := 5) rfl)) (ty := .long) (by decide) rfl rfl (g := (mkF m 28 #[.val (.ref st), .val (.ref kz), .val (.int (0 : Int32)), .val (.long (0 : Int64)), .second, .val (.long (0 : Int64)), .second, .val (.long (0 : Int64)), .second, .val (.int (0 : Int32)), .val .null, .val .null] [(.long (0 : Int64)), (.ref st)])) rfl rfl (hb hby own_d2_28)
  have N42 := Fr.snoc X42 N32 gs
  have f43 := f33.wr W42
  have f44 := f34.other W42 (Or.inr (slot_ne (Or.inr (hw _ (List.mem_of_getElem? (i := 16) rfl))) (Or.inr (hw _ (List.mem_of_getElem? (i := 24) rfl))) (by decide) (t := (.object "com/example/narrow_gate/narrowgate/model/Standing$Kind")) (t' := .long) (by decide) (by decide)))
  have f45 := f35.other W42 (Or.inr (slot_ne (Or.inr (hw _ (List.mem_of_getElem? (i := 18) rfl))) (Or.inr (hw _ (List.mem_of_getElem? (i := 24) rfl))) (by decide) (t := .boolean) (t' := .long) (by decide) (by decide)))
  have f46 := f36.other W42 (Or.inr (slot_ne (Or.inr (hw _ (List.mem_of_getElem? (i := 20) rfl))) (Or.inr (hw _ (List.mem_of_getElem? (i := 24) rfl))) (by decide) (t := .long) (t' := .long) (by decide) (by decide)))
  have f47 := f37.other W42 (Or.inr (slot_ne (Or.inr (hw _ (List.mem_of_getElem? (i := 22) rfl))) (Or.inr (hw _ (List.mem_of_getElem? (i := 24) rfl))) (by decide) (t := .long) (t' := .long) (by decide) (by decide)))
  have f48 := f38.same W42
  have f49 := f39.other W42 (Or.inr (slot_ne (Or.inr (hw _ (List.mem_of_getElem? (i := 26) rfl))) (Or.inr (hw _ (List.mem_of_getElem? (i := 24) rfl))) (by decide) (t := .int) (t' := .long) (by decide) (by decide)))
  have f50 := f40.other W42 (Or.inr (slot_ne (Or.inr (hw _ (List.mem_of_getElem? (i := 28) rfl))) (Or.inr (hw _ (List.mem_of_getElem? (i := 24) rfl))) (by decide) (t := (.object "com/example/narrow_gate/narrowgate/model/Pace")) (t' := .long) (by decide) (by decide)))
  have f51 := f41.other W42 (Or.inr (slot_ne (Or.inr (hw _ (List.mem_of_getElem? (i := 30) rfl))) (Or.inr (hw _ (List.mem_of_getElem? (i := 24) rfl))) (by decide) (t := (.object "java/lang/String")) (t' := .long) (by decide) (by decide)))
  have K42 := K32.wr W42 (Or.inl (List.mem_of_getElem? (i := 0) rfl))
  have Z42 := Nat.le_trans Z32 (Nat.le_of_eq W42.size.symm)
  refine Goes.go st42 ?_
  show Goes p e below s _ _ _ T42 (mkF m 31 #[.val (.ref st), .val (.ref kz), .val (.int (0 : Int32)), .val (.long (0 : Int64)), .second, .val (.long (0 : Int64)), .second, .val (.long (0 : Int64)), .second, .val (.int (0 : Int32)), .val .null, .val .null] [])
  refine own_aloadN X42 hx 32 rfl (hb hby own_d2_31) rfl rfl ?_
  refine own_iload X42 hx 34 rfl (hb hby own_d2_32) rfl ?_
  obtain ⟨T52, h52, X52, e52, W52, st52⟩ := putF X42 hx hZ hown (host := "") (Or.inl (hw _ (List.mem_of_getElem? (i := 25) rfl))) Via.refl e42 f49 f43 (Or.inr ⟨(hw _ (List.mem_of_getElem? (i := 26) rfl)), rfl, hnm⟩) (hw _ (List.mem_of_getElem? (i := 5) rfl)) (ty := .int) (by decide) rfl rfl (g := (mkF m 34 #[.val (.ref st), .val (.ref kz), .val (.int (0 : Int32)), .val (.long (0 : Int64)), .second, .val (.long (0 : Int64)), .second, .val (.long (0 : Int64)), .second, .val (.int (0 : Int32)), .val .null, .val .null] [(.int (0 : Int32)), (.ref st)])) rfl rfl (hb hby own_d2_34)
  have N52 := Fr.snoc X52 N42 gs
  have f53 := f43.wr W52
  have f54 := f44.other W52 (Or.inr (slot_ne (Or.inr (hw _ (List.mem_of_getElem? (i := 16) rfl))) (Or.inr (hw _ (List.mem_of_getElem? (i := 26) rfl))) (by decide) (t := (.object "com/example/narrow_gate/narrowgate/model/Standing$Kind")) (t' := .int) (by decide) (by decide)))
  have f55 := f45.other W52 (Or.inr (slot_ne (Or.inr (hw _ (List.mem_of_getElem? (i := 18) rfl))) (Or.inr (hw _ (List.mem_of_getElem? (i := 26) rfl))) (by decide) (t := .boolean) (t' := .int) (by decide) (by decide)))
  have f56 := f46.other W52 (Or.inr (slot_ne (Or.inr (hw _ (List.mem_of_getElem? (i := 20) rfl))) (Or.inr (hw _ (List.mem_of_getElem? (i := 26) rfl))) (by decide) (t := .long) (t' := .int) (by decide) (by decide)))
  have f57 := f47.other W52 (Or.inr (slot_ne (Or.inr (hw _ (List.mem_of_getElem? (i := 22) rfl))) (Or.inr (hw _ (List.mem_of_getElem? (i := 26) rfl))) (by decide) (t := .long) (t' := .int) (by decide) (by decide)))
  have f58 := f48.other W52 (Or.inr (slot_ne (Or.inr (hw _ (List.mem_of_getElem? (i := 24) rfl))) (Or.inr (hw _ (List.mem_of_getElem? (i := 26) rfl))) (by decide) (t := .long) (t' := .int) (by decide) (by decide)))
  have f59 := f49.same W52
  have f60 := f50.other W52 (Or.inr (slot_ne (Or.inr (hw _ (List.mem_of_getElem? (i := 28) rfl))) (Or.inr (hw _ (List.mem_of_getElem? (i := 26) rfl))) (by decide) (t := (.object "com/example/narrow_gate/narrowgate/model/Pace")) (t' := .int) (by decide) (by decide)))
  have f61 := f51.other W52 (Or.inr (slot_ne (Or.inr (hw _ (List.mem_of_getElem? (i := 30) rfl))) (Or.inr (hw _ (List.mem_of_getElem? (i := 26) rfl))) (by decide) (t := (.object "java/lang/String")) (t' := .int) (by decide) (by decide)))
  have K52 := K42.wr W52 (Or.inl (List.mem_of_getElem? (i := 0) rfl))
  have Z52 := Nat.le_trans Z42 (Nat.le_of_eq W52.size.symm)
  refine Goes.go st52 ?_
  show Goes p e below s _ _ _ T52 (mkF m 37 #[.val (.ref st), .val (.ref kz), .val (.int (0 : Int32)), .val (.long (0 : Int64)), .second, .val (.long (0 : Int64)), .second, .val (.long (0 : Int64)), .second, .val (.int (0 : Int32)), .val .null, .val .null] [])
  refine own_aloadN X52 hx 38 rfl (hb hby own_d2_37) rfl rfl ?_
  refine own_aload X52 hx 40 rfl (hb hby own_d2_38) rfl rfl ?_
  obtain ⟨T62, h62, X62, e62, W62, st62⟩ := putF X52 hx hZ hown (host := "") (Or.inl (hw _ (List.mem_of_getElem? (i := 27) rfl))) Via.refl e52 f60 f53 (Or.inr ⟨(hw _ (List.mem_of_getElem? (i := 28) rfl)), rfl, hnm⟩) (hw _ (List.mem_of_getElem? (i := 5) rfl)) (ty := (.object "com/example/narrow_gate/narrowgate/model/Pace")) (by decide) rfl rfl (g := (mkF m 40 #[.val (.ref st), .val (.ref kz), .val (.int (0 : Int32)), .val (.long (0 : Int64)), .second, .val (.long (0 : Int64)), .second, .val (.long (0 : Int64)), .second, .val (.int (0 : Int32)), .val .null, .val .null] [.null, (.ref st)])) rfl rfl (hb hby own_d2_40)
  have N62 := Fr.snoc X62 N52 gs
  have f63 := f53.wr W62
  have f64 := f54.other W62 (Or.inr (slot_ne (Or.inr (hw _ (List.mem_of_getElem? (i := 16) rfl))) (Or.inr (hw _ (List.mem_of_getElem? (i := 28) rfl))) (by decide) (t := (.object "com/example/narrow_gate/narrowgate/model/Standing$Kind")) (t' := (.object "com/example/narrow_gate/narrowgate/model/Pace")) (by decide) (by decide)))
  have f65 := f55.other W62 (Or.inr (slot_ne (Or.inr (hw _ (List.mem_of_getElem? (i := 18) rfl))) (Or.inr (hw _ (List.mem_of_getElem? (i := 28) rfl))) (by decide) (t := .boolean) (t' := (.object "com/example/narrow_gate/narrowgate/model/Pace")) (by decide) (by decide)))
  have f66 := f56.other W62 (Or.inr (slot_ne (Or.inr (hw _ (List.mem_of_getElem? (i := 20) rfl))) (Or.inr (hw _ (List.mem_of_getElem? (i := 28) rfl))) (by decide) (t := .long) (t' := (.object "com/example/narrow_gate/narrowgate/model/Pace")) (by decide) (by decide)))
  have f67 := f57.other W62 (Or.inr (slot_ne (Or.inr (hw _ (List.mem_of_getElem? (i := 22) rfl))) (Or.inr (hw _ (List.mem_of_getElem? (i := 28) rfl))) (by decide) (t := .long) (t' := (.object "com/example/narrow_gate/narrowgate/model/Pace")) (by decide) (by decide)))
  have f68 := f58.other W62 (Or.inr (slot_ne (Or.inr (hw _ (List.mem_of_getElem? (i := 24) rfl))) (Or.inr (hw _ (List.mem_of_getElem? (i := 28) rfl))) (by decide) (t := .long) (t' := (.object "com/example/narrow_gate/narrowgate/model/Pace")) (by decide) (by decide)))
  have f69 := f59.other W62 (Or.inr (slot_ne (Or.inr (hw _ (List.mem_of_getElem? (i := 26) rfl))) (Or.inr (hw _ (List.mem_of_getElem? (i := 28) rfl))) (by decide) (t := .int) (t' := (.object "com/example/narrow_gate/narrowgate/model/Pace")) (by decide) (by decide)))
  have f70 := f60.same W62
  have f71 := f61.other W62 (Or.inr (slot_ne (Or.inr (hw _ (List.mem_of_getElem? (i := 30) rfl))) (Or.inr (hw _ (List.mem_of_getElem? (i := 28) rfl))) (by decide) (t := (.object "java/lang/String")) (t' := (.object "com/example/narrow_gate/narrowgate/model/Pace")) (by decide) (by decide)))
  have K62 := K52.wr W62 (Or.inl (List.mem_of_getElem? (i := 0) rfl))
  have Z62 := Nat.le_trans Z52 (Nat.le_of_eq W62.size.symm)
  refine Goes.go st62 ?_
  show Goes p e below s _ _ _ T62 (mkF m 43 #[.val (.ref st), .val (.ref kz), .val (.int (0 : Int32)), .val (.long (0 : Int64)), .second, .val (.long (0 : Int64)), .second, .val (.long (0 : Int64)), .second, .val (.int (0 : Int32)), .val .null, .val .null] [])
  refine own_aloadN X62 hx 44 rfl (hb hby own_d2_43) rfl rfl ?_
  refine own_aload X62 hx 46 rfl (hb hby own_d2_44) rfl rfl ?_
  obtain ⟨T72, h72, X72, e72, W72, st72⟩ := putF X62 hx hZ hown (host := "") (Or.inl (hw _ (List.mem_of_getElem? (i := 29) rfl))) Via.refl e62 f71 f63 (Or.inr ⟨(hw _ (List.mem_of_getElem? (i := 30) rfl)), rfl, hnm⟩) (hw _ (List.mem_of_getElem? (i := 5) rfl)) (ty := (.object "java/lang/String")) (by decide) rfl rfl (g := (mkF m 46 #[.val (.ref st), .val (.ref kz), .val (.int (0 : Int32)), .val (.long (0 : Int64)), .second, .val (.long (0 : Int64)), .second, .val (.long (0 : Int64)), .second, .val (.int (0 : Int32)), .val .null, .val .null] [.null, (.ref st)])) rfl rfl (hb hby own_d2_46)
  have N72 := Fr.snoc X72 N62 gs
  have f73 := f63.wr W72
  have f74 := f64.other W72 (Or.inr (slot_ne (Or.inr (hw _ (List.mem_of_getElem? (i := 16) rfl))) (Or.inr (hw _ (List.mem_of_getElem? (i := 30) rfl))) (by decide) (t := (.object "com/example/narrow_gate/narrowgate/model/Standing$Kind")) (t' := (.object "java/lang/String")) (by decide) (by decide)))
  have f75 := f65.other W72 (Or.inr (slot_ne (Or.inr (hw _ (List.mem_of_getElem? (i := 18) rfl))) (Or.inr (hw _ (List.mem_of_getElem? (i := 30) rfl))) (by decide) (t := .boolean) (t' := (.object "java/lang/String")) (by decide) (by decide)))
  have f76 := f66.other W72 (Or.inr (slot_ne (Or.inr (hw _ (List.mem_of_getElem? (i := 20) rfl))) (Or.inr (hw _ (List.mem_of_getElem? (i := 30) rfl))) (by decide) (t := .long) (t' := (.object "java/lang/String")) (by decide) (by decide)))
  have f77 := f67.other W72 (Or.inr (slot_ne (Or.inr (hw _ (List.mem_of_getElem? (i := 22) rfl))) (Or.inr (hw _ (List.mem_of_getElem? (i := 30) rfl))) (by decide) (t := .long) (t' := (.object "java/lang/String")) (by decide) (by decide)))
  have f78 := f68.other W72 (Or.inr (slot_ne (Or.inr (hw _ (List.mem_of_getElem? (i := 24) rfl))) (Or.inr (hw _ (List.mem_of_getElem? (i := 30) rfl))) (by decide) (t := .long) (t' := (.object "java/lang/String")) (by decide) (by decide)))
  have f79 := f69.other W72 (Or.inr (slot_ne (Or.inr (hw _ (List.mem_of_getElem? (i := 26) rfl))) (Or.inr (hw _ (List.mem_of_getElem? (i := 30) rfl))) (by decide) (t := .int) (t' := (.object "java/lang/String")) (by decide) (by decide)))
  have f80 := f70.other W72 (Or.inr (slot_ne (Or.inr (hw _ (List.mem_of_getElem? (i := 28) rfl))) (Or.inr (hw _ (List.mem_of_getElem? (i := 30) rfl))) (by decide) (t := (.object "com/example/narrow_gate/narrowgate/model/Pace")) (t' := (.object "java/lang/String")) (by decide) (by decide)))
  have f81 := f71.same W72
  have K72 := K62.wr W72 (Or.inl (List.mem_of_getElem? (i := 0) rfl))
  have Z72 := Nat.le_trans Z62 (Nat.le_of_eq W72.size.symm)
  refine Goes.go st72 ?_
  show Goes p e below s _ _ _ T72 (mkF m 49 #[.val (.ref st), .val (.ref kz), .val (.int (0 : Int32)), .val (.long (0 : Int64)), .second, .val (.long (0 : Int64)), .second, .val (.long (0 : Int64)), .second, .val (.int (0 : Int32)), .val .null, .val .null] [])
  refine own_retV X72 hx hlk Bd.returns (hb hby own_d2_49) (by decide) (by decide) e72 ?_
  exact ⟨rfl, N72, K72, f74, f75⟩
theorem own_pd0 : parseMethodDescriptor "(Lcom/example/narrow_gate/narrowgate/model/Standing$Kind;ZJJJILcom/example/narrow_gate/narrowgate/model/Pace;Ljava/lang/String;)V" = some ⟨[(.object "com/example/narrow_gate/narrowgate/model/Standing$Kind"), .boolean, .long, .long, .long, .int, (.object "com/example/narrow_gate/narrowgate/model/Pace"), (.object "java/lang/String")], none⟩ := by decide +kernel
theorem own_d1_0 : decode prog_15_method_5_code 0 = .ok (.new 8, 3) := by decide +kernel
theorem own_d1_3 : decode prog_15_method_5_code 3 = .ok (.dup, 1) := by decide +kernel
theorem own_d1_4 : decode prog_15_method_5_code 4 = .ok (.getstatic 74, 3) := by decide +kernel
theorem own_d1_7 : decode prog_15_method_5_code 7 = .ok (.iconst 0, 1) := by decide +kernel
theorem own_d1_8 : decode prog_15_method_5_code 8 = .ok (.lconst 0, 1) := by decide +kernel
theorem own_d1_9 : decode prog_15_method_5_code 9 = .ok (.lconst 0, 1) := by decide +kernel
theorem own_d1_10 : decode prog_15_method_5_code 10 = .ok (.lconst 0, 1) := by decide +kernel
theorem own_d1_11 : decode prog_15_method_5_code 11 = .ok (.iconst 0, 1) := by decide +kernel
theorem own_d1_12 : decode prog_15_method_5_code 12 = .ok (.aconst_null, 1) := by decide +kernel
theorem own_d1_13 : decode prog_15_method_5_code 13 = .ok (.aconst_null, 1) := by decide +kernel
theorem own_d1_14 : decode prog_15_method_5_code 14 = .ok (.invokespecial 67, 3) := by decide +kernel
theorem own_d1_17 : decode prog_15_method_5_code 17 = .ok (.areturn, 1) := by decide +kernel
def Q1 (Z : State) (zk : Addr) (h0 : Heap) (n0 : Nat) (v : Option Value) (h : Heap) (L : List Loc) : Prop := ∃ nb : Addr, v = some (.ref nb) ∧ Fr n0 L ∧ Keep h0 h [] ∧ h0.size ≤ nb ∧ Exa Z h nb "com/example/narrow_gate/narrowgate/model/Standing" ∧ Fld Z h nb "com/example/narrow_gate/narrowgate/model/Standing" "kind" "Lcom/example/narrow_gate/narrowgate/model/Standing$Kind;" (.ref zk) ∧ Fld Z h nb "com/example/narrow_gate/narrowgate/model/Standing" "inRoom" "Z" (.int (0 : Int32))
set_option maxRecDepth 65536 in
set_option maxHeartbeats 40000000 in
theorem rm1 (l : Launch) (Z : State) (a0 : Array Value) (hw : ∀ d ∈ tables_1, d.before a0 Z = true) (ws : List Jvm.Cond) (zk : Addr) (h0 : Heap) (n0 : Nat) (Z0 : n0 ≤ h0.size) (Sk : Sta Z h0 "com/example/narrow_gate/narrowgate/model/Standing$Kind" "NONE" "Lcom/example/narrow_gate/narrowgate/model/Standing$Kind;" (.ref zk)) :
    MetFree l (⟨"com/example/narrow_gate/narrowgate/model/Standing", "none", "()Lcom/example/narrow_gate/narrowgate/model/Standing;"⟩ : MethodName) (head1 (Jvm.Cond.code (⟨"com/example/narrow_gate/narrowgate/model/Standing", "none", "()Lcom/example/narrow_gate/narrowgate/model/Standing;"⟩ : MethodName) prog_15_method_5_code 0 (some (.object "com/example/narrow_gate/narrowgate/model/Standing")) :: ws) ({ frames := 2, cells := 1, slots := 8, locals := 36 } : Room)) (fun a U => a = #[] ∧ Z.Warmed39 U.vm ∧ U.heap = h0) (fun _ _ _ _ _ => True) (fun _ U o U' => ∃ v L, o = .returned v ∧ Q1 Z zk h0 n0 v U'.heap L ∧ FrameEnd U o U' L ({ frames := 2, cells := 1, slots := 8, locals := 36 } : Room).cells ({ frames := 2, cells := 1, slots := 8, locals := 36 } : Room).slots) := by
  refine MetFree.of_bodySF (plainFor_of_name own_pn_com_example_narrow_gate_narrowgate_model_Standing) hisR ?_
  intro p e s m args below meth c s₁ Bd hml0 hP hK
  obtain ⟨rfl, hZ, hh⟩ := hP
  have hx := Bd.exec
  have hby := Bd.bytes
  have hml : c.maxLocals = 0 := hml0
  have hlk := Bd.notSynchronized
  have hown : s.vm.findClass "com/example/narrow_gate/narrowgate/model/Standing" = some m.cls := findClass_of_methodNamed Bd.named
  have hnm := (name_of_methodNamed Bd.named Bd.method).1
  have X0 : Stand p l e ({ frames := 2, cells := 1, slots := 8, locals := 36 } : Room) s m #[] below meth c s₁ [] 0 0 := Stand.of_body Bd
  have e0 : s₁.heap = h0 := by rw [← hh, Bd.state]; rfl
  have N0 := Fr.nil n0
  have K0 : Keep h0 h0 [] := Keep.refl _ _
  refine own_enter (Q := Q1 Z zk h0 n0) (Ls := #[]) (by first | (simp [entryFrame, mkF, argsToLocals, Value.category]; done) | rfl) ?_
  obtain ⟨T1, h1, X1, e1, E1, A1, D1, -, st1⟩ := newO X0 hx hZ hown (hw _ (List.mem_of_getElem? (i := 4) rfl)) (hw _ (List.mem_of_getElem? (i := 5) rfl)) (hw _ (List.mem_of_getElem? (i := 2) rfl)) e0 (g := (mkF m 0 #[] [])) rfl (hb hby own_d1_0) (by decide) (by decide)
  obtain ⟨b1, g1⟩ : ∃ z, z = h0.size := ⟨_, rfl⟩
  rw [← g1] at A1 D1 st1
  have G1 : n0 ≤ b1 := Nat.le_trans Z0 (Nat.le_of_eq g1.symm)
  have H1 : h0.size ≤ b1 := Nat.le_trans K0.1 (Nat.le_of_eq g1.symm)
  have f2 := Sk.ext E1
  have K1 := K0.ext E1
  have Z1 := Nat.le_trans Z0 E1.1
  have f3 : Fld Z h1 b1 "com/example/narrow_gate/narrowgate/model/Standing" "kind" "Lcom/example/narrow_gate/narrowgate/model/Standing$Kind;" .null := D1 (Or.inr (hw _ (List.mem_of_getElem? (i := 16) rfl))) (ty := (.object "com/example/narrow_gate/narrowgate/model/Standing$Kind")) (by decide)
  have f4 : Fld Z h1 b1 "com/example/narrow_gate/narrowgate/model/Standing" "inRoom" "Z" (.int (0 : Int32)) := D1 (Or.inr (hw _ (List.mem_of_getElem? (i := 18) rfl))) (ty := .boolean) (by decide)
  have f5 : Fld Z h1 b1 "com/example/narrow_gate/narrowgate/model/Standing" "position" "J" (.long (0 : Int64)) := D1 (Or.inr (hw _ (List.mem_of_getElem? (i := 20) rfl))) (ty := .long) (by decide)
  have f6 : Fld Z h1 b1 "com/example/narrow_gate/narrowgate/model/Standing" "queueSize" "J" (.long (0 : Int64)) := D1 (Or.inr (hw _ (List.mem_of_getElem? (i := 22) rfl))) (ty := .long) (by decide)
  have f7 : Fld Z h1 b1 "com/example/narrow_gate/narrowgate/model/Standing" "currentUsers" "J" (.long (0 : Int64)) := D1 (Or.inr (hw _ (List.mem_of_getElem? (i := 24) rfl))) (ty := .long) (by decide)
  have f8 : Fld Z h1 b1 "com/example/narrow_gate/narrowgate/model/Standing" "threshold" "I" (.int (0 : Int32)) := D1 (Or.inr (hw _ (List.mem_of_getElem? (i := 26) rfl))) (ty := .int) (by decide)
  have f9 : Fld Z h1 b1 "com/example/narrow_gate/narrowgate/model/Standing" "pace" "Lcom/example/narrow_gate/narrowgate/model/Pace;" .null := D1 (Or.inr (hw _ (List.mem_of_getElem? (i := 28) rfl))) (ty := (.object "com/example/narrow_gate/narrowgate/model/Pace")) (by decide)
  have f10 : Fld Z h1 b1 "com/example/narrow_gate/narrowgate/model/Standing" "entryToken" "Ljava/lang/String;" .null := D1 (Or.inr (hw _ (List.mem_of_getElem? (i := 30) rfl))) (ty := (.object "java/lang/String")) (by decide)
  refine Goes.go st1 ?_
  show Goes p e below s _ _ _ T1 (mkF m 3 #[] [(.ref b1)])
  refine own_dup X1 hx 4 rfl (hb hby own_d1_3) rfl ?_
  obtain ⟨T11, X11, e11, st11⟩ := getS2 X1 hx hZ hown (host := "") (Or.inl (hw _ (List.mem_of_getElem? (i := 6) rfl))) Via.refl e1 f2 (g := (mkF m 4 #[] [(.ref b1), (.ref b1)])) rfl (hb hby own_d1_4)
  refine Goes.go st11 ?_
  show Goes p e below s _ _ _ T11 (mkF m 7 #[] [(.ref zk), (.ref b1), (.ref b1)])
  refine own_iconst X11 hx 8 rfl (0 : Int32) (hb hby own_d1_7) (by decide) ?_
  refine own_lconst X11 hx 9 rfl (0 : Int64) (hb hby own_d1_8) (by decide) ?_
  refine own_lconst X11 hx 10 rfl (0 : Int64) (hb hby own_d1_9) (by decide) ?_
  refine own_lconst X11 hx 11 rfl (0 : Int64) (hb hby own_d1_10) (by decide) ?_
  refine own_iconst X11 hx 12 rfl (0 : Int32) (hb hby own_d1_11) (by decide) ?_
  refine own_aconst_null X11 hx 13 rfl (hb hby own_d1_12) ?_
  refine own_aconst_null X11 hx 14 rfl (hb hby own_d1_13) ?_
  obtain ⟨_, _, ⟨T12, L12, k12, n12⟩, -, X12, ⟨Lc12, hQ12, l12, y12, z12⟩, st12⟩ := X11.specialBack hx (y := (⟨"com/example/narrow_gate/narrowgate/model/Standing", "<init>", "(Lcom/example/narrow_gate/narrowgate/model/Standing$Kind;ZJJJILcom/example/narrow_gate/narrowgate/model/Pace;Ljava/lang/String;)V"⟩ : MethodName)) rfl hown (mvT hZ (hw _ (List.mem_of_getElem? (i := 9) rfl))) (mvT hZ (hw _ (List.mem_of_getElem? (i := 10) rfl))) (mvT hZ (hw _ (List.mem_of_getElem? (i := 11) rfl))) (by decide) (backOf (W := 1) (rm2 l Z a0 hw [] b1 zk h1 n0 Z1 A1 G1 f3 f4 f5 f6 f7 f8 f9 f10) hZ (hw _ (List.mem_of_getElem? (i := 11) rfl)) (hw _ (List.mem_of_getElem? (i := 2) rfl)) (by decide) (by decide)) (g := (mkF m 14 #[] [.null, .null, (.int (0 : Int32)), (.long (0 : Int64)), (.long (0 : Int64)), (.long (0 : Int64)), (.int (0 : Int32)), (.ref zk), (.ref b1), (.ref b1)])) rfl (by rw [hml]; rfl) (Steps.refl _) (a := b1) (argsL := [(.ref zk), (.int (0 : Int32)), (.long (0 : Int64)), (.long (0 : Int64)), (.long (0 : Int64)), (.int (0 : Int32)), .null, .null]) (rest := [(.ref b1)]) (lenOf own_pd0 rfl) rfl (by show 2 * 0 + _ ≤ _; exact Nat.le_of_eq rfl) (hb hby own_d1_14) (fun _ _ => ⟨rfl, e11, (by decide : 1 + 0 ≤ _), (by decide : 8 + 0 ≤ _)⟩)
  dsimp only [Pt.U, Pt.locs, Pt.cells, Pt.slots] at X12 l12 y12 z12 st12 hQ12
  subst l12 y12 z12
  obtain ⟨rfl, N12q, K12q, f12_0, f12_1⟩ := hQ12
  have N12 := Fr.app N0 N12q
  have f13 := own_sta_keep f2 K12q (allS (own_eplain A1) all0)
  have f14 := A1.keep K12q
  have K12 := K1.trans K12q (allS (Or.inr H1) all0)
  have Z12 := Nat.le_trans Z1 K12q.1
  refine Goes.tr st12 ?_
  show Goes p e below s _ _ _ T12 (mkF m 17 #[] [(.ref b1)])
  refine own_retR X12 hx hlk Bd.returns rfl rfl (hb hby own_d1_17) (by decide) (by decide) rfl ?_
  exact ⟨b1, rfl, N12, K12, H1, f14, f12_0, f12_1⟩
theorem own_d4_0 : decode prog_15_method_4_code 0 = .ok (.new 8, 3) := by decide +kernel
theorem own_d4_3 : decode prog_15_method_4_code 3 = .ok (.dup, 1) := by decide +kernel
theorem own_d4_4 : decode prog_15_method_4_code 4 = .ok (.getstatic 71, 3) := by decide +kernel
theorem own_d4_7 : decode prog_15_method_4_code 7 = .ok (.iconst 0, 1) := by decide +kernel
theorem own_d4_8 : decode prog_15_method_4_code 8 = .ok (.lconst 0, 1) := by decide +kernel
theorem own_d4_9 : decode prog_15_method_4_code 9 = .ok (.lconst 0, 1) := by decide +kernel
theorem own_d4_10 : decode prog_15_method_4_code 10 = .ok (.lconst 0, 1) := by decide +kernel
theorem own_d4_11 : decode prog_15_method_4_code 11 = .ok (.iconst 0, 1) := by decide +kernel
theorem own_d4_12 : decode prog_15_method_4_code 12 = .ok (.aconst_null, 1) := by decide +kernel
theorem own_d4_13 : decode prog_15_method_4_code 13 = .ok (.aconst_null, 1) := by decide +kernel
theorem own_d4_14 : decode prog_15_method_4_code 14 = .ok (.invokespecial 67, 3) := by decide +kernel
theorem own_d4_17 : decode prog_15_method_4_code 17 = .ok (.areturn, 1) := by decide +kernel
def Q4 (Z : State) (zk : Addr) (h0 : Heap) (n0 : Nat) (v : Option Value) (h : Heap) (L : List Loc) : Prop := ∃ nb : Addr, v = some (.ref nb) ∧ Fr n0 L ∧ Keep h0 h [] ∧ h0.size ≤ nb ∧ Exa Z h nb "com/example/narrow_gate/narrowgate/model/Standing" ∧ Fld Z h nb "com/example/narrow_gate/narrowgate/model/Standing" "kind" "Lcom/example/narrow_gate/narrowgate/model/Standing$Kind;" (.ref zk) ∧ Fld Z h nb "com/example/narrow_gate/narrowgate/model/Standing" "inRoom" "Z" (.int (0 : Int32))
set_option maxRecDepth 65536 in
set_option maxHeartbeats 40000000 in
theorem rm4 (l : Launch) (Z : State) (a0 : Array Value) (hw : ∀ d ∈ tables_1, d.before a0 Z = true) (ws : List Jvm.Cond) (zk : Addr) (h0 : Heap) (n0 : Nat) (Z0 : n0 ≤ h0.size) (Sk : Sta Z h0 "com/example/narrow_gate/narrowgate/model/Standing$Kind" "ACTIVE" "Lcom/example/narrow_gate/narrowgate/model/Standing$Kind;" (.ref zk)) :
    MetFree l (⟨"com/example/narrow_gate/narrowgate/model/Standing", "ungated", "()Lcom/example/narrow_gate/narrowgate/model/Standing;"⟩ : MethodName) (head1 (Jvm.Cond.code (⟨"com/example/narrow_gate/narrowgate/model/Standing", "ungated", "()Lcom/example/narrow_gate/narrowgate/model/Standing;"⟩ : MethodName) prog_15_method_4_code 0 (some (.object "com/example/narrow_gate/narrowgate/model/Standing")) :: ws) ({ frames := 2, cells := 1, slots := 8, locals := 36 } : Room)) (fun a U => a = #[] ∧ Z.Warmed39 U.vm ∧ U.heap = h0) (fun _ _ _ _ _ => True) (fun _ U o U' => ∃ v L, o = .returned v ∧ Q4 Z zk h0 n0 v U'.heap L ∧ FrameEnd U o U' L ({ frames := 2, cells := 1, slots := 8, locals := 36 } : Room).cells ({ frames := 2, cells := 1, slots := 8, locals := 36 } : Room).slots) := by
  refine MetFree.of_bodySF (plainFor_of_name own_pn_com_example_narrow_gate_narrowgate_model_Standing) hisR ?_
  intro p e s m args below meth c s₁ Bd hml0 hP hK
  obtain ⟨rfl, hZ, hh⟩ := hP
  have hx := Bd.exec
  have hby := Bd.bytes
  have hml : c.maxLocals = 0 := hml0
  have hlk := Bd.notSynchronized
  have hown : s.vm.findClass "com/example/narrow_gate/narrowgate/model/Standing" = some m.cls := findClass_of_methodNamed Bd.named
  have hnm := (name_of_methodNamed Bd.named Bd.method).1
  have X0 : Stand p l e ({ frames := 2, cells := 1, slots := 8, locals := 36 } : Room) s m #[] below meth c s₁ [] 0 0 := Stand.of_body Bd
  have e0 : s₁.heap = h0 := by rw [← hh, Bd.state]; rfl
  have N0 := Fr.nil n0
  have K0 : Keep h0 h0 [] := Keep.refl _ _
  refine own_enter (Q := Q4 Z zk h0 n0) (Ls := #[]) (by first | (simp [entryFrame, mkF, argsToLocals, Value.category]; done) | rfl) ?_
  obtain ⟨T1, h1, X1, e1, E1, A1, D1, -, st1⟩ := newO X0 hx hZ hown (hw _ (List.mem_of_getElem? (i := 4) rfl)) (hw _ (List.mem_of_getElem? (i := 5) rfl)) (hw _ (List.mem_of_getElem? (i := 2) rfl)) e0 (g := (mkF m 0 #[] [])) rfl (hb hby own_d4_0) (by decide) (by decide)
  obtain ⟨b1, g1⟩ : ∃ z, z = h0.size := ⟨_, rfl⟩
  rw [← g1] at A1 D1 st1
  have G1 : n0 ≤ b1 := Nat.le_trans Z0 (Nat.le_of_eq g1.symm)
  have H1 : h0.size ≤ b1 := Nat.le_trans K0.1 (Nat.le_of_eq g1.symm)
  have f2 := Sk.ext E1
  have K1 := K0.ext E1
  have Z1 := Nat.le_trans Z0 E1.1
  have f3 : Fld Z h1 b1 "com/example/narrow_gate/narrowgate/model/Standing" "kind" "Lcom/example/narrow_gate/narrowgate/model/Standing$Kind;" .null := D1 (Or.inr (hw _ (List.mem_of_getElem? (i := 16) rfl))) (ty := (.object "com/example/narrow_gate/narrowgate/model/Standing$Kind")) (by decide)
  have f4 : Fld Z h1 b1 "com/example/narrow_gate/narrowgate/model/Standing" "inRoom" "Z" (.int (0 : Int32)) := D1 (Or.inr (hw _ (List.mem_of_getElem? (i := 18) rfl))) (ty := .boolean) (by decide)
  have f5 : Fld Z h1 b1 "com/example/narrow_gate/narrowgate/model/Standing" "position" "J" (.long (0 : Int64)) := D1 (Or.inr (hw _ (List.mem_of_getElem? (i := 20) rfl))) (ty := .long) (by decide)
  have f6 : Fld Z h1 b1 "com/example/narrow_gate/narrowgate/model/Standing" "queueSize" "J" (.long (0 : Int64)) := D1 (Or.inr (hw _ (List.mem_of_getElem? (i := 22) rfl))) (ty := .long) (by decide)
  have f7 : Fld Z h1 b1 "com/example/narrow_gate/narrowgate/model/Standing" "currentUsers" "J" (.long (0 : Int64)) := D1 (Or.inr (hw _ (List.mem_of_getElem? (i := 24) rfl))) (ty := .long) (by decide)
  have f8 : Fld Z h1 b1 "com/example/narrow_gate/narrowgate/model/Standing" "threshold" "I" (.int (0 : Int32)) := D1 (Or.inr (hw _ (List.mem_of_getElem? (i := 26) rfl))) (ty := .int) (by decide)
  have f9 : Fld Z h1 b1 "com/example/narrow_gate/narrowgate/model/Standing" "pace" "Lcom/example/narrow_gate/narrowgate/model/Pace;" .null := D1 (Or.inr (hw _ (List.mem_of_getElem? (i := 28) rfl))) (ty := (.object "com/example/narrow_gate/narrowgate/model/Pace")) (by decide)
  have f10 : Fld Z h1 b1 "com/example/narrow_gate/narrowgate/model/Standing" "entryToken" "Ljava/lang/String;" .null := D1 (Or.inr (hw _ (List.mem_of_getElem? (i := 30) rfl))) (ty := (.object "java/lang/String")) (by decide)
  refine Goes.go st1 ?_
  show Goes p e below s _ _ _ T1 (mkF m 3 #[] [(.ref b1)])
  refine own_dup X1 hx 4 rfl (hb hby own_d4_3) rfl ?_
  obtain ⟨T11, X11, e11, st11⟩ := getS2 X1 hx hZ hown (host := "") (Or.inl (hw _ (List.mem_of_getElem? (i := 34) rfl))) Via.refl e1 f2 (g := (mkF m 4 #[] [(.ref b1), (.ref b1)])) rfl (hb hby own_d4_4)
  refine Goes.go st11 ?_
  show Goes p e below s _ _ _ T11 (mkF m 7 #[] [(.ref zk), (.ref b1), (.ref b1)])
  refine own_iconst X11 hx 8 rfl (0 : Int32) (hb hby own_d4_7) (by decide) ?_
  refine own_lconst X11 hx 9 rfl (0 : Int64) (hb hby own_d4_8) (by decide) ?_
  refine own_lconst X11 hx 10 rfl (0 : Int64) (hb hby own_d4_9) (by decide) ?_
  refine own_lconst X11 hx 11 rfl (0 : Int64) (hb hby own_d4_10) (by decide) ?_
  refine own_iconst X11 hx 12 rfl (0 : Int32) (hb hby own_d4_11) (by decide) ?_
  refine own_aconst_null X11 hx 13 rfl (hb hby own_d4_12) ?_
  refine own_aconst_null X11 hx 14 rfl (hb hby own_d4_13) ?_
  obtain ⟨_, _, ⟨T12, L12, k12, n12⟩, -, X12, ⟨Lc12, hQ12, l12, y12, z12⟩, st12⟩ := X11.specialBack hx (y := (⟨"com/example/narrow_gate/narrowgate/model/Standing", "<init>", "(Lcom/example/narrow_gate/narrowgate/model/Standing$Kind;ZJJJILcom/example/narrow_gate/narrowgate/model/Pace;Ljava/lang/String;)V"⟩ : MethodName)) rfl hown (mvT hZ (hw _ (List.mem_of_getElem? (i := 9) rfl))) (mvT hZ (hw _ (List.mem_of_getElem? (i := 10) rfl))) (mvT hZ (hw _ (List.mem_of_getElem? (i := 11) rfl))) (by decide) (backOf (W := 1) (rm2 l Z a0 hw [] b1 zk h1 n0 Z1 A1 G1 f3 f4 f5 f6 f7 f8 f9 f10) hZ (hw _ (List.mem_of_getElem? (i := 11) rfl)) (hw _ (List.mem_of_getElem? (i := 2) rfl)) (by decide) (by decide)) (g := (mkF m 14 #[] [.null, .null, (.int (0 : Int32)), (.long (0 : Int64)), (.long (0 : Int64)), (.long (0 : Int64)), (.int (0 : Int32)), (.ref zk), (.ref b1), (.ref b1)])) rfl (by rw [hml]; rfl) (Steps.refl _) (a := b1) (argsL := [(.ref zk), (.int (0 : Int32)), (.long (0 : Int64)), (.long (0 : Int64)), (.long (0 : Int64)), (.int (0 : Int32)), .null, .null]) (rest := [(.ref b1)]) (lenOf own_pd0 rfl) rfl (by show 2 * 0 + _ ≤ _; exact Nat.le_of_eq rfl) (hb hby own_d4_14) (fun _ _ => ⟨rfl, e11, (by decide : 1 + 0 ≤ _), (by decide : 8 + 0 ≤ _)⟩)
  dsimp only [Pt.U, Pt.locs, Pt.cells, Pt.slots] at X12 l12 y12 z12 st12 hQ12
  subst l12 y12 z12
  obtain ⟨rfl, N12q, K12q, f12_0, f12_1⟩ := hQ12
  have N12 := Fr.app N0 N12q
  have f13 := own_sta_keep f2 K12q (allS (own_eplain A1) all0)
  have f14 := A1.keep K12q
  have K12 := K1.trans K12q (allS (Or.inr H1) all0)
  have Z12 := Nat.le_trans Z1 K12q.1
  refine Goes.tr st12 ?_
  show Goes p e below s _ _ _ T12 (mkF m 17 #[] [(.ref b1)])
  refine own_retR X12 hx hlk Bd.returns rfl rfl (hb hby own_d4_17) (by decide) (by decide) rfl ?_
  exact ⟨b1, rfl, N12, K12, H1, f14, f12_0, f12_1⟩
theorem own_d5_0 : decode prog_15_method_8_code 0 = .ok (.aload_n 0, 1) := by decide +kernel
theorem own_d5_1 : decode prog_15_method_8_code 1 = .ok (.getfield 7, 3) := by decide +kernel
theorem own_d5_4 : decode prog_15_method_8_code 4 = .ok (.areturn, 1) := by decide +kernel
def Q5 (Z : State) (st : Addr) (kz : Addr) (h0 : Heap) (n0 : Nat) (v : Option Value) (h : Heap) (L : List Loc) : Prop := v = some (.ref kz) ∧ Fr n0 L ∧ h = h0
set_option maxRecDepth 65536 in
set_option maxHeartbeats 40000000 in
theorem rm5 (l : Launch) (Z : State) (a0 : Array Value) (hw : ∀ d ∈ tables_1, d.before a0 Z = true) (ws : List Jvm.Cond) (st : Addr) (kz : Addr) (h0 : Heap) (n0 : Nat) (Z0 : n0 ≤ h0.size) (Fk : Fld Z h0 st "com/example/narrow_gate/narrowgate/model/Standing" "kind" "Lcom/example/narrow_gate/narrowgate/model/Standing$Kind;" (.ref kz)) :
    MetFree l (⟨"com/example/narrow_gate/narrowgate/model/Standing", "getKind", "()Lcom/example/narrow_gate/narrowgate/model/Standing$Kind;"⟩ : MethodName) (head1 (Jvm.Cond.code (⟨"com/example/narrow_gate/narrowgate/model/Standing", "getKind", "()Lcom/example/narrow_gate/narrowgate/model/Standing$Kind;"⟩ : MethodName) prog_15_method_8_code 1 (some (.object "com/example/narrow_gate/narrowgate/model/Standing$Kind")) :: ws) ({ frames := 0, cells := 0, slots := 0, locals := 0 } : Room)) (fun a U => a = #[(.ref st)] ∧ Z.Warmed39 U.vm ∧ U.heap = h0) (fun _ _ _ _ _ => True) (fun _ U o U' => ∃ v L, o = .returned v ∧ Q5 Z st kz h0 n0 v U'.heap L ∧ FrameEnd U o U' L ({ frames := 0, cells := 0, slots := 0, locals := 0 } : Room).cells ({ frames := 0, cells := 0, slots := 0, locals := 0 } : Room).slots) := by
  refine MetFree.of_bodySF (plainFor_of_name own_pn_com_example_narrow_gate_narrowgate_model_Standing) hisR ?_
  intro p e s m args below meth c s₁ Bd hml0 hP hK
  obtain ⟨rfl, hZ, hh⟩ := hP
  have hx := Bd.exec
  have hby := Bd.bytes
  have hml : c.maxLocals = 1 := hml0
  have hlk := Bd.notSynchronized
  have hown : s.vm.findClass "com/example/narrow_gate/narrowgate/model/Standing" = some m.cls := findClass_of_methodNamed Bd.named
  have hnm := (name_of_methodNamed Bd.named Bd.method).1
  have X0 : Stand p l e ({ frames := 0, cells := 0, slots := 0, locals := 0 } : Room) s m #[(.ref st)] below meth c s₁ [] 0 0 := Stand.of_body Bd
  have e0 : s₁.heap = h0 := by rw [← hh, Bd.state]; rfl
  have N0 := Fr.nil n0
  refine own_enter (Q := Q5 Z st kz h0 n0) (Ls := #[.val (.ref st)]) (by first | (simp [entryFrame, mkF, argsToLocals, Value.category]; done) | rfl) ?_
  refine own_aloadN X0 hx 1 rfl (hb hby own_d5_0) rfl rfl ?_
  obtain ⟨T1, X1, e1, st1⟩ := getF X0 hx hZ hown (host := "") (Or.inl (hw _ (List.mem_of_getElem? (i := 15) rfl))) Via.refl e0 Fk (g := (mkF m 1 #[.val (.ref st)] [(.ref st)])) rfl rfl (hb hby own_d5_1)
  refine Goes.go st1 ?_
  show Goes p e below s _ _ _ T1 (mkF m 4 #[.val (.ref st)] [(.ref kz)])
  refine own_retR X1 hx hlk Bd.returns rfl rfl (hb hby own_d5_4) (by decide) (by decide) e1 ?_
  exact ⟨rfl, N0, rfl⟩
theorem own_d6_0 : decode prog_15_method_9_code 0 = .ok (.aload_n 0, 1) := by decide +kernel
theorem own_d6_1 : decode prog_15_method_9_code 1 = .ok (.getfield 13, 3) := by decide +kernel
theorem own_d6_4 : decode prog_15_method_9_code 4 = .ok (.ireturn, 1) := by decide +kernel
def Q6 (Z : State) (st : Addr) (h0 : Heap) (n0 : Nat) (v : Option Value) (h : Heap) (L : List Loc) : Prop := v = some (.int (0 : Int32)) ∧ Fr n0 L ∧ h = h0
set_option maxRecDepth 65536 in
set_option maxHeartbeats 40000000 in
theorem rm6 (l : Launch) (Z : State) (a0 : Array Value) (hw : ∀ d ∈ tables_1, d.before a0 Z = true) (ws : List Jvm.Cond) (st : Addr) (h0 : Heap) (n0 : Nat) (Z0 : n0 ≤ h0.size) (Fk : Fld Z h0 st "com/example/narrow_gate/narrowgate/model/Standing" "inRoom" "Z" (.int (0 : Int32))) :
    MetFree l (⟨"com/example/narrow_gate/narrowgate/model/Standing", "isInRoom", "()Z"⟩ : MethodName) (head1 (Jvm.Cond.code (⟨"com/example/narrow_gate/narrowgate/model/Standing", "isInRoom", "()Z"⟩ : MethodName) prog_15_method_9_code 1 (some .boolean) :: ws) ({ frames := 0, cells := 0, slots := 0, locals := 0 } : Room)) (fun a U => a = #[(.ref st)] ∧ Z.Warmed39 U.vm ∧ U.heap = h0) (fun _ _ _ _ _ => True) (fun _ U o U' => ∃ v L, o = .returned v ∧ Q6 Z st h0 n0 v U'.heap L ∧ FrameEnd U o U' L ({ frames := 0, cells := 0, slots := 0, locals := 0 } : Room).cells ({ frames := 0, cells := 0, slots := 0, locals := 0 } : Room).slots) := by
  refine MetFree.of_bodySF (plainFor_of_name own_pn_com_example_narrow_gate_narrowgate_model_Standing) hisR ?_
  intro p e s m args below meth c s₁ Bd hml0 hP hK
  obtain ⟨rfl, hZ, hh⟩ := hP
  have hx := Bd.exec
  have hby := Bd.bytes
  have hml : c.maxLocals = 1 := hml0
  have hlk := Bd.notSynchronized
  have hown : s.vm.findClass "com/example/narrow_gate/narrowgate/model/Standing" = some m.cls := findClass_of_methodNamed Bd.named
  have hnm := (name_of_methodNamed Bd.named Bd.method).1
  have X0 : Stand p l e ({ frames := 0, cells := 0, slots := 0, locals := 0 } : Room) s m #[(.ref st)] below meth c s₁ [] 0 0 := Stand.of_body Bd
  have e0 : s₁.heap = h0 := by rw [← hh, Bd.state]; rfl
  have N0 := Fr.nil n0
  refine own_enter (Q := Q6 Z st h0 n0) (Ls := #[.val (.ref st)]) (by first | (simp [entryFrame, mkF, argsToLocals, Value.category]; done) | rfl) ?_
  refine own_aloadN X0 hx 1 rfl (hb hby own_d6_0) rfl rfl ?_
  obtain ⟨T1, X1, e1, st1⟩ := getF X0 hx hZ hown (host := "") (Or.inl (hw _ (List.mem_of_getElem? (i := 17) rfl))) Via.refl e0 Fk (g := (mkF m 1 #[.val (.ref st)] [(.ref st)])) rfl rfl (hb hby own_d6_1)
  refine Goes.go st1 ?_
  show Goes p e below s _ _ _ T1 (mkF m 4 #[.val (.ref st)] [(.int (0 : Int32))])
  refine own_retZ X1 hx hlk Bd.returns (by decide) (hb hby own_d6_4) (by decide) (by decide) e1 ?_
  exact ⟨rfl, N0, rfl⟩
theorem own_pd1 : parseMethodDescriptor "()Lcom/example/narrow_gate/narrowgate/model/Standing;" = some ⟨[], some (.object "com/example/narrow_gate/narrowgate/model/Standing")⟩ := by decide +kernel
theorem own_pd2 : parseMethodDescriptor "()Lcom/example/narrow_gate/narrowgate/model/Standing$Kind;" = some ⟨[], some (.object "com/example/narrow_gate/narrowgate/model/Standing$Kind")⟩ := by decide +kernel
theorem own_pd3 : parseMethodDescriptor "()Z" = some ⟨[], some .boolean⟩ := by decide +kernel
theorem own_pn_com_example_narrow_gate_narrowgate_model_StandingNonePinLaw : plainName "com/example/narrow_gate/narrowgate/model/StandingNonePinLaw" = true := by first | (simp [plainName, overriddenIn]; done) | decide +kernel
def Q0 (Z : State) (x0 : Int32) (z_NONE : Addr) (z_ACTIVE : Addr) (h0 : Heap) (n0 : Nat) (v : Option Value) (h : Heap) (L : List Loc) : Prop := v = some (.int 1) ∧ Fr n0 L
set_option maxRecDepth 65536 in
set_option maxHeartbeats 40000000 in
theorem rm0 (l : Launch) (Z : State) (a0 : Array Value) (hw : ∀ d ∈ tables_1, d.before a0 Z = true) (ws : List Jvm.Cond) (x0 : Int32) (z_NONE : Addr) (z_ACTIVE : Addr) (h0 : Heap) (n0 : Nat) (Z0 : n0 ≤ h0.size) (S_z_NONE : Sta Z h0 "com/example/narrow_gate/narrowgate/model/Standing$Kind" "NONE" "Lcom/example/narrow_gate/narrowgate/model/Standing$Kind;" (.ref z_NONE)) (E_z_NONE : Exa Z h0 z_NONE "com/example/narrow_gate/narrowgate/model/Standing$Kind") (S_z_ACTIVE : Sta Z h0 "com/example/narrow_gate/narrowgate/model/Standing$Kind" "ACTIVE" "Lcom/example/narrow_gate/narrowgate/model/Standing$Kind;" (.ref z_ACTIVE)) (E_z_ACTIVE : Exa Z h0 z_ACTIVE "com/example/narrow_gate/narrowgate/model/Standing$Kind") (O_ordinal_z_NONE : Fld Z h0 z_NONE "java/lang/Enum" "ordinal" "I" (.int (2 : Int32))) (O_ordinal_z_ACTIVE : Fld Z h0 z_ACTIVE "java/lang/Enum" "ordinal" "I" (.int (1 : Int32))) (ne_z_NONE_z_ACTIVE : z_NONE ≠ z_ACTIVE) :
    MetFree l x (head1 (Jvm.Cond.code x code maxLocals ret :: ws) room_1) (fun a U => a = #[(.int x0)] ∧ Z.Warmed39 U.vm ∧ U.heap = h0) (fun _ _ _ _ _ => True) (fun _ U o U' => ∃ v L, o = .returned v ∧ Q0 Z x0 z_NONE z_ACTIVE h0 n0 v U'.heap L ∧ FrameEnd U o U' L 2 16) := by
  refine MetFree.of_bodySF (plainFor_of_name own_pn_com_example_narrow_gate_narrowgate_model_StandingNonePinLaw) hisR ?_
  intro p e s m args below meth c s₁ Bd hml0 hP hK
  obtain ⟨rfl, hZ, hh⟩ := hP
  have hx := Bd.exec
  have hby := Bd.bytes
  have hml : c.maxLocals = 6 := hml0
  have hlk := Bd.notSynchronized
  have hown : s.vm.findClass "com/example/narrow_gate/narrowgate/model/StandingNonePinLaw" = some m.cls := findClass_of_methodNamed Bd.named
  have hnm := (name_of_methodNamed Bd.named Bd.method).1
  have X0 : Stand p l e room_1 s m #[(.int x0)] below meth c s₁ [] 0 0 := Stand.of_body Bd
  have e0 : s₁.heap = h0 := by rw [← hh, Bd.state]; rfl
  have N0 := Fr.nil n0
  have K0 : Keep h0 h0 [] := Keep.refl _ _
  refine own_enter (Q := Q0 Z x0 z_NONE z_ACTIVE h0 n0) (Ls := #[.val (.int x0), .unset, .unset, .unset, .unset, .unset]) (by first | (simp [entryFrame, mkF, argsToLocals, Value.category, maxLocals]; done) | rfl) ?_
  obtain ⟨_, _, ⟨T1, L1, k1, n1⟩, -, X1, ⟨Lc1, hQ1, l1, y1, z1⟩, st1⟩ := Jvm.LawKit.callS X0 hx (y := (⟨"com/example/narrow_gate/narrowgate/model/Standing", "none", "()Lcom/example/narrow_gate/narrowgate/model/Standing;"⟩ : MethodName)) hown (mvT hZ (hw _ (List.mem_of_getElem? (i := 0) rfl))) (mvT hZ (hw _ (List.mem_of_getElem? (i := 1) rfl))) (mvT hZ (hw _ (List.mem_of_getElem? (i := 2) rfl))) (mvT hZ (hw _ (List.mem_of_getElem? (i := 3) rfl))) (by decide) (backOf (W := 0) (rm1 l Z a0 hw [] z_NONE h0 n0 Z0 S_z_NONE) hZ (hw _ (List.mem_of_getElem? (i := 3) rfl)) (hw _ (List.mem_of_getElem? (i := 2) rfl)) (by decide) (by decide)) (g := (mkF m 0 #[.val (.int x0), .unset, .unset, .unset, .unset, .unset] [])) rfl (by rw [hml]; rfl) (argsL := []) (rest := []) (lenOf own_pd1 rfl) rfl (by show 2 * 0 + _ ≤ _; exact Nat.le_of_eq rfl) (hb hby at_0) (fun _ _ => ⟨rfl, e0, (by decide : 0 + 1 ≤ _), (by decide : 0 + 8 ≤ _)⟩)
  dsimp only [Pt.U, Pt.locs, Pt.cells, Pt.slots] at X1 l1 y1 z1 st1 hQ1
  subst l1 y1 z1
  obtain ⟨nb_1, rfl, N1q, K1q, f1_0, f1_1, f1_2, f1_3⟩ := hQ1
  have N1 := Fr.app N0 N1q
  have ne2 : z_NONE ≠ nb_1 := Nat.ne_of_lt (Nat.lt_of_lt_of_le E_z_NONE.lt f1_0)
  have ne3 : z_ACTIVE ≠ nb_1 := Nat.ne_of_lt (Nat.lt_of_lt_of_le E_z_ACTIVE.lt f1_0)
  have GG4 : n0 ≤ nb_1 := Nat.le_trans Z0 f1_0
  have HG4 : h0.size ≤ nb_1 := Nat.le_trans K0.1 f1_0
  have f5 := own_sta_keep S_z_NONE K1q all0
  have f6 := E_z_NONE.keep K1q
  have f7 := own_sta_keep S_z_ACTIVE K1q all0
  have f8 := E_z_ACTIVE.keep K1q
  have f9 := O_ordinal_z_NONE.keep K1q nin0
  have f10 := O_ordinal_z_ACTIVE.keep K1q nin0
  have K1 := K0.trans K1q all0
  have Z1 := Nat.le_trans Z0 K1q.1
  refine Goes.go st1 ?_
  show Goes p e below s _ _ _ T1 (mkF m 3 #[.val (.int x0), .unset, .unset, .unset, .unset, .unset] [(.ref nb_1)])
  refine own_astoreN X1 hx 4 rfl #[.val (.int x0), .val (.ref nb_1), .unset, .unset, .unset, .unset] (hb hby at_3) rfl rfl ?_
  obtain ⟨_, _, ⟨T11, L11, k11, n11⟩, -, X11, ⟨Lc11, hQ11, l11, y11, z11⟩, st11⟩ := Jvm.LawKit.callS X1 hx (y := (⟨"com/example/narrow_gate/narrowgate/model/Standing", "ungated", "()Lcom/example/narrow_gate/narrowgate/model/Standing;"⟩ : MethodName)) hown (mvT hZ (hw _ (List.mem_of_getElem? (i := 31) rfl))) (mvT hZ (hw _ (List.mem_of_getElem? (i := 32) rfl))) (mvT hZ (hw _ (List.mem_of_getElem? (i := 2) rfl))) (mvT hZ (hw _ (List.mem_of_getElem? (i := 33) rfl))) (by decide) (backOf (W := 0) (rm4 l Z a0 hw [] z_ACTIVE T1.heap n0 Z1 f7) hZ (hw _ (List.mem_of_getElem? (i := 33) rfl)) (hw _ (List.mem_of_getElem? (i := 2) rfl)) (by decide) (by decide)) (g := (mkF m 4 #[.val (.int x0), .val (.ref nb_1), .unset, .unset, .unset, .unset] [])) rfl (by rw [hml]; rfl) (argsL := []) (rest := []) (lenOf own_pd1 rfl) rfl (by show 2 * 0 + _ ≤ _; exact Nat.le_of_eq rfl) (hb hby at_4) (fun _ _ => ⟨rfl, rfl, (by decide : 1 + 1 ≤ _), (by decide : 8 + 8 ≤ _)⟩)
  dsimp only [Pt.U, Pt.locs, Pt.cells, Pt.slots] at X11 l11 y11 z11 st11 hQ11
  subst l11 y11 z11
  obtain ⟨nb_11, rfl, N11q, K11q, f11_0, f11_1, f11_2, f11_3⟩ := hQ11
  have N11 := Fr.app N1 N11q
  have ne12 : z_NONE ≠ nb_11 := Nat.ne_of_lt (Nat.lt_of_lt_of_le f6.lt f11_0)
  have ne13 : z_ACTIVE ≠ nb_11 := Nat.ne_of_lt (Nat.lt_of_lt_of_le f8.lt f11_0)
  have ne14 : nb_1 ≠ nb_11 := Nat.ne_of_lt (Nat.lt_of_lt_of_le f1_1.lt f11_0)
  have GG15 : n0 ≤ nb_11 := Nat.le_trans Z1 f11_0
  have HG15 : h0.size ≤ nb_11 := Nat.le_trans K1.1 f11_0
  have f16 := own_sta_keep f5 K11q all0
  have f17 := f6.keep K11q
  have f18 := own_sta_keep f7 K11q all0
  have f19 := f8.keep K11q
  have f20 := f9.keep K11q nin0
  have f21 := f10.keep K11q nin0
  have f22 := f1_1.keep K11q
  have f23 := f1_2.keep K11q nin0
  have f24 := f1_3.keep K11q nin0
  have K11 := K1.trans K11q all0
  have Z11 := Nat.le_trans Z1 K11q.1
  refine Goes.go st11 ?_
  show Goes p e below s _ _ _ T11 (mkF m 7 #[.val (.int x0), .val (.ref nb_1), .unset, .unset, .unset, .unset] [(.ref nb_11)])
  refine own_astoreN X11 hx 8 rfl #[.val (.int x0), .val (.ref nb_1), .val (.ref nb_11), .unset, .unset, .unset] (hb hby at_7) rfl rfl ?_
  refine own_aloadN X11 hx 9 rfl (hb hby at_8) rfl rfl ?_
  obtain ⟨cq25, kq25, q25a, q25b, q25c⟩ := isOf hZ rfl f22
  obtain ⟨_, _, ⟨T25, L25, k25, n25⟩, -, X25, ⟨Lc25, hQ25, l25, y25, z25⟩, st25⟩ := X11.virtualBack hx (y := (⟨"com/example/narrow_gate/narrowgate/model/Standing", "getKind", "()Lcom/example/narrow_gate/narrowgate/model/Standing$Kind;"⟩ : MethodName)) (z := (⟨"com/example/narrow_gate/narrowgate/model/Standing", "getKind", "()Lcom/example/narrow_gate/narrowgate/model/Standing$Kind;"⟩ : MethodName)) hown (mvT hZ (hw _ (List.mem_of_getElem? (i := 36) rfl))) (mvT hZ (hw _ (List.mem_of_getElem? (i := 37) rfl))) (notFace_of_selects (args := #[]) (mvT hZ (hw _ (List.mem_of_getElem? (i := 39) rfl)))) (mvT hZ (hw _ (List.mem_of_getElem? (i := 39) rfl))) (mvT hZ (hw _ (List.mem_of_getElem? (i := 38) rfl))) (by decide) (backOf (W := 0) (rm5 l Z a0 hw [] nb_1 z_NONE T11.heap n0 Z11 f23) hZ (hw _ (List.mem_of_getElem? (i := 40) rfl)) (hw _ (List.mem_of_getElem? (i := 2) rfl)) (by decide) (by decide)) q25a q25c (g := (mkF m 9 #[.val (.int x0), .val (.ref nb_1), .val (.ref nb_11), .unset, .unset, .unset] [(.ref nb_1)])) rfl (by rw [hml]; rfl) (Steps.refl _) (argsL := []) (rest := []) (lenOf own_pd2 rfl) rfl (by show 2 * 0 + _ ≤ _; exact Nat.le_of_eq rfl) (hb hby at_9) (fun _ _ => ⟨rfl, rfl, (by decide : 2 + 0 ≤ _), (by decide : 16 + 0 ≤ _)⟩)
  dsimp only [Pt.U, Pt.locs, Pt.cells, Pt.slots] at X25 l25 y25 z25 st25 hQ25
  subst l25 y25 z25
  obtain ⟨rfl, N25q, eh25⟩ := hQ25
  have N25 := Fr.app N11 N25q
  refine Goes.tr st25 ?_
  show Goes p e below s _ _ _ T25 (mkF m 12 #[.val (.int x0), .val (.ref nb_1), .val (.ref nb_11), .unset, .unset, .unset] [(.ref z_NONE)])
  obtain ⟨T26, X26, e26, st26⟩ := getS2 X25 hx hZ hown (host := "") (Or.inl (hw _ (List.mem_of_getElem? (i := 41) rfl))) Via.refl eh25 f16 (g := (mkF m 12 #[.val (.int x0), .val (.ref nb_1), .val (.ref nb_11), .unset, .unset, .unset] [(.ref z_NONE)])) rfl (hb hby at_12)
  refine Goes.go st26 ?_
  show Goes p e below s _ _ _ T26 (mkF m 15 #[.val (.int x0), .val (.ref nb_1), .val (.ref nb_11), .unset, .unset, .unset] [(.ref z_NONE), (.ref z_NONE)])
  refine own_acmp X26 hx 18 (same := true) rfl rfl (hb hby at_15) (decide_eq_true rfl) (by decide) (by decide) ?_
  refine own_iconst X26 hx 19 rfl (1 : Int32) (hb hby at_18) (by decide) ?_
  refine own_goto X26 hx 23 (hb hby at_19) (by decide) (by decide) ?_
  refine own_istoreN X26 hx 24 rfl #[.val (.int x0), .val (.ref nb_1), .val (.ref nb_11), .val (.int (1 : Int32)), .unset, .unset] (hb hby at_23) rfl ?_
  refine own_aloadN X26 hx 25 rfl (hb hby at_24) rfl rfl ?_
  obtain ⟨cq27, kq27, q27a, q27b, q27c⟩ := isOf hZ e26 f22
  obtain ⟨_, _, ⟨T27, L27, k27, n27⟩, -, X27, ⟨Lc27, hQ27, l27, y27, z27⟩, st27⟩ := X26.virtualBack hx (y := (⟨"com/example/narrow_gate/narrowgate/model/Standing", "isInRoom", "()Z"⟩ : MethodName)) (z := (⟨"com/example/narrow_gate/narrowgate/model/Standing", "isInRoom", "()Z"⟩ : MethodName)) hown (mvT hZ (hw _ (List.mem_of_getElem? (i := 42) rfl))) (mvT hZ (hw _ (List.mem_of_getElem? (i := 43) rfl))) (notFace_of_selects (args := #[]) (mvT hZ (hw _ (List.mem_of_getElem? (i := 45) rfl)))) (mvT hZ (hw _ (List.mem_of_getElem? (i := 45) rfl))) (mvT hZ (hw _ (List.mem_of_getElem? (i := 44) rfl))) (by decide) (backOf (W := 0) (rm6 l Z a0 hw [] nb_1 T11.heap n0 Z11 f24) hZ (hw _ (List.mem_of_getElem? (i := 46) rfl)) (hw _ (List.mem_of_getElem? (i := 2) rfl)) (by decide) (by decide)) q27a q27c (g := (mkF m 25 #[.val (.int x0), .val (.ref nb_1), .val (.ref nb_11), .val (.int (1 : Int32)), .unset, .unset] [(.ref nb_1)])) rfl (by rw [hml]; rfl) (Steps.refl _) (argsL := []) (rest := []) (lenOf own_pd3 rfl) rfl (by show 2 * 0 + _ ≤ _; exact Nat.le_of_eq rfl) (hb hby at_25) (fun _ _ => ⟨rfl, e26, (by decide : 2 + 0 ≤ _), (by decide : 16 + 0 ≤ _)⟩)
  dsimp only [Pt.U, Pt.locs, Pt.cells, Pt.slots] at X27 l27 y27 z27 st27 hQ27
  subst l27 y27 z27
  obtain ⟨rfl, N27q, eh27⟩ := hQ27
  have N27 := Fr.app N25 N27q
  refine Goes.tr st27 ?_
  show Goes p e below s _ _ _ T27 (mkF m 28 #[.val (.int x0), .val (.ref nb_1), .val (.ref nb_11), .val (.int (1 : Int32)), .unset, .unset] [(.int (0 : Int32))])
  refine own_ifN X27 hx 31 (hb hby at_28) ((if0 _ _).trans (teq ((by decide) : (0 : Int32) = (0 : Int32))).2) rfl ?_
  refine own_iconst X27 hx 32 rfl (1 : Int32) (hb hby at_31) (by decide) ?_
  refine own_goto X27 hx 36 (hb hby at_32) (by decide) (by decide) ?_
  refine own_istore X27 hx 38 rfl #[.val (.int x0), .val (.ref nb_1), .val (.ref nb_11), .val (.int (1 : Int32)), .val (.int (1 : Int32)), .unset] (hb hby at_36) rfl ?_
  refine own_aloadN X27 hx 39 rfl (hb hby at_38) rfl rfl ?_
  obtain ⟨cq28, kq28, q28a, q28b, q28c⟩ := isOf hZ eh27 f22
  obtain ⟨_, _, ⟨T28, L28, k28, n28⟩, -, X28, ⟨Lc28, hQ28, l28, y28, z28⟩, st28⟩ := X27.virtualBack hx (y := (⟨"com/example/narrow_gate/narrowgate/model/Standing", "getKind", "()Lcom/example/narrow_gate/narrowgate/model/Standing$Kind;"⟩ : MethodName)) (z := (⟨"com/example/narrow_gate/narrowgate/model/Standing", "getKind", "()Lcom/example/narrow_gate/narrowgate/model/Standing$Kind;"⟩ : MethodName)) hown (mvT hZ (hw _ (List.mem_of_getElem? (i := 36) rfl))) (mvT hZ (hw _ (List.mem_of_getElem? (i := 37) rfl))) (notFace_of_selects (args := #[]) (mvT hZ (hw _ (List.mem_of_getElem? (i := 39) rfl)))) (mvT hZ (hw _ (List.mem_of_getElem? (i := 39) rfl))) (mvT hZ (hw _ (List.mem_of_getElem? (i := 38) rfl))) (by decide) (backOf (W := 0) (rm5 l Z a0 hw [] nb_1 z_NONE T11.heap n0 Z11 f23) hZ (hw _ (List.mem_of_getElem? (i := 40) rfl)) (hw _ (List.mem_of_getElem? (i := 2) rfl)) (by decide) (by decide)) q28a q28c (g := (mkF m 39 #[.val (.int x0), .val (.ref nb_1), .val (.ref nb_11), .val (.int (1 : Int32)), .val (.int (1 : Int32)), .unset] [(.ref nb_1)])) rfl (by rw [hml]; rfl) (Steps.refl _) (argsL := []) (rest := []) (lenOf own_pd2 rfl) rfl (by show 2 * 0 + _ ≤ _; exact Nat.le_of_eq rfl) (hb hby at_39) (fun _ _ => ⟨rfl, eh27, (by decide : 2 + 0 ≤ _), (by decide : 16 + 0 ≤ _)⟩)
  dsimp only [Pt.U, Pt.locs, Pt.cells, Pt.slots] at X28 l28 y28 z28 st28 hQ28
  subst l28 y28 z28
  obtain ⟨rfl, N28q, eh28⟩ := hQ28
  have N28 := Fr.app N27 N28q
  refine Goes.tr st28 ?_
  show Goes p e below s _ _ _ T28 (mkF m 42 #[.val (.int x0), .val (.ref nb_1), .val (.ref nb_11), .val (.int (1 : Int32)), .val (.int (1 : Int32)), .unset] [(.ref z_NONE)])
  refine own_aloadN X28 hx 43 rfl (hb hby at_42) rfl rfl ?_
  obtain ⟨cq29, kq29, q29a, q29b, q29c⟩ := isOf hZ eh28 f11_1
  obtain ⟨_, _, ⟨T29, L29, k29, n29⟩, -, X29, ⟨Lc29, hQ29, l29, y29, z29⟩, st29⟩ := X28.virtualBack hx (y := (⟨"com/example/narrow_gate/narrowgate/model/Standing", "getKind", "()Lcom/example/narrow_gate/narrowgate/model/Standing$Kind;"⟩ : MethodName)) (z := (⟨"com/example/narrow_gate/narrowgate/model/Standing", "getKind", "()Lcom/example/narrow_gate/narrowgate/model/Standing$Kind;"⟩ : MethodName)) hown (mvT hZ (hw _ (List.mem_of_getElem? (i := 36) rfl))) (mvT hZ (hw _ (List.mem_of_getElem? (i := 37) rfl))) (notFace_of_selects (args := #[]) (mvT hZ (hw _ (List.mem_of_getElem? (i := 39) rfl)))) (mvT hZ (hw _ (List.mem_of_getElem? (i := 39) rfl))) (mvT hZ (hw _ (List.mem_of_getElem? (i := 38) rfl))) (by decide) (backOf (W := 1) (rm5 l Z a0 hw [] nb_11 z_ACTIVE T11.heap n0 Z11 f11_2) hZ (hw _ (List.mem_of_getElem? (i := 40) rfl)) (hw _ (List.mem_of_getElem? (i := 2) rfl)) (by decide) (by decide)) q29a q29c (g := (mkF m 43 #[.val (.int x0), .val (.ref nb_1), .val (.ref nb_11), .val (.int (1 : Int32)), .val (.int (1 : Int32)), .unset] [(.ref nb_11), (.ref z_NONE)])) rfl (by rw [hml]; rfl) (Steps.refl _) (argsL := []) (rest := [(.ref z_NONE)]) (lenOf own_pd2 rfl) rfl (by show 2 * 0 + _ ≤ _; exact Nat.le_of_eq rfl) (hb hby at_43) (fun _ _ => ⟨rfl, eh28, (by decide : 2 + 0 ≤ _), (by decide : 16 + 0 ≤ _)⟩)
  dsimp only [Pt.U, Pt.locs, Pt.cells, Pt.slots] at X29 l29 y29 z29 st29 hQ29
  subst l29 y29 z29
  obtain ⟨rfl, N29q, eh29⟩ := hQ29
  have N29 := Fr.app N28 N29q
  refine Goes.tr st29 ?_
  show Goes p e below s _ _ _ T29 (mkF m 46 #[.val (.int x0), .val (.ref nb_1), .val (.ref nb_11), .val (.int (1 : Int32)), .val (.int (1 : Int32)), .unset] [(.ref z_ACTIVE), (.ref z_NONE)])
  refine own_acmp X29 hx 49 (same := false) rfl rfl (hb hby at_46) (decide_eq_false fun q => ne_z_NONE_z_ACTIVE (Value.ref.inj q)) (by decide) (by decide) ?_
  refine own_iconst X29 hx 50 rfl (1 : Int32) (hb hby at_49) (by decide) ?_
  refine own_goto X29 hx 54 (hb hby at_50) (by decide) (by decide) ?_
  refine own_istore X29 hx 56 rfl #[.val (.int x0), .val (.ref nb_1), .val (.ref nb_11), .val (.int (1 : Int32)), .val (.int (1 : Int32)), .val (.int (1 : Int32))] (hb hby at_54) rfl ?_
  refine own_iloadN X29 hx 57 rfl (hb hby at_56) rfl ?_
  refine own_ifN X29 hx 60 (hb hby at_57) ((if0 _ _).trans (feq ((by decide) : ¬ ((1 : Int32) = (0 : Int32)))).1) rfl ?_
  refine own_iload X29 hx 62 rfl (hb hby at_60) rfl ?_
  refine own_ifN X29 hx 65 (hb hby at_62) ((if0 _ _).trans (feq ((by decide) : ¬ ((1 : Int32) = (0 : Int32)))).1) rfl ?_
  refine own_iload X29 hx 67 rfl (hb hby at_65) rfl ?_
  refine own_ifN X29 hx 70 (hb hby at_67) ((if0 _ _).trans (feq ((by decide) : ¬ ((1 : Int32) = (0 : Int32)))).1) rfl ?_
  refine own_iconst X29 hx 71 rfl (1 : Int32) (hb hby at_70) (by decide) ?_
  refine own_goto X29 hx 75 (hb hby at_71) (by decide) (by decide) ?_
  refine own_retZ X29 hx hlk Bd.returns (by decide) (hb hby at_75) (by decide) (by decide) eh29 ?_
  exact ⟨rfl, N29⟩
set_option maxRecDepth 65536 in
set_option maxHeartbeats 40000000 in
theorem comes_1 {Post : Tables → Env → Array Value → State → Outcome → State → Prop} (hpost : ∀ tb e args s v u, (limb_1_1.after args s (.returned v) u = true ∧ limb_1_2.after args s (.returned v) u = true ∧ True) → FrameEnd s (.returned v) u (Jvm.fieldLocs frame_1_writes args s ++ Jvm.arrayLocs frame_1_arrays args s ++ Jvm.staticLocs frame_1_statics s) 16 128 → Post tb e args s (.returned v) u) :
    ArmFor flags0 classFile x code maxLocals ret World_1 tables_1 room_1 Calls_1 rest_1 Pre_1 Post := by
  intro l hfl _ _ p e ha hc hk s m args below hf hA hF happ hP
  obtain ⟨hcalls, hrest, hpre⟩ := hP
  obtain ⟨-, -, -, hnamed, -, -, -, hat⟩ := (Spec.applies_iff hf).mp happ
  obtain ⟨hg, hn⟩ := and_e (Cond.before_iff.mp (show (Jvm.Cond.and given_1 narrow_1).before args s = true from hpre))
  obtain ⟨gg1, gg2⟩ := and_e hg
  obtain ⟨w0, rfl⟩ : ∃ w0 : Value, args = #[w0] := by
    have hs : args.size = 1 := by simpa [Cond.value, given_1] using gg1
    obtain ⟨L⟩ := args
    match L, hs with
    | [w0], _ => exact ⟨w0, rfl⟩
  have hw := fun d (hd : d ∈ tables_1) => atoms_spec (ws := Jvm.Cond.code x code maxLocals ret :: tables_1) hat d (List.mem_cons_of_mem _ hd)
  have hfit : Fit s := fun {y c} hc i hi => by
    obtain ⟨ha, rfl⟩ := Array.getElem?_eq_some_iff.mp hc
    have q := List.all_eq_true.mp ((Array.all_eq_true_iff_forall_mem.mp hF) _ (Array.getElem_mem ha)) i (List.mem_range.mpr hi)
    simpa [Array.getElem?_eq_getElem hi] using q
  obtain ⟨i0, ei0⟩ := is_v gg2
  obtain rfl : w0 = (.int i0) := Option.some.inj ei0
  obtain ⟨nn1, nn2⟩ := and_e hn
  obtain ⟨z_NONE, ev_z_NONE⟩ := exa_v nn1
  have S_z_NONE := Sta.start ev_z_NONE (Or.inr ⟨(hw _ (List.mem_of_getElem? (i := 7) rfl)), (hw _ (List.mem_of_getElem? (i := 8) rfl))⟩)
  have E_z_NONE := Exa.start ev_z_NONE nn1
  obtain ⟨nn3, nn4⟩ := and_e nn2
  obtain ⟨z_ACTIVE, ev_z_ACTIVE⟩ := exa_v nn3
  have S_z_ACTIVE := Sta.start ev_z_ACTIVE (Or.inr ⟨(hw _ (List.mem_of_getElem? (i := 7) rfl)), (hw _ (List.mem_of_getElem? (i := 35) rfl))⟩)
  have E_z_ACTIVE := Exa.start ev_z_ACTIVE nn3
  obtain ⟨nn5, nn6⟩ := and_e nn4
  have O_ordinal_z_NONE := Fld.start (own_fldv ev_z_NONE (Term.int_eval (2)) nn5)
  have O_ordinal_z_ACTIVE := Fld.start (own_fldv ev_z_ACTIVE (Term.int_eval (1)) nn6)
  have ne_z_NONE_z_ACTIVE : z_NONE ≠ z_ACTIVE := Fld.ne O_ordinal_z_NONE O_ordinal_z_ACTIVE (fun h => absurd (Value.int.inj h) (by decide))
  obtain ⟨n, o, h1, h2, h3, _, L, rfl, ⟨rfl, N⟩, hq⟩ := rm0 l s _ hw tables_1 i0 z_NONE z_ACTIVE s.heap s.heap.size (Nat.le_refl _) S_z_NONE E_z_NONE S_z_ACTIVE E_z_ACTIVE O_ordinal_z_NONE O_ordinal_z_ACTIVE ne_z_NONE_z_ACTIVE p e ha hc hk s m _ below hf ((Spec.applies_iff_loose hf).mp happ).1 ⟨rfl, State.Warmed39.refl s, rfl⟩ trivial
  refine ⟨n, _, h1, h2, h3, hpost _ _ _ _ _ _ ⟨Cond.after_iff.mpr rfl, Cond.after_iff.mpr (eq_i res_at (Term.int_eval (1)) rfl), trivial⟩ ⟨hq.1, hq.2.1, (hq.2.2.sift fun y hy => Or.inr (N y hy)).mono (by decide) (by decide)⟩⟩
theorem main_1_1 : Claimed_1_1 := comes_1 fun _ _ _ _ _ _ h hF => ⟨h.1, hF⟩
theorem main_1_2 : Claimed_1_2 := comes_1 fun _ _ _ _ _ _ h hF => ⟨h.2.1, hF⟩
end Jvm.Pilot.@@N@@
namespace Jvm.Pilot.@@N@@
open Jvm Jvm.ClassFile Sem Op Lib Jvm.Free Jvm.Stand Jvm.Pilot.@@N@@.Jvm.D
/-! MADE BY PROGRAM (witnessworld.py) out of the Statement's table words and the real class files: 14 classes; the members and pool entries that the words name. The judged class is class 1, her method 1. -/
namespace start1
open Jvm.ClassFile
def u (s : String) : CpInfo := .utf8 (stringToUtf16 s)
/-- a pool by its gaps: so many unusable entries, then the entry; so many at the end -/
def gap : Nat → List CpInfo → List CpInfo
  | 0, r => r
  | n + 1, r => .unusable :: gap n r
def poolList (es : List (Nat × CpInfo)) (last : Nat) : List CpInfo := es.foldr (fun e r => gap e.1 (e.2 :: r)) (gap last [])
def pool (es : List (Nat × CpInfo)) (last : Nat) : Array CpInfo := ⟨poolList es last⟩
def fileOf (pool : Array CpInfo) (this : Nat) (attrs : Array Attribute := #[]) (ms : Array MethodInfo := #[]) (fl : Nat := 33) (sup : Nat := 0) (ifs : Array Nat := #[]) (fds : Array FieldInfo := #[]) : ClassFile where
  minorVersion := 0
  majorVersion := 65
  constantPool := pool
  accessFlags := fl
  thisClass := this
  superClass := sup
  interfaces := ifs
  fields := fds
  methods := ms
  attributes := attrs
def plain (name : String) (sup : Option ClassId) : Class where
  name := name
  kind := .ordinary
  loader := none
  accessFlags := 33
  super := sup
  interfaces := #[]
  cf := none
  fields := #[]
  methods := #[]
  instanceTypes := #[]
  staticTypes := #[]
  resolved := #[]
  callSites := []
  init := .initialized
  statics := none
  mirror := none

def pool0 : Array CpInfo := pool [(5, u "<init>"), (0, u "()V"), (1, .class_ 10), (1, u "java/lang/Object")] 113

def k0c0 : Code := { maxStack := 0, maxLocals := 1, code := object_method_1_code, exceptionTable := #[], attributes := #[] }
def k0m0 : Method := { name := "<init>", desc := "()V", sig := { parameters := [], returnType := none }, accessFlags := 1, code := some k0c0 }
/-- java/lang/Object -/
def k0 : Class := { plain "java/lang/Object" none with
  accessFlags := 33
  interfaces := #[]
  cf := some (fileOf pool0 8 #[] #[{ accessFlags := 1, nameIndex := 5, descriptorIndex := 6, attributes := #[] }] 33 0 #[] #[])
  fields := #[]
  methods := #[k0m0]
  instanceTypes := #[]
  staticTypes := #[]
  resolved := Array.replicate 124 none
  statics := none }

def pool1 : Array CpInfo := pool [(2, .class_ 4), (1, u "java/lang/Object"), (0, u "<init>"), (0, u "()V"), (0, .methodref 8 9), (0, .class_ 10), (0, .nameAndType 11 12), (0, u "com/example/narrow_gate/narrowgate/model/Standing"), (0, u "none"), (0, u "()Lcom/example/narrow_gate/narrowgate/model/Standing;"), (0, .methodref 8 14), (0, .nameAndType 15 12), (0, u "ungated"), (0, .methodref 8 17), (0, .nameAndType 18 19), (0, u "getKind"), (0, u "()Lcom/example/narrow_gate/narrowgate/model/Standing$Kind;"), (0, .fieldref 21 22), (0, .class_ 23), (0, .nameAndType 24 25), (0, u "com/example/narrow_gate/narrowgate/model/Standing$Kind"), (0, u "NONE"), (0, u "Lcom/example/narrow_gate/narrowgate/model/Standing$Kind;"), (0, .methodref 8 27), (0, .nameAndType 28 29), (0, u "isInRoom"), (0, u "()Z"), (0, .class_ 31), (0, u "com/example/narrow_gate/narrowgate/model/StandingNonePinLaw"), (2, u "law"), (0, u "(I)Z")] 5

def k1m0 : Method := { name := "<init>", desc := "()V", sig := { parameters := [], returnType := none }, accessFlags := 2, code := none }
def k1c1 : Code := { maxStack := 2, maxLocals := 6, code := code, exceptionTable := #[], attributes := #[] }
def k1m1 : Method := { name := "law", desc := "(I)Z", sig := { parameters := [.int], returnType := some .boolean }, accessFlags := 9, code := some k1c1 }
/-- com/example/narrow_gate/narrowgate/model/StandingNonePinLaw -/
def k1 : Class := { plain "com/example/narrow_gate/narrowgate/model/StandingNonePinLaw" (some 0) with
  accessFlags := 49
  interfaces := #[]
  cf := some (fileOf pool1 30 #[] #[{ accessFlags := 2, nameIndex := 5, descriptorIndex := 6, attributes := #[] }, { accessFlags := 9, nameIndex := 34, descriptorIndex := 35, attributes := #[] }] 49 2 #[] #[])
  fields := #[]
  methods := #[k1m0, k1m1]
  instanceTypes := #[]
  staticTypes := #[]
  resolved := Array.replicate 41 none
  statics := none }

def pool2 : Array CpInfo := pool [(1, .methodref 2 3), (0, .class_ 4), (0, .nameAndType 5 6), (0, u "java/lang/Object"), (0, u "<init>"), (0, u "()V"), (0, .fieldref 8 9), (0, .class_ 10), (0, .nameAndType 11 12), (0, u "com/example/narrow_gate/narrowgate/model/Standing"), (0, u "kind"), (0, u "Lcom/example/narrow_gate/narrowgate/model/Standing$Kind;"), (0, .fieldref 8 14), (0, .nameAndType 15 16), (0, u "inRoom"), (0, u "Z"), (0, .fieldref 8 18), (0, .nameAndType 19 20), (0, u "position"), (0, u "J"), (0, .fieldref 8 22), (0, .nameAndType 23 20), (0, u "queueSize"), (0, .fieldref 8 25), (0, .nameAndType 26 20), (0, u "currentUsers"), (0, .fieldref 8 28), (0, .nameAndType 29 30), (0, u "threshold"), (0, u "I"), (0, .fieldref 8 32), (0, .nameAndType 33 34), (0, u "pace"), (0, u "Lcom/example/narrow_gate/narrowgate/model/Pace;"), (0, .fieldref 8 36), (0, .nameAndType 37 38), (0, u "entryToken"), (0, u "Ljava/lang/String;"), (20, .class_ 61), (1, u "com/example/narrow_gate/narrowgate/model/Standing$Kind"), (5, .methodref 8 68), (0, .nameAndType 5 69), (0, u "(Lcom/example/narrow_gate/narrowgate/model/Standing$Kind;ZJJJILcom/example/narrow_gate/narrowgate/model/Pace;Ljava/lang/String;)V"), (1, .fieldref 59 72), (0, .nameAndType 73 12), (0, u "ACTIVE"), (0, .fieldref 59 75), (0, .nameAndType 76 12), (0, u "NONE"), (28, u "POLL_LAST_POSITION"), (0, u "[J"), (2, u "POLL_SECONDS"), (0, u "[I"), (26, u "ACTIVE_POLL_SECONDS"), (2, u "FAR_POLL_SECONDS"), (8, u "ungated"), (0, u "()Lcom/example/narrow_gate/narrowgate/model/Standing;"), (0, u "none"), (2, u "getKind"), (0, u "()Lcom/example/narrow_gate/narrowgate/model/Standing$Kind;"), (0, u "isInRoom"), (0, u "()Z")] 39

def k2c0 : Code := { maxStack := 3, maxLocals := 12, code := prog_15_method_1_code, exceptionTable := #[], attributes := #[] }
def k2m0 : Method := { name := "<init>", desc := "(Lcom/example/narrow_gate/narrowgate/model/Standing$Kind;ZJJJILcom/example/narrow_gate/narrowgate/model/Pace;Ljava/lang/String;)V", sig := { parameters := [(.object "com/example/narrow_gate/narrowgate/model/Standing$Kind"), .boolean, .long, .long, .long, .int, (.object "com/example/narrow_gate/narrowgate/model/Pace"), (.object "java/lang/String")], returnType := none }, accessFlags := 2, code := some k2c0 }
def k2c1 : Code := { maxStack := 13, maxLocals := 0, code := prog_15_method_4_code, exceptionTable := #[], attributes := #[] }
def k2m1 : Method := { name := "ungated", desc := "()Lcom/example/narrow_gate/narrowgate/model/Standing;", sig := { parameters := [], returnType := some (.object "com/example/narrow_gate/narrowgate/model/Standing") }, accessFlags := 9, code := some k2c1 }
def k2c2 : Code := { maxStack := 13, maxLocals := 0, code := prog_15_method_5_code, exceptionTable := #[], attributes := #[] }
def k2m2 : Method := { name := "none", desc := "()Lcom/example/narrow_gate/narrowgate/model/Standing;", sig := { parameters := [], returnType := some (.object "com/example/narrow_gate/narrowgate/model/Standing") }, accessFlags := 9, code := some k2c2 }
def k2c3 : Code := { maxStack := 1, maxLocals := 1, code := prog_15_method_8_code, exceptionTable := #[], attributes := #[] }
def k2m3 : Method := { name := "getKind", desc := "()Lcom/example/narrow_gate/narrowgate/model/Standing$Kind;", sig := { parameters := [], returnType := some (.object "com/example/narrow_gate/narrowgate/model/Standing$Kind") }, accessFlags := 1, code := some k2c3 }
def k2c4 : Code := { maxStack := 1, maxLocals := 1, code := prog_15_method_9_code, exceptionTable := #[], attributes := #[] }
def k2m4 : Method := { name := "isInRoom", desc := "()Z", sig := { parameters := [], returnType := some .boolean }, accessFlags := 1, code := some k2c4 }
/-- com/example/narrow_gate/narrowgate/model/Standing -/
def k2 : Class := { plain "com/example/narrow_gate/narrowgate/model/Standing" (some 0) with
  accessFlags := 49
  interfaces := #[]
  cf := some (fileOf pool2 8 #[.nestMembers #[59]] #[{ accessFlags := 2, nameIndex := 5, descriptorIndex := 69, attributes := #[] }, { accessFlags := 9, nameIndex := 149, descriptorIndex := 150, attributes := #[] }, { accessFlags := 9, nameIndex := 151, descriptorIndex := 150, attributes := #[] }, { accessFlags := 1, nameIndex := 154, descriptorIndex := 155, attributes := #[] }, { accessFlags := 1, nameIndex := 156, descriptorIndex := 157, attributes := #[] }] 49 2 #[] #[{ accessFlags := 25, nameIndex := 137, descriptorIndex := 30, attributes := #[] }, { accessFlags := 26, nameIndex := 105, descriptorIndex := 106, attributes := #[] }, { accessFlags := 26, nameIndex := 109, descriptorIndex := 110, attributes := #[] }, { accessFlags := 26, nameIndex := 140, descriptorIndex := 30, attributes := #[] }, { accessFlags := 18, nameIndex := 11, descriptorIndex := 12, attributes := #[] }, { accessFlags := 18, nameIndex := 15, descriptorIndex := 16, attributes := #[] }, { accessFlags := 18, nameIndex := 19, descriptorIndex := 20, attributes := #[] }, { accessFlags := 18, nameIndex := 23, descriptorIndex := 20, attributes := #[] }, { accessFlags := 18, nameIndex := 26, descriptorIndex := 20, attributes := #[] }, { accessFlags := 18, nameIndex := 29, descriptorIndex := 30, attributes := #[] }, { accessFlags := 18, nameIndex := 33, descriptorIndex := 34, attributes := #[] }, { accessFlags := 18, nameIndex := 37, descriptorIndex := 38, attributes := #[] }])
  fields := #[{ name := "ACTIVE_POLL_SECONDS", type := .int, accessFlags := 25, slot := 0, constantValue := 0 }, { name := "POLL_LAST_POSITION", type := (.array .long), accessFlags := 26, slot := 1, constantValue := 0 }, { name := "POLL_SECONDS", type := (.array .int), accessFlags := 26, slot := 2, constantValue := 0 }, { name := "FAR_POLL_SECONDS", type := .int, accessFlags := 26, slot := 3, constantValue := 0 }, { name := "kind", type := (.object "com/example/narrow_gate/narrowgate/model/Standing$Kind"), accessFlags := 18, slot := 0, constantValue := 0 }, { name := "inRoom", type := .boolean, accessFlags := 18, slot := 1, constantValue := 0 }, { name := "position", type := .long, accessFlags := 18, slot := 2, constantValue := 0 }, { name := "queueSize", type := .long, accessFlags := 18, slot := 3, constantValue := 0 }, { name := "currentUsers", type := .long, accessFlags := 18, slot := 4, constantValue := 0 }, { name := "threshold", type := .int, accessFlags := 18, slot := 5, constantValue := 0 }, { name := "pace", type := (.object "com/example/narrow_gate/narrowgate/model/Pace"), accessFlags := 18, slot := 6, constantValue := 0 }, { name := "entryToken", type := (.object "java/lang/String"), accessFlags := 18, slot := 7, constantValue := 0 }]
  methods := #[k2m0, k2m1, k2m2, k2m3, k2m4]
  instanceTypes := #[(.object "com/example/narrow_gate/narrowgate/model/Standing$Kind"), .boolean, .long, .long, .long, .int, (.object "com/example/narrow_gate/narrowgate/model/Pace"), (.object "java/lang/String")]
  staticTypes := #[.int, (.array .long), (.array .int), .int]
  resolved := Array.replicate 197 none
  statics := none }

def pool3 : Array CpInfo := pool [(1, .class_ 2), (0, u "java/lang/constant/Constable"), (0, .class_ 4), (0, u "java/lang/Object")] 6

/-- java/lang/constant/Constable -/
def k3 : Class := { plain "java/lang/constant/Constable" (some 0) with
  accessFlags := 1537
  interfaces := #[]
  cf := some (fileOf pool3 1 #[] #[] 1537 3 #[] #[])
  fields := #[]
  methods := #[]
  instanceTypes := #[]
  staticTypes := #[]
  resolved := Array.replicate 11 none
  statics := none }

def pool4 : Array CpInfo := pool [(1, .class_ 2), (0, u "java/lang/Comparable"), (0, .class_ 4), (0, u "java/lang/Object")] 7

/-- java/lang/Comparable -/
def k4 : Class := { plain "java/lang/Comparable" (some 0) with
  accessFlags := 1537
  interfaces := #[]
  cf := some (fileOf pool4 1 #[] #[] 1537 3 #[] #[])
  fields := #[]
  methods := #[]
  instanceTypes := #[]
  staticTypes := #[]
  resolved := Array.replicate 12 none
  statics := none }

def pool5 : Array CpInfo := pool [(1, .class_ 2), (0, u "java/io/Serializable"), (0, .class_ 4), (0, u "java/lang/Object")] 2

/-- java/io/Serializable -/
def k5 : Class := { plain "java/io/Serializable" (some 0) with
  accessFlags := 1537
  interfaces := #[]
  cf := some (fileOf pool5 1 #[] #[] 1537 3 #[] #[])
  fields := #[]
  methods := #[]
  instanceTypes := #[]
  staticTypes := #[]
  resolved := Array.replicate 7 none
  statics := none }

def pool6 : Array CpInfo := pool [(2, .class_ 4), (1, u "java/lang/Enum"), (0, u "name"), (0, u "Ljava/lang/String;"), (2, u "ordinal"), (0, u "I"), (1, .class_ 14), (1, u "java/lang/Object"), (4, u "hash"), (86, .class_ 108), (1, u "java/lang/Enum$EnumDesc"), (2, .class_ 112), (0, u "java/lang/constant/Constable"), (0, .class_ 114), (0, u "java/lang/Comparable"), (0, .class_ 116), (0, u "java/io/Serializable")] 87

/-- java/lang/Enum -/
def k6 : Class := { plain "java/lang/Enum" (some 0) with
  accessFlags := 1057
  interfaces := #[3, 4, 5]
  cf := some (fileOf pool6 2 #[.nestMembers #[106]] #[] 1057 12 #[111, 113, 115] #[{ accessFlags := 18, nameIndex := 5, descriptorIndex := 6, attributes := #[] }, { accessFlags := 18, nameIndex := 9, descriptorIndex := 10, attributes := #[] }, { accessFlags := 2, nameIndex := 19, descriptorIndex := 10, attributes := #[] }])
  fields := #[{ name := "name", type := (.object "java/lang/String"), accessFlags := 18, slot := 0, constantValue := 0 }, { name := "ordinal", type := .int, accessFlags := 18, slot := 1, constantValue := 0 }, { name := "hash", type := .int, accessFlags := 2, slot := 2, constantValue := 0 }]
  methods := #[]
  instanceTypes := #[(.object "java/lang/String"), .int, .int]
  staticTypes := #[]
  resolved := Array.replicate 204 none
  statics := none }

def pool7 : Array CpInfo := pool [(2, .class_ 4), (1, u "com/example/narrow_gate/narrowgate/model/Coded"), (23, .class_ 29), (0, u "java/lang/Object")] 8

/-- com/example/narrow_gate/narrowgate/model/Coded -/
def k7 : Class := { plain "com/example/narrow_gate/narrowgate/model/Coded" (some 0) with
  accessFlags := 1537
  interfaces := #[]
  cf := some (fileOf pool7 2 #[] #[] 1537 28 #[] #[])
  fields := #[]
  methods := #[]
  instanceTypes := #[]
  staticTypes := #[]
  resolved := Array.replicate 38 none
  statics := none }

def pool8 : Array CpInfo := pool [(1, .class_ 2), (0, u "com/example/narrow_gate/narrowgate/model/Standing$Kind"), (2, u "QUEUED"), (0, u "Lcom/example/narrow_gate/narrowgate/model/Standing$Kind;"), (2, u "ACTIVE"), (2, u "NONE"), (2, u "$VALUES"), (0, u "[Lcom/example/narrow_gate/narrowgate/model/Standing$Kind;"), (6, .class_ 25), (1, u "java/lang/Enum"), (14, .class_ 41), (0, u "com/example/narrow_gate/narrowgate/model/Coded"), (12, .class_ 55), (0, u "com/example/narrow_gate/narrowgate/model/Standing")] 2

/-- com/example/narrow_gate/narrowgate/model/Standing$Kind -/
def k8 : Class := { plain "com/example/narrow_gate/narrowgate/model/Standing$Kind" (some 6) with
  accessFlags := 16433
  interfaces := #[7]
  cf := some (fileOf pool8 1 #[.nestHost 54] #[] 16433 23 #[40] #[{ accessFlags := 16409, nameIndex := 5, descriptorIndex := 6, attributes := #[] }, { accessFlags := 16409, nameIndex := 9, descriptorIndex := 6, attributes := #[] }, { accessFlags := 16409, nameIndex := 12, descriptorIndex := 6, attributes := #[] }, { accessFlags := 4122, nameIndex := 15, descriptorIndex := 16, attributes := #[] }])
  fields := #[{ name := "QUEUED", type := (.object "com/example/narrow_gate/narrowgate/model/Standing$Kind"), accessFlags := 16409, slot := 0, constantValue := 0 }, { name := "ACTIVE", type := (.object "com/example/narrow_gate/narrowgate/model/Standing$Kind"), accessFlags := 16409, slot := 1, constantValue := 0 }, { name := "NONE", type := (.object "com/example/narrow_gate/narrowgate/model/Standing$Kind"), accessFlags := 16409, slot := 2, constantValue := 0 }, { name := "$VALUES", type := (.array (.object "com/example/narrow_gate/narrowgate/model/Standing$Kind")), accessFlags := 4122, slot := 3, constantValue := 0 }]
  methods := #[]
  instanceTypes := #[(.object "java/lang/String"), .int, .int]
  staticTypes := #[(.object "com/example/narrow_gate/narrowgate/model/Standing$Kind"), (.object "com/example/narrow_gate/narrowgate/model/Standing$Kind"), (.object "com/example/narrow_gate/narrowgate/model/Standing$Kind"), (.array (.object "com/example/narrow_gate/narrowgate/model/Standing$Kind"))]
  resolved := Array.replicate 58 none
  statics := some 0 }

def pool9 : Array CpInfo := pool [(1, u "java/lang/Cloneable"), (0, .class_ 1), (0, u "java/lang/Object"), (0, .class_ 3)] 3

/-- java/lang/Cloneable -/
def k9 : Class := { plain "java/lang/Cloneable" (some 0) with
  accessFlags := 1537
  interfaces := #[]
  cf := some (fileOf pool9 2 #[] #[] 1537 4 #[] #[])
  fields := #[]
  methods := #[]
  instanceTypes := #[]
  staticTypes := #[]
  resolved := Array.replicate 8 none
  statics := none }

/-- the primitive byte -/
def k10 : Class := { plain "byte" none with kind := .primitive 'B', accessFlags := 0x411 }
/-- [B -/
def k11 : Class := { plain "[B" (some 0) with kind := .array 10 .byte, interfaces := #[9, 5], accessFlags := 1041 }

/-- the primitive int -/
def k12 : Class := { plain "int" none with kind := .primitive 'I', accessFlags := 0x411 }
/-- [I -/
def k13 : Class := { plain "[I" (some 0) with kind := .array 12 .int, interfaces := #[9, 5], accessFlags := 1041 }

def heap : Heap := #[{ cls := 8, slots := #[.null, .ref 2, .ref 1, .null], vm := .statics 8 },
  { cls := 8, slots := #[.null, .int 2, .int 0], vm := .none },
  { cls := 8, slots := #[.null, .int 1, .int 0], vm := .none }]
def classes : Array Class := #[k0, k1, k2, k3, k4, k5, k6, k7, k8, k9, k10, k11, k12, k13]
def interned : List (Array UInt16 × Addr) := []
def slotsUsed : Nat := 10
def theMethod : MethodId := ⟨1, 1⟩
def args0 : Array Value := #[.int 5]
def aboutOver (below : List Frame) : State where
  vm := { classes := classes, interned := interned.toArray }
  heap := heap
  slotsUsed := slotsUsed
  threads := #[{ frames := .invoking theMethod args0 :: below }]
def below0 : List Frame := [.native { method := ⟨0, 0⟩, args := #[] }]
def about1 : State := aboutOver below0
def p0 : Program := .bare "" "" ""
def e0 : Env := launch0.env 0 0 0
theorem w_frames : about1.frames = Frame.invoking theMethod args0 :: below0 := rfl
set_option maxRecDepth 65536 in
theorem w_args : argsFit about1.vm theMethod args0 = true := by decide +kernel
set_option maxRecDepth 65536 in
theorem w_heap : heapFits about1 = true := by decide +kernel
set_option maxRecDepth 65536 in
theorem w_runnable : about1.curStatus? = some .runnable := by decide +kernel
set_option maxRecDepth 65536 in
theorem w_alone : about1.alone = true := by decide +kernel
set_option maxRecDepth 65536 in
theorem w_named : about1.methodNamed? x = some theMethod := by decide +kernel
set_option maxRecDepth 65536 in
theorem w_hears : about1.hears theMethod below0 = true := by decide +kernel
set_option maxRecDepth 65536 in
theorem w_ripe : about1.ripe theMethod args0 below0 = true := by decide +kernel
theorem w_running : about1.status = .running := rfl
set_option maxRecDepth 65536 in
theorem w_room : about1.hasRoom e0.platform room_1 = true :=
  launch0.hasRoom_least _ room_1 (by decide +kernel) (by decide +kernel) (by decide +kernel) (by decide +kernel) (by decide +kernel) (by decide +kernel)
theorem allAtoms_all (ts : List Jvm.Cond) (a : Array Jvm.Value) (st : Jvm.State) : (allAtoms ts).before a st = ts.all (fun c => c.before a st) := by
  induction ts with
  | nil => rfl
  | cons c t ih =>
    show (Jvm.Cond.and c (allAtoms t)).before a st = _
    rw [Jvm.Cond.before_and, ih, List.all_cons]
def words1 : List Jvm.Cond := Jvm.Cond.code x code maxLocals ret :: tables_1
/-- a 'code' word, met by the world's own term for the bytes: nothing is compared byte by byte -/
theorem code_word {y : MethodName} {bytes : ByteArray} {mx : Nat} {rt : Option FieldType} {a : Array Value} {s : State} {m : MethodId} {meth : Method} {c : Code} (h1 : s.methodNamed? y = some m) (h2 : s.vm.method? m = some meth) (h3 : meth.code = some c) (h4 : c.code = bytes)
    (h5 : (c.maxLocals == mx && c.exceptionTable.isEmpty && decide (c.maxStack ≤ mostOperands) && decide (meth.sig.returnType = rt) && !meth.locks && decide (parseMethodDescriptor y.desc = some meth.sig)) = true) : (Jvm.Cond.code y bytes mx rt).before a s = true := by
  simp only [Bool.and_eq_true, beq_iff_eq, Bool.not_eq_true', decide_eq_true_eq] at h5
  obtain ⟨⟨⟨⟨⟨g1, g2⟩, g3⟩, g4⟩, g5⟩, g6⟩ := h5
  simp [Cond.before, Cond.holds, Cond.value, h1, h2, h3, h4, g1, g2, g3, g4, g5, g6]
def isCode : Jvm.Cond → Bool
  | .code _ _ _ _ => true
  | _ => false
theorem all_split {L : List Jvm.Cond} {P : Jvm.Cond → Bool} (h1 : L.all (fun c => isCode c || P c) = true) (h2 : ∀ c ∈ L.filter isCode, P c = true) : L.all P = true := by
  refine List.all_eq_true.mpr fun c hc => ?_
  have h := List.all_eq_true.mp h1 c hc
  rcases Bool.eq_false_or_eq_true (isCode c) with hi | hi
  · exact h2 c (List.mem_filter.mpr ⟨hc, hi⟩)
  · simpa [hi] using h
set_option maxRecDepth 65536 in
theorem w_c0 : (Jvm.Cond.code x code maxLocals ret).before args0 about1 = true := code_word (m := ⟨1, 1⟩) (meth := k1m1) (c := k1c1) (by decide +kernel) rfl rfl rfl (by decide +kernel)
set_option maxRecDepth 65536 in
theorem w_c1 : (Jvm.Cond.code ({ cls := "com/example/narrow_gate/narrowgate/model/Standing", name := "none", desc := "()Lcom/example/narrow_gate/narrowgate/model/Standing;" } : Jvm.MethodName) prog_15_method_5_code (0 : Nat) (Option.some (Jvm.ClassFile.FieldType.object "com/example/narrow_gate/narrowgate/model/Standing"))).before args0 about1 = true := code_word (m := ⟨2, 2⟩) (meth := k2m2) (c := k2c2) (by decide +kernel) rfl rfl rfl (by decide +kernel)
set_option maxRecDepth 65536 in
theorem w_c2 : (Jvm.Cond.code ({ cls := "com/example/narrow_gate/narrowgate/model/Standing", name := "<init>", desc := "(Lcom/example/narrow_gate/narrowgate/model/Standing$Kind;ZJJJILcom/example/narrow_gate/narrowgate/model/Pace;Ljava/lang/String;)V" } : Jvm.MethodName) prog_15_method_1_code (12 : Nat) (Option.none : Option Jvm.ClassFile.FieldType)).before args0 about1 = true := code_word (m := ⟨2, 0⟩) (meth := k2m0) (c := k2c0) (by decide +kernel) rfl rfl rfl (by decide +kernel)
set_option maxRecDepth 65536 in
theorem w_c3 : (Jvm.Cond.code ({ cls := "java/lang/Object", name := "<init>", desc := "()V" } : Jvm.MethodName) object_method_1_code (1 : Nat) (Option.none : Option Jvm.ClassFile.FieldType)).before args0 about1 = true := code_word (m := ⟨0, 0⟩) (meth := k0m0) (c := k0c0) (by decide +kernel) rfl rfl rfl (by decide +kernel)
set_option maxRecDepth 65536 in
theorem w_c4 : (Jvm.Cond.code ({ cls := "com/example/narrow_gate/narrowgate/model/Standing", name := "ungated", desc := "()Lcom/example/narrow_gate/narrowgate/model/Standing;" } : Jvm.MethodName) prog_15_method_4_code (0 : Nat) (Option.some (Jvm.ClassFile.FieldType.object "com/example/narrow_gate/narrowgate/model/Standing"))).before args0 about1 = true := code_word (m := ⟨2, 1⟩) (meth := k2m1) (c := k2c1) (by decide +kernel) rfl rfl rfl (by decide +kernel)
set_option maxRecDepth 65536 in
theorem w_c5 : (Jvm.Cond.code ({ cls := "com/example/narrow_gate/narrowgate/model/Standing", name := "getKind", desc := "()Lcom/example/narrow_gate/narrowgate/model/Standing$Kind;" } : Jvm.MethodName) prog_15_method_8_code (1 : Nat) (Option.some (Jvm.ClassFile.FieldType.object "com/example/narrow_gate/narrowgate/model/Standing$Kind"))).before args0 about1 = true := code_word (m := ⟨2, 3⟩) (meth := k2m3) (c := k2c3) (by decide +kernel) rfl rfl rfl (by decide +kernel)
set_option maxRecDepth 65536 in
theorem w_c6 : (Jvm.Cond.code ({ cls := "com/example/narrow_gate/narrowgate/model/Standing", name := "isInRoom", desc := "()Z" } : Jvm.MethodName) prog_15_method_9_code (1 : Nat) (Option.some Jvm.ClassFile.FieldType.boolean)).before args0 about1 = true := code_word (m := ⟨2, 4⟩) (meth := k2m4) (c := k2c4) (by decide +kernel) rfl rfl rfl (by decide +kernel)
def codes1 : List Jvm.Cond := [Jvm.Cond.code x code maxLocals ret, Jvm.Cond.code ({ cls := "com/example/narrow_gate/narrowgate/model/Standing", name := "none", desc := "()Lcom/example/narrow_gate/narrowgate/model/Standing;" } : Jvm.MethodName) prog_15_method_5_code (0 : Nat) (Option.some (Jvm.ClassFile.FieldType.object "com/example/narrow_gate/narrowgate/model/Standing")), Jvm.Cond.code ({ cls := "com/example/narrow_gate/narrowgate/model/Standing", name := "<init>", desc := "(Lcom/example/narrow_gate/narrowgate/model/Standing$Kind;ZJJJILcom/example/narrow_gate/narrowgate/model/Pace;Ljava/lang/String;)V" } : Jvm.MethodName) prog_15_method_1_code (12 : Nat) (Option.none : Option Jvm.ClassFile.FieldType), Jvm.Cond.code ({ cls := "java/lang/Object", name := "<init>", desc := "()V" } : Jvm.MethodName) object_method_1_code (1 : Nat) (Option.none : Option Jvm.ClassFile.FieldType), Jvm.Cond.code ({ cls := "com/example/narrow_gate/narrowgate/model/Standing", name := "ungated", desc := "()Lcom/example/narrow_gate/narrowgate/model/Standing;" } : Jvm.MethodName) prog_15_method_4_code (0 : Nat) (Option.some (Jvm.ClassFile.FieldType.object "com/example/narrow_gate/narrowgate/model/Standing")), Jvm.Cond.code ({ cls := "com/example/narrow_gate/narrowgate/model/Standing", name := "getKind", desc := "()Lcom/example/narrow_gate/narrowgate/model/Standing$Kind;" } : Jvm.MethodName) prog_15_method_8_code (1 : Nat) (Option.some (Jvm.ClassFile.FieldType.object "com/example/narrow_gate/narrowgate/model/Standing$Kind")), Jvm.Cond.code ({ cls := "com/example/narrow_gate/narrowgate/model/Standing", name := "isInRoom", desc := "()Z" } : Jvm.MethodName) prog_15_method_9_code (1 : Nat) (Option.some Jvm.ClassFile.FieldType.boolean)]
set_option maxRecDepth 65536 in
theorem codes_eq : words1.filter isCode = codes1 := rfl
theorem w_codes : ∀ c ∈ words1.filter isCode, c.before args0 about1 = true := by
  rw [codes_eq]
  intro c hc
  simp only [codes1, List.mem_cons, List.not_mem_nil, or_false] at hc
  rcases hc with rfl | rfl | rfl | rfl | rfl | rfl | rfl
  · exact w_c0
  · exact w_c1
  · exact w_c2
  · exact w_c3
  · exact w_c4
  · exact w_c5
  · exact w_c6
set_option maxRecDepth 65536 in
theorem w_t1 : (words1.take 24).all (fun c => isCode c || c.before args0 about1) = true := by decide +kernel
set_option maxRecDepth 65536 in
theorem w_t2 : (words1.drop 24).all (fun c => isCode c || c.before args0 about1) = true := by decide +kernel
theorem w_tables : (allAtoms (Jvm.Cond.code x code maxLocals ret :: tables_1)).before args0 about1 = true := by
  rw [allAtoms_all]
  show words1.all (fun c => c.before args0 about1) = true
  refine all_split ?_ w_codes
  rw [← List.take_append_drop 24 words1, List.all_append, w_t1, w_t2]
  rfl
set_option maxRecDepth 65536 in
theorem w_case : (Jvm.Cond.and given_1 narrow_1).before args0 about1 = true := by decide +kernel
theorem w_applies : (headSpec (Jvm.Cond.code x code maxLocals ret :: tables_1) room_1).applies x e0.platform about1 = true :=
  (Spec.applies_iff w_frames).mpr ⟨w_running, w_runnable, w_alone, w_named, w_hears, w_ripe, w_room, w_tables⟩
theorem atStart : AtStart classFile x code maxLocals ret World_1 tables_1 room_1 Calls_1 rest_1 Pre_1 launch0 p0 e0 about1 theMethod args0 below0 :=
  ⟨lists_1, trivial, launch0.admits_env _ _ _, launch0.least_env, fairChoices_fair.cas, fairChoices_fair.clock, w_frames, w_args, w_heap, w_applies, trivial, trivial, w_case⟩
end start1
theorem witness_1 : WitnessClaimed_1 := ⟨start1.p0, start1.e0, start1.about1, start1.theMethod, start1.args0, start1.below0, start1.atStart⟩
end Jvm.Pilot.@@N@@
