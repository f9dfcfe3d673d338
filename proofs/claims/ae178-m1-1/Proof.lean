import JvmDerived
import JvmDerived.Pilot.@@N@@Statement
import JvmDerived.Pilot.@@N@@Code
set_option linter.unusedVariables false
set_option linter.unusedSimpArgs false
namespace Jvm.Pilot.@@N@@
open Jvm Jvm.ClassFile Sem Op Lib Jvm.Free Jvm.Stand Jvm.LawKit Jvm.RoadKit Bundle Jvm.Pilot.@@N@@.Jvm.D
section Own
variable {p : Program} {l : Launch} {e : Env} {R : Room} {s : State} {m : MethodId} {args : Array Value} {below : List Frame} {meth : Method} {c : Code} {T : State} {locs : List Loc} {cells slots : Nat} {C S : Nat} {Q : Option Value → Heap → List Loc → Prop}
/-- from the state T with the frame g on top the run comes to the method's end, and Q holds there -/
def Goes (p : Program) (e : Env) (below : List Frame) (s : State) (C S : Nat) (Q : Option Value → Heap → List Loc → Prop) (T : State) (g : JFrame) : Prop :=
  ∃ s₂ o, Steps p.tables e below (T.setTop g) s₂ ∧ s₂.status = .running ∧ Ended s₂ below o ∧ ∃ v L, o = .returned v ∧ Q v s₂.heap L ∧ FrameEnd s o s₂ L C S
theorem Goes.go {T' : State} {g g' : JFrame} (st : ∀ t, Steps p.tables e below (T'.setTop g') t → Steps p.tables e below (T.setTop g) t) (h : Goes p e below s C S Q T' g') : Goes p e below s C S Q T g := by
  obtain ⟨s₂, o, h1, h2⟩ := h; exact ⟨s₂, o, st _ h1, h2⟩
theorem Goes.tr {T' : State} {g g' : JFrame} (st : Steps p.tables e below (T.setTop g) (T'.setTop g')) (h : Goes p e below s C S Q T' g') : Goes p e below s C S Q T g := Goes.go (fun _ k => st.trans k) h
/-- a value comes back -/
theorem own_ret (X : Stand p l e R s m args below meth c T locs cells slots) (hx : p.tables.exec = Jvm.exec) (hlk : meth.locks = false) {t : FieldType} (hret : meth.sig.returnType = some t) {i : Instr} {w : Value} (hn : narrow t w = w)
    (hi : (i = .ireturn ∧ (t = .int ∨ t = .boolean ∨ t = .byte ∨ t = .char ∨ t = .short) ∧ ∃ z, w = .int z) ∨ (i = .lreturn ∧ t = .long ∧ ∃ z, w = .long z) ∨ (i = .dreturn ∧ t = .double ∧ ∃ z, w = .double z) ∨ (i = .freturn ∧ t = .float ∧ ∃ z, w = .float z) ∨ (i = .areturn ∧ t.isReference = true ∧ w.isRef = true))
    {pc : Nat} {Ls : Array Slot} {rest : List Value} (hd : decode c.code pc = .ok (i, 1)) (hC : cells ≤ C) (hS : slots ≤ S) {h : Heap} (eT : T.heap = h) (hQ : Q (some w) h locs) : Goes p e below s C S Q T (mkF m pc Ls (w :: rest)) := by
  obtain ⟨fs, hr, hrun, hended, hW, hsame⟩ := X.leave (v := some w) (fun h => by rw [hret] at h; cases h)
  subst eT
  exact ⟨_, _, retOut X hx hret hn hi hd hr, hrun, hended, _, _, rfl, hQ, ⟨_, rfl⟩, hW, hsame.mono hC hS⟩
theorem own_retI (X : Stand p l e R s m args below meth c T locs cells slots) (hx : p.tables.exec = Jvm.exec) (hlk : meth.locks = false) (hret : meth.sig.returnType = some .int) {z : Int32}
    {pc : Nat} {Ls : Array Slot} {rest : List Value} (hd : decode c.code pc = .ok (.ireturn, 1)) (hC : cells ≤ C) (hS : slots ≤ S) {h : Heap} (eT : T.heap = h) (hQ : Q (some (.int z)) h locs) : Goes p e below s C S Q T (mkF m pc Ls (.int z :: rest)) :=
  own_ret X hx hlk hret rfl (Or.inl ⟨rfl, Or.inl rfl, z, rfl⟩) hd hC hS eT hQ
theorem own_retZ (X : Stand p l e R s m args below meth c T locs cells slots) (hx : p.tables.exec = Jvm.exec) (hlk : meth.locks = false) (hret : meth.sig.returnType = some .boolean) {z : Int32} (hn : narrow .boolean (.int z) = .int z)
    {pc : Nat} {Ls : Array Slot} {rest : List Value} (hd : decode c.code pc = .ok (.ireturn, 1)) (hC : cells ≤ C) (hS : slots ≤ S) {h : Heap} (eT : T.heap = h) (hQ : Q (some (.int z)) h locs) : Goes p e below s C S Q T (mkF m pc Ls (.int z :: rest)) :=
  own_ret X hx hlk hret hn (Or.inl ⟨rfl, Or.inr (Or.inl rfl), z, rfl⟩) hd hC hS eT hQ
theorem own_retJ (X : Stand p l e R s m args below meth c T locs cells slots) (hx : p.tables.exec = Jvm.exec) (hlk : meth.locks = false) (hret : meth.sig.returnType = some .long) {z : Int64}
    {pc : Nat} {Ls : Array Slot} {rest : List Value} (hd : decode c.code pc = .ok (.lreturn, 1)) (hC : cells ≤ C) (hS : slots ≤ S) {h : Heap} (eT : T.heap = h) (hQ : Q (some (.long z)) h locs) : Goes p e below s C S Q T (mkF m pc Ls (.long z :: rest)) :=
  own_ret X hx hlk hret rfl (Or.inr (Or.inl ⟨rfl, rfl, z, rfl⟩)) hd hC hS eT hQ
theorem own_narR {t : FieldType} {w : Value} (hw : w.isRef = true) : narrow t w = w := by
  rcases ref_cases hw with rfl | ⟨a, rfl⟩ <;> cases t <;> rfl
theorem own_retR (X : Stand p l e R s m args below meth c T locs cells slots) (hx : p.tables.exec = Jvm.exec) (hlk : meth.locks = false) {t : FieldType} (hret : meth.sig.returnType = some t) (ht : t.isReference = true) {w : Value} (hw : w.isRef = true)
    {pc : Nat} {Ls : Array Slot} {rest : List Value} (hd : decode c.code pc = .ok (.areturn, 1)) (hC : cells ≤ C) (hS : slots ≤ S) {h : Heap} (eT : T.heap = h) (hQ : Q (some w) h locs) : Goes p e below s C S Q T (mkF m pc Ls (w :: rest)) :=
  own_ret X hx hlk hret (own_narR hw) (Or.inr (Or.inr (Or.inr (Or.inr ⟨rfl, ht, hw⟩)))) hd hC hS eT hQ
theorem own_retV (X : Stand p l e R s m args below meth c T locs cells slots) (hx : p.tables.exec = Jvm.exec) (hlk : meth.locks = false) (hret : meth.sig.returnType = none)
    {pc : Nat} {Ls : Array Slot} (hd : decode c.code pc = .ok (.return_, 1)) (hC : cells ≤ C) (hS : slots ≤ S) {h : Heap} (eT : T.heap = h) (hQ : Q none h locs) : Goes p e below s C S Q T (mkF m pc Ls []) := by
  obtain ⟨fs, hr, hrun, hended, hW, hsame⟩ := X.leave (v := none) (fun _ => rfl)
  subst eT
  exact ⟨_, _, X.returnOut hx hret hd hr, hrun, hended, _, _, rfl, hQ, ⟨_, rfl⟩, hW, hsame.mono hC hS⟩
/-- the entry -/
theorem own_enter {s₁ : State} {maxL : Nat} {as' : Array Value} {Ls : Array Slot} (hE : entryFrame m as' maxL = mkF m 0 Ls []) (h : Goes p e below s C S Q s₁ (mkF m 0 Ls [])) :
    ∃ s₂ o, Steps p.tables e below (s₁.setTop (entryFrame m as' maxL)) s₂ ∧ s₂.status = .running ∧ Ended s₂ below o ∧ ∃ v L, o = .returned v ∧ Q v s₂.heap L ∧ FrameEnd s o s₂ L C S := by
  rw [hE]; exact h
section Steps1
variable {pc : Nat} {Ls : Array Slot} {rest : List Value}
theorem own_iadd (X : Stand p l e R s m args below meth c T locs cells slots) (hx : p.tables.exec = Jvm.exec) (pc' : Nat) (hp : pc + 1 = pc') {x y z : Int32} (hd : decode c.code pc = .ok (.iadd, 1)) (hz : x + y = z) (h : Goes p e below s C S Q T (mkF m pc' Ls (.int z :: rest))) : Goes p e below s C S Q T (mkF m pc Ls (.int y :: .int x :: rest)) := by
  subst hp; subst hz; exact Goes.go (fun _ k => XS.iadd X.here hx rfl hd rfl k) h
theorem own_isub (X : Stand p l e R s m args below meth c T locs cells slots) (hx : p.tables.exec = Jvm.exec) (pc' : Nat) (hp : pc + 1 = pc') {x y z : Int32} (hd : decode c.code pc = .ok (.isub, 1)) (hz : x - y = z) (h : Goes p e below s C S Q T (mkF m pc' Ls (.int z :: rest))) : Goes p e below s C S Q T (mkF m pc Ls (.int y :: .int x :: rest)) := by
  subst hp; subst hz; exact Goes.go (fun _ k => XS.isub X.here hx rfl hd rfl k) h
theorem own_imul (X : Stand p l e R s m args below meth c T locs cells slots) (hx : p.tables.exec = Jvm.exec) (pc' : Nat) (hp : pc + 1 = pc') {x y z : Int32} (hd : decode c.code pc = .ok (.imul, 1)) (hz : x * y = z) (h : Goes p e below s C S Q T (mkF m pc' Ls (.int z :: rest))) : Goes p e below s C S Q T (mkF m pc Ls (.int y :: .int x :: rest)) := by
  subst hp; subst hz; exact Goes.go (fun _ k => XS.imul X.here hx rfl hd rfl k) h
theorem own_iand (X : Stand p l e R s m args below meth c T locs cells slots) (hx : p.tables.exec = Jvm.exec) (pc' : Nat) (hp : pc + 1 = pc') {x y z : Int32} (hd : decode c.code pc = .ok (.iand, 1)) (hz : x &&& y = z) (h : Goes p e below s C S Q T (mkF m pc' Ls (.int z :: rest))) : Goes p e below s C S Q T (mkF m pc Ls (.int y :: .int x :: rest)) := by
  subst hp; subst hz; exact Goes.go (fun _ k => XS.iand X.here hx rfl hd rfl k) h
theorem own_ior (X : Stand p l e R s m args below meth c T locs cells slots) (hx : p.tables.exec = Jvm.exec) (pc' : Nat) (hp : pc + 1 = pc') {x y z : Int32} (hd : decode c.code pc = .ok (.ior, 1)) (hz : x ||| y = z) (h : Goes p e below s C S Q T (mkF m pc' Ls (.int z :: rest))) : Goes p e below s C S Q T (mkF m pc Ls (.int y :: .int x :: rest)) := by
  subst hp; subst hz; exact Goes.go (fun _ k => XS.ior X.here hx rfl hd rfl k) h
theorem own_ixor (X : Stand p l e R s m args below meth c T locs cells slots) (hx : p.tables.exec = Jvm.exec) (pc' : Nat) (hp : pc + 1 = pc') {x y z : Int32} (hd : decode c.code pc = .ok (.ixor, 1)) (hz : x ^^^ y = z) (h : Goes p e below s C S Q T (mkF m pc' Ls (.int z :: rest))) : Goes p e below s C S Q T (mkF m pc Ls (.int y :: .int x :: rest)) := by
  subst hp; subst hz; exact Goes.go (fun _ k => XS.ixor X.here hx rfl hd rfl k) h
theorem own_idiv (X : Stand p l e R s m args below meth c T locs cells slots) (hx : p.tables.exec = Jvm.exec) (pc' : Nat) (hp : pc + 1 = pc') {x y z : Int32} (hd : decode c.code pc = .ok (.idiv, 1)) (hy : y ≠ 0) (hz : x / y = z) (h : Goes p e below s C S Q T (mkF m pc' Ls (.int z :: rest))) : Goes p e below s C S Q T (mkF m pc Ls (.int y :: .int x :: rest)) := by
  subst hp; subst hz; exact Goes.go (fun _ k => XS.idiv X.here hx rfl hd rfl hy k) h
theorem own_ishl (X : Stand p l e R s m args below meth c T locs cells slots) (hx : p.tables.exec = Jvm.exec) (pc' : Nat) (hp : pc + 1 = pc') {x z : Int32} {y : Int32} (hd : decode c.code pc = .ok (.ishl, 1)) (hz : (x <<< (y &&& 31)) = z) (h : Goes p e below s C S Q T (mkF m pc' Ls (.int z :: rest))) : Goes p e below s C S Q T (mkF m pc Ls (.int y :: .int x :: rest)) := by
  subst hp; subst hz; exact Goes.go (fun _ k => XS.ishl X.here hx rfl hd rfl k) h
theorem own_ishr (X : Stand p l e R s m args below meth c T locs cells slots) (hx : p.tables.exec = Jvm.exec) (pc' : Nat) (hp : pc + 1 = pc') {x z : Int32} {y : Int32} (hd : decode c.code pc = .ok (.ishr, 1)) (hz : (x >>> (y &&& 31)) = z) (h : Goes p e below s C S Q T (mkF m pc' Ls (.int z :: rest))) : Goes p e below s C S Q T (mkF m pc Ls (.int y :: .int x :: rest)) := by
  subst hp; subst hz; exact Goes.go (fun _ k => XS.ishr X.here hx rfl hd rfl k) h
theorem own_iushr (X : Stand p l e R s m args below meth c T locs cells slots) (hx : p.tables.exec = Jvm.exec) (pc' : Nat) (hp : pc + 1 = pc') {x z : Int32} {y : Int32} (hd : decode c.code pc = .ok (.iushr, 1)) (hz : ((x.toUInt32 >>> (y &&& 31).toUInt32).toInt32) = z) (h : Goes p e below s C S Q T (mkF m pc' Ls (.int z :: rest))) : Goes p e below s C S Q T (mkF m pc Ls (.int y :: .int x :: rest)) := by
  subst hp; subst hz; exact Goes.go (fun _ k => XS.iushr X.here hx rfl hd rfl k) h
theorem own_ladd (X : Stand p l e R s m args below meth c T locs cells slots) (hx : p.tables.exec = Jvm.exec) (pc' : Nat) (hp : pc + 1 = pc') {x y z : Int64} (hd : decode c.code pc = .ok (.ladd, 1)) (hz : x + y = z) (h : Goes p e below s C S Q T (mkF m pc' Ls (.long z :: rest))) : Goes p e below s C S Q T (mkF m pc Ls (.long y :: .long x :: rest)) := by
  subst hp; subst hz; exact Goes.go (fun _ k => XS.ladd X.here hx rfl hd rfl k) h
theorem own_lsub (X : Stand p l e R s m args below meth c T locs cells slots) (hx : p.tables.exec = Jvm.exec) (pc' : Nat) (hp : pc + 1 = pc') {x y z : Int64} (hd : decode c.code pc = .ok (.lsub, 1)) (hz : x - y = z) (h : Goes p e below s C S Q T (mkF m pc' Ls (.long z :: rest))) : Goes p e below s C S Q T (mkF m pc Ls (.long y :: .long x :: rest)) := by
  subst hp; subst hz; exact Goes.go (fun _ k => XS.lsub X.here hx rfl hd rfl k) h
theorem own_lmul (X : Stand p l e R s m args below meth c T locs cells slots) (hx : p.tables.exec = Jvm.exec) (pc' : Nat) (hp : pc + 1 = pc') {x y z : Int64} (hd : decode c.code pc = .ok (.lmul, 1)) (hz : x * y = z) (h : Goes p e below s C S Q T (mkF m pc' Ls (.long z :: rest))) : Goes p e below s C S Q T (mkF m pc Ls (.long y :: .long x :: rest)) := by
  subst hp; subst hz; exact Goes.go (fun _ k => XS.lmul X.here hx rfl hd rfl k) h
theorem own_land (X : Stand p l e R s m args below meth c T locs cells slots) (hx : p.tables.exec = Jvm.exec) (pc' : Nat) (hp : pc + 1 = pc') {x y z : Int64} (hd : decode c.code pc = .ok (.land, 1)) (hz : x &&& y = z) (h : Goes p e below s C S Q T (mkF m pc' Ls (.long z :: rest))) : Goes p e below s C S Q T (mkF m pc Ls (.long y :: .long x :: rest)) := by
  subst hp; subst hz; exact Goes.go (fun _ k => XS.land X.here hx rfl hd rfl k) h
theorem own_lor (X : Stand p l e R s m args below meth c T locs cells slots) (hx : p.tables.exec = Jvm.exec) (pc' : Nat) (hp : pc + 1 = pc') {x y z : Int64} (hd : decode c.code pc = .ok (.lor, 1)) (hz : x ||| y = z) (h : Goes p e below s C S Q T (mkF m pc' Ls (.long z :: rest))) : Goes p e below s C S Q T (mkF m pc Ls (.long y :: .long x :: rest)) := by
  subst hp; subst hz; exact Goes.go (fun _ k => XS.lor X.here hx rfl hd rfl k) h
theorem own_lxor (X : Stand p l e R s m args below meth c T locs cells slots) (hx : p.tables.exec = Jvm.exec) (pc' : Nat) (hp : pc + 1 = pc') {x y z : Int64} (hd : decode c.code pc = .ok (.lxor, 1)) (hz : x ^^^ y = z) (h : Goes p e below s C S Q T (mkF m pc' Ls (.long z :: rest))) : Goes p e below s C S Q T (mkF m pc Ls (.long y :: .long x :: rest)) := by
  subst hp; subst hz; exact Goes.go (fun _ k => XS.lxor X.here hx rfl hd rfl k) h
theorem own_ldiv (X : Stand p l e R s m args below meth c T locs cells slots) (hx : p.tables.exec = Jvm.exec) (pc' : Nat) (hp : pc + 1 = pc') {x y z : Int64} (hd : decode c.code pc = .ok (.ldiv, 1)) (hy : y ≠ 0) (hz : x / y = z) (h : Goes p e below s C S Q T (mkF m pc' Ls (.long z :: rest))) : Goes p e below s C S Q T (mkF m pc Ls (.long y :: .long x :: rest)) := by
  subst hp; subst hz; exact Goes.go (fun _ k => XS.ldiv X.here hx rfl hd rfl hy k) h
theorem own_lshl (X : Stand p l e R s m args below meth c T locs cells slots) (hx : p.tables.exec = Jvm.exec) (pc' : Nat) (hp : pc + 1 = pc') {x z : Int64} {y : Int32} (hd : decode c.code pc = .ok (.lshl, 1)) (hz : (x <<< (y &&& 0x3f).toInt64) = z) (h : Goes p e below s C S Q T (mkF m pc' Ls (.long z :: rest))) : Goes p e below s C S Q T (mkF m pc Ls (.int y :: .long x :: rest)) := by
  subst hp; subst hz; exact Goes.go (fun _ k => XS.lshl X.here hx rfl hd rfl k) h
theorem own_lshr (X : Stand p l e R s m args below meth c T locs cells slots) (hx : p.tables.exec = Jvm.exec) (pc' : Nat) (hp : pc + 1 = pc') {x z : Int64} {y : Int32} (hd : decode c.code pc = .ok (.lshr, 1)) (hz : (x >>> (y &&& 0x3f).toInt64) = z) (h : Goes p e below s C S Q T (mkF m pc' Ls (.long z :: rest))) : Goes p e below s C S Q T (mkF m pc Ls (.int y :: .long x :: rest)) := by
  subst hp; subst hz; exact Goes.go (fun _ k => XS.lshr X.here hx rfl hd rfl k) h
theorem own_lushr (X : Stand p l e R s m args below meth c T locs cells slots) (hx : p.tables.exec = Jvm.exec) (pc' : Nat) (hp : pc + 1 = pc') {x z : Int64} {y : Int32} (hd : decode c.code pc = .ok (.lushr, 1)) (hz : ((x.toUInt64 >>> (y &&& 0x3f).toInt64.toUInt64).toInt64) = z) (h : Goes p e below s C S Q T (mkF m pc' Ls (.long z :: rest))) : Goes p e below s C S Q T (mkF m pc Ls (.int y :: .long x :: rest)) := by
  subst hp; subst hz; exact Goes.go (fun _ k => XS.lushr X.here hx rfl hd rfl k) h
theorem own_irem (X : Stand p l e R s m args below meth c T locs cells slots) (hx : p.tables.exec = Jvm.exec) (pc' : Nat) (hp : pc + 1 = pc') {x y z : Int32} (hd : decode c.code pc = .ok (.irem, 1)) (hy : y ≠ 0) (hz : x % y = z) (h : Goes p e below s C S Q T (mkF m pc' Ls (.int z :: rest))) : Goes p e below s C S Q T (mkF m pc Ls (.int y :: .int x :: rest)) := by
  subst hp; subst hz; exact Goes.go (fun _ k => iremM X hx rfl hd rfl hy k) h
theorem own_lrem (X : Stand p l e R s m args below meth c T locs cells slots) (hx : p.tables.exec = Jvm.exec) (pc' : Nat) (hp : pc + 1 = pc') {x y z : Int64} (hd : decode c.code pc = .ok (.lrem, 1)) (hy : y ≠ 0) (hz : x % y = z) (h : Goes p e below s C S Q T (mkF m pc' Ls (.long z :: rest))) : Goes p e below s C S Q T (mkF m pc Ls (.long y :: .long x :: rest)) := by
  subst hp; subst hz; exact Goes.go (fun _ k => XS.lrem X.here hx rfl hd rfl hy (by rw [lrem_mod]; exact k)) h
theorem own_ineg (X : Stand p l e R s m args below meth c T locs cells slots) (hx : p.tables.exec = Jvm.exec) (pc' : Nat) (hp : pc + 1 = pc') {x : Int32} {z : Int32} (hd : decode c.code pc = .ok (.ineg, 1)) (hz : -x = z) (h : Goes p e below s C S Q T (mkF m pc' Ls (.int z :: rest))) : Goes p e below s C S Q T (mkF m pc Ls (.int x :: rest)) := by
  subst hp; subst hz; exact Goes.go (fun _ k => XS.ineg X.here hx rfl hd rfl k) h
theorem own_lneg (X : Stand p l e R s m args below meth c T locs cells slots) (hx : p.tables.exec = Jvm.exec) (pc' : Nat) (hp : pc + 1 = pc') {x : Int64} {z : Int64} (hd : decode c.code pc = .ok (.lneg, 1)) (hz : -x = z) (h : Goes p e below s C S Q T (mkF m pc' Ls (.long z :: rest))) : Goes p e below s C S Q T (mkF m pc Ls (.long x :: rest)) := by
  subst hp; subst hz; exact Goes.go (fun _ k => XS.lneg X.here hx rfl hd rfl k) h
theorem own_i2l (X : Stand p l e R s m args below meth c T locs cells slots) (hx : p.tables.exec = Jvm.exec) (pc' : Nat) (hp : pc + 1 = pc') {x : Int32} {z : Int64} (hd : decode c.code pc = .ok (.i2l, 1)) (hz : x.toInt64 = z) (h : Goes p e below s C S Q T (mkF m pc' Ls (.long z :: rest))) : Goes p e below s C S Q T (mkF m pc Ls (.int x :: rest)) := by
  subst hp; subst hz; exact Goes.go (fun _ k => XS.i2l X.here hx rfl hd rfl k) h
theorem own_l2i (X : Stand p l e R s m args below meth c T locs cells slots) (hx : p.tables.exec = Jvm.exec) (pc' : Nat) (hp : pc + 1 = pc') {x : Int64} {z : Int32} (hd : decode c.code pc = .ok (.l2i, 1)) (hz : x.toInt32 = z) (h : Goes p e below s C S Q T (mkF m pc' Ls (.int z :: rest))) : Goes p e below s C S Q T (mkF m pc Ls (.long x :: rest)) := by
  subst hp; subst hz; exact Goes.go (fun _ k => XS.l2i X.here hx rfl hd rfl k) h
theorem own_i2b (X : Stand p l e R s m args below meth c T locs cells slots) (hx : p.tables.exec = Jvm.exec) (pc' : Nat) (hp : pc + 1 = pc') {x : Int32} {z : Int32} (hd : decode c.code pc = .ok (.i2b, 1)) (hz : x.toInt8.toInt32 = z) (h : Goes p e below s C S Q T (mkF m pc' Ls (.int z :: rest))) : Goes p e below s C S Q T (mkF m pc Ls (.int x :: rest)) := by
  subst hp; subst hz; exact Goes.go (fun _ k => XS.i2b X.here hx rfl hd rfl k) h
theorem own_i2s (X : Stand p l e R s m args below meth c T locs cells slots) (hx : p.tables.exec = Jvm.exec) (pc' : Nat) (hp : pc + 1 = pc') {x : Int32} {z : Int32} (hd : decode c.code pc = .ok (.i2s, 1)) (hz : x.toInt16.toInt32 = z) (h : Goes p e below s C S Q T (mkF m pc' Ls (.int z :: rest))) : Goes p e below s C S Q T (mkF m pc Ls (.int x :: rest)) := by
  subst hp; subst hz; exact Goes.go (fun _ k => XS.i2s X.here hx rfl hd rfl k) h
theorem own_i2c (X : Stand p l e R s m args below meth c T locs cells slots) (hx : p.tables.exec = Jvm.exec) (pc' : Nat) (hp : pc + 1 = pc') {x : Int32} {z : Int32} (hd : decode c.code pc = .ok (.i2c, 1)) (hz : x.toUInt32.toUInt16.toUInt32.toInt32 = z) (h : Goes p e below s C S Q T (mkF m pc' Ls (.int z :: rest))) : Goes p e below s C S Q T (mkF m pc Ls (.int x :: rest)) := by
  subst hp; subst hz; exact Goes.go (fun _ k => XS.i2c X.here hx rfl hd rfl k) h
theorem own_lcmp (X : Stand p l e R s m args below meth c T locs cells slots) (hx : p.tables.exec = Jvm.exec) (pc' : Nat) (hp : pc + 1 = pc') {x y : Int64} (hd : decode c.code pc = .ok (.lcmp, 1))  (h : Goes p e below s C S Q T (mkF m pc' Ls (.int (lcmpW x y) :: rest))) : Goes p e below s C S Q T (mkF m pc Ls (.long y :: .long x :: rest)) := by
  subst hp; exact Goes.go (fun _ k => XS.lcmp X.here hx rfl hd rfl k) h
theorem own_iload (X : Stand p l e R s m args below meth c T locs cells slots) (hx : p.tables.exec = Jvm.exec) (pc' : Nat) (hp : pc + 2 = pc') {k : Nat} {v : Int32} (hd : decode c.code pc = .ok (.iload k, 2)) (hl : Ls[k]? = some (.val (.int v))) (h : Goes p e below s C S Q T (mkF m pc' Ls ((.int v) :: rest))) : Goes p e below s C S Q T (mkF m pc Ls rest) := by
  subst hp; exact Goes.go (fun _ k => XS.iload X.here hx rfl hd hl k) h
theorem own_iloadN (X : Stand p l e R s m args below meth c T locs cells slots) (hx : p.tables.exec = Jvm.exec) (pc' : Nat) (hp : pc + 1 = pc') {k : Fin 4} {v : Int32} (hd : decode c.code pc = .ok (.iload_n k, 1)) (hl : Ls[k.val]? = some (.val (.int v))) (h : Goes p e below s C S Q T (mkF m pc' Ls ((.int v) :: rest))) : Goes p e below s C S Q T (mkF m pc Ls rest) := by
  subst hp; exact Goes.go (fun _ k => XS.iloadN X.here hx rfl hd hl k) h
theorem own_istore (X : Stand p l e R s m args below meth c T locs cells slots) (hx : p.tables.exec = Jvm.exec) (pc' : Nat) (hp : pc + 2 = pc') {k : Nat} {v : Int32} (Ls' : Array Slot) (hd : decode c.code pc = .ok (.istore k, 2)) (hl : storeLocals Ls k (.int v) = some Ls') (h : Goes p e below s C S Q T (mkF m pc' Ls' rest)) : Goes p e below s C S Q T (mkF m pc Ls ((.int v) :: rest)) := by
  subst hp; exact Goes.go (fun _ k => XS.istore X.here hx rfl hd rfl hl k) h
theorem own_istoreN (X : Stand p l e R s m args below meth c T locs cells slots) (hx : p.tables.exec = Jvm.exec) (pc' : Nat) (hp : pc + 1 = pc') {k : Fin 4} {v : Int32} (Ls' : Array Slot) (hd : decode c.code pc = .ok (.istore_n k, 1)) (hl : storeLocals Ls k.val (.int v) = some Ls') (h : Goes p e below s C S Q T (mkF m pc' Ls' rest)) : Goes p e below s C S Q T (mkF m pc Ls ((.int v) :: rest)) := by
  subst hp; exact Goes.go (fun _ k => XS.istoreN X.here hx rfl hd rfl hl k) h
theorem own_lload (X : Stand p l e R s m args below meth c T locs cells slots) (hx : p.tables.exec = Jvm.exec) (pc' : Nat) (hp : pc + 2 = pc') {k : Nat} {v : Int64} (hd : decode c.code pc = .ok (.lload k, 2)) (hl : Ls[k]? = some (.val (.long v))) (h : Goes p e below s C S Q T (mkF m pc' Ls ((.long v) :: rest))) : Goes p e below s C S Q T (mkF m pc Ls rest) := by
  subst hp; exact Goes.go (fun _ k => XS.lload X.here hx rfl hd hl k) h
theorem own_lloadN (X : Stand p l e R s m args below meth c T locs cells slots) (hx : p.tables.exec = Jvm.exec) (pc' : Nat) (hp : pc + 1 = pc') {k : Fin 4} {v : Int64} (hd : decode c.code pc = .ok (.lload_n k, 1)) (hl : Ls[k.val]? = some (.val (.long v))) (h : Goes p e below s C S Q T (mkF m pc' Ls ((.long v) :: rest))) : Goes p e below s C S Q T (mkF m pc Ls rest) := by
  subst hp; exact Goes.go (fun _ k => XS.lloadN X.here hx rfl hd hl k) h
theorem own_lstore (X : Stand p l e R s m args below meth c T locs cells slots) (hx : p.tables.exec = Jvm.exec) (pc' : Nat) (hp : pc + 2 = pc') {k : Nat} {v : Int64} (Ls' : Array Slot) (hd : decode c.code pc = .ok (.lstore k, 2)) (hl : storeLocals Ls k (.long v) = some Ls') (h : Goes p e below s C S Q T (mkF m pc' Ls' rest)) : Goes p e below s C S Q T (mkF m pc Ls ((.long v) :: rest)) := by
  subst hp; exact Goes.go (fun _ k => XS.lstore X.here hx rfl hd rfl hl k) h
theorem own_lstoreN (X : Stand p l e R s m args below meth c T locs cells slots) (hx : p.tables.exec = Jvm.exec) (pc' : Nat) (hp : pc + 1 = pc') {k : Fin 4} {v : Int64} (Ls' : Array Slot) (hd : decode c.code pc = .ok (.lstore_n k, 1)) (hl : storeLocals Ls k.val (.long v) = some Ls') (h : Goes p e below s C S Q T (mkF m pc' Ls' rest)) : Goes p e below s C S Q T (mkF m pc Ls ((.long v) :: rest)) := by
  subst hp; exact Goes.go (fun _ k => XS.lstoreN X.here hx rfl hd rfl hl k) h
theorem own_aload (X : Stand p l e R s m args below meth c T locs cells slots) (hx : p.tables.exec = Jvm.exec) (pc' : Nat) (hp : pc + 2 = pc') {k : Nat} {v : Value} (hd : decode c.code pc = .ok (.aload k, 2)) (hl : Ls[k]? = some (.val v)) (hv : v.isRef = true) (h : Goes p e below s C S Q T (mkF m pc' Ls (v :: rest))) : Goes p e below s C S Q T (mkF m pc Ls rest) := by
  subst hp; exact Goes.go (fun _ k => XS.aload X.here hx rfl hd hl hv k) h
theorem own_aloadN (X : Stand p l e R s m args below meth c T locs cells slots) (hx : p.tables.exec = Jvm.exec) (pc' : Nat) (hp : pc + 1 = pc') {k : Fin 4} {v : Value} (hd : decode c.code pc = .ok (.aload_n k, 1)) (hl : Ls[k.val]? = some (.val v)) (hv : v.isRef = true) (h : Goes p e below s C S Q T (mkF m pc' Ls (v :: rest))) : Goes p e below s C S Q T (mkF m pc Ls rest) := by
  subst hp; exact Goes.go (fun _ k => XS.aloadN X.here hx rfl hd hl hv k) h
theorem own_astore (X : Stand p l e R s m args below meth c T locs cells slots) (hx : p.tables.exec = Jvm.exec) (pc' : Nat) (hp : pc + 2 = pc') {k : Nat} {v : Value} (Ls' : Array Slot) (hd : decode c.code pc = .ok (.astore k, 2)) (hl : storeLocals Ls k v = some Ls') (hv : v.isRef = true) (h : Goes p e below s C S Q T (mkF m pc' Ls' rest)) : Goes p e below s C S Q T (mkF m pc Ls (v :: rest)) := by
  subst hp; exact Goes.go (fun _ k => XS.astore X.here hx rfl hd rfl hv hl k) h
theorem own_astoreN (X : Stand p l e R s m args below meth c T locs cells slots) (hx : p.tables.exec = Jvm.exec) (pc' : Nat) (hp : pc + 1 = pc') {k : Fin 4} {v : Value} (Ls' : Array Slot) (hd : decode c.code pc = .ok (.astore_n k, 1)) (hl : storeLocals Ls k.val v = some Ls') (hv : v.isRef = true) (h : Goes p e below s C S Q T (mkF m pc' Ls' rest)) : Goes p e below s C S Q T (mkF m pc Ls (v :: rest)) := by
  subst hp; exact Goes.go (fun _ k => XS.astoreN X.here hx rfl hd rfl hv hl k) h
theorem own_iconst (X : Stand p l e R s m args below meth c T locs cells slots) (hx : p.tables.exec = Jvm.exec) (pc' : Nat) (hp : pc + 1 = pc') {i : Int} (v : Int32) (hd : decode c.code pc = .ok (.iconst i, 1)) (hv : Int32.ofInt i = v) (h : Goes p e below s C S Q T (mkF m pc' Ls (.int v :: rest))) : Goes p e below s C S Q T (mkF m pc Ls rest) := by
  subst hp; subst hv; exact Goes.go (fun _ k => XS.iconst X.here hx rfl hd k) h
theorem own_bipush (X : Stand p l e R s m args below meth c T locs cells slots) (hx : p.tables.exec = Jvm.exec) (pc' : Nat) (hp : pc + 2 = pc') {i : Int} (v : Int32) (hd : decode c.code pc = .ok (.bipush i, 2)) (hv : (Int8.ofInt i).toInt32 = v) (h : Goes p e below s C S Q T (mkF m pc' Ls (.int v :: rest))) : Goes p e below s C S Q T (mkF m pc Ls rest) := by
  subst hp; subst hv; exact Goes.go (fun _ k => XS.bipush X.here hx rfl hd k) h
theorem own_sipush (X : Stand p l e R s m args below meth c T locs cells slots) (hx : p.tables.exec = Jvm.exec) (pc' : Nat) (hp : pc + 3 = pc') {i : Int} (v : Int32) (hd : decode c.code pc = .ok (.sipush i, 3)) (hv : (Int16.ofInt i).toInt32 = v) (h : Goes p e below s C S Q T (mkF m pc' Ls (.int v :: rest))) : Goes p e below s C S Q T (mkF m pc Ls rest) := by
  subst hp; subst hv; exact Goes.go (fun _ k => XS.sipush X.here hx rfl hd k) h
theorem own_lconst (X : Stand p l e R s m args below meth c T locs cells slots) (hx : p.tables.exec = Jvm.exec) (pc' : Nat) (hp : pc + 1 = pc') {i : Fin 2} (v : Int64) (hd : decode c.code pc = .ok (.lconst i, 1)) (hv : Int64.ofNat i = v) (h : Goes p e below s C S Q T (mkF m pc' Ls (.long v :: rest))) : Goes p e below s C S Q T (mkF m pc Ls rest) := by
  subst hp; subst hv; exact Goes.go (fun _ k => XS.lconst X.here hx rfl hd k) h
theorem own_aconst_null (X : Stand p l e R s m args below meth c T locs cells slots) (hx : p.tables.exec = Jvm.exec) (pc' : Nat) (hp : pc + 1 = pc')  (hd : decode c.code pc = .ok (.aconst_null, 1))  (h : Goes p e below s C S Q T (mkF m pc' Ls (.null :: rest))) : Goes p e below s C S Q T (mkF m pc Ls rest) := by
  subst hp; exact Goes.go (fun _ k => XS.aconstNull X.here hx rfl hd k) h
theorem own_dup (X : Stand p l e R s m args below meth c T locs cells slots) (hx : p.tables.exec = Jvm.exec) (pc' : Nat) (hp : pc + 1 = pc') {v : Value} (hd : decode c.code pc = .ok (.dup, 1)) (hc : v.category = 1) (h : Goes p e below s C S Q T (mkF m pc' Ls (v :: v :: rest))) : Goes p e below s C S Q T (mkF m pc Ls (v :: rest)) := by
  subst hp; exact Goes.go (fun _ k => XS.dup X.here hx rfl hd rfl hc k) h
theorem own_pop (X : Stand p l e R s m args below meth c T locs cells slots) (hx : p.tables.exec = Jvm.exec) (pc' : Nat) (hp : pc + 1 = pc') {v : Value} (hd : decode c.code pc = .ok (.pop, 1)) (hc : v.category = 1) (h : Goes p e below s C S Q T (mkF m pc' Ls rest)) : Goes p e below s C S Q T (mkF m pc Ls (v :: rest)) := by
  subst hp; exact Goes.go (fun _ k => XS.pop X.here hx rfl hd rfl hc k) h
theorem own_dup_x1 (X : Stand p l e R s m args below meth c T locs cells slots) (hx : p.tables.exec = Jvm.exec) (pc' : Nat) (hp : pc + 1 = pc') {v w : Value} (hd : decode c.code pc = .ok (.dup_x1, 1)) (hc : v.category = 1) (hc' : w.category = 1) (h : Goes p e below s C S Q T (mkF m pc' Ls (v :: w :: v :: rest))) : Goes p e below s C S Q T (mkF m pc Ls (v :: w :: rest)) := by
  subst hp; exact Goes.go (fun _ k => XS.dupX1 X.here hx rfl hd rfl hc hc' k) h
theorem own_dup2L (X : Stand p l e R s m args below meth c T locs cells slots) (hx : p.tables.exec = Jvm.exec) (pc' : Nat) (hp : pc + 1 = pc') {v : Int64} (hd : decode c.code pc = .ok (.dup2, 1))  (h : Goes p e below s C S Q T (mkF m pc' Ls (.long v :: .long v :: rest))) : Goes p e below s C S Q T (mkF m pc Ls (.long v :: rest)) := by
  subst hp; exact Goes.go (fun _ k => Jvm.Free.XT.dup2L X.here hx rfl hd rfl k) h
theorem own_dup2 (X : Stand p l e R s m args below meth c T locs cells slots) (hx : p.tables.exec = Jvm.exec) (pc' : Nat) (hp : pc + 1 = pc') {v w : Value} (hd : decode c.code pc = .ok (.dup2, 1)) (hc : v.category = 1) (hc' : w.category = 1) (h : Goes p e below s C S Q T (mkF m pc' Ls (v :: w :: v :: w :: rest))) : Goes p e below s C S Q T (mkF m pc Ls (v :: w :: rest)) := by
  subst hp; exact Goes.go (fun _ k => Jvm.Free.XT.dup2 X.here hx rfl hd rfl hc hc' k) h
theorem own_iinc (X : Stand p l e R s m args below meth c T locs cells slots) (hx : p.tables.exec = Jvm.exec) (pc' : Nat) (hp : pc + 3 = pc') {k : Nat} {cst : Int} {x z : Int32} (Ls' : Array Slot) (hd : decode c.code pc = .ok (.iinc k cst, 3)) (hl : Ls[k]? = some (.val (.int x))) (hz : x + Int32.ofInt cst = z) (hl' : storeLocals Ls k (.int z) = some Ls') (h : Goes p e below s C S Q T (mkF m pc' Ls' rest)) : Goes p e below s C S Q T (mkF m pc Ls rest) := by
  subst hp; subst hz; exact Goes.go (fun _ k => XS.iinc X.here hx rfl hd hl hl' k) h
theorem own_goto (X : Stand p l e R s m args below meth c T locs cells slots) (hx : p.tables.exec = Jvm.exec) (pc' : Nat) {o : Int} (hd : decode c.code pc = .ok (.goto o, 3)) (ho : 0 ≤ (pc : Int) + o) (hp : ((pc : Int) + o).toNat = pc') (h : Goes p e below s C S Q T (mkF m pc' Ls rest)) : Goes p e below s C S Q T (mkF m pc Ls rest) :=
  Goes.go (fun _ k => XS.goto X.here hx rfl rfl hd ho hp k) h
theorem own_ifY (X : Stand p l e R s m args below meth c T locs cells slots) (hx : p.tables.exec = Jvm.exec) (pc' : Nat) {o : Int} {cd : ClassFile.Cond} {x : Int32} (hd : decode c.code pc = .ok (.ifCond cd o, 3)) (hc : ifCond.holds cd x = true) (ho : 0 ≤ (pc : Int) + o) (hp : ((pc : Int) + o).toNat = pc') (h : Goes p e below s C S Q T (mkF m pc' Ls rest)) : Goes p e below s C S Q T (mkF m pc Ls (.int x :: rest)) :=
  Goes.go (fun _ k => XS.ifYes X.here hx rfl rfl hd rfl hc ho hp k) h
theorem own_ifN (X : Stand p l e R s m args below meth c T locs cells slots) (hx : p.tables.exec = Jvm.exec) (pc' : Nat) {o : Int} {cd : ClassFile.Cond} {x : Int32} (hd : decode c.code pc = .ok (.ifCond cd o, 3)) (hc : ifCond.holds cd x = false) (hp : pc + 3 = pc') (h : Goes p e below s C S Q T (mkF m pc' Ls rest)) : Goes p e below s C S Q T (mkF m pc Ls (.int x :: rest)) := by
  subst hp; exact Goes.go (fun _ k => XS.ifNo X.here hx rfl hd rfl hc k) h
theorem own_icmpY (X : Stand p l e R s m args below meth c T locs cells slots) (hx : p.tables.exec = Jvm.exec) (pc' : Nat) {o : Int} {cd : ClassFile.Cond} {x y : Int32} (hd : decode c.code pc = .ok (.if_icmp cd o, 3)) (hc : if_icmp.holds cd x y = true) (ho : 0 ≤ (pc : Int) + o) (hp : ((pc : Int) + o).toNat = pc') (h : Goes p e below s C S Q T (mkF m pc' Ls rest)) : Goes p e below s C S Q T (mkF m pc Ls (.int y :: .int x :: rest)) :=
  Goes.go (fun _ k => XS.icmpYes X.here hx rfl rfl hd rfl hc ho hp k) h
theorem own_icmpN (X : Stand p l e R s m args below meth c T locs cells slots) (hx : p.tables.exec = Jvm.exec) (pc' : Nat) {o : Int} {cd : ClassFile.Cond} {x y : Int32} (hd : decode c.code pc = .ok (.if_icmp cd o, 3)) (hc : if_icmp.holds cd x y = false) (hp : pc + 3 = pc') (h : Goes p e below s C S Q T (mkF m pc' Ls rest)) : Goes p e below s C S Q T (mkF m pc Ls (.int y :: .int x :: rest)) := by
  subst hp; exact Goes.go (fun _ k => XS.icmpNo X.here hx rfl hd rfl hc k) h
theorem own_acmp (X : Stand p l e R s m args below meth c T locs cells slots) (hx : p.tables.exec = Jvm.exec) (pc' : Nat) {o : Int} {cd : ACond} {x y : Value} {same : Bool} (h1 : x.isRef = true) (h2 : y.isRef = true) (hd : decode c.code pc = .ok (.if_acmp cd o, 3)) (hq : decide (x = y) = same) (ho : 0 ≤ (pc : Int) + o) (hp : pc' = if acV cd same = true then ((pc : Int) + o).toNat else pc + 3) (h : Goes p e below s C S Q T (mkF m pc' Ls rest)) : Goes p e below s C S Q T (mkF m pc Ls (y :: x :: rest)) :=
  Goes.go (fun _ k => Jvm.RoadKit.acmp (g := mkF m pc Ls (y :: x :: rest)) X hx rfl h1 h2 rfl hd rfl hq ho hp k) h
theorem own_ifnullY (X : Stand p l e R s m args below meth c T locs cells slots) (hx : p.tables.exec = Jvm.exec) (pc' : Nat) {o : Int} (hd : decode c.code pc = .ok (.ifnull o, 3)) (ho : 0 ≤ (pc : Int) + o) (hp : ((pc : Int) + o).toNat = pc') (h : Goes p e below s C S Q T (mkF m pc' Ls rest)) : Goes p e below s C S Q T (mkF m pc Ls (.null :: rest)) :=
  Goes.go (fun _ k => XS.ifnullYes X.here hx rfl rfl hd rfl ho hp k) h
theorem own_ifnullN (X : Stand p l e R s m args below meth c T locs cells slots) (hx : p.tables.exec = Jvm.exec) (pc' : Nat) {o : Int} {b : Addr} (hd : decode c.code pc = .ok (.ifnull o, 3)) (hp : pc + 3 = pc') (h : Goes p e below s C S Q T (mkF m pc' Ls rest)) : Goes p e below s C S Q T (mkF m pc Ls (.ref b :: rest)) := by
  subst hp; exact Goes.go (fun _ k => XS.ifnullNo X.here hx rfl hd rfl k) h
theorem own_ifnonnullY (X : Stand p l e R s m args below meth c T locs cells slots) (hx : p.tables.exec = Jvm.exec) (pc' : Nat) {o : Int} {b : Addr} (hd : decode c.code pc = .ok (.ifnonnull o, 3)) (ho : 0 ≤ (pc : Int) + o) (hp : ((pc : Int) + o).toNat = pc') (h : Goes p e below s C S Q T (mkF m pc' Ls rest)) : Goes p e below s C S Q T (mkF m pc Ls (.ref b :: rest)) :=
  Goes.go (fun _ k => XS.ifnonnullYes X.here hx rfl rfl hd rfl ho hp k) h
theorem own_ifnonnullN (X : Stand p l e R s m args below meth c T locs cells slots) (hx : p.tables.exec = Jvm.exec) (pc' : Nat) {o : Int} (hd : decode c.code pc = .ok (.ifnonnull o, 3)) (hp : pc + 3 = pc') (h : Goes p e below s C S Q T (mkF m pc' Ls rest)) : Goes p e below s C S Q T (mkF m pc Ls (.null :: rest)) := by
  subst hp; exact Goes.go (fun _ k => XS.ifnonnullNo X.here hx rfl hd rfl k) h
end Steps1
/-- the branches on a long comparison -/
theorem Ltlt {x y : Int64} (h : x < y) : ifCond.holds .lt (lcmpW x y) = true ∧ ifCond.holds .ge (lcmpW x y) = false ∧ ifCond.holds .gt (lcmpW y x) = true ∧ ifCond.holds .le (lcmpW y x) = false :=
  ⟨(if0 _ _).trans (tlt ((lw_lt x y).mpr h)).1, (if0 _ _).trans (tlt ((lw_lt x y).mpr h)).2.1, (if0 _ _).trans (tlt ((lw_gt y x).mpr h)).2.2.1, (if0 _ _).trans (tlt ((lw_gt y x).mpr h)).2.2.2⟩
theorem Lflt {x y : Int64} (h : ¬ x < y) : ifCond.holds .lt (lcmpW x y) = false ∧ ifCond.holds .ge (lcmpW x y) = true ∧ ifCond.holds .gt (lcmpW y x) = false ∧ ifCond.holds .le (lcmpW y x) = true :=
  ⟨(if0 _ _).trans (flt fun q => h ((lw_lt x y).mp q)).1, (if0 _ _).trans (flt fun q => h ((lw_lt x y).mp q)).2.1, (if0 _ _).trans (flt fun q => h ((lw_gt y x).mp q)).2.2.1, (if0 _ _).trans (flt fun q => h ((lw_gt y x).mp q)).2.2.2⟩
theorem Lteq {x y : Int64} (h : x = y) : ifCond.holds .eq (lcmpW x y) = true ∧ ifCond.holds .ne (lcmpW x y) = false :=
  ⟨(if0 _ _).trans (teq ((lw_eq x y).mpr h)).1, (if0 _ _).trans (teq ((lw_eq x y).mpr h)).2⟩
theorem Lfeq {x y : Int64} (h : ¬ x = y) : ifCond.holds .eq (lcmpW x y) = false ∧ ifCond.holds .ne (lcmpW x y) = true :=
  ⟨(if0 _ _).trans (feq fun q => h ((lw_eq x y).mp q)).1, (if0 _ _).trans (feq fun q => h ((lw_eq x y).mp q)).2⟩
theorem Ztlt {x y : Int32} (h : x < y) : if_icmp.holds .lt x y = true ∧ if_icmp.holds .ge x y = false ∧ if_icmp.holds .gt y x = true ∧ if_icmp.holds .le y x = false := tlt h
/-- the pieces of a memory fact -/
theorem own_lt_ne {a b n : Nat} (h : a < n) (g : b = n) : a ≠ b := by omega
end Own
theorem own_eqv {args : Array Value} {s : State} {t u : Term} {v : Value} (hu : u.eval args s none [] s = some v) (h : (Jvm.Cond.eq t u).value args s none s [] = some true) : t.eval args s none [] s = some v := by
  cases ht : t.eval args s none [] s with
  | none => simp [Cond.value, ht] at h
  | some x =>
    simp only [Cond.value, ht, hu] at h
    cases x <;> cases v <;> simp_all
theorem own_fldv {args : Array Value} {s : State} {t u : Term} {a : Addr} {C n d : String} {v : Value} (ev : t.eval args s none [] s = some (.ref a)) (hu : u.eval args s none [] s = some v) (h : (Jvm.Cond.eq (Term.field t C n d) u).value args s none s [] = some true) : s.fieldOf? a C n d = some v :=
  (fld_at ev).symm.trans (own_eqv hu h)
theorem own_sta_keep {Z : State} {h h' : Heap} {C n d : String} {v : Value} {ws : List Addr} (F : Sta Z h C n d v) (K : Keep h h' ws) (q : ∀ x ∈ ws, ∀ cell : Cell, h[x]? = some cell → cell.vm.isStatics = false) : Sta Z h' C n d v := by
  obtain ⟨cf, i, k, f, st, cell, h1, h2, h3, h4, h5, h6, h7⟩ := F
  refine ⟨cf, i, k, f, st, cell, h1, h2, h3, h4, K.2.1 _ _ h5 (fun hm => ?_), h6, h7⟩
  have q1 := q _ hm cell h5
  rw [h6] at q1; cases q1
theorem own_eplain {Z : State} {h : Heap} {a : Addr} {C : String} (F : Exa Z h a C) : ∀ cell : Cell, h[a]? = some cell → cell.vm.isStatics = false := fun cell hc => by
  obtain ⟨c, k, h1, -, -, h4, -⟩ := F; cases h1.symm.trans hc; exact h4
theorem own_rplain {Z : State} {h : Heap} {a : Addr} {c : Cell} {ty : FieldType} (F : Arr Z h a c ty) : ∀ cell : Cell, h[a]? = some cell → cell.vm.isStatics = false := fun cell hc => by
  cases F.1.symm.trans hc; exact F.plain
theorem own_aplain {Z : State} {h : Heap} {a : Addr} {k : ClassId} {ty : FieldType} {n : Int32} {vs : List Value} {dv : Value} (F : Arv Z h a k ty n vs dv) : ∀ cell : Cell, h[a]? = some cell → cell.vm.isStatics = false := by
  obtain ⟨c, A, -⟩ := F; exact own_rplain A
theorem own_selP {s : State} {args : Array Value} {y : MethodName} {n : Nat} (wi : (Jvm.Cond.instantiable y.cls n).before args s = true) (wp : (Jvm.Cond.privateMethod y).before args s = true) (wn : (Jvm.Cond.instanceMethod y).before args s = true) (hy : y.cls ≠ "java/lang/invoke/MethodHandle" ∧ y.cls ≠ "java/lang/invoke/VarHandle") : (Jvm.Cond.selects y.cls y y).before args s = true := by
  obtain ⟨c, k, hc, hk, -, hniab, -, -⟩ := Cond.instantiable_spec wi
  exact Jvm.Stand.selects_self_of_private hc hk (Bool.or_eq_false_iff.mp hniab).1 (Cond.privateMethod_at wp) wn hy
/-- the board's array: length n; every place whose column is at least k is empty -/
def own_Row (Z : State) (h : Heap) (a : Addr) (cA : ClassId) (sz n : Int32) (k : Nat) : Prop := ∃ cl : Cell, Arr Z h a cl (.object "com/example/fivestone/fivestone/rules/Stone") ∧ cl.cls = cA ∧ cl.slots.size = n.toNatClampNeg ∧ ¬ n < 0 ∧ ∀ i, i < cl.slots.size → k ≤ i % sz.toNatClampNeg → cl.slots[i]? = some .null
theorem own_Row.lt {Z : State} {h : Heap} {a : Addr} {cA : ClassId} {sz n : Int32} {k : Nat} (F : own_Row Z h a cA sz n k) : a < h.size := by obtain ⟨cl, A, -⟩ := F; exact A.lt
theorem own_Row.plain {Z : State} {h : Heap} {a : Addr} {cA : ClassId} {sz n : Int32} {k : Nat} (F : own_Row Z h a cA sz n k) : ∀ cell : Cell, h[a]? = some cell → cell.vm.isStatics = false := by obtain ⟨cl, A, -⟩ := F; exact own_rplain A
theorem own_Row.ext {Z : State} {h h' : Heap} {a : Addr} {cA : ClassId} {sz n : Int32} {k : Nat} (F : own_Row Z h a cA sz n k) (E : Ext h h') : own_Row Z h' a cA sz n k := by obtain ⟨cl, A, r⟩ := F; exact ⟨cl, A.ext E, r⟩
theorem own_Row.other {Z : State} {h h' : Heap} {a b : Addr} {sl : Nat} {v : Value} {cA : ClassId} {sz n : Int32} {k : Nat} (F : own_Row Z h a cA sz n k) (W : Wr h h' b sl v) (q : a ≠ b) : own_Row Z h' a cA sz n k := by obtain ⟨cl, A, r⟩ := F; exact ⟨cl, A.other W q, r⟩
theorem own_Row.keep {Z : State} {h h' : Heap} {a : Addr} {ws : List Addr} {cA : ClassId} {sz n : Int32} {k : Nat} (F : own_Row Z h a cA sz n k) (K : Keep h h' ws) (q : a ∉ ws) : own_Row Z h' a cA sz n k := by obtain ⟨cl, A, r⟩ := F; exact ⟨cl, ⟨K.2.1 a cl A.1 q, A.2⟩, r⟩
theorem own_Row.mono {Z : State} {h : Heap} {a : Addr} {cA : ClassId} {sz n : Int32} {k : Nat} (F : own_Row Z h a cA sz n k) : own_Row Z h a cA sz n (k + 1) := by obtain ⟨cl, A, r1, r2, r3, r4⟩ := F; exact ⟨cl, A, r1, r2, r3, fun i hi hk => r4 i hi (by omega)⟩
theorem own_Row.new {Z : State} {h : Heap} {a : Addr} {cA : ClassId} {sz n : Int32} (A : Arr Z h a (newA cA (.object "com/example/fivestone/fivestone/rules/Stone") n) (.object "com/example/fivestone/fivestone/rules/Stone")) (hn : ¬ n < 0) : own_Row Z h a cA sz n 0 :=
  ⟨_, A, rfl, sz_new _ _ _, hn, fun i hi _ => by
    have h2 : i < n.toNatClampNeg := by rw [sz_new] at hi; exact hi
    simp [newA, defaultValue, h2]⟩
theorem own_Row.set {Z : State} {h h' : Heap} {a : Addr} {cl : Cell} {v : Value} {cA : ClassId} {sz n : Int32} {k j : Nat} (A : Arr Z h a cl (.object "com/example/fivestone/fivestone/rules/Stone")) (q1 : cl.cls = cA) (S : cl.slots.size = n.toNatClampNeg) (q3 : ¬ n < 0)
    (R : ∀ i, i < cl.slots.size → k ≤ i % sz.toNatClampNeg → cl.slots[i]? = some .null) (W : Wr h h' a j v) (hj : j % sz.toNatClampNeg = k) : own_Row Z h' a cA sz n (k + 1) := by
  refine ⟨_, A.same W, q1, by rw [sz_set]; exact S, q3, fun i hi hk => ?_⟩
  rw [sz_set] at hi
  have hne : j ≠ i := fun e => by subst e; omega
  show (cl.slots.setIfInBounds j v)[i]? = _
  rw [Array.getElem?_setIfInBounds_ne hne]
  exact R i hi (by omega)
/-- sizes, places -/
theorem own_size (x z : Int32) (h : z = ((5 : Int32) + ((x &&& (2147483647 : Int32)) % (18 : Int32)))) : 5 ≤ z.toInt ∧ z.toInt ≤ 22 := by
  have hm : (x &&& (2147483647 : Int32)).toInt = x.toInt % 2147483648 := c_mask x (2147483647 : Int32) 31 (by decide) (by decide)
  have hr := (c_irem (x &&& (2147483647 : Int32)) (18 : Int32) 18 (by decide)).1 (by omega)
  have ha := c_iadd (5 : Int32) ((x &&& (2147483647 : Int32)) % (18 : Int32))
  have hb := rng32 z
  have e5 : (5 : Int32).toInt = 5 := by decide
  rw [← h] at ha; omega
theorem own_sq (z : Int32) (h : 5 ≤ z.toInt ∧ z.toInt ≤ 22) : (z * z).toInt = z.toInt * z.toInt ∧ 25 ≤ z.toInt * z.toInt ∧ z.toInt * z.toInt ≤ 484 := by
  have h1 : 5 * 5 ≤ z.toInt * z.toInt := Int.mul_le_mul h.1 h.1 (by omega) (by omega)
  have h2 : z.toInt * z.toInt ≤ 22 * 22 := Int.mul_le_mul h.2 h.2 (by omega) (by omega)
  have h3 := c_imul z z
  have h4 := rng32 (z * z)
  omega
theorem own_sq0 (z : Int32) (h : 5 ≤ z.toInt ∧ z.toInt ≤ 22) : ¬ (z * z) < 0 := by
  have h1 := own_sq z h
  have e0 : (0 : Int32).toInt = 0 := by decide
  rw [Int32.lt_iff_toInt_lt, e0]; omega
theorem own_sqc (z : Int32) (h : 5 ≤ z.toInt ∧ z.toInt ≤ 22) : (z * z).toNatClampNeg ≤ 484 := by
  have h1 := own_sq z h
  have h2 := nat_of (own_sq0 z h)
  omega
theorem own_in {x y : Int32} {k : Int} (hy : y.toInt = k) (h : x.toInt < k) : x < y := by rw [Int32.lt_iff_toInt_lt]; omega
theorem own_ni {x y : Int32} {k : Int} (hy : y.toInt = k) (h : k ≤ x.toInt) : ¬ x < y := by rw [Int32.lt_iff_toInt_lt]; omega
theorem own_place (z r q : Int32) (h : 5 ≤ z.toInt ∧ z.toInt ≤ 22) (hr : 0 ≤ r.toInt ∧ r.toInt < z.toInt) (hq : 0 ≤ q.toInt ∧ q.toInt < z.toInt) : ((r * z) + q).toInt = r.toInt * z.toInt + q.toInt ∧ 0 ≤ r.toInt * z.toInt ∧ r.toInt * z.toInt + q.toInt < z.toInt * z.toInt := by
  have h1 : 0 ≤ r.toInt * z.toInt := Int.mul_nonneg hr.1 (by omega)
  have h2 : (r.toInt + 1) * z.toInt ≤ z.toInt * z.toInt := Int.mul_le_mul_of_nonneg_right (by omega) (by omega)
  have h3 := own_sq z h
  have h4 : (r.toInt + 1) * z.toInt = r.toInt * z.toInt + z.toInt := by rw [Int.add_mul, Int.one_mul]
  have h5 := c_imul r z
  have h6 := rng32 (r * z)
  have h7 := c_iadd (r * z) q
  have h8 := rng32 ((r * z) + q)
  omega
theorem own_pin {z r q : Int32} (h : 5 ≤ z.toInt ∧ z.toInt ≤ 22) (hr : 0 ≤ r.toInt ∧ r.toInt < z.toInt) (hq : 0 ≤ q.toInt ∧ q.toInt < z.toInt) : ¬ ((r * z) + q) < 0 ∧ ((r * z) + q) < (z * z) := by
  have h1 := own_place z r q h hr hq
  have h2 := own_sq z h
  have e0 : (0 : Int32).toInt = 0 := by decide
  simp only [Int32.lt_iff_toInt_lt, e0]; omega
theorem own_pmod {z r q : Int32} (h : 5 ≤ z.toInt ∧ z.toInt ≤ 22) (hr : 0 ≤ r.toInt ∧ r.toInt < z.toInt) (hq : 0 ≤ q.toInt ∧ q.toInt < z.toInt) : ((r * z) + q).toNatClampNeg % z.toNatClampNeg = q.toNatClampNeg := by
  have h1 := own_place z r q h hr hq
  have e0 : (0 : Int32).toInt = 0 := by decide
  have n1 := nat_of (own_pin h hr hq).1
  have n2 := nat_of (own_ni (x := z) e0 (by omega))
  have n3 := nat_of (own_ni (x := q) e0 (by omega))
  have n4 := nat_of (own_ni (x := r) e0 (by omega))
  have h5 : ((r * z) + q).toNatClampNeg = r.toNatClampNeg * z.toNatClampNeg + q.toNatClampNeg := by
    have : (((r * z) + q).toNatClampNeg : Int) = ((r.toNatClampNeg * z.toNatClampNeg + q.toNatClampNeg : Nat) : Int) := by
      rw [← n1, h1.1, n4, n2, n3]; rfl
    exact Int.ofNat_inj.mp this
  rw [h5, Nat.add_comm, Nat.add_mul_mod_self_right]
  exact Nat.mod_eq_of_lt (by omega)
theorem own_mask8 (x : Int64) (z r : Int32) (h : 5 ≤ z.toInt ∧ z.toInt ≤ 22) (e : r = (((x &&& (255 : Int64)).toInt32) % z)) : 0 ≤ r.toInt ∧ r.toInt < z.toInt := by
  have h1 : (x &&& (255 : Int64)).toInt = x.toInt % 256 := c_maskL x (255 : Int64) 8 (by decide) (by decide)
  have h2 := c_l2i (x &&& (255 : Int64))
  have h3 := rng32 ((x &&& (255 : Int64)).toInt32)
  have h4 := (c_iremV ((x &&& (255 : Int64)).toInt32) z).1 (by omega) (by omega)
  rw [← e] at h4; omega
theorem own_nz {z : Int32} (h : 5 ≤ z.toInt ∧ z.toInt ≤ 22) : z ≠ 0 := fun e => by
  have e0 : (0 : Int32).toInt = 0 := by decide
  rw [e, e0] at h; omega
theorem own_inc (x : Int32) {k : Int} (h : 0 ≤ x.toInt ∧ x.toInt ≤ k) (hk : k ≤ 100) : 0 ≤ (x + (1 : Int32)).toInt ∧ (x + (1 : Int32)).toInt ≤ k + 1 := by
  have h1 := c_iadd x (1 : Int32)
  have h2 := rng32 (x + (1 : Int32))
  have e1 : (1 : Int32).toInt = 1 := by decide
  omega
theorem own_not_full {z y : Int32} (h : 5 ≤ z.toInt ∧ z.toInt ≤ 22) (hy : 0 ≤ y.toInt ∧ y.toInt ≤ 5) : ¬ y = (z * z) := fun e => by
  have h1 := own_sq z h
  rw [e] at hy; omega
theorem own_n5 (x y : Int32) (h : y = ((x &&& (7 : Int32)) % (6 : Int32))) : 0 ≤ y.toInt ∧ y.toInt ≤ 5 := by
  have hm : (x &&& (7 : Int32)).toInt = x.toInt % 8 := c_mask x (7 : Int32) 3 (by decide) (by decide)
  have hr := (c_irem (x &&& (7 : Int32)) (6 : Int32) 6 (by decide)).1 (by omega)
  rw [← h] at hr; omega
theorem own_d6_0 : decode jdk_30_method_1_code 0 = .ok (.aload_n 0, 1) := by decide +kernel
theorem own_d6_1 : decode jdk_30_method_1_code 1 = .ok (.invokespecial 1, 3) := by decide +kernel
theorem own_d6_4 : decode jdk_30_method_1_code 4 = .ok (.return_, 1) := by decide +kernel
theorem own_pn_java_lang_Record : plainName "java/lang/Record" = true := by first | (simp [plainName, overriddenIn]; done) | decide +kernel
def Q6 (Z : State) (rt : Addr) (h0 : Heap) (n0 : Nat) (v : Option Value) (h : Heap) (L : List Loc) : Prop := v = none ∧ Fr n0 L ∧ h = h0
set_option maxRecDepth 65536 in
set_option maxHeartbeats 40000000 in
theorem rm6 (l : Launch) (Z : State) (a0 : Array Value) (hw : ∀ d ∈ tables_1, d.before a0 Z = true) (ws : List Jvm.Cond) (rt : Addr) (h0 : Heap) (n0 : Nat) (Z0 : n0 ≤ h0.size)  :
    MetFree l (⟨"java/lang/Record", "<init>", "()V"⟩ : MethodName) (head1 (Jvm.Cond.code (⟨"java/lang/Record", "<init>", "()V"⟩ : MethodName) jdk_30_method_1_code 1 none :: ws) ({ frames := 1, cells := 0, slots := 0, locals := 12 } : Room)) (fun a U => a = #[(.ref rt)] ∧ Z.Warmed39 U.vm ∧ U.heap = h0) (fun _ _ _ _ _ => True) (fun _ U o U' => ∃ v L, o = .returned v ∧ Q6 Z rt h0 n0 v U'.heap L ∧ FrameEnd U o U' L ({ frames := 1, cells := 0, slots := 0, locals := 12 } : Room).cells ({ frames := 1, cells := 0, slots := 0, locals := 12 } : Room).slots) := by
  refine MetFree.of_bodySF (plainFor_of_name own_pn_java_lang_Record) hisR ?_
  intro p e s m args below meth c s₁ Bd hml0 hP hK
  obtain ⟨rfl, hZ, hh⟩ := hP
  have hx := Bd.exec
  have hby := Bd.bytes
  have hml : c.maxLocals = 1 := hml0
  have hlk := Bd.notSynchronized
  have hown : s.vm.findClass "java/lang/Record" = some m.cls := findClass_of_methodNamed Bd.named
  have hnm := (name_of_methodNamed Bd.named Bd.method).1
  have X0 : Stand p l e ({ frames := 1, cells := 0, slots := 0, locals := 12 } : Room) s m #[(.ref rt)] below meth c s₁ [] 0 0 := Stand.of_body Bd
  have e0 : s₁.heap = h0 := by rw [← hh, Bd.state]; rfl
  have N0 := Fr.nil n0
  refine own_enter (Q := Q6 Z rt h0 n0) (Ls := #[.val (.ref rt)]) (by first | rfl | (simp [entryFrame, mkF, argsToLocals, Value.category]; done)) ?_
  refine own_aloadN X0 hx 1 rfl (hb hby own_d6_0) rfl rfl ?_
  obtain ⟨T1, X1, e1, st1⟩ := initO X0 hx hZ hown (hw _ (List.mem_of_getElem? (i := 38) rfl)) (hw _ (List.mem_of_getElem? (i := 8) rfl)) (hw _ (List.mem_of_getElem? (i := 9) rfl)) e0 (g := (mkF m 1 #[.val (.ref rt)] [(.ref rt)])) rfl (by rw [hml]; rfl) rfl (hb hby own_d6_1) (by decide) (W := 0) (by show 2 * 0 + _ ≤ _; exact Nat.le_of_eq rfl) (by decide)
  refine Goes.go st1 ?_
  show Goes p e below s _ _ _ T1 (mkF m 4 #[.val (.ref rt)] [])
  refine own_retV X1 hx hlk Bd.returns (hb hby own_d6_4) (by decide) (by decide) e1 ?_
  exact ⟨rfl, N0, rfl⟩
theorem own_pd0 : parseMethodDescriptor "()V" = some ⟨[], none⟩ := by decide +kernel
theorem own_d5_0 : decode prog_28_method_1_code 0 = .ok (.aload_n 0, 1) := by decide +kernel
theorem own_d5_1 : decode prog_28_method_1_code 1 = .ok (.invokespecial 1, 3) := by decide +kernel
theorem own_d5_4 : decode prog_28_method_1_code 4 = .ok (.aload_n 0, 1) := by decide +kernel
theorem own_d5_5 : decode prog_28_method_1_code 5 = .ok (.iload_n 1, 1) := by decide +kernel
theorem own_d5_6 : decode prog_28_method_1_code 6 = .ok (.putfield 7, 3) := by decide +kernel
theorem own_d5_9 : decode prog_28_method_1_code 9 = .ok (.aload_n 0, 1) := by decide +kernel
theorem own_d5_10 : decode prog_28_method_1_code 10 = .ok (.iload_n 2, 1) := by decide +kernel
theorem own_d5_11 : decode prog_28_method_1_code 11 = .ok (.putfield 13, 3) := by decide +kernel
theorem own_d5_14 : decode prog_28_method_1_code 14 = .ok (.return_, 1) := by decide +kernel
theorem own_pn_com_example_fivestone_fivestone_rules_Point : plainName "com/example/fivestone/fivestone/rules/Point" = true := by first | (simp [plainName, overriddenIn]; done) | decide +kernel
def Q5 (Z : State) (pt : Addr) (pc : Int32) (pr : Int32) (h0 : Heap) (n0 : Nat) (v : Option Value) (h : Heap) (L : List Loc) : Prop := v = none ∧ Fr n0 L ∧ Keep h0 h [pt] ∧ Fld Z h pt "com/example/fivestone/fivestone/rules/Point" "column" "I" (.int pc) ∧ Fld Z h pt "com/example/fivestone/fivestone/rules/Point" "row" "I" (.int pr)
set_option maxRecDepth 65536 in
set_option maxHeartbeats 40000000 in
theorem rm5 (l : Launch) (Z : State) (a0 : Array Value) (hw : ∀ d ∈ tables_1, d.before a0 Z = true) (ws : List Jvm.Cond) (pt : Addr) (pc : Int32) (pr : Int32) (h0 : Heap) (n0 : Nat) (Z0 : n0 ≤ h0.size) (EP : Exa Z h0 pt "com/example/fivestone/fivestone/rules/Point") (Fc : Fld Z h0 pt "com/example/fivestone/fivestone/rules/Point" "column" "I" (.int (0 : Int32))) (Fr_ : Fld Z h0 pt "com/example/fivestone/fivestone/rules/Point" "row" "I" (.int (0 : Int32))) (gp : n0 ≤ pt) :
    MetFree l (⟨"com/example/fivestone/fivestone/rules/Point", "<init>", "(II)V"⟩ : MethodName) (head1 (Jvm.Cond.code (⟨"com/example/fivestone/fivestone/rules/Point", "<init>", "(II)V"⟩ : MethodName) prog_28_method_1_code 3 none :: ws) ({ frames := 2, cells := 0, slots := 0, locals := 24 } : Room)) (fun a U => a = #[(.ref pt), (.int pc), (.int pr)] ∧ Z.Warmed39 U.vm ∧ U.heap = h0) (fun _ _ _ _ _ => True) (fun _ U o U' => ∃ v L, o = .returned v ∧ Q5 Z pt pc pr h0 n0 v U'.heap L ∧ FrameEnd U o U' L ({ frames := 2, cells := 0, slots := 0, locals := 24 } : Room).cells ({ frames := 2, cells := 0, slots := 0, locals := 24 } : Room).slots) := by
  refine MetFree.of_bodySF (plainFor_of_name own_pn_com_example_fivestone_fivestone_rules_Point) hisR ?_
  intro p e s m args below meth c s₁ Bd hml0 hP hK
  obtain ⟨rfl, hZ, hh⟩ := hP
  have hx := Bd.exec
  have hby := Bd.bytes
  have hml : c.maxLocals = 3 := hml0
  have hlk := Bd.notSynchronized
  have hown : s.vm.findClass "com/example/fivestone/fivestone/rules/Point" = some m.cls := findClass_of_methodNamed Bd.named
  have hnm := (name_of_methodNamed Bd.named Bd.method).1
  have X0 : Stand p l e ({ frames := 2, cells := 0, slots := 0, locals := 24 } : Room) s m #[(.ref pt), (.int pc), (.int pr)] below meth c s₁ [] 0 0 := Stand.of_body Bd
  have e0 : s₁.heap = h0 := by rw [← hh, Bd.state]; rfl
  have N0 := Fr.nil n0
  have K0 : Keep h0 h0 [pt] := Keep.refl _ _
  refine own_enter (Q := Q5 Z pt pc pr h0 n0) (Ls := #[.val (.ref pt), .val (.int pc), .val (.int pr)]) (by first | rfl | (simp [entryFrame, mkF, argsToLocals, Value.category]; done)) ?_
  refine own_aloadN X0 hx 1 rfl (hb hby own_d5_0) rfl rfl ?_
  obtain ⟨_, _, ⟨T1, L1, k1, n1⟩, -, X1, ⟨Lc1, hQ1, l1, y1, z1⟩, st1⟩ := X0.specialBack hx (y := (⟨"java/lang/Record", "<init>", "()V"⟩ : MethodName)) rfl hown (mvT hZ (hw _ (List.mem_of_getElem? (i := 33) rfl))) (mvT hZ (hw _ (List.mem_of_getElem? (i := 34) rfl))) (mvT hZ (hw _ (List.mem_of_getElem? (i := 37) rfl))) (by decide) (backOf (W := 0) (rm6 l Z a0 hw [] pt h0 n0 Z0 ) hZ (hw _ (List.mem_of_getElem? (i := 37) rfl)) (hw _ (List.mem_of_getElem? (i := 36) rfl)) (by decide) (by decide)) (g := (mkF m 1 #[.val (.ref pt), .val (.int pc), .val (.int pr)] [(.ref pt)])) rfl (by rw [hml]; rfl) (Steps.refl _) (a := pt) (argsL := []) (rest := []) (lenOf own_pd0 rfl) rfl (by show 2 * 0 + _ ≤ _; exact Nat.le_of_eq rfl) (hb hby own_d5_1) (fun _ _ => ⟨rfl, e0, (by decide : 0 + 0 ≤ _), (by decide : 0 + 0 ≤ _)⟩)
  dsimp only [Pt.U, Pt.locs, Pt.cells, Pt.slots] at X1 l1 y1 z1 st1 hQ1
  subst l1 y1 z1
  obtain ⟨rfl, N1q, eh1⟩ := hQ1
  have N1 := Fr.app N0 N1q
  refine Goes.tr st1 ?_
  show Goes p e below s _ _ _ T1 (mkF m 4 #[.val (.ref pt), .val (.int pc), .val (.int pr)] [])
  refine own_aloadN X1 hx 5 rfl (hb hby own_d5_4) rfl rfl ?_
  refine own_iloadN X1 hx 6 rfl (hb hby own_d5_5) rfl ?_
  obtain ⟨T2, h2, X2, e2, W2, st2⟩ := putF X1 hx hZ hown (host := "") (Or.inl (hw _ (List.mem_of_getElem? (i := 39) rfl))) Via.refl eh1 Fc EP (Or.inr ⟨(hw _ (List.mem_of_getElem? (i := 40) rfl)), rfl, hnm⟩) (hw _ (List.mem_of_getElem? (i := 28) rfl)) (ty := .int) (by decide) rfl rfl (g := (mkF m 6 #[.val (.ref pt), .val (.int pc), .val (.int pr)] [(.int pc), (.ref pt)])) rfl rfl (hb hby own_d5_6)
  have N2 := Fr.snoc X2 N1 gp
  have f3 := EP.wr W2
  have f4 := Fc.same W2
  have f5 := Fr_.other W2 (Or.inr (slot_ne (Or.inr (hw _ (List.mem_of_getElem? (i := 42) rfl))) (Or.inr (hw _ (List.mem_of_getElem? (i := 40) rfl))) (by decide) (t := .int) (t' := .int) (by decide) (by decide)))
  have K2 := K0.wr W2 (Or.inl (List.mem_of_getElem? (i := 0) rfl))
  have Z2 := Nat.le_trans Z0 (Nat.le_of_eq W2.size.symm)
  refine Goes.go st2 ?_
  show Goes p e below s _ _ _ T2 (mkF m 9 #[.val (.ref pt), .val (.int pc), .val (.int pr)] [])
  refine own_aloadN X2 hx 10 rfl (hb hby own_d5_9) rfl rfl ?_
  refine own_iloadN X2 hx 11 rfl (hb hby own_d5_10) rfl ?_
  obtain ⟨T6, h6, X6, e6, W6, st6⟩ := putF X2 hx hZ hown (host := "") (Or.inl (hw _ (List.mem_of_getElem? (i := 41) rfl))) Via.refl e2 f5 f3 (Or.inr ⟨(hw _ (List.mem_of_getElem? (i := 42) rfl)), rfl, hnm⟩) (hw _ (List.mem_of_getElem? (i := 28) rfl)) (ty := .int) (by decide) rfl rfl (g := (mkF m 11 #[.val (.ref pt), .val (.int pc), .val (.int pr)] [(.int pr), (.ref pt)])) rfl rfl (hb hby own_d5_11)
  have N6 := Fr.snoc X6 N2 gp
  have f7 := f3.wr W6
  have f8 := f4.other W6 (Or.inr (slot_ne (Or.inr (hw _ (List.mem_of_getElem? (i := 40) rfl))) (Or.inr (hw _ (List.mem_of_getElem? (i := 42) rfl))) (by decide) (t := .int) (t' := .int) (by decide) (by decide)))
  have f9 := f5.same W6
  have K6 := K2.wr W6 (Or.inl (List.mem_of_getElem? (i := 0) rfl))
  have Z6 := Nat.le_trans Z2 (Nat.le_of_eq W6.size.symm)
  refine Goes.go st6 ?_
  show Goes p e below s _ _ _ T6 (mkF m 14 #[.val (.ref pt), .val (.int pc), .val (.int pr)] [])
  refine own_retV X6 hx hlk Bd.returns (hb hby own_d5_14) (by decide) (by decide) e6 ?_
  exact ⟨rfl, N6, K6, f8, f9⟩
theorem own_d3_0 : decode prog_19_method_3_code 0 = .ok (.iload_n 0, 1) := by decide +kernel
theorem own_d3_1 : decode prog_19_method_3_code 1 = .ok (.iconst 5, 1) := by decide +kernel
theorem own_d3_2 : decode prog_19_method_3_code 2 = .ok (.if_icmp .lt 9, 3) := by decide +kernel
theorem own_d3_5 : decode prog_19_method_3_code 5 = .ok (.iload_n 0, 1) := by decide +kernel
theorem own_d3_6 : decode prog_19_method_3_code 6 = .ok (.bipush 22, 2) := by decide +kernel
theorem own_d3_8 : decode prog_19_method_3_code 8 = .ok (.if_icmp .le 17, 3) := by decide +kernel
theorem own_d3_25 : decode prog_19_method_3_code 25 = .ok (.return_, 1) := by decide +kernel
theorem own_pn_com_example_fivestone_fivestone_rules_Board : plainName "com/example/fivestone/fivestone/rules/Board" = true := by first | (simp [plainName, overriddenIn]; done) | decide +kernel
def Q3 (Z : State) (bs : Int32) (h0 : Heap) (n0 : Nat) (v : Option Value) (h : Heap) (L : List Loc) : Prop := v = none ∧ Fr n0 L ∧ h = h0
set_option maxRecDepth 65536 in
set_option maxHeartbeats 40000000 in
theorem rm3 (l : Launch) (Z : State) (a0 : Array Value) (hw : ∀ d ∈ tables_1, d.before a0 Z = true) (ws : List Jvm.Cond) (bs : Int32) (h0 : Heap) (n0 : Nat) (Z0 : n0 ≤ h0.size) (hs : 5 ≤ bs.toInt ∧ bs.toInt ≤ 22) :
    MetFree l (⟨"com/example/fivestone/fivestone/rules/Board", "checkSize", "(I)V"⟩ : MethodName) (head1 (Jvm.Cond.code (⟨"com/example/fivestone/fivestone/rules/Board", "checkSize", "(I)V"⟩ : MethodName) prog_19_method_3_code 1 none :: ws) ({ frames := 0, cells := 0, slots := 0, locals := 0 } : Room)) (fun a U => a = #[(.int bs)] ∧ Z.Warmed39 U.vm ∧ U.heap = h0) (fun _ _ _ _ _ => True) (fun _ U o U' => ∃ v L, o = .returned v ∧ Q3 Z bs h0 n0 v U'.heap L ∧ FrameEnd U o U' L ({ frames := 0, cells := 0, slots := 0, locals := 0 } : Room).cells ({ frames := 0, cells := 0, slots := 0, locals := 0 } : Room).slots) := by
  refine MetFree.of_bodySF (plainFor_of_name own_pn_com_example_fivestone_fivestone_rules_Board) hisR ?_
  intro p e s m args below meth c s₁ Bd hml0 hP hK
  obtain ⟨rfl, hZ, hh⟩ := hP
  have hx := Bd.exec
  have hby := Bd.bytes
  have hml : c.maxLocals = 1 := hml0
  have hlk := Bd.notSynchronized
  have hown : s.vm.findClass "com/example/fivestone/fivestone/rules/Board" = some m.cls := findClass_of_methodNamed Bd.named
  have hnm := (name_of_methodNamed Bd.named Bd.method).1
  have X0 : Stand p l e ({ frames := 0, cells := 0, slots := 0, locals := 0 } : Room) s m #[(.int bs)] below meth c s₁ [] 0 0 := Stand.of_body Bd
  have e0 : s₁.heap = h0 := by rw [← hh, Bd.state]; rfl
  have N0 := Fr.nil n0
  refine own_enter (Q := Q3 Z bs h0 n0) (Ls := #[.val (.int bs)]) (by first | rfl | (simp [entryFrame, mkF, argsToLocals, Value.category]; done)) ?_
  refine own_iloadN X0 hx 1 rfl (hb hby own_d3_0) rfl ?_
  refine own_iconst X0 hx 2 rfl (5 : Int32) (hb hby own_d3_1) (by decide) ?_
  refine own_icmpN X0 hx 5 (hb hby own_d3_2) (flt (own_ni (k := 5) (by decide) hs.1 : ¬ (bs < (5 : Int32)))).1 rfl ?_
  refine own_iloadN X0 hx 6 rfl (hb hby own_d3_5) rfl ?_
  refine own_bipush X0 hx 8 rfl (22 : Int32) (hb hby own_d3_6) (by decide) ?_
  refine own_icmpY X0 hx 25 (hb hby own_d3_8) (flt (own_ni (k := bs.toInt) rfl hs.2 : ¬ ((22 : Int32) < bs))).2.2.2 (by decide) (by decide) ?_
  refine own_retV X0 hx hlk Bd.returns (hb hby own_d3_25) (by decide) (by decide) e0 ?_
  exact ⟨rfl, N0, rfl⟩
theorem own_pd1 : parseMethodDescriptor "(I)V" = some ⟨[.int], none⟩ := by decide +kernel
theorem own_d1_0 : decode prog_19_method_1_code 0 = .ok (.aload_n 0, 1) := by decide +kernel
theorem own_d1_1 : decode prog_19_method_1_code 1 = .ok (.invokespecial 1, 3) := by decide +kernel
theorem own_d1_4 : decode prog_19_method_1_code 4 = .ok (.iload_n 1, 1) := by decide +kernel
theorem own_d1_5 : decode prog_19_method_1_code 5 = .ok (.invokestatic 7, 3) := by decide +kernel
theorem own_d1_8 : decode prog_19_method_1_code 8 = .ok (.aload_n 0, 1) := by decide +kernel
theorem own_d1_9 : decode prog_19_method_1_code 9 = .ok (.iload_n 1, 1) := by decide +kernel
theorem own_d1_10 : decode prog_19_method_1_code 10 = .ok (.putfield 13, 3) := by decide +kernel
theorem own_d1_13 : decode prog_19_method_1_code 13 = .ok (.aload_n 0, 1) := by decide +kernel
theorem own_d1_14 : decode prog_19_method_1_code 14 = .ok (.iload_n 1, 1) := by decide +kernel
theorem own_d1_15 : decode prog_19_method_1_code 15 = .ok (.iload_n 1, 1) := by decide +kernel
theorem own_d1_16 : decode prog_19_method_1_code 16 = .ok (.imul, 1) := by decide +kernel
theorem own_d1_17 : decode prog_19_method_1_code 17 = .ok (.anewarray 17, 3) := by decide +kernel
theorem own_d1_20 : decode prog_19_method_1_code 20 = .ok (.putfield 19, 3) := by decide +kernel
theorem own_d1_23 : decode prog_19_method_1_code 23 = .ok (.return_, 1) := by decide +kernel
def Q1 (Z : State) (bt : Addr) (bs : Int32) (h0 : Heap) (n0 : Nat) (v : Option Value) (h : Heap) (L : List Loc) : Prop := ∃ ar : Addr, ∃ ak : ClassId, v = none ∧ Fr n0 L ∧ Keep h0 h [bt] ∧ h0.size ≤ ar ∧ Fld Z h bt "com/example/fivestone/fivestone/rules/Board" "size" "I" (.int bs) ∧ Fld Z h bt "com/example/fivestone/fivestone/rules/Board" "stones" "[Lcom/example/fivestone/fivestone/rules/Stone;" (.ref ar) ∧ Fld Z h bt "com/example/fivestone/fivestone/rules/Board" "count" "I" (.int (0 : Int32)) ∧ own_Row Z h ar ak bs (bs * bs) 0 ∧ (Ovr Z ak "com/example/fivestone/fivestone/rules/Stone")
set_option maxRecDepth 65536 in
set_option maxHeartbeats 40000000 in
theorem rm1 (l : Launch) (Z : State) (a0 : Array Value) (hw : ∀ d ∈ tables_1, d.before a0 Z = true) (ws : List Jvm.Cond) (bt : Addr) (bs : Int32) (h0 : Heap) (n0 : Nat) (Z0 : n0 ≤ h0.size) (hs : 5 ≤ bs.toInt ∧ bs.toInt ≤ 22) (EB : Exa Z h0 bt "com/example/fivestone/fivestone/rules/Board") (gb : n0 ≤ bt) (Fs : Fld Z h0 bt "com/example/fivestone/fivestone/rules/Board" "size" "I" (.int (0 : Int32))) (Ft : Fld Z h0 bt "com/example/fivestone/fivestone/rules/Board" "stones" "[Lcom/example/fivestone/fivestone/rules/Stone;" .null) (Fc : Fld Z h0 bt "com/example/fivestone/fivestone/rules/Board" "count" "I" (.int (0 : Int32))) :
    MetFree l (⟨"com/example/fivestone/fivestone/rules/Board", "<init>", "(I)V"⟩ : MethodName) (head1 (Jvm.Cond.code (⟨"com/example/fivestone/fivestone/rules/Board", "<init>", "(I)V"⟩ : MethodName) prog_19_method_1_code 2 none :: ws) ({ frames := 1, cells := 1, slots := 484, locals := 12 } : Room)) (fun a U => a = #[(.ref bt), (.int bs)] ∧ Z.Warmed39 U.vm ∧ U.heap = h0) (fun _ _ _ _ _ => True) (fun _ U o U' => ∃ v L, o = .returned v ∧ Q1 Z bt bs h0 n0 v U'.heap L ∧ FrameEnd U o U' L ({ frames := 1, cells := 1, slots := 484, locals := 12 } : Room).cells ({ frames := 1, cells := 1, slots := 484, locals := 12 } : Room).slots) := by
  refine MetFree.of_bodySF (plainFor_of_name own_pn_com_example_fivestone_fivestone_rules_Board) hisR ?_
  intro p e s m args below meth c s₁ Bd hml0 hP hK
  obtain ⟨rfl, hZ, hh⟩ := hP
  have hx := Bd.exec
  have hby := Bd.bytes
  have hml : c.maxLocals = 2 := hml0
  have hlk := Bd.notSynchronized
  have hown : s.vm.findClass "com/example/fivestone/fivestone/rules/Board" = some m.cls := findClass_of_methodNamed Bd.named
  have hnm := (name_of_methodNamed Bd.named Bd.method).1
  have X0 : Stand p l e ({ frames := 1, cells := 1, slots := 484, locals := 12 } : Room) s m #[(.ref bt), (.int bs)] below meth c s₁ [] 0 0 := Stand.of_body Bd
  have e0 : s₁.heap = h0 := by rw [← hh, Bd.state]; rfl
  have N0 := Fr.nil n0
  have K0 : Keep h0 h0 [bt] := Keep.refl _ _
  refine own_enter (Q := Q1 Z bt bs h0 n0) (Ls := #[.val (.ref bt), .val (.int bs)]) (by first | rfl | (simp [entryFrame, mkF, argsToLocals, Value.category]; done)) ?_
  refine own_aloadN X0 hx 1 rfl (hb hby own_d1_0) rfl rfl ?_
  obtain ⟨T1, X1, e1, st1⟩ := initO X0 hx hZ hown (hw _ (List.mem_of_getElem? (i := 7) rfl)) (hw _ (List.mem_of_getElem? (i := 8) rfl)) (hw _ (List.mem_of_getElem? (i := 9) rfl)) e0 (g := (mkF m 1 #[.val (.ref bt), .val (.int bs)] [(.ref bt)])) rfl (by rw [hml]; rfl) rfl (hb hby own_d1_1) (by decide) (W := 0) (by show 2 * 0 + _ ≤ _; exact Nat.le_of_eq rfl) (by decide)
  refine Goes.go st1 ?_
  show Goes p e below s _ _ _ T1 (mkF m 4 #[.val (.ref bt), .val (.int bs)] [])
  refine own_iloadN X1 hx 5 rfl (hb hby own_d1_4) rfl ?_
  obtain ⟨_, _, ⟨T2, L2, k2, n2⟩, -, X2, ⟨Lc2, hQ2, l2, y2, z2⟩, st2⟩ := Jvm.LawKit.callS X1 hx (y := (⟨"com/example/fivestone/fivestone/rules/Board", "checkSize", "(I)V"⟩ : MethodName)) hown (mvT hZ (hw _ (List.mem_of_getElem? (i := 10) rfl))) (mvT hZ (hw _ (List.mem_of_getElem? (i := 11) rfl))) (mvT hZ (hw _ (List.mem_of_getElem? (i := 3) rfl))) (mvT hZ (hw _ (List.mem_of_getElem? (i := 12) rfl))) (by decide) (backOf (W := 0) (rm3 l Z a0 hw [] bs h0 n0 Z0 hs) hZ (hw _ (List.mem_of_getElem? (i := 12) rfl)) (hw _ (List.mem_of_getElem? (i := 3) rfl)) (by decide) (by decide)) (g := (mkF m 5 #[.val (.ref bt), .val (.int bs)] [(.int bs)])) rfl (by rw [hml]; rfl) (argsL := [(.int bs)]) (rest := []) (lenOf own_pd1 rfl) rfl (by show 2 * 0 + _ ≤ _; exact Nat.le_of_eq rfl) (hb hby own_d1_5) (fun _ _ => ⟨rfl, e1, (by decide : 0 + 0 ≤ _), (by decide : 0 + 0 ≤ _)⟩)
  dsimp only [Pt.U, Pt.locs, Pt.cells, Pt.slots] at X2 l2 y2 z2 st2 hQ2
  subst l2 y2 z2
  obtain ⟨rfl, N2q, eh2⟩ := hQ2
  have N2 := Fr.app N0 N2q
  refine Goes.go st2 ?_
  show Goes p e below s _ _ _ T2 (mkF m 8 #[.val (.ref bt), .val (.int bs)] [])
  refine own_aloadN X2 hx 9 rfl (hb hby own_d1_8) rfl rfl ?_
  refine own_iloadN X2 hx 10 rfl (hb hby own_d1_9) rfl ?_
  obtain ⟨T3, h3, X3, e3, W3, st3⟩ := putF X2 hx hZ hown (host := "") (Or.inl (hw _ (List.mem_of_getElem? (i := 13) rfl))) Via.refl eh2 Fs EB (Or.inr ⟨(hw _ (List.mem_of_getElem? (i := 14) rfl)), rfl, hnm⟩) (hw _ (List.mem_of_getElem? (i := 2) rfl)) (ty := .int) (by decide) rfl rfl (g := (mkF m 10 #[.val (.ref bt), .val (.int bs)] [(.int bs), (.ref bt)])) rfl rfl (hb hby own_d1_10)
  have N3 := Fr.snoc X3 N2 gb
  have f4 := EB.wr W3
  have f5 := Fs.same W3
  have f6 := Ft.other W3 (Or.inr (slot_ne (Or.inr (hw _ (List.mem_of_getElem? (i := 18) rfl))) (Or.inr (hw _ (List.mem_of_getElem? (i := 14) rfl))) (by decide) (t := (.array (.object "com/example/fivestone/fivestone/rules/Stone"))) (t' := .int) (by decide) (by decide)))
  have f7 := Fc.other W3 (Or.inr (slot_ne (Or.inl (hw _ (List.mem_of_getElem? (i := 91) rfl))) (Or.inr (hw _ (List.mem_of_getElem? (i := 14) rfl))) (by decide) (t := .int) (t' := .int) (by decide) (by decide)))
  have K3 := K0.wr W3 (Or.inl (List.mem_of_getElem? (i := 0) rfl))
  have Z3 := Nat.le_trans Z0 (Nat.le_of_eq W3.size.symm)
  refine Goes.go st3 ?_
  show Goes p e below s _ _ _ T3 (mkF m 13 #[.val (.ref bt), .val (.int bs)] [])
  refine own_aloadN X3 hx 14 rfl (hb hby own_d1_13) rfl rfl ?_
  refine own_iloadN X3 hx 15 rfl (hb hby own_d1_14) rfl ?_
  refine own_iloadN X3 hx 16 rfl (hb hby own_d1_15) rfl ?_
  refine own_imul X3 hx 17 rfl (hb hby own_d1_16) rfl ?_
  obtain ⟨T8, h8, k8, X8, e8, E8, A8, O8, st8⟩ := newR X3 hx hZ hown (hw _ (List.mem_of_getElem? (i := 15) rfl)) (hw _ (List.mem_of_getElem? (i := 16) rfl)) e3 (g := (mkF m 17 #[.val (.ref bt), .val (.int bs)] [(.int (bs * bs)), (.ref bt)])) rfl (hb hby own_d1_17) rfl (own_sq0 bs hs) (cap := 484) (own_sqc bs hs) (by decide) (by decide) (by decide)
  obtain ⟨b8, g8⟩ : ∃ z, z = h3.size := ⟨_, rfl⟩
  rw [← g8] at A8 st8
  have ne9 : bt ≠ b8 := own_lt_ne f4.lt g8
  have G8 : n0 ≤ b8 := Nat.le_trans Z3 (Nat.le_of_eq g8.symm)
  have H8 : h0.size ≤ b8 := Nat.le_trans K3.1 (Nat.le_of_eq g8.symm)
  have f10 := f4.ext E8
  have f11 := f5.ext E8
  have f12 := f6.ext E8
  have f13 := f7.ext E8
  have K8 := K3.ext E8
  have Z8 := Nat.le_trans Z3 E8.1
  have V8 : own_Row Z h8 b8 k8 bs (bs * bs) 0 := own_Row.new A8 (own_sq0 bs hs)
  refine Goes.go st8 ?_
  show Goes p e below s _ _ _ T8 (mkF m 20 #[.val (.ref bt), .val (.int bs)] [(.ref b8), (.ref bt)])
  obtain ⟨T14, h14, X14, e14, W14, st14⟩ := putF X8 hx hZ hown (host := "") (Or.inl (hw _ (List.mem_of_getElem? (i := 17) rfl))) Via.refl e8 f12 f10 (Or.inr ⟨(hw _ (List.mem_of_getElem? (i := 18) rfl)), rfl, hnm⟩) (hw _ (List.mem_of_getElem? (i := 2) rfl)) (ty := (.array (.object "com/example/fivestone/fivestone/rules/Stone"))) (by decide) rfl rfl (g := (mkF m 20 #[.val (.ref bt), .val (.int bs)] [(.ref b8), (.ref bt)])) rfl rfl (hb hby own_d1_20)
  have N14 := Fr.snoc X14 N3 gb
  have f15 := f10.wr W14
  have f16 := f11.other W14 (Or.inr (slot_ne (Or.inr (hw _ (List.mem_of_getElem? (i := 14) rfl))) (Or.inr (hw _ (List.mem_of_getElem? (i := 18) rfl))) (by decide) (t := .int) (t' := (.array (.object "com/example/fivestone/fivestone/rules/Stone"))) (by decide) (by decide)))
  have f17 := f12.same W14
  have f18 := f13.other W14 (Or.inr (slot_ne (Or.inl (hw _ (List.mem_of_getElem? (i := 91) rfl))) (Or.inr (hw _ (List.mem_of_getElem? (i := 18) rfl))) (by decide) (t := .int) (t' := (.array (.object "com/example/fivestone/fivestone/rules/Stone"))) (by decide) (by decide)))
  have f19 := V8.other W14 (Ne.symm ne9)
  have K14 := K8.wr W14 (Or.inl (List.mem_of_getElem? (i := 0) rfl))
  have Z14 := Nat.le_trans Z8 (Nat.le_of_eq W14.size.symm)
  refine Goes.go st14 ?_
  show Goes p e below s _ _ _ T14 (mkF m 23 #[.val (.ref bt), .val (.int bs)] [])
  refine own_retV X14 hx hlk Bd.returns (hb hby own_d1_23) (by decide) (by decide) e14 ?_
  exact ⟨b8, k8, rfl, N14, K14, H8, f16, f17, f18, f19, O8⟩
theorem own_d10_0 : decode prog_28_method_8_code 0 = .ok (.aload_n 0, 1) := by decide +kernel
theorem own_d10_1 : decode prog_28_method_8_code 1 = .ok (.getfield 7, 3) := by decide +kernel
theorem own_d10_4 : decode prog_28_method_8_code 4 = .ok (.ireturn, 1) := by decide +kernel
def Q10 (Z : State) (pt : Addr) (pc : Int32) (h0 : Heap) (n0 : Nat) (v : Option Value) (h : Heap) (L : List Loc) : Prop := v = some (.int pc) ∧ Fr n0 L ∧ h = h0
set_option maxRecDepth 65536 in
set_option maxHeartbeats 40000000 in
theorem rm10 (l : Launch) (Z : State) (a0 : Array Value) (hw : ∀ d ∈ tables_1, d.before a0 Z = true) (ws : List Jvm.Cond) (pt : Addr) (pc : Int32) (h0 : Heap) (n0 : Nat) (Z0 : n0 ≤ h0.size) (Fc : Fld Z h0 pt "com/example/fivestone/fivestone/rules/Point" "column" "I" (.int pc)) :
    MetFree l (⟨"com/example/fivestone/fivestone/rules/Point", "column", "()I"⟩ : MethodName) (head1 (Jvm.Cond.code (⟨"com/example/fivestone/fivestone/rules/Point", "column", "()I"⟩ : MethodName) prog_28_method_8_code 1 (some .int) :: ws) ({ frames := 0, cells := 0, slots := 0, locals := 0 } : Room)) (fun a U => a = #[(.ref pt)] ∧ Z.Warmed39 U.vm ∧ U.heap = h0) (fun _ _ _ _ _ => True) (fun _ U o U' => ∃ v L, o = .returned v ∧ Q10 Z pt pc h0 n0 v U'.heap L ∧ FrameEnd U o U' L ({ frames := 0, cells := 0, slots := 0, locals := 0 } : Room).cells ({ frames := 0, cells := 0, slots := 0, locals := 0 } : Room).slots) := by
  refine MetFree.of_bodySF (plainFor_of_name own_pn_com_example_fivestone_fivestone_rules_Point) hisR ?_
  intro p e s m args below meth c s₁ Bd hml0 hP hK
  obtain ⟨rfl, hZ, hh⟩ := hP
  have hx := Bd.exec
  have hby := Bd.bytes
  have hml : c.maxLocals = 1 := hml0
  have hlk := Bd.notSynchronized
  have hown : s.vm.findClass "com/example/fivestone/fivestone/rules/Point" = some m.cls := findClass_of_methodNamed Bd.named
  have hnm := (name_of_methodNamed Bd.named Bd.method).1
  have X0 : Stand p l e ({ frames := 0, cells := 0, slots := 0, locals := 0 } : Room) s m #[(.ref pt)] below meth c s₁ [] 0 0 := Stand.of_body Bd
  have e0 : s₁.heap = h0 := by rw [← hh, Bd.state]; rfl
  have N0 := Fr.nil n0
  refine own_enter (Q := Q10 Z pt pc h0 n0) (Ls := #[.val (.ref pt)]) (by first | rfl | (simp [entryFrame, mkF, argsToLocals, Value.category]; done)) ?_
  refine own_aloadN X0 hx 1 rfl (hb hby own_d10_0) rfl rfl ?_
  obtain ⟨T1, X1, e1, st1⟩ := getF X0 hx hZ hown (host := "") (Or.inl (hw _ (List.mem_of_getElem? (i := 39) rfl))) Via.refl e0 Fc (g := (mkF m 1 #[.val (.ref pt)] [(.ref pt)])) rfl rfl (hb hby own_d10_1)
  refine Goes.go st1 ?_
  show Goes p e below s _ _ _ T1 (mkF m 4 #[.val (.ref pt)] [(.int pc)])
  refine own_retI X1 hx hlk Bd.returns (hb hby own_d10_4) (by decide) (by decide) e1 ?_
  exact ⟨rfl, N0, rfl⟩
theorem own_d11_0 : decode prog_28_method_9_code 0 = .ok (.aload_n 0, 1) := by decide +kernel
theorem own_d11_1 : decode prog_28_method_9_code 1 = .ok (.getfield 13, 3) := by decide +kernel
theorem own_d11_4 : decode prog_28_method_9_code 4 = .ok (.ireturn, 1) := by decide +kernel
def Q11 (Z : State) (pt : Addr) (pr : Int32) (h0 : Heap) (n0 : Nat) (v : Option Value) (h : Heap) (L : List Loc) : Prop := v = some (.int pr) ∧ Fr n0 L ∧ h = h0
set_option maxRecDepth 65536 in
set_option maxHeartbeats 40000000 in
theorem rm11 (l : Launch) (Z : State) (a0 : Array Value) (hw : ∀ d ∈ tables_1, d.before a0 Z = true) (ws : List Jvm.Cond) (pt : Addr) (pr : Int32) (h0 : Heap) (n0 : Nat) (Z0 : n0 ≤ h0.size) (Fr_ : Fld Z h0 pt "com/example/fivestone/fivestone/rules/Point" "row" "I" (.int pr)) :
    MetFree l (⟨"com/example/fivestone/fivestone/rules/Point", "row", "()I"⟩ : MethodName) (head1 (Jvm.Cond.code (⟨"com/example/fivestone/fivestone/rules/Point", "row", "()I"⟩ : MethodName) prog_28_method_9_code 1 (some .int) :: ws) ({ frames := 0, cells := 0, slots := 0, locals := 0 } : Room)) (fun a U => a = #[(.ref pt)] ∧ Z.Warmed39 U.vm ∧ U.heap = h0) (fun _ _ _ _ _ => True) (fun _ U o U' => ∃ v L, o = .returned v ∧ Q11 Z pt pr h0 n0 v U'.heap L ∧ FrameEnd U o U' L ({ frames := 0, cells := 0, slots := 0, locals := 0 } : Room).cells ({ frames := 0, cells := 0, slots := 0, locals := 0 } : Room).slots) := by
  refine MetFree.of_bodySF (plainFor_of_name own_pn_com_example_fivestone_fivestone_rules_Point) hisR ?_
  intro p e s m args below meth c s₁ Bd hml0 hP hK
  obtain ⟨rfl, hZ, hh⟩ := hP
  have hx := Bd.exec
  have hby := Bd.bytes
  have hml : c.maxLocals = 1 := hml0
  have hlk := Bd.notSynchronized
  have hown : s.vm.findClass "com/example/fivestone/fivestone/rules/Point" = some m.cls := findClass_of_methodNamed Bd.named
  have hnm := (name_of_methodNamed Bd.named Bd.method).1
  have X0 : Stand p l e ({ frames := 0, cells := 0, slots := 0, locals := 0 } : Room) s m #[(.ref pt)] below meth c s₁ [] 0 0 := Stand.of_body Bd
  have e0 : s₁.heap = h0 := by rw [← hh, Bd.state]; rfl
  have N0 := Fr.nil n0
  refine own_enter (Q := Q11 Z pt pr h0 n0) (Ls := #[.val (.ref pt)]) (by first | rfl | (simp [entryFrame, mkF, argsToLocals, Value.category]; done)) ?_
  refine own_aloadN X0 hx 1 rfl (hb hby own_d11_0) rfl rfl ?_
  obtain ⟨T1, X1, e1, st1⟩ := getF X0 hx hZ hown (host := "") (Or.inl (hw _ (List.mem_of_getElem? (i := 41) rfl))) Via.refl e0 Fr_ (g := (mkF m 1 #[.val (.ref pt)] [(.ref pt)])) rfl rfl (hb hby own_d11_1)
  refine Goes.go st1 ?_
  show Goes p e below s _ _ _ T1 (mkF m 4 #[.val (.ref pt)] [(.int pr)])
  refine own_retI X1 hx hlk Bd.returns (hb hby own_d11_4) (by decide) (by decide) e1 ?_
  exact ⟨rfl, N0, rfl⟩
theorem own_pd2 : parseMethodDescriptor "()I" = some ⟨[], some .int⟩ := by decide +kernel
theorem own_d9_0 : decode prog_19_method_6_code 0 = .ok (.aload_n 1, 1) := by decide +kernel
theorem own_d9_1 : decode prog_19_method_6_code 1 = .ok (.invokevirtual 54, 3) := by decide +kernel
theorem own_d9_4 : decode prog_19_method_6_code 4 = .ok (.ifCond .lt 36, 3) := by decide +kernel
theorem own_d9_7 : decode prog_19_method_6_code 7 = .ok (.aload_n 1, 1) := by decide +kernel
theorem own_d9_8 : decode prog_19_method_6_code 8 = .ok (.invokevirtual 54, 3) := by decide +kernel
theorem own_d9_11 : decode prog_19_method_6_code 11 = .ok (.aload_n 0, 1) := by decide +kernel
theorem own_d9_12 : decode prog_19_method_6_code 12 = .ok (.getfield 13, 3) := by decide +kernel
theorem own_d9_15 : decode prog_19_method_6_code 15 = .ok (.if_icmp .ge 25, 3) := by decide +kernel
theorem own_d9_18 : decode prog_19_method_6_code 18 = .ok (.aload_n 1, 1) := by decide +kernel
theorem own_d9_19 : decode prog_19_method_6_code 19 = .ok (.invokevirtual 60, 3) := by decide +kernel
theorem own_d9_22 : decode prog_19_method_6_code 22 = .ok (.ifCond .lt 18, 3) := by decide +kernel
theorem own_d9_25 : decode prog_19_method_6_code 25 = .ok (.aload_n 1, 1) := by decide +kernel
theorem own_d9_26 : decode prog_19_method_6_code 26 = .ok (.invokevirtual 60, 3) := by decide +kernel
theorem own_d9_29 : decode prog_19_method_6_code 29 = .ok (.aload_n 0, 1) := by decide +kernel
theorem own_d9_30 : decode prog_19_method_6_code 30 = .ok (.getfield 13, 3) := by decide +kernel
theorem own_d9_33 : decode prog_19_method_6_code 33 = .ok (.if_icmp .ge 7, 3) := by decide +kernel
theorem own_d9_36 : decode prog_19_method_6_code 36 = .ok (.iconst 1, 1) := by decide +kernel
theorem own_d9_37 : decode prog_19_method_6_code 37 = .ok (.goto 4, 3) := by decide +kernel
theorem own_d9_41 : decode prog_19_method_6_code 41 = .ok (.ireturn, 1) := by decide +kernel
def Q9 (Z : State) (bt : Addr) (pt : Addr) (pc : Int32) (pr : Int32) (bs : Int32) (h0 : Heap) (n0 : Nat) (v : Option Value) (h : Heap) (L : List Loc) : Prop := v = some (.int (1 : Int32)) ∧ Fr n0 L ∧ h = h0
set_option maxRecDepth 65536 in
set_option maxHeartbeats 40000000 in
theorem rm9 (l : Launch) (Z : State) (a0 : Array Value) (hw : ∀ d ∈ tables_1, d.before a0 Z = true) (ws : List Jvm.Cond) (bt : Addr) (pt : Addr) (pc : Int32) (pr : Int32) (bs : Int32) (h0 : Heap) (n0 : Nat) (Z0 : n0 ≤ h0.size) (EP : Exa Z h0 pt "com/example/fivestone/fivestone/rules/Point") (Fc : Fld Z h0 pt "com/example/fivestone/fivestone/rules/Point" "column" "I" (.int pc)) (Fr_ : Fld Z h0 pt "com/example/fivestone/fivestone/rules/Point" "row" "I" (.int pr)) (Fs : Fld Z h0 bt "com/example/fivestone/fivestone/rules/Board" "size" "I" (.int bs)) (hcol : 0 ≤ pc.toInt ∧ pc.toInt < bs.toInt) (hrow : 0 ≤ pr.toInt ∧ pr.toInt < bs.toInt) :
    MetFree l (⟨"com/example/fivestone/fivestone/rules/Board", "contains", "(Lcom/example/fivestone/fivestone/rules/Point;)Z"⟩ : MethodName) (head1 (Jvm.Cond.code (⟨"com/example/fivestone/fivestone/rules/Board", "contains", "(Lcom/example/fivestone/fivestone/rules/Point;)Z"⟩ : MethodName) prog_19_method_6_code 2 (some .boolean) :: ws) ({ frames := 1, cells := 0, slots := 0, locals := 12 } : Room)) (fun a U => a = #[(.ref bt), (.ref pt)] ∧ Z.Warmed39 U.vm ∧ U.heap = h0) (fun _ _ _ _ _ => True) (fun _ U o U' => ∃ v L, o = .returned v ∧ Q9 Z bt pt pc pr bs h0 n0 v U'.heap L ∧ FrameEnd U o U' L ({ frames := 1, cells := 0, slots := 0, locals := 12 } : Room).cells ({ frames := 1, cells := 0, slots := 0, locals := 12 } : Room).slots) := by
  refine MetFree.of_bodySF (plainFor_of_name own_pn_com_example_fivestone_fivestone_rules_Board) hisR ?_
  intro p e s m args below meth c s₁ Bd hml0 hP hK
  obtain ⟨rfl, hZ, hh⟩ := hP
  have hx := Bd.exec
  have hby := Bd.bytes
  have hml : c.maxLocals = 2 := hml0
  have hlk := Bd.notSynchronized
  have hown : s.vm.findClass "com/example/fivestone/fivestone/rules/Board" = some m.cls := findClass_of_methodNamed Bd.named
  have hnm := (name_of_methodNamed Bd.named Bd.method).1
  have X0 : Stand p l e ({ frames := 1, cells := 0, slots := 0, locals := 12 } : Room) s m #[(.ref bt), (.ref pt)] below meth c s₁ [] 0 0 := Stand.of_body Bd
  have e0 : s₁.heap = h0 := by rw [← hh, Bd.state]; rfl
  have N0 := Fr.nil n0
  refine own_enter (Q := Q9 Z bt pt pc pr bs h0 n0) (Ls := #[.val (.ref bt), .val (.ref pt)]) (by first | rfl | (simp [entryFrame, mkF, argsToLocals, Value.category]; done)) ?_
  refine own_aloadN X0 hx 1 rfl (hb hby own_d9_0) rfl rfl ?_
  obtain ⟨cq1, kq1, q1a, q1b, q1c⟩ := isOf hZ e0 EP
  obtain ⟨_, _, ⟨T1, L1, k1, n1⟩, -, X1, ⟨Lc1, hQ1, l1, y1, z1⟩, st1⟩ := X0.virtualBack hx (y := (⟨"com/example/fivestone/fivestone/rules/Point", "column", "()I"⟩ : MethodName)) (z := (⟨"com/example/fivestone/fivestone/rules/Point", "column", "()I"⟩ : MethodName)) hown (mvT hZ (hw _ (List.mem_of_getElem? (i := 58) rfl))) (mvT hZ (hw _ (List.mem_of_getElem? (i := 59) rfl))) (notFace_of_selects (args := #[]) (mvT hZ (hw _ (List.mem_of_getElem? (i := 61) rfl)))) (mvT hZ (hw _ (List.mem_of_getElem? (i := 61) rfl))) (mvT hZ (hw _ (List.mem_of_getElem? (i := 60) rfl))) (by decide) (backOf (W := 0) (rm10 l Z a0 hw [] pt pc h0 n0 Z0 Fc) hZ (hw _ (List.mem_of_getElem? (i := 62) rfl)) (hw _ (List.mem_of_getElem? (i := 29) rfl)) (by decide) (by decide)) q1a q1c (g := (mkF m 1 #[.val (.ref bt), .val (.ref pt)] [(.ref pt)])) rfl (by rw [hml]; rfl) (Steps.refl _) (argsL := []) (rest := []) (lenOf own_pd2 rfl) rfl (by show 2 * 0 + _ ≤ _; exact Nat.le_of_eq rfl) (hb hby own_d9_1) (fun _ _ => ⟨rfl, e0, (by decide : 0 + 0 ≤ _), (by decide : 0 + 0 ≤ _)⟩)
  dsimp only [Pt.U, Pt.locs, Pt.cells, Pt.slots] at X1 l1 y1 z1 st1 hQ1
  subst l1 y1 z1
  obtain ⟨rfl, N1q, eh1⟩ := hQ1
  have N1 := Fr.app N0 N1q
  refine Goes.tr st1 ?_
  show Goes p e below s _ _ _ T1 (mkF m 4 #[.val (.ref bt), .val (.ref pt)] [(.int pc)])
  refine own_ifN X1 hx 7 (hb hby own_d9_4) ((if0 _ _).trans (flt (own_ni (k := 0) (by decide) hcol.1 : ¬ (pc < (0 : Int32)))).1) rfl ?_
  refine own_aloadN X1 hx 8 rfl (hb hby own_d9_7) rfl rfl ?_
  obtain ⟨cq2, kq2, q2a, q2b, q2c⟩ := isOf hZ eh1 EP
  obtain ⟨_, _, ⟨T2, L2, k2, n2⟩, -, X2, ⟨Lc2, hQ2, l2, y2, z2⟩, st2⟩ := X1.virtualBack hx (y := (⟨"com/example/fivestone/fivestone/rules/Point", "column", "()I"⟩ : MethodName)) (z := (⟨"com/example/fivestone/fivestone/rules/Point", "column", "()I"⟩ : MethodName)) hown (mvT hZ (hw _ (List.mem_of_getElem? (i := 58) rfl))) (mvT hZ (hw _ (List.mem_of_getElem? (i := 59) rfl))) (notFace_of_selects (args := #[]) (mvT hZ (hw _ (List.mem_of_getElem? (i := 61) rfl)))) (mvT hZ (hw _ (List.mem_of_getElem? (i := 61) rfl))) (mvT hZ (hw _ (List.mem_of_getElem? (i := 60) rfl))) (by decide) (backOf (W := 0) (rm10 l Z a0 hw [] pt pc h0 n0 Z0 Fc) hZ (hw _ (List.mem_of_getElem? (i := 62) rfl)) (hw _ (List.mem_of_getElem? (i := 29) rfl)) (by decide) (by decide)) q2a q2c (g := (mkF m 8 #[.val (.ref bt), .val (.ref pt)] [(.ref pt)])) rfl (by rw [hml]; rfl) (Steps.refl _) (argsL := []) (rest := []) (lenOf own_pd2 rfl) rfl (by show 2 * 0 + _ ≤ _; exact Nat.le_of_eq rfl) (hb hby own_d9_8) (fun _ _ => ⟨rfl, eh1, (by decide : 0 + 0 ≤ _), (by decide : 0 + 0 ≤ _)⟩)
  dsimp only [Pt.U, Pt.locs, Pt.cells, Pt.slots] at X2 l2 y2 z2 st2 hQ2
  subst l2 y2 z2
  obtain ⟨rfl, N2q, eh2⟩ := hQ2
  have N2 := Fr.app N1 N2q
  refine Goes.tr st2 ?_
  show Goes p e below s _ _ _ T2 (mkF m 11 #[.val (.ref bt), .val (.ref pt)] [(.int pc)])
  refine own_aloadN X2 hx 12 rfl (hb hby own_d9_11) rfl rfl ?_
  obtain ⟨T3, X3, e3, st3⟩ := getF X2 hx hZ hown (host := "") (Or.inl (hw _ (List.mem_of_getElem? (i := 13) rfl))) Via.refl eh2 Fs (g := (mkF m 12 #[.val (.ref bt), .val (.ref pt)] [(.ref bt), (.int pc)])) rfl rfl (hb hby own_d9_12)
  refine Goes.go st3 ?_
  show Goes p e below s _ _ _ T3 (mkF m 15 #[.val (.ref bt), .val (.ref pt)] [(.int bs), (.int pc)])
  refine own_icmpN X3 hx 18 (hb hby own_d9_15) (tlt (own_in (k := bs.toInt) rfl hcol.2 : pc < bs)).2.1 rfl ?_
  refine own_aloadN X3 hx 19 rfl (hb hby own_d9_18) rfl rfl ?_
  obtain ⟨cq4, kq4, q4a, q4b, q4c⟩ := isOf hZ e3 EP
  obtain ⟨_, _, ⟨T4, L4, k4, n4⟩, -, X4, ⟨Lc4, hQ4, l4, y4, z4⟩, st4⟩ := X3.virtualBack hx (y := (⟨"com/example/fivestone/fivestone/rules/Point", "row", "()I"⟩ : MethodName)) (z := (⟨"com/example/fivestone/fivestone/rules/Point", "row", "()I"⟩ : MethodName)) hown (mvT hZ (hw _ (List.mem_of_getElem? (i := 63) rfl))) (mvT hZ (hw _ (List.mem_of_getElem? (i := 64) rfl))) (notFace_of_selects (args := #[]) (mvT hZ (hw _ (List.mem_of_getElem? (i := 66) rfl)))) (mvT hZ (hw _ (List.mem_of_getElem? (i := 66) rfl))) (mvT hZ (hw _ (List.mem_of_getElem? (i := 65) rfl))) (by decide) (backOf (W := 0) (rm11 l Z a0 hw [] pt pr h0 n0 Z0 Fr_) hZ (hw _ (List.mem_of_getElem? (i := 67) rfl)) (hw _ (List.mem_of_getElem? (i := 29) rfl)) (by decide) (by decide)) q4a q4c (g := (mkF m 19 #[.val (.ref bt), .val (.ref pt)] [(.ref pt)])) rfl (by rw [hml]; rfl) (Steps.refl _) (argsL := []) (rest := []) (lenOf own_pd2 rfl) rfl (by show 2 * 0 + _ ≤ _; exact Nat.le_of_eq rfl) (hb hby own_d9_19) (fun _ _ => ⟨rfl, e3, (by decide : 0 + 0 ≤ _), (by decide : 0 + 0 ≤ _)⟩)
  dsimp only [Pt.U, Pt.locs, Pt.cells, Pt.slots] at X4 l4 y4 z4 st4 hQ4
  subst l4 y4 z4
  obtain ⟨rfl, N4q, eh4⟩ := hQ4
  have N4 := Fr.app N2 N4q
  refine Goes.tr st4 ?_
  show Goes p e below s _ _ _ T4 (mkF m 22 #[.val (.ref bt), .val (.ref pt)] [(.int pr)])
  refine own_ifN X4 hx 25 (hb hby own_d9_22) ((if0 _ _).trans (flt (own_ni (k := 0) (by decide) hrow.1 : ¬ (pr < (0 : Int32)))).1) rfl ?_
  refine own_aloadN X4 hx 26 rfl (hb hby own_d9_25) rfl rfl ?_
  obtain ⟨cq5, kq5, q5a, q5b, q5c⟩ := isOf hZ eh4 EP
  obtain ⟨_, _, ⟨T5, L5, k5, n5⟩, -, X5, ⟨Lc5, hQ5, l5, y5, z5⟩, st5⟩ := X4.virtualBack hx (y := (⟨"com/example/fivestone/fivestone/rules/Point", "row", "()I"⟩ : MethodName)) (z := (⟨"com/example/fivestone/fivestone/rules/Point", "row", "()I"⟩ : MethodName)) hown (mvT hZ (hw _ (List.mem_of_getElem? (i := 63) rfl))) (mvT hZ (hw _ (List.mem_of_getElem? (i := 64) rfl))) (notFace_of_selects (args := #[]) (mvT hZ (hw _ (List.mem_of_getElem? (i := 66) rfl)))) (mvT hZ (hw _ (List.mem_of_getElem? (i := 66) rfl))) (mvT hZ (hw _ (List.mem_of_getElem? (i := 65) rfl))) (by decide) (backOf (W := 0) (rm11 l Z a0 hw [] pt pr h0 n0 Z0 Fr_) hZ (hw _ (List.mem_of_getElem? (i := 67) rfl)) (hw _ (List.mem_of_getElem? (i := 29) rfl)) (by decide) (by decide)) q5a q5c (g := (mkF m 26 #[.val (.ref bt), .val (.ref pt)] [(.ref pt)])) rfl (by rw [hml]; rfl) (Steps.refl _) (argsL := []) (rest := []) (lenOf own_pd2 rfl) rfl (by show 2 * 0 + _ ≤ _; exact Nat.le_of_eq rfl) (hb hby own_d9_26) (fun _ _ => ⟨rfl, eh4, (by decide : 0 + 0 ≤ _), (by decide : 0 + 0 ≤ _)⟩)
  dsimp only [Pt.U, Pt.locs, Pt.cells, Pt.slots] at X5 l5 y5 z5 st5 hQ5
  subst l5 y5 z5
  obtain ⟨rfl, N5q, eh5⟩ := hQ5
  have N5 := Fr.app N4 N5q
  refine Goes.tr st5 ?_
  show Goes p e below s _ _ _ T5 (mkF m 29 #[.val (.ref bt), .val (.ref pt)] [(.int pr)])
  refine own_aloadN X5 hx 30 rfl (hb hby own_d9_29) rfl rfl ?_
  obtain ⟨T6, X6, e6, st6⟩ := getF X5 hx hZ hown (host := "") (Or.inl (hw _ (List.mem_of_getElem? (i := 13) rfl))) Via.refl eh5 Fs (g := (mkF m 30 #[.val (.ref bt), .val (.ref pt)] [(.ref bt), (.int pr)])) rfl rfl (hb hby own_d9_30)
  refine Goes.go st6 ?_
  show Goes p e below s _ _ _ T6 (mkF m 33 #[.val (.ref bt), .val (.ref pt)] [(.int bs), (.int pr)])
  refine own_icmpN X6 hx 36 (hb hby own_d9_33) (tlt (own_in (k := bs.toInt) rfl hrow.2 : pr < bs)).2.1 rfl ?_
  refine own_iconst X6 hx 37 rfl (1 : Int32) (hb hby own_d9_36) (by decide) ?_
  refine own_goto X6 hx 41 (hb hby own_d9_37) (by decide) (by decide) ?_
  refine own_retZ X6 hx hlk Bd.returns (by decide) (hb hby own_d9_41) (by decide) (by decide) e6 ?_
  exact ⟨rfl, N5, rfl⟩
theorem own_pd3 : parseMethodDescriptor "(Lcom/example/fivestone/fivestone/rules/Point;)Z" = some ⟨[(.object "com/example/fivestone/fivestone/rules/Point")], some .boolean⟩ := by decide +kernel
theorem own_d13_0 : decode prog_19_method_16_code 0 = .ok (.aload_n 0, 1) := by decide +kernel
theorem own_d13_1 : decode prog_19_method_16_code 1 = .ok (.aload_n 1, 1) := by decide +kernel
theorem own_d13_2 : decode prog_19_method_16_code 2 = .ok (.invokevirtual 67, 3) := by decide +kernel
theorem own_d13_5 : decode prog_19_method_16_code 5 = .ok (.ifCond .ne 24, 3) := by decide +kernel
theorem own_d13_29 : decode prog_19_method_16_code 29 = .ok (.aload_n 1, 1) := by decide +kernel
theorem own_d13_30 : decode prog_19_method_16_code 30 = .ok (.invokevirtual 60, 3) := by decide +kernel
theorem own_d13_33 : decode prog_19_method_16_code 33 = .ok (.aload_n 0, 1) := by decide +kernel
theorem own_d13_34 : decode prog_19_method_16_code 34 = .ok (.getfield 13, 3) := by decide +kernel
theorem own_d13_37 : decode prog_19_method_16_code 37 = .ok (.imul, 1) := by decide +kernel
theorem own_d13_38 : decode prog_19_method_16_code 38 = .ok (.aload_n 1, 1) := by decide +kernel
theorem own_d13_39 : decode prog_19_method_16_code 39 = .ok (.invokevirtual 54, 3) := by decide +kernel
theorem own_d13_42 : decode prog_19_method_16_code 42 = .ok (.iadd, 1) := by decide +kernel
theorem own_d13_43 : decode prog_19_method_16_code 43 = .ok (.ireturn, 1) := by decide +kernel
def Q13 (Z : State) (bt : Addr) (pt : Addr) (pc : Int32) (pr : Int32) (bs : Int32) (h0 : Heap) (n0 : Nat) (v : Option Value) (h : Heap) (L : List Loc) : Prop := v = some (.int ((pr * bs) + pc)) ∧ Fr n0 L ∧ h = h0
set_option maxRecDepth 65536 in
set_option maxHeartbeats 40000000 in
theorem rm13 (l : Launch) (Z : State) (a0 : Array Value) (hw : ∀ d ∈ tables_1, d.before a0 Z = true) (ws : List Jvm.Cond) (bt : Addr) (pt : Addr) (pc : Int32) (pr : Int32) (bs : Int32) (h0 : Heap) (n0 : Nat) (Z0 : n0 ≤ h0.size) (EP : Exa Z h0 pt "com/example/fivestone/fivestone/rules/Point") (Fc : Fld Z h0 pt "com/example/fivestone/fivestone/rules/Point" "column" "I" (.int pc)) (Fr_ : Fld Z h0 pt "com/example/fivestone/fivestone/rules/Point" "row" "I" (.int pr)) (EB : Exa Z h0 bt "com/example/fivestone/fivestone/rules/Board") (Fs : Fld Z h0 bt "com/example/fivestone/fivestone/rules/Board" "size" "I" (.int bs)) (hcol : 0 ≤ pc.toInt ∧ pc.toInt < bs.toInt) (hrow : 0 ≤ pr.toInt ∧ pr.toInt < bs.toInt) :
    MetFree l (⟨"com/example/fivestone/fivestone/rules/Board", "index", "(Lcom/example/fivestone/fivestone/rules/Point;)I"⟩ : MethodName) (head1 (Jvm.Cond.code (⟨"com/example/fivestone/fivestone/rules/Board", "index", "(Lcom/example/fivestone/fivestone/rules/Point;)I"⟩ : MethodName) prog_19_method_16_code 2 (some .int) :: ws) ({ frames := 2, cells := 0, slots := 0, locals := 25 } : Room)) (fun a U => a = #[(.ref bt), (.ref pt)] ∧ Z.Warmed39 U.vm ∧ U.heap = h0) (fun _ _ _ _ _ => True) (fun _ U o U' => ∃ v L, o = .returned v ∧ Q13 Z bt pt pc pr bs h0 n0 v U'.heap L ∧ FrameEnd U o U' L ({ frames := 2, cells := 0, slots := 0, locals := 25 } : Room).cells ({ frames := 2, cells := 0, slots := 0, locals := 25 } : Room).slots) := by
  refine MetFree.of_bodySF (plainFor_of_name own_pn_com_example_fivestone_fivestone_rules_Board) hisR ?_
  intro p e s m args below meth c s₁ Bd hml0 hP hK
  obtain ⟨rfl, hZ, hh⟩ := hP
  have hx := Bd.exec
  have hby := Bd.bytes
  have hml : c.maxLocals = 2 := hml0
  have hlk := Bd.notSynchronized
  have hown : s.vm.findClass "com/example/fivestone/fivestone/rules/Board" = some m.cls := findClass_of_methodNamed Bd.named
  have hnm := (name_of_methodNamed Bd.named Bd.method).1
  have X0 : Stand p l e ({ frames := 2, cells := 0, slots := 0, locals := 25 } : Room) s m #[(.ref bt), (.ref pt)] below meth c s₁ [] 0 0 := Stand.of_body Bd
  have e0 : s₁.heap = h0 := by rw [← hh, Bd.state]; rfl
  have N0 := Fr.nil n0
  refine own_enter (Q := Q13 Z bt pt pc pr bs h0 n0) (Ls := #[.val (.ref bt), .val (.ref pt)]) (by first | rfl | (simp [entryFrame, mkF, argsToLocals, Value.category]; done)) ?_
  refine own_aloadN X0 hx 1 rfl (hb hby own_d13_0) rfl rfl ?_
  refine own_aloadN X0 hx 2 rfl (hb hby own_d13_1) rfl rfl ?_
  obtain ⟨cq1, kq1, q1a, q1b, q1c⟩ := isOf hZ e0 EB
  obtain ⟨_, _, ⟨T1, L1, k1, n1⟩, -, X1, ⟨Lc1, hQ1, l1, y1, z1⟩, st1⟩ := X0.virtualBack hx (y := (⟨"com/example/fivestone/fivestone/rules/Board", "contains", "(Lcom/example/fivestone/fivestone/rules/Point;)Z"⟩ : MethodName)) (z := (⟨"com/example/fivestone/fivestone/rules/Board", "contains", "(Lcom/example/fivestone/fivestone/rules/Point;)Z"⟩ : MethodName)) hown (mvT hZ (hw _ (List.mem_of_getElem? (i := 53) rfl))) (mvT hZ (hw _ (List.mem_of_getElem? (i := 54) rfl))) (notFace_of_selects (args := #[]) (mvT hZ (hw _ (List.mem_of_getElem? (i := 56) rfl)))) (mvT hZ (hw _ (List.mem_of_getElem? (i := 56) rfl))) (mvT hZ (hw _ (List.mem_of_getElem? (i := 55) rfl))) (by decide) (backOf (W := 0) (rm9 l Z a0 hw [] bt pt pc pr bs h0 n0 Z0 EP Fc Fr_ Fs hcol hrow) hZ (hw _ (List.mem_of_getElem? (i := 57) rfl)) (hw _ (List.mem_of_getElem? (i := 3) rfl)) (by decide) (by decide)) q1a q1c (g := (mkF m 2 #[.val (.ref bt), .val (.ref pt)] [(.ref pt), (.ref bt)])) rfl (by rw [hml]; rfl) (Steps.refl _) (argsL := [(.ref pt)]) (rest := []) (lenOf own_pd3 rfl) rfl (by show 2 * 0 + _ ≤ _; exact Nat.le_of_eq rfl) (hb hby own_d13_2) (fun _ _ => ⟨rfl, e0, (by decide : 0 + 0 ≤ _), (by decide : 0 + 0 ≤ _)⟩)
  dsimp only [Pt.U, Pt.locs, Pt.cells, Pt.slots] at X1 l1 y1 z1 st1 hQ1
  subst l1 y1 z1
  obtain ⟨rfl, N1q, eh1⟩ := hQ1
  have N1 := Fr.app N0 N1q
  refine Goes.tr st1 ?_
  show Goes p e below s _ _ _ T1 (mkF m 5 #[.val (.ref bt), .val (.ref pt)] [(.int (1 : Int32))])
  refine own_ifY X1 hx 29 (hb hby own_d13_5) ((if0 _ _).trans (feq ((by decide) : ¬ ((1 : Int32) = (0 : Int32)))).2) (by decide) (by decide) ?_
  refine own_aloadN X1 hx 30 rfl (hb hby own_d13_29) rfl rfl ?_
  obtain ⟨cq2, kq2, q2a, q2b, q2c⟩ := isOf hZ eh1 EP
  obtain ⟨_, _, ⟨T2, L2, k2, n2⟩, -, X2, ⟨Lc2, hQ2, l2, y2, z2⟩, st2⟩ := X1.virtualBack hx (y := (⟨"com/example/fivestone/fivestone/rules/Point", "row", "()I"⟩ : MethodName)) (z := (⟨"com/example/fivestone/fivestone/rules/Point", "row", "()I"⟩ : MethodName)) hown (mvT hZ (hw _ (List.mem_of_getElem? (i := 63) rfl))) (mvT hZ (hw _ (List.mem_of_getElem? (i := 64) rfl))) (notFace_of_selects (args := #[]) (mvT hZ (hw _ (List.mem_of_getElem? (i := 66) rfl)))) (mvT hZ (hw _ (List.mem_of_getElem? (i := 66) rfl))) (mvT hZ (hw _ (List.mem_of_getElem? (i := 65) rfl))) (by decide) (backOf (W := 0) (rm11 l Z a0 hw [] pt pr h0 n0 Z0 Fr_) hZ (hw _ (List.mem_of_getElem? (i := 67) rfl)) (hw _ (List.mem_of_getElem? (i := 29) rfl)) (by decide) (by decide)) q2a q2c (g := (mkF m 30 #[.val (.ref bt), .val (.ref pt)] [(.ref pt)])) rfl (by rw [hml]; rfl) (Steps.refl _) (argsL := []) (rest := []) (lenOf own_pd2 rfl) rfl (by show 2 * 0 + _ ≤ _; exact Nat.le_of_eq rfl) (hb hby own_d13_30) (fun _ _ => ⟨rfl, eh1, (by decide : 0 + 0 ≤ _), (by decide : 0 + 0 ≤ _)⟩)
  dsimp only [Pt.U, Pt.locs, Pt.cells, Pt.slots] at X2 l2 y2 z2 st2 hQ2
  subst l2 y2 z2
  obtain ⟨rfl, N2q, eh2⟩ := hQ2
  have N2 := Fr.app N1 N2q
  refine Goes.tr st2 ?_
  show Goes p e below s _ _ _ T2 (mkF m 33 #[.val (.ref bt), .val (.ref pt)] [(.int pr)])
  refine own_aloadN X2 hx 34 rfl (hb hby own_d13_33) rfl rfl ?_
  obtain ⟨T3, X3, e3, st3⟩ := getF X2 hx hZ hown (host := "") (Or.inl (hw _ (List.mem_of_getElem? (i := 13) rfl))) Via.refl eh2 Fs (g := (mkF m 34 #[.val (.ref bt), .val (.ref pt)] [(.ref bt), (.int pr)])) rfl rfl (hb hby own_d13_34)
  refine Goes.go st3 ?_
  show Goes p e below s _ _ _ T3 (mkF m 37 #[.val (.ref bt), .val (.ref pt)] [(.int bs), (.int pr)])
  refine own_imul X3 hx 38 rfl (hb hby own_d13_37) rfl ?_
  refine own_aloadN X3 hx 39 rfl (hb hby own_d13_38) rfl rfl ?_
  obtain ⟨cq4, kq4, q4a, q4b, q4c⟩ := isOf hZ e3 EP
  obtain ⟨_, _, ⟨T4, L4, k4, n4⟩, -, X4, ⟨Lc4, hQ4, l4, y4, z4⟩, st4⟩ := X3.virtualBack hx (y := (⟨"com/example/fivestone/fivestone/rules/Point", "column", "()I"⟩ : MethodName)) (z := (⟨"com/example/fivestone/fivestone/rules/Point", "column", "()I"⟩ : MethodName)) hown (mvT hZ (hw _ (List.mem_of_getElem? (i := 58) rfl))) (mvT hZ (hw _ (List.mem_of_getElem? (i := 59) rfl))) (notFace_of_selects (args := #[]) (mvT hZ (hw _ (List.mem_of_getElem? (i := 61) rfl)))) (mvT hZ (hw _ (List.mem_of_getElem? (i := 61) rfl))) (mvT hZ (hw _ (List.mem_of_getElem? (i := 60) rfl))) (by decide) (backOf (W := 1) (rm10 l Z a0 hw [] pt pc h0 n0 Z0 Fc) hZ (hw _ (List.mem_of_getElem? (i := 62) rfl)) (hw _ (List.mem_of_getElem? (i := 29) rfl)) (by decide) (by decide)) q4a q4c (g := (mkF m 39 #[.val (.ref bt), .val (.ref pt)] [(.ref pt), (.int (pr * bs))])) rfl (by rw [hml]; rfl) (Steps.refl _) (argsL := []) (rest := [(.int (pr * bs))]) (lenOf own_pd2 rfl) rfl (by show 2 * 0 + _ ≤ _; exact Nat.le_of_eq rfl) (hb hby own_d13_39) (fun _ _ => ⟨rfl, e3, (by decide : 0 + 0 ≤ _), (by decide : 0 + 0 ≤ _)⟩)
  dsimp only [Pt.U, Pt.locs, Pt.cells, Pt.slots] at X4 l4 y4 z4 st4 hQ4
  subst l4 y4 z4
  obtain ⟨rfl, N4q, eh4⟩ := hQ4
  have N4 := Fr.app N2 N4q
  refine Goes.tr st4 ?_
  show Goes p e below s _ _ _ T4 (mkF m 42 #[.val (.ref bt), .val (.ref pt)] [(.int pc), (.int (pr * bs))])
  refine own_iadd X4 hx 43 rfl (hb hby own_d13_42) rfl ?_
  refine own_retI X4 hx hlk Bd.returns (hb hby own_d13_43) (by decide) (by decide) eh4 ?_
  exact ⟨rfl, N4, rfl⟩
theorem own_pd4 : parseMethodDescriptor "(Lcom/example/fivestone/fivestone/rules/Point;)I" = some ⟨[(.object "com/example/fivestone/fivestone/rules/Point")], some .int⟩ := by decide +kernel
theorem own_d12_0 : decode prog_19_method_7_code 0 = .ok (.aload_n 0, 1) := by decide +kernel
theorem own_d12_1 : decode prog_19_method_7_code 1 = .ok (.getfield 19, 3) := by decide +kernel
theorem own_d12_4 : decode prog_19_method_7_code 4 = .ok (.aload_n 0, 1) := by decide +kernel
theorem own_d12_5 : decode prog_19_method_7_code 5 = .ok (.aload_n 1, 1) := by decide +kernel
theorem own_d12_6 : decode prog_19_method_7_code 6 = .ok (.invokevirtual 63, 3) := by decide +kernel
theorem own_d12_9 : decode prog_19_method_7_code 9 = .ok (.aaload, 1) := by decide +kernel
theorem own_d12_10 : decode prog_19_method_7_code 10 = .ok (.areturn, 1) := by decide +kernel
def Q12 (Z : State) (bt : Addr) (pt : Addr) (pc : Int32) (pr : Int32) (bs : Int32) (ar : Addr) (ak : ClassId) (kc : Nat) (h0 : Heap) (n0 : Nat) (v : Option Value) (h : Heap) (L : List Loc) : Prop := v = some .null ∧ Fr n0 L ∧ h = h0
set_option maxRecDepth 65536 in
set_option maxHeartbeats 40000000 in
theorem rm12 (l : Launch) (Z : State) (a0 : Array Value) (hw : ∀ d ∈ tables_1, d.before a0 Z = true) (ws : List Jvm.Cond) (bt : Addr) (pt : Addr) (pc : Int32) (pr : Int32) (bs : Int32) (ar : Addr) (ak : ClassId) (kc : Nat) (h0 : Heap) (n0 : Nat) (Z0 : n0 ≤ h0.size) (EP : Exa Z h0 pt "com/example/fivestone/fivestone/rules/Point") (Fc : Fld Z h0 pt "com/example/fivestone/fivestone/rules/Point" "column" "I" (.int pc)) (Fr_ : Fld Z h0 pt "com/example/fivestone/fivestone/rules/Point" "row" "I" (.int pr)) (EB : Exa Z h0 bt "com/example/fivestone/fivestone/rules/Board") (Fs : Fld Z h0 bt "com/example/fivestone/fivestone/rules/Board" "size" "I" (.int bs)) (Ft : Fld Z h0 bt "com/example/fivestone/fivestone/rules/Board" "stones" "[Lcom/example/fivestone/fivestone/rules/Stone;" (.ref ar)) (VR : own_Row Z h0 ar ak bs (bs * bs) kc) (hs : 5 ≤ bs.toInt ∧ bs.toInt ≤ 22) (hcol : 0 ≤ pc.toInt ∧ pc.toInt < bs.toInt) (hrow : 0 ≤ pr.toInt ∧ pr.toInt < bs.toInt) (hkc : pc.toNatClampNeg = kc) :
    MetFree l (⟨"com/example/fivestone/fivestone/rules/Board", "stoneAt", "(Lcom/example/fivestone/fivestone/rules/Point;)Lcom/example/fivestone/fivestone/rules/Stone;"⟩ : MethodName) (head1 (Jvm.Cond.code (⟨"com/example/fivestone/fivestone/rules/Board", "stoneAt", "(Lcom/example/fivestone/fivestone/rules/Point;)Lcom/example/fivestone/fivestone/rules/Stone;"⟩ : MethodName) prog_19_method_7_code 2 (some (.object "com/example/fivestone/fivestone/rules/Stone")) :: ws) ({ frames := 3, cells := 0, slots := 0, locals := 39 } : Room)) (fun a U => a = #[(.ref bt), (.ref pt)] ∧ Z.Warmed39 U.vm ∧ U.heap = h0) (fun _ _ _ _ _ => True) (fun _ U o U' => ∃ v L, o = .returned v ∧ Q12 Z bt pt pc pr bs ar ak kc h0 n0 v U'.heap L ∧ FrameEnd U o U' L ({ frames := 3, cells := 0, slots := 0, locals := 39 } : Room).cells ({ frames := 3, cells := 0, slots := 0, locals := 39 } : Room).slots) := by
  refine MetFree.of_bodySF (plainFor_of_name own_pn_com_example_fivestone_fivestone_rules_Board) hisR ?_
  intro p e s m args below meth c s₁ Bd hml0 hP hK
  obtain ⟨rfl, hZ, hh⟩ := hP
  have hx := Bd.exec
  have hby := Bd.bytes
  have hml : c.maxLocals = 2 := hml0
  have hlk := Bd.notSynchronized
  have hown : s.vm.findClass "com/example/fivestone/fivestone/rules/Board" = some m.cls := findClass_of_methodNamed Bd.named
  have hnm := (name_of_methodNamed Bd.named Bd.method).1
  have X0 : Stand p l e ({ frames := 3, cells := 0, slots := 0, locals := 39 } : Room) s m #[(.ref bt), (.ref pt)] below meth c s₁ [] 0 0 := Stand.of_body Bd
  have e0 : s₁.heap = h0 := by rw [← hh, Bd.state]; rfl
  have N0 := Fr.nil n0
  refine own_enter (Q := Q12 Z bt pt pc pr bs ar ak kc h0 n0) (Ls := #[.val (.ref bt), .val (.ref pt)]) (by first | rfl | (simp [entryFrame, mkF, argsToLocals, Value.category]; done)) ?_
  refine own_aloadN X0 hx 1 rfl (hb hby own_d12_0) rfl rfl ?_
  obtain ⟨T1, X1, e1, st1⟩ := getF X0 hx hZ hown (host := "") (Or.inl (hw _ (List.mem_of_getElem? (i := 17) rfl))) Via.refl e0 Ft (g := (mkF m 1 #[.val (.ref bt), .val (.ref pt)] [(.ref bt)])) rfl rfl (hb hby own_d12_1)
  refine Goes.go st1 ?_
  show Goes p e below s _ _ _ T1 (mkF m 4 #[.val (.ref bt), .val (.ref pt)] [(.ref ar)])
  refine own_aloadN X1 hx 5 rfl (hb hby own_d12_4) rfl rfl ?_
  refine own_aloadN X1 hx 6 rfl (hb hby own_d12_5) rfl rfl ?_
  obtain ⟨cq2, q2, q2'⟩ := EB.cell
  obtain ⟨_, _, ⟨T2, L2, k2, n2⟩, -, X2, ⟨Lc2, hQ2, l2, y2, z2⟩, st2⟩ := X1.privateBack hx (y := (⟨"com/example/fivestone/fivestone/rules/Board", "index", "(Lcom/example/fivestone/fivestone/rules/Point;)I"⟩ : MethodName)) hown (mvT hZ (hw _ (List.mem_of_getElem? (i := 73) rfl))) (mvT hZ (hw _ (List.mem_of_getElem? (i := 74) rfl))) (own_selP (mvT hZ (hw _ (List.mem_of_getElem? (i := 2) rfl))) (mvP hZ (hw _ (List.mem_of_getElem? (i := 75) rfl))) (mvT hZ (hw _ (List.mem_of_getElem? (i := 74) rfl))) (by decide)) (Cond.privateMethod_at (mvP hZ (hw _ (List.mem_of_getElem? (i := 75) rfl)) (args := #[]))) (mvT hZ (hw _ (List.mem_of_getElem? (i := 76) rfl))) (by decide) (backOf (W := 1) (rm13 l Z a0 hw [] bt pt pc pr bs h0 n0 Z0 EP Fc Fr_ EB Fs hcol hrow) hZ (hw _ (List.mem_of_getElem? (i := 76) rfl)) (hw _ (List.mem_of_getElem? (i := 3) rfl)) (by decide) (by decide)) (g := (mkF m 6 #[.val (.ref bt), .val (.ref pt)] [(.ref pt), (.ref bt), (.ref ar)])) rfl (by rw [hml]; rfl) (Steps.refl _) (a := bt) (by rw [e1]; exact q2) q2' (argsL := [(.ref pt)]) (rest := [(.ref ar)]) (lenOf own_pd4 rfl) rfl (by show 2 * 0 + _ ≤ _; exact Nat.le_of_eq rfl) (hb hby own_d12_6) (fun _ _ => ⟨rfl, e1, (by decide : 0 + 0 ≤ _), (by decide : 0 + 0 ≤ _)⟩)
  dsimp only [Pt.U, Pt.locs, Pt.cells, Pt.slots] at X2 l2 y2 z2 st2 hQ2
  subst l2 y2 z2
  obtain ⟨rfl, N2q, eh2⟩ := hQ2
  have N2 := Fr.app N0 N2q
  refine Goes.tr st2 ?_
  show Goes p e below s _ _ _ T2 (mkF m 9 #[.val (.ref bt), .val (.ref pt)] [(.int ((pr * bs) + pc)), (.ref ar)])
  obtain ⟨cl3, Ar3, qq3, S3, NN3, RR3⟩ := VR
  have hin3 : ¬ (((pr * bs) + pc) < 0 ∨ cl3.slots.size ≤ (((pr * bs) + pc)).toNatClampNeg) := inb_of S3 (own_pin hs hrow hcol)
  have hat3 : cl3.slots[(((pr * bs) + pc)).toNatClampNeg]? = some .null := RR3 _ (Nat.lt_of_not_le fun y => hin3 (Or.inr y)) (by rw [own_pmod hs hrow hcol, hkc]; exact Nat.le_refl _)
  refine Goes.go (X2.aaload hx (j := ((pr * bs) + pc)) (v := .null) (by rw [eh2]; exact Ar3.1) (State.isArrayOf_alike hZ.alike Ar3.2.1) rfl Ar3.2.2 hin3 hat3 (g := (mkF m 9 #[.val (.ref bt), .val (.ref pt)] [(.int ((pr * bs) + pc)), (.ref ar)])) rfl rfl (hb hby own_d12_9)) ?_
  show Goes p e below s _ _ _ T2 (mkF m 10 #[.val (.ref bt), .val (.ref pt)] [.null])
  refine own_retR X2 hx hlk Bd.returns rfl rfl (hb hby own_d12_10) (by decide) (by decide) eh2 ?_
  exact ⟨rfl, N2, rfl⟩
theorem own_d14_0 : decode jdk_32_method_1_code 0 = .ok (.getstatic 1, 3) := by decide +kernel
theorem own_d14_3 : decode jdk_32_method_1_code 3 = .ok (.astore_n 0, 1) := by decide +kernel
theorem own_d14_4 : decode jdk_32_method_1_code 4 = .ok (.aload_n 0, 1) := by decide +kernel
theorem own_d14_5 : decode jdk_32_method_1_code 5 = .ok (.areturn, 1) := by decide +kernel
theorem own_pn_java_util_Optional : plainName "java/util/Optional" = true := by first | (simp [plainName, overriddenIn]; done) | decide +kernel
def Q14 (Z : State) (oe : Addr) (h0 : Heap) (n0 : Nat) (v : Option Value) (h : Heap) (L : List Loc) : Prop := v = some (.ref oe) ∧ Fr n0 L ∧ h = h0
set_option maxRecDepth 65536 in
set_option maxHeartbeats 40000000 in
theorem rm14 (l : Launch) (Z : State) (a0 : Array Value) (hw : ∀ d ∈ tables_1, d.before a0 Z = true) (ws : List Jvm.Cond) (oe : Addr) (h0 : Heap) (n0 : Nat) (Z0 : n0 ≤ h0.size) (Se : Sta Z h0 "java/util/Optional" "EMPTY" "Ljava/util/Optional;" (.ref oe)) :
    MetFree l (⟨"java/util/Optional", "empty", "()Ljava/util/Optional;"⟩ : MethodName) (head1 (Jvm.Cond.code (⟨"java/util/Optional", "empty", "()Ljava/util/Optional;"⟩ : MethodName) jdk_32_method_1_code 1 (some (.object "java/util/Optional")) :: ws) ({ frames := 0, cells := 0, slots := 0, locals := 0 } : Room)) (fun a U => a = #[] ∧ Z.Warmed39 U.vm ∧ U.heap = h0) (fun _ _ _ _ _ => True) (fun _ U o U' => ∃ v L, o = .returned v ∧ Q14 Z oe h0 n0 v U'.heap L ∧ FrameEnd U o U' L ({ frames := 0, cells := 0, slots := 0, locals := 0 } : Room).cells ({ frames := 0, cells := 0, slots := 0, locals := 0 } : Room).slots) := by
  refine MetFree.of_bodySF (plainFor_of_name own_pn_java_util_Optional) hisR ?_
  intro p e s m args below meth c s₁ Bd hml0 hP hK
  obtain ⟨rfl, hZ, hh⟩ := hP
  have hx := Bd.exec
  have hby := Bd.bytes
  have hml : c.maxLocals = 1 := hml0
  have hlk := Bd.notSynchronized
  have hown : s.vm.findClass "java/util/Optional" = some m.cls := findClass_of_methodNamed Bd.named
  have hnm := (name_of_methodNamed Bd.named Bd.method).1
  have X0 : Stand p l e ({ frames := 0, cells := 0, slots := 0, locals := 0 } : Room) s m #[] below meth c s₁ [] 0 0 := Stand.of_body Bd
  have e0 : s₁.heap = h0 := by rw [← hh, Bd.state]; rfl
  have N0 := Fr.nil n0
  refine own_enter (Q := Q14 Z oe h0 n0) (Ls := #[.unset]) (by first | rfl | (simp [entryFrame, mkF, argsToLocals, Value.category]; done)) ?_
  obtain ⟨T1, X1, e1, st1⟩ := getS2 X0 hx hZ hown (host := "") (Or.inl (hw _ (List.mem_of_getElem? (i := 81) rfl))) Via.refl e0 Se (g := (mkF m 0 #[.unset] [])) rfl (hb hby own_d14_0)
  refine Goes.go st1 ?_
  show Goes p e below s _ _ _ T1 (mkF m 3 #[.unset] [(.ref oe)])
  refine own_astoreN X1 hx 4 rfl #[.val (.ref oe)] (hb hby own_d14_3) rfl rfl ?_
  refine own_aloadN X1 hx 5 rfl (hb hby own_d14_4) rfl rfl ?_
  refine own_retR X1 hx hlk Bd.returns rfl rfl (hb hby own_d14_5) (by decide) (by decide) e1 ?_
  exact ⟨rfl, N0, rfl⟩
theorem own_d15_0 : decode jdk_32_method_6_code 0 = .ok (.aload_n 0, 1) := by decide +kernel
theorem own_d15_1 : decode jdk_32_method_6_code 1 = .ok (.getfield 13, 3) := by decide +kernel
theorem own_d15_4 : decode jdk_32_method_6_code 4 = .ok (.ifnull 7, 3) := by decide +kernel
theorem own_d15_11 : decode jdk_32_method_6_code 11 = .ok (.iconst 0, 1) := by decide +kernel
theorem own_d15_12 : decode jdk_32_method_6_code 12 = .ok (.ireturn, 1) := by decide +kernel
def Q15 (Z : State) (oe : Addr) (h0 : Heap) (n0 : Nat) (v : Option Value) (h : Heap) (L : List Loc) : Prop := v = some (.int (0 : Int32)) ∧ Fr n0 L ∧ h = h0
set_option maxRecDepth 65536 in
set_option maxHeartbeats 40000000 in
theorem rm15 (l : Launch) (Z : State) (a0 : Array Value) (hw : ∀ d ∈ tables_1, d.before a0 Z = true) (ws : List Jvm.Cond) (oe : Addr) (h0 : Heap) (n0 : Nat) (Z0 : n0 ≤ h0.size) (Fo : Fld Z h0 oe "java/util/Optional" "value" "Ljava/lang/Object;" .null) :
    MetFree l (⟨"java/util/Optional", "isPresent", "()Z"⟩ : MethodName) (head1 (Jvm.Cond.code (⟨"java/util/Optional", "isPresent", "()Z"⟩ : MethodName) jdk_32_method_6_code 1 (some .boolean) :: ws) ({ frames := 0, cells := 0, slots := 0, locals := 0 } : Room)) (fun a U => a = #[(.ref oe)] ∧ Z.Warmed39 U.vm ∧ U.heap = h0) (fun _ _ _ _ _ => True) (fun _ U o U' => ∃ v L, o = .returned v ∧ Q15 Z oe h0 n0 v U'.heap L ∧ FrameEnd U o U' L ({ frames := 0, cells := 0, slots := 0, locals := 0 } : Room).cells ({ frames := 0, cells := 0, slots := 0, locals := 0 } : Room).slots) := by
  refine MetFree.of_bodySF (plainFor_of_name own_pn_java_util_Optional) hisR ?_
  intro p e s m args below meth c s₁ Bd hml0 hP hK
  obtain ⟨rfl, hZ, hh⟩ := hP
  have hx := Bd.exec
  have hby := Bd.bytes
  have hml : c.maxLocals = 1 := hml0
  have hlk := Bd.notSynchronized
  have hown : s.vm.findClass "java/util/Optional" = some m.cls := findClass_of_methodNamed Bd.named
  have hnm := (name_of_methodNamed Bd.named Bd.method).1
  have X0 : Stand p l e ({ frames := 0, cells := 0, slots := 0, locals := 0 } : Room) s m #[(.ref oe)] below meth c s₁ [] 0 0 := Stand.of_body Bd
  have e0 : s₁.heap = h0 := by rw [← hh, Bd.state]; rfl
  have N0 := Fr.nil n0
  refine own_enter (Q := Q15 Z oe h0 n0) (Ls := #[.val (.ref oe)]) (by first | rfl | (simp [entryFrame, mkF, argsToLocals, Value.category]; done)) ?_
  refine own_aloadN X0 hx 1 rfl (hb hby own_d15_0) rfl rfl ?_
  obtain ⟨T1, X1, e1, st1⟩ := getF X0 hx hZ hown (host := "") (Or.inl (hw _ (List.mem_of_getElem? (i := 87) rfl))) Via.refl e0 Fo (g := (mkF m 1 #[.val (.ref oe)] [(.ref oe)])) rfl rfl (hb hby own_d15_1)
  refine Goes.go st1 ?_
  show Goes p e below s _ _ _ T1 (mkF m 4 #[.val (.ref oe)] [.null])
  refine own_ifnullY X1 hx 11 (hb hby own_d15_4) (by decide) (by decide) ?_
  refine own_iconst X1 hx 12 rfl (0 : Int32) (hb hby own_d15_11) (by decide) ?_
  refine own_retZ X1 hx hlk Bd.returns (by decide) (hb hby own_d15_12) (by decide) (by decide) e1 ?_
  exact ⟨rfl, N0, rfl⟩
theorem own_pd5 : parseMethodDescriptor "(Lcom/example/fivestone/fivestone/rules/Point;)Lcom/example/fivestone/fivestone/rules/Stone;" = some ⟨[(.object "com/example/fivestone/fivestone/rules/Point")], some (.object "com/example/fivestone/fivestone/rules/Stone")⟩ := by decide +kernel
theorem own_pd6 : parseMethodDescriptor "()Ljava/util/Optional;" = some ⟨[], some (.object "java/util/Optional")⟩ := by decide +kernel
theorem own_d8_0 : decode prog_19_method_8_code 0 = .ok (.aload_n 0, 1) := by decide +kernel
theorem own_d8_1 : decode prog_19_method_8_code 1 = .ok (.aload_n 1, 1) := by decide +kernel
theorem own_d8_2 : decode prog_19_method_8_code 2 = .ok (.invokevirtual 67, 3) := by decide +kernel
theorem own_d8_5 : decode prog_19_method_8_code 5 = .ok (.ifCond .ne 9, 3) := by decide +kernel
theorem own_d8_14 : decode prog_19_method_8_code 14 = .ok (.aload_n 0, 1) := by decide +kernel
theorem own_d8_15 : decode prog_19_method_8_code 15 = .ok (.aload_n 1, 1) := by decide +kernel
theorem own_d8_16 : decode prog_19_method_8_code 16 = .ok (.invokevirtual 79, 3) := by decide +kernel
theorem own_d8_19 : decode prog_19_method_8_code 19 = .ok (.ifnull 9, 3) := by decide +kernel
theorem own_d8_28 : decode prog_19_method_8_code 28 = .ok (.invokestatic 85, 3) := by decide +kernel
theorem own_d8_31 : decode prog_19_method_8_code 31 = .ok (.areturn, 1) := by decide +kernel
def Q8 (Z : State) (bt : Addr) (pt : Addr) (pc : Int32) (pr : Int32) (bs : Int32) (ar : Addr) (ak : ClassId) (kc : Nat) (oe : Addr) (h0 : Heap) (n0 : Nat) (v : Option Value) (h : Heap) (L : List Loc) : Prop := v = some (.ref oe) ∧ Fr n0 L ∧ h = h0
set_option maxRecDepth 65536 in
set_option maxHeartbeats 40000000 in
theorem rm8 (l : Launch) (Z : State) (a0 : Array Value) (hw : ∀ d ∈ tables_1, d.before a0 Z = true) (ws : List Jvm.Cond) (bt : Addr) (pt : Addr) (pc : Int32) (pr : Int32) (bs : Int32) (ar : Addr) (ak : ClassId) (kc : Nat) (oe : Addr) (h0 : Heap) (n0 : Nat) (Z0 : n0 ≤ h0.size) (EP : Exa Z h0 pt "com/example/fivestone/fivestone/rules/Point") (Fc : Fld Z h0 pt "com/example/fivestone/fivestone/rules/Point" "column" "I" (.int pc)) (Fr_ : Fld Z h0 pt "com/example/fivestone/fivestone/rules/Point" "row" "I" (.int pr)) (EB : Exa Z h0 bt "com/example/fivestone/fivestone/rules/Board") (Fs : Fld Z h0 bt "com/example/fivestone/fivestone/rules/Board" "size" "I" (.int bs)) (Ft : Fld Z h0 bt "com/example/fivestone/fivestone/rules/Board" "stones" "[Lcom/example/fivestone/fivestone/rules/Stone;" (.ref ar)) (VR : own_Row Z h0 ar ak bs (bs * bs) kc) (hs : 5 ≤ bs.toInt ∧ bs.toInt ≤ 22) (hcol : 0 ≤ pc.toInt ∧ pc.toInt < bs.toInt) (hrow : 0 ≤ pr.toInt ∧ pr.toInt < bs.toInt) (hkc : pc.toNatClampNeg = kc) (Se : Sta Z h0 "java/util/Optional" "EMPTY" "Ljava/util/Optional;" (.ref oe)) :
    MetFree l (⟨"com/example/fivestone/fivestone/rules/Board", "refusal", "(Lcom/example/fivestone/fivestone/rules/Point;)Ljava/util/Optional;"⟩ : MethodName) (head1 (Jvm.Cond.code (⟨"com/example/fivestone/fivestone/rules/Board", "refusal", "(Lcom/example/fivestone/fivestone/rules/Point;)Ljava/util/Optional;"⟩ : MethodName) prog_19_method_8_code 2 (some (.object "java/util/Optional")) :: ws) ({ frames := 4, cells := 0, slots := 0, locals := 52 } : Room)) (fun a U => a = #[(.ref bt), (.ref pt)] ∧ Z.Warmed39 U.vm ∧ U.heap = h0) (fun _ _ _ _ _ => True) (fun _ U o U' => ∃ v L, o = .returned v ∧ Q8 Z bt pt pc pr bs ar ak kc oe h0 n0 v U'.heap L ∧ FrameEnd U o U' L ({ frames := 4, cells := 0, slots := 0, locals := 52 } : Room).cells ({ frames := 4, cells := 0, slots := 0, locals := 52 } : Room).slots) := by
  refine MetFree.of_bodySF (plainFor_of_name own_pn_com_example_fivestone_fivestone_rules_Board) hisR ?_
  intro p e s m args below meth c s₁ Bd hml0 hP hK
  obtain ⟨rfl, hZ, hh⟩ := hP
  have hx := Bd.exec
  have hby := Bd.bytes
  have hml : c.maxLocals = 2 := hml0
  have hlk := Bd.notSynchronized
  have hown : s.vm.findClass "com/example/fivestone/fivestone/rules/Board" = some m.cls := findClass_of_methodNamed Bd.named
  have hnm := (name_of_methodNamed Bd.named Bd.method).1
  have X0 : Stand p l e ({ frames := 4, cells := 0, slots := 0, locals := 52 } : Room) s m #[(.ref bt), (.ref pt)] below meth c s₁ [] 0 0 := Stand.of_body Bd
  have e0 : s₁.heap = h0 := by rw [← hh, Bd.state]; rfl
  have N0 := Fr.nil n0
  refine own_enter (Q := Q8 Z bt pt pc pr bs ar ak kc oe h0 n0) (Ls := #[.val (.ref bt), .val (.ref pt)]) (by first | rfl | (simp [entryFrame, mkF, argsToLocals, Value.category]; done)) ?_
  refine own_aloadN X0 hx 1 rfl (hb hby own_d8_0) rfl rfl ?_
  refine own_aloadN X0 hx 2 rfl (hb hby own_d8_1) rfl rfl ?_
  obtain ⟨cq1, kq1, q1a, q1b, q1c⟩ := isOf hZ e0 EB
  obtain ⟨_, _, ⟨T1, L1, k1, n1⟩, -, X1, ⟨Lc1, hQ1, l1, y1, z1⟩, st1⟩ := X0.virtualBack hx (y := (⟨"com/example/fivestone/fivestone/rules/Board", "contains", "(Lcom/example/fivestone/fivestone/rules/Point;)Z"⟩ : MethodName)) (z := (⟨"com/example/fivestone/fivestone/rules/Board", "contains", "(Lcom/example/fivestone/fivestone/rules/Point;)Z"⟩ : MethodName)) hown (mvT hZ (hw _ (List.mem_of_getElem? (i := 53) rfl))) (mvT hZ (hw _ (List.mem_of_getElem? (i := 54) rfl))) (notFace_of_selects (args := #[]) (mvT hZ (hw _ (List.mem_of_getElem? (i := 56) rfl)))) (mvT hZ (hw _ (List.mem_of_getElem? (i := 56) rfl))) (mvT hZ (hw _ (List.mem_of_getElem? (i := 55) rfl))) (by decide) (backOf (W := 0) (rm9 l Z a0 hw [] bt pt pc pr bs h0 n0 Z0 EP Fc Fr_ Fs hcol hrow) hZ (hw _ (List.mem_of_getElem? (i := 57) rfl)) (hw _ (List.mem_of_getElem? (i := 3) rfl)) (by decide) (by decide)) q1a q1c (g := (mkF m 2 #[.val (.ref bt), .val (.ref pt)] [(.ref pt), (.ref bt)])) rfl (by rw [hml]; rfl) (Steps.refl _) (argsL := [(.ref pt)]) (rest := []) (lenOf own_pd3 rfl) rfl (by show 2 * 0 + _ ≤ _; exact Nat.le_of_eq rfl) (hb hby own_d8_2) (fun _ _ => ⟨rfl, e0, (by decide : 0 + 0 ≤ _), (by decide : 0 + 0 ≤ _)⟩)
  dsimp only [Pt.U, Pt.locs, Pt.cells, Pt.slots] at X1 l1 y1 z1 st1 hQ1
  subst l1 y1 z1
  obtain ⟨rfl, N1q, eh1⟩ := hQ1
  have N1 := Fr.app N0 N1q
  refine Goes.tr st1 ?_
  show Goes p e below s _ _ _ T1 (mkF m 5 #[.val (.ref bt), .val (.ref pt)] [(.int (1 : Int32))])
  refine own_ifY X1 hx 14 (hb hby own_d8_5) ((if0 _ _).trans (feq ((by decide) : ¬ ((1 : Int32) = (0 : Int32)))).2) (by decide) (by decide) ?_
  refine own_aloadN X1 hx 15 rfl (hb hby own_d8_14) rfl rfl ?_
  refine own_aloadN X1 hx 16 rfl (hb hby own_d8_15) rfl rfl ?_
  obtain ⟨cq2, kq2, q2a, q2b, q2c⟩ := isOf hZ eh1 EB
  obtain ⟨_, _, ⟨T2, L2, k2, n2⟩, -, X2, ⟨Lc2, hQ2, l2, y2, z2⟩, st2⟩ := X1.virtualBack hx (y := (⟨"com/example/fivestone/fivestone/rules/Board", "stoneAt", "(Lcom/example/fivestone/fivestone/rules/Point;)Lcom/example/fivestone/fivestone/rules/Stone;"⟩ : MethodName)) (z := (⟨"com/example/fivestone/fivestone/rules/Board", "stoneAt", "(Lcom/example/fivestone/fivestone/rules/Point;)Lcom/example/fivestone/fivestone/rules/Stone;"⟩ : MethodName)) hown (mvT hZ (hw _ (List.mem_of_getElem? (i := 68) rfl))) (mvT hZ (hw _ (List.mem_of_getElem? (i := 69) rfl))) (notFace_of_selects (args := #[]) (mvT hZ (hw _ (List.mem_of_getElem? (i := 71) rfl)))) (mvT hZ (hw _ (List.mem_of_getElem? (i := 71) rfl))) (mvT hZ (hw _ (List.mem_of_getElem? (i := 70) rfl))) (by decide) (backOf (W := 0) (rm12 l Z a0 hw [] bt pt pc pr bs ar ak kc h0 n0 Z0 EP Fc Fr_ EB Fs Ft VR hs hcol hrow hkc) hZ (hw _ (List.mem_of_getElem? (i := 72) rfl)) (hw _ (List.mem_of_getElem? (i := 3) rfl)) (by decide) (by decide)) q2a q2c (g := (mkF m 16 #[.val (.ref bt), .val (.ref pt)] [(.ref pt), (.ref bt)])) rfl (by rw [hml]; rfl) (Steps.refl _) (argsL := [(.ref pt)]) (rest := []) (lenOf own_pd5 rfl) rfl (by show 2 * 0 + _ ≤ _; exact Nat.le_of_eq rfl) (hb hby own_d8_16) (fun _ _ => ⟨rfl, eh1, (by decide : 0 + 0 ≤ _), (by decide : 0 + 0 ≤ _)⟩)
  dsimp only [Pt.U, Pt.locs, Pt.cells, Pt.slots] at X2 l2 y2 z2 st2 hQ2
  subst l2 y2 z2
  obtain ⟨rfl, N2q, eh2⟩ := hQ2
  have N2 := Fr.app N1 N2q
  refine Goes.tr st2 ?_
  show Goes p e below s _ _ _ T2 (mkF m 19 #[.val (.ref bt), .val (.ref pt)] [.null])
  refine own_ifnullY X2 hx 28 (hb hby own_d8_19) (by decide) (by decide) ?_
  obtain ⟨_, _, ⟨T3, L3, k3, n3⟩, -, X3, ⟨Lc3, hQ3, l3, y3, z3⟩, st3⟩ := Jvm.LawKit.callS X2 hx (y := (⟨"java/util/Optional", "empty", "()Ljava/util/Optional;"⟩ : MethodName)) hown (mvT hZ (hw _ (List.mem_of_getElem? (i := 77) rfl))) (mvT hZ (hw _ (List.mem_of_getElem? (i := 78) rfl))) (mvT hZ (hw _ (List.mem_of_getElem? (i := 79) rfl))) (mvT hZ (hw _ (List.mem_of_getElem? (i := 80) rfl))) (by decide) (backOf (W := 0) (rm14 l Z a0 hw [] oe h0 n0 Z0 Se) hZ (hw _ (List.mem_of_getElem? (i := 80) rfl)) (hw _ (List.mem_of_getElem? (i := 79) rfl)) (by decide) (by decide)) (g := (mkF m 28 #[.val (.ref bt), .val (.ref pt)] [])) rfl (by rw [hml]; rfl) (argsL := []) (rest := []) (lenOf own_pd6 rfl) rfl (by show 2 * 0 + _ ≤ _; exact Nat.le_of_eq rfl) (hb hby own_d8_28) (fun _ _ => ⟨rfl, eh2, (by decide : 0 + 0 ≤ _), (by decide : 0 + 0 ≤ _)⟩)
  dsimp only [Pt.U, Pt.locs, Pt.cells, Pt.slots] at X3 l3 y3 z3 st3 hQ3
  subst l3 y3 z3
  obtain ⟨rfl, N3q, eh3⟩ := hQ3
  have N3 := Fr.app N2 N3q
  refine Goes.go st3 ?_
  show Goes p e below s _ _ _ T3 (mkF m 31 #[.val (.ref bt), .val (.ref pt)] [(.ref oe)])
  refine own_retR X3 hx hlk Bd.returns rfl rfl (hb hby own_d8_31) (by decide) (by decide) eh3 ?_
  exact ⟨rfl, N3, rfl⟩
theorem own_pd7 : parseMethodDescriptor "(Lcom/example/fivestone/fivestone/rules/Point;)Ljava/util/Optional;" = some ⟨[(.object "com/example/fivestone/fivestone/rules/Point")], some (.object "java/util/Optional")⟩ := by decide +kernel
theorem own_pd8 : parseMethodDescriptor "()Z" = some ⟨[], some .boolean⟩ := by decide +kernel
theorem own_d7_0 : decode prog_19_method_10_code 0 = .ok (.aload_n 0, 1) := by decide +kernel
theorem own_d7_1 : decode prog_19_method_10_code 1 = .ok (.aload_n 1, 1) := by decide +kernel
theorem own_d7_2 : decode prog_19_method_10_code 2 = .ok (.invokevirtual 91, 3) := by decide +kernel
theorem own_d7_5 : decode prog_19_method_10_code 5 = .ok (.astore_n 3, 1) := by decide +kernel
theorem own_d7_6 : decode prog_19_method_10_code 6 = .ok (.aload_n 3, 1) := by decide +kernel
theorem own_d7_7 : decode prog_19_method_10_code 7 = .ok (.invokevirtual 95, 3) := by decide +kernel
theorem own_d7_10 : decode prog_19_method_10_code 10 = .ok (.ifCond .eq 27, 3) := by decide +kernel
theorem own_d7_37 : decode prog_19_method_10_code 37 = .ok (.aload_n 0, 1) := by decide +kernel
theorem own_d7_38 : decode prog_19_method_10_code 38 = .ok (.getfield 19, 3) := by decide +kernel
theorem own_d7_41 : decode prog_19_method_10_code 41 = .ok (.aload_n 0, 1) := by decide +kernel
theorem own_d7_42 : decode prog_19_method_10_code 42 = .ok (.aload_n 1, 1) := by decide +kernel
theorem own_d7_43 : decode prog_19_method_10_code 43 = .ok (.invokevirtual 63, 3) := by decide +kernel
theorem own_d7_46 : decode prog_19_method_10_code 46 = .ok (.aload_n 2, 1) := by decide +kernel
theorem own_d7_47 : decode prog_19_method_10_code 47 = .ok (.aastore, 1) := by decide +kernel
theorem own_d7_48 : decode prog_19_method_10_code 48 = .ok (.aload_n 0, 1) := by decide +kernel
theorem own_d7_49 : decode prog_19_method_10_code 49 = .ok (.dup, 1) := by decide +kernel
theorem own_d7_50 : decode prog_19_method_10_code 50 = .ok (.getfield 28, 3) := by decide +kernel
theorem own_d7_53 : decode prog_19_method_10_code 53 = .ok (.iconst 1, 1) := by decide +kernel
theorem own_d7_54 : decode prog_19_method_10_code 54 = .ok (.iadd, 1) := by decide +kernel
theorem own_d7_55 : decode prog_19_method_10_code 55 = .ok (.putfield 28, 3) := by decide +kernel
theorem own_d7_58 : decode prog_19_method_10_code 58 = .ok (.return_, 1) := by decide +kernel
def Q7 (Z : State) (bt : Addr) (pt : Addr) (so : Addr) (pc : Int32) (pr : Int32) (bs : Int32) (ar : Addr) (ak : ClassId) (kc : Nat) (oe : Addr) (ct : Int32) (h0 : Heap) (n0 : Nat) (v : Option Value) (h : Heap) (L : List Loc) : Prop := v = none ∧ Fr n0 L ∧ Keep h0 h [bt, ar] ∧ Fld Z h bt "com/example/fivestone/fivestone/rules/Board" "size" "I" (.int bs) ∧ Fld Z h bt "com/example/fivestone/fivestone/rules/Board" "stones" "[Lcom/example/fivestone/fivestone/rules/Stone;" (.ref ar) ∧ Fld Z h bt "com/example/fivestone/fivestone/rules/Board" "count" "I" (.int (ct + (1 : Int32))) ∧ own_Row Z h ar ak bs (bs * bs) (kc + 1)
set_option maxRecDepth 65536 in
set_option maxHeartbeats 40000000 in
theorem rm7 (l : Launch) (Z : State) (a0 : Array Value) (hw : ∀ d ∈ tables_1, d.before a0 Z = true) (ws : List Jvm.Cond) (bt : Addr) (pt : Addr) (so : Addr) (pc : Int32) (pr : Int32) (bs : Int32) (ar : Addr) (ak : ClassId) (kc : Nat) (oe : Addr) (ct : Int32) (h0 : Heap) (n0 : Nat) (Z0 : n0 ≤ h0.size) (EP : Exa Z h0 pt "com/example/fivestone/fivestone/rules/Point") (Fc : Fld Z h0 pt "com/example/fivestone/fivestone/rules/Point" "column" "I" (.int pc)) (Fr_ : Fld Z h0 pt "com/example/fivestone/fivestone/rules/Point" "row" "I" (.int pr)) (EB : Exa Z h0 bt "com/example/fivestone/fivestone/rules/Board") (Fs : Fld Z h0 bt "com/example/fivestone/fivestone/rules/Board" "size" "I" (.int bs)) (Ft : Fld Z h0 bt "com/example/fivestone/fivestone/rules/Board" "stones" "[Lcom/example/fivestone/fivestone/rules/Stone;" (.ref ar)) (VR : own_Row Z h0 ar ak bs (bs * bs) kc) (hs : 5 ≤ bs.toInt ∧ bs.toInt ≤ 22) (hcol : 0 ≤ pc.toInt ∧ pc.toInt < bs.toInt) (hrow : 0 ≤ pr.toInt ∧ pr.toInt < bs.toInt) (hkc : pc.toNatClampNeg = kc) (Se : Sta Z h0 "java/util/Optional" "EMPTY" "Ljava/util/Optional;" (.ref oe)) (Eo : Exa Z h0 oe "java/util/Optional") (Fo : Fld Z h0 oe "java/util/Optional" "value" "Ljava/lang/Object;" .null) (Es : Exa Z h0 so "com/example/fivestone/fivestone/rules/Stone") (hov : Ovr Z ak "com/example/fivestone/fivestone/rules/Stone") (Fn : Fld Z h0 bt "com/example/fivestone/fivestone/rules/Board" "count" "I" (.int ct)) (gb : n0 ≤ bt) (ga : n0 ≤ ar) (nba : bt ≠ ar) (nbp : bt ≠ pt) (nap : ar ≠ pt) (nbo : bt ≠ oe) (nao : ar ≠ oe) :
    MetFree l (⟨"com/example/fivestone/fivestone/rules/Board", "place", "(Lcom/example/fivestone/fivestone/rules/Point;Lcom/example/fivestone/fivestone/rules/Stone;)V"⟩ : MethodName) (head1 (Jvm.Cond.code (⟨"com/example/fivestone/fivestone/rules/Board", "place", "(Lcom/example/fivestone/fivestone/rules/Point;Lcom/example/fivestone/fivestone/rules/Stone;)V"⟩ : MethodName) prog_19_method_10_code 4 none :: ws) ({ frames := 5, cells := 0, slots := 0, locals := 65 } : Room)) (fun a U => a = #[(.ref bt), (.ref pt), (.ref so)] ∧ Z.Warmed39 U.vm ∧ U.heap = h0) (fun _ _ _ _ _ => True) (fun _ U o U' => ∃ v L, o = .returned v ∧ Q7 Z bt pt so pc pr bs ar ak kc oe ct h0 n0 v U'.heap L ∧ FrameEnd U o U' L ({ frames := 5, cells := 0, slots := 0, locals := 65 } : Room).cells ({ frames := 5, cells := 0, slots := 0, locals := 65 } : Room).slots) := by
  refine MetFree.of_bodySF (plainFor_of_name own_pn_com_example_fivestone_fivestone_rules_Board) hisR ?_
  intro p e s m args below meth c s₁ Bd hml0 hP hK
  obtain ⟨rfl, hZ, hh⟩ := hP
  have hx := Bd.exec
  have hby := Bd.bytes
  have hml : c.maxLocals = 4 := hml0
  have hlk := Bd.notSynchronized
  have hown : s.vm.findClass "com/example/fivestone/fivestone/rules/Board" = some m.cls := findClass_of_methodNamed Bd.named
  have hnm := (name_of_methodNamed Bd.named Bd.method).1
  have X0 : Stand p l e ({ frames := 5, cells := 0, slots := 0, locals := 65 } : Room) s m #[(.ref bt), (.ref pt), (.ref so)] below meth c s₁ [] 0 0 := Stand.of_body Bd
  have e0 : s₁.heap = h0 := by rw [← hh, Bd.state]; rfl
  have N0 := Fr.nil n0
  have K0 : Keep h0 h0 [bt, ar] := Keep.refl _ _
  refine own_enter (Q := Q7 Z bt pt so pc pr bs ar ak kc oe ct h0 n0) (Ls := #[.val (.ref bt), .val (.ref pt), .val (.ref so), .unset]) (by first | rfl | (simp [entryFrame, mkF, argsToLocals, Value.category]; done)) ?_
  refine own_aloadN X0 hx 1 rfl (hb hby own_d7_0) rfl rfl ?_
  refine own_aloadN X0 hx 2 rfl (hb hby own_d7_1) rfl rfl ?_
  obtain ⟨cq1, kq1, q1a, q1b, q1c⟩ := isOf hZ e0 EB
  obtain ⟨_, _, ⟨T1, L1, k1, n1⟩, -, X1, ⟨Lc1, hQ1, l1, y1, z1⟩, st1⟩ := X0.virtualBack hx (y := (⟨"com/example/fivestone/fivestone/rules/Board", "refusal", "(Lcom/example/fivestone/fivestone/rules/Point;)Ljava/util/Optional;"⟩ : MethodName)) (z := (⟨"com/example/fivestone/fivestone/rules/Board", "refusal", "(Lcom/example/fivestone/fivestone/rules/Point;)Ljava/util/Optional;"⟩ : MethodName)) hown (mvT hZ (hw _ (List.mem_of_getElem? (i := 48) rfl))) (mvT hZ (hw _ (List.mem_of_getElem? (i := 49) rfl))) (notFace_of_selects (args := #[]) (mvT hZ (hw _ (List.mem_of_getElem? (i := 51) rfl)))) (mvT hZ (hw _ (List.mem_of_getElem? (i := 51) rfl))) (mvT hZ (hw _ (List.mem_of_getElem? (i := 50) rfl))) (by decide) (backOf (W := 0) (rm8 l Z a0 hw [] bt pt pc pr bs ar ak kc oe h0 n0 Z0 EP Fc Fr_ EB Fs Ft VR hs hcol hrow hkc Se) hZ (hw _ (List.mem_of_getElem? (i := 52) rfl)) (hw _ (List.mem_of_getElem? (i := 3) rfl)) (by decide) (by decide)) q1a q1c (g := (mkF m 2 #[.val (.ref bt), .val (.ref pt), .val (.ref so), .unset] [(.ref pt), (.ref bt)])) rfl (by rw [hml]; rfl) (Steps.refl _) (argsL := [(.ref pt)]) (rest := []) (lenOf own_pd7 rfl) rfl (by show 2 * 0 + _ ≤ _; exact Nat.le_of_eq rfl) (hb hby own_d7_2) (fun _ _ => ⟨rfl, e0, (by decide : 0 + 0 ≤ _), (by decide : 0 + 0 ≤ _)⟩)
  dsimp only [Pt.U, Pt.locs, Pt.cells, Pt.slots] at X1 l1 y1 z1 st1 hQ1
  subst l1 y1 z1
  obtain ⟨rfl, N1q, eh1⟩ := hQ1
  have N1 := Fr.app N0 N1q
  refine Goes.tr st1 ?_
  show Goes p e below s _ _ _ T1 (mkF m 5 #[.val (.ref bt), .val (.ref pt), .val (.ref so), .unset] [(.ref oe)])
  refine own_astoreN X1 hx 6 rfl #[.val (.ref bt), .val (.ref pt), .val (.ref so), .val (.ref oe)] (hb hby own_d7_5) rfl rfl ?_
  refine own_aloadN X1 hx 7 rfl (hb hby own_d7_6) rfl rfl ?_
  obtain ⟨cq2, kq2, q2a, q2b, q2c⟩ := isOf hZ eh1 Eo
  obtain ⟨_, _, ⟨T2, L2, k2, n2⟩, -, X2, ⟨Lc2, hQ2, l2, y2, z2⟩, st2⟩ := X1.virtualBack hx (y := (⟨"java/util/Optional", "isPresent", "()Z"⟩ : MethodName)) (z := (⟨"java/util/Optional", "isPresent", "()Z"⟩ : MethodName)) hown (mvT hZ (hw _ (List.mem_of_getElem? (i := 82) rfl))) (mvT hZ (hw _ (List.mem_of_getElem? (i := 83) rfl))) (notFace_of_selects (args := #[]) (mvT hZ (hw _ (List.mem_of_getElem? (i := 85) rfl)))) (mvT hZ (hw _ (List.mem_of_getElem? (i := 85) rfl))) (mvT hZ (hw _ (List.mem_of_getElem? (i := 84) rfl))) (by decide) (backOf (W := 0) (rm15 l Z a0 hw [] oe h0 n0 Z0 Fo) hZ (hw _ (List.mem_of_getElem? (i := 86) rfl)) (hw _ (List.mem_of_getElem? (i := 79) rfl)) (by decide) (by decide)) q2a q2c (g := (mkF m 7 #[.val (.ref bt), .val (.ref pt), .val (.ref so), .val (.ref oe)] [(.ref oe)])) rfl (by rw [hml]; rfl) (Steps.refl _) (argsL := []) (rest := []) (lenOf own_pd8 rfl) rfl (by show 2 * 0 + _ ≤ _; exact Nat.le_of_eq rfl) (hb hby own_d7_7) (fun _ _ => ⟨rfl, eh1, (by decide : 0 + 0 ≤ _), (by decide : 0 + 0 ≤ _)⟩)
  dsimp only [Pt.U, Pt.locs, Pt.cells, Pt.slots] at X2 l2 y2 z2 st2 hQ2
  subst l2 y2 z2
  obtain ⟨rfl, N2q, eh2⟩ := hQ2
  have N2 := Fr.app N1 N2q
  refine Goes.tr st2 ?_
  show Goes p e below s _ _ _ T2 (mkF m 10 #[.val (.ref bt), .val (.ref pt), .val (.ref so), .val (.ref oe)] [(.int (0 : Int32))])
  refine own_ifY X2 hx 37 (hb hby own_d7_10) ((if0 _ _).trans (teq ((by decide) : (0 : Int32) = (0 : Int32))).1) (by decide) (by decide) ?_
  refine own_aloadN X2 hx 38 rfl (hb hby own_d7_37) rfl rfl ?_
  obtain ⟨T3, X3, e3, st3⟩ := getF X2 hx hZ hown (host := "") (Or.inl (hw _ (List.mem_of_getElem? (i := 17) rfl))) Via.refl eh2 Ft (g := (mkF m 38 #[.val (.ref bt), .val (.ref pt), .val (.ref so), .val (.ref oe)] [(.ref bt)])) rfl rfl (hb hby own_d7_38)
  refine Goes.go st3 ?_
  show Goes p e below s _ _ _ T3 (mkF m 41 #[.val (.ref bt), .val (.ref pt), .val (.ref so), .val (.ref oe)] [(.ref ar)])
  refine own_aloadN X3 hx 42 rfl (hb hby own_d7_41) rfl rfl ?_
  refine own_aloadN X3 hx 43 rfl (hb hby own_d7_42) rfl rfl ?_
  obtain ⟨cq4, q4, q4'⟩ := EB.cell
  obtain ⟨_, _, ⟨T4, L4, k4, n4⟩, -, X4, ⟨Lc4, hQ4, l4, y4, z4⟩, st4⟩ := X3.privateBack hx (y := (⟨"com/example/fivestone/fivestone/rules/Board", "index", "(Lcom/example/fivestone/fivestone/rules/Point;)I"⟩ : MethodName)) hown (mvT hZ (hw _ (List.mem_of_getElem? (i := 73) rfl))) (mvT hZ (hw _ (List.mem_of_getElem? (i := 74) rfl))) (own_selP (mvT hZ (hw _ (List.mem_of_getElem? (i := 2) rfl))) (mvP hZ (hw _ (List.mem_of_getElem? (i := 75) rfl))) (mvT hZ (hw _ (List.mem_of_getElem? (i := 74) rfl))) (by decide)) (Cond.privateMethod_at (mvP hZ (hw _ (List.mem_of_getElem? (i := 75) rfl)) (args := #[]))) (mvT hZ (hw _ (List.mem_of_getElem? (i := 76) rfl))) (by decide) (backOf (W := 1) (rm13 l Z a0 hw [] bt pt pc pr bs h0 n0 Z0 EP Fc Fr_ EB Fs hcol hrow) hZ (hw _ (List.mem_of_getElem? (i := 76) rfl)) (hw _ (List.mem_of_getElem? (i := 3) rfl)) (by decide) (by decide)) (g := (mkF m 43 #[.val (.ref bt), .val (.ref pt), .val (.ref so), .val (.ref oe)] [(.ref pt), (.ref bt), (.ref ar)])) rfl (by rw [hml]; rfl) (Steps.refl _) (a := bt) (by rw [e3]; exact q4) q4' (argsL := [(.ref pt)]) (rest := [(.ref ar)]) (lenOf own_pd4 rfl) rfl (by show 2 * 0 + _ ≤ _; exact Nat.le_of_eq rfl) (hb hby own_d7_43) (fun _ _ => ⟨rfl, e3, (by decide : 0 + 0 ≤ _), (by decide : 0 + 0 ≤ _)⟩)
  dsimp only [Pt.U, Pt.locs, Pt.cells, Pt.slots] at X4 l4 y4 z4 st4 hQ4
  subst l4 y4 z4
  obtain ⟨rfl, N4q, eh4⟩ := hQ4
  have N4 := Fr.app N2 N4q
  refine Goes.tr st4 ?_
  show Goes p e below s _ _ _ T4 (mkF m 46 #[.val (.ref bt), .val (.ref pt), .val (.ref so), .val (.ref oe)] [(.int ((pr * bs) + pc)), (.ref ar)])
  refine own_aloadN X4 hx 47 rfl (hb hby own_d7_46) rfl rfl ?_
  obtain ⟨cl5, Ar5, qq5, S5, NN5, RR5⟩ := VR
  have hin5 : ¬ (((pr * bs) + pc) < 0 ∨ cl5.slots.size ≤ (((pr * bs) + pc)).toNatClampNeg) := inb_of S5 (own_pin hs hrow hcol)
  have Sto5 : Sto Z h0 ar (.ref so) := Sto.ofV Ar5 qq5 hov (Ins.self Es)
  obtain ⟨T5, h5, X5, e5, W5, st5⟩ := stR X4 hx hZ eh4 Ar5 (j := ((pr * bs) + pc)) hin5 rfl Sto5 (g := (mkF m 47 #[.val (.ref bt), .val (.ref pt), .val (.ref so), .val (.ref oe)] [(.ref so), (.int ((pr * bs) + pc)), (.ref ar)])) rfl rfl (hb hby own_d7_47)
  have V5 : own_Row Z h5 ar ak bs (bs * bs) (kc + 1) := own_Row.set Ar5 qq5 S5 NN5 RR5 W5 (by rw [own_pmod hs hrow hcol, hkc])
  have N5 := Fr.snoc X5 N4 ga
  have f6 := EP.wr W5
  have f7 := Fc.other W5 (Or.inl (Ne.symm nap))
  have f8 := Fr_.other W5 (Or.inl (Ne.symm nap))
  have f9 := EB.wr W5
  have f10 := Fs.other W5 (Or.inl nba)
  have f11 := Ft.other W5 (Or.inl nba)
  have f12 := Se.wr W5
  have f13 := Eo.wr W5
  have f14 := Fo.other W5 (Or.inl (Ne.symm nao))
  have f15 := Es.wr W5
  have f16 := Fn.other W5 (Or.inl nba)
  have K5 := K0.wr W5 (Or.inl (List.mem_of_getElem? (i := 1) rfl))
  have Z5 := Nat.le_trans Z0 (Nat.le_of_eq W5.size.symm)
  refine Goes.go st5 ?_
  show Goes p e below s _ _ _ T5 (mkF m 48 #[.val (.ref bt), .val (.ref pt), .val (.ref so), .val (.ref oe)] [])
  refine own_aloadN X5 hx 49 rfl (hb hby own_d7_48) rfl rfl ?_
  refine own_dup X5 hx 50 rfl (hb hby own_d7_49) rfl ?_
  obtain ⟨T17, X17, e17, st17⟩ := getF X5 hx hZ hown (host := "") (Or.inl (hw _ (List.mem_of_getElem? (i := 90) rfl))) Via.refl e5 f16 (g := (mkF m 50 #[.val (.ref bt), .val (.ref pt), .val (.ref so), .val (.ref oe)] [(.ref bt), (.ref bt)])) rfl rfl (hb hby own_d7_50)
  refine Goes.go st17 ?_
  show Goes p e below s _ _ _ T17 (mkF m 53 #[.val (.ref bt), .val (.ref pt), .val (.ref so), .val (.ref oe)] [(.int ct), (.ref bt)])
  refine own_iconst X17 hx 54 rfl (1 : Int32) (hb hby own_d7_53) (by decide) ?_
  refine own_iadd X17 hx 55 rfl (hb hby own_d7_54) rfl ?_
  obtain ⟨T18, h18, X18, e18, W18, st18⟩ := putF X17 hx hZ hown (host := "") (Or.inl (hw _ (List.mem_of_getElem? (i := 90) rfl))) Via.refl e17 f16 f9 (Or.inl (hw _ (List.mem_of_getElem? (i := 91) rfl))) (hw _ (List.mem_of_getElem? (i := 2) rfl)) (ty := .int) (by decide) rfl rfl (g := (mkF m 55 #[.val (.ref bt), .val (.ref pt), .val (.ref so), .val (.ref oe)] [(.int (ct + (1 : Int32))), (.ref bt)])) rfl rfl (hb hby own_d7_55)
  have N18 := Fr.snoc X18 N5 gb
  have f19 := f6.wr W18
  have f20 := f7.other W18 (Or.inl (Ne.symm nbp))
  have f21 := f8.other W18 (Or.inl (Ne.symm nbp))
  have f22 := f9.wr W18
  have f23 := f10.other W18 (Or.inr (slot_ne (Or.inr (hw _ (List.mem_of_getElem? (i := 14) rfl))) (Or.inl (hw _ (List.mem_of_getElem? (i := 91) rfl))) (by decide) (t := .int) (t' := .int) (by decide) (by decide)))
  have f24 := f11.other W18 (Or.inr (slot_ne (Or.inr (hw _ (List.mem_of_getElem? (i := 18) rfl))) (Or.inl (hw _ (List.mem_of_getElem? (i := 91) rfl))) (by decide) (t := (.array (.object "com/example/fivestone/fivestone/rules/Stone"))) (t' := .int) (by decide) (by decide)))
  have f25 := f12.wr W18
  have f26 := f13.wr W18
  have f27 := f14.other W18 (Or.inl (Ne.symm nbo))
  have f28 := f15.wr W18
  have f29 := f16.same W18
  have f30 := V5.other W18 (Ne.symm nba)
  have K18 := K5.wr W18 (Or.inl (List.mem_of_getElem? (i := 0) rfl))
  have Z18 := Nat.le_trans Z5 (Nat.le_of_eq W18.size.symm)
  refine Goes.go st18 ?_
  show Goes p e below s _ _ _ T18 (mkF m 58 #[.val (.ref bt), .val (.ref pt), .val (.ref so), .val (.ref oe)] [])
  refine own_retV X18 hx hlk Bd.returns (hb hby own_d7_58) (by decide) (by decide) e18 ?_
  exact ⟨rfl, N18, K18, f23, f24, f29, f30⟩
theorem own_pd9 : parseMethodDescriptor "(II)V" = some ⟨[.int, .int], none⟩ := by decide +kernel
theorem own_pd10 : parseMethodDescriptor "(Lcom/example/fivestone/fivestone/rules/Point;Lcom/example/fivestone/fivestone/rules/Stone;)V" = some ⟨[(.object "com/example/fivestone/fivestone/rules/Point"), (.object "com/example/fivestone/fivestone/rules/Stone")], none⟩ := by decide +kernel
theorem own_d4_0 : decode method_3_code 0 = .ok (.iload_n 1, 1) := by decide +kernel
theorem own_d4_1 : decode method_3_code 1 = .ok (.iload_n 2, 1) := by decide +kernel
theorem own_d4_2 : decode method_3_code 2 = .ok (.if_icmp .ge 57, 3) := by decide +kernel
theorem own_d4_5 : decode method_3_code 5 = .ok (.lload 4, 2) := by decide +kernel
theorem own_d4_7 : decode method_3_code 7 = .ok (.bipush 8, 2) := by decide +kernel
theorem own_d4_9 : decode method_3_code 9 = .ok (.iload_n 1, 1) := by decide +kernel
theorem own_d4_10 : decode method_3_code 10 = .ok (.imul, 1) := by decide +kernel
theorem own_d4_11 : decode method_3_code 11 = .ok (.lushr, 1) := by decide +kernel
theorem own_d4_12 : decode method_3_code 12 = .ok (.ldc2_w 23, 3) := by decide +kernel
theorem own_d4_15 : decode method_3_code 15 = .ok (.land, 1) := by decide +kernel
theorem own_d4_16 : decode method_3_code 16 = .ok (.l2i, 1) := by decide +kernel
theorem own_d4_17 : decode method_3_code 17 = .ok (.iload_n 3, 1) := by decide +kernel
theorem own_d4_18 : decode method_3_code 18 = .ok (.irem, 1) := by decide +kernel
theorem own_d4_19 : decode method_3_code 19 = .ok (.istore 7, 2) := by decide +kernel
theorem own_d4_21 : decode method_3_code 21 = .ok (.iload 6, 2) := by decide +kernel
theorem own_d4_23 : decode method_3_code 23 = .ok (.iconst 3, 1) := by decide +kernel
theorem own_d4_24 : decode method_3_code 24 = .ok (.iload_n 1, 1) := by decide +kernel
theorem own_d4_25 : decode method_3_code 25 = .ok (.iadd, 1) := by decide +kernel
theorem own_d4_26 : decode method_3_code 26 = .ok (.iushr, 1) := by decide +kernel
theorem own_d4_27 : decode method_3_code 27 = .ok (.iconst 1, 1) := by decide +kernel
theorem own_d4_28 : decode method_3_code 28 = .ok (.iand, 1) := by decide +kernel
theorem own_d4_29 : decode method_3_code 29 = .ok (.ifCond .eq 9, 3) := by decide +kernel
theorem own_d4_32 : decode method_3_code 32 = .ok (.getstatic 25, 3) := by decide +kernel
theorem own_d4_35 : decode method_3_code 35 = .ok (.goto 6, 3) := by decide +kernel
theorem own_d4_38 : decode method_3_code 38 = .ok (.getstatic 31, 3) := by decide +kernel
theorem own_d4_41 : decode method_3_code 41 = .ok (.astore 8, 2) := by decide +kernel
theorem own_d4_43 : decode method_3_code 43 = .ok (.aload_n 0, 1) := by decide +kernel
theorem own_d4_44 : decode method_3_code 44 = .ok (.new 34, 3) := by decide +kernel
theorem own_d4_47 : decode method_3_code 47 = .ok (.dup, 1) := by decide +kernel
theorem own_d4_48 : decode method_3_code 48 = .ok (.iload_n 1, 1) := by decide +kernel
theorem own_d4_49 : decode method_3_code 49 = .ok (.iload 7, 2) := by decide +kernel
theorem own_d4_51 : decode method_3_code 51 = .ok (.invokespecial 36, 3) := by decide +kernel
theorem own_d4_54 : decode method_3_code 54 = .ok (.aload 8, 2) := by decide +kernel
theorem own_d4_56 : decode method_3_code 56 = .ok (.invokevirtual 39, 3) := by decide +kernel
theorem own_d4_59 : decode method_3_code 59 = .ok (.return_, 1) := by decide +kernel
theorem own_pn_com_example_fivestone_fivestone_rules_BoardIsFullPinLaw : plainName "com/example/fivestone/fivestone/rules/BoardIsFullPinLaw" = true := by first | (simp [plainName, overriddenIn]; done) | decide +kernel
def Qpu0 (Z : State) (bt : Addr) (pn : Int32) (bs : Int32) (px : Int64) (pk : Int32) (ar : Addr) (ak : ClassId) (oe : Addr) (ct : Int32) (zb : Addr) (zw : Addr) (h0 : Heap) (n0 : Nat) (v : Option Value) (h : Heap) (L : List Loc) : Prop := ∃ cu : Int32, v = none ∧ Fr n0 L ∧ Keep h0 h [bt, ar] ∧ Fld Z h bt "com/example/fivestone/fivestone/rules/Board" "size" "I" (.int bs) ∧ Fld Z h bt "com/example/fivestone/fivestone/rules/Board" "stones" "[Lcom/example/fivestone/fivestone/rules/Stone;" (.ref ar) ∧ Fld Z h bt "com/example/fivestone/fivestone/rules/Board" "count" "I" (.int cu) ∧ own_Row Z h ar ak bs (bs * bs) 1 ∧ (0 ≤ cu.toInt ∧ cu.toInt ≤ 1)
set_option maxRecDepth 65536 in
set_option maxHeartbeats 40000000 in
theorem rmpu0 (l : Launch) (Z : State) (a0 : Array Value) (hw : ∀ d ∈ tables_1, d.before a0 Z = true) (ws : List Jvm.Cond) (bt : Addr) (pn : Int32) (bs : Int32) (px : Int64) (pk : Int32) (ar : Addr) (ak : ClassId) (oe : Addr) (ct : Int32) (zb : Addr) (zw : Addr) (h0 : Heap) (n0 : Nat) (Z0 : n0 ≤ h0.size) (EB : Exa Z h0 bt "com/example/fivestone/fivestone/rules/Board") (Fs : Fld Z h0 bt "com/example/fivestone/fivestone/rules/Board" "size" "I" (.int bs)) (Ft : Fld Z h0 bt "com/example/fivestone/fivestone/rules/Board" "stones" "[Lcom/example/fivestone/fivestone/rules/Stone;" (.ref ar)) (VR : own_Row Z h0 ar ak bs (bs * bs) 0) (hs : 5 ≤ bs.toInt ∧ bs.toInt ≤ 22) (Se : Sta Z h0 "java/util/Optional" "EMPTY" "Ljava/util/Optional;" (.ref oe)) (Eo : Exa Z h0 oe "java/util/Optional") (Fo : Fld Z h0 oe "java/util/Optional" "value" "Ljava/lang/Object;" .null) (Sb : Sta Z h0 "com/example/fivestone/fivestone/rules/Stone" "BLACK" "Lcom/example/fivestone/fivestone/rules/Stone;" (.ref zb)) (Sw : Sta Z h0 "com/example/fivestone/fivestone/rules/Stone" "WHITE" "Lcom/example/fivestone/fivestone/rules/Stone;" (.ref zw)) (Ezb : Exa Z h0 zb "com/example/fivestone/fivestone/rules/Stone") (Ezw : Exa Z h0 zw "com/example/fivestone/fivestone/rules/Stone") (hov : Ovr Z ak "com/example/fivestone/fivestone/rules/Stone") (Fn : Fld Z h0 bt "com/example/fivestone/fivestone/rules/Board" "count" "I" (.int ct)) (gb : n0 ≤ bt) (ga : n0 ≤ ar) (nba : bt ≠ ar) (nbo : bt ≠ oe) (nao : ar ≠ oe) (hct : 0 ≤ ct.toInt ∧ ct.toInt ≤ 0) :
    MetFree l (⟨"com/example/fivestone/fivestone/rules/BoardIsFullPinLaw", "put", "(Lcom/example/fivestone/fivestone/rules/Board;IIIJI)V"⟩ : MethodName) (head1 (Jvm.Cond.code (⟨"com/example/fivestone/fivestone/rules/BoardIsFullPinLaw", "put", "(Lcom/example/fivestone/fivestone/rules/Board;IIIJI)V"⟩ : MethodName) method_3_code 9 none :: ws) ({ frames := 6, cells := 1, slots := 2, locals := 80 } : Room)) (fun a U => a = #[(.ref bt), (.int (0 : Int32)), (.int pn), (.int bs), (.long px), (.int pk)] ∧ Z.Warmed39 U.vm ∧ U.heap = h0) (fun _ _ _ _ _ => True) (fun _ U o U' => ∃ v L, o = .returned v ∧ Qpu0 Z bt pn bs px pk ar ak oe ct zb zw h0 n0 v U'.heap L ∧ FrameEnd U o U' L ({ frames := 6, cells := 1, slots := 2, locals := 80 } : Room).cells ({ frames := 6, cells := 1, slots := 2, locals := 80 } : Room).slots) := by
  refine MetFree.of_bodySF (plainFor_of_name own_pn_com_example_fivestone_fivestone_rules_BoardIsFullPinLaw) hisR ?_
  intro p e s m args below meth c s₁ Bd hml0 hP hK
  obtain ⟨rfl, hZ, hh⟩ := hP
  have hx := Bd.exec
  have hby := Bd.bytes
  have hml : c.maxLocals = 9 := hml0
  have hlk := Bd.notSynchronized
  have hown : s.vm.findClass "com/example/fivestone/fivestone/rules/BoardIsFullPinLaw" = some m.cls := findClass_of_methodNamed Bd.named
  have hnm := (name_of_methodNamed Bd.named Bd.method).1
  have X0 : Stand p l e ({ frames := 6, cells := 1, slots := 2, locals := 80 } : Room) s m #[(.ref bt), (.int (0 : Int32)), (.int pn), (.int bs), (.long px), (.int pk)] below meth c s₁ [] 0 0 := Stand.of_body Bd
  have e0 : s₁.heap = h0 := by rw [← hh, Bd.state]; rfl
  have N0 := Fr.nil n0
  have K0 : Keep h0 h0 [bt, ar] := Keep.refl _ _
  refine own_enter (Q := Qpu0 Z bt pn bs px pk ar ak oe ct zb zw h0 n0) (Ls := #[.val (.ref bt), .val (.int (0 : Int32)), .val (.int pn), .val (.int bs), .val (.long px), .second, .val (.int pk), .unset, .unset]) (by first | rfl | (simp [entryFrame, mkF, argsToLocals, Value.category]; done)) ?_
  refine own_iloadN X0 hx 1 rfl (hb hby own_d4_0) rfl ?_
  refine own_iloadN X0 hx 2 rfl (hb hby own_d4_1) rfl ?_
  by_cases hc2_1 : (0 : Int32) < pn
  · refine own_icmpN X0 hx 5 (hb hby own_d4_2) (tlt hc2_1).2.1 rfl ?_
    refine own_lload X0 hx 7 rfl (hb hby own_d4_5) rfl ?_
    refine own_bipush X0 hx 9 rfl (8 : Int32) (hb hby own_d4_7) (by decide) ?_
    refine own_iloadN X0 hx 10 rfl (hb hby own_d4_9) rfl ?_
    refine own_imul X0 hx 11 rfl (z := (0 : Int32)) (hb hby own_d4_10) (by decide) ?_
    refine own_lushr X0 hx 12 rfl (hb hby own_d4_11) rfl ?_
    refine Goes.go (X0.ldc2Long hx hown (mvT hZ (hw _ (List.mem_of_getElem? (i := 23) rfl))) (g := (mkF m 12 #[.val (.ref bt), .val (.int (0 : Int32)), .val (.int pn), .val (.int bs), .val (.long px), .second, .val (.int pk), .unset, .unset] [(.long ((px.toUInt64 >>> ((0 : Int32) &&& 0x3f).toInt64.toUInt64).toInt64))])) rfl (hb hby own_d4_12)) ?_
    show Goes p e below s _ _ _ s₁ (mkF m 15 #[.val (.ref bt), .val (.int (0 : Int32)), .val (.int pn), .val (.int bs), .val (.long px), .second, .val (.int pk), .unset, .unset] [(.long (255 : Int64)), (.long ((px.toUInt64 >>> ((0 : Int32) &&& 0x3f).toInt64.toUInt64).toInt64))])
    refine own_land X0 hx 16 rfl (hb hby own_d4_15) rfl ?_
    refine own_l2i X0 hx 17 rfl (hb hby own_d4_16) rfl ?_
    refine own_iloadN X0 hx 18 rfl (hb hby own_d4_17) rfl ?_
    obtain ⟨rr, h_rr⟩ : ∃ z, z = (((((px.toUInt64 >>> ((0 : Int32) &&& 0x3f).toInt64.toUInt64).toInt64) &&& (255 : Int64)).toInt32) % bs) := ⟨_, rfl⟩
    refine own_irem X0 hx 19 rfl (hb hby own_d4_18) (own_nz hs) h_rr.symm ?_
    have hrow := own_mask8 _ _ _ hs h_rr
    refine own_istore X0 hx 21 rfl #[.val (.ref bt), .val (.int (0 : Int32)), .val (.int pn), .val (.int bs), .val (.long px), .second, .val (.int pk), .val (.int rr), .unset] (hb hby own_d4_19) rfl ?_
    refine own_iload X0 hx 23 rfl (hb hby own_d4_21) rfl ?_
    refine own_iconst X0 hx 24 rfl (3 : Int32) (hb hby own_d4_23) (by decide) ?_
    refine own_iloadN X0 hx 25 rfl (hb hby own_d4_24) rfl ?_
    refine own_iadd X0 hx 26 rfl (z := (3 : Int32)) (hb hby own_d4_25) (by decide) ?_
    refine own_iushr X0 hx 27 rfl (hb hby own_d4_26) rfl ?_
    refine own_iconst X0 hx 28 rfl (1 : Int32) (hb hby own_d4_27) (by decide) ?_
    refine own_iand X0 hx 29 rfl (hb hby own_d4_28) rfl ?_
    have J41 : ∀ (T2 : State) (h2 : Heap) (L2 : List Loc) (so : Addr) (X2 : Stand p l e ({ frames := 6, cells := 1, slots := 2, locals := 80 } : Room) s m #[(.ref bt), (.int (0 : Int32)), (.int pn), (.int bs), (.long px), (.int pk)] below meth c T2 L2 0 0) (e2 : T2.heap = h2) (N2 : Fr n0 L2) (K2 : Keep h0 h2 [bt, ar]) (Z2 : n0 ≤ h2.size) (f2_0 : Exa Z h2 so "com/example/fivestone/fivestone/rules/Stone") (f2_1 : Exa Z h2 bt "com/example/fivestone/fivestone/rules/Board") (f2_2 : Fld Z h2 bt "com/example/fivestone/fivestone/rules/Board" "size" "I" (.int bs)) (f2_3 : Fld Z h2 bt "com/example/fivestone/fivestone/rules/Board" "stones" "[Lcom/example/fivestone/fivestone/rules/Stone;" (.ref ar)) (f2_4 : own_Row Z h2 ar ak bs (bs * bs) 0) (f2_5 : Sta Z h2 "java/util/Optional" "EMPTY" "Ljava/util/Optional;" (.ref oe)) (f2_6 : Exa Z h2 oe "java/util/Optional") (f2_7 : Fld Z h2 oe "java/util/Optional" "value" "Ljava/lang/Object;" .null) (f2_8 : Sta Z h2 "com/example/fivestone/fivestone/rules/Stone" "BLACK" "Lcom/example/fivestone/fivestone/rules/Stone;" (.ref zb)) (f2_9 : Sta Z h2 "com/example/fivestone/fivestone/rules/Stone" "WHITE" "Lcom/example/fivestone/fivestone/rules/Stone;" (.ref zw)) (f2_10 : Exa Z h2 zb "com/example/fivestone/fivestone/rules/Stone") (f2_11 : Exa Z h2 zw "com/example/fivestone/fivestone/rules/Stone") (f2_12 : Fld Z h2 bt "com/example/fivestone/fivestone/rules/Board" "count" "I" (.int ct)), Goes p e below s ({ frames := 6, cells := 1, slots := 2, locals := 80 } : Room).cells ({ frames := 6, cells := 1, slots := 2, locals := 80 } : Room).slots (Qpu0 Z bt pn bs px pk ar ak oe ct zb zw h0 n0) T2 (mkF m 41 #[.val (.ref bt), .val (.int (0 : Int32)), .val (.int pn), .val (.int bs), .val (.long px), .second, .val (.int pk), .val (.int rr), .unset] [(.ref so)]) := by
      intro T2 h2 L2 so X2 e2 N2 K2 Z2 f2_0 f2_1 f2_2 f2_3 f2_4 f2_5 f2_6 f2_7 f2_8 f2_9 f2_10 f2_11 f2_12
      refine own_astore X2 hx 43 rfl #[.val (.ref bt), .val (.int (0 : Int32)), .val (.int pn), .val (.int bs), .val (.long px), .second, .val (.int pk), .val (.int rr), .val (.ref so)] (hb hby own_d4_41) rfl rfl ?_
      refine own_aloadN X2 hx 44 rfl (hb hby own_d4_43) rfl rfl ?_
      obtain ⟨T3, h3, X3, e3, E3, A3, D3, -, st3⟩ := newO X2 hx hZ hown (hw _ (List.mem_of_getElem? (i := 27) rfl)) (hw _ (List.mem_of_getElem? (i := 28) rfl)) (hw _ (List.mem_of_getElem? (i := 29) rfl)) e2 (g := (mkF m 44 #[.val (.ref bt), .val (.int (0 : Int32)), .val (.int pn), .val (.int bs), .val (.long px), .second, .val (.int pk), .val (.int rr), .val (.ref so)] [(.ref bt)])) rfl (hb hby own_d4_44) (by decide) (by decide)
      obtain ⟨b3, g3⟩ : ∃ z, z = h2.size := ⟨_, rfl⟩
      rw [← g3] at A3 D3 st3
      have ne4 : so ≠ b3 := own_lt_ne f2_0.lt g3
      have ne5 : bt ≠ b3 := own_lt_ne f2_1.lt g3
      have ne6 : ar ≠ b3 := own_lt_ne f2_4.lt g3
      have ne7 : oe ≠ b3 := own_lt_ne f2_6.lt g3
      have ne8 : zb ≠ b3 := own_lt_ne f2_10.lt g3
      have ne9 : zw ≠ b3 := own_lt_ne f2_11.lt g3
      have G3 : n0 ≤ b3 := Nat.le_trans Z2 (Nat.le_of_eq g3.symm)
      have H3 : h0.size ≤ b3 := Nat.le_trans K2.1 (Nat.le_of_eq g3.symm)
      have f10 := f2_0.ext E3
      have f11 := f2_1.ext E3
      have f12 := f2_2.ext E3
      have f13 := f2_3.ext E3
      have f14 := f2_4.ext E3
      have f15 := f2_5.ext E3
      have f16 := f2_6.ext E3
      have f17 := f2_7.ext E3
      have f18 := f2_8.ext E3
      have f19 := f2_9.ext E3
      have f20 := f2_10.ext E3
      have f21 := f2_11.ext E3
      have f22 := f2_12.ext E3
      have K3 := K2.ext E3
      have Z3 := Nat.le_trans Z2 E3.1
      have f23 : Fld Z h3 b3 "com/example/fivestone/fivestone/rules/Point" "column" "I" (.int (0 : Int32)) := D3 (Or.inr (hw _ (List.mem_of_getElem? (i := 40) rfl))) (ty := .int) (by decide)
      have f24 : Fld Z h3 b3 "com/example/fivestone/fivestone/rules/Point" "row" "I" (.int (0 : Int32)) := D3 (Or.inr (hw _ (List.mem_of_getElem? (i := 42) rfl))) (ty := .int) (by decide)
      refine Goes.go st3 ?_
      show Goes p e below s _ _ _ T3 (mkF m 47 #[.val (.ref bt), .val (.int (0 : Int32)), .val (.int pn), .val (.int bs), .val (.long px), .second, .val (.int pk), .val (.int rr), .val (.ref so)] [(.ref b3), (.ref bt)])
      refine own_dup X3 hx 48 rfl (hb hby own_d4_47) rfl ?_
      refine own_iloadN X3 hx 49 rfl (hb hby own_d4_48) rfl ?_
      refine own_iload X3 hx 51 rfl (hb hby own_d4_49) rfl ?_
      obtain ⟨_, _, ⟨T25, L25, k25, n25⟩, -, X25, ⟨Lc25, hQ25, l25, y25, z25⟩, st25⟩ := X3.specialBack hx (y := (⟨"com/example/fivestone/fivestone/rules/Point", "<init>", "(II)V"⟩ : MethodName)) rfl hown (mvT hZ (hw _ (List.mem_of_getElem? (i := 30) rfl))) (mvT hZ (hw _ (List.mem_of_getElem? (i := 31) rfl))) (mvT hZ (hw _ (List.mem_of_getElem? (i := 32) rfl))) (by decide) (backOf (W := 2) (rm5 l Z a0 hw [] b3 (0 : Int32) rr h3 n0 Z3 A3 f23 f24 G3) hZ (hw _ (List.mem_of_getElem? (i := 32) rfl)) (hw _ (List.mem_of_getElem? (i := 29) rfl)) (by decide) (by decide)) (g := (mkF m 51 #[.val (.ref bt), .val (.int (0 : Int32)), .val (.int pn), .val (.int bs), .val (.long px), .second, .val (.int pk), .val (.int rr), .val (.ref so)] [(.int rr), (.int (0 : Int32)), (.ref b3), (.ref b3), (.ref bt)])) rfl (by rw [hml]; rfl) (Steps.refl _) (a := b3) (argsL := [(.int (0 : Int32)), (.int rr)]) (rest := [(.ref b3), (.ref bt)]) (lenOf own_pd9 rfl) rfl (by show 2 * 0 + _ ≤ _; exact Nat.le_of_eq rfl) (hb hby own_d4_51) (fun _ _ => ⟨rfl, e3, (by decide : 1 + 0 ≤ _), (by decide : 2 + 0 ≤ _)⟩)
      dsimp only [Pt.U, Pt.locs, Pt.cells, Pt.slots] at X25 l25 y25 z25 st25 hQ25
      subst l25 y25 z25
      obtain ⟨rfl, N25q, K25q, f25_0, f25_1⟩ := hQ25
      have N25 := Fr.app N2 N25q
      have f26 := f10.keep K25q
      have f27 := f11.keep K25q
      have f28 := f12.keep K25q (ninS ne5 nin0)
      have f29 := f13.keep K25q (ninS ne5 nin0)
      have f30 := f14.keep K25q (ninS ne6 nin0)
      have f31 := own_sta_keep f15 K25q (allS (own_eplain A3) all0)
      have f32 := f16.keep K25q
      have f33 := f17.keep K25q (ninS ne7 nin0)
      have f34 := own_sta_keep f18 K25q (allS (own_eplain A3) all0)
      have f35 := own_sta_keep f19 K25q (allS (own_eplain A3) all0)
      have f36 := f20.keep K25q
      have f37 := f21.keep K25q
      have f38 := f22.keep K25q (ninS ne5 nin0)
      have f39 := A3.keep K25q
      have K25 := K3.trans K25q (allS (Or.inr H3) all0)
      have Z25 := Nat.le_trans Z3 K25q.1
      refine Goes.tr st25 ?_
      show Goes p e below s _ _ _ T25 (mkF m 54 #[.val (.ref bt), .val (.int (0 : Int32)), .val (.int pn), .val (.int bs), .val (.long px), .second, .val (.int pk), .val (.int rr), .val (.ref so)] [(.ref b3), (.ref bt)])
      refine own_aload X25 hx 56 rfl (hb hby own_d4_54) rfl rfl ?_
      obtain ⟨cq40, kq40, q40a, q40b, q40c⟩ := isOf hZ rfl f27
      obtain ⟨_, _, ⟨T40, L40, k40, n40⟩, -, X40, ⟨Lc40, hQ40, l40, y40, z40⟩, st40⟩ := X25.virtualBack hx (y := (⟨"com/example/fivestone/fivestone/rules/Board", "place", "(Lcom/example/fivestone/fivestone/rules/Point;Lcom/example/fivestone/fivestone/rules/Stone;)V"⟩ : MethodName)) (z := (⟨"com/example/fivestone/fivestone/rules/Board", "place", "(Lcom/example/fivestone/fivestone/rules/Point;Lcom/example/fivestone/fivestone/rules/Stone;)V"⟩ : MethodName)) hown (mvT hZ (hw _ (List.mem_of_getElem? (i := 43) rfl))) (mvT hZ (hw _ (List.mem_of_getElem? (i := 44) rfl))) (notFace_of_selects (args := #[]) (mvT hZ (hw _ (List.mem_of_getElem? (i := 46) rfl)))) (mvT hZ (hw _ (List.mem_of_getElem? (i := 46) rfl))) (mvT hZ (hw _ (List.mem_of_getElem? (i := 45) rfl))) (by decide) (backOf (W := 0) (rm7 l Z a0 hw [] bt b3 so (0 : Int32) rr bs ar ak 0 oe ct T25.heap n0 Z25 f39 f25_0 f25_1 f27 f28 f29 f30 hs ⟨by decide, by have := hs.1; show (0 : Int) < _; omega⟩ hrow (by decide) f31 f32 f33 f26 hov f38 gb ga nba ne5 ne6 nbo nao) hZ (hw _ (List.mem_of_getElem? (i := 47) rfl)) (hw _ (List.mem_of_getElem? (i := 3) rfl)) (by decide) (by decide)) q40a q40c (g := (mkF m 56 #[.val (.ref bt), .val (.int (0 : Int32)), .val (.int pn), .val (.int bs), .val (.long px), .second, .val (.int pk), .val (.int rr), .val (.ref so)] [(.ref so), (.ref b3), (.ref bt)])) rfl (by rw [hml]; rfl) (Steps.refl _) (argsL := [(.ref b3), (.ref so)]) (rest := []) (lenOf own_pd10 rfl) rfl (by show 2 * 0 + _ ≤ _; exact Nat.le_of_eq rfl) (hb hby own_d4_56) (fun _ _ => ⟨rfl, rfl, (by decide : 1 + 0 ≤ _), (by decide : 2 + 0 ≤ _)⟩)
      dsimp only [Pt.U, Pt.locs, Pt.cells, Pt.slots] at X40 l40 y40 z40 st40 hQ40
      subst l40 y40 z40
      obtain ⟨rfl, N40q, K40q, f40_0, f40_1, f40_2, f40_3⟩ := hQ40
      have N40 := Fr.app N25 N40q
      have f41 := f26.keep K40q
      have f42 := f27.keep K40q
      have f43 := own_sta_keep f31 K40q (allS (own_eplain f27) (allS f30.plain all0))
      have f44 := f32.keep K40q
      have f45 := f33.keep K40q (ninS (Ne.symm nbo) (ninS (Ne.symm nao) nin0))
      have f46 := own_sta_keep f34 K40q (allS (own_eplain f27) (allS f30.plain all0))
      have f47 := own_sta_keep f35 K40q (allS (own_eplain f27) (allS f30.plain all0))
      have f48 := f36.keep K40q
      have f49 := f37.keep K40q
      have f50 := f39.keep K40q
      have f51 := f25_0.keep K40q (ninS (Ne.symm ne5) (ninS (Ne.symm ne6) nin0))
      have f52 := f25_1.keep K40q (ninS (Ne.symm ne5) (ninS (Ne.symm ne6) nin0))
      have K40 := K25.trans K40q (allS (Or.inl (List.mem_of_getElem? (i := 0) rfl)) (allS (Or.inl (List.mem_of_getElem? (i := 1) rfl)) all0))
      have Z40 := Nat.le_trans Z25 K40q.1
      refine Goes.tr st40 ?_
      show Goes p e below s _ _ _ T40 (mkF m 59 #[.val (.ref bt), .val (.int (0 : Int32)), .val (.int pn), .val (.int bs), .val (.long px), .second, .val (.int pk), .val (.int rr), .val (.ref so)] [])
      refine own_retV X40 hx hlk Bd.returns (hb hby own_d4_59) (by decide) (by decide) rfl ?_
      exact ⟨(ct + (1 : Int32)), rfl, N40, K40, f40_0, f40_1, f40_2, f40_3, own_inc _ hct (by decide)⟩
    by_cases hc29_53 : (((pk.toUInt32 >>> ((3 : Int32) &&& 31).toUInt32).toInt32) &&& (1 : Int32)) = (0 : Int32)
    · refine own_ifY X0 hx 38 (hb hby own_d4_29) ((if0 _ _).trans (teq hc29_53).1) (by decide) (by decide) ?_
      obtain ⟨T54, X54, e54, st54⟩ := getS2 X0 hx hZ hown (host := "") (Or.inl (hw _ (List.mem_of_getElem? (i := 24) rfl))) Via.refl e0 Sb (g := (mkF m 38 #[.val (.ref bt), .val (.int (0 : Int32)), .val (.int pn), .val (.int bs), .val (.long px), .second, .val (.int pk), .val (.int rr), .unset] [])) rfl (hb hby own_d4_38)
      refine Goes.go st54 ?_
      show Goes p e below s _ _ _ T54 (mkF m 41 #[.val (.ref bt), .val (.int (0 : Int32)), .val (.int pn), .val (.int bs), .val (.long px), .second, .val (.int pk), .val (.int rr), .unset] [(.ref zb)])
      exact J41 T54 h0 _ (zb)  X54 e54 N0 K0 Z0 Ezb EB Fs Ft VR Se Eo Fo Sb Sw Ezb Ezw Fn
    · refine own_ifN X0 hx 32 (hb hby own_d4_29) ((if0 _ _).trans (feq hc29_53).1) rfl ?_
      obtain ⟨T55, X55, e55, st55⟩ := getS2 X0 hx hZ hown (host := "") (Or.inl (hw _ (List.mem_of_getElem? (i := 97) rfl))) Via.refl e0 Sw (g := (mkF m 32 #[.val (.ref bt), .val (.int (0 : Int32)), .val (.int pn), .val (.int bs), .val (.long px), .second, .val (.int pk), .val (.int rr), .unset] [])) rfl (hb hby own_d4_32)
      refine Goes.go st55 ?_
      show Goes p e below s _ _ _ T55 (mkF m 35 #[.val (.ref bt), .val (.int (0 : Int32)), .val (.int pn), .val (.int bs), .val (.long px), .second, .val (.int pk), .val (.int rr), .unset] [(.ref zw)])
      refine own_goto X55 hx 41 (hb hby own_d4_35) (by decide) (by decide) ?_
      exact J41 T55 h0 _ (zw)  X55 e55 N0 K0 Z0 Ezw EB Fs Ft VR Se Eo Fo Sb Sw Ezb Ezw Fn
  · refine own_icmpY X0 hx 59 (hb hby own_d4_2) (flt hc2_1).2.1 (by decide) (by decide) ?_
    refine own_retV X0 hx hlk Bd.returns (hb hby own_d4_59) (by decide) (by decide) e0 ?_
    exact ⟨ct, rfl, N0, K0, Fs, Ft, Fn, VR.mono, ⟨hct.1, by omega⟩⟩
def Qpu1 (Z : State) (bt : Addr) (pn : Int32) (bs : Int32) (px : Int64) (pk : Int32) (ar : Addr) (ak : ClassId) (oe : Addr) (ct : Int32) (zb : Addr) (zw : Addr) (h0 : Heap) (n0 : Nat) (v : Option Value) (h : Heap) (L : List Loc) : Prop := ∃ cu : Int32, v = none ∧ Fr n0 L ∧ Keep h0 h [bt, ar] ∧ Fld Z h bt "com/example/fivestone/fivestone/rules/Board" "size" "I" (.int bs) ∧ Fld Z h bt "com/example/fivestone/fivestone/rules/Board" "stones" "[Lcom/example/fivestone/fivestone/rules/Stone;" (.ref ar) ∧ Fld Z h bt "com/example/fivestone/fivestone/rules/Board" "count" "I" (.int cu) ∧ own_Row Z h ar ak bs (bs * bs) 2 ∧ (0 ≤ cu.toInt ∧ cu.toInt ≤ 2)
set_option maxRecDepth 65536 in
set_option maxHeartbeats 40000000 in
theorem rmpu1 (l : Launch) (Z : State) (a0 : Array Value) (hw : ∀ d ∈ tables_1, d.before a0 Z = true) (ws : List Jvm.Cond) (bt : Addr) (pn : Int32) (bs : Int32) (px : Int64) (pk : Int32) (ar : Addr) (ak : ClassId) (oe : Addr) (ct : Int32) (zb : Addr) (zw : Addr) (h0 : Heap) (n0 : Nat) (Z0 : n0 ≤ h0.size) (EB : Exa Z h0 bt "com/example/fivestone/fivestone/rules/Board") (Fs : Fld Z h0 bt "com/example/fivestone/fivestone/rules/Board" "size" "I" (.int bs)) (Ft : Fld Z h0 bt "com/example/fivestone/fivestone/rules/Board" "stones" "[Lcom/example/fivestone/fivestone/rules/Stone;" (.ref ar)) (VR : own_Row Z h0 ar ak bs (bs * bs) 1) (hs : 5 ≤ bs.toInt ∧ bs.toInt ≤ 22) (Se : Sta Z h0 "java/util/Optional" "EMPTY" "Ljava/util/Optional;" (.ref oe)) (Eo : Exa Z h0 oe "java/util/Optional") (Fo : Fld Z h0 oe "java/util/Optional" "value" "Ljava/lang/Object;" .null) (Sb : Sta Z h0 "com/example/fivestone/fivestone/rules/Stone" "BLACK" "Lcom/example/fivestone/fivestone/rules/Stone;" (.ref zb)) (Sw : Sta Z h0 "com/example/fivestone/fivestone/rules/Stone" "WHITE" "Lcom/example/fivestone/fivestone/rules/Stone;" (.ref zw)) (Ezb : Exa Z h0 zb "com/example/fivestone/fivestone/rules/Stone") (Ezw : Exa Z h0 zw "com/example/fivestone/fivestone/rules/Stone") (hov : Ovr Z ak "com/example/fivestone/fivestone/rules/Stone") (Fn : Fld Z h0 bt "com/example/fivestone/fivestone/rules/Board" "count" "I" (.int ct)) (gb : n0 ≤ bt) (ga : n0 ≤ ar) (nba : bt ≠ ar) (nbo : bt ≠ oe) (nao : ar ≠ oe) (hct : 0 ≤ ct.toInt ∧ ct.toInt ≤ 1) :
    MetFree l (⟨"com/example/fivestone/fivestone/rules/BoardIsFullPinLaw", "put", "(Lcom/example/fivestone/fivestone/rules/Board;IIIJI)V"⟩ : MethodName) (head1 (Jvm.Cond.code (⟨"com/example/fivestone/fivestone/rules/BoardIsFullPinLaw", "put", "(Lcom/example/fivestone/fivestone/rules/Board;IIIJI)V"⟩ : MethodName) method_3_code 9 none :: ws) ({ frames := 6, cells := 1, slots := 2, locals := 80 } : Room)) (fun a U => a = #[(.ref bt), (.int (1 : Int32)), (.int pn), (.int bs), (.long px), (.int pk)] ∧ Z.Warmed39 U.vm ∧ U.heap = h0) (fun _ _ _ _ _ => True) (fun _ U o U' => ∃ v L, o = .returned v ∧ Qpu1 Z bt pn bs px pk ar ak oe ct zb zw h0 n0 v U'.heap L ∧ FrameEnd U o U' L ({ frames := 6, cells := 1, slots := 2, locals := 80 } : Room).cells ({ frames := 6, cells := 1, slots := 2, locals := 80 } : Room).slots) := by
  refine MetFree.of_bodySF (plainFor_of_name own_pn_com_example_fivestone_fivestone_rules_BoardIsFullPinLaw) hisR ?_
  intro p e s m args below meth c s₁ Bd hml0 hP hK
  obtain ⟨rfl, hZ, hh⟩ := hP
  have hx := Bd.exec
  have hby := Bd.bytes
  have hml : c.maxLocals = 9 := hml0
  have hlk := Bd.notSynchronized
  have hown : s.vm.findClass "com/example/fivestone/fivestone/rules/BoardIsFullPinLaw" = some m.cls := findClass_of_methodNamed Bd.named
  have hnm := (name_of_methodNamed Bd.named Bd.method).1
  have X0 : Stand p l e ({ frames := 6, cells := 1, slots := 2, locals := 80 } : Room) s m #[(.ref bt), (.int (1 : Int32)), (.int pn), (.int bs), (.long px), (.int pk)] below meth c s₁ [] 0 0 := Stand.of_body Bd
  have e0 : s₁.heap = h0 := by rw [← hh, Bd.state]; rfl
  have N0 := Fr.nil n0
  have K0 : Keep h0 h0 [bt, ar] := Keep.refl _ _
  refine own_enter (Q := Qpu1 Z bt pn bs px pk ar ak oe ct zb zw h0 n0) (Ls := #[.val (.ref bt), .val (.int (1 : Int32)), .val (.int pn), .val (.int bs), .val (.long px), .second, .val (.int pk), .unset, .unset]) (by first | rfl | (simp [entryFrame, mkF, argsToLocals, Value.category]; done)) ?_
  refine own_iloadN X0 hx 1 rfl (hb hby own_d4_0) rfl ?_
  refine own_iloadN X0 hx 2 rfl (hb hby own_d4_1) rfl ?_
  by_cases hc2_1 : (1 : Int32) < pn
  · refine own_icmpN X0 hx 5 (hb hby own_d4_2) (tlt hc2_1).2.1 rfl ?_
    refine own_lload X0 hx 7 rfl (hb hby own_d4_5) rfl ?_
    refine own_bipush X0 hx 9 rfl (8 : Int32) (hb hby own_d4_7) (by decide) ?_
    refine own_iloadN X0 hx 10 rfl (hb hby own_d4_9) rfl ?_
    refine own_imul X0 hx 11 rfl (z := (8 : Int32)) (hb hby own_d4_10) (by decide) ?_
    refine own_lushr X0 hx 12 rfl (hb hby own_d4_11) rfl ?_
    refine Goes.go (X0.ldc2Long hx hown (mvT hZ (hw _ (List.mem_of_getElem? (i := 23) rfl))) (g := (mkF m 12 #[.val (.ref bt), .val (.int (1 : Int32)), .val (.int pn), .val (.int bs), .val (.long px), .second, .val (.int pk), .unset, .unset] [(.long ((px.toUInt64 >>> ((8 : Int32) &&& 0x3f).toInt64.toUInt64).toInt64))])) rfl (hb hby own_d4_12)) ?_
    show Goes p e below s _ _ _ s₁ (mkF m 15 #[.val (.ref bt), .val (.int (1 : Int32)), .val (.int pn), .val (.int bs), .val (.long px), .second, .val (.int pk), .unset, .unset] [(.long (255 : Int64)), (.long ((px.toUInt64 >>> ((8 : Int32) &&& 0x3f).toInt64.toUInt64).toInt64))])
    refine own_land X0 hx 16 rfl (hb hby own_d4_15) rfl ?_
    refine own_l2i X0 hx 17 rfl (hb hby own_d4_16) rfl ?_
    refine own_iloadN X0 hx 18 rfl (hb hby own_d4_17) rfl ?_
    obtain ⟨rr, h_rr⟩ : ∃ z, z = (((((px.toUInt64 >>> ((8 : Int32) &&& 0x3f).toInt64.toUInt64).toInt64) &&& (255 : Int64)).toInt32) % bs) := ⟨_, rfl⟩
    refine own_irem X0 hx 19 rfl (hb hby own_d4_18) (own_nz hs) h_rr.symm ?_
    have hrow := own_mask8 _ _ _ hs h_rr
    refine own_istore X0 hx 21 rfl #[.val (.ref bt), .val (.int (1 : Int32)), .val (.int pn), .val (.int bs), .val (.long px), .second, .val (.int pk), .val (.int rr), .unset] (hb hby own_d4_19) rfl ?_
    refine own_iload X0 hx 23 rfl (hb hby own_d4_21) rfl ?_
    refine own_iconst X0 hx 24 rfl (3 : Int32) (hb hby own_d4_23) (by decide) ?_
    refine own_iloadN X0 hx 25 rfl (hb hby own_d4_24) rfl ?_
    refine own_iadd X0 hx 26 rfl (z := (4 : Int32)) (hb hby own_d4_25) (by decide) ?_
    refine own_iushr X0 hx 27 rfl (hb hby own_d4_26) rfl ?_
    refine own_iconst X0 hx 28 rfl (1 : Int32) (hb hby own_d4_27) (by decide) ?_
    refine own_iand X0 hx 29 rfl (hb hby own_d4_28) rfl ?_
    have J41 : ∀ (T2 : State) (h2 : Heap) (L2 : List Loc) (so : Addr) (X2 : Stand p l e ({ frames := 6, cells := 1, slots := 2, locals := 80 } : Room) s m #[(.ref bt), (.int (1 : Int32)), (.int pn), (.int bs), (.long px), (.int pk)] below meth c T2 L2 0 0) (e2 : T2.heap = h2) (N2 : Fr n0 L2) (K2 : Keep h0 h2 [bt, ar]) (Z2 : n0 ≤ h2.size) (f2_0 : Exa Z h2 so "com/example/fivestone/fivestone/rules/Stone") (f2_1 : Exa Z h2 bt "com/example/fivestone/fivestone/rules/Board") (f2_2 : Fld Z h2 bt "com/example/fivestone/fivestone/rules/Board" "size" "I" (.int bs)) (f2_3 : Fld Z h2 bt "com/example/fivestone/fivestone/rules/Board" "stones" "[Lcom/example/fivestone/fivestone/rules/Stone;" (.ref ar)) (f2_4 : own_Row Z h2 ar ak bs (bs * bs) 1) (f2_5 : Sta Z h2 "java/util/Optional" "EMPTY" "Ljava/util/Optional;" (.ref oe)) (f2_6 : Exa Z h2 oe "java/util/Optional") (f2_7 : Fld Z h2 oe "java/util/Optional" "value" "Ljava/lang/Object;" .null) (f2_8 : Sta Z h2 "com/example/fivestone/fivestone/rules/Stone" "BLACK" "Lcom/example/fivestone/fivestone/rules/Stone;" (.ref zb)) (f2_9 : Sta Z h2 "com/example/fivestone/fivestone/rules/Stone" "WHITE" "Lcom/example/fivestone/fivestone/rules/Stone;" (.ref zw)) (f2_10 : Exa Z h2 zb "com/example/fivestone/fivestone/rules/Stone") (f2_11 : Exa Z h2 zw "com/example/fivestone/fivestone/rules/Stone") (f2_12 : Fld Z h2 bt "com/example/fivestone/fivestone/rules/Board" "count" "I" (.int ct)), Goes p e below s ({ frames := 6, cells := 1, slots := 2, locals := 80 } : Room).cells ({ frames := 6, cells := 1, slots := 2, locals := 80 } : Room).slots (Qpu1 Z bt pn bs px pk ar ak oe ct zb zw h0 n0) T2 (mkF m 41 #[.val (.ref bt), .val (.int (1 : Int32)), .val (.int pn), .val (.int bs), .val (.long px), .second, .val (.int pk), .val (.int rr), .unset] [(.ref so)]) := by
      intro T2 h2 L2 so X2 e2 N2 K2 Z2 f2_0 f2_1 f2_2 f2_3 f2_4 f2_5 f2_6 f2_7 f2_8 f2_9 f2_10 f2_11 f2_12
      refine own_astore X2 hx 43 rfl #[.val (.ref bt), .val (.int (1 : Int32)), .val (.int pn), .val (.int bs), .val (.long px), .second, .val (.int pk), .val (.int rr), .val (.ref so)] (hb hby own_d4_41) rfl rfl ?_
      refine own_aloadN X2 hx 44 rfl (hb hby own_d4_43) rfl rfl ?_
      obtain ⟨T3, h3, X3, e3, E3, A3, D3, -, st3⟩ := newO X2 hx hZ hown (hw _ (List.mem_of_getElem? (i := 27) rfl)) (hw _ (List.mem_of_getElem? (i := 28) rfl)) (hw _ (List.mem_of_getElem? (i := 29) rfl)) e2 (g := (mkF m 44 #[.val (.ref bt), .val (.int (1 : Int32)), .val (.int pn), .val (.int bs), .val (.long px), .second, .val (.int pk), .val (.int rr), .val (.ref so)] [(.ref bt)])) rfl (hb hby own_d4_44) (by decide) (by decide)
      obtain ⟨b3, g3⟩ : ∃ z, z = h2.size := ⟨_, rfl⟩
      rw [← g3] at A3 D3 st3
      have ne4 : so ≠ b3 := own_lt_ne f2_0.lt g3
      have ne5 : bt ≠ b3 := own_lt_ne f2_1.lt g3
      have ne6 : ar ≠ b3 := own_lt_ne f2_4.lt g3
      have ne7 : oe ≠ b3 := own_lt_ne f2_6.lt g3
      have ne8 : zb ≠ b3 := own_lt_ne f2_10.lt g3
      have ne9 : zw ≠ b3 := own_lt_ne f2_11.lt g3
      have G3 : n0 ≤ b3 := Nat.le_trans Z2 (Nat.le_of_eq g3.symm)
      have H3 : h0.size ≤ b3 := Nat.le_trans K2.1 (Nat.le_of_eq g3.symm)
      have f10 := f2_0.ext E3
      have f11 := f2_1.ext E3
      have f12 := f2_2.ext E3
      have f13 := f2_3.ext E3
      have f14 := f2_4.ext E3
      have f15 := f2_5.ext E3
      have f16 := f2_6.ext E3
      have f17 := f2_7.ext E3
      have f18 := f2_8.ext E3
      have f19 := f2_9.ext E3
      have f20 := f2_10.ext E3
      have f21 := f2_11.ext E3
      have f22 := f2_12.ext E3
      have K3 := K2.ext E3
      have Z3 := Nat.le_trans Z2 E3.1
      have f23 : Fld Z h3 b3 "com/example/fivestone/fivestone/rules/Point" "column" "I" (.int (0 : Int32)) := D3 (Or.inr (hw _ (List.mem_of_getElem? (i := 40) rfl))) (ty := .int) (by decide)
      have f24 : Fld Z h3 b3 "com/example/fivestone/fivestone/rules/Point" "row" "I" (.int (0 : Int32)) := D3 (Or.inr (hw _ (List.mem_of_getElem? (i := 42) rfl))) (ty := .int) (by decide)
      refine Goes.go st3 ?_
      show Goes p e below s _ _ _ T3 (mkF m 47 #[.val (.ref bt), .val (.int (1 : Int32)), .val (.int pn), .val (.int bs), .val (.long px), .second, .val (.int pk), .val (.int rr), .val (.ref so)] [(.ref b3), (.ref bt)])
      refine own_dup X3 hx 48 rfl (hb hby own_d4_47) rfl ?_
      refine own_iloadN X3 hx 49 rfl (hb hby own_d4_48) rfl ?_
      refine own_iload X3 hx 51 rfl (hb hby own_d4_49) rfl ?_
      obtain ⟨_, _, ⟨T25, L25, k25, n25⟩, -, X25, ⟨Lc25, hQ25, l25, y25, z25⟩, st25⟩ := X3.specialBack hx (y := (⟨"com/example/fivestone/fivestone/rules/Point", "<init>", "(II)V"⟩ : MethodName)) rfl hown (mvT hZ (hw _ (List.mem_of_getElem? (i := 30) rfl))) (mvT hZ (hw _ (List.mem_of_getElem? (i := 31) rfl))) (mvT hZ (hw _ (List.mem_of_getElem? (i := 32) rfl))) (by decide) (backOf (W := 2) (rm5 l Z a0 hw [] b3 (1 : Int32) rr h3 n0 Z3 A3 f23 f24 G3) hZ (hw _ (List.mem_of_getElem? (i := 32) rfl)) (hw _ (List.mem_of_getElem? (i := 29) rfl)) (by decide) (by decide)) (g := (mkF m 51 #[.val (.ref bt), .val (.int (1 : Int32)), .val (.int pn), .val (.int bs), .val (.long px), .second, .val (.int pk), .val (.int rr), .val (.ref so)] [(.int rr), (.int (1 : Int32)), (.ref b3), (.ref b3), (.ref bt)])) rfl (by rw [hml]; rfl) (Steps.refl _) (a := b3) (argsL := [(.int (1 : Int32)), (.int rr)]) (rest := [(.ref b3), (.ref bt)]) (lenOf own_pd9 rfl) rfl (by show 2 * 0 + _ ≤ _; exact Nat.le_of_eq rfl) (hb hby own_d4_51) (fun _ _ => ⟨rfl, e3, (by decide : 1 + 0 ≤ _), (by decide : 2 + 0 ≤ _)⟩)
      dsimp only [Pt.U, Pt.locs, Pt.cells, Pt.slots] at X25 l25 y25 z25 st25 hQ25
      subst l25 y25 z25
      obtain ⟨rfl, N25q, K25q, f25_0, f25_1⟩ := hQ25
      have N25 := Fr.app N2 N25q
      have f26 := f10.keep K25q
      have f27 := f11.keep K25q
      have f28 := f12.keep K25q (ninS ne5 nin0)
      have f29 := f13.keep K25q (ninS ne5 nin0)
      have f30 := f14.keep K25q (ninS ne6 nin0)
      have f31 := own_sta_keep f15 K25q (allS (own_eplain A3) all0)
      have f32 := f16.keep K25q
      have f33 := f17.keep K25q (ninS ne7 nin0)
      have f34 := own_sta_keep f18 K25q (allS (own_eplain A3) all0)
      have f35 := own_sta_keep f19 K25q (allS (own_eplain A3) all0)
      have f36 := f20.keep K25q
      have f37 := f21.keep K25q
      have f38 := f22.keep K25q (ninS ne5 nin0)
      have f39 := A3.keep K25q
      have K25 := K3.trans K25q (allS (Or.inr H3) all0)
      have Z25 := Nat.le_trans Z3 K25q.1
      refine Goes.tr st25 ?_
      show Goes p e below s _ _ _ T25 (mkF m 54 #[.val (.ref bt), .val (.int (1 : Int32)), .val (.int pn), .val (.int bs), .val (.long px), .second, .val (.int pk), .val (.int rr), .val (.ref so)] [(.ref b3), (.ref bt)])
      refine own_aload X25 hx 56 rfl (hb hby own_d4_54) rfl rfl ?_
      obtain ⟨cq40, kq40, q40a, q40b, q40c⟩ := isOf hZ rfl f27
      obtain ⟨_, _, ⟨T40, L40, k40, n40⟩, -, X40, ⟨Lc40, hQ40, l40, y40, z40⟩, st40⟩ := X25.virtualBack hx (y := (⟨"com/example/fivestone/fivestone/rules/Board", "place", "(Lcom/example/fivestone/fivestone/rules/Point;Lcom/example/fivestone/fivestone/rules/Stone;)V"⟩ : MethodName)) (z := (⟨"com/example/fivestone/fivestone/rules/Board", "place", "(Lcom/example/fivestone/fivestone/rules/Point;Lcom/example/fivestone/fivestone/rules/Stone;)V"⟩ : MethodName)) hown (mvT hZ (hw _ (List.mem_of_getElem? (i := 43) rfl))) (mvT hZ (hw _ (List.mem_of_getElem? (i := 44) rfl))) (notFace_of_selects (args := #[]) (mvT hZ (hw _ (List.mem_of_getElem? (i := 46) rfl)))) (mvT hZ (hw _ (List.mem_of_getElem? (i := 46) rfl))) (mvT hZ (hw _ (List.mem_of_getElem? (i := 45) rfl))) (by decide) (backOf (W := 0) (rm7 l Z a0 hw [] bt b3 so (1 : Int32) rr bs ar ak 1 oe ct T25.heap n0 Z25 f39 f25_0 f25_1 f27 f28 f29 f30 hs ⟨by decide, by have := hs.1; show (1 : Int) < _; omega⟩ hrow (by decide) f31 f32 f33 f26 hov f38 gb ga nba ne5 ne6 nbo nao) hZ (hw _ (List.mem_of_getElem? (i := 47) rfl)) (hw _ (List.mem_of_getElem? (i := 3) rfl)) (by decide) (by decide)) q40a q40c (g := (mkF m 56 #[.val (.ref bt), .val (.int (1 : Int32)), .val (.int pn), .val (.int bs), .val (.long px), .second, .val (.int pk), .val (.int rr), .val (.ref so)] [(.ref so), (.ref b3), (.ref bt)])) rfl (by rw [hml]; rfl) (Steps.refl _) (argsL := [(.ref b3), (.ref so)]) (rest := []) (lenOf own_pd10 rfl) rfl (by show 2 * 0 + _ ≤ _; exact Nat.le_of_eq rfl) (hb hby own_d4_56) (fun _ _ => ⟨rfl, rfl, (by decide : 1 + 0 ≤ _), (by decide : 2 + 0 ≤ _)⟩)
      dsimp only [Pt.U, Pt.locs, Pt.cells, Pt.slots] at X40 l40 y40 z40 st40 hQ40
      subst l40 y40 z40
      obtain ⟨rfl, N40q, K40q, f40_0, f40_1, f40_2, f40_3⟩ := hQ40
      have N40 := Fr.app N25 N40q
      have f41 := f26.keep K40q
      have f42 := f27.keep K40q
      have f43 := own_sta_keep f31 K40q (allS (own_eplain f27) (allS f30.plain all0))
      have f44 := f32.keep K40q
      have f45 := f33.keep K40q (ninS (Ne.symm nbo) (ninS (Ne.symm nao) nin0))
      have f46 := own_sta_keep f34 K40q (allS (own_eplain f27) (allS f30.plain all0))
      have f47 := own_sta_keep f35 K40q (allS (own_eplain f27) (allS f30.plain all0))
      have f48 := f36.keep K40q
      have f49 := f37.keep K40q
      have f50 := f39.keep K40q
      have f51 := f25_0.keep K40q (ninS (Ne.symm ne5) (ninS (Ne.symm ne6) nin0))
      have f52 := f25_1.keep K40q (ninS (Ne.symm ne5) (ninS (Ne.symm ne6) nin0))
      have K40 := K25.trans K40q (allS (Or.inl (List.mem_of_getElem? (i := 0) rfl)) (allS (Or.inl (List.mem_of_getElem? (i := 1) rfl)) all0))
      have Z40 := Nat.le_trans Z25 K40q.1
      refine Goes.tr st40 ?_
      show Goes p e below s _ _ _ T40 (mkF m 59 #[.val (.ref bt), .val (.int (1 : Int32)), .val (.int pn), .val (.int bs), .val (.long px), .second, .val (.int pk), .val (.int rr), .val (.ref so)] [])
      refine own_retV X40 hx hlk Bd.returns (hb hby own_d4_59) (by decide) (by decide) rfl ?_
      exact ⟨(ct + (1 : Int32)), rfl, N40, K40, f40_0, f40_1, f40_2, f40_3, own_inc _ hct (by decide)⟩
    by_cases hc29_53 : (((pk.toUInt32 >>> ((4 : Int32) &&& 31).toUInt32).toInt32) &&& (1 : Int32)) = (0 : Int32)
    · refine own_ifY X0 hx 38 (hb hby own_d4_29) ((if0 _ _).trans (teq hc29_53).1) (by decide) (by decide) ?_
      obtain ⟨T54, X54, e54, st54⟩ := getS2 X0 hx hZ hown (host := "") (Or.inl (hw _ (List.mem_of_getElem? (i := 24) rfl))) Via.refl e0 Sb (g := (mkF m 38 #[.val (.ref bt), .val (.int (1 : Int32)), .val (.int pn), .val (.int bs), .val (.long px), .second, .val (.int pk), .val (.int rr), .unset] [])) rfl (hb hby own_d4_38)
      refine Goes.go st54 ?_
      show Goes p e below s _ _ _ T54 (mkF m 41 #[.val (.ref bt), .val (.int (1 : Int32)), .val (.int pn), .val (.int bs), .val (.long px), .second, .val (.int pk), .val (.int rr), .unset] [(.ref zb)])
      exact J41 T54 h0 _ (zb)  X54 e54 N0 K0 Z0 Ezb EB Fs Ft VR Se Eo Fo Sb Sw Ezb Ezw Fn
    · refine own_ifN X0 hx 32 (hb hby own_d4_29) ((if0 _ _).trans (feq hc29_53).1) rfl ?_
      obtain ⟨T55, X55, e55, st55⟩ := getS2 X0 hx hZ hown (host := "") (Or.inl (hw _ (List.mem_of_getElem? (i := 97) rfl))) Via.refl e0 Sw (g := (mkF m 32 #[.val (.ref bt), .val (.int (1 : Int32)), .val (.int pn), .val (.int bs), .val (.long px), .second, .val (.int pk), .val (.int rr), .unset] [])) rfl (hb hby own_d4_32)
      refine Goes.go st55 ?_
      show Goes p e below s _ _ _ T55 (mkF m 35 #[.val (.ref bt), .val (.int (1 : Int32)), .val (.int pn), .val (.int bs), .val (.long px), .second, .val (.int pk), .val (.int rr), .unset] [(.ref zw)])
      refine own_goto X55 hx 41 (hb hby own_d4_35) (by decide) (by decide) ?_
      exact J41 T55 h0 _ (zw)  X55 e55 N0 K0 Z0 Ezw EB Fs Ft VR Se Eo Fo Sb Sw Ezb Ezw Fn
  · refine own_icmpY X0 hx 59 (hb hby own_d4_2) (flt hc2_1).2.1 (by decide) (by decide) ?_
    refine own_retV X0 hx hlk Bd.returns (hb hby own_d4_59) (by decide) (by decide) e0 ?_
    exact ⟨ct, rfl, N0, K0, Fs, Ft, Fn, VR.mono, ⟨hct.1, by omega⟩⟩
def Qpu2 (Z : State) (bt : Addr) (pn : Int32) (bs : Int32) (px : Int64) (pk : Int32) (ar : Addr) (ak : ClassId) (oe : Addr) (ct : Int32) (zb : Addr) (zw : Addr) (h0 : Heap) (n0 : Nat) (v : Option Value) (h : Heap) (L : List Loc) : Prop := ∃ cu : Int32, v = none ∧ Fr n0 L ∧ Keep h0 h [bt, ar] ∧ Fld Z h bt "com/example/fivestone/fivestone/rules/Board" "size" "I" (.int bs) ∧ Fld Z h bt "com/example/fivestone/fivestone/rules/Board" "stones" "[Lcom/example/fivestone/fivestone/rules/Stone;" (.ref ar) ∧ Fld Z h bt "com/example/fivestone/fivestone/rules/Board" "count" "I" (.int cu) ∧ own_Row Z h ar ak bs (bs * bs) 3 ∧ (0 ≤ cu.toInt ∧ cu.toInt ≤ 3)
set_option maxRecDepth 65536 in
set_option maxHeartbeats 40000000 in
theorem rmpu2 (l : Launch) (Z : State) (a0 : Array Value) (hw : ∀ d ∈ tables_1, d.before a0 Z = true) (ws : List Jvm.Cond) (bt : Addr) (pn : Int32) (bs : Int32) (px : Int64) (pk : Int32) (ar : Addr) (ak : ClassId) (oe : Addr) (ct : Int32) (zb : Addr) (zw : Addr) (h0 : Heap) (n0 : Nat) (Z0 : n0 ≤ h0.size) (EB : Exa Z h0 bt "com/example/fivestone/fivestone/rules/Board") (Fs : Fld Z h0 bt "com/example/fivestone/fivestone/rules/Board" "size" "I" (.int bs)) (Ft : Fld Z h0 bt "com/example/fivestone/fivestone/rules/Board" "stones" "[Lcom/example/fivestone/fivestone/rules/Stone;" (.ref ar)) (VR : own_Row Z h0 ar ak bs (bs * bs) 2) (hs : 5 ≤ bs.toInt ∧ bs.toInt ≤ 22) (Se : Sta Z h0 "java/util/Optional" "EMPTY" "Ljava/util/Optional;" (.ref oe)) (Eo : Exa Z h0 oe "java/util/Optional") (Fo : Fld Z h0 oe "java/util/Optional" "value" "Ljava/lang/Object;" .null) (Sb : Sta Z h0 "com/example/fivestone/fivestone/rules/Stone" "BLACK" "Lcom/example/fivestone/fivestone/rules/Stone;" (.ref zb)) (Sw : Sta Z h0 "com/example/fivestone/fivestone/rules/Stone" "WHITE" "Lcom/example/fivestone/fivestone/rules/Stone;" (.ref zw)) (Ezb : Exa Z h0 zb "com/example/fivestone/fivestone/rules/Stone") (Ezw : Exa Z h0 zw "com/example/fivestone/fivestone/rules/Stone") (hov : Ovr Z ak "com/example/fivestone/fivestone/rules/Stone") (Fn : Fld Z h0 bt "com/example/fivestone/fivestone/rules/Board" "count" "I" (.int ct)) (gb : n0 ≤ bt) (ga : n0 ≤ ar) (nba : bt ≠ ar) (nbo : bt ≠ oe) (nao : ar ≠ oe) (hct : 0 ≤ ct.toInt ∧ ct.toInt ≤ 2) :
    MetFree l (⟨"com/example/fivestone/fivestone/rules/BoardIsFullPinLaw", "put", "(Lcom/example/fivestone/fivestone/rules/Board;IIIJI)V"⟩ : MethodName) (head1 (Jvm.Cond.code (⟨"com/example/fivestone/fivestone/rules/BoardIsFullPinLaw", "put", "(Lcom/example/fivestone/fivestone/rules/Board;IIIJI)V"⟩ : MethodName) method_3_code 9 none :: ws) ({ frames := 6, cells := 1, slots := 2, locals := 80 } : Room)) (fun a U => a = #[(.ref bt), (.int (2 : Int32)), (.int pn), (.int bs), (.long px), (.int pk)] ∧ Z.Warmed39 U.vm ∧ U.heap = h0) (fun _ _ _ _ _ => True) (fun _ U o U' => ∃ v L, o = .returned v ∧ Qpu2 Z bt pn bs px pk ar ak oe ct zb zw h0 n0 v U'.heap L ∧ FrameEnd U o U' L ({ frames := 6, cells := 1, slots := 2, locals := 80 } : Room).cells ({ frames := 6, cells := 1, slots := 2, locals := 80 } : Room).slots) := by
  refine MetFree.of_bodySF (plainFor_of_name own_pn_com_example_fivestone_fivestone_rules_BoardIsFullPinLaw) hisR ?_
  intro p e s m args below meth c s₁ Bd hml0 hP hK
  obtain ⟨rfl, hZ, hh⟩ := hP
  have hx := Bd.exec
  have hby := Bd.bytes
  have hml : c.maxLocals = 9 := hml0
  have hlk := Bd.notSynchronized
  have hown : s.vm.findClass "com/example/fivestone/fivestone/rules/BoardIsFullPinLaw" = some m.cls := findClass_of_methodNamed Bd.named
  have hnm := (name_of_methodNamed Bd.named Bd.method).1
  have X0 : Stand p l e ({ frames := 6, cells := 1, slots := 2, locals := 80 } : Room) s m #[(.ref bt), (.int (2 : Int32)), (.int pn), (.int bs), (.long px), (.int pk)] below meth c s₁ [] 0 0 := Stand.of_body Bd
  have e0 : s₁.heap = h0 := by rw [← hh, Bd.state]; rfl
  have N0 := Fr.nil n0
  have K0 : Keep h0 h0 [bt, ar] := Keep.refl _ _
  refine own_enter (Q := Qpu2 Z bt pn bs px pk ar ak oe ct zb zw h0 n0) (Ls := #[.val (.ref bt), .val (.int (2 : Int32)), .val (.int pn), .val (.int bs), .val (.long px), .second, .val (.int pk), .unset, .unset]) (by first | rfl | (simp [entryFrame, mkF, argsToLocals, Value.category]; done)) ?_
  refine own_iloadN X0 hx 1 rfl (hb hby own_d4_0) rfl ?_
  refine own_iloadN X0 hx 2 rfl (hb hby own_d4_1) rfl ?_
  by_cases hc2_1 : (2 : Int32) < pn
  · refine own_icmpN X0 hx 5 (hb hby own_d4_2) (tlt hc2_1).2.1 rfl ?_
    refine own_lload X0 hx 7 rfl (hb hby own_d4_5) rfl ?_
    refine own_bipush X0 hx 9 rfl (8 : Int32) (hb hby own_d4_7) (by decide) ?_
    refine own_iloadN X0 hx 10 rfl (hb hby own_d4_9) rfl ?_
    refine own_imul X0 hx 11 rfl (z := (16 : Int32)) (hb hby own_d4_10) (by decide) ?_
    refine own_lushr X0 hx 12 rfl (hb hby own_d4_11) rfl ?_
    refine Goes.go (X0.ldc2Long hx hown (mvT hZ (hw _ (List.mem_of_getElem? (i := 23) rfl))) (g := (mkF m 12 #[.val (.ref bt), .val (.int (2 : Int32)), .val (.int pn), .val (.int bs), .val (.long px), .second, .val (.int pk), .unset, .unset] [(.long ((px.toUInt64 >>> ((16 : Int32) &&& 0x3f).toInt64.toUInt64).toInt64))])) rfl (hb hby own_d4_12)) ?_
    show Goes p e below s _ _ _ s₁ (mkF m 15 #[.val (.ref bt), .val (.int (2 : Int32)), .val (.int pn), .val (.int bs), .val (.long px), .second, .val (.int pk), .unset, .unset] [(.long (255 : Int64)), (.long ((px.toUInt64 >>> ((16 : Int32) &&& 0x3f).toInt64.toUInt64).toInt64))])
    refine own_land X0 hx 16 rfl (hb hby own_d4_15) rfl ?_
    refine own_l2i X0 hx 17 rfl (hb hby own_d4_16) rfl ?_
    refine own_iloadN X0 hx 18 rfl (hb hby own_d4_17) rfl ?_
    obtain ⟨rr, h_rr⟩ : ∃ z, z = (((((px.toUInt64 >>> ((16 : Int32) &&& 0x3f).toInt64.toUInt64).toInt64) &&& (255 : Int64)).toInt32) % bs) := ⟨_, rfl⟩
    refine own_irem X0 hx 19 rfl (hb hby own_d4_18) (own_nz hs) h_rr.symm ?_
    have hrow := own_mask8 _ _ _ hs h_rr
    refine own_istore X0 hx 21 rfl #[.val (.ref bt), .val (.int (2 : Int32)), .val (.int pn), .val (.int bs), .val (.long px), .second, .val (.int pk), .val (.int rr), .unset] (hb hby own_d4_19) rfl ?_
    refine own_iload X0 hx 23 rfl (hb hby own_d4_21) rfl ?_
    refine own_iconst X0 hx 24 rfl (3 : Int32) (hb hby own_d4_23) (by decide) ?_
    refine own_iloadN X0 hx 25 rfl (hb hby own_d4_24) rfl ?_
    refine own_iadd X0 hx 26 rfl (z := (5 : Int32)) (hb hby own_d4_25) (by decide) ?_
    refine own_iushr X0 hx 27 rfl (hb hby own_d4_26) rfl ?_
    refine own_iconst X0 hx 28 rfl (1 : Int32) (hb hby own_d4_27) (by decide) ?_
    refine own_iand X0 hx 29 rfl (hb hby own_d4_28) rfl ?_
    have J41 : ∀ (T2 : State) (h2 : Heap) (L2 : List Loc) (so : Addr) (X2 : Stand p l e ({ frames := 6, cells := 1, slots := 2, locals := 80 } : Room) s m #[(.ref bt), (.int (2 : Int32)), (.int pn), (.int bs), (.long px), (.int pk)] below meth c T2 L2 0 0) (e2 : T2.heap = h2) (N2 : Fr n0 L2) (K2 : Keep h0 h2 [bt, ar]) (Z2 : n0 ≤ h2.size) (f2_0 : Exa Z h2 so "com/example/fivestone/fivestone/rules/Stone") (f2_1 : Exa Z h2 bt "com/example/fivestone/fivestone/rules/Board") (f2_2 : Fld Z h2 bt "com/example/fivestone/fivestone/rules/Board" "size" "I" (.int bs)) (f2_3 : Fld Z h2 bt "com/example/fivestone/fivestone/rules/Board" "stones" "[Lcom/example/fivestone/fivestone/rules/Stone;" (.ref ar)) (f2_4 : own_Row Z h2 ar ak bs (bs * bs) 2) (f2_5 : Sta Z h2 "java/util/Optional" "EMPTY" "Ljava/util/Optional;" (.ref oe)) (f2_6 : Exa Z h2 oe "java/util/Optional") (f2_7 : Fld Z h2 oe "java/util/Optional" "value" "Ljava/lang/Object;" .null) (f2_8 : Sta Z h2 "com/example/fivestone/fivestone/rules/Stone" "BLACK" "Lcom/example/fivestone/fivestone/rules/Stone;" (.ref zb)) (f2_9 : Sta Z h2 "com/example/fivestone/fivestone/rules/Stone" "WHITE" "Lcom/example/fivestone/fivestone/rules/Stone;" (.ref zw)) (f2_10 : Exa Z h2 zb "com/example/fivestone/fivestone/rules/Stone") (f2_11 : Exa Z h2 zw "com/example/fivestone/fivestone/rules/Stone") (f2_12 : Fld Z h2 bt "com/example/fivestone/fivestone/rules/Board" "count" "I" (.int ct)), Goes p e below s ({ frames := 6, cells := 1, slots := 2, locals := 80 } : Room).cells ({ frames := 6, cells := 1, slots := 2, locals := 80 } : Room).slots (Qpu2 Z bt pn bs px pk ar ak oe ct zb zw h0 n0) T2 (mkF m 41 #[.val (.ref bt), .val (.int (2 : Int32)), .val (.int pn), .val (.int bs), .val (.long px), .second, .val (.int pk), .val (.int rr), .unset] [(.ref so)]) := by
      intro T2 h2 L2 so X2 e2 N2 K2 Z2 f2_0 f2_1 f2_2 f2_3 f2_4 f2_5 f2_6 f2_7 f2_8 f2_9 f2_10 f2_11 f2_12
      refine own_astore X2 hx 43 rfl #[.val (.ref bt), .val (.int (2 : Int32)), .val (.int pn), .val (.int bs), .val (.long px), .second, .val (.int pk), .val (.int rr), .val (.ref so)] (hb hby own_d4_41) rfl rfl ?_
      refine own_aloadN X2 hx 44 rfl (hb hby own_d4_43) rfl rfl ?_
      obtain ⟨T3, h3, X3, e3, E3, A3, D3, -, st3⟩ := newO X2 hx hZ hown (hw _ (List.mem_of_getElem? (i := 27) rfl)) (hw _ (List.mem_of_getElem? (i := 28) rfl)) (hw _ (List.mem_of_getElem? (i := 29) rfl)) e2 (g := (mkF m 44 #[.val (.ref bt), .val (.int (2 : Int32)), .val (.int pn), .val (.int bs), .val (.long px), .second, .val (.int pk), .val (.int rr), .val (.ref so)] [(.ref bt)])) rfl (hb hby own_d4_44) (by decide) (by decide)
      obtain ⟨b3, g3⟩ : ∃ z, z = h2.size := ⟨_, rfl⟩
      rw [← g3] at A3 D3 st3
      have ne4 : so ≠ b3 := own_lt_ne f2_0.lt g3
      have ne5 : bt ≠ b3 := own_lt_ne f2_1.lt g3
      have ne6 : ar ≠ b3 := own_lt_ne f2_4.lt g3
      have ne7 : oe ≠ b3 := own_lt_ne f2_6.lt g3
      have ne8 : zb ≠ b3 := own_lt_ne f2_10.lt g3
      have ne9 : zw ≠ b3 := own_lt_ne f2_11.lt g3
      have G3 : n0 ≤ b3 := Nat.le_trans Z2 (Nat.le_of_eq g3.symm)
      have H3 : h0.size ≤ b3 := Nat.le_trans K2.1 (Nat.le_of_eq g3.symm)
      have f10 := f2_0.ext E3
      have f11 := f2_1.ext E3
      have f12 := f2_2.ext E3
      have f13 := f2_3.ext E3
      have f14 := f2_4.ext E3
      have f15 := f2_5.ext E3
      have f16 := f2_6.ext E3
      have f17 := f2_7.ext E3
      have f18 := f2_8.ext E3
      have f19 := f2_9.ext E3
      have f20 := f2_10.ext E3
      have f21 := f2_11.ext E3
      have f22 := f2_12.ext E3
      have K3 := K2.ext E3
      have Z3 := Nat.le_trans Z2 E3.1
      have f23 : Fld Z h3 b3 "com/example/fivestone/fivestone/rules/Point" "column" "I" (.int (0 : Int32)) := D3 (Or.inr (hw _ (List.mem_of_getElem? (i := 40) rfl))) (ty := .int) (by decide)
      have f24 : Fld Z h3 b3 "com/example/fivestone/fivestone/rules/Point" "row" "I" (.int (0 : Int32)) := D3 (Or.inr (hw _ (List.mem_of_getElem? (i := 42) rfl))) (ty := .int) (by decide)
      refine Goes.go st3 ?_
      show Goes p e below s _ _ _ T3 (mkF m 47 #[.val (.ref bt), .val (.int (2 : Int32)), .val (.int pn), .val (.int bs), .val (.long px), .second, .val (.int pk), .val (.int rr), .val (.ref so)] [(.ref b3), (.ref bt)])
      refine own_dup X3 hx 48 rfl (hb hby own_d4_47) rfl ?_
      refine own_iloadN X3 hx 49 rfl (hb hby own_d4_48) rfl ?_
      refine own_iload X3 hx 51 rfl (hb hby own_d4_49) rfl ?_
      obtain ⟨_, _, ⟨T25, L25, k25, n25⟩, -, X25, ⟨Lc25, hQ25, l25, y25, z25⟩, st25⟩ := X3.specialBack hx (y := (⟨"com/example/fivestone/fivestone/rules/Point", "<init>", "(II)V"⟩ : MethodName)) rfl hown (mvT hZ (hw _ (List.mem_of_getElem? (i := 30) rfl))) (mvT hZ (hw _ (List.mem_of_getElem? (i := 31) rfl))) (mvT hZ (hw _ (List.mem_of_getElem? (i := 32) rfl))) (by decide) (backOf (W := 2) (rm5 l Z a0 hw [] b3 (2 : Int32) rr h3 n0 Z3 A3 f23 f24 G3) hZ (hw _ (List.mem_of_getElem? (i := 32) rfl)) (hw _ (List.mem_of_getElem? (i := 29) rfl)) (by decide) (by decide)) (g := (mkF m 51 #[.val (.ref bt), .val (.int (2 : Int32)), .val (.int pn), .val (.int bs), .val (.long px), .second, .val (.int pk), .val (.int rr), .val (.ref so)] [(.int rr), (.int (2 : Int32)), (.ref b3), (.ref b3), (.ref bt)])) rfl (by rw [hml]; rfl) (Steps.refl _) (a := b3) (argsL := [(.int (2 : Int32)), (.int rr)]) (rest := [(.ref b3), (.ref bt)]) (lenOf own_pd9 rfl) rfl (by show 2 * 0 + _ ≤ _; exact Nat.le_of_eq rfl) (hb hby own_d4_51) (fun _ _ => ⟨rfl, e3, (by decide : 1 + 0 ≤ _), (by decide : 2 + 0 ≤ _)⟩)
      dsimp only [Pt.U, Pt.locs, Pt.cells, Pt.slots] at X25 l25 y25 z25 st25 hQ25
      subst l25 y25 z25
      obtain ⟨rfl, N25q, K25q, f25_0, f25_1⟩ := hQ25
      have N25 := Fr.app N2 N25q
      have f26 := f10.keep K25q
      have f27 := f11.keep K25q
      have f28 := f12.keep K25q (ninS ne5 nin0)
      have f29 := f13.keep K25q (ninS ne5 nin0)
      have f30 := f14.keep K25q (ninS ne6 nin0)
      have f31 := own_sta_keep f15 K25q (allS (own_eplain A3) all0)
      have f32 := f16.keep K25q
      have f33 := f17.keep K25q (ninS ne7 nin0)
      have f34 := own_sta_keep f18 K25q (allS (own_eplain A3) all0)
      have f35 := own_sta_keep f19 K25q (allS (own_eplain A3) all0)
      have f36 := f20.keep K25q
      have f37 := f21.keep K25q
      have f38 := f22.keep K25q (ninS ne5 nin0)
      have f39 := A3.keep K25q
      have K25 := K3.trans K25q (allS (Or.inr H3) all0)
      have Z25 := Nat.le_trans Z3 K25q.1
      refine Goes.tr st25 ?_
      show Goes p e below s _ _ _ T25 (mkF m 54 #[.val (.ref bt), .val (.int (2 : Int32)), .val (.int pn), .val (.int bs), .val (.long px), .second, .val (.int pk), .val (.int rr), .val (.ref so)] [(.ref b3), (.ref bt)])
      refine own_aload X25 hx 56 rfl (hb hby own_d4_54) rfl rfl ?_
      obtain ⟨cq40, kq40, q40a, q40b, q40c⟩ := isOf hZ rfl f27
      obtain ⟨_, _, ⟨T40, L40, k40, n40⟩, -, X40, ⟨Lc40, hQ40, l40, y40, z40⟩, st40⟩ := X25.virtualBack hx (y := (⟨"com/example/fivestone/fivestone/rules/Board", "place", "(Lcom/example/fivestone/fivestone/rules/Point;Lcom/example/fivestone/fivestone/rules/Stone;)V"⟩ : MethodName)) (z := (⟨"com/example/fivestone/fivestone/rules/Board", "place", "(Lcom/example/fivestone/fivestone/rules/Point;Lcom/example/fivestone/fivestone/rules/Stone;)V"⟩ : MethodName)) hown (mvT hZ (hw _ (List.mem_of_getElem? (i := 43) rfl))) (mvT hZ (hw _ (List.mem_of_getElem? (i := 44) rfl))) (notFace_of_selects (args := #[]) (mvT hZ (hw _ (List.mem_of_getElem? (i := 46) rfl)))) (mvT hZ (hw _ (List.mem_of_getElem? (i := 46) rfl))) (mvT hZ (hw _ (List.mem_of_getElem? (i := 45) rfl))) (by decide) (backOf (W := 0) (rm7 l Z a0 hw [] bt b3 so (2 : Int32) rr bs ar ak 2 oe ct T25.heap n0 Z25 f39 f25_0 f25_1 f27 f28 f29 f30 hs ⟨by decide, by have := hs.1; show (2 : Int) < _; omega⟩ hrow (by decide) f31 f32 f33 f26 hov f38 gb ga nba ne5 ne6 nbo nao) hZ (hw _ (List.mem_of_getElem? (i := 47) rfl)) (hw _ (List.mem_of_getElem? (i := 3) rfl)) (by decide) (by decide)) q40a q40c (g := (mkF m 56 #[.val (.ref bt), .val (.int (2 : Int32)), .val (.int pn), .val (.int bs), .val (.long px), .second, .val (.int pk), .val (.int rr), .val (.ref so)] [(.ref so), (.ref b3), (.ref bt)])) rfl (by rw [hml]; rfl) (Steps.refl _) (argsL := [(.ref b3), (.ref so)]) (rest := []) (lenOf own_pd10 rfl) rfl (by show 2 * 0 + _ ≤ _; exact Nat.le_of_eq rfl) (hb hby own_d4_56) (fun _ _ => ⟨rfl, rfl, (by decide : 1 + 0 ≤ _), (by decide : 2 + 0 ≤ _)⟩)
      dsimp only [Pt.U, Pt.locs, Pt.cells, Pt.slots] at X40 l40 y40 z40 st40 hQ40
      subst l40 y40 z40
      obtain ⟨rfl, N40q, K40q, f40_0, f40_1, f40_2, f40_3⟩ := hQ40
      have N40 := Fr.app N25 N40q
      have f41 := f26.keep K40q
      have f42 := f27.keep K40q
      have f43 := own_sta_keep f31 K40q (allS (own_eplain f27) (allS f30.plain all0))
      have f44 := f32.keep K40q
      have f45 := f33.keep K40q (ninS (Ne.symm nbo) (ninS (Ne.symm nao) nin0))
      have f46 := own_sta_keep f34 K40q (allS (own_eplain f27) (allS f30.plain all0))
      have f47 := own_sta_keep f35 K40q (allS (own_eplain f27) (allS f30.plain all0))
      have f48 := f36.keep K40q
      have f49 := f37.keep K40q
      have f50 := f39.keep K40q
      have f51 := f25_0.keep K40q (ninS (Ne.symm ne5) (ninS (Ne.symm ne6) nin0))
      have f52 := f25_1.keep K40q (ninS (Ne.symm ne5) (ninS (Ne.symm ne6) nin0))
      have K40 := K25.trans K40q (allS (Or.inl (List.mem_of_getElem? (i := 0) rfl)) (allS (Or.inl (List.mem_of_getElem? (i := 1) rfl)) all0))
      have Z40 := Nat.le_trans Z25 K40q.1
      refine Goes.tr st40 ?_
      show Goes p e below s _ _ _ T40 (mkF m 59 #[.val (.ref bt), .val (.int (2 : Int32)), .val (.int pn), .val (.int bs), .val (.long px), .second, .val (.int pk), .val (.int rr), .val (.ref so)] [])
      refine own_retV X40 hx hlk Bd.returns (hb hby own_d4_59) (by decide) (by decide) rfl ?_
      exact ⟨(ct + (1 : Int32)), rfl, N40, K40, f40_0, f40_1, f40_2, f40_3, own_inc _ hct (by decide)⟩
    by_cases hc29_53 : (((pk.toUInt32 >>> ((5 : Int32) &&& 31).toUInt32).toInt32) &&& (1 : Int32)) = (0 : Int32)
    · refine own_ifY X0 hx 38 (hb hby own_d4_29) ((if0 _ _).trans (teq hc29_53).1) (by decide) (by decide) ?_
      obtain ⟨T54, X54, e54, st54⟩ := getS2 X0 hx hZ hown (host := "") (Or.inl (hw _ (List.mem_of_getElem? (i := 24) rfl))) Via.refl e0 Sb (g := (mkF m 38 #[.val (.ref bt), .val (.int (2 : Int32)), .val (.int pn), .val (.int bs), .val (.long px), .second, .val (.int pk), .val (.int rr), .unset] [])) rfl (hb hby own_d4_38)
      refine Goes.go st54 ?_
      show Goes p e below s _ _ _ T54 (mkF m 41 #[.val (.ref bt), .val (.int (2 : Int32)), .val (.int pn), .val (.int bs), .val (.long px), .second, .val (.int pk), .val (.int rr), .unset] [(.ref zb)])
      exact J41 T54 h0 _ (zb)  X54 e54 N0 K0 Z0 Ezb EB Fs Ft VR Se Eo Fo Sb Sw Ezb Ezw Fn
    · refine own_ifN X0 hx 32 (hb hby own_d4_29) ((if0 _ _).trans (feq hc29_53).1) rfl ?_
      obtain ⟨T55, X55, e55, st55⟩ := getS2 X0 hx hZ hown (host := "") (Or.inl (hw _ (List.mem_of_getElem? (i := 97) rfl))) Via.refl e0 Sw (g := (mkF m 32 #[.val (.ref bt), .val (.int (2 : Int32)), .val (.int pn), .val (.int bs), .val (.long px), .second, .val (.int pk), .val (.int rr), .unset] [])) rfl (hb hby own_d4_32)
      refine Goes.go st55 ?_
      show Goes p e below s _ _ _ T55 (mkF m 35 #[.val (.ref bt), .val (.int (2 : Int32)), .val (.int pn), .val (.int bs), .val (.long px), .second, .val (.int pk), .val (.int rr), .unset] [(.ref zw)])
      refine own_goto X55 hx 41 (hb hby own_d4_35) (by decide) (by decide) ?_
      exact J41 T55 h0 _ (zw)  X55 e55 N0 K0 Z0 Ezw EB Fs Ft VR Se Eo Fo Sb Sw Ezb Ezw Fn
  · refine own_icmpY X0 hx 59 (hb hby own_d4_2) (flt hc2_1).2.1 (by decide) (by decide) ?_
    refine own_retV X0 hx hlk Bd.returns (hb hby own_d4_59) (by decide) (by decide) e0 ?_
    exact ⟨ct, rfl, N0, K0, Fs, Ft, Fn, VR.mono, ⟨hct.1, by omega⟩⟩
def Qpu3 (Z : State) (bt : Addr) (pn : Int32) (bs : Int32) (px : Int64) (pk : Int32) (ar : Addr) (ak : ClassId) (oe : Addr) (ct : Int32) (zb : Addr) (zw : Addr) (h0 : Heap) (n0 : Nat) (v : Option Value) (h : Heap) (L : List Loc) : Prop := ∃ cu : Int32, v = none ∧ Fr n0 L ∧ Keep h0 h [bt, ar] ∧ Fld Z h bt "com/example/fivestone/fivestone/rules/Board" "size" "I" (.int bs) ∧ Fld Z h bt "com/example/fivestone/fivestone/rules/Board" "stones" "[Lcom/example/fivestone/fivestone/rules/Stone;" (.ref ar) ∧ Fld Z h bt "com/example/fivestone/fivestone/rules/Board" "count" "I" (.int cu) ∧ own_Row Z h ar ak bs (bs * bs) 4 ∧ (0 ≤ cu.toInt ∧ cu.toInt ≤ 4)
set_option maxRecDepth 65536 in
set_option maxHeartbeats 40000000 in
theorem rmpu3 (l : Launch) (Z : State) (a0 : Array Value) (hw : ∀ d ∈ tables_1, d.before a0 Z = true) (ws : List Jvm.Cond) (bt : Addr) (pn : Int32) (bs : Int32) (px : Int64) (pk : Int32) (ar : Addr) (ak : ClassId) (oe : Addr) (ct : Int32) (zb : Addr) (zw : Addr) (h0 : Heap) (n0 : Nat) (Z0 : n0 ≤ h0.size) (EB : Exa Z h0 bt "com/example/fivestone/fivestone/rules/Board") (Fs : Fld Z h0 bt "com/example/fivestone/fivestone/rules/Board" "size" "I" (.int bs)) (Ft : Fld Z h0 bt "com/example/fivestone/fivestone/rules/Board" "stones" "[Lcom/example/fivestone/fivestone/rules/Stone;" (.ref ar)) (VR : own_Row Z h0 ar ak bs (bs * bs) 3) (hs : 5 ≤ bs.toInt ∧ bs.toInt ≤ 22) (Se : Sta Z h0 "java/util/Optional" "EMPTY" "Ljava/util/Optional;" (.ref oe)) (Eo : Exa Z h0 oe "java/util/Optional") (Fo : Fld Z h0 oe "java/util/Optional" "value" "Ljava/lang/Object;" .null) (Sb : Sta Z h0 "com/example/fivestone/fivestone/rules/Stone" "BLACK" "Lcom/example/fivestone/fivestone/rules/Stone;" (.ref zb)) (Sw : Sta Z h0 "com/example/fivestone/fivestone/rules/Stone" "WHITE" "Lcom/example/fivestone/fivestone/rules/Stone;" (.ref zw)) (Ezb : Exa Z h0 zb "com/example/fivestone/fivestone/rules/Stone") (Ezw : Exa Z h0 zw "com/example/fivestone/fivestone/rules/Stone") (hov : Ovr Z ak "com/example/fivestone/fivestone/rules/Stone") (Fn : Fld Z h0 bt "com/example/fivestone/fivestone/rules/Board" "count" "I" (.int ct)) (gb : n0 ≤ bt) (ga : n0 ≤ ar) (nba : bt ≠ ar) (nbo : bt ≠ oe) (nao : ar ≠ oe) (hct : 0 ≤ ct.toInt ∧ ct.toInt ≤ 3) :
    MetFree l (⟨"com/example/fivestone/fivestone/rules/BoardIsFullPinLaw", "put", "(Lcom/example/fivestone/fivestone/rules/Board;IIIJI)V"⟩ : MethodName) (head1 (Jvm.Cond.code (⟨"com/example/fivestone/fivestone/rules/BoardIsFullPinLaw", "put", "(Lcom/example/fivestone/fivestone/rules/Board;IIIJI)V"⟩ : MethodName) method_3_code 9 none :: ws) ({ frames := 6, cells := 1, slots := 2, locals := 80 } : Room)) (fun a U => a = #[(.ref bt), (.int (3 : Int32)), (.int pn), (.int bs), (.long px), (.int pk)] ∧ Z.Warmed39 U.vm ∧ U.heap = h0) (fun _ _ _ _ _ => True) (fun _ U o U' => ∃ v L, o = .returned v ∧ Qpu3 Z bt pn bs px pk ar ak oe ct zb zw h0 n0 v U'.heap L ∧ FrameEnd U o U' L ({ frames := 6, cells := 1, slots := 2, locals := 80 } : Room).cells ({ frames := 6, cells := 1, slots := 2, locals := 80 } : Room).slots) := by
  refine MetFree.of_bodySF (plainFor_of_name own_pn_com_example_fivestone_fivestone_rules_BoardIsFullPinLaw) hisR ?_
  intro p e s m args below meth c s₁ Bd hml0 hP hK
  obtain ⟨rfl, hZ, hh⟩ := hP
  have hx := Bd.exec
  have hby := Bd.bytes
  have hml : c.maxLocals = 9 := hml0
  have hlk := Bd.notSynchronized
  have hown : s.vm.findClass "com/example/fivestone/fivestone/rules/BoardIsFullPinLaw" = some m.cls := findClass_of_methodNamed Bd.named
  have hnm := (name_of_methodNamed Bd.named Bd.method).1
  have X0 : Stand p l e ({ frames := 6, cells := 1, slots := 2, locals := 80 } : Room) s m #[(.ref bt), (.int (3 : Int32)), (.int pn), (.int bs), (.long px), (.int pk)] below meth c s₁ [] 0 0 := Stand.of_body Bd
  have e0 : s₁.heap = h0 := by rw [← hh, Bd.state]; rfl
  have N0 := Fr.nil n0
  have K0 : Keep h0 h0 [bt, ar] := Keep.refl _ _
  refine own_enter (Q := Qpu3 Z bt pn bs px pk ar ak oe ct zb zw h0 n0) (Ls := #[.val (.ref bt), .val (.int (3 : Int32)), .val (.int pn), .val (.int bs), .val (.long px), .second, .val (.int pk), .unset, .unset]) (by first | rfl | (simp [entryFrame, mkF, argsToLocals, Value.category]; done)) ?_
  refine own_iloadN X0 hx 1 rfl (hb hby own_d4_0) rfl ?_
  refine own_iloadN X0 hx 2 rfl (hb hby own_d4_1) rfl ?_
  by_cases hc2_1 : (3 : Int32) < pn
  · refine own_icmpN X0 hx 5 (hb hby own_d4_2) (tlt hc2_1).2.1 rfl ?_
    refine own_lload X0 hx 7 rfl (hb hby own_d4_5) rfl ?_
    refine own_bipush X0 hx 9 rfl (8 : Int32) (hb hby own_d4_7) (by decide) ?_
    refine own_iloadN X0 hx 10 rfl (hb hby own_d4_9) rfl ?_
    refine own_imul X0 hx 11 rfl (z := (24 : Int32)) (hb hby own_d4_10) (by decide) ?_
    refine own_lushr X0 hx 12 rfl (hb hby own_d4_11) rfl ?_
    refine Goes.go (X0.ldc2Long hx hown (mvT hZ (hw _ (List.mem_of_getElem? (i := 23) rfl))) (g := (mkF m 12 #[.val (.ref bt), .val (.int (3 : Int32)), .val (.int pn), .val (.int bs), .val (.long px), .second, .val (.int pk), .unset, .unset] [(.long ((px.toUInt64 >>> ((24 : Int32) &&& 0x3f).toInt64.toUInt64).toInt64))])) rfl (hb hby own_d4_12)) ?_
    show Goes p e below s _ _ _ s₁ (mkF m 15 #[.val (.ref bt), .val (.int (3 : Int32)), .val (.int pn), .val (.int bs), .val (.long px), .second, .val (.int pk), .unset, .unset] [(.long (255 : Int64)), (.long ((px.toUInt64 >>> ((24 : Int32) &&& 0x3f).toInt64.toUInt64).toInt64))])
    refine own_land X0 hx 16 rfl (hb hby own_d4_15) rfl ?_
    refine own_l2i X0 hx 17 rfl (hb hby own_d4_16) rfl ?_
    refine own_iloadN X0 hx 18 rfl (hb hby own_d4_17) rfl ?_
    obtain ⟨rr, h_rr⟩ : ∃ z, z = (((((px.toUInt64 >>> ((24 : Int32) &&& 0x3f).toInt64.toUInt64).toInt64) &&& (255 : Int64)).toInt32) % bs) := ⟨_, rfl⟩
    refine own_irem X0 hx 19 rfl (hb hby own_d4_18) (own_nz hs) h_rr.symm ?_
    have hrow := own_mask8 _ _ _ hs h_rr
    refine own_istore X0 hx 21 rfl #[.val (.ref bt), .val (.int (3 : Int32)), .val (.int pn), .val (.int bs), .val (.long px), .second, .val (.int pk), .val (.int rr), .unset] (hb hby own_d4_19) rfl ?_
    refine own_iload X0 hx 23 rfl (hb hby own_d4_21) rfl ?_
    refine own_iconst X0 hx 24 rfl (3 : Int32) (hb hby own_d4_23) (by decide) ?_
    refine own_iloadN X0 hx 25 rfl (hb hby own_d4_24) rfl ?_
    refine own_iadd X0 hx 26 rfl (z := (6 : Int32)) (hb hby own_d4_25) (by decide) ?_
    refine own_iushr X0 hx 27 rfl (hb hby own_d4_26) rfl ?_
    refine own_iconst X0 hx 28 rfl (1 : Int32) (hb hby own_d4_27) (by decide) ?_
    refine own_iand X0 hx 29 rfl (hb hby own_d4_28) rfl ?_
    have J41 : ∀ (T2 : State) (h2 : Heap) (L2 : List Loc) (so : Addr) (X2 : Stand p l e ({ frames := 6, cells := 1, slots := 2, locals := 80 } : Room) s m #[(.ref bt), (.int (3 : Int32)), (.int pn), (.int bs), (.long px), (.int pk)] below meth c T2 L2 0 0) (e2 : T2.heap = h2) (N2 : Fr n0 L2) (K2 : Keep h0 h2 [bt, ar]) (Z2 : n0 ≤ h2.size) (f2_0 : Exa Z h2 so "com/example/fivestone/fivestone/rules/Stone") (f2_1 : Exa Z h2 bt "com/example/fivestone/fivestone/rules/Board") (f2_2 : Fld Z h2 bt "com/example/fivestone/fivestone/rules/Board" "size" "I" (.int bs)) (f2_3 : Fld Z h2 bt "com/example/fivestone/fivestone/rules/Board" "stones" "[Lcom/example/fivestone/fivestone/rules/Stone;" (.ref ar)) (f2_4 : own_Row Z h2 ar ak bs (bs * bs) 3) (f2_5 : Sta Z h2 "java/util/Optional" "EMPTY" "Ljava/util/Optional;" (.ref oe)) (f2_6 : Exa Z h2 oe "java/util/Optional") (f2_7 : Fld Z h2 oe "java/util/Optional" "value" "Ljava/lang/Object;" .null) (f2_8 : Sta Z h2 "com/example/fivestone/fivestone/rules/Stone" "BLACK" "Lcom/example/fivestone/fivestone/rules/Stone;" (.ref zb)) (f2_9 : Sta Z h2 "com/example/fivestone/fivestone/rules/Stone" "WHITE" "Lcom/example/fivestone/fivestone/rules/Stone;" (.ref zw)) (f2_10 : Exa Z h2 zb "com/example/fivestone/fivestone/rules/Stone") (f2_11 : Exa Z h2 zw "com/example/fivestone/fivestone/rules/Stone") (f2_12 : Fld Z h2 bt "com/example/fivestone/fivestone/rules/Board" "count" "I" (.int ct)), Goes p e below s ({ frames := 6, cells := 1, slots := 2, locals := 80 } : Room).cells ({ frames := 6, cells := 1, slots := 2, locals := 80 } : Room).slots (Qpu3 Z bt pn bs px pk ar ak oe ct zb zw h0 n0) T2 (mkF m 41 #[.val (.ref bt), .val (.int (3 : Int32)), .val (.int pn), .val (.int bs), .val (.long px), .second, .val (.int pk), .val (.int rr), .unset] [(.ref so)]) := by
      intro T2 h2 L2 so X2 e2 N2 K2 Z2 f2_0 f2_1 f2_2 f2_3 f2_4 f2_5 f2_6 f2_7 f2_8 f2_9 f2_10 f2_11 f2_12
      refine own_astore X2 hx 43 rfl #[.val (.ref bt), .val (.int (3 : Int32)), .val (.int pn), .val (.int bs), .val (.long px), .second, .val (.int pk), .val (.int rr), .val (.ref so)] (hb hby own_d4_41) rfl rfl ?_
      refine own_aloadN X2 hx 44 rfl (hb hby own_d4_43) rfl rfl ?_
      obtain ⟨T3, h3, X3, e3, E3, A3, D3, -, st3⟩ := newO X2 hx hZ hown (hw _ (List.mem_of_getElem? (i := 27) rfl)) (hw _ (List.mem_of_getElem? (i := 28) rfl)) (hw _ (List.mem_of_getElem? (i := 29) rfl)) e2 (g := (mkF m 44 #[.val (.ref bt), .val (.int (3 : Int32)), .val (.int pn), .val (.int bs), .val (.long px), .second, .val (.int pk), .val (.int rr), .val (.ref so)] [(.ref bt)])) rfl (hb hby own_d4_44) (by decide) (by decide)
      obtain ⟨b3, g3⟩ : ∃ z, z = h2.size := ⟨_, rfl⟩
      rw [← g3] at A3 D3 st3
      have ne4 : so ≠ b3 := own_lt_ne f2_0.lt g3
      have ne5 : bt ≠ b3 := own_lt_ne f2_1.lt g3
      have ne6 : ar ≠ b3 := own_lt_ne f2_4.lt g3
      have ne7 : oe ≠ b3 := own_lt_ne f2_6.lt g3
      have ne8 : zb ≠ b3 := own_lt_ne f2_10.lt g3
      have ne9 : zw ≠ b3 := own_lt_ne f2_11.lt g3
      have G3 : n0 ≤ b3 := Nat.le_trans Z2 (Nat.le_of_eq g3.symm)
      have H3 : h0.size ≤ b3 := Nat.le_trans K2.1 (Nat.le_of_eq g3.symm)
      have f10 := f2_0.ext E3
      have f11 := f2_1.ext E3
      have f12 := f2_2.ext E3
      have f13 := f2_3.ext E3
      have f14 := f2_4.ext E3
      have f15 := f2_5.ext E3
      have f16 := f2_6.ext E3
      have f17 := f2_7.ext E3
      have f18 := f2_8.ext E3
      have f19 := f2_9.ext E3
      have f20 := f2_10.ext E3
      have f21 := f2_11.ext E3
      have f22 := f2_12.ext E3
      have K3 := K2.ext E3
      have Z3 := Nat.le_trans Z2 E3.1
      have f23 : Fld Z h3 b3 "com/example/fivestone/fivestone/rules/Point" "column" "I" (.int (0 : Int32)) := D3 (Or.inr (hw _ (List.mem_of_getElem? (i := 40) rfl))) (ty := .int) (by decide)
      have f24 : Fld Z h3 b3 "com/example/fivestone/fivestone/rules/Point" "row" "I" (.int (0 : Int32)) := D3 (Or.inr (hw _ (List.mem_of_getElem? (i := 42) rfl))) (ty := .int) (by decide)
      refine Goes.go st3 ?_
      show Goes p e below s _ _ _ T3 (mkF m 47 #[.val (.ref bt), .val (.int (3 : Int32)), .val (.int pn), .val (.int bs), .val (.long px), .second, .val (.int pk), .val (.int rr), .val (.ref so)] [(.ref b3), (.ref bt)])
      refine own_dup X3 hx 48 rfl (hb hby own_d4_47) rfl ?_
      refine own_iloadN X3 hx 49 rfl (hb hby own_d4_48) rfl ?_
      refine own_iload X3 hx 51 rfl (hb hby own_d4_49) rfl ?_
      obtain ⟨_, _, ⟨T25, L25, k25, n25⟩, -, X25, ⟨Lc25, hQ25, l25, y25, z25⟩, st25⟩ := X3.specialBack hx (y := (⟨"com/example/fivestone/fivestone/rules/Point", "<init>", "(II)V"⟩ : MethodName)) rfl hown (mvT hZ (hw _ (List.mem_of_getElem? (i := 30) rfl))) (mvT hZ (hw _ (List.mem_of_getElem? (i := 31) rfl))) (mvT hZ (hw _ (List.mem_of_getElem? (i := 32) rfl))) (by decide) (backOf (W := 2) (rm5 l Z a0 hw [] b3 (3 : Int32) rr h3 n0 Z3 A3 f23 f24 G3) hZ (hw _ (List.mem_of_getElem? (i := 32) rfl)) (hw _ (List.mem_of_getElem? (i := 29) rfl)) (by decide) (by decide)) (g := (mkF m 51 #[.val (.ref bt), .val (.int (3 : Int32)), .val (.int pn), .val (.int bs), .val (.long px), .second, .val (.int pk), .val (.int rr), .val (.ref so)] [(.int rr), (.int (3 : Int32)), (.ref b3), (.ref b3), (.ref bt)])) rfl (by rw [hml]; rfl) (Steps.refl _) (a := b3) (argsL := [(.int (3 : Int32)), (.int rr)]) (rest := [(.ref b3), (.ref bt)]) (lenOf own_pd9 rfl) rfl (by show 2 * 0 + _ ≤ _; exact Nat.le_of_eq rfl) (hb hby own_d4_51) (fun _ _ => ⟨rfl, e3, (by decide : 1 + 0 ≤ _), (by decide : 2 + 0 ≤ _)⟩)
      dsimp only [Pt.U, Pt.locs, Pt.cells, Pt.slots] at X25 l25 y25 z25 st25 hQ25
      subst l25 y25 z25
      obtain ⟨rfl, N25q, K25q, f25_0, f25_1⟩ := hQ25
      have N25 := Fr.app N2 N25q
      have f26 := f10.keep K25q
      have f27 := f11.keep K25q
      have f28 := f12.keep K25q (ninS ne5 nin0)
      have f29 := f13.keep K25q (ninS ne5 nin0)
      have f30 := f14.keep K25q (ninS ne6 nin0)
      have f31 := own_sta_keep f15 K25q (allS (own_eplain A3) all0)
      have f32 := f16.keep K25q
      have f33 := f17.keep K25q (ninS ne7 nin0)
      have f34 := own_sta_keep f18 K25q (allS (own_eplain A3) all0)
      have f35 := own_sta_keep f19 K25q (allS (own_eplain A3) all0)
      have f36 := f20.keep K25q
      have f37 := f21.keep K25q
      have f38 := f22.keep K25q (ninS ne5 nin0)
      have f39 := A3.keep K25q
      have K25 := K3.trans K25q (allS (Or.inr H3) all0)
      have Z25 := Nat.le_trans Z3 K25q.1
      refine Goes.tr st25 ?_
      show Goes p e below s _ _ _ T25 (mkF m 54 #[.val (.ref bt), .val (.int (3 : Int32)), .val (.int pn), .val (.int bs), .val (.long px), .second, .val (.int pk), .val (.int rr), .val (.ref so)] [(.ref b3), (.ref bt)])
      refine own_aload X25 hx 56 rfl (hb hby own_d4_54) rfl rfl ?_
      obtain ⟨cq40, kq40, q40a, q40b, q40c⟩ := isOf hZ rfl f27
      obtain ⟨_, _, ⟨T40, L40, k40, n40⟩, -, X40, ⟨Lc40, hQ40, l40, y40, z40⟩, st40⟩ := X25.virtualBack hx (y := (⟨"com/example/fivestone/fivestone/rules/Board", "place", "(Lcom/example/fivestone/fivestone/rules/Point;Lcom/example/fivestone/fivestone/rules/Stone;)V"⟩ : MethodName)) (z := (⟨"com/example/fivestone/fivestone/rules/Board", "place", "(Lcom/example/fivestone/fivestone/rules/Point;Lcom/example/fivestone/fivestone/rules/Stone;)V"⟩ : MethodName)) hown (mvT hZ (hw _ (List.mem_of_getElem? (i := 43) rfl))) (mvT hZ (hw _ (List.mem_of_getElem? (i := 44) rfl))) (notFace_of_selects (args := #[]) (mvT hZ (hw _ (List.mem_of_getElem? (i := 46) rfl)))) (mvT hZ (hw _ (List.mem_of_getElem? (i := 46) rfl))) (mvT hZ (hw _ (List.mem_of_getElem? (i := 45) rfl))) (by decide) (backOf (W := 0) (rm7 l Z a0 hw [] bt b3 so (3 : Int32) rr bs ar ak 3 oe ct T25.heap n0 Z25 f39 f25_0 f25_1 f27 f28 f29 f30 hs ⟨by decide, by have := hs.1; show (3 : Int) < _; omega⟩ hrow (by decide) f31 f32 f33 f26 hov f38 gb ga nba ne5 ne6 nbo nao) hZ (hw _ (List.mem_of_getElem? (i := 47) rfl)) (hw _ (List.mem_of_getElem? (i := 3) rfl)) (by decide) (by decide)) q40a q40c (g := (mkF m 56 #[.val (.ref bt), .val (.int (3 : Int32)), .val (.int pn), .val (.int bs), .val (.long px), .second, .val (.int pk), .val (.int rr), .val (.ref so)] [(.ref so), (.ref b3), (.ref bt)])) rfl (by rw [hml]; rfl) (Steps.refl _) (argsL := [(.ref b3), (.ref so)]) (rest := []) (lenOf own_pd10 rfl) rfl (by show 2 * 0 + _ ≤ _; exact Nat.le_of_eq rfl) (hb hby own_d4_56) (fun _ _ => ⟨rfl, rfl, (by decide : 1 + 0 ≤ _), (by decide : 2 + 0 ≤ _)⟩)
      dsimp only [Pt.U, Pt.locs, Pt.cells, Pt.slots] at X40 l40 y40 z40 st40 hQ40
      subst l40 y40 z40
      obtain ⟨rfl, N40q, K40q, f40_0, f40_1, f40_2, f40_3⟩ := hQ40
      have N40 := Fr.app N25 N40q
      have f41 := f26.keep K40q
      have f42 := f27.keep K40q
      have f43 := own_sta_keep f31 K40q (allS (own_eplain f27) (allS f30.plain all0))
      have f44 := f32.keep K40q
      have f45 := f33.keep K40q (ninS (Ne.symm nbo) (ninS (Ne.symm nao) nin0))
      have f46 := own_sta_keep f34 K40q (allS (own_eplain f27) (allS f30.plain all0))
      have f47 := own_sta_keep f35 K40q (allS (own_eplain f27) (allS f30.plain all0))
      have f48 := f36.keep K40q
      have f49 := f37.keep K40q
      have f50 := f39.keep K40q
      have f51 := f25_0.keep K40q (ninS (Ne.symm ne5) (ninS (Ne.symm ne6) nin0))
      have f52 := f25_1.keep K40q (ninS (Ne.symm ne5) (ninS (Ne.symm ne6) nin0))
      have K40 := K25.trans K40q (allS (Or.inl (List.mem_of_getElem? (i := 0) rfl)) (allS (Or.inl (List.mem_of_getElem? (i := 1) rfl)) all0))
      have Z40 := Nat.le_trans Z25 K40q.1
      refine Goes.tr st40 ?_
      show Goes p e below s _ _ _ T40 (mkF m 59 #[.val (.ref bt), .val (.int (3 : Int32)), .val (.int pn), .val (.int bs), .val (.long px), .second, .val (.int pk), .val (.int rr), .val (.ref so)] [])
      refine own_retV X40 hx hlk Bd.returns (hb hby own_d4_59) (by decide) (by decide) rfl ?_
      exact ⟨(ct + (1 : Int32)), rfl, N40, K40, f40_0, f40_1, f40_2, f40_3, own_inc _ hct (by decide)⟩
    by_cases hc29_53 : (((pk.toUInt32 >>> ((6 : Int32) &&& 31).toUInt32).toInt32) &&& (1 : Int32)) = (0 : Int32)
    · refine own_ifY X0 hx 38 (hb hby own_d4_29) ((if0 _ _).trans (teq hc29_53).1) (by decide) (by decide) ?_
      obtain ⟨T54, X54, e54, st54⟩ := getS2 X0 hx hZ hown (host := "") (Or.inl (hw _ (List.mem_of_getElem? (i := 24) rfl))) Via.refl e0 Sb (g := (mkF m 38 #[.val (.ref bt), .val (.int (3 : Int32)), .val (.int pn), .val (.int bs), .val (.long px), .second, .val (.int pk), .val (.int rr), .unset] [])) rfl (hb hby own_d4_38)
      refine Goes.go st54 ?_
      show Goes p e below s _ _ _ T54 (mkF m 41 #[.val (.ref bt), .val (.int (3 : Int32)), .val (.int pn), .val (.int bs), .val (.long px), .second, .val (.int pk), .val (.int rr), .unset] [(.ref zb)])
      exact J41 T54 h0 _ (zb)  X54 e54 N0 K0 Z0 Ezb EB Fs Ft VR Se Eo Fo Sb Sw Ezb Ezw Fn
    · refine own_ifN X0 hx 32 (hb hby own_d4_29) ((if0 _ _).trans (feq hc29_53).1) rfl ?_
      obtain ⟨T55, X55, e55, st55⟩ := getS2 X0 hx hZ hown (host := "") (Or.inl (hw _ (List.mem_of_getElem? (i := 97) rfl))) Via.refl e0 Sw (g := (mkF m 32 #[.val (.ref bt), .val (.int (3 : Int32)), .val (.int pn), .val (.int bs), .val (.long px), .second, .val (.int pk), .val (.int rr), .unset] [])) rfl (hb hby own_d4_32)
      refine Goes.go st55 ?_
      show Goes p e below s _ _ _ T55 (mkF m 35 #[.val (.ref bt), .val (.int (3 : Int32)), .val (.int pn), .val (.int bs), .val (.long px), .second, .val (.int pk), .val (.int rr), .unset] [(.ref zw)])
      refine own_goto X55 hx 41 (hb hby own_d4_35) (by decide) (by decide) ?_
      exact J41 T55 h0 _ (zw)  X55 e55 N0 K0 Z0 Ezw EB Fs Ft VR Se Eo Fo Sb Sw Ezb Ezw Fn
  · refine own_icmpY X0 hx 59 (hb hby own_d4_2) (flt hc2_1).2.1 (by decide) (by decide) ?_
    refine own_retV X0 hx hlk Bd.returns (hb hby own_d4_59) (by decide) (by decide) e0 ?_
    exact ⟨ct, rfl, N0, K0, Fs, Ft, Fn, VR.mono, ⟨hct.1, by omega⟩⟩
def Qpu4 (Z : State) (bt : Addr) (pn : Int32) (bs : Int32) (px : Int64) (pk : Int32) (ar : Addr) (ak : ClassId) (oe : Addr) (ct : Int32) (zb : Addr) (zw : Addr) (h0 : Heap) (n0 : Nat) (v : Option Value) (h : Heap) (L : List Loc) : Prop := ∃ cu : Int32, v = none ∧ Fr n0 L ∧ Keep h0 h [bt, ar] ∧ Fld Z h bt "com/example/fivestone/fivestone/rules/Board" "size" "I" (.int bs) ∧ Fld Z h bt "com/example/fivestone/fivestone/rules/Board" "stones" "[Lcom/example/fivestone/fivestone/rules/Stone;" (.ref ar) ∧ Fld Z h bt "com/example/fivestone/fivestone/rules/Board" "count" "I" (.int cu) ∧ own_Row Z h ar ak bs (bs * bs) 5 ∧ (0 ≤ cu.toInt ∧ cu.toInt ≤ 5)
set_option maxRecDepth 65536 in
set_option maxHeartbeats 40000000 in
theorem rmpu4 (l : Launch) (Z : State) (a0 : Array Value) (hw : ∀ d ∈ tables_1, d.before a0 Z = true) (ws : List Jvm.Cond) (bt : Addr) (pn : Int32) (bs : Int32) (px : Int64) (pk : Int32) (ar : Addr) (ak : ClassId) (oe : Addr) (ct : Int32) (zb : Addr) (zw : Addr) (h0 : Heap) (n0 : Nat) (Z0 : n0 ≤ h0.size) (EB : Exa Z h0 bt "com/example/fivestone/fivestone/rules/Board") (Fs : Fld Z h0 bt "com/example/fivestone/fivestone/rules/Board" "size" "I" (.int bs)) (Ft : Fld Z h0 bt "com/example/fivestone/fivestone/rules/Board" "stones" "[Lcom/example/fivestone/fivestone/rules/Stone;" (.ref ar)) (VR : own_Row Z h0 ar ak bs (bs * bs) 4) (hs : 5 ≤ bs.toInt ∧ bs.toInt ≤ 22) (Se : Sta Z h0 "java/util/Optional" "EMPTY" "Ljava/util/Optional;" (.ref oe)) (Eo : Exa Z h0 oe "java/util/Optional") (Fo : Fld Z h0 oe "java/util/Optional" "value" "Ljava/lang/Object;" .null) (Sb : Sta Z h0 "com/example/fivestone/fivestone/rules/Stone" "BLACK" "Lcom/example/fivestone/fivestone/rules/Stone;" (.ref zb)) (Sw : Sta Z h0 "com/example/fivestone/fivestone/rules/Stone" "WHITE" "Lcom/example/fivestone/fivestone/rules/Stone;" (.ref zw)) (Ezb : Exa Z h0 zb "com/example/fivestone/fivestone/rules/Stone") (Ezw : Exa Z h0 zw "com/example/fivestone/fivestone/rules/Stone") (hov : Ovr Z ak "com/example/fivestone/fivestone/rules/Stone") (Fn : Fld Z h0 bt "com/example/fivestone/fivestone/rules/Board" "count" "I" (.int ct)) (gb : n0 ≤ bt) (ga : n0 ≤ ar) (nba : bt ≠ ar) (nbo : bt ≠ oe) (nao : ar ≠ oe) (hct : 0 ≤ ct.toInt ∧ ct.toInt ≤ 4) :
    MetFree l (⟨"com/example/fivestone/fivestone/rules/BoardIsFullPinLaw", "put", "(Lcom/example/fivestone/fivestone/rules/Board;IIIJI)V"⟩ : MethodName) (head1 (Jvm.Cond.code (⟨"com/example/fivestone/fivestone/rules/BoardIsFullPinLaw", "put", "(Lcom/example/fivestone/fivestone/rules/Board;IIIJI)V"⟩ : MethodName) method_3_code 9 none :: ws) ({ frames := 6, cells := 1, slots := 2, locals := 80 } : Room)) (fun a U => a = #[(.ref bt), (.int (4 : Int32)), (.int pn), (.int bs), (.long px), (.int pk)] ∧ Z.Warmed39 U.vm ∧ U.heap = h0) (fun _ _ _ _ _ => True) (fun _ U o U' => ∃ v L, o = .returned v ∧ Qpu4 Z bt pn bs px pk ar ak oe ct zb zw h0 n0 v U'.heap L ∧ FrameEnd U o U' L ({ frames := 6, cells := 1, slots := 2, locals := 80 } : Room).cells ({ frames := 6, cells := 1, slots := 2, locals := 80 } : Room).slots) := by
  refine MetFree.of_bodySF (plainFor_of_name own_pn_com_example_fivestone_fivestone_rules_BoardIsFullPinLaw) hisR ?_
  intro p e s m args below meth c s₁ Bd hml0 hP hK
  obtain ⟨rfl, hZ, hh⟩ := hP
  have hx := Bd.exec
  have hby := Bd.bytes
  have hml : c.maxLocals = 9 := hml0
  have hlk := Bd.notSynchronized
  have hown : s.vm.findClass "com/example/fivestone/fivestone/rules/BoardIsFullPinLaw" = some m.cls := findClass_of_methodNamed Bd.named
  have hnm := (name_of_methodNamed Bd.named Bd.method).1
  have X0 : Stand p l e ({ frames := 6, cells := 1, slots := 2, locals := 80 } : Room) s m #[(.ref bt), (.int (4 : Int32)), (.int pn), (.int bs), (.long px), (.int pk)] below meth c s₁ [] 0 0 := Stand.of_body Bd
  have e0 : s₁.heap = h0 := by rw [← hh, Bd.state]; rfl
  have N0 := Fr.nil n0
  have K0 : Keep h0 h0 [bt, ar] := Keep.refl _ _
  refine own_enter (Q := Qpu4 Z bt pn bs px pk ar ak oe ct zb zw h0 n0) (Ls := #[.val (.ref bt), .val (.int (4 : Int32)), .val (.int pn), .val (.int bs), .val (.long px), .second, .val (.int pk), .unset, .unset]) (by first | rfl | (simp [entryFrame, mkF, argsToLocals, Value.category]; done)) ?_
  refine own_iloadN X0 hx 1 rfl (hb hby own_d4_0) rfl ?_
  refine own_iloadN X0 hx 2 rfl (hb hby own_d4_1) rfl ?_
  by_cases hc2_1 : (4 : Int32) < pn
  · refine own_icmpN X0 hx 5 (hb hby own_d4_2) (tlt hc2_1).2.1 rfl ?_
    refine own_lload X0 hx 7 rfl (hb hby own_d4_5) rfl ?_
    refine own_bipush X0 hx 9 rfl (8 : Int32) (hb hby own_d4_7) (by decide) ?_
    refine own_iloadN X0 hx 10 rfl (hb hby own_d4_9) rfl ?_
    refine own_imul X0 hx 11 rfl (z := (32 : Int32)) (hb hby own_d4_10) (by decide) ?_
    refine own_lushr X0 hx 12 rfl (hb hby own_d4_11) rfl ?_
    refine Goes.go (X0.ldc2Long hx hown (mvT hZ (hw _ (List.mem_of_getElem? (i := 23) rfl))) (g := (mkF m 12 #[.val (.ref bt), .val (.int (4 : Int32)), .val (.int pn), .val (.int bs), .val (.long px), .second, .val (.int pk), .unset, .unset] [(.long ((px.toUInt64 >>> ((32 : Int32) &&& 0x3f).toInt64.toUInt64).toInt64))])) rfl (hb hby own_d4_12)) ?_
    show Goes p e below s _ _ _ s₁ (mkF m 15 #[.val (.ref bt), .val (.int (4 : Int32)), .val (.int pn), .val (.int bs), .val (.long px), .second, .val (.int pk), .unset, .unset] [(.long (255 : Int64)), (.long ((px.toUInt64 >>> ((32 : Int32) &&& 0x3f).toInt64.toUInt64).toInt64))])
    refine own_land X0 hx 16 rfl (hb hby own_d4_15) rfl ?_
    refine own_l2i X0 hx 17 rfl (hb hby own_d4_16) rfl ?_
    refine own_iloadN X0 hx 18 rfl (hb hby own_d4_17) rfl ?_
    obtain ⟨rr, h_rr⟩ : ∃ z, z = (((((px.toUInt64 >>> ((32 : Int32) &&& 0x3f).toInt64.toUInt64).toInt64) &&& (255 : Int64)).toInt32) % bs) := ⟨_, rfl⟩
    refine own_irem X0 hx 19 rfl (hb hby own_d4_18) (own_nz hs) h_rr.symm ?_
    have hrow := own_mask8 _ _ _ hs h_rr
    refine own_istore X0 hx 21 rfl #[.val (.ref bt), .val (.int (4 : Int32)), .val (.int pn), .val (.int bs), .val (.long px), .second, .val (.int pk), .val (.int rr), .unset] (hb hby own_d4_19) rfl ?_
    refine own_iload X0 hx 23 rfl (hb hby own_d4_21) rfl ?_
    refine own_iconst X0 hx 24 rfl (3 : Int32) (hb hby own_d4_23) (by decide) ?_
    refine own_iloadN X0 hx 25 rfl (hb hby own_d4_24) rfl ?_
    refine own_iadd X0 hx 26 rfl (z := (7 : Int32)) (hb hby own_d4_25) (by decide) ?_
    refine own_iushr X0 hx 27 rfl (hb hby own_d4_26) rfl ?_
    refine own_iconst X0 hx 28 rfl (1 : Int32) (hb hby own_d4_27) (by decide) ?_
    refine own_iand X0 hx 29 rfl (hb hby own_d4_28) rfl ?_
    have J41 : ∀ (T2 : State) (h2 : Heap) (L2 : List Loc) (so : Addr) (X2 : Stand p l e ({ frames := 6, cells := 1, slots := 2, locals := 80 } : Room) s m #[(.ref bt), (.int (4 : Int32)), (.int pn), (.int bs), (.long px), (.int pk)] below meth c T2 L2 0 0) (e2 : T2.heap = h2) (N2 : Fr n0 L2) (K2 : Keep h0 h2 [bt, ar]) (Z2 : n0 ≤ h2.size) (f2_0 : Exa Z h2 so "com/example/fivestone/fivestone/rules/Stone") (f2_1 : Exa Z h2 bt "com/example/fivestone/fivestone/rules/Board") (f2_2 : Fld Z h2 bt "com/example/fivestone/fivestone/rules/Board" "size" "I" (.int bs)) (f2_3 : Fld Z h2 bt "com/example/fivestone/fivestone/rules/Board" "stones" "[Lcom/example/fivestone/fivestone/rules/Stone;" (.ref ar)) (f2_4 : own_Row Z h2 ar ak bs (bs * bs) 4) (f2_5 : Sta Z h2 "java/util/Optional" "EMPTY" "Ljava/util/Optional;" (.ref oe)) (f2_6 : Exa Z h2 oe "java/util/Optional") (f2_7 : Fld Z h2 oe "java/util/Optional" "value" "Ljava/lang/Object;" .null) (f2_8 : Sta Z h2 "com/example/fivestone/fivestone/rules/Stone" "BLACK" "Lcom/example/fivestone/fivestone/rules/Stone;" (.ref zb)) (f2_9 : Sta Z h2 "com/example/fivestone/fivestone/rules/Stone" "WHITE" "Lcom/example/fivestone/fivestone/rules/Stone;" (.ref zw)) (f2_10 : Exa Z h2 zb "com/example/fivestone/fivestone/rules/Stone") (f2_11 : Exa Z h2 zw "com/example/fivestone/fivestone/rules/Stone") (f2_12 : Fld Z h2 bt "com/example/fivestone/fivestone/rules/Board" "count" "I" (.int ct)), Goes p e below s ({ frames := 6, cells := 1, slots := 2, locals := 80 } : Room).cells ({ frames := 6, cells := 1, slots := 2, locals := 80 } : Room).slots (Qpu4 Z bt pn bs px pk ar ak oe ct zb zw h0 n0) T2 (mkF m 41 #[.val (.ref bt), .val (.int (4 : Int32)), .val (.int pn), .val (.int bs), .val (.long px), .second, .val (.int pk), .val (.int rr), .unset] [(.ref so)]) := by
      intro T2 h2 L2 so X2 e2 N2 K2 Z2 f2_0 f2_1 f2_2 f2_3 f2_4 f2_5 f2_6 f2_7 f2_8 f2_9 f2_10 f2_11 f2_12
      refine own_astore X2 hx 43 rfl #[.val (.ref bt), .val (.int (4 : Int32)), .val (.int pn), .val (.int bs), .val (.long px), .second, .val (.int pk), .val (.int rr), .val (.ref so)] (hb hby own_d4_41) rfl rfl ?_
      refine own_aloadN X2 hx 44 rfl (hb hby own_d4_43) rfl rfl ?_
      obtain ⟨T3, h3, X3, e3, E3, A3, D3, -, st3⟩ := newO X2 hx hZ hown (hw _ (List.mem_of_getElem? (i := 27) rfl)) (hw _ (List.mem_of_getElem? (i := 28) rfl)) (hw _ (List.mem_of_getElem? (i := 29) rfl)) e2 (g := (mkF m 44 #[.val (.ref bt), .val (.int (4 : Int32)), .val (.int pn), .val (.int bs), .val (.long px), .second, .val (.int pk), .val (.int rr), .val (.ref so)] [(.ref bt)])) rfl (hb hby own_d4_44) (by decide) (by decide)
      obtain ⟨b3, g3⟩ : ∃ z, z = h2.size := ⟨_, rfl⟩
      rw [← g3] at A3 D3 st3
      have ne4 : so ≠ b3 := own_lt_ne f2_0.lt g3
      have ne5 : bt ≠ b3 := own_lt_ne f2_1.lt g3
      have ne6 : ar ≠ b3 := own_lt_ne f2_4.lt g3
      have ne7 : oe ≠ b3 := own_lt_ne f2_6.lt g3
      have ne8 : zb ≠ b3 := own_lt_ne f2_10.lt g3
      have ne9 : zw ≠ b3 := own_lt_ne f2_11.lt g3
      have G3 : n0 ≤ b3 := Nat.le_trans Z2 (Nat.le_of_eq g3.symm)
      have H3 : h0.size ≤ b3 := Nat.le_trans K2.1 (Nat.le_of_eq g3.symm)
      have f10 := f2_0.ext E3
      have f11 := f2_1.ext E3
      have f12 := f2_2.ext E3
      have f13 := f2_3.ext E3
      have f14 := f2_4.ext E3
      have f15 := f2_5.ext E3
      have f16 := f2_6.ext E3
      have f17 := f2_7.ext E3
      have f18 := f2_8.ext E3
      have f19 := f2_9.ext E3
      have f20 := f2_10.ext E3
      have f21 := f2_11.ext E3
      have f22 := f2_12.ext E3
      have K3 := K2.ext E3
      have Z3 := Nat.le_trans Z2 E3.1
      have f23 : Fld Z h3 b3 "com/example/fivestone/fivestone/rules/Point" "column" "I" (.int (0 : Int32)) := D3 (Or.inr (hw _ (List.mem_of_getElem? (i := 40) rfl))) (ty := .int) (by decide)
      have f24 : Fld Z h3 b3 "com/example/fivestone/fivestone/rules/Point" "row" "I" (.int (0 : Int32)) := D3 (Or.inr (hw _ (List.mem_of_getElem? (i := 42) rfl))) (ty := .int) (by decide)
      refine Goes.go st3 ?_
      show Goes p e below s _ _ _ T3 (mkF m 47 #[.val (.ref bt), .val (.int (4 : Int32)), .val (.int pn), .val (.int bs), .val (.long px), .second, .val (.int pk), .val (.int rr), .val (.ref so)] [(.ref b3), (.ref bt)])
      refine own_dup X3 hx 48 rfl (hb hby own_d4_47) rfl ?_
      refine own_iloadN X3 hx 49 rfl (hb hby own_d4_48) rfl ?_
      refine own_iload X3 hx 51 rfl (hb hby own_d4_49) rfl ?_
      obtain ⟨_, _, ⟨T25, L25, k25, n25⟩, -, X25, ⟨Lc25, hQ25, l25, y25, z25⟩, st25⟩ := X3.specialBack hx (y := (⟨"com/example/fivestone/fivestone/rules/Point", "<init>", "(II)V"⟩ : MethodName)) rfl hown (mvT hZ (hw _ (List.mem_of_getElem? (i := 30) rfl))) (mvT hZ (hw _ (List.mem_of_getElem? (i := 31) rfl))) (mvT hZ (hw _ (List.mem_of_getElem? (i := 32) rfl))) (by decide) (backOf (W := 2) (rm5 l Z a0 hw [] b3 (4 : Int32) rr h3 n0 Z3 A3 f23 f24 G3) hZ (hw _ (List.mem_of_getElem? (i := 32) rfl)) (hw _ (List.mem_of_getElem? (i := 29) rfl)) (by decide) (by decide)) (g := (mkF m 51 #[.val (.ref bt), .val (.int (4 : Int32)), .val (.int pn), .val (.int bs), .val (.long px), .second, .val (.int pk), .val (.int rr), .val (.ref so)] [(.int rr), (.int (4 : Int32)), (.ref b3), (.ref b3), (.ref bt)])) rfl (by rw [hml]; rfl) (Steps.refl _) (a := b3) (argsL := [(.int (4 : Int32)), (.int rr)]) (rest := [(.ref b3), (.ref bt)]) (lenOf own_pd9 rfl) rfl (by show 2 * 0 + _ ≤ _; exact Nat.le_of_eq rfl) (hb hby own_d4_51) (fun _ _ => ⟨rfl, e3, (by decide : 1 + 0 ≤ _), (by decide : 2 + 0 ≤ _)⟩)
      dsimp only [Pt.U, Pt.locs, Pt.cells, Pt.slots] at X25 l25 y25 z25 st25 hQ25
      subst l25 y25 z25
      obtain ⟨rfl, N25q, K25q, f25_0, f25_1⟩ := hQ25
      have N25 := Fr.app N2 N25q
      have f26 := f10.keep K25q
      have f27 := f11.keep K25q
      have f28 := f12.keep K25q (ninS ne5 nin0)
      have f29 := f13.keep K25q (ninS ne5 nin0)
      have f30 := f14.keep K25q (ninS ne6 nin0)
      have f31 := own_sta_keep f15 K25q (allS (own_eplain A3) all0)
      have f32 := f16.keep K25q
      have f33 := f17.keep K25q (ninS ne7 nin0)
      have f34 := own_sta_keep f18 K25q (allS (own_eplain A3) all0)
      have f35 := own_sta_keep f19 K25q (allS (own_eplain A3) all0)
      have f36 := f20.keep K25q
      have f37 := f21.keep K25q
      have f38 := f22.keep K25q (ninS ne5 nin0)
      have f39 := A3.keep K25q
      have K25 := K3.trans K25q (allS (Or.inr H3) all0)
      have Z25 := Nat.le_trans Z3 K25q.1
      refine Goes.tr st25 ?_
      show Goes p e below s _ _ _ T25 (mkF m 54 #[.val (.ref bt), .val (.int (4 : Int32)), .val (.int pn), .val (.int bs), .val (.long px), .second, .val (.int pk), .val (.int rr), .val (.ref so)] [(.ref b3), (.ref bt)])
      refine own_aload X25 hx 56 rfl (hb hby own_d4_54) rfl rfl ?_
      obtain ⟨cq40, kq40, q40a, q40b, q40c⟩ := isOf hZ rfl f27
      obtain ⟨_, _, ⟨T40, L40, k40, n40⟩, -, X40, ⟨Lc40, hQ40, l40, y40, z40⟩, st40⟩ := X25.virtualBack hx (y := (⟨"com/example/fivestone/fivestone/rules/Board", "place", "(Lcom/example/fivestone/fivestone/rules/Point;Lcom/example/fivestone/fivestone/rules/Stone;)V"⟩ : MethodName)) (z := (⟨"com/example/fivestone/fivestone/rules/Board", "place", "(Lcom/example/fivestone/fivestone/rules/Point;Lcom/example/fivestone/fivestone/rules/Stone;)V"⟩ : MethodName)) hown (mvT hZ (hw _ (List.mem_of_getElem? (i := 43) rfl))) (mvT hZ (hw _ (List.mem_of_getElem? (i := 44) rfl))) (notFace_of_selects (args := #[]) (mvT hZ (hw _ (List.mem_of_getElem? (i := 46) rfl)))) (mvT hZ (hw _ (List.mem_of_getElem? (i := 46) rfl))) (mvT hZ (hw _ (List.mem_of_getElem? (i := 45) rfl))) (by decide) (backOf (W := 0) (rm7 l Z a0 hw [] bt b3 so (4 : Int32) rr bs ar ak 4 oe ct T25.heap n0 Z25 f39 f25_0 f25_1 f27 f28 f29 f30 hs ⟨by decide, by have := hs.1; show (4 : Int) < _; omega⟩ hrow (by decide) f31 f32 f33 f26 hov f38 gb ga nba ne5 ne6 nbo nao) hZ (hw _ (List.mem_of_getElem? (i := 47) rfl)) (hw _ (List.mem_of_getElem? (i := 3) rfl)) (by decide) (by decide)) q40a q40c (g := (mkF m 56 #[.val (.ref bt), .val (.int (4 : Int32)), .val (.int pn), .val (.int bs), .val (.long px), .second, .val (.int pk), .val (.int rr), .val (.ref so)] [(.ref so), (.ref b3), (.ref bt)])) rfl (by rw [hml]; rfl) (Steps.refl _) (argsL := [(.ref b3), (.ref so)]) (rest := []) (lenOf own_pd10 rfl) rfl (by show 2 * 0 + _ ≤ _; exact Nat.le_of_eq rfl) (hb hby own_d4_56) (fun _ _ => ⟨rfl, rfl, (by decide : 1 + 0 ≤ _), (by decide : 2 + 0 ≤ _)⟩)
      dsimp only [Pt.U, Pt.locs, Pt.cells, Pt.slots] at X40 l40 y40 z40 st40 hQ40
      subst l40 y40 z40
      obtain ⟨rfl, N40q, K40q, f40_0, f40_1, f40_2, f40_3⟩ := hQ40
      have N40 := Fr.app N25 N40q
      have f41 := f26.keep K40q
      have f42 := f27.keep K40q
      have f43 := own_sta_keep f31 K40q (allS (own_eplain f27) (allS f30.plain all0))
      have f44 := f32.keep K40q
      have f45 := f33.keep K40q (ninS (Ne.symm nbo) (ninS (Ne.symm nao) nin0))
      have f46 := own_sta_keep f34 K40q (allS (own_eplain f27) (allS f30.plain all0))
      have f47 := own_sta_keep f35 K40q (allS (own_eplain f27) (allS f30.plain all0))
      have f48 := f36.keep K40q
      have f49 := f37.keep K40q
      have f50 := f39.keep K40q
      have f51 := f25_0.keep K40q (ninS (Ne.symm ne5) (ninS (Ne.symm ne6) nin0))
      have f52 := f25_1.keep K40q (ninS (Ne.symm ne5) (ninS (Ne.symm ne6) nin0))
      have K40 := K25.trans K40q (allS (Or.inl (List.mem_of_getElem? (i := 0) rfl)) (allS (Or.inl (List.mem_of_getElem? (i := 1) rfl)) all0))
      have Z40 := Nat.le_trans Z25 K40q.1
      refine Goes.tr st40 ?_
      show Goes p e below s _ _ _ T40 (mkF m 59 #[.val (.ref bt), .val (.int (4 : Int32)), .val (.int pn), .val (.int bs), .val (.long px), .second, .val (.int pk), .val (.int rr), .val (.ref so)] [])
      refine own_retV X40 hx hlk Bd.returns (hb hby own_d4_59) (by decide) (by decide) rfl ?_
      exact ⟨(ct + (1 : Int32)), rfl, N40, K40, f40_0, f40_1, f40_2, f40_3, own_inc _ hct (by decide)⟩
    by_cases hc29_53 : (((pk.toUInt32 >>> ((7 : Int32) &&& 31).toUInt32).toInt32) &&& (1 : Int32)) = (0 : Int32)
    · refine own_ifY X0 hx 38 (hb hby own_d4_29) ((if0 _ _).trans (teq hc29_53).1) (by decide) (by decide) ?_
      obtain ⟨T54, X54, e54, st54⟩ := getS2 X0 hx hZ hown (host := "") (Or.inl (hw _ (List.mem_of_getElem? (i := 24) rfl))) Via.refl e0 Sb (g := (mkF m 38 #[.val (.ref bt), .val (.int (4 : Int32)), .val (.int pn), .val (.int bs), .val (.long px), .second, .val (.int pk), .val (.int rr), .unset] [])) rfl (hb hby own_d4_38)
      refine Goes.go st54 ?_
      show Goes p e below s _ _ _ T54 (mkF m 41 #[.val (.ref bt), .val (.int (4 : Int32)), .val (.int pn), .val (.int bs), .val (.long px), .second, .val (.int pk), .val (.int rr), .unset] [(.ref zb)])
      exact J41 T54 h0 _ (zb)  X54 e54 N0 K0 Z0 Ezb EB Fs Ft VR Se Eo Fo Sb Sw Ezb Ezw Fn
    · refine own_ifN X0 hx 32 (hb hby own_d4_29) ((if0 _ _).trans (feq hc29_53).1) rfl ?_
      obtain ⟨T55, X55, e55, st55⟩ := getS2 X0 hx hZ hown (host := "") (Or.inl (hw _ (List.mem_of_getElem? (i := 97) rfl))) Via.refl e0 Sw (g := (mkF m 32 #[.val (.ref bt), .val (.int (4 : Int32)), .val (.int pn), .val (.int bs), .val (.long px), .second, .val (.int pk), .val (.int rr), .unset] [])) rfl (hb hby own_d4_32)
      refine Goes.go st55 ?_
      show Goes p e below s _ _ _ T55 (mkF m 35 #[.val (.ref bt), .val (.int (4 : Int32)), .val (.int pn), .val (.int bs), .val (.long px), .second, .val (.int pk), .val (.int rr), .unset] [(.ref zw)])
      refine own_goto X55 hx 41 (hb hby own_d4_35) (by decide) (by decide) ?_
      exact J41 T55 h0 _ (zw)  X55 e55 N0 K0 Z0 Ezw EB Fs Ft VR Se Eo Fo Sb Sw Ezb Ezw Fn
  · refine own_icmpY X0 hx 59 (hb hby own_d4_2) (flt hc2_1).2.1 (by decide) (by decide) ?_
    refine own_retV X0 hx hlk Bd.returns (hb hby own_d4_59) (by decide) (by decide) e0 ?_
    exact ⟨ct, rfl, N0, K0, Fs, Ft, Fn, VR.mono, ⟨hct.1, by omega⟩⟩
theorem own_d16_0 : decode prog_19_method_14_code 0 = .ok (.aload_n 0, 1) := by decide +kernel
theorem own_d16_1 : decode prog_19_method_14_code 1 = .ok (.getfield 28, 3) := by decide +kernel
theorem own_d16_4 : decode prog_19_method_14_code 4 = .ok (.aload_n 0, 1) := by decide +kernel
theorem own_d16_5 : decode prog_19_method_14_code 5 = .ok (.getfield 19, 3) := by decide +kernel
theorem own_d16_8 : decode prog_19_method_14_code 8 = .ok (.arraylength, 1) := by decide +kernel
theorem own_d16_9 : decode prog_19_method_14_code 9 = .ok (.if_icmp .ne 7, 3) := by decide +kernel
theorem own_d16_16 : decode prog_19_method_14_code 16 = .ok (.iconst 0, 1) := by decide +kernel
theorem own_d16_17 : decode prog_19_method_14_code 17 = .ok (.ireturn, 1) := by decide +kernel
def Q16 (Z : State) (bt : Addr) (bs : Int32) (ct : Int32) (ar : Addr) (ak : ClassId) (kc : Nat) (h0 : Heap) (n0 : Nat) (v : Option Value) (h : Heap) (L : List Loc) : Prop := v = some (.int (0 : Int32)) ∧ Fr n0 L ∧ h = h0
set_option maxRecDepth 65536 in
set_option maxHeartbeats 40000000 in
theorem rm16 (l : Launch) (Z : State) (a0 : Array Value) (hw : ∀ d ∈ tables_1, d.before a0 Z = true) (ws : List Jvm.Cond) (bt : Addr) (bs : Int32) (ct : Int32) (ar : Addr) (ak : ClassId) (kc : Nat) (h0 : Heap) (n0 : Nat) (Z0 : n0 ≤ h0.size) (Ft : Fld Z h0 bt "com/example/fivestone/fivestone/rules/Board" "stones" "[Lcom/example/fivestone/fivestone/rules/Stone;" (.ref ar)) (VR : own_Row Z h0 ar ak bs (bs * bs) kc) (Fn : Fld Z h0 bt "com/example/fivestone/fivestone/rules/Board" "count" "I" (.int ct)) (hnf : ¬ (ct = (bs * bs))) :
    MetFree l (⟨"com/example/fivestone/fivestone/rules/Board", "isFull", "()Z"⟩ : MethodName) (head1 (Jvm.Cond.code (⟨"com/example/fivestone/fivestone/rules/Board", "isFull", "()Z"⟩ : MethodName) prog_19_method_14_code 1 (some .boolean) :: ws) ({ frames := 0, cells := 0, slots := 0, locals := 0 } : Room)) (fun a U => a = #[(.ref bt)] ∧ Z.Warmed39 U.vm ∧ U.heap = h0) (fun _ _ _ _ _ => True) (fun _ U o U' => ∃ v L, o = .returned v ∧ Q16 Z bt bs ct ar ak kc h0 n0 v U'.heap L ∧ FrameEnd U o U' L ({ frames := 0, cells := 0, slots := 0, locals := 0 } : Room).cells ({ frames := 0, cells := 0, slots := 0, locals := 0 } : Room).slots) := by
  refine MetFree.of_bodySF (plainFor_of_name own_pn_com_example_fivestone_fivestone_rules_Board) hisR ?_
  intro p e s m args below meth c s₁ Bd hml0 hP hK
  obtain ⟨rfl, hZ, hh⟩ := hP
  have hx := Bd.exec
  have hby := Bd.bytes
  have hml : c.maxLocals = 1 := hml0
  have hlk := Bd.notSynchronized
  have hown : s.vm.findClass "com/example/fivestone/fivestone/rules/Board" = some m.cls := findClass_of_methodNamed Bd.named
  have hnm := (name_of_methodNamed Bd.named Bd.method).1
  have X0 : Stand p l e ({ frames := 0, cells := 0, slots := 0, locals := 0 } : Room) s m #[(.ref bt)] below meth c s₁ [] 0 0 := Stand.of_body Bd
  have e0 : s₁.heap = h0 := by rw [← hh, Bd.state]; rfl
  have N0 := Fr.nil n0
  refine own_enter (Q := Q16 Z bt bs ct ar ak kc h0 n0) (Ls := #[.val (.ref bt)]) (by first | rfl | (simp [entryFrame, mkF, argsToLocals, Value.category]; done)) ?_
  refine own_aloadN X0 hx 1 rfl (hb hby own_d16_0) rfl rfl ?_
  obtain ⟨T1, X1, e1, st1⟩ := getF X0 hx hZ hown (host := "") (Or.inl (hw _ (List.mem_of_getElem? (i := 90) rfl))) Via.refl e0 Fn (g := (mkF m 1 #[.val (.ref bt)] [(.ref bt)])) rfl rfl (hb hby own_d16_1)
  refine Goes.go st1 ?_
  show Goes p e below s _ _ _ T1 (mkF m 4 #[.val (.ref bt)] [(.int ct)])
  refine own_aloadN X1 hx 5 rfl (hb hby own_d16_4) rfl rfl ?_
  obtain ⟨T2, X2, e2, st2⟩ := getF X1 hx hZ hown (host := "") (Or.inl (hw _ (List.mem_of_getElem? (i := 17) rfl))) Via.refl e1 Ft (g := (mkF m 5 #[.val (.ref bt)] [(.ref bt), (.int ct)])) rfl rfl (hb hby own_d16_5)
  refine Goes.go st2 ?_
  show Goes p e below s _ _ _ T2 (mkF m 8 #[.val (.ref bt)] [(.ref ar), (.int ct)])
  obtain ⟨cl3, Ar3, qq3, S3, NN3, RR3⟩ := VR
  refine Goes.go (X2.arraylength hx (by rw [e2]; exact Ar3.1) (State.isArrayOf_alike hZ.alike Ar3.2.1) (g := (mkF m 8 #[.val (.ref bt)] [(.ref ar), (.int ct)])) rfl rfl (hb hby own_d16_8)) ?_
  show Goes p e below s _ _ _ T2 (mkF m 9 #[.val (.ref bt)] [(.int (cl3.slots.size.toInt32)), (.int ct)])
  rw [len_of S3 NN3]
  refine own_icmpY X2 hx 16 (hb hby own_d16_9) (feq (hnf : ¬ (ct = (bs * bs)))).2 (by decide) (by decide) ?_
  refine own_iconst X2 hx 17 rfl (0 : Int32) (hb hby own_d16_16) (by decide) ?_
  refine own_retZ X2 hx hlk Bd.returns (by decide) (hb hby own_d16_17) (by decide) (by decide) e2 ?_
  exact ⟨rfl, N0, rfl⟩
theorem own_pd11 : parseMethodDescriptor "(Lcom/example/fivestone/fivestone/rules/Board;IIIJI)V" = some ⟨[(.object "com/example/fivestone/fivestone/rules/Board"), .int, .int, .int, .long, .int], none⟩ := by decide +kernel
def Q0 (Z : State) (x0 : Int32) (x1 : Int32) (x2 : Int64) (z_BLACK : Addr) (z_WHITE : Addr) (oe : Addr) (h0 : Heap) (n0 : Nat) (v : Option Value) (h : Heap) (L : List Loc) : Prop := v = some (.int 1) ∧ Fr n0 L
set_option maxRecDepth 65536 in
set_option maxHeartbeats 40000000 in
theorem rm0 (l : Launch) (Z : State) (a0 : Array Value) (hw : ∀ d ∈ tables_1, d.before a0 Z = true) (ws : List Jvm.Cond) (x0 : Int32) (x1 : Int32) (x2 : Int64) (z_BLACK : Addr) (z_WHITE : Addr) (oe : Addr) (h0 : Heap) (n0 : Nat) (Z0 : n0 ≤ h0.size) (S_z_BLACK : Sta Z h0 "com/example/fivestone/fivestone/rules/Stone" "BLACK" "Lcom/example/fivestone/fivestone/rules/Stone;" (.ref z_BLACK)) (E_z_BLACK : Exa Z h0 z_BLACK "com/example/fivestone/fivestone/rules/Stone") (S_z_WHITE : Sta Z h0 "com/example/fivestone/fivestone/rules/Stone" "WHITE" "Lcom/example/fivestone/fivestone/rules/Stone;" (.ref z_WHITE)) (E_z_WHITE : Exa Z h0 z_WHITE "com/example/fivestone/fivestone/rules/Stone") (S_oe : Sta Z h0 "java/util/Optional" "EMPTY" "Ljava/util/Optional;" (.ref oe)) (E_oe : Exa Z h0 oe "java/util/Optional") (F_oe : Fld Z h0 oe "java/util/Optional" "value" "Ljava/lang/Object;" .null) :
    MetFree l x (head1 (Jvm.Cond.code x code maxLocals ret :: ws) room_1) (fun a U => a = #[(.int x0), (.int x1), (.long x2)] ∧ Z.Warmed39 U.vm ∧ U.heap = h0) (fun _ _ _ _ _ => True) (fun _ U o U' => ∃ v L, o = .returned v ∧ Q0 Z x0 x1 x2 z_BLACK z_WHITE oe h0 n0 v U'.heap L ∧ FrameEnd U o U' L 7 497) := by
  refine MetFree.of_bodySF (plainFor_of_name own_pn_com_example_fivestone_fivestone_rules_BoardIsFullPinLaw) hisR ?_
  intro p e s m args below meth c s₁ Bd hml0 hP hK
  obtain ⟨rfl, hZ, hh⟩ := hP
  have hx := Bd.exec
  have hby := Bd.bytes
  have hml : c.maxLocals = 8 := hml0
  have hlk := Bd.notSynchronized
  have hown : s.vm.findClass "com/example/fivestone/fivestone/rules/BoardIsFullPinLaw" = some m.cls := findClass_of_methodNamed Bd.named
  have hnm := (name_of_methodNamed Bd.named Bd.method).1
  have X0 : Stand p l e room_1 s m #[(.int x0), (.int x1), (.long x2)] below meth c s₁ [] 0 0 := Stand.of_body Bd
  have e0 : s₁.heap = h0 := by rw [← hh, Bd.state]; rfl
  have N0 := Fr.nil n0
  have K0 : Keep h0 h0 [] := Keep.refl _ _
  refine own_enter (Q := Q0 Z x0 x1 x2 z_BLACK z_WHITE oe h0 n0) (Ls := #[.val (.int x0), .val (.int x1), .val (.long x2), .second, .unset, .unset, .unset, .unset]) (by first | rfl | (simp [entryFrame, mkF, argsToLocals, Value.category, maxLocals]; done)) ?_
  refine own_iconst X0 hx 1 rfl (5 : Int32) (hb hby at_0) (by decide) ?_
  refine own_iloadN X0 hx 2 rfl (hb hby at_1) rfl ?_
  refine Goes.go (X0.ldcInt hx hown (mvT hZ (hw _ (List.mem_of_getElem? (i := 0) rfl))) (g := (mkF m 2 #[.val (.int x0), .val (.int x1), .val (.long x2), .second, .unset, .unset, .unset, .unset] [(.int x0), (.int (5 : Int32))])) rfl (hb hby at_2)) ?_
  show Goes p e below s _ _ _ s₁ (mkF m 4 #[.val (.int x0), .val (.int x1), .val (.long x2), .second, .unset, .unset, .unset, .unset] [(.int (2147483647 : Int32)), (.int x0), (.int (5 : Int32))])
  refine own_iand X0 hx 5 rfl (hb hby at_4) rfl ?_
  refine own_bipush X0 hx 7 rfl (18 : Int32) (hb hby at_5) (by decide) ?_
  refine own_irem X0 hx 8 rfl (hb hby at_7) (by decide) rfl ?_
  obtain ⟨sz, h_sz⟩ : ∃ z, z = ((5 : Int32) + ((x0 &&& (2147483647 : Int32)) % (18 : Int32))) := ⟨_, rfl⟩
  refine own_iadd X0 hx 9 rfl (hb hby at_8) h_sz.symm ?_
  refine own_istore X0 hx 11 rfl #[.val (.int x0), .val (.int x1), .val (.long x2), .second, .val (.int sz), .unset, .unset, .unset] (hb hby at_9) rfl ?_
  have hs := own_size _ _ h_sz
  refine own_iloadN X0 hx 12 rfl (hb hby at_11) rfl ?_
  refine own_bipush X0 hx 14 rfl (7 : Int32) (hb hby at_12) (by decide) ?_
  refine own_iand X0 hx 15 rfl (hb hby at_14) rfl ?_
  refine own_bipush X0 hx 17 rfl (6 : Int32) (hb hby at_15) (by decide) ?_
  obtain ⟨nn, h_nn⟩ : ∃ z, z = ((x1 &&& (7 : Int32)) % (6 : Int32)) := ⟨_, rfl⟩
  refine own_irem X0 hx 18 rfl (hb hby at_17) (by decide) h_nn.symm ?_
  refine own_istore X0 hx 20 rfl #[.val (.int x0), .val (.int x1), .val (.long x2), .second, .val (.int sz), .val (.int nn), .unset, .unset] (hb hby at_18) rfl ?_
  have hn5 := own_n5 _ _ h_nn
  obtain ⟨T1, h1, X1, e1, E1, A1, D1, -, st1⟩ := newO X0 hx hZ hown (hw _ (List.mem_of_getElem? (i := 1) rfl)) (hw _ (List.mem_of_getElem? (i := 2) rfl)) (hw _ (List.mem_of_getElem? (i := 3) rfl)) e0 (g := (mkF m 20 #[.val (.int x0), .val (.int x1), .val (.long x2), .second, .val (.int sz), .val (.int nn), .unset, .unset] [])) rfl (hb hby at_20) (by decide) (by decide)
  obtain ⟨b1, g1⟩ : ∃ z, z = h0.size := ⟨_, rfl⟩
  rw [← g1] at A1 D1 st1
  have ne2 : z_BLACK ≠ b1 := own_lt_ne E_z_BLACK.lt g1
  have ne3 : z_WHITE ≠ b1 := own_lt_ne E_z_WHITE.lt g1
  have ne4 : oe ≠ b1 := own_lt_ne E_oe.lt g1
  have G1 : n0 ≤ b1 := Nat.le_trans Z0 (Nat.le_of_eq g1.symm)
  have H1 : h0.size ≤ b1 := Nat.le_trans K0.1 (Nat.le_of_eq g1.symm)
  have f5 := S_z_BLACK.ext E1
  have f6 := E_z_BLACK.ext E1
  have f7 := S_z_WHITE.ext E1
  have f8 := E_z_WHITE.ext E1
  have f9 := S_oe.ext E1
  have f10 := E_oe.ext E1
  have f11 := F_oe.ext E1
  have K1 := K0.ext E1
  have Z1 := Nat.le_trans Z0 E1.1
  have f12 : Fld Z h1 b1 "com/example/fivestone/fivestone/rules/Board" "size" "I" (.int (0 : Int32)) := D1 (Or.inr (hw _ (List.mem_of_getElem? (i := 14) rfl))) (ty := .int) (by decide)
  have f13 : Fld Z h1 b1 "com/example/fivestone/fivestone/rules/Board" "stones" "[Lcom/example/fivestone/fivestone/rules/Stone;" .null := D1 (Or.inr (hw _ (List.mem_of_getElem? (i := 18) rfl))) (ty := (.array (.object "com/example/fivestone/fivestone/rules/Stone"))) (by decide)
  have f14 : Fld Z h1 b1 "com/example/fivestone/fivestone/rules/Board" "count" "I" (.int (0 : Int32)) := D1 (Or.inl (hw _ (List.mem_of_getElem? (i := 91) rfl))) (ty := .int) (by decide)
  refine Goes.go st1 ?_
  show Goes p e below s _ _ _ T1 (mkF m 23 #[.val (.int x0), .val (.int x1), .val (.long x2), .second, .val (.int sz), .val (.int nn), .unset, .unset] [(.ref b1)])
  refine own_dup X1 hx 24 rfl (hb hby at_23) rfl ?_
  refine own_iload X1 hx 26 rfl (hb hby at_24) rfl ?_
  obtain ⟨_, _, ⟨T15, L15, k15, n15⟩, -, X15, ⟨Lc15, hQ15, l15, y15, z15⟩, st15⟩ := X1.specialBack hx (y := (⟨"com/example/fivestone/fivestone/rules/Board", "<init>", "(I)V"⟩ : MethodName)) rfl hown (mvT hZ (hw _ (List.mem_of_getElem? (i := 4) rfl))) (mvT hZ (hw _ (List.mem_of_getElem? (i := 5) rfl))) (mvT hZ (hw _ (List.mem_of_getElem? (i := 6) rfl))) (by decide) (backOf (W := 1) (rm1 l Z a0 hw [] b1 sz h1 n0 Z1 hs A1 G1 f12 f13 f14) hZ (hw _ (List.mem_of_getElem? (i := 6) rfl)) (hw _ (List.mem_of_getElem? (i := 3) rfl)) (by decide) (by decide)) (g := (mkF m 26 #[.val (.int x0), .val (.int x1), .val (.long x2), .second, .val (.int sz), .val (.int nn), .unset, .unset] [(.int sz), (.ref b1), (.ref b1)])) rfl (by rw [hml]; rfl) (Steps.refl _) (a := b1) (argsL := [(.int sz)]) (rest := [(.ref b1)]) (lenOf own_pd1 rfl) rfl (by show 2 * 0 + _ ≤ _; exact Nat.le_of_eq rfl) (hb hby at_26) (fun _ _ => ⟨rfl, e1, (by decide : 1 + 1 ≤ _), (by decide : 3 + 484 ≤ _)⟩)
  dsimp only [Pt.U, Pt.locs, Pt.cells, Pt.slots] at X15 l15 y15 z15 st15 hQ15
  subst l15 y15 z15
  obtain ⟨ar_15, ak_15, rfl, N15q, K15q, f15_0, f15_1, f15_2, f15_3, f15_4, pr15_0⟩ := hQ15
  have N15 := Fr.app N0 N15q
  have ne16 : z_BLACK ≠ ar_15 := Nat.ne_of_lt (Nat.lt_of_lt_of_le f6.lt f15_0)
  have ne17 : z_WHITE ≠ ar_15 := Nat.ne_of_lt (Nat.lt_of_lt_of_le f8.lt f15_0)
  have ne18 : oe ≠ ar_15 := Nat.ne_of_lt (Nat.lt_of_lt_of_le f10.lt f15_0)
  have ne19 : b1 ≠ ar_15 := Nat.ne_of_lt (Nat.lt_of_lt_of_le A1.lt f15_0)
  have GG20 : n0 ≤ ar_15 := Nat.le_trans Z1 f15_0
  have HG20 : h0.size ≤ ar_15 := Nat.le_trans K1.1 f15_0
  have f21 := own_sta_keep f5 K15q (allS (own_eplain A1) all0)
  have f22 := f6.keep K15q
  have f23 := own_sta_keep f7 K15q (allS (own_eplain A1) all0)
  have f24 := f8.keep K15q
  have f25 := own_sta_keep f9 K15q (allS (own_eplain A1) all0)
  have f26 := f10.keep K15q
  have f27 := f11.keep K15q (ninS ne4 nin0)
  have f28 := A1.keep K15q
  have K15 := K1.trans K15q (allS (Or.inr H1) all0)
  have Z15 := Nat.le_trans Z1 K15q.1
  refine Goes.tr st15 ?_
  show Goes p e below s _ _ _ T15 (mkF m 29 #[.val (.int x0), .val (.int x1), .val (.long x2), .second, .val (.int sz), .val (.int nn), .unset, .unset] [(.ref b1)])
  refine own_astore X15 hx 31 rfl #[.val (.int x0), .val (.int x1), .val (.long x2), .second, .val (.int sz), .val (.int nn), .val (.ref b1), .unset] (hb hby at_29) rfl rfl ?_
  refine own_aload X15 hx 33 rfl (hb hby at_31) rfl rfl ?_
  refine own_iconst X15 hx 34 rfl (0 : Int32) (hb hby at_33) (by decide) ?_
  refine own_iload X15 hx 36 rfl (hb hby at_34) rfl ?_
  refine own_iload X15 hx 38 rfl (hb hby at_36) rfl ?_
  refine own_lloadN X15 hx 39 rfl (hb hby at_38) rfl ?_
  refine own_iloadN X15 hx 40 rfl (hb hby at_39) rfl ?_
  obtain ⟨_, _, ⟨T29, L29, k29, n29⟩, -, X29, ⟨Lc29, hQ29, l29, y29, z29⟩, st29⟩ := Jvm.LawKit.callS X15 hx (y := (⟨"com/example/fivestone/fivestone/rules/BoardIsFullPinLaw", "put", "(Lcom/example/fivestone/fivestone/rules/Board;IIIJI)V"⟩ : MethodName)) hown (mvT hZ (hw _ (List.mem_of_getElem? (i := 19) rfl))) (mvT hZ (hw _ (List.mem_of_getElem? (i := 20) rfl))) (mvT hZ (hw _ (List.mem_of_getElem? (i := 21) rfl))) (mvT hZ (hw _ (List.mem_of_getElem? (i := 22) rfl))) (by decide) (backOf (W := 0) (rmpu0 l Z a0 hw [] b1 nn sz x2 x1 ar_15 ak_15 oe (0 : Int32) z_BLACK z_WHITE T15.heap n0 Z15 f28 f15_1 f15_2 f15_4 hs f25 f26 f27 f21 f23 f22 f24 pr15_0 f15_3 G1 GG20 ne19 (Ne.symm ne4) (Ne.symm ne18) ⟨by decide, by decide⟩) hZ (hw _ (List.mem_of_getElem? (i := 22) rfl)) (hw _ (List.mem_of_getElem? (i := 21) rfl)) (by decide) (by decide)) (g := (mkF m 40 #[.val (.int x0), .val (.int x1), .val (.long x2), .second, .val (.int sz), .val (.int nn), .val (.ref b1), .unset] [(.int x1), (.long x2), (.int sz), (.int nn), (.int (0 : Int32)), (.ref b1)])) rfl (by rw [hml]; rfl) (argsL := [(.ref b1), (.int (0 : Int32)), (.int nn), (.int sz), (.long x2), (.int x1)]) (rest := []) (lenOf own_pd11 rfl) rfl (by show 2 * 0 + _ ≤ _; exact Nat.le_of_eq rfl) (hb hby at_40) (fun _ _ => ⟨rfl, rfl, (by decide : 2 + 1 ≤ _), (by decide : 487 + 2 ≤ _)⟩)
  dsimp only [Pt.U, Pt.locs, Pt.cells, Pt.slots] at X29 l29 y29 z29 st29 hQ29
  subst l29 y29 z29
  obtain ⟨cu_29, rfl, N29q, K29q, f29_0, f29_1, f29_2, f29_3, pr29_0⟩ := hQ29
  have N29 := Fr.app N15 N29q
  have f30 := own_sta_keep f21 K29q (allS (own_eplain f28) (allS f15_4.plain all0))
  have f31 := f22.keep K29q
  have f32 := own_sta_keep f23 K29q (allS (own_eplain f28) (allS f15_4.plain all0))
  have f33 := f24.keep K29q
  have f34 := own_sta_keep f25 K29q (allS (own_eplain f28) (allS f15_4.plain all0))
  have f35 := f26.keep K29q
  have f36 := f27.keep K29q (ninS ne4 (ninS ne18 nin0))
  have f37 := f28.keep K29q
  have K29 := K15.trans K29q (allS (Or.inr H1) (allS (Or.inr HG20) all0))
  have Z29 := Nat.le_trans Z15 K29q.1
  refine Goes.go st29 ?_
  show Goes p e below s _ _ _ T29 (mkF m 43 #[.val (.int x0), .val (.int x1), .val (.long x2), .second, .val (.int sz), .val (.int nn), .val (.ref b1), .unset] [])
  refine own_aload X29 hx 45 rfl (hb hby at_43) rfl rfl ?_
  refine own_iconst X29 hx 46 rfl (1 : Int32) (hb hby at_45) (by decide) ?_
  refine own_iload X29 hx 48 rfl (hb hby at_46) rfl ?_
  refine own_iload X29 hx 50 rfl (hb hby at_48) rfl ?_
  refine own_lloadN X29 hx 51 rfl (hb hby at_50) rfl ?_
  refine own_iloadN X29 hx 52 rfl (hb hby at_51) rfl ?_
  obtain ⟨_, _, ⟨T38, L38, k38, n38⟩, -, X38, ⟨Lc38, hQ38, l38, y38, z38⟩, st38⟩ := Jvm.LawKit.callS X29 hx (y := (⟨"com/example/fivestone/fivestone/rules/BoardIsFullPinLaw", "put", "(Lcom/example/fivestone/fivestone/rules/Board;IIIJI)V"⟩ : MethodName)) hown (mvT hZ (hw _ (List.mem_of_getElem? (i := 19) rfl))) (mvT hZ (hw _ (List.mem_of_getElem? (i := 20) rfl))) (mvT hZ (hw _ (List.mem_of_getElem? (i := 21) rfl))) (mvT hZ (hw _ (List.mem_of_getElem? (i := 22) rfl))) (by decide) (backOf (W := 0) (rmpu1 l Z a0 hw [] b1 nn sz x2 x1 ar_15 ak_15 oe cu_29 z_BLACK z_WHITE T29.heap n0 Z29 f37 f29_0 f29_1 f29_3 hs f34 f35 f36 f30 f32 f31 f33 pr15_0 f29_2 G1 GG20 ne19 (Ne.symm ne4) (Ne.symm ne18) pr29_0) hZ (hw _ (List.mem_of_getElem? (i := 22) rfl)) (hw _ (List.mem_of_getElem? (i := 21) rfl)) (by decide) (by decide)) (g := (mkF m 52 #[.val (.int x0), .val (.int x1), .val (.long x2), .second, .val (.int sz), .val (.int nn), .val (.ref b1), .unset] [(.int x1), (.long x2), (.int sz), (.int nn), (.int (1 : Int32)), (.ref b1)])) rfl (by rw [hml]; rfl) (argsL := [(.ref b1), (.int (1 : Int32)), (.int nn), (.int sz), (.long x2), (.int x1)]) (rest := []) (lenOf own_pd11 rfl) rfl (by show 2 * 0 + _ ≤ _; exact Nat.le_of_eq rfl) (hb hby at_52) (fun _ _ => ⟨rfl, rfl, (by decide : 3 + 1 ≤ _), (by decide : 489 + 2 ≤ _)⟩)
  dsimp only [Pt.U, Pt.locs, Pt.cells, Pt.slots] at X38 l38 y38 z38 st38 hQ38
  subst l38 y38 z38
  obtain ⟨cu_38, rfl, N38q, K38q, f38_0, f38_1, f38_2, f38_3, pr38_0⟩ := hQ38
  have N38 := Fr.app N29 N38q
  have f39 := own_sta_keep f30 K38q (allS (own_eplain f37) (allS f29_3.plain all0))
  have f40 := f31.keep K38q
  have f41 := own_sta_keep f32 K38q (allS (own_eplain f37) (allS f29_3.plain all0))
  have f42 := f33.keep K38q
  have f43 := own_sta_keep f34 K38q (allS (own_eplain f37) (allS f29_3.plain all0))
  have f44 := f35.keep K38q
  have f45 := f36.keep K38q (ninS ne4 (ninS ne18 nin0))
  have f46 := f37.keep K38q
  have K38 := K29.trans K38q (allS (Or.inr H1) (allS (Or.inr HG20) all0))
  have Z38 := Nat.le_trans Z29 K38q.1
  refine Goes.go st38 ?_
  show Goes p e below s _ _ _ T38 (mkF m 55 #[.val (.int x0), .val (.int x1), .val (.long x2), .second, .val (.int sz), .val (.int nn), .val (.ref b1), .unset] [])
  refine own_aload X38 hx 57 rfl (hb hby at_55) rfl rfl ?_
  refine own_iconst X38 hx 58 rfl (2 : Int32) (hb hby at_57) (by decide) ?_
  refine own_iload X38 hx 60 rfl (hb hby at_58) rfl ?_
  refine own_iload X38 hx 62 rfl (hb hby at_60) rfl ?_
  refine own_lloadN X38 hx 63 rfl (hb hby at_62) rfl ?_
  refine own_iloadN X38 hx 64 rfl (hb hby at_63) rfl ?_
  obtain ⟨_, _, ⟨T47, L47, k47, n47⟩, -, X47, ⟨Lc47, hQ47, l47, y47, z47⟩, st47⟩ := Jvm.LawKit.callS X38 hx (y := (⟨"com/example/fivestone/fivestone/rules/BoardIsFullPinLaw", "put", "(Lcom/example/fivestone/fivestone/rules/Board;IIIJI)V"⟩ : MethodName)) hown (mvT hZ (hw _ (List.mem_of_getElem? (i := 19) rfl))) (mvT hZ (hw _ (List.mem_of_getElem? (i := 20) rfl))) (mvT hZ (hw _ (List.mem_of_getElem? (i := 21) rfl))) (mvT hZ (hw _ (List.mem_of_getElem? (i := 22) rfl))) (by decide) (backOf (W := 0) (rmpu2 l Z a0 hw [] b1 nn sz x2 x1 ar_15 ak_15 oe cu_38 z_BLACK z_WHITE T38.heap n0 Z38 f46 f38_0 f38_1 f38_3 hs f43 f44 f45 f39 f41 f40 f42 pr15_0 f38_2 G1 GG20 ne19 (Ne.symm ne4) (Ne.symm ne18) pr38_0) hZ (hw _ (List.mem_of_getElem? (i := 22) rfl)) (hw _ (List.mem_of_getElem? (i := 21) rfl)) (by decide) (by decide)) (g := (mkF m 64 #[.val (.int x0), .val (.int x1), .val (.long x2), .second, .val (.int sz), .val (.int nn), .val (.ref b1), .unset] [(.int x1), (.long x2), (.int sz), (.int nn), (.int (2 : Int32)), (.ref b1)])) rfl (by rw [hml]; rfl) (argsL := [(.ref b1), (.int (2 : Int32)), (.int nn), (.int sz), (.long x2), (.int x1)]) (rest := []) (lenOf own_pd11 rfl) rfl (by show 2 * 0 + _ ≤ _; exact Nat.le_of_eq rfl) (hb hby at_64) (fun _ _ => ⟨rfl, rfl, (by decide : 4 + 1 ≤ _), (by decide : 491 + 2 ≤ _)⟩)
  dsimp only [Pt.U, Pt.locs, Pt.cells, Pt.slots] at X47 l47 y47 z47 st47 hQ47
  subst l47 y47 z47
  obtain ⟨cu_47, rfl, N47q, K47q, f47_0, f47_1, f47_2, f47_3, pr47_0⟩ := hQ47
  have N47 := Fr.app N38 N47q
  have f48 := own_sta_keep f39 K47q (allS (own_eplain f46) (allS f38_3.plain all0))
  have f49 := f40.keep K47q
  have f50 := own_sta_keep f41 K47q (allS (own_eplain f46) (allS f38_3.plain all0))
  have f51 := f42.keep K47q
  have f52 := own_sta_keep f43 K47q (allS (own_eplain f46) (allS f38_3.plain all0))
  have f53 := f44.keep K47q
  have f54 := f45.keep K47q (ninS ne4 (ninS ne18 nin0))
  have f55 := f46.keep K47q
  have K47 := K38.trans K47q (allS (Or.inr H1) (allS (Or.inr HG20) all0))
  have Z47 := Nat.le_trans Z38 K47q.1
  refine Goes.go st47 ?_
  show Goes p e below s _ _ _ T47 (mkF m 67 #[.val (.int x0), .val (.int x1), .val (.long x2), .second, .val (.int sz), .val (.int nn), .val (.ref b1), .unset] [])
  refine own_aload X47 hx 69 rfl (hb hby at_67) rfl rfl ?_
  refine own_iconst X47 hx 70 rfl (3 : Int32) (hb hby at_69) (by decide) ?_
  refine own_iload X47 hx 72 rfl (hb hby at_70) rfl ?_
  refine own_iload X47 hx 74 rfl (hb hby at_72) rfl ?_
  refine own_lloadN X47 hx 75 rfl (hb hby at_74) rfl ?_
  refine own_iloadN X47 hx 76 rfl (hb hby at_75) rfl ?_
  obtain ⟨_, _, ⟨T56, L56, k56, n56⟩, -, X56, ⟨Lc56, hQ56, l56, y56, z56⟩, st56⟩ := Jvm.LawKit.callS X47 hx (y := (⟨"com/example/fivestone/fivestone/rules/BoardIsFullPinLaw", "put", "(Lcom/example/fivestone/fivestone/rules/Board;IIIJI)V"⟩ : MethodName)) hown (mvT hZ (hw _ (List.mem_of_getElem? (i := 19) rfl))) (mvT hZ (hw _ (List.mem_of_getElem? (i := 20) rfl))) (mvT hZ (hw _ (List.mem_of_getElem? (i := 21) rfl))) (mvT hZ (hw _ (List.mem_of_getElem? (i := 22) rfl))) (by decide) (backOf (W := 0) (rmpu3 l Z a0 hw [] b1 nn sz x2 x1 ar_15 ak_15 oe cu_47 z_BLACK z_WHITE T47.heap n0 Z47 f55 f47_0 f47_1 f47_3 hs f52 f53 f54 f48 f50 f49 f51 pr15_0 f47_2 G1 GG20 ne19 (Ne.symm ne4) (Ne.symm ne18) pr47_0) hZ (hw _ (List.mem_of_getElem? (i := 22) rfl)) (hw _ (List.mem_of_getElem? (i := 21) rfl)) (by decide) (by decide)) (g := (mkF m 76 #[.val (.int x0), .val (.int x1), .val (.long x2), .second, .val (.int sz), .val (.int nn), .val (.ref b1), .unset] [(.int x1), (.long x2), (.int sz), (.int nn), (.int (3 : Int32)), (.ref b1)])) rfl (by rw [hml]; rfl) (argsL := [(.ref b1), (.int (3 : Int32)), (.int nn), (.int sz), (.long x2), (.int x1)]) (rest := []) (lenOf own_pd11 rfl) rfl (by show 2 * 0 + _ ≤ _; exact Nat.le_of_eq rfl) (hb hby at_76) (fun _ _ => ⟨rfl, rfl, (by decide : 5 + 1 ≤ _), (by decide : 493 + 2 ≤ _)⟩)
  dsimp only [Pt.U, Pt.locs, Pt.cells, Pt.slots] at X56 l56 y56 z56 st56 hQ56
  subst l56 y56 z56
  obtain ⟨cu_56, rfl, N56q, K56q, f56_0, f56_1, f56_2, f56_3, pr56_0⟩ := hQ56
  have N56 := Fr.app N47 N56q
  have f57 := own_sta_keep f48 K56q (allS (own_eplain f55) (allS f47_3.plain all0))
  have f58 := f49.keep K56q
  have f59 := own_sta_keep f50 K56q (allS (own_eplain f55) (allS f47_3.plain all0))
  have f60 := f51.keep K56q
  have f61 := own_sta_keep f52 K56q (allS (own_eplain f55) (allS f47_3.plain all0))
  have f62 := f53.keep K56q
  have f63 := f54.keep K56q (ninS ne4 (ninS ne18 nin0))
  have f64 := f55.keep K56q
  have K56 := K47.trans K56q (allS (Or.inr H1) (allS (Or.inr HG20) all0))
  have Z56 := Nat.le_trans Z47 K56q.1
  refine Goes.go st56 ?_
  show Goes p e below s _ _ _ T56 (mkF m 79 #[.val (.int x0), .val (.int x1), .val (.long x2), .second, .val (.int sz), .val (.int nn), .val (.ref b1), .unset] [])
  refine own_aload X56 hx 81 rfl (hb hby at_79) rfl rfl ?_
  refine own_iconst X56 hx 82 rfl (4 : Int32) (hb hby at_81) (by decide) ?_
  refine own_iload X56 hx 84 rfl (hb hby at_82) rfl ?_
  refine own_iload X56 hx 86 rfl (hb hby at_84) rfl ?_
  refine own_lloadN X56 hx 87 rfl (hb hby at_86) rfl ?_
  refine own_iloadN X56 hx 88 rfl (hb hby at_87) rfl ?_
  obtain ⟨_, _, ⟨T65, L65, k65, n65⟩, -, X65, ⟨Lc65, hQ65, l65, y65, z65⟩, st65⟩ := Jvm.LawKit.callS X56 hx (y := (⟨"com/example/fivestone/fivestone/rules/BoardIsFullPinLaw", "put", "(Lcom/example/fivestone/fivestone/rules/Board;IIIJI)V"⟩ : MethodName)) hown (mvT hZ (hw _ (List.mem_of_getElem? (i := 19) rfl))) (mvT hZ (hw _ (List.mem_of_getElem? (i := 20) rfl))) (mvT hZ (hw _ (List.mem_of_getElem? (i := 21) rfl))) (mvT hZ (hw _ (List.mem_of_getElem? (i := 22) rfl))) (by decide) (backOf (W := 0) (rmpu4 l Z a0 hw [] b1 nn sz x2 x1 ar_15 ak_15 oe cu_56 z_BLACK z_WHITE T56.heap n0 Z56 f64 f56_0 f56_1 f56_3 hs f61 f62 f63 f57 f59 f58 f60 pr15_0 f56_2 G1 GG20 ne19 (Ne.symm ne4) (Ne.symm ne18) pr56_0) hZ (hw _ (List.mem_of_getElem? (i := 22) rfl)) (hw _ (List.mem_of_getElem? (i := 21) rfl)) (by decide) (by decide)) (g := (mkF m 88 #[.val (.int x0), .val (.int x1), .val (.long x2), .second, .val (.int sz), .val (.int nn), .val (.ref b1), .unset] [(.int x1), (.long x2), (.int sz), (.int nn), (.int (4 : Int32)), (.ref b1)])) rfl (by rw [hml]; rfl) (argsL := [(.ref b1), (.int (4 : Int32)), (.int nn), (.int sz), (.long x2), (.int x1)]) (rest := []) (lenOf own_pd11 rfl) rfl (by show 2 * 0 + _ ≤ _; exact Nat.le_of_eq rfl) (hb hby at_88) (fun _ _ => ⟨rfl, rfl, (by decide : 6 + 1 ≤ _), (by decide : 495 + 2 ≤ _)⟩)
  dsimp only [Pt.U, Pt.locs, Pt.cells, Pt.slots] at X65 l65 y65 z65 st65 hQ65
  subst l65 y65 z65
  obtain ⟨cu_65, rfl, N65q, K65q, f65_0, f65_1, f65_2, f65_3, pr65_0⟩ := hQ65
  have N65 := Fr.app N56 N65q
  have f66 := own_sta_keep f57 K65q (allS (own_eplain f64) (allS f56_3.plain all0))
  have f67 := f58.keep K65q
  have f68 := own_sta_keep f59 K65q (allS (own_eplain f64) (allS f56_3.plain all0))
  have f69 := f60.keep K65q
  have f70 := own_sta_keep f61 K65q (allS (own_eplain f64) (allS f56_3.plain all0))
  have f71 := f62.keep K65q
  have f72 := f63.keep K65q (ninS ne4 (ninS ne18 nin0))
  have f73 := f64.keep K65q
  have K65 := K56.trans K65q (allS (Or.inr H1) (allS (Or.inr HG20) all0))
  have Z65 := Nat.le_trans Z56 K65q.1
  refine Goes.go st65 ?_
  show Goes p e below s _ _ _ T65 (mkF m 91 #[.val (.int x0), .val (.int x1), .val (.long x2), .second, .val (.int sz), .val (.int nn), .val (.ref b1), .unset] [])
  refine own_iload X65 hx 93 rfl (hb hby at_91) rfl ?_
  refine own_iload X65 hx 95 rfl (hb hby at_93) rfl ?_
  refine own_iload X65 hx 97 rfl (hb hby at_95) rfl ?_
  refine own_imul X65 hx 98 rfl (hb hby at_97) rfl ?_
  refine own_icmpY X65 hx 105 (hb hby at_98) (feq (own_not_full hs hn5 : ¬ (nn = (sz * sz)))).2 (by decide) (by decide) ?_
  refine own_iconst X65 hx 106 rfl (0 : Int32) (hb hby at_105) (by decide) ?_
  refine own_istore X65 hx 108 rfl #[.val (.int x0), .val (.int x1), .val (.long x2), .second, .val (.int sz), .val (.int nn), .val (.ref b1), .val (.int (0 : Int32))] (hb hby at_106) rfl ?_
  refine own_aload X65 hx 110 rfl (hb hby at_108) rfl rfl ?_
  obtain ⟨cq74, kq74, q74a, q74b, q74c⟩ := isOf hZ rfl f73
  obtain ⟨_, _, ⟨T74, L74, k74, n74⟩, -, X74, ⟨Lc74, hQ74, l74, y74, z74⟩, st74⟩ := X65.virtualBack hx (y := (⟨"com/example/fivestone/fivestone/rules/Board", "isFull", "()Z"⟩ : MethodName)) (z := (⟨"com/example/fivestone/fivestone/rules/Board", "isFull", "()Z"⟩ : MethodName)) hown (mvT hZ (hw _ (List.mem_of_getElem? (i := 92) rfl))) (mvT hZ (hw _ (List.mem_of_getElem? (i := 93) rfl))) (notFace_of_selects (args := #[]) (mvT hZ (hw _ (List.mem_of_getElem? (i := 95) rfl)))) (mvT hZ (hw _ (List.mem_of_getElem? (i := 95) rfl))) (mvT hZ (hw _ (List.mem_of_getElem? (i := 94) rfl))) (by decide) (backOf (W := 0) (rm16 l Z a0 hw [] b1 sz cu_65 ar_15 ak_15 5 T65.heap n0 Z65 f65_1 f65_3 f65_2 (own_not_full hs pr65_0)) hZ (hw _ (List.mem_of_getElem? (i := 96) rfl)) (hw _ (List.mem_of_getElem? (i := 3) rfl)) (by decide) (by decide)) q74a q74c (g := (mkF m 110 #[.val (.int x0), .val (.int x1), .val (.long x2), .second, .val (.int sz), .val (.int nn), .val (.ref b1), .val (.int (0 : Int32))] [(.ref b1)])) rfl (by rw [hml]; rfl) (Steps.refl _) (argsL := []) (rest := []) (lenOf own_pd8 rfl) rfl (by show 2 * 0 + _ ≤ _; exact Nat.le_of_eq rfl) (hb hby at_110) (fun _ _ => ⟨rfl, rfl, (by decide : 7 + 0 ≤ _), (by decide : 497 + 0 ≤ _)⟩)
  dsimp only [Pt.U, Pt.locs, Pt.cells, Pt.slots] at X74 l74 y74 z74 st74 hQ74
  subst l74 y74 z74
  obtain ⟨rfl, N74q, eh74⟩ := hQ74
  have N74 := Fr.app N65 N74q
  refine Goes.tr st74 ?_
  show Goes p e below s _ _ _ T74 (mkF m 113 #[.val (.int x0), .val (.int x1), .val (.long x2), .second, .val (.int sz), .val (.int nn), .val (.ref b1), .val (.int (0 : Int32))] [(.int (0 : Int32))])
  refine own_iload X74 hx 115 rfl (hb hby at_113) rfl ?_
  refine own_icmpN X74 hx 118 (hb hby at_115) (teq ((by decide) : (0 : Int32) = (0 : Int32))).2 rfl ?_
  refine own_iconst X74 hx 119 rfl (1 : Int32) (hb hby at_118) (by decide) ?_
  refine own_goto X74 hx 123 (hb hby at_119) (by decide) (by decide) ?_
  refine own_retZ X74 hx hlk Bd.returns (by decide) (hb hby at_123) (by decide) (by decide) eh74 ?_
  exact ⟨rfl, N74⟩
set_option maxRecDepth 65536 in
set_option maxHeartbeats 40000000 in
theorem comes_1 {Post : Tables → Env → Array Value → State → Outcome → State → Prop} (hpost : ∀ tb e args s v u, (limb_1_1.after args s (.returned v) u = true ∧ limb_1_2.after args s (.returned v) u = true ∧ True) → FrameEnd s (.returned v) u (Jvm.fieldLocs frame_1_writes args s ++ Jvm.arrayLocs frame_1_arrays args s ++ Jvm.staticLocs frame_1_statics s) 24 1088 → Post tb e args s (.returned v) u) :
    ArmFor flags0 classFile x code maxLocals ret World_1 tables_1 room_1 Calls_1 rest_1 Pre_1 Post := by
  intro l hfl _ _ p e ha hc hk s m args below hf hA hF happ hP
  obtain ⟨hcalls, hrest, hpre⟩ := hP
  obtain ⟨-, -, -, hnamed, -, -, -, hat⟩ := (Spec.applies_iff hf).mp happ
  obtain ⟨hg, hn⟩ := and_e (Cond.before_iff.mp (show (Jvm.Cond.and given_1 narrow_1).before args s = true from hpre))
  obtain ⟨gg1, gg2⟩ := and_e hg
  obtain ⟨gg3, gg4⟩ := and_e gg2
  obtain ⟨gg5, gg6⟩ := and_e gg4
  obtain ⟨w0, w1, w2, rfl⟩ : ∃ w0 w1 w2 : Value, args = #[w0, w1, w2] := by
    have hs : args.size = 3 := by simpa [Cond.value, given_1] using gg1
    obtain ⟨L⟩ := args
    match L, hs with
    | [w0, w1, w2], _ => exact ⟨w0, w1, w2, rfl⟩
  have hw := fun d (hd : d ∈ tables_1) => atoms_spec (ws := Jvm.Cond.code x code maxLocals ret :: tables_1) hat d (List.mem_cons_of_mem _ hd)
  have hfit : Fit s := fun {y c} hc i hi => by
    obtain ⟨ha, rfl⟩ := Array.getElem?_eq_some_iff.mp hc
    have q := List.all_eq_true.mp ((Array.all_eq_true_iff_forall_mem.mp hF) _ (Array.getElem_mem ha)) i (List.mem_range.mpr hi)
    simpa [Array.getElem?_eq_getElem hi] using q
  obtain ⟨i0, ei0⟩ := is_v gg3
  obtain rfl : w0 = (.int i0) := Option.some.inj ei0
  obtain ⟨i1, ei1⟩ := is_v gg5
  obtain rfl : w1 = (.int i1) := Option.some.inj ei1
  obtain ⟨i2, ei2⟩ := isL_v gg6
  obtain rfl : w2 = (.long i2) := Option.some.inj ei2
  obtain ⟨nn1, nn2⟩ := and_e hn
  obtain ⟨z_BLACK, ev_z_BLACK⟩ := exa_v nn1
  have S_z_BLACK := Sta.start ev_z_BLACK (Or.inr ⟨(hw _ (List.mem_of_getElem? (i := 25) rfl)), (hw _ (List.mem_of_getElem? (i := 26) rfl))⟩)
  have E_z_BLACK := Exa.start ev_z_BLACK nn1
  obtain ⟨z_WHITE, ev_z_WHITE⟩ := exa_v nn2
  have S_z_WHITE := Sta.start ev_z_WHITE (Or.inr ⟨(hw _ (List.mem_of_getElem? (i := 25) rfl)), (hw _ (List.mem_of_getElem? (i := 98) rfl))⟩)
  have E_z_WHITE := Exa.start ev_z_WHITE nn2
  obtain ⟨hsets, hown0⟩ := atoms_of _ (rest_1_c_eq ▸ (show rest_1_c.before _ s = true from hrest))
  obtain ⟨oe, evo⟩ := exa_v (Cond.before_iff.mp (hsets _ (List.mem_of_getElem? (i := 2) rfl)))
  have S_oe := Sta.start evo (Or.inl (hsets _ (List.mem_of_getElem? (i := 1) rfl)))
  have E_oe := Exa.start evo (Cond.before_iff.mp (hsets _ (List.mem_of_getElem? (i := 2) rfl)))
  have F_oe := Fld.start (own_fldv evo null_at (Cond.before_iff.mp (hsets _ (List.mem_of_getElem? (i := 3) rfl))))
  obtain ⟨n, o, h1, h2, h3, _, L, rfl, ⟨rfl, N⟩, hq⟩ := rm0 l s _ hw tables_1 i0 i1 i2 z_BLACK z_WHITE oe s.heap s.heap.size (Nat.le_refl _) S_z_BLACK E_z_BLACK S_z_WHITE E_z_WHITE S_oe E_oe F_oe p e ha hc hk s m _ below hf ((Spec.applies_iff_loose hf).mp happ).1 ⟨rfl, State.Warmed39.refl s, rfl⟩ trivial
  refine ⟨n, _, h1, h2, h3, hpost _ _ _ _ _ _ ⟨Cond.after_iff.mpr rfl, Cond.after_iff.mpr (eq_i res_at (Term.int_eval (1)) rfl), trivial⟩ ⟨hq.1, hq.2.1, (hq.2.2.sift fun y hy => Or.inr (N y hy)).mono (by decide) (by decide)⟩⟩
theorem main_1_1 : Claimed_1_1 := comes_1 fun _ _ _ _ _ _ h hF => ⟨h.1, hF⟩
theorem main_1_2 : Claimed_1_2 := comes_1 fun _ _ _ _ _ _ h hF => ⟨h.2.1, hF⟩
end Jvm.Pilot.@@N@@
namespace Jvm.Pilot.@@N@@
open Jvm Jvm.ClassFile Sem Op Lib Jvm.Free Jvm.Stand Jvm.Pilot.@@N@@.Jvm.D
/-! MADE BY PROGRAM (witnessworld.py) out of the Statement's table words and the real class files: 17 classes; the members and pool entries that the words name. The judged class is class 1, her method 1. -/
namespace start1
open Jvm.ClassFile
def u (s : String) : CpInfo := .utf8 (stringToUtf16 s)
/-- a pool by its gaps: so many unusable entries, then the entry; so many at the end -/
def gap : Nat → List CpInfo → List CpInfo
  | 0, r => r
  | n + 1, r => .unusable :: gap n r
def poolList (es : List (Nat × CpInfo)) (last : Nat) : List CpInfo := es.foldr (fun e r => gap e.1 (e.2 :: r)) (gap last [])
def pool (es : List (Nat × CpInfo)) (last : Nat) : Array CpInfo := ⟨poolList es last⟩
def fileOf (pool : Array CpInfo) (this : Nat) (attrs : Array Attribute := #[]) (ms : Array MethodInfo := #[]) (fl : Nat := 33) (sup : Nat := 0) (ifs : Array Nat := #[]) (fds : Array FieldInfo := #[]) : ClassFile where
  minorVersion := 0
  majorVersion := 65
  constantPool := pool
  accessFlags := fl
  thisClass := this
  superClass := sup
  interfaces := ifs
  fields := fds
  methods := ms
  attributes := attrs
def plain (name : String) (sup : Option ClassId) : Class where
  name := name
  kind := .ordinary
  loader := none
  accessFlags := 33
  super := sup
  interfaces := #[]
  cf := none
  fields := #[]
  methods := #[]
  instanceTypes := #[]
  staticTypes := #[]
  resolved := #[]
  callSites := []
  init := .initialized
  statics := none
  mirror := none

def pool0 : Array CpInfo := pool [(5, u "<init>"), (0, u "()V"), (1, .class_ 10), (1, u "java/lang/Object")] 113

def k0c0 : Code := { maxStack := 0, maxLocals := 1, code := object_method_1_code, exceptionTable := #[], attributes := #[] }
def k0m0 : Method := { name := "<init>", desc := "()V", sig := { parameters := [], returnType := none }, accessFlags := 1, code := some k0c0 }
/-- java/lang/Object -/
def k0 : Class := { plain "java/lang/Object" none with
  accessFlags := 33
  interfaces := #[]
  cf := some (fileOf pool0 8 #[] #[{ accessFlags := 1, nameIndex := 5, descriptorIndex := 6, attributes := #[] }] 33 0 #[] #[])
  fields := #[]
  methods := #[k0m0]
  instanceTypes := #[]
  staticTypes := #[]
  resolved := Array.replicate 124 none
  statics := none }

def pool1 : Array CpInfo := pool [(2, .class_ 4), (1, u "java/lang/Object"), (0, u "<init>"), (0, u "()V"), (0, .class_ 8), (0, u "com/example/fivestone/fivestone/rules/Board"), (0, .integer 2147483647), (0, .methodref 7 11), (0, .nameAndType 5 12), (0, u "(I)V"), (0, .methodref 14 15), (0, .class_ 16), (0, .nameAndType 17 18), (0, u "com/example/fivestone/fivestone/rules/BoardIsFullPinLaw"), (0, u "put"), (0, u "(Lcom/example/fivestone/fivestone/rules/Board;IIIJI)V"), (0, .methodref 7 20), (0, .nameAndType 21 22), (0, u "isFull"), (0, u "()Z"), (0, .long 255), (1, .fieldref 26 27), (0, .class_ 28), (0, .nameAndType 29 30), (0, u "com/example/fivestone/fivestone/rules/Stone"), (0, u "WHITE"), (0, u "Lcom/example/fivestone/fivestone/rules/Stone;"), (0, .fieldref 26 32), (0, .nameAndType 33 30), (0, u "BLACK"), (0, .class_ 35), (0, u "com/example/fivestone/fivestone/rules/Point"), (0, .methodref 34 37), (0, .nameAndType 5 38), (0, u "(II)V"), (0, .methodref 7 40), (0, .nameAndType 41 42), (0, u "place"), (0, u "(Lcom/example/fivestone/fivestone/rules/Point;Lcom/example/fivestone/fivestone/rules/Stone;)V"), (2, u "law"), (0, u "(IIJ)Z")] 3

def k1m0 : Method := { name := "<init>", desc := "()V", sig := { parameters := [], returnType := none }, accessFlags := 1, code := none }
def k1c1 : Code := { maxStack := 7, maxLocals := 8, code := code, exceptionTable := #[], attributes := #[] }
def k1m1 : Method := { name := "law", desc := "(IIJ)Z", sig := { parameters := [.int, .int, .long], returnType := some .boolean }, accessFlags := 9, code := some k1c1 }
def k1c2 : Code := { maxStack := 5, maxLocals := 9, code := method_3_code, exceptionTable := #[], attributes := #[] }
def k1m2 : Method := { name := "put", desc := "(Lcom/example/fivestone/fivestone/rules/Board;IIIJI)V", sig := { parameters := [(.object "com/example/fivestone/fivestone/rules/Board"), .int, .int, .int, .long, .int], returnType := none }, accessFlags := 10, code := some k1c2 }
/-- com/example/fivestone/fivestone/rules/BoardIsFullPinLaw -/
def k1 : Class := { plain "com/example/fivestone/fivestone/rules/BoardIsFullPinLaw" (some 0) with
  accessFlags := 49
  interfaces := #[]
  cf := some (fileOf pool1 14 #[] #[{ accessFlags := 1, nameIndex := 5, descriptorIndex := 6, attributes := #[] }, { accessFlags := 9, nameIndex := 45, descriptorIndex := 46, attributes := #[] }, { accessFlags := 10, nameIndex := 17, descriptorIndex := 18, attributes := #[] }] 49 2 #[] #[])
  fields := #[]
  methods := #[k1m0, k1m1, k1m2]
  instanceTypes := #[]
  staticTypes := #[]
  resolved := Array.replicate 50 none
  statics := none }

def pool2 : Array CpInfo := pool [(1, .methodref 2 3), (0, .class_ 4), (0, .nameAndType 5 6), (0, u "java/lang/Object"), (0, u "<init>"), (0, u "()V"), (0, .methodref 8 9), (0, .class_ 10), (0, .nameAndType 11 12), (0, u "com/example/fivestone/fivestone/rules/Board"), (0, u "checkSize"), (0, u "(I)V"), (0, .fieldref 8 14), (0, .nameAndType 15 16), (0, u "size"), (0, u "I"), (0, .class_ 18), (0, u "com/example/fivestone/fivestone/rules/Stone"), (0, .fieldref 8 20), (0, .nameAndType 21 22), (0, u "stones"), (0, u "[Lcom/example/fivestone/fivestone/rules/Stone;"), (5, .fieldref 8 29), (0, .nameAndType 30 16), (0, u "count"), (23, .methodref 55 56), (0, .class_ 57), (0, .nameAndType 58 59), (0, u "com/example/fivestone/fivestone/rules/Point"), (0, u "column"), (0, u "()I"), (0, .methodref 55 61), (0, .nameAndType 62 59), (0, u "row"), (0, .methodref 8 64), (0, .nameAndType 65 66), (0, u "index"), (0, u "(Lcom/example/fivestone/fivestone/rules/Point;)I"), (0, .methodref 8 68), (0, .nameAndType 69 70), (0, u "contains"), (0, u "(Lcom/example/fivestone/fivestone/rules/Point;)Z"), (3, .class_ 76), (1, u "java/util/Optional"), (2, .methodref 8 80), (0, .nameAndType 81 82), (0, u "stoneAt"), (0, u "(Lcom/example/fivestone/fivestone/rules/Point;)Lcom/example/fivestone/fivestone/rules/Stone;"), (2, .methodref 74 86), (0, .nameAndType 87 88), (0, u "empty"), (0, u "()Ljava/util/Optional;"), (2, .methodref 8 92), (0, .nameAndType 93 94), (0, u "refusal"), (0, u "(Lcom/example/fivestone/fivestone/rules/Point;)Ljava/util/Optional;"), (0, .methodref 74 96), (0, .nameAndType 97 98), (0, u "isPresent"), (0, u "()Z"), (33, u "MIN_SIZE"), (2, u "MAX_SIZE"), (1, u "DEFAULT_SIZE"), (1, u "OFF_THE_BOARD"), (0, u "Ljava/lang/String;"), (7, u "place"), (0, u "(Lcom/example/fivestone/fivestone/rules/Point;Lcom/example/fivestone/fivestone/rules/Stone;)V"), (6, u "isFull")] 24

def k2c0 : Code := { maxStack := 3, maxLocals := 2, code := prog_19_method_1_code, exceptionTable := #[], attributes := #[] }
def k2m0 : Method := { name := "<init>", desc := "(I)V", sig := { parameters := [.int], returnType := none }, accessFlags := 1, code := some k2c0 }
def k2c1 : Code := { maxStack := 3, maxLocals := 1, code := prog_19_method_3_code, exceptionTable := #[], attributes := #[] }
def k2m1 : Method := { name := "checkSize", desc := "(I)V", sig := { parameters := [.int], returnType := none }, accessFlags := 9, code := some k2c1 }
def k2c2 : Code := { maxStack := 2, maxLocals := 2, code := prog_19_method_6_code, exceptionTable := #[], attributes := #[] }
def k2m2 : Method := { name := "contains", desc := "(Lcom/example/fivestone/fivestone/rules/Point;)Z", sig := { parameters := [(.object "com/example/fivestone/fivestone/rules/Point")], returnType := some .boolean }, accessFlags := 1, code := some k2c2 }
def k2c3 : Code := { maxStack := 3, maxLocals := 2, code := prog_19_method_7_code, exceptionTable := #[], attributes := #[] }
def k2m3 : Method := { name := "stoneAt", desc := "(Lcom/example/fivestone/fivestone/rules/Point;)Lcom/example/fivestone/fivestone/rules/Stone;", sig := { parameters := [(.object "com/example/fivestone/fivestone/rules/Point")], returnType := some (.object "com/example/fivestone/fivestone/rules/Stone") }, accessFlags := 1, code := some k2c3 }
def k2c4 : Code := { maxStack := 2, maxLocals := 2, code := prog_19_method_8_code, exceptionTable := #[], attributes := #[] }
def k2m4 : Method := { name := "refusal", desc := "(Lcom/example/fivestone/fivestone/rules/Point;)Ljava/util/Optional;", sig := { parameters := [(.object "com/example/fivestone/fivestone/rules/Point")], returnType := some (.object "java/util/Optional") }, accessFlags := 1, code := some k2c4 }
def k2c5 : Code := { maxStack := 4, maxLocals := 4, code := prog_19_method_10_code, exceptionTable := #[], attributes := #[] }
def k2m5 : Method := { name := "place", desc := "(Lcom/example/fivestone/fivestone/rules/Point;Lcom/example/fivestone/fivestone/rules/Stone;)V", sig := { parameters := [(.object "com/example/fivestone/fivestone/rules/Point"), (.object "com/example/fivestone/fivestone/rules/Stone")], returnType := none }, accessFlags := 1, code := some k2c5 }
def k2c6 : Code := { maxStack := 2, maxLocals := 1, code := prog_19_method_14_code, exceptionTable := #[], attributes := #[] }
def k2m6 : Method := { name := "isFull", desc := "()Z", sig := { parameters := [], returnType := some .boolean }, accessFlags := 1, code := some k2c6 }
def k2c7 : Code := { maxStack := 4, maxLocals := 2, code := prog_19_method_16_code, exceptionTable := #[], attributes := #[] }
def k2m7 : Method := { name := "index", desc := "(Lcom/example/fivestone/fivestone/rules/Point;)I", sig := { parameters := [(.object "com/example/fivestone/fivestone/rules/Point")], returnType := some .int }, accessFlags := 2, code := some k2c7 }
/-- com/example/fivestone/fivestone/rules/Board -/
def k2 : Class := { plain "com/example/fivestone/fivestone/rules/Board" (some 0) with
  accessFlags := 49
  interfaces := #[]
  cf := some (fileOf pool2 8 #[] #[{ accessFlags := 1, nameIndex := 5, descriptorIndex := 12, attributes := #[] }, { accessFlags := 9, nameIndex := 11, descriptorIndex := 12, attributes := #[] }, { accessFlags := 1, nameIndex := 69, descriptorIndex := 70, attributes := #[] }, { accessFlags := 1, nameIndex := 81, descriptorIndex := 82, attributes := #[] }, { accessFlags := 1, nameIndex := 93, descriptorIndex := 94, attributes := #[] }, { accessFlags := 1, nameIndex := 148, descriptorIndex := 149, attributes := #[] }, { accessFlags := 1, nameIndex := 156, descriptorIndex := 98, attributes := #[] }, { accessFlags := 2, nameIndex := 65, descriptorIndex := 66, attributes := #[] }] 49 2 #[] #[{ accessFlags := 25, nameIndex := 132, descriptorIndex := 16, attributes := #[] }, { accessFlags := 25, nameIndex := 135, descriptorIndex := 16, attributes := #[] }, { accessFlags := 25, nameIndex := 137, descriptorIndex := 16, attributes := #[] }, { accessFlags := 26, nameIndex := 139, descriptorIndex := 140, attributes := #[] }, { accessFlags := 18, nameIndex := 15, descriptorIndex := 16, attributes := #[] }, { accessFlags := 18, nameIndex := 21, descriptorIndex := 22, attributes := #[] }, { accessFlags := 2, nameIndex := 30, descriptorIndex := 16, attributes := #[] }])
  fields := #[{ name := "MIN_SIZE", type := .int, accessFlags := 25, slot := 0, constantValue := 0 }, { name := "MAX_SIZE", type := .int, accessFlags := 25, slot := 1, constantValue := 0 }, { name := "DEFAULT_SIZE", type := .int, accessFlags := 25, slot := 2, constantValue := 0 }, { name := "OFF_THE_BOARD", type := (.object "java/lang/String"), accessFlags := 26, slot := 3, constantValue := 0 }, { name := "size", type := .int, accessFlags := 18, slot := 0, constantValue := 0 }, { name := "stones", type := (.array (.object "com/example/fivestone/fivestone/rules/Stone")), accessFlags := 18, slot := 1, constantValue := 0 }, { name := "count", type := .int, accessFlags := 2, slot := 2, constantValue := 0 }]
  methods := #[k2m0, k2m1, k2m2, k2m3, k2m4, k2m5, k2m6, k2m7]
  instanceTypes := #[.int, (.array (.object "com/example/fivestone/fivestone/rules/Stone")), .int]
  staticTypes := #[.int, .int, .int, (.object "java/lang/String")]
  resolved := Array.replicate 181 none
  statics := none }

def pool3 : Array CpInfo := pool [(1, .class_ 2), (0, u "java/lang/constant/Constable"), (0, .class_ 4), (0, u "java/lang/Object")] 6

/-- java/lang/constant/Constable -/
def k3 : Class := { plain "java/lang/constant/Constable" (some 0) with
  accessFlags := 1537
  interfaces := #[]
  cf := some (fileOf pool3 1 #[] #[] 1537 3 #[] #[])
  fields := #[]
  methods := #[]
  instanceTypes := #[]
  staticTypes := #[]
  resolved := Array.replicate 11 none
  statics := none }

def pool4 : Array CpInfo := pool [(1, .class_ 2), (0, u "java/lang/Comparable"), (0, .class_ 4), (0, u "java/lang/Object")] 7

/-- java/lang/Comparable -/
def k4 : Class := { plain "java/lang/Comparable" (some 0) with
  accessFlags := 1537
  interfaces := #[]
  cf := some (fileOf pool4 1 #[] #[] 1537 3 #[] #[])
  fields := #[]
  methods := #[]
  instanceTypes := #[]
  staticTypes := #[]
  resolved := Array.replicate 12 none
  statics := none }

def pool5 : Array CpInfo := pool [(1, .class_ 2), (0, u "java/io/Serializable"), (0, .class_ 4), (0, u "java/lang/Object")] 2

/-- java/io/Serializable -/
def k5 : Class := { plain "java/io/Serializable" (some 0) with
  accessFlags := 1537
  interfaces := #[]
  cf := some (fileOf pool5 1 #[] #[] 1537 3 #[] #[])
  fields := #[]
  methods := #[]
  instanceTypes := #[]
  staticTypes := #[]
  resolved := Array.replicate 7 none
  statics := none }

def pool6 : Array CpInfo := pool [(2, .class_ 4), (1, u "java/lang/Enum"), (0, u "name"), (0, u "Ljava/lang/String;"), (2, u "ordinal"), (0, u "I"), (1, .class_ 14), (1, u "java/lang/Object"), (4, u "hash"), (86, .class_ 108), (1, u "java/lang/Enum$EnumDesc"), (2, .class_ 112), (0, u "java/lang/constant/Constable"), (0, .class_ 114), (0, u "java/lang/Comparable"), (0, .class_ 116), (0, u "java/io/Serializable")] 87

/-- java/lang/Enum -/
def k6 : Class := { plain "java/lang/Enum" (some 0) with
  accessFlags := 1057
  interfaces := #[3, 4, 5]
  cf := some (fileOf pool6 2 #[.nestMembers #[106]] #[] 1057 12 #[111, 113, 115] #[{ accessFlags := 18, nameIndex := 5, descriptorIndex := 6, attributes := #[] }, { accessFlags := 18, nameIndex := 9, descriptorIndex := 10, attributes := #[] }, { accessFlags := 2, nameIndex := 19, descriptorIndex := 10, attributes := #[] }])
  fields := #[{ name := "name", type := (.object "java/lang/String"), accessFlags := 18, slot := 0, constantValue := 0 }, { name := "ordinal", type := .int, accessFlags := 18, slot := 1, constantValue := 0 }, { name := "hash", type := .int, accessFlags := 2, slot := 2, constantValue := 0 }]
  methods := #[]
  instanceTypes := #[(.object "java/lang/String"), .int, .int]
  staticTypes := #[]
  resolved := Array.replicate 204 none
  statics := none }

def pool7 : Array CpInfo := pool [(1, .class_ 2), (0, u "com/example/fivestone/fivestone/rules/Stone"), (2, u "BLACK"), (0, u "Lcom/example/fivestone/fivestone/rules/Stone;"), (2, u "WHITE"), (2, u "$VALUES"), (0, u "[Lcom/example/fivestone/fivestone/rules/Stone;"), (6, .class_ 22), (1, u "java/lang/Enum")] 44

/-- com/example/fivestone/fivestone/rules/Stone -/
def k7 : Class := { plain "com/example/fivestone/fivestone/rules/Stone" (some 6) with
  accessFlags := 16433
  interfaces := #[]
  cf := some (fileOf pool7 1 #[] #[] 16433 20 #[] #[{ accessFlags := 16409, nameIndex := 5, descriptorIndex := 6, attributes := #[] }, { accessFlags := 16409, nameIndex := 9, descriptorIndex := 6, attributes := #[] }, { accessFlags := 4122, nameIndex := 12, descriptorIndex := 13, attributes := #[] }])
  fields := #[{ name := "BLACK", type := (.object "com/example/fivestone/fivestone/rules/Stone"), accessFlags := 16409, slot := 0, constantValue := 0 }, { name := "WHITE", type := (.object "com/example/fivestone/fivestone/rules/Stone"), accessFlags := 16409, slot := 1, constantValue := 0 }, { name := "$VALUES", type := (.array (.object "com/example/fivestone/fivestone/rules/Stone")), accessFlags := 4122, slot := 2, constantValue := 0 }]
  methods := #[]
  instanceTypes := #[(.object "java/lang/String"), .int, .int]
  staticTypes := #[(.object "com/example/fivestone/fivestone/rules/Stone"), (.object "com/example/fivestone/fivestone/rules/Stone"), (.array (.object "com/example/fivestone/fivestone/rules/Stone"))]
  resolved := Array.replicate 67 none
  statics := some 0 }

def pool8 : Array CpInfo := pool [(1, .methodref 2 3), (0, .class_ 4), (0, .nameAndType 5 6), (0, u "java/lang/Object"), (0, u "<init>"), (0, u "()V"), (0, .class_ 8), (0, u "java/lang/Record")] 13

def k8c0 : Code := { maxStack := 1, maxLocals := 1, code := jdk_30_method_1_code, exceptionTable := #[], attributes := #[] }
def k8m0 : Method := { name := "<init>", desc := "()V", sig := { parameters := [], returnType := none }, accessFlags := 4, code := some k8c0 }
/-- java/lang/Record -/
def k8 : Class := { plain "java/lang/Record" (some 0) with
  accessFlags := 1057
  interfaces := #[]
  cf := some (fileOf pool8 7 #[] #[{ accessFlags := 4, nameIndex := 5, descriptorIndex := 6, attributes := #[] }] 1057 2 #[] #[])
  fields := #[]
  methods := #[k8m0]
  instanceTypes := #[]
  staticTypes := #[]
  resolved := Array.replicate 22 none
  statics := none }

def pool9 : Array CpInfo := pool [(1, .methodref 2 3), (0, .class_ 4), (0, .nameAndType 5 6), (0, u "java/lang/Record"), (0, u "<init>"), (0, u "()V"), (0, .fieldref 8 9), (0, .class_ 10), (0, .nameAndType 11 12), (0, u "com/example/fivestone/fivestone/rules/Point"), (0, u "column"), (0, u "I"), (0, .fieldref 8 14), (0, .nameAndType 15 12), (0, u "row"), (33, u "(II)V"), (10, u "()I")] 61

def k9c0 : Code := { maxStack := 2, maxLocals := 3, code := prog_28_method_1_code, exceptionTable := #[], attributes := #[] }
def k9m0 : Method := { name := "<init>", desc := "(II)V", sig := { parameters := [.int, .int], returnType := none }, accessFlags := 1, code := some k9c0 }
def k9c1 : Code := { maxStack := 1, maxLocals := 1, code := prog_28_method_8_code, exceptionTable := #[], attributes := #[] }
def k9m1 : Method := { name := "column", desc := "()I", sig := { parameters := [], returnType := some .int }, accessFlags := 1, code := some k9c1 }
def k9c2 : Code := { maxStack := 1, maxLocals := 1, code := prog_28_method_9_code, exceptionTable := #[], attributes := #[] }
def k9m2 : Method := { name := "row", desc := "()I", sig := { parameters := [], returnType := some .int }, accessFlags := 1, code := some k9c2 }
/-- com/example/fivestone/fivestone/rules/Point -/
def k9 : Class := { plain "com/example/fivestone/fivestone/rules/Point" (some 8) with
  accessFlags := 49
  interfaces := #[]
  cf := some (fileOf pool9 8 #[] #[{ accessFlags := 1, nameIndex := 5, descriptorIndex := 49, attributes := #[] }, { accessFlags := 1, nameIndex := 11, descriptorIndex := 60, attributes := #[] }, { accessFlags := 1, nameIndex := 15, descriptorIndex := 60, attributes := #[] }] 49 2 #[] #[{ accessFlags := 18, nameIndex := 11, descriptorIndex := 12, attributes := #[] }, { accessFlags := 18, nameIndex := 15, descriptorIndex := 12, attributes := #[] }])
  fields := #[{ name := "column", type := .int, accessFlags := 18, slot := 0, constantValue := 0 }, { name := "row", type := .int, accessFlags := 18, slot := 1, constantValue := 0 }]
  methods := #[k9m0, k9m1, k9m2]
  instanceTypes := #[.int, .int]
  staticTypes := #[]
  resolved := Array.replicate 122 none
  statics := none }

def pool10 : Array CpInfo := pool [(1, .fieldref 2 3), (0, .class_ 4), (0, .nameAndType 5 6), (0, u "java/util/Optional"), (0, u "EMPTY"), (0, u "Ljava/util/Optional;"), (1, .class_ 10), (1, u "java/lang/Object"), (2, .fieldref 2 14), (0, .nameAndType 15 16), (0, u "value"), (0, u "Ljava/lang/Object;"), (29, u "()Z"), (8, u "empty"), (0, u "()Ljava/util/Optional;"), (11, u "isPresent")] 118

def k10c0 : Code := { maxStack := 1, maxLocals := 1, code := jdk_32_method_1_code, exceptionTable := #[], attributes := #[] }
def k10m0 : Method := { name := "empty", desc := "()Ljava/util/Optional;", sig := { parameters := [], returnType := some (.object "java/util/Optional") }, accessFlags := 9, code := some k10c0 }
def k10c1 : Code := { maxStack := 1, maxLocals := 1, code := jdk_32_method_6_code, exceptionTable := #[], attributes := #[] }
def k10m1 : Method := { name := "isPresent", desc := "()Z", sig := { parameters := [], returnType := some .boolean }, accessFlags := 1, code := some k10c1 }
/-- java/util/Optional -/
def k10 : Class := { plain "java/util/Optional" (some 0) with
  accessFlags := 49
  interfaces := #[]
  cf := some (fileOf pool10 2 #[] #[{ accessFlags := 9, nameIndex := 55, descriptorIndex := 56, attributes := #[] }, { accessFlags := 1, nameIndex := 68, descriptorIndex := 46, attributes := #[] }] 49 8 #[] #[{ accessFlags := 26, nameIndex := 5, descriptorIndex := 6, attributes := #[] }, { accessFlags := 18, nameIndex := 15, descriptorIndex := 16, attributes := #[] }])
  fields := #[{ name := "EMPTY", type := (.object "java/util/Optional"), accessFlags := 26, slot := 0, constantValue := 0 }, { name := "value", type := (.object "java/lang/Object"), accessFlags := 18, slot := 0, constantValue := 0 }]
  methods := #[k10m0, k10m1]
  instanceTypes := #[(.object "java/lang/Object")]
  staticTypes := #[(.object "java/util/Optional")]
  resolved := Array.replicate 187 none
  statics := some 1 }

def pool11 : Array CpInfo := pool [(1, u "java/lang/Cloneable"), (0, .class_ 1), (0, u "java/lang/Object"), (0, .class_ 3)] 3

/-- java/lang/Cloneable -/
def k11 : Class := { plain "java/lang/Cloneable" (some 0) with
  accessFlags := 1537
  interfaces := #[]
  cf := some (fileOf pool11 2 #[] #[] 1537 4 #[] #[])
  fields := #[]
  methods := #[]
  instanceTypes := #[]
  staticTypes := #[]
  resolved := Array.replicate 8 none
  statics := none }

/-- the primitive byte -/
def k12 : Class := { plain "byte" none with kind := .primitive 'B', accessFlags := 0x411 }
/-- [B -/
def k13 : Class := { plain "[B" (some 0) with kind := .array 12 .byte, interfaces := #[11, 5], accessFlags := 1041 }

/-- the primitive int -/
def k14 : Class := { plain "int" none with kind := .primitive 'I', accessFlags := 0x411 }
/-- [I -/
def k15 : Class := { plain "[I" (some 0) with kind := .array 14 .int, interfaces := #[11, 5], accessFlags := 1041 }

/-- [Lcom/example/fivestone/fivestone/rules/Stone; -/
def k16 : Class := { plain "[Lcom/example/fivestone/fivestone/rules/Stone;" (some 0) with kind := .array 7 (.object "com/example/fivestone/fivestone/rules/Stone"), interfaces := #[11, 5], accessFlags := 1041 }

def heap : Heap := #[{ cls := 7, slots := #[.ref 2, .ref 3, .null], vm := .statics 7 },
  { cls := 10, slots := #[.ref 4], vm := .statics 10 },
  { cls := 7, slots := #[.null, .int 0, .int 0], vm := .none },
  { cls := 7, slots := #[.null, .int 1, .int 0], vm := .none },
  { cls := 10, slots := #[.null], vm := .none }]
def classes : Array Class := #[k0, k1, k2, k3, k4, k5, k6, k7, k8, k9, k10, k11, k12, k13, k14, k15, k16]
def interned : List (Array UInt16 × Addr) := []
def slotsUsed : Nat := 11
def theMethod : MethodId := ⟨1, 1⟩
def args0 : Array Value := #[.int 5, .int 3, .long 9]
def aboutOver (below : List Frame) : State where
  vm := { classes := classes, interned := interned.toArray }
  heap := heap
  slotsUsed := slotsUsed
  threads := #[{ frames := .invoking theMethod args0 :: below }]
def below0 : List Frame := [.native { method := ⟨0, 0⟩, args := #[] }]
def about1 : State := aboutOver below0
def p0 : Program := .bare "" "" ""
def e0 : Env := launch0.env 0 0 0
theorem w_frames : about1.frames = Frame.invoking theMethod args0 :: below0 := rfl
set_option maxRecDepth 65536 in
theorem w_args : argsFit about1.vm theMethod args0 = true := by decide +kernel
set_option maxRecDepth 65536 in
theorem w_heap : heapFits about1 = true := by decide +kernel
set_option maxRecDepth 65536 in
theorem w_runnable : about1.curStatus? = some .runnable := by decide +kernel
set_option maxRecDepth 65536 in
theorem w_alone : about1.alone = true := by decide +kernel
set_option maxRecDepth 65536 in
theorem w_named : about1.methodNamed? x = some theMethod := by decide +kernel
set_option maxRecDepth 65536 in
theorem w_hears : about1.hears theMethod below0 = true := by decide +kernel
set_option maxRecDepth 65536 in
theorem w_ripe : about1.ripe theMethod args0 below0 = true := by decide +kernel
theorem w_running : about1.status = .running := rfl
set_option maxRecDepth 65536 in
theorem w_room : about1.hasRoom e0.platform room_1 = true :=
  launch0.hasRoom_least _ room_1 (by decide +kernel) (by decide +kernel) (by decide +kernel) (by decide +kernel) (by decide +kernel) (by decide +kernel)
theorem allAtoms_all (ts : List Jvm.Cond) (a : Array Jvm.Value) (st : Jvm.State) : (allAtoms ts).before a st = ts.all (fun c => c.before a st) := by
  induction ts with
  | nil => rfl
  | cons c t ih =>
    show (Jvm.Cond.and c (allAtoms t)).before a st = _
    rw [Jvm.Cond.before_and, ih, List.all_cons]
def words1 : List Jvm.Cond := Jvm.Cond.code x code maxLocals ret :: tables_1
/-- a 'code' word, met by the world's own term for the bytes: nothing is compared byte by byte -/
theorem code_word {y : MethodName} {bytes : ByteArray} {mx : Nat} {rt : Option FieldType} {a : Array Value} {s : State} {m : MethodId} {meth : Method} {c : Code} (h1 : s.methodNamed? y = some m) (h2 : s.vm.method? m = some meth) (h3 : meth.code = some c) (h4 : c.code = bytes)
    (h5 : (c.maxLocals == mx && c.exceptionTable.isEmpty && decide (c.maxStack ≤ mostOperands) && decide (meth.sig.returnType = rt) && !meth.locks && decide (parseMethodDescriptor y.desc = some meth.sig)) = true) : (Jvm.Cond.code y bytes mx rt).before a s = true := by
  simp only [Bool.and_eq_true, beq_iff_eq, Bool.not_eq_true', decide_eq_true_eq] at h5
  obtain ⟨⟨⟨⟨⟨g1, g2⟩, g3⟩, g4⟩, g5⟩, g6⟩ := h5
  simp [Cond.before, Cond.holds, Cond.value, h1, h2, h3, h4, g1, g2, g3, g4, g5, g6]
def isCode : Jvm.Cond → Bool
  | .code _ _ _ _ => true
  | _ => false
theorem all_split {L : List Jvm.Cond} {P : Jvm.Cond → Bool} (h1 : L.all (fun c => isCode c || P c) = true) (h2 : ∀ c ∈ L.filter isCode, P c = true) : L.all P = true := by
  refine List.all_eq_true.mpr fun c hc => ?_
  have h := List.all_eq_true.mp h1 c hc
  rcases Bool.eq_false_or_eq_true (isCode c) with hi | hi
  · exact h2 c (List.mem_filter.mpr ⟨hc, hi⟩)
  · simpa [hi] using h
set_option maxRecDepth 65536 in
theorem w_c0 : (Jvm.Cond.code x code maxLocals ret).before args0 about1 = true := code_word (m := ⟨1, 1⟩) (meth := k1m1) (c := k1c1) (by decide +kernel) rfl rfl rfl (by decide +kernel)
set_option maxRecDepth 65536 in
theorem w_c1 : (Jvm.Cond.code ({ cls := "com/example/fivestone/fivestone/rules/Board", name := "<init>", desc := "(I)V" } : Jvm.MethodName) prog_19_method_1_code (2 : Nat) (Option.none : Option Jvm.ClassFile.FieldType)).before args0 about1 = true := code_word (m := ⟨2, 0⟩) (meth := k2m0) (c := k2c0) (by decide +kernel) rfl rfl rfl (by decide +kernel)
set_option maxRecDepth 65536 in
theorem w_c2 : (Jvm.Cond.code ({ cls := "java/lang/Object", name := "<init>", desc := "()V" } : Jvm.MethodName) object_method_1_code (1 : Nat) (Option.none : Option Jvm.ClassFile.FieldType)).before args0 about1 = true := code_word (m := ⟨0, 0⟩) (meth := k0m0) (c := k0c0) (by decide +kernel) rfl rfl rfl (by decide +kernel)
set_option maxRecDepth 65536 in
theorem w_c3 : (Jvm.Cond.code ({ cls := "com/example/fivestone/fivestone/rules/Board", name := "checkSize", desc := "(I)V" } : Jvm.MethodName) prog_19_method_3_code (1 : Nat) (Option.none : Option Jvm.ClassFile.FieldType)).before args0 about1 = true := code_word (m := ⟨2, 1⟩) (meth := k2m1) (c := k2c1) (by decide +kernel) rfl rfl rfl (by decide +kernel)
set_option maxRecDepth 65536 in
theorem w_c4 : (Jvm.Cond.code ({ cls := "com/example/fivestone/fivestone/rules/BoardIsFullPinLaw", name := "put", desc := "(Lcom/example/fivestone/fivestone/rules/Board;IIIJI)V" } : Jvm.MethodName) method_3_code (9 : Nat) (Option.none : Option Jvm.ClassFile.FieldType)).before args0 about1 = true := code_word (m := ⟨1, 2⟩) (meth := k1m2) (c := k1c2) (by decide +kernel) rfl rfl rfl (by decide +kernel)
set_option maxRecDepth 65536 in
theorem w_c5 : (Jvm.Cond.code ({ cls := "com/example/fivestone/fivestone/rules/Point", name := "<init>", desc := "(II)V" } : Jvm.MethodName) prog_28_method_1_code (3 : Nat) (Option.none : Option Jvm.ClassFile.FieldType)).before args0 about1 = true := code_word (m := ⟨9, 0⟩) (meth := k9m0) (c := k9c0) (by decide +kernel) rfl rfl rfl (by decide +kernel)
set_option maxRecDepth 65536 in
theorem w_c6 : (Jvm.Cond.code ({ cls := "java/lang/Record", name := "<init>", desc := "()V" } : Jvm.MethodName) jdk_30_method_1_code (1 : Nat) (Option.none : Option Jvm.ClassFile.FieldType)).before args0 about1 = true := code_word (m := ⟨8, 0⟩) (meth := k8m0) (c := k8c0) (by decide +kernel) rfl rfl rfl (by decide +kernel)
set_option maxRecDepth 65536 in
theorem w_c7 : (Jvm.Cond.code ({ cls := "com/example/fivestone/fivestone/rules/Board", name := "place", desc := "(Lcom/example/fivestone/fivestone/rules/Point;Lcom/example/fivestone/fivestone/rules/Stone;)V" } : Jvm.MethodName) prog_19_method_10_code (4 : Nat) (Option.none : Option Jvm.ClassFile.FieldType)).before args0 about1 = true := code_word (m := ⟨2, 5⟩) (meth := k2m5) (c := k2c5) (by decide +kernel) rfl rfl rfl (by decide +kernel)
set_option maxRecDepth 65536 in
theorem w_c8 : (Jvm.Cond.code ({ cls := "com/example/fivestone/fivestone/rules/Board", name := "refusal", desc := "(Lcom/example/fivestone/fivestone/rules/Point;)Ljava/util/Optional;" } : Jvm.MethodName) prog_19_method_8_code (2 : Nat) (Option.some (Jvm.ClassFile.FieldType.object "java/util/Optional"))).before args0 about1 = true := code_word (m := ⟨2, 4⟩) (meth := k2m4) (c := k2c4) (by decide +kernel) rfl rfl rfl (by decide +kernel)
set_option maxRecDepth 65536 in
theorem w_c9 : (Jvm.Cond.code ({ cls := "com/example/fivestone/fivestone/rules/Board", name := "contains", desc := "(Lcom/example/fivestone/fivestone/rules/Point;)Z" } : Jvm.MethodName) prog_19_method_6_code (2 : Nat) (Option.some Jvm.ClassFile.FieldType.boolean)).before args0 about1 = true := code_word (m := ⟨2, 2⟩) (meth := k2m2) (c := k2c2) (by decide +kernel) rfl rfl rfl (by decide +kernel)
set_option maxRecDepth 65536 in
theorem w_c10 : (Jvm.Cond.code ({ cls := "com/example/fivestone/fivestone/rules/Point", name := "column", desc := "()I" } : Jvm.MethodName) prog_28_method_8_code (1 : Nat) (Option.some Jvm.ClassFile.FieldType.int)).before args0 about1 = true := code_word (m := ⟨9, 1⟩) (meth := k9m1) (c := k9c1) (by decide +kernel) rfl rfl rfl (by decide +kernel)
set_option maxRecDepth 65536 in
theorem w_c11 : (Jvm.Cond.code ({ cls := "com/example/fivestone/fivestone/rules/Point", name := "row", desc := "()I" } : Jvm.MethodName) prog_28_method_9_code (1 : Nat) (Option.some Jvm.ClassFile.FieldType.int)).before args0 about1 = true := code_word (m := ⟨9, 2⟩) (meth := k9m2) (c := k9c2) (by decide +kernel) rfl rfl rfl (by decide +kernel)
set_option maxRecDepth 65536 in
theorem w_c12 : (Jvm.Cond.code ({ cls := "com/example/fivestone/fivestone/rules/Board", name := "stoneAt", desc := "(Lcom/example/fivestone/fivestone/rules/Point;)Lcom/example/fivestone/fivestone/rules/Stone;" } : Jvm.MethodName) prog_19_method_7_code (2 : Nat) (Option.some (Jvm.ClassFile.FieldType.object "com/example/fivestone/fivestone/rules/Stone"))).before args0 about1 = true := code_word (m := ⟨2, 3⟩) (meth := k2m3) (c := k2c3) (by decide +kernel) rfl rfl rfl (by decide +kernel)
set_option maxRecDepth 65536 in
theorem w_c13 : (Jvm.Cond.code ({ cls := "com/example/fivestone/fivestone/rules/Board", name := "index", desc := "(Lcom/example/fivestone/fivestone/rules/Point;)I" } : Jvm.MethodName) prog_19_method_16_code (2 : Nat) (Option.some Jvm.ClassFile.FieldType.int)).before args0 about1 = true := code_word (m := ⟨2, 7⟩) (meth := k2m7) (c := k2c7) (by decide +kernel) rfl rfl rfl (by decide +kernel)
set_option maxRecDepth 65536 in
theorem w_c14 : (Jvm.Cond.code ({ cls := "java/util/Optional", name := "empty", desc := "()Ljava/util/Optional;" } : Jvm.MethodName) jdk_32_method_1_code (1 : Nat) (Option.some (Jvm.ClassFile.FieldType.object "java/util/Optional"))).before args0 about1 = true := code_word (m := ⟨10, 0⟩) (meth := k10m0) (c := k10c0) (by decide +kernel) rfl rfl rfl (by decide +kernel)
set_option maxRecDepth 65536 in
theorem w_c15 : (Jvm.Cond.code ({ cls := "java/util/Optional", name := "isPresent", desc := "()Z" } : Jvm.MethodName) jdk_32_method_6_code (1 : Nat) (Option.some Jvm.ClassFile.FieldType.boolean)).before args0 about1 = true := code_word (m := ⟨10, 1⟩) (meth := k10m1) (c := k10c1) (by decide +kernel) rfl rfl rfl (by decide +kernel)
set_option maxRecDepth 65536 in
theorem w_c16 : (Jvm.Cond.code ({ cls := "com/example/fivestone/fivestone/rules/Board", name := "isFull", desc := "()Z" } : Jvm.MethodName) prog_19_method_14_code (1 : Nat) (Option.some Jvm.ClassFile.FieldType.boolean)).before args0 about1 = true := code_word (m := ⟨2, 6⟩) (meth := k2m6) (c := k2c6) (by decide +kernel) rfl rfl rfl (by decide +kernel)
def codes1 : List Jvm.Cond := [Jvm.Cond.code x code maxLocals ret, Jvm.Cond.code ({ cls := "com/example/fivestone/fivestone/rules/Board", name := "<init>", desc := "(I)V" } : Jvm.MethodName) prog_19_method_1_code (2 : Nat) (Option.none : Option Jvm.ClassFile.FieldType), Jvm.Cond.code ({ cls := "java/lang/Object", name := "<init>", desc := "()V" } : Jvm.MethodName) object_method_1_code (1 : Nat) (Option.none : Option Jvm.ClassFile.FieldType), Jvm.Cond.code ({ cls := "com/example/fivestone/fivestone/rules/Board", name := "checkSize", desc := "(I)V" } : Jvm.MethodName) prog_19_method_3_code (1 : Nat) (Option.none : Option Jvm.ClassFile.FieldType), Jvm.Cond.code ({ cls := "com/example/fivestone/fivestone/rules/BoardIsFullPinLaw", name := "put", desc := "(Lcom/example/fivestone/fivestone/rules/Board;IIIJI)V" } : Jvm.MethodName) method_3_code (9 : Nat) (Option.none : Option Jvm.ClassFile.FieldType), Jvm.Cond.code ({ cls := "com/example/fivestone/fivestone/rules/Point", name := "<init>", desc := "(II)V" } : Jvm.MethodName) prog_28_method_1_code (3 : Nat) (Option.none : Option Jvm.ClassFile.FieldType), Jvm.Cond.code ({ cls := "java/lang/Record", name := "<init>", desc := "()V" } : Jvm.MethodName) jdk_30_method_1_code (1 : Nat) (Option.none : Option Jvm.ClassFile.FieldType), Jvm.Cond.code ({ cls := "com/example/fivestone/fivestone/rules/Board", name := "place", desc := "(Lcom/example/fivestone/fivestone/rules/Point;Lcom/example/fivestone/fivestone/rules/Stone;)V" } : Jvm.MethodName) prog_19_method_10_code (4 : Nat) (Option.none : Option Jvm.ClassFile.FieldType), Jvm.Cond.code ({ cls := "com/example/fivestone/fivestone/rules/Board", name := "refusal", desc := "(Lcom/example/fivestone/fivestone/rules/Point;)Ljava/util/Optional;" } : Jvm.MethodName) prog_19_method_8_code (2 : Nat) (Option.some (Jvm.ClassFile.FieldType.object "java/util/Optional")), Jvm.Cond.code ({ cls := "com/example/fivestone/fivestone/rules/Board", name := "contains", desc := "(Lcom/example/fivestone/fivestone/rules/Point;)Z" } : Jvm.MethodName) prog_19_method_6_code (2 : Nat) (Option.some Jvm.ClassFile.FieldType.boolean), Jvm.Cond.code ({ cls := "com/example/fivestone/fivestone/rules/Point", name := "column", desc := "()I" } : Jvm.MethodName) prog_28_method_8_code (1 : Nat) (Option.some Jvm.ClassFile.FieldType.int), Jvm.Cond.code ({ cls := "com/example/fivestone/fivestone/rules/Point", name := "row", desc := "()I" } : Jvm.MethodName) prog_28_method_9_code (1 : Nat) (Option.some Jvm.ClassFile.FieldType.int), Jvm.Cond.code ({ cls := "com/example/fivestone/fivestone/rules/Board", name := "stoneAt", desc := "(Lcom/example/fivestone/fivestone/rules/Point;)Lcom/example/fivestone/fivestone/rules/Stone;" } : Jvm.MethodName) prog_19_method_7_code (2 : Nat) (Option.some (Jvm.ClassFile.FieldType.object "com/example/fivestone/fivestone/rules/Stone")), Jvm.Cond.code ({ cls := "com/example/fivestone/fivestone/rules/Board", name := "index", desc := "(Lcom/example/fivestone/fivestone/rules/Point;)I" } : Jvm.MethodName) prog_19_method_16_code (2 : Nat) (Option.some Jvm.ClassFile.FieldType.int), Jvm.Cond.code ({ cls := "java/util/Optional", name := "empty", desc := "()Ljava/util/Optional;" } : Jvm.MethodName) jdk_32_method_1_code (1 : Nat) (Option.some (Jvm.ClassFile.FieldType.object "java/util/Optional")), Jvm.Cond.code ({ cls := "java/util/Optional", name := "isPresent", desc := "()Z" } : Jvm.MethodName) jdk_32_method_6_code (1 : Nat) (Option.some Jvm.ClassFile.FieldType.boolean), Jvm.Cond.code ({ cls := "com/example/fivestone/fivestone/rules/Board", name := "isFull", desc := "()Z" } : Jvm.MethodName) prog_19_method_14_code (1 : Nat) (Option.some Jvm.ClassFile.FieldType.boolean)]
set_option maxRecDepth 65536 in
theorem codes_eq : words1.filter isCode = codes1 := rfl
theorem w_codes : ∀ c ∈ words1.filter isCode, c.before args0 about1 = true := by
  rw [codes_eq]
  intro c hc
  simp only [codes1, List.mem_cons, List.not_mem_nil, or_false] at hc
  rcases hc with rfl | rfl | rfl | rfl | rfl | rfl | rfl | rfl | rfl | rfl | rfl | rfl | rfl | rfl | rfl | rfl | rfl
  · exact w_c0
  · exact w_c1
  · exact w_c2
  · exact w_c3
  · exact w_c4
  · exact w_c5
  · exact w_c6
  · exact w_c7
  · exact w_c8
  · exact w_c9
  · exact w_c10
  · exact w_c11
  · exact w_c12
  · exact w_c13
  · exact w_c14
  · exact w_c15
  · exact w_c16
set_option maxRecDepth 65536 in
theorem w_t1 : (words1.take 24).all (fun c => isCode c || c.before args0 about1) = true := by decide +kernel
set_option maxRecDepth 65536 in
theorem w_t2 : ((words1.drop 24).take 24).all (fun c => isCode c || c.before args0 about1) = true := by decide +kernel
set_option maxRecDepth 65536 in
theorem w_t3 : (((words1.drop 24).drop 24).take 24).all (fun c => isCode c || c.before args0 about1) = true := by decide +kernel
set_option maxRecDepth 65536 in
theorem w_t4 : ((((words1.drop 24).drop 24).drop 24).take 24).all (fun c => isCode c || c.before args0 about1) = true := by decide +kernel
set_option maxRecDepth 65536 in
theorem w_t5 : ((((words1.drop 24).drop 24).drop 24).drop 24).all (fun c => isCode c || c.before args0 about1) = true := by decide +kernel
theorem w_tables : (allAtoms (Jvm.Cond.code x code maxLocals ret :: tables_1)).before args0 about1 = true := by
  rw [allAtoms_all]
  show words1.all (fun c => c.before args0 about1) = true
  refine all_split ?_ w_codes
  rw [← List.take_append_drop 24 words1, List.all_append, w_t1, ← List.take_append_drop 24 (words1.drop 24), List.all_append, w_t2, ← List.take_append_drop 24 ((words1.drop 24).drop 24), List.all_append, w_t3, ← List.take_append_drop 24 (((words1.drop 24).drop 24).drop 24), List.all_append, w_t4, w_t5]
  rfl
set_option maxRecDepth 65536 in
theorem w_rest : rest_1_c.before args0 about1 = true := by decide +kernel
set_option maxRecDepth 65536 in
theorem w_case : (Jvm.Cond.and given_1 narrow_1).before args0 about1 = true := by decide +kernel
theorem w_applies : (headSpec (Jvm.Cond.code x code maxLocals ret :: tables_1) room_1).applies x e0.platform about1 = true :=
  (Spec.applies_iff w_frames).mpr ⟨w_running, w_runnable, w_alone, w_named, w_hears, w_ripe, w_room, w_tables⟩
theorem atStart : AtStart classFile x code maxLocals ret World_1 tables_1 room_1 Calls_1 rest_1 Pre_1 launch0 p0 e0 about1 theMethod args0 below0 :=
  ⟨lists_1, trivial, launch0.admits_env _ _ _, launch0.least_env, fairChoices_fair.cas, fairChoices_fair.clock, w_frames, w_args, w_heap, w_applies, trivial, w_rest, w_case⟩
end start1
theorem witness_1 : WitnessClaimed_1 := ⟨start1.p0, start1.e0, start1.about1, start1.theMethod, start1.args0, start1.below0, start1.atStart⟩
end Jvm.Pilot.@@N@@
