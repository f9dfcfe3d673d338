import JvmDerived
import JvmDerived.Pilot.@@N@@Statement
import JvmDerived.Pilot.@@N@@Code
set_option linter.unusedVariables false
set_option linter.unusedSimpArgs false
namespace Jvm.Pilot.@@N@@
open Jvm Jvm.ClassFile Sem Op Lib Jvm.Free Jvm.Stand Jvm.LawKit Jvm.RoadKit Bundle Jvm.Pilot.@@N@@.Jvm.D
section Own
variable {p : Program} {l : Launch} {e : Env} {R : Room} {s : State} {m : MethodId} {args : Array Value} {below : List Frame} {meth : Method} {c : Code} {T : State} {locs : List Loc} {cells slots : Nat} {C S : Nat} {Q : Option Value → Heap → List Loc → Prop}
/-- from the state T with the frame g on top the run comes to the method's end, and Q holds there -/
def Goes (p : Program) (e : Env) (below : List Frame) (s : State) (C S : Nat) (Q : Option Value → Heap → List Loc → Prop) (T : State) (g : JFrame) : Prop :=
  ∃ s₂ o, Steps p.tables e below (T.setTop g) s₂ ∧ s₂.status = .running ∧ Ended s₂ below o ∧ ∃ v L, o = .returned v ∧ Q v s₂.heap L ∧ FrameEnd s o s₂ L C S
theorem Goes.go {T' : State} {g g' : JFrame} (st : ∀ t, Steps p.tables e below (T'.setTop g') t → Steps p.tables e below (T.setTop g) t) (h : Goes p e below s C S Q T' g') : Goes p e below s C S Q T g := by
  obtain ⟨s₂, o, h1, h2⟩ := h; exact ⟨s₂, o, st _ h1, h2⟩
theorem Goes.tr {T' : State} {g g' : JFrame} (st : Steps p.tables e below (T.setTop g) (T'.setTop g')) (h : Goes p e below s C S Q T' g') : Goes p e below s C S Q T g := Goes.go (fun _ k => st.trans k) h
/-- a value comes back -/
theorem own_ret (X : Stand p l e R s m args below meth c T locs cells slots) (hx : p.tables.exec = Jvm.exec) (hlk : meth.locks = false) {t : FieldType} (hret : meth.sig.returnType = some t) {i : Instr} {w : Value} (hn : narrow t w = w)
    (hi : (i = .ireturn ∧ (t = .int ∨ t = .boolean ∨ t = .byte ∨ t = .char ∨ t = .short) ∧ ∃ z, w = .int z) ∨ (i = .lreturn ∧ t = .long ∧ ∃ z, w = .long z) ∨ (i = .dreturn ∧ t = .double ∧ ∃ z, w = .double z) ∨ (i = .freturn ∧ t = .float ∧ ∃ z, w = .float z) ∨ (i = .areturn ∧ t.isReference = true ∧ w.isRef = true))
    {pc : Nat} {Ls : Array Slot} {rest : List Value} (hd : decode c.code pc = .ok (i, 1)) (hC : cells ≤ C) (hS : slots ≤ S) {h : Heap} (eT : T.heap = h) (hQ : Q (some w) h locs) : Goes p e below s C S Q T (mkF m pc Ls (w :: rest)) := by
  obtain ⟨fs, hr, hrun, hended, hW, hsame⟩ := X.leave (v := some w) (fun h => by rw [hret] at h; cases h)
  subst eT
  exact ⟨_, _, retOut X hx hret hn hi hd hr, hrun, hended, _, _, rfl, hQ, ⟨_, rfl⟩, hW, hsame.mono hC hS⟩
theorem own_retI (X : Stand p l e R s m args below meth c T locs cells slots) (hx : p.tables.exec = Jvm.exec) (hlk : meth.locks = false) (hret : meth.sig.returnType = some .int) {z : Int32}
    {pc : Nat} {Ls : Array Slot} {rest : List Value} (hd : decode c.code pc = .ok (.ireturn, 1)) (hC : cells ≤ C) (hS : slots ≤ S) {h : Heap} (eT : T.heap = h) (hQ : Q (some (.int z)) h locs) : Goes p e below s C S Q T (mkF m pc Ls (.int z :: rest)) :=
  own_ret X hx hlk hret rfl (Or.inl ⟨rfl, Or.inl rfl, z, rfl⟩) hd hC hS eT hQ
theorem own_retZ (X : Stand p l e R s m args below meth c T locs cells slots) (hx : p.tables.exec = Jvm.exec) (hlk : meth.locks = false) (hret : meth.sig.returnType = some .boolean) {z : Int32} (hn : narrow .boolean (.int z) = .int z)
    {pc : Nat} {Ls : Array Slot} {rest : List Value} (hd : decode c.code pc = .ok (.ireturn, 1)) (hC : cells ≤ C) (hS : slots ≤ S) {h : Heap} (eT : T.heap = h) (hQ : Q (some (.int z)) h locs) : Goes p e below s C S Q T (mkF m pc Ls (.int z :: rest)) :=
  own_ret X hx hlk hret hn (Or.inl ⟨rfl, Or.inr (Or.inl rfl), z, rfl⟩) hd hC hS eT hQ
theorem own_retJ (X : Stand p l e R s m args below meth c T locs cells slots) (hx : p.tables.exec = Jvm.exec) (hlk : meth.locks = false) (hret : meth.sig.returnType = some .long) {z : Int64}
    {pc : Nat} {Ls : Array Slot} {rest : List Value} (hd : decode c.code pc = .ok (.lreturn, 1)) (hC : cells ≤ C) (hS : slots ≤ S) {h : Heap} (eT : T.heap = h) (hQ : Q (some (.long z)) h locs) : Goes p e below s C S Q T (mkF m pc Ls (.long z :: rest)) :=
  own_ret X hx hlk hret rfl (Or.inr (Or.inl ⟨rfl, rfl, z, rfl⟩)) hd hC hS eT hQ
theorem own_narR {t : FieldType} {w : Value} (hw : w.isRef = true) : narrow t w = w := by
  rcases ref_cases hw with rfl | ⟨a, rfl⟩ <;> cases t <;> rfl
theorem own_retR (X : Stand p l e R s m args below meth c T locs cells slots) (hx : p.tables.exec = Jvm.exec) (hlk : meth.locks = false) {t : FieldType} (hret : meth.sig.returnType = some t) (ht : t.isReference = true) {w : Value} (hw : w.isRef = true)
    {pc : Nat} {Ls : Array Slot} {rest : List Value} (hd : decode c.code pc = .ok (.areturn, 1)) (hC : cells ≤ C) (hS : slots ≤ S) {h : Heap} (eT : T.heap = h) (hQ : Q (some w) h locs) : Goes p e below s C S Q T (mkF m pc Ls (w :: rest)) :=
  own_ret X hx hlk hret (own_narR hw) (Or.inr (Or.inr (Or.inr (Or.inr ⟨rfl, ht, hw⟩)))) hd hC hS eT hQ
theorem own_retV (X : Stand p l e R s m args below meth c T locs cells slots) (hx : p.tables.exec = Jvm.exec) (hlk : meth.locks = false) (hret : meth.sig.returnType = none)
    {pc : Nat} {Ls : Array Slot} (hd : decode c.code pc = .ok (.return_, 1)) (hC : cells ≤ C) (hS : slots ≤ S) {h : Heap} (eT : T.heap = h) (hQ : Q none h locs) : Goes p e below s C S Q T (mkF m pc Ls []) := by
  obtain ⟨fs, hr, hrun, hended, hW, hsame⟩ := X.leave (v := none) (fun _ => rfl)
  subst eT
  exact ⟨_, _, X.returnOut hx hret hd hr, hrun, hended, _, _, rfl, hQ, ⟨_, rfl⟩, hW, hsame.mono hC hS⟩
/-- the entry -/
theorem own_enter {s₁ : State} {maxL : Nat} {as' : Array Value} {Ls : Array Slot} (hE : entryFrame m as' maxL = mkF m 0 Ls []) (h : Goes p e below s C S Q s₁ (mkF m 0 Ls [])) :
    ∃ s₂ o, Steps p.tables e below (s₁.setTop (entryFrame m as' maxL)) s₂ ∧ s₂.status = .running ∧ Ended s₂ below o ∧ ∃ v L, o = .returned v ∧ Q v s₂.heap L ∧ FrameEnd s o s₂ L C S := by
  rw [hE]; exact h
section Steps1
variable {pc : Nat} {Ls : Array Slot} {rest : List Value}
theorem own_iadd (X : Stand p l e R s m args below meth c T locs cells slots) (hx : p.tables.exec = Jvm.exec) (pc' : Nat) (hp : pc + 1 = pc') {x y z : Int32} (hd : decode c.code pc = .ok (.iadd, 1)) (hz : x + y = z) (h : Goes p e below s C S Q T (mkF m pc' Ls (.int z :: rest))) : Goes p e below s C S Q T (mkF m pc Ls (.int y :: .int x :: rest)) := by
  subst hp; subst hz; exact Goes.go (fun _ k => XS.iadd X.here hx rfl hd rfl k) h
theorem own_isub (X : Stand p l e R s m args below meth c T locs cells slots) (hx : p.tables.exec = Jvm.exec) (pc' : Nat) (hp : pc + 1 = pc') {x y z : Int32} (hd : decode c.code pc = .ok (.isub, 1)) (hz : x - y = z) (h : Goes p e below s C S Q T (mkF m pc' Ls (.int z :: rest))) : Goes p e below s C S Q T (mkF m pc Ls (.int y :: .int x :: rest)) := by
  subst hp; subst hz; exact Goes.go (fun _ k => XS.isub X.here hx rfl hd rfl k) h
theorem own_imul (X : Stand p l e R s m args below meth c T locs cells slots) (hx : p.tables.exec = Jvm.exec) (pc' : Nat) (hp : pc + 1 = pc') {x y z : Int32} (hd : decode c.code pc = .ok (.imul, 1)) (hz : x * y = z) (h : Goes p e below s C S Q T (mkF m pc' Ls (.int z :: rest))) : Goes p e below s C S Q T (mkF m pc Ls (.int y :: .int x :: rest)) := by
  subst hp; subst hz; exact Goes.go (fun _ k => XS.imul X.here hx rfl hd rfl k) h
theorem own_iand (X : Stand p l e R s m args below meth c T locs cells slots) (hx : p.tables.exec = Jvm.exec) (pc' : Nat) (hp : pc + 1 = pc') {x y z : Int32} (hd : decode c.code pc = .ok (.iand, 1)) (hz : x &&& y = z) (h : Goes p e below s C S Q T (mkF m pc' Ls (.int z :: rest))) : Goes p e below s C S Q T (mkF m pc Ls (.int y :: .int x :: rest)) := by
  subst hp; subst hz; exact Goes.go (fun _ k => XS.iand X.here hx rfl hd rfl k) h
theorem own_ior (X : Stand p l e R s m args below meth c T locs cells slots) (hx : p.tables.exec = Jvm.exec) (pc' : Nat) (hp : pc + 1 = pc') {x y z : Int32} (hd : decode c.code pc = .ok (.ior, 1)) (hz : x ||| y = z) (h : Goes p e below s C S Q T (mkF m pc' Ls (.int z :: rest))) : Goes p e below s C S Q T (mkF m pc Ls (.int y :: .int x :: rest)) := by
  subst hp; subst hz; exact Goes.go (fun _ k => XS.ior X.here hx rfl hd rfl k) h
theorem own_ixor (X : Stand p l e R s m args below meth c T locs cells slots) (hx : p.tables.exec = Jvm.exec) (pc' : Nat) (hp : pc + 1 = pc') {x y z : Int32} (hd : decode c.code pc = .ok (.ixor, 1)) (hz : x ^^^ y = z) (h : Goes p e below s C S Q T (mkF m pc' Ls (.int z :: rest))) : Goes p e below s C S Q T (mkF m pc Ls (.int y :: .int x :: rest)) := by
  subst hp; subst hz; exact Goes.go (fun _ k => XS.ixor X.here hx rfl hd rfl k) h
theorem own_idiv (X : Stand p l e R s m args below meth c T locs cells slots) (hx : p.tables.exec = Jvm.exec) (pc' : Nat) (hp : pc + 1 = pc') {x y z : Int32} (hd : decode c.code pc = .ok (.idiv, 1)) (hy : y ≠ 0) (hz : x / y = z) (h : Goes p e below s C S Q T (mkF m pc' Ls (.int z :: rest))) : Goes p e below s C S Q T (mkF m pc Ls (.int y :: .int x :: rest)) := by
  subst hp; subst hz; exact Goes.go (fun _ k => XS.idiv X.here hx rfl hd rfl hy k) h
theorem own_ishl (X : Stand p l e R s m args below meth c T locs cells slots) (hx : p.tables.exec = Jvm.exec) (pc' : Nat) (hp : pc + 1 = pc') {x z : Int32} {y : Int32} (hd : decode c.code pc = .ok (.ishl, 1)) (hz : (x <<< (y &&& 31)) = z) (h : Goes p e below s C S Q T (mkF m pc' Ls (.int z :: rest))) : Goes p e below s C S Q T (mkF m pc Ls (.int y :: .int x :: rest)) := by
  subst hp; subst hz; exact Goes.go (fun _ k => XS.ishl X.here hx rfl hd rfl k) h
theorem own_ishr (X : Stand p l e R s m args below meth c T locs cells slots) (hx : p.tables.exec = Jvm.exec) (pc' : Nat) (hp : pc + 1 = pc') {x z : Int32} {y : Int32} (hd : decode c.code pc = .ok (.ishr, 1)) (hz : (x >>> (y &&& 31)) = z) (h : Goes p e below s C S Q T (mkF m pc' Ls (.int z :: rest))) : Goes p e below s C S Q T (mkF m pc Ls (.int y :: .int x :: rest)) := by
  subst hp; subst hz; exact Goes.go (fun _ k => XS.ishr X.here hx rfl hd rfl k) h
theorem own_iushr (X : Stand p l e R s m args below meth c T locs cells slots) (hx : p.tables.exec = Jvm.exec) (pc' : Nat) (hp : pc + 1 = pc') {x z : Int32} {y : Int32} (hd : decode c.code pc = .ok (.iushr, 1)) (hz : ((x.toUInt32 >>> (y &&& 31).toUInt32).toInt32) = z) (h : Goes p e below s C S Q T (mkF m pc' Ls (.int z :: rest))) : Goes p e below s C S Q T (mkF m pc Ls (.int y :: .int x :: rest)) := by
  subst hp; subst hz; exact Goes.go (fun _ k => XS.iushr X.here hx rfl hd rfl k) h
theorem own_ladd (X : Stand p l e R s m args below meth c T locs cells slots) (hx : p.tables.exec = Jvm.exec) (pc' : Nat) (hp : pc + 1 = pc') {x y z : Int64} (hd : decode c.code pc = .ok (.ladd, 1)) (hz : x + y = z) (h : Goes p e below s C S Q T (mkF m pc' Ls (.long z :: rest))) : Goes p e below s C S Q T (mkF m pc Ls (.long y :: .long x :: rest)) := by
  subst hp; subst hz; exact Goes.go (fun _ k => XS.ladd X.here hx rfl hd rfl k) h
theorem own_lsub (X : Stand p l e R s m args below meth c T locs cells slots) (hx : p.tables.exec = Jvm.exec) (pc' : Nat) (hp : pc + 1 = pc') {x y z : Int64} (hd : decode c.code pc = .ok (.lsub, 1)) (hz : x - y = z) (h : Goes p e below s C S Q T (mkF m pc' Ls (.long z :: rest))) : Goes p e below s C S Q T (mkF m pc Ls (.long y :: .long x :: rest)) := by
  subst hp; subst hz; exact Goes.go (fun _ k => XS.lsub X.here hx rfl hd rfl k) h
theorem own_lmul (X : Stand p l e R s m args below meth c T locs cells slots) (hx : p.tables.exec = Jvm.exec) (pc' : Nat) (hp : pc + 1 = pc') {x y z : Int64} (hd : decode c.code pc = .ok (.lmul, 1)) (hz : x * y = z) (h : Goes p e below s C S Q T (mkF m pc' Ls (.long z :: rest))) : Goes p e below s C S Q T (mkF m pc Ls (.long y :: .long x :: rest)) := by
  subst hp; subst hz; exact Goes.go (fun _ k => XS.lmul X.here hx rfl hd rfl k) h
theorem own_land (X : Stand p l e R s m args below meth c T locs cells slots) (hx : p.tables.exec = Jvm.exec) (pc' : Nat) (hp : pc + 1 = pc') {x y z : Int64} (hd : decode c.code pc = .ok (.land, 1)) (hz : x &&& y = z) (h : Goes p e below s C S Q T (mkF m pc' Ls (.long z :: rest))) : Goes p e below s C S Q T (mkF m pc Ls (.long y :: .long x :: rest)) := by
  subst hp; subst hz; exact Goes.go (fun _ k => XS.land X.here hx rfl hd rfl k) h
theorem own_lor (X : Stand p l e R s m args below meth c T locs cells slots) (hx : p.tables.exec = Jvm.exec) (pc' : Nat) (hp : pc + 1 = pc') {x y z : Int64} (hd : decode c.code pc = .ok (.lor, 1)) (hz : x ||| y = z) (h : Goes p e below s C S Q T (mkF m pc' Ls (.long z :: rest))) : Goes p e below s C S Q T (mkF m pc Ls (.long y :: .long x :: rest)) := by
  subst hp; subst hz; exact Goes.go (fun _ k => XS.lor X.here hx rfl hd rfl k) h
theorem own_lxor (X : Stand p l e R s m args below meth c T locs cells slots) (hx : p.tables.exec = Jvm.exec) (pc' : Nat) (hp : pc + 1 = pc') {x y z : Int64} (hd : decode c.code pc = .ok (.lxor, 1)) (hz : x ^^^ y = z) (h : Goes p e below s C S Q T (mkF m pc' Ls (.long z :: rest))) : Goes p e below s C S Q T (mkF m pc Ls (.long y :: .long x :: rest)) := by
  subst hp; subst hz; exact Goes.go (fun _ k => XS.lxor X.here hx rfl hd rfl k) h
theorem own_ldiv (X : Stand p l e R s m args below meth c T locs cells slots) (hx : p.tables.exec = Jvm.exec) (pc' : Nat) (hp : pc + 1 = pc') {x y z : Int64} (hd : decode c.code pc = .ok (.ldiv, 1)) (hy : y ≠ 0) (hz : x / y = z) (h : Goes p e below s C S Q T (mkF m pc' Ls (.long z :: rest))) : Goes p e below s C S Q T (mkF m pc Ls (.long y :: .long x :: rest)) := by
  subst hp; subst hz; exact Goes.go (fun _ k => XS.ldiv X.here hx rfl hd rfl hy k) h
theorem own_lshl (X : Stand p l e R s m args below meth c T locs cells slots) (hx : p.tables.exec = Jvm.exec) (pc' : Nat) (hp : pc + 1 = pc') {x z : Int64} {y : Int32} (hd : decode c.code pc = .ok (.lshl, 1)) (hz : (x <<< (y &&& 0x3f).toInt64) = z) (h : Goes p e below s C S Q T (mkF m pc' Ls (.long z :: rest))) : Goes p e below s C S Q T (mkF m pc Ls (.int y :: .long x :: rest)) := by
  subst hp; subst hz; exact Goes.go (fun _ k => XS.lshl X.here hx rfl hd rfl k) h
theorem own_lshr (X : Stand p l e R s m args below meth c T locs cells slots) (hx : p.tables.exec = Jvm.exec) (pc' : Nat) (hp : pc + 1 = pc') {x z : Int64} {y : Int32} (hd : decode c.code pc = .ok (.lshr, 1)) (hz : (x >>> (y &&& 0x3f).toInt64) = z) (h : Goes p e below s C S Q T (mkF m pc' Ls (.long z :: rest))) : Goes p e below s C S Q T (mkF m pc Ls (.int y :: .long x :: rest)) := by
  subst hp; subst hz; exact Goes.go (fun _ k => XS.lshr X.here hx rfl hd rfl k) h
theorem own_lushr (X : Stand p l e R s m args below meth c T locs cells slots) (hx : p.tables.exec = Jvm.exec) (pc' : Nat) (hp : pc + 1 = pc') {x z : Int64} {y : Int32} (hd : decode c.code pc = .ok (.lushr, 1)) (hz : ((x.toUInt64 >>> (y &&& 0x3f).toInt64.toUInt64).toInt64) = z) (h : Goes p e below s C S Q T (mkF m pc' Ls (.long z :: rest))) : Goes p e below s C S Q T (mkF m pc Ls (.int y :: .long x :: rest)) := by
  subst hp; subst hz; exact Goes.go (fun _ k => XS.lushr X.here hx rfl hd rfl k) h
theorem own_irem (X : Stand p l e R s m args below meth c T locs cells slots) (hx : p.tables.exec = Jvm.exec) (pc' : Nat) (hp : pc + 1 = pc') {x y z : Int32} (hd : decode c.code pc = .ok (.irem, 1)) (hy : y ≠ 0) (hz : x % y = z) (h : Goes p e below s C S Q T (mkF m pc' Ls (.int z :: rest))) : Goes p e below s C S Q T (mkF m pc Ls (.int y :: .int x :: rest)) := by
  subst hp; subst hz; exact Goes.go (fun _ k => iremM X hx rfl hd rfl hy k) h
theorem own_lrem (X : Stand p l e R s m args below meth c T locs cells slots) (hx : p.tables.exec = Jvm.exec) (pc' : Nat) (hp : pc + 1 = pc') {x y z : Int64} (hd : decode c.code pc = .ok (.lrem, 1)) (hy : y ≠ 0) (hz : x % y = z) (h : Goes p e below s C S Q T (mkF m pc' Ls (.long z :: rest))) : Goes p e below s C S Q T (mkF m pc Ls (.long y :: .long x :: rest)) := by
  subst hp; subst hz; exact Goes.go (fun _ k => XS.lrem X.here hx rfl hd rfl hy (by rw [lrem_mod]; exact k)) h
theorem own_ineg (X : Stand p l e R s m args below meth c T locs cells slots) (hx : p.tables.exec = Jvm.exec) (pc' : Nat) (hp : pc + 1 = pc') {x : Int32} {z : Int32} (hd : decode c.code pc = .ok (.ineg, 1)) (hz : -x = z) (h : Goes p e below s C S Q T (mkF m pc' Ls (.int z :: rest))) : Goes p e below s C S Q T (mkF m pc Ls (.int x :: rest)) := by
  subst hp; subst hz; exact Goes.go (fun _ k => XS.ineg X.here hx rfl hd rfl k) h
theorem own_lneg (X : Stand p l e R s m args below meth c T locs cells slots) (hx : p.tables.exec = Jvm.exec) (pc' : Nat) (hp : pc + 1 = pc') {x : Int64} {z : Int64} (hd : decode c.code pc = .ok (.lneg, 1)) (hz : -x = z) (h : Goes p e below s C S Q T (mkF m pc' Ls (.long z :: rest))) : Goes p e below s C S Q T (mkF m pc Ls (.long x :: rest)) := by
  subst hp; subst hz; exact Goes.go (fun _ k => XS.lneg X.here hx rfl hd rfl k) h
theorem own_i2l (X : Stand p l e R s m args below meth c T locs cells slots) (hx : p.tables.exec = Jvm.exec) (pc' : Nat) (hp : pc + 1 = pc') {x : Int32} {z : Int64} (hd : decode c.code pc = .ok (.i2l, 1)) (hz : x.toInt64 = z) (h : Goes p e below s C S Q T (mkF m pc' Ls (.long z :: rest))) : Goes p e below s C S Q T (mkF m pc Ls (.int x :: rest)) := by
  subst hp; subst hz; exact Goes.go (fun _ k => XS.i2l X.here hx rfl hd rfl k) h
theorem own_l2i (X : Stand p l e R s m args below meth c T locs cells slots) (hx : p.tables.exec = Jvm.exec) (pc' : Nat) (hp : pc + 1 = pc') {x : Int64} {z : Int32} (hd : decode c.code pc = .ok (.l2i, 1)) (hz : x.toInt32 = z) (h : Goes p e below s C S Q T (mkF m pc' Ls (.int z :: rest))) : Goes p e below s C S Q T (mkF m pc Ls (.long x :: rest)) := by
  subst hp; subst hz; exact Goes.go (fun _ k => XS.l2i X.here hx rfl hd rfl k) h
theorem own_i2b (X : Stand p l e R s m args below meth c T locs cells slots) (hx : p.tables.exec = Jvm.exec) (pc' : Nat) (hp : pc + 1 = pc') {x : Int32} {z : Int32} (hd : decode c.code pc = .ok (.i2b, 1)) (hz : x.toInt8.toInt32 = z) (h : Goes p e below s C S Q T (mkF m pc' Ls (.int z :: rest))) : Goes p e below s C S Q T (mkF m pc Ls (.int x :: rest)) := by
  subst hp; subst hz; exact Goes.go (fun _ k => XS.i2b X.here hx rfl hd rfl k) h
theorem own_i2s (X : Stand p l e R s m args below meth c T locs cells slots) (hx : p.tables.exec = Jvm.exec) (pc' : Nat) (hp : pc + 1 = pc') {x : Int32} {z : Int32} (hd : decode c.code pc = .ok (.i2s, 1)) (hz : x.toInt16.toInt32 = z) (h : Goes p e below s C S Q T (mkF m pc' Ls (.int z :: rest))) : Goes p e below s C S Q T (mkF m pc Ls (.int x :: rest)) := by
  subst hp; subst hz; exact Goes.go (fun _ k => XS.i2s X.here hx rfl hd rfl k) h
theorem own_i2c (X : Stand p l e R s m args below meth c T locs cells slots) (hx : p.tables.exec = Jvm.exec) (pc' : Nat) (hp : pc + 1 = pc') {x : Int32} {z : Int32} (hd : decode c.code pc = .ok (.i2c, 1)) (hz : x.toUInt32.toUInt16.toUInt32.toInt32 = z) (h : Goes p e below s C S Q T (mkF m pc' Ls (.int z :: rest))) : Goes p e below s C S Q T (mkF m pc Ls (.int x :: rest)) := by
  subst hp; subst hz; exact Goes.go (fun _ k => XS.i2c X.here hx rfl hd rfl k) h
theorem own_lcmp (X : Stand p l e R s m args below meth c T locs cells slots) (hx : p.tables.exec = Jvm.exec) (pc' : Nat) (hp : pc + 1 = pc') {x y : Int64} (hd : decode c.code pc = .ok (.lcmp, 1))  (h : Goes p e below s C S Q T (mkF m pc' Ls (.int (lcmpW x y) :: rest))) : Goes p e below s C S Q T (mkF m pc Ls (.long y :: .long x :: rest)) := by
  subst hp; exact Goes.go (fun _ k => XS.lcmp X.here hx rfl hd rfl k) h
theorem own_iload (X : Stand p l e R s m args below meth c T locs cells slots) (hx : p.tables.exec = Jvm.exec) (pc' : Nat) (hp : pc + 2 = pc') {k : Nat} {v : Int32} (hd : decode c.code pc = .ok (.iload k, 2)) (hl : Ls[k]? = some (.val (.int v))) (h : Goes p e below s C S Q T (mkF m pc' Ls ((.int v) :: rest))) : Goes p e below s C S Q T (mkF m pc Ls rest) := by
  subst hp; exact Goes.go (fun _ k => XS.iload X.here hx rfl hd hl k) h
theorem own_iloadN (X : Stand p l e R s m args below meth c T locs cells slots) (hx : p.tables.exec = Jvm.exec) (pc' : Nat) (hp : pc + 1 = pc') {k : Fin 4} {v : Int32} (hd : decode c.code pc = .ok (.iload_n k, 1)) (hl : Ls[k.val]? = some (.val (.int v))) (h : Goes p e below s C S Q T (mkF m pc' Ls ((.int v) :: rest))) : Goes p e below s C S Q T (mkF m pc Ls rest) := by
  subst hp; exact Goes.go (fun _ k => XS.iloadN X.here hx rfl hd hl k) h
theorem own_istore (X : Stand p l e R s m args below meth c T locs cells slots) (hx : p.tables.exec = Jvm.exec) (pc' : Nat) (hp : pc + 2 = pc') {k : Nat} {v : Int32} (Ls' : Array Slot) (hd : decode c.code pc = .ok (.istore k, 2)) (hl : storeLocals Ls k (.int v) = some Ls') (h : Goes p e below s C S Q T (mkF m pc' Ls' rest)) : Goes p e below s C S Q T (mkF m pc Ls ((.int v) :: rest)) := by
  subst hp; exact Goes.go (fun _ k => XS.istore X.here hx rfl hd rfl hl k) h
theorem own_istoreN (X : Stand p l e R s m args below meth c T locs cells slots) (hx : p.tables.exec = Jvm.exec) (pc' : Nat) (hp : pc + 1 = pc') {k : Fin 4} {v : Int32} (Ls' : Array Slot) (hd : decode c.code pc = .ok (.istore_n k, 1)) (hl : storeLocals Ls k.val (.int v) = some Ls') (h : Goes p e below s C S Q T (mkF m pc' Ls' rest)) : Goes p e below s C S Q T (mkF m pc Ls ((.int v) :: rest)) := by
  subst hp; exact Goes.go (fun _ k => XS.istoreN X.here hx rfl hd rfl hl k) h
theorem own_lload (X : Stand p l e R s m args below meth c T locs cells slots) (hx : p.tables.exec = Jvm.exec) (pc' : Nat) (hp : pc + 2 = pc') {k : Nat} {v : Int64} (hd : decode c.code pc = .ok (.lload k, 2)) (hl : Ls[k]? = some (.val (.long v))) (h : Goes p e below s C S Q T (mkF m pc' Ls ((.long v) :: rest))) : Goes p e below s C S Q T (mkF m pc Ls rest) := by
  subst hp; exact Goes.go (fun _ k => XS.lload X.here hx rfl hd hl k) h
theorem own_lloadN (X : Stand p l e R s m args below meth c T locs cells slots) (hx : p.tables.exec = Jvm.exec) (pc' : Nat) (hp : pc + 1 = pc') {k : Fin 4} {v : Int64} (hd : decode c.code pc = .ok (.lload_n k, 1)) (hl : Ls[k.val]? = some (.val (.long v))) (h : Goes p e below s C S Q T (mkF m pc' Ls ((.long v) :: rest))) : Goes p e below s C S Q T (mkF m pc Ls rest) := by
  subst hp; exact Goes.go (fun _ k => XS.lloadN X.here hx rfl hd hl k) h
theorem own_lstore (X : Stand p l e R s m args below meth c T locs cells slots) (hx : p.tables.exec = Jvm.exec) (pc' : Nat) (hp : pc + 2 = pc') {k : Nat} {v : Int64} (Ls' : Array Slot) (hd : decode c.code pc = .ok (.lstore k, 2)) (hl : storeLocals Ls k (.long v) = some Ls') (h : Goes p e below s C S Q T (mkF m pc' Ls' rest)) : Goes p e below s C S Q T (mkF m pc Ls ((.long v) :: rest)) := by
  subst hp; exact Goes.go (fun _ k => XS.lstore X.here hx rfl hd rfl hl k) h
theorem own_lstoreN (X : Stand p l e R s m args below meth c T locs cells slots) (hx : p.tables.exec = Jvm.exec) (pc' : Nat) (hp : pc + 1 = pc') {k : Fin 4} {v : Int64} (Ls' : Array Slot) (hd : decode c.code pc = .ok (.lstore_n k, 1)) (hl : storeLocals Ls k.val (.long v) = some Ls') (h : Goes p e below s C S Q T (mkF m pc' Ls' rest)) : Goes p e below s C S Q T (mkF m pc Ls ((.long v) :: rest)) := by
  subst hp; exact Goes.go (fun _ k => XS.lstoreN X.here hx rfl hd rfl hl k) h
theorem own_aload (X : Stand p l e R s m args below meth c T locs cells slots) (hx : p.tables.exec = Jvm.exec) (pc' : Nat) (hp : pc + 2 = pc') {k : Nat} {v : Value} (hd : decode c.code pc = .ok (.aload k, 2)) (hl : Ls[k]? = some (.val v)) (hv : v.isRef = true) (h : Goes p e below s C S Q T (mkF m pc' Ls (v :: rest))) : Goes p e below s C S Q T (mkF m pc Ls rest) := by
  subst hp; exact Goes.go (fun _ k => XS.aload X.here hx rfl hd hl hv k) h
theorem own_aloadN (X : Stand p l e R s m args below meth c T locs cells slots) (hx : p.tables.exec = Jvm.exec) (pc' : Nat) (hp : pc + 1 = pc') {k : Fin 4} {v : Value} (hd : decode c.code pc = .ok (.aload_n k, 1)) (hl : Ls[k.val]? = some (.val v)) (hv : v.isRef = true) (h : Goes p e below s C S Q T (mkF m pc' Ls (v :: rest))) : Goes p e below s C S Q T (mkF m pc Ls rest) := by
  subst hp; exact Goes.go (fun _ k => XS.aloadN X.here hx rfl hd hl hv k) h
theorem own_astore (X : Stand p l e R s m args below meth c T locs cells slots) (hx : p.tables.exec = Jvm.exec) (pc' : Nat) (hp : pc + 2 = pc') {k : Nat} {v : Value} (Ls' : Array Slot) (hd : decode c.code pc = .ok (.astore k, 2)) (hl : storeLocals Ls k v = some Ls') (hv : v.isRef = true) (h : Goes p e below s C S Q T (mkF m pc' Ls' rest)) : Goes p e below s C S Q T (mkF m pc Ls (v :: rest)) := by
  subst hp; exact Goes.go (fun _ k => XS.astore X.here hx rfl hd rfl hv hl k) h
theorem own_astoreN (X : Stand p l e R s m args below meth c T locs cells slots) (hx : p.tables.exec = Jvm.exec) (pc' : Nat) (hp : pc + 1 = pc') {k : Fin 4} {v : Value} (Ls' : Array Slot) (hd : decode c.code pc = .ok (.astore_n k, 1)) (hl : storeLocals Ls k.val v = some Ls') (hv : v.isRef = true) (h : Goes p e below s C S Q T (mkF m pc' Ls' rest)) : Goes p e below s C S Q T (mkF m pc Ls (v :: rest)) := by
  subst hp; exact Goes.go (fun _ k => XS.astoreN X.here hx rfl hd rfl hv hl k) h
theorem own_iconst (X : Stand p l e R s m args below meth c T locs cells slots) (hx : p.tables.exec = Jvm.exec) (pc' : Nat) (hp : pc + 1 = pc') {i : Int} (v : Int32) (hd : decode c.code pc = .ok (.iconst i, 1)) (hv : Int32.ofInt i = v) (h : Goes p e below s C S Q T (mkF m pc' Ls (.int v :: rest))) : Goes p e below s C S Q T (mkF m pc Ls rest) := by
  subst hp; subst hv; exact Goes.go (fun _ k => XS.iconst X.here hx rfl hd k) h
theorem own_bipush (X : Stand p l e R s m args below meth c T locs cells slots) (hx : p.tables.exec = Jvm.exec) (pc' : Nat) (hp : pc + 2 = pc') {i : Int} (v : Int32) (hd : decode c.code pc = .ok (.bipush i, 2)) (hv : (Int8.ofInt i).toInt32 = v) (h : Goes p e below s C S Q T (mkF m pc' Ls (.int v :: rest))) : Goes p e below s C S Q T (mkF m pc Ls rest) := by
  subst hp; subst hv; exact Goes.go (fun _ k => XS.bipush X.here hx rfl hd k) h
theorem own_sipush (X : Stand p l e R s m args below meth c T locs cells slots) (hx : p.tables.exec = Jvm.exec) (pc' : Nat) (hp : pc + 3 = pc') {i : Int} (v : Int32) (hd : decode c.code pc = .ok (.sipush i, 3)) (hv : (Int16.ofInt i).toInt32 = v) (h : Goes p e below s C S Q T (mkF m pc' Ls (.int v :: rest))) : Goes p e below s C S Q T (mkF m pc Ls rest) := by
  subst hp; subst hv; exact Goes.go (fun _ k => XS.sipush X.here hx rfl hd k) h
theorem own_lconst (X : Stand p l e R s m args below meth c T locs cells slots) (hx : p.tables.exec = Jvm.exec) (pc' : Nat) (hp : pc + 1 = pc') {i : Fin 2} (v : Int64) (hd : decode c.code pc = .ok (.lconst i, 1)) (hv : Int64.ofNat i = v) (h : Goes p e below s C S Q T (mkF m pc' Ls (.long v :: rest))) : Goes p e below s C S Q T (mkF m pc Ls rest) := by
  subst hp; subst hv; exact Goes.go (fun _ k => XS.lconst X.here hx rfl hd k) h
theorem own_aconst_null (X : Stand p l e R s m args below meth c T locs cells slots) (hx : p.tables.exec = Jvm.exec) (pc' : Nat) (hp : pc + 1 = pc')  (hd : decode c.code pc = .ok (.aconst_null, 1))  (h : Goes p e below s C S Q T (mkF m pc' Ls (.null :: rest))) : Goes p e below s C S Q T (mkF m pc Ls rest) := by
  subst hp; exact Goes.go (fun _ k => XS.aconstNull X.here hx rfl hd k) h
theorem own_dup (X : Stand p l e R s m args below meth c T locs cells slots) (hx : p.tables.exec = Jvm.exec) (pc' : Nat) (hp : pc + 1 = pc') {v : Value} (hd : decode c.code pc = .ok (.dup, 1)) (hc : v.category = 1) (h : Goes p e below s C S Q T (mkF m pc' Ls (v :: v :: rest))) : Goes p e below s C S Q T (mkF m pc Ls (v :: rest)) := by
  subst hp; exact Goes.go (fun _ k => XS.dup X.here hx rfl hd rfl hc k) h
theorem own_pop (X : Stand p l e R s m args below meth c T locs cells slots) (hx : p.tables.exec = Jvm.exec) (pc' : Nat) (hp : pc + 1 = pc') {v : Value} (hd : decode c.code pc = .ok (.pop, 1)) (hc : v.category = 1) (h : Goes p e below s C S Q T (mkF m pc' Ls rest)) : Goes p e below s C S Q T (mkF m pc Ls (v :: rest)) := by
  subst hp; exact Goes.go (fun _ k => XS.pop X.here hx rfl hd rfl hc k) h
theorem own_dup_x1 (X : Stand p l e R s m args below meth c T locs cells slots) (hx : p.tables.exec = Jvm.exec) (pc' : Nat) (hp : pc + 1 = pc') {v w : Value} (hd : decode c.code pc = .ok (.dup_x1, 1)) (hc : v.category = 1) (hc' : w.category = 1) (h : Goes p e below s C S Q T (mkF m pc' Ls (v :: w :: v :: rest))) : Goes p e below s C S Q T (mkF m pc Ls (v :: w :: rest)) := by
  subst hp; exact Goes.go (fun _ k => XS.dupX1 X.here hx rfl hd rfl hc hc' k) h
theorem own_dup2L (X : Stand p l e R s m args below meth c T locs cells slots) (hx : p.tables.exec = Jvm.exec) (pc' : Nat) (hp : pc + 1 = pc') {v : Int64} (hd : decode c.code pc = .ok (.dup2, 1))  (h : Goes p e below s C S Q T (mkF m pc' Ls (.long v :: .long v :: rest))) : Goes p e below s C S Q T (mkF m pc Ls (.long v :: rest)) := by
  subst hp; exact Goes.go (fun _ k => Jvm.Free.XT.dup2L X.here hx rfl hd rfl k) h
theorem own_dup2 (X : Stand p l e R s m args below meth c T locs cells slots) (hx : p.tables.exec = Jvm.exec) (pc' : Nat) (hp : pc + 1 = pc') {v w : Value} (hd : decode c.code pc = .ok (.dup2, 1)) (hc : v.category = 1) (hc' : w.category = 1) (h : Goes p e below s C S Q T (mkF m pc' Ls (v :: w :: v :: w :: rest))) : Goes p e below s C S Q T (mkF m pc Ls (v :: w :: rest)) := by
  subst hp; exact Goes.go (fun _ k => Jvm.Free.XT.dup2 X.here hx rfl hd rfl hc hc' k) h
theorem own_iinc (X : Stand p l e R s m args below meth c T locs cells slots) (hx : p.tables.exec = Jvm.exec) (pc' : Nat) (hp : pc + 3 = pc') {k : Nat} {cst : Int} {x z : Int32} (Ls' : Array Slot) (hd : decode c.code pc = .ok (.iinc k cst, 3)) (hl : Ls[k]? = some (.val (.int x))) (hz : x + Int32.ofInt cst = z) (hl' : storeLocals Ls k (.int z) = some Ls') (h : Goes p e below s C S Q T (mkF m pc' Ls' rest)) : Goes p e below s C S Q T (mkF m pc Ls rest) := by
  subst hp; subst hz; exact Goes.go (fun _ k => XS.iinc X.here hx rfl hd hl hl' k) h
theorem own_goto (X : Stand p l e R s m args below meth c T locs cells slots) (hx : p.tables.exec = Jvm.exec) (pc' : Nat) {o : Int} (hd : decode c.code pc = .ok (.goto o, 3)) (ho : 0 ≤ (pc : Int) + o) (hp : ((pc : Int) + o).toNat = pc') (h : Goes p e below s C S Q T (mkF m pc' Ls rest)) : Goes p e below s C S Q T (mkF m pc Ls rest) :=
  Goes.go (fun _ k => XS.goto X.here hx rfl rfl hd ho hp k) h
theorem own_ifY (X : Stand p l e R s m args below meth c T locs cells slots) (hx : p.tables.exec = Jvm.exec) (pc' : Nat) {o : Int} {cd : ClassFile.Cond} {x : Int32} (hd : decode c.code pc = .ok (.ifCond cd o, 3)) (hc : ifCond.holds cd x = true) (ho : 0 ≤ (pc : Int) + o) (hp : ((pc : Int) + o).toNat = pc') (h : Goes p e below s C S Q T (mkF m pc' Ls rest)) : Goes p e below s C S Q T (mkF m pc Ls (.int x :: rest)) :=
  Goes.go (fun _ k => XS.ifYes X.here hx rfl rfl hd rfl hc ho hp k) h
theorem own_ifN (X : Stand p l e R s m args below meth c T locs cells slots) (hx : p.tables.exec = Jvm.exec) (pc' : Nat) {o : Int} {cd : ClassFile.Cond} {x : Int32} (hd : decode c.code pc = .ok (.ifCond cd o, 3)) (hc : ifCond.holds cd x = false) (hp : pc + 3 = pc') (h : Goes p e below s C S Q T (mkF m pc' Ls rest)) : Goes p e below s C S Q T (mkF m pc Ls (.int x :: rest)) := by
  subst hp; exact Goes.go (fun _ k => XS.ifNo X.here hx rfl hd rfl hc k) h
theorem own_icmpY (X : Stand p l e R s m args below meth c T locs cells slots) (hx : p.tables.exec = Jvm.exec) (pc' : Nat) {o : Int} {cd : ClassFile.Cond} {x y : Int32} (hd : decode c.code pc = .ok (.if_icmp cd o, 3)) (hc : if_icmp.holds cd x y = true) (ho : 0 ≤ (pc : Int) + o) (hp : ((pc : Int) + o).toNat = pc') (h : Goes p e below s C S Q T (mkF m pc' Ls rest)) : Goes p e below s C S Q T (mkF m pc Ls (.int y :: .int x :: rest)) :=
  Goes.go (fun _ k => XS.icmpYes X.here hx rfl rfl hd rfl hc ho hp k) h
theorem own_icmpN (X : Stand p l e R s m args below meth c T locs cells slots) (hx : p.tables.exec = Jvm.exec) (pc' : Nat) {o : Int} {cd : ClassFile.Cond} {x y : Int32} (hd : decode c.code pc = .ok (.if_icmp cd o, 3)) (hc : if_icmp.holds cd x y = false) (hp : pc + 3 = pc') (h : Goes p e below s C S Q T (mkF m pc' Ls rest)) : Goes p e below s C S Q T (mkF m pc Ls (.int y :: .int x :: rest)) := by
  subst hp; exact Goes.go (fun _ k => XS.icmpNo X.here hx rfl hd rfl hc k) h
theorem own_acmp (X : Stand p l e R s m args below meth c T locs cells slots) (hx : p.tables.exec = Jvm.exec) (pc' : Nat) {o : Int} {cd : ACond} {x y : Value} {same : Bool} (h1 : x.isRef = true) (h2 : y.isRef = true) (hd : decode c.code pc = .ok (.if_acmp cd o, 3)) (hq : decide (x = y) = same) (ho : 0 ≤ (pc : Int) + o) (hp : pc' = if acV cd same = true then ((pc : Int) + o).toNat else pc + 3) (h : Goes p e below s C S Q T (mkF m pc' Ls rest)) : Goes p e below s C S Q T (mkF m pc Ls (y :: x :: rest)) :=
  Goes.go (fun _ k => Jvm.RoadKit.acmp (g := mkF m pc Ls (y :: x :: rest)) X hx rfl h1 h2 rfl hd rfl hq ho hp k) h
theorem own_ifnullY (X : Stand p l e R s m args below meth c T locs cells slots) (hx : p.tables.exec = Jvm.exec) (pc' : Nat) {o : Int} (hd : decode c.code pc = .ok (.ifnull o, 3)) (ho : 0 ≤ (pc : Int) + o) (hp : ((pc : Int) + o).toNat = pc') (h : Goes p e below s C S Q T (mkF m pc' Ls rest)) : Goes p e below s C S Q T (mkF m pc Ls (.null :: rest)) :=
  Goes.go (fun _ k => XS.ifnullYes X.here hx rfl rfl hd rfl ho hp k) h
theorem own_ifnullN (X : Stand p l e R s m args below meth c T locs cells slots) (hx : p.tables.exec = Jvm.exec) (pc' : Nat) {o : Int} {b : Addr} (hd : decode c.code pc = .ok (.ifnull o, 3)) (hp : pc + 3 = pc') (h : Goes p e below s C S Q T (mkF m pc' Ls rest)) : Goes p e below s C S Q T (mkF m pc Ls (.ref b :: rest)) := by
  subst hp; exact Goes.go (fun _ k => XS.ifnullNo X.here hx rfl hd rfl k) h
theorem own_ifnonnullY (X : Stand p l e R s m args below meth c T locs cells slots) (hx : p.tables.exec = Jvm.exec) (pc' : Nat) {o : Int} {b : Addr} (hd : decode c.code pc = .ok (.ifnonnull o, 3)) (ho : 0 ≤ (pc : Int) + o) (hp : ((pc : Int) + o).toNat = pc') (h : Goes p e below s C S Q T (mkF m pc' Ls rest)) : Goes p e below s C S Q T (mkF m pc Ls (.ref b :: rest)) :=
  Goes.go (fun _ k => XS.ifnonnullYes X.here hx rfl rfl hd rfl ho hp k) h
theorem own_ifnonnullN (X : Stand p l e R s m args below meth c T locs cells slots) (hx : p.tables.exec = Jvm.exec) (pc' : Nat) {o : Int} (hd : decode c.code pc = .ok (.ifnonnull o, 3)) (hp : pc + 3 = pc') (h : Goes p e below s C S Q T (mkF m pc' Ls rest)) : Goes p e below s C S Q T (mkF m pc Ls (.null :: rest)) := by
  subst hp; exact Goes.go (fun _ k => XS.ifnonnullNo X.here hx rfl hd rfl k) h
end Steps1
/-- the branches on a long comparison -/
theorem Ltlt {x y : Int64} (h : x < y) : ifCond.holds .lt (lcmpW x y) = true ∧ ifCond.holds .ge (lcmpW x y) = false ∧ ifCond.holds .gt (lcmpW y x) = true ∧ ifCond.holds .le (lcmpW y x) = false :=
  ⟨(if0 _ _).trans (tlt ((lw_lt x y).mpr h)).1, (if0 _ _).trans (tlt ((lw_lt x y).mpr h)).2.1, (if0 _ _).trans (tlt ((lw_gt y x).mpr h)).2.2.1, (if0 _ _).trans (tlt ((lw_gt y x).mpr h)).2.2.2⟩
theorem Lflt {x y : Int64} (h : ¬ x < y) : ifCond.holds .lt (lcmpW x y) = false ∧ ifCond.holds .ge (lcmpW x y) = true ∧ ifCond.holds .gt (lcmpW y x) = false ∧ ifCond.holds .le (lcmpW y x) = true :=
  ⟨(if0 _ _).trans (flt fun q => h ((lw_lt x y).mp q)).1, (if0 _ _).trans (flt fun q => h ((lw_lt x y).mp q)).2.1, (if0 _ _).trans (flt fun q => h ((lw_gt y x).mp q)).2.2.1, (if0 _ _).trans (flt fun q => h ((lw_gt y x).mp q)).2.2.2⟩
theorem Lteq {x y : Int64} (h : x = y) : ifCond.holds .eq (lcmpW x y) = true ∧ ifCond.holds .ne (lcmpW x y) = false :=
  ⟨(if0 _ _).trans (teq ((lw_eq x y).mpr h)).1, (if0 _ _).trans (teq ((lw_eq x y).mpr h)).2⟩
theorem Lfeq {x y : Int64} (h : ¬ x = y) : ifCond.holds .eq (lcmpW x y) = false ∧ ifCond.holds .ne (lcmpW x y) = true :=
  ⟨(if0 _ _).trans (feq fun q => h ((lw_eq x y).mp q)).1, (if0 _ _).trans (feq fun q => h ((lw_eq x y).mp q)).2⟩
theorem Ztlt {x y : Int32} (h : x < y) : if_icmp.holds .lt x y = true ∧ if_icmp.holds .ge x y = false ∧ if_icmp.holds .gt y x = true ∧ if_icmp.holds .le y x = false := tlt h
/-- the pieces of a memory fact -/
theorem own_lt_ne {a b n : Nat} (h : a < n) (g : b = n) : a ≠ b := by omega
end Own
theorem own_d2_0 : decode jdk_30_method_1_code 0 = .ok (.aload_n 0, 1) := by decide +kernel
theorem own_d2_1 : decode jdk_30_method_1_code 1 = .ok (.invokespecial 1, 3) := by decide +kernel
theorem own_d2_4 : decode jdk_30_method_1_code 4 = .ok (.return_, 1) := by decide +kernel
theorem own_pn_java_lang_Record : plainName "java/lang/Record" = true := by first | (simp [plainName, overriddenIn]; done) | decide +kernel
def Q2 (Z : State) (rt : Addr) (h0 : Heap) (n0 : Nat) (v : Option Value) (h : Heap) (L : List Loc) : Prop := v = none ∧ Fr n0 L ∧ h = h0
set_option maxRecDepth 65536 in
set_option maxHeartbeats 40000000 in
theorem rm2 (l : Launch) (Z : State) (a0 : Array Value) (hw : ∀ d ∈ tables_1, d.before a0 Z = true) (ws : List Jvm.Cond) (rt : Addr) (h0 : Heap) (n0 : Nat) (Z0 : n0 ≤ h0.size)  :
    MetFree l (⟨"java/lang/Record", "<init>", "()V"⟩ : MethodName) (head1 (Jvm.Cond.code (⟨"java/lang/Record", "<init>", "()V"⟩ : MethodName) jdk_30_method_1_code 1 none :: ws) ({ frames := 1, cells := 0, slots := 0, locals := 12 } : Room)) (fun a U => a = #[(.ref rt)] ∧ Z.Warmed39 U.vm ∧ U.heap = h0) (fun _ _ _ _ _ => True) (fun _ U o U' => ∃ v L, o = .returned v ∧ Q2 Z rt h0 n0 v U'.heap L ∧ FrameEnd U o U' L ({ frames := 1, cells := 0, slots := 0, locals := 12 } : Room).cells ({ frames := 1, cells := 0, slots := 0, locals := 12 } : Room).slots) := by
  refine MetFree.of_bodySF (plainFor_of_name own_pn_java_lang_Record) hisR ?_
  intro p e s m args below meth c s₁ Bd hml0 hP hK
  obtain ⟨rfl, hZ, hh⟩ := hP
  have hx := Bd.exec
  have hby := Bd.bytes
  have hml : c.maxLocals = 1 := hml0
  have hlk := Bd.notSynchronized
  have hown : s.vm.findClass "java/lang/Record" = some m.cls := findClass_of_methodNamed Bd.named
  have hnm := (name_of_methodNamed Bd.named Bd.method).1
  have X0 : Stand p l e ({ frames := 1, cells := 0, slots := 0, locals := 12 } : Room) s m #[(.ref rt)] below meth c s₁ [] 0 0 := Stand.of_body Bd
  have e0 : s₁.heap = h0 := by rw [← hh, Bd.state]; rfl
  have N0 := Fr.nil n0
  refine own_enter (Q := Q2 Z rt h0 n0) (Ls := #[.val (.ref rt)]) (by first | (simp [entryFrame, mkF, argsToLocals, Value.category]; done) | rfl) ?_
  refine own_aloadN X0 hx 1 rfl (hb hby own_d2_0) rfl rfl ?_
  obtain ⟨T1, X1, e1, st1⟩ := initO X0 hx hZ hown (hw _ (List.mem_of_getElem? (i := 11) rfl)) (hw _ (List.mem_of_getElem? (i := 12) rfl)) (hw _ (List.mem_of_getElem? (i := 13) rfl)) e0 (g := (mkF m 1 #[.val (.ref rt)] [(.ref rt)])) rfl (by rw [hml]; rfl) rfl (hb hby own_d2_1) (by decide) (W := 0) (by show 2 * 0 + _ ≤ _; exact Nat.le_of_eq rfl) (by decide)
  refine Goes.go st1 ?_
  show Goes p e below s _ _ _ T1 (mkF m 4 #[.val (.ref rt)] [])
  refine own_retV X1 hx hlk Bd.returns (hb hby own_d2_4) (by decide) (by decide) e1 ?_
  exact ⟨rfl, N0, rfl⟩
theorem own_pd0 : parseMethodDescriptor "()V" = some ⟨[], none⟩ := by decide +kernel
theorem own_d1_0 : decode prog_111_method_1_code 0 = .ok (.aload_n 0, 1) := by decide +kernel
theorem own_d1_1 : decode prog_111_method_1_code 1 = .ok (.invokespecial 1, 3) := by decide +kernel
theorem own_d1_4 : decode prog_111_method_1_code 4 = .ok (.aload_n 0, 1) := by decide +kernel
theorem own_d1_5 : decode prog_111_method_1_code 5 = .ok (.lload_n 1, 1) := by decide +kernel
theorem own_d1_6 : decode prog_111_method_1_code 6 = .ok (.putfield 7, 3) := by decide +kernel
theorem own_d1_9 : decode prog_111_method_1_code 9 = .ok (.aload_n 0, 1) := by decide +kernel
theorem own_d1_10 : decode prog_111_method_1_code 10 = .ok (.lload_n 3, 1) := by decide +kernel
theorem own_d1_11 : decode prog_111_method_1_code 11 = .ok (.putfield 13, 3) := by decide +kernel
theorem own_d1_14 : decode prog_111_method_1_code 14 = .ok (.aload_n 0, 1) := by decide +kernel
theorem own_d1_15 : decode prog_111_method_1_code 15 = .ok (.iload 5, 2) := by decide +kernel
theorem own_d1_17 : decode prog_111_method_1_code 17 = .ok (.putfield 16, 3) := by decide +kernel
theorem own_d1_20 : decode prog_111_method_1_code 20 = .ok (.aload_n 0, 1) := by decide +kernel
theorem own_d1_21 : decode prog_111_method_1_code 21 = .ok (.lload 6, 2) := by decide +kernel
theorem own_d1_23 : decode prog_111_method_1_code 23 = .ok (.putfield 20, 3) := by decide +kernel
theorem own_d1_26 : decode prog_111_method_1_code 26 = .ok (.aload_n 0, 1) := by decide +kernel
theorem own_d1_27 : decode prog_111_method_1_code 27 = .ok (.lload 8, 2) := by decide +kernel
theorem own_d1_29 : decode prog_111_method_1_code 29 = .ok (.putfield 23, 3) := by decide +kernel
theorem own_d1_32 : decode prog_111_method_1_code 32 = .ok (.aload_n 0, 1) := by decide +kernel
theorem own_d1_33 : decode prog_111_method_1_code 33 = .ok (.iload 10, 2) := by decide +kernel
theorem own_d1_35 : decode prog_111_method_1_code 35 = .ok (.putfield 26, 3) := by decide +kernel
theorem own_d1_38 : decode prog_111_method_1_code 38 = .ok (.aload_n 0, 1) := by decide +kernel
theorem own_d1_39 : decode prog_111_method_1_code 39 = .ok (.lload 11, 2) := by decide +kernel
theorem own_d1_41 : decode prog_111_method_1_code 41 = .ok (.putfield 29, 3) := by decide +kernel
theorem own_d1_44 : decode prog_111_method_1_code 44 = .ok (.aload_n 0, 1) := by decide +kernel
theorem own_d1_45 : decode prog_111_method_1_code 45 = .ok (.iload 13, 2) := by decide +kernel
theorem own_d1_47 : decode prog_111_method_1_code 47 = .ok (.putfield 32, 3) := by decide +kernel
theorem own_d1_50 : decode prog_111_method_1_code 50 = .ok (.aload_n 0, 1) := by decide +kernel
theorem own_d1_51 : decode prog_111_method_1_code 51 = .ok (.lload 14, 2) := by decide +kernel
theorem own_d1_53 : decode prog_111_method_1_code 53 = .ok (.putfield 35, 3) := by decide +kernel
theorem own_d1_56 : decode prog_111_method_1_code 56 = .ok (.aload_n 0, 1) := by decide +kernel
theorem own_d1_57 : decode prog_111_method_1_code 57 = .ok (.iload 16, 2) := by decide +kernel
theorem own_d1_59 : decode prog_111_method_1_code 59 = .ok (.putfield 38, 3) := by decide +kernel
theorem own_d1_62 : decode prog_111_method_1_code 62 = .ok (.return_, 1) := by decide +kernel
theorem own_pn_com_example_tidings_tidings_store_StoredMessage : plainName "com/example/tidings/tidings/store/StoredMessage" = true := by first | (simp [plainName, overriddenIn]; done) | decide +kernel
def Q1 (Z : State) (mt : Addr) (m0 : Int64) (m1 : Int64) (m2 : Int32) (m3 : Int64) (m4 : Int64) (m5 : Int32) (m6 : Int64) (m7 : Int32) (m8 : Int64) (m9 : Int32) (h0 : Heap) (n0 : Nat) (v : Option Value) (h : Heap) (L : List Loc) : Prop := v = none ∧ Fr n0 L ∧ Keep h0 h [mt] ∧ Fld Z h mt "com/example/tidings/tidings/store/StoredMessage" "sequence" "J" (.long m0) ∧ Fld Z h mt "com/example/tidings/tidings/store/StoredMessage" "enqueueTime" "J" (.long m1) ∧ Fld Z h mt "com/example/tidings/tidings/store/StoredMessage" "priority" "I" (.int m2) ∧ Fld Z h mt "com/example/tidings/tidings/store/StoredMessage" "expiryTime" "J" (.long m3) ∧ Fld Z h mt "com/example/tidings/tidings/store/StoredMessage" "nextVisibleTime" "J" (.long m4) ∧ Fld Z h mt "com/example/tidings/tidings/store/StoredMessage" "dequeueCount" "I" (.int m5) ∧ Fld Z h mt "com/example/tidings/tidings/store/StoredMessage" "firstDequeueTime" "J" (.long m6) ∧ Fld Z h mt "com/example/tidings/tidings/store/StoredMessage" "receipts" "I" (.int m7) ∧ Fld Z h mt "com/example/tidings/tidings/store/StoredMessage" "bodyOffset" "J" (.long m8) ∧ Fld Z h mt "com/example/tidings/tidings/store/StoredMessage" "bodyLength" "I" (.int m9)
set_option maxRecDepth 65536 in
set_option maxHeartbeats 40000000 in
theorem rm1 (l : Launch) (Z : State) (a0 : Array Value) (hw : ∀ d ∈ tables_1, d.before a0 Z = true) (ws : List Jvm.Cond) (mt : Addr) (m0 : Int64) (m1 : Int64) (m2 : Int32) (m3 : Int64) (m4 : Int64) (m5 : Int32) (m6 : Int64) (m7 : Int32) (m8 : Int64) (m9 : Int32) (h0 : Heap) (n0 : Nat) (Z0 : n0 ≤ h0.size) (EM : Exa Z h0 mt "com/example/tidings/tidings/store/StoredMessage") (gm : n0 ≤ mt) (Fsequence : Fld Z h0 mt "com/example/tidings/tidings/store/StoredMessage" "sequence" "J" (.long (0 : Int64))) (FenqueueTime : Fld Z h0 mt "com/example/tidings/tidings/store/StoredMessage" "enqueueTime" "J" (.long (0 : Int64))) (Fpriority : Fld Z h0 mt "com/example/tidings/tidings/store/StoredMessage" "priority" "I" (.int (0 : Int32))) (FexpiryTime : Fld Z h0 mt "com/example/tidings/tidings/store/StoredMessage" "expiryTime" "J" (.long (0 : Int64))) (FnextVisibleTime : Fld Z h0 mt "com/example/tidings/tidings/store/StoredMessage" "nextVisibleTime" "J" (.long (0 : Int64))) (FdequeueCount : Fld Z h0 mt "com/example/tidings/tidings/store/StoredMessage" "dequeueCount" "I" (.int (0 : Int32))) (FfirstDequeueTime : Fld Z h0 mt "com/example/tidings/tidings/store/StoredMessage" "firstDequeueTime" "J" (.long (0 : Int64))) (Freceipts : Fld Z h0 mt "com/example/tidings/tidings/store/StoredMessage" "receipts" "I" (.int (0 : Int32))) (FbodyOffset : Fld Z h0 mt "com/example/tidings/tidings/store/StoredMessage" "bodyOffset" "J" (.long (0 : Int64))) (FbodyLength : Fld Z h0 mt "com/example/tidings/tidings/store/StoredMessage" "bodyLength" "I" (.int (0 : Int32))) :
    MetFree l (⟨"com/example/tidings/tidings/store/StoredMessage", "<init>", "(JJIJJIJIJI)V"⟩ : MethodName) (head1 (Jvm.Cond.code (⟨"com/example/tidings/tidings/store/StoredMessage", "<init>", "(JJIJJIJIJI)V"⟩ : MethodName) prog_111_method_1_code 17 none :: ws) ({ frames := 2, cells := 0, slots := 0, locals := 24 } : Room)) (fun a U => a = #[(.ref mt), (.long m0), (.long m1), (.int m2), (.long m3), (.long m4), (.int m5), (.long m6), (.int m7), (.long m8), (.int m9)] ∧ Z.Warmed39 U.vm ∧ U.heap = h0) (fun _ _ _ _ _ => True) (fun _ U o U' => ∃ v L, o = .returned v ∧ Q1 Z mt m0 m1 m2 m3 m4 m5 m6 m7 m8 m9 h0 n0 v U'.heap L ∧ FrameEnd U o U' L ({ frames := 2, cells := 0, slots := 0, locals := 24 } : Room).cells ({ frames := 2, cells := 0, slots := 0, locals := 24 } : Room).slots) := by
  refine MetFree.of_bodySF (plainFor_of_name own_pn_com_example_tidings_tidings_store_StoredMessage) hisR ?_
  intro p e s m args below meth c s₁ Bd hml0 hP hK
  obtain ⟨rfl, hZ, hh⟩ := hP
  have hx := Bd.exec
  have hby := Bd.bytes
  have hml : c.maxLocals = 17 := hml0
  have hlk := Bd.notSynchronized
  have hown : s.vm.findClass "com/example/tidings/tidings/store/StoredMessage" = some m.cls := findClass_of_methodNamed Bd.named
  have hnm := (name_of_methodNamed Bd.named Bd.method).1
  have X0 : Stand p l e ({ frames := 2, cells := 0, slots := 0, locals := 24 } : Room) s m #[(.ref mt), (.long m0), (.long m1), (.int m2), (.long m3), (.long m4), (.int m5), (.long m6), (.int m7), (.long m8), (.int m9)] below meth c s₁ [] 0 0 := Stand.of_body Bd
  have e0 : s₁.heap = h0 := by rw [← hh, Bd.state]; rfl
  have N0 := Fr.nil n0
  have K0 : Keep h0 h0 [mt] := Keep.refl _ _
  refine own_enter (Q := Q1 Z mt m0 m1 m2 m3 m4 m5 m6 m7 m8 m9 h0 n0) (Ls := #[.val (.ref mt), .val (.long m0), .second, .val (.long m1), .second, .val (.int m2), .val (.long m3), .second, .val (.long m4), .second, .val (.int m5), .val (.long m6), .second, .val (.int m7), .val (.long m8), .second, .val (.int m9)]) (by first | (simp [entryFrame, mkF, argsToLocals, Value.category]; done) | rfl) ?_
  refine own_aloadN X0 hx 1 rfl (hb hby own_d1_0) rfl rfl ?_
  obtain ⟨_, _, ⟨T1, L1, k1, n1⟩, -, X1, ⟨Lc1, hQ1, l1, y1, z1⟩, st1⟩ := X0.specialBack hx (y := (⟨"java/lang/Record", "<init>", "()V"⟩ : MethodName)) rfl hown (mvT hZ (hw _ (List.mem_of_getElem? (i := 6) rfl))) (mvT hZ (hw _ (List.mem_of_getElem? (i := 7) rfl))) (mvT hZ (hw _ (List.mem_of_getElem? (i := 10) rfl))) (by decide) (backOf (W := 0) (rm2 l Z a0 hw [] mt h0 n0 Z0 ) hZ (hw _ (List.mem_of_getElem? (i := 10) rfl)) (hw _ (List.mem_of_getElem? (i := 9) rfl)) (by decide) (by decide)) (g := (mkF m 1 #[.val (.ref mt), .val (.long m0), .second, .val (.long m1), .second, .val (.int m2), .val (.long m3), .second, .val (.long m4), .second, .val (.int m5), .val (.long m6), .second, .val (.int m7), .val (.long m8), .second, .val (.int m9)] [(.ref mt)])) rfl (by rw [hml]; rfl) (Steps.refl _) (a := mt) (argsL := []) (rest := []) (lenOf own_pd0 rfl) rfl (by show 2 * 0 + _ ≤ _; exact Nat.le_of_eq rfl) (hb hby own_d1_1) (fun _ _ => ⟨rfl, e0, (by decide : 0 + 0 ≤ _), (by decide : 0 + 0 ≤ _)⟩)
  dsimp only [Pt.U, Pt.locs, Pt.cells, Pt.slots] at X1 l1 y1 z1 st1 hQ1
  subst l1 y1 z1
  obtain ⟨rfl, N1q, eh1⟩ := hQ1
  have N1 := Fr.app N0 N1q
  refine Goes.tr st1 ?_
  show Goes p e below s _ _ _ T1 (mkF m 4 #[.val (.ref mt), .val (.long m0), .second, .val (.long m1), .second, .val (.int m2), .val (.long m3), .second, .val (.long m4), .second, .val (.int m5), .val (.long m6), .second, .val (.int m7), .val (.long m8), .second, .val (.int m9)] [])
  refine own_aloadN X1 hx 5 rfl (hb hby own_d1_4) rfl rfl ?_
  refine own_lloadN X1 hx 6 rfl (hb hby own_d1_5) rfl ?_
  obtain ⟨T2, h2, X2, e2, W2, st2⟩ := putF X1 hx hZ hown (host := "") (Or.inl (hw _ (List.mem_of_getElem? (i := 14) rfl))) Via.refl eh1 Fsequence EM (Or.inr ⟨(hw _ (List.mem_of_getElem? (i := 15) rfl)), rfl, hnm⟩) (hw _ (List.mem_of_getElem? (i := 1) rfl)) (ty := .long) (by decide) rfl rfl (g := (mkF m 6 #[.val (.ref mt), .val (.long m0), .second, .val (.long m1), .second, .val (.int m2), .val (.long m3), .second, .val (.long m4), .second, .val (.int m5), .val (.long m6), .second, .val (.int m7), .val (.long m8), .second, .val (.int m9)] [(.long m0), (.ref mt)])) rfl rfl (hb hby own_d1_6)
  have N2 := Fr.snoc X2 N1 gm
  have f3 := EM.wr W2
  have f4 := Fsequence.same W2
  have f5 := FenqueueTime.other W2 (Or.inr (slot_ne (Or.inr (hw _ (List.mem_of_getElem? (i := 17) rfl))) (Or.inr (hw _ (List.mem_of_getElem? (i := 15) rfl))) (by decide) (t := .long) (t' := .long) (by decide) (by decide)))
  have f6 := Fpriority.other W2 (Or.inr (slot_ne (Or.inr (hw _ (List.mem_of_getElem? (i := 19) rfl))) (Or.inr (hw _ (List.mem_of_getElem? (i := 15) rfl))) (by decide) (t := .int) (t' := .long) (by decide) (by decide)))
  have f7 := FexpiryTime.other W2 (Or.inr (slot_ne (Or.inr (hw _ (List.mem_of_getElem? (i := 21) rfl))) (Or.inr (hw _ (List.mem_of_getElem? (i := 15) rfl))) (by decide) (t := .long) (t' := .long) (by decide) (by decide)))
  have f8 := FnextVisibleTime.other W2 (Or.inr (slot_ne (Or.inr (hw _ (List.mem_of_getElem? (i := 23) rfl))) (Or.inr (hw _ (List.mem_of_getElem? (i := 15) rfl))) (by decide) (t := .long) (t' := .long) (by decide) (by decide)))
  have f9 := FdequeueCount.other W2 (Or.inr (slot_ne (Or.inr (hw _ (List.mem_of_getElem? (i := 25) rfl))) (Or.inr (hw _ (List.mem_of_getElem? (i := 15) rfl))) (by decide) (t := .int) (t' := .long) (by decide) (by decide)))
  have f10 := FfirstDequeueTime.other W2 (Or.inr (slot_ne (Or.inr (hw _ (List.mem_of_getElem? (i := 27) rfl))) (Or.inr (hw _ (List.mem_of_getElem? (i := 15) rfl))) (by decide) (t := .long) (t' := .long) (by decide) (by decide)))
  have f11 := Freceipts.other W2 (Or.inr (slot_ne (Or.inr (hw _ (List.mem_of_getElem? (i := 29) rfl))) (Or.inr (hw _ (List.mem_of_getElem? (i := 15) rfl))) (by decide) (t := .int) (t' := .long) (by decide) (by decide)))
  have f12 := FbodyOffset.other W2 (Or.inr (slot_ne (Or.inr (hw _ (List.mem_of_getElem? (i := 31) rfl))) (Or.inr (hw _ (List.mem_of_getElem? (i := 15) rfl))) (by decide) (t := .long) (t' := .long) (by decide) (by decide)))
  have f13 := FbodyLength.other W2 (Or.inr (slot_ne (Or.inr (hw _ (List.mem_of_getElem? (i := 33) rfl))) (Or.inr (hw _ (List.mem_of_getElem? (i := 15) rfl))) (by decide) (t := .int) (t' := .long) (by decide) (by decide)))
  have K2 := K0.wr W2 (Or.inl (List.mem_of_getElem? (i := 0) rfl))
  have Z2 := Nat.le_trans Z0 (Nat.le_of_eq W2.size.symm)
  refine Goes.go st2 ?_
  show Goes p e below s _ _ _ T2 (mkF m 9 #[.val (.ref mt), .val (.long m0), .second, .val (.long m1), .second, .val (.int m2), .val (.long m3), .second, .val (.long m4), .second, .val (.int m5), .val (.long m6), .second, .val (.int m7), .val (.long m8), .second, .val (.int m9)] [])
  refine own_aloadN X2 hx 10 rfl (hb hby own_d1_9) rfl rfl ?_
  refine own_lloadN X2 hx 11 rfl (hb hby own_d1_10) rfl ?_
  obtain ⟨T14, h14, X14, e14, W14, st14⟩ := putF X2 hx hZ hown (host := "") (Or.inl (hw _ (List.mem_of_getElem? (i := 16) rfl))) Via.refl e2 f5 f3 (Or.inr ⟨(hw _ (List.mem_of_getElem? (i := 17) rfl)), rfl, hnm⟩) (hw _ (List.mem_of_getElem? (i := 1) rfl)) (ty := .long) (by decide) rfl rfl (g := (mkF m 11 #[.val (.ref mt), .val (.long m0), .second, .val (.long m1), .second, .val (.int m2), .val (.long m3), .second, .val (.long m4), .second, .val (.int m5), .val (.long m6), .second, .val (.int m7), .val (.long m8), .second, .val (.int m9)] [(.long m1), (.ref mt)])) rfl rfl (hb hby own_d1_11)
  have N14 := Fr.snoc X14 N2 gm
  have f15 := f3.wr W14
  have f16 := f4.other W14 (Or.inr (slot_ne (Or.inr (hw _ (List.mem_of_getElem? (i := 15) rfl))) (Or.inr (hw _ (List.mem_of_getElem? (i := 17) rfl))) (by decide) (t := .long) (t' := .long) (by decide) (by decide)))
  have f17 := f5.same W14
  have f18 := f6.other W14 (Or.inr (slot_ne (Or.inr (hw _ (List.mem_of_getElem? (i := 19) rfl))) (Or.inr (hw _ (List.mem_of_getElem? (i := 17) rfl))) (by decide) (t := .int) (t' := .long) (by decide) (by decide)))
  have f19 := f7.other W14 (Or.inr (slot_ne (Or.inr (hw _ (List.mem_of_getElem? (i := 21) rfl))) (Or.inr (hw _ (List.mem_of_getElem? (i := 17) rfl))) (by decide) (t := .long) (t' := .long) (by decide) (by decide)))
  have f20 := f8.other W14 (Or.inr (slot_ne (Or.inr (hw _ (List.mem_of_getElem? (i := 23) rfl))) (Or.inr (hw _ (List.mem_of_getElem? (i := 17) rfl))) (by decide) (t := .long) (t' := .long) (by decide) (by decide)))
  have f21 := f9.other W14 (Or.inr (slot_ne (Or.inr (hw _ (List.mem_of_getElem? (i := 25) rfl))) (Or.inr (hw _ (List.mem_of_getElem? (i := 17) rfl))) (by decide) (t := .int) (t' := .long) (by decide) (by decide)))
  have f22 := f10.other W14 (Or.inr (slot_ne (Or.inr (hw _ (List.mem_of_getElem? (i := 27) rfl))) (Or.inr (hw _ (List.mem_of_getElem? (i := 17) rfl))) (by decide) (t := .long) (t' := .long) (by decide) (by decide)))
  have f23 := f11.other W14 (Or.inr (slot_ne (Or.inr (hw _ (List.mem_of_getElem? (i := 29) rfl))) (Or.inr (hw _ (List.mem_of_getElem? (i := 17) rfl))) (by decide) (t := .int) (t' := .long) (by decide) (by decide)))
  have f24 := f12.other W14 (Or.inr (slot_ne (Or.inr (hw _ (List.mem_of_getElem? (i := 31) rfl))) (Or.inr (hw _ (List.mem_of_getElem? (i := 17) rfl))) (by decide) (t := .long) (t' := .long) (by decide) (by decide)))
  have f25 := f13.other W14 (Or.inr (slot_ne (Or.inr (hw _ (List.mem_of_getElem? (i := 33) rfl))) (Or.inr (hw _ (List.mem_of_getElem? (i := 17) rfl))) (by decide) (t := .int) (t' := .long) (by decide) (by decide)))
  have K14 := K2.wr W14 (Or.inl (List.mem_of_getElem? (i := 0) rfl))
  have Z14 := Nat.le_trans Z2 (Nat.le_of_eq W14.size.symm)
  refine Goes.go st14 ?_
  show Goes p e below s _ _ _ T14 (mkF m 14 #[.val (.ref mt), .val (.long m0), .second, .val (.long m1), .second, .val (.int m2), .val (.long m3), .second, .val (.long m4), .second, .val (.int m5), .val (.long m6), .second, .val (.int m7), .val (.long m8), .second, .val (.int m9)] [])
  refine own_aloadN X14 hx 15 rfl (hb hby own_d1_14) rfl rfl ?_
  refine own_iload X14 hx 17 rfl (hb hby own_d1_15) rfl ?_
  obtain ⟨T26, h26, X26, e26, W26, st26⟩ := putF X14 hx hZ hown (host := "") (Or.inl (hw _ (List.mem_of_getElem? (i := 18) rfl))) Via.refl e14 f18 f15 (Or.inr ⟨(hw _ (List.mem_of_getElem? (i := 19) rfl)), rfl, hnm⟩) (hw _ (List.mem_of_getElem? (i := 1) rfl)) (ty := .int) (by decide) rfl rfl (g := (mkF m 17 #[.val (.ref mt), .val (.long m0), .second, .val (.long m1), .second, .val (.int m2), .val (.long m3), .second, .val (.long m4), .second, .val (.int m5), .val (.long m6), .second, .val (.int m7), .val (.long m8), .second, .val (.int m9)] [(.int m2), (.ref mt)])) rfl rfl (hb hby own_d1_17)
  have N26 := Fr.snoc X26 N14 gm
  have f27 := f15.wr W26
  have f28 := f16.other W26 (Or.inr (slot_ne (Or.inr (hw _ (List.mem_of_getElem? (i := 15) rfl))) (Or.inr (hw _ (List.mem_of_getElem? (i := 19) rfl))) (by decide) (t := .long) (t' := .int) (by decide) (by decide)))
  have f29 := f17.other W26 (Or.inr (slot_ne (Or.inr (hw _ (List.mem_of_getElem? (i := 17) rfl))) (Or.inr (hw _ (List.mem_of_getElem? (i := 19) rfl))) (by decide) (t := .long) (t' := .int) (by decide) (by decide)))
  have f30 := f18.same W26
  have f31 := f19.other W26 (Or.inr (slot_ne (Or.inr (hw _ (List.mem_of_getElem? (i := 21) rfl))) (Or.inr (hw _ (List.mem_of_getElem? (i := 19) rfl))) (by decide) (t := .long) (t' := .int) (by decide) (by decide)))
  have f32 := f20.other W26 (Or.inr (slot_ne (Or.inr (hw _ (List.mem_of_getElem? (i := 23) rfl))) (Or.inr (hw _ (List.mem_of_getElem? (i := 19) rfl))) (by decide) (t := .long) (t' := .int) (by decide) (by decide)))
  have f33 := f21.other W26 (Or.inr (slot_ne (Or.inr (hw _ (List.mem_of_getElem? (i := 25) rfl))) (Or.inr (hw _ (List.mem_of_getElem? (i := 19) rfl))) (by decide) (t := .int) (t' := .int) (by decide) (by decide)))
  have f34 := f22.other W26 (Or.inr (slot_ne (Or.inr (hw _ (List.mem_of_getElem? (i := 27) rfl))) (Or.inr (hw _ (List.mem_of_getElem? (i := 19) rfl))) (by decide) (t := .long) (t' := .int) (by decide) (by decide)))
  have f35 := f23.other W26 (Or.inr (slot_ne (Or.inr (hw _ (List.mem_of_getElem? (i := 29) rfl))) (Or.inr (hw _ (List.mem_of_getElem? (i := 19) rfl))) (by decide) (t := .int) (t' := .int) (by decide) (by decide)))
  have f36 := f24.other W26 (Or.inr (slot_ne (Or.inr (hw _ (List.mem_of_getElem? (i := 31) rfl))) (Or.inr (hw _ (List.mem_of_getElem? (i := 19) rfl))) (by decide) (t := .long) (t' := .int) (by decide) (by decide)))
  have f37 := f25.other W26 (Or.inr (slot_ne (Or.inr (hw _ (List.mem_of_getElem? (i := 33) rfl))) (Or.inr (hw _ (List.mem_of_getElem? (i := 19) rfl))) (by decide) (t := .int) (t' := .int) (by decide) (by decide)))
  have K26 := K14.wr W26 (Or.inl (List.mem_of_getElem? (i := 0) rfl))
  have Z26 := Nat.le_trans Z14 (Nat.le_of_eq W26.size.symm)
  refine Goes.go st26 ?_
  show Goes p e below s _ _ _ T26 (mkF m 20 #[.val (.ref mt), .val (.long m0), .second, .val (.long m1), .second, .val (.int m2), .val (.long m3), .second, .val (.long m4), .second, .val (.int m5), .val (.long m6), .second, .val (.int m7), .val (.long m8), .second, .val (.int m9)] [])
  refine own_aloadN X26 hx 21 rfl (hb hby own_d1_20) rfl rfl ?_
  refine own_lload X26 hx 23 rfl (hb hby own_d1_21) rfl ?_
  obtain ⟨T38, h38, X38, e38, W38, st38⟩ := putF X26 hx hZ hown (host := "") (Or.inl (hw _ (List.mem_of_getElem? (i := 20) rfl))) Via.refl e26 f31 f27 (Or.inr ⟨(hw _ (List.mem_of_getElem? (i := 21) rfl)), rfl, hnm⟩) (hw _ (List.mem_of_getElem? (i := 1) rfl)) (ty := .long) (by decide) rfl rfl (g := (mkF m 23 #[.val (.ref mt), .val (.long m0), .second, .val (.long m1), .second, .val (.int m2), .val (.long m3), .second, .val (.long m4), .second, .val (.int m5), .val (.long m6), .second, .val (.int m7), .val (.long m8), .second, .val (.int m9)] [(.long m3), (.ref mt)])) rfl rfl (hb hby own_d1_23)
  have N38 := Fr.snoc X38 N26 gm
  have f39 := f27.wr W38
  have f40 := f28.other W38 (Or.inr (slot_ne (Or.inr (hw _ (List.mem_of_getElem? (i := 15) rfl))) (Or.inr (hw _ (List.mem_of_getElem? (i := 21) rfl))) (by decide) (t := .long) (t' := .long) (by decide) (by decide)))
  have f41 := f29.other W38 (Or.inr (slot_ne (Or.inr (hw _ (List.mem_of_getElem? (i := 17) rfl))) (Or.inr (hw _ (List.mem_of_getElem? (i := 21) rfl))) (by decide) (t := .long) (t' := .long) (by decide) (by decide)))
  have f42 := f30.other W38 (Or.inr (slot_ne (Or.inr (hw _ (List.mem_of_getElem? (i := 19) rfl))) (Or.inr (hw _ (List.mem_of_getElem? (i := 21) rfl))) (by decide) (t := .int) (t' := .long) (by decide) (by decide)))
  have f43 := f31.same W38
  have f44 := f32.other W38 (Or.inr (slot_ne (Or.inr (hw _ (List.mem_of_getElem? (i := 23) rfl))) (Or.inr (hw _ (List.mem_of_getElem? (i := 21) rfl))) (by decide) (t := .long) (t' := .long) (by decide) (by decide)))
  have f45 := f33.other W38 (Or.inr (slot_ne (Or.inr (hw _ (List.mem_of_getElem? (i := 25) rfl))) (Or.inr (hw _ (List.mem_of_getElem? (i := 21) rfl))) (by decide) (t := .int) (t' := .long) (by decide) (by decide)))
  have f46 := f34.other W38 (Or.inr (slot_ne (Or.inr (hw _ (List.mem_of_getElem? (i := 27) rfl))) (Or.inr (hw _ (List.mem_of_getElem? (i := 21) rfl))) (by decide) (t := .long) (t' := .long) (by decide) (by decide)))
  have f47 := f35.other W38 (Or.inr (slot_ne (Or.inr (hw _ (List.mem_of_getElem? (i := 29) rfl))) (Or.inr (hw _ (List.mem_of_getElem? (i := 21) rfl))) (by decide) (t := .int) (t' := .long) (by decide) (by decide)))
  have f48 := f36.other W38 (Or.inr (slot_ne (Or.inr (hw _ (List.mem_of_getElem? (i := 31) rfl))) (Or.inr (hw _ (List.mem_of_getElem? (i := 21) rfl))) (by decide) (t := .long) (t' := .long) (by decide) (by decide)))
  have f49 := f37.other W38 (Or.inr (slot_ne (Or.inr (hw _ (List.mem_of_getElem? (i := 33) rfl))) (Or.inr (hw _ (List.mem_of_getElem? (i := 21) rfl))) (by decide) (t := .int) (t' := .long) (by decide) (by decide)))
  have K38 := K26.wr W38 (Or.inl (List.mem_of_getElem? (i := 0) rfl))
  have Z38 := Nat.le_trans Z26 (Nat.le_of_eq W38.size.symm)
  refine Goes.go st38 ?_
  show Goes p e below s _ _ _ T38 (mkF m 26 #[.val (.ref mt), .val (.long m0), .second, .val (.long m1), .second, .val (.int m2), .val (.long m3), .second, .val (.long m4), .second, .val (.int m5), .val (.long m6), .second, .val (.int m7), .val (.long m8), .second, .val (.int m9)] [])
  refine own_aloadN X38 hx 27 rfl (hb hby own_d1_26) rfl rfl ?_
  refine own_lload X38 hx 29 rfl (hb hby own_d1_27) rfl ?_
  obtain ⟨T50, h50, X50, e50, W50, st50⟩ := putF X38 hx hZ hown (host := "") (Or.inl (hw _ (List.mem_of_getElem? (i := 22) rfl))) Via.refl e38 f44 f39 (Or.inr ⟨(hw _ (List.mem_of_getElem? (i := 23) rfl)), rfl, hnm⟩) (hw _ (List.mem_of_getElem? (i := 1) rfl)) (ty := .long) (by decide) rfl rfl (g := (mkF m 29 #[.val (.ref mt), .val (.long m0), .second, .val (.long m1), .second, .val (.int m2), .val (.long m3), .second, .val (.long m4), .second, .val (.int m5), .val (.long m6), .second, .val (.int m7), .val (.long m8), .second, .val (.int m9)] [(.long m4), (.ref mt)])) rfl rfl (hb hby own_d1_29)
  have N50 := Fr.snoc X50 N38 gm
  have f51 := f39.wr W50
  have f52 := f40.other W50 (Or.inr (slot_ne (Or.inr (hw _ (List.mem_of_getElem? (i := 15) rfl))) (Or.inr (hw _ (List.mem_of_getElem? (i := 23) rfl))) (by decide) (t := .long) (t' := .long) (by decide) (by decide)))
  have f53 := f41.other W50 (Or.inr (slot_ne (Or.inr (hw _ (List.mem_of_getElem? (i := 17) rfl))) (Or.inr (hw _ (List.mem_of_getElem? (i := 23) rfl))) (by decide) (t := .long) (t' := .long) (by decide) (by decide)))
  have f54 := f42.other W50 (Or.inr (slot_ne (Or.inr (hw _ (List.mem_of_getElem? (i := 19) rfl))) (Or.inr (hw _ (List.mem_of_getElem? (i := 23) rfl))) (by decide) (t := .int) (t' := .long) (by decide) (by decide)))
  have f55 := f43.other W50 (Or.inr (slot_ne (Or.inr (hw _ (List.mem_of_getElem? (i := 21) rfl))) (Or.inr (hw _ (List.mem_of_getElem? (i := 23) rfl))) (by decide) (t := .long) (t' := .long) (by decide) (by decide)))
  have f56 := f44.same W50
  have f57 := f45.other W50 (Or.inr (slot_ne (Or.inr (hw _ (List.mem_of_getElem? (i := 25) rfl))) (Or.inr (hw _ (List.mem_of_getElem? (i := 23) rfl))) (by decide) (t := .int) (t' := .long) (by decide) (by decide)))
  have f58 := f46.other W50 (Or.inr (slot_ne (Or.inr (hw _ (List.mem_of_getElem? (i := 27) rfl))) (Or.inr (hw _ (List.mem_of_getElem? (i := 23) rfl))) (by decide) (t := .long) (t' := .long) (by decide) (by decide)))
  have f59 := f47.other W50 (Or.inr (slot_ne (Or.inr (hw _ (List.mem_of_getElem? (i := 29) rfl))) (Or.inr (hw _ (List.mem_of_getElem? (i := 23) rfl))) (by decide) (t := .int) (t' := .long) (by decide) (by decide)))
  have f60 := f48.other W50 (Or.inr (slot_ne (Or.inr (hw _ (List.mem_of_getElem? (i := 31) rfl))) (Or.inr (hw _ (List.mem_of_getElem? (i := 23) rfl))) (by decide) (t := .long) (t' := .long) (by decide) (by decide)))
  have f61 := f49.other W50 (Or.inr (slot_ne (Or.inr (hw _ (List.mem_of_getElem? (i := 33) rfl))) (Or.inr (hw _ (List.mem_of_getElem? (i := 23) rfl))) (by decide) (t := .int) (t' := .long) (by decide) (by decide)))
  have K50 := K38.wr W50 (Or.inl (List.mem_of_getElem? (i := 0) rfl))
  have Z50 := Nat.le_trans Z38 (Nat.le_of_eq W50.size.symm)
  refine Goes.go st50 ?_
  show Goes p e below s _ _ _ T50 (mkF m 32 #[.val (.ref mt), .val (.long m0), .second, .val (.long m1), .second, .val (.int m2), .val (.long m3), .second, .val (.long m4), .second, .val (.int m5), .val (.long m6), .second, .val (.int m7), .val (.long m8), .second, .val (.int m9)] [])
  refine own_aloadN X50 hx 33 rfl (hb hby own_d1_32) rfl rfl ?_
  refine own_iload X50 hx 35 rfl (hb hby own_d1_33) rfl ?_
  obtain ⟨T62, h62, X62, e62, W62, st62⟩ := putF X50 hx hZ hown (host := "") (Or.inl (hw _ (List.mem_of_getElem? (i := 24) rfl))) Via.refl e50 f57 f51 (Or.inr ⟨(hw _ (List.mem_of_getElem? (i := 25) rfl)), rfl, hnm⟩) (hw _ (List.mem_of_getElem? (i := 1) rfl)) (ty := .int) (by decide) rfl rfl (g := (mkF m 35 #[.val (.ref mt), .val (.long m0), .second, .val (.long m1), .second, .val (.int m2), .val (.long m3), .second, .val (.long m4), .second, .val (.int m5), .val (.long m6), .second, .val (.int m7), .val (.long m8), .second, .val (.int m9)] [(.int m5), (.ref mt)])) rfl rfl (hb hby own_d1_35)
  have N62 := Fr.snoc X62 N50 gm
  have f63 := f51.wr W62
  have f64 := f52.other W62 (Or.inr (slot_ne (Or.inr (hw _ (List.mem_of_getElem? (i := 15) rfl))) (Or.inr (hw _ (List.mem_of_getElem? (i := 25) rfl))) (by decide) (t := .long) (t' := .int) (by decide) (by decide)))
  have f65 := f53.other W62 (Or.inr (slot_ne (Or.inr (hw _ (List.mem_of_getElem? (i := 17) rfl))) (Or.inr (hw _ (List.mem_of_getElem? (i := 25) rfl))) (by decide) (t := .long) (t' := .int) (by decide) (by decide)))
  have f66 := f54.other W62 (Or.inr (slot_ne (Or.inr (hw _ (List.mem_of_getElem? (i := 19) rfl))) (Or.inr (hw _ (List.mem_of_getElem? (i := 25) rfl))) (by decide) (t := .int) (t' := .int) (by decide) (by decide)))
  have f67 := f55.other W62 (Or.inr (slot_ne (Or.inr (hw _ (List.mem_of_getElem? (i := 21) rfl))) (Or.inr (hw _ (List.mem_of_getElem? (i := 25) rfl))) (by decide) (t := .long) (t' := .int) (by decide) (by decide)))
  have f68 := f56.other W62 (Or.inr (slot_ne (Or.inr (hw _ (List.mem_of_getElem? (i := 23) rfl))) (Or.inr (hw _ (List.mem_of_getElem? (i := 25) rfl))) (by decide) (t := .long) (t' := .int) (by decide) (by decide)))
  have f69 := f57.same W62
  have f70 := f58.other W62 (Or.inr (slot_ne (Or.inr (hw _ (List.mem_of_getElem? (i := 27) rfl))) (Or.inr (hw _ (List.mem_of_getElem? (i := 25) rfl))) (by decide) (t := .long) (t' := .int) (by decide) (by decide)))
  have f71 := f59.other W62 (Or.inr (slot_ne (Or.inr (hw _ (List.mem_of_getElem? (i := 29) rfl))) (Or.inr (hw _ (List.mem_of_getElem? (i := 25) rfl))) (by decide) (t := .int) (t' := .int) (by decide) (by decide)))
  have f72 := f60.other W62 (Or.inr (slot_ne (Or.inr (hw _ (List.mem_of_getElem? (i := 31) rfl))) (Or.inr (hw _ (List.mem_of_getElem? (i := 25) rfl))) (by decide) (t := .long) (t' := .int) (by decide) (by decide)))
  have f73 := f61.other W62 (Or.inr (slot_ne (Or.inr (hw _ (List.mem_of_getElem? (i := 33) rfl))) (Or.inr (hw _ (List.mem_of_getElem? (i := 25) rfl))) (by decide) (t := .int) (t' := .int) (by decide) (by decide)))
  have K62 := K50.wr W62 (Or.inl (List.mem_of_getElem? (i := 0) rfl))
  have Z62 := Nat.le_trans Z50 (Nat.le_of_eq W62.size.symm)
  refine Goes.go st62 ?_
  show Goes p e below s _ _ _ T62 (mkF m 38 #[.val (.ref mt), .val (.long m0), .second, .val (.long m1), .second, .val (.int m2), .val (.long m3), .second, .val (.long m4), .second, .val (.int m5), .val (.long m6), .second, .val (.int m7), .val (.long m8), .second, .val (.int m9)] [])
  refine own_aloadN X62 hx 39 rfl (hb hby own_d1_38) rfl rfl ?_
  refine own_lload X62 hx 41 rfl (hb hby own_d1_39) rfl ?_
  obtain ⟨T74, h74, X74, e74, W74, st74⟩ := putF X62 hx hZ hown (host := "") (Or.inl (hw _ (List.mem_of_getElem? (i := 26) rfl))) Via.refl e62 f70 f63 (Or.inr ⟨(hw _ (List.mem_of_getElem? (i := 27) rfl)), rfl, hnm⟩) (hw _ (List.mem_of_getElem? (i := 1) rfl)) (ty := .long) (by decide) rfl rfl (g := (mkF m 41 #[.val (.ref mt), .val (.long m0), .second, .val (.long m1), .second, .val (.int m2), .val (.long m3), .second, .val (.long m4), .second, .val (.int m5), .val (.long m6), .second, .val (.int m7), .val (.long m8), .second, .val (.int m9)] [(.long m6), (.ref mt)])) rfl rfl (hb hby own_d1_41)
  have N74 := Fr.snoc X74 N62 gm
  have f75 := f63.wr W74
  have f76 := f64.other W74 (Or.inr (slot_ne (Or.inr (hw _ (List.mem_of_getElem? (i := 15) rfl))) (Or.inr (hw _ (List.mem_of_getElem? (i := 27) rfl))) (by decide) (t := .long) (t' := .long) (by decide) (by decide)))
  have f77 := f65.other W74 (Or.inr (slot_ne (Or.inr (hw _ (List.mem_of_getElem? (i := 17) rfl))) (Or.inr (hw _ (List.mem_of_getElem? (i := 27) rfl))) (by decide) (t := .long) (t' := .long) (by decide) (by decide)))
  have f78 := f66.other W74 (Or.inr (slot_ne (Or.inr (hw _ (List.mem_of_getElem? (i := 19) rfl))) (Or.inr (hw _ (List.mem_of_getElem? (i := 27) rfl))) (by decide) (t := .int) (t' := .long) (by decide) (by decide)))
  have f79 := f67.other W74 (Or.inr (slot_ne (Or.inr (hw _ (List.mem_of_getElem? (i := 21) rfl))) (Or.inr (hw _ (List.mem_of_getElem? (i := 27) rfl))) (by decide) (t := .long) (t' := .long) (by decide) (by decide)))
  have f80 := f68.other W74 (Or.inr (slot_ne (Or.inr (hw _ (List.mem_of_getElem? (i := 23) rfl))) (Or.inr (hw _ (List.mem_of_getElem? (i := 27) rfl))) (by decide) (t := .long) (t' := .long) (by decide) (by decide)))
  have f81 := f69.other W74 (Or.inr (slot_ne (Or.inr (hw _ (List.mem_of_getElem? (i := 25) rfl))) (Or.inr (hw _ (List.mem_of_getElem? (i := 27) rfl))) (by decide) (t := .int) (t' := .long) (by decide) (by decide)))
  have f82 := f70.same W74
  have f83 := f71.other W74 (Or.inr (slot_ne (Or.inr (hw _ (List.mem_of_getElem? (i := 29) rfl))) (Or.inr (hw _ (List.mem_of_getElem? (i := 27) rfl))) (by decide) (t := .int) (t' := .long) (by decide) (by decide)))
  have f84 := f72.other W74 (Or.inr (slot_ne (Or.inr (hw _ (List.mem_of_getElem? (i := 31) rfl))) (Or.inr (hw _ (List.mem_of_getElem? (i := 27) rfl))) (by decide) (t := .long) (t' := .long) (by decide) (by decide)))
  have f85 := f73.other W74 (Or.inr (slot_ne (Or.inr (hw _ (List.mem_of_getElem? (i := 33) rfl))) (Or.inr (hw _ (List.mem_of_getElem? (i := 27) rfl))) (by decide) (t := .int) (t' := .long) (by decide) (by decide)))
  have K74 := K62.wr W74 (Or.inl (List.mem_of_getElem? (i := 0) rfl))
  have Z74 := Nat.le_trans Z62 (Nat.le_of_eq W74.size.symm)
  refine Goes.go st74 ?_
  show Goes p e below s _ _ _ T74 (mkF m 44 #[.val (.ref mt), .val (.long m0), .second, .val (.long m1), .second, .val (.int m2), .val (.long m3), .second, .val (.long m4), .second, .val (.int m5), .val (.long m6), .second, .val (.int m7), .val (.long m8), .second, .val (.int m9)] [])
  refine own_aloadN X74 hx 45 rfl (hb hby own_d1_44) rfl rfl ?_
  refine own_iload X74 hx 47 rfl (hb hby own_d1_45) rfl ?_
  obtain ⟨T86, h86, X86, e86, W86, st86⟩ := putF X74 hx hZ hown (host := "") (Or.inl (hw _ (List.mem_of_getElem? (i := 28) rfl))) Via.refl e74 f83 f75 (Or.inr ⟨(hw _ (List.mem_of_getElem? (i := 29) rfl)), rfl, hnm⟩) (hw _ (List.mem_of_getElem? (i := 1) rfl)) (ty := .int) (by decide) rfl rfl (g := (mkF m 47 #[.val (.ref mt), .val (.long m0), .second, .val (.long m1), .second, .val (.int m2), .val (.long m3), .second, .val (.long m4), .second, .val (.int m5), .val (.long m6), .second, .val (.int m7), .val (.long m8), .second, .val (.int m9)] [(.int m7), (.ref mt)])) rfl rfl (hb hby own_d1_47)
  have N86 := Fr.snoc X86 N74 gm
  have f87 := f75.wr W86
  have f88 := f76.other W86 (Or.inr (slot_ne (Or.inr (hw _ (List.mem_of_getElem? (i := 15) rfl))) (Or.inr (hw _ (List.mem_of_getElem? (i := 29) rfl))) (by decide) (t := .long) (t' := .int) (by decide) (by decide)))
  have f89 := f77.other W86 (Or.inr (slot_ne (Or.inr (hw _ (List.mem_of_getElem? (i := 17) rfl))) (Or.inr (hw _ (List.mem_of_getElem? (i := 29) rfl))) (by decide) (t := .long) (t' := .int) (by decide) (by decide)))
  have f90 := f78.other W86 (Or.inr (slot_ne (Or.inr (hw _ (List.mem_of_getElem? (i := 19) rfl))) (Or.inr (hw _ (List.mem_of_getElem? (i := 29) rfl))) (by decide) (t := .int) (t' := .int) (by decide) (by decide)))
  have f91 := f79.other W86 (Or.inr (slot_ne (Or.inr (hw _ (List.mem_of_getElem? (i := 21) rfl))) (Or.inr (hw _ (List.mem_of_getElem? (i := 29) rfl))) (by decide) (t := .long) (t' := .int) (by decide) (by decide)))
  have f92 := f80.other W86 (Or.inr (slot_ne (Or.inr (hw _ (List.mem_of_getElem? (i := 23) rfl))) (Or.inr (hw _ (List.mem_of_getElem? (i := 29) rfl))) (by decide) (t := .long) (t' := .int) (by decide) (by decide)))
  have f93 := f81.other W86 (Or.inr (slot_ne (Or.inr (hw _ (List.mem_of_getElem? (i := 25) rfl))) (Or.inr (hw _ (List.mem_of_getElem? (i := 29) rfl))) (by decide) (t := .int) (t' := .int) (by decide) (by decide)))
  have f94 := f82.other W86 (Or.inr (slot_ne (Or.inr (hw _ (List.mem_of_getElem? (i := 27) rfl))) (Or.inr (hw _ (List.mem_of_getElem? (i := 29) rfl))) (by decide) (t := .long) (t' := .int) (by decide) (by decide)))
  have f95 := f83.same W86
  have f96 := f84.other W86 (Or.inr (slot_ne (Or.inr (hw _ (List.mem_of_getElem? (i := 31) rfl))) (Or.inr (hw _ (List.mem_of_getElem? (i := 29) rfl))) (by decide) (t := .long) (t' := .int) (by decide) (by decide)))
  have f97 := f85.other W86 (Or.inr (slot_ne (Or.inr (hw _ (List.mem_of_getElem? (i := 33) rfl))) (Or.inr (hw _ (List.mem_of_getElem? (i := 29) rfl))) (by decide) (t := .int) (t' := .int) (by decide) (by decide)))
  have K86 := K74.wr W86 (Or.inl (List.mem_of_getElem? (i := 0) rfl))
  have Z86 := Nat.le_trans Z74 (Nat.le_of_eq W86.size.symm)
  refine Goes.go st86 ?_
  show Goes p e below s _ _ _ T86 (mkF m 50 #[.val (.ref mt), .val (.long m0), .second, .val (.long m1), .second, .val (.int m2), .val (.long m3), .second, .val (.long m4), .second, .val (.int m5), .val (.long m6), .second, .val (.int m7), .val (.long m8), .second, .val (.int m9)] [])
  refine own_aloadN X86 hx 51 rfl (hb hby own_d1_50) rfl rfl ?_
  refine own_lload X86 hx 53 rfl (hb hby own_d1_51) rfl ?_
  obtain ⟨T98, h98, X98, e98, W98, st98⟩ := putF X86 hx hZ hown (host := "") (Or.inl (hw _ (List.mem_of_getElem? (i := 30) rfl))) Via.refl e86 f96 f87 (Or.inr ⟨(hw _ (List.mem_of_getElem? (i := 31) rfl)), rfl, hnm⟩) (hw _ (List.mem_of_getElem? (i := 1) rfl)) (ty := .long) (by decide) rfl rfl (g := (mkF m 53 #[.val (.ref mt), .val (.long m0), .second, .val (.long m1), .second, .val (.int m2), .val (.long m3), .second, .val (.long m4), .second, .val (.int m5), .val (.long m6), .second, .val (.int m7), .val (.long m8), .second, .val (.int m9)] [(.long m8), (.ref mt)])) rfl rfl (hb hby own_d1_53)
  have N98 := Fr.snoc X98 N86 gm
  have f99 := f87.wr W98
  have f100 := f88.other W98 (Or.inr (slot_ne (Or.inr (hw _ (List.mem_of_getElem? (i := 15) rfl))) (Or.inr (hw _ (List.mem_of_getElem? (i := 31) rfl))) (by decide) (t := .long) (t' := .long) (by decide) (by decide)))
  have f101 := f89.other W98 (Or.inr (slot_ne (Or.inr (hw _ (List.mem_of_getElem? (i := 17) rfl))) (Or.inr (hw _ (List.mem_of_getElem? (i := 31) rfl))) (by decide) (t := .long) (t' := .long) (by decide) (by decide)))
  have f102 := f90.other W98 (Or.inr (slot_ne (Or.inr (hw _ (List.mem_of_getElem? (i := 19) rfl))) (Or.inr (hw _ (List.mem_of_getElem? (i := 31) rfl))) (by decide) (t := .int) (t' := .long) (by decide) (by decide)))
  have f103 := f91.other W98 (Or.inr (slot_ne (Or.inr (hw _ (List.mem_of_getElem? (i := 21) rfl))) (Or.inr (hw _ (List.mem_of_getElem? (i := 31) rfl))) (by decide) (t := .long) (t' := .long) (by decide) (by decide)))
  have f104 := f92.other W98 (Or.inr (slot_ne (Or.inr (hw _ (List.mem_of_getElem? (i := 23) rfl))) (Or.inr (hw _ (List.mem_of_getElem? (i := 31) rfl))) (by decide) (t := .long) (t' := .long) (by decide) (by decide)))
  have f105 := f93.other W98 (Or.inr (slot_ne (Or.inr (hw _ (List.mem_of_getElem? (i := 25) rfl))) (Or.inr (hw _ (List.mem_of_getElem? (i := 31) rfl))) (by decide) (t := .int) (t' := .long) (by decide) (by decide)))
  have f106 := f94.other W98 (Or.inr (slot_ne (Or.inr (hw _ (List.mem_of_getElem? (i := 27) rfl))) (Or.inr (hw _ (List.mem_of_getElem? (i := 31) rfl))) (by decide) (t := .long) (t' := .long) (by decide) (by decide)))
  have f107 := f95.other W98 (Or.inr (slot_ne (Or.inr (hw _ (List.mem_of_getElem? (i := 29) rfl))) (Or.inr (hw _ (List.mem_of_getElem? (i := 31) rfl))) (by decide) (t := .int) (t' := .long) (by decide) (by decide)))
  have f108 := f96.same W98
  have f109 := f97.other W98 (Or.inr (slot_ne (Or.inr (hw _ (List.mem_of_getElem? (i := 33) rfl))) (Or.inr (hw _ (List.mem_of_getElem? (i := 31) rfl))) (by decide) (t := .int) (t' := .long) (by decide) (by decide)))
  have K98 := K86.wr W98 (Or.inl (List.mem_of_getElem? (i := 0) rfl))
  have Z98 := Nat.le_trans Z86 (Nat.le_of_eq W98.size.symm)
  refine Goes.go st98 ?_
  show Goes p e below s _ _ _ T98 (mkF m 56 #[.val (.ref mt), .val (.long m0), .second, .val (.long m1), .second, .val (.int m2), .val (.long m3), .second, .val (.long m4), .second, .val (.int m5), .val (.long m6), .second, .val (.int m7), .val (.long m8), .second, .val (.int m9)] [])
  refine own_aloadN X98 hx 57 rfl (hb hby own_d1_56) rfl rfl ?_
  refine own_iload X98 hx 59 rfl (hb hby own_d1_57) rfl ?_
  obtain ⟨T110, h110, X110, e110, W110, st110⟩ := putF X98 hx hZ hown (host := "") (Or.inl (hw _ (List.mem_of_getElem? (i := 32) rfl))) Via.refl e98 f109 f99 (Or.inr ⟨(hw _ (List.mem_of_getElem? (i := 33) rfl)), rfl, hnm⟩) (hw _ (List.mem_of_getElem? (i := 1) rfl)) (ty := .int) (by decide) rfl rfl (g := (mkF m 59 #[.val (.ref mt), .val (.long m0), .second, .val (.long m1), .second, .val (.int m2), .val (.long m3), .second, .val (.long m4), .second, .val (.int m5), .val (.long m6), .second, .val (.int m7), .val (.long m8), .second, .val (.int m9)] [(.int m9), (.ref mt)])) rfl rfl (hb hby own_d1_59)
  have N110 := Fr.snoc X110 N98 gm
  have f111 := f99.wr W110
  have f112 := f100.other W110 (Or.inr (slot_ne (Or.inr (hw _ (List.mem_of_getElem? (i := 15) rfl))) (Or.inr (hw _ (List.mem_of_getElem? (i := 33) rfl))) (by decide) (t := .long) (t' := .int) (by decide) (by decide)))
  have f113 := f101.other W110 (Or.inr (slot_ne (Or.inr (hw _ (List.mem_of_getElem? (i := 17) rfl))) (Or.inr (hw _ (List.mem_of_getElem? (i := 33) rfl))) (by decide) (t := .long) (t' := .int) (by decide) (by decide)))
  have f114 := f102.other W110 (Or.inr (slot_ne (Or.inr (hw _ (List.mem_of_getElem? (i := 19) rfl))) (Or.inr (hw _ (List.mem_of_getElem? (i := 33) rfl))) (by decide) (t := .int) (t' := .int) (by decide) (by decide)))
  have f115 := f103.other W110 (Or.inr (slot_ne (Or.inr (hw _ (List.mem_of_getElem? (i := 21) rfl))) (Or.inr (hw _ (List.mem_of_getElem? (i := 33) rfl))) (by decide) (t := .long) (t' := .int) (by decide) (by decide)))
  have f116 := f104.other W110 (Or.inr (slot_ne (Or.inr (hw _ (List.mem_of_getElem? (i := 23) rfl))) (Or.inr (hw _ (List.mem_of_getElem? (i := 33) rfl))) (by decide) (t := .long) (t' := .int) (by decide) (by decide)))
  have f117 := f105.other W110 (Or.inr (slot_ne (Or.inr (hw _ (List.mem_of_getElem? (i := 25) rfl))) (Or.inr (hw _ (List.mem_of_getElem? (i := 33) rfl))) (by decide) (t := .int) (t' := .int) (by decide) (by decide)))
  have f118 := f106.other W110 (Or.inr (slot_ne (Or.inr (hw _ (List.mem_of_getElem? (i := 27) rfl))) (Or.inr (hw _ (List.mem_of_getElem? (i := 33) rfl))) (by decide) (t := .long) (t' := .int) (by decide) (by decide)))
  have f119 := f107.other W110 (Or.inr (slot_ne (Or.inr (hw _ (List.mem_of_getElem? (i := 29) rfl))) (Or.inr (hw _ (List.mem_of_getElem? (i := 33) rfl))) (by decide) (t := .int) (t' := .int) (by decide) (by decide)))
  have f120 := f108.other W110 (Or.inr (slot_ne (Or.inr (hw _ (List.mem_of_getElem? (i := 31) rfl))) (Or.inr (hw _ (List.mem_of_getElem? (i := 33) rfl))) (by decide) (t := .long) (t' := .int) (by decide) (by decide)))
  have f121 := f109.same W110
  have K110 := K98.wr W110 (Or.inl (List.mem_of_getElem? (i := 0) rfl))
  have Z110 := Nat.le_trans Z98 (Nat.le_of_eq W110.size.symm)
  refine Goes.go st110 ?_
  show Goes p e below s _ _ _ T110 (mkF m 62 #[.val (.ref mt), .val (.long m0), .second, .val (.long m1), .second, .val (.int m2), .val (.long m3), .second, .val (.long m4), .second, .val (.int m5), .val (.long m6), .second, .val (.int m7), .val (.long m8), .second, .val (.int m9)] [])
  refine own_retV X110 hx hlk Bd.returns (hb hby own_d1_62) (by decide) (by decide) e110 ?_
  exact ⟨rfl, N110, K110, f112, f113, f114, f115, f116, f117, f118, f119, f120, f121⟩
theorem own_pd1 : parseMethodDescriptor "(JJIJJIJIJI)V" = some ⟨[.long, .long, .int, .long, .long, .int, .long, .int, .long, .int], none⟩ := by decide +kernel
theorem own_d4_0 : decode prog_111_method_3_code 0 = .ok (.new 8, 3) := by decide +kernel
theorem own_d4_3 : decode prog_111_method_3_code 3 = .ok (.dup, 1) := by decide +kernel
theorem own_d4_4 : decode prog_111_method_3_code 4 = .ok (.aload_n 0, 1) := by decide +kernel
theorem own_d4_5 : decode prog_111_method_3_code 5 = .ok (.getfield 7, 3) := by decide +kernel
theorem own_d4_8 : decode prog_111_method_3_code 8 = .ok (.aload_n 0, 1) := by decide +kernel
theorem own_d4_9 : decode prog_111_method_3_code 9 = .ok (.getfield 13, 3) := by decide +kernel
theorem own_d4_12 : decode prog_111_method_3_code 12 = .ok (.aload_n 0, 1) := by decide +kernel
theorem own_d4_13 : decode prog_111_method_3_code 13 = .ok (.getfield 16, 3) := by decide +kernel
theorem own_d4_16 : decode prog_111_method_3_code 16 = .ok (.aload_n 0, 1) := by decide +kernel
theorem own_d4_17 : decode prog_111_method_3_code 17 = .ok (.getfield 20, 3) := by decide +kernel
theorem own_d4_20 : decode prog_111_method_3_code 20 = .ok (.aload_n 0, 1) := by decide +kernel
theorem own_d4_21 : decode prog_111_method_3_code 21 = .ok (.getfield 23, 3) := by decide +kernel
theorem own_d4_24 : decode prog_111_method_3_code 24 = .ok (.aload_n 0, 1) := by decide +kernel
theorem own_d4_25 : decode prog_111_method_3_code 25 = .ok (.getfield 26, 3) := by decide +kernel
theorem own_d4_28 : decode prog_111_method_3_code 28 = .ok (.aload_n 0, 1) := by decide +kernel
theorem own_d4_29 : decode prog_111_method_3_code 29 = .ok (.getfield 29, 3) := by decide +kernel
theorem own_d4_32 : decode prog_111_method_3_code 32 = .ok (.aload_n 0, 1) := by decide +kernel
theorem own_d4_33 : decode prog_111_method_3_code 33 = .ok (.getfield 32, 3) := by decide +kernel
theorem own_d4_36 : decode prog_111_method_3_code 36 = .ok (.lload_n 1, 1) := by decide +kernel
theorem own_d4_37 : decode prog_111_method_3_code 37 = .ok (.aload_n 0, 1) := by decide +kernel
theorem own_d4_38 : decode prog_111_method_3_code 38 = .ok (.getfield 38, 3) := by decide +kernel
theorem own_d4_41 : decode prog_111_method_3_code 41 = .ok (.invokespecial 41, 3) := by decide +kernel
theorem own_d4_44 : decode prog_111_method_3_code 44 = .ok (.areturn, 1) := by decide +kernel
def Q4 (Z : State) (mt : Addr) (mo : Int64) (m0 : Int64) (m1 : Int64) (m2 : Int32) (m3 : Int64) (m4 : Int64) (m5 : Int32) (m6 : Int64) (m7 : Int32) (m8 : Int64) (m9 : Int32) (h0 : Heap) (n0 : Nat) (v : Option Value) (h : Heap) (L : List Loc) : Prop := ∃ mb : Addr, v = some (.ref mb) ∧ Fr n0 L ∧ Keep h0 h [] ∧ h0.size ≤ mb ∧ Exa Z h mb "com/example/tidings/tidings/store/StoredMessage" ∧ Fld Z h mb "com/example/tidings/tidings/store/StoredMessage" "sequence" "J" (.long m0) ∧ Fld Z h mb "com/example/tidings/tidings/store/StoredMessage" "enqueueTime" "J" (.long m1) ∧ Fld Z h mb "com/example/tidings/tidings/store/StoredMessage" "priority" "I" (.int m2) ∧ Fld Z h mb "com/example/tidings/tidings/store/StoredMessage" "expiryTime" "J" (.long m3) ∧ Fld Z h mb "com/example/tidings/tidings/store/StoredMessage" "nextVisibleTime" "J" (.long m4) ∧ Fld Z h mb "com/example/tidings/tidings/store/StoredMessage" "dequeueCount" "I" (.int m5) ∧ Fld Z h mb "com/example/tidings/tidings/store/StoredMessage" "firstDequeueTime" "J" (.long m6) ∧ Fld Z h mb "com/example/tidings/tidings/store/StoredMessage" "receipts" "I" (.int m7) ∧ Fld Z h mb "com/example/tidings/tidings/store/StoredMessage" "bodyOffset" "J" (.long mo) ∧ Fld Z h mb "com/example/tidings/tidings/store/StoredMessage" "bodyLength" "I" (.int m9)
set_option maxRecDepth 65536 in
set_option maxHeartbeats 40000000 in
theorem rm4 (l : Launch) (Z : State) (a0 : Array Value) (hw : ∀ d ∈ tables_1, d.before a0 Z = true) (ws : List Jvm.Cond) (mt : Addr) (mo : Int64) (m0 : Int64) (m1 : Int64) (m2 : Int32) (m3 : Int64) (m4 : Int64) (m5 : Int32) (m6 : Int64) (m7 : Int32) (m8 : Int64) (m9 : Int32) (h0 : Heap) (n0 : Nat) (Z0 : n0 ≤ h0.size) (Fsequence : Fld Z h0 mt "com/example/tidings/tidings/store/StoredMessage" "sequence" "J" (.long m0)) (FenqueueTime : Fld Z h0 mt "com/example/tidings/tidings/store/StoredMessage" "enqueueTime" "J" (.long m1)) (Fpriority : Fld Z h0 mt "com/example/tidings/tidings/store/StoredMessage" "priority" "I" (.int m2)) (FexpiryTime : Fld Z h0 mt "com/example/tidings/tidings/store/StoredMessage" "expiryTime" "J" (.long m3)) (FnextVisibleTime : Fld Z h0 mt "com/example/tidings/tidings/store/StoredMessage" "nextVisibleTime" "J" (.long m4)) (FdequeueCount : Fld Z h0 mt "com/example/tidings/tidings/store/StoredMessage" "dequeueCount" "I" (.int m5)) (FfirstDequeueTime : Fld Z h0 mt "com/example/tidings/tidings/store/StoredMessage" "firstDequeueTime" "J" (.long m6)) (Freceipts : Fld Z h0 mt "com/example/tidings/tidings/store/StoredMessage" "receipts" "I" (.int m7)) (FbodyOffset : Fld Z h0 mt "com/example/tidings/tidings/store/StoredMessage" "bodyOffset" "J" (.long m8)) (FbodyLength : Fld Z h0 mt "com/example/tidings/tidings/store/StoredMessage" "bodyLength" "I" (.int m9)) :
    MetFree l (⟨"com/example/tidings/tidings/store/StoredMessage", "movedTo", "(J)Lcom/example/tidings/tidings/store/StoredMessage;"⟩ : MethodName) (head1 (Jvm.Cond.code (⟨"com/example/tidings/tidings/store/StoredMessage", "movedTo", "(J)Lcom/example/tidings/tidings/store/StoredMessage;"⟩ : MethodName) prog_111_method_3_code 3 (some (.object "com/example/tidings/tidings/store/StoredMessage")) :: ws) ({ frames := 3, cells := 1, slots := 10, locals := 53 } : Room)) (fun a U => a = #[(.ref mt), (.long mo)] ∧ Z.Warmed39 U.vm ∧ U.heap = h0) (fun _ _ _ _ _ => True) (fun _ U o U' => ∃ v L, o = .returned v ∧ Q4 Z mt mo m0 m1 m2 m3 m4 m5 m6 m7 m8 m9 h0 n0 v U'.heap L ∧ FrameEnd U o U' L ({ frames := 3, cells := 1, slots := 10, locals := 53 } : Room).cells ({ frames := 3, cells := 1, slots := 10, locals := 53 } : Room).slots) := by
  refine MetFree.of_bodySF (plainFor_of_name own_pn_com_example_tidings_tidings_store_StoredMessage) hisR ?_
  intro p e s m args below meth c s₁ Bd hml0 hP hK
  obtain ⟨rfl, hZ, hh⟩ := hP
  have hx := Bd.exec
  have hby := Bd.bytes
  have hml : c.maxLocals = 3 := hml0
  have hlk := Bd.notSynchronized
  have hown : s.vm.findClass "com/example/tidings/tidings/store/StoredMessage" = some m.cls := findClass_of_methodNamed Bd.named
  have hnm := (name_of_methodNamed Bd.named Bd.method).1
  have X0 : Stand p l e ({ frames := 3, cells := 1, slots := 10, locals := 53 } : Room) s m #[(.ref mt), (.long mo)] below meth c s₁ [] 0 0 := Stand.of_body Bd
  have e0 : s₁.heap = h0 := by rw [← hh, Bd.state]; rfl
  have N0 := Fr.nil n0
  have K0 : Keep h0 h0 [] := Keep.refl _ _
  refine own_enter (Q := Q4 Z mt mo m0 m1 m2 m3 m4 m5 m6 m7 m8 m9 h0 n0) (Ls := #[.val (.ref mt), .val (.long mo), .second]) (by first | (simp [entryFrame, mkF, argsToLocals, Value.category]; done) | rfl) ?_
  obtain ⟨T1, h1, X1, e1, E1, A1, D1, -, st1⟩ := newO X0 hx hZ hown (hw _ (List.mem_of_getElem? (i := 39) rfl)) (hw _ (List.mem_of_getElem? (i := 1) rfl)) (hw _ (List.mem_of_getElem? (i := 2) rfl)) e0 (g := (mkF m 0 #[.val (.ref mt), .val (.long mo), .second] [])) rfl (hb hby own_d4_0) (by decide) (by decide)
  obtain ⟨b1, g1⟩ : ∃ z, z = h0.size := ⟨_, rfl⟩
  rw [← g1] at A1 D1 st1
  have ne2 : mt ≠ b1 := own_lt_ne Fsequence.lt g1
  have G1 : n0 ≤ b1 := Nat.le_trans Z0 (Nat.le_of_eq g1.symm)
  have H1 : h0.size ≤ b1 := Nat.le_trans K0.1 (Nat.le_of_eq g1.symm)
  have f3 := Fsequence.ext E1
  have f4 := FenqueueTime.ext E1
  have f5 := Fpriority.ext E1
  have f6 := FexpiryTime.ext E1
  have f7 := FnextVisibleTime.ext E1
  have f8 := FdequeueCount.ext E1
  have f9 := FfirstDequeueTime.ext E1
  have f10 := Freceipts.ext E1
  have f11 := FbodyOffset.ext E1
  have f12 := FbodyLength.ext E1
  have K1 := K0.ext E1
  have Z1 := Nat.le_trans Z0 E1.1
  have f13 : Fld Z h1 b1 "com/example/tidings/tidings/store/StoredMessage" "sequence" "J" (.long (0 : Int64)) := D1 (Or.inr (hw _ (List.mem_of_getElem? (i := 15) rfl))) (ty := .long) (by decide)
  have f14 : Fld Z h1 b1 "com/example/tidings/tidings/store/StoredMessage" "enqueueTime" "J" (.long (0 : Int64)) := D1 (Or.inr (hw _ (List.mem_of_getElem? (i := 17) rfl))) (ty := .long) (by decide)
  have f15 : Fld Z h1 b1 "com/example/tidings/tidings/store/StoredMessage" "priority" "I" (.int (0 : Int32)) := D1 (Or.inr (hw _ (List.mem_of_getElem? (i := 19) rfl))) (ty := .int) (by decide)
  have f16 : Fld Z h1 b1 "com/example/tidings/tidings/store/StoredMessage" "expiryTime" "J" (.long (0 : Int64)) := D1 (Or.inr (hw _ (List.mem_of_getElem? (i := 21) rfl))) (ty := .long) (by decide)
  have f17 : Fld Z h1 b1 "com/example/tidings/tidings/store/StoredMessage" "nextVisibleTime" "J" (.long (0 : Int64)) := D1 (Or.inr (hw _ (List.mem_of_getElem? (i := 23) rfl))) (ty := .long) (by decide)
  have f18 : Fld Z h1 b1 "com/example/tidings/tidings/store/StoredMessage" "dequeueCount" "I" (.int (0 : Int32)) := D1 (Or.inr (hw _ (List.mem_of_getElem? (i := 25) rfl))) (ty := .int) (by decide)
  have f19 : Fld Z h1 b1 "com/example/tidings/tidings/store/StoredMessage" "firstDequeueTime" "J" (.long (0 : Int64)) := D1 (Or.inr (hw _ (List.mem_of_getElem? (i := 27) rfl))) (ty := .long) (by decide)
  have f20 : Fld Z h1 b1 "com/example/tidings/tidings/store/StoredMessage" "receipts" "I" (.int (0 : Int32)) := D1 (Or.inr (hw _ (List.mem_of_getElem? (i := 29) rfl))) (ty := .int) (by decide)
  have f21 : Fld Z h1 b1 "com/example/tidings/tidings/store/StoredMessage" "bodyOffset" "J" (.long (0 : Int64)) := D1 (Or.inr (hw _ (List.mem_of_getElem? (i := 31) rfl))) (ty := .long) (by decide)
  have f22 : Fld Z h1 b1 "com/example/tidings/tidings/store/StoredMessage" "bodyLength" "I" (.int (0 : Int32)) := D1 (Or.inr (hw _ (List.mem_of_getElem? (i := 33) rfl))) (ty := .int) (by decide)
  refine Goes.go st1 ?_
  show Goes p e below s _ _ _ T1 (mkF m 3 #[.val (.ref mt), .val (.long mo), .second] [(.ref b1)])
  refine own_dup X1 hx 4 rfl (hb hby own_d4_3) rfl ?_
  refine own_aloadN X1 hx 5 rfl (hb hby own_d4_4) rfl rfl ?_
  obtain ⟨T23, X23, e23, st23⟩ := getF X1 hx hZ hown (host := "") (Or.inl (hw _ (List.mem_of_getElem? (i := 14) rfl))) Via.refl e1 f3 (g := (mkF m 5 #[.val (.ref mt), .val (.long mo), .second] [(.ref mt), (.ref b1), (.ref b1)])) rfl rfl (hb hby own_d4_5)
  refine Goes.go st23 ?_
  show Goes p e below s _ _ _ T23 (mkF m 8 #[.val (.ref mt), .val (.long mo), .second] [(.long m0), (.ref b1), (.ref b1)])
  refine own_aloadN X23 hx 9 rfl (hb hby own_d4_8) rfl rfl ?_
  obtain ⟨T24, X24, e24, st24⟩ := getF X23 hx hZ hown (host := "") (Or.inl (hw _ (List.mem_of_getElem? (i := 16) rfl))) Via.refl e23 f4 (g := (mkF m 9 #[.val (.ref mt), .val (.long mo), .second] [(.ref mt), (.long m0), (.ref b1), (.ref b1)])) rfl rfl (hb hby own_d4_9)
  refine Goes.go st24 ?_
  show Goes p e below s _ _ _ T24 (mkF m 12 #[.val (.ref mt), .val (.long mo), .second] [(.long m1), (.long m0), (.ref b1), (.ref b1)])
  refine own_aloadN X24 hx 13 rfl (hb hby own_d4_12) rfl rfl ?_
  obtain ⟨T25, X25, e25, st25⟩ := getF X24 hx hZ hown (host := "") (Or.inl (hw _ (List.mem_of_getElem? (i := 18) rfl))) Via.refl e24 f5 (g := (mkF m 13 #[.val (.ref mt), .val (.long mo), .second] [(.ref mt), (.long m1), (.long m0), (.ref b1), (.ref b1)])) rfl rfl (hb hby own_d4_13)
  refine Goes.go st25 ?_
  show Goes p e below s _ _ _ T25 (mkF m 16 #[.val (.ref mt), .val (.long mo), .second] [(.int m2), (.long m1), (.long m0), (.ref b1), (.ref b1)])
  refine own_aloadN X25 hx 17 rfl (hb hby own_d4_16) rfl rfl ?_
  obtain ⟨T26, X26, e26, st26⟩ := getF X25 hx hZ hown (host := "") (Or.inl (hw _ (List.mem_of_getElem? (i := 20) rfl))) Via.refl e25 f6 (g := (mkF m 17 #[.val (.ref mt), .val (.long mo), .second] [(.ref mt), (.int m2), (.long m1), (.long m0), (.ref b1), (.ref b1)])) rfl rfl (hb hby own_d4_17)
  refine Goes.go st26 ?_
  show Goes p e below s _ _ _ T26 (mkF m 20 #[.val (.ref mt), .val (.long mo), .second] [(.long m3), (.int m2), (.long m1), (.long m0), (.ref b1), (.ref b1)])
  refine own_aloadN X26 hx 21 rfl (hb hby own_d4_20) rfl rfl ?_
  obtain ⟨T27, X27, e27, st27⟩ := getF X26 hx hZ hown (host := "") (Or.inl (hw _ (List.mem_of_getElem? (i := 22) rfl))) Via.refl e26 f7 (g := (mkF m 21 #[.val (.ref mt), .val (.long mo), .second] [(.ref mt), (.long m3), (.int m2), (.long m1), (.long m0), (.ref b1), (.ref b1)])) rfl rfl (hb hby own_d4_21)
  refine Goes.go st27 ?_
  show Goes p e below s _ _ _ T27 (mkF m 24 #[.val (.ref mt), .val (.long mo), .second] [(.long m4), (.long m3), (.int m2), (.long m1), (.long m0), (.ref b1), (.ref b1)])
  refine own_aloadN X27 hx 25 rfl (hb hby own_d4_24) rfl rfl ?_
  obtain ⟨T28, X28, e28, st28⟩ := getF X27 hx hZ hown (host := "") (Or.inl (hw _ (List.mem_of_getElem? (i := 24) rfl))) Via.refl e27 f8 (g := (mkF m 25 #[.val (.ref mt), .val (.long mo), .second] [(.ref mt), (.long m4), (.long m3), (.int m2), (.long m1), (.long m0), (.ref b1), (.ref b1)])) rfl rfl (hb hby own_d4_25)
  refine Goes.go st28 ?_
  show Goes p e below s _ _ _ T28 (mkF m 28 #[.val (.ref mt), .val (.long mo), .second] [(.int m5), (.long m4), (.long m3), (.int m2), (.long m1), (.long m0), (.ref b1), (.ref b1)])
  refine own_aloadN X28 hx 29 rfl (hb hby own_d4_28) rfl rfl ?_
  obtain ⟨T29, X29, e29, st29⟩ := getF X28 hx hZ hown (host := "") (Or.inl (hw _ (List.mem_of_getElem? (i := 26) rfl))) Via.refl e28 f9 (g := (mkF m 29 #[.val (.ref mt), .val (.long mo), .second] [(.ref mt), (.int m5), (.long m4), (.long m3), (.int m2), (.long m1), (.long m0), (.ref b1), (.ref b1)])) rfl rfl (hb hby own_d4_29)
  refine Goes.go st29 ?_
  show Goes p e below s _ _ _ T29 (mkF m 32 #[.val (.ref mt), .val (.long mo), .second] [(.long m6), (.int m5), (.long m4), (.long m3), (.int m2), (.long m1), (.long m0), (.ref b1), (.ref b1)])
  refine own_aloadN X29 hx 33 rfl (hb hby own_d4_32) rfl rfl ?_
  obtain ⟨T30, X30, e30, st30⟩ := getF X29 hx hZ hown (host := "") (Or.inl (hw _ (List.mem_of_getElem? (i := 28) rfl))) Via.refl e29 f10 (g := (mkF m 33 #[.val (.ref mt), .val (.long mo), .second] [(.ref mt), (.long m6), (.int m5), (.long m4), (.long m3), (.int m2), (.long m1), (.long m0), (.ref b1), (.ref b1)])) rfl rfl (hb hby own_d4_33)
  refine Goes.go st30 ?_
  show Goes p e below s _ _ _ T30 (mkF m 36 #[.val (.ref mt), .val (.long mo), .second] [(.int m7), (.long m6), (.int m5), (.long m4), (.long m3), (.int m2), (.long m1), (.long m0), (.ref b1), (.ref b1)])
  refine own_lloadN X30 hx 37 rfl (hb hby own_d4_36) rfl ?_
  refine own_aloadN X30 hx 38 rfl (hb hby own_d4_37) rfl rfl ?_
  obtain ⟨T31, X31, e31, st31⟩ := getF X30 hx hZ hown (host := "") (Or.inl (hw _ (List.mem_of_getElem? (i := 32) rfl))) Via.refl e30 f12 (g := (mkF m 38 #[.val (.ref mt), .val (.long mo), .second] [(.ref mt), (.long mo), (.int m7), (.long m6), (.int m5), (.long m4), (.long m3), (.int m2), (.long m1), (.long m0), (.ref b1), (.ref b1)])) rfl rfl (hb hby own_d4_38)
  refine Goes.go st31 ?_
  show Goes p e below s _ _ _ T31 (mkF m 41 #[.val (.ref mt), .val (.long mo), .second] [(.int m9), (.long mo), (.int m7), (.long m6), (.int m5), (.long m4), (.long m3), (.int m2), (.long m1), (.long m0), (.ref b1), (.ref b1)])
  obtain ⟨_, _, ⟨T32, L32, k32, n32⟩, -, X32, ⟨Lc32, hQ32, l32, y32, z32⟩, st32⟩ := X31.specialBack hx (y := (⟨"com/example/tidings/tidings/store/StoredMessage", "<init>", "(JJIJJIJIJI)V"⟩ : MethodName)) rfl hown (mvT hZ (hw _ (List.mem_of_getElem? (i := 40) rfl))) (mvT hZ (hw _ (List.mem_of_getElem? (i := 4) rfl))) (mvT hZ (hw _ (List.mem_of_getElem? (i := 5) rfl))) (by decide) (backOf (W := 1) (rm1 l Z a0 hw [] b1 m0 m1 m2 m3 m4 m5 m6 m7 mo m9 h1 n0 Z1 A1 G1 f13 f14 f15 f16 f17 f18 f19 f20 f21 f22) hZ (hw _ (List.mem_of_getElem? (i := 5) rfl)) (hw _ (List.mem_of_getElem? (i := 2) rfl)) (by decide) (by decide)) (g := (mkF m 41 #[.val (.ref mt), .val (.long mo), .second] [(.int m9), (.long mo), (.int m7), (.long m6), (.int m5), (.long m4), (.long m3), (.int m2), (.long m1), (.long m0), (.ref b1), (.ref b1)])) rfl (by rw [hml]; rfl) (Steps.refl _) (a := b1) (argsL := [(.long m0), (.long m1), (.int m2), (.long m3), (.long m4), (.int m5), (.long m6), (.int m7), (.long mo), (.int m9)]) (rest := [(.ref b1)]) (lenOf own_pd1 rfl) rfl (by show 2 * 0 + _ ≤ _; exact Nat.le_of_eq rfl) (hb hby own_d4_41) (fun _ _ => ⟨rfl, e31, (by decide : 1 + 0 ≤ _), (by decide : 10 + 0 ≤ _)⟩)
  dsimp only [Pt.U, Pt.locs, Pt.cells, Pt.slots] at X32 l32 y32 z32 st32 hQ32
  subst l32 y32 z32
  obtain ⟨rfl, N32q, K32q, f32_0, f32_1, f32_2, f32_3, f32_4, f32_5, f32_6, f32_7, f32_8, f32_9⟩ := hQ32
  have N32 := Fr.app N0 N32q
  have f33 := f3.keep K32q (ninS ne2 nin0)
  have f34 := f4.keep K32q (ninS ne2 nin0)
  have f35 := f5.keep K32q (ninS ne2 nin0)
  have f36 := f6.keep K32q (ninS ne2 nin0)
  have f37 := f7.keep K32q (ninS ne2 nin0)
  have f38 := f8.keep K32q (ninS ne2 nin0)
  have f39 := f9.keep K32q (ninS ne2 nin0)
  have f40 := f10.keep K32q (ninS ne2 nin0)
  have f41 := f11.keep K32q (ninS ne2 nin0)
  have f42 := f12.keep K32q (ninS ne2 nin0)
  have f43 := A1.keep K32q
  have K32 := K1.trans K32q (allS (Or.inr H1) all0)
  have Z32 := Nat.le_trans Z1 K32q.1
  refine Goes.tr st32 ?_
  show Goes p e below s _ _ _ T32 (mkF m 44 #[.val (.ref mt), .val (.long mo), .second] [(.ref b1)])
  refine own_retR X32 hx hlk Bd.returns rfl rfl (hb hby own_d4_44) (by decide) (by decide) rfl ?_
  exact ⟨b1, rfl, N32, K32, H1, f43, f32_0, f32_1, f32_2, f32_3, f32_4, f32_5, f32_6, f32_7, f32_8, f32_9⟩
theorem own_d5_0 : decode prog_111_method_7_code 0 = .ok (.aload_n 0, 1) := by decide +kernel
theorem own_d5_1 : decode prog_111_method_7_code 1 = .ok (.getfield 7, 3) := by decide +kernel
theorem own_d5_4 : decode prog_111_method_7_code 4 = .ok (.lreturn, 1) := by decide +kernel
def Q5 (Z : State) (mt : Addr) (mv : Int64) (h0 : Heap) (n0 : Nat) (v : Option Value) (h : Heap) (L : List Loc) : Prop := v = some (.long mv) ∧ Fr n0 L ∧ h = h0
set_option maxRecDepth 65536 in
set_option maxHeartbeats 40000000 in
theorem rm5 (l : Launch) (Z : State) (a0 : Array Value) (hw : ∀ d ∈ tables_1, d.before a0 Z = true) (ws : List Jvm.Cond) (mt : Addr) (mv : Int64) (h0 : Heap) (n0 : Nat) (Z0 : n0 ≤ h0.size) (Fv : Fld Z h0 mt "com/example/tidings/tidings/store/StoredMessage" "sequence" "J" (.long mv)) :
    MetFree l (⟨"com/example/tidings/tidings/store/StoredMessage", "sequence", "()J"⟩ : MethodName) (head1 (Jvm.Cond.code (⟨"com/example/tidings/tidings/store/StoredMessage", "sequence", "()J"⟩ : MethodName) prog_111_method_7_code 1 (some .long) :: ws) ({ frames := 0, cells := 0, slots := 0, locals := 0 } : Room)) (fun a U => a = #[(.ref mt)] ∧ Z.Warmed39 U.vm ∧ U.heap = h0) (fun _ _ _ _ _ => True) (fun _ U o U' => ∃ v L, o = .returned v ∧ Q5 Z mt mv h0 n0 v U'.heap L ∧ FrameEnd U o U' L ({ frames := 0, cells := 0, slots := 0, locals := 0 } : Room).cells ({ frames := 0, cells := 0, slots := 0, locals := 0 } : Room).slots) := by
  refine MetFree.of_bodySF (plainFor_of_name own_pn_com_example_tidings_tidings_store_StoredMessage) hisR ?_
  intro p e s m args below meth c s₁ Bd hml0 hP hK
  obtain ⟨rfl, hZ, hh⟩ := hP
  have hx := Bd.exec
  have hby := Bd.bytes
  have hml : c.maxLocals = 1 := hml0
  have hlk := Bd.notSynchronized
  have hown : s.vm.findClass "com/example/tidings/tidings/store/StoredMessage" = some m.cls := findClass_of_methodNamed Bd.named
  have hnm := (name_of_methodNamed Bd.named Bd.method).1
  have X0 : Stand p l e ({ frames := 0, cells := 0, slots := 0, locals := 0 } : Room) s m #[(.ref mt)] below meth c s₁ [] 0 0 := Stand.of_body Bd
  have e0 : s₁.heap = h0 := by rw [← hh, Bd.state]; rfl
  have N0 := Fr.nil n0
  refine own_enter (Q := Q5 Z mt mv h0 n0) (Ls := #[.val (.ref mt)]) (by first | (simp [entryFrame, mkF, argsToLocals, Value.category]; done) | rfl) ?_
  refine own_aloadN X0 hx 1 rfl (hb hby own_d5_0) rfl rfl ?_
  obtain ⟨T1, X1, e1, st1⟩ := getF X0 hx hZ hown (host := "") (Or.inl (hw _ (List.mem_of_getElem? (i := 14) rfl))) Via.refl e0 Fv (g := (mkF m 1 #[.val (.ref mt)] [(.ref mt)])) rfl rfl (hb hby own_d5_1)
  refine Goes.go st1 ?_
  show Goes p e below s _ _ _ T1 (mkF m 4 #[.val (.ref mt)] [(.long mv)])
  refine own_retJ X1 hx hlk Bd.returns (hb hby own_d5_4) (by decide) (by decide) e1 ?_
  exact ⟨rfl, N0, rfl⟩
theorem own_d6_0 : decode prog_111_method_8_code 0 = .ok (.aload_n 0, 1) := by decide +kernel
theorem own_d6_1 : decode prog_111_method_8_code 1 = .ok (.getfield 13, 3) := by decide +kernel
theorem own_d6_4 : decode prog_111_method_8_code 4 = .ok (.lreturn, 1) := by decide +kernel
def Q6 (Z : State) (mt : Addr) (mv : Int64) (h0 : Heap) (n0 : Nat) (v : Option Value) (h : Heap) (L : List Loc) : Prop := v = some (.long mv) ∧ Fr n0 L ∧ h = h0
set_option maxRecDepth 65536 in
set_option maxHeartbeats 40000000 in
theorem rm6 (l : Launch) (Z : State) (a0 : Array Value) (hw : ∀ d ∈ tables_1, d.before a0 Z = true) (ws : List Jvm.Cond) (mt : Addr) (mv : Int64) (h0 : Heap) (n0 : Nat) (Z0 : n0 ≤ h0.size) (Fv : Fld Z h0 mt "com/example/tidings/tidings/store/StoredMessage" "enqueueTime" "J" (.long mv)) :
    MetFree l (⟨"com/example/tidings/tidings/store/StoredMessage", "enqueueTime", "()J"⟩ : MethodName) (head1 (Jvm.Cond.code (⟨"com/example/tidings/tidings/store/StoredMessage", "enqueueTime", "()J"⟩ : MethodName) prog_111_method_8_code 1 (some .long) :: ws) ({ frames := 0, cells := 0, slots := 0, locals := 0 } : Room)) (fun a U => a = #[(.ref mt)] ∧ Z.Warmed39 U.vm ∧ U.heap = h0) (fun _ _ _ _ _ => True) (fun _ U o U' => ∃ v L, o = .returned v ∧ Q6 Z mt mv h0 n0 v U'.heap L ∧ FrameEnd U o U' L ({ frames := 0, cells := 0, slots := 0, locals := 0 } : Room).cells ({ frames := 0, cells := 0, slots := 0, locals := 0 } : Room).slots) := by
  refine MetFree.of_bodySF (plainFor_of_name own_pn_com_example_tidings_tidings_store_StoredMessage) hisR ?_
  intro p e s m args below meth c s₁ Bd hml0 hP hK
  obtain ⟨rfl, hZ, hh⟩ := hP
  have hx := Bd.exec
  have hby := Bd.bytes
  have hml : c.maxLocals = 1 := hml0
  have hlk := Bd.notSynchronized
  have hown : s.vm.findClass "com/example/tidings/tidings/store/StoredMessage" = some m.cls := findClass_of_methodNamed Bd.named
  have hnm := (name_of_methodNamed Bd.named Bd.method).1
  have X0 : Stand p l e ({ frames := 0, cells := 0, slots := 0, locals := 0 } : Room) s m #[(.ref mt)] below meth c s₁ [] 0 0 := Stand.of_body Bd
  have e0 : s₁.heap = h0 := by rw [← hh, Bd.state]; rfl
  have N0 := Fr.nil n0
  refine own_enter (Q := Q6 Z mt mv h0 n0) (Ls := #[.val (.ref mt)]) (by first | (simp [entryFrame, mkF, argsToLocals, Value.category]; done) | rfl) ?_
  refine own_aloadN X0 hx 1 rfl (hb hby own_d6_0) rfl rfl ?_
  obtain ⟨T1, X1, e1, st1⟩ := getF X0 hx hZ hown (host := "") (Or.inl (hw _ (List.mem_of_getElem? (i := 16) rfl))) Via.refl e0 Fv (g := (mkF m 1 #[.val (.ref mt)] [(.ref mt)])) rfl rfl (hb hby own_d6_1)
  refine Goes.go st1 ?_
  show Goes p e below s _ _ _ T1 (mkF m 4 #[.val (.ref mt)] [(.long mv)])
  refine own_retJ X1 hx hlk Bd.returns (hb hby own_d6_4) (by decide) (by decide) e1 ?_
  exact ⟨rfl, N0, rfl⟩
theorem own_d7_0 : decode prog_111_method_9_code 0 = .ok (.aload_n 0, 1) := by decide +kernel
theorem own_d7_1 : decode prog_111_method_9_code 1 = .ok (.getfield 16, 3) := by decide +kernel
theorem own_d7_4 : decode prog_111_method_9_code 4 = .ok (.ireturn, 1) := by decide +kernel
def Q7 (Z : State) (mt : Addr) (mv : Int32) (h0 : Heap) (n0 : Nat) (v : Option Value) (h : Heap) (L : List Loc) : Prop := v = some (.int mv) ∧ Fr n0 L ∧ h = h0
set_option maxRecDepth 65536 in
set_option maxHeartbeats 40000000 in
theorem rm7 (l : Launch) (Z : State) (a0 : Array Value) (hw : ∀ d ∈ tables_1, d.before a0 Z = true) (ws : List Jvm.Cond) (mt : Addr) (mv : Int32) (h0 : Heap) (n0 : Nat) (Z0 : n0 ≤ h0.size) (Fv : Fld Z h0 mt "com/example/tidings/tidings/store/StoredMessage" "priority" "I" (.int mv)) :
    MetFree l (⟨"com/example/tidings/tidings/store/StoredMessage", "priority", "()I"⟩ : MethodName) (head1 (Jvm.Cond.code (⟨"com/example/tidings/tidings/store/StoredMessage", "priority", "()I"⟩ : MethodName) prog_111_method_9_code 1 (some .int) :: ws) ({ frames := 0, cells := 0, slots := 0, locals := 0 } : Room)) (fun a U => a = #[(.ref mt)] ∧ Z.Warmed39 U.vm ∧ U.heap = h0) (fun _ _ _ _ _ => True) (fun _ U o U' => ∃ v L, o = .returned v ∧ Q7 Z mt mv h0 n0 v U'.heap L ∧ FrameEnd U o U' L ({ frames := 0, cells := 0, slots := 0, locals := 0 } : Room).cells ({ frames := 0, cells := 0, slots := 0, locals := 0 } : Room).slots) := by
  refine MetFree.of_bodySF (plainFor_of_name own_pn_com_example_tidings_tidings_store_StoredMessage) hisR ?_
  intro p e s m args below meth c s₁ Bd hml0 hP hK
  obtain ⟨rfl, hZ, hh⟩ := hP
  have hx := Bd.exec
  have hby := Bd.bytes
  have hml : c.maxLocals = 1 := hml0
  have hlk := Bd.notSynchronized
  have hown : s.vm.findClass "com/example/tidings/tidings/store/StoredMessage" = some m.cls := findClass_of_methodNamed Bd.named
  have hnm := (name_of_methodNamed Bd.named Bd.method).1
  have X0 : Stand p l e ({ frames := 0, cells := 0, slots := 0, locals := 0 } : Room) s m #[(.ref mt)] below meth c s₁ [] 0 0 := Stand.of_body Bd
  have e0 : s₁.heap = h0 := by rw [← hh, Bd.state]; rfl
  have N0 := Fr.nil n0
  refine own_enter (Q := Q7 Z mt mv h0 n0) (Ls := #[.val (.ref mt)]) (by first | (simp [entryFrame, mkF, argsToLocals, Value.category]; done) | rfl) ?_
  refine own_aloadN X0 hx 1 rfl (hb hby own_d7_0) rfl rfl ?_
  obtain ⟨T1, X1, e1, st1⟩ := getF X0 hx hZ hown (host := "") (Or.inl (hw _ (List.mem_of_getElem? (i := 18) rfl))) Via.refl e0 Fv (g := (mkF m 1 #[.val (.ref mt)] [(.ref mt)])) rfl rfl (hb hby own_d7_1)
  refine Goes.go st1 ?_
  show Goes p e below s _ _ _ T1 (mkF m 4 #[.val (.ref mt)] [(.int mv)])
  refine own_retI X1 hx hlk Bd.returns (hb hby own_d7_4) (by decide) (by decide) e1 ?_
  exact ⟨rfl, N0, rfl⟩
theorem own_d8_0 : decode prog_111_method_10_code 0 = .ok (.aload_n 0, 1) := by decide +kernel
theorem own_d8_1 : decode prog_111_method_10_code 1 = .ok (.getfield 20, 3) := by decide +kernel
theorem own_d8_4 : decode prog_111_method_10_code 4 = .ok (.lreturn, 1) := by decide +kernel
def Q8 (Z : State) (mt : Addr) (mv : Int64) (h0 : Heap) (n0 : Nat) (v : Option Value) (h : Heap) (L : List Loc) : Prop := v = some (.long mv) ∧ Fr n0 L ∧ h = h0
set_option maxRecDepth 65536 in
set_option maxHeartbeats 40000000 in
theorem rm8 (l : Launch) (Z : State) (a0 : Array Value) (hw : ∀ d ∈ tables_1, d.before a0 Z = true) (ws : List Jvm.Cond) (mt : Addr) (mv : Int64) (h0 : Heap) (n0 : Nat) (Z0 : n0 ≤ h0.size) (Fv : Fld Z h0 mt "com/example/tidings/tidings/store/StoredMessage" "expiryTime" "J" (.long mv)) :
    MetFree l (⟨"com/example/tidings/tidings/store/StoredMessage", "expiryTime", "()J"⟩ : MethodName) (head1 (Jvm.Cond.code (⟨"com/example/tidings/tidings/store/StoredMessage", "expiryTime", "()J"⟩ : MethodName) prog_111_method_10_code 1 (some .long) :: ws) ({ frames := 0, cells := 0, slots := 0, locals := 0 } : Room)) (fun a U => a = #[(.ref mt)] ∧ Z.Warmed39 U.vm ∧ U.heap = h0) (fun _ _ _ _ _ => True) (fun _ U o U' => ∃ v L, o = .returned v ∧ Q8 Z mt mv h0 n0 v U'.heap L ∧ FrameEnd U o U' L ({ frames := 0, cells := 0, slots := 0, locals := 0 } : Room).cells ({ frames := 0, cells := 0, slots := 0, locals := 0 } : Room).slots) := by
  refine MetFree.of_bodySF (plainFor_of_name own_pn_com_example_tidings_tidings_store_StoredMessage) hisR ?_
  intro p e s m args below meth c s₁ Bd hml0 hP hK
  obtain ⟨rfl, hZ, hh⟩ := hP
  have hx := Bd.exec
  have hby := Bd.bytes
  have hml : c.maxLocals = 1 := hml0
  have hlk := Bd.notSynchronized
  have hown : s.vm.findClass "com/example/tidings/tidings/store/StoredMessage" = some m.cls := findClass_of_methodNamed Bd.named
  have hnm := (name_of_methodNamed Bd.named Bd.method).1
  have X0 : Stand p l e ({ frames := 0, cells := 0, slots := 0, locals := 0 } : Room) s m #[(.ref mt)] below meth c s₁ [] 0 0 := Stand.of_body Bd
  have e0 : s₁.heap = h0 := by rw [← hh, Bd.state]; rfl
  have N0 := Fr.nil n0
  refine own_enter (Q := Q8 Z mt mv h0 n0) (Ls := #[.val (.ref mt)]) (by first | (simp [entryFrame, mkF, argsToLocals, Value.category]; done) | rfl) ?_
  refine own_aloadN X0 hx 1 rfl (hb hby own_d8_0) rfl rfl ?_
  obtain ⟨T1, X1, e1, st1⟩ := getF X0 hx hZ hown (host := "") (Or.inl (hw _ (List.mem_of_getElem? (i := 20) rfl))) Via.refl e0 Fv (g := (mkF m 1 #[.val (.ref mt)] [(.ref mt)])) rfl rfl (hb hby own_d8_1)
  refine Goes.go st1 ?_
  show Goes p e below s _ _ _ T1 (mkF m 4 #[.val (.ref mt)] [(.long mv)])
  refine own_retJ X1 hx hlk Bd.returns (hb hby own_d8_4) (by decide) (by decide) e1 ?_
  exact ⟨rfl, N0, rfl⟩
theorem own_d9_0 : decode prog_111_method_11_code 0 = .ok (.aload_n 0, 1) := by decide +kernel
theorem own_d9_1 : decode prog_111_method_11_code 1 = .ok (.getfield 23, 3) := by decide +kernel
theorem own_d9_4 : decode prog_111_method_11_code 4 = .ok (.lreturn, 1) := by decide +kernel
def Q9 (Z : State) (mt : Addr) (mv : Int64) (h0 : Heap) (n0 : Nat) (v : Option Value) (h : Heap) (L : List Loc) : Prop := v = some (.long mv) ∧ Fr n0 L ∧ h = h0
set_option maxRecDepth 65536 in
set_option maxHeartbeats 40000000 in
theorem rm9 (l : Launch) (Z : State) (a0 : Array Value) (hw : ∀ d ∈ tables_1, d.before a0 Z = true) (ws : List Jvm.Cond) (mt : Addr) (mv : Int64) (h0 : Heap) (n0 : Nat) (Z0 : n0 ≤ h0.size) (Fv : Fld Z h0 mt "com/example/tidings/tidings/store/StoredMessage" "nextVisibleTime" "J" (.long mv)) :
    MetFree l (⟨"com/example/tidings/tidings/store/StoredMessage", "nextVisibleTime", "()J"⟩ : MethodName) (head1 (Jvm.Cond.code (⟨"com/example/tidings/tidings/store/StoredMessage", "nextVisibleTime", "()J"⟩ : MethodName) prog_111_method_11_code 1 (some .long) :: ws) ({ frames := 0, cells := 0, slots := 0, locals := 0 } : Room)) (fun a U => a = #[(.ref mt)] ∧ Z.Warmed39 U.vm ∧ U.heap = h0) (fun _ _ _ _ _ => True) (fun _ U o U' => ∃ v L, o = .returned v ∧ Q9 Z mt mv h0 n0 v U'.heap L ∧ FrameEnd U o U' L ({ frames := 0, cells := 0, slots := 0, locals := 0 } : Room).cells ({ frames := 0, cells := 0, slots := 0, locals := 0 } : Room).slots) := by
  refine MetFree.of_bodySF (plainFor_of_name own_pn_com_example_tidings_tidings_store_StoredMessage) hisR ?_
  intro p e s m args below meth c s₁ Bd hml0 hP hK
  obtain ⟨rfl, hZ, hh⟩ := hP
  have hx := Bd.exec
  have hby := Bd.bytes
  have hml : c.maxLocals = 1 := hml0
  have hlk := Bd.notSynchronized
  have hown : s.vm.findClass "com/example/tidings/tidings/store/StoredMessage" = some m.cls := findClass_of_methodNamed Bd.named
  have hnm := (name_of_methodNamed Bd.named Bd.method).1
  have X0 : Stand p l e ({ frames := 0, cells := 0, slots := 0, locals := 0 } : Room) s m #[(.ref mt)] below meth c s₁ [] 0 0 := Stand.of_body Bd
  have e0 : s₁.heap = h0 := by rw [← hh, Bd.state]; rfl
  have N0 := Fr.nil n0
  refine own_enter (Q := Q9 Z mt mv h0 n0) (Ls := #[.val (.ref mt)]) (by first | (simp [entryFrame, mkF, argsToLocals, Value.category]; done) | rfl) ?_
  refine own_aloadN X0 hx 1 rfl (hb hby own_d9_0) rfl rfl ?_
  obtain ⟨T1, X1, e1, st1⟩ := getF X0 hx hZ hown (host := "") (Or.inl (hw _ (List.mem_of_getElem? (i := 22) rfl))) Via.refl e0 Fv (g := (mkF m 1 #[.val (.ref mt)] [(.ref mt)])) rfl rfl (hb hby own_d9_1)
  refine Goes.go st1 ?_
  show Goes p e below s _ _ _ T1 (mkF m 4 #[.val (.ref mt)] [(.long mv)])
  refine own_retJ X1 hx hlk Bd.returns (hb hby own_d9_4) (by decide) (by decide) e1 ?_
  exact ⟨rfl, N0, rfl⟩
theorem own_d10_0 : decode prog_111_method_12_code 0 = .ok (.aload_n 0, 1) := by decide +kernel
theorem own_d10_1 : decode prog_111_method_12_code 1 = .ok (.getfield 26, 3) := by decide +kernel
theorem own_d10_4 : decode prog_111_method_12_code 4 = .ok (.ireturn, 1) := by decide +kernel
def Q10 (Z : State) (mt : Addr) (mv : Int32) (h0 : Heap) (n0 : Nat) (v : Option Value) (h : Heap) (L : List Loc) : Prop := v = some (.int mv) ∧ Fr n0 L ∧ h = h0
set_option maxRecDepth 65536 in
set_option maxHeartbeats 40000000 in
theorem rm10 (l : Launch) (Z : State) (a0 : Array Value) (hw : ∀ d ∈ tables_1, d.before a0 Z = true) (ws : List Jvm.Cond) (mt : Addr) (mv : Int32) (h0 : Heap) (n0 : Nat) (Z0 : n0 ≤ h0.size) (Fv : Fld Z h0 mt "com/example/tidings/tidings/store/StoredMessage" "dequeueCount" "I" (.int mv)) :
    MetFree l (⟨"com/example/tidings/tidings/store/StoredMessage", "dequeueCount", "()I"⟩ : MethodName) (head1 (Jvm.Cond.code (⟨"com/example/tidings/tidings/store/StoredMessage", "dequeueCount", "()I"⟩ : MethodName) prog_111_method_12_code 1 (some .int) :: ws) ({ frames := 0, cells := 0, slots := 0, locals := 0 } : Room)) (fun a U => a = #[(.ref mt)] ∧ Z.Warmed39 U.vm ∧ U.heap = h0) (fun _ _ _ _ _ => True) (fun _ U o U' => ∃ v L, o = .returned v ∧ Q10 Z mt mv h0 n0 v U'.heap L ∧ FrameEnd U o U' L ({ frames := 0, cells := 0, slots := 0, locals := 0 } : Room).cells ({ frames := 0, cells := 0, slots := 0, locals := 0 } : Room).slots) := by
  refine MetFree.of_bodySF (plainFor_of_name own_pn_com_example_tidings_tidings_store_StoredMessage) hisR ?_
  intro p e s m args below meth c s₁ Bd hml0 hP hK
  obtain ⟨rfl, hZ, hh⟩ := hP
  have hx := Bd.exec
  have hby := Bd.bytes
  have hml : c.maxLocals = 1 := hml0
  have hlk := Bd.notSynchronized
  have hown : s.vm.findClass "com/example/tidings/tidings/store/StoredMessage" = some m.cls := findClass_of_methodNamed Bd.named
  have hnm := (name_of_methodNamed Bd.named Bd.method).1
  have X0 : Stand p l e ({ frames := 0, cells := 0, slots := 0, locals := 0 } : Room) s m #[(.ref mt)] below meth c s₁ [] 0 0 := Stand.of_body Bd
  have e0 : s₁.heap = h0 := by rw [← hh, Bd.state]; rfl
  have N0 := Fr.nil n0
  refine own_enter (Q := Q10 Z mt mv h0 n0) (Ls := #[.val (.ref mt)]) (by first | (simp [entryFrame, mkF, argsToLocals, Value.category]; done) | rfl) ?_
  refine own_aloadN X0 hx 1 rfl (hb hby own_d10_0) rfl rfl ?_
  obtain ⟨T1, X1, e1, st1⟩ := getF X0 hx hZ hown (host := "") (Or.inl (hw _ (List.mem_of_getElem? (i := 24) rfl))) Via.refl e0 Fv (g := (mkF m 1 #[.val (.ref mt)] [(.ref mt)])) rfl rfl (hb hby own_d10_1)
  refine Goes.go st1 ?_
  show Goes p e below s _ _ _ T1 (mkF m 4 #[.val (.ref mt)] [(.int mv)])
  refine own_retI X1 hx hlk Bd.returns (hb hby own_d10_4) (by decide) (by decide) e1 ?_
  exact ⟨rfl, N0, rfl⟩
theorem own_d11_0 : decode prog_111_method_13_code 0 = .ok (.aload_n 0, 1) := by decide +kernel
theorem own_d11_1 : decode prog_111_method_13_code 1 = .ok (.getfield 29, 3) := by decide +kernel
theorem own_d11_4 : decode prog_111_method_13_code 4 = .ok (.lreturn, 1) := by decide +kernel
def Q11 (Z : State) (mt : Addr) (mv : Int64) (h0 : Heap) (n0 : Nat) (v : Option Value) (h : Heap) (L : List Loc) : Prop := v = some (.long mv) ∧ Fr n0 L ∧ h = h0
set_option maxRecDepth 65536 in
set_option maxHeartbeats 40000000 in
theorem rm11 (l : Launch) (Z : State) (a0 : Array Value) (hw : ∀ d ∈ tables_1, d.before a0 Z = true) (ws : List Jvm.Cond) (mt : Addr) (mv : Int64) (h0 : Heap) (n0 : Nat) (Z0 : n0 ≤ h0.size) (Fv : Fld Z h0 mt "com/example/tidings/tidings/store/StoredMessage" "firstDequeueTime" "J" (.long mv)) :
    MetFree l (⟨"com/example/tidings/tidings/store/StoredMessage", "firstDequeueTime", "()J"⟩ : MethodName) (head1 (Jvm.Cond.code (⟨"com/example/tidings/tidings/store/StoredMessage", "firstDequeueTime", "()J"⟩ : MethodName) prog_111_method_13_code 1 (some .long) :: ws) ({ frames := 0, cells := 0, slots := 0, locals := 0 } : Room)) (fun a U => a = #[(.ref mt)] ∧ Z.Warmed39 U.vm ∧ U.heap = h0) (fun _ _ _ _ _ => True) (fun _ U o U' => ∃ v L, o = .returned v ∧ Q11 Z mt mv h0 n0 v U'.heap L ∧ FrameEnd U o U' L ({ frames := 0, cells := 0, slots := 0, locals := 0 } : Room).cells ({ frames := 0, cells := 0, slots := 0, locals := 0 } : Room).slots) := by
  refine MetFree.of_bodySF (plainFor_of_name own_pn_com_example_tidings_tidings_store_StoredMessage) hisR ?_
  intro p e s m args below meth c s₁ Bd hml0 hP hK
  obtain ⟨rfl, hZ, hh⟩ := hP
  have hx := Bd.exec
  have hby := Bd.bytes
  have hml : c.maxLocals = 1 := hml0
  have hlk := Bd.notSynchronized
  have hown : s.vm.findClass "com/example/tidings/tidings/store/StoredMessage" = some m.cls := findClass_of_methodNamed Bd.named
  have hnm := (name_of_methodNamed Bd.named Bd.method).1
  have X0 : Stand p l e ({ frames := 0, cells := 0, slots := 0, locals := 0 } : Room) s m #[(.ref mt)] below meth c s₁ [] 0 0 := Stand.of_body Bd
  have e0 : s₁.heap = h0 := by rw [← hh, Bd.state]; rfl
  have N0 := Fr.nil n0
  refine own_enter (Q := Q11 Z mt mv h0 n0) (Ls := #[.val (.ref mt)]) (by first | (simp [entryFrame, mkF, argsToLocals, Value.category]; done) | rfl) ?_
  refine own_aloadN X0 hx 1 rfl (hb hby own_d11_0) rfl rfl ?_
  obtain ⟨T1, X1, e1, st1⟩ := getF X0 hx hZ hown (host := "") (Or.inl (hw _ (List.mem_of_getElem? (i := 26) rfl))) Via.refl e0 Fv (g := (mkF m 1 #[.val (.ref mt)] [(.ref mt)])) rfl rfl (hb hby own_d11_1)
  refine Goes.go st1 ?_
  show Goes p e below s _ _ _ T1 (mkF m 4 #[.val (.ref mt)] [(.long mv)])
  refine own_retJ X1 hx hlk Bd.returns (hb hby own_d11_4) (by decide) (by decide) e1 ?_
  exact ⟨rfl, N0, rfl⟩
theorem own_d12_0 : decode prog_111_method_14_code 0 = .ok (.aload_n 0, 1) := by decide +kernel
theorem own_d12_1 : decode prog_111_method_14_code 1 = .ok (.getfield 32, 3) := by decide +kernel
theorem own_d12_4 : decode prog_111_method_14_code 4 = .ok (.ireturn, 1) := by decide +kernel
def Q12 (Z : State) (mt : Addr) (mv : Int32) (h0 : Heap) (n0 : Nat) (v : Option Value) (h : Heap) (L : List Loc) : Prop := v = some (.int mv) ∧ Fr n0 L ∧ h = h0
set_option maxRecDepth 65536 in
set_option maxHeartbeats 40000000 in
theorem rm12 (l : Launch) (Z : State) (a0 : Array Value) (hw : ∀ d ∈ tables_1, d.before a0 Z = true) (ws : List Jvm.Cond) (mt : Addr) (mv : Int32) (h0 : Heap) (n0 : Nat) (Z0 : n0 ≤ h0.size) (Fv : Fld Z h0 mt "com/example/tidings/tidings/store/StoredMessage" "receipts" "I" (.int mv)) :
    MetFree l (⟨"com/example/tidings/tidings/store/StoredMessage", "receipts", "()I"⟩ : MethodName) (head1 (Jvm.Cond.code (⟨"com/example/tidings/tidings/store/StoredMessage", "receipts", "()I"⟩ : MethodName) prog_111_method_14_code 1 (some .int) :: ws) ({ frames := 0, cells := 0, slots := 0, locals := 0 } : Room)) (fun a U => a = #[(.ref mt)] ∧ Z.Warmed39 U.vm ∧ U.heap = h0) (fun _ _ _ _ _ => True) (fun _ U o U' => ∃ v L, o = .returned v ∧ Q12 Z mt mv h0 n0 v U'.heap L ∧ FrameEnd U o U' L ({ frames := 0, cells := 0, slots := 0, locals := 0 } : Room).cells ({ frames := 0, cells := 0, slots := 0, locals := 0 } : Room).slots) := by
  refine MetFree.of_bodySF (plainFor_of_name own_pn_com_example_tidings_tidings_store_StoredMessage) hisR ?_
  intro p e s m args below meth c s₁ Bd hml0 hP hK
  obtain ⟨rfl, hZ, hh⟩ := hP
  have hx := Bd.exec
  have hby := Bd.bytes
  have hml : c.maxLocals = 1 := hml0
  have hlk := Bd.notSynchronized
  have hown : s.vm.findClass "com/example/tidings/tidings/store/StoredMessage" = some m.cls := findClass_of_methodNamed Bd.named
  have hnm := (name_of_methodNamed Bd.named Bd.method).1
  have X0 : Stand p l e ({ frames := 0, cells := 0, slots := 0, locals := 0 } : Room) s m #[(.ref mt)] below meth c s₁ [] 0 0 := Stand.of_body Bd
  have e0 : s₁.heap = h0 := by rw [← hh, Bd.state]; rfl
  have N0 := Fr.nil n0
  refine own_enter (Q := Q12 Z mt mv h0 n0) (Ls := #[.val (.ref mt)]) (by first | (simp [entryFrame, mkF, argsToLocals, Value.category]; done) | rfl) ?_
  refine own_aloadN X0 hx 1 rfl (hb hby own_d12_0) rfl rfl ?_
  obtain ⟨T1, X1, e1, st1⟩ := getF X0 hx hZ hown (host := "") (Or.inl (hw _ (List.mem_of_getElem? (i := 28) rfl))) Via.refl e0 Fv (g := (mkF m 1 #[.val (.ref mt)] [(.ref mt)])) rfl rfl (hb hby own_d12_1)
  refine Goes.go st1 ?_
  show Goes p e below s _ _ _ T1 (mkF m 4 #[.val (.ref mt)] [(.int mv)])
  refine own_retI X1 hx hlk Bd.returns (hb hby own_d12_4) (by decide) (by decide) e1 ?_
  exact ⟨rfl, N0, rfl⟩
theorem own_d13_0 : decode prog_111_method_15_code 0 = .ok (.aload_n 0, 1) := by decide +kernel
theorem own_d13_1 : decode prog_111_method_15_code 1 = .ok (.getfield 35, 3) := by decide +kernel
theorem own_d13_4 : decode prog_111_method_15_code 4 = .ok (.lreturn, 1) := by decide +kernel
def Q13 (Z : State) (mt : Addr) (mv : Int64) (h0 : Heap) (n0 : Nat) (v : Option Value) (h : Heap) (L : List Loc) : Prop := v = some (.long mv) ∧ Fr n0 L ∧ h = h0
set_option maxRecDepth 65536 in
set_option maxHeartbeats 40000000 in
theorem rm13 (l : Launch) (Z : State) (a0 : Array Value) (hw : ∀ d ∈ tables_1, d.before a0 Z = true) (ws : List Jvm.Cond) (mt : Addr) (mv : Int64) (h0 : Heap) (n0 : Nat) (Z0 : n0 ≤ h0.size) (Fv : Fld Z h0 mt "com/example/tidings/tidings/store/StoredMessage" "bodyOffset" "J" (.long mv)) :
    MetFree l (⟨"com/example/tidings/tidings/store/StoredMessage", "bodyOffset", "()J"⟩ : MethodName) (head1 (Jvm.Cond.code (⟨"com/example/tidings/tidings/store/StoredMessage", "bodyOffset", "()J"⟩ : MethodName) prog_111_method_15_code 1 (some .long) :: ws) ({ frames := 0, cells := 0, slots := 0, locals := 0 } : Room)) (fun a U => a = #[(.ref mt)] ∧ Z.Warmed39 U.vm ∧ U.heap = h0) (fun _ _ _ _ _ => True) (fun _ U o U' => ∃ v L, o = .returned v ∧ Q13 Z mt mv h0 n0 v U'.heap L ∧ FrameEnd U o U' L ({ frames := 0, cells := 0, slots := 0, locals := 0 } : Room).cells ({ frames := 0, cells := 0, slots := 0, locals := 0 } : Room).slots) := by
  refine MetFree.of_bodySF (plainFor_of_name own_pn_com_example_tidings_tidings_store_StoredMessage) hisR ?_
  intro p e s m args below meth c s₁ Bd hml0 hP hK
  obtain ⟨rfl, hZ, hh⟩ := hP
  have hx := Bd.exec
  have hby := Bd.bytes
  have hml : c.maxLocals = 1 := hml0
  have hlk := Bd.notSynchronized
  have hown : s.vm.findClass "com/example/tidings/tidings/store/StoredMessage" = some m.cls := findClass_of_methodNamed Bd.named
  have hnm := (name_of_methodNamed Bd.named Bd.method).1
  have X0 : Stand p l e ({ frames := 0, cells := 0, slots := 0, locals := 0 } : Room) s m #[(.ref mt)] below meth c s₁ [] 0 0 := Stand.of_body Bd
  have e0 : s₁.heap = h0 := by rw [← hh, Bd.state]; rfl
  have N0 := Fr.nil n0
  refine own_enter (Q := Q13 Z mt mv h0 n0) (Ls := #[.val (.ref mt)]) (by first | (simp [entryFrame, mkF, argsToLocals, Value.category]; done) | rfl) ?_
  refine own_aloadN X0 hx 1 rfl (hb hby own_d13_0) rfl rfl ?_
  obtain ⟨T1, X1, e1, st1⟩ := getF X0 hx hZ hown (host := "") (Or.inl (hw _ (List.mem_of_getElem? (i := 30) rfl))) Via.refl e0 Fv (g := (mkF m 1 #[.val (.ref mt)] [(.ref mt)])) rfl rfl (hb hby own_d13_1)
  refine Goes.go st1 ?_
  show Goes p e below s _ _ _ T1 (mkF m 4 #[.val (.ref mt)] [(.long mv)])
  refine own_retJ X1 hx hlk Bd.returns (hb hby own_d13_4) (by decide) (by decide) e1 ?_
  exact ⟨rfl, N0, rfl⟩
theorem own_d14_0 : decode prog_111_method_16_code 0 = .ok (.aload_n 0, 1) := by decide +kernel
theorem own_d14_1 : decode prog_111_method_16_code 1 = .ok (.getfield 38, 3) := by decide +kernel
theorem own_d14_4 : decode prog_111_method_16_code 4 = .ok (.ireturn, 1) := by decide +kernel
def Q14 (Z : State) (mt : Addr) (mv : Int32) (h0 : Heap) (n0 : Nat) (v : Option Value) (h : Heap) (L : List Loc) : Prop := v = some (.int mv) ∧ Fr n0 L ∧ h = h0
set_option maxRecDepth 65536 in
set_option maxHeartbeats 40000000 in
theorem rm14 (l : Launch) (Z : State) (a0 : Array Value) (hw : ∀ d ∈ tables_1, d.before a0 Z = true) (ws : List Jvm.Cond) (mt : Addr) (mv : Int32) (h0 : Heap) (n0 : Nat) (Z0 : n0 ≤ h0.size) (Fv : Fld Z h0 mt "com/example/tidings/tidings/store/StoredMessage" "bodyLength" "I" (.int mv)) :
    MetFree l (⟨"com/example/tidings/tidings/store/StoredMessage", "bodyLength", "()I"⟩ : MethodName) (head1 (Jvm.Cond.code (⟨"com/example/tidings/tidings/store/StoredMessage", "bodyLength", "()I"⟩ : MethodName) prog_111_method_16_code 1 (some .int) :: ws) ({ frames := 0, cells := 0, slots := 0, locals := 0 } : Room)) (fun a U => a = #[(.ref mt)] ∧ Z.Warmed39 U.vm ∧ U.heap = h0) (fun _ _ _ _ _ => True) (fun _ U o U' => ∃ v L, o = .returned v ∧ Q14 Z mt mv h0 n0 v U'.heap L ∧ FrameEnd U o U' L ({ frames := 0, cells := 0, slots := 0, locals := 0 } : Room).cells ({ frames := 0, cells := 0, slots := 0, locals := 0 } : Room).slots) := by
  refine MetFree.of_bodySF (plainFor_of_name own_pn_com_example_tidings_tidings_store_StoredMessage) hisR ?_
  intro p e s m args below meth c s₁ Bd hml0 hP hK
  obtain ⟨rfl, hZ, hh⟩ := hP
  have hx := Bd.exec
  have hby := Bd.bytes
  have hml : c.maxLocals = 1 := hml0
  have hlk := Bd.notSynchronized
  have hown : s.vm.findClass "com/example/tidings/tidings/store/StoredMessage" = some m.cls := findClass_of_methodNamed Bd.named
  have hnm := (name_of_methodNamed Bd.named Bd.method).1
  have X0 : Stand p l e ({ frames := 0, cells := 0, slots := 0, locals := 0 } : Room) s m #[(.ref mt)] below meth c s₁ [] 0 0 := Stand.of_body Bd
  have e0 : s₁.heap = h0 := by rw [← hh, Bd.state]; rfl
  have N0 := Fr.nil n0
  refine own_enter (Q := Q14 Z mt mv h0 n0) (Ls := #[.val (.ref mt)]) (by first | (simp [entryFrame, mkF, argsToLocals, Value.category]; done) | rfl) ?_
  refine own_aloadN X0 hx 1 rfl (hb hby own_d14_0) rfl rfl ?_
  obtain ⟨T1, X1, e1, st1⟩ := getF X0 hx hZ hown (host := "") (Or.inl (hw _ (List.mem_of_getElem? (i := 32) rfl))) Via.refl e0 Fv (g := (mkF m 1 #[.val (.ref mt)] [(.ref mt)])) rfl rfl (hb hby own_d14_1)
  refine Goes.go st1 ?_
  show Goes p e below s _ _ _ T1 (mkF m 4 #[.val (.ref mt)] [(.int mv)])
  refine own_retI X1 hx hlk Bd.returns (hb hby own_d14_4) (by decide) (by decide) e1 ?_
  exact ⟨rfl, N0, rfl⟩
theorem own_pd2 : parseMethodDescriptor "(J)Lcom/example/tidings/tidings/store/StoredMessage;" = some ⟨[.long], some (.object "com/example/tidings/tidings/store/StoredMessage")⟩ := by decide +kernel
theorem own_pd3 : parseMethodDescriptor "()J" = some ⟨[], some .long⟩ := by decide +kernel
theorem own_pd4 : parseMethodDescriptor "()I" = some ⟨[], some .int⟩ := by decide +kernel
theorem own_pn_com_example_tidings_tidings_store_StoredMessageMovedToPinLaw : plainName "com/example/tidings/tidings/store/StoredMessageMovedToPinLaw" = true := by first | (simp [plainName, overriddenIn]; done) | decide +kernel
def Q0 (Z : State) (x0 : Int64) (x1 : Int64) (x2 : Int64) (x3 : Int64) (x4 : Int64) (x5 : Int64) (h0 : Heap) (n0 : Nat) (v : Option Value) (h : Heap) (L : List Loc) : Prop := v = some (.int 1) ∧ Fr n0 L
set_option maxRecDepth 65536 in
set_option maxHeartbeats 40000000 in
theorem rm0 (l : Launch) (Z : State) (a0 : Array Value) (hw : ∀ d ∈ tables_1, d.before a0 Z = true) (ws : List Jvm.Cond) (x0 : Int64) (x1 : Int64) (x2 : Int64) (x3 : Int64) (x4 : Int64) (x5 : Int64) (h0 : Heap) (n0 : Nat) (Z0 : n0 ≤ h0.size)  :
    MetFree l x (head1 (Jvm.Cond.code x code maxLocals ret :: ws) room_1) (fun a U => a = #[(.long x0), (.long x1), (.long x2), (.long x3), (.long x4), (.long x5)] ∧ Z.Warmed39 U.vm ∧ U.heap = h0) (fun _ _ _ _ _ => True) (fun _ U o U' => ∃ v L, o = .returned v ∧ Q0 Z x0 x1 x2 x3 x4 x5 h0 n0 v U'.heap L ∧ FrameEnd U o U' L 2 20) := by
  refine MetFree.of_bodySF (plainFor_of_name own_pn_com_example_tidings_tidings_store_StoredMessageMovedToPinLaw) hisR ?_
  intro p e s m args below meth c s₁ Bd hml0 hP hK
  obtain ⟨rfl, hZ, hh⟩ := hP
  have hx := Bd.exec
  have hby := Bd.bytes
  have hml : c.maxLocals = 32 := hml0
  have hlk := Bd.notSynchronized
  have hown : s.vm.findClass "com/example/tidings/tidings/store/StoredMessageMovedToPinLaw" = some m.cls := findClass_of_methodNamed Bd.named
  have hnm := (name_of_methodNamed Bd.named Bd.method).1
  have X0 : Stand p l e room_1 s m #[(.long x0), (.long x1), (.long x2), (.long x3), (.long x4), (.long x5)] below meth c s₁ [] 0 0 := Stand.of_body Bd
  have e0 : s₁.heap = h0 := by rw [← hh, Bd.state]; rfl
  have N0 := Fr.nil n0
  have K0 : Keep h0 h0 [] := Keep.refl _ _
  refine own_enter (Q := Q0 Z x0 x1 x2 x3 x4 x5 h0 n0) (Ls := #[.val (.long x0), .second, .val (.long x1), .second, .val (.long x2), .second, .val (.long x3), .second, .val (.long x4), .second, .val (.long x5), .second, .unset, .unset, .unset, .unset, .unset, .unset, .unset, .unset, .unset, .unset, .unset, .unset, .unset, .unset, .unset, .unset, .unset, .unset, .unset, .unset]) (by first | (simp [entryFrame, mkF, argsToLocals, Value.category, maxLocals]; done) | rfl) ?_
  refine own_lloadN X0 hx 1 rfl (hb hby at_0) rfl ?_
  refine own_lstore X0 hx 3 rfl #[.val (.long x0), .second, .val (.long x1), .second, .val (.long x2), .second, .val (.long x3), .second, .val (.long x4), .second, .val (.long x5), .second, .val (.long x0), .second, .unset, .unset, .unset, .unset, .unset, .unset, .unset, .unset, .unset, .unset, .unset, .unset, .unset, .unset, .unset, .unset, .unset, .unset] (hb hby at_1) rfl ?_
  refine own_lloadN X0 hx 4 rfl (hb hby at_3) rfl ?_
  refine own_lstore X0 hx 6 rfl #[.val (.long x0), .second, .val (.long x1), .second, .val (.long x2), .second, .val (.long x3), .second, .val (.long x4), .second, .val (.long x5), .second, .val (.long x0), .second, .val (.long x1), .second, .unset, .unset, .unset, .unset, .unset, .unset, .unset, .unset, .unset, .unset, .unset, .unset, .unset, .unset, .unset, .unset] (hb hby at_4) rfl ?_
  refine own_lload X0 hx 8 rfl (hb hby at_6) rfl ?_
  refine own_l2i X0 hx 9 rfl (hb hby at_8) rfl ?_
  refine own_istore X0 hx 11 rfl #[.val (.long x0), .second, .val (.long x1), .second, .val (.long x2), .second, .val (.long x3), .second, .val (.long x4), .second, .val (.long x5), .second, .val (.long x0), .second, .val (.long x1), .second, .val (.int (x2.toInt32)), .unset, .unset, .unset, .unset, .unset, .unset, .unset, .unset, .unset, .unset, .unset, .unset, .unset, .unset, .unset] (hb hby at_9) rfl ?_
  refine own_lload X0 hx 13 rfl (hb hby at_11) rfl ?_
  refine own_lstore X0 hx 15 rfl #[.val (.long x0), .second, .val (.long x1), .second, .val (.long x2), .second, .val (.long x3), .second, .val (.long x4), .second, .val (.long x5), .second, .val (.long x0), .second, .val (.long x1), .second, .val (.int (x2.toInt32)), .val (.long x3), .second, .unset, .unset, .unset, .unset, .unset, .unset, .unset, .unset, .unset, .unset, .unset, .unset, .unset] (hb hby at_13) rfl ?_
  refine own_lload X0 hx 17 rfl (hb hby at_15) rfl ?_
  refine own_lstore X0 hx 19 rfl #[.val (.long x0), .second, .val (.long x1), .second, .val (.long x2), .second, .val (.long x3), .second, .val (.long x4), .second, .val (.long x5), .second, .val (.long x0), .second, .val (.long x1), .second, .val (.int (x2.toInt32)), .val (.long x3), .second, .val (.long x4), .second, .unset, .unset, .unset, .unset, .unset, .unset, .unset, .unset, .unset, .unset, .unset] (hb hby at_17) rfl ?_
  refine own_lload X0 hx 21 rfl (hb hby at_19) rfl ?_
  refine own_bipush X0 hx 23 rfl (32 : Int32) (hb hby at_21) (by decide) ?_
  refine own_lushr X0 hx 24 rfl (hb hby at_23) rfl ?_
  refine own_l2i X0 hx 25 rfl (hb hby at_24) rfl ?_
  refine own_istore X0 hx 27 rfl #[.val (.long x0), .second, .val (.long x1), .second, .val (.long x2), .second, .val (.long x3), .second, .val (.long x4), .second, .val (.long x5), .second, .val (.long x0), .second, .val (.long x1), .second, .val (.int (x2.toInt32)), .val (.long x3), .second, .val (.long x4), .second, .val (.int (((x2.toUInt64 >>> ((32 : Int32) &&& 0x3f).toInt64.toUInt64).toInt64).toInt32)), .unset, .unset, .unset, .unset, .unset, .unset, .unset, .unset, .unset, .unset] (hb hby at_25) rfl ?_
  refine own_lloadN X0 hx 28 rfl (hb hby at_27) rfl ?_
  refine own_lloadN X0 hx 29 rfl (hb hby at_28) rfl ?_
  refine own_lxor X0 hx 30 rfl (hb hby at_29) rfl ?_
  refine own_lstore X0 hx 32 rfl #[.val (.long x0), .second, .val (.long x1), .second, .val (.long x2), .second, .val (.long x3), .second, .val (.long x4), .second, .val (.long x5), .second, .val (.long x0), .second, .val (.long x1), .second, .val (.int (x2.toInt32)), .val (.long x3), .second, .val (.long x4), .second, .val (.int (((x2.toUInt64 >>> ((32 : Int32) &&& 0x3f).toInt64.toUInt64).toInt64).toInt32)), .val (.long (x0 ^^^ x1)), .second, .unset, .unset, .unset, .unset, .unset, .unset, .unset, .unset] (hb hby at_30) rfl ?_
  refine own_lload X0 hx 34 rfl (hb hby at_32) rfl ?_
  refine own_bipush X0 hx 36 rfl (32 : Int32) (hb hby at_34) (by decide) ?_
  refine own_lushr X0 hx 37 rfl (hb hby at_36) rfl ?_
  refine own_l2i X0 hx 38 rfl (hb hby at_37) rfl ?_
  refine own_istore X0 hx 40 rfl #[.val (.long x0), .second, .val (.long x1), .second, .val (.long x2), .second, .val (.long x3), .second, .val (.long x4), .second, .val (.long x5), .second, .val (.long x0), .second, .val (.long x1), .second, .val (.int (x2.toInt32)), .val (.long x3), .second, .val (.long x4), .second, .val (.int (((x2.toUInt64 >>> ((32 : Int32) &&& 0x3f).toInt64.toUInt64).toInt64).toInt32)), .val (.long (x0 ^^^ x1)), .second, .val (.int (((x4.toUInt64 >>> ((32 : Int32) &&& 0x3f).toInt64.toUInt64).toInt64).toInt32)), .unset, .unset, .unset, .unset, .unset, .unset, .unset] (hb hby at_38) rfl ?_
  refine own_lload X0 hx 42 rfl (hb hby at_40) rfl ?_
  refine own_lloadN X0 hx 43 rfl (hb hby at_42) rfl ?_
  refine own_ladd X0 hx 44 rfl (hb hby at_43) rfl ?_
  refine own_lstore X0 hx 46 rfl #[.val (.long x0), .second, .val (.long x1), .second, .val (.long x2), .second, .val (.long x3), .second, .val (.long x4), .second, .val (.long x5), .second, .val (.long x0), .second, .val (.long x1), .second, .val (.int (x2.toInt32)), .val (.long x3), .second, .val (.long x4), .second, .val (.int (((x2.toUInt64 >>> ((32 : Int32) &&& 0x3f).toInt64.toUInt64).toInt64).toInt32)), .val (.long (x0 ^^^ x1)), .second, .val (.int (((x4.toUInt64 >>> ((32 : Int32) &&& 0x3f).toInt64.toUInt64).toInt64).toInt32)), .val (.long (x3 + x1)), .second, .unset, .unset, .unset, .unset, .unset] (hb hby at_44) rfl ?_
  refine own_lloadN X0 hx 47 rfl (hb hby at_46) rfl ?_
  refine own_bipush X0 hx 49 rfl (32 : Int32) (hb hby at_47) (by decide) ?_
  refine own_lushr X0 hx 50 rfl (hb hby at_49) rfl ?_
  refine own_l2i X0 hx 51 rfl (hb hby at_50) rfl ?_
  refine own_istore X0 hx 53 rfl #[.val (.long x0), .second, .val (.long x1), .second, .val (.long x2), .second, .val (.long x3), .second, .val (.long x4), .second, .val (.long x5), .second, .val (.long x0), .second, .val (.long x1), .second, .val (.int (x2.toInt32)), .val (.long x3), .second, .val (.long x4), .second, .val (.int (((x2.toUInt64 >>> ((32 : Int32) &&& 0x3f).toInt64.toUInt64).toInt64).toInt32)), .val (.long (x0 ^^^ x1)), .second, .val (.int (((x4.toUInt64 >>> ((32 : Int32) &&& 0x3f).toInt64.toUInt64).toInt64).toInt32)), .val (.long (x3 + x1)), .second, .val (.int (((x0.toUInt64 >>> ((32 : Int32) &&& 0x3f).toInt64.toUInt64).toInt64).toInt32)), .unset, .unset, .unset, .unset] (hb hby at_51) rfl ?_
  obtain ⟨T1, h1, X1, e1, E1, A1, D1, -, st1⟩ := newO X0 hx hZ hown (hw _ (List.mem_of_getElem? (i := 0) rfl)) (hw _ (List.mem_of_getElem? (i := 1) rfl)) (hw _ (List.mem_of_getElem? (i := 2) rfl)) e0 (g := (mkF m 53 #[.val (.long x0), .second, .val (.long x1), .second, .val (.long x2), .second, .val (.long x3), .second, .val (.long x4), .second, .val (.long x5), .second, .val (.long x0), .second, .val (.long x1), .second, .val (.int (x2.toInt32)), .val (.long x3), .second, .val (.long x4), .second, .val (.int (((x2.toUInt64 >>> ((32 : Int32) &&& 0x3f).toInt64.toUInt64).toInt64).toInt32)), .val (.long (x0 ^^^ x1)), .second, .val (.int (((x4.toUInt64 >>> ((32 : Int32) &&& 0x3f).toInt64.toUInt64).toInt64).toInt32)), .val (.long (x3 + x1)), .second, .val (.int (((x0.toUInt64 >>> ((32 : Int32) &&& 0x3f).toInt64.toUInt64).toInt64).toInt32)), .unset, .unset, .unset, .unset] [])) rfl (hb hby at_53) (by decide) (by decide)
  obtain ⟨b1, g1⟩ : ∃ z, z = h0.size := ⟨_, rfl⟩
  rw [← g1] at A1 D1 st1
  have G1 : n0 ≤ b1 := Nat.le_trans Z0 (Nat.le_of_eq g1.symm)
  have H1 : h0.size ≤ b1 := Nat.le_trans K0.1 (Nat.le_of_eq g1.symm)
  have K1 := K0.ext E1
  have Z1 := Nat.le_trans Z0 E1.1
  have f2 : Fld Z h1 b1 "com/example/tidings/tidings/store/StoredMessage" "sequence" "J" (.long (0 : Int64)) := D1 (Or.inr (hw _ (List.mem_of_getElem? (i := 15) rfl))) (ty := .long) (by decide)
  have f3 : Fld Z h1 b1 "com/example/tidings/tidings/store/StoredMessage" "enqueueTime" "J" (.long (0 : Int64)) := D1 (Or.inr (hw _ (List.mem_of_getElem? (i := 17) rfl))) (ty := .long) (by decide)
  have f4 : Fld Z h1 b1 "com/example/tidings/tidings/store/StoredMessage" "priority" "I" (.int (0 : Int32)) := D1 (Or.inr (hw _ (List.mem_of_getElem? (i := 19) rfl))) (ty := .int) (by decide)
  have f5 : Fld Z h1 b1 "com/example/tidings/tidings/store/StoredMessage" "expiryTime" "J" (.long (0 : Int64)) := D1 (Or.inr (hw _ (List.mem_of_getElem? (i := 21) rfl))) (ty := .long) (by decide)
  have f6 : Fld Z h1 b1 "com/example/tidings/tidings/store/StoredMessage" "nextVisibleTime" "J" (.long (0 : Int64)) := D1 (Or.inr (hw _ (List.mem_of_getElem? (i := 23) rfl))) (ty := .long) (by decide)
  have f7 : Fld Z h1 b1 "com/example/tidings/tidings/store/StoredMessage" "dequeueCount" "I" (.int (0 : Int32)) := D1 (Or.inr (hw _ (List.mem_of_getElem? (i := 25) rfl))) (ty := .int) (by decide)
  have f8 : Fld Z h1 b1 "com/example/tidings/tidings/store/StoredMessage" "firstDequeueTime" "J" (.long (0 : Int64)) := D1 (Or.inr (hw _ (List.mem_of_getElem? (i := 27) rfl))) (ty := .long) (by decide)
  have f9 : Fld Z h1 b1 "com/example/tidings/tidings/store/StoredMessage" "receipts" "I" (.int (0 : Int32)) := D1 (Or.inr (hw _ (List.mem_of_getElem? (i := 29) rfl))) (ty := .int) (by decide)
  have f10 : Fld Z h1 b1 "com/example/tidings/tidings/store/StoredMessage" "bodyOffset" "J" (.long (0 : Int64)) := D1 (Or.inr (hw _ (List.mem_of_getElem? (i := 31) rfl))) (ty := .long) (by decide)
  have f11 : Fld Z h1 b1 "com/example/tidings/tidings/store/StoredMessage" "bodyLength" "I" (.int (0 : Int32)) := D1 (Or.inr (hw _ (List.mem_of_getElem? (i := 33) rfl))) (ty := .int) (by decide)
  refine Goes.go st1 ?_
  show Goes p e below s _ _ _ T1 (mkF m 56 #[.val (.long x0), .second, .val (.long x1), .second, .val (.long x2), .second, .val (.long x3), .second, .val (.long x4), .second, .val (.long x5), .second, .val (.long x0), .second, .val (.long x1), .second, .val (.int (x2.toInt32)), .val (.long x3), .second, .val (.long x4), .second, .val (.int (((x2.toUInt64 >>> ((32 : Int32) &&& 0x3f).toInt64.toUInt64).toInt64).toInt32)), .val (.long (x0 ^^^ x1)), .second, .val (.int (((x4.toUInt64 >>> ((32 : Int32) &&& 0x3f).toInt64.toUInt64).toInt64).toInt32)), .val (.long (x3 + x1)), .second, .val (.int (((x0.toUInt64 >>> ((32 : Int32) &&& 0x3f).toInt64.toUInt64).toInt64).toInt32)), .unset, .unset, .unset, .unset] [(.ref b1)])
  refine own_dup X1 hx 57 rfl (hb hby at_56) rfl ?_
  refine own_lload X1 hx 59 rfl (hb hby at_57) rfl ?_
  refine own_lload X1 hx 61 rfl (hb hby at_59) rfl ?_
  refine own_iload X1 hx 63 rfl (hb hby at_61) rfl ?_
  refine own_lload X1 hx 65 rfl (hb hby at_63) rfl ?_
  refine own_lload X1 hx 67 rfl (hb hby at_65) rfl ?_
  refine own_iload X1 hx 69 rfl (hb hby at_67) rfl ?_
  refine own_lload X1 hx 71 rfl (hb hby at_69) rfl ?_
  refine own_iload X1 hx 73 rfl (hb hby at_71) rfl ?_
  refine own_lload X1 hx 75 rfl (hb hby at_73) rfl ?_
  refine own_iload X1 hx 77 rfl (hb hby at_75) rfl ?_
  obtain ⟨_, _, ⟨T12, L12, k12, n12⟩, -, X12, ⟨Lc12, hQ12, l12, y12, z12⟩, st12⟩ := X1.specialBack hx (y := (⟨"com/example/tidings/tidings/store/StoredMessage", "<init>", "(JJIJJIJIJI)V"⟩ : MethodName)) rfl hown (mvT hZ (hw _ (List.mem_of_getElem? (i := 3) rfl))) (mvT hZ (hw _ (List.mem_of_getElem? (i := 4) rfl))) (mvT hZ (hw _ (List.mem_of_getElem? (i := 5) rfl))) (by decide) (backOf (W := 1) (rm1 l Z a0 hw [] b1 x0 x1 (x2.toInt32) x3 x4 (((x2.toUInt64 >>> ((32 : Int32) &&& 0x3f).toInt64.toUInt64).toInt64).toInt32) (x0 ^^^ x1) (((x4.toUInt64 >>> ((32 : Int32) &&& 0x3f).toInt64.toUInt64).toInt64).toInt32) (x3 + x1) (((x0.toUInt64 >>> ((32 : Int32) &&& 0x3f).toInt64.toUInt64).toInt64).toInt32) h1 n0 Z1 A1 G1 f2 f3 f4 f5 f6 f7 f8 f9 f10 f11) hZ (hw _ (List.mem_of_getElem? (i := 5) rfl)) (hw _ (List.mem_of_getElem? (i := 2) rfl)) (by decide) (by decide)) (g := (mkF m 77 #[.val (.long x0), .second, .val (.long x1), .second, .val (.long x2), .second, .val (.long x3), .second, .val (.long x4), .second, .val (.long x5), .second, .val (.long x0), .second, .val (.long x1), .second, .val (.int (x2.toInt32)), .val (.long x3), .second, .val (.long x4), .second, .val (.int (((x2.toUInt64 >>> ((32 : Int32) &&& 0x3f).toInt64.toUInt64).toInt64).toInt32)), .val (.long (x0 ^^^ x1)), .second, .val (.int (((x4.toUInt64 >>> ((32 : Int32) &&& 0x3f).toInt64.toUInt64).toInt64).toInt32)), .val (.long (x3 + x1)), .second, .val (.int (((x0.toUInt64 >>> ((32 : Int32) &&& 0x3f).toInt64.toUInt64).toInt64).toInt32)), .unset, .unset, .unset, .unset] [(.int (((x0.toUInt64 >>> ((32 : Int32) &&& 0x3f).toInt64.toUInt64).toInt64).toInt32)), (.long (x3 + x1)), (.int (((x4.toUInt64 >>> ((32 : Int32) &&& 0x3f).toInt64.toUInt64).toInt64).toInt32)), (.long (x0 ^^^ x1)), (.int (((x2.toUInt64 >>> ((32 : Int32) &&& 0x3f).toInt64.toUInt64).toInt64).toInt32)), (.long x4), (.long x3), (.int (x2.toInt32)), (.long x1), (.long x0), (.ref b1), (.ref b1)])) rfl (by rw [hml]; rfl) (Steps.refl _) (a := b1) (argsL := [(.long x0), (.long x1), (.int (x2.toInt32)), (.long x3), (.long x4), (.int (((x2.toUInt64 >>> ((32 : Int32) &&& 0x3f).toInt64.toUInt64).toInt64).toInt32)), (.long (x0 ^^^ x1)), (.int (((x4.toUInt64 >>> ((32 : Int32) &&& 0x3f).toInt64.toUInt64).toInt64).toInt32)), (.long (x3 + x1)), (.int (((x0.toUInt64 >>> ((32 : Int32) &&& 0x3f).toInt64.toUInt64).toInt64).toInt32))]) (rest := [(.ref b1)]) (lenOf own_pd1 rfl) rfl (by show 2 * 0 + _ ≤ _; exact Nat.le_of_eq rfl) (hb hby at_77) (fun _ _ => ⟨rfl, e1, (by decide : 1 + 0 ≤ _), (by decide : 10 + 0 ≤ _)⟩)
  dsimp only [Pt.U, Pt.locs, Pt.cells, Pt.slots] at X12 l12 y12 z12 st12 hQ12
  subst l12 y12 z12
  obtain ⟨rfl, N12q, K12q, f12_0, f12_1, f12_2, f12_3, f12_4, f12_5, f12_6, f12_7, f12_8, f12_9⟩ := hQ12
  have N12 := Fr.app N0 N12q
  have f13 := A1.keep K12q
  have K12 := K1.trans K12q (allS (Or.inr H1) all0)
  have Z12 := Nat.le_trans Z1 K12q.1
  refine Goes.tr st12 ?_
  show Goes p e below s _ _ _ T12 (mkF m 80 #[.val (.long x0), .second, .val (.long x1), .second, .val (.long x2), .second, .val (.long x3), .second, .val (.long x4), .second, .val (.long x5), .second, .val (.long x0), .second, .val (.long x1), .second, .val (.int (x2.toInt32)), .val (.long x3), .second, .val (.long x4), .second, .val (.int (((x2.toUInt64 >>> ((32 : Int32) &&& 0x3f).toInt64.toUInt64).toInt64).toInt32)), .val (.long (x0 ^^^ x1)), .second, .val (.int (((x4.toUInt64 >>> ((32 : Int32) &&& 0x3f).toInt64.toUInt64).toInt64).toInt32)), .val (.long (x3 + x1)), .second, .val (.int (((x0.toUInt64 >>> ((32 : Int32) &&& 0x3f).toInt64.toUInt64).toInt64).toInt32)), .unset, .unset, .unset, .unset] [(.ref b1)])
  refine own_astore X12 hx 82 rfl #[.val (.long x0), .second, .val (.long x1), .second, .val (.long x2), .second, .val (.long x3), .second, .val (.long x4), .second, .val (.long x5), .second, .val (.long x0), .second, .val (.long x1), .second, .val (.int (x2.toInt32)), .val (.long x3), .second, .val (.long x4), .second, .val (.int (((x2.toUInt64 >>> ((32 : Int32) &&& 0x3f).toInt64.toUInt64).toInt64).toInt32)), .val (.long (x0 ^^^ x1)), .second, .val (.int (((x4.toUInt64 >>> ((32 : Int32) &&& 0x3f).toInt64.toUInt64).toInt64).toInt32)), .val (.long (x3 + x1)), .second, .val (.int (((x0.toUInt64 >>> ((32 : Int32) &&& 0x3f).toInt64.toUInt64).toInt64).toInt32)), .val (.ref b1), .unset, .unset, .unset] (hb hby at_80) rfl rfl ?_
  refine own_aload X12 hx 84 rfl (hb hby at_82) rfl rfl ?_
  refine own_lload X12 hx 86 rfl (hb hby at_84) rfl ?_
  obtain ⟨cq14, kq14, q14a, q14b, q14c⟩ := isOf hZ rfl f13
  obtain ⟨_, _, ⟨T14, L14, k14, n14⟩, -, X14, ⟨Lc14, hQ14, l14, y14, z14⟩, st14⟩ := X12.virtualBack hx (y := (⟨"com/example/tidings/tidings/store/StoredMessage", "movedTo", "(J)Lcom/example/tidings/tidings/store/StoredMessage;"⟩ : MethodName)) (z := (⟨"com/example/tidings/tidings/store/StoredMessage", "movedTo", "(J)Lcom/example/tidings/tidings/store/StoredMessage;"⟩ : MethodName)) hown (mvT hZ (hw _ (List.mem_of_getElem? (i := 34) rfl))) (mvT hZ (hw _ (List.mem_of_getElem? (i := 35) rfl))) (notFace_of_selects (args := #[]) (mvT hZ (hw _ (List.mem_of_getElem? (i := 37) rfl)))) (mvT hZ (hw _ (List.mem_of_getElem? (i := 37) rfl))) (mvT hZ (hw _ (List.mem_of_getElem? (i := 36) rfl))) (by decide) (backOf (W := 0) (rm4 l Z a0 hw [] b1 x5 x0 x1 (x2.toInt32) x3 x4 (((x2.toUInt64 >>> ((32 : Int32) &&& 0x3f).toInt64.toUInt64).toInt64).toInt32) (x0 ^^^ x1) (((x4.toUInt64 >>> ((32 : Int32) &&& 0x3f).toInt64.toUInt64).toInt64).toInt32) (x3 + x1) (((x0.toUInt64 >>> ((32 : Int32) &&& 0x3f).toInt64.toUInt64).toInt64).toInt32) T12.heap n0 Z12 f12_0 f12_1 f12_2 f12_3 f12_4 f12_5 f12_6 f12_7 f12_8 f12_9) hZ (hw _ (List.mem_of_getElem? (i := 38) rfl)) (hw _ (List.mem_of_getElem? (i := 2) rfl)) (by decide) (by decide)) q14a q14c (g := (mkF m 86 #[.val (.long x0), .second, .val (.long x1), .second, .val (.long x2), .second, .val (.long x3), .second, .val (.long x4), .second, .val (.long x5), .second, .val (.long x0), .second, .val (.long x1), .second, .val (.int (x2.toInt32)), .val (.long x3), .second, .val (.long x4), .second, .val (.int (((x2.toUInt64 >>> ((32 : Int32) &&& 0x3f).toInt64.toUInt64).toInt64).toInt32)), .val (.long (x0 ^^^ x1)), .second, .val (.int (((x4.toUInt64 >>> ((32 : Int32) &&& 0x3f).toInt64.toUInt64).toInt64).toInt32)), .val (.long (x3 + x1)), .second, .val (.int (((x0.toUInt64 >>> ((32 : Int32) &&& 0x3f).toInt64.toUInt64).toInt64).toInt32)), .val (.ref b1), .unset, .unset, .unset] [(.long x5), (.ref b1)])) rfl (by rw [hml]; rfl) (Steps.refl _) (argsL := [(.long x5)]) (rest := []) (lenOf own_pd2 rfl) rfl (by show 2 * 0 + _ ≤ _; exact Nat.le_of_eq rfl) (hb hby at_86) (fun _ _ => ⟨rfl, rfl, (by decide : 1 + 1 ≤ _), (by decide : 10 + 10 ≤ _)⟩)
  dsimp only [Pt.U, Pt.locs, Pt.cells, Pt.slots] at X14 l14 y14 z14 st14 hQ14
  subst l14 y14 z14
  obtain ⟨mb_14, rfl, N14q, K14q, f14_0, f14_1, f14_2, f14_3, f14_4, f14_5, f14_6, f14_7, f14_8, f14_9, f14_10, f14_11⟩ := hQ14
  have N14 := Fr.app N12 N14q
  have ne15 : b1 ≠ mb_14 := Nat.ne_of_lt (Nat.lt_of_lt_of_le f13.lt f14_0)
  have GG16 : n0 ≤ mb_14 := Nat.le_trans Z12 f14_0
  have HG16 : h0.size ≤ mb_14 := Nat.le_trans K12.1 f14_0
  have f17 := f13.keep K14q
  have f18 := f12_0.keep K14q nin0
  have f19 := f12_1.keep K14q nin0
  have f20 := f12_2.keep K14q nin0
  have f21 := f12_3.keep K14q nin0
  have f22 := f12_4.keep K14q nin0
  have f23 := f12_5.keep K14q nin0
  have f24 := f12_6.keep K14q nin0
  have f25 := f12_7.keep K14q nin0
  have f26 := f12_8.keep K14q nin0
  have f27 := f12_9.keep K14q nin0
  have K14 := K12.trans K14q all0
  have Z14 := Nat.le_trans Z12 K14q.1
  refine Goes.tr st14 ?_
  show Goes p e below s _ _ _ T14 (mkF m 89 #[.val (.long x0), .second, .val (.long x1), .second, .val (.long x2), .second, .val (.long x3), .second, .val (.long x4), .second, .val (.long x5), .second, .val (.long x0), .second, .val (.long x1), .second, .val (.int (x2.toInt32)), .val (.long x3), .second, .val (.long x4), .second, .val (.int (((x2.toUInt64 >>> ((32 : Int32) &&& 0x3f).toInt64.toUInt64).toInt64).toInt32)), .val (.long (x0 ^^^ x1)), .second, .val (.int (((x4.toUInt64 >>> ((32 : Int32) &&& 0x3f).toInt64.toUInt64).toInt64).toInt32)), .val (.long (x3 + x1)), .second, .val (.int (((x0.toUInt64 >>> ((32 : Int32) &&& 0x3f).toInt64.toUInt64).toInt64).toInt32)), .val (.ref b1), .unset, .unset, .unset] [(.ref mb_14)])
  refine own_astore X14 hx 91 rfl #[.val (.long x0), .second, .val (.long x1), .second, .val (.long x2), .second, .val (.long x3), .second, .val (.long x4), .second, .val (.long x5), .second, .val (.long x0), .second, .val (.long x1), .second, .val (.int (x2.toInt32)), .val (.long x3), .second, .val (.long x4), .second, .val (.int (((x2.toUInt64 >>> ((32 : Int32) &&& 0x3f).toInt64.toUInt64).toInt64).toInt32)), .val (.long (x0 ^^^ x1)), .second, .val (.int (((x4.toUInt64 >>> ((32 : Int32) &&& 0x3f).toInt64.toUInt64).toInt64).toInt32)), .val (.long (x3 + x1)), .second, .val (.int (((x0.toUInt64 >>> ((32 : Int32) &&& 0x3f).toInt64.toUInt64).toInt64).toInt32)), .val (.ref b1), .val (.ref mb_14), .unset, .unset] (hb hby at_89) rfl rfl ?_
  refine own_aload X14 hx 93 rfl (hb hby at_91) rfl rfl ?_
  obtain ⟨cq28, kq28, q28a, q28b, q28c⟩ := isOf hZ rfl f14_1
  obtain ⟨_, _, ⟨T28, L28, k28, n28⟩, -, X28, ⟨Lc28, hQ28, l28, y28, z28⟩, st28⟩ := X14.virtualBack hx (y := (⟨"com/example/tidings/tidings/store/StoredMessage", "sequence", "()J"⟩ : MethodName)) (z := (⟨"com/example/tidings/tidings/store/StoredMessage", "sequence", "()J"⟩ : MethodName)) hown (mvT hZ (hw _ (List.mem_of_getElem? (i := 41) rfl))) (mvT hZ (hw _ (List.mem_of_getElem? (i := 42) rfl))) (notFace_of_selects (args := #[]) (mvT hZ (hw _ (List.mem_of_getElem? (i := 44) rfl)))) (mvT hZ (hw _ (List.mem_of_getElem? (i := 44) rfl))) (mvT hZ (hw _ (List.mem_of_getElem? (i := 43) rfl))) (by decide) (backOf (W := 0) (rm5 l Z a0 hw [] mb_14 x0 T14.heap n0 Z14 f14_2) hZ (hw _ (List.mem_of_getElem? (i := 45) rfl)) (hw _ (List.mem_of_getElem? (i := 2) rfl)) (by decide) (by decide)) q28a q28c (g := (mkF m 93 #[.val (.long x0), .second, .val (.long x1), .second, .val (.long x2), .second, .val (.long x3), .second, .val (.long x4), .second, .val (.long x5), .second, .val (.long x0), .second, .val (.long x1), .second, .val (.int (x2.toInt32)), .val (.long x3), .second, .val (.long x4), .second, .val (.int (((x2.toUInt64 >>> ((32 : Int32) &&& 0x3f).toInt64.toUInt64).toInt64).toInt32)), .val (.long (x0 ^^^ x1)), .second, .val (.int (((x4.toUInt64 >>> ((32 : Int32) &&& 0x3f).toInt64.toUInt64).toInt64).toInt32)), .val (.long (x3 + x1)), .second, .val (.int (((x0.toUInt64 >>> ((32 : Int32) &&& 0x3f).toInt64.toUInt64).toInt64).toInt32)), .val (.ref b1), .val (.ref mb_14), .unset, .unset] [(.ref mb_14)])) rfl (by rw [hml]; rfl) (Steps.refl _) (argsL := []) (rest := []) (lenOf own_pd3 rfl) rfl (by show 2 * 0 + _ ≤ _; exact Nat.le_of_eq rfl) (hb hby at_93) (fun _ _ => ⟨rfl, rfl, (by decide : 2 + 0 ≤ _), (by decide : 20 + 0 ≤ _)⟩)
  dsimp only [Pt.U, Pt.locs, Pt.cells, Pt.slots] at X28 l28 y28 z28 st28 hQ28
  subst l28 y28 z28
  obtain ⟨rfl, N28q, eh28⟩ := hQ28
  have N28 := Fr.app N14 N28q
  refine Goes.tr st28 ?_
  show Goes p e below s _ _ _ T28 (mkF m 96 #[.val (.long x0), .second, .val (.long x1), .second, .val (.long x2), .second, .val (.long x3), .second, .val (.long x4), .second, .val (.long x5), .second, .val (.long x0), .second, .val (.long x1), .second, .val (.int (x2.toInt32)), .val (.long x3), .second, .val (.long x4), .second, .val (.int (((x2.toUInt64 >>> ((32 : Int32) &&& 0x3f).toInt64.toUInt64).toInt64).toInt32)), .val (.long (x0 ^^^ x1)), .second, .val (.int (((x4.toUInt64 >>> ((32 : Int32) &&& 0x3f).toInt64.toUInt64).toInt64).toInt32)), .val (.long (x3 + x1)), .second, .val (.int (((x0.toUInt64 >>> ((32 : Int32) &&& 0x3f).toInt64.toUInt64).toInt64).toInt32)), .val (.ref b1), .val (.ref mb_14), .unset, .unset] [(.long x0)])
  refine own_lload X28 hx 98 rfl (hb hby at_96) rfl ?_
  refine own_lcmp X28 hx 99 rfl (hb hby at_98) ?_
  refine own_ifN X28 hx 102 (hb hby at_99) (Lteq (rfl : x0 = x0)).2 rfl ?_
  refine own_aload X28 hx 104 rfl (hb hby at_102) rfl rfl ?_
  obtain ⟨cq29, kq29, q29a, q29b, q29c⟩ := isOf hZ eh28 f14_1
  obtain ⟨_, _, ⟨T29, L29, k29, n29⟩, -, X29, ⟨Lc29, hQ29, l29, y29, z29⟩, st29⟩ := X28.virtualBack hx (y := (⟨"com/example/tidings/tidings/store/StoredMessage", "enqueueTime", "()J"⟩ : MethodName)) (z := (⟨"com/example/tidings/tidings/store/StoredMessage", "enqueueTime", "()J"⟩ : MethodName)) hown (mvT hZ (hw _ (List.mem_of_getElem? (i := 46) rfl))) (mvT hZ (hw _ (List.mem_of_getElem? (i := 47) rfl))) (notFace_of_selects (args := #[]) (mvT hZ (hw _ (List.mem_of_getElem? (i := 49) rfl)))) (mvT hZ (hw _ (List.mem_of_getElem? (i := 49) rfl))) (mvT hZ (hw _ (List.mem_of_getElem? (i := 48) rfl))) (by decide) (backOf (W := 0) (rm6 l Z a0 hw [] mb_14 x1 T14.heap n0 Z14 f14_3) hZ (hw _ (List.mem_of_getElem? (i := 50) rfl)) (hw _ (List.mem_of_getElem? (i := 2) rfl)) (by decide) (by decide)) q29a q29c (g := (mkF m 104 #[.val (.long x0), .second, .val (.long x1), .second, .val (.long x2), .second, .val (.long x3), .second, .val (.long x4), .second, .val (.long x5), .second, .val (.long x0), .second, .val (.long x1), .second, .val (.int (x2.toInt32)), .val (.long x3), .second, .val (.long x4), .second, .val (.int (((x2.toUInt64 >>> ((32 : Int32) &&& 0x3f).toInt64.toUInt64).toInt64).toInt32)), .val (.long (x0 ^^^ x1)), .second, .val (.int (((x4.toUInt64 >>> ((32 : Int32) &&& 0x3f).toInt64.toUInt64).toInt64).toInt32)), .val (.long (x3 + x1)), .second, .val (.int (((x0.toUInt64 >>> ((32 : Int32) &&& 0x3f).toInt64.toUInt64).toInt64).toInt32)), .val (.ref b1), .val (.ref mb_14), .unset, .unset] [(.ref mb_14)])) rfl (by rw [hml]; rfl) (Steps.refl _) (argsL := []) (rest := []) (lenOf own_pd3 rfl) rfl (by show 2 * 0 + _ ≤ _; exact Nat.le_of_eq rfl) (hb hby at_104) (fun _ _ => ⟨rfl, eh28, (by decide : 2 + 0 ≤ _), (by decide : 20 + 0 ≤ _)⟩)
  dsimp only [Pt.U, Pt.locs, Pt.cells, Pt.slots] at X29 l29 y29 z29 st29 hQ29
  subst l29 y29 z29
  obtain ⟨rfl, N29q, eh29⟩ := hQ29
  have N29 := Fr.app N28 N29q
  refine Goes.tr st29 ?_
  show Goes p e below s _ _ _ T29 (mkF m 107 #[.val (.long x0), .second, .val (.long x1), .second, .val (.long x2), .second, .val (.long x3), .second, .val (.long x4), .second, .val (.long x5), .second, .val (.long x0), .second, .val (.long x1), .second, .val (.int (x2.toInt32)), .val (.long x3), .second, .val (.long x4), .second, .val (.int (((x2.toUInt64 >>> ((32 : Int32) &&& 0x3f).toInt64.toUInt64).toInt64).toInt32)), .val (.long (x0 ^^^ x1)), .second, .val (.int (((x4.toUInt64 >>> ((32 : Int32) &&& 0x3f).toInt64.toUInt64).toInt64).toInt32)), .val (.long (x3 + x1)), .second, .val (.int (((x0.toUInt64 >>> ((32 : Int32) &&& 0x3f).toInt64.toUInt64).toInt64).toInt32)), .val (.ref b1), .val (.ref mb_14), .unset, .unset] [(.long x1)])
  refine own_lload X29 hx 109 rfl (hb hby at_107) rfl ?_
  refine own_lcmp X29 hx 110 rfl (hb hby at_109) ?_
  refine own_ifN X29 hx 113 (hb hby at_110) (Lteq (rfl : x1 = x1)).2 rfl ?_
  refine own_aload X29 hx 115 rfl (hb hby at_113) rfl rfl ?_
  obtain ⟨cq30, kq30, q30a, q30b, q30c⟩ := isOf hZ eh29 f14_1
  obtain ⟨_, _, ⟨T30, L30, k30, n30⟩, -, X30, ⟨Lc30, hQ30, l30, y30, z30⟩, st30⟩ := X29.virtualBack hx (y := (⟨"com/example/tidings/tidings/store/StoredMessage", "priority", "()I"⟩ : MethodName)) (z := (⟨"com/example/tidings/tidings/store/StoredMessage", "priority", "()I"⟩ : MethodName)) hown (mvT hZ (hw _ (List.mem_of_getElem? (i := 51) rfl))) (mvT hZ (hw _ (List.mem_of_getElem? (i := 52) rfl))) (notFace_of_selects (args := #[]) (mvT hZ (hw _ (List.mem_of_getElem? (i := 54) rfl)))) (mvT hZ (hw _ (List.mem_of_getElem? (i := 54) rfl))) (mvT hZ (hw _ (List.mem_of_getElem? (i := 53) rfl))) (by decide) (backOf (W := 0) (rm7 l Z a0 hw [] mb_14 (x2.toInt32) T14.heap n0 Z14 f14_4) hZ (hw _ (List.mem_of_getElem? (i := 55) rfl)) (hw _ (List.mem_of_getElem? (i := 2) rfl)) (by decide) (by decide)) q30a q30c (g := (mkF m 115 #[.val (.long x0), .second, .val (.long x1), .second, .val (.long x2), .second, .val (.long x3), .second, .val (.long x4), .second, .val (.long x5), .second, .val (.long x0), .second, .val (.long x1), .second, .val (.int (x2.toInt32)), .val (.long x3), .second, .val (.long x4), .second, .val (.int (((x2.toUInt64 >>> ((32 : Int32) &&& 0x3f).toInt64.toUInt64).toInt64).toInt32)), .val (.long (x0 ^^^ x1)), .second, .val (.int (((x4.toUInt64 >>> ((32 : Int32) &&& 0x3f).toInt64.toUInt64).toInt64).toInt32)), .val (.long (x3 + x1)), .second, .val (.int (((x0.toUInt64 >>> ((32 : Int32) &&& 0x3f).toInt64.toUInt64).toInt64).toInt32)), .val (.ref b1), .val (.ref mb_14), .unset, .unset] [(.ref mb_14)])) rfl (by rw [hml]; rfl) (Steps.refl _) (argsL := []) (rest := []) (lenOf own_pd4 rfl) rfl (by show 2 * 0 + _ ≤ _; exact Nat.le_of_eq rfl) (hb hby at_115) (fun _ _ => ⟨rfl, eh29, (by decide : 2 + 0 ≤ _), (by decide : 20 + 0 ≤ _)⟩)
  dsimp only [Pt.U, Pt.locs, Pt.cells, Pt.slots] at X30 l30 y30 z30 st30 hQ30
  subst l30 y30 z30
  obtain ⟨rfl, N30q, eh30⟩ := hQ30
  have N30 := Fr.app N29 N30q
  refine Goes.tr st30 ?_
  show Goes p e below s _ _ _ T30 (mkF m 118 #[.val (.long x0), .second, .val (.long x1), .second, .val (.long x2), .second, .val (.long x3), .second, .val (.long x4), .second, .val (.long x5), .second, .val (.long x0), .second, .val (.long x1), .second, .val (.int (x2.toInt32)), .val (.long x3), .second, .val (.long x4), .second, .val (.int (((x2.toUInt64 >>> ((32 : Int32) &&& 0x3f).toInt64.toUInt64).toInt64).toInt32)), .val (.long (x0 ^^^ x1)), .second, .val (.int (((x4.toUInt64 >>> ((32 : Int32) &&& 0x3f).toInt64.toUInt64).toInt64).toInt32)), .val (.long (x3 + x1)), .second, .val (.int (((x0.toUInt64 >>> ((32 : Int32) &&& 0x3f).toInt64.toUInt64).toInt64).toInt32)), .val (.ref b1), .val (.ref mb_14), .unset, .unset] [(.int (x2.toInt32))])
  refine own_iload X30 hx 120 rfl (hb hby at_118) rfl ?_
  refine own_icmpN X30 hx 123 (hb hby at_120) (teq (rfl : (x2.toInt32) = (x2.toInt32))).2 rfl ?_
  refine own_aload X30 hx 125 rfl (hb hby at_123) rfl rfl ?_
  obtain ⟨cq31, kq31, q31a, q31b, q31c⟩ := isOf hZ eh30 f14_1
  obtain ⟨_, _, ⟨T31, L31, k31, n31⟩, -, X31, ⟨Lc31, hQ31, l31, y31, z31⟩, st31⟩ := X30.virtualBack hx (y := (⟨"com/example/tidings/tidings/store/StoredMessage", "expiryTime", "()J"⟩ : MethodName)) (z := (⟨"com/example/tidings/tidings/store/StoredMessage", "expiryTime", "()J"⟩ : MethodName)) hown (mvT hZ (hw _ (List.mem_of_getElem? (i := 56) rfl))) (mvT hZ (hw _ (List.mem_of_getElem? (i := 57) rfl))) (notFace_of_selects (args := #[]) (mvT hZ (hw _ (List.mem_of_getElem? (i := 59) rfl)))) (mvT hZ (hw _ (List.mem_of_getElem? (i := 59) rfl))) (mvT hZ (hw _ (List.mem_of_getElem? (i := 58) rfl))) (by decide) (backOf (W := 0) (rm8 l Z a0 hw [] mb_14 x3 T14.heap n0 Z14 f14_5) hZ (hw _ (List.mem_of_getElem? (i := 60) rfl)) (hw _ (List.mem_of_getElem? (i := 2) rfl)) (by decide) (by decide)) q31a q31c (g := (mkF m 125 #[.val (.long x0), .second, .val (.long x1), .second, .val (.long x2), .second, .val (.long x3), .second, .val (.long x4), .second, .val (.long x5), .second, .val (.long x0), .second, .val (.long x1), .second, .val (.int (x2.toInt32)), .val (.long x3), .second, .val (.long x4), .second, .val (.int (((x2.toUInt64 >>> ((32 : Int32) &&& 0x3f).toInt64.toUInt64).toInt64).toInt32)), .val (.long (x0 ^^^ x1)), .second, .val (.int (((x4.toUInt64 >>> ((32 : Int32) &&& 0x3f).toInt64.toUInt64).toInt64).toInt32)), .val (.long (x3 + x1)), .second, .val (.int (((x0.toUInt64 >>> ((32 : Int32) &&& 0x3f).toInt64.toUInt64).toInt64).toInt32)), .val (.ref b1), .val (.ref mb_14), .unset, .unset] [(.ref mb_14)])) rfl (by rw [hml]; rfl) (Steps.refl _) (argsL := []) (rest := []) (lenOf own_pd3 rfl) rfl (by show 2 * 0 + _ ≤ _; exact Nat.le_of_eq rfl) (hb hby at_125) (fun _ _ => ⟨rfl, eh30, (by decide : 2 + 0 ≤ _), (by decide : 20 + 0 ≤ _)⟩)
  dsimp only [Pt.U, Pt.locs, Pt.cells, Pt.slots] at X31 l31 y31 z31 st31 hQ31
  subst l31 y31 z31
  obtain ⟨rfl, N31q, eh31⟩ := hQ31
  have N31 := Fr.app N30 N31q
  refine Goes.tr st31 ?_
  show Goes p e below s _ _ _ T31 (mkF m 128 #[.val (.long x0), .second, .val (.long x1), .second, .val (.long x2), .second, .val (.long x3), .second, .val (.long x4), .second, .val (.long x5), .second, .val (.long x0), .second, .val (.long x1), .second, .val (.int (x2.toInt32)), .val (.long x3), .second, .val (.long x4), .second, .val (.int (((x2.toUInt64 >>> ((32 : Int32) &&& 0x3f).toInt64.toUInt64).toInt64).toInt32)), .val (.long (x0 ^^^ x1)), .second, .val (.int (((x4.toUInt64 >>> ((32 : Int32) &&& 0x3f).toInt64.toUInt64).toInt64).toInt32)), .val (.long (x3 + x1)), .second, .val (.int (((x0.toUInt64 >>> ((32 : Int32) &&& 0x3f).toInt64.toUInt64).toInt64).toInt32)), .val (.ref b1), .val (.ref mb_14), .unset, .unset] [(.long x3)])
  refine own_lload X31 hx 130 rfl (hb hby at_128) rfl ?_
  refine own_lcmp X31 hx 131 rfl (hb hby at_130) ?_
  refine own_ifN X31 hx 134 (hb hby at_131) (Lteq (rfl : x3 = x3)).2 rfl ?_
  refine own_aload X31 hx 136 rfl (hb hby at_134) rfl rfl ?_
  obtain ⟨cq32, kq32, q32a, q32b, q32c⟩ := isOf hZ eh31 f14_1
  obtain ⟨_, _, ⟨T32, L32, k32, n32⟩, -, X32, ⟨Lc32, hQ32, l32, y32, z32⟩, st32⟩ := X31.virtualBack hx (y := (⟨"com/example/tidings/tidings/store/StoredMessage", "nextVisibleTime", "()J"⟩ : MethodName)) (z := (⟨"com/example/tidings/tidings/store/StoredMessage", "nextVisibleTime", "()J"⟩ : MethodName)) hown (mvT hZ (hw _ (List.mem_of_getElem? (i := 61) rfl))) (mvT hZ (hw _ (List.mem_of_getElem? (i := 62) rfl))) (notFace_of_selects (args := #[]) (mvT hZ (hw _ (List.mem_of_getElem? (i := 64) rfl)))) (mvT hZ (hw _ (List.mem_of_getElem? (i := 64) rfl))) (mvT hZ (hw _ (List.mem_of_getElem? (i := 63) rfl))) (by decide) (backOf (W := 0) (rm9 l Z a0 hw [] mb_14 x4 T14.heap n0 Z14 f14_6) hZ (hw _ (List.mem_of_getElem? (i := 65) rfl)) (hw _ (List.mem_of_getElem? (i := 2) rfl)) (by decide) (by decide)) q32a q32c (g := (mkF m 136 #[.val (.long x0), .second, .val (.long x1), .second, .val (.long x2), .second, .val (.long x3), .second, .val (.long x4), .second, .val (.long x5), .second, .val (.long x0), .second, .val (.long x1), .second, .val (.int (x2.toInt32)), .val (.long x3), .second, .val (.long x4), .second, .val (.int (((x2.toUInt64 >>> ((32 : Int32) &&& 0x3f).toInt64.toUInt64).toInt64).toInt32)), .val (.long (x0 ^^^ x1)), .second, .val (.int (((x4.toUInt64 >>> ((32 : Int32) &&& 0x3f).toInt64.toUInt64).toInt64).toInt32)), .val (.long (x3 + x1)), .second, .val (.int (((x0.toUInt64 >>> ((32 : Int32) &&& 0x3f).toInt64.toUInt64).toInt64).toInt32)), .val (.ref b1), .val (.ref mb_14), .unset, .unset] [(.ref mb_14)])) rfl (by rw [hml]; rfl) (Steps.refl _) (argsL := []) (rest := []) (lenOf own_pd3 rfl) rfl (by show 2 * 0 + _ ≤ _; exact Nat.le_of_eq rfl) (hb hby at_136) (fun _ _ => ⟨rfl, eh31, (by decide : 2 + 0 ≤ _), (by decide : 20 + 0 ≤ _)⟩)
  dsimp only [Pt.U, Pt.locs, Pt.cells, Pt.slots] at X32 l32 y32 z32 st32 hQ32
  subst l32 y32 z32
  obtain ⟨rfl, N32q, eh32⟩ := hQ32
  have N32 := Fr.app N31 N32q
  refine Goes.tr st32 ?_
  show Goes p e below s _ _ _ T32 (mkF m 139 #[.val (.long x0), .second, .val (.long x1), .second, .val (.long x2), .second, .val (.long x3), .second, .val (.long x4), .second, .val (.long x5), .second, .val (.long x0), .second, .val (.long x1), .second, .val (.int (x2.toInt32)), .val (.long x3), .second, .val (.long x4), .second, .val (.int (((x2.toUInt64 >>> ((32 : Int32) &&& 0x3f).toInt64.toUInt64).toInt64).toInt32)), .val (.long (x0 ^^^ x1)), .second, .val (.int (((x4.toUInt64 >>> ((32 : Int32) &&& 0x3f).toInt64.toUInt64).toInt64).toInt32)), .val (.long (x3 + x1)), .second, .val (.int (((x0.toUInt64 >>> ((32 : Int32) &&& 0x3f).toInt64.toUInt64).toInt64).toInt32)), .val (.ref b1), .val (.ref mb_14), .unset, .unset] [(.long x4)])
  refine own_lload X32 hx 141 rfl (hb hby at_139) rfl ?_
  refine own_lcmp X32 hx 142 rfl (hb hby at_141) ?_
  refine own_ifN X32 hx 145 (hb hby at_142) (Lteq (rfl : x4 = x4)).2 rfl ?_
  refine own_aload X32 hx 147 rfl (hb hby at_145) rfl rfl ?_
  obtain ⟨cq33, kq33, q33a, q33b, q33c⟩ := isOf hZ eh32 f14_1
  obtain ⟨_, _, ⟨T33, L33, k33, n33⟩, -, X33, ⟨Lc33, hQ33, l33, y33, z33⟩, st33⟩ := X32.virtualBack hx (y := (⟨"com/example/tidings/tidings/store/StoredMessage", "dequeueCount", "()I"⟩ : MethodName)) (z := (⟨"com/example/tidings/tidings/store/StoredMessage", "dequeueCount", "()I"⟩ : MethodName)) hown (mvT hZ (hw _ (List.mem_of_getElem? (i := 66) rfl))) (mvT hZ (hw _ (List.mem_of_getElem? (i := 67) rfl))) (notFace_of_selects (args := #[]) (mvT hZ (hw _ (List.mem_of_getElem? (i := 69) rfl)))) (mvT hZ (hw _ (List.mem_of_getElem? (i := 69) rfl))) (mvT hZ (hw _ (List.mem_of_getElem? (i := 68) rfl))) (by decide) (backOf (W := 0) (rm10 l Z a0 hw [] mb_14 (((x2.toUInt64 >>> ((32 : Int32) &&& 0x3f).toInt64.toUInt64).toInt64).toInt32) T14.heap n0 Z14 f14_7) hZ (hw _ (List.mem_of_getElem? (i := 70) rfl)) (hw _ (List.mem_of_getElem? (i := 2) rfl)) (by decide) (by decide)) q33a q33c (g := (mkF m 147 #[.val (.long x0), .second, .val (.long x1), .second, .val (.long x2), .second, .val (.long x3), .second, .val (.long x4), .second, .val (.long x5), .second, .val (.long x0), .second, .val (.long x1), .second, .val (.int (x2.toInt32)), .val (.long x3), .second, .val (.long x4), .second, .val (.int (((x2.toUInt64 >>> ((32 : Int32) &&& 0x3f).toInt64.toUInt64).toInt64).toInt32)), .val (.long (x0 ^^^ x1)), .second, .val (.int (((x4.toUInt64 >>> ((32 : Int32) &&& 0x3f).toInt64.toUInt64).toInt64).toInt32)), .val (.long (x3 + x1)), .second, .val (.int (((x0.toUInt64 >>> ((32 : Int32) &&& 0x3f).toInt64.toUInt64).toInt64).toInt32)), .val (.ref b1), .val (.ref mb_14), .unset, .unset] [(.ref mb_14)])) rfl (by rw [hml]; rfl) (Steps.refl _) (argsL := []) (rest := []) (lenOf own_pd4 rfl) rfl (by show 2 * 0 + _ ≤ _; exact Nat.le_of_eq rfl) (hb hby at_147) (fun _ _ => ⟨rfl, eh32, (by decide : 2 + 0 ≤ _), (by decide : 20 + 0 ≤ _)⟩)
  dsimp only [Pt.U, Pt.locs, Pt.cells, Pt.slots] at X33 l33 y33 z33 st33 hQ33
  subst l33 y33 z33
  obtain ⟨rfl, N33q, eh33⟩ := hQ33
  have N33 := Fr.app N32 N33q
  refine Goes.tr st33 ?_
  show Goes p e below s _ _ _ T33 (mkF m 150 #[.val (.long x0), .second, .val (.long x1), .second, .val (.long x2), .second, .val (.long x3), .second, .val (.long x4), .second, .val (.long x5), .second, .val (.long x0), .second, .val (.long x1), .second, .val (.int (x2.toInt32)), .val (.long x3), .second, .val (.long x4), .second, .val (.int (((x2.toUInt64 >>> ((32 : Int32) &&& 0x3f).toInt64.toUInt64).toInt64).toInt32)), .val (.long (x0 ^^^ x1)), .second, .val (.int (((x4.toUInt64 >>> ((32 : Int32) &&& 0x3f).toInt64.toUInt64).toInt64).toInt32)), .val (.long (x3 + x1)), .second, .val (.int (((x0.toUInt64 >>> ((32 : Int32) &&& 0x3f).toInt64.toUInt64).toInt64).toInt32)), .val (.ref b1), .val (.ref mb_14), .unset, .unset] [(.int (((x2.toUInt64 >>> ((32 : Int32) &&& 0x3f).toInt64.toUInt64).toInt64).toInt32))])
  refine own_iload X33 hx 152 rfl (hb hby at_150) rfl ?_
  refine own_icmpN X33 hx 155 (hb hby at_152) (teq (rfl : (((x2.toUInt64 >>> ((32 : Int32) &&& 0x3f).toInt64.toUInt64).toInt64).toInt32) = (((x2.toUInt64 >>> ((32 : Int32) &&& 0x3f).toInt64.toUInt64).toInt64).toInt32))).2 rfl ?_
  refine own_aload X33 hx 157 rfl (hb hby at_155) rfl rfl ?_
  obtain ⟨cq34, kq34, q34a, q34b, q34c⟩ := isOf hZ eh33 f14_1
  obtain ⟨_, _, ⟨T34, L34, k34, n34⟩, -, X34, ⟨Lc34, hQ34, l34, y34, z34⟩, st34⟩ := X33.virtualBack hx (y := (⟨"com/example/tidings/tidings/store/StoredMessage", "firstDequeueTime", "()J"⟩ : MethodName)) (z := (⟨"com/example/tidings/tidings/store/StoredMessage", "firstDequeueTime", "()J"⟩ : MethodName)) hown (mvT hZ (hw _ (List.mem_of_getElem? (i := 71) rfl))) (mvT hZ (hw _ (List.mem_of_getElem? (i := 72) rfl))) (notFace_of_selects (args := #[]) (mvT hZ (hw _ (List.mem_of_getElem? (i := 74) rfl)))) (mvT hZ (hw _ (List.mem_of_getElem? (i := 74) rfl))) (mvT hZ (hw _ (List.mem_of_getElem? (i := 73) rfl))) (by decide) (backOf (W := 0) (rm11 l Z a0 hw [] mb_14 (x0 ^^^ x1) T14.heap n0 Z14 f14_8) hZ (hw _ (List.mem_of_getElem? (i := 75) rfl)) (hw _ (List.mem_of_getElem? (i := 2) rfl)) (by decide) (by decide)) q34a q34c (g := (mkF m 157 #[.val (.long x0), .second, .val (.long x1), .second, .val (.long x2), .second, .val (.long x3), .second, .val (.long x4), .second, .val (.long x5), .second, .val (.long x0), .second, .val (.long x1), .second, .val (.int (x2.toInt32)), .val (.long x3), .second, .val (.long x4), .second, .val (.int (((x2.toUInt64 >>> ((32 : Int32) &&& 0x3f).toInt64.toUInt64).toInt64).toInt32)), .val (.long (x0 ^^^ x1)), .second, .val (.int (((x4.toUInt64 >>> ((32 : Int32) &&& 0x3f).toInt64.toUInt64).toInt64).toInt32)), .val (.long (x3 + x1)), .second, .val (.int (((x0.toUInt64 >>> ((32 : Int32) &&& 0x3f).toInt64.toUInt64).toInt64).toInt32)), .val (.ref b1), .val (.ref mb_14), .unset, .unset] [(.ref mb_14)])) rfl (by rw [hml]; rfl) (Steps.refl _) (argsL := []) (rest := []) (lenOf own_pd3 rfl) rfl (by show 2 * 0 + _ ≤ _; exact Nat.le_of_eq rfl) (hb hby at_157) (fun _ _ => ⟨rfl, eh33, (by decide : 2 + 0 ≤ _), (by decide : 20 + 0 ≤ _)⟩)
  dsimp only [Pt.U, Pt.locs, Pt.cells, Pt.slots] at X34 l34 y34 z34 st34 hQ34
  subst l34 y34 z34
  obtain ⟨rfl, N34q, eh34⟩ := hQ34
  have N34 := Fr.app N33 N34q
  refine Goes.tr st34 ?_
  show Goes p e below s _ _ _ T34 (mkF m 160 #[.val (.long x0), .second, .val (.long x1), .second, .val (.long x2), .second, .val (.long x3), .second, .val (.long x4), .second, .val (.long x5), .second, .val (.long x0), .second, .val (.long x1), .second, .val (.int (x2.toInt32)), .val (.long x3), .second, .val (.long x4), .second, .val (.int (((x2.toUInt64 >>> ((32 : Int32) &&& 0x3f).toInt64.toUInt64).toInt64).toInt32)), .val (.long (x0 ^^^ x1)), .second, .val (.int (((x4.toUInt64 >>> ((32 : Int32) &&& 0x3f).toInt64.toUInt64).toInt64).toInt32)), .val (.long (x3 + x1)), .second, .val (.int (((x0.toUInt64 >>> ((32 : Int32) &&& 0x3f).toInt64.toUInt64).toInt64).toInt32)), .val (.ref b1), .val (.ref mb_14), .unset, .unset] [(.long (x0 ^^^ x1))])
  refine own_lload X34 hx 162 rfl (hb hby at_160) rfl ?_
  refine own_lcmp X34 hx 163 rfl (hb hby at_162) ?_
  refine own_ifN X34 hx 166 (hb hby at_163) (Lteq (rfl : (x0 ^^^ x1) = (x0 ^^^ x1))).2 rfl ?_
  refine own_aload X34 hx 168 rfl (hb hby at_166) rfl rfl ?_
  obtain ⟨cq35, kq35, q35a, q35b, q35c⟩ := isOf hZ eh34 f14_1
  obtain ⟨_, _, ⟨T35, L35, k35, n35⟩, -, X35, ⟨Lc35, hQ35, l35, y35, z35⟩, st35⟩ := X34.virtualBack hx (y := (⟨"com/example/tidings/tidings/store/StoredMessage", "receipts", "()I"⟩ : MethodName)) (z := (⟨"com/example/tidings/tidings/store/StoredMessage", "receipts", "()I"⟩ : MethodName)) hown (mvT hZ (hw _ (List.mem_of_getElem? (i := 76) rfl))) (mvT hZ (hw _ (List.mem_of_getElem? (i := 77) rfl))) (notFace_of_selects (args := #[]) (mvT hZ (hw _ (List.mem_of_getElem? (i := 79) rfl)))) (mvT hZ (hw _ (List.mem_of_getElem? (i := 79) rfl))) (mvT hZ (hw _ (List.mem_of_getElem? (i := 78) rfl))) (by decide) (backOf (W := 0) (rm12 l Z a0 hw [] mb_14 (((x4.toUInt64 >>> ((32 : Int32) &&& 0x3f).toInt64.toUInt64).toInt64).toInt32) T14.heap n0 Z14 f14_9) hZ (hw _ (List.mem_of_getElem? (i := 80) rfl)) (hw _ (List.mem_of_getElem? (i := 2) rfl)) (by decide) (by decide)) q35a q35c (g := (mkF m 168 #[.val (.long x0), .second, .val (.long x1), .second, .val (.long x2), .second, .val (.long x3), .second, .val (.long x4), .second, .val (.long x5), .second, .val (.long x0), .second, .val (.long x1), .second, .val (.int (x2.toInt32)), .val (.long x3), .second, .val (.long x4), .second, .val (.int (((x2.toUInt64 >>> ((32 : Int32) &&& 0x3f).toInt64.toUInt64).toInt64).toInt32)), .val (.long (x0 ^^^ x1)), .second, .val (.int (((x4.toUInt64 >>> ((32 : Int32) &&& 0x3f).toInt64.toUInt64).toInt64).toInt32)), .val (.long (x3 + x1)), .second, .val (.int (((x0.toUInt64 >>> ((32 : Int32) &&& 0x3f).toInt64.toUInt64).toInt64).toInt32)), .val (.ref b1), .val (.ref mb_14), .unset, .unset] [(.ref mb_14)])) rfl (by rw [hml]; rfl) (Steps.refl _) (argsL := []) (rest := []) (lenOf own_pd4 rfl) rfl (by show 2 * 0 + _ ≤ _; exact Nat.le_of_eq rfl) (hb hby at_168) (fun _ _ => ⟨rfl, eh34, (by decide : 2 + 0 ≤ _), (by decide : 20 + 0 ≤ _)⟩)
  dsimp only [Pt.U, Pt.locs, Pt.cells, Pt.slots] at X35 l35 y35 z35 st35 hQ35
  subst l35 y35 z35
  obtain ⟨rfl, N35q, eh35⟩ := hQ35
  have N35 := Fr.app N34 N35q
  refine Goes.tr st35 ?_
  show Goes p e below s _ _ _ T35 (mkF m 171 #[.val (.long x0), .second, .val (.long x1), .second, .val (.long x2), .second, .val (.long x3), .second, .val (.long x4), .second, .val (.long x5), .second, .val (.long x0), .second, .val (.long x1), .second, .val (.int (x2.toInt32)), .val (.long x3), .second, .val (.long x4), .second, .val (.int (((x2.toUInt64 >>> ((32 : Int32) &&& 0x3f).toInt64.toUInt64).toInt64).toInt32)), .val (.long (x0 ^^^ x1)), .second, .val (.int (((x4.toUInt64 >>> ((32 : Int32) &&& 0x3f).toInt64.toUInt64).toInt64).toInt32)), .val (.long (x3 + x1)), .second, .val (.int (((x0.toUInt64 >>> ((32 : Int32) &&& 0x3f).toInt64.toUInt64).toInt64).toInt32)), .val (.ref b1), .val (.ref mb_14), .unset, .unset] [(.int (((x4.toUInt64 >>> ((32 : Int32) &&& 0x3f).toInt64.toUInt64).toInt64).toInt32))])
  refine own_iload X35 hx 173 rfl (hb hby at_171) rfl ?_
  refine own_icmpN X35 hx 176 (hb hby at_173) (teq (rfl : (((x4.toUInt64 >>> ((32 : Int32) &&& 0x3f).toInt64.toUInt64).toInt64).toInt32) = (((x4.toUInt64 >>> ((32 : Int32) &&& 0x3f).toInt64.toUInt64).toInt64).toInt32))).2 rfl ?_
  refine own_aload X35 hx 178 rfl (hb hby at_176) rfl rfl ?_
  obtain ⟨cq36, kq36, q36a, q36b, q36c⟩ := isOf hZ eh35 f14_1
  obtain ⟨_, _, ⟨T36, L36, k36, n36⟩, -, X36, ⟨Lc36, hQ36, l36, y36, z36⟩, st36⟩ := X35.virtualBack hx (y := (⟨"com/example/tidings/tidings/store/StoredMessage", "bodyOffset", "()J"⟩ : MethodName)) (z := (⟨"com/example/tidings/tidings/store/StoredMessage", "bodyOffset", "()J"⟩ : MethodName)) hown (mvT hZ (hw _ (List.mem_of_getElem? (i := 81) rfl))) (mvT hZ (hw _ (List.mem_of_getElem? (i := 82) rfl))) (notFace_of_selects (args := #[]) (mvT hZ (hw _ (List.mem_of_getElem? (i := 84) rfl)))) (mvT hZ (hw _ (List.mem_of_getElem? (i := 84) rfl))) (mvT hZ (hw _ (List.mem_of_getElem? (i := 83) rfl))) (by decide) (backOf (W := 0) (rm13 l Z a0 hw [] mb_14 x5 T14.heap n0 Z14 f14_10) hZ (hw _ (List.mem_of_getElem? (i := 85) rfl)) (hw _ (List.mem_of_getElem? (i := 2) rfl)) (by decide) (by decide)) q36a q36c (g := (mkF m 178 #[.val (.long x0), .second, .val (.long x1), .second, .val (.long x2), .second, .val (.long x3), .second, .val (.long x4), .second, .val (.long x5), .second, .val (.long x0), .second, .val (.long x1), .second, .val (.int (x2.toInt32)), .val (.long x3), .second, .val (.long x4), .second, .val (.int (((x2.toUInt64 >>> ((32 : Int32) &&& 0x3f).toInt64.toUInt64).toInt64).toInt32)), .val (.long (x0 ^^^ x1)), .second, .val (.int (((x4.toUInt64 >>> ((32 : Int32) &&& 0x3f).toInt64.toUInt64).toInt64).toInt32)), .val (.long (x3 + x1)), .second, .val (.int (((x0.toUInt64 >>> ((32 : Int32) &&& 0x3f).toInt64.toUInt64).toInt64).toInt32)), .val (.ref b1), .val (.ref mb_14), .unset, .unset] [(.ref mb_14)])) rfl (by rw [hml]; rfl) (Steps.refl _) (argsL := []) (rest := []) (lenOf own_pd3 rfl) rfl (by show 2 * 0 + _ ≤ _; exact Nat.le_of_eq rfl) (hb hby at_178) (fun _ _ => ⟨rfl, eh35, (by decide : 2 + 0 ≤ _), (by decide : 20 + 0 ≤ _)⟩)
  dsimp only [Pt.U, Pt.locs, Pt.cells, Pt.slots] at X36 l36 y36 z36 st36 hQ36
  subst l36 y36 z36
  obtain ⟨rfl, N36q, eh36⟩ := hQ36
  have N36 := Fr.app N35 N36q
  refine Goes.tr st36 ?_
  show Goes p e below s _ _ _ T36 (mkF m 181 #[.val (.long x0), .second, .val (.long x1), .second, .val (.long x2), .second, .val (.long x3), .second, .val (.long x4), .second, .val (.long x5), .second, .val (.long x0), .second, .val (.long x1), .second, .val (.int (x2.toInt32)), .val (.long x3), .second, .val (.long x4), .second, .val (.int (((x2.toUInt64 >>> ((32 : Int32) &&& 0x3f).toInt64.toUInt64).toInt64).toInt32)), .val (.long (x0 ^^^ x1)), .second, .val (.int (((x4.toUInt64 >>> ((32 : Int32) &&& 0x3f).toInt64.toUInt64).toInt64).toInt32)), .val (.long (x3 + x1)), .second, .val (.int (((x0.toUInt64 >>> ((32 : Int32) &&& 0x3f).toInt64.toUInt64).toInt64).toInt32)), .val (.ref b1), .val (.ref mb_14), .unset, .unset] [(.long x5)])
  refine own_lload X36 hx 183 rfl (hb hby at_181) rfl ?_
  refine own_lcmp X36 hx 184 rfl (hb hby at_183) ?_
  refine own_ifN X36 hx 187 (hb hby at_184) (Lteq (rfl : x5 = x5)).2 rfl ?_
  refine own_aload X36 hx 189 rfl (hb hby at_187) rfl rfl ?_
  obtain ⟨cq37, kq37, q37a, q37b, q37c⟩ := isOf hZ eh36 f14_1
  obtain ⟨_, _, ⟨T37, L37, k37, n37⟩, -, X37, ⟨Lc37, hQ37, l37, y37, z37⟩, st37⟩ := X36.virtualBack hx (y := (⟨"com/example/tidings/tidings/store/StoredMessage", "bodyLength", "()I"⟩ : MethodName)) (z := (⟨"com/example/tidings/tidings/store/StoredMessage", "bodyLength", "()I"⟩ : MethodName)) hown (mvT hZ (hw _ (List.mem_of_getElem? (i := 86) rfl))) (mvT hZ (hw _ (List.mem_of_getElem? (i := 87) rfl))) (notFace_of_selects (args := #[]) (mvT hZ (hw _ (List.mem_of_getElem? (i := 89) rfl)))) (mvT hZ (hw _ (List.mem_of_getElem? (i := 89) rfl))) (mvT hZ (hw _ (List.mem_of_getElem? (i := 88) rfl))) (by decide) (backOf (W := 0) (rm14 l Z a0 hw [] mb_14 (((x0.toUInt64 >>> ((32 : Int32) &&& 0x3f).toInt64.toUInt64).toInt64).toInt32) T14.heap n0 Z14 f14_11) hZ (hw _ (List.mem_of_getElem? (i := 90) rfl)) (hw _ (List.mem_of_getElem? (i := 2) rfl)) (by decide) (by decide)) q37a q37c (g := (mkF m 189 #[.val (.long x0), .second, .val (.long x1), .second, .val (.long x2), .second, .val (.long x3), .second, .val (.long x4), .second, .val (.long x5), .second, .val (.long x0), .second, .val (.long x1), .second, .val (.int (x2.toInt32)), .val (.long x3), .second, .val (.long x4), .second, .val (.int (((x2.toUInt64 >>> ((32 : Int32) &&& 0x3f).toInt64.toUInt64).toInt64).toInt32)), .val (.long (x0 ^^^ x1)), .second, .val (.int (((x4.toUInt64 >>> ((32 : Int32) &&& 0x3f).toInt64.toUInt64).toInt64).toInt32)), .val (.long (x3 + x1)), .second, .val (.int (((x0.toUInt64 >>> ((32 : Int32) &&& 0x3f).toInt64.toUInt64).toInt64).toInt32)), .val (.ref b1), .val (.ref mb_14), .unset, .unset] [(.ref mb_14)])) rfl (by rw [hml]; rfl) (Steps.refl _) (argsL := []) (rest := []) (lenOf own_pd4 rfl) rfl (by show 2 * 0 + _ ≤ _; exact Nat.le_of_eq rfl) (hb hby at_189) (fun _ _ => ⟨rfl, eh36, (by decide : 2 + 0 ≤ _), (by decide : 20 + 0 ≤ _)⟩)
  dsimp only [Pt.U, Pt.locs, Pt.cells, Pt.slots] at X37 l37 y37 z37 st37 hQ37
  subst l37 y37 z37
  obtain ⟨rfl, N37q, eh37⟩ := hQ37
  have N37 := Fr.app N36 N37q
  refine Goes.tr st37 ?_
  show Goes p e below s _ _ _ T37 (mkF m 192 #[.val (.long x0), .second, .val (.long x1), .second, .val (.long x2), .second, .val (.long x3), .second, .val (.long x4), .second, .val (.long x5), .second, .val (.long x0), .second, .val (.long x1), .second, .val (.int (x2.toInt32)), .val (.long x3), .second, .val (.long x4), .second, .val (.int (((x2.toUInt64 >>> ((32 : Int32) &&& 0x3f).toInt64.toUInt64).toInt64).toInt32)), .val (.long (x0 ^^^ x1)), .second, .val (.int (((x4.toUInt64 >>> ((32 : Int32) &&& 0x3f).toInt64.toUInt64).toInt64).toInt32)), .val (.long (x3 + x1)), .second, .val (.int (((x0.toUInt64 >>> ((32 : Int32) &&& 0x3f).toInt64.toUInt64).toInt64).toInt32)), .val (.ref b1), .val (.ref mb_14), .unset, .unset] [(.int (((x0.toUInt64 >>> ((32 : Int32) &&& 0x3f).toInt64.toUInt64).toInt64).toInt32))])
  refine own_iload X37 hx 194 rfl (hb hby at_192) rfl ?_
  refine own_icmpN X37 hx 197 (hb hby at_194) (teq (rfl : (((x0.toUInt64 >>> ((32 : Int32) &&& 0x3f).toInt64.toUInt64).toInt64).toInt32) = (((x0.toUInt64 >>> ((32 : Int32) &&& 0x3f).toInt64.toUInt64).toInt64).toInt32))).2 rfl ?_
  refine own_iconst X37 hx 198 rfl (1 : Int32) (hb hby at_197) (by decide) ?_
  refine own_goto X37 hx 202 (hb hby at_198) (by decide) (by decide) ?_
  refine own_istore X37 hx 204 rfl #[.val (.long x0), .second, .val (.long x1), .second, .val (.long x2), .second, .val (.long x3), .second, .val (.long x4), .second, .val (.long x5), .second, .val (.long x0), .second, .val (.long x1), .second, .val (.int (x2.toInt32)), .val (.long x3), .second, .val (.long x4), .second, .val (.int (((x2.toUInt64 >>> ((32 : Int32) &&& 0x3f).toInt64.toUInt64).toInt64).toInt32)), .val (.long (x0 ^^^ x1)), .second, .val (.int (((x4.toUInt64 >>> ((32 : Int32) &&& 0x3f).toInt64.toUInt64).toInt64).toInt32)), .val (.long (x3 + x1)), .second, .val (.int (((x0.toUInt64 >>> ((32 : Int32) &&& 0x3f).toInt64.toUInt64).toInt64).toInt32)), .val (.ref b1), .val (.ref mb_14), .val (.int (1 : Int32)), .unset] (hb hby at_202) rfl ?_
  refine own_aload X37 hx 206 rfl (hb hby at_204) rfl rfl ?_
  obtain ⟨cq38, kq38, q38a, q38b, q38c⟩ := isOf hZ eh37 f17
  obtain ⟨_, _, ⟨T38, L38, k38, n38⟩, -, X38, ⟨Lc38, hQ38, l38, y38, z38⟩, st38⟩ := X37.virtualBack hx (y := (⟨"com/example/tidings/tidings/store/StoredMessage", "bodyOffset", "()J"⟩ : MethodName)) (z := (⟨"com/example/tidings/tidings/store/StoredMessage", "bodyOffset", "()J"⟩ : MethodName)) hown (mvT hZ (hw _ (List.mem_of_getElem? (i := 81) rfl))) (mvT hZ (hw _ (List.mem_of_getElem? (i := 82) rfl))) (notFace_of_selects (args := #[]) (mvT hZ (hw _ (List.mem_of_getElem? (i := 84) rfl)))) (mvT hZ (hw _ (List.mem_of_getElem? (i := 84) rfl))) (mvT hZ (hw _ (List.mem_of_getElem? (i := 83) rfl))) (by decide) (backOf (W := 0) (rm13 l Z a0 hw [] b1 (x3 + x1) T14.heap n0 Z14 f26) hZ (hw _ (List.mem_of_getElem? (i := 85) rfl)) (hw _ (List.mem_of_getElem? (i := 2) rfl)) (by decide) (by decide)) q38a q38c (g := (mkF m 206 #[.val (.long x0), .second, .val (.long x1), .second, .val (.long x2), .second, .val (.long x3), .second, .val (.long x4), .second, .val (.long x5), .second, .val (.long x0), .second, .val (.long x1), .second, .val (.int (x2.toInt32)), .val (.long x3), .second, .val (.long x4), .second, .val (.int (((x2.toUInt64 >>> ((32 : Int32) &&& 0x3f).toInt64.toUInt64).toInt64).toInt32)), .val (.long (x0 ^^^ x1)), .second, .val (.int (((x4.toUInt64 >>> ((32 : Int32) &&& 0x3f).toInt64.toUInt64).toInt64).toInt32)), .val (.long (x3 + x1)), .second, .val (.int (((x0.toUInt64 >>> ((32 : Int32) &&& 0x3f).toInt64.toUInt64).toInt64).toInt32)), .val (.ref b1), .val (.ref mb_14), .val (.int (1 : Int32)), .unset] [(.ref b1)])) rfl (by rw [hml]; rfl) (Steps.refl _) (argsL := []) (rest := []) (lenOf own_pd3 rfl) rfl (by show 2 * 0 + _ ≤ _; exact Nat.le_of_eq rfl) (hb hby at_206) (fun _ _ => ⟨rfl, eh37, (by decide : 2 + 0 ≤ _), (by decide : 20 + 0 ≤ _)⟩)
  dsimp only [Pt.U, Pt.locs, Pt.cells, Pt.slots] at X38 l38 y38 z38 st38 hQ38
  subst l38 y38 z38
  obtain ⟨rfl, N38q, eh38⟩ := hQ38
  have N38 := Fr.app N37 N38q
  refine Goes.tr st38 ?_
  show Goes p e below s _ _ _ T38 (mkF m 209 #[.val (.long x0), .second, .val (.long x1), .second, .val (.long x2), .second, .val (.long x3), .second, .val (.long x4), .second, .val (.long x5), .second, .val (.long x0), .second, .val (.long x1), .second, .val (.int (x2.toInt32)), .val (.long x3), .second, .val (.long x4), .second, .val (.int (((x2.toUInt64 >>> ((32 : Int32) &&& 0x3f).toInt64.toUInt64).toInt64).toInt32)), .val (.long (x0 ^^^ x1)), .second, .val (.int (((x4.toUInt64 >>> ((32 : Int32) &&& 0x3f).toInt64.toUInt64).toInt64).toInt32)), .val (.long (x3 + x1)), .second, .val (.int (((x0.toUInt64 >>> ((32 : Int32) &&& 0x3f).toInt64.toUInt64).toInt64).toInt32)), .val (.ref b1), .val (.ref mb_14), .val (.int (1 : Int32)), .unset] [(.long (x3 + x1))])
  refine own_lload X38 hx 211 rfl (hb hby at_209) rfl ?_
  refine own_lcmp X38 hx 212 rfl (hb hby at_211) ?_
  refine own_ifN X38 hx 215 (hb hby at_212) (Lteq (rfl : (x3 + x1) = (x3 + x1))).2 rfl ?_
  refine own_aload X38 hx 217 rfl (hb hby at_215) rfl rfl ?_
  obtain ⟨cq39, kq39, q39a, q39b, q39c⟩ := isOf hZ eh38 f17
  obtain ⟨_, _, ⟨T39, L39, k39, n39⟩, -, X39, ⟨Lc39, hQ39, l39, y39, z39⟩, st39⟩ := X38.virtualBack hx (y := (⟨"com/example/tidings/tidings/store/StoredMessage", "sequence", "()J"⟩ : MethodName)) (z := (⟨"com/example/tidings/tidings/store/StoredMessage", "sequence", "()J"⟩ : MethodName)) hown (mvT hZ (hw _ (List.mem_of_getElem? (i := 41) rfl))) (mvT hZ (hw _ (List.mem_of_getElem? (i := 42) rfl))) (notFace_of_selects (args := #[]) (mvT hZ (hw _ (List.mem_of_getElem? (i := 44) rfl)))) (mvT hZ (hw _ (List.mem_of_getElem? (i := 44) rfl))) (mvT hZ (hw _ (List.mem_of_getElem? (i := 43) rfl))) (by decide) (backOf (W := 0) (rm5 l Z a0 hw [] b1 x0 T14.heap n0 Z14 f18) hZ (hw _ (List.mem_of_getElem? (i := 45) rfl)) (hw _ (List.mem_of_getElem? (i := 2) rfl)) (by decide) (by decide)) q39a q39c (g := (mkF m 217 #[.val (.long x0), .second, .val (.long x1), .second, .val (.long x2), .second, .val (.long x3), .second, .val (.long x4), .second, .val (.long x5), .second, .val (.long x0), .second, .val (.long x1), .second, .val (.int (x2.toInt32)), .val (.long x3), .second, .val (.long x4), .second, .val (.int (((x2.toUInt64 >>> ((32 : Int32) &&& 0x3f).toInt64.toUInt64).toInt64).toInt32)), .val (.long (x0 ^^^ x1)), .second, .val (.int (((x4.toUInt64 >>> ((32 : Int32) &&& 0x3f).toInt64.toUInt64).toInt64).toInt32)), .val (.long (x3 + x1)), .second, .val (.int (((x0.toUInt64 >>> ((32 : Int32) &&& 0x3f).toInt64.toUInt64).toInt64).toInt32)), .val (.ref b1), .val (.ref mb_14), .val (.int (1 : Int32)), .unset] [(.ref b1)])) rfl (by rw [hml]; rfl) (Steps.refl _) (argsL := []) (rest := []) (lenOf own_pd3 rfl) rfl (by show 2 * 0 + _ ≤ _; exact Nat.le_of_eq rfl) (hb hby at_217) (fun _ _ => ⟨rfl, eh38, (by decide : 2 + 0 ≤ _), (by decide : 20 + 0 ≤ _)⟩)
  dsimp only [Pt.U, Pt.locs, Pt.cells, Pt.slots] at X39 l39 y39 z39 st39 hQ39
  subst l39 y39 z39
  obtain ⟨rfl, N39q, eh39⟩ := hQ39
  have N39 := Fr.app N38 N39q
  refine Goes.tr st39 ?_
  show Goes p e below s _ _ _ T39 (mkF m 220 #[.val (.long x0), .second, .val (.long x1), .second, .val (.long x2), .second, .val (.long x3), .second, .val (.long x4), .second, .val (.long x5), .second, .val (.long x0), .second, .val (.long x1), .second, .val (.int (x2.toInt32)), .val (.long x3), .second, .val (.long x4), .second, .val (.int (((x2.toUInt64 >>> ((32 : Int32) &&& 0x3f).toInt64.toUInt64).toInt64).toInt32)), .val (.long (x0 ^^^ x1)), .second, .val (.int (((x4.toUInt64 >>> ((32 : Int32) &&& 0x3f).toInt64.toUInt64).toInt64).toInt32)), .val (.long (x3 + x1)), .second, .val (.int (((x0.toUInt64 >>> ((32 : Int32) &&& 0x3f).toInt64.toUInt64).toInt64).toInt32)), .val (.ref b1), .val (.ref mb_14), .val (.int (1 : Int32)), .unset] [(.long x0)])
  refine own_lload X39 hx 222 rfl (hb hby at_220) rfl ?_
  refine own_lcmp X39 hx 223 rfl (hb hby at_222) ?_
  refine own_ifN X39 hx 226 (hb hby at_223) (Lteq (rfl : x0 = x0)).2 rfl ?_
  refine own_iconst X39 hx 227 rfl (1 : Int32) (hb hby at_226) (by decide) ?_
  refine own_goto X39 hx 231 (hb hby at_227) (by decide) (by decide) ?_
  refine own_istore X39 hx 233 rfl #[.val (.long x0), .second, .val (.long x1), .second, .val (.long x2), .second, .val (.long x3), .second, .val (.long x4), .second, .val (.long x5), .second, .val (.long x0), .second, .val (.long x1), .second, .val (.int (x2.toInt32)), .val (.long x3), .second, .val (.long x4), .second, .val (.int (((x2.toUInt64 >>> ((32 : Int32) &&& 0x3f).toInt64.toUInt64).toInt64).toInt32)), .val (.long (x0 ^^^ x1)), .second, .val (.int (((x4.toUInt64 >>> ((32 : Int32) &&& 0x3f).toInt64.toUInt64).toInt64).toInt32)), .val (.long (x3 + x1)), .second, .val (.int (((x0.toUInt64 >>> ((32 : Int32) &&& 0x3f).toInt64.toUInt64).toInt64).toInt32)), .val (.ref b1), .val (.ref mb_14), .val (.int (1 : Int32)), .val (.int (1 : Int32))] (hb hby at_231) rfl ?_
  refine own_iload X39 hx 235 rfl (hb hby at_233) rfl ?_
  refine own_ifN X39 hx 238 (hb hby at_235) ((if0 _ _).trans (feq ((by decide) : ¬ ((1 : Int32) = (0 : Int32)))).1) rfl ?_
  refine own_iload X39 hx 240 rfl (hb hby at_238) rfl ?_
  refine own_ifN X39 hx 243 (hb hby at_240) ((if0 _ _).trans (feq ((by decide) : ¬ ((1 : Int32) = (0 : Int32)))).1) rfl ?_
  refine own_iconst X39 hx 244 rfl (1 : Int32) (hb hby at_243) (by decide) ?_
  refine own_goto X39 hx 248 (hb hby at_244) (by decide) (by decide) ?_
  refine own_retZ X39 hx hlk Bd.returns (by decide) (hb hby at_248) (by decide) (by decide) eh39 ?_
  exact ⟨rfl, N39⟩
set_option maxRecDepth 65536 in
set_option maxHeartbeats 40000000 in
theorem comes_1 {Post : Tables → Env → Array Value → State → Outcome → State → Prop} (hpost : ∀ tb e args s v u, (limb_1_1.after args s (.returned v) u = true ∧ limb_1_2.after args s (.returned v) u = true ∧ True) → FrameEnd s (.returned v) u (Jvm.fieldLocs frame_1_writes args s ++ Jvm.arrayLocs frame_1_arrays args s ++ Jvm.staticLocs frame_1_statics s) 16 128 → Post tb e args s (.returned v) u) :
    ArmFor flags0 classFile x code maxLocals ret World_1 tables_1 room_1 Calls_1 rest_1 Pre_1 Post := by
  intro l hfl _ _ p e ha hc hk s m args below hf hA hF happ hP
  obtain ⟨hcalls, hrest, hpre⟩ := hP
  obtain ⟨-, -, -, hnamed, -, -, -, hat⟩ := (Spec.applies_iff hf).mp happ
  obtain ⟨hg, hn⟩ := and_e (Cond.before_iff.mp (show (Jvm.Cond.and given_1 narrow_1).before args s = true from hpre))
  obtain ⟨gg1, gg2⟩ := and_e hg
  obtain ⟨gg3, gg4⟩ := and_e gg2
  obtain ⟨gg5, gg6⟩ := and_e gg4
  obtain ⟨gg7, gg8⟩ := and_e gg6
  obtain ⟨gg9, gg10⟩ := and_e gg8
  obtain ⟨gg11, gg12⟩ := and_e gg10
  obtain ⟨w0, w1, w2, w3, w4, w5, rfl⟩ : ∃ w0 w1 w2 w3 w4 w5 : Value, args = #[w0, w1, w2, w3, w4, w5] := by
    have hs : args.size = 6 := by simpa [Cond.value, given_1] using gg1
    obtain ⟨L⟩ := args
    match L, hs with
    | [w0, w1, w2, w3, w4, w5], _ => exact ⟨w0, w1, w2, w3, w4, w5, rfl⟩
  have hw := fun d (hd : d ∈ tables_1) => atoms_spec (ws := Jvm.Cond.code x code maxLocals ret :: tables_1) hat d (List.mem_cons_of_mem _ hd)
  have hfit : Fit s := fun {y c} hc i hi => by
    obtain ⟨ha, rfl⟩ := Array.getElem?_eq_some_iff.mp hc
    have q := List.all_eq_true.mp ((Array.all_eq_true_iff_forall_mem.mp hF) _ (Array.getElem_mem ha)) i (List.mem_range.mpr hi)
    simpa [Array.getElem?_eq_getElem hi] using q
  obtain ⟨i0, ei0⟩ := isL_v gg3
  obtain rfl : w0 = (.long i0) := Option.some.inj ei0
  obtain ⟨i1, ei1⟩ := isL_v gg5
  obtain rfl : w1 = (.long i1) := Option.some.inj ei1
  obtain ⟨i2, ei2⟩ := isL_v gg7
  obtain rfl : w2 = (.long i2) := Option.some.inj ei2
  obtain ⟨i3, ei3⟩ := isL_v gg9
  obtain rfl : w3 = (.long i3) := Option.some.inj ei3
  obtain ⟨i4, ei4⟩ := isL_v gg11
  obtain rfl : w4 = (.long i4) := Option.some.inj ei4
  obtain ⟨i5, ei5⟩ := isL_v gg12
  obtain rfl : w5 = (.long i5) := Option.some.inj ei5
  obtain ⟨n, o, h1, h2, h3, _, L, rfl, ⟨rfl, N⟩, hq⟩ := rm0 l s _ hw tables_1 i0 i1 i2 i3 i4 i5  s.heap s.heap.size (Nat.le_refl _)  p e ha hc hk s m _ below hf ((Spec.applies_iff_loose hf).mp happ).1 ⟨rfl, State.Warmed39.refl s, rfl⟩ trivial
  refine ⟨n, _, h1, h2, h3, hpost _ _ _ _ _ _ ⟨Cond.after_iff.mpr rfl, Cond.after_iff.mpr (eq_i res_at (Term.int_eval (1)) rfl), trivial⟩ ⟨hq.1, hq.2.1, (hq.2.2.sift fun y hy => Or.inr (N y hy)).mono (by decide) (by decide)⟩⟩
theorem main_1_1 : Claimed_1_1 := comes_1 fun _ _ _ _ _ _ h hF => ⟨h.1, hF⟩
theorem main_1_2 : Claimed_1_2 := comes_1 fun _ _ _ _ _ _ h hF => ⟨h.2.1, hF⟩
end Jvm.Pilot.@@N@@
namespace Jvm.Pilot.@@N@@
open Jvm Jvm.ClassFile Sem Op Lib Jvm.Free Jvm.Stand Jvm.Pilot.@@N@@.Jvm.D
/-! MADE BY PROGRAM (witnessworld.py) out of the Statement's table words and the real class files: 10 classes; the members and pool entries that the words name. The judged class is class 1, her method 1. -/
namespace start1
open Jvm.ClassFile
def u (s : String) : CpInfo := .utf8 (stringToUtf16 s)
/-- a pool by its gaps: so many unusable entries, then the entry; so many at the end -/
def gap : Nat → List CpInfo → List CpInfo
  | 0, r => r
  | n + 1, r => .unusable :: gap n r
def poolList (es : List (Nat × CpInfo)) (last : Nat) : List CpInfo := es.foldr (fun e r => gap e.1 (e.2 :: r)) (gap last [])
def pool (es : List (Nat × CpInfo)) (last : Nat) : Array CpInfo := ⟨poolList es last⟩
def fileOf (pool : Array CpInfo) (this : Nat) (attrs : Array Attribute := #[]) (ms : Array MethodInfo := #[]) (fl : Nat := 33) (sup : Nat := 0) (ifs : Array Nat := #[]) (fds : Array FieldInfo := #[]) : ClassFile where
  minorVersion := 0
  majorVersion := 65
  constantPool := pool
  accessFlags := fl
  thisClass := this
  superClass := sup
  interfaces := ifs
  fields := fds
  methods := ms
  attributes := attrs
def plain (name : String) (sup : Option ClassId) : Class where
  name := name
  kind := .ordinary
  loader := none
  accessFlags := 33
  super := sup
  interfaces := #[]
  cf := none
  fields := #[]
  methods := #[]
  instanceTypes := #[]
  staticTypes := #[]
  resolved := #[]
  callSites := []
  init := .initialized
  statics := none
  mirror := none

def pool0 : Array CpInfo := pool [(5, u "<init>"), (0, u "()V"), (1, .class_ 10), (1, u "java/lang/Object")] 113

def k0c0 : Code := { maxStack := 0, maxLocals := 1, code := object_method_1_code, exceptionTable := #[], attributes := #[] }
def k0m0 : Method := { name := "<init>", desc := "()V", sig := { parameters := [], returnType := none }, accessFlags := 1, code := some k0c0 }
/-- java/lang/Object -/
def k0 : Class := { plain "java/lang/Object" none with
  accessFlags := 33
  interfaces := #[]
  cf := some (fileOf pool0 8 #[] #[{ accessFlags := 1, nameIndex := 5, descriptorIndex := 6, attributes := #[] }] 33 0 #[] #[])
  fields := #[]
  methods := #[k0m0]
  instanceTypes := #[]
  staticTypes := #[]
  resolved := Array.replicate 124 none
  statics := none }

def pool1 : Array CpInfo := pool [(2, .class_ 4), (1, u "java/lang/Object"), (0, u "<init>"), (0, u "()V"), (0, .class_ 8), (0, u "com/example/tidings/tidings/store/StoredMessage"), (0, .methodref 7 10), (0, .nameAndType 5 11), (0, u "(JJIJJIJIJI)V"), (0, .methodref 7 13), (0, .nameAndType 14 15), (0, u "movedTo"), (0, u "(J)Lcom/example/tidings/tidings/store/StoredMessage;"), (0, .methodref 7 17), (0, .nameAndType 18 19), (0, u "sequence"), (0, u "()J"), (0, .methodref 7 21), (0, .nameAndType 22 19), (0, u "enqueueTime"), (0, .methodref 7 24), (0, .nameAndType 25 26), (0, u "priority"), (0, u "()I"), (0, .methodref 7 28), (0, .nameAndType 29 19), (0, u "expiryTime"), (0, .methodref 7 31), (0, .nameAndType 32 19), (0, u "nextVisibleTime"), (0, .methodref 7 34), (0, .nameAndType 35 26), (0, u "dequeueCount"), (0, .methodref 7 37), (0, .nameAndType 38 19), (0, u "firstDequeueTime"), (0, .methodref 7 40), (0, .nameAndType 41 26), (0, u "receipts"), (0, .methodref 7 43), (0, .nameAndType 44 19), (0, u "bodyOffset"), (0, .methodref 7 46), (0, .nameAndType 47 26), (0, u "bodyLength"), (0, .class_ 49), (0, u "com/example/tidings/tidings/store/StoredMessageMovedToPinLaw"), (2, u "law"), (0, u "(JJJJJJ)Z")] 3

def k1m0 : Method := { name := "<init>", desc := "()V", sig := { parameters := [], returnType := none }, accessFlags := 1, code := none }
def k1c1 : Code := { maxStack := 18, maxLocals := 32, code := code, exceptionTable := #[], attributes := #[] }
def k1m1 : Method := { name := "law", desc := "(JJJJJJ)Z", sig := { parameters := [.long, .long, .long, .long, .long, .long], returnType := some .boolean }, accessFlags := 9, code := some k1c1 }
/-- com/example/tidings/tidings/store/StoredMessageMovedToPinLaw -/
def k1 : Class := { plain "com/example/tidings/tidings/store/StoredMessageMovedToPinLaw" (some 0) with
  accessFlags := 49
  interfaces := #[]
  cf := some (fileOf pool1 48 #[] #[{ accessFlags := 1, nameIndex := 5, descriptorIndex := 6, attributes := #[] }, { accessFlags := 9, nameIndex := 52, descriptorIndex := 53, attributes := #[] }] 49 2 #[] #[])
  fields := #[]
  methods := #[k1m0, k1m1]
  instanceTypes := #[]
  staticTypes := #[]
  resolved := Array.replicate 57 none
  statics := none }

def pool2 : Array CpInfo := pool [(1, .methodref 2 3), (0, .class_ 4), (0, .nameAndType 5 6), (0, u "java/lang/Object"), (0, u "<init>"), (0, u "()V"), (0, .class_ 8), (0, u "java/lang/Record")] 13

def k2c0 : Code := { maxStack := 1, maxLocals := 1, code := jdk_30_method_1_code, exceptionTable := #[], attributes := #[] }
def k2m0 : Method := { name := "<init>", desc := "()V", sig := { parameters := [], returnType := none }, accessFlags := 4, code := some k2c0 }
/-- java/lang/Record -/
def k2 : Class := { plain "java/lang/Record" (some 0) with
  accessFlags := 1057
  interfaces := #[]
  cf := some (fileOf pool2 7 #[] #[{ accessFlags := 4, nameIndex := 5, descriptorIndex := 6, attributes := #[] }] 1057 2 #[] #[])
  fields := #[]
  methods := #[k2m0]
  instanceTypes := #[]
  staticTypes := #[]
  resolved := Array.replicate 22 none
  statics := none }

def pool3 : Array CpInfo := pool [(1, .methodref 2 3), (0, .class_ 4), (0, .nameAndType 5 6), (0, u "java/lang/Record"), (0, u "<init>"), (0, u "()V"), (0, .fieldref 8 9), (0, .class_ 10), (0, .nameAndType 11 12), (0, u "com/example/tidings/tidings/store/StoredMessage"), (0, u "sequence"), (0, u "J"), (0, .fieldref 8 14), (0, .nameAndType 15 12), (0, u "enqueueTime"), (0, .fieldref 8 17), (0, .nameAndType 18 19), (0, u "priority"), (0, u "I"), (0, .fieldref 8 21), (0, .nameAndType 22 12), (0, u "expiryTime"), (0, .fieldref 8 24), (0, .nameAndType 25 12), (0, u "nextVisibleTime"), (0, .fieldref 8 27), (0, .nameAndType 28 19), (0, u "dequeueCount"), (0, .fieldref 8 30), (0, .nameAndType 31 12), (0, u "firstDequeueTime"), (0, .fieldref 8 33), (0, .nameAndType 34 19), (0, u "receipts"), (0, .fieldref 8 36), (0, .nameAndType 37 12), (0, u "bodyOffset"), (0, .fieldref 8 39), (0, .nameAndType 40 19), (0, u "bodyLength"), (0, .methodref 8 42), (0, .nameAndType 5 43), (0, u "(JJIJJIJIJI)V"), (17, u "movedTo"), (0, u "(J)Lcom/example/tidings/tidings/store/StoredMessage;"), (1, u "()I"), (1, u "()J")] 29

def k3c0 : Code := { maxStack := 3, maxLocals := 17, code := prog_111_method_1_code, exceptionTable := #[], attributes := #[] }
def k3m0 : Method := { name := "<init>", desc := "(JJIJJIJIJI)V", sig := { parameters := [.long, .long, .int, .long, .long, .int, .long, .int, .long, .int], returnType := none }, accessFlags := 1, code := some k3c0 }
def k3c1 : Code := { maxStack := 18, maxLocals := 3, code := prog_111_method_3_code, exceptionTable := #[], attributes := #[] }
def k3m1 : Method := { name := "movedTo", desc := "(J)Lcom/example/tidings/tidings/store/StoredMessage;", sig := { parameters := [.long], returnType := some (.object "com/example/tidings/tidings/store/StoredMessage") }, accessFlags := 0, code := some k3c1 }
def k3c2 : Code := { maxStack := 2, maxLocals := 1, code := prog_111_method_7_code, exceptionTable := #[], attributes := #[] }
def k3m2 : Method := { name := "sequence", desc := "()J", sig := { parameters := [], returnType := some .long }, accessFlags := 1, code := some k3c2 }
def k3c3 : Code := { maxStack := 2, maxLocals := 1, code := prog_111_method_8_code, exceptionTable := #[], attributes := #[] }
def k3m3 : Method := { name := "enqueueTime", desc := "()J", sig := { parameters := [], returnType := some .long }, accessFlags := 1, code := some k3c3 }
def k3c4 : Code := { maxStack := 1, maxLocals := 1, code := prog_111_method_9_code, exceptionTable := #[], attributes := #[] }
def k3m4 : Method := { name := "priority", desc := "()I", sig := { parameters := [], returnType := some .int }, accessFlags := 1, code := some k3c4 }
def k3c5 : Code := { maxStack := 2, maxLocals := 1, code := prog_111_method_10_code, exceptionTable := #[], attributes := #[] }
def k3m5 : Method := { name := "expiryTime", desc := "()J", sig := { parameters := [], returnType := some .long }, accessFlags := 1, code := some k3c5 }
def k3c6 : Code := { maxStack := 2, maxLocals := 1, code := prog_111_method_11_code, exceptionTable := #[], attributes := #[] }
def k3m6 : Method := { name := "nextVisibleTime", desc := "()J", sig := { parameters := [], returnType := some .long }, accessFlags := 1, code := some k3c6 }
def k3c7 : Code := { maxStack := 1, maxLocals := 1, code := prog_111_method_12_code, exceptionTable := #[], attributes := #[] }
def k3m7 : Method := { name := "dequeueCount", desc := "()I", sig := { parameters := [], returnType := some .int }, accessFlags := 1, code := some k3c7 }
def k3c8 : Code := { maxStack := 2, maxLocals := 1, code := prog_111_method_13_code, exceptionTable := #[], attributes := #[] }
def k3m8 : Method := { name := "firstDequeueTime", desc := "()J", sig := { parameters := [], returnType := some .long }, accessFlags := 1, code := some k3c8 }
def k3c9 : Code := { maxStack := 1, maxLocals := 1, code := prog_111_method_14_code, exceptionTable := #[], attributes := #[] }
def k3m9 : Method := { name := "receipts", desc := "()I", sig := { parameters := [], returnType := some .int }, accessFlags := 1, code := some k3c9 }
def k3c10 : Code := { maxStack := 2, maxLocals := 1, code := prog_111_method_15_code, exceptionTable := #[], attributes := #[] }
def k3m10 : Method := { name := "bodyOffset", desc := "()J", sig := { parameters := [], returnType := some .long }, accessFlags := 1, code := some k3c10 }
def k3c11 : Code := { maxStack := 1, maxLocals := 1, code := prog_111_method_16_code, exceptionTable := #[], attributes := #[] }
def k3m11 : Method := { name := "bodyLength", desc := "()I", sig := { parameters := [], returnType := some .int }, accessFlags := 1, code := some k3c11 }
/-- com/example/tidings/tidings/store/StoredMessage -/
def k3 : Class := { plain "com/example/tidings/tidings/store/StoredMessage" (some 2) with
  accessFlags := 49
  interfaces := #[]
  cf := some (fileOf pool3 8 #[] #[{ accessFlags := 1, nameIndex := 5, descriptorIndex := 43, attributes := #[] }, { accessFlags := 0, nameIndex := 61, descriptorIndex := 62, attributes := #[] }, { accessFlags := 1, nameIndex := 11, descriptorIndex := 66, attributes := #[] }, { accessFlags := 1, nameIndex := 15, descriptorIndex := 66, attributes := #[] }, { accessFlags := 1, nameIndex := 18, descriptorIndex := 64, attributes := #[] }, { accessFlags := 1, nameIndex := 22, descriptorIndex := 66, attributes := #[] }, { accessFlags := 1, nameIndex := 25, descriptorIndex := 66, attributes := #[] }, { accessFlags := 1, nameIndex := 28, descriptorIndex := 64, attributes := #[] }, { accessFlags := 1, nameIndex := 31, descriptorIndex := 66, attributes := #[] }, { accessFlags := 1, nameIndex := 34, descriptorIndex := 64, attributes := #[] }, { accessFlags := 1, nameIndex := 37, descriptorIndex := 66, attributes := #[] }, { accessFlags := 1, nameIndex := 40, descriptorIndex := 64, attributes := #[] }] 49 2 #[] #[{ accessFlags := 18, nameIndex := 11, descriptorIndex := 12, attributes := #[] }, { accessFlags := 18, nameIndex := 15, descriptorIndex := 12, attributes := #[] }, { accessFlags := 18, nameIndex := 18, descriptorIndex := 19, attributes := #[] }, { accessFlags := 18, nameIndex := 22, descriptorIndex := 12, attributes := #[] }, { accessFlags := 18, nameIndex := 25, descriptorIndex := 12, attributes := #[] }, { accessFlags := 18, nameIndex := 28, descriptorIndex := 19, attributes := #[] }, { accessFlags := 18, nameIndex := 31, descriptorIndex := 12, attributes := #[] }, { accessFlags := 18, nameIndex := 34, descriptorIndex := 19, attributes := #[] }, { accessFlags := 18, nameIndex := 37, descriptorIndex := 12, attributes := #[] }, { accessFlags := 18, nameIndex := 40, descriptorIndex := 19, attributes := #[] }])
  fields := #[{ name := "sequence", type := .long, accessFlags := 18, slot := 0, constantValue := 0 }, { name := "enqueueTime", type := .long, accessFlags := 18, slot := 1, constantValue := 0 }, { name := "priority", type := .int, accessFlags := 18, slot := 2, constantValue := 0 }, { name := "expiryTime", type := .long, accessFlags := 18, slot := 3, constantValue := 0 }, { name := "nextVisibleTime", type := .long, accessFlags := 18, slot := 4, constantValue := 0 }, { name := "dequeueCount", type := .int, accessFlags := 18, slot := 5, constantValue := 0 }, { name := "firstDequeueTime", type := .long, accessFlags := 18, slot := 6, constantValue := 0 }, { name := "receipts", type := .int, accessFlags := 18, slot := 7, constantValue := 0 }, { name := "bodyOffset", type := .long, accessFlags := 18, slot := 8, constantValue := 0 }, { name := "bodyLength", type := .int, accessFlags := 18, slot := 9, constantValue := 0 }]
  methods := #[k3m0, k3m1, k3m2, k3m3, k3m4, k3m5, k3m6, k3m7, k3m8, k3m9, k3m10, k3m11]
  instanceTypes := #[.long, .long, .int, .long, .long, .int, .long, .int, .long, .int]
  staticTypes := #[]
  resolved := Array.replicate 96 none
  statics := none }

def pool4 : Array CpInfo := pool [(1, u "java/lang/Cloneable"), (0, .class_ 1), (0, u "java/lang/Object"), (0, .class_ 3)] 3

/-- java/lang/Cloneable -/
def k4 : Class := { plain "java/lang/Cloneable" (some 0) with
  accessFlags := 1537
  interfaces := #[]
  cf := some (fileOf pool4 2 #[] #[] 1537 4 #[] #[])
  fields := #[]
  methods := #[]
  instanceTypes := #[]
  staticTypes := #[]
  resolved := Array.replicate 8 none
  statics := none }

def pool5 : Array CpInfo := pool [(1, u "java/io/Serializable"), (0, .class_ 1), (0, u "java/lang/Object"), (0, .class_ 3)] 3

/-- java/io/Serializable -/
def k5 : Class := { plain "java/io/Serializable" (some 0) with
  accessFlags := 1537
  interfaces := #[]
  cf := some (fileOf pool5 2 #[] #[] 1537 4 #[] #[])
  fields := #[]
  methods := #[]
  instanceTypes := #[]
  staticTypes := #[]
  resolved := Array.replicate 8 none
  statics := none }

/-- the primitive byte -/
def k6 : Class := { plain "byte" none with kind := .primitive 'B', accessFlags := 0x411 }
/-- [B -/
def k7 : Class := { plain "[B" (some 0) with kind := .array 6 .byte, interfaces := #[4, 5], accessFlags := 1041 }

/-- the primitive int -/
def k8 : Class := { plain "int" none with kind := .primitive 'I', accessFlags := 0x411 }
/-- [I -/
def k9 : Class := { plain "[I" (some 0) with kind := .array 8 .int, interfaces := #[4, 5], accessFlags := 1041 }

def heap : Heap := #[]
def classes : Array Class := #[k0, k1, k2, k3, k4, k5, k6, k7, k8, k9]
def interned : List (Array UInt16 × Addr) := []
def slotsUsed : Nat := 0
def theMethod : MethodId := ⟨1, 1⟩
def args0 : Array Value := #[.long 0, .long 1, .long 2, .long 3, .long 4, .long 5]
def aboutOver (below : List Frame) : State where
  vm := { classes := classes, interned := interned.toArray }
  heap := heap
  slotsUsed := slotsUsed
  threads := #[{ frames := .invoking theMethod args0 :: below }]
def below0 : List Frame := [.native { method := ⟨0, 0⟩, args := #[] }]
def about1 : State := aboutOver below0
def p0 : Program := .bare "" "" ""
def e0 : Env := launch0.env 0 0 0
theorem w_frames : about1.frames = Frame.invoking theMethod args0 :: below0 := rfl
set_option maxRecDepth 65536 in
theorem w_args : argsFit about1.vm theMethod args0 = true := by decide +kernel
set_option maxRecDepth 65536 in
theorem w_heap : heapFits about1 = true := by decide +kernel
set_option maxRecDepth 65536 in
theorem w_runnable : about1.curStatus? = some .runnable := by decide +kernel
set_option maxRecDepth 65536 in
theorem w_alone : about1.alone = true := by decide +kernel
set_option maxRecDepth 65536 in
theorem w_named : about1.methodNamed? x = some theMethod := by decide +kernel
set_option maxRecDepth 65536 in
theorem w_hears : about1.hears theMethod below0 = true := by decide +kernel
set_option maxRecDepth 65536 in
theorem w_ripe : about1.ripe theMethod args0 below0 = true := by decide +kernel
theorem w_running : about1.status = .running := rfl
set_option maxRecDepth 65536 in
theorem w_room : about1.hasRoom e0.platform room_1 = true :=
  launch0.hasRoom_least _ room_1 (by decide +kernel) (by decide +kernel) (by decide +kernel) (by decide +kernel) (by decide +kernel) (by decide +kernel)
theorem allAtoms_all (ts : List Jvm.Cond) (a : Array Jvm.Value) (st : Jvm.State) : (allAtoms ts).before a st = ts.all (fun c => c.before a st) := by
  induction ts with
  | nil => rfl
  | cons c t ih =>
    show (Jvm.Cond.and c (allAtoms t)).before a st = _
    rw [Jvm.Cond.before_and, ih, List.all_cons]
def words1 : List Jvm.Cond := Jvm.Cond.code x code maxLocals ret :: tables_1
/-- a 'code' word, met by the world's own term for the bytes: nothing is compared byte by byte -/
theorem code_word {y : MethodName} {bytes : ByteArray} {mx : Nat} {rt : Option FieldType} {a : Array Value} {s : State} {m : MethodId} {meth : Method} {c : Code} (h1 : s.methodNamed? y = some m) (h2 : s.vm.method? m = some meth) (h3 : meth.code = some c) (h4 : c.code = bytes)
    (h5 : (c.maxLocals == mx && c.exceptionTable.isEmpty && decide (c.maxStack ≤ mostOperands) && decide (meth.sig.returnType = rt) && !meth.locks && decide (parseMethodDescriptor y.desc = some meth.sig)) = true) : (Jvm.Cond.code y bytes mx rt).before a s = true := by
  simp only [Bool.and_eq_true, beq_iff_eq, Bool.not_eq_true', decide_eq_true_eq] at h5
  obtain ⟨⟨⟨⟨⟨g1, g2⟩, g3⟩, g4⟩, g5⟩, g6⟩ := h5
  simp [Cond.before, Cond.holds, Cond.value, h1, h2, h3, h4, g1, g2, g3, g4, g5, g6]
def isCode : Jvm.Cond → Bool
  | .code _ _ _ _ => true
  | _ => false
theorem all_split {L : List Jvm.Cond} {P : Jvm.Cond → Bool} (h1 : L.all (fun c => isCode c || P c) = true) (h2 : ∀ c ∈ L.filter isCode, P c = true) : L.all P = true := by
  refine List.all_eq_true.mpr fun c hc => ?_
  have h := List.all_eq_true.mp h1 c hc
  rcases Bool.eq_false_or_eq_true (isCode c) with hi | hi
  · exact h2 c (List.mem_filter.mpr ⟨hc, hi⟩)
  · simpa [hi] using h
set_option maxRecDepth 65536 in
theorem w_c0 : (Jvm.Cond.code x code maxLocals ret).before args0 about1 = true := code_word (m := ⟨1, 1⟩) (meth := k1m1) (c := k1c1) (by decide +kernel) rfl rfl rfl (by decide +kernel)
set_option maxRecDepth 65536 in
theorem w_c1 : (Jvm.Cond.code ({ cls := "com/example/tidings/tidings/store/StoredMessage", name := "<init>", desc := "(JJIJJIJIJI)V" } : Jvm.MethodName) prog_111_method_1_code (17 : Nat) (Option.none : Option Jvm.ClassFile.FieldType)).before args0 about1 = true := code_word (m := ⟨3, 0⟩) (meth := k3m0) (c := k3c0) (by decide +kernel) rfl rfl rfl (by decide +kernel)
set_option maxRecDepth 65536 in
theorem w_c2 : (Jvm.Cond.code ({ cls := "java/lang/Record", name := "<init>", desc := "()V" } : Jvm.MethodName) jdk_30_method_1_code (1 : Nat) (Option.none : Option Jvm.ClassFile.FieldType)).before args0 about1 = true := code_word (m := ⟨2, 0⟩) (meth := k2m0) (c := k2c0) (by decide +kernel) rfl rfl rfl (by decide +kernel)
set_option maxRecDepth 65536 in
theorem w_c3 : (Jvm.Cond.code ({ cls := "java/lang/Object", name := "<init>", desc := "()V" } : Jvm.MethodName) object_method_1_code (1 : Nat) (Option.none : Option Jvm.ClassFile.FieldType)).before args0 about1 = true := code_word (m := ⟨0, 0⟩) (meth := k0m0) (c := k0c0) (by decide +kernel) rfl rfl rfl (by decide +kernel)
set_option maxRecDepth 65536 in
theorem w_c4 : (Jvm.Cond.code ({ cls := "com/example/tidings/tidings/store/StoredMessage", name := "movedTo", desc := "(J)Lcom/example/tidings/tidings/store/StoredMessage;" } : Jvm.MethodName) prog_111_method_3_code (3 : Nat) (Option.some (Jvm.ClassFile.FieldType.object "com/example/tidings/tidings/store/StoredMessage"))).before args0 about1 = true := code_word (m := ⟨3, 1⟩) (meth := k3m1) (c := k3c1) (by decide +kernel) rfl rfl rfl (by decide +kernel)
set_option maxRecDepth 65536 in
theorem w_c5 : (Jvm.Cond.code ({ cls := "com/example/tidings/tidings/store/StoredMessage", name := "sequence", desc := "()J" } : Jvm.MethodName) prog_111_method_7_code (1 : Nat) (Option.some Jvm.ClassFile.FieldType.long)).before args0 about1 = true := code_word (m := ⟨3, 2⟩) (meth := k3m2) (c := k3c2) (by decide +kernel) rfl rfl rfl (by decide +kernel)
set_option maxRecDepth 65536 in
theorem w_c6 : (Jvm.Cond.code ({ cls := "com/example/tidings/tidings/store/StoredMessage", name := "enqueueTime", desc := "()J" } : Jvm.MethodName) prog_111_method_8_code (1 : Nat) (Option.some Jvm.ClassFile.FieldType.long)).before args0 about1 = true := code_word (m := ⟨3, 3⟩) (meth := k3m3) (c := k3c3) (by decide +kernel) rfl rfl rfl (by decide +kernel)
set_option maxRecDepth 65536 in
theorem w_c7 : (Jvm.Cond.code ({ cls := "com/example/tidings/tidings/store/StoredMessage", name := "priority", desc := "()I" } : Jvm.MethodName) prog_111_method_9_code (1 : Nat) (Option.some Jvm.ClassFile.FieldType.int)).before args0 about1 = true := code_word (m := ⟨3, 4⟩) (meth := k3m4) (c := k3c4) (by decide +kernel) rfl rfl rfl (by decide +kernel)
set_option maxRecDepth 65536 in
theorem w_c8 : (Jvm.Cond.code ({ cls := "com/example/tidings/tidings/store/StoredMessage", name := "expiryTime", desc := "()J" } : Jvm.MethodName) prog_111_method_10_code (1 : Nat) (Option.some Jvm.ClassFile.FieldType.long)).before args0 about1 = true := code_word (m := ⟨3, 5⟩) (meth := k3m5) (c := k3c5) (by decide +kernel) rfl rfl rfl (by decide +kernel)
set_option maxRecDepth 65536 in
theorem w_c9 : (Jvm.Cond.code ({ cls := "com/example/tidings/tidings/store/StoredMessage", name := "nextVisibleTime", desc := "()J" } : Jvm.MethodName) prog_111_method_11_code (1 : Nat) (Option.some Jvm.ClassFile.FieldType.long)).before args0 about1 = true := code_word (m := ⟨3, 6⟩) (meth := k3m6) (c := k3c6) (by decide +kernel) rfl rfl rfl (by decide +kernel)
set_option maxRecDepth 65536 in
theorem w_c10 : (Jvm.Cond.code ({ cls := "com/example/tidings/tidings/store/StoredMessage", name := "dequeueCount", desc := "()I" } : Jvm.MethodName) prog_111_method_12_code (1 : Nat) (Option.some Jvm.ClassFile.FieldType.int)).before args0 about1 = true := code_word (m := ⟨3, 7⟩) (meth := k3m7) (c := k3c7) (by decide +kernel) rfl rfl rfl (by decide +kernel)
set_option maxRecDepth 65536 in
theorem w_c11 : (Jvm.Cond.code ({ cls := "com/example/tidings/tidings/store/StoredMessage", name := "firstDequeueTime", desc := "()J" } : Jvm.MethodName) prog_111_method_13_code (1 : Nat) (Option.some Jvm.ClassFile.FieldType.long)).before args0 about1 = true := code_word (m := ⟨3, 8⟩) (meth := k3m8) (c := k3c8) (by decide +kernel) rfl rfl rfl (by decide +kernel)
set_option maxRecDepth 65536 in
theorem w_c12 : (Jvm.Cond.code ({ cls := "com/example/tidings/tidings/store/StoredMessage", name := "receipts", desc := "()I" } : Jvm.MethodName) prog_111_method_14_code (1 : Nat) (Option.some Jvm.ClassFile.FieldType.int)).before args0 about1 = true := code_word (m := ⟨3, 9⟩) (meth := k3m9) (c := k3c9) (by decide +kernel) rfl rfl rfl (by decide +kernel)
set_option maxRecDepth 65536 in
theorem w_c13 : (Jvm.Cond.code ({ cls := "com/example/tidings/tidings/store/StoredMessage", name := "bodyOffset", desc := "()J" } : Jvm.MethodName) prog_111_method_15_code (1 : Nat) (Option.some Jvm.ClassFile.FieldType.long)).before args0 about1 = true := code_word (m := ⟨3, 10⟩) (meth := k3m10) (c := k3c10) (by decide +kernel) rfl rfl rfl (by decide +kernel)
set_option maxRecDepth 65536 in
theorem w_c14 : (Jvm.Cond.code ({ cls := "com/example/tidings/tidings/store/StoredMessage", name := "bodyLength", desc := "()I" } : Jvm.MethodName) prog_111_method_16_code (1 : Nat) (Option.some Jvm.ClassFile.FieldType.int)).before args0 about1 = true := code_word (m := ⟨3, 11⟩) (meth := k3m11) (c := k3c11) (by decide +kernel) rfl rfl rfl (by decide +kernel)
def codes1 : List Jvm.Cond := [Jvm.Cond.code x code maxLocals ret, Jvm.Cond.code ({ cls := "com/example/tidings/tidings/store/StoredMessage", name := "<init>", desc := "(JJIJJIJIJI)V" } : Jvm.MethodName) prog_111_method_1_code (17 : Nat) (Option.none : Option Jvm.ClassFile.FieldType), Jvm.Cond.code ({ cls := "java/lang/Record", name := "<init>", desc := "()V" } : Jvm.MethodName) jdk_30_method_1_code (1 : Nat) (Option.none : Option Jvm.ClassFile.FieldType), Jvm.Cond.code ({ cls := "java/lang/Object", name := "<init>", desc := "()V" } : Jvm.MethodName) object_method_1_code (1 : Nat) (Option.none : Option Jvm.ClassFile.FieldType), Jvm.Cond.code ({ cls := "com/example/tidings/tidings/store/StoredMessage", name := "movedTo", desc := "(J)Lcom/example/tidings/tidings/store/StoredMessage;" } : Jvm.MethodName) prog_111_method_3_code (3 : Nat) (Option.some (Jvm.ClassFile.FieldType.object "com/example/tidings/tidings/store/StoredMessage")), Jvm.Cond.code ({ cls := "com/example/tidings/tidings/store/StoredMessage", name := "sequence", desc := "()J" } : Jvm.MethodName) prog_111_method_7_code (1 : Nat) (Option.some Jvm.ClassFile.FieldType.long), Jvm.Cond.code ({ cls := "com/example/tidings/tidings/store/StoredMessage", name := "enqueueTime", desc := "()J" } : Jvm.MethodName) prog_111_method_8_code (1 : Nat) (Option.some Jvm.ClassFile.FieldType.long), Jvm.Cond.code ({ cls := "com/example/tidings/tidings/store/StoredMessage", name := "priority", desc := "()I" } : Jvm.MethodName) prog_111_method_9_code (1 : Nat) (Option.some Jvm.ClassFile.FieldType.int), Jvm.Cond.code ({ cls := "com/example/tidings/tidings/store/StoredMessage", name := "expiryTime", desc := "()J" } : Jvm.MethodName) prog_111_method_10_code (1 : Nat) (Option.some Jvm.ClassFile.FieldType.long), Jvm.Cond.code ({ cls := "com/example/tidings/tidings/store/StoredMessage", name := "nextVisibleTime", desc := "()J" } : Jvm.MethodName) prog_111_method_11_code (1 : Nat) (Option.some Jvm.ClassFile.FieldType.long), Jvm.Cond.code ({ cls := "com/example/tidings/tidings/store/StoredMessage", name := "dequeueCount", desc := "()I" } : Jvm.MethodName) prog_111_method_12_code (1 : Nat) (Option.some Jvm.ClassFile.FieldType.int), Jvm.Cond.code ({ cls := "com/example/tidings/tidings/store/StoredMessage", name := "firstDequeueTime", desc := "()J" } : Jvm.MethodName) prog_111_method_13_code (1 : Nat) (Option.some Jvm.ClassFile.FieldType.long), Jvm.Cond.code ({ cls := "com/example/tidings/tidings/store/StoredMessage", name := "receipts", desc := "()I" } : Jvm.MethodName) prog_111_method_14_code (1 : Nat) (Option.some Jvm.ClassFile.FieldType.int), Jvm.Cond.code ({ cls := "com/example/tidings/tidings/store/StoredMessage", name := "bodyOffset", desc := "()J" } : Jvm.MethodName) prog_111_method_15_code (1 : Nat) (Option.some Jvm.ClassFile.FieldType.long), Jvm.Cond.code ({ cls := "com/example/tidings/tidings/store/StoredMessage", name := "bodyLength", desc := "()I" } : Jvm.MethodName) prog_111_method_16_code (1 : Nat) (Option.some Jvm.ClassFile.FieldType.int)]
set_option maxRecDepth 65536 in
theorem codes_eq : words1.filter isCode = codes1 := rfl
theorem w_codes : ∀ c ∈ words1.filter isCode, c.before args0 about1 = true := by
  rw [codes_eq]
  intro c hc
  simp only [codes1, List.mem_cons, List.not_mem_nil, or_false] at hc
  rcases hc with rfl | rfl | rfl | rfl | rfl | rfl | rfl | rfl | rfl | rfl | rfl | rfl | rfl | rfl | rfl
  · exact w_c0
  · exact w_c1
  · exact w_c2
  · exact w_c3
  · exact w_c4
  · exact w_c5
  · exact w_c6
  · exact w_c7
  · exact w_c8
  · exact w_c9
  · exact w_c10
  · exact w_c11
  · exact w_c12
  · exact w_c13
  · exact w_c14
set_option maxRecDepth 65536 in
theorem w_t1 : (words1.take 24).all (fun c => isCode c || c.before args0 about1) = true := by decide +kernel
set_option maxRecDepth 65536 in
theorem w_t2 : ((words1.drop 24).take 24).all (fun c => isCode c || c.before args0 about1) = true := by decide +kernel
set_option maxRecDepth 65536 in
theorem w_t3 : (((words1.drop 24).drop 24).take 24).all (fun c => isCode c || c.before args0 about1) = true := by decide +kernel
set_option maxRecDepth 65536 in
theorem w_t4 : (((words1.drop 24).drop 24).drop 24).all (fun c => isCode c || c.before args0 about1) = true := by decide +kernel
theorem w_tables : (allAtoms (Jvm.Cond.code x code maxLocals ret :: tables_1)).before args0 about1 = true := by
  rw [allAtoms_all]
  show words1.all (fun c => c.before args0 about1) = true
  refine all_split ?_ w_codes
  rw [← List.take_append_drop 24 words1, List.all_append, w_t1, ← List.take_append_drop 24 (words1.drop 24), List.all_append, w_t2, ← List.take_append_drop 24 ((words1.drop 24).drop 24), List.all_append, w_t3, w_t4]
  rfl
set_option maxRecDepth 65536 in
theorem w_case : (Jvm.Cond.and given_1 narrow_1).before args0 about1 = true := by decide +kernel
theorem w_applies : (headSpec (Jvm.Cond.code x code maxLocals ret :: tables_1) room_1).applies x e0.platform about1 = true :=
  (Spec.applies_iff w_frames).mpr ⟨w_running, w_runnable, w_alone, w_named, w_hears, w_ripe, w_room, w_tables⟩
theorem atStart : AtStart classFile x code maxLocals ret World_1 tables_1 room_1 Calls_1 rest_1 Pre_1 launch0 p0 e0 about1 theMethod args0 below0 :=
  ⟨lists_1, trivial, launch0.admits_env _ _ _, launch0.least_env, fairChoices_fair.cas, fairChoices_fair.clock, w_frames, w_args, w_heap, w_applies, trivial, trivial, w_case⟩
end start1
theorem witness_1 : WitnessClaimed_1 := ⟨start1.p0, start1.e0, start1.about1, start1.theMethod, start1.args0, start1.below0, start1.atStart⟩
end Jvm.Pilot.@@N@@
