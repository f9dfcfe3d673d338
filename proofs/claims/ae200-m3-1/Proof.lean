import JvmDerived
import JvmDerived.Pilot.@@N@@Statement
import JvmDerived.Pilot.@@N@@Code
set_option linter.unusedVariables false
set_option linter.unusedSimpArgs false
namespace Jvm.Pilot.@@N@@
open Jvm Jvm.ClassFile Sem Op Lib Jvm.Free Jvm.Stand Jvm.LawKit Jvm.RoadKit Bundle Jvm.Pilot.@@N@@.Jvm.D
section Own
variable {p : Program} {l : Launch} {e : Env} {R : Room} {s : State} {m : MethodId} {args : Array Value} {below : List Frame} {meth : Method} {c : Code} {T : State} {locs : List Loc} {cells slots : Nat} {C S : Nat} {Q : Option Value → Heap → List Loc → Prop}
/-- from the state T with the frame g on top the run comes to the method's end, and Q holds there -/
def Goes (p : Program) (e : Env) (below : List Frame) (s : State) (C S : Nat) (Q : Option Value → Heap → List Loc → Prop) (T : State) (g : JFrame) : Prop :=
  ∃ s₂ o, Steps p.tables e below (T.setTop g) s₂ ∧ s₂.status = .running ∧ Ended s₂ below o ∧ ∃ v L, o = .returned v ∧ Q v s₂.heap L ∧ FrameEnd s o s₂ L C S
theorem Goes.go {T' : State} {g g' : JFrame} (st : ∀ t, Steps p.tables e below (T'.setTop g') t → Steps p.tables e below (T.setTop g) t) (h : Goes p e below s C S Q T' g') : Goes p e below s C S Q T g := by
  obtain ⟨s₂, o, h1, h2⟩ := h; exact ⟨s₂, o, st _ h1, h2⟩
theorem Goes.tr {T' : State} {g g' : JFrame} (st : Steps p.tables e below (T.setTop g) (T'.setTop g')) (h : Goes p e below s C S Q T' g') : Goes p e below s C S Q T g := Goes.go (fun _ k => st.trans k) h
/-- a value comes back -/
theorem own_ret (X : Stand p l e R s m args below meth c T locs cells slots) (hx : p.tables.exec = Jvm.exec) (hlk : meth.locks = false) {t : FieldType} (hret : meth.sig.returnType = some t) {i : Instr} {w : Value} (hn : narrow t w = w)
    (hi : (i = .ireturn ∧ (t = .int ∨ t = .boolean ∨ t = .byte ∨ t = .char ∨ t = .short) ∧ ∃ z, w = .int z) ∨ (i = .lreturn ∧ t = .long ∧ ∃ z, w = .long z) ∨ (i = .dreturn ∧ t = .double ∧ ∃ z, w = .double z) ∨ (i = .freturn ∧ t = .float ∧ ∃ z, w = .float z) ∨ (i = .areturn ∧ t.isReference = true ∧ w.isRef = true))
    {pc : Nat} {Ls : Array Slot} {rest : List Value} (hd : decode c.code pc = .ok (i, 1)) (hC : cells ≤ C) (hS : slots ≤ S) {h : Heap} (eT : T.heap = h) (hQ : Q (some w) h locs) : Goes p e below s C S Q T (mkF m pc Ls (w :: rest)) := by
  obtain ⟨fs, hr, hrun, hended, hW, hsame⟩ := X.leave (v := some w) (fun h => by rw [hret] at h; cases h)
  subst eT
  exact ⟨_, _, retOut X hx hret hn hi hd hr, hrun, hended, _, _, rfl, hQ, ⟨_, rfl⟩, hW, hsame.mono hC hS⟩
theorem own_retI (X : Stand p l e R s m args below meth c T locs cells slots) (hx : p.tables.exec = Jvm.exec) (hlk : meth.locks = false) (hret : meth.sig.returnType = some .int) {z : Int32}
    {pc : Nat} {Ls : Array Slot} {rest : List Value} (hd : decode c.code pc = .ok (.ireturn, 1)) (hC : cells ≤ C) (hS : slots ≤ S) {h : Heap} (eT : T.heap = h) (hQ : Q (some (.int z)) h locs) : Goes p e below s C S Q T (mkF m pc Ls (.int z :: rest)) :=
  own_ret X hx hlk hret rfl (Or.inl ⟨rfl, Or.inl rfl, z, rfl⟩) hd hC hS eT hQ
theorem own_retZ (X : Stand p l e R s m args below meth c T locs cells slots) (hx : p.tables.exec = Jvm.exec) (hlk : meth.locks = false) (hret : meth.sig.returnType = some .boolean) {z : Int32} (hn : narrow .boolean (.int z) = .int z)
    {pc : Nat} {Ls : Array Slot} {rest : List Value} (hd : decode c.code pc = .ok (.ireturn, 1)) (hC : cells ≤ C) (hS : slots ≤ S) {h : Heap} (eT : T.heap = h) (hQ : Q (some (.int z)) h locs) : Goes p e below s C S Q T (mkF m pc Ls (.int z :: rest)) :=
  own_ret X hx hlk hret hn (Or.inl ⟨rfl, Or.inr (Or.inl rfl), z, rfl⟩) hd hC hS eT hQ
theorem own_retJ (X : Stand p l e R s m args below meth c T locs cells slots) (hx : p.tables.exec = Jvm.exec) (hlk : meth.locks = false) (hret : meth.sig.returnType = some .long) {z : Int64}
    {pc : Nat} {Ls : Array Slot} {rest : List Value} (hd : decode c.code pc = .ok (.lreturn, 1)) (hC : cells ≤ C) (hS : slots ≤ S) {h : Heap} (eT : T.heap = h) (hQ : Q (some (.long z)) h locs) : Goes p e below s C S Q T (mkF m pc Ls (.long z :: rest)) :=
  own_ret X hx hlk hret rfl (Or.inr (Or.inl ⟨rfl, rfl, z, rfl⟩)) hd hC hS eT hQ
theorem own_narR {t : FieldType} {w : Value} (hw : w.isRef = true) : narrow t w = w := by
  rcases ref_cases hw with rfl | ⟨a, rfl⟩ <;> cases t <;> rfl
theorem own_retR (X : Stand p l e R s m args below meth c T locs cells slots) (hx : p.tables.exec = Jvm.exec) (hlk : meth.locks = false) {t : FieldType} (hret : meth.sig.returnType = some t) (ht : t.isReference = true) {w : Value} (hw : w.isRef = true)
    {pc : Nat} {Ls : Array Slot} {rest : List Value} (hd : decode c.code pc = .ok (.areturn, 1)) (hC : cells ≤ C) (hS : slots ≤ S) {h : Heap} (eT : T.heap = h) (hQ : Q (some w) h locs) : Goes p e below s C S Q T (mkF m pc Ls (w :: rest)) :=
  own_ret X hx hlk hret (own_narR hw) (Or.inr (Or.inr (Or.inr (Or.inr ⟨rfl, ht, hw⟩)))) hd hC hS eT hQ
theorem own_retV (X : Stand p l e R s m args below meth c T locs cells slots) (hx : p.tables.exec = Jvm.exec) (hlk : meth.locks = false) (hret : meth.sig.returnType = none)
    {pc : Nat} {Ls : Array Slot} (hd : decode c.code pc = .ok (.return_, 1)) (hC : cells ≤ C) (hS : slots ≤ S) {h : Heap} (eT : T.heap = h) (hQ : Q none h locs) : Goes p e below s C S Q T (mkF m pc Ls []) := by
  obtain ⟨fs, hr, hrun, hended, hW, hsame⟩ := X.leave (v := none) (fun _ => rfl)
  subst eT
  exact ⟨_, _, X.returnOut hx hret hd hr, hrun, hended, _, _, rfl, hQ, ⟨_, rfl⟩, hW, hsame.mono hC hS⟩
/-- the entry -/
theorem own_enter {s₁ : State} {maxL : Nat} {as' : Array Value} {Ls : Array Slot} (hE : entryFrame m as' maxL = mkF m 0 Ls []) (h : Goes p e below s C S Q s₁ (mkF m 0 Ls [])) :
    ∃ s₂ o, Steps p.tables e below (s₁.setTop (entryFrame m as' maxL)) s₂ ∧ s₂.status = .running ∧ Ended s₂ below o ∧ ∃ v L, o = .returned v ∧ Q v s₂.heap L ∧ FrameEnd s o s₂ L C S := by
  rw [hE]; exact h
section Steps1
variable {pc : Nat} {Ls : Array Slot} {rest : List Value}
theorem own_iadd (X : Stand p l e R s m args below meth c T locs cells slots) (hx : p.tables.exec = Jvm.exec) (pc' : Nat) (hp : pc + 1 = pc') {x y z : Int32} (hd : decode c.code pc = .ok (.iadd, 1)) (hz : x + y = z) (h : Goes p e below s C S Q T (mkF m pc' Ls (.int z :: rest))) : Goes p e below s C S Q T (mkF m pc Ls (.int y :: .int x :: rest)) := by
  subst hp; subst hz; exact Goes.go (fun _ k => XS.iadd X.here hx rfl hd rfl k) h
theorem own_isub (X : Stand p l e R s m args below meth c T locs cells slots) (hx : p.tables.exec = Jvm.exec) (pc' : Nat) (hp : pc + 1 = pc') {x y z : Int32} (hd : decode c.code pc = .ok (.isub, 1)) (hz : x - y = z) (h : Goes p e below s C S Q T (mkF m pc' Ls (.int z :: rest))) : Goes p e below s C S Q T (mkF m pc Ls (.int y :: .int x :: rest)) := by
  subst hp; subst hz; exact Goes.go (fun _ k => XS.isub X.here hx rfl hd rfl k) h
theorem own_imul (X : Stand p l e R s m args below meth c T locs cells slots) (hx : p.tables.exec = Jvm.exec) (pc' : Nat) (hp : pc + 1 = pc') {x y z : Int32} (hd : decode c.code pc = .ok (.imul, 1)) (hz : x * y = z) (h : Goes p e below s C S Q T (mkF m pc' Ls (.int z :: rest))) : Goes p e below s C S Q T (mkF m pc Ls (.int y :: .int x :: rest)) := by
  subst hp; subst hz; exact Goes.go (fun _ k => XS.imul X.here hx rfl hd rfl k) h
theorem own_iand (X : Stand p l e R s m args below meth c T locs cells slots) (hx : p.tables.exec = Jvm.exec) (pc' : Nat) (hp : pc + 1 = pc') {x y z : Int32} (hd : decode c.code pc = .ok (.iand, 1)) (hz : x &&& y = z) (h : Goes p e below s C S Q T (mkF m pc' Ls (.int z :: rest))) : Goes p e below s C S Q T (mkF m pc Ls (.int y :: .int x :: rest)) := by
  subst hp; subst hz; exact Goes.go (fun _ k => XS.iand X.here hx rfl hd rfl k) h
theorem own_ior (X : Stand p l e R s m args below meth c T locs cells slots) (hx : p.tables.exec = Jvm.exec) (pc' : Nat) (hp : pc + 1 = pc') {x y z : Int32} (hd : decode c.code pc = .ok (.ior, 1)) (hz : x ||| y = z) (h : Goes p e below s C S Q T (mkF m pc' Ls (.int z :: rest))) : Goes p e below s C S Q T (mkF m pc Ls (.int y :: .int x :: rest)) := by
  subst hp; subst hz; exact Goes.go (fun _ k => XS.ior X.here hx rfl hd rfl k) h
theorem own_ixor (X : Stand p l e R s m args below meth c T locs cells slots) (hx : p.tables.exec = Jvm.exec) (pc' : Nat) (hp : pc + 1 = pc') {x y z : Int32} (hd : decode c.code pc = .ok (.ixor, 1)) (hz : x ^^^ y = z) (h : Goes p e below s C S Q T (mkF m pc' Ls (.int z :: rest))) : Goes p e below s C S Q T (mkF m pc Ls (.int y :: .int x :: rest)) := by
  subst hp; subst hz; exact Goes.go (fun _ k => XS.ixor X.here hx rfl hd rfl k) h
theorem own_idiv (X : Stand p l e R s m args below meth c T locs cells slots) (hx : p.tables.exec = Jvm.exec) (pc' : Nat) (hp : pc + 1 = pc') {x y z : Int32} (hd : decode c.code pc = .ok (.idiv, 1)) (hy : y ≠ 0) (hz : x / y = z) (h : Goes p e below s C S Q T (mkF m pc' Ls (.int z :: rest))) : Goes p e below s C S Q T (mkF m pc Ls (.int y :: .int x :: rest)) := by
  subst hp; subst hz; exact Goes.go (fun _ k => XS.idiv X.here hx rfl hd rfl hy k) h
theorem own_ishl (X : Stand p l e R s m args below meth c T locs cells slots) (hx : p.tables.exec = Jvm.exec) (pc' : Nat) (hp : pc + 1 = pc') {x z : Int32} {y : Int32} (hd : decode c.code pc = .ok (.ishl, 1)) (hz : (x <<< (y &&& 31)) = z) (h : Goes p e below s C S Q T (mkF m pc' Ls (.int z :: rest))) : Goes p e below s C S Q T (mkF m pc Ls (.int y :: .int x :: rest)) := by
  subst hp; subst hz; exact Goes.go (fun _ k => XS.ishl X.here hx rfl hd rfl k) h
theorem own_ishr (X : Stand p l e R s m args below meth c T locs cells slots) (hx : p.tables.exec = Jvm.exec) (pc' : Nat) (hp : pc + 1 = pc') {x z : Int32} {y : Int32} (hd : decode c.code pc = .ok (.ishr, 1)) (hz : (x >>> (y &&& 31)) = z) (h : Goes p e below s C S Q T (mkF m pc' Ls (.int z :: rest))) : Goes p e below s C S Q T (mkF m pc Ls (.int y :: .int x :: rest)) := by
  subst hp; subst hz; exact Goes.go (fun _ k => XS.ishr X.here hx rfl hd rfl k) h
theorem own_iushr (X : Stand p l e R s m args below meth c T locs cells slots) (hx : p.tables.exec = Jvm.exec) (pc' : Nat) (hp : pc + 1 = pc') {x z : Int32} {y : Int32} (hd : decode c.code pc = .ok (.iushr, 1)) (hz : ((x.toUInt32 >>> (y &&& 31).toUInt32).toInt32) = z) (h : Goes p e below s C S Q T (mkF m pc' Ls (.int z :: rest))) : Goes p e below s C S Q T (mkF m pc Ls (.int y :: .int x :: rest)) := by
  subst hp; subst hz; exact Goes.go (fun _ k => XS.iushr X.here hx rfl hd rfl k) h
theorem own_ladd (X : Stand p l e R s m args below meth c T locs cells slots) (hx : p.tables.exec = Jvm.exec) (pc' : Nat) (hp : pc + 1 = pc') {x y z : Int64} (hd : decode c.code pc = .ok (.ladd, 1)) (hz : x + y = z) (h : Goes p e below s C S Q T (mkF m pc' Ls (.long z :: rest))) : Goes p e below s C S Q T (mkF m pc Ls (.long y :: .long x :: rest)) := by
  subst hp; subst hz; exact Goes.go (fun _ k => XS.ladd X.here hx rfl hd rfl k) h
theorem own_lsub (X : Stand p l e R s m args below meth c T locs cells slots) (hx : p.tables.exec = Jvm.exec) (pc' : Nat) (hp : pc + 1 = pc') {x y z : Int64} (hd : decode c.code pc = .ok (.lsub, 1)) (hz : x - y = z) (h : Goes p e below s C S Q T (mkF m pc' Ls (.long z :: rest))) : Goes p e below s C S Q T (mkF m pc Ls (.long y :: .long x :: rest)) := by
  subst hp; subst hz; exact Goes.go (fun _ k => XS.lsub X.here hx rfl hd rfl k) h
theorem own_lmul (X : Stand p l e R s m args below meth c T locs cells slots) (hx : p.tables.exec = Jvm.exec) (pc' : Nat) (hp : pc + 1 = pc') {x y z : Int64} (hd : decode c.code pc = .ok (.lmul, 1)) (hz : x * y = z) (h : Goes p e below s C S Q T (mkF m pc' Ls (.long z :: rest))) : Goes p e below s C S Q T (mkF m pc Ls (.long y :: .long x :: rest)) := by
  subst hp; subst hz; exact Goes.go (fun _ k => XS.lmul X.here hx rfl hd rfl k) h
theorem own_land (X : Stand p l e R s m args below meth c T locs cells slots) (hx : p.tables.exec = Jvm.exec) (pc' : Nat) (hp : pc + 1 = pc') {x y z : Int64} (hd : decode c.code pc = .ok (.land, 1)) (hz : x &&& y = z) (h : Goes p e below s C S Q T (mkF m pc' Ls (.long z :: rest))) : Goes p e below s C S Q T (mkF m pc Ls (.long y :: .long x :: rest)) := by
  subst hp; subst hz; exact Goes.go (fun _ k => XS.land X.here hx rfl hd rfl k) h
theorem own_lor (X : Stand p l e R s m args below meth c T locs cells slots) (hx : p.tables.exec = Jvm.exec) (pc' : Nat) (hp : pc + 1 = pc') {x y z : Int64} (hd : decode c.code pc = .ok (.lor, 1)) (hz : x ||| y = z) (h : Goes p e below s C S Q T (mkF m pc' Ls (.long z :: rest))) : Goes p e below s C S Q T (mkF m pc Ls (.long y :: .long x :: rest)) := by
  subst hp; subst hz; exact Goes.go (fun _ k => XS.lor X.here hx rfl hd rfl k) h
theorem own_lxor (X : Stand p l e R s m args below meth c T locs cells slots) (hx : p.tables.exec = Jvm.exec) (pc' : Nat) (hp : pc + 1 = pc') {x y z : Int64} (hd : decode c.code pc = .ok (.lxor, 1)) (hz : x ^^^ y = z) (h : Goes p e below s C S Q T (mkF m pc' Ls (.long z :: rest))) : Goes p e below s C S Q T (mkF m pc Ls (.long y :: .long x :: rest)) := by
  subst hp; subst hz; exact Goes.go (fun _ k => XS.lxor X.here hx rfl hd rfl k) h
theorem own_ldiv (X : Stand p l e R s m args below meth c T locs cells slots) (hx : p.tables.exec = Jvm.exec) (pc' : Nat) (hp : pc + 1 = pc') {x y z : Int64} (hd : decode c.code pc = .ok (.ldiv, 1)) (hy : y ≠ 0) (hz : x / y = z) (h : Goes p e below s C S Q T (mkF m pc' Ls (.long z :: rest))) : Goes p e below s C S Q T (mkF m pc Ls (.long y :: .long x :: rest)) := by
  subst hp; subst hz; exact Goes.go (fun _ k => XS.ldiv X.here hx rfl hd rfl hy k) h
theorem own_lshl (X : Stand p l e R s m args below meth c T locs cells slots) (hx : p.tables.exec = Jvm.exec) (pc' : Nat) (hp : pc + 1 = pc') {x z : Int64} {y : Int32} (hd : decode c.code pc = .ok (.lshl, 1)) (hz : (x <<< (y &&& 0x3f).toInt64) = z) (h : Goes p e below s C S Q T (mkF m pc' Ls (.long z :: rest))) : Goes p e below s C S Q T (mkF m pc Ls (.int y :: .long x :: rest)) := by
  subst hp; subst hz; exact Goes.go (fun _ k => XS.lshl X.here hx rfl hd rfl k) h
theorem own_lshr (X : Stand p l e R s m args below meth c T locs cells slots) (hx : p.tables.exec = Jvm.exec) (pc' : Nat) (hp : pc + 1 = pc') {x z : Int64} {y : Int32} (hd : decode c.code pc = .ok (.lshr, 1)) (hz : (x >>> (y &&& 0x3f).toInt64) = z) (h : Goes p e below s C S Q T (mkF m pc' Ls (.long z :: rest))) : Goes p e below s C S Q T (mkF m pc Ls (.int y :: .long x :: rest)) := by
  subst hp; subst hz; exact Goes.go (fun _ k => XS.lshr X.here hx rfl hd rfl k) h
theorem own_lushr (X : Stand p l e R s m args below meth c T locs cells slots) (hx : p.tables.exec = Jvm.exec) (pc' : Nat) (hp : pc + 1 = pc') {x z : Int64} {y : Int32} (hd : decode c.code pc = .ok (.lushr, 1)) (hz : ((x.toUInt64 >>> (y &&& 0x3f).toInt64.toUInt64).toInt64) = z) (h : Goes p e below s C S Q T (mkF m pc' Ls (.long z :: rest))) : Goes p e below s C S Q T (mkF m pc Ls (.int y :: .long x :: rest)) := by
  subst hp; subst hz; exact Goes.go (fun _ k => XS.lushr X.here hx rfl hd rfl k) h
theorem own_irem (X : Stand p l e R s m args below meth c T locs cells slots) (hx : p.tables.exec = Jvm.exec) (pc' : Nat) (hp : pc + 1 = pc') {x y z : Int32} (hd : decode c.code pc = .ok (.irem, 1)) (hy : y ≠ 0) (hz : x % y = z) (h : Goes p e below s C S Q T (mkF m pc' Ls (.int z :: rest))) : Goes p e below s C S Q T (mkF m pc Ls (.int y :: .int x :: rest)) := by
  subst hp; subst hz; exact Goes.go (fun _ k => iremM X hx rfl hd rfl hy k) h
theorem own_lrem (X : Stand p l e R s m args below meth c T locs cells slots) (hx : p.tables.exec = Jvm.exec) (pc' : Nat) (hp : pc + 1 = pc') {x y z : Int64} (hd : decode c.code pc = .ok (.lrem, 1)) (hy : y ≠ 0) (hz : x % y = z) (h : Goes p e below s C S Q T (mkF m pc' Ls (.long z :: rest))) : Goes p e below s C S Q T (mkF m pc Ls (.long y :: .long x :: rest)) := by
  subst hp; subst hz; exact Goes.go (fun _ k => XS.lrem X.here hx rfl hd rfl hy (by rw [lrem_mod]; exact k)) h
theorem own_ineg (X : Stand p l e R s m args below meth c T locs cells slots) (hx : p.tables.exec = Jvm.exec) (pc' : Nat) (hp : pc + 1 = pc') {x : Int32} {z : Int32} (hd : decode c.code pc = .ok (.ineg, 1)) (hz : -x = z) (h : Goes p e below s C S Q T (mkF m pc' Ls (.int z :: rest))) : Goes p e below s C S Q T (mkF m pc Ls (.int x :: rest)) := by
  subst hp; subst hz; exact Goes.go (fun _ k => XS.ineg X.here hx rfl hd rfl k) h
theorem own_lneg (X : Stand p l e R s m args below meth c T locs cells slots) (hx : p.tables.exec = Jvm.exec) (pc' : Nat) (hp : pc + 1 = pc') {x : Int64} {z : Int64} (hd : decode c.code pc = .ok (.lneg, 1)) (hz : -x = z) (h : Goes p e below s C S Q T (mkF m pc' Ls (.long z :: rest))) : Goes p e below s C S Q T (mkF m pc Ls (.long x :: rest)) := by
  subst hp; subst hz; exact Goes.go (fun _ k => XS.lneg X.here hx rfl hd rfl k) h
theorem own_i2l (X : Stand p l e R s m args below meth c T locs cells slots) (hx : p.tables.exec = Jvm.exec) (pc' : Nat) (hp : pc + 1 = pc') {x : Int32} {z : Int64} (hd : decode c.code pc = .ok (.i2l, 1)) (hz : x.toInt64 = z) (h : Goes p e below s C S Q T (mkF m pc' Ls (.long z :: rest))) : Goes p e below s C S Q T (mkF m pc Ls (.int x :: rest)) := by
  subst hp; subst hz; exact Goes.go (fun _ k => XS.i2l X.here hx rfl hd rfl k) h
theorem own_l2i (X : Stand p l e R s m args below meth c T locs cells slots) (hx : p.tables.exec = Jvm.exec) (pc' : Nat) (hp : pc + 1 = pc') {x : Int64} {z : Int32} (hd : decode c.code pc = .ok (.l2i, 1)) (hz : x.toInt32 = z) (h : Goes p e below s C S Q T (mkF m pc' Ls (.int z :: rest))) : Goes p e below s C S Q T (mkF m pc Ls (.long x :: rest)) := by
  subst hp; subst hz; exact Goes.go (fun _ k => XS.l2i X.here hx rfl hd rfl k) h
theorem own_i2b (X : Stand p l e R s m args below meth c T locs cells slots) (hx : p.tables.exec = Jvm.exec) (pc' : Nat) (hp : pc + 1 = pc') {x : Int32} {z : Int32} (hd : decode c.code pc = .ok (.i2b, 1)) (hz : x.toInt8.toInt32 = z) (h : Goes p e below s C S Q T (mkF m pc' Ls (.int z :: rest))) : Goes p e below s C S Q T (mkF m pc Ls (.int x :: rest)) := by
  subst hp; subst hz; exact Goes.go (fun _ k => XS.i2b X.here hx rfl hd rfl k) h
theorem own_i2s (X : Stand p l e R s m args below meth c T locs cells slots) (hx : p.tables.exec = Jvm.exec) (pc' : Nat) (hp : pc + 1 = pc') {x : Int32} {z : Int32} (hd : decode c.code pc = .ok (.i2s, 1)) (hz : x.toInt16.toInt32 = z) (h : Goes p e below s C S Q T (mkF m pc' Ls (.int z :: rest))) : Goes p e below s C S Q T (mkF m pc Ls (.int x :: rest)) := by
  subst hp; subst hz; exact Goes.go (fun _ k => XS.i2s X.here hx rfl hd rfl k) h
theorem own_i2c (X : Stand p l e R s m args below meth c T locs cells slots) (hx : p.tables.exec = Jvm.exec) (pc' : Nat) (hp : pc + 1 = pc') {x : Int32} {z : Int32} (hd : decode c.code pc = .ok (.i2c, 1)) (hz : x.toUInt32.toUInt16.toUInt32.toInt32 = z) (h : Goes p e below s C S Q T (mkF m pc' Ls (.int z :: rest))) : Goes p e below s C S Q T (mkF m pc Ls (.int x :: rest)) := by
  subst hp; subst hz; exact Goes.go (fun _ k => XS.i2c X.here hx rfl hd rfl k) h
theorem own_lcmp (X : Stand p l e R s m args below meth c T locs cells slots) (hx : p.tables.exec = Jvm.exec) (pc' : Nat) (hp : pc + 1 = pc') {x y : Int64} (hd : decode c.code pc = .ok (.lcmp, 1))  (h : Goes p e below s C S Q T (mkF m pc' Ls (.int (lcmpW x y) :: rest))) : Goes p e below s C S Q T (mkF m pc Ls (.long y :: .long x :: rest)) := by
  subst hp; exact Goes.go (fun _ k => XS.lcmp X.here hx rfl hd rfl k) h
theorem own_iload (X : Stand p l e R s m args below meth c T locs cells slots) (hx : p.tables.exec = Jvm.exec) (pc' : Nat) (hp : pc + 2 = pc') {k : Nat} {v : Int32} (hd : decode c.code pc = .ok (.iload k, 2)) (hl : Ls[k]? = some (.val (.int v))) (h : Goes p e below s C S Q T (mkF m pc' Ls ((.int v) :: rest))) : Goes p e below s C S Q T (mkF m pc Ls rest) := by
  subst hp; exact Goes.go (fun _ k => XS.iload X.here hx rfl hd hl k) h
theorem own_iloadN (X : Stand p l e R s m args below meth c T locs cells slots) (hx : p.tables.exec = Jvm.exec) (pc' : Nat) (hp : pc + 1 = pc') {k : Fin 4} {v : Int32} (hd : decode c.code pc = .ok (.iload_n k, 1)) (hl : Ls[k.val]? = some (.val (.int v))) (h : Goes p e below s C S Q T (mkF m pc' Ls ((.int v) :: rest))) : Goes p e below s C S Q T (mkF m pc Ls rest) := by
  subst hp; exact Goes.go (fun _ k => XS.iloadN X.here hx rfl hd hl k) h
theorem own_istore (X : Stand p l e R s m args below meth c T locs cells slots) (hx : p.tables.exec = Jvm.exec) (pc' : Nat) (hp : pc + 2 = pc') {k : Nat} {v : Int32} (Ls' : Array Slot) (hd : decode c.code pc = .ok (.istore k, 2)) (hl : storeLocals Ls k (.int v) = some Ls') (h : Goes p e below s C S Q T (mkF m pc' Ls' rest)) : Goes p e below s C S Q T (mkF m pc Ls ((.int v) :: rest)) := by
  subst hp; exact Goes.go (fun _ k => XS.istore X.here hx rfl hd rfl hl k) h
theorem own_istoreN (X : Stand p l e R s m args below meth c T locs cells slots) (hx : p.tables.exec = Jvm.exec) (pc' : Nat) (hp : pc + 1 = pc') {k : Fin 4} {v : Int32} (Ls' : Array Slot) (hd : decode c.code pc = .ok (.istore_n k, 1)) (hl : storeLocals Ls k.val (.int v) = some Ls') (h : Goes p e below s C S Q T (mkF m pc' Ls' rest)) : Goes p e below s C S Q T (mkF m pc Ls ((.int v) :: rest)) := by
  subst hp; exact Goes.go (fun _ k => XS.istoreN X.here hx rfl hd rfl hl k) h
theorem own_lload (X : Stand p l e R s m args below meth c T locs cells slots) (hx : p.tables.exec = Jvm.exec) (pc' : Nat) (hp : pc + 2 = pc') {k : Nat} {v : Int64} (hd : decode c.code pc = .ok (.lload k, 2)) (hl : Ls[k]? = some (.val (.long v))) (h : Goes p e below s C S Q T (mkF m pc' Ls ((.long v) :: rest))) : Goes p e below s C S Q T (mkF m pc Ls rest) := by
  subst hp; exact Goes.go (fun _ k => XS.lload X.here hx rfl hd hl k) h
theorem own_lloadN (X : Stand p l e R s m args below meth c T locs cells slots) (hx : p.tables.exec = Jvm.exec) (pc' : Nat) (hp : pc + 1 = pc') {k : Fin 4} {v : Int64} (hd : decode c.code pc = .ok (.lload_n k, 1)) (hl : Ls[k.val]? = some (.val (.long v))) (h : Goes p e below s C S Q T (mkF m pc' Ls ((.long v) :: rest))) : Goes p e below s C S Q T (mkF m pc Ls rest) := by
  subst hp; exact Goes.go (fun _ k => XS.lloadN X.here hx rfl hd hl k) h
theorem own_lstore (X : Stand p l e R s m args below meth c T locs cells slots) (hx : p.tables.exec = Jvm.exec) (pc' : Nat) (hp : pc + 2 = pc') {k : Nat} {v : Int64} (Ls' : Array Slot) (hd : decode c.code pc = .ok (.lstore k, 2)) (hl : storeLocals Ls k (.long v) = some Ls') (h : Goes p e below s C S Q T (mkF m pc' Ls' rest)) : Goes p e below s C S Q T (mkF m pc Ls ((.long v) :: rest)) := by
  subst hp; exact Goes.go (fun _ k => XS.lstore X.here hx rfl hd rfl hl k) h
theorem own_lstoreN (X : Stand p l e R s m args below meth c T locs cells slots) (hx : p.tables.exec = Jvm.exec) (pc' : Nat) (hp : pc + 1 = pc') {k : Fin 4} {v : Int64} (Ls' : Array Slot) (hd : decode c.code pc = .ok (.lstore_n k, 1)) (hl : storeLocals Ls k.val (.long v) = some Ls') (h : Goes p e below s C S Q T (mkF m pc' Ls' rest)) : Goes p e below s C S Q T (mkF m pc Ls ((.long v) :: rest)) := by
  subst hp; exact Goes.go (fun _ k => XS.lstoreN X.here hx rfl hd rfl hl k) h
theorem own_aload (X : Stand p l e R s m args below meth c T locs cells slots) (hx : p.tables.exec = Jvm.exec) (pc' : Nat) (hp : pc + 2 = pc') {k : Nat} {v : Value} (hd : decode c.code pc = .ok (.aload k, 2)) (hl : Ls[k]? = some (.val v)) (hv : v.isRef = true) (h : Goes p e below s C S Q T (mkF m pc' Ls (v :: rest))) : Goes p e below s C S Q T (mkF m pc Ls rest) := by
  subst hp; exact Goes.go (fun _ k => XS.aload X.here hx rfl hd hl hv k) h
theorem own_aloadN (X : Stand p l e R s m args below meth c T locs cells slots) (hx : p.tables.exec = Jvm.exec) (pc' : Nat) (hp : pc + 1 = pc') {k : Fin 4} {v : Value} (hd : decode c.code pc = .ok (.aload_n k, 1)) (hl : Ls[k.val]? = some (.val v)) (hv : v.isRef = true) (h : Goes p e below s C S Q T (mkF m pc' Ls (v :: rest))) : Goes p e below s C S Q T (mkF m pc Ls rest) := by
  subst hp; exact Goes.go (fun _ k => XS.aloadN X.here hx rfl hd hl hv k) h
theorem own_astore (X : Stand p l e R s m args below meth c T locs cells slots) (hx : p.tables.exec = Jvm.exec) (pc' : Nat) (hp : pc + 2 = pc') {k : Nat} {v : Value} (Ls' : Array Slot) (hd : decode c.code pc = .ok (.astore k, 2)) (hl : storeLocals Ls k v = some Ls') (hv : v.isRef = true) (h : Goes p e below s C S Q T (mkF m pc' Ls' rest)) : Goes p e below s C S Q T (mkF m pc Ls (v :: rest)) := by
  subst hp; exact Goes.go (fun _ k => XS.astore X.here hx rfl hd rfl hv hl k) h
theorem own_astoreN (X : Stand p l e R s m args below meth c T locs cells slots) (hx : p.tables.exec = Jvm.exec) (pc' : Nat) (hp : pc + 1 = pc') {k : Fin 4} {v : Value} (Ls' : Array Slot) (hd : decode c.code pc = .ok (.astore_n k, 1)) (hl : storeLocals Ls k.val v = some Ls') (hv : v.isRef = true) (h : Goes p e below s C S Q T (mkF m pc' Ls' rest)) : Goes p e below s C S Q T (mkF m pc Ls (v :: rest)) := by
  subst hp; exact Goes.go (fun _ k => XS.astoreN X.here hx rfl hd rfl hv hl k) h
theorem own_iconst (X : Stand p l e R s m args below meth c T locs cells slots) (hx : p.tables.exec = Jvm.exec) (pc' : Nat) (hp : pc + 1 = pc') {i : Int} (v : Int32) (hd : decode c.code pc = .ok (.iconst i, 1)) (hv : Int32.ofInt i = v) (h : Goes p e below s C S Q T (mkF m pc' Ls (.int v :: rest))) : Goes p e below s C S Q T (mkF m pc Ls rest) := by
  subst hp; subst hv; exact Goes.go (fun _ k => XS.iconst X.here hx rfl hd k) h
theorem own_bipush (X : Stand p l e R s m args below meth c T locs cells slots) (hx : p.tables.exec = Jvm.exec) (pc' : Nat) (hp : pc + 2 = pc') {i : Int} (v : Int32) (hd : decode c.code pc = .ok (.bipush i, 2)) (hv : (Int8.ofInt i).toInt32 = v) (h : Goes p e below s C S Q T (mkF m pc' Ls (.int v :: rest))) : Goes p e below s C S Q T (mkF m pc Ls rest) := by
  subst hp; subst hv; exact Goes.go (fun _ k => XS.bipush X.here hx rfl hd k) h
theorem own_sipush (X : Stand p l e R s m args below meth c T locs cells slots) (hx : p.tables.exec = Jvm.exec) (pc' : Nat) (hp : pc + 3 = pc') {i : Int} (v : Int32) (hd : decode c.code pc = .ok (.sipush i, 3)) (hv : (Int16.ofInt i).toInt32 = v) (h : Goes p e below s C S Q T (mkF m pc' Ls (.int v :: rest))) : Goes p e below s C S Q T (mkF m pc Ls rest) := by
  subst hp; subst hv; exact Goes.go (fun _ k => XS.sipush X.here hx rfl hd k) h
theorem own_lconst (X : Stand p l e R s m args below meth c T locs cells slots) (hx : p.tables.exec = Jvm.exec) (pc' : Nat) (hp : pc + 1 = pc') {i : Fin 2} (v : Int64) (hd : decode c.code pc = .ok (.lconst i, 1)) (hv : Int64.ofNat i = v) (h : Goes p e below s C S Q T (mkF m pc' Ls (.long v :: rest))) : Goes p e below s C S Q T (mkF m pc Ls rest) := by
  subst hp; subst hv; exact Goes.go (fun _ k => XS.lconst X.here hx rfl hd k) h
theorem own_aconst_null (X : Stand p l e R s m args below meth c T locs cells slots) (hx : p.tables.exec = Jvm.exec) (pc' : Nat) (hp : pc + 1 = pc')  (hd : decode c.code pc = .ok (.aconst_null, 1))  (h : Goes p e below s C S Q T (mkF m pc' Ls (.null :: rest))) : Goes p e below s C S Q T (mkF m pc Ls rest) := by
  subst hp; exact Goes.go (fun _ k => XS.aconstNull X.here hx rfl hd k) h
theorem own_dup (X : Stand p l e R s m args below meth c T locs cells slots) (hx : p.tables.exec = Jvm.exec) (pc' : Nat) (hp : pc + 1 = pc') {v : Value} (hd : decode c.code pc = .ok (.dup, 1)) (hc : v.category = 1) (h : Goes p e below s C S Q T (mkF m pc' Ls (v :: v :: rest))) : Goes p e below s C S Q T (mkF m pc Ls (v :: rest)) := by
  subst hp; exact Goes.go (fun _ k => XS.dup X.here hx rfl hd rfl hc k) h
theorem own_pop (X : Stand p l e R s m args below meth c T locs cells slots) (hx : p.tables.exec = Jvm.exec) (pc' : Nat) (hp : pc + 1 = pc') {v : Value} (hd : decode c.code pc = .ok (.pop, 1)) (hc : v.category = 1) (h : Goes p e below s C S Q T (mkF m pc' Ls rest)) : Goes p e below s C S Q T (mkF m pc Ls (v :: rest)) := by
  subst hp; exact Goes.go (fun _ k => XS.pop X.here hx rfl hd rfl hc k) h
theorem own_dup_x1 (X : Stand p l e R s m args below meth c T locs cells slots) (hx : p.tables.exec = Jvm.exec) (pc' : Nat) (hp : pc + 1 = pc') {v w : Value} (hd : decode c.code pc = .ok (.dup_x1, 1)) (hc : v.category = 1) (hc' : w.category = 1) (h : Goes p e below s C S Q T (mkF m pc' Ls (v :: w :: v :: rest))) : Goes p e below s C S Q T (mkF m pc Ls (v :: w :: rest)) := by
  subst hp; exact Goes.go (fun _ k => XS.dupX1 X.here hx rfl hd rfl hc hc' k) h
theorem own_dup2L (X : Stand p l e R s m args below meth c T locs cells slots) (hx : p.tables.exec = Jvm.exec) (pc' : Nat) (hp : pc + 1 = pc') {v : Int64} (hd : decode c.code pc = .ok (.dup2, 1))  (h : Goes p e below s C S Q T (mkF m pc' Ls (.long v :: .long v :: rest))) : Goes p e below s C S Q T (mkF m pc Ls (.long v :: rest)) := by
  subst hp; exact Goes.go (fun _ k => Jvm.Free.XT.dup2L X.here hx rfl hd rfl k) h
theorem own_dup2 (X : Stand p l e R s m args below meth c T locs cells slots) (hx : p.tables.exec = Jvm.exec) (pc' : Nat) (hp : pc + 1 = pc') {v w : Value} (hd : decode c.code pc = .ok (.dup2, 1)) (hc : v.category = 1) (hc' : w.category = 1) (h : Goes p e below s C S Q T (mkF m pc' Ls (v :: w :: v :: w :: rest))) : Goes p e below s C S Q T (mkF m pc Ls (v :: w :: rest)) := by
  subst hp; exact Goes.go (fun _ k => Jvm.Free.XT.dup2 X.here hx rfl hd rfl hc hc' k) h
theorem own_iinc (X : Stand p l e R s m args below meth c T locs cells slots) (hx : p.tables.exec = Jvm.exec) (pc' : Nat) (hp : pc + 3 = pc') {k : Nat} {cst : Int} {x z : Int32} (Ls' : Array Slot) (hd : decode c.code pc = .ok (.iinc k cst, 3)) (hl : Ls[k]? = some (.val (.int x))) (hz : x + Int32.ofInt cst = z) (hl' : storeLocals Ls k (.int z) = some Ls') (h : Goes p e below s C S Q T (mkF m pc' Ls' rest)) : Goes p e below s C S Q T (mkF m pc Ls rest) := by
  subst hp; subst hz; exact Goes.go (fun _ k => XS.iinc X.here hx rfl hd hl hl' k) h
theorem own_goto (X : Stand p l e R s m args below meth c T locs cells slots) (hx : p.tables.exec = Jvm.exec) (pc' : Nat) {o : Int} (hd : decode c.code pc = .ok (.goto o, 3)) (ho : 0 ≤ (pc : Int) + o) (hp : ((pc : Int) + o).toNat = pc') (h : Goes p e below s C S Q T (mkF m pc' Ls rest)) : Goes p e below s C S Q T (mkF m pc Ls rest) :=
  Goes.go (fun _ k => XS.goto X.here hx rfl rfl hd ho hp k) h
theorem own_ifY (X : Stand p l e R s m args below meth c T locs cells slots) (hx : p.tables.exec = Jvm.exec) (pc' : Nat) {o : Int} {cd : ClassFile.Cond} {x : Int32} (hd : decode c.code pc = .ok (.ifCond cd o, 3)) (hc : ifCond.holds cd x = true) (ho : 0 ≤ (pc : Int) + o) (hp : ((pc : Int) + o).toNat = pc') (h : Goes p e below s C S Q T (mkF m pc' Ls rest)) : Goes p e below s C S Q T (mkF m pc Ls (.int x :: rest)) :=
  Goes.go (fun _ k => XS.ifYes X.here hx rfl rfl hd rfl hc ho hp k) h
theorem own_ifN (X : Stand p l e R s m args below meth c T locs cells slots) (hx : p.tables.exec = Jvm.exec) (pc' : Nat) {o : Int} {cd : ClassFile.Cond} {x : Int32} (hd : decode c.code pc = .ok (.ifCond cd o, 3)) (hc : ifCond.holds cd x = false) (hp : pc + 3 = pc') (h : Goes p e below s C S Q T (mkF m pc' Ls rest)) : Goes p e below s C S Q T (mkF m pc Ls (.int x :: rest)) := by
  subst hp; exact Goes.go (fun _ k => XS.ifNo X.here hx rfl hd rfl hc k) h
theorem own_icmpY (X : Stand p l e R s m args below meth c T locs cells slots) (hx : p.tables.exec = Jvm.exec) (pc' : Nat) {o : Int} {cd : ClassFile.Cond} {x y : Int32} (hd : decode c.code pc = .ok (.if_icmp cd o, 3)) (hc : if_icmp.holds cd x y = true) (ho : 0 ≤ (pc : Int) + o) (hp : ((pc : Int) + o).toNat = pc') (h : Goes p e below s C S Q T (mkF m pc' Ls rest)) : Goes p e below s C S Q T (mkF m pc Ls (.int y :: .int x :: rest)) :=
  Goes.go (fun _ k => XS.icmpYes X.here hx rfl rfl hd rfl hc ho hp k) h
theorem own_icmpN (X : Stand p l e R s m args below meth c T locs cells slots) (hx : p.tables.exec = Jvm.exec) (pc' : Nat) {o : Int} {cd : ClassFile.Cond} {x y : Int32} (hd : decode c.code pc = .ok (.if_icmp cd o, 3)) (hc : if_icmp.holds cd x y = false) (hp : pc + 3 = pc') (h : Goes p e below s C S Q T (mkF m pc' Ls rest)) : Goes p e below s C S Q T (mkF m pc Ls (.int y :: .int x :: rest)) := by
  subst hp; exact Goes.go (fun _ k => XS.icmpNo X.here hx rfl hd rfl hc k) h
theorem own_acmp (X : Stand p l e R s m args below meth c T locs cells slots) (hx : p.tables.exec = Jvm.exec) (pc' : Nat) {o : Int} {cd : ACond} {x y : Value} {same : Bool} (h1 : x.isRef = true) (h2 : y.isRef = true) (hd : decode c.code pc = .ok (.if_acmp cd o, 3)) (hq : decide (x = y) = same) (ho : 0 ≤ (pc : Int) + o) (hp : pc' = if acV cd same = true then ((pc : Int) + o).toNat else pc + 3) (h : Goes p e below s C S Q T (mkF m pc' Ls rest)) : Goes p e below s C S Q T (mkF m pc Ls (y :: x :: rest)) :=
  Goes.go (fun _ k => Jvm.RoadKit.acmp (g := mkF m pc Ls (y :: x :: rest)) X hx rfl h1 h2 rfl hd rfl hq ho hp k) h
theorem own_ifnullY (X : Stand p l e R s m args below meth c T locs cells slots) (hx : p.tables.exec = Jvm.exec) (pc' : Nat) {o : Int} (hd : decode c.code pc = .ok (.ifnull o, 3)) (ho : 0 ≤ (pc : Int) + o) (hp : ((pc : Int) + o).toNat = pc') (h : Goes p e below s C S Q T (mkF m pc' Ls rest)) : Goes p e below s C S Q T (mkF m pc Ls (.null :: rest)) :=
  Goes.go (fun _ k => XS.ifnullYes X.here hx rfl rfl hd rfl ho hp k) h
theorem own_ifnullN (X : Stand p l e R s m args below meth c T locs cells slots) (hx : p.tables.exec = Jvm.exec) (pc' : Nat) {o : Int} {b : Addr} (hd : decode c.code pc = .ok (.ifnull o, 3)) (hp : pc + 3 = pc') (h : Goes p e below s C S Q T (mkF m pc' Ls rest)) : Goes p e below s C S Q T (mkF m pc Ls (.ref b :: rest)) := by
  subst hp; exact Goes.go (fun _ k => XS.ifnullNo X.here hx rfl hd rfl k) h
theorem own_ifnonnullY (X : Stand p l e R s m args below meth c T locs cells slots) (hx : p.tables.exec = Jvm.exec) (pc' : Nat) {o : Int} {b : Addr} (hd : decode c.code pc = .ok (.ifnonnull o, 3)) (ho : 0 ≤ (pc : Int) + o) (hp : ((pc : Int) + o).toNat = pc') (h : Goes p e below s C S Q T (mkF m pc' Ls rest)) : Goes p e below s C S Q T (mkF m pc Ls (.ref b :: rest)) :=
  Goes.go (fun _ k => XS.ifnonnullYes X.here hx rfl rfl hd rfl ho hp k) h
theorem own_ifnonnullN (X : Stand p l e R s m args below meth c T locs cells slots) (hx : p.tables.exec = Jvm.exec) (pc' : Nat) {o : Int} (hd : decode c.code pc = .ok (.ifnonnull o, 3)) (hp : pc + 3 = pc') (h : Goes p e below s C S Q T (mkF m pc' Ls rest)) : Goes p e below s C S Q T (mkF m pc Ls (.null :: rest)) := by
  subst hp; exact Goes.go (fun _ k => XS.ifnonnullNo X.here hx rfl hd rfl k) h
end Steps1
/-- the branches on a long comparison -/
theorem Ltlt {x y : Int64} (h : x < y) : ifCond.holds .lt (lcmpW x y) = true ∧ ifCond.holds .ge (lcmpW x y) = false ∧ ifCond.holds .gt (lcmpW y x) = true ∧ ifCond.holds .le (lcmpW y x) = false :=
  ⟨(if0 _ _).trans (tlt ((lw_lt x y).mpr h)).1, (if0 _ _).trans (tlt ((lw_lt x y).mpr h)).2.1, (if0 _ _).trans (tlt ((lw_gt y x).mpr h)).2.2.1, (if0 _ _).trans (tlt ((lw_gt y x).mpr h)).2.2.2⟩
theorem Lflt {x y : Int64} (h : ¬ x < y) : ifCond.holds .lt (lcmpW x y) = false ∧ ifCond.holds .ge (lcmpW x y) = true ∧ ifCond.holds .gt (lcmpW y x) = false ∧ ifCond.holds .le (lcmpW y x) = true :=
  ⟨(if0 _ _).trans (flt fun q => h ((lw_lt x y).mp q)).1, (if0 _ _).trans (flt fun q => h ((lw_lt x y).mp q)).2.1, (if0 _ _).trans (flt fun q => h ((lw_gt y x).mp q)).2.2.1, (if0 _ _).trans (flt fun q => h ((lw_gt y x).mp q)).2.2.2⟩
theorem Lteq {x y : Int64} (h : x = y) : ifCond.holds .eq (lcmpW x y) = true ∧ ifCond.holds .ne (lcmpW x y) = false :=
  ⟨(if0 _ _).trans (teq ((lw_eq x y).mpr h)).1, (if0 _ _).trans (teq ((lw_eq x y).mpr h)).2⟩
theorem Lfeq {x y : Int64} (h : ¬ x = y) : ifCond.holds .eq (lcmpW x y) = false ∧ ifCond.holds .ne (lcmpW x y) = true :=
  ⟨(if0 _ _).trans (feq fun q => h ((lw_eq x y).mp q)).1, (if0 _ _).trans (feq fun q => h ((lw_eq x y).mp q)).2⟩
theorem Ztlt {x y : Int32} (h : x < y) : if_icmp.holds .lt x y = true ∧ if_icmp.holds .ge x y = false ∧ if_icmp.holds .gt y x = true ∧ if_icmp.holds .le y x = false := tlt h
/-- the pieces of a memory fact -/
theorem own_lt_ne {a b n : Nat} (h : a < n) (g : b = n) : a ≠ b := by omega
end Own
theorem own_eqv {args : Array Value} {s : State} {t u : Term} {v : Value} (hu : u.eval args s none [] s = some v) (h : (Jvm.Cond.eq t u).value args s none s [] = some true) : t.eval args s none [] s = some v := by
  cases ht : t.eval args s none [] s with
  | none => simp [Cond.value, ht] at h
  | some x =>
    simp only [Cond.value, ht, hu] at h
    cases x <;> cases v <;> simp_all
theorem own_fldv {args : Array Value} {s : State} {t u : Term} {a : Addr} {C n d : String} {v : Value} (ev : t.eval args s none [] s = some (.ref a)) (hu : u.eval args s none [] s = some v) (h : (Jvm.Cond.eq (Term.field t C n d) u).value args s none s [] = some true) : s.fieldOf? a C n d = some v :=
  (fld_at ev).symm.trans (own_eqv hu h)
theorem own_sta_keep {Z : State} {h h' : Heap} {C n d : String} {v : Value} {ws : List Addr} (F : Sta Z h C n d v) (K : Keep h h' ws) (q : ∀ x ∈ ws, ∀ cell : Cell, h[x]? = some cell → cell.vm.isStatics = false) : Sta Z h' C n d v := by
  obtain ⟨cf, i, k, f, st, cell, h1, h2, h3, h4, h5, h6, h7⟩ := F
  refine ⟨cf, i, k, f, st, cell, h1, h2, h3, h4, K.2.1 _ _ h5 (fun hm => ?_), h6, h7⟩
  have q1 := q _ hm cell h5
  rw [h6] at q1; cases q1
theorem own_eplain {Z : State} {h : Heap} {a : Addr} {C : String} (F : Exa Z h a C) : ∀ cell : Cell, h[a]? = some cell → cell.vm.isStatics = false := fun cell hc => by
  obtain ⟨c, k, h1, -, -, h4, -⟩ := F; cases h1.symm.trans hc; exact h4
theorem own_rplain {Z : State} {h : Heap} {a : Addr} {c : Cell} {ty : FieldType} (F : Arr Z h a c ty) : ∀ cell : Cell, h[a]? = some cell → cell.vm.isStatics = false := fun cell hc => by
  cases F.1.symm.trans hc; exact F.plain
theorem own_aplain {Z : State} {h : Heap} {a : Addr} {k : ClassId} {ty : FieldType} {n : Int32} {vs : List Value} {dv : Value} (F : Arv Z h a k ty n vs dv) : ∀ cell : Cell, h[a]? = some cell → cell.vm.isStatics = false := by
  obtain ⟨c, A, -⟩ := F; exact own_rplain A
theorem own_selP {s : State} {args : Array Value} {y : MethodName} {n : Nat} (wi : (Jvm.Cond.instantiable y.cls n).before args s = true) (wp : (Jvm.Cond.privateMethod y).before args s = true) (wn : (Jvm.Cond.instanceMethod y).before args s = true) (hy : y.cls ≠ "java/lang/invoke/MethodHandle" ∧ y.cls ≠ "java/lang/invoke/VarHandle") : (Jvm.Cond.selects y.cls y y).before args s = true := by
  obtain ⟨c, k, hc, hk, -, hniab, -, -⟩ := Cond.instantiable_spec wi
  exact Jvm.Stand.selects_self_of_private hc hk (Bool.or_eq_false_iff.mp hniab).1 (Cond.privateMethod_at wp) wn hy
theorem own_f7 (x r : Int32) (h : r = ((x &&& (255 : Int32)) % (7 : Int32))) : 0 ≤ r.toInt ∧ r.toInt ≤ 6 := by
  have hm : (x &&& (255 : Int32)).toInt = x.toInt % 256 := c_mask x (255 : Int32) 8 (by decide) (by decide)
  have hr := (c_irem (x &&& (255 : Int32)) (7 : Int32) 7 (by decide)).1 (by omega)
  rw [← h] at hr; omega
theorem own_b1 (y r : Int32) (h : r = (y &&& (1 : Int32))) : r = (0 : Int32) ∨ r = (1 : Int32) := by
  subst h; exact and_one y
theorem own_pin {r : Int32} {k : Int} {z : Int32} (hz : z.toInt = k) (h : r.toInt = k) : r = z := by rw [← Int32.toInt_inj]; omega
theorem own_gt {r z : Int32} {k : Int} (hz : z.toInt = k) (h : z < r) : k < r.toInt := by rw [Int32.lt_iff_toInt_lt] at h; omega
theorem own_le {r z : Int32} {k : Int} (hz : z.toInt = k) (h : ¬ z < r) : r.toInt ≤ k := by rw [Int32.lt_iff_toInt_lt] at h; omega
theorem own_down {r a b : Int32} (h : ¬ a < r) (hab : a.toInt ≤ b.toInt) : ¬ b < r := by rw [Int32.lt_iff_toInt_lt] at h ⊢; omega
theorem own_atE {r a b : Int64} {i j : Int32} (h : (r = a ∧ i = j) ∨ (r = b ∧ ¬ i = j)) (q : i = j) : r = a := by
  rcases h with h | h
  · exact h.1
  · exact absurd q h.2
theorem own_sh (x d : Int64) (h : d = (x >>> ((1 : Int32) &&& 0x3f).toInt64)) : -4611686018427387904 ≤ d.toInt ∧ d.toInt < 4611686018427387904 := by
  have h1 := c_lshr x (1 : Int32) 1 (by decide)
  have h2 := rng64 x
  have e2 : ((2 ^ 1 : Nat) : Int) = 2 := by decide
  rw [← h, e2] at h1; omega
theorem own_fin {e d P ar br : Int64} (har : ar = e) (hd : -4611686018427387904 ≤ d.toInt ∧ d.toInt < 4611686018427387904) (hP : 0 ≤ P.toInt ∧ P.toInt ≤ 1000000000)
    (h : (br = ((ar + P) - (e + d)) ∧ (0 : Int64) < ((ar + P) - (e + d))) ∨ (br = (0 : Int64) ∧ ¬ (0 : Int64) < ((ar + P) - (e + d)))) : (d < P → br = (P - d)) ∧ (¬ d < P → br = (0 : Int64)) := by
  subst har
  have h1 := c_ladd ar P
  have h2 := c_ladd ar d
  have h3 := c_lsub (ar + P) (ar + d)
  have h4 := c_lsub P d
  have r1 := rng64 ((ar + P) - (ar + d))
  have r2 := rng64 (P - d)
  have e0 : (0 : Int64).toInt = 0 := by decide
  have hx : ((ar + P) - (ar + d)) = (P - d) := by rw [← Int64.toInt_inj]; omega
  rw [hx] at h
  have hv : (P - d).toInt = P.toInt - d.toInt := by omega
  simp only [Int64.lt_iff_toInt_lt, e0, hv] at h ⊢
  refine ⟨fun q => ?_, fun q => ?_⟩
  · rcases h with h | h
    · exact h.1
    · omega
  · rcases h with h | h
    · omega
    · exact h.1
theorem own_d1_0 : decode prog_23_method_1_code 0 = .ok (.aload_n 0, 1) := by decide +kernel
theorem own_d1_1 : decode prog_23_method_1_code 1 = .ok (.invokespecial 1, 3) := by decide +kernel
theorem own_d1_4 : decode prog_23_method_1_code 4 = .ok (.return_, 1) := by decide +kernel
theorem own_pn_com_example_pooler_pooler_pool_Backoff : plainName "com/example/pooler/pooler/pool/Backoff" = true := by first | (simp [plainName, overriddenIn]; done) | decide +kernel
def Q1 (Z : State) (bt : Addr) (h0 : Heap) (n0 : Nat) (v : Option Value) (h : Heap) (L : List Loc) : Prop := v = none ∧ Fr n0 L ∧ h = h0
set_option maxRecDepth 65536 in
set_option maxHeartbeats 40000000 in
theorem rm1 (l : Launch) (Z : State) (a0 : Array Value) (hw : ∀ d ∈ tables_1, d.before a0 Z = true) (ws : List Jvm.Cond) (bt : Addr) (h0 : Heap) (n0 : Nat) (Z0 : n0 ≤ h0.size)  :
    MetFree l (⟨"com/example/pooler/pooler/pool/Backoff", "<init>", "()V"⟩ : MethodName) (head1 (Jvm.Cond.code (⟨"com/example/pooler/pooler/pool/Backoff", "<init>", "()V"⟩ : MethodName) prog_23_method_1_code 1 none :: ws) ({ frames := 1, cells := 0, slots := 0, locals := 12 } : Room)) (fun a U => a = #[(.ref bt)] ∧ Z.Warmed39 U.vm ∧ U.heap = h0) (fun _ _ _ _ _ => True) (fun _ U o U' => ∃ v L, o = .returned v ∧ Q1 Z bt h0 n0 v U'.heap L ∧ FrameEnd U o U' L ({ frames := 1, cells := 0, slots := 0, locals := 12 } : Room).cells ({ frames := 1, cells := 0, slots := 0, locals := 12 } : Room).slots) := by
  refine MetFree.of_bodySF (plainFor_of_name own_pn_com_example_pooler_pooler_pool_Backoff) hisR ?_
  intro p e s m args below meth c s₁ Bd hml0 hP hK
  obtain ⟨rfl, hZ, hh⟩ := hP
  have hx := Bd.exec
  have hby := Bd.bytes
  have hml : c.maxLocals = 1 := hml0
  have hlk := Bd.notSynchronized
  have hown : s.vm.findClass "com/example/pooler/pooler/pool/Backoff" = some m.cls := findClass_of_methodNamed Bd.named
  have hnm := (name_of_methodNamed Bd.named Bd.method).1
  have X0 : Stand p l e ({ frames := 1, cells := 0, slots := 0, locals := 12 } : Room) s m #[(.ref bt)] below meth c s₁ [] 0 0 := Stand.of_body Bd
  have e0 : s₁.heap = h0 := by rw [← hh, Bd.state]; rfl
  have N0 := Fr.nil n0
  refine own_enter (Q := Q1 Z bt h0 n0) (Ls := #[.val (.ref bt)]) (by first | (simp [entryFrame, mkF, argsToLocals, Value.category]; done) | rfl) ?_
  refine own_aloadN X0 hx 1 rfl (hb hby own_d1_0) rfl rfl ?_
  obtain ⟨T1, X1, e1, st1⟩ := initO X0 hx hZ hown (hw _ (List.mem_of_getElem? (i := 6) rfl)) (hw _ (List.mem_of_getElem? (i := 7) rfl)) (hw _ (List.mem_of_getElem? (i := 8) rfl)) e0 (g := (mkF m 1 #[.val (.ref bt)] [(.ref bt)])) rfl (by rw [hml]; rfl) rfl (hb hby own_d1_1) (by decide) (W := 0) (by show 2 * 0 + _ ≤ _; exact Nat.le_of_eq rfl) (by decide)
  refine Goes.go st1 ?_
  show Goes p e below s _ _ _ T1 (mkF m 4 #[.val (.ref bt)] [])
  refine own_retV X1 hx hlk Bd.returns (hb hby own_d1_4) (by decide) (by decide) e1 ?_
  exact ⟨rfl, N0, rfl⟩
theorem own_d6_0 : decode prog_23_method_5_code 0 = .ok (.aload_n 0, 1) := by decide +kernel
theorem own_d6_1 : decode prog_23_method_5_code 1 = .ok (.iconst 1, 1) := by decide +kernel
theorem own_d6_2 : decode prog_23_method_5_code 2 = .ok (.putfield 7, 3) := by decide +kernel
theorem own_d6_5 : decode prog_23_method_5_code 5 = .ok (.aload_n 0, 1) := by decide +kernel
theorem own_d6_6 : decode prog_23_method_5_code 6 = .ok (.lload_n 1, 1) := by decide +kernel
theorem own_d6_7 : decode prog_23_method_5_code 7 = .ok (.putfield 13, 3) := by decide +kernel
theorem own_d6_10 : decode prog_23_method_5_code 10 = .ok (.return_, 1) := by decide +kernel
def Q6 (Z : State) (bt : Addr) (be : Int64) (bu : Int32) (bo : Int64) (bf : Int32) (h0 : Heap) (n0 : Nat) (v : Option Value) (h : Heap) (L : List Loc) : Prop := v = none ∧ Fr n0 L ∧ Keep h0 h [bt] ∧ Fld Z h bt "com/example/pooler/pooler/pool/Backoff" "tried" "Z" (.int (1 : Int32)) ∧ Fld Z h bt "com/example/pooler/pooler/pool/Backoff" "endedAt" "J" (.long be) ∧ Fld Z h bt "com/example/pooler/pooler/pool/Backoff" "failuresInARow" "I" (.int bf)
set_option maxRecDepth 65536 in
set_option maxHeartbeats 40000000 in
theorem rm6 (l : Launch) (Z : State) (a0 : Array Value) (hw : ∀ d ∈ tables_1, d.before a0 Z = true) (ws : List Jvm.Cond) (bt : Addr) (be : Int64) (bu : Int32) (bo : Int64) (bf : Int32) (h0 : Heap) (n0 : Nat) (Z0 : n0 ≤ h0.size) (EB : Exa Z h0 bt "com/example/pooler/pooler/pool/Backoff") (gb : n0 ≤ bt) (Ft : Fld Z h0 bt "com/example/pooler/pooler/pool/Backoff" "tried" "Z" (.int bu)) (Fe : Fld Z h0 bt "com/example/pooler/pooler/pool/Backoff" "endedAt" "J" (.long bo)) (Ff : Fld Z h0 bt "com/example/pooler/pooler/pool/Backoff" "failuresInARow" "I" (.int bf)) :
    MetFree l (⟨"com/example/pooler/pooler/pool/Backoff", "ended", "(J)V"⟩ : MethodName) (head1 (Jvm.Cond.code (⟨"com/example/pooler/pooler/pool/Backoff", "ended", "(J)V"⟩ : MethodName) prog_23_method_5_code 3 none :: ws) ({ frames := 0, cells := 0, slots := 0, locals := 0 } : Room)) (fun a U => a = #[(.ref bt), (.long be)] ∧ Z.Warmed39 U.vm ∧ U.heap = h0) (fun _ _ _ _ _ => True) (fun _ U o U' => ∃ v L, o = .returned v ∧ Q6 Z bt be bu bo bf h0 n0 v U'.heap L ∧ FrameEnd U o U' L ({ frames := 0, cells := 0, slots := 0, locals := 0 } : Room).cells ({ frames := 0, cells := 0, slots := 0, locals := 0 } : Room).slots) := by
  refine MetFree.of_bodySF (plainFor_of_name own_pn_com_example_pooler_pooler_pool_Backoff) hisR ?_
  intro p e s m args below meth c s₁ Bd hml0 hP hK
  obtain ⟨rfl, hZ, hh⟩ := hP
  have hx := Bd.exec
  have hby := Bd.bytes
  have hml : c.maxLocals = 3 := hml0
  have hlk := Bd.notSynchronized
  have hown : s.vm.findClass "com/example/pooler/pooler/pool/Backoff" = some m.cls := findClass_of_methodNamed Bd.named
  have hnm := (name_of_methodNamed Bd.named Bd.method).1
  have X0 : Stand p l e ({ frames := 0, cells := 0, slots := 0, locals := 0 } : Room) s m #[(.ref bt), (.long be)] below meth c s₁ [] 0 0 := Stand.of_body Bd
  have e0 : s₁.heap = h0 := by rw [← hh, Bd.state]; rfl
  have N0 := Fr.nil n0
  have K0 : Keep h0 h0 [bt] := Keep.refl _ _
  refine own_enter (Q := Q6 Z bt be bu bo bf h0 n0) (Ls := #[.val (.ref bt), .val (.long be), .second]) (by first | (simp [entryFrame, mkF, argsToLocals, Value.category]; done) | rfl) ?_
  refine own_aloadN X0 hx 1 rfl (hb hby own_d6_0) rfl rfl ?_
  refine own_iconst X0 hx 2 rfl (1 : Int32) (hb hby own_d6_1) (by decide) ?_
  obtain ⟨T1, h1, X1, e1, W1, st1⟩ := putFN X0 hx hZ hown (hw _ (List.mem_of_getElem? (i := 14) rfl)) Via.refl e0 Ft EB (Or.inl (hw _ (List.mem_of_getElem? (i := 15) rfl))) (hw _ (List.mem_of_getElem? (i := 1) rfl)) (ty := .boolean) (v' := (.int (1 : Int32))) (by decide) rfl (by decide) (g := (mkF m 2 #[.val (.ref bt), .val (.long be), .second] [(.int (1 : Int32)), (.ref bt)])) rfl rfl (hb hby own_d6_2)
  have N1 := Fr.snoc X1 N0 gb
  have f2 := EB.wr W1
  have f3 := Ft.same W1
  have f4 := Fe.other W1 (Or.inr (slot_ne (Or.inl (hw _ (List.mem_of_getElem? (i := 30) rfl))) (Or.inl (hw _ (List.mem_of_getElem? (i := 15) rfl))) (by decide) (t := .long) (t' := .boolean) (by decide) (by decide)))
  have f5 := Ff.other W1 (Or.inr (slot_ne (Or.inl (hw _ (List.mem_of_getElem? (i := 32) rfl))) (Or.inl (hw _ (List.mem_of_getElem? (i := 15) rfl))) (by decide) (t := .int) (t' := .boolean) (by decide) (by decide)))
  have K1 := K0.wr W1 (Or.inl (List.mem_of_getElem? (i := 0) rfl))
  have Z1 := Nat.le_trans Z0 (Nat.le_of_eq W1.size.symm)
  refine Goes.go st1 ?_
  show Goes p e below s _ _ _ T1 (mkF m 5 #[.val (.ref bt), .val (.long be), .second] [])
  refine own_aloadN X1 hx 6 rfl (hb hby own_d6_5) rfl rfl ?_
  refine own_lloadN X1 hx 7 rfl (hb hby own_d6_6) rfl ?_
  obtain ⟨T6, h6, X6, e6, W6, st6⟩ := putF X1 hx hZ hown (host := "") (Or.inl (hw _ (List.mem_of_getElem? (i := 29) rfl))) Via.refl e1 f4 f2 (Or.inl (hw _ (List.mem_of_getElem? (i := 30) rfl))) (hw _ (List.mem_of_getElem? (i := 1) rfl)) (ty := .long) (by decide) rfl rfl (g := (mkF m 7 #[.val (.ref bt), .val (.long be), .second] [(.long be), (.ref bt)])) rfl rfl (hb hby own_d6_7)
  have N6 := Fr.snoc X6 N1 gb
  have f7 := f2.wr W6
  have f8 := f3.other W6 (Or.inr (slot_ne (Or.inl (hw _ (List.mem_of_getElem? (i := 15) rfl))) (Or.inl (hw _ (List.mem_of_getElem? (i := 30) rfl))) (by decide) (t := .boolean) (t' := .long) (by decide) (by decide)))
  have f9 := f4.same W6
  have f10 := f5.other W6 (Or.inr (slot_ne (Or.inl (hw _ (List.mem_of_getElem? (i := 32) rfl))) (Or.inl (hw _ (List.mem_of_getElem? (i := 30) rfl))) (by decide) (t := .int) (t' := .long) (by decide) (by decide)))
  have K6 := K1.wr W6 (Or.inl (List.mem_of_getElem? (i := 0) rfl))
  have Z6 := Nat.le_trans Z1 (Nat.le_of_eq W6.size.symm)
  refine Goes.go st6 ?_
  show Goes p e below s _ _ _ T6 (mkF m 10 #[.val (.ref bt), .val (.long be), .second] [])
  refine own_retV X6 hx hlk Bd.returns (hb hby own_d6_10) (by decide) (by decide) e6 ?_
  exact ⟨rfl, N6, K6, f8, f9, f10⟩
theorem own_pd0 : parseMethodDescriptor "(J)V" = some ⟨[.long], none⟩ := by decide +kernel
theorem own_d5_0 : decode prog_23_method_4_code 0 = .ok (.aload_n 0, 1) := by decide +kernel
theorem own_d5_1 : decode prog_23_method_4_code 1 = .ok (.lload_n 1, 1) := by decide +kernel
theorem own_d5_2 : decode prog_23_method_4_code 2 = .ok (.invokevirtual 27, 3) := by decide +kernel
theorem own_d5_5 : decode prog_23_method_4_code 5 = .ok (.aload_n 0, 1) := by decide +kernel
theorem own_d5_6 : decode prog_23_method_4_code 6 = .ok (.dup, 1) := by decide +kernel
theorem own_d5_7 : decode prog_23_method_4_code 7 = .ok (.getfield 31, 3) := by decide +kernel
theorem own_d5_10 : decode prog_23_method_4_code 10 = .ok (.iconst 1, 1) := by decide +kernel
theorem own_d5_11 : decode prog_23_method_4_code 11 = .ok (.iadd, 1) := by decide +kernel
theorem own_d5_12 : decode prog_23_method_4_code 12 = .ok (.putfield 31, 3) := by decide +kernel
theorem own_d5_15 : decode prog_23_method_4_code 15 = .ok (.return_, 1) := by decide +kernel
def Qfa0 (Z : State) (bt : Addr) (be : Int64) (bu : Int32) (bo : Int64) (h0 : Heap) (n0 : Nat) (v : Option Value) (h : Heap) (L : List Loc) : Prop := v = none ∧ Fr n0 L ∧ Keep h0 h [bt] ∧ Fld Z h bt "com/example/pooler/pooler/pool/Backoff" "tried" "Z" (.int (1 : Int32)) ∧ Fld Z h bt "com/example/pooler/pooler/pool/Backoff" "endedAt" "J" (.long be) ∧ Fld Z h bt "com/example/pooler/pooler/pool/Backoff" "failuresInARow" "I" (.int (1 : Int32))
set_option maxRecDepth 65536 in
set_option maxHeartbeats 40000000 in
theorem rmfa0 (l : Launch) (Z : State) (a0 : Array Value) (hw : ∀ d ∈ tables_1, d.before a0 Z = true) (ws : List Jvm.Cond) (bt : Addr) (be : Int64) (bu : Int32) (bo : Int64) (h0 : Heap) (n0 : Nat) (Z0 : n0 ≤ h0.size) (EB : Exa Z h0 bt "com/example/pooler/pooler/pool/Backoff") (gb : n0 ≤ bt) (Ft : Fld Z h0 bt "com/example/pooler/pooler/pool/Backoff" "tried" "Z" (.int bu)) (Fe : Fld Z h0 bt "com/example/pooler/pooler/pool/Backoff" "endedAt" "J" (.long bo)) (Ff : Fld Z h0 bt "com/example/pooler/pooler/pool/Backoff" "failuresInARow" "I" (.int (0 : Int32))) :
    MetFree l (⟨"com/example/pooler/pooler/pool/Backoff", "failed", "(J)V"⟩ : MethodName) (head1 (Jvm.Cond.code (⟨"com/example/pooler/pooler/pool/Backoff", "failed", "(J)V"⟩ : MethodName) prog_23_method_4_code 3 none :: ws) ({ frames := 1, cells := 0, slots := 0, locals := 14 } : Room)) (fun a U => a = #[(.ref bt), (.long be)] ∧ Z.Warmed39 U.vm ∧ U.heap = h0) (fun _ _ _ _ _ => True) (fun _ U o U' => ∃ v L, o = .returned v ∧ Qfa0 Z bt be bu bo h0 n0 v U'.heap L ∧ FrameEnd U o U' L ({ frames := 1, cells := 0, slots := 0, locals := 14 } : Room).cells ({ frames := 1, cells := 0, slots := 0, locals := 14 } : Room).slots) := by
  refine MetFree.of_bodySF (plainFor_of_name own_pn_com_example_pooler_pooler_pool_Backoff) hisR ?_
  intro p e s m args below meth c s₁ Bd hml0 hP hK
  obtain ⟨rfl, hZ, hh⟩ := hP
  have hx := Bd.exec
  have hby := Bd.bytes
  have hml : c.maxLocals = 3 := hml0
  have hlk := Bd.notSynchronized
  have hown : s.vm.findClass "com/example/pooler/pooler/pool/Backoff" = some m.cls := findClass_of_methodNamed Bd.named
  have hnm := (name_of_methodNamed Bd.named Bd.method).1
  have X0 : Stand p l e ({ frames := 1, cells := 0, slots := 0, locals := 14 } : Room) s m #[(.ref bt), (.long be)] below meth c s₁ [] 0 0 := Stand.of_body Bd
  have e0 : s₁.heap = h0 := by rw [← hh, Bd.state]; rfl
  have N0 := Fr.nil n0
  have K0 : Keep h0 h0 [bt] := Keep.refl _ _
  refine own_enter (Q := Qfa0 Z bt be bu bo h0 n0) (Ls := #[.val (.ref bt), .val (.long be), .second]) (by first | (simp [entryFrame, mkF, argsToLocals, Value.category]; done) | rfl) ?_
  refine own_aloadN X0 hx 1 rfl (hb hby own_d5_0) rfl rfl ?_
  refine own_lloadN X0 hx 2 rfl (hb hby own_d5_1) rfl ?_
  obtain ⟨cq1, q1, q1'⟩ := EB.cell
  obtain ⟨_, _, ⟨T1, L1, k1, n1⟩, -, X1, ⟨Lc1, hQ1, l1, y1, z1⟩, st1⟩ := X0.privateBack hx (y := (⟨"com/example/pooler/pooler/pool/Backoff", "ended", "(J)V"⟩ : MethodName)) hown (mvT hZ (hw _ (List.mem_of_getElem? (i := 25) rfl))) (mvT hZ (hw _ (List.mem_of_getElem? (i := 26) rfl))) (own_selP (mvT hZ (hw _ (List.mem_of_getElem? (i := 1) rfl))) (mvP hZ (hw _ (List.mem_of_getElem? (i := 27) rfl))) (mvT hZ (hw _ (List.mem_of_getElem? (i := 26) rfl))) (by decide)) (Cond.privateMethod_at (mvP hZ (hw _ (List.mem_of_getElem? (i := 27) rfl)) (args := #[]))) (mvT hZ (hw _ (List.mem_of_getElem? (i := 28) rfl))) (by decide) (backOf (W := 0) (rm6 l Z a0 hw [] bt be bu bo (0 : Int32) h0 n0 Z0 EB gb Ft Fe Ff) hZ (hw _ (List.mem_of_getElem? (i := 28) rfl)) (hw _ (List.mem_of_getElem? (i := 2) rfl)) (by decide) (by decide)) (g := (mkF m 2 #[.val (.ref bt), .val (.long be), .second] [(.long be), (.ref bt)])) rfl (by rw [hml]; rfl) (Steps.refl _) (a := bt) (by rw [e0]; exact q1) q1' (argsL := [(.long be)]) (rest := []) (lenOf own_pd0 rfl) rfl (by show 2 * 0 + _ ≤ _; exact Nat.le_of_eq rfl) (hb hby own_d5_2) (fun _ _ => ⟨rfl, e0, (by decide : 0 + 0 ≤ _), (by decide : 0 + 0 ≤ _)⟩)
  dsimp only [Pt.U, Pt.locs, Pt.cells, Pt.slots] at X1 l1 y1 z1 st1 hQ1
  subst l1 y1 z1
  obtain ⟨rfl, N1q, K1q, f1_0, f1_1, f1_2⟩ := hQ1
  have N1 := Fr.app N0 N1q
  have f2 := EB.keep K1q
  have K1 := K0.trans K1q (allS (Or.inl (List.mem_of_getElem? (i := 0) rfl)) all0)
  have Z1 := Nat.le_trans Z0 K1q.1
  refine Goes.tr st1 ?_
  show Goes p e below s _ _ _ T1 (mkF m 5 #[.val (.ref bt), .val (.long be), .second] [])
  refine own_aloadN X1 hx 6 rfl (hb hby own_d5_5) rfl rfl ?_
  refine own_dup X1 hx 7 rfl (hb hby own_d5_6) rfl ?_
  obtain ⟨T3, X3, e3, st3⟩ := getF X1 hx hZ hown (host := "") (Or.inl (hw _ (List.mem_of_getElem? (i := 31) rfl))) Via.refl rfl f1_2 (g := (mkF m 7 #[.val (.ref bt), .val (.long be), .second] [(.ref bt), (.ref bt)])) rfl rfl (hb hby own_d5_7)
  refine Goes.go st3 ?_
  show Goes p e below s _ _ _ T3 (mkF m 10 #[.val (.ref bt), .val (.long be), .second] [(.int (0 : Int32)), (.ref bt)])
  refine own_iconst X3 hx 11 rfl (1 : Int32) (hb hby own_d5_10) (by decide) ?_
  refine own_iadd X3 hx 12 rfl (z := (1 : Int32)) (hb hby own_d5_11) (by decide) ?_
  obtain ⟨T4, h4, X4, e4, W4, st4⟩ := putF X3 hx hZ hown (host := "") (Or.inl (hw _ (List.mem_of_getElem? (i := 31) rfl))) Via.refl e3 f1_2 f2 (Or.inl (hw _ (List.mem_of_getElem? (i := 32) rfl))) (hw _ (List.mem_of_getElem? (i := 1) rfl)) (ty := .int) (by decide) rfl rfl (g := (mkF m 12 #[.val (.ref bt), .val (.long be), .second] [(.int (1 : Int32)), (.ref bt)])) rfl rfl (hb hby own_d5_12)
  have N4 := Fr.snoc X4 N1 gb
  have f5 := f2.wr W4
  have f6 := f1_0.other W4 (Or.inr (slot_ne (Or.inl (hw _ (List.mem_of_getElem? (i := 15) rfl))) (Or.inl (hw _ (List.mem_of_getElem? (i := 32) rfl))) (by decide) (t := .boolean) (t' := .int) (by decide) (by decide)))
  have f7 := f1_1.other W4 (Or.inr (slot_ne (Or.inl (hw _ (List.mem_of_getElem? (i := 30) rfl))) (Or.inl (hw _ (List.mem_of_getElem? (i := 32) rfl))) (by decide) (t := .long) (t' := .int) (by decide) (by decide)))
  have f8 := f1_2.same W4
  have K4 := K1.wr W4 (Or.inl (List.mem_of_getElem? (i := 0) rfl))
  have Z4 := Nat.le_trans Z1 (Nat.le_of_eq W4.size.symm)
  refine Goes.go st4 ?_
  show Goes p e below s _ _ _ T4 (mkF m 15 #[.val (.ref bt), .val (.long be), .second] [])
  refine own_retV X4 hx hlk Bd.returns (hb hby own_d5_15) (by decide) (by decide) e4 ?_
  exact ⟨rfl, N4, K4, f6, f7, f8⟩
def Qfa1 (Z : State) (bt : Addr) (be : Int64) (bu : Int32) (bo : Int64) (h0 : Heap) (n0 : Nat) (v : Option Value) (h : Heap) (L : List Loc) : Prop := v = none ∧ Fr n0 L ∧ Keep h0 h [bt] ∧ Fld Z h bt "com/example/pooler/pooler/pool/Backoff" "tried" "Z" (.int (1 : Int32)) ∧ Fld Z h bt "com/example/pooler/pooler/pool/Backoff" "endedAt" "J" (.long be) ∧ Fld Z h bt "com/example/pooler/pooler/pool/Backoff" "failuresInARow" "I" (.int (2 : Int32))
set_option maxRecDepth 65536 in
set_option maxHeartbeats 40000000 in
theorem rmfa1 (l : Launch) (Z : State) (a0 : Array Value) (hw : ∀ d ∈ tables_1, d.before a0 Z = true) (ws : List Jvm.Cond) (bt : Addr) (be : Int64) (bu : Int32) (bo : Int64) (h0 : Heap) (n0 : Nat) (Z0 : n0 ≤ h0.size) (EB : Exa Z h0 bt "com/example/pooler/pooler/pool/Backoff") (gb : n0 ≤ bt) (Ft : Fld Z h0 bt "com/example/pooler/pooler/pool/Backoff" "tried" "Z" (.int bu)) (Fe : Fld Z h0 bt "com/example/pooler/pooler/pool/Backoff" "endedAt" "J" (.long bo)) (Ff : Fld Z h0 bt "com/example/pooler/pooler/pool/Backoff" "failuresInARow" "I" (.int (1 : Int32))) :
    MetFree l (⟨"com/example/pooler/pooler/pool/Backoff", "failed", "(J)V"⟩ : MethodName) (head1 (Jvm.Cond.code (⟨"com/example/pooler/pooler/pool/Backoff", "failed", "(J)V"⟩ : MethodName) prog_23_method_4_code 3 none :: ws) ({ frames := 1, cells := 0, slots := 0, locals := 14 } : Room)) (fun a U => a = #[(.ref bt), (.long be)] ∧ Z.Warmed39 U.vm ∧ U.heap = h0) (fun _ _ _ _ _ => True) (fun _ U o U' => ∃ v L, o = .returned v ∧ Qfa1 Z bt be bu bo h0 n0 v U'.heap L ∧ FrameEnd U o U' L ({ frames := 1, cells := 0, slots := 0, locals := 14 } : Room).cells ({ frames := 1, cells := 0, slots := 0, locals := 14 } : Room).slots) := by
  refine MetFree.of_bodySF (plainFor_of_name own_pn_com_example_pooler_pooler_pool_Backoff) hisR ?_
  intro p e s m args below meth c s₁ Bd hml0 hP hK
  obtain ⟨rfl, hZ, hh⟩ := hP
  have hx := Bd.exec
  have hby := Bd.bytes
  have hml : c.maxLocals = 3 := hml0
  have hlk := Bd.notSynchronized
  have hown : s.vm.findClass "com/example/pooler/pooler/pool/Backoff" = some m.cls := findClass_of_methodNamed Bd.named
  have hnm := (name_of_methodNamed Bd.named Bd.method).1
  have X0 : Stand p l e ({ frames := 1, cells := 0, slots := 0, locals := 14 } : Room) s m #[(.ref bt), (.long be)] below meth c s₁ [] 0 0 := Stand.of_body Bd
  have e0 : s₁.heap = h0 := by rw [← hh, Bd.state]; rfl
  have N0 := Fr.nil n0
  have K0 : Keep h0 h0 [bt] := Keep.refl _ _
  refine own_enter (Q := Qfa1 Z bt be bu bo h0 n0) (Ls := #[.val (.ref bt), .val (.long be), .second]) (by first | (simp [entryFrame, mkF, argsToLocals, Value.category]; done) | rfl) ?_
  refine own_aloadN X0 hx 1 rfl (hb hby own_d5_0) rfl rfl ?_
  refine own_lloadN X0 hx 2 rfl (hb hby own_d5_1) rfl ?_
  obtain ⟨cq1, q1, q1'⟩ := EB.cell
  obtain ⟨_, _, ⟨T1, L1, k1, n1⟩, -, X1, ⟨Lc1, hQ1, l1, y1, z1⟩, st1⟩ := X0.privateBack hx (y := (⟨"com/example/pooler/pooler/pool/Backoff", "ended", "(J)V"⟩ : MethodName)) hown (mvT hZ (hw _ (List.mem_of_getElem? (i := 25) rfl))) (mvT hZ (hw _ (List.mem_of_getElem? (i := 26) rfl))) (own_selP (mvT hZ (hw _ (List.mem_of_getElem? (i := 1) rfl))) (mvP hZ (hw _ (List.mem_of_getElem? (i := 27) rfl))) (mvT hZ (hw _ (List.mem_of_getElem? (i := 26) rfl))) (by decide)) (Cond.privateMethod_at (mvP hZ (hw _ (List.mem_of_getElem? (i := 27) rfl)) (args := #[]))) (mvT hZ (hw _ (List.mem_of_getElem? (i := 28) rfl))) (by decide) (backOf (W := 0) (rm6 l Z a0 hw [] bt be bu bo (1 : Int32) h0 n0 Z0 EB gb Ft Fe Ff) hZ (hw _ (List.mem_of_getElem? (i := 28) rfl)) (hw _ (List.mem_of_getElem? (i := 2) rfl)) (by decide) (by decide)) (g := (mkF m 2 #[.val (.ref bt), .val (.long be), .second] [(.long be), (.ref bt)])) rfl (by rw [hml]; rfl) (Steps.refl _) (a := bt) (by rw [e0]; exact q1) q1' (argsL := [(.long be)]) (rest := []) (lenOf own_pd0 rfl) rfl (by show 2 * 0 + _ ≤ _; exact Nat.le_of_eq rfl) (hb hby own_d5_2) (fun _ _ => ⟨rfl, e0, (by decide : 0 + 0 ≤ _), (by decide : 0 + 0 ≤ _)⟩)
  dsimp only [Pt.U, Pt.locs, Pt.cells, Pt.slots] at X1 l1 y1 z1 st1 hQ1
  subst l1 y1 z1
  obtain ⟨rfl, N1q, K1q, f1_0, f1_1, f1_2⟩ := hQ1
  have N1 := Fr.app N0 N1q
  have f2 := EB.keep K1q
  have K1 := K0.trans K1q (allS (Or.inl (List.mem_of_getElem? (i := 0) rfl)) all0)
  have Z1 := Nat.le_trans Z0 K1q.1
  refine Goes.tr st1 ?_
  show Goes p e below s _ _ _ T1 (mkF m 5 #[.val (.ref bt), .val (.long be), .second] [])
  refine own_aloadN X1 hx 6 rfl (hb hby own_d5_5) rfl rfl ?_
  refine own_dup X1 hx 7 rfl (hb hby own_d5_6) rfl ?_
  obtain ⟨T3, X3, e3, st3⟩ := getF X1 hx hZ hown (host := "") (Or.inl (hw _ (List.mem_of_getElem? (i := 31) rfl))) Via.refl rfl f1_2 (g := (mkF m 7 #[.val (.ref bt), .val (.long be), .second] [(.ref bt), (.ref bt)])) rfl rfl (hb hby own_d5_7)
  refine Goes.go st3 ?_
  show Goes p e below s _ _ _ T3 (mkF m 10 #[.val (.ref bt), .val (.long be), .second] [(.int (1 : Int32)), (.ref bt)])
  refine own_iconst X3 hx 11 rfl (1 : Int32) (hb hby own_d5_10) (by decide) ?_
  refine own_iadd X3 hx 12 rfl (z := (2 : Int32)) (hb hby own_d5_11) (by decide) ?_
  obtain ⟨T4, h4, X4, e4, W4, st4⟩ := putF X3 hx hZ hown (host := "") (Or.inl (hw _ (List.mem_of_getElem? (i := 31) rfl))) Via.refl e3 f1_2 f2 (Or.inl (hw _ (List.mem_of_getElem? (i := 32) rfl))) (hw _ (List.mem_of_getElem? (i := 1) rfl)) (ty := .int) (by decide) rfl rfl (g := (mkF m 12 #[.val (.ref bt), .val (.long be), .second] [(.int (2 : Int32)), (.ref bt)])) rfl rfl (hb hby own_d5_12)
  have N4 := Fr.snoc X4 N1 gb
  have f5 := f2.wr W4
  have f6 := f1_0.other W4 (Or.inr (slot_ne (Or.inl (hw _ (List.mem_of_getElem? (i := 15) rfl))) (Or.inl (hw _ (List.mem_of_getElem? (i := 32) rfl))) (by decide) (t := .boolean) (t' := .int) (by decide) (by decide)))
  have f7 := f1_1.other W4 (Or.inr (slot_ne (Or.inl (hw _ (List.mem_of_getElem? (i := 30) rfl))) (Or.inl (hw _ (List.mem_of_getElem? (i := 32) rfl))) (by decide) (t := .long) (t' := .int) (by decide) (by decide)))
  have f8 := f1_2.same W4
  have K4 := K1.wr W4 (Or.inl (List.mem_of_getElem? (i := 0) rfl))
  have Z4 := Nat.le_trans Z1 (Nat.le_of_eq W4.size.symm)
  refine Goes.go st4 ?_
  show Goes p e below s _ _ _ T4 (mkF m 15 #[.val (.ref bt), .val (.long be), .second] [])
  refine own_retV X4 hx hlk Bd.returns (hb hby own_d5_15) (by decide) (by decide) e4 ?_
  exact ⟨rfl, N4, K4, f6, f7, f8⟩
def Qfa2 (Z : State) (bt : Addr) (be : Int64) (bu : Int32) (bo : Int64) (h0 : Heap) (n0 : Nat) (v : Option Value) (h : Heap) (L : List Loc) : Prop := v = none ∧ Fr n0 L ∧ Keep h0 h [bt] ∧ Fld Z h bt "com/example/pooler/pooler/pool/Backoff" "tried" "Z" (.int (1 : Int32)) ∧ Fld Z h bt "com/example/pooler/pooler/pool/Backoff" "endedAt" "J" (.long be) ∧ Fld Z h bt "com/example/pooler/pooler/pool/Backoff" "failuresInARow" "I" (.int (3 : Int32))
set_option maxRecDepth 65536 in
set_option maxHeartbeats 40000000 in
theorem rmfa2 (l : Launch) (Z : State) (a0 : Array Value) (hw : ∀ d ∈ tables_1, d.before a0 Z = true) (ws : List Jvm.Cond) (bt : Addr) (be : Int64) (bu : Int32) (bo : Int64) (h0 : Heap) (n0 : Nat) (Z0 : n0 ≤ h0.size) (EB : Exa Z h0 bt "com/example/pooler/pooler/pool/Backoff") (gb : n0 ≤ bt) (Ft : Fld Z h0 bt "com/example/pooler/pooler/pool/Backoff" "tried" "Z" (.int bu)) (Fe : Fld Z h0 bt "com/example/pooler/pooler/pool/Backoff" "endedAt" "J" (.long bo)) (Ff : Fld Z h0 bt "com/example/pooler/pooler/pool/Backoff" "failuresInARow" "I" (.int (2 : Int32))) :
    MetFree l (⟨"com/example/pooler/pooler/pool/Backoff", "failed", "(J)V"⟩ : MethodName) (head1 (Jvm.Cond.code (⟨"com/example/pooler/pooler/pool/Backoff", "failed", "(J)V"⟩ : MethodName) prog_23_method_4_code 3 none :: ws) ({ frames := 1, cells := 0, slots := 0, locals := 14 } : Room)) (fun a U => a = #[(.ref bt), (.long be)] ∧ Z.Warmed39 U.vm ∧ U.heap = h0) (fun _ _ _ _ _ => True) (fun _ U o U' => ∃ v L, o = .returned v ∧ Qfa2 Z bt be bu bo h0 n0 v U'.heap L ∧ FrameEnd U o U' L ({ frames := 1, cells := 0, slots := 0, locals := 14 } : Room).cells ({ frames := 1, cells := 0, slots := 0, locals := 14 } : Room).slots) := by
  refine MetFree.of_bodySF (plainFor_of_name own_pn_com_example_pooler_pooler_pool_Backoff) hisR ?_
  intro p e s m args below meth c s₁ Bd hml0 hP hK
  obtain ⟨rfl, hZ, hh⟩ := hP
  have hx := Bd.exec
  have hby := Bd.bytes
  have hml : c.maxLocals = 3 := hml0
  have hlk := Bd.notSynchronized
  have hown : s.vm.findClass "com/example/pooler/pooler/pool/Backoff" = some m.cls := findClass_of_methodNamed Bd.named
  have hnm := (name_of_methodNamed Bd.named Bd.method).1
  have X0 : Stand p l e ({ frames := 1, cells := 0, slots := 0, locals := 14 } : Room) s m #[(.ref bt), (.long be)] below meth c s₁ [] 0 0 := Stand.of_body Bd
  have e0 : s₁.heap = h0 := by rw [← hh, Bd.state]; rfl
  have N0 := Fr.nil n0
  have K0 : Keep h0 h0 [bt] := Keep.refl _ _
  refine own_enter (Q := Qfa2 Z bt be bu bo h0 n0) (Ls := #[.val (.ref bt), .val (.long be), .second]) (by first | (simp [entryFrame, mkF, argsToLocals, Value.category]; done) | rfl) ?_
  refine own_aloadN X0 hx 1 rfl (hb hby own_d5_0) rfl rfl ?_
  refine own_lloadN X0 hx 2 rfl (hb hby own_d5_1) rfl ?_
  obtain ⟨cq1, q1, q1'⟩ := EB.cell
  obtain ⟨_, _, ⟨T1, L1, k1, n1⟩, -, X1, ⟨Lc1, hQ1, l1, y1, z1⟩, st1⟩ := X0.privateBack hx (y := (⟨"com/example/pooler/pooler/pool/Backoff", "ended", "(J)V"⟩ : MethodName)) hown (mvT hZ (hw _ (List.mem_of_getElem? (i := 25) rfl))) (mvT hZ (hw _ (List.mem_of_getElem? (i := 26) rfl))) (own_selP (mvT hZ (hw _ (List.mem_of_getElem? (i := 1) rfl))) (mvP hZ (hw _ (List.mem_of_getElem? (i := 27) rfl))) (mvT hZ (hw _ (List.mem_of_getElem? (i := 26) rfl))) (by decide)) (Cond.privateMethod_at (mvP hZ (hw _ (List.mem_of_getElem? (i := 27) rfl)) (args := #[]))) (mvT hZ (hw _ (List.mem_of_getElem? (i := 28) rfl))) (by decide) (backOf (W := 0) (rm6 l Z a0 hw [] bt be bu bo (2 : Int32) h0 n0 Z0 EB gb Ft Fe Ff) hZ (hw _ (List.mem_of_getElem? (i := 28) rfl)) (hw _ (List.mem_of_getElem? (i := 2) rfl)) (by decide) (by decide)) (g := (mkF m 2 #[.val (.ref bt), .val (.long be), .second] [(.long be), (.ref bt)])) rfl (by rw [hml]; rfl) (Steps.refl _) (a := bt) (by rw [e0]; exact q1) q1' (argsL := [(.long be)]) (rest := []) (lenOf own_pd0 rfl) rfl (by show 2 * 0 + _ ≤ _; exact Nat.le_of_eq rfl) (hb hby own_d5_2) (fun _ _ => ⟨rfl, e0, (by decide : 0 + 0 ≤ _), (by decide : 0 + 0 ≤ _)⟩)
  dsimp only [Pt.U, Pt.locs, Pt.cells, Pt.slots] at X1 l1 y1 z1 st1 hQ1
  subst l1 y1 z1
  obtain ⟨rfl, N1q, K1q, f1_0, f1_1, f1_2⟩ := hQ1
  have N1 := Fr.app N0 N1q
  have f2 := EB.keep K1q
  have K1 := K0.trans K1q (allS (Or.inl (List.mem_of_getElem? (i := 0) rfl)) all0)
  have Z1 := Nat.le_trans Z0 K1q.1
  refine Goes.tr st1 ?_
  show Goes p e below s _ _ _ T1 (mkF m 5 #[.val (.ref bt), .val (.long be), .second] [])
  refine own_aloadN X1 hx 6 rfl (hb hby own_d5_5) rfl rfl ?_
  refine own_dup X1 hx 7 rfl (hb hby own_d5_6) rfl ?_
  obtain ⟨T3, X3, e3, st3⟩ := getF X1 hx hZ hown (host := "") (Or.inl (hw _ (List.mem_of_getElem? (i := 31) rfl))) Via.refl rfl f1_2 (g := (mkF m 7 #[.val (.ref bt), .val (.long be), .second] [(.ref bt), (.ref bt)])) rfl rfl (hb hby own_d5_7)
  refine Goes.go st3 ?_
  show Goes p e below s _ _ _ T3 (mkF m 10 #[.val (.ref bt), .val (.long be), .second] [(.int (2 : Int32)), (.ref bt)])
  refine own_iconst X3 hx 11 rfl (1 : Int32) (hb hby own_d5_10) (by decide) ?_
  refine own_iadd X3 hx 12 rfl (z := (3 : Int32)) (hb hby own_d5_11) (by decide) ?_
  obtain ⟨T4, h4, X4, e4, W4, st4⟩ := putF X3 hx hZ hown (host := "") (Or.inl (hw _ (List.mem_of_getElem? (i := 31) rfl))) Via.refl e3 f1_2 f2 (Or.inl (hw _ (List.mem_of_getElem? (i := 32) rfl))) (hw _ (List.mem_of_getElem? (i := 1) rfl)) (ty := .int) (by decide) rfl rfl (g := (mkF m 12 #[.val (.ref bt), .val (.long be), .second] [(.int (3 : Int32)), (.ref bt)])) rfl rfl (hb hby own_d5_12)
  have N4 := Fr.snoc X4 N1 gb
  have f5 := f2.wr W4
  have f6 := f1_0.other W4 (Or.inr (slot_ne (Or.inl (hw _ (List.mem_of_getElem? (i := 15) rfl))) (Or.inl (hw _ (List.mem_of_getElem? (i := 32) rfl))) (by decide) (t := .boolean) (t' := .int) (by decide) (by decide)))
  have f7 := f1_1.other W4 (Or.inr (slot_ne (Or.inl (hw _ (List.mem_of_getElem? (i := 30) rfl))) (Or.inl (hw _ (List.mem_of_getElem? (i := 32) rfl))) (by decide) (t := .long) (t' := .int) (by decide) (by decide)))
  have f8 := f1_2.same W4
  have K4 := K1.wr W4 (Or.inl (List.mem_of_getElem? (i := 0) rfl))
  have Z4 := Nat.le_trans Z1 (Nat.le_of_eq W4.size.symm)
  refine Goes.go st4 ?_
  show Goes p e below s _ _ _ T4 (mkF m 15 #[.val (.ref bt), .val (.long be), .second] [])
  refine own_retV X4 hx hlk Bd.returns (hb hby own_d5_15) (by decide) (by decide) e4 ?_
  exact ⟨rfl, N4, K4, f6, f7, f8⟩
def Qfa3 (Z : State) (bt : Addr) (be : Int64) (bu : Int32) (bo : Int64) (h0 : Heap) (n0 : Nat) (v : Option Value) (h : Heap) (L : List Loc) : Prop := v = none ∧ Fr n0 L ∧ Keep h0 h [bt] ∧ Fld Z h bt "com/example/pooler/pooler/pool/Backoff" "tried" "Z" (.int (1 : Int32)) ∧ Fld Z h bt "com/example/pooler/pooler/pool/Backoff" "endedAt" "J" (.long be) ∧ Fld Z h bt "com/example/pooler/pooler/pool/Backoff" "failuresInARow" "I" (.int (4 : Int32))
set_option maxRecDepth 65536 in
set_option maxHeartbeats 40000000 in
theorem rmfa3 (l : Launch) (Z : State) (a0 : Array Value) (hw : ∀ d ∈ tables_1, d.before a0 Z = true) (ws : List Jvm.Cond) (bt : Addr) (be : Int64) (bu : Int32) (bo : Int64) (h0 : Heap) (n0 : Nat) (Z0 : n0 ≤ h0.size) (EB : Exa Z h0 bt "com/example/pooler/pooler/pool/Backoff") (gb : n0 ≤ bt) (Ft : Fld Z h0 bt "com/example/pooler/pooler/pool/Backoff" "tried" "Z" (.int bu)) (Fe : Fld Z h0 bt "com/example/pooler/pooler/pool/Backoff" "endedAt" "J" (.long bo)) (Ff : Fld Z h0 bt "com/example/pooler/pooler/pool/Backoff" "failuresInARow" "I" (.int (3 : Int32))) :
    MetFree l (⟨"com/example/pooler/pooler/pool/Backoff", "failed", "(J)V"⟩ : MethodName) (head1 (Jvm.Cond.code (⟨"com/example/pooler/pooler/pool/Backoff", "failed", "(J)V"⟩ : MethodName) prog_23_method_4_code 3 none :: ws) ({ frames := 1, cells := 0, slots := 0, locals := 14 } : Room)) (fun a U => a = #[(.ref bt), (.long be)] ∧ Z.Warmed39 U.vm ∧ U.heap = h0) (fun _ _ _ _ _ => True) (fun _ U o U' => ∃ v L, o = .returned v ∧ Qfa3 Z bt be bu bo h0 n0 v U'.heap L ∧ FrameEnd U o U' L ({ frames := 1, cells := 0, slots := 0, locals := 14 } : Room).cells ({ frames := 1, cells := 0, slots := 0, locals := 14 } : Room).slots) := by
  refine MetFree.of_bodySF (plainFor_of_name own_pn_com_example_pooler_pooler_pool_Backoff) hisR ?_
  intro p e s m args below meth c s₁ Bd hml0 hP hK
  obtain ⟨rfl, hZ, hh⟩ := hP
  have hx := Bd.exec
  have hby := Bd.bytes
  have hml : c.maxLocals = 3 := hml0
  have hlk := Bd.notSynchronized
  have hown : s.vm.findClass "com/example/pooler/pooler/pool/Backoff" = some m.cls := findClass_of_methodNamed Bd.named
  have hnm := (name_of_methodNamed Bd.named Bd.method).1
  have X0 : Stand p l e ({ frames := 1, cells := 0, slots := 0, locals := 14 } : Room) s m #[(.ref bt), (.long be)] below meth c s₁ [] 0 0 := Stand.of_body Bd
  have e0 : s₁.heap = h0 := by rw [← hh, Bd.state]; rfl
  have N0 := Fr.nil n0
  have K0 : Keep h0 h0 [bt] := Keep.refl _ _
  refine own_enter (Q := Qfa3 Z bt be bu bo h0 n0) (Ls := #[.val (.ref bt), .val (.long be), .second]) (by first | (simp [entryFrame, mkF, argsToLocals, Value.category]; done) | rfl) ?_
  refine own_aloadN X0 hx 1 rfl (hb hby own_d5_0) rfl rfl ?_
  refine own_lloadN X0 hx 2 rfl (hb hby own_d5_1) rfl ?_
  obtain ⟨cq1, q1, q1'⟩ := EB.cell
  obtain ⟨_, _, ⟨T1, L1, k1, n1⟩, -, X1, ⟨Lc1, hQ1, l1, y1, z1⟩, st1⟩ := X0.privateBack hx (y := (⟨"com/example/pooler/pooler/pool/Backoff", "ended", "(J)V"⟩ : MethodName)) hown (mvT hZ (hw _ (List.mem_of_getElem? (i := 25) rfl))) (mvT hZ (hw _ (List.mem_of_getElem? (i := 26) rfl))) (own_selP (mvT hZ (hw _ (List.mem_of_getElem? (i := 1) rfl))) (mvP hZ (hw _ (List.mem_of_getElem? (i := 27) rfl))) (mvT hZ (hw _ (List.mem_of_getElem? (i := 26) rfl))) (by decide)) (Cond.privateMethod_at (mvP hZ (hw _ (List.mem_of_getElem? (i := 27) rfl)) (args := #[]))) (mvT hZ (hw _ (List.mem_of_getElem? (i := 28) rfl))) (by decide) (backOf (W := 0) (rm6 l Z a0 hw [] bt be bu bo (3 : Int32) h0 n0 Z0 EB gb Ft Fe Ff) hZ (hw _ (List.mem_of_getElem? (i := 28) rfl)) (hw _ (List.mem_of_getElem? (i := 2) rfl)) (by decide) (by decide)) (g := (mkF m 2 #[.val (.ref bt), .val (.long be), .second] [(.long be), (.ref bt)])) rfl (by rw [hml]; rfl) (Steps.refl _) (a := bt) (by rw [e0]; exact q1) q1' (argsL := [(.long be)]) (rest := []) (lenOf own_pd0 rfl) rfl (by show 2 * 0 + _ ≤ _; exact Nat.le_of_eq rfl) (hb hby own_d5_2) (fun _ _ => ⟨rfl, e0, (by decide : 0 + 0 ≤ _), (by decide : 0 + 0 ≤ _)⟩)
  dsimp only [Pt.U, Pt.locs, Pt.cells, Pt.slots] at X1 l1 y1 z1 st1 hQ1
  subst l1 y1 z1
  obtain ⟨rfl, N1q, K1q, f1_0, f1_1, f1_2⟩ := hQ1
  have N1 := Fr.app N0 N1q
  have f2 := EB.keep K1q
  have K1 := K0.trans K1q (allS (Or.inl (List.mem_of_getElem? (i := 0) rfl)) all0)
  have Z1 := Nat.le_trans Z0 K1q.1
  refine Goes.tr st1 ?_
  show Goes p e below s _ _ _ T1 (mkF m 5 #[.val (.ref bt), .val (.long be), .second] [])
  refine own_aloadN X1 hx 6 rfl (hb hby own_d5_5) rfl rfl ?_
  refine own_dup X1 hx 7 rfl (hb hby own_d5_6) rfl ?_
  obtain ⟨T3, X3, e3, st3⟩ := getF X1 hx hZ hown (host := "") (Or.inl (hw _ (List.mem_of_getElem? (i := 31) rfl))) Via.refl rfl f1_2 (g := (mkF m 7 #[.val (.ref bt), .val (.long be), .second] [(.ref bt), (.ref bt)])) rfl rfl (hb hby own_d5_7)
  refine Goes.go st3 ?_
  show Goes p e below s _ _ _ T3 (mkF m 10 #[.val (.ref bt), .val (.long be), .second] [(.int (3 : Int32)), (.ref bt)])
  refine own_iconst X3 hx 11 rfl (1 : Int32) (hb hby own_d5_10) (by decide) ?_
  refine own_iadd X3 hx 12 rfl (z := (4 : Int32)) (hb hby own_d5_11) (by decide) ?_
  obtain ⟨T4, h4, X4, e4, W4, st4⟩ := putF X3 hx hZ hown (host := "") (Or.inl (hw _ (List.mem_of_getElem? (i := 31) rfl))) Via.refl e3 f1_2 f2 (Or.inl (hw _ (List.mem_of_getElem? (i := 32) rfl))) (hw _ (List.mem_of_getElem? (i := 1) rfl)) (ty := .int) (by decide) rfl rfl (g := (mkF m 12 #[.val (.ref bt), .val (.long be), .second] [(.int (4 : Int32)), (.ref bt)])) rfl rfl (hb hby own_d5_12)
  have N4 := Fr.snoc X4 N1 gb
  have f5 := f2.wr W4
  have f6 := f1_0.other W4 (Or.inr (slot_ne (Or.inl (hw _ (List.mem_of_getElem? (i := 15) rfl))) (Or.inl (hw _ (List.mem_of_getElem? (i := 32) rfl))) (by decide) (t := .boolean) (t' := .int) (by decide) (by decide)))
  have f7 := f1_1.other W4 (Or.inr (slot_ne (Or.inl (hw _ (List.mem_of_getElem? (i := 30) rfl))) (Or.inl (hw _ (List.mem_of_getElem? (i := 32) rfl))) (by decide) (t := .long) (t' := .int) (by decide) (by decide)))
  have f8 := f1_2.same W4
  have K4 := K1.wr W4 (Or.inl (List.mem_of_getElem? (i := 0) rfl))
  have Z4 := Nat.le_trans Z1 (Nat.le_of_eq W4.size.symm)
  refine Goes.go st4 ?_
  show Goes p e below s _ _ _ T4 (mkF m 15 #[.val (.ref bt), .val (.long be), .second] [])
  refine own_retV X4 hx hlk Bd.returns (hb hby own_d5_15) (by decide) (by decide) e4 ?_
  exact ⟨rfl, N4, K4, f6, f7, f8⟩
def Qfa4 (Z : State) (bt : Addr) (be : Int64) (bu : Int32) (bo : Int64) (h0 : Heap) (n0 : Nat) (v : Option Value) (h : Heap) (L : List Loc) : Prop := v = none ∧ Fr n0 L ∧ Keep h0 h [bt] ∧ Fld Z h bt "com/example/pooler/pooler/pool/Backoff" "tried" "Z" (.int (1 : Int32)) ∧ Fld Z h bt "com/example/pooler/pooler/pool/Backoff" "endedAt" "J" (.long be) ∧ Fld Z h bt "com/example/pooler/pooler/pool/Backoff" "failuresInARow" "I" (.int (5 : Int32))
set_option maxRecDepth 65536 in
set_option maxHeartbeats 40000000 in
theorem rmfa4 (l : Launch) (Z : State) (a0 : Array Value) (hw : ∀ d ∈ tables_1, d.before a0 Z = true) (ws : List Jvm.Cond) (bt : Addr) (be : Int64) (bu : Int32) (bo : Int64) (h0 : Heap) (n0 : Nat) (Z0 : n0 ≤ h0.size) (EB : Exa Z h0 bt "com/example/pooler/pooler/pool/Backoff") (gb : n0 ≤ bt) (Ft : Fld Z h0 bt "com/example/pooler/pooler/pool/Backoff" "tried" "Z" (.int bu)) (Fe : Fld Z h0 bt "com/example/pooler/pooler/pool/Backoff" "endedAt" "J" (.long bo)) (Ff : Fld Z h0 bt "com/example/pooler/pooler/pool/Backoff" "failuresInARow" "I" (.int (4 : Int32))) :
    MetFree l (⟨"com/example/pooler/pooler/pool/Backoff", "failed", "(J)V"⟩ : MethodName) (head1 (Jvm.Cond.code (⟨"com/example/pooler/pooler/pool/Backoff", "failed", "(J)V"⟩ : MethodName) prog_23_method_4_code 3 none :: ws) ({ frames := 1, cells := 0, slots := 0, locals := 14 } : Room)) (fun a U => a = #[(.ref bt), (.long be)] ∧ Z.Warmed39 U.vm ∧ U.heap = h0) (fun _ _ _ _ _ => True) (fun _ U o U' => ∃ v L, o = .returned v ∧ Qfa4 Z bt be bu bo h0 n0 v U'.heap L ∧ FrameEnd U o U' L ({ frames := 1, cells := 0, slots := 0, locals := 14 } : Room).cells ({ frames := 1, cells := 0, slots := 0, locals := 14 } : Room).slots) := by
  refine MetFree.of_bodySF (plainFor_of_name own_pn_com_example_pooler_pooler_pool_Backoff) hisR ?_
  intro p e s m args below meth c s₁ Bd hml0 hP hK
  obtain ⟨rfl, hZ, hh⟩ := hP
  have hx := Bd.exec
  have hby := Bd.bytes
  have hml : c.maxLocals = 3 := hml0
  have hlk := Bd.notSynchronized
  have hown : s.vm.findClass "com/example/pooler/pooler/pool/Backoff" = some m.cls := findClass_of_methodNamed Bd.named
  have hnm := (name_of_methodNamed Bd.named Bd.method).1
  have X0 : Stand p l e ({ frames := 1, cells := 0, slots := 0, locals := 14 } : Room) s m #[(.ref bt), (.long be)] below meth c s₁ [] 0 0 := Stand.of_body Bd
  have e0 : s₁.heap = h0 := by rw [← hh, Bd.state]; rfl
  have N0 := Fr.nil n0
  have K0 : Keep h0 h0 [bt] := Keep.refl _ _
  refine own_enter (Q := Qfa4 Z bt be bu bo h0 n0) (Ls := #[.val (.ref bt), .val (.long be), .second]) (by first | (simp [entryFrame, mkF, argsToLocals, Value.category]; done) | rfl) ?_
  refine own_aloadN X0 hx 1 rfl (hb hby own_d5_0) rfl rfl ?_
  refine own_lloadN X0 hx 2 rfl (hb hby own_d5_1) rfl ?_
  obtain ⟨cq1, q1, q1'⟩ := EB.cell
  obtain ⟨_, _, ⟨T1, L1, k1, n1⟩, -, X1, ⟨Lc1, hQ1, l1, y1, z1⟩, st1⟩ := X0.privateBack hx (y := (⟨"com/example/pooler/pooler/pool/Backoff", "ended", "(J)V"⟩ : MethodName)) hown (mvT hZ (hw _ (List.mem_of_getElem? (i := 25) rfl))) (mvT hZ (hw _ (List.mem_of_getElem? (i := 26) rfl))) (own_selP (mvT hZ (hw _ (List.mem_of_getElem? (i := 1) rfl))) (mvP hZ (hw _ (List.mem_of_getElem? (i := 27) rfl))) (mvT hZ (hw _ (List.mem_of_getElem? (i := 26) rfl))) (by decide)) (Cond.privateMethod_at (mvP hZ (hw _ (List.mem_of_getElem? (i := 27) rfl)) (args := #[]))) (mvT hZ (hw _ (List.mem_of_getElem? (i := 28) rfl))) (by decide) (backOf (W := 0) (rm6 l Z a0 hw [] bt be bu bo (4 : Int32) h0 n0 Z0 EB gb Ft Fe Ff) hZ (hw _ (List.mem_of_getElem? (i := 28) rfl)) (hw _ (List.mem_of_getElem? (i := 2) rfl)) (by decide) (by decide)) (g := (mkF m 2 #[.val (.ref bt), .val (.long be), .second] [(.long be), (.ref bt)])) rfl (by rw [hml]; rfl) (Steps.refl _) (a := bt) (by rw [e0]; exact q1) q1' (argsL := [(.long be)]) (rest := []) (lenOf own_pd0 rfl) rfl (by show 2 * 0 + _ ≤ _; exact Nat.le_of_eq rfl) (hb hby own_d5_2) (fun _ _ => ⟨rfl, e0, (by decide : 0 + 0 ≤ _), (by decide : 0 + 0 ≤ _)⟩)
  dsimp only [Pt.U, Pt.locs, Pt.cells, Pt.slots] at X1 l1 y1 z1 st1 hQ1
  subst l1 y1 z1
  obtain ⟨rfl, N1q, K1q, f1_0, f1_1, f1_2⟩ := hQ1
  have N1 := Fr.app N0 N1q
  have f2 := EB.keep K1q
  have K1 := K0.trans K1q (allS (Or.inl (List.mem_of_getElem? (i := 0) rfl)) all0)
  have Z1 := Nat.le_trans Z0 K1q.1
  refine Goes.tr st1 ?_
  show Goes p e below s _ _ _ T1 (mkF m 5 #[.val (.ref bt), .val (.long be), .second] [])
  refine own_aloadN X1 hx 6 rfl (hb hby own_d5_5) rfl rfl ?_
  refine own_dup X1 hx 7 rfl (hb hby own_d5_6) rfl ?_
  obtain ⟨T3, X3, e3, st3⟩ := getF X1 hx hZ hown (host := "") (Or.inl (hw _ (List.mem_of_getElem? (i := 31) rfl))) Via.refl rfl f1_2 (g := (mkF m 7 #[.val (.ref bt), .val (.long be), .second] [(.ref bt), (.ref bt)])) rfl rfl (hb hby own_d5_7)
  refine Goes.go st3 ?_
  show Goes p e below s _ _ _ T3 (mkF m 10 #[.val (.ref bt), .val (.long be), .second] [(.int (4 : Int32)), (.ref bt)])
  refine own_iconst X3 hx 11 rfl (1 : Int32) (hb hby own_d5_10) (by decide) ?_
  refine own_iadd X3 hx 12 rfl (z := (5 : Int32)) (hb hby own_d5_11) (by decide) ?_
  obtain ⟨T4, h4, X4, e4, W4, st4⟩ := putF X3 hx hZ hown (host := "") (Or.inl (hw _ (List.mem_of_getElem? (i := 31) rfl))) Via.refl e3 f1_2 f2 (Or.inl (hw _ (List.mem_of_getElem? (i := 32) rfl))) (hw _ (List.mem_of_getElem? (i := 1) rfl)) (ty := .int) (by decide) rfl rfl (g := (mkF m 12 #[.val (.ref bt), .val (.long be), .second] [(.int (5 : Int32)), (.ref bt)])) rfl rfl (hb hby own_d5_12)
  have N4 := Fr.snoc X4 N1 gb
  have f5 := f2.wr W4
  have f6 := f1_0.other W4 (Or.inr (slot_ne (Or.inl (hw _ (List.mem_of_getElem? (i := 15) rfl))) (Or.inl (hw _ (List.mem_of_getElem? (i := 32) rfl))) (by decide) (t := .boolean) (t' := .int) (by decide) (by decide)))
  have f7 := f1_1.other W4 (Or.inr (slot_ne (Or.inl (hw _ (List.mem_of_getElem? (i := 30) rfl))) (Or.inl (hw _ (List.mem_of_getElem? (i := 32) rfl))) (by decide) (t := .long) (t' := .int) (by decide) (by decide)))
  have f8 := f1_2.same W4
  have K4 := K1.wr W4 (Or.inl (List.mem_of_getElem? (i := 0) rfl))
  have Z4 := Nat.le_trans Z1 (Nat.le_of_eq W4.size.symm)
  refine Goes.go st4 ?_
  show Goes p e below s _ _ _ T4 (mkF m 15 #[.val (.ref bt), .val (.long be), .second] [])
  refine own_retV X4 hx hlk Bd.returns (hb hby own_d5_15) (by decide) (by decide) e4 ?_
  exact ⟨rfl, N4, K4, f6, f7, f8⟩
def Qfa5 (Z : State) (bt : Addr) (be : Int64) (bu : Int32) (bo : Int64) (h0 : Heap) (n0 : Nat) (v : Option Value) (h : Heap) (L : List Loc) : Prop := v = none ∧ Fr n0 L ∧ Keep h0 h [bt] ∧ Fld Z h bt "com/example/pooler/pooler/pool/Backoff" "tried" "Z" (.int (1 : Int32)) ∧ Fld Z h bt "com/example/pooler/pooler/pool/Backoff" "endedAt" "J" (.long be) ∧ Fld Z h bt "com/example/pooler/pooler/pool/Backoff" "failuresInARow" "I" (.int (6 : Int32))
set_option maxRecDepth 65536 in
set_option maxHeartbeats 40000000 in
theorem rmfa5 (l : Launch) (Z : State) (a0 : Array Value) (hw : ∀ d ∈ tables_1, d.before a0 Z = true) (ws : List Jvm.Cond) (bt : Addr) (be : Int64) (bu : Int32) (bo : Int64) (h0 : Heap) (n0 : Nat) (Z0 : n0 ≤ h0.size) (EB : Exa Z h0 bt "com/example/pooler/pooler/pool/Backoff") (gb : n0 ≤ bt) (Ft : Fld Z h0 bt "com/example/pooler/pooler/pool/Backoff" "tried" "Z" (.int bu)) (Fe : Fld Z h0 bt "com/example/pooler/pooler/pool/Backoff" "endedAt" "J" (.long bo)) (Ff : Fld Z h0 bt "com/example/pooler/pooler/pool/Backoff" "failuresInARow" "I" (.int (5 : Int32))) :
    MetFree l (⟨"com/example/pooler/pooler/pool/Backoff", "failed", "(J)V"⟩ : MethodName) (head1 (Jvm.Cond.code (⟨"com/example/pooler/pooler/pool/Backoff", "failed", "(J)V"⟩ : MethodName) prog_23_method_4_code 3 none :: ws) ({ frames := 1, cells := 0, slots := 0, locals := 14 } : Room)) (fun a U => a = #[(.ref bt), (.long be)] ∧ Z.Warmed39 U.vm ∧ U.heap = h0) (fun _ _ _ _ _ => True) (fun _ U o U' => ∃ v L, o = .returned v ∧ Qfa5 Z bt be bu bo h0 n0 v U'.heap L ∧ FrameEnd U o U' L ({ frames := 1, cells := 0, slots := 0, locals := 14 } : Room).cells ({ frames := 1, cells := 0, slots := 0, locals := 14 } : Room).slots) := by
  refine MetFree.of_bodySF (plainFor_of_name own_pn_com_example_pooler_pooler_pool_Backoff) hisR ?_
  intro p e s m args below meth c s₁ Bd hml0 hP hK
  obtain ⟨rfl, hZ, hh⟩ := hP
  have hx := Bd.exec
  have hby := Bd.bytes
  have hml : c.maxLocals = 3 := hml0
  have hlk := Bd.notSynchronized
  have hown : s.vm.findClass "com/example/pooler/pooler/pool/Backoff" = some m.cls := findClass_of_methodNamed Bd.named
  have hnm := (name_of_methodNamed Bd.named Bd.method).1
  have X0 : Stand p l e ({ frames := 1, cells := 0, slots := 0, locals := 14 } : Room) s m #[(.ref bt), (.long be)] below meth c s₁ [] 0 0 := Stand.of_body Bd
  have e0 : s₁.heap = h0 := by rw [← hh, Bd.state]; rfl
  have N0 := Fr.nil n0
  have K0 : Keep h0 h0 [bt] := Keep.refl _ _
  refine own_enter (Q := Qfa5 Z bt be bu bo h0 n0) (Ls := #[.val (.ref bt), .val (.long be), .second]) (by first | (simp [entryFrame, mkF, argsToLocals, Value.category]; done) | rfl) ?_
  refine own_aloadN X0 hx 1 rfl (hb hby own_d5_0) rfl rfl ?_
  refine own_lloadN X0 hx 2 rfl (hb hby own_d5_1) rfl ?_
  obtain ⟨cq1, q1, q1'⟩ := EB.cell
  obtain ⟨_, _, ⟨T1, L1, k1, n1⟩, -, X1, ⟨Lc1, hQ1, l1, y1, z1⟩, st1⟩ := X0.privateBack hx (y := (⟨"com/example/pooler/pooler/pool/Backoff", "ended", "(J)V"⟩ : MethodName)) hown (mvT hZ (hw _ (List.mem_of_getElem? (i := 25) rfl))) (mvT hZ (hw _ (List.mem_of_getElem? (i := 26) rfl))) (own_selP (mvT hZ (hw _ (List.mem_of_getElem? (i := 1) rfl))) (mvP hZ (hw _ (List.mem_of_getElem? (i := 27) rfl))) (mvT hZ (hw _ (List.mem_of_getElem? (i := 26) rfl))) (by decide)) (Cond.privateMethod_at (mvP hZ (hw _ (List.mem_of_getElem? (i := 27) rfl)) (args := #[]))) (mvT hZ (hw _ (List.mem_of_getElem? (i := 28) rfl))) (by decide) (backOf (W := 0) (rm6 l Z a0 hw [] bt be bu bo (5 : Int32) h0 n0 Z0 EB gb Ft Fe Ff) hZ (hw _ (List.mem_of_getElem? (i := 28) rfl)) (hw _ (List.mem_of_getElem? (i := 2) rfl)) (by decide) (by decide)) (g := (mkF m 2 #[.val (.ref bt), .val (.long be), .second] [(.long be), (.ref bt)])) rfl (by rw [hml]; rfl) (Steps.refl _) (a := bt) (by rw [e0]; exact q1) q1' (argsL := [(.long be)]) (rest := []) (lenOf own_pd0 rfl) rfl (by show 2 * 0 + _ ≤ _; exact Nat.le_of_eq rfl) (hb hby own_d5_2) (fun _ _ => ⟨rfl, e0, (by decide : 0 + 0 ≤ _), (by decide : 0 + 0 ≤ _)⟩)
  dsimp only [Pt.U, Pt.locs, Pt.cells, Pt.slots] at X1 l1 y1 z1 st1 hQ1
  subst l1 y1 z1
  obtain ⟨rfl, N1q, K1q, f1_0, f1_1, f1_2⟩ := hQ1
  have N1 := Fr.app N0 N1q
  have f2 := EB.keep K1q
  have K1 := K0.trans K1q (allS (Or.inl (List.mem_of_getElem? (i := 0) rfl)) all0)
  have Z1 := Nat.le_trans Z0 K1q.1
  refine Goes.tr st1 ?_
  show Goes p e below s _ _ _ T1 (mkF m 5 #[.val (.ref bt), .val (.long be), .second] [])
  refine own_aloadN X1 hx 6 rfl (hb hby own_d5_5) rfl rfl ?_
  refine own_dup X1 hx 7 rfl (hb hby own_d5_6) rfl ?_
  obtain ⟨T3, X3, e3, st3⟩ := getF X1 hx hZ hown (host := "") (Or.inl (hw _ (List.mem_of_getElem? (i := 31) rfl))) Via.refl rfl f1_2 (g := (mkF m 7 #[.val (.ref bt), .val (.long be), .second] [(.ref bt), (.ref bt)])) rfl rfl (hb hby own_d5_7)
  refine Goes.go st3 ?_
  show Goes p e below s _ _ _ T3 (mkF m 10 #[.val (.ref bt), .val (.long be), .second] [(.int (5 : Int32)), (.ref bt)])
  refine own_iconst X3 hx 11 rfl (1 : Int32) (hb hby own_d5_10) (by decide) ?_
  refine own_iadd X3 hx 12 rfl (z := (6 : Int32)) (hb hby own_d5_11) (by decide) ?_
  obtain ⟨T4, h4, X4, e4, W4, st4⟩ := putF X3 hx hZ hown (host := "") (Or.inl (hw _ (List.mem_of_getElem? (i := 31) rfl))) Via.refl e3 f1_2 f2 (Or.inl (hw _ (List.mem_of_getElem? (i := 32) rfl))) (hw _ (List.mem_of_getElem? (i := 1) rfl)) (ty := .int) (by decide) rfl rfl (g := (mkF m 12 #[.val (.ref bt), .val (.long be), .second] [(.int (6 : Int32)), (.ref bt)])) rfl rfl (hb hby own_d5_12)
  have N4 := Fr.snoc X4 N1 gb
  have f5 := f2.wr W4
  have f6 := f1_0.other W4 (Or.inr (slot_ne (Or.inl (hw _ (List.mem_of_getElem? (i := 15) rfl))) (Or.inl (hw _ (List.mem_of_getElem? (i := 32) rfl))) (by decide) (t := .boolean) (t' := .int) (by decide) (by decide)))
  have f7 := f1_1.other W4 (Or.inr (slot_ne (Or.inl (hw _ (List.mem_of_getElem? (i := 30) rfl))) (Or.inl (hw _ (List.mem_of_getElem? (i := 32) rfl))) (by decide) (t := .long) (t' := .int) (by decide) (by decide)))
  have f8 := f1_2.same W4
  have K4 := K1.wr W4 (Or.inl (List.mem_of_getElem? (i := 0) rfl))
  have Z4 := Nat.le_trans Z1 (Nat.le_of_eq W4.size.symm)
  refine Goes.go st4 ?_
  show Goes p e below s _ _ _ T4 (mkF m 15 #[.val (.ref bt), .val (.long be), .second] [])
  refine own_retV X4 hx hlk Bd.returns (hb hby own_d5_15) (by decide) (by decide) e4 ?_
  exact ⟨rfl, N4, K4, f6, f7, f8⟩
def Qfa6 (Z : State) (bt : Addr) (be : Int64) (bu : Int32) (bo : Int64) (h0 : Heap) (n0 : Nat) (v : Option Value) (h : Heap) (L : List Loc) : Prop := v = none ∧ Fr n0 L ∧ Keep h0 h [bt] ∧ Fld Z h bt "com/example/pooler/pooler/pool/Backoff" "tried" "Z" (.int (1 : Int32)) ∧ Fld Z h bt "com/example/pooler/pooler/pool/Backoff" "endedAt" "J" (.long be) ∧ Fld Z h bt "com/example/pooler/pooler/pool/Backoff" "failuresInARow" "I" (.int (7 : Int32))
set_option maxRecDepth 65536 in
set_option maxHeartbeats 40000000 in
theorem rmfa6 (l : Launch) (Z : State) (a0 : Array Value) (hw : ∀ d ∈ tables_1, d.before a0 Z = true) (ws : List Jvm.Cond) (bt : Addr) (be : Int64) (bu : Int32) (bo : Int64) (h0 : Heap) (n0 : Nat) (Z0 : n0 ≤ h0.size) (EB : Exa Z h0 bt "com/example/pooler/pooler/pool/Backoff") (gb : n0 ≤ bt) (Ft : Fld Z h0 bt "com/example/pooler/pooler/pool/Backoff" "tried" "Z" (.int bu)) (Fe : Fld Z h0 bt "com/example/pooler/pooler/pool/Backoff" "endedAt" "J" (.long bo)) (Ff : Fld Z h0 bt "com/example/pooler/pooler/pool/Backoff" "failuresInARow" "I" (.int (6 : Int32))) :
    MetFree l (⟨"com/example/pooler/pooler/pool/Backoff", "failed", "(J)V"⟩ : MethodName) (head1 (Jvm.Cond.code (⟨"com/example/pooler/pooler/pool/Backoff", "failed", "(J)V"⟩ : MethodName) prog_23_method_4_code 3 none :: ws) ({ frames := 1, cells := 0, slots := 0, locals := 14 } : Room)) (fun a U => a = #[(.ref bt), (.long be)] ∧ Z.Warmed39 U.vm ∧ U.heap = h0) (fun _ _ _ _ _ => True) (fun _ U o U' => ∃ v L, o = .returned v ∧ Qfa6 Z bt be bu bo h0 n0 v U'.heap L ∧ FrameEnd U o U' L ({ frames := 1, cells := 0, slots := 0, locals := 14 } : Room).cells ({ frames := 1, cells := 0, slots := 0, locals := 14 } : Room).slots) := by
  refine MetFree.of_bodySF (plainFor_of_name own_pn_com_example_pooler_pooler_pool_Backoff) hisR ?_
  intro p e s m args below meth c s₁ Bd hml0 hP hK
  obtain ⟨rfl, hZ, hh⟩ := hP
  have hx := Bd.exec
  have hby := Bd.bytes
  have hml : c.maxLocals = 3 := hml0
  have hlk := Bd.notSynchronized
  have hown : s.vm.findClass "com/example/pooler/pooler/pool/Backoff" = some m.cls := findClass_of_methodNamed Bd.named
  have hnm := (name_of_methodNamed Bd.named Bd.method).1
  have X0 : Stand p l e ({ frames := 1, cells := 0, slots := 0, locals := 14 } : Room) s m #[(.ref bt), (.long be)] below meth c s₁ [] 0 0 := Stand.of_body Bd
  have e0 : s₁.heap = h0 := by rw [← hh, Bd.state]; rfl
  have N0 := Fr.nil n0
  have K0 : Keep h0 h0 [bt] := Keep.refl _ _
  refine own_enter (Q := Qfa6 Z bt be bu bo h0 n0) (Ls := #[.val (.ref bt), .val (.long be), .second]) (by first | (simp [entryFrame, mkF, argsToLocals, Value.category]; done) | rfl) ?_
  refine own_aloadN X0 hx 1 rfl (hb hby own_d5_0) rfl rfl ?_
  refine own_lloadN X0 hx 2 rfl (hb hby own_d5_1) rfl ?_
  obtain ⟨cq1, q1, q1'⟩ := EB.cell
  obtain ⟨_, _, ⟨T1, L1, k1, n1⟩, -, X1, ⟨Lc1, hQ1, l1, y1, z1⟩, st1⟩ := X0.privateBack hx (y := (⟨"com/example/pooler/pooler/pool/Backoff", "ended", "(J)V"⟩ : MethodName)) hown (mvT hZ (hw _ (List.mem_of_getElem? (i := 25) rfl))) (mvT hZ (hw _ (List.mem_of_getElem? (i := 26) rfl))) (own_selP (mvT hZ (hw _ (List.mem_of_getElem? (i := 1) rfl))) (mvP hZ (hw _ (List.mem_of_getElem? (i := 27) rfl))) (mvT hZ (hw _ (List.mem_of_getElem? (i := 26) rfl))) (by decide)) (Cond.privateMethod_at (mvP hZ (hw _ (List.mem_of_getElem? (i := 27) rfl)) (args := #[]))) (mvT hZ (hw _ (List.mem_of_getElem? (i := 28) rfl))) (by decide) (backOf (W := 0) (rm6 l Z a0 hw [] bt be bu bo (6 : Int32) h0 n0 Z0 EB gb Ft Fe Ff) hZ (hw _ (List.mem_of_getElem? (i := 28) rfl)) (hw _ (List.mem_of_getElem? (i := 2) rfl)) (by decide) (by decide)) (g := (mkF m 2 #[.val (.ref bt), .val (.long be), .second] [(.long be), (.ref bt)])) rfl (by rw [hml]; rfl) (Steps.refl _) (a := bt) (by rw [e0]; exact q1) q1' (argsL := [(.long be)]) (rest := []) (lenOf own_pd0 rfl) rfl (by show 2 * 0 + _ ≤ _; exact Nat.le_of_eq rfl) (hb hby own_d5_2) (fun _ _ => ⟨rfl, e0, (by decide : 0 + 0 ≤ _), (by decide : 0 + 0 ≤ _)⟩)
  dsimp only [Pt.U, Pt.locs, Pt.cells, Pt.slots] at X1 l1 y1 z1 st1 hQ1
  subst l1 y1 z1
  obtain ⟨rfl, N1q, K1q, f1_0, f1_1, f1_2⟩ := hQ1
  have N1 := Fr.app N0 N1q
  have f2 := EB.keep K1q
  have K1 := K0.trans K1q (allS (Or.inl (List.mem_of_getElem? (i := 0) rfl)) all0)
  have Z1 := Nat.le_trans Z0 K1q.1
  refine Goes.tr st1 ?_
  show Goes p e below s _ _ _ T1 (mkF m 5 #[.val (.ref bt), .val (.long be), .second] [])
  refine own_aloadN X1 hx 6 rfl (hb hby own_d5_5) rfl rfl ?_
  refine own_dup X1 hx 7 rfl (hb hby own_d5_6) rfl ?_
  obtain ⟨T3, X3, e3, st3⟩ := getF X1 hx hZ hown (host := "") (Or.inl (hw _ (List.mem_of_getElem? (i := 31) rfl))) Via.refl rfl f1_2 (g := (mkF m 7 #[.val (.ref bt), .val (.long be), .second] [(.ref bt), (.ref bt)])) rfl rfl (hb hby own_d5_7)
  refine Goes.go st3 ?_
  show Goes p e below s _ _ _ T3 (mkF m 10 #[.val (.ref bt), .val (.long be), .second] [(.int (6 : Int32)), (.ref bt)])
  refine own_iconst X3 hx 11 rfl (1 : Int32) (hb hby own_d5_10) (by decide) ?_
  refine own_iadd X3 hx 12 rfl (z := (7 : Int32)) (hb hby own_d5_11) (by decide) ?_
  obtain ⟨T4, h4, X4, e4, W4, st4⟩ := putF X3 hx hZ hown (host := "") (Or.inl (hw _ (List.mem_of_getElem? (i := 31) rfl))) Via.refl e3 f1_2 f2 (Or.inl (hw _ (List.mem_of_getElem? (i := 32) rfl))) (hw _ (List.mem_of_getElem? (i := 1) rfl)) (ty := .int) (by decide) rfl rfl (g := (mkF m 12 #[.val (.ref bt), .val (.long be), .second] [(.int (7 : Int32)), (.ref bt)])) rfl rfl (hb hby own_d5_12)
  have N4 := Fr.snoc X4 N1 gb
  have f5 := f2.wr W4
  have f6 := f1_0.other W4 (Or.inr (slot_ne (Or.inl (hw _ (List.mem_of_getElem? (i := 15) rfl))) (Or.inl (hw _ (List.mem_of_getElem? (i := 32) rfl))) (by decide) (t := .boolean) (t' := .int) (by decide) (by decide)))
  have f7 := f1_1.other W4 (Or.inr (slot_ne (Or.inl (hw _ (List.mem_of_getElem? (i := 30) rfl))) (Or.inl (hw _ (List.mem_of_getElem? (i := 32) rfl))) (by decide) (t := .long) (t' := .int) (by decide) (by decide)))
  have f8 := f1_2.same W4
  have K4 := K1.wr W4 (Or.inl (List.mem_of_getElem? (i := 0) rfl))
  have Z4 := Nat.le_trans Z1 (Nat.le_of_eq W4.size.symm)
  refine Goes.go st4 ?_
  show Goes p e below s _ _ _ T4 (mkF m 15 #[.val (.ref bt), .val (.long be), .second] [])
  refine own_retV X4 hx hlk Bd.returns (hb hby own_d5_15) (by decide) (by decide) e4 ?_
  exact ⟨rfl, N4, K4, f6, f7, f8⟩
theorem own_d11_0 : decode prog_23_method_3_code 0 = .ok (.aload_n 0, 1) := by decide +kernel
theorem own_d11_1 : decode prog_23_method_3_code 1 = .ok (.lload_n 1, 1) := by decide +kernel
theorem own_d11_2 : decode prog_23_method_3_code 2 = .ok (.invokevirtual 27, 3) := by decide +kernel
theorem own_d11_5 : decode prog_23_method_3_code 5 = .ok (.aload_n 0, 1) := by decide +kernel
theorem own_d11_6 : decode prog_23_method_3_code 6 = .ok (.iconst 0, 1) := by decide +kernel
theorem own_d11_7 : decode prog_23_method_3_code 7 = .ok (.putfield 31, 3) := by decide +kernel
theorem own_d11_10 : decode prog_23_method_3_code 10 = .ok (.return_, 1) := by decide +kernel
def Q11 (Z : State) (bt : Addr) (be : Int64) (bu : Int32) (bo : Int64) (bf : Int32) (h0 : Heap) (n0 : Nat) (v : Option Value) (h : Heap) (L : List Loc) : Prop := v = none ∧ Fr n0 L ∧ Keep h0 h [bt] ∧ Fld Z h bt "com/example/pooler/pooler/pool/Backoff" "tried" "Z" (.int (1 : Int32)) ∧ Fld Z h bt "com/example/pooler/pooler/pool/Backoff" "endedAt" "J" (.long be) ∧ Fld Z h bt "com/example/pooler/pooler/pool/Backoff" "failuresInARow" "I" (.int (0 : Int32))
set_option maxRecDepth 65536 in
set_option maxHeartbeats 40000000 in
theorem rm11 (l : Launch) (Z : State) (a0 : Array Value) (hw : ∀ d ∈ tables_1, d.before a0 Z = true) (ws : List Jvm.Cond) (bt : Addr) (be : Int64) (bu : Int32) (bo : Int64) (bf : Int32) (h0 : Heap) (n0 : Nat) (Z0 : n0 ≤ h0.size) (EB : Exa Z h0 bt "com/example/pooler/pooler/pool/Backoff") (gb : n0 ≤ bt) (Ft : Fld Z h0 bt "com/example/pooler/pooler/pool/Backoff" "tried" "Z" (.int bu)) (Fe : Fld Z h0 bt "com/example/pooler/pooler/pool/Backoff" "endedAt" "J" (.long bo)) (Ff : Fld Z h0 bt "com/example/pooler/pooler/pool/Backoff" "failuresInARow" "I" (.int bf)) :
    MetFree l (⟨"com/example/pooler/pooler/pool/Backoff", "opened", "(J)V"⟩ : MethodName) (head1 (Jvm.Cond.code (⟨"com/example/pooler/pooler/pool/Backoff", "opened", "(J)V"⟩ : MethodName) prog_23_method_3_code 3 none :: ws) ({ frames := 1, cells := 0, slots := 0, locals := 14 } : Room)) (fun a U => a = #[(.ref bt), (.long be)] ∧ Z.Warmed39 U.vm ∧ U.heap = h0) (fun _ _ _ _ _ => True) (fun _ U o U' => ∃ v L, o = .returned v ∧ Q11 Z bt be bu bo bf h0 n0 v U'.heap L ∧ FrameEnd U o U' L ({ frames := 1, cells := 0, slots := 0, locals := 14 } : Room).cells ({ frames := 1, cells := 0, slots := 0, locals := 14 } : Room).slots) := by
  refine MetFree.of_bodySF (plainFor_of_name own_pn_com_example_pooler_pooler_pool_Backoff) hisR ?_
  intro p e s m args below meth c s₁ Bd hml0 hP hK
  obtain ⟨rfl, hZ, hh⟩ := hP
  have hx := Bd.exec
  have hby := Bd.bytes
  have hml : c.maxLocals = 3 := hml0
  have hlk := Bd.notSynchronized
  have hown : s.vm.findClass "com/example/pooler/pooler/pool/Backoff" = some m.cls := findClass_of_methodNamed Bd.named
  have hnm := (name_of_methodNamed Bd.named Bd.method).1
  have X0 : Stand p l e ({ frames := 1, cells := 0, slots := 0, locals := 14 } : Room) s m #[(.ref bt), (.long be)] below meth c s₁ [] 0 0 := Stand.of_body Bd
  have e0 : s₁.heap = h0 := by rw [← hh, Bd.state]; rfl
  have N0 := Fr.nil n0
  have K0 : Keep h0 h0 [bt] := Keep.refl _ _
  refine own_enter (Q := Q11 Z bt be bu bo bf h0 n0) (Ls := #[.val (.ref bt), .val (.long be), .second]) (by first | (simp [entryFrame, mkF, argsToLocals, Value.category]; done) | rfl) ?_
  refine own_aloadN X0 hx 1 rfl (hb hby own_d11_0) rfl rfl ?_
  refine own_lloadN X0 hx 2 rfl (hb hby own_d11_1) rfl ?_
  obtain ⟨cq1, q1, q1'⟩ := EB.cell
  obtain ⟨_, _, ⟨T1, L1, k1, n1⟩, -, X1, ⟨Lc1, hQ1, l1, y1, z1⟩, st1⟩ := X0.privateBack hx (y := (⟨"com/example/pooler/pooler/pool/Backoff", "ended", "(J)V"⟩ : MethodName)) hown (mvT hZ (hw _ (List.mem_of_getElem? (i := 25) rfl))) (mvT hZ (hw _ (List.mem_of_getElem? (i := 26) rfl))) (own_selP (mvT hZ (hw _ (List.mem_of_getElem? (i := 1) rfl))) (mvP hZ (hw _ (List.mem_of_getElem? (i := 27) rfl))) (mvT hZ (hw _ (List.mem_of_getElem? (i := 26) rfl))) (by decide)) (Cond.privateMethod_at (mvP hZ (hw _ (List.mem_of_getElem? (i := 27) rfl)) (args := #[]))) (mvT hZ (hw _ (List.mem_of_getElem? (i := 28) rfl))) (by decide) (backOf (W := 0) (rm6 l Z a0 hw [] bt be bu bo bf h0 n0 Z0 EB gb Ft Fe Ff) hZ (hw _ (List.mem_of_getElem? (i := 28) rfl)) (hw _ (List.mem_of_getElem? (i := 2) rfl)) (by decide) (by decide)) (g := (mkF m 2 #[.val (.ref bt), .val (.long be), .second] [(.long be), (.ref bt)])) rfl (by rw [hml]; rfl) (Steps.refl _) (a := bt) (by rw [e0]; exact q1) q1' (argsL := [(.long be)]) (rest := []) (lenOf own_pd0 rfl) rfl (by show 2 * 0 + _ ≤ _; exact Nat.le_of_eq rfl) (hb hby own_d11_2) (fun _ _ => ⟨rfl, e0, (by decide : 0 + 0 ≤ _), (by decide : 0 + 0 ≤ _)⟩)
  dsimp only [Pt.U, Pt.locs, Pt.cells, Pt.slots] at X1 l1 y1 z1 st1 hQ1
  subst l1 y1 z1
  obtain ⟨rfl, N1q, K1q, f1_0, f1_1, f1_2⟩ := hQ1
  have N1 := Fr.app N0 N1q
  have f2 := EB.keep K1q
  have K1 := K0.trans K1q (allS (Or.inl (List.mem_of_getElem? (i := 0) rfl)) all0)
  have Z1 := Nat.le_trans Z0 K1q.1
  refine Goes.tr st1 ?_
  show Goes p e below s _ _ _ T1 (mkF m 5 #[.val (.ref bt), .val (.long be), .second] [])
  refine own_aloadN X1 hx 6 rfl (hb hby own_d11_5) rfl rfl ?_
  refine own_iconst X1 hx 7 rfl (0 : Int32) (hb hby own_d11_6) (by decide) ?_
  obtain ⟨T3, h3, X3, e3, W3, st3⟩ := putF X1 hx hZ hown (host := "") (Or.inl (hw _ (List.mem_of_getElem? (i := 31) rfl))) Via.refl rfl f1_2 f2 (Or.inl (hw _ (List.mem_of_getElem? (i := 32) rfl))) (hw _ (List.mem_of_getElem? (i := 1) rfl)) (ty := .int) (by decide) rfl rfl (g := (mkF m 7 #[.val (.ref bt), .val (.long be), .second] [(.int (0 : Int32)), (.ref bt)])) rfl rfl (hb hby own_d11_7)
  have N3 := Fr.snoc X3 N1 gb
  have f4 := f2.wr W3
  have f5 := f1_0.other W3 (Or.inr (slot_ne (Or.inl (hw _ (List.mem_of_getElem? (i := 15) rfl))) (Or.inl (hw _ (List.mem_of_getElem? (i := 32) rfl))) (by decide) (t := .boolean) (t' := .int) (by decide) (by decide)))
  have f6 := f1_1.other W3 (Or.inr (slot_ne (Or.inl (hw _ (List.mem_of_getElem? (i := 30) rfl))) (Or.inl (hw _ (List.mem_of_getElem? (i := 32) rfl))) (by decide) (t := .long) (t' := .int) (by decide) (by decide)))
  have f7 := f1_2.same W3
  have K3 := K1.wr W3 (Or.inl (List.mem_of_getElem? (i := 0) rfl))
  have Z3 := Nat.le_trans Z1 (Nat.le_of_eq W3.size.symm)
  refine Goes.go st3 ?_
  show Goes p e below s _ _ _ T3 (mkF m 10 #[.val (.ref bt), .val (.long be), .second] [])
  refine own_retV X3 hx hlk Bd.returns (hb hby own_d11_10) (by decide) (by decide) e3 ?_
  exact ⟨rfl, N3, K3, f5, f6, f7⟩
theorem own_d9_0 : decode jdk_29_method_66_code 0 = .ok (.lload_n 0, 1) := by decide +kernel
theorem own_d9_1 : decode jdk_29_method_66_code 1 = .ok (.lload_n 2, 1) := by decide +kernel
theorem own_d9_2 : decode jdk_29_method_66_code 2 = .ok (.lcmp, 1) := by decide +kernel
theorem own_d9_3 : decode jdk_29_method_66_code 3 = .ok (.ifCond .lt 7, 3) := by decide +kernel
theorem own_d9_6 : decode jdk_29_method_66_code 6 = .ok (.lload_n 0, 1) := by decide +kernel
theorem own_d9_7 : decode jdk_29_method_66_code 7 = .ok (.goto 4, 3) := by decide +kernel
theorem own_d9_10 : decode jdk_29_method_66_code 10 = .ok (.lload_n 2, 1) := by decide +kernel
theorem own_d9_11 : decode jdk_29_method_66_code 11 = .ok (.lreturn, 1) := by decide +kernel
def Q9 (Z : State) (mx : Int64) (my : Int64) (h0 : Heap) (n0 : Nat) (v : Option Value) (h : Heap) (L : List Loc) : Prop := ∃ mr : Int64, v = some (.long mr) ∧ Fr n0 L ∧ h = h0 ∧ ((mr = my ∧ mx < my) ∨ (mr = mx ∧ ¬ mx < my))
set_option maxRecDepth 65536 in
set_option maxHeartbeats 40000000 in
theorem rm9 (l : Launch) (Z : State) (a0 : Array Value) (hw : ∀ d ∈ tables_1, d.before a0 Z = true) (ws : List Jvm.Cond) (mx : Int64) (my : Int64) (h0 : Heap) (n0 : Nat) (Z0 : n0 ≤ h0.size)  :
    MetFree l (⟨"java/lang/Math", "max", "(JJ)J"⟩ : MethodName) (head1 (Jvm.Cond.code (⟨"java/lang/Math", "max", "(JJ)J"⟩ : MethodName) jdk_29_method_66_code 4 (some .long) :: ws) ({ frames := 0, cells := 0, slots := 0, locals := 0 } : Room)) (fun a U => a = #[(.long mx), (.long my)] ∧ Z.Warmed39 U.vm ∧ U.heap = h0) (fun _ _ _ _ _ => True) (fun _ U o U' => ∃ v L, o = .returned v ∧ Q9 Z mx my h0 n0 v U'.heap L ∧ FrameEnd U o U' L ({ frames := 0, cells := 0, slots := 0, locals := 0 } : Room).cells ({ frames := 0, cells := 0, slots := 0, locals := 0 } : Room).slots) := by
  refine MetFree.of_bodySF (Jvm.Free.JP.mathPlain rfl (by decide +kernel)) hisR ?_
  intro p e s m args below meth c s₁ Bd hml0 hP hK
  obtain ⟨rfl, hZ, hh⟩ := hP
  have hx := Bd.exec
  have hby := Bd.bytes
  have hml : c.maxLocals = 4 := hml0
  have hlk := Bd.notSynchronized
  have hown : s.vm.findClass "java/lang/Math" = some m.cls := findClass_of_methodNamed Bd.named
  have hnm := (name_of_methodNamed Bd.named Bd.method).1
  have X0 : Stand p l e ({ frames := 0, cells := 0, slots := 0, locals := 0 } : Room) s m #[(.long mx), (.long my)] below meth c s₁ [] 0 0 := Stand.of_body Bd
  have e0 : s₁.heap = h0 := by rw [← hh, Bd.state]; rfl
  have N0 := Fr.nil n0
  refine own_enter (Q := Q9 Z mx my h0 n0) (Ls := #[.val (.long mx), .second, .val (.long my), .second]) (by first | (simp [entryFrame, mkF, argsToLocals, Value.category]; done) | rfl) ?_
  refine own_lloadN X0 hx 1 rfl (hb hby own_d9_0) rfl ?_
  refine own_lloadN X0 hx 2 rfl (hb hby own_d9_1) rfl ?_
  refine own_lcmp X0 hx 3 rfl (hb hby own_d9_2) ?_
  by_cases hc3_1 : mx < my
  · refine own_ifY X0 hx 10 (hb hby own_d9_3) (Ltlt hc3_1).1 (by decide) (by decide) ?_
    refine own_lloadN X0 hx 11 rfl (hb hby own_d9_10) rfl ?_
    refine own_retJ X0 hx hlk Bd.returns (hb hby own_d9_11) (by decide) (by decide) e0 ?_
    exact ⟨my, rfl, N0, rfl, (by simp +decide [hc3_1])⟩
  · refine own_ifN X0 hx 6 (hb hby own_d9_3) (Lflt hc3_1).1 rfl ?_
    refine own_lloadN X0 hx 7 rfl (hb hby own_d9_6) rfl ?_
    refine own_goto X0 hx 11 (hb hby own_d9_7) (by decide) (by decide) ?_
    refine own_retJ X0 hx hlk Bd.returns (hb hby own_d9_11) (by decide) (by decide) e0 ?_
    exact ⟨mx, rfl, N0, rfl, (by simp +decide [hc3_1])⟩
theorem own_d8_0 : decode jdk_29_method_70_code 0 = .ok (.lload_n 0, 1) := by decide +kernel
theorem own_d8_1 : decode jdk_29_method_70_code 1 = .ok (.lload_n 2, 1) := by decide +kernel
theorem own_d8_2 : decode jdk_29_method_70_code 2 = .ok (.lcmp, 1) := by decide +kernel
theorem own_d8_3 : decode jdk_29_method_70_code 3 = .ok (.ifCond .gt 7, 3) := by decide +kernel
theorem own_d8_6 : decode jdk_29_method_70_code 6 = .ok (.lload_n 0, 1) := by decide +kernel
theorem own_d8_7 : decode jdk_29_method_70_code 7 = .ok (.goto 4, 3) := by decide +kernel
theorem own_d8_11 : decode jdk_29_method_70_code 11 = .ok (.lreturn, 1) := by decide +kernel
def Qmi100000000 (Z : State)  (h0 : Heap) (n0 : Nat) (v : Option Value) (h : Heap) (L : List Loc) : Prop := v = some (.long (100000000 : Int64)) ∧ Fr n0 L ∧ h = h0
set_option maxRecDepth 65536 in
set_option maxHeartbeats 40000000 in
theorem rmmi100000000 (l : Launch) (Z : State) (a0 : Array Value) (hw : ∀ d ∈ tables_1, d.before a0 Z = true) (ws : List Jvm.Cond)  (h0 : Heap) (n0 : Nat) (Z0 : n0 ≤ h0.size)  :
    MetFree l (⟨"java/lang/Math", "min", "(JJ)J"⟩ : MethodName) (head1 (Jvm.Cond.code (⟨"java/lang/Math", "min", "(JJ)J"⟩ : MethodName) jdk_29_method_70_code 4 (some .long) :: ws) ({ frames := 0, cells := 0, slots := 0, locals := 0 } : Room)) (fun a U => a = #[(.long (100000000 : Int64)), (.long (1000000000 : Int64))] ∧ Z.Warmed39 U.vm ∧ U.heap = h0) (fun _ _ _ _ _ => True) (fun _ U o U' => ∃ v L, o = .returned v ∧ Qmi100000000 Z  h0 n0 v U'.heap L ∧ FrameEnd U o U' L ({ frames := 0, cells := 0, slots := 0, locals := 0 } : Room).cells ({ frames := 0, cells := 0, slots := 0, locals := 0 } : Room).slots) := by
  refine MetFree.of_bodySF (Jvm.Free.JP.mathPlain rfl (by decide +kernel)) hisR ?_
  intro p e s m args below meth c s₁ Bd hml0 hP hK
  obtain ⟨rfl, hZ, hh⟩ := hP
  have hx := Bd.exec
  have hby := Bd.bytes
  have hml : c.maxLocals = 4 := hml0
  have hlk := Bd.notSynchronized
  have hown : s.vm.findClass "java/lang/Math" = some m.cls := findClass_of_methodNamed Bd.named
  have hnm := (name_of_methodNamed Bd.named Bd.method).1
  have X0 : Stand p l e ({ frames := 0, cells := 0, slots := 0, locals := 0 } : Room) s m #[(.long (100000000 : Int64)), (.long (1000000000 : Int64))] below meth c s₁ [] 0 0 := Stand.of_body Bd
  have e0 : s₁.heap = h0 := by rw [← hh, Bd.state]; rfl
  have N0 := Fr.nil n0
  refine own_enter (Q := Qmi100000000 Z  h0 n0) (Ls := #[.val (.long (100000000 : Int64)), .second, .val (.long (1000000000 : Int64)), .second]) (by first | (simp [entryFrame, mkF, argsToLocals, Value.category]; done) | rfl) ?_
  refine own_lloadN X0 hx 1 rfl (hb hby own_d8_0) rfl ?_
  refine own_lloadN X0 hx 2 rfl (hb hby own_d8_1) rfl ?_
  refine own_lcmp X0 hx 3 rfl (hb hby own_d8_2) ?_
  refine own_ifN X0 hx 6 (hb hby own_d8_3) (Lflt ((by decide) : ¬ ((1000000000 : Int64) < (100000000 : Int64)))).2.2.1 rfl ?_
  refine own_lloadN X0 hx 7 rfl (hb hby own_d8_6) rfl ?_
  refine own_goto X0 hx 11 (hb hby own_d8_7) (by decide) (by decide) ?_
  refine own_retJ X0 hx hlk Bd.returns (hb hby own_d8_11) (by decide) (by decide) e0 ?_
  exact ⟨rfl, N0, rfl⟩
theorem own_pd1 : parseMethodDescriptor "(JJ)J" = some ⟨[.long, .long], some .long⟩ := by decide +kernel
theorem own_d7_0 : decode prog_23_method_6_code 0 = .ok (.getstatic 35, 3) := by decide +kernel
theorem own_d7_3 : decode prog_23_method_6_code 3 = .ok (.lstore_n 1, 1) := by decide +kernel
theorem own_d7_4 : decode prog_23_method_6_code 4 = .ok (.iconst 1, 1) := by decide +kernel
theorem own_d7_5 : decode prog_23_method_6_code 5 = .ok (.istore_n 3, 1) := by decide +kernel
theorem own_d7_6 : decode prog_23_method_6_code 6 = .ok (.iload_n 3, 1) := by decide +kernel
theorem own_d7_7 : decode prog_23_method_6_code 7 = .ok (.aload_n 0, 1) := by decide +kernel
theorem own_d7_8 : decode prog_23_method_6_code 8 = .ok (.getfield 31, 3) := by decide +kernel
theorem own_d7_11 : decode prog_23_method_6_code 11 = .ok (.if_icmp .ge 23, 3) := by decide +kernel
theorem own_d7_34 : decode prog_23_method_6_code 34 = .ok (.lload_n 1, 1) := by decide +kernel
theorem own_d7_35 : decode prog_23_method_6_code 35 = .ok (.getstatic 38, 3) := by decide +kernel
theorem own_d7_38 : decode prog_23_method_6_code 38 = .ok (.invokestatic 43, 3) := by decide +kernel
theorem own_d7_41 : decode prog_23_method_6_code 41 = .ok (.lreturn, 1) := by decide +kernel
def Qpa0 (Z : State) (bt : Addr) (h0 : Heap) (n0 : Nat) (v : Option Value) (h : Heap) (L : List Loc) : Prop := v = some (.long (100000000 : Int64)) ∧ Fr n0 L ∧ h = h0
set_option maxRecDepth 65536 in
set_option maxHeartbeats 40000000 in
theorem rmpa0 (l : Launch) (Z : State) (a0 : Array Value) (hw : ∀ d ∈ tables_1, d.before a0 Z = true) (ws : List Jvm.Cond) (bt : Addr) (h0 : Heap) (n0 : Nat) (Z0 : n0 ≤ h0.size) (Ss : Sta Z h0 "com/example/pooler/pooler/pool/Backoff" "SHORTEST" "J" (.long (100000000 : Int64))) (Sl : Sta Z h0 "com/example/pooler/pooler/pool/Backoff" "LONGEST" "J" (.long (1000000000 : Int64))) (Ff : Fld Z h0 bt "com/example/pooler/pooler/pool/Backoff" "failuresInARow" "I" (.int (0 : Int32))) :
    MetFree l (⟨"com/example/pooler/pooler/pool/Backoff", "pause", "()J"⟩ : MethodName) (head1 (Jvm.Cond.code (⟨"com/example/pooler/pooler/pool/Backoff", "pause", "()J"⟩ : MethodName) prog_23_method_6_code 4 (some .long) :: ws) ({ frames := 1, cells := 0, slots := 0, locals := 15 } : Room)) (fun a U => a = #[(.ref bt)] ∧ Z.Warmed39 U.vm ∧ U.heap = h0) (fun _ _ _ _ _ => True) (fun _ U o U' => ∃ v L, o = .returned v ∧ Qpa0 Z bt h0 n0 v U'.heap L ∧ FrameEnd U o U' L ({ frames := 1, cells := 0, slots := 0, locals := 15 } : Room).cells ({ frames := 1, cells := 0, slots := 0, locals := 15 } : Room).slots) := by
  refine MetFree.of_bodySF (plainFor_of_name own_pn_com_example_pooler_pooler_pool_Backoff) hisR ?_
  intro p e s m args below meth c s₁ Bd hml0 hP hK
  obtain ⟨rfl, hZ, hh⟩ := hP
  have hx := Bd.exec
  have hby := Bd.bytes
  have hml : c.maxLocals = 4 := hml0
  have hlk := Bd.notSynchronized
  have hown : s.vm.findClass "com/example/pooler/pooler/pool/Backoff" = some m.cls := findClass_of_methodNamed Bd.named
  have hnm := (name_of_methodNamed Bd.named Bd.method).1
  have X0 : Stand p l e ({ frames := 1, cells := 0, slots := 0, locals := 15 } : Room) s m #[(.ref bt)] below meth c s₁ [] 0 0 := Stand.of_body Bd
  have e0 : s₁.heap = h0 := by rw [← hh, Bd.state]; rfl
  have N0 := Fr.nil n0
  refine own_enter (Q := Qpa0 Z bt h0 n0) (Ls := #[.val (.ref bt), .unset, .unset, .unset]) (by first | (simp [entryFrame, mkF, argsToLocals, Value.category]; done) | rfl) ?_
  obtain ⟨T1, X1, e1, st1⟩ := getS2 X0 hx hZ hown (host := "") (Or.inl (hw _ (List.mem_of_getElem? (i := 37) rfl))) Via.refl e0 Ss (g := (mkF m 0 #[.val (.ref bt), .unset, .unset, .unset] [])) rfl (hb hby own_d7_0)
  refine Goes.go st1 ?_
  show Goes p e below s _ _ _ T1 (mkF m 3 #[.val (.ref bt), .unset, .unset, .unset] [(.long (100000000 : Int64))])
  refine own_lstoreN X1 hx 4 rfl #[.val (.ref bt), .val (.long (100000000 : Int64)), .second, .unset] (hb hby own_d7_3) rfl ?_
  refine own_iconst X1 hx 5 rfl (1 : Int32) (hb hby own_d7_4) (by decide) ?_
  refine own_istoreN X1 hx 6 rfl #[.val (.ref bt), .val (.long (100000000 : Int64)), .second, .val (.int (1 : Int32))] (hb hby own_d7_5) rfl ?_
  refine own_iloadN X1 hx 7 rfl (hb hby own_d7_6) rfl ?_
  refine own_aloadN X1 hx 8 rfl (hb hby own_d7_7) rfl rfl ?_
  obtain ⟨T2, X2, e2, st2⟩ := getF X1 hx hZ hown (host := "") (Or.inl (hw _ (List.mem_of_getElem? (i := 31) rfl))) Via.refl e1 Ff (g := (mkF m 8 #[.val (.ref bt), .val (.long (100000000 : Int64)), .second, .val (.int (1 : Int32))] [(.ref bt), (.int (1 : Int32))])) rfl rfl (hb hby own_d7_8)
  refine Goes.go st2 ?_
  show Goes p e below s _ _ _ T2 (mkF m 11 #[.val (.ref bt), .val (.long (100000000 : Int64)), .second, .val (.int (1 : Int32))] [(.int (0 : Int32)), (.int (1 : Int32))])
  refine own_icmpY X2 hx 34 (hb hby own_d7_11) (flt ((by decide) : ¬ ((1 : Int32) < (0 : Int32)))).2.1 (by decide) (by decide) ?_
  refine own_lloadN X2 hx 35 rfl (hb hby own_d7_34) rfl ?_
  obtain ⟨T3, X3, e3, st3⟩ := getS2 X2 hx hZ hown (host := "") (Or.inl (hw _ (List.mem_of_getElem? (i := 39) rfl))) Via.refl e2 Sl (g := (mkF m 35 #[.val (.ref bt), .val (.long (100000000 : Int64)), .second, .val (.int (1 : Int32))] [(.long (100000000 : Int64))])) rfl (hb hby own_d7_35)
  refine Goes.go st3 ?_
  show Goes p e below s _ _ _ T3 (mkF m 38 #[.val (.ref bt), .val (.long (100000000 : Int64)), .second, .val (.int (1 : Int32))] [(.long (1000000000 : Int64)), (.long (100000000 : Int64))])
  obtain ⟨_, _, ⟨T4, L4, k4, n4⟩, -, X4, ⟨Lc4, hQ4, l4, y4, z4⟩, st4⟩ := Jvm.LawKit.callS X3 hx (y := (⟨"java/lang/Math", "min", "(JJ)J"⟩ : MethodName)) hown (mvT hZ (hw _ (List.mem_of_getElem? (i := 41) rfl))) (mvT hZ (hw _ (List.mem_of_getElem? (i := 42) rfl))) (mvT hZ (hw _ (List.mem_of_getElem? (i := 43) rfl))) (mvT hZ (hw _ (List.mem_of_getElem? (i := 44) rfl))) (by decide) (backOf (W := 0) (rmmi100000000 l Z a0 hw []  h0 n0 Z0 ) hZ (hw _ (List.mem_of_getElem? (i := 44) rfl)) (hw _ (List.mem_of_getElem? (i := 43) rfl)) (by decide) (by decide)) (g := (mkF m 38 #[.val (.ref bt), .val (.long (100000000 : Int64)), .second, .val (.int (1 : Int32))] [(.long (1000000000 : Int64)), (.long (100000000 : Int64))])) rfl (by rw [hml]; rfl) (argsL := [(.long (100000000 : Int64)), (.long (1000000000 : Int64))]) (rest := []) (lenOf own_pd1 rfl) rfl (by show 2 * 0 + _ ≤ _; exact Nat.le_of_eq rfl) (hb hby own_d7_38) (fun _ _ => ⟨rfl, e3, (by decide : 0 + 0 ≤ _), (by decide : 0 + 0 ≤ _)⟩)
  dsimp only [Pt.U, Pt.locs, Pt.cells, Pt.slots] at X4 l4 y4 z4 st4 hQ4
  subst l4 y4 z4
  obtain ⟨rfl, N4q, eh4⟩ := hQ4
  have N4 := Fr.app N0 N4q
  refine Goes.go st4 ?_
  show Goes p e below s _ _ _ T4 (mkF m 41 #[.val (.ref bt), .val (.long (100000000 : Int64)), .second, .val (.int (1 : Int32))] [(.long (100000000 : Int64))])
  refine own_retJ X4 hx hlk Bd.returns (hb hby own_d7_41) (by decide) (by decide) eh4 ?_
  exact ⟨rfl, N4, rfl⟩
theorem own_pd2 : parseMethodDescriptor "()J" = some ⟨[], some .long⟩ := by decide +kernel
theorem own_d3_0 : decode prog_23_method_2_code 0 = .ok (.lconst 0, 1) := by decide +kernel
theorem own_d3_1 : decode prog_23_method_2_code 1 = .ok (.lstore_n 3, 1) := by decide +kernel
theorem own_d3_2 : decode prog_23_method_2_code 2 = .ok (.aload_n 0, 1) := by decide +kernel
theorem own_d3_3 : decode prog_23_method_2_code 3 = .ok (.getfield 7, 3) := by decide +kernel
theorem own_d3_6 : decode prog_23_method_2_code 6 = .ok (.ifCond .eq 19, 3) := by decide +kernel
theorem own_d3_9 : decode prog_23_method_2_code 9 = .ok (.lconst 0, 1) := by decide +kernel
theorem own_d3_10 : decode prog_23_method_2_code 10 = .ok (.aload_n 0, 1) := by decide +kernel
theorem own_d3_11 : decode prog_23_method_2_code 11 = .ok (.getfield 13, 3) := by decide +kernel
theorem own_d3_14 : decode prog_23_method_2_code 14 = .ok (.aload_n 0, 1) := by decide +kernel
theorem own_d3_15 : decode prog_23_method_2_code 15 = .ok (.invokevirtual 17, 3) := by decide +kernel
theorem own_d3_18 : decode prog_23_method_2_code 18 = .ok (.ladd, 1) := by decide +kernel
theorem own_d3_19 : decode prog_23_method_2_code 19 = .ok (.lload_n 1, 1) := by decide +kernel
theorem own_d3_20 : decode prog_23_method_2_code 20 = .ok (.lsub, 1) := by decide +kernel
theorem own_d3_21 : decode prog_23_method_2_code 21 = .ok (.invokestatic 21, 3) := by decide +kernel
theorem own_d3_24 : decode prog_23_method_2_code 24 = .ok (.lstore_n 3, 1) := by decide +kernel
theorem own_d3_25 : decode prog_23_method_2_code 25 = .ok (.lload_n 3, 1) := by decide +kernel
theorem own_d3_26 : decode prog_23_method_2_code 26 = .ok (.lreturn, 1) := by decide +kernel
def Qde0 (Z : State) (bt : Addr) (bn : Int64) (be : Int64) (h0 : Heap) (n0 : Nat) (v : Option Value) (h : Heap) (L : List Loc) : Prop := ∃ br : Int64, v = some (.long br) ∧ Fr n0 L ∧ h = h0 ∧ ((br = ((be + (100000000 : Int64)) - bn) ∧ (0 : Int64) < ((be + (100000000 : Int64)) - bn)) ∨ (br = (0 : Int64) ∧ ¬ (0 : Int64) < ((be + (100000000 : Int64)) - bn)))
set_option maxRecDepth 65536 in
set_option maxHeartbeats 40000000 in
theorem rmde0 (l : Launch) (Z : State) (a0 : Array Value) (hw : ∀ d ∈ tables_1, d.before a0 Z = true) (ws : List Jvm.Cond) (bt : Addr) (bn : Int64) (be : Int64) (h0 : Heap) (n0 : Nat) (Z0 : n0 ≤ h0.size) (EB : Exa Z h0 bt "com/example/pooler/pooler/pool/Backoff") (Ss : Sta Z h0 "com/example/pooler/pooler/pool/Backoff" "SHORTEST" "J" (.long (100000000 : Int64))) (Sl : Sta Z h0 "com/example/pooler/pooler/pool/Backoff" "LONGEST" "J" (.long (1000000000 : Int64))) (Ft : Fld Z h0 bt "com/example/pooler/pooler/pool/Backoff" "tried" "Z" (.int (1 : Int32))) (Fe : Fld Z h0 bt "com/example/pooler/pooler/pool/Backoff" "endedAt" "J" (.long be)) (Ff : Fld Z h0 bt "com/example/pooler/pooler/pool/Backoff" "failuresInARow" "I" (.int (0 : Int32))) :
    MetFree l (⟨"com/example/pooler/pooler/pool/Backoff", "delay", "(J)J"⟩ : MethodName) (head1 (Jvm.Cond.code (⟨"com/example/pooler/pooler/pool/Backoff", "delay", "(J)J"⟩ : MethodName) prog_23_method_2_code 5 (some .long) :: ws) ({ frames := 2, cells := 0, slots := 0, locals := 34 } : Room)) (fun a U => a = #[(.ref bt), (.long bn)] ∧ Z.Warmed39 U.vm ∧ U.heap = h0) (fun _ _ _ _ _ => True) (fun _ U o U' => ∃ v L, o = .returned v ∧ Qde0 Z bt bn be h0 n0 v U'.heap L ∧ FrameEnd U o U' L ({ frames := 2, cells := 0, slots := 0, locals := 34 } : Room).cells ({ frames := 2, cells := 0, slots := 0, locals := 34 } : Room).slots) := by
  refine MetFree.of_bodySF (plainFor_of_name own_pn_com_example_pooler_pooler_pool_Backoff) hisR ?_
  intro p e s m args below meth c s₁ Bd hml0 hP hK
  obtain ⟨rfl, hZ, hh⟩ := hP
  have hx := Bd.exec
  have hby := Bd.bytes
  have hml : c.maxLocals = 5 := hml0
  have hlk := Bd.notSynchronized
  have hown : s.vm.findClass "com/example/pooler/pooler/pool/Backoff" = some m.cls := findClass_of_methodNamed Bd.named
  have hnm := (name_of_methodNamed Bd.named Bd.method).1
  have X0 : Stand p l e ({ frames := 2, cells := 0, slots := 0, locals := 34 } : Room) s m #[(.ref bt), (.long bn)] below meth c s₁ [] 0 0 := Stand.of_body Bd
  have e0 : s₁.heap = h0 := by rw [← hh, Bd.state]; rfl
  have N0 := Fr.nil n0
  refine own_enter (Q := Qde0 Z bt bn be h0 n0) (Ls := #[.val (.ref bt), .val (.long bn), .second, .unset, .unset]) (by first | (simp [entryFrame, mkF, argsToLocals, Value.category]; done) | rfl) ?_
  refine own_lconst X0 hx 1 rfl (0 : Int64) (hb hby own_d3_0) (by decide) ?_
  refine own_lstoreN X0 hx 2 rfl #[.val (.ref bt), .val (.long bn), .second, .val (.long (0 : Int64)), .second] (hb hby own_d3_1) rfl ?_
  refine own_aloadN X0 hx 3 rfl (hb hby own_d3_2) rfl rfl ?_
  obtain ⟨T1, X1, e1, st1⟩ := getF X0 hx hZ hown (host := "") (Or.inl (hw _ (List.mem_of_getElem? (i := 14) rfl))) Via.refl e0 Ft (g := (mkF m 3 #[.val (.ref bt), .val (.long bn), .second, .val (.long (0 : Int64)), .second] [(.ref bt)])) rfl rfl (hb hby own_d3_3)
  refine Goes.go st1 ?_
  show Goes p e below s _ _ _ T1 (mkF m 6 #[.val (.ref bt), .val (.long bn), .second, .val (.long (0 : Int64)), .second] [(.int (1 : Int32))])
  refine own_ifN X1 hx 9 (hb hby own_d3_6) ((if0 _ _).trans (feq ((by decide) : ¬ ((1 : Int32) = (0 : Int32)))).1) rfl ?_
  refine own_lconst X1 hx 10 rfl (0 : Int64) (hb hby own_d3_9) (by decide) ?_
  refine own_aloadN X1 hx 11 rfl (hb hby own_d3_10) rfl rfl ?_
  obtain ⟨T2, X2, e2, st2⟩ := getF X1 hx hZ hown (host := "") (Or.inl (hw _ (List.mem_of_getElem? (i := 29) rfl))) Via.refl e1 Fe (g := (mkF m 11 #[.val (.ref bt), .val (.long bn), .second, .val (.long (0 : Int64)), .second] [(.ref bt), (.long (0 : Int64))])) rfl rfl (hb hby own_d3_11)
  refine Goes.go st2 ?_
  show Goes p e below s _ _ _ T2 (mkF m 14 #[.val (.ref bt), .val (.long bn), .second, .val (.long (0 : Int64)), .second] [(.long be), (.long (0 : Int64))])
  refine own_aloadN X2 hx 15 rfl (hb hby own_d3_14) rfl rfl ?_
  obtain ⟨cq3, q3, q3'⟩ := EB.cell
  obtain ⟨_, _, ⟨T3, L3, k3, n3⟩, -, X3, ⟨Lc3, hQ3, l3, y3, z3⟩, st3⟩ := X2.privateBack hx (y := (⟨"com/example/pooler/pooler/pool/Backoff", "pause", "()J"⟩ : MethodName)) hown (mvT hZ (hw _ (List.mem_of_getElem? (i := 33) rfl))) (mvT hZ (hw _ (List.mem_of_getElem? (i := 34) rfl))) (own_selP (mvT hZ (hw _ (List.mem_of_getElem? (i := 1) rfl))) (mvP hZ (hw _ (List.mem_of_getElem? (i := 35) rfl))) (mvT hZ (hw _ (List.mem_of_getElem? (i := 34) rfl))) (by decide)) (Cond.privateMethod_at (mvP hZ (hw _ (List.mem_of_getElem? (i := 35) rfl)) (args := #[]))) (mvT hZ (hw _ (List.mem_of_getElem? (i := 36) rfl))) (by decide) (backOf (W := 4) (rmpa0 l Z a0 hw [] bt h0 n0 Z0 Ss Sl Ff) hZ (hw _ (List.mem_of_getElem? (i := 36) rfl)) (hw _ (List.mem_of_getElem? (i := 2) rfl)) (by decide) (by decide)) (g := (mkF m 15 #[.val (.ref bt), .val (.long bn), .second, .val (.long (0 : Int64)), .second] [(.ref bt), (.long be), (.long (0 : Int64))])) rfl (by rw [hml]; rfl) (Steps.refl _) (a := bt) (by rw [e2]; exact q3) q3' (argsL := []) (rest := [(.long be), (.long (0 : Int64))]) (lenOf own_pd2 rfl) rfl (by show 2 * 0 + _ ≤ _; exact Nat.le_of_eq rfl) (hb hby own_d3_15) (fun _ _ => ⟨rfl, e2, (by decide : 0 + 0 ≤ _), (by decide : 0 + 0 ≤ _)⟩)
  dsimp only [Pt.U, Pt.locs, Pt.cells, Pt.slots] at X3 l3 y3 z3 st3 hQ3
  subst l3 y3 z3
  obtain ⟨rfl, N3q, eh3⟩ := hQ3
  have N3 := Fr.app N0 N3q
  refine Goes.tr st3 ?_
  show Goes p e below s _ _ _ T3 (mkF m 18 #[.val (.ref bt), .val (.long bn), .second, .val (.long (0 : Int64)), .second] [(.long (100000000 : Int64)), (.long be), (.long (0 : Int64))])
  refine own_ladd X3 hx 19 rfl (hb hby own_d3_18) rfl ?_
  refine own_lloadN X3 hx 20 rfl (hb hby own_d3_19) rfl ?_
  refine own_lsub X3 hx 21 rfl (hb hby own_d3_20) rfl ?_
  obtain ⟨_, _, ⟨T4, L4, k4, n4⟩, -, X4, ⟨Lc4, hQ4, l4, y4, z4⟩, st4⟩ := Jvm.LawKit.callS X3 hx (y := (⟨"java/lang/Math", "max", "(JJ)J"⟩ : MethodName)) hown (mvT hZ (hw _ (List.mem_of_getElem? (i := 45) rfl))) (mvT hZ (hw _ (List.mem_of_getElem? (i := 46) rfl))) (mvT hZ (hw _ (List.mem_of_getElem? (i := 43) rfl))) (mvT hZ (hw _ (List.mem_of_getElem? (i := 47) rfl))) (by decide) (backOf (W := 0) (rm9 l Z a0 hw [] (0 : Int64) ((be + (100000000 : Int64)) - bn) h0 n0 Z0 ) hZ (hw _ (List.mem_of_getElem? (i := 47) rfl)) (hw _ (List.mem_of_getElem? (i := 43) rfl)) (by decide) (by decide)) (g := (mkF m 21 #[.val (.ref bt), .val (.long bn), .second, .val (.long (0 : Int64)), .second] [(.long ((be + (100000000 : Int64)) - bn)), (.long (0 : Int64))])) rfl (by rw [hml]; rfl) (argsL := [(.long (0 : Int64)), (.long ((be + (100000000 : Int64)) - bn))]) (rest := []) (lenOf own_pd1 rfl) rfl (by show 2 * 0 + _ ≤ _; exact Nat.le_of_eq rfl) (hb hby own_d3_21) (fun _ _ => ⟨rfl, eh3, (by decide : 0 + 0 ≤ _), (by decide : 0 + 0 ≤ _)⟩)
  dsimp only [Pt.U, Pt.locs, Pt.cells, Pt.slots] at X4 l4 y4 z4 st4 hQ4
  subst l4 y4 z4
  obtain ⟨mr_4, rfl, N4q, eh4, pr4_0⟩ := hQ4
  have N4 := Fr.app N3 N4q
  refine Goes.go st4 ?_
  show Goes p e below s _ _ _ T4 (mkF m 24 #[.val (.ref bt), .val (.long bn), .second, .val (.long (0 : Int64)), .second] [(.long mr_4)])
  refine own_lstoreN X4 hx 25 rfl #[.val (.ref bt), .val (.long bn), .second, .val (.long mr_4), .second] (hb hby own_d3_24) rfl ?_
  refine own_lloadN X4 hx 26 rfl (hb hby own_d3_25) rfl ?_
  refine own_retJ X4 hx hlk Bd.returns (hb hby own_d3_26) (by decide) (by decide) eh4 ?_
  exact ⟨mr_4, rfl, N4, rfl, pr4_0⟩
def Qpa1 (Z : State) (bt : Addr) (h0 : Heap) (n0 : Nat) (v : Option Value) (h : Heap) (L : List Loc) : Prop := v = some (.long (100000000 : Int64)) ∧ Fr n0 L ∧ h = h0
set_option maxRecDepth 65536 in
set_option maxHeartbeats 40000000 in
theorem rmpa1 (l : Launch) (Z : State) (a0 : Array Value) (hw : ∀ d ∈ tables_1, d.before a0 Z = true) (ws : List Jvm.Cond) (bt : Addr) (h0 : Heap) (n0 : Nat) (Z0 : n0 ≤ h0.size) (Ss : Sta Z h0 "com/example/pooler/pooler/pool/Backoff" "SHORTEST" "J" (.long (100000000 : Int64))) (Sl : Sta Z h0 "com/example/pooler/pooler/pool/Backoff" "LONGEST" "J" (.long (1000000000 : Int64))) (Ff : Fld Z h0 bt "com/example/pooler/pooler/pool/Backoff" "failuresInARow" "I" (.int (1 : Int32))) :
    MetFree l (⟨"com/example/pooler/pooler/pool/Backoff", "pause", "()J"⟩ : MethodName) (head1 (Jvm.Cond.code (⟨"com/example/pooler/pooler/pool/Backoff", "pause", "()J"⟩ : MethodName) prog_23_method_6_code 4 (some .long) :: ws) ({ frames := 1, cells := 0, slots := 0, locals := 15 } : Room)) (fun a U => a = #[(.ref bt)] ∧ Z.Warmed39 U.vm ∧ U.heap = h0) (fun _ _ _ _ _ => True) (fun _ U o U' => ∃ v L, o = .returned v ∧ Qpa1 Z bt h0 n0 v U'.heap L ∧ FrameEnd U o U' L ({ frames := 1, cells := 0, slots := 0, locals := 15 } : Room).cells ({ frames := 1, cells := 0, slots := 0, locals := 15 } : Room).slots) := by
  refine MetFree.of_bodySF (plainFor_of_name own_pn_com_example_pooler_pooler_pool_Backoff) hisR ?_
  intro p e s m args below meth c s₁ Bd hml0 hP hK
  obtain ⟨rfl, hZ, hh⟩ := hP
  have hx := Bd.exec
  have hby := Bd.bytes
  have hml : c.maxLocals = 4 := hml0
  have hlk := Bd.notSynchronized
  have hown : s.vm.findClass "com/example/pooler/pooler/pool/Backoff" = some m.cls := findClass_of_methodNamed Bd.named
  have hnm := (name_of_methodNamed Bd.named Bd.method).1
  have X0 : Stand p l e ({ frames := 1, cells := 0, slots := 0, locals := 15 } : Room) s m #[(.ref bt)] below meth c s₁ [] 0 0 := Stand.of_body Bd
  have e0 : s₁.heap = h0 := by rw [← hh, Bd.state]; rfl
  have N0 := Fr.nil n0
  refine own_enter (Q := Qpa1 Z bt h0 n0) (Ls := #[.val (.ref bt), .unset, .unset, .unset]) (by first | (simp [entryFrame, mkF, argsToLocals, Value.category]; done) | rfl) ?_
  obtain ⟨T1, X1, e1, st1⟩ := getS2 X0 hx hZ hown (host := "") (Or.inl (hw _ (List.mem_of_getElem? (i := 37) rfl))) Via.refl e0 Ss (g := (mkF m 0 #[.val (.ref bt), .unset, .unset, .unset] [])) rfl (hb hby own_d7_0)
  refine Goes.go st1 ?_
  show Goes p e below s _ _ _ T1 (mkF m 3 #[.val (.ref bt), .unset, .unset, .unset] [(.long (100000000 : Int64))])
  refine own_lstoreN X1 hx 4 rfl #[.val (.ref bt), .val (.long (100000000 : Int64)), .second, .unset] (hb hby own_d7_3) rfl ?_
  refine own_iconst X1 hx 5 rfl (1 : Int32) (hb hby own_d7_4) (by decide) ?_
  refine own_istoreN X1 hx 6 rfl #[.val (.ref bt), .val (.long (100000000 : Int64)), .second, .val (.int (1 : Int32))] (hb hby own_d7_5) rfl ?_
  refine own_iloadN X1 hx 7 rfl (hb hby own_d7_6) rfl ?_
  refine own_aloadN X1 hx 8 rfl (hb hby own_d7_7) rfl rfl ?_
  obtain ⟨T2, X2, e2, st2⟩ := getF X1 hx hZ hown (host := "") (Or.inl (hw _ (List.mem_of_getElem? (i := 31) rfl))) Via.refl e1 Ff (g := (mkF m 8 #[.val (.ref bt), .val (.long (100000000 : Int64)), .second, .val (.int (1 : Int32))] [(.ref bt), (.int (1 : Int32))])) rfl rfl (hb hby own_d7_8)
  refine Goes.go st2 ?_
  show Goes p e below s _ _ _ T2 (mkF m 11 #[.val (.ref bt), .val (.long (100000000 : Int64)), .second, .val (.int (1 : Int32))] [(.int (1 : Int32)), (.int (1 : Int32))])
  refine own_icmpY X2 hx 34 (hb hby own_d7_11) (flt ((by decide) : ¬ ((1 : Int32) < (1 : Int32)))).2.1 (by decide) (by decide) ?_
  refine own_lloadN X2 hx 35 rfl (hb hby own_d7_34) rfl ?_
  obtain ⟨T3, X3, e3, st3⟩ := getS2 X2 hx hZ hown (host := "") (Or.inl (hw _ (List.mem_of_getElem? (i := 39) rfl))) Via.refl e2 Sl (g := (mkF m 35 #[.val (.ref bt), .val (.long (100000000 : Int64)), .second, .val (.int (1 : Int32))] [(.long (100000000 : Int64))])) rfl (hb hby own_d7_35)
  refine Goes.go st3 ?_
  show Goes p e below s _ _ _ T3 (mkF m 38 #[.val (.ref bt), .val (.long (100000000 : Int64)), .second, .val (.int (1 : Int32))] [(.long (1000000000 : Int64)), (.long (100000000 : Int64))])
  obtain ⟨_, _, ⟨T4, L4, k4, n4⟩, -, X4, ⟨Lc4, hQ4, l4, y4, z4⟩, st4⟩ := Jvm.LawKit.callS X3 hx (y := (⟨"java/lang/Math", "min", "(JJ)J"⟩ : MethodName)) hown (mvT hZ (hw _ (List.mem_of_getElem? (i := 41) rfl))) (mvT hZ (hw _ (List.mem_of_getElem? (i := 42) rfl))) (mvT hZ (hw _ (List.mem_of_getElem? (i := 43) rfl))) (mvT hZ (hw _ (List.mem_of_getElem? (i := 44) rfl))) (by decide) (backOf (W := 0) (rmmi100000000 l Z a0 hw []  h0 n0 Z0 ) hZ (hw _ (List.mem_of_getElem? (i := 44) rfl)) (hw _ (List.mem_of_getElem? (i := 43) rfl)) (by decide) (by decide)) (g := (mkF m 38 #[.val (.ref bt), .val (.long (100000000 : Int64)), .second, .val (.int (1 : Int32))] [(.long (1000000000 : Int64)), (.long (100000000 : Int64))])) rfl (by rw [hml]; rfl) (argsL := [(.long (100000000 : Int64)), (.long (1000000000 : Int64))]) (rest := []) (lenOf own_pd1 rfl) rfl (by show 2 * 0 + _ ≤ _; exact Nat.le_of_eq rfl) (hb hby own_d7_38) (fun _ _ => ⟨rfl, e3, (by decide : 0 + 0 ≤ _), (by decide : 0 + 0 ≤ _)⟩)
  dsimp only [Pt.U, Pt.locs, Pt.cells, Pt.slots] at X4 l4 y4 z4 st4 hQ4
  subst l4 y4 z4
  obtain ⟨rfl, N4q, eh4⟩ := hQ4
  have N4 := Fr.app N0 N4q
  refine Goes.go st4 ?_
  show Goes p e below s _ _ _ T4 (mkF m 41 #[.val (.ref bt), .val (.long (100000000 : Int64)), .second, .val (.int (1 : Int32))] [(.long (100000000 : Int64))])
  refine own_retJ X4 hx hlk Bd.returns (hb hby own_d7_41) (by decide) (by decide) eh4 ?_
  exact ⟨rfl, N4, rfl⟩
def Qde1 (Z : State) (bt : Addr) (bn : Int64) (be : Int64) (h0 : Heap) (n0 : Nat) (v : Option Value) (h : Heap) (L : List Loc) : Prop := ∃ br : Int64, v = some (.long br) ∧ Fr n0 L ∧ h = h0 ∧ ((br = ((be + (100000000 : Int64)) - bn) ∧ (0 : Int64) < ((be + (100000000 : Int64)) - bn)) ∨ (br = (0 : Int64) ∧ ¬ (0 : Int64) < ((be + (100000000 : Int64)) - bn)))
set_option maxRecDepth 65536 in
set_option maxHeartbeats 40000000 in
theorem rmde1 (l : Launch) (Z : State) (a0 : Array Value) (hw : ∀ d ∈ tables_1, d.before a0 Z = true) (ws : List Jvm.Cond) (bt : Addr) (bn : Int64) (be : Int64) (h0 : Heap) (n0 : Nat) (Z0 : n0 ≤ h0.size) (EB : Exa Z h0 bt "com/example/pooler/pooler/pool/Backoff") (Ss : Sta Z h0 "com/example/pooler/pooler/pool/Backoff" "SHORTEST" "J" (.long (100000000 : Int64))) (Sl : Sta Z h0 "com/example/pooler/pooler/pool/Backoff" "LONGEST" "J" (.long (1000000000 : Int64))) (Ft : Fld Z h0 bt "com/example/pooler/pooler/pool/Backoff" "tried" "Z" (.int (1 : Int32))) (Fe : Fld Z h0 bt "com/example/pooler/pooler/pool/Backoff" "endedAt" "J" (.long be)) (Ff : Fld Z h0 bt "com/example/pooler/pooler/pool/Backoff" "failuresInARow" "I" (.int (1 : Int32))) :
    MetFree l (⟨"com/example/pooler/pooler/pool/Backoff", "delay", "(J)J"⟩ : MethodName) (head1 (Jvm.Cond.code (⟨"com/example/pooler/pooler/pool/Backoff", "delay", "(J)J"⟩ : MethodName) prog_23_method_2_code 5 (some .long) :: ws) ({ frames := 2, cells := 0, slots := 0, locals := 34 } : Room)) (fun a U => a = #[(.ref bt), (.long bn)] ∧ Z.Warmed39 U.vm ∧ U.heap = h0) (fun _ _ _ _ _ => True) (fun _ U o U' => ∃ v L, o = .returned v ∧ Qde1 Z bt bn be h0 n0 v U'.heap L ∧ FrameEnd U o U' L ({ frames := 2, cells := 0, slots := 0, locals := 34 } : Room).cells ({ frames := 2, cells := 0, slots := 0, locals := 34 } : Room).slots) := by
  refine MetFree.of_bodySF (plainFor_of_name own_pn_com_example_pooler_pooler_pool_Backoff) hisR ?_
  intro p e s m args below meth c s₁ Bd hml0 hP hK
  obtain ⟨rfl, hZ, hh⟩ := hP
  have hx := Bd.exec
  have hby := Bd.bytes
  have hml : c.maxLocals = 5 := hml0
  have hlk := Bd.notSynchronized
  have hown : s.vm.findClass "com/example/pooler/pooler/pool/Backoff" = some m.cls := findClass_of_methodNamed Bd.named
  have hnm := (name_of_methodNamed Bd.named Bd.method).1
  have X0 : Stand p l e ({ frames := 2, cells := 0, slots := 0, locals := 34 } : Room) s m #[(.ref bt), (.long bn)] below meth c s₁ [] 0 0 := Stand.of_body Bd
  have e0 : s₁.heap = h0 := by rw [← hh, Bd.state]; rfl
  have N0 := Fr.nil n0
  refine own_enter (Q := Qde1 Z bt bn be h0 n0) (Ls := #[.val (.ref bt), .val (.long bn), .second, .unset, .unset]) (by first | (simp [entryFrame, mkF, argsToLocals, Value.category]; done) | rfl) ?_
  refine own_lconst X0 hx 1 rfl (0 : Int64) (hb hby own_d3_0) (by decide) ?_
  refine own_lstoreN X0 hx 2 rfl #[.val (.ref bt), .val (.long bn), .second, .val (.long (0 : Int64)), .second] (hb hby own_d3_1) rfl ?_
  refine own_aloadN X0 hx 3 rfl (hb hby own_d3_2) rfl rfl ?_
  obtain ⟨T1, X1, e1, st1⟩ := getF X0 hx hZ hown (host := "") (Or.inl (hw _ (List.mem_of_getElem? (i := 14) rfl))) Via.refl e0 Ft (g := (mkF m 3 #[.val (.ref bt), .val (.long bn), .second, .val (.long (0 : Int64)), .second] [(.ref bt)])) rfl rfl (hb hby own_d3_3)
  refine Goes.go st1 ?_
  show Goes p e below s _ _ _ T1 (mkF m 6 #[.val (.ref bt), .val (.long bn), .second, .val (.long (0 : Int64)), .second] [(.int (1 : Int32))])
  refine own_ifN X1 hx 9 (hb hby own_d3_6) ((if0 _ _).trans (feq ((by decide) : ¬ ((1 : Int32) = (0 : Int32)))).1) rfl ?_
  refine own_lconst X1 hx 10 rfl (0 : Int64) (hb hby own_d3_9) (by decide) ?_
  refine own_aloadN X1 hx 11 rfl (hb hby own_d3_10) rfl rfl ?_
  obtain ⟨T2, X2, e2, st2⟩ := getF X1 hx hZ hown (host := "") (Or.inl (hw _ (List.mem_of_getElem? (i := 29) rfl))) Via.refl e1 Fe (g := (mkF m 11 #[.val (.ref bt), .val (.long bn), .second, .val (.long (0 : Int64)), .second] [(.ref bt), (.long (0 : Int64))])) rfl rfl (hb hby own_d3_11)
  refine Goes.go st2 ?_
  show Goes p e below s _ _ _ T2 (mkF m 14 #[.val (.ref bt), .val (.long bn), .second, .val (.long (0 : Int64)), .second] [(.long be), (.long (0 : Int64))])
  refine own_aloadN X2 hx 15 rfl (hb hby own_d3_14) rfl rfl ?_
  obtain ⟨cq3, q3, q3'⟩ := EB.cell
  obtain ⟨_, _, ⟨T3, L3, k3, n3⟩, -, X3, ⟨Lc3, hQ3, l3, y3, z3⟩, st3⟩ := X2.privateBack hx (y := (⟨"com/example/pooler/pooler/pool/Backoff", "pause", "()J"⟩ : MethodName)) hown (mvT hZ (hw _ (List.mem_of_getElem? (i := 33) rfl))) (mvT hZ (hw _ (List.mem_of_getElem? (i := 34) rfl))) (own_selP (mvT hZ (hw _ (List.mem_of_getElem? (i := 1) rfl))) (mvP hZ (hw _ (List.mem_of_getElem? (i := 35) rfl))) (mvT hZ (hw _ (List.mem_of_getElem? (i := 34) rfl))) (by decide)) (Cond.privateMethod_at (mvP hZ (hw _ (List.mem_of_getElem? (i := 35) rfl)) (args := #[]))) (mvT hZ (hw _ (List.mem_of_getElem? (i := 36) rfl))) (by decide) (backOf (W := 4) (rmpa1 l Z a0 hw [] bt h0 n0 Z0 Ss Sl Ff) hZ (hw _ (List.mem_of_getElem? (i := 36) rfl)) (hw _ (List.mem_of_getElem? (i := 2) rfl)) (by decide) (by decide)) (g := (mkF m 15 #[.val (.ref bt), .val (.long bn), .second, .val (.long (0 : Int64)), .second] [(.ref bt), (.long be), (.long (0 : Int64))])) rfl (by rw [hml]; rfl) (Steps.refl _) (a := bt) (by rw [e2]; exact q3) q3' (argsL := []) (rest := [(.long be), (.long (0 : Int64))]) (lenOf own_pd2 rfl) rfl (by show 2 * 0 + _ ≤ _; exact Nat.le_of_eq rfl) (hb hby own_d3_15) (fun _ _ => ⟨rfl, e2, (by decide : 0 + 0 ≤ _), (by decide : 0 + 0 ≤ _)⟩)
  dsimp only [Pt.U, Pt.locs, Pt.cells, Pt.slots] at X3 l3 y3 z3 st3 hQ3
  subst l3 y3 z3
  obtain ⟨rfl, N3q, eh3⟩ := hQ3
  have N3 := Fr.app N0 N3q
  refine Goes.tr st3 ?_
  show Goes p e below s _ _ _ T3 (mkF m 18 #[.val (.ref bt), .val (.long bn), .second, .val (.long (0 : Int64)), .second] [(.long (100000000 : Int64)), (.long be), (.long (0 : Int64))])
  refine own_ladd X3 hx 19 rfl (hb hby own_d3_18) rfl ?_
  refine own_lloadN X3 hx 20 rfl (hb hby own_d3_19) rfl ?_
  refine own_lsub X3 hx 21 rfl (hb hby own_d3_20) rfl ?_
  obtain ⟨_, _, ⟨T4, L4, k4, n4⟩, -, X4, ⟨Lc4, hQ4, l4, y4, z4⟩, st4⟩ := Jvm.LawKit.callS X3 hx (y := (⟨"java/lang/Math", "max", "(JJ)J"⟩ : MethodName)) hown (mvT hZ (hw _ (List.mem_of_getElem? (i := 45) rfl))) (mvT hZ (hw _ (List.mem_of_getElem? (i := 46) rfl))) (mvT hZ (hw _ (List.mem_of_getElem? (i := 43) rfl))) (mvT hZ (hw _ (List.mem_of_getElem? (i := 47) rfl))) (by decide) (backOf (W := 0) (rm9 l Z a0 hw [] (0 : Int64) ((be + (100000000 : Int64)) - bn) h0 n0 Z0 ) hZ (hw _ (List.mem_of_getElem? (i := 47) rfl)) (hw _ (List.mem_of_getElem? (i := 43) rfl)) (by decide) (by decide)) (g := (mkF m 21 #[.val (.ref bt), .val (.long bn), .second, .val (.long (0 : Int64)), .second] [(.long ((be + (100000000 : Int64)) - bn)), (.long (0 : Int64))])) rfl (by rw [hml]; rfl) (argsL := [(.long (0 : Int64)), (.long ((be + (100000000 : Int64)) - bn))]) (rest := []) (lenOf own_pd1 rfl) rfl (by show 2 * 0 + _ ≤ _; exact Nat.le_of_eq rfl) (hb hby own_d3_21) (fun _ _ => ⟨rfl, eh3, (by decide : 0 + 0 ≤ _), (by decide : 0 + 0 ≤ _)⟩)
  dsimp only [Pt.U, Pt.locs, Pt.cells, Pt.slots] at X4 l4 y4 z4 st4 hQ4
  subst l4 y4 z4
  obtain ⟨mr_4, rfl, N4q, eh4, pr4_0⟩ := hQ4
  have N4 := Fr.app N3 N4q
  refine Goes.go st4 ?_
  show Goes p e below s _ _ _ T4 (mkF m 24 #[.val (.ref bt), .val (.long bn), .second, .val (.long (0 : Int64)), .second] [(.long mr_4)])
  refine own_lstoreN X4 hx 25 rfl #[.val (.ref bt), .val (.long bn), .second, .val (.long mr_4), .second] (hb hby own_d3_24) rfl ?_
  refine own_lloadN X4 hx 26 rfl (hb hby own_d3_25) rfl ?_
  refine own_retJ X4 hx hlk Bd.returns (hb hby own_d3_26) (by decide) (by decide) eh4 ?_
  exact ⟨mr_4, rfl, N4, rfl, pr4_0⟩
def Qmi200000000 (Z : State)  (h0 : Heap) (n0 : Nat) (v : Option Value) (h : Heap) (L : List Loc) : Prop := v = some (.long (200000000 : Int64)) ∧ Fr n0 L ∧ h = h0
set_option maxRecDepth 65536 in
set_option maxHeartbeats 40000000 in
theorem rmmi200000000 (l : Launch) (Z : State) (a0 : Array Value) (hw : ∀ d ∈ tables_1, d.before a0 Z = true) (ws : List Jvm.Cond)  (h0 : Heap) (n0 : Nat) (Z0 : n0 ≤ h0.size)  :
    MetFree l (⟨"java/lang/Math", "min", "(JJ)J"⟩ : MethodName) (head1 (Jvm.Cond.code (⟨"java/lang/Math", "min", "(JJ)J"⟩ : MethodName) jdk_29_method_70_code 4 (some .long) :: ws) ({ frames := 0, cells := 0, slots := 0, locals := 0 } : Room)) (fun a U => a = #[(.long (200000000 : Int64)), (.long (1000000000 : Int64))] ∧ Z.Warmed39 U.vm ∧ U.heap = h0) (fun _ _ _ _ _ => True) (fun _ U o U' => ∃ v L, o = .returned v ∧ Qmi200000000 Z  h0 n0 v U'.heap L ∧ FrameEnd U o U' L ({ frames := 0, cells := 0, slots := 0, locals := 0 } : Room).cells ({ frames := 0, cells := 0, slots := 0, locals := 0 } : Room).slots) := by
  refine MetFree.of_bodySF (Jvm.Free.JP.mathPlain rfl (by decide +kernel)) hisR ?_
  intro p e s m args below meth c s₁ Bd hml0 hP hK
  obtain ⟨rfl, hZ, hh⟩ := hP
  have hx := Bd.exec
  have hby := Bd.bytes
  have hml : c.maxLocals = 4 := hml0
  have hlk := Bd.notSynchronized
  have hown : s.vm.findClass "java/lang/Math" = some m.cls := findClass_of_methodNamed Bd.named
  have hnm := (name_of_methodNamed Bd.named Bd.method).1
  have X0 : Stand p l e ({ frames := 0, cells := 0, slots := 0, locals := 0 } : Room) s m #[(.long (200000000 : Int64)), (.long (1000000000 : Int64))] below meth c s₁ [] 0 0 := Stand.of_body Bd
  have e0 : s₁.heap = h0 := by rw [← hh, Bd.state]; rfl
  have N0 := Fr.nil n0
  refine own_enter (Q := Qmi200000000 Z  h0 n0) (Ls := #[.val (.long (200000000 : Int64)), .second, .val (.long (1000000000 : Int64)), .second]) (by first | (simp [entryFrame, mkF, argsToLocals, Value.category]; done) | rfl) ?_
  refine own_lloadN X0 hx 1 rfl (hb hby own_d8_0) rfl ?_
  refine own_lloadN X0 hx 2 rfl (hb hby own_d8_1) rfl ?_
  refine own_lcmp X0 hx 3 rfl (hb hby own_d8_2) ?_
  refine own_ifN X0 hx 6 (hb hby own_d8_3) (Lflt ((by decide) : ¬ ((1000000000 : Int64) < (200000000 : Int64)))).2.2.1 rfl ?_
  refine own_lloadN X0 hx 7 rfl (hb hby own_d8_6) rfl ?_
  refine own_goto X0 hx 11 (hb hby own_d8_7) (by decide) (by decide) ?_
  refine own_retJ X0 hx hlk Bd.returns (hb hby own_d8_11) (by decide) (by decide) e0 ?_
  exact ⟨rfl, N0, rfl⟩
theorem own_d7_14 : decode prog_23_method_6_code 14 = .ok (.lload_n 1, 1) := by decide +kernel
theorem own_d7_15 : decode prog_23_method_6_code 15 = .ok (.getstatic 38, 3) := by decide +kernel
theorem own_d7_18 : decode prog_23_method_6_code 18 = .ok (.lcmp, 1) := by decide +kernel
theorem own_d7_19 : decode prog_23_method_6_code 19 = .ok (.ifCond .ge 15, 3) := by decide +kernel
theorem own_d7_22 : decode prog_23_method_6_code 22 = .ok (.lload_n 1, 1) := by decide +kernel
theorem own_d7_23 : decode prog_23_method_6_code 23 = .ok (.ldc2_w 41, 3) := by decide +kernel
theorem own_d7_26 : decode prog_23_method_6_code 26 = .ok (.lmul, 1) := by decide +kernel
theorem own_d7_27 : decode prog_23_method_6_code 27 = .ok (.lstore_n 1, 1) := by decide +kernel
theorem own_d7_28 : decode prog_23_method_6_code 28 = .ok (.iinc 3 1, 3) := by decide +kernel
theorem own_d7_31 : decode prog_23_method_6_code 31 = .ok (.goto (-25), 3) := by decide +kernel
def Qpa2 (Z : State) (bt : Addr) (h0 : Heap) (n0 : Nat) (v : Option Value) (h : Heap) (L : List Loc) : Prop := v = some (.long (200000000 : Int64)) ∧ Fr n0 L ∧ h = h0
set_option maxRecDepth 65536 in
set_option maxHeartbeats 40000000 in
theorem rmpa2 (l : Launch) (Z : State) (a0 : Array Value) (hw : ∀ d ∈ tables_1, d.before a0 Z = true) (ws : List Jvm.Cond) (bt : Addr) (h0 : Heap) (n0 : Nat) (Z0 : n0 ≤ h0.size) (Ss : Sta Z h0 "com/example/pooler/pooler/pool/Backoff" "SHORTEST" "J" (.long (100000000 : Int64))) (Sl : Sta Z h0 "com/example/pooler/pooler/pool/Backoff" "LONGEST" "J" (.long (1000000000 : Int64))) (Ff : Fld Z h0 bt "com/example/pooler/pooler/pool/Backoff" "failuresInARow" "I" (.int (2 : Int32))) :
    MetFree l (⟨"com/example/pooler/pooler/pool/Backoff", "pause", "()J"⟩ : MethodName) (head1 (Jvm.Cond.code (⟨"com/example/pooler/pooler/pool/Backoff", "pause", "()J"⟩ : MethodName) prog_23_method_6_code 4 (some .long) :: ws) ({ frames := 1, cells := 0, slots := 0, locals := 15 } : Room)) (fun a U => a = #[(.ref bt)] ∧ Z.Warmed39 U.vm ∧ U.heap = h0) (fun _ _ _ _ _ => True) (fun _ U o U' => ∃ v L, o = .returned v ∧ Qpa2 Z bt h0 n0 v U'.heap L ∧ FrameEnd U o U' L ({ frames := 1, cells := 0, slots := 0, locals := 15 } : Room).cells ({ frames := 1, cells := 0, slots := 0, locals := 15 } : Room).slots) := by
  refine MetFree.of_bodySF (plainFor_of_name own_pn_com_example_pooler_pooler_pool_Backoff) hisR ?_
  intro p e s m args below meth c s₁ Bd hml0 hP hK
  obtain ⟨rfl, hZ, hh⟩ := hP
  have hx := Bd.exec
  have hby := Bd.bytes
  have hml : c.maxLocals = 4 := hml0
  have hlk := Bd.notSynchronized
  have hown : s.vm.findClass "com/example/pooler/pooler/pool/Backoff" = some m.cls := findClass_of_methodNamed Bd.named
  have hnm := (name_of_methodNamed Bd.named Bd.method).1
  have X0 : Stand p l e ({ frames := 1, cells := 0, slots := 0, locals := 15 } : Room) s m #[(.ref bt)] below meth c s₁ [] 0 0 := Stand.of_body Bd
  have e0 : s₁.heap = h0 := by rw [← hh, Bd.state]; rfl
  have N0 := Fr.nil n0
  refine own_enter (Q := Qpa2 Z bt h0 n0) (Ls := #[.val (.ref bt), .unset, .unset, .unset]) (by first | (simp [entryFrame, mkF, argsToLocals, Value.category]; done) | rfl) ?_
  obtain ⟨T1, X1, e1, st1⟩ := getS2 X0 hx hZ hown (host := "") (Or.inl (hw _ (List.mem_of_getElem? (i := 37) rfl))) Via.refl e0 Ss (g := (mkF m 0 #[.val (.ref bt), .unset, .unset, .unset] [])) rfl (hb hby own_d7_0)
  refine Goes.go st1 ?_
  show Goes p e below s _ _ _ T1 (mkF m 3 #[.val (.ref bt), .unset, .unset, .unset] [(.long (100000000 : Int64))])
  refine own_lstoreN X1 hx 4 rfl #[.val (.ref bt), .val (.long (100000000 : Int64)), .second, .unset] (hb hby own_d7_3) rfl ?_
  refine own_iconst X1 hx 5 rfl (1 : Int32) (hb hby own_d7_4) (by decide) ?_
  refine own_istoreN X1 hx 6 rfl #[.val (.ref bt), .val (.long (100000000 : Int64)), .second, .val (.int (1 : Int32))] (hb hby own_d7_5) rfl ?_
  refine own_iloadN X1 hx 7 rfl (hb hby own_d7_6) rfl ?_
  refine own_aloadN X1 hx 8 rfl (hb hby own_d7_7) rfl rfl ?_
  obtain ⟨T2, X2, e2, st2⟩ := getF X1 hx hZ hown (host := "") (Or.inl (hw _ (List.mem_of_getElem? (i := 31) rfl))) Via.refl e1 Ff (g := (mkF m 8 #[.val (.ref bt), .val (.long (100000000 : Int64)), .second, .val (.int (1 : Int32))] [(.ref bt), (.int (1 : Int32))])) rfl rfl (hb hby own_d7_8)
  refine Goes.go st2 ?_
  show Goes p e below s _ _ _ T2 (mkF m 11 #[.val (.ref bt), .val (.long (100000000 : Int64)), .second, .val (.int (1 : Int32))] [(.int (2 : Int32)), (.int (1 : Int32))])
  refine own_icmpN X2 hx 14 (hb hby own_d7_11) (tlt ((by decide) : (1 : Int32) < (2 : Int32))).2.1 rfl ?_
  refine own_lloadN X2 hx 15 rfl (hb hby own_d7_14) rfl ?_
  obtain ⟨T3, X3, e3, st3⟩ := getS2 X2 hx hZ hown (host := "") (Or.inl (hw _ (List.mem_of_getElem? (i := 39) rfl))) Via.refl e2 Sl (g := (mkF m 15 #[.val (.ref bt), .val (.long (100000000 : Int64)), .second, .val (.int (1 : Int32))] [(.long (100000000 : Int64))])) rfl (hb hby own_d7_15)
  refine Goes.go st3 ?_
  show Goes p e below s _ _ _ T3 (mkF m 18 #[.val (.ref bt), .val (.long (100000000 : Int64)), .second, .val (.int (1 : Int32))] [(.long (1000000000 : Int64)), (.long (100000000 : Int64))])
  refine own_lcmp X3 hx 19 rfl (hb hby own_d7_18) ?_
  refine own_ifN X3 hx 22 (hb hby own_d7_19) (Ltlt ((by decide) : (100000000 : Int64) < (1000000000 : Int64))).2.1 rfl ?_
  refine own_lloadN X3 hx 23 rfl (hb hby own_d7_22) rfl ?_
  refine Goes.go (X3.ldc2Long hx hown (mvT hZ (hw _ (List.mem_of_getElem? (i := 53) rfl))) (g := (mkF m 23 #[.val (.ref bt), .val (.long (100000000 : Int64)), .second, .val (.int (1 : Int32))] [(.long (100000000 : Int64))])) rfl (hb hby own_d7_23)) ?_
  show Goes p e below s _ _ _ T3 (mkF m 26 #[.val (.ref bt), .val (.long (100000000 : Int64)), .second, .val (.int (1 : Int32))] [(.long (2 : Int64)), (.long (100000000 : Int64))])
  refine own_lmul X3 hx 27 rfl (z := (200000000 : Int64)) (hb hby own_d7_26) (by decide) ?_
  refine own_lstoreN X3 hx 28 rfl #[.val (.ref bt), .val (.long (200000000 : Int64)), .second, .val (.int (1 : Int32))] (hb hby own_d7_27) rfl ?_
  refine own_iinc X3 hx 31 rfl #[.val (.ref bt), .val (.long (200000000 : Int64)), .second, .val (.int (2 : Int32))] (hb hby own_d7_28) rfl (by decide) rfl ?_
  refine own_goto X3 hx 6 (hb hby own_d7_31) (by decide) (by decide) ?_
  refine own_iloadN X3 hx 7 rfl (hb hby own_d7_6) rfl ?_
  refine own_aloadN X3 hx 8 rfl (hb hby own_d7_7) rfl rfl ?_
  obtain ⟨T4, X4, e4, st4⟩ := getF X3 hx hZ hown (host := "") (Or.inl (hw _ (List.mem_of_getElem? (i := 31) rfl))) Via.refl e3 Ff (g := (mkF m 8 #[.val (.ref bt), .val (.long (200000000 : Int64)), .second, .val (.int (2 : Int32))] [(.ref bt), (.int (2 : Int32))])) rfl rfl (hb hby own_d7_8)
  refine Goes.go st4 ?_
  show Goes p e below s _ _ _ T4 (mkF m 11 #[.val (.ref bt), .val (.long (200000000 : Int64)), .second, .val (.int (2 : Int32))] [(.int (2 : Int32)), (.int (2 : Int32))])
  refine own_icmpY X4 hx 34 (hb hby own_d7_11) (flt ((by decide) : ¬ ((2 : Int32) < (2 : Int32)))).2.1 (by decide) (by decide) ?_
  refine own_lloadN X4 hx 35 rfl (hb hby own_d7_34) rfl ?_
  obtain ⟨T5, X5, e5, st5⟩ := getS2 X4 hx hZ hown (host := "") (Or.inl (hw _ (List.mem_of_getElem? (i := 39) rfl))) Via.refl e4 Sl (g := (mkF m 35 #[.val (.ref bt), .val (.long (200000000 : Int64)), .second, .val (.int (2 : Int32))] [(.long (200000000 : Int64))])) rfl (hb hby own_d7_35)
  refine Goes.go st5 ?_
  show Goes p e below s _ _ _ T5 (mkF m 38 #[.val (.ref bt), .val (.long (200000000 : Int64)), .second, .val (.int (2 : Int32))] [(.long (1000000000 : Int64)), (.long (200000000 : Int64))])
  obtain ⟨_, _, ⟨T6, L6, k6, n6⟩, -, X6, ⟨Lc6, hQ6, l6, y6, z6⟩, st6⟩ := Jvm.LawKit.callS X5 hx (y := (⟨"java/lang/Math", "min", "(JJ)J"⟩ : MethodName)) hown (mvT hZ (hw _ (List.mem_of_getElem? (i := 41) rfl))) (mvT hZ (hw _ (List.mem_of_getElem? (i := 42) rfl))) (mvT hZ (hw _ (List.mem_of_getElem? (i := 43) rfl))) (mvT hZ (hw _ (List.mem_of_getElem? (i := 44) rfl))) (by decide) (backOf (W := 0) (rmmi200000000 l Z a0 hw []  h0 n0 Z0 ) hZ (hw _ (List.mem_of_getElem? (i := 44) rfl)) (hw _ (List.mem_of_getElem? (i := 43) rfl)) (by decide) (by decide)) (g := (mkF m 38 #[.val (.ref bt), .val (.long (200000000 : Int64)), .second, .val (.int (2 : Int32))] [(.long (1000000000 : Int64)), (.long (200000000 : Int64))])) rfl (by rw [hml]; rfl) (argsL := [(.long (200000000 : Int64)), (.long (1000000000 : Int64))]) (rest := []) (lenOf own_pd1 rfl) rfl (by show 2 * 0 + _ ≤ _; exact Nat.le_of_eq rfl) (hb hby own_d7_38) (fun _ _ => ⟨rfl, e5, (by decide : 0 + 0 ≤ _), (by decide : 0 + 0 ≤ _)⟩)
  dsimp only [Pt.U, Pt.locs, Pt.cells, Pt.slots] at X6 l6 y6 z6 st6 hQ6
  subst l6 y6 z6
  obtain ⟨rfl, N6q, eh6⟩ := hQ6
  have N6 := Fr.app N0 N6q
  refine Goes.go st6 ?_
  show Goes p e below s _ _ _ T6 (mkF m 41 #[.val (.ref bt), .val (.long (200000000 : Int64)), .second, .val (.int (2 : Int32))] [(.long (200000000 : Int64))])
  refine own_retJ X6 hx hlk Bd.returns (hb hby own_d7_41) (by decide) (by decide) eh6 ?_
  exact ⟨rfl, N6, rfl⟩
def Qde2 (Z : State) (bt : Addr) (bn : Int64) (be : Int64) (h0 : Heap) (n0 : Nat) (v : Option Value) (h : Heap) (L : List Loc) : Prop := ∃ br : Int64, v = some (.long br) ∧ Fr n0 L ∧ h = h0 ∧ ((br = ((be + (200000000 : Int64)) - bn) ∧ (0 : Int64) < ((be + (200000000 : Int64)) - bn)) ∨ (br = (0 : Int64) ∧ ¬ (0 : Int64) < ((be + (200000000 : Int64)) - bn)))
set_option maxRecDepth 65536 in
set_option maxHeartbeats 40000000 in
theorem rmde2 (l : Launch) (Z : State) (a0 : Array Value) (hw : ∀ d ∈ tables_1, d.before a0 Z = true) (ws : List Jvm.Cond) (bt : Addr) (bn : Int64) (be : Int64) (h0 : Heap) (n0 : Nat) (Z0 : n0 ≤ h0.size) (EB : Exa Z h0 bt "com/example/pooler/pooler/pool/Backoff") (Ss : Sta Z h0 "com/example/pooler/pooler/pool/Backoff" "SHORTEST" "J" (.long (100000000 : Int64))) (Sl : Sta Z h0 "com/example/pooler/pooler/pool/Backoff" "LONGEST" "J" (.long (1000000000 : Int64))) (Ft : Fld Z h0 bt "com/example/pooler/pooler/pool/Backoff" "tried" "Z" (.int (1 : Int32))) (Fe : Fld Z h0 bt "com/example/pooler/pooler/pool/Backoff" "endedAt" "J" (.long be)) (Ff : Fld Z h0 bt "com/example/pooler/pooler/pool/Backoff" "failuresInARow" "I" (.int (2 : Int32))) :
    MetFree l (⟨"com/example/pooler/pooler/pool/Backoff", "delay", "(J)J"⟩ : MethodName) (head1 (Jvm.Cond.code (⟨"com/example/pooler/pooler/pool/Backoff", "delay", "(J)J"⟩ : MethodName) prog_23_method_2_code 5 (some .long) :: ws) ({ frames := 2, cells := 0, slots := 0, locals := 34 } : Room)) (fun a U => a = #[(.ref bt), (.long bn)] ∧ Z.Warmed39 U.vm ∧ U.heap = h0) (fun _ _ _ _ _ => True) (fun _ U o U' => ∃ v L, o = .returned v ∧ Qde2 Z bt bn be h0 n0 v U'.heap L ∧ FrameEnd U o U' L ({ frames := 2, cells := 0, slots := 0, locals := 34 } : Room).cells ({ frames := 2, cells := 0, slots := 0, locals := 34 } : Room).slots) := by
  refine MetFree.of_bodySF (plainFor_of_name own_pn_com_example_pooler_pooler_pool_Backoff) hisR ?_
  intro p e s m args below meth c s₁ Bd hml0 hP hK
  obtain ⟨rfl, hZ, hh⟩ := hP
  have hx := Bd.exec
  have hby := Bd.bytes
  have hml : c.maxLocals = 5 := hml0
  have hlk := Bd.notSynchronized
  have hown : s.vm.findClass "com/example/pooler/pooler/pool/Backoff" = some m.cls := findClass_of_methodNamed Bd.named
  have hnm := (name_of_methodNamed Bd.named Bd.method).1
  have X0 : Stand p l e ({ frames := 2, cells := 0, slots := 0, locals := 34 } : Room) s m #[(.ref bt), (.long bn)] below meth c s₁ [] 0 0 := Stand.of_body Bd
  have e0 : s₁.heap = h0 := by rw [← hh, Bd.state]; rfl
  have N0 := Fr.nil n0
  refine own_enter (Q := Qde2 Z bt bn be h0 n0) (Ls := #[.val (.ref bt), .val (.long bn), .second, .unset, .unset]) (by first | (simp [entryFrame, mkF, argsToLocals, Value.category]; done) | rfl) ?_
  refine own_lconst X0 hx 1 rfl (0 : Int64) (hb hby own_d3_0) (by decide) ?_
  refine own_lstoreN X0 hx 2 rfl #[.val (.ref bt), .val (.long bn), .second, .val (.long (0 : Int64)), .second] (hb hby own_d3_1) rfl ?_
  refine own_aloadN X0 hx 3 rfl (hb hby own_d3_2) rfl rfl ?_
  obtain ⟨T1, X1, e1, st1⟩ := getF X0 hx hZ hown (host := "") (Or.inl (hw _ (List.mem_of_getElem? (i := 14) rfl))) Via.refl e0 Ft (g := (mkF m 3 #[.val (.ref bt), .val (.long bn), .second, .val (.long (0 : Int64)), .second] [(.ref bt)])) rfl rfl (hb hby own_d3_3)
  refine Goes.go st1 ?_
  show Goes p e below s _ _ _ T1 (mkF m 6 #[.val (.ref bt), .val (.long bn), .second, .val (.long (0 : Int64)), .second] [(.int (1 : Int32))])
  refine own_ifN X1 hx 9 (hb hby own_d3_6) ((if0 _ _).trans (feq ((by decide) : ¬ ((1 : Int32) = (0 : Int32)))).1) rfl ?_
  refine own_lconst X1 hx 10 rfl (0 : Int64) (hb hby own_d3_9) (by decide) ?_
  refine own_aloadN X1 hx 11 rfl (hb hby own_d3_10) rfl rfl ?_
  obtain ⟨T2, X2, e2, st2⟩ := getF X1 hx hZ hown (host := "") (Or.inl (hw _ (List.mem_of_getElem? (i := 29) rfl))) Via.refl e1 Fe (g := (mkF m 11 #[.val (.ref bt), .val (.long bn), .second, .val (.long (0 : Int64)), .second] [(.ref bt), (.long (0 : Int64))])) rfl rfl (hb hby own_d3_11)
  refine Goes.go st2 ?_
  show Goes p e below s _ _ _ T2 (mkF m 14 #[.val (.ref bt), .val (.long bn), .second, .val (.long (0 : Int64)), .second] [(.long be), (.long (0 : Int64))])
  refine own_aloadN X2 hx 15 rfl (hb hby own_d3_14) rfl rfl ?_
  obtain ⟨cq3, q3, q3'⟩ := EB.cell
  obtain ⟨_, _, ⟨T3, L3, k3, n3⟩, -, X3, ⟨Lc3, hQ3, l3, y3, z3⟩, st3⟩ := X2.privateBack hx (y := (⟨"com/example/pooler/pooler/pool/Backoff", "pause", "()J"⟩ : MethodName)) hown (mvT hZ (hw _ (List.mem_of_getElem? (i := 33) rfl))) (mvT hZ (hw _ (List.mem_of_getElem? (i := 34) rfl))) (own_selP (mvT hZ (hw _ (List.mem_of_getElem? (i := 1) rfl))) (mvP hZ (hw _ (List.mem_of_getElem? (i := 35) rfl))) (mvT hZ (hw _ (List.mem_of_getElem? (i := 34) rfl))) (by decide)) (Cond.privateMethod_at (mvP hZ (hw _ (List.mem_of_getElem? (i := 35) rfl)) (args := #[]))) (mvT hZ (hw _ (List.mem_of_getElem? (i := 36) rfl))) (by decide) (backOf (W := 4) (rmpa2 l Z a0 hw [] bt h0 n0 Z0 Ss Sl Ff) hZ (hw _ (List.mem_of_getElem? (i := 36) rfl)) (hw _ (List.mem_of_getElem? (i := 2) rfl)) (by decide) (by decide)) (g := (mkF m 15 #[.val (.ref bt), .val (.long bn), .second, .val (.long (0 : Int64)), .second] [(.ref bt), (.long be), (.long (0 : Int64))])) rfl (by rw [hml]; rfl) (Steps.refl _) (a := bt) (by rw [e2]; exact q3) q3' (argsL := []) (rest := [(.long be), (.long (0 : Int64))]) (lenOf own_pd2 rfl) rfl (by show 2 * 0 + _ ≤ _; exact Nat.le_of_eq rfl) (hb hby own_d3_15) (fun _ _ => ⟨rfl, e2, (by decide : 0 + 0 ≤ _), (by decide : 0 + 0 ≤ _)⟩)
  dsimp only [Pt.U, Pt.locs, Pt.cells, Pt.slots] at X3 l3 y3 z3 st3 hQ3
  subst l3 y3 z3
  obtain ⟨rfl, N3q, eh3⟩ := hQ3
  have N3 := Fr.app N0 N3q
  refine Goes.tr st3 ?_
  show Goes p e below s _ _ _ T3 (mkF m 18 #[.val (.ref bt), .val (.long bn), .second, .val (.long (0 : Int64)), .second] [(.long (200000000 : Int64)), (.long be), (.long (0 : Int64))])
  refine own_ladd X3 hx 19 rfl (hb hby own_d3_18) rfl ?_
  refine own_lloadN X3 hx 20 rfl (hb hby own_d3_19) rfl ?_
  refine own_lsub X3 hx 21 rfl (hb hby own_d3_20) rfl ?_
  obtain ⟨_, _, ⟨T4, L4, k4, n4⟩, -, X4, ⟨Lc4, hQ4, l4, y4, z4⟩, st4⟩ := Jvm.LawKit.callS X3 hx (y := (⟨"java/lang/Math", "max", "(JJ)J"⟩ : MethodName)) hown (mvT hZ (hw _ (List.mem_of_getElem? (i := 45) rfl))) (mvT hZ (hw _ (List.mem_of_getElem? (i := 46) rfl))) (mvT hZ (hw _ (List.mem_of_getElem? (i := 43) rfl))) (mvT hZ (hw _ (List.mem_of_getElem? (i := 47) rfl))) (by decide) (backOf (W := 0) (rm9 l Z a0 hw [] (0 : Int64) ((be + (200000000 : Int64)) - bn) h0 n0 Z0 ) hZ (hw _ (List.mem_of_getElem? (i := 47) rfl)) (hw _ (List.mem_of_getElem? (i := 43) rfl)) (by decide) (by decide)) (g := (mkF m 21 #[.val (.ref bt), .val (.long bn), .second, .val (.long (0 : Int64)), .second] [(.long ((be + (200000000 : Int64)) - bn)), (.long (0 : Int64))])) rfl (by rw [hml]; rfl) (argsL := [(.long (0 : Int64)), (.long ((be + (200000000 : Int64)) - bn))]) (rest := []) (lenOf own_pd1 rfl) rfl (by show 2 * 0 + _ ≤ _; exact Nat.le_of_eq rfl) (hb hby own_d3_21) (fun _ _ => ⟨rfl, eh3, (by decide : 0 + 0 ≤ _), (by decide : 0 + 0 ≤ _)⟩)
  dsimp only [Pt.U, Pt.locs, Pt.cells, Pt.slots] at X4 l4 y4 z4 st4 hQ4
  subst l4 y4 z4
  obtain ⟨mr_4, rfl, N4q, eh4, pr4_0⟩ := hQ4
  have N4 := Fr.app N3 N4q
  refine Goes.go st4 ?_
  show Goes p e below s _ _ _ T4 (mkF m 24 #[.val (.ref bt), .val (.long bn), .second, .val (.long (0 : Int64)), .second] [(.long mr_4)])
  refine own_lstoreN X4 hx 25 rfl #[.val (.ref bt), .val (.long bn), .second, .val (.long mr_4), .second] (hb hby own_d3_24) rfl ?_
  refine own_lloadN X4 hx 26 rfl (hb hby own_d3_25) rfl ?_
  refine own_retJ X4 hx hlk Bd.returns (hb hby own_d3_26) (by decide) (by decide) eh4 ?_
  exact ⟨mr_4, rfl, N4, rfl, pr4_0⟩
def Qmi400000000 (Z : State)  (h0 : Heap) (n0 : Nat) (v : Option Value) (h : Heap) (L : List Loc) : Prop := v = some (.long (400000000 : Int64)) ∧ Fr n0 L ∧ h = h0
set_option maxRecDepth 65536 in
set_option maxHeartbeats 40000000 in
theorem rmmi400000000 (l : Launch) (Z : State) (a0 : Array Value) (hw : ∀ d ∈ tables_1, d.before a0 Z = true) (ws : List Jvm.Cond)  (h0 : Heap) (n0 : Nat) (Z0 : n0 ≤ h0.size)  :
    MetFree l (⟨"java/lang/Math", "min", "(JJ)J"⟩ : MethodName) (head1 (Jvm.Cond.code (⟨"java/lang/Math", "min", "(JJ)J"⟩ : MethodName) jdk_29_method_70_code 4 (some .long) :: ws) ({ frames := 0, cells := 0, slots := 0, locals := 0 } : Room)) (fun a U => a = #[(.long (400000000 : Int64)), (.long (1000000000 : Int64))] ∧ Z.Warmed39 U.vm ∧ U.heap = h0) (fun _ _ _ _ _ => True) (fun _ U o U' => ∃ v L, o = .returned v ∧ Qmi400000000 Z  h0 n0 v U'.heap L ∧ FrameEnd U o U' L ({ frames := 0, cells := 0, slots := 0, locals := 0 } : Room).cells ({ frames := 0, cells := 0, slots := 0, locals := 0 } : Room).slots) := by
  refine MetFree.of_bodySF (Jvm.Free.JP.mathPlain rfl (by decide +kernel)) hisR ?_
  intro p e s m args below meth c s₁ Bd hml0 hP hK
  obtain ⟨rfl, hZ, hh⟩ := hP
  have hx := Bd.exec
  have hby := Bd.bytes
  have hml : c.maxLocals = 4 := hml0
  have hlk := Bd.notSynchronized
  have hown : s.vm.findClass "java/lang/Math" = some m.cls := findClass_of_methodNamed Bd.named
  have hnm := (name_of_methodNamed Bd.named Bd.method).1
  have X0 : Stand p l e ({ frames := 0, cells := 0, slots := 0, locals := 0 } : Room) s m #[(.long (400000000 : Int64)), (.long (1000000000 : Int64))] below meth c s₁ [] 0 0 := Stand.of_body Bd
  have e0 : s₁.heap = h0 := by rw [← hh, Bd.state]; rfl
  have N0 := Fr.nil n0
  refine own_enter (Q := Qmi400000000 Z  h0 n0) (Ls := #[.val (.long (400000000 : Int64)), .second, .val (.long (1000000000 : Int64)), .second]) (by first | (simp [entryFrame, mkF, argsToLocals, Value.category]; done) | rfl) ?_
  refine own_lloadN X0 hx 1 rfl (hb hby own_d8_0) rfl ?_
  refine own_lloadN X0 hx 2 rfl (hb hby own_d8_1) rfl ?_
  refine own_lcmp X0 hx 3 rfl (hb hby own_d8_2) ?_
  refine own_ifN X0 hx 6 (hb hby own_d8_3) (Lflt ((by decide) : ¬ ((1000000000 : Int64) < (400000000 : Int64)))).2.2.1 rfl ?_
  refine own_lloadN X0 hx 7 rfl (hb hby own_d8_6) rfl ?_
  refine own_goto X0 hx 11 (hb hby own_d8_7) (by decide) (by decide) ?_
  refine own_retJ X0 hx hlk Bd.returns (hb hby own_d8_11) (by decide) (by decide) e0 ?_
  exact ⟨rfl, N0, rfl⟩
def Qpa3 (Z : State) (bt : Addr) (h0 : Heap) (n0 : Nat) (v : Option Value) (h : Heap) (L : List Loc) : Prop := v = some (.long (400000000 : Int64)) ∧ Fr n0 L ∧ h = h0
set_option maxRecDepth 65536 in
set_option maxHeartbeats 40000000 in
theorem rmpa3 (l : Launch) (Z : State) (a0 : Array Value) (hw : ∀ d ∈ tables_1, d.before a0 Z = true) (ws : List Jvm.Cond) (bt : Addr) (h0 : Heap) (n0 : Nat) (Z0 : n0 ≤ h0.size) (Ss : Sta Z h0 "com/example/pooler/pooler/pool/Backoff" "SHORTEST" "J" (.long (100000000 : Int64))) (Sl : Sta Z h0 "com/example/pooler/pooler/pool/Backoff" "LONGEST" "J" (.long (1000000000 : Int64))) (Ff : Fld Z h0 bt "com/example/pooler/pooler/pool/Backoff" "failuresInARow" "I" (.int (3 : Int32))) :
    MetFree l (⟨"com/example/pooler/pooler/pool/Backoff", "pause", "()J"⟩ : MethodName) (head1 (Jvm.Cond.code (⟨"com/example/pooler/pooler/pool/Backoff", "pause", "()J"⟩ : MethodName) prog_23_method_6_code 4 (some .long) :: ws) ({ frames := 1, cells := 0, slots := 0, locals := 15 } : Room)) (fun a U => a = #[(.ref bt)] ∧ Z.Warmed39 U.vm ∧ U.heap = h0) (fun _ _ _ _ _ => True) (fun _ U o U' => ∃ v L, o = .returned v ∧ Qpa3 Z bt h0 n0 v U'.heap L ∧ FrameEnd U o U' L ({ frames := 1, cells := 0, slots := 0, locals := 15 } : Room).cells ({ frames := 1, cells := 0, slots := 0, locals := 15 } : Room).slots) := by
  refine MetFree.of_bodySF (plainFor_of_name own_pn_com_example_pooler_pooler_pool_Backoff) hisR ?_
  intro p e s m args below meth c s₁ Bd hml0 hP hK
  obtain ⟨rfl, hZ, hh⟩ := hP
  have hx := Bd.exec
  have hby := Bd.bytes
  have hml : c.maxLocals = 4 := hml0
  have hlk := Bd.notSynchronized
  have hown : s.vm.findClass "com/example/pooler/pooler/pool/Backoff" = some m.cls := findClass_of_methodNamed Bd.named
  have hnm := (name_of_methodNamed Bd.named Bd.method).1
  have X0 : Stand p l e ({ frames := 1, cells := 0, slots := 0, locals := 15 } : Room) s m #[(.ref bt)] below meth c s₁ [] 0 0 := Stand.of_body Bd
  have e0 : s₁.heap = h0 := by rw [← hh, Bd.state]; rfl
  have N0 := Fr.nil n0
  refine own_enter (Q := Qpa3 Z bt h0 n0) (Ls := #[.val (.ref bt), .unset, .unset, .unset]) (by first | (simp [entryFrame, mkF, argsToLocals, Value.category]; done) | rfl) ?_
  obtain ⟨T1, X1, e1, st1⟩ := getS2 X0 hx hZ hown (host := "") (Or.inl (hw _ (List.mem_of_getElem? (i := 37) rfl))) Via.refl e0 Ss (g := (mkF m 0 #[.val (.ref bt), .unset, .unset, .unset] [])) rfl (hb hby own_d7_0)
  refine Goes.go st1 ?_
  show Goes p e below s _ _ _ T1 (mkF m 3 #[.val (.ref bt), .unset, .unset, .unset] [(.long (100000000 : Int64))])
  refine own_lstoreN X1 hx 4 rfl #[.val (.ref bt), .val (.long (100000000 : Int64)), .second, .unset] (hb hby own_d7_3) rfl ?_
  refine own_iconst X1 hx 5 rfl (1 : Int32) (hb hby own_d7_4) (by decide) ?_
  refine own_istoreN X1 hx 6 rfl #[.val (.ref bt), .val (.long (100000000 : Int64)), .second, .val (.int (1 : Int32))] (hb hby own_d7_5) rfl ?_
  refine own_iloadN X1 hx 7 rfl (hb hby own_d7_6) rfl ?_
  refine own_aloadN X1 hx 8 rfl (hb hby own_d7_7) rfl rfl ?_
  obtain ⟨T2, X2, e2, st2⟩ := getF X1 hx hZ hown (host := "") (Or.inl (hw _ (List.mem_of_getElem? (i := 31) rfl))) Via.refl e1 Ff (g := (mkF m 8 #[.val (.ref bt), .val (.long (100000000 : Int64)), .second, .val (.int (1 : Int32))] [(.ref bt), (.int (1 : Int32))])) rfl rfl (hb hby own_d7_8)
  refine Goes.go st2 ?_
  show Goes p e below s _ _ _ T2 (mkF m 11 #[.val (.ref bt), .val (.long (100000000 : Int64)), .second, .val (.int (1 : Int32))] [(.int (3 : Int32)), (.int (1 : Int32))])
  refine own_icmpN X2 hx 14 (hb hby own_d7_11) (tlt ((by decide) : (1 : Int32) < (3 : Int32))).2.1 rfl ?_
  refine own_lloadN X2 hx 15 rfl (hb hby own_d7_14) rfl ?_
  obtain ⟨T3, X3, e3, st3⟩ := getS2 X2 hx hZ hown (host := "") (Or.inl (hw _ (List.mem_of_getElem? (i := 39) rfl))) Via.refl e2 Sl (g := (mkF m 15 #[.val (.ref bt), .val (.long (100000000 : Int64)), .second, .val (.int (1 : Int32))] [(.long (100000000 : Int64))])) rfl (hb hby own_d7_15)
  refine Goes.go st3 ?_
  show Goes p e below s _ _ _ T3 (mkF m 18 #[.val (.ref bt), .val (.long (100000000 : Int64)), .second, .val (.int (1 : Int32))] [(.long (1000000000 : Int64)), (.long (100000000 : Int64))])
  refine own_lcmp X3 hx 19 rfl (hb hby own_d7_18) ?_
  refine own_ifN X3 hx 22 (hb hby own_d7_19) (Ltlt ((by decide) : (100000000 : Int64) < (1000000000 : Int64))).2.1 rfl ?_
  refine own_lloadN X3 hx 23 rfl (hb hby own_d7_22) rfl ?_
  refine Goes.go (X3.ldc2Long hx hown (mvT hZ (hw _ (List.mem_of_getElem? (i := 53) rfl))) (g := (mkF m 23 #[.val (.ref bt), .val (.long (100000000 : Int64)), .second, .val (.int (1 : Int32))] [(.long (100000000 : Int64))])) rfl (hb hby own_d7_23)) ?_
  show Goes p e below s _ _ _ T3 (mkF m 26 #[.val (.ref bt), .val (.long (100000000 : Int64)), .second, .val (.int (1 : Int32))] [(.long (2 : Int64)), (.long (100000000 : Int64))])
  refine own_lmul X3 hx 27 rfl (z := (200000000 : Int64)) (hb hby own_d7_26) (by decide) ?_
  refine own_lstoreN X3 hx 28 rfl #[.val (.ref bt), .val (.long (200000000 : Int64)), .second, .val (.int (1 : Int32))] (hb hby own_d7_27) rfl ?_
  refine own_iinc X3 hx 31 rfl #[.val (.ref bt), .val (.long (200000000 : Int64)), .second, .val (.int (2 : Int32))] (hb hby own_d7_28) rfl (by decide) rfl ?_
  refine own_goto X3 hx 6 (hb hby own_d7_31) (by decide) (by decide) ?_
  refine own_iloadN X3 hx 7 rfl (hb hby own_d7_6) rfl ?_
  refine own_aloadN X3 hx 8 rfl (hb hby own_d7_7) rfl rfl ?_
  obtain ⟨T4, X4, e4, st4⟩ := getF X3 hx hZ hown (host := "") (Or.inl (hw _ (List.mem_of_getElem? (i := 31) rfl))) Via.refl e3 Ff (g := (mkF m 8 #[.val (.ref bt), .val (.long (200000000 : Int64)), .second, .val (.int (2 : Int32))] [(.ref bt), (.int (2 : Int32))])) rfl rfl (hb hby own_d7_8)
  refine Goes.go st4 ?_
  show Goes p e below s _ _ _ T4 (mkF m 11 #[.val (.ref bt), .val (.long (200000000 : Int64)), .second, .val (.int (2 : Int32))] [(.int (3 : Int32)), (.int (2 : Int32))])
  refine own_icmpN X4 hx 14 (hb hby own_d7_11) (tlt ((by decide) : (2 : Int32) < (3 : Int32))).2.1 rfl ?_
  refine own_lloadN X4 hx 15 rfl (hb hby own_d7_14) rfl ?_
  obtain ⟨T5, X5, e5, st5⟩ := getS2 X4 hx hZ hown (host := "") (Or.inl (hw _ (List.mem_of_getElem? (i := 39) rfl))) Via.refl e4 Sl (g := (mkF m 15 #[.val (.ref bt), .val (.long (200000000 : Int64)), .second, .val (.int (2 : Int32))] [(.long (200000000 : Int64))])) rfl (hb hby own_d7_15)
  refine Goes.go st5 ?_
  show Goes p e below s _ _ _ T5 (mkF m 18 #[.val (.ref bt), .val (.long (200000000 : Int64)), .second, .val (.int (2 : Int32))] [(.long (1000000000 : Int64)), (.long (200000000 : Int64))])
  refine own_lcmp X5 hx 19 rfl (hb hby own_d7_18) ?_
  refine own_ifN X5 hx 22 (hb hby own_d7_19) (Ltlt ((by decide) : (200000000 : Int64) < (1000000000 : Int64))).2.1 rfl ?_
  refine own_lloadN X5 hx 23 rfl (hb hby own_d7_22) rfl ?_
  refine Goes.go (X5.ldc2Long hx hown (mvT hZ (hw _ (List.mem_of_getElem? (i := 53) rfl))) (g := (mkF m 23 #[.val (.ref bt), .val (.long (200000000 : Int64)), .second, .val (.int (2 : Int32))] [(.long (200000000 : Int64))])) rfl (hb hby own_d7_23)) ?_
  show Goes p e below s _ _ _ T5 (mkF m 26 #[.val (.ref bt), .val (.long (200000000 : Int64)), .second, .val (.int (2 : Int32))] [(.long (2 : Int64)), (.long (200000000 : Int64))])
  refine own_lmul X5 hx 27 rfl (z := (400000000 : Int64)) (hb hby own_d7_26) (by decide) ?_
  refine own_lstoreN X5 hx 28 rfl #[.val (.ref bt), .val (.long (400000000 : Int64)), .second, .val (.int (2 : Int32))] (hb hby own_d7_27) rfl ?_
  refine own_iinc X5 hx 31 rfl #[.val (.ref bt), .val (.long (400000000 : Int64)), .second, .val (.int (3 : Int32))] (hb hby own_d7_28) rfl (by decide) rfl ?_
  refine own_goto X5 hx 6 (hb hby own_d7_31) (by decide) (by decide) ?_
  refine own_iloadN X5 hx 7 rfl (hb hby own_d7_6) rfl ?_
  refine own_aloadN X5 hx 8 rfl (hb hby own_d7_7) rfl rfl ?_
  obtain ⟨T6, X6, e6, st6⟩ := getF X5 hx hZ hown (host := "") (Or.inl (hw _ (List.mem_of_getElem? (i := 31) rfl))) Via.refl e5 Ff (g := (mkF m 8 #[.val (.ref bt), .val (.long (400000000 : Int64)), .second, .val (.int (3 : Int32))] [(.ref bt), (.int (3 : Int32))])) rfl rfl (hb hby own_d7_8)
  refine Goes.go st6 ?_
  show Goes p e below s _ _ _ T6 (mkF m 11 #[.val (.ref bt), .val (.long (400000000 : Int64)), .second, .val (.int (3 : Int32))] [(.int (3 : Int32)), (.int (3 : Int32))])
  refine own_icmpY X6 hx 34 (hb hby own_d7_11) (flt ((by decide) : ¬ ((3 : Int32) < (3 : Int32)))).2.1 (by decide) (by decide) ?_
  refine own_lloadN X6 hx 35 rfl (hb hby own_d7_34) rfl ?_
  obtain ⟨T7, X7, e7, st7⟩ := getS2 X6 hx hZ hown (host := "") (Or.inl (hw _ (List.mem_of_getElem? (i := 39) rfl))) Via.refl e6 Sl (g := (mkF m 35 #[.val (.ref bt), .val (.long (400000000 : Int64)), .second, .val (.int (3 : Int32))] [(.long (400000000 : Int64))])) rfl (hb hby own_d7_35)
  refine Goes.go st7 ?_
  show Goes p e below s _ _ _ T7 (mkF m 38 #[.val (.ref bt), .val (.long (400000000 : Int64)), .second, .val (.int (3 : Int32))] [(.long (1000000000 : Int64)), (.long (400000000 : Int64))])
  obtain ⟨_, _, ⟨T8, L8, k8, n8⟩, -, X8, ⟨Lc8, hQ8, l8, y8, z8⟩, st8⟩ := Jvm.LawKit.callS X7 hx (y := (⟨"java/lang/Math", "min", "(JJ)J"⟩ : MethodName)) hown (mvT hZ (hw _ (List.mem_of_getElem? (i := 41) rfl))) (mvT hZ (hw _ (List.mem_of_getElem? (i := 42) rfl))) (mvT hZ (hw _ (List.mem_of_getElem? (i := 43) rfl))) (mvT hZ (hw _ (List.mem_of_getElem? (i := 44) rfl))) (by decide) (backOf (W := 0) (rmmi400000000 l Z a0 hw []  h0 n0 Z0 ) hZ (hw _ (List.mem_of_getElem? (i := 44) rfl)) (hw _ (List.mem_of_getElem? (i := 43) rfl)) (by decide) (by decide)) (g := (mkF m 38 #[.val (.ref bt), .val (.long (400000000 : Int64)), .second, .val (.int (3 : Int32))] [(.long (1000000000 : Int64)), (.long (400000000 : Int64))])) rfl (by rw [hml]; rfl) (argsL := [(.long (400000000 : Int64)), (.long (1000000000 : Int64))]) (rest := []) (lenOf own_pd1 rfl) rfl (by show 2 * 0 + _ ≤ _; exact Nat.le_of_eq rfl) (hb hby own_d7_38) (fun _ _ => ⟨rfl, e7, (by decide : 0 + 0 ≤ _), (by decide : 0 + 0 ≤ _)⟩)
  dsimp only [Pt.U, Pt.locs, Pt.cells, Pt.slots] at X8 l8 y8 z8 st8 hQ8
  subst l8 y8 z8
  obtain ⟨rfl, N8q, eh8⟩ := hQ8
  have N8 := Fr.app N0 N8q
  refine Goes.go st8 ?_
  show Goes p e below s _ _ _ T8 (mkF m 41 #[.val (.ref bt), .val (.long (400000000 : Int64)), .second, .val (.int (3 : Int32))] [(.long (400000000 : Int64))])
  refine own_retJ X8 hx hlk Bd.returns (hb hby own_d7_41) (by decide) (by decide) eh8 ?_
  exact ⟨rfl, N8, rfl⟩
def Qde3 (Z : State) (bt : Addr) (bn : Int64) (be : Int64) (h0 : Heap) (n0 : Nat) (v : Option Value) (h : Heap) (L : List Loc) : Prop := ∃ br : Int64, v = some (.long br) ∧ Fr n0 L ∧ h = h0 ∧ ((br = ((be + (400000000 : Int64)) - bn) ∧ (0 : Int64) < ((be + (400000000 : Int64)) - bn)) ∨ (br = (0 : Int64) ∧ ¬ (0 : Int64) < ((be + (400000000 : Int64)) - bn)))
set_option maxRecDepth 65536 in
set_option maxHeartbeats 40000000 in
theorem rmde3 (l : Launch) (Z : State) (a0 : Array Value) (hw : ∀ d ∈ tables_1, d.before a0 Z = true) (ws : List Jvm.Cond) (bt : Addr) (bn : Int64) (be : Int64) (h0 : Heap) (n0 : Nat) (Z0 : n0 ≤ h0.size) (EB : Exa Z h0 bt "com/example/pooler/pooler/pool/Backoff") (Ss : Sta Z h0 "com/example/pooler/pooler/pool/Backoff" "SHORTEST" "J" (.long (100000000 : Int64))) (Sl : Sta Z h0 "com/example/pooler/pooler/pool/Backoff" "LONGEST" "J" (.long (1000000000 : Int64))) (Ft : Fld Z h0 bt "com/example/pooler/pooler/pool/Backoff" "tried" "Z" (.int (1 : Int32))) (Fe : Fld Z h0 bt "com/example/pooler/pooler/pool/Backoff" "endedAt" "J" (.long be)) (Ff : Fld Z h0 bt "com/example/pooler/pooler/pool/Backoff" "failuresInARow" "I" (.int (3 : Int32))) :
    MetFree l (⟨"com/example/pooler/pooler/pool/Backoff", "delay", "(J)J"⟩ : MethodName) (head1 (Jvm.Cond.code (⟨"com/example/pooler/pooler/pool/Backoff", "delay", "(J)J"⟩ : MethodName) prog_23_method_2_code 5 (some .long) :: ws) ({ frames := 2, cells := 0, slots := 0, locals := 34 } : Room)) (fun a U => a = #[(.ref bt), (.long bn)] ∧ Z.Warmed39 U.vm ∧ U.heap = h0) (fun _ _ _ _ _ => True) (fun _ U o U' => ∃ v L, o = .returned v ∧ Qde3 Z bt bn be h0 n0 v U'.heap L ∧ FrameEnd U o U' L ({ frames := 2, cells := 0, slots := 0, locals := 34 } : Room).cells ({ frames := 2, cells := 0, slots := 0, locals := 34 } : Room).slots) := by
  refine MetFree.of_bodySF (plainFor_of_name own_pn_com_example_pooler_pooler_pool_Backoff) hisR ?_
  intro p e s m args below meth c s₁ Bd hml0 hP hK
  obtain ⟨rfl, hZ, hh⟩ := hP
  have hx := Bd.exec
  have hby := Bd.bytes
  have hml : c.maxLocals = 5 := hml0
  have hlk := Bd.notSynchronized
  have hown : s.vm.findClass "com/example/pooler/pooler/pool/Backoff" = some m.cls := findClass_of_methodNamed Bd.named
  have hnm := (name_of_methodNamed Bd.named Bd.method).1
  have X0 : Stand p l e ({ frames := 2, cells := 0, slots := 0, locals := 34 } : Room) s m #[(.ref bt), (.long bn)] below meth c s₁ [] 0 0 := Stand.of_body Bd
  have e0 : s₁.heap = h0 := by rw [← hh, Bd.state]; rfl
  have N0 := Fr.nil n0
  refine own_enter (Q := Qde3 Z bt bn be h0 n0) (Ls := #[.val (.ref bt), .val (.long bn), .second, .unset, .unset]) (by first | (simp [entryFrame, mkF, argsToLocals, Value.category]; done) | rfl) ?_
  refine own_lconst X0 hx 1 rfl (0 : Int64) (hb hby own_d3_0) (by decide) ?_
  refine own_lstoreN X0 hx 2 rfl #[.val (.ref bt), .val (.long bn), .second, .val (.long (0 : Int64)), .second] (hb hby own_d3_1) rfl ?_
  refine own_aloadN X0 hx 3 rfl (hb hby own_d3_2) rfl rfl ?_
  obtain ⟨T1, X1, e1, st1⟩ := getF X0 hx hZ hown (host := "") (Or.inl (hw _ (List.mem_of_getElem? (i := 14) rfl))) Via.refl e0 Ft (g := (mkF m 3 #[.val (.ref bt), .val (.long bn), .second, .val (.long (0 : Int64)), .second] [(.ref bt)])) rfl rfl (hb hby own_d3_3)
  refine Goes.go st1 ?_
  show Goes p e below s _ _ _ T1 (mkF m 6 #[.val (.ref bt), .val (.long bn), .second, .val (.long (0 : Int64)), .second] [(.int (1 : Int32))])
  refine own_ifN X1 hx 9 (hb hby own_d3_6) ((if0 _ _).trans (feq ((by decide) : ¬ ((1 : Int32) = (0 : Int32)))).1) rfl ?_
  refine own_lconst X1 hx 10 rfl (0 : Int64) (hb hby own_d3_9) (by decide) ?_
  refine own_aloadN X1 hx 11 rfl (hb hby own_d3_10) rfl rfl ?_
  obtain ⟨T2, X2, e2, st2⟩ := getF X1 hx hZ hown (host := "") (Or.inl (hw _ (List.mem_of_getElem? (i := 29) rfl))) Via.refl e1 Fe (g := (mkF m 11 #[.val (.ref bt), .val (.long bn), .second, .val (.long (0 : Int64)), .second] [(.ref bt), (.long (0 : Int64))])) rfl rfl (hb hby own_d3_11)
  refine Goes.go st2 ?_
  show Goes p e below s _ _ _ T2 (mkF m 14 #[.val (.ref bt), .val (.long bn), .second, .val (.long (0 : Int64)), .second] [(.long be), (.long (0 : Int64))])
  refine own_aloadN X2 hx 15 rfl (hb hby own_d3_14) rfl rfl ?_
  obtain ⟨cq3, q3, q3'⟩ := EB.cell
  obtain ⟨_, _, ⟨T3, L3, k3, n3⟩, -, X3, ⟨Lc3, hQ3, l3, y3, z3⟩, st3⟩ := X2.privateBack hx (y := (⟨"com/example/pooler/pooler/pool/Backoff", "pause", "()J"⟩ : MethodName)) hown (mvT hZ (hw _ (List.mem_of_getElem? (i := 33) rfl))) (mvT hZ (hw _ (List.mem_of_getElem? (i := 34) rfl))) (own_selP (mvT hZ (hw _ (List.mem_of_getElem? (i := 1) rfl))) (mvP hZ (hw _ (List.mem_of_getElem? (i := 35) rfl))) (mvT hZ (hw _ (List.mem_of_getElem? (i := 34) rfl))) (by decide)) (Cond.privateMethod_at (mvP hZ (hw _ (List.mem_of_getElem? (i := 35) rfl)) (args := #[]))) (mvT hZ (hw _ (List.mem_of_getElem? (i := 36) rfl))) (by decide) (backOf (W := 4) (rmpa3 l Z a0 hw [] bt h0 n0 Z0 Ss Sl Ff) hZ (hw _ (List.mem_of_getElem? (i := 36) rfl)) (hw _ (List.mem_of_getElem? (i := 2) rfl)) (by decide) (by decide)) (g := (mkF m 15 #[.val (.ref bt), .val (.long bn), .second, .val (.long (0 : Int64)), .second] [(.ref bt), (.long be), (.long (0 : Int64))])) rfl (by rw [hml]; rfl) (Steps.refl _) (a := bt) (by rw [e2]; exact q3) q3' (argsL := []) (rest := [(.long be), (.long (0 : Int64))]) (lenOf own_pd2 rfl) rfl (by show 2 * 0 + _ ≤ _; exact Nat.le_of_eq rfl) (hb hby own_d3_15) (fun _ _ => ⟨rfl, e2, (by decide : 0 + 0 ≤ _), (by decide : 0 + 0 ≤ _)⟩)
  dsimp only [Pt.U, Pt.locs, Pt.cells, Pt.slots] at X3 l3 y3 z3 st3 hQ3
  subst l3 y3 z3
  obtain ⟨rfl, N3q, eh3⟩ := hQ3
  have N3 := Fr.app N0 N3q
  refine Goes.tr st3 ?_
  show Goes p e below s _ _ _ T3 (mkF m 18 #[.val (.ref bt), .val (.long bn), .second, .val (.long (0 : Int64)), .second] [(.long (400000000 : Int64)), (.long be), (.long (0 : Int64))])
  refine own_ladd X3 hx 19 rfl (hb hby own_d3_18) rfl ?_
  refine own_lloadN X3 hx 20 rfl (hb hby own_d3_19) rfl ?_
  refine own_lsub X3 hx 21 rfl (hb hby own_d3_20) rfl ?_
  obtain ⟨_, _, ⟨T4, L4, k4, n4⟩, -, X4, ⟨Lc4, hQ4, l4, y4, z4⟩, st4⟩ := Jvm.LawKit.callS X3 hx (y := (⟨"java/lang/Math", "max", "(JJ)J"⟩ : MethodName)) hown (mvT hZ (hw _ (List.mem_of_getElem? (i := 45) rfl))) (mvT hZ (hw _ (List.mem_of_getElem? (i := 46) rfl))) (mvT hZ (hw _ (List.mem_of_getElem? (i := 43) rfl))) (mvT hZ (hw _ (List.mem_of_getElem? (i := 47) rfl))) (by decide) (backOf (W := 0) (rm9 l Z a0 hw [] (0 : Int64) ((be + (400000000 : Int64)) - bn) h0 n0 Z0 ) hZ (hw _ (List.mem_of_getElem? (i := 47) rfl)) (hw _ (List.mem_of_getElem? (i := 43) rfl)) (by decide) (by decide)) (g := (mkF m 21 #[.val (.ref bt), .val (.long bn), .second, .val (.long (0 : Int64)), .second] [(.long ((be + (400000000 : Int64)) - bn)), (.long (0 : Int64))])) rfl (by rw [hml]; rfl) (argsL := [(.long (0 : Int64)), (.long ((be + (400000000 : Int64)) - bn))]) (rest := []) (lenOf own_pd1 rfl) rfl (by show 2 * 0 + _ ≤ _; exact Nat.le_of_eq rfl) (hb hby own_d3_21) (fun _ _ => ⟨rfl, eh3, (by decide : 0 + 0 ≤ _), (by decide : 0 + 0 ≤ _)⟩)
  dsimp only [Pt.U, Pt.locs, Pt.cells, Pt.slots] at X4 l4 y4 z4 st4 hQ4
  subst l4 y4 z4
  obtain ⟨mr_4, rfl, N4q, eh4, pr4_0⟩ := hQ4
  have N4 := Fr.app N3 N4q
  refine Goes.go st4 ?_
  show Goes p e below s _ _ _ T4 (mkF m 24 #[.val (.ref bt), .val (.long bn), .second, .val (.long (0 : Int64)), .second] [(.long mr_4)])
  refine own_lstoreN X4 hx 25 rfl #[.val (.ref bt), .val (.long bn), .second, .val (.long mr_4), .second] (hb hby own_d3_24) rfl ?_
  refine own_lloadN X4 hx 26 rfl (hb hby own_d3_25) rfl ?_
  refine own_retJ X4 hx hlk Bd.returns (hb hby own_d3_26) (by decide) (by decide) eh4 ?_
  exact ⟨mr_4, rfl, N4, rfl, pr4_0⟩
def Qmi800000000 (Z : State)  (h0 : Heap) (n0 : Nat) (v : Option Value) (h : Heap) (L : List Loc) : Prop := v = some (.long (800000000 : Int64)) ∧ Fr n0 L ∧ h = h0
set_option maxRecDepth 65536 in
set_option maxHeartbeats 40000000 in
theorem rmmi800000000 (l : Launch) (Z : State) (a0 : Array Value) (hw : ∀ d ∈ tables_1, d.before a0 Z = true) (ws : List Jvm.Cond)  (h0 : Heap) (n0 : Nat) (Z0 : n0 ≤ h0.size)  :
    MetFree l (⟨"java/lang/Math", "min", "(JJ)J"⟩ : MethodName) (head1 (Jvm.Cond.code (⟨"java/lang/Math", "min", "(JJ)J"⟩ : MethodName) jdk_29_method_70_code 4 (some .long) :: ws) ({ frames := 0, cells := 0, slots := 0, locals := 0 } : Room)) (fun a U => a = #[(.long (800000000 : Int64)), (.long (1000000000 : Int64))] ∧ Z.Warmed39 U.vm ∧ U.heap = h0) (fun _ _ _ _ _ => True) (fun _ U o U' => ∃ v L, o = .returned v ∧ Qmi800000000 Z  h0 n0 v U'.heap L ∧ FrameEnd U o U' L ({ frames := 0, cells := 0, slots := 0, locals := 0 } : Room).cells ({ frames := 0, cells := 0, slots := 0, locals := 0 } : Room).slots) := by
  refine MetFree.of_bodySF (Jvm.Free.JP.mathPlain rfl (by decide +kernel)) hisR ?_
  intro p e s m args below meth c s₁ Bd hml0 hP hK
  obtain ⟨rfl, hZ, hh⟩ := hP
  have hx := Bd.exec
  have hby := Bd.bytes
  have hml : c.maxLocals = 4 := hml0
  have hlk := Bd.notSynchronized
  have hown : s.vm.findClass "java/lang/Math" = some m.cls := findClass_of_methodNamed Bd.named
  have hnm := (name_of_methodNamed Bd.named Bd.method).1
  have X0 : Stand p l e ({ frames := 0, cells := 0, slots := 0, locals := 0 } : Room) s m #[(.long (800000000 : Int64)), (.long (1000000000 : Int64))] below meth c s₁ [] 0 0 := Stand.of_body Bd
  have e0 : s₁.heap = h0 := by rw [← hh, Bd.state]; rfl
  have N0 := Fr.nil n0
  refine own_enter (Q := Qmi800000000 Z  h0 n0) (Ls := #[.val (.long (800000000 : Int64)), .second, .val (.long (1000000000 : Int64)), .second]) (by first | (simp [entryFrame, mkF, argsToLocals, Value.category]; done) | rfl) ?_
  refine own_lloadN X0 hx 1 rfl (hb hby own_d8_0) rfl ?_
  refine own_lloadN X0 hx 2 rfl (hb hby own_d8_1) rfl ?_
  refine own_lcmp X0 hx 3 rfl (hb hby own_d8_2) ?_
  refine own_ifN X0 hx 6 (hb hby own_d8_3) (Lflt ((by decide) : ¬ ((1000000000 : Int64) < (800000000 : Int64)))).2.2.1 rfl ?_
  refine own_lloadN X0 hx 7 rfl (hb hby own_d8_6) rfl ?_
  refine own_goto X0 hx 11 (hb hby own_d8_7) (by decide) (by decide) ?_
  refine own_retJ X0 hx hlk Bd.returns (hb hby own_d8_11) (by decide) (by decide) e0 ?_
  exact ⟨rfl, N0, rfl⟩
def Qpa4 (Z : State) (bt : Addr) (h0 : Heap) (n0 : Nat) (v : Option Value) (h : Heap) (L : List Loc) : Prop := v = some (.long (800000000 : Int64)) ∧ Fr n0 L ∧ h = h0
set_option maxRecDepth 65536 in
set_option maxHeartbeats 40000000 in
theorem rmpa4 (l : Launch) (Z : State) (a0 : Array Value) (hw : ∀ d ∈ tables_1, d.before a0 Z = true) (ws : List Jvm.Cond) (bt : Addr) (h0 : Heap) (n0 : Nat) (Z0 : n0 ≤ h0.size) (Ss : Sta Z h0 "com/example/pooler/pooler/pool/Backoff" "SHORTEST" "J" (.long (100000000 : Int64))) (Sl : Sta Z h0 "com/example/pooler/pooler/pool/Backoff" "LONGEST" "J" (.long (1000000000 : Int64))) (Ff : Fld Z h0 bt "com/example/pooler/pooler/pool/Backoff" "failuresInARow" "I" (.int (4 : Int32))) :
    MetFree l (⟨"com/example/pooler/pooler/pool/Backoff", "pause", "()J"⟩ : MethodName) (head1 (Jvm.Cond.code (⟨"com/example/pooler/pooler/pool/Backoff", "pause", "()J"⟩ : MethodName) prog_23_method_6_code 4 (some .long) :: ws) ({ frames := 1, cells := 0, slots := 0, locals := 15 } : Room)) (fun a U => a = #[(.ref bt)] ∧ Z.Warmed39 U.vm ∧ U.heap = h0) (fun _ _ _ _ _ => True) (fun _ U o U' => ∃ v L, o = .returned v ∧ Qpa4 Z bt h0 n0 v U'.heap L ∧ FrameEnd U o U' L ({ frames := 1, cells := 0, slots := 0, locals := 15 } : Room).cells ({ frames := 1, cells := 0, slots := 0, locals := 15 } : Room).slots) := by
  refine MetFree.of_bodySF (plainFor_of_name own_pn_com_example_pooler_pooler_pool_Backoff) hisR ?_
  intro p e s m args below meth c s₁ Bd hml0 hP hK
  obtain ⟨rfl, hZ, hh⟩ := hP
  have hx := Bd.exec
  have hby := Bd.bytes
  have hml : c.maxLocals = 4 := hml0
  have hlk := Bd.notSynchronized
  have hown : s.vm.findClass "com/example/pooler/pooler/pool/Backoff" = some m.cls := findClass_of_methodNamed Bd.named
  have hnm := (name_of_methodNamed Bd.named Bd.method).1
  have X0 : Stand p l e ({ frames := 1, cells := 0, slots := 0, locals := 15 } : Room) s m #[(.ref bt)] below meth c s₁ [] 0 0 := Stand.of_body Bd
  have e0 : s₁.heap = h0 := by rw [← hh, Bd.state]; rfl
  have N0 := Fr.nil n0
  refine own_enter (Q := Qpa4 Z bt h0 n0) (Ls := #[.val (.ref bt), .unset, .unset, .unset]) (by first | (simp [entryFrame, mkF, argsToLocals, Value.category]; done) | rfl) ?_
  obtain ⟨T1, X1, e1, st1⟩ := getS2 X0 hx hZ hown (host := "") (Or.inl (hw _ (List.mem_of_getElem? (i := 37) rfl))) Via.refl e0 Ss (g := (mkF m 0 #[.val (.ref bt), .unset, .unset, .unset] [])) rfl (hb hby own_d7_0)
  refine Goes.go st1 ?_
  show Goes p e below s _ _ _ T1 (mkF m 3 #[.val (.ref bt), .unset, .unset, .unset] [(.long (100000000 : Int64))])
  refine own_lstoreN X1 hx 4 rfl #[.val (.ref bt), .val (.long (100000000 : Int64)), .second, .unset] (hb hby own_d7_3) rfl ?_
  refine own_iconst X1 hx 5 rfl (1 : Int32) (hb hby own_d7_4) (by decide) ?_
  refine own_istoreN X1 hx 6 rfl #[.val (.ref bt), .val (.long (100000000 : Int64)), .second, .val (.int (1 : Int32))] (hb hby own_d7_5) rfl ?_
  refine own_iloadN X1 hx 7 rfl (hb hby own_d7_6) rfl ?_
  refine own_aloadN X1 hx 8 rfl (hb hby own_d7_7) rfl rfl ?_
  obtain ⟨T2, X2, e2, st2⟩ := getF X1 hx hZ hown (host := "") (Or.inl (hw _ (List.mem_of_getElem? (i := 31) rfl))) Via.refl e1 Ff (g := (mkF m 8 #[.val (.ref bt), .val (.long (100000000 : Int64)), .second, .val (.int (1 : Int32))] [(.ref bt), (.int (1 : Int32))])) rfl rfl (hb hby own_d7_8)
  refine Goes.go st2 ?_
  show Goes p e below s _ _ _ T2 (mkF m 11 #[.val (.ref bt), .val (.long (100000000 : Int64)), .second, .val (.int (1 : Int32))] [(.int (4 : Int32)), (.int (1 : Int32))])
  refine own_icmpN X2 hx 14 (hb hby own_d7_11) (tlt ((by decide) : (1 : Int32) < (4 : Int32))).2.1 rfl ?_
  refine own_lloadN X2 hx 15 rfl (hb hby own_d7_14) rfl ?_
  obtain ⟨T3, X3, e3, st3⟩ := getS2 X2 hx hZ hown (host := "") (Or.inl (hw _ (List.mem_of_getElem? (i := 39) rfl))) Via.refl e2 Sl (g := (mkF m 15 #[.val (.ref bt), .val (.long (100000000 : Int64)), .second, .val (.int (1 : Int32))] [(.long (100000000 : Int64))])) rfl (hb hby own_d7_15)
  refine Goes.go st3 ?_
  show Goes p e below s _ _ _ T3 (mkF m 18 #[.val (.ref bt), .val (.long (100000000 : Int64)), .second, .val (.int (1 : Int32))] [(.long (1000000000 : Int64)), (.long (100000000 : Int64))])
  refine own_lcmp X3 hx 19 rfl (hb hby own_d7_18) ?_
  refine own_ifN X3 hx 22 (hb hby own_d7_19) (Ltlt ((by decide) : (100000000 : Int64) < (1000000000 : Int64))).2.1 rfl ?_
  refine own_lloadN X3 hx 23 rfl (hb hby own_d7_22) rfl ?_
  refine Goes.go (X3.ldc2Long hx hown (mvT hZ (hw _ (List.mem_of_getElem? (i := 53) rfl))) (g := (mkF m 23 #[.val (.ref bt), .val (.long (100000000 : Int64)), .second, .val (.int (1 : Int32))] [(.long (100000000 : Int64))])) rfl (hb hby own_d7_23)) ?_
  show Goes p e below s _ _ _ T3 (mkF m 26 #[.val (.ref bt), .val (.long (100000000 : Int64)), .second, .val (.int (1 : Int32))] [(.long (2 : Int64)), (.long (100000000 : Int64))])
  refine own_lmul X3 hx 27 rfl (z := (200000000 : Int64)) (hb hby own_d7_26) (by decide) ?_
  refine own_lstoreN X3 hx 28 rfl #[.val (.ref bt), .val (.long (200000000 : Int64)), .second, .val (.int (1 : Int32))] (hb hby own_d7_27) rfl ?_
  refine own_iinc X3 hx 31 rfl #[.val (.ref bt), .val (.long (200000000 : Int64)), .second, .val (.int (2 : Int32))] (hb hby own_d7_28) rfl (by decide) rfl ?_
  refine own_goto X3 hx 6 (hb hby own_d7_31) (by decide) (by decide) ?_
  refine own_iloadN X3 hx 7 rfl (hb hby own_d7_6) rfl ?_
  refine own_aloadN X3 hx 8 rfl (hb hby own_d7_7) rfl rfl ?_
  obtain ⟨T4, X4, e4, st4⟩ := getF X3 hx hZ hown (host := "") (Or.inl (hw _ (List.mem_of_getElem? (i := 31) rfl))) Via.refl e3 Ff (g := (mkF m 8 #[.val (.ref bt), .val (.long (200000000 : Int64)), .second, .val (.int (2 : Int32))] [(.ref bt), (.int (2 : Int32))])) rfl rfl (hb hby own_d7_8)
  refine Goes.go st4 ?_
  show Goes p e below s _ _ _ T4 (mkF m 11 #[.val (.ref bt), .val (.long (200000000 : Int64)), .second, .val (.int (2 : Int32))] [(.int (4 : Int32)), (.int (2 : Int32))])
  refine own_icmpN X4 hx 14 (hb hby own_d7_11) (tlt ((by decide) : (2 : Int32) < (4 : Int32))).2.1 rfl ?_
  refine own_lloadN X4 hx 15 rfl (hb hby own_d7_14) rfl ?_
  obtain ⟨T5, X5, e5, st5⟩ := getS2 X4 hx hZ hown (host := "") (Or.inl (hw _ (List.mem_of_getElem? (i := 39) rfl))) Via.refl e4 Sl (g := (mkF m 15 #[.val (.ref bt), .val (.long (200000000 : Int64)), .second, .val (.int (2 : Int32))] [(.long (200000000 : Int64))])) rfl (hb hby own_d7_15)
  refine Goes.go st5 ?_
  show Goes p e below s _ _ _ T5 (mkF m 18 #[.val (.ref bt), .val (.long (200000000 : Int64)), .second, .val (.int (2 : Int32))] [(.long (1000000000 : Int64)), (.long (200000000 : Int64))])
  refine own_lcmp X5 hx 19 rfl (hb hby own_d7_18) ?_
  refine own_ifN X5 hx 22 (hb hby own_d7_19) (Ltlt ((by decide) : (200000000 : Int64) < (1000000000 : Int64))).2.1 rfl ?_
  refine own_lloadN X5 hx 23 rfl (hb hby own_d7_22) rfl ?_
  refine Goes.go (X5.ldc2Long hx hown (mvT hZ (hw _ (List.mem_of_getElem? (i := 53) rfl))) (g := (mkF m 23 #[.val (.ref bt), .val (.long (200000000 : Int64)), .second, .val (.int (2 : Int32))] [(.long (200000000 : Int64))])) rfl (hb hby own_d7_23)) ?_
  show Goes p e below s _ _ _ T5 (mkF m 26 #[.val (.ref bt), .val (.long (200000000 : Int64)), .second, .val (.int (2 : Int32))] [(.long (2 : Int64)), (.long (200000000 : Int64))])
  refine own_lmul X5 hx 27 rfl (z := (400000000 : Int64)) (hb hby own_d7_26) (by decide) ?_
  refine own_lstoreN X5 hx 28 rfl #[.val (.ref bt), .val (.long (400000000 : Int64)), .second, .val (.int (2 : Int32))] (hb hby own_d7_27) rfl ?_
  refine own_iinc X5 hx 31 rfl #[.val (.ref bt), .val (.long (400000000 : Int64)), .second, .val (.int (3 : Int32))] (hb hby own_d7_28) rfl (by decide) rfl ?_
  refine own_goto X5 hx 6 (hb hby own_d7_31) (by decide) (by decide) ?_
  refine own_iloadN X5 hx 7 rfl (hb hby own_d7_6) rfl ?_
  refine own_aloadN X5 hx 8 rfl (hb hby own_d7_7) rfl rfl ?_
  obtain ⟨T6, X6, e6, st6⟩ := getF X5 hx hZ hown (host := "") (Or.inl (hw _ (List.mem_of_getElem? (i := 31) rfl))) Via.refl e5 Ff (g := (mkF m 8 #[.val (.ref bt), .val (.long (400000000 : Int64)), .second, .val (.int (3 : Int32))] [(.ref bt), (.int (3 : Int32))])) rfl rfl (hb hby own_d7_8)
  refine Goes.go st6 ?_
  show Goes p e below s _ _ _ T6 (mkF m 11 #[.val (.ref bt), .val (.long (400000000 : Int64)), .second, .val (.int (3 : Int32))] [(.int (4 : Int32)), (.int (3 : Int32))])
  refine own_icmpN X6 hx 14 (hb hby own_d7_11) (tlt ((by decide) : (3 : Int32) < (4 : Int32))).2.1 rfl ?_
  refine own_lloadN X6 hx 15 rfl (hb hby own_d7_14) rfl ?_
  obtain ⟨T7, X7, e7, st7⟩ := getS2 X6 hx hZ hown (host := "") (Or.inl (hw _ (List.mem_of_getElem? (i := 39) rfl))) Via.refl e6 Sl (g := (mkF m 15 #[.val (.ref bt), .val (.long (400000000 : Int64)), .second, .val (.int (3 : Int32))] [(.long (400000000 : Int64))])) rfl (hb hby own_d7_15)
  refine Goes.go st7 ?_
  show Goes p e below s _ _ _ T7 (mkF m 18 #[.val (.ref bt), .val (.long (400000000 : Int64)), .second, .val (.int (3 : Int32))] [(.long (1000000000 : Int64)), (.long (400000000 : Int64))])
  refine own_lcmp X7 hx 19 rfl (hb hby own_d7_18) ?_
  refine own_ifN X7 hx 22 (hb hby own_d7_19) (Ltlt ((by decide) : (400000000 : Int64) < (1000000000 : Int64))).2.1 rfl ?_
  refine own_lloadN X7 hx 23 rfl (hb hby own_d7_22) rfl ?_
  refine Goes.go (X7.ldc2Long hx hown (mvT hZ (hw _ (List.mem_of_getElem? (i := 53) rfl))) (g := (mkF m 23 #[.val (.ref bt), .val (.long (400000000 : Int64)), .second, .val (.int (3 : Int32))] [(.long (400000000 : Int64))])) rfl (hb hby own_d7_23)) ?_
  show Goes p e below s _ _ _ T7 (mkF m 26 #[.val (.ref bt), .val (.long (400000000 : Int64)), .second, .val (.int (3 : Int32))] [(.long (2 : Int64)), (.long (400000000 : Int64))])
  refine own_lmul X7 hx 27 rfl (z := (800000000 : Int64)) (hb hby own_d7_26) (by decide) ?_
  refine own_lstoreN X7 hx 28 rfl #[.val (.ref bt), .val (.long (800000000 : Int64)), .second, .val (.int (3 : Int32))] (hb hby own_d7_27) rfl ?_
  refine own_iinc X7 hx 31 rfl #[.val (.ref bt), .val (.long (800000000 : Int64)), .second, .val (.int (4 : Int32))] (hb hby own_d7_28) rfl (by decide) rfl ?_
  refine own_goto X7 hx 6 (hb hby own_d7_31) (by decide) (by decide) ?_
  refine own_iloadN X7 hx 7 rfl (hb hby own_d7_6) rfl ?_
  refine own_aloadN X7 hx 8 rfl (hb hby own_d7_7) rfl rfl ?_
  obtain ⟨T8, X8, e8, st8⟩ := getF X7 hx hZ hown (host := "") (Or.inl (hw _ (List.mem_of_getElem? (i := 31) rfl))) Via.refl e7 Ff (g := (mkF m 8 #[.val (.ref bt), .val (.long (800000000 : Int64)), .second, .val (.int (4 : Int32))] [(.ref bt), (.int (4 : Int32))])) rfl rfl (hb hby own_d7_8)
  refine Goes.go st8 ?_
  show Goes p e below s _ _ _ T8 (mkF m 11 #[.val (.ref bt), .val (.long (800000000 : Int64)), .second, .val (.int (4 : Int32))] [(.int (4 : Int32)), (.int (4 : Int32))])
  refine own_icmpY X8 hx 34 (hb hby own_d7_11) (flt ((by decide) : ¬ ((4 : Int32) < (4 : Int32)))).2.1 (by decide) (by decide) ?_
  refine own_lloadN X8 hx 35 rfl (hb hby own_d7_34) rfl ?_
  obtain ⟨T9, X9, e9, st9⟩ := getS2 X8 hx hZ hown (host := "") (Or.inl (hw _ (List.mem_of_getElem? (i := 39) rfl))) Via.refl e8 Sl (g := (mkF m 35 #[.val (.ref bt), .val (.long (800000000 : Int64)), .second, .val (.int (4 : Int32))] [(.long (800000000 : Int64))])) rfl (hb hby own_d7_35)
  refine Goes.go st9 ?_
  show Goes p e below s _ _ _ T9 (mkF m 38 #[.val (.ref bt), .val (.long (800000000 : Int64)), .second, .val (.int (4 : Int32))] [(.long (1000000000 : Int64)), (.long (800000000 : Int64))])
  obtain ⟨_, _, ⟨T10, L10, k10, n10⟩, -, X10, ⟨Lc10, hQ10, l10, y10, z10⟩, st10⟩ := Jvm.LawKit.callS X9 hx (y := (⟨"java/lang/Math", "min", "(JJ)J"⟩ : MethodName)) hown (mvT hZ (hw _ (List.mem_of_getElem? (i := 41) rfl))) (mvT hZ (hw _ (List.mem_of_getElem? (i := 42) rfl))) (mvT hZ (hw _ (List.mem_of_getElem? (i := 43) rfl))) (mvT hZ (hw _ (List.mem_of_getElem? (i := 44) rfl))) (by decide) (backOf (W := 0) (rmmi800000000 l Z a0 hw []  h0 n0 Z0 ) hZ (hw _ (List.mem_of_getElem? (i := 44) rfl)) (hw _ (List.mem_of_getElem? (i := 43) rfl)) (by decide) (by decide)) (g := (mkF m 38 #[.val (.ref bt), .val (.long (800000000 : Int64)), .second, .val (.int (4 : Int32))] [(.long (1000000000 : Int64)), (.long (800000000 : Int64))])) rfl (by rw [hml]; rfl) (argsL := [(.long (800000000 : Int64)), (.long (1000000000 : Int64))]) (rest := []) (lenOf own_pd1 rfl) rfl (by show 2 * 0 + _ ≤ _; exact Nat.le_of_eq rfl) (hb hby own_d7_38) (fun _ _ => ⟨rfl, e9, (by decide : 0 + 0 ≤ _), (by decide : 0 + 0 ≤ _)⟩)
  dsimp only [Pt.U, Pt.locs, Pt.cells, Pt.slots] at X10 l10 y10 z10 st10 hQ10
  subst l10 y10 z10
  obtain ⟨rfl, N10q, eh10⟩ := hQ10
  have N10 := Fr.app N0 N10q
  refine Goes.go st10 ?_
  show Goes p e below s _ _ _ T10 (mkF m 41 #[.val (.ref bt), .val (.long (800000000 : Int64)), .second, .val (.int (4 : Int32))] [(.long (800000000 : Int64))])
  refine own_retJ X10 hx hlk Bd.returns (hb hby own_d7_41) (by decide) (by decide) eh10 ?_
  exact ⟨rfl, N10, rfl⟩
def Qde4 (Z : State) (bt : Addr) (bn : Int64) (be : Int64) (h0 : Heap) (n0 : Nat) (v : Option Value) (h : Heap) (L : List Loc) : Prop := ∃ br : Int64, v = some (.long br) ∧ Fr n0 L ∧ h = h0 ∧ ((br = ((be + (800000000 : Int64)) - bn) ∧ (0 : Int64) < ((be + (800000000 : Int64)) - bn)) ∨ (br = (0 : Int64) ∧ ¬ (0 : Int64) < ((be + (800000000 : Int64)) - bn)))
set_option maxRecDepth 65536 in
set_option maxHeartbeats 40000000 in
theorem rmde4 (l : Launch) (Z : State) (a0 : Array Value) (hw : ∀ d ∈ tables_1, d.before a0 Z = true) (ws : List Jvm.Cond) (bt : Addr) (bn : Int64) (be : Int64) (h0 : Heap) (n0 : Nat) (Z0 : n0 ≤ h0.size) (EB : Exa Z h0 bt "com/example/pooler/pooler/pool/Backoff") (Ss : Sta Z h0 "com/example/pooler/pooler/pool/Backoff" "SHORTEST" "J" (.long (100000000 : Int64))) (Sl : Sta Z h0 "com/example/pooler/pooler/pool/Backoff" "LONGEST" "J" (.long (1000000000 : Int64))) (Ft : Fld Z h0 bt "com/example/pooler/pooler/pool/Backoff" "tried" "Z" (.int (1 : Int32))) (Fe : Fld Z h0 bt "com/example/pooler/pooler/pool/Backoff" "endedAt" "J" (.long be)) (Ff : Fld Z h0 bt "com/example/pooler/pooler/pool/Backoff" "failuresInARow" "I" (.int (4 : Int32))) :
    MetFree l (⟨"com/example/pooler/pooler/pool/Backoff", "delay", "(J)J"⟩ : MethodName) (head1 (Jvm.Cond.code (⟨"com/example/pooler/pooler/pool/Backoff", "delay", "(J)J"⟩ : MethodName) prog_23_method_2_code 5 (some .long) :: ws) ({ frames := 2, cells := 0, slots := 0, locals := 34 } : Room)) (fun a U => a = #[(.ref bt), (.long bn)] ∧ Z.Warmed39 U.vm ∧ U.heap = h0) (fun _ _ _ _ _ => True) (fun _ U o U' => ∃ v L, o = .returned v ∧ Qde4 Z bt bn be h0 n0 v U'.heap L ∧ FrameEnd U o U' L ({ frames := 2, cells := 0, slots := 0, locals := 34 } : Room).cells ({ frames := 2, cells := 0, slots := 0, locals := 34 } : Room).slots) := by
  refine MetFree.of_bodySF (plainFor_of_name own_pn_com_example_pooler_pooler_pool_Backoff) hisR ?_
  intro p e s m args below meth c s₁ Bd hml0 hP hK
  obtain ⟨rfl, hZ, hh⟩ := hP
  have hx := Bd.exec
  have hby := Bd.bytes
  have hml : c.maxLocals = 5 := hml0
  have hlk := Bd.notSynchronized
  have hown : s.vm.findClass "com/example/pooler/pooler/pool/Backoff" = some m.cls := findClass_of_methodNamed Bd.named
  have hnm := (name_of_methodNamed Bd.named Bd.method).1
  have X0 : Stand p l e ({ frames := 2, cells := 0, slots := 0, locals := 34 } : Room) s m #[(.ref bt), (.long bn)] below meth c s₁ [] 0 0 := Stand.of_body Bd
  have e0 : s₁.heap = h0 := by rw [← hh, Bd.state]; rfl
  have N0 := Fr.nil n0
  refine own_enter (Q := Qde4 Z bt bn be h0 n0) (Ls := #[.val (.ref bt), .val (.long bn), .second, .unset, .unset]) (by first | (simp [entryFrame, mkF, argsToLocals, Value.category]; done) | rfl) ?_
  refine own_lconst X0 hx 1 rfl (0 : Int64) (hb hby own_d3_0) (by decide) ?_
  refine own_lstoreN X0 hx 2 rfl #[.val (.ref bt), .val (.long bn), .second, .val (.long (0 : Int64)), .second] (hb hby own_d3_1) rfl ?_
  refine own_aloadN X0 hx 3 rfl (hb hby own_d3_2) rfl rfl ?_
  obtain ⟨T1, X1, e1, st1⟩ := getF X0 hx hZ hown (host := "") (Or.inl (hw _ (List.mem_of_getElem? (i := 14) rfl))) Via.refl e0 Ft (g := (mkF m 3 #[.val (.ref bt), .val (.long bn), .second, .val (.long (0 : Int64)), .second] [(.ref bt)])) rfl rfl (hb hby own_d3_3)
  refine Goes.go st1 ?_
  show Goes p e below s _ _ _ T1 (mkF m 6 #[.val (.ref bt), .val (.long bn), .second, .val (.long (0 : Int64)), .second] [(.int (1 : Int32))])
  refine own_ifN X1 hx 9 (hb hby own_d3_6) ((if0 _ _).trans (feq ((by decide) : ¬ ((1 : Int32) = (0 : Int32)))).1) rfl ?_
  refine own_lconst X1 hx 10 rfl (0 : Int64) (hb hby own_d3_9) (by decide) ?_
  refine own_aloadN X1 hx 11 rfl (hb hby own_d3_10) rfl rfl ?_
  obtain ⟨T2, X2, e2, st2⟩ := getF X1 hx hZ hown (host := "") (Or.inl (hw _ (List.mem_of_getElem? (i := 29) rfl))) Via.refl e1 Fe (g := (mkF m 11 #[.val (.ref bt), .val (.long bn), .second, .val (.long (0 : Int64)), .second] [(.ref bt), (.long (0 : Int64))])) rfl rfl (hb hby own_d3_11)
  refine Goes.go st2 ?_
  show Goes p e below s _ _ _ T2 (mkF m 14 #[.val (.ref bt), .val (.long bn), .second, .val (.long (0 : Int64)), .second] [(.long be), (.long (0 : Int64))])
  refine own_aloadN X2 hx 15 rfl (hb hby own_d3_14) rfl rfl ?_
  obtain ⟨cq3, q3, q3'⟩ := EB.cell
  obtain ⟨_, _, ⟨T3, L3, k3, n3⟩, -, X3, ⟨Lc3, hQ3, l3, y3, z3⟩, st3⟩ := X2.privateBack hx (y := (⟨"com/example/pooler/pooler/pool/Backoff", "pause", "()J"⟩ : MethodName)) hown (mvT hZ (hw _ (List.mem_of_getElem? (i := 33) rfl))) (mvT hZ (hw _ (List.mem_of_getElem? (i := 34) rfl))) (own_selP (mvT hZ (hw _ (List.mem_of_getElem? (i := 1) rfl))) (mvP hZ (hw _ (List.mem_of_getElem? (i := 35) rfl))) (mvT hZ (hw _ (List.mem_of_getElem? (i := 34) rfl))) (by decide)) (Cond.privateMethod_at (mvP hZ (hw _ (List.mem_of_getElem? (i := 35) rfl)) (args := #[]))) (mvT hZ (hw _ (List.mem_of_getElem? (i := 36) rfl))) (by decide) (backOf (W := 4) (rmpa4 l Z a0 hw [] bt h0 n0 Z0 Ss Sl Ff) hZ (hw _ (List.mem_of_getElem? (i := 36) rfl)) (hw _ (List.mem_of_getElem? (i := 2) rfl)) (by decide) (by decide)) (g := (mkF m 15 #[.val (.ref bt), .val (.long bn), .second, .val (.long (0 : Int64)), .second] [(.ref bt), (.long be), (.long (0 : Int64))])) rfl (by rw [hml]; rfl) (Steps.refl _) (a := bt) (by rw [e2]; exact q3) q3' (argsL := []) (rest := [(.long be), (.long (0 : Int64))]) (lenOf own_pd2 rfl) rfl (by show 2 * 0 + _ ≤ _; exact Nat.le_of_eq rfl) (hb hby own_d3_15) (fun _ _ => ⟨rfl, e2, (by decide : 0 + 0 ≤ _), (by decide : 0 + 0 ≤ _)⟩)
  dsimp only [Pt.U, Pt.locs, Pt.cells, Pt.slots] at X3 l3 y3 z3 st3 hQ3
  subst l3 y3 z3
  obtain ⟨rfl, N3q, eh3⟩ := hQ3
  have N3 := Fr.app N0 N3q
  refine Goes.tr st3 ?_
  show Goes p e below s _ _ _ T3 (mkF m 18 #[.val (.ref bt), .val (.long bn), .second, .val (.long (0 : Int64)), .second] [(.long (800000000 : Int64)), (.long be), (.long (0 : Int64))])
  refine own_ladd X3 hx 19 rfl (hb hby own_d3_18) rfl ?_
  refine own_lloadN X3 hx 20 rfl (hb hby own_d3_19) rfl ?_
  refine own_lsub X3 hx 21 rfl (hb hby own_d3_20) rfl ?_
  obtain ⟨_, _, ⟨T4, L4, k4, n4⟩, -, X4, ⟨Lc4, hQ4, l4, y4, z4⟩, st4⟩ := Jvm.LawKit.callS X3 hx (y := (⟨"java/lang/Math", "max", "(JJ)J"⟩ : MethodName)) hown (mvT hZ (hw _ (List.mem_of_getElem? (i := 45) rfl))) (mvT hZ (hw _ (List.mem_of_getElem? (i := 46) rfl))) (mvT hZ (hw _ (List.mem_of_getElem? (i := 43) rfl))) (mvT hZ (hw _ (List.mem_of_getElem? (i := 47) rfl))) (by decide) (backOf (W := 0) (rm9 l Z a0 hw [] (0 : Int64) ((be + (800000000 : Int64)) - bn) h0 n0 Z0 ) hZ (hw _ (List.mem_of_getElem? (i := 47) rfl)) (hw _ (List.mem_of_getElem? (i := 43) rfl)) (by decide) (by decide)) (g := (mkF m 21 #[.val (.ref bt), .val (.long bn), .second, .val (.long (0 : Int64)), .second] [(.long ((be + (800000000 : Int64)) - bn)), (.long (0 : Int64))])) rfl (by rw [hml]; rfl) (argsL := [(.long (0 : Int64)), (.long ((be + (800000000 : Int64)) - bn))]) (rest := []) (lenOf own_pd1 rfl) rfl (by show 2 * 0 + _ ≤ _; exact Nat.le_of_eq rfl) (hb hby own_d3_21) (fun _ _ => ⟨rfl, eh3, (by decide : 0 + 0 ≤ _), (by decide : 0 + 0 ≤ _)⟩)
  dsimp only [Pt.U, Pt.locs, Pt.cells, Pt.slots] at X4 l4 y4 z4 st4 hQ4
  subst l4 y4 z4
  obtain ⟨mr_4, rfl, N4q, eh4, pr4_0⟩ := hQ4
  have N4 := Fr.app N3 N4q
  refine Goes.go st4 ?_
  show Goes p e below s _ _ _ T4 (mkF m 24 #[.val (.ref bt), .val (.long bn), .second, .val (.long (0 : Int64)), .second] [(.long mr_4)])
  refine own_lstoreN X4 hx 25 rfl #[.val (.ref bt), .val (.long bn), .second, .val (.long mr_4), .second] (hb hby own_d3_24) rfl ?_
  refine own_lloadN X4 hx 26 rfl (hb hby own_d3_25) rfl ?_
  refine own_retJ X4 hx hlk Bd.returns (hb hby own_d3_26) (by decide) (by decide) eh4 ?_
  exact ⟨mr_4, rfl, N4, rfl, pr4_0⟩
theorem own_d8_10 : decode jdk_29_method_70_code 10 = .ok (.lload_n 2, 1) := by decide +kernel
def Qmi1600000000 (Z : State)  (h0 : Heap) (n0 : Nat) (v : Option Value) (h : Heap) (L : List Loc) : Prop := v = some (.long (1000000000 : Int64)) ∧ Fr n0 L ∧ h = h0
set_option maxRecDepth 65536 in
set_option maxHeartbeats 40000000 in
theorem rmmi1600000000 (l : Launch) (Z : State) (a0 : Array Value) (hw : ∀ d ∈ tables_1, d.before a0 Z = true) (ws : List Jvm.Cond)  (h0 : Heap) (n0 : Nat) (Z0 : n0 ≤ h0.size)  :
    MetFree l (⟨"java/lang/Math", "min", "(JJ)J"⟩ : MethodName) (head1 (Jvm.Cond.code (⟨"java/lang/Math", "min", "(JJ)J"⟩ : MethodName) jdk_29_method_70_code 4 (some .long) :: ws) ({ frames := 0, cells := 0, slots := 0, locals := 0 } : Room)) (fun a U => a = #[(.long (1600000000 : Int64)), (.long (1000000000 : Int64))] ∧ Z.Warmed39 U.vm ∧ U.heap = h0) (fun _ _ _ _ _ => True) (fun _ U o U' => ∃ v L, o = .returned v ∧ Qmi1600000000 Z  h0 n0 v U'.heap L ∧ FrameEnd U o U' L ({ frames := 0, cells := 0, slots := 0, locals := 0 } : Room).cells ({ frames := 0, cells := 0, slots := 0, locals := 0 } : Room).slots) := by
  refine MetFree.of_bodySF (Jvm.Free.JP.mathPlain rfl (by decide +kernel)) hisR ?_
  intro p e s m args below meth c s₁ Bd hml0 hP hK
  obtain ⟨rfl, hZ, hh⟩ := hP
  have hx := Bd.exec
  have hby := Bd.bytes
  have hml : c.maxLocals = 4 := hml0
  have hlk := Bd.notSynchronized
  have hown : s.vm.findClass "java/lang/Math" = some m.cls := findClass_of_methodNamed Bd.named
  have hnm := (name_of_methodNamed Bd.named Bd.method).1
  have X0 : Stand p l e ({ frames := 0, cells := 0, slots := 0, locals := 0 } : Room) s m #[(.long (1600000000 : Int64)), (.long (1000000000 : Int64))] below meth c s₁ [] 0 0 := Stand.of_body Bd
  have e0 : s₁.heap = h0 := by rw [← hh, Bd.state]; rfl
  have N0 := Fr.nil n0
  refine own_enter (Q := Qmi1600000000 Z  h0 n0) (Ls := #[.val (.long (1600000000 : Int64)), .second, .val (.long (1000000000 : Int64)), .second]) (by first | (simp [entryFrame, mkF, argsToLocals, Value.category]; done) | rfl) ?_
  refine own_lloadN X0 hx 1 rfl (hb hby own_d8_0) rfl ?_
  refine own_lloadN X0 hx 2 rfl (hb hby own_d8_1) rfl ?_
  refine own_lcmp X0 hx 3 rfl (hb hby own_d8_2) ?_
  refine own_ifY X0 hx 10 (hb hby own_d8_3) (Ltlt ((by decide) : (1000000000 : Int64) < (1600000000 : Int64))).2.2.1 (by decide) (by decide) ?_
  refine own_lloadN X0 hx 11 rfl (hb hby own_d8_10) rfl ?_
  refine own_retJ X0 hx hlk Bd.returns (hb hby own_d8_11) (by decide) (by decide) e0 ?_
  exact ⟨rfl, N0, rfl⟩
def Qpa5 (Z : State) (bt : Addr) (h0 : Heap) (n0 : Nat) (v : Option Value) (h : Heap) (L : List Loc) : Prop := v = some (.long (1000000000 : Int64)) ∧ Fr n0 L ∧ h = h0
set_option maxRecDepth 65536 in
set_option maxHeartbeats 40000000 in
theorem rmpa5 (l : Launch) (Z : State) (a0 : Array Value) (hw : ∀ d ∈ tables_1, d.before a0 Z = true) (ws : List Jvm.Cond) (bt : Addr) (h0 : Heap) (n0 : Nat) (Z0 : n0 ≤ h0.size) (Ss : Sta Z h0 "com/example/pooler/pooler/pool/Backoff" "SHORTEST" "J" (.long (100000000 : Int64))) (Sl : Sta Z h0 "com/example/pooler/pooler/pool/Backoff" "LONGEST" "J" (.long (1000000000 : Int64))) (Ff : Fld Z h0 bt "com/example/pooler/pooler/pool/Backoff" "failuresInARow" "I" (.int (5 : Int32))) :
    MetFree l (⟨"com/example/pooler/pooler/pool/Backoff", "pause", "()J"⟩ : MethodName) (head1 (Jvm.Cond.code (⟨"com/example/pooler/pooler/pool/Backoff", "pause", "()J"⟩ : MethodName) prog_23_method_6_code 4 (some .long) :: ws) ({ frames := 1, cells := 0, slots := 0, locals := 15 } : Room)) (fun a U => a = #[(.ref bt)] ∧ Z.Warmed39 U.vm ∧ U.heap = h0) (fun _ _ _ _ _ => True) (fun _ U o U' => ∃ v L, o = .returned v ∧ Qpa5 Z bt h0 n0 v U'.heap L ∧ FrameEnd U o U' L ({ frames := 1, cells := 0, slots := 0, locals := 15 } : Room).cells ({ frames := 1, cells := 0, slots := 0, locals := 15 } : Room).slots) := by
  refine MetFree.of_bodySF (plainFor_of_name own_pn_com_example_pooler_pooler_pool_Backoff) hisR ?_
  intro p e s m args below meth c s₁ Bd hml0 hP hK
  obtain ⟨rfl, hZ, hh⟩ := hP
  have hx := Bd.exec
  have hby := Bd.bytes
  have hml : c.maxLocals = 4 := hml0
  have hlk := Bd.notSynchronized
  have hown : s.vm.findClass "com/example/pooler/pooler/pool/Backoff" = some m.cls := findClass_of_methodNamed Bd.named
  have hnm := (name_of_methodNamed Bd.named Bd.method).1
  have X0 : Stand p l e ({ frames := 1, cells := 0, slots := 0, locals := 15 } : Room) s m #[(.ref bt)] below meth c s₁ [] 0 0 := Stand.of_body Bd
  have e0 : s₁.heap = h0 := by rw [← hh, Bd.state]; rfl
  have N0 := Fr.nil n0
  refine own_enter (Q := Qpa5 Z bt h0 n0) (Ls := #[.val (.ref bt), .unset, .unset, .unset]) (by first | (simp [entryFrame, mkF, argsToLocals, Value.category]; done) | rfl) ?_
  obtain ⟨T1, X1, e1, st1⟩ := getS2 X0 hx hZ hown (host := "") (Or.inl (hw _ (List.mem_of_getElem? (i := 37) rfl))) Via.refl e0 Ss (g := (mkF m 0 #[.val (.ref bt), .unset, .unset, .unset] [])) rfl (hb hby own_d7_0)
  refine Goes.go st1 ?_
  show Goes p e below s _ _ _ T1 (mkF m 3 #[.val (.ref bt), .unset, .unset, .unset] [(.long (100000000 : Int64))])
  refine own_lstoreN X1 hx 4 rfl #[.val (.ref bt), .val (.long (100000000 : Int64)), .second, .unset] (hb hby own_d7_3) rfl ?_
  refine own_iconst X1 hx 5 rfl (1 : Int32) (hb hby own_d7_4) (by decide) ?_
  refine own_istoreN X1 hx 6 rfl #[.val (.ref bt), .val (.long (100000000 : Int64)), .second, .val (.int (1 : Int32))] (hb hby own_d7_5) rfl ?_
  refine own_iloadN X1 hx 7 rfl (hb hby own_d7_6) rfl ?_
  refine own_aloadN X1 hx 8 rfl (hb hby own_d7_7) rfl rfl ?_
  obtain ⟨T2, X2, e2, st2⟩ := getF X1 hx hZ hown (host := "") (Or.inl (hw _ (List.mem_of_getElem? (i := 31) rfl))) Via.refl e1 Ff (g := (mkF m 8 #[.val (.ref bt), .val (.long (100000000 : Int64)), .second, .val (.int (1 : Int32))] [(.ref bt), (.int (1 : Int32))])) rfl rfl (hb hby own_d7_8)
  refine Goes.go st2 ?_
  show Goes p e below s _ _ _ T2 (mkF m 11 #[.val (.ref bt), .val (.long (100000000 : Int64)), .second, .val (.int (1 : Int32))] [(.int (5 : Int32)), (.int (1 : Int32))])
  refine own_icmpN X2 hx 14 (hb hby own_d7_11) (tlt ((by decide) : (1 : Int32) < (5 : Int32))).2.1 rfl ?_
  refine own_lloadN X2 hx 15 rfl (hb hby own_d7_14) rfl ?_
  obtain ⟨T3, X3, e3, st3⟩ := getS2 X2 hx hZ hown (host := "") (Or.inl (hw _ (List.mem_of_getElem? (i := 39) rfl))) Via.refl e2 Sl (g := (mkF m 15 #[.val (.ref bt), .val (.long (100000000 : Int64)), .second, .val (.int (1 : Int32))] [(.long (100000000 : Int64))])) rfl (hb hby own_d7_15)
  refine Goes.go st3 ?_
  show Goes p e below s _ _ _ T3 (mkF m 18 #[.val (.ref bt), .val (.long (100000000 : Int64)), .second, .val (.int (1 : Int32))] [(.long (1000000000 : Int64)), (.long (100000000 : Int64))])
  refine own_lcmp X3 hx 19 rfl (hb hby own_d7_18) ?_
  refine own_ifN X3 hx 22 (hb hby own_d7_19) (Ltlt ((by decide) : (100000000 : Int64) < (1000000000 : Int64))).2.1 rfl ?_
  refine own_lloadN X3 hx 23 rfl (hb hby own_d7_22) rfl ?_
  refine Goes.go (X3.ldc2Long hx hown (mvT hZ (hw _ (List.mem_of_getElem? (i := 53) rfl))) (g := (mkF m 23 #[.val (.ref bt), .val (.long (100000000 : Int64)), .second, .val (.int (1 : Int32))] [(.long (100000000 : Int64))])) rfl (hb hby own_d7_23)) ?_
  show Goes p e below s _ _ _ T3 (mkF m 26 #[.val (.ref bt), .val (.long (100000000 : Int64)), .second, .val (.int (1 : Int32))] [(.long (2 : Int64)), (.long (100000000 : Int64))])
  refine own_lmul X3 hx 27 rfl (z := (200000000 : Int64)) (hb hby own_d7_26) (by decide) ?_
  refine own_lstoreN X3 hx 28 rfl #[.val (.ref bt), .val (.long (200000000 : Int64)), .second, .val (.int (1 : Int32))] (hb hby own_d7_27) rfl ?_
  refine own_iinc X3 hx 31 rfl #[.val (.ref bt), .val (.long (200000000 : Int64)), .second, .val (.int (2 : Int32))] (hb hby own_d7_28) rfl (by decide) rfl ?_
  refine own_goto X3 hx 6 (hb hby own_d7_31) (by decide) (by decide) ?_
  refine own_iloadN X3 hx 7 rfl (hb hby own_d7_6) rfl ?_
  refine own_aloadN X3 hx 8 rfl (hb hby own_d7_7) rfl rfl ?_
  obtain ⟨T4, X4, e4, st4⟩ := getF X3 hx hZ hown (host := "") (Or.inl (hw _ (List.mem_of_getElem? (i := 31) rfl))) Via.refl e3 Ff (g := (mkF m 8 #[.val (.ref bt), .val (.long (200000000 : Int64)), .second, .val (.int (2 : Int32))] [(.ref bt), (.int (2 : Int32))])) rfl rfl (hb hby own_d7_8)
  refine Goes.go st4 ?_
  show Goes p e below s _ _ _ T4 (mkF m 11 #[.val (.ref bt), .val (.long (200000000 : Int64)), .second, .val (.int (2 : Int32))] [(.int (5 : Int32)), (.int (2 : Int32))])
  refine own_icmpN X4 hx 14 (hb hby own_d7_11) (tlt ((by decide) : (2 : Int32) < (5 : Int32))).2.1 rfl ?_
  refine own_lloadN X4 hx 15 rfl (hb hby own_d7_14) rfl ?_
  obtain ⟨T5, X5, e5, st5⟩ := getS2 X4 hx hZ hown (host := "") (Or.inl (hw _ (List.mem_of_getElem? (i := 39) rfl))) Via.refl e4 Sl (g := (mkF m 15 #[.val (.ref bt), .val (.long (200000000 : Int64)), .second, .val (.int (2 : Int32))] [(.long (200000000 : Int64))])) rfl (hb hby own_d7_15)
  refine Goes.go st5 ?_
  show Goes p e below s _ _ _ T5 (mkF m 18 #[.val (.ref bt), .val (.long (200000000 : Int64)), .second, .val (.int (2 : Int32))] [(.long (1000000000 : Int64)), (.long (200000000 : Int64))])
  refine own_lcmp X5 hx 19 rfl (hb hby own_d7_18) ?_
  refine own_ifN X5 hx 22 (hb hby own_d7_19) (Ltlt ((by decide) : (200000000 : Int64) < (1000000000 : Int64))).2.1 rfl ?_
  refine own_lloadN X5 hx 23 rfl (hb hby own_d7_22) rfl ?_
  refine Goes.go (X5.ldc2Long hx hown (mvT hZ (hw _ (List.mem_of_getElem? (i := 53) rfl))) (g := (mkF m 23 #[.val (.ref bt), .val (.long (200000000 : Int64)), .second, .val (.int (2 : Int32))] [(.long (200000000 : Int64))])) rfl (hb hby own_d7_23)) ?_
  show Goes p e below s _ _ _ T5 (mkF m 26 #[.val (.ref bt), .val (.long (200000000 : Int64)), .second, .val (.int (2 : Int32))] [(.long (2 : Int64)), (.long (200000000 : Int64))])
  refine own_lmul X5 hx 27 rfl (z := (400000000 : Int64)) (hb hby own_d7_26) (by decide) ?_
  refine own_lstoreN X5 hx 28 rfl #[.val (.ref bt), .val (.long (400000000 : Int64)), .second, .val (.int (2 : Int32))] (hb hby own_d7_27) rfl ?_
  refine own_iinc X5 hx 31 rfl #[.val (.ref bt), .val (.long (400000000 : Int64)), .second, .val (.int (3 : Int32))] (hb hby own_d7_28) rfl (by decide) rfl ?_
  refine own_goto X5 hx 6 (hb hby own_d7_31) (by decide) (by decide) ?_
  refine own_iloadN X5 hx 7 rfl (hb hby own_d7_6) rfl ?_
  refine own_aloadN X5 hx 8 rfl (hb hby own_d7_7) rfl rfl ?_
  obtain ⟨T6, X6, e6, st6⟩ := getF X5 hx hZ hown (host := "") (Or.inl (hw _ (List.mem_of_getElem? (i := 31) rfl))) Via.refl e5 Ff (g := (mkF m 8 #[.val (.ref bt), .val (.long (400000000 : Int64)), .second, .val (.int (3 : Int32))] [(.ref bt), (.int (3 : Int32))])) rfl rfl (hb hby own_d7_8)
  refine Goes.go st6 ?_
  show Goes p e below s _ _ _ T6 (mkF m 11 #[.val (.ref bt), .val (.long (400000000 : Int64)), .second, .val (.int (3 : Int32))] [(.int (5 : Int32)), (.int (3 : Int32))])
  refine own_icmpN X6 hx 14 (hb hby own_d7_11) (tlt ((by decide) : (3 : Int32) < (5 : Int32))).2.1 rfl ?_
  refine own_lloadN X6 hx 15 rfl (hb hby own_d7_14) rfl ?_
  obtain ⟨T7, X7, e7, st7⟩ := getS2 X6 hx hZ hown (host := "") (Or.inl (hw _ (List.mem_of_getElem? (i := 39) rfl))) Via.refl e6 Sl (g := (mkF m 15 #[.val (.ref bt), .val (.long (400000000 : Int64)), .second, .val (.int (3 : Int32))] [(.long (400000000 : Int64))])) rfl (hb hby own_d7_15)
  refine Goes.go st7 ?_
  show Goes p e below s _ _ _ T7 (mkF m 18 #[.val (.ref bt), .val (.long (400000000 : Int64)), .second, .val (.int (3 : Int32))] [(.long (1000000000 : Int64)), (.long (400000000 : Int64))])
  refine own_lcmp X7 hx 19 rfl (hb hby own_d7_18) ?_
  refine own_ifN X7 hx 22 (hb hby own_d7_19) (Ltlt ((by decide) : (400000000 : Int64) < (1000000000 : Int64))).2.1 rfl ?_
  refine own_lloadN X7 hx 23 rfl (hb hby own_d7_22) rfl ?_
  refine Goes.go (X7.ldc2Long hx hown (mvT hZ (hw _ (List.mem_of_getElem? (i := 53) rfl))) (g := (mkF m 23 #[.val (.ref bt), .val (.long (400000000 : Int64)), .second, .val (.int (3 : Int32))] [(.long (400000000 : Int64))])) rfl (hb hby own_d7_23)) ?_
  show Goes p e below s _ _ _ T7 (mkF m 26 #[.val (.ref bt), .val (.long (400000000 : Int64)), .second, .val (.int (3 : Int32))] [(.long (2 : Int64)), (.long (400000000 : Int64))])
  refine own_lmul X7 hx 27 rfl (z := (800000000 : Int64)) (hb hby own_d7_26) (by decide) ?_
  refine own_lstoreN X7 hx 28 rfl #[.val (.ref bt), .val (.long (800000000 : Int64)), .second, .val (.int (3 : Int32))] (hb hby own_d7_27) rfl ?_
  refine own_iinc X7 hx 31 rfl #[.val (.ref bt), .val (.long (800000000 : Int64)), .second, .val (.int (4 : Int32))] (hb hby own_d7_28) rfl (by decide) rfl ?_
  refine own_goto X7 hx 6 (hb hby own_d7_31) (by decide) (by decide) ?_
  refine own_iloadN X7 hx 7 rfl (hb hby own_d7_6) rfl ?_
  refine own_aloadN X7 hx 8 rfl (hb hby own_d7_7) rfl rfl ?_
  obtain ⟨T8, X8, e8, st8⟩ := getF X7 hx hZ hown (host := "") (Or.inl (hw _ (List.mem_of_getElem? (i := 31) rfl))) Via.refl e7 Ff (g := (mkF m 8 #[.val (.ref bt), .val (.long (800000000 : Int64)), .second, .val (.int (4 : Int32))] [(.ref bt), (.int (4 : Int32))])) rfl rfl (hb hby own_d7_8)
  refine Goes.go st8 ?_
  show Goes p e below s _ _ _ T8 (mkF m 11 #[.val (.ref bt), .val (.long (800000000 : Int64)), .second, .val (.int (4 : Int32))] [(.int (5 : Int32)), (.int (4 : Int32))])
  refine own_icmpN X8 hx 14 (hb hby own_d7_11) (tlt ((by decide) : (4 : Int32) < (5 : Int32))).2.1 rfl ?_
  refine own_lloadN X8 hx 15 rfl (hb hby own_d7_14) rfl ?_
  obtain ⟨T9, X9, e9, st9⟩ := getS2 X8 hx hZ hown (host := "") (Or.inl (hw _ (List.mem_of_getElem? (i := 39) rfl))) Via.refl e8 Sl (g := (mkF m 15 #[.val (.ref bt), .val (.long (800000000 : Int64)), .second, .val (.int (4 : Int32))] [(.long (800000000 : Int64))])) rfl (hb hby own_d7_15)
  refine Goes.go st9 ?_
  show Goes p e below s _ _ _ T9 (mkF m 18 #[.val (.ref bt), .val (.long (800000000 : Int64)), .second, .val (.int (4 : Int32))] [(.long (1000000000 : Int64)), (.long (800000000 : Int64))])
  refine own_lcmp X9 hx 19 rfl (hb hby own_d7_18) ?_
  refine own_ifN X9 hx 22 (hb hby own_d7_19) (Ltlt ((by decide) : (800000000 : Int64) < (1000000000 : Int64))).2.1 rfl ?_
  refine own_lloadN X9 hx 23 rfl (hb hby own_d7_22) rfl ?_
  refine Goes.go (X9.ldc2Long hx hown (mvT hZ (hw _ (List.mem_of_getElem? (i := 53) rfl))) (g := (mkF m 23 #[.val (.ref bt), .val (.long (800000000 : Int64)), .second, .val (.int (4 : Int32))] [(.long (800000000 : Int64))])) rfl (hb hby own_d7_23)) ?_
  show Goes p e below s _ _ _ T9 (mkF m 26 #[.val (.ref bt), .val (.long (800000000 : Int64)), .second, .val (.int (4 : Int32))] [(.long (2 : Int64)), (.long (800000000 : Int64))])
  refine own_lmul X9 hx 27 rfl (z := (1600000000 : Int64)) (hb hby own_d7_26) (by decide) ?_
  refine own_lstoreN X9 hx 28 rfl #[.val (.ref bt), .val (.long (1600000000 : Int64)), .second, .val (.int (4 : Int32))] (hb hby own_d7_27) rfl ?_
  refine own_iinc X9 hx 31 rfl #[.val (.ref bt), .val (.long (1600000000 : Int64)), .second, .val (.int (5 : Int32))] (hb hby own_d7_28) rfl (by decide) rfl ?_
  refine own_goto X9 hx 6 (hb hby own_d7_31) (by decide) (by decide) ?_
  refine own_iloadN X9 hx 7 rfl (hb hby own_d7_6) rfl ?_
  refine own_aloadN X9 hx 8 rfl (hb hby own_d7_7) rfl rfl ?_
  obtain ⟨T10, X10, e10, st10⟩ := getF X9 hx hZ hown (host := "") (Or.inl (hw _ (List.mem_of_getElem? (i := 31) rfl))) Via.refl e9 Ff (g := (mkF m 8 #[.val (.ref bt), .val (.long (1600000000 : Int64)), .second, .val (.int (5 : Int32))] [(.ref bt), (.int (5 : Int32))])) rfl rfl (hb hby own_d7_8)
  refine Goes.go st10 ?_
  show Goes p e below s _ _ _ T10 (mkF m 11 #[.val (.ref bt), .val (.long (1600000000 : Int64)), .second, .val (.int (5 : Int32))] [(.int (5 : Int32)), (.int (5 : Int32))])
  refine own_icmpY X10 hx 34 (hb hby own_d7_11) (flt ((by decide) : ¬ ((5 : Int32) < (5 : Int32)))).2.1 (by decide) (by decide) ?_
  refine own_lloadN X10 hx 35 rfl (hb hby own_d7_34) rfl ?_
  obtain ⟨T11, X11, e11, st11⟩ := getS2 X10 hx hZ hown (host := "") (Or.inl (hw _ (List.mem_of_getElem? (i := 39) rfl))) Via.refl e10 Sl (g := (mkF m 35 #[.val (.ref bt), .val (.long (1600000000 : Int64)), .second, .val (.int (5 : Int32))] [(.long (1600000000 : Int64))])) rfl (hb hby own_d7_35)
  refine Goes.go st11 ?_
  show Goes p e below s _ _ _ T11 (mkF m 38 #[.val (.ref bt), .val (.long (1600000000 : Int64)), .second, .val (.int (5 : Int32))] [(.long (1000000000 : Int64)), (.long (1600000000 : Int64))])
  obtain ⟨_, _, ⟨T12, L12, k12, n12⟩, -, X12, ⟨Lc12, hQ12, l12, y12, z12⟩, st12⟩ := Jvm.LawKit.callS X11 hx (y := (⟨"java/lang/Math", "min", "(JJ)J"⟩ : MethodName)) hown (mvT hZ (hw _ (List.mem_of_getElem? (i := 41) rfl))) (mvT hZ (hw _ (List.mem_of_getElem? (i := 42) rfl))) (mvT hZ (hw _ (List.mem_of_getElem? (i := 43) rfl))) (mvT hZ (hw _ (List.mem_of_getElem? (i := 44) rfl))) (by decide) (backOf (W := 0) (rmmi1600000000 l Z a0 hw []  h0 n0 Z0 ) hZ (hw _ (List.mem_of_getElem? (i := 44) rfl)) (hw _ (List.mem_of_getElem? (i := 43) rfl)) (by decide) (by decide)) (g := (mkF m 38 #[.val (.ref bt), .val (.long (1600000000 : Int64)), .second, .val (.int (5 : Int32))] [(.long (1000000000 : Int64)), (.long (1600000000 : Int64))])) rfl (by rw [hml]; rfl) (argsL := [(.long (1600000000 : Int64)), (.long (1000000000 : Int64))]) (rest := []) (lenOf own_pd1 rfl) rfl (by show 2 * 0 + _ ≤ _; exact Nat.le_of_eq rfl) (hb hby own_d7_38) (fun _ _ => ⟨rfl, e11, (by decide : 0 + 0 ≤ _), (by decide : 0 + 0 ≤ _)⟩)
  dsimp only [Pt.U, Pt.locs, Pt.cells, Pt.slots] at X12 l12 y12 z12 st12 hQ12
  subst l12 y12 z12
  obtain ⟨rfl, N12q, eh12⟩ := hQ12
  have N12 := Fr.app N0 N12q
  refine Goes.go st12 ?_
  show Goes p e below s _ _ _ T12 (mkF m 41 #[.val (.ref bt), .val (.long (1600000000 : Int64)), .second, .val (.int (5 : Int32))] [(.long (1000000000 : Int64))])
  refine own_retJ X12 hx hlk Bd.returns (hb hby own_d7_41) (by decide) (by decide) eh12 ?_
  exact ⟨rfl, N12, rfl⟩
def Qde5 (Z : State) (bt : Addr) (bn : Int64) (be : Int64) (h0 : Heap) (n0 : Nat) (v : Option Value) (h : Heap) (L : List Loc) : Prop := ∃ br : Int64, v = some (.long br) ∧ Fr n0 L ∧ h = h0 ∧ ((br = ((be + (1000000000 : Int64)) - bn) ∧ (0 : Int64) < ((be + (1000000000 : Int64)) - bn)) ∨ (br = (0 : Int64) ∧ ¬ (0 : Int64) < ((be + (1000000000 : Int64)) - bn)))
set_option maxRecDepth 65536 in
set_option maxHeartbeats 40000000 in
theorem rmde5 (l : Launch) (Z : State) (a0 : Array Value) (hw : ∀ d ∈ tables_1, d.before a0 Z = true) (ws : List Jvm.Cond) (bt : Addr) (bn : Int64) (be : Int64) (h0 : Heap) (n0 : Nat) (Z0 : n0 ≤ h0.size) (EB : Exa Z h0 bt "com/example/pooler/pooler/pool/Backoff") (Ss : Sta Z h0 "com/example/pooler/pooler/pool/Backoff" "SHORTEST" "J" (.long (100000000 : Int64))) (Sl : Sta Z h0 "com/example/pooler/pooler/pool/Backoff" "LONGEST" "J" (.long (1000000000 : Int64))) (Ft : Fld Z h0 bt "com/example/pooler/pooler/pool/Backoff" "tried" "Z" (.int (1 : Int32))) (Fe : Fld Z h0 bt "com/example/pooler/pooler/pool/Backoff" "endedAt" "J" (.long be)) (Ff : Fld Z h0 bt "com/example/pooler/pooler/pool/Backoff" "failuresInARow" "I" (.int (5 : Int32))) :
    MetFree l (⟨"com/example/pooler/pooler/pool/Backoff", "delay", "(J)J"⟩ : MethodName) (head1 (Jvm.Cond.code (⟨"com/example/pooler/pooler/pool/Backoff", "delay", "(J)J"⟩ : MethodName) prog_23_method_2_code 5 (some .long) :: ws) ({ frames := 2, cells := 0, slots := 0, locals := 34 } : Room)) (fun a U => a = #[(.ref bt), (.long bn)] ∧ Z.Warmed39 U.vm ∧ U.heap = h0) (fun _ _ _ _ _ => True) (fun _ U o U' => ∃ v L, o = .returned v ∧ Qde5 Z bt bn be h0 n0 v U'.heap L ∧ FrameEnd U o U' L ({ frames := 2, cells := 0, slots := 0, locals := 34 } : Room).cells ({ frames := 2, cells := 0, slots := 0, locals := 34 } : Room).slots) := by
  refine MetFree.of_bodySF (plainFor_of_name own_pn_com_example_pooler_pooler_pool_Backoff) hisR ?_
  intro p e s m args below meth c s₁ Bd hml0 hP hK
  obtain ⟨rfl, hZ, hh⟩ := hP
  have hx := Bd.exec
  have hby := Bd.bytes
  have hml : c.maxLocals = 5 := hml0
  have hlk := Bd.notSynchronized
  have hown : s.vm.findClass "com/example/pooler/pooler/pool/Backoff" = some m.cls := findClass_of_methodNamed Bd.named
  have hnm := (name_of_methodNamed Bd.named Bd.method).1
  have X0 : Stand p l e ({ frames := 2, cells := 0, slots := 0, locals := 34 } : Room) s m #[(.ref bt), (.long bn)] below meth c s₁ [] 0 0 := Stand.of_body Bd
  have e0 : s₁.heap = h0 := by rw [← hh, Bd.state]; rfl
  have N0 := Fr.nil n0
  refine own_enter (Q := Qde5 Z bt bn be h0 n0) (Ls := #[.val (.ref bt), .val (.long bn), .second, .unset, .unset]) (by first | (simp [entryFrame, mkF, argsToLocals, Value.category]; done) | rfl) ?_
  refine own_lconst X0 hx 1 rfl (0 : Int64) (hb hby own_d3_0) (by decide) ?_
  refine own_lstoreN X0 hx 2 rfl #[.val (.ref bt), .val (.long bn), .second, .val (.long (0 : Int64)), .second] (hb hby own_d3_1) rfl ?_
  refine own_aloadN X0 hx 3 rfl (hb hby own_d3_2) rfl rfl ?_
  obtain ⟨T1, X1, e1, st1⟩ := getF X0 hx hZ hown (host := "") (Or.inl (hw _ (List.mem_of_getElem? (i := 14) rfl))) Via.refl e0 Ft (g := (mkF m 3 #[.val (.ref bt), .val (.long bn), .second, .val (.long (0 : Int64)), .second] [(.ref bt)])) rfl rfl (hb hby own_d3_3)
  refine Goes.go st1 ?_
  show Goes p e below s _ _ _ T1 (mkF m 6 #[.val (.ref bt), .val (.long bn), .second, .val (.long (0 : Int64)), .second] [(.int (1 : Int32))])
  refine own_ifN X1 hx 9 (hb hby own_d3_6) ((if0 _ _).trans (feq ((by decide) : ¬ ((1 : Int32) = (0 : Int32)))).1) rfl ?_
  refine own_lconst X1 hx 10 rfl (0 : Int64) (hb hby own_d3_9) (by decide) ?_
  refine own_aloadN X1 hx 11 rfl (hb hby own_d3_10) rfl rfl ?_
  obtain ⟨T2, X2, e2, st2⟩ := getF X1 hx hZ hown (host := "") (Or.inl (hw _ (List.mem_of_getElem? (i := 29) rfl))) Via.refl e1 Fe (g := (mkF m 11 #[.val (.ref bt), .val (.long bn), .second, .val (.long (0 : Int64)), .second] [(.ref bt), (.long (0 : Int64))])) rfl rfl (hb hby own_d3_11)
  refine Goes.go st2 ?_
  show Goes p e below s _ _ _ T2 (mkF m 14 #[.val (.ref bt), .val (.long bn), .second, .val (.long (0 : Int64)), .second] [(.long be), (.long (0 : Int64))])
  refine own_aloadN X2 hx 15 rfl (hb hby own_d3_14) rfl rfl ?_
  obtain ⟨cq3, q3, q3'⟩ := EB.cell
  obtain ⟨_, _, ⟨T3, L3, k3, n3⟩, -, X3, ⟨Lc3, hQ3, l3, y3, z3⟩, st3⟩ := X2.privateBack hx (y := (⟨"com/example/pooler/pooler/pool/Backoff", "pause", "()J"⟩ : MethodName)) hown (mvT hZ (hw _ (List.mem_of_getElem? (i := 33) rfl))) (mvT hZ (hw _ (List.mem_of_getElem? (i := 34) rfl))) (own_selP (mvT hZ (hw _ (List.mem_of_getElem? (i := 1) rfl))) (mvP hZ (hw _ (List.mem_of_getElem? (i := 35) rfl))) (mvT hZ (hw _ (List.mem_of_getElem? (i := 34) rfl))) (by decide)) (Cond.privateMethod_at (mvP hZ (hw _ (List.mem_of_getElem? (i := 35) rfl)) (args := #[]))) (mvT hZ (hw _ (List.mem_of_getElem? (i := 36) rfl))) (by decide) (backOf (W := 4) (rmpa5 l Z a0 hw [] bt h0 n0 Z0 Ss Sl Ff) hZ (hw _ (List.mem_of_getElem? (i := 36) rfl)) (hw _ (List.mem_of_getElem? (i := 2) rfl)) (by decide) (by decide)) (g := (mkF m 15 #[.val (.ref bt), .val (.long bn), .second, .val (.long (0 : Int64)), .second] [(.ref bt), (.long be), (.long (0 : Int64))])) rfl (by rw [hml]; rfl) (Steps.refl _) (a := bt) (by rw [e2]; exact q3) q3' (argsL := []) (rest := [(.long be), (.long (0 : Int64))]) (lenOf own_pd2 rfl) rfl (by show 2 * 0 + _ ≤ _; exact Nat.le_of_eq rfl) (hb hby own_d3_15) (fun _ _ => ⟨rfl, e2, (by decide : 0 + 0 ≤ _), (by decide : 0 + 0 ≤ _)⟩)
  dsimp only [Pt.U, Pt.locs, Pt.cells, Pt.slots] at X3 l3 y3 z3 st3 hQ3
  subst l3 y3 z3
  obtain ⟨rfl, N3q, eh3⟩ := hQ3
  have N3 := Fr.app N0 N3q
  refine Goes.tr st3 ?_
  show Goes p e below s _ _ _ T3 (mkF m 18 #[.val (.ref bt), .val (.long bn), .second, .val (.long (0 : Int64)), .second] [(.long (1000000000 : Int64)), (.long be), (.long (0 : Int64))])
  refine own_ladd X3 hx 19 rfl (hb hby own_d3_18) rfl ?_
  refine own_lloadN X3 hx 20 rfl (hb hby own_d3_19) rfl ?_
  refine own_lsub X3 hx 21 rfl (hb hby own_d3_20) rfl ?_
  obtain ⟨_, _, ⟨T4, L4, k4, n4⟩, -, X4, ⟨Lc4, hQ4, l4, y4, z4⟩, st4⟩ := Jvm.LawKit.callS X3 hx (y := (⟨"java/lang/Math", "max", "(JJ)J"⟩ : MethodName)) hown (mvT hZ (hw _ (List.mem_of_getElem? (i := 45) rfl))) (mvT hZ (hw _ (List.mem_of_getElem? (i := 46) rfl))) (mvT hZ (hw _ (List.mem_of_getElem? (i := 43) rfl))) (mvT hZ (hw _ (List.mem_of_getElem? (i := 47) rfl))) (by decide) (backOf (W := 0) (rm9 l Z a0 hw [] (0 : Int64) ((be + (1000000000 : Int64)) - bn) h0 n0 Z0 ) hZ (hw _ (List.mem_of_getElem? (i := 47) rfl)) (hw _ (List.mem_of_getElem? (i := 43) rfl)) (by decide) (by decide)) (g := (mkF m 21 #[.val (.ref bt), .val (.long bn), .second, .val (.long (0 : Int64)), .second] [(.long ((be + (1000000000 : Int64)) - bn)), (.long (0 : Int64))])) rfl (by rw [hml]; rfl) (argsL := [(.long (0 : Int64)), (.long ((be + (1000000000 : Int64)) - bn))]) (rest := []) (lenOf own_pd1 rfl) rfl (by show 2 * 0 + _ ≤ _; exact Nat.le_of_eq rfl) (hb hby own_d3_21) (fun _ _ => ⟨rfl, eh3, (by decide : 0 + 0 ≤ _), (by decide : 0 + 0 ≤ _)⟩)
  dsimp only [Pt.U, Pt.locs, Pt.cells, Pt.slots] at X4 l4 y4 z4 st4 hQ4
  subst l4 y4 z4
  obtain ⟨mr_4, rfl, N4q, eh4, pr4_0⟩ := hQ4
  have N4 := Fr.app N3 N4q
  refine Goes.go st4 ?_
  show Goes p e below s _ _ _ T4 (mkF m 24 #[.val (.ref bt), .val (.long bn), .second, .val (.long (0 : Int64)), .second] [(.long mr_4)])
  refine own_lstoreN X4 hx 25 rfl #[.val (.ref bt), .val (.long bn), .second, .val (.long mr_4), .second] (hb hby own_d3_24) rfl ?_
  refine own_lloadN X4 hx 26 rfl (hb hby own_d3_25) rfl ?_
  refine own_retJ X4 hx hlk Bd.returns (hb hby own_d3_26) (by decide) (by decide) eh4 ?_
  exact ⟨mr_4, rfl, N4, rfl, pr4_0⟩
def Qpa6 (Z : State) (bt : Addr) (h0 : Heap) (n0 : Nat) (v : Option Value) (h : Heap) (L : List Loc) : Prop := v = some (.long (1000000000 : Int64)) ∧ Fr n0 L ∧ h = h0
set_option maxRecDepth 65536 in
set_option maxHeartbeats 40000000 in
theorem rmpa6 (l : Launch) (Z : State) (a0 : Array Value) (hw : ∀ d ∈ tables_1, d.before a0 Z = true) (ws : List Jvm.Cond) (bt : Addr) (h0 : Heap) (n0 : Nat) (Z0 : n0 ≤ h0.size) (Ss : Sta Z h0 "com/example/pooler/pooler/pool/Backoff" "SHORTEST" "J" (.long (100000000 : Int64))) (Sl : Sta Z h0 "com/example/pooler/pooler/pool/Backoff" "LONGEST" "J" (.long (1000000000 : Int64))) (Ff : Fld Z h0 bt "com/example/pooler/pooler/pool/Backoff" "failuresInARow" "I" (.int (6 : Int32))) :
    MetFree l (⟨"com/example/pooler/pooler/pool/Backoff", "pause", "()J"⟩ : MethodName) (head1 (Jvm.Cond.code (⟨"com/example/pooler/pooler/pool/Backoff", "pause", "()J"⟩ : MethodName) prog_23_method_6_code 4 (some .long) :: ws) ({ frames := 1, cells := 0, slots := 0, locals := 15 } : Room)) (fun a U => a = #[(.ref bt)] ∧ Z.Warmed39 U.vm ∧ U.heap = h0) (fun _ _ _ _ _ => True) (fun _ U o U' => ∃ v L, o = .returned v ∧ Qpa6 Z bt h0 n0 v U'.heap L ∧ FrameEnd U o U' L ({ frames := 1, cells := 0, slots := 0, locals := 15 } : Room).cells ({ frames := 1, cells := 0, slots := 0, locals := 15 } : Room).slots) := by
  refine MetFree.of_bodySF (plainFor_of_name own_pn_com_example_pooler_pooler_pool_Backoff) hisR ?_
  intro p e s m args below meth c s₁ Bd hml0 hP hK
  obtain ⟨rfl, hZ, hh⟩ := hP
  have hx := Bd.exec
  have hby := Bd.bytes
  have hml : c.maxLocals = 4 := hml0
  have hlk := Bd.notSynchronized
  have hown : s.vm.findClass "com/example/pooler/pooler/pool/Backoff" = some m.cls := findClass_of_methodNamed Bd.named
  have hnm := (name_of_methodNamed Bd.named Bd.method).1
  have X0 : Stand p l e ({ frames := 1, cells := 0, slots := 0, locals := 15 } : Room) s m #[(.ref bt)] below meth c s₁ [] 0 0 := Stand.of_body Bd
  have e0 : s₁.heap = h0 := by rw [← hh, Bd.state]; rfl
  have N0 := Fr.nil n0
  refine own_enter (Q := Qpa6 Z bt h0 n0) (Ls := #[.val (.ref bt), .unset, .unset, .unset]) (by first | (simp [entryFrame, mkF, argsToLocals, Value.category]; done) | rfl) ?_
  obtain ⟨T1, X1, e1, st1⟩ := getS2 X0 hx hZ hown (host := "") (Or.inl (hw _ (List.mem_of_getElem? (i := 37) rfl))) Via.refl e0 Ss (g := (mkF m 0 #[.val (.ref bt), .unset, .unset, .unset] [])) rfl (hb hby own_d7_0)
  refine Goes.go st1 ?_
  show Goes p e below s _ _ _ T1 (mkF m 3 #[.val (.ref bt), .unset, .unset, .unset] [(.long (100000000 : Int64))])
  refine own_lstoreN X1 hx 4 rfl #[.val (.ref bt), .val (.long (100000000 : Int64)), .second, .unset] (hb hby own_d7_3) rfl ?_
  refine own_iconst X1 hx 5 rfl (1 : Int32) (hb hby own_d7_4) (by decide) ?_
  refine own_istoreN X1 hx 6 rfl #[.val (.ref bt), .val (.long (100000000 : Int64)), .second, .val (.int (1 : Int32))] (hb hby own_d7_5) rfl ?_
  refine own_iloadN X1 hx 7 rfl (hb hby own_d7_6) rfl ?_
  refine own_aloadN X1 hx 8 rfl (hb hby own_d7_7) rfl rfl ?_
  obtain ⟨T2, X2, e2, st2⟩ := getF X1 hx hZ hown (host := "") (Or.inl (hw _ (List.mem_of_getElem? (i := 31) rfl))) Via.refl e1 Ff (g := (mkF m 8 #[.val (.ref bt), .val (.long (100000000 : Int64)), .second, .val (.int (1 : Int32))] [(.ref bt), (.int (1 : Int32))])) rfl rfl (hb hby own_d7_8)
  refine Goes.go st2 ?_
  show Goes p e below s _ _ _ T2 (mkF m 11 #[.val (.ref bt), .val (.long (100000000 : Int64)), .second, .val (.int (1 : Int32))] [(.int (6 : Int32)), (.int (1 : Int32))])
  refine own_icmpN X2 hx 14 (hb hby own_d7_11) (tlt ((by decide) : (1 : Int32) < (6 : Int32))).2.1 rfl ?_
  refine own_lloadN X2 hx 15 rfl (hb hby own_d7_14) rfl ?_
  obtain ⟨T3, X3, e3, st3⟩ := getS2 X2 hx hZ hown (host := "") (Or.inl (hw _ (List.mem_of_getElem? (i := 39) rfl))) Via.refl e2 Sl (g := (mkF m 15 #[.val (.ref bt), .val (.long (100000000 : Int64)), .second, .val (.int (1 : Int32))] [(.long (100000000 : Int64))])) rfl (hb hby own_d7_15)
  refine Goes.go st3 ?_
  show Goes p e below s _ _ _ T3 (mkF m 18 #[.val (.ref bt), .val (.long (100000000 : Int64)), .second, .val (.int (1 : Int32))] [(.long (1000000000 : Int64)), (.long (100000000 : Int64))])
  refine own_lcmp X3 hx 19 rfl (hb hby own_d7_18) ?_
  refine own_ifN X3 hx 22 (hb hby own_d7_19) (Ltlt ((by decide) : (100000000 : Int64) < (1000000000 : Int64))).2.1 rfl ?_
  refine own_lloadN X3 hx 23 rfl (hb hby own_d7_22) rfl ?_
  refine Goes.go (X3.ldc2Long hx hown (mvT hZ (hw _ (List.mem_of_getElem? (i := 53) rfl))) (g := (mkF m 23 #[.val (.ref bt), .val (.long (100000000 : Int64)), .second, .val (.int (1 : Int32))] [(.long (100000000 : Int64))])) rfl (hb hby own_d7_23)) ?_
  show Goes p e below s _ _ _ T3 (mkF m 26 #[.val (.ref bt), .val (.long (100000000 : Int64)), .second, .val (.int (1 : Int32))] [(.long (2 : Int64)), (.long (100000000 : Int64))])
  refine own_lmul X3 hx 27 rfl (z := (200000000 : Int64)) (hb hby own_d7_26) (by decide) ?_
  refine own_lstoreN X3 hx 28 rfl #[.val (.ref bt), .val (.long (200000000 : Int64)), .second, .val (.int (1 : Int32))] (hb hby own_d7_27) rfl ?_
  refine own_iinc X3 hx 31 rfl #[.val (.ref bt), .val (.long (200000000 : Int64)), .second, .val (.int (2 : Int32))] (hb hby own_d7_28) rfl (by decide) rfl ?_
  refine own_goto X3 hx 6 (hb hby own_d7_31) (by decide) (by decide) ?_
  refine own_iloadN X3 hx 7 rfl (hb hby own_d7_6) rfl ?_
  refine own_aloadN X3 hx 8 rfl (hb hby own_d7_7) rfl rfl ?_
  obtain ⟨T4, X4, e4, st4⟩ := getF X3 hx hZ hown (host := "") (Or.inl (hw _ (List.mem_of_getElem? (i := 31) rfl))) Via.refl e3 Ff (g := (mkF m 8 #[.val (.ref bt), .val (.long (200000000 : Int64)), .second, .val (.int (2 : Int32))] [(.ref bt), (.int (2 : Int32))])) rfl rfl (hb hby own_d7_8)
  refine Goes.go st4 ?_
  show Goes p e below s _ _ _ T4 (mkF m 11 #[.val (.ref bt), .val (.long (200000000 : Int64)), .second, .val (.int (2 : Int32))] [(.int (6 : Int32)), (.int (2 : Int32))])
  refine own_icmpN X4 hx 14 (hb hby own_d7_11) (tlt ((by decide) : (2 : Int32) < (6 : Int32))).2.1 rfl ?_
  refine own_lloadN X4 hx 15 rfl (hb hby own_d7_14) rfl ?_
  obtain ⟨T5, X5, e5, st5⟩ := getS2 X4 hx hZ hown (host := "") (Or.inl (hw _ (List.mem_of_getElem? (i := 39) rfl))) Via.refl e4 Sl (g := (mkF m 15 #[.val (.ref bt), .val (.long (200000000 : Int64)), .second, .val (.int (2 : Int32))] [(.long (200000000 : Int64))])) rfl (hb hby own_d7_15)
  refine Goes.go st5 ?_
  show Goes p e below s _ _ _ T5 (mkF m 18 #[.val (.ref bt), .val (.long (200000000 : Int64)), .second, .val (.int (2 : Int32))] [(.long (1000000000 : Int64)), (.long (200000000 : Int64))])
  refine own_lcmp X5 hx 19 rfl (hb hby own_d7_18) ?_
  refine own_ifN X5 hx 22 (hb hby own_d7_19) (Ltlt ((by decide) : (200000000 : Int64) < (1000000000 : Int64))).2.1 rfl ?_
  refine own_lloadN X5 hx 23 rfl (hb hby own_d7_22) rfl ?_
  refine Goes.go (X5.ldc2Long hx hown (mvT hZ (hw _ (List.mem_of_getElem? (i := 53) rfl))) (g := (mkF m 23 #[.val (.ref bt), .val (.long (200000000 : Int64)), .second, .val (.int (2 : Int32))] [(.long (200000000 : Int64))])) rfl (hb hby own_d7_23)) ?_
  show Goes p e below s _ _ _ T5 (mkF m 26 #[.val (.ref bt), .val (.long (200000000 : Int64)), .second, .val (.int (2 : Int32))] [(.long (2 : Int64)), (.long (200000000 : Int64))])
  refine own_lmul X5 hx 27 rfl (z := (400000000 : Int64)) (hb hby own_d7_26) (by decide) ?_
  refine own_lstoreN X5 hx 28 rfl #[.val (.ref bt), .val (.long (400000000 : Int64)), .second, .val (.int (2 : Int32))] (hb hby own_d7_27) rfl ?_
  refine own_iinc X5 hx 31 rfl #[.val (.ref bt), .val (.long (400000000 : Int64)), .second, .val (.int (3 : Int32))] (hb hby own_d7_28) rfl (by decide) rfl ?_
  refine own_goto X5 hx 6 (hb hby own_d7_31) (by decide) (by decide) ?_
  refine own_iloadN X5 hx 7 rfl (hb hby own_d7_6) rfl ?_
  refine own_aloadN X5 hx 8 rfl (hb hby own_d7_7) rfl rfl ?_
  obtain ⟨T6, X6, e6, st6⟩ := getF X5 hx hZ hown (host := "") (Or.inl (hw _ (List.mem_of_getElem? (i := 31) rfl))) Via.refl e5 Ff (g := (mkF m 8 #[.val (.ref bt), .val (.long (400000000 : Int64)), .second, .val (.int (3 : Int32))] [(.ref bt), (.int (3 : Int32))])) rfl rfl (hb hby own_d7_8)
  refine Goes.go st6 ?_
  show Goes p e below s _ _ _ T6 (mkF m 11 #[.val (.ref bt), .val (.long (400000000 : Int64)), .second, .val (.int (3 : Int32))] [(.int (6 : Int32)), (.int (3 : Int32))])
  refine own_icmpN X6 hx 14 (hb hby own_d7_11) (tlt ((by decide) : (3 : Int32) < (6 : Int32))).2.1 rfl ?_
  refine own_lloadN X6 hx 15 rfl (hb hby own_d7_14) rfl ?_
  obtain ⟨T7, X7, e7, st7⟩ := getS2 X6 hx hZ hown (host := "") (Or.inl (hw _ (List.mem_of_getElem? (i := 39) rfl))) Via.refl e6 Sl (g := (mkF m 15 #[.val (.ref bt), .val (.long (400000000 : Int64)), .second, .val (.int (3 : Int32))] [(.long (400000000 : Int64))])) rfl (hb hby own_d7_15)
  refine Goes.go st7 ?_
  show Goes p e below s _ _ _ T7 (mkF m 18 #[.val (.ref bt), .val (.long (400000000 : Int64)), .second, .val (.int (3 : Int32))] [(.long (1000000000 : Int64)), (.long (400000000 : Int64))])
  refine own_lcmp X7 hx 19 rfl (hb hby own_d7_18) ?_
  refine own_ifN X7 hx 22 (hb hby own_d7_19) (Ltlt ((by decide) : (400000000 : Int64) < (1000000000 : Int64))).2.1 rfl ?_
  refine own_lloadN X7 hx 23 rfl (hb hby own_d7_22) rfl ?_
  refine Goes.go (X7.ldc2Long hx hown (mvT hZ (hw _ (List.mem_of_getElem? (i := 53) rfl))) (g := (mkF m 23 #[.val (.ref bt), .val (.long (400000000 : Int64)), .second, .val (.int (3 : Int32))] [(.long (400000000 : Int64))])) rfl (hb hby own_d7_23)) ?_
  show Goes p e below s _ _ _ T7 (mkF m 26 #[.val (.ref bt), .val (.long (400000000 : Int64)), .second, .val (.int (3 : Int32))] [(.long (2 : Int64)), (.long (400000000 : Int64))])
  refine own_lmul X7 hx 27 rfl (z := (800000000 : Int64)) (hb hby own_d7_26) (by decide) ?_
  refine own_lstoreN X7 hx 28 rfl #[.val (.ref bt), .val (.long (800000000 : Int64)), .second, .val (.int (3 : Int32))] (hb hby own_d7_27) rfl ?_
  refine own_iinc X7 hx 31 rfl #[.val (.ref bt), .val (.long (800000000 : Int64)), .second, .val (.int (4 : Int32))] (hb hby own_d7_28) rfl (by decide) rfl ?_
  refine own_goto X7 hx 6 (hb hby own_d7_31) (by decide) (by decide) ?_
  refine own_iloadN X7 hx 7 rfl (hb hby own_d7_6) rfl ?_
  refine own_aloadN X7 hx 8 rfl (hb hby own_d7_7) rfl rfl ?_
  obtain ⟨T8, X8, e8, st8⟩ := getF X7 hx hZ hown (host := "") (Or.inl (hw _ (List.mem_of_getElem? (i := 31) rfl))) Via.refl e7 Ff (g := (mkF m 8 #[.val (.ref bt), .val (.long (800000000 : Int64)), .second, .val (.int (4 : Int32))] [(.ref bt), (.int (4 : Int32))])) rfl rfl (hb hby own_d7_8)
  refine Goes.go st8 ?_
  show Goes p e below s _ _ _ T8 (mkF m 11 #[.val (.ref bt), .val (.long (800000000 : Int64)), .second, .val (.int (4 : Int32))] [(.int (6 : Int32)), (.int (4 : Int32))])
  refine own_icmpN X8 hx 14 (hb hby own_d7_11) (tlt ((by decide) : (4 : Int32) < (6 : Int32))).2.1 rfl ?_
  refine own_lloadN X8 hx 15 rfl (hb hby own_d7_14) rfl ?_
  obtain ⟨T9, X9, e9, st9⟩ := getS2 X8 hx hZ hown (host := "") (Or.inl (hw _ (List.mem_of_getElem? (i := 39) rfl))) Via.refl e8 Sl (g := (mkF m 15 #[.val (.ref bt), .val (.long (800000000 : Int64)), .second, .val (.int (4 : Int32))] [(.long (800000000 : Int64))])) rfl (hb hby own_d7_15)
  refine Goes.go st9 ?_
  show Goes p e below s _ _ _ T9 (mkF m 18 #[.val (.ref bt), .val (.long (800000000 : Int64)), .second, .val (.int (4 : Int32))] [(.long (1000000000 : Int64)), (.long (800000000 : Int64))])
  refine own_lcmp X9 hx 19 rfl (hb hby own_d7_18) ?_
  refine own_ifN X9 hx 22 (hb hby own_d7_19) (Ltlt ((by decide) : (800000000 : Int64) < (1000000000 : Int64))).2.1 rfl ?_
  refine own_lloadN X9 hx 23 rfl (hb hby own_d7_22) rfl ?_
  refine Goes.go (X9.ldc2Long hx hown (mvT hZ (hw _ (List.mem_of_getElem? (i := 53) rfl))) (g := (mkF m 23 #[.val (.ref bt), .val (.long (800000000 : Int64)), .second, .val (.int (4 : Int32))] [(.long (800000000 : Int64))])) rfl (hb hby own_d7_23)) ?_
  show Goes p e below s _ _ _ T9 (mkF m 26 #[.val (.ref bt), .val (.long (800000000 : Int64)), .second, .val (.int (4 : Int32))] [(.long (2 : Int64)), (.long (800000000 : Int64))])
  refine own_lmul X9 hx 27 rfl (z := (1600000000 : Int64)) (hb hby own_d7_26) (by decide) ?_
  refine own_lstoreN X9 hx 28 rfl #[.val (.ref bt), .val (.long (1600000000 : Int64)), .second, .val (.int (4 : Int32))] (hb hby own_d7_27) rfl ?_
  refine own_iinc X9 hx 31 rfl #[.val (.ref bt), .val (.long (1600000000 : Int64)), .second, .val (.int (5 : Int32))] (hb hby own_d7_28) rfl (by decide) rfl ?_
  refine own_goto X9 hx 6 (hb hby own_d7_31) (by decide) (by decide) ?_
  refine own_iloadN X9 hx 7 rfl (hb hby own_d7_6) rfl ?_
  refine own_aloadN X9 hx 8 rfl (hb hby own_d7_7) rfl rfl ?_
  obtain ⟨T10, X10, e10, st10⟩ := getF X9 hx hZ hown (host := "") (Or.inl (hw _ (List.mem_of_getElem? (i := 31) rfl))) Via.refl e9 Ff (g := (mkF m 8 #[.val (.ref bt), .val (.long (1600000000 : Int64)), .second, .val (.int (5 : Int32))] [(.ref bt), (.int (5 : Int32))])) rfl rfl (hb hby own_d7_8)
  refine Goes.go st10 ?_
  show Goes p e below s _ _ _ T10 (mkF m 11 #[.val (.ref bt), .val (.long (1600000000 : Int64)), .second, .val (.int (5 : Int32))] [(.int (6 : Int32)), (.int (5 : Int32))])
  refine own_icmpN X10 hx 14 (hb hby own_d7_11) (tlt ((by decide) : (5 : Int32) < (6 : Int32))).2.1 rfl ?_
  refine own_lloadN X10 hx 15 rfl (hb hby own_d7_14) rfl ?_
  obtain ⟨T11, X11, e11, st11⟩ := getS2 X10 hx hZ hown (host := "") (Or.inl (hw _ (List.mem_of_getElem? (i := 39) rfl))) Via.refl e10 Sl (g := (mkF m 15 #[.val (.ref bt), .val (.long (1600000000 : Int64)), .second, .val (.int (5 : Int32))] [(.long (1600000000 : Int64))])) rfl (hb hby own_d7_15)
  refine Goes.go st11 ?_
  show Goes p e below s _ _ _ T11 (mkF m 18 #[.val (.ref bt), .val (.long (1600000000 : Int64)), .second, .val (.int (5 : Int32))] [(.long (1000000000 : Int64)), (.long (1600000000 : Int64))])
  refine own_lcmp X11 hx 19 rfl (hb hby own_d7_18) ?_
  refine own_ifY X11 hx 34 (hb hby own_d7_19) (Lflt ((by decide) : ¬ ((1600000000 : Int64) < (1000000000 : Int64)))).2.1 (by decide) (by decide) ?_
  refine own_lloadN X11 hx 35 rfl (hb hby own_d7_34) rfl ?_
  obtain ⟨T12, X12, e12, st12⟩ := getS2 X11 hx hZ hown (host := "") (Or.inl (hw _ (List.mem_of_getElem? (i := 39) rfl))) Via.refl e11 Sl (g := (mkF m 35 #[.val (.ref bt), .val (.long (1600000000 : Int64)), .second, .val (.int (5 : Int32))] [(.long (1600000000 : Int64))])) rfl (hb hby own_d7_35)
  refine Goes.go st12 ?_
  show Goes p e below s _ _ _ T12 (mkF m 38 #[.val (.ref bt), .val (.long (1600000000 : Int64)), .second, .val (.int (5 : Int32))] [(.long (1000000000 : Int64)), (.long (1600000000 : Int64))])
  obtain ⟨_, _, ⟨T13, L13, k13, n13⟩, -, X13, ⟨Lc13, hQ13, l13, y13, z13⟩, st13⟩ := Jvm.LawKit.callS X12 hx (y := (⟨"java/lang/Math", "min", "(JJ)J"⟩ : MethodName)) hown (mvT hZ (hw _ (List.mem_of_getElem? (i := 41) rfl))) (mvT hZ (hw _ (List.mem_of_getElem? (i := 42) rfl))) (mvT hZ (hw _ (List.mem_of_getElem? (i := 43) rfl))) (mvT hZ (hw _ (List.mem_of_getElem? (i := 44) rfl))) (by decide) (backOf (W := 0) (rmmi1600000000 l Z a0 hw []  h0 n0 Z0 ) hZ (hw _ (List.mem_of_getElem? (i := 44) rfl)) (hw _ (List.mem_of_getElem? (i := 43) rfl)) (by decide) (by decide)) (g := (mkF m 38 #[.val (.ref bt), .val (.long (1600000000 : Int64)), .second, .val (.int (5 : Int32))] [(.long (1000000000 : Int64)), (.long (1600000000 : Int64))])) rfl (by rw [hml]; rfl) (argsL := [(.long (1600000000 : Int64)), (.long (1000000000 : Int64))]) (rest := []) (lenOf own_pd1 rfl) rfl (by show 2 * 0 + _ ≤ _; exact Nat.le_of_eq rfl) (hb hby own_d7_38) (fun _ _ => ⟨rfl, e12, (by decide : 0 + 0 ≤ _), (by decide : 0 + 0 ≤ _)⟩)
  dsimp only [Pt.U, Pt.locs, Pt.cells, Pt.slots] at X13 l13 y13 z13 st13 hQ13
  subst l13 y13 z13
  obtain ⟨rfl, N13q, eh13⟩ := hQ13
  have N13 := Fr.app N0 N13q
  refine Goes.go st13 ?_
  show Goes p e below s _ _ _ T13 (mkF m 41 #[.val (.ref bt), .val (.long (1600000000 : Int64)), .second, .val (.int (5 : Int32))] [(.long (1000000000 : Int64))])
  refine own_retJ X13 hx hlk Bd.returns (hb hby own_d7_41) (by decide) (by decide) eh13 ?_
  exact ⟨rfl, N13, rfl⟩
def Qde6 (Z : State) (bt : Addr) (bn : Int64) (be : Int64) (h0 : Heap) (n0 : Nat) (v : Option Value) (h : Heap) (L : List Loc) : Prop := ∃ br : Int64, v = some (.long br) ∧ Fr n0 L ∧ h = h0 ∧ ((br = ((be + (1000000000 : Int64)) - bn) ∧ (0 : Int64) < ((be + (1000000000 : Int64)) - bn)) ∨ (br = (0 : Int64) ∧ ¬ (0 : Int64) < ((be + (1000000000 : Int64)) - bn)))
set_option maxRecDepth 65536 in
set_option maxHeartbeats 40000000 in
theorem rmde6 (l : Launch) (Z : State) (a0 : Array Value) (hw : ∀ d ∈ tables_1, d.before a0 Z = true) (ws : List Jvm.Cond) (bt : Addr) (bn : Int64) (be : Int64) (h0 : Heap) (n0 : Nat) (Z0 : n0 ≤ h0.size) (EB : Exa Z h0 bt "com/example/pooler/pooler/pool/Backoff") (Ss : Sta Z h0 "com/example/pooler/pooler/pool/Backoff" "SHORTEST" "J" (.long (100000000 : Int64))) (Sl : Sta Z h0 "com/example/pooler/pooler/pool/Backoff" "LONGEST" "J" (.long (1000000000 : Int64))) (Ft : Fld Z h0 bt "com/example/pooler/pooler/pool/Backoff" "tried" "Z" (.int (1 : Int32))) (Fe : Fld Z h0 bt "com/example/pooler/pooler/pool/Backoff" "endedAt" "J" (.long be)) (Ff : Fld Z h0 bt "com/example/pooler/pooler/pool/Backoff" "failuresInARow" "I" (.int (6 : Int32))) :
    MetFree l (⟨"com/example/pooler/pooler/pool/Backoff", "delay", "(J)J"⟩ : MethodName) (head1 (Jvm.Cond.code (⟨"com/example/pooler/pooler/pool/Backoff", "delay", "(J)J"⟩ : MethodName) prog_23_method_2_code 5 (some .long) :: ws) ({ frames := 2, cells := 0, slots := 0, locals := 34 } : Room)) (fun a U => a = #[(.ref bt), (.long bn)] ∧ Z.Warmed39 U.vm ∧ U.heap = h0) (fun _ _ _ _ _ => True) (fun _ U o U' => ∃ v L, o = .returned v ∧ Qde6 Z bt bn be h0 n0 v U'.heap L ∧ FrameEnd U o U' L ({ frames := 2, cells := 0, slots := 0, locals := 34 } : Room).cells ({ frames := 2, cells := 0, slots := 0, locals := 34 } : Room).slots) := by
  refine MetFree.of_bodySF (plainFor_of_name own_pn_com_example_pooler_pooler_pool_Backoff) hisR ?_
  intro p e s m args below meth c s₁ Bd hml0 hP hK
  obtain ⟨rfl, hZ, hh⟩ := hP
  have hx := Bd.exec
  have hby := Bd.bytes
  have hml : c.maxLocals = 5 := hml0
  have hlk := Bd.notSynchronized
  have hown : s.vm.findClass "com/example/pooler/pooler/pool/Backoff" = some m.cls := findClass_of_methodNamed Bd.named
  have hnm := (name_of_methodNamed Bd.named Bd.method).1
  have X0 : Stand p l e ({ frames := 2, cells := 0, slots := 0, locals := 34 } : Room) s m #[(.ref bt), (.long bn)] below meth c s₁ [] 0 0 := Stand.of_body Bd
  have e0 : s₁.heap = h0 := by rw [← hh, Bd.state]; rfl
  have N0 := Fr.nil n0
  refine own_enter (Q := Qde6 Z bt bn be h0 n0) (Ls := #[.val (.ref bt), .val (.long bn), .second, .unset, .unset]) (by first | (simp [entryFrame, mkF, argsToLocals, Value.category]; done) | rfl) ?_
  refine own_lconst X0 hx 1 rfl (0 : Int64) (hb hby own_d3_0) (by decide) ?_
  refine own_lstoreN X0 hx 2 rfl #[.val (.ref bt), .val (.long bn), .second, .val (.long (0 : Int64)), .second] (hb hby own_d3_1) rfl ?_
  refine own_aloadN X0 hx 3 rfl (hb hby own_d3_2) rfl rfl ?_
  obtain ⟨T1, X1, e1, st1⟩ := getF X0 hx hZ hown (host := "") (Or.inl (hw _ (List.mem_of_getElem? (i := 14) rfl))) Via.refl e0 Ft (g := (mkF m 3 #[.val (.ref bt), .val (.long bn), .second, .val (.long (0 : Int64)), .second] [(.ref bt)])) rfl rfl (hb hby own_d3_3)
  refine Goes.go st1 ?_
  show Goes p e below s _ _ _ T1 (mkF m 6 #[.val (.ref bt), .val (.long bn), .second, .val (.long (0 : Int64)), .second] [(.int (1 : Int32))])
  refine own_ifN X1 hx 9 (hb hby own_d3_6) ((if0 _ _).trans (feq ((by decide) : ¬ ((1 : Int32) = (0 : Int32)))).1) rfl ?_
  refine own_lconst X1 hx 10 rfl (0 : Int64) (hb hby own_d3_9) (by decide) ?_
  refine own_aloadN X1 hx 11 rfl (hb hby own_d3_10) rfl rfl ?_
  obtain ⟨T2, X2, e2, st2⟩ := getF X1 hx hZ hown (host := "") (Or.inl (hw _ (List.mem_of_getElem? (i := 29) rfl))) Via.refl e1 Fe (g := (mkF m 11 #[.val (.ref bt), .val (.long bn), .second, .val (.long (0 : Int64)), .second] [(.ref bt), (.long (0 : Int64))])) rfl rfl (hb hby own_d3_11)
  refine Goes.go st2 ?_
  show Goes p e below s _ _ _ T2 (mkF m 14 #[.val (.ref bt), .val (.long bn), .second, .val (.long (0 : Int64)), .second] [(.long be), (.long (0 : Int64))])
  refine own_aloadN X2 hx 15 rfl (hb hby own_d3_14) rfl rfl ?_
  obtain ⟨cq3, q3, q3'⟩ := EB.cell
  obtain ⟨_, _, ⟨T3, L3, k3, n3⟩, -, X3, ⟨Lc3, hQ3, l3, y3, z3⟩, st3⟩ := X2.privateBack hx (y := (⟨"com/example/pooler/pooler/pool/Backoff", "pause", "()J"⟩ : MethodName)) hown (mvT hZ (hw _ (List.mem_of_getElem? (i := 33) rfl))) (mvT hZ (hw _ (List.mem_of_getElem? (i := 34) rfl))) (own_selP (mvT hZ (hw _ (List.mem_of_getElem? (i := 1) rfl))) (mvP hZ (hw _ (List.mem_of_getElem? (i := 35) rfl))) (mvT hZ (hw _ (List.mem_of_getElem? (i := 34) rfl))) (by decide)) (Cond.privateMethod_at (mvP hZ (hw _ (List.mem_of_getElem? (i := 35) rfl)) (args := #[]))) (mvT hZ (hw _ (List.mem_of_getElem? (i := 36) rfl))) (by decide) (backOf (W := 4) (rmpa6 l Z a0 hw [] bt h0 n0 Z0 Ss Sl Ff) hZ (hw _ (List.mem_of_getElem? (i := 36) rfl)) (hw _ (List.mem_of_getElem? (i := 2) rfl)) (by decide) (by decide)) (g := (mkF m 15 #[.val (.ref bt), .val (.long bn), .second, .val (.long (0 : Int64)), .second] [(.ref bt), (.long be), (.long (0 : Int64))])) rfl (by rw [hml]; rfl) (Steps.refl _) (a := bt) (by rw [e2]; exact q3) q3' (argsL := []) (rest := [(.long be), (.long (0 : Int64))]) (lenOf own_pd2 rfl) rfl (by show 2 * 0 + _ ≤ _; exact Nat.le_of_eq rfl) (hb hby own_d3_15) (fun _ _ => ⟨rfl, e2, (by decide : 0 + 0 ≤ _), (by decide : 0 + 0 ≤ _)⟩)
  dsimp only [Pt.U, Pt.locs, Pt.cells, Pt.slots] at X3 l3 y3 z3 st3 hQ3
  subst l3 y3 z3
  obtain ⟨rfl, N3q, eh3⟩ := hQ3
  have N3 := Fr.app N0 N3q
  refine Goes.tr st3 ?_
  show Goes p e below s _ _ _ T3 (mkF m 18 #[.val (.ref bt), .val (.long bn), .second, .val (.long (0 : Int64)), .second] [(.long (1000000000 : Int64)), (.long be), (.long (0 : Int64))])
  refine own_ladd X3 hx 19 rfl (hb hby own_d3_18) rfl ?_
  refine own_lloadN X3 hx 20 rfl (hb hby own_d3_19) rfl ?_
  refine own_lsub X3 hx 21 rfl (hb hby own_d3_20) rfl ?_
  obtain ⟨_, _, ⟨T4, L4, k4, n4⟩, -, X4, ⟨Lc4, hQ4, l4, y4, z4⟩, st4⟩ := Jvm.LawKit.callS X3 hx (y := (⟨"java/lang/Math", "max", "(JJ)J"⟩ : MethodName)) hown (mvT hZ (hw _ (List.mem_of_getElem? (i := 45) rfl))) (mvT hZ (hw _ (List.mem_of_getElem? (i := 46) rfl))) (mvT hZ (hw _ (List.mem_of_getElem? (i := 43) rfl))) (mvT hZ (hw _ (List.mem_of_getElem? (i := 47) rfl))) (by decide) (backOf (W := 0) (rm9 l Z a0 hw [] (0 : Int64) ((be + (1000000000 : Int64)) - bn) h0 n0 Z0 ) hZ (hw _ (List.mem_of_getElem? (i := 47) rfl)) (hw _ (List.mem_of_getElem? (i := 43) rfl)) (by decide) (by decide)) (g := (mkF m 21 #[.val (.ref bt), .val (.long bn), .second, .val (.long (0 : Int64)), .second] [(.long ((be + (1000000000 : Int64)) - bn)), (.long (0 : Int64))])) rfl (by rw [hml]; rfl) (argsL := [(.long (0 : Int64)), (.long ((be + (1000000000 : Int64)) - bn))]) (rest := []) (lenOf own_pd1 rfl) rfl (by show 2 * 0 + _ ≤ _; exact Nat.le_of_eq rfl) (hb hby own_d3_21) (fun _ _ => ⟨rfl, eh3, (by decide : 0 + 0 ≤ _), (by decide : 0 + 0 ≤ _)⟩)
  dsimp only [Pt.U, Pt.locs, Pt.cells, Pt.slots] at X4 l4 y4 z4 st4 hQ4
  subst l4 y4 z4
  obtain ⟨mr_4, rfl, N4q, eh4, pr4_0⟩ := hQ4
  have N4 := Fr.app N3 N4q
  refine Goes.go st4 ?_
  show Goes p e below s _ _ _ T4 (mkF m 24 #[.val (.ref bt), .val (.long bn), .second, .val (.long (0 : Int64)), .second] [(.long mr_4)])
  refine own_lstoreN X4 hx 25 rfl #[.val (.ref bt), .val (.long bn), .second, .val (.long mr_4), .second] (hb hby own_d3_24) rfl ?_
  refine own_lloadN X4 hx 26 rfl (hb hby own_d3_25) rfl ?_
  refine own_retJ X4 hx hlk Bd.returns (hb hby own_d3_26) (by decide) (by decide) eh4 ?_
  exact ⟨mr_4, rfl, N4, rfl, pr4_0⟩
def Qpa7 (Z : State) (bt : Addr) (h0 : Heap) (n0 : Nat) (v : Option Value) (h : Heap) (L : List Loc) : Prop := v = some (.long (1000000000 : Int64)) ∧ Fr n0 L ∧ h = h0
set_option maxRecDepth 65536 in
set_option maxHeartbeats 40000000 in
theorem rmpa7 (l : Launch) (Z : State) (a0 : Array Value) (hw : ∀ d ∈ tables_1, d.before a0 Z = true) (ws : List Jvm.Cond) (bt : Addr) (h0 : Heap) (n0 : Nat) (Z0 : n0 ≤ h0.size) (Ss : Sta Z h0 "com/example/pooler/pooler/pool/Backoff" "SHORTEST" "J" (.long (100000000 : Int64))) (Sl : Sta Z h0 "com/example/pooler/pooler/pool/Backoff" "LONGEST" "J" (.long (1000000000 : Int64))) (Ff : Fld Z h0 bt "com/example/pooler/pooler/pool/Backoff" "failuresInARow" "I" (.int (7 : Int32))) :
    MetFree l (⟨"com/example/pooler/pooler/pool/Backoff", "pause", "()J"⟩ : MethodName) (head1 (Jvm.Cond.code (⟨"com/example/pooler/pooler/pool/Backoff", "pause", "()J"⟩ : MethodName) prog_23_method_6_code 4 (some .long) :: ws) ({ frames := 1, cells := 0, slots := 0, locals := 15 } : Room)) (fun a U => a = #[(.ref bt)] ∧ Z.Warmed39 U.vm ∧ U.heap = h0) (fun _ _ _ _ _ => True) (fun _ U o U' => ∃ v L, o = .returned v ∧ Qpa7 Z bt h0 n0 v U'.heap L ∧ FrameEnd U o U' L ({ frames := 1, cells := 0, slots := 0, locals := 15 } : Room).cells ({ frames := 1, cells := 0, slots := 0, locals := 15 } : Room).slots) := by
  refine MetFree.of_bodySF (plainFor_of_name own_pn_com_example_pooler_pooler_pool_Backoff) hisR ?_
  intro p e s m args below meth c s₁ Bd hml0 hP hK
  obtain ⟨rfl, hZ, hh⟩ := hP
  have hx := Bd.exec
  have hby := Bd.bytes
  have hml : c.maxLocals = 4 := hml0
  have hlk := Bd.notSynchronized
  have hown : s.vm.findClass "com/example/pooler/pooler/pool/Backoff" = some m.cls := findClass_of_methodNamed Bd.named
  have hnm := (name_of_methodNamed Bd.named Bd.method).1
  have X0 : Stand p l e ({ frames := 1, cells := 0, slots := 0, locals := 15 } : Room) s m #[(.ref bt)] below meth c s₁ [] 0 0 := Stand.of_body Bd
  have e0 : s₁.heap = h0 := by rw [← hh, Bd.state]; rfl
  have N0 := Fr.nil n0
  refine own_enter (Q := Qpa7 Z bt h0 n0) (Ls := #[.val (.ref bt), .unset, .unset, .unset]) (by first | (simp [entryFrame, mkF, argsToLocals, Value.category]; done) | rfl) ?_
  obtain ⟨T1, X1, e1, st1⟩ := getS2 X0 hx hZ hown (host := "") (Or.inl (hw _ (List.mem_of_getElem? (i := 37) rfl))) Via.refl e0 Ss (g := (mkF m 0 #[.val (.ref bt), .unset, .unset, .unset] [])) rfl (hb hby own_d7_0)
  refine Goes.go st1 ?_
  show Goes p e below s _ _ _ T1 (mkF m 3 #[.val (.ref bt), .unset, .unset, .unset] [(.long (100000000 : Int64))])
  refine own_lstoreN X1 hx 4 rfl #[.val (.ref bt), .val (.long (100000000 : Int64)), .second, .unset] (hb hby own_d7_3) rfl ?_
  refine own_iconst X1 hx 5 rfl (1 : Int32) (hb hby own_d7_4) (by decide) ?_
  refine own_istoreN X1 hx 6 rfl #[.val (.ref bt), .val (.long (100000000 : Int64)), .second, .val (.int (1 : Int32))] (hb hby own_d7_5) rfl ?_
  refine own_iloadN X1 hx 7 rfl (hb hby own_d7_6) rfl ?_
  refine own_aloadN X1 hx 8 rfl (hb hby own_d7_7) rfl rfl ?_
  obtain ⟨T2, X2, e2, st2⟩ := getF X1 hx hZ hown (host := "") (Or.inl (hw _ (List.mem_of_getElem? (i := 31) rfl))) Via.refl e1 Ff (g := (mkF m 8 #[.val (.ref bt), .val (.long (100000000 : Int64)), .second, .val (.int (1 : Int32))] [(.ref bt), (.int (1 : Int32))])) rfl rfl (hb hby own_d7_8)
  refine Goes.go st2 ?_
  show Goes p e below s _ _ _ T2 (mkF m 11 #[.val (.ref bt), .val (.long (100000000 : Int64)), .second, .val (.int (1 : Int32))] [(.int (7 : Int32)), (.int (1 : Int32))])
  refine own_icmpN X2 hx 14 (hb hby own_d7_11) (tlt ((by decide) : (1 : Int32) < (7 : Int32))).2.1 rfl ?_
  refine own_lloadN X2 hx 15 rfl (hb hby own_d7_14) rfl ?_
  obtain ⟨T3, X3, e3, st3⟩ := getS2 X2 hx hZ hown (host := "") (Or.inl (hw _ (List.mem_of_getElem? (i := 39) rfl))) Via.refl e2 Sl (g := (mkF m 15 #[.val (.ref bt), .val (.long (100000000 : Int64)), .second, .val (.int (1 : Int32))] [(.long (100000000 : Int64))])) rfl (hb hby own_d7_15)
  refine Goes.go st3 ?_
  show Goes p e below s _ _ _ T3 (mkF m 18 #[.val (.ref bt), .val (.long (100000000 : Int64)), .second, .val (.int (1 : Int32))] [(.long (1000000000 : Int64)), (.long (100000000 : Int64))])
  refine own_lcmp X3 hx 19 rfl (hb hby own_d7_18) ?_
  refine own_ifN X3 hx 22 (hb hby own_d7_19) (Ltlt ((by decide) : (100000000 : Int64) < (1000000000 : Int64))).2.1 rfl ?_
  refine own_lloadN X3 hx 23 rfl (hb hby own_d7_22) rfl ?_
  refine Goes.go (X3.ldc2Long hx hown (mvT hZ (hw _ (List.mem_of_getElem? (i := 53) rfl))) (g := (mkF m 23 #[.val (.ref bt), .val (.long (100000000 : Int64)), .second, .val (.int (1 : Int32))] [(.long (100000000 : Int64))])) rfl (hb hby own_d7_23)) ?_
  show Goes p e below s _ _ _ T3 (mkF m 26 #[.val (.ref bt), .val (.long (100000000 : Int64)), .second, .val (.int (1 : Int32))] [(.long (2 : Int64)), (.long (100000000 : Int64))])
  refine own_lmul X3 hx 27 rfl (z := (200000000 : Int64)) (hb hby own_d7_26) (by decide) ?_
  refine own_lstoreN X3 hx 28 rfl #[.val (.ref bt), .val (.long (200000000 : Int64)), .second, .val (.int (1 : Int32))] (hb hby own_d7_27) rfl ?_
  refine own_iinc X3 hx 31 rfl #[.val (.ref bt), .val (.long (200000000 : Int64)), .second, .val (.int (2 : Int32))] (hb hby own_d7_28) rfl (by decide) rfl ?_
  refine own_goto X3 hx 6 (hb hby own_d7_31) (by decide) (by decide) ?_
  refine own_iloadN X3 hx 7 rfl (hb hby own_d7_6) rfl ?_
  refine own_aloadN X3 hx 8 rfl (hb hby own_d7_7) rfl rfl ?_
  obtain ⟨T4, X4, e4, st4⟩ := getF X3 hx hZ hown (host := "") (Or.inl (hw _ (List.mem_of_getElem? (i := 31) rfl))) Via.refl e3 Ff (g := (mkF m 8 #[.val (.ref bt), .val (.long (200000000 : Int64)), .second, .val (.int (2 : Int32))] [(.ref bt), (.int (2 : Int32))])) rfl rfl (hb hby own_d7_8)
  refine Goes.go st4 ?_
  show Goes p e below s _ _ _ T4 (mkF m 11 #[.val (.ref bt), .val (.long (200000000 : Int64)), .second, .val (.int (2 : Int32))] [(.int (7 : Int32)), (.int (2 : Int32))])
  refine own_icmpN X4 hx 14 (hb hby own_d7_11) (tlt ((by decide) : (2 : Int32) < (7 : Int32))).2.1 rfl ?_
  refine own_lloadN X4 hx 15 rfl (hb hby own_d7_14) rfl ?_
  obtain ⟨T5, X5, e5, st5⟩ := getS2 X4 hx hZ hown (host := "") (Or.inl (hw _ (List.mem_of_getElem? (i := 39) rfl))) Via.refl e4 Sl (g := (mkF m 15 #[.val (.ref bt), .val (.long (200000000 : Int64)), .second, .val (.int (2 : Int32))] [(.long (200000000 : Int64))])) rfl (hb hby own_d7_15)
  refine Goes.go st5 ?_
  show Goes p e below s _ _ _ T5 (mkF m 18 #[.val (.ref bt), .val (.long (200000000 : Int64)), .second, .val (.int (2 : Int32))] [(.long (1000000000 : Int64)), (.long (200000000 : Int64))])
  refine own_lcmp X5 hx 19 rfl (hb hby own_d7_18) ?_
  refine own_ifN X5 hx 22 (hb hby own_d7_19) (Ltlt ((by decide) : (200000000 : Int64) < (1000000000 : Int64))).2.1 rfl ?_
  refine own_lloadN X5 hx 23 rfl (hb hby own_d7_22) rfl ?_
  refine Goes.go (X5.ldc2Long hx hown (mvT hZ (hw _ (List.mem_of_getElem? (i := 53) rfl))) (g := (mkF m 23 #[.val (.ref bt), .val (.long (200000000 : Int64)), .second, .val (.int (2 : Int32))] [(.long (200000000 : Int64))])) rfl (hb hby own_d7_23)) ?_
  show Goes p e below s _ _ _ T5 (mkF m 26 #[.val (.ref bt), .val (.long (200000000 : Int64)), .second, .val (.int (2 : Int32))] [(.long (2 : Int64)), (.long (200000000 : Int64))])
  refine own_lmul X5 hx 27 rfl (z := (400000000 : Int64)) (hb hby own_d7_26) (by decide) ?_
  refine own_lstoreN X5 hx 28 rfl #[.val (.ref bt), .val (.long (400000000 : Int64)), .second, .val (.int (2 : Int32))] (hb hby own_d7_27) rfl ?_
  refine own_iinc X5 hx 31 rfl #[.val (.ref bt), .val (.long (400000000 : Int64)), .second, .val (.int (3 : Int32))] (hb hby own_d7_28) rfl (by decide) rfl ?_
  refine own_goto X5 hx 6 (hb hby own_d7_31) (by decide) (by decide) ?_
  refine own_iloadN X5 hx 7 rfl (hb hby own_d7_6) rfl ?_
  refine own_aloadN X5 hx 8 rfl (hb hby own_d7_7) rfl rfl ?_
  obtain ⟨T6, X6, e6, st6⟩ := getF X5 hx hZ hown (host := "") (Or.inl (hw _ (List.mem_of_getElem? (i := 31) rfl))) Via.refl e5 Ff (g := (mkF m 8 #[.val (.ref bt), .val (.long (400000000 : Int64)), .second, .val (.int (3 : Int32))] [(.ref bt), (.int (3 : Int32))])) rfl rfl (hb hby own_d7_8)
  refine Goes.go st6 ?_
  show Goes p e below s _ _ _ T6 (mkF m 11 #[.val (.ref bt), .val (.long (400000000 : Int64)), .second, .val (.int (3 : Int32))] [(.int (7 : Int32)), (.int (3 : Int32))])
  refine own_icmpN X6 hx 14 (hb hby own_d7_11) (tlt ((by decide) : (3 : Int32) < (7 : Int32))).2.1 rfl ?_
  refine own_lloadN X6 hx 15 rfl (hb hby own_d7_14) rfl ?_
  obtain ⟨T7, X7, e7, st7⟩ := getS2 X6 hx hZ hown (host := "") (Or.inl (hw _ (List.mem_of_getElem? (i := 39) rfl))) Via.refl e6 Sl (g := (mkF m 15 #[.val (.ref bt), .val (.long (400000000 : Int64)), .second, .val (.int (3 : Int32))] [(.long (400000000 : Int64))])) rfl (hb hby own_d7_15)
  refine Goes.go st7 ?_
  show Goes p e below s _ _ _ T7 (mkF m 18 #[.val (.ref bt), .val (.long (400000000 : Int64)), .second, .val (.int (3 : Int32))] [(.long (1000000000 : Int64)), (.long (400000000 : Int64))])
  refine own_lcmp X7 hx 19 rfl (hb hby own_d7_18) ?_
  refine own_ifN X7 hx 22 (hb hby own_d7_19) (Ltlt ((by decide) : (400000000 : Int64) < (1000000000 : Int64))).2.1 rfl ?_
  refine own_lloadN X7 hx 23 rfl (hb hby own_d7_22) rfl ?_
  refine Goes.go (X7.ldc2Long hx hown (mvT hZ (hw _ (List.mem_of_getElem? (i := 53) rfl))) (g := (mkF m 23 #[.val (.ref bt), .val (.long (400000000 : Int64)), .second, .val (.int (3 : Int32))] [(.long (400000000 : Int64))])) rfl (hb hby own_d7_23)) ?_
  show Goes p e below s _ _ _ T7 (mkF m 26 #[.val (.ref bt), .val (.long (400000000 : Int64)), .second, .val (.int (3 : Int32))] [(.long (2 : Int64)), (.long (400000000 : Int64))])
  refine own_lmul X7 hx 27 rfl (z := (800000000 : Int64)) (hb hby own_d7_26) (by decide) ?_
  refine own_lstoreN X7 hx 28 rfl #[.val (.ref bt), .val (.long (800000000 : Int64)), .second, .val (.int (3 : Int32))] (hb hby own_d7_27) rfl ?_
  refine own_iinc X7 hx 31 rfl #[.val (.ref bt), .val (.long (800000000 : Int64)), .second, .val (.int (4 : Int32))] (hb hby own_d7_28) rfl (by decide) rfl ?_
  refine own_goto X7 hx 6 (hb hby own_d7_31) (by decide) (by decide) ?_
  refine own_iloadN X7 hx 7 rfl (hb hby own_d7_6) rfl ?_
  refine own_aloadN X7 hx 8 rfl (hb hby own_d7_7) rfl rfl ?_
  obtain ⟨T8, X8, e8, st8⟩ := getF X7 hx hZ hown (host := "") (Or.inl (hw _ (List.mem_of_getElem? (i := 31) rfl))) Via.refl e7 Ff (g := (mkF m 8 #[.val (.ref bt), .val (.long (800000000 : Int64)), .second, .val (.int (4 : Int32))] [(.ref bt), (.int (4 : Int32))])) rfl rfl (hb hby own_d7_8)
  refine Goes.go st8 ?_
  show Goes p e below s _ _ _ T8 (mkF m 11 #[.val (.ref bt), .val (.long (800000000 : Int64)), .second, .val (.int (4 : Int32))] [(.int (7 : Int32)), (.int (4 : Int32))])
  refine own_icmpN X8 hx 14 (hb hby own_d7_11) (tlt ((by decide) : (4 : Int32) < (7 : Int32))).2.1 rfl ?_
  refine own_lloadN X8 hx 15 rfl (hb hby own_d7_14) rfl ?_
  obtain ⟨T9, X9, e9, st9⟩ := getS2 X8 hx hZ hown (host := "") (Or.inl (hw _ (List.mem_of_getElem? (i := 39) rfl))) Via.refl e8 Sl (g := (mkF m 15 #[.val (.ref bt), .val (.long (800000000 : Int64)), .second, .val (.int (4 : Int32))] [(.long (800000000 : Int64))])) rfl (hb hby own_d7_15)
  refine Goes.go st9 ?_
  show Goes p e below s _ _ _ T9 (mkF m 18 #[.val (.ref bt), .val (.long (800000000 : Int64)), .second, .val (.int (4 : Int32))] [(.long (1000000000 : Int64)), (.long (800000000 : Int64))])
  refine own_lcmp X9 hx 19 rfl (hb hby own_d7_18) ?_
  refine own_ifN X9 hx 22 (hb hby own_d7_19) (Ltlt ((by decide) : (800000000 : Int64) < (1000000000 : Int64))).2.1 rfl ?_
  refine own_lloadN X9 hx 23 rfl (hb hby own_d7_22) rfl ?_
  refine Goes.go (X9.ldc2Long hx hown (mvT hZ (hw _ (List.mem_of_getElem? (i := 53) rfl))) (g := (mkF m 23 #[.val (.ref bt), .val (.long (800000000 : Int64)), .second, .val (.int (4 : Int32))] [(.long (800000000 : Int64))])) rfl (hb hby own_d7_23)) ?_
  show Goes p e below s _ _ _ T9 (mkF m 26 #[.val (.ref bt), .val (.long (800000000 : Int64)), .second, .val (.int (4 : Int32))] [(.long (2 : Int64)), (.long (800000000 : Int64))])
  refine own_lmul X9 hx 27 rfl (z := (1600000000 : Int64)) (hb hby own_d7_26) (by decide) ?_
  refine own_lstoreN X9 hx 28 rfl #[.val (.ref bt), .val (.long (1600000000 : Int64)), .second, .val (.int (4 : Int32))] (hb hby own_d7_27) rfl ?_
  refine own_iinc X9 hx 31 rfl #[.val (.ref bt), .val (.long (1600000000 : Int64)), .second, .val (.int (5 : Int32))] (hb hby own_d7_28) rfl (by decide) rfl ?_
  refine own_goto X9 hx 6 (hb hby own_d7_31) (by decide) (by decide) ?_
  refine own_iloadN X9 hx 7 rfl (hb hby own_d7_6) rfl ?_
  refine own_aloadN X9 hx 8 rfl (hb hby own_d7_7) rfl rfl ?_
  obtain ⟨T10, X10, e10, st10⟩ := getF X9 hx hZ hown (host := "") (Or.inl (hw _ (List.mem_of_getElem? (i := 31) rfl))) Via.refl e9 Ff (g := (mkF m 8 #[.val (.ref bt), .val (.long (1600000000 : Int64)), .second, .val (.int (5 : Int32))] [(.ref bt), (.int (5 : Int32))])) rfl rfl (hb hby own_d7_8)
  refine Goes.go st10 ?_
  show Goes p e below s _ _ _ T10 (mkF m 11 #[.val (.ref bt), .val (.long (1600000000 : Int64)), .second, .val (.int (5 : Int32))] [(.int (7 : Int32)), (.int (5 : Int32))])
  refine own_icmpN X10 hx 14 (hb hby own_d7_11) (tlt ((by decide) : (5 : Int32) < (7 : Int32))).2.1 rfl ?_
  refine own_lloadN X10 hx 15 rfl (hb hby own_d7_14) rfl ?_
  obtain ⟨T11, X11, e11, st11⟩ := getS2 X10 hx hZ hown (host := "") (Or.inl (hw _ (List.mem_of_getElem? (i := 39) rfl))) Via.refl e10 Sl (g := (mkF m 15 #[.val (.ref bt), .val (.long (1600000000 : Int64)), .second, .val (.int (5 : Int32))] [(.long (1600000000 : Int64))])) rfl (hb hby own_d7_15)
  refine Goes.go st11 ?_
  show Goes p e below s _ _ _ T11 (mkF m 18 #[.val (.ref bt), .val (.long (1600000000 : Int64)), .second, .val (.int (5 : Int32))] [(.long (1000000000 : Int64)), (.long (1600000000 : Int64))])
  refine own_lcmp X11 hx 19 rfl (hb hby own_d7_18) ?_
  refine own_ifY X11 hx 34 (hb hby own_d7_19) (Lflt ((by decide) : ¬ ((1600000000 : Int64) < (1000000000 : Int64)))).2.1 (by decide) (by decide) ?_
  refine own_lloadN X11 hx 35 rfl (hb hby own_d7_34) rfl ?_
  obtain ⟨T12, X12, e12, st12⟩ := getS2 X11 hx hZ hown (host := "") (Or.inl (hw _ (List.mem_of_getElem? (i := 39) rfl))) Via.refl e11 Sl (g := (mkF m 35 #[.val (.ref bt), .val (.long (1600000000 : Int64)), .second, .val (.int (5 : Int32))] [(.long (1600000000 : Int64))])) rfl (hb hby own_d7_35)
  refine Goes.go st12 ?_
  show Goes p e below s _ _ _ T12 (mkF m 38 #[.val (.ref bt), .val (.long (1600000000 : Int64)), .second, .val (.int (5 : Int32))] [(.long (1000000000 : Int64)), (.long (1600000000 : Int64))])
  obtain ⟨_, _, ⟨T13, L13, k13, n13⟩, -, X13, ⟨Lc13, hQ13, l13, y13, z13⟩, st13⟩ := Jvm.LawKit.callS X12 hx (y := (⟨"java/lang/Math", "min", "(JJ)J"⟩ : MethodName)) hown (mvT hZ (hw _ (List.mem_of_getElem? (i := 41) rfl))) (mvT hZ (hw _ (List.mem_of_getElem? (i := 42) rfl))) (mvT hZ (hw _ (List.mem_of_getElem? (i := 43) rfl))) (mvT hZ (hw _ (List.mem_of_getElem? (i := 44) rfl))) (by decide) (backOf (W := 0) (rmmi1600000000 l Z a0 hw []  h0 n0 Z0 ) hZ (hw _ (List.mem_of_getElem? (i := 44) rfl)) (hw _ (List.mem_of_getElem? (i := 43) rfl)) (by decide) (by decide)) (g := (mkF m 38 #[.val (.ref bt), .val (.long (1600000000 : Int64)), .second, .val (.int (5 : Int32))] [(.long (1000000000 : Int64)), (.long (1600000000 : Int64))])) rfl (by rw [hml]; rfl) (argsL := [(.long (1600000000 : Int64)), (.long (1000000000 : Int64))]) (rest := []) (lenOf own_pd1 rfl) rfl (by show 2 * 0 + _ ≤ _; exact Nat.le_of_eq rfl) (hb hby own_d7_38) (fun _ _ => ⟨rfl, e12, (by decide : 0 + 0 ≤ _), (by decide : 0 + 0 ≤ _)⟩)
  dsimp only [Pt.U, Pt.locs, Pt.cells, Pt.slots] at X13 l13 y13 z13 st13 hQ13
  subst l13 y13 z13
  obtain ⟨rfl, N13q, eh13⟩ := hQ13
  have N13 := Fr.app N0 N13q
  refine Goes.go st13 ?_
  show Goes p e below s _ _ _ T13 (mkF m 41 #[.val (.ref bt), .val (.long (1600000000 : Int64)), .second, .val (.int (5 : Int32))] [(.long (1000000000 : Int64))])
  refine own_retJ X13 hx hlk Bd.returns (hb hby own_d7_41) (by decide) (by decide) eh13 ?_
  exact ⟨rfl, N13, rfl⟩
def Qde7 (Z : State) (bt : Addr) (bn : Int64) (be : Int64) (h0 : Heap) (n0 : Nat) (v : Option Value) (h : Heap) (L : List Loc) : Prop := ∃ br : Int64, v = some (.long br) ∧ Fr n0 L ∧ h = h0 ∧ ((br = ((be + (1000000000 : Int64)) - bn) ∧ (0 : Int64) < ((be + (1000000000 : Int64)) - bn)) ∨ (br = (0 : Int64) ∧ ¬ (0 : Int64) < ((be + (1000000000 : Int64)) - bn)))
set_option maxRecDepth 65536 in
set_option maxHeartbeats 40000000 in
theorem rmde7 (l : Launch) (Z : State) (a0 : Array Value) (hw : ∀ d ∈ tables_1, d.before a0 Z = true) (ws : List Jvm.Cond) (bt : Addr) (bn : Int64) (be : Int64) (h0 : Heap) (n0 : Nat) (Z0 : n0 ≤ h0.size) (EB : Exa Z h0 bt "com/example/pooler/pooler/pool/Backoff") (Ss : Sta Z h0 "com/example/pooler/pooler/pool/Backoff" "SHORTEST" "J" (.long (100000000 : Int64))) (Sl : Sta Z h0 "com/example/pooler/pooler/pool/Backoff" "LONGEST" "J" (.long (1000000000 : Int64))) (Ft : Fld Z h0 bt "com/example/pooler/pooler/pool/Backoff" "tried" "Z" (.int (1 : Int32))) (Fe : Fld Z h0 bt "com/example/pooler/pooler/pool/Backoff" "endedAt" "J" (.long be)) (Ff : Fld Z h0 bt "com/example/pooler/pooler/pool/Backoff" "failuresInARow" "I" (.int (7 : Int32))) :
    MetFree l (⟨"com/example/pooler/pooler/pool/Backoff", "delay", "(J)J"⟩ : MethodName) (head1 (Jvm.Cond.code (⟨"com/example/pooler/pooler/pool/Backoff", "delay", "(J)J"⟩ : MethodName) prog_23_method_2_code 5 (some .long) :: ws) ({ frames := 2, cells := 0, slots := 0, locals := 34 } : Room)) (fun a U => a = #[(.ref bt), (.long bn)] ∧ Z.Warmed39 U.vm ∧ U.heap = h0) (fun _ _ _ _ _ => True) (fun _ U o U' => ∃ v L, o = .returned v ∧ Qde7 Z bt bn be h0 n0 v U'.heap L ∧ FrameEnd U o U' L ({ frames := 2, cells := 0, slots := 0, locals := 34 } : Room).cells ({ frames := 2, cells := 0, slots := 0, locals := 34 } : Room).slots) := by
  refine MetFree.of_bodySF (plainFor_of_name own_pn_com_example_pooler_pooler_pool_Backoff) hisR ?_
  intro p e s m args below meth c s₁ Bd hml0 hP hK
  obtain ⟨rfl, hZ, hh⟩ := hP
  have hx := Bd.exec
  have hby := Bd.bytes
  have hml : c.maxLocals = 5 := hml0
  have hlk := Bd.notSynchronized
  have hown : s.vm.findClass "com/example/pooler/pooler/pool/Backoff" = some m.cls := findClass_of_methodNamed Bd.named
  have hnm := (name_of_methodNamed Bd.named Bd.method).1
  have X0 : Stand p l e ({ frames := 2, cells := 0, slots := 0, locals := 34 } : Room) s m #[(.ref bt), (.long bn)] below meth c s₁ [] 0 0 := Stand.of_body Bd
  have e0 : s₁.heap = h0 := by rw [← hh, Bd.state]; rfl
  have N0 := Fr.nil n0
  refine own_enter (Q := Qde7 Z bt bn be h0 n0) (Ls := #[.val (.ref bt), .val (.long bn), .second, .unset, .unset]) (by first | (simp [entryFrame, mkF, argsToLocals, Value.category]; done) | rfl) ?_
  refine own_lconst X0 hx 1 rfl (0 : Int64) (hb hby own_d3_0) (by decide) ?_
  refine own_lstoreN X0 hx 2 rfl #[.val (.ref bt), .val (.long bn), .second, .val (.long (0 : Int64)), .second] (hb hby own_d3_1) rfl ?_
  refine own_aloadN X0 hx 3 rfl (hb hby own_d3_2) rfl rfl ?_
  obtain ⟨T1, X1, e1, st1⟩ := getF X0 hx hZ hown (host := "") (Or.inl (hw _ (List.mem_of_getElem? (i := 14) rfl))) Via.refl e0 Ft (g := (mkF m 3 #[.val (.ref bt), .val (.long bn), .second, .val (.long (0 : Int64)), .second] [(.ref bt)])) rfl rfl (hb hby own_d3_3)
  refine Goes.go st1 ?_
  show Goes p e below s _ _ _ T1 (mkF m 6 #[.val (.ref bt), .val (.long bn), .second, .val (.long (0 : Int64)), .second] [(.int (1 : Int32))])
  refine own_ifN X1 hx 9 (hb hby own_d3_6) ((if0 _ _).trans (feq ((by decide) : ¬ ((1 : Int32) = (0 : Int32)))).1) rfl ?_
  refine own_lconst X1 hx 10 rfl (0 : Int64) (hb hby own_d3_9) (by decide) ?_
  refine own_aloadN X1 hx 11 rfl (hb hby own_d3_10) rfl rfl ?_
  obtain ⟨T2, X2, e2, st2⟩ := getF X1 hx hZ hown (host := "") (Or.inl (hw _ (List.mem_of_getElem? (i := 29) rfl))) Via.refl e1 Fe (g := (mkF m 11 #[.val (.ref bt), .val (.long bn), .second, .val (.long (0 : Int64)), .second] [(.ref bt), (.long (0 : Int64))])) rfl rfl (hb hby own_d3_11)
  refine Goes.go st2 ?_
  show Goes p e below s _ _ _ T2 (mkF m 14 #[.val (.ref bt), .val (.long bn), .second, .val (.long (0 : Int64)), .second] [(.long be), (.long (0 : Int64))])
  refine own_aloadN X2 hx 15 rfl (hb hby own_d3_14) rfl rfl ?_
  obtain ⟨cq3, q3, q3'⟩ := EB.cell
  obtain ⟨_, _, ⟨T3, L3, k3, n3⟩, -, X3, ⟨Lc3, hQ3, l3, y3, z3⟩, st3⟩ := X2.privateBack hx (y := (⟨"com/example/pooler/pooler/pool/Backoff", "pause", "()J"⟩ : MethodName)) hown (mvT hZ (hw _ (List.mem_of_getElem? (i := 33) rfl))) (mvT hZ (hw _ (List.mem_of_getElem? (i := 34) rfl))) (own_selP (mvT hZ (hw _ (List.mem_of_getElem? (i := 1) rfl))) (mvP hZ (hw _ (List.mem_of_getElem? (i := 35) rfl))) (mvT hZ (hw _ (List.mem_of_getElem? (i := 34) rfl))) (by decide)) (Cond.privateMethod_at (mvP hZ (hw _ (List.mem_of_getElem? (i := 35) rfl)) (args := #[]))) (mvT hZ (hw _ (List.mem_of_getElem? (i := 36) rfl))) (by decide) (backOf (W := 4) (rmpa7 l Z a0 hw [] bt h0 n0 Z0 Ss Sl Ff) hZ (hw _ (List.mem_of_getElem? (i := 36) rfl)) (hw _ (List.mem_of_getElem? (i := 2) rfl)) (by decide) (by decide)) (g := (mkF m 15 #[.val (.ref bt), .val (.long bn), .second, .val (.long (0 : Int64)), .second] [(.ref bt), (.long be), (.long (0 : Int64))])) rfl (by rw [hml]; rfl) (Steps.refl _) (a := bt) (by rw [e2]; exact q3) q3' (argsL := []) (rest := [(.long be), (.long (0 : Int64))]) (lenOf own_pd2 rfl) rfl (by show 2 * 0 + _ ≤ _; exact Nat.le_of_eq rfl) (hb hby own_d3_15) (fun _ _ => ⟨rfl, e2, (by decide : 0 + 0 ≤ _), (by decide : 0 + 0 ≤ _)⟩)
  dsimp only [Pt.U, Pt.locs, Pt.cells, Pt.slots] at X3 l3 y3 z3 st3 hQ3
  subst l3 y3 z3
  obtain ⟨rfl, N3q, eh3⟩ := hQ3
  have N3 := Fr.app N0 N3q
  refine Goes.tr st3 ?_
  show Goes p e below s _ _ _ T3 (mkF m 18 #[.val (.ref bt), .val (.long bn), .second, .val (.long (0 : Int64)), .second] [(.long (1000000000 : Int64)), (.long be), (.long (0 : Int64))])
  refine own_ladd X3 hx 19 rfl (hb hby own_d3_18) rfl ?_
  refine own_lloadN X3 hx 20 rfl (hb hby own_d3_19) rfl ?_
  refine own_lsub X3 hx 21 rfl (hb hby own_d3_20) rfl ?_
  obtain ⟨_, _, ⟨T4, L4, k4, n4⟩, -, X4, ⟨Lc4, hQ4, l4, y4, z4⟩, st4⟩ := Jvm.LawKit.callS X3 hx (y := (⟨"java/lang/Math", "max", "(JJ)J"⟩ : MethodName)) hown (mvT hZ (hw _ (List.mem_of_getElem? (i := 45) rfl))) (mvT hZ (hw _ (List.mem_of_getElem? (i := 46) rfl))) (mvT hZ (hw _ (List.mem_of_getElem? (i := 43) rfl))) (mvT hZ (hw _ (List.mem_of_getElem? (i := 47) rfl))) (by decide) (backOf (W := 0) (rm9 l Z a0 hw [] (0 : Int64) ((be + (1000000000 : Int64)) - bn) h0 n0 Z0 ) hZ (hw _ (List.mem_of_getElem? (i := 47) rfl)) (hw _ (List.mem_of_getElem? (i := 43) rfl)) (by decide) (by decide)) (g := (mkF m 21 #[.val (.ref bt), .val (.long bn), .second, .val (.long (0 : Int64)), .second] [(.long ((be + (1000000000 : Int64)) - bn)), (.long (0 : Int64))])) rfl (by rw [hml]; rfl) (argsL := [(.long (0 : Int64)), (.long ((be + (1000000000 : Int64)) - bn))]) (rest := []) (lenOf own_pd1 rfl) rfl (by show 2 * 0 + _ ≤ _; exact Nat.le_of_eq rfl) (hb hby own_d3_21) (fun _ _ => ⟨rfl, eh3, (by decide : 0 + 0 ≤ _), (by decide : 0 + 0 ≤ _)⟩)
  dsimp only [Pt.U, Pt.locs, Pt.cells, Pt.slots] at X4 l4 y4 z4 st4 hQ4
  subst l4 y4 z4
  obtain ⟨mr_4, rfl, N4q, eh4, pr4_0⟩ := hQ4
  have N4 := Fr.app N3 N4q
  refine Goes.go st4 ?_
  show Goes p e below s _ _ _ T4 (mkF m 24 #[.val (.ref bt), .val (.long bn), .second, .val (.long (0 : Int64)), .second] [(.long mr_4)])
  refine own_lstoreN X4 hx 25 rfl #[.val (.ref bt), .val (.long bn), .second, .val (.long mr_4), .second] (hb hby own_d3_24) rfl ?_
  refine own_lloadN X4 hx 26 rfl (hb hby own_d3_25) rfl ?_
  refine own_retJ X4 hx hlk Bd.returns (hb hby own_d3_26) (by decide) (by decide) eh4 ?_
  exact ⟨mr_4, rfl, N4, rfl, pr4_0⟩
def Qdz (Z : State) (bt : Addr) (bn : Int64) (h0 : Heap) (n0 : Nat) (v : Option Value) (h : Heap) (L : List Loc) : Prop := v = some (.long (0 : Int64)) ∧ Fr n0 L ∧ h = h0
set_option maxRecDepth 65536 in
set_option maxHeartbeats 40000000 in
theorem rmdz (l : Launch) (Z : State) (a0 : Array Value) (hw : ∀ d ∈ tables_1, d.before a0 Z = true) (ws : List Jvm.Cond) (bt : Addr) (bn : Int64) (h0 : Heap) (n0 : Nat) (Z0 : n0 ≤ h0.size) (Ft : Fld Z h0 bt "com/example/pooler/pooler/pool/Backoff" "tried" "Z" (.int (0 : Int32))) :
    MetFree l (⟨"com/example/pooler/pooler/pool/Backoff", "delay", "(J)J"⟩ : MethodName) (head1 (Jvm.Cond.code (⟨"com/example/pooler/pooler/pool/Backoff", "delay", "(J)J"⟩ : MethodName) prog_23_method_2_code 5 (some .long) :: ws) ({ frames := 0, cells := 0, slots := 0, locals := 0 } : Room)) (fun a U => a = #[(.ref bt), (.long bn)] ∧ Z.Warmed39 U.vm ∧ U.heap = h0) (fun _ _ _ _ _ => True) (fun _ U o U' => ∃ v L, o = .returned v ∧ Qdz Z bt bn h0 n0 v U'.heap L ∧ FrameEnd U o U' L ({ frames := 0, cells := 0, slots := 0, locals := 0 } : Room).cells ({ frames := 0, cells := 0, slots := 0, locals := 0 } : Room).slots) := by
  refine MetFree.of_bodySF (plainFor_of_name own_pn_com_example_pooler_pooler_pool_Backoff) hisR ?_
  intro p e s m args below meth c s₁ Bd hml0 hP hK
  obtain ⟨rfl, hZ, hh⟩ := hP
  have hx := Bd.exec
  have hby := Bd.bytes
  have hml : c.maxLocals = 5 := hml0
  have hlk := Bd.notSynchronized
  have hown : s.vm.findClass "com/example/pooler/pooler/pool/Backoff" = some m.cls := findClass_of_methodNamed Bd.named
  have hnm := (name_of_methodNamed Bd.named Bd.method).1
  have X0 : Stand p l e ({ frames := 0, cells := 0, slots := 0, locals := 0 } : Room) s m #[(.ref bt), (.long bn)] below meth c s₁ [] 0 0 := Stand.of_body Bd
  have e0 : s₁.heap = h0 := by rw [← hh, Bd.state]; rfl
  have N0 := Fr.nil n0
  refine own_enter (Q := Qdz Z bt bn h0 n0) (Ls := #[.val (.ref bt), .val (.long bn), .second, .unset, .unset]) (by first | (simp [entryFrame, mkF, argsToLocals, Value.category]; done) | rfl) ?_
  refine own_lconst X0 hx 1 rfl (0 : Int64) (hb hby own_d3_0) (by decide) ?_
  refine own_lstoreN X0 hx 2 rfl #[.val (.ref bt), .val (.long bn), .second, .val (.long (0 : Int64)), .second] (hb hby own_d3_1) rfl ?_
  refine own_aloadN X0 hx 3 rfl (hb hby own_d3_2) rfl rfl ?_
  obtain ⟨T1, X1, e1, st1⟩ := getF X0 hx hZ hown (host := "") (Or.inl (hw _ (List.mem_of_getElem? (i := 14) rfl))) Via.refl e0 Ft (g := (mkF m 3 #[.val (.ref bt), .val (.long bn), .second, .val (.long (0 : Int64)), .second] [(.ref bt)])) rfl rfl (hb hby own_d3_3)
  refine Goes.go st1 ?_
  show Goes p e below s _ _ _ T1 (mkF m 6 #[.val (.ref bt), .val (.long bn), .second, .val (.long (0 : Int64)), .second] [(.int (0 : Int32))])
  refine own_ifY X1 hx 25 (hb hby own_d3_6) ((if0 _ _).trans (teq ((by decide) : (0 : Int32) = (0 : Int32))).1) (by decide) (by decide) ?_
  refine own_lloadN X1 hx 26 rfl (hb hby own_d3_25) rfl ?_
  refine own_retJ X1 hx hlk Bd.returns (hb hby own_d3_26) (by decide) (by decide) e1 ?_
  exact ⟨rfl, N0, rfl⟩
theorem own_d4_0 : decode method_2_code 0 = .ok (.iload_n 0, 1) := by decide +kernel
theorem own_d4_1 : decode method_2_code 1 = .ok (.iload_n 1, 1) := by decide +kernel
theorem own_d4_2 : decode method_2_code 2 = .ok (.if_icmp .ne 8, 3) := by decide +kernel
theorem own_d4_5 : decode method_2_code 5 = .ok (.lload 4, 2) := by decide +kernel
theorem own_d4_7 : decode method_2_code 7 = .ok (.goto 4, 3) := by decide +kernel
theorem own_d4_10 : decode method_2_code 10 = .ok (.lload_n 2, 1) := by decide +kernel
theorem own_d4_11 : decode method_2_code 11 = .ok (.lreturn, 1) := by decide +kernel
theorem own_pn_com_example_pooler_pooler_pool_BackoffDelayPinLaw : plainName "com/example/pooler/pooler/pool/BackoffDelayPinLaw" = true := by first | (simp [plainName, overriddenIn]; done) | decide +kernel
def Q4 (Z : State) (ai : Int32) (al : Int32) (au : Int64) (ae : Int64) (h0 : Heap) (n0 : Nat) (v : Option Value) (h : Heap) (L : List Loc) : Prop := ∃ ar : Int64, v = some (.long ar) ∧ Fr n0 L ∧ h = h0 ∧ ((ar = ae ∧ ai = al) ∨ (ar = au ∧ ¬ ai = al))
set_option maxRecDepth 65536 in
set_option maxHeartbeats 40000000 in
theorem rm4 (l : Launch) (Z : State) (a0 : Array Value) (hw : ∀ d ∈ tables_1, d.before a0 Z = true) (ws : List Jvm.Cond) (ai : Int32) (al : Int32) (au : Int64) (ae : Int64) (h0 : Heap) (n0 : Nat) (Z0 : n0 ≤ h0.size)  :
    MetFree l (⟨"com/example/pooler/pooler/pool/BackoffDelayPinLaw", "at", "(IIJJ)J"⟩ : MethodName) (head1 (Jvm.Cond.code (⟨"com/example/pooler/pooler/pool/BackoffDelayPinLaw", "at", "(IIJJ)J"⟩ : MethodName) method_2_code 6 (some .long) :: ws) ({ frames := 0, cells := 0, slots := 0, locals := 0 } : Room)) (fun a U => a = #[(.int ai), (.int al), (.long au), (.long ae)] ∧ Z.Warmed39 U.vm ∧ U.heap = h0) (fun _ _ _ _ _ => True) (fun _ U o U' => ∃ v L, o = .returned v ∧ Q4 Z ai al au ae h0 n0 v U'.heap L ∧ FrameEnd U o U' L ({ frames := 0, cells := 0, slots := 0, locals := 0 } : Room).cells ({ frames := 0, cells := 0, slots := 0, locals := 0 } : Room).slots) := by
  refine MetFree.of_bodySF (plainFor_of_name own_pn_com_example_pooler_pooler_pool_BackoffDelayPinLaw) hisR ?_
  intro p e s m args below meth c s₁ Bd hml0 hP hK
  obtain ⟨rfl, hZ, hh⟩ := hP
  have hx := Bd.exec
  have hby := Bd.bytes
  have hml : c.maxLocals = 6 := hml0
  have hlk := Bd.notSynchronized
  have hown : s.vm.findClass "com/example/pooler/pooler/pool/BackoffDelayPinLaw" = some m.cls := findClass_of_methodNamed Bd.named
  have hnm := (name_of_methodNamed Bd.named Bd.method).1
  have X0 : Stand p l e ({ frames := 0, cells := 0, slots := 0, locals := 0 } : Room) s m #[(.int ai), (.int al), (.long au), (.long ae)] below meth c s₁ [] 0 0 := Stand.of_body Bd
  have e0 : s₁.heap = h0 := by rw [← hh, Bd.state]; rfl
  have N0 := Fr.nil n0
  refine own_enter (Q := Q4 Z ai al au ae h0 n0) (Ls := #[.val (.int ai), .val (.int al), .val (.long au), .second, .val (.long ae), .second]) (by first | (simp [entryFrame, mkF, argsToLocals, Value.category]; done) | rfl) ?_
  refine own_iloadN X0 hx 1 rfl (hb hby own_d4_0) rfl ?_
  refine own_iloadN X0 hx 2 rfl (hb hby own_d4_1) rfl ?_
  by_cases hc2_1 : ai = al
  · refine own_icmpN X0 hx 5 (hb hby own_d4_2) (teq hc2_1).2 rfl ?_
    refine own_lload X0 hx 7 rfl (hb hby own_d4_5) rfl ?_
    refine own_goto X0 hx 11 (hb hby own_d4_7) (by decide) (by decide) ?_
    refine own_retJ X0 hx hlk Bd.returns (hb hby own_d4_11) (by decide) (by decide) e0 ?_
    exact ⟨ae, rfl, N0, rfl, (by simp +decide [hc2_1])⟩
  · refine own_icmpY X0 hx 10 (hb hby own_d4_2) (feq hc2_1).2 (by decide) (by decide) ?_
    refine own_lloadN X0 hx 11 rfl (hb hby own_d4_10) rfl ?_
    refine own_retJ X0 hx hlk Bd.returns (hb hby own_d4_11) (by decide) (by decide) e0 ?_
    exact ⟨au, rfl, N0, rfl, (by simp +decide [hc2_1])⟩
theorem own_d10_0 : decode method_3_code 0 = .ok (.iload_n 0, 1) := by decide +kernel
theorem own_d10_1 : decode method_3_code 1 = .ok (.iconst 1, 1) := by decide +kernel
theorem own_d10_2 : decode method_3_code 2 = .ok (.if_icmp .gt 7, 3) := by decide +kernel
theorem own_d10_5 : decode method_3_code 5 = .ok (.ldc2_w 7, 3) := by decide +kernel
theorem own_d10_8 : decode method_3_code 8 = .ok (.lreturn, 1) := by decide +kernel
def Qpm0 (Z : State)  (h0 : Heap) (n0 : Nat) (v : Option Value) (h : Heap) (L : List Loc) : Prop := v = some (.long (100 : Int64)) ∧ Fr n0 L ∧ h = h0
set_option maxRecDepth 65536 in
set_option maxHeartbeats 40000000 in
theorem rmpm0 (l : Launch) (Z : State) (a0 : Array Value) (hw : ∀ d ∈ tables_1, d.before a0 Z = true) (ws : List Jvm.Cond)  (h0 : Heap) (n0 : Nat) (Z0 : n0 ≤ h0.size)  :
    MetFree l (⟨"com/example/pooler/pooler/pool/BackoffDelayPinLaw", "pauseMs", "(I)J"⟩ : MethodName) (head1 (Jvm.Cond.code (⟨"com/example/pooler/pooler/pool/BackoffDelayPinLaw", "pauseMs", "(I)J"⟩ : MethodName) method_3_code 1 (some .long) :: ws) ({ frames := 0, cells := 0, slots := 0, locals := 0 } : Room)) (fun a U => a = #[(.int (0 : Int32))] ∧ Z.Warmed39 U.vm ∧ U.heap = h0) (fun _ _ _ _ _ => True) (fun _ U o U' => ∃ v L, o = .returned v ∧ Qpm0 Z  h0 n0 v U'.heap L ∧ FrameEnd U o U' L ({ frames := 0, cells := 0, slots := 0, locals := 0 } : Room).cells ({ frames := 0, cells := 0, slots := 0, locals := 0 } : Room).slots) := by
  refine MetFree.of_bodySF (plainFor_of_name own_pn_com_example_pooler_pooler_pool_BackoffDelayPinLaw) hisR ?_
  intro p e s m args below meth c s₁ Bd hml0 hP hK
  obtain ⟨rfl, hZ, hh⟩ := hP
  have hx := Bd.exec
  have hby := Bd.bytes
  have hml : c.maxLocals = 1 := hml0
  have hlk := Bd.notSynchronized
  have hown : s.vm.findClass "com/example/pooler/pooler/pool/BackoffDelayPinLaw" = some m.cls := findClass_of_methodNamed Bd.named
  have hnm := (name_of_methodNamed Bd.named Bd.method).1
  have X0 : Stand p l e ({ frames := 0, cells := 0, slots := 0, locals := 0 } : Room) s m #[(.int (0 : Int32))] below meth c s₁ [] 0 0 := Stand.of_body Bd
  have e0 : s₁.heap = h0 := by rw [← hh, Bd.state]; rfl
  have N0 := Fr.nil n0
  refine own_enter (Q := Qpm0 Z  h0 n0) (Ls := #[.val (.int (0 : Int32))]) (by first | (simp [entryFrame, mkF, argsToLocals, Value.category]; done) | rfl) ?_
  refine own_iloadN X0 hx 1 rfl (hb hby own_d10_0) rfl ?_
  refine own_iconst X0 hx 2 rfl (1 : Int32) (hb hby own_d10_1) (by decide) ?_
  refine own_icmpN X0 hx 5 (hb hby own_d10_2) (flt ((by decide) : ¬ ((1 : Int32) < (0 : Int32)))).2.2.1 rfl ?_
  refine Goes.go (X0.ldc2Long hx hown (mvT hZ (hw _ (List.mem_of_getElem? (i := 51) rfl))) (g := (mkF m 5 #[.val (.int (0 : Int32))] [])) rfl (hb hby own_d10_5)) ?_
  show Goes p e below s _ _ _ s₁ (mkF m 8 #[.val (.int (0 : Int32))] [(.long (100 : Int64))])
  refine own_retJ X0 hx hlk Bd.returns (hb hby own_d10_8) (by decide) (by decide) e0 ?_
  exact ⟨rfl, N0, rfl⟩
def Qpm1 (Z : State)  (h0 : Heap) (n0 : Nat) (v : Option Value) (h : Heap) (L : List Loc) : Prop := v = some (.long (100 : Int64)) ∧ Fr n0 L ∧ h = h0
set_option maxRecDepth 65536 in
set_option maxHeartbeats 40000000 in
theorem rmpm1 (l : Launch) (Z : State) (a0 : Array Value) (hw : ∀ d ∈ tables_1, d.before a0 Z = true) (ws : List Jvm.Cond)  (h0 : Heap) (n0 : Nat) (Z0 : n0 ≤ h0.size)  :
    MetFree l (⟨"com/example/pooler/pooler/pool/BackoffDelayPinLaw", "pauseMs", "(I)J"⟩ : MethodName) (head1 (Jvm.Cond.code (⟨"com/example/pooler/pooler/pool/BackoffDelayPinLaw", "pauseMs", "(I)J"⟩ : MethodName) method_3_code 1 (some .long) :: ws) ({ frames := 0, cells := 0, slots := 0, locals := 0 } : Room)) (fun a U => a = #[(.int (1 : Int32))] ∧ Z.Warmed39 U.vm ∧ U.heap = h0) (fun _ _ _ _ _ => True) (fun _ U o U' => ∃ v L, o = .returned v ∧ Qpm1 Z  h0 n0 v U'.heap L ∧ FrameEnd U o U' L ({ frames := 0, cells := 0, slots := 0, locals := 0 } : Room).cells ({ frames := 0, cells := 0, slots := 0, locals := 0 } : Room).slots) := by
  refine MetFree.of_bodySF (plainFor_of_name own_pn_com_example_pooler_pooler_pool_BackoffDelayPinLaw) hisR ?_
  intro p e s m args below meth c s₁ Bd hml0 hP hK
  obtain ⟨rfl, hZ, hh⟩ := hP
  have hx := Bd.exec
  have hby := Bd.bytes
  have hml : c.maxLocals = 1 := hml0
  have hlk := Bd.notSynchronized
  have hown : s.vm.findClass "com/example/pooler/pooler/pool/BackoffDelayPinLaw" = some m.cls := findClass_of_methodNamed Bd.named
  have hnm := (name_of_methodNamed Bd.named Bd.method).1
  have X0 : Stand p l e ({ frames := 0, cells := 0, slots := 0, locals := 0 } : Room) s m #[(.int (1 : Int32))] below meth c s₁ [] 0 0 := Stand.of_body Bd
  have e0 : s₁.heap = h0 := by rw [← hh, Bd.state]; rfl
  have N0 := Fr.nil n0
  refine own_enter (Q := Qpm1 Z  h0 n0) (Ls := #[.val (.int (1 : Int32))]) (by first | (simp [entryFrame, mkF, argsToLocals, Value.category]; done) | rfl) ?_
  refine own_iloadN X0 hx 1 rfl (hb hby own_d10_0) rfl ?_
  refine own_iconst X0 hx 2 rfl (1 : Int32) (hb hby own_d10_1) (by decide) ?_
  refine own_icmpN X0 hx 5 (hb hby own_d10_2) (flt ((by decide) : ¬ ((1 : Int32) < (1 : Int32)))).2.2.1 rfl ?_
  refine Goes.go (X0.ldc2Long hx hown (mvT hZ (hw _ (List.mem_of_getElem? (i := 51) rfl))) (g := (mkF m 5 #[.val (.int (1 : Int32))] [])) rfl (hb hby own_d10_5)) ?_
  show Goes p e below s _ _ _ s₁ (mkF m 8 #[.val (.int (1 : Int32))] [(.long (100 : Int64))])
  refine own_retJ X0 hx hlk Bd.returns (hb hby own_d10_8) (by decide) (by decide) e0 ?_
  exact ⟨rfl, N0, rfl⟩
theorem own_d10_9 : decode method_3_code 9 = .ok (.iload_n 0, 1) := by decide +kernel
theorem own_d10_10 : decode method_3_code 10 = .ok (.iconst 2, 1) := by decide +kernel
theorem own_d10_11 : decode method_3_code 11 = .ok (.if_icmp .ne 7, 3) := by decide +kernel
theorem own_d10_14 : decode method_3_code 14 = .ok (.ldc2_w 9, 3) := by decide +kernel
theorem own_d10_17 : decode method_3_code 17 = .ok (.lreturn, 1) := by decide +kernel
def Qpm2 (Z : State)  (h0 : Heap) (n0 : Nat) (v : Option Value) (h : Heap) (L : List Loc) : Prop := v = some (.long (200 : Int64)) ∧ Fr n0 L ∧ h = h0
set_option maxRecDepth 65536 in
set_option maxHeartbeats 40000000 in
theorem rmpm2 (l : Launch) (Z : State) (a0 : Array Value) (hw : ∀ d ∈ tables_1, d.before a0 Z = true) (ws : List Jvm.Cond)  (h0 : Heap) (n0 : Nat) (Z0 : n0 ≤ h0.size)  :
    MetFree l (⟨"com/example/pooler/pooler/pool/BackoffDelayPinLaw", "pauseMs", "(I)J"⟩ : MethodName) (head1 (Jvm.Cond.code (⟨"com/example/pooler/pooler/pool/BackoffDelayPinLaw", "pauseMs", "(I)J"⟩ : MethodName) method_3_code 1 (some .long) :: ws) ({ frames := 0, cells := 0, slots := 0, locals := 0 } : Room)) (fun a U => a = #[(.int (2 : Int32))] ∧ Z.Warmed39 U.vm ∧ U.heap = h0) (fun _ _ _ _ _ => True) (fun _ U o U' => ∃ v L, o = .returned v ∧ Qpm2 Z  h0 n0 v U'.heap L ∧ FrameEnd U o U' L ({ frames := 0, cells := 0, slots := 0, locals := 0 } : Room).cells ({ frames := 0, cells := 0, slots := 0, locals := 0 } : Room).slots) := by
  refine MetFree.of_bodySF (plainFor_of_name own_pn_com_example_pooler_pooler_pool_BackoffDelayPinLaw) hisR ?_
  intro p e s m args below meth c s₁ Bd hml0 hP hK
  obtain ⟨rfl, hZ, hh⟩ := hP
  have hx := Bd.exec
  have hby := Bd.bytes
  have hml : c.maxLocals = 1 := hml0
  have hlk := Bd.notSynchronized
  have hown : s.vm.findClass "com/example/pooler/pooler/pool/BackoffDelayPinLaw" = some m.cls := findClass_of_methodNamed Bd.named
  have hnm := (name_of_methodNamed Bd.named Bd.method).1
  have X0 : Stand p l e ({ frames := 0, cells := 0, slots := 0, locals := 0 } : Room) s m #[(.int (2 : Int32))] below meth c s₁ [] 0 0 := Stand.of_body Bd
  have e0 : s₁.heap = h0 := by rw [← hh, Bd.state]; rfl
  have N0 := Fr.nil n0
  refine own_enter (Q := Qpm2 Z  h0 n0) (Ls := #[.val (.int (2 : Int32))]) (by first | (simp [entryFrame, mkF, argsToLocals, Value.category]; done) | rfl) ?_
  refine own_iloadN X0 hx 1 rfl (hb hby own_d10_0) rfl ?_
  refine own_iconst X0 hx 2 rfl (1 : Int32) (hb hby own_d10_1) (by decide) ?_
  refine own_icmpY X0 hx 9 (hb hby own_d10_2) (tlt ((by decide) : (1 : Int32) < (2 : Int32))).2.2.1 (by decide) (by decide) ?_
  refine own_iloadN X0 hx 10 rfl (hb hby own_d10_9) rfl ?_
  refine own_iconst X0 hx 11 rfl (2 : Int32) (hb hby own_d10_10) (by decide) ?_
  refine own_icmpN X0 hx 14 (hb hby own_d10_11) (teq ((by decide) : (2 : Int32) = (2 : Int32))).2 rfl ?_
  refine Goes.go (X0.ldc2Long hx hown (mvT hZ (hw _ (List.mem_of_getElem? (i := 62) rfl))) (g := (mkF m 14 #[.val (.int (2 : Int32))] [])) rfl (hb hby own_d10_14)) ?_
  show Goes p e below s _ _ _ s₁ (mkF m 17 #[.val (.int (2 : Int32))] [(.long (200 : Int64))])
  refine own_retJ X0 hx hlk Bd.returns (hb hby own_d10_17) (by decide) (by decide) e0 ?_
  exact ⟨rfl, N0, rfl⟩
theorem own_d10_18 : decode method_3_code 18 = .ok (.iload_n 0, 1) := by decide +kernel
theorem own_d10_19 : decode method_3_code 19 = .ok (.iconst 3, 1) := by decide +kernel
theorem own_d10_20 : decode method_3_code 20 = .ok (.if_icmp .ne 7, 3) := by decide +kernel
theorem own_d10_23 : decode method_3_code 23 = .ok (.ldc2_w 11, 3) := by decide +kernel
theorem own_d10_26 : decode method_3_code 26 = .ok (.lreturn, 1) := by decide +kernel
def Qpm3 (Z : State)  (h0 : Heap) (n0 : Nat) (v : Option Value) (h : Heap) (L : List Loc) : Prop := v = some (.long (400 : Int64)) ∧ Fr n0 L ∧ h = h0
set_option maxRecDepth 65536 in
set_option maxHeartbeats 40000000 in
theorem rmpm3 (l : Launch) (Z : State) (a0 : Array Value) (hw : ∀ d ∈ tables_1, d.before a0 Z = true) (ws : List Jvm.Cond)  (h0 : Heap) (n0 : Nat) (Z0 : n0 ≤ h0.size)  :
    MetFree l (⟨"com/example/pooler/pooler/pool/BackoffDelayPinLaw", "pauseMs", "(I)J"⟩ : MethodName) (head1 (Jvm.Cond.code (⟨"com/example/pooler/pooler/pool/BackoffDelayPinLaw", "pauseMs", "(I)J"⟩ : MethodName) method_3_code 1 (some .long) :: ws) ({ frames := 0, cells := 0, slots := 0, locals := 0 } : Room)) (fun a U => a = #[(.int (3 : Int32))] ∧ Z.Warmed39 U.vm ∧ U.heap = h0) (fun _ _ _ _ _ => True) (fun _ U o U' => ∃ v L, o = .returned v ∧ Qpm3 Z  h0 n0 v U'.heap L ∧ FrameEnd U o U' L ({ frames := 0, cells := 0, slots := 0, locals := 0 } : Room).cells ({ frames := 0, cells := 0, slots := 0, locals := 0 } : Room).slots) := by
  refine MetFree.of_bodySF (plainFor_of_name own_pn_com_example_pooler_pooler_pool_BackoffDelayPinLaw) hisR ?_
  intro p e s m args below meth c s₁ Bd hml0 hP hK
  obtain ⟨rfl, hZ, hh⟩ := hP
  have hx := Bd.exec
  have hby := Bd.bytes
  have hml : c.maxLocals = 1 := hml0
  have hlk := Bd.notSynchronized
  have hown : s.vm.findClass "com/example/pooler/pooler/pool/BackoffDelayPinLaw" = some m.cls := findClass_of_methodNamed Bd.named
  have hnm := (name_of_methodNamed Bd.named Bd.method).1
  have X0 : Stand p l e ({ frames := 0, cells := 0, slots := 0, locals := 0 } : Room) s m #[(.int (3 : Int32))] below meth c s₁ [] 0 0 := Stand.of_body Bd
  have e0 : s₁.heap = h0 := by rw [← hh, Bd.state]; rfl
  have N0 := Fr.nil n0
  refine own_enter (Q := Qpm3 Z  h0 n0) (Ls := #[.val (.int (3 : Int32))]) (by first | (simp [entryFrame, mkF, argsToLocals, Value.category]; done) | rfl) ?_
  refine own_iloadN X0 hx 1 rfl (hb hby own_d10_0) rfl ?_
  refine own_iconst X0 hx 2 rfl (1 : Int32) (hb hby own_d10_1) (by decide) ?_
  refine own_icmpY X0 hx 9 (hb hby own_d10_2) (tlt ((by decide) : (1 : Int32) < (3 : Int32))).2.2.1 (by decide) (by decide) ?_
  refine own_iloadN X0 hx 10 rfl (hb hby own_d10_9) rfl ?_
  refine own_iconst X0 hx 11 rfl (2 : Int32) (hb hby own_d10_10) (by decide) ?_
  refine own_icmpY X0 hx 18 (hb hby own_d10_11) (feq ((by decide) : ¬ ((3 : Int32) = (2 : Int32)))).2 (by decide) (by decide) ?_
  refine own_iloadN X0 hx 19 rfl (hb hby own_d10_18) rfl ?_
  refine own_iconst X0 hx 20 rfl (3 : Int32) (hb hby own_d10_19) (by decide) ?_
  refine own_icmpN X0 hx 23 (hb hby own_d10_20) (teq ((by decide) : (3 : Int32) = (3 : Int32))).2 rfl ?_
  refine Goes.go (X0.ldc2Long hx hown (mvT hZ (hw _ (List.mem_of_getElem? (i := 54) rfl))) (g := (mkF m 23 #[.val (.int (3 : Int32))] [])) rfl (hb hby own_d10_23)) ?_
  show Goes p e below s _ _ _ s₁ (mkF m 26 #[.val (.int (3 : Int32))] [(.long (400 : Int64))])
  refine own_retJ X0 hx hlk Bd.returns (hb hby own_d10_26) (by decide) (by decide) e0 ?_
  exact ⟨rfl, N0, rfl⟩
theorem own_d10_27 : decode method_3_code 27 = .ok (.iload_n 0, 1) := by decide +kernel
theorem own_d10_28 : decode method_3_code 28 = .ok (.iconst 4, 1) := by decide +kernel
theorem own_d10_29 : decode method_3_code 29 = .ok (.if_icmp .ne 7, 3) := by decide +kernel
theorem own_d10_32 : decode method_3_code 32 = .ok (.ldc2_w 13, 3) := by decide +kernel
theorem own_d10_35 : decode method_3_code 35 = .ok (.lreturn, 1) := by decide +kernel
def Qpm4 (Z : State)  (h0 : Heap) (n0 : Nat) (v : Option Value) (h : Heap) (L : List Loc) : Prop := v = some (.long (800 : Int64)) ∧ Fr n0 L ∧ h = h0
set_option maxRecDepth 65536 in
set_option maxHeartbeats 40000000 in
theorem rmpm4 (l : Launch) (Z : State) (a0 : Array Value) (hw : ∀ d ∈ tables_1, d.before a0 Z = true) (ws : List Jvm.Cond)  (h0 : Heap) (n0 : Nat) (Z0 : n0 ≤ h0.size)  :
    MetFree l (⟨"com/example/pooler/pooler/pool/BackoffDelayPinLaw", "pauseMs", "(I)J"⟩ : MethodName) (head1 (Jvm.Cond.code (⟨"com/example/pooler/pooler/pool/BackoffDelayPinLaw", "pauseMs", "(I)J"⟩ : MethodName) method_3_code 1 (some .long) :: ws) ({ frames := 0, cells := 0, slots := 0, locals := 0 } : Room)) (fun a U => a = #[(.int (4 : Int32))] ∧ Z.Warmed39 U.vm ∧ U.heap = h0) (fun _ _ _ _ _ => True) (fun _ U o U' => ∃ v L, o = .returned v ∧ Qpm4 Z  h0 n0 v U'.heap L ∧ FrameEnd U o U' L ({ frames := 0, cells := 0, slots := 0, locals := 0 } : Room).cells ({ frames := 0, cells := 0, slots := 0, locals := 0 } : Room).slots) := by
  refine MetFree.of_bodySF (plainFor_of_name own_pn_com_example_pooler_pooler_pool_BackoffDelayPinLaw) hisR ?_
  intro p e s m args below meth c s₁ Bd hml0 hP hK
  obtain ⟨rfl, hZ, hh⟩ := hP
  have hx := Bd.exec
  have hby := Bd.bytes
  have hml : c.maxLocals = 1 := hml0
  have hlk := Bd.notSynchronized
  have hown : s.vm.findClass "com/example/pooler/pooler/pool/BackoffDelayPinLaw" = some m.cls := findClass_of_methodNamed Bd.named
  have hnm := (name_of_methodNamed Bd.named Bd.method).1
  have X0 : Stand p l e ({ frames := 0, cells := 0, slots := 0, locals := 0 } : Room) s m #[(.int (4 : Int32))] below meth c s₁ [] 0 0 := Stand.of_body Bd
  have e0 : s₁.heap = h0 := by rw [← hh, Bd.state]; rfl
  have N0 := Fr.nil n0
  refine own_enter (Q := Qpm4 Z  h0 n0) (Ls := #[.val (.int (4 : Int32))]) (by first | (simp [entryFrame, mkF, argsToLocals, Value.category]; done) | rfl) ?_
  refine own_iloadN X0 hx 1 rfl (hb hby own_d10_0) rfl ?_
  refine own_iconst X0 hx 2 rfl (1 : Int32) (hb hby own_d10_1) (by decide) ?_
  refine own_icmpY X0 hx 9 (hb hby own_d10_2) (tlt ((by decide) : (1 : Int32) < (4 : Int32))).2.2.1 (by decide) (by decide) ?_
  refine own_iloadN X0 hx 10 rfl (hb hby own_d10_9) rfl ?_
  refine own_iconst X0 hx 11 rfl (2 : Int32) (hb hby own_d10_10) (by decide) ?_
  refine own_icmpY X0 hx 18 (hb hby own_d10_11) (feq ((by decide) : ¬ ((4 : Int32) = (2 : Int32)))).2 (by decide) (by decide) ?_
  refine own_iloadN X0 hx 19 rfl (hb hby own_d10_18) rfl ?_
  refine own_iconst X0 hx 20 rfl (3 : Int32) (hb hby own_d10_19) (by decide) ?_
  refine own_icmpY X0 hx 27 (hb hby own_d10_20) (feq ((by decide) : ¬ ((4 : Int32) = (3 : Int32)))).2 (by decide) (by decide) ?_
  refine own_iloadN X0 hx 28 rfl (hb hby own_d10_27) rfl ?_
  refine own_iconst X0 hx 29 rfl (4 : Int32) (hb hby own_d10_28) (by decide) ?_
  refine own_icmpN X0 hx 32 (hb hby own_d10_29) (teq ((by decide) : (4 : Int32) = (4 : Int32))).2 rfl ?_
  refine Goes.go (X0.ldc2Long hx hown (mvT hZ (hw _ (List.mem_of_getElem? (i := 61) rfl))) (g := (mkF m 32 #[.val (.int (4 : Int32))] [])) rfl (hb hby own_d10_32)) ?_
  show Goes p e below s _ _ _ s₁ (mkF m 35 #[.val (.int (4 : Int32))] [(.long (800 : Int64))])
  refine own_retJ X0 hx hlk Bd.returns (hb hby own_d10_35) (by decide) (by decide) e0 ?_
  exact ⟨rfl, N0, rfl⟩
theorem own_d10_36 : decode method_3_code 36 = .ok (.ldc2_w 15, 3) := by decide +kernel
theorem own_d10_39 : decode method_3_code 39 = .ok (.lreturn, 1) := by decide +kernel
def Qpm5 (Z : State)  (h0 : Heap) (n0 : Nat) (v : Option Value) (h : Heap) (L : List Loc) : Prop := v = some (.long (1000 : Int64)) ∧ Fr n0 L ∧ h = h0
set_option maxRecDepth 65536 in
set_option maxHeartbeats 40000000 in
theorem rmpm5 (l : Launch) (Z : State) (a0 : Array Value) (hw : ∀ d ∈ tables_1, d.before a0 Z = true) (ws : List Jvm.Cond)  (h0 : Heap) (n0 : Nat) (Z0 : n0 ≤ h0.size)  :
    MetFree l (⟨"com/example/pooler/pooler/pool/BackoffDelayPinLaw", "pauseMs", "(I)J"⟩ : MethodName) (head1 (Jvm.Cond.code (⟨"com/example/pooler/pooler/pool/BackoffDelayPinLaw", "pauseMs", "(I)J"⟩ : MethodName) method_3_code 1 (some .long) :: ws) ({ frames := 0, cells := 0, slots := 0, locals := 0 } : Room)) (fun a U => a = #[(.int (5 : Int32))] ∧ Z.Warmed39 U.vm ∧ U.heap = h0) (fun _ _ _ _ _ => True) (fun _ U o U' => ∃ v L, o = .returned v ∧ Qpm5 Z  h0 n0 v U'.heap L ∧ FrameEnd U o U' L ({ frames := 0, cells := 0, slots := 0, locals := 0 } : Room).cells ({ frames := 0, cells := 0, slots := 0, locals := 0 } : Room).slots) := by
  refine MetFree.of_bodySF (plainFor_of_name own_pn_com_example_pooler_pooler_pool_BackoffDelayPinLaw) hisR ?_
  intro p e s m args below meth c s₁ Bd hml0 hP hK
  obtain ⟨rfl, hZ, hh⟩ := hP
  have hx := Bd.exec
  have hby := Bd.bytes
  have hml : c.maxLocals = 1 := hml0
  have hlk := Bd.notSynchronized
  have hown : s.vm.findClass "com/example/pooler/pooler/pool/BackoffDelayPinLaw" = some m.cls := findClass_of_methodNamed Bd.named
  have hnm := (name_of_methodNamed Bd.named Bd.method).1
  have X0 : Stand p l e ({ frames := 0, cells := 0, slots := 0, locals := 0 } : Room) s m #[(.int (5 : Int32))] below meth c s₁ [] 0 0 := Stand.of_body Bd
  have e0 : s₁.heap = h0 := by rw [← hh, Bd.state]; rfl
  have N0 := Fr.nil n0
  refine own_enter (Q := Qpm5 Z  h0 n0) (Ls := #[.val (.int (5 : Int32))]) (by first | (simp [entryFrame, mkF, argsToLocals, Value.category]; done) | rfl) ?_
  refine own_iloadN X0 hx 1 rfl (hb hby own_d10_0) rfl ?_
  refine own_iconst X0 hx 2 rfl (1 : Int32) (hb hby own_d10_1) (by decide) ?_
  refine own_icmpY X0 hx 9 (hb hby own_d10_2) (tlt ((by decide) : (1 : Int32) < (5 : Int32))).2.2.1 (by decide) (by decide) ?_
  refine own_iloadN X0 hx 10 rfl (hb hby own_d10_9) rfl ?_
  refine own_iconst X0 hx 11 rfl (2 : Int32) (hb hby own_d10_10) (by decide) ?_
  refine own_icmpY X0 hx 18 (hb hby own_d10_11) (feq ((by decide) : ¬ ((5 : Int32) = (2 : Int32)))).2 (by decide) (by decide) ?_
  refine own_iloadN X0 hx 19 rfl (hb hby own_d10_18) rfl ?_
  refine own_iconst X0 hx 20 rfl (3 : Int32) (hb hby own_d10_19) (by decide) ?_
  refine own_icmpY X0 hx 27 (hb hby own_d10_20) (feq ((by decide) : ¬ ((5 : Int32) = (3 : Int32)))).2 (by decide) (by decide) ?_
  refine own_iloadN X0 hx 28 rfl (hb hby own_d10_27) rfl ?_
  refine own_iconst X0 hx 29 rfl (4 : Int32) (hb hby own_d10_28) (by decide) ?_
  refine own_icmpY X0 hx 36 (hb hby own_d10_29) (feq ((by decide) : ¬ ((5 : Int32) = (4 : Int32)))).2 (by decide) (by decide) ?_
  refine Goes.go (X0.ldc2Long hx hown (mvT hZ (hw _ (List.mem_of_getElem? (i := 60) rfl))) (g := (mkF m 36 #[.val (.int (5 : Int32))] [])) rfl (hb hby own_d10_36)) ?_
  show Goes p e below s _ _ _ s₁ (mkF m 39 #[.val (.int (5 : Int32))] [(.long (1000 : Int64))])
  refine own_retJ X0 hx hlk Bd.returns (hb hby own_d10_39) (by decide) (by decide) e0 ?_
  exact ⟨rfl, N0, rfl⟩
def Qpm6 (Z : State)  (h0 : Heap) (n0 : Nat) (v : Option Value) (h : Heap) (L : List Loc) : Prop := v = some (.long (1000 : Int64)) ∧ Fr n0 L ∧ h = h0
set_option maxRecDepth 65536 in
set_option maxHeartbeats 40000000 in
theorem rmpm6 (l : Launch) (Z : State) (a0 : Array Value) (hw : ∀ d ∈ tables_1, d.before a0 Z = true) (ws : List Jvm.Cond)  (h0 : Heap) (n0 : Nat) (Z0 : n0 ≤ h0.size)  :
    MetFree l (⟨"com/example/pooler/pooler/pool/BackoffDelayPinLaw", "pauseMs", "(I)J"⟩ : MethodName) (head1 (Jvm.Cond.code (⟨"com/example/pooler/pooler/pool/BackoffDelayPinLaw", "pauseMs", "(I)J"⟩ : MethodName) method_3_code 1 (some .long) :: ws) ({ frames := 0, cells := 0, slots := 0, locals := 0 } : Room)) (fun a U => a = #[(.int (6 : Int32))] ∧ Z.Warmed39 U.vm ∧ U.heap = h0) (fun _ _ _ _ _ => True) (fun _ U o U' => ∃ v L, o = .returned v ∧ Qpm6 Z  h0 n0 v U'.heap L ∧ FrameEnd U o U' L ({ frames := 0, cells := 0, slots := 0, locals := 0 } : Room).cells ({ frames := 0, cells := 0, slots := 0, locals := 0 } : Room).slots) := by
  refine MetFree.of_bodySF (plainFor_of_name own_pn_com_example_pooler_pooler_pool_BackoffDelayPinLaw) hisR ?_
  intro p e s m args below meth c s₁ Bd hml0 hP hK
  obtain ⟨rfl, hZ, hh⟩ := hP
  have hx := Bd.exec
  have hby := Bd.bytes
  have hml : c.maxLocals = 1 := hml0
  have hlk := Bd.notSynchronized
  have hown : s.vm.findClass "com/example/pooler/pooler/pool/BackoffDelayPinLaw" = some m.cls := findClass_of_methodNamed Bd.named
  have hnm := (name_of_methodNamed Bd.named Bd.method).1
  have X0 : Stand p l e ({ frames := 0, cells := 0, slots := 0, locals := 0 } : Room) s m #[(.int (6 : Int32))] below meth c s₁ [] 0 0 := Stand.of_body Bd
  have e0 : s₁.heap = h0 := by rw [← hh, Bd.state]; rfl
  have N0 := Fr.nil n0
  refine own_enter (Q := Qpm6 Z  h0 n0) (Ls := #[.val (.int (6 : Int32))]) (by first | (simp [entryFrame, mkF, argsToLocals, Value.category]; done) | rfl) ?_
  refine own_iloadN X0 hx 1 rfl (hb hby own_d10_0) rfl ?_
  refine own_iconst X0 hx 2 rfl (1 : Int32) (hb hby own_d10_1) (by decide) ?_
  refine own_icmpY X0 hx 9 (hb hby own_d10_2) (tlt ((by decide) : (1 : Int32) < (6 : Int32))).2.2.1 (by decide) (by decide) ?_
  refine own_iloadN X0 hx 10 rfl (hb hby own_d10_9) rfl ?_
  refine own_iconst X0 hx 11 rfl (2 : Int32) (hb hby own_d10_10) (by decide) ?_
  refine own_icmpY X0 hx 18 (hb hby own_d10_11) (feq ((by decide) : ¬ ((6 : Int32) = (2 : Int32)))).2 (by decide) (by decide) ?_
  refine own_iloadN X0 hx 19 rfl (hb hby own_d10_18) rfl ?_
  refine own_iconst X0 hx 20 rfl (3 : Int32) (hb hby own_d10_19) (by decide) ?_
  refine own_icmpY X0 hx 27 (hb hby own_d10_20) (feq ((by decide) : ¬ ((6 : Int32) = (3 : Int32)))).2 (by decide) (by decide) ?_
  refine own_iloadN X0 hx 28 rfl (hb hby own_d10_27) rfl ?_
  refine own_iconst X0 hx 29 rfl (4 : Int32) (hb hby own_d10_28) (by decide) ?_
  refine own_icmpY X0 hx 36 (hb hby own_d10_29) (feq ((by decide) : ¬ ((6 : Int32) = (4 : Int32)))).2 (by decide) (by decide) ?_
  refine Goes.go (X0.ldc2Long hx hown (mvT hZ (hw _ (List.mem_of_getElem? (i := 60) rfl))) (g := (mkF m 36 #[.val (.int (6 : Int32))] [])) rfl (hb hby own_d10_36)) ?_
  show Goes p e below s _ _ _ s₁ (mkF m 39 #[.val (.int (6 : Int32))] [(.long (1000 : Int64))])
  refine own_retJ X0 hx hlk Bd.returns (hb hby own_d10_39) (by decide) (by decide) e0 ?_
  exact ⟨rfl, N0, rfl⟩
def Qpm7 (Z : State)  (h0 : Heap) (n0 : Nat) (v : Option Value) (h : Heap) (L : List Loc) : Prop := v = some (.long (1000 : Int64)) ∧ Fr n0 L ∧ h = h0
set_option maxRecDepth 65536 in
set_option maxHeartbeats 40000000 in
theorem rmpm7 (l : Launch) (Z : State) (a0 : Array Value) (hw : ∀ d ∈ tables_1, d.before a0 Z = true) (ws : List Jvm.Cond)  (h0 : Heap) (n0 : Nat) (Z0 : n0 ≤ h0.size)  :
    MetFree l (⟨"com/example/pooler/pooler/pool/BackoffDelayPinLaw", "pauseMs", "(I)J"⟩ : MethodName) (head1 (Jvm.Cond.code (⟨"com/example/pooler/pooler/pool/BackoffDelayPinLaw", "pauseMs", "(I)J"⟩ : MethodName) method_3_code 1 (some .long) :: ws) ({ frames := 0, cells := 0, slots := 0, locals := 0 } : Room)) (fun a U => a = #[(.int (7 : Int32))] ∧ Z.Warmed39 U.vm ∧ U.heap = h0) (fun _ _ _ _ _ => True) (fun _ U o U' => ∃ v L, o = .returned v ∧ Qpm7 Z  h0 n0 v U'.heap L ∧ FrameEnd U o U' L ({ frames := 0, cells := 0, slots := 0, locals := 0 } : Room).cells ({ frames := 0, cells := 0, slots := 0, locals := 0 } : Room).slots) := by
  refine MetFree.of_bodySF (plainFor_of_name own_pn_com_example_pooler_pooler_pool_BackoffDelayPinLaw) hisR ?_
  intro p e s m args below meth c s₁ Bd hml0 hP hK
  obtain ⟨rfl, hZ, hh⟩ := hP
  have hx := Bd.exec
  have hby := Bd.bytes
  have hml : c.maxLocals = 1 := hml0
  have hlk := Bd.notSynchronized
  have hown : s.vm.findClass "com/example/pooler/pooler/pool/BackoffDelayPinLaw" = some m.cls := findClass_of_methodNamed Bd.named
  have hnm := (name_of_methodNamed Bd.named Bd.method).1
  have X0 : Stand p l e ({ frames := 0, cells := 0, slots := 0, locals := 0 } : Room) s m #[(.int (7 : Int32))] below meth c s₁ [] 0 0 := Stand.of_body Bd
  have e0 : s₁.heap = h0 := by rw [← hh, Bd.state]; rfl
  have N0 := Fr.nil n0
  refine own_enter (Q := Qpm7 Z  h0 n0) (Ls := #[.val (.int (7 : Int32))]) (by first | (simp [entryFrame, mkF, argsToLocals, Value.category]; done) | rfl) ?_
  refine own_iloadN X0 hx 1 rfl (hb hby own_d10_0) rfl ?_
  refine own_iconst X0 hx 2 rfl (1 : Int32) (hb hby own_d10_1) (by decide) ?_
  refine own_icmpY X0 hx 9 (hb hby own_d10_2) (tlt ((by decide) : (1 : Int32) < (7 : Int32))).2.2.1 (by decide) (by decide) ?_
  refine own_iloadN X0 hx 10 rfl (hb hby own_d10_9) rfl ?_
  refine own_iconst X0 hx 11 rfl (2 : Int32) (hb hby own_d10_10) (by decide) ?_
  refine own_icmpY X0 hx 18 (hb hby own_d10_11) (feq ((by decide) : ¬ ((7 : Int32) = (2 : Int32)))).2 (by decide) (by decide) ?_
  refine own_iloadN X0 hx 19 rfl (hb hby own_d10_18) rfl ?_
  refine own_iconst X0 hx 20 rfl (3 : Int32) (hb hby own_d10_19) (by decide) ?_
  refine own_icmpY X0 hx 27 (hb hby own_d10_20) (feq ((by decide) : ¬ ((7 : Int32) = (3 : Int32)))).2 (by decide) (by decide) ?_
  refine own_iloadN X0 hx 28 rfl (hb hby own_d10_27) rfl ?_
  refine own_iconst X0 hx 29 rfl (4 : Int32) (hb hby own_d10_28) (by decide) ?_
  refine own_icmpY X0 hx 36 (hb hby own_d10_29) (feq ((by decide) : ¬ ((7 : Int32) = (4 : Int32)))).2 (by decide) (by decide) ?_
  refine Goes.go (X0.ldc2Long hx hown (mvT hZ (hw _ (List.mem_of_getElem? (i := 60) rfl))) (g := (mkF m 36 #[.val (.int (7 : Int32))] [])) rfl (hb hby own_d10_36)) ?_
  show Goes p e below s _ _ _ s₁ (mkF m 39 #[.val (.int (7 : Int32))] [(.long (1000 : Int64))])
  refine own_retJ X0 hx hlk Bd.returns (hb hby own_d10_39) (by decide) (by decide) e0 ?_
  exact ⟨rfl, N0, rfl⟩
theorem own_pd3 : parseMethodDescriptor "()V" = some ⟨[], none⟩ := by decide +kernel
theorem own_pd4 : parseMethodDescriptor "(IIJJ)J" = some ⟨[.int, .int, .long, .long], some .long⟩ := by decide +kernel
theorem own_pd5 : parseMethodDescriptor "(J)J" = some ⟨[.long], some .long⟩ := by decide +kernel
theorem own_pd6 : parseMethodDescriptor "(I)J" = some ⟨[.int], some .long⟩ := by decide +kernel
def Q0 (Z : State) (x0 : Int32) (x1 : Int64) (x2 : Int64) (x3 : Int64) (h0 : Heap) (n0 : Nat) (v : Option Value) (h : Heap) (L : List Loc) : Prop := v = some (.int 1) ∧ Fr n0 L
set_option maxRecDepth 65536 in
set_option maxHeartbeats 40000000 in
theorem rm0 (l : Launch) (Z : State) (a0 : Array Value) (hw : ∀ d ∈ tables_1, d.before a0 Z = true) (ws : List Jvm.Cond) (x0 : Int32) (x1 : Int64) (x2 : Int64) (x3 : Int64) (h0 : Heap) (n0 : Nat) (Z0 : n0 ≤ h0.size) (S_y_SHORTEST : Sta Z h0 "com/example/pooler/pooler/pool/Backoff" "SHORTEST" "J" (.long (100000000 : Int64))) (S_y_LONGEST : Sta Z h0 "com/example/pooler/pooler/pool/Backoff" "LONGEST" "J" (.long (1000000000 : Int64))) :
    MetFree l x (head1 (Jvm.Cond.code x code maxLocals ret :: ws) room_1) (fun a U => a = #[(.int x0), (.long x1), (.long x2), (.long x3)] ∧ Z.Warmed39 U.vm ∧ U.heap = h0) (fun _ _ _ _ _ => True) (fun _ U o U' => ∃ v L, o = .returned v ∧ Q0 Z x0 x1 x2 x3 h0 n0 v U'.heap L ∧ FrameEnd U o U' L 1 3) := by
  refine MetFree.of_bodySF (plainFor_of_name own_pn_com_example_pooler_pooler_pool_BackoffDelayPinLaw) hisR ?_
  intro p e s m args below meth c s₁ Bd hml0 hP hK
  obtain ⟨rfl, hZ, hh⟩ := hP
  have hx := Bd.exec
  have hby := Bd.bytes
  have hml : c.maxLocals = 25 := hml0
  have hlk := Bd.notSynchronized
  have hown : s.vm.findClass "com/example/pooler/pooler/pool/BackoffDelayPinLaw" = some m.cls := findClass_of_methodNamed Bd.named
  have hnm := (name_of_methodNamed Bd.named Bd.method).1
  have X0 : Stand p l e room_1 s m #[(.int x0), (.long x1), (.long x2), (.long x3)] below meth c s₁ [] 0 0 := Stand.of_body Bd
  have e0 : s₁.heap = h0 := by rw [← hh, Bd.state]; rfl
  have N0 := Fr.nil n0
  have K0 : Keep h0 h0 [] := Keep.refl _ _
  refine own_enter (Q := Q0 Z x0 x1 x2 x3 h0 n0) (Ls := #[.val (.int x0), .val (.long x1), .second, .val (.long x2), .second, .val (.long x3), .second, .unset, .unset, .unset, .unset, .unset, .unset, .unset, .unset, .unset, .unset, .unset, .unset, .unset, .unset, .unset, .unset, .unset, .unset]) (by first | (simp [entryFrame, mkF, argsToLocals, Value.category, maxLocals]; done) | rfl) ?_
  refine own_iloadN X0 hx 1 rfl (hb hby at_0) rfl ?_
  refine own_sipush X0 hx 4 rfl (255 : Int32) (hb hby at_1) (by decide) ?_
  refine own_iand X0 hx 5 rfl (hb hby at_4) rfl ?_
  refine own_bipush X0 hx 7 rfl (7 : Int32) (hb hby at_5) (by decide) ?_
  obtain ⟨ff, h_ff⟩ : ∃ z, z = ((x0 &&& (255 : Int32)) % (7 : Int32)) := ⟨_, rfl⟩
  refine own_irem X0 hx 8 rfl (hb hby at_7) (by decide) h_ff.symm ?_
  refine own_istore X0 hx 10 rfl #[.val (.int x0), .val (.long x1), .second, .val (.long x2), .second, .val (.long x3), .second, .val (.int ff), .unset, .unset, .unset, .unset, .unset, .unset, .unset, .unset, .unset, .unset, .unset, .unset, .unset, .unset, .unset, .unset, .unset] (hb hby at_8) rfl ?_
  refine own_iloadN X0 hx 11 rfl (hb hby at_10) rfl ?_
  refine own_bipush X0 hx 13 rfl (8 : Int32) (hb hby at_11) (by decide) ?_
  refine own_iushr X0 hx 14 rfl (hb hby at_13) rfl ?_
  refine own_iconst X0 hx 15 rfl (1 : Int32) (hb hby at_14) (by decide) ?_
  obtain ⟨aa, h_aa⟩ : ∃ z, z = (((x0.toUInt32 >>> ((8 : Int32) &&& 31).toUInt32).toInt32) &&& (1 : Int32)) := ⟨_, rfl⟩
  refine own_iand X0 hx 16 rfl (hb hby at_15) h_aa.symm ?_
  refine own_istore X0 hx 18 rfl #[.val (.int x0), .val (.long x1), .second, .val (.long x2), .second, .val (.long x3), .second, .val (.int ff), .val (.int aa), .unset, .unset, .unset, .unset, .unset, .unset, .unset, .unset, .unset, .unset, .unset, .unset, .unset, .unset, .unset, .unset] (hb hby at_16) rfl ?_
  refine own_iloadN X0 hx 19 rfl (hb hby at_18) rfl ?_
  refine own_bipush X0 hx 21 rfl (9 : Int32) (hb hby at_19) (by decide) ?_
  refine own_iushr X0 hx 22 rfl (hb hby at_21) rfl ?_
  refine own_iconst X0 hx 23 rfl (1 : Int32) (hb hby at_22) (by decide) ?_
  obtain ⟨oo, h_oo⟩ : ∃ z, z = (((x0.toUInt32 >>> ((9 : Int32) &&& 31).toUInt32).toInt32) &&& (1 : Int32)) := ⟨_, rfl⟩
  refine own_iand X0 hx 24 rfl (hb hby at_23) h_oo.symm ?_
  refine own_istore X0 hx 26 rfl #[.val (.int x0), .val (.long x1), .second, .val (.long x2), .second, .val (.long x3), .second, .val (.int ff), .val (.int aa), .val (.int oo), .unset, .unset, .unset, .unset, .unset, .unset, .unset, .unset, .unset, .unset, .unset, .unset, .unset, .unset, .unset] (hb hby at_24) rfl ?_
  have hff := own_f7 _ _ h_ff
  have haa := own_b1 _ _ h_aa
  have hoo := own_b1 _ _ h_oo
  rcases haa with rfl | rfl
  · refine own_iload X0 hx 28 rfl (hb hby at_26) rfl ?_
    rcases hoo with rfl | rfl
    · refine own_iload X0 hx 30 rfl (hb hby at_28) rfl ?_
      refine own_iadd X0 hx 31 rfl (z := (0 : Int32)) (hb hby at_30) (by decide) ?_
      refine own_iload X0 hx 33 rfl (hb hby at_31) rfl ?_
      obtain ⟨tot, h_tot⟩ : ∃ z, z = ((0 : Int32) + ff) := ⟨_, rfl⟩
      refine own_iadd X0 hx 34 rfl (hb hby at_33) h_tot.symm ?_
      refine own_istore X0 hx 36 rfl #[.val (.int x0), .val (.long x1), .second, .val (.long x2), .second, .val (.long x3), .second, .val (.int ff), .val (.int (0 : Int32)), .val (.int (0 : Int32)), .val (.int tot), .unset, .unset, .unset, .unset, .unset, .unset, .unset, .unset, .unset, .unset, .unset, .unset, .unset, .unset] (hb hby at_34) rfl ?_
      refine own_iload X0 hx 38 rfl (hb hby at_36) rfl ?_
      refine own_iconst X0 hx 39 rfl (1 : Int32) (hb hby at_38) (by decide) ?_
      obtain ⟨lst, h_lst⟩ : ∃ z, z = (tot - (1 : Int32)) := ⟨_, rfl⟩
      refine own_isub X0 hx 40 rfl (hb hby at_39) h_lst.symm ?_
      refine own_istore X0 hx 42 rfl #[.val (.int x0), .val (.long x1), .second, .val (.long x2), .second, .val (.long x3), .second, .val (.int ff), .val (.int (0 : Int32)), .val (.int (0 : Int32)), .val (.int tot), .val (.int lst), .unset, .unset, .unset, .unset, .unset, .unset, .unset, .unset, .unset, .unset, .unset, .unset, .unset] (hb hby at_40) rfl ?_
      obtain ⟨T1, h1, X1, e1, E1, A1, D1, -, st1⟩ := newO X0 hx hZ hown (hw _ (List.mem_of_getElem? (i := 0) rfl)) (hw _ (List.mem_of_getElem? (i := 1) rfl)) (hw _ (List.mem_of_getElem? (i := 2) rfl)) e0 (g := (mkF m 42 #[.val (.int x0), .val (.long x1), .second, .val (.long x2), .second, .val (.long x3), .second, .val (.int ff), .val (.int (0 : Int32)), .val (.int (0 : Int32)), .val (.int tot), .val (.int lst), .unset, .unset, .unset, .unset, .unset, .unset, .unset, .unset, .unset, .unset, .unset, .unset, .unset] [])) rfl (hb hby at_42) (by decide) (by decide)
      obtain ⟨b1, g1⟩ : ∃ z, z = h0.size := ⟨_, rfl⟩
      rw [← g1] at A1 D1 st1
      have G1 : n0 ≤ b1 := Nat.le_trans Z0 (Nat.le_of_eq g1.symm)
      have H1 : h0.size ≤ b1 := Nat.le_trans K0.1 (Nat.le_of_eq g1.symm)
      have f2 := S_y_SHORTEST.ext E1
      have f3 := S_y_LONGEST.ext E1
      have K1 := K0.ext E1
      have Z1 := Nat.le_trans Z0 E1.1
      have f4 : Fld Z h1 b1 "com/example/pooler/pooler/pool/Backoff" "tried" "Z" (.int (0 : Int32)) := D1 (Or.inl (hw _ (List.mem_of_getElem? (i := 15) rfl))) (ty := .boolean) (by decide)
      have f5 : Fld Z h1 b1 "com/example/pooler/pooler/pool/Backoff" "endedAt" "J" (.long (0 : Int64)) := D1 (Or.inl (hw _ (List.mem_of_getElem? (i := 30) rfl))) (ty := .long) (by decide)
      have f6 : Fld Z h1 b1 "com/example/pooler/pooler/pool/Backoff" "failuresInARow" "I" (.int (0 : Int32)) := D1 (Or.inl (hw _ (List.mem_of_getElem? (i := 32) rfl))) (ty := .int) (by decide)
      refine Goes.go st1 ?_
      show Goes p e below s _ _ _ T1 (mkF m 45 #[.val (.int x0), .val (.long x1), .second, .val (.long x2), .second, .val (.long x3), .second, .val (.int ff), .val (.int (0 : Int32)), .val (.int (0 : Int32)), .val (.int tot), .val (.int lst), .unset, .unset, .unset, .unset, .unset, .unset, .unset, .unset, .unset, .unset, .unset, .unset, .unset] [(.ref b1)])
      refine own_dup X1 hx 46 rfl (hb hby at_45) rfl ?_
      obtain ⟨_, _, ⟨T7, L7, k7, n7⟩, -, X7, ⟨Lc7, hQ7, l7, y7, z7⟩, st7⟩ := X1.specialBack hx (y := (⟨"com/example/pooler/pooler/pool/Backoff", "<init>", "()V"⟩ : MethodName)) rfl hown (mvT hZ (hw _ (List.mem_of_getElem? (i := 3) rfl))) (mvT hZ (hw _ (List.mem_of_getElem? (i := 4) rfl))) (mvT hZ (hw _ (List.mem_of_getElem? (i := 5) rfl))) (by decide) (backOf (W := 1) (rm1 l Z a0 hw [] b1 h1 n0 Z1 ) hZ (hw _ (List.mem_of_getElem? (i := 5) rfl)) (hw _ (List.mem_of_getElem? (i := 2) rfl)) (by decide) (by decide)) (g := (mkF m 46 #[.val (.int x0), .val (.long x1), .second, .val (.long x2), .second, .val (.long x3), .second, .val (.int ff), .val (.int (0 : Int32)), .val (.int (0 : Int32)), .val (.int tot), .val (.int lst), .unset, .unset, .unset, .unset, .unset, .unset, .unset, .unset, .unset, .unset, .unset, .unset, .unset] [(.ref b1), (.ref b1)])) rfl (by rw [hml]; rfl) (Steps.refl _) (a := b1) (argsL := []) (rest := [(.ref b1)]) (lenOf own_pd3 rfl) rfl (by show 2 * 0 + _ ≤ _; exact Nat.le_of_eq rfl) (hb hby at_46) (fun _ _ => ⟨rfl, e1, (by decide : 1 + 0 ≤ _), (by decide : 3 + 0 ≤ _)⟩)
      dsimp only [Pt.U, Pt.locs, Pt.cells, Pt.slots] at X7 l7 y7 z7 st7 hQ7
      subst l7 y7 z7
      obtain ⟨rfl, N7q, eh7⟩ := hQ7
      have N7 := Fr.app N0 N7q
      refine Goes.tr st7 ?_
      show Goes p e below s _ _ _ T7 (mkF m 49 #[.val (.int x0), .val (.long x1), .second, .val (.long x2), .second, .val (.long x3), .second, .val (.int ff), .val (.int (0 : Int32)), .val (.int (0 : Int32)), .val (.int tot), .val (.int lst), .unset, .unset, .unset, .unset, .unset, .unset, .unset, .unset, .unset, .unset, .unset, .unset, .unset] [(.ref b1)])
      refine own_astore X7 hx 51 rfl #[.val (.int x0), .val (.long x1), .second, .val (.long x2), .second, .val (.long x3), .second, .val (.int ff), .val (.int (0 : Int32)), .val (.int (0 : Int32)), .val (.int tot), .val (.int lst), .val (.ref b1), .unset, .unset, .unset, .unset, .unset, .unset, .unset, .unset, .unset, .unset, .unset, .unset] (hb hby at_49) rfl rfl ?_
      refine own_iconst X7 hx 52 rfl (0 : Int32) (hb hby at_51) (by decide) ?_
      refine own_istore X7 hx 54 rfl #[.val (.int x0), .val (.long x1), .second, .val (.long x2), .second, .val (.long x3), .second, .val (.int ff), .val (.int (0 : Int32)), .val (.int (0 : Int32)), .val (.int tot), .val (.int lst), .val (.ref b1), .val (.int (0 : Int32)), .unset, .unset, .unset, .unset, .unset, .unset, .unset, .unset, .unset, .unset, .unset] (hb hby at_52) rfl ?_
      refine own_iload X7 hx 56 rfl (hb hby at_54) rfl ?_
      refine own_iconst X7 hx 57 rfl (1 : Int32) (hb hby at_56) (by decide) ?_
      refine own_icmpY X7 hx 77 (hb hby at_57) (feq ((by decide) : ¬ ((0 : Int32) = (1 : Int32)))).2 (by decide) (by decide) ?_
      refine own_iload X7 hx 79 rfl (hb hby at_77) rfl ?_
      refine own_iconst X7 hx 80 rfl (1 : Int32) (hb hby at_79) (by decide) ?_
      refine own_icmpY X7 hx 100 (hb hby at_80) (feq ((by decide) : ¬ ((0 : Int32) = (1 : Int32)))).2 (by decide) (by decide) ?_
      refine own_iload X7 hx 102 rfl (hb hby at_100) rfl ?_
      by_cases hc102_8 : (0 : Int32) < ff
      · refine own_ifN X7 hx 105 (hb hby at_102) ((if0 _ _).trans (tlt hc102_8).2.2.2) rfl ?_
        refine own_aload X7 hx 107 rfl (hb hby at_105) rfl rfl ?_
        refine own_iload X7 hx 109 rfl (hb hby at_107) rfl ?_
        refine own_iload X7 hx 111 rfl (hb hby at_109) rfl ?_
        refine own_lloadN X7 hx 112 rfl (hb hby at_111) rfl ?_
        refine own_lloadN X7 hx 113 rfl (hb hby at_112) rfl ?_
        obtain ⟨_, _, ⟨T9, L9, k9, n9⟩, -, X9, ⟨Lc9, hQ9, l9, y9, z9⟩, st9⟩ := Jvm.LawKit.callS X7 hx (y := (⟨"com/example/pooler/pooler/pool/BackoffDelayPinLaw", "at", "(IIJJ)J"⟩ : MethodName)) hown (mvT hZ (hw _ (List.mem_of_getElem? (i := 16) rfl))) (mvT hZ (hw _ (List.mem_of_getElem? (i := 17) rfl))) (mvT hZ (hw _ (List.mem_of_getElem? (i := 18) rfl))) (mvT hZ (hw _ (List.mem_of_getElem? (i := 19) rfl))) (by decide) (backOf (W := 1) (rm4 l Z a0 hw [] (0 : Int32) lst x1 x2 h1 n0 Z1 ) hZ (hw _ (List.mem_of_getElem? (i := 19) rfl)) (hw _ (List.mem_of_getElem? (i := 18) rfl)) (by decide) (by decide)) (g := (mkF m 113 #[.val (.int x0), .val (.long x1), .second, .val (.long x2), .second, .val (.long x3), .second, .val (.int ff), .val (.int (0 : Int32)), .val (.int (0 : Int32)), .val (.int tot), .val (.int lst), .val (.ref b1), .val (.int (0 : Int32)), .unset, .unset, .unset, .unset, .unset, .unset, .unset, .unset, .unset, .unset, .unset] [(.long x2), (.long x1), (.int lst), (.int (0 : Int32)), (.ref b1)])) rfl (by rw [hml]; rfl) (argsL := [(.int (0 : Int32)), (.int lst), (.long x1), (.long x2)]) (rest := [(.ref b1)]) (lenOf own_pd4 rfl) rfl (by show 2 * 0 + _ ≤ _; exact Nat.le_of_eq rfl) (hb hby at_113) (fun _ _ => ⟨rfl, eh7, (by decide : 1 + 0 ≤ _), (by decide : 3 + 0 ≤ _)⟩)
        dsimp only [Pt.U, Pt.locs, Pt.cells, Pt.slots] at X9 l9 y9 z9 st9 hQ9
        subst l9 y9 z9
        obtain ⟨ar_9, rfl, N9q, eh9, pr9_0⟩ := hQ9
        have N9 := Fr.app N7 N9q
        refine Goes.go st9 ?_
        show Goes p e below s _ _ _ T9 (mkF m 116 #[.val (.int x0), .val (.long x1), .second, .val (.long x2), .second, .val (.long x3), .second, .val (.int ff), .val (.int (0 : Int32)), .val (.int (0 : Int32)), .val (.int tot), .val (.int lst), .val (.ref b1), .val (.int (0 : Int32)), .unset, .unset, .unset, .unset, .unset, .unset, .unset, .unset, .unset, .unset, .unset] [(.long ar_9), (.ref b1)])
        obtain ⟨cq10, kq10, q10a, q10b, q10c⟩ := isOf hZ eh9 A1
        obtain ⟨_, _, ⟨T10, L10, k10, n10⟩, -, X10, ⟨Lc10, hQ10, l10, y10, z10⟩, st10⟩ := X9.virtualBack hx (y := (⟨"com/example/pooler/pooler/pool/Backoff", "failed", "(J)V"⟩ : MethodName)) (z := (⟨"com/example/pooler/pooler/pool/Backoff", "failed", "(J)V"⟩ : MethodName)) hown (mvT hZ (hw _ (List.mem_of_getElem? (i := 20) rfl))) (mvT hZ (hw _ (List.mem_of_getElem? (i := 21) rfl))) (notFace_of_selects (args := #[]) (mvT hZ (hw _ (List.mem_of_getElem? (i := 23) rfl)))) (mvT hZ (hw _ (List.mem_of_getElem? (i := 23) rfl))) (mvT hZ (hw _ (List.mem_of_getElem? (i := 22) rfl))) (by decide) (backOf (W := 0) (rmfa0 l Z a0 hw [] b1 ar_9 (0 : Int32) (0 : Int64) h1 n0 Z1 A1 G1 f4 f5 f6) hZ (hw _ (List.mem_of_getElem? (i := 24) rfl)) (hw _ (List.mem_of_getElem? (i := 2) rfl)) (by decide) (by decide)) q10a q10c (g := (mkF m 116 #[.val (.int x0), .val (.long x1), .second, .val (.long x2), .second, .val (.long x3), .second, .val (.int ff), .val (.int (0 : Int32)), .val (.int (0 : Int32)), .val (.int tot), .val (.int lst), .val (.ref b1), .val (.int (0 : Int32)), .unset, .unset, .unset, .unset, .unset, .unset, .unset, .unset, .unset, .unset, .unset] [(.long ar_9), (.ref b1)])) rfl (by rw [hml]; rfl) (Steps.refl _) (argsL := [(.long ar_9)]) (rest := []) (lenOf own_pd0 rfl) rfl (by show 2 * 0 + _ ≤ _; exact Nat.le_of_eq rfl) (hb hby at_116) (fun _ _ => ⟨rfl, eh9, (by decide : 1 + 0 ≤ _), (by decide : 3 + 0 ≤ _)⟩)
        dsimp only [Pt.U, Pt.locs, Pt.cells, Pt.slots] at X10 l10 y10 z10 st10 hQ10
        subst l10 y10 z10
        obtain ⟨rfl, N10q, K10q, f10_0, f10_1, f10_2⟩ := hQ10
        have N10 := Fr.app N9 N10q
        have f11 := own_sta_keep f2 K10q (allS (own_eplain A1) all0)
        have f12 := own_sta_keep f3 K10q (allS (own_eplain A1) all0)
        have f13 := A1.keep K10q
        have K10 := K1.trans K10q (allS (Or.inr H1) all0)
        have Z10 := Nat.le_trans Z1 K10q.1
        refine Goes.tr st10 ?_
        show Goes p e below s _ _ _ T10 (mkF m 119 #[.val (.int x0), .val (.long x1), .second, .val (.long x2), .second, .val (.long x3), .second, .val (.int ff), .val (.int (0 : Int32)), .val (.int (0 : Int32)), .val (.int tot), .val (.int lst), .val (.ref b1), .val (.int (0 : Int32)), .unset, .unset, .unset, .unset, .unset, .unset, .unset, .unset, .unset, .unset, .unset] [])
        refine own_iinc X10 hx 122 rfl #[.val (.int x0), .val (.long x1), .second, .val (.long x2), .second, .val (.long x3), .second, .val (.int ff), .val (.int (0 : Int32)), .val (.int (0 : Int32)), .val (.int tot), .val (.int lst), .val (.ref b1), .val (.int (1 : Int32)), .unset, .unset, .unset, .unset, .unset, .unset, .unset, .unset, .unset, .unset, .unset] (hb hby at_119) rfl (by decide) rfl ?_
        refine own_iload X10 hx 124 rfl (hb hby at_122) rfl ?_
        refine own_iconst X10 hx 125 rfl (1 : Int32) (hb hby at_124) (by decide) ?_
        by_cases hc125_14 : (1 : Int32) < ff
        · refine own_icmpN X10 hx 128 (hb hby at_125) (tlt hc125_14).2.2.2 rfl ?_
          refine own_aload X10 hx 130 rfl (hb hby at_128) rfl rfl ?_
          refine own_iload X10 hx 132 rfl (hb hby at_130) rfl ?_
          refine own_iload X10 hx 134 rfl (hb hby at_132) rfl ?_
          refine own_lloadN X10 hx 135 rfl (hb hby at_134) rfl ?_
          refine own_lloadN X10 hx 136 rfl (hb hby at_135) rfl ?_
          obtain ⟨_, _, ⟨T15, L15, k15, n15⟩, -, X15, ⟨Lc15, hQ15, l15, y15, z15⟩, st15⟩ := Jvm.LawKit.callS X10 hx (y := (⟨"com/example/pooler/pooler/pool/BackoffDelayPinLaw", "at", "(IIJJ)J"⟩ : MethodName)) hown (mvT hZ (hw _ (List.mem_of_getElem? (i := 16) rfl))) (mvT hZ (hw _ (List.mem_of_getElem? (i := 17) rfl))) (mvT hZ (hw _ (List.mem_of_getElem? (i := 18) rfl))) (mvT hZ (hw _ (List.mem_of_getElem? (i := 19) rfl))) (by decide) (backOf (W := 1) (rm4 l Z a0 hw [] (1 : Int32) lst x1 x2 T10.heap n0 Z10 ) hZ (hw _ (List.mem_of_getElem? (i := 19) rfl)) (hw _ (List.mem_of_getElem? (i := 18) rfl)) (by decide) (by decide)) (g := (mkF m 136 #[.val (.int x0), .val (.long x1), .second, .val (.long x2), .second, .val (.long x3), .second, .val (.int ff), .val (.int (0 : Int32)), .val (.int (0 : Int32)), .val (.int tot), .val (.int lst), .val (.ref b1), .val (.int (1 : Int32)), .unset, .unset, .unset, .unset, .unset, .unset, .unset, .unset, .unset, .unset, .unset] [(.long x2), (.long x1), (.int lst), (.int (1 : Int32)), (.ref b1)])) rfl (by rw [hml]; rfl) (argsL := [(.int (1 : Int32)), (.int lst), (.long x1), (.long x2)]) (rest := [(.ref b1)]) (lenOf own_pd4 rfl) rfl (by show 2 * 0 + _ ≤ _; exact Nat.le_of_eq rfl) (hb hby at_136) (fun _ _ => ⟨rfl, rfl, (by decide : 1 + 0 ≤ _), (by decide : 3 + 0 ≤ _)⟩)
          dsimp only [Pt.U, Pt.locs, Pt.cells, Pt.slots] at X15 l15 y15 z15 st15 hQ15
          subst l15 y15 z15
          obtain ⟨ar_15, rfl, N15q, eh15, pr15_0⟩ := hQ15
          have N15 := Fr.app N10 N15q
          refine Goes.go st15 ?_
          show Goes p e below s _ _ _ T15 (mkF m 139 #[.val (.int x0), .val (.long x1), .second, .val (.long x2), .second, .val (.long x3), .second, .val (.int ff), .val (.int (0 : Int32)), .val (.int (0 : Int32)), .val (.int tot), .val (.int lst), .val (.ref b1), .val (.int (1 : Int32)), .unset, .unset, .unset, .unset, .unset, .unset, .unset, .unset, .unset, .unset, .unset] [(.long ar_15), (.ref b1)])
          obtain ⟨cq16, kq16, q16a, q16b, q16c⟩ := isOf hZ eh15 f13
          obtain ⟨_, _, ⟨T16, L16, k16, n16⟩, -, X16, ⟨Lc16, hQ16, l16, y16, z16⟩, st16⟩ := X15.virtualBack hx (y := (⟨"com/example/pooler/pooler/pool/Backoff", "failed", "(J)V"⟩ : MethodName)) (z := (⟨"com/example/pooler/pooler/pool/Backoff", "failed", "(J)V"⟩ : MethodName)) hown (mvT hZ (hw _ (List.mem_of_getElem? (i := 20) rfl))) (mvT hZ (hw _ (List.mem_of_getElem? (i := 21) rfl))) (notFace_of_selects (args := #[]) (mvT hZ (hw _ (List.mem_of_getElem? (i := 23) rfl)))) (mvT hZ (hw _ (List.mem_of_getElem? (i := 23) rfl))) (mvT hZ (hw _ (List.mem_of_getElem? (i := 22) rfl))) (by decide) (backOf (W := 0) (rmfa1 l Z a0 hw [] b1 ar_15 (1 : Int32) ar_9 T10.heap n0 Z10 f13 G1 f10_0 f10_1 f10_2) hZ (hw _ (List.mem_of_getElem? (i := 24) rfl)) (hw _ (List.mem_of_getElem? (i := 2) rfl)) (by decide) (by decide)) q16a q16c (g := (mkF m 139 #[.val (.int x0), .val (.long x1), .second, .val (.long x2), .second, .val (.long x3), .second, .val (.int ff), .val (.int (0 : Int32)), .val (.int (0 : Int32)), .val (.int tot), .val (.int lst), .val (.ref b1), .val (.int (1 : Int32)), .unset, .unset, .unset, .unset, .unset, .unset, .unset, .unset, .unset, .unset, .unset] [(.long ar_15), (.ref b1)])) rfl (by rw [hml]; rfl) (Steps.refl _) (argsL := [(.long ar_15)]) (rest := []) (lenOf own_pd0 rfl) rfl (by show 2 * 0 + _ ≤ _; exact Nat.le_of_eq rfl) (hb hby at_139) (fun _ _ => ⟨rfl, eh15, (by decide : 1 + 0 ≤ _), (by decide : 3 + 0 ≤ _)⟩)
          dsimp only [Pt.U, Pt.locs, Pt.cells, Pt.slots] at X16 l16 y16 z16 st16 hQ16
          subst l16 y16 z16
          obtain ⟨rfl, N16q, K16q, f16_0, f16_1, f16_2⟩ := hQ16
          have N16 := Fr.app N15 N16q
          have f17 := own_sta_keep f11 K16q (allS (own_eplain f13) all0)
          have f18 := own_sta_keep f12 K16q (allS (own_eplain f13) all0)
          have f19 := f13.keep K16q
          have K16 := K10.trans K16q (allS (Or.inr H1) all0)
          have Z16 := Nat.le_trans Z10 K16q.1
          refine Goes.tr st16 ?_
          show Goes p e below s _ _ _ T16 (mkF m 142 #[.val (.int x0), .val (.long x1), .second, .val (.long x2), .second, .val (.long x3), .second, .val (.int ff), .val (.int (0 : Int32)), .val (.int (0 : Int32)), .val (.int tot), .val (.int lst), .val (.ref b1), .val (.int (1 : Int32)), .unset, .unset, .unset, .unset, .unset, .unset, .unset, .unset, .unset, .unset, .unset] [])
          refine own_iinc X16 hx 145 rfl #[.val (.int x0), .val (.long x1), .second, .val (.long x2), .second, .val (.long x3), .second, .val (.int ff), .val (.int (0 : Int32)), .val (.int (0 : Int32)), .val (.int tot), .val (.int lst), .val (.ref b1), .val (.int (2 : Int32)), .unset, .unset, .unset, .unset, .unset, .unset, .unset, .unset, .unset, .unset, .unset] (hb hby at_142) rfl (by decide) rfl ?_
          refine own_iload X16 hx 147 rfl (hb hby at_145) rfl ?_
          refine own_iconst X16 hx 148 rfl (2 : Int32) (hb hby at_147) (by decide) ?_
          by_cases hc148_20 : (2 : Int32) < ff
          · refine own_icmpN X16 hx 151 (hb hby at_148) (tlt hc148_20).2.2.2 rfl ?_
            refine own_aload X16 hx 153 rfl (hb hby at_151) rfl rfl ?_
            refine own_iload X16 hx 155 rfl (hb hby at_153) rfl ?_
            refine own_iload X16 hx 157 rfl (hb hby at_155) rfl ?_
            refine own_lloadN X16 hx 158 rfl (hb hby at_157) rfl ?_
            refine own_lloadN X16 hx 159 rfl (hb hby at_158) rfl ?_
            obtain ⟨_, _, ⟨T21, L21, k21, n21⟩, -, X21, ⟨Lc21, hQ21, l21, y21, z21⟩, st21⟩ := Jvm.LawKit.callS X16 hx (y := (⟨"com/example/pooler/pooler/pool/BackoffDelayPinLaw", "at", "(IIJJ)J"⟩ : MethodName)) hown (mvT hZ (hw _ (List.mem_of_getElem? (i := 16) rfl))) (mvT hZ (hw _ (List.mem_of_getElem? (i := 17) rfl))) (mvT hZ (hw _ (List.mem_of_getElem? (i := 18) rfl))) (mvT hZ (hw _ (List.mem_of_getElem? (i := 19) rfl))) (by decide) (backOf (W := 1) (rm4 l Z a0 hw [] (2 : Int32) lst x1 x2 T16.heap n0 Z16 ) hZ (hw _ (List.mem_of_getElem? (i := 19) rfl)) (hw _ (List.mem_of_getElem? (i := 18) rfl)) (by decide) (by decide)) (g := (mkF m 159 #[.val (.int x0), .val (.long x1), .second, .val (.long x2), .second, .val (.long x3), .second, .val (.int ff), .val (.int (0 : Int32)), .val (.int (0 : Int32)), .val (.int tot), .val (.int lst), .val (.ref b1), .val (.int (2 : Int32)), .unset, .unset, .unset, .unset, .unset, .unset, .unset, .unset, .unset, .unset, .unset] [(.long x2), (.long x1), (.int lst), (.int (2 : Int32)), (.ref b1)])) rfl (by rw [hml]; rfl) (argsL := [(.int (2 : Int32)), (.int lst), (.long x1), (.long x2)]) (rest := [(.ref b1)]) (lenOf own_pd4 rfl) rfl (by show 2 * 0 + _ ≤ _; exact Nat.le_of_eq rfl) (hb hby at_159) (fun _ _ => ⟨rfl, rfl, (by decide : 1 + 0 ≤ _), (by decide : 3 + 0 ≤ _)⟩)
            dsimp only [Pt.U, Pt.locs, Pt.cells, Pt.slots] at X21 l21 y21 z21 st21 hQ21
            subst l21 y21 z21
            obtain ⟨ar_21, rfl, N21q, eh21, pr21_0⟩ := hQ21
            have N21 := Fr.app N16 N21q
            refine Goes.go st21 ?_
            show Goes p e below s _ _ _ T21 (mkF m 162 #[.val (.int x0), .val (.long x1), .second, .val (.long x2), .second, .val (.long x3), .second, .val (.int ff), .val (.int (0 : Int32)), .val (.int (0 : Int32)), .val (.int tot), .val (.int lst), .val (.ref b1), .val (.int (2 : Int32)), .unset, .unset, .unset, .unset, .unset, .unset, .unset, .unset, .unset, .unset, .unset] [(.long ar_21), (.ref b1)])
            obtain ⟨cq22, kq22, q22a, q22b, q22c⟩ := isOf hZ eh21 f19
            obtain ⟨_, _, ⟨T22, L22, k22, n22⟩, -, X22, ⟨Lc22, hQ22, l22, y22, z22⟩, st22⟩ := X21.virtualBack hx (y := (⟨"com/example/pooler/pooler/pool/Backoff", "failed", "(J)V"⟩ : MethodName)) (z := (⟨"com/example/pooler/pooler/pool/Backoff", "failed", "(J)V"⟩ : MethodName)) hown (mvT hZ (hw _ (List.mem_of_getElem? (i := 20) rfl))) (mvT hZ (hw _ (List.mem_of_getElem? (i := 21) rfl))) (notFace_of_selects (args := #[]) (mvT hZ (hw _ (List.mem_of_getElem? (i := 23) rfl)))) (mvT hZ (hw _ (List.mem_of_getElem? (i := 23) rfl))) (mvT hZ (hw _ (List.mem_of_getElem? (i := 22) rfl))) (by decide) (backOf (W := 0) (rmfa2 l Z a0 hw [] b1 ar_21 (1 : Int32) ar_15 T16.heap n0 Z16 f19 G1 f16_0 f16_1 f16_2) hZ (hw _ (List.mem_of_getElem? (i := 24) rfl)) (hw _ (List.mem_of_getElem? (i := 2) rfl)) (by decide) (by decide)) q22a q22c (g := (mkF m 162 #[.val (.int x0), .val (.long x1), .second, .val (.long x2), .second, .val (.long x3), .second, .val (.int ff), .val (.int (0 : Int32)), .val (.int (0 : Int32)), .val (.int tot), .val (.int lst), .val (.ref b1), .val (.int (2 : Int32)), .unset, .unset, .unset, .unset, .unset, .unset, .unset, .unset, .unset, .unset, .unset] [(.long ar_21), (.ref b1)])) rfl (by rw [hml]; rfl) (Steps.refl _) (argsL := [(.long ar_21)]) (rest := []) (lenOf own_pd0 rfl) rfl (by show 2 * 0 + _ ≤ _; exact Nat.le_of_eq rfl) (hb hby at_162) (fun _ _ => ⟨rfl, eh21, (by decide : 1 + 0 ≤ _), (by decide : 3 + 0 ≤ _)⟩)
            dsimp only [Pt.U, Pt.locs, Pt.cells, Pt.slots] at X22 l22 y22 z22 st22 hQ22
            subst l22 y22 z22
            obtain ⟨rfl, N22q, K22q, f22_0, f22_1, f22_2⟩ := hQ22
            have N22 := Fr.app N21 N22q
            have f23 := own_sta_keep f17 K22q (allS (own_eplain f19) all0)
            have f24 := own_sta_keep f18 K22q (allS (own_eplain f19) all0)
            have f25 := f19.keep K22q
            have K22 := K16.trans K22q (allS (Or.inr H1) all0)
            have Z22 := Nat.le_trans Z16 K22q.1
            refine Goes.tr st22 ?_
            show Goes p e below s _ _ _ T22 (mkF m 165 #[.val (.int x0), .val (.long x1), .second, .val (.long x2), .second, .val (.long x3), .second, .val (.int ff), .val (.int (0 : Int32)), .val (.int (0 : Int32)), .val (.int tot), .val (.int lst), .val (.ref b1), .val (.int (2 : Int32)), .unset, .unset, .unset, .unset, .unset, .unset, .unset, .unset, .unset, .unset, .unset] [])
            refine own_iinc X22 hx 168 rfl #[.val (.int x0), .val (.long x1), .second, .val (.long x2), .second, .val (.long x3), .second, .val (.int ff), .val (.int (0 : Int32)), .val (.int (0 : Int32)), .val (.int tot), .val (.int lst), .val (.ref b1), .val (.int (3 : Int32)), .unset, .unset, .unset, .unset, .unset, .unset, .unset, .unset, .unset, .unset, .unset] (hb hby at_165) rfl (by decide) rfl ?_
            refine own_iload X22 hx 170 rfl (hb hby at_168) rfl ?_
            refine own_iconst X22 hx 171 rfl (3 : Int32) (hb hby at_170) (by decide) ?_
            by_cases hc171_26 : (3 : Int32) < ff
            · refine own_icmpN X22 hx 174 (hb hby at_171) (tlt hc171_26).2.2.2 rfl ?_
              refine own_aload X22 hx 176 rfl (hb hby at_174) rfl rfl ?_
              refine own_iload X22 hx 178 rfl (hb hby at_176) rfl ?_
              refine own_iload X22 hx 180 rfl (hb hby at_178) rfl ?_
              refine own_lloadN X22 hx 181 rfl (hb hby at_180) rfl ?_
              refine own_lloadN X22 hx 182 rfl (hb hby at_181) rfl ?_
              obtain ⟨_, _, ⟨T27, L27, k27, n27⟩, -, X27, ⟨Lc27, hQ27, l27, y27, z27⟩, st27⟩ := Jvm.LawKit.callS X22 hx (y := (⟨"com/example/pooler/pooler/pool/BackoffDelayPinLaw", "at", "(IIJJ)J"⟩ : MethodName)) hown (mvT hZ (hw _ (List.mem_of_getElem? (i := 16) rfl))) (mvT hZ (hw _ (List.mem_of_getElem? (i := 17) rfl))) (mvT hZ (hw _ (List.mem_of_getElem? (i := 18) rfl))) (mvT hZ (hw _ (List.mem_of_getElem? (i := 19) rfl))) (by decide) (backOf (W := 1) (rm4 l Z a0 hw [] (3 : Int32) lst x1 x2 T22.heap n0 Z22 ) hZ (hw _ (List.mem_of_getElem? (i := 19) rfl)) (hw _ (List.mem_of_getElem? (i := 18) rfl)) (by decide) (by decide)) (g := (mkF m 182 #[.val (.int x0), .val (.long x1), .second, .val (.long x2), .second, .val (.long x3), .second, .val (.int ff), .val (.int (0 : Int32)), .val (.int (0 : Int32)), .val (.int tot), .val (.int lst), .val (.ref b1), .val (.int (3 : Int32)), .unset, .unset, .unset, .unset, .unset, .unset, .unset, .unset, .unset, .unset, .unset] [(.long x2), (.long x1), (.int lst), (.int (3 : Int32)), (.ref b1)])) rfl (by rw [hml]; rfl) (argsL := [(.int (3 : Int32)), (.int lst), (.long x1), (.long x2)]) (rest := [(.ref b1)]) (lenOf own_pd4 rfl) rfl (by show 2 * 0 + _ ≤ _; exact Nat.le_of_eq rfl) (hb hby at_182) (fun _ _ => ⟨rfl, rfl, (by decide : 1 + 0 ≤ _), (by decide : 3 + 0 ≤ _)⟩)
              dsimp only [Pt.U, Pt.locs, Pt.cells, Pt.slots] at X27 l27 y27 z27 st27 hQ27
              subst l27 y27 z27
              obtain ⟨ar_27, rfl, N27q, eh27, pr27_0⟩ := hQ27
              have N27 := Fr.app N22 N27q
              refine Goes.go st27 ?_
              show Goes p e below s _ _ _ T27 (mkF m 185 #[.val (.int x0), .val (.long x1), .second, .val (.long x2), .second, .val (.long x3), .second, .val (.int ff), .val (.int (0 : Int32)), .val (.int (0 : Int32)), .val (.int tot), .val (.int lst), .val (.ref b1), .val (.int (3 : Int32)), .unset, .unset, .unset, .unset, .unset, .unset, .unset, .unset, .unset, .unset, .unset] [(.long ar_27), (.ref b1)])
              obtain ⟨cq28, kq28, q28a, q28b, q28c⟩ := isOf hZ eh27 f25
              obtain ⟨_, _, ⟨T28, L28, k28, n28⟩, -, X28, ⟨Lc28, hQ28, l28, y28, z28⟩, st28⟩ := X27.virtualBack hx (y := (⟨"com/example/pooler/pooler/pool/Backoff", "failed", "(J)V"⟩ : MethodName)) (z := (⟨"com/example/pooler/pooler/pool/Backoff", "failed", "(J)V"⟩ : MethodName)) hown (mvT hZ (hw _ (List.mem_of_getElem? (i := 20) rfl))) (mvT hZ (hw _ (List.mem_of_getElem? (i := 21) rfl))) (notFace_of_selects (args := #[]) (mvT hZ (hw _ (List.mem_of_getElem? (i := 23) rfl)))) (mvT hZ (hw _ (List.mem_of_getElem? (i := 23) rfl))) (mvT hZ (hw _ (List.mem_of_getElem? (i := 22) rfl))) (by decide) (backOf (W := 0) (rmfa3 l Z a0 hw [] b1 ar_27 (1 : Int32) ar_21 T22.heap n0 Z22 f25 G1 f22_0 f22_1 f22_2) hZ (hw _ (List.mem_of_getElem? (i := 24) rfl)) (hw _ (List.mem_of_getElem? (i := 2) rfl)) (by decide) (by decide)) q28a q28c (g := (mkF m 185 #[.val (.int x0), .val (.long x1), .second, .val (.long x2), .second, .val (.long x3), .second, .val (.int ff), .val (.int (0 : Int32)), .val (.int (0 : Int32)), .val (.int tot), .val (.int lst), .val (.ref b1), .val (.int (3 : Int32)), .unset, .unset, .unset, .unset, .unset, .unset, .unset, .unset, .unset, .unset, .unset] [(.long ar_27), (.ref b1)])) rfl (by rw [hml]; rfl) (Steps.refl _) (argsL := [(.long ar_27)]) (rest := []) (lenOf own_pd0 rfl) rfl (by show 2 * 0 + _ ≤ _; exact Nat.le_of_eq rfl) (hb hby at_185) (fun _ _ => ⟨rfl, eh27, (by decide : 1 + 0 ≤ _), (by decide : 3 + 0 ≤ _)⟩)
              dsimp only [Pt.U, Pt.locs, Pt.cells, Pt.slots] at X28 l28 y28 z28 st28 hQ28
              subst l28 y28 z28
              obtain ⟨rfl, N28q, K28q, f28_0, f28_1, f28_2⟩ := hQ28
              have N28 := Fr.app N27 N28q
              have f29 := own_sta_keep f23 K28q (allS (own_eplain f25) all0)
              have f30 := own_sta_keep f24 K28q (allS (own_eplain f25) all0)
              have f31 := f25.keep K28q
              have K28 := K22.trans K28q (allS (Or.inr H1) all0)
              have Z28 := Nat.le_trans Z22 K28q.1
              refine Goes.tr st28 ?_
              show Goes p e below s _ _ _ T28 (mkF m 188 #[.val (.int x0), .val (.long x1), .second, .val (.long x2), .second, .val (.long x3), .second, .val (.int ff), .val (.int (0 : Int32)), .val (.int (0 : Int32)), .val (.int tot), .val (.int lst), .val (.ref b1), .val (.int (3 : Int32)), .unset, .unset, .unset, .unset, .unset, .unset, .unset, .unset, .unset, .unset, .unset] [])
              refine own_iinc X28 hx 191 rfl #[.val (.int x0), .val (.long x1), .second, .val (.long x2), .second, .val (.long x3), .second, .val (.int ff), .val (.int (0 : Int32)), .val (.int (0 : Int32)), .val (.int tot), .val (.int lst), .val (.ref b1), .val (.int (4 : Int32)), .unset, .unset, .unset, .unset, .unset, .unset, .unset, .unset, .unset, .unset, .unset] (hb hby at_188) rfl (by decide) rfl ?_
              refine own_iload X28 hx 193 rfl (hb hby at_191) rfl ?_
              refine own_iconst X28 hx 194 rfl (4 : Int32) (hb hby at_193) (by decide) ?_
              by_cases hc194_32 : (4 : Int32) < ff
              · refine own_icmpN X28 hx 197 (hb hby at_194) (tlt hc194_32).2.2.2 rfl ?_
                refine own_aload X28 hx 199 rfl (hb hby at_197) rfl rfl ?_
                refine own_iload X28 hx 201 rfl (hb hby at_199) rfl ?_
                refine own_iload X28 hx 203 rfl (hb hby at_201) rfl ?_
                refine own_lloadN X28 hx 204 rfl (hb hby at_203) rfl ?_
                refine own_lloadN X28 hx 205 rfl (hb hby at_204) rfl ?_
                obtain ⟨_, _, ⟨T33, L33, k33, n33⟩, -, X33, ⟨Lc33, hQ33, l33, y33, z33⟩, st33⟩ := Jvm.LawKit.callS X28 hx (y := (⟨"com/example/pooler/pooler/pool/BackoffDelayPinLaw", "at", "(IIJJ)J"⟩ : MethodName)) hown (mvT hZ (hw _ (List.mem_of_getElem? (i := 16) rfl))) (mvT hZ (hw _ (List.mem_of_getElem? (i := 17) rfl))) (mvT hZ (hw _ (List.mem_of_getElem? (i := 18) rfl))) (mvT hZ (hw _ (List.mem_of_getElem? (i := 19) rfl))) (by decide) (backOf (W := 1) (rm4 l Z a0 hw [] (4 : Int32) lst x1 x2 T28.heap n0 Z28 ) hZ (hw _ (List.mem_of_getElem? (i := 19) rfl)) (hw _ (List.mem_of_getElem? (i := 18) rfl)) (by decide) (by decide)) (g := (mkF m 205 #[.val (.int x0), .val (.long x1), .second, .val (.long x2), .second, .val (.long x3), .second, .val (.int ff), .val (.int (0 : Int32)), .val (.int (0 : Int32)), .val (.int tot), .val (.int lst), .val (.ref b1), .val (.int (4 : Int32)), .unset, .unset, .unset, .unset, .unset, .unset, .unset, .unset, .unset, .unset, .unset] [(.long x2), (.long x1), (.int lst), (.int (4 : Int32)), (.ref b1)])) rfl (by rw [hml]; rfl) (argsL := [(.int (4 : Int32)), (.int lst), (.long x1), (.long x2)]) (rest := [(.ref b1)]) (lenOf own_pd4 rfl) rfl (by show 2 * 0 + _ ≤ _; exact Nat.le_of_eq rfl) (hb hby at_205) (fun _ _ => ⟨rfl, rfl, (by decide : 1 + 0 ≤ _), (by decide : 3 + 0 ≤ _)⟩)
                dsimp only [Pt.U, Pt.locs, Pt.cells, Pt.slots] at X33 l33 y33 z33 st33 hQ33
                subst l33 y33 z33
                obtain ⟨ar_33, rfl, N33q, eh33, pr33_0⟩ := hQ33
                have N33 := Fr.app N28 N33q
                refine Goes.go st33 ?_
                show Goes p e below s _ _ _ T33 (mkF m 208 #[.val (.int x0), .val (.long x1), .second, .val (.long x2), .second, .val (.long x3), .second, .val (.int ff), .val (.int (0 : Int32)), .val (.int (0 : Int32)), .val (.int tot), .val (.int lst), .val (.ref b1), .val (.int (4 : Int32)), .unset, .unset, .unset, .unset, .unset, .unset, .unset, .unset, .unset, .unset, .unset] [(.long ar_33), (.ref b1)])
                obtain ⟨cq34, kq34, q34a, q34b, q34c⟩ := isOf hZ eh33 f31
                obtain ⟨_, _, ⟨T34, L34, k34, n34⟩, -, X34, ⟨Lc34, hQ34, l34, y34, z34⟩, st34⟩ := X33.virtualBack hx (y := (⟨"com/example/pooler/pooler/pool/Backoff", "failed", "(J)V"⟩ : MethodName)) (z := (⟨"com/example/pooler/pooler/pool/Backoff", "failed", "(J)V"⟩ : MethodName)) hown (mvT hZ (hw _ (List.mem_of_getElem? (i := 20) rfl))) (mvT hZ (hw _ (List.mem_of_getElem? (i := 21) rfl))) (notFace_of_selects (args := #[]) (mvT hZ (hw _ (List.mem_of_getElem? (i := 23) rfl)))) (mvT hZ (hw _ (List.mem_of_getElem? (i := 23) rfl))) (mvT hZ (hw _ (List.mem_of_getElem? (i := 22) rfl))) (by decide) (backOf (W := 0) (rmfa4 l Z a0 hw [] b1 ar_33 (1 : Int32) ar_27 T28.heap n0 Z28 f31 G1 f28_0 f28_1 f28_2) hZ (hw _ (List.mem_of_getElem? (i := 24) rfl)) (hw _ (List.mem_of_getElem? (i := 2) rfl)) (by decide) (by decide)) q34a q34c (g := (mkF m 208 #[.val (.int x0), .val (.long x1), .second, .val (.long x2), .second, .val (.long x3), .second, .val (.int ff), .val (.int (0 : Int32)), .val (.int (0 : Int32)), .val (.int tot), .val (.int lst), .val (.ref b1), .val (.int (4 : Int32)), .unset, .unset, .unset, .unset, .unset, .unset, .unset, .unset, .unset, .unset, .unset] [(.long ar_33), (.ref b1)])) rfl (by rw [hml]; rfl) (Steps.refl _) (argsL := [(.long ar_33)]) (rest := []) (lenOf own_pd0 rfl) rfl (by show 2 * 0 + _ ≤ _; exact Nat.le_of_eq rfl) (hb hby at_208) (fun _ _ => ⟨rfl, eh33, (by decide : 1 + 0 ≤ _), (by decide : 3 + 0 ≤ _)⟩)
                dsimp only [Pt.U, Pt.locs, Pt.cells, Pt.slots] at X34 l34 y34 z34 st34 hQ34
                subst l34 y34 z34
                obtain ⟨rfl, N34q, K34q, f34_0, f34_1, f34_2⟩ := hQ34
                have N34 := Fr.app N33 N34q
                have f35 := own_sta_keep f29 K34q (allS (own_eplain f31) all0)
                have f36 := own_sta_keep f30 K34q (allS (own_eplain f31) all0)
                have f37 := f31.keep K34q
                have K34 := K28.trans K34q (allS (Or.inr H1) all0)
                have Z34 := Nat.le_trans Z28 K34q.1
                refine Goes.tr st34 ?_
                show Goes p e below s _ _ _ T34 (mkF m 211 #[.val (.int x0), .val (.long x1), .second, .val (.long x2), .second, .val (.long x3), .second, .val (.int ff), .val (.int (0 : Int32)), .val (.int (0 : Int32)), .val (.int tot), .val (.int lst), .val (.ref b1), .val (.int (4 : Int32)), .unset, .unset, .unset, .unset, .unset, .unset, .unset, .unset, .unset, .unset, .unset] [])
                refine own_iinc X34 hx 214 rfl #[.val (.int x0), .val (.long x1), .second, .val (.long x2), .second, .val (.long x3), .second, .val (.int ff), .val (.int (0 : Int32)), .val (.int (0 : Int32)), .val (.int tot), .val (.int lst), .val (.ref b1), .val (.int (5 : Int32)), .unset, .unset, .unset, .unset, .unset, .unset, .unset, .unset, .unset, .unset, .unset] (hb hby at_211) rfl (by decide) rfl ?_
                refine own_iload X34 hx 216 rfl (hb hby at_214) rfl ?_
                refine own_iconst X34 hx 217 rfl (5 : Int32) (hb hby at_216) (by decide) ?_
                by_cases hc217_38 : (5 : Int32) < ff
                · refine own_icmpN X34 hx 220 (hb hby at_217) (tlt hc217_38).2.2.2 rfl ?_
                  refine own_aload X34 hx 222 rfl (hb hby at_220) rfl rfl ?_
                  refine own_iload X34 hx 224 rfl (hb hby at_222) rfl ?_
                  refine own_iload X34 hx 226 rfl (hb hby at_224) rfl ?_
                  refine own_lloadN X34 hx 227 rfl (hb hby at_226) rfl ?_
                  refine own_lloadN X34 hx 228 rfl (hb hby at_227) rfl ?_
                  obtain ⟨_, _, ⟨T39, L39, k39, n39⟩, -, X39, ⟨Lc39, hQ39, l39, y39, z39⟩, st39⟩ := Jvm.LawKit.callS X34 hx (y := (⟨"com/example/pooler/pooler/pool/BackoffDelayPinLaw", "at", "(IIJJ)J"⟩ : MethodName)) hown (mvT hZ (hw _ (List.mem_of_getElem? (i := 16) rfl))) (mvT hZ (hw _ (List.mem_of_getElem? (i := 17) rfl))) (mvT hZ (hw _ (List.mem_of_getElem? (i := 18) rfl))) (mvT hZ (hw _ (List.mem_of_getElem? (i := 19) rfl))) (by decide) (backOf (W := 1) (rm4 l Z a0 hw [] (5 : Int32) lst x1 x2 T34.heap n0 Z34 ) hZ (hw _ (List.mem_of_getElem? (i := 19) rfl)) (hw _ (List.mem_of_getElem? (i := 18) rfl)) (by decide) (by decide)) (g := (mkF m 228 #[.val (.int x0), .val (.long x1), .second, .val (.long x2), .second, .val (.long x3), .second, .val (.int ff), .val (.int (0 : Int32)), .val (.int (0 : Int32)), .val (.int tot), .val (.int lst), .val (.ref b1), .val (.int (5 : Int32)), .unset, .unset, .unset, .unset, .unset, .unset, .unset, .unset, .unset, .unset, .unset] [(.long x2), (.long x1), (.int lst), (.int (5 : Int32)), (.ref b1)])) rfl (by rw [hml]; rfl) (argsL := [(.int (5 : Int32)), (.int lst), (.long x1), (.long x2)]) (rest := [(.ref b1)]) (lenOf own_pd4 rfl) rfl (by show 2 * 0 + _ ≤ _; exact Nat.le_of_eq rfl) (hb hby at_228) (fun _ _ => ⟨rfl, rfl, (by decide : 1 + 0 ≤ _), (by decide : 3 + 0 ≤ _)⟩)
                  dsimp only [Pt.U, Pt.locs, Pt.cells, Pt.slots] at X39 l39 y39 z39 st39 hQ39
                  subst l39 y39 z39
                  obtain ⟨ar_39, rfl, N39q, eh39, pr39_0⟩ := hQ39
                  have N39 := Fr.app N34 N39q
                  refine Goes.go st39 ?_
                  show Goes p e below s _ _ _ T39 (mkF m 231 #[.val (.int x0), .val (.long x1), .second, .val (.long x2), .second, .val (.long x3), .second, .val (.int ff), .val (.int (0 : Int32)), .val (.int (0 : Int32)), .val (.int tot), .val (.int lst), .val (.ref b1), .val (.int (5 : Int32)), .unset, .unset, .unset, .unset, .unset, .unset, .unset, .unset, .unset, .unset, .unset] [(.long ar_39), (.ref b1)])
                  obtain ⟨cq40, kq40, q40a, q40b, q40c⟩ := isOf hZ eh39 f37
                  obtain ⟨_, _, ⟨T40, L40, k40, n40⟩, -, X40, ⟨Lc40, hQ40, l40, y40, z40⟩, st40⟩ := X39.virtualBack hx (y := (⟨"com/example/pooler/pooler/pool/Backoff", "failed", "(J)V"⟩ : MethodName)) (z := (⟨"com/example/pooler/pooler/pool/Backoff", "failed", "(J)V"⟩ : MethodName)) hown (mvT hZ (hw _ (List.mem_of_getElem? (i := 20) rfl))) (mvT hZ (hw _ (List.mem_of_getElem? (i := 21) rfl))) (notFace_of_selects (args := #[]) (mvT hZ (hw _ (List.mem_of_getElem? (i := 23) rfl)))) (mvT hZ (hw _ (List.mem_of_getElem? (i := 23) rfl))) (mvT hZ (hw _ (List.mem_of_getElem? (i := 22) rfl))) (by decide) (backOf (W := 0) (rmfa5 l Z a0 hw [] b1 ar_39 (1 : Int32) ar_33 T34.heap n0 Z34 f37 G1 f34_0 f34_1 f34_2) hZ (hw _ (List.mem_of_getElem? (i := 24) rfl)) (hw _ (List.mem_of_getElem? (i := 2) rfl)) (by decide) (by decide)) q40a q40c (g := (mkF m 231 #[.val (.int x0), .val (.long x1), .second, .val (.long x2), .second, .val (.long x3), .second, .val (.int ff), .val (.int (0 : Int32)), .val (.int (0 : Int32)), .val (.int tot), .val (.int lst), .val (.ref b1), .val (.int (5 : Int32)), .unset, .unset, .unset, .unset, .unset, .unset, .unset, .unset, .unset, .unset, .unset] [(.long ar_39), (.ref b1)])) rfl (by rw [hml]; rfl) (Steps.refl _) (argsL := [(.long ar_39)]) (rest := []) (lenOf own_pd0 rfl) rfl (by show 2 * 0 + _ ≤ _; exact Nat.le_of_eq rfl) (hb hby at_231) (fun _ _ => ⟨rfl, eh39, (by decide : 1 + 0 ≤ _), (by decide : 3 + 0 ≤ _)⟩)
                  dsimp only [Pt.U, Pt.locs, Pt.cells, Pt.slots] at X40 l40 y40 z40 st40 hQ40
                  subst l40 y40 z40
                  obtain ⟨rfl, N40q, K40q, f40_0, f40_1, f40_2⟩ := hQ40
                  have N40 := Fr.app N39 N40q
                  have f41 := own_sta_keep f35 K40q (allS (own_eplain f37) all0)
                  have f42 := own_sta_keep f36 K40q (allS (own_eplain f37) all0)
                  have f43 := f37.keep K40q
                  have K40 := K34.trans K40q (allS (Or.inr H1) all0)
                  have Z40 := Nat.le_trans Z34 K40q.1
                  refine Goes.tr st40 ?_
                  show Goes p e below s _ _ _ T40 (mkF m 234 #[.val (.int x0), .val (.long x1), .second, .val (.long x2), .second, .val (.long x3), .second, .val (.int ff), .val (.int (0 : Int32)), .val (.int (0 : Int32)), .val (.int tot), .val (.int lst), .val (.ref b1), .val (.int (5 : Int32)), .unset, .unset, .unset, .unset, .unset, .unset, .unset, .unset, .unset, .unset, .unset] [])
                  refine own_iinc X40 hx 237 rfl #[.val (.int x0), .val (.long x1), .second, .val (.long x2), .second, .val (.long x3), .second, .val (.int ff), .val (.int (0 : Int32)), .val (.int (0 : Int32)), .val (.int tot), .val (.int lst), .val (.ref b1), .val (.int (6 : Int32)), .unset, .unset, .unset, .unset, .unset, .unset, .unset, .unset, .unset, .unset, .unset] (hb hby at_234) rfl (by decide) rfl ?_
                  have hfl := own_gt (k := 5) (by decide) hc217_38
                  have hfh := hff.2
                  obtain rfl : ff = (6 : Int32) := own_pin (k := 6) (by decide) (by omega)
                  obtain rfl : tot = (6 : Int32) := by rw [h_tot]; decide
                  obtain rfl : lst = (5 : Int32) := by rw [h_lst]; decide
                  have hdd := own_sh x3 _ rfl
                  have har : ar_39 = x2 := own_atE pr39_0 (by decide)
                  refine own_lload X40 hx 239 rfl (hb hby at_237) rfl ?_
                  refine own_iconst X40 hx 240 rfl (1 : Int32) (hb hby at_239) (by decide) ?_
                  refine own_lshr X40 hx 241 rfl (hb hby at_240) rfl ?_
                  refine own_lstore X40 hx 243 rfl #[.val (.int x0), .val (.long x1), .second, .val (.long x2), .second, .val (.long x3), .second, .val (.int (6 : Int32)), .val (.int (0 : Int32)), .val (.int (0 : Int32)), .val (.int (6 : Int32)), .val (.int (5 : Int32)), .val (.ref b1), .val (.int (6 : Int32)), .val (.long (x3 >>> ((1 : Int32) &&& 0x3f).toInt64)), .second, .unset, .unset, .unset, .unset, .unset, .unset, .unset, .unset, .unset] (hb hby at_241) rfl ?_
                  refine own_lloadN X40 hx 244 rfl (hb hby at_243) rfl ?_
                  refine own_lload X40 hx 246 rfl (hb hby at_244) rfl ?_
                  refine own_ladd X40 hx 247 rfl (hb hby at_246) rfl ?_
                  refine own_lstore X40 hx 249 rfl #[.val (.int x0), .val (.long x1), .second, .val (.long x2), .second, .val (.long x3), .second, .val (.int (6 : Int32)), .val (.int (0 : Int32)), .val (.int (0 : Int32)), .val (.int (6 : Int32)), .val (.int (5 : Int32)), .val (.ref b1), .val (.int (6 : Int32)), .val (.long (x3 >>> ((1 : Int32) &&& 0x3f).toInt64)), .second, .val (.long (x2 + (x3 >>> ((1 : Int32) &&& 0x3f).toInt64))), .second, .unset, .unset, .unset, .unset, .unset, .unset, .unset] (hb hby at_247) rfl ?_
                  refine own_aload X40 hx 251 rfl (hb hby at_249) rfl rfl ?_
                  refine own_lload X40 hx 253 rfl (hb hby at_251) rfl ?_
                  obtain ⟨cq44, kq44, q44a, q44b, q44c⟩ := isOf hZ rfl f43
                  obtain ⟨_, _, ⟨T44, L44, k44, n44⟩, -, X44, ⟨Lc44, hQ44, l44, y44, z44⟩, st44⟩ := X40.virtualBack hx (y := (⟨"com/example/pooler/pooler/pool/Backoff", "delay", "(J)J"⟩ : MethodName)) (z := (⟨"com/example/pooler/pooler/pool/Backoff", "delay", "(J)J"⟩ : MethodName)) hown (mvT hZ (hw _ (List.mem_of_getElem? (i := 9) rfl))) (mvT hZ (hw _ (List.mem_of_getElem? (i := 10) rfl))) (notFace_of_selects (args := #[]) (mvT hZ (hw _ (List.mem_of_getElem? (i := 12) rfl)))) (mvT hZ (hw _ (List.mem_of_getElem? (i := 12) rfl))) (mvT hZ (hw _ (List.mem_of_getElem? (i := 11) rfl))) (by decide) (backOf (W := 0) (rmde6 l Z a0 hw [] b1 (x2 + (x3 >>> ((1 : Int32) &&& 0x3f).toInt64)) ar_39 T40.heap n0 Z40 f43 f41 f42 f40_0 f40_1 f40_2) hZ (hw _ (List.mem_of_getElem? (i := 13) rfl)) (hw _ (List.mem_of_getElem? (i := 2) rfl)) (by decide) (by decide)) q44a q44c (g := (mkF m 253 #[.val (.int x0), .val (.long x1), .second, .val (.long x2), .second, .val (.long x3), .second, .val (.int (6 : Int32)), .val (.int (0 : Int32)), .val (.int (0 : Int32)), .val (.int (6 : Int32)), .val (.int (5 : Int32)), .val (.ref b1), .val (.int (6 : Int32)), .val (.long (x3 >>> ((1 : Int32) &&& 0x3f).toInt64)), .second, .val (.long (x2 + (x3 >>> ((1 : Int32) &&& 0x3f).toInt64))), .second, .unset, .unset, .unset, .unset, .unset, .unset, .unset] [(.long (x2 + (x3 >>> ((1 : Int32) &&& 0x3f).toInt64))), (.ref b1)])) rfl (by rw [hml]; rfl) (Steps.refl _) (argsL := [(.long (x2 + (x3 >>> ((1 : Int32) &&& 0x3f).toInt64)))]) (rest := []) (lenOf own_pd5 rfl) rfl (by show 2 * 0 + _ ≤ _; exact Nat.le_of_eq rfl) (hb hby at_253) (fun _ _ => ⟨rfl, rfl, (by decide : 1 + 0 ≤ _), (by decide : 3 + 0 ≤ _)⟩)
                  dsimp only [Pt.U, Pt.locs, Pt.cells, Pt.slots] at X44 l44 y44 z44 st44 hQ44
                  subst l44 y44 z44
                  obtain ⟨br_44, rfl, N44q, eh44, pr44_0⟩ := hQ44
                  have N44 := Fr.app N40 N44q
                  refine Goes.tr st44 ?_
                  show Goes p e below s _ _ _ T44 (mkF m 256 #[.val (.int x0), .val (.long x1), .second, .val (.long x2), .second, .val (.long x3), .second, .val (.int (6 : Int32)), .val (.int (0 : Int32)), .val (.int (0 : Int32)), .val (.int (6 : Int32)), .val (.int (5 : Int32)), .val (.ref b1), .val (.int (6 : Int32)), .val (.long (x3 >>> ((1 : Int32) &&& 0x3f).toInt64)), .second, .val (.long (x2 + (x3 >>> ((1 : Int32) &&& 0x3f).toInt64))), .second, .unset, .unset, .unset, .unset, .unset, .unset, .unset] [(.long br_44)])
                  refine own_lstore X44 hx 258 rfl #[.val (.int x0), .val (.long x1), .second, .val (.long x2), .second, .val (.long x3), .second, .val (.int (6 : Int32)), .val (.int (0 : Int32)), .val (.int (0 : Int32)), .val (.int (6 : Int32)), .val (.int (5 : Int32)), .val (.ref b1), .val (.int (6 : Int32)), .val (.long (x3 >>> ((1 : Int32) &&& 0x3f).toInt64)), .second, .val (.long (x2 + (x3 >>> ((1 : Int32) &&& 0x3f).toInt64))), .second, .val (.long br_44), .second, .unset, .unset, .unset, .unset, .unset] (hb hby at_256) rfl ?_
                  refine own_iload X44 hx 260 rfl (hb hby at_258) rfl ?_
                  refine own_ifY X44 hx 269 (hb hby at_260) ((if0 _ _).trans (feq ((by decide) : ¬ ((6 : Int32) = (0 : Int32)))).2) (by decide) (by decide) ?_
                  refine own_iload X44 hx 271 rfl (hb hby at_269) rfl ?_
                  refine own_iconst X44 hx 272 rfl (1 : Int32) (hb hby at_271) (by decide) ?_
                  refine own_icmpY X44 hx 280 (hb hby at_272) (feq ((by decide) : ¬ ((0 : Int32) = (1 : Int32)))).2 (by decide) (by decide) ?_
                  refine own_iload X44 hx 282 rfl (hb hby at_280) rfl ?_
                  refine own_iload X44 hx 284 rfl (hb hby at_282) rfl ?_
                  refine own_iadd X44 hx 285 rfl (z := (6 : Int32)) (hb hby at_284) (by decide) ?_
                  refine own_istore X44 hx 287 rfl #[.val (.int x0), .val (.long x1), .second, .val (.long x2), .second, .val (.long x3), .second, .val (.int (6 : Int32)), .val (.int (0 : Int32)), .val (.int (0 : Int32)), .val (.int (6 : Int32)), .val (.int (5 : Int32)), .val (.ref b1), .val (.int (6 : Int32)), .val (.long (x3 >>> ((1 : Int32) &&& 0x3f).toInt64)), .second, .val (.long (x2 + (x3 >>> ((1 : Int32) &&& 0x3f).toInt64))), .second, .val (.long br_44), .second, .unset, .unset, .val (.int (6 : Int32)), .unset, .unset] (hb hby at_285) rfl ?_
                  refine own_iload X44 hx 289 rfl (hb hby at_287) rfl ?_
                  obtain ⟨_, _, ⟨T45, L45, k45, n45⟩, -, X45, ⟨Lc45, hQ45, l45, y45, z45⟩, st45⟩ := Jvm.LawKit.callS X44 hx (y := (⟨"com/example/pooler/pooler/pool/BackoffDelayPinLaw", "pauseMs", "(I)J"⟩ : MethodName)) hown (mvT hZ (hw _ (List.mem_of_getElem? (i := 48) rfl))) (mvT hZ (hw _ (List.mem_of_getElem? (i := 49) rfl))) (mvT hZ (hw _ (List.mem_of_getElem? (i := 18) rfl))) (mvT hZ (hw _ (List.mem_of_getElem? (i := 50) rfl))) (by decide) (backOf (W := 0) (rmpm6 l Z a0 hw []  T40.heap n0 Z40 ) hZ (hw _ (List.mem_of_getElem? (i := 50) rfl)) (hw _ (List.mem_of_getElem? (i := 18) rfl)) (by decide) (by decide)) (g := (mkF m 289 #[.val (.int x0), .val (.long x1), .second, .val (.long x2), .second, .val (.long x3), .second, .val (.int (6 : Int32)), .val (.int (0 : Int32)), .val (.int (0 : Int32)), .val (.int (6 : Int32)), .val (.int (5 : Int32)), .val (.ref b1), .val (.int (6 : Int32)), .val (.long (x3 >>> ((1 : Int32) &&& 0x3f).toInt64)), .second, .val (.long (x2 + (x3 >>> ((1 : Int32) &&& 0x3f).toInt64))), .second, .val (.long br_44), .second, .unset, .unset, .val (.int (6 : Int32)), .unset, .unset] [(.int (6 : Int32))])) rfl (by rw [hml]; rfl) (argsL := [(.int (6 : Int32))]) (rest := []) (lenOf own_pd6 rfl) rfl (by show 2 * 0 + _ ≤ _; exact Nat.le_of_eq rfl) (hb hby at_289) (fun _ _ => ⟨rfl, eh44, (by decide : 1 + 0 ≤ _), (by decide : 3 + 0 ≤ _)⟩)
                  dsimp only [Pt.U, Pt.locs, Pt.cells, Pt.slots] at X45 l45 y45 z45 st45 hQ45
                  subst l45 y45 z45
                  obtain ⟨rfl, N45q, eh45⟩ := hQ45
                  have N45 := Fr.app N44 N45q
                  refine Goes.go st45 ?_
                  show Goes p e below s _ _ _ T45 (mkF m 292 #[.val (.int x0), .val (.long x1), .second, .val (.long x2), .second, .val (.long x3), .second, .val (.int (6 : Int32)), .val (.int (0 : Int32)), .val (.int (0 : Int32)), .val (.int (6 : Int32)), .val (.int (5 : Int32)), .val (.ref b1), .val (.int (6 : Int32)), .val (.long (x3 >>> ((1 : Int32) &&& 0x3f).toInt64)), .second, .val (.long (x2 + (x3 >>> ((1 : Int32) &&& 0x3f).toInt64))), .second, .val (.long br_44), .second, .unset, .unset, .val (.int (6 : Int32)), .unset, .unset] [(.long (1000 : Int64))])
                  refine Goes.go (X45.ldc2Long hx hown (mvT hZ (hw _ (List.mem_of_getElem? (i := 52) rfl))) (g := (mkF m 292 #[.val (.int x0), .val (.long x1), .second, .val (.long x2), .second, .val (.long x3), .second, .val (.int (6 : Int32)), .val (.int (0 : Int32)), .val (.int (0 : Int32)), .val (.int (6 : Int32)), .val (.int (5 : Int32)), .val (.ref b1), .val (.int (6 : Int32)), .val (.long (x3 >>> ((1 : Int32) &&& 0x3f).toInt64)), .second, .val (.long (x2 + (x3 >>> ((1 : Int32) &&& 0x3f).toInt64))), .second, .val (.long br_44), .second, .unset, .unset, .val (.int (6 : Int32)), .unset, .unset] [(.long (1000 : Int64))])) rfl (hb hby at_292)) ?_
                  show Goes p e below s _ _ _ T45 (mkF m 295 #[.val (.int x0), .val (.long x1), .second, .val (.long x2), .second, .val (.long x3), .second, .val (.int (6 : Int32)), .val (.int (0 : Int32)), .val (.int (0 : Int32)), .val (.int (6 : Int32)), .val (.int (5 : Int32)), .val (.ref b1), .val (.int (6 : Int32)), .val (.long (x3 >>> ((1 : Int32) &&& 0x3f).toInt64)), .second, .val (.long (x2 + (x3 >>> ((1 : Int32) &&& 0x3f).toInt64))), .second, .val (.long br_44), .second, .unset, .unset, .val (.int (6 : Int32)), .unset, .unset] [(.long (1000000 : Int64)), (.long (1000 : Int64))])
                  refine own_lmul X45 hx 296 rfl (z := (1000000000 : Int64)) (hb hby at_295) (by decide) ?_
                  refine own_lstore X45 hx 298 rfl #[.val (.int x0), .val (.long x1), .second, .val (.long x2), .second, .val (.long x3), .second, .val (.int (6 : Int32)), .val (.int (0 : Int32)), .val (.int (0 : Int32)), .val (.int (6 : Int32)), .val (.int (5 : Int32)), .val (.ref b1), .val (.int (6 : Int32)), .val (.long (x3 >>> ((1 : Int32) &&& 0x3f).toInt64)), .second, .val (.long (x2 + (x3 >>> ((1 : Int32) &&& 0x3f).toInt64))), .second, .val (.long br_44), .second, .unset, .unset, .val (.int (6 : Int32)), .val (.long (1000000000 : Int64)), .second] (hb hby at_296) rfl ?_
                  refine own_lload X45 hx 300 rfl (hb hby at_298) rfl ?_
                  refine own_lload X45 hx 302 rfl (hb hby at_300) rfl ?_
                  refine own_lcmp X45 hx 303 rfl (hb hby at_302) ?_
                  by_cases hc303_46 : (x3 >>> ((1 : Int32) &&& 0x3f).toInt64) < (1000000000 : Int64)
                  · refine own_ifY X45 hx 310 (hb hby at_303) (Ltlt hc303_46).1 (by decide) (by decide) ?_
                    refine own_lload X45 hx 312 rfl (hb hby at_310) rfl ?_
                    refine own_lload X45 hx 314 rfl (hb hby at_312) rfl ?_
                    refine own_lsub X45 hx 315 rfl (hb hby at_314) rfl ?_
                    refine own_lstore X45 hx 317 rfl #[.val (.int x0), .val (.long x1), .second, .val (.long x2), .second, .val (.long x3), .second, .val (.int (6 : Int32)), .val (.int (0 : Int32)), .val (.int (0 : Int32)), .val (.int (6 : Int32)), .val (.int (5 : Int32)), .val (.ref b1), .val (.int (6 : Int32)), .val (.long (x3 >>> ((1 : Int32) &&& 0x3f).toInt64)), .second, .val (.long (x2 + (x3 >>> ((1 : Int32) &&& 0x3f).toInt64))), .second, .val (.long br_44), .second, .val (.long ((1000000000 : Int64) - (x3 >>> ((1 : Int32) &&& 0x3f).toInt64))), .second, .val (.int (6 : Int32)), .val (.long (1000000000 : Int64)), .second] (hb hby at_315) rfl ?_
                    refine own_lload X45 hx 319 rfl (hb hby at_317) rfl ?_
                    refine own_lload X45 hx 321 rfl (hb hby at_319) rfl ?_
                    refine own_lcmp X45 hx 322 rfl (hb hby at_321) ?_
                    refine own_ifN X45 hx 325 (hb hby at_322) (Lteq ((own_fin har hdd (P := (1000000000 : Int64)) (by decide) pr44_0).1 hc303_46 : br_44 = ((1000000000 : Int64) - (x3 >>> ((1 : Int32) &&& 0x3f).toInt64)))).2 rfl ?_
                    refine own_iconst X45 hx 326 rfl (1 : Int32) (hb hby at_325) (by decide) ?_
                    refine own_goto X45 hx 330 (hb hby at_326) (by decide) (by decide) ?_
                    refine own_retZ X45 hx hlk Bd.returns (by decide) (hb hby at_330) (by decide) (by decide) eh45 ?_
                    exact ⟨rfl, N45⟩
                  · refine own_ifN X45 hx 306 (hb hby at_303) (Lflt hc303_46).1 rfl ?_
                    refine own_lconst X45 hx 307 rfl (0 : Int64) (hb hby at_306) (by decide) ?_
                    refine own_goto X45 hx 315 (hb hby at_307) (by decide) (by decide) ?_
                    refine own_lstore X45 hx 317 rfl #[.val (.int x0), .val (.long x1), .second, .val (.long x2), .second, .val (.long x3), .second, .val (.int (6 : Int32)), .val (.int (0 : Int32)), .val (.int (0 : Int32)), .val (.int (6 : Int32)), .val (.int (5 : Int32)), .val (.ref b1), .val (.int (6 : Int32)), .val (.long (x3 >>> ((1 : Int32) &&& 0x3f).toInt64)), .second, .val (.long (x2 + (x3 >>> ((1 : Int32) &&& 0x3f).toInt64))), .second, .val (.long br_44), .second, .val (.long (0 : Int64)), .second, .val (.int (6 : Int32)), .val (.long (1000000000 : Int64)), .second] (hb hby at_315) rfl ?_
                    refine own_lload X45 hx 319 rfl (hb hby at_317) rfl ?_
                    refine own_lload X45 hx 321 rfl (hb hby at_319) rfl ?_
                    refine own_lcmp X45 hx 322 rfl (hb hby at_321) ?_
                    refine own_ifN X45 hx 325 (hb hby at_322) (Lteq ((own_fin har hdd (P := (1000000000 : Int64)) (by decide) pr44_0).2 hc303_46 : br_44 = (0 : Int64))).2 rfl ?_
                    refine own_iconst X45 hx 326 rfl (1 : Int32) (hb hby at_325) (by decide) ?_
                    refine own_goto X45 hx 330 (hb hby at_326) (by decide) (by decide) ?_
                    refine own_retZ X45 hx hlk Bd.returns (by decide) (hb hby at_330) (by decide) (by decide) eh45 ?_
                    exact ⟨rfl, N45⟩
                · refine own_icmpY X34 hx 237 (hb hby at_217) (flt hc217_38).2.2.2 (by decide) (by decide) ?_
                  have hfl := own_gt (k := 4) (by decide) hc194_32
                  have hfh := own_le (k := 5) (by decide) hc217_38
                  obtain rfl : ff = (5 : Int32) := own_pin (k := 5) (by decide) (by omega)
                  obtain rfl : tot = (5 : Int32) := by rw [h_tot]; decide
                  obtain rfl : lst = (4 : Int32) := by rw [h_lst]; decide
                  have hdd := own_sh x3 _ rfl
                  have har : ar_33 = x2 := own_atE pr33_0 (by decide)
                  refine own_lload X34 hx 239 rfl (hb hby at_237) rfl ?_
                  refine own_iconst X34 hx 240 rfl (1 : Int32) (hb hby at_239) (by decide) ?_
                  refine own_lshr X34 hx 241 rfl (hb hby at_240) rfl ?_
                  refine own_lstore X34 hx 243 rfl #[.val (.int x0), .val (.long x1), .second, .val (.long x2), .second, .val (.long x3), .second, .val (.int (5 : Int32)), .val (.int (0 : Int32)), .val (.int (0 : Int32)), .val (.int (5 : Int32)), .val (.int (4 : Int32)), .val (.ref b1), .val (.int (5 : Int32)), .val (.long (x3 >>> ((1 : Int32) &&& 0x3f).toInt64)), .second, .unset, .unset, .unset, .unset, .unset, .unset, .unset, .unset, .unset] (hb hby at_241) rfl ?_
                  refine own_lloadN X34 hx 244 rfl (hb hby at_243) rfl ?_
                  refine own_lload X34 hx 246 rfl (hb hby at_244) rfl ?_
                  refine own_ladd X34 hx 247 rfl (hb hby at_246) rfl ?_
                  refine own_lstore X34 hx 249 rfl #[.val (.int x0), .val (.long x1), .second, .val (.long x2), .second, .val (.long x3), .second, .val (.int (5 : Int32)), .val (.int (0 : Int32)), .val (.int (0 : Int32)), .val (.int (5 : Int32)), .val (.int (4 : Int32)), .val (.ref b1), .val (.int (5 : Int32)), .val (.long (x3 >>> ((1 : Int32) &&& 0x3f).toInt64)), .second, .val (.long (x2 + (x3 >>> ((1 : Int32) &&& 0x3f).toInt64))), .second, .unset, .unset, .unset, .unset, .unset, .unset, .unset] (hb hby at_247) rfl ?_
                  refine own_aload X34 hx 251 rfl (hb hby at_249) rfl rfl ?_
                  refine own_lload X34 hx 253 rfl (hb hby at_251) rfl ?_
                  obtain ⟨cq47, kq47, q47a, q47b, q47c⟩ := isOf hZ rfl f37
                  obtain ⟨_, _, ⟨T47, L47, k47, n47⟩, -, X47, ⟨Lc47, hQ47, l47, y47, z47⟩, st47⟩ := X34.virtualBack hx (y := (⟨"com/example/pooler/pooler/pool/Backoff", "delay", "(J)J"⟩ : MethodName)) (z := (⟨"com/example/pooler/pooler/pool/Backoff", "delay", "(J)J"⟩ : MethodName)) hown (mvT hZ (hw _ (List.mem_of_getElem? (i := 9) rfl))) (mvT hZ (hw _ (List.mem_of_getElem? (i := 10) rfl))) (notFace_of_selects (args := #[]) (mvT hZ (hw _ (List.mem_of_getElem? (i := 12) rfl)))) (mvT hZ (hw _ (List.mem_of_getElem? (i := 12) rfl))) (mvT hZ (hw _ (List.mem_of_getElem? (i := 11) rfl))) (by decide) (backOf (W := 0) (rmde5 l Z a0 hw [] b1 (x2 + (x3 >>> ((1 : Int32) &&& 0x3f).toInt64)) ar_33 T34.heap n0 Z34 f37 f35 f36 f34_0 f34_1 f34_2) hZ (hw _ (List.mem_of_getElem? (i := 13) rfl)) (hw _ (List.mem_of_getElem? (i := 2) rfl)) (by decide) (by decide)) q47a q47c (g := (mkF m 253 #[.val (.int x0), .val (.long x1), .second, .val (.long x2), .second, .val (.long x3), .second, .val (.int (5 : Int32)), .val (.int (0 : Int32)), .val (.int (0 : Int32)), .val (.int (5 : Int32)), .val (.int (4 : Int32)), .val (.ref b1), .val (.int (5 : Int32)), .val (.long (x3 >>> ((1 : Int32) &&& 0x3f).toInt64)), .second, .val (.long (x2 + (x3 >>> ((1 : Int32) &&& 0x3f).toInt64))), .second, .unset, .unset, .unset, .unset, .unset, .unset, .unset] [(.long (x2 + (x3 >>> ((1 : Int32) &&& 0x3f).toInt64))), (.ref b1)])) rfl (by rw [hml]; rfl) (Steps.refl _) (argsL := [(.long (x2 + (x3 >>> ((1 : Int32) &&& 0x3f).toInt64)))]) (rest := []) (lenOf own_pd5 rfl) rfl (by show 2 * 0 + _ ≤ _; exact Nat.le_of_eq rfl) (hb hby at_253) (fun _ _ => ⟨rfl, rfl, (by decide : 1 + 0 ≤ _), (by decide : 3 + 0 ≤ _)⟩)
                  dsimp only [Pt.U, Pt.locs, Pt.cells, Pt.slots] at X47 l47 y47 z47 st47 hQ47
                  subst l47 y47 z47
                  obtain ⟨br_47, rfl, N47q, eh47, pr47_0⟩ := hQ47
                  have N47 := Fr.app N34 N47q
                  refine Goes.tr st47 ?_
                  show Goes p e below s _ _ _ T47 (mkF m 256 #[.val (.int x0), .val (.long x1), .second, .val (.long x2), .second, .val (.long x3), .second, .val (.int (5 : Int32)), .val (.int (0 : Int32)), .val (.int (0 : Int32)), .val (.int (5 : Int32)), .val (.int (4 : Int32)), .val (.ref b1), .val (.int (5 : Int32)), .val (.long (x3 >>> ((1 : Int32) &&& 0x3f).toInt64)), .second, .val (.long (x2 + (x3 >>> ((1 : Int32) &&& 0x3f).toInt64))), .second, .unset, .unset, .unset, .unset, .unset, .unset, .unset] [(.long br_47)])
                  refine own_lstore X47 hx 258 rfl #[.val (.int x0), .val (.long x1), .second, .val (.long x2), .second, .val (.long x3), .second, .val (.int (5 : Int32)), .val (.int (0 : Int32)), .val (.int (0 : Int32)), .val (.int (5 : Int32)), .val (.int (4 : Int32)), .val (.ref b1), .val (.int (5 : Int32)), .val (.long (x3 >>> ((1 : Int32) &&& 0x3f).toInt64)), .second, .val (.long (x2 + (x3 >>> ((1 : Int32) &&& 0x3f).toInt64))), .second, .val (.long br_47), .second, .unset, .unset, .unset, .unset, .unset] (hb hby at_256) rfl ?_
                  refine own_iload X47 hx 260 rfl (hb hby at_258) rfl ?_
                  refine own_ifY X47 hx 269 (hb hby at_260) ((if0 _ _).trans (feq ((by decide) : ¬ ((5 : Int32) = (0 : Int32)))).2) (by decide) (by decide) ?_
                  refine own_iload X47 hx 271 rfl (hb hby at_269) rfl ?_
                  refine own_iconst X47 hx 272 rfl (1 : Int32) (hb hby at_271) (by decide) ?_
                  refine own_icmpY X47 hx 280 (hb hby at_272) (feq ((by decide) : ¬ ((0 : Int32) = (1 : Int32)))).2 (by decide) (by decide) ?_
                  refine own_iload X47 hx 282 rfl (hb hby at_280) rfl ?_
                  refine own_iload X47 hx 284 rfl (hb hby at_282) rfl ?_
                  refine own_iadd X47 hx 285 rfl (z := (5 : Int32)) (hb hby at_284) (by decide) ?_
                  refine own_istore X47 hx 287 rfl #[.val (.int x0), .val (.long x1), .second, .val (.long x2), .second, .val (.long x3), .second, .val (.int (5 : Int32)), .val (.int (0 : Int32)), .val (.int (0 : Int32)), .val (.int (5 : Int32)), .val (.int (4 : Int32)), .val (.ref b1), .val (.int (5 : Int32)), .val (.long (x3 >>> ((1 : Int32) &&& 0x3f).toInt64)), .second, .val (.long (x2 + (x3 >>> ((1 : Int32) &&& 0x3f).toInt64))), .second, .val (.long br_47), .second, .unset, .unset, .val (.int (5 : Int32)), .unset, .unset] (hb hby at_285) rfl ?_
                  refine own_iload X47 hx 289 rfl (hb hby at_287) rfl ?_
                  obtain ⟨_, _, ⟨T48, L48, k48, n48⟩, -, X48, ⟨Lc48, hQ48, l48, y48, z48⟩, st48⟩ := Jvm.LawKit.callS X47 hx (y := (⟨"com/example/pooler/pooler/pool/BackoffDelayPinLaw", "pauseMs", "(I)J"⟩ : MethodName)) hown (mvT hZ (hw _ (List.mem_of_getElem? (i := 48) rfl))) (mvT hZ (hw _ (List.mem_of_getElem? (i := 49) rfl))) (mvT hZ (hw _ (List.mem_of_getElem? (i := 18) rfl))) (mvT hZ (hw _ (List.mem_of_getElem? (i := 50) rfl))) (by decide) (backOf (W := 0) (rmpm5 l Z a0 hw []  T34.heap n0 Z34 ) hZ (hw _ (List.mem_of_getElem? (i := 50) rfl)) (hw _ (List.mem_of_getElem? (i := 18) rfl)) (by decide) (by decide)) (g := (mkF m 289 #[.val (.int x0), .val (.long x1), .second, .val (.long x2), .second, .val (.long x3), .second, .val (.int (5 : Int32)), .val (.int (0 : Int32)), .val (.int (0 : Int32)), .val (.int (5 : Int32)), .val (.int (4 : Int32)), .val (.ref b1), .val (.int (5 : Int32)), .val (.long (x3 >>> ((1 : Int32) &&& 0x3f).toInt64)), .second, .val (.long (x2 + (x3 >>> ((1 : Int32) &&& 0x3f).toInt64))), .second, .val (.long br_47), .second, .unset, .unset, .val (.int (5 : Int32)), .unset, .unset] [(.int (5 : Int32))])) rfl (by rw [hml]; rfl) (argsL := [(.int (5 : Int32))]) (rest := []) (lenOf own_pd6 rfl) rfl (by show 2 * 0 + _ ≤ _; exact Nat.le_of_eq rfl) (hb hby at_289) (fun _ _ => ⟨rfl, eh47, (by decide : 1 + 0 ≤ _), (by decide : 3 + 0 ≤ _)⟩)
                  dsimp only [Pt.U, Pt.locs, Pt.cells, Pt.slots] at X48 l48 y48 z48 st48 hQ48
                  subst l48 y48 z48
                  obtain ⟨rfl, N48q, eh48⟩ := hQ48
                  have N48 := Fr.app N47 N48q
                  refine Goes.go st48 ?_
                  show Goes p e below s _ _ _ T48 (mkF m 292 #[.val (.int x0), .val (.long x1), .second, .val (.long x2), .second, .val (.long x3), .second, .val (.int (5 : Int32)), .val (.int (0 : Int32)), .val (.int (0 : Int32)), .val (.int (5 : Int32)), .val (.int (4 : Int32)), .val (.ref b1), .val (.int (5 : Int32)), .val (.long (x3 >>> ((1 : Int32) &&& 0x3f).toInt64)), .second, .val (.long (x2 + (x3 >>> ((1 : Int32) &&& 0x3f).toInt64))), .second, .val (.long br_47), .second, .unset, .unset, .val (.int (5 : Int32)), .unset, .unset] [(.long (1000 : Int64))])
                  refine Goes.go (X48.ldc2Long hx hown (mvT hZ (hw _ (List.mem_of_getElem? (i := 52) rfl))) (g := (mkF m 292 #[.val (.int x0), .val (.long x1), .second, .val (.long x2), .second, .val (.long x3), .second, .val (.int (5 : Int32)), .val (.int (0 : Int32)), .val (.int (0 : Int32)), .val (.int (5 : Int32)), .val (.int (4 : Int32)), .val (.ref b1), .val (.int (5 : Int32)), .val (.long (x3 >>> ((1 : Int32) &&& 0x3f).toInt64)), .second, .val (.long (x2 + (x3 >>> ((1 : Int32) &&& 0x3f).toInt64))), .second, .val (.long br_47), .second, .unset, .unset, .val (.int (5 : Int32)), .unset, .unset] [(.long (1000 : Int64))])) rfl (hb hby at_292)) ?_
                  show Goes p e below s _ _ _ T48 (mkF m 295 #[.val (.int x0), .val (.long x1), .second, .val (.long x2), .second, .val (.long x3), .second, .val (.int (5 : Int32)), .val (.int (0 : Int32)), .val (.int (0 : Int32)), .val (.int (5 : Int32)), .val (.int (4 : Int32)), .val (.ref b1), .val (.int (5 : Int32)), .val (.long (x3 >>> ((1 : Int32) &&& 0x3f).toInt64)), .second, .val (.long (x2 + (x3 >>> ((1 : Int32) &&& 0x3f).toInt64))), .second, .val (.long br_47), .second, .unset, .unset, .val (.int (5 : Int32)), .unset, .unset] [(.long (1000000 : Int64)), (.long (1000 : Int64))])
                  refine own_lmul X48 hx 296 rfl (z := (1000000000 : Int64)) (hb hby at_295) (by decide) ?_
                  refine own_lstore X48 hx 298 rfl #[.val (.int x0), .val (.long x1), .second, .val (.long x2), .second, .val (.long x3), .second, .val (.int (5 : Int32)), .val (.int (0 : Int32)), .val (.int (0 : Int32)), .val (.int (5 : Int32)), .val (.int (4 : Int32)), .val (.ref b1), .val (.int (5 : Int32)), .val (.long (x3 >>> ((1 : Int32) &&& 0x3f).toInt64)), .second, .val (.long (x2 + (x3 >>> ((1 : Int32) &&& 0x3f).toInt64))), .second, .val (.long br_47), .second, .unset, .unset, .val (.int (5 : Int32)), .val (.long (1000000000 : Int64)), .second] (hb hby at_296) rfl ?_
                  refine own_lload X48 hx 300 rfl (hb hby at_298) rfl ?_
                  refine own_lload X48 hx 302 rfl (hb hby at_300) rfl ?_
                  refine own_lcmp X48 hx 303 rfl (hb hby at_302) ?_
                  by_cases hc303_49 : (x3 >>> ((1 : Int32) &&& 0x3f).toInt64) < (1000000000 : Int64)
                  · refine own_ifY X48 hx 310 (hb hby at_303) (Ltlt hc303_49).1 (by decide) (by decide) ?_
                    refine own_lload X48 hx 312 rfl (hb hby at_310) rfl ?_
                    refine own_lload X48 hx 314 rfl (hb hby at_312) rfl ?_
                    refine own_lsub X48 hx 315 rfl (hb hby at_314) rfl ?_
                    refine own_lstore X48 hx 317 rfl #[.val (.int x0), .val (.long x1), .second, .val (.long x2), .second, .val (.long x3), .second, .val (.int (5 : Int32)), .val (.int (0 : Int32)), .val (.int (0 : Int32)), .val (.int (5 : Int32)), .val (.int (4 : Int32)), .val (.ref b1), .val (.int (5 : Int32)), .val (.long (x3 >>> ((1 : Int32) &&& 0x3f).toInt64)), .second, .val (.long (x2 + (x3 >>> ((1 : Int32) &&& 0x3f).toInt64))), .second, .val (.long br_47), .second, .val (.long ((1000000000 : Int64) - (x3 >>> ((1 : Int32) &&& 0x3f).toInt64))), .second, .val (.int (5 : Int32)), .val (.long (1000000000 : Int64)), .second] (hb hby at_315) rfl ?_
                    refine own_lload X48 hx 319 rfl (hb hby at_317) rfl ?_
                    refine own_lload X48 hx 321 rfl (hb hby at_319) rfl ?_
                    refine own_lcmp X48 hx 322 rfl (hb hby at_321) ?_
                    refine own_ifN X48 hx 325 (hb hby at_322) (Lteq ((own_fin har hdd (P := (1000000000 : Int64)) (by decide) pr47_0).1 hc303_49 : br_47 = ((1000000000 : Int64) - (x3 >>> ((1 : Int32) &&& 0x3f).toInt64)))).2 rfl ?_
                    refine own_iconst X48 hx 326 rfl (1 : Int32) (hb hby at_325) (by decide) ?_
                    refine own_goto X48 hx 330 (hb hby at_326) (by decide) (by decide) ?_
                    refine own_retZ X48 hx hlk Bd.returns (by decide) (hb hby at_330) (by decide) (by decide) eh48 ?_
                    exact ⟨rfl, N48⟩
                  · refine own_ifN X48 hx 306 (hb hby at_303) (Lflt hc303_49).1 rfl ?_
                    refine own_lconst X48 hx 307 rfl (0 : Int64) (hb hby at_306) (by decide) ?_
                    refine own_goto X48 hx 315 (hb hby at_307) (by decide) (by decide) ?_
                    refine own_lstore X48 hx 317 rfl #[.val (.int x0), .val (.long x1), .second, .val (.long x2), .second, .val (.long x3), .second, .val (.int (5 : Int32)), .val (.int (0 : Int32)), .val (.int (0 : Int32)), .val (.int (5 : Int32)), .val (.int (4 : Int32)), .val (.ref b1), .val (.int (5 : Int32)), .val (.long (x3 >>> ((1 : Int32) &&& 0x3f).toInt64)), .second, .val (.long (x2 + (x3 >>> ((1 : Int32) &&& 0x3f).toInt64))), .second, .val (.long br_47), .second, .val (.long (0 : Int64)), .second, .val (.int (5 : Int32)), .val (.long (1000000000 : Int64)), .second] (hb hby at_315) rfl ?_
                    refine own_lload X48 hx 319 rfl (hb hby at_317) rfl ?_
                    refine own_lload X48 hx 321 rfl (hb hby at_319) rfl ?_
                    refine own_lcmp X48 hx 322 rfl (hb hby at_321) ?_
                    refine own_ifN X48 hx 325 (hb hby at_322) (Lteq ((own_fin har hdd (P := (1000000000 : Int64)) (by decide) pr47_0).2 hc303_49 : br_47 = (0 : Int64))).2 rfl ?_
                    refine own_iconst X48 hx 326 rfl (1 : Int32) (hb hby at_325) (by decide) ?_
                    refine own_goto X48 hx 330 (hb hby at_326) (by decide) (by decide) ?_
                    refine own_retZ X48 hx hlk Bd.returns (by decide) (hb hby at_330) (by decide) (by decide) eh48 ?_
                    exact ⟨rfl, N48⟩
              · refine own_icmpY X28 hx 214 (hb hby at_194) (flt hc194_32).2.2.2 (by decide) (by decide) ?_
                refine own_iload X28 hx 216 rfl (hb hby at_214) rfl ?_
                refine own_iconst X28 hx 217 rfl (5 : Int32) (hb hby at_216) (by decide) ?_
                refine own_icmpY X28 hx 237 (hb hby at_217) (flt (own_down hc194_32 (by decide) : ¬ ((5 : Int32) < ff))).2.2.2 (by decide) (by decide) ?_
                have hfl := own_gt (k := 3) (by decide) hc171_26
                have hfh := own_le (k := 4) (by decide) hc194_32
                obtain rfl : ff = (4 : Int32) := own_pin (k := 4) (by decide) (by omega)
                obtain rfl : tot = (4 : Int32) := by rw [h_tot]; decide
                obtain rfl : lst = (3 : Int32) := by rw [h_lst]; decide
                have hdd := own_sh x3 _ rfl
                have har : ar_27 = x2 := own_atE pr27_0 (by decide)
                refine own_lload X28 hx 239 rfl (hb hby at_237) rfl ?_
                refine own_iconst X28 hx 240 rfl (1 : Int32) (hb hby at_239) (by decide) ?_
                refine own_lshr X28 hx 241 rfl (hb hby at_240) rfl ?_
                refine own_lstore X28 hx 243 rfl #[.val (.int x0), .val (.long x1), .second, .val (.long x2), .second, .val (.long x3), .second, .val (.int (4 : Int32)), .val (.int (0 : Int32)), .val (.int (0 : Int32)), .val (.int (4 : Int32)), .val (.int (3 : Int32)), .val (.ref b1), .val (.int (4 : Int32)), .val (.long (x3 >>> ((1 : Int32) &&& 0x3f).toInt64)), .second, .unset, .unset, .unset, .unset, .unset, .unset, .unset, .unset, .unset] (hb hby at_241) rfl ?_
                refine own_lloadN X28 hx 244 rfl (hb hby at_243) rfl ?_
                refine own_lload X28 hx 246 rfl (hb hby at_244) rfl ?_
                refine own_ladd X28 hx 247 rfl (hb hby at_246) rfl ?_
                refine own_lstore X28 hx 249 rfl #[.val (.int x0), .val (.long x1), .second, .val (.long x2), .second, .val (.long x3), .second, .val (.int (4 : Int32)), .val (.int (0 : Int32)), .val (.int (0 : Int32)), .val (.int (4 : Int32)), .val (.int (3 : Int32)), .val (.ref b1), .val (.int (4 : Int32)), .val (.long (x3 >>> ((1 : Int32) &&& 0x3f).toInt64)), .second, .val (.long (x2 + (x3 >>> ((1 : Int32) &&& 0x3f).toInt64))), .second, .unset, .unset, .unset, .unset, .unset, .unset, .unset] (hb hby at_247) rfl ?_
                refine own_aload X28 hx 251 rfl (hb hby at_249) rfl rfl ?_
                refine own_lload X28 hx 253 rfl (hb hby at_251) rfl ?_
                obtain ⟨cq50, kq50, q50a, q50b, q50c⟩ := isOf hZ rfl f31
                obtain ⟨_, _, ⟨T50, L50, k50, n50⟩, -, X50, ⟨Lc50, hQ50, l50, y50, z50⟩, st50⟩ := X28.virtualBack hx (y := (⟨"com/example/pooler/pooler/pool/Backoff", "delay", "(J)J"⟩ : MethodName)) (z := (⟨"com/example/pooler/pooler/pool/Backoff", "delay", "(J)J"⟩ : MethodName)) hown (mvT hZ (hw _ (List.mem_of_getElem? (i := 9) rfl))) (mvT hZ (hw _ (List.mem_of_getElem? (i := 10) rfl))) (notFace_of_selects (args := #[]) (mvT hZ (hw _ (List.mem_of_getElem? (i := 12) rfl)))) (mvT hZ (hw _ (List.mem_of_getElem? (i := 12) rfl))) (mvT hZ (hw _ (List.mem_of_getElem? (i := 11) rfl))) (by decide) (backOf (W := 0) (rmde4 l Z a0 hw [] b1 (x2 + (x3 >>> ((1 : Int32) &&& 0x3f).toInt64)) ar_27 T28.heap n0 Z28 f31 f29 f30 f28_0 f28_1 f28_2) hZ (hw _ (List.mem_of_getElem? (i := 13) rfl)) (hw _ (List.mem_of_getElem? (i := 2) rfl)) (by decide) (by decide)) q50a q50c (g := (mkF m 253 #[.val (.int x0), .val (.long x1), .second, .val (.long x2), .second, .val (.long x3), .second, .val (.int (4 : Int32)), .val (.int (0 : Int32)), .val (.int (0 : Int32)), .val (.int (4 : Int32)), .val (.int (3 : Int32)), .val (.ref b1), .val (.int (4 : Int32)), .val (.long (x3 >>> ((1 : Int32) &&& 0x3f).toInt64)), .second, .val (.long (x2 + (x3 >>> ((1 : Int32) &&& 0x3f).toInt64))), .second, .unset, .unset, .unset, .unset, .unset, .unset, .unset] [(.long (x2 + (x3 >>> ((1 : Int32) &&& 0x3f).toInt64))), (.ref b1)])) rfl (by rw [hml]; rfl) (Steps.refl _) (argsL := [(.long (x2 + (x3 >>> ((1 : Int32) &&& 0x3f).toInt64)))]) (rest := []) (lenOf own_pd5 rfl) rfl (by show 2 * 0 + _ ≤ _; exact Nat.le_of_eq rfl) (hb hby at_253) (fun _ _ => ⟨rfl, rfl, (by decide : 1 + 0 ≤ _), (by decide : 3 + 0 ≤ _)⟩)
                dsimp only [Pt.U, Pt.locs, Pt.cells, Pt.slots] at X50 l50 y50 z50 st50 hQ50
                subst l50 y50 z50
                obtain ⟨br_50, rfl, N50q, eh50, pr50_0⟩ := hQ50
                have N50 := Fr.app N28 N50q
                refine Goes.tr st50 ?_
                show Goes p e below s _ _ _ T50 (mkF m 256 #[.val (.int x0), .val (.long x1), .second, .val (.long x2), .second, .val (.long x3), .second, .val (.int (4 : Int32)), .val (.int (0 : Int32)), .val (.int (0 : Int32)), .val (.int (4 : Int32)), .val (.int (3 : Int32)), .val (.ref b1), .val (.int (4 : Int32)), .val (.long (x3 >>> ((1 : Int32) &&& 0x3f).toInt64)), .second, .val (.long (x2 + (x3 >>> ((1 : Int32) &&& 0x3f).toInt64))), .second, .unset, .unset, .unset, .unset, .unset, .unset, .unset] [(.long br_50)])
                refine own_lstore X50 hx 258 rfl #[.val (.int x0), .val (.long x1), .second, .val (.long x2), .second, .val (.long x3), .second, .val (.int (4 : Int32)), .val (.int (0 : Int32)), .val (.int (0 : Int32)), .val (.int (4 : Int32)), .val (.int (3 : Int32)), .val (.ref b1), .val (.int (4 : Int32)), .val (.long (x3 >>> ((1 : Int32) &&& 0x3f).toInt64)), .second, .val (.long (x2 + (x3 >>> ((1 : Int32) &&& 0x3f).toInt64))), .second, .val (.long br_50), .second, .unset, .unset, .unset, .unset, .unset] (hb hby at_256) rfl ?_
                refine own_iload X50 hx 260 rfl (hb hby at_258) rfl ?_
                refine own_ifY X50 hx 269 (hb hby at_260) ((if0 _ _).trans (feq ((by decide) : ¬ ((4 : Int32) = (0 : Int32)))).2) (by decide) (by decide) ?_
                refine own_iload X50 hx 271 rfl (hb hby at_269) rfl ?_
                refine own_iconst X50 hx 272 rfl (1 : Int32) (hb hby at_271) (by decide) ?_
                refine own_icmpY X50 hx 280 (hb hby at_272) (feq ((by decide) : ¬ ((0 : Int32) = (1 : Int32)))).2 (by decide) (by decide) ?_
                refine own_iload X50 hx 282 rfl (hb hby at_280) rfl ?_
                refine own_iload X50 hx 284 rfl (hb hby at_282) rfl ?_
                refine own_iadd X50 hx 285 rfl (z := (4 : Int32)) (hb hby at_284) (by decide) ?_
                refine own_istore X50 hx 287 rfl #[.val (.int x0), .val (.long x1), .second, .val (.long x2), .second, .val (.long x3), .second, .val (.int (4 : Int32)), .val (.int (0 : Int32)), .val (.int (0 : Int32)), .val (.int (4 : Int32)), .val (.int (3 : Int32)), .val (.ref b1), .val (.int (4 : Int32)), .val (.long (x3 >>> ((1 : Int32) &&& 0x3f).toInt64)), .second, .val (.long (x2 + (x3 >>> ((1 : Int32) &&& 0x3f).toInt64))), .second, .val (.long br_50), .second, .unset, .unset, .val (.int (4 : Int32)), .unset, .unset] (hb hby at_285) rfl ?_
                refine own_iload X50 hx 289 rfl (hb hby at_287) rfl ?_
                obtain ⟨_, _, ⟨T51, L51, k51, n51⟩, -, X51, ⟨Lc51, hQ51, l51, y51, z51⟩, st51⟩ := Jvm.LawKit.callS X50 hx (y := (⟨"com/example/pooler/pooler/pool/BackoffDelayPinLaw", "pauseMs", "(I)J"⟩ : MethodName)) hown (mvT hZ (hw _ (List.mem_of_getElem? (i := 48) rfl))) (mvT hZ (hw _ (List.mem_of_getElem? (i := 49) rfl))) (mvT hZ (hw _ (List.mem_of_getElem? (i := 18) rfl))) (mvT hZ (hw _ (List.mem_of_getElem? (i := 50) rfl))) (by decide) (backOf (W := 0) (rmpm4 l Z a0 hw []  T28.heap n0 Z28 ) hZ (hw _ (List.mem_of_getElem? (i := 50) rfl)) (hw _ (List.mem_of_getElem? (i := 18) rfl)) (by decide) (by decide)) (g := (mkF m 289 #[.val (.int x0), .val (.long x1), .second, .val (.long x2), .second, .val (.long x3), .second, .val (.int (4 : Int32)), .val (.int (0 : Int32)), .val (.int (0 : Int32)), .val (.int (4 : Int32)), .val (.int (3 : Int32)), .val (.ref b1), .val (.int (4 : Int32)), .val (.long (x3 >>> ((1 : Int32) &&& 0x3f).toInt64)), .second, .val (.long (x2 + (x3 >>> ((1 : Int32) &&& 0x3f).toInt64))), .second, .val (.long br_50), .second, .unset, .unset, .val (.int (4 : Int32)), .unset, .unset] [(.int (4 : Int32))])) rfl (by rw [hml]; rfl) (argsL := [(.int (4 : Int32))]) (rest := []) (lenOf own_pd6 rfl) rfl (by show 2 * 0 + _ ≤ _; exact Nat.le_of_eq rfl) (hb hby at_289) (fun _ _ => ⟨rfl, eh50, (by decide : 1 + 0 ≤ _), (by decide : 3 + 0 ≤ _)⟩)
                dsimp only [Pt.U, Pt.locs, Pt.cells, Pt.slots] at X51 l51 y51 z51 st51 hQ51
                subst l51 y51 z51
                obtain ⟨rfl, N51q, eh51⟩ := hQ51
                have N51 := Fr.app N50 N51q
                refine Goes.go st51 ?_
                show Goes p e below s _ _ _ T51 (mkF m 292 #[.val (.int x0), .val (.long x1), .second, .val (.long x2), .second, .val (.long x3), .second, .val (.int (4 : Int32)), .val (.int (0 : Int32)), .val (.int (0 : Int32)), .val (.int (4 : Int32)), .val (.int (3 : Int32)), .val (.ref b1), .val (.int (4 : Int32)), .val (.long (x3 >>> ((1 : Int32) &&& 0x3f).toInt64)), .second, .val (.long (x2 + (x3 >>> ((1 : Int32) &&& 0x3f).toInt64))), .second, .val (.long br_50), .second, .unset, .unset, .val (.int (4 : Int32)), .unset, .unset] [(.long (800 : Int64))])
                refine Goes.go (X51.ldc2Long hx hown (mvT hZ (hw _ (List.mem_of_getElem? (i := 52) rfl))) (g := (mkF m 292 #[.val (.int x0), .val (.long x1), .second, .val (.long x2), .second, .val (.long x3), .second, .val (.int (4 : Int32)), .val (.int (0 : Int32)), .val (.int (0 : Int32)), .val (.int (4 : Int32)), .val (.int (3 : Int32)), .val (.ref b1), .val (.int (4 : Int32)), .val (.long (x3 >>> ((1 : Int32) &&& 0x3f).toInt64)), .second, .val (.long (x2 + (x3 >>> ((1 : Int32) &&& 0x3f).toInt64))), .second, .val (.long br_50), .second, .unset, .unset, .val (.int (4 : Int32)), .unset, .unset] [(.long (800 : Int64))])) rfl (hb hby at_292)) ?_
                show Goes p e below s _ _ _ T51 (mkF m 295 #[.val (.int x0), .val (.long x1), .second, .val (.long x2), .second, .val (.long x3), .second, .val (.int (4 : Int32)), .val (.int (0 : Int32)), .val (.int (0 : Int32)), .val (.int (4 : Int32)), .val (.int (3 : Int32)), .val (.ref b1), .val (.int (4 : Int32)), .val (.long (x3 >>> ((1 : Int32) &&& 0x3f).toInt64)), .second, .val (.long (x2 + (x3 >>> ((1 : Int32) &&& 0x3f).toInt64))), .second, .val (.long br_50), .second, .unset, .unset, .val (.int (4 : Int32)), .unset, .unset] [(.long (1000000 : Int64)), (.long (800 : Int64))])
                refine own_lmul X51 hx 296 rfl (z := (800000000 : Int64)) (hb hby at_295) (by decide) ?_
                refine own_lstore X51 hx 298 rfl #[.val (.int x0), .val (.long x1), .second, .val (.long x2), .second, .val (.long x3), .second, .val (.int (4 : Int32)), .val (.int (0 : Int32)), .val (.int (0 : Int32)), .val (.int (4 : Int32)), .val (.int (3 : Int32)), .val (.ref b1), .val (.int (4 : Int32)), .val (.long (x3 >>> ((1 : Int32) &&& 0x3f).toInt64)), .second, .val (.long (x2 + (x3 >>> ((1 : Int32) &&& 0x3f).toInt64))), .second, .val (.long br_50), .second, .unset, .unset, .val (.int (4 : Int32)), .val (.long (800000000 : Int64)), .second] (hb hby at_296) rfl ?_
                refine own_lload X51 hx 300 rfl (hb hby at_298) rfl ?_
                refine own_lload X51 hx 302 rfl (hb hby at_300) rfl ?_
                refine own_lcmp X51 hx 303 rfl (hb hby at_302) ?_
                by_cases hc303_52 : (x3 >>> ((1 : Int32) &&& 0x3f).toInt64) < (800000000 : Int64)
                · refine own_ifY X51 hx 310 (hb hby at_303) (Ltlt hc303_52).1 (by decide) (by decide) ?_
                  refine own_lload X51 hx 312 rfl (hb hby at_310) rfl ?_
                  refine own_lload X51 hx 314 rfl (hb hby at_312) rfl ?_
                  refine own_lsub X51 hx 315 rfl (hb hby at_314) rfl ?_
                  refine own_lstore X51 hx 317 rfl #[.val (.int x0), .val (.long x1), .second, .val (.long x2), .second, .val (.long x3), .second, .val (.int (4 : Int32)), .val (.int (0 : Int32)), .val (.int (0 : Int32)), .val (.int (4 : Int32)), .val (.int (3 : Int32)), .val (.ref b1), .val (.int (4 : Int32)), .val (.long (x3 >>> ((1 : Int32) &&& 0x3f).toInt64)), .second, .val (.long (x2 + (x3 >>> ((1 : Int32) &&& 0x3f).toInt64))), .second, .val (.long br_50), .second, .val (.long ((800000000 : Int64) - (x3 >>> ((1 : Int32) &&& 0x3f).toInt64))), .second, .val (.int (4 : Int32)), .val (.long (800000000 : Int64)), .second] (hb hby at_315) rfl ?_
                  refine own_lload X51 hx 319 rfl (hb hby at_317) rfl ?_
                  refine own_lload X51 hx 321 rfl (hb hby at_319) rfl ?_
                  refine own_lcmp X51 hx 322 rfl (hb hby at_321) ?_
                  refine own_ifN X51 hx 325 (hb hby at_322) (Lteq ((own_fin har hdd (P := (800000000 : Int64)) (by decide) pr50_0).1 hc303_52 : br_50 = ((800000000 : Int64) - (x3 >>> ((1 : Int32) &&& 0x3f).toInt64)))).2 rfl ?_
                  refine own_iconst X51 hx 326 rfl (1 : Int32) (hb hby at_325) (by decide) ?_
                  refine own_goto X51 hx 330 (hb hby at_326) (by decide) (by decide) ?_
                  refine own_retZ X51 hx hlk Bd.returns (by decide) (hb hby at_330) (by decide) (by decide) eh51 ?_
                  exact ⟨rfl, N51⟩
                · refine own_ifN X51 hx 306 (hb hby at_303) (Lflt hc303_52).1 rfl ?_
                  refine own_lconst X51 hx 307 rfl (0 : Int64) (hb hby at_306) (by decide) ?_
                  refine own_goto X51 hx 315 (hb hby at_307) (by decide) (by decide) ?_
                  refine own_lstore X51 hx 317 rfl #[.val (.int x0), .val (.long x1), .second, .val (.long x2), .second, .val (.long x3), .second, .val (.int (4 : Int32)), .val (.int (0 : Int32)), .val (.int (0 : Int32)), .val (.int (4 : Int32)), .val (.int (3 : Int32)), .val (.ref b1), .val (.int (4 : Int32)), .val (.long (x3 >>> ((1 : Int32) &&& 0x3f).toInt64)), .second, .val (.long (x2 + (x3 >>> ((1 : Int32) &&& 0x3f).toInt64))), .second, .val (.long br_50), .second, .val (.long (0 : Int64)), .second, .val (.int (4 : Int32)), .val (.long (800000000 : Int64)), .second] (hb hby at_315) rfl ?_
                  refine own_lload X51 hx 319 rfl (hb hby at_317) rfl ?_
                  refine own_lload X51 hx 321 rfl (hb hby at_319) rfl ?_
                  refine own_lcmp X51 hx 322 rfl (hb hby at_321) ?_
                  refine own_ifN X51 hx 325 (hb hby at_322) (Lteq ((own_fin har hdd (P := (800000000 : Int64)) (by decide) pr50_0).2 hc303_52 : br_50 = (0 : Int64))).2 rfl ?_
                  refine own_iconst X51 hx 326 rfl (1 : Int32) (hb hby at_325) (by decide) ?_
                  refine own_goto X51 hx 330 (hb hby at_326) (by decide) (by decide) ?_
                  refine own_retZ X51 hx hlk Bd.returns (by decide) (hb hby at_330) (by decide) (by decide) eh51 ?_
                  exact ⟨rfl, N51⟩
            · refine own_icmpY X22 hx 191 (hb hby at_171) (flt hc171_26).2.2.2 (by decide) (by decide) ?_
              refine own_iload X22 hx 193 rfl (hb hby at_191) rfl ?_
              refine own_iconst X22 hx 194 rfl (4 : Int32) (hb hby at_193) (by decide) ?_
              refine own_icmpY X22 hx 214 (hb hby at_194) (flt (own_down hc171_26 (by decide) : ¬ ((4 : Int32) < ff))).2.2.2 (by decide) (by decide) ?_
              refine own_iload X22 hx 216 rfl (hb hby at_214) rfl ?_
              refine own_iconst X22 hx 217 rfl (5 : Int32) (hb hby at_216) (by decide) ?_
              refine own_icmpY X22 hx 237 (hb hby at_217) (flt (own_down hc171_26 (by decide) : ¬ ((5 : Int32) < ff))).2.2.2 (by decide) (by decide) ?_
              have hfl := own_gt (k := 2) (by decide) hc148_20
              have hfh := own_le (k := 3) (by decide) hc171_26
              obtain rfl : ff = (3 : Int32) := own_pin (k := 3) (by decide) (by omega)
              obtain rfl : tot = (3 : Int32) := by rw [h_tot]; decide
              obtain rfl : lst = (2 : Int32) := by rw [h_lst]; decide
              have hdd := own_sh x3 _ rfl
              have har : ar_21 = x2 := own_atE pr21_0 (by decide)
              refine own_lload X22 hx 239 rfl (hb hby at_237) rfl ?_
              refine own_iconst X22 hx 240 rfl (1 : Int32) (hb hby at_239) (by decide) ?_
              refine own_lshr X22 hx 241 rfl (hb hby at_240) rfl ?_
              refine own_lstore X22 hx 243 rfl #[.val (.int x0), .val (.long x1), .second, .val (.long x2), .second, .val (.long x3), .second, .val (.int (3 : Int32)), .val (.int (0 : Int32)), .val (.int (0 : Int32)), .val (.int (3 : Int32)), .val (.int (2 : Int32)), .val (.ref b1), .val (.int (3 : Int32)), .val (.long (x3 >>> ((1 : Int32) &&& 0x3f).toInt64)), .second, .unset, .unset, .unset, .unset, .unset, .unset, .unset, .unset, .unset] (hb hby at_241) rfl ?_
              refine own_lloadN X22 hx 244 rfl (hb hby at_243) rfl ?_
              refine own_lload X22 hx 246 rfl (hb hby at_244) rfl ?_
              refine own_ladd X22 hx 247 rfl (hb hby at_246) rfl ?_
              refine own_lstore X22 hx 249 rfl #[.val (.int x0), .val (.long x1), .second, .val (.long x2), .second, .val (.long x3), .second, .val (.int (3 : Int32)), .val (.int (0 : Int32)), .val (.int (0 : Int32)), .val (.int (3 : Int32)), .val (.int (2 : Int32)), .val (.ref b1), .val (.int (3 : Int32)), .val (.long (x3 >>> ((1 : Int32) &&& 0x3f).toInt64)), .second, .val (.long (x2 + (x3 >>> ((1 : Int32) &&& 0x3f).toInt64))), .second, .unset, .unset, .unset, .unset, .unset, .unset, .unset] (hb hby at_247) rfl ?_
              refine own_aload X22 hx 251 rfl (hb hby at_249) rfl rfl ?_
              refine own_lload X22 hx 253 rfl (hb hby at_251) rfl ?_
              obtain ⟨cq53, kq53, q53a, q53b, q53c⟩ := isOf hZ rfl f25
              obtain ⟨_, _, ⟨T53, L53, k53, n53⟩, -, X53, ⟨Lc53, hQ53, l53, y53, z53⟩, st53⟩ := X22.virtualBack hx (y := (⟨"com/example/pooler/pooler/pool/Backoff", "delay", "(J)J"⟩ : MethodName)) (z := (⟨"com/example/pooler/pooler/pool/Backoff", "delay", "(J)J"⟩ : MethodName)) hown (mvT hZ (hw _ (List.mem_of_getElem? (i := 9) rfl))) (mvT hZ (hw _ (List.mem_of_getElem? (i := 10) rfl))) (notFace_of_selects (args := #[]) (mvT hZ (hw _ (List.mem_of_getElem? (i := 12) rfl)))) (mvT hZ (hw _ (List.mem_of_getElem? (i := 12) rfl))) (mvT hZ (hw _ (List.mem_of_getElem? (i := 11) rfl))) (by decide) (backOf (W := 0) (rmde3 l Z a0 hw [] b1 (x2 + (x3 >>> ((1 : Int32) &&& 0x3f).toInt64)) ar_21 T22.heap n0 Z22 f25 f23 f24 f22_0 f22_1 f22_2) hZ (hw _ (List.mem_of_getElem? (i := 13) rfl)) (hw _ (List.mem_of_getElem? (i := 2) rfl)) (by decide) (by decide)) q53a q53c (g := (mkF m 253 #[.val (.int x0), .val (.long x1), .second, .val (.long x2), .second, .val (.long x3), .second, .val (.int (3 : Int32)), .val (.int (0 : Int32)), .val (.int (0 : Int32)), .val (.int (3 : Int32)), .val (.int (2 : Int32)), .val (.ref b1), .val (.int (3 : Int32)), .val (.long (x3 >>> ((1 : Int32) &&& 0x3f).toInt64)), .second, .val (.long (x2 + (x3 >>> ((1 : Int32) &&& 0x3f).toInt64))), .second, .unset, .unset, .unset, .unset, .unset, .unset, .unset] [(.long (x2 + (x3 >>> ((1 : Int32) &&& 0x3f).toInt64))), (.ref b1)])) rfl (by rw [hml]; rfl) (Steps.refl _) (argsL := [(.long (x2 + (x3 >>> ((1 : Int32) &&& 0x3f).toInt64)))]) (rest := []) (lenOf own_pd5 rfl) rfl (by show 2 * 0 + _ ≤ _; exact Nat.le_of_eq rfl) (hb hby at_253) (fun _ _ => ⟨rfl, rfl, (by decide : 1 + 0 ≤ _), (by decide : 3 + 0 ≤ _)⟩)
              dsimp only [Pt.U, Pt.locs, Pt.cells, Pt.slots] at X53 l53 y53 z53 st53 hQ53
              subst l53 y53 z53
              obtain ⟨br_53, rfl, N53q, eh53, pr53_0⟩ := hQ53
              have N53 := Fr.app N22 N53q
              refine Goes.tr st53 ?_
              show Goes p e below s _ _ _ T53 (mkF m 256 #[.val (.int x0), .val (.long x1), .second, .val (.long x2), .second, .val (.long x3), .second, .val (.int (3 : Int32)), .val (.int (0 : Int32)), .val (.int (0 : Int32)), .val (.int (3 : Int32)), .val (.int (2 : Int32)), .val (.ref b1), .val (.int (3 : Int32)), .val (.long (x3 >>> ((1 : Int32) &&& 0x3f).toInt64)), .second, .val (.long (x2 + (x3 >>> ((1 : Int32) &&& 0x3f).toInt64))), .second, .unset, .unset, .unset, .unset, .unset, .unset, .unset] [(.long br_53)])
              refine own_lstore X53 hx 258 rfl #[.val (.int x0), .val (.long x1), .second, .val (.long x2), .second, .val (.long x3), .second, .val (.int (3 : Int32)), .val (.int (0 : Int32)), .val (.int (0 : Int32)), .val (.int (3 : Int32)), .val (.int (2 : Int32)), .val (.ref b1), .val (.int (3 : Int32)), .val (.long (x3 >>> ((1 : Int32) &&& 0x3f).toInt64)), .second, .val (.long (x2 + (x3 >>> ((1 : Int32) &&& 0x3f).toInt64))), .second, .val (.long br_53), .second, .unset, .unset, .unset, .unset, .unset] (hb hby at_256) rfl ?_
              refine own_iload X53 hx 260 rfl (hb hby at_258) rfl ?_
              refine own_ifY X53 hx 269 (hb hby at_260) ((if0 _ _).trans (feq ((by decide) : ¬ ((3 : Int32) = (0 : Int32)))).2) (by decide) (by decide) ?_
              refine own_iload X53 hx 271 rfl (hb hby at_269) rfl ?_
              refine own_iconst X53 hx 272 rfl (1 : Int32) (hb hby at_271) (by decide) ?_
              refine own_icmpY X53 hx 280 (hb hby at_272) (feq ((by decide) : ¬ ((0 : Int32) = (1 : Int32)))).2 (by decide) (by decide) ?_
              refine own_iload X53 hx 282 rfl (hb hby at_280) rfl ?_
              refine own_iload X53 hx 284 rfl (hb hby at_282) rfl ?_
              refine own_iadd X53 hx 285 rfl (z := (3 : Int32)) (hb hby at_284) (by decide) ?_
              refine own_istore X53 hx 287 rfl #[.val (.int x0), .val (.long x1), .second, .val (.long x2), .second, .val (.long x3), .second, .val (.int (3 : Int32)), .val (.int (0 : Int32)), .val (.int (0 : Int32)), .val (.int (3 : Int32)), .val (.int (2 : Int32)), .val (.ref b1), .val (.int (3 : Int32)), .val (.long (x3 >>> ((1 : Int32) &&& 0x3f).toInt64)), .second, .val (.long (x2 + (x3 >>> ((1 : Int32) &&& 0x3f).toInt64))), .second, .val (.long br_53), .second, .unset, .unset, .val (.int (3 : Int32)), .unset, .unset] (hb hby at_285) rfl ?_
              refine own_iload X53 hx 289 rfl (hb hby at_287) rfl ?_
              obtain ⟨_, _, ⟨T54, L54, k54, n54⟩, -, X54, ⟨Lc54, hQ54, l54, y54, z54⟩, st54⟩ := Jvm.LawKit.callS X53 hx (y := (⟨"com/example/pooler/pooler/pool/BackoffDelayPinLaw", "pauseMs", "(I)J"⟩ : MethodName)) hown (mvT hZ (hw _ (List.mem_of_getElem? (i := 48) rfl))) (mvT hZ (hw _ (List.mem_of_getElem? (i := 49) rfl))) (mvT hZ (hw _ (List.mem_of_getElem? (i := 18) rfl))) (mvT hZ (hw _ (List.mem_of_getElem? (i := 50) rfl))) (by decide) (backOf (W := 0) (rmpm3 l Z a0 hw []  T22.heap n0 Z22 ) hZ (hw _ (List.mem_of_getElem? (i := 50) rfl)) (hw _ (List.mem_of_getElem? (i := 18) rfl)) (by decide) (by decide)) (g := (mkF m 289 #[.val (.int x0), .val (.long x1), .second, .val (.long x2), .second, .val (.long x3), .second, .val (.int (3 : Int32)), .val (.int (0 : Int32)), .val (.int (0 : Int32)), .val (.int (3 : Int32)), .val (.int (2 : Int32)), .val (.ref b1), .val (.int (3 : Int32)), .val (.long (x3 >>> ((1 : Int32) &&& 0x3f).toInt64)), .second, .val (.long (x2 + (x3 >>> ((1 : Int32) &&& 0x3f).toInt64))), .second, .val (.long br_53), .second, .unset, .unset, .val (.int (3 : Int32)), .unset, .unset] [(.int (3 : Int32))])) rfl (by rw [hml]; rfl) (argsL := [(.int (3 : Int32))]) (rest := []) (lenOf own_pd6 rfl) rfl (by show 2 * 0 + _ ≤ _; exact Nat.le_of_eq rfl) (hb hby at_289) (fun _ _ => ⟨rfl, eh53, (by decide : 1 + 0 ≤ _), (by decide : 3 + 0 ≤ _)⟩)
              dsimp only [Pt.U, Pt.locs, Pt.cells, Pt.slots] at X54 l54 y54 z54 st54 hQ54
              subst l54 y54 z54
              obtain ⟨rfl, N54q, eh54⟩ := hQ54
              have N54 := Fr.app N53 N54q
              refine Goes.go st54 ?_
              show Goes p e below s _ _ _ T54 (mkF m 292 #[.val (.int x0), .val (.long x1), .second, .val (.long x2), .second, .val (.long x3), .second, .val (.int (3 : Int32)), .val (.int (0 : Int32)), .val (.int (0 : Int32)), .val (.int (3 : Int32)), .val (.int (2 : Int32)), .val (.ref b1), .val (.int (3 : Int32)), .val (.long (x3 >>> ((1 : Int32) &&& 0x3f).toInt64)), .second, .val (.long (x2 + (x3 >>> ((1 : Int32) &&& 0x3f).toInt64))), .second, .val (.long br_53), .second, .unset, .unset, .val (.int (3 : Int32)), .unset, .unset] [(.long (400 : Int64))])
              refine Goes.go (X54.ldc2Long hx hown (mvT hZ (hw _ (List.mem_of_getElem? (i := 52) rfl))) (g := (mkF m 292 #[.val (.int x0), .val (.long x1), .second, .val (.long x2), .second, .val (.long x3), .second, .val (.int (3 : Int32)), .val (.int (0 : Int32)), .val (.int (0 : Int32)), .val (.int (3 : Int32)), .val (.int (2 : Int32)), .val (.ref b1), .val (.int (3 : Int32)), .val (.long (x3 >>> ((1 : Int32) &&& 0x3f).toInt64)), .second, .val (.long (x2 + (x3 >>> ((1 : Int32) &&& 0x3f).toInt64))), .second, .val (.long br_53), .second, .unset, .unset, .val (.int (3 : Int32)), .unset, .unset] [(.long (400 : Int64))])) rfl (hb hby at_292)) ?_
              show Goes p e below s _ _ _ T54 (mkF m 295 #[.val (.int x0), .val (.long x1), .second, .val (.long x2), .second, .val (.long x3), .second, .val (.int (3 : Int32)), .val (.int (0 : Int32)), .val (.int (0 : Int32)), .val (.int (3 : Int32)), .val (.int (2 : Int32)), .val (.ref b1), .val (.int (3 : Int32)), .val (.long (x3 >>> ((1 : Int32) &&& 0x3f).toInt64)), .second, .val (.long (x2 + (x3 >>> ((1 : Int32) &&& 0x3f).toInt64))), .second, .val (.long br_53), .second, .unset, .unset, .val (.int (3 : Int32)), .unset, .unset] [(.long (1000000 : Int64)), (.long (400 : Int64))])
              refine own_lmul X54 hx 296 rfl (z := (400000000 : Int64)) (hb hby at_295) (by decide) ?_
              refine own_lstore X54 hx 298 rfl #[.val (.int x0), .val (.long x1), .second, .val (.long x2), .second, .val (.long x3), .second, .val (.int (3 : Int32)), .val (.int (0 : Int32)), .val (.int (0 : Int32)), .val (.int (3 : Int32)), .val (.int (2 : Int32)), .val (.ref b1), .val (.int (3 : Int32)), .val (.long (x3 >>> ((1 : Int32) &&& 0x3f).toInt64)), .second, .val (.long (x2 + (x3 >>> ((1 : Int32) &&& 0x3f).toInt64))), .second, .val (.long br_53), .second, .unset, .unset, .val (.int (3 : Int32)), .val (.long (400000000 : Int64)), .second] (hb hby at_296) rfl ?_
              refine own_lload X54 hx 300 rfl (hb hby at_298) rfl ?_
              refine own_lload X54 hx 302 rfl (hb hby at_300) rfl ?_
              refine own_lcmp X54 hx 303 rfl (hb hby at_302) ?_
              by_cases hc303_55 : (x3 >>> ((1 : Int32) &&& 0x3f).toInt64) < (400000000 : Int64)
              · refine own_ifY X54 hx 310 (hb hby at_303) (Ltlt hc303_55).1 (by decide) (by decide) ?_
                refine own_lload X54 hx 312 rfl (hb hby at_310) rfl ?_
                refine own_lload X54 hx 314 rfl (hb hby at_312) rfl ?_
                refine own_lsub X54 hx 315 rfl (hb hby at_314) rfl ?_
                refine own_lstore X54 hx 317 rfl #[.val (.int x0), .val (.long x1), .second, .val (.long x2), .second, .val (.long x3), .second, .val (.int (3 : Int32)), .val (.int (0 : Int32)), .val (.int (0 : Int32)), .val (.int (3 : Int32)), .val (.int (2 : Int32)), .val (.ref b1), .val (.int (3 : Int32)), .val (.long (x3 >>> ((1 : Int32) &&& 0x3f).toInt64)), .second, .val (.long (x2 + (x3 >>> ((1 : Int32) &&& 0x3f).toInt64))), .second, .val (.long br_53), .second, .val (.long ((400000000 : Int64) - (x3 >>> ((1 : Int32) &&& 0x3f).toInt64))), .second, .val (.int (3 : Int32)), .val (.long (400000000 : Int64)), .second] (hb hby at_315) rfl ?_
                refine own_lload X54 hx 319 rfl (hb hby at_317) rfl ?_
                refine own_lload X54 hx 321 rfl (hb hby at_319) rfl ?_
                refine own_lcmp X54 hx 322 rfl (hb hby at_321) ?_
                refine own_ifN X54 hx 325 (hb hby at_322) (Lteq ((own_fin har hdd (P := (400000000 : Int64)) (by decide) pr53_0).1 hc303_55 : br_53 = ((400000000 : Int64) - (x3 >>> ((1 : Int32) &&& 0x3f).toInt64)))).2 rfl ?_
                refine own_iconst X54 hx 326 rfl (1 : Int32) (hb hby at_325) (by decide) ?_
                refine own_goto X54 hx 330 (hb hby at_326) (by decide) (by decide) ?_
                refine own_retZ X54 hx hlk Bd.returns (by decide) (hb hby at_330) (by decide) (by decide) eh54 ?_
                exact ⟨rfl, N54⟩
              · refine own_ifN X54 hx 306 (hb hby at_303) (Lflt hc303_55).1 rfl ?_
                refine own_lconst X54 hx 307 rfl (0 : Int64) (hb hby at_306) (by decide) ?_
                refine own_goto X54 hx 315 (hb hby at_307) (by decide) (by decide) ?_
                refine own_lstore X54 hx 317 rfl #[.val (.int x0), .val (.long x1), .second, .val (.long x2), .second, .val (.long x3), .second, .val (.int (3 : Int32)), .val (.int (0 : Int32)), .val (.int (0 : Int32)), .val (.int (3 : Int32)), .val (.int (2 : Int32)), .val (.ref b1), .val (.int (3 : Int32)), .val (.long (x3 >>> ((1 : Int32) &&& 0x3f).toInt64)), .second, .val (.long (x2 + (x3 >>> ((1 : Int32) &&& 0x3f).toInt64))), .second, .val (.long br_53), .second, .val (.long (0 : Int64)), .second, .val (.int (3 : Int32)), .val (.long (400000000 : Int64)), .second] (hb hby at_315) rfl ?_
                refine own_lload X54 hx 319 rfl (hb hby at_317) rfl ?_
                refine own_lload X54 hx 321 rfl (hb hby at_319) rfl ?_
                refine own_lcmp X54 hx 322 rfl (hb hby at_321) ?_
                refine own_ifN X54 hx 325 (hb hby at_322) (Lteq ((own_fin har hdd (P := (400000000 : Int64)) (by decide) pr53_0).2 hc303_55 : br_53 = (0 : Int64))).2 rfl ?_
                refine own_iconst X54 hx 326 rfl (1 : Int32) (hb hby at_325) (by decide) ?_
                refine own_goto X54 hx 330 (hb hby at_326) (by decide) (by decide) ?_
                refine own_retZ X54 hx hlk Bd.returns (by decide) (hb hby at_330) (by decide) (by decide) eh54 ?_
                exact ⟨rfl, N54⟩
          · refine own_icmpY X16 hx 168 (hb hby at_148) (flt hc148_20).2.2.2 (by decide) (by decide) ?_
            refine own_iload X16 hx 170 rfl (hb hby at_168) rfl ?_
            refine own_iconst X16 hx 171 rfl (3 : Int32) (hb hby at_170) (by decide) ?_
            refine own_icmpY X16 hx 191 (hb hby at_171) (flt (own_down hc148_20 (by decide) : ¬ ((3 : Int32) < ff))).2.2.2 (by decide) (by decide) ?_
            refine own_iload X16 hx 193 rfl (hb hby at_191) rfl ?_
            refine own_iconst X16 hx 194 rfl (4 : Int32) (hb hby at_193) (by decide) ?_
            refine own_icmpY X16 hx 214 (hb hby at_194) (flt (own_down hc148_20 (by decide) : ¬ ((4 : Int32) < ff))).2.2.2 (by decide) (by decide) ?_
            refine own_iload X16 hx 216 rfl (hb hby at_214) rfl ?_
            refine own_iconst X16 hx 217 rfl (5 : Int32) (hb hby at_216) (by decide) ?_
            refine own_icmpY X16 hx 237 (hb hby at_217) (flt (own_down hc148_20 (by decide) : ¬ ((5 : Int32) < ff))).2.2.2 (by decide) (by decide) ?_
            have hfl := own_gt (k := 1) (by decide) hc125_14
            have hfh := own_le (k := 2) (by decide) hc148_20
            obtain rfl : ff = (2 : Int32) := own_pin (k := 2) (by decide) (by omega)
            obtain rfl : tot = (2 : Int32) := by rw [h_tot]; decide
            obtain rfl : lst = (1 : Int32) := by rw [h_lst]; decide
            have hdd := own_sh x3 _ rfl
            have har : ar_15 = x2 := own_atE pr15_0 (by decide)
            refine own_lload X16 hx 239 rfl (hb hby at_237) rfl ?_
            refine own_iconst X16 hx 240 rfl (1 : Int32) (hb hby at_239) (by decide) ?_
            refine own_lshr X16 hx 241 rfl (hb hby at_240) rfl ?_
            refine own_lstore X16 hx 243 rfl #[.val (.int x0), .val (.long x1), .second, .val (.long x2), .second, .val (.long x3), .second, .val (.int (2 : Int32)), .val (.int (0 : Int32)), .val (.int (0 : Int32)), .val (.int (2 : Int32)), .val (.int (1 : Int32)), .val (.ref b1), .val (.int (2 : Int32)), .val (.long (x3 >>> ((1 : Int32) &&& 0x3f).toInt64)), .second, .unset, .unset, .unset, .unset, .unset, .unset, .unset, .unset, .unset] (hb hby at_241) rfl ?_
            refine own_lloadN X16 hx 244 rfl (hb hby at_243) rfl ?_
            refine own_lload X16 hx 246 rfl (hb hby at_244) rfl ?_
            refine own_ladd X16 hx 247 rfl (hb hby at_246) rfl ?_
            refine own_lstore X16 hx 249 rfl #[.val (.int x0), .val (.long x1), .second, .val (.long x2), .second, .val (.long x3), .second, .val (.int (2 : Int32)), .val (.int (0 : Int32)), .val (.int (0 : Int32)), .val (.int (2 : Int32)), .val (.int (1 : Int32)), .val (.ref b1), .val (.int (2 : Int32)), .val (.long (x3 >>> ((1 : Int32) &&& 0x3f).toInt64)), .second, .val (.long (x2 + (x3 >>> ((1 : Int32) &&& 0x3f).toInt64))), .second, .unset, .unset, .unset, .unset, .unset, .unset, .unset] (hb hby at_247) rfl ?_
            refine own_aload X16 hx 251 rfl (hb hby at_249) rfl rfl ?_
            refine own_lload X16 hx 253 rfl (hb hby at_251) rfl ?_
            obtain ⟨cq56, kq56, q56a, q56b, q56c⟩ := isOf hZ rfl f19
            obtain ⟨_, _, ⟨T56, L56, k56, n56⟩, -, X56, ⟨Lc56, hQ56, l56, y56, z56⟩, st56⟩ := X16.virtualBack hx (y := (⟨"com/example/pooler/pooler/pool/Backoff", "delay", "(J)J"⟩ : MethodName)) (z := (⟨"com/example/pooler/pooler/pool/Backoff", "delay", "(J)J"⟩ : MethodName)) hown (mvT hZ (hw _ (List.mem_of_getElem? (i := 9) rfl))) (mvT hZ (hw _ (List.mem_of_getElem? (i := 10) rfl))) (notFace_of_selects (args := #[]) (mvT hZ (hw _ (List.mem_of_getElem? (i := 12) rfl)))) (mvT hZ (hw _ (List.mem_of_getElem? (i := 12) rfl))) (mvT hZ (hw _ (List.mem_of_getElem? (i := 11) rfl))) (by decide) (backOf (W := 0) (rmde2 l Z a0 hw [] b1 (x2 + (x3 >>> ((1 : Int32) &&& 0x3f).toInt64)) ar_15 T16.heap n0 Z16 f19 f17 f18 f16_0 f16_1 f16_2) hZ (hw _ (List.mem_of_getElem? (i := 13) rfl)) (hw _ (List.mem_of_getElem? (i := 2) rfl)) (by decide) (by decide)) q56a q56c (g := (mkF m 253 #[.val (.int x0), .val (.long x1), .second, .val (.long x2), .second, .val (.long x3), .second, .val (.int (2 : Int32)), .val (.int (0 : Int32)), .val (.int (0 : Int32)), .val (.int (2 : Int32)), .val (.int (1 : Int32)), .val (.ref b1), .val (.int (2 : Int32)), .val (.long (x3 >>> ((1 : Int32) &&& 0x3f).toInt64)), .second, .val (.long (x2 + (x3 >>> ((1 : Int32) &&& 0x3f).toInt64))), .second, .unset, .unset, .unset, .unset, .unset, .unset, .unset] [(.long (x2 + (x3 >>> ((1 : Int32) &&& 0x3f).toInt64))), (.ref b1)])) rfl (by rw [hml]; rfl) (Steps.refl _) (argsL := [(.long (x2 + (x3 >>> ((1 : Int32) &&& 0x3f).toInt64)))]) (rest := []) (lenOf own_pd5 rfl) rfl (by show 2 * 0 + _ ≤ _; exact Nat.le_of_eq rfl) (hb hby at_253) (fun _ _ => ⟨rfl, rfl, (by decide : 1 + 0 ≤ _), (by decide : 3 + 0 ≤ _)⟩)
            dsimp only [Pt.U, Pt.locs, Pt.cells, Pt.slots] at X56 l56 y56 z56 st56 hQ56
            subst l56 y56 z56
            obtain ⟨br_56, rfl, N56q, eh56, pr56_0⟩ := hQ56
            have N56 := Fr.app N16 N56q
            refine Goes.tr st56 ?_
            show Goes p e below s _ _ _ T56 (mkF m 256 #[.val (.int x0), .val (.long x1), .second, .val (.long x2), .second, .val (.long x3), .second, .val (.int (2 : Int32)), .val (.int (0 : Int32)), .val (.int (0 : Int32)), .val (.int (2 : Int32)), .val (.int (1 : Int32)), .val (.ref b1), .val (.int (2 : Int32)), .val (.long (x3 >>> ((1 : Int32) &&& 0x3f).toInt64)), .second, .val (.long (x2 + (x3 >>> ((1 : Int32) &&& 0x3f).toInt64))), .second, .unset, .unset, .unset, .unset, .unset, .unset, .unset] [(.long br_56)])
            refine own_lstore X56 hx 258 rfl #[.val (.int x0), .val (.long x1), .second, .val (.long x2), .second, .val (.long x3), .second, .val (.int (2 : Int32)), .val (.int (0 : Int32)), .val (.int (0 : Int32)), .val (.int (2 : Int32)), .val (.int (1 : Int32)), .val (.ref b1), .val (.int (2 : Int32)), .val (.long (x3 >>> ((1 : Int32) &&& 0x3f).toInt64)), .second, .val (.long (x2 + (x3 >>> ((1 : Int32) &&& 0x3f).toInt64))), .second, .val (.long br_56), .second, .unset, .unset, .unset, .unset, .unset] (hb hby at_256) rfl ?_
            refine own_iload X56 hx 260 rfl (hb hby at_258) rfl ?_
            refine own_ifY X56 hx 269 (hb hby at_260) ((if0 _ _).trans (feq ((by decide) : ¬ ((2 : Int32) = (0 : Int32)))).2) (by decide) (by decide) ?_
            refine own_iload X56 hx 271 rfl (hb hby at_269) rfl ?_
            refine own_iconst X56 hx 272 rfl (1 : Int32) (hb hby at_271) (by decide) ?_
            refine own_icmpY X56 hx 280 (hb hby at_272) (feq ((by decide) : ¬ ((0 : Int32) = (1 : Int32)))).2 (by decide) (by decide) ?_
            refine own_iload X56 hx 282 rfl (hb hby at_280) rfl ?_
            refine own_iload X56 hx 284 rfl (hb hby at_282) rfl ?_
            refine own_iadd X56 hx 285 rfl (z := (2 : Int32)) (hb hby at_284) (by decide) ?_
            refine own_istore X56 hx 287 rfl #[.val (.int x0), .val (.long x1), .second, .val (.long x2), .second, .val (.long x3), .second, .val (.int (2 : Int32)), .val (.int (0 : Int32)), .val (.int (0 : Int32)), .val (.int (2 : Int32)), .val (.int (1 : Int32)), .val (.ref b1), .val (.int (2 : Int32)), .val (.long (x3 >>> ((1 : Int32) &&& 0x3f).toInt64)), .second, .val (.long (x2 + (x3 >>> ((1 : Int32) &&& 0x3f).toInt64))), .second, .val (.long br_56), .second, .unset, .unset, .val (.int (2 : Int32)), .unset, .unset] (hb hby at_285) rfl ?_
            refine own_iload X56 hx 289 rfl (hb hby at_287) rfl ?_
            obtain ⟨_, _, ⟨T57, L57, k57, n57⟩, -, X57, ⟨Lc57, hQ57, l57, y57, z57⟩, st57⟩ := Jvm.LawKit.callS X56 hx (y := (⟨"com/example/pooler/pooler/pool/BackoffDelayPinLaw", "pauseMs", "(I)J"⟩ : MethodName)) hown (mvT hZ (hw _ (List.mem_of_getElem? (i := 48) rfl))) (mvT hZ (hw _ (List.mem_of_getElem? (i := 49) rfl))) (mvT hZ (hw _ (List.mem_of_getElem? (i := 18) rfl))) (mvT hZ (hw _ (List.mem_of_getElem? (i := 50) rfl))) (by decide) (backOf (W := 0) (rmpm2 l Z a0 hw []  T16.heap n0 Z16 ) hZ (hw _ (List.mem_of_getElem? (i := 50) rfl)) (hw _ (List.mem_of_getElem? (i := 18) rfl)) (by decide) (by decide)) (g := (mkF m 289 #[.val (.int x0), .val (.long x1), .second, .val (.long x2), .second, .val (.long x3), .second, .val (.int (2 : Int32)), .val (.int (0 : Int32)), .val (.int (0 : Int32)), .val (.int (2 : Int32)), .val (.int (1 : Int32)), .val (.ref b1), .val (.int (2 : Int32)), .val (.long (x3 >>> ((1 : Int32) &&& 0x3f).toInt64)), .second, .val (.long (x2 + (x3 >>> ((1 : Int32) &&& 0x3f).toInt64))), .second, .val (.long br_56), .second, .unset, .unset, .val (.int (2 : Int32)), .unset, .unset] [(.int (2 : Int32))])) rfl (by rw [hml]; rfl) (argsL := [(.int (2 : Int32))]) (rest := []) (lenOf own_pd6 rfl) rfl (by show 2 * 0 + _ ≤ _; exact Nat.le_of_eq rfl) (hb hby at_289) (fun _ _ => ⟨rfl, eh56, (by decide : 1 + 0 ≤ _), (by decide : 3 + 0 ≤ _)⟩)
            dsimp only [Pt.U, Pt.locs, Pt.cells, Pt.slots] at X57 l57 y57 z57 st57 hQ57
            subst l57 y57 z57
            obtain ⟨rfl, N57q, eh57⟩ := hQ57
            have N57 := Fr.app N56 N57q
            refine Goes.go st57 ?_
            show Goes p e below s _ _ _ T57 (mkF m 292 #[.val (.int x0), .val (.long x1), .second, .val (.long x2), .second, .val (.long x3), .second, .val (.int (2 : Int32)), .val (.int (0 : Int32)), .val (.int (0 : Int32)), .val (.int (2 : Int32)), .val (.int (1 : Int32)), .val (.ref b1), .val (.int (2 : Int32)), .val (.long (x3 >>> ((1 : Int32) &&& 0x3f).toInt64)), .second, .val (.long (x2 + (x3 >>> ((1 : Int32) &&& 0x3f).toInt64))), .second, .val (.long br_56), .second, .unset, .unset, .val (.int (2 : Int32)), .unset, .unset] [(.long (200 : Int64))])
            refine Goes.go (X57.ldc2Long hx hown (mvT hZ (hw _ (List.mem_of_getElem? (i := 52) rfl))) (g := (mkF m 292 #[.val (.int x0), .val (.long x1), .second, .val (.long x2), .second, .val (.long x3), .second, .val (.int (2 : Int32)), .val (.int (0 : Int32)), .val (.int (0 : Int32)), .val (.int (2 : Int32)), .val (.int (1 : Int32)), .val (.ref b1), .val (.int (2 : Int32)), .val (.long (x3 >>> ((1 : Int32) &&& 0x3f).toInt64)), .second, .val (.long (x2 + (x3 >>> ((1 : Int32) &&& 0x3f).toInt64))), .second, .val (.long br_56), .second, .unset, .unset, .val (.int (2 : Int32)), .unset, .unset] [(.long (200 : Int64))])) rfl (hb hby at_292)) ?_
            show Goes p e below s _ _ _ T57 (mkF m 295 #[.val (.int x0), .val (.long x1), .second, .val (.long x2), .second, .val (.long x3), .second, .val (.int (2 : Int32)), .val (.int (0 : Int32)), .val (.int (0 : Int32)), .val (.int (2 : Int32)), .val (.int (1 : Int32)), .val (.ref b1), .val (.int (2 : Int32)), .val (.long (x3 >>> ((1 : Int32) &&& 0x3f).toInt64)), .second, .val (.long (x2 + (x3 >>> ((1 : Int32) &&& 0x3f).toInt64))), .second, .val (.long br_56), .second, .unset, .unset, .val (.int (2 : Int32)), .unset, .unset] [(.long (1000000 : Int64)), (.long (200 : Int64))])
            refine own_lmul X57 hx 296 rfl (z := (200000000 : Int64)) (hb hby at_295) (by decide) ?_
            refine own_lstore X57 hx 298 rfl #[.val (.int x0), .val (.long x1), .second, .val (.long x2), .second, .val (.long x3), .second, .val (.int (2 : Int32)), .val (.int (0 : Int32)), .val (.int (0 : Int32)), .val (.int (2 : Int32)), .val (.int (1 : Int32)), .val (.ref b1), .val (.int (2 : Int32)), .val (.long (x3 >>> ((1 : Int32) &&& 0x3f).toInt64)), .second, .val (.long (x2 + (x3 >>> ((1 : Int32) &&& 0x3f).toInt64))), .second, .val (.long br_56), .second, .unset, .unset, .val (.int (2 : Int32)), .val (.long (200000000 : Int64)), .second] (hb hby at_296) rfl ?_
            refine own_lload X57 hx 300 rfl (hb hby at_298) rfl ?_
            refine own_lload X57 hx 302 rfl (hb hby at_300) rfl ?_
            refine own_lcmp X57 hx 303 rfl (hb hby at_302) ?_
            by_cases hc303_58 : (x3 >>> ((1 : Int32) &&& 0x3f).toInt64) < (200000000 : Int64)
            · refine own_ifY X57 hx 310 (hb hby at_303) (Ltlt hc303_58).1 (by decide) (by decide) ?_
              refine own_lload X57 hx 312 rfl (hb hby at_310) rfl ?_
              refine own_lload X57 hx 314 rfl (hb hby at_312) rfl ?_
              refine own_lsub X57 hx 315 rfl (hb hby at_314) rfl ?_
              refine own_lstore X57 hx 317 rfl #[.val (.int x0), .val (.long x1), .second, .val (.long x2), .second, .val (.long x3), .second, .val (.int (2 : Int32)), .val (.int (0 : Int32)), .val (.int (0 : Int32)), .val (.int (2 : Int32)), .val (.int (1 : Int32)), .val (.ref b1), .val (.int (2 : Int32)), .val (.long (x3 >>> ((1 : Int32) &&& 0x3f).toInt64)), .second, .val (.long (x2 + (x3 >>> ((1 : Int32) &&& 0x3f).toInt64))), .second, .val (.long br_56), .second, .val (.long ((200000000 : Int64) - (x3 >>> ((1 : Int32) &&& 0x3f).toInt64))), .second, .val (.int (2 : Int32)), .val (.long (200000000 : Int64)), .second] (hb hby at_315) rfl ?_
              refine own_lload X57 hx 319 rfl (hb hby at_317) rfl ?_
              refine own_lload X57 hx 321 rfl (hb hby at_319) rfl ?_
              refine own_lcmp X57 hx 322 rfl (hb hby at_321) ?_
              refine own_ifN X57 hx 325 (hb hby at_322) (Lteq ((own_fin har hdd (P := (200000000 : Int64)) (by decide) pr56_0).1 hc303_58 : br_56 = ((200000000 : Int64) - (x3 >>> ((1 : Int32) &&& 0x3f).toInt64)))).2 rfl ?_
              refine own_iconst X57 hx 326 rfl (1 : Int32) (hb hby at_325) (by decide) ?_
              refine own_goto X57 hx 330 (hb hby at_326) (by decide) (by decide) ?_
              refine own_retZ X57 hx hlk Bd.returns (by decide) (hb hby at_330) (by decide) (by decide) eh57 ?_
              exact ⟨rfl, N57⟩
            · refine own_ifN X57 hx 306 (hb hby at_303) (Lflt hc303_58).1 rfl ?_
              refine own_lconst X57 hx 307 rfl (0 : Int64) (hb hby at_306) (by decide) ?_
              refine own_goto X57 hx 315 (hb hby at_307) (by decide) (by decide) ?_
              refine own_lstore X57 hx 317 rfl #[.val (.int x0), .val (.long x1), .second, .val (.long x2), .second, .val (.long x3), .second, .val (.int (2 : Int32)), .val (.int (0 : Int32)), .val (.int (0 : Int32)), .val (.int (2 : Int32)), .val (.int (1 : Int32)), .val (.ref b1), .val (.int (2 : Int32)), .val (.long (x3 >>> ((1 : Int32) &&& 0x3f).toInt64)), .second, .val (.long (x2 + (x3 >>> ((1 : Int32) &&& 0x3f).toInt64))), .second, .val (.long br_56), .second, .val (.long (0 : Int64)), .second, .val (.int (2 : Int32)), .val (.long (200000000 : Int64)), .second] (hb hby at_315) rfl ?_
              refine own_lload X57 hx 319 rfl (hb hby at_317) rfl ?_
              refine own_lload X57 hx 321 rfl (hb hby at_319) rfl ?_
              refine own_lcmp X57 hx 322 rfl (hb hby at_321) ?_
              refine own_ifN X57 hx 325 (hb hby at_322) (Lteq ((own_fin har hdd (P := (200000000 : Int64)) (by decide) pr56_0).2 hc303_58 : br_56 = (0 : Int64))).2 rfl ?_
              refine own_iconst X57 hx 326 rfl (1 : Int32) (hb hby at_325) (by decide) ?_
              refine own_goto X57 hx 330 (hb hby at_326) (by decide) (by decide) ?_
              refine own_retZ X57 hx hlk Bd.returns (by decide) (hb hby at_330) (by decide) (by decide) eh57 ?_
              exact ⟨rfl, N57⟩
        · refine own_icmpY X10 hx 145 (hb hby at_125) (flt hc125_14).2.2.2 (by decide) (by decide) ?_
          refine own_iload X10 hx 147 rfl (hb hby at_145) rfl ?_
          refine own_iconst X10 hx 148 rfl (2 : Int32) (hb hby at_147) (by decide) ?_
          refine own_icmpY X10 hx 168 (hb hby at_148) (flt (own_down hc125_14 (by decide) : ¬ ((2 : Int32) < ff))).2.2.2 (by decide) (by decide) ?_
          refine own_iload X10 hx 170 rfl (hb hby at_168) rfl ?_
          refine own_iconst X10 hx 171 rfl (3 : Int32) (hb hby at_170) (by decide) ?_
          refine own_icmpY X10 hx 191 (hb hby at_171) (flt (own_down hc125_14 (by decide) : ¬ ((3 : Int32) < ff))).2.2.2 (by decide) (by decide) ?_
          refine own_iload X10 hx 193 rfl (hb hby at_191) rfl ?_
          refine own_iconst X10 hx 194 rfl (4 : Int32) (hb hby at_193) (by decide) ?_
          refine own_icmpY X10 hx 214 (hb hby at_194) (flt (own_down hc125_14 (by decide) : ¬ ((4 : Int32) < ff))).2.2.2 (by decide) (by decide) ?_
          refine own_iload X10 hx 216 rfl (hb hby at_214) rfl ?_
          refine own_iconst X10 hx 217 rfl (5 : Int32) (hb hby at_216) (by decide) ?_
          refine own_icmpY X10 hx 237 (hb hby at_217) (flt (own_down hc125_14 (by decide) : ¬ ((5 : Int32) < ff))).2.2.2 (by decide) (by decide) ?_
          have hfl := own_gt (k := 0) (by decide) hc102_8
          have hfh := own_le (k := 1) (by decide) hc125_14
          obtain rfl : ff = (1 : Int32) := own_pin (k := 1) (by decide) (by omega)
          obtain rfl : tot = (1 : Int32) := by rw [h_tot]; decide
          obtain rfl : lst = (0 : Int32) := by rw [h_lst]; decide
          have hdd := own_sh x3 _ rfl
          have har : ar_9 = x2 := own_atE pr9_0 (by decide)
          refine own_lload X10 hx 239 rfl (hb hby at_237) rfl ?_
          refine own_iconst X10 hx 240 rfl (1 : Int32) (hb hby at_239) (by decide) ?_
          refine own_lshr X10 hx 241 rfl (hb hby at_240) rfl ?_
          refine own_lstore X10 hx 243 rfl #[.val (.int x0), .val (.long x1), .second, .val (.long x2), .second, .val (.long x3), .second, .val (.int (1 : Int32)), .val (.int (0 : Int32)), .val (.int (0 : Int32)), .val (.int (1 : Int32)), .val (.int (0 : Int32)), .val (.ref b1), .val (.int (1 : Int32)), .val (.long (x3 >>> ((1 : Int32) &&& 0x3f).toInt64)), .second, .unset, .unset, .unset, .unset, .unset, .unset, .unset, .unset, .unset] (hb hby at_241) rfl ?_
          refine own_lloadN X10 hx 244 rfl (hb hby at_243) rfl ?_
          refine own_lload X10 hx 246 rfl (hb hby at_244) rfl ?_
          refine own_ladd X10 hx 247 rfl (hb hby at_246) rfl ?_
          refine own_lstore X10 hx 249 rfl #[.val (.int x0), .val (.long x1), .second, .val (.long x2), .second, .val (.long x3), .second, .val (.int (1 : Int32)), .val (.int (0 : Int32)), .val (.int (0 : Int32)), .val (.int (1 : Int32)), .val (.int (0 : Int32)), .val (.ref b1), .val (.int (1 : Int32)), .val (.long (x3 >>> ((1 : Int32) &&& 0x3f).toInt64)), .second, .val (.long (x2 + (x3 >>> ((1 : Int32) &&& 0x3f).toInt64))), .second, .unset, .unset, .unset, .unset, .unset, .unset, .unset] (hb hby at_247) rfl ?_
          refine own_aload X10 hx 251 rfl (hb hby at_249) rfl rfl ?_
          refine own_lload X10 hx 253 rfl (hb hby at_251) rfl ?_
          obtain ⟨cq59, kq59, q59a, q59b, q59c⟩ := isOf hZ rfl f13
          obtain ⟨_, _, ⟨T59, L59, k59, n59⟩, -, X59, ⟨Lc59, hQ59, l59, y59, z59⟩, st59⟩ := X10.virtualBack hx (y := (⟨"com/example/pooler/pooler/pool/Backoff", "delay", "(J)J"⟩ : MethodName)) (z := (⟨"com/example/pooler/pooler/pool/Backoff", "delay", "(J)J"⟩ : MethodName)) hown (mvT hZ (hw _ (List.mem_of_getElem? (i := 9) rfl))) (mvT hZ (hw _ (List.mem_of_getElem? (i := 10) rfl))) (notFace_of_selects (args := #[]) (mvT hZ (hw _ (List.mem_of_getElem? (i := 12) rfl)))) (mvT hZ (hw _ (List.mem_of_getElem? (i := 12) rfl))) (mvT hZ (hw _ (List.mem_of_getElem? (i := 11) rfl))) (by decide) (backOf (W := 0) (rmde1 l Z a0 hw [] b1 (x2 + (x3 >>> ((1 : Int32) &&& 0x3f).toInt64)) ar_9 T10.heap n0 Z10 f13 f11 f12 f10_0 f10_1 f10_2) hZ (hw _ (List.mem_of_getElem? (i := 13) rfl)) (hw _ (List.mem_of_getElem? (i := 2) rfl)) (by decide) (by decide)) q59a q59c (g := (mkF m 253 #[.val (.int x0), .val (.long x1), .second, .val (.long x2), .second, .val (.long x3), .second, .val (.int (1 : Int32)), .val (.int (0 : Int32)), .val (.int (0 : Int32)), .val (.int (1 : Int32)), .val (.int (0 : Int32)), .val (.ref b1), .val (.int (1 : Int32)), .val (.long (x3 >>> ((1 : Int32) &&& 0x3f).toInt64)), .second, .val (.long (x2 + (x3 >>> ((1 : Int32) &&& 0x3f).toInt64))), .second, .unset, .unset, .unset, .unset, .unset, .unset, .unset] [(.long (x2 + (x3 >>> ((1 : Int32) &&& 0x3f).toInt64))), (.ref b1)])) rfl (by rw [hml]; rfl) (Steps.refl _) (argsL := [(.long (x2 + (x3 >>> ((1 : Int32) &&& 0x3f).toInt64)))]) (rest := []) (lenOf own_pd5 rfl) rfl (by show 2 * 0 + _ ≤ _; exact Nat.le_of_eq rfl) (hb hby at_253) (fun _ _ => ⟨rfl, rfl, (by decide : 1 + 0 ≤ _), (by decide : 3 + 0 ≤ _)⟩)
          dsimp only [Pt.U, Pt.locs, Pt.cells, Pt.slots] at X59 l59 y59 z59 st59 hQ59
          subst l59 y59 z59
          obtain ⟨br_59, rfl, N59q, eh59, pr59_0⟩ := hQ59
          have N59 := Fr.app N10 N59q
          refine Goes.tr st59 ?_
          show Goes p e below s _ _ _ T59 (mkF m 256 #[.val (.int x0), .val (.long x1), .second, .val (.long x2), .second, .val (.long x3), .second, .val (.int (1 : Int32)), .val (.int (0 : Int32)), .val (.int (0 : Int32)), .val (.int (1 : Int32)), .val (.int (0 : Int32)), .val (.ref b1), .val (.int (1 : Int32)), .val (.long (x3 >>> ((1 : Int32) &&& 0x3f).toInt64)), .second, .val (.long (x2 + (x3 >>> ((1 : Int32) &&& 0x3f).toInt64))), .second, .unset, .unset, .unset, .unset, .unset, .unset, .unset] [(.long br_59)])
          refine own_lstore X59 hx 258 rfl #[.val (.int x0), .val (.long x1), .second, .val (.long x2), .second, .val (.long x3), .second, .val (.int (1 : Int32)), .val (.int (0 : Int32)), .val (.int (0 : Int32)), .val (.int (1 : Int32)), .val (.int (0 : Int32)), .val (.ref b1), .val (.int (1 : Int32)), .val (.long (x3 >>> ((1 : Int32) &&& 0x3f).toInt64)), .second, .val (.long (x2 + (x3 >>> ((1 : Int32) &&& 0x3f).toInt64))), .second, .val (.long br_59), .second, .unset, .unset, .unset, .unset, .unset] (hb hby at_256) rfl ?_
          refine own_iload X59 hx 260 rfl (hb hby at_258) rfl ?_
          refine own_ifY X59 hx 269 (hb hby at_260) ((if0 _ _).trans (feq ((by decide) : ¬ ((1 : Int32) = (0 : Int32)))).2) (by decide) (by decide) ?_
          refine own_iload X59 hx 271 rfl (hb hby at_269) rfl ?_
          refine own_iconst X59 hx 272 rfl (1 : Int32) (hb hby at_271) (by decide) ?_
          refine own_icmpY X59 hx 280 (hb hby at_272) (feq ((by decide) : ¬ ((0 : Int32) = (1 : Int32)))).2 (by decide) (by decide) ?_
          refine own_iload X59 hx 282 rfl (hb hby at_280) rfl ?_
          refine own_iload X59 hx 284 rfl (hb hby at_282) rfl ?_
          refine own_iadd X59 hx 285 rfl (z := (1 : Int32)) (hb hby at_284) (by decide) ?_
          refine own_istore X59 hx 287 rfl #[.val (.int x0), .val (.long x1), .second, .val (.long x2), .second, .val (.long x3), .second, .val (.int (1 : Int32)), .val (.int (0 : Int32)), .val (.int (0 : Int32)), .val (.int (1 : Int32)), .val (.int (0 : Int32)), .val (.ref b1), .val (.int (1 : Int32)), .val (.long (x3 >>> ((1 : Int32) &&& 0x3f).toInt64)), .second, .val (.long (x2 + (x3 >>> ((1 : Int32) &&& 0x3f).toInt64))), .second, .val (.long br_59), .second, .unset, .unset, .val (.int (1 : Int32)), .unset, .unset] (hb hby at_285) rfl ?_
          refine own_iload X59 hx 289 rfl (hb hby at_287) rfl ?_
          obtain ⟨_, _, ⟨T60, L60, k60, n60⟩, -, X60, ⟨Lc60, hQ60, l60, y60, z60⟩, st60⟩ := Jvm.LawKit.callS X59 hx (y := (⟨"com/example/pooler/pooler/pool/BackoffDelayPinLaw", "pauseMs", "(I)J"⟩ : MethodName)) hown (mvT hZ (hw _ (List.mem_of_getElem? (i := 48) rfl))) (mvT hZ (hw _ (List.mem_of_getElem? (i := 49) rfl))) (mvT hZ (hw _ (List.mem_of_getElem? (i := 18) rfl))) (mvT hZ (hw _ (List.mem_of_getElem? (i := 50) rfl))) (by decide) (backOf (W := 0) (rmpm1 l Z a0 hw []  T10.heap n0 Z10 ) hZ (hw _ (List.mem_of_getElem? (i := 50) rfl)) (hw _ (List.mem_of_getElem? (i := 18) rfl)) (by decide) (by decide)) (g := (mkF m 289 #[.val (.int x0), .val (.long x1), .second, .val (.long x2), .second, .val (.long x3), .second, .val (.int (1 : Int32)), .val (.int (0 : Int32)), .val (.int (0 : Int32)), .val (.int (1 : Int32)), .val (.int (0 : Int32)), .val (.ref b1), .val (.int (1 : Int32)), .val (.long (x3 >>> ((1 : Int32) &&& 0x3f).toInt64)), .second, .val (.long (x2 + (x3 >>> ((1 : Int32) &&& 0x3f).toInt64))), .second, .val (.long br_59), .second, .unset, .unset, .val (.int (1 : Int32)), .unset, .unset] [(.int (1 : Int32))])) rfl (by rw [hml]; rfl) (argsL := [(.int (1 : Int32))]) (rest := []) (lenOf own_pd6 rfl) rfl (by show 2 * 0 + _ ≤ _; exact Nat.le_of_eq rfl) (hb hby at_289) (fun _ _ => ⟨rfl, eh59, (by decide : 1 + 0 ≤ _), (by decide : 3 + 0 ≤ _)⟩)
          dsimp only [Pt.U, Pt.locs, Pt.cells, Pt.slots] at X60 l60 y60 z60 st60 hQ60
          subst l60 y60 z60
          obtain ⟨rfl, N60q, eh60⟩ := hQ60
          have N60 := Fr.app N59 N60q
          refine Goes.go st60 ?_
          show Goes p e below s _ _ _ T60 (mkF m 292 #[.val (.int x0), .val (.long x1), .second, .val (.long x2), .second, .val (.long x3), .second, .val (.int (1 : Int32)), .val (.int (0 : Int32)), .val (.int (0 : Int32)), .val (.int (1 : Int32)), .val (.int (0 : Int32)), .val (.ref b1), .val (.int (1 : Int32)), .val (.long (x3 >>> ((1 : Int32) &&& 0x3f).toInt64)), .second, .val (.long (x2 + (x3 >>> ((1 : Int32) &&& 0x3f).toInt64))), .second, .val (.long br_59), .second, .unset, .unset, .val (.int (1 : Int32)), .unset, .unset] [(.long (100 : Int64))])
          refine Goes.go (X60.ldc2Long hx hown (mvT hZ (hw _ (List.mem_of_getElem? (i := 52) rfl))) (g := (mkF m 292 #[.val (.int x0), .val (.long x1), .second, .val (.long x2), .second, .val (.long x3), .second, .val (.int (1 : Int32)), .val (.int (0 : Int32)), .val (.int (0 : Int32)), .val (.int (1 : Int32)), .val (.int (0 : Int32)), .val (.ref b1), .val (.int (1 : Int32)), .val (.long (x3 >>> ((1 : Int32) &&& 0x3f).toInt64)), .second, .val (.long (x2 + (x3 >>> ((1 : Int32) &&& 0x3f).toInt64))), .second, .val (.long br_59), .second, .unset, .unset, .val (.int (1 : Int32)), .unset, .unset] [(.long (100 : Int64))])) rfl (hb hby at_292)) ?_
          show Goes p e below s _ _ _ T60 (mkF m 295 #[.val (.int x0), .val (.long x1), .second, .val (.long x2), .second, .val (.long x3), .second, .val (.int (1 : Int32)), .val (.int (0 : Int32)), .val (.int (0 : Int32)), .val (.int (1 : Int32)), .val (.int (0 : Int32)), .val (.ref b1), .val (.int (1 : Int32)), .val (.long (x3 >>> ((1 : Int32) &&& 0x3f).toInt64)), .second, .val (.long (x2 + (x3 >>> ((1 : Int32) &&& 0x3f).toInt64))), .second, .val (.long br_59), .second, .unset, .unset, .val (.int (1 : Int32)), .unset, .unset] [(.long (1000000 : Int64)), (.long (100 : Int64))])
          refine own_lmul X60 hx 296 rfl (z := (100000000 : Int64)) (hb hby at_295) (by decide) ?_
          refine own_lstore X60 hx 298 rfl #[.val (.int x0), .val (.long x1), .second, .val (.long x2), .second, .val (.long x3), .second, .val (.int (1 : Int32)), .val (.int (0 : Int32)), .val (.int (0 : Int32)), .val (.int (1 : Int32)), .val (.int (0 : Int32)), .val (.ref b1), .val (.int (1 : Int32)), .val (.long (x3 >>> ((1 : Int32) &&& 0x3f).toInt64)), .second, .val (.long (x2 + (x3 >>> ((1 : Int32) &&& 0x3f).toInt64))), .second, .val (.long br_59), .second, .unset, .unset, .val (.int (1 : Int32)), .val (.long (100000000 : Int64)), .second] (hb hby at_296) rfl ?_
          refine own_lload X60 hx 300 rfl (hb hby at_298) rfl ?_
          refine own_lload X60 hx 302 rfl (hb hby at_300) rfl ?_
          refine own_lcmp X60 hx 303 rfl (hb hby at_302) ?_
          by_cases hc303_61 : (x3 >>> ((1 : Int32) &&& 0x3f).toInt64) < (100000000 : Int64)
          · refine own_ifY X60 hx 310 (hb hby at_303) (Ltlt hc303_61).1 (by decide) (by decide) ?_
            refine own_lload X60 hx 312 rfl (hb hby at_310) rfl ?_
            refine own_lload X60 hx 314 rfl (hb hby at_312) rfl ?_
            refine own_lsub X60 hx 315 rfl (hb hby at_314) rfl ?_
            refine own_lstore X60 hx 317 rfl #[.val (.int x0), .val (.long x1), .second, .val (.long x2), .second, .val (.long x3), .second, .val (.int (1 : Int32)), .val (.int (0 : Int32)), .val (.int (0 : Int32)), .val (.int (1 : Int32)), .val (.int (0 : Int32)), .val (.ref b1), .val (.int (1 : Int32)), .val (.long (x3 >>> ((1 : Int32) &&& 0x3f).toInt64)), .second, .val (.long (x2 + (x3 >>> ((1 : Int32) &&& 0x3f).toInt64))), .second, .val (.long br_59), .second, .val (.long ((100000000 : Int64) - (x3 >>> ((1 : Int32) &&& 0x3f).toInt64))), .second, .val (.int (1 : Int32)), .val (.long (100000000 : Int64)), .second] (hb hby at_315) rfl ?_
            refine own_lload X60 hx 319 rfl (hb hby at_317) rfl ?_
            refine own_lload X60 hx 321 rfl (hb hby at_319) rfl ?_
            refine own_lcmp X60 hx 322 rfl (hb hby at_321) ?_
            refine own_ifN X60 hx 325 (hb hby at_322) (Lteq ((own_fin har hdd (P := (100000000 : Int64)) (by decide) pr59_0).1 hc303_61 : br_59 = ((100000000 : Int64) - (x3 >>> ((1 : Int32) &&& 0x3f).toInt64)))).2 rfl ?_
            refine own_iconst X60 hx 326 rfl (1 : Int32) (hb hby at_325) (by decide) ?_
            refine own_goto X60 hx 330 (hb hby at_326) (by decide) (by decide) ?_
            refine own_retZ X60 hx hlk Bd.returns (by decide) (hb hby at_330) (by decide) (by decide) eh60 ?_
            exact ⟨rfl, N60⟩
          · refine own_ifN X60 hx 306 (hb hby at_303) (Lflt hc303_61).1 rfl ?_
            refine own_lconst X60 hx 307 rfl (0 : Int64) (hb hby at_306) (by decide) ?_
            refine own_goto X60 hx 315 (hb hby at_307) (by decide) (by decide) ?_
            refine own_lstore X60 hx 317 rfl #[.val (.int x0), .val (.long x1), .second, .val (.long x2), .second, .val (.long x3), .second, .val (.int (1 : Int32)), .val (.int (0 : Int32)), .val (.int (0 : Int32)), .val (.int (1 : Int32)), .val (.int (0 : Int32)), .val (.ref b1), .val (.int (1 : Int32)), .val (.long (x3 >>> ((1 : Int32) &&& 0x3f).toInt64)), .second, .val (.long (x2 + (x3 >>> ((1 : Int32) &&& 0x3f).toInt64))), .second, .val (.long br_59), .second, .val (.long (0 : Int64)), .second, .val (.int (1 : Int32)), .val (.long (100000000 : Int64)), .second] (hb hby at_315) rfl ?_
            refine own_lload X60 hx 319 rfl (hb hby at_317) rfl ?_
            refine own_lload X60 hx 321 rfl (hb hby at_319) rfl ?_
            refine own_lcmp X60 hx 322 rfl (hb hby at_321) ?_
            refine own_ifN X60 hx 325 (hb hby at_322) (Lteq ((own_fin har hdd (P := (100000000 : Int64)) (by decide) pr59_0).2 hc303_61 : br_59 = (0 : Int64))).2 rfl ?_
            refine own_iconst X60 hx 326 rfl (1 : Int32) (hb hby at_325) (by decide) ?_
            refine own_goto X60 hx 330 (hb hby at_326) (by decide) (by decide) ?_
            refine own_retZ X60 hx hlk Bd.returns (by decide) (hb hby at_330) (by decide) (by decide) eh60 ?_
            exact ⟨rfl, N60⟩
      · refine own_ifY X7 hx 122 (hb hby at_102) ((if0 _ _).trans (flt hc102_8).2.2.2) (by decide) (by decide) ?_
        refine own_iload X7 hx 124 rfl (hb hby at_122) rfl ?_
        refine own_iconst X7 hx 125 rfl (1 : Int32) (hb hby at_124) (by decide) ?_
        refine own_icmpY X7 hx 145 (hb hby at_125) (flt (own_down hc102_8 (by decide) : ¬ ((1 : Int32) < ff))).2.2.2 (by decide) (by decide) ?_
        refine own_iload X7 hx 147 rfl (hb hby at_145) rfl ?_
        refine own_iconst X7 hx 148 rfl (2 : Int32) (hb hby at_147) (by decide) ?_
        refine own_icmpY X7 hx 168 (hb hby at_148) (flt (own_down hc102_8 (by decide) : ¬ ((2 : Int32) < ff))).2.2.2 (by decide) (by decide) ?_
        refine own_iload X7 hx 170 rfl (hb hby at_168) rfl ?_
        refine own_iconst X7 hx 171 rfl (3 : Int32) (hb hby at_170) (by decide) ?_
        refine own_icmpY X7 hx 191 (hb hby at_171) (flt (own_down hc102_8 (by decide) : ¬ ((3 : Int32) < ff))).2.2.2 (by decide) (by decide) ?_
        refine own_iload X7 hx 193 rfl (hb hby at_191) rfl ?_
        refine own_iconst X7 hx 194 rfl (4 : Int32) (hb hby at_193) (by decide) ?_
        refine own_icmpY X7 hx 214 (hb hby at_194) (flt (own_down hc102_8 (by decide) : ¬ ((4 : Int32) < ff))).2.2.2 (by decide) (by decide) ?_
        refine own_iload X7 hx 216 rfl (hb hby at_214) rfl ?_
        refine own_iconst X7 hx 217 rfl (5 : Int32) (hb hby at_216) (by decide) ?_
        refine own_icmpY X7 hx 237 (hb hby at_217) (flt (own_down hc102_8 (by decide) : ¬ ((5 : Int32) < ff))).2.2.2 (by decide) (by decide) ?_
        have hfl := hff.1
        have hfh := own_le (k := 0) (by decide) hc102_8
        obtain rfl : ff = (0 : Int32) := own_pin (k := 0) (by decide) (by omega)
        obtain rfl : tot = (0 : Int32) := by rw [h_tot]; decide
        obtain rfl : lst = (-1 : Int32) := by rw [h_lst]; decide
        have hdd := own_sh x3 _ rfl
        refine own_lload X7 hx 239 rfl (hb hby at_237) rfl ?_
        refine own_iconst X7 hx 240 rfl (1 : Int32) (hb hby at_239) (by decide) ?_
        refine own_lshr X7 hx 241 rfl (hb hby at_240) rfl ?_
        refine own_lstore X7 hx 243 rfl #[.val (.int x0), .val (.long x1), .second, .val (.long x2), .second, .val (.long x3), .second, .val (.int (0 : Int32)), .val (.int (0 : Int32)), .val (.int (0 : Int32)), .val (.int (0 : Int32)), .val (.int (-1 : Int32)), .val (.ref b1), .val (.int (0 : Int32)), .val (.long (x3 >>> ((1 : Int32) &&& 0x3f).toInt64)), .second, .unset, .unset, .unset, .unset, .unset, .unset, .unset, .unset, .unset] (hb hby at_241) rfl ?_
        refine own_lloadN X7 hx 244 rfl (hb hby at_243) rfl ?_
        refine own_lload X7 hx 246 rfl (hb hby at_244) rfl ?_
        refine own_ladd X7 hx 247 rfl (hb hby at_246) rfl ?_
        refine own_lstore X7 hx 249 rfl #[.val (.int x0), .val (.long x1), .second, .val (.long x2), .second, .val (.long x3), .second, .val (.int (0 : Int32)), .val (.int (0 : Int32)), .val (.int (0 : Int32)), .val (.int (0 : Int32)), .val (.int (-1 : Int32)), .val (.ref b1), .val (.int (0 : Int32)), .val (.long (x3 >>> ((1 : Int32) &&& 0x3f).toInt64)), .second, .val (.long (x2 + (x3 >>> ((1 : Int32) &&& 0x3f).toInt64))), .second, .unset, .unset, .unset, .unset, .unset, .unset, .unset] (hb hby at_247) rfl ?_
        refine own_aload X7 hx 251 rfl (hb hby at_249) rfl rfl ?_
        refine own_lload X7 hx 253 rfl (hb hby at_251) rfl ?_
        obtain ⟨cq62, kq62, q62a, q62b, q62c⟩ := isOf hZ eh7 A1
        obtain ⟨_, _, ⟨T62, L62, k62, n62⟩, -, X62, ⟨Lc62, hQ62, l62, y62, z62⟩, st62⟩ := X7.virtualBack hx (y := (⟨"com/example/pooler/pooler/pool/Backoff", "delay", "(J)J"⟩ : MethodName)) (z := (⟨"com/example/pooler/pooler/pool/Backoff", "delay", "(J)J"⟩ : MethodName)) hown (mvT hZ (hw _ (List.mem_of_getElem? (i := 9) rfl))) (mvT hZ (hw _ (List.mem_of_getElem? (i := 10) rfl))) (notFace_of_selects (args := #[]) (mvT hZ (hw _ (List.mem_of_getElem? (i := 12) rfl)))) (mvT hZ (hw _ (List.mem_of_getElem? (i := 12) rfl))) (mvT hZ (hw _ (List.mem_of_getElem? (i := 11) rfl))) (by decide) (backOf (W := 0) (rmdz l Z a0 hw [] b1 (x2 + (x3 >>> ((1 : Int32) &&& 0x3f).toInt64)) h1 n0 Z1 f4) hZ (hw _ (List.mem_of_getElem? (i := 13) rfl)) (hw _ (List.mem_of_getElem? (i := 2) rfl)) (by decide) (by decide)) q62a q62c (g := (mkF m 253 #[.val (.int x0), .val (.long x1), .second, .val (.long x2), .second, .val (.long x3), .second, .val (.int (0 : Int32)), .val (.int (0 : Int32)), .val (.int (0 : Int32)), .val (.int (0 : Int32)), .val (.int (-1 : Int32)), .val (.ref b1), .val (.int (0 : Int32)), .val (.long (x3 >>> ((1 : Int32) &&& 0x3f).toInt64)), .second, .val (.long (x2 + (x3 >>> ((1 : Int32) &&& 0x3f).toInt64))), .second, .unset, .unset, .unset, .unset, .unset, .unset, .unset] [(.long (x2 + (x3 >>> ((1 : Int32) &&& 0x3f).toInt64))), (.ref b1)])) rfl (by rw [hml]; rfl) (Steps.refl _) (argsL := [(.long (x2 + (x3 >>> ((1 : Int32) &&& 0x3f).toInt64)))]) (rest := []) (lenOf own_pd5 rfl) rfl (by show 2 * 0 + _ ≤ _; exact Nat.le_of_eq rfl) (hb hby at_253) (fun _ _ => ⟨rfl, eh7, (by decide : 1 + 0 ≤ _), (by decide : 3 + 0 ≤ _)⟩)
        dsimp only [Pt.U, Pt.locs, Pt.cells, Pt.slots] at X62 l62 y62 z62 st62 hQ62
        subst l62 y62 z62
        obtain ⟨rfl, N62q, eh62⟩ := hQ62
        have N62 := Fr.app N7 N62q
        refine Goes.tr st62 ?_
        show Goes p e below s _ _ _ T62 (mkF m 256 #[.val (.int x0), .val (.long x1), .second, .val (.long x2), .second, .val (.long x3), .second, .val (.int (0 : Int32)), .val (.int (0 : Int32)), .val (.int (0 : Int32)), .val (.int (0 : Int32)), .val (.int (-1 : Int32)), .val (.ref b1), .val (.int (0 : Int32)), .val (.long (x3 >>> ((1 : Int32) &&& 0x3f).toInt64)), .second, .val (.long (x2 + (x3 >>> ((1 : Int32) &&& 0x3f).toInt64))), .second, .unset, .unset, .unset, .unset, .unset, .unset, .unset] [(.long (0 : Int64))])
        refine own_lstore X62 hx 258 rfl #[.val (.int x0), .val (.long x1), .second, .val (.long x2), .second, .val (.long x3), .second, .val (.int (0 : Int32)), .val (.int (0 : Int32)), .val (.int (0 : Int32)), .val (.int (0 : Int32)), .val (.int (-1 : Int32)), .val (.ref b1), .val (.int (0 : Int32)), .val (.long (x3 >>> ((1 : Int32) &&& 0x3f).toInt64)), .second, .val (.long (x2 + (x3 >>> ((1 : Int32) &&& 0x3f).toInt64))), .second, .val (.long (0 : Int64)), .second, .unset, .unset, .unset, .unset, .unset] (hb hby at_256) rfl ?_
        refine own_iload X62 hx 260 rfl (hb hby at_258) rfl ?_
        refine own_ifN X62 hx 263 (hb hby at_260) ((if0 _ _).trans (teq ((by decide) : (0 : Int32) = (0 : Int32))).2) rfl ?_
        refine own_lconst X62 hx 264 rfl (0 : Int64) (hb hby at_263) (by decide) ?_
        refine own_lstore X62 hx 266 rfl #[.val (.int x0), .val (.long x1), .second, .val (.long x2), .second, .val (.long x3), .second, .val (.int (0 : Int32)), .val (.int (0 : Int32)), .val (.int (0 : Int32)), .val (.int (0 : Int32)), .val (.int (-1 : Int32)), .val (.ref b1), .val (.int (0 : Int32)), .val (.long (x3 >>> ((1 : Int32) &&& 0x3f).toInt64)), .second, .val (.long (x2 + (x3 >>> ((1 : Int32) &&& 0x3f).toInt64))), .second, .val (.long (0 : Int64)), .second, .val (.long (0 : Int64)), .second, .unset, .unset, .unset] (hb hby at_264) rfl ?_
        refine own_goto X62 hx 317 (hb hby at_266) (by decide) (by decide) ?_
        refine own_lload X62 hx 319 rfl (hb hby at_317) rfl ?_
        refine own_lload X62 hx 321 rfl (hb hby at_319) rfl ?_
        refine own_lcmp X62 hx 322 rfl (hb hby at_321) ?_
        refine own_ifN X62 hx 325 (hb hby at_322) (Lteq (rfl : (0 : Int64) = (0 : Int64))).2 rfl ?_
        refine own_iconst X62 hx 326 rfl (1 : Int32) (hb hby at_325) (by decide) ?_
        refine own_goto X62 hx 330 (hb hby at_326) (by decide) (by decide) ?_
        refine own_retZ X62 hx hlk Bd.returns (by decide) (hb hby at_330) (by decide) (by decide) eh62 ?_
        exact ⟨rfl, N62⟩
    · refine own_iload X0 hx 30 rfl (hb hby at_28) rfl ?_
      refine own_iadd X0 hx 31 rfl (z := (1 : Int32)) (hb hby at_30) (by decide) ?_
      refine own_iload X0 hx 33 rfl (hb hby at_31) rfl ?_
      obtain ⟨tot, h_tot⟩ : ∃ z, z = ((1 : Int32) + ff) := ⟨_, rfl⟩
      refine own_iadd X0 hx 34 rfl (hb hby at_33) h_tot.symm ?_
      refine own_istore X0 hx 36 rfl #[.val (.int x0), .val (.long x1), .second, .val (.long x2), .second, .val (.long x3), .second, .val (.int ff), .val (.int (0 : Int32)), .val (.int (1 : Int32)), .val (.int tot), .unset, .unset, .unset, .unset, .unset, .unset, .unset, .unset, .unset, .unset, .unset, .unset, .unset, .unset] (hb hby at_34) rfl ?_
      refine own_iload X0 hx 38 rfl (hb hby at_36) rfl ?_
      refine own_iconst X0 hx 39 rfl (1 : Int32) (hb hby at_38) (by decide) ?_
      obtain ⟨lst, h_lst⟩ : ∃ z, z = (tot - (1 : Int32)) := ⟨_, rfl⟩
      refine own_isub X0 hx 40 rfl (hb hby at_39) h_lst.symm ?_
      refine own_istore X0 hx 42 rfl #[.val (.int x0), .val (.long x1), .second, .val (.long x2), .second, .val (.long x3), .second, .val (.int ff), .val (.int (0 : Int32)), .val (.int (1 : Int32)), .val (.int tot), .val (.int lst), .unset, .unset, .unset, .unset, .unset, .unset, .unset, .unset, .unset, .unset, .unset, .unset, .unset] (hb hby at_40) rfl ?_
      obtain ⟨T63, h63, X63, e63, E63, A63, D63, -, st63⟩ := newO X0 hx hZ hown (hw _ (List.mem_of_getElem? (i := 0) rfl)) (hw _ (List.mem_of_getElem? (i := 1) rfl)) (hw _ (List.mem_of_getElem? (i := 2) rfl)) e0 (g := (mkF m 42 #[.val (.int x0), .val (.long x1), .second, .val (.long x2), .second, .val (.long x3), .second, .val (.int ff), .val (.int (0 : Int32)), .val (.int (1 : Int32)), .val (.int tot), .val (.int lst), .unset, .unset, .unset, .unset, .unset, .unset, .unset, .unset, .unset, .unset, .unset, .unset, .unset] [])) rfl (hb hby at_42) (by decide) (by decide)
      obtain ⟨b63, g63⟩ : ∃ z, z = h0.size := ⟨_, rfl⟩
      rw [← g63] at A63 D63 st63
      have G63 : n0 ≤ b63 := Nat.le_trans Z0 (Nat.le_of_eq g63.symm)
      have H63 : h0.size ≤ b63 := Nat.le_trans K0.1 (Nat.le_of_eq g63.symm)
      have f64 := S_y_SHORTEST.ext E63
      have f65 := S_y_LONGEST.ext E63
      have K63 := K0.ext E63
      have Z63 := Nat.le_trans Z0 E63.1
      have f66 : Fld Z h63 b63 "com/example/pooler/pooler/pool/Backoff" "tried" "Z" (.int (0 : Int32)) := D63 (Or.inl (hw _ (List.mem_of_getElem? (i := 15) rfl))) (ty := .boolean) (by decide)
      have f67 : Fld Z h63 b63 "com/example/pooler/pooler/pool/Backoff" "endedAt" "J" (.long (0 : Int64)) := D63 (Or.inl (hw _ (List.mem_of_getElem? (i := 30) rfl))) (ty := .long) (by decide)
      have f68 : Fld Z h63 b63 "com/example/pooler/pooler/pool/Backoff" "failuresInARow" "I" (.int (0 : Int32)) := D63 (Or.inl (hw _ (List.mem_of_getElem? (i := 32) rfl))) (ty := .int) (by decide)
      refine Goes.go st63 ?_
      show Goes p e below s _ _ _ T63 (mkF m 45 #[.val (.int x0), .val (.long x1), .second, .val (.long x2), .second, .val (.long x3), .second, .val (.int ff), .val (.int (0 : Int32)), .val (.int (1 : Int32)), .val (.int tot), .val (.int lst), .unset, .unset, .unset, .unset, .unset, .unset, .unset, .unset, .unset, .unset, .unset, .unset, .unset] [(.ref b63)])
      refine own_dup X63 hx 46 rfl (hb hby at_45) rfl ?_
      obtain ⟨_, _, ⟨T69, L69, k69, n69⟩, -, X69, ⟨Lc69, hQ69, l69, y69, z69⟩, st69⟩ := X63.specialBack hx (y := (⟨"com/example/pooler/pooler/pool/Backoff", "<init>", "()V"⟩ : MethodName)) rfl hown (mvT hZ (hw _ (List.mem_of_getElem? (i := 3) rfl))) (mvT hZ (hw _ (List.mem_of_getElem? (i := 4) rfl))) (mvT hZ (hw _ (List.mem_of_getElem? (i := 5) rfl))) (by decide) (backOf (W := 1) (rm1 l Z a0 hw [] b63 h63 n0 Z63 ) hZ (hw _ (List.mem_of_getElem? (i := 5) rfl)) (hw _ (List.mem_of_getElem? (i := 2) rfl)) (by decide) (by decide)) (g := (mkF m 46 #[.val (.int x0), .val (.long x1), .second, .val (.long x2), .second, .val (.long x3), .second, .val (.int ff), .val (.int (0 : Int32)), .val (.int (1 : Int32)), .val (.int tot), .val (.int lst), .unset, .unset, .unset, .unset, .unset, .unset, .unset, .unset, .unset, .unset, .unset, .unset, .unset] [(.ref b63), (.ref b63)])) rfl (by rw [hml]; rfl) (Steps.refl _) (a := b63) (argsL := []) (rest := [(.ref b63)]) (lenOf own_pd3 rfl) rfl (by show 2 * 0 + _ ≤ _; exact Nat.le_of_eq rfl) (hb hby at_46) (fun _ _ => ⟨rfl, e63, (by decide : 1 + 0 ≤ _), (by decide : 3 + 0 ≤ _)⟩)
      dsimp only [Pt.U, Pt.locs, Pt.cells, Pt.slots] at X69 l69 y69 z69 st69 hQ69
      subst l69 y69 z69
      obtain ⟨rfl, N69q, eh69⟩ := hQ69
      have N69 := Fr.app N0 N69q
      refine Goes.tr st69 ?_
      show Goes p e below s _ _ _ T69 (mkF m 49 #[.val (.int x0), .val (.long x1), .second, .val (.long x2), .second, .val (.long x3), .second, .val (.int ff), .val (.int (0 : Int32)), .val (.int (1 : Int32)), .val (.int tot), .val (.int lst), .unset, .unset, .unset, .unset, .unset, .unset, .unset, .unset, .unset, .unset, .unset, .unset, .unset] [(.ref b63)])
      refine own_astore X69 hx 51 rfl #[.val (.int x0), .val (.long x1), .second, .val (.long x2), .second, .val (.long x3), .second, .val (.int ff), .val (.int (0 : Int32)), .val (.int (1 : Int32)), .val (.int tot), .val (.int lst), .val (.ref b63), .unset, .unset, .unset, .unset, .unset, .unset, .unset, .unset, .unset, .unset, .unset, .unset] (hb hby at_49) rfl rfl ?_
      refine own_iconst X69 hx 52 rfl (0 : Int32) (hb hby at_51) (by decide) ?_
      refine own_istore X69 hx 54 rfl #[.val (.int x0), .val (.long x1), .second, .val (.long x2), .second, .val (.long x3), .second, .val (.int ff), .val (.int (0 : Int32)), .val (.int (1 : Int32)), .val (.int tot), .val (.int lst), .val (.ref b63), .val (.int (0 : Int32)), .unset, .unset, .unset, .unset, .unset, .unset, .unset, .unset, .unset, .unset, .unset] (hb hby at_52) rfl ?_
      refine own_iload X69 hx 56 rfl (hb hby at_54) rfl ?_
      refine own_iconst X69 hx 57 rfl (1 : Int32) (hb hby at_56) (by decide) ?_
      refine own_icmpY X69 hx 77 (hb hby at_57) (feq ((by decide) : ¬ ((0 : Int32) = (1 : Int32)))).2 (by decide) (by decide) ?_
      refine own_iload X69 hx 79 rfl (hb hby at_77) rfl ?_
      refine own_iconst X69 hx 80 rfl (1 : Int32) (hb hby at_79) (by decide) ?_
      refine own_icmpN X69 hx 83 (hb hby at_80) (teq ((by decide) : (1 : Int32) = (1 : Int32))).2 rfl ?_
      refine own_aload X69 hx 85 rfl (hb hby at_83) rfl rfl ?_
      refine own_iload X69 hx 87 rfl (hb hby at_85) rfl ?_
      refine own_iload X69 hx 89 rfl (hb hby at_87) rfl ?_
      refine own_lloadN X69 hx 90 rfl (hb hby at_89) rfl ?_
      refine own_lloadN X69 hx 91 rfl (hb hby at_90) rfl ?_
      obtain ⟨_, _, ⟨T70, L70, k70, n70⟩, -, X70, ⟨Lc70, hQ70, l70, y70, z70⟩, st70⟩ := Jvm.LawKit.callS X69 hx (y := (⟨"com/example/pooler/pooler/pool/BackoffDelayPinLaw", "at", "(IIJJ)J"⟩ : MethodName)) hown (mvT hZ (hw _ (List.mem_of_getElem? (i := 16) rfl))) (mvT hZ (hw _ (List.mem_of_getElem? (i := 17) rfl))) (mvT hZ (hw _ (List.mem_of_getElem? (i := 18) rfl))) (mvT hZ (hw _ (List.mem_of_getElem? (i := 19) rfl))) (by decide) (backOf (W := 1) (rm4 l Z a0 hw [] (0 : Int32) lst x1 x2 h63 n0 Z63 ) hZ (hw _ (List.mem_of_getElem? (i := 19) rfl)) (hw _ (List.mem_of_getElem? (i := 18) rfl)) (by decide) (by decide)) (g := (mkF m 91 #[.val (.int x0), .val (.long x1), .second, .val (.long x2), .second, .val (.long x3), .second, .val (.int ff), .val (.int (0 : Int32)), .val (.int (1 : Int32)), .val (.int tot), .val (.int lst), .val (.ref b63), .val (.int (0 : Int32)), .unset, .unset, .unset, .unset, .unset, .unset, .unset, .unset, .unset, .unset, .unset] [(.long x2), (.long x1), (.int lst), (.int (0 : Int32)), (.ref b63)])) rfl (by rw [hml]; rfl) (argsL := [(.int (0 : Int32)), (.int lst), (.long x1), (.long x2)]) (rest := [(.ref b63)]) (lenOf own_pd4 rfl) rfl (by show 2 * 0 + _ ≤ _; exact Nat.le_of_eq rfl) (hb hby at_91) (fun _ _ => ⟨rfl, eh69, (by decide : 1 + 0 ≤ _), (by decide : 3 + 0 ≤ _)⟩)
      dsimp only [Pt.U, Pt.locs, Pt.cells, Pt.slots] at X70 l70 y70 z70 st70 hQ70
      subst l70 y70 z70
      obtain ⟨ar_70, rfl, N70q, eh70, pr70_0⟩ := hQ70
      have N70 := Fr.app N69 N70q
      refine Goes.go st70 ?_
      show Goes p e below s _ _ _ T70 (mkF m 94 #[.val (.int x0), .val (.long x1), .second, .val (.long x2), .second, .val (.long x3), .second, .val (.int ff), .val (.int (0 : Int32)), .val (.int (1 : Int32)), .val (.int tot), .val (.int lst), .val (.ref b63), .val (.int (0 : Int32)), .unset, .unset, .unset, .unset, .unset, .unset, .unset, .unset, .unset, .unset, .unset] [(.long ar_70), (.ref b63)])
      obtain ⟨cq71, kq71, q71a, q71b, q71c⟩ := isOf hZ eh70 A63
      obtain ⟨_, _, ⟨T71, L71, k71, n71⟩, -, X71, ⟨Lc71, hQ71, l71, y71, z71⟩, st71⟩ := X70.virtualBack hx (y := (⟨"com/example/pooler/pooler/pool/Backoff", "opened", "(J)V"⟩ : MethodName)) (z := (⟨"com/example/pooler/pooler/pool/Backoff", "opened", "(J)V"⟩ : MethodName)) hown (mvT hZ (hw _ (List.mem_of_getElem? (i := 55) rfl))) (mvT hZ (hw _ (List.mem_of_getElem? (i := 56) rfl))) (notFace_of_selects (args := #[]) (mvT hZ (hw _ (List.mem_of_getElem? (i := 58) rfl)))) (mvT hZ (hw _ (List.mem_of_getElem? (i := 58) rfl))) (mvT hZ (hw _ (List.mem_of_getElem? (i := 57) rfl))) (by decide) (backOf (W := 0) (rm11 l Z a0 hw [] b63 ar_70 (0 : Int32) (0 : Int64) (0 : Int32) h63 n0 Z63 A63 G63 f66 f67 f68) hZ (hw _ (List.mem_of_getElem? (i := 59) rfl)) (hw _ (List.mem_of_getElem? (i := 2) rfl)) (by decide) (by decide)) q71a q71c (g := (mkF m 94 #[.val (.int x0), .val (.long x1), .second, .val (.long x2), .second, .val (.long x3), .second, .val (.int ff), .val (.int (0 : Int32)), .val (.int (1 : Int32)), .val (.int tot), .val (.int lst), .val (.ref b63), .val (.int (0 : Int32)), .unset, .unset, .unset, .unset, .unset, .unset, .unset, .unset, .unset, .unset, .unset] [(.long ar_70), (.ref b63)])) rfl (by rw [hml]; rfl) (Steps.refl _) (argsL := [(.long ar_70)]) (rest := []) (lenOf own_pd0 rfl) rfl (by show 2 * 0 + _ ≤ _; exact Nat.le_of_eq rfl) (hb hby at_94) (fun _ _ => ⟨rfl, eh70, (by decide : 1 + 0 ≤ _), (by decide : 3 + 0 ≤ _)⟩)
      dsimp only [Pt.U, Pt.locs, Pt.cells, Pt.slots] at X71 l71 y71 z71 st71 hQ71
      subst l71 y71 z71
      obtain ⟨rfl, N71q, K71q, f71_0, f71_1, f71_2⟩ := hQ71
      have N71 := Fr.app N70 N71q
      have f72 := own_sta_keep f64 K71q (allS (own_eplain A63) all0)
      have f73 := own_sta_keep f65 K71q (allS (own_eplain A63) all0)
      have f74 := A63.keep K71q
      have K71 := K63.trans K71q (allS (Or.inr H63) all0)
      have Z71 := Nat.le_trans Z63 K71q.1
      refine Goes.tr st71 ?_
      show Goes p e below s _ _ _ T71 (mkF m 97 #[.val (.int x0), .val (.long x1), .second, .val (.long x2), .second, .val (.long x3), .second, .val (.int ff), .val (.int (0 : Int32)), .val (.int (1 : Int32)), .val (.int tot), .val (.int lst), .val (.ref b63), .val (.int (0 : Int32)), .unset, .unset, .unset, .unset, .unset, .unset, .unset, .unset, .unset, .unset, .unset] [])
      refine own_iinc X71 hx 100 rfl #[.val (.int x0), .val (.long x1), .second, .val (.long x2), .second, .val (.long x3), .second, .val (.int ff), .val (.int (0 : Int32)), .val (.int (1 : Int32)), .val (.int tot), .val (.int lst), .val (.ref b63), .val (.int (1 : Int32)), .unset, .unset, .unset, .unset, .unset, .unset, .unset, .unset, .unset, .unset, .unset] (hb hby at_97) rfl (by decide) rfl ?_
      refine own_iload X71 hx 102 rfl (hb hby at_100) rfl ?_
      by_cases hc102_75 : (0 : Int32) < ff
      · refine own_ifN X71 hx 105 (hb hby at_102) ((if0 _ _).trans (tlt hc102_75).2.2.2) rfl ?_
        refine own_aload X71 hx 107 rfl (hb hby at_105) rfl rfl ?_
        refine own_iload X71 hx 109 rfl (hb hby at_107) rfl ?_
        refine own_iload X71 hx 111 rfl (hb hby at_109) rfl ?_
        refine own_lloadN X71 hx 112 rfl (hb hby at_111) rfl ?_
        refine own_lloadN X71 hx 113 rfl (hb hby at_112) rfl ?_
        obtain ⟨_, _, ⟨T76, L76, k76, n76⟩, -, X76, ⟨Lc76, hQ76, l76, y76, z76⟩, st76⟩ := Jvm.LawKit.callS X71 hx (y := (⟨"com/example/pooler/pooler/pool/BackoffDelayPinLaw", "at", "(IIJJ)J"⟩ : MethodName)) hown (mvT hZ (hw _ (List.mem_of_getElem? (i := 16) rfl))) (mvT hZ (hw _ (List.mem_of_getElem? (i := 17) rfl))) (mvT hZ (hw _ (List.mem_of_getElem? (i := 18) rfl))) (mvT hZ (hw _ (List.mem_of_getElem? (i := 19) rfl))) (by decide) (backOf (W := 1) (rm4 l Z a0 hw [] (1 : Int32) lst x1 x2 T71.heap n0 Z71 ) hZ (hw _ (List.mem_of_getElem? (i := 19) rfl)) (hw _ (List.mem_of_getElem? (i := 18) rfl)) (by decide) (by decide)) (g := (mkF m 113 #[.val (.int x0), .val (.long x1), .second, .val (.long x2), .second, .val (.long x3), .second, .val (.int ff), .val (.int (0 : Int32)), .val (.int (1 : Int32)), .val (.int tot), .val (.int lst), .val (.ref b63), .val (.int (1 : Int32)), .unset, .unset, .unset, .unset, .unset, .unset, .unset, .unset, .unset, .unset, .unset] [(.long x2), (.long x1), (.int lst), (.int (1 : Int32)), (.ref b63)])) rfl (by rw [hml]; rfl) (argsL := [(.int (1 : Int32)), (.int lst), (.long x1), (.long x2)]) (rest := [(.ref b63)]) (lenOf own_pd4 rfl) rfl (by show 2 * 0 + _ ≤ _; exact Nat.le_of_eq rfl) (hb hby at_113) (fun _ _ => ⟨rfl, rfl, (by decide : 1 + 0 ≤ _), (by decide : 3 + 0 ≤ _)⟩)
        dsimp only [Pt.U, Pt.locs, Pt.cells, Pt.slots] at X76 l76 y76 z76 st76 hQ76
        subst l76 y76 z76
        obtain ⟨ar_76, rfl, N76q, eh76, pr76_0⟩ := hQ76
        have N76 := Fr.app N71 N76q
        refine Goes.go st76 ?_
        show Goes p e below s _ _ _ T76 (mkF m 116 #[.val (.int x0), .val (.long x1), .second, .val (.long x2), .second, .val (.long x3), .second, .val (.int ff), .val (.int (0 : Int32)), .val (.int (1 : Int32)), .val (.int tot), .val (.int lst), .val (.ref b63), .val (.int (1 : Int32)), .unset, .unset, .unset, .unset, .unset, .unset, .unset, .unset, .unset, .unset, .unset] [(.long ar_76), (.ref b63)])
        obtain ⟨cq77, kq77, q77a, q77b, q77c⟩ := isOf hZ eh76 f74
        obtain ⟨_, _, ⟨T77, L77, k77, n77⟩, -, X77, ⟨Lc77, hQ77, l77, y77, z77⟩, st77⟩ := X76.virtualBack hx (y := (⟨"com/example/pooler/pooler/pool/Backoff", "failed", "(J)V"⟩ : MethodName)) (z := (⟨"com/example/pooler/pooler/pool/Backoff", "failed", "(J)V"⟩ : MethodName)) hown (mvT hZ (hw _ (List.mem_of_getElem? (i := 20) rfl))) (mvT hZ (hw _ (List.mem_of_getElem? (i := 21) rfl))) (notFace_of_selects (args := #[]) (mvT hZ (hw _ (List.mem_of_getElem? (i := 23) rfl)))) (mvT hZ (hw _ (List.mem_of_getElem? (i := 23) rfl))) (mvT hZ (hw _ (List.mem_of_getElem? (i := 22) rfl))) (by decide) (backOf (W := 0) (rmfa0 l Z a0 hw [] b63 ar_76 (1 : Int32) ar_70 T71.heap n0 Z71 f74 G63 f71_0 f71_1 f71_2) hZ (hw _ (List.mem_of_getElem? (i := 24) rfl)) (hw _ (List.mem_of_getElem? (i := 2) rfl)) (by decide) (by decide)) q77a q77c (g := (mkF m 116 #[.val (.int x0), .val (.long x1), .second, .val (.long x2), .second, .val (.long x3), .second, .val (.int ff), .val (.int (0 : Int32)), .val (.int (1 : Int32)), .val (.int tot), .val (.int lst), .val (.ref b63), .val (.int (1 : Int32)), .unset, .unset, .unset, .unset, .unset, .unset, .unset, .unset, .unset, .unset, .unset] [(.long ar_76), (.ref b63)])) rfl (by rw [hml]; rfl) (Steps.refl _) (argsL := [(.long ar_76)]) (rest := []) (lenOf own_pd0 rfl) rfl (by show 2 * 0 + _ ≤ _; exact Nat.le_of_eq rfl) (hb hby at_116) (fun _ _ => ⟨rfl, eh76, (by decide : 1 + 0 ≤ _), (by decide : 3 + 0 ≤ _)⟩)
        dsimp only [Pt.U, Pt.locs, Pt.cells, Pt.slots] at X77 l77 y77 z77 st77 hQ77
        subst l77 y77 z77
        obtain ⟨rfl, N77q, K77q, f77_0, f77_1, f77_2⟩ := hQ77
        have N77 := Fr.app N76 N77q
        have f78 := own_sta_keep f72 K77q (allS (own_eplain f74) all0)
        have f79 := own_sta_keep f73 K77q (allS (own_eplain f74) all0)
        have f80 := f74.keep K77q
        have K77 := K71.trans K77q (allS (Or.inr H63) all0)
        have Z77 := Nat.le_trans Z71 K77q.1
        refine Goes.tr st77 ?_
        show Goes p e below s _ _ _ T77 (mkF m 119 #[.val (.int x0), .val (.long x1), .second, .val (.long x2), .second, .val (.long x3), .second, .val (.int ff), .val (.int (0 : Int32)), .val (.int (1 : Int32)), .val (.int tot), .val (.int lst), .val (.ref b63), .val (.int (1 : Int32)), .unset, .unset, .unset, .unset, .unset, .unset, .unset, .unset, .unset, .unset, .unset] [])
        refine own_iinc X77 hx 122 rfl #[.val (.int x0), .val (.long x1), .second, .val (.long x2), .second, .val (.long x3), .second, .val (.int ff), .val (.int (0 : Int32)), .val (.int (1 : Int32)), .val (.int tot), .val (.int lst), .val (.ref b63), .val (.int (2 : Int32)), .unset, .unset, .unset, .unset, .unset, .unset, .unset, .unset, .unset, .unset, .unset] (hb hby at_119) rfl (by decide) rfl ?_
        refine own_iload X77 hx 124 rfl (hb hby at_122) rfl ?_
        refine own_iconst X77 hx 125 rfl (1 : Int32) (hb hby at_124) (by decide) ?_
        by_cases hc125_81 : (1 : Int32) < ff
        · refine own_icmpN X77 hx 128 (hb hby at_125) (tlt hc125_81).2.2.2 rfl ?_
          refine own_aload X77 hx 130 rfl (hb hby at_128) rfl rfl ?_
          refine own_iload X77 hx 132 rfl (hb hby at_130) rfl ?_
          refine own_iload X77 hx 134 rfl (hb hby at_132) rfl ?_
          refine own_lloadN X77 hx 135 rfl (hb hby at_134) rfl ?_
          refine own_lloadN X77 hx 136 rfl (hb hby at_135) rfl ?_
          obtain ⟨_, _, ⟨T82, L82, k82, n82⟩, -, X82, ⟨Lc82, hQ82, l82, y82, z82⟩, st82⟩ := Jvm.LawKit.callS X77 hx (y := (⟨"com/example/pooler/pooler/pool/BackoffDelayPinLaw", "at", "(IIJJ)J"⟩ : MethodName)) hown (mvT hZ (hw _ (List.mem_of_getElem? (i := 16) rfl))) (mvT hZ (hw _ (List.mem_of_getElem? (i := 17) rfl))) (mvT hZ (hw _ (List.mem_of_getElem? (i := 18) rfl))) (mvT hZ (hw _ (List.mem_of_getElem? (i := 19) rfl))) (by decide) (backOf (W := 1) (rm4 l Z a0 hw [] (2 : Int32) lst x1 x2 T77.heap n0 Z77 ) hZ (hw _ (List.mem_of_getElem? (i := 19) rfl)) (hw _ (List.mem_of_getElem? (i := 18) rfl)) (by decide) (by decide)) (g := (mkF m 136 #[.val (.int x0), .val (.long x1), .second, .val (.long x2), .second, .val (.long x3), .second, .val (.int ff), .val (.int (0 : Int32)), .val (.int (1 : Int32)), .val (.int tot), .val (.int lst), .val (.ref b63), .val (.int (2 : Int32)), .unset, .unset, .unset, .unset, .unset, .unset, .unset, .unset, .unset, .unset, .unset] [(.long x2), (.long x1), (.int lst), (.int (2 : Int32)), (.ref b63)])) rfl (by rw [hml]; rfl) (argsL := [(.int (2 : Int32)), (.int lst), (.long x1), (.long x2)]) (rest := [(.ref b63)]) (lenOf own_pd4 rfl) rfl (by show 2 * 0 + _ ≤ _; exact Nat.le_of_eq rfl) (hb hby at_136) (fun _ _ => ⟨rfl, rfl, (by decide : 1 + 0 ≤ _), (by decide : 3 + 0 ≤ _)⟩)
          dsimp only [Pt.U, Pt.locs, Pt.cells, Pt.slots] at X82 l82 y82 z82 st82 hQ82
          subst l82 y82 z82
          obtain ⟨ar_82, rfl, N82q, eh82, pr82_0⟩ := hQ82
          have N82 := Fr.app N77 N82q
          refine Goes.go st82 ?_
          show Goes p e below s _ _ _ T82 (mkF m 139 #[.val (.int x0), .val (.long x1), .second, .val (.long x2), .second, .val (.long x3), .second, .val (.int ff), .val (.int (0 : Int32)), .val (.int (1 : Int32)), .val (.int tot), .val (.int lst), .val (.ref b63), .val (.int (2 : Int32)), .unset, .unset, .unset, .unset, .unset, .unset, .unset, .unset, .unset, .unset, .unset] [(.long ar_82), (.ref b63)])
          obtain ⟨cq83, kq83, q83a, q83b, q83c⟩ := isOf hZ eh82 f80
          obtain ⟨_, _, ⟨T83, L83, k83, n83⟩, -, X83, ⟨Lc83, hQ83, l83, y83, z83⟩, st83⟩ := X82.virtualBack hx (y := (⟨"com/example/pooler/pooler/pool/Backoff", "failed", "(J)V"⟩ : MethodName)) (z := (⟨"com/example/pooler/pooler/pool/Backoff", "failed", "(J)V"⟩ : MethodName)) hown (mvT hZ (hw _ (List.mem_of_getElem? (i := 20) rfl))) (mvT hZ (hw _ (List.mem_of_getElem? (i := 21) rfl))) (notFace_of_selects (args := #[]) (mvT hZ (hw _ (List.mem_of_getElem? (i := 23) rfl)))) (mvT hZ (hw _ (List.mem_of_getElem? (i := 23) rfl))) (mvT hZ (hw _ (List.mem_of_getElem? (i := 22) rfl))) (by decide) (backOf (W := 0) (rmfa1 l Z a0 hw [] b63 ar_82 (1 : Int32) ar_76 T77.heap n0 Z77 f80 G63 f77_0 f77_1 f77_2) hZ (hw _ (List.mem_of_getElem? (i := 24) rfl)) (hw _ (List.mem_of_getElem? (i := 2) rfl)) (by decide) (by decide)) q83a q83c (g := (mkF m 139 #[.val (.int x0), .val (.long x1), .second, .val (.long x2), .second, .val (.long x3), .second, .val (.int ff), .val (.int (0 : Int32)), .val (.int (1 : Int32)), .val (.int tot), .val (.int lst), .val (.ref b63), .val (.int (2 : Int32)), .unset, .unset, .unset, .unset, .unset, .unset, .unset, .unset, .unset, .unset, .unset] [(.long ar_82), (.ref b63)])) rfl (by rw [hml]; rfl) (Steps.refl _) (argsL := [(.long ar_82)]) (rest := []) (lenOf own_pd0 rfl) rfl (by show 2 * 0 + _ ≤ _; exact Nat.le_of_eq rfl) (hb hby at_139) (fun _ _ => ⟨rfl, eh82, (by decide : 1 + 0 ≤ _), (by decide : 3 + 0 ≤ _)⟩)
          dsimp only [Pt.U, Pt.locs, Pt.cells, Pt.slots] at X83 l83 y83 z83 st83 hQ83
          subst l83 y83 z83
          obtain ⟨rfl, N83q, K83q, f83_0, f83_1, f83_2⟩ := hQ83
          have N83 := Fr.app N82 N83q
          have f84 := own_sta_keep f78 K83q (allS (own_eplain f80) all0)
          have f85 := own_sta_keep f79 K83q (allS (own_eplain f80) all0)
          have f86 := f80.keep K83q
          have K83 := K77.trans K83q (allS (Or.inr H63) all0)
          have Z83 := Nat.le_trans Z77 K83q.1
          refine Goes.tr st83 ?_
          show Goes p e below s _ _ _ T83 (mkF m 142 #[.val (.int x0), .val (.long x1), .second, .val (.long x2), .second, .val (.long x3), .second, .val (.int ff), .val (.int (0 : Int32)), .val (.int (1 : Int32)), .val (.int tot), .val (.int lst), .val (.ref b63), .val (.int (2 : Int32)), .unset, .unset, .unset, .unset, .unset, .unset, .unset, .unset, .unset, .unset, .unset] [])
          refine own_iinc X83 hx 145 rfl #[.val (.int x0), .val (.long x1), .second, .val (.long x2), .second, .val (.long x3), .second, .val (.int ff), .val (.int (0 : Int32)), .val (.int (1 : Int32)), .val (.int tot), .val (.int lst), .val (.ref b63), .val (.int (3 : Int32)), .unset, .unset, .unset, .unset, .unset, .unset, .unset, .unset, .unset, .unset, .unset] (hb hby at_142) rfl (by decide) rfl ?_
          refine own_iload X83 hx 147 rfl (hb hby at_145) rfl ?_
          refine own_iconst X83 hx 148 rfl (2 : Int32) (hb hby at_147) (by decide) ?_
          by_cases hc148_87 : (2 : Int32) < ff
          · refine own_icmpN X83 hx 151 (hb hby at_148) (tlt hc148_87).2.2.2 rfl ?_
            refine own_aload X83 hx 153 rfl (hb hby at_151) rfl rfl ?_
            refine own_iload X83 hx 155 rfl (hb hby at_153) rfl ?_
            refine own_iload X83 hx 157 rfl (hb hby at_155) rfl ?_
            refine own_lloadN X83 hx 158 rfl (hb hby at_157) rfl ?_
            refine own_lloadN X83 hx 159 rfl (hb hby at_158) rfl ?_
            obtain ⟨_, _, ⟨T88, L88, k88, n88⟩, -, X88, ⟨Lc88, hQ88, l88, y88, z88⟩, st88⟩ := Jvm.LawKit.callS X83 hx (y := (⟨"com/example/pooler/pooler/pool/BackoffDelayPinLaw", "at", "(IIJJ)J"⟩ : MethodName)) hown (mvT hZ (hw _ (List.mem_of_getElem? (i := 16) rfl))) (mvT hZ (hw _ (List.mem_of_getElem? (i := 17) rfl))) (mvT hZ (hw _ (List.mem_of_getElem? (i := 18) rfl))) (mvT hZ (hw _ (List.mem_of_getElem? (i := 19) rfl))) (by decide) (backOf (W := 1) (rm4 l Z a0 hw [] (3 : Int32) lst x1 x2 T83.heap n0 Z83 ) hZ (hw _ (List.mem_of_getElem? (i := 19) rfl)) (hw _ (List.mem_of_getElem? (i := 18) rfl)) (by decide) (by decide)) (g := (mkF m 159 #[.val (.int x0), .val (.long x1), .second, .val (.long x2), .second, .val (.long x3), .second, .val (.int ff), .val (.int (0 : Int32)), .val (.int (1 : Int32)), .val (.int tot), .val (.int lst), .val (.ref b63), .val (.int (3 : Int32)), .unset, .unset, .unset, .unset, .unset, .unset, .unset, .unset, .unset, .unset, .unset] [(.long x2), (.long x1), (.int lst), (.int (3 : Int32)), (.ref b63)])) rfl (by rw [hml]; rfl) (argsL := [(.int (3 : Int32)), (.int lst), (.long x1), (.long x2)]) (rest := [(.ref b63)]) (lenOf own_pd4 rfl) rfl (by show 2 * 0 + _ ≤ _; exact Nat.le_of_eq rfl) (hb hby at_159) (fun _ _ => ⟨rfl, rfl, (by decide : 1 + 0 ≤ _), (by decide : 3 + 0 ≤ _)⟩)
            dsimp only [Pt.U, Pt.locs, Pt.cells, Pt.slots] at X88 l88 y88 z88 st88 hQ88
            subst l88 y88 z88
            obtain ⟨ar_88, rfl, N88q, eh88, pr88_0⟩ := hQ88
            have N88 := Fr.app N83 N88q
            refine Goes.go st88 ?_
            show Goes p e below s _ _ _ T88 (mkF m 162 #[.val (.int x0), .val (.long x1), .second, .val (.long x2), .second, .val (.long x3), .second, .val (.int ff), .val (.int (0 : Int32)), .val (.int (1 : Int32)), .val (.int tot), .val (.int lst), .val (.ref b63), .val (.int (3 : Int32)), .unset, .unset, .unset, .unset, .unset, .unset, .unset, .unset, .unset, .unset, .unset] [(.long ar_88), (.ref b63)])
            obtain ⟨cq89, kq89, q89a, q89b, q89c⟩ := isOf hZ eh88 f86
            obtain ⟨_, _, ⟨T89, L89, k89, n89⟩, -, X89, ⟨Lc89, hQ89, l89, y89, z89⟩, st89⟩ := X88.virtualBack hx (y := (⟨"com/example/pooler/pooler/pool/Backoff", "failed", "(J)V"⟩ : MethodName)) (z := (⟨"com/example/pooler/pooler/pool/Backoff", "failed", "(J)V"⟩ : MethodName)) hown (mvT hZ (hw _ (List.mem_of_getElem? (i := 20) rfl))) (mvT hZ (hw _ (List.mem_of_getElem? (i := 21) rfl))) (notFace_of_selects (args := #[]) (mvT hZ (hw _ (List.mem_of_getElem? (i := 23) rfl)))) (mvT hZ (hw _ (List.mem_of_getElem? (i := 23) rfl))) (mvT hZ (hw _ (List.mem_of_getElem? (i := 22) rfl))) (by decide) (backOf (W := 0) (rmfa2 l Z a0 hw [] b63 ar_88 (1 : Int32) ar_82 T83.heap n0 Z83 f86 G63 f83_0 f83_1 f83_2) hZ (hw _ (List.mem_of_getElem? (i := 24) rfl)) (hw _ (List.mem_of_getElem? (i := 2) rfl)) (by decide) (by decide)) q89a q89c (g := (mkF m 162 #[.val (.int x0), .val (.long x1), .second, .val (.long x2), .second, .val (.long x3), .second, .val (.int ff), .val (.int (0 : Int32)), .val (.int (1 : Int32)), .val (.int tot), .val (.int lst), .val (.ref b63), .val (.int (3 : Int32)), .unset, .unset, .unset, .unset, .unset, .unset, .unset, .unset, .unset, .unset, .unset] [(.long ar_88), (.ref b63)])) rfl (by rw [hml]; rfl) (Steps.refl _) (argsL := [(.long ar_88)]) (rest := []) (lenOf own_pd0 rfl) rfl (by show 2 * 0 + _ ≤ _; exact Nat.le_of_eq rfl) (hb hby at_162) (fun _ _ => ⟨rfl, eh88, (by decide : 1 + 0 ≤ _), (by decide : 3 + 0 ≤ _)⟩)
            dsimp only [Pt.U, Pt.locs, Pt.cells, Pt.slots] at X89 l89 y89 z89 st89 hQ89
            subst l89 y89 z89
            obtain ⟨rfl, N89q, K89q, f89_0, f89_1, f89_2⟩ := hQ89
            have N89 := Fr.app N88 N89q
            have f90 := own_sta_keep f84 K89q (allS (own_eplain f86) all0)
            have f91 := own_sta_keep f85 K89q (allS (own_eplain f86) all0)
            have f92 := f86.keep K89q
            have K89 := K83.trans K89q (allS (Or.inr H63) all0)
            have Z89 := Nat.le_trans Z83 K89q.1
            refine Goes.tr st89 ?_
            show Goes p e below s _ _ _ T89 (mkF m 165 #[.val (.int x0), .val (.long x1), .second, .val (.long x2), .second, .val (.long x3), .second, .val (.int ff), .val (.int (0 : Int32)), .val (.int (1 : Int32)), .val (.int tot), .val (.int lst), .val (.ref b63), .val (.int (3 : Int32)), .unset, .unset, .unset, .unset, .unset, .unset, .unset, .unset, .unset, .unset, .unset] [])
            refine own_iinc X89 hx 168 rfl #[.val (.int x0), .val (.long x1), .second, .val (.long x2), .second, .val (.long x3), .second, .val (.int ff), .val (.int (0 : Int32)), .val (.int (1 : Int32)), .val (.int tot), .val (.int lst), .val (.ref b63), .val (.int (4 : Int32)), .unset, .unset, .unset, .unset, .unset, .unset, .unset, .unset, .unset, .unset, .unset] (hb hby at_165) rfl (by decide) rfl ?_
            refine own_iload X89 hx 170 rfl (hb hby at_168) rfl ?_
            refine own_iconst X89 hx 171 rfl (3 : Int32) (hb hby at_170) (by decide) ?_
            by_cases hc171_93 : (3 : Int32) < ff
            · refine own_icmpN X89 hx 174 (hb hby at_171) (tlt hc171_93).2.2.2 rfl ?_
              refine own_aload X89 hx 176 rfl (hb hby at_174) rfl rfl ?_
              refine own_iload X89 hx 178 rfl (hb hby at_176) rfl ?_
              refine own_iload X89 hx 180 rfl (hb hby at_178) rfl ?_
              refine own_lloadN X89 hx 181 rfl (hb hby at_180) rfl ?_
              refine own_lloadN X89 hx 182 rfl (hb hby at_181) rfl ?_
              obtain ⟨_, _, ⟨T94, L94, k94, n94⟩, -, X94, ⟨Lc94, hQ94, l94, y94, z94⟩, st94⟩ := Jvm.LawKit.callS X89 hx (y := (⟨"com/example/pooler/pooler/pool/BackoffDelayPinLaw", "at", "(IIJJ)J"⟩ : MethodName)) hown (mvT hZ (hw _ (List.mem_of_getElem? (i := 16) rfl))) (mvT hZ (hw _ (List.mem_of_getElem? (i := 17) rfl))) (mvT hZ (hw _ (List.mem_of_getElem? (i := 18) rfl))) (mvT hZ (hw _ (List.mem_of_getElem? (i := 19) rfl))) (by decide) (backOf (W := 1) (rm4 l Z a0 hw [] (4 : Int32) lst x1 x2 T89.heap n0 Z89 ) hZ (hw _ (List.mem_of_getElem? (i := 19) rfl)) (hw _ (List.mem_of_getElem? (i := 18) rfl)) (by decide) (by decide)) (g := (mkF m 182 #[.val (.int x0), .val (.long x1), .second, .val (.long x2), .second, .val (.long x3), .second, .val (.int ff), .val (.int (0 : Int32)), .val (.int (1 : Int32)), .val (.int tot), .val (.int lst), .val (.ref b63), .val (.int (4 : Int32)), .unset, .unset, .unset, .unset, .unset, .unset, .unset, .unset, .unset, .unset, .unset] [(.long x2), (.long x1), (.int lst), (.int (4 : Int32)), (.ref b63)])) rfl (by rw [hml]; rfl) (argsL := [(.int (4 : Int32)), (.int lst), (.long x1), (.long x2)]) (rest := [(.ref b63)]) (lenOf own_pd4 rfl) rfl (by show 2 * 0 + _ ≤ _; exact Nat.le_of_eq rfl) (hb hby at_182) (fun _ _ => ⟨rfl, rfl, (by decide : 1 + 0 ≤ _), (by decide : 3 + 0 ≤ _)⟩)
              dsimp only [Pt.U, Pt.locs, Pt.cells, Pt.slots] at X94 l94 y94 z94 st94 hQ94
              subst l94 y94 z94
              obtain ⟨ar_94, rfl, N94q, eh94, pr94_0⟩ := hQ94
              have N94 := Fr.app N89 N94q
              refine Goes.go st94 ?_
              show Goes p e below s _ _ _ T94 (mkF m 185 #[.val (.int x0), .val (.long x1), .second, .val (.long x2), .second, .val (.long x3), .second, .val (.int ff), .val (.int (0 : Int32)), .val (.int (1 : Int32)), .val (.int tot), .val (.int lst), .val (.ref b63), .val (.int (4 : Int32)), .unset, .unset, .unset, .unset, .unset, .unset, .unset, .unset, .unset, .unset, .unset] [(.long ar_94), (.ref b63)])
              obtain ⟨cq95, kq95, q95a, q95b, q95c⟩ := isOf hZ eh94 f92
              obtain ⟨_, _, ⟨T95, L95, k95, n95⟩, -, X95, ⟨Lc95, hQ95, l95, y95, z95⟩, st95⟩ := X94.virtualBack hx (y := (⟨"com/example/pooler/pooler/pool/Backoff", "failed", "(J)V"⟩ : MethodName)) (z := (⟨"com/example/pooler/pooler/pool/Backoff", "failed", "(J)V"⟩ : MethodName)) hown (mvT hZ (hw _ (List.mem_of_getElem? (i := 20) rfl))) (mvT hZ (hw _ (List.mem_of_getElem? (i := 21) rfl))) (notFace_of_selects (args := #[]) (mvT hZ (hw _ (List.mem_of_getElem? (i := 23) rfl)))) (mvT hZ (hw _ (List.mem_of_getElem? (i := 23) rfl))) (mvT hZ (hw _ (List.mem_of_getElem? (i := 22) rfl))) (by decide) (backOf (W := 0) (rmfa3 l Z a0 hw [] b63 ar_94 (1 : Int32) ar_88 T89.heap n0 Z89 f92 G63 f89_0 f89_1 f89_2) hZ (hw _ (List.mem_of_getElem? (i := 24) rfl)) (hw _ (List.mem_of_getElem? (i := 2) rfl)) (by decide) (by decide)) q95a q95c (g := (mkF m 185 #[.val (.int x0), .val (.long x1), .second, .val (.long x2), .second, .val (.long x3), .second, .val (.int ff), .val (.int (0 : Int32)), .val (.int (1 : Int32)), .val (.int tot), .val (.int lst), .val (.ref b63), .val (.int (4 : Int32)), .unset, .unset, .unset, .unset, .unset, .unset, .unset, .unset, .unset, .unset, .unset] [(.long ar_94), (.ref b63)])) rfl (by rw [hml]; rfl) (Steps.refl _) (argsL := [(.long ar_94)]) (rest := []) (lenOf own_pd0 rfl) rfl (by show 2 * 0 + _ ≤ _; exact Nat.le_of_eq rfl) (hb hby at_185) (fun _ _ => ⟨rfl, eh94, (by decide : 1 + 0 ≤ _), (by decide : 3 + 0 ≤ _)⟩)
              dsimp only [Pt.U, Pt.locs, Pt.cells, Pt.slots] at X95 l95 y95 z95 st95 hQ95
              subst l95 y95 z95
              obtain ⟨rfl, N95q, K95q, f95_0, f95_1, f95_2⟩ := hQ95
              have N95 := Fr.app N94 N95q
              have f96 := own_sta_keep f90 K95q (allS (own_eplain f92) all0)
              have f97 := own_sta_keep f91 K95q (allS (own_eplain f92) all0)
              have f98 := f92.keep K95q
              have K95 := K89.trans K95q (allS (Or.inr H63) all0)
              have Z95 := Nat.le_trans Z89 K95q.1
              refine Goes.tr st95 ?_
              show Goes p e below s _ _ _ T95 (mkF m 188 #[.val (.int x0), .val (.long x1), .second, .val (.long x2), .second, .val (.long x3), .second, .val (.int ff), .val (.int (0 : Int32)), .val (.int (1 : Int32)), .val (.int tot), .val (.int lst), .val (.ref b63), .val (.int (4 : Int32)), .unset, .unset, .unset, .unset, .unset, .unset, .unset, .unset, .unset, .unset, .unset] [])
              refine own_iinc X95 hx 191 rfl #[.val (.int x0), .val (.long x1), .second, .val (.long x2), .second, .val (.long x3), .second, .val (.int ff), .val (.int (0 : Int32)), .val (.int (1 : Int32)), .val (.int tot), .val (.int lst), .val (.ref b63), .val (.int (5 : Int32)), .unset, .unset, .unset, .unset, .unset, .unset, .unset, .unset, .unset, .unset, .unset] (hb hby at_188) rfl (by decide) rfl ?_
              refine own_iload X95 hx 193 rfl (hb hby at_191) rfl ?_
              refine own_iconst X95 hx 194 rfl (4 : Int32) (hb hby at_193) (by decide) ?_
              by_cases hc194_99 : (4 : Int32) < ff
              · refine own_icmpN X95 hx 197 (hb hby at_194) (tlt hc194_99).2.2.2 rfl ?_
                refine own_aload X95 hx 199 rfl (hb hby at_197) rfl rfl ?_
                refine own_iload X95 hx 201 rfl (hb hby at_199) rfl ?_
                refine own_iload X95 hx 203 rfl (hb hby at_201) rfl ?_
                refine own_lloadN X95 hx 204 rfl (hb hby at_203) rfl ?_
                refine own_lloadN X95 hx 205 rfl (hb hby at_204) rfl ?_
                obtain ⟨_, _, ⟨T100, L100, k100, n100⟩, -, X100, ⟨Lc100, hQ100, l100, y100, z100⟩, st100⟩ := Jvm.LawKit.callS X95 hx (y := (⟨"com/example/pooler/pooler/pool/BackoffDelayPinLaw", "at", "(IIJJ)J"⟩ : MethodName)) hown (mvT hZ (hw _ (List.mem_of_getElem? (i := 16) rfl))) (mvT hZ (hw _ (List.mem_of_getElem? (i := 17) rfl))) (mvT hZ (hw _ (List.mem_of_getElem? (i := 18) rfl))) (mvT hZ (hw _ (List.mem_of_getElem? (i := 19) rfl))) (by decide) (backOf (W := 1) (rm4 l Z a0 hw [] (5 : Int32) lst x1 x2 T95.heap n0 Z95 ) hZ (hw _ (List.mem_of_getElem? (i := 19) rfl)) (hw _ (List.mem_of_getElem? (i := 18) rfl)) (by decide) (by decide)) (g := (mkF m 205 #[.val (.int x0), .val (.long x1), .second, .val (.long x2), .second, .val (.long x3), .second, .val (.int ff), .val (.int (0 : Int32)), .val (.int (1 : Int32)), .val (.int tot), .val (.int lst), .val (.ref b63), .val (.int (5 : Int32)), .unset, .unset, .unset, .unset, .unset, .unset, .unset, .unset, .unset, .unset, .unset] [(.long x2), (.long x1), (.int lst), (.int (5 : Int32)), (.ref b63)])) rfl (by rw [hml]; rfl) (argsL := [(.int (5 : Int32)), (.int lst), (.long x1), (.long x2)]) (rest := [(.ref b63)]) (lenOf own_pd4 rfl) rfl (by show 2 * 0 + _ ≤ _; exact Nat.le_of_eq rfl) (hb hby at_205) (fun _ _ => ⟨rfl, rfl, (by decide : 1 + 0 ≤ _), (by decide : 3 + 0 ≤ _)⟩)
                dsimp only [Pt.U, Pt.locs, Pt.cells, Pt.slots] at X100 l100 y100 z100 st100 hQ100
                subst l100 y100 z100
                obtain ⟨ar_100, rfl, N100q, eh100, pr100_0⟩ := hQ100
                have N100 := Fr.app N95 N100q
                refine Goes.go st100 ?_
                show Goes p e below s _ _ _ T100 (mkF m 208 #[.val (.int x0), .val (.long x1), .second, .val (.long x2), .second, .val (.long x3), .second, .val (.int ff), .val (.int (0 : Int32)), .val (.int (1 : Int32)), .val (.int tot), .val (.int lst), .val (.ref b63), .val (.int (5 : Int32)), .unset, .unset, .unset, .unset, .unset, .unset, .unset, .unset, .unset, .unset, .unset] [(.long ar_100), (.ref b63)])
                obtain ⟨cq101, kq101, q101a, q101b, q101c⟩ := isOf hZ eh100 f98
                obtain ⟨_, _, ⟨T101, L101, k101, n101⟩, -, X101, ⟨Lc101, hQ101, l101, y101, z101⟩, st101⟩ := X100.virtualBack hx (y := (⟨"com/example/pooler/pooler/pool/Backoff", "failed", "(J)V"⟩ : MethodName)) (z := (⟨"com/example/pooler/pooler/pool/Backoff", "failed", "(J)V"⟩ : MethodName)) hown (mvT hZ (hw _ (List.mem_of_getElem? (i := 20) rfl))) (mvT hZ (hw _ (List.mem_of_getElem? (i := 21) rfl))) (notFace_of_selects (args := #[]) (mvT hZ (hw _ (List.mem_of_getElem? (i := 23) rfl)))) (mvT hZ (hw _ (List.mem_of_getElem? (i := 23) rfl))) (mvT hZ (hw _ (List.mem_of_getElem? (i := 22) rfl))) (by decide) (backOf (W := 0) (rmfa4 l Z a0 hw [] b63 ar_100 (1 : Int32) ar_94 T95.heap n0 Z95 f98 G63 f95_0 f95_1 f95_2) hZ (hw _ (List.mem_of_getElem? (i := 24) rfl)) (hw _ (List.mem_of_getElem? (i := 2) rfl)) (by decide) (by decide)) q101a q101c (g := (mkF m 208 #[.val (.int x0), .val (.long x1), .second, .val (.long x2), .second, .val (.long x3), .second, .val (.int ff), .val (.int (0 : Int32)), .val (.int (1 : Int32)), .val (.int tot), .val (.int lst), .val (.ref b63), .val (.int (5 : Int32)), .unset, .unset, .unset, .unset, .unset, .unset, .unset, .unset, .unset, .unset, .unset] [(.long ar_100), (.ref b63)])) rfl (by rw [hml]; rfl) (Steps.refl _) (argsL := [(.long ar_100)]) (rest := []) (lenOf own_pd0 rfl) rfl (by show 2 * 0 + _ ≤ _; exact Nat.le_of_eq rfl) (hb hby at_208) (fun _ _ => ⟨rfl, eh100, (by decide : 1 + 0 ≤ _), (by decide : 3 + 0 ≤ _)⟩)
                dsimp only [Pt.U, Pt.locs, Pt.cells, Pt.slots] at X101 l101 y101 z101 st101 hQ101
                subst l101 y101 z101
                obtain ⟨rfl, N101q, K101q, f101_0, f101_1, f101_2⟩ := hQ101
                have N101 := Fr.app N100 N101q
                have f102 := own_sta_keep f96 K101q (allS (own_eplain f98) all0)
                have f103 := own_sta_keep f97 K101q (allS (own_eplain f98) all0)
                have f104 := f98.keep K101q
                have K101 := K95.trans K101q (allS (Or.inr H63) all0)
                have Z101 := Nat.le_trans Z95 K101q.1
                refine Goes.tr st101 ?_
                show Goes p e below s _ _ _ T101 (mkF m 211 #[.val (.int x0), .val (.long x1), .second, .val (.long x2), .second, .val (.long x3), .second, .val (.int ff), .val (.int (0 : Int32)), .val (.int (1 : Int32)), .val (.int tot), .val (.int lst), .val (.ref b63), .val (.int (5 : Int32)), .unset, .unset, .unset, .unset, .unset, .unset, .unset, .unset, .unset, .unset, .unset] [])
                refine own_iinc X101 hx 214 rfl #[.val (.int x0), .val (.long x1), .second, .val (.long x2), .second, .val (.long x3), .second, .val (.int ff), .val (.int (0 : Int32)), .val (.int (1 : Int32)), .val (.int tot), .val (.int lst), .val (.ref b63), .val (.int (6 : Int32)), .unset, .unset, .unset, .unset, .unset, .unset, .unset, .unset, .unset, .unset, .unset] (hb hby at_211) rfl (by decide) rfl ?_
                refine own_iload X101 hx 216 rfl (hb hby at_214) rfl ?_
                refine own_iconst X101 hx 217 rfl (5 : Int32) (hb hby at_216) (by decide) ?_
                by_cases hc217_105 : (5 : Int32) < ff
                · refine own_icmpN X101 hx 220 (hb hby at_217) (tlt hc217_105).2.2.2 rfl ?_
                  refine own_aload X101 hx 222 rfl (hb hby at_220) rfl rfl ?_
                  refine own_iload X101 hx 224 rfl (hb hby at_222) rfl ?_
                  refine own_iload X101 hx 226 rfl (hb hby at_224) rfl ?_
                  refine own_lloadN X101 hx 227 rfl (hb hby at_226) rfl ?_
                  refine own_lloadN X101 hx 228 rfl (hb hby at_227) rfl ?_
                  obtain ⟨_, _, ⟨T106, L106, k106, n106⟩, -, X106, ⟨Lc106, hQ106, l106, y106, z106⟩, st106⟩ := Jvm.LawKit.callS X101 hx (y := (⟨"com/example/pooler/pooler/pool/BackoffDelayPinLaw", "at", "(IIJJ)J"⟩ : MethodName)) hown (mvT hZ (hw _ (List.mem_of_getElem? (i := 16) rfl))) (mvT hZ (hw _ (List.mem_of_getElem? (i := 17) rfl))) (mvT hZ (hw _ (List.mem_of_getElem? (i := 18) rfl))) (mvT hZ (hw _ (List.mem_of_getElem? (i := 19) rfl))) (by decide) (backOf (W := 1) (rm4 l Z a0 hw [] (6 : Int32) lst x1 x2 T101.heap n0 Z101 ) hZ (hw _ (List.mem_of_getElem? (i := 19) rfl)) (hw _ (List.mem_of_getElem? (i := 18) rfl)) (by decide) (by decide)) (g := (mkF m 228 #[.val (.int x0), .val (.long x1), .second, .val (.long x2), .second, .val (.long x3), .second, .val (.int ff), .val (.int (0 : Int32)), .val (.int (1 : Int32)), .val (.int tot), .val (.int lst), .val (.ref b63), .val (.int (6 : Int32)), .unset, .unset, .unset, .unset, .unset, .unset, .unset, .unset, .unset, .unset, .unset] [(.long x2), (.long x1), (.int lst), (.int (6 : Int32)), (.ref b63)])) rfl (by rw [hml]; rfl) (argsL := [(.int (6 : Int32)), (.int lst), (.long x1), (.long x2)]) (rest := [(.ref b63)]) (lenOf own_pd4 rfl) rfl (by show 2 * 0 + _ ≤ _; exact Nat.le_of_eq rfl) (hb hby at_228) (fun _ _ => ⟨rfl, rfl, (by decide : 1 + 0 ≤ _), (by decide : 3 + 0 ≤ _)⟩)
                  dsimp only [Pt.U, Pt.locs, Pt.cells, Pt.slots] at X106 l106 y106 z106 st106 hQ106
                  subst l106 y106 z106
                  obtain ⟨ar_106, rfl, N106q, eh106, pr106_0⟩ := hQ106
                  have N106 := Fr.app N101 N106q
                  refine Goes.go st106 ?_
                  show Goes p e below s _ _ _ T106 (mkF m 231 #[.val (.int x0), .val (.long x1), .second, .val (.long x2), .second, .val (.long x3), .second, .val (.int ff), .val (.int (0 : Int32)), .val (.int (1 : Int32)), .val (.int tot), .val (.int lst), .val (.ref b63), .val (.int (6 : Int32)), .unset, .unset, .unset, .unset, .unset, .unset, .unset, .unset, .unset, .unset, .unset] [(.long ar_106), (.ref b63)])
                  obtain ⟨cq107, kq107, q107a, q107b, q107c⟩ := isOf hZ eh106 f104
                  obtain ⟨_, _, ⟨T107, L107, k107, n107⟩, -, X107, ⟨Lc107, hQ107, l107, y107, z107⟩, st107⟩ := X106.virtualBack hx (y := (⟨"com/example/pooler/pooler/pool/Backoff", "failed", "(J)V"⟩ : MethodName)) (z := (⟨"com/example/pooler/pooler/pool/Backoff", "failed", "(J)V"⟩ : MethodName)) hown (mvT hZ (hw _ (List.mem_of_getElem? (i := 20) rfl))) (mvT hZ (hw _ (List.mem_of_getElem? (i := 21) rfl))) (notFace_of_selects (args := #[]) (mvT hZ (hw _ (List.mem_of_getElem? (i := 23) rfl)))) (mvT hZ (hw _ (List.mem_of_getElem? (i := 23) rfl))) (mvT hZ (hw _ (List.mem_of_getElem? (i := 22) rfl))) (by decide) (backOf (W := 0) (rmfa5 l Z a0 hw [] b63 ar_106 (1 : Int32) ar_100 T101.heap n0 Z101 f104 G63 f101_0 f101_1 f101_2) hZ (hw _ (List.mem_of_getElem? (i := 24) rfl)) (hw _ (List.mem_of_getElem? (i := 2) rfl)) (by decide) (by decide)) q107a q107c (g := (mkF m 231 #[.val (.int x0), .val (.long x1), .second, .val (.long x2), .second, .val (.long x3), .second, .val (.int ff), .val (.int (0 : Int32)), .val (.int (1 : Int32)), .val (.int tot), .val (.int lst), .val (.ref b63), .val (.int (6 : Int32)), .unset, .unset, .unset, .unset, .unset, .unset, .unset, .unset, .unset, .unset, .unset] [(.long ar_106), (.ref b63)])) rfl (by rw [hml]; rfl) (Steps.refl _) (argsL := [(.long ar_106)]) (rest := []) (lenOf own_pd0 rfl) rfl (by show 2 * 0 + _ ≤ _; exact Nat.le_of_eq rfl) (hb hby at_231) (fun _ _ => ⟨rfl, eh106, (by decide : 1 + 0 ≤ _), (by decide : 3 + 0 ≤ _)⟩)
                  dsimp only [Pt.U, Pt.locs, Pt.cells, Pt.slots] at X107 l107 y107 z107 st107 hQ107
                  subst l107 y107 z107
                  obtain ⟨rfl, N107q, K107q, f107_0, f107_1, f107_2⟩ := hQ107
                  have N107 := Fr.app N106 N107q
                  have f108 := own_sta_keep f102 K107q (allS (own_eplain f104) all0)
                  have f109 := own_sta_keep f103 K107q (allS (own_eplain f104) all0)
                  have f110 := f104.keep K107q
                  have K107 := K101.trans K107q (allS (Or.inr H63) all0)
                  have Z107 := Nat.le_trans Z101 K107q.1
                  refine Goes.tr st107 ?_
                  show Goes p e below s _ _ _ T107 (mkF m 234 #[.val (.int x0), .val (.long x1), .second, .val (.long x2), .second, .val (.long x3), .second, .val (.int ff), .val (.int (0 : Int32)), .val (.int (1 : Int32)), .val (.int tot), .val (.int lst), .val (.ref b63), .val (.int (6 : Int32)), .unset, .unset, .unset, .unset, .unset, .unset, .unset, .unset, .unset, .unset, .unset] [])
                  refine own_iinc X107 hx 237 rfl #[.val (.int x0), .val (.long x1), .second, .val (.long x2), .second, .val (.long x3), .second, .val (.int ff), .val (.int (0 : Int32)), .val (.int (1 : Int32)), .val (.int tot), .val (.int lst), .val (.ref b63), .val (.int (7 : Int32)), .unset, .unset, .unset, .unset, .unset, .unset, .unset, .unset, .unset, .unset, .unset] (hb hby at_234) rfl (by decide) rfl ?_
                  have hfl := own_gt (k := 5) (by decide) hc217_105
                  have hfh := hff.2
                  obtain rfl : ff = (6 : Int32) := own_pin (k := 6) (by decide) (by omega)
                  obtain rfl : tot = (7 : Int32) := by rw [h_tot]; decide
                  obtain rfl : lst = (6 : Int32) := by rw [h_lst]; decide
                  have hdd := own_sh x3 _ rfl
                  have har : ar_106 = x2 := own_atE pr106_0 (by decide)
                  refine own_lload X107 hx 239 rfl (hb hby at_237) rfl ?_
                  refine own_iconst X107 hx 240 rfl (1 : Int32) (hb hby at_239) (by decide) ?_
                  refine own_lshr X107 hx 241 rfl (hb hby at_240) rfl ?_
                  refine own_lstore X107 hx 243 rfl #[.val (.int x0), .val (.long x1), .second, .val (.long x2), .second, .val (.long x3), .second, .val (.int (6 : Int32)), .val (.int (0 : Int32)), .val (.int (1 : Int32)), .val (.int (7 : Int32)), .val (.int (6 : Int32)), .val (.ref b63), .val (.int (7 : Int32)), .val (.long (x3 >>> ((1 : Int32) &&& 0x3f).toInt64)), .second, .unset, .unset, .unset, .unset, .unset, .unset, .unset, .unset, .unset] (hb hby at_241) rfl ?_
                  refine own_lloadN X107 hx 244 rfl (hb hby at_243) rfl ?_
                  refine own_lload X107 hx 246 rfl (hb hby at_244) rfl ?_
                  refine own_ladd X107 hx 247 rfl (hb hby at_246) rfl ?_
                  refine own_lstore X107 hx 249 rfl #[.val (.int x0), .val (.long x1), .second, .val (.long x2), .second, .val (.long x3), .second, .val (.int (6 : Int32)), .val (.int (0 : Int32)), .val (.int (1 : Int32)), .val (.int (7 : Int32)), .val (.int (6 : Int32)), .val (.ref b63), .val (.int (7 : Int32)), .val (.long (x3 >>> ((1 : Int32) &&& 0x3f).toInt64)), .second, .val (.long (x2 + (x3 >>> ((1 : Int32) &&& 0x3f).toInt64))), .second, .unset, .unset, .unset, .unset, .unset, .unset, .unset] (hb hby at_247) rfl ?_
                  refine own_aload X107 hx 251 rfl (hb hby at_249) rfl rfl ?_
                  refine own_lload X107 hx 253 rfl (hb hby at_251) rfl ?_
                  obtain ⟨cq111, kq111, q111a, q111b, q111c⟩ := isOf hZ rfl f110
                  obtain ⟨_, _, ⟨T111, L111, k111, n111⟩, -, X111, ⟨Lc111, hQ111, l111, y111, z111⟩, st111⟩ := X107.virtualBack hx (y := (⟨"com/example/pooler/pooler/pool/Backoff", "delay", "(J)J"⟩ : MethodName)) (z := (⟨"com/example/pooler/pooler/pool/Backoff", "delay", "(J)J"⟩ : MethodName)) hown (mvT hZ (hw _ (List.mem_of_getElem? (i := 9) rfl))) (mvT hZ (hw _ (List.mem_of_getElem? (i := 10) rfl))) (notFace_of_selects (args := #[]) (mvT hZ (hw _ (List.mem_of_getElem? (i := 12) rfl)))) (mvT hZ (hw _ (List.mem_of_getElem? (i := 12) rfl))) (mvT hZ (hw _ (List.mem_of_getElem? (i := 11) rfl))) (by decide) (backOf (W := 0) (rmde6 l Z a0 hw [] b63 (x2 + (x3 >>> ((1 : Int32) &&& 0x3f).toInt64)) ar_106 T107.heap n0 Z107 f110 f108 f109 f107_0 f107_1 f107_2) hZ (hw _ (List.mem_of_getElem? (i := 13) rfl)) (hw _ (List.mem_of_getElem? (i := 2) rfl)) (by decide) (by decide)) q111a q111c (g := (mkF m 253 #[.val (.int x0), .val (.long x1), .second, .val (.long x2), .second, .val (.long x3), .second, .val (.int (6 : Int32)), .val (.int (0 : Int32)), .val (.int (1 : Int32)), .val (.int (7 : Int32)), .val (.int (6 : Int32)), .val (.ref b63), .val (.int (7 : Int32)), .val (.long (x3 >>> ((1 : Int32) &&& 0x3f).toInt64)), .second, .val (.long (x2 + (x3 >>> ((1 : Int32) &&& 0x3f).toInt64))), .second, .unset, .unset, .unset, .unset, .unset, .unset, .unset] [(.long (x2 + (x3 >>> ((1 : Int32) &&& 0x3f).toInt64))), (.ref b63)])) rfl (by rw [hml]; rfl) (Steps.refl _) (argsL := [(.long (x2 + (x3 >>> ((1 : Int32) &&& 0x3f).toInt64)))]) (rest := []) (lenOf own_pd5 rfl) rfl (by show 2 * 0 + _ ≤ _; exact Nat.le_of_eq rfl) (hb hby at_253) (fun _ _ => ⟨rfl, rfl, (by decide : 1 + 0 ≤ _), (by decide : 3 + 0 ≤ _)⟩)
                  dsimp only [Pt.U, Pt.locs, Pt.cells, Pt.slots] at X111 l111 y111 z111 st111 hQ111
                  subst l111 y111 z111
                  obtain ⟨br_111, rfl, N111q, eh111, pr111_0⟩ := hQ111
                  have N111 := Fr.app N107 N111q
                  refine Goes.tr st111 ?_
                  show Goes p e below s _ _ _ T111 (mkF m 256 #[.val (.int x0), .val (.long x1), .second, .val (.long x2), .second, .val (.long x3), .second, .val (.int (6 : Int32)), .val (.int (0 : Int32)), .val (.int (1 : Int32)), .val (.int (7 : Int32)), .val (.int (6 : Int32)), .val (.ref b63), .val (.int (7 : Int32)), .val (.long (x3 >>> ((1 : Int32) &&& 0x3f).toInt64)), .second, .val (.long (x2 + (x3 >>> ((1 : Int32) &&& 0x3f).toInt64))), .second, .unset, .unset, .unset, .unset, .unset, .unset, .unset] [(.long br_111)])
                  refine own_lstore X111 hx 258 rfl #[.val (.int x0), .val (.long x1), .second, .val (.long x2), .second, .val (.long x3), .second, .val (.int (6 : Int32)), .val (.int (0 : Int32)), .val (.int (1 : Int32)), .val (.int (7 : Int32)), .val (.int (6 : Int32)), .val (.ref b63), .val (.int (7 : Int32)), .val (.long (x3 >>> ((1 : Int32) &&& 0x3f).toInt64)), .second, .val (.long (x2 + (x3 >>> ((1 : Int32) &&& 0x3f).toInt64))), .second, .val (.long br_111), .second, .unset, .unset, .unset, .unset, .unset] (hb hby at_256) rfl ?_
                  refine own_iload X111 hx 260 rfl (hb hby at_258) rfl ?_
                  refine own_ifY X111 hx 269 (hb hby at_260) ((if0 _ _).trans (feq ((by decide) : ¬ ((7 : Int32) = (0 : Int32)))).2) (by decide) (by decide) ?_
                  refine own_iload X111 hx 271 rfl (hb hby at_269) rfl ?_
                  refine own_iconst X111 hx 272 rfl (1 : Int32) (hb hby at_271) (by decide) ?_
                  refine own_icmpN X111 hx 275 (hb hby at_272) (teq ((by decide) : (1 : Int32) = (1 : Int32))).2 rfl ?_
                  refine own_iload X111 hx 277 rfl (hb hby at_275) rfl ?_
                  refine own_goto X111 hx 285 (hb hby at_277) (by decide) (by decide) ?_
                  refine own_istore X111 hx 287 rfl #[.val (.int x0), .val (.long x1), .second, .val (.long x2), .second, .val (.long x3), .second, .val (.int (6 : Int32)), .val (.int (0 : Int32)), .val (.int (1 : Int32)), .val (.int (7 : Int32)), .val (.int (6 : Int32)), .val (.ref b63), .val (.int (7 : Int32)), .val (.long (x3 >>> ((1 : Int32) &&& 0x3f).toInt64)), .second, .val (.long (x2 + (x3 >>> ((1 : Int32) &&& 0x3f).toInt64))), .second, .val (.long br_111), .second, .unset, .unset, .val (.int (6 : Int32)), .unset, .unset] (hb hby at_285) rfl ?_
                  refine own_iload X111 hx 289 rfl (hb hby at_287) rfl ?_
                  obtain ⟨_, _, ⟨T112, L112, k112, n112⟩, -, X112, ⟨Lc112, hQ112, l112, y112, z112⟩, st112⟩ := Jvm.LawKit.callS X111 hx (y := (⟨"com/example/pooler/pooler/pool/BackoffDelayPinLaw", "pauseMs", "(I)J"⟩ : MethodName)) hown (mvT hZ (hw _ (List.mem_of_getElem? (i := 48) rfl))) (mvT hZ (hw _ (List.mem_of_getElem? (i := 49) rfl))) (mvT hZ (hw _ (List.mem_of_getElem? (i := 18) rfl))) (mvT hZ (hw _ (List.mem_of_getElem? (i := 50) rfl))) (by decide) (backOf (W := 0) (rmpm6 l Z a0 hw []  T107.heap n0 Z107 ) hZ (hw _ (List.mem_of_getElem? (i := 50) rfl)) (hw _ (List.mem_of_getElem? (i := 18) rfl)) (by decide) (by decide)) (g := (mkF m 289 #[.val (.int x0), .val (.long x1), .second, .val (.long x2), .second, .val (.long x3), .second, .val (.int (6 : Int32)), .val (.int (0 : Int32)), .val (.int (1 : Int32)), .val (.int (7 : Int32)), .val (.int (6 : Int32)), .val (.ref b63), .val (.int (7 : Int32)), .val (.long (x3 >>> ((1 : Int32) &&& 0x3f).toInt64)), .second, .val (.long (x2 + (x3 >>> ((1 : Int32) &&& 0x3f).toInt64))), .second, .val (.long br_111), .second, .unset, .unset, .val (.int (6 : Int32)), .unset, .unset] [(.int (6 : Int32))])) rfl (by rw [hml]; rfl) (argsL := [(.int (6 : Int32))]) (rest := []) (lenOf own_pd6 rfl) rfl (by show 2 * 0 + _ ≤ _; exact Nat.le_of_eq rfl) (hb hby at_289) (fun _ _ => ⟨rfl, eh111, (by decide : 1 + 0 ≤ _), (by decide : 3 + 0 ≤ _)⟩)
                  dsimp only [Pt.U, Pt.locs, Pt.cells, Pt.slots] at X112 l112 y112 z112 st112 hQ112
                  subst l112 y112 z112
                  obtain ⟨rfl, N112q, eh112⟩ := hQ112
                  have N112 := Fr.app N111 N112q
                  refine Goes.go st112 ?_
                  show Goes p e below s _ _ _ T112 (mkF m 292 #[.val (.int x0), .val (.long x1), .second, .val (.long x2), .second, .val (.long x3), .second, .val (.int (6 : Int32)), .val (.int (0 : Int32)), .val (.int (1 : Int32)), .val (.int (7 : Int32)), .val (.int (6 : Int32)), .val (.ref b63), .val (.int (7 : Int32)), .val (.long (x3 >>> ((1 : Int32) &&& 0x3f).toInt64)), .second, .val (.long (x2 + (x3 >>> ((1 : Int32) &&& 0x3f).toInt64))), .second, .val (.long br_111), .second, .unset, .unset, .val (.int (6 : Int32)), .unset, .unset] [(.long (1000 : Int64))])
                  refine Goes.go (X112.ldc2Long hx hown (mvT hZ (hw _ (List.mem_of_getElem? (i := 52) rfl))) (g := (mkF m 292 #[.val (.int x0), .val (.long x1), .second, .val (.long x2), .second, .val (.long x3), .second, .val (.int (6 : Int32)), .val (.int (0 : Int32)), .val (.int (1 : Int32)), .val (.int (7 : Int32)), .val (.int (6 : Int32)), .val (.ref b63), .val (.int (7 : Int32)), .val (.long (x3 >>> ((1 : Int32) &&& 0x3f).toInt64)), .second, .val (.long (x2 + (x3 >>> ((1 : Int32) &&& 0x3f).toInt64))), .second, .val (.long br_111), .second, .unset, .unset, .val (.int (6 : Int32)), .unset, .unset] [(.long (1000 : Int64))])) rfl (hb hby at_292)) ?_
                  show Goes p e below s _ _ _ T112 (mkF m 295 #[.val (.int x0), .val (.long x1), .second, .val (.long x2), .second, .val (.long x3), .second, .val (.int (6 : Int32)), .val (.int (0 : Int32)), .val (.int (1 : Int32)), .val (.int (7 : Int32)), .val (.int (6 : Int32)), .val (.ref b63), .val (.int (7 : Int32)), .val (.long (x3 >>> ((1 : Int32) &&& 0x3f).toInt64)), .second, .val (.long (x2 + (x3 >>> ((1 : Int32) &&& 0x3f).toInt64))), .second, .val (.long br_111), .second, .unset, .unset, .val (.int (6 : Int32)), .unset, .unset] [(.long (1000000 : Int64)), (.long (1000 : Int64))])
                  refine own_lmul X112 hx 296 rfl (z := (1000000000 : Int64)) (hb hby at_295) (by decide) ?_
                  refine own_lstore X112 hx 298 rfl #[.val (.int x0), .val (.long x1), .second, .val (.long x2), .second, .val (.long x3), .second, .val (.int (6 : Int32)), .val (.int (0 : Int32)), .val (.int (1 : Int32)), .val (.int (7 : Int32)), .val (.int (6 : Int32)), .val (.ref b63), .val (.int (7 : Int32)), .val (.long (x3 >>> ((1 : Int32) &&& 0x3f).toInt64)), .second, .val (.long (x2 + (x3 >>> ((1 : Int32) &&& 0x3f).toInt64))), .second, .val (.long br_111), .second, .unset, .unset, .val (.int (6 : Int32)), .val (.long (1000000000 : Int64)), .second] (hb hby at_296) rfl ?_
                  refine own_lload X112 hx 300 rfl (hb hby at_298) rfl ?_
                  refine own_lload X112 hx 302 rfl (hb hby at_300) rfl ?_
                  refine own_lcmp X112 hx 303 rfl (hb hby at_302) ?_
                  by_cases hc303_113 : (x3 >>> ((1 : Int32) &&& 0x3f).toInt64) < (1000000000 : Int64)
                  · refine own_ifY X112 hx 310 (hb hby at_303) (Ltlt hc303_113).1 (by decide) (by decide) ?_
                    refine own_lload X112 hx 312 rfl (hb hby at_310) rfl ?_
                    refine own_lload X112 hx 314 rfl (hb hby at_312) rfl ?_
                    refine own_lsub X112 hx 315 rfl (hb hby at_314) rfl ?_
                    refine own_lstore X112 hx 317 rfl #[.val (.int x0), .val (.long x1), .second, .val (.long x2), .second, .val (.long x3), .second, .val (.int (6 : Int32)), .val (.int (0 : Int32)), .val (.int (1 : Int32)), .val (.int (7 : Int32)), .val (.int (6 : Int32)), .val (.ref b63), .val (.int (7 : Int32)), .val (.long (x3 >>> ((1 : Int32) &&& 0x3f).toInt64)), .second, .val (.long (x2 + (x3 >>> ((1 : Int32) &&& 0x3f).toInt64))), .second, .val (.long br_111), .second, .val (.long ((1000000000 : Int64) - (x3 >>> ((1 : Int32) &&& 0x3f).toInt64))), .second, .val (.int (6 : Int32)), .val (.long (1000000000 : Int64)), .second] (hb hby at_315) rfl ?_
                    refine own_lload X112 hx 319 rfl (hb hby at_317) rfl ?_
                    refine own_lload X112 hx 321 rfl (hb hby at_319) rfl ?_
                    refine own_lcmp X112 hx 322 rfl (hb hby at_321) ?_
                    refine own_ifN X112 hx 325 (hb hby at_322) (Lteq ((own_fin har hdd (P := (1000000000 : Int64)) (by decide) pr111_0).1 hc303_113 : br_111 = ((1000000000 : Int64) - (x3 >>> ((1 : Int32) &&& 0x3f).toInt64)))).2 rfl ?_
                    refine own_iconst X112 hx 326 rfl (1 : Int32) (hb hby at_325) (by decide) ?_
                    refine own_goto X112 hx 330 (hb hby at_326) (by decide) (by decide) ?_
                    refine own_retZ X112 hx hlk Bd.returns (by decide) (hb hby at_330) (by decide) (by decide) eh112 ?_
                    exact ⟨rfl, N112⟩
                  · refine own_ifN X112 hx 306 (hb hby at_303) (Lflt hc303_113).1 rfl ?_
                    refine own_lconst X112 hx 307 rfl (0 : Int64) (hb hby at_306) (by decide) ?_
                    refine own_goto X112 hx 315 (hb hby at_307) (by decide) (by decide) ?_
                    refine own_lstore X112 hx 317 rfl #[.val (.int x0), .val (.long x1), .second, .val (.long x2), .second, .val (.long x3), .second, .val (.int (6 : Int32)), .val (.int (0 : Int32)), .val (.int (1 : Int32)), .val (.int (7 : Int32)), .val (.int (6 : Int32)), .val (.ref b63), .val (.int (7 : Int32)), .val (.long (x3 >>> ((1 : Int32) &&& 0x3f).toInt64)), .second, .val (.long (x2 + (x3 >>> ((1 : Int32) &&& 0x3f).toInt64))), .second, .val (.long br_111), .second, .val (.long (0 : Int64)), .second, .val (.int (6 : Int32)), .val (.long (1000000000 : Int64)), .second] (hb hby at_315) rfl ?_
                    refine own_lload X112 hx 319 rfl (hb hby at_317) rfl ?_
                    refine own_lload X112 hx 321 rfl (hb hby at_319) rfl ?_
                    refine own_lcmp X112 hx 322 rfl (hb hby at_321) ?_
                    refine own_ifN X112 hx 325 (hb hby at_322) (Lteq ((own_fin har hdd (P := (1000000000 : Int64)) (by decide) pr111_0).2 hc303_113 : br_111 = (0 : Int64))).2 rfl ?_
                    refine own_iconst X112 hx 326 rfl (1 : Int32) (hb hby at_325) (by decide) ?_
                    refine own_goto X112 hx 330 (hb hby at_326) (by decide) (by decide) ?_
                    refine own_retZ X112 hx hlk Bd.returns (by decide) (hb hby at_330) (by decide) (by decide) eh112 ?_
                    exact ⟨rfl, N112⟩
                · refine own_icmpY X101 hx 237 (hb hby at_217) (flt hc217_105).2.2.2 (by decide) (by decide) ?_
                  have hfl := own_gt (k := 4) (by decide) hc194_99
                  have hfh := own_le (k := 5) (by decide) hc217_105
                  obtain rfl : ff = (5 : Int32) := own_pin (k := 5) (by decide) (by omega)
                  obtain rfl : tot = (6 : Int32) := by rw [h_tot]; decide
                  obtain rfl : lst = (5 : Int32) := by rw [h_lst]; decide
                  have hdd := own_sh x3 _ rfl
                  have har : ar_100 = x2 := own_atE pr100_0 (by decide)
                  refine own_lload X101 hx 239 rfl (hb hby at_237) rfl ?_
                  refine own_iconst X101 hx 240 rfl (1 : Int32) (hb hby at_239) (by decide) ?_
                  refine own_lshr X101 hx 241 rfl (hb hby at_240) rfl ?_
                  refine own_lstore X101 hx 243 rfl #[.val (.int x0), .val (.long x1), .second, .val (.long x2), .second, .val (.long x3), .second, .val (.int (5 : Int32)), .val (.int (0 : Int32)), .val (.int (1 : Int32)), .val (.int (6 : Int32)), .val (.int (5 : Int32)), .val (.ref b63), .val (.int (6 : Int32)), .val (.long (x3 >>> ((1 : Int32) &&& 0x3f).toInt64)), .second, .unset, .unset, .unset, .unset, .unset, .unset, .unset, .unset, .unset] (hb hby at_241) rfl ?_
                  refine own_lloadN X101 hx 244 rfl (hb hby at_243) rfl ?_
                  refine own_lload X101 hx 246 rfl (hb hby at_244) rfl ?_
                  refine own_ladd X101 hx 247 rfl (hb hby at_246) rfl ?_
                  refine own_lstore X101 hx 249 rfl #[.val (.int x0), .val (.long x1), .second, .val (.long x2), .second, .val (.long x3), .second, .val (.int (5 : Int32)), .val (.int (0 : Int32)), .val (.int (1 : Int32)), .val (.int (6 : Int32)), .val (.int (5 : Int32)), .val (.ref b63), .val (.int (6 : Int32)), .val (.long (x3 >>> ((1 : Int32) &&& 0x3f).toInt64)), .second, .val (.long (x2 + (x3 >>> ((1 : Int32) &&& 0x3f).toInt64))), .second, .unset, .unset, .unset, .unset, .unset, .unset, .unset] (hb hby at_247) rfl ?_
                  refine own_aload X101 hx 251 rfl (hb hby at_249) rfl rfl ?_
                  refine own_lload X101 hx 253 rfl (hb hby at_251) rfl ?_
                  obtain ⟨cq114, kq114, q114a, q114b, q114c⟩ := isOf hZ rfl f104
                  obtain ⟨_, _, ⟨T114, L114, k114, n114⟩, -, X114, ⟨Lc114, hQ114, l114, y114, z114⟩, st114⟩ := X101.virtualBack hx (y := (⟨"com/example/pooler/pooler/pool/Backoff", "delay", "(J)J"⟩ : MethodName)) (z := (⟨"com/example/pooler/pooler/pool/Backoff", "delay", "(J)J"⟩ : MethodName)) hown (mvT hZ (hw _ (List.mem_of_getElem? (i := 9) rfl))) (mvT hZ (hw _ (List.mem_of_getElem? (i := 10) rfl))) (notFace_of_selects (args := #[]) (mvT hZ (hw _ (List.mem_of_getElem? (i := 12) rfl)))) (mvT hZ (hw _ (List.mem_of_getElem? (i := 12) rfl))) (mvT hZ (hw _ (List.mem_of_getElem? (i := 11) rfl))) (by decide) (backOf (W := 0) (rmde5 l Z a0 hw [] b63 (x2 + (x3 >>> ((1 : Int32) &&& 0x3f).toInt64)) ar_100 T101.heap n0 Z101 f104 f102 f103 f101_0 f101_1 f101_2) hZ (hw _ (List.mem_of_getElem? (i := 13) rfl)) (hw _ (List.mem_of_getElem? (i := 2) rfl)) (by decide) (by decide)) q114a q114c (g := (mkF m 253 #[.val (.int x0), .val (.long x1), .second, .val (.long x2), .second, .val (.long x3), .second, .val (.int (5 : Int32)), .val (.int (0 : Int32)), .val (.int (1 : Int32)), .val (.int (6 : Int32)), .val (.int (5 : Int32)), .val (.ref b63), .val (.int (6 : Int32)), .val (.long (x3 >>> ((1 : Int32) &&& 0x3f).toInt64)), .second, .val (.long (x2 + (x3 >>> ((1 : Int32) &&& 0x3f).toInt64))), .second, .unset, .unset, .unset, .unset, .unset, .unset, .unset] [(.long (x2 + (x3 >>> ((1 : Int32) &&& 0x3f).toInt64))), (.ref b63)])) rfl (by rw [hml]; rfl) (Steps.refl _) (argsL := [(.long (x2 + (x3 >>> ((1 : Int32) &&& 0x3f).toInt64)))]) (rest := []) (lenOf own_pd5 rfl) rfl (by show 2 * 0 + _ ≤ _; exact Nat.le_of_eq rfl) (hb hby at_253) (fun _ _ => ⟨rfl, rfl, (by decide : 1 + 0 ≤ _), (by decide : 3 + 0 ≤ _)⟩)
                  dsimp only [Pt.U, Pt.locs, Pt.cells, Pt.slots] at X114 l114 y114 z114 st114 hQ114
                  subst l114 y114 z114
                  obtain ⟨br_114, rfl, N114q, eh114, pr114_0⟩ := hQ114
                  have N114 := Fr.app N101 N114q
                  refine Goes.tr st114 ?_
                  show Goes p e below s _ _ _ T114 (mkF m 256 #[.val (.int x0), .val (.long x1), .second, .val (.long x2), .second, .val (.long x3), .second, .val (.int (5 : Int32)), .val (.int (0 : Int32)), .val (.int (1 : Int32)), .val (.int (6 : Int32)), .val (.int (5 : Int32)), .val (.ref b63), .val (.int (6 : Int32)), .val (.long (x3 >>> ((1 : Int32) &&& 0x3f).toInt64)), .second, .val (.long (x2 + (x3 >>> ((1 : Int32) &&& 0x3f).toInt64))), .second, .unset, .unset, .unset, .unset, .unset, .unset, .unset] [(.long br_114)])
                  refine own_lstore X114 hx 258 rfl #[.val (.int x0), .val (.long x1), .second, .val (.long x2), .second, .val (.long x3), .second, .val (.int (5 : Int32)), .val (.int (0 : Int32)), .val (.int (1 : Int32)), .val (.int (6 : Int32)), .val (.int (5 : Int32)), .val (.ref b63), .val (.int (6 : Int32)), .val (.long (x3 >>> ((1 : Int32) &&& 0x3f).toInt64)), .second, .val (.long (x2 + (x3 >>> ((1 : Int32) &&& 0x3f).toInt64))), .second, .val (.long br_114), .second, .unset, .unset, .unset, .unset, .unset] (hb hby at_256) rfl ?_
                  refine own_iload X114 hx 260 rfl (hb hby at_258) rfl ?_
                  refine own_ifY X114 hx 269 (hb hby at_260) ((if0 _ _).trans (feq ((by decide) : ¬ ((6 : Int32) = (0 : Int32)))).2) (by decide) (by decide) ?_
                  refine own_iload X114 hx 271 rfl (hb hby at_269) rfl ?_
                  refine own_iconst X114 hx 272 rfl (1 : Int32) (hb hby at_271) (by decide) ?_
                  refine own_icmpN X114 hx 275 (hb hby at_272) (teq ((by decide) : (1 : Int32) = (1 : Int32))).2 rfl ?_
                  refine own_iload X114 hx 277 rfl (hb hby at_275) rfl ?_
                  refine own_goto X114 hx 285 (hb hby at_277) (by decide) (by decide) ?_
                  refine own_istore X114 hx 287 rfl #[.val (.int x0), .val (.long x1), .second, .val (.long x2), .second, .val (.long x3), .second, .val (.int (5 : Int32)), .val (.int (0 : Int32)), .val (.int (1 : Int32)), .val (.int (6 : Int32)), .val (.int (5 : Int32)), .val (.ref b63), .val (.int (6 : Int32)), .val (.long (x3 >>> ((1 : Int32) &&& 0x3f).toInt64)), .second, .val (.long (x2 + (x3 >>> ((1 : Int32) &&& 0x3f).toInt64))), .second, .val (.long br_114), .second, .unset, .unset, .val (.int (5 : Int32)), .unset, .unset] (hb hby at_285) rfl ?_
                  refine own_iload X114 hx 289 rfl (hb hby at_287) rfl ?_
                  obtain ⟨_, _, ⟨T115, L115, k115, n115⟩, -, X115, ⟨Lc115, hQ115, l115, y115, z115⟩, st115⟩ := Jvm.LawKit.callS X114 hx (y := (⟨"com/example/pooler/pooler/pool/BackoffDelayPinLaw", "pauseMs", "(I)J"⟩ : MethodName)) hown (mvT hZ (hw _ (List.mem_of_getElem? (i := 48) rfl))) (mvT hZ (hw _ (List.mem_of_getElem? (i := 49) rfl))) (mvT hZ (hw _ (List.mem_of_getElem? (i := 18) rfl))) (mvT hZ (hw _ (List.mem_of_getElem? (i := 50) rfl))) (by decide) (backOf (W := 0) (rmpm5 l Z a0 hw []  T101.heap n0 Z101 ) hZ (hw _ (List.mem_of_getElem? (i := 50) rfl)) (hw _ (List.mem_of_getElem? (i := 18) rfl)) (by decide) (by decide)) (g := (mkF m 289 #[.val (.int x0), .val (.long x1), .second, .val (.long x2), .second, .val (.long x3), .second, .val (.int (5 : Int32)), .val (.int (0 : Int32)), .val (.int (1 : Int32)), .val (.int (6 : Int32)), .val (.int (5 : Int32)), .val (.ref b63), .val (.int (6 : Int32)), .val (.long (x3 >>> ((1 : Int32) &&& 0x3f).toInt64)), .second, .val (.long (x2 + (x3 >>> ((1 : Int32) &&& 0x3f).toInt64))), .second, .val (.long br_114), .second, .unset, .unset, .val (.int (5 : Int32)), .unset, .unset] [(.int (5 : Int32))])) rfl (by rw [hml]; rfl) (argsL := [(.int (5 : Int32))]) (rest := []) (lenOf own_pd6 rfl) rfl (by show 2 * 0 + _ ≤ _; exact Nat.le_of_eq rfl) (hb hby at_289) (fun _ _ => ⟨rfl, eh114, (by decide : 1 + 0 ≤ _), (by decide : 3 + 0 ≤ _)⟩)
                  dsimp only [Pt.U, Pt.locs, Pt.cells, Pt.slots] at X115 l115 y115 z115 st115 hQ115
                  subst l115 y115 z115
                  obtain ⟨rfl, N115q, eh115⟩ := hQ115
                  have N115 := Fr.app N114 N115q
                  refine Goes.go st115 ?_
                  show Goes p e below s _ _ _ T115 (mkF m 292 #[.val (.int x0), .val (.long x1), .second, .val (.long x2), .second, .val (.long x3), .second, .val (.int (5 : Int32)), .val (.int (0 : Int32)), .val (.int (1 : Int32)), .val (.int (6 : Int32)), .val (.int (5 : Int32)), .val (.ref b63), .val (.int (6 : Int32)), .val (.long (x3 >>> ((1 : Int32) &&& 0x3f).toInt64)), .second, .val (.long (x2 + (x3 >>> ((1 : Int32) &&& 0x3f).toInt64))), .second, .val (.long br_114), .second, .unset, .unset, .val (.int (5 : Int32)), .unset, .unset] [(.long (1000 : Int64))])
                  refine Goes.go (X115.ldc2Long hx hown (mvT hZ (hw _ (List.mem_of_getElem? (i := 52) rfl))) (g := (mkF m 292 #[.val (.int x0), .val (.long x1), .second, .val (.long x2), .second, .val (.long x3), .second, .val (.int (5 : Int32)), .val (.int (0 : Int32)), .val (.int (1 : Int32)), .val (.int (6 : Int32)), .val (.int (5 : Int32)), .val (.ref b63), .val (.int (6 : Int32)), .val (.long (x3 >>> ((1 : Int32) &&& 0x3f).toInt64)), .second, .val (.long (x2 + (x3 >>> ((1 : Int32) &&& 0x3f).toInt64))), .second, .val (.long br_114), .second, .unset, .unset, .val (.int (5 : Int32)), .unset, .unset] [(.long (1000 : Int64))])) rfl (hb hby at_292)) ?_
                  show Goes p e below s _ _ _ T115 (mkF m 295 #[.val (.int x0), .val (.long x1), .second, .val (.long x2), .second, .val (.long x3), .second, .val (.int (5 : Int32)), .val (.int (0 : Int32)), .val (.int (1 : Int32)), .val (.int (6 : Int32)), .val (.int (5 : Int32)), .val (.ref b63), .val (.int (6 : Int32)), .val (.long (x3 >>> ((1 : Int32) &&& 0x3f).toInt64)), .second, .val (.long (x2 + (x3 >>> ((1 : Int32) &&& 0x3f).toInt64))), .second, .val (.long br_114), .second, .unset, .unset, .val (.int (5 : Int32)), .unset, .unset] [(.long (1000000 : Int64)), (.long (1000 : Int64))])
                  refine own_lmul X115 hx 296 rfl (z := (1000000000 : Int64)) (hb hby at_295) (by decide) ?_
                  refine own_lstore X115 hx 298 rfl #[.val (.int x0), .val (.long x1), .second, .val (.long x2), .second, .val (.long x3), .second, .val (.int (5 : Int32)), .val (.int (0 : Int32)), .val (.int (1 : Int32)), .val (.int (6 : Int32)), .val (.int (5 : Int32)), .val (.ref b63), .val (.int (6 : Int32)), .val (.long (x3 >>> ((1 : Int32) &&& 0x3f).toInt64)), .second, .val (.long (x2 + (x3 >>> ((1 : Int32) &&& 0x3f).toInt64))), .second, .val (.long br_114), .second, .unset, .unset, .val (.int (5 : Int32)), .val (.long (1000000000 : Int64)), .second] (hb hby at_296) rfl ?_
                  refine own_lload X115 hx 300 rfl (hb hby at_298) rfl ?_
                  refine own_lload X115 hx 302 rfl (hb hby at_300) rfl ?_
                  refine own_lcmp X115 hx 303 rfl (hb hby at_302) ?_
                  by_cases hc303_116 : (x3 >>> ((1 : Int32) &&& 0x3f).toInt64) < (1000000000 : Int64)
                  · refine own_ifY X115 hx 310 (hb hby at_303) (Ltlt hc303_116).1 (by decide) (by decide) ?_
                    refine own_lload X115 hx 312 rfl (hb hby at_310) rfl ?_
                    refine own_lload X115 hx 314 rfl (hb hby at_312) rfl ?_
                    refine own_lsub X115 hx 315 rfl (hb hby at_314) rfl ?_
                    refine own_lstore X115 hx 317 rfl #[.val (.int x0), .val (.long x1), .second, .val (.long x2), .second, .val (.long x3), .second, .val (.int (5 : Int32)), .val (.int (0 : Int32)), .val (.int (1 : Int32)), .val (.int (6 : Int32)), .val (.int (5 : Int32)), .val (.ref b63), .val (.int (6 : Int32)), .val (.long (x3 >>> ((1 : Int32) &&& 0x3f).toInt64)), .second, .val (.long (x2 + (x3 >>> ((1 : Int32) &&& 0x3f).toInt64))), .second, .val (.long br_114), .second, .val (.long ((1000000000 : Int64) - (x3 >>> ((1 : Int32) &&& 0x3f).toInt64))), .second, .val (.int (5 : Int32)), .val (.long (1000000000 : Int64)), .second] (hb hby at_315) rfl ?_
                    refine own_lload X115 hx 319 rfl (hb hby at_317) rfl ?_
                    refine own_lload X115 hx 321 rfl (hb hby at_319) rfl ?_
                    refine own_lcmp X115 hx 322 rfl (hb hby at_321) ?_
                    refine own_ifN X115 hx 325 (hb hby at_322) (Lteq ((own_fin har hdd (P := (1000000000 : Int64)) (by decide) pr114_0).1 hc303_116 : br_114 = ((1000000000 : Int64) - (x3 >>> ((1 : Int32) &&& 0x3f).toInt64)))).2 rfl ?_
                    refine own_iconst X115 hx 326 rfl (1 : Int32) (hb hby at_325) (by decide) ?_
                    refine own_goto X115 hx 330 (hb hby at_326) (by decide) (by decide) ?_
                    refine own_retZ X115 hx hlk Bd.returns (by decide) (hb hby at_330) (by decide) (by decide) eh115 ?_
                    exact ⟨rfl, N115⟩
                  · refine own_ifN X115 hx 306 (hb hby at_303) (Lflt hc303_116).1 rfl ?_
                    refine own_lconst X115 hx 307 rfl (0 : Int64) (hb hby at_306) (by decide) ?_
                    refine own_goto X115 hx 315 (hb hby at_307) (by decide) (by decide) ?_
                    refine own_lstore X115 hx 317 rfl #[.val (.int x0), .val (.long x1), .second, .val (.long x2), .second, .val (.long x3), .second, .val (.int (5 : Int32)), .val (.int (0 : Int32)), .val (.int (1 : Int32)), .val (.int (6 : Int32)), .val (.int (5 : Int32)), .val (.ref b63), .val (.int (6 : Int32)), .val (.long (x3 >>> ((1 : Int32) &&& 0x3f).toInt64)), .second, .val (.long (x2 + (x3 >>> ((1 : Int32) &&& 0x3f).toInt64))), .second, .val (.long br_114), .second, .val (.long (0 : Int64)), .second, .val (.int (5 : Int32)), .val (.long (1000000000 : Int64)), .second] (hb hby at_315) rfl ?_
                    refine own_lload X115 hx 319 rfl (hb hby at_317) rfl ?_
                    refine own_lload X115 hx 321 rfl (hb hby at_319) rfl ?_
                    refine own_lcmp X115 hx 322 rfl (hb hby at_321) ?_
                    refine own_ifN X115 hx 325 (hb hby at_322) (Lteq ((own_fin har hdd (P := (1000000000 : Int64)) (by decide) pr114_0).2 hc303_116 : br_114 = (0 : Int64))).2 rfl ?_
                    refine own_iconst X115 hx 326 rfl (1 : Int32) (hb hby at_325) (by decide) ?_
                    refine own_goto X115 hx 330 (hb hby at_326) (by decide) (by decide) ?_
                    refine own_retZ X115 hx hlk Bd.returns (by decide) (hb hby at_330) (by decide) (by decide) eh115 ?_
                    exact ⟨rfl, N115⟩
              · refine own_icmpY X95 hx 214 (hb hby at_194) (flt hc194_99).2.2.2 (by decide) (by decide) ?_
                refine own_iload X95 hx 216 rfl (hb hby at_214) rfl ?_
                refine own_iconst X95 hx 217 rfl (5 : Int32) (hb hby at_216) (by decide) ?_
                refine own_icmpY X95 hx 237 (hb hby at_217) (flt (own_down hc194_99 (by decide) : ¬ ((5 : Int32) < ff))).2.2.2 (by decide) (by decide) ?_
                have hfl := own_gt (k := 3) (by decide) hc171_93
                have hfh := own_le (k := 4) (by decide) hc194_99
                obtain rfl : ff = (4 : Int32) := own_pin (k := 4) (by decide) (by omega)
                obtain rfl : tot = (5 : Int32) := by rw [h_tot]; decide
                obtain rfl : lst = (4 : Int32) := by rw [h_lst]; decide
                have hdd := own_sh x3 _ rfl
                have har : ar_94 = x2 := own_atE pr94_0 (by decide)
                refine own_lload X95 hx 239 rfl (hb hby at_237) rfl ?_
                refine own_iconst X95 hx 240 rfl (1 : Int32) (hb hby at_239) (by decide) ?_
                refine own_lshr X95 hx 241 rfl (hb hby at_240) rfl ?_
                refine own_lstore X95 hx 243 rfl #[.val (.int x0), .val (.long x1), .second, .val (.long x2), .second, .val (.long x3), .second, .val (.int (4 : Int32)), .val (.int (0 : Int32)), .val (.int (1 : Int32)), .val (.int (5 : Int32)), .val (.int (4 : Int32)), .val (.ref b63), .val (.int (5 : Int32)), .val (.long (x3 >>> ((1 : Int32) &&& 0x3f).toInt64)), .second, .unset, .unset, .unset, .unset, .unset, .unset, .unset, .unset, .unset] (hb hby at_241) rfl ?_
                refine own_lloadN X95 hx 244 rfl (hb hby at_243) rfl ?_
                refine own_lload X95 hx 246 rfl (hb hby at_244) rfl ?_
                refine own_ladd X95 hx 247 rfl (hb hby at_246) rfl ?_
                refine own_lstore X95 hx 249 rfl #[.val (.int x0), .val (.long x1), .second, .val (.long x2), .second, .val (.long x3), .second, .val (.int (4 : Int32)), .val (.int (0 : Int32)), .val (.int (1 : Int32)), .val (.int (5 : Int32)), .val (.int (4 : Int32)), .val (.ref b63), .val (.int (5 : Int32)), .val (.long (x3 >>> ((1 : Int32) &&& 0x3f).toInt64)), .second, .val (.long (x2 + (x3 >>> ((1 : Int32) &&& 0x3f).toInt64))), .second, .unset, .unset, .unset, .unset, .unset, .unset, .unset] (hb hby at_247) rfl ?_
                refine own_aload X95 hx 251 rfl (hb hby at_249) rfl rfl ?_
                refine own_lload X95 hx 253 rfl (hb hby at_251) rfl ?_
                obtain ⟨cq117, kq117, q117a, q117b, q117c⟩ := isOf hZ rfl f98
                obtain ⟨_, _, ⟨T117, L117, k117, n117⟩, -, X117, ⟨Lc117, hQ117, l117, y117, z117⟩, st117⟩ := X95.virtualBack hx (y := (⟨"com/example/pooler/pooler/pool/Backoff", "delay", "(J)J"⟩ : MethodName)) (z := (⟨"com/example/pooler/pooler/pool/Backoff", "delay", "(J)J"⟩ : MethodName)) hown (mvT hZ (hw _ (List.mem_of_getElem? (i := 9) rfl))) (mvT hZ (hw _ (List.mem_of_getElem? (i := 10) rfl))) (notFace_of_selects (args := #[]) (mvT hZ (hw _ (List.mem_of_getElem? (i := 12) rfl)))) (mvT hZ (hw _ (List.mem_of_getElem? (i := 12) rfl))) (mvT hZ (hw _ (List.mem_of_getElem? (i := 11) rfl))) (by decide) (backOf (W := 0) (rmde4 l Z a0 hw [] b63 (x2 + (x3 >>> ((1 : Int32) &&& 0x3f).toInt64)) ar_94 T95.heap n0 Z95 f98 f96 f97 f95_0 f95_1 f95_2) hZ (hw _ (List.mem_of_getElem? (i := 13) rfl)) (hw _ (List.mem_of_getElem? (i := 2) rfl)) (by decide) (by decide)) q117a q117c (g := (mkF m 253 #[.val (.int x0), .val (.long x1), .second, .val (.long x2), .second, .val (.long x3), .second, .val (.int (4 : Int32)), .val (.int (0 : Int32)), .val (.int (1 : Int32)), .val (.int (5 : Int32)), .val (.int (4 : Int32)), .val (.ref b63), .val (.int (5 : Int32)), .val (.long (x3 >>> ((1 : Int32) &&& 0x3f).toInt64)), .second, .val (.long (x2 + (x3 >>> ((1 : Int32) &&& 0x3f).toInt64))), .second, .unset, .unset, .unset, .unset, .unset, .unset, .unset] [(.long (x2 + (x3 >>> ((1 : Int32) &&& 0x3f).toInt64))), (.ref b63)])) rfl (by rw [hml]; rfl) (Steps.refl _) (argsL := [(.long (x2 + (x3 >>> ((1 : Int32) &&& 0x3f).toInt64)))]) (rest := []) (lenOf own_pd5 rfl) rfl (by show 2 * 0 + _ ≤ _; exact Nat.le_of_eq rfl) (hb hby at_253) (fun _ _ => ⟨rfl, rfl, (by decide : 1 + 0 ≤ _), (by decide : 3 + 0 ≤ _)⟩)
                dsimp only [Pt.U, Pt.locs, Pt.cells, Pt.slots] at X117 l117 y117 z117 st117 hQ117
                subst l117 y117 z117
                obtain ⟨br_117, rfl, N117q, eh117, pr117_0⟩ := hQ117
                have N117 := Fr.app N95 N117q
                refine Goes.tr st117 ?_
                show Goes p e below s _ _ _ T117 (mkF m 256 #[.val (.int x0), .val (.long x1), .second, .val (.long x2), .second, .val (.long x3), .second, .val (.int (4 : Int32)), .val (.int (0 : Int32)), .val (.int (1 : Int32)), .val (.int (5 : Int32)), .val (.int (4 : Int32)), .val (.ref b63), .val (.int (5 : Int32)), .val (.long (x3 >>> ((1 : Int32) &&& 0x3f).toInt64)), .second, .val (.long (x2 + (x3 >>> ((1 : Int32) &&& 0x3f).toInt64))), .second, .unset, .unset, .unset, .unset, .unset, .unset, .unset] [(.long br_117)])
                refine own_lstore X117 hx 258 rfl #[.val (.int x0), .val (.long x1), .second, .val (.long x2), .second, .val (.long x3), .second, .val (.int (4 : Int32)), .val (.int (0 : Int32)), .val (.int (1 : Int32)), .val (.int (5 : Int32)), .val (.int (4 : Int32)), .val (.ref b63), .val (.int (5 : Int32)), .val (.long (x3 >>> ((1 : Int32) &&& 0x3f).toInt64)), .second, .val (.long (x2 + (x3 >>> ((1 : Int32) &&& 0x3f).toInt64))), .second, .val (.long br_117), .second, .unset, .unset, .unset, .unset, .unset] (hb hby at_256) rfl ?_
                refine own_iload X117 hx 260 rfl (hb hby at_258) rfl ?_
                refine own_ifY X117 hx 269 (hb hby at_260) ((if0 _ _).trans (feq ((by decide) : ¬ ((5 : Int32) = (0 : Int32)))).2) (by decide) (by decide) ?_
                refine own_iload X117 hx 271 rfl (hb hby at_269) rfl ?_
                refine own_iconst X117 hx 272 rfl (1 : Int32) (hb hby at_271) (by decide) ?_
                refine own_icmpN X117 hx 275 (hb hby at_272) (teq ((by decide) : (1 : Int32) = (1 : Int32))).2 rfl ?_
                refine own_iload X117 hx 277 rfl (hb hby at_275) rfl ?_
                refine own_goto X117 hx 285 (hb hby at_277) (by decide) (by decide) ?_
                refine own_istore X117 hx 287 rfl #[.val (.int x0), .val (.long x1), .second, .val (.long x2), .second, .val (.long x3), .second, .val (.int (4 : Int32)), .val (.int (0 : Int32)), .val (.int (1 : Int32)), .val (.int (5 : Int32)), .val (.int (4 : Int32)), .val (.ref b63), .val (.int (5 : Int32)), .val (.long (x3 >>> ((1 : Int32) &&& 0x3f).toInt64)), .second, .val (.long (x2 + (x3 >>> ((1 : Int32) &&& 0x3f).toInt64))), .second, .val (.long br_117), .second, .unset, .unset, .val (.int (4 : Int32)), .unset, .unset] (hb hby at_285) rfl ?_
                refine own_iload X117 hx 289 rfl (hb hby at_287) rfl ?_
                obtain ⟨_, _, ⟨T118, L118, k118, n118⟩, -, X118, ⟨Lc118, hQ118, l118, y118, z118⟩, st118⟩ := Jvm.LawKit.callS X117 hx (y := (⟨"com/example/pooler/pooler/pool/BackoffDelayPinLaw", "pauseMs", "(I)J"⟩ : MethodName)) hown (mvT hZ (hw _ (List.mem_of_getElem? (i := 48) rfl))) (mvT hZ (hw _ (List.mem_of_getElem? (i := 49) rfl))) (mvT hZ (hw _ (List.mem_of_getElem? (i := 18) rfl))) (mvT hZ (hw _ (List.mem_of_getElem? (i := 50) rfl))) (by decide) (backOf (W := 0) (rmpm4 l Z a0 hw []  T95.heap n0 Z95 ) hZ (hw _ (List.mem_of_getElem? (i := 50) rfl)) (hw _ (List.mem_of_getElem? (i := 18) rfl)) (by decide) (by decide)) (g := (mkF m 289 #[.val (.int x0), .val (.long x1), .second, .val (.long x2), .second, .val (.long x3), .second, .val (.int (4 : Int32)), .val (.int (0 : Int32)), .val (.int (1 : Int32)), .val (.int (5 : Int32)), .val (.int (4 : Int32)), .val (.ref b63), .val (.int (5 : Int32)), .val (.long (x3 >>> ((1 : Int32) &&& 0x3f).toInt64)), .second, .val (.long (x2 + (x3 >>> ((1 : Int32) &&& 0x3f).toInt64))), .second, .val (.long br_117), .second, .unset, .unset, .val (.int (4 : Int32)), .unset, .unset] [(.int (4 : Int32))])) rfl (by rw [hml]; rfl) (argsL := [(.int (4 : Int32))]) (rest := []) (lenOf own_pd6 rfl) rfl (by show 2 * 0 + _ ≤ _; exact Nat.le_of_eq rfl) (hb hby at_289) (fun _ _ => ⟨rfl, eh117, (by decide : 1 + 0 ≤ _), (by decide : 3 + 0 ≤ _)⟩)
                dsimp only [Pt.U, Pt.locs, Pt.cells, Pt.slots] at X118 l118 y118 z118 st118 hQ118
                subst l118 y118 z118
                obtain ⟨rfl, N118q, eh118⟩ := hQ118
                have N118 := Fr.app N117 N118q
                refine Goes.go st118 ?_
                show Goes p e below s _ _ _ T118 (mkF m 292 #[.val (.int x0), .val (.long x1), .second, .val (.long x2), .second, .val (.long x3), .second, .val (.int (4 : Int32)), .val (.int (0 : Int32)), .val (.int (1 : Int32)), .val (.int (5 : Int32)), .val (.int (4 : Int32)), .val (.ref b63), .val (.int (5 : Int32)), .val (.long (x3 >>> ((1 : Int32) &&& 0x3f).toInt64)), .second, .val (.long (x2 + (x3 >>> ((1 : Int32) &&& 0x3f).toInt64))), .second, .val (.long br_117), .second, .unset, .unset, .val (.int (4 : Int32)), .unset, .unset] [(.long (800 : Int64))])
                refine Goes.go (X118.ldc2Long hx hown (mvT hZ (hw _ (List.mem_of_getElem? (i := 52) rfl))) (g := (mkF m 292 #[.val (.int x0), .val (.long x1), .second, .val (.long x2), .second, .val (.long x3), .second, .val (.int (4 : Int32)), .val (.int (0 : Int32)), .val (.int (1 : Int32)), .val (.int (5 : Int32)), .val (.int (4 : Int32)), .val (.ref b63), .val (.int (5 : Int32)), .val (.long (x3 >>> ((1 : Int32) &&& 0x3f).toInt64)), .second, .val (.long (x2 + (x3 >>> ((1 : Int32) &&& 0x3f).toInt64))), .second, .val (.long br_117), .second, .unset, .unset, .val (.int (4 : Int32)), .unset, .unset] [(.long (800 : Int64))])) rfl (hb hby at_292)) ?_
                show Goes p e below s _ _ _ T118 (mkF m 295 #[.val (.int x0), .val (.long x1), .second, .val (.long x2), .second, .val (.long x3), .second, .val (.int (4 : Int32)), .val (.int (0 : Int32)), .val (.int (1 : Int32)), .val (.int (5 : Int32)), .val (.int (4 : Int32)), .val (.ref b63), .val (.int (5 : Int32)), .val (.long (x3 >>> ((1 : Int32) &&& 0x3f).toInt64)), .second, .val (.long (x2 + (x3 >>> ((1 : Int32) &&& 0x3f).toInt64))), .second, .val (.long br_117), .second, .unset, .unset, .val (.int (4 : Int32)), .unset, .unset] [(.long (1000000 : Int64)), (.long (800 : Int64))])
                refine own_lmul X118 hx 296 rfl (z := (800000000 : Int64)) (hb hby at_295) (by decide) ?_
                refine own_lstore X118 hx 298 rfl #[.val (.int x0), .val (.long x1), .second, .val (.long x2), .second, .val (.long x3), .second, .val (.int (4 : Int32)), .val (.int (0 : Int32)), .val (.int (1 : Int32)), .val (.int (5 : Int32)), .val (.int (4 : Int32)), .val (.ref b63), .val (.int (5 : Int32)), .val (.long (x3 >>> ((1 : Int32) &&& 0x3f).toInt64)), .second, .val (.long (x2 + (x3 >>> ((1 : Int32) &&& 0x3f).toInt64))), .second, .val (.long br_117), .second, .unset, .unset, .val (.int (4 : Int32)), .val (.long (800000000 : Int64)), .second] (hb hby at_296) rfl ?_
                refine own_lload X118 hx 300 rfl (hb hby at_298) rfl ?_
                refine own_lload X118 hx 302 rfl (hb hby at_300) rfl ?_
                refine own_lcmp X118 hx 303 rfl (hb hby at_302) ?_
                by_cases hc303_119 : (x3 >>> ((1 : Int32) &&& 0x3f).toInt64) < (800000000 : Int64)
                · refine own_ifY X118 hx 310 (hb hby at_303) (Ltlt hc303_119).1 (by decide) (by decide) ?_
                  refine own_lload X118 hx 312 rfl (hb hby at_310) rfl ?_
                  refine own_lload X118 hx 314 rfl (hb hby at_312) rfl ?_
                  refine own_lsub X118 hx 315 rfl (hb hby at_314) rfl ?_
                  refine own_lstore X118 hx 317 rfl #[.val (.int x0), .val (.long x1), .second, .val (.long x2), .second, .val (.long x3), .second, .val (.int (4 : Int32)), .val (.int (0 : Int32)), .val (.int (1 : Int32)), .val (.int (5 : Int32)), .val (.int (4 : Int32)), .val (.ref b63), .val (.int (5 : Int32)), .val (.long (x3 >>> ((1 : Int32) &&& 0x3f).toInt64)), .second, .val (.long (x2 + (x3 >>> ((1 : Int32) &&& 0x3f).toInt64))), .second, .val (.long br_117), .second, .val (.long ((800000000 : Int64) - (x3 >>> ((1 : Int32) &&& 0x3f).toInt64))), .second, .val (.int (4 : Int32)), .val (.long (800000000 : Int64)), .second] (hb hby at_315) rfl ?_
                  refine own_lload X118 hx 319 rfl (hb hby at_317) rfl ?_
                  refine own_lload X118 hx 321 rfl (hb hby at_319) rfl ?_
                  refine own_lcmp X118 hx 322 rfl (hb hby at_321) ?_
                  refine own_ifN X118 hx 325 (hb hby at_322) (Lteq ((own_fin har hdd (P := (800000000 : Int64)) (by decide) pr117_0).1 hc303_119 : br_117 = ((800000000 : Int64) - (x3 >>> ((1 : Int32) &&& 0x3f).toInt64)))).2 rfl ?_
                  refine own_iconst X118 hx 326 rfl (1 : Int32) (hb hby at_325) (by decide) ?_
                  refine own_goto X118 hx 330 (hb hby at_326) (by decide) (by decide) ?_
                  refine own_retZ X118 hx hlk Bd.returns (by decide) (hb hby at_330) (by decide) (by decide) eh118 ?_
                  exact ⟨rfl, N118⟩
                · refine own_ifN X118 hx 306 (hb hby at_303) (Lflt hc303_119).1 rfl ?_
                  refine own_lconst X118 hx 307 rfl (0 : Int64) (hb hby at_306) (by decide) ?_
                  refine own_goto X118 hx 315 (hb hby at_307) (by decide) (by decide) ?_
                  refine own_lstore X118 hx 317 rfl #[.val (.int x0), .val (.long x1), .second, .val (.long x2), .second, .val (.long x3), .second, .val (.int (4 : Int32)), .val (.int (0 : Int32)), .val (.int (1 : Int32)), .val (.int (5 : Int32)), .val (.int (4 : Int32)), .val (.ref b63), .val (.int (5 : Int32)), .val (.long (x3 >>> ((1 : Int32) &&& 0x3f).toInt64)), .second, .val (.long (x2 + (x3 >>> ((1 : Int32) &&& 0x3f).toInt64))), .second, .val (.long br_117), .second, .val (.long (0 : Int64)), .second, .val (.int (4 : Int32)), .val (.long (800000000 : Int64)), .second] (hb hby at_315) rfl ?_
                  refine own_lload X118 hx 319 rfl (hb hby at_317) rfl ?_
                  refine own_lload X118 hx 321 rfl (hb hby at_319) rfl ?_
                  refine own_lcmp X118 hx 322 rfl (hb hby at_321) ?_
                  refine own_ifN X118 hx 325 (hb hby at_322) (Lteq ((own_fin har hdd (P := (800000000 : Int64)) (by decide) pr117_0).2 hc303_119 : br_117 = (0 : Int64))).2 rfl ?_
                  refine own_iconst X118 hx 326 rfl (1 : Int32) (hb hby at_325) (by decide) ?_
                  refine own_goto X118 hx 330 (hb hby at_326) (by decide) (by decide) ?_
                  refine own_retZ X118 hx hlk Bd.returns (by decide) (hb hby at_330) (by decide) (by decide) eh118 ?_
                  exact ⟨rfl, N118⟩
            · refine own_icmpY X89 hx 191 (hb hby at_171) (flt hc171_93).2.2.2 (by decide) (by decide) ?_
              refine own_iload X89 hx 193 rfl (hb hby at_191) rfl ?_
              refine own_iconst X89 hx 194 rfl (4 : Int32) (hb hby at_193) (by decide) ?_
              refine own_icmpY X89 hx 214 (hb hby at_194) (flt (own_down hc171_93 (by decide) : ¬ ((4 : Int32) < ff))).2.2.2 (by decide) (by decide) ?_
              refine own_iload X89 hx 216 rfl (hb hby at_214) rfl ?_
              refine own_iconst X89 hx 217 rfl (5 : Int32) (hb hby at_216) (by decide) ?_
              refine own_icmpY X89 hx 237 (hb hby at_217) (flt (own_down hc171_93 (by decide) : ¬ ((5 : Int32) < ff))).2.2.2 (by decide) (by decide) ?_
              have hfl := own_gt (k := 2) (by decide) hc148_87
              have hfh := own_le (k := 3) (by decide) hc171_93
              obtain rfl : ff = (3 : Int32) := own_pin (k := 3) (by decide) (by omega)
              obtain rfl : tot = (4 : Int32) := by rw [h_tot]; decide
              obtain rfl : lst = (3 : Int32) := by rw [h_lst]; decide
              have hdd := own_sh x3 _ rfl
              have har : ar_88 = x2 := own_atE pr88_0 (by decide)
              refine own_lload X89 hx 239 rfl (hb hby at_237) rfl ?_
              refine own_iconst X89 hx 240 rfl (1 : Int32) (hb hby at_239) (by decide) ?_
              refine own_lshr X89 hx 241 rfl (hb hby at_240) rfl ?_
              refine own_lstore X89 hx 243 rfl #[.val (.int x0), .val (.long x1), .second, .val (.long x2), .second, .val (.long x3), .second, .val (.int (3 : Int32)), .val (.int (0 : Int32)), .val (.int (1 : Int32)), .val (.int (4 : Int32)), .val (.int (3 : Int32)), .val (.ref b63), .val (.int (4 : Int32)), .val (.long (x3 >>> ((1 : Int32) &&& 0x3f).toInt64)), .second, .unset, .unset, .unset, .unset, .unset, .unset, .unset, .unset, .unset] (hb hby at_241) rfl ?_
              refine own_lloadN X89 hx 244 rfl (hb hby at_243) rfl ?_
              refine own_lload X89 hx 246 rfl (hb hby at_244) rfl ?_
              refine own_ladd X89 hx 247 rfl (hb hby at_246) rfl ?_
              refine own_lstore X89 hx 249 rfl #[.val (.int x0), .val (.long x1), .second, .val (.long x2), .second, .val (.long x3), .second, .val (.int (3 : Int32)), .val (.int (0 : Int32)), .val (.int (1 : Int32)), .val (.int (4 : Int32)), .val (.int (3 : Int32)), .val (.ref b63), .val (.int (4 : Int32)), .val (.long (x3 >>> ((1 : Int32) &&& 0x3f).toInt64)), .second, .val (.long (x2 + (x3 >>> ((1 : Int32) &&& 0x3f).toInt64))), .second, .unset, .unset, .unset, .unset, .unset, .unset, .unset] (hb hby at_247) rfl ?_
              refine own_aload X89 hx 251 rfl (hb hby at_249) rfl rfl ?_
              refine own_lload X89 hx 253 rfl (hb hby at_251) rfl ?_
              obtain ⟨cq120, kq120, q120a, q120b, q120c⟩ := isOf hZ rfl f92
              obtain ⟨_, _, ⟨T120, L120, k120, n120⟩, -, X120, ⟨Lc120, hQ120, l120, y120, z120⟩, st120⟩ := X89.virtualBack hx (y := (⟨"com/example/pooler/pooler/pool/Backoff", "delay", "(J)J"⟩ : MethodName)) (z := (⟨"com/example/pooler/pooler/pool/Backoff", "delay", "(J)J"⟩ : MethodName)) hown (mvT hZ (hw _ (List.mem_of_getElem? (i := 9) rfl))) (mvT hZ (hw _ (List.mem_of_getElem? (i := 10) rfl))) (notFace_of_selects (args := #[]) (mvT hZ (hw _ (List.mem_of_getElem? (i := 12) rfl)))) (mvT hZ (hw _ (List.mem_of_getElem? (i := 12) rfl))) (mvT hZ (hw _ (List.mem_of_getElem? (i := 11) rfl))) (by decide) (backOf (W := 0) (rmde3 l Z a0 hw [] b63 (x2 + (x3 >>> ((1 : Int32) &&& 0x3f).toInt64)) ar_88 T89.heap n0 Z89 f92 f90 f91 f89_0 f89_1 f89_2) hZ (hw _ (List.mem_of_getElem? (i := 13) rfl)) (hw _ (List.mem_of_getElem? (i := 2) rfl)) (by decide) (by decide)) q120a q120c (g := (mkF m 253 #[.val (.int x0), .val (.long x1), .second, .val (.long x2), .second, .val (.long x3), .second, .val (.int (3 : Int32)), .val (.int (0 : Int32)), .val (.int (1 : Int32)), .val (.int (4 : Int32)), .val (.int (3 : Int32)), .val (.ref b63), .val (.int (4 : Int32)), .val (.long (x3 >>> ((1 : Int32) &&& 0x3f).toInt64)), .second, .val (.long (x2 + (x3 >>> ((1 : Int32) &&& 0x3f).toInt64))), .second, .unset, .unset, .unset, .unset, .unset, .unset, .unset] [(.long (x2 + (x3 >>> ((1 : Int32) &&& 0x3f).toInt64))), (.ref b63)])) rfl (by rw [hml]; rfl) (Steps.refl _) (argsL := [(.long (x2 + (x3 >>> ((1 : Int32) &&& 0x3f).toInt64)))]) (rest := []) (lenOf own_pd5 rfl) rfl (by show 2 * 0 + _ ≤ _; exact Nat.le_of_eq rfl) (hb hby at_253) (fun _ _ => ⟨rfl, rfl, (by decide : 1 + 0 ≤ _), (by decide : 3 + 0 ≤ _)⟩)
              dsimp only [Pt.U, Pt.locs, Pt.cells, Pt.slots] at X120 l120 y120 z120 st120 hQ120
              subst l120 y120 z120
              obtain ⟨br_120, rfl, N120q, eh120, pr120_0⟩ := hQ120
              have N120 := Fr.app N89 N120q
              refine Goes.tr st120 ?_
              show Goes p e below s _ _ _ T120 (mkF m 256 #[.val (.int x0), .val (.long x1), .second, .val (.long x2), .second, .val (.long x3), .second, .val (.int (3 : Int32)), .val (.int (0 : Int32)), .val (.int (1 : Int32)), .val (.int (4 : Int32)), .val (.int (3 : Int32)), .val (.ref b63), .val (.int (4 : Int32)), .val (.long (x3 >>> ((1 : Int32) &&& 0x3f).toInt64)), .second, .val (.long (x2 + (x3 >>> ((1 : Int32) &&& 0x3f).toInt64))), .second, .unset, .unset, .unset, .unset, .unset, .unset, .unset] [(.long br_120)])
              refine own_lstore X120 hx 258 rfl #[.val (.int x0), .val (.long x1), .second, .val (.long x2), .second, .val (.long x3), .second, .val (.int (3 : Int32)), .val (.int (0 : Int32)), .val (.int (1 : Int32)), .val (.int (4 : Int32)), .val (.int (3 : Int32)), .val (.ref b63), .val (.int (4 : Int32)), .val (.long (x3 >>> ((1 : Int32) &&& 0x3f).toInt64)), .second, .val (.long (x2 + (x3 >>> ((1 : Int32) &&& 0x3f).toInt64))), .second, .val (.long br_120), .second, .unset, .unset, .unset, .unset, .unset] (hb hby at_256) rfl ?_
              refine own_iload X120 hx 260 rfl (hb hby at_258) rfl ?_
              refine own_ifY X120 hx 269 (hb hby at_260) ((if0 _ _).trans (feq ((by decide) : ¬ ((4 : Int32) = (0 : Int32)))).2) (by decide) (by decide) ?_
              refine own_iload X120 hx 271 rfl (hb hby at_269) rfl ?_
              refine own_iconst X120 hx 272 rfl (1 : Int32) (hb hby at_271) (by decide) ?_
              refine own_icmpN X120 hx 275 (hb hby at_272) (teq ((by decide) : (1 : Int32) = (1 : Int32))).2 rfl ?_
              refine own_iload X120 hx 277 rfl (hb hby at_275) rfl ?_
              refine own_goto X120 hx 285 (hb hby at_277) (by decide) (by decide) ?_
              refine own_istore X120 hx 287 rfl #[.val (.int x0), .val (.long x1), .second, .val (.long x2), .second, .val (.long x3), .second, .val (.int (3 : Int32)), .val (.int (0 : Int32)), .val (.int (1 : Int32)), .val (.int (4 : Int32)), .val (.int (3 : Int32)), .val (.ref b63), .val (.int (4 : Int32)), .val (.long (x3 >>> ((1 : Int32) &&& 0x3f).toInt64)), .second, .val (.long (x2 + (x3 >>> ((1 : Int32) &&& 0x3f).toInt64))), .second, .val (.long br_120), .second, .unset, .unset, .val (.int (3 : Int32)), .unset, .unset] (hb hby at_285) rfl ?_
              refine own_iload X120 hx 289 rfl (hb hby at_287) rfl ?_
              obtain ⟨_, _, ⟨T121, L121, k121, n121⟩, -, X121, ⟨Lc121, hQ121, l121, y121, z121⟩, st121⟩ := Jvm.LawKit.callS X120 hx (y := (⟨"com/example/pooler/pooler/pool/BackoffDelayPinLaw", "pauseMs", "(I)J"⟩ : MethodName)) hown (mvT hZ (hw _ (List.mem_of_getElem? (i := 48) rfl))) (mvT hZ (hw _ (List.mem_of_getElem? (i := 49) rfl))) (mvT hZ (hw _ (List.mem_of_getElem? (i := 18) rfl))) (mvT hZ (hw _ (List.mem_of_getElem? (i := 50) rfl))) (by decide) (backOf (W := 0) (rmpm3 l Z a0 hw []  T89.heap n0 Z89 ) hZ (hw _ (List.mem_of_getElem? (i := 50) rfl)) (hw _ (List.mem_of_getElem? (i := 18) rfl)) (by decide) (by decide)) (g := (mkF m 289 #[.val (.int x0), .val (.long x1), .second, .val (.long x2), .second, .val (.long x3), .second, .val (.int (3 : Int32)), .val (.int (0 : Int32)), .val (.int (1 : Int32)), .val (.int (4 : Int32)), .val (.int (3 : Int32)), .val (.ref b63), .val (.int (4 : Int32)), .val (.long (x3 >>> ((1 : Int32) &&& 0x3f).toInt64)), .second, .val (.long (x2 + (x3 >>> ((1 : Int32) &&& 0x3f).toInt64))), .second, .val (.long br_120), .second, .unset, .unset, .val (.int (3 : Int32)), .unset, .unset] [(.int (3 : Int32))])) rfl (by rw [hml]; rfl) (argsL := [(.int (3 : Int32))]) (rest := []) (lenOf own_pd6 rfl) rfl (by show 2 * 0 + _ ≤ _; exact Nat.le_of_eq rfl) (hb hby at_289) (fun _ _ => ⟨rfl, eh120, (by decide : 1 + 0 ≤ _), (by decide : 3 + 0 ≤ _)⟩)
              dsimp only [Pt.U, Pt.locs, Pt.cells, Pt.slots] at X121 l121 y121 z121 st121 hQ121
              subst l121 y121 z121
              obtain ⟨rfl, N121q, eh121⟩ := hQ121
              have N121 := Fr.app N120 N121q
              refine Goes.go st121 ?_
              show Goes p e below s _ _ _ T121 (mkF m 292 #[.val (.int x0), .val (.long x1), .second, .val (.long x2), .second, .val (.long x3), .second, .val (.int (3 : Int32)), .val (.int (0 : Int32)), .val (.int (1 : Int32)), .val (.int (4 : Int32)), .val (.int (3 : Int32)), .val (.ref b63), .val (.int (4 : Int32)), .val (.long (x3 >>> ((1 : Int32) &&& 0x3f).toInt64)), .second, .val (.long (x2 + (x3 >>> ((1 : Int32) &&& 0x3f).toInt64))), .second, .val (.long br_120), .second, .unset, .unset, .val (.int (3 : Int32)), .unset, .unset] [(.long (400 : Int64))])
              refine Goes.go (X121.ldc2Long hx hown (mvT hZ (hw _ (List.mem_of_getElem? (i := 52) rfl))) (g := (mkF m 292 #[.val (.int x0), .val (.long x1), .second, .val (.long x2), .second, .val (.long x3), .second, .val (.int (3 : Int32)), .val (.int (0 : Int32)), .val (.int (1 : Int32)), .val (.int (4 : Int32)), .val (.int (3 : Int32)), .val (.ref b63), .val (.int (4 : Int32)), .val (.long (x3 >>> ((1 : Int32) &&& 0x3f).toInt64)), .second, .val (.long (x2 + (x3 >>> ((1 : Int32) &&& 0x3f).toInt64))), .second, .val (.long br_120), .second, .unset, .unset, .val (.int (3 : Int32)), .unset, .unset] [(.long (400 : Int64))])) rfl (hb hby at_292)) ?_
              show Goes p e below s _ _ _ T121 (mkF m 295 #[.val (.int x0), .val (.long x1), .second, .val (.long x2), .second, .val (.long x3), .second, .val (.int (3 : Int32)), .val (.int (0 : Int32)), .val (.int (1 : Int32)), .val (.int (4 : Int32)), .val (.int (3 : Int32)), .val (.ref b63), .val (.int (4 : Int32)), .val (.long (x3 >>> ((1 : Int32) &&& 0x3f).toInt64)), .second, .val (.long (x2 + (x3 >>> ((1 : Int32) &&& 0x3f).toInt64))), .second, .val (.long br_120), .second, .unset, .unset, .val (.int (3 : Int32)), .unset, .unset] [(.long (1000000 : Int64)), (.long (400 : Int64))])
              refine own_lmul X121 hx 296 rfl (z := (400000000 : Int64)) (hb hby at_295) (by decide) ?_
              refine own_lstore X121 hx 298 rfl #[.val (.int x0), .val (.long x1), .second, .val (.long x2), .second, .val (.long x3), .second, .val (.int (3 : Int32)), .val (.int (0 : Int32)), .val (.int (1 : Int32)), .val (.int (4 : Int32)), .val (.int (3 : Int32)), .val (.ref b63), .val (.int (4 : Int32)), .val (.long (x3 >>> ((1 : Int32) &&& 0x3f).toInt64)), .second, .val (.long (x2 + (x3 >>> ((1 : Int32) &&& 0x3f).toInt64))), .second, .val (.long br_120), .second, .unset, .unset, .val (.int (3 : Int32)), .val (.long (400000000 : Int64)), .second] (hb hby at_296) rfl ?_
              refine own_lload X121 hx 300 rfl (hb hby at_298) rfl ?_
              refine own_lload X121 hx 302 rfl (hb hby at_300) rfl ?_
              refine own_lcmp X121 hx 303 rfl (hb hby at_302) ?_
              by_cases hc303_122 : (x3 >>> ((1 : Int32) &&& 0x3f).toInt64) < (400000000 : Int64)
              · refine own_ifY X121 hx 310 (hb hby at_303) (Ltlt hc303_122).1 (by decide) (by decide) ?_
                refine own_lload X121 hx 312 rfl (hb hby at_310) rfl ?_
                refine own_lload X121 hx 314 rfl (hb hby at_312) rfl ?_
                refine own_lsub X121 hx 315 rfl (hb hby at_314) rfl ?_
                refine own_lstore X121 hx 317 rfl #[.val (.int x0), .val (.long x1), .second, .val (.long x2), .second, .val (.long x3), .second, .val (.int (3 : Int32)), .val (.int (0 : Int32)), .val (.int (1 : Int32)), .val (.int (4 : Int32)), .val (.int (3 : Int32)), .val (.ref b63), .val (.int (4 : Int32)), .val (.long (x3 >>> ((1 : Int32) &&& 0x3f).toInt64)), .second, .val (.long (x2 + (x3 >>> ((1 : Int32) &&& 0x3f).toInt64))), .second, .val (.long br_120), .second, .val (.long ((400000000 : Int64) - (x3 >>> ((1 : Int32) &&& 0x3f).toInt64))), .second, .val (.int (3 : Int32)), .val (.long (400000000 : Int64)), .second] (hb hby at_315) rfl ?_
                refine own_lload X121 hx 319 rfl (hb hby at_317) rfl ?_
                refine own_lload X121 hx 321 rfl (hb hby at_319) rfl ?_
                refine own_lcmp X121 hx 322 rfl (hb hby at_321) ?_
                refine own_ifN X121 hx 325 (hb hby at_322) (Lteq ((own_fin har hdd (P := (400000000 : Int64)) (by decide) pr120_0).1 hc303_122 : br_120 = ((400000000 : Int64) - (x3 >>> ((1 : Int32) &&& 0x3f).toInt64)))).2 rfl ?_
                refine own_iconst X121 hx 326 rfl (1 : Int32) (hb hby at_325) (by decide) ?_
                refine own_goto X121 hx 330 (hb hby at_326) (by decide) (by decide) ?_
                refine own_retZ X121 hx hlk Bd.returns (by decide) (hb hby at_330) (by decide) (by decide) eh121 ?_
                exact ⟨rfl, N121⟩
              · refine own_ifN X121 hx 306 (hb hby at_303) (Lflt hc303_122).1 rfl ?_
                refine own_lconst X121 hx 307 rfl (0 : Int64) (hb hby at_306) (by decide) ?_
                refine own_goto X121 hx 315 (hb hby at_307) (by decide) (by decide) ?_
                refine own_lstore X121 hx 317 rfl #[.val (.int x0), .val (.long x1), .second, .val (.long x2), .second, .val (.long x3), .second, .val (.int (3 : Int32)), .val (.int (0 : Int32)), .val (.int (1 : Int32)), .val (.int (4 : Int32)), .val (.int (3 : Int32)), .val (.ref b63), .val (.int (4 : Int32)), .val (.long (x3 >>> ((1 : Int32) &&& 0x3f).toInt64)), .second, .val (.long (x2 + (x3 >>> ((1 : Int32) &&& 0x3f).toInt64))), .second, .val (.long br_120), .second, .val (.long (0 : Int64)), .second, .val (.int (3 : Int32)), .val (.long (400000000 : Int64)), .second] (hb hby at_315) rfl ?_
                refine own_lload X121 hx 319 rfl (hb hby at_317) rfl ?_
                refine own_lload X121 hx 321 rfl (hb hby at_319) rfl ?_
                refine own_lcmp X121 hx 322 rfl (hb hby at_321) ?_
                refine own_ifN X121 hx 325 (hb hby at_322) (Lteq ((own_fin har hdd (P := (400000000 : Int64)) (by decide) pr120_0).2 hc303_122 : br_120 = (0 : Int64))).2 rfl ?_
                refine own_iconst X121 hx 326 rfl (1 : Int32) (hb hby at_325) (by decide) ?_
                refine own_goto X121 hx 330 (hb hby at_326) (by decide) (by decide) ?_
                refine own_retZ X121 hx hlk Bd.returns (by decide) (hb hby at_330) (by decide) (by decide) eh121 ?_
                exact ⟨rfl, N121⟩
          · refine own_icmpY X83 hx 168 (hb hby at_148) (flt hc148_87).2.2.2 (by decide) (by decide) ?_
            refine own_iload X83 hx 170 rfl (hb hby at_168) rfl ?_
            refine own_iconst X83 hx 171 rfl (3 : Int32) (hb hby at_170) (by decide) ?_
            refine own_icmpY X83 hx 191 (hb hby at_171) (flt (own_down hc148_87 (by decide) : ¬ ((3 : Int32) < ff))).2.2.2 (by decide) (by decide) ?_
            refine own_iload X83 hx 193 rfl (hb hby at_191) rfl ?_
            refine own_iconst X83 hx 194 rfl (4 : Int32) (hb hby at_193) (by decide) ?_
            refine own_icmpY X83 hx 214 (hb hby at_194) (flt (own_down hc148_87 (by decide) : ¬ ((4 : Int32) < ff))).2.2.2 (by decide) (by decide) ?_
            refine own_iload X83 hx 216 rfl (hb hby at_214) rfl ?_
            refine own_iconst X83 hx 217 rfl (5 : Int32) (hb hby at_216) (by decide) ?_
            refine own_icmpY X83 hx 237 (hb hby at_217) (flt (own_down hc148_87 (by decide) : ¬ ((5 : Int32) < ff))).2.2.2 (by decide) (by decide) ?_
            have hfl := own_gt (k := 1) (by decide) hc125_81
            have hfh := own_le (k := 2) (by decide) hc148_87
            obtain rfl : ff = (2 : Int32) := own_pin (k := 2) (by decide) (by omega)
            obtain rfl : tot = (3 : Int32) := by rw [h_tot]; decide
            obtain rfl : lst = (2 : Int32) := by rw [h_lst]; decide
            have hdd := own_sh x3 _ rfl
            have har : ar_82 = x2 := own_atE pr82_0 (by decide)
            refine own_lload X83 hx 239 rfl (hb hby at_237) rfl ?_
            refine own_iconst X83 hx 240 rfl (1 : Int32) (hb hby at_239) (by decide) ?_
            refine own_lshr X83 hx 241 rfl (hb hby at_240) rfl ?_
            refine own_lstore X83 hx 243 rfl #[.val (.int x0), .val (.long x1), .second, .val (.long x2), .second, .val (.long x3), .second, .val (.int (2 : Int32)), .val (.int (0 : Int32)), .val (.int (1 : Int32)), .val (.int (3 : Int32)), .val (.int (2 : Int32)), .val (.ref b63), .val (.int (3 : Int32)), .val (.long (x3 >>> ((1 : Int32) &&& 0x3f).toInt64)), .second, .unset, .unset, .unset, .unset, .unset, .unset, .unset, .unset, .unset] (hb hby at_241) rfl ?_
            refine own_lloadN X83 hx 244 rfl (hb hby at_243) rfl ?_
            refine own_lload X83 hx 246 rfl (hb hby at_244) rfl ?_
            refine own_ladd X83 hx 247 rfl (hb hby at_246) rfl ?_
            refine own_lstore X83 hx 249 rfl #[.val (.int x0), .val (.long x1), .second, .val (.long x2), .second, .val (.long x3), .second, .val (.int (2 : Int32)), .val (.int (0 : Int32)), .val (.int (1 : Int32)), .val (.int (3 : Int32)), .val (.int (2 : Int32)), .val (.ref b63), .val (.int (3 : Int32)), .val (.long (x3 >>> ((1 : Int32) &&& 0x3f).toInt64)), .second, .val (.long (x2 + (x3 >>> ((1 : Int32) &&& 0x3f).toInt64))), .second, .unset, .unset, .unset, .unset, .unset, .unset, .unset] (hb hby at_247) rfl ?_
            refine own_aload X83 hx 251 rfl (hb hby at_249) rfl rfl ?_
            refine own_lload X83 hx 253 rfl (hb hby at_251) rfl ?_
            obtain ⟨cq123, kq123, q123a, q123b, q123c⟩ := isOf hZ rfl f86
            obtain ⟨_, _, ⟨T123, L123, k123, n123⟩, -, X123, ⟨Lc123, hQ123, l123, y123, z123⟩, st123⟩ := X83.virtualBack hx (y := (⟨"com/example/pooler/pooler/pool/Backoff", "delay", "(J)J"⟩ : MethodName)) (z := (⟨"com/example/pooler/pooler/pool/Backoff", "delay", "(J)J"⟩ : MethodName)) hown (mvT hZ (hw _ (List.mem_of_getElem? (i := 9) rfl))) (mvT hZ (hw _ (List.mem_of_getElem? (i := 10) rfl))) (notFace_of_selects (args := #[]) (mvT hZ (hw _ (List.mem_of_getElem? (i := 12) rfl)))) (mvT hZ (hw _ (List.mem_of_getElem? (i := 12) rfl))) (mvT hZ (hw _ (List.mem_of_getElem? (i := 11) rfl))) (by decide) (backOf (W := 0) (rmde2 l Z a0 hw [] b63 (x2 + (x3 >>> ((1 : Int32) &&& 0x3f).toInt64)) ar_82 T83.heap n0 Z83 f86 f84 f85 f83_0 f83_1 f83_2) hZ (hw _ (List.mem_of_getElem? (i := 13) rfl)) (hw _ (List.mem_of_getElem? (i := 2) rfl)) (by decide) (by decide)) q123a q123c (g := (mkF m 253 #[.val (.int x0), .val (.long x1), .second, .val (.long x2), .second, .val (.long x3), .second, .val (.int (2 : Int32)), .val (.int (0 : Int32)), .val (.int (1 : Int32)), .val (.int (3 : Int32)), .val (.int (2 : Int32)), .val (.ref b63), .val (.int (3 : Int32)), .val (.long (x3 >>> ((1 : Int32) &&& 0x3f).toInt64)), .second, .val (.long (x2 + (x3 >>> ((1 : Int32) &&& 0x3f).toInt64))), .second, .unset, .unset, .unset, .unset, .unset, .unset, .unset] [(.long (x2 + (x3 >>> ((1 : Int32) &&& 0x3f).toInt64))), (.ref b63)])) rfl (by rw [hml]; rfl) (Steps.refl _) (argsL := [(.long (x2 + (x3 >>> ((1 : Int32) &&& 0x3f).toInt64)))]) (rest := []) (lenOf own_pd5 rfl) rfl (by show 2 * 0 + _ ≤ _; exact Nat.le_of_eq rfl) (hb hby at_253) (fun _ _ => ⟨rfl, rfl, (by decide : 1 + 0 ≤ _), (by decide : 3 + 0 ≤ _)⟩)
            dsimp only [Pt.U, Pt.locs, Pt.cells, Pt.slots] at X123 l123 y123 z123 st123 hQ123
            subst l123 y123 z123
            obtain ⟨br_123, rfl, N123q, eh123, pr123_0⟩ := hQ123
            have N123 := Fr.app N83 N123q
            refine Goes.tr st123 ?_
            show Goes p e below s _ _ _ T123 (mkF m 256 #[.val (.int x0), .val (.long x1), .second, .val (.long x2), .second, .val (.long x3), .second, .val (.int (2 : Int32)), .val (.int (0 : Int32)), .val (.int (1 : Int32)), .val (.int (3 : Int32)), .val (.int (2 : Int32)), .val (.ref b63), .val (.int (3 : Int32)), .val (.long (x3 >>> ((1 : Int32) &&& 0x3f).toInt64)), .second, .val (.long (x2 + (x3 >>> ((1 : Int32) &&& 0x3f).toInt64))), .second, .unset, .unset, .unset, .unset, .unset, .unset, .unset] [(.long br_123)])
            refine own_lstore X123 hx 258 rfl #[.val (.int x0), .val (.long x1), .second, .val (.long x2), .second, .val (.long x3), .second, .val (.int (2 : Int32)), .val (.int (0 : Int32)), .val (.int (1 : Int32)), .val (.int (3 : Int32)), .val (.int (2 : Int32)), .val (.ref b63), .val (.int (3 : Int32)), .val (.long (x3 >>> ((1 : Int32) &&& 0x3f).toInt64)), .second, .val (.long (x2 + (x3 >>> ((1 : Int32) &&& 0x3f).toInt64))), .second, .val (.long br_123), .second, .unset, .unset, .unset, .unset, .unset] (hb hby at_256) rfl ?_
            refine own_iload X123 hx 260 rfl (hb hby at_258) rfl ?_
            refine own_ifY X123 hx 269 (hb hby at_260) ((if0 _ _).trans (feq ((by decide) : ¬ ((3 : Int32) = (0 : Int32)))).2) (by decide) (by decide) ?_
            refine own_iload X123 hx 271 rfl (hb hby at_269) rfl ?_
            refine own_iconst X123 hx 272 rfl (1 : Int32) (hb hby at_271) (by decide) ?_
            refine own_icmpN X123 hx 275 (hb hby at_272) (teq ((by decide) : (1 : Int32) = (1 : Int32))).2 rfl ?_
            refine own_iload X123 hx 277 rfl (hb hby at_275) rfl ?_
            refine own_goto X123 hx 285 (hb hby at_277) (by decide) (by decide) ?_
            refine own_istore X123 hx 287 rfl #[.val (.int x0), .val (.long x1), .second, .val (.long x2), .second, .val (.long x3), .second, .val (.int (2 : Int32)), .val (.int (0 : Int32)), .val (.int (1 : Int32)), .val (.int (3 : Int32)), .val (.int (2 : Int32)), .val (.ref b63), .val (.int (3 : Int32)), .val (.long (x3 >>> ((1 : Int32) &&& 0x3f).toInt64)), .second, .val (.long (x2 + (x3 >>> ((1 : Int32) &&& 0x3f).toInt64))), .second, .val (.long br_123), .second, .unset, .unset, .val (.int (2 : Int32)), .unset, .unset] (hb hby at_285) rfl ?_
            refine own_iload X123 hx 289 rfl (hb hby at_287) rfl ?_
            obtain ⟨_, _, ⟨T124, L124, k124, n124⟩, -, X124, ⟨Lc124, hQ124, l124, y124, z124⟩, st124⟩ := Jvm.LawKit.callS X123 hx (y := (⟨"com/example/pooler/pooler/pool/BackoffDelayPinLaw", "pauseMs", "(I)J"⟩ : MethodName)) hown (mvT hZ (hw _ (List.mem_of_getElem? (i := 48) rfl))) (mvT hZ (hw _ (List.mem_of_getElem? (i := 49) rfl))) (mvT hZ (hw _ (List.mem_of_getElem? (i := 18) rfl))) (mvT hZ (hw _ (List.mem_of_getElem? (i := 50) rfl))) (by decide) (backOf (W := 0) (rmpm2 l Z a0 hw []  T83.heap n0 Z83 ) hZ (hw _ (List.mem_of_getElem? (i := 50) rfl)) (hw _ (List.mem_of_getElem? (i := 18) rfl)) (by decide) (by decide)) (g := (mkF m 289 #[.val (.int x0), .val (.long x1), .second, .val (.long x2), .second, .val (.long x3), .second, .val (.int (2 : Int32)), .val (.int (0 : Int32)), .val (.int (1 : Int32)), .val (.int (3 : Int32)), .val (.int (2 : Int32)), .val (.ref b63), .val (.int (3 : Int32)), .val (.long (x3 >>> ((1 : Int32) &&& 0x3f).toInt64)), .second, .val (.long (x2 + (x3 >>> ((1 : Int32) &&& 0x3f).toInt64))), .second, .val (.long br_123), .second, .unset, .unset, .val (.int (2 : Int32)), .unset, .unset] [(.int (2 : Int32))])) rfl (by rw [hml]; rfl) (argsL := [(.int (2 : Int32))]) (rest := []) (lenOf own_pd6 rfl) rfl (by show 2 * 0 + _ ≤ _; exact Nat.le_of_eq rfl) (hb hby at_289) (fun _ _ => ⟨rfl, eh123, (by decide : 1 + 0 ≤ _), (by decide : 3 + 0 ≤ _)⟩)
            dsimp only [Pt.U, Pt.locs, Pt.cells, Pt.slots] at X124 l124 y124 z124 st124 hQ124
            subst l124 y124 z124
            obtain ⟨rfl, N124q, eh124⟩ := hQ124
            have N124 := Fr.app N123 N124q
            refine Goes.go st124 ?_
            show Goes p e below s _ _ _ T124 (mkF m 292 #[.val (.int x0), .val (.long x1), .second, .val (.long x2), .second, .val (.long x3), .second, .val (.int (2 : Int32)), .val (.int (0 : Int32)), .val (.int (1 : Int32)), .val (.int (3 : Int32)), .val (.int (2 : Int32)), .val (.ref b63), .val (.int (3 : Int32)), .val (.long (x3 >>> ((1 : Int32) &&& 0x3f).toInt64)), .second, .val (.long (x2 + (x3 >>> ((1 : Int32) &&& 0x3f).toInt64))), .second, .val (.long br_123), .second, .unset, .unset, .val (.int (2 : Int32)), .unset, .unset] [(.long (200 : Int64))])
            refine Goes.go (X124.ldc2Long hx hown (mvT hZ (hw _ (List.mem_of_getElem? (i := 52) rfl))) (g := (mkF m 292 #[.val (.int x0), .val (.long x1), .second, .val (.long x2), .second, .val (.long x3), .second, .val (.int (2 : Int32)), .val (.int (0 : Int32)), .val (.int (1 : Int32)), .val (.int (3 : Int32)), .val (.int (2 : Int32)), .val (.ref b63), .val (.int (3 : Int32)), .val (.long (x3 >>> ((1 : Int32) &&& 0x3f).toInt64)), .second, .val (.long (x2 + (x3 >>> ((1 : Int32) &&& 0x3f).toInt64))), .second, .val (.long br_123), .second, .unset, .unset, .val (.int (2 : Int32)), .unset, .unset] [(.long (200 : Int64))])) rfl (hb hby at_292)) ?_
            show Goes p e below s _ _ _ T124 (mkF m 295 #[.val (.int x0), .val (.long x1), .second, .val (.long x2), .second, .val (.long x3), .second, .val (.int (2 : Int32)), .val (.int (0 : Int32)), .val (.int (1 : Int32)), .val (.int (3 : Int32)), .val (.int (2 : Int32)), .val (.ref b63), .val (.int (3 : Int32)), .val (.long (x3 >>> ((1 : Int32) &&& 0x3f).toInt64)), .second, .val (.long (x2 + (x3 >>> ((1 : Int32) &&& 0x3f).toInt64))), .second, .val (.long br_123), .second, .unset, .unset, .val (.int (2 : Int32)), .unset, .unset] [(.long (1000000 : Int64)), (.long (200 : Int64))])
            refine own_lmul X124 hx 296 rfl (z := (200000000 : Int64)) (hb hby at_295) (by decide) ?_
            refine own_lstore X124 hx 298 rfl #[.val (.int x0), .val (.long x1), .second, .val (.long x2), .second, .val (.long x3), .second, .val (.int (2 : Int32)), .val (.int (0 : Int32)), .val (.int (1 : Int32)), .val (.int (3 : Int32)), .val (.int (2 : Int32)), .val (.ref b63), .val (.int (3 : Int32)), .val (.long (x3 >>> ((1 : Int32) &&& 0x3f).toInt64)), .second, .val (.long (x2 + (x3 >>> ((1 : Int32) &&& 0x3f).toInt64))), .second, .val (.long br_123), .second, .unset, .unset, .val (.int (2 : Int32)), .val (.long (200000000 : Int64)), .second] (hb hby at_296) rfl ?_
            refine own_lload X124 hx 300 rfl (hb hby at_298) rfl ?_
            refine own_lload X124 hx 302 rfl (hb hby at_300) rfl ?_
            refine own_lcmp X124 hx 303 rfl (hb hby at_302) ?_
            by_cases hc303_125 : (x3 >>> ((1 : Int32) &&& 0x3f).toInt64) < (200000000 : Int64)
            · refine own_ifY X124 hx 310 (hb hby at_303) (Ltlt hc303_125).1 (by decide) (by decide) ?_
              refine own_lload X124 hx 312 rfl (hb hby at_310) rfl ?_
              refine own_lload X124 hx 314 rfl (hb hby at_312) rfl ?_
              refine own_lsub X124 hx 315 rfl (hb hby at_314) rfl ?_
              refine own_lstore X124 hx 317 rfl #[.val (.int x0), .val (.long x1), .second, .val (.long x2), .second, .val (.long x3), .second, .val (.int (2 : Int32)), .val (.int (0 : Int32)), .val (.int (1 : Int32)), .val (.int (3 : Int32)), .val (.int (2 : Int32)), .val (.ref b63), .val (.int (3 : Int32)), .val (.long (x3 >>> ((1 : Int32) &&& 0x3f).toInt64)), .second, .val (.long (x2 + (x3 >>> ((1 : Int32) &&& 0x3f).toInt64))), .second, .val (.long br_123), .second, .val (.long ((200000000 : Int64) - (x3 >>> ((1 : Int32) &&& 0x3f).toInt64))), .second, .val (.int (2 : Int32)), .val (.long (200000000 : Int64)), .second] (hb hby at_315) rfl ?_
              refine own_lload X124 hx 319 rfl (hb hby at_317) rfl ?_
              refine own_lload X124 hx 321 rfl (hb hby at_319) rfl ?_
              refine own_lcmp X124 hx 322 rfl (hb hby at_321) ?_
              refine own_ifN X124 hx 325 (hb hby at_322) (Lteq ((own_fin har hdd (P := (200000000 : Int64)) (by decide) pr123_0).1 hc303_125 : br_123 = ((200000000 : Int64) - (x3 >>> ((1 : Int32) &&& 0x3f).toInt64)))).2 rfl ?_
              refine own_iconst X124 hx 326 rfl (1 : Int32) (hb hby at_325) (by decide) ?_
              refine own_goto X124 hx 330 (hb hby at_326) (by decide) (by decide) ?_
              refine own_retZ X124 hx hlk Bd.returns (by decide) (hb hby at_330) (by decide) (by decide) eh124 ?_
              exact ⟨rfl, N124⟩
            · refine own_ifN X124 hx 306 (hb hby at_303) (Lflt hc303_125).1 rfl ?_
              refine own_lconst X124 hx 307 rfl (0 : Int64) (hb hby at_306) (by decide) ?_
              refine own_goto X124 hx 315 (hb hby at_307) (by decide) (by decide) ?_
              refine own_lstore X124 hx 317 rfl #[.val (.int x0), .val (.long x1), .second, .val (.long x2), .second, .val (.long x3), .second, .val (.int (2 : Int32)), .val (.int (0 : Int32)), .val (.int (1 : Int32)), .val (.int (3 : Int32)), .val (.int (2 : Int32)), .val (.ref b63), .val (.int (3 : Int32)), .val (.long (x3 >>> ((1 : Int32) &&& 0x3f).toInt64)), .second, .val (.long (x2 + (x3 >>> ((1 : Int32) &&& 0x3f).toInt64))), .second, .val (.long br_123), .second, .val (.long (0 : Int64)), .second, .val (.int (2 : Int32)), .val (.long (200000000 : Int64)), .second] (hb hby at_315) rfl ?_
              refine own_lload X124 hx 319 rfl (hb hby at_317) rfl ?_
              refine own_lload X124 hx 321 rfl (hb hby at_319) rfl ?_
              refine own_lcmp X124 hx 322 rfl (hb hby at_321) ?_
              refine own_ifN X124 hx 325 (hb hby at_322) (Lteq ((own_fin har hdd (P := (200000000 : Int64)) (by decide) pr123_0).2 hc303_125 : br_123 = (0 : Int64))).2 rfl ?_
              refine own_iconst X124 hx 326 rfl (1 : Int32) (hb hby at_325) (by decide) ?_
              refine own_goto X124 hx 330 (hb hby at_326) (by decide) (by decide) ?_
              refine own_retZ X124 hx hlk Bd.returns (by decide) (hb hby at_330) (by decide) (by decide) eh124 ?_
              exact ⟨rfl, N124⟩
        · refine own_icmpY X77 hx 145 (hb hby at_125) (flt hc125_81).2.2.2 (by decide) (by decide) ?_
          refine own_iload X77 hx 147 rfl (hb hby at_145) rfl ?_
          refine own_iconst X77 hx 148 rfl (2 : Int32) (hb hby at_147) (by decide) ?_
          refine own_icmpY X77 hx 168 (hb hby at_148) (flt (own_down hc125_81 (by decide) : ¬ ((2 : Int32) < ff))).2.2.2 (by decide) (by decide) ?_
          refine own_iload X77 hx 170 rfl (hb hby at_168) rfl ?_
          refine own_iconst X77 hx 171 rfl (3 : Int32) (hb hby at_170) (by decide) ?_
          refine own_icmpY X77 hx 191 (hb hby at_171) (flt (own_down hc125_81 (by decide) : ¬ ((3 : Int32) < ff))).2.2.2 (by decide) (by decide) ?_
          refine own_iload X77 hx 193 rfl (hb hby at_191) rfl ?_
          refine own_iconst X77 hx 194 rfl (4 : Int32) (hb hby at_193) (by decide) ?_
          refine own_icmpY X77 hx 214 (hb hby at_194) (flt (own_down hc125_81 (by decide) : ¬ ((4 : Int32) < ff))).2.2.2 (by decide) (by decide) ?_
          refine own_iload X77 hx 216 rfl (hb hby at_214) rfl ?_
          refine own_iconst X77 hx 217 rfl (5 : Int32) (hb hby at_216) (by decide) ?_
          refine own_icmpY X77 hx 237 (hb hby at_217) (flt (own_down hc125_81 (by decide) : ¬ ((5 : Int32) < ff))).2.2.2 (by decide) (by decide) ?_
          have hfl := own_gt (k := 0) (by decide) hc102_75
          have hfh := own_le (k := 1) (by decide) hc125_81
          obtain rfl : ff = (1 : Int32) := own_pin (k := 1) (by decide) (by omega)
          obtain rfl : tot = (2 : Int32) := by rw [h_tot]; decide
          obtain rfl : lst = (1 : Int32) := by rw [h_lst]; decide
          have hdd := own_sh x3 _ rfl
          have har : ar_76 = x2 := own_atE pr76_0 (by decide)
          refine own_lload X77 hx 239 rfl (hb hby at_237) rfl ?_
          refine own_iconst X77 hx 240 rfl (1 : Int32) (hb hby at_239) (by decide) ?_
          refine own_lshr X77 hx 241 rfl (hb hby at_240) rfl ?_
          refine own_lstore X77 hx 243 rfl #[.val (.int x0), .val (.long x1), .second, .val (.long x2), .second, .val (.long x3), .second, .val (.int (1 : Int32)), .val (.int (0 : Int32)), .val (.int (1 : Int32)), .val (.int (2 : Int32)), .val (.int (1 : Int32)), .val (.ref b63), .val (.int (2 : Int32)), .val (.long (x3 >>> ((1 : Int32) &&& 0x3f).toInt64)), .second, .unset, .unset, .unset, .unset, .unset, .unset, .unset, .unset, .unset] (hb hby at_241) rfl ?_
          refine own_lloadN X77 hx 244 rfl (hb hby at_243) rfl ?_
          refine own_lload X77 hx 246 rfl (hb hby at_244) rfl ?_
          refine own_ladd X77 hx 247 rfl (hb hby at_246) rfl ?_
          refine own_lstore X77 hx 249 rfl #[.val (.int x0), .val (.long x1), .second, .val (.long x2), .second, .val (.long x3), .second, .val (.int (1 : Int32)), .val (.int (0 : Int32)), .val (.int (1 : Int32)), .val (.int (2 : Int32)), .val (.int (1 : Int32)), .val (.ref b63), .val (.int (2 : Int32)), .val (.long (x3 >>> ((1 : Int32) &&& 0x3f).toInt64)), .second, .val (.long (x2 + (x3 >>> ((1 : Int32) &&& 0x3f).toInt64))), .second, .unset, .unset, .unset, .unset, .unset, .unset, .unset] (hb hby at_247) rfl ?_
          refine own_aload X77 hx 251 rfl (hb hby at_249) rfl rfl ?_
          refine own_lload X77 hx 253 rfl (hb hby at_251) rfl ?_
          obtain ⟨cq126, kq126, q126a, q126b, q126c⟩ := isOf hZ rfl f80
          obtain ⟨_, _, ⟨T126, L126, k126, n126⟩, -, X126, ⟨Lc126, hQ126, l126, y126, z126⟩, st126⟩ := X77.virtualBack hx (y := (⟨"com/example/pooler/pooler/pool/Backoff", "delay", "(J)J"⟩ : MethodName)) (z := (⟨"com/example/pooler/pooler/pool/Backoff", "delay", "(J)J"⟩ : MethodName)) hown (mvT hZ (hw _ (List.mem_of_getElem? (i := 9) rfl))) (mvT hZ (hw _ (List.mem_of_getElem? (i := 10) rfl))) (notFace_of_selects (args := #[]) (mvT hZ (hw _ (List.mem_of_getElem? (i := 12) rfl)))) (mvT hZ (hw _ (List.mem_of_getElem? (i := 12) rfl))) (mvT hZ (hw _ (List.mem_of_getElem? (i := 11) rfl))) (by decide) (backOf (W := 0) (rmde1 l Z a0 hw [] b63 (x2 + (x3 >>> ((1 : Int32) &&& 0x3f).toInt64)) ar_76 T77.heap n0 Z77 f80 f78 f79 f77_0 f77_1 f77_2) hZ (hw _ (List.mem_of_getElem? (i := 13) rfl)) (hw _ (List.mem_of_getElem? (i := 2) rfl)) (by decide) (by decide)) q126a q126c (g := (mkF m 253 #[.val (.int x0), .val (.long x1), .second, .val (.long x2), .second, .val (.long x3), .second, .val (.int (1 : Int32)), .val (.int (0 : Int32)), .val (.int (1 : Int32)), .val (.int (2 : Int32)), .val (.int (1 : Int32)), .val (.ref b63), .val (.int (2 : Int32)), .val (.long (x3 >>> ((1 : Int32) &&& 0x3f).toInt64)), .second, .val (.long (x2 + (x3 >>> ((1 : Int32) &&& 0x3f).toInt64))), .second, .unset, .unset, .unset, .unset, .unset, .unset, .unset] [(.long (x2 + (x3 >>> ((1 : Int32) &&& 0x3f).toInt64))), (.ref b63)])) rfl (by rw [hml]; rfl) (Steps.refl _) (argsL := [(.long (x2 + (x3 >>> ((1 : Int32) &&& 0x3f).toInt64)))]) (rest := []) (lenOf own_pd5 rfl) rfl (by show 2 * 0 + _ ≤ _; exact Nat.le_of_eq rfl) (hb hby at_253) (fun _ _ => ⟨rfl, rfl, (by decide : 1 + 0 ≤ _), (by decide : 3 + 0 ≤ _)⟩)
          dsimp only [Pt.U, Pt.locs, Pt.cells, Pt.slots] at X126 l126 y126 z126 st126 hQ126
          subst l126 y126 z126
          obtain ⟨br_126, rfl, N126q, eh126, pr126_0⟩ := hQ126
          have N126 := Fr.app N77 N126q
          refine Goes.tr st126 ?_
          show Goes p e below s _ _ _ T126 (mkF m 256 #[.val (.int x0), .val (.long x1), .second, .val (.long x2), .second, .val (.long x3), .second, .val (.int (1 : Int32)), .val (.int (0 : Int32)), .val (.int (1 : Int32)), .val (.int (2 : Int32)), .val (.int (1 : Int32)), .val (.ref b63), .val (.int (2 : Int32)), .val (.long (x3 >>> ((1 : Int32) &&& 0x3f).toInt64)), .second, .val (.long (x2 + (x3 >>> ((1 : Int32) &&& 0x3f).toInt64))), .second, .unset, .unset, .unset, .unset, .unset, .unset, .unset] [(.long br_126)])
          refine own_lstore X126 hx 258 rfl #[.val (.int x0), .val (.long x1), .second, .val (.long x2), .second, .val (.long x3), .second, .val (.int (1 : Int32)), .val (.int (0 : Int32)), .val (.int (1 : Int32)), .val (.int (2 : Int32)), .val (.int (1 : Int32)), .val (.ref b63), .val (.int (2 : Int32)), .val (.long (x3 >>> ((1 : Int32) &&& 0x3f).toInt64)), .second, .val (.long (x2 + (x3 >>> ((1 : Int32) &&& 0x3f).toInt64))), .second, .val (.long br_126), .second, .unset, .unset, .unset, .unset, .unset] (hb hby at_256) rfl ?_
          refine own_iload X126 hx 260 rfl (hb hby at_258) rfl ?_
          refine own_ifY X126 hx 269 (hb hby at_260) ((if0 _ _).trans (feq ((by decide) : ¬ ((2 : Int32) = (0 : Int32)))).2) (by decide) (by decide) ?_
          refine own_iload X126 hx 271 rfl (hb hby at_269) rfl ?_
          refine own_iconst X126 hx 272 rfl (1 : Int32) (hb hby at_271) (by decide) ?_
          refine own_icmpN X126 hx 275 (hb hby at_272) (teq ((by decide) : (1 : Int32) = (1 : Int32))).2 rfl ?_
          refine own_iload X126 hx 277 rfl (hb hby at_275) rfl ?_
          refine own_goto X126 hx 285 (hb hby at_277) (by decide) (by decide) ?_
          refine own_istore X126 hx 287 rfl #[.val (.int x0), .val (.long x1), .second, .val (.long x2), .second, .val (.long x3), .second, .val (.int (1 : Int32)), .val (.int (0 : Int32)), .val (.int (1 : Int32)), .val (.int (2 : Int32)), .val (.int (1 : Int32)), .val (.ref b63), .val (.int (2 : Int32)), .val (.long (x3 >>> ((1 : Int32) &&& 0x3f).toInt64)), .second, .val (.long (x2 + (x3 >>> ((1 : Int32) &&& 0x3f).toInt64))), .second, .val (.long br_126), .second, .unset, .unset, .val (.int (1 : Int32)), .unset, .unset] (hb hby at_285) rfl ?_
          refine own_iload X126 hx 289 rfl (hb hby at_287) rfl ?_
          obtain ⟨_, _, ⟨T127, L127, k127, n127⟩, -, X127, ⟨Lc127, hQ127, l127, y127, z127⟩, st127⟩ := Jvm.LawKit.callS X126 hx (y := (⟨"com/example/pooler/pooler/pool/BackoffDelayPinLaw", "pauseMs", "(I)J"⟩ : MethodName)) hown (mvT hZ (hw _ (List.mem_of_getElem? (i := 48) rfl))) (mvT hZ (hw _ (List.mem_of_getElem? (i := 49) rfl))) (mvT hZ (hw _ (List.mem_of_getElem? (i := 18) rfl))) (mvT hZ (hw _ (List.mem_of_getElem? (i := 50) rfl))) (by decide) (backOf (W := 0) (rmpm1 l Z a0 hw []  T77.heap n0 Z77 ) hZ (hw _ (List.mem_of_getElem? (i := 50) rfl)) (hw _ (List.mem_of_getElem? (i := 18) rfl)) (by decide) (by decide)) (g := (mkF m 289 #[.val (.int x0), .val (.long x1), .second, .val (.long x2), .second, .val (.long x3), .second, .val (.int (1 : Int32)), .val (.int (0 : Int32)), .val (.int (1 : Int32)), .val (.int (2 : Int32)), .val (.int (1 : Int32)), .val (.ref b63), .val (.int (2 : Int32)), .val (.long (x3 >>> ((1 : Int32) &&& 0x3f).toInt64)), .second, .val (.long (x2 + (x3 >>> ((1 : Int32) &&& 0x3f).toInt64))), .second, .val (.long br_126), .second, .unset, .unset, .val (.int (1 : Int32)), .unset, .unset] [(.int (1 : Int32))])) rfl (by rw [hml]; rfl) (argsL := [(.int (1 : Int32))]) (rest := []) (lenOf own_pd6 rfl) rfl (by show 2 * 0 + _ ≤ _; exact Nat.le_of_eq rfl) (hb hby at_289) (fun _ _ => ⟨rfl, eh126, (by decide : 1 + 0 ≤ _), (by decide : 3 + 0 ≤ _)⟩)
          dsimp only [Pt.U, Pt.locs, Pt.cells, Pt.slots] at X127 l127 y127 z127 st127 hQ127
          subst l127 y127 z127
          obtain ⟨rfl, N127q, eh127⟩ := hQ127
          have N127 := Fr.app N126 N127q
          refine Goes.go st127 ?_
          show Goes p e below s _ _ _ T127 (mkF m 292 #[.val (.int x0), .val (.long x1), .second, .val (.long x2), .second, .val (.long x3), .second, .val (.int (1 : Int32)), .val (.int (0 : Int32)), .val (.int (1 : Int32)), .val (.int (2 : Int32)), .val (.int (1 : Int32)), .val (.ref b63), .val (.int (2 : Int32)), .val (.long (x3 >>> ((1 : Int32) &&& 0x3f).toInt64)), .second, .val (.long (x2 + (x3 >>> ((1 : Int32) &&& 0x3f).toInt64))), .second, .val (.long br_126), .second, .unset, .unset, .val (.int (1 : Int32)), .unset, .unset] [(.long (100 : Int64))])
          refine Goes.go (X127.ldc2Long hx hown (mvT hZ (hw _ (List.mem_of_getElem? (i := 52) rfl))) (g := (mkF m 292 #[.val (.int x0), .val (.long x1), .second, .val (.long x2), .second, .val (.long x3), .second, .val (.int (1 : Int32)), .val (.int (0 : Int32)), .val (.int (1 : Int32)), .val (.int (2 : Int32)), .val (.int (1 : Int32)), .val (.ref b63), .val (.int (2 : Int32)), .val (.long (x3 >>> ((1 : Int32) &&& 0x3f).toInt64)), .second, .val (.long (x2 + (x3 >>> ((1 : Int32) &&& 0x3f).toInt64))), .second, .val (.long br_126), .second, .unset, .unset, .val (.int (1 : Int32)), .unset, .unset] [(.long (100 : Int64))])) rfl (hb hby at_292)) ?_
          show Goes p e below s _ _ _ T127 (mkF m 295 #[.val (.int x0), .val (.long x1), .second, .val (.long x2), .second, .val (.long x3), .second, .val (.int (1 : Int32)), .val (.int (0 : Int32)), .val (.int (1 : Int32)), .val (.int (2 : Int32)), .val (.int (1 : Int32)), .val (.ref b63), .val (.int (2 : Int32)), .val (.long (x3 >>> ((1 : Int32) &&& 0x3f).toInt64)), .second, .val (.long (x2 + (x3 >>> ((1 : Int32) &&& 0x3f).toInt64))), .second, .val (.long br_126), .second, .unset, .unset, .val (.int (1 : Int32)), .unset, .unset] [(.long (1000000 : Int64)), (.long (100 : Int64))])
          refine own_lmul X127 hx 296 rfl (z := (100000000 : Int64)) (hb hby at_295) (by decide) ?_
          refine own_lstore X127 hx 298 rfl #[.val (.int x0), .val (.long x1), .second, .val (.long x2), .second, .val (.long x3), .second, .val (.int (1 : Int32)), .val (.int (0 : Int32)), .val (.int (1 : Int32)), .val (.int (2 : Int32)), .val (.int (1 : Int32)), .val (.ref b63), .val (.int (2 : Int32)), .val (.long (x3 >>> ((1 : Int32) &&& 0x3f).toInt64)), .second, .val (.long (x2 + (x3 >>> ((1 : Int32) &&& 0x3f).toInt64))), .second, .val (.long br_126), .second, .unset, .unset, .val (.int (1 : Int32)), .val (.long (100000000 : Int64)), .second] (hb hby at_296) rfl ?_
          refine own_lload X127 hx 300 rfl (hb hby at_298) rfl ?_
          refine own_lload X127 hx 302 rfl (hb hby at_300) rfl ?_
          refine own_lcmp X127 hx 303 rfl (hb hby at_302) ?_
          by_cases hc303_128 : (x3 >>> ((1 : Int32) &&& 0x3f).toInt64) < (100000000 : Int64)
          · refine own_ifY X127 hx 310 (hb hby at_303) (Ltlt hc303_128).1 (by decide) (by decide) ?_
            refine own_lload X127 hx 312 rfl (hb hby at_310) rfl ?_
            refine own_lload X127 hx 314 rfl (hb hby at_312) rfl ?_
            refine own_lsub X127 hx 315 rfl (hb hby at_314) rfl ?_
            refine own_lstore X127 hx 317 rfl #[.val (.int x0), .val (.long x1), .second, .val (.long x2), .second, .val (.long x3), .second, .val (.int (1 : Int32)), .val (.int (0 : Int32)), .val (.int (1 : Int32)), .val (.int (2 : Int32)), .val (.int (1 : Int32)), .val (.ref b63), .val (.int (2 : Int32)), .val (.long (x3 >>> ((1 : Int32) &&& 0x3f).toInt64)), .second, .val (.long (x2 + (x3 >>> ((1 : Int32) &&& 0x3f).toInt64))), .second, .val (.long br_126), .second, .val (.long ((100000000 : Int64) - (x3 >>> ((1 : Int32) &&& 0x3f).toInt64))), .second, .val (.int (1 : Int32)), .val (.long (100000000 : Int64)), .second] (hb hby at_315) rfl ?_
            refine own_lload X127 hx 319 rfl (hb hby at_317) rfl ?_
            refine own_lload X127 hx 321 rfl (hb hby at_319) rfl ?_
            refine own_lcmp X127 hx 322 rfl (hb hby at_321) ?_
            refine own_ifN X127 hx 325 (hb hby at_322) (Lteq ((own_fin har hdd (P := (100000000 : Int64)) (by decide) pr126_0).1 hc303_128 : br_126 = ((100000000 : Int64) - (x3 >>> ((1 : Int32) &&& 0x3f).toInt64)))).2 rfl ?_
            refine own_iconst X127 hx 326 rfl (1 : Int32) (hb hby at_325) (by decide) ?_
            refine own_goto X127 hx 330 (hb hby at_326) (by decide) (by decide) ?_
            refine own_retZ X127 hx hlk Bd.returns (by decide) (hb hby at_330) (by decide) (by decide) eh127 ?_
            exact ⟨rfl, N127⟩
          · refine own_ifN X127 hx 306 (hb hby at_303) (Lflt hc303_128).1 rfl ?_
            refine own_lconst X127 hx 307 rfl (0 : Int64) (hb hby at_306) (by decide) ?_
            refine own_goto X127 hx 315 (hb hby at_307) (by decide) (by decide) ?_
            refine own_lstore X127 hx 317 rfl #[.val (.int x0), .val (.long x1), .second, .val (.long x2), .second, .val (.long x3), .second, .val (.int (1 : Int32)), .val (.int (0 : Int32)), .val (.int (1 : Int32)), .val (.int (2 : Int32)), .val (.int (1 : Int32)), .val (.ref b63), .val (.int (2 : Int32)), .val (.long (x3 >>> ((1 : Int32) &&& 0x3f).toInt64)), .second, .val (.long (x2 + (x3 >>> ((1 : Int32) &&& 0x3f).toInt64))), .second, .val (.long br_126), .second, .val (.long (0 : Int64)), .second, .val (.int (1 : Int32)), .val (.long (100000000 : Int64)), .second] (hb hby at_315) rfl ?_
            refine own_lload X127 hx 319 rfl (hb hby at_317) rfl ?_
            refine own_lload X127 hx 321 rfl (hb hby at_319) rfl ?_
            refine own_lcmp X127 hx 322 rfl (hb hby at_321) ?_
            refine own_ifN X127 hx 325 (hb hby at_322) (Lteq ((own_fin har hdd (P := (100000000 : Int64)) (by decide) pr126_0).2 hc303_128 : br_126 = (0 : Int64))).2 rfl ?_
            refine own_iconst X127 hx 326 rfl (1 : Int32) (hb hby at_325) (by decide) ?_
            refine own_goto X127 hx 330 (hb hby at_326) (by decide) (by decide) ?_
            refine own_retZ X127 hx hlk Bd.returns (by decide) (hb hby at_330) (by decide) (by decide) eh127 ?_
            exact ⟨rfl, N127⟩
      · refine own_ifY X71 hx 122 (hb hby at_102) ((if0 _ _).trans (flt hc102_75).2.2.2) (by decide) (by decide) ?_
        refine own_iload X71 hx 124 rfl (hb hby at_122) rfl ?_
        refine own_iconst X71 hx 125 rfl (1 : Int32) (hb hby at_124) (by decide) ?_
        refine own_icmpY X71 hx 145 (hb hby at_125) (flt (own_down hc102_75 (by decide) : ¬ ((1 : Int32) < ff))).2.2.2 (by decide) (by decide) ?_
        refine own_iload X71 hx 147 rfl (hb hby at_145) rfl ?_
        refine own_iconst X71 hx 148 rfl (2 : Int32) (hb hby at_147) (by decide) ?_
        refine own_icmpY X71 hx 168 (hb hby at_148) (flt (own_down hc102_75 (by decide) : ¬ ((2 : Int32) < ff))).2.2.2 (by decide) (by decide) ?_
        refine own_iload X71 hx 170 rfl (hb hby at_168) rfl ?_
        refine own_iconst X71 hx 171 rfl (3 : Int32) (hb hby at_170) (by decide) ?_
        refine own_icmpY X71 hx 191 (hb hby at_171) (flt (own_down hc102_75 (by decide) : ¬ ((3 : Int32) < ff))).2.2.2 (by decide) (by decide) ?_
        refine own_iload X71 hx 193 rfl (hb hby at_191) rfl ?_
        refine own_iconst X71 hx 194 rfl (4 : Int32) (hb hby at_193) (by decide) ?_
        refine own_icmpY X71 hx 214 (hb hby at_194) (flt (own_down hc102_75 (by decide) : ¬ ((4 : Int32) < ff))).2.2.2 (by decide) (by decide) ?_
        refine own_iload X71 hx 216 rfl (hb hby at_214) rfl ?_
        refine own_iconst X71 hx 217 rfl (5 : Int32) (hb hby at_216) (by decide) ?_
        refine own_icmpY X71 hx 237 (hb hby at_217) (flt (own_down hc102_75 (by decide) : ¬ ((5 : Int32) < ff))).2.2.2 (by decide) (by decide) ?_
        have hfl := hff.1
        have hfh := own_le (k := 0) (by decide) hc102_75
        obtain rfl : ff = (0 : Int32) := own_pin (k := 0) (by decide) (by omega)
        obtain rfl : tot = (1 : Int32) := by rw [h_tot]; decide
        obtain rfl : lst = (0 : Int32) := by rw [h_lst]; decide
        have hdd := own_sh x3 _ rfl
        have har : ar_70 = x2 := own_atE pr70_0 (by decide)
        refine own_lload X71 hx 239 rfl (hb hby at_237) rfl ?_
        refine own_iconst X71 hx 240 rfl (1 : Int32) (hb hby at_239) (by decide) ?_
        refine own_lshr X71 hx 241 rfl (hb hby at_240) rfl ?_
        refine own_lstore X71 hx 243 rfl #[.val (.int x0), .val (.long x1), .second, .val (.long x2), .second, .val (.long x3), .second, .val (.int (0 : Int32)), .val (.int (0 : Int32)), .val (.int (1 : Int32)), .val (.int (1 : Int32)), .val (.int (0 : Int32)), .val (.ref b63), .val (.int (1 : Int32)), .val (.long (x3 >>> ((1 : Int32) &&& 0x3f).toInt64)), .second, .unset, .unset, .unset, .unset, .unset, .unset, .unset, .unset, .unset] (hb hby at_241) rfl ?_
        refine own_lloadN X71 hx 244 rfl (hb hby at_243) rfl ?_
        refine own_lload X71 hx 246 rfl (hb hby at_244) rfl ?_
        refine own_ladd X71 hx 247 rfl (hb hby at_246) rfl ?_
        refine own_lstore X71 hx 249 rfl #[.val (.int x0), .val (.long x1), .second, .val (.long x2), .second, .val (.long x3), .second, .val (.int (0 : Int32)), .val (.int (0 : Int32)), .val (.int (1 : Int32)), .val (.int (1 : Int32)), .val (.int (0 : Int32)), .val (.ref b63), .val (.int (1 : Int32)), .val (.long (x3 >>> ((1 : Int32) &&& 0x3f).toInt64)), .second, .val (.long (x2 + (x3 >>> ((1 : Int32) &&& 0x3f).toInt64))), .second, .unset, .unset, .unset, .unset, .unset, .unset, .unset] (hb hby at_247) rfl ?_
        refine own_aload X71 hx 251 rfl (hb hby at_249) rfl rfl ?_
        refine own_lload X71 hx 253 rfl (hb hby at_251) rfl ?_
        obtain ⟨cq129, kq129, q129a, q129b, q129c⟩ := isOf hZ rfl f74
        obtain ⟨_, _, ⟨T129, L129, k129, n129⟩, -, X129, ⟨Lc129, hQ129, l129, y129, z129⟩, st129⟩ := X71.virtualBack hx (y := (⟨"com/example/pooler/pooler/pool/Backoff", "delay", "(J)J"⟩ : MethodName)) (z := (⟨"com/example/pooler/pooler/pool/Backoff", "delay", "(J)J"⟩ : MethodName)) hown (mvT hZ (hw _ (List.mem_of_getElem? (i := 9) rfl))) (mvT hZ (hw _ (List.mem_of_getElem? (i := 10) rfl))) (notFace_of_selects (args := #[]) (mvT hZ (hw _ (List.mem_of_getElem? (i := 12) rfl)))) (mvT hZ (hw _ (List.mem_of_getElem? (i := 12) rfl))) (mvT hZ (hw _ (List.mem_of_getElem? (i := 11) rfl))) (by decide) (backOf (W := 0) (rmde0 l Z a0 hw [] b63 (x2 + (x3 >>> ((1 : Int32) &&& 0x3f).toInt64)) ar_70 T71.heap n0 Z71 f74 f72 f73 f71_0 f71_1 f71_2) hZ (hw _ (List.mem_of_getElem? (i := 13) rfl)) (hw _ (List.mem_of_getElem? (i := 2) rfl)) (by decide) (by decide)) q129a q129c (g := (mkF m 253 #[.val (.int x0), .val (.long x1), .second, .val (.long x2), .second, .val (.long x3), .second, .val (.int (0 : Int32)), .val (.int (0 : Int32)), .val (.int (1 : Int32)), .val (.int (1 : Int32)), .val (.int (0 : Int32)), .val (.ref b63), .val (.int (1 : Int32)), .val (.long (x3 >>> ((1 : Int32) &&& 0x3f).toInt64)), .second, .val (.long (x2 + (x3 >>> ((1 : Int32) &&& 0x3f).toInt64))), .second, .unset, .unset, .unset, .unset, .unset, .unset, .unset] [(.long (x2 + (x3 >>> ((1 : Int32) &&& 0x3f).toInt64))), (.ref b63)])) rfl (by rw [hml]; rfl) (Steps.refl _) (argsL := [(.long (x2 + (x3 >>> ((1 : Int32) &&& 0x3f).toInt64)))]) (rest := []) (lenOf own_pd5 rfl) rfl (by show 2 * 0 + _ ≤ _; exact Nat.le_of_eq rfl) (hb hby at_253) (fun _ _ => ⟨rfl, rfl, (by decide : 1 + 0 ≤ _), (by decide : 3 + 0 ≤ _)⟩)
        dsimp only [Pt.U, Pt.locs, Pt.cells, Pt.slots] at X129 l129 y129 z129 st129 hQ129
        subst l129 y129 z129
        obtain ⟨br_129, rfl, N129q, eh129, pr129_0⟩ := hQ129
        have N129 := Fr.app N71 N129q
        refine Goes.tr st129 ?_
        show Goes p e below s _ _ _ T129 (mkF m 256 #[.val (.int x0), .val (.long x1), .second, .val (.long x2), .second, .val (.long x3), .second, .val (.int (0 : Int32)), .val (.int (0 : Int32)), .val (.int (1 : Int32)), .val (.int (1 : Int32)), .val (.int (0 : Int32)), .val (.ref b63), .val (.int (1 : Int32)), .val (.long (x3 >>> ((1 : Int32) &&& 0x3f).toInt64)), .second, .val (.long (x2 + (x3 >>> ((1 : Int32) &&& 0x3f).toInt64))), .second, .unset, .unset, .unset, .unset, .unset, .unset, .unset] [(.long br_129)])
        refine own_lstore X129 hx 258 rfl #[.val (.int x0), .val (.long x1), .second, .val (.long x2), .second, .val (.long x3), .second, .val (.int (0 : Int32)), .val (.int (0 : Int32)), .val (.int (1 : Int32)), .val (.int (1 : Int32)), .val (.int (0 : Int32)), .val (.ref b63), .val (.int (1 : Int32)), .val (.long (x3 >>> ((1 : Int32) &&& 0x3f).toInt64)), .second, .val (.long (x2 + (x3 >>> ((1 : Int32) &&& 0x3f).toInt64))), .second, .val (.long br_129), .second, .unset, .unset, .unset, .unset, .unset] (hb hby at_256) rfl ?_
        refine own_iload X129 hx 260 rfl (hb hby at_258) rfl ?_
        refine own_ifY X129 hx 269 (hb hby at_260) ((if0 _ _).trans (feq ((by decide) : ¬ ((1 : Int32) = (0 : Int32)))).2) (by decide) (by decide) ?_
        refine own_iload X129 hx 271 rfl (hb hby at_269) rfl ?_
        refine own_iconst X129 hx 272 rfl (1 : Int32) (hb hby at_271) (by decide) ?_
        refine own_icmpN X129 hx 275 (hb hby at_272) (teq ((by decide) : (1 : Int32) = (1 : Int32))).2 rfl ?_
        refine own_iload X129 hx 277 rfl (hb hby at_275) rfl ?_
        refine own_goto X129 hx 285 (hb hby at_277) (by decide) (by decide) ?_
        refine own_istore X129 hx 287 rfl #[.val (.int x0), .val (.long x1), .second, .val (.long x2), .second, .val (.long x3), .second, .val (.int (0 : Int32)), .val (.int (0 : Int32)), .val (.int (1 : Int32)), .val (.int (1 : Int32)), .val (.int (0 : Int32)), .val (.ref b63), .val (.int (1 : Int32)), .val (.long (x3 >>> ((1 : Int32) &&& 0x3f).toInt64)), .second, .val (.long (x2 + (x3 >>> ((1 : Int32) &&& 0x3f).toInt64))), .second, .val (.long br_129), .second, .unset, .unset, .val (.int (0 : Int32)), .unset, .unset] (hb hby at_285) rfl ?_
        refine own_iload X129 hx 289 rfl (hb hby at_287) rfl ?_
        obtain ⟨_, _, ⟨T130, L130, k130, n130⟩, -, X130, ⟨Lc130, hQ130, l130, y130, z130⟩, st130⟩ := Jvm.LawKit.callS X129 hx (y := (⟨"com/example/pooler/pooler/pool/BackoffDelayPinLaw", "pauseMs", "(I)J"⟩ : MethodName)) hown (mvT hZ (hw _ (List.mem_of_getElem? (i := 48) rfl))) (mvT hZ (hw _ (List.mem_of_getElem? (i := 49) rfl))) (mvT hZ (hw _ (List.mem_of_getElem? (i := 18) rfl))) (mvT hZ (hw _ (List.mem_of_getElem? (i := 50) rfl))) (by decide) (backOf (W := 0) (rmpm0 l Z a0 hw []  T71.heap n0 Z71 ) hZ (hw _ (List.mem_of_getElem? (i := 50) rfl)) (hw _ (List.mem_of_getElem? (i := 18) rfl)) (by decide) (by decide)) (g := (mkF m 289 #[.val (.int x0), .val (.long x1), .second, .val (.long x2), .second, .val (.long x3), .second, .val (.int (0 : Int32)), .val (.int (0 : Int32)), .val (.int (1 : Int32)), .val (.int (1 : Int32)), .val (.int (0 : Int32)), .val (.ref b63), .val (.int (1 : Int32)), .val (.long (x3 >>> ((1 : Int32) &&& 0x3f).toInt64)), .second, .val (.long (x2 + (x3 >>> ((1 : Int32) &&& 0x3f).toInt64))), .second, .val (.long br_129), .second, .unset, .unset, .val (.int (0 : Int32)), .unset, .unset] [(.int (0 : Int32))])) rfl (by rw [hml]; rfl) (argsL := [(.int (0 : Int32))]) (rest := []) (lenOf own_pd6 rfl) rfl (by show 2 * 0 + _ ≤ _; exact Nat.le_of_eq rfl) (hb hby at_289) (fun _ _ => ⟨rfl, eh129, (by decide : 1 + 0 ≤ _), (by decide : 3 + 0 ≤ _)⟩)
        dsimp only [Pt.U, Pt.locs, Pt.cells, Pt.slots] at X130 l130 y130 z130 st130 hQ130
        subst l130 y130 z130
        obtain ⟨rfl, N130q, eh130⟩ := hQ130
        have N130 := Fr.app N129 N130q
        refine Goes.go st130 ?_
        show Goes p e below s _ _ _ T130 (mkF m 292 #[.val (.int x0), .val (.long x1), .second, .val (.long x2), .second, .val (.long x3), .second, .val (.int (0 : Int32)), .val (.int (0 : Int32)), .val (.int (1 : Int32)), .val (.int (1 : Int32)), .val (.int (0 : Int32)), .val (.ref b63), .val (.int (1 : Int32)), .val (.long (x3 >>> ((1 : Int32) &&& 0x3f).toInt64)), .second, .val (.long (x2 + (x3 >>> ((1 : Int32) &&& 0x3f).toInt64))), .second, .val (.long br_129), .second, .unset, .unset, .val (.int (0 : Int32)), .unset, .unset] [(.long (100 : Int64))])
        refine Goes.go (X130.ldc2Long hx hown (mvT hZ (hw _ (List.mem_of_getElem? (i := 52) rfl))) (g := (mkF m 292 #[.val (.int x0), .val (.long x1), .second, .val (.long x2), .second, .val (.long x3), .second, .val (.int (0 : Int32)), .val (.int (0 : Int32)), .val (.int (1 : Int32)), .val (.int (1 : Int32)), .val (.int (0 : Int32)), .val (.ref b63), .val (.int (1 : Int32)), .val (.long (x3 >>> ((1 : Int32) &&& 0x3f).toInt64)), .second, .val (.long (x2 + (x3 >>> ((1 : Int32) &&& 0x3f).toInt64))), .second, .val (.long br_129), .second, .unset, .unset, .val (.int (0 : Int32)), .unset, .unset] [(.long (100 : Int64))])) rfl (hb hby at_292)) ?_
        show Goes p e below s _ _ _ T130 (mkF m 295 #[.val (.int x0), .val (.long x1), .second, .val (.long x2), .second, .val (.long x3), .second, .val (.int (0 : Int32)), .val (.int (0 : Int32)), .val (.int (1 : Int32)), .val (.int (1 : Int32)), .val (.int (0 : Int32)), .val (.ref b63), .val (.int (1 : Int32)), .val (.long (x3 >>> ((1 : Int32) &&& 0x3f).toInt64)), .second, .val (.long (x2 + (x3 >>> ((1 : Int32) &&& 0x3f).toInt64))), .second, .val (.long br_129), .second, .unset, .unset, .val (.int (0 : Int32)), .unset, .unset] [(.long (1000000 : Int64)), (.long (100 : Int64))])
        refine own_lmul X130 hx 296 rfl (z := (100000000 : Int64)) (hb hby at_295) (by decide) ?_
        refine own_lstore X130 hx 298 rfl #[.val (.int x0), .val (.long x1), .second, .val (.long x2), .second, .val (.long x3), .second, .val (.int (0 : Int32)), .val (.int (0 : Int32)), .val (.int (1 : Int32)), .val (.int (1 : Int32)), .val (.int (0 : Int32)), .val (.ref b63), .val (.int (1 : Int32)), .val (.long (x3 >>> ((1 : Int32) &&& 0x3f).toInt64)), .second, .val (.long (x2 + (x3 >>> ((1 : Int32) &&& 0x3f).toInt64))), .second, .val (.long br_129), .second, .unset, .unset, .val (.int (0 : Int32)), .val (.long (100000000 : Int64)), .second] (hb hby at_296) rfl ?_
        refine own_lload X130 hx 300 rfl (hb hby at_298) rfl ?_
        refine own_lload X130 hx 302 rfl (hb hby at_300) rfl ?_
        refine own_lcmp X130 hx 303 rfl (hb hby at_302) ?_
        by_cases hc303_131 : (x3 >>> ((1 : Int32) &&& 0x3f).toInt64) < (100000000 : Int64)
        · refine own_ifY X130 hx 310 (hb hby at_303) (Ltlt hc303_131).1 (by decide) (by decide) ?_
          refine own_lload X130 hx 312 rfl (hb hby at_310) rfl ?_
          refine own_lload X130 hx 314 rfl (hb hby at_312) rfl ?_
          refine own_lsub X130 hx 315 rfl (hb hby at_314) rfl ?_
          refine own_lstore X130 hx 317 rfl #[.val (.int x0), .val (.long x1), .second, .val (.long x2), .second, .val (.long x3), .second, .val (.int (0 : Int32)), .val (.int (0 : Int32)), .val (.int (1 : Int32)), .val (.int (1 : Int32)), .val (.int (0 : Int32)), .val (.ref b63), .val (.int (1 : Int32)), .val (.long (x3 >>> ((1 : Int32) &&& 0x3f).toInt64)), .second, .val (.long (x2 + (x3 >>> ((1 : Int32) &&& 0x3f).toInt64))), .second, .val (.long br_129), .second, .val (.long ((100000000 : Int64) - (x3 >>> ((1 : Int32) &&& 0x3f).toInt64))), .second, .val (.int (0 : Int32)), .val (.long (100000000 : Int64)), .second] (hb hby at_315) rfl ?_
          refine own_lload X130 hx 319 rfl (hb hby at_317) rfl ?_
          refine own_lload X130 hx 321 rfl (hb hby at_319) rfl ?_
          refine own_lcmp X130 hx 322 rfl (hb hby at_321) ?_
          refine own_ifN X130 hx 325 (hb hby at_322) (Lteq ((own_fin har hdd (P := (100000000 : Int64)) (by decide) pr129_0).1 hc303_131 : br_129 = ((100000000 : Int64) - (x3 >>> ((1 : Int32) &&& 0x3f).toInt64)))).2 rfl ?_
          refine own_iconst X130 hx 326 rfl (1 : Int32) (hb hby at_325) (by decide) ?_
          refine own_goto X130 hx 330 (hb hby at_326) (by decide) (by decide) ?_
          refine own_retZ X130 hx hlk Bd.returns (by decide) (hb hby at_330) (by decide) (by decide) eh130 ?_
          exact ⟨rfl, N130⟩
        · refine own_ifN X130 hx 306 (hb hby at_303) (Lflt hc303_131).1 rfl ?_
          refine own_lconst X130 hx 307 rfl (0 : Int64) (hb hby at_306) (by decide) ?_
          refine own_goto X130 hx 315 (hb hby at_307) (by decide) (by decide) ?_
          refine own_lstore X130 hx 317 rfl #[.val (.int x0), .val (.long x1), .second, .val (.long x2), .second, .val (.long x3), .second, .val (.int (0 : Int32)), .val (.int (0 : Int32)), .val (.int (1 : Int32)), .val (.int (1 : Int32)), .val (.int (0 : Int32)), .val (.ref b63), .val (.int (1 : Int32)), .val (.long (x3 >>> ((1 : Int32) &&& 0x3f).toInt64)), .second, .val (.long (x2 + (x3 >>> ((1 : Int32) &&& 0x3f).toInt64))), .second, .val (.long br_129), .second, .val (.long (0 : Int64)), .second, .val (.int (0 : Int32)), .val (.long (100000000 : Int64)), .second] (hb hby at_315) rfl ?_
          refine own_lload X130 hx 319 rfl (hb hby at_317) rfl ?_
          refine own_lload X130 hx 321 rfl (hb hby at_319) rfl ?_
          refine own_lcmp X130 hx 322 rfl (hb hby at_321) ?_
          refine own_ifN X130 hx 325 (hb hby at_322) (Lteq ((own_fin har hdd (P := (100000000 : Int64)) (by decide) pr129_0).2 hc303_131 : br_129 = (0 : Int64))).2 rfl ?_
          refine own_iconst X130 hx 326 rfl (1 : Int32) (hb hby at_325) (by decide) ?_
          refine own_goto X130 hx 330 (hb hby at_326) (by decide) (by decide) ?_
          refine own_retZ X130 hx hlk Bd.returns (by decide) (hb hby at_330) (by decide) (by decide) eh130 ?_
          exact ⟨rfl, N130⟩
  · refine own_iload X0 hx 28 rfl (hb hby at_26) rfl ?_
    rcases hoo with rfl | rfl
    · refine own_iload X0 hx 30 rfl (hb hby at_28) rfl ?_
      refine own_iadd X0 hx 31 rfl (z := (1 : Int32)) (hb hby at_30) (by decide) ?_
      refine own_iload X0 hx 33 rfl (hb hby at_31) rfl ?_
      obtain ⟨tot, h_tot⟩ : ∃ z, z = ((1 : Int32) + ff) := ⟨_, rfl⟩
      refine own_iadd X0 hx 34 rfl (hb hby at_33) h_tot.symm ?_
      refine own_istore X0 hx 36 rfl #[.val (.int x0), .val (.long x1), .second, .val (.long x2), .second, .val (.long x3), .second, .val (.int ff), .val (.int (1 : Int32)), .val (.int (0 : Int32)), .val (.int tot), .unset, .unset, .unset, .unset, .unset, .unset, .unset, .unset, .unset, .unset, .unset, .unset, .unset, .unset] (hb hby at_34) rfl ?_
      refine own_iload X0 hx 38 rfl (hb hby at_36) rfl ?_
      refine own_iconst X0 hx 39 rfl (1 : Int32) (hb hby at_38) (by decide) ?_
      obtain ⟨lst, h_lst⟩ : ∃ z, z = (tot - (1 : Int32)) := ⟨_, rfl⟩
      refine own_isub X0 hx 40 rfl (hb hby at_39) h_lst.symm ?_
      refine own_istore X0 hx 42 rfl #[.val (.int x0), .val (.long x1), .second, .val (.long x2), .second, .val (.long x3), .second, .val (.int ff), .val (.int (1 : Int32)), .val (.int (0 : Int32)), .val (.int tot), .val (.int lst), .unset, .unset, .unset, .unset, .unset, .unset, .unset, .unset, .unset, .unset, .unset, .unset, .unset] (hb hby at_40) rfl ?_
      obtain ⟨T132, h132, X132, e132, E132, A132, D132, -, st132⟩ := newO X0 hx hZ hown (hw _ (List.mem_of_getElem? (i := 0) rfl)) (hw _ (List.mem_of_getElem? (i := 1) rfl)) (hw _ (List.mem_of_getElem? (i := 2) rfl)) e0 (g := (mkF m 42 #[.val (.int x0), .val (.long x1), .second, .val (.long x2), .second, .val (.long x3), .second, .val (.int ff), .val (.int (1 : Int32)), .val (.int (0 : Int32)), .val (.int tot), .val (.int lst), .unset, .unset, .unset, .unset, .unset, .unset, .unset, .unset, .unset, .unset, .unset, .unset, .unset] [])) rfl (hb hby at_42) (by decide) (by decide)
      obtain ⟨b132, g132⟩ : ∃ z, z = h0.size := ⟨_, rfl⟩
      rw [← g132] at A132 D132 st132
      have G132 : n0 ≤ b132 := Nat.le_trans Z0 (Nat.le_of_eq g132.symm)
      have H132 : h0.size ≤ b132 := Nat.le_trans K0.1 (Nat.le_of_eq g132.symm)
      have f133 := S_y_SHORTEST.ext E132
      have f134 := S_y_LONGEST.ext E132
      have K132 := K0.ext E132
      have Z132 := Nat.le_trans Z0 E132.1
      have f135 : Fld Z h132 b132 "com/example/pooler/pooler/pool/Backoff" "tried" "Z" (.int (0 : Int32)) := D132 (Or.inl (hw _ (List.mem_of_getElem? (i := 15) rfl))) (ty := .boolean) (by decide)
      have f136 : Fld Z h132 b132 "com/example/pooler/pooler/pool/Backoff" "endedAt" "J" (.long (0 : Int64)) := D132 (Or.inl (hw _ (List.mem_of_getElem? (i := 30) rfl))) (ty := .long) (by decide)
      have f137 : Fld Z h132 b132 "com/example/pooler/pooler/pool/Backoff" "failuresInARow" "I" (.int (0 : Int32)) := D132 (Or.inl (hw _ (List.mem_of_getElem? (i := 32) rfl))) (ty := .int) (by decide)
      refine Goes.go st132 ?_
      show Goes p e below s _ _ _ T132 (mkF m 45 #[.val (.int x0), .val (.long x1), .second, .val (.long x2), .second, .val (.long x3), .second, .val (.int ff), .val (.int (1 : Int32)), .val (.int (0 : Int32)), .val (.int tot), .val (.int lst), .unset, .unset, .unset, .unset, .unset, .unset, .unset, .unset, .unset, .unset, .unset, .unset, .unset] [(.ref b132)])
      refine own_dup X132 hx 46 rfl (hb hby at_45) rfl ?_
      obtain ⟨_, _, ⟨T138, L138, k138, n138⟩, -, X138, ⟨Lc138, hQ138, l138, y138, z138⟩, st138⟩ := X132.specialBack hx (y := (⟨"com/example/pooler/pooler/pool/Backoff", "<init>", "()V"⟩ : MethodName)) rfl hown (mvT hZ (hw _ (List.mem_of_getElem? (i := 3) rfl))) (mvT hZ (hw _ (List.mem_of_getElem? (i := 4) rfl))) (mvT hZ (hw _ (List.mem_of_getElem? (i := 5) rfl))) (by decide) (backOf (W := 1) (rm1 l Z a0 hw [] b132 h132 n0 Z132 ) hZ (hw _ (List.mem_of_getElem? (i := 5) rfl)) (hw _ (List.mem_of_getElem? (i := 2) rfl)) (by decide) (by decide)) (g := (mkF m 46 #[.val (.int x0), .val (.long x1), .second, .val (.long x2), .second, .val (.long x3), .second, .val (.int ff), .val (.int (1 : Int32)), .val (.int (0 : Int32)), .val (.int tot), .val (.int lst), .unset, .unset, .unset, .unset, .unset, .unset, .unset, .unset, .unset, .unset, .unset, .unset, .unset] [(.ref b132), (.ref b132)])) rfl (by rw [hml]; rfl) (Steps.refl _) (a := b132) (argsL := []) (rest := [(.ref b132)]) (lenOf own_pd3 rfl) rfl (by show 2 * 0 + _ ≤ _; exact Nat.le_of_eq rfl) (hb hby at_46) (fun _ _ => ⟨rfl, e132, (by decide : 1 + 0 ≤ _), (by decide : 3 + 0 ≤ _)⟩)
      dsimp only [Pt.U, Pt.locs, Pt.cells, Pt.slots] at X138 l138 y138 z138 st138 hQ138
      subst l138 y138 z138
      obtain ⟨rfl, N138q, eh138⟩ := hQ138
      have N138 := Fr.app N0 N138q
      refine Goes.tr st138 ?_
      show Goes p e below s _ _ _ T138 (mkF m 49 #[.val (.int x0), .val (.long x1), .second, .val (.long x2), .second, .val (.long x3), .second, .val (.int ff), .val (.int (1 : Int32)), .val (.int (0 : Int32)), .val (.int tot), .val (.int lst), .unset, .unset, .unset, .unset, .unset, .unset, .unset, .unset, .unset, .unset, .unset, .unset, .unset] [(.ref b132)])
      refine own_astore X138 hx 51 rfl #[.val (.int x0), .val (.long x1), .second, .val (.long x2), .second, .val (.long x3), .second, .val (.int ff), .val (.int (1 : Int32)), .val (.int (0 : Int32)), .val (.int tot), .val (.int lst), .val (.ref b132), .unset, .unset, .unset, .unset, .unset, .unset, .unset, .unset, .unset, .unset, .unset, .unset] (hb hby at_49) rfl rfl ?_
      refine own_iconst X138 hx 52 rfl (0 : Int32) (hb hby at_51) (by decide) ?_
      refine own_istore X138 hx 54 rfl #[.val (.int x0), .val (.long x1), .second, .val (.long x2), .second, .val (.long x3), .second, .val (.int ff), .val (.int (1 : Int32)), .val (.int (0 : Int32)), .val (.int tot), .val (.int lst), .val (.ref b132), .val (.int (0 : Int32)), .unset, .unset, .unset, .unset, .unset, .unset, .unset, .unset, .unset, .unset, .unset] (hb hby at_52) rfl ?_
      refine own_iload X138 hx 56 rfl (hb hby at_54) rfl ?_
      refine own_iconst X138 hx 57 rfl (1 : Int32) (hb hby at_56) (by decide) ?_
      refine own_icmpN X138 hx 60 (hb hby at_57) (teq ((by decide) : (1 : Int32) = (1 : Int32))).2 rfl ?_
      refine own_aload X138 hx 62 rfl (hb hby at_60) rfl rfl ?_
      refine own_iload X138 hx 64 rfl (hb hby at_62) rfl ?_
      refine own_iload X138 hx 66 rfl (hb hby at_64) rfl ?_
      refine own_lloadN X138 hx 67 rfl (hb hby at_66) rfl ?_
      refine own_lloadN X138 hx 68 rfl (hb hby at_67) rfl ?_
      obtain ⟨_, _, ⟨T139, L139, k139, n139⟩, -, X139, ⟨Lc139, hQ139, l139, y139, z139⟩, st139⟩ := Jvm.LawKit.callS X138 hx (y := (⟨"com/example/pooler/pooler/pool/BackoffDelayPinLaw", "at", "(IIJJ)J"⟩ : MethodName)) hown (mvT hZ (hw _ (List.mem_of_getElem? (i := 16) rfl))) (mvT hZ (hw _ (List.mem_of_getElem? (i := 17) rfl))) (mvT hZ (hw _ (List.mem_of_getElem? (i := 18) rfl))) (mvT hZ (hw _ (List.mem_of_getElem? (i := 19) rfl))) (by decide) (backOf (W := 1) (rm4 l Z a0 hw [] (0 : Int32) lst x1 x2 h132 n0 Z132 ) hZ (hw _ (List.mem_of_getElem? (i := 19) rfl)) (hw _ (List.mem_of_getElem? (i := 18) rfl)) (by decide) (by decide)) (g := (mkF m 68 #[.val (.int x0), .val (.long x1), .second, .val (.long x2), .second, .val (.long x3), .second, .val (.int ff), .val (.int (1 : Int32)), .val (.int (0 : Int32)), .val (.int tot), .val (.int lst), .val (.ref b132), .val (.int (0 : Int32)), .unset, .unset, .unset, .unset, .unset, .unset, .unset, .unset, .unset, .unset, .unset] [(.long x2), (.long x1), (.int lst), (.int (0 : Int32)), (.ref b132)])) rfl (by rw [hml]; rfl) (argsL := [(.int (0 : Int32)), (.int lst), (.long x1), (.long x2)]) (rest := [(.ref b132)]) (lenOf own_pd4 rfl) rfl (by show 2 * 0 + _ ≤ _; exact Nat.le_of_eq rfl) (hb hby at_68) (fun _ _ => ⟨rfl, eh138, (by decide : 1 + 0 ≤ _), (by decide : 3 + 0 ≤ _)⟩)
      dsimp only [Pt.U, Pt.locs, Pt.cells, Pt.slots] at X139 l139 y139 z139 st139 hQ139
      subst l139 y139 z139
      obtain ⟨ar_139, rfl, N139q, eh139, pr139_0⟩ := hQ139
      have N139 := Fr.app N138 N139q
      refine Goes.go st139 ?_
      show Goes p e below s _ _ _ T139 (mkF m 71 #[.val (.int x0), .val (.long x1), .second, .val (.long x2), .second, .val (.long x3), .second, .val (.int ff), .val (.int (1 : Int32)), .val (.int (0 : Int32)), .val (.int tot), .val (.int lst), .val (.ref b132), .val (.int (0 : Int32)), .unset, .unset, .unset, .unset, .unset, .unset, .unset, .unset, .unset, .unset, .unset] [(.long ar_139), (.ref b132)])
      obtain ⟨cq140, kq140, q140a, q140b, q140c⟩ := isOf hZ eh139 A132
      obtain ⟨_, _, ⟨T140, L140, k140, n140⟩, -, X140, ⟨Lc140, hQ140, l140, y140, z140⟩, st140⟩ := X139.virtualBack hx (y := (⟨"com/example/pooler/pooler/pool/Backoff", "failed", "(J)V"⟩ : MethodName)) (z := (⟨"com/example/pooler/pooler/pool/Backoff", "failed", "(J)V"⟩ : MethodName)) hown (mvT hZ (hw _ (List.mem_of_getElem? (i := 20) rfl))) (mvT hZ (hw _ (List.mem_of_getElem? (i := 21) rfl))) (notFace_of_selects (args := #[]) (mvT hZ (hw _ (List.mem_of_getElem? (i := 23) rfl)))) (mvT hZ (hw _ (List.mem_of_getElem? (i := 23) rfl))) (mvT hZ (hw _ (List.mem_of_getElem? (i := 22) rfl))) (by decide) (backOf (W := 0) (rmfa0 l Z a0 hw [] b132 ar_139 (0 : Int32) (0 : Int64) h132 n0 Z132 A132 G132 f135 f136 f137) hZ (hw _ (List.mem_of_getElem? (i := 24) rfl)) (hw _ (List.mem_of_getElem? (i := 2) rfl)) (by decide) (by decide)) q140a q140c (g := (mkF m 71 #[.val (.int x0), .val (.long x1), .second, .val (.long x2), .second, .val (.long x3), .second, .val (.int ff), .val (.int (1 : Int32)), .val (.int (0 : Int32)), .val (.int tot), .val (.int lst), .val (.ref b132), .val (.int (0 : Int32)), .unset, .unset, .unset, .unset, .unset, .unset, .unset, .unset, .unset, .unset, .unset] [(.long ar_139), (.ref b132)])) rfl (by rw [hml]; rfl) (Steps.refl _) (argsL := [(.long ar_139)]) (rest := []) (lenOf own_pd0 rfl) rfl (by show 2 * 0 + _ ≤ _; exact Nat.le_of_eq rfl) (hb hby at_71) (fun _ _ => ⟨rfl, eh139, (by decide : 1 + 0 ≤ _), (by decide : 3 + 0 ≤ _)⟩)
      dsimp only [Pt.U, Pt.locs, Pt.cells, Pt.slots] at X140 l140 y140 z140 st140 hQ140
      subst l140 y140 z140
      obtain ⟨rfl, N140q, K140q, f140_0, f140_1, f140_2⟩ := hQ140
      have N140 := Fr.app N139 N140q
      have f141 := own_sta_keep f133 K140q (allS (own_eplain A132) all0)
      have f142 := own_sta_keep f134 K140q (allS (own_eplain A132) all0)
      have f143 := A132.keep K140q
      have K140 := K132.trans K140q (allS (Or.inr H132) all0)
      have Z140 := Nat.le_trans Z132 K140q.1
      refine Goes.tr st140 ?_
      show Goes p e below s _ _ _ T140 (mkF m 74 #[.val (.int x0), .val (.long x1), .second, .val (.long x2), .second, .val (.long x3), .second, .val (.int ff), .val (.int (1 : Int32)), .val (.int (0 : Int32)), .val (.int tot), .val (.int lst), .val (.ref b132), .val (.int (0 : Int32)), .unset, .unset, .unset, .unset, .unset, .unset, .unset, .unset, .unset, .unset, .unset] [])
      refine own_iinc X140 hx 77 rfl #[.val (.int x0), .val (.long x1), .second, .val (.long x2), .second, .val (.long x3), .second, .val (.int ff), .val (.int (1 : Int32)), .val (.int (0 : Int32)), .val (.int tot), .val (.int lst), .val (.ref b132), .val (.int (1 : Int32)), .unset, .unset, .unset, .unset, .unset, .unset, .unset, .unset, .unset, .unset, .unset] (hb hby at_74) rfl (by decide) rfl ?_
      refine own_iload X140 hx 79 rfl (hb hby at_77) rfl ?_
      refine own_iconst X140 hx 80 rfl (1 : Int32) (hb hby at_79) (by decide) ?_
      refine own_icmpY X140 hx 100 (hb hby at_80) (feq ((by decide) : ¬ ((0 : Int32) = (1 : Int32)))).2 (by decide) (by decide) ?_
      refine own_iload X140 hx 102 rfl (hb hby at_100) rfl ?_
      by_cases hc102_144 : (0 : Int32) < ff
      · refine own_ifN X140 hx 105 (hb hby at_102) ((if0 _ _).trans (tlt hc102_144).2.2.2) rfl ?_
        refine own_aload X140 hx 107 rfl (hb hby at_105) rfl rfl ?_
        refine own_iload X140 hx 109 rfl (hb hby at_107) rfl ?_
        refine own_iload X140 hx 111 rfl (hb hby at_109) rfl ?_
        refine own_lloadN X140 hx 112 rfl (hb hby at_111) rfl ?_
        refine own_lloadN X140 hx 113 rfl (hb hby at_112) rfl ?_
        obtain ⟨_, _, ⟨T145, L145, k145, n145⟩, -, X145, ⟨Lc145, hQ145, l145, y145, z145⟩, st145⟩ := Jvm.LawKit.callS X140 hx (y := (⟨"com/example/pooler/pooler/pool/BackoffDelayPinLaw", "at", "(IIJJ)J"⟩ : MethodName)) hown (mvT hZ (hw _ (List.mem_of_getElem? (i := 16) rfl))) (mvT hZ (hw _ (List.mem_of_getElem? (i := 17) rfl))) (mvT hZ (hw _ (List.mem_of_getElem? (i := 18) rfl))) (mvT hZ (hw _ (List.mem_of_getElem? (i := 19) rfl))) (by decide) (backOf (W := 1) (rm4 l Z a0 hw [] (1 : Int32) lst x1 x2 T140.heap n0 Z140 ) hZ (hw _ (List.mem_of_getElem? (i := 19) rfl)) (hw _ (List.mem_of_getElem? (i := 18) rfl)) (by decide) (by decide)) (g := (mkF m 113 #[.val (.int x0), .val (.long x1), .second, .val (.long x2), .second, .val (.long x3), .second, .val (.int ff), .val (.int (1 : Int32)), .val (.int (0 : Int32)), .val (.int tot), .val (.int lst), .val (.ref b132), .val (.int (1 : Int32)), .unset, .unset, .unset, .unset, .unset, .unset, .unset, .unset, .unset, .unset, .unset] [(.long x2), (.long x1), (.int lst), (.int (1 : Int32)), (.ref b132)])) rfl (by rw [hml]; rfl) (argsL := [(.int (1 : Int32)), (.int lst), (.long x1), (.long x2)]) (rest := [(.ref b132)]) (lenOf own_pd4 rfl) rfl (by show 2 * 0 + _ ≤ _; exact Nat.le_of_eq rfl) (hb hby at_113) (fun _ _ => ⟨rfl, rfl, (by decide : 1 + 0 ≤ _), (by decide : 3 + 0 ≤ _)⟩)
        dsimp only [Pt.U, Pt.locs, Pt.cells, Pt.slots] at X145 l145 y145 z145 st145 hQ145
        subst l145 y145 z145
        obtain ⟨ar_145, rfl, N145q, eh145, pr145_0⟩ := hQ145
        have N145 := Fr.app N140 N145q
        refine Goes.go st145 ?_
        show Goes p e below s _ _ _ T145 (mkF m 116 #[.val (.int x0), .val (.long x1), .second, .val (.long x2), .second, .val (.long x3), .second, .val (.int ff), .val (.int (1 : Int32)), .val (.int (0 : Int32)), .val (.int tot), .val (.int lst), .val (.ref b132), .val (.int (1 : Int32)), .unset, .unset, .unset, .unset, .unset, .unset, .unset, .unset, .unset, .unset, .unset] [(.long ar_145), (.ref b132)])
        obtain ⟨cq146, kq146, q146a, q146b, q146c⟩ := isOf hZ eh145 f143
        obtain ⟨_, _, ⟨T146, L146, k146, n146⟩, -, X146, ⟨Lc146, hQ146, l146, y146, z146⟩, st146⟩ := X145.virtualBack hx (y := (⟨"com/example/pooler/pooler/pool/Backoff", "failed", "(J)V"⟩ : MethodName)) (z := (⟨"com/example/pooler/pooler/pool/Backoff", "failed", "(J)V"⟩ : MethodName)) hown (mvT hZ (hw _ (List.mem_of_getElem? (i := 20) rfl))) (mvT hZ (hw _ (List.mem_of_getElem? (i := 21) rfl))) (notFace_of_selects (args := #[]) (mvT hZ (hw _ (List.mem_of_getElem? (i := 23) rfl)))) (mvT hZ (hw _ (List.mem_of_getElem? (i := 23) rfl))) (mvT hZ (hw _ (List.mem_of_getElem? (i := 22) rfl))) (by decide) (backOf (W := 0) (rmfa1 l Z a0 hw [] b132 ar_145 (1 : Int32) ar_139 T140.heap n0 Z140 f143 G132 f140_0 f140_1 f140_2) hZ (hw _ (List.mem_of_getElem? (i := 24) rfl)) (hw _ (List.mem_of_getElem? (i := 2) rfl)) (by decide) (by decide)) q146a q146c (g := (mkF m 116 #[.val (.int x0), .val (.long x1), .second, .val (.long x2), .second, .val (.long x3), .second, .val (.int ff), .val (.int (1 : Int32)), .val (.int (0 : Int32)), .val (.int tot), .val (.int lst), .val (.ref b132), .val (.int (1 : Int32)), .unset, .unset, .unset, .unset, .unset, .unset, .unset, .unset, .unset, .unset, .unset] [(.long ar_145), (.ref b132)])) rfl (by rw [hml]; rfl) (Steps.refl _) (argsL := [(.long ar_145)]) (rest := []) (lenOf own_pd0 rfl) rfl (by show 2 * 0 + _ ≤ _; exact Nat.le_of_eq rfl) (hb hby at_116) (fun _ _ => ⟨rfl, eh145, (by decide : 1 + 0 ≤ _), (by decide : 3 + 0 ≤ _)⟩)
        dsimp only [Pt.U, Pt.locs, Pt.cells, Pt.slots] at X146 l146 y146 z146 st146 hQ146
        subst l146 y146 z146
        obtain ⟨rfl, N146q, K146q, f146_0, f146_1, f146_2⟩ := hQ146
        have N146 := Fr.app N145 N146q
        have f147 := own_sta_keep f141 K146q (allS (own_eplain f143) all0)
        have f148 := own_sta_keep f142 K146q (allS (own_eplain f143) all0)
        have f149 := f143.keep K146q
        have K146 := K140.trans K146q (allS (Or.inr H132) all0)
        have Z146 := Nat.le_trans Z140 K146q.1
        refine Goes.tr st146 ?_
        show Goes p e below s _ _ _ T146 (mkF m 119 #[.val (.int x0), .val (.long x1), .second, .val (.long x2), .second, .val (.long x3), .second, .val (.int ff), .val (.int (1 : Int32)), .val (.int (0 : Int32)), .val (.int tot), .val (.int lst), .val (.ref b132), .val (.int (1 : Int32)), .unset, .unset, .unset, .unset, .unset, .unset, .unset, .unset, .unset, .unset, .unset] [])
        refine own_iinc X146 hx 122 rfl #[.val (.int x0), .val (.long x1), .second, .val (.long x2), .second, .val (.long x3), .second, .val (.int ff), .val (.int (1 : Int32)), .val (.int (0 : Int32)), .val (.int tot), .val (.int lst), .val (.ref b132), .val (.int (2 : Int32)), .unset, .unset, .unset, .unset, .unset, .unset, .unset, .unset, .unset, .unset, .unset] (hb hby at_119) rfl (by decide) rfl ?_
        refine own_iload X146 hx 124 rfl (hb hby at_122) rfl ?_
        refine own_iconst X146 hx 125 rfl (1 : Int32) (hb hby at_124) (by decide) ?_
        by_cases hc125_150 : (1 : Int32) < ff
        · refine own_icmpN X146 hx 128 (hb hby at_125) (tlt hc125_150).2.2.2 rfl ?_
          refine own_aload X146 hx 130 rfl (hb hby at_128) rfl rfl ?_
          refine own_iload X146 hx 132 rfl (hb hby at_130) rfl ?_
          refine own_iload X146 hx 134 rfl (hb hby at_132) rfl ?_
          refine own_lloadN X146 hx 135 rfl (hb hby at_134) rfl ?_
          refine own_lloadN X146 hx 136 rfl (hb hby at_135) rfl ?_
          obtain ⟨_, _, ⟨T151, L151, k151, n151⟩, -, X151, ⟨Lc151, hQ151, l151, y151, z151⟩, st151⟩ := Jvm.LawKit.callS X146 hx (y := (⟨"com/example/pooler/pooler/pool/BackoffDelayPinLaw", "at", "(IIJJ)J"⟩ : MethodName)) hown (mvT hZ (hw _ (List.mem_of_getElem? (i := 16) rfl))) (mvT hZ (hw _ (List.mem_of_getElem? (i := 17) rfl))) (mvT hZ (hw _ (List.mem_of_getElem? (i := 18) rfl))) (mvT hZ (hw _ (List.mem_of_getElem? (i := 19) rfl))) (by decide) (backOf (W := 1) (rm4 l Z a0 hw [] (2 : Int32) lst x1 x2 T146.heap n0 Z146 ) hZ (hw _ (List.mem_of_getElem? (i := 19) rfl)) (hw _ (List.mem_of_getElem? (i := 18) rfl)) (by decide) (by decide)) (g := (mkF m 136 #[.val (.int x0), .val (.long x1), .second, .val (.long x2), .second, .val (.long x3), .second, .val (.int ff), .val (.int (1 : Int32)), .val (.int (0 : Int32)), .val (.int tot), .val (.int lst), .val (.ref b132), .val (.int (2 : Int32)), .unset, .unset, .unset, .unset, .unset, .unset, .unset, .unset, .unset, .unset, .unset] [(.long x2), (.long x1), (.int lst), (.int (2 : Int32)), (.ref b132)])) rfl (by rw [hml]; rfl) (argsL := [(.int (2 : Int32)), (.int lst), (.long x1), (.long x2)]) (rest := [(.ref b132)]) (lenOf own_pd4 rfl) rfl (by show 2 * 0 + _ ≤ _; exact Nat.le_of_eq rfl) (hb hby at_136) (fun _ _ => ⟨rfl, rfl, (by decide : 1 + 0 ≤ _), (by decide : 3 + 0 ≤ _)⟩)
          dsimp only [Pt.U, Pt.locs, Pt.cells, Pt.slots] at X151 l151 y151 z151 st151 hQ151
          subst l151 y151 z151
          obtain ⟨ar_151, rfl, N151q, eh151, pr151_0⟩ := hQ151
          have N151 := Fr.app N146 N151q
          refine Goes.go st151 ?_
          show Goes p e below s _ _ _ T151 (mkF m 139 #[.val (.int x0), .val (.long x1), .second, .val (.long x2), .second, .val (.long x3), .second, .val (.int ff), .val (.int (1 : Int32)), .val (.int (0 : Int32)), .val (.int tot), .val (.int lst), .val (.ref b132), .val (.int (2 : Int32)), .unset, .unset, .unset, .unset, .unset, .unset, .unset, .unset, .unset, .unset, .unset] [(.long ar_151), (.ref b132)])
          obtain ⟨cq152, kq152, q152a, q152b, q152c⟩ := isOf hZ eh151 f149
          obtain ⟨_, _, ⟨T152, L152, k152, n152⟩, -, X152, ⟨Lc152, hQ152, l152, y152, z152⟩, st152⟩ := X151.virtualBack hx (y := (⟨"com/example/pooler/pooler/pool/Backoff", "failed", "(J)V"⟩ : MethodName)) (z := (⟨"com/example/pooler/pooler/pool/Backoff", "failed", "(J)V"⟩ : MethodName)) hown (mvT hZ (hw _ (List.mem_of_getElem? (i := 20) rfl))) (mvT hZ (hw _ (List.mem_of_getElem? (i := 21) rfl))) (notFace_of_selects (args := #[]) (mvT hZ (hw _ (List.mem_of_getElem? (i := 23) rfl)))) (mvT hZ (hw _ (List.mem_of_getElem? (i := 23) rfl))) (mvT hZ (hw _ (List.mem_of_getElem? (i := 22) rfl))) (by decide) (backOf (W := 0) (rmfa2 l Z a0 hw [] b132 ar_151 (1 : Int32) ar_145 T146.heap n0 Z146 f149 G132 f146_0 f146_1 f146_2) hZ (hw _ (List.mem_of_getElem? (i := 24) rfl)) (hw _ (List.mem_of_getElem? (i := 2) rfl)) (by decide) (by decide)) q152a q152c (g := (mkF m 139 #[.val (.int x0), .val (.long x1), .second, .val (.long x2), .second, .val (.long x3), .second, .val (.int ff), .val (.int (1 : Int32)), .val (.int (0 : Int32)), .val (.int tot), .val (.int lst), .val (.ref b132), .val (.int (2 : Int32)), .unset, .unset, .unset, .unset, .unset, .unset, .unset, .unset, .unset, .unset, .unset] [(.long ar_151), (.ref b132)])) rfl (by rw [hml]; rfl) (Steps.refl _) (argsL := [(.long ar_151)]) (rest := []) (lenOf own_pd0 rfl) rfl (by show 2 * 0 + _ ≤ _; exact Nat.le_of_eq rfl) (hb hby at_139) (fun _ _ => ⟨rfl, eh151, (by decide : 1 + 0 ≤ _), (by decide : 3 + 0 ≤ _)⟩)
          dsimp only [Pt.U, Pt.locs, Pt.cells, Pt.slots] at X152 l152 y152 z152 st152 hQ152
          subst l152 y152 z152
          obtain ⟨rfl, N152q, K152q, f152_0, f152_1, f152_2⟩ := hQ152
          have N152 := Fr.app N151 N152q
          have f153 := own_sta_keep f147 K152q (allS (own_eplain f149) all0)
          have f154 := own_sta_keep f148 K152q (allS (own_eplain f149) all0)
          have f155 := f149.keep K152q
          have K152 := K146.trans K152q (allS (Or.inr H132) all0)
          have Z152 := Nat.le_trans Z146 K152q.1
          refine Goes.tr st152 ?_
          show Goes p e below s _ _ _ T152 (mkF m 142 #[.val (.int x0), .val (.long x1), .second, .val (.long x2), .second, .val (.long x3), .second, .val (.int ff), .val (.int (1 : Int32)), .val (.int (0 : Int32)), .val (.int tot), .val (.int lst), .val (.ref b132), .val (.int (2 : Int32)), .unset, .unset, .unset, .unset, .unset, .unset, .unset, .unset, .unset, .unset, .unset] [])
          refine own_iinc X152 hx 145 rfl #[.val (.int x0), .val (.long x1), .second, .val (.long x2), .second, .val (.long x3), .second, .val (.int ff), .val (.int (1 : Int32)), .val (.int (0 : Int32)), .val (.int tot), .val (.int lst), .val (.ref b132), .val (.int (3 : Int32)), .unset, .unset, .unset, .unset, .unset, .unset, .unset, .unset, .unset, .unset, .unset] (hb hby at_142) rfl (by decide) rfl ?_
          refine own_iload X152 hx 147 rfl (hb hby at_145) rfl ?_
          refine own_iconst X152 hx 148 rfl (2 : Int32) (hb hby at_147) (by decide) ?_
          by_cases hc148_156 : (2 : Int32) < ff
          · refine own_icmpN X152 hx 151 (hb hby at_148) (tlt hc148_156).2.2.2 rfl ?_
            refine own_aload X152 hx 153 rfl (hb hby at_151) rfl rfl ?_
            refine own_iload X152 hx 155 rfl (hb hby at_153) rfl ?_
            refine own_iload X152 hx 157 rfl (hb hby at_155) rfl ?_
            refine own_lloadN X152 hx 158 rfl (hb hby at_157) rfl ?_
            refine own_lloadN X152 hx 159 rfl (hb hby at_158) rfl ?_
            obtain ⟨_, _, ⟨T157, L157, k157, n157⟩, -, X157, ⟨Lc157, hQ157, l157, y157, z157⟩, st157⟩ := Jvm.LawKit.callS X152 hx (y := (⟨"com/example/pooler/pooler/pool/BackoffDelayPinLaw", "at", "(IIJJ)J"⟩ : MethodName)) hown (mvT hZ (hw _ (List.mem_of_getElem? (i := 16) rfl))) (mvT hZ (hw _ (List.mem_of_getElem? (i := 17) rfl))) (mvT hZ (hw _ (List.mem_of_getElem? (i := 18) rfl))) (mvT hZ (hw _ (List.mem_of_getElem? (i := 19) rfl))) (by decide) (backOf (W := 1) (rm4 l Z a0 hw [] (3 : Int32) lst x1 x2 T152.heap n0 Z152 ) hZ (hw _ (List.mem_of_getElem? (i := 19) rfl)) (hw _ (List.mem_of_getElem? (i := 18) rfl)) (by decide) (by decide)) (g := (mkF m 159 #[.val (.int x0), .val (.long x1), .second, .val (.long x2), .second, .val (.long x3), .second, .val (.int ff), .val (.int (1 : Int32)), .val (.int (0 : Int32)), .val (.int tot), .val (.int lst), .val (.ref b132), .val (.int (3 : Int32)), .unset, .unset, .unset, .unset, .unset, .unset, .unset, .unset, .unset, .unset, .unset] [(.long x2), (.long x1), (.int lst), (.int (3 : Int32)), (.ref b132)])) rfl (by rw [hml]; rfl) (argsL := [(.int (3 : Int32)), (.int lst), (.long x1), (.long x2)]) (rest := [(.ref b132)]) (lenOf own_pd4 rfl) rfl (by show 2 * 0 + _ ≤ _; exact Nat.le_of_eq rfl) (hb hby at_159) (fun _ _ => ⟨rfl, rfl, (by decide : 1 + 0 ≤ _), (by decide : 3 + 0 ≤ _)⟩)
            dsimp only [Pt.U, Pt.locs, Pt.cells, Pt.slots] at X157 l157 y157 z157 st157 hQ157
            subst l157 y157 z157
            obtain ⟨ar_157, rfl, N157q, eh157, pr157_0⟩ := hQ157
            have N157 := Fr.app N152 N157q
            refine Goes.go st157 ?_
            show Goes p e below s _ _ _ T157 (mkF m 162 #[.val (.int x0), .val (.long x1), .second, .val (.long x2), .second, .val (.long x3), .second, .val (.int ff), .val (.int (1 : Int32)), .val (.int (0 : Int32)), .val (.int tot), .val (.int lst), .val (.ref b132), .val (.int (3 : Int32)), .unset, .unset, .unset, .unset, .unset, .unset, .unset, .unset, .unset, .unset, .unset] [(.long ar_157), (.ref b132)])
            obtain ⟨cq158, kq158, q158a, q158b, q158c⟩ := isOf hZ eh157 f155
            obtain ⟨_, _, ⟨T158, L158, k158, n158⟩, -, X158, ⟨Lc158, hQ158, l158, y158, z158⟩, st158⟩ := X157.virtualBack hx (y := (⟨"com/example/pooler/pooler/pool/Backoff", "failed", "(J)V"⟩ : MethodName)) (z := (⟨"com/example/pooler/pooler/pool/Backoff", "failed", "(J)V"⟩ : MethodName)) hown (mvT hZ (hw _ (List.mem_of_getElem? (i := 20) rfl))) (mvT hZ (hw _ (List.mem_of_getElem? (i := 21) rfl))) (notFace_of_selects (args := #[]) (mvT hZ (hw _ (List.mem_of_getElem? (i := 23) rfl)))) (mvT hZ (hw _ (List.mem_of_getElem? (i := 23) rfl))) (mvT hZ (hw _ (List.mem_of_getElem? (i := 22) rfl))) (by decide) (backOf (W := 0) (rmfa3 l Z a0 hw [] b132 ar_157 (1 : Int32) ar_151 T152.heap n0 Z152 f155 G132 f152_0 f152_1 f152_2) hZ (hw _ (List.mem_of_getElem? (i := 24) rfl)) (hw _ (List.mem_of_getElem? (i := 2) rfl)) (by decide) (by decide)) q158a q158c (g := (mkF m 162 #[.val (.int x0), .val (.long x1), .second, .val (.long x2), .second, .val (.long x3), .second, .val (.int ff), .val (.int (1 : Int32)), .val (.int (0 : Int32)), .val (.int tot), .val (.int lst), .val (.ref b132), .val (.int (3 : Int32)), .unset, .unset, .unset, .unset, .unset, .unset, .unset, .unset, .unset, .unset, .unset] [(.long ar_157), (.ref b132)])) rfl (by rw [hml]; rfl) (Steps.refl _) (argsL := [(.long ar_157)]) (rest := []) (lenOf own_pd0 rfl) rfl (by show 2 * 0 + _ ≤ _; exact Nat.le_of_eq rfl) (hb hby at_162) (fun _ _ => ⟨rfl, eh157, (by decide : 1 + 0 ≤ _), (by decide : 3 + 0 ≤ _)⟩)
            dsimp only [Pt.U, Pt.locs, Pt.cells, Pt.slots] at X158 l158 y158 z158 st158 hQ158
            subst l158 y158 z158
            obtain ⟨rfl, N158q, K158q, f158_0, f158_1, f158_2⟩ := hQ158
            have N158 := Fr.app N157 N158q
            have f159 := own_sta_keep f153 K158q (allS (own_eplain f155) all0)
            have f160 := own_sta_keep f154 K158q (allS (own_eplain f155) all0)
            have f161 := f155.keep K158q
            have K158 := K152.trans K158q (allS (Or.inr H132) all0)
            have Z158 := Nat.le_trans Z152 K158q.1
            refine Goes.tr st158 ?_
            show Goes p e below s _ _ _ T158 (mkF m 165 #[.val (.int x0), .val (.long x1), .second, .val (.long x2), .second, .val (.long x3), .second, .val (.int ff), .val (.int (1 : Int32)), .val (.int (0 : Int32)), .val (.int tot), .val (.int lst), .val (.ref b132), .val (.int (3 : Int32)), .unset, .unset, .unset, .unset, .unset, .unset, .unset, .unset, .unset, .unset, .unset] [])
            refine own_iinc X158 hx 168 rfl #[.val (.int x0), .val (.long x1), .second, .val (.long x2), .second, .val (.long x3), .second, .val (.int ff), .val (.int (1 : Int32)), .val (.int (0 : Int32)), .val (.int tot), .val (.int lst), .val (.ref b132), .val (.int (4 : Int32)), .unset, .unset, .unset, .unset, .unset, .unset, .unset, .unset, .unset, .unset, .unset] (hb hby at_165) rfl (by decide) rfl ?_
            refine own_iload X158 hx 170 rfl (hb hby at_168) rfl ?_
            refine own_iconst X158 hx 171 rfl (3 : Int32) (hb hby at_170) (by decide) ?_
            by_cases hc171_162 : (3 : Int32) < ff
            · refine own_icmpN X158 hx 174 (hb hby at_171) (tlt hc171_162).2.2.2 rfl ?_
              refine own_aload X158 hx 176 rfl (hb hby at_174) rfl rfl ?_
              refine own_iload X158 hx 178 rfl (hb hby at_176) rfl ?_
              refine own_iload X158 hx 180 rfl (hb hby at_178) rfl ?_
              refine own_lloadN X158 hx 181 rfl (hb hby at_180) rfl ?_
              refine own_lloadN X158 hx 182 rfl (hb hby at_181) rfl ?_
              obtain ⟨_, _, ⟨T163, L163, k163, n163⟩, -, X163, ⟨Lc163, hQ163, l163, y163, z163⟩, st163⟩ := Jvm.LawKit.callS X158 hx (y := (⟨"com/example/pooler/pooler/pool/BackoffDelayPinLaw", "at", "(IIJJ)J"⟩ : MethodName)) hown (mvT hZ (hw _ (List.mem_of_getElem? (i := 16) rfl))) (mvT hZ (hw _ (List.mem_of_getElem? (i := 17) rfl))) (mvT hZ (hw _ (List.mem_of_getElem? (i := 18) rfl))) (mvT hZ (hw _ (List.mem_of_getElem? (i := 19) rfl))) (by decide) (backOf (W := 1) (rm4 l Z a0 hw [] (4 : Int32) lst x1 x2 T158.heap n0 Z158 ) hZ (hw _ (List.mem_of_getElem? (i := 19) rfl)) (hw _ (List.mem_of_getElem? (i := 18) rfl)) (by decide) (by decide)) (g := (mkF m 182 #[.val (.int x0), .val (.long x1), .second, .val (.long x2), .second, .val (.long x3), .second, .val (.int ff), .val (.int (1 : Int32)), .val (.int (0 : Int32)), .val (.int tot), .val (.int lst), .val (.ref b132), .val (.int (4 : Int32)), .unset, .unset, .unset, .unset, .unset, .unset, .unset, .unset, .unset, .unset, .unset] [(.long x2), (.long x1), (.int lst), (.int (4 : Int32)), (.ref b132)])) rfl (by rw [hml]; rfl) (argsL := [(.int (4 : Int32)), (.int lst), (.long x1), (.long x2)]) (rest := [(.ref b132)]) (lenOf own_pd4 rfl) rfl (by show 2 * 0 + _ ≤ _; exact Nat.le_of_eq rfl) (hb hby at_182) (fun _ _ => ⟨rfl, rfl, (by decide : 1 + 0 ≤ _), (by decide : 3 + 0 ≤ _)⟩)
              dsimp only [Pt.U, Pt.locs, Pt.cells, Pt.slots] at X163 l163 y163 z163 st163 hQ163
              subst l163 y163 z163
              obtain ⟨ar_163, rfl, N163q, eh163, pr163_0⟩ := hQ163
              have N163 := Fr.app N158 N163q
              refine Goes.go st163 ?_
              show Goes p e below s _ _ _ T163 (mkF m 185 #[.val (.int x0), .val (.long x1), .second, .val (.long x2), .second, .val (.long x3), .second, .val (.int ff), .val (.int (1 : Int32)), .val (.int (0 : Int32)), .val (.int tot), .val (.int lst), .val (.ref b132), .val (.int (4 : Int32)), .unset, .unset, .unset, .unset, .unset, .unset, .unset, .unset, .unset, .unset, .unset] [(.long ar_163), (.ref b132)])
              obtain ⟨cq164, kq164, q164a, q164b, q164c⟩ := isOf hZ eh163 f161
              obtain ⟨_, _, ⟨T164, L164, k164, n164⟩, -, X164, ⟨Lc164, hQ164, l164, y164, z164⟩, st164⟩ := X163.virtualBack hx (y := (⟨"com/example/pooler/pooler/pool/Backoff", "failed", "(J)V"⟩ : MethodName)) (z := (⟨"com/example/pooler/pooler/pool/Backoff", "failed", "(J)V"⟩ : MethodName)) hown (mvT hZ (hw _ (List.mem_of_getElem? (i := 20) rfl))) (mvT hZ (hw _ (List.mem_of_getElem? (i := 21) rfl))) (notFace_of_selects (args := #[]) (mvT hZ (hw _ (List.mem_of_getElem? (i := 23) rfl)))) (mvT hZ (hw _ (List.mem_of_getElem? (i := 23) rfl))) (mvT hZ (hw _ (List.mem_of_getElem? (i := 22) rfl))) (by decide) (backOf (W := 0) (rmfa4 l Z a0 hw [] b132 ar_163 (1 : Int32) ar_157 T158.heap n0 Z158 f161 G132 f158_0 f158_1 f158_2) hZ (hw _ (List.mem_of_getElem? (i := 24) rfl)) (hw _ (List.mem_of_getElem? (i := 2) rfl)) (by decide) (by decide)) q164a q164c (g := (mkF m 185 #[.val (.int x0), .val (.long x1), .second, .val (.long x2), .second, .val (.long x3), .second, .val (.int ff), .val (.int (1 : Int32)), .val (.int (0 : Int32)), .val (.int tot), .val (.int lst), .val (.ref b132), .val (.int (4 : Int32)), .unset, .unset, .unset, .unset, .unset, .unset, .unset, .unset, .unset, .unset, .unset] [(.long ar_163), (.ref b132)])) rfl (by rw [hml]; rfl) (Steps.refl _) (argsL := [(.long ar_163)]) (rest := []) (lenOf own_pd0 rfl) rfl (by show 2 * 0 + _ ≤ _; exact Nat.le_of_eq rfl) (hb hby at_185) (fun _ _ => ⟨rfl, eh163, (by decide : 1 + 0 ≤ _), (by decide : 3 + 0 ≤ _)⟩)
              dsimp only [Pt.U, Pt.locs, Pt.cells, Pt.slots] at X164 l164 y164 z164 st164 hQ164
              subst l164 y164 z164
              obtain ⟨rfl, N164q, K164q, f164_0, f164_1, f164_2⟩ := hQ164
              have N164 := Fr.app N163 N164q
              have f165 := own_sta_keep f159 K164q (allS (own_eplain f161) all0)
              have f166 := own_sta_keep f160 K164q (allS (own_eplain f161) all0)
              have f167 := f161.keep K164q
              have K164 := K158.trans K164q (allS (Or.inr H132) all0)
              have Z164 := Nat.le_trans Z158 K164q.1
              refine Goes.tr st164 ?_
              show Goes p e below s _ _ _ T164 (mkF m 188 #[.val (.int x0), .val (.long x1), .second, .val (.long x2), .second, .val (.long x3), .second, .val (.int ff), .val (.int (1 : Int32)), .val (.int (0 : Int32)), .val (.int tot), .val (.int lst), .val (.ref b132), .val (.int (4 : Int32)), .unset, .unset, .unset, .unset, .unset, .unset, .unset, .unset, .unset, .unset, .unset] [])
              refine own_iinc X164 hx 191 rfl #[.val (.int x0), .val (.long x1), .second, .val (.long x2), .second, .val (.long x3), .second, .val (.int ff), .val (.int (1 : Int32)), .val (.int (0 : Int32)), .val (.int tot), .val (.int lst), .val (.ref b132), .val (.int (5 : Int32)), .unset, .unset, .unset, .unset, .unset, .unset, .unset, .unset, .unset, .unset, .unset] (hb hby at_188) rfl (by decide) rfl ?_
              refine own_iload X164 hx 193 rfl (hb hby at_191) rfl ?_
              refine own_iconst X164 hx 194 rfl (4 : Int32) (hb hby at_193) (by decide) ?_
              by_cases hc194_168 : (4 : Int32) < ff
              · refine own_icmpN X164 hx 197 (hb hby at_194) (tlt hc194_168).2.2.2 rfl ?_
                refine own_aload X164 hx 199 rfl (hb hby at_197) rfl rfl ?_
                refine own_iload X164 hx 201 rfl (hb hby at_199) rfl ?_
                refine own_iload X164 hx 203 rfl (hb hby at_201) rfl ?_
                refine own_lloadN X164 hx 204 rfl (hb hby at_203) rfl ?_
                refine own_lloadN X164 hx 205 rfl (hb hby at_204) rfl ?_
                obtain ⟨_, _, ⟨T169, L169, k169, n169⟩, -, X169, ⟨Lc169, hQ169, l169, y169, z169⟩, st169⟩ := Jvm.LawKit.callS X164 hx (y := (⟨"com/example/pooler/pooler/pool/BackoffDelayPinLaw", "at", "(IIJJ)J"⟩ : MethodName)) hown (mvT hZ (hw _ (List.mem_of_getElem? (i := 16) rfl))) (mvT hZ (hw _ (List.mem_of_getElem? (i := 17) rfl))) (mvT hZ (hw _ (List.mem_of_getElem? (i := 18) rfl))) (mvT hZ (hw _ (List.mem_of_getElem? (i := 19) rfl))) (by decide) (backOf (W := 1) (rm4 l Z a0 hw [] (5 : Int32) lst x1 x2 T164.heap n0 Z164 ) hZ (hw _ (List.mem_of_getElem? (i := 19) rfl)) (hw _ (List.mem_of_getElem? (i := 18) rfl)) (by decide) (by decide)) (g := (mkF m 205 #[.val (.int x0), .val (.long x1), .second, .val (.long x2), .second, .val (.long x3), .second, .val (.int ff), .val (.int (1 : Int32)), .val (.int (0 : Int32)), .val (.int tot), .val (.int lst), .val (.ref b132), .val (.int (5 : Int32)), .unset, .unset, .unset, .unset, .unset, .unset, .unset, .unset, .unset, .unset, .unset] [(.long x2), (.long x1), (.int lst), (.int (5 : Int32)), (.ref b132)])) rfl (by rw [hml]; rfl) (argsL := [(.int (5 : Int32)), (.int lst), (.long x1), (.long x2)]) (rest := [(.ref b132)]) (lenOf own_pd4 rfl) rfl (by show 2 * 0 + _ ≤ _; exact Nat.le_of_eq rfl) (hb hby at_205) (fun _ _ => ⟨rfl, rfl, (by decide : 1 + 0 ≤ _), (by decide : 3 + 0 ≤ _)⟩)
                dsimp only [Pt.U, Pt.locs, Pt.cells, Pt.slots] at X169 l169 y169 z169 st169 hQ169
                subst l169 y169 z169
                obtain ⟨ar_169, rfl, N169q, eh169, pr169_0⟩ := hQ169
                have N169 := Fr.app N164 N169q
                refine Goes.go st169 ?_
                show Goes p e below s _ _ _ T169 (mkF m 208 #[.val (.int x0), .val (.long x1), .second, .val (.long x2), .second, .val (.long x3), .second, .val (.int ff), .val (.int (1 : Int32)), .val (.int (0 : Int32)), .val (.int tot), .val (.int lst), .val (.ref b132), .val (.int (5 : Int32)), .unset, .unset, .unset, .unset, .unset, .unset, .unset, .unset, .unset, .unset, .unset] [(.long ar_169), (.ref b132)])
                obtain ⟨cq170, kq170, q170a, q170b, q170c⟩ := isOf hZ eh169 f167
                obtain ⟨_, _, ⟨T170, L170, k170, n170⟩, -, X170, ⟨Lc170, hQ170, l170, y170, z170⟩, st170⟩ := X169.virtualBack hx (y := (⟨"com/example/pooler/pooler/pool/Backoff", "failed", "(J)V"⟩ : MethodName)) (z := (⟨"com/example/pooler/pooler/pool/Backoff", "failed", "(J)V"⟩ : MethodName)) hown (mvT hZ (hw _ (List.mem_of_getElem? (i := 20) rfl))) (mvT hZ (hw _ (List.mem_of_getElem? (i := 21) rfl))) (notFace_of_selects (args := #[]) (mvT hZ (hw _ (List.mem_of_getElem? (i := 23) rfl)))) (mvT hZ (hw _ (List.mem_of_getElem? (i := 23) rfl))) (mvT hZ (hw _ (List.mem_of_getElem? (i := 22) rfl))) (by decide) (backOf (W := 0) (rmfa5 l Z a0 hw [] b132 ar_169 (1 : Int32) ar_163 T164.heap n0 Z164 f167 G132 f164_0 f164_1 f164_2) hZ (hw _ (List.mem_of_getElem? (i := 24) rfl)) (hw _ (List.mem_of_getElem? (i := 2) rfl)) (by decide) (by decide)) q170a q170c (g := (mkF m 208 #[.val (.int x0), .val (.long x1), .second, .val (.long x2), .second, .val (.long x3), .second, .val (.int ff), .val (.int (1 : Int32)), .val (.int (0 : Int32)), .val (.int tot), .val (.int lst), .val (.ref b132), .val (.int (5 : Int32)), .unset, .unset, .unset, .unset, .unset, .unset, .unset, .unset, .unset, .unset, .unset] [(.long ar_169), (.ref b132)])) rfl (by rw [hml]; rfl) (Steps.refl _) (argsL := [(.long ar_169)]) (rest := []) (lenOf own_pd0 rfl) rfl (by show 2 * 0 + _ ≤ _; exact Nat.le_of_eq rfl) (hb hby at_208) (fun _ _ => ⟨rfl, eh169, (by decide : 1 + 0 ≤ _), (by decide : 3 + 0 ≤ _)⟩)
                dsimp only [Pt.U, Pt.locs, Pt.cells, Pt.slots] at X170 l170 y170 z170 st170 hQ170
                subst l170 y170 z170
                obtain ⟨rfl, N170q, K170q, f170_0, f170_1, f170_2⟩ := hQ170
                have N170 := Fr.app N169 N170q
                have f171 := own_sta_keep f165 K170q (allS (own_eplain f167) all0)
                have f172 := own_sta_keep f166 K170q (allS (own_eplain f167) all0)
                have f173 := f167.keep K170q
                have K170 := K164.trans K170q (allS (Or.inr H132) all0)
                have Z170 := Nat.le_trans Z164 K170q.1
                refine Goes.tr st170 ?_
                show Goes p e below s _ _ _ T170 (mkF m 211 #[.val (.int x0), .val (.long x1), .second, .val (.long x2), .second, .val (.long x3), .second, .val (.int ff), .val (.int (1 : Int32)), .val (.int (0 : Int32)), .val (.int tot), .val (.int lst), .val (.ref b132), .val (.int (5 : Int32)), .unset, .unset, .unset, .unset, .unset, .unset, .unset, .unset, .unset, .unset, .unset] [])
                refine own_iinc X170 hx 214 rfl #[.val (.int x0), .val (.long x1), .second, .val (.long x2), .second, .val (.long x3), .second, .val (.int ff), .val (.int (1 : Int32)), .val (.int (0 : Int32)), .val (.int tot), .val (.int lst), .val (.ref b132), .val (.int (6 : Int32)), .unset, .unset, .unset, .unset, .unset, .unset, .unset, .unset, .unset, .unset, .unset] (hb hby at_211) rfl (by decide) rfl ?_
                refine own_iload X170 hx 216 rfl (hb hby at_214) rfl ?_
                refine own_iconst X170 hx 217 rfl (5 : Int32) (hb hby at_216) (by decide) ?_
                by_cases hc217_174 : (5 : Int32) < ff
                · refine own_icmpN X170 hx 220 (hb hby at_217) (tlt hc217_174).2.2.2 rfl ?_
                  refine own_aload X170 hx 222 rfl (hb hby at_220) rfl rfl ?_
                  refine own_iload X170 hx 224 rfl (hb hby at_222) rfl ?_
                  refine own_iload X170 hx 226 rfl (hb hby at_224) rfl ?_
                  refine own_lloadN X170 hx 227 rfl (hb hby at_226) rfl ?_
                  refine own_lloadN X170 hx 228 rfl (hb hby at_227) rfl ?_
                  obtain ⟨_, _, ⟨T175, L175, k175, n175⟩, -, X175, ⟨Lc175, hQ175, l175, y175, z175⟩, st175⟩ := Jvm.LawKit.callS X170 hx (y := (⟨"com/example/pooler/pooler/pool/BackoffDelayPinLaw", "at", "(IIJJ)J"⟩ : MethodName)) hown (mvT hZ (hw _ (List.mem_of_getElem? (i := 16) rfl))) (mvT hZ (hw _ (List.mem_of_getElem? (i := 17) rfl))) (mvT hZ (hw _ (List.mem_of_getElem? (i := 18) rfl))) (mvT hZ (hw _ (List.mem_of_getElem? (i := 19) rfl))) (by decide) (backOf (W := 1) (rm4 l Z a0 hw [] (6 : Int32) lst x1 x2 T170.heap n0 Z170 ) hZ (hw _ (List.mem_of_getElem? (i := 19) rfl)) (hw _ (List.mem_of_getElem? (i := 18) rfl)) (by decide) (by decide)) (g := (mkF m 228 #[.val (.int x0), .val (.long x1), .second, .val (.long x2), .second, .val (.long x3), .second, .val (.int ff), .val (.int (1 : Int32)), .val (.int (0 : Int32)), .val (.int tot), .val (.int lst), .val (.ref b132), .val (.int (6 : Int32)), .unset, .unset, .unset, .unset, .unset, .unset, .unset, .unset, .unset, .unset, .unset] [(.long x2), (.long x1), (.int lst), (.int (6 : Int32)), (.ref b132)])) rfl (by rw [hml]; rfl) (argsL := [(.int (6 : Int32)), (.int lst), (.long x1), (.long x2)]) (rest := [(.ref b132)]) (lenOf own_pd4 rfl) rfl (by show 2 * 0 + _ ≤ _; exact Nat.le_of_eq rfl) (hb hby at_228) (fun _ _ => ⟨rfl, rfl, (by decide : 1 + 0 ≤ _), (by decide : 3 + 0 ≤ _)⟩)
                  dsimp only [Pt.U, Pt.locs, Pt.cells, Pt.slots] at X175 l175 y175 z175 st175 hQ175
                  subst l175 y175 z175
                  obtain ⟨ar_175, rfl, N175q, eh175, pr175_0⟩ := hQ175
                  have N175 := Fr.app N170 N175q
                  refine Goes.go st175 ?_
                  show Goes p e below s _ _ _ T175 (mkF m 231 #[.val (.int x0), .val (.long x1), .second, .val (.long x2), .second, .val (.long x3), .second, .val (.int ff), .val (.int (1 : Int32)), .val (.int (0 : Int32)), .val (.int tot), .val (.int lst), .val (.ref b132), .val (.int (6 : Int32)), .unset, .unset, .unset, .unset, .unset, .unset, .unset, .unset, .unset, .unset, .unset] [(.long ar_175), (.ref b132)])
                  obtain ⟨cq176, kq176, q176a, q176b, q176c⟩ := isOf hZ eh175 f173
                  obtain ⟨_, _, ⟨T176, L176, k176, n176⟩, -, X176, ⟨Lc176, hQ176, l176, y176, z176⟩, st176⟩ := X175.virtualBack hx (y := (⟨"com/example/pooler/pooler/pool/Backoff", "failed", "(J)V"⟩ : MethodName)) (z := (⟨"com/example/pooler/pooler/pool/Backoff", "failed", "(J)V"⟩ : MethodName)) hown (mvT hZ (hw _ (List.mem_of_getElem? (i := 20) rfl))) (mvT hZ (hw _ (List.mem_of_getElem? (i := 21) rfl))) (notFace_of_selects (args := #[]) (mvT hZ (hw _ (List.mem_of_getElem? (i := 23) rfl)))) (mvT hZ (hw _ (List.mem_of_getElem? (i := 23) rfl))) (mvT hZ (hw _ (List.mem_of_getElem? (i := 22) rfl))) (by decide) (backOf (W := 0) (rmfa6 l Z a0 hw [] b132 ar_175 (1 : Int32) ar_169 T170.heap n0 Z170 f173 G132 f170_0 f170_1 f170_2) hZ (hw _ (List.mem_of_getElem? (i := 24) rfl)) (hw _ (List.mem_of_getElem? (i := 2) rfl)) (by decide) (by decide)) q176a q176c (g := (mkF m 231 #[.val (.int x0), .val (.long x1), .second, .val (.long x2), .second, .val (.long x3), .second, .val (.int ff), .val (.int (1 : Int32)), .val (.int (0 : Int32)), .val (.int tot), .val (.int lst), .val (.ref b132), .val (.int (6 : Int32)), .unset, .unset, .unset, .unset, .unset, .unset, .unset, .unset, .unset, .unset, .unset] [(.long ar_175), (.ref b132)])) rfl (by rw [hml]; rfl) (Steps.refl _) (argsL := [(.long ar_175)]) (rest := []) (lenOf own_pd0 rfl) rfl (by show 2 * 0 + _ ≤ _; exact Nat.le_of_eq rfl) (hb hby at_231) (fun _ _ => ⟨rfl, eh175, (by decide : 1 + 0 ≤ _), (by decide : 3 + 0 ≤ _)⟩)
                  dsimp only [Pt.U, Pt.locs, Pt.cells, Pt.slots] at X176 l176 y176 z176 st176 hQ176
                  subst l176 y176 z176
                  obtain ⟨rfl, N176q, K176q, f176_0, f176_1, f176_2⟩ := hQ176
                  have N176 := Fr.app N175 N176q
                  have f177 := own_sta_keep f171 K176q (allS (own_eplain f173) all0)
                  have f178 := own_sta_keep f172 K176q (allS (own_eplain f173) all0)
                  have f179 := f173.keep K176q
                  have K176 := K170.trans K176q (allS (Or.inr H132) all0)
                  have Z176 := Nat.le_trans Z170 K176q.1
                  refine Goes.tr st176 ?_
                  show Goes p e below s _ _ _ T176 (mkF m 234 #[.val (.int x0), .val (.long x1), .second, .val (.long x2), .second, .val (.long x3), .second, .val (.int ff), .val (.int (1 : Int32)), .val (.int (0 : Int32)), .val (.int tot), .val (.int lst), .val (.ref b132), .val (.int (6 : Int32)), .unset, .unset, .unset, .unset, .unset, .unset, .unset, .unset, .unset, .unset, .unset] [])
                  refine own_iinc X176 hx 237 rfl #[.val (.int x0), .val (.long x1), .second, .val (.long x2), .second, .val (.long x3), .second, .val (.int ff), .val (.int (1 : Int32)), .val (.int (0 : Int32)), .val (.int tot), .val (.int lst), .val (.ref b132), .val (.int (7 : Int32)), .unset, .unset, .unset, .unset, .unset, .unset, .unset, .unset, .unset, .unset, .unset] (hb hby at_234) rfl (by decide) rfl ?_
                  have hfl := own_gt (k := 5) (by decide) hc217_174
                  have hfh := hff.2
                  obtain rfl : ff = (6 : Int32) := own_pin (k := 6) (by decide) (by omega)
                  obtain rfl : tot = (7 : Int32) := by rw [h_tot]; decide
                  obtain rfl : lst = (6 : Int32) := by rw [h_lst]; decide
                  have hdd := own_sh x3 _ rfl
                  have har : ar_175 = x2 := own_atE pr175_0 (by decide)
                  refine own_lload X176 hx 239 rfl (hb hby at_237) rfl ?_
                  refine own_iconst X176 hx 240 rfl (1 : Int32) (hb hby at_239) (by decide) ?_
                  refine own_lshr X176 hx 241 rfl (hb hby at_240) rfl ?_
                  refine own_lstore X176 hx 243 rfl #[.val (.int x0), .val (.long x1), .second, .val (.long x2), .second, .val (.long x3), .second, .val (.int (6 : Int32)), .val (.int (1 : Int32)), .val (.int (0 : Int32)), .val (.int (7 : Int32)), .val (.int (6 : Int32)), .val (.ref b132), .val (.int (7 : Int32)), .val (.long (x3 >>> ((1 : Int32) &&& 0x3f).toInt64)), .second, .unset, .unset, .unset, .unset, .unset, .unset, .unset, .unset, .unset] (hb hby at_241) rfl ?_
                  refine own_lloadN X176 hx 244 rfl (hb hby at_243) rfl ?_
                  refine own_lload X176 hx 246 rfl (hb hby at_244) rfl ?_
                  refine own_ladd X176 hx 247 rfl (hb hby at_246) rfl ?_
                  refine own_lstore X176 hx 249 rfl #[.val (.int x0), .val (.long x1), .second, .val (.long x2), .second, .val (.long x3), .second, .val (.int (6 : Int32)), .val (.int (1 : Int32)), .val (.int (0 : Int32)), .val (.int (7 : Int32)), .val (.int (6 : Int32)), .val (.ref b132), .val (.int (7 : Int32)), .val (.long (x3 >>> ((1 : Int32) &&& 0x3f).toInt64)), .second, .val (.long (x2 + (x3 >>> ((1 : Int32) &&& 0x3f).toInt64))), .second, .unset, .unset, .unset, .unset, .unset, .unset, .unset] (hb hby at_247) rfl ?_
                  refine own_aload X176 hx 251 rfl (hb hby at_249) rfl rfl ?_
                  refine own_lload X176 hx 253 rfl (hb hby at_251) rfl ?_
                  obtain ⟨cq180, kq180, q180a, q180b, q180c⟩ := isOf hZ rfl f179
                  obtain ⟨_, _, ⟨T180, L180, k180, n180⟩, -, X180, ⟨Lc180, hQ180, l180, y180, z180⟩, st180⟩ := X176.virtualBack hx (y := (⟨"com/example/pooler/pooler/pool/Backoff", "delay", "(J)J"⟩ : MethodName)) (z := (⟨"com/example/pooler/pooler/pool/Backoff", "delay", "(J)J"⟩ : MethodName)) hown (mvT hZ (hw _ (List.mem_of_getElem? (i := 9) rfl))) (mvT hZ (hw _ (List.mem_of_getElem? (i := 10) rfl))) (notFace_of_selects (args := #[]) (mvT hZ (hw _ (List.mem_of_getElem? (i := 12) rfl)))) (mvT hZ (hw _ (List.mem_of_getElem? (i := 12) rfl))) (mvT hZ (hw _ (List.mem_of_getElem? (i := 11) rfl))) (by decide) (backOf (W := 0) (rmde7 l Z a0 hw [] b132 (x2 + (x3 >>> ((1 : Int32) &&& 0x3f).toInt64)) ar_175 T176.heap n0 Z176 f179 f177 f178 f176_0 f176_1 f176_2) hZ (hw _ (List.mem_of_getElem? (i := 13) rfl)) (hw _ (List.mem_of_getElem? (i := 2) rfl)) (by decide) (by decide)) q180a q180c (g := (mkF m 253 #[.val (.int x0), .val (.long x1), .second, .val (.long x2), .second, .val (.long x3), .second, .val (.int (6 : Int32)), .val (.int (1 : Int32)), .val (.int (0 : Int32)), .val (.int (7 : Int32)), .val (.int (6 : Int32)), .val (.ref b132), .val (.int (7 : Int32)), .val (.long (x3 >>> ((1 : Int32) &&& 0x3f).toInt64)), .second, .val (.long (x2 + (x3 >>> ((1 : Int32) &&& 0x3f).toInt64))), .second, .unset, .unset, .unset, .unset, .unset, .unset, .unset] [(.long (x2 + (x3 >>> ((1 : Int32) &&& 0x3f).toInt64))), (.ref b132)])) rfl (by rw [hml]; rfl) (Steps.refl _) (argsL := [(.long (x2 + (x3 >>> ((1 : Int32) &&& 0x3f).toInt64)))]) (rest := []) (lenOf own_pd5 rfl) rfl (by show 2 * 0 + _ ≤ _; exact Nat.le_of_eq rfl) (hb hby at_253) (fun _ _ => ⟨rfl, rfl, (by decide : 1 + 0 ≤ _), (by decide : 3 + 0 ≤ _)⟩)
                  dsimp only [Pt.U, Pt.locs, Pt.cells, Pt.slots] at X180 l180 y180 z180 st180 hQ180
                  subst l180 y180 z180
                  obtain ⟨br_180, rfl, N180q, eh180, pr180_0⟩ := hQ180
                  have N180 := Fr.app N176 N180q
                  refine Goes.tr st180 ?_
                  show Goes p e below s _ _ _ T180 (mkF m 256 #[.val (.int x0), .val (.long x1), .second, .val (.long x2), .second, .val (.long x3), .second, .val (.int (6 : Int32)), .val (.int (1 : Int32)), .val (.int (0 : Int32)), .val (.int (7 : Int32)), .val (.int (6 : Int32)), .val (.ref b132), .val (.int (7 : Int32)), .val (.long (x3 >>> ((1 : Int32) &&& 0x3f).toInt64)), .second, .val (.long (x2 + (x3 >>> ((1 : Int32) &&& 0x3f).toInt64))), .second, .unset, .unset, .unset, .unset, .unset, .unset, .unset] [(.long br_180)])
                  refine own_lstore X180 hx 258 rfl #[.val (.int x0), .val (.long x1), .second, .val (.long x2), .second, .val (.long x3), .second, .val (.int (6 : Int32)), .val (.int (1 : Int32)), .val (.int (0 : Int32)), .val (.int (7 : Int32)), .val (.int (6 : Int32)), .val (.ref b132), .val (.int (7 : Int32)), .val (.long (x3 >>> ((1 : Int32) &&& 0x3f).toInt64)), .second, .val (.long (x2 + (x3 >>> ((1 : Int32) &&& 0x3f).toInt64))), .second, .val (.long br_180), .second, .unset, .unset, .unset, .unset, .unset] (hb hby at_256) rfl ?_
                  refine own_iload X180 hx 260 rfl (hb hby at_258) rfl ?_
                  refine own_ifY X180 hx 269 (hb hby at_260) ((if0 _ _).trans (feq ((by decide) : ¬ ((7 : Int32) = (0 : Int32)))).2) (by decide) (by decide) ?_
                  refine own_iload X180 hx 271 rfl (hb hby at_269) rfl ?_
                  refine own_iconst X180 hx 272 rfl (1 : Int32) (hb hby at_271) (by decide) ?_
                  refine own_icmpY X180 hx 280 (hb hby at_272) (feq ((by decide) : ¬ ((0 : Int32) = (1 : Int32)))).2 (by decide) (by decide) ?_
                  refine own_iload X180 hx 282 rfl (hb hby at_280) rfl ?_
                  refine own_iload X180 hx 284 rfl (hb hby at_282) rfl ?_
                  refine own_iadd X180 hx 285 rfl (z := (7 : Int32)) (hb hby at_284) (by decide) ?_
                  refine own_istore X180 hx 287 rfl #[.val (.int x0), .val (.long x1), .second, .val (.long x2), .second, .val (.long x3), .second, .val (.int (6 : Int32)), .val (.int (1 : Int32)), .val (.int (0 : Int32)), .val (.int (7 : Int32)), .val (.int (6 : Int32)), .val (.ref b132), .val (.int (7 : Int32)), .val (.long (x3 >>> ((1 : Int32) &&& 0x3f).toInt64)), .second, .val (.long (x2 + (x3 >>> ((1 : Int32) &&& 0x3f).toInt64))), .second, .val (.long br_180), .second, .unset, .unset, .val (.int (7 : Int32)), .unset, .unset] (hb hby at_285) rfl ?_
                  refine own_iload X180 hx 289 rfl (hb hby at_287) rfl ?_
                  obtain ⟨_, _, ⟨T181, L181, k181, n181⟩, -, X181, ⟨Lc181, hQ181, l181, y181, z181⟩, st181⟩ := Jvm.LawKit.callS X180 hx (y := (⟨"com/example/pooler/pooler/pool/BackoffDelayPinLaw", "pauseMs", "(I)J"⟩ : MethodName)) hown (mvT hZ (hw _ (List.mem_of_getElem? (i := 48) rfl))) (mvT hZ (hw _ (List.mem_of_getElem? (i := 49) rfl))) (mvT hZ (hw _ (List.mem_of_getElem? (i := 18) rfl))) (mvT hZ (hw _ (List.mem_of_getElem? (i := 50) rfl))) (by decide) (backOf (W := 0) (rmpm7 l Z a0 hw []  T176.heap n0 Z176 ) hZ (hw _ (List.mem_of_getElem? (i := 50) rfl)) (hw _ (List.mem_of_getElem? (i := 18) rfl)) (by decide) (by decide)) (g := (mkF m 289 #[.val (.int x0), .val (.long x1), .second, .val (.long x2), .second, .val (.long x3), .second, .val (.int (6 : Int32)), .val (.int (1 : Int32)), .val (.int (0 : Int32)), .val (.int (7 : Int32)), .val (.int (6 : Int32)), .val (.ref b132), .val (.int (7 : Int32)), .val (.long (x3 >>> ((1 : Int32) &&& 0x3f).toInt64)), .second, .val (.long (x2 + (x3 >>> ((1 : Int32) &&& 0x3f).toInt64))), .second, .val (.long br_180), .second, .unset, .unset, .val (.int (7 : Int32)), .unset, .unset] [(.int (7 : Int32))])) rfl (by rw [hml]; rfl) (argsL := [(.int (7 : Int32))]) (rest := []) (lenOf own_pd6 rfl) rfl (by show 2 * 0 + _ ≤ _; exact Nat.le_of_eq rfl) (hb hby at_289) (fun _ _ => ⟨rfl, eh180, (by decide : 1 + 0 ≤ _), (by decide : 3 + 0 ≤ _)⟩)
                  dsimp only [Pt.U, Pt.locs, Pt.cells, Pt.slots] at X181 l181 y181 z181 st181 hQ181
                  subst l181 y181 z181
                  obtain ⟨rfl, N181q, eh181⟩ := hQ181
                  have N181 := Fr.app N180 N181q
                  refine Goes.go st181 ?_
                  show Goes p e below s _ _ _ T181 (mkF m 292 #[.val (.int x0), .val (.long x1), .second, .val (.long x2), .second, .val (.long x3), .second, .val (.int (6 : Int32)), .val (.int (1 : Int32)), .val (.int (0 : Int32)), .val (.int (7 : Int32)), .val (.int (6 : Int32)), .val (.ref b132), .val (.int (7 : Int32)), .val (.long (x3 >>> ((1 : Int32) &&& 0x3f).toInt64)), .second, .val (.long (x2 + (x3 >>> ((1 : Int32) &&& 0x3f).toInt64))), .second, .val (.long br_180), .second, .unset, .unset, .val (.int (7 : Int32)), .unset, .unset] [(.long (1000 : Int64))])
                  refine Goes.go (X181.ldc2Long hx hown (mvT hZ (hw _ (List.mem_of_getElem? (i := 52) rfl))) (g := (mkF m 292 #[.val (.int x0), .val (.long x1), .second, .val (.long x2), .second, .val (.long x3), .second, .val (.int (6 : Int32)), .val (.int (1 : Int32)), .val (.int (0 : Int32)), .val (.int (7 : Int32)), .val (.int (6 : Int32)), .val (.ref b132), .val (.int (7 : Int32)), .val (.long (x3 >>> ((1 : Int32) &&& 0x3f).toInt64)), .second, .val (.long (x2 + (x3 >>> ((1 : Int32) &&& 0x3f).toInt64))), .second, .val (.long br_180), .second, .unset, .unset, .val (.int (7 : Int32)), .unset, .unset] [(.long (1000 : Int64))])) rfl (hb hby at_292)) ?_
                  show Goes p e below s _ _ _ T181 (mkF m 295 #[.val (.int x0), .val (.long x1), .second, .val (.long x2), .second, .val (.long x3), .second, .val (.int (6 : Int32)), .val (.int (1 : Int32)), .val (.int (0 : Int32)), .val (.int (7 : Int32)), .val (.int (6 : Int32)), .val (.ref b132), .val (.int (7 : Int32)), .val (.long (x3 >>> ((1 : Int32) &&& 0x3f).toInt64)), .second, .val (.long (x2 + (x3 >>> ((1 : Int32) &&& 0x3f).toInt64))), .second, .val (.long br_180), .second, .unset, .unset, .val (.int (7 : Int32)), .unset, .unset] [(.long (1000000 : Int64)), (.long (1000 : Int64))])
                  refine own_lmul X181 hx 296 rfl (z := (1000000000 : Int64)) (hb hby at_295) (by decide) ?_
                  refine own_lstore X181 hx 298 rfl #[.val (.int x0), .val (.long x1), .second, .val (.long x2), .second, .val (.long x3), .second, .val (.int (6 : Int32)), .val (.int (1 : Int32)), .val (.int (0 : Int32)), .val (.int (7 : Int32)), .val (.int (6 : Int32)), .val (.ref b132), .val (.int (7 : Int32)), .val (.long (x3 >>> ((1 : Int32) &&& 0x3f).toInt64)), .second, .val (.long (x2 + (x3 >>> ((1 : Int32) &&& 0x3f).toInt64))), .second, .val (.long br_180), .second, .unset, .unset, .val (.int (7 : Int32)), .val (.long (1000000000 : Int64)), .second] (hb hby at_296) rfl ?_
                  refine own_lload X181 hx 300 rfl (hb hby at_298) rfl ?_
                  refine own_lload X181 hx 302 rfl (hb hby at_300) rfl ?_
                  refine own_lcmp X181 hx 303 rfl (hb hby at_302) ?_
                  by_cases hc303_182 : (x3 >>> ((1 : Int32) &&& 0x3f).toInt64) < (1000000000 : Int64)
                  · refine own_ifY X181 hx 310 (hb hby at_303) (Ltlt hc303_182).1 (by decide) (by decide) ?_
                    refine own_lload X181 hx 312 rfl (hb hby at_310) rfl ?_
                    refine own_lload X181 hx 314 rfl (hb hby at_312) rfl ?_
                    refine own_lsub X181 hx 315 rfl (hb hby at_314) rfl ?_
                    refine own_lstore X181 hx 317 rfl #[.val (.int x0), .val (.long x1), .second, .val (.long x2), .second, .val (.long x3), .second, .val (.int (6 : Int32)), .val (.int (1 : Int32)), .val (.int (0 : Int32)), .val (.int (7 : Int32)), .val (.int (6 : Int32)), .val (.ref b132), .val (.int (7 : Int32)), .val (.long (x3 >>> ((1 : Int32) &&& 0x3f).toInt64)), .second, .val (.long (x2 + (x3 >>> ((1 : Int32) &&& 0x3f).toInt64))), .second, .val (.long br_180), .second, .val (.long ((1000000000 : Int64) - (x3 >>> ((1 : Int32) &&& 0x3f).toInt64))), .second, .val (.int (7 : Int32)), .val (.long (1000000000 : Int64)), .second] (hb hby at_315) rfl ?_
                    refine own_lload X181 hx 319 rfl (hb hby at_317) rfl ?_
                    refine own_lload X181 hx 321 rfl (hb hby at_319) rfl ?_
                    refine own_lcmp X181 hx 322 rfl (hb hby at_321) ?_
                    refine own_ifN X181 hx 325 (hb hby at_322) (Lteq ((own_fin har hdd (P := (1000000000 : Int64)) (by decide) pr180_0).1 hc303_182 : br_180 = ((1000000000 : Int64) - (x3 >>> ((1 : Int32) &&& 0x3f).toInt64)))).2 rfl ?_
                    refine own_iconst X181 hx 326 rfl (1 : Int32) (hb hby at_325) (by decide) ?_
                    refine own_goto X181 hx 330 (hb hby at_326) (by decide) (by decide) ?_
                    refine own_retZ X181 hx hlk Bd.returns (by decide) (hb hby at_330) (by decide) (by decide) eh181 ?_
                    exact ⟨rfl, N181⟩
                  · refine own_ifN X181 hx 306 (hb hby at_303) (Lflt hc303_182).1 rfl ?_
                    refine own_lconst X181 hx 307 rfl (0 : Int64) (hb hby at_306) (by decide) ?_
                    refine own_goto X181 hx 315 (hb hby at_307) (by decide) (by decide) ?_
                    refine own_lstore X181 hx 317 rfl #[.val (.int x0), .val (.long x1), .second, .val (.long x2), .second, .val (.long x3), .second, .val (.int (6 : Int32)), .val (.int (1 : Int32)), .val (.int (0 : Int32)), .val (.int (7 : Int32)), .val (.int (6 : Int32)), .val (.ref b132), .val (.int (7 : Int32)), .val (.long (x3 >>> ((1 : Int32) &&& 0x3f).toInt64)), .second, .val (.long (x2 + (x3 >>> ((1 : Int32) &&& 0x3f).toInt64))), .second, .val (.long br_180), .second, .val (.long (0 : Int64)), .second, .val (.int (7 : Int32)), .val (.long (1000000000 : Int64)), .second] (hb hby at_315) rfl ?_
                    refine own_lload X181 hx 319 rfl (hb hby at_317) rfl ?_
                    refine own_lload X181 hx 321 rfl (hb hby at_319) rfl ?_
                    refine own_lcmp X181 hx 322 rfl (hb hby at_321) ?_
                    refine own_ifN X181 hx 325 (hb hby at_322) (Lteq ((own_fin har hdd (P := (1000000000 : Int64)) (by decide) pr180_0).2 hc303_182 : br_180 = (0 : Int64))).2 rfl ?_
                    refine own_iconst X181 hx 326 rfl (1 : Int32) (hb hby at_325) (by decide) ?_
                    refine own_goto X181 hx 330 (hb hby at_326) (by decide) (by decide) ?_
                    refine own_retZ X181 hx hlk Bd.returns (by decide) (hb hby at_330) (by decide) (by decide) eh181 ?_
                    exact ⟨rfl, N181⟩
                · refine own_icmpY X170 hx 237 (hb hby at_217) (flt hc217_174).2.2.2 (by decide) (by decide) ?_
                  have hfl := own_gt (k := 4) (by decide) hc194_168
                  have hfh := own_le (k := 5) (by decide) hc217_174
                  obtain rfl : ff = (5 : Int32) := own_pin (k := 5) (by decide) (by omega)
                  obtain rfl : tot = (6 : Int32) := by rw [h_tot]; decide
                  obtain rfl : lst = (5 : Int32) := by rw [h_lst]; decide
                  have hdd := own_sh x3 _ rfl
                  have har : ar_169 = x2 := own_atE pr169_0 (by decide)
                  refine own_lload X170 hx 239 rfl (hb hby at_237) rfl ?_
                  refine own_iconst X170 hx 240 rfl (1 : Int32) (hb hby at_239) (by decide) ?_
                  refine own_lshr X170 hx 241 rfl (hb hby at_240) rfl ?_
                  refine own_lstore X170 hx 243 rfl #[.val (.int x0), .val (.long x1), .second, .val (.long x2), .second, .val (.long x3), .second, .val (.int (5 : Int32)), .val (.int (1 : Int32)), .val (.int (0 : Int32)), .val (.int (6 : Int32)), .val (.int (5 : Int32)), .val (.ref b132), .val (.int (6 : Int32)), .val (.long (x3 >>> ((1 : Int32) &&& 0x3f).toInt64)), .second, .unset, .unset, .unset, .unset, .unset, .unset, .unset, .unset, .unset] (hb hby at_241) rfl ?_
                  refine own_lloadN X170 hx 244 rfl (hb hby at_243) rfl ?_
                  refine own_lload X170 hx 246 rfl (hb hby at_244) rfl ?_
                  refine own_ladd X170 hx 247 rfl (hb hby at_246) rfl ?_
                  refine own_lstore X170 hx 249 rfl #[.val (.int x0), .val (.long x1), .second, .val (.long x2), .second, .val (.long x3), .second, .val (.int (5 : Int32)), .val (.int (1 : Int32)), .val (.int (0 : Int32)), .val (.int (6 : Int32)), .val (.int (5 : Int32)), .val (.ref b132), .val (.int (6 : Int32)), .val (.long (x3 >>> ((1 : Int32) &&& 0x3f).toInt64)), .second, .val (.long (x2 + (x3 >>> ((1 : Int32) &&& 0x3f).toInt64))), .second, .unset, .unset, .unset, .unset, .unset, .unset, .unset] (hb hby at_247) rfl ?_
                  refine own_aload X170 hx 251 rfl (hb hby at_249) rfl rfl ?_
                  refine own_lload X170 hx 253 rfl (hb hby at_251) rfl ?_
                  obtain ⟨cq183, kq183, q183a, q183b, q183c⟩ := isOf hZ rfl f173
                  obtain ⟨_, _, ⟨T183, L183, k183, n183⟩, -, X183, ⟨Lc183, hQ183, l183, y183, z183⟩, st183⟩ := X170.virtualBack hx (y := (⟨"com/example/pooler/pooler/pool/Backoff", "delay", "(J)J"⟩ : MethodName)) (z := (⟨"com/example/pooler/pooler/pool/Backoff", "delay", "(J)J"⟩ : MethodName)) hown (mvT hZ (hw _ (List.mem_of_getElem? (i := 9) rfl))) (mvT hZ (hw _ (List.mem_of_getElem? (i := 10) rfl))) (notFace_of_selects (args := #[]) (mvT hZ (hw _ (List.mem_of_getElem? (i := 12) rfl)))) (mvT hZ (hw _ (List.mem_of_getElem? (i := 12) rfl))) (mvT hZ (hw _ (List.mem_of_getElem? (i := 11) rfl))) (by decide) (backOf (W := 0) (rmde6 l Z a0 hw [] b132 (x2 + (x3 >>> ((1 : Int32) &&& 0x3f).toInt64)) ar_169 T170.heap n0 Z170 f173 f171 f172 f170_0 f170_1 f170_2) hZ (hw _ (List.mem_of_getElem? (i := 13) rfl)) (hw _ (List.mem_of_getElem? (i := 2) rfl)) (by decide) (by decide)) q183a q183c (g := (mkF m 253 #[.val (.int x0), .val (.long x1), .second, .val (.long x2), .second, .val (.long x3), .second, .val (.int (5 : Int32)), .val (.int (1 : Int32)), .val (.int (0 : Int32)), .val (.int (6 : Int32)), .val (.int (5 : Int32)), .val (.ref b132), .val (.int (6 : Int32)), .val (.long (x3 >>> ((1 : Int32) &&& 0x3f).toInt64)), .second, .val (.long (x2 + (x3 >>> ((1 : Int32) &&& 0x3f).toInt64))), .second, .unset, .unset, .unset, .unset, .unset, .unset, .unset] [(.long (x2 + (x3 >>> ((1 : Int32) &&& 0x3f).toInt64))), (.ref b132)])) rfl (by rw [hml]; rfl) (Steps.refl _) (argsL := [(.long (x2 + (x3 >>> ((1 : Int32) &&& 0x3f).toInt64)))]) (rest := []) (lenOf own_pd5 rfl) rfl (by show 2 * 0 + _ ≤ _; exact Nat.le_of_eq rfl) (hb hby at_253) (fun _ _ => ⟨rfl, rfl, (by decide : 1 + 0 ≤ _), (by decide : 3 + 0 ≤ _)⟩)
                  dsimp only [Pt.U, Pt.locs, Pt.cells, Pt.slots] at X183 l183 y183 z183 st183 hQ183
                  subst l183 y183 z183
                  obtain ⟨br_183, rfl, N183q, eh183, pr183_0⟩ := hQ183
                  have N183 := Fr.app N170 N183q
                  refine Goes.tr st183 ?_
                  show Goes p e below s _ _ _ T183 (mkF m 256 #[.val (.int x0), .val (.long x1), .second, .val (.long x2), .second, .val (.long x3), .second, .val (.int (5 : Int32)), .val (.int (1 : Int32)), .val (.int (0 : Int32)), .val (.int (6 : Int32)), .val (.int (5 : Int32)), .val (.ref b132), .val (.int (6 : Int32)), .val (.long (x3 >>> ((1 : Int32) &&& 0x3f).toInt64)), .second, .val (.long (x2 + (x3 >>> ((1 : Int32) &&& 0x3f).toInt64))), .second, .unset, .unset, .unset, .unset, .unset, .unset, .unset] [(.long br_183)])
                  refine own_lstore X183 hx 258 rfl #[.val (.int x0), .val (.long x1), .second, .val (.long x2), .second, .val (.long x3), .second, .val (.int (5 : Int32)), .val (.int (1 : Int32)), .val (.int (0 : Int32)), .val (.int (6 : Int32)), .val (.int (5 : Int32)), .val (.ref b132), .val (.int (6 : Int32)), .val (.long (x3 >>> ((1 : Int32) &&& 0x3f).toInt64)), .second, .val (.long (x2 + (x3 >>> ((1 : Int32) &&& 0x3f).toInt64))), .second, .val (.long br_183), .second, .unset, .unset, .unset, .unset, .unset] (hb hby at_256) rfl ?_
                  refine own_iload X183 hx 260 rfl (hb hby at_258) rfl ?_
                  refine own_ifY X183 hx 269 (hb hby at_260) ((if0 _ _).trans (feq ((by decide) : ¬ ((6 : Int32) = (0 : Int32)))).2) (by decide) (by decide) ?_
                  refine own_iload X183 hx 271 rfl (hb hby at_269) rfl ?_
                  refine own_iconst X183 hx 272 rfl (1 : Int32) (hb hby at_271) (by decide) ?_
                  refine own_icmpY X183 hx 280 (hb hby at_272) (feq ((by decide) : ¬ ((0 : Int32) = (1 : Int32)))).2 (by decide) (by decide) ?_
                  refine own_iload X183 hx 282 rfl (hb hby at_280) rfl ?_
                  refine own_iload X183 hx 284 rfl (hb hby at_282) rfl ?_
                  refine own_iadd X183 hx 285 rfl (z := (6 : Int32)) (hb hby at_284) (by decide) ?_
                  refine own_istore X183 hx 287 rfl #[.val (.int x0), .val (.long x1), .second, .val (.long x2), .second, .val (.long x3), .second, .val (.int (5 : Int32)), .val (.int (1 : Int32)), .val (.int (0 : Int32)), .val (.int (6 : Int32)), .val (.int (5 : Int32)), .val (.ref b132), .val (.int (6 : Int32)), .val (.long (x3 >>> ((1 : Int32) &&& 0x3f).toInt64)), .second, .val (.long (x2 + (x3 >>> ((1 : Int32) &&& 0x3f).toInt64))), .second, .val (.long br_183), .second, .unset, .unset, .val (.int (6 : Int32)), .unset, .unset] (hb hby at_285) rfl ?_
                  refine own_iload X183 hx 289 rfl (hb hby at_287) rfl ?_
                  obtain ⟨_, _, ⟨T184, L184, k184, n184⟩, -, X184, ⟨Lc184, hQ184, l184, y184, z184⟩, st184⟩ := Jvm.LawKit.callS X183 hx (y := (⟨"com/example/pooler/pooler/pool/BackoffDelayPinLaw", "pauseMs", "(I)J"⟩ : MethodName)) hown (mvT hZ (hw _ (List.mem_of_getElem? (i := 48) rfl))) (mvT hZ (hw _ (List.mem_of_getElem? (i := 49) rfl))) (mvT hZ (hw _ (List.mem_of_getElem? (i := 18) rfl))) (mvT hZ (hw _ (List.mem_of_getElem? (i := 50) rfl))) (by decide) (backOf (W := 0) (rmpm6 l Z a0 hw []  T170.heap n0 Z170 ) hZ (hw _ (List.mem_of_getElem? (i := 50) rfl)) (hw _ (List.mem_of_getElem? (i := 18) rfl)) (by decide) (by decide)) (g := (mkF m 289 #[.val (.int x0), .val (.long x1), .second, .val (.long x2), .second, .val (.long x3), .second, .val (.int (5 : Int32)), .val (.int (1 : Int32)), .val (.int (0 : Int32)), .val (.int (6 : Int32)), .val (.int (5 : Int32)), .val (.ref b132), .val (.int (6 : Int32)), .val (.long (x3 >>> ((1 : Int32) &&& 0x3f).toInt64)), .second, .val (.long (x2 + (x3 >>> ((1 : Int32) &&& 0x3f).toInt64))), .second, .val (.long br_183), .second, .unset, .unset, .val (.int (6 : Int32)), .unset, .unset] [(.int (6 : Int32))])) rfl (by rw [hml]; rfl) (argsL := [(.int (6 : Int32))]) (rest := []) (lenOf own_pd6 rfl) rfl (by show 2 * 0 + _ ≤ _; exact Nat.le_of_eq rfl) (hb hby at_289) (fun _ _ => ⟨rfl, eh183, (by decide : 1 + 0 ≤ _), (by decide : 3 + 0 ≤ _)⟩)
                  dsimp only [Pt.U, Pt.locs, Pt.cells, Pt.slots] at X184 l184 y184 z184 st184 hQ184
                  subst l184 y184 z184
                  obtain ⟨rfl, N184q, eh184⟩ := hQ184
                  have N184 := Fr.app N183 N184q
                  refine Goes.go st184 ?_
                  show Goes p e below s _ _ _ T184 (mkF m 292 #[.val (.int x0), .val (.long x1), .second, .val (.long x2), .second, .val (.long x3), .second, .val (.int (5 : Int32)), .val (.int (1 : Int32)), .val (.int (0 : Int32)), .val (.int (6 : Int32)), .val (.int (5 : Int32)), .val (.ref b132), .val (.int (6 : Int32)), .val (.long (x3 >>> ((1 : Int32) &&& 0x3f).toInt64)), .second, .val (.long (x2 + (x3 >>> ((1 : Int32) &&& 0x3f).toInt64))), .second, .val (.long br_183), .second, .unset, .unset, .val (.int (6 : Int32)), .unset, .unset] [(.long (1000 : Int64))])
                  refine Goes.go (X184.ldc2Long hx hown (mvT hZ (hw _ (List.mem_of_getElem? (i := 52) rfl))) (g := (mkF m 292 #[.val (.int x0), .val (.long x1), .second, .val (.long x2), .second, .val (.long x3), .second, .val (.int (5 : Int32)), .val (.int (1 : Int32)), .val (.int (0 : Int32)), .val (.int (6 : Int32)), .val (.int (5 : Int32)), .val (.ref b132), .val (.int (6 : Int32)), .val (.long (x3 >>> ((1 : Int32) &&& 0x3f).toInt64)), .second, .val (.long (x2 + (x3 >>> ((1 : Int32) &&& 0x3f).toInt64))), .second, .val (.long br_183), .second, .unset, .unset, .val (.int (6 : Int32)), .unset, .unset] [(.long (1000 : Int64))])) rfl (hb hby at_292)) ?_
                  show Goes p e below s _ _ _ T184 (mkF m 295 #[.val (.int x0), .val (.long x1), .second, .val (.long x2), .second, .val (.long x3), .second, .val (.int (5 : Int32)), .val (.int (1 : Int32)), .val (.int (0 : Int32)), .val (.int (6 : Int32)), .val (.int (5 : Int32)), .val (.ref b132), .val (.int (6 : Int32)), .val (.long (x3 >>> ((1 : Int32) &&& 0x3f).toInt64)), .second, .val (.long (x2 + (x3 >>> ((1 : Int32) &&& 0x3f).toInt64))), .second, .val (.long br_183), .second, .unset, .unset, .val (.int (6 : Int32)), .unset, .unset] [(.long (1000000 : Int64)), (.long (1000 : Int64))])
                  refine own_lmul X184 hx 296 rfl (z := (1000000000 : Int64)) (hb hby at_295) (by decide) ?_
                  refine own_lstore X184 hx 298 rfl #[.val (.int x0), .val (.long x1), .second, .val (.long x2), .second, .val (.long x3), .second, .val (.int (5 : Int32)), .val (.int (1 : Int32)), .val (.int (0 : Int32)), .val (.int (6 : Int32)), .val (.int (5 : Int32)), .val (.ref b132), .val (.int (6 : Int32)), .val (.long (x3 >>> ((1 : Int32) &&& 0x3f).toInt64)), .second, .val (.long (x2 + (x3 >>> ((1 : Int32) &&& 0x3f).toInt64))), .second, .val (.long br_183), .second, .unset, .unset, .val (.int (6 : Int32)), .val (.long (1000000000 : Int64)), .second] (hb hby at_296) rfl ?_
                  refine own_lload X184 hx 300 rfl (hb hby at_298) rfl ?_
                  refine own_lload X184 hx 302 rfl (hb hby at_300) rfl ?_
                  refine own_lcmp X184 hx 303 rfl (hb hby at_302) ?_
                  by_cases hc303_185 : (x3 >>> ((1 : Int32) &&& 0x3f).toInt64) < (1000000000 : Int64)
                  · refine own_ifY X184 hx 310 (hb hby at_303) (Ltlt hc303_185).1 (by decide) (by decide) ?_
                    refine own_lload X184 hx 312 rfl (hb hby at_310) rfl ?_
                    refine own_lload X184 hx 314 rfl (hb hby at_312) rfl ?_
                    refine own_lsub X184 hx 315 rfl (hb hby at_314) rfl ?_
                    refine own_lstore X184 hx 317 rfl #[.val (.int x0), .val (.long x1), .second, .val (.long x2), .second, .val (.long x3), .second, .val (.int (5 : Int32)), .val (.int (1 : Int32)), .val (.int (0 : Int32)), .val (.int (6 : Int32)), .val (.int (5 : Int32)), .val (.ref b132), .val (.int (6 : Int32)), .val (.long (x3 >>> ((1 : Int32) &&& 0x3f).toInt64)), .second, .val (.long (x2 + (x3 >>> ((1 : Int32) &&& 0x3f).toInt64))), .second, .val (.long br_183), .second, .val (.long ((1000000000 : Int64) - (x3 >>> ((1 : Int32) &&& 0x3f).toInt64))), .second, .val (.int (6 : Int32)), .val (.long (1000000000 : Int64)), .second] (hb hby at_315) rfl ?_
                    refine own_lload X184 hx 319 rfl (hb hby at_317) rfl ?_
                    refine own_lload X184 hx 321 rfl (hb hby at_319) rfl ?_
                    refine own_lcmp X184 hx 322 rfl (hb hby at_321) ?_
                    refine own_ifN X184 hx 325 (hb hby at_322) (Lteq ((own_fin har hdd (P := (1000000000 : Int64)) (by decide) pr183_0).1 hc303_185 : br_183 = ((1000000000 : Int64) - (x3 >>> ((1 : Int32) &&& 0x3f).toInt64)))).2 rfl ?_
                    refine own_iconst X184 hx 326 rfl (1 : Int32) (hb hby at_325) (by decide) ?_
                    refine own_goto X184 hx 330 (hb hby at_326) (by decide) (by decide) ?_
                    refine own_retZ X184 hx hlk Bd.returns (by decide) (hb hby at_330) (by decide) (by decide) eh184 ?_
                    exact ⟨rfl, N184⟩
                  · refine own_ifN X184 hx 306 (hb hby at_303) (Lflt hc303_185).1 rfl ?_
                    refine own_lconst X184 hx 307 rfl (0 : Int64) (hb hby at_306) (by decide) ?_
                    refine own_goto X184 hx 315 (hb hby at_307) (by decide) (by decide) ?_
                    refine own_lstore X184 hx 317 rfl #[.val (.int x0), .val (.long x1), .second, .val (.long x2), .second, .val (.long x3), .second, .val (.int (5 : Int32)), .val (.int (1 : Int32)), .val (.int (0 : Int32)), .val (.int (6 : Int32)), .val (.int (5 : Int32)), .val (.ref b132), .val (.int (6 : Int32)), .val (.long (x3 >>> ((1 : Int32) &&& 0x3f).toInt64)), .second, .val (.long (x2 + (x3 >>> ((1 : Int32) &&& 0x3f).toInt64))), .second, .val (.long br_183), .second, .val (.long (0 : Int64)), .second, .val (.int (6 : Int32)), .val (.long (1000000000 : Int64)), .second] (hb hby at_315) rfl ?_
                    refine own_lload X184 hx 319 rfl (hb hby at_317) rfl ?_
                    refine own_lload X184 hx 321 rfl (hb hby at_319) rfl ?_
                    refine own_lcmp X184 hx 322 rfl (hb hby at_321) ?_
                    refine own_ifN X184 hx 325 (hb hby at_322) (Lteq ((own_fin har hdd (P := (1000000000 : Int64)) (by decide) pr183_0).2 hc303_185 : br_183 = (0 : Int64))).2 rfl ?_
                    refine own_iconst X184 hx 326 rfl (1 : Int32) (hb hby at_325) (by decide) ?_
                    refine own_goto X184 hx 330 (hb hby at_326) (by decide) (by decide) ?_
                    refine own_retZ X184 hx hlk Bd.returns (by decide) (hb hby at_330) (by decide) (by decide) eh184 ?_
                    exact ⟨rfl, N184⟩
              · refine own_icmpY X164 hx 214 (hb hby at_194) (flt hc194_168).2.2.2 (by decide) (by decide) ?_
                refine own_iload X164 hx 216 rfl (hb hby at_214) rfl ?_
                refine own_iconst X164 hx 217 rfl (5 : Int32) (hb hby at_216) (by decide) ?_
                refine own_icmpY X164 hx 237 (hb hby at_217) (flt (own_down hc194_168 (by decide) : ¬ ((5 : Int32) < ff))).2.2.2 (by decide) (by decide) ?_
                have hfl := own_gt (k := 3) (by decide) hc171_162
                have hfh := own_le (k := 4) (by decide) hc194_168
                obtain rfl : ff = (4 : Int32) := own_pin (k := 4) (by decide) (by omega)
                obtain rfl : tot = (5 : Int32) := by rw [h_tot]; decide
                obtain rfl : lst = (4 : Int32) := by rw [h_lst]; decide
                have hdd := own_sh x3 _ rfl
                have har : ar_163 = x2 := own_atE pr163_0 (by decide)
                refine own_lload X164 hx 239 rfl (hb hby at_237) rfl ?_
                refine own_iconst X164 hx 240 rfl (1 : Int32) (hb hby at_239) (by decide) ?_
                refine own_lshr X164 hx 241 rfl (hb hby at_240) rfl ?_
                refine own_lstore X164 hx 243 rfl #[.val (.int x0), .val (.long x1), .second, .val (.long x2), .second, .val (.long x3), .second, .val (.int (4 : Int32)), .val (.int (1 : Int32)), .val (.int (0 : Int32)), .val (.int (5 : Int32)), .val (.int (4 : Int32)), .val (.ref b132), .val (.int (5 : Int32)), .val (.long (x3 >>> ((1 : Int32) &&& 0x3f).toInt64)), .second, .unset, .unset, .unset, .unset, .unset, .unset, .unset, .unset, .unset] (hb hby at_241) rfl ?_
                refine own_lloadN X164 hx 244 rfl (hb hby at_243) rfl ?_
                refine own_lload X164 hx 246 rfl (hb hby at_244) rfl ?_
                refine own_ladd X164 hx 247 rfl (hb hby at_246) rfl ?_
                refine own_lstore X164 hx 249 rfl #[.val (.int x0), .val (.long x1), .second, .val (.long x2), .second, .val (.long x3), .second, .val (.int (4 : Int32)), .val (.int (1 : Int32)), .val (.int (0 : Int32)), .val (.int (5 : Int32)), .val (.int (4 : Int32)), .val (.ref b132), .val (.int (5 : Int32)), .val (.long (x3 >>> ((1 : Int32) &&& 0x3f).toInt64)), .second, .val (.long (x2 + (x3 >>> ((1 : Int32) &&& 0x3f).toInt64))), .second, .unset, .unset, .unset, .unset, .unset, .unset, .unset] (hb hby at_247) rfl ?_
                refine own_aload X164 hx 251 rfl (hb hby at_249) rfl rfl ?_
                refine own_lload X164 hx 253 rfl (hb hby at_251) rfl ?_
                obtain ⟨cq186, kq186, q186a, q186b, q186c⟩ := isOf hZ rfl f167
                obtain ⟨_, _, ⟨T186, L186, k186, n186⟩, -, X186, ⟨Lc186, hQ186, l186, y186, z186⟩, st186⟩ := X164.virtualBack hx (y := (⟨"com/example/pooler/pooler/pool/Backoff", "delay", "(J)J"⟩ : MethodName)) (z := (⟨"com/example/pooler/pooler/pool/Backoff", "delay", "(J)J"⟩ : MethodName)) hown (mvT hZ (hw _ (List.mem_of_getElem? (i := 9) rfl))) (mvT hZ (hw _ (List.mem_of_getElem? (i := 10) rfl))) (notFace_of_selects (args := #[]) (mvT hZ (hw _ (List.mem_of_getElem? (i := 12) rfl)))) (mvT hZ (hw _ (List.mem_of_getElem? (i := 12) rfl))) (mvT hZ (hw _ (List.mem_of_getElem? (i := 11) rfl))) (by decide) (backOf (W := 0) (rmde5 l Z a0 hw [] b132 (x2 + (x3 >>> ((1 : Int32) &&& 0x3f).toInt64)) ar_163 T164.heap n0 Z164 f167 f165 f166 f164_0 f164_1 f164_2) hZ (hw _ (List.mem_of_getElem? (i := 13) rfl)) (hw _ (List.mem_of_getElem? (i := 2) rfl)) (by decide) (by decide)) q186a q186c (g := (mkF m 253 #[.val (.int x0), .val (.long x1), .second, .val (.long x2), .second, .val (.long x3), .second, .val (.int (4 : Int32)), .val (.int (1 : Int32)), .val (.int (0 : Int32)), .val (.int (5 : Int32)), .val (.int (4 : Int32)), .val (.ref b132), .val (.int (5 : Int32)), .val (.long (x3 >>> ((1 : Int32) &&& 0x3f).toInt64)), .second, .val (.long (x2 + (x3 >>> ((1 : Int32) &&& 0x3f).toInt64))), .second, .unset, .unset, .unset, .unset, .unset, .unset, .unset] [(.long (x2 + (x3 >>> ((1 : Int32) &&& 0x3f).toInt64))), (.ref b132)])) rfl (by rw [hml]; rfl) (Steps.refl _) (argsL := [(.long (x2 + (x3 >>> ((1 : Int32) &&& 0x3f).toInt64)))]) (rest := []) (lenOf own_pd5 rfl) rfl (by show 2 * 0 + _ ≤ _; exact Nat.le_of_eq rfl) (hb hby at_253) (fun _ _ => ⟨rfl, rfl, (by decide : 1 + 0 ≤ _), (by decide : 3 + 0 ≤ _)⟩)
                dsimp only [Pt.U, Pt.locs, Pt.cells, Pt.slots] at X186 l186 y186 z186 st186 hQ186
                subst l186 y186 z186
                obtain ⟨br_186, rfl, N186q, eh186, pr186_0⟩ := hQ186
                have N186 := Fr.app N164 N186q
                refine Goes.tr st186 ?_
                show Goes p e below s _ _ _ T186 (mkF m 256 #[.val (.int x0), .val (.long x1), .second, .val (.long x2), .second, .val (.long x3), .second, .val (.int (4 : Int32)), .val (.int (1 : Int32)), .val (.int (0 : Int32)), .val (.int (5 : Int32)), .val (.int (4 : Int32)), .val (.ref b132), .val (.int (5 : Int32)), .val (.long (x3 >>> ((1 : Int32) &&& 0x3f).toInt64)), .second, .val (.long (x2 + (x3 >>> ((1 : Int32) &&& 0x3f).toInt64))), .second, .unset, .unset, .unset, .unset, .unset, .unset, .unset] [(.long br_186)])
                refine own_lstore X186 hx 258 rfl #[.val (.int x0), .val (.long x1), .second, .val (.long x2), .second, .val (.long x3), .second, .val (.int (4 : Int32)), .val (.int (1 : Int32)), .val (.int (0 : Int32)), .val (.int (5 : Int32)), .val (.int (4 : Int32)), .val (.ref b132), .val (.int (5 : Int32)), .val (.long (x3 >>> ((1 : Int32) &&& 0x3f).toInt64)), .second, .val (.long (x2 + (x3 >>> ((1 : Int32) &&& 0x3f).toInt64))), .second, .val (.long br_186), .second, .unset, .unset, .unset, .unset, .unset] (hb hby at_256) rfl ?_
                refine own_iload X186 hx 260 rfl (hb hby at_258) rfl ?_
                refine own_ifY X186 hx 269 (hb hby at_260) ((if0 _ _).trans (feq ((by decide) : ¬ ((5 : Int32) = (0 : Int32)))).2) (by decide) (by decide) ?_
                refine own_iload X186 hx 271 rfl (hb hby at_269) rfl ?_
                refine own_iconst X186 hx 272 rfl (1 : Int32) (hb hby at_271) (by decide) ?_
                refine own_icmpY X186 hx 280 (hb hby at_272) (feq ((by decide) : ¬ ((0 : Int32) = (1 : Int32)))).2 (by decide) (by decide) ?_
                refine own_iload X186 hx 282 rfl (hb hby at_280) rfl ?_
                refine own_iload X186 hx 284 rfl (hb hby at_282) rfl ?_
                refine own_iadd X186 hx 285 rfl (z := (5 : Int32)) (hb hby at_284) (by decide) ?_
                refine own_istore X186 hx 287 rfl #[.val (.int x0), .val (.long x1), .second, .val (.long x2), .second, .val (.long x3), .second, .val (.int (4 : Int32)), .val (.int (1 : Int32)), .val (.int (0 : Int32)), .val (.int (5 : Int32)), .val (.int (4 : Int32)), .val (.ref b132), .val (.int (5 : Int32)), .val (.long (x3 >>> ((1 : Int32) &&& 0x3f).toInt64)), .second, .val (.long (x2 + (x3 >>> ((1 : Int32) &&& 0x3f).toInt64))), .second, .val (.long br_186), .second, .unset, .unset, .val (.int (5 : Int32)), .unset, .unset] (hb hby at_285) rfl ?_
                refine own_iload X186 hx 289 rfl (hb hby at_287) rfl ?_
                obtain ⟨_, _, ⟨T187, L187, k187, n187⟩, -, X187, ⟨Lc187, hQ187, l187, y187, z187⟩, st187⟩ := Jvm.LawKit.callS X186 hx (y := (⟨"com/example/pooler/pooler/pool/BackoffDelayPinLaw", "pauseMs", "(I)J"⟩ : MethodName)) hown (mvT hZ (hw _ (List.mem_of_getElem? (i := 48) rfl))) (mvT hZ (hw _ (List.mem_of_getElem? (i := 49) rfl))) (mvT hZ (hw _ (List.mem_of_getElem? (i := 18) rfl))) (mvT hZ (hw _ (List.mem_of_getElem? (i := 50) rfl))) (by decide) (backOf (W := 0) (rmpm5 l Z a0 hw []  T164.heap n0 Z164 ) hZ (hw _ (List.mem_of_getElem? (i := 50) rfl)) (hw _ (List.mem_of_getElem? (i := 18) rfl)) (by decide) (by decide)) (g := (mkF m 289 #[.val (.int x0), .val (.long x1), .second, .val (.long x2), .second, .val (.long x3), .second, .val (.int (4 : Int32)), .val (.int (1 : Int32)), .val (.int (0 : Int32)), .val (.int (5 : Int32)), .val (.int (4 : Int32)), .val (.ref b132), .val (.int (5 : Int32)), .val (.long (x3 >>> ((1 : Int32) &&& 0x3f).toInt64)), .second, .val (.long (x2 + (x3 >>> ((1 : Int32) &&& 0x3f).toInt64))), .second, .val (.long br_186), .second, .unset, .unset, .val (.int (5 : Int32)), .unset, .unset] [(.int (5 : Int32))])) rfl (by rw [hml]; rfl) (argsL := [(.int (5 : Int32))]) (rest := []) (lenOf own_pd6 rfl) rfl (by show 2 * 0 + _ ≤ _; exact Nat.le_of_eq rfl) (hb hby at_289) (fun _ _ => ⟨rfl, eh186, (by decide : 1 + 0 ≤ _), (by decide : 3 + 0 ≤ _)⟩)
                dsimp only [Pt.U, Pt.locs, Pt.cells, Pt.slots] at X187 l187 y187 z187 st187 hQ187
                subst l187 y187 z187
                obtain ⟨rfl, N187q, eh187⟩ := hQ187
                have N187 := Fr.app N186 N187q
                refine Goes.go st187 ?_
                show Goes p e below s _ _ _ T187 (mkF m 292 #[.val (.int x0), .val (.long x1), .second, .val (.long x2), .second, .val (.long x3), .second, .val (.int (4 : Int32)), .val (.int (1 : Int32)), .val (.int (0 : Int32)), .val (.int (5 : Int32)), .val (.int (4 : Int32)), .val (.ref b132), .val (.int (5 : Int32)), .val (.long (x3 >>> ((1 : Int32) &&& 0x3f).toInt64)), .second, .val (.long (x2 + (x3 >>> ((1 : Int32) &&& 0x3f).toInt64))), .second, .val (.long br_186), .second, .unset, .unset, .val (.int (5 : Int32)), .unset, .unset] [(.long (1000 : Int64))])
                refine Goes.go (X187.ldc2Long hx hown (mvT hZ (hw _ (List.mem_of_getElem? (i := 52) rfl))) (g := (mkF m 292 #[.val (.int x0), .val (.long x1), .second, .val (.long x2), .second, .val (.long x3), .second, .val (.int (4 : Int32)), .val (.int (1 : Int32)), .val (.int (0 : Int32)), .val (.int (5 : Int32)), .val (.int (4 : Int32)), .val (.ref b132), .val (.int (5 : Int32)), .val (.long (x3 >>> ((1 : Int32) &&& 0x3f).toInt64)), .second, .val (.long (x2 + (x3 >>> ((1 : Int32) &&& 0x3f).toInt64))), .second, .val (.long br_186), .second, .unset, .unset, .val (.int (5 : Int32)), .unset, .unset] [(.long (1000 : Int64))])) rfl (hb hby at_292)) ?_
                show Goes p e below s _ _ _ T187 (mkF m 295 #[.val (.int x0), .val (.long x1), .second, .val (.long x2), .second, .val (.long x3), .second, .val (.int (4 : Int32)), .val (.int (1 : Int32)), .val (.int (0 : Int32)), .val (.int (5 : Int32)), .val (.int (4 : Int32)), .val (.ref b132), .val (.int (5 : Int32)), .val (.long (x3 >>> ((1 : Int32) &&& 0x3f).toInt64)), .second, .val (.long (x2 + (x3 >>> ((1 : Int32) &&& 0x3f).toInt64))), .second, .val (.long br_186), .second, .unset, .unset, .val (.int (5 : Int32)), .unset, .unset] [(.long (1000000 : Int64)), (.long (1000 : Int64))])
                refine own_lmul X187 hx 296 rfl (z := (1000000000 : Int64)) (hb hby at_295) (by decide) ?_
                refine own_lstore X187 hx 298 rfl #[.val (.int x0), .val (.long x1), .second, .val (.long x2), .second, .val (.long x3), .second, .val (.int (4 : Int32)), .val (.int (1 : Int32)), .val (.int (0 : Int32)), .val (.int (5 : Int32)), .val (.int (4 : Int32)), .val (.ref b132), .val (.int (5 : Int32)), .val (.long (x3 >>> ((1 : Int32) &&& 0x3f).toInt64)), .second, .val (.long (x2 + (x3 >>> ((1 : Int32) &&& 0x3f).toInt64))), .second, .val (.long br_186), .second, .unset, .unset, .val (.int (5 : Int32)), .val (.long (1000000000 : Int64)), .second] (hb hby at_296) rfl ?_
                refine own_lload X187 hx 300 rfl (hb hby at_298) rfl ?_
                refine own_lload X187 hx 302 rfl (hb hby at_300) rfl ?_
                refine own_lcmp X187 hx 303 rfl (hb hby at_302) ?_
                by_cases hc303_188 : (x3 >>> ((1 : Int32) &&& 0x3f).toInt64) < (1000000000 : Int64)
                · refine own_ifY X187 hx 310 (hb hby at_303) (Ltlt hc303_188).1 (by decide) (by decide) ?_
                  refine own_lload X187 hx 312 rfl (hb hby at_310) rfl ?_
                  refine own_lload X187 hx 314 rfl (hb hby at_312) rfl ?_
                  refine own_lsub X187 hx 315 rfl (hb hby at_314) rfl ?_
                  refine own_lstore X187 hx 317 rfl #[.val (.int x0), .val (.long x1), .second, .val (.long x2), .second, .val (.long x3), .second, .val (.int (4 : Int32)), .val (.int (1 : Int32)), .val (.int (0 : Int32)), .val (.int (5 : Int32)), .val (.int (4 : Int32)), .val (.ref b132), .val (.int (5 : Int32)), .val (.long (x3 >>> ((1 : Int32) &&& 0x3f).toInt64)), .second, .val (.long (x2 + (x3 >>> ((1 : Int32) &&& 0x3f).toInt64))), .second, .val (.long br_186), .second, .val (.long ((1000000000 : Int64) - (x3 >>> ((1 : Int32) &&& 0x3f).toInt64))), .second, .val (.int (5 : Int32)), .val (.long (1000000000 : Int64)), .second] (hb hby at_315) rfl ?_
                  refine own_lload X187 hx 319 rfl (hb hby at_317) rfl ?_
                  refine own_lload X187 hx 321 rfl (hb hby at_319) rfl ?_
                  refine own_lcmp X187 hx 322 rfl (hb hby at_321) ?_
                  refine own_ifN X187 hx 325 (hb hby at_322) (Lteq ((own_fin har hdd (P := (1000000000 : Int64)) (by decide) pr186_0).1 hc303_188 : br_186 = ((1000000000 : Int64) - (x3 >>> ((1 : Int32) &&& 0x3f).toInt64)))).2 rfl ?_
                  refine own_iconst X187 hx 326 rfl (1 : Int32) (hb hby at_325) (by decide) ?_
                  refine own_goto X187 hx 330 (hb hby at_326) (by decide) (by decide) ?_
                  refine own_retZ X187 hx hlk Bd.returns (by decide) (hb hby at_330) (by decide) (by decide) eh187 ?_
                  exact ⟨rfl, N187⟩
                · refine own_ifN X187 hx 306 (hb hby at_303) (Lflt hc303_188).1 rfl ?_
                  refine own_lconst X187 hx 307 rfl (0 : Int64) (hb hby at_306) (by decide) ?_
                  refine own_goto X187 hx 315 (hb hby at_307) (by decide) (by decide) ?_
                  refine own_lstore X187 hx 317 rfl #[.val (.int x0), .val (.long x1), .second, .val (.long x2), .second, .val (.long x3), .second, .val (.int (4 : Int32)), .val (.int (1 : Int32)), .val (.int (0 : Int32)), .val (.int (5 : Int32)), .val (.int (4 : Int32)), .val (.ref b132), .val (.int (5 : Int32)), .val (.long (x3 >>> ((1 : Int32) &&& 0x3f).toInt64)), .second, .val (.long (x2 + (x3 >>> ((1 : Int32) &&& 0x3f).toInt64))), .second, .val (.long br_186), .second, .val (.long (0 : Int64)), .second, .val (.int (5 : Int32)), .val (.long (1000000000 : Int64)), .second] (hb hby at_315) rfl ?_
                  refine own_lload X187 hx 319 rfl (hb hby at_317) rfl ?_
                  refine own_lload X187 hx 321 rfl (hb hby at_319) rfl ?_
                  refine own_lcmp X187 hx 322 rfl (hb hby at_321) ?_
                  refine own_ifN X187 hx 325 (hb hby at_322) (Lteq ((own_fin har hdd (P := (1000000000 : Int64)) (by decide) pr186_0).2 hc303_188 : br_186 = (0 : Int64))).2 rfl ?_
                  refine own_iconst X187 hx 326 rfl (1 : Int32) (hb hby at_325) (by decide) ?_
                  refine own_goto X187 hx 330 (hb hby at_326) (by decide) (by decide) ?_
                  refine own_retZ X187 hx hlk Bd.returns (by decide) (hb hby at_330) (by decide) (by decide) eh187 ?_
                  exact ⟨rfl, N187⟩
            · refine own_icmpY X158 hx 191 (hb hby at_171) (flt hc171_162).2.2.2 (by decide) (by decide) ?_
              refine own_iload X158 hx 193 rfl (hb hby at_191) rfl ?_
              refine own_iconst X158 hx 194 rfl (4 : Int32) (hb hby at_193) (by decide) ?_
              refine own_icmpY X158 hx 214 (hb hby at_194) (flt (own_down hc171_162 (by decide) : ¬ ((4 : Int32) < ff))).2.2.2 (by decide) (by decide) ?_
              refine own_iload X158 hx 216 rfl (hb hby at_214) rfl ?_
              refine own_iconst X158 hx 217 rfl (5 : Int32) (hb hby at_216) (by decide) ?_
              refine own_icmpY X158 hx 237 (hb hby at_217) (flt (own_down hc171_162 (by decide) : ¬ ((5 : Int32) < ff))).2.2.2 (by decide) (by decide) ?_
              have hfl := own_gt (k := 2) (by decide) hc148_156
              have hfh := own_le (k := 3) (by decide) hc171_162
              obtain rfl : ff = (3 : Int32) := own_pin (k := 3) (by decide) (by omega)
              obtain rfl : tot = (4 : Int32) := by rw [h_tot]; decide
              obtain rfl : lst = (3 : Int32) := by rw [h_lst]; decide
              have hdd := own_sh x3 _ rfl
              have har : ar_157 = x2 := own_atE pr157_0 (by decide)
              refine own_lload X158 hx 239 rfl (hb hby at_237) rfl ?_
              refine own_iconst X158 hx 240 rfl (1 : Int32) (hb hby at_239) (by decide) ?_
              refine own_lshr X158 hx 241 rfl (hb hby at_240) rfl ?_
              refine own_lstore X158 hx 243 rfl #[.val (.int x0), .val (.long x1), .second, .val (.long x2), .second, .val (.long x3), .second, .val (.int (3 : Int32)), .val (.int (1 : Int32)), .val (.int (0 : Int32)), .val (.int (4 : Int32)), .val (.int (3 : Int32)), .val (.ref b132), .val (.int (4 : Int32)), .val (.long (x3 >>> ((1 : Int32) &&& 0x3f).toInt64)), .second, .unset, .unset, .unset, .unset, .unset, .unset, .unset, .unset, .unset] (hb hby at_241) rfl ?_
              refine own_lloadN X158 hx 244 rfl (hb hby at_243) rfl ?_
              refine own_lload X158 hx 246 rfl (hb hby at_244) rfl ?_
              refine own_ladd X158 hx 247 rfl (hb hby at_246) rfl ?_
              refine own_lstore X158 hx 249 rfl #[.val (.int x0), .val (.long x1), .second, .val (.long x2), .second, .val (.long x3), .second, .val (.int (3 : Int32)), .val (.int (1 : Int32)), .val (.int (0 : Int32)), .val (.int (4 : Int32)), .val (.int (3 : Int32)), .val (.ref b132), .val (.int (4 : Int32)), .val (.long (x3 >>> ((1 : Int32) &&& 0x3f).toInt64)), .second, .val (.long (x2 + (x3 >>> ((1 : Int32) &&& 0x3f).toInt64))), .second, .unset, .unset, .unset, .unset, .unset, .unset, .unset] (hb hby at_247) rfl ?_
              refine own_aload X158 hx 251 rfl (hb hby at_249) rfl rfl ?_
              refine own_lload X158 hx 253 rfl (hb hby at_251) rfl ?_
              obtain ⟨cq189, kq189, q189a, q189b, q189c⟩ := isOf hZ rfl f161
              obtain ⟨_, _, ⟨T189, L189, k189, n189⟩, -, X189, ⟨Lc189, hQ189, l189, y189, z189⟩, st189⟩ := X158.virtualBack hx (y := (⟨"com/example/pooler/pooler/pool/Backoff", "delay", "(J)J"⟩ : MethodName)) (z := (⟨"com/example/pooler/pooler/pool/Backoff", "delay", "(J)J"⟩ : MethodName)) hown (mvT hZ (hw _ (List.mem_of_getElem? (i := 9) rfl))) (mvT hZ (hw _ (List.mem_of_getElem? (i := 10) rfl))) (notFace_of_selects (args := #[]) (mvT hZ (hw _ (List.mem_of_getElem? (i := 12) rfl)))) (mvT hZ (hw _ (List.mem_of_getElem? (i := 12) rfl))) (mvT hZ (hw _ (List.mem_of_getElem? (i := 11) rfl))) (by decide) (backOf (W := 0) (rmde4 l Z a0 hw [] b132 (x2 + (x3 >>> ((1 : Int32) &&& 0x3f).toInt64)) ar_157 T158.heap n0 Z158 f161 f159 f160 f158_0 f158_1 f158_2) hZ (hw _ (List.mem_of_getElem? (i := 13) rfl)) (hw _ (List.mem_of_getElem? (i := 2) rfl)) (by decide) (by decide)) q189a q189c (g := (mkF m 253 #[.val (.int x0), .val (.long x1), .second, .val (.long x2), .second, .val (.long x3), .second, .val (.int (3 : Int32)), .val (.int (1 : Int32)), .val (.int (0 : Int32)), .val (.int (4 : Int32)), .val (.int (3 : Int32)), .val (.ref b132), .val (.int (4 : Int32)), .val (.long (x3 >>> ((1 : Int32) &&& 0x3f).toInt64)), .second, .val (.long (x2 + (x3 >>> ((1 : Int32) &&& 0x3f).toInt64))), .second, .unset, .unset, .unset, .unset, .unset, .unset, .unset] [(.long (x2 + (x3 >>> ((1 : Int32) &&& 0x3f).toInt64))), (.ref b132)])) rfl (by rw [hml]; rfl) (Steps.refl _) (argsL := [(.long (x2 + (x3 >>> ((1 : Int32) &&& 0x3f).toInt64)))]) (rest := []) (lenOf own_pd5 rfl) rfl (by show 2 * 0 + _ ≤ _; exact Nat.le_of_eq rfl) (hb hby at_253) (fun _ _ => ⟨rfl, rfl, (by decide : 1 + 0 ≤ _), (by decide : 3 + 0 ≤ _)⟩)
              dsimp only [Pt.U, Pt.locs, Pt.cells, Pt.slots] at X189 l189 y189 z189 st189 hQ189
              subst l189 y189 z189
              obtain ⟨br_189, rfl, N189q, eh189, pr189_0⟩ := hQ189
              have N189 := Fr.app N158 N189q
              refine Goes.tr st189 ?_
              show Goes p e below s _ _ _ T189 (mkF m 256 #[.val (.int x0), .val (.long x1), .second, .val (.long x2), .second, .val (.long x3), .second, .val (.int (3 : Int32)), .val (.int (1 : Int32)), .val (.int (0 : Int32)), .val (.int (4 : Int32)), .val (.int (3 : Int32)), .val (.ref b132), .val (.int (4 : Int32)), .val (.long (x3 >>> ((1 : Int32) &&& 0x3f).toInt64)), .second, .val (.long (x2 + (x3 >>> ((1 : Int32) &&& 0x3f).toInt64))), .second, .unset, .unset, .unset, .unset, .unset, .unset, .unset] [(.long br_189)])
              refine own_lstore X189 hx 258 rfl #[.val (.int x0), .val (.long x1), .second, .val (.long x2), .second, .val (.long x3), .second, .val (.int (3 : Int32)), .val (.int (1 : Int32)), .val (.int (0 : Int32)), .val (.int (4 : Int32)), .val (.int (3 : Int32)), .val (.ref b132), .val (.int (4 : Int32)), .val (.long (x3 >>> ((1 : Int32) &&& 0x3f).toInt64)), .second, .val (.long (x2 + (x3 >>> ((1 : Int32) &&& 0x3f).toInt64))), .second, .val (.long br_189), .second, .unset, .unset, .unset, .unset, .unset] (hb hby at_256) rfl ?_
              refine own_iload X189 hx 260 rfl (hb hby at_258) rfl ?_
              refine own_ifY X189 hx 269 (hb hby at_260) ((if0 _ _).trans (feq ((by decide) : ¬ ((4 : Int32) = (0 : Int32)))).2) (by decide) (by decide) ?_
              refine own_iload X189 hx 271 rfl (hb hby at_269) rfl ?_
              refine own_iconst X189 hx 272 rfl (1 : Int32) (hb hby at_271) (by decide) ?_
              refine own_icmpY X189 hx 280 (hb hby at_272) (feq ((by decide) : ¬ ((0 : Int32) = (1 : Int32)))).2 (by decide) (by decide) ?_
              refine own_iload X189 hx 282 rfl (hb hby at_280) rfl ?_
              refine own_iload X189 hx 284 rfl (hb hby at_282) rfl ?_
              refine own_iadd X189 hx 285 rfl (z := (4 : Int32)) (hb hby at_284) (by decide) ?_
              refine own_istore X189 hx 287 rfl #[.val (.int x0), .val (.long x1), .second, .val (.long x2), .second, .val (.long x3), .second, .val (.int (3 : Int32)), .val (.int (1 : Int32)), .val (.int (0 : Int32)), .val (.int (4 : Int32)), .val (.int (3 : Int32)), .val (.ref b132), .val (.int (4 : Int32)), .val (.long (x3 >>> ((1 : Int32) &&& 0x3f).toInt64)), .second, .val (.long (x2 + (x3 >>> ((1 : Int32) &&& 0x3f).toInt64))), .second, .val (.long br_189), .second, .unset, .unset, .val (.int (4 : Int32)), .unset, .unset] (hb hby at_285) rfl ?_
              refine own_iload X189 hx 289 rfl (hb hby at_287) rfl ?_
              obtain ⟨_, _, ⟨T190, L190, k190, n190⟩, -, X190, ⟨Lc190, hQ190, l190, y190, z190⟩, st190⟩ := Jvm.LawKit.callS X189 hx (y := (⟨"com/example/pooler/pooler/pool/BackoffDelayPinLaw", "pauseMs", "(I)J"⟩ : MethodName)) hown (mvT hZ (hw _ (List.mem_of_getElem? (i := 48) rfl))) (mvT hZ (hw _ (List.mem_of_getElem? (i := 49) rfl))) (mvT hZ (hw _ (List.mem_of_getElem? (i := 18) rfl))) (mvT hZ (hw _ (List.mem_of_getElem? (i := 50) rfl))) (by decide) (backOf (W := 0) (rmpm4 l Z a0 hw []  T158.heap n0 Z158 ) hZ (hw _ (List.mem_of_getElem? (i := 50) rfl)) (hw _ (List.mem_of_getElem? (i := 18) rfl)) (by decide) (by decide)) (g := (mkF m 289 #[.val (.int x0), .val (.long x1), .second, .val (.long x2), .second, .val (.long x3), .second, .val (.int (3 : Int32)), .val (.int (1 : Int32)), .val (.int (0 : Int32)), .val (.int (4 : Int32)), .val (.int (3 : Int32)), .val (.ref b132), .val (.int (4 : Int32)), .val (.long (x3 >>> ((1 : Int32) &&& 0x3f).toInt64)), .second, .val (.long (x2 + (x3 >>> ((1 : Int32) &&& 0x3f).toInt64))), .second, .val (.long br_189), .second, .unset, .unset, .val (.int (4 : Int32)), .unset, .unset] [(.int (4 : Int32))])) rfl (by rw [hml]; rfl) (argsL := [(.int (4 : Int32))]) (rest := []) (lenOf own_pd6 rfl) rfl (by show 2 * 0 + _ ≤ _; exact Nat.le_of_eq rfl) (hb hby at_289) (fun _ _ => ⟨rfl, eh189, (by decide : 1 + 0 ≤ _), (by decide : 3 + 0 ≤ _)⟩)
              dsimp only [Pt.U, Pt.locs, Pt.cells, Pt.slots] at X190 l190 y190 z190 st190 hQ190
              subst l190 y190 z190
              obtain ⟨rfl, N190q, eh190⟩ := hQ190
              have N190 := Fr.app N189 N190q
              refine Goes.go st190 ?_
              show Goes p e below s _ _ _ T190 (mkF m 292 #[.val (.int x0), .val (.long x1), .second, .val (.long x2), .second, .val (.long x3), .second, .val (.int (3 : Int32)), .val (.int (1 : Int32)), .val (.int (0 : Int32)), .val (.int (4 : Int32)), .val (.int (3 : Int32)), .val (.ref b132), .val (.int (4 : Int32)), .val (.long (x3 >>> ((1 : Int32) &&& 0x3f).toInt64)), .second, .val (.long (x2 + (x3 >>> ((1 : Int32) &&& 0x3f).toInt64))), .second, .val (.long br_189), .second, .unset, .unset, .val (.int (4 : Int32)), .unset, .unset] [(.long (800 : Int64))])
              refine Goes.go (X190.ldc2Long hx hown (mvT hZ (hw _ (List.mem_of_getElem? (i := 52) rfl))) (g := (mkF m 292 #[.val (.int x0), .val (.long x1), .second, .val (.long x2), .second, .val (.long x3), .second, .val (.int (3 : Int32)), .val (.int (1 : Int32)), .val (.int (0 : Int32)), .val (.int (4 : Int32)), .val (.int (3 : Int32)), .val (.ref b132), .val (.int (4 : Int32)), .val (.long (x3 >>> ((1 : Int32) &&& 0x3f).toInt64)), .second, .val (.long (x2 + (x3 >>> ((1 : Int32) &&& 0x3f).toInt64))), .second, .val (.long br_189), .second, .unset, .unset, .val (.int (4 : Int32)), .unset, .unset] [(.long (800 : Int64))])) rfl (hb hby at_292)) ?_
              show Goes p e below s _ _ _ T190 (mkF m 295 #[.val (.int x0), .val (.long x1), .second, .val (.long x2), .second, .val (.long x3), .second, .val (.int (3 : Int32)), .val (.int (1 : Int32)), .val (.int (0 : Int32)), .val (.int (4 : Int32)), .val (.int (3 : Int32)), .val (.ref b132), .val (.int (4 : Int32)), .val (.long (x3 >>> ((1 : Int32) &&& 0x3f).toInt64)), .second, .val (.long (x2 + (x3 >>> ((1 : Int32) &&& 0x3f).toInt64))), .second, .val (.long br_189), .second, .unset, .unset, .val (.int (4 : Int32)), .unset, .unset] [(.long (1000000 : Int64)), (.long (800 : Int64))])
              refine own_lmul X190 hx 296 rfl (z := (800000000 : Int64)) (hb hby at_295) (by decide) ?_
              refine own_lstore X190 hx 298 rfl #[.val (.int x0), .val (.long x1), .second, .val (.long x2), .second, .val (.long x3), .second, .val (.int (3 : Int32)), .val (.int (1 : Int32)), .val (.int (0 : Int32)), .val (.int (4 : Int32)), .val (.int (3 : Int32)), .val (.ref b132), .val (.int (4 : Int32)), .val (.long (x3 >>> ((1 : Int32) &&& 0x3f).toInt64)), .second, .val (.long (x2 + (x3 >>> ((1 : Int32) &&& 0x3f).toInt64))), .second, .val (.long br_189), .second, .unset, .unset, .val (.int (4 : Int32)), .val (.long (800000000 : Int64)), .second] (hb hby at_296) rfl ?_
              refine own_lload X190 hx 300 rfl (hb hby at_298) rfl ?_
              refine own_lload X190 hx 302 rfl (hb hby at_300) rfl ?_
              refine own_lcmp X190 hx 303 rfl (hb hby at_302) ?_
              by_cases hc303_191 : (x3 >>> ((1 : Int32) &&& 0x3f).toInt64) < (800000000 : Int64)
              · refine own_ifY X190 hx 310 (hb hby at_303) (Ltlt hc303_191).1 (by decide) (by decide) ?_
                refine own_lload X190 hx 312 rfl (hb hby at_310) rfl ?_
                refine own_lload X190 hx 314 rfl (hb hby at_312) rfl ?_
                refine own_lsub X190 hx 315 rfl (hb hby at_314) rfl ?_
                refine own_lstore X190 hx 317 rfl #[.val (.int x0), .val (.long x1), .second, .val (.long x2), .second, .val (.long x3), .second, .val (.int (3 : Int32)), .val (.int (1 : Int32)), .val (.int (0 : Int32)), .val (.int (4 : Int32)), .val (.int (3 : Int32)), .val (.ref b132), .val (.int (4 : Int32)), .val (.long (x3 >>> ((1 : Int32) &&& 0x3f).toInt64)), .second, .val (.long (x2 + (x3 >>> ((1 : Int32) &&& 0x3f).toInt64))), .second, .val (.long br_189), .second, .val (.long ((800000000 : Int64) - (x3 >>> ((1 : Int32) &&& 0x3f).toInt64))), .second, .val (.int (4 : Int32)), .val (.long (800000000 : Int64)), .second] (hb hby at_315) rfl ?_
                refine own_lload X190 hx 319 rfl (hb hby at_317) rfl ?_
                refine own_lload X190 hx 321 rfl (hb hby at_319) rfl ?_
                refine own_lcmp X190 hx 322 rfl (hb hby at_321) ?_
                refine own_ifN X190 hx 325 (hb hby at_322) (Lteq ((own_fin har hdd (P := (800000000 : Int64)) (by decide) pr189_0).1 hc303_191 : br_189 = ((800000000 : Int64) - (x3 >>> ((1 : Int32) &&& 0x3f).toInt64)))).2 rfl ?_
                refine own_iconst X190 hx 326 rfl (1 : Int32) (hb hby at_325) (by decide) ?_
                refine own_goto X190 hx 330 (hb hby at_326) (by decide) (by decide) ?_
                refine own_retZ X190 hx hlk Bd.returns (by decide) (hb hby at_330) (by decide) (by decide) eh190 ?_
                exact ⟨rfl, N190⟩
              · refine own_ifN X190 hx 306 (hb hby at_303) (Lflt hc303_191).1 rfl ?_
                refine own_lconst X190 hx 307 rfl (0 : Int64) (hb hby at_306) (by decide) ?_
                refine own_goto X190 hx 315 (hb hby at_307) (by decide) (by decide) ?_
                refine own_lstore X190 hx 317 rfl #[.val (.int x0), .val (.long x1), .second, .val (.long x2), .second, .val (.long x3), .second, .val (.int (3 : Int32)), .val (.int (1 : Int32)), .val (.int (0 : Int32)), .val (.int (4 : Int32)), .val (.int (3 : Int32)), .val (.ref b132), .val (.int (4 : Int32)), .val (.long (x3 >>> ((1 : Int32) &&& 0x3f).toInt64)), .second, .val (.long (x2 + (x3 >>> ((1 : Int32) &&& 0x3f).toInt64))), .second, .val (.long br_189), .second, .val (.long (0 : Int64)), .second, .val (.int (4 : Int32)), .val (.long (800000000 : Int64)), .second] (hb hby at_315) rfl ?_
                refine own_lload X190 hx 319 rfl (hb hby at_317) rfl ?_
                refine own_lload X190 hx 321 rfl (hb hby at_319) rfl ?_
                refine own_lcmp X190 hx 322 rfl (hb hby at_321) ?_
                refine own_ifN X190 hx 325 (hb hby at_322) (Lteq ((own_fin har hdd (P := (800000000 : Int64)) (by decide) pr189_0).2 hc303_191 : br_189 = (0 : Int64))).2 rfl ?_
                refine own_iconst X190 hx 326 rfl (1 : Int32) (hb hby at_325) (by decide) ?_
                refine own_goto X190 hx 330 (hb hby at_326) (by decide) (by decide) ?_
                refine own_retZ X190 hx hlk Bd.returns (by decide) (hb hby at_330) (by decide) (by decide) eh190 ?_
                exact ⟨rfl, N190⟩
          · refine own_icmpY X152 hx 168 (hb hby at_148) (flt hc148_156).2.2.2 (by decide) (by decide) ?_
            refine own_iload X152 hx 170 rfl (hb hby at_168) rfl ?_
            refine own_iconst X152 hx 171 rfl (3 : Int32) (hb hby at_170) (by decide) ?_
            refine own_icmpY X152 hx 191 (hb hby at_171) (flt (own_down hc148_156 (by decide) : ¬ ((3 : Int32) < ff))).2.2.2 (by decide) (by decide) ?_
            refine own_iload X152 hx 193 rfl (hb hby at_191) rfl ?_
            refine own_iconst X152 hx 194 rfl (4 : Int32) (hb hby at_193) (by decide) ?_
            refine own_icmpY X152 hx 214 (hb hby at_194) (flt (own_down hc148_156 (by decide) : ¬ ((4 : Int32) < ff))).2.2.2 (by decide) (by decide) ?_
            refine own_iload X152 hx 216 rfl (hb hby at_214) rfl ?_
            refine own_iconst X152 hx 217 rfl (5 : Int32) (hb hby at_216) (by decide) ?_
            refine own_icmpY X152 hx 237 (hb hby at_217) (flt (own_down hc148_156 (by decide) : ¬ ((5 : Int32) < ff))).2.2.2 (by decide) (by decide) ?_
            have hfl := own_gt (k := 1) (by decide) hc125_150
            have hfh := own_le (k := 2) (by decide) hc148_156
            obtain rfl : ff = (2 : Int32) := own_pin (k := 2) (by decide) (by omega)
            obtain rfl : tot = (3 : Int32) := by rw [h_tot]; decide
            obtain rfl : lst = (2 : Int32) := by rw [h_lst]; decide
            have hdd := own_sh x3 _ rfl
            have har : ar_151 = x2 := own_atE pr151_0 (by decide)
            refine own_lload X152 hx 239 rfl (hb hby at_237) rfl ?_
            refine own_iconst X152 hx 240 rfl (1 : Int32) (hb hby at_239) (by decide) ?_
            refine own_lshr X152 hx 241 rfl (hb hby at_240) rfl ?_
            refine own_lstore X152 hx 243 rfl #[.val (.int x0), .val (.long x1), .second, .val (.long x2), .second, .val (.long x3), .second, .val (.int (2 : Int32)), .val (.int (1 : Int32)), .val (.int (0 : Int32)), .val (.int (3 : Int32)), .val (.int (2 : Int32)), .val (.ref b132), .val (.int (3 : Int32)), .val (.long (x3 >>> ((1 : Int32) &&& 0x3f).toInt64)), .second, .unset, .unset, .unset, .unset, .unset, .unset, .unset, .unset, .unset] (hb hby at_241) rfl ?_
            refine own_lloadN X152 hx 244 rfl (hb hby at_243) rfl ?_
            refine own_lload X152 hx 246 rfl (hb hby at_244) rfl ?_
            refine own_ladd X152 hx 247 rfl (hb hby at_246) rfl ?_
            refine own_lstore X152 hx 249 rfl #[.val (.int x0), .val (.long x1), .second, .val (.long x2), .second, .val (.long x3), .second, .val (.int (2 : Int32)), .val (.int (1 : Int32)), .val (.int (0 : Int32)), .val (.int (3 : Int32)), .val (.int (2 : Int32)), .val (.ref b132), .val (.int (3 : Int32)), .val (.long (x3 >>> ((1 : Int32) &&& 0x3f).toInt64)), .second, .val (.long (x2 + (x3 >>> ((1 : Int32) &&& 0x3f).toInt64))), .second, .unset, .unset, .unset, .unset, .unset, .unset, .unset] (hb hby at_247) rfl ?_
            refine own_aload X152 hx 251 rfl (hb hby at_249) rfl rfl ?_
            refine own_lload X152 hx 253 rfl (hb hby at_251) rfl ?_
            obtain ⟨cq192, kq192, q192a, q192b, q192c⟩ := isOf hZ rfl f155
            obtain ⟨_, _, ⟨T192, L192, k192, n192⟩, -, X192, ⟨Lc192, hQ192, l192, y192, z192⟩, st192⟩ := X152.virtualBack hx (y := (⟨"com/example/pooler/pooler/pool/Backoff", "delay", "(J)J"⟩ : MethodName)) (z := (⟨"com/example/pooler/pooler/pool/Backoff", "delay", "(J)J"⟩ : MethodName)) hown (mvT hZ (hw _ (List.mem_of_getElem? (i := 9) rfl))) (mvT hZ (hw _ (List.mem_of_getElem? (i := 10) rfl))) (notFace_of_selects (args := #[]) (mvT hZ (hw _ (List.mem_of_getElem? (i := 12) rfl)))) (mvT hZ (hw _ (List.mem_of_getElem? (i := 12) rfl))) (mvT hZ (hw _ (List.mem_of_getElem? (i := 11) rfl))) (by decide) (backOf (W := 0) (rmde3 l Z a0 hw [] b132 (x2 + (x3 >>> ((1 : Int32) &&& 0x3f).toInt64)) ar_151 T152.heap n0 Z152 f155 f153 f154 f152_0 f152_1 f152_2) hZ (hw _ (List.mem_of_getElem? (i := 13) rfl)) (hw _ (List.mem_of_getElem? (i := 2) rfl)) (by decide) (by decide)) q192a q192c (g := (mkF m 253 #[.val (.int x0), .val (.long x1), .second, .val (.long x2), .second, .val (.long x3), .second, .val (.int (2 : Int32)), .val (.int (1 : Int32)), .val (.int (0 : Int32)), .val (.int (3 : Int32)), .val (.int (2 : Int32)), .val (.ref b132), .val (.int (3 : Int32)), .val (.long (x3 >>> ((1 : Int32) &&& 0x3f).toInt64)), .second, .val (.long (x2 + (x3 >>> ((1 : Int32) &&& 0x3f).toInt64))), .second, .unset, .unset, .unset, .unset, .unset, .unset, .unset] [(.long (x2 + (x3 >>> ((1 : Int32) &&& 0x3f).toInt64))), (.ref b132)])) rfl (by rw [hml]; rfl) (Steps.refl _) (argsL := [(.long (x2 + (x3 >>> ((1 : Int32) &&& 0x3f).toInt64)))]) (rest := []) (lenOf own_pd5 rfl) rfl (by show 2 * 0 + _ ≤ _; exact Nat.le_of_eq rfl) (hb hby at_253) (fun _ _ => ⟨rfl, rfl, (by decide : 1 + 0 ≤ _), (by decide : 3 + 0 ≤ _)⟩)
            dsimp only [Pt.U, Pt.locs, Pt.cells, Pt.slots] at X192 l192 y192 z192 st192 hQ192
            subst l192 y192 z192
            obtain ⟨br_192, rfl, N192q, eh192, pr192_0⟩ := hQ192
            have N192 := Fr.app N152 N192q
            refine Goes.tr st192 ?_
            show Goes p e below s _ _ _ T192 (mkF m 256 #[.val (.int x0), .val (.long x1), .second, .val (.long x2), .second, .val (.long x3), .second, .val (.int (2 : Int32)), .val (.int (1 : Int32)), .val (.int (0 : Int32)), .val (.int (3 : Int32)), .val (.int (2 : Int32)), .val (.ref b132), .val (.int (3 : Int32)), .val (.long (x3 >>> ((1 : Int32) &&& 0x3f).toInt64)), .second, .val (.long (x2 + (x3 >>> ((1 : Int32) &&& 0x3f).toInt64))), .second, .unset, .unset, .unset, .unset, .unset, .unset, .unset] [(.long br_192)])
            refine own_lstore X192 hx 258 rfl #[.val (.int x0), .val (.long x1), .second, .val (.long x2), .second, .val (.long x3), .second, .val (.int (2 : Int32)), .val (.int (1 : Int32)), .val (.int (0 : Int32)), .val (.int (3 : Int32)), .val (.int (2 : Int32)), .val (.ref b132), .val (.int (3 : Int32)), .val (.long (x3 >>> ((1 : Int32) &&& 0x3f).toInt64)), .second, .val (.long (x2 + (x3 >>> ((1 : Int32) &&& 0x3f).toInt64))), .second, .val (.long br_192), .second, .unset, .unset, .unset, .unset, .unset] (hb hby at_256) rfl ?_
            refine own_iload X192 hx 260 rfl (hb hby at_258) rfl ?_
            refine own_ifY X192 hx 269 (hb hby at_260) ((if0 _ _).trans (feq ((by decide) : ¬ ((3 : Int32) = (0 : Int32)))).2) (by decide) (by decide) ?_
            refine own_iload X192 hx 271 rfl (hb hby at_269) rfl ?_
            refine own_iconst X192 hx 272 rfl (1 : Int32) (hb hby at_271) (by decide) ?_
            refine own_icmpY X192 hx 280 (hb hby at_272) (feq ((by decide) : ¬ ((0 : Int32) = (1 : Int32)))).2 (by decide) (by decide) ?_
            refine own_iload X192 hx 282 rfl (hb hby at_280) rfl ?_
            refine own_iload X192 hx 284 rfl (hb hby at_282) rfl ?_
            refine own_iadd X192 hx 285 rfl (z := (3 : Int32)) (hb hby at_284) (by decide) ?_
            refine own_istore X192 hx 287 rfl #[.val (.int x0), .val (.long x1), .second, .val (.long x2), .second, .val (.long x3), .second, .val (.int (2 : Int32)), .val (.int (1 : Int32)), .val (.int (0 : Int32)), .val (.int (3 : Int32)), .val (.int (2 : Int32)), .val (.ref b132), .val (.int (3 : Int32)), .val (.long (x3 >>> ((1 : Int32) &&& 0x3f).toInt64)), .second, .val (.long (x2 + (x3 >>> ((1 : Int32) &&& 0x3f).toInt64))), .second, .val (.long br_192), .second, .unset, .unset, .val (.int (3 : Int32)), .unset, .unset] (hb hby at_285) rfl ?_
            refine own_iload X192 hx 289 rfl (hb hby at_287) rfl ?_
            obtain ⟨_, _, ⟨T193, L193, k193, n193⟩, -, X193, ⟨Lc193, hQ193, l193, y193, z193⟩, st193⟩ := Jvm.LawKit.callS X192 hx (y := (⟨"com/example/pooler/pooler/pool/BackoffDelayPinLaw", "pauseMs", "(I)J"⟩ : MethodName)) hown (mvT hZ (hw _ (List.mem_of_getElem? (i := 48) rfl))) (mvT hZ (hw _ (List.mem_of_getElem? (i := 49) rfl))) (mvT hZ (hw _ (List.mem_of_getElem? (i := 18) rfl))) (mvT hZ (hw _ (List.mem_of_getElem? (i := 50) rfl))) (by decide) (backOf (W := 0) (rmpm3 l Z a0 hw []  T152.heap n0 Z152 ) hZ (hw _ (List.mem_of_getElem? (i := 50) rfl)) (hw _ (List.mem_of_getElem? (i := 18) rfl)) (by decide) (by decide)) (g := (mkF m 289 #[.val (.int x0), .val (.long x1), .second, .val (.long x2), .second, .val (.long x3), .second, .val (.int (2 : Int32)), .val (.int (1 : Int32)), .val (.int (0 : Int32)), .val (.int (3 : Int32)), .val (.int (2 : Int32)), .val (.ref b132), .val (.int (3 : Int32)), .val (.long (x3 >>> ((1 : Int32) &&& 0x3f).toInt64)), .second, .val (.long (x2 + (x3 >>> ((1 : Int32) &&& 0x3f).toInt64))), .second, .val (.long br_192), .second, .unset, .unset, .val (.int (3 : Int32)), .unset, .unset] [(.int (3 : Int32))])) rfl (by rw [hml]; rfl) (argsL := [(.int (3 : Int32))]) (rest := []) (lenOf own_pd6 rfl) rfl (by show 2 * 0 + _ ≤ _; exact Nat.le_of_eq rfl) (hb hby at_289) (fun _ _ => ⟨rfl, eh192, (by decide : 1 + 0 ≤ _), (by decide : 3 + 0 ≤ _)⟩)
            dsimp only [Pt.U, Pt.locs, Pt.cells, Pt.slots] at X193 l193 y193 z193 st193 hQ193
            subst l193 y193 z193
            obtain ⟨rfl, N193q, eh193⟩ := hQ193
            have N193 := Fr.app N192 N193q
            refine Goes.go st193 ?_
            show Goes p e below s _ _ _ T193 (mkF m 292 #[.val (.int x0), .val (.long x1), .second, .val (.long x2), .second, .val (.long x3), .second, .val (.int (2 : Int32)), .val (.int (1 : Int32)), .val (.int (0 : Int32)), .val (.int (3 : Int32)), .val (.int (2 : Int32)), .val (.ref b132), .val (.int (3 : Int32)), .val (.long (x3 >>> ((1 : Int32) &&& 0x3f).toInt64)), .second, .val (.long (x2 + (x3 >>> ((1 : Int32) &&& 0x3f).toInt64))), .second, .val (.long br_192), .second, .unset, .unset, .val (.int (3 : Int32)), .unset, .unset] [(.long (400 : Int64))])
            refine Goes.go (X193.ldc2Long hx hown (mvT hZ (hw _ (List.mem_of_getElem? (i := 52) rfl))) (g := (mkF m 292 #[.val (.int x0), .val (.long x1), .second, .val (.long x2), .second, .val (.long x3), .second, .val (.int (2 : Int32)), .val (.int (1 : Int32)), .val (.int (0 : Int32)), .val (.int (3 : Int32)), .val (.int (2 : Int32)), .val (.ref b132), .val (.int (3 : Int32)), .val (.long (x3 >>> ((1 : Int32) &&& 0x3f).toInt64)), .second, .val (.long (x2 + (x3 >>> ((1 : Int32) &&& 0x3f).toInt64))), .second, .val (.long br_192), .second, .unset, .unset, .val (.int (3 : Int32)), .unset, .unset] [(.long (400 : Int64))])) rfl (hb hby at_292)) ?_
            show Goes p e below s _ _ _ T193 (mkF m 295 #[.val (.int x0), .val (.long x1), .second, .val (.long x2), .second, .val (.long x3), .second, .val (.int (2 : Int32)), .val (.int (1 : Int32)), .val (.int (0 : Int32)), .val (.int (3 : Int32)), .val (.int (2 : Int32)), .val (.ref b132), .val (.int (3 : Int32)), .val (.long (x3 >>> ((1 : Int32) &&& 0x3f).toInt64)), .second, .val (.long (x2 + (x3 >>> ((1 : Int32) &&& 0x3f).toInt64))), .second, .val (.long br_192), .second, .unset, .unset, .val (.int (3 : Int32)), .unset, .unset] [(.long (1000000 : Int64)), (.long (400 : Int64))])
            refine own_lmul X193 hx 296 rfl (z := (400000000 : Int64)) (hb hby at_295) (by decide) ?_
            refine own_lstore X193 hx 298 rfl #[.val (.int x0), .val (.long x1), .second, .val (.long x2), .second, .val (.long x3), .second, .val (.int (2 : Int32)), .val (.int (1 : Int32)), .val (.int (0 : Int32)), .val (.int (3 : Int32)), .val (.int (2 : Int32)), .val (.ref b132), .val (.int (3 : Int32)), .val (.long (x3 >>> ((1 : Int32) &&& 0x3f).toInt64)), .second, .val (.long (x2 + (x3 >>> ((1 : Int32) &&& 0x3f).toInt64))), .second, .val (.long br_192), .second, .unset, .unset, .val (.int (3 : Int32)), .val (.long (400000000 : Int64)), .second] (hb hby at_296) rfl ?_
            refine own_lload X193 hx 300 rfl (hb hby at_298) rfl ?_
            refine own_lload X193 hx 302 rfl (hb hby at_300) rfl ?_
            refine own_lcmp X193 hx 303 rfl (hb hby at_302) ?_
            by_cases hc303_194 : (x3 >>> ((1 : Int32) &&& 0x3f).toInt64) < (400000000 : Int64)
            · refine own_ifY X193 hx 310 (hb hby at_303) (Ltlt hc303_194).1 (by decide) (by decide) ?_
              refine own_lload X193 hx 312 rfl (hb hby at_310) rfl ?_
              refine own_lload X193 hx 314 rfl (hb hby at_312) rfl ?_
              refine own_lsub X193 hx 315 rfl (hb hby at_314) rfl ?_
              refine own_lstore X193 hx 317 rfl #[.val (.int x0), .val (.long x1), .second, .val (.long x2), .second, .val (.long x3), .second, .val (.int (2 : Int32)), .val (.int (1 : Int32)), .val (.int (0 : Int32)), .val (.int (3 : Int32)), .val (.int (2 : Int32)), .val (.ref b132), .val (.int (3 : Int32)), .val (.long (x3 >>> ((1 : Int32) &&& 0x3f).toInt64)), .second, .val (.long (x2 + (x3 >>> ((1 : Int32) &&& 0x3f).toInt64))), .second, .val (.long br_192), .second, .val (.long ((400000000 : Int64) - (x3 >>> ((1 : Int32) &&& 0x3f).toInt64))), .second, .val (.int (3 : Int32)), .val (.long (400000000 : Int64)), .second] (hb hby at_315) rfl ?_
              refine own_lload X193 hx 319 rfl (hb hby at_317) rfl ?_
              refine own_lload X193 hx 321 rfl (hb hby at_319) rfl ?_
              refine own_lcmp X193 hx 322 rfl (hb hby at_321) ?_
              refine own_ifN X193 hx 325 (hb hby at_322) (Lteq ((own_fin har hdd (P := (400000000 : Int64)) (by decide) pr192_0).1 hc303_194 : br_192 = ((400000000 : Int64) - (x3 >>> ((1 : Int32) &&& 0x3f).toInt64)))).2 rfl ?_
              refine own_iconst X193 hx 326 rfl (1 : Int32) (hb hby at_325) (by decide) ?_
              refine own_goto X193 hx 330 (hb hby at_326) (by decide) (by decide) ?_
              refine own_retZ X193 hx hlk Bd.returns (by decide) (hb hby at_330) (by decide) (by decide) eh193 ?_
              exact ⟨rfl, N193⟩
            · refine own_ifN X193 hx 306 (hb hby at_303) (Lflt hc303_194).1 rfl ?_
              refine own_lconst X193 hx 307 rfl (0 : Int64) (hb hby at_306) (by decide) ?_
              refine own_goto X193 hx 315 (hb hby at_307) (by decide) (by decide) ?_
              refine own_lstore X193 hx 317 rfl #[.val (.int x0), .val (.long x1), .second, .val (.long x2), .second, .val (.long x3), .second, .val (.int (2 : Int32)), .val (.int (1 : Int32)), .val (.int (0 : Int32)), .val (.int (3 : Int32)), .val (.int (2 : Int32)), .val (.ref b132), .val (.int (3 : Int32)), .val (.long (x3 >>> ((1 : Int32) &&& 0x3f).toInt64)), .second, .val (.long (x2 + (x3 >>> ((1 : Int32) &&& 0x3f).toInt64))), .second, .val (.long br_192), .second, .val (.long (0 : Int64)), .second, .val (.int (3 : Int32)), .val (.long (400000000 : Int64)), .second] (hb hby at_315) rfl ?_
              refine own_lload X193 hx 319 rfl (hb hby at_317) rfl ?_
              refine own_lload X193 hx 321 rfl (hb hby at_319) rfl ?_
              refine own_lcmp X193 hx 322 rfl (hb hby at_321) ?_
              refine own_ifN X193 hx 325 (hb hby at_322) (Lteq ((own_fin har hdd (P := (400000000 : Int64)) (by decide) pr192_0).2 hc303_194 : br_192 = (0 : Int64))).2 rfl ?_
              refine own_iconst X193 hx 326 rfl (1 : Int32) (hb hby at_325) (by decide) ?_
              refine own_goto X193 hx 330 (hb hby at_326) (by decide) (by decide) ?_
              refine own_retZ X193 hx hlk Bd.returns (by decide) (hb hby at_330) (by decide) (by decide) eh193 ?_
              exact ⟨rfl, N193⟩
        · refine own_icmpY X146 hx 145 (hb hby at_125) (flt hc125_150).2.2.2 (by decide) (by decide) ?_
          refine own_iload X146 hx 147 rfl (hb hby at_145) rfl ?_
          refine own_iconst X146 hx 148 rfl (2 : Int32) (hb hby at_147) (by decide) ?_
          refine own_icmpY X146 hx 168 (hb hby at_148) (flt (own_down hc125_150 (by decide) : ¬ ((2 : Int32) < ff))).2.2.2 (by decide) (by decide) ?_
          refine own_iload X146 hx 170 rfl (hb hby at_168) rfl ?_
          refine own_iconst X146 hx 171 rfl (3 : Int32) (hb hby at_170) (by decide) ?_
          refine own_icmpY X146 hx 191 (hb hby at_171) (flt (own_down hc125_150 (by decide) : ¬ ((3 : Int32) < ff))).2.2.2 (by decide) (by decide) ?_
          refine own_iload X146 hx 193 rfl (hb hby at_191) rfl ?_
          refine own_iconst X146 hx 194 rfl (4 : Int32) (hb hby at_193) (by decide) ?_
          refine own_icmpY X146 hx 214 (hb hby at_194) (flt (own_down hc125_150 (by decide) : ¬ ((4 : Int32) < ff))).2.2.2 (by decide) (by decide) ?_
          refine own_iload X146 hx 216 rfl (hb hby at_214) rfl ?_
          refine own_iconst X146 hx 217 rfl (5 : Int32) (hb hby at_216) (by decide) ?_
          refine own_icmpY X146 hx 237 (hb hby at_217) (flt (own_down hc125_150 (by decide) : ¬ ((5 : Int32) < ff))).2.2.2 (by decide) (by decide) ?_
          have hfl := own_gt (k := 0) (by decide) hc102_144
          have hfh := own_le (k := 1) (by decide) hc125_150
          obtain rfl : ff = (1 : Int32) := own_pin (k := 1) (by decide) (by omega)
          obtain rfl : tot = (2 : Int32) := by rw [h_tot]; decide
          obtain rfl : lst = (1 : Int32) := by rw [h_lst]; decide
          have hdd := own_sh x3 _ rfl
          have har : ar_145 = x2 := own_atE pr145_0 (by decide)
          refine own_lload X146 hx 239 rfl (hb hby at_237) rfl ?_
          refine own_iconst X146 hx 240 rfl (1 : Int32) (hb hby at_239) (by decide) ?_
          refine own_lshr X146 hx 241 rfl (hb hby at_240) rfl ?_
          refine own_lstore X146 hx 243 rfl #[.val (.int x0), .val (.long x1), .second, .val (.long x2), .second, .val (.long x3), .second, .val (.int (1 : Int32)), .val (.int (1 : Int32)), .val (.int (0 : Int32)), .val (.int (2 : Int32)), .val (.int (1 : Int32)), .val (.ref b132), .val (.int (2 : Int32)), .val (.long (x3 >>> ((1 : Int32) &&& 0x3f).toInt64)), .second, .unset, .unset, .unset, .unset, .unset, .unset, .unset, .unset, .unset] (hb hby at_241) rfl ?_
          refine own_lloadN X146 hx 244 rfl (hb hby at_243) rfl ?_
          refine own_lload X146 hx 246 rfl (hb hby at_244) rfl ?_
          refine own_ladd X146 hx 247 rfl (hb hby at_246) rfl ?_
          refine own_lstore X146 hx 249 rfl #[.val (.int x0), .val (.long x1), .second, .val (.long x2), .second, .val (.long x3), .second, .val (.int (1 : Int32)), .val (.int (1 : Int32)), .val (.int (0 : Int32)), .val (.int (2 : Int32)), .val (.int (1 : Int32)), .val (.ref b132), .val (.int (2 : Int32)), .val (.long (x3 >>> ((1 : Int32) &&& 0x3f).toInt64)), .second, .val (.long (x2 + (x3 >>> ((1 : Int32) &&& 0x3f).toInt64))), .second, .unset, .unset, .unset, .unset, .unset, .unset, .unset] (hb hby at_247) rfl ?_
          refine own_aload X146 hx 251 rfl (hb hby at_249) rfl rfl ?_
          refine own_lload X146 hx 253 rfl (hb hby at_251) rfl ?_
          obtain ⟨cq195, kq195, q195a, q195b, q195c⟩ := isOf hZ rfl f149
          obtain ⟨_, _, ⟨T195, L195, k195, n195⟩, -, X195, ⟨Lc195, hQ195, l195, y195, z195⟩, st195⟩ := X146.virtualBack hx (y := (⟨"com/example/pooler/pooler/pool/Backoff", "delay", "(J)J"⟩ : MethodName)) (z := (⟨"com/example/pooler/pooler/pool/Backoff", "delay", "(J)J"⟩ : MethodName)) hown (mvT hZ (hw _ (List.mem_of_getElem? (i := 9) rfl))) (mvT hZ (hw _ (List.mem_of_getElem? (i := 10) rfl))) (notFace_of_selects (args := #[]) (mvT hZ (hw _ (List.mem_of_getElem? (i := 12) rfl)))) (mvT hZ (hw _ (List.mem_of_getElem? (i := 12) rfl))) (mvT hZ (hw _ (List.mem_of_getElem? (i := 11) rfl))) (by decide) (backOf (W := 0) (rmde2 l Z a0 hw [] b132 (x2 + (x3 >>> ((1 : Int32) &&& 0x3f).toInt64)) ar_145 T146.heap n0 Z146 f149 f147 f148 f146_0 f146_1 f146_2) hZ (hw _ (List.mem_of_getElem? (i := 13) rfl)) (hw _ (List.mem_of_getElem? (i := 2) rfl)) (by decide) (by decide)) q195a q195c (g := (mkF m 253 #[.val (.int x0), .val (.long x1), .second, .val (.long x2), .second, .val (.long x3), .second, .val (.int (1 : Int32)), .val (.int (1 : Int32)), .val (.int (0 : Int32)), .val (.int (2 : Int32)), .val (.int (1 : Int32)), .val (.ref b132), .val (.int (2 : Int32)), .val (.long (x3 >>> ((1 : Int32) &&& 0x3f).toInt64)), .second, .val (.long (x2 + (x3 >>> ((1 : Int32) &&& 0x3f).toInt64))), .second, .unset, .unset, .unset, .unset, .unset, .unset, .unset] [(.long (x2 + (x3 >>> ((1 : Int32) &&& 0x3f).toInt64))), (.ref b132)])) rfl (by rw [hml]; rfl) (Steps.refl _) (argsL := [(.long (x2 + (x3 >>> ((1 : Int32) &&& 0x3f).toInt64)))]) (rest := []) (lenOf own_pd5 rfl) rfl (by show 2 * 0 + _ ≤ _; exact Nat.le_of_eq rfl) (hb hby at_253) (fun _ _ => ⟨rfl, rfl, (by decide : 1 + 0 ≤ _), (by decide : 3 + 0 ≤ _)⟩)
          dsimp only [Pt.U, Pt.locs, Pt.cells, Pt.slots] at X195 l195 y195 z195 st195 hQ195
          subst l195 y195 z195
          obtain ⟨br_195, rfl, N195q, eh195, pr195_0⟩ := hQ195
          have N195 := Fr.app N146 N195q
          refine Goes.tr st195 ?_
          show Goes p e below s _ _ _ T195 (mkF m 256 #[.val (.int x0), .val (.long x1), .second, .val (.long x2), .second, .val (.long x3), .second, .val (.int (1 : Int32)), .val (.int (1 : Int32)), .val (.int (0 : Int32)), .val (.int (2 : Int32)), .val (.int (1 : Int32)), .val (.ref b132), .val (.int (2 : Int32)), .val (.long (x3 >>> ((1 : Int32) &&& 0x3f).toInt64)), .second, .val (.long (x2 + (x3 >>> ((1 : Int32) &&& 0x3f).toInt64))), .second, .unset, .unset, .unset, .unset, .unset, .unset, .unset] [(.long br_195)])
          refine own_lstore X195 hx 258 rfl #[.val (.int x0), .val (.long x1), .second, .val (.long x2), .second, .val (.long x3), .second, .val (.int (1 : Int32)), .val (.int (1 : Int32)), .val (.int (0 : Int32)), .val (.int (2 : Int32)), .val (.int (1 : Int32)), .val (.ref b132), .val (.int (2 : Int32)), .val (.long (x3 >>> ((1 : Int32) &&& 0x3f).toInt64)), .second, .val (.long (x2 + (x3 >>> ((1 : Int32) &&& 0x3f).toInt64))), .second, .val (.long br_195), .second, .unset, .unset, .unset, .unset, .unset] (hb hby at_256) rfl ?_
          refine own_iload X195 hx 260 rfl (hb hby at_258) rfl ?_
          refine own_ifY X195 hx 269 (hb hby at_260) ((if0 _ _).trans (feq ((by decide) : ¬ ((2 : Int32) = (0 : Int32)))).2) (by decide) (by decide) ?_
          refine own_iload X195 hx 271 rfl (hb hby at_269) rfl ?_
          refine own_iconst X195 hx 272 rfl (1 : Int32) (hb hby at_271) (by decide) ?_
          refine own_icmpY X195 hx 280 (hb hby at_272) (feq ((by decide) : ¬ ((0 : Int32) = (1 : Int32)))).2 (by decide) (by decide) ?_
          refine own_iload X195 hx 282 rfl (hb hby at_280) rfl ?_
          refine own_iload X195 hx 284 rfl (hb hby at_282) rfl ?_
          refine own_iadd X195 hx 285 rfl (z := (2 : Int32)) (hb hby at_284) (by decide) ?_
          refine own_istore X195 hx 287 rfl #[.val (.int x0), .val (.long x1), .second, .val (.long x2), .second, .val (.long x3), .second, .val (.int (1 : Int32)), .val (.int (1 : Int32)), .val (.int (0 : Int32)), .val (.int (2 : Int32)), .val (.int (1 : Int32)), .val (.ref b132), .val (.int (2 : Int32)), .val (.long (x3 >>> ((1 : Int32) &&& 0x3f).toInt64)), .second, .val (.long (x2 + (x3 >>> ((1 : Int32) &&& 0x3f).toInt64))), .second, .val (.long br_195), .second, .unset, .unset, .val (.int (2 : Int32)), .unset, .unset] (hb hby at_285) rfl ?_
          refine own_iload X195 hx 289 rfl (hb hby at_287) rfl ?_
          obtain ⟨_, _, ⟨T196, L196, k196, n196⟩, -, X196, ⟨Lc196, hQ196, l196, y196, z196⟩, st196⟩ := Jvm.LawKit.callS X195 hx (y := (⟨"com/example/pooler/pooler/pool/BackoffDelayPinLaw", "pauseMs", "(I)J"⟩ : MethodName)) hown (mvT hZ (hw _ (List.mem_of_getElem? (i := 48) rfl))) (mvT hZ (hw _ (List.mem_of_getElem? (i := 49) rfl))) (mvT hZ (hw _ (List.mem_of_getElem? (i := 18) rfl))) (mvT hZ (hw _ (List.mem_of_getElem? (i := 50) rfl))) (by decide) (backOf (W := 0) (rmpm2 l Z a0 hw []  T146.heap n0 Z146 ) hZ (hw _ (List.mem_of_getElem? (i := 50) rfl)) (hw _ (List.mem_of_getElem? (i := 18) rfl)) (by decide) (by decide)) (g := (mkF m 289 #[.val (.int x0), .val (.long x1), .second, .val (.long x2), .second, .val (.long x3), .second, .val (.int (1 : Int32)), .val (.int (1 : Int32)), .val (.int (0 : Int32)), .val (.int (2 : Int32)), .val (.int (1 : Int32)), .val (.ref b132), .val (.int (2 : Int32)), .val (.long (x3 >>> ((1 : Int32) &&& 0x3f).toInt64)), .second, .val (.long (x2 + (x3 >>> ((1 : Int32) &&& 0x3f).toInt64))), .second, .val (.long br_195), .second, .unset, .unset, .val (.int (2 : Int32)), .unset, .unset] [(.int (2 : Int32))])) rfl (by rw [hml]; rfl) (argsL := [(.int (2 : Int32))]) (rest := []) (lenOf own_pd6 rfl) rfl (by show 2 * 0 + _ ≤ _; exact Nat.le_of_eq rfl) (hb hby at_289) (fun _ _ => ⟨rfl, eh195, (by decide : 1 + 0 ≤ _), (by decide : 3 + 0 ≤ _)⟩)
          dsimp only [Pt.U, Pt.locs, Pt.cells, Pt.slots] at X196 l196 y196 z196 st196 hQ196
          subst l196 y196 z196
          obtain ⟨rfl, N196q, eh196⟩ := hQ196
          have N196 := Fr.app N195 N196q
          refine Goes.go st196 ?_
          show Goes p e below s _ _ _ T196 (mkF m 292 #[.val (.int x0), .val (.long x1), .second, .val (.long x2), .second, .val (.long x3), .second, .val (.int (1 : Int32)), .val (.int (1 : Int32)), .val (.int (0 : Int32)), .val (.int (2 : Int32)), .val (.int (1 : Int32)), .val (.ref b132), .val (.int (2 : Int32)), .val (.long (x3 >>> ((1 : Int32) &&& 0x3f).toInt64)), .second, .val (.long (x2 + (x3 >>> ((1 : Int32) &&& 0x3f).toInt64))), .second, .val (.long br_195), .second, .unset, .unset, .val (.int (2 : Int32)), .unset, .unset] [(.long (200 : Int64))])
          refine Goes.go (X196.ldc2Long hx hown (mvT hZ (hw _ (List.mem_of_getElem? (i := 52) rfl))) (g := (mkF m 292 #[.val (.int x0), .val (.long x1), .second, .val (.long x2), .second, .val (.long x3), .second, .val (.int (1 : Int32)), .val (.int (1 : Int32)), .val (.int (0 : Int32)), .val (.int (2 : Int32)), .val (.int (1 : Int32)), .val (.ref b132), .val (.int (2 : Int32)), .val (.long (x3 >>> ((1 : Int32) &&& 0x3f).toInt64)), .second, .val (.long (x2 + (x3 >>> ((1 : Int32) &&& 0x3f).toInt64))), .second, .val (.long br_195), .second, .unset, .unset, .val (.int (2 : Int32)), .unset, .unset] [(.long (200 : Int64))])) rfl (hb hby at_292)) ?_
          show Goes p e below s _ _ _ T196 (mkF m 295 #[.val (.int x0), .val (.long x1), .second, .val (.long x2), .second, .val (.long x3), .second, .val (.int (1 : Int32)), .val (.int (1 : Int32)), .val (.int (0 : Int32)), .val (.int (2 : Int32)), .val (.int (1 : Int32)), .val (.ref b132), .val (.int (2 : Int32)), .val (.long (x3 >>> ((1 : Int32) &&& 0x3f).toInt64)), .second, .val (.long (x2 + (x3 >>> ((1 : Int32) &&& 0x3f).toInt64))), .second, .val (.long br_195), .second, .unset, .unset, .val (.int (2 : Int32)), .unset, .unset] [(.long (1000000 : Int64)), (.long (200 : Int64))])
          refine own_lmul X196 hx 296 rfl (z := (200000000 : Int64)) (hb hby at_295) (by decide) ?_
          refine own_lstore X196 hx 298 rfl #[.val (.int x0), .val (.long x1), .second, .val (.long x2), .second, .val (.long x3), .second, .val (.int (1 : Int32)), .val (.int (1 : Int32)), .val (.int (0 : Int32)), .val (.int (2 : Int32)), .val (.int (1 : Int32)), .val (.ref b132), .val (.int (2 : Int32)), .val (.long (x3 >>> ((1 : Int32) &&& 0x3f).toInt64)), .second, .val (.long (x2 + (x3 >>> ((1 : Int32) &&& 0x3f).toInt64))), .second, .val (.long br_195), .second, .unset, .unset, .val (.int (2 : Int32)), .val (.long (200000000 : Int64)), .second] (hb hby at_296) rfl ?_
          refine own_lload X196 hx 300 rfl (hb hby at_298) rfl ?_
          refine own_lload X196 hx 302 rfl (hb hby at_300) rfl ?_
          refine own_lcmp X196 hx 303 rfl (hb hby at_302) ?_
          by_cases hc303_197 : (x3 >>> ((1 : Int32) &&& 0x3f).toInt64) < (200000000 : Int64)
          · refine own_ifY X196 hx 310 (hb hby at_303) (Ltlt hc303_197).1 (by decide) (by decide) ?_
            refine own_lload X196 hx 312 rfl (hb hby at_310) rfl ?_
            refine own_lload X196 hx 314 rfl (hb hby at_312) rfl ?_
            refine own_lsub X196 hx 315 rfl (hb hby at_314) rfl ?_
            refine own_lstore X196 hx 317 rfl #[.val (.int x0), .val (.long x1), .second, .val (.long x2), .second, .val (.long x3), .second, .val (.int (1 : Int32)), .val (.int (1 : Int32)), .val (.int (0 : Int32)), .val (.int (2 : Int32)), .val (.int (1 : Int32)), .val (.ref b132), .val (.int (2 : Int32)), .val (.long (x3 >>> ((1 : Int32) &&& 0x3f).toInt64)), .second, .val (.long (x2 + (x3 >>> ((1 : Int32) &&& 0x3f).toInt64))), .second, .val (.long br_195), .second, .val (.long ((200000000 : Int64) - (x3 >>> ((1 : Int32) &&& 0x3f).toInt64))), .second, .val (.int (2 : Int32)), .val (.long (200000000 : Int64)), .second] (hb hby at_315) rfl ?_
            refine own_lload X196 hx 319 rfl (hb hby at_317) rfl ?_
            refine own_lload X196 hx 321 rfl (hb hby at_319) rfl ?_
            refine own_lcmp X196 hx 322 rfl (hb hby at_321) ?_
            refine own_ifN X196 hx 325 (hb hby at_322) (Lteq ((own_fin har hdd (P := (200000000 : Int64)) (by decide) pr195_0).1 hc303_197 : br_195 = ((200000000 : Int64) - (x3 >>> ((1 : Int32) &&& 0x3f).toInt64)))).2 rfl ?_
            refine own_iconst X196 hx 326 rfl (1 : Int32) (hb hby at_325) (by decide) ?_
            refine own_goto X196 hx 330 (hb hby at_326) (by decide) (by decide) ?_
            refine own_retZ X196 hx hlk Bd.returns (by decide) (hb hby at_330) (by decide) (by decide) eh196 ?_
            exact ⟨rfl, N196⟩
          · refine own_ifN X196 hx 306 (hb hby at_303) (Lflt hc303_197).1 rfl ?_
            refine own_lconst X196 hx 307 rfl (0 : Int64) (hb hby at_306) (by decide) ?_
            refine own_goto X196 hx 315 (hb hby at_307) (by decide) (by decide) ?_
            refine own_lstore X196 hx 317 rfl #[.val (.int x0), .val (.long x1), .second, .val (.long x2), .second, .val (.long x3), .second, .val (.int (1 : Int32)), .val (.int (1 : Int32)), .val (.int (0 : Int32)), .val (.int (2 : Int32)), .val (.int (1 : Int32)), .val (.ref b132), .val (.int (2 : Int32)), .val (.long (x3 >>> ((1 : Int32) &&& 0x3f).toInt64)), .second, .val (.long (x2 + (x3 >>> ((1 : Int32) &&& 0x3f).toInt64))), .second, .val (.long br_195), .second, .val (.long (0 : Int64)), .second, .val (.int (2 : Int32)), .val (.long (200000000 : Int64)), .second] (hb hby at_315) rfl ?_
            refine own_lload X196 hx 319 rfl (hb hby at_317) rfl ?_
            refine own_lload X196 hx 321 rfl (hb hby at_319) rfl ?_
            refine own_lcmp X196 hx 322 rfl (hb hby at_321) ?_
            refine own_ifN X196 hx 325 (hb hby at_322) (Lteq ((own_fin har hdd (P := (200000000 : Int64)) (by decide) pr195_0).2 hc303_197 : br_195 = (0 : Int64))).2 rfl ?_
            refine own_iconst X196 hx 326 rfl (1 : Int32) (hb hby at_325) (by decide) ?_
            refine own_goto X196 hx 330 (hb hby at_326) (by decide) (by decide) ?_
            refine own_retZ X196 hx hlk Bd.returns (by decide) (hb hby at_330) (by decide) (by decide) eh196 ?_
            exact ⟨rfl, N196⟩
      · refine own_ifY X140 hx 122 (hb hby at_102) ((if0 _ _).trans (flt hc102_144).2.2.2) (by decide) (by decide) ?_
        refine own_iload X140 hx 124 rfl (hb hby at_122) rfl ?_
        refine own_iconst X140 hx 125 rfl (1 : Int32) (hb hby at_124) (by decide) ?_
        refine own_icmpY X140 hx 145 (hb hby at_125) (flt (own_down hc102_144 (by decide) : ¬ ((1 : Int32) < ff))).2.2.2 (by decide) (by decide) ?_
        refine own_iload X140 hx 147 rfl (hb hby at_145) rfl ?_
        refine own_iconst X140 hx 148 rfl (2 : Int32) (hb hby at_147) (by decide) ?_
        refine own_icmpY X140 hx 168 (hb hby at_148) (flt (own_down hc102_144 (by decide) : ¬ ((2 : Int32) < ff))).2.2.2 (by decide) (by decide) ?_
        refine own_iload X140 hx 170 rfl (hb hby at_168) rfl ?_
        refine own_iconst X140 hx 171 rfl (3 : Int32) (hb hby at_170) (by decide) ?_
        refine own_icmpY X140 hx 191 (hb hby at_171) (flt (own_down hc102_144 (by decide) : ¬ ((3 : Int32) < ff))).2.2.2 (by decide) (by decide) ?_
        refine own_iload X140 hx 193 rfl (hb hby at_191) rfl ?_
        refine own_iconst X140 hx 194 rfl (4 : Int32) (hb hby at_193) (by decide) ?_
        refine own_icmpY X140 hx 214 (hb hby at_194) (flt (own_down hc102_144 (by decide) : ¬ ((4 : Int32) < ff))).2.2.2 (by decide) (by decide) ?_
        refine own_iload X140 hx 216 rfl (hb hby at_214) rfl ?_
        refine own_iconst X140 hx 217 rfl (5 : Int32) (hb hby at_216) (by decide) ?_
        refine own_icmpY X140 hx 237 (hb hby at_217) (flt (own_down hc102_144 (by decide) : ¬ ((5 : Int32) < ff))).2.2.2 (by decide) (by decide) ?_
        have hfl := hff.1
        have hfh := own_le (k := 0) (by decide) hc102_144
        obtain rfl : ff = (0 : Int32) := own_pin (k := 0) (by decide) (by omega)
        obtain rfl : tot = (1 : Int32) := by rw [h_tot]; decide
        obtain rfl : lst = (0 : Int32) := by rw [h_lst]; decide
        have hdd := own_sh x3 _ rfl
        have har : ar_139 = x2 := own_atE pr139_0 (by decide)
        refine own_lload X140 hx 239 rfl (hb hby at_237) rfl ?_
        refine own_iconst X140 hx 240 rfl (1 : Int32) (hb hby at_239) (by decide) ?_
        refine own_lshr X140 hx 241 rfl (hb hby at_240) rfl ?_
        refine own_lstore X140 hx 243 rfl #[.val (.int x0), .val (.long x1), .second, .val (.long x2), .second, .val (.long x3), .second, .val (.int (0 : Int32)), .val (.int (1 : Int32)), .val (.int (0 : Int32)), .val (.int (1 : Int32)), .val (.int (0 : Int32)), .val (.ref b132), .val (.int (1 : Int32)), .val (.long (x3 >>> ((1 : Int32) &&& 0x3f).toInt64)), .second, .unset, .unset, .unset, .unset, .unset, .unset, .unset, .unset, .unset] (hb hby at_241) rfl ?_
        refine own_lloadN X140 hx 244 rfl (hb hby at_243) rfl ?_
        refine own_lload X140 hx 246 rfl (hb hby at_244) rfl ?_
        refine own_ladd X140 hx 247 rfl (hb hby at_246) rfl ?_
        refine own_lstore X140 hx 249 rfl #[.val (.int x0), .val (.long x1), .second, .val (.long x2), .second, .val (.long x3), .second, .val (.int (0 : Int32)), .val (.int (1 : Int32)), .val (.int (0 : Int32)), .val (.int (1 : Int32)), .val (.int (0 : Int32)), .val (.ref b132), .val (.int (1 : Int32)), .val (.long (x3 >>> ((1 : Int32) &&& 0x3f).toInt64)), .second, .val (.long (x2 + (x3 >>> ((1 : Int32) &&& 0x3f).toInt64))), .second, .unset, .unset, .unset, .unset, .unset, .unset, .unset] (hb hby at_247) rfl ?_
        refine own_aload X140 hx 251 rfl (hb hby at_249) rfl rfl ?_
        refine own_lload X140 hx 253 rfl (hb hby at_251) rfl ?_
        obtain ⟨cq198, kq198, q198a, q198b, q198c⟩ := isOf hZ rfl f143
        obtain ⟨_, _, ⟨T198, L198, k198, n198⟩, -, X198, ⟨Lc198, hQ198, l198, y198, z198⟩, st198⟩ := X140.virtualBack hx (y := (⟨"com/example/pooler/pooler/pool/Backoff", "delay", "(J)J"⟩ : MethodName)) (z := (⟨"com/example/pooler/pooler/pool/Backoff", "delay", "(J)J"⟩ : MethodName)) hown (mvT hZ (hw _ (List.mem_of_getElem? (i := 9) rfl))) (mvT hZ (hw _ (List.mem_of_getElem? (i := 10) rfl))) (notFace_of_selects (args := #[]) (mvT hZ (hw _ (List.mem_of_getElem? (i := 12) rfl)))) (mvT hZ (hw _ (List.mem_of_getElem? (i := 12) rfl))) (mvT hZ (hw _ (List.mem_of_getElem? (i := 11) rfl))) (by decide) (backOf (W := 0) (rmde1 l Z a0 hw [] b132 (x2 + (x3 >>> ((1 : Int32) &&& 0x3f).toInt64)) ar_139 T140.heap n0 Z140 f143 f141 f142 f140_0 f140_1 f140_2) hZ (hw _ (List.mem_of_getElem? (i := 13) rfl)) (hw _ (List.mem_of_getElem? (i := 2) rfl)) (by decide) (by decide)) q198a q198c (g := (mkF m 253 #[.val (.int x0), .val (.long x1), .second, .val (.long x2), .second, .val (.long x3), .second, .val (.int (0 : Int32)), .val (.int (1 : Int32)), .val (.int (0 : Int32)), .val (.int (1 : Int32)), .val (.int (0 : Int32)), .val (.ref b132), .val (.int (1 : Int32)), .val (.long (x3 >>> ((1 : Int32) &&& 0x3f).toInt64)), .second, .val (.long (x2 + (x3 >>> ((1 : Int32) &&& 0x3f).toInt64))), .second, .unset, .unset, .unset, .unset, .unset, .unset, .unset] [(.long (x2 + (x3 >>> ((1 : Int32) &&& 0x3f).toInt64))), (.ref b132)])) rfl (by rw [hml]; rfl) (Steps.refl _) (argsL := [(.long (x2 + (x3 >>> ((1 : Int32) &&& 0x3f).toInt64)))]) (rest := []) (lenOf own_pd5 rfl) rfl (by show 2 * 0 + _ ≤ _; exact Nat.le_of_eq rfl) (hb hby at_253) (fun _ _ => ⟨rfl, rfl, (by decide : 1 + 0 ≤ _), (by decide : 3 + 0 ≤ _)⟩)
        dsimp only [Pt.U, Pt.locs, Pt.cells, Pt.slots] at X198 l198 y198 z198 st198 hQ198
        subst l198 y198 z198
        obtain ⟨br_198, rfl, N198q, eh198, pr198_0⟩ := hQ198
        have N198 := Fr.app N140 N198q
        refine Goes.tr st198 ?_
        show Goes p e below s _ _ _ T198 (mkF m 256 #[.val (.int x0), .val (.long x1), .second, .val (.long x2), .second, .val (.long x3), .second, .val (.int (0 : Int32)), .val (.int (1 : Int32)), .val (.int (0 : Int32)), .val (.int (1 : Int32)), .val (.int (0 : Int32)), .val (.ref b132), .val (.int (1 : Int32)), .val (.long (x3 >>> ((1 : Int32) &&& 0x3f).toInt64)), .second, .val (.long (x2 + (x3 >>> ((1 : Int32) &&& 0x3f).toInt64))), .second, .unset, .unset, .unset, .unset, .unset, .unset, .unset] [(.long br_198)])
        refine own_lstore X198 hx 258 rfl #[.val (.int x0), .val (.long x1), .second, .val (.long x2), .second, .val (.long x3), .second, .val (.int (0 : Int32)), .val (.int (1 : Int32)), .val (.int (0 : Int32)), .val (.int (1 : Int32)), .val (.int (0 : Int32)), .val (.ref b132), .val (.int (1 : Int32)), .val (.long (x3 >>> ((1 : Int32) &&& 0x3f).toInt64)), .second, .val (.long (x2 + (x3 >>> ((1 : Int32) &&& 0x3f).toInt64))), .second, .val (.long br_198), .second, .unset, .unset, .unset, .unset, .unset] (hb hby at_256) rfl ?_
        refine own_iload X198 hx 260 rfl (hb hby at_258) rfl ?_
        refine own_ifY X198 hx 269 (hb hby at_260) ((if0 _ _).trans (feq ((by decide) : ¬ ((1 : Int32) = (0 : Int32)))).2) (by decide) (by decide) ?_
        refine own_iload X198 hx 271 rfl (hb hby at_269) rfl ?_
        refine own_iconst X198 hx 272 rfl (1 : Int32) (hb hby at_271) (by decide) ?_
        refine own_icmpY X198 hx 280 (hb hby at_272) (feq ((by decide) : ¬ ((0 : Int32) = (1 : Int32)))).2 (by decide) (by decide) ?_
        refine own_iload X198 hx 282 rfl (hb hby at_280) rfl ?_
        refine own_iload X198 hx 284 rfl (hb hby at_282) rfl ?_
        refine own_iadd X198 hx 285 rfl (z := (1 : Int32)) (hb hby at_284) (by decide) ?_
        refine own_istore X198 hx 287 rfl #[.val (.int x0), .val (.long x1), .second, .val (.long x2), .second, .val (.long x3), .second, .val (.int (0 : Int32)), .val (.int (1 : Int32)), .val (.int (0 : Int32)), .val (.int (1 : Int32)), .val (.int (0 : Int32)), .val (.ref b132), .val (.int (1 : Int32)), .val (.long (x3 >>> ((1 : Int32) &&& 0x3f).toInt64)), .second, .val (.long (x2 + (x3 >>> ((1 : Int32) &&& 0x3f).toInt64))), .second, .val (.long br_198), .second, .unset, .unset, .val (.int (1 : Int32)), .unset, .unset] (hb hby at_285) rfl ?_
        refine own_iload X198 hx 289 rfl (hb hby at_287) rfl ?_
        obtain ⟨_, _, ⟨T199, L199, k199, n199⟩, -, X199, ⟨Lc199, hQ199, l199, y199, z199⟩, st199⟩ := Jvm.LawKit.callS X198 hx (y := (⟨"com/example/pooler/pooler/pool/BackoffDelayPinLaw", "pauseMs", "(I)J"⟩ : MethodName)) hown (mvT hZ (hw _ (List.mem_of_getElem? (i := 48) rfl))) (mvT hZ (hw _ (List.mem_of_getElem? (i := 49) rfl))) (mvT hZ (hw _ (List.mem_of_getElem? (i := 18) rfl))) (mvT hZ (hw _ (List.mem_of_getElem? (i := 50) rfl))) (by decide) (backOf (W := 0) (rmpm1 l Z a0 hw []  T140.heap n0 Z140 ) hZ (hw _ (List.mem_of_getElem? (i := 50) rfl)) (hw _ (List.mem_of_getElem? (i := 18) rfl)) (by decide) (by decide)) (g := (mkF m 289 #[.val (.int x0), .val (.long x1), .second, .val (.long x2), .second, .val (.long x3), .second, .val (.int (0 : Int32)), .val (.int (1 : Int32)), .val (.int (0 : Int32)), .val (.int (1 : Int32)), .val (.int (0 : Int32)), .val (.ref b132), .val (.int (1 : Int32)), .val (.long (x3 >>> ((1 : Int32) &&& 0x3f).toInt64)), .second, .val (.long (x2 + (x3 >>> ((1 : Int32) &&& 0x3f).toInt64))), .second, .val (.long br_198), .second, .unset, .unset, .val (.int (1 : Int32)), .unset, .unset] [(.int (1 : Int32))])) rfl (by rw [hml]; rfl) (argsL := [(.int (1 : Int32))]) (rest := []) (lenOf own_pd6 rfl) rfl (by show 2 * 0 + _ ≤ _; exact Nat.le_of_eq rfl) (hb hby at_289) (fun _ _ => ⟨rfl, eh198, (by decide : 1 + 0 ≤ _), (by decide : 3 + 0 ≤ _)⟩)
        dsimp only [Pt.U, Pt.locs, Pt.cells, Pt.slots] at X199 l199 y199 z199 st199 hQ199
        subst l199 y199 z199
        obtain ⟨rfl, N199q, eh199⟩ := hQ199
        have N199 := Fr.app N198 N199q
        refine Goes.go st199 ?_
        show Goes p e below s _ _ _ T199 (mkF m 292 #[.val (.int x0), .val (.long x1), .second, .val (.long x2), .second, .val (.long x3), .second, .val (.int (0 : Int32)), .val (.int (1 : Int32)), .val (.int (0 : Int32)), .val (.int (1 : Int32)), .val (.int (0 : Int32)), .val (.ref b132), .val (.int (1 : Int32)), .val (.long (x3 >>> ((1 : Int32) &&& 0x3f).toInt64)), .second, .val (.long (x2 + (x3 >>> ((1 : Int32) &&& 0x3f).toInt64))), .second, .val (.long br_198), .second, .unset, .unset, .val (.int (1 : Int32)), .unset, .unset] [(.long (100 : Int64))])
        refine Goes.go (X199.ldc2Long hx hown (mvT hZ (hw _ (List.mem_of_getElem? (i := 52) rfl))) (g := (mkF m 292 #[.val (.int x0), .val (.long x1), .second, .val (.long x2), .second, .val (.long x3), .second, .val (.int (0 : Int32)), .val (.int (1 : Int32)), .val (.int (0 : Int32)), .val (.int (1 : Int32)), .val (.int (0 : Int32)), .val (.ref b132), .val (.int (1 : Int32)), .val (.long (x3 >>> ((1 : Int32) &&& 0x3f).toInt64)), .second, .val (.long (x2 + (x3 >>> ((1 : Int32) &&& 0x3f).toInt64))), .second, .val (.long br_198), .second, .unset, .unset, .val (.int (1 : Int32)), .unset, .unset] [(.long (100 : Int64))])) rfl (hb hby at_292)) ?_
        show Goes p e below s _ _ _ T199 (mkF m 295 #[.val (.int x0), .val (.long x1), .second, .val (.long x2), .second, .val (.long x3), .second, .val (.int (0 : Int32)), .val (.int (1 : Int32)), .val (.int (0 : Int32)), .val (.int (1 : Int32)), .val (.int (0 : Int32)), .val (.ref b132), .val (.int (1 : Int32)), .val (.long (x3 >>> ((1 : Int32) &&& 0x3f).toInt64)), .second, .val (.long (x2 + (x3 >>> ((1 : Int32) &&& 0x3f).toInt64))), .second, .val (.long br_198), .second, .unset, .unset, .val (.int (1 : Int32)), .unset, .unset] [(.long (1000000 : Int64)), (.long (100 : Int64))])
        refine own_lmul X199 hx 296 rfl (z := (100000000 : Int64)) (hb hby at_295) (by decide) ?_
        refine own_lstore X199 hx 298 rfl #[.val (.int x0), .val (.long x1), .second, .val (.long x2), .second, .val (.long x3), .second, .val (.int (0 : Int32)), .val (.int (1 : Int32)), .val (.int (0 : Int32)), .val (.int (1 : Int32)), .val (.int (0 : Int32)), .val (.ref b132), .val (.int (1 : Int32)), .val (.long (x3 >>> ((1 : Int32) &&& 0x3f).toInt64)), .second, .val (.long (x2 + (x3 >>> ((1 : Int32) &&& 0x3f).toInt64))), .second, .val (.long br_198), .second, .unset, .unset, .val (.int (1 : Int32)), .val (.long (100000000 : Int64)), .second] (hb hby at_296) rfl ?_
        refine own_lload X199 hx 300 rfl (hb hby at_298) rfl ?_
        refine own_lload X199 hx 302 rfl (hb hby at_300) rfl ?_
        refine own_lcmp X199 hx 303 rfl (hb hby at_302) ?_
        by_cases hc303_200 : (x3 >>> ((1 : Int32) &&& 0x3f).toInt64) < (100000000 : Int64)
        · refine own_ifY X199 hx 310 (hb hby at_303) (Ltlt hc303_200).1 (by decide) (by decide) ?_
          refine own_lload X199 hx 312 rfl (hb hby at_310) rfl ?_
          refine own_lload X199 hx 314 rfl (hb hby at_312) rfl ?_
          refine own_lsub X199 hx 315 rfl (hb hby at_314) rfl ?_
          refine own_lstore X199 hx 317 rfl #[.val (.int x0), .val (.long x1), .second, .val (.long x2), .second, .val (.long x3), .second, .val (.int (0 : Int32)), .val (.int (1 : Int32)), .val (.int (0 : Int32)), .val (.int (1 : Int32)), .val (.int (0 : Int32)), .val (.ref b132), .val (.int (1 : Int32)), .val (.long (x3 >>> ((1 : Int32) &&& 0x3f).toInt64)), .second, .val (.long (x2 + (x3 >>> ((1 : Int32) &&& 0x3f).toInt64))), .second, .val (.long br_198), .second, .val (.long ((100000000 : Int64) - (x3 >>> ((1 : Int32) &&& 0x3f).toInt64))), .second, .val (.int (1 : Int32)), .val (.long (100000000 : Int64)), .second] (hb hby at_315) rfl ?_
          refine own_lload X199 hx 319 rfl (hb hby at_317) rfl ?_
          refine own_lload X199 hx 321 rfl (hb hby at_319) rfl ?_
          refine own_lcmp X199 hx 322 rfl (hb hby at_321) ?_
          refine own_ifN X199 hx 325 (hb hby at_322) (Lteq ((own_fin har hdd (P := (100000000 : Int64)) (by decide) pr198_0).1 hc303_200 : br_198 = ((100000000 : Int64) - (x3 >>> ((1 : Int32) &&& 0x3f).toInt64)))).2 rfl ?_
          refine own_iconst X199 hx 326 rfl (1 : Int32) (hb hby at_325) (by decide) ?_
          refine own_goto X199 hx 330 (hb hby at_326) (by decide) (by decide) ?_
          refine own_retZ X199 hx hlk Bd.returns (by decide) (hb hby at_330) (by decide) (by decide) eh199 ?_
          exact ⟨rfl, N199⟩
        · refine own_ifN X199 hx 306 (hb hby at_303) (Lflt hc303_200).1 rfl ?_
          refine own_lconst X199 hx 307 rfl (0 : Int64) (hb hby at_306) (by decide) ?_
          refine own_goto X199 hx 315 (hb hby at_307) (by decide) (by decide) ?_
          refine own_lstore X199 hx 317 rfl #[.val (.int x0), .val (.long x1), .second, .val (.long x2), .second, .val (.long x3), .second, .val (.int (0 : Int32)), .val (.int (1 : Int32)), .val (.int (0 : Int32)), .val (.int (1 : Int32)), .val (.int (0 : Int32)), .val (.ref b132), .val (.int (1 : Int32)), .val (.long (x3 >>> ((1 : Int32) &&& 0x3f).toInt64)), .second, .val (.long (x2 + (x3 >>> ((1 : Int32) &&& 0x3f).toInt64))), .second, .val (.long br_198), .second, .val (.long (0 : Int64)), .second, .val (.int (1 : Int32)), .val (.long (100000000 : Int64)), .second] (hb hby at_315) rfl ?_
          refine own_lload X199 hx 319 rfl (hb hby at_317) rfl ?_
          refine own_lload X199 hx 321 rfl (hb hby at_319) rfl ?_
          refine own_lcmp X199 hx 322 rfl (hb hby at_321) ?_
          refine own_ifN X199 hx 325 (hb hby at_322) (Lteq ((own_fin har hdd (P := (100000000 : Int64)) (by decide) pr198_0).2 hc303_200 : br_198 = (0 : Int64))).2 rfl ?_
          refine own_iconst X199 hx 326 rfl (1 : Int32) (hb hby at_325) (by decide) ?_
          refine own_goto X199 hx 330 (hb hby at_326) (by decide) (by decide) ?_
          refine own_retZ X199 hx hlk Bd.returns (by decide) (hb hby at_330) (by decide) (by decide) eh199 ?_
          exact ⟨rfl, N199⟩
    · refine own_iload X0 hx 30 rfl (hb hby at_28) rfl ?_
      refine own_iadd X0 hx 31 rfl (z := (2 : Int32)) (hb hby at_30) (by decide) ?_
      refine own_iload X0 hx 33 rfl (hb hby at_31) rfl ?_
      obtain ⟨tot, h_tot⟩ : ∃ z, z = ((2 : Int32) + ff) := ⟨_, rfl⟩
      refine own_iadd X0 hx 34 rfl (hb hby at_33) h_tot.symm ?_
      refine own_istore X0 hx 36 rfl #[.val (.int x0), .val (.long x1), .second, .val (.long x2), .second, .val (.long x3), .second, .val (.int ff), .val (.int (1 : Int32)), .val (.int (1 : Int32)), .val (.int tot), .unset, .unset, .unset, .unset, .unset, .unset, .unset, .unset, .unset, .unset, .unset, .unset, .unset, .unset] (hb hby at_34) rfl ?_
      refine own_iload X0 hx 38 rfl (hb hby at_36) rfl ?_
      refine own_iconst X0 hx 39 rfl (1 : Int32) (hb hby at_38) (by decide) ?_
      obtain ⟨lst, h_lst⟩ : ∃ z, z = (tot - (1 : Int32)) := ⟨_, rfl⟩
      refine own_isub X0 hx 40 rfl (hb hby at_39) h_lst.symm ?_
      refine own_istore X0 hx 42 rfl #[.val (.int x0), .val (.long x1), .second, .val (.long x2), .second, .val (.long x3), .second, .val (.int ff), .val (.int (1 : Int32)), .val (.int (1 : Int32)), .val (.int tot), .val (.int lst), .unset, .unset, .unset, .unset, .unset, .unset, .unset, .unset, .unset, .unset, .unset, .unset, .unset] (hb hby at_40) rfl ?_
      obtain ⟨T201, h201, X201, e201, E201, A201, D201, -, st201⟩ := newO X0 hx hZ hown (hw _ (List.mem_of_getElem? (i := 0) rfl)) (hw _ (List.mem_of_getElem? (i := 1) rfl)) (hw _ (List.mem_of_getElem? (i := 2) rfl)) e0 (g := (mkF m 42 #[.val (.int x0), .val (.long x1), .second, .val (.long x2), .second, .val (.long x3), .second, .val (.int ff), .val (.int (1 : Int32)), .val (.int (1 : Int32)), .val (.int tot), .val (.int lst), .unset, .unset, .unset, .unset, .unset, .unset, .unset, .unset, .unset, .unset, .unset, .unset, .unset] [])) rfl (hb hby at_42) (by decide) (by decide)
      obtain ⟨b201, g201⟩ : ∃ z, z = h0.size := ⟨_, rfl⟩
      rw [← g201] at A201 D201 st201
      have G201 : n0 ≤ b201 := Nat.le_trans Z0 (Nat.le_of_eq g201.symm)
      have H201 : h0.size ≤ b201 := Nat.le_trans K0.1 (Nat.le_of_eq g201.symm)
      have f202 := S_y_SHORTEST.ext E201
      have f203 := S_y_LONGEST.ext E201
      have K201 := K0.ext E201
      have Z201 := Nat.le_trans Z0 E201.1
      have f204 : Fld Z h201 b201 "com/example/pooler/pooler/pool/Backoff" "tried" "Z" (.int (0 : Int32)) := D201 (Or.inl (hw _ (List.mem_of_getElem? (i := 15) rfl))) (ty := .boolean) (by decide)
      have f205 : Fld Z h201 b201 "com/example/pooler/pooler/pool/Backoff" "endedAt" "J" (.long (0 : Int64)) := D201 (Or.inl (hw _ (List.mem_of_getElem? (i := 30) rfl))) (ty := .long) (by decide)
      have f206 : Fld Z h201 b201 "com/example/pooler/pooler/pool/Backoff" "failuresInARow" "I" (.int (0 : Int32)) := D201 (Or.inl (hw _ (List.mem_of_getElem? (i := 32) rfl))) (ty := .int) (by decide)
      refine Goes.go st201 ?_
      show Goes p e below s _ _ _ T201 (mkF m 45 #[.val (.int x0), .val (.long x1), .second, .val (.long x2), .second, .val (.long x3), .second, .val (.int ff), .val (.int (1 : Int32)), .val (.int (1 : Int32)), .val (.int tot), .val (.int lst), .unset, .unset, .unset, .unset, .unset, .unset, .unset, .unset, .unset, .unset, .unset, .unset, .unset] [(.ref b201)])
      refine own_dup X201 hx 46 rfl (hb hby at_45) rfl ?_
      obtain ⟨_, _, ⟨T207, L207, k207, n207⟩, -, X207, ⟨Lc207, hQ207, l207, y207, z207⟩, st207⟩ := X201.specialBack hx (y := (⟨"com/example/pooler/pooler/pool/Backoff", "<init>", "()V"⟩ : MethodName)) rfl hown (mvT hZ (hw _ (List.mem_of_getElem? (i := 3) rfl))) (mvT hZ (hw _ (List.mem_of_getElem? (i := 4) rfl))) (mvT hZ (hw _ (List.mem_of_getElem? (i := 5) rfl))) (by decide) (backOf (W := 1) (rm1 l Z a0 hw [] b201 h201 n0 Z201 ) hZ (hw _ (List.mem_of_getElem? (i := 5) rfl)) (hw _ (List.mem_of_getElem? (i := 2) rfl)) (by decide) (by decide)) (g := (mkF m 46 #[.val (.int x0), .val (.long x1), .second, .val (.long x2), .second, .val (.long x3), .second, .val (.int ff), .val (.int (1 : Int32)), .val (.int (1 : Int32)), .val (.int tot), .val (.int lst), .unset, .unset, .unset, .unset, .unset, .unset, .unset, .unset, .unset, .unset, .unset, .unset, .unset] [(.ref b201), (.ref b201)])) rfl (by rw [hml]; rfl) (Steps.refl _) (a := b201) (argsL := []) (rest := [(.ref b201)]) (lenOf own_pd3 rfl) rfl (by show 2 * 0 + _ ≤ _; exact Nat.le_of_eq rfl) (hb hby at_46) (fun _ _ => ⟨rfl, e201, (by decide : 1 + 0 ≤ _), (by decide : 3 + 0 ≤ _)⟩)
      dsimp only [Pt.U, Pt.locs, Pt.cells, Pt.slots] at X207 l207 y207 z207 st207 hQ207
      subst l207 y207 z207
      obtain ⟨rfl, N207q, eh207⟩ := hQ207
      have N207 := Fr.app N0 N207q
      refine Goes.tr st207 ?_
      show Goes p e below s _ _ _ T207 (mkF m 49 #[.val (.int x0), .val (.long x1), .second, .val (.long x2), .second, .val (.long x3), .second, .val (.int ff), .val (.int (1 : Int32)), .val (.int (1 : Int32)), .val (.int tot), .val (.int lst), .unset, .unset, .unset, .unset, .unset, .unset, .unset, .unset, .unset, .unset, .unset, .unset, .unset] [(.ref b201)])
      refine own_astore X207 hx 51 rfl #[.val (.int x0), .val (.long x1), .second, .val (.long x2), .second, .val (.long x3), .second, .val (.int ff), .val (.int (1 : Int32)), .val (.int (1 : Int32)), .val (.int tot), .val (.int lst), .val (.ref b201), .unset, .unset, .unset, .unset, .unset, .unset, .unset, .unset, .unset, .unset, .unset, .unset] (hb hby at_49) rfl rfl ?_
      refine own_iconst X207 hx 52 rfl (0 : Int32) (hb hby at_51) (by decide) ?_
      refine own_istore X207 hx 54 rfl #[.val (.int x0), .val (.long x1), .second, .val (.long x2), .second, .val (.long x3), .second, .val (.int ff), .val (.int (1 : Int32)), .val (.int (1 : Int32)), .val (.int tot), .val (.int lst), .val (.ref b201), .val (.int (0 : Int32)), .unset, .unset, .unset, .unset, .unset, .unset, .unset, .unset, .unset, .unset, .unset] (hb hby at_52) rfl ?_
      refine own_iload X207 hx 56 rfl (hb hby at_54) rfl ?_
      refine own_iconst X207 hx 57 rfl (1 : Int32) (hb hby at_56) (by decide) ?_
      refine own_icmpN X207 hx 60 (hb hby at_57) (teq ((by decide) : (1 : Int32) = (1 : Int32))).2 rfl ?_
      refine own_aload X207 hx 62 rfl (hb hby at_60) rfl rfl ?_
      refine own_iload X207 hx 64 rfl (hb hby at_62) rfl ?_
      refine own_iload X207 hx 66 rfl (hb hby at_64) rfl ?_
      refine own_lloadN X207 hx 67 rfl (hb hby at_66) rfl ?_
      refine own_lloadN X207 hx 68 rfl (hb hby at_67) rfl ?_
      obtain ⟨_, _, ⟨T208, L208, k208, n208⟩, -, X208, ⟨Lc208, hQ208, l208, y208, z208⟩, st208⟩ := Jvm.LawKit.callS X207 hx (y := (⟨"com/example/pooler/pooler/pool/BackoffDelayPinLaw", "at", "(IIJJ)J"⟩ : MethodName)) hown (mvT hZ (hw _ (List.mem_of_getElem? (i := 16) rfl))) (mvT hZ (hw _ (List.mem_of_getElem? (i := 17) rfl))) (mvT hZ (hw _ (List.mem_of_getElem? (i := 18) rfl))) (mvT hZ (hw _ (List.mem_of_getElem? (i := 19) rfl))) (by decide) (backOf (W := 1) (rm4 l Z a0 hw [] (0 : Int32) lst x1 x2 h201 n0 Z201 ) hZ (hw _ (List.mem_of_getElem? (i := 19) rfl)) (hw _ (List.mem_of_getElem? (i := 18) rfl)) (by decide) (by decide)) (g := (mkF m 68 #[.val (.int x0), .val (.long x1), .second, .val (.long x2), .second, .val (.long x3), .second, .val (.int ff), .val (.int (1 : Int32)), .val (.int (1 : Int32)), .val (.int tot), .val (.int lst), .val (.ref b201), .val (.int (0 : Int32)), .unset, .unset, .unset, .unset, .unset, .unset, .unset, .unset, .unset, .unset, .unset] [(.long x2), (.long x1), (.int lst), (.int (0 : Int32)), (.ref b201)])) rfl (by rw [hml]; rfl) (argsL := [(.int (0 : Int32)), (.int lst), (.long x1), (.long x2)]) (rest := [(.ref b201)]) (lenOf own_pd4 rfl) rfl (by show 2 * 0 + _ ≤ _; exact Nat.le_of_eq rfl) (hb hby at_68) (fun _ _ => ⟨rfl, eh207, (by decide : 1 + 0 ≤ _), (by decide : 3 + 0 ≤ _)⟩)
      dsimp only [Pt.U, Pt.locs, Pt.cells, Pt.slots] at X208 l208 y208 z208 st208 hQ208
      subst l208 y208 z208
      obtain ⟨ar_208, rfl, N208q, eh208, pr208_0⟩ := hQ208
      have N208 := Fr.app N207 N208q
      refine Goes.go st208 ?_
      show Goes p e below s _ _ _ T208 (mkF m 71 #[.val (.int x0), .val (.long x1), .second, .val (.long x2), .second, .val (.long x3), .second, .val (.int ff), .val (.int (1 : Int32)), .val (.int (1 : Int32)), .val (.int tot), .val (.int lst), .val (.ref b201), .val (.int (0 : Int32)), .unset, .unset, .unset, .unset, .unset, .unset, .unset, .unset, .unset, .unset, .unset] [(.long ar_208), (.ref b201)])
      obtain ⟨cq209, kq209, q209a, q209b, q209c⟩ := isOf hZ eh208 A201
      obtain ⟨_, _, ⟨T209, L209, k209, n209⟩, -, X209, ⟨Lc209, hQ209, l209, y209, z209⟩, st209⟩ := X208.virtualBack hx (y := (⟨"com/example/pooler/pooler/pool/Backoff", "failed", "(J)V"⟩ : MethodName)) (z := (⟨"com/example/pooler/pooler/pool/Backoff", "failed", "(J)V"⟩ : MethodName)) hown (mvT hZ (hw _ (List.mem_of_getElem? (i := 20) rfl))) (mvT hZ (hw _ (List.mem_of_getElem? (i := 21) rfl))) (notFace_of_selects (args := #[]) (mvT hZ (hw _ (List.mem_of_getElem? (i := 23) rfl)))) (mvT hZ (hw _ (List.mem_of_getElem? (i := 23) rfl))) (mvT hZ (hw _ (List.mem_of_getElem? (i := 22) rfl))) (by decide) (backOf (W := 0) (rmfa0 l Z a0 hw [] b201 ar_208 (0 : Int32) (0 : Int64) h201 n0 Z201 A201 G201 f204 f205 f206) hZ (hw _ (List.mem_of_getElem? (i := 24) rfl)) (hw _ (List.mem_of_getElem? (i := 2) rfl)) (by decide) (by decide)) q209a q209c (g := (mkF m 71 #[.val (.int x0), .val (.long x1), .second, .val (.long x2), .second, .val (.long x3), .second, .val (.int ff), .val (.int (1 : Int32)), .val (.int (1 : Int32)), .val (.int tot), .val (.int lst), .val (.ref b201), .val (.int (0 : Int32)), .unset, .unset, .unset, .unset, .unset, .unset, .unset, .unset, .unset, .unset, .unset] [(.long ar_208), (.ref b201)])) rfl (by rw [hml]; rfl) (Steps.refl _) (argsL := [(.long ar_208)]) (rest := []) (lenOf own_pd0 rfl) rfl (by show 2 * 0 + _ ≤ _; exact Nat.le_of_eq rfl) (hb hby at_71) (fun _ _ => ⟨rfl, eh208, (by decide : 1 + 0 ≤ _), (by decide : 3 + 0 ≤ _)⟩)
      dsimp only [Pt.U, Pt.locs, Pt.cells, Pt.slots] at X209 l209 y209 z209 st209 hQ209
      subst l209 y209 z209
      obtain ⟨rfl, N209q, K209q, f209_0, f209_1, f209_2⟩ := hQ209
      have N209 := Fr.app N208 N209q
      have f210 := own_sta_keep f202 K209q (allS (own_eplain A201) all0)
      have f211 := own_sta_keep f203 K209q (allS (own_eplain A201) all0)
      have f212 := A201.keep K209q
      have K209 := K201.trans K209q (allS (Or.inr H201) all0)
      have Z209 := Nat.le_trans Z201 K209q.1
      refine Goes.tr st209 ?_
      show Goes p e below s _ _ _ T209 (mkF m 74 #[.val (.int x0), .val (.long x1), .second, .val (.long x2), .second, .val (.long x3), .second, .val (.int ff), .val (.int (1 : Int32)), .val (.int (1 : Int32)), .val (.int tot), .val (.int lst), .val (.ref b201), .val (.int (0 : Int32)), .unset, .unset, .unset, .unset, .unset, .unset, .unset, .unset, .unset, .unset, .unset] [])
      refine own_iinc X209 hx 77 rfl #[.val (.int x0), .val (.long x1), .second, .val (.long x2), .second, .val (.long x3), .second, .val (.int ff), .val (.int (1 : Int32)), .val (.int (1 : Int32)), .val (.int tot), .val (.int lst), .val (.ref b201), .val (.int (1 : Int32)), .unset, .unset, .unset, .unset, .unset, .unset, .unset, .unset, .unset, .unset, .unset] (hb hby at_74) rfl (by decide) rfl ?_
      refine own_iload X209 hx 79 rfl (hb hby at_77) rfl ?_
      refine own_iconst X209 hx 80 rfl (1 : Int32) (hb hby at_79) (by decide) ?_
      refine own_icmpN X209 hx 83 (hb hby at_80) (teq ((by decide) : (1 : Int32) = (1 : Int32))).2 rfl ?_
      refine own_aload X209 hx 85 rfl (hb hby at_83) rfl rfl ?_
      refine own_iload X209 hx 87 rfl (hb hby at_85) rfl ?_
      refine own_iload X209 hx 89 rfl (hb hby at_87) rfl ?_
      refine own_lloadN X209 hx 90 rfl (hb hby at_89) rfl ?_
      refine own_lloadN X209 hx 91 rfl (hb hby at_90) rfl ?_
      obtain ⟨_, _, ⟨T213, L213, k213, n213⟩, -, X213, ⟨Lc213, hQ213, l213, y213, z213⟩, st213⟩ := Jvm.LawKit.callS X209 hx (y := (⟨"com/example/pooler/pooler/pool/BackoffDelayPinLaw", "at", "(IIJJ)J"⟩ : MethodName)) hown (mvT hZ (hw _ (List.mem_of_getElem? (i := 16) rfl))) (mvT hZ (hw _ (List.mem_of_getElem? (i := 17) rfl))) (mvT hZ (hw _ (List.mem_of_getElem? (i := 18) rfl))) (mvT hZ (hw _ (List.mem_of_getElem? (i := 19) rfl))) (by decide) (backOf (W := 1) (rm4 l Z a0 hw [] (1 : Int32) lst x1 x2 T209.heap n0 Z209 ) hZ (hw _ (List.mem_of_getElem? (i := 19) rfl)) (hw _ (List.mem_of_getElem? (i := 18) rfl)) (by decide) (by decide)) (g := (mkF m 91 #[.val (.int x0), .val (.long x1), .second, .val (.long x2), .second, .val (.long x3), .second, .val (.int ff), .val (.int (1 : Int32)), .val (.int (1 : Int32)), .val (.int tot), .val (.int lst), .val (.ref b201), .val (.int (1 : Int32)), .unset, .unset, .unset, .unset, .unset, .unset, .unset, .unset, .unset, .unset, .unset] [(.long x2), (.long x1), (.int lst), (.int (1 : Int32)), (.ref b201)])) rfl (by rw [hml]; rfl) (argsL := [(.int (1 : Int32)), (.int lst), (.long x1), (.long x2)]) (rest := [(.ref b201)]) (lenOf own_pd4 rfl) rfl (by show 2 * 0 + _ ≤ _; exact Nat.le_of_eq rfl) (hb hby at_91) (fun _ _ => ⟨rfl, rfl, (by decide : 1 + 0 ≤ _), (by decide : 3 + 0 ≤ _)⟩)
      dsimp only [Pt.U, Pt.locs, Pt.cells, Pt.slots] at X213 l213 y213 z213 st213 hQ213
      subst l213 y213 z213
      obtain ⟨ar_213, rfl, N213q, eh213, pr213_0⟩ := hQ213
      have N213 := Fr.app N209 N213q
      refine Goes.go st213 ?_
      show Goes p e below s _ _ _ T213 (mkF m 94 #[.val (.int x0), .val (.long x1), .second, .val (.long x2), .second, .val (.long x3), .second, .val (.int ff), .val (.int (1 : Int32)), .val (.int (1 : Int32)), .val (.int tot), .val (.int lst), .val (.ref b201), .val (.int (1 : Int32)), .unset, .unset, .unset, .unset, .unset, .unset, .unset, .unset, .unset, .unset, .unset] [(.long ar_213), (.ref b201)])
      obtain ⟨cq214, kq214, q214a, q214b, q214c⟩ := isOf hZ eh213 f212
      obtain ⟨_, _, ⟨T214, L214, k214, n214⟩, -, X214, ⟨Lc214, hQ214, l214, y214, z214⟩, st214⟩ := X213.virtualBack hx (y := (⟨"com/example/pooler/pooler/pool/Backoff", "opened", "(J)V"⟩ : MethodName)) (z := (⟨"com/example/pooler/pooler/pool/Backoff", "opened", "(J)V"⟩ : MethodName)) hown (mvT hZ (hw _ (List.mem_of_getElem? (i := 55) rfl))) (mvT hZ (hw _ (List.mem_of_getElem? (i := 56) rfl))) (notFace_of_selects (args := #[]) (mvT hZ (hw _ (List.mem_of_getElem? (i := 58) rfl)))) (mvT hZ (hw _ (List.mem_of_getElem? (i := 58) rfl))) (mvT hZ (hw _ (List.mem_of_getElem? (i := 57) rfl))) (by decide) (backOf (W := 0) (rm11 l Z a0 hw [] b201 ar_213 (1 : Int32) ar_208 (1 : Int32) T209.heap n0 Z209 f212 G201 f209_0 f209_1 f209_2) hZ (hw _ (List.mem_of_getElem? (i := 59) rfl)) (hw _ (List.mem_of_getElem? (i := 2) rfl)) (by decide) (by decide)) q214a q214c (g := (mkF m 94 #[.val (.int x0), .val (.long x1), .second, .val (.long x2), .second, .val (.long x3), .second, .val (.int ff), .val (.int (1 : Int32)), .val (.int (1 : Int32)), .val (.int tot), .val (.int lst), .val (.ref b201), .val (.int (1 : Int32)), .unset, .unset, .unset, .unset, .unset, .unset, .unset, .unset, .unset, .unset, .unset] [(.long ar_213), (.ref b201)])) rfl (by rw [hml]; rfl) (Steps.refl _) (argsL := [(.long ar_213)]) (rest := []) (lenOf own_pd0 rfl) rfl (by show 2 * 0 + _ ≤ _; exact Nat.le_of_eq rfl) (hb hby at_94) (fun _ _ => ⟨rfl, eh213, (by decide : 1 + 0 ≤ _), (by decide : 3 + 0 ≤ _)⟩)
      dsimp only [Pt.U, Pt.locs, Pt.cells, Pt.slots] at X214 l214 y214 z214 st214 hQ214
      subst l214 y214 z214
      obtain ⟨rfl, N214q, K214q, f214_0, f214_1, f214_2⟩ := hQ214
      have N214 := Fr.app N213 N214q
      have f215 := own_sta_keep f210 K214q (allS (own_eplain f212) all0)
      have f216 := own_sta_keep f211 K214q (allS (own_eplain f212) all0)
      have f217 := f212.keep K214q
      have K214 := K209.trans K214q (allS (Or.inr H201) all0)
      have Z214 := Nat.le_trans Z209 K214q.1
      refine Goes.tr st214 ?_
      show Goes p e below s _ _ _ T214 (mkF m 97 #[.val (.int x0), .val (.long x1), .second, .val (.long x2), .second, .val (.long x3), .second, .val (.int ff), .val (.int (1 : Int32)), .val (.int (1 : Int32)), .val (.int tot), .val (.int lst), .val (.ref b201), .val (.int (1 : Int32)), .unset, .unset, .unset, .unset, .unset, .unset, .unset, .unset, .unset, .unset, .unset] [])
      refine own_iinc X214 hx 100 rfl #[.val (.int x0), .val (.long x1), .second, .val (.long x2), .second, .val (.long x3), .second, .val (.int ff), .val (.int (1 : Int32)), .val (.int (1 : Int32)), .val (.int tot), .val (.int lst), .val (.ref b201), .val (.int (2 : Int32)), .unset, .unset, .unset, .unset, .unset, .unset, .unset, .unset, .unset, .unset, .unset] (hb hby at_97) rfl (by decide) rfl ?_
      refine own_iload X214 hx 102 rfl (hb hby at_100) rfl ?_
      by_cases hc102_218 : (0 : Int32) < ff
      · refine own_ifN X214 hx 105 (hb hby at_102) ((if0 _ _).trans (tlt hc102_218).2.2.2) rfl ?_
        refine own_aload X214 hx 107 rfl (hb hby at_105) rfl rfl ?_
        refine own_iload X214 hx 109 rfl (hb hby at_107) rfl ?_
        refine own_iload X214 hx 111 rfl (hb hby at_109) rfl ?_
        refine own_lloadN X214 hx 112 rfl (hb hby at_111) rfl ?_
        refine own_lloadN X214 hx 113 rfl (hb hby at_112) rfl ?_
        obtain ⟨_, _, ⟨T219, L219, k219, n219⟩, -, X219, ⟨Lc219, hQ219, l219, y219, z219⟩, st219⟩ := Jvm.LawKit.callS X214 hx (y := (⟨"com/example/pooler/pooler/pool/BackoffDelayPinLaw", "at", "(IIJJ)J"⟩ : MethodName)) hown (mvT hZ (hw _ (List.mem_of_getElem? (i := 16) rfl))) (mvT hZ (hw _ (List.mem_of_getElem? (i := 17) rfl))) (mvT hZ (hw _ (List.mem_of_getElem? (i := 18) rfl))) (mvT hZ (hw _ (List.mem_of_getElem? (i := 19) rfl))) (by decide) (backOf (W := 1) (rm4 l Z a0 hw [] (2 : Int32) lst x1 x2 T214.heap n0 Z214 ) hZ (hw _ (List.mem_of_getElem? (i := 19) rfl)) (hw _ (List.mem_of_getElem? (i := 18) rfl)) (by decide) (by decide)) (g := (mkF m 113 #[.val (.int x0), .val (.long x1), .second, .val (.long x2), .second, .val (.long x3), .second, .val (.int ff), .val (.int (1 : Int32)), .val (.int (1 : Int32)), .val (.int tot), .val (.int lst), .val (.ref b201), .val (.int (2 : Int32)), .unset, .unset, .unset, .unset, .unset, .unset, .unset, .unset, .unset, .unset, .unset] [(.long x2), (.long x1), (.int lst), (.int (2 : Int32)), (.ref b201)])) rfl (by rw [hml]; rfl) (argsL := [(.int (2 : Int32)), (.int lst), (.long x1), (.long x2)]) (rest := [(.ref b201)]) (lenOf own_pd4 rfl) rfl (by show 2 * 0 + _ ≤ _; exact Nat.le_of_eq rfl) (hb hby at_113) (fun _ _ => ⟨rfl, rfl, (by decide : 1 + 0 ≤ _), (by decide : 3 + 0 ≤ _)⟩)
        dsimp only [Pt.U, Pt.locs, Pt.cells, Pt.slots] at X219 l219 y219 z219 st219 hQ219
        subst l219 y219 z219
        obtain ⟨ar_219, rfl, N219q, eh219, pr219_0⟩ := hQ219
        have N219 := Fr.app N214 N219q
        refine Goes.go st219 ?_
        show Goes p e below s _ _ _ T219 (mkF m 116 #[.val (.int x0), .val (.long x1), .second, .val (.long x2), .second, .val (.long x3), .second, .val (.int ff), .val (.int (1 : Int32)), .val (.int (1 : Int32)), .val (.int tot), .val (.int lst), .val (.ref b201), .val (.int (2 : Int32)), .unset, .unset, .unset, .unset, .unset, .unset, .unset, .unset, .unset, .unset, .unset] [(.long ar_219), (.ref b201)])
        obtain ⟨cq220, kq220, q220a, q220b, q220c⟩ := isOf hZ eh219 f217
        obtain ⟨_, _, ⟨T220, L220, k220, n220⟩, -, X220, ⟨Lc220, hQ220, l220, y220, z220⟩, st220⟩ := X219.virtualBack hx (y := (⟨"com/example/pooler/pooler/pool/Backoff", "failed", "(J)V"⟩ : MethodName)) (z := (⟨"com/example/pooler/pooler/pool/Backoff", "failed", "(J)V"⟩ : MethodName)) hown (mvT hZ (hw _ (List.mem_of_getElem? (i := 20) rfl))) (mvT hZ (hw _ (List.mem_of_getElem? (i := 21) rfl))) (notFace_of_selects (args := #[]) (mvT hZ (hw _ (List.mem_of_getElem? (i := 23) rfl)))) (mvT hZ (hw _ (List.mem_of_getElem? (i := 23) rfl))) (mvT hZ (hw _ (List.mem_of_getElem? (i := 22) rfl))) (by decide) (backOf (W := 0) (rmfa0 l Z a0 hw [] b201 ar_219 (1 : Int32) ar_213 T214.heap n0 Z214 f217 G201 f214_0 f214_1 f214_2) hZ (hw _ (List.mem_of_getElem? (i := 24) rfl)) (hw _ (List.mem_of_getElem? (i := 2) rfl)) (by decide) (by decide)) q220a q220c (g := (mkF m 116 #[.val (.int x0), .val (.long x1), .second, .val (.long x2), .second, .val (.long x3), .second, .val (.int ff), .val (.int (1 : Int32)), .val (.int (1 : Int32)), .val (.int tot), .val (.int lst), .val (.ref b201), .val (.int (2 : Int32)), .unset, .unset, .unset, .unset, .unset, .unset, .unset, .unset, .unset, .unset, .unset] [(.long ar_219), (.ref b201)])) rfl (by rw [hml]; rfl) (Steps.refl _) (argsL := [(.long ar_219)]) (rest := []) (lenOf own_pd0 rfl) rfl (by show 2 * 0 + _ ≤ _; exact Nat.le_of_eq rfl) (hb hby at_116) (fun _ _ => ⟨rfl, eh219, (by decide : 1 + 0 ≤ _), (by decide : 3 + 0 ≤ _)⟩)
        dsimp only [Pt.U, Pt.locs, Pt.cells, Pt.slots] at X220 l220 y220 z220 st220 hQ220
        subst l220 y220 z220
        obtain ⟨rfl, N220q, K220q, f220_0, f220_1, f220_2⟩ := hQ220
        have N220 := Fr.app N219 N220q
        have f221 := own_sta_keep f215 K220q (allS (own_eplain f217) all0)
        have f222 := own_sta_keep f216 K220q (allS (own_eplain f217) all0)
        have f223 := f217.keep K220q
        have K220 := K214.trans K220q (allS (Or.inr H201) all0)
        have Z220 := Nat.le_trans Z214 K220q.1
        refine Goes.tr st220 ?_
        show Goes p e below s _ _ _ T220 (mkF m 119 #[.val (.int x0), .val (.long x1), .second, .val (.long x2), .second, .val (.long x3), .second, .val (.int ff), .val (.int (1 : Int32)), .val (.int (1 : Int32)), .val (.int tot), .val (.int lst), .val (.ref b201), .val (.int (2 : Int32)), .unset, .unset, .unset, .unset, .unset, .unset, .unset, .unset, .unset, .unset, .unset] [])
        refine own_iinc X220 hx 122 rfl #[.val (.int x0), .val (.long x1), .second, .val (.long x2), .second, .val (.long x3), .second, .val (.int ff), .val (.int (1 : Int32)), .val (.int (1 : Int32)), .val (.int tot), .val (.int lst), .val (.ref b201), .val (.int (3 : Int32)), .unset, .unset, .unset, .unset, .unset, .unset, .unset, .unset, .unset, .unset, .unset] (hb hby at_119) rfl (by decide) rfl ?_
        refine own_iload X220 hx 124 rfl (hb hby at_122) rfl ?_
        refine own_iconst X220 hx 125 rfl (1 : Int32) (hb hby at_124) (by decide) ?_
        by_cases hc125_224 : (1 : Int32) < ff
        · refine own_icmpN X220 hx 128 (hb hby at_125) (tlt hc125_224).2.2.2 rfl ?_
          refine own_aload X220 hx 130 rfl (hb hby at_128) rfl rfl ?_
          refine own_iload X220 hx 132 rfl (hb hby at_130) rfl ?_
          refine own_iload X220 hx 134 rfl (hb hby at_132) rfl ?_
          refine own_lloadN X220 hx 135 rfl (hb hby at_134) rfl ?_
          refine own_lloadN X220 hx 136 rfl (hb hby at_135) rfl ?_
          obtain ⟨_, _, ⟨T225, L225, k225, n225⟩, -, X225, ⟨Lc225, hQ225, l225, y225, z225⟩, st225⟩ := Jvm.LawKit.callS X220 hx (y := (⟨"com/example/pooler/pooler/pool/BackoffDelayPinLaw", "at", "(IIJJ)J"⟩ : MethodName)) hown (mvT hZ (hw _ (List.mem_of_getElem? (i := 16) rfl))) (mvT hZ (hw _ (List.mem_of_getElem? (i := 17) rfl))) (mvT hZ (hw _ (List.mem_of_getElem? (i := 18) rfl))) (mvT hZ (hw _ (List.mem_of_getElem? (i := 19) rfl))) (by decide) (backOf (W := 1) (rm4 l Z a0 hw [] (3 : Int32) lst x1 x2 T220.heap n0 Z220 ) hZ (hw _ (List.mem_of_getElem? (i := 19) rfl)) (hw _ (List.mem_of_getElem? (i := 18) rfl)) (by decide) (by decide)) (g := (mkF m 136 #[.val (.int x0), .val (.long x1), .second, .val (.long x2), .second, .val (.long x3), .second, .val (.int ff), .val (.int (1 : Int32)), .val (.int (1 : Int32)), .val (.int tot), .val (.int lst), .val (.ref b201), .val (.int (3 : Int32)), .unset, .unset, .unset, .unset, .unset, .unset, .unset, .unset, .unset, .unset, .unset] [(.long x2), (.long x1), (.int lst), (.int (3 : Int32)), (.ref b201)])) rfl (by rw [hml]; rfl) (argsL := [(.int (3 : Int32)), (.int lst), (.long x1), (.long x2)]) (rest := [(.ref b201)]) (lenOf own_pd4 rfl) rfl (by show 2 * 0 + _ ≤ _; exact Nat.le_of_eq rfl) (hb hby at_136) (fun _ _ => ⟨rfl, rfl, (by decide : 1 + 0 ≤ _), (by decide : 3 + 0 ≤ _)⟩)
          dsimp only [Pt.U, Pt.locs, Pt.cells, Pt.slots] at X225 l225 y225 z225 st225 hQ225
          subst l225 y225 z225
          obtain ⟨ar_225, rfl, N225q, eh225, pr225_0⟩ := hQ225
          have N225 := Fr.app N220 N225q
          refine Goes.go st225 ?_
          show Goes p e below s _ _ _ T225 (mkF m 139 #[.val (.int x0), .val (.long x1), .second, .val (.long x2), .second, .val (.long x3), .second, .val (.int ff), .val (.int (1 : Int32)), .val (.int (1 : Int32)), .val (.int tot), .val (.int lst), .val (.ref b201), .val (.int (3 : Int32)), .unset, .unset, .unset, .unset, .unset, .unset, .unset, .unset, .unset, .unset, .unset] [(.long ar_225), (.ref b201)])
          obtain ⟨cq226, kq226, q226a, q226b, q226c⟩ := isOf hZ eh225 f223
          obtain ⟨_, _, ⟨T226, L226, k226, n226⟩, -, X226, ⟨Lc226, hQ226, l226, y226, z226⟩, st226⟩ := X225.virtualBack hx (y := (⟨"com/example/pooler/pooler/pool/Backoff", "failed", "(J)V"⟩ : MethodName)) (z := (⟨"com/example/pooler/pooler/pool/Backoff", "failed", "(J)V"⟩ : MethodName)) hown (mvT hZ (hw _ (List.mem_of_getElem? (i := 20) rfl))) (mvT hZ (hw _ (List.mem_of_getElem? (i := 21) rfl))) (notFace_of_selects (args := #[]) (mvT hZ (hw _ (List.mem_of_getElem? (i := 23) rfl)))) (mvT hZ (hw _ (List.mem_of_getElem? (i := 23) rfl))) (mvT hZ (hw _ (List.mem_of_getElem? (i := 22) rfl))) (by decide) (backOf (W := 0) (rmfa1 l Z a0 hw [] b201 ar_225 (1 : Int32) ar_219 T220.heap n0 Z220 f223 G201 f220_0 f220_1 f220_2) hZ (hw _ (List.mem_of_getElem? (i := 24) rfl)) (hw _ (List.mem_of_getElem? (i := 2) rfl)) (by decide) (by decide)) q226a q226c (g := (mkF m 139 #[.val (.int x0), .val (.long x1), .second, .val (.long x2), .second, .val (.long x3), .second, .val (.int ff), .val (.int (1 : Int32)), .val (.int (1 : Int32)), .val (.int tot), .val (.int lst), .val (.ref b201), .val (.int (3 : Int32)), .unset, .unset, .unset, .unset, .unset, .unset, .unset, .unset, .unset, .unset, .unset] [(.long ar_225), (.ref b201)])) rfl (by rw [hml]; rfl) (Steps.refl _) (argsL := [(.long ar_225)]) (rest := []) (lenOf own_pd0 rfl) rfl (by show 2 * 0 + _ ≤ _; exact Nat.le_of_eq rfl) (hb hby at_139) (fun _ _ => ⟨rfl, eh225, (by decide : 1 + 0 ≤ _), (by decide : 3 + 0 ≤ _)⟩)
          dsimp only [Pt.U, Pt.locs, Pt.cells, Pt.slots] at X226 l226 y226 z226 st226 hQ226
          subst l226 y226 z226
          obtain ⟨rfl, N226q, K226q, f226_0, f226_1, f226_2⟩ := hQ226
          have N226 := Fr.app N225 N226q
          have f227 := own_sta_keep f221 K226q (allS (own_eplain f223) all0)
          have f228 := own_sta_keep f222 K226q (allS (own_eplain f223) all0)
          have f229 := f223.keep K226q
          have K226 := K220.trans K226q (allS (Or.inr H201) all0)
          have Z226 := Nat.le_trans Z220 K226q.1
          refine Goes.tr st226 ?_
          show Goes p e below s _ _ _ T226 (mkF m 142 #[.val (.int x0), .val (.long x1), .second, .val (.long x2), .second, .val (.long x3), .second, .val (.int ff), .val (.int (1 : Int32)), .val (.int (1 : Int32)), .val (.int tot), .val (.int lst), .val (.ref b201), .val (.int (3 : Int32)), .unset, .unset, .unset, .unset, .unset, .unset, .unset, .unset, .unset, .unset, .unset] [])
          refine own_iinc X226 hx 145 rfl #[.val (.int x0), .val (.long x1), .second, .val (.long x2), .second, .val (.long x3), .second, .val (.int ff), .val (.int (1 : Int32)), .val (.int (1 : Int32)), .val (.int tot), .val (.int lst), .val (.ref b201), .val (.int (4 : Int32)), .unset, .unset, .unset, .unset, .unset, .unset, .unset, .unset, .unset, .unset, .unset] (hb hby at_142) rfl (by decide) rfl ?_
          refine own_iload X226 hx 147 rfl (hb hby at_145) rfl ?_
          refine own_iconst X226 hx 148 rfl (2 : Int32) (hb hby at_147) (by decide) ?_
          by_cases hc148_230 : (2 : Int32) < ff
          · refine own_icmpN X226 hx 151 (hb hby at_148) (tlt hc148_230).2.2.2 rfl ?_
            refine own_aload X226 hx 153 rfl (hb hby at_151) rfl rfl ?_
            refine own_iload X226 hx 155 rfl (hb hby at_153) rfl ?_
            refine own_iload X226 hx 157 rfl (hb hby at_155) rfl ?_
            refine own_lloadN X226 hx 158 rfl (hb hby at_157) rfl ?_
            refine own_lloadN X226 hx 159 rfl (hb hby at_158) rfl ?_
            obtain ⟨_, _, ⟨T231, L231, k231, n231⟩, -, X231, ⟨Lc231, hQ231, l231, y231, z231⟩, st231⟩ := Jvm.LawKit.callS X226 hx (y := (⟨"com/example/pooler/pooler/pool/BackoffDelayPinLaw", "at", "(IIJJ)J"⟩ : MethodName)) hown (mvT hZ (hw _ (List.mem_of_getElem? (i := 16) rfl))) (mvT hZ (hw _ (List.mem_of_getElem? (i := 17) rfl))) (mvT hZ (hw _ (List.mem_of_getElem? (i := 18) rfl))) (mvT hZ (hw _ (List.mem_of_getElem? (i := 19) rfl))) (by decide) (backOf (W := 1) (rm4 l Z a0 hw [] (4 : Int32) lst x1 x2 T226.heap n0 Z226 ) hZ (hw _ (List.mem_of_getElem? (i := 19) rfl)) (hw _ (List.mem_of_getElem? (i := 18) rfl)) (by decide) (by decide)) (g := (mkF m 159 #[.val (.int x0), .val (.long x1), .second, .val (.long x2), .second, .val (.long x3), .second, .val (.int ff), .val (.int (1 : Int32)), .val (.int (1 : Int32)), .val (.int tot), .val (.int lst), .val (.ref b201), .val (.int (4 : Int32)), .unset, .unset, .unset, .unset, .unset, .unset, .unset, .unset, .unset, .unset, .unset] [(.long x2), (.long x1), (.int lst), (.int (4 : Int32)), (.ref b201)])) rfl (by rw [hml]; rfl) (argsL := [(.int (4 : Int32)), (.int lst), (.long x1), (.long x2)]) (rest := [(.ref b201)]) (lenOf own_pd4 rfl) rfl (by show 2 * 0 + _ ≤ _; exact Nat.le_of_eq rfl) (hb hby at_159) (fun _ _ => ⟨rfl, rfl, (by decide : 1 + 0 ≤ _), (by decide : 3 + 0 ≤ _)⟩)
            dsimp only [Pt.U, Pt.locs, Pt.cells, Pt.slots] at X231 l231 y231 z231 st231 hQ231
            subst l231 y231 z231
            obtain ⟨ar_231, rfl, N231q, eh231, pr231_0⟩ := hQ231
            have N231 := Fr.app N226 N231q
            refine Goes.go st231 ?_
            show Goes p e below s _ _ _ T231 (mkF m 162 #[.val (.int x0), .val (.long x1), .second, .val (.long x2), .second, .val (.long x3), .second, .val (.int ff), .val (.int (1 : Int32)), .val (.int (1 : Int32)), .val (.int tot), .val (.int lst), .val (.ref b201), .val (.int (4 : Int32)), .unset, .unset, .unset, .unset, .unset, .unset, .unset, .unset, .unset, .unset, .unset] [(.long ar_231), (.ref b201)])
            obtain ⟨cq232, kq232, q232a, q232b, q232c⟩ := isOf hZ eh231 f229
            obtain ⟨_, _, ⟨T232, L232, k232, n232⟩, -, X232, ⟨Lc232, hQ232, l232, y232, z232⟩, st232⟩ := X231.virtualBack hx (y := (⟨"com/example/pooler/pooler/pool/Backoff", "failed", "(J)V"⟩ : MethodName)) (z := (⟨"com/example/pooler/pooler/pool/Backoff", "failed", "(J)V"⟩ : MethodName)) hown (mvT hZ (hw _ (List.mem_of_getElem? (i := 20) rfl))) (mvT hZ (hw _ (List.mem_of_getElem? (i := 21) rfl))) (notFace_of_selects (args := #[]) (mvT hZ (hw _ (List.mem_of_getElem? (i := 23) rfl)))) (mvT hZ (hw _ (List.mem_of_getElem? (i := 23) rfl))) (mvT hZ (hw _ (List.mem_of_getElem? (i := 22) rfl))) (by decide) (backOf (W := 0) (rmfa2 l Z a0 hw [] b201 ar_231 (1 : Int32) ar_225 T226.heap n0 Z226 f229 G201 f226_0 f226_1 f226_2) hZ (hw _ (List.mem_of_getElem? (i := 24) rfl)) (hw _ (List.mem_of_getElem? (i := 2) rfl)) (by decide) (by decide)) q232a q232c (g := (mkF m 162 #[.val (.int x0), .val (.long x1), .second, .val (.long x2), .second, .val (.long x3), .second, .val (.int ff), .val (.int (1 : Int32)), .val (.int (1 : Int32)), .val (.int tot), .val (.int lst), .val (.ref b201), .val (.int (4 : Int32)), .unset, .unset, .unset, .unset, .unset, .unset, .unset, .unset, .unset, .unset, .unset] [(.long ar_231), (.ref b201)])) rfl (by rw [hml]; rfl) (Steps.refl _) (argsL := [(.long ar_231)]) (rest := []) (lenOf own_pd0 rfl) rfl (by show 2 * 0 + _ ≤ _; exact Nat.le_of_eq rfl) (hb hby at_162) (fun _ _ => ⟨rfl, eh231, (by decide : 1 + 0 ≤ _), (by decide : 3 + 0 ≤ _)⟩)
            dsimp only [Pt.U, Pt.locs, Pt.cells, Pt.slots] at X232 l232 y232 z232 st232 hQ232
            subst l232 y232 z232
            obtain ⟨rfl, N232q, K232q, f232_0, f232_1, f232_2⟩ := hQ232
            have N232 := Fr.app N231 N232q
            have f233 := own_sta_keep f227 K232q (allS (own_eplain f229) all0)
            have f234 := own_sta_keep f228 K232q (allS (own_eplain f229) all0)
            have f235 := f229.keep K232q
            have K232 := K226.trans K232q (allS (Or.inr H201) all0)
            have Z232 := Nat.le_trans Z226 K232q.1
            refine Goes.tr st232 ?_
            show Goes p e below s _ _ _ T232 (mkF m 165 #[.val (.int x0), .val (.long x1), .second, .val (.long x2), .second, .val (.long x3), .second, .val (.int ff), .val (.int (1 : Int32)), .val (.int (1 : Int32)), .val (.int tot), .val (.int lst), .val (.ref b201), .val (.int (4 : Int32)), .unset, .unset, .unset, .unset, .unset, .unset, .unset, .unset, .unset, .unset, .unset] [])
            refine own_iinc X232 hx 168 rfl #[.val (.int x0), .val (.long x1), .second, .val (.long x2), .second, .val (.long x3), .second, .val (.int ff), .val (.int (1 : Int32)), .val (.int (1 : Int32)), .val (.int tot), .val (.int lst), .val (.ref b201), .val (.int (5 : Int32)), .unset, .unset, .unset, .unset, .unset, .unset, .unset, .unset, .unset, .unset, .unset] (hb hby at_165) rfl (by decide) rfl ?_
            refine own_iload X232 hx 170 rfl (hb hby at_168) rfl ?_
            refine own_iconst X232 hx 171 rfl (3 : Int32) (hb hby at_170) (by decide) ?_
            by_cases hc171_236 : (3 : Int32) < ff
            · refine own_icmpN X232 hx 174 (hb hby at_171) (tlt hc171_236).2.2.2 rfl ?_
              refine own_aload X232 hx 176 rfl (hb hby at_174) rfl rfl ?_
              refine own_iload X232 hx 178 rfl (hb hby at_176) rfl ?_
              refine own_iload X232 hx 180 rfl (hb hby at_178) rfl ?_
              refine own_lloadN X232 hx 181 rfl (hb hby at_180) rfl ?_
              refine own_lloadN X232 hx 182 rfl (hb hby at_181) rfl ?_
              obtain ⟨_, _, ⟨T237, L237, k237, n237⟩, -, X237, ⟨Lc237, hQ237, l237, y237, z237⟩, st237⟩ := Jvm.LawKit.callS X232 hx (y := (⟨"com/example/pooler/pooler/pool/BackoffDelayPinLaw", "at", "(IIJJ)J"⟩ : MethodName)) hown (mvT hZ (hw _ (List.mem_of_getElem? (i := 16) rfl))) (mvT hZ (hw _ (List.mem_of_getElem? (i := 17) rfl))) (mvT hZ (hw _ (List.mem_of_getElem? (i := 18) rfl))) (mvT hZ (hw _ (List.mem_of_getElem? (i := 19) rfl))) (by decide) (backOf (W := 1) (rm4 l Z a0 hw [] (5 : Int32) lst x1 x2 T232.heap n0 Z232 ) hZ (hw _ (List.mem_of_getElem? (i := 19) rfl)) (hw _ (List.mem_of_getElem? (i := 18) rfl)) (by decide) (by decide)) (g := (mkF m 182 #[.val (.int x0), .val (.long x1), .second, .val (.long x2), .second, .val (.long x3), .second, .val (.int ff), .val (.int (1 : Int32)), .val (.int (1 : Int32)), .val (.int tot), .val (.int lst), .val (.ref b201), .val (.int (5 : Int32)), .unset, .unset, .unset, .unset, .unset, .unset, .unset, .unset, .unset, .unset, .unset] [(.long x2), (.long x1), (.int lst), (.int (5 : Int32)), (.ref b201)])) rfl (by rw [hml]; rfl) (argsL := [(.int (5 : Int32)), (.int lst), (.long x1), (.long x2)]) (rest := [(.ref b201)]) (lenOf own_pd4 rfl) rfl (by show 2 * 0 + _ ≤ _; exact Nat.le_of_eq rfl) (hb hby at_182) (fun _ _ => ⟨rfl, rfl, (by decide : 1 + 0 ≤ _), (by decide : 3 + 0 ≤ _)⟩)
              dsimp only [Pt.U, Pt.locs, Pt.cells, Pt.slots] at X237 l237 y237 z237 st237 hQ237
              subst l237 y237 z237
              obtain ⟨ar_237, rfl, N237q, eh237, pr237_0⟩ := hQ237
              have N237 := Fr.app N232 N237q
              refine Goes.go st237 ?_
              show Goes p e below s _ _ _ T237 (mkF m 185 #[.val (.int x0), .val (.long x1), .second, .val (.long x2), .second, .val (.long x3), .second, .val (.int ff), .val (.int (1 : Int32)), .val (.int (1 : Int32)), .val (.int tot), .val (.int lst), .val (.ref b201), .val (.int (5 : Int32)), .unset, .unset, .unset, .unset, .unset, .unset, .unset, .unset, .unset, .unset, .unset] [(.long ar_237), (.ref b201)])
              obtain ⟨cq238, kq238, q238a, q238b, q238c⟩ := isOf hZ eh237 f235
              obtain ⟨_, _, ⟨T238, L238, k238, n238⟩, -, X238, ⟨Lc238, hQ238, l238, y238, z238⟩, st238⟩ := X237.virtualBack hx (y := (⟨"com/example/pooler/pooler/pool/Backoff", "failed", "(J)V"⟩ : MethodName)) (z := (⟨"com/example/pooler/pooler/pool/Backoff", "failed", "(J)V"⟩ : MethodName)) hown (mvT hZ (hw _ (List.mem_of_getElem? (i := 20) rfl))) (mvT hZ (hw _ (List.mem_of_getElem? (i := 21) rfl))) (notFace_of_selects (args := #[]) (mvT hZ (hw _ (List.mem_of_getElem? (i := 23) rfl)))) (mvT hZ (hw _ (List.mem_of_getElem? (i := 23) rfl))) (mvT hZ (hw _ (List.mem_of_getElem? (i := 22) rfl))) (by decide) (backOf (W := 0) (rmfa3 l Z a0 hw [] b201 ar_237 (1 : Int32) ar_231 T232.heap n0 Z232 f235 G201 f232_0 f232_1 f232_2) hZ (hw _ (List.mem_of_getElem? (i := 24) rfl)) (hw _ (List.mem_of_getElem? (i := 2) rfl)) (by decide) (by decide)) q238a q238c (g := (mkF m 185 #[.val (.int x0), .val (.long x1), .second, .val (.long x2), .second, .val (.long x3), .second, .val (.int ff), .val (.int (1 : Int32)), .val (.int (1 : Int32)), .val (.int tot), .val (.int lst), .val (.ref b201), .val (.int (5 : Int32)), .unset, .unset, .unset, .unset, .unset, .unset, .unset, .unset, .unset, .unset, .unset] [(.long ar_237), (.ref b201)])) rfl (by rw [hml]; rfl) (Steps.refl _) (argsL := [(.long ar_237)]) (rest := []) (lenOf own_pd0 rfl) rfl (by show 2 * 0 + _ ≤ _; exact Nat.le_of_eq rfl) (hb hby at_185) (fun _ _ => ⟨rfl, eh237, (by decide : 1 + 0 ≤ _), (by decide : 3 + 0 ≤ _)⟩)
              dsimp only [Pt.U, Pt.locs, Pt.cells, Pt.slots] at X238 l238 y238 z238 st238 hQ238
              subst l238 y238 z238
              obtain ⟨rfl, N238q, K238q, f238_0, f238_1, f238_2⟩ := hQ238
              have N238 := Fr.app N237 N238q
              have f239 := own_sta_keep f233 K238q (allS (own_eplain f235) all0)
              have f240 := own_sta_keep f234 K238q (allS (own_eplain f235) all0)
              have f241 := f235.keep K238q
              have K238 := K232.trans K238q (allS (Or.inr H201) all0)
              have Z238 := Nat.le_trans Z232 K238q.1
              refine Goes.tr st238 ?_
              show Goes p e below s _ _ _ T238 (mkF m 188 #[.val (.int x0), .val (.long x1), .second, .val (.long x2), .second, .val (.long x3), .second, .val (.int ff), .val (.int (1 : Int32)), .val (.int (1 : Int32)), .val (.int tot), .val (.int lst), .val (.ref b201), .val (.int (5 : Int32)), .unset, .unset, .unset, .unset, .unset, .unset, .unset, .unset, .unset, .unset, .unset] [])
              refine own_iinc X238 hx 191 rfl #[.val (.int x0), .val (.long x1), .second, .val (.long x2), .second, .val (.long x3), .second, .val (.int ff), .val (.int (1 : Int32)), .val (.int (1 : Int32)), .val (.int tot), .val (.int lst), .val (.ref b201), .val (.int (6 : Int32)), .unset, .unset, .unset, .unset, .unset, .unset, .unset, .unset, .unset, .unset, .unset] (hb hby at_188) rfl (by decide) rfl ?_
              refine own_iload X238 hx 193 rfl (hb hby at_191) rfl ?_
              refine own_iconst X238 hx 194 rfl (4 : Int32) (hb hby at_193) (by decide) ?_
              by_cases hc194_242 : (4 : Int32) < ff
              · refine own_icmpN X238 hx 197 (hb hby at_194) (tlt hc194_242).2.2.2 rfl ?_
                refine own_aload X238 hx 199 rfl (hb hby at_197) rfl rfl ?_
                refine own_iload X238 hx 201 rfl (hb hby at_199) rfl ?_
                refine own_iload X238 hx 203 rfl (hb hby at_201) rfl ?_
                refine own_lloadN X238 hx 204 rfl (hb hby at_203) rfl ?_
                refine own_lloadN X238 hx 205 rfl (hb hby at_204) rfl ?_
                obtain ⟨_, _, ⟨T243, L243, k243, n243⟩, -, X243, ⟨Lc243, hQ243, l243, y243, z243⟩, st243⟩ := Jvm.LawKit.callS X238 hx (y := (⟨"com/example/pooler/pooler/pool/BackoffDelayPinLaw", "at", "(IIJJ)J"⟩ : MethodName)) hown (mvT hZ (hw _ (List.mem_of_getElem? (i := 16) rfl))) (mvT hZ (hw _ (List.mem_of_getElem? (i := 17) rfl))) (mvT hZ (hw _ (List.mem_of_getElem? (i := 18) rfl))) (mvT hZ (hw _ (List.mem_of_getElem? (i := 19) rfl))) (by decide) (backOf (W := 1) (rm4 l Z a0 hw [] (6 : Int32) lst x1 x2 T238.heap n0 Z238 ) hZ (hw _ (List.mem_of_getElem? (i := 19) rfl)) (hw _ (List.mem_of_getElem? (i := 18) rfl)) (by decide) (by decide)) (g := (mkF m 205 #[.val (.int x0), .val (.long x1), .second, .val (.long x2), .second, .val (.long x3), .second, .val (.int ff), .val (.int (1 : Int32)), .val (.int (1 : Int32)), .val (.int tot), .val (.int lst), .val (.ref b201), .val (.int (6 : Int32)), .unset, .unset, .unset, .unset, .unset, .unset, .unset, .unset, .unset, .unset, .unset] [(.long x2), (.long x1), (.int lst), (.int (6 : Int32)), (.ref b201)])) rfl (by rw [hml]; rfl) (argsL := [(.int (6 : Int32)), (.int lst), (.long x1), (.long x2)]) (rest := [(.ref b201)]) (lenOf own_pd4 rfl) rfl (by show 2 * 0 + _ ≤ _; exact Nat.le_of_eq rfl) (hb hby at_205) (fun _ _ => ⟨rfl, rfl, (by decide : 1 + 0 ≤ _), (by decide : 3 + 0 ≤ _)⟩)
                dsimp only [Pt.U, Pt.locs, Pt.cells, Pt.slots] at X243 l243 y243 z243 st243 hQ243
                subst l243 y243 z243
                obtain ⟨ar_243, rfl, N243q, eh243, pr243_0⟩ := hQ243
                have N243 := Fr.app N238 N243q
                refine Goes.go st243 ?_
                show Goes p e below s _ _ _ T243 (mkF m 208 #[.val (.int x0), .val (.long x1), .second, .val (.long x2), .second, .val (.long x3), .second, .val (.int ff), .val (.int (1 : Int32)), .val (.int (1 : Int32)), .val (.int tot), .val (.int lst), .val (.ref b201), .val (.int (6 : Int32)), .unset, .unset, .unset, .unset, .unset, .unset, .unset, .unset, .unset, .unset, .unset] [(.long ar_243), (.ref b201)])
                obtain ⟨cq244, kq244, q244a, q244b, q244c⟩ := isOf hZ eh243 f241
                obtain ⟨_, _, ⟨T244, L244, k244, n244⟩, -, X244, ⟨Lc244, hQ244, l244, y244, z244⟩, st244⟩ := X243.virtualBack hx (y := (⟨"com/example/pooler/pooler/pool/Backoff", "failed", "(J)V"⟩ : MethodName)) (z := (⟨"com/example/pooler/pooler/pool/Backoff", "failed", "(J)V"⟩ : MethodName)) hown (mvT hZ (hw _ (List.mem_of_getElem? (i := 20) rfl))) (mvT hZ (hw _ (List.mem_of_getElem? (i := 21) rfl))) (notFace_of_selects (args := #[]) (mvT hZ (hw _ (List.mem_of_getElem? (i := 23) rfl)))) (mvT hZ (hw _ (List.mem_of_getElem? (i := 23) rfl))) (mvT hZ (hw _ (List.mem_of_getElem? (i := 22) rfl))) (by decide) (backOf (W := 0) (rmfa4 l Z a0 hw [] b201 ar_243 (1 : Int32) ar_237 T238.heap n0 Z238 f241 G201 f238_0 f238_1 f238_2) hZ (hw _ (List.mem_of_getElem? (i := 24) rfl)) (hw _ (List.mem_of_getElem? (i := 2) rfl)) (by decide) (by decide)) q244a q244c (g := (mkF m 208 #[.val (.int x0), .val (.long x1), .second, .val (.long x2), .second, .val (.long x3), .second, .val (.int ff), .val (.int (1 : Int32)), .val (.int (1 : Int32)), .val (.int tot), .val (.int lst), .val (.ref b201), .val (.int (6 : Int32)), .unset, .unset, .unset, .unset, .unset, .unset, .unset, .unset, .unset, .unset, .unset] [(.long ar_243), (.ref b201)])) rfl (by rw [hml]; rfl) (Steps.refl _) (argsL := [(.long ar_243)]) (rest := []) (lenOf own_pd0 rfl) rfl (by show 2 * 0 + _ ≤ _; exact Nat.le_of_eq rfl) (hb hby at_208) (fun _ _ => ⟨rfl, eh243, (by decide : 1 + 0 ≤ _), (by decide : 3 + 0 ≤ _)⟩)
                dsimp only [Pt.U, Pt.locs, Pt.cells, Pt.slots] at X244 l244 y244 z244 st244 hQ244
                subst l244 y244 z244
                obtain ⟨rfl, N244q, K244q, f244_0, f244_1, f244_2⟩ := hQ244
                have N244 := Fr.app N243 N244q
                have f245 := own_sta_keep f239 K244q (allS (own_eplain f241) all0)
                have f246 := own_sta_keep f240 K244q (allS (own_eplain f241) all0)
                have f247 := f241.keep K244q
                have K244 := K238.trans K244q (allS (Or.inr H201) all0)
                have Z244 := Nat.le_trans Z238 K244q.1
                refine Goes.tr st244 ?_
                show Goes p e below s _ _ _ T244 (mkF m 211 #[.val (.int x0), .val (.long x1), .second, .val (.long x2), .second, .val (.long x3), .second, .val (.int ff), .val (.int (1 : Int32)), .val (.int (1 : Int32)), .val (.int tot), .val (.int lst), .val (.ref b201), .val (.int (6 : Int32)), .unset, .unset, .unset, .unset, .unset, .unset, .unset, .unset, .unset, .unset, .unset] [])
                refine own_iinc X244 hx 214 rfl #[.val (.int x0), .val (.long x1), .second, .val (.long x2), .second, .val (.long x3), .second, .val (.int ff), .val (.int (1 : Int32)), .val (.int (1 : Int32)), .val (.int tot), .val (.int lst), .val (.ref b201), .val (.int (7 : Int32)), .unset, .unset, .unset, .unset, .unset, .unset, .unset, .unset, .unset, .unset, .unset] (hb hby at_211) rfl (by decide) rfl ?_
                refine own_iload X244 hx 216 rfl (hb hby at_214) rfl ?_
                refine own_iconst X244 hx 217 rfl (5 : Int32) (hb hby at_216) (by decide) ?_
                by_cases hc217_248 : (5 : Int32) < ff
                · refine own_icmpN X244 hx 220 (hb hby at_217) (tlt hc217_248).2.2.2 rfl ?_
                  refine own_aload X244 hx 222 rfl (hb hby at_220) rfl rfl ?_
                  refine own_iload X244 hx 224 rfl (hb hby at_222) rfl ?_
                  refine own_iload X244 hx 226 rfl (hb hby at_224) rfl ?_
                  refine own_lloadN X244 hx 227 rfl (hb hby at_226) rfl ?_
                  refine own_lloadN X244 hx 228 rfl (hb hby at_227) rfl ?_
                  obtain ⟨_, _, ⟨T249, L249, k249, n249⟩, -, X249, ⟨Lc249, hQ249, l249, y249, z249⟩, st249⟩ := Jvm.LawKit.callS X244 hx (y := (⟨"com/example/pooler/pooler/pool/BackoffDelayPinLaw", "at", "(IIJJ)J"⟩ : MethodName)) hown (mvT hZ (hw _ (List.mem_of_getElem? (i := 16) rfl))) (mvT hZ (hw _ (List.mem_of_getElem? (i := 17) rfl))) (mvT hZ (hw _ (List.mem_of_getElem? (i := 18) rfl))) (mvT hZ (hw _ (List.mem_of_getElem? (i := 19) rfl))) (by decide) (backOf (W := 1) (rm4 l Z a0 hw [] (7 : Int32) lst x1 x2 T244.heap n0 Z244 ) hZ (hw _ (List.mem_of_getElem? (i := 19) rfl)) (hw _ (List.mem_of_getElem? (i := 18) rfl)) (by decide) (by decide)) (g := (mkF m 228 #[.val (.int x0), .val (.long x1), .second, .val (.long x2), .second, .val (.long x3), .second, .val (.int ff), .val (.int (1 : Int32)), .val (.int (1 : Int32)), .val (.int tot), .val (.int lst), .val (.ref b201), .val (.int (7 : Int32)), .unset, .unset, .unset, .unset, .unset, .unset, .unset, .unset, .unset, .unset, .unset] [(.long x2), (.long x1), (.int lst), (.int (7 : Int32)), (.ref b201)])) rfl (by rw [hml]; rfl) (argsL := [(.int (7 : Int32)), (.int lst), (.long x1), (.long x2)]) (rest := [(.ref b201)]) (lenOf own_pd4 rfl) rfl (by show 2 * 0 + _ ≤ _; exact Nat.le_of_eq rfl) (hb hby at_228) (fun _ _ => ⟨rfl, rfl, (by decide : 1 + 0 ≤ _), (by decide : 3 + 0 ≤ _)⟩)
                  dsimp only [Pt.U, Pt.locs, Pt.cells, Pt.slots] at X249 l249 y249 z249 st249 hQ249
                  subst l249 y249 z249
                  obtain ⟨ar_249, rfl, N249q, eh249, pr249_0⟩ := hQ249
                  have N249 := Fr.app N244 N249q
                  refine Goes.go st249 ?_
                  show Goes p e below s _ _ _ T249 (mkF m 231 #[.val (.int x0), .val (.long x1), .second, .val (.long x2), .second, .val (.long x3), .second, .val (.int ff), .val (.int (1 : Int32)), .val (.int (1 : Int32)), .val (.int tot), .val (.int lst), .val (.ref b201), .val (.int (7 : Int32)), .unset, .unset, .unset, .unset, .unset, .unset, .unset, .unset, .unset, .unset, .unset] [(.long ar_249), (.ref b201)])
                  obtain ⟨cq250, kq250, q250a, q250b, q250c⟩ := isOf hZ eh249 f247
                  obtain ⟨_, _, ⟨T250, L250, k250, n250⟩, -, X250, ⟨Lc250, hQ250, l250, y250, z250⟩, st250⟩ := X249.virtualBack hx (y := (⟨"com/example/pooler/pooler/pool/Backoff", "failed", "(J)V"⟩ : MethodName)) (z := (⟨"com/example/pooler/pooler/pool/Backoff", "failed", "(J)V"⟩ : MethodName)) hown (mvT hZ (hw _ (List.mem_of_getElem? (i := 20) rfl))) (mvT hZ (hw _ (List.mem_of_getElem? (i := 21) rfl))) (notFace_of_selects (args := #[]) (mvT hZ (hw _ (List.mem_of_getElem? (i := 23) rfl)))) (mvT hZ (hw _ (List.mem_of_getElem? (i := 23) rfl))) (mvT hZ (hw _ (List.mem_of_getElem? (i := 22) rfl))) (by decide) (backOf (W := 0) (rmfa5 l Z a0 hw [] b201 ar_249 (1 : Int32) ar_243 T244.heap n0 Z244 f247 G201 f244_0 f244_1 f244_2) hZ (hw _ (List.mem_of_getElem? (i := 24) rfl)) (hw _ (List.mem_of_getElem? (i := 2) rfl)) (by decide) (by decide)) q250a q250c (g := (mkF m 231 #[.val (.int x0), .val (.long x1), .second, .val (.long x2), .second, .val (.long x3), .second, .val (.int ff), .val (.int (1 : Int32)), .val (.int (1 : Int32)), .val (.int tot), .val (.int lst), .val (.ref b201), .val (.int (7 : Int32)), .unset, .unset, .unset, .unset, .unset, .unset, .unset, .unset, .unset, .unset, .unset] [(.long ar_249), (.ref b201)])) rfl (by rw [hml]; rfl) (Steps.refl _) (argsL := [(.long ar_249)]) (rest := []) (lenOf own_pd0 rfl) rfl (by show 2 * 0 + _ ≤ _; exact Nat.le_of_eq rfl) (hb hby at_231) (fun _ _ => ⟨rfl, eh249, (by decide : 1 + 0 ≤ _), (by decide : 3 + 0 ≤ _)⟩)
                  dsimp only [Pt.U, Pt.locs, Pt.cells, Pt.slots] at X250 l250 y250 z250 st250 hQ250
                  subst l250 y250 z250
                  obtain ⟨rfl, N250q, K250q, f250_0, f250_1, f250_2⟩ := hQ250
                  have N250 := Fr.app N249 N250q
                  have f251 := own_sta_keep f245 K250q (allS (own_eplain f247) all0)
                  have f252 := own_sta_keep f246 K250q (allS (own_eplain f247) all0)
                  have f253 := f247.keep K250q
                  have K250 := K244.trans K250q (allS (Or.inr H201) all0)
                  have Z250 := Nat.le_trans Z244 K250q.1
                  refine Goes.tr st250 ?_
                  show Goes p e below s _ _ _ T250 (mkF m 234 #[.val (.int x0), .val (.long x1), .second, .val (.long x2), .second, .val (.long x3), .second, .val (.int ff), .val (.int (1 : Int32)), .val (.int (1 : Int32)), .val (.int tot), .val (.int lst), .val (.ref b201), .val (.int (7 : Int32)), .unset, .unset, .unset, .unset, .unset, .unset, .unset, .unset, .unset, .unset, .unset] [])
                  refine own_iinc X250 hx 237 rfl #[.val (.int x0), .val (.long x1), .second, .val (.long x2), .second, .val (.long x3), .second, .val (.int ff), .val (.int (1 : Int32)), .val (.int (1 : Int32)), .val (.int tot), .val (.int lst), .val (.ref b201), .val (.int (8 : Int32)), .unset, .unset, .unset, .unset, .unset, .unset, .unset, .unset, .unset, .unset, .unset] (hb hby at_234) rfl (by decide) rfl ?_
                  have hfl := own_gt (k := 5) (by decide) hc217_248
                  have hfh := hff.2
                  obtain rfl : ff = (6 : Int32) := own_pin (k := 6) (by decide) (by omega)
                  obtain rfl : tot = (8 : Int32) := by rw [h_tot]; decide
                  obtain rfl : lst = (7 : Int32) := by rw [h_lst]; decide
                  have hdd := own_sh x3 _ rfl
                  have har : ar_249 = x2 := own_atE pr249_0 (by decide)
                  refine own_lload X250 hx 239 rfl (hb hby at_237) rfl ?_
                  refine own_iconst X250 hx 240 rfl (1 : Int32) (hb hby at_239) (by decide) ?_
                  refine own_lshr X250 hx 241 rfl (hb hby at_240) rfl ?_
                  refine own_lstore X250 hx 243 rfl #[.val (.int x0), .val (.long x1), .second, .val (.long x2), .second, .val (.long x3), .second, .val (.int (6 : Int32)), .val (.int (1 : Int32)), .val (.int (1 : Int32)), .val (.int (8 : Int32)), .val (.int (7 : Int32)), .val (.ref b201), .val (.int (8 : Int32)), .val (.long (x3 >>> ((1 : Int32) &&& 0x3f).toInt64)), .second, .unset, .unset, .unset, .unset, .unset, .unset, .unset, .unset, .unset] (hb hby at_241) rfl ?_
                  refine own_lloadN X250 hx 244 rfl (hb hby at_243) rfl ?_
                  refine own_lload X250 hx 246 rfl (hb hby at_244) rfl ?_
                  refine own_ladd X250 hx 247 rfl (hb hby at_246) rfl ?_
                  refine own_lstore X250 hx 249 rfl #[.val (.int x0), .val (.long x1), .second, .val (.long x2), .second, .val (.long x3), .second, .val (.int (6 : Int32)), .val (.int (1 : Int32)), .val (.int (1 : Int32)), .val (.int (8 : Int32)), .val (.int (7 : Int32)), .val (.ref b201), .val (.int (8 : Int32)), .val (.long (x3 >>> ((1 : Int32) &&& 0x3f).toInt64)), .second, .val (.long (x2 + (x3 >>> ((1 : Int32) &&& 0x3f).toInt64))), .second, .unset, .unset, .unset, .unset, .unset, .unset, .unset] (hb hby at_247) rfl ?_
                  refine own_aload X250 hx 251 rfl (hb hby at_249) rfl rfl ?_
                  refine own_lload X250 hx 253 rfl (hb hby at_251) rfl ?_
                  obtain ⟨cq254, kq254, q254a, q254b, q254c⟩ := isOf hZ rfl f253
                  obtain ⟨_, _, ⟨T254, L254, k254, n254⟩, -, X254, ⟨Lc254, hQ254, l254, y254, z254⟩, st254⟩ := X250.virtualBack hx (y := (⟨"com/example/pooler/pooler/pool/Backoff", "delay", "(J)J"⟩ : MethodName)) (z := (⟨"com/example/pooler/pooler/pool/Backoff", "delay", "(J)J"⟩ : MethodName)) hown (mvT hZ (hw _ (List.mem_of_getElem? (i := 9) rfl))) (mvT hZ (hw _ (List.mem_of_getElem? (i := 10) rfl))) (notFace_of_selects (args := #[]) (mvT hZ (hw _ (List.mem_of_getElem? (i := 12) rfl)))) (mvT hZ (hw _ (List.mem_of_getElem? (i := 12) rfl))) (mvT hZ (hw _ (List.mem_of_getElem? (i := 11) rfl))) (by decide) (backOf (W := 0) (rmde6 l Z a0 hw [] b201 (x2 + (x3 >>> ((1 : Int32) &&& 0x3f).toInt64)) ar_249 T250.heap n0 Z250 f253 f251 f252 f250_0 f250_1 f250_2) hZ (hw _ (List.mem_of_getElem? (i := 13) rfl)) (hw _ (List.mem_of_getElem? (i := 2) rfl)) (by decide) (by decide)) q254a q254c (g := (mkF m 253 #[.val (.int x0), .val (.long x1), .second, .val (.long x2), .second, .val (.long x3), .second, .val (.int (6 : Int32)), .val (.int (1 : Int32)), .val (.int (1 : Int32)), .val (.int (8 : Int32)), .val (.int (7 : Int32)), .val (.ref b201), .val (.int (8 : Int32)), .val (.long (x3 >>> ((1 : Int32) &&& 0x3f).toInt64)), .second, .val (.long (x2 + (x3 >>> ((1 : Int32) &&& 0x3f).toInt64))), .second, .unset, .unset, .unset, .unset, .unset, .unset, .unset] [(.long (x2 + (x3 >>> ((1 : Int32) &&& 0x3f).toInt64))), (.ref b201)])) rfl (by rw [hml]; rfl) (Steps.refl _) (argsL := [(.long (x2 + (x3 >>> ((1 : Int32) &&& 0x3f).toInt64)))]) (rest := []) (lenOf own_pd5 rfl) rfl (by show 2 * 0 + _ ≤ _; exact Nat.le_of_eq rfl) (hb hby at_253) (fun _ _ => ⟨rfl, rfl, (by decide : 1 + 0 ≤ _), (by decide : 3 + 0 ≤ _)⟩)
                  dsimp only [Pt.U, Pt.locs, Pt.cells, Pt.slots] at X254 l254 y254 z254 st254 hQ254
                  subst l254 y254 z254
                  obtain ⟨br_254, rfl, N254q, eh254, pr254_0⟩ := hQ254
                  have N254 := Fr.app N250 N254q
                  refine Goes.tr st254 ?_
                  show Goes p e below s _ _ _ T254 (mkF m 256 #[.val (.int x0), .val (.long x1), .second, .val (.long x2), .second, .val (.long x3), .second, .val (.int (6 : Int32)), .val (.int (1 : Int32)), .val (.int (1 : Int32)), .val (.int (8 : Int32)), .val (.int (7 : Int32)), .val (.ref b201), .val (.int (8 : Int32)), .val (.long (x3 >>> ((1 : Int32) &&& 0x3f).toInt64)), .second, .val (.long (x2 + (x3 >>> ((1 : Int32) &&& 0x3f).toInt64))), .second, .unset, .unset, .unset, .unset, .unset, .unset, .unset] [(.long br_254)])
                  refine own_lstore X254 hx 258 rfl #[.val (.int x0), .val (.long x1), .second, .val (.long x2), .second, .val (.long x3), .second, .val (.int (6 : Int32)), .val (.int (1 : Int32)), .val (.int (1 : Int32)), .val (.int (8 : Int32)), .val (.int (7 : Int32)), .val (.ref b201), .val (.int (8 : Int32)), .val (.long (x3 >>> ((1 : Int32) &&& 0x3f).toInt64)), .second, .val (.long (x2 + (x3 >>> ((1 : Int32) &&& 0x3f).toInt64))), .second, .val (.long br_254), .second, .unset, .unset, .unset, .unset, .unset] (hb hby at_256) rfl ?_
                  refine own_iload X254 hx 260 rfl (hb hby at_258) rfl ?_
                  refine own_ifY X254 hx 269 (hb hby at_260) ((if0 _ _).trans (feq ((by decide) : ¬ ((8 : Int32) = (0 : Int32)))).2) (by decide) (by decide) ?_
                  refine own_iload X254 hx 271 rfl (hb hby at_269) rfl ?_
                  refine own_iconst X254 hx 272 rfl (1 : Int32) (hb hby at_271) (by decide) ?_
                  refine own_icmpN X254 hx 275 (hb hby at_272) (teq ((by decide) : (1 : Int32) = (1 : Int32))).2 rfl ?_
                  refine own_iload X254 hx 277 rfl (hb hby at_275) rfl ?_
                  refine own_goto X254 hx 285 (hb hby at_277) (by decide) (by decide) ?_
                  refine own_istore X254 hx 287 rfl #[.val (.int x0), .val (.long x1), .second, .val (.long x2), .second, .val (.long x3), .second, .val (.int (6 : Int32)), .val (.int (1 : Int32)), .val (.int (1 : Int32)), .val (.int (8 : Int32)), .val (.int (7 : Int32)), .val (.ref b201), .val (.int (8 : Int32)), .val (.long (x3 >>> ((1 : Int32) &&& 0x3f).toInt64)), .second, .val (.long (x2 + (x3 >>> ((1 : Int32) &&& 0x3f).toInt64))), .second, .val (.long br_254), .second, .unset, .unset, .val (.int (6 : Int32)), .unset, .unset] (hb hby at_285) rfl ?_
                  refine own_iload X254 hx 289 rfl (hb hby at_287) rfl ?_
                  obtain ⟨_, _, ⟨T255, L255, k255, n255⟩, -, X255, ⟨Lc255, hQ255, l255, y255, z255⟩, st255⟩ := Jvm.LawKit.callS X254 hx (y := (⟨"com/example/pooler/pooler/pool/BackoffDelayPinLaw", "pauseMs", "(I)J"⟩ : MethodName)) hown (mvT hZ (hw _ (List.mem_of_getElem? (i := 48) rfl))) (mvT hZ (hw _ (List.mem_of_getElem? (i := 49) rfl))) (mvT hZ (hw _ (List.mem_of_getElem? (i := 18) rfl))) (mvT hZ (hw _ (List.mem_of_getElem? (i := 50) rfl))) (by decide) (backOf (W := 0) (rmpm6 l Z a0 hw []  T250.heap n0 Z250 ) hZ (hw _ (List.mem_of_getElem? (i := 50) rfl)) (hw _ (List.mem_of_getElem? (i := 18) rfl)) (by decide) (by decide)) (g := (mkF m 289 #[.val (.int x0), .val (.long x1), .second, .val (.long x2), .second, .val (.long x3), .second, .val (.int (6 : Int32)), .val (.int (1 : Int32)), .val (.int (1 : Int32)), .val (.int (8 : Int32)), .val (.int (7 : Int32)), .val (.ref b201), .val (.int (8 : Int32)), .val (.long (x3 >>> ((1 : Int32) &&& 0x3f).toInt64)), .second, .val (.long (x2 + (x3 >>> ((1 : Int32) &&& 0x3f).toInt64))), .second, .val (.long br_254), .second, .unset, .unset, .val (.int (6 : Int32)), .unset, .unset] [(.int (6 : Int32))])) rfl (by rw [hml]; rfl) (argsL := [(.int (6 : Int32))]) (rest := []) (lenOf own_pd6 rfl) rfl (by show 2 * 0 + _ ≤ _; exact Nat.le_of_eq rfl) (hb hby at_289) (fun _ _ => ⟨rfl, eh254, (by decide : 1 + 0 ≤ _), (by decide : 3 + 0 ≤ _)⟩)
                  dsimp only [Pt.U, Pt.locs, Pt.cells, Pt.slots] at X255 l255 y255 z255 st255 hQ255
                  subst l255 y255 z255
                  obtain ⟨rfl, N255q, eh255⟩ := hQ255
                  have N255 := Fr.app N254 N255q
                  refine Goes.go st255 ?_
                  show Goes p e below s _ _ _ T255 (mkF m 292 #[.val (.int x0), .val (.long x1), .second, .val (.long x2), .second, .val (.long x3), .second, .val (.int (6 : Int32)), .val (.int (1 : Int32)), .val (.int (1 : Int32)), .val (.int (8 : Int32)), .val (.int (7 : Int32)), .val (.ref b201), .val (.int (8 : Int32)), .val (.long (x3 >>> ((1 : Int32) &&& 0x3f).toInt64)), .second, .val (.long (x2 + (x3 >>> ((1 : Int32) &&& 0x3f).toInt64))), .second, .val (.long br_254), .second, .unset, .unset, .val (.int (6 : Int32)), .unset, .unset] [(.long (1000 : Int64))])
                  refine Goes.go (X255.ldc2Long hx hown (mvT hZ (hw _ (List.mem_of_getElem? (i := 52) rfl))) (g := (mkF m 292 #[.val (.int x0), .val (.long x1), .second, .val (.long x2), .second, .val (.long x3), .second, .val (.int (6 : Int32)), .val (.int (1 : Int32)), .val (.int (1 : Int32)), .val (.int (8 : Int32)), .val (.int (7 : Int32)), .val (.ref b201), .val (.int (8 : Int32)), .val (.long (x3 >>> ((1 : Int32) &&& 0x3f).toInt64)), .second, .val (.long (x2 + (x3 >>> ((1 : Int32) &&& 0x3f).toInt64))), .second, .val (.long br_254), .second, .unset, .unset, .val (.int (6 : Int32)), .unset, .unset] [(.long (1000 : Int64))])) rfl (hb hby at_292)) ?_
                  show Goes p e below s _ _ _ T255 (mkF m 295 #[.val (.int x0), .val (.long x1), .second, .val (.long x2), .second, .val (.long x3), .second, .val (.int (6 : Int32)), .val (.int (1 : Int32)), .val (.int (1 : Int32)), .val (.int (8 : Int32)), .val (.int (7 : Int32)), .val (.ref b201), .val (.int (8 : Int32)), .val (.long (x3 >>> ((1 : Int32) &&& 0x3f).toInt64)), .second, .val (.long (x2 + (x3 >>> ((1 : Int32) &&& 0x3f).toInt64))), .second, .val (.long br_254), .second, .unset, .unset, .val (.int (6 : Int32)), .unset, .unset] [(.long (1000000 : Int64)), (.long (1000 : Int64))])
                  refine own_lmul X255 hx 296 rfl (z := (1000000000 : Int64)) (hb hby at_295) (by decide) ?_
                  refine own_lstore X255 hx 298 rfl #[.val (.int x0), .val (.long x1), .second, .val (.long x2), .second, .val (.long x3), .second, .val (.int (6 : Int32)), .val (.int (1 : Int32)), .val (.int (1 : Int32)), .val (.int (8 : Int32)), .val (.int (7 : Int32)), .val (.ref b201), .val (.int (8 : Int32)), .val (.long (x3 >>> ((1 : Int32) &&& 0x3f).toInt64)), .second, .val (.long (x2 + (x3 >>> ((1 : Int32) &&& 0x3f).toInt64))), .second, .val (.long br_254), .second, .unset, .unset, .val (.int (6 : Int32)), .val (.long (1000000000 : Int64)), .second] (hb hby at_296) rfl ?_
                  refine own_lload X255 hx 300 rfl (hb hby at_298) rfl ?_
                  refine own_lload X255 hx 302 rfl (hb hby at_300) rfl ?_
                  refine own_lcmp X255 hx 303 rfl (hb hby at_302) ?_
                  by_cases hc303_256 : (x3 >>> ((1 : Int32) &&& 0x3f).toInt64) < (1000000000 : Int64)
                  · refine own_ifY X255 hx 310 (hb hby at_303) (Ltlt hc303_256).1 (by decide) (by decide) ?_
                    refine own_lload X255 hx 312 rfl (hb hby at_310) rfl ?_
                    refine own_lload X255 hx 314 rfl (hb hby at_312) rfl ?_
                    refine own_lsub X255 hx 315 rfl (hb hby at_314) rfl ?_
                    refine own_lstore X255 hx 317 rfl #[.val (.int x0), .val (.long x1), .second, .val (.long x2), .second, .val (.long x3), .second, .val (.int (6 : Int32)), .val (.int (1 : Int32)), .val (.int (1 : Int32)), .val (.int (8 : Int32)), .val (.int (7 : Int32)), .val (.ref b201), .val (.int (8 : Int32)), .val (.long (x3 >>> ((1 : Int32) &&& 0x3f).toInt64)), .second, .val (.long (x2 + (x3 >>> ((1 : Int32) &&& 0x3f).toInt64))), .second, .val (.long br_254), .second, .val (.long ((1000000000 : Int64) - (x3 >>> ((1 : Int32) &&& 0x3f).toInt64))), .second, .val (.int (6 : Int32)), .val (.long (1000000000 : Int64)), .second] (hb hby at_315) rfl ?_
                    refine own_lload X255 hx 319 rfl (hb hby at_317) rfl ?_
                    refine own_lload X255 hx 321 rfl (hb hby at_319) rfl ?_
                    refine own_lcmp X255 hx 322 rfl (hb hby at_321) ?_
                    refine own_ifN X255 hx 325 (hb hby at_322) (Lteq ((own_fin har hdd (P := (1000000000 : Int64)) (by decide) pr254_0).1 hc303_256 : br_254 = ((1000000000 : Int64) - (x3 >>> ((1 : Int32) &&& 0x3f).toInt64)))).2 rfl ?_
                    refine own_iconst X255 hx 326 rfl (1 : Int32) (hb hby at_325) (by decide) ?_
                    refine own_goto X255 hx 330 (hb hby at_326) (by decide) (by decide) ?_
                    refine own_retZ X255 hx hlk Bd.returns (by decide) (hb hby at_330) (by decide) (by decide) eh255 ?_
                    exact ⟨rfl, N255⟩
                  · refine own_ifN X255 hx 306 (hb hby at_303) (Lflt hc303_256).1 rfl ?_
                    refine own_lconst X255 hx 307 rfl (0 : Int64) (hb hby at_306) (by decide) ?_
                    refine own_goto X255 hx 315 (hb hby at_307) (by decide) (by decide) ?_
                    refine own_lstore X255 hx 317 rfl #[.val (.int x0), .val (.long x1), .second, .val (.long x2), .second, .val (.long x3), .second, .val (.int (6 : Int32)), .val (.int (1 : Int32)), .val (.int (1 : Int32)), .val (.int (8 : Int32)), .val (.int (7 : Int32)), .val (.ref b201), .val (.int (8 : Int32)), .val (.long (x3 >>> ((1 : Int32) &&& 0x3f).toInt64)), .second, .val (.long (x2 + (x3 >>> ((1 : Int32) &&& 0x3f).toInt64))), .second, .val (.long br_254), .second, .val (.long (0 : Int64)), .second, .val (.int (6 : Int32)), .val (.long (1000000000 : Int64)), .second] (hb hby at_315) rfl ?_
                    refine own_lload X255 hx 319 rfl (hb hby at_317) rfl ?_
                    refine own_lload X255 hx 321 rfl (hb hby at_319) rfl ?_
                    refine own_lcmp X255 hx 322 rfl (hb hby at_321) ?_
                    refine own_ifN X255 hx 325 (hb hby at_322) (Lteq ((own_fin har hdd (P := (1000000000 : Int64)) (by decide) pr254_0).2 hc303_256 : br_254 = (0 : Int64))).2 rfl ?_
                    refine own_iconst X255 hx 326 rfl (1 : Int32) (hb hby at_325) (by decide) ?_
                    refine own_goto X255 hx 330 (hb hby at_326) (by decide) (by decide) ?_
                    refine own_retZ X255 hx hlk Bd.returns (by decide) (hb hby at_330) (by decide) (by decide) eh255 ?_
                    exact ⟨rfl, N255⟩
                · refine own_icmpY X244 hx 237 (hb hby at_217) (flt hc217_248).2.2.2 (by decide) (by decide) ?_
                  have hfl := own_gt (k := 4) (by decide) hc194_242
                  have hfh := own_le (k := 5) (by decide) hc217_248
                  obtain rfl : ff = (5 : Int32) := own_pin (k := 5) (by decide) (by omega)
                  obtain rfl : tot = (7 : Int32) := by rw [h_tot]; decide
                  obtain rfl : lst = (6 : Int32) := by rw [h_lst]; decide
                  have hdd := own_sh x3 _ rfl
                  have har : ar_243 = x2 := own_atE pr243_0 (by decide)
                  refine own_lload X244 hx 239 rfl (hb hby at_237) rfl ?_
                  refine own_iconst X244 hx 240 rfl (1 : Int32) (hb hby at_239) (by decide) ?_
                  refine own_lshr X244 hx 241 rfl (hb hby at_240) rfl ?_
                  refine own_lstore X244 hx 243 rfl #[.val (.int x0), .val (.long x1), .second, .val (.long x2), .second, .val (.long x3), .second, .val (.int (5 : Int32)), .val (.int (1 : Int32)), .val (.int (1 : Int32)), .val (.int (7 : Int32)), .val (.int (6 : Int32)), .val (.ref b201), .val (.int (7 : Int32)), .val (.long (x3 >>> ((1 : Int32) &&& 0x3f).toInt64)), .second, .unset, .unset, .unset, .unset, .unset, .unset, .unset, .unset, .unset] (hb hby at_241) rfl ?_
                  refine own_lloadN X244 hx 244 rfl (hb hby at_243) rfl ?_
                  refine own_lload X244 hx 246 rfl (hb hby at_244) rfl ?_
                  refine own_ladd X244 hx 247 rfl (hb hby at_246) rfl ?_
                  refine own_lstore X244 hx 249 rfl #[.val (.int x0), .val (.long x1), .second, .val (.long x2), .second, .val (.long x3), .second, .val (.int (5 : Int32)), .val (.int (1 : Int32)), .val (.int (1 : Int32)), .val (.int (7 : Int32)), .val (.int (6 : Int32)), .val (.ref b201), .val (.int (7 : Int32)), .val (.long (x3 >>> ((1 : Int32) &&& 0x3f).toInt64)), .second, .val (.long (x2 + (x3 >>> ((1 : Int32) &&& 0x3f).toInt64))), .second, .unset, .unset, .unset, .unset, .unset, .unset, .unset] (hb hby at_247) rfl ?_
                  refine own_aload X244 hx 251 rfl (hb hby at_249) rfl rfl ?_
                  refine own_lload X244 hx 253 rfl (hb hby at_251) rfl ?_
                  obtain ⟨cq257, kq257, q257a, q257b, q257c⟩ := isOf hZ rfl f247
                  obtain ⟨_, _, ⟨T257, L257, k257, n257⟩, -, X257, ⟨Lc257, hQ257, l257, y257, z257⟩, st257⟩ := X244.virtualBack hx (y := (⟨"com/example/pooler/pooler/pool/Backoff", "delay", "(J)J"⟩ : MethodName)) (z := (⟨"com/example/pooler/pooler/pool/Backoff", "delay", "(J)J"⟩ : MethodName)) hown (mvT hZ (hw _ (List.mem_of_getElem? (i := 9) rfl))) (mvT hZ (hw _ (List.mem_of_getElem? (i := 10) rfl))) (notFace_of_selects (args := #[]) (mvT hZ (hw _ (List.mem_of_getElem? (i := 12) rfl)))) (mvT hZ (hw _ (List.mem_of_getElem? (i := 12) rfl))) (mvT hZ (hw _ (List.mem_of_getElem? (i := 11) rfl))) (by decide) (backOf (W := 0) (rmde5 l Z a0 hw [] b201 (x2 + (x3 >>> ((1 : Int32) &&& 0x3f).toInt64)) ar_243 T244.heap n0 Z244 f247 f245 f246 f244_0 f244_1 f244_2) hZ (hw _ (List.mem_of_getElem? (i := 13) rfl)) (hw _ (List.mem_of_getElem? (i := 2) rfl)) (by decide) (by decide)) q257a q257c (g := (mkF m 253 #[.val (.int x0), .val (.long x1), .second, .val (.long x2), .second, .val (.long x3), .second, .val (.int (5 : Int32)), .val (.int (1 : Int32)), .val (.int (1 : Int32)), .val (.int (7 : Int32)), .val (.int (6 : Int32)), .val (.ref b201), .val (.int (7 : Int32)), .val (.long (x3 >>> ((1 : Int32) &&& 0x3f).toInt64)), .second, .val (.long (x2 + (x3 >>> ((1 : Int32) &&& 0x3f).toInt64))), .second, .unset, .unset, .unset, .unset, .unset, .unset, .unset] [(.long (x2 + (x3 >>> ((1 : Int32) &&& 0x3f).toInt64))), (.ref b201)])) rfl (by rw [hml]; rfl) (Steps.refl _) (argsL := [(.long (x2 + (x3 >>> ((1 : Int32) &&& 0x3f).toInt64)))]) (rest := []) (lenOf own_pd5 rfl) rfl (by show 2 * 0 + _ ≤ _; exact Nat.le_of_eq rfl) (hb hby at_253) (fun _ _ => ⟨rfl, rfl, (by decide : 1 + 0 ≤ _), (by decide : 3 + 0 ≤ _)⟩)
                  dsimp only [Pt.U, Pt.locs, Pt.cells, Pt.slots] at X257 l257 y257 z257 st257 hQ257
                  subst l257 y257 z257
                  obtain ⟨br_257, rfl, N257q, eh257, pr257_0⟩ := hQ257
                  have N257 := Fr.app N244 N257q
                  refine Goes.tr st257 ?_
                  show Goes p e below s _ _ _ T257 (mkF m 256 #[.val (.int x0), .val (.long x1), .second, .val (.long x2), .second, .val (.long x3), .second, .val (.int (5 : Int32)), .val (.int (1 : Int32)), .val (.int (1 : Int32)), .val (.int (7 : Int32)), .val (.int (6 : Int32)), .val (.ref b201), .val (.int (7 : Int32)), .val (.long (x3 >>> ((1 : Int32) &&& 0x3f).toInt64)), .second, .val (.long (x2 + (x3 >>> ((1 : Int32) &&& 0x3f).toInt64))), .second, .unset, .unset, .unset, .unset, .unset, .unset, .unset] [(.long br_257)])
                  refine own_lstore X257 hx 258 rfl #[.val (.int x0), .val (.long x1), .second, .val (.long x2), .second, .val (.long x3), .second, .val (.int (5 : Int32)), .val (.int (1 : Int32)), .val (.int (1 : Int32)), .val (.int (7 : Int32)), .val (.int (6 : Int32)), .val (.ref b201), .val (.int (7 : Int32)), .val (.long (x3 >>> ((1 : Int32) &&& 0x3f).toInt64)), .second, .val (.long (x2 + (x3 >>> ((1 : Int32) &&& 0x3f).toInt64))), .second, .val (.long br_257), .second, .unset, .unset, .unset, .unset, .unset] (hb hby at_256) rfl ?_
                  refine own_iload X257 hx 260 rfl (hb hby at_258) rfl ?_
                  refine own_ifY X257 hx 269 (hb hby at_260) ((if0 _ _).trans (feq ((by decide) : ¬ ((7 : Int32) = (0 : Int32)))).2) (by decide) (by decide) ?_
                  refine own_iload X257 hx 271 rfl (hb hby at_269) rfl ?_
                  refine own_iconst X257 hx 272 rfl (1 : Int32) (hb hby at_271) (by decide) ?_
                  refine own_icmpN X257 hx 275 (hb hby at_272) (teq ((by decide) : (1 : Int32) = (1 : Int32))).2 rfl ?_
                  refine own_iload X257 hx 277 rfl (hb hby at_275) rfl ?_
                  refine own_goto X257 hx 285 (hb hby at_277) (by decide) (by decide) ?_
                  refine own_istore X257 hx 287 rfl #[.val (.int x0), .val (.long x1), .second, .val (.long x2), .second, .val (.long x3), .second, .val (.int (5 : Int32)), .val (.int (1 : Int32)), .val (.int (1 : Int32)), .val (.int (7 : Int32)), .val (.int (6 : Int32)), .val (.ref b201), .val (.int (7 : Int32)), .val (.long (x3 >>> ((1 : Int32) &&& 0x3f).toInt64)), .second, .val (.long (x2 + (x3 >>> ((1 : Int32) &&& 0x3f).toInt64))), .second, .val (.long br_257), .second, .unset, .unset, .val (.int (5 : Int32)), .unset, .unset] (hb hby at_285) rfl ?_
                  refine own_iload X257 hx 289 rfl (hb hby at_287) rfl ?_
                  obtain ⟨_, _, ⟨T258, L258, k258, n258⟩, -, X258, ⟨Lc258, hQ258, l258, y258, z258⟩, st258⟩ := Jvm.LawKit.callS X257 hx (y := (⟨"com/example/pooler/pooler/pool/BackoffDelayPinLaw", "pauseMs", "(I)J"⟩ : MethodName)) hown (mvT hZ (hw _ (List.mem_of_getElem? (i := 48) rfl))) (mvT hZ (hw _ (List.mem_of_getElem? (i := 49) rfl))) (mvT hZ (hw _ (List.mem_of_getElem? (i := 18) rfl))) (mvT hZ (hw _ (List.mem_of_getElem? (i := 50) rfl))) (by decide) (backOf (W := 0) (rmpm5 l Z a0 hw []  T244.heap n0 Z244 ) hZ (hw _ (List.mem_of_getElem? (i := 50) rfl)) (hw _ (List.mem_of_getElem? (i := 18) rfl)) (by decide) (by decide)) (g := (mkF m 289 #[.val (.int x0), .val (.long x1), .second, .val (.long x2), .second, .val (.long x3), .second, .val (.int (5 : Int32)), .val (.int (1 : Int32)), .val (.int (1 : Int32)), .val (.int (7 : Int32)), .val (.int (6 : Int32)), .val (.ref b201), .val (.int (7 : Int32)), .val (.long (x3 >>> ((1 : Int32) &&& 0x3f).toInt64)), .second, .val (.long (x2 + (x3 >>> ((1 : Int32) &&& 0x3f).toInt64))), .second, .val (.long br_257), .second, .unset, .unset, .val (.int (5 : Int32)), .unset, .unset] [(.int (5 : Int32))])) rfl (by rw [hml]; rfl) (argsL := [(.int (5 : Int32))]) (rest := []) (lenOf own_pd6 rfl) rfl (by show 2 * 0 + _ ≤ _; exact Nat.le_of_eq rfl) (hb hby at_289) (fun _ _ => ⟨rfl, eh257, (by decide : 1 + 0 ≤ _), (by decide : 3 + 0 ≤ _)⟩)
                  dsimp only [Pt.U, Pt.locs, Pt.cells, Pt.slots] at X258 l258 y258 z258 st258 hQ258
                  subst l258 y258 z258
                  obtain ⟨rfl, N258q, eh258⟩ := hQ258
                  have N258 := Fr.app N257 N258q
                  refine Goes.go st258 ?_
                  show Goes p e below s _ _ _ T258 (mkF m 292 #[.val (.int x0), .val (.long x1), .second, .val (.long x2), .second, .val (.long x3), .second, .val (.int (5 : Int32)), .val (.int (1 : Int32)), .val (.int (1 : Int32)), .val (.int (7 : Int32)), .val (.int (6 : Int32)), .val (.ref b201), .val (.int (7 : Int32)), .val (.long (x3 >>> ((1 : Int32) &&& 0x3f).toInt64)), .second, .val (.long (x2 + (x3 >>> ((1 : Int32) &&& 0x3f).toInt64))), .second, .val (.long br_257), .second, .unset, .unset, .val (.int (5 : Int32)), .unset, .unset] [(.long (1000 : Int64))])
                  refine Goes.go (X258.ldc2Long hx hown (mvT hZ (hw _ (List.mem_of_getElem? (i := 52) rfl))) (g := (mkF m 292 #[.val (.int x0), .val (.long x1), .second, .val (.long x2), .second, .val (.long x3), .second, .val (.int (5 : Int32)), .val (.int (1 : Int32)), .val (.int (1 : Int32)), .val (.int (7 : Int32)), .val (.int (6 : Int32)), .val (.ref b201), .val (.int (7 : Int32)), .val (.long (x3 >>> ((1 : Int32) &&& 0x3f).toInt64)), .second, .val (.long (x2 + (x3 >>> ((1 : Int32) &&& 0x3f).toInt64))), .second, .val (.long br_257), .second, .unset, .unset, .val (.int (5 : Int32)), .unset, .unset] [(.long (1000 : Int64))])) rfl (hb hby at_292)) ?_
                  show Goes p e below s _ _ _ T258 (mkF m 295 #[.val (.int x0), .val (.long x1), .second, .val (.long x2), .second, .val (.long x3), .second, .val (.int (5 : Int32)), .val (.int (1 : Int32)), .val (.int (1 : Int32)), .val (.int (7 : Int32)), .val (.int (6 : Int32)), .val (.ref b201), .val (.int (7 : Int32)), .val (.long (x3 >>> ((1 : Int32) &&& 0x3f).toInt64)), .second, .val (.long (x2 + (x3 >>> ((1 : Int32) &&& 0x3f).toInt64))), .second, .val (.long br_257), .second, .unset, .unset, .val (.int (5 : Int32)), .unset, .unset] [(.long (1000000 : Int64)), (.long (1000 : Int64))])
                  refine own_lmul X258 hx 296 rfl (z := (1000000000 : Int64)) (hb hby at_295) (by decide) ?_
                  refine own_lstore X258 hx 298 rfl #[.val (.int x0), .val (.long x1), .second, .val (.long x2), .second, .val (.long x3), .second, .val (.int (5 : Int32)), .val (.int (1 : Int32)), .val (.int (1 : Int32)), .val (.int (7 : Int32)), .val (.int (6 : Int32)), .val (.ref b201), .val (.int (7 : Int32)), .val (.long (x3 >>> ((1 : Int32) &&& 0x3f).toInt64)), .second, .val (.long (x2 + (x3 >>> ((1 : Int32) &&& 0x3f).toInt64))), .second, .val (.long br_257), .second, .unset, .unset, .val (.int (5 : Int32)), .val (.long (1000000000 : Int64)), .second] (hb hby at_296) rfl ?_
                  refine own_lload X258 hx 300 rfl (hb hby at_298) rfl ?_
                  refine own_lload X258 hx 302 rfl (hb hby at_300) rfl ?_
                  refine own_lcmp X258 hx 303 rfl (hb hby at_302) ?_
                  by_cases hc303_259 : (x3 >>> ((1 : Int32) &&& 0x3f).toInt64) < (1000000000 : Int64)
                  · refine own_ifY X258 hx 310 (hb hby at_303) (Ltlt hc303_259).1 (by decide) (by decide) ?_
                    refine own_lload X258 hx 312 rfl (hb hby at_310) rfl ?_
                    refine own_lload X258 hx 314 rfl (hb hby at_312) rfl ?_
                    refine own_lsub X258 hx 315 rfl (hb hby at_314) rfl ?_
                    refine own_lstore X258 hx 317 rfl #[.val (.int x0), .val (.long x1), .second, .val (.long x2), .second, .val (.long x3), .second, .val (.int (5 : Int32)), .val (.int (1 : Int32)), .val (.int (1 : Int32)), .val (.int (7 : Int32)), .val (.int (6 : Int32)), .val (.ref b201), .val (.int (7 : Int32)), .val (.long (x3 >>> ((1 : Int32) &&& 0x3f).toInt64)), .second, .val (.long (x2 + (x3 >>> ((1 : Int32) &&& 0x3f).toInt64))), .second, .val (.long br_257), .second, .val (.long ((1000000000 : Int64) - (x3 >>> ((1 : Int32) &&& 0x3f).toInt64))), .second, .val (.int (5 : Int32)), .val (.long (1000000000 : Int64)), .second] (hb hby at_315) rfl ?_
                    refine own_lload X258 hx 319 rfl (hb hby at_317) rfl ?_
                    refine own_lload X258 hx 321 rfl (hb hby at_319) rfl ?_
                    refine own_lcmp X258 hx 322 rfl (hb hby at_321) ?_
                    refine own_ifN X258 hx 325 (hb hby at_322) (Lteq ((own_fin har hdd (P := (1000000000 : Int64)) (by decide) pr257_0).1 hc303_259 : br_257 = ((1000000000 : Int64) - (x3 >>> ((1 : Int32) &&& 0x3f).toInt64)))).2 rfl ?_
                    refine own_iconst X258 hx 326 rfl (1 : Int32) (hb hby at_325) (by decide) ?_
                    refine own_goto X258 hx 330 (hb hby at_326) (by decide) (by decide) ?_
                    refine own_retZ X258 hx hlk Bd.returns (by decide) (hb hby at_330) (by decide) (by decide) eh258 ?_
                    exact ⟨rfl, N258⟩
                  · refine own_ifN X258 hx 306 (hb hby at_303) (Lflt hc303_259).1 rfl ?_
                    refine own_lconst X258 hx 307 rfl (0 : Int64) (hb hby at_306) (by decide) ?_
                    refine own_goto X258 hx 315 (hb hby at_307) (by decide) (by decide) ?_
                    refine own_lstore X258 hx 317 rfl #[.val (.int x0), .val (.long x1), .second, .val (.long x2), .second, .val (.long x3), .second, .val (.int (5 : Int32)), .val (.int (1 : Int32)), .val (.int (1 : Int32)), .val (.int (7 : Int32)), .val (.int (6 : Int32)), .val (.ref b201), .val (.int (7 : Int32)), .val (.long (x3 >>> ((1 : Int32) &&& 0x3f).toInt64)), .second, .val (.long (x2 + (x3 >>> ((1 : Int32) &&& 0x3f).toInt64))), .second, .val (.long br_257), .second, .val (.long (0 : Int64)), .second, .val (.int (5 : Int32)), .val (.long (1000000000 : Int64)), .second] (hb hby at_315) rfl ?_
                    refine own_lload X258 hx 319 rfl (hb hby at_317) rfl ?_
                    refine own_lload X258 hx 321 rfl (hb hby at_319) rfl ?_
                    refine own_lcmp X258 hx 322 rfl (hb hby at_321) ?_
                    refine own_ifN X258 hx 325 (hb hby at_322) (Lteq ((own_fin har hdd (P := (1000000000 : Int64)) (by decide) pr257_0).2 hc303_259 : br_257 = (0 : Int64))).2 rfl ?_
                    refine own_iconst X258 hx 326 rfl (1 : Int32) (hb hby at_325) (by decide) ?_
                    refine own_goto X258 hx 330 (hb hby at_326) (by decide) (by decide) ?_
                    refine own_retZ X258 hx hlk Bd.returns (by decide) (hb hby at_330) (by decide) (by decide) eh258 ?_
                    exact ⟨rfl, N258⟩
              · refine own_icmpY X238 hx 214 (hb hby at_194) (flt hc194_242).2.2.2 (by decide) (by decide) ?_
                refine own_iload X238 hx 216 rfl (hb hby at_214) rfl ?_
                refine own_iconst X238 hx 217 rfl (5 : Int32) (hb hby at_216) (by decide) ?_
                refine own_icmpY X238 hx 237 (hb hby at_217) (flt (own_down hc194_242 (by decide) : ¬ ((5 : Int32) < ff))).2.2.2 (by decide) (by decide) ?_
                have hfl := own_gt (k := 3) (by decide) hc171_236
                have hfh := own_le (k := 4) (by decide) hc194_242
                obtain rfl : ff = (4 : Int32) := own_pin (k := 4) (by decide) (by omega)
                obtain rfl : tot = (6 : Int32) := by rw [h_tot]; decide
                obtain rfl : lst = (5 : Int32) := by rw [h_lst]; decide
                have hdd := own_sh x3 _ rfl
                have har : ar_237 = x2 := own_atE pr237_0 (by decide)
                refine own_lload X238 hx 239 rfl (hb hby at_237) rfl ?_
                refine own_iconst X238 hx 240 rfl (1 : Int32) (hb hby at_239) (by decide) ?_
                refine own_lshr X238 hx 241 rfl (hb hby at_240) rfl ?_
                refine own_lstore X238 hx 243 rfl #[.val (.int x0), .val (.long x1), .second, .val (.long x2), .second, .val (.long x3), .second, .val (.int (4 : Int32)), .val (.int (1 : Int32)), .val (.int (1 : Int32)), .val (.int (6 : Int32)), .val (.int (5 : Int32)), .val (.ref b201), .val (.int (6 : Int32)), .val (.long (x3 >>> ((1 : Int32) &&& 0x3f).toInt64)), .second, .unset, .unset, .unset, .unset, .unset, .unset, .unset, .unset, .unset] (hb hby at_241) rfl ?_
                refine own_lloadN X238 hx 244 rfl (hb hby at_243) rfl ?_
                refine own_lload X238 hx 246 rfl (hb hby at_244) rfl ?_
                refine own_ladd X238 hx 247 rfl (hb hby at_246) rfl ?_
                refine own_lstore X238 hx 249 rfl #[.val (.int x0), .val (.long x1), .second, .val (.long x2), .second, .val (.long x3), .second, .val (.int (4 : Int32)), .val (.int (1 : Int32)), .val (.int (1 : Int32)), .val (.int (6 : Int32)), .val (.int (5 : Int32)), .val (.ref b201), .val (.int (6 : Int32)), .val (.long (x3 >>> ((1 : Int32) &&& 0x3f).toInt64)), .second, .val (.long (x2 + (x3 >>> ((1 : Int32) &&& 0x3f).toInt64))), .second, .unset, .unset, .unset, .unset, .unset, .unset, .unset] (hb hby at_247) rfl ?_
                refine own_aload X238 hx 251 rfl (hb hby at_249) rfl rfl ?_
                refine own_lload X238 hx 253 rfl (hb hby at_251) rfl ?_
                obtain ⟨cq260, kq260, q260a, q260b, q260c⟩ := isOf hZ rfl f241
                obtain ⟨_, _, ⟨T260, L260, k260, n260⟩, -, X260, ⟨Lc260, hQ260, l260, y260, z260⟩, st260⟩ := X238.virtualBack hx (y := (⟨"com/example/pooler/pooler/pool/Backoff", "delay", "(J)J"⟩ : MethodName)) (z := (⟨"com/example/pooler/pooler/pool/Backoff", "delay", "(J)J"⟩ : MethodName)) hown (mvT hZ (hw _ (List.mem_of_getElem? (i := 9) rfl))) (mvT hZ (hw _ (List.mem_of_getElem? (i := 10) rfl))) (notFace_of_selects (args := #[]) (mvT hZ (hw _ (List.mem_of_getElem? (i := 12) rfl)))) (mvT hZ (hw _ (List.mem_of_getElem? (i := 12) rfl))) (mvT hZ (hw _ (List.mem_of_getElem? (i := 11) rfl))) (by decide) (backOf (W := 0) (rmde4 l Z a0 hw [] b201 (x2 + (x3 >>> ((1 : Int32) &&& 0x3f).toInt64)) ar_237 T238.heap n0 Z238 f241 f239 f240 f238_0 f238_1 f238_2) hZ (hw _ (List.mem_of_getElem? (i := 13) rfl)) (hw _ (List.mem_of_getElem? (i := 2) rfl)) (by decide) (by decide)) q260a q260c (g := (mkF m 253 #[.val (.int x0), .val (.long x1), .second, .val (.long x2), .second, .val (.long x3), .second, .val (.int (4 : Int32)), .val (.int (1 : Int32)), .val (.int (1 : Int32)), .val (.int (6 : Int32)), .val (.int (5 : Int32)), .val (.ref b201), .val (.int (6 : Int32)), .val (.long (x3 >>> ((1 : Int32) &&& 0x3f).toInt64)), .second, .val (.long (x2 + (x3 >>> ((1 : Int32) &&& 0x3f).toInt64))), .second, .unset, .unset, .unset, .unset, .unset, .unset, .unset] [(.long (x2 + (x3 >>> ((1 : Int32) &&& 0x3f).toInt64))), (.ref b201)])) rfl (by rw [hml]; rfl) (Steps.refl _) (argsL := [(.long (x2 + (x3 >>> ((1 : Int32) &&& 0x3f).toInt64)))]) (rest := []) (lenOf own_pd5 rfl) rfl (by show 2 * 0 + _ ≤ _; exact Nat.le_of_eq rfl) (hb hby at_253) (fun _ _ => ⟨rfl, rfl, (by decide : 1 + 0 ≤ _), (by decide : 3 + 0 ≤ _)⟩)
                dsimp only [Pt.U, Pt.locs, Pt.cells, Pt.slots] at X260 l260 y260 z260 st260 hQ260
                subst l260 y260 z260
                obtain ⟨br_260, rfl, N260q, eh260, pr260_0⟩ := hQ260
                have N260 := Fr.app N238 N260q
                refine Goes.tr st260 ?_
                show Goes p e below s _ _ _ T260 (mkF m 256 #[.val (.int x0), .val (.long x1), .second, .val (.long x2), .second, .val (.long x3), .second, .val (.int (4 : Int32)), .val (.int (1 : Int32)), .val (.int (1 : Int32)), .val (.int (6 : Int32)), .val (.int (5 : Int32)), .val (.ref b201), .val (.int (6 : Int32)), .val (.long (x3 >>> ((1 : Int32) &&& 0x3f).toInt64)), .second, .val (.long (x2 + (x3 >>> ((1 : Int32) &&& 0x3f).toInt64))), .second, .unset, .unset, .unset, .unset, .unset, .unset, .unset] [(.long br_260)])
                refine own_lstore X260 hx 258 rfl #[.val (.int x0), .val (.long x1), .second, .val (.long x2), .second, .val (.long x3), .second, .val (.int (4 : Int32)), .val (.int (1 : Int32)), .val (.int (1 : Int32)), .val (.int (6 : Int32)), .val (.int (5 : Int32)), .val (.ref b201), .val (.int (6 : Int32)), .val (.long (x3 >>> ((1 : Int32) &&& 0x3f).toInt64)), .second, .val (.long (x2 + (x3 >>> ((1 : Int32) &&& 0x3f).toInt64))), .second, .val (.long br_260), .second, .unset, .unset, .unset, .unset, .unset] (hb hby at_256) rfl ?_
                refine own_iload X260 hx 260 rfl (hb hby at_258) rfl ?_
                refine own_ifY X260 hx 269 (hb hby at_260) ((if0 _ _).trans (feq ((by decide) : ¬ ((6 : Int32) = (0 : Int32)))).2) (by decide) (by decide) ?_
                refine own_iload X260 hx 271 rfl (hb hby at_269) rfl ?_
                refine own_iconst X260 hx 272 rfl (1 : Int32) (hb hby at_271) (by decide) ?_
                refine own_icmpN X260 hx 275 (hb hby at_272) (teq ((by decide) : (1 : Int32) = (1 : Int32))).2 rfl ?_
                refine own_iload X260 hx 277 rfl (hb hby at_275) rfl ?_
                refine own_goto X260 hx 285 (hb hby at_277) (by decide) (by decide) ?_
                refine own_istore X260 hx 287 rfl #[.val (.int x0), .val (.long x1), .second, .val (.long x2), .second, .val (.long x3), .second, .val (.int (4 : Int32)), .val (.int (1 : Int32)), .val (.int (1 : Int32)), .val (.int (6 : Int32)), .val (.int (5 : Int32)), .val (.ref b201), .val (.int (6 : Int32)), .val (.long (x3 >>> ((1 : Int32) &&& 0x3f).toInt64)), .second, .val (.long (x2 + (x3 >>> ((1 : Int32) &&& 0x3f).toInt64))), .second, .val (.long br_260), .second, .unset, .unset, .val (.int (4 : Int32)), .unset, .unset] (hb hby at_285) rfl ?_
                refine own_iload X260 hx 289 rfl (hb hby at_287) rfl ?_
                obtain ⟨_, _, ⟨T261, L261, k261, n261⟩, -, X261, ⟨Lc261, hQ261, l261, y261, z261⟩, st261⟩ := Jvm.LawKit.callS X260 hx (y := (⟨"com/example/pooler/pooler/pool/BackoffDelayPinLaw", "pauseMs", "(I)J"⟩ : MethodName)) hown (mvT hZ (hw _ (List.mem_of_getElem? (i := 48) rfl))) (mvT hZ (hw _ (List.mem_of_getElem? (i := 49) rfl))) (mvT hZ (hw _ (List.mem_of_getElem? (i := 18) rfl))) (mvT hZ (hw _ (List.mem_of_getElem? (i := 50) rfl))) (by decide) (backOf (W := 0) (rmpm4 l Z a0 hw []  T238.heap n0 Z238 ) hZ (hw _ (List.mem_of_getElem? (i := 50) rfl)) (hw _ (List.mem_of_getElem? (i := 18) rfl)) (by decide) (by decide)) (g := (mkF m 289 #[.val (.int x0), .val (.long x1), .second, .val (.long x2), .second, .val (.long x3), .second, .val (.int (4 : Int32)), .val (.int (1 : Int32)), .val (.int (1 : Int32)), .val (.int (6 : Int32)), .val (.int (5 : Int32)), .val (.ref b201), .val (.int (6 : Int32)), .val (.long (x3 >>> ((1 : Int32) &&& 0x3f).toInt64)), .second, .val (.long (x2 + (x3 >>> ((1 : Int32) &&& 0x3f).toInt64))), .second, .val (.long br_260), .second, .unset, .unset, .val (.int (4 : Int32)), .unset, .unset] [(.int (4 : Int32))])) rfl (by rw [hml]; rfl) (argsL := [(.int (4 : Int32))]) (rest := []) (lenOf own_pd6 rfl) rfl (by show 2 * 0 + _ ≤ _; exact Nat.le_of_eq rfl) (hb hby at_289) (fun _ _ => ⟨rfl, eh260, (by decide : 1 + 0 ≤ _), (by decide : 3 + 0 ≤ _)⟩)
                dsimp only [Pt.U, Pt.locs, Pt.cells, Pt.slots] at X261 l261 y261 z261 st261 hQ261
                subst l261 y261 z261
                obtain ⟨rfl, N261q, eh261⟩ := hQ261
                have N261 := Fr.app N260 N261q
                refine Goes.go st261 ?_
                show Goes p e below s _ _ _ T261 (mkF m 292 #[.val (.int x0), .val (.long x1), .second, .val (.long x2), .second, .val (.long x3), .second, .val (.int (4 : Int32)), .val (.int (1 : Int32)), .val (.int (1 : Int32)), .val (.int (6 : Int32)), .val (.int (5 : Int32)), .val (.ref b201), .val (.int (6 : Int32)), .val (.long (x3 >>> ((1 : Int32) &&& 0x3f).toInt64)), .second, .val (.long (x2 + (x3 >>> ((1 : Int32) &&& 0x3f).toInt64))), .second, .val (.long br_260), .second, .unset, .unset, .val (.int (4 : Int32)), .unset, .unset] [(.long (800 : Int64))])
                refine Goes.go (X261.ldc2Long hx hown (mvT hZ (hw _ (List.mem_of_getElem? (i := 52) rfl))) (g := (mkF m 292 #[.val (.int x0), .val (.long x1), .second, .val (.long x2), .second, .val (.long x3), .second, .val (.int (4 : Int32)), .val (.int (1 : Int32)), .val (.int (1 : Int32)), .val (.int (6 : Int32)), .val (.int (5 : Int32)), .val (.ref b201), .val (.int (6 : Int32)), .val (.long (x3 >>> ((1 : Int32) &&& 0x3f).toInt64)), .second, .val (.long (x2 + (x3 >>> ((1 : Int32) &&& 0x3f).toInt64))), .second, .val (.long br_260), .second, .unset, .unset, .val (.int (4 : Int32)), .unset, .unset] [(.long (800 : Int64))])) rfl (hb hby at_292)) ?_
                show Goes p e below s _ _ _ T261 (mkF m 295 #[.val (.int x0), .val (.long x1), .second, .val (.long x2), .second, .val (.long x3), .second, .val (.int (4 : Int32)), .val (.int (1 : Int32)), .val (.int (1 : Int32)), .val (.int (6 : Int32)), .val (.int (5 : Int32)), .val (.ref b201), .val (.int (6 : Int32)), .val (.long (x3 >>> ((1 : Int32) &&& 0x3f).toInt64)), .second, .val (.long (x2 + (x3 >>> ((1 : Int32) &&& 0x3f).toInt64))), .second, .val (.long br_260), .second, .unset, .unset, .val (.int (4 : Int32)), .unset, .unset] [(.long (1000000 : Int64)), (.long (800 : Int64))])
                refine own_lmul X261 hx 296 rfl (z := (800000000 : Int64)) (hb hby at_295) (by decide) ?_
                refine own_lstore X261 hx 298 rfl #[.val (.int x0), .val (.long x1), .second, .val (.long x2), .second, .val (.long x3), .second, .val (.int (4 : Int32)), .val (.int (1 : Int32)), .val (.int (1 : Int32)), .val (.int (6 : Int32)), .val (.int (5 : Int32)), .val (.ref b201), .val (.int (6 : Int32)), .val (.long (x3 >>> ((1 : Int32) &&& 0x3f).toInt64)), .second, .val (.long (x2 + (x3 >>> ((1 : Int32) &&& 0x3f).toInt64))), .second, .val (.long br_260), .second, .unset, .unset, .val (.int (4 : Int32)), .val (.long (800000000 : Int64)), .second] (hb hby at_296) rfl ?_
                refine own_lload X261 hx 300 rfl (hb hby at_298) rfl ?_
                refine own_lload X261 hx 302 rfl (hb hby at_300) rfl ?_
                refine own_lcmp X261 hx 303 rfl (hb hby at_302) ?_
                by_cases hc303_262 : (x3 >>> ((1 : Int32) &&& 0x3f).toInt64) < (800000000 : Int64)
                · refine own_ifY X261 hx 310 (hb hby at_303) (Ltlt hc303_262).1 (by decide) (by decide) ?_
                  refine own_lload X261 hx 312 rfl (hb hby at_310) rfl ?_
                  refine own_lload X261 hx 314 rfl (hb hby at_312) rfl ?_
                  refine own_lsub X261 hx 315 rfl (hb hby at_314) rfl ?_
                  refine own_lstore X261 hx 317 rfl #[.val (.int x0), .val (.long x1), .second, .val (.long x2), .second, .val (.long x3), .second, .val (.int (4 : Int32)), .val (.int (1 : Int32)), .val (.int (1 : Int32)), .val (.int (6 : Int32)), .val (.int (5 : Int32)), .val (.ref b201), .val (.int (6 : Int32)), .val (.long (x3 >>> ((1 : Int32) &&& 0x3f).toInt64)), .second, .val (.long (x2 + (x3 >>> ((1 : Int32) &&& 0x3f).toInt64))), .second, .val (.long br_260), .second, .val (.long ((800000000 : Int64) - (x3 >>> ((1 : Int32) &&& 0x3f).toInt64))), .second, .val (.int (4 : Int32)), .val (.long (800000000 : Int64)), .second] (hb hby at_315) rfl ?_
                  refine own_lload X261 hx 319 rfl (hb hby at_317) rfl ?_
                  refine own_lload X261 hx 321 rfl (hb hby at_319) rfl ?_
                  refine own_lcmp X261 hx 322 rfl (hb hby at_321) ?_
                  refine own_ifN X261 hx 325 (hb hby at_322) (Lteq ((own_fin har hdd (P := (800000000 : Int64)) (by decide) pr260_0).1 hc303_262 : br_260 = ((800000000 : Int64) - (x3 >>> ((1 : Int32) &&& 0x3f).toInt64)))).2 rfl ?_
                  refine own_iconst X261 hx 326 rfl (1 : Int32) (hb hby at_325) (by decide) ?_
                  refine own_goto X261 hx 330 (hb hby at_326) (by decide) (by decide) ?_
                  refine own_retZ X261 hx hlk Bd.returns (by decide) (hb hby at_330) (by decide) (by decide) eh261 ?_
                  exact ⟨rfl, N261⟩
                · refine own_ifN X261 hx 306 (hb hby at_303) (Lflt hc303_262).1 rfl ?_
                  refine own_lconst X261 hx 307 rfl (0 : Int64) (hb hby at_306) (by decide) ?_
                  refine own_goto X261 hx 315 (hb hby at_307) (by decide) (by decide) ?_
                  refine own_lstore X261 hx 317 rfl #[.val (.int x0), .val (.long x1), .second, .val (.long x2), .second, .val (.long x3), .second, .val (.int (4 : Int32)), .val (.int (1 : Int32)), .val (.int (1 : Int32)), .val (.int (6 : Int32)), .val (.int (5 : Int32)), .val (.ref b201), .val (.int (6 : Int32)), .val (.long (x3 >>> ((1 : Int32) &&& 0x3f).toInt64)), .second, .val (.long (x2 + (x3 >>> ((1 : Int32) &&& 0x3f).toInt64))), .second, .val (.long br_260), .second, .val (.long (0 : Int64)), .second, .val (.int (4 : Int32)), .val (.long (800000000 : Int64)), .second] (hb hby at_315) rfl ?_
                  refine own_lload X261 hx 319 rfl (hb hby at_317) rfl ?_
                  refine own_lload X261 hx 321 rfl (hb hby at_319) rfl ?_
                  refine own_lcmp X261 hx 322 rfl (hb hby at_321) ?_
                  refine own_ifN X261 hx 325 (hb hby at_322) (Lteq ((own_fin har hdd (P := (800000000 : Int64)) (by decide) pr260_0).2 hc303_262 : br_260 = (0 : Int64))).2 rfl ?_
                  refine own_iconst X261 hx 326 rfl (1 : Int32) (hb hby at_325) (by decide) ?_
                  refine own_goto X261 hx 330 (hb hby at_326) (by decide) (by decide) ?_
                  refine own_retZ X261 hx hlk Bd.returns (by decide) (hb hby at_330) (by decide) (by decide) eh261 ?_
                  exact ⟨rfl, N261⟩
            · refine own_icmpY X232 hx 191 (hb hby at_171) (flt hc171_236).2.2.2 (by decide) (by decide) ?_
              refine own_iload X232 hx 193 rfl (hb hby at_191) rfl ?_
              refine own_iconst X232 hx 194 rfl (4 : Int32) (hb hby at_193) (by decide) ?_
              refine own_icmpY X232 hx 214 (hb hby at_194) (flt (own_down hc171_236 (by decide) : ¬ ((4 : Int32) < ff))).2.2.2 (by decide) (by decide) ?_
              refine own_iload X232 hx 216 rfl (hb hby at_214) rfl ?_
              refine own_iconst X232 hx 217 rfl (5 : Int32) (hb hby at_216) (by decide) ?_
              refine own_icmpY X232 hx 237 (hb hby at_217) (flt (own_down hc171_236 (by decide) : ¬ ((5 : Int32) < ff))).2.2.2 (by decide) (by decide) ?_
              have hfl := own_gt (k := 2) (by decide) hc148_230
              have hfh := own_le (k := 3) (by decide) hc171_236
              obtain rfl : ff = (3 : Int32) := own_pin (k := 3) (by decide) (by omega)
              obtain rfl : tot = (5 : Int32) := by rw [h_tot]; decide
              obtain rfl : lst = (4 : Int32) := by rw [h_lst]; decide
              have hdd := own_sh x3 _ rfl
              have har : ar_231 = x2 := own_atE pr231_0 (by decide)
              refine own_lload X232 hx 239 rfl (hb hby at_237) rfl ?_
              refine own_iconst X232 hx 240 rfl (1 : Int32) (hb hby at_239) (by decide) ?_
              refine own_lshr X232 hx 241 rfl (hb hby at_240) rfl ?_
              refine own_lstore X232 hx 243 rfl #[.val (.int x0), .val (.long x1), .second, .val (.long x2), .second, .val (.long x3), .second, .val (.int (3 : Int32)), .val (.int (1 : Int32)), .val (.int (1 : Int32)), .val (.int (5 : Int32)), .val (.int (4 : Int32)), .val (.ref b201), .val (.int (5 : Int32)), .val (.long (x3 >>> ((1 : Int32) &&& 0x3f).toInt64)), .second, .unset, .unset, .unset, .unset, .unset, .unset, .unset, .unset, .unset] (hb hby at_241) rfl ?_
              refine own_lloadN X232 hx 244 rfl (hb hby at_243) rfl ?_
              refine own_lload X232 hx 246 rfl (hb hby at_244) rfl ?_
              refine own_ladd X232 hx 247 rfl (hb hby at_246) rfl ?_
              refine own_lstore X232 hx 249 rfl #[.val (.int x0), .val (.long x1), .second, .val (.long x2), .second, .val (.long x3), .second, .val (.int (3 : Int32)), .val (.int (1 : Int32)), .val (.int (1 : Int32)), .val (.int (5 : Int32)), .val (.int (4 : Int32)), .val (.ref b201), .val (.int (5 : Int32)), .val (.long (x3 >>> ((1 : Int32) &&& 0x3f).toInt64)), .second, .val (.long (x2 + (x3 >>> ((1 : Int32) &&& 0x3f).toInt64))), .second, .unset, .unset, .unset, .unset, .unset, .unset, .unset] (hb hby at_247) rfl ?_
              refine own_aload X232 hx 251 rfl (hb hby at_249) rfl rfl ?_
              refine own_lload X232 hx 253 rfl (hb hby at_251) rfl ?_
              obtain ⟨cq263, kq263, q263a, q263b, q263c⟩ := isOf hZ rfl f235
              obtain ⟨_, _, ⟨T263, L263, k263, n263⟩, -, X263, ⟨Lc263, hQ263, l263, y263, z263⟩, st263⟩ := X232.virtualBack hx (y := (⟨"com/example/pooler/pooler/pool/Backoff", "delay", "(J)J"⟩ : MethodName)) (z := (⟨"com/example/pooler/pooler/pool/Backoff", "delay", "(J)J"⟩ : MethodName)) hown (mvT hZ (hw _ (List.mem_of_getElem? (i := 9) rfl))) (mvT hZ (hw _ (List.mem_of_getElem? (i := 10) rfl))) (notFace_of_selects (args := #[]) (mvT hZ (hw _ (List.mem_of_getElem? (i := 12) rfl)))) (mvT hZ (hw _ (List.mem_of_getElem? (i := 12) rfl))) (mvT hZ (hw _ (List.mem_of_getElem? (i := 11) rfl))) (by decide) (backOf (W := 0) (rmde3 l Z a0 hw [] b201 (x2 + (x3 >>> ((1 : Int32) &&& 0x3f).toInt64)) ar_231 T232.heap n0 Z232 f235 f233 f234 f232_0 f232_1 f232_2) hZ (hw _ (List.mem_of_getElem? (i := 13) rfl)) (hw _ (List.mem_of_getElem? (i := 2) rfl)) (by decide) (by decide)) q263a q263c (g := (mkF m 253 #[.val (.int x0), .val (.long x1), .second, .val (.long x2), .second, .val (.long x3), .second, .val (.int (3 : Int32)), .val (.int (1 : Int32)), .val (.int (1 : Int32)), .val (.int (5 : Int32)), .val (.int (4 : Int32)), .val (.ref b201), .val (.int (5 : Int32)), .val (.long (x3 >>> ((1 : Int32) &&& 0x3f).toInt64)), .second, .val (.long (x2 + (x3 >>> ((1 : Int32) &&& 0x3f).toInt64))), .second, .unset, .unset, .unset, .unset, .unset, .unset, .unset] [(.long (x2 + (x3 >>> ((1 : Int32) &&& 0x3f).toInt64))), (.ref b201)])) rfl (by rw [hml]; rfl) (Steps.refl _) (argsL := [(.long (x2 + (x3 >>> ((1 : Int32) &&& 0x3f).toInt64)))]) (rest := []) (lenOf own_pd5 rfl) rfl (by show 2 * 0 + _ ≤ _; exact Nat.le_of_eq rfl) (hb hby at_253) (fun _ _ => ⟨rfl, rfl, (by decide : 1 + 0 ≤ _), (by decide : 3 + 0 ≤ _)⟩)
              dsimp only [Pt.U, Pt.locs, Pt.cells, Pt.slots] at X263 l263 y263 z263 st263 hQ263
              subst l263 y263 z263
              obtain ⟨br_263, rfl, N263q, eh263, pr263_0⟩ := hQ263
              have N263 := Fr.app N232 N263q
              refine Goes.tr st263 ?_
              show Goes p e below s _ _ _ T263 (mkF m 256 #[.val (.int x0), .val (.long x1), .second, .val (.long x2), .second, .val (.long x3), .second, .val (.int (3 : Int32)), .val (.int (1 : Int32)), .val (.int (1 : Int32)), .val (.int (5 : Int32)), .val (.int (4 : Int32)), .val (.ref b201), .val (.int (5 : Int32)), .val (.long (x3 >>> ((1 : Int32) &&& 0x3f).toInt64)), .second, .val (.long (x2 + (x3 >>> ((1 : Int32) &&& 0x3f).toInt64))), .second, .unset, .unset, .unset, .unset, .unset, .unset, .unset] [(.long br_263)])
              refine own_lstore X263 hx 258 rfl #[.val (.int x0), .val (.long x1), .second, .val (.long x2), .second, .val (.long x3), .second, .val (.int (3 : Int32)), .val (.int (1 : Int32)), .val (.int (1 : Int32)), .val (.int (5 : Int32)), .val (.int (4 : Int32)), .val (.ref b201), .val (.int (5 : Int32)), .val (.long (x3 >>> ((1 : Int32) &&& 0x3f).toInt64)), .second, .val (.long (x2 + (x3 >>> ((1 : Int32) &&& 0x3f).toInt64))), .second, .val (.long br_263), .second, .unset, .unset, .unset, .unset, .unset] (hb hby at_256) rfl ?_
              refine own_iload X263 hx 260 rfl (hb hby at_258) rfl ?_
              refine own_ifY X263 hx 269 (hb hby at_260) ((if0 _ _).trans (feq ((by decide) : ¬ ((5 : Int32) = (0 : Int32)))).2) (by decide) (by decide) ?_
              refine own_iload X263 hx 271 rfl (hb hby at_269) rfl ?_
              refine own_iconst X263 hx 272 rfl (1 : Int32) (hb hby at_271) (by decide) ?_
              refine own_icmpN X263 hx 275 (hb hby at_272) (teq ((by decide) : (1 : Int32) = (1 : Int32))).2 rfl ?_
              refine own_iload X263 hx 277 rfl (hb hby at_275) rfl ?_
              refine own_goto X263 hx 285 (hb hby at_277) (by decide) (by decide) ?_
              refine own_istore X263 hx 287 rfl #[.val (.int x0), .val (.long x1), .second, .val (.long x2), .second, .val (.long x3), .second, .val (.int (3 : Int32)), .val (.int (1 : Int32)), .val (.int (1 : Int32)), .val (.int (5 : Int32)), .val (.int (4 : Int32)), .val (.ref b201), .val (.int (5 : Int32)), .val (.long (x3 >>> ((1 : Int32) &&& 0x3f).toInt64)), .second, .val (.long (x2 + (x3 >>> ((1 : Int32) &&& 0x3f).toInt64))), .second, .val (.long br_263), .second, .unset, .unset, .val (.int (3 : Int32)), .unset, .unset] (hb hby at_285) rfl ?_
              refine own_iload X263 hx 289 rfl (hb hby at_287) rfl ?_
              obtain ⟨_, _, ⟨T264, L264, k264, n264⟩, -, X264, ⟨Lc264, hQ264, l264, y264, z264⟩, st264⟩ := Jvm.LawKit.callS X263 hx (y := (⟨"com/example/pooler/pooler/pool/BackoffDelayPinLaw", "pauseMs", "(I)J"⟩ : MethodName)) hown (mvT hZ (hw _ (List.mem_of_getElem? (i := 48) rfl))) (mvT hZ (hw _ (List.mem_of_getElem? (i := 49) rfl))) (mvT hZ (hw _ (List.mem_of_getElem? (i := 18) rfl))) (mvT hZ (hw _ (List.mem_of_getElem? (i := 50) rfl))) (by decide) (backOf (W := 0) (rmpm3 l Z a0 hw []  T232.heap n0 Z232 ) hZ (hw _ (List.mem_of_getElem? (i := 50) rfl)) (hw _ (List.mem_of_getElem? (i := 18) rfl)) (by decide) (by decide)) (g := (mkF m 289 #[.val (.int x0), .val (.long x1), .second, .val (.long x2), .second, .val (.long x3), .second, .val (.int (3 : Int32)), .val (.int (1 : Int32)), .val (.int (1 : Int32)), .val (.int (5 : Int32)), .val (.int (4 : Int32)), .val (.ref b201), .val (.int (5 : Int32)), .val (.long (x3 >>> ((1 : Int32) &&& 0x3f).toInt64)), .second, .val (.long (x2 + (x3 >>> ((1 : Int32) &&& 0x3f).toInt64))), .second, .val (.long br_263), .second, .unset, .unset, .val (.int (3 : Int32)), .unset, .unset] [(.int (3 : Int32))])) rfl (by rw [hml]; rfl) (argsL := [(.int (3 : Int32))]) (rest := []) (lenOf own_pd6 rfl) rfl (by show 2 * 0 + _ ≤ _; exact Nat.le_of_eq rfl) (hb hby at_289) (fun _ _ => ⟨rfl, eh263, (by decide : 1 + 0 ≤ _), (by decide : 3 + 0 ≤ _)⟩)
              dsimp only [Pt.U, Pt.locs, Pt.cells, Pt.slots] at X264 l264 y264 z264 st264 hQ264
              subst l264 y264 z264
              obtain ⟨rfl, N264q, eh264⟩ := hQ264
              have N264 := Fr.app N263 N264q
              refine Goes.go st264 ?_
              show Goes p e below s _ _ _ T264 (mkF m 292 #[.val (.int x0), .val (.long x1), .second, .val (.long x2), .second, .val (.long x3), .second, .val (.int (3 : Int32)), .val (.int (1 : Int32)), .val (.int (1 : Int32)), .val (.int (5 : Int32)), .val (.int (4 : Int32)), .val (.ref b201), .val (.int (5 : Int32)), .val (.long (x3 >>> ((1 : Int32) &&& 0x3f).toInt64)), .second, .val (.long (x2 + (x3 >>> ((1 : Int32) &&& 0x3f).toInt64))), .second, .val (.long br_263), .second, .unset, .unset, .val (.int (3 : Int32)), .unset, .unset] [(.long (400 : Int64))])
              refine Goes.go (X264.ldc2Long hx hown (mvT hZ (hw _ (List.mem_of_getElem? (i := 52) rfl))) (g := (mkF m 292 #[.val (.int x0), .val (.long x1), .second, .val (.long x2), .second, .val (.long x3), .second, .val (.int (3 : Int32)), .val (.int (1 : Int32)), .val (.int (1 : Int32)), .val (.int (5 : Int32)), .val (.int (4 : Int32)), .val (.ref b201), .val (.int (5 : Int32)), .val (.long (x3 >>> ((1 : Int32) &&& 0x3f).toInt64)), .second, .val (.long (x2 + (x3 >>> ((1 : Int32) &&& 0x3f).toInt64))), .second, .val (.long br_263), .second, .unset, .unset, .val (.int (3 : Int32)), .unset, .unset] [(.long (400 : Int64))])) rfl (hb hby at_292)) ?_
              show Goes p e below s _ _ _ T264 (mkF m 295 #[.val (.int x0), .val (.long x1), .second, .val (.long x2), .second, .val (.long x3), .second, .val (.int (3 : Int32)), .val (.int (1 : Int32)), .val (.int (1 : Int32)), .val (.int (5 : Int32)), .val (.int (4 : Int32)), .val (.ref b201), .val (.int (5 : Int32)), .val (.long (x3 >>> ((1 : Int32) &&& 0x3f).toInt64)), .second, .val (.long (x2 + (x3 >>> ((1 : Int32) &&& 0x3f).toInt64))), .second, .val (.long br_263), .second, .unset, .unset, .val (.int (3 : Int32)), .unset, .unset] [(.long (1000000 : Int64)), (.long (400 : Int64))])
              refine own_lmul X264 hx 296 rfl (z := (400000000 : Int64)) (hb hby at_295) (by decide) ?_
              refine own_lstore X264 hx 298 rfl #[.val (.int x0), .val (.long x1), .second, .val (.long x2), .second, .val (.long x3), .second, .val (.int (3 : Int32)), .val (.int (1 : Int32)), .val (.int (1 : Int32)), .val (.int (5 : Int32)), .val (.int (4 : Int32)), .val (.ref b201), .val (.int (5 : Int32)), .val (.long (x3 >>> ((1 : Int32) &&& 0x3f).toInt64)), .second, .val (.long (x2 + (x3 >>> ((1 : Int32) &&& 0x3f).toInt64))), .second, .val (.long br_263), .second, .unset, .unset, .val (.int (3 : Int32)), .val (.long (400000000 : Int64)), .second] (hb hby at_296) rfl ?_
              refine own_lload X264 hx 300 rfl (hb hby at_298) rfl ?_
              refine own_lload X264 hx 302 rfl (hb hby at_300) rfl ?_
              refine own_lcmp X264 hx 303 rfl (hb hby at_302) ?_
              by_cases hc303_265 : (x3 >>> ((1 : Int32) &&& 0x3f).toInt64) < (400000000 : Int64)
              · refine own_ifY X264 hx 310 (hb hby at_303) (Ltlt hc303_265).1 (by decide) (by decide) ?_
                refine own_lload X264 hx 312 rfl (hb hby at_310) rfl ?_
                refine own_lload X264 hx 314 rfl (hb hby at_312) rfl ?_
                refine own_lsub X264 hx 315 rfl (hb hby at_314) rfl ?_
                refine own_lstore X264 hx 317 rfl #[.val (.int x0), .val (.long x1), .second, .val (.long x2), .second, .val (.long x3), .second, .val (.int (3 : Int32)), .val (.int (1 : Int32)), .val (.int (1 : Int32)), .val (.int (5 : Int32)), .val (.int (4 : Int32)), .val (.ref b201), .val (.int (5 : Int32)), .val (.long (x3 >>> ((1 : Int32) &&& 0x3f).toInt64)), .second, .val (.long (x2 + (x3 >>> ((1 : Int32) &&& 0x3f).toInt64))), .second, .val (.long br_263), .second, .val (.long ((400000000 : Int64) - (x3 >>> ((1 : Int32) &&& 0x3f).toInt64))), .second, .val (.int (3 : Int32)), .val (.long (400000000 : Int64)), .second] (hb hby at_315) rfl ?_
                refine own_lload X264 hx 319 rfl (hb hby at_317) rfl ?_
                refine own_lload X264 hx 321 rfl (hb hby at_319) rfl ?_
                refine own_lcmp X264 hx 322 rfl (hb hby at_321) ?_
                refine own_ifN X264 hx 325 (hb hby at_322) (Lteq ((own_fin har hdd (P := (400000000 : Int64)) (by decide) pr263_0).1 hc303_265 : br_263 = ((400000000 : Int64) - (x3 >>> ((1 : Int32) &&& 0x3f).toInt64)))).2 rfl ?_
                refine own_iconst X264 hx 326 rfl (1 : Int32) (hb hby at_325) (by decide) ?_
                refine own_goto X264 hx 330 (hb hby at_326) (by decide) (by decide) ?_
                refine own_retZ X264 hx hlk Bd.returns (by decide) (hb hby at_330) (by decide) (by decide) eh264 ?_
                exact ⟨rfl, N264⟩
              · refine own_ifN X264 hx 306 (hb hby at_303) (Lflt hc303_265).1 rfl ?_
                refine own_lconst X264 hx 307 rfl (0 : Int64) (hb hby at_306) (by decide) ?_
                refine own_goto X264 hx 315 (hb hby at_307) (by decide) (by decide) ?_
                refine own_lstore X264 hx 317 rfl #[.val (.int x0), .val (.long x1), .second, .val (.long x2), .second, .val (.long x3), .second, .val (.int (3 : Int32)), .val (.int (1 : Int32)), .val (.int (1 : Int32)), .val (.int (5 : Int32)), .val (.int (4 : Int32)), .val (.ref b201), .val (.int (5 : Int32)), .val (.long (x3 >>> ((1 : Int32) &&& 0x3f).toInt64)), .second, .val (.long (x2 + (x3 >>> ((1 : Int32) &&& 0x3f).toInt64))), .second, .val (.long br_263), .second, .val (.long (0 : Int64)), .second, .val (.int (3 : Int32)), .val (.long (400000000 : Int64)), .second] (hb hby at_315) rfl ?_
                refine own_lload X264 hx 319 rfl (hb hby at_317) rfl ?_
                refine own_lload X264 hx 321 rfl (hb hby at_319) rfl ?_
                refine own_lcmp X264 hx 322 rfl (hb hby at_321) ?_
                refine own_ifN X264 hx 325 (hb hby at_322) (Lteq ((own_fin har hdd (P := (400000000 : Int64)) (by decide) pr263_0).2 hc303_265 : br_263 = (0 : Int64))).2 rfl ?_
                refine own_iconst X264 hx 326 rfl (1 : Int32) (hb hby at_325) (by decide) ?_
                refine own_goto X264 hx 330 (hb hby at_326) (by decide) (by decide) ?_
                refine own_retZ X264 hx hlk Bd.returns (by decide) (hb hby at_330) (by decide) (by decide) eh264 ?_
                exact ⟨rfl, N264⟩
          · refine own_icmpY X226 hx 168 (hb hby at_148) (flt hc148_230).2.2.2 (by decide) (by decide) ?_
            refine own_iload X226 hx 170 rfl (hb hby at_168) rfl ?_
            refine own_iconst X226 hx 171 rfl (3 : Int32) (hb hby at_170) (by decide) ?_
            refine own_icmpY X226 hx 191 (hb hby at_171) (flt (own_down hc148_230 (by decide) : ¬ ((3 : Int32) < ff))).2.2.2 (by decide) (by decide) ?_
            refine own_iload X226 hx 193 rfl (hb hby at_191) rfl ?_
            refine own_iconst X226 hx 194 rfl (4 : Int32) (hb hby at_193) (by decide) ?_
            refine own_icmpY X226 hx 214 (hb hby at_194) (flt (own_down hc148_230 (by decide) : ¬ ((4 : Int32) < ff))).2.2.2 (by decide) (by decide) ?_
            refine own_iload X226 hx 216 rfl (hb hby at_214) rfl ?_
            refine own_iconst X226 hx 217 rfl (5 : Int32) (hb hby at_216) (by decide) ?_
            refine own_icmpY X226 hx 237 (hb hby at_217) (flt (own_down hc148_230 (by decide) : ¬ ((5 : Int32) < ff))).2.2.2 (by decide) (by decide) ?_
            have hfl := own_gt (k := 1) (by decide) hc125_224
            have hfh := own_le (k := 2) (by decide) hc148_230
            obtain rfl : ff = (2 : Int32) := own_pin (k := 2) (by decide) (by omega)
            obtain rfl : tot = (4 : Int32) := by rw [h_tot]; decide
            obtain rfl : lst = (3 : Int32) := by rw [h_lst]; decide
            have hdd := own_sh x3 _ rfl
            have har : ar_225 = x2 := own_atE pr225_0 (by decide)
            refine own_lload X226 hx 239 rfl (hb hby at_237) rfl ?_
            refine own_iconst X226 hx 240 rfl (1 : Int32) (hb hby at_239) (by decide) ?_
            refine own_lshr X226 hx 241 rfl (hb hby at_240) rfl ?_
            refine own_lstore X226 hx 243 rfl #[.val (.int x0), .val (.long x1), .second, .val (.long x2), .second, .val (.long x3), .second, .val (.int (2 : Int32)), .val (.int (1 : Int32)), .val (.int (1 : Int32)), .val (.int (4 : Int32)), .val (.int (3 : Int32)), .val (.ref b201), .val (.int (4 : Int32)), .val (.long (x3 >>> ((1 : Int32) &&& 0x3f).toInt64)), .second, .unset, .unset, .unset, .unset, .unset, .unset, .unset, .unset, .unset] (hb hby at_241) rfl ?_
            refine own_lloadN X226 hx 244 rfl (hb hby at_243) rfl ?_
            refine own_lload X226 hx 246 rfl (hb hby at_244) rfl ?_
            refine own_ladd X226 hx 247 rfl (hb hby at_246) rfl ?_
            refine own_lstore X226 hx 249 rfl #[.val (.int x0), .val (.long x1), .second, .val (.long x2), .second, .val (.long x3), .second, .val (.int (2 : Int32)), .val (.int (1 : Int32)), .val (.int (1 : Int32)), .val (.int (4 : Int32)), .val (.int (3 : Int32)), .val (.ref b201), .val (.int (4 : Int32)), .val (.long (x3 >>> ((1 : Int32) &&& 0x3f).toInt64)), .second, .val (.long (x2 + (x3 >>> ((1 : Int32) &&& 0x3f).toInt64))), .second, .unset, .unset, .unset, .unset, .unset, .unset, .unset] (hb hby at_247) rfl ?_
            refine own_aload X226 hx 251 rfl (hb hby at_249) rfl rfl ?_
            refine own_lload X226 hx 253 rfl (hb hby at_251) rfl ?_
            obtain ⟨cq266, kq266, q266a, q266b, q266c⟩ := isOf hZ rfl f229
            obtain ⟨_, _, ⟨T266, L266, k266, n266⟩, -, X266, ⟨Lc266, hQ266, l266, y266, z266⟩, st266⟩ := X226.virtualBack hx (y := (⟨"com/example/pooler/pooler/pool/Backoff", "delay", "(J)J"⟩ : MethodName)) (z := (⟨"com/example/pooler/pooler/pool/Backoff", "delay", "(J)J"⟩ : MethodName)) hown (mvT hZ (hw _ (List.mem_of_getElem? (i := 9) rfl))) (mvT hZ (hw _ (List.mem_of_getElem? (i := 10) rfl))) (notFace_of_selects (args := #[]) (mvT hZ (hw _ (List.mem_of_getElem? (i := 12) rfl)))) (mvT hZ (hw _ (List.mem_of_getElem? (i := 12) rfl))) (mvT hZ (hw _ (List.mem_of_getElem? (i := 11) rfl))) (by decide) (backOf (W := 0) (rmde2 l Z a0 hw [] b201 (x2 + (x3 >>> ((1 : Int32) &&& 0x3f).toInt64)) ar_225 T226.heap n0 Z226 f229 f227 f228 f226_0 f226_1 f226_2) hZ (hw _ (List.mem_of_getElem? (i := 13) rfl)) (hw _ (List.mem_of_getElem? (i := 2) rfl)) (by decide) (by decide)) q266a q266c (g := (mkF m 253 #[.val (.int x0), .val (.long x1), .second, .val (.long x2), .second, .val (.long x3), .second, .val (.int (2 : Int32)), .val (.int (1 : Int32)), .val (.int (1 : Int32)), .val (.int (4 : Int32)), .val (.int (3 : Int32)), .val (.ref b201), .val (.int (4 : Int32)), .val (.long (x3 >>> ((1 : Int32) &&& 0x3f).toInt64)), .second, .val (.long (x2 + (x3 >>> ((1 : Int32) &&& 0x3f).toInt64))), .second, .unset, .unset, .unset, .unset, .unset, .unset, .unset] [(.long (x2 + (x3 >>> ((1 : Int32) &&& 0x3f).toInt64))), (.ref b201)])) rfl (by rw [hml]; rfl) (Steps.refl _) (argsL := [(.long (x2 + (x3 >>> ((1 : Int32) &&& 0x3f).toInt64)))]) (rest := []) (lenOf own_pd5 rfl) rfl (by show 2 * 0 + _ ≤ _; exact Nat.le_of_eq rfl) (hb hby at_253) (fun _ _ => ⟨rfl, rfl, (by decide : 1 + 0 ≤ _), (by decide : 3 + 0 ≤ _)⟩)
            dsimp only [Pt.U, Pt.locs, Pt.cells, Pt.slots] at X266 l266 y266 z266 st266 hQ266
            subst l266 y266 z266
            obtain ⟨br_266, rfl, N266q, eh266, pr266_0⟩ := hQ266
            have N266 := Fr.app N226 N266q
            refine Goes.tr st266 ?_
            show Goes p e below s _ _ _ T266 (mkF m 256 #[.val (.int x0), .val (.long x1), .second, .val (.long x2), .second, .val (.long x3), .second, .val (.int (2 : Int32)), .val (.int (1 : Int32)), .val (.int (1 : Int32)), .val (.int (4 : Int32)), .val (.int (3 : Int32)), .val (.ref b201), .val (.int (4 : Int32)), .val (.long (x3 >>> ((1 : Int32) &&& 0x3f).toInt64)), .second, .val (.long (x2 + (x3 >>> ((1 : Int32) &&& 0x3f).toInt64))), .second, .unset, .unset, .unset, .unset, .unset, .unset, .unset] [(.long br_266)])
            refine own_lstore X266 hx 258 rfl #[.val (.int x0), .val (.long x1), .second, .val (.long x2), .second, .val (.long x3), .second, .val (.int (2 : Int32)), .val (.int (1 : Int32)), .val (.int (1 : Int32)), .val (.int (4 : Int32)), .val (.int (3 : Int32)), .val (.ref b201), .val (.int (4 : Int32)), .val (.long (x3 >>> ((1 : Int32) &&& 0x3f).toInt64)), .second, .val (.long (x2 + (x3 >>> ((1 : Int32) &&& 0x3f).toInt64))), .second, .val (.long br_266), .second, .unset, .unset, .unset, .unset, .unset] (hb hby at_256) rfl ?_
            refine own_iload X266 hx 260 rfl (hb hby at_258) rfl ?_
            refine own_ifY X266 hx 269 (hb hby at_260) ((if0 _ _).trans (feq ((by decide) : ¬ ((4 : Int32) = (0 : Int32)))).2) (by decide) (by decide) ?_
            refine own_iload X266 hx 271 rfl (hb hby at_269) rfl ?_
            refine own_iconst X266 hx 272 rfl (1 : Int32) (hb hby at_271) (by decide) ?_
            refine own_icmpN X266 hx 275 (hb hby at_272) (teq ((by decide) : (1 : Int32) = (1 : Int32))).2 rfl ?_
            refine own_iload X266 hx 277 rfl (hb hby at_275) rfl ?_
            refine own_goto X266 hx 285 (hb hby at_277) (by decide) (by decide) ?_
            refine own_istore X266 hx 287 rfl #[.val (.int x0), .val (.long x1), .second, .val (.long x2), .second, .val (.long x3), .second, .val (.int (2 : Int32)), .val (.int (1 : Int32)), .val (.int (1 : Int32)), .val (.int (4 : Int32)), .val (.int (3 : Int32)), .val (.ref b201), .val (.int (4 : Int32)), .val (.long (x3 >>> ((1 : Int32) &&& 0x3f).toInt64)), .second, .val (.long (x2 + (x3 >>> ((1 : Int32) &&& 0x3f).toInt64))), .second, .val (.long br_266), .second, .unset, .unset, .val (.int (2 : Int32)), .unset, .unset] (hb hby at_285) rfl ?_
            refine own_iload X266 hx 289 rfl (hb hby at_287) rfl ?_
            obtain ⟨_, _, ⟨T267, L267, k267, n267⟩, -, X267, ⟨Lc267, hQ267, l267, y267, z267⟩, st267⟩ := Jvm.LawKit.callS X266 hx (y := (⟨"com/example/pooler/pooler/pool/BackoffDelayPinLaw", "pauseMs", "(I)J"⟩ : MethodName)) hown (mvT hZ (hw _ (List.mem_of_getElem? (i := 48) rfl))) (mvT hZ (hw _ (List.mem_of_getElem? (i := 49) rfl))) (mvT hZ (hw _ (List.mem_of_getElem? (i := 18) rfl))) (mvT hZ (hw _ (List.mem_of_getElem? (i := 50) rfl))) (by decide) (backOf (W := 0) (rmpm2 l Z a0 hw []  T226.heap n0 Z226 ) hZ (hw _ (List.mem_of_getElem? (i := 50) rfl)) (hw _ (List.mem_of_getElem? (i := 18) rfl)) (by decide) (by decide)) (g := (mkF m 289 #[.val (.int x0), .val (.long x1), .second, .val (.long x2), .second, .val (.long x3), .second, .val (.int (2 : Int32)), .val (.int (1 : Int32)), .val (.int (1 : Int32)), .val (.int (4 : Int32)), .val (.int (3 : Int32)), .val (.ref b201), .val (.int (4 : Int32)), .val (.long (x3 >>> ((1 : Int32) &&& 0x3f).toInt64)), .second, .val (.long (x2 + (x3 >>> ((1 : Int32) &&& 0x3f).toInt64))), .second, .val (.long br_266), .second, .unset, .unset, .val (.int (2 : Int32)), .unset, .unset] [(.int (2 : Int32))])) rfl (by rw [hml]; rfl) (argsL := [(.int (2 : Int32))]) (rest := []) (lenOf own_pd6 rfl) rfl (by show 2 * 0 + _ ≤ _; exact Nat.le_of_eq rfl) (hb hby at_289) (fun _ _ => ⟨rfl, eh266, (by decide : 1 + 0 ≤ _), (by decide : 3 + 0 ≤ _)⟩)
            dsimp only [Pt.U, Pt.locs, Pt.cells, Pt.slots] at X267 l267 y267 z267 st267 hQ267
            subst l267 y267 z267
            obtain ⟨rfl, N267q, eh267⟩ := hQ267
            have N267 := Fr.app N266 N267q
            refine Goes.go st267 ?_
            show Goes p e below s _ _ _ T267 (mkF m 292 #[.val (.int x0), .val (.long x1), .second, .val (.long x2), .second, .val (.long x3), .second, .val (.int (2 : Int32)), .val (.int (1 : Int32)), .val (.int (1 : Int32)), .val (.int (4 : Int32)), .val (.int (3 : Int32)), .val (.ref b201), .val (.int (4 : Int32)), .val (.long (x3 >>> ((1 : Int32) &&& 0x3f).toInt64)), .second, .val (.long (x2 + (x3 >>> ((1 : Int32) &&& 0x3f).toInt64))), .second, .val (.long br_266), .second, .unset, .unset, .val (.int (2 : Int32)), .unset, .unset] [(.long (200 : Int64))])
            refine Goes.go (X267.ldc2Long hx hown (mvT hZ (hw _ (List.mem_of_getElem? (i := 52) rfl))) (g := (mkF m 292 #[.val (.int x0), .val (.long x1), .second, .val (.long x2), .second, .val (.long x3), .second, .val (.int (2 : Int32)), .val (.int (1 : Int32)), .val (.int (1 : Int32)), .val (.int (4 : Int32)), .val (.int (3 : Int32)), .val (.ref b201), .val (.int (4 : Int32)), .val (.long (x3 >>> ((1 : Int32) &&& 0x3f).toInt64)), .second, .val (.long (x2 + (x3 >>> ((1 : Int32) &&& 0x3f).toInt64))), .second, .val (.long br_266), .second, .unset, .unset, .val (.int (2 : Int32)), .unset, .unset] [(.long (200 : Int64))])) rfl (hb hby at_292)) ?_
            show Goes p e below s _ _ _ T267 (mkF m 295 #[.val (.int x0), .val (.long x1), .second, .val (.long x2), .second, .val (.long x3), .second, .val (.int (2 : Int32)), .val (.int (1 : Int32)), .val (.int (1 : Int32)), .val (.int (4 : Int32)), .val (.int (3 : Int32)), .val (.ref b201), .val (.int (4 : Int32)), .val (.long (x3 >>> ((1 : Int32) &&& 0x3f).toInt64)), .second, .val (.long (x2 + (x3 >>> ((1 : Int32) &&& 0x3f).toInt64))), .second, .val (.long br_266), .second, .unset, .unset, .val (.int (2 : Int32)), .unset, .unset] [(.long (1000000 : Int64)), (.long (200 : Int64))])
            refine own_lmul X267 hx 296 rfl (z := (200000000 : Int64)) (hb hby at_295) (by decide) ?_
            refine own_lstore X267 hx 298 rfl #[.val (.int x0), .val (.long x1), .second, .val (.long x2), .second, .val (.long x3), .second, .val (.int (2 : Int32)), .val (.int (1 : Int32)), .val (.int (1 : Int32)), .val (.int (4 : Int32)), .val (.int (3 : Int32)), .val (.ref b201), .val (.int (4 : Int32)), .val (.long (x3 >>> ((1 : Int32) &&& 0x3f).toInt64)), .second, .val (.long (x2 + (x3 >>> ((1 : Int32) &&& 0x3f).toInt64))), .second, .val (.long br_266), .second, .unset, .unset, .val (.int (2 : Int32)), .val (.long (200000000 : Int64)), .second] (hb hby at_296) rfl ?_
            refine own_lload X267 hx 300 rfl (hb hby at_298) rfl ?_
            refine own_lload X267 hx 302 rfl (hb hby at_300) rfl ?_
            refine own_lcmp X267 hx 303 rfl (hb hby at_302) ?_
            by_cases hc303_268 : (x3 >>> ((1 : Int32) &&& 0x3f).toInt64) < (200000000 : Int64)
            · refine own_ifY X267 hx 310 (hb hby at_303) (Ltlt hc303_268).1 (by decide) (by decide) ?_
              refine own_lload X267 hx 312 rfl (hb hby at_310) rfl ?_
              refine own_lload X267 hx 314 rfl (hb hby at_312) rfl ?_
              refine own_lsub X267 hx 315 rfl (hb hby at_314) rfl ?_
              refine own_lstore X267 hx 317 rfl #[.val (.int x0), .val (.long x1), .second, .val (.long x2), .second, .val (.long x3), .second, .val (.int (2 : Int32)), .val (.int (1 : Int32)), .val (.int (1 : Int32)), .val (.int (4 : Int32)), .val (.int (3 : Int32)), .val (.ref b201), .val (.int (4 : Int32)), .val (.long (x3 >>> ((1 : Int32) &&& 0x3f).toInt64)), .second, .val (.long (x2 + (x3 >>> ((1 : Int32) &&& 0x3f).toInt64))), .second, .val (.long br_266), .second, .val (.long ((200000000 : Int64) - (x3 >>> ((1 : Int32) &&& 0x3f).toInt64))), .second, .val (.int (2 : Int32)), .val (.long (200000000 : Int64)), .second] (hb hby at_315) rfl ?_
              refine own_lload X267 hx 319 rfl (hb hby at_317) rfl ?_
              refine own_lload X267 hx 321 rfl (hb hby at_319) rfl ?_
              refine own_lcmp X267 hx 322 rfl (hb hby at_321) ?_
              refine own_ifN X267 hx 325 (hb hby at_322) (Lteq ((own_fin har hdd (P := (200000000 : Int64)) (by decide) pr266_0).1 hc303_268 : br_266 = ((200000000 : Int64) - (x3 >>> ((1 : Int32) &&& 0x3f).toInt64)))).2 rfl ?_
              refine own_iconst X267 hx 326 rfl (1 : Int32) (hb hby at_325) (by decide) ?_
              refine own_goto X267 hx 330 (hb hby at_326) (by decide) (by decide) ?_
              refine own_retZ X267 hx hlk Bd.returns (by decide) (hb hby at_330) (by decide) (by decide) eh267 ?_
              exact ⟨rfl, N267⟩
            · refine own_ifN X267 hx 306 (hb hby at_303) (Lflt hc303_268).1 rfl ?_
              refine own_lconst X267 hx 307 rfl (0 : Int64) (hb hby at_306) (by decide) ?_
              refine own_goto X267 hx 315 (hb hby at_307) (by decide) (by decide) ?_
              refine own_lstore X267 hx 317 rfl #[.val (.int x0), .val (.long x1), .second, .val (.long x2), .second, .val (.long x3), .second, .val (.int (2 : Int32)), .val (.int (1 : Int32)), .val (.int (1 : Int32)), .val (.int (4 : Int32)), .val (.int (3 : Int32)), .val (.ref b201), .val (.int (4 : Int32)), .val (.long (x3 >>> ((1 : Int32) &&& 0x3f).toInt64)), .second, .val (.long (x2 + (x3 >>> ((1 : Int32) &&& 0x3f).toInt64))), .second, .val (.long br_266), .second, .val (.long (0 : Int64)), .second, .val (.int (2 : Int32)), .val (.long (200000000 : Int64)), .second] (hb hby at_315) rfl ?_
              refine own_lload X267 hx 319 rfl (hb hby at_317) rfl ?_
              refine own_lload X267 hx 321 rfl (hb hby at_319) rfl ?_
              refine own_lcmp X267 hx 322 rfl (hb hby at_321) ?_
              refine own_ifN X267 hx 325 (hb hby at_322) (Lteq ((own_fin har hdd (P := (200000000 : Int64)) (by decide) pr266_0).2 hc303_268 : br_266 = (0 : Int64))).2 rfl ?_
              refine own_iconst X267 hx 326 rfl (1 : Int32) (hb hby at_325) (by decide) ?_
              refine own_goto X267 hx 330 (hb hby at_326) (by decide) (by decide) ?_
              refine own_retZ X267 hx hlk Bd.returns (by decide) (hb hby at_330) (by decide) (by decide) eh267 ?_
              exact ⟨rfl, N267⟩
        · refine own_icmpY X220 hx 145 (hb hby at_125) (flt hc125_224).2.2.2 (by decide) (by decide) ?_
          refine own_iload X220 hx 147 rfl (hb hby at_145) rfl ?_
          refine own_iconst X220 hx 148 rfl (2 : Int32) (hb hby at_147) (by decide) ?_
          refine own_icmpY X220 hx 168 (hb hby at_148) (flt (own_down hc125_224 (by decide) : ¬ ((2 : Int32) < ff))).2.2.2 (by decide) (by decide) ?_
          refine own_iload X220 hx 170 rfl (hb hby at_168) rfl ?_
          refine own_iconst X220 hx 171 rfl (3 : Int32) (hb hby at_170) (by decide) ?_
          refine own_icmpY X220 hx 191 (hb hby at_171) (flt (own_down hc125_224 (by decide) : ¬ ((3 : Int32) < ff))).2.2.2 (by decide) (by decide) ?_
          refine own_iload X220 hx 193 rfl (hb hby at_191) rfl ?_
          refine own_iconst X220 hx 194 rfl (4 : Int32) (hb hby at_193) (by decide) ?_
          refine own_icmpY X220 hx 214 (hb hby at_194) (flt (own_down hc125_224 (by decide) : ¬ ((4 : Int32) < ff))).2.2.2 (by decide) (by decide) ?_
          refine own_iload X220 hx 216 rfl (hb hby at_214) rfl ?_
          refine own_iconst X220 hx 217 rfl (5 : Int32) (hb hby at_216) (by decide) ?_
          refine own_icmpY X220 hx 237 (hb hby at_217) (flt (own_down hc125_224 (by decide) : ¬ ((5 : Int32) < ff))).2.2.2 (by decide) (by decide) ?_
          have hfl := own_gt (k := 0) (by decide) hc102_218
          have hfh := own_le (k := 1) (by decide) hc125_224
          obtain rfl : ff = (1 : Int32) := own_pin (k := 1) (by decide) (by omega)
          obtain rfl : tot = (3 : Int32) := by rw [h_tot]; decide
          obtain rfl : lst = (2 : Int32) := by rw [h_lst]; decide
          have hdd := own_sh x3 _ rfl
          have har : ar_219 = x2 := own_atE pr219_0 (by decide)
          refine own_lload X220 hx 239 rfl (hb hby at_237) rfl ?_
          refine own_iconst X220 hx 240 rfl (1 : Int32) (hb hby at_239) (by decide) ?_
          refine own_lshr X220 hx 241 rfl (hb hby at_240) rfl ?_
          refine own_lstore X220 hx 243 rfl #[.val (.int x0), .val (.long x1), .second, .val (.long x2), .second, .val (.long x3), .second, .val (.int (1 : Int32)), .val (.int (1 : Int32)), .val (.int (1 : Int32)), .val (.int (3 : Int32)), .val (.int (2 : Int32)), .val (.ref b201), .val (.int (3 : Int32)), .val (.long (x3 >>> ((1 : Int32) &&& 0x3f).toInt64)), .second, .unset, .unset, .unset, .unset, .unset, .unset, .unset, .unset, .unset] (hb hby at_241) rfl ?_
          refine own_lloadN X220 hx 244 rfl (hb hby at_243) rfl ?_
          refine own_lload X220 hx 246 rfl (hb hby at_244) rfl ?_
          refine own_ladd X220 hx 247 rfl (hb hby at_246) rfl ?_
          refine own_lstore X220 hx 249 rfl #[.val (.int x0), .val (.long x1), .second, .val (.long x2), .second, .val (.long x3), .second, .val (.int (1 : Int32)), .val (.int (1 : Int32)), .val (.int (1 : Int32)), .val (.int (3 : Int32)), .val (.int (2 : Int32)), .val (.ref b201), .val (.int (3 : Int32)), .val (.long (x3 >>> ((1 : Int32) &&& 0x3f).toInt64)), .second, .val (.long (x2 + (x3 >>> ((1 : Int32) &&& 0x3f).toInt64))), .second, .unset, .unset, .unset, .unset, .unset, .unset, .unset] (hb hby at_247) rfl ?_
          refine own_aload X220 hx 251 rfl (hb hby at_249) rfl rfl ?_
          refine own_lload X220 hx 253 rfl (hb hby at_251) rfl ?_
          obtain ⟨cq269, kq269, q269a, q269b, q269c⟩ := isOf hZ rfl f223
          obtain ⟨_, _, ⟨T269, L269, k269, n269⟩, -, X269, ⟨Lc269, hQ269, l269, y269, z269⟩, st269⟩ := X220.virtualBack hx (y := (⟨"com/example/pooler/pooler/pool/Backoff", "delay", "(J)J"⟩ : MethodName)) (z := (⟨"com/example/pooler/pooler/pool/Backoff", "delay", "(J)J"⟩ : MethodName)) hown (mvT hZ (hw _ (List.mem_of_getElem? (i := 9) rfl))) (mvT hZ (hw _ (List.mem_of_getElem? (i := 10) rfl))) (notFace_of_selects (args := #[]) (mvT hZ (hw _ (List.mem_of_getElem? (i := 12) rfl)))) (mvT hZ (hw _ (List.mem_of_getElem? (i := 12) rfl))) (mvT hZ (hw _ (List.mem_of_getElem? (i := 11) rfl))) (by decide) (backOf (W := 0) (rmde1 l Z a0 hw [] b201 (x2 + (x3 >>> ((1 : Int32) &&& 0x3f).toInt64)) ar_219 T220.heap n0 Z220 f223 f221 f222 f220_0 f220_1 f220_2) hZ (hw _ (List.mem_of_getElem? (i := 13) rfl)) (hw _ (List.mem_of_getElem? (i := 2) rfl)) (by decide) (by decide)) q269a q269c (g := (mkF m 253 #[.val (.int x0), .val (.long x1), .second, .val (.long x2), .second, .val (.long x3), .second, .val (.int (1 : Int32)), .val (.int (1 : Int32)), .val (.int (1 : Int32)), .val (.int (3 : Int32)), .val (.int (2 : Int32)), .val (.ref b201), .val (.int (3 : Int32)), .val (.long (x3 >>> ((1 : Int32) &&& 0x3f).toInt64)), .second, .val (.long (x2 + (x3 >>> ((1 : Int32) &&& 0x3f).toInt64))), .second, .unset, .unset, .unset, .unset, .unset, .unset, .unset] [(.long (x2 + (x3 >>> ((1 : Int32) &&& 0x3f).toInt64))), (.ref b201)])) rfl (by rw [hml]; rfl) (Steps.refl _) (argsL := [(.long (x2 + (x3 >>> ((1 : Int32) &&& 0x3f).toInt64)))]) (rest := []) (lenOf own_pd5 rfl) rfl (by show 2 * 0 + _ ≤ _; exact Nat.le_of_eq rfl) (hb hby at_253) (fun _ _ => ⟨rfl, rfl, (by decide : 1 + 0 ≤ _), (by decide : 3 + 0 ≤ _)⟩)
          dsimp only [Pt.U, Pt.locs, Pt.cells, Pt.slots] at X269 l269 y269 z269 st269 hQ269
          subst l269 y269 z269
          obtain ⟨br_269, rfl, N269q, eh269, pr269_0⟩ := hQ269
          have N269 := Fr.app N220 N269q
          refine Goes.tr st269 ?_
          show Goes p e below s _ _ _ T269 (mkF m 256 #[.val (.int x0), .val (.long x1), .second, .val (.long x2), .second, .val (.long x3), .second, .val (.int (1 : Int32)), .val (.int (1 : Int32)), .val (.int (1 : Int32)), .val (.int (3 : Int32)), .val (.int (2 : Int32)), .val (.ref b201), .val (.int (3 : Int32)), .val (.long (x3 >>> ((1 : Int32) &&& 0x3f).toInt64)), .second, .val (.long (x2 + (x3 >>> ((1 : Int32) &&& 0x3f).toInt64))), .second, .unset, .unset, .unset, .unset, .unset, .unset, .unset] [(.long br_269)])
          refine own_lstore X269 hx 258 rfl #[.val (.int x0), .val (.long x1), .second, .val (.long x2), .second, .val (.long x3), .second, .val (.int (1 : Int32)), .val (.int (1 : Int32)), .val (.int (1 : Int32)), .val (.int (3 : Int32)), .val (.int (2 : Int32)), .val (.ref b201), .val (.int (3 : Int32)), .val (.long (x3 >>> ((1 : Int32) &&& 0x3f).toInt64)), .second, .val (.long (x2 + (x3 >>> ((1 : Int32) &&& 0x3f).toInt64))), .second, .val (.long br_269), .second, .unset, .unset, .unset, .unset, .unset] (hb hby at_256) rfl ?_
          refine own_iload X269 hx 260 rfl (hb hby at_258) rfl ?_
          refine own_ifY X269 hx 269 (hb hby at_260) ((if0 _ _).trans (feq ((by decide) : ¬ ((3 : Int32) = (0 : Int32)))).2) (by decide) (by decide) ?_
          refine own_iload X269 hx 271 rfl (hb hby at_269) rfl ?_
          refine own_iconst X269 hx 272 rfl (1 : Int32) (hb hby at_271) (by decide) ?_
          refine own_icmpN X269 hx 275 (hb hby at_272) (teq ((by decide) : (1 : Int32) = (1 : Int32))).2 rfl ?_
          refine own_iload X269 hx 277 rfl (hb hby at_275) rfl ?_
          refine own_goto X269 hx 285 (hb hby at_277) (by decide) (by decide) ?_
          refine own_istore X269 hx 287 rfl #[.val (.int x0), .val (.long x1), .second, .val (.long x2), .second, .val (.long x3), .second, .val (.int (1 : Int32)), .val (.int (1 : Int32)), .val (.int (1 : Int32)), .val (.int (3 : Int32)), .val (.int (2 : Int32)), .val (.ref b201), .val (.int (3 : Int32)), .val (.long (x3 >>> ((1 : Int32) &&& 0x3f).toInt64)), .second, .val (.long (x2 + (x3 >>> ((1 : Int32) &&& 0x3f).toInt64))), .second, .val (.long br_269), .second, .unset, .unset, .val (.int (1 : Int32)), .unset, .unset] (hb hby at_285) rfl ?_
          refine own_iload X269 hx 289 rfl (hb hby at_287) rfl ?_
          obtain ⟨_, _, ⟨T270, L270, k270, n270⟩, -, X270, ⟨Lc270, hQ270, l270, y270, z270⟩, st270⟩ := Jvm.LawKit.callS X269 hx (y := (⟨"com/example/pooler/pooler/pool/BackoffDelayPinLaw", "pauseMs", "(I)J"⟩ : MethodName)) hown (mvT hZ (hw _ (List.mem_of_getElem? (i := 48) rfl))) (mvT hZ (hw _ (List.mem_of_getElem? (i := 49) rfl))) (mvT hZ (hw _ (List.mem_of_getElem? (i := 18) rfl))) (mvT hZ (hw _ (List.mem_of_getElem? (i := 50) rfl))) (by decide) (backOf (W := 0) (rmpm1 l Z a0 hw []  T220.heap n0 Z220 ) hZ (hw _ (List.mem_of_getElem? (i := 50) rfl)) (hw _ (List.mem_of_getElem? (i := 18) rfl)) (by decide) (by decide)) (g := (mkF m 289 #[.val (.int x0), .val (.long x1), .second, .val (.long x2), .second, .val (.long x3), .second, .val (.int (1 : Int32)), .val (.int (1 : Int32)), .val (.int (1 : Int32)), .val (.int (3 : Int32)), .val (.int (2 : Int32)), .val (.ref b201), .val (.int (3 : Int32)), .val (.long (x3 >>> ((1 : Int32) &&& 0x3f).toInt64)), .second, .val (.long (x2 + (x3 >>> ((1 : Int32) &&& 0x3f).toInt64))), .second, .val (.long br_269), .second, .unset, .unset, .val (.int (1 : Int32)), .unset, .unset] [(.int (1 : Int32))])) rfl (by rw [hml]; rfl) (argsL := [(.int (1 : Int32))]) (rest := []) (lenOf own_pd6 rfl) rfl (by show 2 * 0 + _ ≤ _; exact Nat.le_of_eq rfl) (hb hby at_289) (fun _ _ => ⟨rfl, eh269, (by decide : 1 + 0 ≤ _), (by decide : 3 + 0 ≤ _)⟩)
          dsimp only [Pt.U, Pt.locs, Pt.cells, Pt.slots] at X270 l270 y270 z270 st270 hQ270
          subst l270 y270 z270
          obtain ⟨rfl, N270q, eh270⟩ := hQ270
          have N270 := Fr.app N269 N270q
          refine Goes.go st270 ?_
          show Goes p e below s _ _ _ T270 (mkF m 292 #[.val (.int x0), .val (.long x1), .second, .val (.long x2), .second, .val (.long x3), .second, .val (.int (1 : Int32)), .val (.int (1 : Int32)), .val (.int (1 : Int32)), .val (.int (3 : Int32)), .val (.int (2 : Int32)), .val (.ref b201), .val (.int (3 : Int32)), .val (.long (x3 >>> ((1 : Int32) &&& 0x3f).toInt64)), .second, .val (.long (x2 + (x3 >>> ((1 : Int32) &&& 0x3f).toInt64))), .second, .val (.long br_269), .second, .unset, .unset, .val (.int (1 : Int32)), .unset, .unset] [(.long (100 : Int64))])
          refine Goes.go (X270.ldc2Long hx hown (mvT hZ (hw _ (List.mem_of_getElem? (i := 52) rfl))) (g := (mkF m 292 #[.val (.int x0), .val (.long x1), .second, .val (.long x2), .second, .val (.long x3), .second, .val (.int (1 : Int32)), .val (.int (1 : Int32)), .val (.int (1 : Int32)), .val (.int (3 : Int32)), .val (.int (2 : Int32)), .val (.ref b201), .val (.int (3 : Int32)), .val (.long (x3 >>> ((1 : Int32) &&& 0x3f).toInt64)), .second, .val (.long (x2 + (x3 >>> ((1 : Int32) &&& 0x3f).toInt64))), .second, .val (.long br_269), .second, .unset, .unset, .val (.int (1 : Int32)), .unset, .unset] [(.long (100 : Int64))])) rfl (hb hby at_292)) ?_
          show Goes p e below s _ _ _ T270 (mkF m 295 #[.val (.int x0), .val (.long x1), .second, .val (.long x2), .second, .val (.long x3), .second, .val (.int (1 : Int32)), .val (.int (1 : Int32)), .val (.int (1 : Int32)), .val (.int (3 : Int32)), .val (.int (2 : Int32)), .val (.ref b201), .val (.int (3 : Int32)), .val (.long (x3 >>> ((1 : Int32) &&& 0x3f).toInt64)), .second, .val (.long (x2 + (x3 >>> ((1 : Int32) &&& 0x3f).toInt64))), .second, .val (.long br_269), .second, .unset, .unset, .val (.int (1 : Int32)), .unset, .unset] [(.long (1000000 : Int64)), (.long (100 : Int64))])
          refine own_lmul X270 hx 296 rfl (z := (100000000 : Int64)) (hb hby at_295) (by decide) ?_
          refine own_lstore X270 hx 298 rfl #[.val (.int x0), .val (.long x1), .second, .val (.long x2), .second, .val (.long x3), .second, .val (.int (1 : Int32)), .val (.int (1 : Int32)), .val (.int (1 : Int32)), .val (.int (3 : Int32)), .val (.int (2 : Int32)), .val (.ref b201), .val (.int (3 : Int32)), .val (.long (x3 >>> ((1 : Int32) &&& 0x3f).toInt64)), .second, .val (.long (x2 + (x3 >>> ((1 : Int32) &&& 0x3f).toInt64))), .second, .val (.long br_269), .second, .unset, .unset, .val (.int (1 : Int32)), .val (.long (100000000 : Int64)), .second] (hb hby at_296) rfl ?_
          refine own_lload X270 hx 300 rfl (hb hby at_298) rfl ?_
          refine own_lload X270 hx 302 rfl (hb hby at_300) rfl ?_
          refine own_lcmp X270 hx 303 rfl (hb hby at_302) ?_
          by_cases hc303_271 : (x3 >>> ((1 : Int32) &&& 0x3f).toInt64) < (100000000 : Int64)
          · refine own_ifY X270 hx 310 (hb hby at_303) (Ltlt hc303_271).1 (by decide) (by decide) ?_
            refine own_lload X270 hx 312 rfl (hb hby at_310) rfl ?_
            refine own_lload X270 hx 314 rfl (hb hby at_312) rfl ?_
            refine own_lsub X270 hx 315 rfl (hb hby at_314) rfl ?_
            refine own_lstore X270 hx 317 rfl #[.val (.int x0), .val (.long x1), .second, .val (.long x2), .second, .val (.long x3), .second, .val (.int (1 : Int32)), .val (.int (1 : Int32)), .val (.int (1 : Int32)), .val (.int (3 : Int32)), .val (.int (2 : Int32)), .val (.ref b201), .val (.int (3 : Int32)), .val (.long (x3 >>> ((1 : Int32) &&& 0x3f).toInt64)), .second, .val (.long (x2 + (x3 >>> ((1 : Int32) &&& 0x3f).toInt64))), .second, .val (.long br_269), .second, .val (.long ((100000000 : Int64) - (x3 >>> ((1 : Int32) &&& 0x3f).toInt64))), .second, .val (.int (1 : Int32)), .val (.long (100000000 : Int64)), .second] (hb hby at_315) rfl ?_
            refine own_lload X270 hx 319 rfl (hb hby at_317) rfl ?_
            refine own_lload X270 hx 321 rfl (hb hby at_319) rfl ?_
            refine own_lcmp X270 hx 322 rfl (hb hby at_321) ?_
            refine own_ifN X270 hx 325 (hb hby at_322) (Lteq ((own_fin har hdd (P := (100000000 : Int64)) (by decide) pr269_0).1 hc303_271 : br_269 = ((100000000 : Int64) - (x3 >>> ((1 : Int32) &&& 0x3f).toInt64)))).2 rfl ?_
            refine own_iconst X270 hx 326 rfl (1 : Int32) (hb hby at_325) (by decide) ?_
            refine own_goto X270 hx 330 (hb hby at_326) (by decide) (by decide) ?_
            refine own_retZ X270 hx hlk Bd.returns (by decide) (hb hby at_330) (by decide) (by decide) eh270 ?_
            exact ⟨rfl, N270⟩
          · refine own_ifN X270 hx 306 (hb hby at_303) (Lflt hc303_271).1 rfl ?_
            refine own_lconst X270 hx 307 rfl (0 : Int64) (hb hby at_306) (by decide) ?_
            refine own_goto X270 hx 315 (hb hby at_307) (by decide) (by decide) ?_
            refine own_lstore X270 hx 317 rfl #[.val (.int x0), .val (.long x1), .second, .val (.long x2), .second, .val (.long x3), .second, .val (.int (1 : Int32)), .val (.int (1 : Int32)), .val (.int (1 : Int32)), .val (.int (3 : Int32)), .val (.int (2 : Int32)), .val (.ref b201), .val (.int (3 : Int32)), .val (.long (x3 >>> ((1 : Int32) &&& 0x3f).toInt64)), .second, .val (.long (x2 + (x3 >>> ((1 : Int32) &&& 0x3f).toInt64))), .second, .val (.long br_269), .second, .val (.long (0 : Int64)), .second, .val (.int (1 : Int32)), .val (.long (100000000 : Int64)), .second] (hb hby at_315) rfl ?_
            refine own_lload X270 hx 319 rfl (hb hby at_317) rfl ?_
            refine own_lload X270 hx 321 rfl (hb hby at_319) rfl ?_
            refine own_lcmp X270 hx 322 rfl (hb hby at_321) ?_
            refine own_ifN X270 hx 325 (hb hby at_322) (Lteq ((own_fin har hdd (P := (100000000 : Int64)) (by decide) pr269_0).2 hc303_271 : br_269 = (0 : Int64))).2 rfl ?_
            refine own_iconst X270 hx 326 rfl (1 : Int32) (hb hby at_325) (by decide) ?_
            refine own_goto X270 hx 330 (hb hby at_326) (by decide) (by decide) ?_
            refine own_retZ X270 hx hlk Bd.returns (by decide) (hb hby at_330) (by decide) (by decide) eh270 ?_
            exact ⟨rfl, N270⟩
      · refine own_ifY X214 hx 122 (hb hby at_102) ((if0 _ _).trans (flt hc102_218).2.2.2) (by decide) (by decide) ?_
        refine own_iload X214 hx 124 rfl (hb hby at_122) rfl ?_
        refine own_iconst X214 hx 125 rfl (1 : Int32) (hb hby at_124) (by decide) ?_
        refine own_icmpY X214 hx 145 (hb hby at_125) (flt (own_down hc102_218 (by decide) : ¬ ((1 : Int32) < ff))).2.2.2 (by decide) (by decide) ?_
        refine own_iload X214 hx 147 rfl (hb hby at_145) rfl ?_
        refine own_iconst X214 hx 148 rfl (2 : Int32) (hb hby at_147) (by decide) ?_
        refine own_icmpY X214 hx 168 (hb hby at_148) (flt (own_down hc102_218 (by decide) : ¬ ((2 : Int32) < ff))).2.2.2 (by decide) (by decide) ?_
        refine own_iload X214 hx 170 rfl (hb hby at_168) rfl ?_
        refine own_iconst X214 hx 171 rfl (3 : Int32) (hb hby at_170) (by decide) ?_
        refine own_icmpY X214 hx 191 (hb hby at_171) (flt (own_down hc102_218 (by decide) : ¬ ((3 : Int32) < ff))).2.2.2 (by decide) (by decide) ?_
        refine own_iload X214 hx 193 rfl (hb hby at_191) rfl ?_
        refine own_iconst X214 hx 194 rfl (4 : Int32) (hb hby at_193) (by decide) ?_
        refine own_icmpY X214 hx 214 (hb hby at_194) (flt (own_down hc102_218 (by decide) : ¬ ((4 : Int32) < ff))).2.2.2 (by decide) (by decide) ?_
        refine own_iload X214 hx 216 rfl (hb hby at_214) rfl ?_
        refine own_iconst X214 hx 217 rfl (5 : Int32) (hb hby at_216) (by decide) ?_
        refine own_icmpY X214 hx 237 (hb hby at_217) (flt (own_down hc102_218 (by decide) : ¬ ((5 : Int32) < ff))).2.2.2 (by decide) (by decide) ?_
        have hfl := hff.1
        have hfh := own_le (k := 0) (by decide) hc102_218
        obtain rfl : ff = (0 : Int32) := own_pin (k := 0) (by decide) (by omega)
        obtain rfl : tot = (2 : Int32) := by rw [h_tot]; decide
        obtain rfl : lst = (1 : Int32) := by rw [h_lst]; decide
        have hdd := own_sh x3 _ rfl
        have har : ar_213 = x2 := own_atE pr213_0 (by decide)
        refine own_lload X214 hx 239 rfl (hb hby at_237) rfl ?_
        refine own_iconst X214 hx 240 rfl (1 : Int32) (hb hby at_239) (by decide) ?_
        refine own_lshr X214 hx 241 rfl (hb hby at_240) rfl ?_
        refine own_lstore X214 hx 243 rfl #[.val (.int x0), .val (.long x1), .second, .val (.long x2), .second, .val (.long x3), .second, .val (.int (0 : Int32)), .val (.int (1 : Int32)), .val (.int (1 : Int32)), .val (.int (2 : Int32)), .val (.int (1 : Int32)), .val (.ref b201), .val (.int (2 : Int32)), .val (.long (x3 >>> ((1 : Int32) &&& 0x3f).toInt64)), .second, .unset, .unset, .unset, .unset, .unset, .unset, .unset, .unset, .unset] (hb hby at_241) rfl ?_
        refine own_lloadN X214 hx 244 rfl (hb hby at_243) rfl ?_
        refine own_lload X214 hx 246 rfl (hb hby at_244) rfl ?_
        refine own_ladd X214 hx 247 rfl (hb hby at_246) rfl ?_
        refine own_lstore X214 hx 249 rfl #[.val (.int x0), .val (.long x1), .second, .val (.long x2), .second, .val (.long x3), .second, .val (.int (0 : Int32)), .val (.int (1 : Int32)), .val (.int (1 : Int32)), .val (.int (2 : Int32)), .val (.int (1 : Int32)), .val (.ref b201), .val (.int (2 : Int32)), .val (.long (x3 >>> ((1 : Int32) &&& 0x3f).toInt64)), .second, .val (.long (x2 + (x3 >>> ((1 : Int32) &&& 0x3f).toInt64))), .second, .unset, .unset, .unset, .unset, .unset, .unset, .unset] (hb hby at_247) rfl ?_
        refine own_aload X214 hx 251 rfl (hb hby at_249) rfl rfl ?_
        refine own_lload X214 hx 253 rfl (hb hby at_251) rfl ?_
        obtain ⟨cq272, kq272, q272a, q272b, q272c⟩ := isOf hZ rfl f217
        obtain ⟨_, _, ⟨T272, L272, k272, n272⟩, -, X272, ⟨Lc272, hQ272, l272, y272, z272⟩, st272⟩ := X214.virtualBack hx (y := (⟨"com/example/pooler/pooler/pool/Backoff", "delay", "(J)J"⟩ : MethodName)) (z := (⟨"com/example/pooler/pooler/pool/Backoff", "delay", "(J)J"⟩ : MethodName)) hown (mvT hZ (hw _ (List.mem_of_getElem? (i := 9) rfl))) (mvT hZ (hw _ (List.mem_of_getElem? (i := 10) rfl))) (notFace_of_selects (args := #[]) (mvT hZ (hw _ (List.mem_of_getElem? (i := 12) rfl)))) (mvT hZ (hw _ (List.mem_of_getElem? (i := 12) rfl))) (mvT hZ (hw _ (List.mem_of_getElem? (i := 11) rfl))) (by decide) (backOf (W := 0) (rmde0 l Z a0 hw [] b201 (x2 + (x3 >>> ((1 : Int32) &&& 0x3f).toInt64)) ar_213 T214.heap n0 Z214 f217 f215 f216 f214_0 f214_1 f214_2) hZ (hw _ (List.mem_of_getElem? (i := 13) rfl)) (hw _ (List.mem_of_getElem? (i := 2) rfl)) (by decide) (by decide)) q272a q272c (g := (mkF m 253 #[.val (.int x0), .val (.long x1), .second, .val (.long x2), .second, .val (.long x3), .second, .val (.int (0 : Int32)), .val (.int (1 : Int32)), .val (.int (1 : Int32)), .val (.int (2 : Int32)), .val (.int (1 : Int32)), .val (.ref b201), .val (.int (2 : Int32)), .val (.long (x3 >>> ((1 : Int32) &&& 0x3f).toInt64)), .second, .val (.long (x2 + (x3 >>> ((1 : Int32) &&& 0x3f).toInt64))), .second, .unset, .unset, .unset, .unset, .unset, .unset, .unset] [(.long (x2 + (x3 >>> ((1 : Int32) &&& 0x3f).toInt64))), (.ref b201)])) rfl (by rw [hml]; rfl) (Steps.refl _) (argsL := [(.long (x2 + (x3 >>> ((1 : Int32) &&& 0x3f).toInt64)))]) (rest := []) (lenOf own_pd5 rfl) rfl (by show 2 * 0 + _ ≤ _; exact Nat.le_of_eq rfl) (hb hby at_253) (fun _ _ => ⟨rfl, rfl, (by decide : 1 + 0 ≤ _), (by decide : 3 + 0 ≤ _)⟩)
        dsimp only [Pt.U, Pt.locs, Pt.cells, Pt.slots] at X272 l272 y272 z272 st272 hQ272
        subst l272 y272 z272
        obtain ⟨br_272, rfl, N272q, eh272, pr272_0⟩ := hQ272
        have N272 := Fr.app N214 N272q
        refine Goes.tr st272 ?_
        show Goes p e below s _ _ _ T272 (mkF m 256 #[.val (.int x0), .val (.long x1), .second, .val (.long x2), .second, .val (.long x3), .second, .val (.int (0 : Int32)), .val (.int (1 : Int32)), .val (.int (1 : Int32)), .val (.int (2 : Int32)), .val (.int (1 : Int32)), .val (.ref b201), .val (.int (2 : Int32)), .val (.long (x3 >>> ((1 : Int32) &&& 0x3f).toInt64)), .second, .val (.long (x2 + (x3 >>> ((1 : Int32) &&& 0x3f).toInt64))), .second, .unset, .unset, .unset, .unset, .unset, .unset, .unset] [(.long br_272)])
        refine own_lstore X272 hx 258 rfl #[.val (.int x0), .val (.long x1), .second, .val (.long x2), .second, .val (.long x3), .second, .val (.int (0 : Int32)), .val (.int (1 : Int32)), .val (.int (1 : Int32)), .val (.int (2 : Int32)), .val (.int (1 : Int32)), .val (.ref b201), .val (.int (2 : Int32)), .val (.long (x3 >>> ((1 : Int32) &&& 0x3f).toInt64)), .second, .val (.long (x2 + (x3 >>> ((1 : Int32) &&& 0x3f).toInt64))), .second, .val (.long br_272), .second, .unset, .unset, .unset, .unset, .unset] (hb hby at_256) rfl ?_
        refine own_iload X272 hx 260 rfl (hb hby at_258) rfl ?_
        refine own_ifY X272 hx 269 (hb hby at_260) ((if0 _ _).trans (feq ((by decide) : ¬ ((2 : Int32) = (0 : Int32)))).2) (by decide) (by decide) ?_
        refine own_iload X272 hx 271 rfl (hb hby at_269) rfl ?_
        refine own_iconst X272 hx 272 rfl (1 : Int32) (hb hby at_271) (by decide) ?_
        refine own_icmpN X272 hx 275 (hb hby at_272) (teq ((by decide) : (1 : Int32) = (1 : Int32))).2 rfl ?_
        refine own_iload X272 hx 277 rfl (hb hby at_275) rfl ?_
        refine own_goto X272 hx 285 (hb hby at_277) (by decide) (by decide) ?_
        refine own_istore X272 hx 287 rfl #[.val (.int x0), .val (.long x1), .second, .val (.long x2), .second, .val (.long x3), .second, .val (.int (0 : Int32)), .val (.int (1 : Int32)), .val (.int (1 : Int32)), .val (.int (2 : Int32)), .val (.int (1 : Int32)), .val (.ref b201), .val (.int (2 : Int32)), .val (.long (x3 >>> ((1 : Int32) &&& 0x3f).toInt64)), .second, .val (.long (x2 + (x3 >>> ((1 : Int32) &&& 0x3f).toInt64))), .second, .val (.long br_272), .second, .unset, .unset, .val (.int (0 : Int32)), .unset, .unset] (hb hby at_285) rfl ?_
        refine own_iload X272 hx 289 rfl (hb hby at_287) rfl ?_
        obtain ⟨_, _, ⟨T273, L273, k273, n273⟩, -, X273, ⟨Lc273, hQ273, l273, y273, z273⟩, st273⟩ := Jvm.LawKit.callS X272 hx (y := (⟨"com/example/pooler/pooler/pool/BackoffDelayPinLaw", "pauseMs", "(I)J"⟩ : MethodName)) hown (mvT hZ (hw _ (List.mem_of_getElem? (i := 48) rfl))) (mvT hZ (hw _ (List.mem_of_getElem? (i := 49) rfl))) (mvT hZ (hw _ (List.mem_of_getElem? (i := 18) rfl))) (mvT hZ (hw _ (List.mem_of_getElem? (i := 50) rfl))) (by decide) (backOf (W := 0) (rmpm0 l Z a0 hw []  T214.heap n0 Z214 ) hZ (hw _ (List.mem_of_getElem? (i := 50) rfl)) (hw _ (List.mem_of_getElem? (i := 18) rfl)) (by decide) (by decide)) (g := (mkF m 289 #[.val (.int x0), .val (.long x1), .second, .val (.long x2), .second, .val (.long x3), .second, .val (.int (0 : Int32)), .val (.int (1 : Int32)), .val (.int (1 : Int32)), .val (.int (2 : Int32)), .val (.int (1 : Int32)), .val (.ref b201), .val (.int (2 : Int32)), .val (.long (x3 >>> ((1 : Int32) &&& 0x3f).toInt64)), .second, .val (.long (x2 + (x3 >>> ((1 : Int32) &&& 0x3f).toInt64))), .second, .val (.long br_272), .second, .unset, .unset, .val (.int (0 : Int32)), .unset, .unset] [(.int (0 : Int32))])) rfl (by rw [hml]; rfl) (argsL := [(.int (0 : Int32))]) (rest := []) (lenOf own_pd6 rfl) rfl (by show 2 * 0 + _ ≤ _; exact Nat.le_of_eq rfl) (hb hby at_289) (fun _ _ => ⟨rfl, eh272, (by decide : 1 + 0 ≤ _), (by decide : 3 + 0 ≤ _)⟩)
        dsimp only [Pt.U, Pt.locs, Pt.cells, Pt.slots] at X273 l273 y273 z273 st273 hQ273
        subst l273 y273 z273
        obtain ⟨rfl, N273q, eh273⟩ := hQ273
        have N273 := Fr.app N272 N273q
        refine Goes.go st273 ?_
        show Goes p e below s _ _ _ T273 (mkF m 292 #[.val (.int x0), .val (.long x1), .second, .val (.long x2), .second, .val (.long x3), .second, .val (.int (0 : Int32)), .val (.int (1 : Int32)), .val (.int (1 : Int32)), .val (.int (2 : Int32)), .val (.int (1 : Int32)), .val (.ref b201), .val (.int (2 : Int32)), .val (.long (x3 >>> ((1 : Int32) &&& 0x3f).toInt64)), .second, .val (.long (x2 + (x3 >>> ((1 : Int32) &&& 0x3f).toInt64))), .second, .val (.long br_272), .second, .unset, .unset, .val (.int (0 : Int32)), .unset, .unset] [(.long (100 : Int64))])
        refine Goes.go (X273.ldc2Long hx hown (mvT hZ (hw _ (List.mem_of_getElem? (i := 52) rfl))) (g := (mkF m 292 #[.val (.int x0), .val (.long x1), .second, .val (.long x2), .second, .val (.long x3), .second, .val (.int (0 : Int32)), .val (.int (1 : Int32)), .val (.int (1 : Int32)), .val (.int (2 : Int32)), .val (.int (1 : Int32)), .val (.ref b201), .val (.int (2 : Int32)), .val (.long (x3 >>> ((1 : Int32) &&& 0x3f).toInt64)), .second, .val (.long (x2 + (x3 >>> ((1 : Int32) &&& 0x3f).toInt64))), .second, .val (.long br_272), .second, .unset, .unset, .val (.int (0 : Int32)), .unset, .unset] [(.long (100 : Int64))])) rfl (hb hby at_292)) ?_
        show Goes p e below s _ _ _ T273 (mkF m 295 #[.val (.int x0), .val (.long x1), .second, .val (.long x2), .second, .val (.long x3), .second, .val (.int (0 : Int32)), .val (.int (1 : Int32)), .val (.int (1 : Int32)), .val (.int (2 : Int32)), .val (.int (1 : Int32)), .val (.ref b201), .val (.int (2 : Int32)), .val (.long (x3 >>> ((1 : Int32) &&& 0x3f).toInt64)), .second, .val (.long (x2 + (x3 >>> ((1 : Int32) &&& 0x3f).toInt64))), .second, .val (.long br_272), .second, .unset, .unset, .val (.int (0 : Int32)), .unset, .unset] [(.long (1000000 : Int64)), (.long (100 : Int64))])
        refine own_lmul X273 hx 296 rfl (z := (100000000 : Int64)) (hb hby at_295) (by decide) ?_
        refine own_lstore X273 hx 298 rfl #[.val (.int x0), .val (.long x1), .second, .val (.long x2), .second, .val (.long x3), .second, .val (.int (0 : Int32)), .val (.int (1 : Int32)), .val (.int (1 : Int32)), .val (.int (2 : Int32)), .val (.int (1 : Int32)), .val (.ref b201), .val (.int (2 : Int32)), .val (.long (x3 >>> ((1 : Int32) &&& 0x3f).toInt64)), .second, .val (.long (x2 + (x3 >>> ((1 : Int32) &&& 0x3f).toInt64))), .second, .val (.long br_272), .second, .unset, .unset, .val (.int (0 : Int32)), .val (.long (100000000 : Int64)), .second] (hb hby at_296) rfl ?_
        refine own_lload X273 hx 300 rfl (hb hby at_298) rfl ?_
        refine own_lload X273 hx 302 rfl (hb hby at_300) rfl ?_
        refine own_lcmp X273 hx 303 rfl (hb hby at_302) ?_
        by_cases hc303_274 : (x3 >>> ((1 : Int32) &&& 0x3f).toInt64) < (100000000 : Int64)
        · refine own_ifY X273 hx 310 (hb hby at_303) (Ltlt hc303_274).1 (by decide) (by decide) ?_
          refine own_lload X273 hx 312 rfl (hb hby at_310) rfl ?_
          refine own_lload X273 hx 314 rfl (hb hby at_312) rfl ?_
          refine own_lsub X273 hx 315 rfl (hb hby at_314) rfl ?_
          refine own_lstore X273 hx 317 rfl #[.val (.int x0), .val (.long x1), .second, .val (.long x2), .second, .val (.long x3), .second, .val (.int (0 : Int32)), .val (.int (1 : Int32)), .val (.int (1 : Int32)), .val (.int (2 : Int32)), .val (.int (1 : Int32)), .val (.ref b201), .val (.int (2 : Int32)), .val (.long (x3 >>> ((1 : Int32) &&& 0x3f).toInt64)), .second, .val (.long (x2 + (x3 >>> ((1 : Int32) &&& 0x3f).toInt64))), .second, .val (.long br_272), .second, .val (.long ((100000000 : Int64) - (x3 >>> ((1 : Int32) &&& 0x3f).toInt64))), .second, .val (.int (0 : Int32)), .val (.long (100000000 : Int64)), .second] (hb hby at_315) rfl ?_
          refine own_lload X273 hx 319 rfl (hb hby at_317) rfl ?_
          refine own_lload X273 hx 321 rfl (hb hby at_319) rfl ?_
          refine own_lcmp X273 hx 322 rfl (hb hby at_321) ?_
          refine own_ifN X273 hx 325 (hb hby at_322) (Lteq ((own_fin har hdd (P := (100000000 : Int64)) (by decide) pr272_0).1 hc303_274 : br_272 = ((100000000 : Int64) - (x3 >>> ((1 : Int32) &&& 0x3f).toInt64)))).2 rfl ?_
          refine own_iconst X273 hx 326 rfl (1 : Int32) (hb hby at_325) (by decide) ?_
          refine own_goto X273 hx 330 (hb hby at_326) (by decide) (by decide) ?_
          refine own_retZ X273 hx hlk Bd.returns (by decide) (hb hby at_330) (by decide) (by decide) eh273 ?_
          exact ⟨rfl, N273⟩
        · refine own_ifN X273 hx 306 (hb hby at_303) (Lflt hc303_274).1 rfl ?_
          refine own_lconst X273 hx 307 rfl (0 : Int64) (hb hby at_306) (by decide) ?_
          refine own_goto X273 hx 315 (hb hby at_307) (by decide) (by decide) ?_
          refine own_lstore X273 hx 317 rfl #[.val (.int x0), .val (.long x1), .second, .val (.long x2), .second, .val (.long x3), .second, .val (.int (0 : Int32)), .val (.int (1 : Int32)), .val (.int (1 : Int32)), .val (.int (2 : Int32)), .val (.int (1 : Int32)), .val (.ref b201), .val (.int (2 : Int32)), .val (.long (x3 >>> ((1 : Int32) &&& 0x3f).toInt64)), .second, .val (.long (x2 + (x3 >>> ((1 : Int32) &&& 0x3f).toInt64))), .second, .val (.long br_272), .second, .val (.long (0 : Int64)), .second, .val (.int (0 : Int32)), .val (.long (100000000 : Int64)), .second] (hb hby at_315) rfl ?_
          refine own_lload X273 hx 319 rfl (hb hby at_317) rfl ?_
          refine own_lload X273 hx 321 rfl (hb hby at_319) rfl ?_
          refine own_lcmp X273 hx 322 rfl (hb hby at_321) ?_
          refine own_ifN X273 hx 325 (hb hby at_322) (Lteq ((own_fin har hdd (P := (100000000 : Int64)) (by decide) pr272_0).2 hc303_274 : br_272 = (0 : Int64))).2 rfl ?_
          refine own_iconst X273 hx 326 rfl (1 : Int32) (hb hby at_325) (by decide) ?_
          refine own_goto X273 hx 330 (hb hby at_326) (by decide) (by decide) ?_
          refine own_retZ X273 hx hlk Bd.returns (by decide) (hb hby at_330) (by decide) (by decide) eh273 ?_
          exact ⟨rfl, N273⟩
set_option maxRecDepth 65536 in
set_option maxHeartbeats 40000000 in
theorem comes_1 {Post : Tables → Env → Array Value → State → Outcome → State → Prop} (hpost : ∀ tb e args s v u, (limb_1_1.after args s (.returned v) u = true ∧ limb_1_2.after args s (.returned v) u = true ∧ True) → FrameEnd s (.returned v) u (Jvm.fieldLocs frame_1_writes args s ++ Jvm.arrayLocs frame_1_arrays args s ++ Jvm.staticLocs frame_1_statics s) 16 128 → Post tb e args s (.returned v) u) :
    ArmFor flags0 classFile x code maxLocals ret World_1 tables_1 room_1 Calls_1 rest_1 Pre_1 Post := by
  intro l hfl _ _ p e ha hc hk s m args below hf hA hF happ hP
  obtain ⟨hcalls, hrest, hpre⟩ := hP
  obtain ⟨-, -, -, hnamed, -, -, -, hat⟩ := (Spec.applies_iff hf).mp happ
  obtain ⟨hg, hn⟩ := and_e (Cond.before_iff.mp (show (Jvm.Cond.and given_1 narrow_1).before args s = true from hpre))
  obtain ⟨gg1, gg2⟩ := and_e hg
  obtain ⟨gg3, gg4⟩ := and_e gg2
  obtain ⟨gg5, gg6⟩ := and_e gg4
  obtain ⟨gg7, gg8⟩ := and_e gg6
  obtain ⟨w0, w1, w2, w3, rfl⟩ : ∃ w0 w1 w2 w3 : Value, args = #[w0, w1, w2, w3] := by
    have hs : args.size = 4 := by simpa [Cond.value, given_1] using gg1
    obtain ⟨L⟩ := args
    match L, hs with
    | [w0, w1, w2, w3], _ => exact ⟨w0, w1, w2, w3, rfl⟩
  have hw := fun d (hd : d ∈ tables_1) => atoms_spec (ws := Jvm.Cond.code x code maxLocals ret :: tables_1) hat d (List.mem_cons_of_mem _ hd)
  have hfit : Fit s := fun {y c} hc i hi => by
    obtain ⟨ha, rfl⟩ := Array.getElem?_eq_some_iff.mp hc
    have q := List.all_eq_true.mp ((Array.all_eq_true_iff_forall_mem.mp hF) _ (Array.getElem_mem ha)) i (List.mem_range.mpr hi)
    simpa [Array.getElem?_eq_getElem hi] using q
  obtain ⟨i0, ei0⟩ := is_v gg3
  obtain rfl : w0 = (.int i0) := Option.some.inj ei0
  obtain ⟨i1, ei1⟩ := isL_v gg5
  obtain rfl : w1 = (.long i1) := Option.some.inj ei1
  obtain ⟨i2, ei2⟩ := isL_v gg7
  obtain rfl : w2 = (.long i2) := Option.some.inj ei2
  obtain ⟨i3, ei3⟩ := isL_v gg8
  obtain rfl : w3 = (.long i3) := Option.some.inj ei3
  obtain ⟨nn1, nn2⟩ := and_e hn
  have S_y_SHORTEST := Sta.start (own_eqv (long_at _) nn1) (Or.inr ⟨(hw _ (List.mem_of_getElem? (i := 2) rfl)), (hw _ (List.mem_of_getElem? (i := 38) rfl))⟩)
  have S_y_LONGEST := Sta.start (own_eqv (long_at _) nn2) (Or.inr ⟨(hw _ (List.mem_of_getElem? (i := 2) rfl)), (hw _ (List.mem_of_getElem? (i := 40) rfl))⟩)
  obtain ⟨n, o, h1, h2, h3, _, L, rfl, ⟨rfl, N⟩, hq⟩ := rm0 l s _ hw tables_1 i0 i1 i2 i3  s.heap s.heap.size (Nat.le_refl _) S_y_SHORTEST S_y_LONGEST p e ha hc hk s m _ below hf ((Spec.applies_iff_loose hf).mp happ).1 ⟨rfl, State.Warmed39.refl s, rfl⟩ trivial
  refine ⟨n, _, h1, h2, h3, hpost _ _ _ _ _ _ ⟨Cond.after_iff.mpr rfl, Cond.after_iff.mpr (eq_i res_at (Term.int_eval (1)) rfl), trivial⟩ ⟨hq.1, hq.2.1, (hq.2.2.sift fun y hy => Or.inr (N y hy)).mono (by decide) (by decide)⟩⟩
theorem main_1_1 : Claimed_1_1 := comes_1 fun _ _ _ _ _ _ h hF => ⟨h.1, hF⟩
theorem main_1_2 : Claimed_1_2 := comes_1 fun _ _ _ _ _ _ h hF => ⟨h.2.1, hF⟩
end Jvm.Pilot.@@N@@
namespace Jvm.Pilot.@@N@@
open Jvm Jvm.ClassFile Sem Op Lib Jvm.Free Jvm.Stand Jvm.Pilot.@@N@@.Jvm.D
/-! MADE BY PROGRAM (witnessworld.py) out of the Statement's table words and the real class files: 10 classes; the members and pool entries that the words name. The judged class is class 1, her method 3. -/
namespace start1
open Jvm.ClassFile
def u (s : String) : CpInfo := .utf8 (stringToUtf16 s)
/-- a pool by its gaps: so many unusable entries, then the entry; so many at the end -/
def gap : Nat → List CpInfo → List CpInfo
  | 0, r => r
  | n + 1, r => .unusable :: gap n r
def poolList (es : List (Nat × CpInfo)) (last : Nat) : List CpInfo := es.foldr (fun e r => gap e.1 (e.2 :: r)) (gap last [])
def pool (es : List (Nat × CpInfo)) (last : Nat) : Array CpInfo := ⟨poolList es last⟩
def fileOf (pool : Array CpInfo) (this : Nat) (attrs : Array Attribute := #[]) (ms : Array MethodInfo := #[]) (fl : Nat := 33) (sup : Nat := 0) (ifs : Array Nat := #[]) (fds : Array FieldInfo := #[]) : ClassFile where
  minorVersion := 0
  majorVersion := 65
  constantPool := pool
  accessFlags := fl
  thisClass := this
  superClass := sup
  interfaces := ifs
  fields := fds
  methods := ms
  attributes := attrs
def plain (name : String) (sup : Option ClassId) : Class where
  name := name
  kind := .ordinary
  loader := none
  accessFlags := 33
  super := sup
  interfaces := #[]
  cf := none
  fields := #[]
  methods := #[]
  instanceTypes := #[]
  staticTypes := #[]
  resolved := #[]
  callSites := []
  init := .initialized
  statics := none
  mirror := none

def pool0 : Array CpInfo := pool [(5, u "<init>"), (0, u "()V"), (1, .class_ 10), (1, u "java/lang/Object")] 113

def k0c0 : Code := { maxStack := 0, maxLocals := 1, code := object_method_1_code, exceptionTable := #[], attributes := #[] }
def k0m0 : Method := { name := "<init>", desc := "()V", sig := { parameters := [], returnType := none }, accessFlags := 1, code := some k0c0 }
/-- java/lang/Object -/
def k0 : Class := { plain "java/lang/Object" none with
  accessFlags := 33
  interfaces := #[]
  cf := some (fileOf pool0 8 #[] #[{ accessFlags := 1, nameIndex := 5, descriptorIndex := 6, attributes := #[] }] 33 0 #[] #[])
  fields := #[]
  methods := #[k0m0]
  instanceTypes := #[]
  staticTypes := #[]
  resolved := Array.replicate 124 none
  statics := none }

def pool1 : Array CpInfo := pool [(2, .class_ 4), (0, .nameAndType 5 6), (0, u "java/lang/Object"), (0, u "<init>"), (0, u "()V"), (0, .long 100), (1, .long 200), (1, .long 400), (1, .long 800), (1, .long 1000), (1, .class_ 18), (0, u "com/example/pooler/pooler/pool/Backoff"), (0, .methodref 17 3), (0, .methodref 21 22), (0, .class_ 23), (0, .nameAndType 24 25), (0, u "com/example/pooler/pooler/pool/BackoffDelayPinLaw"), (0, u "at"), (0, u "(IIJJ)J"), (0, .methodref 17 27), (0, .nameAndType 28 29), (0, u "failed"), (0, u "(J)V"), (0, .methodref 17 31), (0, .nameAndType 32 29), (0, u "opened"), (0, .methodref 17 34), (0, .nameAndType 35 36), (0, u "delay"), (0, u "(J)J"), (0, .methodref 21 38), (0, .nameAndType 39 40), (0, u "pauseMs"), (0, u "(I)J"), (0, .long 1000000), (4, u "law"), (0, u "(IJJJ)Z")] 2

def k1m0 : Method := { name := "<init>", desc := "()V", sig := { parameters := [], returnType := none }, accessFlags := 1, code := none }
def k1c1 : Code := { maxStack := 2, maxLocals := 6, code := method_2_code, exceptionTable := #[], attributes := #[] }
def k1m1 : Method := { name := "at", desc := "(IIJJ)J", sig := { parameters := [.int, .int, .long, .long], returnType := some .long }, accessFlags := 10, code := some k1c1 }
def k1c2 : Code := { maxStack := 2, maxLocals := 1, code := method_3_code, exceptionTable := #[], attributes := #[] }
def k1m2 : Method := { name := "pauseMs", desc := "(I)J", sig := { parameters := [.int], returnType := some .long }, accessFlags := 10, code := some k1c2 }
def k1c3 : Code := { maxStack := 7, maxLocals := 25, code := code, exceptionTable := #[], attributes := #[] }
def k1m3 : Method := { name := "law", desc := "(IJJJ)Z", sig := { parameters := [.int, .long, .long, .long], returnType := some .boolean }, accessFlags := 9, code := some k1c3 }
/-- com/example/pooler/pooler/pool/BackoffDelayPinLaw -/
def k1 : Class := { plain "com/example/pooler/pooler/pool/BackoffDelayPinLaw" (some 0) with
  accessFlags := 49
  interfaces := #[]
  cf := some (fileOf pool1 21 #[] #[{ accessFlags := 1, nameIndex := 5, descriptorIndex := 6, attributes := #[] }, { accessFlags := 10, nameIndex := 24, descriptorIndex := 25, attributes := #[] }, { accessFlags := 10, nameIndex := 39, descriptorIndex := 40, attributes := #[] }, { accessFlags := 9, nameIndex := 46, descriptorIndex := 47, attributes := #[] }] 49 2 #[] #[])
  fields := #[]
  methods := #[k1m0, k1m1, k1m2, k1m3]
  instanceTypes := #[]
  staticTypes := #[]
  resolved := Array.replicate 50 none
  statics := none }

def pool2 : Array CpInfo := pool [(1, .methodref 2 3), (0, .class_ 4), (0, .nameAndType 5 6), (0, u "java/lang/Object"), (0, u "<init>"), (0, u "()V"), (0, .fieldref 8 9), (0, .class_ 10), (0, .nameAndType 11 12), (0, u "com/example/pooler/pooler/pool/Backoff"), (0, u "tried"), (0, u "Z"), (0, .fieldref 8 14), (0, .nameAndType 15 16), (0, u "endedAt"), (0, u "J"), (0, .methodref 8 18), (0, .nameAndType 19 20), (0, u "pause"), (0, u "()J"), (0, .methodref 22 23), (0, .class_ 24), (0, .nameAndType 25 26), (0, u "java/lang/Math"), (0, u "max"), (0, u "(JJ)J"), (0, .methodref 8 28), (0, .nameAndType 29 30), (0, u "ended"), (0, u "(J)V"), (0, .fieldref 8 32), (0, .nameAndType 33 34), (0, u "failuresInARow"), (0, u "I"), (0, .fieldref 8 36), (0, .nameAndType 37 16), (0, u "SHORTEST"), (0, .fieldref 8 39), (0, .nameAndType 40 16), (0, u "LONGEST"), (0, .long 2), (1, .methodref 22 44), (0, .nameAndType 45 26), (0, u "min"), (11, u "(J)J"), (5, u "delay"), (1, u "opened"), (0, u "failed")] 3

def k2c0 : Code := { maxStack := 1, maxLocals := 1, code := prog_23_method_1_code, exceptionTable := #[], attributes := #[] }
def k2m0 : Method := { name := "<init>", desc := "()V", sig := { parameters := [], returnType := none }, accessFlags := 0, code := some k2c0 }
def k2c1 : Code := { maxStack := 6, maxLocals := 5, code := prog_23_method_2_code, exceptionTable := #[], attributes := #[] }
def k2m1 : Method := { name := "delay", desc := "(J)J", sig := { parameters := [.long], returnType := some .long }, accessFlags := 0, code := some k2c1 }
def k2c2 : Code := { maxStack := 3, maxLocals := 3, code := prog_23_method_3_code, exceptionTable := #[], attributes := #[] }
def k2m2 : Method := { name := "opened", desc := "(J)V", sig := { parameters := [.long], returnType := none }, accessFlags := 0, code := some k2c2 }
def k2c3 : Code := { maxStack := 3, maxLocals := 3, code := prog_23_method_4_code, exceptionTable := #[], attributes := #[] }
def k2m3 : Method := { name := "failed", desc := "(J)V", sig := { parameters := [.long], returnType := none }, accessFlags := 0, code := some k2c3 }
def k2c4 : Code := { maxStack := 3, maxLocals := 3, code := prog_23_method_5_code, exceptionTable := #[], attributes := #[] }
def k2m4 : Method := { name := "ended", desc := "(J)V", sig := { parameters := [.long], returnType := none }, accessFlags := 2, code := some k2c4 }
def k2c5 : Code := { maxStack := 4, maxLocals := 4, code := prog_23_method_6_code, exceptionTable := #[], attributes := #[] }
def k2m5 : Method := { name := "pause", desc := "()J", sig := { parameters := [], returnType := some .long }, accessFlags := 2, code := some k2c5 }
/-- com/example/pooler/pooler/pool/Backoff -/
def k2 : Class := { plain "com/example/pooler/pooler/pool/Backoff" (some 0) with
  accessFlags := 32
  interfaces := #[]
  cf := some (fileOf pool2 8 #[] #[{ accessFlags := 0, nameIndex := 5, descriptorIndex := 6, attributes := #[] }, { accessFlags := 0, nameIndex := 63, descriptorIndex := 57, attributes := #[] }, { accessFlags := 0, nameIndex := 65, descriptorIndex := 30, attributes := #[] }, { accessFlags := 0, nameIndex := 66, descriptorIndex := 30, attributes := #[] }, { accessFlags := 2, nameIndex := 29, descriptorIndex := 30, attributes := #[] }, { accessFlags := 2, nameIndex := 19, descriptorIndex := 20, attributes := #[] }] 32 2 #[] #[{ accessFlags := 26, nameIndex := 37, descriptorIndex := 16, attributes := #[] }, { accessFlags := 26, nameIndex := 40, descriptorIndex := 16, attributes := #[] }, { accessFlags := 2, nameIndex := 11, descriptorIndex := 12, attributes := #[] }, { accessFlags := 2, nameIndex := 15, descriptorIndex := 16, attributes := #[] }, { accessFlags := 2, nameIndex := 33, descriptorIndex := 34, attributes := #[] }])
  fields := #[{ name := "SHORTEST", type := .long, accessFlags := 26, slot := 0, constantValue := 0 }, { name := "LONGEST", type := .long, accessFlags := 26, slot := 1, constantValue := 0 }, { name := "tried", type := .boolean, accessFlags := 2, slot := 0, constantValue := 0 }, { name := "endedAt", type := .long, accessFlags := 2, slot := 1, constantValue := 0 }, { name := "failuresInARow", type := .int, accessFlags := 2, slot := 2, constantValue := 0 }]
  methods := #[k2m0, k2m1, k2m2, k2m3, k2m4, k2m5]
  instanceTypes := #[.boolean, .long, .int]
  staticTypes := #[.long, .long]
  resolved := Array.replicate 70 none
  statics := some 0 }

def pool3 : Array CpInfo := pool [(1, .class_ 2), (0, u "java/lang/Math"), (1, .class_ 6), (1, u "java/lang/Object"), (0, u "<init>"), (0, u "()V"), (89, .class_ 100), (1, u "java/lang/Math$RandomNumberGeneratorHolder"), (20, u "(JJ)J"), (50, u "negativeZeroFloatBits"), (0, u "J"), (2, u "negativeZeroDoubleBits"), (21, u "max"), (2, u "min"), (43, u "$assertionsDisabled"), (0, u "Z"), (91, u "twoToTheDoubleScaleDown"), (0, u "D"), (4, u "twoToTheDoubleScaleUp"), (9, u "E"), (3, u "PI"), (2, u "TAU"), (2, u "DEGREES_TO_RADIANS"), (0, u "RADIANS_TO_DEGREES")] 94

def k3m0 : Method := { name := "<init>", desc := "()V", sig := { parameters := [], returnType := none }, accessFlags := 2, code := none }
def k3c1 : Code := { maxStack := 4, maxLocals := 4, code := jdk_29_method_66_code, exceptionTable := #[], attributes := #[] }
def k3m1 : Method := { name := "max", desc := "(JJ)J", sig := { parameters := [.long, .long], returnType := some .long }, accessFlags := 9, code := some k3c1 }
def k3c2 : Code := { maxStack := 4, maxLocals := 4, code := jdk_29_method_70_code, exceptionTable := #[], attributes := #[] }
def k3m2 : Method := { name := "min", desc := "(JJ)J", sig := { parameters := [.long, .long], returnType := some .long }, accessFlags := 9, code := some k3c2 }
/-- java/lang/Math -/
def k3 : Class := { plain "java/lang/Math" (some 0) with
  accessFlags := 49
  interfaces := #[]
  cf := some (fileOf pool3 1 #[.nestMembers #[98]] #[{ accessFlags := 2, nameIndex := 7, descriptorIndex := 8, attributes := #[] }, { accessFlags := 9, nameIndex := 198, descriptorIndex := 121, attributes := #[] }, { accessFlags := 9, nameIndex := 201, descriptorIndex := 121, attributes := #[] }] 49 4 #[] #[{ accessFlags := 25, nameIndex := 354, descriptorIndex := 339, attributes := #[] }, { accessFlags := 25, nameIndex := 358, descriptorIndex := 339, attributes := #[] }, { accessFlags := 25, nameIndex := 361, descriptorIndex := 339, attributes := #[] }, { accessFlags := 26, nameIndex := 364, descriptorIndex := 339, attributes := #[] }, { accessFlags := 26, nameIndex := 365, descriptorIndex := 339, attributes := #[] }, { accessFlags := 26, nameIndex := 172, descriptorIndex := 173, attributes := #[] }, { accessFlags := 26, nameIndex := 176, descriptorIndex := 173, attributes := #[] }, { accessFlags := 8, nameIndex := 344, descriptorIndex := 339, attributes := #[] }, { accessFlags := 8, nameIndex := 338, descriptorIndex := 339, attributes := #[] }, { accessFlags := 4120, nameIndex := 245, descriptorIndex := 246, attributes := #[] }])
  fields := #[{ name := "E", type := .double, accessFlags := 25, slot := 0, constantValue := 0 }, { name := "PI", type := .double, accessFlags := 25, slot := 1, constantValue := 0 }, { name := "TAU", type := .double, accessFlags := 25, slot := 2, constantValue := 0 }, { name := "DEGREES_TO_RADIANS", type := .double, accessFlags := 26, slot := 3, constantValue := 0 }, { name := "RADIANS_TO_DEGREES", type := .double, accessFlags := 26, slot := 4, constantValue := 0 }, { name := "negativeZeroFloatBits", type := .long, accessFlags := 26, slot := 5, constantValue := 0 }, { name := "negativeZeroDoubleBits", type := .long, accessFlags := 26, slot := 6, constantValue := 0 }, { name := "twoToTheDoubleScaleUp", type := .double, accessFlags := 8, slot := 7, constantValue := 0 }, { name := "twoToTheDoubleScaleDown", type := .double, accessFlags := 8, slot := 8, constantValue := 0 }, { name := "$assertionsDisabled", type := .boolean, accessFlags := 4120, slot := 9, constantValue := 0 }]
  methods := #[k3m0, k3m1, k3m2]
  instanceTypes := #[]
  staticTypes := #[.double, .double, .double, .double, .double, .long, .long, .double, .double, .boolean]
  resolved := Array.replicate 460 none
  statics := none }

def pool4 : Array CpInfo := pool [(1, u "java/lang/Cloneable"), (0, .class_ 1), (0, u "java/lang/Object"), (0, .class_ 3)] 3

/-- java/lang/Cloneable -/
def k4 : Class := { plain "java/lang/Cloneable" (some 0) with
  accessFlags := 1537
  interfaces := #[]
  cf := some (fileOf pool4 2 #[] #[] 1537 4 #[] #[])
  fields := #[]
  methods := #[]
  instanceTypes := #[]
  staticTypes := #[]
  resolved := Array.replicate 8 none
  statics := none }

def pool5 : Array CpInfo := pool [(1, u "java/io/Serializable"), (0, .class_ 1), (0, u "java/lang/Object"), (0, .class_ 3)] 3

/-- java/io/Serializable -/
def k5 : Class := { plain "java/io/Serializable" (some 0) with
  accessFlags := 1537
  interfaces := #[]
  cf := some (fileOf pool5 2 #[] #[] 1537 4 #[] #[])
  fields := #[]
  methods := #[]
  instanceTypes := #[]
  staticTypes := #[]
  resolved := Array.replicate 8 none
  statics := none }

/-- the primitive byte -/
def k6 : Class := { plain "byte" none with kind := .primitive 'B', accessFlags := 0x411 }
/-- [B -/
def k7 : Class := { plain "[B" (some 0) with kind := .array 6 .byte, interfaces := #[4, 5], accessFlags := 1041 }

/-- the primitive int -/
def k8 : Class := { plain "int" none with kind := .primitive 'I', accessFlags := 0x411 }
/-- [I -/
def k9 : Class := { plain "[I" (some 0) with kind := .array 8 .int, interfaces := #[4, 5], accessFlags := 1041 }

def heap : Heap := #[{ cls := 2, slots := #[.long 100000000, .long 1000000000], vm := .statics 2 }]
def classes : Array Class := #[k0, k1, k2, k3, k4, k5, k6, k7, k8, k9]
def interned : List (Array UInt16 × Addr) := []
def slotsUsed : Nat := 2
def theMethod : MethodId := ⟨1, 3⟩
def args0 : Array Value := #[.int 2, .long 1, .long 3, .long 5]
def aboutOver (below : List Frame) : State where
  vm := { classes := classes, interned := interned.toArray }
  heap := heap
  slotsUsed := slotsUsed
  threads := #[{ frames := .invoking theMethod args0 :: below }]
def below0 : List Frame := [.native { method := ⟨0, 0⟩, args := #[] }]
def about1 : State := aboutOver below0
def p0 : Program := .bare "" "" ""
def e0 : Env := launch0.env 0 0 0
theorem w_frames : about1.frames = Frame.invoking theMethod args0 :: below0 := rfl
set_option maxRecDepth 65536 in
theorem w_args : argsFit about1.vm theMethod args0 = true := by decide +kernel
set_option maxRecDepth 65536 in
theorem w_heap : heapFits about1 = true := by decide +kernel
set_option maxRecDepth 65536 in
theorem w_runnable : about1.curStatus? = some .runnable := by decide +kernel
set_option maxRecDepth 65536 in
theorem w_alone : about1.alone = true := by decide +kernel
set_option maxRecDepth 65536 in
theorem w_named : about1.methodNamed? x = some theMethod := by decide +kernel
set_option maxRecDepth 65536 in
theorem w_hears : about1.hears theMethod below0 = true := by decide +kernel
set_option maxRecDepth 65536 in
theorem w_ripe : about1.ripe theMethod args0 below0 = true := by decide +kernel
theorem w_running : about1.status = .running := rfl
set_option maxRecDepth 65536 in
theorem w_room : about1.hasRoom e0.platform room_1 = true :=
  launch0.hasRoom_least _ room_1 (by decide +kernel) (by decide +kernel) (by decide +kernel) (by decide +kernel) (by decide +kernel) (by decide +kernel)
theorem allAtoms_all (ts : List Jvm.Cond) (a : Array Jvm.Value) (st : Jvm.State) : (allAtoms ts).before a st = ts.all (fun c => c.before a st) := by
  induction ts with
  | nil => rfl
  | cons c t ih =>
    show (Jvm.Cond.and c (allAtoms t)).before a st = _
    rw [Jvm.Cond.before_and, ih, List.all_cons]
def words1 : List Jvm.Cond := Jvm.Cond.code x code maxLocals ret :: tables_1
/-- a 'code' word, met by the world's own term for the bytes: nothing is compared byte by byte -/
theorem code_word {y : MethodName} {bytes : ByteArray} {mx : Nat} {rt : Option FieldType} {a : Array Value} {s : State} {m : MethodId} {meth : Method} {c : Code} (h1 : s.methodNamed? y = some m) (h2 : s.vm.method? m = some meth) (h3 : meth.code = some c) (h4 : c.code = bytes)
    (h5 : (c.maxLocals == mx && c.exceptionTable.isEmpty && decide (c.maxStack ≤ mostOperands) && decide (meth.sig.returnType = rt) && !meth.locks && decide (parseMethodDescriptor y.desc = some meth.sig)) = true) : (Jvm.Cond.code y bytes mx rt).before a s = true := by
  simp only [Bool.and_eq_true, beq_iff_eq, Bool.not_eq_true', decide_eq_true_eq] at h5
  obtain ⟨⟨⟨⟨⟨g1, g2⟩, g3⟩, g4⟩, g5⟩, g6⟩ := h5
  simp [Cond.before, Cond.holds, Cond.value, h1, h2, h3, h4, g1, g2, g3, g4, g5, g6]
def isCode : Jvm.Cond → Bool
  | .code _ _ _ _ => true
  | _ => false
theorem all_split {L : List Jvm.Cond} {P : Jvm.Cond → Bool} (h1 : L.all (fun c => isCode c || P c) = true) (h2 : ∀ c ∈ L.filter isCode, P c = true) : L.all P = true := by
  refine List.all_eq_true.mpr fun c hc => ?_
  have h := List.all_eq_true.mp h1 c hc
  rcases Bool.eq_false_or_eq_true (isCode c) with hi | hi
  · exact h2 c (List.mem_filter.mpr ⟨hc, hi⟩)
  · simpa [hi] using h
set_option maxRecDepth 65536 in
theorem w_c0 : (Jvm.Cond.code x code maxLocals ret).before args0 about1 = true := code_word (m := ⟨1, 3⟩) (meth := k1m3) (c := k1c3) (by decide +kernel) rfl rfl rfl (by decide +kernel)
set_option maxRecDepth 65536 in
theorem w_c1 : (Jvm.Cond.code ({ cls := "com/example/pooler/pooler/pool/Backoff", name := "<init>", desc := "()V" } : Jvm.MethodName) prog_23_method_1_code (1 : Nat) (Option.none : Option Jvm.ClassFile.FieldType)).before args0 about1 = true := code_word (m := ⟨2, 0⟩) (meth := k2m0) (c := k2c0) (by decide +kernel) rfl rfl rfl (by decide +kernel)
set_option maxRecDepth 65536 in
theorem w_c2 : (Jvm.Cond.code ({ cls := "java/lang/Object", name := "<init>", desc := "()V" } : Jvm.MethodName) object_method_1_code (1 : Nat) (Option.none : Option Jvm.ClassFile.FieldType)).before args0 about1 = true := code_word (m := ⟨0, 0⟩) (meth := k0m0) (c := k0c0) (by decide +kernel) rfl rfl rfl (by decide +kernel)
set_option maxRecDepth 65536 in
theorem w_c3 : (Jvm.Cond.code ({ cls := "com/example/pooler/pooler/pool/Backoff", name := "delay", desc := "(J)J" } : Jvm.MethodName) prog_23_method_2_code (5 : Nat) (Option.some Jvm.ClassFile.FieldType.long)).before args0 about1 = true := code_word (m := ⟨2, 1⟩) (meth := k2m1) (c := k2c1) (by decide +kernel) rfl rfl rfl (by decide +kernel)
set_option maxRecDepth 65536 in
theorem w_c4 : (Jvm.Cond.code ({ cls := "com/example/pooler/pooler/pool/BackoffDelayPinLaw", name := "at", desc := "(IIJJ)J" } : Jvm.MethodName) method_2_code (6 : Nat) (Option.some Jvm.ClassFile.FieldType.long)).before args0 about1 = true := code_word (m := ⟨1, 1⟩) (meth := k1m1) (c := k1c1) (by decide +kernel) rfl rfl rfl (by decide +kernel)
set_option maxRecDepth 65536 in
theorem w_c5 : (Jvm.Cond.code ({ cls := "com/example/pooler/pooler/pool/Backoff", name := "failed", desc := "(J)V" } : Jvm.MethodName) prog_23_method_4_code (3 : Nat) (Option.none : Option Jvm.ClassFile.FieldType)).before args0 about1 = true := code_word (m := ⟨2, 3⟩) (meth := k2m3) (c := k2c3) (by decide +kernel) rfl rfl rfl (by decide +kernel)
set_option maxRecDepth 65536 in
theorem w_c6 : (Jvm.Cond.code ({ cls := "com/example/pooler/pooler/pool/Backoff", name := "ended", desc := "(J)V" } : Jvm.MethodName) prog_23_method_5_code (3 : Nat) (Option.none : Option Jvm.ClassFile.FieldType)).before args0 about1 = true := code_word (m := ⟨2, 4⟩) (meth := k2m4) (c := k2c4) (by decide +kernel) rfl rfl rfl (by decide +kernel)
set_option maxRecDepth 65536 in
theorem w_c7 : (Jvm.Cond.code ({ cls := "com/example/pooler/pooler/pool/Backoff", name := "pause", desc := "()J" } : Jvm.MethodName) prog_23_method_6_code (4 : Nat) (Option.some Jvm.ClassFile.FieldType.long)).before args0 about1 = true := code_word (m := ⟨2, 5⟩) (meth := k2m5) (c := k2c5) (by decide +kernel) rfl rfl rfl (by decide +kernel)
set_option maxRecDepth 65536 in
theorem w_c8 : (Jvm.Cond.code ({ cls := "java/lang/Math", name := "min", desc := "(JJ)J" } : Jvm.MethodName) jdk_29_method_70_code (4 : Nat) (Option.some Jvm.ClassFile.FieldType.long)).before args0 about1 = true := code_word (m := ⟨3, 2⟩) (meth := k3m2) (c := k3c2) (by decide +kernel) rfl rfl rfl (by decide +kernel)
set_option maxRecDepth 65536 in
theorem w_c9 : (Jvm.Cond.code ({ cls := "java/lang/Math", name := "max", desc := "(JJ)J" } : Jvm.MethodName) jdk_29_method_66_code (4 : Nat) (Option.some Jvm.ClassFile.FieldType.long)).before args0 about1 = true := code_word (m := ⟨3, 1⟩) (meth := k3m1) (c := k3c1) (by decide +kernel) rfl rfl rfl (by decide +kernel)
set_option maxRecDepth 65536 in
theorem w_c10 : (Jvm.Cond.code ({ cls := "com/example/pooler/pooler/pool/BackoffDelayPinLaw", name := "pauseMs", desc := "(I)J" } : Jvm.MethodName) method_3_code (1 : Nat) (Option.some Jvm.ClassFile.FieldType.long)).before args0 about1 = true := code_word (m := ⟨1, 2⟩) (meth := k1m2) (c := k1c2) (by decide +kernel) rfl rfl rfl (by decide +kernel)
set_option maxRecDepth 65536 in
theorem w_c11 : (Jvm.Cond.code ({ cls := "com/example/pooler/pooler/pool/Backoff", name := "opened", desc := "(J)V" } : Jvm.MethodName) prog_23_method_3_code (3 : Nat) (Option.none : Option Jvm.ClassFile.FieldType)).before args0 about1 = true := code_word (m := ⟨2, 2⟩) (meth := k2m2) (c := k2c2) (by decide +kernel) rfl rfl rfl (by decide +kernel)
def codes1 : List Jvm.Cond := [Jvm.Cond.code x code maxLocals ret, Jvm.Cond.code ({ cls := "com/example/pooler/pooler/pool/Backoff", name := "<init>", desc := "()V" } : Jvm.MethodName) prog_23_method_1_code (1 : Nat) (Option.none : Option Jvm.ClassFile.FieldType), Jvm.Cond.code ({ cls := "java/lang/Object", name := "<init>", desc := "()V" } : Jvm.MethodName) object_method_1_code (1 : Nat) (Option.none : Option Jvm.ClassFile.FieldType), Jvm.Cond.code ({ cls := "com/example/pooler/pooler/pool/Backoff", name := "delay", desc := "(J)J" } : Jvm.MethodName) prog_23_method_2_code (5 : Nat) (Option.some Jvm.ClassFile.FieldType.long), Jvm.Cond.code ({ cls := "com/example/pooler/pooler/pool/BackoffDelayPinLaw", name := "at", desc := "(IIJJ)J" } : Jvm.MethodName) method_2_code (6 : Nat) (Option.some Jvm.ClassFile.FieldType.long), Jvm.Cond.code ({ cls := "com/example/pooler/pooler/pool/Backoff", name := "failed", desc := "(J)V" } : Jvm.MethodName) prog_23_method_4_code (3 : Nat) (Option.none : Option Jvm.ClassFile.FieldType), Jvm.Cond.code ({ cls := "com/example/pooler/pooler/pool/Backoff", name := "ended", desc := "(J)V" } : Jvm.MethodName) prog_23_method_5_code (3 : Nat) (Option.none : Option Jvm.ClassFile.FieldType), Jvm.Cond.code ({ cls := "com/example/pooler/pooler/pool/Backoff", name := "pause", desc := "()J" } : Jvm.MethodName) prog_23_method_6_code (4 : Nat) (Option.some Jvm.ClassFile.FieldType.long), Jvm.Cond.code ({ cls := "java/lang/Math", name := "min", desc := "(JJ)J" } : Jvm.MethodName) jdk_29_method_70_code (4 : Nat) (Option.some Jvm.ClassFile.FieldType.long), Jvm.Cond.code ({ cls := "java/lang/Math", name := "max", desc := "(JJ)J" } : Jvm.MethodName) jdk_29_method_66_code (4 : Nat) (Option.some Jvm.ClassFile.FieldType.long), Jvm.Cond.code ({ cls := "com/example/pooler/pooler/pool/BackoffDelayPinLaw", name := "pauseMs", desc := "(I)J" } : Jvm.MethodName) method_3_code (1 : Nat) (Option.some Jvm.ClassFile.FieldType.long), Jvm.Cond.code ({ cls := "com/example/pooler/pooler/pool/Backoff", name := "opened", desc := "(J)V" } : Jvm.MethodName) prog_23_method_3_code (3 : Nat) (Option.none : Option Jvm.ClassFile.FieldType)]
set_option maxRecDepth 65536 in
theorem codes_eq : words1.filter isCode = codes1 := rfl
theorem w_codes : ∀ c ∈ words1.filter isCode, c.before args0 about1 = true := by
  rw [codes_eq]
  intro c hc
  simp only [codes1, List.mem_cons, List.not_mem_nil, or_false] at hc
  rcases hc with rfl | rfl | rfl | rfl | rfl | rfl | rfl | rfl | rfl | rfl | rfl | rfl
  · exact w_c0
  · exact w_c1
  · exact w_c2
  · exact w_c3
  · exact w_c4
  · exact w_c5
  · exact w_c6
  · exact w_c7
  · exact w_c8
  · exact w_c9
  · exact w_c10
  · exact w_c11
set_option maxRecDepth 65536 in
theorem w_t1 : (words1.take 24).all (fun c => isCode c || c.before args0 about1) = true := by decide +kernel
set_option maxRecDepth 65536 in
theorem w_t2 : ((words1.drop 24).take 24).all (fun c => isCode c || c.before args0 about1) = true := by decide +kernel
set_option maxRecDepth 65536 in
theorem w_t3 : ((words1.drop 24).drop 24).all (fun c => isCode c || c.before args0 about1) = true := by decide +kernel
theorem w_tables : (allAtoms (Jvm.Cond.code x code maxLocals ret :: tables_1)).before args0 about1 = true := by
  rw [allAtoms_all]
  show words1.all (fun c => c.before args0 about1) = true
  refine all_split ?_ w_codes
  rw [← List.take_append_drop 24 words1, List.all_append, w_t1, ← List.take_append_drop 24 (words1.drop 24), List.all_append, w_t2, w_t3]
  rfl
set_option maxRecDepth 65536 in
theorem w_case : (Jvm.Cond.and given_1 narrow_1).before args0 about1 = true := by decide +kernel
theorem w_applies : (headSpec (Jvm.Cond.code x code maxLocals ret :: tables_1) room_1).applies x e0.platform about1 = true :=
  (Spec.applies_iff w_frames).mpr ⟨w_running, w_runnable, w_alone, w_named, w_hears, w_ripe, w_room, w_tables⟩
theorem atStart : AtStart classFile x code maxLocals ret World_1 tables_1 room_1 Calls_1 rest_1 Pre_1 launch0 p0 e0 about1 theMethod args0 below0 :=
  ⟨lists_1, trivial, launch0.admits_env _ _ _, launch0.least_env, fairChoices_fair.cas, fairChoices_fair.clock, w_frames, w_args, w_heap, w_applies, trivial, trivial, w_case⟩
end start1
theorem witness_1 : WitnessClaimed_1 := ⟨start1.p0, start1.e0, start1.about1, start1.theMethod, start1.args0, start1.below0, start1.atStart⟩
end Jvm.Pilot.@@N@@
