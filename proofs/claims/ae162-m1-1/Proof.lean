import JvmDerived
import JvmDerived.Pilot.@@N@@Statement
import JvmDerived.Pilot.@@N@@Code
set_option linter.unusedVariables false
set_option linter.unusedSimpArgs false
namespace Jvm.Pilot.@@N@@
open Jvm Jvm.ClassFile Sem Op Lib Jvm.Free Jvm.Stand Jvm.LawKit Jvm.RoadKit Bundle Jvm.Pilot.@@N@@.Jvm.D
section Own
variable {p : Program} {l : Launch} {e : Env} {R : Room} {s : State} {m : MethodId} {args : Array Value} {below : List Frame} {meth : Method} {c : Code} {T : State} {locs : List Loc} {cells slots : Nat} {C S : Nat} {Q : Option Value → Heap → List Loc → Prop} {P : Outcome → State → Prop}
/-- from the state T with the frame g on top the run comes to the method's end, and P holds there -/
def Goes (p : Program) (e : Env) (below : List Frame) (P : Outcome → State → Prop) (T : State) (g : JFrame) : Prop :=
  ∃ s₂ o, Steps p.tables e below (T.setTop g) s₂ ∧ s₂.status = .running ∧ Ended s₂ below o ∧ P o s₂
/-- it returned, Q holds, the frame's bounds are kept -/
def Done (s : State) (C S : Nat) (Q : Option Value → Heap → List Loc → Prop) (o : Outcome) (U : State) : Prop := ∃ v L, o = .returned v ∧ Q v U.heap L ∧ FrameEnd s o U L C S
/-- .. where a String's constant may have been linked -/
def DoneW (s : State) (C S : Nat) (Q : Option Value → Heap → List Loc → Prop) (o : Outcome) (U : State) : Prop := ∃ v L, o = .returned v ∧ Q v U.heap L ∧ ReturnedEndW s o U L C S
theorem Goes.go {T' : State} {g g' : JFrame} (st : ∀ t, Steps p.tables e below (T'.setTop g') t → Steps p.tables e below (T.setTop g) t) (h : Goes p e below P T' g') : Goes p e below P T g := by
  obtain ⟨s₂, o, h1, h2⟩ := h; exact ⟨s₂, o, st _ h1, h2⟩
theorem Goes.tr {T' : State} {g g' : JFrame} (st : Steps p.tables e below (T.setTop g) (T'.setTop g')) (h : Goes p e below P T' g') : Goes p e below P T g := Goes.go (fun _ k => st.trans k) h
/-- the end of a walk that has linked Strings' constants -/
theorem own_wend {vm0 : Vm} {k0 : Nat} {fs : List Frame} {v : Option Value} (hS : s.Since vm0 k0) (hk : k0 ≤ T.heap.size) (hW : (s.setVm vm0).WarmedH (T.setFrames fs).vm) (hsame : (s.setVm vm0).sameButNew ({ T.setFrames fs with vm := (s.setVm vm0).vm } : State) locs cells slots) (hC : cells ≤ C) (hS' : slots ≤ S) : ReturnedEndW s (.returned v) (T.setFrames fs) locs C S := by
  have h2 := hS.trans (hW.since (T.setFrames fs).heap.size) hk
  exact ⟨⟨v, rfl⟩, h2.1, h2.2, (hsame.setVm s.vm).mono hC hS'⟩
/-- a value comes back -/
theorem own_ret (X : Stand p l e R s m args below meth c T locs cells slots) (hx : p.tables.exec = Jvm.exec) (hlk : meth.locks = false) {t : FieldType} (hret : meth.sig.returnType = some t) {i : Instr} {w : Value} (hn : narrow t w = w)
    (hi : (i = .ireturn ∧ (t = .int ∨ t = .boolean ∨ t = .byte ∨ t = .char ∨ t = .short) ∧ ∃ z, w = .int z) ∨ (i = .lreturn ∧ t = .long ∧ ∃ z, w = .long z) ∨ (i = .dreturn ∧ t = .double ∧ ∃ z, w = .double z) ∨ (i = .freturn ∧ t = .float ∧ ∃ z, w = .float z) ∨ (i = .areturn ∧ t.isReference = true ∧ w.isRef = true))
    {pc : Nat} {Ls : Array Slot} {rest : List Value} (hd : decode c.code pc = .ok (i, 1)) (hC : cells ≤ C) (hS : slots ≤ S) {h : Heap} (eT : T.heap = h) (hQ : Q (some w) h locs) : Goes p e below (Done s C S Q) T (mkF m pc Ls (w :: rest)) := by
  obtain ⟨fs, hr, hrun, hended, hW, hsame⟩ := X.leave (v := some w) (fun h => by rw [hret] at h; cases h)
  subst eT
  exact ⟨_, _, retOut X hx hret hn hi hd hr, hrun, hended, _, _, rfl, hQ, ⟨_, rfl⟩, hW, hsame.mono hC hS⟩
theorem own_retI (X : Stand p l e R s m args below meth c T locs cells slots) (hx : p.tables.exec = Jvm.exec) (hlk : meth.locks = false) (hret : meth.sig.returnType = some .int) {z : Int32}
    {pc : Nat} {Ls : Array Slot} {rest : List Value} (hd : decode c.code pc = .ok (.ireturn, 1)) (hC : cells ≤ C) (hS : slots ≤ S) {h : Heap} (eT : T.heap = h) (hQ : Q (some (.int z)) h locs) : Goes p e below (Done s C S Q) T (mkF m pc Ls (.int z :: rest)) :=
  own_ret X hx hlk hret rfl (Or.inl ⟨rfl, Or.inl rfl, z, rfl⟩) hd hC hS eT hQ
theorem own_retZ (X : Stand p l e R s m args below meth c T locs cells slots) (hx : p.tables.exec = Jvm.exec) (hlk : meth.locks = false) (hret : meth.sig.returnType = some .boolean) {z : Int32} (hn : narrow .boolean (.int z) = .int z)
    {pc : Nat} {Ls : Array Slot} {rest : List Value} (hd : decode c.code pc = .ok (.ireturn, 1)) (hC : cells ≤ C) (hS : slots ≤ S) {h : Heap} (eT : T.heap = h) (hQ : Q (some (.int z)) h locs) : Goes p e below (Done s C S Q) T (mkF m pc Ls (.int z :: rest)) :=
  own_ret X hx hlk hret hn (Or.inl ⟨rfl, Or.inr (Or.inl rfl), z, rfl⟩) hd hC hS eT hQ
theorem own_retJ (X : Stand p l e R s m args below meth c T locs cells slots) (hx : p.tables.exec = Jvm.exec) (hlk : meth.locks = false) (hret : meth.sig.returnType = some .long) {z : Int64}
    {pc : Nat} {Ls : Array Slot} {rest : List Value} (hd : decode c.code pc = .ok (.lreturn, 1)) (hC : cells ≤ C) (hS : slots ≤ S) {h : Heap} (eT : T.heap = h) (hQ : Q (some (.long z)) h locs) : Goes p e below (Done s C S Q) T (mkF m pc Ls (.long z :: rest)) :=
  own_ret X hx hlk hret rfl (Or.inr (Or.inl ⟨rfl, rfl, z, rfl⟩)) hd hC hS eT hQ
theorem own_narR {t : FieldType} {w : Value} (hw : w.isRef = true) : narrow t w = w := by
  rcases ref_cases hw with rfl | ⟨a, rfl⟩ <;> cases t <;> rfl
theorem own_retR (X : Stand p l e R s m args below meth c T locs cells slots) (hx : p.tables.exec = Jvm.exec) (hlk : meth.locks = false) {t : FieldType} (hret : meth.sig.returnType = some t) (ht : t.isReference = true) {w : Value} (hw : w.isRef = true)
    {pc : Nat} {Ls : Array Slot} {rest : List Value} (hd : decode c.code pc = .ok (.areturn, 1)) (hC : cells ≤ C) (hS : slots ≤ S) {h : Heap} (eT : T.heap = h) (hQ : Q (some w) h locs) : Goes p e below (Done s C S Q) T (mkF m pc Ls (w :: rest)) :=
  own_ret X hx hlk hret (own_narR hw) (Or.inr (Or.inr (Or.inr (Or.inr ⟨rfl, ht, hw⟩)))) hd hC hS eT hQ
theorem own_retV (X : Stand p l e R s m args below meth c T locs cells slots) (hx : p.tables.exec = Jvm.exec) (hlk : meth.locks = false) (hret : meth.sig.returnType = none)
    {pc : Nat} {Ls : Array Slot} (hd : decode c.code pc = .ok (.return_, 1)) (hC : cells ≤ C) (hS : slots ≤ S) {h : Heap} (eT : T.heap = h) (hQ : Q none h locs) : Goes p e below (Done s C S Q) T (mkF m pc Ls []) := by
  obtain ⟨fs, hr, hrun, hended, hW, hsame⟩ := X.leave (v := none) (fun _ => rfl)
  subst eT
  exact ⟨_, _, X.returnOut hx hret hd hr, hrun, hended, _, _, rfl, hQ, ⟨_, rfl⟩, hW, hsame.mono hC hS⟩
theorem own_retW {vm0 : Vm} {k0 : Nat} (X : Stand p l e R (s.setVm vm0) m args below meth c T locs cells slots) (hx : p.tables.exec = Jvm.exec) (hS : s.Since vm0 k0) (hlk : meth.locks = false) {t : FieldType} (hret : meth.sig.returnType = some t) {i : Instr} {w : Value} (hn : narrow t w = w)
    (hi : (i = .ireturn ∧ (t = .int ∨ t = .boolean ∨ t = .byte ∨ t = .char ∨ t = .short) ∧ ∃ z, w = .int z) ∨ (i = .lreturn ∧ t = .long ∧ ∃ z, w = .long z) ∨ (i = .dreturn ∧ t = .double ∧ ∃ z, w = .double z) ∨ (i = .freturn ∧ t = .float ∧ ∃ z, w = .float z) ∨ (i = .areturn ∧ t.isReference = true ∧ w.isRef = true))
    {pc : Nat} {Ls : Array Slot} {rest : List Value} (hd : decode c.code pc = .ok (i, 1)) (hC : cells ≤ C) (hS' : slots ≤ S) {h : Heap} (eT : T.heap = h) (hk : k0 ≤ h.size) (hQ : Q (some w) h locs) : Goes p e below (DoneW s C S Q) T (mkF m pc Ls (w :: rest)) := by
  obtain ⟨fs, hr, hrun, hended, hW, hsame⟩ := X.leave (v := some w) (fun h => by rw [hret] at h; cases h)
  subst eT
  exact ⟨_, _, retOut X hx hret hn hi hd hr, hrun, hended, _, _, rfl, hQ, own_wend hS hk hW hsame hC hS'⟩
theorem own_retWI {vm0 : Vm} {k0 : Nat} (X : Stand p l e R (s.setVm vm0) m args below meth c T locs cells slots) (hx : p.tables.exec = Jvm.exec) (hS : s.Since vm0 k0) (hlk : meth.locks = false) (hret : meth.sig.returnType = some .int) {z : Int32}
    {pc : Nat} {Ls : Array Slot} {rest : List Value} (hd : decode c.code pc = .ok (.ireturn, 1)) (hC : cells ≤ C) (hS' : slots ≤ S) {h : Heap} (eT : T.heap = h) (hk : k0 ≤ h.size) (hQ : Q (some (.int z)) h locs) : Goes p e below (DoneW s C S Q) T (mkF m pc Ls (.int z :: rest)) :=
  own_retW X hx hS hlk hret rfl (Or.inl ⟨rfl, Or.inl rfl, z, rfl⟩) hd hC hS' eT hk hQ
theorem own_retWZ {vm0 : Vm} {k0 : Nat} (X : Stand p l e R (s.setVm vm0) m args below meth c T locs cells slots) (hx : p.tables.exec = Jvm.exec) (hS : s.Since vm0 k0) (hlk : meth.locks = false) (hret : meth.sig.returnType = some .boolean) {z : Int32} (hn : narrow .boolean (.int z) = .int z)
    {pc : Nat} {Ls : Array Slot} {rest : List Value} (hd : decode c.code pc = .ok (.ireturn, 1)) (hC : cells ≤ C) (hS' : slots ≤ S) {h : Heap} (eT : T.heap = h) (hk : k0 ≤ h.size) (hQ : Q (some (.int z)) h locs) : Goes p e below (DoneW s C S Q) T (mkF m pc Ls (.int z :: rest)) :=
  own_retW X hx hS hlk hret hn (Or.inl ⟨rfl, Or.inr (Or.inl rfl), z, rfl⟩) hd hC hS' eT hk hQ
theorem own_retWR {vm0 : Vm} {k0 : Nat} (X : Stand p l e R (s.setVm vm0) m args below meth c T locs cells slots) (hx : p.tables.exec = Jvm.exec) (hS : s.Since vm0 k0) (hlk : meth.locks = false) {t : FieldType} (hret : meth.sig.returnType = some t) (ht : t.isReference = true) {w : Value} (hw : w.isRef = true)
    {pc : Nat} {Ls : Array Slot} {rest : List Value} (hd : decode c.code pc = .ok (.areturn, 1)) (hC : cells ≤ C) (hS' : slots ≤ S) {h : Heap} (eT : T.heap = h) (hk : k0 ≤ h.size) (hQ : Q (some w) h locs) : Goes p e below (DoneW s C S Q) T (mkF m pc Ls (w :: rest)) :=
  own_retW X hx hS hlk hret (own_narR hw) (Or.inr (Or.inr (Or.inr (Or.inr ⟨rfl, ht, hw⟩)))) hd hC hS' eT hk hQ
theorem own_retWV {vm0 : Vm} {k0 : Nat} (X : Stand p l e R (s.setVm vm0) m args below meth c T locs cells slots) (hx : p.tables.exec = Jvm.exec) (hS : s.Since vm0 k0) (hlk : meth.locks = false) (hret : meth.sig.returnType = none)
    {pc : Nat} {Ls : Array Slot} (hd : decode c.code pc = .ok (.return_, 1)) (hC : cells ≤ C) (hS' : slots ≤ S) {h : Heap} (eT : T.heap = h) (hk : k0 ≤ h.size) (hQ : Q none h locs) : Goes p e below (DoneW s C S Q) T (mkF m pc Ls []) := by
  obtain ⟨fs, hr, hrun, hended, hW, hsame⟩ := X.leave (v := none) (fun _ => rfl)
  subst eT
  exact ⟨_, _, X.returnOut hx hret hd hr, hrun, hended, _, _, rfl, hQ, own_wend hS hk hW hsame hC hS'⟩
/-- the entry -/
theorem own_enter {s₁ : State} {maxL : Nat} {as' : Array Value} {Ls : Array Slot} (hE : entryFrame m as' maxL = mkF m 0 Ls []) (h : Goes p e below P s₁ (mkF m 0 Ls [])) :
    ∃ s₂ o, Steps p.tables e below (s₁.setTop (entryFrame m as' maxL)) s₂ ∧ s₂.status = .running ∧ Ended s₂ below o ∧ P o s₂ := by
  rw [hE]; exact h
section Steps1
variable {pc : Nat} {Ls : Array Slot} {rest : List Value}
theorem own_iadd (X : Stand p l e R s m args below meth c T locs cells slots) (hx : p.tables.exec = Jvm.exec) (pc' : Nat) (hp : pc + 1 = pc') {x y z : Int32} (hd : decode c.code pc = .ok (.iadd, 1)) (hz : x + y = z) (h : Goes p e below P T (mkF m pc' Ls (.int z :: rest))) : Goes p e below P T (mkF m pc Ls (.int y :: .int x :: rest)) := by
  subst hp; subst hz; exact Goes.go (fun _ k => XS.iadd X.here hx rfl hd rfl k) h
theorem own_isub (X : Stand p l e R s m args below meth c T locs cells slots) (hx : p.tables.exec = Jvm.exec) (pc' : Nat) (hp : pc + 1 = pc') {x y z : Int32} (hd : decode c.code pc = .ok (.isub, 1)) (hz : x - y = z) (h : Goes p e below P T (mkF m pc' Ls (.int z :: rest))) : Goes p e below P T (mkF m pc Ls (.int y :: .int x :: rest)) := by
  subst hp; subst hz; exact Goes.go (fun _ k => XS.isub X.here hx rfl hd rfl k) h
theorem own_imul (X : Stand p l e R s m args below meth c T locs cells slots) (hx : p.tables.exec = Jvm.exec) (pc' : Nat) (hp : pc + 1 = pc') {x y z : Int32} (hd : decode c.code pc = .ok (.imul, 1)) (hz : x * y = z) (h : Goes p e below P T (mkF m pc' Ls (.int z :: rest))) : Goes p e below P T (mkF m pc Ls (.int y :: .int x :: rest)) := by
  subst hp; subst hz; exact Goes.go (fun _ k => XS.imul X.here hx rfl hd rfl k) h
theorem own_iand (X : Stand p l e R s m args below meth c T locs cells slots) (hx : p.tables.exec = Jvm.exec) (pc' : Nat) (hp : pc + 1 = pc') {x y z : Int32} (hd : decode c.code pc = .ok (.iand, 1)) (hz : x &&& y = z) (h : Goes p e below P T (mkF m pc' Ls (.int z :: rest))) : Goes p e below P T (mkF m pc Ls (.int y :: .int x :: rest)) := by
  subst hp; subst hz; exact Goes.go (fun _ k => XS.iand X.here hx rfl hd rfl k) h
theorem own_ior (X : Stand p l e R s m args below meth c T locs cells slots) (hx : p.tables.exec = Jvm.exec) (pc' : Nat) (hp : pc + 1 = pc') {x y z : Int32} (hd : decode c.code pc = .ok (.ior, 1)) (hz : x ||| y = z) (h : Goes p e below P T (mkF m pc' Ls (.int z :: rest))) : Goes p e below P T (mkF m pc Ls (.int y :: .int x :: rest)) := by
  subst hp; subst hz; exact Goes.go (fun _ k => XS.ior X.here hx rfl hd rfl k) h
theorem own_ixor (X : Stand p l e R s m args below meth c T locs cells slots) (hx : p.tables.exec = Jvm.exec) (pc' : Nat) (hp : pc + 1 = pc') {x y z : Int32} (hd : decode c.code pc = .ok (.ixor, 1)) (hz : x ^^^ y = z) (h : Goes p e below P T (mkF m pc' Ls (.int z :: rest))) : Goes p e below P T (mkF m pc Ls (.int y :: .int x :: rest)) := by
  subst hp; subst hz; exact Goes.go (fun _ k => XS.ixor X.here hx rfl hd rfl k) h
theorem own_idiv (X : Stand p l e R s m args below meth c T locs cells slots) (hx : p.tables.exec = Jvm.exec) (pc' : Nat) (hp : pc + 1 = pc') {x y z : Int32} (hd : decode c.code pc = .ok (.idiv, 1)) (hy : y ≠ 0) (hz : x / y = z) (h : Goes p e below P T (mkF m pc' Ls (.int z :: rest))) : Goes p e below P T (mkF m pc Ls (.int y :: .int x :: rest)) := by
  subst hp; subst hz; exact Goes.go (fun _ k => XS.idiv X.here hx rfl hd rfl hy k) h
theorem own_ishl (X : Stand p l e R s m args below meth c T locs cells slots) (hx : p.tables.exec = Jvm.exec) (pc' : Nat) (hp : pc + 1 = pc') {x z : Int32} {y : Int32} (hd : decode c.code pc = .ok (.ishl, 1)) (hz : (x <<< (y &&& 31)) = z) (h : Goes p e below P T (mkF m pc' Ls (.int z :: rest))) : Goes p e below P T (mkF m pc Ls (.int y :: .int x :: rest)) := by
  subst hp; subst hz; exact Goes.go (fun _ k => XS.ishl X.here hx rfl hd rfl k) h
theorem own_ishr (X : Stand p l e R s m args below meth c T locs cells slots) (hx : p.tables.exec = Jvm.exec) (pc' : Nat) (hp : pc + 1 = pc') {x z : Int32} {y : Int32} (hd : decode c.code pc = .ok (.ishr, 1)) (hz : (x >>> (y &&& 31)) = z) (h : Goes p e below P T (mkF m pc' Ls (.int z :: rest))) : Goes p e below P T (mkF m pc Ls (.int y :: .int x :: rest)) := by
  subst hp; subst hz; exact Goes.go (fun _ k => XS.ishr X.here hx rfl hd rfl k) h
theorem own_iushr (X : Stand p l e R s m args below meth c T locs cells slots) (hx : p.tables.exec = Jvm.exec) (pc' : Nat) (hp : pc + 1 = pc') {x z : Int32} {y : Int32} (hd : decode c.code pc = .ok (.iushr, 1)) (hz : ((x.toUInt32 >>> (y &&& 31).toUInt32).toInt32) = z) (h : Goes p e below P T (mkF m pc' Ls (.int z :: rest))) : Goes p e below P T (mkF m pc Ls (.int y :: .int x :: rest)) := by
  subst hp; subst hz; exact Goes.go (fun _ k => XS.iushr X.here hx rfl hd rfl k) h
theorem own_ladd (X : Stand p l e R s m args below meth c T locs cells slots) (hx : p.tables.exec = Jvm.exec) (pc' : Nat) (hp : pc + 1 = pc') {x y z : Int64} (hd : decode c.code pc = .ok (.ladd, 1)) (hz : x + y = z) (h : Goes p e below P T (mkF m pc' Ls (.long z :: rest))) : Goes p e below P T (mkF m pc Ls (.long y :: .long x :: rest)) := by
  subst hp; subst hz; exact Goes.go (fun _ k => XS.ladd X.here hx rfl hd rfl k) h
theorem own_lsub (X : Stand p l e R s m args below meth c T locs cells slots) (hx : p.tables.exec = Jvm.exec) (pc' : Nat) (hp : pc + 1 = pc') {x y z : Int64} (hd : decode c.code pc = .ok (.lsub, 1)) (hz : x - y = z) (h : Goes p e below P T (mkF m pc' Ls (.long z :: rest))) : Goes p e below P T (mkF m pc Ls (.long y :: .long x :: rest)) := by
  subst hp; subst hz; exact Goes.go (fun _ k => XS.lsub X.here hx rfl hd rfl k) h
theorem own_lmul (X : Stand p l e R s m args below meth c T locs cells slots) (hx : p.tables.exec = Jvm.exec) (pc' : Nat) (hp : pc + 1 = pc') {x y z : Int64} (hd : decode c.code pc = .ok (.lmul, 1)) (hz : x * y = z) (h : Goes p e below P T (mkF m pc' Ls (.long z :: rest))) : Goes p e below P T (mkF m pc Ls (.long y :: .long x :: rest)) := by
  subst hp; subst hz; exact Goes.go (fun _ k => XS.lmul X.here hx rfl hd rfl k) h
theorem own_land (X : Stand p l e R s m args below meth c T locs cells slots) (hx : p.tables.exec = Jvm.exec) (pc' : Nat) (hp : pc + 1 = pc') {x y z : Int64} (hd : decode c.code pc = .ok (.land, 1)) (hz : x &&& y = z) (h : Goes p e below P T (mkF m pc' Ls (.long z :: rest))) : Goes p e below P T (mkF m pc Ls (.long y :: .long x :: rest)) := by
  subst hp; subst hz; exact Goes.go (fun _ k => XS.land X.here hx rfl hd rfl k) h
theorem own_lor (X : Stand p l e R s m args below meth c T locs cells slots) (hx : p.tables.exec = Jvm.exec) (pc' : Nat) (hp : pc + 1 = pc') {x y z : Int64} (hd : decode c.code pc = .ok (.lor, 1)) (hz : x ||| y = z) (h : Goes p e below P T (mkF m pc' Ls (.long z :: rest))) : Goes p e below P T (mkF m pc Ls (.long y :: .long x :: rest)) := by
  subst hp; subst hz; exact Goes.go (fun _ k => XS.lor X.here hx rfl hd rfl k) h
theorem own_lxor (X : Stand p l e R s m args below meth c T locs cells slots) (hx : p.tables.exec = Jvm.exec) (pc' : Nat) (hp : pc + 1 = pc') {x y z : Int64} (hd : decode c.code pc = .ok (.lxor, 1)) (hz : x ^^^ y = z) (h : Goes p e below P T (mkF m pc' Ls (.long z :: rest))) : Goes p e below P T (mkF m pc Ls (.long y :: .long x :: rest)) := by
  subst hp; subst hz; exact Goes.go (fun _ k => XS.lxor X.here hx rfl hd rfl k) h
theorem own_ldiv (X : Stand p l e R s m args below meth c T locs cells slots) (hx : p.tables.exec = Jvm.exec) (pc' : Nat) (hp : pc + 1 = pc') {x y z : Int64} (hd : decode c.code pc = .ok (.ldiv, 1)) (hy : y ≠ 0) (hz : x / y = z) (h : Goes p e below P T (mkF m pc' Ls (.long z :: rest))) : Goes p e below P T (mkF m pc Ls (.long y :: .long x :: rest)) := by
  subst hp; subst hz; exact Goes.go (fun _ k => XS.ldiv X.here hx rfl hd rfl hy k) h
theorem own_lshl (X : Stand p l e R s m args below meth c T locs cells slots) (hx : p.tables.exec = Jvm.exec) (pc' : Nat) (hp : pc + 1 = pc') {x z : Int64} {y : Int32} (hd : decode c.code pc = .ok (.lshl, 1)) (hz : (x <<< (y &&& 0x3f).toInt64) = z) (h : Goes p e below P T (mkF m pc' Ls (.long z :: rest))) : Goes p e below P T (mkF m pc Ls (.int y :: .long x :: rest)) := by
  subst hp; subst hz; exact Goes.go (fun _ k => XS.lshl X.here hx rfl hd rfl k) h
theorem own_lshr (X : Stand p l e R s m args below meth c T locs cells slots) (hx : p.tables.exec = Jvm.exec) (pc' : Nat) (hp : pc + 1 = pc') {x z : Int64} {y : Int32} (hd : decode c.code pc = .ok (.lshr, 1)) (hz : (x >>> (y &&& 0x3f).toInt64) = z) (h : Goes p e below P T (mkF m pc' Ls (.long z :: rest))) : Goes p e below P T (mkF m pc Ls (.int y :: .long x :: rest)) := by
  subst hp; subst hz; exact Goes.go (fun _ k => XS.lshr X.here hx rfl hd rfl k) h
theorem own_lushr (X : Stand p l e R s m args below meth c T locs cells slots) (hx : p.tables.exec = Jvm.exec) (pc' : Nat) (hp : pc + 1 = pc') {x z : Int64} {y : Int32} (hd : decode c.code pc = .ok (.lushr, 1)) (hz : ((x.toUInt64 >>> (y &&& 0x3f).toInt64.toUInt64).toInt64) = z) (h : Goes p e below P T (mkF m pc' Ls (.long z :: rest))) : Goes p e below P T (mkF m pc Ls (.int y :: .long x :: rest)) := by
  subst hp; subst hz; exact Goes.go (fun _ k => XS.lushr X.here hx rfl hd rfl k) h
theorem own_irem (X : Stand p l e R s m args below meth c T locs cells slots) (hx : p.tables.exec = Jvm.exec) (pc' : Nat) (hp : pc + 1 = pc') {x y z : Int32} (hd : decode c.code pc = .ok (.irem, 1)) (hy : y ≠ 0) (hz : x % y = z) (h : Goes p e below P T (mkF m pc' Ls (.int z :: rest))) : Goes p e below P T (mkF m pc Ls (.int y :: .int x :: rest)) := by
  subst hp; subst hz; exact Goes.go (fun _ k => iremM X hx rfl hd rfl hy k) h
theorem own_lrem (X : Stand p l e R s m args below meth c T locs cells slots) (hx : p.tables.exec = Jvm.exec) (pc' : Nat) (hp : pc + 1 = pc') {x y z : Int64} (hd : decode c.code pc = .ok (.lrem, 1)) (hy : y ≠ 0) (hz : x % y = z) (h : Goes p e below P T (mkF m pc' Ls (.long z :: rest))) : Goes p e below P T (mkF m pc Ls (.long y :: .long x :: rest)) := by
  subst hp; subst hz; exact Goes.go (fun _ k => XS.lrem X.here hx rfl hd rfl hy (by rw [lrem_mod]; exact k)) h
theorem own_ineg (X : Stand p l e R s m args below meth c T locs cells slots) (hx : p.tables.exec = Jvm.exec) (pc' : Nat) (hp : pc + 1 = pc') {x : Int32} {z : Int32} (hd : decode c.code pc = .ok (.ineg, 1)) (hz : -x = z) (h : Goes p e below P T (mkF m pc' Ls (.int z :: rest))) : Goes p e below P T (mkF m pc Ls (.int x :: rest)) := by
  subst hp; subst hz; exact Goes.go (fun _ k => XS.ineg X.here hx rfl hd rfl k) h
theorem own_lneg (X : Stand p l e R s m args below meth c T locs cells slots) (hx : p.tables.exec = Jvm.exec) (pc' : Nat) (hp : pc + 1 = pc') {x : Int64} {z : Int64} (hd : decode c.code pc = .ok (.lneg, 1)) (hz : -x = z) (h : Goes p e below P T (mkF m pc' Ls (.long z :: rest))) : Goes p e below P T (mkF m pc Ls (.long x :: rest)) := by
  subst hp; subst hz; exact Goes.go (fun _ k => XS.lneg X.here hx rfl hd rfl k) h
theorem own_i2l (X : Stand p l e R s m args below meth c T locs cells slots) (hx : p.tables.exec = Jvm.exec) (pc' : Nat) (hp : pc + 1 = pc') {x : Int32} {z : Int64} (hd : decode c.code pc = .ok (.i2l, 1)) (hz : x.toInt64 = z) (h : Goes p e below P T (mkF m pc' Ls (.long z :: rest))) : Goes p e below P T (mkF m pc Ls (.int x :: rest)) := by
  subst hp; subst hz; exact Goes.go (fun _ k => XS.i2l X.here hx rfl hd rfl k) h
theorem own_l2i (X : Stand p l e R s m args below meth c T locs cells slots) (hx : p.tables.exec = Jvm.exec) (pc' : Nat) (hp : pc + 1 = pc') {x : Int64} {z : Int32} (hd : decode c.code pc = .ok (.l2i, 1)) (hz : x.toInt32 = z) (h : Goes p e below P T (mkF m pc' Ls (.int z :: rest))) : Goes p e below P T (mkF m pc Ls (.long x :: rest)) := by
  subst hp; subst hz; exact Goes.go (fun _ k => XS.l2i X.here hx rfl hd rfl k) h
theorem own_i2b (X : Stand p l e R s m args below meth c T locs cells slots) (hx : p.tables.exec = Jvm.exec) (pc' : Nat) (hp : pc + 1 = pc') {x : Int32} {z : Int32} (hd : decode c.code pc = .ok (.i2b, 1)) (hz : x.toInt8.toInt32 = z) (h : Goes p e below P T (mkF m pc' Ls (.int z :: rest))) : Goes p e below P T (mkF m pc Ls (.int x :: rest)) := by
  subst hp; subst hz; exact Goes.go (fun _ k => XS.i2b X.here hx rfl hd rfl k) h
theorem own_i2s (X : Stand p l e R s m args below meth c T locs cells slots) (hx : p.tables.exec = Jvm.exec) (pc' : Nat) (hp : pc + 1 = pc') {x : Int32} {z : Int32} (hd : decode c.code pc = .ok (.i2s, 1)) (hz : x.toInt16.toInt32 = z) (h : Goes p e below P T (mkF m pc' Ls (.int z :: rest))) : Goes p e below P T (mkF m pc Ls (.int x :: rest)) := by
  subst hp; subst hz; exact Goes.go (fun _ k => XS.i2s X.here hx rfl hd rfl k) h
theorem own_i2c (X : Stand p l e R s m args below meth c T locs cells slots) (hx : p.tables.exec = Jvm.exec) (pc' : Nat) (hp : pc + 1 = pc') {x : Int32} {z : Int32} (hd : decode c.code pc = .ok (.i2c, 1)) (hz : x.toUInt32.toUInt16.toUInt32.toInt32 = z) (h : Goes p e below P T (mkF m pc' Ls (.int z :: rest))) : Goes p e below P T (mkF m pc Ls (.int x :: rest)) := by
  subst hp; subst hz; exact Goes.go (fun _ k => XS.i2c X.here hx rfl hd rfl k) h
theorem own_lcmp (X : Stand p l e R s m args below meth c T locs cells slots) (hx : p.tables.exec = Jvm.exec) (pc' : Nat) (hp : pc + 1 = pc') {x y : Int64} (hd : decode c.code pc = .ok (.lcmp, 1))  (h : Goes p e below P T (mkF m pc' Ls (.int (lcmpW x y) :: rest))) : Goes p e below P T (mkF m pc Ls (.long y :: .long x :: rest)) := by
  subst hp; exact Goes.go (fun _ k => XS.lcmp X.here hx rfl hd rfl k) h
theorem own_iload (X : Stand p l e R s m args below meth c T locs cells slots) (hx : p.tables.exec = Jvm.exec) (pc' : Nat) (hp : pc + 2 = pc') {k : Nat} {v : Int32} (hd : decode c.code pc = .ok (.iload k, 2)) (hl : Ls[k]? = some (.val (.int v))) (h : Goes p e below P T (mkF m pc' Ls ((.int v) :: rest))) : Goes p e below P T (mkF m pc Ls rest) := by
  subst hp; exact Goes.go (fun _ k => XS.iload X.here hx rfl hd hl k) h
theorem own_iloadN (X : Stand p l e R s m args below meth c T locs cells slots) (hx : p.tables.exec = Jvm.exec) (pc' : Nat) (hp : pc + 1 = pc') {k : Fin 4} {v : Int32} (hd : decode c.code pc = .ok (.iload_n k, 1)) (hl : Ls[k.val]? = some (.val (.int v))) (h : Goes p e below P T (mkF m pc' Ls ((.int v) :: rest))) : Goes p e below P T (mkF m pc Ls rest) := by
  subst hp; exact Goes.go (fun _ k => XS.iloadN X.here hx rfl hd hl k) h
theorem own_istore (X : Stand p l e R s m args below meth c T locs cells slots) (hx : p.tables.exec = Jvm.exec) (pc' : Nat) (hp : pc + 2 = pc') {k : Nat} {v : Int32} (Ls' : Array Slot) (hd : decode c.code pc = .ok (.istore k, 2)) (hl : storeLocals Ls k (.int v) = some Ls') (h : Goes p e below P T (mkF m pc' Ls' rest)) : Goes p e below P T (mkF m pc Ls ((.int v) :: rest)) := by
  subst hp; exact Goes.go (fun _ k => XS.istore X.here hx rfl hd rfl hl k) h
theorem own_istoreN (X : Stand p l e R s m args below meth c T locs cells slots) (hx : p.tables.exec = Jvm.exec) (pc' : Nat) (hp : pc + 1 = pc') {k : Fin 4} {v : Int32} (Ls' : Array Slot) (hd : decode c.code pc = .ok (.istore_n k, 1)) (hl : storeLocals Ls k.val (.int v) = some Ls') (h : Goes p e below P T (mkF m pc' Ls' rest)) : Goes p e below P T (mkF m pc Ls ((.int v) :: rest)) := by
  subst hp; exact Goes.go (fun _ k => XS.istoreN X.here hx rfl hd rfl hl k) h
theorem own_lload (X : Stand p l e R s m args below meth c T locs cells slots) (hx : p.tables.exec = Jvm.exec) (pc' : Nat) (hp : pc + 2 = pc') {k : Nat} {v : Int64} (hd : decode c.code pc = .ok (.lload k, 2)) (hl : Ls[k]? = some (.val (.long v))) (h : Goes p e below P T (mkF m pc' Ls ((.long v) :: rest))) : Goes p e below P T (mkF m pc Ls rest) := by
  subst hp; exact Goes.go (fun _ k => XS.lload X.here hx rfl hd hl k) h
theorem own_lloadN (X : Stand p l e R s m args below meth c T locs cells slots) (hx : p.tables.exec = Jvm.exec) (pc' : Nat) (hp : pc + 1 = pc') {k : Fin 4} {v : Int64} (hd : decode c.code pc = .ok (.lload_n k, 1)) (hl : Ls[k.val]? = some (.val (.long v))) (h : Goes p e below P T (mkF m pc' Ls ((.long v) :: rest))) : Goes p e below P T (mkF m pc Ls rest) := by
  subst hp; exact Goes.go (fun _ k => XS.lloadN X.here hx rfl hd hl k) h
theorem own_lstore (X : Stand p l e R s m args below meth c T locs cells slots) (hx : p.tables.exec = Jvm.exec) (pc' : Nat) (hp : pc + 2 = pc') {k : Nat} {v : Int64} (Ls' : Array Slot) (hd : decode c.code pc = .ok (.lstore k, 2)) (hl : storeLocals Ls k (.long v) = some Ls') (h : Goes p e below P T (mkF m pc' Ls' rest)) : Goes p e below P T (mkF m pc Ls ((.long v) :: rest)) := by
  subst hp; exact Goes.go (fun _ k => XS.lstore X.here hx rfl hd rfl hl k) h
theorem own_lstoreN (X : Stand p l e R s m args below meth c T locs cells slots) (hx : p.tables.exec = Jvm.exec) (pc' : Nat) (hp : pc + 1 = pc') {k : Fin 4} {v : Int64} (Ls' : Array Slot) (hd : decode c.code pc = .ok (.lstore_n k, 1)) (hl : storeLocals Ls k.val (.long v) = some Ls') (h : Goes p e below P T (mkF m pc' Ls' rest)) : Goes p e below P T (mkF m pc Ls ((.long v) :: rest)) := by
  subst hp; exact Goes.go (fun _ k => XS.lstoreN X.here hx rfl hd rfl hl k) h
theorem own_aload (X : Stand p l e R s m args below meth c T locs cells slots) (hx : p.tables.exec = Jvm.exec) (pc' : Nat) (hp : pc + 2 = pc') {k : Nat} {v : Value} (hd : decode c.code pc = .ok (.aload k, 2)) (hl : Ls[k]? = some (.val v)) (hv : v.isRef = true) (h : Goes p e below P T (mkF m pc' Ls (v :: rest))) : Goes p e below P T (mkF m pc Ls rest) := by
  subst hp; exact Goes.go (fun _ k => XS.aload X.here hx rfl hd hl hv k) h
theorem own_aloadN (X : Stand p l e R s m args below meth c T locs cells slots) (hx : p.tables.exec = Jvm.exec) (pc' : Nat) (hp : pc + 1 = pc') {k : Fin 4} {v : Value} (hd : decode c.code pc = .ok (.aload_n k, 1)) (hl : Ls[k.val]? = some (.val v)) (hv : v.isRef = true) (h : Goes p e below P T (mkF m pc' Ls (v :: rest))) : Goes p e below P T (mkF m pc Ls rest) := by
  subst hp; exact Goes.go (fun _ k => XS.aloadN X.here hx rfl hd hl hv k) h
theorem own_astore (X : Stand p l e R s m args below meth c T locs cells slots) (hx : p.tables.exec = Jvm.exec) (pc' : Nat) (hp : pc + 2 = pc') {k : Nat} {v : Value} (Ls' : Array Slot) (hd : decode c.code pc = .ok (.astore k, 2)) (hl : storeLocals Ls k v = some Ls') (hv : v.isRef = true) (h : Goes p e below P T (mkF m pc' Ls' rest)) : Goes p e below P T (mkF m pc Ls (v :: rest)) := by
  subst hp; exact Goes.go (fun _ k => XS.astore X.here hx rfl hd rfl hv hl k) h
theorem own_astoreN (X : Stand p l e R s m args below meth c T locs cells slots) (hx : p.tables.exec = Jvm.exec) (pc' : Nat) (hp : pc + 1 = pc') {k : Fin 4} {v : Value} (Ls' : Array Slot) (hd : decode c.code pc = .ok (.astore_n k, 1)) (hl : storeLocals Ls k.val v = some Ls') (hv : v.isRef = true) (h : Goes p e below P T (mkF m pc' Ls' rest)) : Goes p e below P T (mkF m pc Ls (v :: rest)) := by
  subst hp; exact Goes.go (fun _ k => XS.astoreN X.here hx rfl hd rfl hv hl k) h
theorem own_iconst (X : Stand p l e R s m args below meth c T locs cells slots) (hx : p.tables.exec = Jvm.exec) (pc' : Nat) (hp : pc + 1 = pc') {i : Int} (v : Int32) (hd : decode c.code pc = .ok (.iconst i, 1)) (hv : Int32.ofInt i = v) (h : Goes p e below P T (mkF m pc' Ls (.int v :: rest))) : Goes p e below P T (mkF m pc Ls rest) := by
  subst hp; subst hv; exact Goes.go (fun _ k => XS.iconst X.here hx rfl hd k) h
theorem own_bipush (X : Stand p l e R s m args below meth c T locs cells slots) (hx : p.tables.exec = Jvm.exec) (pc' : Nat) (hp : pc + 2 = pc') {i : Int} (v : Int32) (hd : decode c.code pc = .ok (.bipush i, 2)) (hv : (Int8.ofInt i).toInt32 = v) (h : Goes p e below P T (mkF m pc' Ls (.int v :: rest))) : Goes p e below P T (mkF m pc Ls rest) := by
  subst hp; subst hv; exact Goes.go (fun _ k => XS.bipush X.here hx rfl hd k) h
theorem own_sipush (X : Stand p l e R s m args below meth c T locs cells slots) (hx : p.tables.exec = Jvm.exec) (pc' : Nat) (hp : pc + 3 = pc') {i : Int} (v : Int32) (hd : decode c.code pc = .ok (.sipush i, 3)) (hv : (Int16.ofInt i).toInt32 = v) (h : Goes p e below P T (mkF m pc' Ls (.int v :: rest))) : Goes p e below P T (mkF m pc Ls rest) := by
  subst hp; subst hv; exact Goes.go (fun _ k => XS.sipush X.here hx rfl hd k) h
theorem own_lconst (X : Stand p l e R s m args below meth c T locs cells slots) (hx : p.tables.exec = Jvm.exec) (pc' : Nat) (hp : pc + 1 = pc') {i : Fin 2} (v : Int64) (hd : decode c.code pc = .ok (.lconst i, 1)) (hv : Int64.ofNat i = v) (h : Goes p e below P T (mkF m pc' Ls (.long v :: rest))) : Goes p e below P T (mkF m pc Ls rest) := by
  subst hp; subst hv; exact Goes.go (fun _ k => XS.lconst X.here hx rfl hd k) h
theorem own_aconst_null (X : Stand p l e R s m args below meth c T locs cells slots) (hx : p.tables.exec = Jvm.exec) (pc' : Nat) (hp : pc + 1 = pc')  (hd : decode c.code pc = .ok (.aconst_null, 1))  (h : Goes p e below P T (mkF m pc' Ls (.null :: rest))) : Goes p e below P T (mkF m pc Ls rest) := by
  subst hp; exact Goes.go (fun _ k => XS.aconstNull X.here hx rfl hd k) h
theorem own_dup (X : Stand p l e R s m args below meth c T locs cells slots) (hx : p.tables.exec = Jvm.exec) (pc' : Nat) (hp : pc + 1 = pc') {v : Value} (hd : decode c.code pc = .ok (.dup, 1)) (hc : v.category = 1) (h : Goes p e below P T (mkF m pc' Ls (v :: v :: rest))) : Goes p e below P T (mkF m pc Ls (v :: rest)) := by
  subst hp; exact Goes.go (fun _ k => XS.dup X.here hx rfl hd rfl hc k) h
theorem own_pop (X : Stand p l e R s m args below meth c T locs cells slots) (hx : p.tables.exec = Jvm.exec) (pc' : Nat) (hp : pc + 1 = pc') {v : Value} (hd : decode c.code pc = .ok (.pop, 1)) (hc : v.category = 1) (h : Goes p e below P T (mkF m pc' Ls rest)) : Goes p e below P T (mkF m pc Ls (v :: rest)) := by
  subst hp; exact Goes.go (fun _ k => XS.pop X.here hx rfl hd rfl hc k) h
theorem own_dup_x1 (X : Stand p l e R s m args below meth c T locs cells slots) (hx : p.tables.exec = Jvm.exec) (pc' : Nat) (hp : pc + 1 = pc') {v w : Value} (hd : decode c.code pc = .ok (.dup_x1, 1)) (hc : v.category = 1) (hc' : w.category = 1) (h : Goes p e below P T (mkF m pc' Ls (v :: w :: v :: rest))) : Goes p e below P T (mkF m pc Ls (v :: w :: rest)) := by
  subst hp; exact Goes.go (fun _ k => XS.dupX1 X.here hx rfl hd rfl hc hc' k) h
theorem own_dup2L (X : Stand p l e R s m args below meth c T locs cells slots) (hx : p.tables.exec = Jvm.exec) (pc' : Nat) (hp : pc + 1 = pc') {v : Int64} (hd : decode c.code pc = .ok (.dup2, 1))  (h : Goes p e below P T (mkF m pc' Ls (.long v :: .long v :: rest))) : Goes p e below P T (mkF m pc Ls (.long v :: rest)) := by
  subst hp; exact Goes.go (fun _ k => Jvm.Free.XT.dup2L X.here hx rfl hd rfl k) h
theorem own_dup2 (X : Stand p l e R s m args below meth c T locs cells slots) (hx : p.tables.exec = Jvm.exec) (pc' : Nat) (hp : pc + 1 = pc') {v w : Value} (hd : decode c.code pc = .ok (.dup2, 1)) (hc : v.category = 1) (hc' : w.category = 1) (h : Goes p e below P T (mkF m pc' Ls (v :: w :: v :: w :: rest))) : Goes p e below P T (mkF m pc Ls (v :: w :: rest)) := by
  subst hp; exact Goes.go (fun _ k => Jvm.Free.XT.dup2 X.here hx rfl hd rfl hc hc' k) h
theorem own_iinc (X : Stand p l e R s m args below meth c T locs cells slots) (hx : p.tables.exec = Jvm.exec) (pc' : Nat) (hp : pc + 3 = pc') {k : Nat} {cst : Int} {x z : Int32} (Ls' : Array Slot) (hd : decode c.code pc = .ok (.iinc k cst, 3)) (hl : Ls[k]? = some (.val (.int x))) (hz : x + Int32.ofInt cst = z) (hl' : storeLocals Ls k (.int z) = some Ls') (h : Goes p e below P T (mkF m pc' Ls' rest)) : Goes p e below P T (mkF m pc Ls rest) := by
  subst hp; subst hz; exact Goes.go (fun _ k => XS.iinc X.here hx rfl hd hl hl' k) h
theorem own_goto (X : Stand p l e R s m args below meth c T locs cells slots) (hx : p.tables.exec = Jvm.exec) (pc' : Nat) {o : Int} (hd : decode c.code pc = .ok (.goto o, 3)) (ho : 0 ≤ (pc : Int) + o) (hp : ((pc : Int) + o).toNat = pc') (h : Goes p e below P T (mkF m pc' Ls rest)) : Goes p e below P T (mkF m pc Ls rest) :=
  Goes.go (fun _ k => XS.goto X.here hx rfl rfl hd ho hp k) h
theorem own_ifY (X : Stand p l e R s m args below meth c T locs cells slots) (hx : p.tables.exec = Jvm.exec) (pc' : Nat) {o : Int} {cd : ClassFile.Cond} {x : Int32} (hd : decode c.code pc = .ok (.ifCond cd o, 3)) (hc : ifCond.holds cd x = true) (ho : 0 ≤ (pc : Int) + o) (hp : ((pc : Int) + o).toNat = pc') (h : Goes p e below P T (mkF m pc' Ls rest)) : Goes p e below P T (mkF m pc Ls (.int x :: rest)) :=
  Goes.go (fun _ k => XS.ifYes X.here hx rfl rfl hd rfl hc ho hp k) h
theorem own_ifN (X : Stand p l e R s m args below meth c T locs cells slots) (hx : p.tables.exec = Jvm.exec) (pc' : Nat) {o : Int} {cd : ClassFile.Cond} {x : Int32} (hd : decode c.code pc = .ok (.ifCond cd o, 3)) (hc : ifCond.holds cd x = false) (hp : pc + 3 = pc') (h : Goes p e below P T (mkF m pc' Ls rest)) : Goes p e below P T (mkF m pc Ls (.int x :: rest)) := by
  subst hp; exact Goes.go (fun _ k => XS.ifNo X.here hx rfl hd rfl hc k) h
theorem own_icmpY (X : Stand p l e R s m args below meth c T locs cells slots) (hx : p.tables.exec = Jvm.exec) (pc' : Nat) {o : Int} {cd : ClassFile.Cond} {x y : Int32} (hd : decode c.code pc = .ok (.if_icmp cd o, 3)) (hc : if_icmp.holds cd x y = true) (ho : 0 ≤ (pc : Int) + o) (hp : ((pc : Int) + o).toNat = pc') (h : Goes p e below P T (mkF m pc' Ls rest)) : Goes p e below P T (mkF m pc Ls (.int y :: .int x :: rest)) :=
  Goes.go (fun _ k => XS.icmpYes X.here hx rfl rfl hd rfl hc ho hp k) h
theorem own_icmpN (X : Stand p l e R s m args below meth c T locs cells slots) (hx : p.tables.exec = Jvm.exec) (pc' : Nat) {o : Int} {cd : ClassFile.Cond} {x y : Int32} (hd : decode c.code pc = .ok (.if_icmp cd o, 3)) (hc : if_icmp.holds cd x y = false) (hp : pc + 3 = pc') (h : Goes p e below P T (mkF m pc' Ls rest)) : Goes p e below P T (mkF m pc Ls (.int y :: .int x :: rest)) := by
  subst hp; exact Goes.go (fun _ k => XS.icmpNo X.here hx rfl hd rfl hc k) h
theorem own_acmp (X : Stand p l e R s m args below meth c T locs cells slots) (hx : p.tables.exec = Jvm.exec) (pc' : Nat) {o : Int} {cd : ACond} {x y : Value} {same : Bool} (h1 : x.isRef = true) (h2 : y.isRef = true) (hd : decode c.code pc = .ok (.if_acmp cd o, 3)) (hq : decide (x = y) = same) (ho : 0 ≤ (pc : Int) + o) (hp : pc' = if acV cd same = true then ((pc : Int) + o).toNat else pc + 3) (h : Goes p e below P T (mkF m pc' Ls rest)) : Goes p e below P T (mkF m pc Ls (y :: x :: rest)) :=
  Goes.go (fun _ k => Jvm.RoadKit.acmp (g := mkF m pc Ls (y :: x :: rest)) X hx rfl h1 h2 rfl hd rfl hq ho hp k) h
theorem own_ifnullY (X : Stand p l e R s m args below meth c T locs cells slots) (hx : p.tables.exec = Jvm.exec) (pc' : Nat) {o : Int} (hd : decode c.code pc = .ok (.ifnull o, 3)) (ho : 0 ≤ (pc : Int) + o) (hp : ((pc : Int) + o).toNat = pc') (h : Goes p e below P T (mkF m pc' Ls rest)) : Goes p e below P T (mkF m pc Ls (.null :: rest)) :=
  Goes.go (fun _ k => XS.ifnullYes X.here hx rfl rfl hd rfl ho hp k) h
theorem own_ifnullN (X : Stand p l e R s m args below meth c T locs cells slots) (hx : p.tables.exec = Jvm.exec) (pc' : Nat) {o : Int} {b : Addr} (hd : decode c.code pc = .ok (.ifnull o, 3)) (hp : pc + 3 = pc') (h : Goes p e below P T (mkF m pc' Ls rest)) : Goes p e below P T (mkF m pc Ls (.ref b :: rest)) := by
  subst hp; exact Goes.go (fun _ k => XS.ifnullNo X.here hx rfl hd rfl k) h
theorem own_ifnonnullY (X : Stand p l e R s m args below meth c T locs cells slots) (hx : p.tables.exec = Jvm.exec) (pc' : Nat) {o : Int} {b : Addr} (hd : decode c.code pc = .ok (.ifnonnull o, 3)) (ho : 0 ≤ (pc : Int) + o) (hp : ((pc : Int) + o).toNat = pc') (h : Goes p e below P T (mkF m pc' Ls rest)) : Goes p e below P T (mkF m pc Ls (.ref b :: rest)) :=
  Goes.go (fun _ k => XS.ifnonnullYes X.here hx rfl rfl hd rfl ho hp k) h
theorem own_ifnonnullN (X : Stand p l e R s m args below meth c T locs cells slots) (hx : p.tables.exec = Jvm.exec) (pc' : Nat) {o : Int} (hd : decode c.code pc = .ok (.ifnonnull o, 3)) (hp : pc + 3 = pc') (h : Goes p e below P T (mkF m pc' Ls rest)) : Goes p e below P T (mkF m pc Ls (.null :: rest)) := by
  subst hp; exact Goes.go (fun _ k => XS.ifnonnullNo X.here hx rfl hd rfl k) h
end Steps1
/-- the branches on a long comparison -/
theorem Ltlt {x y : Int64} (h : x < y) : ifCond.holds .lt (lcmpW x y) = true ∧ ifCond.holds .ge (lcmpW x y) = false ∧ ifCond.holds .gt (lcmpW y x) = true ∧ ifCond.holds .le (lcmpW y x) = false :=
  ⟨(if0 _ _).trans (tlt ((lw_lt x y).mpr h)).1, (if0 _ _).trans (tlt ((lw_lt x y).mpr h)).2.1, (if0 _ _).trans (tlt ((lw_gt y x).mpr h)).2.2.1, (if0 _ _).trans (tlt ((lw_gt y x).mpr h)).2.2.2⟩
theorem Lflt {x y : Int64} (h : ¬ x < y) : ifCond.holds .lt (lcmpW x y) = false ∧ ifCond.holds .ge (lcmpW x y) = true ∧ ifCond.holds .gt (lcmpW y x) = false ∧ ifCond.holds .le (lcmpW y x) = true :=
  ⟨(if0 _ _).trans (flt fun q => h ((lw_lt x y).mp q)).1, (if0 _ _).trans (flt fun q => h ((lw_lt x y).mp q)).2.1, (if0 _ _).trans (flt fun q => h ((lw_gt y x).mp q)).2.2.1, (if0 _ _).trans (flt fun q => h ((lw_gt y x).mp q)).2.2.2⟩
theorem Lteq {x y : Int64} (h : x = y) : ifCond.holds .eq (lcmpW x y) = true ∧ ifCond.holds .ne (lcmpW x y) = false :=
  ⟨(if0 _ _).trans (teq ((lw_eq x y).mpr h)).1, (if0 _ _).trans (teq ((lw_eq x y).mpr h)).2⟩
theorem Lfeq {x y : Int64} (h : ¬ x = y) : ifCond.holds .eq (lcmpW x y) = false ∧ ifCond.holds .ne (lcmpW x y) = true :=
  ⟨(if0 _ _).trans (feq fun q => h ((lw_eq x y).mp q)).1, (if0 _ _).trans (feq fun q => h ((lw_eq x y).mp q)).2⟩
theorem Ztlt {x y : Int32} (h : x < y) : if_icmp.holds .lt x y = true ∧ if_icmp.holds .ge x y = false ∧ if_icmp.holds .gt y x = true ∧ if_icmp.holds .le y x = false := tlt h
/-- the pieces of a memory fact -/
theorem own_lt_ne {a b n : Nat} (h : a < n) (g : b = n) : a ≠ b := by omega
end Own
def own_P : List Int64 := [1, 10, 100, 1000, 10000, 100000, 1000000, 10000000, 100000000, 1000000000, 10000000000, 100000000000]
def own_p10 (k : Int32) : Int64 := own_P.getD k.toNatClampNeg 0
def own_dg (x : Int64) (k : Int32) : Int32 := ((((48 : Int64) + (x / own_p10 k) % (10 : Int64)).toInt32).toInt8.toInt32).toInt8.toInt32
def own_put (bs : List Int32) (x : Int64) (n i : Int32) : List Int32 := if i < n then bs.set i.toNatClampNeg (own_dg x (n - (1 : Int32) - i)) else bs
def own_loop : List Int32 → Int64 → Int64
  | [], acc => if (4294967295 : Int64) < acc then (-1 : Int64) else acc
  | b :: t, acc => if b < (48 : Int32) ∨ (57 : Int32) < b then (-1 : Int64) else own_loop t (acc * (10 : Int64) + b.toInt64 - (48 : Int64))
def own_num (n : Int32) (bs : List Int32) : Int64 := if n = (0 : Int32) ∨ (10 : Int32) < n then (-1 : Int64) else own_loop bs (0 : Int64)
def own_val : List Int32 → Int → Int
  | [], a => a
  | b :: t, a => own_val t (a * 10 + (b.toInt - 48))
def own_D : Nat → Int64 → List Int32
  | 0, _ => []
  | n + 1, x => own_dg x (Int32.ofNat n) :: own_D n x
theorem own_put_len (bs : List Int32) (x : Int64) (n i : Int32) : (own_put bs x n i).length = bs.length := by unfold own_put; split <;> simp
theorem own_clamp {k : Int32} (h : 0 ≤ k.toInt) : (k.toNatClampNeg : Int) = k.toInt := by rw [← Int32.toNat_toInt]; omega
theorem own_Pv : ∀ m, m < 12 → (own_P.getD m 0).toInt = (10 ^ m : Nat) := by decide
theorem own_p10v {k : Int32} (h0 : 0 ≤ k.toInt) (h : k.toInt < 12) : (own_p10 k).toInt = (10 ^ k.toNatClampNeg : Nat) := own_Pv _ (by have := own_clamp h0; omega)
theorem own_p10pos {k : Int32} (h0 : 0 ≤ k.toInt) (h : k.toInt < 12) : 0 < (own_p10 k).toInt := by rw [own_p10v h0 h]; exact Int.natCast_pos.mpr (Nat.pow_pos (by decide))
theorem own_p10nz {k : Int32} (h0 : 0 ≤ k.toInt) (h : k.toInt < 12) : own_p10 k ≠ 0 := by
  intro q; have := own_p10pos h0 h; rw [q] at this; revert this; decide
theorem own_p10n1 {k : Int32} (h0 : 0 ≤ k.toInt) (h : k.toInt < 12) : own_p10 k ≠ -1 := by
  intro q; have := own_p10pos h0 h; rw [q] at this; revert this; decide
theorem own_lmod {x y : Int64} (hx : 0 ≤ x.toInt) : (x % y).toInt = x.toInt % y.toInt := by rw [Int64.toInt_mod, Int.tmod_eq_emod_of_nonneg hx]
theorem own_ldv {x : Int64} {k : Int32} (hx : 0 ≤ x.toInt) (h0 : 0 ≤ k.toInt) (h : k.toInt < 12) : (x / own_p10 k).toInt = x.toInt / (10 ^ k.toNatClampNeg : Nat) := (c_ldiv x (own_p10 k) _ (own_p10v h0 h) (own_p10n1 h0 h)).1 hx
/-- the digit of x at the place k -/
theorem own_old {x : Int64} {k : Int32} (hx : 0 ≤ x.toInt) (h0 : 0 ≤ k.toInt) (h : k.toInt < 12) : ((x / own_p10 k) % (10 : Int64)).toInt = x.toInt / (10 ^ k.toNatClampNeg : Nat) % 10 := by
  have e : (10 : Int64).toInt = 10 := by decide
  have h1 := own_ldv hx h0 h
  rw [own_lmod (by rw [h1]; exact Int.ediv_nonneg hx (Int.natCast_nonneg _)), h1, e]
theorem own_dgv {x : Int64} {k : Int32} (hx : 0 ≤ x.toInt) (h0 : 0 ≤ k.toInt) (h : k.toInt < 12) : (own_dg x k).toInt = 48 + x.toInt / (10 ^ k.toNatClampNeg : Nat) % 10 := by
  have h1 := own_old hx h0 h
  have h2 := c_ladd (48 : Int64) ((x / own_p10 k) % (10 : Int64))
  have e : (48 : Int64).toInt = 48 := by decide
  have r := rng64 ((48 : Int64) + (x / own_p10 k) % (10 : Int64))
  have h3 := c_l2i ((48 : Int64) + (x / own_p10 k) % (10 : Int64))
  have h4 := c_i2b ((48 : Int64) + (x / own_p10 k) % (10 : Int64)).toInt32
  have h5 := c_i2b (((48 : Int64) + (x / own_p10 k) % (10 : Int64)).toInt32).toInt8.toInt32
  unfold own_dg
  omega
theorem own_val_acc : ∀ (bs : List Int32) (a : Int), own_val bs a = a * (10 ^ bs.length : Nat) + own_val bs 0
  | [], a => by simp [own_val]
  | b :: t, a => by
    have e : ((10 ^ (b :: t).length : Nat) : Int) = 10 * (10 ^ t.length : Nat) := by simp only [List.length_cons, Nat.pow_succ]; push_cast; omega
    rw [own_val, own_val, own_val_acc t, own_val_acc t (0 * 10 + _), e, Int.add_mul, Int.add_mul, Int.mul_assoc]; omega
theorem own_val_set : ∀ (bs : List Int32) (p : Nat) (b : Int32) (hp : p < bs.length), own_val (bs.set p b) 0 = own_val bs 0 + (b.toInt - (bs[p]).toInt) * (10 ^ (bs.length - 1 - p) : Nat)
  | c :: t, 0, b, _ => by
    simp only [List.set_cons_zero, own_val, List.getElem_cons_zero, List.length_cons]
    rw [own_val_acc t, own_val_acc t (0 * 10 + (c.toInt - 48))]
    simp only [Nat.add_sub_cancel, Nat.sub_zero, Int.add_mul, Int.sub_mul]; omega
  | c :: t, p + 1, b, hp => by
    have hp' : p < t.length := by simpa using hp
    have ih := own_val_set t p b hp'
    simp only [List.set_cons_succ, own_val, List.getElem_cons_succ, List.length_cons]
    rw [own_val_acc (t.set p b), own_val_acc t (0 * 10 + (c.toInt - 48)), ih, List.length_set, show t.length + 1 - 1 - (p + 1) = t.length - 1 - p by omega]; omega
theorem own_loop_v : ∀ (bs : List Int32) (acc : Int64) (k : Nat), (∀ b ∈ bs, 48 ≤ b.toInt ∧ b.toInt ≤ 57) → 0 ≤ acc.toInt → acc.toInt < (10 ^ k : Nat) → k + bs.length ≤ 10 →
    (own_loop bs acc).toInt = if 4294967295 < own_val bs acc.toInt then -1 else own_val bs acc.toInt
  | [], acc, k, _, h0, h1, h2 => by
    have e : (4294967295 : Int64).toInt = 4294967295 := by decide
    have e1 : (-1 : Int64).toInt = -1 := by decide
    show (if (4294967295 : Int64) < acc then (-1 : Int64) else acc).toInt = if 4294967295 < acc.toInt then -1 else acc.toInt
    by_cases q : 4294967295 < acc.toInt
    · rw [if_pos q, if_pos (by rw [Int64.lt_iff_toInt_lt, e]; exact q), e1]
    · rw [if_neg q, if_neg (by rw [Int64.lt_iff_toInt_lt, e]; exact q)]
  | b :: t, acc, k, hb, h0, h1, h2 => by
    have q := hb b (List.mem_cons_self ..)
    have e48 : (48 : Int32).toInt = 48 := by decide
    have e57 : (57 : Int32).toInt = 57 := by decide
    have n1 : ¬ (b < (48 : Int32) ∨ (57 : Int32) < b) := by rw [Int32.lt_iff_toInt_lt, Int32.lt_iff_toInt_lt]; omega
    have hk : (10 ^ k : Nat) ≤ 10 ^ 9 := Nat.pow_le_pow_right (by decide) (by simp only [List.length_cons] at h2; omega)
    have hs : ((10 ^ (k + 1) : Nat) : Int) = 10 * (10 ^ k : Nat) := by simp only [Nat.pow_succ]; push_cast; omega
    have hA : (acc * (10 : Int64) + b.toInt64 - (48 : Int64)).toInt = acc.toInt * 10 + (b.toInt - 48) := by
      have m1 := c_lmul acc (10 : Int64)
      have m2 := c_ladd (acc * (10 : Int64)) b.toInt64
      have m3 := c_lsub (acc * (10 : Int64) + b.toInt64) (48 : Int64)
      have m4 := c_i2l b
      have r1 := rng64 (acc * (10 : Int64))
      have r2 := rng64 (acc * (10 : Int64) + b.toInt64)
      have r3 := rng64 (acc * (10 : Int64) + b.toInt64 - (48 : Int64))
      have e10 : (10 : Int64).toInt = 10 := by decide
      have e4 : (48 : Int64).toInt = 48 := by decide
      rw [e10] at m1; omega
    rw [own_loop, if_neg n1, own_val, ← hA]
    refine own_loop_v t _ (k + 1) (fun z hz => hb z (List.mem_cons_of_mem _ hz)) ?_ ?_ ?_
    · omega
    · omega
    · simp only [List.length_cons] at h2; omega
theorem own_loop_bad : ∀ (bs : List Int32) (acc : Int64), (∃ b ∈ bs, b < (48 : Int32) ∨ (57 : Int32) < b) → own_loop bs acc = -1
  | [], _, h => by obtain ⟨b, hb, _⟩ := h; cases hb
  | b :: t, acc, h => by
    rw [own_loop]
    by_cases q : b < (48 : Int32) ∨ (57 : Int32) < b
    · rw [if_pos q]
    · rw [if_neg q]
      obtain ⟨z, hz, hq⟩ := h
      rcases List.mem_cons.mp hz with rfl | hz
      · exact absurd hq q
      · exact own_loop_bad t _ ⟨z, hz, hq⟩
theorem own_ofNat (n : Nat) (h : n < 12) : (Int32.ofNat n).toInt = n := Int32.toInt_ofNat_of_lt (by omega)
theorem own_D_len : ∀ (n : Nat) (x : Int64), (own_D n x).length = n
  | 0, _ => rfl
  | n + 1, x => by rw [own_D, List.length_cons, own_D_len n x]
theorem own_D_dig : ∀ (n : Nat) (x : Int64), n < 12 → 0 ≤ x.toInt → ∀ b ∈ own_D n x, 48 ≤ b.toInt ∧ b.toInt ≤ 57
  | 0, _, _, _, b, hb => by cases hb
  | n + 1, x, hn, hx, b, hb => by
    rcases List.mem_cons.mp hb with rfl | hb
    · have e := own_ofNat n (by omega)
      rw [own_dgv hx (by omega) (by omega)]; omega
    · exact own_D_dig n x (by omega) hx b hb
theorem own_D_val : ∀ (n : Nat) (x : Int64), n ≤ 12 → 0 ≤ x.toInt → own_val (own_D n x) 0 = x.toInt % (10 ^ n : Nat)
  | 0, x, _, _ => by simp [own_D, own_val]
  | n + 1, x, hn, hx => by
    have e := own_ofNat n (by omega)
    have ec : (Int32.ofNat n).toNatClampNeg = n := by have := own_clamp (k := Int32.ofNat n) (by omega); omega
    rw [own_D, own_val, own_val_acc, own_D_val n x (by omega) hx, own_D_len, own_dgv hx (by omega) (by omega), ec]
    obtain ⟨X, hX⟩ := Int.eq_ofNat_of_zero_le hx
    rw [hX]
    have h := Nat.mod_pow_succ (b := 10) (k := n) (x := X)
    have h2 : (X : Int) % ((10 ^ (n + 1) : Nat) : Int) = ((X % 10 ^ (n + 1) : Nat) : Int) := rfl
    have h3 : (X : Int) % ((10 ^ n : Nat) : Int) = ((X % 10 ^ n : Nat) : Int) := rfl
    have h4 : (X : Int) / ((10 ^ n : Nat) : Int) % 10 = ((X / 10 ^ n % 10 : Nat) : Int) := rfl
    rw [h2, h3, h4, h, Int.natCast_add, Int.natCast_mul, Int.mul_comm ((10 ^ n : Nat) : Int), show (0 : Int) * 10 + (48 + ((X / 10 ^ n % 10 : Nat) : Int) - 48) = ((X / 10 ^ n % 10 : Nat) : Int) by omega]; omega
theorem own_D_at : ∀ (n : Nat) (x : Int64) (p : Nat) (hp : p < (own_D n x).length), (own_D n x)[p] = own_dg x (Int32.ofNat (n - 1 - p))
  | n + 1, x, 0, _ => rfl
  | n + 1, x, p + 1, hp => by
    have := own_D_at n x p (by simpa [own_D] using hp)
    simp only [own_D, List.getElem_cons_succ, this]
    congr 2; omega
def own_fill (n : Int32) (x : Int64) : List Int32 := own_put (own_put (own_put (own_put (own_put (own_put (own_put (own_put (own_put (own_put (own_put (List.replicate n.toNatClampNeg (0 : Int32)) x n 0) x n 1) x n 2) x n 3) x n 4) x n 5) x n 6) x n 7) x n 8) x n 9) x n 10
theorem own_cases {n : Int32} (h0 : 0 ≤ n.toInt) (h : n.toInt < 12) : n = 0 ∨ n = 1 ∨ n = 2 ∨ n = 3 ∨ n = 4 ∨ n = 5 ∨ n = 6 ∨ n = 7 ∨ n = 8 ∨ n = 9 ∨ n = 10 ∨ n = 11 := by
  simp only [← Int32.toInt_inj, show (0 : Int32).toInt = 0 from rfl, show (1 : Int32).toInt = 1 from rfl, show (2 : Int32).toInt = 2 from rfl, show (3 : Int32).toInt = 3 from rfl, show (4 : Int32).toInt = 4 from rfl, show (5 : Int32).toInt = 5 from rfl, show (6 : Int32).toInt = 6 from rfl, show (7 : Int32).toInt = 7 from rfl, show (8 : Int32).toInt = 8 from rfl, show (9 : Int32).toInt = 9 from rfl, show (10 : Int32).toInt = 10 from rfl, show (11 : Int32).toInt = 11 from rfl]; omega
theorem own_fillD {n : Int32} (x : Int64) (h0 : 0 ≤ n.toInt) (h : n.toInt < 12) : own_fill n x = own_D n.toNatClampNeg x := by
  rcases own_cases h0 h with rfl | rfl | rfl | rfl | rfl | rfl | rfl | rfl | rfl | rfl | rfl | rfl <;> rfl
theorem own_len {x2 n : Int32} (h : n = (x2 &&& (15 : Int32)) % (12 : Int32)) : 0 ≤ n.toInt ∧ n.toInt < 12 := by
  have hm : (x2 &&& (15 : Int32)).toInt = x2.toInt % 16 := c_mask x2 (15 : Int32) 4 (by decide) (by decide)
  have hr := (c_irem (x2 &&& (15 : Int32)) (12 : Int32) 12 (by decide)).1 (by omega)
  rw [← h] at hr; omega
theorem own_xx {v x : Int64} {n : Int32} (h0 : 0 ≤ n.toInt) (hn : n.toInt < 12) (h : x = (v &&& (9223372036854775807 : Int64)) % own_p10 n) : 0 ≤ x.toInt ∧ x.toInt < (10 ^ n.toNatClampNeg : Nat) := by
  have hm : (v &&& (9223372036854775807 : Int64)).toInt = v.toInt % (2 ^ 63 : Nat) := c_maskL v (9223372036854775807 : Int64) 63 (by decide) (by decide)
  have hv : 0 ≤ (v &&& (9223372036854775807 : Int64)).toInt := by rw [hm]; exact Int.emod_nonneg _ (by decide)
  have hp := own_p10pos h0 hn
  have hr := own_lmod (y := own_p10 n) hv
  rw [← h] at hr
  have e := own_p10v h0 hn
  rw [← e]
  exact ⟨by rw [hr]; exact Int.emod_nonneg _ (by omega), by rw [hr]; exact Int.emod_lt_of_pos _ hp⟩
theorem own_pos {x3 n p : Int32} (h0 : 0 < n.toInt) (h : p = (x3 &&& (15 : Int32)) % n) : 0 ≤ p.toInt ∧ p.toInt < n.toInt := by
  have hm : (x3 &&& (15 : Int32)).toInt = x3.toInt % 16 := c_mask x3 (15 : Int32) 4 (by decide) (by decide)
  have hr := (c_irem (x3 &&& (15 : Int32)) n n.toInt rfl).1 (by omega)
  rw [← h] at hr; rw [hr]
  exact ⟨Int.emod_nonneg _ (by omega), Int.emod_lt_of_pos _ h0⟩
theorem own_sub2 {n i : Int32} (hn0 : 0 ≤ n.toInt) (hn : n.toInt < 12) (h0 : 0 ≤ i.toInt) (h : i.toInt < n.toInt) : (n - (1 : Int32) - i).toInt = n.toInt - 1 - i.toInt := by
  have e1 : (1 : Int32).toInt = 1 := by decide
  have m1 := c_isub n (1 : Int32)
  have m2 := c_isub (n - (1 : Int32)) i
  have r1 := Int32.toInt_lt (n - (1 : Int32))
  have r2 := Int32.le_toInt (n - (1 : Int32))
  have r3 := Int32.toInt_lt (n - (1 : Int32) - i)
  have r4 := Int32.le_toInt (n - (1 : Int32) - i)
  omega
theorem own_numr {n : Int32} {bs : List Int32} {a : Int64} (h1 : ¬ n = (0 : Int32)) (h2 : ¬ (10 : Int32) < n) (h : own_loop bs (0 : Int64) = a) : own_num n bs = a := by
  rw [own_num, if_neg (by rintro (q | q) <;> contradiction), h]
theorem own_ten {n : Int32} (h0 : 0 ≤ n.toInt) (h2 : ¬ (10 : Int32) < n) : n.toNatClampNeg ≤ 10 := by
  have e : (10 : Int32).toInt = 10 := by decide
  rw [Int32.lt_iff_toInt_lt] at h2
  have := own_clamp h0; omega
theorem own_ends {r : Int64} {v : Int64} (h : r.toInt = if 4294967295 < v.toInt then -1 else v.toInt) : (4294967295 < v → r = -1) ∧ (¬ 4294967295 < v → r = v) := by
  have e : (4294967295 : Int64).toInt = 4294967295 := by decide
  have e1 : (-1 : Int64).toInt = -1 := by decide
  rw [Int64.lt_iff_toInt_lt, e]
  exact ⟨fun q => by rw [if_pos q] at h; rw [← Int64.toInt_inj, h, e1], fun q => by rw [if_neg q] at h; rw [← Int64.toInt_inj, h]⟩
/-- no byte is put in -/
theorem own_lawA {x2 n : Int32} {v x : Int64} (hn : n = (x2 &&& (15 : Int32)) % (12 : Int32)) (hx : x = (v &&& (9223372036854775807 : Int64)) % own_p10 n) (h1 : ¬ n = (0 : Int32)) (h2 : ¬ (10 : Int32) < n) :
    ((4294967295 : Int64) < x → own_num n (own_fill n x) = -1) ∧ (¬ (4294967295 : Int64) < x → own_num n (own_fill n x) = x) := by
  obtain ⟨n0, n1⟩ := own_len hn
  obtain ⟨x0, x1⟩ := own_xx n0 n1 hx
  rw [own_numr h1 h2 rfl, own_fillD x n0 n1]
  have e0 : (0 : Int64).toInt = 0 := by decide
  have c := own_clamp n0
  have h := own_loop_v (own_D n.toNatClampNeg x) 0 0 (own_D_dig _ x (by omega) x0) (by decide) (by decide) (by rw [own_D_len]; have := own_ten n0 h2; omega)
  rw [e0, own_D_val _ x (by omega) x0, Int.emod_eq_of_lt x0 x1] at h
  exact own_ends h
theorem own_b8 {bb x4 : Int32} (h : bb = x4.toInt8.toInt32) : bb.toInt8.toInt32 = bb := by subst h; simp
/-- another byte than a digit is put in -/
theorem own_lawC {x2 x3 n p bb : Int32} {x : Int64} (hn : n = (x2 &&& (15 : Int32)) % (12 : Int32)) (hp : p = (x3 &&& (15 : Int32)) % n) (h1 : ¬ n = (0 : Int32)) (h2 : ¬ (10 : Int32) < n) (hb : bb < (48 : Int32) ∨ (57 : Int32) < bb) (h8 : bb.toInt8.toInt32 = bb) :
    own_num n ((own_fill n x).set p.toNatClampNeg (bb.toInt8.toInt32)) = -1 := by
  obtain ⟨n0, n1⟩ := own_len hn
  have n2 : n.toInt ≠ 0 := fun q => h1 (by rw [← Int32.toInt_inj, q]; rfl)
  obtain ⟨p0, p1⟩ := own_pos (by omega) hp
  refine own_numr h1 h2 (own_loop_bad _ _ ⟨bb, ?_, hb⟩)
  rw [h8, own_fillD x n0 n1]
  have c := own_clamp n0
  have cp := own_clamp p0
  exact List.mem_of_getElem? (i := p.toNatClampNeg) (by rw [List.getElem?_set_self (by rw [own_D_len]; omega)])
/-- a digit is put in -/
theorem own_lawB {x2 x3 n p bb : Int32} {v x vv : Int64} (hn : n = (x2 &&& (15 : Int32)) % (12 : Int32)) (hx : x = (v &&& (9223372036854775807 : Int64)) % own_p10 n) (hp : p = (x3 &&& (15 : Int32)) % n) (h1 : ¬ n = (0 : Int32)) (h2 : ¬ (10 : Int32) < n) (hb1 : ¬ bb < (48 : Int32)) (hb2 : ¬ (57 : Int32) < bb) (h8 : bb.toInt8.toInt32 = bb)
    (hv : vv = x + ((bb - (48 : Int32)).toInt64 - (x / own_p10 (n - (1 : Int32) - p)) % (10 : Int64)) * own_p10 (n - (1 : Int32) - p)) :
    ((4294967295 : Int64) < vv → own_num n ((own_fill n x).set p.toNatClampNeg (bb.toInt8.toInt32)) = -1) ∧ (¬ (4294967295 : Int64) < vv → own_num n ((own_fill n x).set p.toNatClampNeg (bb.toInt8.toInt32)) = vv) := by
  obtain ⟨n0, n1⟩ := own_len hn
  obtain ⟨x0, x1⟩ := own_xx n0 n1 hx
  have n2 : n.toInt ≠ 0 := fun q => h1 (by rw [← Int32.toInt_inj, q]; rfl)
  obtain ⟨p0, p1⟩ := own_pos (by omega) hp
  have c := own_clamp n0
  have cp := own_clamp p0
  have hk := own_sub2 n0 n1 p0 p1
  have k0 : 0 ≤ (n - (1 : Int32) - p).toInt := by omega
  have k1 : (n - (1 : Int32) - p).toInt < 12 := by omega
  have ck := own_clamp k0
  have t10 := own_ten n0 h2
  have e48 : (48 : Int32).toInt = 48 := by decide
  have e57 : (57 : Int32).toInt = 57 := by decide
  rw [Int32.lt_iff_toInt_lt] at hb1 hb2
  have hl : p.toNatClampNeg < (own_D n.toNatClampNeg x).length := by rw [own_D_len]; omega
  rw [own_numr h1 h2 rfl, own_fillD x n0 n1, h8]
  have hd : ∀ b ∈ (own_D n.toNatClampNeg x).set p.toNatClampNeg bb, 48 ≤ b.toInt ∧ b.toInt ≤ 57 := by
    intro b hb
    rcases List.mem_or_eq_of_mem_set hb with hb | rfl
    · exact own_D_dig _ x (by omega) x0 b hb
    · omega
  have e0 : (0 : Int64).toInt = 0 := by decide
  have h := own_loop_v _ 0 0 hd (by decide) (by decide) (by rw [List.length_set, own_D_len]; omega)
  have ek : Int32.ofNat (n.toNatClampNeg - 1 - p.toNatClampNeg) = n - (1 : Int32) - p := by rw [← Int32.toInt_inj, own_ofNat _ (by omega)]; omega
  rw [e0, own_val_set _ _ _ hl, own_D_val _ x (by omega) x0, Int.emod_eq_of_lt x0 x1, own_D_at, ek, own_dgv x0 k0 k1, own_D_len, show n.toNatClampNeg - 1 - p.toNatClampNeg = (n - (1 : Int32) - p).toNatClampNeg by omega] at h
  refine own_ends (h.trans ?_)
  have hvv : vv.toInt = x.toInt + (bb.toInt - (48 + x.toInt / ((10 ^ (n - (1 : Int32) - p).toNatClampNeg : Nat) : Int) % 10)) * ((10 ^ (n - (1 : Int32) - p).toNatClampNeg : Nat) : Int) := by
    have h3 := own_old x0 k0 k1
    have h4 := own_p10v k0 k1
    have m0 := c_isub bb (48 : Int32)
    have ri := Int32.toInt_lt (bb - (48 : Int32))
    have rj := Int32.le_toInt (bb - (48 : Int32))
    have m1 := c_i2l (bb - (48 : Int32))
    have m2 := c_lsub (bb - (48 : Int32)).toInt64 ((x / own_p10 (n - (1 : Int32) - p)) % (10 : Int64))
    have m3 := c_lmul ((bb - (48 : Int32)).toInt64 - (x / own_p10 (n - (1 : Int32) - p)) % (10 : Int64)) (own_p10 (n - (1 : Int32) - p))
    have m4 := c_ladd x (((bb - (48 : Int32)).toInt64 - (x / own_p10 (n - (1 : Int32) - p)) % (10 : Int64)) * own_p10 (n - (1 : Int32) - p))
    have r2 := rng64 ((bb - (48 : Int32)).toInt64 - (x / own_p10 (n - (1 : Int32) - p)) % (10 : Int64))
    have r3 := rng64 (((bb - (48 : Int32)).toInt64 - (x / own_p10 (n - (1 : Int32) - p)) % (10 : Int64)) * own_p10 (n - (1 : Int32) - p))
    have r4 := rng64 vv
    rw [← hv] at m4
    have hdv : ((bb - (48 : Int32)).toInt64 - (x / own_p10 (n - (1 : Int32) - p)) % (10 : Int64)).toInt = bb.toInt - (48 + x.toInt / ((10 ^ (n - (1 : Int32) - p).toNatClampNeg : Nat) : Int) % 10) := by omega
    rw [hdv, h4] at m3
    have hP : (10 ^ (n - (1 : Int32) - p).toNatClampNeg : Nat) ≤ 10 ^ 9 := Nat.pow_le_pow_right (by decide) (by omega)
    have hP0 : 0 < (10 ^ (n - (1 : Int32) - p).toNatClampNeg : Nat) := Nat.pow_pos (by decide)
    have hX : (10 ^ n.toNatClampNeg : Nat) ≤ 10 ^ 10 := Nat.pow_le_pow_right (by decide) (by omega)
    generalize (10 ^ (n - (1 : Int32) - p).toNatClampNeg : Nat) = P at *
    generalize hq : bb.toInt - (48 + x.toInt / (P : Int) % 10) = q at *
    have q1 : -9 ≤ q := by omega
    have q2 : q ≤ 9 := by omega
    have b1 : q * (P : Int) ≤ 9 * (P : Int) := Int.mul_le_mul_of_nonneg_right q2 (by omega)
    have b2 : -9 * (P : Int) ≤ q * (P : Int) := Int.mul_le_mul_of_nonneg_right q1 (by omega)
    generalize q * (P : Int) = w at *
    omega
  rw [hvv]
theorem own_getL (l : List Int64) (i : Nat) : (l.map Value.long).getD i (.long (0 : Int64)) = .long (l.getD i 0) := by
  simp only [List.getD_eq_getElem?_getD, List.getElem?_map]; cases l[i]? <;> rfl
theorem own_getI (l : List Int32) (i : Nat) : (l.map Value.int).getD i (.int (0 : Int32)) = .int (l.getD i 0) := by
  simp only [List.getD_eq_getElem?_getD, List.getElem?_map]; cases l[i]? <;> rfl
theorem own_padz (n : Nat) : ∀ i, ((List.replicate n (0 : Int32)).map Value.int).getD i (.int (0 : Int32)) = ([] : List Value).getD i (.int (0 : Int32)) := by
  intro i; rw [List.map_replicate]; exact pad_rep [] _ n i
theorem own_nneg {k : Int32} (h : 0 ≤ k.toInt) : ¬ k < 0 := by rw [Int32.lt_iff_toInt_lt, show (0 : Int32).toInt = 0 from rfl]; omega
theorem own_nn {k : Int32} (h : ¬ k < 0) : 0 ≤ k.toInt := by rw [Int32.lt_iff_toInt_lt, show (0 : Int32).toInt = 0 from rfl] at h; omega
theorem own_inb {k n : Int32} (h0 : 0 ≤ k.toInt) (h : k.toInt < n.toInt) : ¬ k < 0 ∧ k < n := ⟨own_nneg h0, Int32.lt_iff_toInt_lt.mpr h⟩
theorem own_clt {i n : Int32} (h0 : 0 ≤ i.toInt) (h : i < n) : i.toNatClampNeg < n.toNatClampNeg := by
  rw [Int32.lt_iff_toInt_lt] at h
  have a := own_clamp h0
  have b := own_clamp (k := n) (by omega)
  omega
theorem own_fill_len (n : Int32) (x : Int64) : (own_fill n x).length = n.toNatClampNeg := by simp only [own_fill, own_put_len, List.length_replicate]
theorem own_num0 {n : Int32} {bs : List Int32} (h : n = (0 : Int32) ∨ (10 : Int32) < n) : own_num n bs = -1 := by rw [own_num, if_pos h]
theorem own_drop {bs : List Int32} {j : Nat} (h : j < bs.length) : bs.drop j = bs.getD j 0 :: bs.drop (j + 1) := by
  rw [List.drop_eq_getElem_cons h]; simp [List.getD_eq_getElem?_getD, h]
theorem own_first {n : Int32} {bs : List Int32} (h1 : ¬ n = (0 : Int32)) (h2 : ¬ (10 : Int32) < n) : own_num n bs = own_loop (bs.drop ((0 : Int32)).toNatClampNeg) (0 : Int64) := by
  rw [own_num, if_neg (by rintro (q | q) <;> contradiction)]; rfl
theorem own_inc {i n : Int32} (h0 : 0 ≤ i.toInt) (h : i.toInt < n.toInt) : (i + (1 : Int32)).toInt = i.toInt + 1 ∧ (i + (1 : Int32)).toNatClampNeg = i.toNatClampNeg + 1 := by
  have m := c_iadd i (1 : Int32)
  have e : (1 : Int32).toInt = 1 := by decide
  have r1 := Int32.toInt_lt (i + (1 : Int32))
  have r2 := Int32.le_toInt (i + (1 : Int32))
  have r3 := Int32.toInt_lt n
  have q : (i + (1 : Int32)).toInt = i.toInt + 1 := by omega
  have a := own_clamp h0
  have b := own_clamp (k := i + (1 : Int32)) (by omega)
  exact ⟨q, by omega⟩
theorem own_bad {n i : Int32} {bs : List Int32} {acc : Int64} (hR : own_num n bs = own_loop (bs.drop i.toNatClampNeg) acc) (hlen : bs.length = n.toNatClampNeg) (h0 : 0 ≤ i.toInt) (h : i < n) (hb : bs.getD i.toNatClampNeg 0 < (48 : Int32) ∨ (57 : Int32) < bs.getD i.toNatClampNeg 0) : (-1 : Int64) = own_num n bs := by
  rw [hR, own_drop (by rw [hlen]; exact own_clt h0 h), own_loop, if_pos hb]
theorem own_next {n i : Int32} {bs : List Int32} {acc : Int64} (hR : own_num n bs = own_loop (bs.drop i.toNatClampNeg) acc) (hlen : bs.length = n.toNatClampNeg) (h0 : 0 ≤ i.toInt) (h : i < n) (h1 : ¬ bs.getD i.toNatClampNeg 0 < (48 : Int32)) (h2 : ¬ (57 : Int32) < bs.getD i.toNatClampNeg 0) :
    own_num n bs = own_loop (bs.drop (i + (1 : Int32)).toNatClampNeg) (acc * (10 : Int64) + (bs.getD i.toNatClampNeg 0).toInt64 - (48 : Int64)) := by
  rw [hR, own_drop (by rw [hlen]; exact own_clt h0 h), own_loop, if_neg (by rintro (q | q) <;> contradiction), (own_inc h0 (Int32.lt_iff_toInt_lt.mp h)).2]
theorem own_next0 {n : Int32} {bs : List Int32} (hR : own_num n bs = own_loop (bs.drop ((0 : Int32)).toNatClampNeg) (0 : Int64)) (hlen : bs.length = n.toNatClampNeg) (h : (0 : Int32) < n) (h1 : ¬ bs.getD ((0 : Int32)).toNatClampNeg 0 < (48 : Int32)) (h2 : ¬ (57 : Int32) < bs.getD ((0 : Int32)).toNatClampNeg 0) :
    own_num n bs = own_loop (bs.drop ((0 : Int32) + (1 : Int32)).toNatClampNeg) ((0 : Int64) + (bs.getD ((0 : Int32)).toNatClampNeg 0).toInt64 - (48 : Int64)) := by
  have q := own_next hR hlen (by decide) h h1 h2
  have e : (0 : Int64) * (10 : Int64) = 0 := by decide
  rw [e] at q; exact q
theorem own_00 : 0 ≤ ((0 : Int32)).toInt := by decide
theorem own_start {n : Int32} (h : 0 < n.toInt) : ((0 : Int32)).toInt + 1 + ((n.toInt.toNat - 1 : Nat) : Int) = n.toInt := by
  have e : ((0 : Int32)).toInt = 0 := by decide
  omega
theorem own_start2 {n : Int32} (h : 0 < n.toInt) : ((0 : Int32)).toInt < n.toInt := h
theorem own_end {n i : Int32} {bs : List Int32} {acc : Int64} (hR : own_num n bs = own_loop (bs.drop i.toNatClampNeg) acc) (hlen : bs.length = n.toNatClampNeg) (h0 : 0 ≤ i.toInt) (h : i.toInt = n.toInt) : own_num n bs = if (4294967295 : Int64) < acc then (-1 : Int64) else acc := by
  have a := own_clamp h0
  have b := own_clamp (k := n) (by omega)
  rw [hR, List.drop_eq_nil_of_le (by omega), own_loop]
theorem own_lt_of {i n : Int32} (h : i.toInt < n.toInt) : i < n := Int32.lt_iff_toInt_lt.mpr h
theorem own_nlt_of {i n : Int32} (h : n.toInt ≤ i.toInt) : ¬ i < n := by rw [Int32.lt_iff_toInt_lt]; omega
theorem own_zpos {n : Int32} (h : (0 : Int32) < n) : 0 < n.toInt := by rw [Int32.lt_iff_toInt_lt, show (0 : Int32).toInt = 0 from rfl] at h; exact h
theorem own_pz {n : Int32} (h1 : ¬ n = (0 : Int32)) (h0 : ¬ n < 0) : 0 < n.toInt := by
  have := own_nn h0
  have : n.toInt ≠ 0 := fun q => h1 (by rw [← Int32.toInt_inj, q]; rfl)
  omega
theorem own_nz {n : Int32} (h : 0 < n.toInt) : n ≠ 0 := by intro q; rw [q] at h; revert h; decide
theorem own_cap {n : Int32} (h0 : 0 ≤ n.toInt) (h : n.toInt < 12) : n.toNatClampNeg ≤ 11 := by have := own_clamp h0; omega
theorem own_d1_0 : decode method_2_code 0 = .ok (.bipush 12, 2) := by decide +kernel
theorem own_d1_2 : decode method_2_code 2 = .ok (.newarray .long, 2) := by decide +kernel
theorem own_d1_4 : decode method_2_code 4 = .ok (.dup, 1) := by decide +kernel
theorem own_d1_5 : decode method_2_code 5 = .ok (.iconst 0, 1) := by decide +kernel
theorem own_d1_6 : decode method_2_code 6 = .ok (.lconst 1, 1) := by decide +kernel
theorem own_d1_7 : decode method_2_code 7 = .ok (.lastore, 1) := by decide +kernel
theorem own_d1_8 : decode method_2_code 8 = .ok (.dup, 1) := by decide +kernel
theorem own_d1_9 : decode method_2_code 9 = .ok (.iconst 1, 1) := by decide +kernel
theorem own_d1_10 : decode method_2_code 10 = .ok (.ldc2_w 7, 3) := by decide +kernel
theorem own_d1_13 : decode method_2_code 13 = .ok (.lastore, 1) := by decide +kernel
theorem own_d1_14 : decode method_2_code 14 = .ok (.dup, 1) := by decide +kernel
theorem own_d1_15 : decode method_2_code 15 = .ok (.iconst 2, 1) := by decide +kernel
theorem own_d1_16 : decode method_2_code 16 = .ok (.ldc2_w 9, 3) := by decide +kernel
theorem own_d1_19 : decode method_2_code 19 = .ok (.lastore, 1) := by decide +kernel
theorem own_d1_20 : decode method_2_code 20 = .ok (.dup, 1) := by decide +kernel
theorem own_d1_21 : decode method_2_code 21 = .ok (.iconst 3, 1) := by decide +kernel
theorem own_d1_22 : decode method_2_code 22 = .ok (.ldc2_w 11, 3) := by decide +kernel
theorem own_d1_25 : decode method_2_code 25 = .ok (.lastore, 1) := by decide +kernel
theorem own_d1_26 : decode method_2_code 26 = .ok (.dup, 1) := by decide +kernel
theorem own_d1_27 : decode method_2_code 27 = .ok (.iconst 4, 1) := by decide +kernel
theorem own_d1_28 : decode method_2_code 28 = .ok (.ldc2_w 13, 3) := by decide +kernel
theorem own_d1_31 : decode method_2_code 31 = .ok (.lastore, 1) := by decide +kernel
theorem own_d1_32 : decode method_2_code 32 = .ok (.dup, 1) := by decide +kernel
theorem own_d1_33 : decode method_2_code 33 = .ok (.iconst 5, 1) := by decide +kernel
theorem own_d1_34 : decode method_2_code 34 = .ok (.ldc2_w 15, 3) := by decide +kernel
theorem own_d1_37 : decode method_2_code 37 = .ok (.lastore, 1) := by decide +kernel
theorem own_d1_38 : decode method_2_code 38 = .ok (.dup, 1) := by decide +kernel
theorem own_d1_39 : decode method_2_code 39 = .ok (.bipush 6, 2) := by decide +kernel
theorem own_d1_41 : decode method_2_code 41 = .ok (.ldc2_w 17, 3) := by decide +kernel
theorem own_d1_44 : decode method_2_code 44 = .ok (.lastore, 1) := by decide +kernel
theorem own_d1_45 : decode method_2_code 45 = .ok (.dup, 1) := by decide +kernel
theorem own_d1_46 : decode method_2_code 46 = .ok (.bipush 7, 2) := by decide +kernel
theorem own_d1_48 : decode method_2_code 48 = .ok (.ldc2_w 19, 3) := by decide +kernel
theorem own_d1_51 : decode method_2_code 51 = .ok (.lastore, 1) := by decide +kernel
theorem own_d1_52 : decode method_2_code 52 = .ok (.dup, 1) := by decide +kernel
theorem own_d1_53 : decode method_2_code 53 = .ok (.bipush 8, 2) := by decide +kernel
theorem own_d1_55 : decode method_2_code 55 = .ok (.ldc2_w 21, 3) := by decide +kernel
theorem own_d1_58 : decode method_2_code 58 = .ok (.lastore, 1) := by decide +kernel
theorem own_d1_59 : decode method_2_code 59 = .ok (.dup, 1) := by decide +kernel
theorem own_d1_60 : decode method_2_code 60 = .ok (.bipush 9, 2) := by decide +kernel
theorem own_d1_62 : decode method_2_code 62 = .ok (.ldc2_w 23, 3) := by decide +kernel
theorem own_d1_65 : decode method_2_code 65 = .ok (.lastore, 1) := by decide +kernel
theorem own_d1_66 : decode method_2_code 66 = .ok (.dup, 1) := by decide +kernel
theorem own_d1_67 : decode method_2_code 67 = .ok (.bipush 10, 2) := by decide +kernel
theorem own_d1_69 : decode method_2_code 69 = .ok (.ldc2_w 25, 3) := by decide +kernel
theorem own_d1_72 : decode method_2_code 72 = .ok (.lastore, 1) := by decide +kernel
theorem own_d1_73 : decode method_2_code 73 = .ok (.dup, 1) := by decide +kernel
theorem own_d1_74 : decode method_2_code 74 = .ok (.bipush 11, 2) := by decide +kernel
theorem own_d1_76 : decode method_2_code 76 = .ok (.ldc2_w 27, 3) := by decide +kernel
theorem own_d1_79 : decode method_2_code 79 = .ok (.lastore, 1) := by decide +kernel
theorem own_d1_80 : decode method_2_code 80 = .ok (.astore_n 1, 1) := by decide +kernel
theorem own_d1_81 : decode method_2_code 81 = .ok (.aload_n 1, 1) := by decide +kernel
theorem own_d1_82 : decode method_2_code 82 = .ok (.iload_n 0, 1) := by decide +kernel
theorem own_d1_83 : decode method_2_code 83 = .ok (.laload, 1) := by decide +kernel
theorem own_d1_84 : decode method_2_code 84 = .ok (.lreturn, 1) := by decide +kernel
theorem own_pn_com_example_tallywire_tallywire_consumers_CommandNumberPinLaw : plainName "com/example/tallywire/tallywire/consumers/CommandNumberPinLaw" = true := by first | (simp [plainName, overriddenIn]; done) | decide +kernel
def Q1 (Z : State) (pk : Int32) (h0 : Heap) (n0 : Nat) (v : Option Value) (h : Heap) (L : List Loc) : Prop := v = some (.long (own_p10 pk)) ∧ Fr n0 L ∧ Keep h0 h []
set_option maxRecDepth 65536 in
set_option maxHeartbeats 40000000 in
theorem rm1 (l : Launch) (Z : State) (a0 : Array Value) (hw : ∀ d ∈ tables_1, d.before a0 Z = true) (ws : List Jvm.Cond) (pk : Int32) (h0 : Heap) (n0 : Nat) (Z0 : n0 ≤ h0.size) (hk0 : 0 ≤ pk.toInt) (hk1 : pk.toInt < 12) :
    MetFree l (⟨"com/example/tallywire/tallywire/consumers/CommandNumberPinLaw", "pow10", "(I)J"⟩ : MethodName) (head1 (Jvm.Cond.code (⟨"com/example/tallywire/tallywire/consumers/CommandNumberPinLaw", "pow10", "(I)J"⟩ : MethodName) method_2_code 2 (some .long) :: ws) ({ frames := 0, cells := 1, slots := 12, locals := 0 } : Room)) (fun a U => a = #[(.int pk)] ∧ Z.Warmed39 U.vm ∧ U.heap = h0) (fun _ _ _ _ _ => True) (fun _ U o U' => ∃ v L, o = .returned v ∧ Q1 Z pk h0 n0 v U'.heap L ∧ FrameEnd U o U' L ({ frames := 0, cells := 1, slots := 12, locals := 0 } : Room).cells ({ frames := 0, cells := 1, slots := 12, locals := 0 } : Room).slots) := by
  refine MetFree.of_bodySF (plainFor_of_name own_pn_com_example_tallywire_tallywire_consumers_CommandNumberPinLaw) hisR ?_
  intro p e s m args below meth c s₁ Bd hml0 hP hK
  obtain ⟨rfl, hZ, hh⟩ := hP
  have hx := Bd.exec
  have hby := Bd.bytes
  have hml : c.maxLocals = 2 := hml0
  have hlk := Bd.notSynchronized
  have hown : s.vm.findClass "com/example/tallywire/tallywire/consumers/CommandNumberPinLaw" = some m.cls := findClass_of_methodNamed Bd.named
  have hnm := (name_of_methodNamed Bd.named Bd.method).1
  have X0 : Stand p l e ({ frames := 0, cells := 1, slots := 12, locals := 0 } : Room) s m #[(.int pk)] below meth c s₁ [] 0 0 := Stand.of_body Bd
  have e0 : s₁.heap = h0 := by rw [← hh, Bd.state]; rfl
  have N0 := Fr.nil n0
  have K0 : Keep h0 h0 [] := Keep.refl _ _
  refine own_enter (P := (Done s ({ frames := 0, cells := 1, slots := 12, locals := 0 } : Room).cells ({ frames := 0, cells := 1, slots := 12, locals := 0 } : Room).slots (Q1 Z pk h0 n0))) (Ls := #[.val (.int pk), .unset]) (by first | (simp [entryFrame, mkF, argsToLocals, Value.category]; done) | rfl) ?_
  refine own_bipush X0 hx 2 rfl (12 : Int32) (hb hby own_d1_0) (by decide) ?_
  obtain ⟨T1, h1, k1, X1, e1, E1, A1, st1⟩ := newP X0 hx hZ (hw _ (List.mem_of_getElem? (i := 5) rfl)) e0 (g := (mkF m 2 #[.val (.int pk), .unset] [(.int (12 : Int32))])) rfl (hb hby own_d1_2) rfl (by decide) (cap := 12) (by decide) (by decide) (by decide) (by decide)
  obtain ⟨b1, g1⟩ : ∃ z, z = h0.size := ⟨_, rfl⟩
  rw [← g1] at A1 st1
  have G1 : n0 ≤ b1 := Nat.le_trans Z0 (Nat.le_of_eq g1.symm)
  have H1 : h0.size ≤ b1 := Nat.le_trans K0.1 (Nat.le_of_eq g1.symm)
  have K1 := K0.ext E1
  have Z1 := Nat.le_trans Z0 E1.1
  have V1 : Arv Z h1 b1 k1 .long (12 : Int32) [(.long (0 : Int64)), (.long (0 : Int64)), (.long (0 : Int64)), (.long (0 : Int64)), (.long (0 : Int64)), (.long (0 : Int64)), (.long (0 : Int64)), (.long (0 : Int64)), (.long (0 : Int64)), (.long (0 : Int64)), (.long (0 : Int64)), (.long (0 : Int64))] (.long (0 : Int64)) := (Arv.new A1 (by decide)).pad (pad_rep [] (.long (0 : Int64)) 12)
  refine Goes.go st1 ?_
  show Goes p e below _ T1 (mkF m 4 #[.val (.int pk), .unset] [(.ref b1)])
  refine own_dup X1 hx 5 rfl (hb hby own_d1_4) rfl ?_
  refine own_iconst X1 hx 6 rfl (0 : Int32) (hb hby own_d1_5) (by decide) ?_
  refine own_lconst X1 hx 7 rfl (1 : Int64) (hb hby own_d1_6) (by decide) ?_
  obtain ⟨cl2, Ar2, qq2, S2, NN2, HH2, GG2⟩ := id V1
  have hin2 : ¬ ((0 : Int32) < 0 ∨ cl2.slots.size ≤ ((0 : Int32)).toNatClampNeg) := inb_of S2 ⟨by decide, by decide⟩
  obtain ⟨T2, h2, X2, e2, W2, st2⟩ := stJ X1 hx hZ e1 Ar2 (j := (0 : Int32)) hin2 (g := (mkF m 7 #[.val (.int pk), .unset] [(.long (1 : Int64)), (.int (0 : Int32)), (.ref b1), (.ref b1)])) rfl rfl (hb hby own_d1_7)
  have V2 : Arv Z h2 b1 k1 .long (12 : Int32) [(.long (1 : Int64)), (.long (0 : Int64)), (.long (0 : Int64)), (.long (0 : Int64)), (.long (0 : Int64)), (.long (0 : Int64)), (.long (0 : Int64)), (.long (0 : Int64)), (.long (0 : Int64)), (.long (0 : Int64)), (.long (0 : Int64)), (.long (0 : Int64))] (.long (0 : Int64)) := Arv.set Ar2 qq2 S2 NN2 HH2 GG2 rfl W2 0 rfl (Nat.le_of_ble_eq_true rfl)
  have N2 := Fr.snoc X2 N0 G1
  have K2 := K1.wr W2 (Or.inr H1)
  have Z2 := Nat.le_trans Z1 (Nat.le_of_eq W2.size.symm)
  refine Goes.go st2 ?_
  show Goes p e below _ T2 (mkF m 8 #[.val (.int pk), .unset] [(.ref b1)])
  refine own_dup X2 hx 9 rfl (hb hby own_d1_8) rfl ?_
  refine own_iconst X2 hx 10 rfl (1 : Int32) (hb hby own_d1_9) (by decide) ?_
  refine Goes.go (X2.ldc2Long hx hown (mvT hZ (hw _ (List.mem_of_getElem? (i := 6) rfl))) (g := (mkF m 10 #[.val (.int pk), .unset] [(.int (1 : Int32)), (.ref b1), (.ref b1)])) rfl (hb hby own_d1_10)) ?_
  show Goes p e below _ T2 (mkF m 13 #[.val (.int pk), .unset] [(.long (10 : Int64)), (.int (1 : Int32)), (.ref b1), (.ref b1)])
  obtain ⟨cl3, Ar3, qq3, S3, NN3, HH3, GG3⟩ := id V2
  have hin3 : ¬ ((1 : Int32) < 0 ∨ cl3.slots.size ≤ ((1 : Int32)).toNatClampNeg) := inb_of S3 ⟨by decide, by decide⟩
  obtain ⟨T3, h3, X3, e3, W3, st3⟩ := stJ X2 hx hZ e2 Ar3 (j := (1 : Int32)) hin3 (g := (mkF m 13 #[.val (.int pk), .unset] [(.long (10 : Int64)), (.int (1 : Int32)), (.ref b1), (.ref b1)])) rfl rfl (hb hby own_d1_13)
  have V3 : Arv Z h3 b1 k1 .long (12 : Int32) [(.long (1 : Int64)), (.long (10 : Int64)), (.long (0 : Int64)), (.long (0 : Int64)), (.long (0 : Int64)), (.long (0 : Int64)), (.long (0 : Int64)), (.long (0 : Int64)), (.long (0 : Int64)), (.long (0 : Int64)), (.long (0 : Int64)), (.long (0 : Int64))] (.long (0 : Int64)) := Arv.set Ar3 qq3 S3 NN3 HH3 GG3 rfl W3 1 rfl (Nat.le_of_ble_eq_true rfl)
  have N3 := Fr.snoc X3 N2 G1
  have K3 := K2.wr W3 (Or.inr H1)
  have Z3 := Nat.le_trans Z2 (Nat.le_of_eq W3.size.symm)
  refine Goes.go st3 ?_
  show Goes p e below _ T3 (mkF m 14 #[.val (.int pk), .unset] [(.ref b1)])
  refine own_dup X3 hx 15 rfl (hb hby own_d1_14) rfl ?_
  refine own_iconst X3 hx 16 rfl (2 : Int32) (hb hby own_d1_15) (by decide) ?_
  refine Goes.go (X3.ldc2Long hx hown (mvT hZ (hw _ (List.mem_of_getElem? (i := 7) rfl))) (g := (mkF m 16 #[.val (.int pk), .unset] [(.int (2 : Int32)), (.ref b1), (.ref b1)])) rfl (hb hby own_d1_16)) ?_
  show Goes p e below _ T3 (mkF m 19 #[.val (.int pk), .unset] [(.long (100 : Int64)), (.int (2 : Int32)), (.ref b1), (.ref b1)])
  obtain ⟨cl4, Ar4, qq4, S4, NN4, HH4, GG4⟩ := id V3
  have hin4 : ¬ ((2 : Int32) < 0 ∨ cl4.slots.size ≤ ((2 : Int32)).toNatClampNeg) := inb_of S4 ⟨by decide, by decide⟩
  obtain ⟨T4, h4, X4, e4, W4, st4⟩ := stJ X3 hx hZ e3 Ar4 (j := (2 : Int32)) hin4 (g := (mkF m 19 #[.val (.int pk), .unset] [(.long (100 : Int64)), (.int (2 : Int32)), (.ref b1), (.ref b1)])) rfl rfl (hb hby own_d1_19)
  have V4 : Arv Z h4 b1 k1 .long (12 : Int32) [(.long (1 : Int64)), (.long (10 : Int64)), (.long (100 : Int64)), (.long (0 : Int64)), (.long (0 : Int64)), (.long (0 : Int64)), (.long (0 : Int64)), (.long (0 : Int64)), (.long (0 : Int64)), (.long (0 : Int64)), (.long (0 : Int64)), (.long (0 : Int64))] (.long (0 : Int64)) := Arv.set Ar4 qq4 S4 NN4 HH4 GG4 rfl W4 2 rfl (Nat.le_of_ble_eq_true rfl)
  have N4 := Fr.snoc X4 N3 G1
  have K4 := K3.wr W4 (Or.inr H1)
  have Z4 := Nat.le_trans Z3 (Nat.le_of_eq W4.size.symm)
  refine Goes.go st4 ?_
  show Goes p e below _ T4 (mkF m 20 #[.val (.int pk), .unset] [(.ref b1)])
  refine own_dup X4 hx 21 rfl (hb hby own_d1_20) rfl ?_
  refine own_iconst X4 hx 22 rfl (3 : Int32) (hb hby own_d1_21) (by decide) ?_
  refine Goes.go (X4.ldc2Long hx hown (mvT hZ (hw _ (List.mem_of_getElem? (i := 8) rfl))) (g := (mkF m 22 #[.val (.int pk), .unset] [(.int (3 : Int32)), (.ref b1), (.ref b1)])) rfl (hb hby own_d1_22)) ?_
  show Goes p e below _ T4 (mkF m 25 #[.val (.int pk), .unset] [(.long (1000 : Int64)), (.int (3 : Int32)), (.ref b1), (.ref b1)])
  obtain ⟨cl5, Ar5, qq5, S5, NN5, HH5, GG5⟩ := id V4
  have hin5 : ¬ ((3 : Int32) < 0 ∨ cl5.slots.size ≤ ((3 : Int32)).toNatClampNeg) := inb_of S5 ⟨by decide, by decide⟩
  obtain ⟨T5, h5, X5, e5, W5, st5⟩ := stJ X4 hx hZ e4 Ar5 (j := (3 : Int32)) hin5 (g := (mkF m 25 #[.val (.int pk), .unset] [(.long (1000 : Int64)), (.int (3 : Int32)), (.ref b1), (.ref b1)])) rfl rfl (hb hby own_d1_25)
  have V5 : Arv Z h5 b1 k1 .long (12 : Int32) [(.long (1 : Int64)), (.long (10 : Int64)), (.long (100 : Int64)), (.long (1000 : Int64)), (.long (0 : Int64)), (.long (0 : Int64)), (.long (0 : Int64)), (.long (0 : Int64)), (.long (0 : Int64)), (.long (0 : Int64)), (.long (0 : Int64)), (.long (0 : Int64))] (.long (0 : Int64)) := Arv.set Ar5 qq5 S5 NN5 HH5 GG5 rfl W5 3 rfl (Nat.le_of_ble_eq_true rfl)
  have N5 := Fr.snoc X5 N4 G1
  have K5 := K4.wr W5 (Or.inr H1)
  have Z5 := Nat.le_trans Z4 (Nat.le_of_eq W5.size.symm)
  refine Goes.go st5 ?_
  show Goes p e below _ T5 (mkF m 26 #[.val (.int pk), .unset] [(.ref b1)])
  refine own_dup X5 hx 27 rfl (hb hby own_d1_26) rfl ?_
  refine own_iconst X5 hx 28 rfl (4 : Int32) (hb hby own_d1_27) (by decide) ?_
  refine Goes.go (X5.ldc2Long hx hown (mvT hZ (hw _ (List.mem_of_getElem? (i := 9) rfl))) (g := (mkF m 28 #[.val (.int pk), .unset] [(.int (4 : Int32)), (.ref b1), (.ref b1)])) rfl (hb hby own_d1_28)) ?_
  show Goes p e below _ T5 (mkF m 31 #[.val (.int pk), .unset] [(.long (10000 : Int64)), (.int (4 : Int32)), (.ref b1), (.ref b1)])
  obtain ⟨cl6, Ar6, qq6, S6, NN6, HH6, GG6⟩ := id V5
  have hin6 : ¬ ((4 : Int32) < 0 ∨ cl6.slots.size ≤ ((4 : Int32)).toNatClampNeg) := inb_of S6 ⟨by decide, by decide⟩
  obtain ⟨T6, h6, X6, e6, W6, st6⟩ := stJ X5 hx hZ e5 Ar6 (j := (4 : Int32)) hin6 (g := (mkF m 31 #[.val (.int pk), .unset] [(.long (10000 : Int64)), (.int (4 : Int32)), (.ref b1), (.ref b1)])) rfl rfl (hb hby own_d1_31)
  have V6 : Arv Z h6 b1 k1 .long (12 : Int32) [(.long (1 : Int64)), (.long (10 : Int64)), (.long (100 : Int64)), (.long (1000 : Int64)), (.long (10000 : Int64)), (.long (0 : Int64)), (.long (0 : Int64)), (.long (0 : Int64)), (.long (0 : Int64)), (.long (0 : Int64)), (.long (0 : Int64)), (.long (0 : Int64))] (.long (0 : Int64)) := Arv.set Ar6 qq6 S6 NN6 HH6 GG6 rfl W6 4 rfl (Nat.le_of_ble_eq_true rfl)
  have N6 := Fr.snoc X6 N5 G1
  have K6 := K5.wr W6 (Or.inr H1)
  have Z6 := Nat.le_trans Z5 (Nat.le_of_eq W6.size.symm)
  refine Goes.go st6 ?_
  show Goes p e below _ T6 (mkF m 32 #[.val (.int pk), .unset] [(.ref b1)])
  refine own_dup X6 hx 33 rfl (hb hby own_d1_32) rfl ?_
  refine own_iconst X6 hx 34 rfl (5 : Int32) (hb hby own_d1_33) (by decide) ?_
  refine Goes.go (X6.ldc2Long hx hown (mvT hZ (hw _ (List.mem_of_getElem? (i := 10) rfl))) (g := (mkF m 34 #[.val (.int pk), .unset] [(.int (5 : Int32)), (.ref b1), (.ref b1)])) rfl (hb hby own_d1_34)) ?_
  show Goes p e below _ T6 (mkF m 37 #[.val (.int pk), .unset] [(.long (100000 : Int64)), (.int (5 : Int32)), (.ref b1), (.ref b1)])
  obtain ⟨cl7, Ar7, qq7, S7, NN7, HH7, GG7⟩ := id V6
  have hin7 : ¬ ((5 : Int32) < 0 ∨ cl7.slots.size ≤ ((5 : Int32)).toNatClampNeg) := inb_of S7 ⟨by decide, by decide⟩
  obtain ⟨T7, h7, X7, e7, W7, st7⟩ := stJ X6 hx hZ e6 Ar7 (j := (5 : Int32)) hin7 (g := (mkF m 37 #[.val (.int pk), .unset] [(.long (100000 : Int64)), (.int (5 : Int32)), (.ref b1), (.ref b1)])) rfl rfl (hb hby own_d1_37)
  have V7 : Arv Z h7 b1 k1 .long (12 : Int32) [(.long (1 : Int64)), (.long (10 : Int64)), (.long (100 : Int64)), (.long (1000 : Int64)), (.long (10000 : Int64)), (.long (100000 : Int64)), (.long (0 : Int64)), (.long (0 : Int64)), (.long (0 : Int64)), (.long (0 : Int64)), (.long (0 : Int64)), (.long (0 : Int64))] (.long (0 : Int64)) := Arv.set Ar7 qq7 S7 NN7 HH7 GG7 rfl W7 5 rfl (Nat.le_of_ble_eq_true rfl)
  have N7 := Fr.snoc X7 N6 G1
  have K7 := K6.wr W7 (Or.inr H1)
  have Z7 := Nat.le_trans Z6 (Nat.le_of_eq W7.size.symm)
  refine Goes.go st7 ?_
  show Goes p e below _ T7 (mkF m 38 #[.val (.int pk), .unset] [(.ref b1)])
  refine own_dup X7 hx 39 rfl (hb hby own_d1_38) rfl ?_
  refine own_bipush X7 hx 41 rfl (6 : Int32) (hb hby own_d1_39) (by decide) ?_
  refine Goes.go (X7.ldc2Long hx hown (mvT hZ (hw _ (List.mem_of_getElem? (i := 11) rfl))) (g := (mkF m 41 #[.val (.int pk), .unset] [(.int (6 : Int32)), (.ref b1), (.ref b1)])) rfl (hb hby own_d1_41)) ?_
  show Goes p e below _ T7 (mkF m 44 #[.val (.int pk), .unset] [(.long (1000000 : Int64)), (.int (6 : Int32)), (.ref b1), (.ref b1)])
  obtain ⟨cl8, Ar8, qq8, S8, NN8, HH8, GG8⟩ := id V7
  have hin8 : ¬ ((6 : Int32) < 0 ∨ cl8.slots.size ≤ ((6 : Int32)).toNatClampNeg) := inb_of S8 ⟨by decide, by decide⟩
  obtain ⟨T8, h8, X8, e8, W8, st8⟩ := stJ X7 hx hZ e7 Ar8 (j := (6 : Int32)) hin8 (g := (mkF m 44 #[.val (.int pk), .unset] [(.long (1000000 : Int64)), (.int (6 : Int32)), (.ref b1), (.ref b1)])) rfl rfl (hb hby own_d1_44)
  have V8 : Arv Z h8 b1 k1 .long (12 : Int32) [(.long (1 : Int64)), (.long (10 : Int64)), (.long (100 : Int64)), (.long (1000 : Int64)), (.long (10000 : Int64)), (.long (100000 : Int64)), (.long (1000000 : Int64)), (.long (0 : Int64)), (.long (0 : Int64)), (.long (0 : Int64)), (.long (0 : Int64)), (.long (0 : Int64))] (.long (0 : Int64)) := Arv.set Ar8 qq8 S8 NN8 HH8 GG8 rfl W8 6 rfl (Nat.le_of_ble_eq_true rfl)
  have N8 := Fr.snoc X8 N7 G1
  have K8 := K7.wr W8 (Or.inr H1)
  have Z8 := Nat.le_trans Z7 (Nat.le_of_eq W8.size.symm)
  refine Goes.go st8 ?_
  show Goes p e below _ T8 (mkF m 45 #[.val (.int pk), .unset] [(.ref b1)])
  refine own_dup X8 hx 46 rfl (hb hby own_d1_45) rfl ?_
  refine own_bipush X8 hx 48 rfl (7 : Int32) (hb hby own_d1_46) (by decide) ?_
  refine Goes.go (X8.ldc2Long hx hown (mvT hZ (hw _ (List.mem_of_getElem? (i := 12) rfl))) (g := (mkF m 48 #[.val (.int pk), .unset] [(.int (7 : Int32)), (.ref b1), (.ref b1)])) rfl (hb hby own_d1_48)) ?_
  show Goes p e below _ T8 (mkF m 51 #[.val (.int pk), .unset] [(.long (10000000 : Int64)), (.int (7 : Int32)), (.ref b1), (.ref b1)])
  obtain ⟨cl9, Ar9, qq9, S9, NN9, HH9, GG9⟩ := id V8
  have hin9 : ¬ ((7 : Int32) < 0 ∨ cl9.slots.size ≤ ((7 : Int32)).toNatClampNeg) := inb_of S9 ⟨by decide, by decide⟩
  obtain ⟨T9, h9, X9, e9, W9, st9⟩ := stJ X8 hx hZ e8 Ar9 (j := (7 : Int32)) hin9 (g := (mkF m 51 #[.val (.int pk), .unset] [(.long (10000000 : Int64)), (.int (7 : Int32)), (.ref b1), (.ref b1)])) rfl rfl (hb hby own_d1_51)
  have V9 : Arv Z h9 b1 k1 .long (12 : Int32) [(.long (1 : Int64)), (.long (10 : Int64)), (.long (100 : Int64)), (.long (1000 : Int64)), (.long (10000 : Int64)), (.long (100000 : Int64)), (.long (1000000 : Int64)), (.long (10000000 : Int64)), (.long (0 : Int64)), (.long (0 : Int64)), (.long (0 : Int64)), (.long (0 : Int64))] (.long (0 : Int64)) := Arv.set Ar9 qq9 S9 NN9 HH9 GG9 rfl W9 7 rfl (Nat.le_of_ble_eq_true rfl)
  have N9 := Fr.snoc X9 N8 G1
  have K9 := K8.wr W9 (Or.inr H1)
  have Z9 := Nat.le_trans Z8 (Nat.le_of_eq W9.size.symm)
  refine Goes.go st9 ?_
  show Goes p e below _ T9 (mkF m 52 #[.val (.int pk), .unset] [(.ref b1)])
  refine own_dup X9 hx 53 rfl (hb hby own_d1_52) rfl ?_
  refine own_bipush X9 hx 55 rfl (8 : Int32) (hb hby own_d1_53) (by decide) ?_
  refine Goes.go (X9.ldc2Long hx hown (mvT hZ (hw _ (List.mem_of_getElem? (i := 13) rfl))) (g := (mkF m 55 #[.val (.int pk), .unset] [(.int (8 : Int32)), (.ref b1), (.ref b1)])) rfl (hb hby own_d1_55)) ?_
  show Goes p e below _ T9 (mkF m 58 #[.val (.int pk), .unset] [(.long (100000000 : Int64)), (.int (8 : Int32)), (.ref b1), (.ref b1)])
  obtain ⟨cl10, Ar10, qq10, S10, NN10, HH10, GG10⟩ := id V9
  have hin10 : ¬ ((8 : Int32) < 0 ∨ cl10.slots.size ≤ ((8 : Int32)).toNatClampNeg) := inb_of S10 ⟨by decide, by decide⟩
  obtain ⟨T10, h10, X10, e10, W10, st10⟩ := stJ X9 hx hZ e9 Ar10 (j := (8 : Int32)) hin10 (g := (mkF m 58 #[.val (.int pk), .unset] [(.long (100000000 : Int64)), (.int (8 : Int32)), (.ref b1), (.ref b1)])) rfl rfl (hb hby own_d1_58)
  have V10 : Arv Z h10 b1 k1 .long (12 : Int32) [(.long (1 : Int64)), (.long (10 : Int64)), (.long (100 : Int64)), (.long (1000 : Int64)), (.long (10000 : Int64)), (.long (100000 : Int64)), (.long (1000000 : Int64)), (.long (10000000 : Int64)), (.long (100000000 : Int64)), (.long (0 : Int64)), (.long (0 : Int64)), (.long (0 : Int64))] (.long (0 : Int64)) := Arv.set Ar10 qq10 S10 NN10 HH10 GG10 rfl W10 8 rfl (Nat.le_of_ble_eq_true rfl)
  have N10 := Fr.snoc X10 N9 G1
  have K10 := K9.wr W10 (Or.inr H1)
  have Z10 := Nat.le_trans Z9 (Nat.le_of_eq W10.size.symm)
  refine Goes.go st10 ?_
  show Goes p e below _ T10 (mkF m 59 #[.val (.int pk), .unset] [(.ref b1)])
  refine own_dup X10 hx 60 rfl (hb hby own_d1_59) rfl ?_
  refine own_bipush X10 hx 62 rfl (9 : Int32) (hb hby own_d1_60) (by decide) ?_
  refine Goes.go (X10.ldc2Long hx hown (mvT hZ (hw _ (List.mem_of_getElem? (i := 14) rfl))) (g := (mkF m 62 #[.val (.int pk), .unset] [(.int (9 : Int32)), (.ref b1), (.ref b1)])) rfl (hb hby own_d1_62)) ?_
  show Goes p e below _ T10 (mkF m 65 #[.val (.int pk), .unset] [(.long (1000000000 : Int64)), (.int (9 : Int32)), (.ref b1), (.ref b1)])
  obtain ⟨cl11, Ar11, qq11, S11, NN11, HH11, GG11⟩ := id V10
  have hin11 : ¬ ((9 : Int32) < 0 ∨ cl11.slots.size ≤ ((9 : Int32)).toNatClampNeg) := inb_of S11 ⟨by decide, by decide⟩
  obtain ⟨T11, h11, X11, e11, W11, st11⟩ := stJ X10 hx hZ e10 Ar11 (j := (9 : Int32)) hin11 (g := (mkF m 65 #[.val (.int pk), .unset] [(.long (1000000000 : Int64)), (.int (9 : Int32)), (.ref b1), (.ref b1)])) rfl rfl (hb hby own_d1_65)
  have V11 : Arv Z h11 b1 k1 .long (12 : Int32) [(.long (1 : Int64)), (.long (10 : Int64)), (.long (100 : Int64)), (.long (1000 : Int64)), (.long (10000 : Int64)), (.long (100000 : Int64)), (.long (1000000 : Int64)), (.long (10000000 : Int64)), (.long (100000000 : Int64)), (.long (1000000000 : Int64)), (.long (0 : Int64)), (.long (0 : Int64))] (.long (0 : Int64)) := Arv.set Ar11 qq11 S11 NN11 HH11 GG11 rfl W11 9 rfl (Nat.le_of_ble_eq_true rfl)
  have N11 := Fr.snoc X11 N10 G1
  have K11 := K10.wr W11 (Or.inr H1)
  have Z11 := Nat.le_trans Z10 (Nat.le_of_eq W11.size.symm)
  refine Goes.go st11 ?_
  show Goes p e below _ T11 (mkF m 66 #[.val (.int pk), .unset] [(.ref b1)])
  refine own_dup X11 hx 67 rfl (hb hby own_d1_66) rfl ?_
  refine own_bipush X11 hx 69 rfl (10 : Int32) (hb hby own_d1_67) (by decide) ?_
  refine Goes.go (X11.ldc2Long hx hown (mvT hZ (hw _ (List.mem_of_getElem? (i := 15) rfl))) (g := (mkF m 69 #[.val (.int pk), .unset] [(.int (10 : Int32)), (.ref b1), (.ref b1)])) rfl (hb hby own_d1_69)) ?_
  show Goes p e below _ T11 (mkF m 72 #[.val (.int pk), .unset] [(.long (10000000000 : Int64)), (.int (10 : Int32)), (.ref b1), (.ref b1)])
  obtain ⟨cl12, Ar12, qq12, S12, NN12, HH12, GG12⟩ := id V11
  have hin12 : ¬ ((10 : Int32) < 0 ∨ cl12.slots.size ≤ ((10 : Int32)).toNatClampNeg) := inb_of S12 ⟨by decide, by decide⟩
  obtain ⟨T12, h12, X12, e12, W12, st12⟩ := stJ X11 hx hZ e11 Ar12 (j := (10 : Int32)) hin12 (g := (mkF m 72 #[.val (.int pk), .unset] [(.long (10000000000 : Int64)), (.int (10 : Int32)), (.ref b1), (.ref b1)])) rfl rfl (hb hby own_d1_72)
  have V12 : Arv Z h12 b1 k1 .long (12 : Int32) [(.long (1 : Int64)), (.long (10 : Int64)), (.long (100 : Int64)), (.long (1000 : Int64)), (.long (10000 : Int64)), (.long (100000 : Int64)), (.long (1000000 : Int64)), (.long (10000000 : Int64)), (.long (100000000 : Int64)), (.long (1000000000 : Int64)), (.long (10000000000 : Int64)), (.long (0 : Int64))] (.long (0 : Int64)) := Arv.set Ar12 qq12 S12 NN12 HH12 GG12 rfl W12 10 rfl (Nat.le_of_ble_eq_true rfl)
  have N12 := Fr.snoc X12 N11 G1
  have K12 := K11.wr W12 (Or.inr H1)
  have Z12 := Nat.le_trans Z11 (Nat.le_of_eq W12.size.symm)
  refine Goes.go st12 ?_
  show Goes p e below _ T12 (mkF m 73 #[.val (.int pk), .unset] [(.ref b1)])
  refine own_dup X12 hx 74 rfl (hb hby own_d1_73) rfl ?_
  refine own_bipush X12 hx 76 rfl (11 : Int32) (hb hby own_d1_74) (by decide) ?_
  refine Goes.go (X12.ldc2Long hx hown (mvT hZ (hw _ (List.mem_of_getElem? (i := 16) rfl))) (g := (mkF m 76 #[.val (.int pk), .unset] [(.int (11 : Int32)), (.ref b1), (.ref b1)])) rfl (hb hby own_d1_76)) ?_
  show Goes p e below _ T12 (mkF m 79 #[.val (.int pk), .unset] [(.long (100000000000 : Int64)), (.int (11 : Int32)), (.ref b1), (.ref b1)])
  obtain ⟨cl13, Ar13, qq13, S13, NN13, HH13, GG13⟩ := id V12
  have hin13 : ¬ ((11 : Int32) < 0 ∨ cl13.slots.size ≤ ((11 : Int32)).toNatClampNeg) := inb_of S13 ⟨by decide, by decide⟩
  obtain ⟨T13, h13, X13, e13, W13, st13⟩ := stJ X12 hx hZ e12 Ar13 (j := (11 : Int32)) hin13 (g := (mkF m 79 #[.val (.int pk), .unset] [(.long (100000000000 : Int64)), (.int (11 : Int32)), (.ref b1), (.ref b1)])) rfl rfl (hb hby own_d1_79)
  have V13 : Arv Z h13 b1 k1 .long (12 : Int32) [(.long (1 : Int64)), (.long (10 : Int64)), (.long (100 : Int64)), (.long (1000 : Int64)), (.long (10000 : Int64)), (.long (100000 : Int64)), (.long (1000000 : Int64)), (.long (10000000 : Int64)), (.long (100000000 : Int64)), (.long (1000000000 : Int64)), (.long (10000000000 : Int64)), (.long (100000000000 : Int64))] (.long (0 : Int64)) := Arv.set Ar13 qq13 S13 NN13 HH13 GG13 rfl W13 11 rfl (Nat.le_of_ble_eq_true rfl)
  have N13 := Fr.snoc X13 N12 G1
  have K13 := K12.wr W13 (Or.inr H1)
  have Z13 := Nat.le_trans Z12 (Nat.le_of_eq W13.size.symm)
  refine Goes.go st13 ?_
  show Goes p e below _ T13 (mkF m 80 #[.val (.int pk), .unset] [(.ref b1)])
  refine own_astoreN X13 hx 81 rfl #[.val (.int pk), .val (.ref b1)] (hb hby own_d1_80) rfl rfl ?_
  refine own_aloadN X13 hx 82 rfl (hb hby own_d1_81) rfl rfl ?_
  refine own_iloadN X13 hx 83 rfl (hb hby own_d1_82) rfl ?_
  obtain ⟨cl14, Ar14, qq14, S14, NN14, HH14, GG14⟩ := id V13
  have hin14 : ¬ (pk < 0 ∨ cl14.slots.size ≤ (pk).toNatClampNeg) := inb_of S14 (own_inb hk0 hk1)
  have hat14 : cl14.slots[(pk).toNatClampNeg]? = some (.long (own_p10 pk)) := HH14.at hin14 (own_getL own_P _)
  refine Goes.go (X13.laload hx (j := pk) (v := (.long (own_p10 pk))) (by rw [e13]; exact Ar14.1) (State.isArrayOf_alike hZ.alike Ar14.2.1) Ar14.2.2 hin14 hat14 (g := (mkF m 83 #[.val (.int pk), .val (.ref b1)] [(.int pk), (.ref b1)])) rfl rfl (hb hby own_d1_83)) ?_
  show Goes p e below _ T13 (mkF m 84 #[.val (.int pk), .val (.ref b1)] [(.long (own_p10 pk))])
  refine own_retJ X13 hx hlk Bd.returns (hb hby own_d1_84) (by decide) (by decide) e13 ?_
  exact ⟨rfl, N13, K13⟩
theorem own_pd0 : parseMethodDescriptor "(I)J" = some ⟨[.int], some .long⟩ := by decide +kernel
theorem own_d2_0 : decode method_3_code 0 = .ok (.aload_n 0, 1) := by decide +kernel
theorem own_d2_1 : decode method_3_code 1 = .ok (.arraylength, 1) := by decide +kernel
theorem own_d2_2 : decode method_3_code 2 = .ok (.istore 4, 2) := by decide +kernel
theorem own_d2_4 : decode method_3_code 4 = .ok (.iload_n 3, 1) := by decide +kernel
theorem own_d2_5 : decode method_3_code 5 = .ok (.iload 4, 2) := by decide +kernel
theorem own_d2_7 : decode method_3_code 7 = .ok (.if_icmp .ge 27, 3) := by decide +kernel
theorem own_d2_10 : decode method_3_code 10 = .ok (.aload_n 0, 1) := by decide +kernel
theorem own_d2_11 : decode method_3_code 11 = .ok (.iload_n 3, 1) := by decide +kernel
theorem own_d2_12 : decode method_3_code 12 = .ok (.ldc2_w 29, 3) := by decide +kernel
theorem own_d2_15 : decode method_3_code 15 = .ok (.lload_n 1, 1) := by decide +kernel
theorem own_d2_16 : decode method_3_code 16 = .ok (.iload 4, 2) := by decide +kernel
theorem own_d2_18 : decode method_3_code 18 = .ok (.iconst 1, 1) := by decide +kernel
theorem own_d2_19 : decode method_3_code 19 = .ok (.isub, 1) := by decide +kernel
theorem own_d2_20 : decode method_3_code 20 = .ok (.iload_n 3, 1) := by decide +kernel
theorem own_d2_21 : decode method_3_code 21 = .ok (.isub, 1) := by decide +kernel
theorem own_d2_22 : decode method_3_code 22 = .ok (.invokestatic 31, 3) := by decide +kernel
theorem own_d2_25 : decode method_3_code 25 = .ok (.ldiv, 1) := by decide +kernel
theorem own_d2_26 : decode method_3_code 26 = .ok (.ldc2_w 7, 3) := by decide +kernel
theorem own_d2_29 : decode method_3_code 29 = .ok (.lrem, 1) := by decide +kernel
theorem own_d2_30 : decode method_3_code 30 = .ok (.ladd, 1) := by decide +kernel
theorem own_d2_31 : decode method_3_code 31 = .ok (.l2i, 1) := by decide +kernel
theorem own_d2_32 : decode method_3_code 32 = .ok (.i2b, 1) := by decide +kernel
theorem own_d2_33 : decode method_3_code 33 = .ok (.bastore, 1) := by decide +kernel
theorem own_d2_34 : decode method_3_code 34 = .ok (.return_, 1) := by decide +kernel
def Q2 (Z : State) (wb : Addr) (px : Int64) (pi : Int32) (wk : ClassId) (wn : Int32) (bs : List Int32) (h0 : Heap) (n0 : Nat) (v : Option Value) (h : Heap) (L : List Loc) : Prop := v = none ∧ Fr n0 L ∧ Keep h0 h [wb] ∧ Arv Z h wb wk .byte wn ((own_put bs px wn pi).map Value.int) (.int (0 : Int32))
set_option maxRecDepth 65536 in
set_option maxHeartbeats 40000000 in
theorem rm2 (l : Launch) (Z : State) (a0 : Array Value) (hw : ∀ d ∈ tables_1, d.before a0 Z = true) (ws : List Jvm.Cond) (wb : Addr) (px : Int64) (pi : Int32) (wk : ClassId) (wn : Int32) (bs : List Int32) (h0 : Heap) (n0 : Nat) (Z0 : n0 ≤ h0.size) (Av : Arv Z h0 wb wk .byte wn (bs.map Value.int) (.int (0 : Int32))) (gw : n0 ≤ wb) (hlen : bs.length = wn.toNatClampNeg) (hn0 : 0 ≤ wn.toInt) (hn1 : wn.toInt < 12) (hi0 : 0 ≤ pi.toInt) :
    MetFree l (⟨"com/example/tallywire/tallywire/consumers/CommandNumberPinLaw", "put", "([BJI)V"⟩ : MethodName) (head1 (Jvm.Cond.code (⟨"com/example/tallywire/tallywire/consumers/CommandNumberPinLaw", "put", "([BJI)V"⟩ : MethodName) method_3_code 5 none :: ws) ({ frames := 1, cells := 1, slots := 12, locals := 19 } : Room)) (fun a U => a = #[(.ref wb), (.long px), (.int pi)] ∧ Z.Warmed39 U.vm ∧ U.heap = h0) (fun _ _ _ _ _ => True) (fun _ U o U' => ∃ v L, o = .returned v ∧ Q2 Z wb px pi wk wn bs h0 n0 v U'.heap L ∧ FrameEnd U o U' L ({ frames := 1, cells := 1, slots := 12, locals := 19 } : Room).cells ({ frames := 1, cells := 1, slots := 12, locals := 19 } : Room).slots) := by
  refine MetFree.of_bodySF (plainFor_of_name own_pn_com_example_tallywire_tallywire_consumers_CommandNumberPinLaw) hisR ?_
  intro p e s m args below meth c s₁ Bd hml0 hP hK
  obtain ⟨rfl, hZ, hh⟩ := hP
  have hx := Bd.exec
  have hby := Bd.bytes
  have hml : c.maxLocals = 5 := hml0
  have hlk := Bd.notSynchronized
  have hown : s.vm.findClass "com/example/tallywire/tallywire/consumers/CommandNumberPinLaw" = some m.cls := findClass_of_methodNamed Bd.named
  have hnm := (name_of_methodNamed Bd.named Bd.method).1
  have X0 : Stand p l e ({ frames := 1, cells := 1, slots := 12, locals := 19 } : Room) s m #[(.ref wb), (.long px), (.int pi)] below meth c s₁ [] 0 0 := Stand.of_body Bd
  have e0 : s₁.heap = h0 := by rw [← hh, Bd.state]; rfl
  have N0 := Fr.nil n0
  have K0 : Keep h0 h0 [wb] := Keep.refl _ _
  refine own_enter (P := (Done s ({ frames := 1, cells := 1, slots := 12, locals := 19 } : Room).cells ({ frames := 1, cells := 1, slots := 12, locals := 19 } : Room).slots (Q2 Z wb px pi wk wn bs h0 n0))) (Ls := #[.val (.ref wb), .val (.long px), .second, .val (.int pi), .unset]) (by first | (simp [entryFrame, mkF, argsToLocals, Value.category]; done) | rfl) ?_
  refine own_aloadN X0 hx 1 rfl (hb hby own_d2_0) rfl rfl ?_
  obtain ⟨cl1, Ar1, qq1, S1, NN1, HH1, GG1⟩ := id Av
  refine Goes.go (X0.arraylength hx (by rw [e0]; exact Ar1.1) (State.isArrayOf_alike hZ.alike Ar1.2.1) (g := (mkF m 1 #[.val (.ref wb), .val (.long px), .second, .val (.int pi), .unset] [(.ref wb)])) rfl rfl (hb hby own_d2_1)) ?_
  show Goes p e below _ s₁ (mkF m 2 #[.val (.ref wb), .val (.long px), .second, .val (.int pi), .unset] [(.int (cl1.slots.size.toInt32))])
  rw [len_of S1 NN1]
  refine own_istore X0 hx 4 rfl #[.val (.ref wb), .val (.long px), .second, .val (.int pi), .val (.int wn)] (hb hby own_d2_2) rfl ?_
  refine own_iloadN X0 hx 5 rfl (hb hby own_d2_4) rfl ?_
  refine own_iload X0 hx 7 rfl (hb hby own_d2_5) rfl ?_
  by_cases hc7_2 : pi < wn
  · refine own_icmpN X0 hx 10 (hb hby own_d2_7) (tlt hc7_2).2.1 rfl ?_
    refine own_aloadN X0 hx 11 rfl (hb hby own_d2_10) rfl rfl ?_
    refine own_iloadN X0 hx 12 rfl (hb hby own_d2_11) rfl ?_
    refine Goes.go (X0.ldc2Long hx hown (mvT hZ (hw _ (List.mem_of_getElem? (i := 21) rfl))) (g := (mkF m 12 #[.val (.ref wb), .val (.long px), .second, .val (.int pi), .val (.int wn)] [(.int pi), (.ref wb)])) rfl (hb hby own_d2_12)) ?_
    show Goes p e below _ s₁ (mkF m 15 #[.val (.ref wb), .val (.long px), .second, .val (.int pi), .val (.int wn)] [(.long (48 : Int64)), (.int pi), (.ref wb)])
    refine own_lloadN X0 hx 16 rfl (hb hby own_d2_15) rfl ?_
    refine own_iload X0 hx 18 rfl (hb hby own_d2_16) rfl ?_
    refine own_iconst X0 hx 19 rfl (1 : Int32) (hb hby own_d2_18) (by decide) ?_
    refine own_isub X0 hx 20 rfl (hb hby own_d2_19) rfl ?_
    refine own_iloadN X0 hx 21 rfl (hb hby own_d2_20) rfl ?_
    refine own_isub X0 hx 22 rfl (hb hby own_d2_21) rfl ?_
    obtain ⟨_, _, ⟨T3, L3, k3, n3⟩, -, X3, ⟨Lc3, hQ3, l3, y3, z3⟩, st3⟩ := Jvm.LawKit.callS X0 hx (y := (⟨"com/example/tallywire/tallywire/consumers/CommandNumberPinLaw", "pow10", "(I)J"⟩ : MethodName)) hown (mvT hZ (hw _ (List.mem_of_getElem? (i := 1) rfl))) (mvT hZ (hw _ (List.mem_of_getElem? (i := 2) rfl))) (mvT hZ (hw _ (List.mem_of_getElem? (i := 3) rfl))) (mvT hZ (hw _ (List.mem_of_getElem? (i := 4) rfl))) (by decide) (backOf (W := 6) (rm1 l Z a0 hw [] ((wn - (1 : Int32)) - pi) h0 n0 Z0 (by rw [own_sub2 hn0 hn1 hi0 (Int32.lt_iff_toInt_lt.mp hc7_2)]; have := Int32.lt_iff_toInt_lt.mp hc7_2; omega) (by rw [own_sub2 hn0 hn1 hi0 (Int32.lt_iff_toInt_lt.mp hc7_2)]; have := Int32.lt_iff_toInt_lt.mp hc7_2; omega)) hZ (hw _ (List.mem_of_getElem? (i := 4) rfl)) (hw _ (List.mem_of_getElem? (i := 3) rfl)) (by decide) (by decide)) (g := (mkF m 22 #[.val (.ref wb), .val (.long px), .second, .val (.int pi), .val (.int wn)] [(.int ((wn - (1 : Int32)) - pi)), (.long px), (.long (48 : Int64)), (.int pi), (.ref wb)])) rfl (by rw [hml]; rfl) (argsL := [(.int ((wn - (1 : Int32)) - pi))]) (rest := [(.long px), (.long (48 : Int64)), (.int pi), (.ref wb)]) (lenOf own_pd0 rfl) rfl (by show 2 * 0 + _ ≤ _; exact Nat.le_of_eq rfl) (hb hby own_d2_22) (fun _ _ => ⟨rfl, e0, (by decide : 0 + 1 ≤ _), (by decide : 0 + 12 ≤ _)⟩)
    dsimp only [Pt.U, Pt.locs, Pt.cells, Pt.slots] at X3 l3 y3 z3 st3 hQ3
    subst l3 y3 z3
    obtain ⟨rfl, N3q, K3q⟩ := hQ3
    have N3 := Fr.app N0 N3q
    have f4 := Av.keep K3q nin0
    have K3 := K0.trans K3q all0
    have Z3 := Nat.le_trans Z0 K3q.1
    refine Goes.go st3 ?_
    show Goes p e below _ T3 (mkF m 25 #[.val (.ref wb), .val (.long px), .second, .val (.int pi), .val (.int wn)] [(.long (own_p10 ((wn - (1 : Int32)) - pi))), (.long px), (.long (48 : Int64)), (.int pi), (.ref wb)])
    refine own_ldiv X3 hx 26 rfl (hb hby own_d2_25) (own_p10nz (by rw [own_sub2 hn0 hn1 hi0 (Int32.lt_iff_toInt_lt.mp hc7_2)]; have := Int32.lt_iff_toInt_lt.mp hc7_2; omega) (by rw [own_sub2 hn0 hn1 hi0 (Int32.lt_iff_toInt_lt.mp hc7_2)]; have := Int32.lt_iff_toInt_lt.mp hc7_2; omega)) rfl ?_
    refine Goes.go (X3.ldc2Long hx hown (mvT hZ (hw _ (List.mem_of_getElem? (i := 6) rfl))) (g := (mkF m 26 #[.val (.ref wb), .val (.long px), .second, .val (.int pi), .val (.int wn)] [(.long (px / (own_p10 ((wn - (1 : Int32)) - pi)))), (.long (48 : Int64)), (.int pi), (.ref wb)])) rfl (hb hby own_d2_26)) ?_
    show Goes p e below _ T3 (mkF m 29 #[.val (.ref wb), .val (.long px), .second, .val (.int pi), .val (.int wn)] [(.long (10 : Int64)), (.long (px / (own_p10 ((wn - (1 : Int32)) - pi)))), (.long (48 : Int64)), (.int pi), (.ref wb)])
    refine own_lrem X3 hx 30 rfl (hb hby own_d2_29) (by decide) rfl ?_
    refine own_ladd X3 hx 31 rfl (hb hby own_d2_30) rfl ?_
    refine own_l2i X3 hx 32 rfl (hb hby own_d2_31) rfl ?_
    refine own_i2b X3 hx 33 rfl (hb hby own_d2_32) rfl ?_
    obtain ⟨cl5, Ar5, qq5, S5, NN5, HH5, GG5⟩ := id f4
    have hin5 : ¬ (pi < 0 ∨ cl5.slots.size ≤ (pi).toNatClampNeg) := inb_of S5 ⟨own_nneg hi0, hc7_2⟩
    obtain ⟨T5, h5, X5, e5, W5, st5⟩ := stB X3 hx hZ rfl Ar5 (j := pi) hin5 (g := (mkF m 33 #[.val (.ref wb), .val (.long px), .second, .val (.int pi), .val (.int wn)] [(.int ((((48 : Int64) + ((px / (own_p10 ((wn - (1 : Int32)) - pi))) % (10 : Int64))).toInt32).toInt8.toInt32)), (.int pi), (.ref wb)])) rfl rfl (hb hby own_d2_33)
    have V5 : Arv Z h5 wb wk .byte wn ((bs.set pi.toNatClampNeg (((((48 : Int64) + ((px / (own_p10 ((wn - (1 : Int32)) - pi))) % (10 : Int64))).toInt32).toInt8.toInt32).toInt8.toInt32)).map Value.int) (.int (0 : Int32)) := (by rw [List.map_set]; exact Arv.set Ar5 qq5 S5 NN5 HH5 GG5 (fits_nar_byte _) W5 _ rfl (by rw [List.length_map, hlen]; exact own_clt hi0 hc7_2))
    have N5 := Fr.snoc X5 N3 gw
    have K5 := K3.wr W5 (Or.inl (List.mem_of_getElem? (i := 0) rfl))
    have Z5 := Nat.le_trans Z3 (Nat.le_of_eq W5.size.symm)
    refine Goes.go st5 ?_
    show Goes p e below _ T5 (mkF m 34 #[.val (.ref wb), .val (.long px), .second, .val (.int pi), .val (.int wn)] [])
    have V6 : Arv Z h5 wb wk .byte wn ((own_put bs px wn pi).map Value.int) (.int (0 : Int32)) := by rw [own_put, if_pos hc7_2]; exact V5
    refine own_retV X5 hx hlk Bd.returns (hb hby own_d2_34) (by decide) (by decide) e5 ?_
    exact ⟨rfl, N5, K5, V6⟩
  · refine own_icmpY X0 hx 34 (hb hby own_d2_7) (flt hc7_2).2.1 (by decide) (by decide) ?_
    have V7 : Arv Z h0 wb wk .byte wn ((own_put bs px wn pi).map Value.int) (.int (0 : Int32)) := by rw [own_put, if_neg hc7_2]; exact Av
    refine own_retV X0 hx hlk Bd.returns (hb hby own_d2_34) (by decide) (by decide) e0 ?_
    exact ⟨rfl, N0, K0, V7⟩
theorem own_d3_0 : decode prog_11_method_5_code 0 = .ok (.aload_n 0, 1) := by decide +kernel
theorem own_d3_1 : decode prog_11_method_5_code 1 = .ok (.arraylength, 1) := by decide +kernel
theorem own_d3_2 : decode prog_11_method_5_code 2 = .ok (.ifCond .eq 10, 3) := by decide +kernel
theorem own_d3_5 : decode prog_11_method_5_code 5 = .ok (.aload_n 0, 1) := by decide +kernel
theorem own_d3_6 : decode prog_11_method_5_code 6 = .ok (.arraylength, 1) := by decide +kernel
theorem own_d3_7 : decode prog_11_method_5_code 7 = .ok (.bipush 10, 2) := by decide +kernel
theorem own_d3_9 : decode prog_11_method_5_code 9 = .ok (.if_icmp .le 7, 3) := by decide +kernel
theorem own_d3_12 : decode prog_11_method_5_code 12 = .ok (.ldc2_w 127, 3) := by decide +kernel
theorem own_d3_15 : decode prog_11_method_5_code 15 = .ok (.lreturn, 1) := by decide +kernel
theorem own_d3_16 : decode prog_11_method_5_code 16 = .ok (.lconst 0, 1) := by decide +kernel
theorem own_d3_17 : decode prog_11_method_5_code 17 = .ok (.lstore_n 1, 1) := by decide +kernel
theorem own_d3_18 : decode prog_11_method_5_code 18 = .ok (.aload_n 0, 1) := by decide +kernel
theorem own_d3_19 : decode prog_11_method_5_code 19 = .ok (.astore_n 3, 1) := by decide +kernel
theorem own_d3_20 : decode prog_11_method_5_code 20 = .ok (.aload_n 3, 1) := by decide +kernel
theorem own_d3_21 : decode prog_11_method_5_code 21 = .ok (.arraylength, 1) := by decide +kernel
theorem own_d3_22 : decode prog_11_method_5_code 22 = .ok (.istore 4, 2) := by decide +kernel
theorem own_d3_24 : decode prog_11_method_5_code 24 = .ok (.iconst 0, 1) := by decide +kernel
theorem own_d3_25 : decode prog_11_method_5_code 25 = .ok (.istore 5, 2) := by decide +kernel
theorem own_d3_27 : decode prog_11_method_5_code 27 = .ok (.iload 5, 2) := by decide +kernel
theorem own_d3_29 : decode prog_11_method_5_code 29 = .ok (.iload 4, 2) := by decide +kernel
theorem own_d3_31 : decode prog_11_method_5_code 31 = .ok (.if_icmp .ge 47, 3) := by decide +kernel
theorem own_d3_34 : decode prog_11_method_5_code 34 = .ok (.aload_n 3, 1) := by decide +kernel
theorem own_d3_35 : decode prog_11_method_5_code 35 = .ok (.iload 5, 2) := by decide +kernel
theorem own_d3_37 : decode prog_11_method_5_code 37 = .ok (.baload, 1) := by decide +kernel
theorem own_d3_38 : decode prog_11_method_5_code 38 = .ok (.istore 6, 2) := by decide +kernel
theorem own_d3_40 : decode prog_11_method_5_code 40 = .ok (.iload 6, 2) := by decide +kernel
theorem own_d3_42 : decode prog_11_method_5_code 42 = .ok (.bipush 48, 2) := by decide +kernel
theorem own_d3_44 : decode prog_11_method_5_code 44 = .ok (.if_icmp .lt 10, 3) := by decide +kernel
theorem own_d3_47 : decode prog_11_method_5_code 47 = .ok (.iload 6, 2) := by decide +kernel
theorem own_d3_49 : decode prog_11_method_5_code 49 = .ok (.bipush 57, 2) := by decide +kernel
theorem own_d3_51 : decode prog_11_method_5_code 51 = .ok (.if_icmp .le 7, 3) := by decide +kernel
theorem own_d3_54 : decode prog_11_method_5_code 54 = .ok (.ldc2_w 127, 3) := by decide +kernel
theorem own_d3_57 : decode prog_11_method_5_code 57 = .ok (.lreturn, 1) := by decide +kernel
theorem own_d3_58 : decode prog_11_method_5_code 58 = .ok (.lload_n 1, 1) := by decide +kernel
theorem own_d3_59 : decode prog_11_method_5_code 59 = .ok (.ldc2_w 129, 3) := by decide +kernel
theorem own_d3_62 : decode prog_11_method_5_code 62 = .ok (.lmul, 1) := by decide +kernel
theorem own_d3_63 : decode prog_11_method_5_code 63 = .ok (.iload 6, 2) := by decide +kernel
theorem own_d3_65 : decode prog_11_method_5_code 65 = .ok (.i2l, 1) := by decide +kernel
theorem own_d3_66 : decode prog_11_method_5_code 66 = .ok (.ladd, 1) := by decide +kernel
theorem own_d3_67 : decode prog_11_method_5_code 67 = .ok (.ldc2_w 131, 3) := by decide +kernel
theorem own_d3_70 : decode prog_11_method_5_code 70 = .ok (.lsub, 1) := by decide +kernel
theorem own_d3_71 : decode prog_11_method_5_code 71 = .ok (.lstore_n 1, 1) := by decide +kernel
theorem own_d3_72 : decode prog_11_method_5_code 72 = .ok (.iinc 5 1, 3) := by decide +kernel
theorem own_d3_75 : decode prog_11_method_5_code 75 = .ok (.goto (-48), 3) := by decide +kernel
theorem own_d3_78 : decode prog_11_method_5_code 78 = .ok (.lload_n 1, 1) := by decide +kernel
theorem own_d3_79 : decode prog_11_method_5_code 79 = .ok (.ldc2_w 133, 3) := by decide +kernel
theorem own_d3_82 : decode prog_11_method_5_code 82 = .ok (.lcmp, 1) := by decide +kernel
theorem own_d3_83 : decode prog_11_method_5_code 83 = .ok (.ifCond .gt 7, 3) := by decide +kernel
theorem own_d3_86 : decode prog_11_method_5_code 86 = .ok (.lload_n 1, 1) := by decide +kernel
theorem own_d3_87 : decode prog_11_method_5_code 87 = .ok (.goto 6, 3) := by decide +kernel
theorem own_d3_90 : decode prog_11_method_5_code 90 = .ok (.ldc2_w 127, 3) := by decide +kernel
theorem own_d3_93 : decode prog_11_method_5_code 93 = .ok (.lreturn, 1) := by decide +kernel
theorem own_pn_com_example_tallywire_tallywire_consumers_Command : plainName "com/example/tallywire/tallywire/consumers/Command" = true := by first | (simp [plainName, overriddenIn]; done) | decide +kernel
def Q3 (Z : State) (wb : Addr) (wk : ClassId) (wn : Int32) (bs : List Int32) (h0 : Heap) (n0 : Nat) (v : Option Value) (h : Heap) (L : List Loc) : Prop := ∃ nr : Int64, v = some (.long nr) ∧ Fr n0 L ∧ Keep h0 h [] ∧ (nr = own_num wn bs)
set_option maxRecDepth 65536 in
set_option maxHeartbeats 40000000 in
theorem rm3 (l : Launch) (Z : State) (a0 : Array Value) (hw : ∀ d ∈ tables_1, d.before a0 Z = true) (ws : List Jvm.Cond) (wb : Addr) (wk : ClassId) (wn : Int32) (bs : List Int32) (h0 : Heap) (n0 : Nat) (Z0 : n0 ≤ h0.size) (Av : Arv Z h0 wb wk .byte wn (bs.map Value.int) (.int (0 : Int32))) (hlen : bs.length = wn.toNatClampNeg) (hw0 : ¬ wn < 0) :
    MetFree l (⟨"com/example/tallywire/tallywire/consumers/Command", "number", "([B)J"⟩ : MethodName) (head1 (Jvm.Cond.code (⟨"com/example/tallywire/tallywire/consumers/Command", "number", "([B)J"⟩ : MethodName) prog_11_method_5_code 7 (some .long) :: ws) ({ frames := 0, cells := 0, slots := 0, locals := 0 } : Room)) (fun a U => a = #[(.ref wb)] ∧ Z.Warmed39 U.vm ∧ U.heap = h0) (fun _ _ _ _ _ => True) (fun _ U o U' => ∃ v L, o = .returned v ∧ Q3 Z wb wk wn bs h0 n0 v U'.heap L ∧ FrameEnd U o U' L ({ frames := 0, cells := 0, slots := 0, locals := 0 } : Room).cells ({ frames := 0, cells := 0, slots := 0, locals := 0 } : Room).slots) := by
  refine MetFree.of_bodySF (plainFor_of_name own_pn_com_example_tallywire_tallywire_consumers_Command) hisR ?_
  intro p e s m args below meth c s₁ Bd hml0 hP hK
  obtain ⟨rfl, hZ, hh⟩ := hP
  have hx := Bd.exec
  have hby := Bd.bytes
  have hml : c.maxLocals = 7 := hml0
  have hlk := Bd.notSynchronized
  have hown : s.vm.findClass "com/example/tallywire/tallywire/consumers/Command" = some m.cls := findClass_of_methodNamed Bd.named
  have hnm := (name_of_methodNamed Bd.named Bd.method).1
  have X0 : Stand p l e ({ frames := 0, cells := 0, slots := 0, locals := 0 } : Room) s m #[(.ref wb)] below meth c s₁ [] 0 0 := Stand.of_body Bd
  have e0 : s₁.heap = h0 := by rw [← hh, Bd.state]; rfl
  have N0 := Fr.nil n0
  have K0 : Keep h0 h0 [] := Keep.refl _ _
  refine own_enter (P := (Done s ({ frames := 0, cells := 0, slots := 0, locals := 0 } : Room).cells ({ frames := 0, cells := 0, slots := 0, locals := 0 } : Room).slots (Q3 Z wb wk wn bs h0 n0))) (Ls := #[.val (.ref wb), .unset, .unset, .unset, .unset, .unset, .unset]) (by first | (simp [entryFrame, mkF, argsToLocals, Value.category]; done) | rfl) ?_
  refine own_aloadN X0 hx 1 rfl (hb hby own_d3_0) rfl rfl ?_
  obtain ⟨cl1, Ar1, qq1, S1, NN1, HH1, GG1⟩ := id Av
  refine Goes.go (X0.arraylength hx (by rw [e0]; exact Ar1.1) (State.isArrayOf_alike hZ.alike Ar1.2.1) (g := (mkF m 1 #[.val (.ref wb), .unset, .unset, .unset, .unset, .unset, .unset] [(.ref wb)])) rfl rfl (hb hby own_d3_1)) ?_
  show Goes p e below _ s₁ (mkF m 2 #[.val (.ref wb), .unset, .unset, .unset, .unset, .unset, .unset] [(.int (cl1.slots.size.toInt32))])
  rw [len_of S1 NN1]
  by_cases hc2_2 : wn = (0 : Int32)
  · refine own_ifY X0 hx 12 (hb hby own_d3_2) ((if0 _ _).trans (teq hc2_2).1) (by decide) (by decide) ?_
    refine Goes.go (X0.ldc2Long hx hown (mvT hZ (hw _ (List.mem_of_getElem? (i := 29) rfl))) (g := (mkF m 12 #[.val (.ref wb), .unset, .unset, .unset, .unset, .unset, .unset] [])) rfl (hb hby own_d3_12)) ?_
    show Goes p e below _ s₁ (mkF m 15 #[.val (.ref wb), .unset, .unset, .unset, .unset, .unset, .unset] [(.long (-1 : Int64))])
    refine own_retJ X0 hx hlk Bd.returns (hb hby own_d3_15) (by decide) (by decide) e0 ?_
    exact ⟨(-1 : Int64), rfl, N0, K0, (own_num0 (Or.inl hc2_2)).symm⟩
  · refine own_ifN X0 hx 5 (hb hby own_d3_2) ((if0 _ _).trans (feq hc2_2).1) rfl ?_
    refine own_aloadN X0 hx 6 rfl (hb hby own_d3_5) rfl rfl ?_
    obtain ⟨cl3, Ar3, qq3, S3, NN3, HH3, GG3⟩ := id Av
    refine Goes.go (X0.arraylength hx (by rw [e0]; exact Ar3.1) (State.isArrayOf_alike hZ.alike Ar3.2.1) (g := (mkF m 6 #[.val (.ref wb), .unset, .unset, .unset, .unset, .unset, .unset] [(.ref wb)])) rfl rfl (hb hby own_d3_6)) ?_
    show Goes p e below _ s₁ (mkF m 7 #[.val (.ref wb), .unset, .unset, .unset, .unset, .unset, .unset] [(.int (cl3.slots.size.toInt32))])
    rw [len_of S3 NN3]
    refine own_bipush X0 hx 9 rfl (10 : Int32) (hb hby own_d3_7) (by decide) ?_
    by_cases hc9_4 : (10 : Int32) < wn
    · refine own_icmpN X0 hx 12 (hb hby own_d3_9) (tlt hc9_4).2.2.2 rfl ?_
      refine Goes.go (X0.ldc2Long hx hown (mvT hZ (hw _ (List.mem_of_getElem? (i := 29) rfl))) (g := (mkF m 12 #[.val (.ref wb), .unset, .unset, .unset, .unset, .unset, .unset] [])) rfl (hb hby own_d3_12)) ?_
      show Goes p e below _ s₁ (mkF m 15 #[.val (.ref wb), .unset, .unset, .unset, .unset, .unset, .unset] [(.long (-1 : Int64))])
      refine own_retJ X0 hx hlk Bd.returns (hb hby own_d3_15) (by decide) (by decide) e0 ?_
      exact ⟨(-1 : Int64), rfl, N0, K0, (own_num0 (Or.inr hc9_4)).symm⟩
    · refine own_icmpY X0 hx 16 (hb hby own_d3_9) (flt hc9_4).2.2.2 (by decide) (by decide) ?_
      have hR0 : own_num wn bs = own_loop (bs.drop ((0 : Int32)).toNatClampNeg) (0 : Int64) := own_first hc2_2 hc9_4
      have hzp : 0 < wn.toInt := own_pz hc2_2 hw0
      have hz0 : (0 : Int32) < wn := own_lt_of hzp
      have J72 : ∀ (d : Nat), ∀ (T5 : State) (h5 : Heap) (L5 : List Loc) (iv : Int32) (ac : Int64) (lb : Int32) (hi0 : 0 ≤ iv.toInt) (hiw : iv.toInt < wn.toInt) (hd : iv.toInt + 1 + d = wn.toInt) (hR : own_num wn bs = own_loop (bs.drop (iv + (1 : Int32)).toNatClampNeg) ac) (X5 : Stand p l e ({ frames := 0, cells := 0, slots := 0, locals := 0 } : Room) s m #[(.ref wb)] below meth c T5 L5 0 0) (e5 : T5.heap = h5) (N5 : Fr n0 L5) (K5 : Keep h0 h5 []) (Z5 : n0 ≤ h5.size) (f5_0 : Arv Z h5 wb wk .byte wn (bs.map Value.int) (.int (0 : Int32))), Goes p e below (Done s ({ frames := 0, cells := 0, slots := 0, locals := 0 } : Room).cells ({ frames := 0, cells := 0, slots := 0, locals := 0 } : Room).slots (Q3 Z wb wk wn bs h0 n0)) T5 (mkF m 72 #[.val (.ref wb), .val (.long ac), .second, .val (.ref wb), .val (.int wn), .val (.int iv), .val (.int lb)] []) := by
        intro d
        induction d with
        | zero =>
          intro T5 h5 L5 iv ac lb hi0 hiw hd hR X5 e5 N5 K5 Z5 f5_0
          refine own_iinc X5 hx 75 rfl #[.val (.ref wb), .val (.long ac), .second, .val (.ref wb), .val (.int wn), .val (.int (iv + (1 : Int32))), .val (.int lb)] (hb hby own_d3_72) rfl rfl rfl ?_
          refine own_goto X5 hx 27 (hb hby own_d3_75) (by decide) (by decide) ?_
          refine own_iload X5 hx 29 rfl (hb hby own_d3_27) rfl ?_
          refine own_iload X5 hx 31 rfl (hb hby own_d3_29) rfl ?_
          refine own_icmpY X5 hx 78 (hb hby own_d3_31) (flt (own_nlt_of (by rw [(own_inc hi0 hiw).1]; omega) : ¬ ((iv + (1 : Int32)) < wn))).2.1 (by decide) (by decide) ?_
          refine own_lloadN X5 hx 79 rfl (hb hby own_d3_78) rfl ?_
          refine Goes.go (X5.ldc2Long hx hown (mvT hZ (hw _ (List.mem_of_getElem? (i := 31) rfl))) (g := (mkF m 79 #[.val (.ref wb), .val (.long ac), .second, .val (.ref wb), .val (.int wn), .val (.int (iv + (1 : Int32))), .val (.int lb)] [(.long ac)])) rfl (hb hby own_d3_79)) ?_
          show Goes p e below _ T5 (mkF m 82 #[.val (.ref wb), .val (.long ac), .second, .val (.ref wb), .val (.int wn), .val (.int (iv + (1 : Int32))), .val (.int lb)] [(.long (4294967295 : Int64)), (.long ac)])
          refine own_lcmp X5 hx 83 rfl (hb hby own_d3_82) ?_
          by_cases hc83_6 : (4294967295 : Int64) < ac
          · refine own_ifY X5 hx 90 (hb hby own_d3_83) (Ltlt hc83_6).2.2.1 (by decide) (by decide) ?_
            refine Goes.go (X5.ldc2Long hx hown (mvT hZ (hw _ (List.mem_of_getElem? (i := 29) rfl))) (g := (mkF m 90 #[.val (.ref wb), .val (.long ac), .second, .val (.ref wb), .val (.int wn), .val (.int (iv + (1 : Int32))), .val (.int lb)] [])) rfl (hb hby own_d3_90)) ?_
            show Goes p e below _ T5 (mkF m 93 #[.val (.ref wb), .val (.long ac), .second, .val (.ref wb), .val (.int wn), .val (.int (iv + (1 : Int32))), .val (.int lb)] [(.long (-1 : Int64))])
            refine own_retJ X5 hx hlk Bd.returns (hb hby own_d3_93) (by decide) (by decide) e5 ?_
            exact ⟨(-1 : Int64), rfl, N5, K5, (by rw [own_end hR hlen (by rw [(own_inc hi0 hiw).1]; omega) (by rw [(own_inc hi0 hiw).1]; omega), if_pos hc83_6])⟩
          · refine own_ifN X5 hx 86 (hb hby own_d3_83) (Lflt hc83_6).2.2.1 rfl ?_
            refine own_lloadN X5 hx 87 rfl (hb hby own_d3_86) rfl ?_
            refine own_goto X5 hx 93 (hb hby own_d3_87) (by decide) (by decide) ?_
            refine own_retJ X5 hx hlk Bd.returns (hb hby own_d3_93) (by decide) (by decide) e5 ?_
            exact ⟨ac, rfl, N5, K5, (by rw [own_end hR hlen (by rw [(own_inc hi0 hiw).1]; omega) (by rw [(own_inc hi0 hiw).1]; omega), if_neg hc83_6])⟩
        | succ d IH =>
          intro T5 h5 L5 iv ac lb hi0 hiw hd hR X5 e5 N5 K5 Z5 f5_0
          refine own_iinc X5 hx 75 rfl #[.val (.ref wb), .val (.long ac), .second, .val (.ref wb), .val (.int wn), .val (.int (iv + (1 : Int32))), .val (.int lb)] (hb hby own_d3_72) rfl rfl rfl ?_
          refine own_goto X5 hx 27 (hb hby own_d3_75) (by decide) (by decide) ?_
          refine own_iload X5 hx 29 rfl (hb hby own_d3_27) rfl ?_
          refine own_iload X5 hx 31 rfl (hb hby own_d3_29) rfl ?_
          refine own_icmpN X5 hx 34 (hb hby own_d3_31) (tlt ((own_lt_of (by rw [(own_inc hi0 hiw).1]; omega)) : (iv + (1 : Int32)) < wn)).2.1 rfl ?_
          refine own_aloadN X5 hx 35 rfl (hb hby own_d3_34) rfl rfl ?_
          refine own_iload X5 hx 37 rfl (hb hby own_d3_35) rfl ?_
          obtain ⟨cl7, Ar7, qq7, S7, NN7, HH7, GG7⟩ := id f5_0
          have hin7 : ¬ ((iv + (1 : Int32)) < 0 ∨ cl7.slots.size ≤ ((iv + (1 : Int32))).toNatClampNeg) := inb_of S7 ⟨own_nneg (by rw [(own_inc hi0 hiw).1]; omega), (own_lt_of (by rw [(own_inc hi0 hiw).1]; omega))⟩
          have hat7 : cl7.slots[((iv + (1 : Int32))).toNatClampNeg]? = some (.int (bs.getD (iv + (1 : Int32)).toNatClampNeg 0)) := HH7.at hin7 (own_getI bs _)
          refine Goes.go (X5.baloadBytes hx (j := (iv + (1 : Int32))) (v := (.int (bs.getD (iv + (1 : Int32)).toNatClampNeg 0))) (by rw [e5]; exact Ar7.1) (State.isArrayOf_alike hZ.alike Ar7.2.1) Ar7.2.2 hin7 hat7 (g := (mkF m 37 #[.val (.ref wb), .val (.long ac), .second, .val (.ref wb), .val (.int wn), .val (.int (iv + (1 : Int32))), .val (.int lb)] [(.int (iv + (1 : Int32))), (.ref wb)])) rfl rfl (hb hby own_d3_37)) ?_
          show Goes p e below _ T5 (mkF m 38 #[.val (.ref wb), .val (.long ac), .second, .val (.ref wb), .val (.int wn), .val (.int (iv + (1 : Int32))), .val (.int lb)] [(.int (bs.getD (iv + (1 : Int32)).toNatClampNeg 0))])
          refine own_istore X5 hx 40 rfl #[.val (.ref wb), .val (.long ac), .second, .val (.ref wb), .val (.int wn), .val (.int (iv + (1 : Int32))), .val (.int (bs.getD (iv + (1 : Int32)).toNatClampNeg 0))] (hb hby own_d3_38) rfl ?_
          refine own_iload X5 hx 42 rfl (hb hby own_d3_40) rfl ?_
          refine own_bipush X5 hx 44 rfl (48 : Int32) (hb hby own_d3_42) (by decide) ?_
          by_cases hc44_8 : (bs.getD (iv + (1 : Int32)).toNatClampNeg 0) < (48 : Int32)
          · refine own_icmpY X5 hx 54 (hb hby own_d3_44) (tlt hc44_8).1 (by decide) (by decide) ?_
            refine Goes.go (X5.ldc2Long hx hown (mvT hZ (hw _ (List.mem_of_getElem? (i := 29) rfl))) (g := (mkF m 54 #[.val (.ref wb), .val (.long ac), .second, .val (.ref wb), .val (.int wn), .val (.int (iv + (1 : Int32))), .val (.int (bs.getD (iv + (1 : Int32)).toNatClampNeg 0))] [])) rfl (hb hby own_d3_54)) ?_
            show Goes p e below _ T5 (mkF m 57 #[.val (.ref wb), .val (.long ac), .second, .val (.ref wb), .val (.int wn), .val (.int (iv + (1 : Int32))), .val (.int (bs.getD (iv + (1 : Int32)).toNatClampNeg 0))] [(.long (-1 : Int64))])
            refine own_retJ X5 hx hlk Bd.returns (hb hby own_d3_57) (by decide) (by decide) e5 ?_
            exact ⟨(-1 : Int64), rfl, N5, K5, (own_bad hR hlen (by rw [(own_inc hi0 hiw).1]; omega) (own_lt_of (by rw [(own_inc hi0 hiw).1]; omega)) (Or.inl hc44_8))⟩
          · refine own_icmpN X5 hx 47 (hb hby own_d3_44) (flt hc44_8).1 rfl ?_
            refine own_iload X5 hx 49 rfl (hb hby own_d3_47) rfl ?_
            refine own_bipush X5 hx 51 rfl (57 : Int32) (hb hby own_d3_49) (by decide) ?_
            by_cases hc51_9 : (57 : Int32) < (bs.getD (iv + (1 : Int32)).toNatClampNeg 0)
            · refine own_icmpN X5 hx 54 (hb hby own_d3_51) (tlt hc51_9).2.2.2 rfl ?_
              refine Goes.go (X5.ldc2Long hx hown (mvT hZ (hw _ (List.mem_of_getElem? (i := 29) rfl))) (g := (mkF m 54 #[.val (.ref wb), .val (.long ac), .second, .val (.ref wb), .val (.int wn), .val (.int (iv + (1 : Int32))), .val (.int (bs.getD (iv + (1 : Int32)).toNatClampNeg 0))] [])) rfl (hb hby own_d3_54)) ?_
              show Goes p e below _ T5 (mkF m 57 #[.val (.ref wb), .val (.long ac), .second, .val (.ref wb), .val (.int wn), .val (.int (iv + (1 : Int32))), .val (.int (bs.getD (iv + (1 : Int32)).toNatClampNeg 0))] [(.long (-1 : Int64))])
              refine own_retJ X5 hx hlk Bd.returns (hb hby own_d3_57) (by decide) (by decide) e5 ?_
              exact ⟨(-1 : Int64), rfl, N5, K5, (own_bad hR hlen (by rw [(own_inc hi0 hiw).1]; omega) (own_lt_of (by rw [(own_inc hi0 hiw).1]; omega)) (Or.inr hc51_9))⟩
            · refine own_icmpY X5 hx 58 (hb hby own_d3_51) (flt hc51_9).2.2.2 (by decide) (by decide) ?_
              refine own_lloadN X5 hx 59 rfl (hb hby own_d3_58) rfl ?_
              refine Goes.go (X5.ldc2Long hx hown (mvT hZ (hw _ (List.mem_of_getElem? (i := 27) rfl))) (g := (mkF m 59 #[.val (.ref wb), .val (.long ac), .second, .val (.ref wb), .val (.int wn), .val (.int (iv + (1 : Int32))), .val (.int (bs.getD (iv + (1 : Int32)).toNatClampNeg 0))] [(.long ac)])) rfl (hb hby own_d3_59)) ?_
              show Goes p e below _ T5 (mkF m 62 #[.val (.ref wb), .val (.long ac), .second, .val (.ref wb), .val (.int wn), .val (.int (iv + (1 : Int32))), .val (.int (bs.getD (iv + (1 : Int32)).toNatClampNeg 0))] [(.long (10 : Int64)), (.long ac)])
              refine own_lmul X5 hx 63 rfl (hb hby own_d3_62) rfl ?_
              refine own_iload X5 hx 65 rfl (hb hby own_d3_63) rfl ?_
              refine own_i2l X5 hx 66 rfl (hb hby own_d3_65) rfl ?_
              refine own_ladd X5 hx 67 rfl (hb hby own_d3_66) rfl ?_
              refine Goes.go (X5.ldc2Long hx hown (mvT hZ (hw _ (List.mem_of_getElem? (i := 28) rfl))) (g := (mkF m 67 #[.val (.ref wb), .val (.long ac), .second, .val (.ref wb), .val (.int wn), .val (.int (iv + (1 : Int32))), .val (.int (bs.getD (iv + (1 : Int32)).toNatClampNeg 0))] [(.long ((ac * (10 : Int64)) + ((bs.getD (iv + (1 : Int32)).toNatClampNeg 0).toInt64)))])) rfl (hb hby own_d3_67)) ?_
              show Goes p e below _ T5 (mkF m 70 #[.val (.ref wb), .val (.long ac), .second, .val (.ref wb), .val (.int wn), .val (.int (iv + (1 : Int32))), .val (.int (bs.getD (iv + (1 : Int32)).toNatClampNeg 0))] [(.long (48 : Int64)), (.long ((ac * (10 : Int64)) + ((bs.getD (iv + (1 : Int32)).toNatClampNeg 0).toInt64)))])
              refine own_lsub X5 hx 71 rfl (hb hby own_d3_70) rfl ?_
              refine own_lstoreN X5 hx 72 rfl #[.val (.ref wb), .val (.long (((ac * (10 : Int64)) + ((bs.getD (iv + (1 : Int32)).toNatClampNeg 0).toInt64)) - (48 : Int64))), .second, .val (.ref wb), .val (.int wn), .val (.int (iv + (1 : Int32))), .val (.int (bs.getD (iv + (1 : Int32)).toNatClampNeg 0))] (hb hby own_d3_71) rfl ?_
              exact IH T5 h5 _ (iv + (1 : Int32)) (((ac * (10 : Int64)) + ((bs.getD (iv + (1 : Int32)).toNatClampNeg 0).toInt64)) - (48 : Int64)) (bs.getD (iv + (1 : Int32)).toNatClampNeg 0) (by rw [(own_inc hi0 hiw).1]; omega) (by rw [(own_inc hi0 hiw).1]; omega) (by rw [(own_inc hi0 hiw).1]; omega) (own_next hR hlen (by rw [(own_inc hi0 hiw).1]; omega) (own_lt_of (by rw [(own_inc hi0 hiw).1]; omega)) hc44_8 hc51_9) X5 e5 N5 K5 Z5 f5_0
      refine own_lconst X0 hx 17 rfl (0 : Int64) (hb hby own_d3_16) (by decide) ?_
      refine own_lstoreN X0 hx 18 rfl #[.val (.ref wb), .val (.long (0 : Int64)), .second, .unset, .unset, .unset, .unset] (hb hby own_d3_17) rfl ?_
      refine own_aloadN X0 hx 19 rfl (hb hby own_d3_18) rfl rfl ?_
      refine own_astoreN X0 hx 20 rfl #[.val (.ref wb), .val (.long (0 : Int64)), .second, .val (.ref wb), .unset, .unset, .unset] (hb hby own_d3_19) rfl rfl ?_
      refine own_aloadN X0 hx 21 rfl (hb hby own_d3_20) rfl rfl ?_
      obtain ⟨cl10, Ar10, qq10, S10, NN10, HH10, GG10⟩ := id Av
      refine Goes.go (X0.arraylength hx (by rw [e0]; exact Ar10.1) (State.isArrayOf_alike hZ.alike Ar10.2.1) (g := (mkF m 21 #[.val (.ref wb), .val (.long (0 : Int64)), .second, .val (.ref wb), .unset, .unset, .unset] [(.ref wb)])) rfl rfl (hb hby own_d3_21)) ?_
      show Goes p e below _ s₁ (mkF m 22 #[.val (.ref wb), .val (.long (0 : Int64)), .second, .val (.ref wb), .unset, .unset, .unset] [(.int (cl10.slots.size.toInt32))])
      rw [len_of S10 NN10]
      refine own_istore X0 hx 24 rfl #[.val (.ref wb), .val (.long (0 : Int64)), .second, .val (.ref wb), .val (.int wn), .unset, .unset] (hb hby own_d3_22) rfl ?_
      refine own_iconst X0 hx 25 rfl (0 : Int32) (hb hby own_d3_24) (by decide) ?_
      refine own_istore X0 hx 27 rfl #[.val (.ref wb), .val (.long (0 : Int64)), .second, .val (.ref wb), .val (.int wn), .val (.int (0 : Int32)), .unset] (hb hby own_d3_25) rfl ?_
      refine own_iload X0 hx 29 rfl (hb hby own_d3_27) rfl ?_
      refine own_iload X0 hx 31 rfl (hb hby own_d3_29) rfl ?_
      refine own_icmpN X0 hx 34 (hb hby own_d3_31) (tlt (hz0 : (0 : Int32) < wn)).2.1 rfl ?_
      refine own_aloadN X0 hx 35 rfl (hb hby own_d3_34) rfl rfl ?_
      refine own_iload X0 hx 37 rfl (hb hby own_d3_35) rfl ?_
      obtain ⟨cl11, Ar11, qq11, S11, NN11, HH11, GG11⟩ := id Av
      have hin11 : ¬ ((0 : Int32) < 0 ∨ cl11.slots.size ≤ ((0 : Int32)).toNatClampNeg) := inb_of S11 ⟨own_nneg own_00, hz0⟩
      have hat11 : cl11.slots[((0 : Int32)).toNatClampNeg]? = some (.int (bs.getD (0 : Int32).toNatClampNeg 0)) := HH11.at hin11 (own_getI bs _)
      refine Goes.go (X0.baloadBytes hx (j := (0 : Int32)) (v := (.int (bs.getD (0 : Int32).toNatClampNeg 0))) (by rw [e0]; exact Ar11.1) (State.isArrayOf_alike hZ.alike Ar11.2.1) Ar11.2.2 hin11 hat11 (g := (mkF m 37 #[.val (.ref wb), .val (.long (0 : Int64)), .second, .val (.ref wb), .val (.int wn), .val (.int (0 : Int32)), .unset] [(.int (0 : Int32)), (.ref wb)])) rfl rfl (hb hby own_d3_37)) ?_
      show Goes p e below _ s₁ (mkF m 38 #[.val (.ref wb), .val (.long (0 : Int64)), .second, .val (.ref wb), .val (.int wn), .val (.int (0 : Int32)), .unset] [(.int (bs.getD (0 : Int32).toNatClampNeg 0))])
      refine own_istore X0 hx 40 rfl #[.val (.ref wb), .val (.long (0 : Int64)), .second, .val (.ref wb), .val (.int wn), .val (.int (0 : Int32)), .val (.int (bs.getD (0 : Int32).toNatClampNeg 0))] (hb hby own_d3_38) rfl ?_
      refine own_iload X0 hx 42 rfl (hb hby own_d3_40) rfl ?_
      refine own_bipush X0 hx 44 rfl (48 : Int32) (hb hby own_d3_42) (by decide) ?_
      by_cases hc44_12 : (bs.getD (0 : Int32).toNatClampNeg 0) < (48 : Int32)
      · refine own_icmpY X0 hx 54 (hb hby own_d3_44) (tlt hc44_12).1 (by decide) (by decide) ?_
        refine Goes.go (X0.ldc2Long hx hown (mvT hZ (hw _ (List.mem_of_getElem? (i := 29) rfl))) (g := (mkF m 54 #[.val (.ref wb), .val (.long (0 : Int64)), .second, .val (.ref wb), .val (.int wn), .val (.int (0 : Int32)), .val (.int (bs.getD (0 : Int32).toNatClampNeg 0))] [])) rfl (hb hby own_d3_54)) ?_
        show Goes p e below _ s₁ (mkF m 57 #[.val (.ref wb), .val (.long (0 : Int64)), .second, .val (.ref wb), .val (.int wn), .val (.int (0 : Int32)), .val (.int (bs.getD (0 : Int32).toNatClampNeg 0))] [(.long (-1 : Int64))])
        refine own_retJ X0 hx hlk Bd.returns (hb hby own_d3_57) (by decide) (by decide) e0 ?_
        exact ⟨(-1 : Int64), rfl, N0, K0, (own_bad hR0 hlen own_00 hz0 (Or.inl hc44_12))⟩
      · refine own_icmpN X0 hx 47 (hb hby own_d3_44) (flt hc44_12).1 rfl ?_
        refine own_iload X0 hx 49 rfl (hb hby own_d3_47) rfl ?_
        refine own_bipush X0 hx 51 rfl (57 : Int32) (hb hby own_d3_49) (by decide) ?_
        by_cases hc51_13 : (57 : Int32) < (bs.getD (0 : Int32).toNatClampNeg 0)
        · refine own_icmpN X0 hx 54 (hb hby own_d3_51) (tlt hc51_13).2.2.2 rfl ?_
          refine Goes.go (X0.ldc2Long hx hown (mvT hZ (hw _ (List.mem_of_getElem? (i := 29) rfl))) (g := (mkF m 54 #[.val (.ref wb), .val (.long (0 : Int64)), .second, .val (.ref wb), .val (.int wn), .val (.int (0 : Int32)), .val (.int (bs.getD (0 : Int32).toNatClampNeg 0))] [])) rfl (hb hby own_d3_54)) ?_
          show Goes p e below _ s₁ (mkF m 57 #[.val (.ref wb), .val (.long (0 : Int64)), .second, .val (.ref wb), .val (.int wn), .val (.int (0 : Int32)), .val (.int (bs.getD (0 : Int32).toNatClampNeg 0))] [(.long (-1 : Int64))])
          refine own_retJ X0 hx hlk Bd.returns (hb hby own_d3_57) (by decide) (by decide) e0 ?_
          exact ⟨(-1 : Int64), rfl, N0, K0, (own_bad hR0 hlen own_00 hz0 (Or.inr hc51_13))⟩
        · refine own_icmpY X0 hx 58 (hb hby own_d3_51) (flt hc51_13).2.2.2 (by decide) (by decide) ?_
          refine own_lloadN X0 hx 59 rfl (hb hby own_d3_58) rfl ?_
          refine Goes.go (X0.ldc2Long hx hown (mvT hZ (hw _ (List.mem_of_getElem? (i := 27) rfl))) (g := (mkF m 59 #[.val (.ref wb), .val (.long (0 : Int64)), .second, .val (.ref wb), .val (.int wn), .val (.int (0 : Int32)), .val (.int (bs.getD (0 : Int32).toNatClampNeg 0))] [(.long (0 : Int64))])) rfl (hb hby own_d3_59)) ?_
          show Goes p e below _ s₁ (mkF m 62 #[.val (.ref wb), .val (.long (0 : Int64)), .second, .val (.ref wb), .val (.int wn), .val (.int (0 : Int32)), .val (.int (bs.getD (0 : Int32).toNatClampNeg 0))] [(.long (10 : Int64)), (.long (0 : Int64))])
          refine own_lmul X0 hx 63 rfl (z := (0 : Int64)) (hb hby own_d3_62) (by decide) ?_
          refine own_iload X0 hx 65 rfl (hb hby own_d3_63) rfl ?_
          refine own_i2l X0 hx 66 rfl (hb hby own_d3_65) rfl ?_
          refine own_ladd X0 hx 67 rfl (hb hby own_d3_66) rfl ?_
          refine Goes.go (X0.ldc2Long hx hown (mvT hZ (hw _ (List.mem_of_getElem? (i := 28) rfl))) (g := (mkF m 67 #[.val (.ref wb), .val (.long (0 : Int64)), .second, .val (.ref wb), .val (.int wn), .val (.int (0 : Int32)), .val (.int (bs.getD (0 : Int32).toNatClampNeg 0))] [(.long ((0 : Int64) + ((bs.getD (0 : Int32).toNatClampNeg 0).toInt64)))])) rfl (hb hby own_d3_67)) ?_
          show Goes p e below _ s₁ (mkF m 70 #[.val (.ref wb), .val (.long (0 : Int64)), .second, .val (.ref wb), .val (.int wn), .val (.int (0 : Int32)), .val (.int (bs.getD (0 : Int32).toNatClampNeg 0))] [(.long (48 : Int64)), (.long ((0 : Int64) + ((bs.getD (0 : Int32).toNatClampNeg 0).toInt64)))])
          refine own_lsub X0 hx 71 rfl (hb hby own_d3_70) rfl ?_
          refine own_lstoreN X0 hx 72 rfl #[.val (.ref wb), .val (.long (((0 : Int64) + ((bs.getD (0 : Int32).toNatClampNeg 0).toInt64)) - (48 : Int64))), .second, .val (.ref wb), .val (.int wn), .val (.int (0 : Int32)), .val (.int (bs.getD (0 : Int32).toNatClampNeg 0))] (hb hby own_d3_71) rfl ?_
          exact J72 (wn.toInt.toNat - 1) s₁ h0 _ (0 : Int32) (((0 : Int64) + ((bs.getD (0 : Int32).toNatClampNeg 0).toInt64)) - (48 : Int64)) (bs.getD (0 : Int32).toNatClampNeg 0) own_00 (own_start2 hzp) (own_start hzp) (own_next0 hR0 hlen hz0 hc44_12 hc51_13) X0 e0 N0 K0 Z0 Av
theorem own_pd1 : parseMethodDescriptor "([BJI)V" = some ⟨[(.array .byte), .long, .int], none⟩ := by decide +kernel
theorem own_pd2 : parseMethodDescriptor "([B)J" = some ⟨[(.array .byte)], some .long⟩ := by decide +kernel
def Q0 (Z : State) (x0 : Int64) (x1 : Int32) (x2 : Int32) (x3 : Int32) (x4 : Int32) (h0 : Heap) (n0 : Nat) (v : Option Value) (h : Heap) (L : List Loc) : Prop := v = some (.int 1) ∧ Fr n0 L
set_option maxRecDepth 65536 in
set_option maxHeartbeats 40000000 in
theorem rm0 (l : Launch) (Z : State) (a0 : Array Value) (hw : ∀ d ∈ tables_1, d.before a0 Z = true) (ws : List Jvm.Cond) (x0 : Int64) (x1 : Int32) (x2 : Int32) (x3 : Int32) (x4 : Int32) (h0 : Heap) (n0 : Nat) (Z0 : n0 ≤ h0.size)  :
    MetFree l x (head1 (Jvm.Cond.code x code maxLocals ret :: ws) room_1) (fun a U => a = #[(.long x0), (.int x1), (.int x2), (.int x3), (.int x4)] ∧ Z.Warmed39 U.vm ∧ U.heap = h0) (fun _ _ _ _ _ => True) (fun _ U o U' => ∃ v L, o = .returned v ∧ Q0 Z x0 x1 x2 x3 x4 h0 n0 v U'.heap L ∧ FrameEnd U o U' L 14 167) := by
  refine MetFree.of_bodySF (plainFor_of_name own_pn_com_example_tallywire_tallywire_consumers_CommandNumberPinLaw) hisR ?_
  intro p e s m args below meth c s₁ Bd hml0 hP hK
  obtain ⟨rfl, hZ, hh⟩ := hP
  have hx := Bd.exec
  have hby := Bd.bytes
  have hml : c.maxLocals = 20 := hml0
  have hlk := Bd.notSynchronized
  have hown : s.vm.findClass "com/example/tallywire/tallywire/consumers/CommandNumberPinLaw" = some m.cls := findClass_of_methodNamed Bd.named
  have hnm := (name_of_methodNamed Bd.named Bd.method).1
  have X0 : Stand p l e room_1 s m #[(.long x0), (.int x1), (.int x2), (.int x3), (.int x4)] below meth c s₁ [] 0 0 := Stand.of_body Bd
  have e0 : s₁.heap = h0 := by rw [← hh, Bd.state]; rfl
  have N0 := Fr.nil n0
  have K0 : Keep h0 h0 [] := Keep.refl _ _
  refine own_enter (P := (Done s 14 167 (Q0 Z x0 x1 x2 x3 x4 h0 n0))) (Ls := #[.val (.long x0), .second, .val (.int x1), .val (.int x2), .val (.int x3), .val (.int x4), .unset, .unset, .unset, .unset, .unset, .unset, .unset, .unset, .unset, .unset, .unset, .unset, .unset, .unset]) (by first | (simp [entryFrame, mkF, argsToLocals, Value.category, maxLocals]; done) | rfl) ?_
  refine own_iloadN X0 hx 1 rfl (hb hby at_0) rfl ?_
  refine own_bipush X0 hx 3 rfl (15 : Int32) (hb hby at_1) (by decide) ?_
  refine own_iand X0 hx 4 rfl (hb hby at_3) rfl ?_
  refine own_bipush X0 hx 6 rfl (12 : Int32) (hb hby at_4) (by decide) ?_
  obtain ⟨nn, h_nn⟩ : ∃ z, z = ((x1 &&& (15 : Int32)) % (12 : Int32)) := ⟨_, rfl⟩
  refine own_irem X0 hx 7 rfl (hb hby at_6) (by decide) h_nn.symm ?_
  refine own_istore X0 hx 9 rfl #[.val (.long x0), .second, .val (.int x1), .val (.int x2), .val (.int x3), .val (.int x4), .val (.int nn), .unset, .unset, .unset, .unset, .unset, .unset, .unset, .unset, .unset, .unset, .unset, .unset, .unset] (hb hby at_7) rfl ?_
  obtain ⟨nn0, nn1⟩ := own_len h_nn
  refine own_lloadN X0 hx 10 rfl (hb hby at_9) rfl ?_
  refine Goes.go (X0.ldc2Long hx hown (mvT hZ (hw _ (List.mem_of_getElem? (i := 0) rfl))) (g := (mkF m 10 #[.val (.long x0), .second, .val (.int x1), .val (.int x2), .val (.int x3), .val (.int x4), .val (.int nn), .unset, .unset, .unset, .unset, .unset, .unset, .unset, .unset, .unset, .unset, .unset, .unset, .unset] [(.long x0)])) rfl (hb hby at_10)) ?_
  show Goes p e below _ s₁ (mkF m 13 #[.val (.long x0), .second, .val (.int x1), .val (.int x2), .val (.int x3), .val (.int x4), .val (.int nn), .unset, .unset, .unset, .unset, .unset, .unset, .unset, .unset, .unset, .unset, .unset, .unset, .unset] [(.long (9223372036854775807 : Int64)), (.long x0)])
  refine own_land X0 hx 14 rfl (hb hby at_13) rfl ?_
  refine own_iload X0 hx 16 rfl (hb hby at_14) rfl ?_
  obtain ⟨_, _, ⟨T1, L1, k1, n1⟩, -, X1, ⟨Lc1, hQ1, l1, y1, z1⟩, st1⟩ := Jvm.LawKit.callS X0 hx (y := (⟨"com/example/tallywire/tallywire/consumers/CommandNumberPinLaw", "pow10", "(I)J"⟩ : MethodName)) hown (mvT hZ (hw _ (List.mem_of_getElem? (i := 1) rfl))) (mvT hZ (hw _ (List.mem_of_getElem? (i := 2) rfl))) (mvT hZ (hw _ (List.mem_of_getElem? (i := 3) rfl))) (mvT hZ (hw _ (List.mem_of_getElem? (i := 4) rfl))) (by decide) (backOf (W := 2) (rm1 l Z a0 hw [] nn h0 n0 Z0 nn0 nn1) hZ (hw _ (List.mem_of_getElem? (i := 4) rfl)) (hw _ (List.mem_of_getElem? (i := 3) rfl)) (by decide) (by decide)) (g := (mkF m 16 #[.val (.long x0), .second, .val (.int x1), .val (.int x2), .val (.int x3), .val (.int x4), .val (.int nn), .unset, .unset, .unset, .unset, .unset, .unset, .unset, .unset, .unset, .unset, .unset, .unset, .unset] [(.int nn), (.long (x0 &&& (9223372036854775807 : Int64)))])) rfl (by rw [hml]; rfl) (argsL := [(.int nn)]) (rest := [(.long (x0 &&& (9223372036854775807 : Int64)))]) (lenOf own_pd0 rfl) rfl (by show 2 * 0 + _ ≤ _; exact Nat.le_of_eq rfl) (hb hby at_16) (fun _ _ => ⟨rfl, e0, (by decide : 0 + 1 ≤ _), (by decide : 0 + 12 ≤ _)⟩)
  dsimp only [Pt.U, Pt.locs, Pt.cells, Pt.slots] at X1 l1 y1 z1 st1 hQ1
  subst l1 y1 z1
  obtain ⟨rfl, N1q, K1q⟩ := hQ1
  have N1 := Fr.app N0 N1q
  have K1 := K0.trans K1q all0
  have Z1 := Nat.le_trans Z0 K1q.1
  refine Goes.go st1 ?_
  show Goes p e below _ T1 (mkF m 19 #[.val (.long x0), .second, .val (.int x1), .val (.int x2), .val (.int x3), .val (.int x4), .val (.int nn), .unset, .unset, .unset, .unset, .unset, .unset, .unset, .unset, .unset, .unset, .unset, .unset, .unset] [(.long (own_p10 nn)), (.long (x0 &&& (9223372036854775807 : Int64)))])
  obtain ⟨xx, h_xx⟩ : ∃ z, z = ((x0 &&& (9223372036854775807 : Int64)) % (own_p10 nn)) := ⟨_, rfl⟩
  refine own_lrem X1 hx 20 rfl (hb hby at_19) (own_p10nz nn0 nn1) h_xx.symm ?_
  refine own_lstore X1 hx 22 rfl #[.val (.long x0), .second, .val (.int x1), .val (.int x2), .val (.int x3), .val (.int x4), .val (.int nn), .val (.long xx), .second, .unset, .unset, .unset, .unset, .unset, .unset, .unset, .unset, .unset, .unset, .unset] (hb hby at_20) rfl ?_
  refine own_iload X1 hx 24 rfl (hb hby at_22) rfl ?_
  obtain ⟨T2, h2, k2, X2, e2, E2, A2, st2⟩ := newP X1 hx hZ (hw _ (List.mem_of_getElem? (i := 17) rfl)) rfl (g := (mkF m 24 #[.val (.long x0), .second, .val (.int x1), .val (.int x2), .val (.int x3), .val (.int x4), .val (.int nn), .val (.long xx), .second, .unset, .unset, .unset, .unset, .unset, .unset, .unset, .unset, .unset, .unset, .unset] [(.int nn)])) rfl (hb hby at_24) rfl (own_nneg nn0) (cap := 11) (own_cap nn0 nn1) (by decide) (by decide) (by decide)
  obtain ⟨b2, g2⟩ : ∃ z, z = T1.heap.size := ⟨_, rfl⟩
  rw [← g2] at A2 st2
  have G2 : n0 ≤ b2 := Nat.le_trans Z1 (Nat.le_of_eq g2.symm)
  have H2 : h0.size ≤ b2 := Nat.le_trans K1.1 (Nat.le_of_eq g2.symm)
  have K2 := K1.ext E2
  have Z2 := Nat.le_trans Z1 E2.1
  have V2 : Arv Z h2 b2 k2 .byte nn [] (.int (0 : Int32)) := Arv.new A2 (own_nneg nn0)
  refine Goes.go st2 ?_
  show Goes p e below _ T2 (mkF m 26 #[.val (.long x0), .second, .val (.int x1), .val (.int x2), .val (.int x3), .val (.int x4), .val (.int nn), .val (.long xx), .second, .unset, .unset, .unset, .unset, .unset, .unset, .unset, .unset, .unset, .unset, .unset] [(.ref b2)])
  have V3 : Arv Z h2 b2 k2 .byte nn ((List.replicate nn.toNatClampNeg (0 : Int32)).map Value.int) (.int (0 : Int32)) := Arv.pad V2 (own_padz _)
  refine own_astore X2 hx 28 rfl #[.val (.long x0), .second, .val (.int x1), .val (.int x2), .val (.int x3), .val (.int x4), .val (.int nn), .val (.long xx), .second, .val (.ref b2), .unset, .unset, .unset, .unset, .unset, .unset, .unset, .unset, .unset, .unset] (hb hby at_26) rfl rfl ?_
  refine own_aload X2 hx 30 rfl (hb hby at_28) rfl rfl ?_
  refine own_lload X2 hx 32 rfl (hb hby at_30) rfl ?_
  refine own_iconst X2 hx 33 rfl (0 : Int32) (hb hby at_32) (by decide) ?_
  obtain ⟨_, _, ⟨T4, L4, k4, n4⟩, -, X4, ⟨Lc4, hQ4, l4, y4, z4⟩, st4⟩ := Jvm.LawKit.callS X2 hx (y := (⟨"com/example/tallywire/tallywire/consumers/CommandNumberPinLaw", "put", "([BJI)V"⟩ : MethodName)) hown (mvT hZ (hw _ (List.mem_of_getElem? (i := 18) rfl))) (mvT hZ (hw _ (List.mem_of_getElem? (i := 19) rfl))) (mvT hZ (hw _ (List.mem_of_getElem? (i := 3) rfl))) (mvT hZ (hw _ (List.mem_of_getElem? (i := 20) rfl))) (by decide) (backOf (W := 0) (rm2 l Z a0 hw [] b2 xx (0 : Int32) k2 nn (List.replicate nn.toNatClampNeg (0 : Int32)) h2 n0 Z2 V3 G2 (by simp only [own_put_len, List.length_replicate]) nn0 nn1 (by decide)) hZ (hw _ (List.mem_of_getElem? (i := 20) rfl)) (hw _ (List.mem_of_getElem? (i := 3) rfl)) (by decide) (by decide)) (g := (mkF m 33 #[.val (.long x0), .second, .val (.int x1), .val (.int x2), .val (.int x3), .val (.int x4), .val (.int nn), .val (.long xx), .second, .val (.ref b2), .unset, .unset, .unset, .unset, .unset, .unset, .unset, .unset, .unset, .unset] [(.int (0 : Int32)), (.long xx), (.ref b2)])) rfl (by rw [hml]; rfl) (argsL := [(.ref b2), (.long xx), (.int (0 : Int32))]) (rest := []) (lenOf own_pd1 rfl) rfl (by show 2 * 0 + _ ≤ _; exact Nat.le_of_eq rfl) (hb hby at_33) (fun _ _ => ⟨rfl, e2, (by decide : 2 + 1 ≤ _), (by decide : 23 + 12 ≤ _)⟩)
  dsimp only [Pt.U, Pt.locs, Pt.cells, Pt.slots] at X4 l4 y4 z4 st4 hQ4
  subst l4 y4 z4
  obtain ⟨rfl, N4q, K4q, f4_0⟩ := hQ4
  have N4 := Fr.app N1 N4q
  have K4 := K2.trans K4q (allS (Or.inr H2) all0)
  have Z4 := Nat.le_trans Z2 K4q.1
  refine Goes.go st4 ?_
  show Goes p e below _ T4 (mkF m 36 #[.val (.long x0), .second, .val (.int x1), .val (.int x2), .val (.int x3), .val (.int x4), .val (.int nn), .val (.long xx), .second, .val (.ref b2), .unset, .unset, .unset, .unset, .unset, .unset, .unset, .unset, .unset, .unset] [])
  refine own_aload X4 hx 38 rfl (hb hby at_36) rfl rfl ?_
  refine own_lload X4 hx 40 rfl (hb hby at_38) rfl ?_
  refine own_iconst X4 hx 41 rfl (1 : Int32) (hb hby at_40) (by decide) ?_
  obtain ⟨_, _, ⟨T5, L5, k5, n5⟩, -, X5, ⟨Lc5, hQ5, l5, y5, z5⟩, st5⟩ := Jvm.LawKit.callS X4 hx (y := (⟨"com/example/tallywire/tallywire/consumers/CommandNumberPinLaw", "put", "([BJI)V"⟩ : MethodName)) hown (mvT hZ (hw _ (List.mem_of_getElem? (i := 18) rfl))) (mvT hZ (hw _ (List.mem_of_getElem? (i := 19) rfl))) (mvT hZ (hw _ (List.mem_of_getElem? (i := 3) rfl))) (mvT hZ (hw _ (List.mem_of_getElem? (i := 20) rfl))) (by decide) (backOf (W := 0) (rm2 l Z a0 hw [] b2 xx (1 : Int32) k2 nn (own_put (List.replicate nn.toNatClampNeg (0 : Int32)) xx nn (0 : Int32)) T4.heap n0 Z4 f4_0 G2 (by simp only [own_put_len, List.length_replicate]) nn0 nn1 (by decide)) hZ (hw _ (List.mem_of_getElem? (i := 20) rfl)) (hw _ (List.mem_of_getElem? (i := 3) rfl)) (by decide) (by decide)) (g := (mkF m 41 #[.val (.long x0), .second, .val (.int x1), .val (.int x2), .val (.int x3), .val (.int x4), .val (.int nn), .val (.long xx), .second, .val (.ref b2), .unset, .unset, .unset, .unset, .unset, .unset, .unset, .unset, .unset, .unset] [(.int (1 : Int32)), (.long xx), (.ref b2)])) rfl (by rw [hml]; rfl) (argsL := [(.ref b2), (.long xx), (.int (1 : Int32))]) (rest := []) (lenOf own_pd1 rfl) rfl (by show 2 * 0 + _ ≤ _; exact Nat.le_of_eq rfl) (hb hby at_41) (fun _ _ => ⟨rfl, rfl, (by decide : 3 + 1 ≤ _), (by decide : 35 + 12 ≤ _)⟩)
  dsimp only [Pt.U, Pt.locs, Pt.cells, Pt.slots] at X5 l5 y5 z5 st5 hQ5
  subst l5 y5 z5
  obtain ⟨rfl, N5q, K5q, f5_0⟩ := hQ5
  have N5 := Fr.app N4 N5q
  have K5 := K4.trans K5q (allS (Or.inr H2) all0)
  have Z5 := Nat.le_trans Z4 K5q.1
  refine Goes.go st5 ?_
  show Goes p e below _ T5 (mkF m 44 #[.val (.long x0), .second, .val (.int x1), .val (.int x2), .val (.int x3), .val (.int x4), .val (.int nn), .val (.long xx), .second, .val (.ref b2), .unset, .unset, .unset, .unset, .unset, .unset, .unset, .unset, .unset, .unset] [])
  refine own_aload X5 hx 46 rfl (hb hby at_44) rfl rfl ?_
  refine own_lload X5 hx 48 rfl (hb hby at_46) rfl ?_
  refine own_iconst X5 hx 49 rfl (2 : Int32) (hb hby at_48) (by decide) ?_
  obtain ⟨_, _, ⟨T6, L6, k6, n6⟩, -, X6, ⟨Lc6, hQ6, l6, y6, z6⟩, st6⟩ := Jvm.LawKit.callS X5 hx (y := (⟨"com/example/tallywire/tallywire/consumers/CommandNumberPinLaw", "put", "([BJI)V"⟩ : MethodName)) hown (mvT hZ (hw _ (List.mem_of_getElem? (i := 18) rfl))) (mvT hZ (hw _ (List.mem_of_getElem? (i := 19) rfl))) (mvT hZ (hw _ (List.mem_of_getElem? (i := 3) rfl))) (mvT hZ (hw _ (List.mem_of_getElem? (i := 20) rfl))) (by decide) (backOf (W := 0) (rm2 l Z a0 hw [] b2 xx (2 : Int32) k2 nn (own_put (own_put (List.replicate nn.toNatClampNeg (0 : Int32)) xx nn (0 : Int32)) xx nn (1 : Int32)) T5.heap n0 Z5 f5_0 G2 (by simp only [own_put_len, List.length_replicate]) nn0 nn1 (by decide)) hZ (hw _ (List.mem_of_getElem? (i := 20) rfl)) (hw _ (List.mem_of_getElem? (i := 3) rfl)) (by decide) (by decide)) (g := (mkF m 49 #[.val (.long x0), .second, .val (.int x1), .val (.int x2), .val (.int x3), .val (.int x4), .val (.int nn), .val (.long xx), .second, .val (.ref b2), .unset, .unset, .unset, .unset, .unset, .unset, .unset, .unset, .unset, .unset] [(.int (2 : Int32)), (.long xx), (.ref b2)])) rfl (by rw [hml]; rfl) (argsL := [(.ref b2), (.long xx), (.int (2 : Int32))]) (rest := []) (lenOf own_pd1 rfl) rfl (by show 2 * 0 + _ ≤ _; exact Nat.le_of_eq rfl) (hb hby at_49) (fun _ _ => ⟨rfl, rfl, (by decide : 4 + 1 ≤ _), (by decide : 47 + 12 ≤ _)⟩)
  dsimp only [Pt.U, Pt.locs, Pt.cells, Pt.slots] at X6 l6 y6 z6 st6 hQ6
  subst l6 y6 z6
  obtain ⟨rfl, N6q, K6q, f6_0⟩ := hQ6
  have N6 := Fr.app N5 N6q
  have K6 := K5.trans K6q (allS (Or.inr H2) all0)
  have Z6 := Nat.le_trans Z5 K6q.1
  refine Goes.go st6 ?_
  show Goes p e below _ T6 (mkF m 52 #[.val (.long x0), .second, .val (.int x1), .val (.int x2), .val (.int x3), .val (.int x4), .val (.int nn), .val (.long xx), .second, .val (.ref b2), .unset, .unset, .unset, .unset, .unset, .unset, .unset, .unset, .unset, .unset] [])
  refine own_aload X6 hx 54 rfl (hb hby at_52) rfl rfl ?_
  refine own_lload X6 hx 56 rfl (hb hby at_54) rfl ?_
  refine own_iconst X6 hx 57 rfl (3 : Int32) (hb hby at_56) (by decide) ?_
  obtain ⟨_, _, ⟨T7, L7, k7, n7⟩, -, X7, ⟨Lc7, hQ7, l7, y7, z7⟩, st7⟩ := Jvm.LawKit.callS X6 hx (y := (⟨"com/example/tallywire/tallywire/consumers/CommandNumberPinLaw", "put", "([BJI)V"⟩ : MethodName)) hown (mvT hZ (hw _ (List.mem_of_getElem? (i := 18) rfl))) (mvT hZ (hw _ (List.mem_of_getElem? (i := 19) rfl))) (mvT hZ (hw _ (List.mem_of_getElem? (i := 3) rfl))) (mvT hZ (hw _ (List.mem_of_getElem? (i := 20) rfl))) (by decide) (backOf (W := 0) (rm2 l Z a0 hw [] b2 xx (3 : Int32) k2 nn (own_put (own_put (own_put (List.replicate nn.toNatClampNeg (0 : Int32)) xx nn (0 : Int32)) xx nn (1 : Int32)) xx nn (2 : Int32)) T6.heap n0 Z6 f6_0 G2 (by simp only [own_put_len, List.length_replicate]) nn0 nn1 (by decide)) hZ (hw _ (List.mem_of_getElem? (i := 20) rfl)) (hw _ (List.mem_of_getElem? (i := 3) rfl)) (by decide) (by decide)) (g := (mkF m 57 #[.val (.long x0), .second, .val (.int x1), .val (.int x2), .val (.int x3), .val (.int x4), .val (.int nn), .val (.long xx), .second, .val (.ref b2), .unset, .unset, .unset, .unset, .unset, .unset, .unset, .unset, .unset, .unset] [(.int (3 : Int32)), (.long xx), (.ref b2)])) rfl (by rw [hml]; rfl) (argsL := [(.ref b2), (.long xx), (.int (3 : Int32))]) (rest := []) (lenOf own_pd1 rfl) rfl (by show 2 * 0 + _ ≤ _; exact Nat.le_of_eq rfl) (hb hby at_57) (fun _ _ => ⟨rfl, rfl, (by decide : 5 + 1 ≤ _), (by decide : 59 + 12 ≤ _)⟩)
  dsimp only [Pt.U, Pt.locs, Pt.cells, Pt.slots] at X7 l7 y7 z7 st7 hQ7
  subst l7 y7 z7
  obtain ⟨rfl, N7q, K7q, f7_0⟩ := hQ7
  have N7 := Fr.app N6 N7q
  have K7 := K6.trans K7q (allS (Or.inr H2) all0)
  have Z7 := Nat.le_trans Z6 K7q.1
  refine Goes.go st7 ?_
  show Goes p e below _ T7 (mkF m 60 #[.val (.long x0), .second, .val (.int x1), .val (.int x2), .val (.int x3), .val (.int x4), .val (.int nn), .val (.long xx), .second, .val (.ref b2), .unset, .unset, .unset, .unset, .unset, .unset, .unset, .unset, .unset, .unset] [])
  refine own_aload X7 hx 62 rfl (hb hby at_60) rfl rfl ?_
  refine own_lload X7 hx 64 rfl (hb hby at_62) rfl ?_
  refine own_iconst X7 hx 65 rfl (4 : Int32) (hb hby at_64) (by decide) ?_
  obtain ⟨_, _, ⟨T8, L8, k8, n8⟩, -, X8, ⟨Lc8, hQ8, l8, y8, z8⟩, st8⟩ := Jvm.LawKit.callS X7 hx (y := (⟨"com/example/tallywire/tallywire/consumers/CommandNumberPinLaw", "put", "([BJI)V"⟩ : MethodName)) hown (mvT hZ (hw _ (List.mem_of_getElem? (i := 18) rfl))) (mvT hZ (hw _ (List.mem_of_getElem? (i := 19) rfl))) (mvT hZ (hw _ (List.mem_of_getElem? (i := 3) rfl))) (mvT hZ (hw _ (List.mem_of_getElem? (i := 20) rfl))) (by decide) (backOf (W := 0) (rm2 l Z a0 hw [] b2 xx (4 : Int32) k2 nn (own_put (own_put (own_put (own_put (List.replicate nn.toNatClampNeg (0 : Int32)) xx nn (0 : Int32)) xx nn (1 : Int32)) xx nn (2 : Int32)) xx nn (3 : Int32)) T7.heap n0 Z7 f7_0 G2 (by simp only [own_put_len, List.length_replicate]) nn0 nn1 (by decide)) hZ (hw _ (List.mem_of_getElem? (i := 20) rfl)) (hw _ (List.mem_of_getElem? (i := 3) rfl)) (by decide) (by decide)) (g := (mkF m 65 #[.val (.long x0), .second, .val (.int x1), .val (.int x2), .val (.int x3), .val (.int x4), .val (.int nn), .val (.long xx), .second, .val (.ref b2), .unset, .unset, .unset, .unset, .unset, .unset, .unset, .unset, .unset, .unset] [(.int (4 : Int32)), (.long xx), (.ref b2)])) rfl (by rw [hml]; rfl) (argsL := [(.ref b2), (.long xx), (.int (4 : Int32))]) (rest := []) (lenOf own_pd1 rfl) rfl (by show 2 * 0 + _ ≤ _; exact Nat.le_of_eq rfl) (hb hby at_65) (fun _ _ => ⟨rfl, rfl, (by decide : 6 + 1 ≤ _), (by decide : 71 + 12 ≤ _)⟩)
  dsimp only [Pt.U, Pt.locs, Pt.cells, Pt.slots] at X8 l8 y8 z8 st8 hQ8
  subst l8 y8 z8
  obtain ⟨rfl, N8q, K8q, f8_0⟩ := hQ8
  have N8 := Fr.app N7 N8q
  have K8 := K7.trans K8q (allS (Or.inr H2) all0)
  have Z8 := Nat.le_trans Z7 K8q.1
  refine Goes.go st8 ?_
  show Goes p e below _ T8 (mkF m 68 #[.val (.long x0), .second, .val (.int x1), .val (.int x2), .val (.int x3), .val (.int x4), .val (.int nn), .val (.long xx), .second, .val (.ref b2), .unset, .unset, .unset, .unset, .unset, .unset, .unset, .unset, .unset, .unset] [])
  refine own_aload X8 hx 70 rfl (hb hby at_68) rfl rfl ?_
  refine own_lload X8 hx 72 rfl (hb hby at_70) rfl ?_
  refine own_iconst X8 hx 73 rfl (5 : Int32) (hb hby at_72) (by decide) ?_
  obtain ⟨_, _, ⟨T9, L9, k9, n9⟩, -, X9, ⟨Lc9, hQ9, l9, y9, z9⟩, st9⟩ := Jvm.LawKit.callS X8 hx (y := (⟨"com/example/tallywire/tallywire/consumers/CommandNumberPinLaw", "put", "([BJI)V"⟩ : MethodName)) hown (mvT hZ (hw _ (List.mem_of_getElem? (i := 18) rfl))) (mvT hZ (hw _ (List.mem_of_getElem? (i := 19) rfl))) (mvT hZ (hw _ (List.mem_of_getElem? (i := 3) rfl))) (mvT hZ (hw _ (List.mem_of_getElem? (i := 20) rfl))) (by decide) (backOf (W := 0) (rm2 l Z a0 hw [] b2 xx (5 : Int32) k2 nn (own_put (own_put (own_put (own_put (own_put (List.replicate nn.toNatClampNeg (0 : Int32)) xx nn (0 : Int32)) xx nn (1 : Int32)) xx nn (2 : Int32)) xx nn (3 : Int32)) xx nn (4 : Int32)) T8.heap n0 Z8 f8_0 G2 (by simp only [own_put_len, List.length_replicate]) nn0 nn1 (by decide)) hZ (hw _ (List.mem_of_getElem? (i := 20) rfl)) (hw _ (List.mem_of_getElem? (i := 3) rfl)) (by decide) (by decide)) (g := (mkF m 73 #[.val (.long x0), .second, .val (.int x1), .val (.int x2), .val (.int x3), .val (.int x4), .val (.int nn), .val (.long xx), .second, .val (.ref b2), .unset, .unset, .unset, .unset, .unset, .unset, .unset, .unset, .unset, .unset] [(.int (5 : Int32)), (.long xx), (.ref b2)])) rfl (by rw [hml]; rfl) (argsL := [(.ref b2), (.long xx), (.int (5 : Int32))]) (rest := []) (lenOf own_pd1 rfl) rfl (by show 2 * 0 + _ ≤ _; exact Nat.le_of_eq rfl) (hb hby at_73) (fun _ _ => ⟨rfl, rfl, (by decide : 7 + 1 ≤ _), (by decide : 83 + 12 ≤ _)⟩)
  dsimp only [Pt.U, Pt.locs, Pt.cells, Pt.slots] at X9 l9 y9 z9 st9 hQ9
  subst l9 y9 z9
  obtain ⟨rfl, N9q, K9q, f9_0⟩ := hQ9
  have N9 := Fr.app N8 N9q
  have K9 := K8.trans K9q (allS (Or.inr H2) all0)
  have Z9 := Nat.le_trans Z8 K9q.1
  refine Goes.go st9 ?_
  show Goes p e below _ T9 (mkF m 76 #[.val (.long x0), .second, .val (.int x1), .val (.int x2), .val (.int x3), .val (.int x4), .val (.int nn), .val (.long xx), .second, .val (.ref b2), .unset, .unset, .unset, .unset, .unset, .unset, .unset, .unset, .unset, .unset] [])
  refine own_aload X9 hx 78 rfl (hb hby at_76) rfl rfl ?_
  refine own_lload X9 hx 80 rfl (hb hby at_78) rfl ?_
  refine own_bipush X9 hx 82 rfl (6 : Int32) (hb hby at_80) (by decide) ?_
  obtain ⟨_, _, ⟨T10, L10, k10, n10⟩, -, X10, ⟨Lc10, hQ10, l10, y10, z10⟩, st10⟩ := Jvm.LawKit.callS X9 hx (y := (⟨"com/example/tallywire/tallywire/consumers/CommandNumberPinLaw", "put", "([BJI)V"⟩ : MethodName)) hown (mvT hZ (hw _ (List.mem_of_getElem? (i := 18) rfl))) (mvT hZ (hw _ (List.mem_of_getElem? (i := 19) rfl))) (mvT hZ (hw _ (List.mem_of_getElem? (i := 3) rfl))) (mvT hZ (hw _ (List.mem_of_getElem? (i := 20) rfl))) (by decide) (backOf (W := 0) (rm2 l Z a0 hw [] b2 xx (6 : Int32) k2 nn (own_put (own_put (own_put (own_put (own_put (own_put (List.replicate nn.toNatClampNeg (0 : Int32)) xx nn (0 : Int32)) xx nn (1 : Int32)) xx nn (2 : Int32)) xx nn (3 : Int32)) xx nn (4 : Int32)) xx nn (5 : Int32)) T9.heap n0 Z9 f9_0 G2 (by simp only [own_put_len, List.length_replicate]) nn0 nn1 (by decide)) hZ (hw _ (List.mem_of_getElem? (i := 20) rfl)) (hw _ (List.mem_of_getElem? (i := 3) rfl)) (by decide) (by decide)) (g := (mkF m 82 #[.val (.long x0), .second, .val (.int x1), .val (.int x2), .val (.int x3), .val (.int x4), .val (.int nn), .val (.long xx), .second, .val (.ref b2), .unset, .unset, .unset, .unset, .unset, .unset, .unset, .unset, .unset, .unset] [(.int (6 : Int32)), (.long xx), (.ref b2)])) rfl (by rw [hml]; rfl) (argsL := [(.ref b2), (.long xx), (.int (6 : Int32))]) (rest := []) (lenOf own_pd1 rfl) rfl (by show 2 * 0 + _ ≤ _; exact Nat.le_of_eq rfl) (hb hby at_82) (fun _ _ => ⟨rfl, rfl, (by decide : 8 + 1 ≤ _), (by decide : 95 + 12 ≤ _)⟩)
  dsimp only [Pt.U, Pt.locs, Pt.cells, Pt.slots] at X10 l10 y10 z10 st10 hQ10
  subst l10 y10 z10
  obtain ⟨rfl, N10q, K10q, f10_0⟩ := hQ10
  have N10 := Fr.app N9 N10q
  have K10 := K9.trans K10q (allS (Or.inr H2) all0)
  have Z10 := Nat.le_trans Z9 K10q.1
  refine Goes.go st10 ?_
  show Goes p e below _ T10 (mkF m 85 #[.val (.long x0), .second, .val (.int x1), .val (.int x2), .val (.int x3), .val (.int x4), .val (.int nn), .val (.long xx), .second, .val (.ref b2), .unset, .unset, .unset, .unset, .unset, .unset, .unset, .unset, .unset, .unset] [])
  refine own_aload X10 hx 87 rfl (hb hby at_85) rfl rfl ?_
  refine own_lload X10 hx 89 rfl (hb hby at_87) rfl ?_
  refine own_bipush X10 hx 91 rfl (7 : Int32) (hb hby at_89) (by decide) ?_
  obtain ⟨_, _, ⟨T11, L11, k11, n11⟩, -, X11, ⟨Lc11, hQ11, l11, y11, z11⟩, st11⟩ := Jvm.LawKit.callS X10 hx (y := (⟨"com/example/tallywire/tallywire/consumers/CommandNumberPinLaw", "put", "([BJI)V"⟩ : MethodName)) hown (mvT hZ (hw _ (List.mem_of_getElem? (i := 18) rfl))) (mvT hZ (hw _ (List.mem_of_getElem? (i := 19) rfl))) (mvT hZ (hw _ (List.mem_of_getElem? (i := 3) rfl))) (mvT hZ (hw _ (List.mem_of_getElem? (i := 20) rfl))) (by decide) (backOf (W := 0) (rm2 l Z a0 hw [] b2 xx (7 : Int32) k2 nn (own_put (own_put (own_put (own_put (own_put (own_put (own_put (List.replicate nn.toNatClampNeg (0 : Int32)) xx nn (0 : Int32)) xx nn (1 : Int32)) xx nn (2 : Int32)) xx nn (3 : Int32)) xx nn (4 : Int32)) xx nn (5 : Int32)) xx nn (6 : Int32)) T10.heap n0 Z10 f10_0 G2 (by simp only [own_put_len, List.length_replicate]) nn0 nn1 (by decide)) hZ (hw _ (List.mem_of_getElem? (i := 20) rfl)) (hw _ (List.mem_of_getElem? (i := 3) rfl)) (by decide) (by decide)) (g := (mkF m 91 #[.val (.long x0), .second, .val (.int x1), .val (.int x2), .val (.int x3), .val (.int x4), .val (.int nn), .val (.long xx), .second, .val (.ref b2), .unset, .unset, .unset, .unset, .unset, .unset, .unset, .unset, .unset, .unset] [(.int (7 : Int32)), (.long xx), (.ref b2)])) rfl (by rw [hml]; rfl) (argsL := [(.ref b2), (.long xx), (.int (7 : Int32))]) (rest := []) (lenOf own_pd1 rfl) rfl (by show 2 * 0 + _ ≤ _; exact Nat.le_of_eq rfl) (hb hby at_91) (fun _ _ => ⟨rfl, rfl, (by decide : 9 + 1 ≤ _), (by decide : 107 + 12 ≤ _)⟩)
  dsimp only [Pt.U, Pt.locs, Pt.cells, Pt.slots] at X11 l11 y11 z11 st11 hQ11
  subst l11 y11 z11
  obtain ⟨rfl, N11q, K11q, f11_0⟩ := hQ11
  have N11 := Fr.app N10 N11q
  have K11 := K10.trans K11q (allS (Or.inr H2) all0)
  have Z11 := Nat.le_trans Z10 K11q.1
  refine Goes.go st11 ?_
  show Goes p e below _ T11 (mkF m 94 #[.val (.long x0), .second, .val (.int x1), .val (.int x2), .val (.int x3), .val (.int x4), .val (.int nn), .val (.long xx), .second, .val (.ref b2), .unset, .unset, .unset, .unset, .unset, .unset, .unset, .unset, .unset, .unset] [])
  refine own_aload X11 hx 96 rfl (hb hby at_94) rfl rfl ?_
  refine own_lload X11 hx 98 rfl (hb hby at_96) rfl ?_
  refine own_bipush X11 hx 100 rfl (8 : Int32) (hb hby at_98) (by decide) ?_
  obtain ⟨_, _, ⟨T12, L12, k12, n12⟩, -, X12, ⟨Lc12, hQ12, l12, y12, z12⟩, st12⟩ := Jvm.LawKit.callS X11 hx (y := (⟨"com/example/tallywire/tallywire/consumers/CommandNumberPinLaw", "put", "([BJI)V"⟩ : MethodName)) hown (mvT hZ (hw _ (List.mem_of_getElem? (i := 18) rfl))) (mvT hZ (hw _ (List.mem_of_getElem? (i := 19) rfl))) (mvT hZ (hw _ (List.mem_of_getElem? (i := 3) rfl))) (mvT hZ (hw _ (List.mem_of_getElem? (i := 20) rfl))) (by decide) (backOf (W := 0) (rm2 l Z a0 hw [] b2 xx (8 : Int32) k2 nn (own_put (own_put (own_put (own_put (own_put (own_put (own_put (own_put (List.replicate nn.toNatClampNeg (0 : Int32)) xx nn (0 : Int32)) xx nn (1 : Int32)) xx nn (2 : Int32)) xx nn (3 : Int32)) xx nn (4 : Int32)) xx nn (5 : Int32)) xx nn (6 : Int32)) xx nn (7 : Int32)) T11.heap n0 Z11 f11_0 G2 (by simp only [own_put_len, List.length_replicate]) nn0 nn1 (by decide)) hZ (hw _ (List.mem_of_getElem? (i := 20) rfl)) (hw _ (List.mem_of_getElem? (i := 3) rfl)) (by decide) (by decide)) (g := (mkF m 100 #[.val (.long x0), .second, .val (.int x1), .val (.int x2), .val (.int x3), .val (.int x4), .val (.int nn), .val (.long xx), .second, .val (.ref b2), .unset, .unset, .unset, .unset, .unset, .unset, .unset, .unset, .unset, .unset] [(.int (8 : Int32)), (.long xx), (.ref b2)])) rfl (by rw [hml]; rfl) (argsL := [(.ref b2), (.long xx), (.int (8 : Int32))]) (rest := []) (lenOf own_pd1 rfl) rfl (by show 2 * 0 + _ ≤ _; exact Nat.le_of_eq rfl) (hb hby at_100) (fun _ _ => ⟨rfl, rfl, (by decide : 10 + 1 ≤ _), (by decide : 119 + 12 ≤ _)⟩)
  dsimp only [Pt.U, Pt.locs, Pt.cells, Pt.slots] at X12 l12 y12 z12 st12 hQ12
  subst l12 y12 z12
  obtain ⟨rfl, N12q, K12q, f12_0⟩ := hQ12
  have N12 := Fr.app N11 N12q
  have K12 := K11.trans K12q (allS (Or.inr H2) all0)
  have Z12 := Nat.le_trans Z11 K12q.1
  refine Goes.go st12 ?_
  show Goes p e below _ T12 (mkF m 103 #[.val (.long x0), .second, .val (.int x1), .val (.int x2), .val (.int x3), .val (.int x4), .val (.int nn), .val (.long xx), .second, .val (.ref b2), .unset, .unset, .unset, .unset, .unset, .unset, .unset, .unset, .unset, .unset] [])
  refine own_aload X12 hx 105 rfl (hb hby at_103) rfl rfl ?_
  refine own_lload X12 hx 107 rfl (hb hby at_105) rfl ?_
  refine own_bipush X12 hx 109 rfl (9 : Int32) (hb hby at_107) (by decide) ?_
  obtain ⟨_, _, ⟨T13, L13, k13, n13⟩, -, X13, ⟨Lc13, hQ13, l13, y13, z13⟩, st13⟩ := Jvm.LawKit.callS X12 hx (y := (⟨"com/example/tallywire/tallywire/consumers/CommandNumberPinLaw", "put", "([BJI)V"⟩ : MethodName)) hown (mvT hZ (hw _ (List.mem_of_getElem? (i := 18) rfl))) (mvT hZ (hw _ (List.mem_of_getElem? (i := 19) rfl))) (mvT hZ (hw _ (List.mem_of_getElem? (i := 3) rfl))) (mvT hZ (hw _ (List.mem_of_getElem? (i := 20) rfl))) (by decide) (backOf (W := 0) (rm2 l Z a0 hw [] b2 xx (9 : Int32) k2 nn (own_put (own_put (own_put (own_put (own_put (own_put (own_put (own_put (own_put (List.replicate nn.toNatClampNeg (0 : Int32)) xx nn (0 : Int32)) xx nn (1 : Int32)) xx nn (2 : Int32)) xx nn (3 : Int32)) xx nn (4 : Int32)) xx nn (5 : Int32)) xx nn (6 : Int32)) xx nn (7 : Int32)) xx nn (8 : Int32)) T12.heap n0 Z12 f12_0 G2 (by simp only [own_put_len, List.length_replicate]) nn0 nn1 (by decide)) hZ (hw _ (List.mem_of_getElem? (i := 20) rfl)) (hw _ (List.mem_of_getElem? (i := 3) rfl)) (by decide) (by decide)) (g := (mkF m 109 #[.val (.long x0), .second, .val (.int x1), .val (.int x2), .val (.int x3), .val (.int x4), .val (.int nn), .val (.long xx), .second, .val (.ref b2), .unset, .unset, .unset, .unset, .unset, .unset, .unset, .unset, .unset, .unset] [(.int (9 : Int32)), (.long xx), (.ref b2)])) rfl (by rw [hml]; rfl) (argsL := [(.ref b2), (.long xx), (.int (9 : Int32))]) (rest := []) (lenOf own_pd1 rfl) rfl (by show 2 * 0 + _ ≤ _; exact Nat.le_of_eq rfl) (hb hby at_109) (fun _ _ => ⟨rfl, rfl, (by decide : 11 + 1 ≤ _), (by decide : 131 + 12 ≤ _)⟩)
  dsimp only [Pt.U, Pt.locs, Pt.cells, Pt.slots] at X13 l13 y13 z13 st13 hQ13
  subst l13 y13 z13
  obtain ⟨rfl, N13q, K13q, f13_0⟩ := hQ13
  have N13 := Fr.app N12 N13q
  have K13 := K12.trans K13q (allS (Or.inr H2) all0)
  have Z13 := Nat.le_trans Z12 K13q.1
  refine Goes.go st13 ?_
  show Goes p e below _ T13 (mkF m 112 #[.val (.long x0), .second, .val (.int x1), .val (.int x2), .val (.int x3), .val (.int x4), .val (.int nn), .val (.long xx), .second, .val (.ref b2), .unset, .unset, .unset, .unset, .unset, .unset, .unset, .unset, .unset, .unset] [])
  refine own_aload X13 hx 114 rfl (hb hby at_112) rfl rfl ?_
  refine own_lload X13 hx 116 rfl (hb hby at_114) rfl ?_
  refine own_bipush X13 hx 118 rfl (10 : Int32) (hb hby at_116) (by decide) ?_
  obtain ⟨_, _, ⟨T14, L14, k14, n14⟩, -, X14, ⟨Lc14, hQ14, l14, y14, z14⟩, st14⟩ := Jvm.LawKit.callS X13 hx (y := (⟨"com/example/tallywire/tallywire/consumers/CommandNumberPinLaw", "put", "([BJI)V"⟩ : MethodName)) hown (mvT hZ (hw _ (List.mem_of_getElem? (i := 18) rfl))) (mvT hZ (hw _ (List.mem_of_getElem? (i := 19) rfl))) (mvT hZ (hw _ (List.mem_of_getElem? (i := 3) rfl))) (mvT hZ (hw _ (List.mem_of_getElem? (i := 20) rfl))) (by decide) (backOf (W := 0) (rm2 l Z a0 hw [] b2 xx (10 : Int32) k2 nn (own_put (own_put (own_put (own_put (own_put (own_put (own_put (own_put (own_put (own_put (List.replicate nn.toNatClampNeg (0 : Int32)) xx nn (0 : Int32)) xx nn (1 : Int32)) xx nn (2 : Int32)) xx nn (3 : Int32)) xx nn (4 : Int32)) xx nn (5 : Int32)) xx nn (6 : Int32)) xx nn (7 : Int32)) xx nn (8 : Int32)) xx nn (9 : Int32)) T13.heap n0 Z13 f13_0 G2 (by simp only [own_put_len, List.length_replicate]) nn0 nn1 (by decide)) hZ (hw _ (List.mem_of_getElem? (i := 20) rfl)) (hw _ (List.mem_of_getElem? (i := 3) rfl)) (by decide) (by decide)) (g := (mkF m 118 #[.val (.long x0), .second, .val (.int x1), .val (.int x2), .val (.int x3), .val (.int x4), .val (.int nn), .val (.long xx), .second, .val (.ref b2), .unset, .unset, .unset, .unset, .unset, .unset, .unset, .unset, .unset, .unset] [(.int (10 : Int32)), (.long xx), (.ref b2)])) rfl (by rw [hml]; rfl) (argsL := [(.ref b2), (.long xx), (.int (10 : Int32))]) (rest := []) (lenOf own_pd1 rfl) rfl (by show 2 * 0 + _ ≤ _; exact Nat.le_of_eq rfl) (hb hby at_118) (fun _ _ => ⟨rfl, rfl, (by decide : 12 + 1 ≤ _), (by decide : 143 + 12 ≤ _)⟩)
  dsimp only [Pt.U, Pt.locs, Pt.cells, Pt.slots] at X14 l14 y14 z14 st14 hQ14
  subst l14 y14 z14
  obtain ⟨rfl, N14q, K14q, f14_0⟩ := hQ14
  have N14 := Fr.app N13 N14q
  have K14 := K13.trans K14q (allS (Or.inr H2) all0)
  have Z14 := Nat.le_trans Z13 K14q.1
  refine Goes.go st14 ?_
  show Goes p e below _ T14 (mkF m 121 #[.val (.long x0), .second, .val (.int x1), .val (.int x2), .val (.int x3), .val (.int x4), .val (.int nn), .val (.long xx), .second, .val (.ref b2), .unset, .unset, .unset, .unset, .unset, .unset, .unset, .unset, .unset, .unset] [])
  have V15 : Arv Z T14.heap b2 k2 .byte nn ((own_fill nn xx).map Value.int) (.int (0 : Int32)) := f14_0
  refine own_lload X14 hx 123 rfl (hb hby at_121) rfl ?_
  refine own_lstore X14 hx 125 rfl #[.val (.long x0), .second, .val (.int x1), .val (.int x2), .val (.int x3), .val (.int x4), .val (.int nn), .val (.long xx), .second, .val (.ref b2), .val (.long xx), .second, .unset, .unset, .unset, .unset, .unset, .unset, .unset, .unset] (hb hby at_123) rfl ?_
  refine own_iconst X14 hx 126 rfl (1 : Int32) (hb hby at_125) (by decide) ?_
  refine own_istore X14 hx 128 rfl #[.val (.long x0), .second, .val (.int x1), .val (.int x2), .val (.int x3), .val (.int x4), .val (.int nn), .val (.long xx), .second, .val (.ref b2), .val (.long xx), .second, .val (.int (1 : Int32)), .unset, .unset, .unset, .unset, .unset, .unset, .unset] (hb hby at_126) rfl ?_
  refine own_iload X14 hx 130 rfl (hb hby at_128) rfl ?_
  refine own_iconst X14 hx 131 rfl (1 : Int32) (hb hby at_130) (by decide) ?_
  refine own_iand X14 hx 132 rfl (hb hby at_131) rfl ?_
  by_cases hc132_16 : (x4 &&& (1 : Int32)) = (0 : Int32)
  · refine own_ifY X14 hx 144 (hb hby at_132) ((if0 _ _).trans (teq hc132_16).1) (by decide) (by decide) ?_
    refine own_iconst X14 hx 145 rfl (0 : Int32) (hb hby at_144) (by decide) ?_
    refine own_istore X14 hx 147 rfl #[.val (.long x0), .second, .val (.int x1), .val (.int x2), .val (.int x3), .val (.int x4), .val (.int nn), .val (.long xx), .second, .val (.ref b2), .val (.long xx), .second, .val (.int (1 : Int32)), .val (.int (0 : Int32)), .unset, .unset, .unset, .unset, .unset, .unset] (hb hby at_145) rfl ?_
    refine own_iload X14 hx 149 rfl (hb hby at_147) rfl ?_
    refine own_ifY X14 hx 233 (hb hby at_149) ((if0 _ _).trans (teq ((by decide) : (0 : Int32) = (0 : Int32))).1) (by decide) (by decide) ?_
    refine own_iload X14 hx 235 rfl (hb hby at_233) rfl ?_
    by_cases hc235_17 : nn = (0 : Int32)
    · refine own_ifY X14 hx 259 (hb hby at_235) ((if0 _ _).trans (teq hc235_17).1) (by decide) (by decide) ?_
      refine Goes.go (X14.ldc2Long hx hown (mvT hZ (hw _ (List.mem_of_getElem? (i := 22) rfl))) (g := (mkF m 259 #[.val (.long x0), .second, .val (.int x1), .val (.int x2), .val (.int x3), .val (.int x4), .val (.int nn), .val (.long xx), .second, .val (.ref b2), .val (.long xx), .second, .val (.int (1 : Int32)), .val (.int (0 : Int32)), .unset, .unset, .unset, .unset, .unset, .unset] [])) rfl (hb hby at_259)) ?_
      show Goes p e below _ T14 (mkF m 262 #[.val (.long x0), .second, .val (.int x1), .val (.int x2), .val (.int x3), .val (.int x4), .val (.int nn), .val (.long xx), .second, .val (.ref b2), .val (.long xx), .second, .val (.int (1 : Int32)), .val (.int (0 : Int32)), .unset, .unset, .unset, .unset, .unset, .unset] [(.long (-1 : Int64))])
      refine own_lstore X14 hx 264 rfl #[.val (.long x0), .second, .val (.int x1), .val (.int x2), .val (.int x3), .val (.int x4), .val (.int nn), .val (.long xx), .second, .val (.ref b2), .val (.long xx), .second, .val (.int (1 : Int32)), .val (.int (0 : Int32)), .val (.long (-1 : Int64)), .second, .unset, .unset, .unset, .unset] (hb hby at_262) rfl ?_
      refine own_goto X14 hx 271 (hb hby at_264) (by decide) (by decide) ?_
      refine own_aload X14 hx 273 rfl (hb hby at_271) rfl rfl ?_
      obtain ⟨_, _, ⟨T18, L18, k18, n18⟩, -, X18, ⟨Lc18, hQ18, l18, y18, z18⟩, st18⟩ := Jvm.LawKit.callS X14 hx (y := (⟨"com/example/tallywire/tallywire/consumers/Command", "number", "([B)J"⟩ : MethodName)) hown (mvT hZ (hw _ (List.mem_of_getElem? (i := 23) rfl))) (mvT hZ (hw _ (List.mem_of_getElem? (i := 24) rfl))) (mvT hZ (hw _ (List.mem_of_getElem? (i := 25) rfl))) (mvT hZ (hw _ (List.mem_of_getElem? (i := 26) rfl))) (by decide) (backOf (W := 0) (rm3 l Z a0 hw [] b2 k2 nn (own_fill nn xx) T14.heap n0 Z14 V15 (own_fill_len nn xx) (own_nneg nn0)) hZ (hw _ (List.mem_of_getElem? (i := 26) rfl)) (hw _ (List.mem_of_getElem? (i := 25) rfl)) (by decide) (by decide)) (g := (mkF m 273 #[.val (.long x0), .second, .val (.int x1), .val (.int x2), .val (.int x3), .val (.int x4), .val (.int nn), .val (.long xx), .second, .val (.ref b2), .val (.long xx), .second, .val (.int (1 : Int32)), .val (.int (0 : Int32)), .val (.long (-1 : Int64)), .second, .unset, .unset, .unset, .unset] [(.ref b2)])) rfl (by rw [hml]; rfl) (argsL := [(.ref b2)]) (rest := []) (lenOf own_pd2 rfl) rfl (by show 2 * 0 + _ ≤ _; exact Nat.le_of_eq rfl) (hb hby at_273) (fun _ _ => ⟨rfl, rfl, (by decide : 13 + 0 ≤ _), (by decide : 155 + 0 ≤ _)⟩)
      dsimp only [Pt.U, Pt.locs, Pt.cells, Pt.slots] at X18 l18 y18 z18 st18 hQ18
      subst l18 y18 z18
      obtain ⟨nr_18, rfl, N18q, K18q, pr18_0⟩ := hQ18
      have N18 := Fr.app N14 N18q
      have f19 := V15.keep K18q nin0
      have K18 := K14.trans K18q all0
      have Z18 := Nat.le_trans Z14 K18q.1
      refine Goes.go st18 ?_
      show Goes p e below _ T18 (mkF m 276 #[.val (.long x0), .second, .val (.int x1), .val (.int x2), .val (.int x3), .val (.int x4), .val (.int nn), .val (.long xx), .second, .val (.ref b2), .val (.long xx), .second, .val (.int (1 : Int32)), .val (.int (0 : Int32)), .val (.long (-1 : Int64)), .second, .unset, .unset, .unset, .unset] [(.long nr_18)])
      refine own_lload X18 hx 278 rfl (hb hby at_276) rfl ?_
      refine own_lcmp X18 hx 279 rfl (hb hby at_278) ?_
      refine own_ifN X18 hx 282 (hb hby at_279) (Lteq ((pr18_0.trans (own_num0 (Or.inl hc235_17))) : nr_18 = (-1 : Int64))).2 rfl ?_
      refine own_iconst X18 hx 283 rfl (1 : Int32) (hb hby at_282) (by decide) ?_
      refine own_goto X18 hx 287 (hb hby at_283) (by decide) (by decide) ?_
      refine own_retZ X18 hx hlk Bd.returns (by decide) (hb hby at_287) (by decide) (by decide) rfl ?_
      exact ⟨rfl, N18⟩
    · refine own_ifN X14 hx 238 (hb hby at_235) ((if0 _ _).trans (feq hc235_17).1) rfl ?_
      refine own_iload X14 hx 240 rfl (hb hby at_238) rfl ?_
      refine own_bipush X14 hx 242 rfl (10 : Int32) (hb hby at_240) (by decide) ?_
      by_cases hc242_20 : (10 : Int32) < nn
      · refine own_icmpY X14 hx 259 (hb hby at_242) (tlt hc242_20).2.2.1 (by decide) (by decide) ?_
        refine Goes.go (X14.ldc2Long hx hown (mvT hZ (hw _ (List.mem_of_getElem? (i := 22) rfl))) (g := (mkF m 259 #[.val (.long x0), .second, .val (.int x1), .val (.int x2), .val (.int x3), .val (.int x4), .val (.int nn), .val (.long xx), .second, .val (.ref b2), .val (.long xx), .second, .val (.int (1 : Int32)), .val (.int (0 : Int32)), .unset, .unset, .unset, .unset, .unset, .unset] [])) rfl (hb hby at_259)) ?_
        show Goes p e below _ T14 (mkF m 262 #[.val (.long x0), .second, .val (.int x1), .val (.int x2), .val (.int x3), .val (.int x4), .val (.int nn), .val (.long xx), .second, .val (.ref b2), .val (.long xx), .second, .val (.int (1 : Int32)), .val (.int (0 : Int32)), .unset, .unset, .unset, .unset, .unset, .unset] [(.long (-1 : Int64))])
        refine own_lstore X14 hx 264 rfl #[.val (.long x0), .second, .val (.int x1), .val (.int x2), .val (.int x3), .val (.int x4), .val (.int nn), .val (.long xx), .second, .val (.ref b2), .val (.long xx), .second, .val (.int (1 : Int32)), .val (.int (0 : Int32)), .val (.long (-1 : Int64)), .second, .unset, .unset, .unset, .unset] (hb hby at_262) rfl ?_
        refine own_goto X14 hx 271 (hb hby at_264) (by decide) (by decide) ?_
        refine own_aload X14 hx 273 rfl (hb hby at_271) rfl rfl ?_
        obtain ⟨_, _, ⟨T21, L21, k21, n21⟩, -, X21, ⟨Lc21, hQ21, l21, y21, z21⟩, st21⟩ := Jvm.LawKit.callS X14 hx (y := (⟨"com/example/tallywire/tallywire/consumers/Command", "number", "([B)J"⟩ : MethodName)) hown (mvT hZ (hw _ (List.mem_of_getElem? (i := 23) rfl))) (mvT hZ (hw _ (List.mem_of_getElem? (i := 24) rfl))) (mvT hZ (hw _ (List.mem_of_getElem? (i := 25) rfl))) (mvT hZ (hw _ (List.mem_of_getElem? (i := 26) rfl))) (by decide) (backOf (W := 0) (rm3 l Z a0 hw [] b2 k2 nn (own_fill nn xx) T14.heap n0 Z14 V15 (own_fill_len nn xx) (own_nneg nn0)) hZ (hw _ (List.mem_of_getElem? (i := 26) rfl)) (hw _ (List.mem_of_getElem? (i := 25) rfl)) (by decide) (by decide)) (g := (mkF m 273 #[.val (.long x0), .second, .val (.int x1), .val (.int x2), .val (.int x3), .val (.int x4), .val (.int nn), .val (.long xx), .second, .val (.ref b2), .val (.long xx), .second, .val (.int (1 : Int32)), .val (.int (0 : Int32)), .val (.long (-1 : Int64)), .second, .unset, .unset, .unset, .unset] [(.ref b2)])) rfl (by rw [hml]; rfl) (argsL := [(.ref b2)]) (rest := []) (lenOf own_pd2 rfl) rfl (by show 2 * 0 + _ ≤ _; exact Nat.le_of_eq rfl) (hb hby at_273) (fun _ _ => ⟨rfl, rfl, (by decide : 13 + 0 ≤ _), (by decide : 155 + 0 ≤ _)⟩)
        dsimp only [Pt.U, Pt.locs, Pt.cells, Pt.slots] at X21 l21 y21 z21 st21 hQ21
        subst l21 y21 z21
        obtain ⟨nr_21, rfl, N21q, K21q, pr21_0⟩ := hQ21
        have N21 := Fr.app N14 N21q
        have f22 := V15.keep K21q nin0
        have K21 := K14.trans K21q all0
        have Z21 := Nat.le_trans Z14 K21q.1
        refine Goes.go st21 ?_
        show Goes p e below _ T21 (mkF m 276 #[.val (.long x0), .second, .val (.int x1), .val (.int x2), .val (.int x3), .val (.int x4), .val (.int nn), .val (.long xx), .second, .val (.ref b2), .val (.long xx), .second, .val (.int (1 : Int32)), .val (.int (0 : Int32)), .val (.long (-1 : Int64)), .second, .unset, .unset, .unset, .unset] [(.long nr_21)])
        refine own_lload X21 hx 278 rfl (hb hby at_276) rfl ?_
        refine own_lcmp X21 hx 279 rfl (hb hby at_278) ?_
        refine own_ifN X21 hx 282 (hb hby at_279) (Lteq ((pr21_0.trans (own_num0 (Or.inr hc242_20))) : nr_21 = (-1 : Int64))).2 rfl ?_
        refine own_iconst X21 hx 283 rfl (1 : Int32) (hb hby at_282) (by decide) ?_
        refine own_goto X21 hx 287 (hb hby at_283) (by decide) (by decide) ?_
        refine own_retZ X21 hx hlk Bd.returns (by decide) (hb hby at_287) (by decide) (by decide) rfl ?_
        exact ⟨rfl, N21⟩
      · refine own_icmpN X14 hx 245 (hb hby at_242) (flt hc242_20).2.2.1 rfl ?_
        refine own_iload X14 hx 247 rfl (hb hby at_245) rfl ?_
        refine own_ifN X14 hx 250 (hb hby at_247) ((if0 _ _).trans (feq ((by decide) : ¬ ((1 : Int32) = (0 : Int32)))).1) rfl ?_
        refine own_lload X14 hx 252 rfl (hb hby at_250) rfl ?_
        refine Goes.go (X14.ldc2Long hx hown (mvT hZ (hw _ (List.mem_of_getElem? (i := 30) rfl))) (g := (mkF m 252 #[.val (.long x0), .second, .val (.int x1), .val (.int x2), .val (.int x3), .val (.int x4), .val (.int nn), .val (.long xx), .second, .val (.ref b2), .val (.long xx), .second, .val (.int (1 : Int32)), .val (.int (0 : Int32)), .unset, .unset, .unset, .unset, .unset, .unset] [(.long xx)])) rfl (hb hby at_252)) ?_
        show Goes p e below _ T14 (mkF m 255 #[.val (.long x0), .second, .val (.int x1), .val (.int x2), .val (.int x3), .val (.int x4), .val (.int nn), .val (.long xx), .second, .val (.ref b2), .val (.long xx), .second, .val (.int (1 : Int32)), .val (.int (0 : Int32)), .unset, .unset, .unset, .unset, .unset, .unset] [(.long (4294967295 : Int64)), (.long xx)])
        refine own_lcmp X14 hx 256 rfl (hb hby at_255) ?_
        by_cases hc256_23 : (4294967295 : Int64) < xx
        · refine own_ifN X14 hx 259 (hb hby at_256) (Ltlt hc256_23).2.2.2 rfl ?_
          refine Goes.go (X14.ldc2Long hx hown (mvT hZ (hw _ (List.mem_of_getElem? (i := 22) rfl))) (g := (mkF m 259 #[.val (.long x0), .second, .val (.int x1), .val (.int x2), .val (.int x3), .val (.int x4), .val (.int nn), .val (.long xx), .second, .val (.ref b2), .val (.long xx), .second, .val (.int (1 : Int32)), .val (.int (0 : Int32)), .unset, .unset, .unset, .unset, .unset, .unset] [])) rfl (hb hby at_259)) ?_
          show Goes p e below _ T14 (mkF m 262 #[.val (.long x0), .second, .val (.int x1), .val (.int x2), .val (.int x3), .val (.int x4), .val (.int nn), .val (.long xx), .second, .val (.ref b2), .val (.long xx), .second, .val (.int (1 : Int32)), .val (.int (0 : Int32)), .unset, .unset, .unset, .unset, .unset, .unset] [(.long (-1 : Int64))])
          refine own_lstore X14 hx 264 rfl #[.val (.long x0), .second, .val (.int x1), .val (.int x2), .val (.int x3), .val (.int x4), .val (.int nn), .val (.long xx), .second, .val (.ref b2), .val (.long xx), .second, .val (.int (1 : Int32)), .val (.int (0 : Int32)), .val (.long (-1 : Int64)), .second, .unset, .unset, .unset, .unset] (hb hby at_262) rfl ?_
          refine own_goto X14 hx 271 (hb hby at_264) (by decide) (by decide) ?_
          refine own_aload X14 hx 273 rfl (hb hby at_271) rfl rfl ?_
          obtain ⟨_, _, ⟨T24, L24, k24, n24⟩, -, X24, ⟨Lc24, hQ24, l24, y24, z24⟩, st24⟩ := Jvm.LawKit.callS X14 hx (y := (⟨"com/example/tallywire/tallywire/consumers/Command", "number", "([B)J"⟩ : MethodName)) hown (mvT hZ (hw _ (List.mem_of_getElem? (i := 23) rfl))) (mvT hZ (hw _ (List.mem_of_getElem? (i := 24) rfl))) (mvT hZ (hw _ (List.mem_of_getElem? (i := 25) rfl))) (mvT hZ (hw _ (List.mem_of_getElem? (i := 26) rfl))) (by decide) (backOf (W := 0) (rm3 l Z a0 hw [] b2 k2 nn (own_fill nn xx) T14.heap n0 Z14 V15 (own_fill_len nn xx) (own_nneg nn0)) hZ (hw _ (List.mem_of_getElem? (i := 26) rfl)) (hw _ (List.mem_of_getElem? (i := 25) rfl)) (by decide) (by decide)) (g := (mkF m 273 #[.val (.long x0), .second, .val (.int x1), .val (.int x2), .val (.int x3), .val (.int x4), .val (.int nn), .val (.long xx), .second, .val (.ref b2), .val (.long xx), .second, .val (.int (1 : Int32)), .val (.int (0 : Int32)), .val (.long (-1 : Int64)), .second, .unset, .unset, .unset, .unset] [(.ref b2)])) rfl (by rw [hml]; rfl) (argsL := [(.ref b2)]) (rest := []) (lenOf own_pd2 rfl) rfl (by show 2 * 0 + _ ≤ _; exact Nat.le_of_eq rfl) (hb hby at_273) (fun _ _ => ⟨rfl, rfl, (by decide : 13 + 0 ≤ _), (by decide : 155 + 0 ≤ _)⟩)
          dsimp only [Pt.U, Pt.locs, Pt.cells, Pt.slots] at X24 l24 y24 z24 st24 hQ24
          subst l24 y24 z24
          obtain ⟨nr_24, rfl, N24q, K24q, pr24_0⟩ := hQ24
          have N24 := Fr.app N14 N24q
          have f25 := V15.keep K24q nin0
          have K24 := K14.trans K24q all0
          have Z24 := Nat.le_trans Z14 K24q.1
          refine Goes.go st24 ?_
          show Goes p e below _ T24 (mkF m 276 #[.val (.long x0), .second, .val (.int x1), .val (.int x2), .val (.int x3), .val (.int x4), .val (.int nn), .val (.long xx), .second, .val (.ref b2), .val (.long xx), .second, .val (.int (1 : Int32)), .val (.int (0 : Int32)), .val (.long (-1 : Int64)), .second, .unset, .unset, .unset, .unset] [(.long nr_24)])
          refine own_lload X24 hx 278 rfl (hb hby at_276) rfl ?_
          refine own_lcmp X24 hx 279 rfl (hb hby at_278) ?_
          refine own_ifN X24 hx 282 (hb hby at_279) (Lteq ((pr24_0.trans ((own_lawA h_nn h_xx hc235_17 hc242_20).1 hc256_23)) : nr_24 = (-1 : Int64))).2 rfl ?_
          refine own_iconst X24 hx 283 rfl (1 : Int32) (hb hby at_282) (by decide) ?_
          refine own_goto X24 hx 287 (hb hby at_283) (by decide) (by decide) ?_
          refine own_retZ X24 hx hlk Bd.returns (by decide) (hb hby at_287) (by decide) (by decide) rfl ?_
          exact ⟨rfl, N24⟩
        · refine own_ifY X14 hx 267 (hb hby at_256) (Lflt hc256_23).2.2.2 (by decide) (by decide) ?_
          refine own_lload X14 hx 269 rfl (hb hby at_267) rfl ?_
          refine own_lstore X14 hx 271 rfl #[.val (.long x0), .second, .val (.int x1), .val (.int x2), .val (.int x3), .val (.int x4), .val (.int nn), .val (.long xx), .second, .val (.ref b2), .val (.long xx), .second, .val (.int (1 : Int32)), .val (.int (0 : Int32)), .val (.long xx), .second, .unset, .unset, .unset, .unset] (hb hby at_269) rfl ?_
          refine own_aload X14 hx 273 rfl (hb hby at_271) rfl rfl ?_
          obtain ⟨_, _, ⟨T26, L26, k26, n26⟩, -, X26, ⟨Lc26, hQ26, l26, y26, z26⟩, st26⟩ := Jvm.LawKit.callS X14 hx (y := (⟨"com/example/tallywire/tallywire/consumers/Command", "number", "([B)J"⟩ : MethodName)) hown (mvT hZ (hw _ (List.mem_of_getElem? (i := 23) rfl))) (mvT hZ (hw _ (List.mem_of_getElem? (i := 24) rfl))) (mvT hZ (hw _ (List.mem_of_getElem? (i := 25) rfl))) (mvT hZ (hw _ (List.mem_of_getElem? (i := 26) rfl))) (by decide) (backOf (W := 0) (rm3 l Z a0 hw [] b2 k2 nn (own_fill nn xx) T14.heap n0 Z14 V15 (own_fill_len nn xx) (own_nneg nn0)) hZ (hw _ (List.mem_of_getElem? (i := 26) rfl)) (hw _ (List.mem_of_getElem? (i := 25) rfl)) (by decide) (by decide)) (g := (mkF m 273 #[.val (.long x0), .second, .val (.int x1), .val (.int x2), .val (.int x3), .val (.int x4), .val (.int nn), .val (.long xx), .second, .val (.ref b2), .val (.long xx), .second, .val (.int (1 : Int32)), .val (.int (0 : Int32)), .val (.long xx), .second, .unset, .unset, .unset, .unset] [(.ref b2)])) rfl (by rw [hml]; rfl) (argsL := [(.ref b2)]) (rest := []) (lenOf own_pd2 rfl) rfl (by show 2 * 0 + _ ≤ _; exact Nat.le_of_eq rfl) (hb hby at_273) (fun _ _ => ⟨rfl, rfl, (by decide : 13 + 0 ≤ _), (by decide : 155 + 0 ≤ _)⟩)
          dsimp only [Pt.U, Pt.locs, Pt.cells, Pt.slots] at X26 l26 y26 z26 st26 hQ26
          subst l26 y26 z26
          obtain ⟨nr_26, rfl, N26q, K26q, pr26_0⟩ := hQ26
          have N26 := Fr.app N14 N26q
          have f27 := V15.keep K26q nin0
          have K26 := K14.trans K26q all0
          have Z26 := Nat.le_trans Z14 K26q.1
          refine Goes.go st26 ?_
          show Goes p e below _ T26 (mkF m 276 #[.val (.long x0), .second, .val (.int x1), .val (.int x2), .val (.int x3), .val (.int x4), .val (.int nn), .val (.long xx), .second, .val (.ref b2), .val (.long xx), .second, .val (.int (1 : Int32)), .val (.int (0 : Int32)), .val (.long xx), .second, .unset, .unset, .unset, .unset] [(.long nr_26)])
          refine own_lload X26 hx 278 rfl (hb hby at_276) rfl ?_
          refine own_lcmp X26 hx 279 rfl (hb hby at_278) ?_
          refine own_ifN X26 hx 282 (hb hby at_279) (Lteq ((pr26_0.trans ((own_lawA h_nn h_xx hc235_17 hc242_20).2 hc256_23)) : nr_26 = xx)).2 rfl ?_
          refine own_iconst X26 hx 283 rfl (1 : Int32) (hb hby at_282) (by decide) ?_
          refine own_goto X26 hx 287 (hb hby at_283) (by decide) (by decide) ?_
          refine own_retZ X26 hx hlk Bd.returns (by decide) (hb hby at_287) (by decide) (by decide) rfl ?_
          exact ⟨rfl, N26⟩
  · refine own_ifN X14 hx 135 (hb hby at_132) ((if0 _ _).trans (feq hc132_16).1) rfl ?_
    refine own_iload X14 hx 137 rfl (hb hby at_135) rfl ?_
    by_cases hc137_28 : (0 : Int32) < nn
    · refine own_ifN X14 hx 140 (hb hby at_137) ((if0 _ _).trans (tlt hc137_28).2.2.2) rfl ?_
      refine own_iconst X14 hx 141 rfl (1 : Int32) (hb hby at_140) (by decide) ?_
      refine own_goto X14 hx 145 (hb hby at_141) (by decide) (by decide) ?_
      refine own_istore X14 hx 147 rfl #[.val (.long x0), .second, .val (.int x1), .val (.int x2), .val (.int x3), .val (.int x4), .val (.int nn), .val (.long xx), .second, .val (.ref b2), .val (.long xx), .second, .val (.int (1 : Int32)), .val (.int (1 : Int32)), .unset, .unset, .unset, .unset, .unset, .unset] (hb hby at_145) rfl ?_
      refine own_iload X14 hx 149 rfl (hb hby at_147) rfl ?_
      refine own_ifN X14 hx 152 (hb hby at_149) ((if0 _ _).trans (feq ((by decide) : ¬ ((1 : Int32) = (0 : Int32)))).1) rfl ?_
      refine own_iloadN X14 hx 153 rfl (hb hby at_152) rfl ?_
      refine own_bipush X14 hx 155 rfl (15 : Int32) (hb hby at_153) (by decide) ?_
      refine own_iand X14 hx 156 rfl (hb hby at_155) rfl ?_
      refine own_iload X14 hx 158 rfl (hb hby at_156) rfl ?_
      obtain ⟨pp, h_pp⟩ : ∃ z, z = ((x2 &&& (15 : Int32)) % nn) := ⟨_, rfl⟩
      refine own_irem X14 hx 159 rfl (hb hby at_158) (own_nz (own_zpos hc137_28)) h_pp.symm ?_
      refine own_istore X14 hx 161 rfl #[.val (.long x0), .second, .val (.int x1), .val (.int x2), .val (.int x3), .val (.int x4), .val (.int nn), .val (.long xx), .second, .val (.ref b2), .val (.long xx), .second, .val (.int (1 : Int32)), .val (.int (1 : Int32)), .val (.int pp), .unset, .unset, .unset, .unset, .unset] (hb hby at_159) rfl ?_
      obtain ⟨pp0, pp1⟩ := own_pos (own_zpos hc137_28) h_pp
      refine own_iload X14 hx 163 rfl (hb hby at_161) rfl ?_
      obtain ⟨bb, h_bb⟩ : ∃ z, z = (x3.toInt8.toInt32) := ⟨_, rfl⟩
      refine own_i2b X14 hx 164 rfl (hb hby at_163) h_bb.symm ?_
      refine own_istore X14 hx 166 rfl #[.val (.long x0), .second, .val (.int x1), .val (.int x2), .val (.int x3), .val (.int x4), .val (.int nn), .val (.long xx), .second, .val (.ref b2), .val (.long xx), .second, .val (.int (1 : Int32)), .val (.int (1 : Int32)), .val (.int pp), .val (.int bb), .unset, .unset, .unset, .unset] (hb hby at_164) rfl ?_
      refine own_aload X14 hx 168 rfl (hb hby at_166) rfl rfl ?_
      refine own_iload X14 hx 170 rfl (hb hby at_168) rfl ?_
      refine own_iload X14 hx 172 rfl (hb hby at_170) rfl ?_
      obtain ⟨cl29, Ar29, qq29, S29, NN29, HH29, GG29⟩ := id V15
      have hin29 : ¬ (pp < 0 ∨ cl29.slots.size ≤ (pp).toNatClampNeg) := inb_of S29 (own_inb pp0 pp1)
      obtain ⟨T29, h29, X29, e29, W29, st29⟩ := stB X14 hx hZ rfl Ar29 (j := pp) hin29 (g := (mkF m 172 #[.val (.long x0), .second, .val (.int x1), .val (.int x2), .val (.int x3), .val (.int x4), .val (.int nn), .val (.long xx), .second, .val (.ref b2), .val (.long xx), .second, .val (.int (1 : Int32)), .val (.int (1 : Int32)), .val (.int pp), .val (.int bb), .unset, .unset, .unset, .unset] [(.int bb), (.int pp), (.ref b2)])) rfl rfl (hb hby at_172)
      have V29 : Arv Z h29 b2 k2 .byte nn (((own_fill nn xx).set pp.toNatClampNeg (bb.toInt8.toInt32)).map Value.int) (.int (0 : Int32)) := (by rw [List.map_set]; exact Arv.set Ar29 qq29 S29 NN29 HH29 GG29 (fits_nar_byte _) W29 _ rfl (by rw [List.length_map, own_fill_len]; exact own_clt pp0 (own_lt_of pp1)))
      have N29 := Fr.snoc X29 N14 G2
      have K29 := K14.wr W29 (Or.inr H2)
      have Z29 := Nat.le_trans Z14 (Nat.le_of_eq W29.size.symm)
      refine Goes.go st29 ?_
      show Goes p e below _ T29 (mkF m 173 #[.val (.long x0), .second, .val (.int x1), .val (.int x2), .val (.int x3), .val (.int x4), .val (.int nn), .val (.long xx), .second, .val (.ref b2), .val (.long xx), .second, .val (.int (1 : Int32)), .val (.int (1 : Int32)), .val (.int pp), .val (.int bb), .unset, .unset, .unset, .unset] [])
      refine own_iload X29 hx 175 rfl (hb hby at_173) rfl ?_
      refine own_bipush X29 hx 177 rfl (48 : Int32) (hb hby at_175) (by decide) ?_
      by_cases hc177_30 : bb < (48 : Int32)
      · refine own_icmpY X29 hx 230 (hb hby at_177) (tlt hc177_30).1 (by decide) (by decide) ?_
        refine own_iconst X29 hx 231 rfl (0 : Int32) (hb hby at_230) (by decide) ?_
        refine own_istore X29 hx 233 rfl #[.val (.long x0), .second, .val (.int x1), .val (.int x2), .val (.int x3), .val (.int x4), .val (.int nn), .val (.long xx), .second, .val (.ref b2), .val (.long xx), .second, .val (.int (0 : Int32)), .val (.int (1 : Int32)), .val (.int pp), .val (.int bb), .unset, .unset, .unset, .unset] (hb hby at_231) rfl ?_
        refine own_iload X29 hx 235 rfl (hb hby at_233) rfl ?_
        by_cases hc235_31 : nn = (0 : Int32)
        · refine own_ifY X29 hx 259 (hb hby at_235) ((if0 _ _).trans (teq hc235_31).1) (by decide) (by decide) ?_
          refine Goes.go (X29.ldc2Long hx hown (mvT hZ (hw _ (List.mem_of_getElem? (i := 22) rfl))) (g := (mkF m 259 #[.val (.long x0), .second, .val (.int x1), .val (.int x2), .val (.int x3), .val (.int x4), .val (.int nn), .val (.long xx), .second, .val (.ref b2), .val (.long xx), .second, .val (.int (0 : Int32)), .val (.int (1 : Int32)), .val (.int pp), .val (.int bb), .unset, .unset, .unset, .unset] [])) rfl (hb hby at_259)) ?_
          show Goes p e below _ T29 (mkF m 262 #[.val (.long x0), .second, .val (.int x1), .val (.int x2), .val (.int x3), .val (.int x4), .val (.int nn), .val (.long xx), .second, .val (.ref b2), .val (.long xx), .second, .val (.int (0 : Int32)), .val (.int (1 : Int32)), .val (.int pp), .val (.int bb), .unset, .unset, .unset, .unset] [(.long (-1 : Int64))])
          refine own_lstore X29 hx 264 rfl #[.val (.long x0), .second, .val (.int x1), .val (.int x2), .val (.int x3), .val (.int x4), .val (.int nn), .val (.long xx), .second, .val (.ref b2), .val (.long xx), .second, .val (.int (0 : Int32)), .val (.int (1 : Int32)), .val (.long (-1 : Int64)), .second, .unset, .unset, .unset, .unset] (hb hby at_262) rfl ?_
          refine own_goto X29 hx 271 (hb hby at_264) (by decide) (by decide) ?_
          refine own_aload X29 hx 273 rfl (hb hby at_271) rfl rfl ?_
          obtain ⟨_, _, ⟨T32, L32, k32, n32⟩, -, X32, ⟨Lc32, hQ32, l32, y32, z32⟩, st32⟩ := Jvm.LawKit.callS X29 hx (y := (⟨"com/example/tallywire/tallywire/consumers/Command", "number", "([B)J"⟩ : MethodName)) hown (mvT hZ (hw _ (List.mem_of_getElem? (i := 23) rfl))) (mvT hZ (hw _ (List.mem_of_getElem? (i := 24) rfl))) (mvT hZ (hw _ (List.mem_of_getElem? (i := 25) rfl))) (mvT hZ (hw _ (List.mem_of_getElem? (i := 26) rfl))) (by decide) (backOf (W := 0) (rm3 l Z a0 hw [] b2 k2 nn ((own_fill nn xx).set pp.toNatClampNeg (bb.toInt8.toInt32)) h29 n0 Z29 V29 (by rw [List.length_set]; exact own_fill_len nn xx) (own_nneg nn0)) hZ (hw _ (List.mem_of_getElem? (i := 26) rfl)) (hw _ (List.mem_of_getElem? (i := 25) rfl)) (by decide) (by decide)) (g := (mkF m 273 #[.val (.long x0), .second, .val (.int x1), .val (.int x2), .val (.int x3), .val (.int x4), .val (.int nn), .val (.long xx), .second, .val (.ref b2), .val (.long xx), .second, .val (.int (0 : Int32)), .val (.int (1 : Int32)), .val (.long (-1 : Int64)), .second, .unset, .unset, .unset, .unset] [(.ref b2)])) rfl (by rw [hml]; rfl) (argsL := [(.ref b2)]) (rest := []) (lenOf own_pd2 rfl) rfl (by show 2 * 0 + _ ≤ _; exact Nat.le_of_eq rfl) (hb hby at_273) (fun _ _ => ⟨rfl, e29, (by decide : 13 + 0 ≤ _), (by decide : 155 + 0 ≤ _)⟩)
          dsimp only [Pt.U, Pt.locs, Pt.cells, Pt.slots] at X32 l32 y32 z32 st32 hQ32
          subst l32 y32 z32
          obtain ⟨nr_32, rfl, N32q, K32q, pr32_0⟩ := hQ32
          have N32 := Fr.app N29 N32q
          have f33 := V29.keep K32q nin0
          have K32 := K29.trans K32q all0
          have Z32 := Nat.le_trans Z29 K32q.1
          refine Goes.go st32 ?_
          show Goes p e below _ T32 (mkF m 276 #[.val (.long x0), .second, .val (.int x1), .val (.int x2), .val (.int x3), .val (.int x4), .val (.int nn), .val (.long xx), .second, .val (.ref b2), .val (.long xx), .second, .val (.int (0 : Int32)), .val (.int (1 : Int32)), .val (.long (-1 : Int64)), .second, .unset, .unset, .unset, .unset] [(.long nr_32)])
          refine own_lload X32 hx 278 rfl (hb hby at_276) rfl ?_
          refine own_lcmp X32 hx 279 rfl (hb hby at_278) ?_
          refine own_ifN X32 hx 282 (hb hby at_279) (Lteq ((pr32_0.trans (own_num0 (Or.inl hc235_31))) : nr_32 = (-1 : Int64))).2 rfl ?_
          refine own_iconst X32 hx 283 rfl (1 : Int32) (hb hby at_282) (by decide) ?_
          refine own_goto X32 hx 287 (hb hby at_283) (by decide) (by decide) ?_
          refine own_retZ X32 hx hlk Bd.returns (by decide) (hb hby at_287) (by decide) (by decide) rfl ?_
          exact ⟨rfl, N32⟩
        · refine own_ifN X29 hx 238 (hb hby at_235) ((if0 _ _).trans (feq hc235_31).1) rfl ?_
          refine own_iload X29 hx 240 rfl (hb hby at_238) rfl ?_
          refine own_bipush X29 hx 242 rfl (10 : Int32) (hb hby at_240) (by decide) ?_
          by_cases hc242_34 : (10 : Int32) < nn
          · refine own_icmpY X29 hx 259 (hb hby at_242) (tlt hc242_34).2.2.1 (by decide) (by decide) ?_
            refine Goes.go (X29.ldc2Long hx hown (mvT hZ (hw _ (List.mem_of_getElem? (i := 22) rfl))) (g := (mkF m 259 #[.val (.long x0), .second, .val (.int x1), .val (.int x2), .val (.int x3), .val (.int x4), .val (.int nn), .val (.long xx), .second, .val (.ref b2), .val (.long xx), .second, .val (.int (0 : Int32)), .val (.int (1 : Int32)), .val (.int pp), .val (.int bb), .unset, .unset, .unset, .unset] [])) rfl (hb hby at_259)) ?_
            show Goes p e below _ T29 (mkF m 262 #[.val (.long x0), .second, .val (.int x1), .val (.int x2), .val (.int x3), .val (.int x4), .val (.int nn), .val (.long xx), .second, .val (.ref b2), .val (.long xx), .second, .val (.int (0 : Int32)), .val (.int (1 : Int32)), .val (.int pp), .val (.int bb), .unset, .unset, .unset, .unset] [(.long (-1 : Int64))])
            refine own_lstore X29 hx 264 rfl #[.val (.long x0), .second, .val (.int x1), .val (.int x2), .val (.int x3), .val (.int x4), .val (.int nn), .val (.long xx), .second, .val (.ref b2), .val (.long xx), .second, .val (.int (0 : Int32)), .val (.int (1 : Int32)), .val (.long (-1 : Int64)), .second, .unset, .unset, .unset, .unset] (hb hby at_262) rfl ?_
            refine own_goto X29 hx 271 (hb hby at_264) (by decide) (by decide) ?_
            refine own_aload X29 hx 273 rfl (hb hby at_271) rfl rfl ?_
            obtain ⟨_, _, ⟨T35, L35, k35, n35⟩, -, X35, ⟨Lc35, hQ35, l35, y35, z35⟩, st35⟩ := Jvm.LawKit.callS X29 hx (y := (⟨"com/example/tallywire/tallywire/consumers/Command", "number", "([B)J"⟩ : MethodName)) hown (mvT hZ (hw _ (List.mem_of_getElem? (i := 23) rfl))) (mvT hZ (hw _ (List.mem_of_getElem? (i := 24) rfl))) (mvT hZ (hw _ (List.mem_of_getElem? (i := 25) rfl))) (mvT hZ (hw _ (List.mem_of_getElem? (i := 26) rfl))) (by decide) (backOf (W := 0) (rm3 l Z a0 hw [] b2 k2 nn ((own_fill nn xx).set pp.toNatClampNeg (bb.toInt8.toInt32)) h29 n0 Z29 V29 (by rw [List.length_set]; exact own_fill_len nn xx) (own_nneg nn0)) hZ (hw _ (List.mem_of_getElem? (i := 26) rfl)) (hw _ (List.mem_of_getElem? (i := 25) rfl)) (by decide) (by decide)) (g := (mkF m 273 #[.val (.long x0), .second, .val (.int x1), .val (.int x2), .val (.int x3), .val (.int x4), .val (.int nn), .val (.long xx), .second, .val (.ref b2), .val (.long xx), .second, .val (.int (0 : Int32)), .val (.int (1 : Int32)), .val (.long (-1 : Int64)), .second, .unset, .unset, .unset, .unset] [(.ref b2)])) rfl (by rw [hml]; rfl) (argsL := [(.ref b2)]) (rest := []) (lenOf own_pd2 rfl) rfl (by show 2 * 0 + _ ≤ _; exact Nat.le_of_eq rfl) (hb hby at_273) (fun _ _ => ⟨rfl, e29, (by decide : 13 + 0 ≤ _), (by decide : 155 + 0 ≤ _)⟩)
            dsimp only [Pt.U, Pt.locs, Pt.cells, Pt.slots] at X35 l35 y35 z35 st35 hQ35
            subst l35 y35 z35
            obtain ⟨nr_35, rfl, N35q, K35q, pr35_0⟩ := hQ35
            have N35 := Fr.app N29 N35q
            have f36 := V29.keep K35q nin0
            have K35 := K29.trans K35q all0
            have Z35 := Nat.le_trans Z29 K35q.1
            refine Goes.go st35 ?_
            show Goes p e below _ T35 (mkF m 276 #[.val (.long x0), .second, .val (.int x1), .val (.int x2), .val (.int x3), .val (.int x4), .val (.int nn), .val (.long xx), .second, .val (.ref b2), .val (.long xx), .second, .val (.int (0 : Int32)), .val (.int (1 : Int32)), .val (.long (-1 : Int64)), .second, .unset, .unset, .unset, .unset] [(.long nr_35)])
            refine own_lload X35 hx 278 rfl (hb hby at_276) rfl ?_
            refine own_lcmp X35 hx 279 rfl (hb hby at_278) ?_
            refine own_ifN X35 hx 282 (hb hby at_279) (Lteq ((pr35_0.trans (own_num0 (Or.inr hc242_34))) : nr_35 = (-1 : Int64))).2 rfl ?_
            refine own_iconst X35 hx 283 rfl (1 : Int32) (hb hby at_282) (by decide) ?_
            refine own_goto X35 hx 287 (hb hby at_283) (by decide) (by decide) ?_
            refine own_retZ X35 hx hlk Bd.returns (by decide) (hb hby at_287) (by decide) (by decide) rfl ?_
            exact ⟨rfl, N35⟩
          · refine own_icmpN X29 hx 245 (hb hby at_242) (flt hc242_34).2.2.1 rfl ?_
            refine own_iload X29 hx 247 rfl (hb hby at_245) rfl ?_
            refine own_ifY X29 hx 259 (hb hby at_247) ((if0 _ _).trans (teq ((by decide) : (0 : Int32) = (0 : Int32))).1) (by decide) (by decide) ?_
            refine Goes.go (X29.ldc2Long hx hown (mvT hZ (hw _ (List.mem_of_getElem? (i := 22) rfl))) (g := (mkF m 259 #[.val (.long x0), .second, .val (.int x1), .val (.int x2), .val (.int x3), .val (.int x4), .val (.int nn), .val (.long xx), .second, .val (.ref b2), .val (.long xx), .second, .val (.int (0 : Int32)), .val (.int (1 : Int32)), .val (.int pp), .val (.int bb), .unset, .unset, .unset, .unset] [])) rfl (hb hby at_259)) ?_
            show Goes p e below _ T29 (mkF m 262 #[.val (.long x0), .second, .val (.int x1), .val (.int x2), .val (.int x3), .val (.int x4), .val (.int nn), .val (.long xx), .second, .val (.ref b2), .val (.long xx), .second, .val (.int (0 : Int32)), .val (.int (1 : Int32)), .val (.int pp), .val (.int bb), .unset, .unset, .unset, .unset] [(.long (-1 : Int64))])
            refine own_lstore X29 hx 264 rfl #[.val (.long x0), .second, .val (.int x1), .val (.int x2), .val (.int x3), .val (.int x4), .val (.int nn), .val (.long xx), .second, .val (.ref b2), .val (.long xx), .second, .val (.int (0 : Int32)), .val (.int (1 : Int32)), .val (.long (-1 : Int64)), .second, .unset, .unset, .unset, .unset] (hb hby at_262) rfl ?_
            refine own_goto X29 hx 271 (hb hby at_264) (by decide) (by decide) ?_
            refine own_aload X29 hx 273 rfl (hb hby at_271) rfl rfl ?_
            obtain ⟨_, _, ⟨T37, L37, k37, n37⟩, -, X37, ⟨Lc37, hQ37, l37, y37, z37⟩, st37⟩ := Jvm.LawKit.callS X29 hx (y := (⟨"com/example/tallywire/tallywire/consumers/Command", "number", "([B)J"⟩ : MethodName)) hown (mvT hZ (hw _ (List.mem_of_getElem? (i := 23) rfl))) (mvT hZ (hw _ (List.mem_of_getElem? (i := 24) rfl))) (mvT hZ (hw _ (List.mem_of_getElem? (i := 25) rfl))) (mvT hZ (hw _ (List.mem_of_getElem? (i := 26) rfl))) (by decide) (backOf (W := 0) (rm3 l Z a0 hw [] b2 k2 nn ((own_fill nn xx).set pp.toNatClampNeg (bb.toInt8.toInt32)) h29 n0 Z29 V29 (by rw [List.length_set]; exact own_fill_len nn xx) (own_nneg nn0)) hZ (hw _ (List.mem_of_getElem? (i := 26) rfl)) (hw _ (List.mem_of_getElem? (i := 25) rfl)) (by decide) (by decide)) (g := (mkF m 273 #[.val (.long x0), .second, .val (.int x1), .val (.int x2), .val (.int x3), .val (.int x4), .val (.int nn), .val (.long xx), .second, .val (.ref b2), .val (.long xx), .second, .val (.int (0 : Int32)), .val (.int (1 : Int32)), .val (.long (-1 : Int64)), .second, .unset, .unset, .unset, .unset] [(.ref b2)])) rfl (by rw [hml]; rfl) (argsL := [(.ref b2)]) (rest := []) (lenOf own_pd2 rfl) rfl (by show 2 * 0 + _ ≤ _; exact Nat.le_of_eq rfl) (hb hby at_273) (fun _ _ => ⟨rfl, e29, (by decide : 13 + 0 ≤ _), (by decide : 155 + 0 ≤ _)⟩)
            dsimp only [Pt.U, Pt.locs, Pt.cells, Pt.slots] at X37 l37 y37 z37 st37 hQ37
            subst l37 y37 z37
            obtain ⟨nr_37, rfl, N37q, K37q, pr37_0⟩ := hQ37
            have N37 := Fr.app N29 N37q
            have f38 := V29.keep K37q nin0
            have K37 := K29.trans K37q all0
            have Z37 := Nat.le_trans Z29 K37q.1
            refine Goes.go st37 ?_
            show Goes p e below _ T37 (mkF m 276 #[.val (.long x0), .second, .val (.int x1), .val (.int x2), .val (.int x3), .val (.int x4), .val (.int nn), .val (.long xx), .second, .val (.ref b2), .val (.long xx), .second, .val (.int (0 : Int32)), .val (.int (1 : Int32)), .val (.long (-1 : Int64)), .second, .unset, .unset, .unset, .unset] [(.long nr_37)])
            refine own_lload X37 hx 278 rfl (hb hby at_276) rfl ?_
            refine own_lcmp X37 hx 279 rfl (hb hby at_278) ?_
            refine own_ifN X37 hx 282 (hb hby at_279) (Lteq ((pr37_0.trans (own_lawC h_nn h_pp hc235_31 hc242_34 (Or.inl hc177_30) (own_b8 h_bb))) : nr_37 = (-1 : Int64))).2 rfl ?_
            refine own_iconst X37 hx 283 rfl (1 : Int32) (hb hby at_282) (by decide) ?_
            refine own_goto X37 hx 287 (hb hby at_283) (by decide) (by decide) ?_
            refine own_retZ X37 hx hlk Bd.returns (by decide) (hb hby at_287) (by decide) (by decide) rfl ?_
            exact ⟨rfl, N37⟩
      · refine own_icmpN X29 hx 180 (hb hby at_177) (flt hc177_30).1 rfl ?_
        refine own_iload X29 hx 182 rfl (hb hby at_180) rfl ?_
        refine own_bipush X29 hx 184 rfl (57 : Int32) (hb hby at_182) (by decide) ?_
        by_cases hc184_39 : (57 : Int32) < bb
        · refine own_icmpY X29 hx 230 (hb hby at_184) (tlt hc184_39).2.2.1 (by decide) (by decide) ?_
          refine own_iconst X29 hx 231 rfl (0 : Int32) (hb hby at_230) (by decide) ?_
          refine own_istore X29 hx 233 rfl #[.val (.long x0), .second, .val (.int x1), .val (.int x2), .val (.int x3), .val (.int x4), .val (.int nn), .val (.long xx), .second, .val (.ref b2), .val (.long xx), .second, .val (.int (0 : Int32)), .val (.int (1 : Int32)), .val (.int pp), .val (.int bb), .unset, .unset, .unset, .unset] (hb hby at_231) rfl ?_
          refine own_iload X29 hx 235 rfl (hb hby at_233) rfl ?_
          by_cases hc235_40 : nn = (0 : Int32)
          · refine own_ifY X29 hx 259 (hb hby at_235) ((if0 _ _).trans (teq hc235_40).1) (by decide) (by decide) ?_
            refine Goes.go (X29.ldc2Long hx hown (mvT hZ (hw _ (List.mem_of_getElem? (i := 22) rfl))) (g := (mkF m 259 #[.val (.long x0), .second, .val (.int x1), .val (.int x2), .val (.int x3), .val (.int x4), .val (.int nn), .val (.long xx), .second, .val (.ref b2), .val (.long xx), .second, .val (.int (0 : Int32)), .val (.int (1 : Int32)), .val (.int pp), .val (.int bb), .unset, .unset, .unset, .unset] [])) rfl (hb hby at_259)) ?_
            show Goes p e below _ T29 (mkF m 262 #[.val (.long x0), .second, .val (.int x1), .val (.int x2), .val (.int x3), .val (.int x4), .val (.int nn), .val (.long xx), .second, .val (.ref b2), .val (.long xx), .second, .val (.int (0 : Int32)), .val (.int (1 : Int32)), .val (.int pp), .val (.int bb), .unset, .unset, .unset, .unset] [(.long (-1 : Int64))])
            refine own_lstore X29 hx 264 rfl #[.val (.long x0), .second, .val (.int x1), .val (.int x2), .val (.int x3), .val (.int x4), .val (.int nn), .val (.long xx), .second, .val (.ref b2), .val (.long xx), .second, .val (.int (0 : Int32)), .val (.int (1 : Int32)), .val (.long (-1 : Int64)), .second, .unset, .unset, .unset, .unset] (hb hby at_262) rfl ?_
            refine own_goto X29 hx 271 (hb hby at_264) (by decide) (by decide) ?_
            refine own_aload X29 hx 273 rfl (hb hby at_271) rfl rfl ?_
            obtain ⟨_, _, ⟨T41, L41, k41, n41⟩, -, X41, ⟨Lc41, hQ41, l41, y41, z41⟩, st41⟩ := Jvm.LawKit.callS X29 hx (y := (⟨"com/example/tallywire/tallywire/consumers/Command", "number", "([B)J"⟩ : MethodName)) hown (mvT hZ (hw _ (List.mem_of_getElem? (i := 23) rfl))) (mvT hZ (hw _ (List.mem_of_getElem? (i := 24) rfl))) (mvT hZ (hw _ (List.mem_of_getElem? (i := 25) rfl))) (mvT hZ (hw _ (List.mem_of_getElem? (i := 26) rfl))) (by decide) (backOf (W := 0) (rm3 l Z a0 hw [] b2 k2 nn ((own_fill nn xx).set pp.toNatClampNeg (bb.toInt8.toInt32)) h29 n0 Z29 V29 (by rw [List.length_set]; exact own_fill_len nn xx) (own_nneg nn0)) hZ (hw _ (List.mem_of_getElem? (i := 26) rfl)) (hw _ (List.mem_of_getElem? (i := 25) rfl)) (by decide) (by decide)) (g := (mkF m 273 #[.val (.long x0), .second, .val (.int x1), .val (.int x2), .val (.int x3), .val (.int x4), .val (.int nn), .val (.long xx), .second, .val (.ref b2), .val (.long xx), .second, .val (.int (0 : Int32)), .val (.int (1 : Int32)), .val (.long (-1 : Int64)), .second, .unset, .unset, .unset, .unset] [(.ref b2)])) rfl (by rw [hml]; rfl) (argsL := [(.ref b2)]) (rest := []) (lenOf own_pd2 rfl) rfl (by show 2 * 0 + _ ≤ _; exact Nat.le_of_eq rfl) (hb hby at_273) (fun _ _ => ⟨rfl, e29, (by decide : 13 + 0 ≤ _), (by decide : 155 + 0 ≤ _)⟩)
            dsimp only [Pt.U, Pt.locs, Pt.cells, Pt.slots] at X41 l41 y41 z41 st41 hQ41
            subst l41 y41 z41
            obtain ⟨nr_41, rfl, N41q, K41q, pr41_0⟩ := hQ41
            have N41 := Fr.app N29 N41q
            have f42 := V29.keep K41q nin0
            have K41 := K29.trans K41q all0
            have Z41 := Nat.le_trans Z29 K41q.1
            refine Goes.go st41 ?_
            show Goes p e below _ T41 (mkF m 276 #[.val (.long x0), .second, .val (.int x1), .val (.int x2), .val (.int x3), .val (.int x4), .val (.int nn), .val (.long xx), .second, .val (.ref b2), .val (.long xx), .second, .val (.int (0 : Int32)), .val (.int (1 : Int32)), .val (.long (-1 : Int64)), .second, .unset, .unset, .unset, .unset] [(.long nr_41)])
            refine own_lload X41 hx 278 rfl (hb hby at_276) rfl ?_
            refine own_lcmp X41 hx 279 rfl (hb hby at_278) ?_
            refine own_ifN X41 hx 282 (hb hby at_279) (Lteq ((pr41_0.trans (own_num0 (Or.inl hc235_40))) : nr_41 = (-1 : Int64))).2 rfl ?_
            refine own_iconst X41 hx 283 rfl (1 : Int32) (hb hby at_282) (by decide) ?_
            refine own_goto X41 hx 287 (hb hby at_283) (by decide) (by decide) ?_
            refine own_retZ X41 hx hlk Bd.returns (by decide) (hb hby at_287) (by decide) (by decide) rfl ?_
            exact ⟨rfl, N41⟩
          · refine own_ifN X29 hx 238 (hb hby at_235) ((if0 _ _).trans (feq hc235_40).1) rfl ?_
            refine own_iload X29 hx 240 rfl (hb hby at_238) rfl ?_
            refine own_bipush X29 hx 242 rfl (10 : Int32) (hb hby at_240) (by decide) ?_
            by_cases hc242_43 : (10 : Int32) < nn
            · refine own_icmpY X29 hx 259 (hb hby at_242) (tlt hc242_43).2.2.1 (by decide) (by decide) ?_
              refine Goes.go (X29.ldc2Long hx hown (mvT hZ (hw _ (List.mem_of_getElem? (i := 22) rfl))) (g := (mkF m 259 #[.val (.long x0), .second, .val (.int x1), .val (.int x2), .val (.int x3), .val (.int x4), .val (.int nn), .val (.long xx), .second, .val (.ref b2), .val (.long xx), .second, .val (.int (0 : Int32)), .val (.int (1 : Int32)), .val (.int pp), .val (.int bb), .unset, .unset, .unset, .unset] [])) rfl (hb hby at_259)) ?_
              show Goes p e below _ T29 (mkF m 262 #[.val (.long x0), .second, .val (.int x1), .val (.int x2), .val (.int x3), .val (.int x4), .val (.int nn), .val (.long xx), .second, .val (.ref b2), .val (.long xx), .second, .val (.int (0 : Int32)), .val (.int (1 : Int32)), .val (.int pp), .val (.int bb), .unset, .unset, .unset, .unset] [(.long (-1 : Int64))])
              refine own_lstore X29 hx 264 rfl #[.val (.long x0), .second, .val (.int x1), .val (.int x2), .val (.int x3), .val (.int x4), .val (.int nn), .val (.long xx), .second, .val (.ref b2), .val (.long xx), .second, .val (.int (0 : Int32)), .val (.int (1 : Int32)), .val (.long (-1 : Int64)), .second, .unset, .unset, .unset, .unset] (hb hby at_262) rfl ?_
              refine own_goto X29 hx 271 (hb hby at_264) (by decide) (by decide) ?_
              refine own_aload X29 hx 273 rfl (hb hby at_271) rfl rfl ?_
              obtain ⟨_, _, ⟨T44, L44, k44, n44⟩, -, X44, ⟨Lc44, hQ44, l44, y44, z44⟩, st44⟩ := Jvm.LawKit.callS X29 hx (y := (⟨"com/example/tallywire/tallywire/consumers/Command", "number", "([B)J"⟩ : MethodName)) hown (mvT hZ (hw _ (List.mem_of_getElem? (i := 23) rfl))) (mvT hZ (hw _ (List.mem_of_getElem? (i := 24) rfl))) (mvT hZ (hw _ (List.mem_of_getElem? (i := 25) rfl))) (mvT hZ (hw _ (List.mem_of_getElem? (i := 26) rfl))) (by decide) (backOf (W := 0) (rm3 l Z a0 hw [] b2 k2 nn ((own_fill nn xx).set pp.toNatClampNeg (bb.toInt8.toInt32)) h29 n0 Z29 V29 (by rw [List.length_set]; exact own_fill_len nn xx) (own_nneg nn0)) hZ (hw _ (List.mem_of_getElem? (i := 26) rfl)) (hw _ (List.mem_of_getElem? (i := 25) rfl)) (by decide) (by decide)) (g := (mkF m 273 #[.val (.long x0), .second, .val (.int x1), .val (.int x2), .val (.int x3), .val (.int x4), .val (.int nn), .val (.long xx), .second, .val (.ref b2), .val (.long xx), .second, .val (.int (0 : Int32)), .val (.int (1 : Int32)), .val (.long (-1 : Int64)), .second, .unset, .unset, .unset, .unset] [(.ref b2)])) rfl (by rw [hml]; rfl) (argsL := [(.ref b2)]) (rest := []) (lenOf own_pd2 rfl) rfl (by show 2 * 0 + _ ≤ _; exact Nat.le_of_eq rfl) (hb hby at_273) (fun _ _ => ⟨rfl, e29, (by decide : 13 + 0 ≤ _), (by decide : 155 + 0 ≤ _)⟩)
              dsimp only [Pt.U, Pt.locs, Pt.cells, Pt.slots] at X44 l44 y44 z44 st44 hQ44
              subst l44 y44 z44
              obtain ⟨nr_44, rfl, N44q, K44q, pr44_0⟩ := hQ44
              have N44 := Fr.app N29 N44q
              have f45 := V29.keep K44q nin0
              have K44 := K29.trans K44q all0
              have Z44 := Nat.le_trans Z29 K44q.1
              refine Goes.go st44 ?_
              show Goes p e below _ T44 (mkF m 276 #[.val (.long x0), .second, .val (.int x1), .val (.int x2), .val (.int x3), .val (.int x4), .val (.int nn), .val (.long xx), .second, .val (.ref b2), .val (.long xx), .second, .val (.int (0 : Int32)), .val (.int (1 : Int32)), .val (.long (-1 : Int64)), .second, .unset, .unset, .unset, .unset] [(.long nr_44)])
              refine own_lload X44 hx 278 rfl (hb hby at_276) rfl ?_
              refine own_lcmp X44 hx 279 rfl (hb hby at_278) ?_
              refine own_ifN X44 hx 282 (hb hby at_279) (Lteq ((pr44_0.trans (own_num0 (Or.inr hc242_43))) : nr_44 = (-1 : Int64))).2 rfl ?_
              refine own_iconst X44 hx 283 rfl (1 : Int32) (hb hby at_282) (by decide) ?_
              refine own_goto X44 hx 287 (hb hby at_283) (by decide) (by decide) ?_
              refine own_retZ X44 hx hlk Bd.returns (by decide) (hb hby at_287) (by decide) (by decide) rfl ?_
              exact ⟨rfl, N44⟩
            · refine own_icmpN X29 hx 245 (hb hby at_242) (flt hc242_43).2.2.1 rfl ?_
              refine own_iload X29 hx 247 rfl (hb hby at_245) rfl ?_
              refine own_ifY X29 hx 259 (hb hby at_247) ((if0 _ _).trans (teq ((by decide) : (0 : Int32) = (0 : Int32))).1) (by decide) (by decide) ?_
              refine Goes.go (X29.ldc2Long hx hown (mvT hZ (hw _ (List.mem_of_getElem? (i := 22) rfl))) (g := (mkF m 259 #[.val (.long x0), .second, .val (.int x1), .val (.int x2), .val (.int x3), .val (.int x4), .val (.int nn), .val (.long xx), .second, .val (.ref b2), .val (.long xx), .second, .val (.int (0 : Int32)), .val (.int (1 : Int32)), .val (.int pp), .val (.int bb), .unset, .unset, .unset, .unset] [])) rfl (hb hby at_259)) ?_
              show Goes p e below _ T29 (mkF m 262 #[.val (.long x0), .second, .val (.int x1), .val (.int x2), .val (.int x3), .val (.int x4), .val (.int nn), .val (.long xx), .second, .val (.ref b2), .val (.long xx), .second, .val (.int (0 : Int32)), .val (.int (1 : Int32)), .val (.int pp), .val (.int bb), .unset, .unset, .unset, .unset] [(.long (-1 : Int64))])
              refine own_lstore X29 hx 264 rfl #[.val (.long x0), .second, .val (.int x1), .val (.int x2), .val (.int x3), .val (.int x4), .val (.int nn), .val (.long xx), .second, .val (.ref b2), .val (.long xx), .second, .val (.int (0 : Int32)), .val (.int (1 : Int32)), .val (.long (-1 : Int64)), .second, .unset, .unset, .unset, .unset] (hb hby at_262) rfl ?_
              refine own_goto X29 hx 271 (hb hby at_264) (by decide) (by decide) ?_
              refine own_aload X29 hx 273 rfl (hb hby at_271) rfl rfl ?_
              obtain ⟨_, _, ⟨T46, L46, k46, n46⟩, -, X46, ⟨Lc46, hQ46, l46, y46, z46⟩, st46⟩ := Jvm.LawKit.callS X29 hx (y := (⟨"com/example/tallywire/tallywire/consumers/Command", "number", "([B)J"⟩ : MethodName)) hown (mvT hZ (hw _ (List.mem_of_getElem? (i := 23) rfl))) (mvT hZ (hw _ (List.mem_of_getElem? (i := 24) rfl))) (mvT hZ (hw _ (List.mem_of_getElem? (i := 25) rfl))) (mvT hZ (hw _ (List.mem_of_getElem? (i := 26) rfl))) (by decide) (backOf (W := 0) (rm3 l Z a0 hw [] b2 k2 nn ((own_fill nn xx).set pp.toNatClampNeg (bb.toInt8.toInt32)) h29 n0 Z29 V29 (by rw [List.length_set]; exact own_fill_len nn xx) (own_nneg nn0)) hZ (hw _ (List.mem_of_getElem? (i := 26) rfl)) (hw _ (List.mem_of_getElem? (i := 25) rfl)) (by decide) (by decide)) (g := (mkF m 273 #[.val (.long x0), .second, .val (.int x1), .val (.int x2), .val (.int x3), .val (.int x4), .val (.int nn), .val (.long xx), .second, .val (.ref b2), .val (.long xx), .second, .val (.int (0 : Int32)), .val (.int (1 : Int32)), .val (.long (-1 : Int64)), .second, .unset, .unset, .unset, .unset] [(.ref b2)])) rfl (by rw [hml]; rfl) (argsL := [(.ref b2)]) (rest := []) (lenOf own_pd2 rfl) rfl (by show 2 * 0 + _ ≤ _; exact Nat.le_of_eq rfl) (hb hby at_273) (fun _ _ => ⟨rfl, e29, (by decide : 13 + 0 ≤ _), (by decide : 155 + 0 ≤ _)⟩)
              dsimp only [Pt.U, Pt.locs, Pt.cells, Pt.slots] at X46 l46 y46 z46 st46 hQ46
              subst l46 y46 z46
              obtain ⟨nr_46, rfl, N46q, K46q, pr46_0⟩ := hQ46
              have N46 := Fr.app N29 N46q
              have f47 := V29.keep K46q nin0
              have K46 := K29.trans K46q all0
              have Z46 := Nat.le_trans Z29 K46q.1
              refine Goes.go st46 ?_
              show Goes p e below _ T46 (mkF m 276 #[.val (.long x0), .second, .val (.int x1), .val (.int x2), .val (.int x3), .val (.int x4), .val (.int nn), .val (.long xx), .second, .val (.ref b2), .val (.long xx), .second, .val (.int (0 : Int32)), .val (.int (1 : Int32)), .val (.long (-1 : Int64)), .second, .unset, .unset, .unset, .unset] [(.long nr_46)])
              refine own_lload X46 hx 278 rfl (hb hby at_276) rfl ?_
              refine own_lcmp X46 hx 279 rfl (hb hby at_278) ?_
              refine own_ifN X46 hx 282 (hb hby at_279) (Lteq ((pr46_0.trans (own_lawC h_nn h_pp hc235_40 hc242_43 (Or.inr hc184_39) (own_b8 h_bb))) : nr_46 = (-1 : Int64))).2 rfl ?_
              refine own_iconst X46 hx 283 rfl (1 : Int32) (hb hby at_282) (by decide) ?_
              refine own_goto X46 hx 287 (hb hby at_283) (by decide) (by decide) ?_
              refine own_retZ X46 hx hlk Bd.returns (by decide) (hb hby at_287) (by decide) (by decide) rfl ?_
              exact ⟨rfl, N46⟩
        · refine own_icmpN X29 hx 187 (hb hby at_184) (flt hc184_39).2.2.1 rfl ?_
          refine own_iload X29 hx 189 rfl (hb hby at_187) rfl ?_
          refine own_iconst X29 hx 190 rfl (1 : Int32) (hb hby at_189) (by decide) ?_
          refine own_isub X29 hx 191 rfl (hb hby at_190) rfl ?_
          refine own_iload X29 hx 193 rfl (hb hby at_191) rfl ?_
          refine own_isub X29 hx 194 rfl (hb hby at_193) rfl ?_
          obtain ⟨_, _, ⟨T48, L48, k48, n48⟩, -, X48, ⟨Lc48, hQ48, l48, y48, z48⟩, st48⟩ := Jvm.LawKit.callS X29 hx (y := (⟨"com/example/tallywire/tallywire/consumers/CommandNumberPinLaw", "pow10", "(I)J"⟩ : MethodName)) hown (mvT hZ (hw _ (List.mem_of_getElem? (i := 1) rfl))) (mvT hZ (hw _ (List.mem_of_getElem? (i := 2) rfl))) (mvT hZ (hw _ (List.mem_of_getElem? (i := 3) rfl))) (mvT hZ (hw _ (List.mem_of_getElem? (i := 4) rfl))) (by decide) (backOf (W := 0) (rm1 l Z a0 hw [] ((nn - (1 : Int32)) - pp) h29 n0 Z29 (by rw [own_sub2 nn0 nn1 pp0 pp1]; omega) (by rw [own_sub2 nn0 nn1 pp0 pp1]; omega)) hZ (hw _ (List.mem_of_getElem? (i := 4) rfl)) (hw _ (List.mem_of_getElem? (i := 3) rfl)) (by decide) (by decide)) (g := (mkF m 194 #[.val (.long x0), .second, .val (.int x1), .val (.int x2), .val (.int x3), .val (.int x4), .val (.int nn), .val (.long xx), .second, .val (.ref b2), .val (.long xx), .second, .val (.int (1 : Int32)), .val (.int (1 : Int32)), .val (.int pp), .val (.int bb), .unset, .unset, .unset, .unset] [(.int ((nn - (1 : Int32)) - pp))])) rfl (by rw [hml]; rfl) (argsL := [(.int ((nn - (1 : Int32)) - pp))]) (rest := []) (lenOf own_pd0 rfl) rfl (by show 2 * 0 + _ ≤ _; exact Nat.le_of_eq rfl) (hb hby at_194) (fun _ _ => ⟨rfl, e29, (by decide : 13 + 1 ≤ _), (by decide : 155 + 12 ≤ _)⟩)
          dsimp only [Pt.U, Pt.locs, Pt.cells, Pt.slots] at X48 l48 y48 z48 st48 hQ48
          subst l48 y48 z48
          obtain ⟨rfl, N48q, K48q⟩ := hQ48
          have N48 := Fr.app N29 N48q
          have f49 := V29.keep K48q nin0
          have K48 := K29.trans K48q all0
          have Z48 := Nat.le_trans Z29 K48q.1
          refine Goes.go st48 ?_
          show Goes p e below _ T48 (mkF m 197 #[.val (.long x0), .second, .val (.int x1), .val (.int x2), .val (.int x3), .val (.int x4), .val (.int nn), .val (.long xx), .second, .val (.ref b2), .val (.long xx), .second, .val (.int (1 : Int32)), .val (.int (1 : Int32)), .val (.int pp), .val (.int bb), .unset, .unset, .unset, .unset] [(.long (own_p10 ((nn - (1 : Int32)) - pp)))])
          refine own_lstore X48 hx 199 rfl #[.val (.long x0), .second, .val (.int x1), .val (.int x2), .val (.int x3), .val (.int x4), .val (.int nn), .val (.long xx), .second, .val (.ref b2), .val (.long xx), .second, .val (.int (1 : Int32)), .val (.int (1 : Int32)), .val (.int pp), .val (.int bb), .val (.long (own_p10 ((nn - (1 : Int32)) - pp))), .second, .unset, .unset] (hb hby at_197) rfl ?_
          refine own_lload X48 hx 201 rfl (hb hby at_199) rfl ?_
          refine own_lload X48 hx 203 rfl (hb hby at_201) rfl ?_
          refine own_ldiv X48 hx 204 rfl (hb hby at_203) (own_p10nz (by rw [own_sub2 nn0 nn1 pp0 pp1]; omega) (by rw [own_sub2 nn0 nn1 pp0 pp1]; omega)) rfl ?_
          refine Goes.go (X48.ldc2Long hx hown (mvT hZ (hw _ (List.mem_of_getElem? (i := 6) rfl))) (g := (mkF m 204 #[.val (.long x0), .second, .val (.int x1), .val (.int x2), .val (.int x3), .val (.int x4), .val (.int nn), .val (.long xx), .second, .val (.ref b2), .val (.long xx), .second, .val (.int (1 : Int32)), .val (.int (1 : Int32)), .val (.int pp), .val (.int bb), .val (.long (own_p10 ((nn - (1 : Int32)) - pp))), .second, .unset, .unset] [(.long (xx / (own_p10 ((nn - (1 : Int32)) - pp))))])) rfl (hb hby at_204)) ?_
          show Goes p e below _ T48 (mkF m 207 #[.val (.long x0), .second, .val (.int x1), .val (.int x2), .val (.int x3), .val (.int x4), .val (.int nn), .val (.long xx), .second, .val (.ref b2), .val (.long xx), .second, .val (.int (1 : Int32)), .val (.int (1 : Int32)), .val (.int pp), .val (.int bb), .val (.long (own_p10 ((nn - (1 : Int32)) - pp))), .second, .unset, .unset] [(.long (10 : Int64)), (.long (xx / (own_p10 ((nn - (1 : Int32)) - pp))))])
          refine own_lrem X48 hx 208 rfl (hb hby at_207) (by decide) rfl ?_
          refine own_lstore X48 hx 210 rfl #[.val (.long x0), .second, .val (.int x1), .val (.int x2), .val (.int x3), .val (.int x4), .val (.int nn), .val (.long xx), .second, .val (.ref b2), .val (.long xx), .second, .val (.int (1 : Int32)), .val (.int (1 : Int32)), .val (.int pp), .val (.int bb), .val (.long (own_p10 ((nn - (1 : Int32)) - pp))), .second, .val (.long ((xx / (own_p10 ((nn - (1 : Int32)) - pp))) % (10 : Int64))), .second] (hb hby at_208) rfl ?_
          refine own_lload X48 hx 212 rfl (hb hby at_210) rfl ?_
          refine own_iload X48 hx 214 rfl (hb hby at_212) rfl ?_
          refine own_bipush X48 hx 216 rfl (48 : Int32) (hb hby at_214) (by decide) ?_
          refine own_isub X48 hx 217 rfl (hb hby at_216) rfl ?_
          refine own_i2l X48 hx 218 rfl (hb hby at_217) rfl ?_
          refine own_lload X48 hx 220 rfl (hb hby at_218) rfl ?_
          refine own_lsub X48 hx 221 rfl (hb hby at_220) rfl ?_
          refine own_lload X48 hx 223 rfl (hb hby at_221) rfl ?_
          refine own_lmul X48 hx 224 rfl (hb hby at_223) rfl ?_
          obtain ⟨vv, h_vv⟩ : ∃ z, z = (xx + ((((bb - (48 : Int32)).toInt64) - ((xx / (own_p10 ((nn - (1 : Int32)) - pp))) % (10 : Int64))) * (own_p10 ((nn - (1 : Int32)) - pp)))) := ⟨_, rfl⟩
          refine own_ladd X48 hx 225 rfl (hb hby at_224) h_vv.symm ?_
          refine own_lstore X48 hx 227 rfl #[.val (.long x0), .second, .val (.int x1), .val (.int x2), .val (.int x3), .val (.int x4), .val (.int nn), .val (.long xx), .second, .val (.ref b2), .val (.long vv), .second, .val (.int (1 : Int32)), .val (.int (1 : Int32)), .val (.int pp), .val (.int bb), .val (.long (own_p10 ((nn - (1 : Int32)) - pp))), .second, .val (.long ((xx / (own_p10 ((nn - (1 : Int32)) - pp))) % (10 : Int64))), .second] (hb hby at_225) rfl ?_
          refine own_goto X48 hx 233 (hb hby at_227) (by decide) (by decide) ?_
          refine own_iload X48 hx 235 rfl (hb hby at_233) rfl ?_
          by_cases hc235_50 : nn = (0 : Int32)
          · refine own_ifY X48 hx 259 (hb hby at_235) ((if0 _ _).trans (teq hc235_50).1) (by decide) (by decide) ?_
            refine Goes.go (X48.ldc2Long hx hown (mvT hZ (hw _ (List.mem_of_getElem? (i := 22) rfl))) (g := (mkF m 259 #[.val (.long x0), .second, .val (.int x1), .val (.int x2), .val (.int x3), .val (.int x4), .val (.int nn), .val (.long xx), .second, .val (.ref b2), .val (.long vv), .second, .val (.int (1 : Int32)), .val (.int (1 : Int32)), .val (.int pp), .val (.int bb), .val (.long (own_p10 ((nn - (1 : Int32)) - pp))), .second, .val (.long ((xx / (own_p10 ((nn - (1 : Int32)) - pp))) % (10 : Int64))), .second] [])) rfl (hb hby at_259)) ?_
            show Goes p e below _ T48 (mkF m 262 #[.val (.long x0), .second, .val (.int x1), .val (.int x2), .val (.int x3), .val (.int x4), .val (.int nn), .val (.long xx), .second, .val (.ref b2), .val (.long vv), .second, .val (.int (1 : Int32)), .val (.int (1 : Int32)), .val (.int pp), .val (.int bb), .val (.long (own_p10 ((nn - (1 : Int32)) - pp))), .second, .val (.long ((xx / (own_p10 ((nn - (1 : Int32)) - pp))) % (10 : Int64))), .second] [(.long (-1 : Int64))])
            refine own_lstore X48 hx 264 rfl #[.val (.long x0), .second, .val (.int x1), .val (.int x2), .val (.int x3), .val (.int x4), .val (.int nn), .val (.long xx), .second, .val (.ref b2), .val (.long vv), .second, .val (.int (1 : Int32)), .val (.int (1 : Int32)), .val (.long (-1 : Int64)), .second, .val (.long (own_p10 ((nn - (1 : Int32)) - pp))), .second, .val (.long ((xx / (own_p10 ((nn - (1 : Int32)) - pp))) % (10 : Int64))), .second] (hb hby at_262) rfl ?_
            refine own_goto X48 hx 271 (hb hby at_264) (by decide) (by decide) ?_
            refine own_aload X48 hx 273 rfl (hb hby at_271) rfl rfl ?_
            obtain ⟨_, _, ⟨T51, L51, k51, n51⟩, -, X51, ⟨Lc51, hQ51, l51, y51, z51⟩, st51⟩ := Jvm.LawKit.callS X48 hx (y := (⟨"com/example/tallywire/tallywire/consumers/Command", "number", "([B)J"⟩ : MethodName)) hown (mvT hZ (hw _ (List.mem_of_getElem? (i := 23) rfl))) (mvT hZ (hw _ (List.mem_of_getElem? (i := 24) rfl))) (mvT hZ (hw _ (List.mem_of_getElem? (i := 25) rfl))) (mvT hZ (hw _ (List.mem_of_getElem? (i := 26) rfl))) (by decide) (backOf (W := 0) (rm3 l Z a0 hw [] b2 k2 nn ((own_fill nn xx).set pp.toNatClampNeg (bb.toInt8.toInt32)) T48.heap n0 Z48 f49 (by rw [List.length_set]; exact own_fill_len nn xx) (own_nneg nn0)) hZ (hw _ (List.mem_of_getElem? (i := 26) rfl)) (hw _ (List.mem_of_getElem? (i := 25) rfl)) (by decide) (by decide)) (g := (mkF m 273 #[.val (.long x0), .second, .val (.int x1), .val (.int x2), .val (.int x3), .val (.int x4), .val (.int nn), .val (.long xx), .second, .val (.ref b2), .val (.long vv), .second, .val (.int (1 : Int32)), .val (.int (1 : Int32)), .val (.long (-1 : Int64)), .second, .val (.long (own_p10 ((nn - (1 : Int32)) - pp))), .second, .val (.long ((xx / (own_p10 ((nn - (1 : Int32)) - pp))) % (10 : Int64))), .second] [(.ref b2)])) rfl (by rw [hml]; rfl) (argsL := [(.ref b2)]) (rest := []) (lenOf own_pd2 rfl) rfl (by show 2 * 0 + _ ≤ _; exact Nat.le_of_eq rfl) (hb hby at_273) (fun _ _ => ⟨rfl, rfl, (by decide : 14 + 0 ≤ _), (by decide : 167 + 0 ≤ _)⟩)
            dsimp only [Pt.U, Pt.locs, Pt.cells, Pt.slots] at X51 l51 y51 z51 st51 hQ51
            subst l51 y51 z51
            obtain ⟨nr_51, rfl, N51q, K51q, pr51_0⟩ := hQ51
            have N51 := Fr.app N48 N51q
            have f52 := f49.keep K51q nin0
            have K51 := K48.trans K51q all0
            have Z51 := Nat.le_trans Z48 K51q.1
            refine Goes.go st51 ?_
            show Goes p e below _ T51 (mkF m 276 #[.val (.long x0), .second, .val (.int x1), .val (.int x2), .val (.int x3), .val (.int x4), .val (.int nn), .val (.long xx), .second, .val (.ref b2), .val (.long vv), .second, .val (.int (1 : Int32)), .val (.int (1 : Int32)), .val (.long (-1 : Int64)), .second, .val (.long (own_p10 ((nn - (1 : Int32)) - pp))), .second, .val (.long ((xx / (own_p10 ((nn - (1 : Int32)) - pp))) % (10 : Int64))), .second] [(.long nr_51)])
            refine own_lload X51 hx 278 rfl (hb hby at_276) rfl ?_
            refine own_lcmp X51 hx 279 rfl (hb hby at_278) ?_
            refine own_ifN X51 hx 282 (hb hby at_279) (Lteq ((pr51_0.trans (own_num0 (Or.inl hc235_50))) : nr_51 = (-1 : Int64))).2 rfl ?_
            refine own_iconst X51 hx 283 rfl (1 : Int32) (hb hby at_282) (by decide) ?_
            refine own_goto X51 hx 287 (hb hby at_283) (by decide) (by decide) ?_
            refine own_retZ X51 hx hlk Bd.returns (by decide) (hb hby at_287) (by decide) (by decide) rfl ?_
            exact ⟨rfl, N51⟩
          · refine own_ifN X48 hx 238 (hb hby at_235) ((if0 _ _).trans (feq hc235_50).1) rfl ?_
            refine own_iload X48 hx 240 rfl (hb hby at_238) rfl ?_
            refine own_bipush X48 hx 242 rfl (10 : Int32) (hb hby at_240) (by decide) ?_
            by_cases hc242_53 : (10 : Int32) < nn
            · refine own_icmpY X48 hx 259 (hb hby at_242) (tlt hc242_53).2.2.1 (by decide) (by decide) ?_
              refine Goes.go (X48.ldc2Long hx hown (mvT hZ (hw _ (List.mem_of_getElem? (i := 22) rfl))) (g := (mkF m 259 #[.val (.long x0), .second, .val (.int x1), .val (.int x2), .val (.int x3), .val (.int x4), .val (.int nn), .val (.long xx), .second, .val (.ref b2), .val (.long vv), .second, .val (.int (1 : Int32)), .val (.int (1 : Int32)), .val (.int pp), .val (.int bb), .val (.long (own_p10 ((nn - (1 : Int32)) - pp))), .second, .val (.long ((xx / (own_p10 ((nn - (1 : Int32)) - pp))) % (10 : Int64))), .second] [])) rfl (hb hby at_259)) ?_
              show Goes p e below _ T48 (mkF m 262 #[.val (.long x0), .second, .val (.int x1), .val (.int x2), .val (.int x3), .val (.int x4), .val (.int nn), .val (.long xx), .second, .val (.ref b2), .val (.long vv), .second, .val (.int (1 : Int32)), .val (.int (1 : Int32)), .val (.int pp), .val (.int bb), .val (.long (own_p10 ((nn - (1 : Int32)) - pp))), .second, .val (.long ((xx / (own_p10 ((nn - (1 : Int32)) - pp))) % (10 : Int64))), .second] [(.long (-1 : Int64))])
              refine own_lstore X48 hx 264 rfl #[.val (.long x0), .second, .val (.int x1), .val (.int x2), .val (.int x3), .val (.int x4), .val (.int nn), .val (.long xx), .second, .val (.ref b2), .val (.long vv), .second, .val (.int (1 : Int32)), .val (.int (1 : Int32)), .val (.long (-1 : Int64)), .second, .val (.long (own_p10 ((nn - (1 : Int32)) - pp))), .second, .val (.long ((xx / (own_p10 ((nn - (1 : Int32)) - pp))) % (10 : Int64))), .second] (hb hby at_262) rfl ?_
              refine own_goto X48 hx 271 (hb hby at_264) (by decide) (by decide) ?_
              refine own_aload X48 hx 273 rfl (hb hby at_271) rfl rfl ?_
              obtain ⟨_, _, ⟨T54, L54, k54, n54⟩, -, X54, ⟨Lc54, hQ54, l54, y54, z54⟩, st54⟩ := Jvm.LawKit.callS X48 hx (y := (⟨"com/example/tallywire/tallywire/consumers/Command", "number", "([B)J"⟩ : MethodName)) hown (mvT hZ (hw _ (List.mem_of_getElem? (i := 23) rfl))) (mvT hZ (hw _ (List.mem_of_getElem? (i := 24) rfl))) (mvT hZ (hw _ (List.mem_of_getElem? (i := 25) rfl))) (mvT hZ (hw _ (List.mem_of_getElem? (i := 26) rfl))) (by decide) (backOf (W := 0) (rm3 l Z a0 hw [] b2 k2 nn ((own_fill nn xx).set pp.toNatClampNeg (bb.toInt8.toInt32)) T48.heap n0 Z48 f49 (by rw [List.length_set]; exact own_fill_len nn xx) (own_nneg nn0)) hZ (hw _ (List.mem_of_getElem? (i := 26) rfl)) (hw _ (List.mem_of_getElem? (i := 25) rfl)) (by decide) (by decide)) (g := (mkF m 273 #[.val (.long x0), .second, .val (.int x1), .val (.int x2), .val (.int x3), .val (.int x4), .val (.int nn), .val (.long xx), .second, .val (.ref b2), .val (.long vv), .second, .val (.int (1 : Int32)), .val (.int (1 : Int32)), .val (.long (-1 : Int64)), .second, .val (.long (own_p10 ((nn - (1 : Int32)) - pp))), .second, .val (.long ((xx / (own_p10 ((nn - (1 : Int32)) - pp))) % (10 : Int64))), .second] [(.ref b2)])) rfl (by rw [hml]; rfl) (argsL := [(.ref b2)]) (rest := []) (lenOf own_pd2 rfl) rfl (by show 2 * 0 + _ ≤ _; exact Nat.le_of_eq rfl) (hb hby at_273) (fun _ _ => ⟨rfl, rfl, (by decide : 14 + 0 ≤ _), (by decide : 167 + 0 ≤ _)⟩)
              dsimp only [Pt.U, Pt.locs, Pt.cells, Pt.slots] at X54 l54 y54 z54 st54 hQ54
              subst l54 y54 z54
              obtain ⟨nr_54, rfl, N54q, K54q, pr54_0⟩ := hQ54
              have N54 := Fr.app N48 N54q
              have f55 := f49.keep K54q nin0
              have K54 := K48.trans K54q all0
              have Z54 := Nat.le_trans Z48 K54q.1
              refine Goes.go st54 ?_
              show Goes p e below _ T54 (mkF m 276 #[.val (.long x0), .second, .val (.int x1), .val (.int x2), .val (.int x3), .val (.int x4), .val (.int nn), .val (.long xx), .second, .val (.ref b2), .val (.long vv), .second, .val (.int (1 : Int32)), .val (.int (1 : Int32)), .val (.long (-1 : Int64)), .second, .val (.long (own_p10 ((nn - (1 : Int32)) - pp))), .second, .val (.long ((xx / (own_p10 ((nn - (1 : Int32)) - pp))) % (10 : Int64))), .second] [(.long nr_54)])
              refine own_lload X54 hx 278 rfl (hb hby at_276) rfl ?_
              refine own_lcmp X54 hx 279 rfl (hb hby at_278) ?_
              refine own_ifN X54 hx 282 (hb hby at_279) (Lteq ((pr54_0.trans (own_num0 (Or.inr hc242_53))) : nr_54 = (-1 : Int64))).2 rfl ?_
              refine own_iconst X54 hx 283 rfl (1 : Int32) (hb hby at_282) (by decide) ?_
              refine own_goto X54 hx 287 (hb hby at_283) (by decide) (by decide) ?_
              refine own_retZ X54 hx hlk Bd.returns (by decide) (hb hby at_287) (by decide) (by decide) rfl ?_
              exact ⟨rfl, N54⟩
            · refine own_icmpN X48 hx 245 (hb hby at_242) (flt hc242_53).2.2.1 rfl ?_
              refine own_iload X48 hx 247 rfl (hb hby at_245) rfl ?_
              refine own_ifN X48 hx 250 (hb hby at_247) ((if0 _ _).trans (feq ((by decide) : ¬ ((1 : Int32) = (0 : Int32)))).1) rfl ?_
              refine own_lload X48 hx 252 rfl (hb hby at_250) rfl ?_
              refine Goes.go (X48.ldc2Long hx hown (mvT hZ (hw _ (List.mem_of_getElem? (i := 30) rfl))) (g := (mkF m 252 #[.val (.long x0), .second, .val (.int x1), .val (.int x2), .val (.int x3), .val (.int x4), .val (.int nn), .val (.long xx), .second, .val (.ref b2), .val (.long vv), .second, .val (.int (1 : Int32)), .val (.int (1 : Int32)), .val (.int pp), .val (.int bb), .val (.long (own_p10 ((nn - (1 : Int32)) - pp))), .second, .val (.long ((xx / (own_p10 ((nn - (1 : Int32)) - pp))) % (10 : Int64))), .second] [(.long vv)])) rfl (hb hby at_252)) ?_
              show Goes p e below _ T48 (mkF m 255 #[.val (.long x0), .second, .val (.int x1), .val (.int x2), .val (.int x3), .val (.int x4), .val (.int nn), .val (.long xx), .second, .val (.ref b2), .val (.long vv), .second, .val (.int (1 : Int32)), .val (.int (1 : Int32)), .val (.int pp), .val (.int bb), .val (.long (own_p10 ((nn - (1 : Int32)) - pp))), .second, .val (.long ((xx / (own_p10 ((nn - (1 : Int32)) - pp))) % (10 : Int64))), .second] [(.long (4294967295 : Int64)), (.long vv)])
              refine own_lcmp X48 hx 256 rfl (hb hby at_255) ?_
              by_cases hc256_56 : (4294967295 : Int64) < vv
              · refine own_ifN X48 hx 259 (hb hby at_256) (Ltlt hc256_56).2.2.2 rfl ?_
                refine Goes.go (X48.ldc2Long hx hown (mvT hZ (hw _ (List.mem_of_getElem? (i := 22) rfl))) (g := (mkF m 259 #[.val (.long x0), .second, .val (.int x1), .val (.int x2), .val (.int x3), .val (.int x4), .val (.int nn), .val (.long xx), .second, .val (.ref b2), .val (.long vv), .second, .val (.int (1 : Int32)), .val (.int (1 : Int32)), .val (.int pp), .val (.int bb), .val (.long (own_p10 ((nn - (1 : Int32)) - pp))), .second, .val (.long ((xx / (own_p10 ((nn - (1 : Int32)) - pp))) % (10 : Int64))), .second] [])) rfl (hb hby at_259)) ?_
                show Goes p e below _ T48 (mkF m 262 #[.val (.long x0), .second, .val (.int x1), .val (.int x2), .val (.int x3), .val (.int x4), .val (.int nn), .val (.long xx), .second, .val (.ref b2), .val (.long vv), .second, .val (.int (1 : Int32)), .val (.int (1 : Int32)), .val (.int pp), .val (.int bb), .val (.long (own_p10 ((nn - (1 : Int32)) - pp))), .second, .val (.long ((xx / (own_p10 ((nn - (1 : Int32)) - pp))) % (10 : Int64))), .second] [(.long (-1 : Int64))])
                refine own_lstore X48 hx 264 rfl #[.val (.long x0), .second, .val (.int x1), .val (.int x2), .val (.int x3), .val (.int x4), .val (.int nn), .val (.long xx), .second, .val (.ref b2), .val (.long vv), .second, .val (.int (1 : Int32)), .val (.int (1 : Int32)), .val (.long (-1 : Int64)), .second, .val (.long (own_p10 ((nn - (1 : Int32)) - pp))), .second, .val (.long ((xx / (own_p10 ((nn - (1 : Int32)) - pp))) % (10 : Int64))), .second] (hb hby at_262) rfl ?_
                refine own_goto X48 hx 271 (hb hby at_264) (by decide) (by decide) ?_
                refine own_aload X48 hx 273 rfl (hb hby at_271) rfl rfl ?_
                obtain ⟨_, _, ⟨T57, L57, k57, n57⟩, -, X57, ⟨Lc57, hQ57, l57, y57, z57⟩, st57⟩ := Jvm.LawKit.callS X48 hx (y := (⟨"com/example/tallywire/tallywire/consumers/Command", "number", "([B)J"⟩ : MethodName)) hown (mvT hZ (hw _ (List.mem_of_getElem? (i := 23) rfl))) (mvT hZ (hw _ (List.mem_of_getElem? (i := 24) rfl))) (mvT hZ (hw _ (List.mem_of_getElem? (i := 25) rfl))) (mvT hZ (hw _ (List.mem_of_getElem? (i := 26) rfl))) (by decide) (backOf (W := 0) (rm3 l Z a0 hw [] b2 k2 nn ((own_fill nn xx).set pp.toNatClampNeg (bb.toInt8.toInt32)) T48.heap n0 Z48 f49 (by rw [List.length_set]; exact own_fill_len nn xx) (own_nneg nn0)) hZ (hw _ (List.mem_of_getElem? (i := 26) rfl)) (hw _ (List.mem_of_getElem? (i := 25) rfl)) (by decide) (by decide)) (g := (mkF m 273 #[.val (.long x0), .second, .val (.int x1), .val (.int x2), .val (.int x3), .val (.int x4), .val (.int nn), .val (.long xx), .second, .val (.ref b2), .val (.long vv), .second, .val (.int (1 : Int32)), .val (.int (1 : Int32)), .val (.long (-1 : Int64)), .second, .val (.long (own_p10 ((nn - (1 : Int32)) - pp))), .second, .val (.long ((xx / (own_p10 ((nn - (1 : Int32)) - pp))) % (10 : Int64))), .second] [(.ref b2)])) rfl (by rw [hml]; rfl) (argsL := [(.ref b2)]) (rest := []) (lenOf own_pd2 rfl) rfl (by show 2 * 0 + _ ≤ _; exact Nat.le_of_eq rfl) (hb hby at_273) (fun _ _ => ⟨rfl, rfl, (by decide : 14 + 0 ≤ _), (by decide : 167 + 0 ≤ _)⟩)
                dsimp only [Pt.U, Pt.locs, Pt.cells, Pt.slots] at X57 l57 y57 z57 st57 hQ57
                subst l57 y57 z57
                obtain ⟨nr_57, rfl, N57q, K57q, pr57_0⟩ := hQ57
                have N57 := Fr.app N48 N57q
                have f58 := f49.keep K57q nin0
                have K57 := K48.trans K57q all0
                have Z57 := Nat.le_trans Z48 K57q.1
                refine Goes.go st57 ?_
                show Goes p e below _ T57 (mkF m 276 #[.val (.long x0), .second, .val (.int x1), .val (.int x2), .val (.int x3), .val (.int x4), .val (.int nn), .val (.long xx), .second, .val (.ref b2), .val (.long vv), .second, .val (.int (1 : Int32)), .val (.int (1 : Int32)), .val (.long (-1 : Int64)), .second, .val (.long (own_p10 ((nn - (1 : Int32)) - pp))), .second, .val (.long ((xx / (own_p10 ((nn - (1 : Int32)) - pp))) % (10 : Int64))), .second] [(.long nr_57)])
                refine own_lload X57 hx 278 rfl (hb hby at_276) rfl ?_
                refine own_lcmp X57 hx 279 rfl (hb hby at_278) ?_
                refine own_ifN X57 hx 282 (hb hby at_279) (Lteq ((pr57_0.trans ((own_lawB h_nn h_xx h_pp hc235_50 hc242_53 hc177_30 hc184_39 (own_b8 h_bb) h_vv).1 hc256_56)) : nr_57 = (-1 : Int64))).2 rfl ?_
                refine own_iconst X57 hx 283 rfl (1 : Int32) (hb hby at_282) (by decide) ?_
                refine own_goto X57 hx 287 (hb hby at_283) (by decide) (by decide) ?_
                refine own_retZ X57 hx hlk Bd.returns (by decide) (hb hby at_287) (by decide) (by decide) rfl ?_
                exact ⟨rfl, N57⟩
              · refine own_ifY X48 hx 267 (hb hby at_256) (Lflt hc256_56).2.2.2 (by decide) (by decide) ?_
                refine own_lload X48 hx 269 rfl (hb hby at_267) rfl ?_
                refine own_lstore X48 hx 271 rfl #[.val (.long x0), .second, .val (.int x1), .val (.int x2), .val (.int x3), .val (.int x4), .val (.int nn), .val (.long xx), .second, .val (.ref b2), .val (.long vv), .second, .val (.int (1 : Int32)), .val (.int (1 : Int32)), .val (.long vv), .second, .val (.long (own_p10 ((nn - (1 : Int32)) - pp))), .second, .val (.long ((xx / (own_p10 ((nn - (1 : Int32)) - pp))) % (10 : Int64))), .second] (hb hby at_269) rfl ?_
                refine own_aload X48 hx 273 rfl (hb hby at_271) rfl rfl ?_
                obtain ⟨_, _, ⟨T59, L59, k59, n59⟩, -, X59, ⟨Lc59, hQ59, l59, y59, z59⟩, st59⟩ := Jvm.LawKit.callS X48 hx (y := (⟨"com/example/tallywire/tallywire/consumers/Command", "number", "([B)J"⟩ : MethodName)) hown (mvT hZ (hw _ (List.mem_of_getElem? (i := 23) rfl))) (mvT hZ (hw _ (List.mem_of_getElem? (i := 24) rfl))) (mvT hZ (hw _ (List.mem_of_getElem? (i := 25) rfl))) (mvT hZ (hw _ (List.mem_of_getElem? (i := 26) rfl))) (by decide) (backOf (W := 0) (rm3 l Z a0 hw [] b2 k2 nn ((own_fill nn xx).set pp.toNatClampNeg (bb.toInt8.toInt32)) T48.heap n0 Z48 f49 (by rw [List.length_set]; exact own_fill_len nn xx) (own_nneg nn0)) hZ (hw _ (List.mem_of_getElem? (i := 26) rfl)) (hw _ (List.mem_of_getElem? (i := 25) rfl)) (by decide) (by decide)) (g := (mkF m 273 #[.val (.long x0), .second, .val (.int x1), .val (.int x2), .val (.int x3), .val (.int x4), .val (.int nn), .val (.long xx), .second, .val (.ref b2), .val (.long vv), .second, .val (.int (1 : Int32)), .val (.int (1 : Int32)), .val (.long vv), .second, .val (.long (own_p10 ((nn - (1 : Int32)) - pp))), .second, .val (.long ((xx / (own_p10 ((nn - (1 : Int32)) - pp))) % (10 : Int64))), .second] [(.ref b2)])) rfl (by rw [hml]; rfl) (argsL := [(.ref b2)]) (rest := []) (lenOf own_pd2 rfl) rfl (by show 2 * 0 + _ ≤ _; exact Nat.le_of_eq rfl) (hb hby at_273) (fun _ _ => ⟨rfl, rfl, (by decide : 14 + 0 ≤ _), (by decide : 167 + 0 ≤ _)⟩)
                dsimp only [Pt.U, Pt.locs, Pt.cells, Pt.slots] at X59 l59 y59 z59 st59 hQ59
                subst l59 y59 z59
                obtain ⟨nr_59, rfl, N59q, K59q, pr59_0⟩ := hQ59
                have N59 := Fr.app N48 N59q
                have f60 := f49.keep K59q nin0
                have K59 := K48.trans K59q all0
                have Z59 := Nat.le_trans Z48 K59q.1
                refine Goes.go st59 ?_
                show Goes p e below _ T59 (mkF m 276 #[.val (.long x0), .second, .val (.int x1), .val (.int x2), .val (.int x3), .val (.int x4), .val (.int nn), .val (.long xx), .second, .val (.ref b2), .val (.long vv), .second, .val (.int (1 : Int32)), .val (.int (1 : Int32)), .val (.long vv), .second, .val (.long (own_p10 ((nn - (1 : Int32)) - pp))), .second, .val (.long ((xx / (own_p10 ((nn - (1 : Int32)) - pp))) % (10 : Int64))), .second] [(.long nr_59)])
                refine own_lload X59 hx 278 rfl (hb hby at_276) rfl ?_
                refine own_lcmp X59 hx 279 rfl (hb hby at_278) ?_
                refine own_ifN X59 hx 282 (hb hby at_279) (Lteq ((pr59_0.trans ((own_lawB h_nn h_xx h_pp hc235_50 hc242_53 hc177_30 hc184_39 (own_b8 h_bb) h_vv).2 hc256_56)) : nr_59 = vv)).2 rfl ?_
                refine own_iconst X59 hx 283 rfl (1 : Int32) (hb hby at_282) (by decide) ?_
                refine own_goto X59 hx 287 (hb hby at_283) (by decide) (by decide) ?_
                refine own_retZ X59 hx hlk Bd.returns (by decide) (hb hby at_287) (by decide) (by decide) rfl ?_
                exact ⟨rfl, N59⟩
    · refine own_ifY X14 hx 144 (hb hby at_137) ((if0 _ _).trans (flt hc137_28).2.2.2) (by decide) (by decide) ?_
      refine own_iconst X14 hx 145 rfl (0 : Int32) (hb hby at_144) (by decide) ?_
      refine own_istore X14 hx 147 rfl #[.val (.long x0), .second, .val (.int x1), .val (.int x2), .val (.int x3), .val (.int x4), .val (.int nn), .val (.long xx), .second, .val (.ref b2), .val (.long xx), .second, .val (.int (1 : Int32)), .val (.int (0 : Int32)), .unset, .unset, .unset, .unset, .unset, .unset] (hb hby at_145) rfl ?_
      refine own_iload X14 hx 149 rfl (hb hby at_147) rfl ?_
      refine own_ifY X14 hx 233 (hb hby at_149) ((if0 _ _).trans (teq ((by decide) : (0 : Int32) = (0 : Int32))).1) (by decide) (by decide) ?_
      refine own_iload X14 hx 235 rfl (hb hby at_233) rfl ?_
      by_cases hc235_61 : nn = (0 : Int32)
      · refine own_ifY X14 hx 259 (hb hby at_235) ((if0 _ _).trans (teq hc235_61).1) (by decide) (by decide) ?_
        refine Goes.go (X14.ldc2Long hx hown (mvT hZ (hw _ (List.mem_of_getElem? (i := 22) rfl))) (g := (mkF m 259 #[.val (.long x0), .second, .val (.int x1), .val (.int x2), .val (.int x3), .val (.int x4), .val (.int nn), .val (.long xx), .second, .val (.ref b2), .val (.long xx), .second, .val (.int (1 : Int32)), .val (.int (0 : Int32)), .unset, .unset, .unset, .unset, .unset, .unset] [])) rfl (hb hby at_259)) ?_
        show Goes p e below _ T14 (mkF m 262 #[.val (.long x0), .second, .val (.int x1), .val (.int x2), .val (.int x3), .val (.int x4), .val (.int nn), .val (.long xx), .second, .val (.ref b2), .val (.long xx), .second, .val (.int (1 : Int32)), .val (.int (0 : Int32)), .unset, .unset, .unset, .unset, .unset, .unset] [(.long (-1 : Int64))])
        refine own_lstore X14 hx 264 rfl #[.val (.long x0), .second, .val (.int x1), .val (.int x2), .val (.int x3), .val (.int x4), .val (.int nn), .val (.long xx), .second, .val (.ref b2), .val (.long xx), .second, .val (.int (1 : Int32)), .val (.int (0 : Int32)), .val (.long (-1 : Int64)), .second, .unset, .unset, .unset, .unset] (hb hby at_262) rfl ?_
        refine own_goto X14 hx 271 (hb hby at_264) (by decide) (by decide) ?_
        refine own_aload X14 hx 273 rfl (hb hby at_271) rfl rfl ?_
        obtain ⟨_, _, ⟨T62, L62, k62, n62⟩, -, X62, ⟨Lc62, hQ62, l62, y62, z62⟩, st62⟩ := Jvm.LawKit.callS X14 hx (y := (⟨"com/example/tallywire/tallywire/consumers/Command", "number", "([B)J"⟩ : MethodName)) hown (mvT hZ (hw _ (List.mem_of_getElem? (i := 23) rfl))) (mvT hZ (hw _ (List.mem_of_getElem? (i := 24) rfl))) (mvT hZ (hw _ (List.mem_of_getElem? (i := 25) rfl))) (mvT hZ (hw _ (List.mem_of_getElem? (i := 26) rfl))) (by decide) (backOf (W := 0) (rm3 l Z a0 hw [] b2 k2 nn (own_fill nn xx) T14.heap n0 Z14 V15 (own_fill_len nn xx) (own_nneg nn0)) hZ (hw _ (List.mem_of_getElem? (i := 26) rfl)) (hw _ (List.mem_of_getElem? (i := 25) rfl)) (by decide) (by decide)) (g := (mkF m 273 #[.val (.long x0), .second, .val (.int x1), .val (.int x2), .val (.int x3), .val (.int x4), .val (.int nn), .val (.long xx), .second, .val (.ref b2), .val (.long xx), .second, .val (.int (1 : Int32)), .val (.int (0 : Int32)), .val (.long (-1 : Int64)), .second, .unset, .unset, .unset, .unset] [(.ref b2)])) rfl (by rw [hml]; rfl) (argsL := [(.ref b2)]) (rest := []) (lenOf own_pd2 rfl) rfl (by show 2 * 0 + _ ≤ _; exact Nat.le_of_eq rfl) (hb hby at_273) (fun _ _ => ⟨rfl, rfl, (by decide : 13 + 0 ≤ _), (by decide : 155 + 0 ≤ _)⟩)
        dsimp only [Pt.U, Pt.locs, Pt.cells, Pt.slots] at X62 l62 y62 z62 st62 hQ62
        subst l62 y62 z62
        obtain ⟨nr_62, rfl, N62q, K62q, pr62_0⟩ := hQ62
        have N62 := Fr.app N14 N62q
        have f63 := V15.keep K62q nin0
        have K62 := K14.trans K62q all0
        have Z62 := Nat.le_trans Z14 K62q.1
        refine Goes.go st62 ?_
        show Goes p e below _ T62 (mkF m 276 #[.val (.long x0), .second, .val (.int x1), .val (.int x2), .val (.int x3), .val (.int x4), .val (.int nn), .val (.long xx), .second, .val (.ref b2), .val (.long xx), .second, .val (.int (1 : Int32)), .val (.int (0 : Int32)), .val (.long (-1 : Int64)), .second, .unset, .unset, .unset, .unset] [(.long nr_62)])
        refine own_lload X62 hx 278 rfl (hb hby at_276) rfl ?_
        refine own_lcmp X62 hx 279 rfl (hb hby at_278) ?_
        refine own_ifN X62 hx 282 (hb hby at_279) (Lteq ((pr62_0.trans (own_num0 (Or.inl hc235_61))) : nr_62 = (-1 : Int64))).2 rfl ?_
        refine own_iconst X62 hx 283 rfl (1 : Int32) (hb hby at_282) (by decide) ?_
        refine own_goto X62 hx 287 (hb hby at_283) (by decide) (by decide) ?_
        refine own_retZ X62 hx hlk Bd.returns (by decide) (hb hby at_287) (by decide) (by decide) rfl ?_
        exact ⟨rfl, N62⟩
      · refine own_ifN X14 hx 238 (hb hby at_235) ((if0 _ _).trans (feq hc235_61).1) rfl ?_
        refine own_iload X14 hx 240 rfl (hb hby at_238) rfl ?_
        refine own_bipush X14 hx 242 rfl (10 : Int32) (hb hby at_240) (by decide) ?_
        by_cases hc242_64 : (10 : Int32) < nn
        · refine own_icmpY X14 hx 259 (hb hby at_242) (tlt hc242_64).2.2.1 (by decide) (by decide) ?_
          refine Goes.go (X14.ldc2Long hx hown (mvT hZ (hw _ (List.mem_of_getElem? (i := 22) rfl))) (g := (mkF m 259 #[.val (.long x0), .second, .val (.int x1), .val (.int x2), .val (.int x3), .val (.int x4), .val (.int nn), .val (.long xx), .second, .val (.ref b2), .val (.long xx), .second, .val (.int (1 : Int32)), .val (.int (0 : Int32)), .unset, .unset, .unset, .unset, .unset, .unset] [])) rfl (hb hby at_259)) ?_
          show Goes p e below _ T14 (mkF m 262 #[.val (.long x0), .second, .val (.int x1), .val (.int x2), .val (.int x3), .val (.int x4), .val (.int nn), .val (.long xx), .second, .val (.ref b2), .val (.long xx), .second, .val (.int (1 : Int32)), .val (.int (0 : Int32)), .unset, .unset, .unset, .unset, .unset, .unset] [(.long (-1 : Int64))])
          refine own_lstore X14 hx 264 rfl #[.val (.long x0), .second, .val (.int x1), .val (.int x2), .val (.int x3), .val (.int x4), .val (.int nn), .val (.long xx), .second, .val (.ref b2), .val (.long xx), .second, .val (.int (1 : Int32)), .val (.int (0 : Int32)), .val (.long (-1 : Int64)), .second, .unset, .unset, .unset, .unset] (hb hby at_262) rfl ?_
          refine own_goto X14 hx 271 (hb hby at_264) (by decide) (by decide) ?_
          refine own_aload X14 hx 273 rfl (hb hby at_271) rfl rfl ?_
          obtain ⟨_, _, ⟨T65, L65, k65, n65⟩, -, X65, ⟨Lc65, hQ65, l65, y65, z65⟩, st65⟩ := Jvm.LawKit.callS X14 hx (y := (⟨"com/example/tallywire/tallywire/consumers/Command", "number", "([B)J"⟩ : MethodName)) hown (mvT hZ (hw _ (List.mem_of_getElem? (i := 23) rfl))) (mvT hZ (hw _ (List.mem_of_getElem? (i := 24) rfl))) (mvT hZ (hw _ (List.mem_of_getElem? (i := 25) rfl))) (mvT hZ (hw _ (List.mem_of_getElem? (i := 26) rfl))) (by decide) (backOf (W := 0) (rm3 l Z a0 hw [] b2 k2 nn (own_fill nn xx) T14.heap n0 Z14 V15 (own_fill_len nn xx) (own_nneg nn0)) hZ (hw _ (List.mem_of_getElem? (i := 26) rfl)) (hw _ (List.mem_of_getElem? (i := 25) rfl)) (by decide) (by decide)) (g := (mkF m 273 #[.val (.long x0), .second, .val (.int x1), .val (.int x2), .val (.int x3), .val (.int x4), .val (.int nn), .val (.long xx), .second, .val (.ref b2), .val (.long xx), .second, .val (.int (1 : Int32)), .val (.int (0 : Int32)), .val (.long (-1 : Int64)), .second, .unset, .unset, .unset, .unset] [(.ref b2)])) rfl (by rw [hml]; rfl) (argsL := [(.ref b2)]) (rest := []) (lenOf own_pd2 rfl) rfl (by show 2 * 0 + _ ≤ _; exact Nat.le_of_eq rfl) (hb hby at_273) (fun _ _ => ⟨rfl, rfl, (by decide : 13 + 0 ≤ _), (by decide : 155 + 0 ≤ _)⟩)
          dsimp only [Pt.U, Pt.locs, Pt.cells, Pt.slots] at X65 l65 y65 z65 st65 hQ65
          subst l65 y65 z65
          obtain ⟨nr_65, rfl, N65q, K65q, pr65_0⟩ := hQ65
          have N65 := Fr.app N14 N65q
          have f66 := V15.keep K65q nin0
          have K65 := K14.trans K65q all0
          have Z65 := Nat.le_trans Z14 K65q.1
          refine Goes.go st65 ?_
          show Goes p e below _ T65 (mkF m 276 #[.val (.long x0), .second, .val (.int x1), .val (.int x2), .val (.int x3), .val (.int x4), .val (.int nn), .val (.long xx), .second, .val (.ref b2), .val (.long xx), .second, .val (.int (1 : Int32)), .val (.int (0 : Int32)), .val (.long (-1 : Int64)), .second, .unset, .unset, .unset, .unset] [(.long nr_65)])
          refine own_lload X65 hx 278 rfl (hb hby at_276) rfl ?_
          refine own_lcmp X65 hx 279 rfl (hb hby at_278) ?_
          refine own_ifN X65 hx 282 (hb hby at_279) (Lteq ((pr65_0.trans (own_num0 (Or.inr hc242_64))) : nr_65 = (-1 : Int64))).2 rfl ?_
          refine own_iconst X65 hx 283 rfl (1 : Int32) (hb hby at_282) (by decide) ?_
          refine own_goto X65 hx 287 (hb hby at_283) (by decide) (by decide) ?_
          refine own_retZ X65 hx hlk Bd.returns (by decide) (hb hby at_287) (by decide) (by decide) rfl ?_
          exact ⟨rfl, N65⟩
        · refine own_icmpN X14 hx 245 (hb hby at_242) (flt hc242_64).2.2.1 rfl ?_
          refine own_iload X14 hx 247 rfl (hb hby at_245) rfl ?_
          refine own_ifN X14 hx 250 (hb hby at_247) ((if0 _ _).trans (feq ((by decide) : ¬ ((1 : Int32) = (0 : Int32)))).1) rfl ?_
          refine own_lload X14 hx 252 rfl (hb hby at_250) rfl ?_
          refine Goes.go (X14.ldc2Long hx hown (mvT hZ (hw _ (List.mem_of_getElem? (i := 30) rfl))) (g := (mkF m 252 #[.val (.long x0), .second, .val (.int x1), .val (.int x2), .val (.int x3), .val (.int x4), .val (.int nn), .val (.long xx), .second, .val (.ref b2), .val (.long xx), .second, .val (.int (1 : Int32)), .val (.int (0 : Int32)), .unset, .unset, .unset, .unset, .unset, .unset] [(.long xx)])) rfl (hb hby at_252)) ?_
          show Goes p e below _ T14 (mkF m 255 #[.val (.long x0), .second, .val (.int x1), .val (.int x2), .val (.int x3), .val (.int x4), .val (.int nn), .val (.long xx), .second, .val (.ref b2), .val (.long xx), .second, .val (.int (1 : Int32)), .val (.int (0 : Int32)), .unset, .unset, .unset, .unset, .unset, .unset] [(.long (4294967295 : Int64)), (.long xx)])
          refine own_lcmp X14 hx 256 rfl (hb hby at_255) ?_
          by_cases hc256_67 : (4294967295 : Int64) < xx
          · refine own_ifN X14 hx 259 (hb hby at_256) (Ltlt hc256_67).2.2.2 rfl ?_
            refine Goes.go (X14.ldc2Long hx hown (mvT hZ (hw _ (List.mem_of_getElem? (i := 22) rfl))) (g := (mkF m 259 #[.val (.long x0), .second, .val (.int x1), .val (.int x2), .val (.int x3), .val (.int x4), .val (.int nn), .val (.long xx), .second, .val (.ref b2), .val (.long xx), .second, .val (.int (1 : Int32)), .val (.int (0 : Int32)), .unset, .unset, .unset, .unset, .unset, .unset] [])) rfl (hb hby at_259)) ?_
            show Goes p e below _ T14 (mkF m 262 #[.val (.long x0), .second, .val (.int x1), .val (.int x2), .val (.int x3), .val (.int x4), .val (.int nn), .val (.long xx), .second, .val (.ref b2), .val (.long xx), .second, .val (.int (1 : Int32)), .val (.int (0 : Int32)), .unset, .unset, .unset, .unset, .unset, .unset] [(.long (-1 : Int64))])
            refine own_lstore X14 hx 264 rfl #[.val (.long x0), .second, .val (.int x1), .val (.int x2), .val (.int x3), .val (.int x4), .val (.int nn), .val (.long xx), .second, .val (.ref b2), .val (.long xx), .second, .val (.int (1 : Int32)), .val (.int (0 : Int32)), .val (.long (-1 : Int64)), .second, .unset, .unset, .unset, .unset] (hb hby at_262) rfl ?_
            refine own_goto X14 hx 271 (hb hby at_264) (by decide) (by decide) ?_
            refine own_aload X14 hx 273 rfl (hb hby at_271) rfl rfl ?_
            obtain ⟨_, _, ⟨T68, L68, k68, n68⟩, -, X68, ⟨Lc68, hQ68, l68, y68, z68⟩, st68⟩ := Jvm.LawKit.callS X14 hx (y := (⟨"com/example/tallywire/tallywire/consumers/Command", "number", "([B)J"⟩ : MethodName)) hown (mvT hZ (hw _ (List.mem_of_getElem? (i := 23) rfl))) (mvT hZ (hw _ (List.mem_of_getElem? (i := 24) rfl))) (mvT hZ (hw _ (List.mem_of_getElem? (i := 25) rfl))) (mvT hZ (hw _ (List.mem_of_getElem? (i := 26) rfl))) (by decide) (backOf (W := 0) (rm3 l Z a0 hw [] b2 k2 nn (own_fill nn xx) T14.heap n0 Z14 V15 (own_fill_len nn xx) (own_nneg nn0)) hZ (hw _ (List.mem_of_getElem? (i := 26) rfl)) (hw _ (List.mem_of_getElem? (i := 25) rfl)) (by decide) (by decide)) (g := (mkF m 273 #[.val (.long x0), .second, .val (.int x1), .val (.int x2), .val (.int x3), .val (.int x4), .val (.int nn), .val (.long xx), .second, .val (.ref b2), .val (.long xx), .second, .val (.int (1 : Int32)), .val (.int (0 : Int32)), .val (.long (-1 : Int64)), .second, .unset, .unset, .unset, .unset] [(.ref b2)])) rfl (by rw [hml]; rfl) (argsL := [(.ref b2)]) (rest := []) (lenOf own_pd2 rfl) rfl (by show 2 * 0 + _ ≤ _; exact Nat.le_of_eq rfl) (hb hby at_273) (fun _ _ => ⟨rfl, rfl, (by decide : 13 + 0 ≤ _), (by decide : 155 + 0 ≤ _)⟩)
            dsimp only [Pt.U, Pt.locs, Pt.cells, Pt.slots] at X68 l68 y68 z68 st68 hQ68
            subst l68 y68 z68
            obtain ⟨nr_68, rfl, N68q, K68q, pr68_0⟩ := hQ68
            have N68 := Fr.app N14 N68q
            have f69 := V15.keep K68q nin0
            have K68 := K14.trans K68q all0
            have Z68 := Nat.le_trans Z14 K68q.1
            refine Goes.go st68 ?_
            show Goes p e below _ T68 (mkF m 276 #[.val (.long x0), .second, .val (.int x1), .val (.int x2), .val (.int x3), .val (.int x4), .val (.int nn), .val (.long xx), .second, .val (.ref b2), .val (.long xx), .second, .val (.int (1 : Int32)), .val (.int (0 : Int32)), .val (.long (-1 : Int64)), .second, .unset, .unset, .unset, .unset] [(.long nr_68)])
            refine own_lload X68 hx 278 rfl (hb hby at_276) rfl ?_
            refine own_lcmp X68 hx 279 rfl (hb hby at_278) ?_
            refine own_ifN X68 hx 282 (hb hby at_279) (Lteq ((pr68_0.trans ((own_lawA h_nn h_xx hc235_61 hc242_64).1 hc256_67)) : nr_68 = (-1 : Int64))).2 rfl ?_
            refine own_iconst X68 hx 283 rfl (1 : Int32) (hb hby at_282) (by decide) ?_
            refine own_goto X68 hx 287 (hb hby at_283) (by decide) (by decide) ?_
            refine own_retZ X68 hx hlk Bd.returns (by decide) (hb hby at_287) (by decide) (by decide) rfl ?_
            exact ⟨rfl, N68⟩
          · refine own_ifY X14 hx 267 (hb hby at_256) (Lflt hc256_67).2.2.2 (by decide) (by decide) ?_
            refine own_lload X14 hx 269 rfl (hb hby at_267) rfl ?_
            refine own_lstore X14 hx 271 rfl #[.val (.long x0), .second, .val (.int x1), .val (.int x2), .val (.int x3), .val (.int x4), .val (.int nn), .val (.long xx), .second, .val (.ref b2), .val (.long xx), .second, .val (.int (1 : Int32)), .val (.int (0 : Int32)), .val (.long xx), .second, .unset, .unset, .unset, .unset] (hb hby at_269) rfl ?_
            refine own_aload X14 hx 273 rfl (hb hby at_271) rfl rfl ?_
            obtain ⟨_, _, ⟨T70, L70, k70, n70⟩, -, X70, ⟨Lc70, hQ70, l70, y70, z70⟩, st70⟩ := Jvm.LawKit.callS X14 hx (y := (⟨"com/example/tallywire/tallywire/consumers/Command", "number", "([B)J"⟩ : MethodName)) hown (mvT hZ (hw _ (List.mem_of_getElem? (i := 23) rfl))) (mvT hZ (hw _ (List.mem_of_getElem? (i := 24) rfl))) (mvT hZ (hw _ (List.mem_of_getElem? (i := 25) rfl))) (mvT hZ (hw _ (List.mem_of_getElem? (i := 26) rfl))) (by decide) (backOf (W := 0) (rm3 l Z a0 hw [] b2 k2 nn (own_fill nn xx) T14.heap n0 Z14 V15 (own_fill_len nn xx) (own_nneg nn0)) hZ (hw _ (List.mem_of_getElem? (i := 26) rfl)) (hw _ (List.mem_of_getElem? (i := 25) rfl)) (by decide) (by decide)) (g := (mkF m 273 #[.val (.long x0), .second, .val (.int x1), .val (.int x2), .val (.int x3), .val (.int x4), .val (.int nn), .val (.long xx), .second, .val (.ref b2), .val (.long xx), .second, .val (.int (1 : Int32)), .val (.int (0 : Int32)), .val (.long xx), .second, .unset, .unset, .unset, .unset] [(.ref b2)])) rfl (by rw [hml]; rfl) (argsL := [(.ref b2)]) (rest := []) (lenOf own_pd2 rfl) rfl (by show 2 * 0 + _ ≤ _; exact Nat.le_of_eq rfl) (hb hby at_273) (fun _ _ => ⟨rfl, rfl, (by decide : 13 + 0 ≤ _), (by decide : 155 + 0 ≤ _)⟩)
            dsimp only [Pt.U, Pt.locs, Pt.cells, Pt.slots] at X70 l70 y70 z70 st70 hQ70
            subst l70 y70 z70
            obtain ⟨nr_70, rfl, N70q, K70q, pr70_0⟩ := hQ70
            have N70 := Fr.app N14 N70q
            have f71 := V15.keep K70q nin0
            have K70 := K14.trans K70q all0
            have Z70 := Nat.le_trans Z14 K70q.1
            refine Goes.go st70 ?_
            show Goes p e below _ T70 (mkF m 276 #[.val (.long x0), .second, .val (.int x1), .val (.int x2), .val (.int x3), .val (.int x4), .val (.int nn), .val (.long xx), .second, .val (.ref b2), .val (.long xx), .second, .val (.int (1 : Int32)), .val (.int (0 : Int32)), .val (.long xx), .second, .unset, .unset, .unset, .unset] [(.long nr_70)])
            refine own_lload X70 hx 278 rfl (hb hby at_276) rfl ?_
            refine own_lcmp X70 hx 279 rfl (hb hby at_278) ?_
            refine own_ifN X70 hx 282 (hb hby at_279) (Lteq ((pr70_0.trans ((own_lawA h_nn h_xx hc235_61 hc242_64).2 hc256_67)) : nr_70 = xx)).2 rfl ?_
            refine own_iconst X70 hx 283 rfl (1 : Int32) (hb hby at_282) (by decide) ?_
            refine own_goto X70 hx 287 (hb hby at_283) (by decide) (by decide) ?_
            refine own_retZ X70 hx hlk Bd.returns (by decide) (hb hby at_287) (by decide) (by decide) rfl ?_
            exact ⟨rfl, N70⟩
set_option maxRecDepth 65536 in
set_option maxHeartbeats 40000000 in
theorem comes_1 {Post : Tables → Env → Array Value → State → Outcome → State → Prop} (hpost : ∀ tb e args s v u, (limb_1_1.after args s (.returned v) u = true ∧ limb_1_2.after args s (.returned v) u = true ∧ True) → FrameEnd s (.returned v) u (Jvm.fieldLocs frame_1_writes args s ++ Jvm.arrayLocs frame_1_arrays args s ++ Jvm.staticLocs frame_1_statics s) 40 448 → Post tb e args s (.returned v) u) :
    ArmFor flags0 classFile x code maxLocals ret World_1 tables_1 room_1 Calls_1 rest_1 Pre_1 Post := by
  intro l hfl _ _ p e ha hc hk s m args below hf hA hF happ hP
  obtain ⟨hcalls, hrest, hpre⟩ := hP
  obtain ⟨-, -, -, hnamed, -, -, -, hat⟩ := (Spec.applies_iff hf).mp happ
  obtain ⟨hg, hn⟩ := and_e (Cond.before_iff.mp (show (Jvm.Cond.and given_1 narrow_1).before args s = true from hpre))
  obtain ⟨gg1, gg2⟩ := and_e hg
  obtain ⟨gg3, gg4⟩ := and_e gg2
  obtain ⟨gg5, gg6⟩ := and_e gg4
  obtain ⟨gg7, gg8⟩ := and_e gg6
  obtain ⟨gg9, gg10⟩ := and_e gg8
  obtain ⟨w0, w1, w2, w3, w4, rfl⟩ : ∃ w0 w1 w2 w3 w4 : Value, args = #[w0, w1, w2, w3, w4] := by
    have hs : args.size = 5 := by simpa [Cond.value, given_1] using gg1
    obtain ⟨L⟩ := args
    match L, hs with
    | [w0, w1, w2, w3, w4], _ => exact ⟨w0, w1, w2, w3, w4, rfl⟩
  have hw := fun d (hd : d ∈ tables_1) => atoms_spec (ws := Jvm.Cond.code x code maxLocals ret :: tables_1) hat d (List.mem_cons_of_mem _ hd)
  have hfit : Fit s := fun {y c} hc i hi => by
    obtain ⟨ha, rfl⟩ := Array.getElem?_eq_some_iff.mp hc
    have q := List.all_eq_true.mp ((Array.all_eq_true_iff_forall_mem.mp hF) _ (Array.getElem_mem ha)) i (List.mem_range.mpr hi)
    simpa [Array.getElem?_eq_getElem hi] using q
  obtain ⟨i0, ei0⟩ := isL_v gg3
  obtain rfl : w0 = (.long i0) := Option.some.inj ei0
  obtain ⟨i1, ei1⟩ := is_v gg5
  obtain rfl : w1 = (.int i1) := Option.some.inj ei1
  obtain ⟨i2, ei2⟩ := is_v gg7
  obtain rfl : w2 = (.int i2) := Option.some.inj ei2
  obtain ⟨i3, ei3⟩ := is_v gg9
  obtain rfl : w3 = (.int i3) := Option.some.inj ei3
  obtain ⟨i4, ei4⟩ := is_v gg10
  obtain rfl : w4 = (.int i4) := Option.some.inj ei4
  obtain ⟨n, o, h1, h2, h3, _, L, rfl, ⟨rfl, N⟩, hq⟩ := rm0 l s _ hw tables_1 i0 i1 i2 i3 i4  s.heap s.heap.size (Nat.le_refl _)  p e ha hc hk s m _ below hf ((Spec.applies_iff_loose hf).mp happ).1 ⟨rfl, State.Warmed39.refl s, rfl⟩ trivial
  refine ⟨n, _, h1, h2, h3, hpost _ _ _ _ _ _ ⟨Cond.after_iff.mpr rfl, Cond.after_iff.mpr (eq_i res_at (Term.int_eval (1)) rfl), trivial⟩ ⟨hq.1, hq.2.1, (hq.2.2.sift fun y hy => Or.inr (N y hy)).mono (by decide) (by decide)⟩⟩
theorem main_1_1 : Claimed_1_1 := comes_1 fun _ _ _ _ _ _ h hF => ⟨h.1, hF⟩
theorem main_1_2 : Claimed_1_2 := comes_1 fun _ _ _ _ _ _ h hF => ⟨h.2.1, hF⟩
end Jvm.Pilot.@@N@@
namespace Jvm.Pilot.@@N@@
open Jvm Jvm.ClassFile Sem Op Lib Jvm.Free Jvm.Stand Jvm.Pilot.@@N@@.Jvm.D
/-! MADE BY PROGRAM (witnessworld.py) out of the Statement's table words and the real class files: 11 classes; the members and pool entries that the words name. The judged class is class 1, her method 3. -/
namespace start1
open Jvm.ClassFile
def u (s : String) : CpInfo := .utf8 (stringToUtf16 s)
/-- a pool by its gaps: so many unusable entries, then the entry; so many at the end -/
def gap : Nat → List CpInfo → List CpInfo
  | 0, r => r
  | n + 1, r => .unusable :: gap n r
def poolList (es : List (Nat × CpInfo)) (last : Nat) : List CpInfo := es.foldr (fun e r => gap e.1 (e.2 :: r)) (gap last [])
def pool (es : List (Nat × CpInfo)) (last : Nat) : Array CpInfo := ⟨poolList es last⟩
def fileOf (pool : Array CpInfo) (this : Nat) (attrs : Array Attribute := #[]) (ms : Array MethodInfo := #[]) (fl : Nat := 33) (sup : Nat := 0) (ifs : Array Nat := #[]) (fds : Array FieldInfo := #[]) : ClassFile where
  minorVersion := 0
  majorVersion := 65
  constantPool := pool
  accessFlags := fl
  thisClass := this
  superClass := sup
  interfaces := ifs
  fields := fds
  methods := ms
  attributes := attrs
def plain (name : String) (sup : Option ClassId) : Class where
  name := name
  kind := .ordinary
  loader := none
  accessFlags := 33
  super := sup
  interfaces := #[]
  cf := none
  fields := #[]
  methods := #[]
  instanceTypes := #[]
  staticTypes := #[]
  resolved := #[]
  callSites := []
  init := .initialized
  statics := none
  mirror := none

def pool0 : Array CpInfo := pool [(5, u "<init>"), (0, u "()V"), (1, .class_ 10), (1, u "java/lang/Object")] 113

def k0m0 : Method := { name := "<init>", desc := "()V", sig := { parameters := [], returnType := none }, accessFlags := 1, code := none }
/-- java/lang/Object -/
def k0 : Class := { plain "java/lang/Object" none with
  accessFlags := 33
  interfaces := #[]
  cf := some (fileOf pool0 8 #[] #[{ accessFlags := 1, nameIndex := 5, descriptorIndex := 6, attributes := #[] }] 33 0 #[] #[])
  fields := #[]
  methods := #[k0m0]
  instanceTypes := #[]
  staticTypes := #[]
  resolved := Array.replicate 124 none
  statics := none }

def pool1 : Array CpInfo := pool [(2, .class_ 4), (1, u "java/lang/Object"), (0, u "<init>"), (0, u "()V"), (0, .long 10), (1, .long 100), (1, .long 1000), (1, .long 10000), (1, .long 100000), (1, .long 1000000), (1, .long 10000000), (1, .long 100000000), (1, .long 1000000000), (1, .long 10000000000), (1, .long 100000000000), (1, .long 48), (1, .methodref 32 33), (0, .class_ 34), (0, .nameAndType 35 36), (0, u "com/example/tallywire/tallywire/consumers/CommandNumberPinLaw"), (0, u "pow10"), (0, u "(I)J"), (2, .long 9223372036854775807), (1, .methodref 32 42), (0, .nameAndType 43 44), (0, u "put"), (0, u "([BJI)V"), (0, .long 4294967295), (1, .long 18446744073709551615), (1, .methodref 50 51), (0, .class_ 52), (0, .nameAndType 53 54), (0, u "com/example/tallywire/tallywire/consumers/Command"), (0, u "number"), (0, u "([B)J"), (3, u "law"), (0, u "(JIIII)Z")] 4

def k1m0 : Method := { name := "<init>", desc := "()V", sig := { parameters := [], returnType := none }, accessFlags := 1, code := none }
def k1c1 : Code := { maxStack := 5, maxLocals := 2, code := method_2_code, exceptionTable := #[], attributes := #[] }
def k1m1 : Method := { name := "pow10", desc := "(I)J", sig := { parameters := [.int], returnType := some .long }, accessFlags := 10, code := some k1c1 }
def k1c2 : Code := { maxStack := 8, maxLocals := 5, code := method_3_code, exceptionTable := #[], attributes := #[] }
def k1m2 : Method := { name := "put", desc := "([BJI)V", sig := { parameters := [(.array .byte), .long, .int], returnType := none }, accessFlags := 10, code := some k1c2 }
def k1c3 : Code := { maxStack := 6, maxLocals := 20, code := code, exceptionTable := #[], attributes := #[] }
def k1m3 : Method := { name := "law", desc := "(JIIII)Z", sig := { parameters := [.long, .int, .int, .int, .int], returnType := some .boolean }, accessFlags := 9, code := some k1c3 }
/-- com/example/tallywire/tallywire/consumers/CommandNumberPinLaw -/
def k1 : Class := { plain "com/example/tallywire/tallywire/consumers/CommandNumberPinLaw" (some 0) with
  accessFlags := 49
  interfaces := #[]
  cf := some (fileOf pool1 32 #[] #[{ accessFlags := 1, nameIndex := 5, descriptorIndex := 6, attributes := #[] }, { accessFlags := 10, nameIndex := 35, descriptorIndex := 36, attributes := #[] }, { accessFlags := 10, nameIndex := 43, descriptorIndex := 44, attributes := #[] }, { accessFlags := 9, nameIndex := 58, descriptorIndex := 59, attributes := #[] }] 49 2 #[] #[])
  fields := #[]
  methods := #[k1m0, k1m1, k1m2, k1m3]
  instanceTypes := #[]
  staticTypes := #[]
  resolved := Array.replicate 64 none
  statics := none }

def pool2 : Array CpInfo := pool [(2, .class_ 4), (1, u "java/lang/Object"), (3, .class_ 10), (1, u "com/example/tallywire/tallywire/consumers/Command"), (0, u "seq"), (0, u "J"), (2, u "verb"), (0, u "Ljava/lang/String;"), (2, u "arguments"), (0, u "Ljava/util/List;"), (2, u "wellFormed"), (0, u "Z"), (30, u "number"), (0, u "([B)J"), (70, .long 18446744073709551615), (1, .long 10), (1, .long 48), (1, .long 4294967295), (2, u "MAX_NUMBER"), (1, u "SPACE"), (0, u "B"), (1, u "PERCENT"), (1, u "MAX_DIGITS"), (0, u "I")] 19

def k2c0 : Code := { maxStack := 4, maxLocals := 7, code := prog_11_method_5_code, exceptionTable := #[], attributes := #[] }
def k2m0 : Method := { name := "number", desc := "([B)J", sig := { parameters := [(.array .byte)], returnType := some .long }, accessFlags := 8, code := some k2c0 }
/-- com/example/tallywire/tallywire/consumers/Command -/
def k2 : Class := { plain "com/example/tallywire/tallywire/consumers/Command" (some 0) with
  accessFlags := 48
  interfaces := #[]
  cf := some (fileOf pool2 8 #[] #[{ accessFlags := 8, nameIndex := 55, descriptorIndex := 56, attributes := #[] }] 48 2 #[] #[{ accessFlags := 24, nameIndex := 136, descriptorIndex := 12, attributes := #[] }, { accessFlags := 26, nameIndex := 138, descriptorIndex := 139, attributes := #[] }, { accessFlags := 26, nameIndex := 141, descriptorIndex := 139, attributes := #[] }, { accessFlags := 26, nameIndex := 143, descriptorIndex := 144, attributes := #[] }, { accessFlags := 18, nameIndex := 11, descriptorIndex := 12, attributes := #[] }, { accessFlags := 18, nameIndex := 15, descriptorIndex := 16, attributes := #[] }, { accessFlags := 18, nameIndex := 19, descriptorIndex := 20, attributes := #[] }, { accessFlags := 18, nameIndex := 23, descriptorIndex := 24, attributes := #[] }])
  fields := #[{ name := "MAX_NUMBER", type := .long, accessFlags := 24, slot := 0, constantValue := 0 }, { name := "SPACE", type := .byte, accessFlags := 26, slot := 1, constantValue := 0 }, { name := "PERCENT", type := .byte, accessFlags := 26, slot := 2, constantValue := 0 }, { name := "MAX_DIGITS", type := .int, accessFlags := 26, slot := 3, constantValue := 0 }, { name := "seq", type := .long, accessFlags := 18, slot := 0, constantValue := 0 }, { name := "verb", type := (.object "java/lang/String"), accessFlags := 18, slot := 1, constantValue := 0 }, { name := "arguments", type := (.object "java/util/List"), accessFlags := 18, slot := 2, constantValue := 0 }, { name := "wellFormed", type := .boolean, accessFlags := 18, slot := 3, constantValue := 0 }]
  methods := #[k2m0]
  instanceTypes := #[.long, (.object "java/lang/String"), (.object "java/util/List"), .boolean]
  staticTypes := #[.long, .byte, .byte, .int]
  resolved := Array.replicate 164 none
  statics := none }

def pool3 : Array CpInfo := pool [(1, u "java/lang/Cloneable"), (0, .class_ 1), (0, u "java/lang/Object"), (0, .class_ 3)] 3

/-- java/lang/Cloneable -/
def k3 : Class := { plain "java/lang/Cloneable" (some 0) with
  accessFlags := 1537
  interfaces := #[]
  cf := some (fileOf pool3 2 #[] #[] 1537 4 #[] #[])
  fields := #[]
  methods := #[]
  instanceTypes := #[]
  staticTypes := #[]
  resolved := Array.replicate 8 none
  statics := none }

def pool4 : Array CpInfo := pool [(1, u "java/io/Serializable"), (0, .class_ 1), (0, u "java/lang/Object"), (0, .class_ 3)] 3

/-- java/io/Serializable -/
def k4 : Class := { plain "java/io/Serializable" (some 0) with
  accessFlags := 1537
  interfaces := #[]
  cf := some (fileOf pool4 2 #[] #[] 1537 4 #[] #[])
  fields := #[]
  methods := #[]
  instanceTypes := #[]
  staticTypes := #[]
  resolved := Array.replicate 8 none
  statics := none }

/-- the primitive byte -/
def k5 : Class := { plain "byte" none with kind := .primitive 'B', accessFlags := 0x411 }
/-- [B -/
def k6 : Class := { plain "[B" (some 0) with kind := .array 5 .byte, interfaces := #[3, 4], accessFlags := 1041 }

/-- the primitive int -/
def k7 : Class := { plain "int" none with kind := .primitive 'I', accessFlags := 0x411 }
/-- [I -/
def k8 : Class := { plain "[I" (some 0) with kind := .array 7 .int, interfaces := #[3, 4], accessFlags := 1041 }

/-- the primitive long -/
def k9 : Class := { plain "long" none with kind := .primitive 'J', accessFlags := 0x411 }
/-- [J -/
def k10 : Class := { plain "[J" (some 0) with kind := .array 9 .long, interfaces := #[3, 4], accessFlags := 1041 }

def heap : Heap := #[]
def classes : Array Class := #[k0, k1, k2, k3, k4, k5, k6, k7, k8, k9, k10]
def interned : List (Array UInt16 × Addr) := []
def slotsUsed : Nat := 0
def theMethod : MethodId := ⟨1, 3⟩
def args0 : Array Value := #[.long 7, .int 2, .int 3, .int 4, .int 5]
def aboutOver (below : List Frame) : State where
  vm := { classes := classes, interned := interned.toArray }
  heap := heap
  slotsUsed := slotsUsed
  threads := #[{ frames := .invoking theMethod args0 :: below }]
def below0 : List Frame := [.native { method := ⟨0, 0⟩, args := #[] }]
def about1 : State := aboutOver below0
def p0 : Program := .bare "" "" ""
def e0 : Env := launch0.env 0 0 0
theorem w_frames : about1.frames = Frame.invoking theMethod args0 :: below0 := rfl
set_option maxRecDepth 65536 in
theorem w_args : argsFit about1.vm theMethod args0 = true := by decide +kernel
set_option maxRecDepth 65536 in
theorem w_heap : heapFits about1 = true := by decide +kernel
set_option maxRecDepth 65536 in
theorem w_runnable : about1.curStatus? = some .runnable := by decide +kernel
set_option maxRecDepth 65536 in
theorem w_alone : about1.alone = true := by decide +kernel
set_option maxRecDepth 65536 in
theorem w_named : about1.methodNamed? x = some theMethod := by decide +kernel
set_option maxRecDepth 65536 in
theorem w_hears : about1.hears theMethod below0 = true := by decide +kernel
set_option maxRecDepth 65536 in
theorem w_ripe : about1.ripe theMethod args0 below0 = true := by decide +kernel
theorem w_running : about1.status = .running := rfl
set_option maxRecDepth 65536 in
theorem w_room : about1.hasRoom e0.platform room_1 = true :=
  launch0.hasRoom_least _ room_1 (by decide +kernel) (by decide +kernel) (by decide +kernel) (by decide +kernel) (by decide +kernel) (by decide +kernel)
theorem allAtoms_all (ts : List Jvm.Cond) (a : Array Jvm.Value) (st : Jvm.State) : (allAtoms ts).before a st = ts.all (fun c => c.before a st) := by
  induction ts with
  | nil => rfl
  | cons c t ih =>
    show (Jvm.Cond.and c (allAtoms t)).before a st = _
    rw [Jvm.Cond.before_and, ih, List.all_cons]
def words1 : List Jvm.Cond := Jvm.Cond.code x code maxLocals ret :: tables_1
/-- a 'code' word, met by the world's own term for the bytes: nothing is compared byte by byte -/
theorem code_word {y : MethodName} {bytes : ByteArray} {mx : Nat} {rt : Option FieldType} {a : Array Value} {s : State} {m : MethodId} {meth : Method} {c : Code} (h1 : s.methodNamed? y = some m) (h2 : s.vm.method? m = some meth) (h3 : meth.code = some c) (h4 : c.code = bytes)
    (h5 : (c.maxLocals == mx && c.exceptionTable.isEmpty && decide (c.maxStack ≤ mostOperands) && decide (meth.sig.returnType = rt) && !meth.locks && decide (parseMethodDescriptor y.desc = some meth.sig)) = true) : (Jvm.Cond.code y bytes mx rt).before a s = true := by
  simp only [Bool.and_eq_true, beq_iff_eq, Bool.not_eq_true', decide_eq_true_eq] at h5
  obtain ⟨⟨⟨⟨⟨g1, g2⟩, g3⟩, g4⟩, g5⟩, g6⟩ := h5
  simp [Cond.before, Cond.holds, Cond.value, h1, h2, h3, h4, g1, g2, g3, g4, g5, g6]
def isCode : Jvm.Cond → Bool
  | .code _ _ _ _ => true
  | _ => false
theorem all_split {L : List Jvm.Cond} {P : Jvm.Cond → Bool} (h1 : L.all (fun c => isCode c || P c) = true) (h2 : ∀ c ∈ L.filter isCode, P c = true) : L.all P = true := by
  refine List.all_eq_true.mpr fun c hc => ?_
  have h := List.all_eq_true.mp h1 c hc
  rcases Bool.eq_false_or_eq_true (isCode c) with hi | hi
  · exact h2 c (List.mem_filter.mpr ⟨hc, hi⟩)
  · simpa [hi] using h
set_option maxRecDepth 65536 in
theorem w_c0 : (Jvm.Cond.code x code maxLocals ret).before args0 about1 = true := code_word (m := ⟨1, 3⟩) (meth := k1m3) (c := k1c3) (by decide +kernel) rfl rfl rfl (by decide +kernel)
set_option maxRecDepth 65536 in
theorem w_c1 : (Jvm.Cond.code ({ cls := "com/example/tallywire/tallywire/consumers/CommandNumberPinLaw", name := "pow10", desc := "(I)J" } : Jvm.MethodName) method_2_code (2 : Nat) (Option.some Jvm.ClassFile.FieldType.long)).before args0 about1 = true := code_word (m := ⟨1, 1⟩) (meth := k1m1) (c := k1c1) (by decide +kernel) rfl rfl rfl (by decide +kernel)
set_option maxRecDepth 65536 in
theorem w_c2 : (Jvm.Cond.code ({ cls := "com/example/tallywire/tallywire/consumers/CommandNumberPinLaw", name := "put", desc := "([BJI)V" } : Jvm.MethodName) method_3_code (5 : Nat) (Option.none : Option Jvm.ClassFile.FieldType)).before args0 about1 = true := code_word (m := ⟨1, 2⟩) (meth := k1m2) (c := k1c2) (by decide +kernel) rfl rfl rfl (by decide +kernel)
set_option maxRecDepth 65536 in
theorem w_c3 : (Jvm.Cond.code ({ cls := "com/example/tallywire/tallywire/consumers/Command", name := "number", desc := "([B)J" } : Jvm.MethodName) prog_11_method_5_code (7 : Nat) (Option.some Jvm.ClassFile.FieldType.long)).before args0 about1 = true := code_word (m := ⟨2, 0⟩) (meth := k2m0) (c := k2c0) (by decide +kernel) rfl rfl rfl (by decide +kernel)
def codes1 : List Jvm.Cond := [Jvm.Cond.code x code maxLocals ret, Jvm.Cond.code ({ cls := "com/example/tallywire/tallywire/consumers/CommandNumberPinLaw", name := "pow10", desc := "(I)J" } : Jvm.MethodName) method_2_code (2 : Nat) (Option.some Jvm.ClassFile.FieldType.long), Jvm.Cond.code ({ cls := "com/example/tallywire/tallywire/consumers/CommandNumberPinLaw", name := "put", desc := "([BJI)V" } : Jvm.MethodName) method_3_code (5 : Nat) (Option.none : Option Jvm.ClassFile.FieldType), Jvm.Cond.code ({ cls := "com/example/tallywire/tallywire/consumers/Command", name := "number", desc := "([B)J" } : Jvm.MethodName) prog_11_method_5_code (7 : Nat) (Option.some Jvm.ClassFile.FieldType.long)]
set_option maxRecDepth 65536 in
theorem codes_eq : words1.filter isCode = codes1 := rfl
theorem w_codes : ∀ c ∈ words1.filter isCode, c.before args0 about1 = true := by
  rw [codes_eq]
  intro c hc
  simp only [codes1, List.mem_cons, List.not_mem_nil, or_false] at hc
  rcases hc with rfl | rfl | rfl | rfl
  · exact w_c0
  · exact w_c1
  · exact w_c2
  · exact w_c3
set_option maxRecDepth 65536 in
theorem w_t1 : (words1.take 24).all (fun c => isCode c || c.before args0 about1) = true := by decide +kernel
set_option maxRecDepth 65536 in
theorem w_t2 : (words1.drop 24).all (fun c => isCode c || c.before args0 about1) = true := by decide +kernel
theorem w_tables : (allAtoms (Jvm.Cond.code x code maxLocals ret :: tables_1)).before args0 about1 = true := by
  rw [allAtoms_all]
  show words1.all (fun c => c.before args0 about1) = true
  refine all_split ?_ w_codes
  rw [← List.take_append_drop 24 words1, List.all_append, w_t1, w_t2]
  rfl
set_option maxRecDepth 65536 in
theorem w_case : (Jvm.Cond.and given_1 narrow_1).before args0 about1 = true := by decide +kernel
theorem w_applies : (headSpec (Jvm.Cond.code x code maxLocals ret :: tables_1) room_1).applies x e0.platform about1 = true :=
  (Spec.applies_iff w_frames).mpr ⟨w_running, w_runnable, w_alone, w_named, w_hears, w_ripe, w_room, w_tables⟩
theorem atStart : AtStart classFile x code maxLocals ret World_1 tables_1 room_1 Calls_1 rest_1 Pre_1 launch0 p0 e0 about1 theMethod args0 below0 :=
  ⟨lists_1, trivial, launch0.admits_env _ _ _, launch0.least_env, fairChoices_fair.cas, fairChoices_fair.clock, w_frames, w_args, w_heap, w_applies, trivial, trivial, w_case⟩
end start1
theorem witness_1 : WitnessClaimed_1 := ⟨start1.p0, start1.e0, start1.about1, start1.theMethod, start1.args0, start1.below0, start1.atStart⟩
end Jvm.Pilot.@@N@@
