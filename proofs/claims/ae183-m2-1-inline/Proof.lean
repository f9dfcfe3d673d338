import JvmDerived
import JvmDerived.Pilot.@@N@@Statement
import JvmDerived.Pilot.@@N@@Code
@@BLOCK:TracedD.lean.txt@@
set_option linter.unusedVariables false
set_option linter.unusedSimpArgs false
namespace Jvm.Pilot.@@N@@
open Jvm Jvm.ClassFile Sem Op Lib Jvm.Free Jvm.Stand Jvm.LawKit Jvm.RoadKit Bundle Jvm.Pilot.@@N@@.Jvm.D
section Own
variable {p : Program} {l : Launch} {e : Env} {R : Room} {s : State} {m : MethodId} {args : Array Value} {below : List Frame} {meth : Method} {c : Code} {T : State} {locs : List Loc} {cells slots : Nat} {C S : Nat} {Q : Option Value → Heap → List Loc → Prop} {P : Outcome → State → Prop}
/-- from the state T with the frame g on top the run comes to the method's end, and P holds there -/
def Goes (p : Program) (e : Env) (below : List Frame) (P : Outcome → State → Prop) (T : State) (g : JFrame) : Prop :=
  ∃ s₂ o, Steps p.tables e below (T.setTop g) s₂ ∧ s₂.status = .running ∧ Ended s₂ below o ∧ P o s₂
/-- it returned, Q holds, the frame's bounds are kept -/
def Done (s : State) (C S : Nat) (Q : Option Value → Heap → List Loc → Prop) (o : Outcome) (U : State) : Prop := ∃ v L, o = .returned v ∧ Q v U.heap L ∧ FrameEnd s o U L C S
/-- .. where a String's constant may have been linked -/
def DoneW (s : State) (C S : Nat) (Q : Option Value → Heap → List Loc → Prop) (o : Outcome) (U : State) : Prop := ∃ v L, o = .returned v ∧ Q v U.heap L ∧ ReturnedEndW s o U L C S
theorem Goes.go {T' : State} {g g' : JFrame} (st : ∀ t, Steps p.tables e below (T'.setTop g') t → Steps p.tables e below (T.setTop g) t) (h : Goes p e below P T' g') : Goes p e below P T g := by
  obtain ⟨s₂, o, h1, h2⟩ := h; exact ⟨s₂, o, st _ h1, h2⟩
theorem Goes.tr {T' : State} {g g' : JFrame} (st : Steps p.tables e below (T.setTop g) (T'.setTop g')) (h : Goes p e below P T' g') : Goes p e below P T g := Goes.go (fun _ k => st.trans k) h
/-- the end of a walk that has linked Strings' constants -/
theorem own_wend {vm0 : Vm} {k0 : Nat} {fs : List Frame} {v : Option Value} (hS : s.Since vm0 k0) (hk : k0 ≤ T.heap.size) (hW : (s.setVm vm0).WarmedH (T.setFrames fs).vm) (hsame : (s.setVm vm0).sameButNew ({ T.setFrames fs with vm := (s.setVm vm0).vm } : State) locs cells slots) (hC : cells ≤ C) (hS' : slots ≤ S) : ReturnedEndW s (.returned v) (T.setFrames fs) locs C S := by
  have h2 := hS.trans (hW.since (T.setFrames fs).heap.size) hk
  exact ⟨⟨v, rfl⟩, h2.1, h2.2, (hsame.setVm s.vm).mono hC hS'⟩
/-- a value comes back -/
theorem own_ret (X : Stand p l e R s m args below meth c T locs cells slots) (hx : p.tables.exec = Jvm.exec) (hlk : meth.locks = false) {t : FieldType} (hret : meth.sig.returnType = some t) {i : Instr} {w : Value} (hn : narrow t w = w)
    (hi : (i = .ireturn ∧ (t = .int ∨ t = .boolean ∨ t = .byte ∨ t = .char ∨ t = .short) ∧ ∃ z, w = .int z) ∨ (i = .lreturn ∧ t = .long ∧ ∃ z, w = .long z) ∨ (i = .dreturn ∧ t = .double ∧ ∃ z, w = .double z) ∨ (i = .freturn ∧ t = .float ∧ ∃ z, w = .float z) ∨ (i = .areturn ∧ t.isReference = true ∧ w.isRef = true))
    {pc : Nat} {Ls : Array Slot} {rest : List Value} (hd : decode c.code pc = .ok (i, 1)) (hC : cells ≤ C) (hS : slots ≤ S) {h : Heap} (eT : T.heap = h) (hQ : Q (some w) h locs) : Goes p e below (Done s C S Q) T (mkF m pc Ls (w :: rest)) := by
  obtain ⟨fs, hr, hrun, hended, hW, hsame⟩ := X.leave (v := some w) (fun h => by rw [hret] at h; cases h)
  subst eT
  exact ⟨_, _, retOut X hx hret hn hi hd hr, hrun, hended, _, _, rfl, hQ, ⟨_, rfl⟩, hW, hsame.mono hC hS⟩
theorem own_retI (X : Stand p l e R s m args below meth c T locs cells slots) (hx : p.tables.exec = Jvm.exec) (hlk : meth.locks = false) (hret : meth.sig.returnType = some .int) {z : Int32}
    {pc : Nat} {Ls : Array Slot} {rest : List Value} (hd : decode c.code pc = .ok (.ireturn, 1)) (hC : cells ≤ C) (hS : slots ≤ S) {h : Heap} (eT : T.heap = h) (hQ : Q (some (.int z)) h locs) : Goes p e below (Done s C S Q) T (mkF m pc Ls (.int z :: rest)) :=
  own_ret X hx hlk hret rfl (Or.inl ⟨rfl, Or.inl rfl, z, rfl⟩) hd hC hS eT hQ
theorem own_retZ (X : Stand p l e R s m args below meth c T locs cells slots) (hx : p.tables.exec = Jvm.exec) (hlk : meth.locks = false) (hret : meth.sig.returnType = some .boolean) {z : Int32} (hn : narrow .boolean (.int z) = .int z)
    {pc : Nat} {Ls : Array Slot} {rest : List Value} (hd : decode c.code pc = .ok (.ireturn, 1)) (hC : cells ≤ C) (hS : slots ≤ S) {h : Heap} (eT : T.heap = h) (hQ : Q (some (.int z)) h locs) : Goes p e below (Done s C S Q) T (mkF m pc Ls (.int z :: rest)) :=
  own_ret X hx hlk hret hn (Or.inl ⟨rfl, Or.inr (Or.inl rfl), z, rfl⟩) hd hC hS eT hQ
theorem own_retJ (X : Stand p l e R s m args below meth c T locs cells slots) (hx : p.tables.exec = Jvm.exec) (hlk : meth.locks = false) (hret : meth.sig.returnType = some .long) {z : Int64}
    {pc : Nat} {Ls : Array Slot} {rest : List Value} (hd : decode c.code pc = .ok (.lreturn, 1)) (hC : cells ≤ C) (hS : slots ≤ S) {h : Heap} (eT : T.heap = h) (hQ : Q (some (.long z)) h locs) : Goes p e below (Done s C S Q) T (mkF m pc Ls (.long z :: rest)) :=
  own_ret X hx hlk hret rfl (Or.inr (Or.inl ⟨rfl, rfl, z, rfl⟩)) hd hC hS eT hQ
theorem own_narR {t : FieldType} {w : Value} (hw : w.isRef = true) : narrow t w = w := by
  rcases ref_cases hw with rfl | ⟨a, rfl⟩ <;> cases t <;> rfl
theorem own_retR (X : Stand p l e R s m args below meth c T locs cells slots) (hx : p.tables.exec = Jvm.exec) (hlk : meth.locks = false) {t : FieldType} (hret : meth.sig.returnType = some t) (ht : t.isReference = true) {w : Value} (hw : w.isRef = true)
    {pc : Nat} {Ls : Array Slot} {rest : List Value} (hd : decode c.code pc = .ok (.areturn, 1)) (hC : cells ≤ C) (hS : slots ≤ S) {h : Heap} (eT : T.heap = h) (hQ : Q (some w) h locs) : Goes p e below (Done s C S Q) T (mkF m pc Ls (w :: rest)) :=
  own_ret X hx hlk hret (own_narR hw) (Or.inr (Or.inr (Or.inr (Or.inr ⟨rfl, ht, hw⟩)))) hd hC hS eT hQ
theorem own_retV (X : Stand p l e R s m args below meth c T locs cells slots) (hx : p.tables.exec = Jvm.exec) (hlk : meth.locks = false) (hret : meth.sig.returnType = none)
    {pc : Nat} {Ls : Array Slot} (hd : decode c.code pc = .ok (.return_, 1)) (hC : cells ≤ C) (hS : slots ≤ S) {h : Heap} (eT : T.heap = h) (hQ : Q none h locs) : Goes p e below (Done s C S Q) T (mkF m pc Ls []) := by
  obtain ⟨fs, hr, hrun, hended, hW, hsame⟩ := X.leave (v := none) (fun _ => rfl)
  subst eT
  exact ⟨_, _, X.returnOut hx hret hd hr, hrun, hended, _, _, rfl, hQ, ⟨_, rfl⟩, hW, hsame.mono hC hS⟩
theorem own_retW {vm0 : Vm} {k0 : Nat} (X : Stand p l e R (s.setVm vm0) m args below meth c T locs cells slots) (hx : p.tables.exec = Jvm.exec) (hS : s.Since vm0 k0) (hlk : meth.locks = false) {t : FieldType} (hret : meth.sig.returnType = some t) {i : Instr} {w : Value} (hn : narrow t w = w)
    (hi : (i = .ireturn ∧ (t = .int ∨ t = .boolean ∨ t = .byte ∨ t = .char ∨ t = .short) ∧ ∃ z, w = .int z) ∨ (i = .lreturn ∧ t = .long ∧ ∃ z, w = .long z) ∨ (i = .dreturn ∧ t = .double ∧ ∃ z, w = .double z) ∨ (i = .freturn ∧ t = .float ∧ ∃ z, w = .float z) ∨ (i = .areturn ∧ t.isReference = true ∧ w.isRef = true))
    {pc : Nat} {Ls : Array Slot} {rest : List Value} (hd : decode c.code pc = .ok (i, 1)) (hC : cells ≤ C) (hS' : slots ≤ S) {h : Heap} (eT : T.heap = h) (hk : k0 ≤ h.size) (hQ : Q (some w) h locs) : Goes p e below (DoneW s C S Q) T (mkF m pc Ls (w :: rest)) := by
  obtain ⟨fs, hr, hrun, hended, hW, hsame⟩ := X.leave (v := some w) (fun h => by rw [hret] at h; cases h)
  subst eT
  exact ⟨_, _, retOut X hx hret hn hi hd hr, hrun, hended, _, _, rfl, hQ, own_wend hS hk hW hsame hC hS'⟩
theorem own_retWI {vm0 : Vm} {k0 : Nat} (X : Stand p l e R (s.setVm vm0) m args below meth c T locs cells slots) (hx : p.tables.exec = Jvm.exec) (hS : s.Since vm0 k0) (hlk : meth.locks = false) (hret : meth.sig.returnType = some .int) {z : Int32}
    {pc : Nat} {Ls : Array Slot} {rest : List Value} (hd : decode c.code pc = .ok (.ireturn, 1)) (hC : cells ≤ C) (hS' : slots ≤ S) {h : Heap} (eT : T.heap = h) (hk : k0 ≤ h.size) (hQ : Q (some (.int z)) h locs) : Goes p e below (DoneW s C S Q) T (mkF m pc Ls (.int z :: rest)) :=
  own_retW X hx hS hlk hret rfl (Or.inl ⟨rfl, Or.inl rfl, z, rfl⟩) hd hC hS' eT hk hQ
theorem own_retWZ {vm0 : Vm} {k0 : Nat} (X : Stand p l e R (s.setVm vm0) m args below meth c T locs cells slots) (hx : p.tables.exec = Jvm.exec) (hS : s.Since vm0 k0) (hlk : meth.locks = false) (hret : meth.sig.returnType = some .boolean) {z : Int32} (hn : narrow .boolean (.int z) = .int z)
    {pc : Nat} {Ls : Array Slot} {rest : List Value} (hd : decode c.code pc = .ok (.ireturn, 1)) (hC : cells ≤ C) (hS' : slots ≤ S) {h : Heap} (eT : T.heap = h) (hk : k0 ≤ h.size) (hQ : Q (some (.int z)) h locs) : Goes p e below (DoneW s C S Q) T (mkF m pc Ls (.int z :: rest)) :=
  own_retW X hx hS hlk hret hn (Or.inl ⟨rfl, Or.inr (Or.inl rfl), z, rfl⟩) hd hC hS' eT hk hQ
theorem own_retWR {vm0 : Vm} {k0 : Nat} (X : Stand p l e R (s.setVm vm0) m args below meth c T locs cells slots) (hx : p.tables.exec = Jvm.exec) (hS : s.Since vm0 k0) (hlk : meth.locks = false) {t : FieldType} (hret : meth.sig.returnType = some t) (ht : t.isReference = true) {w : Value} (hw : w.isRef = true)
    {pc : Nat} {Ls : Array Slot} {rest : List Value} (hd : decode c.code pc = .ok (.areturn, 1)) (hC : cells ≤ C) (hS' : slots ≤ S) {h : Heap} (eT : T.heap = h) (hk : k0 ≤ h.size) (hQ : Q (some w) h locs) : Goes p e below (DoneW s C S Q) T (mkF m pc Ls (w :: rest)) :=
  own_retW X hx hS hlk hret (own_narR hw) (Or.inr (Or.inr (Or.inr (Or.inr ⟨rfl, ht, hw⟩)))) hd hC hS' eT hk hQ
theorem own_retWV {vm0 : Vm} {k0 : Nat} (X : Stand p l e R (s.setVm vm0) m args below meth c T locs cells slots) (hx : p.tables.exec = Jvm.exec) (hS : s.Since vm0 k0) (hlk : meth.locks = false) (hret : meth.sig.returnType = none)
    {pc : Nat} {Ls : Array Slot} (hd : decode c.code pc = .ok (.return_, 1)) (hC : cells ≤ C) (hS' : slots ≤ S) {h : Heap} (eT : T.heap = h) (hk : k0 ≤ h.size) (hQ : Q none h locs) : Goes p e below (DoneW s C S Q) T (mkF m pc Ls []) := by
  obtain ⟨fs, hr, hrun, hended, hW, hsame⟩ := X.leave (v := none) (fun _ => rfl)
  subst eT
  exact ⟨_, _, X.returnOut hx hret hd hr, hrun, hended, _, _, rfl, hQ, own_wend hS hk hW hsame hC hS'⟩
/-- the entry -/
theorem own_enter {s₁ : State} {maxL : Nat} {as' : Array Value} {Ls : Array Slot} (hE : entryFrame m as' maxL = mkF m 0 Ls []) (h : Goes p e below P s₁ (mkF m 0 Ls [])) :
    ∃ s₂ o, Steps p.tables e below (s₁.setTop (entryFrame m as' maxL)) s₂ ∧ s₂.status = .running ∧ Ended s₂ below o ∧ P o s₂ := by
  rw [hE]; exact h
section Steps1
variable {pc : Nat} {Ls : Array Slot} {rest : List Value}
theorem own_iadd (X : Stand p l e R s m args below meth c T locs cells slots) (hx : p.tables.exec = Jvm.exec) (pc' : Nat) (hp : pc + 1 = pc') {x y z : Int32} (hd : decode c.code pc = .ok (.iadd, 1)) (hz : x + y = z) (h : Goes p e below P T (mkF m pc' Ls (.int z :: rest))) : Goes p e below P T (mkF m pc Ls (.int y :: .int x :: rest)) := by
  subst hp; subst hz; exact Goes.go (fun _ k => XS.iadd X.here hx rfl hd rfl k) h
theorem own_isub (X : Stand p l e R s m args below meth c T locs cells slots) (hx : p.tables.exec = Jvm.exec) (pc' : Nat) (hp : pc + 1 = pc') {x y z : Int32} (hd : decode c.code pc = .ok (.isub, 1)) (hz : x - y = z) (h : Goes p e below P T (mkF m pc' Ls (.int z :: rest))) : Goes p e below P T (mkF m pc Ls (.int y :: .int x :: rest)) := by
  subst hp; subst hz; exact Goes.go (fun _ k => XS.isub X.here hx rfl hd rfl k) h
theorem own_imul (X : Stand p l e R s m args below meth c T locs cells slots) (hx : p.tables.exec = Jvm.exec) (pc' : Nat) (hp : pc + 1 = pc') {x y z : Int32} (hd : decode c.code pc = .ok (.imul, 1)) (hz : x * y = z) (h : Goes p e below P T (mkF m pc' Ls (.int z :: rest))) : Goes p e below P T (mkF m pc Ls (.int y :: .int x :: rest)) := by
  subst hp; subst hz; exact Goes.go (fun _ k => XS.imul X.here hx rfl hd rfl k) h
theorem own_iand (X : Stand p l e R s m args below meth c T locs cells slots) (hx : p.tables.exec = Jvm.exec) (pc' : Nat) (hp : pc + 1 = pc') {x y z : Int32} (hd : decode c.code pc = .ok (.iand, 1)) (hz : x &&& y = z) (h : Goes p e below P T (mkF m pc' Ls (.int z :: rest))) : Goes p e below P T (mkF m pc Ls (.int y :: .int x :: rest)) := by
  subst hp; subst hz; exact Goes.go (fun _ k => XS.iand X.here hx rfl hd rfl k) h
theorem own_ior (X : Stand p l e R s m args below meth c T locs cells slots) (hx : p.tables.exec = Jvm.exec) (pc' : Nat) (hp : pc + 1 = pc') {x y z : Int32} (hd : decode c.code pc = .ok (.ior, 1)) (hz : x ||| y = z) (h : Goes p e below P T (mkF m pc' Ls (.int z :: rest))) : Goes p e below P T (mkF m pc Ls (.int y :: .int x :: rest)) := by
  subst hp; subst hz; exact Goes.go (fun _ k => XS.ior X.here hx rfl hd rfl k) h
theorem own_ixor (X : Stand p l e R s m args below meth c T locs cells slots) (hx : p.tables.exec = Jvm.exec) (pc' : Nat) (hp : pc + 1 = pc') {x y z : Int32} (hd : decode c.code pc = .ok (.ixor, 1)) (hz : x ^^^ y = z) (h : Goes p e below P T (mkF m pc' Ls (.int z :: rest))) : Goes p e below P T (mkF m pc Ls (.int y :: .int x :: rest)) := by
  subst hp; subst hz; exact Goes.go (fun _ k => XS.ixor X.here hx rfl hd rfl k) h
theorem own_idiv (X : Stand p l e R s m args below meth c T locs cells slots) (hx : p.tables.exec = Jvm.exec) (pc' : Nat) (hp : pc + 1 = pc') {x y z : Int32} (hd : decode c.code pc = .ok (.idiv, 1)) (hy : y ≠ 0) (hz : x / y = z) (h : Goes p e below P T (mkF m pc' Ls (.int z :: rest))) : Goes p e below P T (mkF m pc Ls (.int y :: .int x :: rest)) := by
  subst hp; subst hz; exact Goes.go (fun _ k => XS.idiv X.here hx rfl hd rfl hy k) h
theorem own_ishl (X : Stand p l e R s m args below meth c T locs cells slots) (hx : p.tables.exec = Jvm.exec) (pc' : Nat) (hp : pc + 1 = pc') {x z : Int32} {y : Int32} (hd : decode c.code pc = .ok (.ishl, 1)) (hz : (x <<< (y &&& 31)) = z) (h : Goes p e below P T (mkF m pc' Ls (.int z :: rest))) : Goes p e below P T (mkF m pc Ls (.int y :: .int x :: rest)) := by
  subst hp; subst hz; exact Goes.go (fun _ k => XS.ishl X.here hx rfl hd rfl k) h
theorem own_ishr (X : Stand p l e R s m args below meth c T locs cells slots) (hx : p.tables.exec = Jvm.exec) (pc' : Nat) (hp : pc + 1 = pc') {x z : Int32} {y : Int32} (hd : decode c.code pc = .ok (.ishr, 1)) (hz : (x >>> (y &&& 31)) = z) (h : Goes p e below P T (mkF m pc' Ls (.int z :: rest))) : Goes p e below P T (mkF m pc Ls (.int y :: .int x :: rest)) := by
  subst hp; subst hz; exact Goes.go (fun _ k => XS.ishr X.here hx rfl hd rfl k) h
theorem own_iushr (X : Stand p l e R s m args below meth c T locs cells slots) (hx : p.tables.exec = Jvm.exec) (pc' : Nat) (hp : pc + 1 = pc') {x z : Int32} {y : Int32} (hd : decode c.code pc = .ok (.iushr, 1)) (hz : ((x.toUInt32 >>> (y &&& 31).toUInt32).toInt32) = z) (h : Goes p e below P T (mkF m pc' Ls (.int z :: rest))) : Goes p e below P T (mkF m pc Ls (.int y :: .int x :: rest)) := by
  subst hp; subst hz; exact Goes.go (fun _ k => XS.iushr X.here hx rfl hd rfl k) h
theorem own_ladd (X : Stand p l e R s m args below meth c T locs cells slots) (hx : p.tables.exec = Jvm.exec) (pc' : Nat) (hp : pc + 1 = pc') {x y z : Int64} (hd : decode c.code pc = .ok (.ladd, 1)) (hz : x + y = z) (h : Goes p e below P T (mkF m pc' Ls (.long z :: rest))) : Goes p e below P T (mkF m pc Ls (.long y :: .long x :: rest)) := by
  subst hp; subst hz; exact Goes.go (fun _ k => XS.ladd X.here hx rfl hd rfl k) h
theorem own_lsub (X : Stand p l e R s m args below meth c T locs cells slots) (hx : p.tables.exec = Jvm.exec) (pc' : Nat) (hp : pc + 1 = pc') {x y z : Int64} (hd : decode c.code pc = .ok (.lsub, 1)) (hz : x - y = z) (h : Goes p e below P T (mkF m pc' Ls (.long z :: rest))) : Goes p e below P T (mkF m pc Ls (.long y :: .long x :: rest)) := by
  subst hp; subst hz; exact Goes.go (fun _ k => XS.lsub X.here hx rfl hd rfl k) h
theorem own_lmul (X : Stand p l e R s m args below meth c T locs cells slots) (hx : p.tables.exec = Jvm.exec) (pc' : Nat) (hp : pc + 1 = pc') {x y z : Int64} (hd : decode c.code pc = .ok (.lmul, 1)) (hz : x * y = z) (h : Goes p e below P T (mkF m pc' Ls (.long z :: rest))) : Goes p e below P T (mkF m pc Ls (.long y :: .long x :: rest)) := by
  subst hp; subst hz; exact Goes.go (fun _ k => XS.lmul X.here hx rfl hd rfl k) h
theorem own_land (X : Stand p l e R s m args below meth c T locs cells slots) (hx : p.tables.exec = Jvm.exec) (pc' : Nat) (hp : pc + 1 = pc') {x y z : Int64} (hd : decode c.code pc = .ok (.land, 1)) (hz : x &&& y = z) (h : Goes p e below P T (mkF m pc' Ls (.long z :: rest))) : Goes p e below P T (mkF m pc Ls (.long y :: .long x :: rest)) := by
  subst hp; subst hz; exact Goes.go (fun _ k => XS.land X.here hx rfl hd rfl k) h
theorem own_lor (X : Stand p l e R s m args below meth c T locs cells slots) (hx : p.tables.exec = Jvm.exec) (pc' : Nat) (hp : pc + 1 = pc') {x y z : Int64} (hd : decode c.code pc = .ok (.lor, 1)) (hz : x ||| y = z) (h : Goes p e below P T (mkF m pc' Ls (.long z :: rest))) : Goes p e below P T (mkF m pc Ls (.long y :: .long x :: rest)) := by
  subst hp; subst hz; exact Goes.go (fun _ k => XS.lor X.here hx rfl hd rfl k) h
theorem own_lxor (X : Stand p l e R s m args below meth c T locs cells slots) (hx : p.tables.exec = Jvm.exec) (pc' : Nat) (hp : pc + 1 = pc') {x y z : Int64} (hd : decode c.code pc = .ok (.lxor, 1)) (hz : x ^^^ y = z) (h : Goes p e below P T (mkF m pc' Ls (.long z :: rest))) : Goes p e below P T (mkF m pc Ls (.long y :: .long x :: rest)) := by
  subst hp; subst hz; exact Goes.go (fun _ k => XS.lxor X.here hx rfl hd rfl k) h
theorem own_ldiv (X : Stand p l e R s m args below meth c T locs cells slots) (hx : p.tables.exec = Jvm.exec) (pc' : Nat) (hp : pc + 1 = pc') {x y z : Int64} (hd : decode c.code pc = .ok (.ldiv, 1)) (hy : y ≠ 0) (hz : x / y = z) (h : Goes p e below P T (mkF m pc' Ls (.long z :: rest))) : Goes p e below P T (mkF m pc Ls (.long y :: .long x :: rest)) := by
  subst hp; subst hz; exact Goes.go (fun _ k => XS.ldiv X.here hx rfl hd rfl hy k) h
theorem own_lshl (X : Stand p l e R s m args below meth c T locs cells slots) (hx : p.tables.exec = Jvm.exec) (pc' : Nat) (hp : pc + 1 = pc') {x z : Int64} {y : Int32} (hd : decode c.code pc = .ok (.lshl, 1)) (hz : (x <<< (y &&& 0x3f).toInt64) = z) (h : Goes p e below P T (mkF m pc' Ls (.long z :: rest))) : Goes p e below P T (mkF m pc Ls (.int y :: .long x :: rest)) := by
  subst hp; subst hz; exact Goes.go (fun _ k => XS.lshl X.here hx rfl hd rfl k) h
theorem own_lshr (X : Stand p l e R s m args below meth c T locs cells slots) (hx : p.tables.exec = Jvm.exec) (pc' : Nat) (hp : pc + 1 = pc') {x z : Int64} {y : Int32} (hd : decode c.code pc = .ok (.lshr, 1)) (hz : (x >>> (y &&& 0x3f).toInt64) = z) (h : Goes p e below P T (mkF m pc' Ls (.long z :: rest))) : Goes p e below P T (mkF m pc Ls (.int y :: .long x :: rest)) := by
  subst hp; subst hz; exact Goes.go (fun _ k => XS.lshr X.here hx rfl hd rfl k) h
theorem own_lushr (X : Stand p l e R s m args below meth c T locs cells slots) (hx : p.tables.exec = Jvm.exec) (pc' : Nat) (hp : pc + 1 = pc') {x z : Int64} {y : Int32} (hd : decode c.code pc = .ok (.lushr, 1)) (hz : ((x.toUInt64 >>> (y &&& 0x3f).toInt64.toUInt64).toInt64) = z) (h : Goes p e below P T (mkF m pc' Ls (.long z :: rest))) : Goes p e below P T (mkF m pc Ls (.int y :: .long x :: rest)) := by
  subst hp; subst hz; exact Goes.go (fun _ k => XS.lushr X.here hx rfl hd rfl k) h
theorem own_irem (X : Stand p l e R s m args below meth c T locs cells slots) (hx : p.tables.exec = Jvm.exec) (pc' : Nat) (hp : pc + 1 = pc') {x y z : Int32} (hd : decode c.code pc = .ok (.irem, 1)) (hy : y ≠ 0) (hz : x % y = z) (h : Goes p e below P T (mkF m pc' Ls (.int z :: rest))) : Goes p e below P T (mkF m pc Ls (.int y :: .int x :: rest)) := by
  subst hp; subst hz; exact Goes.go (fun _ k => iremM X hx rfl hd rfl hy k) h
theorem own_lrem (X : Stand p l e R s m args below meth c T locs cells slots) (hx : p.tables.exec = Jvm.exec) (pc' : Nat) (hp : pc + 1 = pc') {x y z : Int64} (hd : decode c.code pc = .ok (.lrem, 1)) (hy : y ≠ 0) (hz : x % y = z) (h : Goes p e below P T (mkF m pc' Ls (.long z :: rest))) : Goes p e below P T (mkF m pc Ls (.long y :: .long x :: rest)) := by
  subst hp; subst hz; exact Goes.go (fun _ k => XS.lrem X.here hx rfl hd rfl hy (by rw [lrem_mod]; exact k)) h
theorem own_ineg (X : Stand p l e R s m args below meth c T locs cells slots) (hx : p.tables.exec = Jvm.exec) (pc' : Nat) (hp : pc + 1 = pc') {x : Int32} {z : Int32} (hd : decode c.code pc = .ok (.ineg, 1)) (hz : -x = z) (h : Goes p e below P T (mkF m pc' Ls (.int z :: rest))) : Goes p e below P T (mkF m pc Ls (.int x :: rest)) := by
  subst hp; subst hz; exact Goes.go (fun _ k => XS.ineg X.here hx rfl hd rfl k) h
theorem own_lneg (X : Stand p l e R s m args below meth c T locs cells slots) (hx : p.tables.exec = Jvm.exec) (pc' : Nat) (hp : pc + 1 = pc') {x : Int64} {z : Int64} (hd : decode c.code pc = .ok (.lneg, 1)) (hz : -x = z) (h : Goes p e below P T (mkF m pc' Ls (.long z :: rest))) : Goes p e below P T (mkF m pc Ls (.long x :: rest)) := by
  subst hp; subst hz; exact Goes.go (fun _ k => XS.lneg X.here hx rfl hd rfl k) h
theorem own_i2l (X : Stand p l e R s m args below meth c T locs cells slots) (hx : p.tables.exec = Jvm.exec) (pc' : Nat) (hp : pc + 1 = pc') {x : Int32} {z : Int64} (hd : decode c.code pc = .ok (.i2l, 1)) (hz : x.toInt64 = z) (h : Goes p e below P T (mkF m pc' Ls (.long z :: rest))) : Goes p e below P T (mkF m pc Ls (.int x :: rest)) := by
  subst hp; subst hz; exact Goes.go (fun _ k => XS.i2l X.here hx rfl hd rfl k) h
theorem own_l2i (X : Stand p l e R s m args below meth c T locs cells slots) (hx : p.tables.exec = Jvm.exec) (pc' : Nat) (hp : pc + 1 = pc') {x : Int64} {z : Int32} (hd : decode c.code pc = .ok (.l2i, 1)) (hz : x.toInt32 = z) (h : Goes p e below P T (mkF m pc' Ls (.int z :: rest))) : Goes p e below P T (mkF m pc Ls (.long x :: rest)) := by
  subst hp; subst hz; exact Goes.go (fun _ k => XS.l2i X.here hx rfl hd rfl k) h
theorem own_i2b (X : Stand p l e R s m args below meth c T locs cells slots) (hx : p.tables.exec = Jvm.exec) (pc' : Nat) (hp : pc + 1 = pc') {x : Int32} {z : Int32} (hd : decode c.code pc = .ok (.i2b, 1)) (hz : x.toInt8.toInt32 = z) (h : Goes p e below P T (mkF m pc' Ls (.int z :: rest))) : Goes p e below P T (mkF m pc Ls (.int x :: rest)) := by
  subst hp; subst hz; exact Goes.go (fun _ k => XS.i2b X.here hx rfl hd rfl k) h
theorem own_i2s (X : Stand p l e R s m args below meth c T locs cells slots) (hx : p.tables.exec = Jvm.exec) (pc' : Nat) (hp : pc + 1 = pc') {x : Int32} {z : Int32} (hd : decode c.code pc = .ok (.i2s, 1)) (hz : x.toInt16.toInt32 = z) (h : Goes p e below P T (mkF m pc' Ls (.int z :: rest))) : Goes p e below P T (mkF m pc Ls (.int x :: rest)) := by
  subst hp; subst hz; exact Goes.go (fun _ k => XS.i2s X.here hx rfl hd rfl k) h
theorem own_i2c (X : Stand p l e R s m args below meth c T locs cells slots) (hx : p.tables.exec = Jvm.exec) (pc' : Nat) (hp : pc + 1 = pc') {x : Int32} {z : Int32} (hd : decode c.code pc = .ok (.i2c, 1)) (hz : x.toUInt32.toUInt16.toUInt32.toInt32 = z) (h : Goes p e below P T (mkF m pc' Ls (.int z :: rest))) : Goes p e below P T (mkF m pc Ls (.int x :: rest)) := by
  subst hp; subst hz; exact Goes.go (fun _ k => XS.i2c X.here hx rfl hd rfl k) h
theorem own_lcmp (X : Stand p l e R s m args below meth c T locs cells slots) (hx : p.tables.exec = Jvm.exec) (pc' : Nat) (hp : pc + 1 = pc') {x y : Int64} (hd : decode c.code pc = .ok (.lcmp, 1))  (h : Goes p e below P T (mkF m pc' Ls (.int (lcmpW x y) :: rest))) : Goes p e below P T (mkF m pc Ls (.long y :: .long x :: rest)) := by
  subst hp; exact Goes.go (fun _ k => XS.lcmp X.here hx rfl hd rfl k) h
theorem own_iload (X : Stand p l e R s m args below meth c T locs cells slots) (hx : p.tables.exec = Jvm.exec) (pc' : Nat) (hp : pc + 2 = pc') {k : Nat} {v : Int32} (hd : decode c.code pc = .ok (.iload k, 2)) (hl : Ls[k]? = some (.val (.int v))) (h : Goes p e below P T (mkF m pc' Ls ((.int v) :: rest))) : Goes p e below P T (mkF m pc Ls rest) := by
  subst hp; exact Goes.go (fun _ k => XS.iload X.here hx rfl hd hl k) h
theorem own_iloadN (X : Stand p l e R s m args below meth c T locs cells slots) (hx : p.tables.exec = Jvm.exec) (pc' : Nat) (hp : pc + 1 = pc') {k : Fin 4} {v : Int32} (hd : decode c.code pc = .ok (.iload_n k, 1)) (hl : Ls[k.val]? = some (.val (.int v))) (h : Goes p e below P T (mkF m pc' Ls ((.int v) :: rest))) : Goes p e below P T (mkF m pc Ls rest) := by
  subst hp; exact Goes.go (fun _ k => XS.iloadN X.here hx rfl hd hl k) h
theorem own_istore (X : Stand p l e R s m args below meth c T locs cells slots) (hx : p.tables.exec = Jvm.exec) (pc' : Nat) (hp : pc + 2 = pc') {k : Nat} {v : Int32} (Ls' : Array Slot) (hd : decode c.code pc = .ok (.istore k, 2)) (hl : storeLocals Ls k (.int v) = some Ls') (h : Goes p e below P T (mkF m pc' Ls' rest)) : Goes p e below P T (mkF m pc Ls ((.int v) :: rest)) := by
  subst hp; exact Goes.go (fun _ k => XS.istore X.here hx rfl hd rfl hl k) h
theorem own_istoreN (X : Stand p l e R s m args below meth c T locs cells slots) (hx : p.tables.exec = Jvm.exec) (pc' : Nat) (hp : pc + 1 = pc') {k : Fin 4} {v : Int32} (Ls' : Array Slot) (hd : decode c.code pc = .ok (.istore_n k, 1)) (hl : storeLocals Ls k.val (.int v) = some Ls') (h : Goes p e below P T (mkF m pc' Ls' rest)) : Goes p e below P T (mkF m pc Ls ((.int v) :: rest)) := by
  subst hp; exact Goes.go (fun _ k => XS.istoreN X.here hx rfl hd rfl hl k) h
theorem own_lload (X : Stand p l e R s m args below meth c T locs cells slots) (hx : p.tables.exec = Jvm.exec) (pc' : Nat) (hp : pc + 2 = pc') {k : Nat} {v : Int64} (hd : decode c.code pc = .ok (.lload k, 2)) (hl : Ls[k]? = some (.val (.long v))) (h : Goes p e below P T (mkF m pc' Ls ((.long v) :: rest))) : Goes p e below P T (mkF m pc Ls rest) := by
  subst hp; exact Goes.go (fun _ k => XS.lload X.here hx rfl hd hl k) h
theorem own_lloadN (X : Stand p l e R s m args below meth c T locs cells slots) (hx : p.tables.exec = Jvm.exec) (pc' : Nat) (hp : pc + 1 = pc') {k : Fin 4} {v : Int64} (hd : decode c.code pc = .ok (.lload_n k, 1)) (hl : Ls[k.val]? = some (.val (.long v))) (h : Goes p e below P T (mkF m pc' Ls ((.long v) :: rest))) : Goes p e below P T (mkF m pc Ls rest) := by
  subst hp; exact Goes.go (fun _ k => XS.lloadN X.here hx rfl hd hl k) h
theorem own_lstore (X : Stand p l e R s m args below meth c T locs cells slots) (hx : p.tables.exec = Jvm.exec) (pc' : Nat) (hp : pc + 2 = pc') {k : Nat} {v : Int64} (Ls' : Array Slot) (hd : decode c.code pc = .ok (.lstore k, 2)) (hl : storeLocals Ls k (.long v) = some Ls') (h : Goes p e below P T (mkF m pc' Ls' rest)) : Goes p e below P T (mkF m pc Ls ((.long v) :: rest)) := by
  subst hp; exact Goes.go (fun _ k => XS.lstore X.here hx rfl hd rfl hl k) h
theorem own_lstoreN (X : Stand p l e R s m args below meth c T locs cells slots) (hx : p.tables.exec = Jvm.exec) (pc' : Nat) (hp : pc + 1 = pc') {k : Fin 4} {v : Int64} (Ls' : Array Slot) (hd : decode c.code pc = .ok (.lstore_n k, 1)) (hl : storeLocals Ls k.val (.long v) = some Ls') (h : Goes p e below P T (mkF m pc' Ls' rest)) : Goes p e below P T (mkF m pc Ls ((.long v) :: rest)) := by
  subst hp; exact Goes.go (fun _ k => XS.lstoreN X.here hx rfl hd rfl hl k) h
theorem own_aload (X : Stand p l e R s m args below meth c T locs cells slots) (hx : p.tables.exec = Jvm.exec) (pc' : Nat) (hp : pc + 2 = pc') {k : Nat} {v : Value} (hd : decode c.code pc = .ok (.aload k, 2)) (hl : Ls[k]? = some (.val v)) (hv : v.isRef = true) (h : Goes p e below P T (mkF m pc' Ls (v :: rest))) : Goes p e below P T (mkF m pc Ls rest) := by
  subst hp; exact Goes.go (fun _ k => XS.aload X.here hx rfl hd hl hv k) h
theorem own_aloadN (X : Stand p l e R s m args below meth c T locs cells slots) (hx : p.tables.exec = Jvm.exec) (pc' : Nat) (hp : pc + 1 = pc') {k : Fin 4} {v : Value} (hd : decode c.code pc = .ok (.aload_n k, 1)) (hl : Ls[k.val]? = some (.val v)) (hv : v.isRef = true) (h : Goes p e below P T (mkF m pc' Ls (v :: rest))) : Goes p e below P T (mkF m pc Ls rest) := by
  subst hp; exact Goes.go (fun _ k => XS.aloadN X.here hx rfl hd hl hv k) h
theorem own_astore (X : Stand p l e R s m args below meth c T locs cells slots) (hx : p.tables.exec = Jvm.exec) (pc' : Nat) (hp : pc + 2 = pc') {k : Nat} {v : Value} (Ls' : Array Slot) (hd : decode c.code pc = .ok (.astore k, 2)) (hl : storeLocals Ls k v = some Ls') (hv : v.isRef = true) (h : Goes p e below P T (mkF m pc' Ls' rest)) : Goes p e below P T (mkF m pc Ls (v :: rest)) := by
  subst hp; exact Goes.go (fun _ k => XS.astore X.here hx rfl hd rfl hv hl k) h
theorem own_astoreN (X : Stand p l e R s m args below meth c T locs cells slots) (hx : p.tables.exec = Jvm.exec) (pc' : Nat) (hp : pc + 1 = pc') {k : Fin 4} {v : Value} (Ls' : Array Slot) (hd : decode c.code pc = .ok (.astore_n k, 1)) (hl : storeLocals Ls k.val v = some Ls') (hv : v.isRef = true) (h : Goes p e below P T (mkF m pc' Ls' rest)) : Goes p e below P T (mkF m pc Ls (v :: rest)) := by
  subst hp; exact Goes.go (fun _ k => XS.astoreN X.here hx rfl hd rfl hv hl k) h
theorem own_iconst (X : Stand p l e R s m args below meth c T locs cells slots) (hx : p.tables.exec = Jvm.exec) (pc' : Nat) (hp : pc + 1 = pc') {i : Int} (v : Int32) (hd : decode c.code pc = .ok (.iconst i, 1)) (hv : Int32.ofInt i = v) (h : Goes p e below P T (mkF m pc' Ls (.int v :: rest))) : Goes p e below P T (mkF m pc Ls rest) := by
  subst hp; subst hv; exact Goes.go (fun _ k => XS.iconst X.here hx rfl hd k) h
theorem own_bipush (X : Stand p l e R s m args below meth c T locs cells slots) (hx : p.tables.exec = Jvm.exec) (pc' : Nat) (hp : pc + 2 = pc') {i : Int} (v : Int32) (hd : decode c.code pc = .ok (.bipush i, 2)) (hv : (Int8.ofInt i).toInt32 = v) (h : Goes p e below P T (mkF m pc' Ls (.int v :: rest))) : Goes p e below P T (mkF m pc Ls rest) := by
  subst hp; subst hv; exact Goes.go (fun _ k => XS.bipush X.here hx rfl hd k) h
theorem own_sipush (X : Stand p l e R s m args below meth c T locs cells slots) (hx : p.tables.exec = Jvm.exec) (pc' : Nat) (hp : pc + 3 = pc') {i : Int} (v : Int32) (hd : decode c.code pc = .ok (.sipush i, 3)) (hv : (Int16.ofInt i).toInt32 = v) (h : Goes p e below P T (mkF m pc' Ls (.int v :: rest))) : Goes p e below P T (mkF m pc Ls rest) := by
  subst hp; subst hv; exact Goes.go (fun _ k => XS.sipush X.here hx rfl hd k) h
theorem own_lconst (X : Stand p l e R s m args below meth c T locs cells slots) (hx : p.tables.exec = Jvm.exec) (pc' : Nat) (hp : pc + 1 = pc') {i : Fin 2} (v : Int64) (hd : decode c.code pc = .ok (.lconst i, 1)) (hv : Int64.ofNat i = v) (h : Goes p e below P T (mkF m pc' Ls (.long v :: rest))) : Goes p e below P T (mkF m pc Ls rest) := by
  subst hp; subst hv; exact Goes.go (fun _ k => XS.lconst X.here hx rfl hd k) h
theorem own_aconst_null (X : Stand p l e R s m args below meth c T locs cells slots) (hx : p.tables.exec = Jvm.exec) (pc' : Nat) (hp : pc + 1 = pc')  (hd : decode c.code pc = .ok (.aconst_null, 1))  (h : Goes p e below P T (mkF m pc' Ls (.null :: rest))) : Goes p e below P T (mkF m pc Ls rest) := by
  subst hp; exact Goes.go (fun _ k => XS.aconstNull X.here hx rfl hd k) h
theorem own_dup (X : Stand p l e R s m args below meth c T locs cells slots) (hx : p.tables.exec = Jvm.exec) (pc' : Nat) (hp : pc + 1 = pc') {v : Value} (hd : decode c.code pc = .ok (.dup, 1)) (hc : v.category = 1) (h : Goes p e below P T (mkF m pc' Ls (v :: v :: rest))) : Goes p e below P T (mkF m pc Ls (v :: rest)) := by
  subst hp; exact Goes.go (fun _ k => XS.dup X.here hx rfl hd rfl hc k) h
theorem own_pop (X : Stand p l e R s m args below meth c T locs cells slots) (hx : p.tables.exec = Jvm.exec) (pc' : Nat) (hp : pc + 1 = pc') {v : Value} (hd : decode c.code pc = .ok (.pop, 1)) (hc : v.category = 1) (h : Goes p e below P T (mkF m pc' Ls rest)) : Goes p e below P T (mkF m pc Ls (v :: rest)) := by
  subst hp; exact Goes.go (fun _ k => XS.pop X.here hx rfl hd rfl hc k) h
theorem own_dup_x1 (X : Stand p l e R s m args below meth c T locs cells slots) (hx : p.tables.exec = Jvm.exec) (pc' : Nat) (hp : pc + 1 = pc') {v w : Value} (hd : decode c.code pc = .ok (.dup_x1, 1)) (hc : v.category = 1) (hc' : w.category = 1) (h : Goes p e below P T (mkF m pc' Ls (v :: w :: v :: rest))) : Goes p e below P T (mkF m pc Ls (v :: w :: rest)) := by
  subst hp; exact Goes.go (fun _ k => XS.dupX1 X.here hx rfl hd rfl hc hc' k) h
theorem own_dup2L (X : Stand p l e R s m args below meth c T locs cells slots) (hx : p.tables.exec = Jvm.exec) (pc' : Nat) (hp : pc + 1 = pc') {v : Int64} (hd : decode c.code pc = .ok (.dup2, 1))  (h : Goes p e below P T (mkF m pc' Ls (.long v :: .long v :: rest))) : Goes p e below P T (mkF m pc Ls (.long v :: rest)) := by
  subst hp; exact Goes.go (fun _ k => Jvm.Free.XT.dup2L X.here hx rfl hd rfl k) h
theorem own_dup2 (X : Stand p l e R s m args below meth c T locs cells slots) (hx : p.tables.exec = Jvm.exec) (pc' : Nat) (hp : pc + 1 = pc') {v w : Value} (hd : decode c.code pc = .ok (.dup2, 1)) (hc : v.category = 1) (hc' : w.category = 1) (h : Goes p e below P T (mkF m pc' Ls (v :: w :: v :: w :: rest))) : Goes p e below P T (mkF m pc Ls (v :: w :: rest)) := by
  subst hp; exact Goes.go (fun _ k => Jvm.Free.XT.dup2 X.here hx rfl hd rfl hc hc' k) h
theorem own_iinc (X : Stand p l e R s m args below meth c T locs cells slots) (hx : p.tables.exec = Jvm.exec) (pc' : Nat) (hp : pc + 3 = pc') {k : Nat} {cst : Int} {x z : Int32} (Ls' : Array Slot) (hd : decode c.code pc = .ok (.iinc k cst, 3)) (hl : Ls[k]? = some (.val (.int x))) (hz : x + Int32.ofInt cst = z) (hl' : storeLocals Ls k (.int z) = some Ls') (h : Goes p e below P T (mkF m pc' Ls' rest)) : Goes p e below P T (mkF m pc Ls rest) := by
  subst hp; subst hz; exact Goes.go (fun _ k => XS.iinc X.here hx rfl hd hl hl' k) h
theorem own_goto (X : Stand p l e R s m args below meth c T locs cells slots) (hx : p.tables.exec = Jvm.exec) (pc' : Nat) {o : Int} (hd : decode c.code pc = .ok (.goto o, 3)) (ho : 0 ≤ (pc : Int) + o) (hp : ((pc : Int) + o).toNat = pc') (h : Goes p e below P T (mkF m pc' Ls rest)) : Goes p e below P T (mkF m pc Ls rest) :=
  Goes.go (fun _ k => XS.goto X.here hx rfl rfl hd ho hp k) h
theorem own_ifY (X : Stand p l e R s m args below meth c T locs cells slots) (hx : p.tables.exec = Jvm.exec) (pc' : Nat) {o : Int} {cd : ClassFile.Cond} {x : Int32} (hd : decode c.code pc = .ok (.ifCond cd o, 3)) (hc : ifCond.holds cd x = true) (ho : 0 ≤ (pc : Int) + o) (hp : ((pc : Int) + o).toNat = pc') (h : Goes p e below P T (mkF m pc' Ls rest)) : Goes p e below P T (mkF m pc Ls (.int x :: rest)) :=
  Goes.go (fun _ k => XS.ifYes X.here hx rfl rfl hd rfl hc ho hp k) h
theorem own_ifN (X : Stand p l e R s m args below meth c T locs cells slots) (hx : p.tables.exec = Jvm.exec) (pc' : Nat) {o : Int} {cd : ClassFile.Cond} {x : Int32} (hd : decode c.code pc = .ok (.ifCond cd o, 3)) (hc : ifCond.holds cd x = false) (hp : pc + 3 = pc') (h : Goes p e below P T (mkF m pc' Ls rest)) : Goes p e below P T (mkF m pc Ls (.int x :: rest)) := by
  subst hp; exact Goes.go (fun _ k => XS.ifNo X.here hx rfl hd rfl hc k) h
theorem own_icmpY (X : Stand p l e R s m args below meth c T locs cells slots) (hx : p.tables.exec = Jvm.exec) (pc' : Nat) {o : Int} {cd : ClassFile.Cond} {x y : Int32} (hd : decode c.code pc = .ok (.if_icmp cd o, 3)) (hc : if_icmp.holds cd x y = true) (ho : 0 ≤ (pc : Int) + o) (hp : ((pc : Int) + o).toNat = pc') (h : Goes p e below P T (mkF m pc' Ls rest)) : Goes p e below P T (mkF m pc Ls (.int y :: .int x :: rest)) :=
  Goes.go (fun _ k => XS.icmpYes X.here hx rfl rfl hd rfl hc ho hp k) h
theorem own_icmpN (X : Stand p l e R s m args below meth c T locs cells slots) (hx : p.tables.exec = Jvm.exec) (pc' : Nat) {o : Int} {cd : ClassFile.Cond} {x y : Int32} (hd : decode c.code pc = .ok (.if_icmp cd o, 3)) (hc : if_icmp.holds cd x y = false) (hp : pc + 3 = pc') (h : Goes p e below P T (mkF m pc' Ls rest)) : Goes p e below P T (mkF m pc Ls (.int y :: .int x :: rest)) := by
  subst hp; exact Goes.go (fun _ k => XS.icmpNo X.here hx rfl hd rfl hc k) h
theorem own_acmp (X : Stand p l e R s m args below meth c T locs cells slots) (hx : p.tables.exec = Jvm.exec) (pc' : Nat) {o : Int} {cd : ACond} {x y : Value} {same : Bool} (h1 : x.isRef = true) (h2 : y.isRef = true) (hd : decode c.code pc = .ok (.if_acmp cd o, 3)) (hq : decide (x = y) = same) (ho : 0 ≤ (pc : Int) + o) (hp : pc' = if acV cd same = true then ((pc : Int) + o).toNat else pc + 3) (h : Goes p e below P T (mkF m pc' Ls rest)) : Goes p e below P T (mkF m pc Ls (y :: x :: rest)) :=
  Goes.go (fun _ k => Jvm.RoadKit.acmp (g := mkF m pc Ls (y :: x :: rest)) X hx rfl h1 h2 rfl hd rfl hq ho hp k) h
theorem own_ifnullY (X : Stand p l e R s m args below meth c T locs cells slots) (hx : p.tables.exec = Jvm.exec) (pc' : Nat) {o : Int} (hd : decode c.code pc = .ok (.ifnull o, 3)) (ho : 0 ≤ (pc : Int) + o) (hp : ((pc : Int) + o).toNat = pc') (h : Goes p e below P T (mkF m pc' Ls rest)) : Goes p e below P T (mkF m pc Ls (.null :: rest)) :=
  Goes.go (fun _ k => XS.ifnullYes X.here hx rfl rfl hd rfl ho hp k) h
theorem own_ifnullN (X : Stand p l e R s m args below meth c T locs cells slots) (hx : p.tables.exec = Jvm.exec) (pc' : Nat) {o : Int} {b : Addr} (hd : decode c.code pc = .ok (.ifnull o, 3)) (hp : pc + 3 = pc') (h : Goes p e below P T (mkF m pc' Ls rest)) : Goes p e below P T (mkF m pc Ls (.ref b :: rest)) := by
  subst hp; exact Goes.go (fun _ k => XS.ifnullNo X.here hx rfl hd rfl k) h
theorem own_ifnonnullY (X : Stand p l e R s m args below meth c T locs cells slots) (hx : p.tables.exec = Jvm.exec) (pc' : Nat) {o : Int} {b : Addr} (hd : decode c.code pc = .ok (.ifnonnull o, 3)) (ho : 0 ≤ (pc : Int) + o) (hp : ((pc : Int) + o).toNat = pc') (h : Goes p e below P T (mkF m pc' Ls rest)) : Goes p e below P T (mkF m pc Ls (.ref b :: rest)) :=
  Goes.go (fun _ k => XS.ifnonnullYes X.here hx rfl rfl hd rfl ho hp k) h
theorem own_ifnonnullN (X : Stand p l e R s m args below meth c T locs cells slots) (hx : p.tables.exec = Jvm.exec) (pc' : Nat) {o : Int} (hd : decode c.code pc = .ok (.ifnonnull o, 3)) (hp : pc + 3 = pc') (h : Goes p e below P T (mkF m pc' Ls rest)) : Goes p e below P T (mkF m pc Ls (.null :: rest)) := by
  subst hp; exact Goes.go (fun _ k => XS.ifnonnullNo X.here hx rfl hd rfl k) h
end Steps1
/-- the branches on a long comparison -/
theorem Ltlt {x y : Int64} (h : x < y) : ifCond.holds .lt (lcmpW x y) = true ∧ ifCond.holds .ge (lcmpW x y) = false ∧ ifCond.holds .gt (lcmpW y x) = true ∧ ifCond.holds .le (lcmpW y x) = false :=
  ⟨(if0 _ _).trans (tlt ((lw_lt x y).mpr h)).1, (if0 _ _).trans (tlt ((lw_lt x y).mpr h)).2.1, (if0 _ _).trans (tlt ((lw_gt y x).mpr h)).2.2.1, (if0 _ _).trans (tlt ((lw_gt y x).mpr h)).2.2.2⟩
theorem Lflt {x y : Int64} (h : ¬ x < y) : ifCond.holds .lt (lcmpW x y) = false ∧ ifCond.holds .ge (lcmpW x y) = true ∧ ifCond.holds .gt (lcmpW y x) = false ∧ ifCond.holds .le (lcmpW y x) = true :=
  ⟨(if0 _ _).trans (flt fun q => h ((lw_lt x y).mp q)).1, (if0 _ _).trans (flt fun q => h ((lw_lt x y).mp q)).2.1, (if0 _ _).trans (flt fun q => h ((lw_gt y x).mp q)).2.2.1, (if0 _ _).trans (flt fun q => h ((lw_gt y x).mp q)).2.2.2⟩
theorem Lteq {x y : Int64} (h : x = y) : ifCond.holds .eq (lcmpW x y) = true ∧ ifCond.holds .ne (lcmpW x y) = false :=
  ⟨(if0 _ _).trans (teq ((lw_eq x y).mpr h)).1, (if0 _ _).trans (teq ((lw_eq x y).mpr h)).2⟩
theorem Lfeq {x y : Int64} (h : ¬ x = y) : ifCond.holds .eq (lcmpW x y) = false ∧ ifCond.holds .ne (lcmpW x y) = true :=
  ⟨(if0 _ _).trans (feq fun q => h ((lw_eq x y).mp q)).1, (if0 _ _).trans (feq fun q => h ((lw_eq x y).mp q)).2⟩
theorem Ztlt {x y : Int32} (h : x < y) : if_icmp.holds .lt x y = true ∧ if_icmp.holds .ge x y = false ∧ if_icmp.holds .gt y x = true ∧ if_icmp.holds .le y x = false := tlt h
/-- the pieces of a memory fact -/
theorem own_lt_ne {a b n : Nat} (h : a < n) (g : b = n) : a ≠ b := by omega
end Own
theorem own_eqv {args : Array Value} {s : State} {t u : Term} {v : Value} (hu : u.eval args s none [] s = some v) (h : (Jvm.Cond.eq t u).value args s none s [] = some true) : t.eval args s none [] s = some v := by
  cases ht : t.eval args s none [] s with
  | none => simp [Cond.value, ht] at h
  | some x =>
    simp only [Cond.value, ht, hu] at h
    cases x <;> cases v <;> simp_all
theorem own_fldv {args : Array Value} {s : State} {t u : Term} {a : Addr} {C n d : String} {v : Value} (ev : t.eval args s none [] s = some (.ref a)) (hu : u.eval args s none [] s = some v) (h : (Jvm.Cond.eq (Term.field t C n d) u).value args s none s [] = some true) : s.fieldOf? a C n d = some v :=
  (fld_at ev).symm.trans (own_eqv hu h)
theorem own_sta_keep {Z : State} {h h' : Heap} {C n d : String} {v : Value} {ws : List Addr} (F : Sta Z h C n d v) (K : Keep h h' ws) (q : ∀ x ∈ ws, ∀ cell : Cell, h[x]? = some cell → cell.vm.isStatics = false) : Sta Z h' C n d v := by
  obtain ⟨cf, i, k, f, st, cell, h1, h2, h3, h4, h5, h6, h7⟩ := F
  refine ⟨cf, i, k, f, st, cell, h1, h2, h3, h4, K.2.1 _ _ h5 (fun hm => ?_), h6, h7⟩
  have q1 := q _ hm cell h5
  rw [h6] at q1; cases q1
theorem own_eplain {Z : State} {h : Heap} {a : Addr} {C : String} (F : Exa Z h a C) : ∀ cell : Cell, h[a]? = some cell → cell.vm.isStatics = false := fun cell hc => by
  obtain ⟨c, k, h1, -, -, h4, -⟩ := F; cases h1.symm.trans hc; exact h4
theorem own_rplain {Z : State} {h : Heap} {a : Addr} {c : Cell} {ty : FieldType} (F : Arr Z h a c ty) : ∀ cell : Cell, h[a]? = some cell → cell.vm.isStatics = false := fun cell hc => by
  cases F.1.symm.trans hc; exact F.plain
theorem own_aplain {Z : State} {h : Heap} {a : Addr} {k : ClassId} {ty : FieldType} {n : Int32} {vs : List Value} {dv : Value} (F : Arv Z h a k ty n vs dv) : ∀ cell : Cell, h[a]? = some cell → cell.vm.isStatics = false := by
  obtain ⟨c, A, -⟩ := F; exact own_rplain A
theorem own_selP {s : State} {args : Array Value} {y : MethodName} {n : Nat} (wi : (Jvm.Cond.instantiable y.cls n).before args s = true) (wp : (Jvm.Cond.privateMethod y).before args s = true) (wn : (Jvm.Cond.instanceMethod y).before args s = true) (hy : y.cls ≠ "java/lang/invoke/MethodHandle" ∧ y.cls ≠ "java/lang/invoke/VarHandle") : (Jvm.Cond.selects y.cls y y).before args s = true := by
  obtain ⟨c, k, hc, hk, -, hniab, -, -⟩ := Cond.instantiable_spec wi
  exact Jvm.Stand.selects_self_of_private hc hk (Bool.or_eq_false_iff.mp hniab).1 (Cond.privateMethod_at wp) wn hy
theorem own_fitsR {t : FieldType} {w : Value} (hw : w.isRef = true) (ht : t.isReference = true) : fits t w = true := by
  rcases ref_cases hw with rfl | ⟨a, rfl⟩ <;> cases t <;> first | rfl | (simp [FieldType.isReference] at ht)
theorem own_wS {Z : State} {a0 : Array Value} (hw : ∀ d ∈ tables_1, d.before a0 Z = true) : ∀ a ∈ Bundle.stringAtoms, a.before a0 Z = true := fun a ha => by
  rcases List.mem_cons.mp ha with rfl | ha
  · exact (hw _ (List.mem_of_getElem? (i := 27) rfl))
  rcases List.mem_cons.mp ha with rfl | ha
  · exact (hw _ (List.mem_of_getElem? (i := 34) rfl))
  rcases List.mem_cons.mp ha with rfl | ha
  · exact (hw _ (List.mem_of_getElem? (i := 28) rfl))
  rcases List.mem_cons.mp ha with rfl | ha
  · exact (hw _ (List.mem_of_getElem? (i := 35) rfl))
  rcases List.mem_cons.mp ha with rfl | ha
  · exact (hw _ (List.mem_of_getElem? (i := 36) rfl))
  rcases List.mem_cons.mp ha with rfl | ha
  · exact (hw _ (List.mem_of_getElem? (i := 37) rfl))
  rcases List.mem_cons.mp ha with rfl | ha
  · exact (hw _ (List.mem_of_getElem? (i := 38) rfl))
  exact absurd ha (List.not_mem_nil)
theorem own_ibW {Z s : State} {vm : Vm} {Ts : List String} (I : IB Z s.vm Ts) (h : s.WarmedH vm) : IB Z vm Ts := by
  obtain ⟨more, e, q⟩ := I
  exact ⟨more, by rw [h.interned_eq, e], q⟩
theorem own_backSI {l : Launch} {R : Room} {p : Program} {e : Env} {below : List Frame} {s Z : State} {args a0 : Array Value} {h : Heap} {y : MethodName} {bytes : ByteArray} {maxL : Nat} {ret : Option FieldType} {rm : Room} {len W : Nat} {as' : Array Value} {Q : Option Value → Heap → List Loc → Prop} {Ts : List String}
    (hM : MetFree l y (head1 [Jvm.Cond.code y bytes maxL ret] rm) (fun a U => a = as' ∧ Z.Warmed39 U.vm ∧ U.heap = h ∧ IB Z U.vm Ts) (fun _ _ _ _ _ => True) (fun _ U o U' => ∃ v L, o = .returned v ∧ Q v U'.heap L ∧ ReturnedEndW U o U' L rm.cells rm.slots))
    (hZ : Z.Warmed39 s.vm) (wc : (Jvm.Cond.code y bytes maxL ret).before a0 Z = true) (wz : (Jvm.Cond.initialized y.cls).before a0 Z = true) (hf : rm.frames + 1 ≤ R.frames) (hl : W + (maxL + 11) + rm.locals ≤ R.locals) :
    BackS l R p e below s args y len W (fun A a => a = as' ∧ A.U.heap = h ∧ A.cells + rm.cells ≤ R.cells ∧ A.slots + rm.slots ≤ R.slots ∧ IB Z A.U.vm Ts)
      (fun A _ v B => ∃ L, Q v B.U.heap L ∧ B.locs = A.locs ++ L ∧ B.cells = A.cells + rm.cells ∧ B.slots = A.slots + rm.slots) := by
  refine BackS.of_freeW (bytes := bytes) (maxL := maxL) (ret := ret) (E := fun _ _ o t L k n => (k, n) = (rm.cells, rm.slots) ∧ ∃ v, o = .returned v ∧ Q v t.heap L) hM hf hl ?_ ?_ (fun _ _ _ _ _ _ _ _ _ => trivial) ?_ ?_
  · intro m meth c A a X hp
    have u : Z.Warmed39 A.U.vm := wtrans hZ X.warmed
    refine ⟨?_, mv u wc, mv u wz, hp.2.2.1, hp.2.2.2.1⟩
    show (Jvm.Cond.and _ .tt).before a A.U = true
    rw [Cond.before_and, mv u wc]; rfl
  · intro m meth c A a g mk X hp
    exact ⟨hp.1, wtrans hZ X.warmed, hp.2.1, hp.2.2.2.2⟩
  · rintro _ _ _ _ ⟨v, L, rfl, q, r⟩
    exact ⟨L, _, _, r, rfl, v, rfl, q⟩
  · rintro m meth c A a g mk v t L k n X hp - - ⟨q1, v', q2, q3⟩
    cases q1; cases q2
    exact ⟨L, q3, rfl, rfl, rfl⟩
/-- a static callee throws (it may have interned its message), and the first row of the caller's own table catches -/
theorem own_setTop {B : State} (h : B.topJava?.isSome) (g : JFrame) : B.setTop g = B.setFrames (.java g :: B.frames.tail) := by
  obtain ⟨f, hf⟩ := Option.isSome_iff_exists.mp h
  obtain ⟨r, hr⟩ := State.topJava?_eq_some.mp hf
  exact (State.setTop_of_frames g hr).trans (by simp [hr])
theorem own_push {B : State} (h : B.topJava?.isSome) (g : JFrame) (f : Frame) : (B.setTop g).pushFrame f = B.setFrames (f :: .java g :: B.frames.tail) := by
  rw [State.pushFrame, State.frames_setTop' g h, own_setTop h g, State.setFrames_setFrames]
/-- a free callee's run, from the call to its end -/
theorem own_free {p : Program} {l : Launch} {e : Env} {R : Room} {s : State} {m : MethodId} {args : Array Value} {below : List Frame} {meth : Method} {c : Code} {U : State} {Ls : List Loc} {c0 s0 : Nat} (X : Stand p l e R s m args below meth c U Ls c0 s0) {g : JFrame} (hg : g.method = m) (hsize : g.locals.size = c.maxLocals) {i : Instr} {len : Nat} (hd : decode c.code g.pc = .ok (i, len)) {y : MethodName} {mk : MethodId}
    (hn : U.methodNamed? y = some mk) {my : Method} {cy : Code} (h1 : U.vm.method? mk = some my) (h2 : my.code = some cy) (hz : (Cond.initialized y.cls).before #[] U = true) {S : Spec} {P : Array Value → State → Prop}
    {K : Program → Env → List Frame → State → Array Value → Prop} {Q : Array Value → State → Outcome → State → Prop} (hM : MetFree l y S P K Q) (hf : S.room.frames + 1 ≤ R.frames)
    (hl : 2 * g.monitorRoom + (g.stack.map fun v => v.category).sum + (cy.maxLocals + 11) + S.room.locals ≤ R.locals) (hc : c0 + S.room.cells ≤ R.cells) (hs : s0 + S.room.slots ≤ R.slots) {a : Array Value} (hpre : S.pre.before a U = true)
    (hP : P a (U.calling g mk a)) (hK : K p e (U.setTop g).frames (U.calling g mk a) a) :
    ∃ o t, Steps p.tables e below (doInvoke e (U.setTop g) [] mk a).1 t ∧ Ended t (.java g :: U.frames.tail) o ∧ Q a (U.calling g mk a) o t := by
  have at' : At U g.method c below := hg.symm ▸ X.here
  obtain ⟨ky, y1, -⟩ := className_of_methodNamed hn
  obtain ⟨mid, hm⟩ := at'.above
  have fr := State.frames_setTop' g at'.top
  obtain ⟨o, t, run, -, fin, hq⟩ := Steps.callFree hM p X.admits X.cas X.clock (acts := []) (mid := .java g :: mid) (below := below) (fr.trans (by rw [hm]; rfl))
    (Spec.appliesLoose_calling at' hd hn y1 (Cond.initialized_spec (findClass_of_methodNamed hn) y1 hz) (X.room_calling hsize h1 h2 hf hl hc hs) hpre) hP hK
  exact ⟨o, t, run, fr ▸ fin, hq⟩
/-- where the caller stands behind a callee that may intern -/
theorem own_wide {p : Program} {l : Launch} {e : Env} {R : Room} {s : State} {m : MethodId} {args : Array Value} {below : List Frame} {meth : Method} {c : Code} {U : State} {Ls : List Loc} {c0 s0 : Nat} (X : Stand p l e R s m args below meth c U Ls c0 s0) {g : JFrame} {mk : MethodId} {a : Array Value} {t : State} {L : List Loc} {k n : Nat}
    (hW : (U.calling g mk a).Warmed39 t.vm) (hB : (U.calling g mk a).Booked t.vm t.heap.size) (hs : (U.calling g mk a).sameButNew ({ t with vm := (U.calling g mk a).vm } : State) L k n) :
    ∃ B : State, B.heap = t.heap ∧ B.vm = t.vm ∧ t = B.setFrames t.frames ∧ B.frames = U.frames ∧ Stand p l e R (s.setVm B.vm) m args below meth c B (Ls ++ L) (c0 + k) (s0 + n) ∧ s.Since B.vm B.heap.size ∧ U.sameButNew (B.setVm U.vm) L k n := by
  have z : U.sameButNew ({ t with vm := U.vm } : State) L k n := by
    rw [State.calling_eq X.here.top] at hs
    exact hs.of_setFrames
  have f : U.setFrames U.frames = U := congrArg (fun q : State => q.setVm U.vm) (Sym.setFrames_own X.same)
  have z' : U.sameButNew ((({ U with heap := t.heap, slotsUsed := t.slotsUsed } : State).setVm t.vm).setVm U.vm) L k n := ⟨congrArg (fun q : State => ({ q with heap := t.heap, slotsUsed := t.slotsUsed } : State)) f.symm, z.2⟩
  obtain ⟨X', hS⟩ := X.movedW ((X.here.setHeapUsed t.heap t.slotsUsed).setVm hW.alike) X.tail rfl rfl hW hB z'
  exact ⟨({ U with heap := t.heap, slotsUsed := t.slotsUsed } : State).setVm t.vm, rfl, rfl, congrArg (fun q : State => q.setVm t.vm) z.1, rfl, X', hS, z'⟩
theorem own_catchSI {p : Program} {l : Launch} {e : Env} {R : Room} {s Z : State} {m : MethodId} {args a0 : Array Value} {below : List Frame} {meth : Method} {c : Code} {T : State} {locs : List Loc} {cells slots : Nat} {h : Heap}
    (X : Stand p l e R s m args below meth c T locs cells slots) (hx : p.tables.exec = Jvm.exec) {own cls : String} {index : Nat} {y : MethodName} {bytes : ByteArray} {maxL : Nat} {ret : Option FieldType} {rm : Room} {as' : Array Value} {Ts : List String} (hIB : IB Z s.vm Ts)
    (hown : s.vm.findClass own = some m.cls) (hlink : (Cond.methodLink own index y).before args s = true) (hstat : (Cond.static y).before args s = true) (hinit : (Cond.initialized y.cls).before args s = true) (hcode : (Cond.code y bytes maxL ret).before args s = true)
    (hy : y.cls ≠ "java/lang/invoke/MethodHandle" ∧ y.cls ≠ "java/lang/invoke/VarHandle") (hZ : Z.Warmed39 s.vm)
    (hM : MetFree l y (head1 [Cond.code y bytes maxL ret] rm) (fun a U => a = as' ∧ Z.Warmed39 U.vm ∧ U.heap = h ∧ IB Z U.vm Ts) (fun _ _ bl st _ => st.vm.MethodsKnown ∧ st.vm.FramesKnown bl) (fun _ U o U' => ThrewNewW cls U [] rm.cells rm.slots o U'))
    (wc : (Cond.code y bytes maxL ret).before a0 Z = true) (wz : (Cond.initialized y.cls).before a0 Z = true) (eT : T.heap = h) (hTK : s.vm.MethodsKnown) (hBelow : s.vm.FramesKnown below)
    {g : JFrame} (hg : g.method = m) (hsize : g.locals.size = c.maxLocals) {argsL rest : List Value} (hlen : ∀ sig, parseMethodDescriptor y.desc = some sig → argsL.length = sig.parameters.length) (hstack : g.stack = argsL.reverse ++ rest) {W : Nat} (hWd : 2 * g.monitorRoom + (rest.map fun v => v.category).sum ≤ W)
    (hf : rm.frames + 1 ≤ R.frames) (hl : W + (maxL + 11) + rm.locals ≤ R.locals) (hc : cells + rm.cells ≤ R.cells) (hs : slots + rm.slots ≤ R.slots) (hdg : decode c.code g.pc = .ok (.invokestatic index, 3)) (has : argsL.toArray = as')
    {x : ExceptionTableEntry} {rst : List ExceptionTableEntry} (hsplit : c.exceptionTable.toList = x :: rst) (hcov : covers x g.pc = true) (h0 : x.catchType ≠ 0) (hcl : (Cond.classLink own x.catchType cls).before args s = true) :
    ∃ (a : Addr) (B : State), Stand p l e R (s.setVm B.vm) m args below meth c B locs (cells + rm.cells) (slots + rm.slots) ∧ s.Since B.vm B.heap.size ∧ h.size ≤ B.heap.size ∧ Keep h B.heap [] ∧
      Steps p.tables e below (T.setTop g) (B.setTop { g with pc := x.handlerPc, stack := [.ref a] }) := by
  obtain ⟨mk, w1⟩ := Cond.code_named hcode
  obtain ⟨my, _, w2, -, -, -, -, -, -, w3⟩ := Cond.code_spec w1 hcode
  obtain ⟨ky, w4, -⟩ := className_of_methodNamed w1
  subst has
  obtain ⟨vm₁, X₁, go⟩ := X.invokestatic hx hown hlink w1 w2 (Cond.static_spec w1 w2 hstat) w4 (Cond.initialized_spec (findClass_of_methodNamed w1) w4 hinit) hy hg (hlen _ w3) hstack hdg
  have hn := X₁.named w1
  have hU : Z.Warmed39 (T.setVm vm₁).vm := wtrans hZ X₁.warmed
  obtain ⟨_, cy, v1, v2, -, v3, -, -, -, -⟩ := Cond.code_spec hn (mv hU wc (args := #[]))
  obtain ⟨o, t, run, fin, thr⟩ := own_free X₁ (g := { g with stack := rest }) hg hsize hdg hn v1 v2 (mv hU wz) hM hf (by rw [v3]; exact Nat.le_trans (Nat.add_le_add_right (Nat.add_le_add_right hWd _) _) hl) hc hs
    (by show (Cond.and _ .tt).before _ _ = true; rw [Cond.before_and, mv hU wc]; rfl) ⟨rfl, hU, eT, own_ibW hIB X₁.warmed⟩ (known_frames X₁ hg hTK hBelow)
  obtain ⟨v, ce, k, rfl, r1, r2, r3, r4, r5, hW, hB, hsm⟩ := thr
  obtain ⟨B, b1, b2, b3, b4, X', hS, kept⟩ := own_wide X₁ hW hB hsm
  have tf : t.frames = .throwing v :: .java { g with stack := rest } :: (T.setVm vm₁).frames.tail := fin
  have te : t = (B.setTop { g with stack := rest }).pushFrame (.throwing v) := b3.trans (by rw [tf, own_push X'.here.top, b4])
  have come : Steps p.tables e below (T.setTop g) ((B.setTop { g with stack := rest }).pushFrame (.throwing v)) := te ▸ (go _ fun acts => by rw [doInvoke_state]; exact run)
  obtain ⟨hrow, hk0⟩ := X'.catches_of_link (own := own) (name := cls) (x := x) (thrown := ce.cls) ((hS.1.alike.findClass _ _).trans hown) h0 (Cond.rides hS.1 rfl hcl) (b2 ▸ r4) (b2 ▸ r5)
  obtain ⟨vm', X₃, st₃⟩ := X'.thenCaughtThrough v (g := { g with stack := rest }) hg come (cell := ce) (b1 ▸ r1) (by rw [r2]; rfl) hk0 [] x rst hsplit (fun y hy => by cases hy) hcov hrow
  have X₄ := X₃.retabled X₃.warmed.wide
  rw [List.append_nil] at X₄
  have hold : ∀ (x : Addr) (c0 : Cell), h[x]? = some c0 → B.heap[x]? = some c0 := fun x c0 q => kept.kept_nil (show T.heap[x]? = some c0 from eT ▸ q)
  have hsz : h.size ≤ B.heap.size := eT ▸ kept.2.1
  exact ⟨v, _, X₄, hS.trans (X₃.warmed.since _) (Nat.le_refl _), hsz, ⟨hsz, fun x c0 q _ => hold x c0 q, fun x c0 q => ⟨c0, hold x c0 q, rfl, rfl, rfl⟩⟩, st₃⟩
section Bun
open LibCode.Throwable
theorem own_thObj {args : Array Value} {s : State} {b : ByteArray} (w1 : (Cond.instanceMethod oInit).before args s = true) (w2 : (Cond.code oInit b 1 none).before args s = true) :
    ∃ (m : MethodId) (k : Class) (x : Method) (c : Code), s.methodNamed? oInit = some m ∧ s.vm.classes[m.cls]? = some k ∧ k.name = "java/lang/Object" ∧ s.vm.method? m = some x ∧ x.name = "<init>" ∧ x.isStatic = false ∧ x.isAbstract = false ∧
      lookupSpecial s.vm m.cls "<init>" x.desc = .method m ∧ x.sig.parameters.length = 0 ∧ x.code = some c ∧ c.code = b ∧ x.locks = false := by
  obtain ⟨m, x, n1, n2, n3, n4⟩ := Cond.instanceMethod_spec w1
  obtain ⟨x', c, d1, d2, d3, -, -, d6, -, d8⟩ := Cond.code_spec n1 w2
  cases n2.symm.trans d1
  obtain ⟨k, k1, k2⟩ := Vm.findClass_spec (findClass_of_methodNamed n1)
  have nd := name_of_methodNamed n1 n2
  have sg : x.sig = ⟨[], none⟩ := Option.some.inj (d8.symm.trans (by decide +kernel))
  exact ⟨m, k, x, c, n1, k1, k2, n2, nd.1, n3, n4, nd.2 ▸ lookupSpecial_of_named n1 n2 n3, by rw [sg]; rfl, d2, d3, d6⟩
theorem own_thPool {args : Array Value} {s : State} {x : MethodName} {index c : Nat} {k : Class} {m : MethodId} {cf : ClassFile} (fc : s.vm.findClass tN = some c) (fk : s.vm.classes[c]? = some k) (q : k.cf = some cf) (hn : s.methodNamed? x = some m)
    (hl : (Cond.methodLink tN index x).before args s = true) {pl : Platform} (hpl : pl.magicAccessors = ({} : Platform).magicAccessors) :
    ∃ ci nt, s.vm.MethodLinks pl c index ci m ∧ s.rightAt c index (.method m) = true ∧ (cf.constantPool[index]? = some (.methodref ci nt) ∨ cf.constantPool[index]? = some (.interfaceMethodref ci nt)) := by
  obtain ⟨ci, nt, cf', h1, h2, h3, h4⟩ := Cond.linkedMethod fc fk hn hl pl hpl
  cases q.symm.trans h3
  exact ⟨ci, nt, h1, h2, h4⟩
theorem own_links {args : Array Value} {s : State} {pl : Platform} (howns : pl.frameOwnsMonitors = true) (hfin : pl.finalization = false) (hpl : pl.magicAccessors = ({} : Platform).magicAccessors) {rc : String}
    (w : ∀ d ∈ throwableAtoms, d ≠ .lays tN tN "suppressedExceptions" listD → d.before args s = true) (v1 : (Cond.lays rc tN "suppressedExceptions" listD).before args s = true) (v2 : (Cond.lays rc tN "stackTrace" steD).before args s = true) :
    ∃ T : ThrowableC, T.Links pl s ∧ s.vm.findClass tN = some T.cT ∧ s.methodNamed? tFill = some T.fill ∧ s.methodNamed? tFill0 = some T.fill0 ∧ s.fieldFound? tN "stackTrace" steD = some (T.cT, T.kT, T.i17, T.fStack) ∧ T.fStack.name = "stackTrace" ∧ T.fStack.type = (.array (.object "java/lang/StackTraceElement")) ∧
      s.fieldFound? tN "UNASSIGNED_STACK" steD = some (T.cT, T.kT, T.i13, T.fUnassigned) ∧ ∃ i, s.fieldFound? tN "detailMessage" "Ljava/lang/String;" = some (T.cT, T.kT, i, T.fMsg) := by
  obtain ⟨c, k, _, _, _, _, fc, ff, -⟩ := Cond.laysStatic_spec (w _ (List.mem_of_getElem? (i := 20) rfl) (by simp))
  have fk := (State.fieldFound?_spec ff).1
  obtain ⟨k0, z1, kn⟩ := Vm.findClass_spec fc
  cases fk.symm.trans z1
  obtain ⟨_, k1, _, -, z2, -, -, -, -, ki⟩ := Cond.superclass_spec fc (w _ (List.mem_of_getElem? (i := 1) rfl) (by simp))
  cases fk.symm.trans z2
  obtain ⟨j13, i13, f13, b13, _, l13, r13, a13, s13, -, -, y13, -, -, -, -, x13⟩ := Cond.ownStatic (t := (.array (.object "java/lang/StackTraceElement"))) fc fk (by decide +kernel) (w _ (List.mem_of_getElem? (i := 19) rfl) (by simp)) (w _ (List.mem_of_getElem? (i := 20) rfl) (by simp)) pl hpl
  obtain ⟨j20, i20, f20, b20, _, l20, r20, a20, s20, -, -, y20, -, -, -, -, x20⟩ := Cond.ownStatic (t := (.object "java/util/List")) fc fk (by decide +kernel) (w _ (List.mem_of_getElem? (i := 21) rfl) (by simp)) (w _ (List.mem_of_getElem? (i := 22) rfl) (by simp)) pl hpl
  obtain ⟨j7, i7, f7, l7, r7, a7, s7, n7, m7, t7, x7⟩ := Cond.ownField (t := (.object tN)) fc fk (by decide +kernel) (w _ (List.mem_of_getElem? (i := 13) rfl) (by simp)) (w _ (List.mem_of_getElem? (i := 14) rfl) (by simp)) pl hpl
  obtain ⟨j17, i17, f17, l17, r17, a17, s17, n17, m17, t17, x17⟩ := Cond.ownField (t := (.array (.object "java/lang/StackTraceElement"))) fc fk (by decide +kernel) (w _ (List.mem_of_getElem? (i := 15) rfl) (by simp)) (w _ (List.mem_of_getElem? (i := 16) rfl) (by simp)) pl hpl
  obtain ⟨j24, i24, f24, l24, r24, a24, s24, n24, m24, t24, x24⟩ := Cond.ownField (t := (.object "java/util/List")) fc fk (by decide +kernel) (w _ (List.mem_of_getElem? (i := 17) rfl) (by simp)) v1 pl hpl
  obtain ⟨_, _, cM, kM, iM, fM, -, -, xM, sM, nM, -⟩ := Cond.lays_spec (w _ (List.mem_of_getElem? (i := 23) rfl) (by simp))
  cases fc.symm.trans (Cond.lays_declared (w _ (List.mem_of_getElem? (i := 23) rfl) (by simp)) xM)
  cases fk.symm.trans (State.fieldFound?_spec xM).1
  obtain ⟨iF, mF, p1, p2, p3, p4, p5, -, -⟩ := Cond.ownMethod (x := tFill) fc fk (w _ (List.mem_of_getElem? (i := 2) rfl) (by simp))
  obtain ⟨_, cF, u1, u2, u3, u4, u5, u6, -, u8⟩ := Cond.codeSync_spec p1 (w _ (List.mem_of_getElem? (i := 3) rfl) (by simp))
  cases p2.symm.trans u1
  obtain ⟨iN, mN, g1, g2, g3, g4, g5, g6, g7⟩ := Cond.ownMethod (x := tFill0) fc fk (w _ (List.mem_of_getElem? (i := 4) rfl) (by simp))
  obtain ⟨_, _, e1, e2, e3, e4, e5, e6⟩ := Cond.native_spec (w _ (List.mem_of_getElem? (i := 5) rfl) (by simp))
  cases g1.symm.trans e1
  cases g2.symm.trans e2
  obtain ⟨mO, kO, xO, cO, o1, o2, o3, o4, o5, o6, o7, o8, o9, o10, o11, o12⟩ := own_thObj (w _ (List.mem_of_getElem? (i := 8) rfl) (by simp)) (w _ (List.mem_of_getElem? (i := 9) rfl) (by simp))
  obtain ⟨j1, n1, cf, b1, b2, q, b4⟩ := Cond.linkedMethod fc fk o1 (w _ (List.mem_of_getElem? (i := 10) rfl) (by simp)) pl hpl
  obtain ⟨j27, n27, l27, r27, z27⟩ := own_thPool fc fk q p1 (w _ (List.mem_of_getElem? (i := 11) rfl) (by simp)) hpl
  obtain ⟨j202, n202, l202, r202, z202⟩ := own_thPool fc fk q g1 (w _ (List.mem_of_getElem? (i := 12) rfl) (by simp)) hpl
  have sF : mF.sig = ⟨[], some (.object tN)⟩ := Option.some.inj (u8.symm.trans (by decide +kernel))
  have sN : mN.sig = ⟨[.int], some (.object tN)⟩ := Option.some.inj (e6.symm.trans (by decide +kernel))
  refine ⟨{ cT := c, kT := k, cO := c, aS := b13, fillIdx := iF, fill0Idx := iN, initSIdx := iF, obj := mO, kObj := kO, methFill := mF, methFill0 := mN, methInitS := mF, methObj := xO, codeFill := cF, codeInitS := cF, codeObj := cO, fBack := f17, fDepth := f17, fStack := f17, fCause := f7, fSupp := f24, fMsg := fM, fUnassigned := f13, fSentinel := f20, cfT := cf, ci1 := j1, n1 := n1, ci27 := j27, n27 := n27, ci202 := j202, n202 := n202, ci7 := j7, i7 := i7, ci13 := j13, i13 := i13, ci17 := j17, i17 := i17, ci20 := j20, i20 := i20, ci24 := j24, i24 := i24 }, ?_, fc, p1, g1, x17, m17, t17, x13, iM, xM⟩
  exact { owns := howns, noFinalization := hfin, cls := fk, name := kn, boot := Vm.findClass_boot fc fk, notInterface := ki, initialized := Cond.initialized_spec fc fk (w _ (List.mem_of_getElem? (i := 0) rfl) (by simp)), statics := y13, fillAt := p3, fillCode := u2, fillBytes := u3, fillLocals := u4, fillLocks := u6, fillStatic := p4, fillAbstract := p5, fillReturns := u5, fillParams := by rw [sF], fill0At := g3, fill0Name := g6, fill0Desc := g7, fill0Params := by rw [sN], fill0Static := g4, fill0Native := e3, fill0Code := e4, fill0Locks := e5, fill0Abstract := g5, stackInstance := s17, stackNotFinal := n17, unassignedStatic := s13, objClass := o2, objClassName := o3, objMethod := o4, objName := o5, objStatic := o6, objAbstract := o7, objFound := o8, objParams := o9, objCode := o10, objBytes := o11, objLocks := o12, causeInstance := s7, causeNotFinal := n7, sentinelStatic := s20, suppInstance := s24, suppNotFinal := n24, msgInstance := sM, msgNotFinal := nM, stackApartSupp := Cond.lays_apart v2 v1 x17 x24 (by rw [m17, m24]; decide), file := q, mlink1 := b1, mright1 := b2, pool1 := b4, mlink27 := l27, mright27 := r27, pool27 := z27, mlink202 := l202, mright202 := r202, pool202 := z202, link7 := l7, right7 := r7, at7 := a7, link13 := l13, right13 := r13, at13 := a13, link17 := l17, right17 := r17, at17 := a17, link20 := l20, right20 := r20, at20 := a20, link24 := l24, right24 := r24, at24 := a24 }
end Bun
section Fil
open Jvm.Free.Exc
def own_B (rc : String) : List Jvm.Cond := [.declares tFill, .selects rc tFill0 tFill0, .selects rc tFill tFill, .lays rc tN "cause" thD, .lays rc tN "stackTrace" steD, .lays rc tN "suppressedExceptions" listD, .lays rc tN "detailMessage" msgD,
  .fieldLink tN 198 tN "backtrace" obD, .lays tN tN "backtrace" obD, .lays rc tN "backtrace" obD, .arrayOver (.object "java/lang/Object"), .soleField tN "backtrace", .soleField tN "depth", .lays rc tN "depth" "I", .instantiable rc 6]
/-- which method is run where a class of the receiver's name selects it itself -/
theorem own_selOf {l : Launch} {e : Env} {s : State} {args : Array Value} {rc : String} {x : MethodName} {c : ClassId} {m : MethodId} (ad : l.admits e) (w : (Cond.selects rc x x).before args s = true) (fr : s.vm.findClass rc = some c) (hn : s.methodNamed? x = some m) (hf : s.methodFound? x.cls x.name x.desc = some m) :
    selectMethod e.platform s.vm c m = .method m := by
  obtain ⟨_, _, _, q1, q2, q3, q4, -⟩ := Cond.selects_spec w
  cases q1.symm.trans fr; cases q3.symm.trans hn; cases q2.symm.trans hf
  exact (Launch.admits_selectMethod ad _ _ _).trans q4
/-- a field of Throwable's own that a class lays -/
theorem own_laid {s : State} {args : Array Value} {rc n d : String} {t : FieldType} {c : ClassId} {k : Class} (fc : s.vm.findClass tN = some c) (fk : s.vm.classes[c]? = some k) (ht : parseFieldDescriptor d = some t) (w : (Cond.lays rc tN n d).before args s = true) :
    ∃ i f, s.fieldFound? tN n d = some (c, k, i, f) ∧ k.fields[i]? = some f ∧ f.isStatic = false ∧ f.name = n ∧ f.type = t := by
  obtain ⟨_, _, _, _, i, f, -, -, x, st, -⟩ := Cond.lays_spec w
  cases fc.symm.trans (Cond.lays_declared w x)
  cases fk.symm.trans (State.fieldFound?_spec x).1
  exact ⟨i, f, x, (State.fieldFound?_spec x).2, st, State.fieldFound?_type x ht⟩
set_option maxHeartbeats 4000000 in
/-- fillInStackTrace() on the object that is being made, in Throwable's constructor -/
theorem own_fill {p : Program} {l : Launch} {e : Env} {R : Room} {s Z : State} {m : MethodId} {args : Array Value} {below : List Frame} {meth : Method} {c : Code} {T : State} {locs : List Loc} {h : Heap}
    (X : Stand p l e R s m args below meth c T locs 0 0) (hx : p.tables.exec = Jvm.exec) (htr : e.platform.stackTraces = true) (hZ : Z.Warmed39 s.vm) {rc : String}
    (W1 : ∀ d ∈ throwableAtoms, d ≠ .lays tN tN "suppressedExceptions" listD → d.before args s = true) (W2 : ∀ d ∈ own_B rc, d.before args s = true) (hown : s.vm.findClass tN = some m.cls) (hTK : s.vm.MethodsKnown) (hBelow : s.vm.FramesKnown below) (eT : T.heap = h)
    {a : Addr} (hloc : ∀ x ∈ locs, x.base = a) (E : Exa Z h a rc) (U : Unt h a) {us : Value} (hu : us.isRef = true) (FS : Fld Z h a tN "stackTrace" steD us) (FB : Fld Z h a tN "backtrace" obD .null) (FM : Fld Z h a tN "detailMessage" msgD .null) (SU : Sta Z h tN "UNASSIGNED_STACK" steD us)
    {g : JFrame} (hg : g.method = m) (hsize : g.locals.size = c.maxLocals) (hs : g.stack = [.ref a]) (hmr : g.monitorRoom = 0) (hd : decode c.code g.pc = .ok (.invokevirtual 27, 3)) (hf : 3 ≤ R.frames) (hlo : 42 ≤ R.locals) (hce : 1 ≤ R.cells) (hsl : 2752 ≤ R.slots) :
    ∃ (T' : State) (L : List Loc), Stand p l e R s m args below meth c T' L 1 2752 ∧ (∀ x ∈ L, x.base = a) ∧ Keep h T'.heap [a] ∧ Unt T'.heap a ∧ Fld Z T'.heap a tN "detailMessage" msgD .null ∧
      Steps p.tables e below (T.setTop g) (T'.setTop { g with pc := g.pc + 3, stack := [.ref a] }) := by
  have pf : e.platform.frameOwnsMonitors = true ∧ e.platform.finalization = false ∧ e.platform.magicAccessors = ({} : Platform).magicAccessors := by rw [X.admits.platform]; exact ⟨rfl, rfl, rfl⟩
  obtain ⟨TC, L, y1, y2, y3, y4, y5, y6, y7, y8⟩ := own_links (args := args) pf.1 pf.2.1 pf.2.2 W1 (W2 _ (List.mem_of_getElem? (i := 5) rfl)) (W2 _ (List.mem_of_getElem? (i := 4) rfl))
  obtain ⟨cell, kZ, e1, e2, e3, e4, e5⟩ := E
  obtain ⟨cU, u1, u2, u3⟩ := U
  cases e1.symm.trans u1
  have hfound : s.vm.findClass rc = some cell.cls := by rw [hZ.alike.findClass]; exact e2
  obtain ⟨cX, kX, i1, i2, i3, -⟩ := Cond.instantiable_spec (W2 (.instantiable rc 6) (by simp [own_B]))
  cases hfound.symm.trans i1
  obtain ⟨kX', hkX', hek⟩ := hZ.alike.2.2 _ _ e3
  cases i2.symm.trans hkX'
  have hsz : cell.slots.size = kX.instanceTypes.size := by
    have q := e5 (by rw [hek] at i3; exact i3)
    rw [q, hek]
  have hsel0 := own_selOf X.admits (W2 _ (List.mem_of_getElem? (i := 1) rfl)) hfound y3 (State.methodFound?_of_named y3 (by decide))
  have fld : ∀ {n d : String} {v : Value} {cf : ClassId} {k : Class} {i : Nat} {f : Field}, Fld Z h a tN n d v → s.fieldFound? tN n d = some (cf, k, i, f) → cell.slots[f.slot]? = some v := fun {n d v cf k i f} F q => by
    obtain ⟨c1, cf1, k1, i1', f1, h1, h2, -, -, -, -, h7⟩ := F
    cases e1.symm.trans h1
    obtain ⟨k2, q2, -⟩ := State.fieldFound?_setVm (s := Z) hZ.alike h2
    cases q.symm.trans q2
    exact h7
  obtain ⟨cfU, iU, kU, fU, aU, cellS, s1, s2, -, s4, s5, s6, s7⟩ := SU
  obtain ⟨kU', sq1, sq2⟩ := State.fieldFound?_setVm (s := Z) hZ.alike s1
  cases y7.symm.trans sq1
  have hsU : TC.kT.statics = some aU := by rw [sq2]; exact s4
  cases Option.some.inj (hsU.symm.trans L.statics)
  have hneS : TC.aS ≠ a := fun q => by
    rw [q, e1] at s5
    rw [← Option.some.inj s5, u2] at s6
    cases s6
  have hknS : cellS.vm ≠ .unknown := fun q => by rw [q] at s6; cases s6
  obtain ⟨j198, i198, fB, k1, k2, k3, sB, -, nB, tB, xB⟩ := Cond.ownField (t := .object "java/lang/Object") y1 L.cls (by decide +kernel) (W2 _ (List.mem_of_getElem? (i := 7) rfl)) (W2 _ (List.mem_of_getElem? (i := 8) rfl)) e.platform pf.2.2
  obtain ⟨iD, fD, xD, aD, sD, nD, tD⟩ := own_laid (t := .int) y1 L.cls (by decide +kernel) (W2 _ (List.mem_of_getElem? (i := 13) rfl))
  obtain ⟨iM, xM⟩ := y8
  have nM : TC.fMsg.name = "detailMessage" := (State.fieldFound?_type xM (t := .object "java/lang/String") (by decide +kernel)).1
  obtain ⟨comp, cO, kO, -, -, hkO, hkindO, hO⟩ := Cond.arrayOver_spec (W2 _ (List.mem_of_getElem? (i := 10) rfl))
  have ty : ∀ {n d : String} {i : Nat} {f : Field}, (Cond.lays rc tN n d).before args s = true → s.fieldFound? tN n d = some (TC.cT, TC.kT, i, f) → kX.instanceTypes[f.slot]? = some f.type := fun w x => (Cond.laysAt hfound i2 x w).1
  have off : ∀ {n d : String} {i : Nat} {f : Field}, (Cond.lays rc tN n d).before args s = true → s.fieldFound? tN n d = some (TC.cT, TC.kT, i, f) → f.name ≠ "detailMessage" → TC.fMsg.slot ≠ f.slot := fun w x q => Cond.lays_apart (W2 _ (List.mem_of_getElem? (i := 6) rfl)) w xM x (by rw [nM]; exact Ne.symm q)
  have tk : ∀ {f : Field} {v : Value}, kX.instanceTypes[f.slot]? = some f.type → fits f.type v = true → Jvm.Takes s cell f v := fun {f v} h1 h2 => by
    obtain ⟨q1, q2⟩ := Takes.of_laid (v := v) i2 i3 h1 h2
    exact ⟨by rw [hsz]; simpa using q1, by rw [u2]; exact q2⟩
  have fS' : fits TC.fStack.type us = true := by rw [y6]; exact fits_refV_array _ ⟨us, hu⟩
  have hSE := W2 (.selects rc tFill tFill) (by simp [own_B])
  have hcellT : T.heap[a]? = some cell := by rw [eT]; exact e1
  have hcellST : T.heap[TC.aS]? = some cellS := by rw [eT]; exact s5
  subst hg
  obtain ⟨v6, vm6, ⟨T6, L6, c6, n6⟩, hW6, X6, ⟨hv6, C6, n, hn, hD6, q1, q2, q3, q4, hL6, hc6, hn6'⟩, come27⟩ := X.virtualBack hx (own := tN) (C := rc) (index := 27) (y := tFill) (z := tFill) hown (W1 (.methodLink tN 27 tFill) (by simp [throwableAtoms]) (by simp)) (W2 (.declares tFill) (by simp [own_B])) (notFace_of_selects hSE) hSE (W1 (.instanceMethod tFill) (by simp [throwableAtoms]) (by simp)) (by decide)
    (fillPaysAny (l := l) (W := 0) hx htr TC L y2 (u0 := ⟨us, hu⟩) (self := a) (cell := cell) (cellS := cellS) (fun _ => by rw [u2]; simp) (by rw [u2]; simp) (by rw [u3]) (by rw [u3]) (fld FS y4) hsel0 hneS hknS s7 (tk (ty (W2 _ (List.mem_of_getElem? (i := 4) rfl)) y4) fS')
      ⟨{ ci198 := j198, i198 := i198, fBack := fB }, ⟨k1, k2, k3, sB⟩, fld FB xB⟩ hTK hBelow y1 hO hkO hkindO (Cond.soleField_find y1 L.cls (W2 _ (List.mem_of_getElem? (i := 11) rfl)) k3 nB sB) (Cond.soleField_find y1 L.cls (W2 _ (List.mem_of_getElem? (i := 12) rfl)) aD nD sD)
      (fun x => tk (ty (W2 _ (List.mem_of_getElem? (i := 9) rfl)) xB) (by rw [tB]; rfl)) (fun x => tk (ty (W2 _ (List.mem_of_getElem? (i := 13) rfl)) xD) (by rw [tD]; rfl)) (by omega) (by omega))
    (b := a) (cB := cell.cls) hfound ⟨cell, hcellT, rfl, by rw [u2]; rfl⟩ (g := g) rfl hsize (Steps.refl _) (argsL := []) (rest := [])
    (fun sig h => by rw [show parseMethodDescriptor tFill.desc = some ⟨[], some (.object tN)⟩ from by decide +kernel] at h; rw [← Option.some.inj h]; rfl) hs (by rw [hmr]; show 2 * 0 + 0 ≤ 0; decide) hd
    (fun vmx hWx => ⟨rfl, by show 0 + 1 ≤ R.cells; omega, by show 0 + 2752 ≤ R.slots; omega, hcellT, hcellST⟩)
  dsimp only [Pt.U, Pt.locs, Pt.cells, Pt.slots] at X6 hD6 hL6 hc6 hn6' come27
  subst hv6 hL6 hc6 hn6'
  have hL6 : ∀ x ∈ locs ++ [⟨a, fB.slot⟩, ⟨a, fD.slot⟩, ⟨a, TC.fStack.slot⟩], x.base = a := fun x hx => by
    rcases List.mem_append.mp hx with q | q
    · exact hloc x q
    · simp only [List.mem_cons, List.not_mem_nil, or_false] at q
      rcases q with rfl | rfl | rfl <;> rfl
  have z1 : s.heap.size ≤ T.heap.size := X.same.2.1
  have z2 : T.heap.size ≤ s.heap.size + 0 := X.same.2.2.1
  have z3 : s.heap.size ≤ T6.heap.size := X6.same.2.1
  have same : ∀ {T' : State} {L' : List Loc} {c' n' : Nat}, Stand p l e R s g.method args below meth c T' L' c' n' → (∀ x ∈ L', x.base = a) → ∀ (x : Addr) (c0 : Cell), x ≠ a → s.heap[x]? = some c0 → T'.heap[x]? = some c0 := fun {T' L' c' n'} X' hL' x c0 hne q => by
    obtain ⟨c1, w1, w2, -, w4⟩ := X'.same.2.2.2.2.2 x c0 q
    have w5 : c1.slots = c0.slots := Array.ext_getElem? fun i => w4 i fun hm => hne (hL' _ hm)
    have w6 : T'.heap[x]? = some c1 := w1
    rw [w6, w2, w5]
  have mon : ∀ {T' : State} {L' : List Loc} {c' n' : Nat} {c1 ca : Cell}, Stand p l e R s g.method args below meth c T' L' c' n' → s.heap[a]? = some ca → T'.heap[a]? = some c1 → c1.monitor = ca.monitor := fun {T' L' c' n' c1 ca} X' q q' => by
    obtain ⟨c2, w1, w2, -, -⟩ := X'.same.2.2.2.2.2 a ca q
    have w6 : T'.heap[a]? = some c2 := w1
    cases q'.symm.trans w6
    rw [w2]
  have there : ∀ x, x < h.size → ∃ c0, s.heap[x]? = some c0 := fun x hx => by
    have : x < s.heap.size := by rw [← eT] at hx; omega
    exact ⟨_, Array.getElem?_eq_getElem this⟩
  have alt : a < h.size := (Array.getElem?_eq_some_iff.mp e1).1
  obtain ⟨ca, hca⟩ := there a alt
  have hmon : C6.monitor = {} := by rw [mon X6 hca hD6, ← mon X hca hcellT, u3]
  have keepO : ∀ (x : Addr) (c0 : Cell), h[x]? = some c0 → x ≠ a → T6.heap[x]? = some c0 := fun x c0 q hne => by
    obtain ⟨c1, w⟩ := there x (Array.getElem?_eq_some_iff.mp q).1
    have w2 := same X hloc x c1 hne w
    rw [eT] at w2
    cases q.symm.trans w2
    exact same X6 hL6 x _ hne w
  refine ⟨T6, _, X6.more (by omega) (by omega), hL6, ⟨by rw [← eT]; omega, fun x c0 q hn => keepO x c0 q fun z => hn (by rw [z]; exact List.mem_singleton.mpr rfl), fun x c0 q => ?_⟩, ⟨C6, hD6, q2.trans u2, hmon⟩, ?_, come27⟩
  · by_cases z : x = a
    · subst z
      cases e1.symm.trans q
      exact ⟨C6, hD6, q1, q2, q3⟩
    · exact ⟨c0, keepO x c0 q z, rfl, rfl, rfl⟩
  · have q5 := fld FM xM
    obtain ⟨c1, cf1, k1, i1', f1, h1, h2, h3, h4, h5, h6, -⟩ := FM
    cases e1.symm.trans h1
    obtain ⟨k2, q6, -⟩ := State.fieldFound?_setVm (s := Z) hZ.alike h2
    cases xM.symm.trans q6
    exact ⟨C6, _, _, _, _, hD6, h2, h3, by rw [q2]; exact h4, by rw [q2]; exact h5, by rw [q1]; exact h6, (q4 _ (off (W2 _ (List.mem_of_getElem? (i := 9) rfl)) xB (by rw [nB]; decide)) (off (W2 _ (List.mem_of_getElem? (i := 13) rfl)) xD (by rw [nD]; decide)) (off (W2 _ (List.mem_of_getElem? (i := 4) rfl)) y4 (by rw [y5]; decide))).trans q5⟩
end Fil
theorem own_thS {Z : State} {h : Heap} (E : Ext Z.heap h) : ThS Z h := fun _ _ _ _ _ _ _ q _ => E.2 _ _ q
theorem own_sub1 : (throwableAtoms.all fun d => (tables_1.contains d && xOk d) || decide (d = .lays tN tN "suppressedExceptions" listD)) = true := by decide +kernel
theorem own_sub2' : ((own_B "java/lang/IllegalArgumentException").all fun d => tables_1.contains d && xOk d) = true := by decide +kernel
theorem own_W1 {Z s : State} {a0 args : Array Value} (hw : ∀ d ∈ tables_1, d.before a0 Z = true) (hZ : Z.Warmed39 s.vm) (E : Ext Z.heap s.heap) : ∀ d ∈ throwableAtoms, d ≠ .lays tN tN "suppressedExceptions" listD → d.before args s = true := fun d hd hne => by
  rcases Bool.or_eq_true_iff.mp (List.all_eq_true.mp own_sub1 d hd) with q | q
  · obtain ⟨q1, q2⟩ := Bool.and_eq_true_iff.mp q
    exact mvX (own_thS E) hZ q2 (hw d (by simpa using q1))
  · exact absurd (of_decide_eq_true q) hne
theorem own_W2 {Z s : State} {a0 args : Array Value} (hw : ∀ d ∈ tables_1, d.before a0 Z = true) (hZ : Z.Warmed39 s.vm) (E : Ext Z.heap s.heap) : ∀ d ∈ own_B "java/lang/IllegalArgumentException", d.before args s = true := fun d hd => by
  obtain ⟨q1, q2⟩ := Bool.and_eq_true_iff.mp (List.all_eq_true.mp own_sub2' d hd)
  exact mvX (own_thS E) hZ q2 (hw d (by simpa using q1))
theorem own_kext {h0 h : Heap} {Z : State} (E : Ext Z.heap h0) (K : Keep h0 h []) : Ext Z.heap h := ⟨Nat.le_trans E.1 K.1, fun a c q => K.2.1 _ _ (E.2 _ _ q) (by simp)⟩
theorem own_fresh {s : State} {n0 : Nat} {h0 : Heap} {L : List Loc} (hh : s.heap = h0) (hn : h0.size ≤ n0) (N : Fr n0 L) : ∀ x ∈ L, x ∈ ([] : List Loc) ∨ s.heap.size ≤ x.base := fun x hx => Or.inr (by rw [hh]; exact Nat.le_trans hn (N x hx))
theorem own_nz {args : Array Value} {s : State} {t : Term} {cs : Int32} (ev : t.eval args s none [] s = some (.int cs)) (h : (Jvm.Cond.not (Jvm.Cond.eq t (Term.int 0))).before args s = true) : ¬ cs = (0 : Int32) := by
  have h2 := not_v (Cond.before_iff.mp h)
  simpa [Cond.value, ev, Term.eval] using h2
section Bya
variable {Z : State} {h h' : Heap} {a b : Addr} {n : Int32} {v : Value} {sl : Nat} {ws : List Addr}
/-- a byte[] of n components, whatever they are -/
def ByA (Z : State) (h : Heap) (a : Addr) (n : Int32) : Prop := (∃ (k : ClassId) (vs : List Value), Arv Z h a k .byte n vs (.int 0) ∧ vs.length = n.toNatClampNeg) ∧ Exa Z h a "[B"
theorem ByA.exa (F : ByA Z h a n) : Exa Z h a "[B" := F.2
theorem ByA.lt (F : ByA Z h a n) : a < h.size := F.2.lt
theorem ByA.ext (F : ByA Z h a n) (E : Ext h h') : ByA Z h' a n := by
  obtain ⟨⟨k, vs, A, q⟩, X⟩ := F; exact ⟨⟨k, vs, A.ext E, q⟩, X.ext E⟩
theorem ByA.other (F : ByA Z h b n) (W : Wr h h' a sl v) (q : b ≠ a) : ByA Z h' b n := by
  obtain ⟨⟨k, vs, A, r⟩, X⟩ := F; exact ⟨⟨k, vs, A.other W q, r⟩, X.wr W⟩
theorem ByA.keep (F : ByA Z h a n) (K : Keep h h' ws) (q : a ∉ ws) : ByA Z h' a n := by
  obtain ⟨⟨k, vs, A, r⟩, X⟩ := F; exact ⟨⟨k, vs, A.keep K q, r⟩, X.keep K⟩
theorem ByA.plain (F : ByA Z h a n) : ∀ cell : Cell, h[a]? = some cell → cell.vm.isStatics = false := own_eplain F.2
theorem ByA.of {k : ClassId} {vs : List Value} {dv : Value} (A : Arv Z h a k .byte n vs dv) (X : Exa Z h a "[B") : ByA Z h a n := by
  obtain ⟨c, Ar, q1, S, N, H, G⟩ := A
  have g : ∀ i, i < c.slots.size → ((List.range n.toNatClampNeg).map fun i => vs.getD i dv).getD i (.int 0) = vs.getD i dv := fun i hi => by
    rw [S] at hi; simp [List.getD_eq_getElem?_getD, List.getElem?_map, List.getElem?_range hi]
  exact ⟨⟨k, (List.range n.toNatClampNeg).map fun i => vs.getD i dv, ⟨c, Ar, q1, S, N, fun i hi => by rw [g i hi]; exact H i hi, fun i hi => by rw [g i hi]; exact G i hi⟩, by simp⟩, X⟩
theorem ByA.opn (F : ByA Z h a n) : ∃ c : Cell, Arr Z h a c .byte ∧ c.slots.size = n.toNatClampNeg ∧ ¬ n < 0 ∧ ∀ i, i < c.slots.size → ∃ x : Int32, c.slots[i]? = some (.int x) := by
  obtain ⟨⟨k, vs, ⟨c, Ar, q1, S, N, H, G⟩, q⟩, X⟩ := F
  refine ⟨c, Ar, S, N, fun i hi => ?_⟩
  obtain ⟨x, hx⟩ := fit_I (G i hi) (by simp)
  exact ⟨x, by rw [H i hi, hx]⟩
theorem ByA.set {j x : Int32} (F : ByA Z h a n) (W : Wr h h' a j.toNatClampNeg (.int (nar .byte x))) : ByA Z h' a n := by
  obtain ⟨⟨k, vs, ⟨c, Ar, q1, S, N, H, G⟩, q⟩, X⟩ := F
  have hb : j.toNatClampNeg < c.slots.size := by
    obtain ⟨c2, w1, -, w3, -⟩ := id W
    cases Ar.1.symm.trans w1; exact w3
  refine ByA.of (k := k) (vs := vs.set j.toNatClampNeg (.int (nar .byte x))) (dv := .int 0) ⟨_, Ar.same W, q1, by rw [sz_set]; exact S, N, fun i hi => ?_, fun i hi => ?_⟩ (X.wr W) <;> rw [sz_set] at hi
  · by_cases e : j.toNatClampNeg = i
    · subst e; simp [Cell.setSlot, hi, List.getD_eq_getElem?_getD, show j.toNatClampNeg < vs.length by omega]
    · simp only [Cell.setSlot]; rw [Array.getElem?_setIfInBounds_ne e, H i hi]; simp [List.getD_eq_getElem?_getD, List.getElem?_set_ne e]
  · by_cases e : j.toNatClampNeg = i
    · subst e; simp only [List.getD_eq_getElem?_getD, List.getElem?_set_self (show j.toNatClampNeg < vs.length by omega)]; exact fits_nar_byte _
    · have := G i hi; simp only [List.getD_eq_getElem?_getD, List.getElem?_set_ne e] at this ⊢; exact this
theorem ByA.neArv {k : ClassId} {z : Int32} {vs : List Value} {dv : Value} (F : ByA Z h a n) (A : Arv Z h b k .byte z vs dv) (q : z.toNatClampNeg ≠ n.toNatClampNeg) : b ≠ a := fun e => by
  subst e
  obtain ⟨c, Ar, S, -⟩ := F.opn
  obtain ⟨c2, Ar2, -, S2, -⟩ := A
  cases Ar.1.symm.trans Ar2.1
  exact q (S2.symm.trans S)
/-- a table of bytes that stood before the law -/
theorem ByA.start {args a0 : Array Value} {t : Term} (hf : Fit Z) (ev : t.eval args Z none [] Z = some (.ref a)) (w1 : (Cond.exactly t "[B").before args Z = true) (w2 : (Cond.eq (Term.length t) (Term.int n)).before args Z = true) (wa : (Cond.arrayClass .byte).before a0 Z = true) (hn : ¬ n < 0) : ByA Z Z.heap a n := by
  have X := Exa.start ev (Cond.before_iff.mp w1)
  obtain ⟨cell, k, e1, e2, e3, e4, -⟩ := id X
  obtain ⟨c4, k4, comp, f1, f2, f3⟩ := Cond.arrayClass_spec wa
  cases (show Z.vm.findClass "[B" = some c4 from f1).symm.trans e2
  have hl := own_eqv (Term.int_eval n) (Cond.before_iff.mp w2)
  obtain ⟨x, cl, hev, harr, -⟩ := Term.length_spec hl
  cases ev.symm.trans hev
  have hc : Z.heap[a]? = some cl ∧ cl.vm ≠ .unknown := by
    have q := State.arrayAt?_spec harr
    exact ⟨q.1, q.2.1⟩
  have ecl : cell = cl := Option.some.inj (e1.symm.trans hc.1)
  subst ecl
  have hq : cell.slots.size < 2 ^ 31 := by
    refine Nat.lt_of_not_le fun g => ?_
    have g' : ¬ cell.slots.size < 2147483648 := by omega
    have : (Term.length t).eval args Z none [] Z = none := by simp [Term.eval, ev, harr, g']
    rw [this] at hl; cases hl
  have A : Arr Z Z.heap a cell .byte := ⟨hc.1, ⟨fun q r => (by rw [r] at e4; cases e4), k4, f2, comp, f3⟩, hc.2⟩
  have e : cell.slots.size.toInt32 = n := by
    have := len_f (cl := cell) ev harr hq
    exact Value.int.inj (Option.some.inj (this.symm.trans hl))
  have S : cell.slots.size = n.toNatClampNeg := by rw [← e]; simp only [Int32.toNatClampNeg, len_toInt hq]; rfl
  refine ByA.of (k := cell.cls) (vs := cell.slots.toList) (dv := .int 0) ⟨cell, A, rfl, S, hn, fun i hi => ?_, fun i hi => ?_⟩ X
  · simp [List.getD_eq_getElem?_getD, hi]
  · have e1 : (Nat.toInt32 i).toNatClampNeg = i := by simp only [Int32.toNatClampNeg, len_toInt (Nat.lt_trans hi hq)]; rfl
    obtain ⟨v, w1, w2⟩ := elem_fit (j := Nat.toInt32 i) hf A (idx_in hi hq)
    rw [e1] at w1
    simp [List.getD_eq_getElem?_getD, w1, w2]
end Bya
theorem own_ishl0 (x : Int32) : x <<< ((0 : Int32) &&& 31) = x := by
  have : ((0 : Int32) &&& 31) = 0 := by decide
  rw [this]; simp
theorem own_ishr0 (x : Int32) : x >>> ((0 : Int32) &&& 31) = x := by
  have : ((0 : Int32) &&& 31) = 0 := by decide
  rw [this]; simp
theorem own_isub0 (x : Int32) : x - (0 : Int32) = x := by simp
theorem own_nface {s : State} {args : Array Value} {C : String} {y : MethodName} (w : (Jvm.Cond.selects C y y).before args s = true) : ∃ c k, s.vm.findClass y.cls = some c ∧ s.vm.classes[c]? = some k ∧ k.isInterface = false := by
  obtain ⟨c2, r2, m2, -, -, q3, -, kP, hkP, hkPi⟩ := Cond.selects_spec w
  exact ⟨m2.cls, kP, findClass_of_methodNamed q3, hkP, hkPi⟩
theorem own_sameM {s : State} {args : Array Value} {y : MethodName} (q : ∃ c k, s.vm.findClass y.cls = some c ∧ s.vm.classes[c]? = some k ∧ k.isInterface = false) (w : (Jvm.Cond.instanceMethod y).before args s = true) (hy : y.cls ≠ "java/lang/invoke/MethodHandle" ∧ y.cls ≠ "java/lang/invoke/VarHandle") : (Jvm.Cond.sameMethod y.cls y.cls y.name y.desc).before args s = true := by
  obtain ⟨c, k, hc, hk, hi⟩ := q
  obtain ⟨mk, methM, hnamed, -⟩ := Cond.instanceMethod_spec w
  have hf := State.methodFound?_of_named hnamed hy
  have h2 : s.methodNamed? ⟨y.cls, y.name, y.desc⟩ = some mk := hnamed
  simp [Cond.before, Cond.holds, Cond.value, hc, hf, h2, hk, hi]
theorem own_selUp {s : State} {args : Array Value} {C : String} {y : MethodName} (w : (Jvm.Cond.selects C y y).before args s = true) (wp : (Jvm.Cond.privateMethod y).before args s = true) (wn : (Jvm.Cond.instanceMethod y).before args s = true) (hy : y.cls ≠ "java/lang/invoke/MethodHandle" ∧ y.cls ≠ "java/lang/invoke/VarHandle") : (Jvm.Cond.selects y.cls y y).before args s = true := by
  obtain ⟨c, k, hc, hk, hi⟩ := own_nface w
  exact Jvm.Stand.selects_self_of_private hc hk hi (Cond.privateMethod_at wp) wn hy
theorem own_nf {s : State} {args : Array Value} {C : String} {y z : MethodName} (w : (Jvm.Cond.selects C z z).before args s = true) (e : z.cls = y.cls) : NotFace s y := fun r0 hr => by
  obtain ⟨c, k, hc, hk, hi⟩ := own_nface w
  rw [e] at hc
  have := findClass_of_methodNamed hr
  cases hc.symm.trans this
  exact ⟨k, hk, hi⟩
theorem own_natle {x y : Int32} (h : ¬ y < x) : x.toNatClampNeg ≤ y.toNatClampNeg := by
  rw [Int32.lt_iff_toInt_lt] at h; simp only [Int32.toNatClampNeg]; omega
theorem own_z0 : (0 : Int32).toNatClampNeg = 0 := by decide
def own_sizeN (y d : Int32) : Int32 := if (-10 : Int32) < y then 1 + d else if (-100 : Int32) < y then 2 + d else if (-1000 : Int32) < y then 3 + d else if (-10000 : Int32) < y then 4 + d else if (-100000 : Int32) < y then 5 + d else if (-1000000 : Int32) < y then 6 + d else if (-10000000 : Int32) < y then 7 + d else if (-100000000 : Int32) < y then 8 + d else if (-1000000000 : Int32) < y then 9 + d else 10 + d
def own_size (x : Int32) : Int32 := if x < (0 : Int32) then own_sizeN x 1 else own_sizeN (-x) 0
def own_S (z : Int32) : Prop := z = 1 ∨ z = 2 ∨ z = 3 ∨ z = 4 ∨ z = 5 ∨ z = 6
def own_L (z : Int32) : Prop := z = 7 ∨ z = 8 ∨ z = 9 ∨ z = 10 ∨ z = 11
theorem own_szN (y d : Int32) (hd : d = 0 ∨ d = 1) : own_S (own_sizeN y d) ∨ own_L (own_sizeN y d) := by
  unfold own_sizeN
  rcases hd with rfl | rfl <;> (repeat' split) <;> simp only [own_S, own_L] <;> decide
theorem own_szc {x sz : Int32} (h : own_size x = sz) : own_S sz ∨ own_L sz := by
  subst h; unfold own_size
  split
  · exact own_szN _ _ (Or.inr rfl)
  · exact own_szN _ _ (Or.inl rfl)
theorem own_inS {sz : Int32} (h : own_S sz) {P : Int32 → Prop} (q : P 1 ∧ P 2 ∧ P 3 ∧ P 4 ∧ P 5 ∧ P 6) : P sz := by
  rcases h with rfl | rfl | rfl | rfl | rfl | rfl
  · exact q.1
  · exact q.2.1
  · exact q.2.2.1
  · exact q.2.2.2.1
  · exact q.2.2.2.2.1
  · exact q.2.2.2.2.2
theorem own_inL {sz : Int32} (h : own_L sz) {P : Int32 → Prop} (q : P 7 ∧ P 8 ∧ P 9 ∧ P 10 ∧ P 11) : P sz := by
  rcases h with rfl | rfl | rfl | rfl | rfl
  · exact q.1
  · exact q.2.1
  · exact q.2.2.1
  · exact q.2.2.2.1
  · exact q.2.2.2.2
theorem own_ib {j n : Int32} (h0 : 0 ≤ j.toInt) (h1 : j.toInt < n.toInt) : ¬ j < 0 ∧ j < n := by
  rw [Int32.lt_iff_toInt_lt, Int32.lt_iff_toInt_lt]; have : (0 : Int32).toInt = 0 := rfl; omega
theorem own_dec (x : Int32) (h : 0 < x.toInt) : (x + (-1 : Int32)).toInt = x.toInt - 1 := by
  have m := c_iadd x (-1 : Int32); have e : (-1 : Int32).toInt = -1 := by decide
  have r := rng32 x; have r2 := rng32 (x + (-1 : Int32)); omega
theorem own_negn {x : Int32} (h : ¬ x < (0 : Int32)) : (-x).toInt = -x.toInt := by
  rw [Int32.lt_iff_toInt_lt] at h; have e : (0 : Int32).toInt = 0 := rfl
  have m := c_ineg x; have r := rng32 x; have r2 := rng32 (-x); omega
def own_P : Nat → Int
  | 0 => 100
  | k + 1 => 100 * own_P k
theorem own_P4 : own_P 4 = 10000000000 := by decide
/-- a digit's pair -/
theorem own_pair {i q r : Int32} (hi : i.toInt ≤ 0) (hq : q = i / (100 : Int32)) (hr : r = (q * (100 : Int32)) - i) : q.toInt = -((-i.toInt) / 100) ∧ r.toInt = (-i.toInt) % 100 := by
  have e : (100 : Int32).toInt = 100 := by decide
  have d := c_idiv i (100 : Int32) 100 e (by decide)
  have hq' : q.toInt = -((-i.toInt) / 100) := by
    rw [hq]
    rcases Int.lt_or_eq_of_le hi with g | g
    · exact d.2 g
    · rw [d.1 (by omega), g]; decide
  have m1 := c_imul q (100 : Int32)
  have m2 := c_isub (q * (100 : Int32)) i
  rw [← hr] at m2
  have r1 := rng32 i; have r2 := rng32 (q * (100 : Int32)); have r3 := rng32 r
  rw [e] at m1
  refine ⟨hq', ?_⟩
  omega
theorem own_ovT {f b : Int32} (hf : 0 ≤ f.toInt) (h : (16777216 : Int64) < ((f.toInt64) + (b.toInt64))) : ((16777216 : Int32) - f) < b := by
  rw [Int64.lt_iff_toInt_lt] at h; rw [Int32.lt_iff_toInt_lt]
  have m := c_ladd f.toInt64 b.toInt64; rw [c_i2l, c_i2l] at m
  have m2 := c_isub (16777216 : Int32) f
  have e1 : (16777216 : Int64).toInt = 16777216 := by decide
  have e2 : (16777216 : Int32).toInt = 16777216 := by decide
  have r1 := rng32 f; have r2 := rng32 b; have r3 := rng32 ((16777216 : Int32) - f); have r4 := rng64 (f.toInt64 + b.toInt64)
  omega
theorem own_ovF {f b : Int32} (hf : 0 ≤ f.toInt) (h : ¬ (16777216 : Int64) < ((f.toInt64) + (b.toInt64))) : ¬ ((16777216 : Int32) - f) < b := by
  rw [Int64.lt_iff_toInt_lt] at h; rw [Int32.lt_iff_toInt_lt]
  have m := c_ladd f.toInt64 b.toInt64; rw [c_i2l, c_i2l] at m
  have m2 := c_isub (16777216 : Int32) f
  have e1 : (16777216 : Int64).toInt = 16777216 := by decide
  have e2 : (16777216 : Int32).toInt = 16777216 := by decide
  have r1 := rng32 f; have r2 := rng32 b; have r3 := rng32 ((16777216 : Int32) - f); have r4 := rng64 (f.toInt64 + b.toInt64)
  omega
theorem own_asym {x y : Int32} (h : x < y) : ¬ y < x := by rw [Int32.lt_iff_toInt_lt] at *; omega
theorem own_ltne {x y : Int32} (h : x < y) : ¬ x = y := fun e => by subst e; rw [Int32.lt_iff_toInt_lt] at h; omega
theorem own_le0 {x : Int32} (h : x < (0 : Int32)) : x.toInt ≤ 0 := by rw [Int32.lt_iff_toInt_lt] at h; have e : (0 : Int32).toInt = 0 := rfl; omega
theorem own_nn {x : Int32} (h : ¬ x < (0 : Int32)) : (-x).toInt ≤ 0 := by rw [own_negn h]; rw [Int32.lt_iff_toInt_lt] at h; have e : (0 : Int32).toInt = 0 := rfl; omega
theorem own_e100 : (100 : Int32).toInt = 100 := by decide
theorem own_gt1 {x : Int32} (h : (-100 : Int32) < x) : -100 < x.toInt := by
  rw [Int32.lt_iff_toInt_lt] at h
  have e : (-100 : Int32).toInt = -100 := by decide
  omega
theorem own_gt0 {x : Int32} (h : -(own_P 0) < x.toInt) : -100 < x.toInt := h
theorem own_gt100 {x : Int32} (h : -(own_P 0) < x.toInt) : (-100 : Int32) < x := by
  rw [Int32.lt_iff_toInt_lt]; have e : (-100 : Int32).toInt = -100 := by decide
  rw [e]; exact h
theorem own_negi {x : Int32} (h : x.toInt ≤ 0) (h2 : -100 < x.toInt) : (-x).toInt = -x.toInt := by
  have m := c_ineg x; have r2 := rng32 (-x); omega
def own_Pl (x : Slot) : Prop := x = .unset ∨ ∃ a : Int32, x = .val (.int a)
theorem own_c3 {k : Nat} {x : Int32} (h : 2 * (k : Int) + 3 ≤ x.toInt) : 3 ≤ x.toInt := by omega
theorem own_i1 {x n : Int32} (h : 3 ≤ x.toInt) (h2 : x.toInt ≤ n.toInt) : ¬ (x + (-1 : Int32)) < 0 ∧ (x + (-1 : Int32)) < n := by
  have d1 := own_dec x (by omega)
  exact own_ib (by omega) (by omega)
theorem own_i2 {x n : Int32} (h : 3 ≤ x.toInt) (h2 : x.toInt ≤ n.toInt) : ¬ ((x + (-1 : Int32)) + (-1 : Int32)) < 0 ∧ ((x + (-1 : Int32)) + (-1 : Int32)) < n := by
  have d1 := own_dec x (by omega); have d2 := own_dec (x + (-1 : Int32)) (by omega)
  exact own_ib (by omega) (by omega)
theorem own_i3 {x n : Int32} (h : 3 ≤ x.toInt) (h2 : x.toInt ≤ n.toInt) : ¬ (((x + (-1 : Int32)) + (-1 : Int32)) + (-1 : Int32)) < 0 ∧ (((x + (-1 : Int32)) + (-1 : Int32)) + (-1 : Int32)) < n := by
  have d1 := own_dec x (by omega); have d2 := own_dec (x + (-1 : Int32)) (by omega); have d3 := own_dec ((x + (-1 : Int32)) + (-1 : Int32)) (by omega)
  exact own_ib (by omega) (by omega)
theorem own_in {x : Int32} (h : x.toInt ≤ 0) (h2 : -100 < x.toInt) : ¬ (-x) < 0 ∧ (-x) < (100 : Int32) := by
  have d := own_negi h h2; have e := own_e100
  exact own_ib (by omega) (by omega)
theorem own_ir {i r : Int32} (h : r.toInt = (-i.toInt) % 100) : ¬ r < 0 ∧ r < (100 : Int32) := by
  have e := own_e100
  exact own_ib (by omega) (by omega)
theorem own_q0 {i q : Int32} (hi : i.toInt ≤ 0) (h : q.toInt = -((-i.toInt) / 100)) : q.toInt ≤ 0 := by omega
theorem own_qP {k : Nat} {i q : Int32} (hp : -(own_P (k + 1)) < i.toInt) (h : q.toInt = -((-i.toInt) / 100)) : -(own_P k) < q.toInt := by
  have e : own_P (k + 1) = 100 * own_P k := rfl
  rw [e] at hp; omega
theorem own_c4 {k : Nat} {x : Int32} (h : 2 * ((k + 1 : Nat) : Int) + 3 ≤ x.toInt) : 2 * (k : Int) + 3 ≤ ((x + (-1 : Int32)) + (-1 : Int32)).toInt := by
  have d1 := own_dec x (by omega); have d2 := own_dec (x + (-1 : Int32)) (by omega); omega
theorem own_c5 {x n : Int32} (h : 3 ≤ x.toInt) (h2 : x.toInt ≤ n.toInt) : ((x + (-1 : Int32)) + (-1 : Int32)).toInt ≤ n.toInt := by
  have d1 := own_dec x (by omega); have d2 := own_dec (x + (-1 : Int32)) (by omega); omega
theorem own_e4 {x : Int32} (h : 11 ≤ x.toInt) : 2 * ((4 : Nat) : Int) + 3 ≤ x.toInt := by omega
theorem own_eP (x : Int32) : -(own_P 4) < x.toInt := by rw [own_P4]; have := rng32 x; omega
def own_vA : List Value := (String.toList "a body of ").map (fun c => Value.int (Jvm.Lit.byteI c.toNat.toUInt16))
def own_vB : List Value := (String.toList " bytes is too large for a journal").map (fun c => Value.int (Jvm.Lit.byteI c.toNat.toUInt16))
theorem own_d18_0 : decode jdk_29_method_65_code 0 = .ok (.iload_n 0, 1) := by decide +kernel
theorem own_d18_1 : decode jdk_29_method_65_code 1 = .ok (.iload_n 1, 1) := by decide +kernel
theorem own_d18_2 : decode jdk_29_method_65_code 2 = .ok (.if_icmp .lt 7, 3) := by decide +kernel
theorem own_d18_5 : decode jdk_29_method_65_code 5 = .ok (.iload_n 0, 1) := by decide +kernel
theorem own_d18_6 : decode jdk_29_method_65_code 6 = .ok (.goto 4, 3) := by decide +kernel
theorem own_d18_9 : decode jdk_29_method_65_code 9 = .ok (.iload_n 1, 1) := by decide +kernel
theorem own_d18_10 : decode jdk_29_method_65_code 10 = .ok (.ireturn, 1) := by decide +kernel
def Q18 (Z : State) (ma : Int32) (mb : Int32) (mr : Int32) (h0 : Heap) (n0 : Nat) (v : Option Value) (h : Heap) (L : List Loc) : Prop := v = some (.int mr) ∧ Fr n0 L ∧ h = h0
set_option maxRecDepth 65536 in
set_option maxHeartbeats 40000000 in
theorem rm18 (l : Launch) (Z : State) (a0 : Array Value) (hw : ∀ d ∈ tables_1, d.before a0 Z = true) (ws : List Jvm.Cond) (ma : Int32) (mb : Int32) (mr : Int32) (h0 : Heap) (n0 : Nat) (Z0 : n0 ≤ h0.size) (hm : (if ma < mb then mb else ma) = mr) :
    MetFree l (⟨"java/lang/Math", "max", "(II)I"⟩ : MethodName) (head1 (Jvm.Cond.code (⟨"java/lang/Math", "max", "(II)I"⟩ : MethodName) jdk_29_method_65_code 2 (some .int) :: ws) ({ frames := 0, cells := 0, slots := 0, locals := 0 } : Room)) (fun a U => a = #[(.int ma), (.int mb)] ∧ Z.Warmed39 U.vm ∧ U.heap = h0) (fun _ _ _ _ _ => True) (fun _ U o U' => ∃ v L, o = .returned v ∧ Q18 Z ma mb mr h0 n0 v U'.heap L ∧ FrameEnd U o U' L ({ frames := 0, cells := 0, slots := 0, locals := 0 } : Room).cells ({ frames := 0, cells := 0, slots := 0, locals := 0 } : Room).slots) := by
  refine MetFree.of_bodySF (Jvm.Free.JP.mathPlain rfl (by decide +kernel)) hisR ?_
  intro p e s m args below meth c s₁ Bd hml0 hP hK
  obtain ⟨rfl, hZ, hh⟩ := hP
  have hx := Bd.exec
  have hby := Bd.bytes
  have hml : c.maxLocals = 2 := hml0
  have hlk := Bd.notSynchronized
  have hown : s.vm.findClass "java/lang/Math" = some m.cls := findClass_of_methodNamed Bd.named
  have hnm := (name_of_methodNamed Bd.named Bd.method).1
  have X0 : Stand p l e ({ frames := 0, cells := 0, slots := 0, locals := 0 } : Room) s m #[(.int ma), (.int mb)] below meth c s₁ [] 0 0 := Stand.of_body Bd
  have e0 : s₁.heap = h0 := by rw [← hh, Bd.state]; rfl
  have N0 := Fr.nil n0
  refine own_enter (P := (Done s ({ frames := 0, cells := 0, slots := 0, locals := 0 } : Room).cells ({ frames := 0, cells := 0, slots := 0, locals := 0 } : Room).slots (Q18 Z ma mb mr h0 n0))) (Ls := #[.val (.int ma), .val (.int mb)]) (by first | (simp [entryFrame, mkF, argsToLocals, Value.category]; done) | rfl) ?_
  refine own_iloadN X0 hx 1 rfl (hb hby own_d18_0) rfl ?_
  refine own_iloadN X0 hx 2 rfl (hb hby own_d18_1) rfl ?_
  by_cases hc2_1 : ma < mb
  · refine own_icmpY X0 hx 9 (hb hby own_d18_2) (tlt hc2_1).1 (by decide) (by decide) ?_
    refine own_iloadN X0 hx 10 rfl (hb hby own_d18_9) rfl ?_
    refine own_retI X0 hx hlk Bd.returns (hb hby own_d18_10) (by decide) (by decide) e0 ?_
    exact ⟨(congrArg (fun z => some (Value.int z)) ((if_pos hc2_1).symm.trans hm)), N0, rfl⟩
  · refine own_icmpN X0 hx 5 (hb hby own_d18_2) (flt hc2_1).1 rfl ?_
    refine own_iloadN X0 hx 6 rfl (hb hby own_d18_5) rfl ?_
    refine own_goto X0 hx 10 (hb hby own_d18_6) (by decide) (by decide) ?_
    refine own_retI X0 hx hlk Bd.returns (hb hby own_d18_10) (by decide) (by decide) e0 ?_
    exact ⟨(congrArg (fun z => some (Value.int z)) ((if_neg hc2_1).symm.trans hm)), N0, rfl⟩
theorem own_d20_0 : decode jdk_29_method_69_code 0 = .ok (.iload_n 0, 1) := by decide +kernel
theorem own_d20_1 : decode jdk_29_method_69_code 1 = .ok (.iload_n 1, 1) := by decide +kernel
theorem own_d20_2 : decode jdk_29_method_69_code 2 = .ok (.if_icmp .gt 7, 3) := by decide +kernel
theorem own_d20_5 : decode jdk_29_method_69_code 5 = .ok (.iload_n 0, 1) := by decide +kernel
theorem own_d20_6 : decode jdk_29_method_69_code 6 = .ok (.goto 4, 3) := by decide +kernel
theorem own_d20_10 : decode jdk_29_method_69_code 10 = .ok (.ireturn, 1) := by decide +kernel
def QminA (Z : State) (ma : Int32) (mb : Int32) (h0 : Heap) (n0 : Nat) (v : Option Value) (h : Heap) (L : List Loc) : Prop := v = some (.int ma) ∧ Fr n0 L ∧ h = h0
set_option maxRecDepth 65536 in
set_option maxHeartbeats 40000000 in
theorem rmminA (l : Launch) (Z : State) (a0 : Array Value) (hw : ∀ d ∈ tables_1, d.before a0 Z = true) (ws : List Jvm.Cond) (ma : Int32) (mb : Int32) (h0 : Heap) (n0 : Nat) (Z0 : n0 ≤ h0.size) (hmi : ¬ (mb < ma)) :
    MetFree l (⟨"java/lang/Math", "min", "(II)I"⟩ : MethodName) (head1 (Jvm.Cond.code (⟨"java/lang/Math", "min", "(II)I"⟩ : MethodName) jdk_29_method_69_code 2 (some .int) :: ws) ({ frames := 0, cells := 0, slots := 0, locals := 0 } : Room)) (fun a U => a = #[(.int ma), (.int mb)] ∧ Z.Warmed39 U.vm ∧ U.heap = h0) (fun _ _ _ _ _ => True) (fun _ U o U' => ∃ v L, o = .returned v ∧ QminA Z ma mb h0 n0 v U'.heap L ∧ FrameEnd U o U' L ({ frames := 0, cells := 0, slots := 0, locals := 0 } : Room).cells ({ frames := 0, cells := 0, slots := 0, locals := 0 } : Room).slots) := by
  refine MetFree.of_bodySF (Jvm.Free.JP.mathPlain rfl (by decide +kernel)) hisR ?_
  intro p e s m args below meth c s₁ Bd hml0 hP hK
  obtain ⟨rfl, hZ, hh⟩ := hP
  have hx := Bd.exec
  have hby := Bd.bytes
  have hml : c.maxLocals = 2 := hml0
  have hlk := Bd.notSynchronized
  have hown : s.vm.findClass "java/lang/Math" = some m.cls := findClass_of_methodNamed Bd.named
  have hnm := (name_of_methodNamed Bd.named Bd.method).1
  have X0 : Stand p l e ({ frames := 0, cells := 0, slots := 0, locals := 0 } : Room) s m #[(.int ma), (.int mb)] below meth c s₁ [] 0 0 := Stand.of_body Bd
  have e0 : s₁.heap = h0 := by rw [← hh, Bd.state]; rfl
  have N0 := Fr.nil n0
  refine own_enter (P := (Done s ({ frames := 0, cells := 0, slots := 0, locals := 0 } : Room).cells ({ frames := 0, cells := 0, slots := 0, locals := 0 } : Room).slots (QminA Z ma mb h0 n0))) (Ls := #[.val (.int ma), .val (.int mb)]) (by first | (simp [entryFrame, mkF, argsToLocals, Value.category]; done) | rfl) ?_
  refine own_iloadN X0 hx 1 rfl (hb hby own_d20_0) rfl ?_
  refine own_iloadN X0 hx 2 rfl (hb hby own_d20_1) rfl ?_
  refine own_icmpN X0 hx 5 (hb hby own_d20_2) (flt (hmi : ¬ (mb < ma))).2.2.1 rfl ?_
  refine own_iloadN X0 hx 6 rfl (hb hby own_d20_5) rfl ?_
  refine own_goto X0 hx 10 (hb hby own_d20_6) (by decide) (by decide) ?_
  refine own_retI X0 hx hlk Bd.returns (hb hby own_d20_10) (by decide) (by decide) e0 ?_
  exact ⟨rfl, N0, rfl⟩
theorem own_d20_9 : decode jdk_29_method_69_code 9 = .ok (.iload_n 1, 1) := by decide +kernel
def QminB (Z : State) (ma : Int32) (mb : Int32) (h0 : Heap) (n0 : Nat) (v : Option Value) (h : Heap) (L : List Loc) : Prop := v = some (.int mb) ∧ Fr n0 L ∧ h = h0
set_option maxRecDepth 65536 in
set_option maxHeartbeats 40000000 in
theorem rmminB (l : Launch) (Z : State) (a0 : Array Value) (hw : ∀ d ∈ tables_1, d.before a0 Z = true) (ws : List Jvm.Cond) (ma : Int32) (mb : Int32) (h0 : Heap) (n0 : Nat) (Z0 : n0 ≤ h0.size) (hmi : mb < ma) :
    MetFree l (⟨"java/lang/Math", "min", "(II)I"⟩ : MethodName) (head1 (Jvm.Cond.code (⟨"java/lang/Math", "min", "(II)I"⟩ : MethodName) jdk_29_method_69_code 2 (some .int) :: ws) ({ frames := 0, cells := 0, slots := 0, locals := 0 } : Room)) (fun a U => a = #[(.int ma), (.int mb)] ∧ Z.Warmed39 U.vm ∧ U.heap = h0) (fun _ _ _ _ _ => True) (fun _ U o U' => ∃ v L, o = .returned v ∧ QminB Z ma mb h0 n0 v U'.heap L ∧ FrameEnd U o U' L ({ frames := 0, cells := 0, slots := 0, locals := 0 } : Room).cells ({ frames := 0, cells := 0, slots := 0, locals := 0 } : Room).slots) := by
  refine MetFree.of_bodySF (Jvm.Free.JP.mathPlain rfl (by decide +kernel)) hisR ?_
  intro p e s m args below meth c s₁ Bd hml0 hP hK
  obtain ⟨rfl, hZ, hh⟩ := hP
  have hx := Bd.exec
  have hby := Bd.bytes
  have hml : c.maxLocals = 2 := hml0
  have hlk := Bd.notSynchronized
  have hown : s.vm.findClass "java/lang/Math" = some m.cls := findClass_of_methodNamed Bd.named
  have hnm := (name_of_methodNamed Bd.named Bd.method).1
  have X0 : Stand p l e ({ frames := 0, cells := 0, slots := 0, locals := 0 } : Room) s m #[(.int ma), (.int mb)] below meth c s₁ [] 0 0 := Stand.of_body Bd
  have e0 : s₁.heap = h0 := by rw [← hh, Bd.state]; rfl
  have N0 := Fr.nil n0
  refine own_enter (P := (Done s ({ frames := 0, cells := 0, slots := 0, locals := 0 } : Room).cells ({ frames := 0, cells := 0, slots := 0, locals := 0 } : Room).slots (QminB Z ma mb h0 n0))) (Ls := #[.val (.int ma), .val (.int mb)]) (by first | (simp [entryFrame, mkF, argsToLocals, Value.category]; done) | rfl) ?_
  refine own_iloadN X0 hx 1 rfl (hb hby own_d20_0) rfl ?_
  refine own_iloadN X0 hx 2 rfl (hb hby own_d20_1) rfl ?_
  refine own_icmpY X0 hx 9 (hb hby own_d20_2) (tlt (hmi : mb < ma)).2.2.1 (by decide) (by decide) ?_
  refine own_iloadN X0 hx 10 rfl (hb hby own_d20_9) rfl ?_
  refine own_retI X0 hx hlk Bd.returns (hb hby own_d20_10) (by decide) (by decide) e0 ?_
  exact ⟨rfl, N0, rfl⟩
theorem own_pd0 : parseMethodDescriptor "(II)I" = some ⟨[.int, .int], some .int⟩ := by decide +kernel
theorem own_d17_0 : decode jdk_48_method_27_code 0 = .ok (.iload_n 0, 1) := by decide +kernel
theorem own_d17_1 : decode jdk_48_method_27_code 1 = .ok (.iload_n 1, 1) := by decide +kernel
theorem own_d17_2 : decode jdk_48_method_27_code 2 = .ok (.iload_n 2, 1) := by decide +kernel
theorem own_d17_3 : decode jdk_48_method_27_code 3 = .ok (.invokestatic 194, 3) := by decide +kernel
theorem own_d17_6 : decode jdk_48_method_27_code 6 = .ok (.iadd, 1) := by decide +kernel
theorem own_d17_7 : decode jdk_48_method_27_code 7 = .ok (.istore_n 3, 1) := by decide +kernel
theorem own_d17_8 : decode jdk_48_method_27_code 8 = .ok (.iconst 0, 1) := by decide +kernel
theorem own_d17_9 : decode jdk_48_method_27_code 9 = .ok (.iload_n 3, 1) := by decide +kernel
theorem own_d17_10 : decode jdk_48_method_27_code 10 = .ok (.if_icmp .ge 11, 3) := by decide +kernel
theorem own_d17_13 : decode jdk_48_method_27_code 13 = .ok (.iload_n 3, 1) := by decide +kernel
theorem own_d17_14 : decode jdk_48_method_27_code 14 = .ok (.ldc 200, 2) := by decide +kernel
theorem own_d17_16 : decode jdk_48_method_27_code 16 = .ok (.if_icmp .gt 5, 3) := by decide +kernel
theorem own_d17_19 : decode jdk_48_method_27_code 19 = .ok (.iload_n 3, 1) := by decide +kernel
theorem own_d17_20 : decode jdk_48_method_27_code 20 = .ok (.ireturn, 1) := by decide +kernel
theorem own_pn_jdk_internal_util_ArraysSupport : plainName "jdk/internal/util/ArraysSupport" = true := by first | (simp [plainName, overriddenIn]; done) | decide +kernel
def Q17 (Z : State) (lo : Int32) (la : Int32) (lb : Int32) (mr : Int32) (h0 : Heap) (n0 : Nat) (v : Option Value) (h : Heap) (L : List Loc) : Prop := v = some (.int (lo + mr)) ∧ Fr n0 L ∧ h = h0
set_option maxRecDepth 65536 in
set_option maxHeartbeats 40000000 in
theorem rm17 (l : Launch) (Z : State) (a0 : Array Value) (hw : ∀ d ∈ tables_1, d.before a0 Z = true) (ws : List Jvm.Cond) (lo : Int32) (la : Int32) (lb : Int32) (mr : Int32) (h0 : Heap) (n0 : Nat) (Z0 : n0 ≤ h0.size) (hm : (if la < lb then lb else la) = mr) (hp : (0 : Int32) < (lo + mr)) (hs : ¬ ((2147483639 : Int32) < (lo + mr))) :
    MetFree l (⟨"jdk/internal/util/ArraysSupport", "newLength", "(III)I"⟩ : MethodName) (head1 (Jvm.Cond.code (⟨"jdk/internal/util/ArraysSupport", "newLength", "(III)I"⟩ : MethodName) jdk_48_method_27_code 4 (some .int) :: ws) ({ frames := 1, cells := 0, slots := 0, locals := 14 } : Room)) (fun a U => a = #[(.int lo), (.int la), (.int lb)] ∧ Z.Warmed39 U.vm ∧ U.heap = h0) (fun _ _ _ _ _ => True) (fun _ U o U' => ∃ v L, o = .returned v ∧ Q17 Z lo la lb mr h0 n0 v U'.heap L ∧ FrameEnd U o U' L ({ frames := 1, cells := 0, slots := 0, locals := 14 } : Room).cells ({ frames := 1, cells := 0, slots := 0, locals := 14 } : Room).slots) := by
  refine MetFree.of_bodySF (plainFor_of_name own_pn_jdk_internal_util_ArraysSupport) hisR ?_
  intro p e s m args below meth c s₁ Bd hml0 hP hK
  obtain ⟨rfl, hZ, hh⟩ := hP
  have hx := Bd.exec
  have hby := Bd.bytes
  have hml : c.maxLocals = 4 := hml0
  have hlk := Bd.notSynchronized
  have hown : s.vm.findClass "jdk/internal/util/ArraysSupport" = some m.cls := findClass_of_methodNamed Bd.named
  have hnm := (name_of_methodNamed Bd.named Bd.method).1
  have X0 : Stand p l e ({ frames := 1, cells := 0, slots := 0, locals := 14 } : Room) s m #[(.int lo), (.int la), (.int lb)] below meth c s₁ [] 0 0 := Stand.of_body Bd
  have e0 : s₁.heap = h0 := by rw [← hh, Bd.state]; rfl
  have N0 := Fr.nil n0
  refine own_enter (P := (Done s ({ frames := 1, cells := 0, slots := 0, locals := 14 } : Room).cells ({ frames := 1, cells := 0, slots := 0, locals := 14 } : Room).slots (Q17 Z lo la lb mr h0 n0))) (Ls := #[.val (.int lo), .val (.int la), .val (.int lb), .unset]) (by first | (simp [entryFrame, mkF, argsToLocals, Value.category]; done) | rfl) ?_
  refine own_iloadN X0 hx 1 rfl (hb hby own_d17_0) rfl ?_
  refine own_iloadN X0 hx 2 rfl (hb hby own_d17_1) rfl ?_
  refine own_iloadN X0 hx 3 rfl (hb hby own_d17_2) rfl ?_
  obtain ⟨_, _, ⟨T1, L1, k1, n1⟩, -, X1, ⟨Lc1, hQ1, l1, y1, z1⟩, st1⟩ := Jvm.LawKit.callS X0 hx (y := (⟨"java/lang/Math", "max", "(II)I"⟩ : MethodName)) hown (mvT hZ (hw _ (List.mem_of_getElem? (i := 111) rfl))) (mvT hZ (hw _ (List.mem_of_getElem? (i := 112) rfl))) (mvT hZ (hw _ (List.mem_of_getElem? (i := 113) rfl))) (mvT hZ (hw _ (List.mem_of_getElem? (i := 114) rfl))) (by decide) (backOf (W := 1) (rm18 l Z a0 hw [] la lb mr h0 n0 Z0 hm) hZ (hw _ (List.mem_of_getElem? (i := 114) rfl)) (hw _ (List.mem_of_getElem? (i := 113) rfl)) (by decide) (by decide)) (g := (mkF m 3 #[.val (.int lo), .val (.int la), .val (.int lb), .unset] [(.int lb), (.int la), (.int lo)])) rfl (by rw [hml]; rfl) (argsL := [(.int la), (.int lb)]) (rest := [(.int lo)]) (lenOf own_pd0 rfl) rfl (by show 2 * 0 + _ ≤ _; exact Nat.le_of_eq rfl) (hb hby own_d17_3) (fun _ _ => ⟨rfl, e0, (by decide : 0 + 0 ≤ _), (by decide : 0 + 0 ≤ _)⟩)
  dsimp only [Pt.U, Pt.locs, Pt.cells, Pt.slots] at X1 l1 y1 z1 st1 hQ1
  subst l1 y1 z1
  obtain ⟨rfl, N1q, eh1⟩ := hQ1
  have N1 := Fr.app N0 N1q
  refine Goes.go st1 ?_
  show Goes p e below _ T1 (mkF m 6 #[.val (.int lo), .val (.int la), .val (.int lb), .unset] [(.int mr), (.int lo)])
  refine own_iadd X1 hx 7 rfl (hb hby own_d17_6) rfl ?_
  refine own_istoreN X1 hx 8 rfl #[.val (.int lo), .val (.int la), .val (.int lb), .val (.int (lo + mr))] (hb hby own_d17_7) rfl ?_
  refine own_iconst X1 hx 9 rfl (0 : Int32) (hb hby own_d17_8) (by decide) ?_
  refine own_iloadN X1 hx 10 rfl (hb hby own_d17_9) rfl ?_
  refine own_icmpN X1 hx 13 (hb hby own_d17_10) (tlt (hp : (0 : Int32) < (lo + mr))).2.1 rfl ?_
  refine own_iloadN X1 hx 14 rfl (hb hby own_d17_13) rfl ?_
  refine Goes.go (X1.ldcInt hx hown (mvT hZ (hw _ (List.mem_of_getElem? (i := 115) rfl))) (g := (mkF m 14 #[.val (.int lo), .val (.int la), .val (.int lb), .val (.int (lo + mr))] [(.int (lo + mr))])) rfl (hb hby own_d17_14)) ?_
  show Goes p e below _ T1 (mkF m 16 #[.val (.int lo), .val (.int la), .val (.int lb), .val (.int (lo + mr))] [(.int (2147483639 : Int32)), (.int (lo + mr))])
  refine own_icmpN X1 hx 19 (hb hby own_d17_16) (flt (hs : ¬ ((2147483639 : Int32) < (lo + mr)))).2.2.1 rfl ?_
  refine own_iloadN X1 hx 20 rfl (hb hby own_d17_19) rfl ?_
  refine own_retI X1 hx hlk Bd.returns (hb hby own_d17_20) (by decide) (by decide) eh1 ?_
  exact ⟨rfl, N1, rfl⟩
theorem own_d19_0 : decode jdk_65_method_121_code 0 = .ok (.iload_n 1, 1) := by decide +kernel
theorem own_d19_1 : decode jdk_65_method_121_code 1 = .ok (.aload_n 0, 1) := by decide +kernel
theorem own_d19_2 : decode jdk_65_method_121_code 2 = .ok (.arraylength, 1) := by decide +kernel
theorem own_d19_3 : decode jdk_65_method_121_code 3 = .ok (.if_icmp .ne 11, 3) := by decide +kernel
theorem own_d19_14 : decode jdk_65_method_121_code 14 = .ok (.iload_n 1, 1) := by decide +kernel
theorem own_d19_15 : decode jdk_65_method_121_code 15 = .ok (.newarray .byte, 2) := by decide +kernel
theorem own_d19_17 : decode jdk_65_method_121_code 17 = .ok (.astore_n 2, 1) := by decide +kernel
theorem own_d19_18 : decode jdk_65_method_121_code 18 = .ok (.aload_n 0, 1) := by decide +kernel
theorem own_d19_19 : decode jdk_65_method_121_code 19 = .ok (.iconst 0, 1) := by decide +kernel
theorem own_d19_20 : decode jdk_65_method_121_code 20 = .ok (.aload_n 2, 1) := by decide +kernel
theorem own_d19_21 : decode jdk_65_method_121_code 21 = .ok (.iconst 0, 1) := by decide +kernel
theorem own_d19_22 : decode jdk_65_method_121_code 22 = .ok (.aload_n 0, 1) := by decide +kernel
theorem own_d19_23 : decode jdk_65_method_121_code 23 = .ok (.arraylength, 1) := by decide +kernel
theorem own_d19_24 : decode jdk_65_method_121_code 24 = .ok (.iload_n 1, 1) := by decide +kernel
theorem own_d19_25 : decode jdk_65_method_121_code 25 = .ok (.invokestatic 304, 3) := by decide +kernel
theorem own_d19_28 : decode jdk_65_method_121_code 28 = .ok (.invokestatic 150, 3) := by decide +kernel
theorem own_d19_31 : decode jdk_65_method_121_code 31 = .ok (.aload_n 2, 1) := by decide +kernel
theorem own_d19_32 : decode jdk_65_method_121_code 32 = .ok (.areturn, 1) := by decide +kernel
theorem own_pn_java_util_Arrays : plainName "java/util/Arrays" = true := by first | (simp [plainName, overriddenIn]; done) | decide +kernel
def Q19 (Z : State) (oa : Addr) (nl : Int32) (on : Int32) (h0 : Heap) (n0 : Nat) (v : Option Value) (h : Heap) (L : List Loc) : Prop := ∃ ra : Addr, v = some (.ref ra) ∧ Fr n0 L ∧ Keep h0 h [] ∧ h0.size ≤ ra ∧ ByA Z h ra nl
set_option maxRecDepth 65536 in
set_option maxHeartbeats 40000000 in
theorem rm19 (l : Launch) (Z : State) (a0 : Array Value) (hw : ∀ d ∈ tables_1, d.before a0 Z = true) (ws : List Jvm.Cond) (oa : Addr) (nl : Int32) (on : Int32) (h0 : Heap) (n0 : Nat) (Z0 : n0 ≤ h0.size) (Bo : ByA Z h0 oa on) (hne : ¬ (nl = on)) (hn0 : ¬ (nl < (0 : Int32))) (hcp : (nl).toNatClampNeg ≤ 100) (hmi : ¬ (nl < on)) :
    MetFree l (⟨"java/util/Arrays", "copyOf", "([BI)[B"⟩ : MethodName) (head1 (Jvm.Cond.code (⟨"java/util/Arrays", "copyOf", "([BI)[B"⟩ : MethodName) jdk_65_method_121_code 3 (some (.array .byte)) :: ws) ({ frames := 1, cells := 1, slots := 100, locals := 18 } : Room)) (fun a U => a = #[(.ref oa), (.int nl)] ∧ Z.Warmed39 U.vm ∧ U.heap = h0) (fun _ _ _ _ _ => True) (fun _ U o U' => ∃ v L, o = .returned v ∧ Q19 Z oa nl on h0 n0 v U'.heap L ∧ FrameEnd U o U' L ({ frames := 1, cells := 1, slots := 100, locals := 18 } : Room).cells ({ frames := 1, cells := 1, slots := 100, locals := 18 } : Room).slots) := by
  refine MetFree.of_bodySF (plainFor_of_name own_pn_java_util_Arrays) hisR ?_
  intro p e s m args below meth c s₁ Bd hml0 hP hK
  obtain ⟨rfl, hZ, hh⟩ := hP
  have hx := Bd.exec
  have hby := Bd.bytes
  have hml : c.maxLocals = 3 := hml0
  have hlk := Bd.notSynchronized
  have hown : s.vm.findClass "java/util/Arrays" = some m.cls := findClass_of_methodNamed Bd.named
  have hnm := (name_of_methodNamed Bd.named Bd.method).1
  have X0 : Stand p l e ({ frames := 1, cells := 1, slots := 100, locals := 18 } : Room) s m #[(.ref oa), (.int nl)] below meth c s₁ [] 0 0 := Stand.of_body Bd
  have e0 : s₁.heap = h0 := by rw [← hh, Bd.state]; rfl
  have N0 := Fr.nil n0
  have K0 : Keep h0 h0 [] := Keep.refl _ _
  refine own_enter (P := (Done s ({ frames := 1, cells := 1, slots := 100, locals := 18 } : Room).cells ({ frames := 1, cells := 1, slots := 100, locals := 18 } : Room).slots (Q19 Z oa nl on h0 n0))) (Ls := #[.val (.ref oa), .val (.int nl), .unset]) (by first | (simp [entryFrame, mkF, argsToLocals, Value.category]; done) | rfl) ?_
  refine own_iloadN X0 hx 1 rfl (hb hby own_d19_0) rfl ?_
  refine own_aloadN X0 hx 2 rfl (hb hby own_d19_1) rfl rfl ?_
  obtain ⟨cl1, Ar1, S1, NN1, HH1⟩ := ByA.opn Bo
  refine Goes.go (X0.arraylength hx (by rw [e0]; exact Ar1.1) (State.isArrayOf_alike hZ.alike Ar1.2.1) (g := (mkF m 2 #[.val (.ref oa), .val (.int nl), .unset] [(.ref oa), (.int nl)])) rfl rfl (hb hby own_d19_2)) ?_
  show Goes p e below _ s₁ (mkF m 3 #[.val (.ref oa), .val (.int nl), .unset] [(.int (cl1.slots.size.toInt32)), (.int nl)])
  rw [len_of S1 NN1]
  refine own_icmpY X0 hx 14 (hb hby own_d19_3) (feq (hne : ¬ (nl = on))).2 (by decide) (by decide) ?_
  refine own_iloadN X0 hx 15 rfl (hb hby own_d19_14) rfl ?_
  obtain ⟨T2, h2, k2, X2, e2, E2, A2, Ea2, st2⟩ := newPE X0 hx hZ (hw _ (List.mem_of_getElem? (i := 28) rfl)) e0 (g := (mkF m 15 #[.val (.ref oa), .val (.int nl), .unset] [(.int nl)])) rfl (hb hby own_d19_15) rfl hn0 (cap := 100) hcp (by decide) (by decide) (by decide) (ad := "[B") (by first | rfl | decide +kernel)
  obtain ⟨b2, g2⟩ : ∃ z, z = h0.size := ⟨_, rfl⟩
  rw [← g2] at A2 Ea2 st2
  have ne3 : oa ≠ b2 := own_lt_ne Bo.lt g2
  have G2 : n0 ≤ b2 := Nat.le_trans Z0 (Nat.le_of_eq g2.symm)
  have H2 : h0.size ≤ b2 := Nat.le_trans K0.1 (Nat.le_of_eq g2.symm)
  have f4 := Bo.ext E2
  have K2 := K0.ext E2
  have Z2 := Nat.le_trans Z0 E2.1
  have V2 : ByA Z h2 b2 nl := ByA.of (Arv.new A2 hn0) Ea2
  refine Goes.go st2 ?_
  show Goes p e below _ T2 (mkF m 17 #[.val (.ref oa), .val (.int nl), .unset] [(.ref b2)])
  refine own_astoreN X2 hx 18 rfl #[.val (.ref oa), .val (.int nl), .val (.ref b2)] (hb hby own_d19_17) rfl rfl ?_
  refine own_aloadN X2 hx 19 rfl (hb hby own_d19_18) rfl rfl ?_
  refine own_iconst X2 hx 20 rfl (0 : Int32) (hb hby own_d19_19) (by decide) ?_
  refine own_aloadN X2 hx 21 rfl (hb hby own_d19_20) rfl rfl ?_
  refine own_iconst X2 hx 22 rfl (0 : Int32) (hb hby own_d19_21) (by decide) ?_
  refine own_aloadN X2 hx 23 rfl (hb hby own_d19_22) rfl rfl ?_
  obtain ⟨cl5, Ar5, S5, NN5, HH5⟩ := ByA.opn f4
  refine Goes.go (X2.arraylength hx (by rw [e2]; exact Ar5.1) (State.isArrayOf_alike hZ.alike Ar5.2.1) (g := (mkF m 23 #[.val (.ref oa), .val (.int nl), .val (.ref b2)] [(.ref oa), (.int (0 : Int32)), (.ref b2), (.int (0 : Int32)), (.ref oa)])) rfl rfl (hb hby own_d19_23)) ?_
  show Goes p e below _ T2 (mkF m 24 #[.val (.ref oa), .val (.int nl), .val (.ref b2)] [(.int (cl5.slots.size.toInt32)), (.int (0 : Int32)), (.ref b2), (.int (0 : Int32)), (.ref oa)])
  rw [len_of S5 NN5]
  refine own_iloadN X2 hx 25 rfl (hb hby own_d19_24) rfl ?_
  obtain ⟨_, _, ⟨T6, L6, k6, n6⟩, -, X6, ⟨Lc6, hQ6, l6, y6, z6⟩, st6⟩ := Jvm.LawKit.callS X2 hx (y := (⟨"java/lang/Math", "min", "(II)I"⟩ : MethodName)) hown (mvT hZ (hw _ (List.mem_of_getElem? (i := 121) rfl))) (mvT hZ (hw _ (List.mem_of_getElem? (i := 122) rfl))) (mvT hZ (hw _ (List.mem_of_getElem? (i := 113) rfl))) (mvT hZ (hw _ (List.mem_of_getElem? (i := 123) rfl))) (by decide) (backOf (W := 4) (rmminA l Z a0 hw [] on nl h2 n0 Z2 hmi) hZ (hw _ (List.mem_of_getElem? (i := 123) rfl)) (hw _ (List.mem_of_getElem? (i := 113) rfl)) (by decide) (by decide)) (g := (mkF m 25 #[.val (.ref oa), .val (.int nl), .val (.ref b2)] [(.int nl), (.int on), (.int (0 : Int32)), (.ref b2), (.int (0 : Int32)), (.ref oa)])) rfl (by rw [hml]; rfl) (argsL := [(.int on), (.int nl)]) (rest := [(.int (0 : Int32)), (.ref b2), (.int (0 : Int32)), (.ref oa)]) (lenOf own_pd0 rfl) rfl (by show 2 * 0 + _ ≤ _; exact Nat.le_of_eq rfl) (hb hby own_d19_25) (fun _ _ => ⟨rfl, e2, (by decide : 1 + 0 ≤ _), (by decide : 100 + 0 ≤ _)⟩)
  dsimp only [Pt.U, Pt.locs, Pt.cells, Pt.slots] at X6 l6 y6 z6 st6 hQ6
  subst l6 y6 z6
  obtain ⟨rfl, N6q, eh6⟩ := hQ6
  have N6 := Fr.app N0 N6q
  refine Goes.go st6 ?_
  show Goes p e below _ T6 (mkF m 28 #[.val (.ref oa), .val (.int nl), .val (.ref b2)] [(.int on), (.int (0 : Int32)), (.ref b2), (.int (0 : Int32)), (.ref oa)])
  obtain ⟨ks7, us7, As7, ls7⟩ := (f4).1
  obtain ⟨kd7, ud7, Ad7, ld7⟩ := (V2).1
  have h57 : ((0 : Int32)).toNatClampNeg + (on).toNatClampNeg ≤ (nl).toNatClampNeg := (by rw [own_z0, Nat.zero_add]; exact own_natle hmi)
  obtain ⟨T7, h7, L7, X7, e7, N7, Kq7, Av7, st7⟩ := cpA X6 hx hZ hown (hw _ (List.mem_of_getElem? (i := 124) rfl)) (hw _ (List.mem_of_getElem? (i := 88) rfl)) (hw _ (List.mem_of_getElem? (i := 86) rfl)) (hw _ (List.mem_of_getElem? (i := 87) rfl)) eh6 (sp := (0 : Int32)) (dp := (0 : Int32)) (nn := on) As7 Ad7 (Or.inl ⟨rfl, rfl⟩) (by decide) (by decide) (ByA.opn Bo).choose_spec.2.2.1 (by rw [own_z0, Nat.zero_add]; exact Nat.le_refl _) h57 rfl (by rw [ld7]; exact h57) N6 G2 (g := (mkF m 28 #[.val (.ref oa), .val (.int nl), .val (.ref b2)] [(.int on), (.int (0 : Int32)), (.ref b2), (.int (0 : Int32)), (.ref oa)])) rfl (by rw [hml]; rfl) rfl (hb hby own_d19_28) (by decide) (W := 0) (by show 2 * 0 + _ ≤ _; exact Nat.le_of_eq rfl) (by decide)
  have V7 : ByA Z h7 b2 nl := ByA.of Av7 (Exa.keep (ByA.exa V2) Kq7)
  have f8 := f4.keep Kq7 (ninS ne3 nin0)
  have K7 := K2.trans Kq7 (allS (Or.inr H2) all0)
  have Z7 := Nat.le_trans Z2 Kq7.1
  refine Goes.go st7 ?_
  show Goes p e below _ T7 (mkF m 31 #[.val (.ref oa), .val (.int nl), .val (.ref b2)] [])
  refine own_aloadN X7 hx 32 rfl (hb hby own_d19_31) rfl rfl ?_
  refine own_retR X7 hx hlk Bd.returns rfl rfl (hb hby own_d19_32) (by decide) (by decide) e7 ?_
  exact ⟨b2, rfl, N7, K7, H2, V7⟩
theorem own_d31_0 : decode jdk_65_method_131_code 0 = .ok (.iload_n 1, 1) := by decide +kernel
theorem own_d31_1 : decode jdk_65_method_131_code 1 = .ok (.iload_n 0, 1) := by decide +kernel
theorem own_d31_2 : decode jdk_65_method_131_code 2 = .ok (.if_icmp .ge 35, 3) := by decide +kernel
theorem own_d31_37 : decode jdk_65_method_131_code 37 = .ok (.return_, 1) := by decide +kernel
def Q31 (Z : State) (rt : Int32) (h0 : Heap) (n0 : Nat) (v : Option Value) (h : Heap) (L : List Loc) : Prop := v = none ∧ Fr n0 L ∧ h = h0
set_option maxRecDepth 65536 in
set_option maxHeartbeats 40000000 in
theorem rm31 (l : Launch) (Z : State) (a0 : Array Value) (hw : ∀ d ∈ tables_1, d.before a0 Z = true) (ws : List Jvm.Cond) (rt : Int32) (h0 : Heap) (n0 : Nat) (Z0 : n0 ≤ h0.size) (hrt : ¬ (rt < (0 : Int32))) :
    MetFree l (⟨"java/util/Arrays", "checkLength", "(II)V"⟩ : MethodName) (head1 (Jvm.Cond.code (⟨"java/util/Arrays", "checkLength", "(II)V"⟩ : MethodName) jdk_65_method_131_code 2 none :: ws) ({ frames := 0, cells := 0, slots := 0, locals := 0 } : Room)) (fun a U => a = #[(.int (0 : Int32)), (.int rt)] ∧ Z.Warmed39 U.vm ∧ U.heap = h0) (fun _ _ _ _ _ => True) (fun _ U o U' => ∃ v L, o = .returned v ∧ Q31 Z rt h0 n0 v U'.heap L ∧ FrameEnd U o U' L ({ frames := 0, cells := 0, slots := 0, locals := 0 } : Room).cells ({ frames := 0, cells := 0, slots := 0, locals := 0 } : Room).slots) := by
  refine MetFree.of_bodySF (plainFor_of_name own_pn_java_util_Arrays) hisR ?_
  intro p e s m args below meth c s₁ Bd hml0 hP hK
  obtain ⟨rfl, hZ, hh⟩ := hP
  have hx := Bd.exec
  have hby := Bd.bytes
  have hml : c.maxLocals = 2 := hml0
  have hlk := Bd.notSynchronized
  have hown : s.vm.findClass "java/util/Arrays" = some m.cls := findClass_of_methodNamed Bd.named
  have hnm := (name_of_methodNamed Bd.named Bd.method).1
  have X0 : Stand p l e ({ frames := 0, cells := 0, slots := 0, locals := 0 } : Room) s m #[(.int (0 : Int32)), (.int rt)] below meth c s₁ [] 0 0 := Stand.of_body Bd
  have e0 : s₁.heap = h0 := by rw [← hh, Bd.state]; rfl
  have N0 := Fr.nil n0
  refine own_enter (P := (Done s ({ frames := 0, cells := 0, slots := 0, locals := 0 } : Room).cells ({ frames := 0, cells := 0, slots := 0, locals := 0 } : Room).slots (Q31 Z rt h0 n0))) (Ls := #[.val (.int (0 : Int32)), .val (.int rt)]) (by first | (simp [entryFrame, mkF, argsToLocals, Value.category]; done) | rfl) ?_
  refine own_iloadN X0 hx 1 rfl (hb hby own_d31_0) rfl ?_
  refine own_iloadN X0 hx 2 rfl (hb hby own_d31_1) rfl ?_
  refine own_icmpY X0 hx 37 (hb hby own_d31_2) (flt (hrt : ¬ (rt < (0 : Int32)))).2.1 (by decide) (by decide) ?_
  refine own_retV X0 hx hlk Bd.returns (hb hby own_d31_37) (by decide) (by decide) e0 ?_
  exact ⟨rfl, N0, rfl⟩
theorem own_pd1 : parseMethodDescriptor "(II)V" = some ⟨[.int, .int], none⟩ := by decide +kernel
theorem own_d30_0 : decode jdk_65_method_133_code 0 = .ok (.iload_n 1, 1) := by decide +kernel
theorem own_d30_1 : decode jdk_65_method_133_code 1 = .ok (.iload_n 2, 1) := by decide +kernel
theorem own_d30_2 : decode jdk_65_method_133_code 2 = .ok (.invokestatic 343, 3) := by decide +kernel
theorem own_d30_5 : decode jdk_65_method_133_code 5 = .ok (.iload_n 2, 1) := by decide +kernel
theorem own_d30_6 : decode jdk_65_method_133_code 6 = .ok (.iload_n 1, 1) := by decide +kernel
theorem own_d30_7 : decode jdk_65_method_133_code 7 = .ok (.isub, 1) := by decide +kernel
theorem own_d30_8 : decode jdk_65_method_133_code 8 = .ok (.istore_n 3, 1) := by decide +kernel
theorem own_d30_9 : decode jdk_65_method_133_code 9 = .ok (.iload_n 3, 1) := by decide +kernel
theorem own_d30_10 : decode jdk_65_method_133_code 10 = .ok (.newarray .byte, 2) := by decide +kernel
theorem own_d30_12 : decode jdk_65_method_133_code 12 = .ok (.astore 4, 2) := by decide +kernel
theorem own_d30_14 : decode jdk_65_method_133_code 14 = .ok (.aload_n 0, 1) := by decide +kernel
theorem own_d30_15 : decode jdk_65_method_133_code 15 = .ok (.iload_n 1, 1) := by decide +kernel
theorem own_d30_16 : decode jdk_65_method_133_code 16 = .ok (.aload 4, 2) := by decide +kernel
theorem own_d30_18 : decode jdk_65_method_133_code 18 = .ok (.iconst 0, 1) := by decide +kernel
theorem own_d30_19 : decode jdk_65_method_133_code 19 = .ok (.aload_n 0, 1) := by decide +kernel
theorem own_d30_20 : decode jdk_65_method_133_code 20 = .ok (.arraylength, 1) := by decide +kernel
theorem own_d30_21 : decode jdk_65_method_133_code 21 = .ok (.iload_n 1, 1) := by decide +kernel
theorem own_d30_22 : decode jdk_65_method_133_code 22 = .ok (.isub, 1) := by decide +kernel
theorem own_d30_23 : decode jdk_65_method_133_code 23 = .ok (.iload_n 3, 1) := by decide +kernel
theorem own_d30_24 : decode jdk_65_method_133_code 24 = .ok (.invokestatic 304, 3) := by decide +kernel
theorem own_d30_27 : decode jdk_65_method_133_code 27 = .ok (.invokestatic 150, 3) := by decide +kernel
theorem own_d30_30 : decode jdk_65_method_133_code 30 = .ok (.aload 4, 2) := by decide +kernel
theorem own_d30_32 : decode jdk_65_method_133_code 32 = .ok (.areturn, 1) := by decide +kernel
def Q30 (Z : State) (ra : Addr) (rt : Int32) (rn : Int32) (h0 : Heap) (n0 : Nat) (v : Option Value) (h : Heap) (L : List Loc) : Prop := ∃ cb : Addr, v = some (.ref cb) ∧ Fr n0 L ∧ Keep h0 h [] ∧ h0.size ≤ cb ∧ ByA Z h cb rt
set_option maxRecDepth 65536 in
set_option maxHeartbeats 40000000 in
theorem rm30 (l : Launch) (Z : State) (a0 : Array Value) (hw : ∀ d ∈ tables_1, d.before a0 Z = true) (ws : List Jvm.Cond) (ra : Addr) (rt : Int32) (rn : Int32) (h0 : Heap) (n0 : Nat) (Z0 : n0 ≤ h0.size) (Br : ByA Z h0 ra rn) (hrt : ¬ (rt < (0 : Int32))) (hcp : (rt).toNatClampNeg ≤ 100) (hlt : rt < rn) :
    MetFree l (⟨"java/util/Arrays", "copyOfRangeByte", "([BII)[B"⟩ : MethodName) (head1 (Jvm.Cond.code (⟨"java/util/Arrays", "copyOfRangeByte", "([BII)[B"⟩ : MethodName) jdk_65_method_133_code 5 (some (.array .byte)) :: ws) ({ frames := 1, cells := 1, slots := 100, locals := 18 } : Room)) (fun a U => a = #[(.ref ra), (.int (0 : Int32)), (.int rt)] ∧ Z.Warmed39 U.vm ∧ U.heap = h0) (fun _ _ _ _ _ => True) (fun _ U o U' => ∃ v L, o = .returned v ∧ Q30 Z ra rt rn h0 n0 v U'.heap L ∧ FrameEnd U o U' L ({ frames := 1, cells := 1, slots := 100, locals := 18 } : Room).cells ({ frames := 1, cells := 1, slots := 100, locals := 18 } : Room).slots) := by
  refine MetFree.of_bodySF (plainFor_of_name own_pn_java_util_Arrays) hisR ?_
  intro p e s m args below meth c s₁ Bd hml0 hP hK
  obtain ⟨rfl, hZ, hh⟩ := hP
  have hx := Bd.exec
  have hby := Bd.bytes
  have hml : c.maxLocals = 5 := hml0
  have hlk := Bd.notSynchronized
  have hown : s.vm.findClass "java/util/Arrays" = some m.cls := findClass_of_methodNamed Bd.named
  have hnm := (name_of_methodNamed Bd.named Bd.method).1
  have X0 : Stand p l e ({ frames := 1, cells := 1, slots := 100, locals := 18 } : Room) s m #[(.ref ra), (.int (0 : Int32)), (.int rt)] below meth c s₁ [] 0 0 := Stand.of_body Bd
  have e0 : s₁.heap = h0 := by rw [← hh, Bd.state]; rfl
  have N0 := Fr.nil n0
  have K0 : Keep h0 h0 [] := Keep.refl _ _
  refine own_enter (P := (Done s ({ frames := 1, cells := 1, slots := 100, locals := 18 } : Room).cells ({ frames := 1, cells := 1, slots := 100, locals := 18 } : Room).slots (Q30 Z ra rt rn h0 n0))) (Ls := #[.val (.ref ra), .val (.int (0 : Int32)), .val (.int rt), .unset, .unset]) (by first | (simp [entryFrame, mkF, argsToLocals, Value.category]; done) | rfl) ?_
  refine own_iloadN X0 hx 1 rfl (hb hby own_d30_0) rfl ?_
  refine own_iloadN X0 hx 2 rfl (hb hby own_d30_1) rfl ?_
  obtain ⟨_, _, ⟨T1, L1, k1, n1⟩, -, X1, ⟨Lc1, hQ1, l1, y1, z1⟩, st1⟩ := Jvm.LawKit.callS X0 hx (y := (⟨"java/util/Arrays", "checkLength", "(II)V"⟩ : MethodName)) hown (mvT hZ (hw _ (List.mem_of_getElem? (i := 170) rfl))) (mvT hZ (hw _ (List.mem_of_getElem? (i := 171) rfl))) (mvT hZ (hw _ (List.mem_of_getElem? (i := 119) rfl))) (mvT hZ (hw _ (List.mem_of_getElem? (i := 172) rfl))) (by decide) (backOf (W := 0) (rm31 l Z a0 hw [] rt h0 n0 Z0 hrt) hZ (hw _ (List.mem_of_getElem? (i := 172) rfl)) (hw _ (List.mem_of_getElem? (i := 119) rfl)) (by decide) (by decide)) (g := (mkF m 2 #[.val (.ref ra), .val (.int (0 : Int32)), .val (.int rt), .unset, .unset] [(.int rt), (.int (0 : Int32))])) rfl (by rw [hml]; rfl) (argsL := [(.int (0 : Int32)), (.int rt)]) (rest := []) (lenOf own_pd1 rfl) rfl (by show 2 * 0 + _ ≤ _; exact Nat.le_of_eq rfl) (hb hby own_d30_2) (fun _ _ => ⟨rfl, e0, (by decide : 0 + 0 ≤ _), (by decide : 0 + 0 ≤ _)⟩)
  dsimp only [Pt.U, Pt.locs, Pt.cells, Pt.slots] at X1 l1 y1 z1 st1 hQ1
  subst l1 y1 z1
  obtain ⟨rfl, N1q, eh1⟩ := hQ1
  have N1 := Fr.app N0 N1q
  refine Goes.go st1 ?_
  show Goes p e below _ T1 (mkF m 5 #[.val (.ref ra), .val (.int (0 : Int32)), .val (.int rt), .unset, .unset] [])
  refine own_iloadN X1 hx 6 rfl (hb hby own_d30_5) rfl ?_
  refine own_iloadN X1 hx 7 rfl (hb hby own_d30_6) rfl ?_
  refine own_isub X1 hx 8 rfl (z := rt) (hb hby own_d30_7) (own_isub0 _) ?_
  refine own_istoreN X1 hx 9 rfl #[.val (.ref ra), .val (.int (0 : Int32)), .val (.int rt), .val (.int rt), .unset] (hb hby own_d30_8) rfl ?_
  refine own_iloadN X1 hx 10 rfl (hb hby own_d30_9) rfl ?_
  obtain ⟨T2, h2, k2, X2, e2, E2, A2, Ea2, st2⟩ := newPE X1 hx hZ (hw _ (List.mem_of_getElem? (i := 28) rfl)) eh1 (g := (mkF m 10 #[.val (.ref ra), .val (.int (0 : Int32)), .val (.int rt), .val (.int rt), .unset] [(.int rt)])) rfl (hb hby own_d30_10) rfl hrt (cap := 100) hcp (by decide) (by decide) (by decide) (ad := "[B") (by first | rfl | decide +kernel)
  obtain ⟨b2, g2⟩ : ∃ z, z = h0.size := ⟨_, rfl⟩
  rw [← g2] at A2 Ea2 st2
  have ne3 : ra ≠ b2 := own_lt_ne Br.lt g2
  have G2 : n0 ≤ b2 := Nat.le_trans Z0 (Nat.le_of_eq g2.symm)
  have H2 : h0.size ≤ b2 := Nat.le_trans K0.1 (Nat.le_of_eq g2.symm)
  have f4 := Br.ext E2
  have K2 := K0.ext E2
  have Z2 := Nat.le_trans Z0 E2.1
  have V2 : ByA Z h2 b2 rt := ByA.of (Arv.new A2 hrt) Ea2
  refine Goes.go st2 ?_
  show Goes p e below _ T2 (mkF m 12 #[.val (.ref ra), .val (.int (0 : Int32)), .val (.int rt), .val (.int rt), .unset] [(.ref b2)])
  refine own_astore X2 hx 14 rfl #[.val (.ref ra), .val (.int (0 : Int32)), .val (.int rt), .val (.int rt), .val (.ref b2)] (hb hby own_d30_12) rfl rfl ?_
  refine own_aloadN X2 hx 15 rfl (hb hby own_d30_14) rfl rfl ?_
  refine own_iloadN X2 hx 16 rfl (hb hby own_d30_15) rfl ?_
  refine own_aload X2 hx 18 rfl (hb hby own_d30_16) rfl rfl ?_
  refine own_iconst X2 hx 19 rfl (0 : Int32) (hb hby own_d30_18) (by decide) ?_
  refine own_aloadN X2 hx 20 rfl (hb hby own_d30_19) rfl rfl ?_
  obtain ⟨cl5, Ar5, S5, NN5, HH5⟩ := ByA.opn f4
  refine Goes.go (X2.arraylength hx (by rw [e2]; exact Ar5.1) (State.isArrayOf_alike hZ.alike Ar5.2.1) (g := (mkF m 20 #[.val (.ref ra), .val (.int (0 : Int32)), .val (.int rt), .val (.int rt), .val (.ref b2)] [(.ref ra), (.int (0 : Int32)), (.ref b2), (.int (0 : Int32)), (.ref ra)])) rfl rfl (hb hby own_d30_20)) ?_
  show Goes p e below _ T2 (mkF m 21 #[.val (.ref ra), .val (.int (0 : Int32)), .val (.int rt), .val (.int rt), .val (.ref b2)] [(.int (cl5.slots.size.toInt32)), (.int (0 : Int32)), (.ref b2), (.int (0 : Int32)), (.ref ra)])
  rw [len_of S5 NN5]
  refine own_iloadN X2 hx 22 rfl (hb hby own_d30_21) rfl ?_
  refine own_isub X2 hx 23 rfl (z := rn) (hb hby own_d30_22) (own_isub0 _) ?_
  refine own_iloadN X2 hx 24 rfl (hb hby own_d30_23) rfl ?_
  obtain ⟨_, _, ⟨T6, L6, k6, n6⟩, -, X6, ⟨Lc6, hQ6, l6, y6, z6⟩, st6⟩ := Jvm.LawKit.callS X2 hx (y := (⟨"java/lang/Math", "min", "(II)I"⟩ : MethodName)) hown (mvT hZ (hw _ (List.mem_of_getElem? (i := 121) rfl))) (mvT hZ (hw _ (List.mem_of_getElem? (i := 122) rfl))) (mvT hZ (hw _ (List.mem_of_getElem? (i := 113) rfl))) (mvT hZ (hw _ (List.mem_of_getElem? (i := 123) rfl))) (by decide) (backOf (W := 4) (rmminB l Z a0 hw [] rn rt h2 n0 Z2 hlt) hZ (hw _ (List.mem_of_getElem? (i := 123) rfl)) (hw _ (List.mem_of_getElem? (i := 113) rfl)) (by decide) (by decide)) (g := (mkF m 24 #[.val (.ref ra), .val (.int (0 : Int32)), .val (.int rt), .val (.int rt), .val (.ref b2)] [(.int rt), (.int rn), (.int (0 : Int32)), (.ref b2), (.int (0 : Int32)), (.ref ra)])) rfl (by rw [hml]; rfl) (argsL := [(.int rn), (.int rt)]) (rest := [(.int (0 : Int32)), (.ref b2), (.int (0 : Int32)), (.ref ra)]) (lenOf own_pd0 rfl) rfl (by show 2 * 0 + _ ≤ _; exact Nat.le_of_eq rfl) (hb hby own_d30_24) (fun _ _ => ⟨rfl, e2, (by decide : 1 + 0 ≤ _), (by decide : 100 + 0 ≤ _)⟩)
  dsimp only [Pt.U, Pt.locs, Pt.cells, Pt.slots] at X6 l6 y6 z6 st6 hQ6
  subst l6 y6 z6
  obtain ⟨rfl, N6q, eh6⟩ := hQ6
  have N6 := Fr.app N1 N6q
  refine Goes.go st6 ?_
  show Goes p e below _ T6 (mkF m 27 #[.val (.ref ra), .val (.int (0 : Int32)), .val (.int rt), .val (.int rt), .val (.ref b2)] [(.int rt), (.int (0 : Int32)), (.ref b2), (.int (0 : Int32)), (.ref ra)])
  obtain ⟨ks7, us7, As7, ls7⟩ := (f4).1
  obtain ⟨kd7, ud7, Ad7, ld7⟩ := (V2).1
  have h57 : ((0 : Int32)).toNatClampNeg + (rt).toNatClampNeg ≤ (rt).toNatClampNeg := (by rw [own_z0, Nat.zero_add]; exact Nat.le_refl _)
  obtain ⟨T7, h7, L7, X7, e7, N7, Kq7, Av7, st7⟩ := cpA X6 hx hZ hown (hw _ (List.mem_of_getElem? (i := 124) rfl)) (hw _ (List.mem_of_getElem? (i := 88) rfl)) (hw _ (List.mem_of_getElem? (i := 86) rfl)) (hw _ (List.mem_of_getElem? (i := 87) rfl)) eh6 (sp := (0 : Int32)) (dp := (0 : Int32)) (nn := rt) As7 Ad7 (Or.inl ⟨rfl, rfl⟩) (by decide) (by decide) hrt (by rw [own_z0, Nat.zero_add]; exact own_natle (own_asym hlt)) h57 rfl (by rw [ld7]; exact h57) N6 G2 (g := (mkF m 27 #[.val (.ref ra), .val (.int (0 : Int32)), .val (.int rt), .val (.int rt), .val (.ref b2)] [(.int rt), (.int (0 : Int32)), (.ref b2), (.int (0 : Int32)), (.ref ra)])) rfl (by rw [hml]; rfl) rfl (hb hby own_d30_27) (by decide) (W := 0) (by show 2 * 0 + _ ≤ _; exact Nat.le_of_eq rfl) (by decide)
  have V7 : ByA Z h7 b2 rt := ByA.of Av7 (Exa.keep (ByA.exa V2) Kq7)
  have f8 := f4.keep Kq7 (ninS ne3 nin0)
  have K7 := K2.trans Kq7 (allS (Or.inr H2) all0)
  have Z7 := Nat.le_trans Z2 Kq7.1
  refine Goes.go st7 ?_
  show Goes p e below _ T7 (mkF m 30 #[.val (.ref ra), .val (.int (0 : Int32)), .val (.int rt), .val (.int rt), .val (.ref b2)] [])
  refine own_aload X7 hx 32 rfl (hb hby own_d30_30) rfl rfl ?_
  refine own_retR X7 hx hlk Bd.returns rfl rfl (hb hby own_d30_32) (by decide) (by decide) e7 ?_
  exact ⟨b2, rfl, N7, K7, H2, V7⟩
theorem own_d29_0 : decode jdk_65_method_132_code 0 = .ok (.iload_n 1, 1) := by decide +kernel
theorem own_d29_1 : decode jdk_65_method_132_code 1 = .ok (.ifCond .ne 9, 3) := by decide +kernel
theorem own_d29_4 : decode jdk_65_method_132_code 4 = .ok (.iload_n 2, 1) := by decide +kernel
theorem own_d29_5 : decode jdk_65_method_132_code 5 = .ok (.aload_n 0, 1) := by decide +kernel
theorem own_d29_6 : decode jdk_65_method_132_code 6 = .ok (.arraylength, 1) := by decide +kernel
theorem own_d29_7 : decode jdk_65_method_132_code 7 = .ok (.if_icmp .eq 10, 3) := by decide +kernel
theorem own_d29_17 : decode jdk_65_method_132_code 17 = .ok (.aload_n 0, 1) := by decide +kernel
theorem own_d29_18 : decode jdk_65_method_132_code 18 = .ok (.invokevirtual 310, 3) := by decide +kernel
theorem own_d29_21 : decode jdk_65_method_132_code 21 = .ok (.checkcast 311, 3) := by decide +kernel
theorem own_d29_24 : decode jdk_65_method_132_code 24 = .ok (.areturn, 1) := by decide +kernel
def QcrC (Z : State) (ra : Addr) (rt : Int32) (rn : Int32) (h0 : Heap) (n0 : Nat) (v : Option Value) (h : Heap) (L : List Loc) : Prop := ∃ cb : Addr, v = some (.ref cb) ∧ Fr n0 L ∧ Keep h0 h [] ∧ h0.size ≤ cb ∧ ByA Z h cb rn
set_option maxRecDepth 65536 in
set_option maxHeartbeats 40000000 in
theorem rmcrC (l : Launch) (Z : State) (a0 : Array Value) (hw : ∀ d ∈ tables_1, d.before a0 Z = true) (ws : List Jvm.Cond) (ra : Addr) (rt : Int32) (rn : Int32) (h0 : Heap) (n0 : Nat) (Z0 : n0 ≤ h0.size) (Br : ByA Z h0 ra rn) (heq : rt = rn) (hcp : (rn).toNatClampNeg ≤ 100) :
    MetFree l (⟨"java/util/Arrays", "copyOfRange", "([BII)[B"⟩ : MethodName) (head1 (Jvm.Cond.code (⟨"java/util/Arrays", "copyOfRange", "([BII)[B"⟩ : MethodName) jdk_65_method_132_code 3 (some (.array .byte)) :: ws) ({ frames := 1, cells := 1, slots := 100, locals := 14 } : Room)) (fun a U => a = #[(.ref ra), (.int (0 : Int32)), (.int rt)] ∧ Z.Warmed39 U.vm ∧ U.heap = h0) (fun _ _ _ _ _ => True) (fun _ U o U' => ∃ v L, o = .returned v ∧ QcrC Z ra rt rn h0 n0 v U'.heap L ∧ FrameEnd U o U' L ({ frames := 1, cells := 1, slots := 100, locals := 14 } : Room).cells ({ frames := 1, cells := 1, slots := 100, locals := 14 } : Room).slots) := by
  refine MetFree.of_bodySF (plainFor_of_name own_pn_java_util_Arrays) hisR ?_
  intro p e s m args below meth c s₁ Bd hml0 hP hK
  obtain ⟨rfl, hZ, hh⟩ := hP
  have hx := Bd.exec
  have hby := Bd.bytes
  have hml : c.maxLocals = 3 := hml0
  have hlk := Bd.notSynchronized
  have hown : s.vm.findClass "java/util/Arrays" = some m.cls := findClass_of_methodNamed Bd.named
  have hnm := (name_of_methodNamed Bd.named Bd.method).1
  have X0 : Stand p l e ({ frames := 1, cells := 1, slots := 100, locals := 14 } : Room) s m #[(.ref ra), (.int (0 : Int32)), (.int rt)] below meth c s₁ [] 0 0 := Stand.of_body Bd
  have e0 : s₁.heap = h0 := by rw [← hh, Bd.state]; rfl
  have N0 := Fr.nil n0
  have K0 : Keep h0 h0 [] := Keep.refl _ _
  refine own_enter (P := (Done s ({ frames := 1, cells := 1, slots := 100, locals := 14 } : Room).cells ({ frames := 1, cells := 1, slots := 100, locals := 14 } : Room).slots (QcrC Z ra rt rn h0 n0))) (Ls := #[.val (.ref ra), .val (.int (0 : Int32)), .val (.int rt)]) (by first | (simp [entryFrame, mkF, argsToLocals, Value.category]; done) | rfl) ?_
  refine own_iloadN X0 hx 1 rfl (hb hby own_d29_0) rfl ?_
  refine own_ifN X0 hx 4 (hb hby own_d29_1) ((if0 _ _).trans (teq ((by decide) : (0 : Int32) = (0 : Int32))).2) rfl ?_
  refine own_iloadN X0 hx 5 rfl (hb hby own_d29_4) rfl ?_
  refine own_aloadN X0 hx 6 rfl (hb hby own_d29_5) rfl rfl ?_
  obtain ⟨cl1, Ar1, S1, NN1, HH1⟩ := ByA.opn Br
  refine Goes.go (X0.arraylength hx (by rw [e0]; exact Ar1.1) (State.isArrayOf_alike hZ.alike Ar1.2.1) (g := (mkF m 6 #[.val (.ref ra), .val (.int (0 : Int32)), .val (.int rt)] [(.ref ra), (.int rt)])) rfl rfl (hb hby own_d29_6)) ?_
  show Goes p e below _ s₁ (mkF m 7 #[.val (.ref ra), .val (.int (0 : Int32)), .val (.int rt)] [(.int (cl1.slots.size.toInt32)), (.int rt)])
  rw [len_of S1 NN1]
  refine own_icmpY X0 hx 17 (hb hby own_d29_7) (teq (heq : rt = rn)).1 (by decide) (by decide) ?_
  refine own_aloadN X0 hx 18 rfl (hb hby own_d29_17) rfl rfl ?_
  obtain ⟨ks2, us2, As2, ls2⟩ := (Br).1
  obtain ⟨T2, h2, X2, e2, E2, A2, Ea2, st2⟩ := cloneH X0 hx hZ hown (hw _ (List.mem_of_getElem? (i := 232) rfl)) (hw _ (List.mem_of_getElem? (i := 233) rfl)) (hw _ (List.mem_of_getElem? (i := 237) rfl)) (hw _ (List.mem_of_getElem? (i := 235) rfl)) (hw _ (List.mem_of_getElem? (i := 236) rfl)) (hw _ (List.mem_of_getElem? (i := 238) rfl)) e0 (Arv.arh As2) (ByA.exa Br) (g := (mkF m 18 #[.val (.ref ra), .val (.int (0 : Int32)), .val (.int rt)] [(.ref ra)])) rfl (by rw [hml]; rfl) rfl (hb hby own_d29_18) (by decide) (W := 0) (by show 2 * 0 + _ ≤ _; exact Nat.le_of_eq rfl) (by decide) (cap := 100) hcp (by decide) (by decide)
  obtain ⟨b2, g2⟩ : ∃ z, z = h0.size := ⟨_, rfl⟩
  rw [← g2] at A2 Ea2 st2
  have ne3 : ra ≠ b2 := own_lt_ne Br.lt g2
  have G2 : n0 ≤ b2 := Nat.le_trans Z0 (Nat.le_of_eq g2.symm)
  have H2 : h0.size ≤ b2 := Nat.le_trans K0.1 (Nat.le_of_eq g2.symm)
  have f4 := Br.ext E2
  have K2 := K0.ext E2
  have Z2 := Nat.le_trans Z0 E2.1
  have V2 : ByA Z h2 b2 rn := ByA.of (show Arv Z h2 b2 ks2 .byte rn us2 (.int 0) from A2) Ea2
  refine Goes.go st2 ?_
  show Goes p e below _ T2 (mkF m 21 #[.val (.ref ra), .val (.int (0 : Int32)), .val (.int rt)] [(.ref b2)])
  obtain ⟨T5, X5, e5, st5⟩ := castY X2 hx hZ hown (hw _ (List.mem_of_getElem? (i := 239) rfl)) e2 (Ins.self (ByA.exa V2)) (g := (mkF m 21 #[.val (.ref ra), .val (.int (0 : Int32)), .val (.int rt)] [(.ref b2)])) rfl rfl (hb hby own_d29_21)
  refine Goes.go st5 ?_
  show Goes p e below _ T5 (mkF m 24 #[.val (.ref ra), .val (.int (0 : Int32)), .val (.int rt)] [(.ref b2)])
  refine own_retR X5 hx hlk Bd.returns rfl rfl (hb hby own_d29_24) (by decide) (by decide) e5 ?_
  exact ⟨b2, rfl, N0, K2, H2, V2⟩
theorem own_pd2 : parseMethodDescriptor "([BII)[B" = some ⟨[(.array .byte), .int, .int], some (.array .byte)⟩ := by decide +kernel
theorem own_d29_10 : decode jdk_65_method_132_code 10 = .ok (.aload_n 0, 1) := by decide +kernel
theorem own_d29_11 : decode jdk_65_method_132_code 11 = .ok (.iload_n 1, 1) := by decide +kernel
theorem own_d29_12 : decode jdk_65_method_132_code 12 = .ok (.iload_n 2, 1) := by decide +kernel
theorem own_d29_13 : decode jdk_65_method_132_code 13 = .ok (.invokestatic 339, 3) := by decide +kernel
theorem own_d29_16 : decode jdk_65_method_132_code 16 = .ok (.areturn, 1) := by decide +kernel
def QcrR (Z : State) (ra : Addr) (rt : Int32) (rn : Int32) (h0 : Heap) (n0 : Nat) (v : Option Value) (h : Heap) (L : List Loc) : Prop := ∃ cb : Addr, v = some (.ref cb) ∧ Fr n0 L ∧ Keep h0 h [] ∧ h0.size ≤ cb ∧ ByA Z h cb rt
set_option maxRecDepth 65536 in
set_option maxHeartbeats 40000000 in
theorem rmcrR (l : Launch) (Z : State) (a0 : Array Value) (hw : ∀ d ∈ tables_1, d.before a0 Z = true) (ws : List Jvm.Cond) (ra : Addr) (rt : Int32) (rn : Int32) (h0 : Heap) (n0 : Nat) (Z0 : n0 ≤ h0.size) (Br : ByA Z h0 ra rn) (hrt : ¬ (rt < (0 : Int32))) (hcp : (rt).toNatClampNeg ≤ 100) (hlt : rt < rn) :
    MetFree l (⟨"java/util/Arrays", "copyOfRange", "([BII)[B"⟩ : MethodName) (head1 (Jvm.Cond.code (⟨"java/util/Arrays", "copyOfRange", "([BII)[B"⟩ : MethodName) jdk_65_method_132_code 3 (some (.array .byte)) :: ws) ({ frames := 2, cells := 1, slots := 100, locals := 34 } : Room)) (fun a U => a = #[(.ref ra), (.int (0 : Int32)), (.int rt)] ∧ Z.Warmed39 U.vm ∧ U.heap = h0) (fun _ _ _ _ _ => True) (fun _ U o U' => ∃ v L, o = .returned v ∧ QcrR Z ra rt rn h0 n0 v U'.heap L ∧ FrameEnd U o U' L ({ frames := 2, cells := 1, slots := 100, locals := 34 } : Room).cells ({ frames := 2, cells := 1, slots := 100, locals := 34 } : Room).slots) := by
  refine MetFree.of_bodySF (plainFor_of_name own_pn_java_util_Arrays) hisR ?_
  intro p e s m args below meth c s₁ Bd hml0 hP hK
  obtain ⟨rfl, hZ, hh⟩ := hP
  have hx := Bd.exec
  have hby := Bd.bytes
  have hml : c.maxLocals = 3 := hml0
  have hlk := Bd.notSynchronized
  have hown : s.vm.findClass "java/util/Arrays" = some m.cls := findClass_of_methodNamed Bd.named
  have hnm := (name_of_methodNamed Bd.named Bd.method).1
  have X0 : Stand p l e ({ frames := 2, cells := 1, slots := 100, locals := 34 } : Room) s m #[(.ref ra), (.int (0 : Int32)), (.int rt)] below meth c s₁ [] 0 0 := Stand.of_body Bd
  have e0 : s₁.heap = h0 := by rw [← hh, Bd.state]; rfl
  have N0 := Fr.nil n0
  have K0 : Keep h0 h0 [] := Keep.refl _ _
  refine own_enter (P := (Done s ({ frames := 2, cells := 1, slots := 100, locals := 34 } : Room).cells ({ frames := 2, cells := 1, slots := 100, locals := 34 } : Room).slots (QcrR Z ra rt rn h0 n0))) (Ls := #[.val (.ref ra), .val (.int (0 : Int32)), .val (.int rt)]) (by first | (simp [entryFrame, mkF, argsToLocals, Value.category]; done) | rfl) ?_
  refine own_iloadN X0 hx 1 rfl (hb hby own_d29_0) rfl ?_
  refine own_ifN X0 hx 4 (hb hby own_d29_1) ((if0 _ _).trans (teq ((by decide) : (0 : Int32) = (0 : Int32))).2) rfl ?_
  refine own_iloadN X0 hx 5 rfl (hb hby own_d29_4) rfl ?_
  refine own_aloadN X0 hx 6 rfl (hb hby own_d29_5) rfl rfl ?_
  obtain ⟨cl1, Ar1, S1, NN1, HH1⟩ := ByA.opn Br
  refine Goes.go (X0.arraylength hx (by rw [e0]; exact Ar1.1) (State.isArrayOf_alike hZ.alike Ar1.2.1) (g := (mkF m 6 #[.val (.ref ra), .val (.int (0 : Int32)), .val (.int rt)] [(.ref ra), (.int rt)])) rfl rfl (hb hby own_d29_6)) ?_
  show Goes p e below _ s₁ (mkF m 7 #[.val (.ref ra), .val (.int (0 : Int32)), .val (.int rt)] [(.int (cl1.slots.size.toInt32)), (.int rt)])
  rw [len_of S1 NN1]
  refine own_icmpN X0 hx 10 (hb hby own_d29_7) (feq (own_ltne hlt : ¬ (rt = rn))).1 rfl ?_
  refine own_aloadN X0 hx 11 rfl (hb hby own_d29_10) rfl rfl ?_
  refine own_iloadN X0 hx 12 rfl (hb hby own_d29_11) rfl ?_
  refine own_iloadN X0 hx 13 rfl (hb hby own_d29_12) rfl ?_
  obtain ⟨_, _, ⟨T2, L2, k2, n2⟩, -, X2, ⟨Lc2, hQ2, l2, y2, z2⟩, st2⟩ := Jvm.LawKit.callS X0 hx (y := (⟨"java/util/Arrays", "copyOfRangeByte", "([BII)[B"⟩ : MethodName)) hown (mvT hZ (hw _ (List.mem_of_getElem? (i := 167) rfl))) (mvT hZ (hw _ (List.mem_of_getElem? (i := 168) rfl))) (mvT hZ (hw _ (List.mem_of_getElem? (i := 119) rfl))) (mvT hZ (hw _ (List.mem_of_getElem? (i := 169) rfl))) (by decide) (backOf (W := 0) (rm30 l Z a0 hw [] ra rt rn h0 n0 Z0 Br hrt hcp hlt) hZ (hw _ (List.mem_of_getElem? (i := 169) rfl)) (hw _ (List.mem_of_getElem? (i := 119) rfl)) (by decide) (by decide)) (g := (mkF m 13 #[.val (.ref ra), .val (.int (0 : Int32)), .val (.int rt)] [(.int rt), (.int (0 : Int32)), (.ref ra)])) rfl (by rw [hml]; rfl) (argsL := [(.ref ra), (.int (0 : Int32)), (.int rt)]) (rest := []) (lenOf own_pd2 rfl) rfl (by show 2 * 0 + _ ≤ _; exact Nat.le_of_eq rfl) (hb hby own_d29_13) (fun _ _ => ⟨rfl, e0, (by decide : 0 + 1 ≤ _), (by decide : 0 + 100 ≤ _)⟩)
  dsimp only [Pt.U, Pt.locs, Pt.cells, Pt.slots] at X2 l2 y2 z2 st2 hQ2
  subst l2 y2 z2
  obtain ⟨cb_2, rfl, N2q, K2q, f2_0, f2_1⟩ := hQ2
  have N2 := Fr.app N0 N2q
  have ne3 : ra ≠ cb_2 := Nat.ne_of_lt (Nat.lt_of_lt_of_le Br.lt f2_0)
  have GG4 : n0 ≤ cb_2 := Nat.le_trans Z0 f2_0
  have HG4 : h0.size ≤ cb_2 := Nat.le_trans K0.1 f2_0
  have f5 := Br.keep K2q nin0
  have K2 := K0.trans K2q all0
  have Z2 := Nat.le_trans Z0 K2q.1
  refine Goes.go st2 ?_
  show Goes p e below _ T2 (mkF m 16 #[.val (.ref ra), .val (.int (0 : Int32)), .val (.int rt)] [(.ref cb_2)])
  refine own_retR X2 hx hlk Bd.returns rfl rfl (hb hby own_d29_16) (by decide) (by decide) rfl ?_
  exact ⟨cb_2, rfl, N2, K2, HG4, f2_1⟩
theorem own_d8_0 : decode jdk_42_method_152_code 0 = .ok (.getstatic 38, 3) := by decide +kernel
theorem own_d8_3 : decode jdk_42_method_152_code 3 = .ok (.ifCond .eq 10, 3) := by decide +kernel
theorem own_d8_6 : decode jdk_42_method_152_code 6 = .ok (.aload_n 0, 1) := by decide +kernel
theorem own_d8_7 : decode jdk_42_method_152_code 7 = .ok (.getfield 15, 3) := by decide +kernel
theorem own_d8_10 : decode jdk_42_method_152_code 10 = .ok (.goto 4, 3) := by decide +kernel
theorem own_d8_14 : decode jdk_42_method_152_code 14 = .ok (.ireturn, 1) := by decide +kernel
theorem own_pn_java_lang_String : plainName "java/lang/String" = true := by first | (simp [plainName, overriddenIn]; done) | decide +kernel
def Q8 (Z : State) (lt : Addr) (cs : Int32) (h0 : Heap) (n0 : Nat) (v : Option Value) (h : Heap) (L : List Loc) : Prop := v = some (.int (0 : Int32)) ∧ Fr n0 L ∧ h = h0
set_option maxRecDepth 65536 in
set_option maxHeartbeats 40000000 in
theorem rm8 (l : Launch) (Z : State) (a0 : Array Value) (hw : ∀ d ∈ tables_1, d.before a0 Z = true) (ws : List Jvm.Cond) (lt : Addr) (cs : Int32) (h0 : Heap) (n0 : Nat) (Z0 : n0 ≤ h0.size) (Sc : Sta Z h0 "java/lang/String" "COMPACT_STRINGS" "Z" (.int cs)) (hcs : ¬ (cs = (0 : Int32))) (Fc : Fld Z h0 lt "java/lang/String" "coder" "B" (.int (0 : Int32))) :
    MetFree l (⟨"java/lang/String", "coder", "()B"⟩ : MethodName) (head1 (Jvm.Cond.code (⟨"java/lang/String", "coder", "()B"⟩ : MethodName) jdk_42_method_152_code 1 (some .byte) :: ws) ({ frames := 0, cells := 0, slots := 0, locals := 0 } : Room)) (fun a U => a = #[(.ref lt)] ∧ Z.Warmed39 U.vm ∧ U.heap = h0) (fun _ _ _ _ _ => True) (fun _ U o U' => ∃ v L, o = .returned v ∧ Q8 Z lt cs h0 n0 v U'.heap L ∧ FrameEnd U o U' L ({ frames := 0, cells := 0, slots := 0, locals := 0 } : Room).cells ({ frames := 0, cells := 0, slots := 0, locals := 0 } : Room).slots) := by
  refine MetFree.of_bodySF (plainFor_of_name own_pn_java_lang_String) hisR ?_
  intro p e s m args below meth c s₁ Bd hml0 hP hK
  obtain ⟨rfl, hZ, hh⟩ := hP
  have hx := Bd.exec
  have hby := Bd.bytes
  have hml : c.maxLocals = 1 := hml0
  have hlk := Bd.notSynchronized
  have hown : s.vm.findClass "java/lang/String" = some m.cls := findClass_of_methodNamed Bd.named
  have hnm := (name_of_methodNamed Bd.named Bd.method).1
  have X0 : Stand p l e ({ frames := 0, cells := 0, slots := 0, locals := 0 } : Room) s m #[(.ref lt)] below meth c s₁ [] 0 0 := Stand.of_body Bd
  have e0 : s₁.heap = h0 := by rw [← hh, Bd.state]; rfl
  have N0 := Fr.nil n0
  refine own_enter (P := (Done s ({ frames := 0, cells := 0, slots := 0, locals := 0 } : Room).cells ({ frames := 0, cells := 0, slots := 0, locals := 0 } : Room).slots (Q8 Z lt cs h0 n0))) (Ls := #[.val (.ref lt)]) (by first | (simp [entryFrame, mkF, argsToLocals, Value.category]; done) | rfl) ?_
  obtain ⟨T1, X1, e1, st1⟩ := getS2 X0 hx hZ hown (host := "") (Or.inl (hw _ (List.mem_of_getElem? (i := 60) rfl))) Via.refl e0 Sc (g := (mkF m 0 #[.val (.ref lt)] [])) rfl (hb hby own_d8_0)
  refine Goes.go st1 ?_
  show Goes p e below _ T1 (mkF m 3 #[.val (.ref lt)] [(.int cs)])
  refine own_ifN X1 hx 6 (hb hby own_d8_3) ((if0 _ _).trans (feq (hcs : ¬ (cs = (0 : Int32)))).1) rfl ?_
  refine own_aloadN X1 hx 7 rfl (hb hby own_d8_6) rfl rfl ?_
  obtain ⟨T2, X2, e2, st2⟩ := getF X1 hx hZ hown (host := "") (Or.inl (hw _ (List.mem_of_getElem? (i := 61) rfl))) Via.refl e1 Fc (g := (mkF m 7 #[.val (.ref lt)] [(.ref lt)])) rfl rfl (hb hby own_d8_7)
  refine Goes.go st2 ?_
  show Goes p e below _ T2 (mkF m 10 #[.val (.ref lt)] [(.int (0 : Int32))])
  refine own_goto X2 hx 14 (hb hby own_d8_10) (by decide) (by decide) ?_
  refine own_ret X2 hx hlk Bd.returns (by decide) (Or.inl ⟨rfl, by simp, _, rfl⟩) (hb hby own_d8_14) (by decide) (by decide) e2 ?_
  exact ⟨rfl, N0, rfl⟩
theorem own_pd3 : parseMethodDescriptor "()B" = some ⟨[], some .byte⟩ := by decide +kernel
theorem own_d7_0 : decode jdk_42_method_54_code 0 = .ok (.aload_n 0, 1) := by decide +kernel
theorem own_d7_1 : decode jdk_42_method_54_code 1 = .ok (.getfield 9, 3) := by decide +kernel
theorem own_d7_4 : decode jdk_42_method_54_code 4 = .ok (.arraylength, 1) := by decide +kernel
theorem own_d7_5 : decode jdk_42_method_54_code 5 = .ok (.aload_n 0, 1) := by decide +kernel
theorem own_d7_6 : decode jdk_42_method_54_code 6 = .ok (.invokevirtual 335, 3) := by decide +kernel
theorem own_d7_9 : decode jdk_42_method_54_code 9 = .ok (.ishr, 1) := by decide +kernel
theorem own_d7_10 : decode jdk_42_method_54_code 10 = .ok (.ireturn, 1) := by decide +kernel
def Q7 (Z : State) (sa : Addr) (cs : Int32) (vb : Addr) (vk : ClassId) (vn : Int32) (vs : List Value) (h0 : Heap) (n0 : Nat) (v : Option Value) (h : Heap) (L : List Loc) : Prop := v = some (.int vn) ∧ Fr n0 L ∧ h = h0
set_option maxRecDepth 65536 in
set_option maxHeartbeats 40000000 in
theorem rm7 (l : Launch) (Z : State) (a0 : Array Value) (hw : ∀ d ∈ tables_1, d.before a0 Z = true) (ws : List Jvm.Cond) (sa : Addr) (cs : Int32) (vb : Addr) (vk : ClassId) (vn : Int32) (vs : List Value) (h0 : Heap) (n0 : Nat) (Z0 : n0 ≤ h0.size) (Sc : Sta Z h0 "java/lang/String" "COMPACT_STRINGS" "Z" (.int cs)) (hcs : ¬ (cs = (0 : Int32))) (Es : Exa Z h0 sa "java/lang/String") (Fsc : Fld Z h0 sa "java/lang/String" "coder" "B" (.int (0 : Int32))) (Fsv : Fld Z h0 sa "java/lang/String" "value" "[B" (.ref vb)) (Avb : Arv Z h0 vb vk .byte vn vs (.int (0 : Int32))) :
    MetFree l (⟨"java/lang/String", "length", "()I"⟩ : MethodName) (head1 (Jvm.Cond.code (⟨"java/lang/String", "length", "()I"⟩ : MethodName) jdk_42_method_54_code 1 (some .int) :: ws) ({ frames := 1, cells := 0, slots := 0, locals := 13 } : Room)) (fun a U => a = #[(.ref sa)] ∧ Z.Warmed39 U.vm ∧ U.heap = h0) (fun _ _ _ _ _ => True) (fun _ U o U' => ∃ v L, o = .returned v ∧ Q7 Z sa cs vb vk vn vs h0 n0 v U'.heap L ∧ FrameEnd U o U' L ({ frames := 1, cells := 0, slots := 0, locals := 13 } : Room).cells ({ frames := 1, cells := 0, slots := 0, locals := 13 } : Room).slots) := by
  refine MetFree.of_bodySF (plainFor_of_name own_pn_java_lang_String) hisR ?_
  intro p e s m args below meth c s₁ Bd hml0 hP hK
  obtain ⟨rfl, hZ, hh⟩ := hP
  have hx := Bd.exec
  have hby := Bd.bytes
  have hml : c.maxLocals = 1 := hml0
  have hlk := Bd.notSynchronized
  have hown : s.vm.findClass "java/lang/String" = some m.cls := findClass_of_methodNamed Bd.named
  have hnm := (name_of_methodNamed Bd.named Bd.method).1
  have X0 : Stand p l e ({ frames := 1, cells := 0, slots := 0, locals := 13 } : Room) s m #[(.ref sa)] below meth c s₁ [] 0 0 := Stand.of_body Bd
  have e0 : s₁.heap = h0 := by rw [← hh, Bd.state]; rfl
  have N0 := Fr.nil n0
  refine own_enter (P := (Done s ({ frames := 1, cells := 0, slots := 0, locals := 13 } : Room).cells ({ frames := 1, cells := 0, slots := 0, locals := 13 } : Room).slots (Q7 Z sa cs vb vk vn vs h0 n0))) (Ls := #[.val (.ref sa)]) (by first | (simp [entryFrame, mkF, argsToLocals, Value.category]; done) | rfl) ?_
  refine own_aloadN X0 hx 1 rfl (hb hby own_d7_0) rfl rfl ?_
  obtain ⟨T1, X1, e1, st1⟩ := getF X0 hx hZ hown (host := "") (Or.inl (hw _ (List.mem_of_getElem? (i := 54) rfl))) Via.refl e0 Fsv (g := (mkF m 1 #[.val (.ref sa)] [(.ref sa)])) rfl rfl (hb hby own_d7_1)
  refine Goes.go st1 ?_
  show Goes p e below _ T1 (mkF m 4 #[.val (.ref sa)] [(.ref vb)])
  obtain ⟨cl2, Ar2, qq2, S2, NN2, HH2, GG2⟩ := id Avb
  refine Goes.go (X1.arraylength hx (by rw [e1]; exact Ar2.1) (State.isArrayOf_alike hZ.alike Ar2.2.1) (g := (mkF m 4 #[.val (.ref sa)] [(.ref vb)])) rfl rfl (hb hby own_d7_4)) ?_
  show Goes p e below _ T1 (mkF m 5 #[.val (.ref sa)] [(.int (cl2.slots.size.toInt32))])
  rw [len_of S2 NN2]
  refine own_aloadN X1 hx 6 rfl (hb hby own_d7_5) rfl rfl ?_
  obtain ⟨cq3, kq3, q3a, q3b, q3c⟩ := isOf hZ e1 Es
  obtain ⟨_, _, ⟨T3, L3, k3, n3⟩, -, X3, ⟨Lc3, hQ3, l3, y3, z3⟩, st3⟩ := X1.virtualBack hx (y := (⟨"java/lang/String", "coder", "()B"⟩ : MethodName)) (z := (⟨"java/lang/String", "coder", "()B"⟩ : MethodName)) hown (mvT hZ (hw _ (List.mem_of_getElem? (i := 55) rfl))) (mvT hZ (hw _ (List.mem_of_getElem? (i := 56) rfl))) (notFace_of_selects (args := #[]) (mvT hZ (hw _ (List.mem_of_getElem? (i := 58) rfl)))) (mvT hZ (hw _ (List.mem_of_getElem? (i := 58) rfl))) (mvT hZ (hw _ (List.mem_of_getElem? (i := 57) rfl))) (by decide) (backOf (W := 1) (rm8 l Z a0 hw [] sa cs h0 n0 Z0 Sc hcs Fsc) hZ (hw _ (List.mem_of_getElem? (i := 59) rfl)) (hw _ (List.mem_of_getElem? (i := 27) rfl)) (by decide) (by decide)) q3a q3c (g := (mkF m 6 #[.val (.ref sa)] [(.ref sa), (.int vn)])) rfl (by rw [hml]; rfl) (Steps.refl _) (argsL := []) (rest := [(.int vn)]) (lenOf own_pd3 rfl) rfl (by show 2 * 0 + _ ≤ _; exact Nat.le_of_eq rfl) (hb hby own_d7_6) (fun _ _ => ⟨rfl, e1, (by decide : 0 + 0 ≤ _), (by decide : 0 + 0 ≤ _)⟩)
  dsimp only [Pt.U, Pt.locs, Pt.cells, Pt.slots] at X3 l3 y3 z3 st3 hQ3
  subst l3 y3 z3
  obtain ⟨rfl, N3q, eh3⟩ := hQ3
  have N3 := Fr.app N0 N3q
  refine Goes.tr st3 ?_
  show Goes p e below _ T3 (mkF m 9 #[.val (.ref sa)] [(.int (0 : Int32)), (.int vn)])
  refine own_ishr X3 hx 10 rfl (z := vn) (hb hby own_d7_9) (own_ishr0 _) ?_
  refine own_retI X3 hx hlk Bd.returns (hb hby own_d7_10) (by decide) (by decide) eh3 ?_
  exact ⟨rfl, N3, rfl⟩
theorem own_d12_0 : decode jdk_42_method_147_code 0 = .ok (.aload_n 0, 1) := by decide +kernel
theorem own_d12_1 : decode jdk_42_method_147_code 1 = .ok (.invokevirtual 335, 3) := by decide +kernel
theorem own_d12_4 : decode jdk_42_method_147_code 4 = .ok (.iload_n 3, 1) := by decide +kernel
theorem own_d12_5 : decode jdk_42_method_147_code 5 = .ok (.if_icmp .ne 23, 3) := by decide +kernel
theorem own_d12_8 : decode jdk_42_method_147_code 8 = .ok (.aload_n 0, 1) := by decide +kernel
theorem own_d12_9 : decode jdk_42_method_147_code 9 = .ok (.getfield 9, 3) := by decide +kernel
theorem own_d12_12 : decode jdk_42_method_147_code 12 = .ok (.iconst 0, 1) := by decide +kernel
theorem own_d12_13 : decode jdk_42_method_147_code 13 = .ok (.aload_n 1, 1) := by decide +kernel
theorem own_d12_14 : decode jdk_42_method_147_code 14 = .ok (.iload_n 2, 1) := by decide +kernel
theorem own_d12_15 : decode jdk_42_method_147_code 15 = .ok (.iload_n 3, 1) := by decide +kernel
theorem own_d12_16 : decode jdk_42_method_147_code 16 = .ok (.ishl, 1) := by decide +kernel
theorem own_d12_17 : decode jdk_42_method_147_code 17 = .ok (.aload_n 0, 1) := by decide +kernel
theorem own_d12_18 : decode jdk_42_method_147_code 18 = .ok (.getfield 9, 3) := by decide +kernel
theorem own_d12_21 : decode jdk_42_method_147_code 21 = .ok (.arraylength, 1) := by decide +kernel
theorem own_d12_22 : decode jdk_42_method_147_code 22 = .ok (.invokestatic 212, 3) := by decide +kernel
theorem own_d12_25 : decode jdk_42_method_147_code 25 = .ok (.goto 18, 3) := by decide +kernel
theorem own_d12_43 : decode jdk_42_method_147_code 43 = .ok (.return_, 1) := by decide +kernel
def Q12 (Z : State) (sa : Addr) (gd : Addr) (gp : Int32) (cs : Int32) (vb : Addr) (vk : ClassId) (vn : Int32) (vs : List Value) (dn : Int32) (h0 : Heap) (n0 : Nat) (v : Option Value) (h : Heap) (L : List Loc) : Prop := v = none ∧ Fr n0 L ∧ Keep h0 h [gd] ∧ ByA Z h gd dn
set_option maxRecDepth 65536 in
set_option maxHeartbeats 40000000 in
theorem rm12 (l : Launch) (Z : State) (a0 : Array Value) (hw : ∀ d ∈ tables_1, d.before a0 Z = true) (ws : List Jvm.Cond) (sa : Addr) (gd : Addr) (gp : Int32) (cs : Int32) (vb : Addr) (vk : ClassId) (vn : Int32) (vs : List Value) (dn : Int32) (h0 : Heap) (n0 : Nat) (Z0 : n0 ≤ h0.size) (Sc : Sta Z h0 "java/lang/String" "COMPACT_STRINGS" "Z" (.int cs)) (hcs : ¬ (cs = (0 : Int32))) (Es : Exa Z h0 sa "java/lang/String") (Fsc : Fld Z h0 sa "java/lang/String" "coder" "B" (.int (0 : Int32))) (Fsv : Fld Z h0 sa "java/lang/String" "value" "[B" (.ref vb)) (Avb : Arv Z h0 vb vk .byte vn vs (.int (0 : Int32))) (Bdd : ByA Z h0 gd dn) (gd_ : n0 ≤ gd) (nsg : sa ≠ gd) (nvg : vb ≠ gd) (hg0 : ¬ (gp < (0 : Int32))) (hg5 : (gp).toNatClampNeg + (vn).toNatClampNeg ≤ (dn).toNatClampNeg) :
    MetFree l (⟨"java/lang/String", "getBytes", "([BIB)V"⟩ : MethodName) (head1 (Jvm.Cond.code (⟨"java/lang/String", "getBytes", "([BIB)V"⟩ : MethodName) jdk_42_method_147_code 4 none :: ws) ({ frames := 1, cells := 0, slots := 0, locals := 18 } : Room)) (fun a U => a = #[(.ref sa), (.ref gd), (.int gp), (.int (0 : Int32))] ∧ Z.Warmed39 U.vm ∧ U.heap = h0) (fun _ _ _ _ _ => True) (fun _ U o U' => ∃ v L, o = .returned v ∧ Q12 Z sa gd gp cs vb vk vn vs dn h0 n0 v U'.heap L ∧ FrameEnd U o U' L ({ frames := 1, cells := 0, slots := 0, locals := 18 } : Room).cells ({ frames := 1, cells := 0, slots := 0, locals := 18 } : Room).slots) := by
  refine MetFree.of_bodySF (plainFor_of_name own_pn_java_lang_String) hisR ?_
  intro p e s m args below meth c s₁ Bd hml0 hP hK
  obtain ⟨rfl, hZ, hh⟩ := hP
  have hx := Bd.exec
  have hby := Bd.bytes
  have hml : c.maxLocals = 4 := hml0
  have hlk := Bd.notSynchronized
  have hown : s.vm.findClass "java/lang/String" = some m.cls := findClass_of_methodNamed Bd.named
  have hnm := (name_of_methodNamed Bd.named Bd.method).1
  have X0 : Stand p l e ({ frames := 1, cells := 0, slots := 0, locals := 18 } : Room) s m #[(.ref sa), (.ref gd), (.int gp), (.int (0 : Int32))] below meth c s₁ [] 0 0 := Stand.of_body Bd
  have e0 : s₁.heap = h0 := by rw [← hh, Bd.state]; rfl
  have N0 := Fr.nil n0
  have K0 : Keep h0 h0 [gd] := Keep.refl _ _
  refine own_enter (P := (Done s ({ frames := 1, cells := 0, slots := 0, locals := 18 } : Room).cells ({ frames := 1, cells := 0, slots := 0, locals := 18 } : Room).slots (Q12 Z sa gd gp cs vb vk vn vs dn h0 n0))) (Ls := #[.val (.ref sa), .val (.ref gd), .val (.int gp), .val (.int (0 : Int32))]) (by first | (simp [entryFrame, mkF, argsToLocals, Value.category]; done) | rfl) ?_
  refine own_aloadN X0 hx 1 rfl (hb hby own_d12_0) rfl rfl ?_
  obtain ⟨cq1, kq1, q1a, q1b, q1c⟩ := isOf hZ e0 Es
  obtain ⟨_, _, ⟨T1, L1, k1, n1⟩, -, X1, ⟨Lc1, hQ1, l1, y1, z1⟩, st1⟩ := X0.virtualBack hx (y := (⟨"java/lang/String", "coder", "()B"⟩ : MethodName)) (z := (⟨"java/lang/String", "coder", "()B"⟩ : MethodName)) hown (mvT hZ (hw _ (List.mem_of_getElem? (i := 55) rfl))) (mvT hZ (hw _ (List.mem_of_getElem? (i := 56) rfl))) (notFace_of_selects (args := #[]) (mvT hZ (hw _ (List.mem_of_getElem? (i := 58) rfl)))) (mvT hZ (hw _ (List.mem_of_getElem? (i := 58) rfl))) (mvT hZ (hw _ (List.mem_of_getElem? (i := 57) rfl))) (by decide) (backOf (W := 0) (rm8 l Z a0 hw [] sa cs h0 n0 Z0 Sc hcs Fsc) hZ (hw _ (List.mem_of_getElem? (i := 59) rfl)) (hw _ (List.mem_of_getElem? (i := 27) rfl)) (by decide) (by decide)) q1a q1c (g := (mkF m 1 #[.val (.ref sa), .val (.ref gd), .val (.int gp), .val (.int (0 : Int32))] [(.ref sa)])) rfl (by rw [hml]; rfl) (Steps.refl _) (argsL := []) (rest := []) (lenOf own_pd3 rfl) rfl (by show 2 * 0 + _ ≤ _; exact Nat.le_of_eq rfl) (hb hby own_d12_1) (fun _ _ => ⟨rfl, e0, (by decide : 0 + 0 ≤ _), (by decide : 0 + 0 ≤ _)⟩)
  dsimp only [Pt.U, Pt.locs, Pt.cells, Pt.slots] at X1 l1 y1 z1 st1 hQ1
  subst l1 y1 z1
  obtain ⟨rfl, N1q, eh1⟩ := hQ1
  have N1 := Fr.app N0 N1q
  refine Goes.tr st1 ?_
  show Goes p e below _ T1 (mkF m 4 #[.val (.ref sa), .val (.ref gd), .val (.int gp), .val (.int (0 : Int32))] [(.int (0 : Int32))])
  refine own_iloadN X1 hx 5 rfl (hb hby own_d12_4) rfl ?_
  refine own_icmpN X1 hx 8 (hb hby own_d12_5) (teq ((by decide) : (0 : Int32) = (0 : Int32))).2 rfl ?_
  refine own_aloadN X1 hx 9 rfl (hb hby own_d12_8) rfl rfl ?_
  obtain ⟨T2, X2, e2, st2⟩ := getF X1 hx hZ hown (host := "") (Or.inl (hw _ (List.mem_of_getElem? (i := 54) rfl))) Via.refl eh1 Fsv (g := (mkF m 9 #[.val (.ref sa), .val (.ref gd), .val (.int gp), .val (.int (0 : Int32))] [(.ref sa)])) rfl rfl (hb hby own_d12_9)
  refine Goes.go st2 ?_
  show Goes p e below _ T2 (mkF m 12 #[.val (.ref sa), .val (.ref gd), .val (.int gp), .val (.int (0 : Int32))] [(.ref vb)])
  refine own_iconst X2 hx 13 rfl (0 : Int32) (hb hby own_d12_12) (by decide) ?_
  refine own_aloadN X2 hx 14 rfl (hb hby own_d12_13) rfl rfl ?_
  refine own_iloadN X2 hx 15 rfl (hb hby own_d12_14) rfl ?_
  refine own_iloadN X2 hx 16 rfl (hb hby own_d12_15) rfl ?_
  refine own_ishl X2 hx 17 rfl (z := gp) (hb hby own_d12_16) (own_ishl0 _) ?_
  refine own_aloadN X2 hx 18 rfl (hb hby own_d12_17) rfl rfl ?_
  obtain ⟨T3, X3, e3, st3⟩ := getF X2 hx hZ hown (host := "") (Or.inl (hw _ (List.mem_of_getElem? (i := 54) rfl))) Via.refl e2 Fsv (g := (mkF m 18 #[.val (.ref sa), .val (.ref gd), .val (.int gp), .val (.int (0 : Int32))] [(.ref sa), (.int gp), (.ref gd), (.int (0 : Int32)), (.ref vb)])) rfl rfl (hb hby own_d12_18)
  refine Goes.go st3 ?_
  show Goes p e below _ T3 (mkF m 21 #[.val (.ref sa), .val (.ref gd), .val (.int gp), .val (.int (0 : Int32))] [(.ref vb), (.int gp), (.ref gd), (.int (0 : Int32)), (.ref vb)])
  obtain ⟨cl4, Ar4, qq4, S4, NN4, HH4, GG4⟩ := id Avb
  refine Goes.go (X3.arraylength hx (by rw [e3]; exact Ar4.1) (State.isArrayOf_alike hZ.alike Ar4.2.1) (g := (mkF m 21 #[.val (.ref sa), .val (.ref gd), .val (.int gp), .val (.int (0 : Int32))] [(.ref vb), (.int gp), (.ref gd), (.int (0 : Int32)), (.ref vb)])) rfl rfl (hb hby own_d12_21)) ?_
  show Goes p e below _ T3 (mkF m 22 #[.val (.ref sa), .val (.ref gd), .val (.int gp), .val (.int (0 : Int32))] [(.int (cl4.slots.size.toInt32)), (.int gp), (.ref gd), (.int (0 : Int32)), (.ref vb)])
  rw [len_of S4 NN4]
  obtain ⟨cv5, -, -, -, Nv5, -⟩ := id Avb
  obtain ⟨kd5, ud5, Ad5, ld5⟩ := (Bdd).1
  have h55 : (gp).toNatClampNeg + (vn).toNatClampNeg ≤ (dn).toNatClampNeg := hg5
  obtain ⟨T5, h5, L5, X5, e5, N5, Kq5, Av5, st5⟩ := cpA X3 hx hZ hown (hw _ (List.mem_of_getElem? (i := 85) rfl)) (hw _ (List.mem_of_getElem? (i := 88) rfl)) (hw _ (List.mem_of_getElem? (i := 86) rfl)) (hw _ (List.mem_of_getElem? (i := 87) rfl)) e3 (sp := (0 : Int32)) (dp := gp) (nn := vn) Avb Ad5 (Or.inl ⟨rfl, rfl⟩) (by decide) hg0 Nv5 (by rw [own_z0, Nat.zero_add]; exact Nat.le_refl _) h55 rfl (by rw [ld5]; exact h55) N1 gd_ (g := (mkF m 22 #[.val (.ref sa), .val (.ref gd), .val (.int gp), .val (.int (0 : Int32))] [(.int vn), (.int gp), (.ref gd), (.int (0 : Int32)), (.ref vb)])) rfl (by rw [hml]; rfl) rfl (hb hby own_d12_22) (by decide) (W := 0) (by show 2 * 0 + _ ≤ _; exact Nat.le_of_eq rfl) (by decide)
  have V5 : ByA Z h5 gd dn := ByA.of Av5 (Exa.keep (ByA.exa Bdd) Kq5)
  have f6 := own_sta_keep Sc Kq5 (allS Bdd.plain all0)
  have f7 := Es.keep Kq5
  have f8 := Fsc.keep Kq5 (ninS nsg nin0)
  have f9 := Fsv.keep Kq5 (ninS nsg nin0)
  have f10 := Avb.keep Kq5 (ninS nvg nin0)
  have K5 := K0.trans Kq5 (allS (Or.inl (List.mem_of_getElem? (i := 0) rfl)) all0)
  have Z5 := Nat.le_trans Z0 Kq5.1
  refine Goes.go st5 ?_
  show Goes p e below _ T5 (mkF m 25 #[.val (.ref sa), .val (.ref gd), .val (.int gp), .val (.int (0 : Int32))] [])
  refine own_goto X5 hx 43 (hb hby own_d12_25) (by decide) (by decide) ?_
  refine own_retV X5 hx hlk Bd.returns (hb hby own_d12_43) (by decide) (by decide) e5 ?_
  exact ⟨rfl, N5, K5, V5⟩
theorem own_d3_0 : decode jdk_68_method_2_code 0 = .ok (.aload_n 0, 1) := by decide +kernel
theorem own_d3_1 : decode jdk_68_method_2_code 1 = .ok (.invokespecial 3, 3) := by decide +kernel
theorem own_d3_4 : decode jdk_68_method_2_code 4 = .ok (.getstatic 18, 3) := by decide +kernel
theorem own_d3_7 : decode jdk_68_method_2_code 7 = .ok (.ifCond .eq 18, 3) := by decide +kernel
theorem own_d3_10 : decode jdk_68_method_2_code 10 = .ok (.aload_n 0, 1) := by decide +kernel
theorem own_d3_11 : decode jdk_68_method_2_code 11 = .ok (.iload_n 1, 1) := by decide +kernel
theorem own_d3_12 : decode jdk_68_method_2_code 12 = .ok (.newarray .byte, 2) := by decide +kernel
theorem own_d3_14 : decode jdk_68_method_2_code 14 = .ok (.putfield 15, 3) := by decide +kernel
theorem own_d3_17 : decode jdk_68_method_2_code 17 = .ok (.aload_n 0, 1) := by decide +kernel
theorem own_d3_18 : decode jdk_68_method_2_code 18 = .ok (.iconst 0, 1) := by decide +kernel
theorem own_d3_19 : decode jdk_68_method_2_code 19 = .ok (.putfield 22, 3) := by decide +kernel
theorem own_d3_22 : decode jdk_68_method_2_code 22 = .ok (.goto 16, 3) := by decide +kernel
theorem own_d3_38 : decode jdk_68_method_2_code 38 = .ok (.return_, 1) := by decide +kernel
theorem own_pn_java_lang_AbstractStringBuilder : plainName "java/lang/AbstractStringBuilder" = true := by first | (simp [plainName, overriddenIn]; done) | decide +kernel
def Q3 (Z : State) (sb : Addr) (cs : Int32) (h0 : Heap) (n0 : Nat) (v : Option Value) (h : Heap) (L : List Loc) : Prop := ∃ va : Addr, v = none ∧ Fr n0 L ∧ Keep h0 h [sb] ∧ h0.size ≤ va ∧ Fld Z h sb "java/lang/AbstractStringBuilder" "value" "[B" (.ref va) ∧ Fld Z h sb "java/lang/AbstractStringBuilder" "coder" "B" (.int (0 : Int32)) ∧ Fld Z h sb "java/lang/AbstractStringBuilder" "count" "I" (.int (0 : Int32)) ∧ ByA Z h va (16 : Int32)
set_option maxRecDepth 65536 in
set_option maxHeartbeats 40000000 in
theorem rm3 (l : Launch) (Z : State) (a0 : Array Value) (hw : ∀ d ∈ tables_1, d.before a0 Z = true) (ws : List Jvm.Cond) (sb : Addr) (cs : Int32) (h0 : Heap) (n0 : Nat) (Z0 : n0 ≤ h0.size) (Sc : Sta Z h0 "java/lang/String" "COMPACT_STRINGS" "Z" (.int cs)) (hcs : ¬ (cs = (0 : Int32))) (Eb : Exa Z h0 sb "java/lang/StringBuilder") (gb : n0 ≤ sb) (Fv : Fld Z h0 sb "java/lang/AbstractStringBuilder" "value" "[B" .null) (Fc : Fld Z h0 sb "java/lang/AbstractStringBuilder" "coder" "B" (.int (0 : Int32))) (Fn : Fld Z h0 sb "java/lang/AbstractStringBuilder" "count" "I" (.int (0 : Int32))) :
    MetFree l (⟨"java/lang/AbstractStringBuilder", "<init>", "(I)V"⟩ : MethodName) (head1 (Jvm.Cond.code (⟨"java/lang/AbstractStringBuilder", "<init>", "(I)V"⟩ : MethodName) jdk_68_method_2_code 2 none :: ws) ({ frames := 1, cells := 1, slots := 16, locals := 12 } : Room)) (fun a U => a = #[(.ref sb), (.int (16 : Int32))] ∧ Z.Warmed39 U.vm ∧ U.heap = h0) (fun _ _ _ _ _ => True) (fun _ U o U' => ∃ v L, o = .returned v ∧ Q3 Z sb cs h0 n0 v U'.heap L ∧ FrameEnd U o U' L ({ frames := 1, cells := 1, slots := 16, locals := 12 } : Room).cells ({ frames := 1, cells := 1, slots := 16, locals := 12 } : Room).slots) := by
  refine MetFree.of_bodySF (plainFor_of_name own_pn_java_lang_AbstractStringBuilder) hisR ?_
  intro p e s m args below meth c s₁ Bd hml0 hP hK
  obtain ⟨rfl, hZ, hh⟩ := hP
  have hx := Bd.exec
  have hby := Bd.bytes
  have hml : c.maxLocals = 2 := hml0
  have hlk := Bd.notSynchronized
  have hown : s.vm.findClass "java/lang/AbstractStringBuilder" = some m.cls := findClass_of_methodNamed Bd.named
  have hnm := (name_of_methodNamed Bd.named Bd.method).1
  have X0 : Stand p l e ({ frames := 1, cells := 1, slots := 16, locals := 12 } : Room) s m #[(.ref sb), (.int (16 : Int32))] below meth c s₁ [] 0 0 := Stand.of_body Bd
  have e0 : s₁.heap = h0 := by rw [← hh, Bd.state]; rfl
  have N0 := Fr.nil n0
  have K0 : Keep h0 h0 [sb] := Keep.refl _ _
  refine own_enter (P := (Done s ({ frames := 1, cells := 1, slots := 16, locals := 12 } : Room).cells ({ frames := 1, cells := 1, slots := 16, locals := 12 } : Room).slots (Q3 Z sb cs h0 n0))) (Ls := #[.val (.ref sb), .val (.int (16 : Int32))]) (by first | (simp [entryFrame, mkF, argsToLocals, Value.category]; done) | rfl) ?_
  refine own_aloadN X0 hx 1 rfl (hb hby own_d3_0) rfl rfl ?_
  obtain ⟨T1, X1, e1, st1⟩ := initO X0 hx hZ hown (hw _ (List.mem_of_getElem? (i := 23) rfl)) (hw _ (List.mem_of_getElem? (i := 24) rfl)) (hw _ (List.mem_of_getElem? (i := 25) rfl)) e0 (g := (mkF m 1 #[.val (.ref sb), .val (.int (16 : Int32))] [(.ref sb)])) rfl (by rw [hml]; rfl) rfl (hb hby own_d3_1) (by decide) (W := 0) (by show 2 * 0 + _ ≤ _; exact Nat.le_of_eq rfl) (by decide)
  refine Goes.go st1 ?_
  show Goes p e below _ T1 (mkF m 4 #[.val (.ref sb), .val (.int (16 : Int32))] [])
  obtain ⟨T2, X2, e2, st2⟩ := getS2 X1 hx hZ hown (host := "") (Or.inl (hw _ (List.mem_of_getElem? (i := 26) rfl))) Via.refl e1 Sc (g := (mkF m 4 #[.val (.ref sb), .val (.int (16 : Int32))] [])) rfl (hb hby own_d3_4)
  refine Goes.go st2 ?_
  show Goes p e below _ T2 (mkF m 7 #[.val (.ref sb), .val (.int (16 : Int32))] [(.int cs)])
  refine own_ifN X2 hx 10 (hb hby own_d3_7) ((if0 _ _).trans (feq (hcs : ¬ (cs = (0 : Int32)))).1) rfl ?_
  refine own_aloadN X2 hx 11 rfl (hb hby own_d3_10) rfl rfl ?_
  refine own_iloadN X2 hx 12 rfl (hb hby own_d3_11) rfl ?_
  obtain ⟨T3, h3, k3, X3, e3, E3, A3, Ea3, st3⟩ := newPE X2 hx hZ (hw _ (List.mem_of_getElem? (i := 28) rfl)) e2 (g := (mkF m 12 #[.val (.ref sb), .val (.int (16 : Int32))] [(.int (16 : Int32)), (.ref sb)])) rfl (hb hby own_d3_12) rfl (by decide) (cap := 16) (by decide) (by decide) (by decide) (by decide) (ad := "[B") (by first | rfl | decide +kernel)
  obtain ⟨b3, g3⟩ : ∃ z, z = h0.size := ⟨_, rfl⟩
  rw [← g3] at A3 Ea3 st3
  have ne4 : sb ≠ b3 := own_lt_ne Eb.lt g3
  have G3 : n0 ≤ b3 := Nat.le_trans Z0 (Nat.le_of_eq g3.symm)
  have H3 : h0.size ≤ b3 := Nat.le_trans K0.1 (Nat.le_of_eq g3.symm)
  have f5 := Sc.ext E3
  have f6 := Eb.ext E3
  have f7 := Fv.ext E3
  have f8 := Fc.ext E3
  have f9 := Fn.ext E3
  have K3 := K0.ext E3
  have Z3 := Nat.le_trans Z0 E3.1
  have V3 : ByA Z h3 b3 (16 : Int32) := ByA.of (Arv.new A3 (by decide)) Ea3
  refine Goes.go st3 ?_
  show Goes p e below _ T3 (mkF m 14 #[.val (.ref sb), .val (.int (16 : Int32))] [(.ref b3), (.ref sb)])
  obtain ⟨T10, h10, X10, e10, W10, st10⟩ := putF X3 hx hZ hown (host := "") (Or.inl (hw _ (List.mem_of_getElem? (i := 29) rfl))) Via.refl e3 f7 f6 (Or.inl (hw _ (List.mem_of_getElem? (i := 30) rfl))) (hw _ (List.mem_of_getElem? (i := 12) rfl)) (ty := (.array .byte)) (by decide) rfl rfl (g := (mkF m 14 #[.val (.ref sb), .val (.int (16 : Int32))] [(.ref b3), (.ref sb)])) rfl rfl (hb hby own_d3_14)
  have N10 := Fr.snoc X10 N0 gb
  have f11 := f5.wr W10
  have f12 := f6.wr W10
  have f13 := f7.same W10
  have f14 := f8.other W10 (Or.inr (slot_ne (Or.inl (hw _ (List.mem_of_getElem? (i := 32) rfl))) (Or.inl (hw _ (List.mem_of_getElem? (i := 30) rfl))) (by decide) (t := .byte) (t' := (.array .byte)) (by decide) (by decide)))
  have f15 := f9.other W10 (Or.inr (slot_ne (Or.inl (hw _ (List.mem_of_getElem? (i := 63) rfl))) (Or.inl (hw _ (List.mem_of_getElem? (i := 30) rfl))) (by decide) (t := .int) (t' := (.array .byte)) (by decide) (by decide)))
  have f16 := V3.other W10 (Ne.symm ne4)
  have K10 := K3.wr W10 (Or.inl (List.mem_of_getElem? (i := 0) rfl))
  have Z10 := Nat.le_trans Z3 (Nat.le_of_eq W10.size.symm)
  refine Goes.go st10 ?_
  show Goes p e below _ T10 (mkF m 17 #[.val (.ref sb), .val (.int (16 : Int32))] [])
  refine own_aloadN X10 hx 18 rfl (hb hby own_d3_17) rfl rfl ?_
  refine own_iconst X10 hx 19 rfl (0 : Int32) (hb hby own_d3_18) (by decide) ?_
  obtain ⟨T17, h17, X17, e17, W17, st17⟩ := putFN X10 hx hZ hown (hw _ (List.mem_of_getElem? (i := 31) rfl)) Via.refl e10 f14 f12 (Or.inl (hw _ (List.mem_of_getElem? (i := 32) rfl))) (hw _ (List.mem_of_getElem? (i := 12) rfl)) (ty := .byte) (v' := (.int (0 : Int32))) (by decide) rfl (by decide) (g := (mkF m 19 #[.val (.ref sb), .val (.int (16 : Int32))] [(.int (0 : Int32)), (.ref sb)])) rfl rfl (hb hby own_d3_19)
  have N17 := Fr.snoc X17 N10 gb
  have f18 := f11.wr W17
  have f19 := f12.wr W17
  have f20 := f13.other W17 (Or.inr (slot_ne (Or.inl (hw _ (List.mem_of_getElem? (i := 30) rfl))) (Or.inl (hw _ (List.mem_of_getElem? (i := 32) rfl))) (by decide) (t := (.array .byte)) (t' := .byte) (by decide) (by decide)))
  have f21 := f14.same W17
  have f22 := f15.other W17 (Or.inr (slot_ne (Or.inl (hw _ (List.mem_of_getElem? (i := 63) rfl))) (Or.inl (hw _ (List.mem_of_getElem? (i := 32) rfl))) (by decide) (t := .int) (t' := .byte) (by decide) (by decide)))
  have f23 := f16.other W17 (Ne.symm ne4)
  have K17 := K10.wr W17 (Or.inl (List.mem_of_getElem? (i := 0) rfl))
  have Z17 := Nat.le_trans Z10 (Nat.le_of_eq W17.size.symm)
  refine Goes.go st17 ?_
  show Goes p e below _ T17 (mkF m 22 #[.val (.ref sb), .val (.int (16 : Int32))] [])
  refine own_goto X17 hx 38 (hb hby own_d3_22) (by decide) (by decide) ?_
  refine own_retV X17 hx hlk Bd.returns (hb hby own_d3_38) (by decide) (by decide) e17 ?_
  exact ⟨b3, rfl, N17, K17, H3, f20, f21, f22, f23⟩
theorem own_pd4 : parseMethodDescriptor "(I)V" = some ⟨[.int], none⟩ := by decide +kernel
theorem own_d2_0 : decode jdk_67_method_1_code 0 = .ok (.aload_n 0, 1) := by decide +kernel
theorem own_d2_1 : decode jdk_67_method_1_code 1 = .ok (.bipush 16, 2) := by decide +kernel
theorem own_d2_3 : decode jdk_67_method_1_code 3 = .ok (.invokespecial 1, 3) := by decide +kernel
theorem own_d2_6 : decode jdk_67_method_1_code 6 = .ok (.return_, 1) := by decide +kernel
theorem own_pn_java_lang_StringBuilder : plainName "java/lang/StringBuilder" = true := by first | (simp [plainName, overriddenIn]; done) | decide +kernel
def Q2 (Z : State) (sb : Addr) (cs : Int32) (h0 : Heap) (n0 : Nat) (v : Option Value) (h : Heap) (L : List Loc) : Prop := ∃ va : Addr, v = none ∧ Fr n0 L ∧ Keep h0 h [sb] ∧ h0.size ≤ va ∧ Fld Z h sb "java/lang/AbstractStringBuilder" "value" "[B" (.ref va) ∧ Fld Z h sb "java/lang/AbstractStringBuilder" "coder" "B" (.int (0 : Int32)) ∧ Fld Z h sb "java/lang/AbstractStringBuilder" "count" "I" (.int (0 : Int32)) ∧ ByA Z h va (16 : Int32)
set_option maxRecDepth 65536 in
set_option maxHeartbeats 40000000 in
theorem rm2 (l : Launch) (Z : State) (a0 : Array Value) (hw : ∀ d ∈ tables_1, d.before a0 Z = true) (ws : List Jvm.Cond) (sb : Addr) (cs : Int32) (h0 : Heap) (n0 : Nat) (Z0 : n0 ≤ h0.size) (Sc : Sta Z h0 "java/lang/String" "COMPACT_STRINGS" "Z" (.int cs)) (hcs : ¬ (cs = (0 : Int32))) (Eb : Exa Z h0 sb "java/lang/StringBuilder") (gb : n0 ≤ sb) (Fv : Fld Z h0 sb "java/lang/AbstractStringBuilder" "value" "[B" .null) (Fc : Fld Z h0 sb "java/lang/AbstractStringBuilder" "coder" "B" (.int (0 : Int32))) (Fn : Fld Z h0 sb "java/lang/AbstractStringBuilder" "count" "I" (.int (0 : Int32))) :
    MetFree l (⟨"java/lang/StringBuilder", "<init>", "()V"⟩ : MethodName) (head1 (Jvm.Cond.code (⟨"java/lang/StringBuilder", "<init>", "()V"⟩ : MethodName) jdk_67_method_1_code 1 none :: ws) ({ frames := 2, cells := 1, slots := 16, locals := 25 } : Room)) (fun a U => a = #[(.ref sb)] ∧ Z.Warmed39 U.vm ∧ U.heap = h0) (fun _ _ _ _ _ => True) (fun _ U o U' => ∃ v L, o = .returned v ∧ Q2 Z sb cs h0 n0 v U'.heap L ∧ FrameEnd U o U' L ({ frames := 2, cells := 1, slots := 16, locals := 25 } : Room).cells ({ frames := 2, cells := 1, slots := 16, locals := 25 } : Room).slots) := by
  refine MetFree.of_bodySF (plainFor_of_name own_pn_java_lang_StringBuilder) hisR ?_
  intro p e s m args below meth c s₁ Bd hml0 hP hK
  obtain ⟨rfl, hZ, hh⟩ := hP
  have hx := Bd.exec
  have hby := Bd.bytes
  have hml : c.maxLocals = 1 := hml0
  have hlk := Bd.notSynchronized
  have hown : s.vm.findClass "java/lang/StringBuilder" = some m.cls := findClass_of_methodNamed Bd.named
  have hnm := (name_of_methodNamed Bd.named Bd.method).1
  have X0 : Stand p l e ({ frames := 2, cells := 1, slots := 16, locals := 25 } : Room) s m #[(.ref sb)] below meth c s₁ [] 0 0 := Stand.of_body Bd
  have e0 : s₁.heap = h0 := by rw [← hh, Bd.state]; rfl
  have N0 := Fr.nil n0
  have K0 : Keep h0 h0 [sb] := Keep.refl _ _
  refine own_enter (P := (Done s ({ frames := 2, cells := 1, slots := 16, locals := 25 } : Room).cells ({ frames := 2, cells := 1, slots := 16, locals := 25 } : Room).slots (Q2 Z sb cs h0 n0))) (Ls := #[.val (.ref sb)]) (by first | (simp [entryFrame, mkF, argsToLocals, Value.category]; done) | rfl) ?_
  refine own_aloadN X0 hx 1 rfl (hb hby own_d2_0) rfl rfl ?_
  refine own_bipush X0 hx 3 rfl (16 : Int32) (hb hby own_d2_1) (by decide) ?_
  obtain ⟨_, _, ⟨T1, L1, k1, n1⟩, -, X1, ⟨Lc1, hQ1, l1, y1, z1⟩, st1⟩ := X0.specialBack hx (y := (⟨"java/lang/AbstractStringBuilder", "<init>", "(I)V"⟩ : MethodName)) rfl hown (mvT hZ (hw _ (List.mem_of_getElem? (i := 17) rfl))) (mvT hZ (hw _ (List.mem_of_getElem? (i := 18) rfl))) (mvT hZ (hw _ (List.mem_of_getElem? (i := 22) rfl))) (by decide) (backOf (W := 0) (rm3 l Z a0 hw [] sb cs h0 n0 Z0 Sc hcs Eb gb Fv Fc Fn) hZ (hw _ (List.mem_of_getElem? (i := 22) rfl)) (hw _ (List.mem_of_getElem? (i := 21) rfl)) (by decide) (by decide)) (g := (mkF m 3 #[.val (.ref sb)] [(.int (16 : Int32)), (.ref sb)])) rfl (by rw [hml]; rfl) (Steps.refl _) (a := sb) (argsL := [(.int (16 : Int32))]) (rest := []) (lenOf own_pd4 rfl) rfl (by show 2 * 0 + _ ≤ _; exact Nat.le_of_eq rfl) (hb hby own_d2_3) (fun _ _ => ⟨rfl, e0, (by decide : 0 + 1 ≤ _), (by decide : 0 + 16 ≤ _)⟩)
  dsimp only [Pt.U, Pt.locs, Pt.cells, Pt.slots] at X1 l1 y1 z1 st1 hQ1
  subst l1 y1 z1
  obtain ⟨va_1, rfl, N1q, K1q, f1_0, f1_1, f1_2, f1_3, f1_4⟩ := hQ1
  have N1 := Fr.app N0 N1q
  have ne2 : sb ≠ va_1 := Nat.ne_of_lt (Nat.lt_of_lt_of_le Eb.lt f1_0)
  have GG3 : n0 ≤ va_1 := Nat.le_trans Z0 f1_0
  have HG3 : h0.size ≤ va_1 := Nat.le_trans K0.1 f1_0
  have f4 := own_sta_keep Sc K1q (allS (own_eplain Eb) all0)
  have f5 := Eb.keep K1q
  have K1 := K0.trans K1q (allS (Or.inl (List.mem_of_getElem? (i := 0) rfl)) all0)
  have Z1 := Nat.le_trans Z0 K1q.1
  refine Goes.tr st1 ?_
  show Goes p e below _ T1 (mkF m 6 #[.val (.ref sb)] [])
  refine own_retV X1 hx hlk Bd.returns (hb hby own_d2_6) (by decide) (by decide) rfl ?_
  exact ⟨va_1, rfl, N1, K1, HG3, f1_1, f1_2, f1_3, f1_4⟩
theorem own_d21_0 : decode jdk_68_method_68_code 0 = .ok (.getstatic 18, 3) := by decide +kernel
theorem own_d21_3 : decode jdk_68_method_68_code 3 = .ok (.ifCond .eq 14, 3) := by decide +kernel
theorem own_d21_6 : decode jdk_68_method_68_code 6 = .ok (.aload_n 0, 1) := by decide +kernel
theorem own_d21_7 : decode jdk_68_method_68_code 7 = .ok (.getfield 22, 3) := by decide +kernel
theorem own_d21_10 : decode jdk_68_method_68_code 10 = .ok (.ifCond .ne 7, 3) := by decide +kernel
theorem own_d21_13 : decode jdk_68_method_68_code 13 = .ok (.iconst 1, 1) := by decide +kernel
theorem own_d21_14 : decode jdk_68_method_68_code 14 = .ok (.goto 4, 3) := by decide +kernel
theorem own_d21_18 : decode jdk_68_method_68_code 18 = .ok (.ireturn, 1) := by decide +kernel
def Q21 (Z : State) (sb : Addr) (cs : Int32) (h0 : Heap) (n0 : Nat) (v : Option Value) (h : Heap) (L : List Loc) : Prop := v = some (.int (1 : Int32)) ∧ Fr n0 L ∧ h = h0
set_option maxRecDepth 65536 in
set_option maxHeartbeats 40000000 in
theorem rm21 (l : Launch) (Z : State) (a0 : Array Value) (hw : ∀ d ∈ tables_1, d.before a0 Z = true) (ws : List Jvm.Cond) (sb : Addr) (cs : Int32) (h0 : Heap) (n0 : Nat) (Z0 : n0 ≤ h0.size) (Sc : Sta Z h0 "java/lang/String" "COMPACT_STRINGS" "Z" (.int cs)) (hcs : ¬ (cs = (0 : Int32))) (Fc : Fld Z h0 sb "java/lang/AbstractStringBuilder" "coder" "B" (.int (0 : Int32))) :
    MetFree l (⟨"java/lang/AbstractStringBuilder", "isLatin1", "()Z"⟩ : MethodName) (head1 (Jvm.Cond.code (⟨"java/lang/AbstractStringBuilder", "isLatin1", "()Z"⟩ : MethodName) jdk_68_method_68_code 1 (some .boolean) :: ws) ({ frames := 0, cells := 0, slots := 0, locals := 0 } : Room)) (fun a U => a = #[(.ref sb)] ∧ Z.Warmed39 U.vm ∧ U.heap = h0) (fun _ _ _ _ _ => True) (fun _ U o U' => ∃ v L, o = .returned v ∧ Q21 Z sb cs h0 n0 v U'.heap L ∧ FrameEnd U o U' L ({ frames := 0, cells := 0, slots := 0, locals := 0 } : Room).cells ({ frames := 0, cells := 0, slots := 0, locals := 0 } : Room).slots) := by
  refine MetFree.of_bodySF (plainFor_of_name own_pn_java_lang_AbstractStringBuilder) hisR ?_
  intro p e s m args below meth c s₁ Bd hml0 hP hK
  obtain ⟨rfl, hZ, hh⟩ := hP
  have hx := Bd.exec
  have hby := Bd.bytes
  have hml : c.maxLocals = 1 := hml0
  have hlk := Bd.notSynchronized
  have hown : s.vm.findClass "java/lang/AbstractStringBuilder" = some m.cls := findClass_of_methodNamed Bd.named
  have hnm := (name_of_methodNamed Bd.named Bd.method).1
  have X0 : Stand p l e ({ frames := 0, cells := 0, slots := 0, locals := 0 } : Room) s m #[(.ref sb)] below meth c s₁ [] 0 0 := Stand.of_body Bd
  have e0 : s₁.heap = h0 := by rw [← hh, Bd.state]; rfl
  have N0 := Fr.nil n0
  refine own_enter (P := (Done s ({ frames := 0, cells := 0, slots := 0, locals := 0 } : Room).cells ({ frames := 0, cells := 0, slots := 0, locals := 0 } : Room).slots (Q21 Z sb cs h0 n0))) (Ls := #[.val (.ref sb)]) (by first | (simp [entryFrame, mkF, argsToLocals, Value.category]; done) | rfl) ?_
  obtain ⟨T1, X1, e1, st1⟩ := getS2 X0 hx hZ hown (host := "") (Or.inl (hw _ (List.mem_of_getElem? (i := 26) rfl))) Via.refl e0 Sc (g := (mkF m 0 #[.val (.ref sb)] [])) rfl (hb hby own_d21_0)
  refine Goes.go st1 ?_
  show Goes p e below _ T1 (mkF m 3 #[.val (.ref sb)] [(.int cs)])
  refine own_ifN X1 hx 6 (hb hby own_d21_3) ((if0 _ _).trans (feq (hcs : ¬ (cs = (0 : Int32)))).1) rfl ?_
  refine own_aloadN X1 hx 7 rfl (hb hby own_d21_6) rfl rfl ?_
  obtain ⟨T2, X2, e2, st2⟩ := getF X1 hx hZ hown (host := "") (Or.inl (hw _ (List.mem_of_getElem? (i := 31) rfl))) Via.refl e1 Fc (g := (mkF m 7 #[.val (.ref sb)] [(.ref sb)])) rfl rfl (hb hby own_d21_7)
  refine Goes.go st2 ?_
  show Goes p e below _ T2 (mkF m 10 #[.val (.ref sb)] [(.int (0 : Int32))])
  refine own_ifN X2 hx 13 (hb hby own_d21_10) ((if0 _ _).trans (teq ((by decide) : (0 : Int32) = (0 : Int32))).2) rfl ?_
  refine own_iconst X2 hx 14 rfl (1 : Int32) (hb hby own_d21_13) (by decide) ?_
  refine own_goto X2 hx 18 (hb hby own_d21_14) (by decide) (by decide) ?_
  refine own_retZ X2 hx hlk Bd.returns (by decide) (hb hby own_d21_18) (by decide) (by decide) e2 ?_
  exact ⟨rfl, N0, rfl⟩
theorem own_d26_0 : decode jdk_68_method_64_code 0 = .ok (.aload_n 0, 1) := by decide +kernel
theorem own_d26_1 : decode jdk_68_method_64_code 1 = .ok (.getfield 15, 3) := by decide +kernel
theorem own_d26_4 : decode jdk_68_method_64_code 4 = .ok (.areturn, 1) := by decide +kernel
def Q26 (Z : State) (sb : Addr) (va : Addr) (h0 : Heap) (n0 : Nat) (v : Option Value) (h : Heap) (L : List Loc) : Prop := v = some (.ref va) ∧ Fr n0 L ∧ h = h0
set_option maxRecDepth 65536 in
set_option maxHeartbeats 40000000 in
theorem rm26 (l : Launch) (Z : State) (a0 : Array Value) (hw : ∀ d ∈ tables_1, d.before a0 Z = true) (ws : List Jvm.Cond) (sb : Addr) (va : Addr) (h0 : Heap) (n0 : Nat) (Z0 : n0 ≤ h0.size) (Fv : Fld Z h0 sb "java/lang/AbstractStringBuilder" "value" "[B" (.ref va)) :
    MetFree l (⟨"java/lang/AbstractStringBuilder", "getValue", "()[B"⟩ : MethodName) (head1 (Jvm.Cond.code (⟨"java/lang/AbstractStringBuilder", "getValue", "()[B"⟩ : MethodName) jdk_68_method_64_code 1 (some (.array .byte)) :: ws) ({ frames := 0, cells := 0, slots := 0, locals := 0 } : Room)) (fun a U => a = #[(.ref sb)] ∧ Z.Warmed39 U.vm ∧ U.heap = h0) (fun _ _ _ _ _ => True) (fun _ U o U' => ∃ v L, o = .returned v ∧ Q26 Z sb va h0 n0 v U'.heap L ∧ FrameEnd U o U' L ({ frames := 0, cells := 0, slots := 0, locals := 0 } : Room).cells ({ frames := 0, cells := 0, slots := 0, locals := 0 } : Room).slots) := by
  refine MetFree.of_bodySF (plainFor_of_name own_pn_java_lang_AbstractStringBuilder) hisR ?_
  intro p e s m args below meth c s₁ Bd hml0 hP hK
  obtain ⟨rfl, hZ, hh⟩ := hP
  have hx := Bd.exec
  have hby := Bd.bytes
  have hml : c.maxLocals = 1 := hml0
  have hlk := Bd.notSynchronized
  have hown : s.vm.findClass "java/lang/AbstractStringBuilder" = some m.cls := findClass_of_methodNamed Bd.named
  have hnm := (name_of_methodNamed Bd.named Bd.method).1
  have X0 : Stand p l e ({ frames := 0, cells := 0, slots := 0, locals := 0 } : Room) s m #[(.ref sb)] below meth c s₁ [] 0 0 := Stand.of_body Bd
  have e0 : s₁.heap = h0 := by rw [← hh, Bd.state]; rfl
  have N0 := Fr.nil n0
  refine own_enter (P := (Done s ({ frames := 0, cells := 0, slots := 0, locals := 0 } : Room).cells ({ frames := 0, cells := 0, slots := 0, locals := 0 } : Room).slots (Q26 Z sb va h0 n0))) (Ls := #[.val (.ref sb)]) (by first | (simp [entryFrame, mkF, argsToLocals, Value.category]; done) | rfl) ?_
  refine own_aloadN X0 hx 1 rfl (hb hby own_d26_0) rfl rfl ?_
  obtain ⟨T1, X1, e1, st1⟩ := getF X0 hx hZ hown (host := "") (Or.inl (hw _ (List.mem_of_getElem? (i := 29) rfl))) Via.refl e0 Fv (g := (mkF m 1 #[.val (.ref sb)] [(.ref sb)])) rfl rfl (hb hby own_d26_1)
  refine Goes.go st1 ?_
  show Goes p e below _ T1 (mkF m 4 #[.val (.ref sb)] [(.ref va)])
  refine own_retR X1 hx hlk Bd.returns rfl rfl (hb hby own_d26_4) (by decide) (by decide) e1 ?_
  exact ⟨rfl, N0, rfl⟩
theorem own_d28_0 : decode jdk_68_method_6_code 0 = .ok (.aload_n 0, 1) := by decide +kernel
theorem own_d28_1 : decode jdk_68_method_6_code 1 = .ok (.getfield 79, 3) := by decide +kernel
theorem own_d28_4 : decode jdk_68_method_6_code 4 = .ok (.ireturn, 1) := by decide +kernel
def Q28 (Z : State) (sb : Addr) (cn : Int32) (h0 : Heap) (n0 : Nat) (v : Option Value) (h : Heap) (L : List Loc) : Prop := v = some (.int cn) ∧ Fr n0 L ∧ h = h0
set_option maxRecDepth 65536 in
set_option maxHeartbeats 40000000 in
theorem rm28 (l : Launch) (Z : State) (a0 : Array Value) (hw : ∀ d ∈ tables_1, d.before a0 Z = true) (ws : List Jvm.Cond) (sb : Addr) (cn : Int32) (h0 : Heap) (n0 : Nat) (Z0 : n0 ≤ h0.size) (Fn : Fld Z h0 sb "java/lang/AbstractStringBuilder" "count" "I" (.int cn)) :
    MetFree l (⟨"java/lang/AbstractStringBuilder", "length", "()I"⟩ : MethodName) (head1 (Jvm.Cond.code (⟨"java/lang/AbstractStringBuilder", "length", "()I"⟩ : MethodName) jdk_68_method_6_code 1 (some .int) :: ws) ({ frames := 0, cells := 0, slots := 0, locals := 0 } : Room)) (fun a U => a = #[(.ref sb)] ∧ Z.Warmed39 U.vm ∧ U.heap = h0) (fun _ _ _ _ _ => True) (fun _ U o U' => ∃ v L, o = .returned v ∧ Q28 Z sb cn h0 n0 v U'.heap L ∧ FrameEnd U o U' L ({ frames := 0, cells := 0, slots := 0, locals := 0 } : Room).cells ({ frames := 0, cells := 0, slots := 0, locals := 0 } : Room).slots) := by
  refine MetFree.of_bodySF (plainFor_of_name own_pn_java_lang_AbstractStringBuilder) hisR ?_
  intro p e s m args below meth c s₁ Bd hml0 hP hK
  obtain ⟨rfl, hZ, hh⟩ := hP
  have hx := Bd.exec
  have hby := Bd.bytes
  have hml : c.maxLocals = 1 := hml0
  have hlk := Bd.notSynchronized
  have hown : s.vm.findClass "java/lang/AbstractStringBuilder" = some m.cls := findClass_of_methodNamed Bd.named
  have hnm := (name_of_methodNamed Bd.named Bd.method).1
  have X0 : Stand p l e ({ frames := 0, cells := 0, slots := 0, locals := 0 } : Room) s m #[(.ref sb)] below meth c s₁ [] 0 0 := Stand.of_body Bd
  have e0 : s₁.heap = h0 := by rw [← hh, Bd.state]; rfl
  have N0 := Fr.nil n0
  refine own_enter (P := (Done s ({ frames := 0, cells := 0, slots := 0, locals := 0 } : Room).cells ({ frames := 0, cells := 0, slots := 0, locals := 0 } : Room).slots (Q28 Z sb cn h0 n0))) (Ls := #[.val (.ref sb)]) (by first | (simp [entryFrame, mkF, argsToLocals, Value.category]; done) | rfl) ?_
  refine own_aloadN X0 hx 1 rfl (hb hby own_d28_0) rfl rfl ?_
  obtain ⟨T1, X1, e1, st1⟩ := getF X0 hx hZ hown (host := "") (Or.inl (hw _ (List.mem_of_getElem? (i := 62) rfl))) Via.refl e0 Fn (g := (mkF m 1 #[.val (.ref sb)] [(.ref sb)])) rfl rfl (hb hby own_d28_1)
  refine Goes.go st1 ?_
  show Goes p e below _ T1 (mkF m 4 #[.val (.ref sb)] [(.int cn)])
  refine own_retI X1 hx hlk Bd.returns (hb hby own_d28_4) (by decide) (by decide) e1 ?_
  exact ⟨rfl, N0, rfl⟩
theorem own_pd5 : parseMethodDescriptor "()I" = some ⟨[], some .int⟩ := by decide +kernel
theorem own_d27_0 : decode jdk_67_method_93_code 0 = .ok (.aload_n 0, 1) := by decide +kernel
theorem own_d27_1 : decode jdk_67_method_93_code 1 = .ok (.invokespecial 343, 3) := by decide +kernel
theorem own_d27_4 : decode jdk_67_method_93_code 4 = .ok (.ireturn, 1) := by decide +kernel
def Q27 (Z : State) (sb : Addr) (cn : Int32) (h0 : Heap) (n0 : Nat) (v : Option Value) (h : Heap) (L : List Loc) : Prop := v = some (.int cn) ∧ Fr n0 L ∧ h = h0
set_option maxRecDepth 65536 in
set_option maxHeartbeats 40000000 in
theorem rm27 (l : Launch) (Z : State) (a0 : Array Value) (hw : ∀ d ∈ tables_1, d.before a0 Z = true) (ws : List Jvm.Cond) (sb : Addr) (cn : Int32) (h0 : Heap) (n0 : Nat) (Z0 : n0 ≤ h0.size) (Eb : Exa Z h0 sb "java/lang/StringBuilder") (Fn : Fld Z h0 sb "java/lang/AbstractStringBuilder" "count" "I" (.int cn)) :
    MetFree l (⟨"java/lang/StringBuilder", "length", "()I"⟩ : MethodName) (head1 (Jvm.Cond.code (⟨"java/lang/StringBuilder", "length", "()I"⟩ : MethodName) jdk_67_method_93_code 1 (some .int) :: ws) ({ frames := 1, cells := 0, slots := 0, locals := 12 } : Room)) (fun a U => a = #[(.ref sb)] ∧ Z.Warmed39 U.vm ∧ U.heap = h0) (fun _ _ _ _ _ => True) (fun _ U o U' => ∃ v L, o = .returned v ∧ Q27 Z sb cn h0 n0 v U'.heap L ∧ FrameEnd U o U' L ({ frames := 1, cells := 0, slots := 0, locals := 12 } : Room).cells ({ frames := 1, cells := 0, slots := 0, locals := 12 } : Room).slots) := by
  refine MetFree.of_bodySF (plainFor_of_name own_pn_java_lang_StringBuilder) hisR ?_
  intro p e s m args below meth c s₁ Bd hml0 hP hK
  obtain ⟨rfl, hZ, hh⟩ := hP
  have hx := Bd.exec
  have hby := Bd.bytes
  have hml : c.maxLocals = 1 := hml0
  have hlk := Bd.notSynchronized
  have hown : s.vm.findClass "java/lang/StringBuilder" = some m.cls := findClass_of_methodNamed Bd.named
  have hnm := (name_of_methodNamed Bd.named Bd.method).1
  have X0 : Stand p l e ({ frames := 1, cells := 0, slots := 0, locals := 12 } : Room) s m #[(.ref sb)] below meth c s₁ [] 0 0 := Stand.of_body Bd
  have e0 : s₁.heap = h0 := by rw [← hh, Bd.state]; rfl
  have N0 := Fr.nil n0
  refine own_enter (P := (Done s ({ frames := 1, cells := 0, slots := 0, locals := 12 } : Room).cells ({ frames := 1, cells := 0, slots := 0, locals := 12 } : Room).slots (Q27 Z sb cn h0 n0))) (Ls := #[.val (.ref sb)]) (by first | (simp [entryFrame, mkF, argsToLocals, Value.category]; done) | rfl) ?_
  refine own_aloadN X0 hx 1 rfl (hb hby own_d27_0) rfl rfl ?_
  obtain ⟨_, _, ⟨T1, L1, k1, n1⟩, -, X1, ⟨Lc1, hQ1, l1, y1, z1⟩, st1⟩ := superBack X0 hx hZ (y := (⟨"java/lang/AbstractStringBuilder", "length", "()I"⟩ : MethodName)) hown (hw _ (List.mem_of_getElem? (i := 161) rfl)) (own_sameM (y := (⟨"java/lang/AbstractStringBuilder", "length", "()I"⟩ : MethodName)) (own_nface (y := (⟨"java/lang/AbstractStringBuilder", "ensureCapacityInternal", "(I)V"⟩ : MethodName)) (hw _ (List.mem_of_getElem? (i := 67) rfl))) (hw _ (List.mem_of_getElem? (i := 157) rfl)) (by decide)) (hw _ (List.mem_of_getElem? (i := 157) rfl)) (hw _ (List.mem_of_getElem? (i := 46) rfl)) (by decide) (backOf (W := 0) (rm28 l Z a0 hw [] sb cn h0 n0 Z0 Fn) hZ (hw _ (List.mem_of_getElem? (i := 162) rfl)) (hw _ (List.mem_of_getElem? (i := 21) rfl)) (by decide) (by decide)) e0 (Ins.self Eb) (g := (mkF m 1 #[.val (.ref sb)] [(.ref sb)])) rfl (by rw [hml]; rfl) (hw _ (List.mem_of_getElem? (i := 162) rfl)) (argsL := []) (rest := []) (lenOf own_pd5 rfl) rfl (by show 2 * 0 + _ ≤ _; exact Nat.le_of_eq rfl) (hb hby own_d27_1) (fun _ _ => ⟨rfl, e0, (by decide : 0 + 0 ≤ _), (by decide : 0 + 0 ≤ _)⟩)
  dsimp only [Pt.U, Pt.locs, Pt.cells, Pt.slots] at X1 l1 y1 z1 st1 hQ1
  subst l1 y1 z1
  obtain ⟨rfl, N1q, eh1⟩ := hQ1
  have N1 := Fr.app N0 N1q
  refine Goes.tr st1 ?_
  show Goes p e below _ T1 (mkF m 4 #[.val (.ref sb)] [(.int cn)])
  refine own_retI X1 hx hlk Bd.returns (hb hby own_d27_4) (by decide) (by decide) eh1 ?_
  exact ⟨rfl, N1, rfl⟩
theorem own_pd6 : parseMethodDescriptor "(III)I" = some ⟨[.int, .int, .int], some .int⟩ := by decide +kernel
theorem own_d16_0 : decode jdk_68_method_10_code 0 = .ok (.aload_n 0, 1) := by decide +kernel
theorem own_d16_1 : decode jdk_68_method_10_code 1 = .ok (.getfield 15, 3) := by decide +kernel
theorem own_d16_4 : decode jdk_68_method_10_code 4 = .ok (.arraylength, 1) := by decide +kernel
theorem own_d16_5 : decode jdk_68_method_10_code 5 = .ok (.istore_n 2, 1) := by decide +kernel
theorem own_d16_6 : decode jdk_68_method_10_code 6 = .ok (.iload_n 1, 1) := by decide +kernel
theorem own_d16_7 : decode jdk_68_method_10_code 7 = .ok (.aload_n 0, 1) := by decide +kernel
theorem own_d16_8 : decode jdk_68_method_10_code 8 = .ok (.getfield 22, 3) := by decide +kernel
theorem own_d16_11 : decode jdk_68_method_10_code 11 = .ok (.ishl, 1) := by decide +kernel
theorem own_d16_12 : decode jdk_68_method_10_code 12 = .ok (.istore_n 3, 1) := by decide +kernel
theorem own_d16_13 : decode jdk_68_method_10_code 13 = .ok (.iload_n 3, 1) := by decide +kernel
theorem own_d16_14 : decode jdk_68_method_10_code 14 = .ok (.iload_n 2, 1) := by decide +kernel
theorem own_d16_15 : decode jdk_68_method_10_code 15 = .ok (.isub, 1) := by decide +kernel
theorem own_d16_16 : decode jdk_68_method_10_code 16 = .ok (.istore 4, 2) := by decide +kernel
theorem own_d16_18 : decode jdk_68_method_10_code 18 = .ok (.iload_n 2, 1) := by decide +kernel
theorem own_d16_19 : decode jdk_68_method_10_code 19 = .ok (.iload 4, 2) := by decide +kernel
theorem own_d16_21 : decode jdk_68_method_10_code 21 = .ok (.iload_n 2, 1) := by decide +kernel
theorem own_d16_22 : decode jdk_68_method_10_code 22 = .ok (.iconst 2, 1) := by decide +kernel
theorem own_d16_23 : decode jdk_68_method_10_code 23 = .ok (.aload_n 0, 1) := by decide +kernel
theorem own_d16_24 : decode jdk_68_method_10_code 24 = .ok (.getfield 22, 3) := by decide +kernel
theorem own_d16_27 : decode jdk_68_method_10_code 27 = .ok (.ishl, 1) := by decide +kernel
theorem own_d16_28 : decode jdk_68_method_10_code 28 = .ok (.iadd, 1) := by decide +kernel
theorem own_d16_29 : decode jdk_68_method_10_code 29 = .ok (.invokestatic 114, 3) := by decide +kernel
theorem own_d16_32 : decode jdk_68_method_10_code 32 = .ok (.istore 5, 2) := by decide +kernel
theorem own_d16_34 : decode jdk_68_method_10_code 34 = .ok (.iload 5, 2) := by decide +kernel
theorem own_d16_36 : decode jdk_68_method_10_code 36 = .ok (.ldc 39, 2) := by decide +kernel
theorem own_d16_38 : decode jdk_68_method_10_code 38 = .ok (.if_icmp .ne 13, 3) := by decide +kernel
theorem own_d16_51 : decode jdk_68_method_10_code 51 = .ok (.iload 5, 2) := by decide +kernel
theorem own_d16_53 : decode jdk_68_method_10_code 53 = .ok (.aload_n 0, 1) := by decide +kernel
theorem own_d16_54 : decode jdk_68_method_10_code 54 = .ok (.getfield 22, 3) := by decide +kernel
theorem own_d16_57 : decode jdk_68_method_10_code 57 = .ok (.ishr, 1) := by decide +kernel
theorem own_d16_58 : decode jdk_68_method_10_code 58 = .ok (.ireturn, 1) := by decide +kernel
def Q16 (Z : State) (sb : Addr) (mn : Int32) (va : Addr) (dn : Int32) (mr : Int32) (h0 : Heap) (n0 : Nat) (v : Option Value) (h : Heap) (L : List Loc) : Prop := v = some (.int (dn + mr)) ∧ Fr n0 L ∧ h = h0
set_option maxRecDepth 65536 in
set_option maxHeartbeats 40000000 in
theorem rm16 (l : Launch) (Z : State) (a0 : Array Value) (hw : ∀ d ∈ tables_1, d.before a0 Z = true) (ws : List Jvm.Cond) (sb : Addr) (mn : Int32) (va : Addr) (dn : Int32) (mr : Int32) (h0 : Heap) (n0 : Nat) (Z0 : n0 ≤ h0.size) (Eb : Exa Z h0 sb "java/lang/StringBuilder") (Fv : Fld Z h0 sb "java/lang/AbstractStringBuilder" "value" "[B" (.ref va)) (Fc : Fld Z h0 sb "java/lang/AbstractStringBuilder" "coder" "B" (.int (0 : Int32))) (Bv : ByA Z h0 va dn) (hm : (if (mn - dn) < (dn + (2 : Int32)) then (dn + (2 : Int32)) else (mn - dn)) = mr) (hp : (0 : Int32) < (dn + mr)) (hs : ¬ ((2147483639 : Int32) < (dn + mr))) (hmx : ¬ ((dn + mr) = (2147483647 : Int32))) :
    MetFree l (⟨"java/lang/AbstractStringBuilder", "newCapacity", "(I)I"⟩ : MethodName) (head1 (Jvm.Cond.code (⟨"java/lang/AbstractStringBuilder", "newCapacity", "(I)I"⟩ : MethodName) jdk_68_method_10_code 6 (some .int) :: ws) ({ frames := 2, cells := 0, slots := 0, locals := 29 } : Room)) (fun a U => a = #[(.ref sb), (.int mn)] ∧ Z.Warmed39 U.vm ∧ U.heap = h0) (fun _ _ _ _ _ => True) (fun _ U o U' => ∃ v L, o = .returned v ∧ Q16 Z sb mn va dn mr h0 n0 v U'.heap L ∧ FrameEnd U o U' L ({ frames := 2, cells := 0, slots := 0, locals := 29 } : Room).cells ({ frames := 2, cells := 0, slots := 0, locals := 29 } : Room).slots) := by
  refine MetFree.of_bodySF (plainFor_of_name own_pn_java_lang_AbstractStringBuilder) hisR ?_
  intro p e s m args below meth c s₁ Bd hml0 hP hK
  obtain ⟨rfl, hZ, hh⟩ := hP
  have hx := Bd.exec
  have hby := Bd.bytes
  have hml : c.maxLocals = 6 := hml0
  have hlk := Bd.notSynchronized
  have hown : s.vm.findClass "java/lang/AbstractStringBuilder" = some m.cls := findClass_of_methodNamed Bd.named
  have hnm := (name_of_methodNamed Bd.named Bd.method).1
  have X0 : Stand p l e ({ frames := 2, cells := 0, slots := 0, locals := 29 } : Room) s m #[(.ref sb), (.int mn)] below meth c s₁ [] 0 0 := Stand.of_body Bd
  have e0 : s₁.heap = h0 := by rw [← hh, Bd.state]; rfl
  have N0 := Fr.nil n0
  refine own_enter (P := (Done s ({ frames := 2, cells := 0, slots := 0, locals := 29 } : Room).cells ({ frames := 2, cells := 0, slots := 0, locals := 29 } : Room).slots (Q16 Z sb mn va dn mr h0 n0))) (Ls := #[.val (.ref sb), .val (.int mn), .unset, .unset, .unset, .unset]) (by first | (simp [entryFrame, mkF, argsToLocals, Value.category]; done) | rfl) ?_
  refine own_aloadN X0 hx 1 rfl (hb hby own_d16_0) rfl rfl ?_
  obtain ⟨T1, X1, e1, st1⟩ := getF X0 hx hZ hown (host := "") (Or.inl (hw _ (List.mem_of_getElem? (i := 29) rfl))) Via.refl e0 Fv (g := (mkF m 1 #[.val (.ref sb), .val (.int mn), .unset, .unset, .unset, .unset] [(.ref sb)])) rfl rfl (hb hby own_d16_1)
  refine Goes.go st1 ?_
  show Goes p e below _ T1 (mkF m 4 #[.val (.ref sb), .val (.int mn), .unset, .unset, .unset, .unset] [(.ref va)])
  obtain ⟨cl2, Ar2, S2, NN2, HH2⟩ := ByA.opn Bv
  refine Goes.go (X1.arraylength hx (by rw [e1]; exact Ar2.1) (State.isArrayOf_alike hZ.alike Ar2.2.1) (g := (mkF m 4 #[.val (.ref sb), .val (.int mn), .unset, .unset, .unset, .unset] [(.ref va)])) rfl rfl (hb hby own_d16_4)) ?_
  show Goes p e below _ T1 (mkF m 5 #[.val (.ref sb), .val (.int mn), .unset, .unset, .unset, .unset] [(.int (cl2.slots.size.toInt32))])
  rw [len_of S2 NN2]
  refine own_istoreN X1 hx 6 rfl #[.val (.ref sb), .val (.int mn), .val (.int dn), .unset, .unset, .unset] (hb hby own_d16_5) rfl ?_
  refine own_iloadN X1 hx 7 rfl (hb hby own_d16_6) rfl ?_
  refine own_aloadN X1 hx 8 rfl (hb hby own_d16_7) rfl rfl ?_
  obtain ⟨T3, X3, e3, st3⟩ := getF X1 hx hZ hown (host := "") (Or.inl (hw _ (List.mem_of_getElem? (i := 31) rfl))) Via.refl e1 Fc (g := (mkF m 8 #[.val (.ref sb), .val (.int mn), .val (.int dn), .unset, .unset, .unset] [(.ref sb), (.int mn)])) rfl rfl (hb hby own_d16_8)
  refine Goes.go st3 ?_
  show Goes p e below _ T3 (mkF m 11 #[.val (.ref sb), .val (.int mn), .val (.int dn), .unset, .unset, .unset] [(.int (0 : Int32)), (.int mn)])
  refine own_ishl X3 hx 12 rfl (z := mn) (hb hby own_d16_11) (own_ishl0 _) ?_
  refine own_istoreN X3 hx 13 rfl #[.val (.ref sb), .val (.int mn), .val (.int dn), .val (.int mn), .unset, .unset] (hb hby own_d16_12) rfl ?_
  refine own_iloadN X3 hx 14 rfl (hb hby own_d16_13) rfl ?_
  refine own_iloadN X3 hx 15 rfl (hb hby own_d16_14) rfl ?_
  refine own_isub X3 hx 16 rfl (hb hby own_d16_15) rfl ?_
  refine own_istore X3 hx 18 rfl #[.val (.ref sb), .val (.int mn), .val (.int dn), .val (.int mn), .val (.int (mn - dn)), .unset] (hb hby own_d16_16) rfl ?_
  refine own_iloadN X3 hx 19 rfl (hb hby own_d16_18) rfl ?_
  refine own_iload X3 hx 21 rfl (hb hby own_d16_19) rfl ?_
  refine own_iloadN X3 hx 22 rfl (hb hby own_d16_21) rfl ?_
  refine own_iconst X3 hx 23 rfl (2 : Int32) (hb hby own_d16_22) (by decide) ?_
  refine own_aloadN X3 hx 24 rfl (hb hby own_d16_23) rfl rfl ?_
  obtain ⟨T4, X4, e4, st4⟩ := getF X3 hx hZ hown (host := "") (Or.inl (hw _ (List.mem_of_getElem? (i := 31) rfl))) Via.refl e3 Fc (g := (mkF m 24 #[.val (.ref sb), .val (.int mn), .val (.int dn), .val (.int mn), .val (.int (mn - dn)), .unset] [(.ref sb), (.int (2 : Int32)), (.int dn), (.int (mn - dn)), (.int dn)])) rfl rfl (hb hby own_d16_24)
  refine Goes.go st4 ?_
  show Goes p e below _ T4 (mkF m 27 #[.val (.ref sb), .val (.int mn), .val (.int dn), .val (.int mn), .val (.int (mn - dn)), .unset] [(.int (0 : Int32)), (.int (2 : Int32)), (.int dn), (.int (mn - dn)), (.int dn)])
  refine own_ishl X4 hx 28 rfl (z := (2 : Int32)) (hb hby own_d16_27) (by decide) ?_
  refine own_iadd X4 hx 29 rfl (hb hby own_d16_28) rfl ?_
  obtain ⟨_, _, ⟨T5, L5, k5, n5⟩, -, X5, ⟨Lc5, hQ5, l5, y5, z5⟩, st5⟩ := Jvm.LawKit.callS X4 hx (y := (⟨"jdk/internal/util/ArraysSupport", "newLength", "(III)I"⟩ : MethodName)) hown (mvT hZ (hw _ (List.mem_of_getElem? (i := 107) rfl))) (mvT hZ (hw _ (List.mem_of_getElem? (i := 108) rfl))) (mvT hZ (hw _ (List.mem_of_getElem? (i := 109) rfl))) (mvT hZ (hw _ (List.mem_of_getElem? (i := 110) rfl))) (by decide) (backOf (W := 0) (rm17 l Z a0 hw [] dn (mn - dn) (dn + (2 : Int32)) mr h0 n0 Z0 hm hp hs) hZ (hw _ (List.mem_of_getElem? (i := 110) rfl)) (hw _ (List.mem_of_getElem? (i := 109) rfl)) (by decide) (by decide)) (g := (mkF m 29 #[.val (.ref sb), .val (.int mn), .val (.int dn), .val (.int mn), .val (.int (mn - dn)), .unset] [(.int (dn + (2 : Int32))), (.int (mn - dn)), (.int dn)])) rfl (by rw [hml]; rfl) (argsL := [(.int dn), (.int (mn - dn)), (.int (dn + (2 : Int32)))]) (rest := []) (lenOf own_pd6 rfl) rfl (by show 2 * 0 + _ ≤ _; exact Nat.le_of_eq rfl) (hb hby own_d16_29) (fun _ _ => ⟨rfl, e4, (by decide : 0 + 0 ≤ _), (by decide : 0 + 0 ≤ _)⟩)
  dsimp only [Pt.U, Pt.locs, Pt.cells, Pt.slots] at X5 l5 y5 z5 st5 hQ5
  subst l5 y5 z5
  obtain ⟨rfl, N5q, eh5⟩ := hQ5
  have N5 := Fr.app N0 N5q
  refine Goes.go st5 ?_
  show Goes p e below _ T5 (mkF m 32 #[.val (.ref sb), .val (.int mn), .val (.int dn), .val (.int mn), .val (.int (mn - dn)), .unset] [(.int (dn + mr))])
  refine own_istore X5 hx 34 rfl #[.val (.ref sb), .val (.int mn), .val (.int dn), .val (.int mn), .val (.int (mn - dn)), .val (.int (dn + mr))] (hb hby own_d16_32) rfl ?_
  refine own_iload X5 hx 36 rfl (hb hby own_d16_34) rfl ?_
  refine Goes.go (X5.ldcInt hx hown (mvT hZ (hw _ (List.mem_of_getElem? (i := 116) rfl))) (g := (mkF m 36 #[.val (.ref sb), .val (.int mn), .val (.int dn), .val (.int mn), .val (.int (mn - dn)), .val (.int (dn + mr))] [(.int (dn + mr))])) rfl (hb hby own_d16_36)) ?_
  show Goes p e below _ T5 (mkF m 38 #[.val (.ref sb), .val (.int mn), .val (.int dn), .val (.int mn), .val (.int (mn - dn)), .val (.int (dn + mr))] [(.int (2147483647 : Int32)), (.int (dn + mr))])
  refine own_icmpY X5 hx 51 (hb hby own_d16_38) (feq (hmx : ¬ ((dn + mr) = (2147483647 : Int32)))).2 (by decide) (by decide) ?_
  refine own_iload X5 hx 53 rfl (hb hby own_d16_51) rfl ?_
  refine own_aloadN X5 hx 54 rfl (hb hby own_d16_53) rfl rfl ?_
  obtain ⟨T6, X6, e6, st6⟩ := getF X5 hx hZ hown (host := "") (Or.inl (hw _ (List.mem_of_getElem? (i := 31) rfl))) Via.refl eh5 Fc (g := (mkF m 54 #[.val (.ref sb), .val (.int mn), .val (.int dn), .val (.int mn), .val (.int (mn - dn)), .val (.int (dn + mr))] [(.ref sb), (.int (dn + mr))])) rfl rfl (hb hby own_d16_54)
  refine Goes.go st6 ?_
  show Goes p e below _ T6 (mkF m 57 #[.val (.ref sb), .val (.int mn), .val (.int dn), .val (.int mn), .val (.int (mn - dn)), .val (.int (dn + mr))] [(.int (0 : Int32)), (.int (dn + mr))])
  refine own_ishr X6 hx 58 rfl (z := (dn + mr)) (hb hby own_d16_57) (own_ishr0 _) ?_
  refine own_retI X6 hx hlk Bd.returns (hb hby own_d16_58) (by decide) (by decide) e6 ?_
  exact ⟨rfl, N5, rfl⟩
theorem own_d9_0 : decode jdk_68_method_9_code 0 = .ok (.aload_n 0, 1) := by decide +kernel
theorem own_d9_1 : decode jdk_68_method_9_code 1 = .ok (.getfield 15, 3) := by decide +kernel
theorem own_d9_4 : decode jdk_68_method_9_code 4 = .ok (.arraylength, 1) := by decide +kernel
theorem own_d9_5 : decode jdk_68_method_9_code 5 = .ok (.aload_n 0, 1) := by decide +kernel
theorem own_d9_6 : decode jdk_68_method_9_code 6 = .ok (.getfield 22, 3) := by decide +kernel
theorem own_d9_9 : decode jdk_68_method_9_code 9 = .ok (.ishr, 1) := by decide +kernel
theorem own_d9_10 : decode jdk_68_method_9_code 10 = .ok (.istore_n 2, 1) := by decide +kernel
theorem own_d9_11 : decode jdk_68_method_9_code 11 = .ok (.iload_n 1, 1) := by decide +kernel
theorem own_d9_12 : decode jdk_68_method_9_code 12 = .ok (.iload_n 2, 1) := by decide +kernel
theorem own_d9_13 : decode jdk_68_method_9_code 13 = .ok (.isub, 1) := by decide +kernel
theorem own_d9_14 : decode jdk_68_method_9_code 14 = .ok (.ifCond .le 24, 3) := by decide +kernel
theorem own_d9_38 : decode jdk_68_method_9_code 38 = .ok (.return_, 1) := by decide +kernel
def QensN (Z : State) (sb : Addr) (mn : Int32) (va : Addr) (dn : Int32) (h0 : Heap) (n0 : Nat) (v : Option Value) (h : Heap) (L : List Loc) : Prop := v = none ∧ Fr n0 L ∧ h = h0
set_option maxRecDepth 65536 in
set_option maxHeartbeats 40000000 in
theorem rmensN (l : Launch) (Z : State) (a0 : Array Value) (hw : ∀ d ∈ tables_1, d.before a0 Z = true) (ws : List Jvm.Cond) (sb : Addr) (mn : Int32) (va : Addr) (dn : Int32) (h0 : Heap) (n0 : Nat) (Z0 : n0 ≤ h0.size) (Fv : Fld Z h0 sb "java/lang/AbstractStringBuilder" "value" "[B" (.ref va)) (Fc : Fld Z h0 sb "java/lang/AbstractStringBuilder" "coder" "B" (.int (0 : Int32))) (Bv : ByA Z h0 va dn) (hno : ¬ ((0 : Int32) < (mn - dn))) :
    MetFree l (⟨"java/lang/AbstractStringBuilder", "ensureCapacityInternal", "(I)V"⟩ : MethodName) (head1 (Jvm.Cond.code (⟨"java/lang/AbstractStringBuilder", "ensureCapacityInternal", "(I)V"⟩ : MethodName) jdk_68_method_9_code 3 none :: ws) ({ frames := 0, cells := 0, slots := 0, locals := 0 } : Room)) (fun a U => a = #[(.ref sb), (.int mn)] ∧ Z.Warmed39 U.vm ∧ U.heap = h0) (fun _ _ _ _ _ => True) (fun _ U o U' => ∃ v L, o = .returned v ∧ QensN Z sb mn va dn h0 n0 v U'.heap L ∧ FrameEnd U o U' L ({ frames := 0, cells := 0, slots := 0, locals := 0 } : Room).cells ({ frames := 0, cells := 0, slots := 0, locals := 0 } : Room).slots) := by
  refine MetFree.of_bodySF (plainFor_of_name own_pn_java_lang_AbstractStringBuilder) hisR ?_
  intro p e s m args below meth c s₁ Bd hml0 hP hK
  obtain ⟨rfl, hZ, hh⟩ := hP
  have hx := Bd.exec
  have hby := Bd.bytes
  have hml : c.maxLocals = 3 := hml0
  have hlk := Bd.notSynchronized
  have hown : s.vm.findClass "java/lang/AbstractStringBuilder" = some m.cls := findClass_of_methodNamed Bd.named
  have hnm := (name_of_methodNamed Bd.named Bd.method).1
  have X0 : Stand p l e ({ frames := 0, cells := 0, slots := 0, locals := 0 } : Room) s m #[(.ref sb), (.int mn)] below meth c s₁ [] 0 0 := Stand.of_body Bd
  have e0 : s₁.heap = h0 := by rw [← hh, Bd.state]; rfl
  have N0 := Fr.nil n0
  refine own_enter (P := (Done s ({ frames := 0, cells := 0, slots := 0, locals := 0 } : Room).cells ({ frames := 0, cells := 0, slots := 0, locals := 0 } : Room).slots (QensN Z sb mn va dn h0 n0))) (Ls := #[.val (.ref sb), .val (.int mn), .unset]) (by first | (simp [entryFrame, mkF, argsToLocals, Value.category]; done) | rfl) ?_
  refine own_aloadN X0 hx 1 rfl (hb hby own_d9_0) rfl rfl ?_
  obtain ⟨T1, X1, e1, st1⟩ := getF X0 hx hZ hown (host := "") (Or.inl (hw _ (List.mem_of_getElem? (i := 29) rfl))) Via.refl e0 Fv (g := (mkF m 1 #[.val (.ref sb), .val (.int mn), .unset] [(.ref sb)])) rfl rfl (hb hby own_d9_1)
  refine Goes.go st1 ?_
  show Goes p e below _ T1 (mkF m 4 #[.val (.ref sb), .val (.int mn), .unset] [(.ref va)])
  obtain ⟨cl2, Ar2, S2, NN2, HH2⟩ := ByA.opn Bv
  refine Goes.go (X1.arraylength hx (by rw [e1]; exact Ar2.1) (State.isArrayOf_alike hZ.alike Ar2.2.1) (g := (mkF m 4 #[.val (.ref sb), .val (.int mn), .unset] [(.ref va)])) rfl rfl (hb hby own_d9_4)) ?_
  show Goes p e below _ T1 (mkF m 5 #[.val (.ref sb), .val (.int mn), .unset] [(.int (cl2.slots.size.toInt32))])
  rw [len_of S2 NN2]
  refine own_aloadN X1 hx 6 rfl (hb hby own_d9_5) rfl rfl ?_
  obtain ⟨T3, X3, e3, st3⟩ := getF X1 hx hZ hown (host := "") (Or.inl (hw _ (List.mem_of_getElem? (i := 31) rfl))) Via.refl e1 Fc (g := (mkF m 6 #[.val (.ref sb), .val (.int mn), .unset] [(.ref sb), (.int dn)])) rfl rfl (hb hby own_d9_6)
  refine Goes.go st3 ?_
  show Goes p e below _ T3 (mkF m 9 #[.val (.ref sb), .val (.int mn), .unset] [(.int (0 : Int32)), (.int dn)])
  refine own_ishr X3 hx 10 rfl (z := dn) (hb hby own_d9_9) (own_ishr0 _) ?_
  refine own_istoreN X3 hx 11 rfl #[.val (.ref sb), .val (.int mn), .val (.int dn)] (hb hby own_d9_10) rfl ?_
  refine own_iloadN X3 hx 12 rfl (hb hby own_d9_11) rfl ?_
  refine own_iloadN X3 hx 13 rfl (hb hby own_d9_12) rfl ?_
  refine own_isub X3 hx 14 rfl (hb hby own_d9_13) rfl ?_
  refine own_ifY X3 hx 38 (hb hby own_d9_14) ((if0 _ _).trans (flt (hno : ¬ ((0 : Int32) < (mn - dn)))).2.2.2) (by decide) (by decide) ?_
  refine own_retV X3 hx hlk Bd.returns (hb hby own_d9_38) (by decide) (by decide) e3 ?_
  exact ⟨rfl, N0, rfl⟩
theorem own_pd7 : parseMethodDescriptor "(I)I" = some ⟨[.int], some .int⟩ := by decide +kernel
theorem own_pd8 : parseMethodDescriptor "([BI)[B" = some ⟨[(.array .byte), .int], some (.array .byte)⟩ := by decide +kernel
theorem own_d9_17 : decode jdk_68_method_9_code 17 = .ok (.aload_n 0, 1) := by decide +kernel
theorem own_d9_18 : decode jdk_68_method_9_code 18 = .ok (.aload_n 0, 1) := by decide +kernel
theorem own_d9_19 : decode jdk_68_method_9_code 19 = .ok (.getfield 15, 3) := by decide +kernel
theorem own_d9_22 : decode jdk_68_method_9_code 22 = .ok (.aload_n 0, 1) := by decide +kernel
theorem own_d9_23 : decode jdk_68_method_9_code 23 = .ok (.iload_n 1, 1) := by decide +kernel
theorem own_d9_24 : decode jdk_68_method_9_code 24 = .ok (.invokevirtual 104, 3) := by decide +kernel
theorem own_d9_27 : decode jdk_68_method_9_code 27 = .ok (.aload_n 0, 1) := by decide +kernel
theorem own_d9_28 : decode jdk_68_method_9_code 28 = .ok (.getfield 22, 3) := by decide +kernel
theorem own_d9_31 : decode jdk_68_method_9_code 31 = .ok (.ishl, 1) := by decide +kernel
theorem own_d9_32 : decode jdk_68_method_9_code 32 = .ok (.invokestatic 108, 3) := by decide +kernel
theorem own_d9_35 : decode jdk_68_method_9_code 35 = .ok (.putfield 15, 3) := by decide +kernel
def QensG (Z : State) (sb : Addr) (mn : Int32) (va : Addr) (dn : Int32) (cn : Int32) (mr : Int32) (h0 : Heap) (n0 : Nat) (v : Option Value) (h : Heap) (L : List Loc) : Prop := ∃ va2 : Addr, v = none ∧ Fr n0 L ∧ Keep h0 h [sb] ∧ h0.size ≤ va2 ∧ Fld Z h sb "java/lang/AbstractStringBuilder" "value" "[B" (.ref va2) ∧ Fld Z h sb "java/lang/AbstractStringBuilder" "coder" "B" (.int (0 : Int32)) ∧ Fld Z h sb "java/lang/AbstractStringBuilder" "count" "I" (.int cn) ∧ ByA Z h va2 (dn + mr)
set_option maxRecDepth 65536 in
set_option maxHeartbeats 40000000 in
theorem rmensG (l : Launch) (Z : State) (a0 : Array Value) (hw : ∀ d ∈ tables_1, d.before a0 Z = true) (ws : List Jvm.Cond) (sb : Addr) (mn : Int32) (va : Addr) (dn : Int32) (cn : Int32) (mr : Int32) (h0 : Heap) (n0 : Nat) (Z0 : n0 ≤ h0.size) (Eb : Exa Z h0 sb "java/lang/StringBuilder") (gb : n0 ≤ sb) (Fv : Fld Z h0 sb "java/lang/AbstractStringBuilder" "value" "[B" (.ref va)) (Fc : Fld Z h0 sb "java/lang/AbstractStringBuilder" "coder" "B" (.int (0 : Int32))) (Bv : ByA Z h0 va dn) (Fn : Fld Z h0 sb "java/lang/AbstractStringBuilder" "count" "I" (.int cn)) (nbv : sb ≠ va) (hgr : (0 : Int32) < (mn - dn)) (hm : (if (mn - dn) < (dn + (2 : Int32)) then (dn + (2 : Int32)) else (mn - dn)) = mr) (hp : (0 : Int32) < (dn + mr)) (hs : ¬ ((2147483639 : Int32) < (dn + mr))) (hmx : ¬ ((dn + mr) = (2147483647 : Int32))) (hne : ¬ ((dn + mr) = dn)) (hn0 : ¬ ((dn + mr) < (0 : Int32))) (hcp : ((dn + mr)).toNatClampNeg ≤ 100) (hmi : ¬ ((dn + mr) < dn)) :
    MetFree l (⟨"java/lang/AbstractStringBuilder", "ensureCapacityInternal", "(I)V"⟩ : MethodName) (head1 (Jvm.Cond.code (⟨"java/lang/AbstractStringBuilder", "ensureCapacityInternal", "(I)V"⟩ : MethodName) jdk_68_method_9_code 3 none :: ws) ({ frames := 3, cells := 1, slots := 100, locals := 48 } : Room)) (fun a U => a = #[(.ref sb), (.int mn)] ∧ Z.Warmed39 U.vm ∧ U.heap = h0) (fun _ _ _ _ _ => True) (fun _ U o U' => ∃ v L, o = .returned v ∧ QensG Z sb mn va dn cn mr h0 n0 v U'.heap L ∧ FrameEnd U o U' L ({ frames := 3, cells := 1, slots := 100, locals := 48 } : Room).cells ({ frames := 3, cells := 1, slots := 100, locals := 48 } : Room).slots) := by
  refine MetFree.of_bodySF (plainFor_of_name own_pn_java_lang_AbstractStringBuilder) hisR ?_
  intro p e s m args below meth c s₁ Bd hml0 hP hK
  obtain ⟨rfl, hZ, hh⟩ := hP
  have hx := Bd.exec
  have hby := Bd.bytes
  have hml : c.maxLocals = 3 := hml0
  have hlk := Bd.notSynchronized
  have hown : s.vm.findClass "java/lang/AbstractStringBuilder" = some m.cls := findClass_of_methodNamed Bd.named
  have hnm := (name_of_methodNamed Bd.named Bd.method).1
  have X0 : Stand p l e ({ frames := 3, cells := 1, slots := 100, locals := 48 } : Room) s m #[(.ref sb), (.int mn)] below meth c s₁ [] 0 0 := Stand.of_body Bd
  have e0 : s₁.heap = h0 := by rw [← hh, Bd.state]; rfl
  have N0 := Fr.nil n0
  have K0 : Keep h0 h0 [sb] := Keep.refl _ _
  refine own_enter (P := (Done s ({ frames := 3, cells := 1, slots := 100, locals := 48 } : Room).cells ({ frames := 3, cells := 1, slots := 100, locals := 48 } : Room).slots (QensG Z sb mn va dn cn mr h0 n0))) (Ls := #[.val (.ref sb), .val (.int mn), .unset]) (by first | (simp [entryFrame, mkF, argsToLocals, Value.category]; done) | rfl) ?_
  refine own_aloadN X0 hx 1 rfl (hb hby own_d9_0) rfl rfl ?_
  obtain ⟨T1, X1, e1, st1⟩ := getF X0 hx hZ hown (host := "") (Or.inl (hw _ (List.mem_of_getElem? (i := 29) rfl))) Via.refl e0 Fv (g := (mkF m 1 #[.val (.ref sb), .val (.int mn), .unset] [(.ref sb)])) rfl rfl (hb hby own_d9_1)
  refine Goes.go st1 ?_
  show Goes p e below _ T1 (mkF m 4 #[.val (.ref sb), .val (.int mn), .unset] [(.ref va)])
  obtain ⟨cl2, Ar2, S2, NN2, HH2⟩ := ByA.opn Bv
  refine Goes.go (X1.arraylength hx (by rw [e1]; exact Ar2.1) (State.isArrayOf_alike hZ.alike Ar2.2.1) (g := (mkF m 4 #[.val (.ref sb), .val (.int mn), .unset] [(.ref va)])) rfl rfl (hb hby own_d9_4)) ?_
  show Goes p e below _ T1 (mkF m 5 #[.val (.ref sb), .val (.int mn), .unset] [(.int (cl2.slots.size.toInt32))])
  rw [len_of S2 NN2]
  refine own_aloadN X1 hx 6 rfl (hb hby own_d9_5) rfl rfl ?_
  obtain ⟨T3, X3, e3, st3⟩ := getF X1 hx hZ hown (host := "") (Or.inl (hw _ (List.mem_of_getElem? (i := 31) rfl))) Via.refl e1 Fc (g := (mkF m 6 #[.val (.ref sb), .val (.int mn), .unset] [(.ref sb), (.int dn)])) rfl rfl (hb hby own_d9_6)
  refine Goes.go st3 ?_
  show Goes p e below _ T3 (mkF m 9 #[.val (.ref sb), .val (.int mn), .unset] [(.int (0 : Int32)), (.int dn)])
  refine own_ishr X3 hx 10 rfl (z := dn) (hb hby own_d9_9) (own_ishr0 _) ?_
  refine own_istoreN X3 hx 11 rfl #[.val (.ref sb), .val (.int mn), .val (.int dn)] (hb hby own_d9_10) rfl ?_
  refine own_iloadN X3 hx 12 rfl (hb hby own_d9_11) rfl ?_
  refine own_iloadN X3 hx 13 rfl (hb hby own_d9_12) rfl ?_
  refine own_isub X3 hx 14 rfl (hb hby own_d9_13) rfl ?_
  refine own_ifN X3 hx 17 (hb hby own_d9_14) ((if0 _ _).trans (tlt (hgr : (0 : Int32) < (mn - dn))).2.2.2) rfl ?_
  refine own_aloadN X3 hx 18 rfl (hb hby own_d9_17) rfl rfl ?_
  refine own_aloadN X3 hx 19 rfl (hb hby own_d9_18) rfl rfl ?_
  obtain ⟨T4, X4, e4, st4⟩ := getF X3 hx hZ hown (host := "") (Or.inl (hw _ (List.mem_of_getElem? (i := 29) rfl))) Via.refl e3 Fv (g := (mkF m 19 #[.val (.ref sb), .val (.int mn), .val (.int dn)] [(.ref sb), (.ref sb)])) rfl rfl (hb hby own_d9_19)
  refine Goes.go st4 ?_
  show Goes p e below _ T4 (mkF m 22 #[.val (.ref sb), .val (.int mn), .val (.int dn)] [(.ref va), (.ref sb)])
  refine own_aloadN X4 hx 23 rfl (hb hby own_d9_22) rfl rfl ?_
  refine own_iloadN X4 hx 24 rfl (hb hby own_d9_23) rfl ?_
  obtain ⟨cq5, q5, q5'⟩ := Eb.cell
  obtain ⟨_, _, ⟨T5, L5, k5, n5⟩, -, X5, ⟨Lc5, hQ5, l5, y5, z5⟩, st5⟩ := X4.privateBack hx (y := (⟨"java/lang/AbstractStringBuilder", "newCapacity", "(I)I"⟩ : MethodName)) hown (mvT hZ (hw _ (List.mem_of_getElem? (i := 102) rfl))) (mvT hZ (hw _ (List.mem_of_getElem? (i := 103) rfl))) (own_selUp (mvT hZ (hw _ (List.mem_of_getElem? (i := 105) rfl))) (mvP hZ (hw _ (List.mem_of_getElem? (i := 104) rfl))) (mvT hZ (hw _ (List.mem_of_getElem? (i := 103) rfl))) (by decide)) (Cond.privateMethod_at (mvP hZ (hw _ (List.mem_of_getElem? (i := 104) rfl)) (args := #[]))) (mvT hZ (hw _ (List.mem_of_getElem? (i := 106) rfl))) (by decide) (backOf (W := 2) (rm16 l Z a0 hw [] sb mn va dn mr h0 n0 Z0 Eb Fv Fc Bv hm hp hs hmx) hZ (hw _ (List.mem_of_getElem? (i := 106) rfl)) (hw _ (List.mem_of_getElem? (i := 21) rfl)) (by decide) (by decide)) (g := (mkF m 24 #[.val (.ref sb), .val (.int mn), .val (.int dn)] [(.int mn), (.ref sb), (.ref va), (.ref sb)])) rfl (by rw [hml]; rfl) (Steps.refl _) (a := sb) (by rw [e4]; exact q5) q5' (argsL := [(.int mn)]) (rest := [(.ref va), (.ref sb)]) (lenOf own_pd7 rfl) rfl (by show 2 * 0 + _ ≤ _; exact Nat.le_of_eq rfl) (hb hby own_d9_24) (fun _ _ => ⟨rfl, e4, (by decide : 0 + 0 ≤ _), (by decide : 0 + 0 ≤ _)⟩)
  dsimp only [Pt.U, Pt.locs, Pt.cells, Pt.slots] at X5 l5 y5 z5 st5 hQ5
  subst l5 y5 z5
  obtain ⟨rfl, N5q, eh5⟩ := hQ5
  have N5 := Fr.app N0 N5q
  refine Goes.tr st5 ?_
  show Goes p e below _ T5 (mkF m 27 #[.val (.ref sb), .val (.int mn), .val (.int dn)] [(.int (dn + mr)), (.ref va), (.ref sb)])
  refine own_aloadN X5 hx 28 rfl (hb hby own_d9_27) rfl rfl ?_
  obtain ⟨T6, X6, e6, st6⟩ := getF X5 hx hZ hown (host := "") (Or.inl (hw _ (List.mem_of_getElem? (i := 31) rfl))) Via.refl eh5 Fc (g := (mkF m 28 #[.val (.ref sb), .val (.int mn), .val (.int dn)] [(.ref sb), (.int (dn + mr)), (.ref va), (.ref sb)])) rfl rfl (hb hby own_d9_28)
  refine Goes.go st6 ?_
  show Goes p e below _ T6 (mkF m 31 #[.val (.ref sb), .val (.int mn), .val (.int dn)] [(.int (0 : Int32)), (.int (dn + mr)), (.ref va), (.ref sb)])
  refine own_ishl X6 hx 32 rfl (z := (dn + mr)) (hb hby own_d9_31) (own_ishl0 _) ?_
  obtain ⟨_, _, ⟨T7, L7, k7, n7⟩, -, X7, ⟨Lc7, hQ7, l7, y7, z7⟩, st7⟩ := Jvm.LawKit.callS X6 hx (y := (⟨"java/util/Arrays", "copyOf", "([BI)[B"⟩ : MethodName)) hown (mvT hZ (hw _ (List.mem_of_getElem? (i := 117) rfl))) (mvT hZ (hw _ (List.mem_of_getElem? (i := 118) rfl))) (mvT hZ (hw _ (List.mem_of_getElem? (i := 119) rfl))) (mvT hZ (hw _ (List.mem_of_getElem? (i := 120) rfl))) (by decide) (backOf (W := 1) (rm19 l Z a0 hw [] va (dn + mr) dn h0 n0 Z0 Bv hne hn0 hcp hmi) hZ (hw _ (List.mem_of_getElem? (i := 120) rfl)) (hw _ (List.mem_of_getElem? (i := 119) rfl)) (by decide) (by decide)) (g := (mkF m 32 #[.val (.ref sb), .val (.int mn), .val (.int dn)] [(.int (dn + mr)), (.ref va), (.ref sb)])) rfl (by rw [hml]; rfl) (argsL := [(.ref va), (.int (dn + mr))]) (rest := [(.ref sb)]) (lenOf own_pd8 rfl) rfl (by show 2 * 0 + _ ≤ _; exact Nat.le_of_eq rfl) (hb hby own_d9_32) (fun _ _ => ⟨rfl, e6, (by decide : 0 + 1 ≤ _), (by decide : 0 + 100 ≤ _)⟩)
  dsimp only [Pt.U, Pt.locs, Pt.cells, Pt.slots] at X7 l7 y7 z7 st7 hQ7
  subst l7 y7 z7
  obtain ⟨ra_7, rfl, N7q, K7q, f7_0, f7_1⟩ := hQ7
  have N7 := Fr.app N5 N7q
  have ne8 : sb ≠ ra_7 := Nat.ne_of_lt (Nat.lt_of_lt_of_le Eb.lt f7_0)
  have ne9 : va ≠ ra_7 := Nat.ne_of_lt (Nat.lt_of_lt_of_le Bv.lt f7_0)
  have GG10 : n0 ≤ ra_7 := Nat.le_trans Z0 f7_0
  have HG10 : h0.size ≤ ra_7 := Nat.le_trans K0.1 f7_0
  have f11 := Eb.keep K7q
  have f12 := Fv.keep K7q nin0
  have f13 := Fc.keep K7q nin0
  have f14 := Bv.keep K7q nin0
  have f15 := Fn.keep K7q nin0
  have K7 := K0.trans K7q all0
  have Z7 := Nat.le_trans Z0 K7q.1
  refine Goes.go st7 ?_
  show Goes p e below _ T7 (mkF m 35 #[.val (.ref sb), .val (.int mn), .val (.int dn)] [(.ref ra_7), (.ref sb)])
  obtain ⟨T16, h16, X16, e16, W16, st16⟩ := putF X7 hx hZ hown (host := "") (Or.inl (hw _ (List.mem_of_getElem? (i := 29) rfl))) Via.refl rfl f12 f11 (Or.inl (hw _ (List.mem_of_getElem? (i := 30) rfl))) (hw _ (List.mem_of_getElem? (i := 12) rfl)) (ty := (.array .byte)) (by decide) rfl rfl (g := (mkF m 35 #[.val (.ref sb), .val (.int mn), .val (.int dn)] [(.ref ra_7), (.ref sb)])) rfl rfl (hb hby own_d9_35)
  have N16 := Fr.snoc X16 N7 gb
  have f17 := f11.wr W16
  have f18 := f12.same W16
  have f19 := f13.other W16 (Or.inr (slot_ne (Or.inl (hw _ (List.mem_of_getElem? (i := 32) rfl))) (Or.inl (hw _ (List.mem_of_getElem? (i := 30) rfl))) (by decide) (t := .byte) (t' := (.array .byte)) (by decide) (by decide)))
  have f20 := f14.other W16 (Ne.symm nbv)
  have f21 := f15.other W16 (Or.inr (slot_ne (Or.inl (hw _ (List.mem_of_getElem? (i := 63) rfl))) (Or.inl (hw _ (List.mem_of_getElem? (i := 30) rfl))) (by decide) (t := .int) (t' := (.array .byte)) (by decide) (by decide)))
  have f22 := f7_1.other W16 (Ne.symm ne8)
  have K16 := K7.wr W16 (Or.inl (List.mem_of_getElem? (i := 0) rfl))
  have Z16 := Nat.le_trans Z7 (Nat.le_of_eq W16.size.symm)
  refine Goes.go st16 ?_
  show Goes p e below _ T16 (mkF m 38 #[.val (.ref sb), .val (.int mn), .val (.int dn)] [])
  refine own_retV X16 hx hlk Bd.returns (hb hby own_d9_38) (by decide) (by decide) e16 ?_
  exact ⟨ra_7, rfl, N16, K16, HG10, f18, f19, f21, f22⟩
theorem own_d11_0 : decode jdk_68_method_71_code 0 = .ok (.getstatic 18, 3) := by decide +kernel
theorem own_d11_3 : decode jdk_68_method_71_code 3 = .ok (.ifCond .eq 18, 3) := by decide +kernel
theorem own_d11_6 : decode jdk_68_method_71_code 6 = .ok (.aload_n 0, 1) := by decide +kernel
theorem own_d11_7 : decode jdk_68_method_71_code 7 = .ok (.getfield 22, 3) := by decide +kernel
theorem own_d11_10 : decode jdk_68_method_71_code 10 = .ok (.aload_n 1, 1) := by decide +kernel
theorem own_d11_11 : decode jdk_68_method_71_code 11 = .ok (.invokevirtual 40, 3) := by decide +kernel
theorem own_d11_14 : decode jdk_68_method_71_code 14 = .ok (.if_icmp .eq 7, 3) := by decide +kernel
theorem own_d11_21 : decode jdk_68_method_71_code 21 = .ok (.return_, 1) := by decide +kernel
def Q11 (Z : State) (sb : Addr) (sa : Addr) (cs : Int32) (h0 : Heap) (n0 : Nat) (v : Option Value) (h : Heap) (L : List Loc) : Prop := v = none ∧ Fr n0 L ∧ h = h0
set_option maxRecDepth 65536 in
set_option maxHeartbeats 40000000 in
theorem rm11 (l : Launch) (Z : State) (a0 : Array Value) (hw : ∀ d ∈ tables_1, d.before a0 Z = true) (ws : List Jvm.Cond) (sb : Addr) (sa : Addr) (cs : Int32) (h0 : Heap) (n0 : Nat) (Z0 : n0 ≤ h0.size) (Sc : Sta Z h0 "java/lang/String" "COMPACT_STRINGS" "Z" (.int cs)) (hcs : ¬ (cs = (0 : Int32))) (Fc : Fld Z h0 sb "java/lang/AbstractStringBuilder" "coder" "B" (.int (0 : Int32))) (Es : Exa Z h0 sa "java/lang/String") (Fsc : Fld Z h0 sa "java/lang/String" "coder" "B" (.int (0 : Int32))) :
    MetFree l (⟨"java/lang/AbstractStringBuilder", "inflateIfNeededFor", "(Ljava/lang/String;)V"⟩ : MethodName) (head1 (Jvm.Cond.code (⟨"java/lang/AbstractStringBuilder", "inflateIfNeededFor", "(Ljava/lang/String;)V"⟩ : MethodName) jdk_68_method_71_code 2 none :: ws) ({ frames := 1, cells := 0, slots := 0, locals := 13 } : Room)) (fun a U => a = #[(.ref sb), (.ref sa)] ∧ Z.Warmed39 U.vm ∧ U.heap = h0) (fun _ _ _ _ _ => True) (fun _ U o U' => ∃ v L, o = .returned v ∧ Q11 Z sb sa cs h0 n0 v U'.heap L ∧ FrameEnd U o U' L ({ frames := 1, cells := 0, slots := 0, locals := 13 } : Room).cells ({ frames := 1, cells := 0, slots := 0, locals := 13 } : Room).slots) := by
  refine MetFree.of_bodySF (plainFor_of_name own_pn_java_lang_AbstractStringBuilder) hisR ?_
  intro p e s m args below meth c s₁ Bd hml0 hP hK
  obtain ⟨rfl, hZ, hh⟩ := hP
  have hx := Bd.exec
  have hby := Bd.bytes
  have hml : c.maxLocals = 2 := hml0
  have hlk := Bd.notSynchronized
  have hown : s.vm.findClass "java/lang/AbstractStringBuilder" = some m.cls := findClass_of_methodNamed Bd.named
  have hnm := (name_of_methodNamed Bd.named Bd.method).1
  have X0 : Stand p l e ({ frames := 1, cells := 0, slots := 0, locals := 13 } : Room) s m #[(.ref sb), (.ref sa)] below meth c s₁ [] 0 0 := Stand.of_body Bd
  have e0 : s₁.heap = h0 := by rw [← hh, Bd.state]; rfl
  have N0 := Fr.nil n0
  refine own_enter (P := (Done s ({ frames := 1, cells := 0, slots := 0, locals := 13 } : Room).cells ({ frames := 1, cells := 0, slots := 0, locals := 13 } : Room).slots (Q11 Z sb sa cs h0 n0))) (Ls := #[.val (.ref sb), .val (.ref sa)]) (by first | (simp [entryFrame, mkF, argsToLocals, Value.category]; done) | rfl) ?_
  obtain ⟨T1, X1, e1, st1⟩ := getS2 X0 hx hZ hown (host := "") (Or.inl (hw _ (List.mem_of_getElem? (i := 26) rfl))) Via.refl e0 Sc (g := (mkF m 0 #[.val (.ref sb), .val (.ref sa)] [])) rfl (hb hby own_d11_0)
  refine Goes.go st1 ?_
  show Goes p e below _ T1 (mkF m 3 #[.val (.ref sb), .val (.ref sa)] [(.int cs)])
  by_cases hc3_2 : cs = (0 : Int32)
  · refine own_ifY X1 hx 21 (hb hby own_d11_3) ((if0 _ _).trans (teq hc3_2).1) (by decide) (by decide) ?_
    refine own_retV X1 hx hlk Bd.returns (hb hby own_d11_21) (by decide) (by decide) e1 ?_
    exact ⟨rfl, N0, rfl⟩
  · refine own_ifN X1 hx 6 (hb hby own_d11_3) ((if0 _ _).trans (feq hc3_2).1) rfl ?_
    refine own_aloadN X1 hx 7 rfl (hb hby own_d11_6) rfl rfl ?_
    obtain ⟨T3, X3, e3, st3⟩ := getF X1 hx hZ hown (host := "") (Or.inl (hw _ (List.mem_of_getElem? (i := 31) rfl))) Via.refl e1 Fc (g := (mkF m 7 #[.val (.ref sb), .val (.ref sa)] [(.ref sb)])) rfl rfl (hb hby own_d11_7)
    refine Goes.go st3 ?_
    show Goes p e below _ T3 (mkF m 10 #[.val (.ref sb), .val (.ref sa)] [(.int (0 : Int32))])
    refine own_aloadN X3 hx 11 rfl (hb hby own_d11_10) rfl rfl ?_
    obtain ⟨cq4, kq4, q4a, q4b, q4c⟩ := isOf hZ e3 Es
    obtain ⟨_, _, ⟨T4, L4, k4, n4⟩, -, X4, ⟨Lc4, hQ4, l4, y4, z4⟩, st4⟩ := X3.virtualBack hx (y := (⟨"java/lang/String", "coder", "()B"⟩ : MethodName)) (z := (⟨"java/lang/String", "coder", "()B"⟩ : MethodName)) hown (mvT hZ (hw _ (List.mem_of_getElem? (i := 79) rfl))) (mvT hZ (hw _ (List.mem_of_getElem? (i := 56) rfl))) (notFace_of_selects (args := #[]) (mvT hZ (hw _ (List.mem_of_getElem? (i := 58) rfl)))) (mvT hZ (hw _ (List.mem_of_getElem? (i := 58) rfl))) (mvT hZ (hw _ (List.mem_of_getElem? (i := 57) rfl))) (by decide) (backOf (W := 1) (rm8 l Z a0 hw [] sa cs h0 n0 Z0 Sc hcs Fsc) hZ (hw _ (List.mem_of_getElem? (i := 59) rfl)) (hw _ (List.mem_of_getElem? (i := 27) rfl)) (by decide) (by decide)) q4a q4c (g := (mkF m 11 #[.val (.ref sb), .val (.ref sa)] [(.ref sa), (.int (0 : Int32))])) rfl (by rw [hml]; rfl) (Steps.refl _) (argsL := []) (rest := [(.int (0 : Int32))]) (lenOf own_pd3 rfl) rfl (by show 2 * 0 + _ ≤ _; exact Nat.le_of_eq rfl) (hb hby own_d11_11) (fun _ _ => ⟨rfl, e3, (by decide : 0 + 0 ≤ _), (by decide : 0 + 0 ≤ _)⟩)
    dsimp only [Pt.U, Pt.locs, Pt.cells, Pt.slots] at X4 l4 y4 z4 st4 hQ4
    subst l4 y4 z4
    obtain ⟨rfl, N4q, eh4⟩ := hQ4
    have N4 := Fr.app N0 N4q
    refine Goes.tr st4 ?_
    show Goes p e below _ T4 (mkF m 14 #[.val (.ref sb), .val (.ref sa)] [(.int (0 : Int32)), (.int (0 : Int32))])
    refine own_icmpY X4 hx 21 (hb hby own_d11_14) (teq ((by decide) : (0 : Int32) = (0 : Int32))).1 (by decide) (by decide) ?_
    refine own_retV X4 hx hlk Bd.returns (hb hby own_d11_21) (by decide) (by decide) eh4 ?_
    exact ⟨rfl, N4, rfl⟩
theorem own_pd9 : parseMethodDescriptor "(Ljava/lang/String;)V" = some ⟨[(.object "java/lang/String")], none⟩ := by decide +kernel
theorem own_pd10 : parseMethodDescriptor "([BIB)V" = some ⟨[(.array .byte), .int, .byte], none⟩ := by decide +kernel
theorem own_d10_0 : decode jdk_68_method_73_code 0 = .ok (.aload_n 0, 1) := by decide +kernel
theorem own_d10_1 : decode jdk_68_method_73_code 1 = .ok (.aload_n 2, 1) := by decide +kernel
theorem own_d10_2 : decode jdk_68_method_73_code 2 = .ok (.invokevirtual 397, 3) := by decide +kernel
theorem own_d10_5 : decode jdk_68_method_73_code 5 = .ok (.aload_n 2, 1) := by decide +kernel
theorem own_d10_6 : decode jdk_68_method_73_code 6 = .ok (.aload_n 0, 1) := by decide +kernel
theorem own_d10_7 : decode jdk_68_method_73_code 7 = .ok (.getfield 15, 3) := by decide +kernel
theorem own_d10_10 : decode jdk_68_method_73_code 10 = .ok (.iload_n 1, 1) := by decide +kernel
theorem own_d10_11 : decode jdk_68_method_73_code 11 = .ok (.aload_n 0, 1) := by decide +kernel
theorem own_d10_12 : decode jdk_68_method_73_code 12 = .ok (.getfield 22, 3) := by decide +kernel
theorem own_d10_15 : decode jdk_68_method_73_code 15 = .ok (.invokevirtual 399, 3) := by decide +kernel
theorem own_d10_18 : decode jdk_68_method_73_code 18 = .ok (.return_, 1) := by decide +kernel
def Q10 (Z : State) (sb : Addr) (gp : Int32) (sa : Addr) (cs : Int32) (vb : Addr) (vk : ClassId) (vn : Int32) (vs : List Value) (gd : Addr) (dn : Int32) (h0 : Heap) (n0 : Nat) (v : Option Value) (h : Heap) (L : List Loc) : Prop := v = none ∧ Fr n0 L ∧ Keep h0 h [gd] ∧ ByA Z h gd dn
set_option maxRecDepth 65536 in
set_option maxHeartbeats 40000000 in
theorem rm10 (l : Launch) (Z : State) (a0 : Array Value) (hw : ∀ d ∈ tables_1, d.before a0 Z = true) (ws : List Jvm.Cond) (sb : Addr) (gp : Int32) (sa : Addr) (cs : Int32) (vb : Addr) (vk : ClassId) (vn : Int32) (vs : List Value) (gd : Addr) (dn : Int32) (h0 : Heap) (n0 : Nat) (Z0 : n0 ≤ h0.size) (Sc : Sta Z h0 "java/lang/String" "COMPACT_STRINGS" "Z" (.int cs)) (hcs : ¬ (cs = (0 : Int32))) (Eb : Exa Z h0 sb "java/lang/StringBuilder") (Fv : Fld Z h0 sb "java/lang/AbstractStringBuilder" "value" "[B" (.ref gd)) (Fc : Fld Z h0 sb "java/lang/AbstractStringBuilder" "coder" "B" (.int (0 : Int32))) (nbg : sb ≠ gd) (Es : Exa Z h0 sa "java/lang/String") (Fsc : Fld Z h0 sa "java/lang/String" "coder" "B" (.int (0 : Int32))) (Fsv : Fld Z h0 sa "java/lang/String" "value" "[B" (.ref vb)) (Avb : Arv Z h0 vb vk .byte vn vs (.int (0 : Int32))) (Bdd : ByA Z h0 gd dn) (gd_ : n0 ≤ gd) (nsg : sa ≠ gd) (nvg : vb ≠ gd) (hg0 : ¬ (gp < (0 : Int32))) (hg5 : (gp).toNatClampNeg + (vn).toNatClampNeg ≤ (dn).toNatClampNeg) :
    MetFree l (⟨"java/lang/AbstractStringBuilder", "putStringAt", "(ILjava/lang/String;)V"⟩ : MethodName) (head1 (Jvm.Cond.code (⟨"java/lang/AbstractStringBuilder", "putStringAt", "(ILjava/lang/String;)V"⟩ : MethodName) jdk_68_method_73_code 3 none :: ws) ({ frames := 2, cells := 0, slots := 0, locals := 33 } : Room)) (fun a U => a = #[(.ref sb), (.int gp), (.ref sa)] ∧ Z.Warmed39 U.vm ∧ U.heap = h0) (fun _ _ _ _ _ => True) (fun _ U o U' => ∃ v L, o = .returned v ∧ Q10 Z sb gp sa cs vb vk vn vs gd dn h0 n0 v U'.heap L ∧ FrameEnd U o U' L ({ frames := 2, cells := 0, slots := 0, locals := 33 } : Room).cells ({ frames := 2, cells := 0, slots := 0, locals := 33 } : Room).slots) := by
  refine MetFree.of_bodySF (plainFor_of_name own_pn_java_lang_AbstractStringBuilder) hisR ?_
  intro p e s m args below meth c s₁ Bd hml0 hP hK
  obtain ⟨rfl, hZ, hh⟩ := hP
  have hx := Bd.exec
  have hby := Bd.bytes
  have hml : c.maxLocals = 3 := hml0
  have hlk := Bd.notSynchronized
  have hown : s.vm.findClass "java/lang/AbstractStringBuilder" = some m.cls := findClass_of_methodNamed Bd.named
  have hnm := (name_of_methodNamed Bd.named Bd.method).1
  have X0 : Stand p l e ({ frames := 2, cells := 0, slots := 0, locals := 33 } : Room) s m #[(.ref sb), (.int gp), (.ref sa)] below meth c s₁ [] 0 0 := Stand.of_body Bd
  have e0 : s₁.heap = h0 := by rw [← hh, Bd.state]; rfl
  have N0 := Fr.nil n0
  have K0 : Keep h0 h0 [gd] := Keep.refl _ _
  refine own_enter (P := (Done s ({ frames := 2, cells := 0, slots := 0, locals := 33 } : Room).cells ({ frames := 2, cells := 0, slots := 0, locals := 33 } : Room).slots (Q10 Z sb gp sa cs vb vk vn vs gd dn h0 n0))) (Ls := #[.val (.ref sb), .val (.int gp), .val (.ref sa)]) (by first | (simp [entryFrame, mkF, argsToLocals, Value.category]; done) | rfl) ?_
  refine own_aloadN X0 hx 1 rfl (hb hby own_d10_0) rfl rfl ?_
  refine own_aloadN X0 hx 2 rfl (hb hby own_d10_1) rfl rfl ?_
  obtain ⟨cq1, q1, q1'⟩ := Eb.cell
  obtain ⟨_, _, ⟨T1, L1, k1, n1⟩, -, X1, ⟨Lc1, hQ1, l1, y1, z1⟩, st1⟩ := X0.privateBack hx (y := (⟨"java/lang/AbstractStringBuilder", "inflateIfNeededFor", "(Ljava/lang/String;)V"⟩ : MethodName)) hown (mvT hZ (hw _ (List.mem_of_getElem? (i := 74) rfl))) (mvT hZ (hw _ (List.mem_of_getElem? (i := 75) rfl))) (own_selUp (mvT hZ (hw _ (List.mem_of_getElem? (i := 77) rfl))) (mvP hZ (hw _ (List.mem_of_getElem? (i := 76) rfl))) (mvT hZ (hw _ (List.mem_of_getElem? (i := 75) rfl))) (by decide)) (Cond.privateMethod_at (mvP hZ (hw _ (List.mem_of_getElem? (i := 76) rfl)) (args := #[]))) (mvT hZ (hw _ (List.mem_of_getElem? (i := 78) rfl))) (by decide) (backOf (W := 0) (rm11 l Z a0 hw [] sb sa cs h0 n0 Z0 Sc hcs Fc Es Fsc) hZ (hw _ (List.mem_of_getElem? (i := 78) rfl)) (hw _ (List.mem_of_getElem? (i := 21) rfl)) (by decide) (by decide)) (g := (mkF m 2 #[.val (.ref sb), .val (.int gp), .val (.ref sa)] [(.ref sa), (.ref sb)])) rfl (by rw [hml]; rfl) (Steps.refl _) (a := sb) (by rw [e0]; exact q1) q1' (argsL := [(.ref sa)]) (rest := []) (lenOf own_pd9 rfl) rfl (by show 2 * 0 + _ ≤ _; exact Nat.le_of_eq rfl) (hb hby own_d10_2) (fun _ _ => ⟨rfl, e0, (by decide : 0 + 0 ≤ _), (by decide : 0 + 0 ≤ _)⟩)
  dsimp only [Pt.U, Pt.locs, Pt.cells, Pt.slots] at X1 l1 y1 z1 st1 hQ1
  subst l1 y1 z1
  obtain ⟨rfl, N1q, eh1⟩ := hQ1
  have N1 := Fr.app N0 N1q
  refine Goes.tr st1 ?_
  show Goes p e below _ T1 (mkF m 5 #[.val (.ref sb), .val (.int gp), .val (.ref sa)] [])
  refine own_aloadN X1 hx 6 rfl (hb hby own_d10_5) rfl rfl ?_
  refine own_aloadN X1 hx 7 rfl (hb hby own_d10_6) rfl rfl ?_
  obtain ⟨T2, X2, e2, st2⟩ := getF X1 hx hZ hown (host := "") (Or.inl (hw _ (List.mem_of_getElem? (i := 29) rfl))) Via.refl eh1 Fv (g := (mkF m 7 #[.val (.ref sb), .val (.int gp), .val (.ref sa)] [(.ref sb), (.ref sa)])) rfl rfl (hb hby own_d10_7)
  refine Goes.go st2 ?_
  show Goes p e below _ T2 (mkF m 10 #[.val (.ref sb), .val (.int gp), .val (.ref sa)] [(.ref gd), (.ref sa)])
  refine own_iloadN X2 hx 11 rfl (hb hby own_d10_10) rfl ?_
  refine own_aloadN X2 hx 12 rfl (hb hby own_d10_11) rfl rfl ?_
  obtain ⟨T3, X3, e3, st3⟩ := getF X2 hx hZ hown (host := "") (Or.inl (hw _ (List.mem_of_getElem? (i := 31) rfl))) Via.refl e2 Fc (g := (mkF m 12 #[.val (.ref sb), .val (.int gp), .val (.ref sa)] [(.ref sb), (.int gp), (.ref gd), (.ref sa)])) rfl rfl (hb hby own_d10_12)
  refine Goes.go st3 ?_
  show Goes p e below _ T3 (mkF m 15 #[.val (.ref sb), .val (.int gp), .val (.ref sa)] [(.int (0 : Int32)), (.int gp), (.ref gd), (.ref sa)])
  obtain ⟨cq4, kq4, q4a, q4b, q4c⟩ := isOf hZ e3 Es
  obtain ⟨_, _, ⟨T4, L4, k4, n4⟩, -, X4, ⟨Lc4, hQ4, l4, y4, z4⟩, st4⟩ := X3.virtualBack hx (y := (⟨"java/lang/String", "getBytes", "([BIB)V"⟩ : MethodName)) (z := (⟨"java/lang/String", "getBytes", "([BIB)V"⟩ : MethodName)) hown (mvT hZ (hw _ (List.mem_of_getElem? (i := 80) rfl))) (mvT hZ (hw _ (List.mem_of_getElem? (i := 81) rfl))) (notFace_of_selects (args := #[]) (mvT hZ (hw _ (List.mem_of_getElem? (i := 83) rfl)))) (mvT hZ (hw _ (List.mem_of_getElem? (i := 83) rfl))) (mvT hZ (hw _ (List.mem_of_getElem? (i := 82) rfl))) (by decide) (backOf (W := 0) (rm12 l Z a0 hw [] sa gd gp cs vb vk vn vs dn h0 n0 Z0 Sc hcs Es Fsc Fsv Avb Bdd gd_ nsg nvg hg0 hg5) hZ (hw _ (List.mem_of_getElem? (i := 84) rfl)) (hw _ (List.mem_of_getElem? (i := 27) rfl)) (by decide) (by decide)) q4a q4c (g := (mkF m 15 #[.val (.ref sb), .val (.int gp), .val (.ref sa)] [(.int (0 : Int32)), (.int gp), (.ref gd), (.ref sa)])) rfl (by rw [hml]; rfl) (Steps.refl _) (argsL := [(.ref gd), (.int gp), (.int (0 : Int32))]) (rest := []) (lenOf own_pd10 rfl) rfl (by show 2 * 0 + _ ≤ _; exact Nat.le_of_eq rfl) (hb hby own_d10_15) (fun _ _ => ⟨rfl, e3, (by decide : 0 + 0 ≤ _), (by decide : 0 + 0 ≤ _)⟩)
  dsimp only [Pt.U, Pt.locs, Pt.cells, Pt.slots] at X4 l4 y4 z4 st4 hQ4
  subst l4 y4 z4
  obtain ⟨rfl, N4q, K4q, f4_0⟩ := hQ4
  have N4 := Fr.app N1 N4q
  have f5 := own_sta_keep Sc K4q (allS Bdd.plain all0)
  have f6 := Eb.keep K4q
  have f7 := Fv.keep K4q (ninS nbg nin0)
  have f8 := Fc.keep K4q (ninS nbg nin0)
  have f9 := Es.keep K4q
  have f10 := Fsc.keep K4q (ninS nsg nin0)
  have f11 := Fsv.keep K4q (ninS nsg nin0)
  have f12 := Avb.keep K4q (ninS nvg nin0)
  have K4 := K0.trans K4q (allS (Or.inl (List.mem_of_getElem? (i := 0) rfl)) all0)
  have Z4 := Nat.le_trans Z0 K4q.1
  refine Goes.tr st4 ?_
  show Goes p e below _ T4 (mkF m 18 #[.val (.ref sb), .val (.int gp), .val (.ref sa)] [])
  refine own_retV X4 hx hlk Bd.returns (hb hby own_d10_18) (by decide) (by decide) rfl ?_
  exact ⟨rfl, N4, K4, f4_0⟩
theorem own_pd11 : parseMethodDescriptor "(ILjava/lang/String;)V" = some ⟨[.int, (.object "java/lang/String")], none⟩ := by decide +kernel
theorem own_d6_0 : decode jdk_68_method_22_code 0 = .ok (.aload_n 1, 1) := by decide +kernel
theorem own_d6_1 : decode jdk_68_method_22_code 1 = .ok (.ifnonnull 8, 3) := by decide +kernel
theorem own_d6_9 : decode jdk_68_method_22_code 9 = .ok (.aload_n 1, 1) := by decide +kernel
theorem own_d6_10 : decode jdk_68_method_22_code 10 = .ok (.invokevirtual 32, 3) := by decide +kernel
theorem own_d6_13 : decode jdk_68_method_22_code 13 = .ok (.istore_n 2, 1) := by decide +kernel
theorem own_d6_14 : decode jdk_68_method_22_code 14 = .ok (.aload_n 0, 1) := by decide +kernel
theorem own_d6_15 : decode jdk_68_method_22_code 15 = .ok (.aload_n 0, 1) := by decide +kernel
theorem own_d6_16 : decode jdk_68_method_22_code 16 = .ok (.getfield 79, 3) := by decide +kernel
theorem own_d6_19 : decode jdk_68_method_22_code 19 = .ok (.iload_n 2, 1) := by decide +kernel
theorem own_d6_20 : decode jdk_68_method_22_code 20 = .ok (.iadd, 1) := by decide +kernel
theorem own_d6_21 : decode jdk_68_method_22_code 21 = .ok (.invokevirtual 100, 3) := by decide +kernel
theorem own_d6_24 : decode jdk_68_method_22_code 24 = .ok (.aload_n 0, 1) := by decide +kernel
theorem own_d6_25 : decode jdk_68_method_22_code 25 = .ok (.aload_n 0, 1) := by decide +kernel
theorem own_d6_26 : decode jdk_68_method_22_code 26 = .ok (.getfield 79, 3) := by decide +kernel
theorem own_d6_29 : decode jdk_68_method_22_code 29 = .ok (.aload_n 1, 1) := by decide +kernel
theorem own_d6_30 : decode jdk_68_method_22_code 30 = .ok (.invokevirtual 208, 3) := by decide +kernel
theorem own_d6_33 : decode jdk_68_method_22_code 33 = .ok (.aload_n 0, 1) := by decide +kernel
theorem own_d6_34 : decode jdk_68_method_22_code 34 = .ok (.dup, 1) := by decide +kernel
theorem own_d6_35 : decode jdk_68_method_22_code 35 = .ok (.getfield 79, 3) := by decide +kernel
theorem own_d6_38 : decode jdk_68_method_22_code 38 = .ok (.iload_n 2, 1) := by decide +kernel
theorem own_d6_39 : decode jdk_68_method_22_code 39 = .ok (.iadd, 1) := by decide +kernel
theorem own_d6_40 : decode jdk_68_method_22_code 40 = .ok (.putfield 79, 3) := by decide +kernel
theorem own_d6_43 : decode jdk_68_method_22_code 43 = .ok (.aload_n 0, 1) := by decide +kernel
theorem own_d6_44 : decode jdk_68_method_22_code 44 = .ok (.areturn, 1) := by decide +kernel
def QappN (Z : State) (sb : Addr) (sa : Addr) (cs : Int32) (va : Addr) (dn : Int32) (cn : Int32) (vb : Addr) (vk : ClassId) (vn : Int32) (vs : List Value) (h0 : Heap) (n0 : Nat) (v : Option Value) (h : Heap) (L : List Loc) : Prop := v = some (.ref sb) ∧ Fr n0 L ∧ Keep h0 h [sb, va] ∧ Fld Z h sb "java/lang/AbstractStringBuilder" "value" "[B" (.ref va) ∧ Fld Z h sb "java/lang/AbstractStringBuilder" "coder" "B" (.int (0 : Int32)) ∧ Fld Z h sb "java/lang/AbstractStringBuilder" "count" "I" (.int (cn + vn)) ∧ ByA Z h va dn
set_option maxRecDepth 65536 in
set_option maxHeartbeats 40000000 in
theorem rmappN (l : Launch) (Z : State) (a0 : Array Value) (hw : ∀ d ∈ tables_1, d.before a0 Z = true) (ws : List Jvm.Cond) (sb : Addr) (sa : Addr) (cs : Int32) (va : Addr) (dn : Int32) (cn : Int32) (vb : Addr) (vk : ClassId) (vn : Int32) (vs : List Value) (h0 : Heap) (n0 : Nat) (Z0 : n0 ≤ h0.size) (Sc : Sta Z h0 "java/lang/String" "COMPACT_STRINGS" "Z" (.int cs)) (hcs : ¬ (cs = (0 : Int32))) (Eb : Exa Z h0 sb "java/lang/StringBuilder") (gb : n0 ≤ sb) (Fv : Fld Z h0 sb "java/lang/AbstractStringBuilder" "value" "[B" (.ref va)) (Fc : Fld Z h0 sb "java/lang/AbstractStringBuilder" "coder" "B" (.int (0 : Int32))) (Bv : ByA Z h0 va dn) (Fn : Fld Z h0 sb "java/lang/AbstractStringBuilder" "count" "I" (.int cn)) (gv_ : n0 ≤ va) (Es : Exa Z h0 sa "java/lang/String") (Fsc : Fld Z h0 sa "java/lang/String" "coder" "B" (.int (0 : Int32))) (Fsv : Fld Z h0 sa "java/lang/String" "value" "[B" (.ref vb)) (Avb : Arv Z h0 vb vk .byte vn vs (.int (0 : Int32))) (nsbva : sb ≠ va) (nsava : sa ≠ va) (nvbva : vb ≠ va) (nsasb : sa ≠ sb) (nvbsb : vb ≠ sb) (hno : ¬ ((0 : Int32) < ((cn + vn) - dn))) (hg0 : ¬ (cn < (0 : Int32))) (hg5 : (cn).toNatClampNeg + (vn).toNatClampNeg ≤ (dn).toNatClampNeg) :
    MetFree l (⟨"java/lang/AbstractStringBuilder", "append", "(Ljava/lang/String;)Ljava/lang/AbstractStringBuilder;"⟩ : MethodName) (head1 (Jvm.Cond.code (⟨"java/lang/AbstractStringBuilder", "append", "(Ljava/lang/String;)Ljava/lang/AbstractStringBuilder;"⟩ : MethodName) jdk_68_method_22_code 3 (some (.object "java/lang/AbstractStringBuilder")) :: ws) ({ frames := 3, cells := 0, slots := 0, locals := 47 } : Room)) (fun a U => a = #[(.ref sb), (.ref sa)] ∧ Z.Warmed39 U.vm ∧ U.heap = h0) (fun _ _ _ _ _ => True) (fun _ U o U' => ∃ v L, o = .returned v ∧ QappN Z sb sa cs va dn cn vb vk vn vs h0 n0 v U'.heap L ∧ FrameEnd U o U' L ({ frames := 3, cells := 0, slots := 0, locals := 47 } : Room).cells ({ frames := 3, cells := 0, slots := 0, locals := 47 } : Room).slots) := by
  refine MetFree.of_bodySF (plainFor_of_name own_pn_java_lang_AbstractStringBuilder) hisR ?_
  intro p e s m args below meth c s₁ Bd hml0 hP hK
  obtain ⟨rfl, hZ, hh⟩ := hP
  have hx := Bd.exec
  have hby := Bd.bytes
  have hml : c.maxLocals = 3 := hml0
  have hlk := Bd.notSynchronized
  have hown : s.vm.findClass "java/lang/AbstractStringBuilder" = some m.cls := findClass_of_methodNamed Bd.named
  have hnm := (name_of_methodNamed Bd.named Bd.method).1
  have X0 : Stand p l e ({ frames := 3, cells := 0, slots := 0, locals := 47 } : Room) s m #[(.ref sb), (.ref sa)] below meth c s₁ [] 0 0 := Stand.of_body Bd
  have e0 : s₁.heap = h0 := by rw [← hh, Bd.state]; rfl
  have N0 := Fr.nil n0
  have K0 : Keep h0 h0 [sb, va] := Keep.refl _ _
  refine own_enter (P := (Done s ({ frames := 3, cells := 0, slots := 0, locals := 47 } : Room).cells ({ frames := 3, cells := 0, slots := 0, locals := 47 } : Room).slots (QappN Z sb sa cs va dn cn vb vk vn vs h0 n0))) (Ls := #[.val (.ref sb), .val (.ref sa), .unset]) (by first | (simp [entryFrame, mkF, argsToLocals, Value.category]; done) | rfl) ?_
  refine own_aloadN X0 hx 1 rfl (hb hby own_d6_0) rfl rfl ?_
  refine own_ifnonnullY X0 hx 9 (hb hby own_d6_1) (by decide) (by decide) ?_
  refine own_aloadN X0 hx 10 rfl (hb hby own_d6_9) rfl rfl ?_
  obtain ⟨cq1, kq1, q1a, q1b, q1c⟩ := isOf hZ e0 Es
  obtain ⟨_, _, ⟨T1, L1, k1, n1⟩, -, X1, ⟨Lc1, hQ1, l1, y1, z1⟩, st1⟩ := X0.virtualBack hx (y := (⟨"java/lang/String", "length", "()I"⟩ : MethodName)) (z := (⟨"java/lang/String", "length", "()I"⟩ : MethodName)) hown (mvT hZ (hw _ (List.mem_of_getElem? (i := 49) rfl))) (mvT hZ (hw _ (List.mem_of_getElem? (i := 50) rfl))) (notFace_of_selects (args := #[]) (mvT hZ (hw _ (List.mem_of_getElem? (i := 52) rfl)))) (mvT hZ (hw _ (List.mem_of_getElem? (i := 52) rfl))) (mvT hZ (hw _ (List.mem_of_getElem? (i := 51) rfl))) (by decide) (backOf (W := 0) (rm7 l Z a0 hw [] sa cs vb vk vn vs h0 n0 Z0 Sc hcs Es Fsc Fsv Avb) hZ (hw _ (List.mem_of_getElem? (i := 53) rfl)) (hw _ (List.mem_of_getElem? (i := 27) rfl)) (by decide) (by decide)) q1a q1c (g := (mkF m 10 #[.val (.ref sb), .val (.ref sa), .unset] [(.ref sa)])) rfl (by rw [hml]; rfl) (Steps.refl _) (argsL := []) (rest := []) (lenOf own_pd5 rfl) rfl (by show 2 * 0 + _ ≤ _; exact Nat.le_of_eq rfl) (hb hby own_d6_10) (fun _ _ => ⟨rfl, e0, (by decide : 0 + 0 ≤ _), (by decide : 0 + 0 ≤ _)⟩)
  dsimp only [Pt.U, Pt.locs, Pt.cells, Pt.slots] at X1 l1 y1 z1 st1 hQ1
  subst l1 y1 z1
  obtain ⟨rfl, N1q, eh1⟩ := hQ1
  have N1 := Fr.app N0 N1q
  refine Goes.tr st1 ?_
  show Goes p e below _ T1 (mkF m 13 #[.val (.ref sb), .val (.ref sa), .unset] [(.int vn)])
  refine own_istoreN X1 hx 14 rfl #[.val (.ref sb), .val (.ref sa), .val (.int vn)] (hb hby own_d6_13) rfl ?_
  refine own_aloadN X1 hx 15 rfl (hb hby own_d6_14) rfl rfl ?_
  refine own_aloadN X1 hx 16 rfl (hb hby own_d6_15) rfl rfl ?_
  obtain ⟨T2, X2, e2, st2⟩ := getF X1 hx hZ hown (host := "") (Or.inl (hw _ (List.mem_of_getElem? (i := 62) rfl))) Via.refl eh1 Fn (g := (mkF m 16 #[.val (.ref sb), .val (.ref sa), .val (.int vn)] [(.ref sb), (.ref sb)])) rfl rfl (hb hby own_d6_16)
  refine Goes.go st2 ?_
  show Goes p e below _ T2 (mkF m 19 #[.val (.ref sb), .val (.ref sa), .val (.int vn)] [(.int cn), (.ref sb)])
  refine own_iloadN X2 hx 20 rfl (hb hby own_d6_19) rfl ?_
  refine own_iadd X2 hx 21 rfl (hb hby own_d6_20) rfl ?_
  obtain ⟨cq3, q3, q3'⟩ := Eb.cell
  obtain ⟨_, _, ⟨T3, L3, k3, n3⟩, -, X3, ⟨Lc3, hQ3, l3, y3, z3⟩, st3⟩ := X2.privateBack hx (y := (⟨"java/lang/AbstractStringBuilder", "ensureCapacityInternal", "(I)V"⟩ : MethodName)) hown (mvT hZ (hw _ (List.mem_of_getElem? (i := 64) rfl))) (mvT hZ (hw _ (List.mem_of_getElem? (i := 65) rfl))) (own_selUp (mvT hZ (hw _ (List.mem_of_getElem? (i := 67) rfl))) (mvP hZ (hw _ (List.mem_of_getElem? (i := 66) rfl))) (mvT hZ (hw _ (List.mem_of_getElem? (i := 65) rfl))) (by decide)) (Cond.privateMethod_at (mvP hZ (hw _ (List.mem_of_getElem? (i := 66) rfl)) (args := #[]))) (mvT hZ (hw _ (List.mem_of_getElem? (i := 68) rfl))) (by decide) (backOf (W := 0) (rmensN l Z a0 hw [] sb (cn + vn) va dn h0 n0 Z0 Fv Fc Bv hno) hZ (hw _ (List.mem_of_getElem? (i := 68) rfl)) (hw _ (List.mem_of_getElem? (i := 21) rfl)) (by decide) (by decide)) (g := (mkF m 21 #[.val (.ref sb), .val (.ref sa), .val (.int vn)] [(.int (cn + vn)), (.ref sb)])) rfl (by rw [hml]; rfl) (Steps.refl _) (a := sb) (by rw [e2]; exact q3) q3' (argsL := [(.int (cn + vn))]) (rest := []) (lenOf own_pd4 rfl) rfl (by show 2 * 0 + _ ≤ _; exact Nat.le_of_eq rfl) (hb hby own_d6_21) (fun _ _ => ⟨rfl, e2, (by decide : 0 + 0 ≤ _), (by decide : 0 + 0 ≤ _)⟩)
  dsimp only [Pt.U, Pt.locs, Pt.cells, Pt.slots] at X3 l3 y3 z3 st3 hQ3
  subst l3 y3 z3
  obtain ⟨rfl, N3q, eh3⟩ := hQ3
  have N3 := Fr.app N1 N3q
  refine Goes.tr st3 ?_
  show Goes p e below _ T3 (mkF m 24 #[.val (.ref sb), .val (.ref sa), .val (.int vn)] [])
  refine own_aloadN X3 hx 25 rfl (hb hby own_d6_24) rfl rfl ?_
  refine own_aloadN X3 hx 26 rfl (hb hby own_d6_25) rfl rfl ?_
  obtain ⟨T4, X4, e4, st4⟩ := getF X3 hx hZ hown (host := "") (Or.inl (hw _ (List.mem_of_getElem? (i := 62) rfl))) Via.refl eh3 Fn (g := (mkF m 26 #[.val (.ref sb), .val (.ref sa), .val (.int vn)] [(.ref sb), (.ref sb)])) rfl rfl (hb hby own_d6_26)
  refine Goes.go st4 ?_
  show Goes p e below _ T4 (mkF m 29 #[.val (.ref sb), .val (.ref sa), .val (.int vn)] [(.int cn), (.ref sb)])
  refine own_aloadN X4 hx 30 rfl (hb hby own_d6_29) rfl rfl ?_
  obtain ⟨cq5, q5, q5'⟩ := Eb.cell
  obtain ⟨_, _, ⟨T5, L5, k5, n5⟩, -, X5, ⟨Lc5, hQ5, l5, y5, z5⟩, st5⟩ := X4.privateBack hx (y := (⟨"java/lang/AbstractStringBuilder", "putStringAt", "(ILjava/lang/String;)V"⟩ : MethodName)) hown (mvT hZ (hw _ (List.mem_of_getElem? (i := 69) rfl))) (mvT hZ (hw _ (List.mem_of_getElem? (i := 70) rfl))) (own_selUp (mvT hZ (hw _ (List.mem_of_getElem? (i := 72) rfl))) (mvP hZ (hw _ (List.mem_of_getElem? (i := 71) rfl))) (mvT hZ (hw _ (List.mem_of_getElem? (i := 70) rfl))) (by decide)) (Cond.privateMethod_at (mvP hZ (hw _ (List.mem_of_getElem? (i := 71) rfl)) (args := #[]))) (mvT hZ (hw _ (List.mem_of_getElem? (i := 73) rfl))) (by decide) (backOf (W := 0) (rm10 l Z a0 hw [] sb cn sa cs vb vk vn vs va dn h0 n0 Z0 Sc hcs Eb Fv Fc nsbva Es Fsc Fsv Avb Bv gv_ nsava nvbva hg0 hg5) hZ (hw _ (List.mem_of_getElem? (i := 73) rfl)) (hw _ (List.mem_of_getElem? (i := 21) rfl)) (by decide) (by decide)) (g := (mkF m 30 #[.val (.ref sb), .val (.ref sa), .val (.int vn)] [(.ref sa), (.int cn), (.ref sb)])) rfl (by rw [hml]; rfl) (Steps.refl _) (a := sb) (by rw [e4]; exact q5) q5' (argsL := [(.int cn), (.ref sa)]) (rest := []) (lenOf own_pd11 rfl) rfl (by show 2 * 0 + _ ≤ _; exact Nat.le_of_eq rfl) (hb hby own_d6_30) (fun _ _ => ⟨rfl, e4, (by decide : 0 + 0 ≤ _), (by decide : 0 + 0 ≤ _)⟩)
  dsimp only [Pt.U, Pt.locs, Pt.cells, Pt.slots] at X5 l5 y5 z5 st5 hQ5
  subst l5 y5 z5
  obtain ⟨rfl, N5q, K5q, f5_0⟩ := hQ5
  have N5 := Fr.app N3 N5q
  have f6 := own_sta_keep Sc K5q (allS Bv.plain all0)
  have f7 := Eb.keep K5q
  have f8 := Fv.keep K5q (ninS nsbva nin0)
  have f9 := Fc.keep K5q (ninS nsbva nin0)
  have f10 := Fn.keep K5q (ninS nsbva nin0)
  have f11 := Es.keep K5q
  have f12 := Fsc.keep K5q (ninS nsava nin0)
  have f13 := Fsv.keep K5q (ninS nsava nin0)
  have f14 := Avb.keep K5q (ninS nvbva nin0)
  have K5 := K0.trans K5q (allS (Or.inl (List.mem_of_getElem? (i := 1) rfl)) all0)
  have Z5 := Nat.le_trans Z0 K5q.1
  refine Goes.tr st5 ?_
  show Goes p e below _ T5 (mkF m 33 #[.val (.ref sb), .val (.ref sa), .val (.int vn)] [])
  refine own_aloadN X5 hx 34 rfl (hb hby own_d6_33) rfl rfl ?_
  refine own_dup X5 hx 35 rfl (hb hby own_d6_34) rfl ?_
  obtain ⟨T15, X15, e15, st15⟩ := getF X5 hx hZ hown (host := "") (Or.inl (hw _ (List.mem_of_getElem? (i := 62) rfl))) Via.refl rfl f10 (g := (mkF m 35 #[.val (.ref sb), .val (.ref sa), .val (.int vn)] [(.ref sb), (.ref sb)])) rfl rfl (hb hby own_d6_35)
  refine Goes.go st15 ?_
  show Goes p e below _ T15 (mkF m 38 #[.val (.ref sb), .val (.ref sa), .val (.int vn)] [(.int cn), (.ref sb)])
  refine own_iloadN X15 hx 39 rfl (hb hby own_d6_38) rfl ?_
  refine own_iadd X15 hx 40 rfl (hb hby own_d6_39) rfl ?_
  obtain ⟨T16, h16, X16, e16, W16, st16⟩ := putF X15 hx hZ hown (host := "") (Or.inl (hw _ (List.mem_of_getElem? (i := 62) rfl))) Via.refl e15 f10 f7 (Or.inl (hw _ (List.mem_of_getElem? (i := 63) rfl))) (hw _ (List.mem_of_getElem? (i := 12) rfl)) (ty := .int) (by decide) rfl rfl (g := (mkF m 40 #[.val (.ref sb), .val (.ref sa), .val (.int vn)] [(.int (cn + vn)), (.ref sb)])) rfl rfl (hb hby own_d6_40)
  have N16 := Fr.snoc X16 N5 gb
  have f17 := f6.wr W16
  have f18 := f7.wr W16
  have f19 := f8.other W16 (Or.inr (slot_ne (Or.inl (hw _ (List.mem_of_getElem? (i := 30) rfl))) (Or.inl (hw _ (List.mem_of_getElem? (i := 63) rfl))) (by decide) (t := (.array .byte)) (t' := .int) (by decide) (by decide)))
  have f20 := f9.other W16 (Or.inr (slot_ne (Or.inl (hw _ (List.mem_of_getElem? (i := 32) rfl))) (Or.inl (hw _ (List.mem_of_getElem? (i := 63) rfl))) (by decide) (t := .byte) (t' := .int) (by decide) (by decide)))
  have f21 := f10.same W16
  have f22 := f11.wr W16
  have f23 := f12.other W16 (Or.inl nsasb)
  have f24 := f13.other W16 (Or.inl nsasb)
  have f25 := f14.other W16 nvbsb
  have f26 := f5_0.other W16 (Ne.symm nsbva)
  have K16 := K5.wr W16 (Or.inl (List.mem_of_getElem? (i := 0) rfl))
  have Z16 := Nat.le_trans Z5 (Nat.le_of_eq W16.size.symm)
  refine Goes.go st16 ?_
  show Goes p e below _ T16 (mkF m 43 #[.val (.ref sb), .val (.ref sa), .val (.int vn)] [])
  refine own_aloadN X16 hx 44 rfl (hb hby own_d6_43) rfl rfl ?_
  refine own_retR X16 hx hlk Bd.returns rfl rfl (hb hby own_d6_44) (by decide) (by decide) e16 ?_
  exact ⟨rfl, N16, K16, f19, f20, f21, f26⟩
def QappG (Z : State) (sb : Addr) (sa : Addr) (cs : Int32) (va : Addr) (dn : Int32) (cn : Int32) (vb : Addr) (vk : ClassId) (vn : Int32) (vs : List Value) (mr : Int32) (h0 : Heap) (n0 : Nat) (v : Option Value) (h : Heap) (L : List Loc) : Prop := ∃ va2 : Addr, v = some (.ref sb) ∧ Fr n0 L ∧ Keep h0 h [sb] ∧ h0.size ≤ va2 ∧ Fld Z h sb "java/lang/AbstractStringBuilder" "value" "[B" (.ref va2) ∧ Fld Z h sb "java/lang/AbstractStringBuilder" "coder" "B" (.int (0 : Int32)) ∧ Fld Z h sb "java/lang/AbstractStringBuilder" "count" "I" (.int (cn + vn)) ∧ ByA Z h va2 (dn + mr)
set_option maxRecDepth 65536 in
set_option maxHeartbeats 40000000 in
theorem rmappG (l : Launch) (Z : State) (a0 : Array Value) (hw : ∀ d ∈ tables_1, d.before a0 Z = true) (ws : List Jvm.Cond) (sb : Addr) (sa : Addr) (cs : Int32) (va : Addr) (dn : Int32) (cn : Int32) (vb : Addr) (vk : ClassId) (vn : Int32) (vs : List Value) (mr : Int32) (h0 : Heap) (n0 : Nat) (Z0 : n0 ≤ h0.size) (Sc : Sta Z h0 "java/lang/String" "COMPACT_STRINGS" "Z" (.int cs)) (hcs : ¬ (cs = (0 : Int32))) (Eb : Exa Z h0 sb "java/lang/StringBuilder") (gb : n0 ≤ sb) (Fv : Fld Z h0 sb "java/lang/AbstractStringBuilder" "value" "[B" (.ref va)) (Fc : Fld Z h0 sb "java/lang/AbstractStringBuilder" "coder" "B" (.int (0 : Int32))) (Bv : ByA Z h0 va dn) (Fn : Fld Z h0 sb "java/lang/AbstractStringBuilder" "count" "I" (.int cn)) (gv_ : n0 ≤ va) (Es : Exa Z h0 sa "java/lang/String") (Fsc : Fld Z h0 sa "java/lang/String" "coder" "B" (.int (0 : Int32))) (Fsv : Fld Z h0 sa "java/lang/String" "value" "[B" (.ref vb)) (Avb : Arv Z h0 vb vk .byte vn vs (.int (0 : Int32))) (nsbva : sb ≠ va) (nsava : sa ≠ va) (nvbva : vb ≠ va) (nsasb : sa ≠ sb) (nvbsb : vb ≠ sb) (hgr : (0 : Int32) < ((cn + vn) - dn)) (hm : (if ((cn + vn) - dn) < (dn + (2 : Int32)) then (dn + (2 : Int32)) else ((cn + vn) - dn)) = mr) (hp : (0 : Int32) < (dn + mr)) (hs : ¬ ((2147483639 : Int32) < (dn + mr))) (hmx : ¬ ((dn + mr) = (2147483647 : Int32))) (hne : ¬ ((dn + mr) = dn)) (hn0 : ¬ ((dn + mr) < (0 : Int32))) (hcp : ((dn + mr)).toNatClampNeg ≤ 100) (hmi : ¬ ((dn + mr) < dn)) (hg0 : ¬ (cn < (0 : Int32))) (hg5 : (cn).toNatClampNeg + (vn).toNatClampNeg ≤ ((dn + mr)).toNatClampNeg) :
    MetFree l (⟨"java/lang/AbstractStringBuilder", "append", "(Ljava/lang/String;)Ljava/lang/AbstractStringBuilder;"⟩ : MethodName) (head1 (Jvm.Cond.code (⟨"java/lang/AbstractStringBuilder", "append", "(Ljava/lang/String;)Ljava/lang/AbstractStringBuilder;"⟩ : MethodName) jdk_68_method_22_code 3 (some (.object "java/lang/AbstractStringBuilder")) :: ws) ({ frames := 4, cells := 1, slots := 100, locals := 62 } : Room)) (fun a U => a = #[(.ref sb), (.ref sa)] ∧ Z.Warmed39 U.vm ∧ U.heap = h0) (fun _ _ _ _ _ => True) (fun _ U o U' => ∃ v L, o = .returned v ∧ QappG Z sb sa cs va dn cn vb vk vn vs mr h0 n0 v U'.heap L ∧ FrameEnd U o U' L ({ frames := 4, cells := 1, slots := 100, locals := 62 } : Room).cells ({ frames := 4, cells := 1, slots := 100, locals := 62 } : Room).slots) := by
  refine MetFree.of_bodySF (plainFor_of_name own_pn_java_lang_AbstractStringBuilder) hisR ?_
  intro p e s m args below meth c s₁ Bd hml0 hP hK
  obtain ⟨rfl, hZ, hh⟩ := hP
  have hx := Bd.exec
  have hby := Bd.bytes
  have hml : c.maxLocals = 3 := hml0
  have hlk := Bd.notSynchronized
  have hown : s.vm.findClass "java/lang/AbstractStringBuilder" = some m.cls := findClass_of_methodNamed Bd.named
  have hnm := (name_of_methodNamed Bd.named Bd.method).1
  have X0 : Stand p l e ({ frames := 4, cells := 1, slots := 100, locals := 62 } : Room) s m #[(.ref sb), (.ref sa)] below meth c s₁ [] 0 0 := Stand.of_body Bd
  have e0 : s₁.heap = h0 := by rw [← hh, Bd.state]; rfl
  have N0 := Fr.nil n0
  have K0 : Keep h0 h0 [sb] := Keep.refl _ _
  refine own_enter (P := (Done s ({ frames := 4, cells := 1, slots := 100, locals := 62 } : Room).cells ({ frames := 4, cells := 1, slots := 100, locals := 62 } : Room).slots (QappG Z sb sa cs va dn cn vb vk vn vs mr h0 n0))) (Ls := #[.val (.ref sb), .val (.ref sa), .unset]) (by first | (simp [entryFrame, mkF, argsToLocals, Value.category]; done) | rfl) ?_
  refine own_aloadN X0 hx 1 rfl (hb hby own_d6_0) rfl rfl ?_
  refine own_ifnonnullY X0 hx 9 (hb hby own_d6_1) (by decide) (by decide) ?_
  refine own_aloadN X0 hx 10 rfl (hb hby own_d6_9) rfl rfl ?_
  obtain ⟨cq1, kq1, q1a, q1b, q1c⟩ := isOf hZ e0 Es
  obtain ⟨_, _, ⟨T1, L1, k1, n1⟩, -, X1, ⟨Lc1, hQ1, l1, y1, z1⟩, st1⟩ := X0.virtualBack hx (y := (⟨"java/lang/String", "length", "()I"⟩ : MethodName)) (z := (⟨"java/lang/String", "length", "()I"⟩ : MethodName)) hown (mvT hZ (hw _ (List.mem_of_getElem? (i := 49) rfl))) (mvT hZ (hw _ (List.mem_of_getElem? (i := 50) rfl))) (notFace_of_selects (args := #[]) (mvT hZ (hw _ (List.mem_of_getElem? (i := 52) rfl)))) (mvT hZ (hw _ (List.mem_of_getElem? (i := 52) rfl))) (mvT hZ (hw _ (List.mem_of_getElem? (i := 51) rfl))) (by decide) (backOf (W := 0) (rm7 l Z a0 hw [] sa cs vb vk vn vs h0 n0 Z0 Sc hcs Es Fsc Fsv Avb) hZ (hw _ (List.mem_of_getElem? (i := 53) rfl)) (hw _ (List.mem_of_getElem? (i := 27) rfl)) (by decide) (by decide)) q1a q1c (g := (mkF m 10 #[.val (.ref sb), .val (.ref sa), .unset] [(.ref sa)])) rfl (by rw [hml]; rfl) (Steps.refl _) (argsL := []) (rest := []) (lenOf own_pd5 rfl) rfl (by show 2 * 0 + _ ≤ _; exact Nat.le_of_eq rfl) (hb hby own_d6_10) (fun _ _ => ⟨rfl, e0, (by decide : 0 + 0 ≤ _), (by decide : 0 + 0 ≤ _)⟩)
  dsimp only [Pt.U, Pt.locs, Pt.cells, Pt.slots] at X1 l1 y1 z1 st1 hQ1
  subst l1 y1 z1
  obtain ⟨rfl, N1q, eh1⟩ := hQ1
  have N1 := Fr.app N0 N1q
  refine Goes.tr st1 ?_
  show Goes p e below _ T1 (mkF m 13 #[.val (.ref sb), .val (.ref sa), .unset] [(.int vn)])
  refine own_istoreN X1 hx 14 rfl #[.val (.ref sb), .val (.ref sa), .val (.int vn)] (hb hby own_d6_13) rfl ?_
  refine own_aloadN X1 hx 15 rfl (hb hby own_d6_14) rfl rfl ?_
  refine own_aloadN X1 hx 16 rfl (hb hby own_d6_15) rfl rfl ?_
  obtain ⟨T2, X2, e2, st2⟩ := getF X1 hx hZ hown (host := "") (Or.inl (hw _ (List.mem_of_getElem? (i := 62) rfl))) Via.refl eh1 Fn (g := (mkF m 16 #[.val (.ref sb), .val (.ref sa), .val (.int vn)] [(.ref sb), (.ref sb)])) rfl rfl (hb hby own_d6_16)
  refine Goes.go st2 ?_
  show Goes p e below _ T2 (mkF m 19 #[.val (.ref sb), .val (.ref sa), .val (.int vn)] [(.int cn), (.ref sb)])
  refine own_iloadN X2 hx 20 rfl (hb hby own_d6_19) rfl ?_
  refine own_iadd X2 hx 21 rfl (hb hby own_d6_20) rfl ?_
  obtain ⟨cq3, q3, q3'⟩ := Eb.cell
  obtain ⟨_, _, ⟨T3, L3, k3, n3⟩, -, X3, ⟨Lc3, hQ3, l3, y3, z3⟩, st3⟩ := X2.privateBack hx (y := (⟨"java/lang/AbstractStringBuilder", "ensureCapacityInternal", "(I)V"⟩ : MethodName)) hown (mvT hZ (hw _ (List.mem_of_getElem? (i := 64) rfl))) (mvT hZ (hw _ (List.mem_of_getElem? (i := 65) rfl))) (own_selUp (mvT hZ (hw _ (List.mem_of_getElem? (i := 67) rfl))) (mvP hZ (hw _ (List.mem_of_getElem? (i := 66) rfl))) (mvT hZ (hw _ (List.mem_of_getElem? (i := 65) rfl))) (by decide)) (Cond.privateMethod_at (mvP hZ (hw _ (List.mem_of_getElem? (i := 66) rfl)) (args := #[]))) (mvT hZ (hw _ (List.mem_of_getElem? (i := 68) rfl))) (by decide) (backOf (W := 0) (rmensG l Z a0 hw [] sb (cn + vn) va dn cn mr h0 n0 Z0 Eb gb Fv Fc Bv Fn nsbva hgr hm hp hs hmx hne hn0 hcp hmi) hZ (hw _ (List.mem_of_getElem? (i := 68) rfl)) (hw _ (List.mem_of_getElem? (i := 21) rfl)) (by decide) (by decide)) (g := (mkF m 21 #[.val (.ref sb), .val (.ref sa), .val (.int vn)] [(.int (cn + vn)), (.ref sb)])) rfl (by rw [hml]; rfl) (Steps.refl _) (a := sb) (by rw [e2]; exact q3) q3' (argsL := [(.int (cn + vn))]) (rest := []) (lenOf own_pd4 rfl) rfl (by show 2 * 0 + _ ≤ _; exact Nat.le_of_eq rfl) (hb hby own_d6_21) (fun _ _ => ⟨rfl, e2, (by decide : 0 + 1 ≤ _), (by decide : 0 + 100 ≤ _)⟩)
  dsimp only [Pt.U, Pt.locs, Pt.cells, Pt.slots] at X3 l3 y3 z3 st3 hQ3
  subst l3 y3 z3
  obtain ⟨va2_3, rfl, N3q, K3q, f3_0, f3_1, f3_2, f3_3, f3_4⟩ := hQ3
  have N3 := Fr.app N1 N3q
  have ne4 : sb ≠ va2_3 := Nat.ne_of_lt (Nat.lt_of_lt_of_le Eb.lt f3_0)
  have ne5 : va ≠ va2_3 := Nat.ne_of_lt (Nat.lt_of_lt_of_le Bv.lt f3_0)
  have ne6 : sa ≠ va2_3 := Nat.ne_of_lt (Nat.lt_of_lt_of_le Es.lt f3_0)
  have ne7 : vb ≠ va2_3 := Nat.ne_of_lt (Nat.lt_of_lt_of_le Avb.lt f3_0)
  have GG8 : n0 ≤ va2_3 := Nat.le_trans Z0 f3_0
  have HG8 : h0.size ≤ va2_3 := Nat.le_trans K0.1 f3_0
  have f9 := own_sta_keep Sc K3q (allS (own_eplain Eb) all0)
  have f10 := Eb.keep K3q
  have f11 := Bv.keep K3q (ninS (Ne.symm nsbva) nin0)
  have f12 := Es.keep K3q
  have f13 := Fsc.keep K3q (ninS nsasb nin0)
  have f14 := Fsv.keep K3q (ninS nsasb nin0)
  have f15 := Avb.keep K3q (ninS nvbsb nin0)
  have K3 := K0.trans K3q (allS (Or.inl (List.mem_of_getElem? (i := 0) rfl)) all0)
  have Z3 := Nat.le_trans Z0 K3q.1
  refine Goes.tr st3 ?_
  show Goes p e below _ T3 (mkF m 24 #[.val (.ref sb), .val (.ref sa), .val (.int vn)] [])
  refine own_aloadN X3 hx 25 rfl (hb hby own_d6_24) rfl rfl ?_
  refine own_aloadN X3 hx 26 rfl (hb hby own_d6_25) rfl rfl ?_
  obtain ⟨T16, X16, e16, st16⟩ := getF X3 hx hZ hown (host := "") (Or.inl (hw _ (List.mem_of_getElem? (i := 62) rfl))) Via.refl rfl f3_3 (g := (mkF m 26 #[.val (.ref sb), .val (.ref sa), .val (.int vn)] [(.ref sb), (.ref sb)])) rfl rfl (hb hby own_d6_26)
  refine Goes.go st16 ?_
  show Goes p e below _ T16 (mkF m 29 #[.val (.ref sb), .val (.ref sa), .val (.int vn)] [(.int cn), (.ref sb)])
  refine own_aloadN X16 hx 30 rfl (hb hby own_d6_29) rfl rfl ?_
  obtain ⟨cq17, q17, q17'⟩ := f10.cell
  obtain ⟨_, _, ⟨T17, L17, k17, n17⟩, -, X17, ⟨Lc17, hQ17, l17, y17, z17⟩, st17⟩ := X16.privateBack hx (y := (⟨"java/lang/AbstractStringBuilder", "putStringAt", "(ILjava/lang/String;)V"⟩ : MethodName)) hown (mvT hZ (hw _ (List.mem_of_getElem? (i := 69) rfl))) (mvT hZ (hw _ (List.mem_of_getElem? (i := 70) rfl))) (own_selUp (mvT hZ (hw _ (List.mem_of_getElem? (i := 72) rfl))) (mvP hZ (hw _ (List.mem_of_getElem? (i := 71) rfl))) (mvT hZ (hw _ (List.mem_of_getElem? (i := 70) rfl))) (by decide)) (Cond.privateMethod_at (mvP hZ (hw _ (List.mem_of_getElem? (i := 71) rfl)) (args := #[]))) (mvT hZ (hw _ (List.mem_of_getElem? (i := 73) rfl))) (by decide) (backOf (W := 0) (rm10 l Z a0 hw [] sb cn sa cs vb vk vn vs va2_3 (dn + mr) T3.heap n0 Z3 f9 hcs f10 f3_1 f3_2 ne4 f12 f13 f14 f15 f3_4 GG8 ne6 ne7 hg0 hg5) hZ (hw _ (List.mem_of_getElem? (i := 73) rfl)) (hw _ (List.mem_of_getElem? (i := 21) rfl)) (by decide) (by decide)) (g := (mkF m 30 #[.val (.ref sb), .val (.ref sa), .val (.int vn)] [(.ref sa), (.int cn), (.ref sb)])) rfl (by rw [hml]; rfl) (Steps.refl _) (a := sb) (by rw [e16]; exact q17) q17' (argsL := [(.int cn), (.ref sa)]) (rest := []) (lenOf own_pd11 rfl) rfl (by show 2 * 0 + _ ≤ _; exact Nat.le_of_eq rfl) (hb hby own_d6_30) (fun _ _ => ⟨rfl, e16, (by decide : 1 + 0 ≤ _), (by decide : 100 + 0 ≤ _)⟩)
  dsimp only [Pt.U, Pt.locs, Pt.cells, Pt.slots] at X17 l17 y17 z17 st17 hQ17
  subst l17 y17 z17
  obtain ⟨rfl, N17q, K17q, f17_0⟩ := hQ17
  have N17 := Fr.app N3 N17q
  have f18 := own_sta_keep f9 K17q (allS f3_4.plain all0)
  have f19 := f10.keep K17q
  have f20 := f11.keep K17q (ninS ne5 nin0)
  have f21 := f12.keep K17q
  have f22 := f13.keep K17q (ninS ne6 nin0)
  have f23 := f14.keep K17q (ninS ne6 nin0)
  have f24 := f15.keep K17q (ninS ne7 nin0)
  have f25 := f3_1.keep K17q (ninS ne4 nin0)
  have f26 := f3_2.keep K17q (ninS ne4 nin0)
  have f27 := f3_3.keep K17q (ninS ne4 nin0)
  have K17 := K3.trans K17q (allS (Or.inr HG8) all0)
  have Z17 := Nat.le_trans Z3 K17q.1
  refine Goes.tr st17 ?_
  show Goes p e below _ T17 (mkF m 33 #[.val (.ref sb), .val (.ref sa), .val (.int vn)] [])
  refine own_aloadN X17 hx 34 rfl (hb hby own_d6_33) rfl rfl ?_
  refine own_dup X17 hx 35 rfl (hb hby own_d6_34) rfl ?_
  obtain ⟨T28, X28, e28, st28⟩ := getF X17 hx hZ hown (host := "") (Or.inl (hw _ (List.mem_of_getElem? (i := 62) rfl))) Via.refl rfl f27 (g := (mkF m 35 #[.val (.ref sb), .val (.ref sa), .val (.int vn)] [(.ref sb), (.ref sb)])) rfl rfl (hb hby own_d6_35)
  refine Goes.go st28 ?_
  show Goes p e below _ T28 (mkF m 38 #[.val (.ref sb), .val (.ref sa), .val (.int vn)] [(.int cn), (.ref sb)])
  refine own_iloadN X28 hx 39 rfl (hb hby own_d6_38) rfl ?_
  refine own_iadd X28 hx 40 rfl (hb hby own_d6_39) rfl ?_
  obtain ⟨T29, h29, X29, e29, W29, st29⟩ := putF X28 hx hZ hown (host := "") (Or.inl (hw _ (List.mem_of_getElem? (i := 62) rfl))) Via.refl e28 f27 f19 (Or.inl (hw _ (List.mem_of_getElem? (i := 63) rfl))) (hw _ (List.mem_of_getElem? (i := 12) rfl)) (ty := .int) (by decide) rfl rfl (g := (mkF m 40 #[.val (.ref sb), .val (.ref sa), .val (.int vn)] [(.int (cn + vn)), (.ref sb)])) rfl rfl (hb hby own_d6_40)
  have N29 := Fr.snoc X29 N17 gb
  have f30 := f18.wr W29
  have f31 := f19.wr W29
  have f32 := f20.other W29 (Ne.symm nsbva)
  have f33 := f21.wr W29
  have f34 := f22.other W29 (Or.inl nsasb)
  have f35 := f23.other W29 (Or.inl nsasb)
  have f36 := f24.other W29 nvbsb
  have f37 := f25.other W29 (Or.inr (slot_ne (Or.inl (hw _ (List.mem_of_getElem? (i := 30) rfl))) (Or.inl (hw _ (List.mem_of_getElem? (i := 63) rfl))) (by decide) (t := (.array .byte)) (t' := .int) (by decide) (by decide)))
  have f38 := f26.other W29 (Or.inr (slot_ne (Or.inl (hw _ (List.mem_of_getElem? (i := 32) rfl))) (Or.inl (hw _ (List.mem_of_getElem? (i := 63) rfl))) (by decide) (t := .byte) (t' := .int) (by decide) (by decide)))
  have f39 := f27.same W29
  have f40 := f17_0.other W29 (Ne.symm ne4)
  have K29 := K17.wr W29 (Or.inl (List.mem_of_getElem? (i := 0) rfl))
  have Z29 := Nat.le_trans Z17 (Nat.le_of_eq W29.size.symm)
  refine Goes.go st29 ?_
  show Goes p e below _ T29 (mkF m 43 #[.val (.ref sb), .val (.ref sa), .val (.int vn)] [])
  refine own_aloadN X29 hx 44 rfl (hb hby own_d6_43) rfl rfl ?_
  refine own_retR X29 hx hlk Bd.returns rfl rfl (hb hby own_d6_44) (by decide) (by decide) e29 ?_
  exact ⟨va2_3, rfl, N29, K29, HG8, f37, f38, f39, f40⟩
theorem own_pd12 : parseMethodDescriptor "(Ljava/lang/String;)Ljava/lang/AbstractStringBuilder;" = some ⟨[(.object "java/lang/String")], some (.object "java/lang/AbstractStringBuilder")⟩ := by decide +kernel
theorem own_d5_0 : decode jdk_67_method_7_code 0 = .ok (.aload_n 0, 1) := by decide +kernel
theorem own_d5_1 : decode jdk_67_method_7_code 1 = .ok (.aload_n 1, 1) := by decide +kernel
theorem own_d5_2 : decode jdk_67_method_7_code 2 = .ok (.invokespecial 29, 3) := by decide +kernel
theorem own_d5_5 : decode jdk_67_method_7_code 5 = .ok (.pop, 1) := by decide +kernel
theorem own_d5_6 : decode jdk_67_method_7_code 6 = .ok (.aload_n 0, 1) := by decide +kernel
theorem own_d5_7 : decode jdk_67_method_7_code 7 = .ok (.areturn, 1) := by decide +kernel
def QsapN (Z : State) (sb : Addr) (sa : Addr) (cs : Int32) (va : Addr) (dn : Int32) (cn : Int32) (vb : Addr) (vk : ClassId) (vn : Int32) (vs : List Value) (h0 : Heap) (n0 : Nat) (v : Option Value) (h : Heap) (L : List Loc) : Prop := v = some (.ref sb) ∧ Fr n0 L ∧ Keep h0 h [sb, va] ∧ Fld Z h sb "java/lang/AbstractStringBuilder" "value" "[B" (.ref va) ∧ Fld Z h sb "java/lang/AbstractStringBuilder" "coder" "B" (.int (0 : Int32)) ∧ Fld Z h sb "java/lang/AbstractStringBuilder" "count" "I" (.int (cn + vn)) ∧ ByA Z h va dn
set_option maxRecDepth 65536 in
set_option maxHeartbeats 40000000 in
theorem rmsapN (l : Launch) (Z : State) (a0 : Array Value) (hw : ∀ d ∈ tables_1, d.before a0 Z = true) (ws : List Jvm.Cond) (sb : Addr) (sa : Addr) (cs : Int32) (va : Addr) (dn : Int32) (cn : Int32) (vb : Addr) (vk : ClassId) (vn : Int32) (vs : List Value) (h0 : Heap) (n0 : Nat) (Z0 : n0 ≤ h0.size) (Sc : Sta Z h0 "java/lang/String" "COMPACT_STRINGS" "Z" (.int cs)) (hcs : ¬ (cs = (0 : Int32))) (Eb : Exa Z h0 sb "java/lang/StringBuilder") (gb : n0 ≤ sb) (Fv : Fld Z h0 sb "java/lang/AbstractStringBuilder" "value" "[B" (.ref va)) (Fc : Fld Z h0 sb "java/lang/AbstractStringBuilder" "coder" "B" (.int (0 : Int32))) (Bv : ByA Z h0 va dn) (Fn : Fld Z h0 sb "java/lang/AbstractStringBuilder" "count" "I" (.int cn)) (gv_ : n0 ≤ va) (Es : Exa Z h0 sa "java/lang/String") (Fsc : Fld Z h0 sa "java/lang/String" "coder" "B" (.int (0 : Int32))) (Fsv : Fld Z h0 sa "java/lang/String" "value" "[B" (.ref vb)) (Avb : Arv Z h0 vb vk .byte vn vs (.int (0 : Int32))) (nsbva : sb ≠ va) (nsava : sa ≠ va) (nvbva : vb ≠ va) (nsasb : sa ≠ sb) (nvbsb : vb ≠ sb) (hno : ¬ ((0 : Int32) < ((cn + vn) - dn))) (hg0 : ¬ (cn < (0 : Int32))) (hg5 : (cn).toNatClampNeg + (vn).toNatClampNeg ≤ (dn).toNatClampNeg) :
    MetFree l (⟨"java/lang/StringBuilder", "append", "(Ljava/lang/String;)Ljava/lang/StringBuilder;"⟩ : MethodName) (head1 (Jvm.Cond.code (⟨"java/lang/StringBuilder", "append", "(Ljava/lang/String;)Ljava/lang/StringBuilder;"⟩ : MethodName) jdk_67_method_7_code 2 (some (.object "java/lang/StringBuilder")) :: ws) ({ frames := 4, cells := 0, slots := 0, locals := 61 } : Room)) (fun a U => a = #[(.ref sb), (.ref sa)] ∧ Z.Warmed39 U.vm ∧ U.heap = h0) (fun _ _ _ _ _ => True) (fun _ U o U' => ∃ v L, o = .returned v ∧ QsapN Z sb sa cs va dn cn vb vk vn vs h0 n0 v U'.heap L ∧ FrameEnd U o U' L ({ frames := 4, cells := 0, slots := 0, locals := 61 } : Room).cells ({ frames := 4, cells := 0, slots := 0, locals := 61 } : Room).slots) := by
  refine MetFree.of_bodySF (plainFor_of_name own_pn_java_lang_StringBuilder) hisR ?_
  intro p e s m args below meth c s₁ Bd hml0 hP hK
  obtain ⟨rfl, hZ, hh⟩ := hP
  have hx := Bd.exec
  have hby := Bd.bytes
  have hml : c.maxLocals = 2 := hml0
  have hlk := Bd.notSynchronized
  have hown : s.vm.findClass "java/lang/StringBuilder" = some m.cls := findClass_of_methodNamed Bd.named
  have hnm := (name_of_methodNamed Bd.named Bd.method).1
  have X0 : Stand p l e ({ frames := 4, cells := 0, slots := 0, locals := 61 } : Room) s m #[(.ref sb), (.ref sa)] below meth c s₁ [] 0 0 := Stand.of_body Bd
  have e0 : s₁.heap = h0 := by rw [← hh, Bd.state]; rfl
  have N0 := Fr.nil n0
  have K0 : Keep h0 h0 [sb, va] := Keep.refl _ _
  refine own_enter (P := (Done s ({ frames := 4, cells := 0, slots := 0, locals := 61 } : Room).cells ({ frames := 4, cells := 0, slots := 0, locals := 61 } : Room).slots (QsapN Z sb sa cs va dn cn vb vk vn vs h0 n0))) (Ls := #[.val (.ref sb), .val (.ref sa)]) (by first | (simp [entryFrame, mkF, argsToLocals, Value.category]; done) | rfl) ?_
  refine own_aloadN X0 hx 1 rfl (hb hby own_d5_0) rfl rfl ?_
  refine own_aloadN X0 hx 2 rfl (hb hby own_d5_1) rfl rfl ?_
  obtain ⟨_, _, ⟨T1, L1, k1, n1⟩, -, X1, ⟨Lc1, hQ1, l1, y1, z1⟩, st1⟩ := superBack X0 hx hZ (y := (⟨"java/lang/AbstractStringBuilder", "append", "(Ljava/lang/String;)Ljava/lang/AbstractStringBuilder;"⟩ : MethodName)) hown (hw _ (List.mem_of_getElem? (i := 44) rfl)) (own_sameM (y := (⟨"java/lang/AbstractStringBuilder", "append", "(Ljava/lang/String;)Ljava/lang/AbstractStringBuilder;"⟩ : MethodName)) (own_nface (y := (⟨"java/lang/AbstractStringBuilder", "ensureCapacityInternal", "(I)V"⟩ : MethodName)) (hw _ (List.mem_of_getElem? (i := 67) rfl))) (hw _ (List.mem_of_getElem? (i := 45) rfl)) (by decide)) (hw _ (List.mem_of_getElem? (i := 45) rfl)) (hw _ (List.mem_of_getElem? (i := 46) rfl)) (by decide) (backOf (W := 0) (rmappN l Z a0 hw [] sb sa cs va dn cn vb vk vn vs h0 n0 Z0 Sc hcs Eb gb Fv Fc Bv Fn gv_ Es Fsc Fsv Avb nsbva nsava nvbva nsasb nvbsb hno hg0 hg5) hZ (hw _ (List.mem_of_getElem? (i := 48) rfl)) (hw _ (List.mem_of_getElem? (i := 21) rfl)) (by decide) (by decide)) e0 (Ins.self Eb) (g := (mkF m 2 #[.val (.ref sb), .val (.ref sa)] [(.ref sa), (.ref sb)])) rfl (by rw [hml]; rfl) (hw _ (List.mem_of_getElem? (i := 48) rfl)) (argsL := [(.ref sa)]) (rest := []) (lenOf own_pd12 rfl) rfl (by show 2 * 0 + _ ≤ _; exact Nat.le_of_eq rfl) (hb hby own_d5_2) (fun _ _ => ⟨rfl, e0, (by decide : 0 + 0 ≤ _), (by decide : 0 + 0 ≤ _)⟩)
  dsimp only [Pt.U, Pt.locs, Pt.cells, Pt.slots] at X1 l1 y1 z1 st1 hQ1
  subst l1 y1 z1
  obtain ⟨rfl, N1q, K1q, f1_0, f1_1, f1_2, f1_3⟩ := hQ1
  have N1 := Fr.app N0 N1q
  have f2 := own_sta_keep Sc K1q (allS (own_eplain Eb) (allS Bv.plain all0))
  have f3 := Eb.keep K1q
  have f4 := Es.keep K1q
  have f5 := Fsc.keep K1q (ninS nsasb (ninS nsava nin0))
  have f6 := Fsv.keep K1q (ninS nsasb (ninS nsava nin0))
  have f7 := Avb.keep K1q (ninS nvbsb (ninS nvbva nin0))
  have K1 := K0.trans K1q (allS (Or.inl (List.mem_of_getElem? (i := 0) rfl)) (allS (Or.inl (List.mem_of_getElem? (i := 1) rfl)) all0))
  have Z1 := Nat.le_trans Z0 K1q.1
  refine Goes.tr st1 ?_
  show Goes p e below _ T1 (mkF m 5 #[.val (.ref sb), .val (.ref sa)] [(.ref sb)])
  refine own_pop X1 hx 6 rfl (hb hby own_d5_5) rfl ?_
  refine own_aloadN X1 hx 7 rfl (hb hby own_d5_6) rfl rfl ?_
  refine own_retR X1 hx hlk Bd.returns rfl rfl (hb hby own_d5_7) (by decide) (by decide) rfl ?_
  exact ⟨rfl, N1, K1, f1_0, f1_1, f1_2, f1_3⟩
def QsapG (Z : State) (sb : Addr) (sa : Addr) (cs : Int32) (va : Addr) (dn : Int32) (cn : Int32) (vb : Addr) (vk : ClassId) (vn : Int32) (vs : List Value) (mr : Int32) (h0 : Heap) (n0 : Nat) (v : Option Value) (h : Heap) (L : List Loc) : Prop := ∃ va2 : Addr, v = some (.ref sb) ∧ Fr n0 L ∧ Keep h0 h [sb] ∧ h0.size ≤ va2 ∧ Fld Z h sb "java/lang/AbstractStringBuilder" "value" "[B" (.ref va2) ∧ Fld Z h sb "java/lang/AbstractStringBuilder" "coder" "B" (.int (0 : Int32)) ∧ Fld Z h sb "java/lang/AbstractStringBuilder" "count" "I" (.int (cn + vn)) ∧ ByA Z h va2 (dn + mr)
set_option maxRecDepth 65536 in
set_option maxHeartbeats 40000000 in
theorem rmsapG (l : Launch) (Z : State) (a0 : Array Value) (hw : ∀ d ∈ tables_1, d.before a0 Z = true) (ws : List Jvm.Cond) (sb : Addr) (sa : Addr) (cs : Int32) (va : Addr) (dn : Int32) (cn : Int32) (vb : Addr) (vk : ClassId) (vn : Int32) (vs : List Value) (mr : Int32) (h0 : Heap) (n0 : Nat) (Z0 : n0 ≤ h0.size) (Sc : Sta Z h0 "java/lang/String" "COMPACT_STRINGS" "Z" (.int cs)) (hcs : ¬ (cs = (0 : Int32))) (Eb : Exa Z h0 sb "java/lang/StringBuilder") (gb : n0 ≤ sb) (Fv : Fld Z h0 sb "java/lang/AbstractStringBuilder" "value" "[B" (.ref va)) (Fc : Fld Z h0 sb "java/lang/AbstractStringBuilder" "coder" "B" (.int (0 : Int32))) (Bv : ByA Z h0 va dn) (Fn : Fld Z h0 sb "java/lang/AbstractStringBuilder" "count" "I" (.int cn)) (gv_ : n0 ≤ va) (Es : Exa Z h0 sa "java/lang/String") (Fsc : Fld Z h0 sa "java/lang/String" "coder" "B" (.int (0 : Int32))) (Fsv : Fld Z h0 sa "java/lang/String" "value" "[B" (.ref vb)) (Avb : Arv Z h0 vb vk .byte vn vs (.int (0 : Int32))) (nsbva : sb ≠ va) (nsava : sa ≠ va) (nvbva : vb ≠ va) (nsasb : sa ≠ sb) (nvbsb : vb ≠ sb) (hgr : (0 : Int32) < ((cn + vn) - dn)) (hm : (if ((cn + vn) - dn) < (dn + (2 : Int32)) then (dn + (2 : Int32)) else ((cn + vn) - dn)) = mr) (hp : (0 : Int32) < (dn + mr)) (hs : ¬ ((2147483639 : Int32) < (dn + mr))) (hmx : ¬ ((dn + mr) = (2147483647 : Int32))) (hne : ¬ ((dn + mr) = dn)) (hn0 : ¬ ((dn + mr) < (0 : Int32))) (hcp : ((dn + mr)).toNatClampNeg ≤ 100) (hmi : ¬ ((dn + mr) < dn)) (hg0 : ¬ (cn < (0 : Int32))) (hg5 : (cn).toNatClampNeg + (vn).toNatClampNeg ≤ ((dn + mr)).toNatClampNeg) :
    MetFree l (⟨"java/lang/StringBuilder", "append", "(Ljava/lang/String;)Ljava/lang/StringBuilder;"⟩ : MethodName) (head1 (Jvm.Cond.code (⟨"java/lang/StringBuilder", "append", "(Ljava/lang/String;)Ljava/lang/StringBuilder;"⟩ : MethodName) jdk_67_method_7_code 2 (some (.object "java/lang/StringBuilder")) :: ws) ({ frames := 5, cells := 1, slots := 100, locals := 76 } : Room)) (fun a U => a = #[(.ref sb), (.ref sa)] ∧ Z.Warmed39 U.vm ∧ U.heap = h0) (fun _ _ _ _ _ => True) (fun _ U o U' => ∃ v L, o = .returned v ∧ QsapG Z sb sa cs va dn cn vb vk vn vs mr h0 n0 v U'.heap L ∧ FrameEnd U o U' L ({ frames := 5, cells := 1, slots := 100, locals := 76 } : Room).cells ({ frames := 5, cells := 1, slots := 100, locals := 76 } : Room).slots) := by
  refine MetFree.of_bodySF (plainFor_of_name own_pn_java_lang_StringBuilder) hisR ?_
  intro p e s m args below meth c s₁ Bd hml0 hP hK
  obtain ⟨rfl, hZ, hh⟩ := hP
  have hx := Bd.exec
  have hby := Bd.bytes
  have hml : c.maxLocals = 2 := hml0
  have hlk := Bd.notSynchronized
  have hown : s.vm.findClass "java/lang/StringBuilder" = some m.cls := findClass_of_methodNamed Bd.named
  have hnm := (name_of_methodNamed Bd.named Bd.method).1
  have X0 : Stand p l e ({ frames := 5, cells := 1, slots := 100, locals := 76 } : Room) s m #[(.ref sb), (.ref sa)] below meth c s₁ [] 0 0 := Stand.of_body Bd
  have e0 : s₁.heap = h0 := by rw [← hh, Bd.state]; rfl
  have N0 := Fr.nil n0
  have K0 : Keep h0 h0 [sb] := Keep.refl _ _
  refine own_enter (P := (Done s ({ frames := 5, cells := 1, slots := 100, locals := 76 } : Room).cells ({ frames := 5, cells := 1, slots := 100, locals := 76 } : Room).slots (QsapG Z sb sa cs va dn cn vb vk vn vs mr h0 n0))) (Ls := #[.val (.ref sb), .val (.ref sa)]) (by first | (simp [entryFrame, mkF, argsToLocals, Value.category]; done) | rfl) ?_
  refine own_aloadN X0 hx 1 rfl (hb hby own_d5_0) rfl rfl ?_
  refine own_aloadN X0 hx 2 rfl (hb hby own_d5_1) rfl rfl ?_
  obtain ⟨_, _, ⟨T1, L1, k1, n1⟩, -, X1, ⟨Lc1, hQ1, l1, y1, z1⟩, st1⟩ := superBack X0 hx hZ (y := (⟨"java/lang/AbstractStringBuilder", "append", "(Ljava/lang/String;)Ljava/lang/AbstractStringBuilder;"⟩ : MethodName)) hown (hw _ (List.mem_of_getElem? (i := 44) rfl)) (own_sameM (y := (⟨"java/lang/AbstractStringBuilder", "append", "(Ljava/lang/String;)Ljava/lang/AbstractStringBuilder;"⟩ : MethodName)) (own_nface (y := (⟨"java/lang/AbstractStringBuilder", "ensureCapacityInternal", "(I)V"⟩ : MethodName)) (hw _ (List.mem_of_getElem? (i := 67) rfl))) (hw _ (List.mem_of_getElem? (i := 45) rfl)) (by decide)) (hw _ (List.mem_of_getElem? (i := 45) rfl)) (hw _ (List.mem_of_getElem? (i := 46) rfl)) (by decide) (backOf (W := 0) (rmappG l Z a0 hw [] sb sa cs va dn cn vb vk vn vs mr h0 n0 Z0 Sc hcs Eb gb Fv Fc Bv Fn gv_ Es Fsc Fsv Avb nsbva nsava nvbva nsasb nvbsb hgr hm hp hs hmx hne hn0 hcp hmi hg0 hg5) hZ (hw _ (List.mem_of_getElem? (i := 48) rfl)) (hw _ (List.mem_of_getElem? (i := 21) rfl)) (by decide) (by decide)) e0 (Ins.self Eb) (g := (mkF m 2 #[.val (.ref sb), .val (.ref sa)] [(.ref sa), (.ref sb)])) rfl (by rw [hml]; rfl) (hw _ (List.mem_of_getElem? (i := 48) rfl)) (argsL := [(.ref sa)]) (rest := []) (lenOf own_pd12 rfl) rfl (by show 2 * 0 + _ ≤ _; exact Nat.le_of_eq rfl) (hb hby own_d5_2) (fun _ _ => ⟨rfl, e0, (by decide : 0 + 1 ≤ _), (by decide : 0 + 100 ≤ _)⟩)
  dsimp only [Pt.U, Pt.locs, Pt.cells, Pt.slots] at X1 l1 y1 z1 st1 hQ1
  subst l1 y1 z1
  obtain ⟨va2_1, rfl, N1q, K1q, f1_0, f1_1, f1_2, f1_3, f1_4⟩ := hQ1
  have N1 := Fr.app N0 N1q
  have ne2 : sb ≠ va2_1 := Nat.ne_of_lt (Nat.lt_of_lt_of_le Eb.lt f1_0)
  have ne3 : va ≠ va2_1 := Nat.ne_of_lt (Nat.lt_of_lt_of_le Bv.lt f1_0)
  have ne4 : sa ≠ va2_1 := Nat.ne_of_lt (Nat.lt_of_lt_of_le Es.lt f1_0)
  have ne5 : vb ≠ va2_1 := Nat.ne_of_lt (Nat.lt_of_lt_of_le Avb.lt f1_0)
  have GG6 : n0 ≤ va2_1 := Nat.le_trans Z0 f1_0
  have HG6 : h0.size ≤ va2_1 := Nat.le_trans K0.1 f1_0
  have f7 := own_sta_keep Sc K1q (allS (own_eplain Eb) all0)
  have f8 := Eb.keep K1q
  have f9 := Bv.keep K1q (ninS (Ne.symm nsbva) nin0)
  have f10 := Es.keep K1q
  have f11 := Fsc.keep K1q (ninS nsasb nin0)
  have f12 := Fsv.keep K1q (ninS nsasb nin0)
  have f13 := Avb.keep K1q (ninS nvbsb nin0)
  have K1 := K0.trans K1q (allS (Or.inl (List.mem_of_getElem? (i := 0) rfl)) all0)
  have Z1 := Nat.le_trans Z0 K1q.1
  refine Goes.tr st1 ?_
  show Goes p e below _ T1 (mkF m 5 #[.val (.ref sb), .val (.ref sa)] [(.ref sb)])
  refine own_pop X1 hx 6 rfl (hb hby own_d5_5) rfl ?_
  refine own_aloadN X1 hx 7 rfl (hb hby own_d5_6) rfl rfl ?_
  refine own_retR X1 hx hlk Bd.returns rfl rfl (hb hby own_d5_7) (by decide) (by decide) rfl ?_
  exact ⟨va2_1, rfl, N1, K1, HG6, f1_1, f1_2, f1_3, f1_4⟩
theorem own_d15_0 : decode jdk_33_method_13_code 0 = .ok (.iconst 1, 1) := by decide +kernel
theorem own_d15_1 : decode jdk_33_method_13_code 1 = .ok (.istore_n 1, 1) := by decide +kernel
theorem own_d15_2 : decode jdk_33_method_13_code 2 = .ok (.iload_n 0, 1) := by decide +kernel
theorem own_d15_3 : decode jdk_33_method_13_code 3 = .ok (.ifCond .lt 8, 3) := by decide +kernel
theorem own_d15_6 : decode jdk_33_method_13_code 6 = .ok (.iconst 0, 1) := by decide +kernel
theorem own_d15_7 : decode jdk_33_method_13_code 7 = .ok (.istore_n 1, 1) := by decide +kernel
theorem own_d15_8 : decode jdk_33_method_13_code 8 = .ok (.iload_n 0, 1) := by decide +kernel
theorem own_d15_9 : decode jdk_33_method_13_code 9 = .ok (.ineg, 1) := by decide +kernel
theorem own_d15_10 : decode jdk_33_method_13_code 10 = .ok (.istore_n 0, 1) := by decide +kernel
theorem own_d15_11 : decode jdk_33_method_13_code 11 = .ok (.bipush (-10), 2) := by decide +kernel
theorem own_d15_13 : decode jdk_33_method_13_code 13 = .ok (.istore_n 2, 1) := by decide +kernel
theorem own_d15_14 : decode jdk_33_method_13_code 14 = .ok (.iconst 1, 1) := by decide +kernel
theorem own_d15_15 : decode jdk_33_method_13_code 15 = .ok (.istore_n 3, 1) := by decide +kernel
theorem own_d15_16 : decode jdk_33_method_13_code 16 = .ok (.iload_n 3, 1) := by decide +kernel
theorem own_d15_17 : decode jdk_33_method_13_code 17 = .ok (.bipush 10, 2) := by decide +kernel
theorem own_d15_19 : decode jdk_33_method_13_code 19 = .ok (.if_icmp .ge 23, 3) := by decide +kernel
theorem own_d15_22 : decode jdk_33_method_13_code 22 = .ok (.iload_n 0, 1) := by decide +kernel
theorem own_d15_23 : decode jdk_33_method_13_code 23 = .ok (.iload_n 2, 1) := by decide +kernel
theorem own_d15_24 : decode jdk_33_method_13_code 24 = .ok (.if_icmp .le 7, 3) := by decide +kernel
theorem own_d15_27 : decode jdk_33_method_13_code 27 = .ok (.iload_n 3, 1) := by decide +kernel
theorem own_d15_28 : decode jdk_33_method_13_code 28 = .ok (.iload_n 1, 1) := by decide +kernel
theorem own_d15_29 : decode jdk_33_method_13_code 29 = .ok (.iadd, 1) := by decide +kernel
theorem own_d15_30 : decode jdk_33_method_13_code 30 = .ok (.ireturn, 1) := by decide +kernel
theorem own_d15_31 : decode jdk_33_method_13_code 31 = .ok (.bipush 10, 2) := by decide +kernel
theorem own_d15_33 : decode jdk_33_method_13_code 33 = .ok (.iload_n 2, 1) := by decide +kernel
theorem own_d15_34 : decode jdk_33_method_13_code 34 = .ok (.imul, 1) := by decide +kernel
theorem own_d15_35 : decode jdk_33_method_13_code 35 = .ok (.istore_n 2, 1) := by decide +kernel
theorem own_d15_36 : decode jdk_33_method_13_code 36 = .ok (.iinc 3 1, 3) := by decide +kernel
theorem own_d15_39 : decode jdk_33_method_13_code 39 = .ok (.goto (-23), 3) := by decide +kernel
theorem own_d15_42 : decode jdk_33_method_13_code 42 = .ok (.bipush 10, 2) := by decide +kernel
theorem own_d15_44 : decode jdk_33_method_13_code 44 = .ok (.iload_n 1, 1) := by decide +kernel
theorem own_d15_45 : decode jdk_33_method_13_code 45 = .ok (.iadd, 1) := by decide +kernel
theorem own_d15_46 : decode jdk_33_method_13_code 46 = .ok (.ireturn, 1) := by decide +kernel
theorem own_pn_java_lang_Integer : plainName "java/lang/Integer" = true := by first | (simp [plainName, overriddenIn]; done) | decide +kernel
def Q15 (Z : State) (zx : Int32) (sz : Int32) (h0 : Heap) (n0 : Nat) (v : Option Value) (h : Heap) (L : List Loc) : Prop := v = some (.int sz) ∧ Fr n0 L ∧ h = h0
set_option maxRecDepth 65536 in
set_option maxHeartbeats 40000000 in
theorem rm15 (l : Launch) (Z : State) (a0 : Array Value) (hw : ∀ d ∈ tables_1, d.before a0 Z = true) (ws : List Jvm.Cond) (zx : Int32) (sz : Int32) (h0 : Heap) (n0 : Nat) (Z0 : n0 ≤ h0.size) (hsz : own_size zx = sz) :
    MetFree l (⟨"java/lang/Integer", "stringSize", "(I)I"⟩ : MethodName) (head1 (Jvm.Cond.code (⟨"java/lang/Integer", "stringSize", "(I)I"⟩ : MethodName) jdk_33_method_13_code 4 (some .int) :: ws) ({ frames := 0, cells := 0, slots := 0, locals := 0 } : Room)) (fun a U => a = #[(.int zx)] ∧ Z.Warmed39 U.vm ∧ U.heap = h0) (fun _ _ _ _ _ => True) (fun _ U o U' => ∃ v L, o = .returned v ∧ Q15 Z zx sz h0 n0 v U'.heap L ∧ FrameEnd U o U' L ({ frames := 0, cells := 0, slots := 0, locals := 0 } : Room).cells ({ frames := 0, cells := 0, slots := 0, locals := 0 } : Room).slots) := by
  refine MetFree.of_bodySF (plainFor_of_name own_pn_java_lang_Integer) hisR ?_
  intro p e s m args below meth c s₁ Bd hml0 hP hK
  obtain ⟨rfl, hZ, hh⟩ := hP
  have hx := Bd.exec
  have hby := Bd.bytes
  have hml : c.maxLocals = 4 := hml0
  have hlk := Bd.notSynchronized
  have hown : s.vm.findClass "java/lang/Integer" = some m.cls := findClass_of_methodNamed Bd.named
  have hnm := (name_of_methodNamed Bd.named Bd.method).1
  have X0 : Stand p l e ({ frames := 0, cells := 0, slots := 0, locals := 0 } : Room) s m #[(.int zx)] below meth c s₁ [] 0 0 := Stand.of_body Bd
  have e0 : s₁.heap = h0 := by rw [← hh, Bd.state]; rfl
  have N0 := Fr.nil n0
  refine own_enter (P := (Done s ({ frames := 0, cells := 0, slots := 0, locals := 0 } : Room).cells ({ frames := 0, cells := 0, slots := 0, locals := 0 } : Room).slots (Q15 Z zx sz h0 n0))) (Ls := #[.val (.int zx), .unset, .unset, .unset]) (by first | (simp [entryFrame, mkF, argsToLocals, Value.category]; done) | rfl) ?_
  refine own_iconst X0 hx 1 rfl (1 : Int32) (hb hby own_d15_0) (by decide) ?_
  refine own_istoreN X0 hx 2 rfl #[.val (.int zx), .val (.int (1 : Int32)), .unset, .unset] (hb hby own_d15_1) rfl ?_
  refine own_iloadN X0 hx 3 rfl (hb hby own_d15_2) rfl ?_
  by_cases hc3_1 : zx < (0 : Int32)
  · refine own_ifY X0 hx 11 (hb hby own_d15_3) ((if0 _ _).trans (tlt hc3_1).1) (by decide) (by decide) ?_
    refine own_bipush X0 hx 13 rfl (-10 : Int32) (hb hby own_d15_11) (by decide) ?_
    refine own_istoreN X0 hx 14 rfl #[.val (.int zx), .val (.int (1 : Int32)), .val (.int (-10 : Int32)), .unset] (hb hby own_d15_13) rfl ?_
    refine own_iconst X0 hx 15 rfl (1 : Int32) (hb hby own_d15_14) (by decide) ?_
    refine own_istoreN X0 hx 16 rfl #[.val (.int zx), .val (.int (1 : Int32)), .val (.int (-10 : Int32)), .val (.int (1 : Int32))] (hb hby own_d15_15) rfl ?_
    refine own_iloadN X0 hx 17 rfl (hb hby own_d15_16) rfl ?_
    refine own_bipush X0 hx 19 rfl (10 : Int32) (hb hby own_d15_17) (by decide) ?_
    refine own_icmpN X0 hx 22 (hb hby own_d15_19) (tlt ((by decide) : (1 : Int32) < (10 : Int32))).2.1 rfl ?_
    refine own_iloadN X0 hx 23 rfl (hb hby own_d15_22) rfl ?_
    refine own_iloadN X0 hx 24 rfl (hb hby own_d15_23) rfl ?_
    by_cases hc24_2 : (-10 : Int32) < zx
    · refine own_icmpN X0 hx 27 (hb hby own_d15_24) (tlt hc24_2).2.2.2 rfl ?_
      refine own_iloadN X0 hx 28 rfl (hb hby own_d15_27) rfl ?_
      refine own_iloadN X0 hx 29 rfl (hb hby own_d15_28) rfl ?_
      refine own_iadd X0 hx 30 rfl (z := (2 : Int32)) (hb hby own_d15_29) (by decide) ?_
      refine own_retI X0 hx hlk Bd.returns (hb hby own_d15_30) (by decide) (by decide) e0 ?_
      exact ⟨(congrArg (fun z => some (Value.int z)) (Eq.trans (by rw [own_size, if_pos hc3_1, own_sizeN, if_pos hc24_2] <;> decide) hsz)), N0, rfl⟩
    · refine own_icmpY X0 hx 31 (hb hby own_d15_24) (flt hc24_2).2.2.2 (by decide) (by decide) ?_
      refine own_bipush X0 hx 33 rfl (10 : Int32) (hb hby own_d15_31) (by decide) ?_
      refine own_iloadN X0 hx 34 rfl (hb hby own_d15_33) rfl ?_
      refine own_imul X0 hx 35 rfl (z := (-100 : Int32)) (hb hby own_d15_34) (by decide) ?_
      refine own_istoreN X0 hx 36 rfl #[.val (.int zx), .val (.int (1 : Int32)), .val (.int (-100 : Int32)), .val (.int (1 : Int32))] (hb hby own_d15_35) rfl ?_
      refine own_iinc X0 hx 39 rfl #[.val (.int zx), .val (.int (1 : Int32)), .val (.int (-100 : Int32)), .val (.int (2 : Int32))] (hb hby own_d15_36) rfl (by decide) rfl ?_
      refine own_goto X0 hx 16 (hb hby own_d15_39) (by decide) (by decide) ?_
      refine own_iloadN X0 hx 17 rfl (hb hby own_d15_16) rfl ?_
      refine own_bipush X0 hx 19 rfl (10 : Int32) (hb hby own_d15_17) (by decide) ?_
      refine own_icmpN X0 hx 22 (hb hby own_d15_19) (tlt ((by decide) : (2 : Int32) < (10 : Int32))).2.1 rfl ?_
      refine own_iloadN X0 hx 23 rfl (hb hby own_d15_22) rfl ?_
      refine own_iloadN X0 hx 24 rfl (hb hby own_d15_23) rfl ?_
      by_cases hc24_3 : (-100 : Int32) < zx
      · refine own_icmpN X0 hx 27 (hb hby own_d15_24) (tlt hc24_3).2.2.2 rfl ?_
        refine own_iloadN X0 hx 28 rfl (hb hby own_d15_27) rfl ?_
        refine own_iloadN X0 hx 29 rfl (hb hby own_d15_28) rfl ?_
        refine own_iadd X0 hx 30 rfl (z := (3 : Int32)) (hb hby own_d15_29) (by decide) ?_
        refine own_retI X0 hx hlk Bd.returns (hb hby own_d15_30) (by decide) (by decide) e0 ?_
        exact ⟨(congrArg (fun z => some (Value.int z)) (Eq.trans (by rw [own_size, if_pos hc3_1, own_sizeN, if_neg hc24_2, if_pos hc24_3] <;> decide) hsz)), N0, rfl⟩
      · refine own_icmpY X0 hx 31 (hb hby own_d15_24) (flt hc24_3).2.2.2 (by decide) (by decide) ?_
        refine own_bipush X0 hx 33 rfl (10 : Int32) (hb hby own_d15_31) (by decide) ?_
        refine own_iloadN X0 hx 34 rfl (hb hby own_d15_33) rfl ?_
        refine own_imul X0 hx 35 rfl (z := (-1000 : Int32)) (hb hby own_d15_34) (by decide) ?_
        refine own_istoreN X0 hx 36 rfl #[.val (.int zx), .val (.int (1 : Int32)), .val (.int (-1000 : Int32)), .val (.int (2 : Int32))] (hb hby own_d15_35) rfl ?_
        refine own_iinc X0 hx 39 rfl #[.val (.int zx), .val (.int (1 : Int32)), .val (.int (-1000 : Int32)), .val (.int (3 : Int32))] (hb hby own_d15_36) rfl (by decide) rfl ?_
        refine own_goto X0 hx 16 (hb hby own_d15_39) (by decide) (by decide) ?_
        refine own_iloadN X0 hx 17 rfl (hb hby own_d15_16) rfl ?_
        refine own_bipush X0 hx 19 rfl (10 : Int32) (hb hby own_d15_17) (by decide) ?_
        refine own_icmpN X0 hx 22 (hb hby own_d15_19) (tlt ((by decide) : (3 : Int32) < (10 : Int32))).2.1 rfl ?_
        refine own_iloadN X0 hx 23 rfl (hb hby own_d15_22) rfl ?_
        refine own_iloadN X0 hx 24 rfl (hb hby own_d15_23) rfl ?_
        by_cases hc24_4 : (-1000 : Int32) < zx
        · refine own_icmpN X0 hx 27 (hb hby own_d15_24) (tlt hc24_4).2.2.2 rfl ?_
          refine own_iloadN X0 hx 28 rfl (hb hby own_d15_27) rfl ?_
          refine own_iloadN X0 hx 29 rfl (hb hby own_d15_28) rfl ?_
          refine own_iadd X0 hx 30 rfl (z := (4 : Int32)) (hb hby own_d15_29) (by decide) ?_
          refine own_retI X0 hx hlk Bd.returns (hb hby own_d15_30) (by decide) (by decide) e0 ?_
          exact ⟨(congrArg (fun z => some (Value.int z)) (Eq.trans (by rw [own_size, if_pos hc3_1, own_sizeN, if_neg hc24_2, if_neg hc24_3, if_pos hc24_4] <;> decide) hsz)), N0, rfl⟩
        · refine own_icmpY X0 hx 31 (hb hby own_d15_24) (flt hc24_4).2.2.2 (by decide) (by decide) ?_
          refine own_bipush X0 hx 33 rfl (10 : Int32) (hb hby own_d15_31) (by decide) ?_
          refine own_iloadN X0 hx 34 rfl (hb hby own_d15_33) rfl ?_
          refine own_imul X0 hx 35 rfl (z := (-10000 : Int32)) (hb hby own_d15_34) (by decide) ?_
          refine own_istoreN X0 hx 36 rfl #[.val (.int zx), .val (.int (1 : Int32)), .val (.int (-10000 : Int32)), .val (.int (3 : Int32))] (hb hby own_d15_35) rfl ?_
          refine own_iinc X0 hx 39 rfl #[.val (.int zx), .val (.int (1 : Int32)), .val (.int (-10000 : Int32)), .val (.int (4 : Int32))] (hb hby own_d15_36) rfl (by decide) rfl ?_
          refine own_goto X0 hx 16 (hb hby own_d15_39) (by decide) (by decide) ?_
          refine own_iloadN X0 hx 17 rfl (hb hby own_d15_16) rfl ?_
          refine own_bipush X0 hx 19 rfl (10 : Int32) (hb hby own_d15_17) (by decide) ?_
          refine own_icmpN X0 hx 22 (hb hby own_d15_19) (tlt ((by decide) : (4 : Int32) < (10 : Int32))).2.1 rfl ?_
          refine own_iloadN X0 hx 23 rfl (hb hby own_d15_22) rfl ?_
          refine own_iloadN X0 hx 24 rfl (hb hby own_d15_23) rfl ?_
          by_cases hc24_5 : (-10000 : Int32) < zx
          · refine own_icmpN X0 hx 27 (hb hby own_d15_24) (tlt hc24_5).2.2.2 rfl ?_
            refine own_iloadN X0 hx 28 rfl (hb hby own_d15_27) rfl ?_
            refine own_iloadN X0 hx 29 rfl (hb hby own_d15_28) rfl ?_
            refine own_iadd X0 hx 30 rfl (z := (5 : Int32)) (hb hby own_d15_29) (by decide) ?_
            refine own_retI X0 hx hlk Bd.returns (hb hby own_d15_30) (by decide) (by decide) e0 ?_
            exact ⟨(congrArg (fun z => some (Value.int z)) (Eq.trans (by rw [own_size, if_pos hc3_1, own_sizeN, if_neg hc24_2, if_neg hc24_3, if_neg hc24_4, if_pos hc24_5] <;> decide) hsz)), N0, rfl⟩
          · refine own_icmpY X0 hx 31 (hb hby own_d15_24) (flt hc24_5).2.2.2 (by decide) (by decide) ?_
            refine own_bipush X0 hx 33 rfl (10 : Int32) (hb hby own_d15_31) (by decide) ?_
            refine own_iloadN X0 hx 34 rfl (hb hby own_d15_33) rfl ?_
            refine own_imul X0 hx 35 rfl (z := (-100000 : Int32)) (hb hby own_d15_34) (by decide) ?_
            refine own_istoreN X0 hx 36 rfl #[.val (.int zx), .val (.int (1 : Int32)), .val (.int (-100000 : Int32)), .val (.int (4 : Int32))] (hb hby own_d15_35) rfl ?_
            refine own_iinc X0 hx 39 rfl #[.val (.int zx), .val (.int (1 : Int32)), .val (.int (-100000 : Int32)), .val (.int (5 : Int32))] (hb hby own_d15_36) rfl (by decide) rfl ?_
            refine own_goto X0 hx 16 (hb hby own_d15_39) (by decide) (by decide) ?_
            refine own_iloadN X0 hx 17 rfl (hb hby own_d15_16) rfl ?_
            refine own_bipush X0 hx 19 rfl (10 : Int32) (hb hby own_d15_17) (by decide) ?_
            refine own_icmpN X0 hx 22 (hb hby own_d15_19) (tlt ((by decide) : (5 : Int32) < (10 : Int32))).2.1 rfl ?_
            refine own_iloadN X0 hx 23 rfl (hb hby own_d15_22) rfl ?_
            refine own_iloadN X0 hx 24 rfl (hb hby own_d15_23) rfl ?_
            by_cases hc24_6 : (-100000 : Int32) < zx
            · refine own_icmpN X0 hx 27 (hb hby own_d15_24) (tlt hc24_6).2.2.2 rfl ?_
              refine own_iloadN X0 hx 28 rfl (hb hby own_d15_27) rfl ?_
              refine own_iloadN X0 hx 29 rfl (hb hby own_d15_28) rfl ?_
              refine own_iadd X0 hx 30 rfl (z := (6 : Int32)) (hb hby own_d15_29) (by decide) ?_
              refine own_retI X0 hx hlk Bd.returns (hb hby own_d15_30) (by decide) (by decide) e0 ?_
              exact ⟨(congrArg (fun z => some (Value.int z)) (Eq.trans (by rw [own_size, if_pos hc3_1, own_sizeN, if_neg hc24_2, if_neg hc24_3, if_neg hc24_4, if_neg hc24_5, if_pos hc24_6] <;> decide) hsz)), N0, rfl⟩
            · refine own_icmpY X0 hx 31 (hb hby own_d15_24) (flt hc24_6).2.2.2 (by decide) (by decide) ?_
              refine own_bipush X0 hx 33 rfl (10 : Int32) (hb hby own_d15_31) (by decide) ?_
              refine own_iloadN X0 hx 34 rfl (hb hby own_d15_33) rfl ?_
              refine own_imul X0 hx 35 rfl (z := (-1000000 : Int32)) (hb hby own_d15_34) (by decide) ?_
              refine own_istoreN X0 hx 36 rfl #[.val (.int zx), .val (.int (1 : Int32)), .val (.int (-1000000 : Int32)), .val (.int (5 : Int32))] (hb hby own_d15_35) rfl ?_
              refine own_iinc X0 hx 39 rfl #[.val (.int zx), .val (.int (1 : Int32)), .val (.int (-1000000 : Int32)), .val (.int (6 : Int32))] (hb hby own_d15_36) rfl (by decide) rfl ?_
              refine own_goto X0 hx 16 (hb hby own_d15_39) (by decide) (by decide) ?_
              refine own_iloadN X0 hx 17 rfl (hb hby own_d15_16) rfl ?_
              refine own_bipush X0 hx 19 rfl (10 : Int32) (hb hby own_d15_17) (by decide) ?_
              refine own_icmpN X0 hx 22 (hb hby own_d15_19) (tlt ((by decide) : (6 : Int32) < (10 : Int32))).2.1 rfl ?_
              refine own_iloadN X0 hx 23 rfl (hb hby own_d15_22) rfl ?_
              refine own_iloadN X0 hx 24 rfl (hb hby own_d15_23) rfl ?_
              by_cases hc24_7 : (-1000000 : Int32) < zx
              · refine own_icmpN X0 hx 27 (hb hby own_d15_24) (tlt hc24_7).2.2.2 rfl ?_
                refine own_iloadN X0 hx 28 rfl (hb hby own_d15_27) rfl ?_
                refine own_iloadN X0 hx 29 rfl (hb hby own_d15_28) rfl ?_
                refine own_iadd X0 hx 30 rfl (z := (7 : Int32)) (hb hby own_d15_29) (by decide) ?_
                refine own_retI X0 hx hlk Bd.returns (hb hby own_d15_30) (by decide) (by decide) e0 ?_
                exact ⟨(congrArg (fun z => some (Value.int z)) (Eq.trans (by rw [own_size, if_pos hc3_1, own_sizeN, if_neg hc24_2, if_neg hc24_3, if_neg hc24_4, if_neg hc24_5, if_neg hc24_6, if_pos hc24_7] <;> decide) hsz)), N0, rfl⟩
              · refine own_icmpY X0 hx 31 (hb hby own_d15_24) (flt hc24_7).2.2.2 (by decide) (by decide) ?_
                refine own_bipush X0 hx 33 rfl (10 : Int32) (hb hby own_d15_31) (by decide) ?_
                refine own_iloadN X0 hx 34 rfl (hb hby own_d15_33) rfl ?_
                refine own_imul X0 hx 35 rfl (z := (-10000000 : Int32)) (hb hby own_d15_34) (by decide) ?_
                refine own_istoreN X0 hx 36 rfl #[.val (.int zx), .val (.int (1 : Int32)), .val (.int (-10000000 : Int32)), .val (.int (6 : Int32))] (hb hby own_d15_35) rfl ?_
                refine own_iinc X0 hx 39 rfl #[.val (.int zx), .val (.int (1 : Int32)), .val (.int (-10000000 : Int32)), .val (.int (7 : Int32))] (hb hby own_d15_36) rfl (by decide) rfl ?_
                refine own_goto X0 hx 16 (hb hby own_d15_39) (by decide) (by decide) ?_
                refine own_iloadN X0 hx 17 rfl (hb hby own_d15_16) rfl ?_
                refine own_bipush X0 hx 19 rfl (10 : Int32) (hb hby own_d15_17) (by decide) ?_
                refine own_icmpN X0 hx 22 (hb hby own_d15_19) (tlt ((by decide) : (7 : Int32) < (10 : Int32))).2.1 rfl ?_
                refine own_iloadN X0 hx 23 rfl (hb hby own_d15_22) rfl ?_
                refine own_iloadN X0 hx 24 rfl (hb hby own_d15_23) rfl ?_
                by_cases hc24_8 : (-10000000 : Int32) < zx
                · refine own_icmpN X0 hx 27 (hb hby own_d15_24) (tlt hc24_8).2.2.2 rfl ?_
                  refine own_iloadN X0 hx 28 rfl (hb hby own_d15_27) rfl ?_
                  refine own_iloadN X0 hx 29 rfl (hb hby own_d15_28) rfl ?_
                  refine own_iadd X0 hx 30 rfl (z := (8 : Int32)) (hb hby own_d15_29) (by decide) ?_
                  refine own_retI X0 hx hlk Bd.returns (hb hby own_d15_30) (by decide) (by decide) e0 ?_
                  exact ⟨(congrArg (fun z => some (Value.int z)) (Eq.trans (by rw [own_size, if_pos hc3_1, own_sizeN, if_neg hc24_2, if_neg hc24_3, if_neg hc24_4, if_neg hc24_5, if_neg hc24_6, if_neg hc24_7, if_pos hc24_8] <;> decide) hsz)), N0, rfl⟩
                · refine own_icmpY X0 hx 31 (hb hby own_d15_24) (flt hc24_8).2.2.2 (by decide) (by decide) ?_
                  refine own_bipush X0 hx 33 rfl (10 : Int32) (hb hby own_d15_31) (by decide) ?_
                  refine own_iloadN X0 hx 34 rfl (hb hby own_d15_33) rfl ?_
                  refine own_imul X0 hx 35 rfl (z := (-100000000 : Int32)) (hb hby own_d15_34) (by decide) ?_
                  refine own_istoreN X0 hx 36 rfl #[.val (.int zx), .val (.int (1 : Int32)), .val (.int (-100000000 : Int32)), .val (.int (7 : Int32))] (hb hby own_d15_35) rfl ?_
                  refine own_iinc X0 hx 39 rfl #[.val (.int zx), .val (.int (1 : Int32)), .val (.int (-100000000 : Int32)), .val (.int (8 : Int32))] (hb hby own_d15_36) rfl (by decide) rfl ?_
                  refine own_goto X0 hx 16 (hb hby own_d15_39) (by decide) (by decide) ?_
                  refine own_iloadN X0 hx 17 rfl (hb hby own_d15_16) rfl ?_
                  refine own_bipush X0 hx 19 rfl (10 : Int32) (hb hby own_d15_17) (by decide) ?_
                  refine own_icmpN X0 hx 22 (hb hby own_d15_19) (tlt ((by decide) : (8 : Int32) < (10 : Int32))).2.1 rfl ?_
                  refine own_iloadN X0 hx 23 rfl (hb hby own_d15_22) rfl ?_
                  refine own_iloadN X0 hx 24 rfl (hb hby own_d15_23) rfl ?_
                  by_cases hc24_9 : (-100000000 : Int32) < zx
                  · refine own_icmpN X0 hx 27 (hb hby own_d15_24) (tlt hc24_9).2.2.2 rfl ?_
                    refine own_iloadN X0 hx 28 rfl (hb hby own_d15_27) rfl ?_
                    refine own_iloadN X0 hx 29 rfl (hb hby own_d15_28) rfl ?_
                    refine own_iadd X0 hx 30 rfl (z := (9 : Int32)) (hb hby own_d15_29) (by decide) ?_
                    refine own_retI X0 hx hlk Bd.returns (hb hby own_d15_30) (by decide) (by decide) e0 ?_
                    exact ⟨(congrArg (fun z => some (Value.int z)) (Eq.trans (by rw [own_size, if_pos hc3_1, own_sizeN, if_neg hc24_2, if_neg hc24_3, if_neg hc24_4, if_neg hc24_5, if_neg hc24_6, if_neg hc24_7, if_neg hc24_8, if_pos hc24_9] <;> decide) hsz)), N0, rfl⟩
                  · refine own_icmpY X0 hx 31 (hb hby own_d15_24) (flt hc24_9).2.2.2 (by decide) (by decide) ?_
                    refine own_bipush X0 hx 33 rfl (10 : Int32) (hb hby own_d15_31) (by decide) ?_
                    refine own_iloadN X0 hx 34 rfl (hb hby own_d15_33) rfl ?_
                    refine own_imul X0 hx 35 rfl (z := (-1000000000 : Int32)) (hb hby own_d15_34) (by decide) ?_
                    refine own_istoreN X0 hx 36 rfl #[.val (.int zx), .val (.int (1 : Int32)), .val (.int (-1000000000 : Int32)), .val (.int (8 : Int32))] (hb hby own_d15_35) rfl ?_
                    refine own_iinc X0 hx 39 rfl #[.val (.int zx), .val (.int (1 : Int32)), .val (.int (-1000000000 : Int32)), .val (.int (9 : Int32))] (hb hby own_d15_36) rfl (by decide) rfl ?_
                    refine own_goto X0 hx 16 (hb hby own_d15_39) (by decide) (by decide) ?_
                    refine own_iloadN X0 hx 17 rfl (hb hby own_d15_16) rfl ?_
                    refine own_bipush X0 hx 19 rfl (10 : Int32) (hb hby own_d15_17) (by decide) ?_
                    refine own_icmpN X0 hx 22 (hb hby own_d15_19) (tlt ((by decide) : (9 : Int32) < (10 : Int32))).2.1 rfl ?_
                    refine own_iloadN X0 hx 23 rfl (hb hby own_d15_22) rfl ?_
                    refine own_iloadN X0 hx 24 rfl (hb hby own_d15_23) rfl ?_
                    by_cases hc24_10 : (-1000000000 : Int32) < zx
                    · refine own_icmpN X0 hx 27 (hb hby own_d15_24) (tlt hc24_10).2.2.2 rfl ?_
                      refine own_iloadN X0 hx 28 rfl (hb hby own_d15_27) rfl ?_
                      refine own_iloadN X0 hx 29 rfl (hb hby own_d15_28) rfl ?_
                      refine own_iadd X0 hx 30 rfl (z := (10 : Int32)) (hb hby own_d15_29) (by decide) ?_
                      refine own_retI X0 hx hlk Bd.returns (hb hby own_d15_30) (by decide) (by decide) e0 ?_
                      exact ⟨(congrArg (fun z => some (Value.int z)) (Eq.trans (by rw [own_size, if_pos hc3_1, own_sizeN, if_neg hc24_2, if_neg hc24_3, if_neg hc24_4, if_neg hc24_5, if_neg hc24_6, if_neg hc24_7, if_neg hc24_8, if_neg hc24_9, if_pos hc24_10] <;> decide) hsz)), N0, rfl⟩
                    · refine own_icmpY X0 hx 31 (hb hby own_d15_24) (flt hc24_10).2.2.2 (by decide) (by decide) ?_
                      refine own_bipush X0 hx 33 rfl (10 : Int32) (hb hby own_d15_31) (by decide) ?_
                      refine own_iloadN X0 hx 34 rfl (hb hby own_d15_33) rfl ?_
                      refine own_imul X0 hx 35 rfl (z := (-1410065408 : Int32)) (hb hby own_d15_34) (by decide) ?_
                      refine own_istoreN X0 hx 36 rfl #[.val (.int zx), .val (.int (1 : Int32)), .val (.int (-1410065408 : Int32)), .val (.int (9 : Int32))] (hb hby own_d15_35) rfl ?_
                      refine own_iinc X0 hx 39 rfl #[.val (.int zx), .val (.int (1 : Int32)), .val (.int (-1410065408 : Int32)), .val (.int (10 : Int32))] (hb hby own_d15_36) rfl (by decide) rfl ?_
                      refine own_goto X0 hx 16 (hb hby own_d15_39) (by decide) (by decide) ?_
                      refine own_iloadN X0 hx 17 rfl (hb hby own_d15_16) rfl ?_
                      refine own_bipush X0 hx 19 rfl (10 : Int32) (hb hby own_d15_17) (by decide) ?_
                      refine own_icmpY X0 hx 42 (hb hby own_d15_19) (flt ((by decide) : ¬ ((10 : Int32) < (10 : Int32)))).2.1 (by decide) (by decide) ?_
                      refine own_bipush X0 hx 44 rfl (10 : Int32) (hb hby own_d15_42) (by decide) ?_
                      refine own_iloadN X0 hx 45 rfl (hb hby own_d15_44) rfl ?_
                      refine own_iadd X0 hx 46 rfl (z := (11 : Int32)) (hb hby own_d15_45) (by decide) ?_
                      refine own_retI X0 hx hlk Bd.returns (hb hby own_d15_46) (by decide) (by decide) e0 ?_
                      exact ⟨(congrArg (fun z => some (Value.int z)) (Eq.trans (by rw [own_size, if_pos hc3_1, own_sizeN, if_neg hc24_2, if_neg hc24_3, if_neg hc24_4, if_neg hc24_5, if_neg hc24_6, if_neg hc24_7, if_neg hc24_8, if_neg hc24_9, if_neg hc24_10] <;> decide) hsz)), N0, rfl⟩
  · refine own_ifN X0 hx 6 (hb hby own_d15_3) ((if0 _ _).trans (flt hc3_1).1) rfl ?_
    refine own_iconst X0 hx 7 rfl (0 : Int32) (hb hby own_d15_6) (by decide) ?_
    refine own_istoreN X0 hx 8 rfl #[.val (.int zx), .val (.int (0 : Int32)), .unset, .unset] (hb hby own_d15_7) rfl ?_
    refine own_iloadN X0 hx 9 rfl (hb hby own_d15_8) rfl ?_
    refine own_ineg X0 hx 10 rfl (hb hby own_d15_9) rfl ?_
    refine own_istoreN X0 hx 11 rfl #[.val (.int (-zx)), .val (.int (0 : Int32)), .unset, .unset] (hb hby own_d15_10) rfl ?_
    refine own_bipush X0 hx 13 rfl (-10 : Int32) (hb hby own_d15_11) (by decide) ?_
    refine own_istoreN X0 hx 14 rfl #[.val (.int (-zx)), .val (.int (0 : Int32)), .val (.int (-10 : Int32)), .unset] (hb hby own_d15_13) rfl ?_
    refine own_iconst X0 hx 15 rfl (1 : Int32) (hb hby own_d15_14) (by decide) ?_
    refine own_istoreN X0 hx 16 rfl #[.val (.int (-zx)), .val (.int (0 : Int32)), .val (.int (-10 : Int32)), .val (.int (1 : Int32))] (hb hby own_d15_15) rfl ?_
    refine own_iloadN X0 hx 17 rfl (hb hby own_d15_16) rfl ?_
    refine own_bipush X0 hx 19 rfl (10 : Int32) (hb hby own_d15_17) (by decide) ?_
    refine own_icmpN X0 hx 22 (hb hby own_d15_19) (tlt ((by decide) : (1 : Int32) < (10 : Int32))).2.1 rfl ?_
    refine own_iloadN X0 hx 23 rfl (hb hby own_d15_22) rfl ?_
    refine own_iloadN X0 hx 24 rfl (hb hby own_d15_23) rfl ?_
    by_cases hc24_11 : (-10 : Int32) < (-zx)
    · refine own_icmpN X0 hx 27 (hb hby own_d15_24) (tlt hc24_11).2.2.2 rfl ?_
      refine own_iloadN X0 hx 28 rfl (hb hby own_d15_27) rfl ?_
      refine own_iloadN X0 hx 29 rfl (hb hby own_d15_28) rfl ?_
      refine own_iadd X0 hx 30 rfl (z := (1 : Int32)) (hb hby own_d15_29) (by decide) ?_
      refine own_retI X0 hx hlk Bd.returns (hb hby own_d15_30) (by decide) (by decide) e0 ?_
      exact ⟨(congrArg (fun z => some (Value.int z)) (Eq.trans (by rw [own_size, if_neg hc3_1, own_sizeN, if_pos hc24_11] <;> decide) hsz)), N0, rfl⟩
    · refine own_icmpY X0 hx 31 (hb hby own_d15_24) (flt hc24_11).2.2.2 (by decide) (by decide) ?_
      refine own_bipush X0 hx 33 rfl (10 : Int32) (hb hby own_d15_31) (by decide) ?_
      refine own_iloadN X0 hx 34 rfl (hb hby own_d15_33) rfl ?_
      refine own_imul X0 hx 35 rfl (z := (-100 : Int32)) (hb hby own_d15_34) (by decide) ?_
      refine own_istoreN X0 hx 36 rfl #[.val (.int (-zx)), .val (.int (0 : Int32)), .val (.int (-100 : Int32)), .val (.int (1 : Int32))] (hb hby own_d15_35) rfl ?_
      refine own_iinc X0 hx 39 rfl #[.val (.int (-zx)), .val (.int (0 : Int32)), .val (.int (-100 : Int32)), .val (.int (2 : Int32))] (hb hby own_d15_36) rfl (by decide) rfl ?_
      refine own_goto X0 hx 16 (hb hby own_d15_39) (by decide) (by decide) ?_
      refine own_iloadN X0 hx 17 rfl (hb hby own_d15_16) rfl ?_
      refine own_bipush X0 hx 19 rfl (10 : Int32) (hb hby own_d15_17) (by decide) ?_
      refine own_icmpN X0 hx 22 (hb hby own_d15_19) (tlt ((by decide) : (2 : Int32) < (10 : Int32))).2.1 rfl ?_
      refine own_iloadN X0 hx 23 rfl (hb hby own_d15_22) rfl ?_
      refine own_iloadN X0 hx 24 rfl (hb hby own_d15_23) rfl ?_
      by_cases hc24_12 : (-100 : Int32) < (-zx)
      · refine own_icmpN X0 hx 27 (hb hby own_d15_24) (tlt hc24_12).2.2.2 rfl ?_
        refine own_iloadN X0 hx 28 rfl (hb hby own_d15_27) rfl ?_
        refine own_iloadN X0 hx 29 rfl (hb hby own_d15_28) rfl ?_
        refine own_iadd X0 hx 30 rfl (z := (2 : Int32)) (hb hby own_d15_29) (by decide) ?_
        refine own_retI X0 hx hlk Bd.returns (hb hby own_d15_30) (by decide) (by decide) e0 ?_
        exact ⟨(congrArg (fun z => some (Value.int z)) (Eq.trans (by rw [own_size, if_neg hc3_1, own_sizeN, if_neg hc24_11, if_pos hc24_12] <;> decide) hsz)), N0, rfl⟩
      · refine own_icmpY X0 hx 31 (hb hby own_d15_24) (flt hc24_12).2.2.2 (by decide) (by decide) ?_
        refine own_bipush X0 hx 33 rfl (10 : Int32) (hb hby own_d15_31) (by decide) ?_
        refine own_iloadN X0 hx 34 rfl (hb hby own_d15_33) rfl ?_
        refine own_imul X0 hx 35 rfl (z := (-1000 : Int32)) (hb hby own_d15_34) (by decide) ?_
        refine own_istoreN X0 hx 36 rfl #[.val (.int (-zx)), .val (.int (0 : Int32)), .val (.int (-1000 : Int32)), .val (.int (2 : Int32))] (hb hby own_d15_35) rfl ?_
        refine own_iinc X0 hx 39 rfl #[.val (.int (-zx)), .val (.int (0 : Int32)), .val (.int (-1000 : Int32)), .val (.int (3 : Int32))] (hb hby own_d15_36) rfl (by decide) rfl ?_
        refine own_goto X0 hx 16 (hb hby own_d15_39) (by decide) (by decide) ?_
        refine own_iloadN X0 hx 17 rfl (hb hby own_d15_16) rfl ?_
        refine own_bipush X0 hx 19 rfl (10 : Int32) (hb hby own_d15_17) (by decide) ?_
        refine own_icmpN X0 hx 22 (hb hby own_d15_19) (tlt ((by decide) : (3 : Int32) < (10 : Int32))).2.1 rfl ?_
        refine own_iloadN X0 hx 23 rfl (hb hby own_d15_22) rfl ?_
        refine own_iloadN X0 hx 24 rfl (hb hby own_d15_23) rfl ?_
        by_cases hc24_13 : (-1000 : Int32) < (-zx)
        · refine own_icmpN X0 hx 27 (hb hby own_d15_24) (tlt hc24_13).2.2.2 rfl ?_
          refine own_iloadN X0 hx 28 rfl (hb hby own_d15_27) rfl ?_
          refine own_iloadN X0 hx 29 rfl (hb hby own_d15_28) rfl ?_
          refine own_iadd X0 hx 30 rfl (z := (3 : Int32)) (hb hby own_d15_29) (by decide) ?_
          refine own_retI X0 hx hlk Bd.returns (hb hby own_d15_30) (by decide) (by decide) e0 ?_
          exact ⟨(congrArg (fun z => some (Value.int z)) (Eq.trans (by rw [own_size, if_neg hc3_1, own_sizeN, if_neg hc24_11, if_neg hc24_12, if_pos hc24_13] <;> decide) hsz)), N0, rfl⟩
        · refine own_icmpY X0 hx 31 (hb hby own_d15_24) (flt hc24_13).2.2.2 (by decide) (by decide) ?_
          refine own_bipush X0 hx 33 rfl (10 : Int32) (hb hby own_d15_31) (by decide) ?_
          refine own_iloadN X0 hx 34 rfl (hb hby own_d15_33) rfl ?_
          refine own_imul X0 hx 35 rfl (z := (-10000 : Int32)) (hb hby own_d15_34) (by decide) ?_
          refine own_istoreN X0 hx 36 rfl #[.val (.int (-zx)), .val (.int (0 : Int32)), .val (.int (-10000 : Int32)), .val (.int (3 : Int32))] (hb hby own_d15_35) rfl ?_
          refine own_iinc X0 hx 39 rfl #[.val (.int (-zx)), .val (.int (0 : Int32)), .val (.int (-10000 : Int32)), .val (.int (4 : Int32))] (hb hby own_d15_36) rfl (by decide) rfl ?_
          refine own_goto X0 hx 16 (hb hby own_d15_39) (by decide) (by decide) ?_
          refine own_iloadN X0 hx 17 rfl (hb hby own_d15_16) rfl ?_
          refine own_bipush X0 hx 19 rfl (10 : Int32) (hb hby own_d15_17) (by decide) ?_
          refine own_icmpN X0 hx 22 (hb hby own_d15_19) (tlt ((by decide) : (4 : Int32) < (10 : Int32))).2.1 rfl ?_
          refine own_iloadN X0 hx 23 rfl (hb hby own_d15_22) rfl ?_
          refine own_iloadN X0 hx 24 rfl (hb hby own_d15_23) rfl ?_
          by_cases hc24_14 : (-10000 : Int32) < (-zx)
          · refine own_icmpN X0 hx 27 (hb hby own_d15_24) (tlt hc24_14).2.2.2 rfl ?_
            refine own_iloadN X0 hx 28 rfl (hb hby own_d15_27) rfl ?_
            refine own_iloadN X0 hx 29 rfl (hb hby own_d15_28) rfl ?_
            refine own_iadd X0 hx 30 rfl (z := (4 : Int32)) (hb hby own_d15_29) (by decide) ?_
            refine own_retI X0 hx hlk Bd.returns (hb hby own_d15_30) (by decide) (by decide) e0 ?_
            exact ⟨(congrArg (fun z => some (Value.int z)) (Eq.trans (by rw [own_size, if_neg hc3_1, own_sizeN, if_neg hc24_11, if_neg hc24_12, if_neg hc24_13, if_pos hc24_14] <;> decide) hsz)), N0, rfl⟩
          · refine own_icmpY X0 hx 31 (hb hby own_d15_24) (flt hc24_14).2.2.2 (by decide) (by decide) ?_
            refine own_bipush X0 hx 33 rfl (10 : Int32) (hb hby own_d15_31) (by decide) ?_
            refine own_iloadN X0 hx 34 rfl (hb hby own_d15_33) rfl ?_
            refine own_imul X0 hx 35 rfl (z := (-100000 : Int32)) (hb hby own_d15_34) (by decide) ?_
            refine own_istoreN X0 hx 36 rfl #[.val (.int (-zx)), .val (.int (0 : Int32)), .val (.int (-100000 : Int32)), .val (.int (4 : Int32))] (hb hby own_d15_35) rfl ?_
            refine own_iinc X0 hx 39 rfl #[.val (.int (-zx)), .val (.int (0 : Int32)), .val (.int (-100000 : Int32)), .val (.int (5 : Int32))] (hb hby own_d15_36) rfl (by decide) rfl ?_
            refine own_goto X0 hx 16 (hb hby own_d15_39) (by decide) (by decide) ?_
            refine own_iloadN X0 hx 17 rfl (hb hby own_d15_16) rfl ?_
            refine own_bipush X0 hx 19 rfl (10 : Int32) (hb hby own_d15_17) (by decide) ?_
            refine own_icmpN X0 hx 22 (hb hby own_d15_19) (tlt ((by decide) : (5 : Int32) < (10 : Int32))).2.1 rfl ?_
            refine own_iloadN X0 hx 23 rfl (hb hby own_d15_22) rfl ?_
            refine own_iloadN X0 hx 24 rfl (hb hby own_d15_23) rfl ?_
            by_cases hc24_15 : (-100000 : Int32) < (-zx)
            · refine own_icmpN X0 hx 27 (hb hby own_d15_24) (tlt hc24_15).2.2.2 rfl ?_
              refine own_iloadN X0 hx 28 rfl (hb hby own_d15_27) rfl ?_
              refine own_iloadN X0 hx 29 rfl (hb hby own_d15_28) rfl ?_
              refine own_iadd X0 hx 30 rfl (z := (5 : Int32)) (hb hby own_d15_29) (by decide) ?_
              refine own_retI X0 hx hlk Bd.returns (hb hby own_d15_30) (by decide) (by decide) e0 ?_
              exact ⟨(congrArg (fun z => some (Value.int z)) (Eq.trans (by rw [own_size, if_neg hc3_1, own_sizeN, if_neg hc24_11, if_neg hc24_12, if_neg hc24_13, if_neg hc24_14, if_pos hc24_15] <;> decide) hsz)), N0, rfl⟩
            · refine own_icmpY X0 hx 31 (hb hby own_d15_24) (flt hc24_15).2.2.2 (by decide) (by decide) ?_
              refine own_bipush X0 hx 33 rfl (10 : Int32) (hb hby own_d15_31) (by decide) ?_
              refine own_iloadN X0 hx 34 rfl (hb hby own_d15_33) rfl ?_
              refine own_imul X0 hx 35 rfl (z := (-1000000 : Int32)) (hb hby own_d15_34) (by decide) ?_
              refine own_istoreN X0 hx 36 rfl #[.val (.int (-zx)), .val (.int (0 : Int32)), .val (.int (-1000000 : Int32)), .val (.int (5 : Int32))] (hb hby own_d15_35) rfl ?_
              refine own_iinc X0 hx 39 rfl #[.val (.int (-zx)), .val (.int (0 : Int32)), .val (.int (-1000000 : Int32)), .val (.int (6 : Int32))] (hb hby own_d15_36) rfl (by decide) rfl ?_
              refine own_goto X0 hx 16 (hb hby own_d15_39) (by decide) (by decide) ?_
              refine own_iloadN X0 hx 17 rfl (hb hby own_d15_16) rfl ?_
              refine own_bipush X0 hx 19 rfl (10 : Int32) (hb hby own_d15_17) (by decide) ?_
              refine own_icmpN X0 hx 22 (hb hby own_d15_19) (tlt ((by decide) : (6 : Int32) < (10 : Int32))).2.1 rfl ?_
              refine own_iloadN X0 hx 23 rfl (hb hby own_d15_22) rfl ?_
              refine own_iloadN X0 hx 24 rfl (hb hby own_d15_23) rfl ?_
              by_cases hc24_16 : (-1000000 : Int32) < (-zx)
              · refine own_icmpN X0 hx 27 (hb hby own_d15_24) (tlt hc24_16).2.2.2 rfl ?_
                refine own_iloadN X0 hx 28 rfl (hb hby own_d15_27) rfl ?_
                refine own_iloadN X0 hx 29 rfl (hb hby own_d15_28) rfl ?_
                refine own_iadd X0 hx 30 rfl (z := (6 : Int32)) (hb hby own_d15_29) (by decide) ?_
                refine own_retI X0 hx hlk Bd.returns (hb hby own_d15_30) (by decide) (by decide) e0 ?_
                exact ⟨(congrArg (fun z => some (Value.int z)) (Eq.trans (by rw [own_size, if_neg hc3_1, own_sizeN, if_neg hc24_11, if_neg hc24_12, if_neg hc24_13, if_neg hc24_14, if_neg hc24_15, if_pos hc24_16] <;> decide) hsz)), N0, rfl⟩
              · refine own_icmpY X0 hx 31 (hb hby own_d15_24) (flt hc24_16).2.2.2 (by decide) (by decide) ?_
                refine own_bipush X0 hx 33 rfl (10 : Int32) (hb hby own_d15_31) (by decide) ?_
                refine own_iloadN X0 hx 34 rfl (hb hby own_d15_33) rfl ?_
                refine own_imul X0 hx 35 rfl (z := (-10000000 : Int32)) (hb hby own_d15_34) (by decide) ?_
                refine own_istoreN X0 hx 36 rfl #[.val (.int (-zx)), .val (.int (0 : Int32)), .val (.int (-10000000 : Int32)), .val (.int (6 : Int32))] (hb hby own_d15_35) rfl ?_
                refine own_iinc X0 hx 39 rfl #[.val (.int (-zx)), .val (.int (0 : Int32)), .val (.int (-10000000 : Int32)), .val (.int (7 : Int32))] (hb hby own_d15_36) rfl (by decide) rfl ?_
                refine own_goto X0 hx 16 (hb hby own_d15_39) (by decide) (by decide) ?_
                refine own_iloadN X0 hx 17 rfl (hb hby own_d15_16) rfl ?_
                refine own_bipush X0 hx 19 rfl (10 : Int32) (hb hby own_d15_17) (by decide) ?_
                refine own_icmpN X0 hx 22 (hb hby own_d15_19) (tlt ((by decide) : (7 : Int32) < (10 : Int32))).2.1 rfl ?_
                refine own_iloadN X0 hx 23 rfl (hb hby own_d15_22) rfl ?_
                refine own_iloadN X0 hx 24 rfl (hb hby own_d15_23) rfl ?_
                by_cases hc24_17 : (-10000000 : Int32) < (-zx)
                · refine own_icmpN X0 hx 27 (hb hby own_d15_24) (tlt hc24_17).2.2.2 rfl ?_
                  refine own_iloadN X0 hx 28 rfl (hb hby own_d15_27) rfl ?_
                  refine own_iloadN X0 hx 29 rfl (hb hby own_d15_28) rfl ?_
                  refine own_iadd X0 hx 30 rfl (z := (7 : Int32)) (hb hby own_d15_29) (by decide) ?_
                  refine own_retI X0 hx hlk Bd.returns (hb hby own_d15_30) (by decide) (by decide) e0 ?_
                  exact ⟨(congrArg (fun z => some (Value.int z)) (Eq.trans (by rw [own_size, if_neg hc3_1, own_sizeN, if_neg hc24_11, if_neg hc24_12, if_neg hc24_13, if_neg hc24_14, if_neg hc24_15, if_neg hc24_16, if_pos hc24_17] <;> decide) hsz)), N0, rfl⟩
                · refine own_icmpY X0 hx 31 (hb hby own_d15_24) (flt hc24_17).2.2.2 (by decide) (by decide) ?_
                  refine own_bipush X0 hx 33 rfl (10 : Int32) (hb hby own_d15_31) (by decide) ?_
                  refine own_iloadN X0 hx 34 rfl (hb hby own_d15_33) rfl ?_
                  refine own_imul X0 hx 35 rfl (z := (-100000000 : Int32)) (hb hby own_d15_34) (by decide) ?_
                  refine own_istoreN X0 hx 36 rfl #[.val (.int (-zx)), .val (.int (0 : Int32)), .val (.int (-100000000 : Int32)), .val (.int (7 : Int32))] (hb hby own_d15_35) rfl ?_
                  refine own_iinc X0 hx 39 rfl #[.val (.int (-zx)), .val (.int (0 : Int32)), .val (.int (-100000000 : Int32)), .val (.int (8 : Int32))] (hb hby own_d15_36) rfl (by decide) rfl ?_
                  refine own_goto X0 hx 16 (hb hby own_d15_39) (by decide) (by decide) ?_
                  refine own_iloadN X0 hx 17 rfl (hb hby own_d15_16) rfl ?_
                  refine own_bipush X0 hx 19 rfl (10 : Int32) (hb hby own_d15_17) (by decide) ?_
                  refine own_icmpN X0 hx 22 (hb hby own_d15_19) (tlt ((by decide) : (8 : Int32) < (10 : Int32))).2.1 rfl ?_
                  refine own_iloadN X0 hx 23 rfl (hb hby own_d15_22) rfl ?_
                  refine own_iloadN X0 hx 24 rfl (hb hby own_d15_23) rfl ?_
                  by_cases hc24_18 : (-100000000 : Int32) < (-zx)
                  · refine own_icmpN X0 hx 27 (hb hby own_d15_24) (tlt hc24_18).2.2.2 rfl ?_
                    refine own_iloadN X0 hx 28 rfl (hb hby own_d15_27) rfl ?_
                    refine own_iloadN X0 hx 29 rfl (hb hby own_d15_28) rfl ?_
                    refine own_iadd X0 hx 30 rfl (z := (8 : Int32)) (hb hby own_d15_29) (by decide) ?_
                    refine own_retI X0 hx hlk Bd.returns (hb hby own_d15_30) (by decide) (by decide) e0 ?_
                    exact ⟨(congrArg (fun z => some (Value.int z)) (Eq.trans (by rw [own_size, if_neg hc3_1, own_sizeN, if_neg hc24_11, if_neg hc24_12, if_neg hc24_13, if_neg hc24_14, if_neg hc24_15, if_neg hc24_16, if_neg hc24_17, if_pos hc24_18] <;> decide) hsz)), N0, rfl⟩
                  · refine own_icmpY X0 hx 31 (hb hby own_d15_24) (flt hc24_18).2.2.2 (by decide) (by decide) ?_
                    refine own_bipush X0 hx 33 rfl (10 : Int32) (hb hby own_d15_31) (by decide) ?_
                    refine own_iloadN X0 hx 34 rfl (hb hby own_d15_33) rfl ?_
                    refine own_imul X0 hx 35 rfl (z := (-1000000000 : Int32)) (hb hby own_d15_34) (by decide) ?_
                    refine own_istoreN X0 hx 36 rfl #[.val (.int (-zx)), .val (.int (0 : Int32)), .val (.int (-1000000000 : Int32)), .val (.int (8 : Int32))] (hb hby own_d15_35) rfl ?_
                    refine own_iinc X0 hx 39 rfl #[.val (.int (-zx)), .val (.int (0 : Int32)), .val (.int (-1000000000 : Int32)), .val (.int (9 : Int32))] (hb hby own_d15_36) rfl (by decide) rfl ?_
                    refine own_goto X0 hx 16 (hb hby own_d15_39) (by decide) (by decide) ?_
                    refine own_iloadN X0 hx 17 rfl (hb hby own_d15_16) rfl ?_
                    refine own_bipush X0 hx 19 rfl (10 : Int32) (hb hby own_d15_17) (by decide) ?_
                    refine own_icmpN X0 hx 22 (hb hby own_d15_19) (tlt ((by decide) : (9 : Int32) < (10 : Int32))).2.1 rfl ?_
                    refine own_iloadN X0 hx 23 rfl (hb hby own_d15_22) rfl ?_
                    refine own_iloadN X0 hx 24 rfl (hb hby own_d15_23) rfl ?_
                    by_cases hc24_19 : (-1000000000 : Int32) < (-zx)
                    · refine own_icmpN X0 hx 27 (hb hby own_d15_24) (tlt hc24_19).2.2.2 rfl ?_
                      refine own_iloadN X0 hx 28 rfl (hb hby own_d15_27) rfl ?_
                      refine own_iloadN X0 hx 29 rfl (hb hby own_d15_28) rfl ?_
                      refine own_iadd X0 hx 30 rfl (z := (9 : Int32)) (hb hby own_d15_29) (by decide) ?_
                      refine own_retI X0 hx hlk Bd.returns (hb hby own_d15_30) (by decide) (by decide) e0 ?_
                      exact ⟨(congrArg (fun z => some (Value.int z)) (Eq.trans (by rw [own_size, if_neg hc3_1, own_sizeN, if_neg hc24_11, if_neg hc24_12, if_neg hc24_13, if_neg hc24_14, if_neg hc24_15, if_neg hc24_16, if_neg hc24_17, if_neg hc24_18, if_pos hc24_19] <;> decide) hsz)), N0, rfl⟩
                    · refine own_icmpY X0 hx 31 (hb hby own_d15_24) (flt hc24_19).2.2.2 (by decide) (by decide) ?_
                      refine own_bipush X0 hx 33 rfl (10 : Int32) (hb hby own_d15_31) (by decide) ?_
                      refine own_iloadN X0 hx 34 rfl (hb hby own_d15_33) rfl ?_
                      refine own_imul X0 hx 35 rfl (z := (-1410065408 : Int32)) (hb hby own_d15_34) (by decide) ?_
                      refine own_istoreN X0 hx 36 rfl #[.val (.int (-zx)), .val (.int (0 : Int32)), .val (.int (-1410065408 : Int32)), .val (.int (9 : Int32))] (hb hby own_d15_35) rfl ?_
                      refine own_iinc X0 hx 39 rfl #[.val (.int (-zx)), .val (.int (0 : Int32)), .val (.int (-1410065408 : Int32)), .val (.int (10 : Int32))] (hb hby own_d15_36) rfl (by decide) rfl ?_
                      refine own_goto X0 hx 16 (hb hby own_d15_39) (by decide) (by decide) ?_
                      refine own_iloadN X0 hx 17 rfl (hb hby own_d15_16) rfl ?_
                      refine own_bipush X0 hx 19 rfl (10 : Int32) (hb hby own_d15_17) (by decide) ?_
                      refine own_icmpY X0 hx 42 (hb hby own_d15_19) (flt ((by decide) : ¬ ((10 : Int32) < (10 : Int32)))).2.1 (by decide) (by decide) ?_
                      refine own_bipush X0 hx 44 rfl (10 : Int32) (hb hby own_d15_42) (by decide) ?_
                      refine own_iloadN X0 hx 45 rfl (hb hby own_d15_44) rfl ?_
                      refine own_iadd X0 hx 46 rfl (z := (10 : Int32)) (hb hby own_d15_45) (by decide) ?_
                      refine own_retI X0 hx hlk Bd.returns (hb hby own_d15_46) (by decide) (by decide) e0 ?_
                      exact ⟨(congrArg (fun z => some (Value.int z)) (Eq.trans (by rw [own_size, if_neg hc3_1, own_sizeN, if_neg hc24_11, if_neg hc24_12, if_neg hc24_13, if_neg hc24_14, if_neg hc24_15, if_neg hc24_16, if_neg hc24_17, if_neg hc24_18, if_neg hc24_19] <;> decide) hsz)), N0, rfl⟩
theorem own_d22_0 : decode jdk_33_method_12_code 0 = .ok (.iload_n 1, 1) := by decide +kernel
theorem own_d22_1 : decode jdk_33_method_12_code 1 = .ok (.istore 5, 2) := by decide +kernel
theorem own_d22_3 : decode jdk_33_method_12_code 3 = .ok (.iload_n 0, 1) := by decide +kernel
theorem own_d22_4 : decode jdk_33_method_12_code 4 = .ok (.ifCond .ge 7, 3) := by decide +kernel
theorem own_d22_7 : decode jdk_33_method_12_code 7 = .ok (.iconst 1, 1) := by decide +kernel
theorem own_d22_8 : decode jdk_33_method_12_code 8 = .ok (.goto 4, 3) := by decide +kernel
theorem own_d22_11 : decode jdk_33_method_12_code 11 = .ok (.iconst 0, 1) := by decide +kernel
theorem own_d22_12 : decode jdk_33_method_12_code 12 = .ok (.istore 6, 2) := by decide +kernel
theorem own_d22_14 : decode jdk_33_method_12_code 14 = .ok (.iload 6, 2) := by decide +kernel
theorem own_d22_16 : decode jdk_33_method_12_code 16 = .ok (.ifCond .ne 6, 3) := by decide +kernel
theorem own_d22_19 : decode jdk_33_method_12_code 19 = .ok (.iload_n 0, 1) := by decide +kernel
theorem own_d22_20 : decode jdk_33_method_12_code 20 = .ok (.ineg, 1) := by decide +kernel
theorem own_d22_21 : decode jdk_33_method_12_code 21 = .ok (.istore_n 0, 1) := by decide +kernel
theorem own_d22_22 : decode jdk_33_method_12_code 22 = .ok (.iload_n 0, 1) := by decide +kernel
theorem own_d22_23 : decode jdk_33_method_12_code 23 = .ok (.bipush (-100), 2) := by decide +kernel
theorem own_d22_25 : decode jdk_33_method_12_code 25 = .ok (.if_icmp .gt 47, 3) := by decide +kernel
theorem own_d22_28 : decode jdk_33_method_12_code 28 = .ok (.iload_n 0, 1) := by decide +kernel
theorem own_d22_29 : decode jdk_33_method_12_code 29 = .ok (.bipush 100, 2) := by decide +kernel
theorem own_d22_31 : decode jdk_33_method_12_code 31 = .ok (.idiv, 1) := by decide +kernel
theorem own_d22_32 : decode jdk_33_method_12_code 32 = .ok (.istore_n 3, 1) := by decide +kernel
theorem own_d22_33 : decode jdk_33_method_12_code 33 = .ok (.iload_n 3, 1) := by decide +kernel
theorem own_d22_34 : decode jdk_33_method_12_code 34 = .ok (.bipush 100, 2) := by decide +kernel
theorem own_d22_36 : decode jdk_33_method_12_code 36 = .ok (.imul, 1) := by decide +kernel
theorem own_d22_37 : decode jdk_33_method_12_code 37 = .ok (.iload_n 0, 1) := by decide +kernel
theorem own_d22_38 : decode jdk_33_method_12_code 38 = .ok (.isub, 1) := by decide +kernel
theorem own_d22_39 : decode jdk_33_method_12_code 39 = .ok (.istore 4, 2) := by decide +kernel
theorem own_d22_41 : decode jdk_33_method_12_code 41 = .ok (.iload_n 3, 1) := by decide +kernel
theorem own_d22_42 : decode jdk_33_method_12_code 42 = .ok (.istore_n 0, 1) := by decide +kernel
theorem own_d22_43 : decode jdk_33_method_12_code 43 = .ok (.aload_n 2, 1) := by decide +kernel
theorem own_d22_44 : decode jdk_33_method_12_code 44 = .ok (.iinc 5 (-1), 3) := by decide +kernel
theorem own_d22_47 : decode jdk_33_method_12_code 47 = .ok (.iload 5, 2) := by decide +kernel
theorem own_d22_49 : decode jdk_33_method_12_code 49 = .ok (.getstatic 83, 3) := by decide +kernel
theorem own_d22_52 : decode jdk_33_method_12_code 52 = .ok (.iload 4, 2) := by decide +kernel
theorem own_d22_54 : decode jdk_33_method_12_code 54 = .ok (.baload, 1) := by decide +kernel
theorem own_d22_55 : decode jdk_33_method_12_code 55 = .ok (.bastore, 1) := by decide +kernel
theorem own_d22_56 : decode jdk_33_method_12_code 56 = .ok (.aload_n 2, 1) := by decide +kernel
theorem own_d22_57 : decode jdk_33_method_12_code 57 = .ok (.iinc 5 (-1), 3) := by decide +kernel
theorem own_d22_60 : decode jdk_33_method_12_code 60 = .ok (.iload 5, 2) := by decide +kernel
theorem own_d22_62 : decode jdk_33_method_12_code 62 = .ok (.getstatic 87, 3) := by decide +kernel
theorem own_d22_65 : decode jdk_33_method_12_code 65 = .ok (.iload 4, 2) := by decide +kernel
theorem own_d22_67 : decode jdk_33_method_12_code 67 = .ok (.baload, 1) := by decide +kernel
theorem own_d22_68 : decode jdk_33_method_12_code 68 = .ok (.bastore, 1) := by decide +kernel
theorem own_d22_69 : decode jdk_33_method_12_code 69 = .ok (.goto (-47), 3) := by decide +kernel
theorem own_d22_72 : decode jdk_33_method_12_code 72 = .ok (.aload_n 2, 1) := by decide +kernel
theorem own_d22_73 : decode jdk_33_method_12_code 73 = .ok (.iinc 5 (-1), 3) := by decide +kernel
theorem own_d22_76 : decode jdk_33_method_12_code 76 = .ok (.iload 5, 2) := by decide +kernel
theorem own_d22_78 : decode jdk_33_method_12_code 78 = .ok (.getstatic 83, 3) := by decide +kernel
theorem own_d22_81 : decode jdk_33_method_12_code 81 = .ok (.iload_n 0, 1) := by decide +kernel
theorem own_d22_82 : decode jdk_33_method_12_code 82 = .ok (.ineg, 1) := by decide +kernel
theorem own_d22_83 : decode jdk_33_method_12_code 83 = .ok (.baload, 1) := by decide +kernel
theorem own_d22_84 : decode jdk_33_method_12_code 84 = .ok (.bastore, 1) := by decide +kernel
theorem own_d22_85 : decode jdk_33_method_12_code 85 = .ok (.iload_n 0, 1) := by decide +kernel
theorem own_d22_86 : decode jdk_33_method_12_code 86 = .ok (.bipush (-9), 2) := by decide +kernel
theorem own_d22_88 : decode jdk_33_method_12_code 88 = .ok (.if_icmp .ge 16, 3) := by decide +kernel
theorem own_d22_91 : decode jdk_33_method_12_code 91 = .ok (.aload_n 2, 1) := by decide +kernel
theorem own_d22_92 : decode jdk_33_method_12_code 92 = .ok (.iinc 5 (-1), 3) := by decide +kernel
theorem own_d22_95 : decode jdk_33_method_12_code 95 = .ok (.iload 5, 2) := by decide +kernel
theorem own_d22_97 : decode jdk_33_method_12_code 97 = .ok (.getstatic 87, 3) := by decide +kernel
theorem own_d22_100 : decode jdk_33_method_12_code 100 = .ok (.iload_n 0, 1) := by decide +kernel
theorem own_d22_101 : decode jdk_33_method_12_code 101 = .ok (.ineg, 1) := by decide +kernel
theorem own_d22_102 : decode jdk_33_method_12_code 102 = .ok (.baload, 1) := by decide +kernel
theorem own_d22_103 : decode jdk_33_method_12_code 103 = .ok (.bastore, 1) := by decide +kernel
theorem own_d22_104 : decode jdk_33_method_12_code 104 = .ok (.iload 6, 2) := by decide +kernel
theorem own_d22_106 : decode jdk_33_method_12_code 106 = .ok (.ifCond .eq 12, 3) := by decide +kernel
theorem own_d22_109 : decode jdk_33_method_12_code 109 = .ok (.aload_n 2, 1) := by decide +kernel
theorem own_d22_110 : decode jdk_33_method_12_code 110 = .ok (.iinc 5 (-1), 3) := by decide +kernel
theorem own_d22_113 : decode jdk_33_method_12_code 113 = .ok (.iload 5, 2) := by decide +kernel
theorem own_d22_115 : decode jdk_33_method_12_code 115 = .ok (.bipush 45, 2) := by decide +kernel
theorem own_d22_117 : decode jdk_33_method_12_code 117 = .ok (.bastore, 1) := by decide +kernel
theorem own_d22_118 : decode jdk_33_method_12_code 118 = .ok (.iload 5, 2) := by decide +kernel
theorem own_d22_120 : decode jdk_33_method_12_code 120 = .ok (.ireturn, 1) := by decide +kernel
def Q22 (Z : State) (g0 : Int32) (gx : Int32) (ga : Addr) (dn : Int32) (zo : Addr) (zt : Addr) (h0 : Heap) (n0 : Nat) (v : Option Value) (h : Heap) (L : List Loc) : Prop := ∃ gr_ : Int32, v = some (.int gr_) ∧ Fr n0 L ∧ Keep h0 h [ga] ∧ ByA Z h ga dn
set_option maxRecDepth 65536 in
set_option maxHeartbeats 40000000 in
theorem rm22 (l : Launch) (Z : State) (a0 : Array Value) (hw : ∀ d ∈ tables_1, d.before a0 Z = true) (ws : List Jvm.Cond) (g0 : Int32) (gx : Int32) (ga : Addr) (dn : Int32) (zo : Addr) (zt : Addr) (h0 : Heap) (n0 : Nat) (Z0 : n0 ≤ h0.size) (Bg : ByA Z h0 ga dn) (gg : n0 ≤ ga) (Do1 : Sta Z h0 "java/lang/Integer" "DigitOnes" "[B" (.ref zo)) (Dt1 : Sta Z h0 "java/lang/Integer" "DigitTens" "[B" (.ref zt)) (Do2 : ByA Z h0 zo (100 : Int32)) (Dt2 : ByA Z h0 zt (100 : Int32)) (ngazo : ga ≠ zo) (ngazt : ga ≠ zt) (hlo : 11 ≤ gx.toInt) (hhi : gx.toInt ≤ dn.toInt) :
    MetFree l (⟨"java/lang/Integer", "getChars", "(II[B)I"⟩ : MethodName) (head1 (Jvm.Cond.code (⟨"java/lang/Integer", "getChars", "(II[B)I"⟩ : MethodName) jdk_33_method_12_code 7 (some .int) :: ws) ({ frames := 0, cells := 0, slots := 0, locals := 0 } : Room)) (fun a U => a = #[(.int g0), (.int gx), (.ref ga)] ∧ Z.Warmed39 U.vm ∧ U.heap = h0) (fun _ _ _ _ _ => True) (fun _ U o U' => ∃ v L, o = .returned v ∧ Q22 Z g0 gx ga dn zo zt h0 n0 v U'.heap L ∧ FrameEnd U o U' L ({ frames := 0, cells := 0, slots := 0, locals := 0 } : Room).cells ({ frames := 0, cells := 0, slots := 0, locals := 0 } : Room).slots) := by
  refine MetFree.of_bodySF (plainFor_of_name own_pn_java_lang_Integer) hisR ?_
  intro p e s m args below meth c s₁ Bd hml0 hP hK
  obtain ⟨rfl, hZ, hh⟩ := hP
  have hx := Bd.exec
  have hby := Bd.bytes
  have hml : c.maxLocals = 7 := hml0
  have hlk := Bd.notSynchronized
  have hown : s.vm.findClass "java/lang/Integer" = some m.cls := findClass_of_methodNamed Bd.named
  have hnm := (name_of_methodNamed Bd.named Bd.method).1
  have X0 : Stand p l e ({ frames := 0, cells := 0, slots := 0, locals := 0 } : Room) s m #[(.int g0), (.int gx), (.ref ga)] below meth c s₁ [] 0 0 := Stand.of_body Bd
  have e0 : s₁.heap = h0 := by rw [← hh, Bd.state]; rfl
  have N0 := Fr.nil n0
  have K0 : Keep h0 h0 [ga] := Keep.refl _ _
  refine own_enter (P := (Done s ({ frames := 0, cells := 0, slots := 0, locals := 0 } : Room).cells ({ frames := 0, cells := 0, slots := 0, locals := 0 } : Room).slots (Q22 Z g0 gx ga dn zo zt h0 n0))) (Ls := #[.val (.int g0), .val (.int gx), .val (.ref ga), .unset, .unset, .unset, .unset]) (by first | (simp [entryFrame, mkF, argsToLocals, Value.category]; done) | rfl) ?_
  have J72 : ∀ (T1 : State) (h1 : Heap) (L1 : List Loc) (gi : Int32) (cp : Int32) (ng : Int32) (q3 : Slot) (q4 : Slot) (hgi : gi.toInt ≤ 0) (hex : -100 < gi.toInt) (hc3 : 3 ≤ cp.toInt) (hc2 : cp.toInt ≤ dn.toInt) (X1 : Stand p l e ({ frames := 0, cells := 0, slots := 0, locals := 0 } : Room) s m #[(.int g0), (.int gx), (.ref ga)] below meth c T1 L1 0 0) (e1 : T1.heap = h1) (N1 : Fr n0 L1) (K1 : Keep h0 h1 [ga]) (Z1 : n0 ≤ h1.size) (f1_0 : ByA Z h1 ga dn) (f1_1 : Sta Z h1 "java/lang/Integer" "DigitOnes" "[B" (.ref zo)) (f1_2 : Sta Z h1 "java/lang/Integer" "DigitTens" "[B" (.ref zt)) (f1_3 : ByA Z h1 zo (100 : Int32)) (f1_4 : ByA Z h1 zt (100 : Int32)), Goes p e below (Done s ({ frames := 0, cells := 0, slots := 0, locals := 0 } : Room).cells ({ frames := 0, cells := 0, slots := 0, locals := 0 } : Room).slots (Q22 Z g0 gx ga dn zo zt h0 n0)) T1 (mkF m 72 #[.val (.int gi), .val (.int gx), .val (.ref ga), q3, q4, .val (.int cp), .val (.int ng)] []) := by
    intro T1 h1 L1 gi cp ng q3 q4 hgi hex hc3 hc2 X1 e1 N1 K1 Z1 f1_0 f1_1 f1_2 f1_3 f1_4
    refine own_aloadN X1 hx 73 rfl (hb hby own_d22_72) rfl rfl ?_
    refine own_iinc X1 hx 76 rfl #[.val (.int gi), .val (.int gx), .val (.ref ga), q3, q4, .val (.int (cp + (-1 : Int32))), .val (.int ng)] (hb hby own_d22_73) rfl (congrArg (fun t => cp + t) (by decide : Int32.ofInt (-1) = (-1 : Int32))) rfl ?_
    refine own_iload X1 hx 78 rfl (hb hby own_d22_76) rfl ?_
    obtain ⟨T2, X2, e2, st2⟩ := getS2 X1 hx hZ hown (host := "") (Or.inl (hw _ (List.mem_of_getElem? (i := 133) rfl))) Via.refl e1 f1_1 (g := (mkF m 78 #[.val (.int gi), .val (.int gx), .val (.ref ga), q3, q4, .val (.int (cp + (-1 : Int32))), .val (.int ng)] [(.int (cp + (-1 : Int32))), (.ref ga)])) rfl (hb hby own_d22_78)
    refine Goes.go st2 ?_
    show Goes p e below _ T2 (mkF m 81 #[.val (.int gi), .val (.int gx), .val (.ref ga), q3, q4, .val (.int (cp + (-1 : Int32))), .val (.int ng)] [(.ref zo), (.int (cp + (-1 : Int32))), (.ref ga)])
    refine own_iloadN X2 hx 82 rfl (hb hby own_d22_81) rfl ?_
    refine own_ineg X2 hx 83 rfl (hb hby own_d22_82) rfl ?_
    obtain ⟨cl3, Ar3, S3, NN3, HH3⟩ := ByA.opn f1_3
    have hin3 : ¬ ((-gi) < 0 ∨ cl3.slots.size ≤ ((-gi)).toNatClampNeg) := inb_of S3 (own_in hgi hex)
    obtain ⟨bv3, hat3⟩ := HH3 _ (Nat.lt_of_not_le fun q => hin3 (Or.inr q))
    refine Goes.go (X2.baloadBytes hx (j := (-gi)) (v := (.int bv3)) (by rw [e2]; exact Ar3.1) (State.isArrayOf_alike hZ.alike Ar3.2.1) Ar3.2.2 hin3 hat3 (g := (mkF m 83 #[.val (.int gi), .val (.int gx), .val (.ref ga), q3, q4, .val (.int (cp + (-1 : Int32))), .val (.int ng)] [(.int (-gi)), (.ref zo), (.int (cp + (-1 : Int32))), (.ref ga)])) rfl rfl (hb hby own_d22_83)) ?_
    show Goes p e below _ T2 (mkF m 84 #[.val (.int gi), .val (.int gx), .val (.ref ga), q3, q4, .val (.int (cp + (-1 : Int32))), .val (.int ng)] [(.int bv3), (.int (cp + (-1 : Int32))), (.ref ga)])
    obtain ⟨cl4, Ar4, S4, NN4, HH4⟩ := ByA.opn f1_0
    have hin4 : ¬ ((cp + (-1 : Int32)) < 0 ∨ cl4.slots.size ≤ ((cp + (-1 : Int32))).toNatClampNeg) := inb_of S4 (own_i1 hc3 hc2)
    obtain ⟨T4, h4, X4, e4, W4, st4⟩ := stB X2 hx hZ e2 Ar4 (j := (cp + (-1 : Int32))) hin4 (g := (mkF m 84 #[.val (.int gi), .val (.int gx), .val (.ref ga), q3, q4, .val (.int (cp + (-1 : Int32))), .val (.int ng)] [(.int bv3), (.int (cp + (-1 : Int32))), (.ref ga)])) rfl rfl (hb hby own_d22_84)
    have V4 : ByA Z h4 ga dn := ByA.set f1_0 W4
    have N4 := Fr.snoc X4 N1 gg
    have f5 := f1_1.wr W4
    have f6 := f1_2.wr W4
    have f7 := f1_3.other W4 (Ne.symm ngazo)
    have f8 := f1_4.other W4 (Ne.symm ngazt)
    have K4 := K1.wr W4 (Or.inl (List.mem_of_getElem? (i := 0) rfl))
    have Z4 := Nat.le_trans Z1 (Nat.le_of_eq W4.size.symm)
    refine Goes.go st4 ?_
    show Goes p e below _ T4 (mkF m 85 #[.val (.int gi), .val (.int gx), .val (.ref ga), q3, q4, .val (.int (cp + (-1 : Int32))), .val (.int ng)] [])
    refine own_iloadN X4 hx 86 rfl (hb hby own_d22_85) rfl ?_
    refine own_bipush X4 hx 88 rfl (-9 : Int32) (hb hby own_d22_86) (by decide) ?_
    by_cases hc88_9 : gi < (-9 : Int32)
    · refine own_icmpN X4 hx 91 (hb hby own_d22_88) (tlt hc88_9).2.1 rfl ?_
      refine own_aloadN X4 hx 92 rfl (hb hby own_d22_91) rfl rfl ?_
      refine own_iinc X4 hx 95 rfl #[.val (.int gi), .val (.int gx), .val (.ref ga), q3, q4, .val (.int ((cp + (-1 : Int32)) + (-1 : Int32))), .val (.int ng)] (hb hby own_d22_92) rfl (congrArg (fun t => (cp + (-1 : Int32)) + t) (by decide : Int32.ofInt (-1) = (-1 : Int32))) rfl ?_
      refine own_iload X4 hx 97 rfl (hb hby own_d22_95) rfl ?_
      obtain ⟨T10, X10, e10, st10⟩ := getS2 X4 hx hZ hown (host := "") (Or.inl (hw _ (List.mem_of_getElem? (i := 134) rfl))) Via.refl e4 f6 (g := (mkF m 97 #[.val (.int gi), .val (.int gx), .val (.ref ga), q3, q4, .val (.int ((cp + (-1 : Int32)) + (-1 : Int32))), .val (.int ng)] [(.int ((cp + (-1 : Int32)) + (-1 : Int32))), (.ref ga)])) rfl (hb hby own_d22_97)
      refine Goes.go st10 ?_
      show Goes p e below _ T10 (mkF m 100 #[.val (.int gi), .val (.int gx), .val (.ref ga), q3, q4, .val (.int ((cp + (-1 : Int32)) + (-1 : Int32))), .val (.int ng)] [(.ref zt), (.int ((cp + (-1 : Int32)) + (-1 : Int32))), (.ref ga)])
      refine own_iloadN X10 hx 101 rfl (hb hby own_d22_100) rfl ?_
      refine own_ineg X10 hx 102 rfl (hb hby own_d22_101) rfl ?_
      obtain ⟨cl11, Ar11, S11, NN11, HH11⟩ := ByA.opn f8
      have hin11 : ¬ ((-gi) < 0 ∨ cl11.slots.size ≤ ((-gi)).toNatClampNeg) := inb_of S11 (own_in hgi hex)
      obtain ⟨bv11, hat11⟩ := HH11 _ (Nat.lt_of_not_le fun q => hin11 (Or.inr q))
      refine Goes.go (X10.baloadBytes hx (j := (-gi)) (v := (.int bv11)) (by rw [e10]; exact Ar11.1) (State.isArrayOf_alike hZ.alike Ar11.2.1) Ar11.2.2 hin11 hat11 (g := (mkF m 102 #[.val (.int gi), .val (.int gx), .val (.ref ga), q3, q4, .val (.int ((cp + (-1 : Int32)) + (-1 : Int32))), .val (.int ng)] [(.int (-gi)), (.ref zt), (.int ((cp + (-1 : Int32)) + (-1 : Int32))), (.ref ga)])) rfl rfl (hb hby own_d22_102)) ?_
      show Goes p e below _ T10 (mkF m 103 #[.val (.int gi), .val (.int gx), .val (.ref ga), q3, q4, .val (.int ((cp + (-1 : Int32)) + (-1 : Int32))), .val (.int ng)] [(.int bv11), (.int ((cp + (-1 : Int32)) + (-1 : Int32))), (.ref ga)])
      obtain ⟨cl12, Ar12, S12, NN12, HH12⟩ := ByA.opn V4
      have hin12 : ¬ (((cp + (-1 : Int32)) + (-1 : Int32)) < 0 ∨ cl12.slots.size ≤ (((cp + (-1 : Int32)) + (-1 : Int32))).toNatClampNeg) := inb_of S12 (own_i2 hc3 hc2)
      obtain ⟨T12, h12, X12, e12, W12, st12⟩ := stB X10 hx hZ e10 Ar12 (j := ((cp + (-1 : Int32)) + (-1 : Int32))) hin12 (g := (mkF m 103 #[.val (.int gi), .val (.int gx), .val (.ref ga), q3, q4, .val (.int ((cp + (-1 : Int32)) + (-1 : Int32))), .val (.int ng)] [(.int bv11), (.int ((cp + (-1 : Int32)) + (-1 : Int32))), (.ref ga)])) rfl rfl (hb hby own_d22_103)
      have V12 : ByA Z h12 ga dn := ByA.set V4 W12
      have N12 := Fr.snoc X12 N4 gg
      have f13 := f5.wr W12
      have f14 := f6.wr W12
      have f15 := f7.other W12 (Ne.symm ngazo)
      have f16 := f8.other W12 (Ne.symm ngazt)
      have K12 := K4.wr W12 (Or.inl (List.mem_of_getElem? (i := 0) rfl))
      have Z12 := Nat.le_trans Z4 (Nat.le_of_eq W12.size.symm)
      refine Goes.go st12 ?_
      show Goes p e below _ T12 (mkF m 104 #[.val (.int gi), .val (.int gx), .val (.ref ga), q3, q4, .val (.int ((cp + (-1 : Int32)) + (-1 : Int32))), .val (.int ng)] [])
      refine own_iload X12 hx 106 rfl (hb hby own_d22_104) rfl ?_
      by_cases hc106_17 : ng = (0 : Int32)
      · refine own_ifY X12 hx 118 (hb hby own_d22_106) ((if0 _ _).trans (teq hc106_17).1) (by decide) (by decide) ?_
        refine own_iload X12 hx 120 rfl (hb hby own_d22_118) rfl ?_
        refine own_retI X12 hx hlk Bd.returns (hb hby own_d22_120) (by decide) (by decide) e12 ?_
        exact ⟨((cp + (-1 : Int32)) + (-1 : Int32)), rfl, N12, K12, V12⟩
      · refine own_ifN X12 hx 109 (hb hby own_d22_106) ((if0 _ _).trans (feq hc106_17).1) rfl ?_
        refine own_aloadN X12 hx 110 rfl (hb hby own_d22_109) rfl rfl ?_
        refine own_iinc X12 hx 113 rfl #[.val (.int gi), .val (.int gx), .val (.ref ga), q3, q4, .val (.int (((cp + (-1 : Int32)) + (-1 : Int32)) + (-1 : Int32))), .val (.int ng)] (hb hby own_d22_110) rfl (congrArg (fun t => ((cp + (-1 : Int32)) + (-1 : Int32)) + t) (by decide : Int32.ofInt (-1) = (-1 : Int32))) rfl ?_
        refine own_iload X12 hx 115 rfl (hb hby own_d22_113) rfl ?_
        refine own_bipush X12 hx 117 rfl (45 : Int32) (hb hby own_d22_115) (by decide) ?_
        obtain ⟨cl18, Ar18, S18, NN18, HH18⟩ := ByA.opn V12
        have hin18 : ¬ ((((cp + (-1 : Int32)) + (-1 : Int32)) + (-1 : Int32)) < 0 ∨ cl18.slots.size ≤ ((((cp + (-1 : Int32)) + (-1 : Int32)) + (-1 : Int32))).toNatClampNeg) := inb_of S18 (own_i3 hc3 hc2)
        obtain ⟨T18, h18, X18, e18, W18, st18⟩ := stB X12 hx hZ e12 Ar18 (j := (((cp + (-1 : Int32)) + (-1 : Int32)) + (-1 : Int32))) hin18 (g := (mkF m 117 #[.val (.int gi), .val (.int gx), .val (.ref ga), q3, q4, .val (.int (((cp + (-1 : Int32)) + (-1 : Int32)) + (-1 : Int32))), .val (.int ng)] [(.int (45 : Int32)), (.int (((cp + (-1 : Int32)) + (-1 : Int32)) + (-1 : Int32))), (.ref ga)])) rfl rfl (hb hby own_d22_117)
        have V18 : ByA Z h18 ga dn := ByA.set V12 W18
        have N18 := Fr.snoc X18 N12 gg
        have f19 := f13.wr W18
        have f20 := f14.wr W18
        have f21 := f15.other W18 (Ne.symm ngazo)
        have f22 := f16.other W18 (Ne.symm ngazt)
        have K18 := K12.wr W18 (Or.inl (List.mem_of_getElem? (i := 0) rfl))
        have Z18 := Nat.le_trans Z12 (Nat.le_of_eq W18.size.symm)
        refine Goes.go st18 ?_
        show Goes p e below _ T18 (mkF m 118 #[.val (.int gi), .val (.int gx), .val (.ref ga), q3, q4, .val (.int (((cp + (-1 : Int32)) + (-1 : Int32)) + (-1 : Int32))), .val (.int ng)] [])
        refine own_iload X18 hx 120 rfl (hb hby own_d22_118) rfl ?_
        refine own_retI X18 hx hlk Bd.returns (hb hby own_d22_120) (by decide) (by decide) e18 ?_
        exact ⟨(((cp + (-1 : Int32)) + (-1 : Int32)) + (-1 : Int32)), rfl, N18, K18, V18⟩
    · refine own_icmpY X4 hx 104 (hb hby own_d22_88) (flt hc88_9).2.1 (by decide) (by decide) ?_
      refine own_iload X4 hx 106 rfl (hb hby own_d22_104) rfl ?_
      by_cases hc106_23 : ng = (0 : Int32)
      · refine own_ifY X4 hx 118 (hb hby own_d22_106) ((if0 _ _).trans (teq hc106_23).1) (by decide) (by decide) ?_
        refine own_iload X4 hx 120 rfl (hb hby own_d22_118) rfl ?_
        refine own_retI X4 hx hlk Bd.returns (hb hby own_d22_120) (by decide) (by decide) e4 ?_
        exact ⟨(cp + (-1 : Int32)), rfl, N4, K4, V4⟩
      · refine own_ifN X4 hx 109 (hb hby own_d22_106) ((if0 _ _).trans (feq hc106_23).1) rfl ?_
        refine own_aloadN X4 hx 110 rfl (hb hby own_d22_109) rfl rfl ?_
        refine own_iinc X4 hx 113 rfl #[.val (.int gi), .val (.int gx), .val (.ref ga), q3, q4, .val (.int ((cp + (-1 : Int32)) + (-1 : Int32))), .val (.int ng)] (hb hby own_d22_110) rfl (congrArg (fun t => (cp + (-1 : Int32)) + t) (by decide : Int32.ofInt (-1) = (-1 : Int32))) rfl ?_
        refine own_iload X4 hx 115 rfl (hb hby own_d22_113) rfl ?_
        refine own_bipush X4 hx 117 rfl (45 : Int32) (hb hby own_d22_115) (by decide) ?_
        obtain ⟨cl24, Ar24, S24, NN24, HH24⟩ := ByA.opn V4
        have hin24 : ¬ (((cp + (-1 : Int32)) + (-1 : Int32)) < 0 ∨ cl24.slots.size ≤ (((cp + (-1 : Int32)) + (-1 : Int32))).toNatClampNeg) := inb_of S24 (own_i2 hc3 hc2)
        obtain ⟨T24, h24, X24, e24, W24, st24⟩ := stB X4 hx hZ e4 Ar24 (j := ((cp + (-1 : Int32)) + (-1 : Int32))) hin24 (g := (mkF m 117 #[.val (.int gi), .val (.int gx), .val (.ref ga), q3, q4, .val (.int ((cp + (-1 : Int32)) + (-1 : Int32))), .val (.int ng)] [(.int (45 : Int32)), (.int ((cp + (-1 : Int32)) + (-1 : Int32))), (.ref ga)])) rfl rfl (hb hby own_d22_117)
        have V24 : ByA Z h24 ga dn := ByA.set V4 W24
        have N24 := Fr.snoc X24 N4 gg
        have f25 := f5.wr W24
        have f26 := f6.wr W24
        have f27 := f7.other W24 (Ne.symm ngazo)
        have f28 := f8.other W24 (Ne.symm ngazt)
        have K24 := K4.wr W24 (Or.inl (List.mem_of_getElem? (i := 0) rfl))
        have Z24 := Nat.le_trans Z4 (Nat.le_of_eq W24.size.symm)
        refine Goes.go st24 ?_
        show Goes p e below _ T24 (mkF m 118 #[.val (.int gi), .val (.int gx), .val (.ref ga), q3, q4, .val (.int ((cp + (-1 : Int32)) + (-1 : Int32))), .val (.int ng)] [])
        refine own_iload X24 hx 120 rfl (hb hby own_d22_118) rfl ?_
        refine own_retI X24 hx hlk Bd.returns (hb hby own_d22_120) (by decide) (by decide) e24 ?_
        exact ⟨((cp + (-1 : Int32)) + (-1 : Int32)), rfl, N24, K24, V24⟩
  have J22 : ∀ (fu : Nat), ∀ (T29 : State) (h29 : Heap) (L29 : List Loc) (gi : Int32) (cp : Int32) (ng : Int32) (q3 : Slot) (q4 : Slot) (hgi : gi.toInt ≤ 0) (hgp : -(own_P fu) < gi.toInt) (hc1 : 2 * (fu : Int) + 3 ≤ cp.toInt) (hc2 : cp.toInt ≤ dn.toInt) (hq3 : own_Pl q3) (hq4 : own_Pl q4) (X29 : Stand p l e ({ frames := 0, cells := 0, slots := 0, locals := 0 } : Room) s m #[(.int g0), (.int gx), (.ref ga)] below meth c T29 L29 0 0) (e29 : T29.heap = h29) (N29 : Fr n0 L29) (K29 : Keep h0 h29 [ga]) (Z29 : n0 ≤ h29.size) (f29_0 : ByA Z h29 ga dn) (f29_1 : Sta Z h29 "java/lang/Integer" "DigitOnes" "[B" (.ref zo)) (f29_2 : Sta Z h29 "java/lang/Integer" "DigitTens" "[B" (.ref zt)) (f29_3 : ByA Z h29 zo (100 : Int32)) (f29_4 : ByA Z h29 zt (100 : Int32)), Goes p e below (Done s ({ frames := 0, cells := 0, slots := 0, locals := 0 } : Room).cells ({ frames := 0, cells := 0, slots := 0, locals := 0 } : Room).slots (Q22 Z g0 gx ga dn zo zt h0 n0)) T29 (mkF m 22 #[.val (.int gi), .val (.int gx), .val (.ref ga), q3, q4, .val (.int cp), .val (.int ng)] []) := by
    intro fu
    induction fu with
    | zero =>
      intro T29 h29 L29 gi cp ng q3 q4 hgi hgp hc1 hc2 hq3 hq4 X29 e29 N29 K29 Z29 f29_0 f29_1 f29_2 f29_3 f29_4
      refine own_iloadN X29 hx 23 rfl (hb hby own_d22_22) rfl ?_
      refine own_bipush X29 hx 25 rfl (-100 : Int32) (hb hby own_d22_23) (by decide) ?_
      refine own_icmpY X29 hx 72 (hb hby own_d22_25) (tlt (own_gt100 hgp : (-100 : Int32) < gi)).2.2.1 (by decide) (by decide) ?_
      exact J72 T29 h29 _ (gi) (cp) (ng) (q3) (q4) hgi (own_gt0 hgp) (own_c3 hc1) hc2 X29 e29 N29 K29 Z29 f29_0 f29_1 f29_2 f29_3 f29_4
    | succ fu IH =>
      intro T29 h29 L29 gi cp ng q3 q4 hgi hgp hc1 hc2 hq3 hq4 X29 e29 N29 K29 Z29 f29_0 f29_1 f29_2 f29_3 f29_4
      refine own_iloadN X29 hx 23 rfl (hb hby own_d22_22) rfl ?_
      refine own_bipush X29 hx 25 rfl (-100 : Int32) (hb hby own_d22_23) (by decide) ?_
      by_cases hc25_30 : (-100 : Int32) < gi
      · refine own_icmpY X29 hx 72 (hb hby own_d22_25) (tlt hc25_30).2.2.1 (by decide) (by decide) ?_
        exact J72 T29 h29 _ (gi) (cp) (ng) (q3) (q4) hgi (own_gt1 hc25_30) (own_c3 hc1) hc2 X29 e29 N29 K29 Z29 f29_0 f29_1 f29_2 f29_3 f29_4
      · refine own_icmpN X29 hx 28 (hb hby own_d22_25) (flt hc25_30).2.2.1 rfl ?_
        refine own_iloadN X29 hx 29 rfl (hb hby own_d22_28) rfl ?_
        refine own_bipush X29 hx 31 rfl (100 : Int32) (hb hby own_d22_29) (by decide) ?_
        obtain ⟨gq, h_gq⟩ : ∃ z, z = (gi / (100 : Int32)) := ⟨_, rfl⟩
        refine own_idiv X29 hx 32 rfl (hb hby own_d22_31) (by decide) h_gq.symm ?_
        refine own_istoreN X29 hx 33 rfl #[.val (.int gi), .val (.int gx), .val (.ref ga), .val (.int gq), q4, .val (.int cp), .val (.int ng)] (hb hby own_d22_32) (by rcases hq3 with rfl | ⟨_, rfl⟩ <;> rfl) ?_
        refine own_iloadN X29 hx 34 rfl (hb hby own_d22_33) rfl ?_
        refine own_bipush X29 hx 36 rfl (100 : Int32) (hb hby own_d22_34) (by decide) ?_
        refine own_imul X29 hx 37 rfl (hb hby own_d22_36) rfl ?_
        refine own_iloadN X29 hx 38 rfl (hb hby own_d22_37) rfl ?_
        obtain ⟨gr, h_gr⟩ : ∃ z, z = ((gq * (100 : Int32)) - gi) := ⟨_, rfl⟩
        refine own_isub X29 hx 39 rfl (hb hby own_d22_38) h_gr.symm ?_
        refine own_istore X29 hx 41 rfl #[.val (.int gi), .val (.int gx), .val (.ref ga), .val (.int gq), .val (.int gr), .val (.int cp), .val (.int ng)] (hb hby own_d22_39) (by rcases hq4 with rfl | ⟨_, rfl⟩ <;> rfl) ?_
        refine own_iloadN X29 hx 42 rfl (hb hby own_d22_41) rfl ?_
        refine own_istoreN X29 hx 43 rfl #[.val (.int gq), .val (.int gx), .val (.ref ga), .val (.int gq), .val (.int gr), .val (.int cp), .val (.int ng)] (hb hby own_d22_42) rfl ?_
        have hpr := own_pair hgi h_gq h_gr
        have hc3 := own_c3 hc1
        refine own_aloadN X29 hx 44 rfl (hb hby own_d22_43) rfl rfl ?_
        refine own_iinc X29 hx 47 rfl #[.val (.int gq), .val (.int gx), .val (.ref ga), .val (.int gq), .val (.int gr), .val (.int (cp + (-1 : Int32))), .val (.int ng)] (hb hby own_d22_44) rfl (congrArg (fun t => cp + t) (by decide : Int32.ofInt (-1) = (-1 : Int32))) rfl ?_
        refine own_iload X29 hx 49 rfl (hb hby own_d22_47) rfl ?_
        obtain ⟨T31, X31, e31, st31⟩ := getS2 X29 hx hZ hown (host := "") (Or.inl (hw _ (List.mem_of_getElem? (i := 133) rfl))) Via.refl e29 f29_1 (g := (mkF m 49 #[.val (.int gq), .val (.int gx), .val (.ref ga), .val (.int gq), .val (.int gr), .val (.int (cp + (-1 : Int32))), .val (.int ng)] [(.int (cp + (-1 : Int32))), (.ref ga)])) rfl (hb hby own_d22_49)
        refine Goes.go st31 ?_
        show Goes p e below _ T31 (mkF m 52 #[.val (.int gq), .val (.int gx), .val (.ref ga), .val (.int gq), .val (.int gr), .val (.int (cp + (-1 : Int32))), .val (.int ng)] [(.ref zo), (.int (cp + (-1 : Int32))), (.ref ga)])
        refine own_iload X31 hx 54 rfl (hb hby own_d22_52) rfl ?_
        obtain ⟨cl32, Ar32, S32, NN32, HH32⟩ := ByA.opn f29_3
        have hin32 : ¬ (gr < 0 ∨ cl32.slots.size ≤ (gr).toNatClampNeg) := inb_of S32 (own_ir hpr.2)
        obtain ⟨bv32, hat32⟩ := HH32 _ (Nat.lt_of_not_le fun q => hin32 (Or.inr q))
        refine Goes.go (X31.baloadBytes hx (j := gr) (v := (.int bv32)) (by rw [e31]; exact Ar32.1) (State.isArrayOf_alike hZ.alike Ar32.2.1) Ar32.2.2 hin32 hat32 (g := (mkF m 54 #[.val (.int gq), .val (.int gx), .val (.ref ga), .val (.int gq), .val (.int gr), .val (.int (cp + (-1 : Int32))), .val (.int ng)] [(.int gr), (.ref zo), (.int (cp + (-1 : Int32))), (.ref ga)])) rfl rfl (hb hby own_d22_54)) ?_
        show Goes p e below _ T31 (mkF m 55 #[.val (.int gq), .val (.int gx), .val (.ref ga), .val (.int gq), .val (.int gr), .val (.int (cp + (-1 : Int32))), .val (.int ng)] [(.int bv32), (.int (cp + (-1 : Int32))), (.ref ga)])
        obtain ⟨cl33, Ar33, S33, NN33, HH33⟩ := ByA.opn f29_0
        have hin33 : ¬ ((cp + (-1 : Int32)) < 0 ∨ cl33.slots.size ≤ ((cp + (-1 : Int32))).toNatClampNeg) := inb_of S33 (own_i1 hc3 hc2)
        obtain ⟨T33, h33, X33, e33, W33, st33⟩ := stB X31 hx hZ e31 Ar33 (j := (cp + (-1 : Int32))) hin33 (g := (mkF m 55 #[.val (.int gq), .val (.int gx), .val (.ref ga), .val (.int gq), .val (.int gr), .val (.int (cp + (-1 : Int32))), .val (.int ng)] [(.int bv32), (.int (cp + (-1 : Int32))), (.ref ga)])) rfl rfl (hb hby own_d22_55)
        have V33 : ByA Z h33 ga dn := ByA.set f29_0 W33
        have N33 := Fr.snoc X33 N29 gg
        have f34 := f29_1.wr W33
        have f35 := f29_2.wr W33
        have f36 := f29_3.other W33 (Ne.symm ngazo)
        have f37 := f29_4.other W33 (Ne.symm ngazt)
        have K33 := K29.wr W33 (Or.inl (List.mem_of_getElem? (i := 0) rfl))
        have Z33 := Nat.le_trans Z29 (Nat.le_of_eq W33.size.symm)
        refine Goes.go st33 ?_
        show Goes p e below _ T33 (mkF m 56 #[.val (.int gq), .val (.int gx), .val (.ref ga), .val (.int gq), .val (.int gr), .val (.int (cp + (-1 : Int32))), .val (.int ng)] [])
        refine own_aloadN X33 hx 57 rfl (hb hby own_d22_56) rfl rfl ?_
        refine own_iinc X33 hx 60 rfl #[.val (.int gq), .val (.int gx), .val (.ref ga), .val (.int gq), .val (.int gr), .val (.int ((cp + (-1 : Int32)) + (-1 : Int32))), .val (.int ng)] (hb hby own_d22_57) rfl (congrArg (fun t => (cp + (-1 : Int32)) + t) (by decide : Int32.ofInt (-1) = (-1 : Int32))) rfl ?_
        refine own_iload X33 hx 62 rfl (hb hby own_d22_60) rfl ?_
        obtain ⟨T38, X38, e38, st38⟩ := getS2 X33 hx hZ hown (host := "") (Or.inl (hw _ (List.mem_of_getElem? (i := 134) rfl))) Via.refl e33 f35 (g := (mkF m 62 #[.val (.int gq), .val (.int gx), .val (.ref ga), .val (.int gq), .val (.int gr), .val (.int ((cp + (-1 : Int32)) + (-1 : Int32))), .val (.int ng)] [(.int ((cp + (-1 : Int32)) + (-1 : Int32))), (.ref ga)])) rfl (hb hby own_d22_62)
        refine Goes.go st38 ?_
        show Goes p e below _ T38 (mkF m 65 #[.val (.int gq), .val (.int gx), .val (.ref ga), .val (.int gq), .val (.int gr), .val (.int ((cp + (-1 : Int32)) + (-1 : Int32))), .val (.int ng)] [(.ref zt), (.int ((cp + (-1 : Int32)) + (-1 : Int32))), (.ref ga)])
        refine own_iload X38 hx 67 rfl (hb hby own_d22_65) rfl ?_
        obtain ⟨cl39, Ar39, S39, NN39, HH39⟩ := ByA.opn f37
        have hin39 : ¬ (gr < 0 ∨ cl39.slots.size ≤ (gr).toNatClampNeg) := inb_of S39 (own_ir hpr.2)
        obtain ⟨bv39, hat39⟩ := HH39 _ (Nat.lt_of_not_le fun q => hin39 (Or.inr q))
        refine Goes.go (X38.baloadBytes hx (j := gr) (v := (.int bv39)) (by rw [e38]; exact Ar39.1) (State.isArrayOf_alike hZ.alike Ar39.2.1) Ar39.2.2 hin39 hat39 (g := (mkF m 67 #[.val (.int gq), .val (.int gx), .val (.ref ga), .val (.int gq), .val (.int gr), .val (.int ((cp + (-1 : Int32)) + (-1 : Int32))), .val (.int ng)] [(.int gr), (.ref zt), (.int ((cp + (-1 : Int32)) + (-1 : Int32))), (.ref ga)])) rfl rfl (hb hby own_d22_67)) ?_
        show Goes p e below _ T38 (mkF m 68 #[.val (.int gq), .val (.int gx), .val (.ref ga), .val (.int gq), .val (.int gr), .val (.int ((cp + (-1 : Int32)) + (-1 : Int32))), .val (.int ng)] [(.int bv39), (.int ((cp + (-1 : Int32)) + (-1 : Int32))), (.ref ga)])
        obtain ⟨cl40, Ar40, S40, NN40, HH40⟩ := ByA.opn V33
        have hin40 : ¬ (((cp + (-1 : Int32)) + (-1 : Int32)) < 0 ∨ cl40.slots.size ≤ (((cp + (-1 : Int32)) + (-1 : Int32))).toNatClampNeg) := inb_of S40 (own_i2 hc3 hc2)
        obtain ⟨T40, h40, X40, e40, W40, st40⟩ := stB X38 hx hZ e38 Ar40 (j := ((cp + (-1 : Int32)) + (-1 : Int32))) hin40 (g := (mkF m 68 #[.val (.int gq), .val (.int gx), .val (.ref ga), .val (.int gq), .val (.int gr), .val (.int ((cp + (-1 : Int32)) + (-1 : Int32))), .val (.int ng)] [(.int bv39), (.int ((cp + (-1 : Int32)) + (-1 : Int32))), (.ref ga)])) rfl rfl (hb hby own_d22_68)
        have V40 : ByA Z h40 ga dn := ByA.set V33 W40
        have N40 := Fr.snoc X40 N33 gg
        have f41 := f34.wr W40
        have f42 := f35.wr W40
        have f43 := f36.other W40 (Ne.symm ngazo)
        have f44 := f37.other W40 (Ne.symm ngazt)
        have K40 := K33.wr W40 (Or.inl (List.mem_of_getElem? (i := 0) rfl))
        have Z40 := Nat.le_trans Z33 (Nat.le_of_eq W40.size.symm)
        refine Goes.go st40 ?_
        show Goes p e below _ T40 (mkF m 69 #[.val (.int gq), .val (.int gx), .val (.ref ga), .val (.int gq), .val (.int gr), .val (.int ((cp + (-1 : Int32)) + (-1 : Int32))), .val (.int ng)] [])
        refine own_goto X40 hx 22 (hb hby own_d22_69) (by decide) (by decide) ?_
        exact IH T40 h40 _ (gq) ((cp + (-1 : Int32)) + (-1 : Int32)) (ng) (.val (.int gq)) (.val (.int gr)) (own_q0 hgi hpr.1) (own_qP hgp hpr.1) (own_c4 hc1) (own_c5 hc3 hc2) (Or.inr ⟨_, rfl⟩) (Or.inr ⟨_, rfl⟩) X40 e40 N40 K40 Z40 V40 f41 f42 f43 f44
  refine own_iloadN X0 hx 1 rfl (hb hby own_d22_0) rfl ?_
  refine own_istore X0 hx 3 rfl #[.val (.int g0), .val (.int gx), .val (.ref ga), .unset, .unset, .val (.int gx), .unset] (hb hby own_d22_1) rfl ?_
  refine own_iloadN X0 hx 4 rfl (hb hby own_d22_3) rfl ?_
  by_cases hc4_45 : g0 < (0 : Int32)
  · refine own_ifN X0 hx 7 (hb hby own_d22_4) ((if0 _ _).trans (tlt hc4_45).2.1) rfl ?_
    refine own_iconst X0 hx 8 rfl (1 : Int32) (hb hby own_d22_7) (by decide) ?_
    refine own_goto X0 hx 12 (hb hby own_d22_8) (by decide) (by decide) ?_
    refine own_istore X0 hx 14 rfl #[.val (.int g0), .val (.int gx), .val (.ref ga), .unset, .unset, .val (.int gx), .val (.int (1 : Int32))] (hb hby own_d22_12) rfl ?_
    refine own_iload X0 hx 16 rfl (hb hby own_d22_14) rfl ?_
    refine own_ifY X0 hx 22 (hb hby own_d22_16) ((if0 _ _).trans (feq ((by decide) : ¬ ((1 : Int32) = (0 : Int32)))).2) (by decide) (by decide) ?_
    exact J22 4 s₁ h0 _ (g0) (gx) (1 : Int32) (.unset) (.unset) (own_le0 hc4_45) (own_eP g0) (own_e4 hlo) hhi (Or.inl rfl) (Or.inl rfl) X0 e0 N0 K0 Z0 Bg Do1 Dt1 Do2 Dt2
  · refine own_ifY X0 hx 11 (hb hby own_d22_4) ((if0 _ _).trans (flt hc4_45).2.1) (by decide) (by decide) ?_
    refine own_iconst X0 hx 12 rfl (0 : Int32) (hb hby own_d22_11) (by decide) ?_
    refine own_istore X0 hx 14 rfl #[.val (.int g0), .val (.int gx), .val (.ref ga), .unset, .unset, .val (.int gx), .val (.int (0 : Int32))] (hb hby own_d22_12) rfl ?_
    refine own_iload X0 hx 16 rfl (hb hby own_d22_14) rfl ?_
    refine own_ifN X0 hx 19 (hb hby own_d22_16) ((if0 _ _).trans (teq ((by decide) : (0 : Int32) = (0 : Int32))).2) rfl ?_
    refine own_iloadN X0 hx 20 rfl (hb hby own_d22_19) rfl ?_
    refine own_ineg X0 hx 21 rfl (hb hby own_d22_20) rfl ?_
    refine own_istoreN X0 hx 22 rfl #[.val (.int (-g0)), .val (.int gx), .val (.ref ga), .unset, .unset, .val (.int gx), .val (.int (0 : Int32))] (hb hby own_d22_21) rfl ?_
    exact J22 4 s₁ h0 _ (-g0) (gx) (0 : Int32) (.unset) (.unset) (own_nn hc4_45) (own_eP (-g0)) (own_e4 hlo) hhi (Or.inl rfl) (Or.inl rfl) X0 e0 N0 K0 Z0 Bg Do1 Dt1 Do2 Dt2
theorem own_pd13 : parseMethodDescriptor "()Z" = some ⟨[], some .boolean⟩ := by decide +kernel
theorem own_pd14 : parseMethodDescriptor "(II[B)I" = some ⟨[.int, .int, (.array .byte)], some .int⟩ := by decide +kernel
theorem own_d14_0 : decode jdk_68_method_32_code 0 = .ok (.aload_n 0, 1) := by decide +kernel
theorem own_d14_1 : decode jdk_68_method_32_code 1 = .ok (.getfield 79, 3) := by decide +kernel
theorem own_d14_4 : decode jdk_68_method_32_code 4 = .ok (.istore_n 2, 1) := by decide +kernel
theorem own_d14_5 : decode jdk_68_method_32_code 5 = .ok (.iload_n 2, 1) := by decide +kernel
theorem own_d14_6 : decode jdk_68_method_32_code 6 = .ok (.iload_n 1, 1) := by decide +kernel
theorem own_d14_7 : decode jdk_68_method_32_code 7 = .ok (.invokestatic 245, 3) := by decide +kernel
theorem own_d14_10 : decode jdk_68_method_32_code 10 = .ok (.iadd, 1) := by decide +kernel
theorem own_d14_11 : decode jdk_68_method_32_code 11 = .ok (.istore_n 3, 1) := by decide +kernel
theorem own_d14_12 : decode jdk_68_method_32_code 12 = .ok (.aload_n 0, 1) := by decide +kernel
theorem own_d14_13 : decode jdk_68_method_32_code 13 = .ok (.iload_n 3, 1) := by decide +kernel
theorem own_d14_14 : decode jdk_68_method_32_code 14 = .ok (.invokevirtual 100, 3) := by decide +kernel
theorem own_d14_17 : decode jdk_68_method_32_code 17 = .ok (.aload_n 0, 1) := by decide +kernel
theorem own_d14_18 : decode jdk_68_method_32_code 18 = .ok (.invokevirtual 83, 3) := by decide +kernel
theorem own_d14_21 : decode jdk_68_method_32_code 21 = .ok (.ifCond .eq 16, 3) := by decide +kernel
theorem own_d14_24 : decode jdk_68_method_32_code 24 = .ok (.iload_n 1, 1) := by decide +kernel
theorem own_d14_25 : decode jdk_68_method_32_code 25 = .ok (.iload_n 3, 1) := by decide +kernel
theorem own_d14_26 : decode jdk_68_method_32_code 26 = .ok (.aload_n 0, 1) := by decide +kernel
theorem own_d14_27 : decode jdk_68_method_32_code 27 = .ok (.getfield 15, 3) := by decide +kernel
theorem own_d14_30 : decode jdk_68_method_32_code 30 = .ok (.invokestatic 248, 3) := by decide +kernel
theorem own_d14_33 : decode jdk_68_method_32_code 33 = .ok (.pop, 1) := by decide +kernel
theorem own_d14_34 : decode jdk_68_method_32_code 34 = .ok (.goto 14, 3) := by decide +kernel
theorem own_d14_48 : decode jdk_68_method_32_code 48 = .ok (.aload_n 0, 1) := by decide +kernel
theorem own_d14_49 : decode jdk_68_method_32_code 49 = .ok (.iload_n 3, 1) := by decide +kernel
theorem own_d14_50 : decode jdk_68_method_32_code 50 = .ok (.putfield 79, 3) := by decide +kernel
theorem own_d14_53 : decode jdk_68_method_32_code 53 = .ok (.aload_n 0, 1) := by decide +kernel
theorem own_d14_54 : decode jdk_68_method_32_code 54 = .ok (.areturn, 1) := by decide +kernel
def QapIN (Z : State) (sb : Addr) (xi : Int32) (cs : Int32) (va : Addr) (dn : Int32) (cn : Int32) (sz : Int32) (zo : Addr) (zt : Addr) (h0 : Heap) (n0 : Nat) (v : Option Value) (h : Heap) (L : List Loc) : Prop := v = some (.ref sb) ∧ Fr n0 L ∧ Keep h0 h [sb, va] ∧ Fld Z h sb "java/lang/AbstractStringBuilder" "value" "[B" (.ref va) ∧ Fld Z h sb "java/lang/AbstractStringBuilder" "coder" "B" (.int (0 : Int32)) ∧ Fld Z h sb "java/lang/AbstractStringBuilder" "count" "I" (.int (cn + sz)) ∧ ByA Z h va dn
set_option maxRecDepth 65536 in
set_option maxHeartbeats 40000000 in
theorem rmapIN (l : Launch) (Z : State) (a0 : Array Value) (hw : ∀ d ∈ tables_1, d.before a0 Z = true) (ws : List Jvm.Cond) (sb : Addr) (xi : Int32) (cs : Int32) (va : Addr) (dn : Int32) (cn : Int32) (sz : Int32) (zo : Addr) (zt : Addr) (h0 : Heap) (n0 : Nat) (Z0 : n0 ≤ h0.size) (Sc : Sta Z h0 "java/lang/String" "COMPACT_STRINGS" "Z" (.int cs)) (hcs : ¬ (cs = (0 : Int32))) (Eb : Exa Z h0 sb "java/lang/StringBuilder") (gb : n0 ≤ sb) (Fv : Fld Z h0 sb "java/lang/AbstractStringBuilder" "value" "[B" (.ref va)) (Fc : Fld Z h0 sb "java/lang/AbstractStringBuilder" "coder" "B" (.int (0 : Int32))) (Bv : ByA Z h0 va dn) (Fn : Fld Z h0 sb "java/lang/AbstractStringBuilder" "count" "I" (.int cn)) (gv_ : n0 ≤ va) (Do1 : Sta Z h0 "java/lang/Integer" "DigitOnes" "[B" (.ref zo)) (Dt1 : Sta Z h0 "java/lang/Integer" "DigitTens" "[B" (.ref zt)) (Do2 : ByA Z h0 zo (100 : Int32)) (Dt2 : ByA Z h0 zt (100 : Int32)) (nsbva : sb ≠ va) (nvazo : va ≠ zo) (nvazt : va ≠ zt) (nz1b : zo ≠ sb) (nz2b : zt ≠ sb) (hsz : own_size xi = sz) (hlo : 11 ≤ (cn + sz).toInt) (hno : ¬ ((0 : Int32) < ((cn + sz) - dn))) (hhi : (cn + sz).toInt ≤ (dn).toInt) :
    MetFree l (⟨"java/lang/AbstractStringBuilder", "append", "(I)Ljava/lang/AbstractStringBuilder;"⟩ : MethodName) (head1 (Jvm.Cond.code (⟨"java/lang/AbstractStringBuilder", "append", "(I)Ljava/lang/AbstractStringBuilder;"⟩ : MethodName) jdk_68_method_32_code 4 (some (.object "java/lang/AbstractStringBuilder")) :: ws) ({ frames := 1, cells := 0, slots := 0, locals := 18 } : Room)) (fun a U => a = #[(.ref sb), (.int xi)] ∧ Z.Warmed39 U.vm ∧ U.heap = h0) (fun _ _ _ _ _ => True) (fun _ U o U' => ∃ v L, o = .returned v ∧ QapIN Z sb xi cs va dn cn sz zo zt h0 n0 v U'.heap L ∧ FrameEnd U o U' L ({ frames := 1, cells := 0, slots := 0, locals := 18 } : Room).cells ({ frames := 1, cells := 0, slots := 0, locals := 18 } : Room).slots) := by
  refine MetFree.of_bodySF (plainFor_of_name own_pn_java_lang_AbstractStringBuilder) hisR ?_
  intro p e s m args below meth c s₁ Bd hml0 hP hK
  obtain ⟨rfl, hZ, hh⟩ := hP
  have hx := Bd.exec
  have hby := Bd.bytes
  have hml : c.maxLocals = 4 := hml0
  have hlk := Bd.notSynchronized
  have hown : s.vm.findClass "java/lang/AbstractStringBuilder" = some m.cls := findClass_of_methodNamed Bd.named
  have hnm := (name_of_methodNamed Bd.named Bd.method).1
  have X0 : Stand p l e ({ frames := 1, cells := 0, slots := 0, locals := 18 } : Room) s m #[(.ref sb), (.int xi)] below meth c s₁ [] 0 0 := Stand.of_body Bd
  have e0 : s₁.heap = h0 := by rw [← hh, Bd.state]; rfl
  have N0 := Fr.nil n0
  have K0 : Keep h0 h0 [sb, va] := Keep.refl _ _
  refine own_enter (P := (Done s ({ frames := 1, cells := 0, slots := 0, locals := 18 } : Room).cells ({ frames := 1, cells := 0, slots := 0, locals := 18 } : Room).slots (QapIN Z sb xi cs va dn cn sz zo zt h0 n0))) (Ls := #[.val (.ref sb), .val (.int xi), .unset, .unset]) (by first | (simp [entryFrame, mkF, argsToLocals, Value.category]; done) | rfl) ?_
  refine own_aloadN X0 hx 1 rfl (hb hby own_d14_0) rfl rfl ?_
  obtain ⟨T1, X1, e1, st1⟩ := getF X0 hx hZ hown (host := "") (Or.inl (hw _ (List.mem_of_getElem? (i := 62) rfl))) Via.refl e0 Fn (g := (mkF m 1 #[.val (.ref sb), .val (.int xi), .unset, .unset] [(.ref sb)])) rfl rfl (hb hby own_d14_1)
  refine Goes.go st1 ?_
  show Goes p e below _ T1 (mkF m 4 #[.val (.ref sb), .val (.int xi), .unset, .unset] [(.int cn)])
  refine own_istoreN X1 hx 5 rfl #[.val (.ref sb), .val (.int xi), .val (.int cn), .unset] (hb hby own_d14_4) rfl ?_
  refine own_iloadN X1 hx 6 rfl (hb hby own_d14_5) rfl ?_
  refine own_iloadN X1 hx 7 rfl (hb hby own_d14_6) rfl ?_
  obtain ⟨_, _, ⟨T2, L2, k2, n2⟩, -, X2, ⟨Lc2, hQ2, l2, y2, z2⟩, st2⟩ := Jvm.LawKit.callS X1 hx (y := (⟨"java/lang/Integer", "stringSize", "(I)I"⟩ : MethodName)) hown (mvT hZ (hw _ (List.mem_of_getElem? (i := 98) rfl))) (mvT hZ (hw _ (List.mem_of_getElem? (i := 99) rfl))) (mvT hZ (hw _ (List.mem_of_getElem? (i := 100) rfl))) (mvT hZ (hw _ (List.mem_of_getElem? (i := 101) rfl))) (by decide) (backOf (W := 1) (rm15 l Z a0 hw [] xi sz h0 n0 Z0 hsz) hZ (hw _ (List.mem_of_getElem? (i := 101) rfl)) (hw _ (List.mem_of_getElem? (i := 100) rfl)) (by decide) (by decide)) (g := (mkF m 7 #[.val (.ref sb), .val (.int xi), .val (.int cn), .unset] [(.int xi), (.int cn)])) rfl (by rw [hml]; rfl) (argsL := [(.int xi)]) (rest := [(.int cn)]) (lenOf own_pd7 rfl) rfl (by show 2 * 0 + _ ≤ _; exact Nat.le_of_eq rfl) (hb hby own_d14_7) (fun _ _ => ⟨rfl, e1, (by decide : 0 + 0 ≤ _), (by decide : 0 + 0 ≤ _)⟩)
  dsimp only [Pt.U, Pt.locs, Pt.cells, Pt.slots] at X2 l2 y2 z2 st2 hQ2
  subst l2 y2 z2
  obtain ⟨rfl, N2q, eh2⟩ := hQ2
  have N2 := Fr.app N0 N2q
  refine Goes.go st2 ?_
  show Goes p e below _ T2 (mkF m 10 #[.val (.ref sb), .val (.int xi), .val (.int cn), .unset] [(.int sz), (.int cn)])
  refine own_iadd X2 hx 11 rfl (hb hby own_d14_10) rfl ?_
  refine own_istoreN X2 hx 12 rfl #[.val (.ref sb), .val (.int xi), .val (.int cn), .val (.int (cn + sz))] (hb hby own_d14_11) rfl ?_
  refine own_aloadN X2 hx 13 rfl (hb hby own_d14_12) rfl rfl ?_
  refine own_iloadN X2 hx 14 rfl (hb hby own_d14_13) rfl ?_
  obtain ⟨cq3, q3, q3'⟩ := Eb.cell
  obtain ⟨_, _, ⟨T3, L3, k3, n3⟩, -, X3, ⟨Lc3, hQ3, l3, y3, z3⟩, st3⟩ := X2.privateBack hx (y := (⟨"java/lang/AbstractStringBuilder", "ensureCapacityInternal", "(I)V"⟩ : MethodName)) hown (mvT hZ (hw _ (List.mem_of_getElem? (i := 64) rfl))) (mvT hZ (hw _ (List.mem_of_getElem? (i := 65) rfl))) (own_selUp (mvT hZ (hw _ (List.mem_of_getElem? (i := 67) rfl))) (mvP hZ (hw _ (List.mem_of_getElem? (i := 66) rfl))) (mvT hZ (hw _ (List.mem_of_getElem? (i := 65) rfl))) (by decide)) (Cond.privateMethod_at (mvP hZ (hw _ (List.mem_of_getElem? (i := 66) rfl)) (args := #[]))) (mvT hZ (hw _ (List.mem_of_getElem? (i := 68) rfl))) (by decide) (backOf (W := 0) (rmensN l Z a0 hw [] sb (cn + sz) va dn h0 n0 Z0 Fv Fc Bv hno) hZ (hw _ (List.mem_of_getElem? (i := 68) rfl)) (hw _ (List.mem_of_getElem? (i := 21) rfl)) (by decide) (by decide)) (g := (mkF m 14 #[.val (.ref sb), .val (.int xi), .val (.int cn), .val (.int (cn + sz))] [(.int (cn + sz)), (.ref sb)])) rfl (by rw [hml]; rfl) (Steps.refl _) (a := sb) (by rw [eh2]; exact q3) q3' (argsL := [(.int (cn + sz))]) (rest := []) (lenOf own_pd4 rfl) rfl (by show 2 * 0 + _ ≤ _; exact Nat.le_of_eq rfl) (hb hby own_d14_14) (fun _ _ => ⟨rfl, eh2, (by decide : 0 + 0 ≤ _), (by decide : 0 + 0 ≤ _)⟩)
  dsimp only [Pt.U, Pt.locs, Pt.cells, Pt.slots] at X3 l3 y3 z3 st3 hQ3
  subst l3 y3 z3
  obtain ⟨rfl, N3q, eh3⟩ := hQ3
  have N3 := Fr.app N2 N3q
  refine Goes.tr st3 ?_
  show Goes p e below _ T3 (mkF m 17 #[.val (.ref sb), .val (.int xi), .val (.int cn), .val (.int (cn + sz))] [])
  refine own_aloadN X3 hx 18 rfl (hb hby own_d14_17) rfl rfl ?_
  obtain ⟨cq4, kq4, q4a, q4b, q4c⟩ := isOf hZ eh3 Eb
  obtain ⟨_, _, ⟨T4, L4, k4, n4⟩, -, X4, ⟨Lc4, hQ4, l4, y4, z4⟩, st4⟩ := X3.virtualBack hx (y := (⟨"java/lang/AbstractStringBuilder", "isLatin1", "()Z"⟩ : MethodName)) (z := (⟨"java/lang/AbstractStringBuilder", "isLatin1", "()Z"⟩ : MethodName)) hown (mvT hZ (hw _ (List.mem_of_getElem? (i := 125) rfl))) (mvT hZ (hw _ (List.mem_of_getElem? (i := 126) rfl))) (notFace_of_selects (args := #[]) (mvT hZ (hw _ (List.mem_of_getElem? (i := 128) rfl)))) (mvT hZ (hw _ (List.mem_of_getElem? (i := 128) rfl))) (mvT hZ (hw _ (List.mem_of_getElem? (i := 127) rfl))) (by decide) (backOf (W := 0) (rm21 l Z a0 hw [] sb cs h0 n0 Z0 Sc hcs Fc) hZ (hw _ (List.mem_of_getElem? (i := 129) rfl)) (hw _ (List.mem_of_getElem? (i := 21) rfl)) (by decide) (by decide)) q4a q4c (g := (mkF m 18 #[.val (.ref sb), .val (.int xi), .val (.int cn), .val (.int (cn + sz))] [(.ref sb)])) rfl (by rw [hml]; rfl) (Steps.refl _) (argsL := []) (rest := []) (lenOf own_pd13 rfl) rfl (by show 2 * 0 + _ ≤ _; exact Nat.le_of_eq rfl) (hb hby own_d14_18) (fun _ _ => ⟨rfl, eh3, (by decide : 0 + 0 ≤ _), (by decide : 0 + 0 ≤ _)⟩)
  dsimp only [Pt.U, Pt.locs, Pt.cells, Pt.slots] at X4 l4 y4 z4 st4 hQ4
  subst l4 y4 z4
  obtain ⟨rfl, N4q, eh4⟩ := hQ4
  have N4 := Fr.app N3 N4q
  refine Goes.tr st4 ?_
  show Goes p e below _ T4 (mkF m 21 #[.val (.ref sb), .val (.int xi), .val (.int cn), .val (.int (cn + sz))] [(.int (1 : Int32))])
  refine own_ifN X4 hx 24 (hb hby own_d14_21) ((if0 _ _).trans (feq ((by decide) : ¬ ((1 : Int32) = (0 : Int32)))).1) rfl ?_
  refine own_iloadN X4 hx 25 rfl (hb hby own_d14_24) rfl ?_
  refine own_iloadN X4 hx 26 rfl (hb hby own_d14_25) rfl ?_
  refine own_aloadN X4 hx 27 rfl (hb hby own_d14_26) rfl rfl ?_
  obtain ⟨T5, X5, e5, st5⟩ := getF X4 hx hZ hown (host := "") (Or.inl (hw _ (List.mem_of_getElem? (i := 29) rfl))) Via.refl eh4 Fv (g := (mkF m 27 #[.val (.ref sb), .val (.int xi), .val (.int cn), .val (.int (cn + sz))] [(.ref sb), (.int (cn + sz)), (.int xi)])) rfl rfl (hb hby own_d14_27)
  refine Goes.go st5 ?_
  show Goes p e below _ T5 (mkF m 30 #[.val (.ref sb), .val (.int xi), .val (.int cn), .val (.int (cn + sz))] [(.ref va), (.int (cn + sz)), (.int xi)])
  obtain ⟨_, _, ⟨T6, L6, k6, n6⟩, -, X6, ⟨Lc6, hQ6, l6, y6, z6⟩, st6⟩ := Jvm.LawKit.callS X5 hx (y := (⟨"java/lang/Integer", "getChars", "(II[B)I"⟩ : MethodName)) hown (mvT hZ (hw _ (List.mem_of_getElem? (i := 130) rfl))) (mvT hZ (hw _ (List.mem_of_getElem? (i := 131) rfl))) (mvT hZ (hw _ (List.mem_of_getElem? (i := 100) rfl))) (mvT hZ (hw _ (List.mem_of_getElem? (i := 132) rfl))) (by decide) (backOf (W := 0) (rm22 l Z a0 hw [] xi (cn + sz) va dn zo zt h0 n0 Z0 Bv gv_ Do1 Dt1 Do2 Dt2 nvazo nvazt hlo hhi) hZ (hw _ (List.mem_of_getElem? (i := 132) rfl)) (hw _ (List.mem_of_getElem? (i := 100) rfl)) (by decide) (by decide)) (g := (mkF m 30 #[.val (.ref sb), .val (.int xi), .val (.int cn), .val (.int (cn + sz))] [(.ref va), (.int (cn + sz)), (.int xi)])) rfl (by rw [hml]; rfl) (argsL := [(.int xi), (.int (cn + sz)), (.ref va)]) (rest := []) (lenOf own_pd14 rfl) rfl (by show 2 * 0 + _ ≤ _; exact Nat.le_of_eq rfl) (hb hby own_d14_30) (fun _ _ => ⟨rfl, e5, (by decide : 0 + 0 ≤ _), (by decide : 0 + 0 ≤ _)⟩)
  dsimp only [Pt.U, Pt.locs, Pt.cells, Pt.slots] at X6 l6 y6 z6 st6 hQ6
  subst l6 y6 z6
  obtain ⟨gr__6, rfl, N6q, K6q, f6_0⟩ := hQ6
  have N6 := Fr.app N4 N6q
  have f7 := own_sta_keep Sc K6q (allS Bv.plain all0)
  have f8 := Eb.keep K6q
  have f9 := Fv.keep K6q (ninS nsbva nin0)
  have f10 := Fc.keep K6q (ninS nsbva nin0)
  have f11 := Fn.keep K6q (ninS nsbva nin0)
  have f12 := own_sta_keep Do1 K6q (allS Bv.plain all0)
  have f13 := own_sta_keep Dt1 K6q (allS Bv.plain all0)
  have f14 := Do2.keep K6q (ninS (Ne.symm nvazo) nin0)
  have f15 := Dt2.keep K6q (ninS (Ne.symm nvazt) nin0)
  have K6 := K0.trans K6q (allS (Or.inl (List.mem_of_getElem? (i := 1) rfl)) all0)
  have Z6 := Nat.le_trans Z0 K6q.1
  refine Goes.go st6 ?_
  show Goes p e below _ T6 (mkF m 33 #[.val (.ref sb), .val (.int xi), .val (.int cn), .val (.int (cn + sz))] [(.int gr__6)])
  refine own_pop X6 hx 34 rfl (hb hby own_d14_33) rfl ?_
  refine own_goto X6 hx 48 (hb hby own_d14_34) (by decide) (by decide) ?_
  refine own_aloadN X6 hx 49 rfl (hb hby own_d14_48) rfl rfl ?_
  refine own_iloadN X6 hx 50 rfl (hb hby own_d14_49) rfl ?_
  obtain ⟨T16, h16, X16, e16, W16, st16⟩ := putF X6 hx hZ hown (host := "") (Or.inl (hw _ (List.mem_of_getElem? (i := 62) rfl))) Via.refl rfl f11 f8 (Or.inl (hw _ (List.mem_of_getElem? (i := 63) rfl))) (hw _ (List.mem_of_getElem? (i := 12) rfl)) (ty := .int) (by decide) rfl rfl (g := (mkF m 50 #[.val (.ref sb), .val (.int xi), .val (.int cn), .val (.int (cn + sz))] [(.int (cn + sz)), (.ref sb)])) rfl rfl (hb hby own_d14_50)
  have N16 := Fr.snoc X16 N6 gb
  have f17 := f7.wr W16
  have f18 := f8.wr W16
  have f19 := f9.other W16 (Or.inr (slot_ne (Or.inl (hw _ (List.mem_of_getElem? (i := 30) rfl))) (Or.inl (hw _ (List.mem_of_getElem? (i := 63) rfl))) (by decide) (t := (.array .byte)) (t' := .int) (by decide) (by decide)))
  have f20 := f10.other W16 (Or.inr (slot_ne (Or.inl (hw _ (List.mem_of_getElem? (i := 32) rfl))) (Or.inl (hw _ (List.mem_of_getElem? (i := 63) rfl))) (by decide) (t := .byte) (t' := .int) (by decide) (by decide)))
  have f21 := f11.same W16
  have f22 := f12.wr W16
  have f23 := f13.wr W16
  have f24 := f14.other W16 nz1b
  have f25 := f15.other W16 nz2b
  have f26 := f6_0.other W16 (Ne.symm nsbva)
  have K16 := K6.wr W16 (Or.inl (List.mem_of_getElem? (i := 0) rfl))
  have Z16 := Nat.le_trans Z6 (Nat.le_of_eq W16.size.symm)
  refine Goes.go st16 ?_
  show Goes p e below _ T16 (mkF m 53 #[.val (.ref sb), .val (.int xi), .val (.int cn), .val (.int (cn + sz))] [])
  refine own_aloadN X16 hx 54 rfl (hb hby own_d14_53) rfl rfl ?_
  refine own_retR X16 hx hlk Bd.returns rfl rfl (hb hby own_d14_54) (by decide) (by decide) e16 ?_
  exact ⟨rfl, N16, K16, f19, f20, f21, f26⟩
def QapIG (Z : State) (sb : Addr) (xi : Int32) (cs : Int32) (va : Addr) (dn : Int32) (cn : Int32) (sz : Int32) (zo : Addr) (zt : Addr) (mr : Int32) (h0 : Heap) (n0 : Nat) (v : Option Value) (h : Heap) (L : List Loc) : Prop := ∃ va2 : Addr, v = some (.ref sb) ∧ Fr n0 L ∧ Keep h0 h [sb] ∧ h0.size ≤ va2 ∧ Fld Z h sb "java/lang/AbstractStringBuilder" "value" "[B" (.ref va2) ∧ Fld Z h sb "java/lang/AbstractStringBuilder" "coder" "B" (.int (0 : Int32)) ∧ Fld Z h sb "java/lang/AbstractStringBuilder" "count" "I" (.int (cn + sz)) ∧ ByA Z h va2 (dn + mr)
set_option maxRecDepth 65536 in
set_option maxHeartbeats 40000000 in
theorem rmapIG (l : Launch) (Z : State) (a0 : Array Value) (hw : ∀ d ∈ tables_1, d.before a0 Z = true) (ws : List Jvm.Cond) (sb : Addr) (xi : Int32) (cs : Int32) (va : Addr) (dn : Int32) (cn : Int32) (sz : Int32) (zo : Addr) (zt : Addr) (mr : Int32) (h0 : Heap) (n0 : Nat) (Z0 : n0 ≤ h0.size) (Sc : Sta Z h0 "java/lang/String" "COMPACT_STRINGS" "Z" (.int cs)) (hcs : ¬ (cs = (0 : Int32))) (Eb : Exa Z h0 sb "java/lang/StringBuilder") (gb : n0 ≤ sb) (Fv : Fld Z h0 sb "java/lang/AbstractStringBuilder" "value" "[B" (.ref va)) (Fc : Fld Z h0 sb "java/lang/AbstractStringBuilder" "coder" "B" (.int (0 : Int32))) (Bv : ByA Z h0 va dn) (Fn : Fld Z h0 sb "java/lang/AbstractStringBuilder" "count" "I" (.int cn)) (gv_ : n0 ≤ va) (Do1 : Sta Z h0 "java/lang/Integer" "DigitOnes" "[B" (.ref zo)) (Dt1 : Sta Z h0 "java/lang/Integer" "DigitTens" "[B" (.ref zt)) (Do2 : ByA Z h0 zo (100 : Int32)) (Dt2 : ByA Z h0 zt (100 : Int32)) (nsbva : sb ≠ va) (nvazo : va ≠ zo) (nvazt : va ≠ zt) (nz1b : zo ≠ sb) (nz2b : zt ≠ sb) (hsz : own_size xi = sz) (hlo : 11 ≤ (cn + sz).toInt) (hgr : (0 : Int32) < ((cn + sz) - dn)) (hm : (if ((cn + sz) - dn) < (dn + (2 : Int32)) then (dn + (2 : Int32)) else ((cn + sz) - dn)) = mr) (hp : (0 : Int32) < (dn + mr)) (hs : ¬ ((2147483639 : Int32) < (dn + mr))) (hmx : ¬ ((dn + mr) = (2147483647 : Int32))) (hne : ¬ ((dn + mr) = dn)) (hn0 : ¬ ((dn + mr) < (0 : Int32))) (hcp : ((dn + mr)).toNatClampNeg ≤ 100) (hmi : ¬ ((dn + mr) < dn)) (hhi : (cn + sz).toInt ≤ ((dn + mr)).toInt) :
    MetFree l (⟨"java/lang/AbstractStringBuilder", "append", "(I)Ljava/lang/AbstractStringBuilder;"⟩ : MethodName) (head1 (Jvm.Cond.code (⟨"java/lang/AbstractStringBuilder", "append", "(I)Ljava/lang/AbstractStringBuilder;"⟩ : MethodName) jdk_68_method_32_code 4 (some (.object "java/lang/AbstractStringBuilder")) :: ws) ({ frames := 4, cells := 1, slots := 100, locals := 62 } : Room)) (fun a U => a = #[(.ref sb), (.int xi)] ∧ Z.Warmed39 U.vm ∧ U.heap = h0) (fun _ _ _ _ _ => True) (fun _ U o U' => ∃ v L, o = .returned v ∧ QapIG Z sb xi cs va dn cn sz zo zt mr h0 n0 v U'.heap L ∧ FrameEnd U o U' L ({ frames := 4, cells := 1, slots := 100, locals := 62 } : Room).cells ({ frames := 4, cells := 1, slots := 100, locals := 62 } : Room).slots) := by
  refine MetFree.of_bodySF (plainFor_of_name own_pn_java_lang_AbstractStringBuilder) hisR ?_
  intro p e s m args below meth c s₁ Bd hml0 hP hK
  obtain ⟨rfl, hZ, hh⟩ := hP
  have hx := Bd.exec
  have hby := Bd.bytes
  have hml : c.maxLocals = 4 := hml0
  have hlk := Bd.notSynchronized
  have hown : s.vm.findClass "java/lang/AbstractStringBuilder" = some m.cls := findClass_of_methodNamed Bd.named
  have hnm := (name_of_methodNamed Bd.named Bd.method).1
  have X0 : Stand p l e ({ frames := 4, cells := 1, slots := 100, locals := 62 } : Room) s m #[(.ref sb), (.int xi)] below meth c s₁ [] 0 0 := Stand.of_body Bd
  have e0 : s₁.heap = h0 := by rw [← hh, Bd.state]; rfl
  have N0 := Fr.nil n0
  have K0 : Keep h0 h0 [sb] := Keep.refl _ _
  refine own_enter (P := (Done s ({ frames := 4, cells := 1, slots := 100, locals := 62 } : Room).cells ({ frames := 4, cells := 1, slots := 100, locals := 62 } : Room).slots (QapIG Z sb xi cs va dn cn sz zo zt mr h0 n0))) (Ls := #[.val (.ref sb), .val (.int xi), .unset, .unset]) (by first | (simp [entryFrame, mkF, argsToLocals, Value.category]; done) | rfl) ?_
  refine own_aloadN X0 hx 1 rfl (hb hby own_d14_0) rfl rfl ?_
  obtain ⟨T1, X1, e1, st1⟩ := getF X0 hx hZ hown (host := "") (Or.inl (hw _ (List.mem_of_getElem? (i := 62) rfl))) Via.refl e0 Fn (g := (mkF m 1 #[.val (.ref sb), .val (.int xi), .unset, .unset] [(.ref sb)])) rfl rfl (hb hby own_d14_1)
  refine Goes.go st1 ?_
  show Goes p e below _ T1 (mkF m 4 #[.val (.ref sb), .val (.int xi), .unset, .unset] [(.int cn)])
  refine own_istoreN X1 hx 5 rfl #[.val (.ref sb), .val (.int xi), .val (.int cn), .unset] (hb hby own_d14_4) rfl ?_
  refine own_iloadN X1 hx 6 rfl (hb hby own_d14_5) rfl ?_
  refine own_iloadN X1 hx 7 rfl (hb hby own_d14_6) rfl ?_
  obtain ⟨_, _, ⟨T2, L2, k2, n2⟩, -, X2, ⟨Lc2, hQ2, l2, y2, z2⟩, st2⟩ := Jvm.LawKit.callS X1 hx (y := (⟨"java/lang/Integer", "stringSize", "(I)I"⟩ : MethodName)) hown (mvT hZ (hw _ (List.mem_of_getElem? (i := 98) rfl))) (mvT hZ (hw _ (List.mem_of_getElem? (i := 99) rfl))) (mvT hZ (hw _ (List.mem_of_getElem? (i := 100) rfl))) (mvT hZ (hw _ (List.mem_of_getElem? (i := 101) rfl))) (by decide) (backOf (W := 1) (rm15 l Z a0 hw [] xi sz h0 n0 Z0 hsz) hZ (hw _ (List.mem_of_getElem? (i := 101) rfl)) (hw _ (List.mem_of_getElem? (i := 100) rfl)) (by decide) (by decide)) (g := (mkF m 7 #[.val (.ref sb), .val (.int xi), .val (.int cn), .unset] [(.int xi), (.int cn)])) rfl (by rw [hml]; rfl) (argsL := [(.int xi)]) (rest := [(.int cn)]) (lenOf own_pd7 rfl) rfl (by show 2 * 0 + _ ≤ _; exact Nat.le_of_eq rfl) (hb hby own_d14_7) (fun _ _ => ⟨rfl, e1, (by decide : 0 + 0 ≤ _), (by decide : 0 + 0 ≤ _)⟩)
  dsimp only [Pt.U, Pt.locs, Pt.cells, Pt.slots] at X2 l2 y2 z2 st2 hQ2
  subst l2 y2 z2
  obtain ⟨rfl, N2q, eh2⟩ := hQ2
  have N2 := Fr.app N0 N2q
  refine Goes.go st2 ?_
  show Goes p e below _ T2 (mkF m 10 #[.val (.ref sb), .val (.int xi), .val (.int cn), .unset] [(.int sz), (.int cn)])
  refine own_iadd X2 hx 11 rfl (hb hby own_d14_10) rfl ?_
  refine own_istoreN X2 hx 12 rfl #[.val (.ref sb), .val (.int xi), .val (.int cn), .val (.int (cn + sz))] (hb hby own_d14_11) rfl ?_
  refine own_aloadN X2 hx 13 rfl (hb hby own_d14_12) rfl rfl ?_
  refine own_iloadN X2 hx 14 rfl (hb hby own_d14_13) rfl ?_
  obtain ⟨cq3, q3, q3'⟩ := Eb.cell
  obtain ⟨_, _, ⟨T3, L3, k3, n3⟩, -, X3, ⟨Lc3, hQ3, l3, y3, z3⟩, st3⟩ := X2.privateBack hx (y := (⟨"java/lang/AbstractStringBuilder", "ensureCapacityInternal", "(I)V"⟩ : MethodName)) hown (mvT hZ (hw _ (List.mem_of_getElem? (i := 64) rfl))) (mvT hZ (hw _ (List.mem_of_getElem? (i := 65) rfl))) (own_selUp (mvT hZ (hw _ (List.mem_of_getElem? (i := 67) rfl))) (mvP hZ (hw _ (List.mem_of_getElem? (i := 66) rfl))) (mvT hZ (hw _ (List.mem_of_getElem? (i := 65) rfl))) (by decide)) (Cond.privateMethod_at (mvP hZ (hw _ (List.mem_of_getElem? (i := 66) rfl)) (args := #[]))) (mvT hZ (hw _ (List.mem_of_getElem? (i := 68) rfl))) (by decide) (backOf (W := 0) (rmensG l Z a0 hw [] sb (cn + sz) va dn cn mr h0 n0 Z0 Eb gb Fv Fc Bv Fn nsbva hgr hm hp hs hmx hne hn0 hcp hmi) hZ (hw _ (List.mem_of_getElem? (i := 68) rfl)) (hw _ (List.mem_of_getElem? (i := 21) rfl)) (by decide) (by decide)) (g := (mkF m 14 #[.val (.ref sb), .val (.int xi), .val (.int cn), .val (.int (cn + sz))] [(.int (cn + sz)), (.ref sb)])) rfl (by rw [hml]; rfl) (Steps.refl _) (a := sb) (by rw [eh2]; exact q3) q3' (argsL := [(.int (cn + sz))]) (rest := []) (lenOf own_pd4 rfl) rfl (by show 2 * 0 + _ ≤ _; exact Nat.le_of_eq rfl) (hb hby own_d14_14) (fun _ _ => ⟨rfl, eh2, (by decide : 0 + 1 ≤ _), (by decide : 0 + 100 ≤ _)⟩)
  dsimp only [Pt.U, Pt.locs, Pt.cells, Pt.slots] at X3 l3 y3 z3 st3 hQ3
  subst l3 y3 z3
  obtain ⟨va2_3, rfl, N3q, K3q, f3_0, f3_1, f3_2, f3_3, f3_4⟩ := hQ3
  have N3 := Fr.app N2 N3q
  have ne4 : sb ≠ va2_3 := Nat.ne_of_lt (Nat.lt_of_lt_of_le Eb.lt f3_0)
  have ne5 : va ≠ va2_3 := Nat.ne_of_lt (Nat.lt_of_lt_of_le Bv.lt f3_0)
  have ne6 : zo ≠ va2_3 := Nat.ne_of_lt (Nat.lt_of_lt_of_le Do2.lt f3_0)
  have ne7 : zt ≠ va2_3 := Nat.ne_of_lt (Nat.lt_of_lt_of_le Dt2.lt f3_0)
  have GG8 : n0 ≤ va2_3 := Nat.le_trans Z0 f3_0
  have HG8 : h0.size ≤ va2_3 := Nat.le_trans K0.1 f3_0
  have f9 := own_sta_keep Sc K3q (allS (own_eplain Eb) all0)
  have f10 := Eb.keep K3q
  have f11 := Bv.keep K3q (ninS (Ne.symm nsbva) nin0)
  have f12 := own_sta_keep Do1 K3q (allS (own_eplain Eb) all0)
  have f13 := own_sta_keep Dt1 K3q (allS (own_eplain Eb) all0)
  have f14 := Do2.keep K3q (ninS nz1b nin0)
  have f15 := Dt2.keep K3q (ninS nz2b nin0)
  have K3 := K0.trans K3q (allS (Or.inl (List.mem_of_getElem? (i := 0) rfl)) all0)
  have Z3 := Nat.le_trans Z0 K3q.1
  refine Goes.tr st3 ?_
  show Goes p e below _ T3 (mkF m 17 #[.val (.ref sb), .val (.int xi), .val (.int cn), .val (.int (cn + sz))] [])
  refine own_aloadN X3 hx 18 rfl (hb hby own_d14_17) rfl rfl ?_
  obtain ⟨cq16, kq16, q16a, q16b, q16c⟩ := isOf hZ rfl f10
  obtain ⟨_, _, ⟨T16, L16, k16, n16⟩, -, X16, ⟨Lc16, hQ16, l16, y16, z16⟩, st16⟩ := X3.virtualBack hx (y := (⟨"java/lang/AbstractStringBuilder", "isLatin1", "()Z"⟩ : MethodName)) (z := (⟨"java/lang/AbstractStringBuilder", "isLatin1", "()Z"⟩ : MethodName)) hown (mvT hZ (hw _ (List.mem_of_getElem? (i := 125) rfl))) (mvT hZ (hw _ (List.mem_of_getElem? (i := 126) rfl))) (notFace_of_selects (args := #[]) (mvT hZ (hw _ (List.mem_of_getElem? (i := 128) rfl)))) (mvT hZ (hw _ (List.mem_of_getElem? (i := 128) rfl))) (mvT hZ (hw _ (List.mem_of_getElem? (i := 127) rfl))) (by decide) (backOf (W := 0) (rm21 l Z a0 hw [] sb cs T3.heap n0 Z3 f9 hcs f3_2) hZ (hw _ (List.mem_of_getElem? (i := 129) rfl)) (hw _ (List.mem_of_getElem? (i := 21) rfl)) (by decide) (by decide)) q16a q16c (g := (mkF m 18 #[.val (.ref sb), .val (.int xi), .val (.int cn), .val (.int (cn + sz))] [(.ref sb)])) rfl (by rw [hml]; rfl) (Steps.refl _) (argsL := []) (rest := []) (lenOf own_pd13 rfl) rfl (by show 2 * 0 + _ ≤ _; exact Nat.le_of_eq rfl) (hb hby own_d14_18) (fun _ _ => ⟨rfl, rfl, (by decide : 1 + 0 ≤ _), (by decide : 100 + 0 ≤ _)⟩)
  dsimp only [Pt.U, Pt.locs, Pt.cells, Pt.slots] at X16 l16 y16 z16 st16 hQ16
  subst l16 y16 z16
  obtain ⟨rfl, N16q, eh16⟩ := hQ16
  have N16 := Fr.app N3 N16q
  refine Goes.tr st16 ?_
  show Goes p e below _ T16 (mkF m 21 #[.val (.ref sb), .val (.int xi), .val (.int cn), .val (.int (cn + sz))] [(.int (1 : Int32))])
  refine own_ifN X16 hx 24 (hb hby own_d14_21) ((if0 _ _).trans (feq ((by decide) : ¬ ((1 : Int32) = (0 : Int32)))).1) rfl ?_
  refine own_iloadN X16 hx 25 rfl (hb hby own_d14_24) rfl ?_
  refine own_iloadN X16 hx 26 rfl (hb hby own_d14_25) rfl ?_
  refine own_aloadN X16 hx 27 rfl (hb hby own_d14_26) rfl rfl ?_
  obtain ⟨T17, X17, e17, st17⟩ := getF X16 hx hZ hown (host := "") (Or.inl (hw _ (List.mem_of_getElem? (i := 29) rfl))) Via.refl eh16 f3_1 (g := (mkF m 27 #[.val (.ref sb), .val (.int xi), .val (.int cn), .val (.int (cn + sz))] [(.ref sb), (.int (cn + sz)), (.int xi)])) rfl rfl (hb hby own_d14_27)
  refine Goes.go st17 ?_
  show Goes p e below _ T17 (mkF m 30 #[.val (.ref sb), .val (.int xi), .val (.int cn), .val (.int (cn + sz))] [(.ref va2_3), (.int (cn + sz)), (.int xi)])
  obtain ⟨_, _, ⟨T18, L18, k18, n18⟩, -, X18, ⟨Lc18, hQ18, l18, y18, z18⟩, st18⟩ := Jvm.LawKit.callS X17 hx (y := (⟨"java/lang/Integer", "getChars", "(II[B)I"⟩ : MethodName)) hown (mvT hZ (hw _ (List.mem_of_getElem? (i := 130) rfl))) (mvT hZ (hw _ (List.mem_of_getElem? (i := 131) rfl))) (mvT hZ (hw _ (List.mem_of_getElem? (i := 100) rfl))) (mvT hZ (hw _ (List.mem_of_getElem? (i := 132) rfl))) (by decide) (backOf (W := 0) (rm22 l Z a0 hw [] xi (cn + sz) va2_3 (dn + mr) zo zt T3.heap n0 Z3 f3_4 GG8 f12 f13 f14 f15 (Ne.symm ne6) (Ne.symm ne7) hlo hhi) hZ (hw _ (List.mem_of_getElem? (i := 132) rfl)) (hw _ (List.mem_of_getElem? (i := 100) rfl)) (by decide) (by decide)) (g := (mkF m 30 #[.val (.ref sb), .val (.int xi), .val (.int cn), .val (.int (cn + sz))] [(.ref va2_3), (.int (cn + sz)), (.int xi)])) rfl (by rw [hml]; rfl) (argsL := [(.int xi), (.int (cn + sz)), (.ref va2_3)]) (rest := []) (lenOf own_pd14 rfl) rfl (by show 2 * 0 + _ ≤ _; exact Nat.le_of_eq rfl) (hb hby own_d14_30) (fun _ _ => ⟨rfl, e17, (by decide : 1 + 0 ≤ _), (by decide : 100 + 0 ≤ _)⟩)
  dsimp only [Pt.U, Pt.locs, Pt.cells, Pt.slots] at X18 l18 y18 z18 st18 hQ18
  subst l18 y18 z18
  obtain ⟨gr__18, rfl, N18q, K18q, f18_0⟩ := hQ18
  have N18 := Fr.app N16 N18q
  have f19 := own_sta_keep f9 K18q (allS f3_4.plain all0)
  have f20 := f10.keep K18q
  have f21 := f11.keep K18q (ninS ne5 nin0)
  have f22 := own_sta_keep f12 K18q (allS f3_4.plain all0)
  have f23 := own_sta_keep f13 K18q (allS f3_4.plain all0)
  have f24 := f14.keep K18q (ninS ne6 nin0)
  have f25 := f15.keep K18q (ninS ne7 nin0)
  have f26 := f3_1.keep K18q (ninS ne4 nin0)
  have f27 := f3_2.keep K18q (ninS ne4 nin0)
  have f28 := f3_3.keep K18q (ninS ne4 nin0)
  have K18 := K3.trans K18q (allS (Or.inr HG8) all0)
  have Z18 := Nat.le_trans Z3 K18q.1
  refine Goes.go st18 ?_
  show Goes p e below _ T18 (mkF m 33 #[.val (.ref sb), .val (.int xi), .val (.int cn), .val (.int (cn + sz))] [(.int gr__18)])
  refine own_pop X18 hx 34 rfl (hb hby own_d14_33) rfl ?_
  refine own_goto X18 hx 48 (hb hby own_d14_34) (by decide) (by decide) ?_
  refine own_aloadN X18 hx 49 rfl (hb hby own_d14_48) rfl rfl ?_
  refine own_iloadN X18 hx 50 rfl (hb hby own_d14_49) rfl ?_
  obtain ⟨T29, h29, X29, e29, W29, st29⟩ := putF X18 hx hZ hown (host := "") (Or.inl (hw _ (List.mem_of_getElem? (i := 62) rfl))) Via.refl rfl f28 f20 (Or.inl (hw _ (List.mem_of_getElem? (i := 63) rfl))) (hw _ (List.mem_of_getElem? (i := 12) rfl)) (ty := .int) (by decide) rfl rfl (g := (mkF m 50 #[.val (.ref sb), .val (.int xi), .val (.int cn), .val (.int (cn + sz))] [(.int (cn + sz)), (.ref sb)])) rfl rfl (hb hby own_d14_50)
  have N29 := Fr.snoc X29 N18 gb
  have f30 := f19.wr W29
  have f31 := f20.wr W29
  have f32 := f21.other W29 (Ne.symm nsbva)
  have f33 := f22.wr W29
  have f34 := f23.wr W29
  have f35 := f24.other W29 nz1b
  have f36 := f25.other W29 nz2b
  have f37 := f26.other W29 (Or.inr (slot_ne (Or.inl (hw _ (List.mem_of_getElem? (i := 30) rfl))) (Or.inl (hw _ (List.mem_of_getElem? (i := 63) rfl))) (by decide) (t := (.array .byte)) (t' := .int) (by decide) (by decide)))
  have f38 := f27.other W29 (Or.inr (slot_ne (Or.inl (hw _ (List.mem_of_getElem? (i := 32) rfl))) (Or.inl (hw _ (List.mem_of_getElem? (i := 63) rfl))) (by decide) (t := .byte) (t' := .int) (by decide) (by decide)))
  have f39 := f28.same W29
  have f40 := f18_0.other W29 (Ne.symm ne4)
  have K29 := K18.wr W29 (Or.inl (List.mem_of_getElem? (i := 0) rfl))
  have Z29 := Nat.le_trans Z18 (Nat.le_of_eq W29.size.symm)
  refine Goes.go st29 ?_
  show Goes p e below _ T29 (mkF m 53 #[.val (.ref sb), .val (.int xi), .val (.int cn), .val (.int (cn + sz))] [])
  refine own_aloadN X29 hx 54 rfl (hb hby own_d14_53) rfl rfl ?_
  refine own_retR X29 hx hlk Bd.returns rfl rfl (hb hby own_d14_54) (by decide) (by decide) e29 ?_
  exact ⟨va2_3, rfl, N29, K29, HG8, f37, f38, f39, f40⟩
theorem own_pd15 : parseMethodDescriptor "(I)Ljava/lang/AbstractStringBuilder;" = some ⟨[.int], some (.object "java/lang/AbstractStringBuilder")⟩ := by decide +kernel
theorem own_d13_0 : decode jdk_67_method_15_code 0 = .ok (.aload_n 0, 1) := by decide +kernel
theorem own_d13_1 : decode jdk_67_method_15_code 1 = .ok (.iload_n 1, 1) := by decide +kernel
theorem own_d13_2 : decode jdk_67_method_15_code 2 = .ok (.invokespecial 53, 3) := by decide +kernel
theorem own_d13_5 : decode jdk_67_method_15_code 5 = .ok (.pop, 1) := by decide +kernel
theorem own_d13_6 : decode jdk_67_method_15_code 6 = .ok (.aload_n 0, 1) := by decide +kernel
theorem own_d13_7 : decode jdk_67_method_15_code 7 = .ok (.areturn, 1) := by decide +kernel
def QsaIN (Z : State) (sb : Addr) (xi : Int32) (cs : Int32) (va : Addr) (dn : Int32) (cn : Int32) (sz : Int32) (zo : Addr) (zt : Addr) (h0 : Heap) (n0 : Nat) (v : Option Value) (h : Heap) (L : List Loc) : Prop := v = some (.ref sb) ∧ Fr n0 L ∧ Keep h0 h [sb, va] ∧ Fld Z h sb "java/lang/AbstractStringBuilder" "value" "[B" (.ref va) ∧ Fld Z h sb "java/lang/AbstractStringBuilder" "coder" "B" (.int (0 : Int32)) ∧ Fld Z h sb "java/lang/AbstractStringBuilder" "count" "I" (.int (cn + sz)) ∧ ByA Z h va dn
set_option maxRecDepth 65536 in
set_option maxHeartbeats 40000000 in
theorem rmsaIN (l : Launch) (Z : State) (a0 : Array Value) (hw : ∀ d ∈ tables_1, d.before a0 Z = true) (ws : List Jvm.Cond) (sb : Addr) (xi : Int32) (cs : Int32) (va : Addr) (dn : Int32) (cn : Int32) (sz : Int32) (zo : Addr) (zt : Addr) (h0 : Heap) (n0 : Nat) (Z0 : n0 ≤ h0.size) (Sc : Sta Z h0 "java/lang/String" "COMPACT_STRINGS" "Z" (.int cs)) (hcs : ¬ (cs = (0 : Int32))) (Eb : Exa Z h0 sb "java/lang/StringBuilder") (gb : n0 ≤ sb) (Fv : Fld Z h0 sb "java/lang/AbstractStringBuilder" "value" "[B" (.ref va)) (Fc : Fld Z h0 sb "java/lang/AbstractStringBuilder" "coder" "B" (.int (0 : Int32))) (Bv : ByA Z h0 va dn) (Fn : Fld Z h0 sb "java/lang/AbstractStringBuilder" "count" "I" (.int cn)) (gv_ : n0 ≤ va) (Do1 : Sta Z h0 "java/lang/Integer" "DigitOnes" "[B" (.ref zo)) (Dt1 : Sta Z h0 "java/lang/Integer" "DigitTens" "[B" (.ref zt)) (Do2 : ByA Z h0 zo (100 : Int32)) (Dt2 : ByA Z h0 zt (100 : Int32)) (nsbva : sb ≠ va) (nvazo : va ≠ zo) (nvazt : va ≠ zt) (nz1b : zo ≠ sb) (nz2b : zt ≠ sb) (hsz : own_size xi = sz) (hlo : 11 ≤ (cn + sz).toInt) (hno : ¬ ((0 : Int32) < ((cn + sz) - dn))) (hhi : (cn + sz).toInt ≤ (dn).toInt) :
    MetFree l (⟨"java/lang/StringBuilder", "append", "(I)Ljava/lang/StringBuilder;"⟩ : MethodName) (head1 (Jvm.Cond.code (⟨"java/lang/StringBuilder", "append", "(I)Ljava/lang/StringBuilder;"⟩ : MethodName) jdk_67_method_15_code 2 (some (.object "java/lang/StringBuilder")) :: ws) ({ frames := 2, cells := 0, slots := 0, locals := 33 } : Room)) (fun a U => a = #[(.ref sb), (.int xi)] ∧ Z.Warmed39 U.vm ∧ U.heap = h0) (fun _ _ _ _ _ => True) (fun _ U o U' => ∃ v L, o = .returned v ∧ QsaIN Z sb xi cs va dn cn sz zo zt h0 n0 v U'.heap L ∧ FrameEnd U o U' L ({ frames := 2, cells := 0, slots := 0, locals := 33 } : Room).cells ({ frames := 2, cells := 0, slots := 0, locals := 33 } : Room).slots) := by
  refine MetFree.of_bodySF (plainFor_of_name own_pn_java_lang_StringBuilder) hisR ?_
  intro p e s m args below meth c s₁ Bd hml0 hP hK
  obtain ⟨rfl, hZ, hh⟩ := hP
  have hx := Bd.exec
  have hby := Bd.bytes
  have hml : c.maxLocals = 2 := hml0
  have hlk := Bd.notSynchronized
  have hown : s.vm.findClass "java/lang/StringBuilder" = some m.cls := findClass_of_methodNamed Bd.named
  have hnm := (name_of_methodNamed Bd.named Bd.method).1
  have X0 : Stand p l e ({ frames := 2, cells := 0, slots := 0, locals := 33 } : Room) s m #[(.ref sb), (.int xi)] below meth c s₁ [] 0 0 := Stand.of_body Bd
  have e0 : s₁.heap = h0 := by rw [← hh, Bd.state]; rfl
  have N0 := Fr.nil n0
  have K0 : Keep h0 h0 [sb, va] := Keep.refl _ _
  refine own_enter (P := (Done s ({ frames := 2, cells := 0, slots := 0, locals := 33 } : Room).cells ({ frames := 2, cells := 0, slots := 0, locals := 33 } : Room).slots (QsaIN Z sb xi cs va dn cn sz zo zt h0 n0))) (Ls := #[.val (.ref sb), .val (.int xi)]) (by first | (simp [entryFrame, mkF, argsToLocals, Value.category]; done) | rfl) ?_
  refine own_aloadN X0 hx 1 rfl (hb hby own_d13_0) rfl rfl ?_
  refine own_iloadN X0 hx 2 rfl (hb hby own_d13_1) rfl ?_
  obtain ⟨_, _, ⟨T1, L1, k1, n1⟩, -, X1, ⟨Lc1, hQ1, l1, y1, z1⟩, st1⟩ := superBack X0 hx hZ (y := (⟨"java/lang/AbstractStringBuilder", "append", "(I)Ljava/lang/AbstractStringBuilder;"⟩ : MethodName)) hown (hw _ (List.mem_of_getElem? (i := 94) rfl)) (own_sameM (y := (⟨"java/lang/AbstractStringBuilder", "append", "(I)Ljava/lang/AbstractStringBuilder;"⟩ : MethodName)) (own_nface (y := (⟨"java/lang/AbstractStringBuilder", "ensureCapacityInternal", "(I)V"⟩ : MethodName)) (hw _ (List.mem_of_getElem? (i := 67) rfl))) (hw _ (List.mem_of_getElem? (i := 95) rfl)) (by decide)) (hw _ (List.mem_of_getElem? (i := 95) rfl)) (hw _ (List.mem_of_getElem? (i := 46) rfl)) (by decide) (backOf (W := 0) (rmapIN l Z a0 hw [] sb xi cs va dn cn sz zo zt h0 n0 Z0 Sc hcs Eb gb Fv Fc Bv Fn gv_ Do1 Dt1 Do2 Dt2 nsbva nvazo nvazt nz1b nz2b hsz hlo hno hhi) hZ (hw _ (List.mem_of_getElem? (i := 97) rfl)) (hw _ (List.mem_of_getElem? (i := 21) rfl)) (by decide) (by decide)) e0 (Ins.self Eb) (g := (mkF m 2 #[.val (.ref sb), .val (.int xi)] [(.int xi), (.ref sb)])) rfl (by rw [hml]; rfl) (hw _ (List.mem_of_getElem? (i := 97) rfl)) (argsL := [(.int xi)]) (rest := []) (lenOf own_pd15 rfl) rfl (by show 2 * 0 + _ ≤ _; exact Nat.le_of_eq rfl) (hb hby own_d13_2) (fun _ _ => ⟨rfl, e0, (by decide : 0 + 0 ≤ _), (by decide : 0 + 0 ≤ _)⟩)
  dsimp only [Pt.U, Pt.locs, Pt.cells, Pt.slots] at X1 l1 y1 z1 st1 hQ1
  subst l1 y1 z1
  obtain ⟨rfl, N1q, K1q, f1_0, f1_1, f1_2, f1_3⟩ := hQ1
  have N1 := Fr.app N0 N1q
  have f2 := own_sta_keep Sc K1q (allS (own_eplain Eb) (allS Bv.plain all0))
  have f3 := Eb.keep K1q
  have f4 := own_sta_keep Do1 K1q (allS (own_eplain Eb) (allS Bv.plain all0))
  have f5 := own_sta_keep Dt1 K1q (allS (own_eplain Eb) (allS Bv.plain all0))
  have f6 := Do2.keep K1q (ninS nz1b (ninS (Ne.symm nvazo) nin0))
  have f7 := Dt2.keep K1q (ninS nz2b (ninS (Ne.symm nvazt) nin0))
  have K1 := K0.trans K1q (allS (Or.inl (List.mem_of_getElem? (i := 0) rfl)) (allS (Or.inl (List.mem_of_getElem? (i := 1) rfl)) all0))
  have Z1 := Nat.le_trans Z0 K1q.1
  refine Goes.tr st1 ?_
  show Goes p e below _ T1 (mkF m 5 #[.val (.ref sb), .val (.int xi)] [(.ref sb)])
  refine own_pop X1 hx 6 rfl (hb hby own_d13_5) rfl ?_
  refine own_aloadN X1 hx 7 rfl (hb hby own_d13_6) rfl rfl ?_
  refine own_retR X1 hx hlk Bd.returns rfl rfl (hb hby own_d13_7) (by decide) (by decide) rfl ?_
  exact ⟨rfl, N1, K1, f1_0, f1_1, f1_2, f1_3⟩
def QsaIG (Z : State) (sb : Addr) (xi : Int32) (cs : Int32) (va : Addr) (dn : Int32) (cn : Int32) (sz : Int32) (zo : Addr) (zt : Addr) (mr : Int32) (h0 : Heap) (n0 : Nat) (v : Option Value) (h : Heap) (L : List Loc) : Prop := ∃ va2 : Addr, v = some (.ref sb) ∧ Fr n0 L ∧ Keep h0 h [sb] ∧ h0.size ≤ va2 ∧ Fld Z h sb "java/lang/AbstractStringBuilder" "value" "[B" (.ref va2) ∧ Fld Z h sb "java/lang/AbstractStringBuilder" "coder" "B" (.int (0 : Int32)) ∧ Fld Z h sb "java/lang/AbstractStringBuilder" "count" "I" (.int (cn + sz)) ∧ ByA Z h va2 (dn + mr)
set_option maxRecDepth 65536 in
set_option maxHeartbeats 40000000 in
theorem rmsaIG (l : Launch) (Z : State) (a0 : Array Value) (hw : ∀ d ∈ tables_1, d.before a0 Z = true) (ws : List Jvm.Cond) (sb : Addr) (xi : Int32) (cs : Int32) (va : Addr) (dn : Int32) (cn : Int32) (sz : Int32) (zo : Addr) (zt : Addr) (mr : Int32) (h0 : Heap) (n0 : Nat) (Z0 : n0 ≤ h0.size) (Sc : Sta Z h0 "java/lang/String" "COMPACT_STRINGS" "Z" (.int cs)) (hcs : ¬ (cs = (0 : Int32))) (Eb : Exa Z h0 sb "java/lang/StringBuilder") (gb : n0 ≤ sb) (Fv : Fld Z h0 sb "java/lang/AbstractStringBuilder" "value" "[B" (.ref va)) (Fc : Fld Z h0 sb "java/lang/AbstractStringBuilder" "coder" "B" (.int (0 : Int32))) (Bv : ByA Z h0 va dn) (Fn : Fld Z h0 sb "java/lang/AbstractStringBuilder" "count" "I" (.int cn)) (gv_ : n0 ≤ va) (Do1 : Sta Z h0 "java/lang/Integer" "DigitOnes" "[B" (.ref zo)) (Dt1 : Sta Z h0 "java/lang/Integer" "DigitTens" "[B" (.ref zt)) (Do2 : ByA Z h0 zo (100 : Int32)) (Dt2 : ByA Z h0 zt (100 : Int32)) (nsbva : sb ≠ va) (nvazo : va ≠ zo) (nvazt : va ≠ zt) (nz1b : zo ≠ sb) (nz2b : zt ≠ sb) (hsz : own_size xi = sz) (hlo : 11 ≤ (cn + sz).toInt) (hgr : (0 : Int32) < ((cn + sz) - dn)) (hm : (if ((cn + sz) - dn) < (dn + (2 : Int32)) then (dn + (2 : Int32)) else ((cn + sz) - dn)) = mr) (hp : (0 : Int32) < (dn + mr)) (hs : ¬ ((2147483639 : Int32) < (dn + mr))) (hmx : ¬ ((dn + mr) = (2147483647 : Int32))) (hne : ¬ ((dn + mr) = dn)) (hn0 : ¬ ((dn + mr) < (0 : Int32))) (hcp : ((dn + mr)).toNatClampNeg ≤ 100) (hmi : ¬ ((dn + mr) < dn)) (hhi : (cn + sz).toInt ≤ ((dn + mr)).toInt) :
    MetFree l (⟨"java/lang/StringBuilder", "append", "(I)Ljava/lang/StringBuilder;"⟩ : MethodName) (head1 (Jvm.Cond.code (⟨"java/lang/StringBuilder", "append", "(I)Ljava/lang/StringBuilder;"⟩ : MethodName) jdk_67_method_15_code 2 (some (.object "java/lang/StringBuilder")) :: ws) ({ frames := 5, cells := 1, slots := 100, locals := 77 } : Room)) (fun a U => a = #[(.ref sb), (.int xi)] ∧ Z.Warmed39 U.vm ∧ U.heap = h0) (fun _ _ _ _ _ => True) (fun _ U o U' => ∃ v L, o = .returned v ∧ QsaIG Z sb xi cs va dn cn sz zo zt mr h0 n0 v U'.heap L ∧ FrameEnd U o U' L ({ frames := 5, cells := 1, slots := 100, locals := 77 } : Room).cells ({ frames := 5, cells := 1, slots := 100, locals := 77 } : Room).slots) := by
  refine MetFree.of_bodySF (plainFor_of_name own_pn_java_lang_StringBuilder) hisR ?_
  intro p e s m args below meth c s₁ Bd hml0 hP hK
  obtain ⟨rfl, hZ, hh⟩ := hP
  have hx := Bd.exec
  have hby := Bd.bytes
  have hml : c.maxLocals = 2 := hml0
  have hlk := Bd.notSynchronized
  have hown : s.vm.findClass "java/lang/StringBuilder" = some m.cls := findClass_of_methodNamed Bd.named
  have hnm := (name_of_methodNamed Bd.named Bd.method).1
  have X0 : Stand p l e ({ frames := 5, cells := 1, slots := 100, locals := 77 } : Room) s m #[(.ref sb), (.int xi)] below meth c s₁ [] 0 0 := Stand.of_body Bd
  have e0 : s₁.heap = h0 := by rw [← hh, Bd.state]; rfl
  have N0 := Fr.nil n0
  have K0 : Keep h0 h0 [sb] := Keep.refl _ _
  refine own_enter (P := (Done s ({ frames := 5, cells := 1, slots := 100, locals := 77 } : Room).cells ({ frames := 5, cells := 1, slots := 100, locals := 77 } : Room).slots (QsaIG Z sb xi cs va dn cn sz zo zt mr h0 n0))) (Ls := #[.val (.ref sb), .val (.int xi)]) (by first | (simp [entryFrame, mkF, argsToLocals, Value.category]; done) | rfl) ?_
  refine own_aloadN X0 hx 1 rfl (hb hby own_d13_0) rfl rfl ?_
  refine own_iloadN X0 hx 2 rfl (hb hby own_d13_1) rfl ?_
  obtain ⟨_, _, ⟨T1, L1, k1, n1⟩, -, X1, ⟨Lc1, hQ1, l1, y1, z1⟩, st1⟩ := superBack X0 hx hZ (y := (⟨"java/lang/AbstractStringBuilder", "append", "(I)Ljava/lang/AbstractStringBuilder;"⟩ : MethodName)) hown (hw _ (List.mem_of_getElem? (i := 94) rfl)) (own_sameM (y := (⟨"java/lang/AbstractStringBuilder", "append", "(I)Ljava/lang/AbstractStringBuilder;"⟩ : MethodName)) (own_nface (y := (⟨"java/lang/AbstractStringBuilder", "ensureCapacityInternal", "(I)V"⟩ : MethodName)) (hw _ (List.mem_of_getElem? (i := 67) rfl))) (hw _ (List.mem_of_getElem? (i := 95) rfl)) (by decide)) (hw _ (List.mem_of_getElem? (i := 95) rfl)) (hw _ (List.mem_of_getElem? (i := 46) rfl)) (by decide) (backOf (W := 0) (rmapIG l Z a0 hw [] sb xi cs va dn cn sz zo zt mr h0 n0 Z0 Sc hcs Eb gb Fv Fc Bv Fn gv_ Do1 Dt1 Do2 Dt2 nsbva nvazo nvazt nz1b nz2b hsz hlo hgr hm hp hs hmx hne hn0 hcp hmi hhi) hZ (hw _ (List.mem_of_getElem? (i := 97) rfl)) (hw _ (List.mem_of_getElem? (i := 21) rfl)) (by decide) (by decide)) e0 (Ins.self Eb) (g := (mkF m 2 #[.val (.ref sb), .val (.int xi)] [(.int xi), (.ref sb)])) rfl (by rw [hml]; rfl) (hw _ (List.mem_of_getElem? (i := 97) rfl)) (argsL := [(.int xi)]) (rest := []) (lenOf own_pd15 rfl) rfl (by show 2 * 0 + _ ≤ _; exact Nat.le_of_eq rfl) (hb hby own_d13_2) (fun _ _ => ⟨rfl, e0, (by decide : 0 + 1 ≤ _), (by decide : 0 + 100 ≤ _)⟩)
  dsimp only [Pt.U, Pt.locs, Pt.cells, Pt.slots] at X1 l1 y1 z1 st1 hQ1
  subst l1 y1 z1
  obtain ⟨va2_1, rfl, N1q, K1q, f1_0, f1_1, f1_2, f1_3, f1_4⟩ := hQ1
  have N1 := Fr.app N0 N1q
  have ne2 : sb ≠ va2_1 := Nat.ne_of_lt (Nat.lt_of_lt_of_le Eb.lt f1_0)
  have ne3 : va ≠ va2_1 := Nat.ne_of_lt (Nat.lt_of_lt_of_le Bv.lt f1_0)
  have ne4 : zo ≠ va2_1 := Nat.ne_of_lt (Nat.lt_of_lt_of_le Do2.lt f1_0)
  have ne5 : zt ≠ va2_1 := Nat.ne_of_lt (Nat.lt_of_lt_of_le Dt2.lt f1_0)
  have GG6 : n0 ≤ va2_1 := Nat.le_trans Z0 f1_0
  have HG6 : h0.size ≤ va2_1 := Nat.le_trans K0.1 f1_0
  have f7 := own_sta_keep Sc K1q (allS (own_eplain Eb) all0)
  have f8 := Eb.keep K1q
  have f9 := Bv.keep K1q (ninS (Ne.symm nsbva) nin0)
  have f10 := own_sta_keep Do1 K1q (allS (own_eplain Eb) all0)
  have f11 := own_sta_keep Dt1 K1q (allS (own_eplain Eb) all0)
  have f12 := Do2.keep K1q (ninS nz1b nin0)
  have f13 := Dt2.keep K1q (ninS nz2b nin0)
  have K1 := K0.trans K1q (allS (Or.inl (List.mem_of_getElem? (i := 0) rfl)) all0)
  have Z1 := Nat.le_trans Z0 K1q.1
  refine Goes.tr st1 ?_
  show Goes p e below _ T1 (mkF m 5 #[.val (.ref sb), .val (.int xi)] [(.ref sb)])
  refine own_pop X1 hx 6 rfl (hb hby own_d13_5) rfl ?_
  refine own_aloadN X1 hx 7 rfl (hb hby own_d13_6) rfl rfl ?_
  refine own_retR X1 hx hlk Bd.returns rfl rfl (hb hby own_d13_7) (by decide) (by decide) rfl ?_
  exact ⟨va2_1, rfl, N1, K1, HG6, f1_1, f1_2, f1_3, f1_4⟩
theorem own_pd16 : parseMethodDescriptor "()[B" = some ⟨[], some (.array .byte)⟩ := by decide +kernel
theorem own_d25_0 : decode jdk_42_method_150_code 0 = .ok (.aload_n 0, 1) := by decide +kernel
theorem own_d25_1 : decode jdk_42_method_150_code 1 = .ok (.invokespecial 1, 3) := by decide +kernel
theorem own_d25_4 : decode jdk_42_method_150_code 4 = .ok (.aload_n 1, 1) := by decide +kernel
theorem own_d25_5 : decode jdk_42_method_150_code 5 = .ok (.invokevirtual 552, 3) := by decide +kernel
theorem own_d25_8 : decode jdk_42_method_150_code 8 = .ok (.astore_n 3, 1) := by decide +kernel
theorem own_d25_9 : decode jdk_42_method_150_code 9 = .ok (.aload_n 1, 1) := by decide +kernel
theorem own_d25_10 : decode jdk_42_method_150_code 10 = .ok (.invokevirtual 549, 3) := by decide +kernel
theorem own_d25_13 : decode jdk_42_method_150_code 13 = .ok (.istore 4, 2) := by decide +kernel
theorem own_d25_15 : decode jdk_42_method_150_code 15 = .ok (.aload_n 1, 1) := by decide +kernel
theorem own_d25_16 : decode jdk_42_method_150_code 16 = .ok (.invokevirtual 1047, 3) := by decide +kernel
theorem own_d25_19 : decode jdk_42_method_150_code 19 = .ok (.ifCond .eq 22, 3) := by decide +kernel
theorem own_d25_22 : decode jdk_42_method_150_code 22 = .ok (.aload_n 0, 1) := by decide +kernel
theorem own_d25_23 : decode jdk_42_method_150_code 23 = .ok (.iconst 0, 1) := by decide +kernel
theorem own_d25_24 : decode jdk_42_method_150_code 24 = .ok (.putfield 15, 3) := by decide +kernel
theorem own_d25_27 : decode jdk_42_method_150_code 27 = .ok (.aload_n 0, 1) := by decide +kernel
theorem own_d25_28 : decode jdk_42_method_150_code 28 = .ok (.aload_n 3, 1) := by decide +kernel
theorem own_d25_29 : decode jdk_42_method_150_code 29 = .ok (.iconst 0, 1) := by decide +kernel
theorem own_d25_30 : decode jdk_42_method_150_code 30 = .ok (.iload 4, 2) := by decide +kernel
theorem own_d25_32 : decode jdk_42_method_150_code 32 = .ok (.invokestatic 54, 3) := by decide +kernel
theorem own_d25_35 : decode jdk_42_method_150_code 35 = .ok (.putfield 9, 3) := by decide +kernel
theorem own_d25_38 : decode jdk_42_method_150_code 38 = .ok (.goto 59, 3) := by decide +kernel
theorem own_d25_97 : decode jdk_42_method_150_code 97 = .ok (.return_, 1) := by decide +kernel
def QsiC (Z : State) (st : Addr) (sb : Addr) (cs : Int32) (va : Addr) (dn : Int32) (cn : Int32) (h0 : Heap) (n0 : Nat) (v : Option Value) (h : Heap) (L : List Loc) : Prop := v = none ∧ Fr n0 L ∧ Keep h0 h [st]
set_option maxRecDepth 65536 in
set_option maxHeartbeats 40000000 in
theorem rmsiC (l : Launch) (Z : State) (a0 : Array Value) (hw : ∀ d ∈ tables_1, d.before a0 Z = true) (ws : List Jvm.Cond) (st : Addr) (sb : Addr) (cs : Int32) (va : Addr) (dn : Int32) (cn : Int32) (h0 : Heap) (n0 : Nat) (Z0 : n0 ≤ h0.size) (Sc : Sta Z h0 "java/lang/String" "COMPACT_STRINGS" "Z" (.int cs)) (hcs : ¬ (cs = (0 : Int32))) (Et : Exa Z h0 st "java/lang/String") (gt_ : n0 ≤ st) (Ftv : Fld Z h0 st "java/lang/String" "value" "[B" .null) (Ftc : Fld Z h0 st "java/lang/String" "coder" "B" (.int (0 : Int32))) (Eb : Exa Z h0 sb "java/lang/StringBuilder") (Fv : Fld Z h0 sb "java/lang/AbstractStringBuilder" "value" "[B" (.ref va)) (Fc : Fld Z h0 sb "java/lang/AbstractStringBuilder" "coder" "B" (.int (0 : Int32))) (Bv : ByA Z h0 va dn) (Fn : Fld Z h0 sb "java/lang/AbstractStringBuilder" "count" "I" (.int cn)) (nbs : sb ≠ st) (nvs : va ≠ st) (heq : cn = dn) (hcp : (dn).toNatClampNeg ≤ 100) :
    MetFree l (⟨"java/lang/String", "<init>", "(Ljava/lang/AbstractStringBuilder;Ljava/lang/Void;)V"⟩ : MethodName) (head1 (Jvm.Cond.code (⟨"java/lang/String", "<init>", "(Ljava/lang/AbstractStringBuilder;Ljava/lang/Void;)V"⟩ : MethodName) jdk_42_method_150_code 5 none :: ws) ({ frames := 2, cells := 1, slots := 100, locals := 29 } : Room)) (fun a U => a = #[(.ref st), (.ref sb), .null] ∧ Z.Warmed39 U.vm ∧ U.heap = h0) (fun _ _ _ _ _ => True) (fun _ U o U' => ∃ v L, o = .returned v ∧ QsiC Z st sb cs va dn cn h0 n0 v U'.heap L ∧ FrameEnd U o U' L ({ frames := 2, cells := 1, slots := 100, locals := 29 } : Room).cells ({ frames := 2, cells := 1, slots := 100, locals := 29 } : Room).slots) := by
  refine MetFree.of_bodySF (plainFor_of_name own_pn_java_lang_String) hisR ?_
  intro p e s m args below meth c s₁ Bd hml0 hP hK
  obtain ⟨rfl, hZ, hh⟩ := hP
  have hx := Bd.exec
  have hby := Bd.bytes
  have hml : c.maxLocals = 5 := hml0
  have hlk := Bd.notSynchronized
  have hown : s.vm.findClass "java/lang/String" = some m.cls := findClass_of_methodNamed Bd.named
  have hnm := (name_of_methodNamed Bd.named Bd.method).1
  have X0 : Stand p l e ({ frames := 2, cells := 1, slots := 100, locals := 29 } : Room) s m #[(.ref st), (.ref sb), .null] below meth c s₁ [] 0 0 := Stand.of_body Bd
  have e0 : s₁.heap = h0 := by rw [← hh, Bd.state]; rfl
  have N0 := Fr.nil n0
  have K0 : Keep h0 h0 [st] := Keep.refl _ _
  refine own_enter (P := (Done s ({ frames := 2, cells := 1, slots := 100, locals := 29 } : Room).cells ({ frames := 2, cells := 1, slots := 100, locals := 29 } : Room).slots (QsiC Z st sb cs va dn cn h0 n0))) (Ls := #[.val (.ref st), .val (.ref sb), .val .null, .unset, .unset]) (by first | (simp [entryFrame, mkF, argsToLocals, Value.category]; done) | rfl) ?_
  refine own_aloadN X0 hx 1 rfl (hb hby own_d25_0) rfl rfl ?_
  obtain ⟨T1, X1, e1, st1⟩ := initO X0 hx hZ hown (hw _ (List.mem_of_getElem? (i := 149) rfl)) (hw _ (List.mem_of_getElem? (i := 24) rfl)) (hw _ (List.mem_of_getElem? (i := 25) rfl)) e0 (g := (mkF m 1 #[.val (.ref st), .val (.ref sb), .val .null, .unset, .unset] [(.ref st)])) rfl (by rw [hml]; rfl) rfl (hb hby own_d25_1) (by decide) (W := 0) (by show 2 * 0 + _ ≤ _; exact Nat.le_of_eq rfl) (by decide)
  refine Goes.go st1 ?_
  show Goes p e below _ T1 (mkF m 4 #[.val (.ref st), .val (.ref sb), .val .null, .unset, .unset] [])
  refine own_aloadN X1 hx 5 rfl (hb hby own_d25_4) rfl rfl ?_
  obtain ⟨cq2, kq2, q2a, q2b, q2c⟩ := isOf hZ e1 Eb
  obtain ⟨_, _, ⟨T2, L2, k2, n2⟩, -, X2, ⟨Lc2, hQ2, l2, y2, z2⟩, st2⟩ := X1.virtualBack hx (y := (⟨"java/lang/AbstractStringBuilder", "getValue", "()[B"⟩ : MethodName)) (z := (⟨"java/lang/AbstractStringBuilder", "getValue", "()[B"⟩ : MethodName)) hown (mvT hZ (hw _ (List.mem_of_getElem? (i := 150) rfl))) (mvT hZ (hw _ (List.mem_of_getElem? (i := 151) rfl))) (notFace_of_selects (args := #[]) (mvT hZ (hw _ (List.mem_of_getElem? (i := 153) rfl)))) (mvT hZ (hw _ (List.mem_of_getElem? (i := 153) rfl))) (mvT hZ (hw _ (List.mem_of_getElem? (i := 152) rfl))) (by decide) (backOf (W := 0) (rm26 l Z a0 hw [] sb va h0 n0 Z0 Fv) hZ (hw _ (List.mem_of_getElem? (i := 154) rfl)) (hw _ (List.mem_of_getElem? (i := 21) rfl)) (by decide) (by decide)) q2a q2c (g := (mkF m 5 #[.val (.ref st), .val (.ref sb), .val .null, .unset, .unset] [(.ref sb)])) rfl (by rw [hml]; rfl) (Steps.refl _) (argsL := []) (rest := []) (lenOf own_pd16 rfl) rfl (by show 2 * 0 + _ ≤ _; exact Nat.le_of_eq rfl) (hb hby own_d25_5) (fun _ _ => ⟨rfl, e1, (by decide : 0 + 0 ≤ _), (by decide : 0 + 0 ≤ _)⟩)
  dsimp only [Pt.U, Pt.locs, Pt.cells, Pt.slots] at X2 l2 y2 z2 st2 hQ2
  subst l2 y2 z2
  obtain ⟨rfl, N2q, eh2⟩ := hQ2
  have N2 := Fr.app N0 N2q
  refine Goes.tr st2 ?_
  show Goes p e below _ T2 (mkF m 8 #[.val (.ref st), .val (.ref sb), .val .null, .unset, .unset] [(.ref va)])
  refine own_astoreN X2 hx 9 rfl #[.val (.ref st), .val (.ref sb), .val .null, .val (.ref va), .unset] (hb hby own_d25_8) rfl rfl ?_
  refine own_aloadN X2 hx 10 rfl (hb hby own_d25_9) rfl rfl ?_
  obtain ⟨cq3, kq3, q3a, q3b, q3c⟩ := isOf hZ eh2 Eb
  obtain ⟨_, _, ⟨T3, L3, k3, n3⟩, -, X3, ⟨Lc3, hQ3, l3, y3, z3⟩, st3⟩ := X2.virtualBack hx (y := (⟨"java/lang/AbstractStringBuilder", "length", "()I"⟩ : MethodName)) (z := (⟨"java/lang/StringBuilder", "length", "()I"⟩ : MethodName)) hown (mvT hZ (hw _ (List.mem_of_getElem? (i := 155) rfl))) (mvT hZ (hw _ (List.mem_of_getElem? (i := 156) rfl))) (own_nf (args := #[]) (mvT hZ (hw _ (List.mem_of_getElem? (i := 153) rfl))) rfl) (mvT hZ (hw _ (List.mem_of_getElem? (i := 158) rfl))) (mvT hZ (hw _ (List.mem_of_getElem? (i := 159) rfl))) (by decide) (backOf (W := 0) (rm27 l Z a0 hw [] sb cn h0 n0 Z0 Eb Fn) hZ (hw _ (List.mem_of_getElem? (i := 160) rfl)) (hw _ (List.mem_of_getElem? (i := 13) rfl)) (by decide) (by decide)) q3a q3c (g := (mkF m 10 #[.val (.ref st), .val (.ref sb), .val .null, .val (.ref va), .unset] [(.ref sb)])) rfl (by rw [hml]; rfl) (Steps.refl _) (argsL := []) (rest := []) (lenOf own_pd5 rfl) rfl (by show 2 * 0 + _ ≤ _; exact Nat.le_of_eq rfl) (hb hby own_d25_10) (fun _ _ => ⟨rfl, eh2, (by decide : 0 + 0 ≤ _), (by decide : 0 + 0 ≤ _)⟩)
  dsimp only [Pt.U, Pt.locs, Pt.cells, Pt.slots] at X3 l3 y3 z3 st3 hQ3
  subst l3 y3 z3
  obtain ⟨rfl, N3q, eh3⟩ := hQ3
  have N3 := Fr.app N2 N3q
  refine Goes.tr st3 ?_
  show Goes p e below _ T3 (mkF m 13 #[.val (.ref st), .val (.ref sb), .val .null, .val (.ref va), .unset] [(.int cn)])
  refine own_istore X3 hx 15 rfl #[.val (.ref st), .val (.ref sb), .val .null, .val (.ref va), .val (.int cn)] (hb hby own_d25_13) rfl ?_
  refine own_aloadN X3 hx 16 rfl (hb hby own_d25_15) rfl rfl ?_
  obtain ⟨cq4, kq4, q4a, q4b, q4c⟩ := isOf hZ eh3 Eb
  obtain ⟨_, _, ⟨T4, L4, k4, n4⟩, -, X4, ⟨Lc4, hQ4, l4, y4, z4⟩, st4⟩ := X3.virtualBack hx (y := (⟨"java/lang/AbstractStringBuilder", "isLatin1", "()Z"⟩ : MethodName)) (z := (⟨"java/lang/AbstractStringBuilder", "isLatin1", "()Z"⟩ : MethodName)) hown (mvT hZ (hw _ (List.mem_of_getElem? (i := 163) rfl))) (mvT hZ (hw _ (List.mem_of_getElem? (i := 126) rfl))) (notFace_of_selects (args := #[]) (mvT hZ (hw _ (List.mem_of_getElem? (i := 128) rfl)))) (mvT hZ (hw _ (List.mem_of_getElem? (i := 128) rfl))) (mvT hZ (hw _ (List.mem_of_getElem? (i := 127) rfl))) (by decide) (backOf (W := 0) (rm21 l Z a0 hw [] sb cs h0 n0 Z0 Sc hcs Fc) hZ (hw _ (List.mem_of_getElem? (i := 129) rfl)) (hw _ (List.mem_of_getElem? (i := 21) rfl)) (by decide) (by decide)) q4a q4c (g := (mkF m 16 #[.val (.ref st), .val (.ref sb), .val .null, .val (.ref va), .val (.int cn)] [(.ref sb)])) rfl (by rw [hml]; rfl) (Steps.refl _) (argsL := []) (rest := []) (lenOf own_pd13 rfl) rfl (by show 2 * 0 + _ ≤ _; exact Nat.le_of_eq rfl) (hb hby own_d25_16) (fun _ _ => ⟨rfl, eh3, (by decide : 0 + 0 ≤ _), (by decide : 0 + 0 ≤ _)⟩)
  dsimp only [Pt.U, Pt.locs, Pt.cells, Pt.slots] at X4 l4 y4 z4 st4 hQ4
  subst l4 y4 z4
  obtain ⟨rfl, N4q, eh4⟩ := hQ4
  have N4 := Fr.app N3 N4q
  refine Goes.tr st4 ?_
  show Goes p e below _ T4 (mkF m 19 #[.val (.ref st), .val (.ref sb), .val .null, .val (.ref va), .val (.int cn)] [(.int (1 : Int32))])
  refine own_ifN X4 hx 22 (hb hby own_d25_19) ((if0 _ _).trans (feq ((by decide) : ¬ ((1 : Int32) = (0 : Int32)))).1) rfl ?_
  refine own_aloadN X4 hx 23 rfl (hb hby own_d25_22) rfl rfl ?_
  refine own_iconst X4 hx 24 rfl (0 : Int32) (hb hby own_d25_23) (by decide) ?_
  obtain ⟨T5, h5, X5, e5, W5, st5⟩ := putFN X4 hx hZ hown (hw _ (List.mem_of_getElem? (i := 61) rfl)) Via.refl eh4 Ftc Et (Or.inr ⟨(hw _ (List.mem_of_getElem? (i := 36) rfl)), rfl, hnm⟩) (hw _ (List.mem_of_getElem? (i := 34) rfl)) (ty := .byte) (v' := (.int (0 : Int32))) (by decide) rfl (by decide) (g := (mkF m 24 #[.val (.ref st), .val (.ref sb), .val .null, .val (.ref va), .val (.int cn)] [(.int (0 : Int32)), (.ref st)])) rfl rfl (hb hby own_d25_24)
  have N5 := Fr.snoc X5 N4 gt_
  have f6 := Sc.wr W5
  have f7 := Et.wr W5
  have f8 := Ftv.other W5 (Or.inr (slot_ne (Or.inr (hw _ (List.mem_of_getElem? (i := 35) rfl))) (Or.inr (hw _ (List.mem_of_getElem? (i := 36) rfl))) (by decide) (t := (.array .byte)) (t' := .byte) (by decide) (by decide)))
  have f9 := Ftc.same W5
  have f10 := Eb.wr W5
  have f11 := Fv.other W5 (Or.inl nbs)
  have f12 := Fc.other W5 (Or.inl nbs)
  have f13 := Bv.other W5 nvs
  have f14 := Fn.other W5 (Or.inl nbs)
  have K5 := K0.wr W5 (Or.inl (List.mem_of_getElem? (i := 0) rfl))
  have Z5 := Nat.le_trans Z0 (Nat.le_of_eq W5.size.symm)
  refine Goes.go st5 ?_
  show Goes p e below _ T5 (mkF m 27 #[.val (.ref st), .val (.ref sb), .val .null, .val (.ref va), .val (.int cn)] [])
  refine own_aloadN X5 hx 28 rfl (hb hby own_d25_27) rfl rfl ?_
  refine own_aloadN X5 hx 29 rfl (hb hby own_d25_28) rfl rfl ?_
  refine own_iconst X5 hx 30 rfl (0 : Int32) (hb hby own_d25_29) (by decide) ?_
  refine own_iload X5 hx 32 rfl (hb hby own_d25_30) rfl ?_
  obtain ⟨_, _, ⟨T15, L15, k15, n15⟩, -, X15, ⟨Lc15, hQ15, l15, y15, z15⟩, st15⟩ := Jvm.LawKit.callS X5 hx (y := (⟨"java/util/Arrays", "copyOfRange", "([BII)[B"⟩ : MethodName)) hown (mvT hZ (hw _ (List.mem_of_getElem? (i := 164) rfl))) (mvT hZ (hw _ (List.mem_of_getElem? (i := 165) rfl))) (mvT hZ (hw _ (List.mem_of_getElem? (i := 119) rfl))) (mvT hZ (hw _ (List.mem_of_getElem? (i := 166) rfl))) (by decide) (backOf (W := 1) (rmcrC l Z a0 hw [] va cn dn h5 n0 Z5 f13 heq hcp) hZ (hw _ (List.mem_of_getElem? (i := 166) rfl)) (hw _ (List.mem_of_getElem? (i := 119) rfl)) (by decide) (by decide)) (g := (mkF m 32 #[.val (.ref st), .val (.ref sb), .val .null, .val (.ref va), .val (.int cn)] [(.int cn), (.int (0 : Int32)), (.ref va), (.ref st)])) rfl (by rw [hml]; rfl) (argsL := [(.ref va), (.int (0 : Int32)), (.int cn)]) (rest := [(.ref st)]) (lenOf own_pd2 rfl) rfl (by show 2 * 0 + _ ≤ _; exact Nat.le_of_eq rfl) (hb hby own_d25_32) (fun _ _ => ⟨rfl, e5, (by decide : 0 + 1 ≤ _), (by decide : 0 + 100 ≤ _)⟩)
  dsimp only [Pt.U, Pt.locs, Pt.cells, Pt.slots] at X15 l15 y15 z15 st15 hQ15
  subst l15 y15 z15
  obtain ⟨cb_15, rfl, N15q, K15q, f15_0, f15_1⟩ := hQ15
  have N15 := Fr.app N5 N15q
  have ne16 : st ≠ cb_15 := Nat.ne_of_lt (Nat.lt_of_lt_of_le f7.lt f15_0)
  have ne17 : sb ≠ cb_15 := Nat.ne_of_lt (Nat.lt_of_lt_of_le f10.lt f15_0)
  have ne18 : va ≠ cb_15 := Nat.ne_of_lt (Nat.lt_of_lt_of_le f13.lt f15_0)
  have GG19 : n0 ≤ cb_15 := Nat.le_trans Z5 f15_0
  have HG19 : h0.size ≤ cb_15 := Nat.le_trans K5.1 f15_0
  have f20 := own_sta_keep f6 K15q all0
  have f21 := f7.keep K15q
  have f22 := f8.keep K15q nin0
  have f23 := f9.keep K15q nin0
  have f24 := f10.keep K15q
  have f25 := f11.keep K15q nin0
  have f26 := f12.keep K15q nin0
  have f27 := f13.keep K15q nin0
  have f28 := f14.keep K15q nin0
  have K15 := K5.trans K15q all0
  have Z15 := Nat.le_trans Z5 K15q.1
  refine Goes.go st15 ?_
  show Goes p e below _ T15 (mkF m 35 #[.val (.ref st), .val (.ref sb), .val .null, .val (.ref va), .val (.int cn)] [(.ref cb_15), (.ref st)])
  obtain ⟨T29, h29, X29, e29, W29, st29⟩ := putF X15 hx hZ hown (host := "") (Or.inl (hw _ (List.mem_of_getElem? (i := 54) rfl))) Via.refl rfl f22 f21 (Or.inr ⟨(hw _ (List.mem_of_getElem? (i := 35) rfl)), rfl, hnm⟩) (hw _ (List.mem_of_getElem? (i := 34) rfl)) (ty := (.array .byte)) (by decide) rfl rfl (g := (mkF m 35 #[.val (.ref st), .val (.ref sb), .val .null, .val (.ref va), .val (.int cn)] [(.ref cb_15), (.ref st)])) rfl rfl (hb hby own_d25_35)
  have N29 := Fr.snoc X29 N15 gt_
  have f30 := f20.wr W29
  have f31 := f21.wr W29
  have f32 := f22.same W29
  have f33 := f23.other W29 (Or.inr (slot_ne (Or.inr (hw _ (List.mem_of_getElem? (i := 36) rfl))) (Or.inr (hw _ (List.mem_of_getElem? (i := 35) rfl))) (by decide) (t := .byte) (t' := (.array .byte)) (by decide) (by decide)))
  have f34 := f24.wr W29
  have f35 := f25.other W29 (Or.inl nbs)
  have f36 := f26.other W29 (Or.inl nbs)
  have f37 := f27.other W29 nvs
  have f38 := f28.other W29 (Or.inl nbs)
  have f39 := f15_1.other W29 (Ne.symm ne16)
  have K29 := K15.wr W29 (Or.inl (List.mem_of_getElem? (i := 0) rfl))
  have Z29 := Nat.le_trans Z15 (Nat.le_of_eq W29.size.symm)
  refine Goes.go st29 ?_
  show Goes p e below _ T29 (mkF m 38 #[.val (.ref st), .val (.ref sb), .val .null, .val (.ref va), .val (.int cn)] [])
  refine own_goto X29 hx 97 (hb hby own_d25_38) (by decide) (by decide) ?_
  refine own_retV X29 hx hlk Bd.returns (hb hby own_d25_97) (by decide) (by decide) e29 ?_
  exact ⟨rfl, N29, K29⟩
theorem own_pd17 : parseMethodDescriptor "(Ljava/lang/AbstractStringBuilder;Ljava/lang/Void;)V" = some ⟨[(.object "java/lang/AbstractStringBuilder"), (.object "java/lang/Void")], none⟩ := by decide +kernel
theorem own_d24_0 : decode jdk_42_method_53_code 0 = .ok (.aload_n 0, 1) := by decide +kernel
theorem own_d24_1 : decode jdk_42_method_53_code 1 = .ok (.aload_n 1, 1) := by decide +kernel
theorem own_d24_2 : decode jdk_42_method_53_code 2 = .ok (.aconst_null, 1) := by decide +kernel
theorem own_d24_3 : decode jdk_42_method_53_code 3 = .ok (.invokespecial 489, 3) := by decide +kernel
theorem own_d24_6 : decode jdk_42_method_53_code 6 = .ok (.return_, 1) := by decide +kernel
def QsjC (Z : State) (st : Addr) (sb : Addr) (cs : Int32) (va : Addr) (dn : Int32) (cn : Int32) (h0 : Heap) (n0 : Nat) (v : Option Value) (h : Heap) (L : List Loc) : Prop := v = none ∧ Fr n0 L ∧ Keep h0 h [st]
set_option maxRecDepth 65536 in
set_option maxHeartbeats 40000000 in
theorem rmsjC (l : Launch) (Z : State) (a0 : Array Value) (hw : ∀ d ∈ tables_1, d.before a0 Z = true) (ws : List Jvm.Cond) (st : Addr) (sb : Addr) (cs : Int32) (va : Addr) (dn : Int32) (cn : Int32) (h0 : Heap) (n0 : Nat) (Z0 : n0 ≤ h0.size) (Sc : Sta Z h0 "java/lang/String" "COMPACT_STRINGS" "Z" (.int cs)) (hcs : ¬ (cs = (0 : Int32))) (Et : Exa Z h0 st "java/lang/String") (gt_ : n0 ≤ st) (Ftv : Fld Z h0 st "java/lang/String" "value" "[B" .null) (Ftc : Fld Z h0 st "java/lang/String" "coder" "B" (.int (0 : Int32))) (Eb : Exa Z h0 sb "java/lang/StringBuilder") (Fv : Fld Z h0 sb "java/lang/AbstractStringBuilder" "value" "[B" (.ref va)) (Fc : Fld Z h0 sb "java/lang/AbstractStringBuilder" "coder" "B" (.int (0 : Int32))) (Bv : ByA Z h0 va dn) (Fn : Fld Z h0 sb "java/lang/AbstractStringBuilder" "count" "I" (.int cn)) (nbs : sb ≠ st) (nvs : va ≠ st) (heq : cn = dn) (hcp : (dn).toNatClampNeg ≤ 100) :
    MetFree l (⟨"java/lang/String", "<init>", "(Ljava/lang/StringBuilder;)V"⟩ : MethodName) (head1 (Jvm.Cond.code (⟨"java/lang/String", "<init>", "(Ljava/lang/StringBuilder;)V"⟩ : MethodName) jdk_42_method_53_code 2 none :: ws) ({ frames := 3, cells := 1, slots := 100, locals := 45 } : Room)) (fun a U => a = #[(.ref st), (.ref sb)] ∧ Z.Warmed39 U.vm ∧ U.heap = h0) (fun _ _ _ _ _ => True) (fun _ U o U' => ∃ v L, o = .returned v ∧ QsjC Z st sb cs va dn cn h0 n0 v U'.heap L ∧ FrameEnd U o U' L ({ frames := 3, cells := 1, slots := 100, locals := 45 } : Room).cells ({ frames := 3, cells := 1, slots := 100, locals := 45 } : Room).slots) := by
  refine MetFree.of_bodySF (plainFor_of_name own_pn_java_lang_String) hisR ?_
  intro p e s m args below meth c s₁ Bd hml0 hP hK
  obtain ⟨rfl, hZ, hh⟩ := hP
  have hx := Bd.exec
  have hby := Bd.bytes
  have hml : c.maxLocals = 2 := hml0
  have hlk := Bd.notSynchronized
  have hown : s.vm.findClass "java/lang/String" = some m.cls := findClass_of_methodNamed Bd.named
  have hnm := (name_of_methodNamed Bd.named Bd.method).1
  have X0 : Stand p l e ({ frames := 3, cells := 1, slots := 100, locals := 45 } : Room) s m #[(.ref st), (.ref sb)] below meth c s₁ [] 0 0 := Stand.of_body Bd
  have e0 : s₁.heap = h0 := by rw [← hh, Bd.state]; rfl
  have N0 := Fr.nil n0
  have K0 : Keep h0 h0 [st] := Keep.refl _ _
  refine own_enter (P := (Done s ({ frames := 3, cells := 1, slots := 100, locals := 45 } : Room).cells ({ frames := 3, cells := 1, slots := 100, locals := 45 } : Room).slots (QsjC Z st sb cs va dn cn h0 n0))) (Ls := #[.val (.ref st), .val (.ref sb)]) (by first | (simp [entryFrame, mkF, argsToLocals, Value.category]; done) | rfl) ?_
  refine own_aloadN X0 hx 1 rfl (hb hby own_d24_0) rfl rfl ?_
  refine own_aloadN X0 hx 2 rfl (hb hby own_d24_1) rfl rfl ?_
  refine own_aconst_null X0 hx 3 rfl (hb hby own_d24_2) ?_
  obtain ⟨_, _, ⟨T1, L1, k1, n1⟩, -, X1, ⟨Lc1, hQ1, l1, y1, z1⟩, st1⟩ := X0.specialBack hx (y := (⟨"java/lang/String", "<init>", "(Ljava/lang/AbstractStringBuilder;Ljava/lang/Void;)V"⟩ : MethodName)) rfl hown (mvT hZ (hw _ (List.mem_of_getElem? (i := 146) rfl))) (mvT hZ (hw _ (List.mem_of_getElem? (i := 147) rfl))) (mvT hZ (hw _ (List.mem_of_getElem? (i := 148) rfl))) (by decide) (backOf (W := 0) (rmsiC l Z a0 hw [] st sb cs va dn cn h0 n0 Z0 Sc hcs Et gt_ Ftv Ftc Eb Fv Fc Bv Fn nbs nvs heq hcp) hZ (hw _ (List.mem_of_getElem? (i := 148) rfl)) (hw _ (List.mem_of_getElem? (i := 27) rfl)) (by decide) (by decide)) (g := (mkF m 3 #[.val (.ref st), .val (.ref sb)] [.null, (.ref sb), (.ref st)])) rfl (by rw [hml]; rfl) (Steps.refl _) (a := st) (argsL := [(.ref sb), .null]) (rest := []) (lenOf own_pd17 rfl) rfl (by show 2 * 0 + _ ≤ _; exact Nat.le_of_eq rfl) (hb hby own_d24_3) (fun _ _ => ⟨rfl, e0, (by decide : 0 + 1 ≤ _), (by decide : 0 + 100 ≤ _)⟩)
  dsimp only [Pt.U, Pt.locs, Pt.cells, Pt.slots] at X1 l1 y1 z1 st1 hQ1
  subst l1 y1 z1
  obtain ⟨rfl, N1q, K1q⟩ := hQ1
  have N1 := Fr.app N0 N1q
  have f2 := own_sta_keep Sc K1q (allS (own_eplain Et) all0)
  have f3 := Et.keep K1q
  have f4 := Eb.keep K1q
  have f5 := Fv.keep K1q (ninS nbs nin0)
  have f6 := Fc.keep K1q (ninS nbs nin0)
  have f7 := Bv.keep K1q (ninS nvs nin0)
  have f8 := Fn.keep K1q (ninS nbs nin0)
  have K1 := K0.trans K1q (allS (Or.inl (List.mem_of_getElem? (i := 0) rfl)) all0)
  have Z1 := Nat.le_trans Z0 K1q.1
  refine Goes.tr st1 ?_
  show Goes p e below _ T1 (mkF m 6 #[.val (.ref st), .val (.ref sb)] [])
  refine own_retV X1 hx hlk Bd.returns (hb hby own_d24_6) (by decide) (by decide) rfl ?_
  exact ⟨rfl, N1, K1⟩
theorem own_pd18 : parseMethodDescriptor "(Ljava/lang/StringBuilder;)V" = some ⟨[(.object "java/lang/StringBuilder")], none⟩ := by decide +kernel
theorem own_d23_0 : decode jdk_67_method_42_code 0 = .ok (.new 18, 3) := by decide +kernel
theorem own_d23_3 : decode jdk_67_method_42_code 3 = .ok (.dup, 1) := by decide +kernel
theorem own_d23_4 : decode jdk_67_method_42_code 4 = .ok (.aload_n 0, 1) := by decide +kernel
theorem own_d23_5 : decode jdk_67_method_42_code 5 = .ok (.invokespecial 137, 3) := by decide +kernel
theorem own_d23_8 : decode jdk_67_method_42_code 8 = .ok (.areturn, 1) := by decide +kernel
def QtsC (Z : State) (sb : Addr) (cs : Int32) (va : Addr) (dn : Int32) (cn : Int32) (h0 : Heap) (n0 : Nat) (v : Option Value) (h : Heap) (L : List Loc) : Prop := ∃ st_ : Addr, v = some (.ref st_) ∧ Fr n0 L ∧ Keep h0 h [] ∧ h0.size ≤ st_
set_option maxRecDepth 65536 in
set_option maxHeartbeats 40000000 in
theorem rmtsC (l : Launch) (Z : State) (a0 : Array Value) (hw : ∀ d ∈ tables_1, d.before a0 Z = true) (ws : List Jvm.Cond) (sb : Addr) (cs : Int32) (va : Addr) (dn : Int32) (cn : Int32) (h0 : Heap) (n0 : Nat) (Z0 : n0 ≤ h0.size) (Sc : Sta Z h0 "java/lang/String" "COMPACT_STRINGS" "Z" (.int cs)) (hcs : ¬ (cs = (0 : Int32))) (Eb : Exa Z h0 sb "java/lang/StringBuilder") (Fv : Fld Z h0 sb "java/lang/AbstractStringBuilder" "value" "[B" (.ref va)) (Fc : Fld Z h0 sb "java/lang/AbstractStringBuilder" "coder" "B" (.int (0 : Int32))) (Bv : ByA Z h0 va dn) (Fn : Fld Z h0 sb "java/lang/AbstractStringBuilder" "count" "I" (.int cn)) (heq : cn = dn) (hcp : (dn).toNatClampNeg ≤ 100) :
    MetFree l (⟨"java/lang/StringBuilder", "toString", "()Ljava/lang/String;"⟩ : MethodName) (head1 (Jvm.Cond.code (⟨"java/lang/StringBuilder", "toString", "()Ljava/lang/String;"⟩ : MethodName) jdk_67_method_42_code 1 (some (.object "java/lang/String")) :: ws) ({ frames := 4, cells := 2, slots := 104, locals := 59 } : Room)) (fun a U => a = #[(.ref sb)] ∧ Z.Warmed39 U.vm ∧ U.heap = h0) (fun _ _ _ _ _ => True) (fun _ U o U' => ∃ v L, o = .returned v ∧ QtsC Z sb cs va dn cn h0 n0 v U'.heap L ∧ FrameEnd U o U' L ({ frames := 4, cells := 2, slots := 104, locals := 59 } : Room).cells ({ frames := 4, cells := 2, slots := 104, locals := 59 } : Room).slots) := by
  refine MetFree.of_bodySF (plainFor_of_name own_pn_java_lang_StringBuilder) hisR ?_
  intro p e s m args below meth c s₁ Bd hml0 hP hK
  obtain ⟨rfl, hZ, hh⟩ := hP
  have hx := Bd.exec
  have hby := Bd.bytes
  have hml : c.maxLocals = 1 := hml0
  have hlk := Bd.notSynchronized
  have hown : s.vm.findClass "java/lang/StringBuilder" = some m.cls := findClass_of_methodNamed Bd.named
  have hnm := (name_of_methodNamed Bd.named Bd.method).1
  have X0 : Stand p l e ({ frames := 4, cells := 2, slots := 104, locals := 59 } : Room) s m #[(.ref sb)] below meth c s₁ [] 0 0 := Stand.of_body Bd
  have e0 : s₁.heap = h0 := by rw [← hh, Bd.state]; rfl
  have N0 := Fr.nil n0
  have K0 : Keep h0 h0 [] := Keep.refl _ _
  refine own_enter (P := (Done s ({ frames := 4, cells := 2, slots := 104, locals := 59 } : Room).cells ({ frames := 4, cells := 2, slots := 104, locals := 59 } : Room).slots (QtsC Z sb cs va dn cn h0 n0))) (Ls := #[.val (.ref sb)]) (by first | (simp [entryFrame, mkF, argsToLocals, Value.category]; done) | rfl) ?_
  obtain ⟨T1, h1, X1, e1, E1, A1, D1, Un1, st1⟩ := newO X0 hx hZ hown (hw _ (List.mem_of_getElem? (i := 141) rfl)) (hw _ (List.mem_of_getElem? (i := 34) rfl)) (hw _ (List.mem_of_getElem? (i := 27) rfl)) e0 (g := (mkF m 0 #[.val (.ref sb)] [])) rfl (hb hby own_d23_0) (by decide) (by decide)
  obtain ⟨b1, g1⟩ : ∃ z, z = h0.size := ⟨_, rfl⟩
  rw [← g1] at A1 D1 Un1 st1
  have ne2 : sb ≠ b1 := own_lt_ne Eb.lt g1
  have ne3 : va ≠ b1 := own_lt_ne Bv.lt g1
  have G1 : n0 ≤ b1 := Nat.le_trans Z0 (Nat.le_of_eq g1.symm)
  have H1 : h0.size ≤ b1 := Nat.le_trans K0.1 (Nat.le_of_eq g1.symm)
  have f4 := Sc.ext E1
  have f5 := Eb.ext E1
  have f6 := Fv.ext E1
  have f7 := Fc.ext E1
  have f8 := Bv.ext E1
  have f9 := Fn.ext E1
  have K1 := K0.ext E1
  have Z1 := Nat.le_trans Z0 E1.1
  have f10 : Fld Z h1 b1 "java/lang/String" "value" "[B" .null := D1 (Or.inr (hw _ (List.mem_of_getElem? (i := 35) rfl))) (ty := (.array .byte)) (by decide)
  have f11 : Fld Z h1 b1 "java/lang/String" "coder" "B" (.int (0 : Int32)) := D1 (Or.inr (hw _ (List.mem_of_getElem? (i := 36) rfl))) (ty := .byte) (by decide)
  refine Goes.go st1 ?_
  show Goes p e below _ T1 (mkF m 3 #[.val (.ref sb)] [(.ref b1)])
  refine own_dup X1 hx 4 rfl (hb hby own_d23_3) rfl ?_
  refine own_aloadN X1 hx 5 rfl (hb hby own_d23_4) rfl rfl ?_
  obtain ⟨_, _, ⟨T12, L12, k12, n12⟩, -, X12, ⟨Lc12, hQ12, l12, y12, z12⟩, st12⟩ := X1.specialBack hx (y := (⟨"java/lang/String", "<init>", "(Ljava/lang/StringBuilder;)V"⟩ : MethodName)) rfl hown (mvT hZ (hw _ (List.mem_of_getElem? (i := 142) rfl))) (mvT hZ (hw _ (List.mem_of_getElem? (i := 143) rfl))) (mvT hZ (hw _ (List.mem_of_getElem? (i := 145) rfl))) (by decide) (backOf (W := 1) (rmsjC l Z a0 hw [] b1 sb cs va dn cn h1 n0 Z1 f4 hcs A1 G1 f10 f11 f5 f6 f7 f8 f9 ne2 ne3 heq hcp) hZ (hw _ (List.mem_of_getElem? (i := 145) rfl)) (hw _ (List.mem_of_getElem? (i := 27) rfl)) (by decide) (by decide)) (g := (mkF m 5 #[.val (.ref sb)] [(.ref sb), (.ref b1), (.ref b1)])) rfl (by rw [hml]; rfl) (Steps.refl _) (a := b1) (argsL := [(.ref sb)]) (rest := [(.ref b1)]) (lenOf own_pd18 rfl) rfl (by show 2 * 0 + _ ≤ _; exact Nat.le_of_eq rfl) (hb hby own_d23_5) (fun _ _ => ⟨rfl, e1, (by decide : 1 + 1 ≤ _), (by decide : 4 + 100 ≤ _)⟩)
  dsimp only [Pt.U, Pt.locs, Pt.cells, Pt.slots] at X12 l12 y12 z12 st12 hQ12
  subst l12 y12 z12
  obtain ⟨rfl, N12q, K12q⟩ := hQ12
  have N12 := Fr.app N0 N12q
  have f13 := own_sta_keep f4 K12q (allS (own_eplain A1) all0)
  have f14 := f5.keep K12q
  have f15 := f6.keep K12q (ninS ne2 nin0)
  have f16 := f7.keep K12q (ninS ne2 nin0)
  have f17 := f8.keep K12q (ninS ne3 nin0)
  have f18 := f9.keep K12q (ninS ne2 nin0)
  have f19 := A1.keep K12q
  have K12 := K1.trans K12q (allS (Or.inr H1) all0)
  have Z12 := Nat.le_trans Z1 K12q.1
  refine Goes.tr st12 ?_
  show Goes p e below _ T12 (mkF m 8 #[.val (.ref sb)] [(.ref b1)])
  refine own_retR X12 hx hlk Bd.returns rfl rfl (hb hby own_d23_8) (by decide) (by decide) rfl ?_
  exact ⟨b1, rfl, N12, K12, H1⟩
def QsiR (Z : State) (st : Addr) (sb : Addr) (cs : Int32) (va : Addr) (dn : Int32) (cn : Int32) (h0 : Heap) (n0 : Nat) (v : Option Value) (h : Heap) (L : List Loc) : Prop := v = none ∧ Fr n0 L ∧ Keep h0 h [st]
set_option maxRecDepth 65536 in
set_option maxHeartbeats 40000000 in
theorem rmsiR (l : Launch) (Z : State) (a0 : Array Value) (hw : ∀ d ∈ tables_1, d.before a0 Z = true) (ws : List Jvm.Cond) (st : Addr) (sb : Addr) (cs : Int32) (va : Addr) (dn : Int32) (cn : Int32) (h0 : Heap) (n0 : Nat) (Z0 : n0 ≤ h0.size) (Sc : Sta Z h0 "java/lang/String" "COMPACT_STRINGS" "Z" (.int cs)) (hcs : ¬ (cs = (0 : Int32))) (Et : Exa Z h0 st "java/lang/String") (gt_ : n0 ≤ st) (Ftv : Fld Z h0 st "java/lang/String" "value" "[B" .null) (Ftc : Fld Z h0 st "java/lang/String" "coder" "B" (.int (0 : Int32))) (Eb : Exa Z h0 sb "java/lang/StringBuilder") (Fv : Fld Z h0 sb "java/lang/AbstractStringBuilder" "value" "[B" (.ref va)) (Fc : Fld Z h0 sb "java/lang/AbstractStringBuilder" "coder" "B" (.int (0 : Int32))) (Bv : ByA Z h0 va dn) (Fn : Fld Z h0 sb "java/lang/AbstractStringBuilder" "count" "I" (.int cn)) (nbs : sb ≠ st) (nvs : va ≠ st) (hrt : ¬ (cn < (0 : Int32))) (hcp : (cn).toNatClampNeg ≤ 100) (hlt : cn < dn) :
    MetFree l (⟨"java/lang/String", "<init>", "(Ljava/lang/AbstractStringBuilder;Ljava/lang/Void;)V"⟩ : MethodName) (head1 (Jvm.Cond.code (⟨"java/lang/String", "<init>", "(Ljava/lang/AbstractStringBuilder;Ljava/lang/Void;)V"⟩ : MethodName) jdk_42_method_150_code 5 none :: ws) ({ frames := 3, cells := 1, slots := 100, locals := 49 } : Room)) (fun a U => a = #[(.ref st), (.ref sb), .null] ∧ Z.Warmed39 U.vm ∧ U.heap = h0) (fun _ _ _ _ _ => True) (fun _ U o U' => ∃ v L, o = .returned v ∧ QsiR Z st sb cs va dn cn h0 n0 v U'.heap L ∧ FrameEnd U o U' L ({ frames := 3, cells := 1, slots := 100, locals := 49 } : Room).cells ({ frames := 3, cells := 1, slots := 100, locals := 49 } : Room).slots) := by
  refine MetFree.of_bodySF (plainFor_of_name own_pn_java_lang_String) hisR ?_
  intro p e s m args below meth c s₁ Bd hml0 hP hK
  obtain ⟨rfl, hZ, hh⟩ := hP
  have hx := Bd.exec
  have hby := Bd.bytes
  have hml : c.maxLocals = 5 := hml0
  have hlk := Bd.notSynchronized
  have hown : s.vm.findClass "java/lang/String" = some m.cls := findClass_of_methodNamed Bd.named
  have hnm := (name_of_methodNamed Bd.named Bd.method).1
  have X0 : Stand p l e ({ frames := 3, cells := 1, slots := 100, locals := 49 } : Room) s m #[(.ref st), (.ref sb), .null] below meth c s₁ [] 0 0 := Stand.of_body Bd
  have e0 : s₁.heap = h0 := by rw [← hh, Bd.state]; rfl
  have N0 := Fr.nil n0
  have K0 : Keep h0 h0 [st] := Keep.refl _ _
  refine own_enter (P := (Done s ({ frames := 3, cells := 1, slots := 100, locals := 49 } : Room).cells ({ frames := 3, cells := 1, slots := 100, locals := 49 } : Room).slots (QsiR Z st sb cs va dn cn h0 n0))) (Ls := #[.val (.ref st), .val (.ref sb), .val .null, .unset, .unset]) (by first | (simp [entryFrame, mkF, argsToLocals, Value.category]; done) | rfl) ?_
  refine own_aloadN X0 hx 1 rfl (hb hby own_d25_0) rfl rfl ?_
  obtain ⟨T1, X1, e1, st1⟩ := initO X0 hx hZ hown (hw _ (List.mem_of_getElem? (i := 149) rfl)) (hw _ (List.mem_of_getElem? (i := 24) rfl)) (hw _ (List.mem_of_getElem? (i := 25) rfl)) e0 (g := (mkF m 1 #[.val (.ref st), .val (.ref sb), .val .null, .unset, .unset] [(.ref st)])) rfl (by rw [hml]; rfl) rfl (hb hby own_d25_1) (by decide) (W := 0) (by show 2 * 0 + _ ≤ _; exact Nat.le_of_eq rfl) (by decide)
  refine Goes.go st1 ?_
  show Goes p e below _ T1 (mkF m 4 #[.val (.ref st), .val (.ref sb), .val .null, .unset, .unset] [])
  refine own_aloadN X1 hx 5 rfl (hb hby own_d25_4) rfl rfl ?_
  obtain ⟨cq2, kq2, q2a, q2b, q2c⟩ := isOf hZ e1 Eb
  obtain ⟨_, _, ⟨T2, L2, k2, n2⟩, -, X2, ⟨Lc2, hQ2, l2, y2, z2⟩, st2⟩ := X1.virtualBack hx (y := (⟨"java/lang/AbstractStringBuilder", "getValue", "()[B"⟩ : MethodName)) (z := (⟨"java/lang/AbstractStringBuilder", "getValue", "()[B"⟩ : MethodName)) hown (mvT hZ (hw _ (List.mem_of_getElem? (i := 150) rfl))) (mvT hZ (hw _ (List.mem_of_getElem? (i := 151) rfl))) (notFace_of_selects (args := #[]) (mvT hZ (hw _ (List.mem_of_getElem? (i := 153) rfl)))) (mvT hZ (hw _ (List.mem_of_getElem? (i := 153) rfl))) (mvT hZ (hw _ (List.mem_of_getElem? (i := 152) rfl))) (by decide) (backOf (W := 0) (rm26 l Z a0 hw [] sb va h0 n0 Z0 Fv) hZ (hw _ (List.mem_of_getElem? (i := 154) rfl)) (hw _ (List.mem_of_getElem? (i := 21) rfl)) (by decide) (by decide)) q2a q2c (g := (mkF m 5 #[.val (.ref st), .val (.ref sb), .val .null, .unset, .unset] [(.ref sb)])) rfl (by rw [hml]; rfl) (Steps.refl _) (argsL := []) (rest := []) (lenOf own_pd16 rfl) rfl (by show 2 * 0 + _ ≤ _; exact Nat.le_of_eq rfl) (hb hby own_d25_5) (fun _ _ => ⟨rfl, e1, (by decide : 0 + 0 ≤ _), (by decide : 0 + 0 ≤ _)⟩)
  dsimp only [Pt.U, Pt.locs, Pt.cells, Pt.slots] at X2 l2 y2 z2 st2 hQ2
  subst l2 y2 z2
  obtain ⟨rfl, N2q, eh2⟩ := hQ2
  have N2 := Fr.app N0 N2q
  refine Goes.tr st2 ?_
  show Goes p e below _ T2 (mkF m 8 #[.val (.ref st), .val (.ref sb), .val .null, .unset, .unset] [(.ref va)])
  refine own_astoreN X2 hx 9 rfl #[.val (.ref st), .val (.ref sb), .val .null, .val (.ref va), .unset] (hb hby own_d25_8) rfl rfl ?_
  refine own_aloadN X2 hx 10 rfl (hb hby own_d25_9) rfl rfl ?_
  obtain ⟨cq3, kq3, q3a, q3b, q3c⟩ := isOf hZ eh2 Eb
  obtain ⟨_, _, ⟨T3, L3, k3, n3⟩, -, X3, ⟨Lc3, hQ3, l3, y3, z3⟩, st3⟩ := X2.virtualBack hx (y := (⟨"java/lang/AbstractStringBuilder", "length", "()I"⟩ : MethodName)) (z := (⟨"java/lang/StringBuilder", "length", "()I"⟩ : MethodName)) hown (mvT hZ (hw _ (List.mem_of_getElem? (i := 155) rfl))) (mvT hZ (hw _ (List.mem_of_getElem? (i := 156) rfl))) (own_nf (args := #[]) (mvT hZ (hw _ (List.mem_of_getElem? (i := 153) rfl))) rfl) (mvT hZ (hw _ (List.mem_of_getElem? (i := 158) rfl))) (mvT hZ (hw _ (List.mem_of_getElem? (i := 159) rfl))) (by decide) (backOf (W := 0) (rm27 l Z a0 hw [] sb cn h0 n0 Z0 Eb Fn) hZ (hw _ (List.mem_of_getElem? (i := 160) rfl)) (hw _ (List.mem_of_getElem? (i := 13) rfl)) (by decide) (by decide)) q3a q3c (g := (mkF m 10 #[.val (.ref st), .val (.ref sb), .val .null, .val (.ref va), .unset] [(.ref sb)])) rfl (by rw [hml]; rfl) (Steps.refl _) (argsL := []) (rest := []) (lenOf own_pd5 rfl) rfl (by show 2 * 0 + _ ≤ _; exact Nat.le_of_eq rfl) (hb hby own_d25_10) (fun _ _ => ⟨rfl, eh2, (by decide : 0 + 0 ≤ _), (by decide : 0 + 0 ≤ _)⟩)
  dsimp only [Pt.U, Pt.locs, Pt.cells, Pt.slots] at X3 l3 y3 z3 st3 hQ3
  subst l3 y3 z3
  obtain ⟨rfl, N3q, eh3⟩ := hQ3
  have N3 := Fr.app N2 N3q
  refine Goes.tr st3 ?_
  show Goes p e below _ T3 (mkF m 13 #[.val (.ref st), .val (.ref sb), .val .null, .val (.ref va), .unset] [(.int cn)])
  refine own_istore X3 hx 15 rfl #[.val (.ref st), .val (.ref sb), .val .null, .val (.ref va), .val (.int cn)] (hb hby own_d25_13) rfl ?_
  refine own_aloadN X3 hx 16 rfl (hb hby own_d25_15) rfl rfl ?_
  obtain ⟨cq4, kq4, q4a, q4b, q4c⟩ := isOf hZ eh3 Eb
  obtain ⟨_, _, ⟨T4, L4, k4, n4⟩, -, X4, ⟨Lc4, hQ4, l4, y4, z4⟩, st4⟩ := X3.virtualBack hx (y := (⟨"java/lang/AbstractStringBuilder", "isLatin1", "()Z"⟩ : MethodName)) (z := (⟨"java/lang/AbstractStringBuilder", "isLatin1", "()Z"⟩ : MethodName)) hown (mvT hZ (hw _ (List.mem_of_getElem? (i := 163) rfl))) (mvT hZ (hw _ (List.mem_of_getElem? (i := 126) rfl))) (notFace_of_selects (args := #[]) (mvT hZ (hw _ (List.mem_of_getElem? (i := 128) rfl)))) (mvT hZ (hw _ (List.mem_of_getElem? (i := 128) rfl))) (mvT hZ (hw _ (List.mem_of_getElem? (i := 127) rfl))) (by decide) (backOf (W := 0) (rm21 l Z a0 hw [] sb cs h0 n0 Z0 Sc hcs Fc) hZ (hw _ (List.mem_of_getElem? (i := 129) rfl)) (hw _ (List.mem_of_getElem? (i := 21) rfl)) (by decide) (by decide)) q4a q4c (g := (mkF m 16 #[.val (.ref st), .val (.ref sb), .val .null, .val (.ref va), .val (.int cn)] [(.ref sb)])) rfl (by rw [hml]; rfl) (Steps.refl _) (argsL := []) (rest := []) (lenOf own_pd13 rfl) rfl (by show 2 * 0 + _ ≤ _; exact Nat.le_of_eq rfl) (hb hby own_d25_16) (fun _ _ => ⟨rfl, eh3, (by decide : 0 + 0 ≤ _), (by decide : 0 + 0 ≤ _)⟩)
  dsimp only [Pt.U, Pt.locs, Pt.cells, Pt.slots] at X4 l4 y4 z4 st4 hQ4
  subst l4 y4 z4
  obtain ⟨rfl, N4q, eh4⟩ := hQ4
  have N4 := Fr.app N3 N4q
  refine Goes.tr st4 ?_
  show Goes p e below _ T4 (mkF m 19 #[.val (.ref st), .val (.ref sb), .val .null, .val (.ref va), .val (.int cn)] [(.int (1 : Int32))])
  refine own_ifN X4 hx 22 (hb hby own_d25_19) ((if0 _ _).trans (feq ((by decide) : ¬ ((1 : Int32) = (0 : Int32)))).1) rfl ?_
  refine own_aloadN X4 hx 23 rfl (hb hby own_d25_22) rfl rfl ?_
  refine own_iconst X4 hx 24 rfl (0 : Int32) (hb hby own_d25_23) (by decide) ?_
  obtain ⟨T5, h5, X5, e5, W5, st5⟩ := putFN X4 hx hZ hown (hw _ (List.mem_of_getElem? (i := 61) rfl)) Via.refl eh4 Ftc Et (Or.inr ⟨(hw _ (List.mem_of_getElem? (i := 36) rfl)), rfl, hnm⟩) (hw _ (List.mem_of_getElem? (i := 34) rfl)) (ty := .byte) (v' := (.int (0 : Int32))) (by decide) rfl (by decide) (g := (mkF m 24 #[.val (.ref st), .val (.ref sb), .val .null, .val (.ref va), .val (.int cn)] [(.int (0 : Int32)), (.ref st)])) rfl rfl (hb hby own_d25_24)
  have N5 := Fr.snoc X5 N4 gt_
  have f6 := Sc.wr W5
  have f7 := Et.wr W5
  have f8 := Ftv.other W5 (Or.inr (slot_ne (Or.inr (hw _ (List.mem_of_getElem? (i := 35) rfl))) (Or.inr (hw _ (List.mem_of_getElem? (i := 36) rfl))) (by decide) (t := (.array .byte)) (t' := .byte) (by decide) (by decide)))
  have f9 := Ftc.same W5
  have f10 := Eb.wr W5
  have f11 := Fv.other W5 (Or.inl nbs)
  have f12 := Fc.other W5 (Or.inl nbs)
  have f13 := Bv.other W5 nvs
  have f14 := Fn.other W5 (Or.inl nbs)
  have K5 := K0.wr W5 (Or.inl (List.mem_of_getElem? (i := 0) rfl))
  have Z5 := Nat.le_trans Z0 (Nat.le_of_eq W5.size.symm)
  refine Goes.go st5 ?_
  show Goes p e below _ T5 (mkF m 27 #[.val (.ref st), .val (.ref sb), .val .null, .val (.ref va), .val (.int cn)] [])
  refine own_aloadN X5 hx 28 rfl (hb hby own_d25_27) rfl rfl ?_
  refine own_aloadN X5 hx 29 rfl (hb hby own_d25_28) rfl rfl ?_
  refine own_iconst X5 hx 30 rfl (0 : Int32) (hb hby own_d25_29) (by decide) ?_
  refine own_iload X5 hx 32 rfl (hb hby own_d25_30) rfl ?_
  obtain ⟨_, _, ⟨T15, L15, k15, n15⟩, -, X15, ⟨Lc15, hQ15, l15, y15, z15⟩, st15⟩ := Jvm.LawKit.callS X5 hx (y := (⟨"java/util/Arrays", "copyOfRange", "([BII)[B"⟩ : MethodName)) hown (mvT hZ (hw _ (List.mem_of_getElem? (i := 164) rfl))) (mvT hZ (hw _ (List.mem_of_getElem? (i := 165) rfl))) (mvT hZ (hw _ (List.mem_of_getElem? (i := 119) rfl))) (mvT hZ (hw _ (List.mem_of_getElem? (i := 166) rfl))) (by decide) (backOf (W := 1) (rmcrR l Z a0 hw [] va cn dn h5 n0 Z5 f13 hrt hcp hlt) hZ (hw _ (List.mem_of_getElem? (i := 166) rfl)) (hw _ (List.mem_of_getElem? (i := 119) rfl)) (by decide) (by decide)) (g := (mkF m 32 #[.val (.ref st), .val (.ref sb), .val .null, .val (.ref va), .val (.int cn)] [(.int cn), (.int (0 : Int32)), (.ref va), (.ref st)])) rfl (by rw [hml]; rfl) (argsL := [(.ref va), (.int (0 : Int32)), (.int cn)]) (rest := [(.ref st)]) (lenOf own_pd2 rfl) rfl (by show 2 * 0 + _ ≤ _; exact Nat.le_of_eq rfl) (hb hby own_d25_32) (fun _ _ => ⟨rfl, e5, (by decide : 0 + 1 ≤ _), (by decide : 0 + 100 ≤ _)⟩)
  dsimp only [Pt.U, Pt.locs, Pt.cells, Pt.slots] at X15 l15 y15 z15 st15 hQ15
  subst l15 y15 z15
  obtain ⟨cb_15, rfl, N15q, K15q, f15_0, f15_1⟩ := hQ15
  have N15 := Fr.app N5 N15q
  have ne16 : st ≠ cb_15 := Nat.ne_of_lt (Nat.lt_of_lt_of_le f7.lt f15_0)
  have ne17 : sb ≠ cb_15 := Nat.ne_of_lt (Nat.lt_of_lt_of_le f10.lt f15_0)
  have ne18 : va ≠ cb_15 := Nat.ne_of_lt (Nat.lt_of_lt_of_le f13.lt f15_0)
  have GG19 : n0 ≤ cb_15 := Nat.le_trans Z5 f15_0
  have HG19 : h0.size ≤ cb_15 := Nat.le_trans K5.1 f15_0
  have f20 := own_sta_keep f6 K15q all0
  have f21 := f7.keep K15q
  have f22 := f8.keep K15q nin0
  have f23 := f9.keep K15q nin0
  have f24 := f10.keep K15q
  have f25 := f11.keep K15q nin0
  have f26 := f12.keep K15q nin0
  have f27 := f13.keep K15q nin0
  have f28 := f14.keep K15q nin0
  have K15 := K5.trans K15q all0
  have Z15 := Nat.le_trans Z5 K15q.1
  refine Goes.go st15 ?_
  show Goes p e below _ T15 (mkF m 35 #[.val (.ref st), .val (.ref sb), .val .null, .val (.ref va), .val (.int cn)] [(.ref cb_15), (.ref st)])
  obtain ⟨T29, h29, X29, e29, W29, st29⟩ := putF X15 hx hZ hown (host := "") (Or.inl (hw _ (List.mem_of_getElem? (i := 54) rfl))) Via.refl rfl f22 f21 (Or.inr ⟨(hw _ (List.mem_of_getElem? (i := 35) rfl)), rfl, hnm⟩) (hw _ (List.mem_of_getElem? (i := 34) rfl)) (ty := (.array .byte)) (by decide) rfl rfl (g := (mkF m 35 #[.val (.ref st), .val (.ref sb), .val .null, .val (.ref va), .val (.int cn)] [(.ref cb_15), (.ref st)])) rfl rfl (hb hby own_d25_35)
  have N29 := Fr.snoc X29 N15 gt_
  have f30 := f20.wr W29
  have f31 := f21.wr W29
  have f32 := f22.same W29
  have f33 := f23.other W29 (Or.inr (slot_ne (Or.inr (hw _ (List.mem_of_getElem? (i := 36) rfl))) (Or.inr (hw _ (List.mem_of_getElem? (i := 35) rfl))) (by decide) (t := .byte) (t' := (.array .byte)) (by decide) (by decide)))
  have f34 := f24.wr W29
  have f35 := f25.other W29 (Or.inl nbs)
  have f36 := f26.other W29 (Or.inl nbs)
  have f37 := f27.other W29 nvs
  have f38 := f28.other W29 (Or.inl nbs)
  have f39 := f15_1.other W29 (Ne.symm ne16)
  have K29 := K15.wr W29 (Or.inl (List.mem_of_getElem? (i := 0) rfl))
  have Z29 := Nat.le_trans Z15 (Nat.le_of_eq W29.size.symm)
  refine Goes.go st29 ?_
  show Goes p e below _ T29 (mkF m 38 #[.val (.ref st), .val (.ref sb), .val .null, .val (.ref va), .val (.int cn)] [])
  refine own_goto X29 hx 97 (hb hby own_d25_38) (by decide) (by decide) ?_
  refine own_retV X29 hx hlk Bd.returns (hb hby own_d25_97) (by decide) (by decide) e29 ?_
  exact ⟨rfl, N29, K29⟩
def QsjR (Z : State) (st : Addr) (sb : Addr) (cs : Int32) (va : Addr) (dn : Int32) (cn : Int32) (h0 : Heap) (n0 : Nat) (v : Option Value) (h : Heap) (L : List Loc) : Prop := v = none ∧ Fr n0 L ∧ Keep h0 h [st]
set_option maxRecDepth 65536 in
set_option maxHeartbeats 40000000 in
theorem rmsjR (l : Launch) (Z : State) (a0 : Array Value) (hw : ∀ d ∈ tables_1, d.before a0 Z = true) (ws : List Jvm.Cond) (st : Addr) (sb : Addr) (cs : Int32) (va : Addr) (dn : Int32) (cn : Int32) (h0 : Heap) (n0 : Nat) (Z0 : n0 ≤ h0.size) (Sc : Sta Z h0 "java/lang/String" "COMPACT_STRINGS" "Z" (.int cs)) (hcs : ¬ (cs = (0 : Int32))) (Et : Exa Z h0 st "java/lang/String") (gt_ : n0 ≤ st) (Ftv : Fld Z h0 st "java/lang/String" "value" "[B" .null) (Ftc : Fld Z h0 st "java/lang/String" "coder" "B" (.int (0 : Int32))) (Eb : Exa Z h0 sb "java/lang/StringBuilder") (Fv : Fld Z h0 sb "java/lang/AbstractStringBuilder" "value" "[B" (.ref va)) (Fc : Fld Z h0 sb "java/lang/AbstractStringBuilder" "coder" "B" (.int (0 : Int32))) (Bv : ByA Z h0 va dn) (Fn : Fld Z h0 sb "java/lang/AbstractStringBuilder" "count" "I" (.int cn)) (nbs : sb ≠ st) (nvs : va ≠ st) (hrt : ¬ (cn < (0 : Int32))) (hcp : (cn).toNatClampNeg ≤ 100) (hlt : cn < dn) :
    MetFree l (⟨"java/lang/String", "<init>", "(Ljava/lang/StringBuilder;)V"⟩ : MethodName) (head1 (Jvm.Cond.code (⟨"java/lang/String", "<init>", "(Ljava/lang/StringBuilder;)V"⟩ : MethodName) jdk_42_method_53_code 2 none :: ws) ({ frames := 4, cells := 1, slots := 100, locals := 65 } : Room)) (fun a U => a = #[(.ref st), (.ref sb)] ∧ Z.Warmed39 U.vm ∧ U.heap = h0) (fun _ _ _ _ _ => True) (fun _ U o U' => ∃ v L, o = .returned v ∧ QsjR Z st sb cs va dn cn h0 n0 v U'.heap L ∧ FrameEnd U o U' L ({ frames := 4, cells := 1, slots := 100, locals := 65 } : Room).cells ({ frames := 4, cells := 1, slots := 100, locals := 65 } : Room).slots) := by
  refine MetFree.of_bodySF (plainFor_of_name own_pn_java_lang_String) hisR ?_
  intro p e s m args below meth c s₁ Bd hml0 hP hK
  obtain ⟨rfl, hZ, hh⟩ := hP
  have hx := Bd.exec
  have hby := Bd.bytes
  have hml : c.maxLocals = 2 := hml0
  have hlk := Bd.notSynchronized
  have hown : s.vm.findClass "java/lang/String" = some m.cls := findClass_of_methodNamed Bd.named
  have hnm := (name_of_methodNamed Bd.named Bd.method).1
  have X0 : Stand p l e ({ frames := 4, cells := 1, slots := 100, locals := 65 } : Room) s m #[(.ref st), (.ref sb)] below meth c s₁ [] 0 0 := Stand.of_body Bd
  have e0 : s₁.heap = h0 := by rw [← hh, Bd.state]; rfl
  have N0 := Fr.nil n0
  have K0 : Keep h0 h0 [st] := Keep.refl _ _
  refine own_enter (P := (Done s ({ frames := 4, cells := 1, slots := 100, locals := 65 } : Room).cells ({ frames := 4, cells := 1, slots := 100, locals := 65 } : Room).slots (QsjR Z st sb cs va dn cn h0 n0))) (Ls := #[.val (.ref st), .val (.ref sb)]) (by first | (simp [entryFrame, mkF, argsToLocals, Value.category]; done) | rfl) ?_
  refine own_aloadN X0 hx 1 rfl (hb hby own_d24_0) rfl rfl ?_
  refine own_aloadN X0 hx 2 rfl (hb hby own_d24_1) rfl rfl ?_
  refine own_aconst_null X0 hx 3 rfl (hb hby own_d24_2) ?_
  obtain ⟨_, _, ⟨T1, L1, k1, n1⟩, -, X1, ⟨Lc1, hQ1, l1, y1, z1⟩, st1⟩ := X0.specialBack hx (y := (⟨"java/lang/String", "<init>", "(Ljava/lang/AbstractStringBuilder;Ljava/lang/Void;)V"⟩ : MethodName)) rfl hown (mvT hZ (hw _ (List.mem_of_getElem? (i := 146) rfl))) (mvT hZ (hw _ (List.mem_of_getElem? (i := 147) rfl))) (mvT hZ (hw _ (List.mem_of_getElem? (i := 148) rfl))) (by decide) (backOf (W := 0) (rmsiR l Z a0 hw [] st sb cs va dn cn h0 n0 Z0 Sc hcs Et gt_ Ftv Ftc Eb Fv Fc Bv Fn nbs nvs hrt hcp hlt) hZ (hw _ (List.mem_of_getElem? (i := 148) rfl)) (hw _ (List.mem_of_getElem? (i := 27) rfl)) (by decide) (by decide)) (g := (mkF m 3 #[.val (.ref st), .val (.ref sb)] [.null, (.ref sb), (.ref st)])) rfl (by rw [hml]; rfl) (Steps.refl _) (a := st) (argsL := [(.ref sb), .null]) (rest := []) (lenOf own_pd17 rfl) rfl (by show 2 * 0 + _ ≤ _; exact Nat.le_of_eq rfl) (hb hby own_d24_3) (fun _ _ => ⟨rfl, e0, (by decide : 0 + 1 ≤ _), (by decide : 0 + 100 ≤ _)⟩)
  dsimp only [Pt.U, Pt.locs, Pt.cells, Pt.slots] at X1 l1 y1 z1 st1 hQ1
  subst l1 y1 z1
  obtain ⟨rfl, N1q, K1q⟩ := hQ1
  have N1 := Fr.app N0 N1q
  have f2 := own_sta_keep Sc K1q (allS (own_eplain Et) all0)
  have f3 := Et.keep K1q
  have f4 := Eb.keep K1q
  have f5 := Fv.keep K1q (ninS nbs nin0)
  have f6 := Fc.keep K1q (ninS nbs nin0)
  have f7 := Bv.keep K1q (ninS nvs nin0)
  have f8 := Fn.keep K1q (ninS nbs nin0)
  have K1 := K0.trans K1q (allS (Or.inl (List.mem_of_getElem? (i := 0) rfl)) all0)
  have Z1 := Nat.le_trans Z0 K1q.1
  refine Goes.tr st1 ?_
  show Goes p e below _ T1 (mkF m 6 #[.val (.ref st), .val (.ref sb)] [])
  refine own_retV X1 hx hlk Bd.returns (hb hby own_d24_6) (by decide) (by decide) rfl ?_
  exact ⟨rfl, N1, K1⟩
def QtsR (Z : State) (sb : Addr) (cs : Int32) (va : Addr) (dn : Int32) (cn : Int32) (h0 : Heap) (n0 : Nat) (v : Option Value) (h : Heap) (L : List Loc) : Prop := ∃ st_ : Addr, v = some (.ref st_) ∧ Fr n0 L ∧ Keep h0 h [] ∧ h0.size ≤ st_
set_option maxRecDepth 65536 in
set_option maxHeartbeats 40000000 in
theorem rmtsR (l : Launch) (Z : State) (a0 : Array Value) (hw : ∀ d ∈ tables_1, d.before a0 Z = true) (ws : List Jvm.Cond) (sb : Addr) (cs : Int32) (va : Addr) (dn : Int32) (cn : Int32) (h0 : Heap) (n0 : Nat) (Z0 : n0 ≤ h0.size) (Sc : Sta Z h0 "java/lang/String" "COMPACT_STRINGS" "Z" (.int cs)) (hcs : ¬ (cs = (0 : Int32))) (Eb : Exa Z h0 sb "java/lang/StringBuilder") (Fv : Fld Z h0 sb "java/lang/AbstractStringBuilder" "value" "[B" (.ref va)) (Fc : Fld Z h0 sb "java/lang/AbstractStringBuilder" "coder" "B" (.int (0 : Int32))) (Bv : ByA Z h0 va dn) (Fn : Fld Z h0 sb "java/lang/AbstractStringBuilder" "count" "I" (.int cn)) (hrt : ¬ (cn < (0 : Int32))) (hcp : (cn).toNatClampNeg ≤ 100) (hlt : cn < dn) :
    MetFree l (⟨"java/lang/StringBuilder", "toString", "()Ljava/lang/String;"⟩ : MethodName) (head1 (Jvm.Cond.code (⟨"java/lang/StringBuilder", "toString", "()Ljava/lang/String;"⟩ : MethodName) jdk_67_method_42_code 1 (some (.object "java/lang/String")) :: ws) ({ frames := 5, cells := 2, slots := 104, locals := 79 } : Room)) (fun a U => a = #[(.ref sb)] ∧ Z.Warmed39 U.vm ∧ U.heap = h0) (fun _ _ _ _ _ => True) (fun _ U o U' => ∃ v L, o = .returned v ∧ QtsR Z sb cs va dn cn h0 n0 v U'.heap L ∧ FrameEnd U o U' L ({ frames := 5, cells := 2, slots := 104, locals := 79 } : Room).cells ({ frames := 5, cells := 2, slots := 104, locals := 79 } : Room).slots) := by
  refine MetFree.of_bodySF (plainFor_of_name own_pn_java_lang_StringBuilder) hisR ?_
  intro p e s m args below meth c s₁ Bd hml0 hP hK
  obtain ⟨rfl, hZ, hh⟩ := hP
  have hx := Bd.exec
  have hby := Bd.bytes
  have hml : c.maxLocals = 1 := hml0
  have hlk := Bd.notSynchronized
  have hown : s.vm.findClass "java/lang/StringBuilder" = some m.cls := findClass_of_methodNamed Bd.named
  have hnm := (name_of_methodNamed Bd.named Bd.method).1
  have X0 : Stand p l e ({ frames := 5, cells := 2, slots := 104, locals := 79 } : Room) s m #[(.ref sb)] below meth c s₁ [] 0 0 := Stand.of_body Bd
  have e0 : s₁.heap = h0 := by rw [← hh, Bd.state]; rfl
  have N0 := Fr.nil n0
  have K0 : Keep h0 h0 [] := Keep.refl _ _
  refine own_enter (P := (Done s ({ frames := 5, cells := 2, slots := 104, locals := 79 } : Room).cells ({ frames := 5, cells := 2, slots := 104, locals := 79 } : Room).slots (QtsR Z sb cs va dn cn h0 n0))) (Ls := #[.val (.ref sb)]) (by first | (simp [entryFrame, mkF, argsToLocals, Value.category]; done) | rfl) ?_
  obtain ⟨T1, h1, X1, e1, E1, A1, D1, Un1, st1⟩ := newO X0 hx hZ hown (hw _ (List.mem_of_getElem? (i := 141) rfl)) (hw _ (List.mem_of_getElem? (i := 34) rfl)) (hw _ (List.mem_of_getElem? (i := 27) rfl)) e0 (g := (mkF m 0 #[.val (.ref sb)] [])) rfl (hb hby own_d23_0) (by decide) (by decide)
  obtain ⟨b1, g1⟩ : ∃ z, z = h0.size := ⟨_, rfl⟩
  rw [← g1] at A1 D1 Un1 st1
  have ne2 : sb ≠ b1 := own_lt_ne Eb.lt g1
  have ne3 : va ≠ b1 := own_lt_ne Bv.lt g1
  have G1 : n0 ≤ b1 := Nat.le_trans Z0 (Nat.le_of_eq g1.symm)
  have H1 : h0.size ≤ b1 := Nat.le_trans K0.1 (Nat.le_of_eq g1.symm)
  have f4 := Sc.ext E1
  have f5 := Eb.ext E1
  have f6 := Fv.ext E1
  have f7 := Fc.ext E1
  have f8 := Bv.ext E1
  have f9 := Fn.ext E1
  have K1 := K0.ext E1
  have Z1 := Nat.le_trans Z0 E1.1
  have f10 : Fld Z h1 b1 "java/lang/String" "value" "[B" .null := D1 (Or.inr (hw _ (List.mem_of_getElem? (i := 35) rfl))) (ty := (.array .byte)) (by decide)
  have f11 : Fld Z h1 b1 "java/lang/String" "coder" "B" (.int (0 : Int32)) := D1 (Or.inr (hw _ (List.mem_of_getElem? (i := 36) rfl))) (ty := .byte) (by decide)
  refine Goes.go st1 ?_
  show Goes p e below _ T1 (mkF m 3 #[.val (.ref sb)] [(.ref b1)])
  refine own_dup X1 hx 4 rfl (hb hby own_d23_3) rfl ?_
  refine own_aloadN X1 hx 5 rfl (hb hby own_d23_4) rfl rfl ?_
  obtain ⟨_, _, ⟨T12, L12, k12, n12⟩, -, X12, ⟨Lc12, hQ12, l12, y12, z12⟩, st12⟩ := X1.specialBack hx (y := (⟨"java/lang/String", "<init>", "(Ljava/lang/StringBuilder;)V"⟩ : MethodName)) rfl hown (mvT hZ (hw _ (List.mem_of_getElem? (i := 142) rfl))) (mvT hZ (hw _ (List.mem_of_getElem? (i := 143) rfl))) (mvT hZ (hw _ (List.mem_of_getElem? (i := 145) rfl))) (by decide) (backOf (W := 1) (rmsjR l Z a0 hw [] b1 sb cs va dn cn h1 n0 Z1 f4 hcs A1 G1 f10 f11 f5 f6 f7 f8 f9 ne2 ne3 hrt hcp hlt) hZ (hw _ (List.mem_of_getElem? (i := 145) rfl)) (hw _ (List.mem_of_getElem? (i := 27) rfl)) (by decide) (by decide)) (g := (mkF m 5 #[.val (.ref sb)] [(.ref sb), (.ref b1), (.ref b1)])) rfl (by rw [hml]; rfl) (Steps.refl _) (a := b1) (argsL := [(.ref sb)]) (rest := [(.ref b1)]) (lenOf own_pd18 rfl) rfl (by show 2 * 0 + _ ≤ _; exact Nat.le_of_eq rfl) (hb hby own_d23_5) (fun _ _ => ⟨rfl, e1, (by decide : 1 + 1 ≤ _), (by decide : 4 + 100 ≤ _)⟩)
  dsimp only [Pt.U, Pt.locs, Pt.cells, Pt.slots] at X12 l12 y12 z12 st12 hQ12
  subst l12 y12 z12
  obtain ⟨rfl, N12q, K12q⟩ := hQ12
  have N12 := Fr.app N0 N12q
  have f13 := own_sta_keep f4 K12q (allS (own_eplain A1) all0)
  have f14 := f5.keep K12q
  have f15 := f6.keep K12q (ninS ne2 nin0)
  have f16 := f7.keep K12q (ninS ne2 nin0)
  have f17 := f8.keep K12q (ninS ne3 nin0)
  have f18 := f9.keep K12q (ninS ne2 nin0)
  have f19 := A1.keep K12q
  have K12 := K1.trans K12q (allS (Or.inr H1) all0)
  have Z12 := Nat.le_trans Z1 K12q.1
  refine Goes.tr st12 ?_
  show Goes p e below _ T12 (mkF m 8 #[.val (.ref sb)] [(.ref b1)])
  refine own_retR X12 hx hlk Bd.returns rfl rfl (hb hby own_d23_8) (by decide) (by decide) rfl ?_
  exact ⟨b1, rfl, N12, K12, H1⟩
theorem own_d35_0 : decode jdk_78_method_2_code 0 = .ok (.aload_n 0, 1) := by decide +kernel
theorem own_d35_1 : decode jdk_78_method_2_code 1 = .ok (.invokespecial 1, 3) := by decide +kernel
theorem own_d35_4 : decode jdk_78_method_2_code 4 = .ok (.aload_n 0, 1) := by decide +kernel
theorem own_d35_5 : decode jdk_78_method_2_code 5 = .ok (.aload_n 0, 1) := by decide +kernel
theorem own_d35_6 : decode jdk_78_method_2_code 6 = .ok (.putfield 7, 3) := by decide +kernel
theorem own_d35_9 : decode jdk_78_method_2_code 9 = .ok (.aload_n 0, 1) := by decide +kernel
theorem own_d35_10 : decode jdk_78_method_2_code 10 = .ok (.getstatic 13, 3) := by decide +kernel
theorem own_d35_13 : decode jdk_78_method_2_code 13 = .ok (.putfield 17, 3) := by decide +kernel
theorem own_d35_16 : decode jdk_78_method_2_code 16 = .ok (.aload_n 0, 1) := by decide +kernel
theorem own_d35_17 : decode jdk_78_method_2_code 17 = .ok (.getstatic 20, 3) := by decide +kernel
theorem own_d35_20 : decode jdk_78_method_2_code 20 = .ok (.putfield 24, 3) := by decide +kernel
theorem own_d35_23 : decode jdk_78_method_2_code 23 = .ok (.aload_n 0, 1) := by decide +kernel
theorem own_d35_24 : decode jdk_78_method_2_code 24 = .ok (.invokevirtual 27, 3) := by decide +kernel
theorem own_d35_27 : decode jdk_78_method_2_code 27 = .ok (.pop, 1) := by decide +kernel
theorem own_d35_28 : decode jdk_78_method_2_code 28 = .ok (.aload_n 0, 1) := by decide +kernel
theorem own_d35_29 : decode jdk_78_method_2_code 29 = .ok (.aload_n 1, 1) := by decide +kernel
theorem own_d35_30 : decode jdk_78_method_2_code 30 = .ok (.putfield 31, 3) := by decide +kernel
theorem own_d35_33 : decode jdk_78_method_2_code 33 = .ok (.return_, 1) := by decide +kernel
theorem own_pn_java_lang_Throwable : plainName "java/lang/Throwable" = true := by first | (simp [plainName, overriddenIn]; done) | decide +kernel
def Q35 (Z : State) (xo : Addr) (xm : Addr) (us : Value) (ss : Value) (h0 : Heap) (n0 : Nat) (v : Option Value) (h : Heap) (L : List Loc) : Prop := v = none ∧ Fr n0 L ∧ Keep h0 h [xo] ∧ Unt h xo
set_option maxRecDepth 65536 in
set_option maxHeartbeats 40000000 in
theorem rm35 (l : Launch) (Z : State) (a0 : Array Value) (hw : ∀ d ∈ tables_1, d.before a0 Z = true) (ws : List Jvm.Cond) (xo : Addr) (xm : Addr) (us : Value) (ss : Value) (h0 : Heap) (n0 : Nat) (Z0 : n0 ≤ h0.size) (Ex : Exa Z h0 xo "java/lang/IllegalArgumentException") (gx : n0 ≤ xo) (Ux : Unt h0 xo) (Fcau : Fld Z h0 xo "java/lang/Throwable" "cause" "Ljava/lang/Throwable;" .null) (Fsta : Fld Z h0 xo "java/lang/Throwable" "stackTrace" "[Ljava/lang/StackTraceElement;" .null) (Fsup : Fld Z h0 xo "java/lang/Throwable" "suppressedExceptions" "Ljava/util/List;" .null) (Fbac : Fld Z h0 xo "java/lang/Throwable" "backtrace" "Ljava/lang/Object;" .null) (Fdet : Fld Z h0 xo "java/lang/Throwable" "detailMessage" "Ljava/lang/String;" .null) (hE0 : Ext Z.heap h0) (Fus : Sta Z h0 "java/lang/Throwable" "UNASSIGNED_STACK" "[Ljava/lang/StackTraceElement;" us) (hus : us.isRef = true) (Fss : Sta Z h0 "java/lang/Throwable" "SUPPRESSED_SENTINEL" "Ljava/util/List;" ss) (hss : ss.isRef = true) (hfl : l.flags = flags0) :
    MetFree l (⟨"java/lang/Throwable", "<init>", "(Ljava/lang/String;)V"⟩ : MethodName) (head1 (Jvm.Cond.code (⟨"java/lang/Throwable", "<init>", "(Ljava/lang/String;)V"⟩ : MethodName) jdk_78_method_2_code 2 none :: ws) ({ frames := 3, cells := 1, slots := 2752, locals := 42 } : Room)) (fun a U => a = #[(.ref xo), (.ref xm)] ∧ Z.Warmed39 U.vm ∧ U.heap = h0) (fun _ _ bl st _ => st.vm.MethodsKnown ∧ st.vm.FramesKnown bl) (fun _ U o U' => ∃ v L, o = .returned v ∧ Q35 Z xo xm us ss h0 n0 v U'.heap L ∧ FrameEnd U o U' L ({ frames := 3, cells := 1, slots := 2752, locals := 42 } : Room).cells ({ frames := 3, cells := 1, slots := 2752, locals := 42 } : Room).slots) := by
  refine MetFree.of_bodySF (plainFor_of_name own_pn_java_lang_Throwable) hisR ?_
  intro p e s m args below meth c s₁ Bd hml0 hP hK
  obtain ⟨hTK, hBl⟩ := hK
  obtain ⟨rfl, hZ, hh⟩ := hP
  have hx := Bd.exec
  have hby := Bd.bytes
  have hml : c.maxLocals = 2 := hml0
  have hlk := Bd.notSynchronized
  have hown : s.vm.findClass "java/lang/Throwable" = some m.cls := findClass_of_methodNamed Bd.named
  have hnm := (name_of_methodNamed Bd.named Bd.method).1
  have X0 : Stand p l e ({ frames := 3, cells := 1, slots := 2752, locals := 42 } : Room) s m #[(.ref xo), (.ref xm)] below meth c s₁ [] 0 0 := Stand.of_body Bd
  have e0 : s₁.heap = h0 := by rw [← hh, Bd.state]; rfl
  have N0 := Fr.nil n0
  have K0 : Keep h0 h0 [xo] := Keep.refl _ _
  refine own_enter (P := (Done s ({ frames := 3, cells := 1, slots := 2752, locals := 42 } : Room).cells ({ frames := 3, cells := 1, slots := 2752, locals := 42 } : Room).slots (Q35 Z xo xm us ss h0 n0))) (Ls := #[.val (.ref xo), .val (.ref xm)]) (by first | (simp [entryFrame, mkF, argsToLocals, Value.category]; done) | rfl) ?_
  refine own_aloadN X0 hx 1 rfl (hb hby own_d35_0) rfl rfl ?_
  obtain ⟨T1, X1, e1, st1⟩ := initO X0 hx hZ hown (hw _ (List.mem_of_getElem? (i := 194) rfl)) (hw _ (List.mem_of_getElem? (i := 24) rfl)) (hw _ (List.mem_of_getElem? (i := 25) rfl)) e0 (g := (mkF m 1 #[.val (.ref xo), .val (.ref xm)] [(.ref xo)])) rfl (by rw [hml]; rfl) rfl (hb hby own_d35_1) (by decide) (W := 0) (by show 2 * 0 + _ ≤ _; exact Nat.le_of_eq rfl) (by decide)
  refine Goes.go st1 ?_
  show Goes p e below _ T1 (mkF m 4 #[.val (.ref xo), .val (.ref xm)] [])
  refine own_aloadN X1 hx 5 rfl (hb hby own_d35_4) rfl rfl ?_
  refine own_aloadN X1 hx 6 rfl (hb hby own_d35_5) rfl rfl ?_
  obtain ⟨T2, h2, X2, e2, W2, st2⟩ := putF X1 hx hZ hown (host := "") (Or.inl (hw _ (List.mem_of_getElem? (i := 195) rfl))) Via.refl e1 Fcau Ex (Or.inl (hw _ (List.mem_of_getElem? (i := 196) rfl))) (hw _ (List.mem_of_getElem? (i := 9) rfl)) (ty := (.object "java/lang/Throwable")) (by decide) rfl rfl (g := (mkF m 6 #[.val (.ref xo), .val (.ref xm)] [(.ref xo), (.ref xo)])) rfl rfl (hb hby own_d35_6)
  have N2 := Fr.snoc X2 N0 gx
  have f3 := Ex.wr W2
  have f4 := Ux.wr W2
  have f5 := Fcau.same W2
  have f6 := Fsta.other W2 (Or.inr (slot_ne (Or.inl (hw _ (List.mem_of_getElem? (i := 199) rfl))) (Or.inl (hw _ (List.mem_of_getElem? (i := 196) rfl))) (by decide) (t := (.array (.object "java/lang/StackTraceElement"))) (t' := (.object "java/lang/Throwable")) (by decide) (by decide)))
  have f7 := Fsup.other W2 (Or.inr (slot_ne (Or.inl (hw _ (List.mem_of_getElem? (i := 202) rfl))) (Or.inl (hw _ (List.mem_of_getElem? (i := 196) rfl))) (by decide) (t := (.object "java/util/List")) (t' := (.object "java/lang/Throwable")) (by decide) (by decide)))
  have f8 := Fbac.other W2 (Or.inr (slot_ne (Or.inl (hw _ (List.mem_of_getElem? (i := 227) rfl))) (Or.inl (hw _ (List.mem_of_getElem? (i := 196) rfl))) (by decide) (t := (.object "java/lang/Object")) (t' := (.object "java/lang/Throwable")) (by decide) (by decide)))
  have f9 := Fdet.other W2 (Or.inr (slot_ne (Or.inl (hw _ (List.mem_of_getElem? (i := 226) rfl))) (Or.inl (hw _ (List.mem_of_getElem? (i := 196) rfl))) (by decide) (t := (.object "java/lang/String")) (t' := (.object "java/lang/Throwable")) (by decide) (by decide)))
  have f10 := Fus.wr W2
  have f11 := Fss.wr W2
  have K2 := K0.wr W2 (Or.inl (List.mem_of_getElem? (i := 0) rfl))
  have Z2 := Nat.le_trans Z0 (Nat.le_of_eq W2.size.symm)
  refine Goes.go st2 ?_
  show Goes p e below _ T2 (mkF m 9 #[.val (.ref xo), .val (.ref xm)] [])
  refine own_aloadN X2 hx 10 rfl (hb hby own_d35_9) rfl rfl ?_
  obtain ⟨T12, X12, e12, st12⟩ := getS2 X2 hx hZ hown (host := "") (Or.inl (hw _ (List.mem_of_getElem? (i := 197) rfl))) Via.refl e2 f10 (g := (mkF m 10 #[.val (.ref xo), .val (.ref xm)] [(.ref xo)])) rfl (hb hby own_d35_10)
  refine Goes.go st12 ?_
  show Goes p e below _ T12 (mkF m 13 #[.val (.ref xo), .val (.ref xm)] [us, (.ref xo)])
  obtain ⟨T13, h13, X13, e13, W13, st13⟩ := putF X12 hx hZ hown (host := "") (Or.inl (hw _ (List.mem_of_getElem? (i := 198) rfl))) Via.refl e12 f6 f3 (Or.inl (hw _ (List.mem_of_getElem? (i := 199) rfl))) (hw _ (List.mem_of_getElem? (i := 9) rfl)) (ty := (.array (.object "java/lang/StackTraceElement"))) (by decide) (own_narR hus) (own_fitsR hus rfl) (g := (mkF m 13 #[.val (.ref xo), .val (.ref xm)] [us, (.ref xo)])) rfl rfl (hb hby own_d35_13)
  have N13 := Fr.snoc X13 N2 gx
  have f14 := f3.wr W13
  have f15 := f4.wr W13
  have f16 := f5.other W13 (Or.inr (slot_ne (Or.inl (hw _ (List.mem_of_getElem? (i := 196) rfl))) (Or.inl (hw _ (List.mem_of_getElem? (i := 199) rfl))) (by decide) (t := (.object "java/lang/Throwable")) (t' := (.array (.object "java/lang/StackTraceElement"))) (by decide) (by decide)))
  have f17 := f6.same W13
  have f18 := f7.other W13 (Or.inr (slot_ne (Or.inl (hw _ (List.mem_of_getElem? (i := 202) rfl))) (Or.inl (hw _ (List.mem_of_getElem? (i := 199) rfl))) (by decide) (t := (.object "java/util/List")) (t' := (.array (.object "java/lang/StackTraceElement"))) (by decide) (by decide)))
  have f19 := f8.other W13 (Or.inr (slot_ne (Or.inl (hw _ (List.mem_of_getElem? (i := 227) rfl))) (Or.inl (hw _ (List.mem_of_getElem? (i := 199) rfl))) (by decide) (t := (.object "java/lang/Object")) (t' := (.array (.object "java/lang/StackTraceElement"))) (by decide) (by decide)))
  have f20 := f9.other W13 (Or.inr (slot_ne (Or.inl (hw _ (List.mem_of_getElem? (i := 226) rfl))) (Or.inl (hw _ (List.mem_of_getElem? (i := 199) rfl))) (by decide) (t := (.object "java/lang/String")) (t' := (.array (.object "java/lang/StackTraceElement"))) (by decide) (by decide)))
  have f21 := f10.wr W13
  have f22 := f11.wr W13
  have K13 := K2.wr W13 (Or.inl (List.mem_of_getElem? (i := 0) rfl))
  have Z13 := Nat.le_trans Z2 (Nat.le_of_eq W13.size.symm)
  refine Goes.go st13 ?_
  show Goes p e below _ T13 (mkF m 16 #[.val (.ref xo), .val (.ref xm)] [])
  refine own_aloadN X13 hx 17 rfl (hb hby own_d35_16) rfl rfl ?_
  obtain ⟨T23, X23, e23, st23⟩ := getS2 X13 hx hZ hown (host := "") (Or.inl (hw _ (List.mem_of_getElem? (i := 200) rfl))) Via.refl e13 f22 (g := (mkF m 17 #[.val (.ref xo), .val (.ref xm)] [(.ref xo)])) rfl (hb hby own_d35_17)
  refine Goes.go st23 ?_
  show Goes p e below _ T23 (mkF m 20 #[.val (.ref xo), .val (.ref xm)] [ss, (.ref xo)])
  obtain ⟨T24, h24, X24, e24, W24, st24⟩ := putF X23 hx hZ hown (host := "") (Or.inl (hw _ (List.mem_of_getElem? (i := 201) rfl))) Via.refl e23 f18 f14 (Or.inl (hw _ (List.mem_of_getElem? (i := 202) rfl))) (hw _ (List.mem_of_getElem? (i := 9) rfl)) (ty := (.object "java/util/List")) (by decide) (own_narR hss) (own_fitsR hss rfl) (g := (mkF m 20 #[.val (.ref xo), .val (.ref xm)] [ss, (.ref xo)])) rfl rfl (hb hby own_d35_20)
  have N24 := Fr.snoc X24 N13 gx
  have f25 := f14.wr W24
  have f26 := f15.wr W24
  have f27 := f16.other W24 (Or.inr (slot_ne (Or.inl (hw _ (List.mem_of_getElem? (i := 196) rfl))) (Or.inl (hw _ (List.mem_of_getElem? (i := 202) rfl))) (by decide) (t := (.object "java/lang/Throwable")) (t' := (.object "java/util/List")) (by decide) (by decide)))
  have f28 := f17.other W24 (Or.inr (slot_ne (Or.inl (hw _ (List.mem_of_getElem? (i := 199) rfl))) (Or.inl (hw _ (List.mem_of_getElem? (i := 202) rfl))) (by decide) (t := (.array (.object "java/lang/StackTraceElement"))) (t' := (.object "java/util/List")) (by decide) (by decide)))
  have f29 := f18.same W24
  have f30 := f19.other W24 (Or.inr (slot_ne (Or.inl (hw _ (List.mem_of_getElem? (i := 227) rfl))) (Or.inl (hw _ (List.mem_of_getElem? (i := 202) rfl))) (by decide) (t := (.object "java/lang/Object")) (t' := (.object "java/util/List")) (by decide) (by decide)))
  have f31 := f20.other W24 (Or.inr (slot_ne (Or.inl (hw _ (List.mem_of_getElem? (i := 226) rfl))) (Or.inl (hw _ (List.mem_of_getElem? (i := 202) rfl))) (by decide) (t := (.object "java/lang/String")) (t' := (.object "java/util/List")) (by decide) (by decide)))
  have f32 := f21.wr W24
  have f33 := f22.wr W24
  have K24 := K13.wr W24 (Or.inl (List.mem_of_getElem? (i := 0) rfl))
  have Z24 := Nat.le_trans Z13 (Nat.le_of_eq W24.size.symm)
  refine Goes.go st24 ?_
  show Goes p e below _ T24 (mkF m 23 #[.val (.ref xo), .val (.ref xm)] [])
  refine own_aloadN X24 hx 24 rfl (hb hby own_d35_23) rfl rfl ?_
  have hE : Ext Z.heap s.heap := by rw [hh]; exact hE0
  obtain ⟨T34, L34, X34, hL34, Kq34, U34, FM34, st34⟩ := own_fill X24 hx (Launch.traces_on hfl Bd.admits) hZ (rc := "java/lang/IllegalArgumentException") (own_W1 hw hZ hE) (own_W2 hw hZ hE) hown hTK hBl e24 (a := xo) (by intro y hy; simp only [List.mem_append, List.mem_cons, List.not_mem_nil, or_false, false_or, or_assoc] at hy; rcases hy with rfl | rfl | rfl <;> rfl) f25 f26 hus f28 f30 f31 f32 (g := (mkF m 24 #[.val (.ref xo), .val (.ref xm)] [(.ref xo)])) rfl (by rw [hml]; rfl) rfl rfl (hb hby own_d35_24) (by decide) (by decide) (by decide) (by decide)
  have f35 := f25.keep Kq34
  have f36 := own_sta_keep f32 Kq34 (allS (own_eplain f25) all0)
  have f37 := own_sta_keep f33 Kq34 (allS (own_eplain f25) all0)
  have K34 := K24.trans Kq34 (allS (Or.inl (List.mem_of_getElem? (i := 0) rfl)) all0)
  have Z34 := Nat.le_trans Z24 Kq34.1
  have N34 : Fr n0 L34 := fun y hy => by rw [hL34 y hy]; exact gx
  refine Goes.tr st34 ?_
  show Goes p e below _ T34 (mkF m 27 #[.val (.ref xo), .val (.ref xm)] [(.ref xo)])
  refine own_pop X34 hx 28 rfl (hb hby own_d35_27) rfl ?_
  refine own_aloadN X34 hx 29 rfl (hb hby own_d35_28) rfl rfl ?_
  refine own_aloadN X34 hx 30 rfl (hb hby own_d35_29) rfl rfl ?_
  obtain ⟨T38, h38, X38, e38, W38, st38⟩ := putF X34 hx hZ hown (host := "") (Or.inl (hw _ (List.mem_of_getElem? (i := 230) rfl))) Via.refl rfl FM34 f35 (Or.inl (hw _ (List.mem_of_getElem? (i := 226) rfl))) (hw _ (List.mem_of_getElem? (i := 9) rfl)) (ty := (.object "java/lang/String")) (by decide) rfl rfl (g := (mkF m 30 #[.val (.ref xo), .val (.ref xm)] [(.ref xm), (.ref xo)])) rfl rfl (hb hby own_d35_30)
  have N38 := Fr.snoc X38 N34 gx
  have f39 := f35.wr W38
  have f40 := f36.wr W38
  have f41 := f37.wr W38
  have f42 := U34.wr W38
  have f43 := FM34.same W38
  have K38 := K34.wr W38 (Or.inl (List.mem_of_getElem? (i := 0) rfl))
  have Z38 := Nat.le_trans Z34 (Nat.le_of_eq W38.size.symm)
  refine Goes.go st38 ?_
  show Goes p e below _ T38 (mkF m 33 #[.val (.ref xo), .val (.ref xm)] [])
  refine own_retV X38 hx hlk Bd.returns (hb hby own_d35_33) (by decide) (by decide) e38 ?_
  exact ⟨rfl, N38, K38, f42⟩
theorem own_d34_0 : decode jdk_59_method_2_code 0 = .ok (.aload_n 0, 1) := by decide +kernel
theorem own_d34_1 : decode jdk_59_method_2_code 1 = .ok (.aload_n 1, 1) := by decide +kernel
theorem own_d34_2 : decode jdk_59_method_2_code 2 = .ok (.invokespecial 7, 3) := by decide +kernel
theorem own_d34_5 : decode jdk_59_method_2_code 5 = .ok (.return_, 1) := by decide +kernel
theorem own_pn_java_lang_Exception : plainName "java/lang/Exception" = true := by first | (simp [plainName, overriddenIn]; done) | decide +kernel
def Q34 (Z : State) (xo : Addr) (xm : Addr) (us : Value) (ss : Value) (h0 : Heap) (n0 : Nat) (v : Option Value) (h : Heap) (L : List Loc) : Prop := v = none ∧ Fr n0 L ∧ Keep h0 h [xo] ∧ Unt h xo
set_option maxRecDepth 65536 in
set_option maxHeartbeats 40000000 in
theorem rm34 (l : Launch) (Z : State) (a0 : Array Value) (hw : ∀ d ∈ tables_1, d.before a0 Z = true) (ws : List Jvm.Cond) (xo : Addr) (xm : Addr) (us : Value) (ss : Value) (h0 : Heap) (n0 : Nat) (Z0 : n0 ≤ h0.size) (Ex : Exa Z h0 xo "java/lang/IllegalArgumentException") (gx : n0 ≤ xo) (Ux : Unt h0 xo) (Fcau : Fld Z h0 xo "java/lang/Throwable" "cause" "Ljava/lang/Throwable;" .null) (Fsta : Fld Z h0 xo "java/lang/Throwable" "stackTrace" "[Ljava/lang/StackTraceElement;" .null) (Fsup : Fld Z h0 xo "java/lang/Throwable" "suppressedExceptions" "Ljava/util/List;" .null) (Fbac : Fld Z h0 xo "java/lang/Throwable" "backtrace" "Ljava/lang/Object;" .null) (Fdet : Fld Z h0 xo "java/lang/Throwable" "detailMessage" "Ljava/lang/String;" .null) (hE0 : Ext Z.heap h0) (Fus : Sta Z h0 "java/lang/Throwable" "UNASSIGNED_STACK" "[Ljava/lang/StackTraceElement;" us) (hus : us.isRef = true) (Fss : Sta Z h0 "java/lang/Throwable" "SUPPRESSED_SENTINEL" "Ljava/util/List;" ss) (hss : ss.isRef = true) (hfl : l.flags = flags0) :
    MetFree l (⟨"java/lang/Exception", "<init>", "(Ljava/lang/String;)V"⟩ : MethodName) (head1 (Jvm.Cond.code (⟨"java/lang/Exception", "<init>", "(Ljava/lang/String;)V"⟩ : MethodName) jdk_59_method_2_code 2 none :: ws) ({ frames := 4, cells := 1, slots := 2752, locals := 55 } : Room)) (fun a U => a = #[(.ref xo), (.ref xm)] ∧ Z.Warmed39 U.vm ∧ U.heap = h0) (fun _ _ bl st _ => st.vm.MethodsKnown ∧ st.vm.FramesKnown bl) (fun _ U o U' => ∃ v L, o = .returned v ∧ Q34 Z xo xm us ss h0 n0 v U'.heap L ∧ FrameEnd U o U' L ({ frames := 4, cells := 1, slots := 2752, locals := 55 } : Room).cells ({ frames := 4, cells := 1, slots := 2752, locals := 55 } : Room).slots) := by
  refine MetFree.of_bodySF (plainFor_of_name own_pn_java_lang_Exception) hisR ?_
  intro p e s m args below meth c s₁ Bd hml0 hP hK
  obtain ⟨hTK, hBl⟩ := hK
  obtain ⟨rfl, hZ, hh⟩ := hP
  have hx := Bd.exec
  have hby := Bd.bytes
  have hml : c.maxLocals = 2 := hml0
  have hlk := Bd.notSynchronized
  have hown : s.vm.findClass "java/lang/Exception" = some m.cls := findClass_of_methodNamed Bd.named
  have hnm := (name_of_methodNamed Bd.named Bd.method).1
  have X0 : Stand p l e ({ frames := 4, cells := 1, slots := 2752, locals := 55 } : Room) s m #[(.ref xo), (.ref xm)] below meth c s₁ [] 0 0 := Stand.of_body Bd
  have e0 : s₁.heap = h0 := by rw [← hh, Bd.state]; rfl
  have N0 := Fr.nil n0
  have K0 : Keep h0 h0 [xo] := Keep.refl _ _
  refine own_enter (P := (Done s ({ frames := 4, cells := 1, slots := 2752, locals := 55 } : Room).cells ({ frames := 4, cells := 1, slots := 2752, locals := 55 } : Room).slots (Q34 Z xo xm us ss h0 n0))) (Ls := #[.val (.ref xo), .val (.ref xm)]) (by first | (simp [entryFrame, mkF, argsToLocals, Value.category]; done) | rfl) ?_
  refine own_aloadN X0 hx 1 rfl (hb hby own_d34_0) rfl rfl ?_
  refine own_aloadN X0 hx 2 rfl (hb hby own_d34_1) rfl rfl ?_
  obtain ⟨_, _, ⟨T1, L1, k1, n1⟩, -, X1, ⟨Lc1, hQ1, l1, y1, z1⟩, st1⟩ := X0.specialBack hx (y := (⟨"java/lang/Throwable", "<init>", "(Ljava/lang/String;)V"⟩ : MethodName)) rfl hown (mvT hZ (hw _ (List.mem_of_getElem? (i := 188) rfl))) (mvT hZ (hw _ (List.mem_of_getElem? (i := 189) rfl))) (mvT hZ (hw _ (List.mem_of_getElem? (i := 193) rfl))) (by decide) (backOfKL (W := 0) (rm35 l Z a0 hw [] xo xm us ss h0 n0 Z0 Ex gx Ux Fcau Fsta Fsup Fbac Fdet hE0 Fus hus Fss hss hfl) hZ (hw _ (List.mem_of_getElem? (i := 193) rfl)) (hw _ (List.mem_of_getElem? (i := 192) rfl)) (by decide) (by decide) hTK hBl) (g := (mkF m 2 #[.val (.ref xo), .val (.ref xm)] [(.ref xm), (.ref xo)])) rfl (by rw [hml]; rfl) (Steps.refl _) (a := xo) (argsL := [(.ref xm)]) (rest := []) (lenOf own_pd9 rfl) rfl (by show 2 * 0 + _ ≤ _; exact Nat.le_of_eq rfl) (hb hby own_d34_2) (fun _ _ => ⟨rfl, e0, (by decide : 0 + 1 ≤ _), (by decide : 0 + 2752 ≤ _)⟩)
  dsimp only [Pt.U, Pt.locs, Pt.cells, Pt.slots] at X1 l1 y1 z1 st1 hQ1
  subst l1 y1 z1
  obtain ⟨rfl, N1q, K1q, f1_0⟩ := hQ1
  have N1 := Fr.app N0 N1q
  have f2 := Ex.keep K1q
  have f3 := own_sta_keep Fus K1q (allS (own_eplain Ex) all0)
  have f4 := own_sta_keep Fss K1q (allS (own_eplain Ex) all0)
  have K1 := K0.trans K1q (allS (Or.inl (List.mem_of_getElem? (i := 0) rfl)) all0)
  have Z1 := Nat.le_trans Z0 K1q.1
  refine Goes.tr st1 ?_
  show Goes p e below _ T1 (mkF m 5 #[.val (.ref xo), .val (.ref xm)] [])
  refine own_retV X1 hx hlk Bd.returns (hb hby own_d34_5) (by decide) (by decide) rfl ?_
  exact ⟨rfl, N1, K1, f1_0⟩
theorem own_d33_0 : decode jdk_58_method_2_code 0 = .ok (.aload_n 0, 1) := by decide +kernel
theorem own_d33_1 : decode jdk_58_method_2_code 1 = .ok (.aload_n 1, 1) := by decide +kernel
theorem own_d33_2 : decode jdk_58_method_2_code 2 = .ok (.invokespecial 7, 3) := by decide +kernel
theorem own_d33_5 : decode jdk_58_method_2_code 5 = .ok (.return_, 1) := by decide +kernel
theorem own_pn_java_lang_RuntimeException : plainName "java/lang/RuntimeException" = true := by first | (simp [plainName, overriddenIn]; done) | decide +kernel
def Q33 (Z : State) (xo : Addr) (xm : Addr) (us : Value) (ss : Value) (h0 : Heap) (n0 : Nat) (v : Option Value) (h : Heap) (L : List Loc) : Prop := v = none ∧ Fr n0 L ∧ Keep h0 h [xo] ∧ Unt h xo
set_option maxRecDepth 65536 in
set_option maxHeartbeats 40000000 in
theorem rm33 (l : Launch) (Z : State) (a0 : Array Value) (hw : ∀ d ∈ tables_1, d.before a0 Z = true) (ws : List Jvm.Cond) (xo : Addr) (xm : Addr) (us : Value) (ss : Value) (h0 : Heap) (n0 : Nat) (Z0 : n0 ≤ h0.size) (Ex : Exa Z h0 xo "java/lang/IllegalArgumentException") (gx : n0 ≤ xo) (Ux : Unt h0 xo) (Fcau : Fld Z h0 xo "java/lang/Throwable" "cause" "Ljava/lang/Throwable;" .null) (Fsta : Fld Z h0 xo "java/lang/Throwable" "stackTrace" "[Ljava/lang/StackTraceElement;" .null) (Fsup : Fld Z h0 xo "java/lang/Throwable" "suppressedExceptions" "Ljava/util/List;" .null) (Fbac : Fld Z h0 xo "java/lang/Throwable" "backtrace" "Ljava/lang/Object;" .null) (Fdet : Fld Z h0 xo "java/lang/Throwable" "detailMessage" "Ljava/lang/String;" .null) (hE0 : Ext Z.heap h0) (Fus : Sta Z h0 "java/lang/Throwable" "UNASSIGNED_STACK" "[Ljava/lang/StackTraceElement;" us) (hus : us.isRef = true) (Fss : Sta Z h0 "java/lang/Throwable" "SUPPRESSED_SENTINEL" "Ljava/util/List;" ss) (hss : ss.isRef = true) (hfl : l.flags = flags0) :
    MetFree l (⟨"java/lang/RuntimeException", "<init>", "(Ljava/lang/String;)V"⟩ : MethodName) (head1 (Jvm.Cond.code (⟨"java/lang/RuntimeException", "<init>", "(Ljava/lang/String;)V"⟩ : MethodName) jdk_58_method_2_code 2 none :: ws) ({ frames := 5, cells := 1, slots := 2752, locals := 68 } : Room)) (fun a U => a = #[(.ref xo), (.ref xm)] ∧ Z.Warmed39 U.vm ∧ U.heap = h0) (fun _ _ bl st _ => st.vm.MethodsKnown ∧ st.vm.FramesKnown bl) (fun _ U o U' => ∃ v L, o = .returned v ∧ Q33 Z xo xm us ss h0 n0 v U'.heap L ∧ FrameEnd U o U' L ({ frames := 5, cells := 1, slots := 2752, locals := 68 } : Room).cells ({ frames := 5, cells := 1, slots := 2752, locals := 68 } : Room).slots) := by
  refine MetFree.of_bodySF (plainFor_of_name own_pn_java_lang_RuntimeException) hisR ?_
  intro p e s m args below meth c s₁ Bd hml0 hP hK
  obtain ⟨hTK, hBl⟩ := hK
  obtain ⟨rfl, hZ, hh⟩ := hP
  have hx := Bd.exec
  have hby := Bd.bytes
  have hml : c.maxLocals = 2 := hml0
  have hlk := Bd.notSynchronized
  have hown : s.vm.findClass "java/lang/RuntimeException" = some m.cls := findClass_of_methodNamed Bd.named
  have hnm := (name_of_methodNamed Bd.named Bd.method).1
  have X0 : Stand p l e ({ frames := 5, cells := 1, slots := 2752, locals := 68 } : Room) s m #[(.ref xo), (.ref xm)] below meth c s₁ [] 0 0 := Stand.of_body Bd
  have e0 : s₁.heap = h0 := by rw [← hh, Bd.state]; rfl
  have N0 := Fr.nil n0
  have K0 : Keep h0 h0 [xo] := Keep.refl _ _
  refine own_enter (P := (Done s ({ frames := 5, cells := 1, slots := 2752, locals := 68 } : Room).cells ({ frames := 5, cells := 1, slots := 2752, locals := 68 } : Room).slots (Q33 Z xo xm us ss h0 n0))) (Ls := #[.val (.ref xo), .val (.ref xm)]) (by first | (simp [entryFrame, mkF, argsToLocals, Value.category]; done) | rfl) ?_
  refine own_aloadN X0 hx 1 rfl (hb hby own_d33_0) rfl rfl ?_
  refine own_aloadN X0 hx 2 rfl (hb hby own_d33_1) rfl rfl ?_
  obtain ⟨_, _, ⟨T1, L1, k1, n1⟩, -, X1, ⟨Lc1, hQ1, l1, y1, z1⟩, st1⟩ := X0.specialBack hx (y := (⟨"java/lang/Exception", "<init>", "(Ljava/lang/String;)V"⟩ : MethodName)) rfl hown (mvT hZ (hw _ (List.mem_of_getElem? (i := 182) rfl))) (mvT hZ (hw _ (List.mem_of_getElem? (i := 183) rfl))) (mvT hZ (hw _ (List.mem_of_getElem? (i := 187) rfl))) (by decide) (backOfKL (W := 0) (rm34 l Z a0 hw [] xo xm us ss h0 n0 Z0 Ex gx Ux Fcau Fsta Fsup Fbac Fdet hE0 Fus hus Fss hss hfl) hZ (hw _ (List.mem_of_getElem? (i := 187) rfl)) (hw _ (List.mem_of_getElem? (i := 186) rfl)) (by decide) (by decide) hTK hBl) (g := (mkF m 2 #[.val (.ref xo), .val (.ref xm)] [(.ref xm), (.ref xo)])) rfl (by rw [hml]; rfl) (Steps.refl _) (a := xo) (argsL := [(.ref xm)]) (rest := []) (lenOf own_pd9 rfl) rfl (by show 2 * 0 + _ ≤ _; exact Nat.le_of_eq rfl) (hb hby own_d33_2) (fun _ _ => ⟨rfl, e0, (by decide : 0 + 1 ≤ _), (by decide : 0 + 2752 ≤ _)⟩)
  dsimp only [Pt.U, Pt.locs, Pt.cells, Pt.slots] at X1 l1 y1 z1 st1 hQ1
  subst l1 y1 z1
  obtain ⟨rfl, N1q, K1q, f1_0⟩ := hQ1
  have N1 := Fr.app N0 N1q
  have f2 := Ex.keep K1q
  have f3 := own_sta_keep Fus K1q (allS (own_eplain Ex) all0)
  have f4 := own_sta_keep Fss K1q (allS (own_eplain Ex) all0)
  have K1 := K0.trans K1q (allS (Or.inl (List.mem_of_getElem? (i := 0) rfl)) all0)
  have Z1 := Nat.le_trans Z0 K1q.1
  refine Goes.tr st1 ?_
  show Goes p e below _ T1 (mkF m 5 #[.val (.ref xo), .val (.ref xm)] [])
  refine own_retV X1 hx hlk Bd.returns (hb hby own_d33_5) (by decide) (by decide) rfl ?_
  exact ⟨rfl, N1, K1, f1_0⟩
theorem own_d32_0 : decode jdk_57_method_2_code 0 = .ok (.aload_n 0, 1) := by decide +kernel
theorem own_d32_1 : decode jdk_57_method_2_code 1 = .ok (.aload_n 1, 1) := by decide +kernel
theorem own_d32_2 : decode jdk_57_method_2_code 2 = .ok (.invokespecial 7, 3) := by decide +kernel
theorem own_d32_5 : decode jdk_57_method_2_code 5 = .ok (.return_, 1) := by decide +kernel
theorem own_pn_java_lang_IllegalArgumentException : plainName "java/lang/IllegalArgumentException" = true := by first | (simp [plainName, overriddenIn]; done) | decide +kernel
def Q32 (Z : State) (xo : Addr) (xm : Addr) (us : Value) (ss : Value) (h0 : Heap) (n0 : Nat) (v : Option Value) (h : Heap) (L : List Loc) : Prop := v = none ∧ Fr n0 L ∧ Keep h0 h [xo] ∧ Unt h xo
set_option maxRecDepth 65536 in
set_option maxHeartbeats 40000000 in
theorem rm32 (l : Launch) (Z : State) (a0 : Array Value) (hw : ∀ d ∈ tables_1, d.before a0 Z = true) (ws : List Jvm.Cond) (xo : Addr) (xm : Addr) (us : Value) (ss : Value) (h0 : Heap) (n0 : Nat) (Z0 : n0 ≤ h0.size) (Ex : Exa Z h0 xo "java/lang/IllegalArgumentException") (gx : n0 ≤ xo) (Ux : Unt h0 xo) (Fcau : Fld Z h0 xo "java/lang/Throwable" "cause" "Ljava/lang/Throwable;" .null) (Fsta : Fld Z h0 xo "java/lang/Throwable" "stackTrace" "[Ljava/lang/StackTraceElement;" .null) (Fsup : Fld Z h0 xo "java/lang/Throwable" "suppressedExceptions" "Ljava/util/List;" .null) (Fbac : Fld Z h0 xo "java/lang/Throwable" "backtrace" "Ljava/lang/Object;" .null) (Fdet : Fld Z h0 xo "java/lang/Throwable" "detailMessage" "Ljava/lang/String;" .null) (hE0 : Ext Z.heap h0) (Fus : Sta Z h0 "java/lang/Throwable" "UNASSIGNED_STACK" "[Ljava/lang/StackTraceElement;" us) (hus : us.isRef = true) (Fss : Sta Z h0 "java/lang/Throwable" "SUPPRESSED_SENTINEL" "Ljava/util/List;" ss) (hss : ss.isRef = true) (hfl : l.flags = flags0) :
    MetFree l (⟨"java/lang/IllegalArgumentException", "<init>", "(Ljava/lang/String;)V"⟩ : MethodName) (head1 (Jvm.Cond.code (⟨"java/lang/IllegalArgumentException", "<init>", "(Ljava/lang/String;)V"⟩ : MethodName) jdk_57_method_2_code 2 none :: ws) ({ frames := 6, cells := 1, slots := 2752, locals := 81 } : Room)) (fun a U => a = #[(.ref xo), (.ref xm)] ∧ Z.Warmed39 U.vm ∧ U.heap = h0) (fun _ _ bl st _ => st.vm.MethodsKnown ∧ st.vm.FramesKnown bl) (fun _ U o U' => ∃ v L, o = .returned v ∧ Q32 Z xo xm us ss h0 n0 v U'.heap L ∧ FrameEnd U o U' L ({ frames := 6, cells := 1, slots := 2752, locals := 81 } : Room).cells ({ frames := 6, cells := 1, slots := 2752, locals := 81 } : Room).slots) := by
  refine MetFree.of_bodySF (plainFor_of_name own_pn_java_lang_IllegalArgumentException) hisR ?_
  intro p e s m args below meth c s₁ Bd hml0 hP hK
  obtain ⟨hTK, hBl⟩ := hK
  obtain ⟨rfl, hZ, hh⟩ := hP
  have hx := Bd.exec
  have hby := Bd.bytes
  have hml : c.maxLocals = 2 := hml0
  have hlk := Bd.notSynchronized
  have hown : s.vm.findClass "java/lang/IllegalArgumentException" = some m.cls := findClass_of_methodNamed Bd.named
  have hnm := (name_of_methodNamed Bd.named Bd.method).1
  have X0 : Stand p l e ({ frames := 6, cells := 1, slots := 2752, locals := 81 } : Room) s m #[(.ref xo), (.ref xm)] below meth c s₁ [] 0 0 := Stand.of_body Bd
  have e0 : s₁.heap = h0 := by rw [← hh, Bd.state]; rfl
  have N0 := Fr.nil n0
  have K0 : Keep h0 h0 [xo] := Keep.refl _ _
  refine own_enter (P := (Done s ({ frames := 6, cells := 1, slots := 2752, locals := 81 } : Room).cells ({ frames := 6, cells := 1, slots := 2752, locals := 81 } : Room).slots (Q32 Z xo xm us ss h0 n0))) (Ls := #[.val (.ref xo), .val (.ref xm)]) (by first | (simp [entryFrame, mkF, argsToLocals, Value.category]; done) | rfl) ?_
  refine own_aloadN X0 hx 1 rfl (hb hby own_d32_0) rfl rfl ?_
  refine own_aloadN X0 hx 2 rfl (hb hby own_d32_1) rfl rfl ?_
  obtain ⟨_, _, ⟨T1, L1, k1, n1⟩, -, X1, ⟨Lc1, hQ1, l1, y1, z1⟩, st1⟩ := X0.specialBack hx (y := (⟨"java/lang/RuntimeException", "<init>", "(Ljava/lang/String;)V"⟩ : MethodName)) rfl hown (mvT hZ (hw _ (List.mem_of_getElem? (i := 176) rfl))) (mvT hZ (hw _ (List.mem_of_getElem? (i := 177) rfl))) (mvT hZ (hw _ (List.mem_of_getElem? (i := 181) rfl))) (by decide) (backOfKL (W := 0) (rm33 l Z a0 hw [] xo xm us ss h0 n0 Z0 Ex gx Ux Fcau Fsta Fsup Fbac Fdet hE0 Fus hus Fss hss hfl) hZ (hw _ (List.mem_of_getElem? (i := 181) rfl)) (hw _ (List.mem_of_getElem? (i := 180) rfl)) (by decide) (by decide) hTK hBl) (g := (mkF m 2 #[.val (.ref xo), .val (.ref xm)] [(.ref xm), (.ref xo)])) rfl (by rw [hml]; rfl) (Steps.refl _) (a := xo) (argsL := [(.ref xm)]) (rest := []) (lenOf own_pd9 rfl) rfl (by show 2 * 0 + _ ≤ _; exact Nat.le_of_eq rfl) (hb hby own_d32_2) (fun _ _ => ⟨rfl, e0, (by decide : 0 + 1 ≤ _), (by decide : 0 + 2752 ≤ _)⟩)
  dsimp only [Pt.U, Pt.locs, Pt.cells, Pt.slots] at X1 l1 y1 z1 st1 hQ1
  subst l1 y1 z1
  obtain ⟨rfl, N1q, K1q, f1_0⟩ := hQ1
  have N1 := Fr.app N0 N1q
  have f2 := Ex.keep K1q
  have f3 := own_sta_keep Fus K1q (allS (own_eplain Ex) all0)
  have f4 := own_sta_keep Fss K1q (allS (own_eplain Ex) all0)
  have K1 := K0.trans K1q (allS (Or.inl (List.mem_of_getElem? (i := 0) rfl)) all0)
  have Z1 := Nat.le_trans Z0 K1q.1
  refine Goes.tr st1 ?_
  show Goes p e below _ T1 (mkF m 5 #[.val (.ref xo), .val (.ref xm)] [])
  refine own_retV X1 hx hlk Bd.returns (hb hby own_d32_5) (by decide) (by decide) rfl ?_
  exact ⟨rfl, N1, K1, f1_0⟩
theorem own_d1_0 : decode prog_105_method_6_code 0 = .ok (.iload_n 1, 1) := by decide +kernel
theorem own_d1_1 : decode prog_105_method_6_code 1 = .ok (.ldc 185, 2) := by decide +kernel
theorem own_d1_3 : decode prog_105_method_6_code 3 = .ok (.iload_n 0, 1) := by decide +kernel
theorem own_d1_4 : decode prog_105_method_6_code 4 = .ok (.isub, 1) := by decide +kernel
theorem own_d1_5 : decode prog_105_method_6_code 5 = .ok (.if_icmp .le 35, 3) := by decide +kernel
theorem own_d1_40 : decode prog_105_method_6_code 40 = .ok (.return_, 1) := by decide +kernel
theorem own_pn_com_example_tidings_tidings_store_RecordFile : plainName "com/example/tidings/tidings/store/RecordFile" = true := by first | (simp [plainName, overriddenIn]; done) | decide +kernel
def QcfN (Z : State) (fx : Int32) (bo : Int32) (h0 : Heap) (n0 : Nat) (v : Option Value) (h : Heap) (L : List Loc) : Prop := v = none ∧ Fr n0 L ∧ h = h0
set_option maxRecDepth 65536 in
set_option maxHeartbeats 40000000 in
theorem rmcfN (l : Launch) (Z : State) (a0 : Array Value) (hw : ∀ d ∈ tables_1, d.before a0 Z = true) (ws : List Jvm.Cond) (fx : Int32) (bo : Int32) (h0 : Heap) (n0 : Nat) (Z0 : n0 ≤ h0.size) (hle : ¬ (((16777216 : Int32) - fx) < bo)) :
    MetFree l (⟨"com/example/tidings/tidings/store/RecordFile", "checkFits", "(II)V"⟩ : MethodName) (head1 (Jvm.Cond.code (⟨"com/example/tidings/tidings/store/RecordFile", "checkFits", "(II)V"⟩ : MethodName) prog_105_method_6_code 2 none :: ws) ({ frames := 0, cells := 0, slots := 0, locals := 0 } : Room)) (fun a U => a = #[(.int fx), (.int bo)] ∧ Z.Warmed39 U.vm ∧ U.heap = h0) (fun _ _ _ _ _ => True) (fun _ U o U' => ∃ v L, o = .returned v ∧ QcfN Z fx bo h0 n0 v U'.heap L ∧ FrameEnd U o U' L ({ frames := 0, cells := 0, slots := 0, locals := 0 } : Room).cells ({ frames := 0, cells := 0, slots := 0, locals := 0 } : Room).slots) := by
  refine MetFree.of_bodySF (plainFor_of_name own_pn_com_example_tidings_tidings_store_RecordFile) hisR ?_
  intro p e s m args below meth c s₁ Bd hml0 hP hK
  obtain ⟨rfl, hZ, hh⟩ := hP
  have hx := Bd.exec
  have hby := Bd.bytes
  have hml : c.maxLocals = 2 := hml0
  have hlk := Bd.notSynchronized
  have hown : s.vm.findClass "com/example/tidings/tidings/store/RecordFile" = some m.cls := findClass_of_methodNamed Bd.named
  have hnm := (name_of_methodNamed Bd.named Bd.method).1
  have X0 : Stand p l e ({ frames := 0, cells := 0, slots := 0, locals := 0 } : Room) s m #[(.int fx), (.int bo)] below meth c s₁ [] 0 0 := Stand.of_body Bd
  have e0 : s₁.heap = h0 := by rw [← hh, Bd.state]; rfl
  have N0 := Fr.nil n0
  refine own_enter (P := (Done s ({ frames := 0, cells := 0, slots := 0, locals := 0 } : Room).cells ({ frames := 0, cells := 0, slots := 0, locals := 0 } : Room).slots (QcfN Z fx bo h0 n0))) (Ls := #[.val (.int fx), .val (.int bo)]) (by first | (simp [entryFrame, mkF, argsToLocals, Value.category]; done) | rfl) ?_
  refine own_iloadN X0 hx 1 rfl (hb hby own_d1_0) rfl ?_
  refine Goes.go (X0.ldcInt hx hown (mvT hZ (hw _ (List.mem_of_getElem? (i := 6) rfl))) (g := (mkF m 1 #[.val (.int fx), .val (.int bo)] [(.int bo)])) rfl (hb hby own_d1_1)) ?_
  show Goes p e below _ s₁ (mkF m 3 #[.val (.int fx), .val (.int bo)] [(.int (16777216 : Int32)), (.int bo)])
  refine own_iloadN X0 hx 4 rfl (hb hby own_d1_3) rfl ?_
  refine own_isub X0 hx 5 rfl (hb hby own_d1_4) rfl ?_
  refine own_icmpY X0 hx 40 (hb hby own_d1_5) (flt (hle : ¬ (((16777216 : Int32) - fx) < bo))).2.2.2 (by decide) (by decide) ?_
  refine own_retV X0 hx hlk Bd.returns (hb hby own_d1_40) (by decide) (by decide) e0 ?_
  exact ⟨rfl, N0, rfl⟩
theorem own_pd19 : parseMethodDescriptor "()V" = some ⟨[], none⟩ := by decide +kernel
theorem own_pd20 : parseMethodDescriptor "(Ljava/lang/String;)Ljava/lang/StringBuilder;" = some ⟨[(.object "java/lang/String")], some (.object "java/lang/StringBuilder")⟩ := by decide +kernel
theorem own_pd21 : parseMethodDescriptor "(I)Ljava/lang/StringBuilder;" = some ⟨[.int], some (.object "java/lang/StringBuilder")⟩ := by decide +kernel
theorem own_pd22 : parseMethodDescriptor "()Ljava/lang/String;" = some ⟨[], some (.object "java/lang/String")⟩ := by decide +kernel
theorem own_d1_8 : decode prog_105_method_6_code 8 = .ok (.new 186, 3) := by decide +kernel
theorem own_d1_11 : decode prog_105_method_6_code 11 = .ok (.dup, 1) := by decide +kernel
theorem own_d1_12 : decode prog_105_method_6_code 12 = .ok (.new 110, 3) := by decide +kernel
theorem own_d1_15 : decode prog_105_method_6_code 15 = .ok (.dup, 1) := by decide +kernel
theorem own_d1_16 : decode prog_105_method_6_code 16 = .ok (.invokespecial 112, 3) := by decide +kernel
theorem own_d1_19 : decode prog_105_method_6_code 19 = .ok (.ldc 188, 2) := by decide +kernel
theorem own_d1_21 : decode prog_105_method_6_code 21 = .ok (.invokevirtual 113, 3) := by decide +kernel
theorem own_d1_24 : decode prog_105_method_6_code 24 = .ok (.iload_n 1, 1) := by decide +kernel
theorem own_d1_25 : decode prog_105_method_6_code 25 = .ok (.invokevirtual 190, 3) := by decide +kernel
theorem own_d1_28 : decode prog_105_method_6_code 28 = .ok (.ldc 193, 2) := by decide +kernel
theorem own_d1_30 : decode prog_105_method_6_code 30 = .ok (.invokevirtual 113, 3) := by decide +kernel
theorem own_d1_33 : decode prog_105_method_6_code 33 = .ok (.invokevirtual 119, 3) := by decide +kernel
theorem own_d1_36 : decode prog_105_method_6_code 36 = .ok (.invokespecial 195, 3) := by decide +kernel
theorem own_d1_39 : decode prog_105_method_6_code 39 = .ok (.athrow, 1) := by decide +kernel
def QcfT (Z : State) (fx : Int32) (bo : Int32) (cs : Int32) (zo : Addr) (zt : Addr) (us : Value) (ss : Value) (h0 : Heap) (n0 : Nat) (v : Option Value) (h : Heap) (L : List Loc) : Prop := v = none ∧ Fr n0 L ∧ Keep h0 h []
set_option maxRecDepth 65536 in
set_option maxHeartbeats 40000000 in
theorem rmcfT (l : Launch) (Z : State) (a0 : Array Value) (hw : ∀ d ∈ tables_1, d.before a0 Z = true) (ws : List Jvm.Cond) (fx : Int32) (bo : Int32) (cs : Int32) (zo : Addr) (zt : Addr) (us : Value) (ss : Value) (h0 : Heap) (n0 : Nat) (Z0 : n0 ≤ h0.size) (hov : ((16777216 : Int32) - fx) < bo) (hn0 : h0.size ≤ n0) (hE0 : Ext Z.heap h0) (Sc : Sta Z h0 "java/lang/String" "COMPACT_STRINGS" "Z" (.int cs)) (hcs : ¬ (cs = (0 : Int32))) (Do1 : Sta Z h0 "java/lang/Integer" "DigitOnes" "[B" (.ref zo)) (Dt1 : Sta Z h0 "java/lang/Integer" "DigitTens" "[B" (.ref zt)) (Do2 : ByA Z h0 zo (100 : Int32)) (Dt2 : ByA Z h0 zt (100 : Int32)) (hc1 : Jvm.Lit.constHeld Z "com/example/tidings/tidings/store/RecordFile" 188) (hc2 : Jvm.Lit.constHeld Z "com/example/tidings/tidings/store/RecordFile" 193) (hcw : Jvm.Lit.compactW.before a0 Z = true) (Fus : Sta Z h0 "java/lang/Throwable" "UNASSIGNED_STACK" "[Ljava/lang/StackTraceElement;" us) (hus : us.isRef = true) (Fss : Sta Z h0 "java/lang/Throwable" "SUPPRESSED_SENTINEL" "Ljava/util/List;" ss) (hss : ss.isRef = true) (hfl : l.flags = flags0) :
    MetFree l (⟨"com/example/tidings/tidings/store/RecordFile", "checkFits", "(II)V"⟩ : MethodName) (head1 (Jvm.Cond.code (⟨"com/example/tidings/tidings/store/RecordFile", "checkFits", "(II)V"⟩ : MethodName) prog_105_method_6_code 2 none :: ws) ({ frames := 7, cells := 12, slots := 3262, locals := 95 } : Room)) (fun a U => a = #[(.int fx), (.int bo)] ∧ Z.Warmed39 U.vm ∧ U.heap = h0 ∧ IB Z U.vm []) (fun _ _ bl st _ => st.vm.MethodsKnown ∧ st.vm.FramesKnown bl) (fun _ U o U' => ThrewNewW "java/lang/IllegalArgumentException" U [] ({ frames := 7, cells := 12, slots := 3262, locals := 95 } : Room).cells ({ frames := 7, cells := 12, slots := 3262, locals := 95 } : Room).slots o U') := by
  refine MetFree.of_bodySF (plainFor_of_name own_pn_com_example_tidings_tidings_store_RecordFile) hisR ?_
  intro p e s m args below meth c s₁ Bd hml0 hP hK
  obtain ⟨hTK, hBl⟩ := hK
  obtain ⟨rfl, hZ, hh, hI⟩ := hP
  have hx := Bd.exec
  have hby := Bd.bytes
  have hml : c.maxLocals = 2 := hml0
  have hlk := Bd.notSynchronized
  have hown : s.vm.findClass "com/example/tidings/tidings/store/RecordFile" = some m.cls := findClass_of_methodNamed Bd.named
  have hnm := (name_of_methodNamed Bd.named Bd.method).1
  have X0 : Stand p l e ({ frames := 7, cells := 12, slots := 3262, locals := 95 } : Room) (s.setVm s.vm) m #[(.int fx), (.int bo)] below meth c s₁ [] 0 0 := Stand.of_body Bd
  have e0 : s₁.heap = h0 := by rw [← hh, Bd.state]; rfl
  have N0 := Fr.nil n0
  have hS0 : s.Since s.vm 0 := (State.WarmedH.refl s).since 0
  have hk0 : 0 ≤ h0.size := Nat.zero_le _
  have K0 : Keep h0 h0 [] := Keep.refl _ _
  refine own_enter (P := (fun o U => ThrewNewW "java/lang/IllegalArgumentException" s [] ({ frames := 7, cells := 12, slots := 3262, locals := 95 } : Room).cells ({ frames := 7, cells := 12, slots := 3262, locals := 95 } : Room).slots o U)) (Ls := #[.val (.int fx), .val (.int bo)]) (by first | (simp [entryFrame, mkF, argsToLocals, Value.category]; done) | rfl) ?_
  refine own_iloadN X0 hx 1 rfl (hb hby own_d1_0) rfl ?_
  refine Goes.go (X0.ldcInt hx hown (mvT hZ (hw _ (List.mem_of_getElem? (i := 6) rfl))) (g := (mkF m 1 #[.val (.int fx), .val (.int bo)] [(.int bo)])) rfl (hb hby own_d1_1)) ?_
  show Goes p e below _ s₁ (mkF m 3 #[.val (.int fx), .val (.int bo)] [(.int (16777216 : Int32)), (.int bo)])
  refine own_iloadN X0 hx 4 rfl (hb hby own_d1_3) rfl ?_
  refine own_isub X0 hx 5 rfl (hb hby own_d1_4) rfl ?_
  refine own_icmpN X0 hx 8 (hb hby own_d1_5) (tlt (hov : ((16777216 : Int32) - fx) < bo)).2.2.2 rfl ?_
  obtain ⟨sz, hsz⟩ : ∃ z, own_size bo = z := ⟨_, rfl⟩
  rcases own_szc hsz with hS | hL
  · obtain ⟨T1, h1, X1, e1, E1, A1, D1, Un1, st1⟩ := newO X0 hx hZ hown (hw _ (List.mem_of_getElem? (i := 8) rfl)) (hw _ (List.mem_of_getElem? (i := 9) rfl)) (hw _ (List.mem_of_getElem? (i := 10) rfl)) e0 (g := (mkF m 8 #[.val (.int fx), .val (.int bo)] [])) rfl (hb hby own_d1_8) (by decide) (by decide)
    obtain ⟨b1, g1⟩ : ∃ z, z = h0.size := ⟨_, rfl⟩
    rw [← g1] at A1 D1 Un1 st1
    have ne2 : zo ≠ b1 := own_lt_ne Do2.lt g1
    have ne3 : zt ≠ b1 := own_lt_ne Dt2.lt g1
    have G1 : n0 ≤ b1 := Nat.le_trans Z0 (Nat.le_of_eq g1.symm)
    have H1 : h0.size ≤ b1 := Nat.le_trans K0.1 (Nat.le_of_eq g1.symm)
    have f4 := Sc.ext E1
    have f5 := Do1.ext E1
    have f6 := Dt1.ext E1
    have f7 := Do2.ext E1
    have f8 := Dt2.ext E1
    have f9 := Fus.ext E1
    have f10 := Fss.ext E1
    have K1 := K0.ext E1
    have Z1 := Nat.le_trans Z0 E1.1
    have hk1 := Nat.le_trans hk0 E1.1
    have Ut1 : Unt h1 b1 := Un1
    have f11 : Fld Z h1 b1 "java/lang/Throwable" "cause" "Ljava/lang/Throwable;" .null := D1 (Or.inl (hw _ (List.mem_of_getElem? (i := 196) rfl))) (ty := (.object "java/lang/Throwable")) (by decide)
    have f12 : Fld Z h1 b1 "java/lang/Throwable" "stackTrace" "[Ljava/lang/StackTraceElement;" .null := D1 (Or.inl (hw _ (List.mem_of_getElem? (i := 199) rfl))) (ty := (.array (.object "java/lang/StackTraceElement"))) (by decide)
    have f13 : Fld Z h1 b1 "java/lang/Throwable" "suppressedExceptions" "Ljava/util/List;" .null := D1 (Or.inl (hw _ (List.mem_of_getElem? (i := 202) rfl))) (ty := (.object "java/util/List")) (by decide)
    have f14 : Fld Z h1 b1 "java/lang/Throwable" "detailMessage" "Ljava/lang/String;" .null := D1 (Or.inl (hw _ (List.mem_of_getElem? (i := 226) rfl))) (ty := (.object "java/lang/String")) (by decide)
    have f15 : Fld Z h1 b1 "java/lang/Throwable" "backtrace" "Ljava/lang/Object;" .null := D1 (Or.inl (hw _ (List.mem_of_getElem? (i := 227) rfl))) (ty := (.object "java/lang/Object")) (by decide)
    have f16 : Fld Z h1 b1 "java/lang/Throwable" "depth" "I" (.int (0 : Int32)) := D1 (Or.inl (hw _ (List.mem_of_getElem? (i := 228) rfl))) (ty := .int) (by decide)
    refine Goes.go st1 ?_
    show Goes p e below _ T1 (mkF m 11 #[.val (.int fx), .val (.int bo)] [(.ref b1)])
    refine own_dup X1 hx 12 rfl (hb hby own_d1_11) rfl ?_
    obtain ⟨T17, h17, X17, e17, E17, A17, D17, Un17, st17⟩ := newO X1 hx hZ hown (hw _ (List.mem_of_getElem? (i := 11) rfl)) (hw _ (List.mem_of_getElem? (i := 12) rfl)) (hw _ (List.mem_of_getElem? (i := 13) rfl)) e1 (g := (mkF m 12 #[.val (.int fx), .val (.int bo)] [(.ref b1), (.ref b1)])) rfl (hb hby own_d1_12) (by decide) (by decide)
    obtain ⟨b17, g17⟩ : ∃ z, z = h1.size := ⟨_, rfl⟩
    rw [← g17] at A17 D17 Un17 st17
    have ne18 : zo ≠ b17 := own_lt_ne f7.lt g17
    have ne19 : zt ≠ b17 := own_lt_ne f8.lt g17
    have ne20 : b1 ≠ b17 := own_lt_ne A1.lt g17
    have G17 : n0 ≤ b17 := Nat.le_trans Z1 (Nat.le_of_eq g17.symm)
    have H17 : h0.size ≤ b17 := Nat.le_trans K1.1 (Nat.le_of_eq g17.symm)
    have f21 := f4.ext E17
    have f22 := f5.ext E17
    have f23 := f6.ext E17
    have f24 := f7.ext E17
    have f25 := f8.ext E17
    have f26 := f9.ext E17
    have f27 := f10.ext E17
    have f28 := A1.ext E17
    have f29 := Ut1.ext E17
    have f30 := f11.ext E17
    have f31 := f12.ext E17
    have f32 := f13.ext E17
    have f33 := f14.ext E17
    have f34 := f15.ext E17
    have f35 := f16.ext E17
    have K17 := K1.ext E17
    have Z17 := Nat.le_trans Z1 E17.1
    have hk17 := Nat.le_trans hk1 E17.1
    have Ut17 : Unt h17 b17 := Un17
    have f36 : Fld Z h17 b17 "java/lang/AbstractStringBuilder" "value" "[B" .null := D17 (Or.inl (hw _ (List.mem_of_getElem? (i := 30) rfl))) (ty := (.array .byte)) (by decide)
    have f37 : Fld Z h17 b17 "java/lang/AbstractStringBuilder" "coder" "B" (.int (0 : Int32)) := D17 (Or.inl (hw _ (List.mem_of_getElem? (i := 32) rfl))) (ty := .byte) (by decide)
    have f38 : Fld Z h17 b17 "java/lang/AbstractStringBuilder" "count" "I" (.int (0 : Int32)) := D17 (Or.inl (hw _ (List.mem_of_getElem? (i := 63) rfl))) (ty := .int) (by decide)
    refine Goes.go st17 ?_
    show Goes p e below _ T17 (mkF m 15 #[.val (.int fx), .val (.int bo)] [(.ref b17), (.ref b1), (.ref b1)])
    refine own_dup X17 hx 16 rfl (hb hby own_d1_15) rfl ?_
    obtain ⟨_, _, ⟨T39, L39, k39, n39⟩, -, X39, ⟨Lc39, hQ39, l39, y39, z39⟩, st39⟩ := X17.specialBack hx (y := (⟨"java/lang/StringBuilder", "<init>", "()V"⟩ : MethodName)) rfl hown (mvT hZ (hw _ (List.mem_of_getElem? (i := 14) rfl))) (mvT hZ (hw _ (List.mem_of_getElem? (i := 15) rfl))) (mvT hZ (hw _ (List.mem_of_getElem? (i := 16) rfl))) (by decide) (backOf (W := 3) (rm2 l Z a0 hw [] b17 cs h17 n0 Z17 f21 hcs A17 G17 f36 f37 f38) hZ (hw _ (List.mem_of_getElem? (i := 16) rfl)) (hw _ (List.mem_of_getElem? (i := 13) rfl)) (by decide) (by decide)) (g := (mkF m 16 #[.val (.int fx), .val (.int bo)] [(.ref b17), (.ref b17), (.ref b1), (.ref b1)])) rfl (by rw [hml]; rfl) (Steps.refl _) (a := b17) (argsL := []) (rest := [(.ref b17), (.ref b1), (.ref b1)]) (lenOf own_pd19 rfl) rfl (by show 2 * 0 + _ ≤ _; exact Nat.le_of_eq rfl) (hb hby own_d1_16) (fun _ _ => ⟨rfl, e17, (by decide : 2 + 1 ≤ _), (by decide : 10 + 16 ≤ _)⟩)
    dsimp only [Pt.U, Pt.locs, Pt.cells, Pt.slots] at X39 l39 y39 z39 st39 hQ39
    subst l39 y39 z39
    obtain ⟨va_39, rfl, N39q, K39q, f39_0, f39_1, f39_2, f39_3, f39_4⟩ := hQ39
    have N39 := Fr.app N0 N39q
    have ne40 : zo ≠ va_39 := Nat.ne_of_lt (Nat.lt_of_lt_of_le f24.lt f39_0)
    have ne41 : zt ≠ va_39 := Nat.ne_of_lt (Nat.lt_of_lt_of_le f25.lt f39_0)
    have ne42 : b1 ≠ va_39 := Nat.ne_of_lt (Nat.lt_of_lt_of_le f28.lt f39_0)
    have ne43 : b17 ≠ va_39 := Nat.ne_of_lt (Nat.lt_of_lt_of_le A17.lt f39_0)
    have GG44 : n0 ≤ va_39 := Nat.le_trans Z17 f39_0
    have HG44 : h0.size ≤ va_39 := Nat.le_trans K17.1 f39_0
    have f45 := own_sta_keep f21 K39q (allS (own_eplain A17) all0)
    have f46 := own_sta_keep f22 K39q (allS (own_eplain A17) all0)
    have f47 := own_sta_keep f23 K39q (allS (own_eplain A17) all0)
    have f48 := f24.keep K39q (ninS ne18 nin0)
    have f49 := f25.keep K39q (ninS ne19 nin0)
    have f50 := own_sta_keep f26 K39q (allS (own_eplain A17) all0)
    have f51 := own_sta_keep f27 K39q (allS (own_eplain A17) all0)
    have f52 := f28.keep K39q
    have f53 := f29.keep K39q (ninS ne20 nin0)
    have f54 := f30.keep K39q (ninS ne20 nin0)
    have f55 := f31.keep K39q (ninS ne20 nin0)
    have f56 := f32.keep K39q (ninS ne20 nin0)
    have f57 := f33.keep K39q (ninS ne20 nin0)
    have f58 := f34.keep K39q (ninS ne20 nin0)
    have f59 := f35.keep K39q (ninS ne20 nin0)
    have f60 := A17.keep K39q
    have K39 := K17.trans K39q (allS (Or.inr H17) all0)
    have Z39 := Nat.le_trans Z17 K39q.1
    have hk39 := Nat.le_trans hk17 K39q.1
    refine Goes.tr st39 ?_
    show Goes p e below _ T39 (mkF m 19 #[.val (.int fx), .val (.int bo)] [(.ref b17), (.ref b1), (.ref b1)])
    obtain ⟨la61, T61, h61, k161, lb61, lk61, X61, e61, E61, hS61, hk61, hZ61, ho61, Ea61, Ca61, Va61, Ab61, -, -, Ib61, Li61, st61⟩ := ldcSVL X39 hx hZ hown (hw _ (List.mem_of_getElem? (i := 33) rfl)) (own_wS hw) rfl hS0 hk39 (fun y hy => by rw [hh]; exact Nat.le_trans hn0 (N39 y hy)) (fun b' cl' q => by rw [hh]; exact hE0.2 b' cl' q) hI (List.not_mem_nil) hc1 hcw (vs := own_vA) (z := (10 : Int32)) ⟨by decide +kernel, rfl⟩ (by decide) (by decide +kernel) (g := (mkF m 19 #[.val (.int fx), .val (.int bo)] [(.ref b17), (.ref b1), (.ref b1)])) rfl (hb hby own_d1_19) (n := 40) (by decide +kernel) (by decide) (by decide) (by decide)
    have f62 := f45.ext E61
    have f63 := f46.ext E61
    have f64 := f47.ext E61
    have f65 := f48.ext E61
    have f66 := f49.ext E61
    have f67 := f50.ext E61
    have f68 := f51.ext E61
    have f69 := f52.ext E61
    have f70 := f53.ext E61
    have f71 := f54.ext E61
    have f72 := f55.ext E61
    have f73 := f56.ext E61
    have f74 := f57.ext E61
    have f75 := f58.ext E61
    have f76 := f59.ext E61
    have f77 := f60.ext E61
    have f78 := f39_1.ext E61
    have f79 := f39_2.ext E61
    have f80 := f39_3.ext E61
    have f81 := f39_4.ext E61
    have K61 := K39.ext E61
    have Z61 := Nat.le_trans Z39 E61.1
    have np61 : la61 ≠ b17 := (Exa.ne Ea61 f77 (by decide))
    have nq61 : la61 ≠ va_39 := (Exa.ne Ea61 (ByA.exa f81) (by decide))
    have nr61 : lb61 ≠ b17 := (Ne.symm (Exa.neArv f77 Ab61 (hw _ (List.mem_of_getElem? (i := 12) rfl))))
    have ns61 : lb61 ≠ va_39 := (ByA.neArv f81 Ab61 (by decide))
    refine Goes.go st61 ?_
    show Goes p e below _ T61 (mkF m 21 #[.val (.int fx), .val (.int bo)] [(.ref la61), (.ref b17), (.ref b1), (.ref b1)])
    obtain ⟨cq82, kq82, q82a, q82b, q82c⟩ := isOf hZ61 e61 f77
    obtain ⟨_, _, ⟨T82, L82, k82, n82⟩, -, X82, ⟨Lc82, hQ82, l82, y82, z82⟩, st82⟩ := X61.virtualBack hx (y := (⟨"java/lang/StringBuilder", "append", "(Ljava/lang/String;)Ljava/lang/StringBuilder;"⟩ : MethodName)) (z := (⟨"java/lang/StringBuilder", "append", "(Ljava/lang/String;)Ljava/lang/StringBuilder;"⟩ : MethodName)) ho61 (mvT hZ61 (hw _ (List.mem_of_getElem? (i := 39) rfl))) (mvT hZ61 (hw _ (List.mem_of_getElem? (i := 40) rfl))) (notFace_of_selects (args := #[]) (mvT hZ61 (hw _ (List.mem_of_getElem? (i := 42) rfl)))) (mvT hZ61 (hw _ (List.mem_of_getElem? (i := 42) rfl))) (mvT hZ61 (hw _ (List.mem_of_getElem? (i := 41) rfl))) (by decide) (backOf (W := 2) (rmsapN l Z a0 hw [] b17 la61 cs va_39 (16 : Int32) (0 : Int32) lb61 lk61 (10 : Int32) own_vA h61 n0 Z61 f62 hcs f77 G17 f78 f79 f81 f80 GG44 Ea61 Ca61 Va61 Ab61 ne43 nq61 ns61 np61 nr61 (by decide +kernel) (by decide +kernel) (by decide +kernel)) hZ61 (hw _ (List.mem_of_getElem? (i := 43) rfl)) (hw _ (List.mem_of_getElem? (i := 13) rfl)) (by decide) (by decide)) q82a q82c (g := (mkF m 21 #[.val (.int fx), .val (.int bo)] [(.ref la61), (.ref b17), (.ref b1), (.ref b1)])) rfl (by rw [hml]; rfl) (Steps.refl _) (argsL := [(.ref la61)]) (rest := [(.ref b1), (.ref b1)]) (lenOf own_pd20 rfl) rfl (by show 2 * 0 + _ ≤ _; exact Nat.le_of_eq rfl) (hb hby own_d1_21) (fun _ _ => ⟨rfl, e61, (by decide : 5 + 0 ≤ _), (by decide : 70 + 0 ≤ _)⟩)
    dsimp only [Pt.U, Pt.locs, Pt.cells, Pt.slots] at X82 l82 y82 z82 st82 hQ82
    subst l82 y82 z82
    obtain ⟨rfl, N82q, K82q, f82_0, f82_1, f82_2, f82_3⟩ := hQ82
    have N82 := Fr.app N39 N82q
    have f83 := own_sta_keep f62 K82q (allS (own_eplain f77) (allS f81.plain all0))
    have f84 := own_sta_keep f63 K82q (allS (own_eplain f77) (allS f81.plain all0))
    have f85 := own_sta_keep f64 K82q (allS (own_eplain f77) (allS f81.plain all0))
    have f86 := f65.keep K82q (ninS ne18 (ninS ne40 nin0))
    have f87 := f66.keep K82q (ninS ne19 (ninS ne41 nin0))
    have f88 := own_sta_keep f67 K82q (allS (own_eplain f77) (allS f81.plain all0))
    have f89 := own_sta_keep f68 K82q (allS (own_eplain f77) (allS f81.plain all0))
    have f90 := f69.keep K82q
    have f91 := f70.keep K82q (ninS ne20 (ninS ne42 nin0))
    have f92 := f71.keep K82q (ninS ne20 (ninS ne42 nin0))
    have f93 := f72.keep K82q (ninS ne20 (ninS ne42 nin0))
    have f94 := f73.keep K82q (ninS ne20 (ninS ne42 nin0))
    have f95 := f74.keep K82q (ninS ne20 (ninS ne42 nin0))
    have f96 := f75.keep K82q (ninS ne20 (ninS ne42 nin0))
    have f97 := f76.keep K82q (ninS ne20 (ninS ne42 nin0))
    have f98 := f77.keep K82q
    have f99 := Ea61.keep K82q
    have f100 := Ca61.keep K82q (ninS np61 (ninS nq61 nin0))
    have f101 := Va61.keep K82q (ninS np61 (ninS nq61 nin0))
    have f102 := Ab61.keep K82q (ninS nr61 (ninS ns61 nin0))
    have K82 := K61.trans K82q (allS (Or.inr H17) (allS (Or.inr HG44) all0))
    have Z82 := Nat.le_trans Z61 K82q.1
    have hk82 := Nat.le_trans hk61 K82q.1
    refine Goes.tr st82 ?_
    show Goes p e below _ T82 (mkF m 24 #[.val (.int fx), .val (.int bo)] [(.ref b17), (.ref b1), (.ref b1)])
    refine own_iloadN X82 hx 25 rfl (hb hby own_d1_24) rfl ?_
    obtain ⟨cq103, kq103, q103a, q103b, q103c⟩ := isOf hZ61 rfl f98
    obtain ⟨_, _, ⟨T103, L103, k103, n103⟩, -, X103, ⟨Lc103, hQ103, l103, y103, z103⟩, st103⟩ := X82.virtualBack hx (y := (⟨"java/lang/StringBuilder", "append", "(I)Ljava/lang/StringBuilder;"⟩ : MethodName)) (z := (⟨"java/lang/StringBuilder", "append", "(I)Ljava/lang/StringBuilder;"⟩ : MethodName)) ho61 (mvT hZ61 (hw _ (List.mem_of_getElem? (i := 89) rfl))) (mvT hZ61 (hw _ (List.mem_of_getElem? (i := 90) rfl))) (notFace_of_selects (args := #[]) (mvT hZ61 (hw _ (List.mem_of_getElem? (i := 92) rfl)))) (mvT hZ61 (hw _ (List.mem_of_getElem? (i := 92) rfl))) (mvT hZ61 (hw _ (List.mem_of_getElem? (i := 91) rfl))) (by decide) (backOf (W := 2) (rmsaIN l Z a0 hw [] b17 bo cs va_39 (16 : Int32) ((0 : Int32) + (10 : Int32)) sz zo zt T82.heap n0 Z82 f83 hcs f98 G17 f82_0 f82_1 f82_3 f82_2 GG44 f84 f85 f86 f87 ne43 (Ne.symm ne40) (Ne.symm ne41) ne18 ne19 hsz (own_inS hS (P := fun sz => 11 ≤ (((0 : Int32) + (10 : Int32)) + sz).toInt) (by decide +kernel)) (own_inS hS (P := fun sz => ¬ ((0 : Int32) < ((((0 : Int32) + (10 : Int32)) + sz) - (16 : Int32)))) (by decide +kernel)) (own_inS hS (P := fun sz => (((0 : Int32) + (10 : Int32)) + sz).toInt ≤ ((16 : Int32)).toInt) (by decide +kernel))) hZ61 (hw _ (List.mem_of_getElem? (i := 93) rfl)) (hw _ (List.mem_of_getElem? (i := 13) rfl)) (by decide) (by decide)) q103a q103c (g := (mkF m 25 #[.val (.int fx), .val (.int bo)] [(.int bo), (.ref b17), (.ref b1), (.ref b1)])) rfl (by rw [hml]; rfl) (Steps.refl _) (argsL := [(.int bo)]) (rest := [(.ref b1), (.ref b1)]) (lenOf own_pd21 rfl) rfl (by show 2 * 0 + _ ≤ _; exact Nat.le_of_eq rfl) (hb hby own_d1_25) (fun _ _ => ⟨rfl, rfl, (by decide : 5 + 0 ≤ _), (by decide : 70 + 0 ≤ _)⟩)
    dsimp only [Pt.U, Pt.locs, Pt.cells, Pt.slots] at X103 l103 y103 z103 st103 hQ103
    subst l103 y103 z103
    obtain ⟨rfl, N103q, K103q, f103_0, f103_1, f103_2, f103_3⟩ := hQ103
    have N103 := Fr.app N82 N103q
    have f104 := own_sta_keep f83 K103q (allS (own_eplain f98) (allS f82_3.plain all0))
    have f105 := own_sta_keep f84 K103q (allS (own_eplain f98) (allS f82_3.plain all0))
    have f106 := own_sta_keep f85 K103q (allS (own_eplain f98) (allS f82_3.plain all0))
    have f107 := f86.keep K103q (ninS ne18 (ninS ne40 nin0))
    have f108 := f87.keep K103q (ninS ne19 (ninS ne41 nin0))
    have f109 := own_sta_keep f88 K103q (allS (own_eplain f98) (allS f82_3.plain all0))
    have f110 := own_sta_keep f89 K103q (allS (own_eplain f98) (allS f82_3.plain all0))
    have f111 := f90.keep K103q
    have f112 := f91.keep K103q (ninS ne20 (ninS ne42 nin0))
    have f113 := f92.keep K103q (ninS ne20 (ninS ne42 nin0))
    have f114 := f93.keep K103q (ninS ne20 (ninS ne42 nin0))
    have f115 := f94.keep K103q (ninS ne20 (ninS ne42 nin0))
    have f116 := f95.keep K103q (ninS ne20 (ninS ne42 nin0))
    have f117 := f96.keep K103q (ninS ne20 (ninS ne42 nin0))
    have f118 := f97.keep K103q (ninS ne20 (ninS ne42 nin0))
    have f119 := f98.keep K103q
    have K103 := K82.trans K103q (allS (Or.inr H17) (allS (Or.inr HG44) all0))
    have Z103 := Nat.le_trans Z82 K103q.1
    have hk103 := Nat.le_trans hk82 K103q.1
    refine Goes.tr st103 ?_
    show Goes p e below _ T103 (mkF m 28 #[.val (.int fx), .val (.int bo)] [(.ref b17), (.ref b1), (.ref b1)])
    obtain ⟨la120, T120, h120, k1120, lb120, lk120, X120, e120, E120, hS120, hk120, hZ120, ho120, Ea120, Ca120, Va120, Ab120, -, -, Ib120, Li120, st120⟩ := ldcSVL X103 hx hZ61 ho61 (hw _ (List.mem_of_getElem? (i := 135) rfl)) (own_wS hw) rfl hS61 hk103 (fun y hy => by rw [hh]; exact Nat.le_trans hn0 (N103 y hy)) (fun b' cl' q => by rw [hh]; exact hE0.2 b' cl' q) Ib61 (by decide +kernel) hc2 hcw (vs := own_vB) (z := (33 : Int32)) ⟨by decide +kernel, rfl⟩ (by decide) (by decide +kernel) (g := (mkF m 28 #[.val (.int fx), .val (.int bo)] [(.ref b17), (.ref b1), (.ref b1)])) rfl (hb hby own_d1_28) (n := 132) (by decide +kernel) (by decide) (by decide) (by decide)
    have f121 := f104.ext E120
    have f122 := f105.ext E120
    have f123 := f106.ext E120
    have f124 := f107.ext E120
    have f125 := f108.ext E120
    have f126 := f109.ext E120
    have f127 := f110.ext E120
    have f128 := f111.ext E120
    have f129 := f112.ext E120
    have f130 := f113.ext E120
    have f131 := f114.ext E120
    have f132 := f115.ext E120
    have f133 := f116.ext E120
    have f134 := f117.ext E120
    have f135 := f118.ext E120
    have f136 := f119.ext E120
    have f137 := f103_0.ext E120
    have f138 := f103_1.ext E120
    have f139 := f103_2.ext E120
    have f140 := f103_3.ext E120
    have K120 := K103.ext E120
    have Z120 := Nat.le_trans Z103 E120.1
    have np120 : la120 ≠ b17 := (Exa.ne Ea120 f136 (by decide))
    have nq120 : la120 ≠ va_39 := (Exa.ne Ea120 (ByA.exa f140) (by decide))
    have nr120 : lb120 ≠ b17 := (Ne.symm (Exa.neArv f136 Ab120 (hw _ (List.mem_of_getElem? (i := 12) rfl))))
    have ns120 : lb120 ≠ va_39 := (ByA.neArv f140 Ab120 (by decide))
    refine Goes.go st120 ?_
    show Goes p e below _ T120 (mkF m 30 #[.val (.int fx), .val (.int bo)] [(.ref la120), (.ref b17), (.ref b1), (.ref b1)])
    obtain ⟨cq141, kq141, q141a, q141b, q141c⟩ := isOf hZ120 e120 f136
    obtain ⟨_, _, ⟨T141, L141, k141, n141⟩, -, X141, ⟨Lc141, hQ141, l141, y141, z141⟩, st141⟩ := X120.virtualBack hx (y := (⟨"java/lang/StringBuilder", "append", "(Ljava/lang/String;)Ljava/lang/StringBuilder;"⟩ : MethodName)) (z := (⟨"java/lang/StringBuilder", "append", "(Ljava/lang/String;)Ljava/lang/StringBuilder;"⟩ : MethodName)) ho120 (mvT hZ120 (hw _ (List.mem_of_getElem? (i := 39) rfl))) (mvT hZ120 (hw _ (List.mem_of_getElem? (i := 40) rfl))) (notFace_of_selects (args := #[]) (mvT hZ120 (hw _ (List.mem_of_getElem? (i := 42) rfl)))) (mvT hZ120 (hw _ (List.mem_of_getElem? (i := 42) rfl))) (mvT hZ120 (hw _ (List.mem_of_getElem? (i := 41) rfl))) (by decide) (backOf (W := 2) (rmsapG l Z a0 hw [] b17 la120 cs va_39 (16 : Int32) (((0 : Int32) + (10 : Int32)) + sz) lb120 lk120 (33 : Int32) own_vB (((((0 : Int32) + (10 : Int32)) + sz) + (33 : Int32)) - (16 : Int32)) h120 n0 Z120 f121 hcs f136 G17 f137 f138 f140 f139 GG44 Ea120 Ca120 Va120 Ab120 ne43 nq120 ns120 np120 nr120 (own_inS hS (P := fun sz => (0 : Int32) < (((((0 : Int32) + (10 : Int32)) + sz) + (33 : Int32)) - (16 : Int32))) (by decide +kernel)) (own_inS hS (P := fun sz => (if (((((0 : Int32) + (10 : Int32)) + sz) + (33 : Int32)) - (16 : Int32)) < ((16 : Int32) + (2 : Int32)) then ((16 : Int32) + (2 : Int32)) else (((((0 : Int32) + (10 : Int32)) + sz) + (33 : Int32)) - (16 : Int32))) = (((((0 : Int32) + (10 : Int32)) + sz) + (33 : Int32)) - (16 : Int32))) (by decide +kernel)) (own_inS hS (P := fun sz => (0 : Int32) < ((16 : Int32) + (((((0 : Int32) + (10 : Int32)) + sz) + (33 : Int32)) - (16 : Int32)))) (by decide +kernel)) (own_inS hS (P := fun sz => ¬ ((2147483639 : Int32) < ((16 : Int32) + (((((0 : Int32) + (10 : Int32)) + sz) + (33 : Int32)) - (16 : Int32))))) (by decide +kernel)) (own_inS hS (P := fun sz => ¬ (((16 : Int32) + (((((0 : Int32) + (10 : Int32)) + sz) + (33 : Int32)) - (16 : Int32))) = (2147483647 : Int32))) (by decide +kernel)) (own_inS hS (P := fun sz => ¬ (((16 : Int32) + (((((0 : Int32) + (10 : Int32)) + sz) + (33 : Int32)) - (16 : Int32))) = (16 : Int32))) (by decide +kernel)) (own_inS hS (P := fun sz => ¬ (((16 : Int32) + (((((0 : Int32) + (10 : Int32)) + sz) + (33 : Int32)) - (16 : Int32))) < (0 : Int32))) (by decide +kernel)) (own_inS hS (P := fun sz => (((16 : Int32) + (((((0 : Int32) + (10 : Int32)) + sz) + (33 : Int32)) - (16 : Int32)))).toNatClampNeg ≤ 100) (by decide +kernel)) (own_inS hS (P := fun sz => ¬ (((16 : Int32) + (((((0 : Int32) + (10 : Int32)) + sz) + (33 : Int32)) - (16 : Int32))) < (16 : Int32))) (by decide +kernel)) (own_inS hS (P := fun sz => ¬ ((((0 : Int32) + (10 : Int32)) + sz) < (0 : Int32))) (by decide +kernel)) (own_inS hS (P := fun sz => ((((0 : Int32) + (10 : Int32)) + sz)).toNatClampNeg + ((33 : Int32)).toNatClampNeg ≤ (((16 : Int32) + (((((0 : Int32) + (10 : Int32)) + sz) + (33 : Int32)) - (16 : Int32)))).toNatClampNeg) (by decide +kernel))) hZ120 (hw _ (List.mem_of_getElem? (i := 43) rfl)) (hw _ (List.mem_of_getElem? (i := 13) rfl)) (by decide) (by decide)) q141a q141c (g := (mkF m 30 #[.val (.int fx), .val (.int bo)] [(.ref la120), (.ref b17), (.ref b1), (.ref b1)])) rfl (by rw [hml]; rfl) (Steps.refl _) (argsL := [(.ref la120)]) (rest := [(.ref b1), (.ref b1)]) (lenOf own_pd20 rfl) rfl (by show 2 * 0 + _ ≤ _; exact Nat.le_of_eq rfl) (hb hby own_d1_30) (fun _ _ => ⟨rfl, e120, (by decide : 7 + 1 ≤ _), (by decide : 206 + 100 ≤ _)⟩)
    dsimp only [Pt.U, Pt.locs, Pt.cells, Pt.slots] at X141 l141 y141 z141 st141 hQ141
    subst l141 y141 z141
    obtain ⟨va2_141, rfl, N141q, K141q, f141_0, f141_1, f141_2, f141_3, f141_4⟩ := hQ141
    have N141 := Fr.app N103 N141q
    have ne142 : zo ≠ va2_141 := Nat.ne_of_lt (Nat.lt_of_lt_of_le f124.lt f141_0)
    have ne143 : zt ≠ va2_141 := Nat.ne_of_lt (Nat.lt_of_lt_of_le f125.lt f141_0)
    have ne144 : b1 ≠ va2_141 := Nat.ne_of_lt (Nat.lt_of_lt_of_le f128.lt f141_0)
    have ne145 : b17 ≠ va2_141 := Nat.ne_of_lt (Nat.lt_of_lt_of_le f136.lt f141_0)
    have ne146 : va_39 ≠ va2_141 := Nat.ne_of_lt (Nat.lt_of_lt_of_le f140.lt f141_0)
    have ne147 : la120 ≠ va2_141 := Nat.ne_of_lt (Nat.lt_of_lt_of_le Ea120.lt f141_0)
    have ne148 : lb120 ≠ va2_141 := Nat.ne_of_lt (Nat.lt_of_lt_of_le Ab120.lt f141_0)
    have GG149 : n0 ≤ va2_141 := Nat.le_trans Z120 f141_0
    have HG149 : h0.size ≤ va2_141 := Nat.le_trans K120.1 f141_0
    have f150 := own_sta_keep f121 K141q (allS (own_eplain f136) all0)
    have f151 := own_sta_keep f122 K141q (allS (own_eplain f136) all0)
    have f152 := own_sta_keep f123 K141q (allS (own_eplain f136) all0)
    have f153 := f124.keep K141q (ninS ne18 nin0)
    have f154 := f125.keep K141q (ninS ne19 nin0)
    have f155 := own_sta_keep f126 K141q (allS (own_eplain f136) all0)
    have f156 := own_sta_keep f127 K141q (allS (own_eplain f136) all0)
    have f157 := f128.keep K141q
    have f158 := f129.keep K141q (ninS ne20 nin0)
    have f159 := f130.keep K141q (ninS ne20 nin0)
    have f160 := f131.keep K141q (ninS ne20 nin0)
    have f161 := f132.keep K141q (ninS ne20 nin0)
    have f162 := f133.keep K141q (ninS ne20 nin0)
    have f163 := f134.keep K141q (ninS ne20 nin0)
    have f164 := f135.keep K141q (ninS ne20 nin0)
    have f165 := f136.keep K141q
    have f166 := f140.keep K141q (ninS (Ne.symm ne43) nin0)
    have f167 := Ea120.keep K141q
    have f168 := Ca120.keep K141q (ninS np120 nin0)
    have f169 := Va120.keep K141q (ninS np120 nin0)
    have f170 := Ab120.keep K141q (ninS nr120 nin0)
    have K141 := K120.trans K141q (allS (Or.inr H17) all0)
    have Z141 := Nat.le_trans Z120 K141q.1
    have hk141 := Nat.le_trans hk120 K141q.1
    refine Goes.tr st141 ?_
    show Goes p e below _ T141 (mkF m 33 #[.val (.int fx), .val (.int bo)] [(.ref b17), (.ref b1), (.ref b1)])
    obtain ⟨cq171, kq171, q171a, q171b, q171c⟩ := isOf hZ120 rfl f165
    obtain ⟨_, _, ⟨T171, L171, k171, n171⟩, -, X171, ⟨Lc171, hQ171, l171, y171, z171⟩, st171⟩ := X141.virtualBack hx (y := (⟨"java/lang/StringBuilder", "toString", "()Ljava/lang/String;"⟩ : MethodName)) (z := (⟨"java/lang/StringBuilder", "toString", "()Ljava/lang/String;"⟩ : MethodName)) ho120 (mvT hZ120 (hw _ (List.mem_of_getElem? (i := 136) rfl))) (mvT hZ120 (hw _ (List.mem_of_getElem? (i := 137) rfl))) (notFace_of_selects (args := #[]) (mvT hZ120 (hw _ (List.mem_of_getElem? (i := 139) rfl)))) (mvT hZ120 (hw _ (List.mem_of_getElem? (i := 139) rfl))) (mvT hZ120 (hw _ (List.mem_of_getElem? (i := 138) rfl))) (by decide) (backOf (W := 2) (rmtsC l Z a0 hw [] b17 cs va2_141 ((16 : Int32) + (((((0 : Int32) + (10 : Int32)) + sz) + (33 : Int32)) - (16 : Int32))) ((((0 : Int32) + (10 : Int32)) + sz) + (33 : Int32)) T141.heap n0 Z141 f150 hcs f165 f141_1 f141_2 f141_4 f141_3 (own_inS hS (P := fun sz => ((((0 : Int32) + (10 : Int32)) + sz) + (33 : Int32)) = ((16 : Int32) + (((((0 : Int32) + (10 : Int32)) + sz) + (33 : Int32)) - (16 : Int32)))) (by decide +kernel)) (own_inS hS (P := fun sz => (((16 : Int32) + (((((0 : Int32) + (10 : Int32)) + sz) + (33 : Int32)) - (16 : Int32)))).toNatClampNeg ≤ 100) (by decide +kernel))) hZ120 (hw _ (List.mem_of_getElem? (i := 140) rfl)) (hw _ (List.mem_of_getElem? (i := 13) rfl)) (by decide) (by decide)) q171a q171c (g := (mkF m 33 #[.val (.int fx), .val (.int bo)] [(.ref b17), (.ref b1), (.ref b1)])) rfl (by rw [hml]; rfl) (Steps.refl _) (argsL := []) (rest := [(.ref b1), (.ref b1)]) (lenOf own_pd22 rfl) rfl (by show 2 * 0 + _ ≤ _; exact Nat.le_of_eq rfl) (hb hby own_d1_33) (fun _ _ => ⟨rfl, rfl, (by decide : 8 + 2 ≤ _), (by decide : 306 + 104 ≤ _)⟩)
    dsimp only [Pt.U, Pt.locs, Pt.cells, Pt.slots] at X171 l171 y171 z171 st171 hQ171
    subst l171 y171 z171
    obtain ⟨st__171, rfl, N171q, K171q, f171_0⟩ := hQ171
    have N171 := Fr.app N141 N171q
    have ne172 : zo ≠ st__171 := Nat.ne_of_lt (Nat.lt_of_lt_of_le f153.lt f171_0)
    have ne173 : zt ≠ st__171 := Nat.ne_of_lt (Nat.lt_of_lt_of_le f154.lt f171_0)
    have ne174 : b1 ≠ st__171 := Nat.ne_of_lt (Nat.lt_of_lt_of_le f157.lt f171_0)
    have ne175 : b17 ≠ st__171 := Nat.ne_of_lt (Nat.lt_of_lt_of_le f165.lt f171_0)
    have ne176 : va_39 ≠ st__171 := Nat.ne_of_lt (Nat.lt_of_lt_of_le f166.lt f171_0)
    have ne177 : va2_141 ≠ st__171 := Nat.ne_of_lt (Nat.lt_of_lt_of_le f141_4.lt f171_0)
    have GG178 : n0 ≤ st__171 := Nat.le_trans Z141 f171_0
    have HG178 : h0.size ≤ st__171 := Nat.le_trans K141.1 f171_0
    have f179 := own_sta_keep f150 K171q all0
    have f180 := own_sta_keep f151 K171q all0
    have f181 := own_sta_keep f152 K171q all0
    have f182 := f153.keep K171q nin0
    have f183 := f154.keep K171q nin0
    have f184 := own_sta_keep f155 K171q all0
    have f185 := own_sta_keep f156 K171q all0
    have f186 := f157.keep K171q
    have f187 := f158.keep K171q nin0
    have f188 := f159.keep K171q nin0
    have f189 := f160.keep K171q nin0
    have f190 := f161.keep K171q nin0
    have f191 := f162.keep K171q nin0
    have f192 := f163.keep K171q nin0
    have f193 := f164.keep K171q nin0
    have f194 := f165.keep K171q
    have f195 := f166.keep K171q nin0
    have f196 := f141_1.keep K171q nin0
    have f197 := f141_2.keep K171q nin0
    have f198 := f141_3.keep K171q nin0
    have f199 := f141_4.keep K171q nin0
    have K171 := K141.trans K171q all0
    have Z171 := Nat.le_trans Z141 K171q.1
    have hk171 := Nat.le_trans hk141 K171q.1
    refine Goes.tr st171 ?_
    show Goes p e below _ T171 (mkF m 36 #[.val (.int fx), .val (.int bo)] [(.ref st__171), (.ref b1), (.ref b1)])
    obtain ⟨_, _, ⟨T200, L200, k200, n200⟩, -, X200, ⟨Lc200, hQ200, l200, y200, z200⟩, st200⟩ := X171.specialBack hx (y := (⟨"java/lang/IllegalArgumentException", "<init>", "(Ljava/lang/String;)V"⟩ : MethodName)) rfl ho120 (mvT hZ120 (hw _ (List.mem_of_getElem? (i := 173) rfl))) (mvT hZ120 (hw _ (List.mem_of_getElem? (i := 174) rfl))) (mvT hZ120 (hw _ (List.mem_of_getElem? (i := 175) rfl))) (by decide) (backOfKL (W := 1) (rm32 l Z a0 hw [] b1 st__171 us ss T171.heap n0 Z171 f186 G1 f187 f188 f189 f190 f192 f191 (own_kext hE0 K171) f184 hus f185 hss hfl) hZ120 (hw _ (List.mem_of_getElem? (i := 175) rfl)) (hw _ (List.mem_of_getElem? (i := 10) rfl)) (by decide) (by decide) (Vm.MethodsKnown.alikeC hS120.1.alike hTK) (Vm.FramesKnown.alikeC hS120.1.alike hBl)) (g := (mkF m 36 #[.val (.int fx), .val (.int bo)] [(.ref st__171), (.ref b1), (.ref b1)])) rfl (by rw [hml]; rfl) (Steps.refl _) (a := b1) (argsL := [(.ref st__171)]) (rest := [(.ref b1)]) (lenOf own_pd9 rfl) rfl (by show 2 * 0 + _ ≤ _; exact Nat.le_of_eq rfl) (hb hby own_d1_36) (fun _ _ => ⟨rfl, rfl, (by decide : 10 + 1 ≤ _), (by decide : 410 + 2752 ≤ _)⟩)
    dsimp only [Pt.U, Pt.locs, Pt.cells, Pt.slots] at X200 l200 y200 z200 st200 hQ200
    subst l200 y200 z200
    obtain ⟨rfl, N200q, K200q, f200_0⟩ := hQ200
    have N200 := Fr.app N171 N200q
    have f201 := own_sta_keep f179 K200q (allS (own_eplain f186) all0)
    have f202 := own_sta_keep f180 K200q (allS (own_eplain f186) all0)
    have f203 := own_sta_keep f181 K200q (allS (own_eplain f186) all0)
    have f204 := own_sta_keep f184 K200q (allS (own_eplain f186) all0)
    have f205 := own_sta_keep f185 K200q (allS (own_eplain f186) all0)
    have f206 := f186.keep K200q
    have K200 := K171.trans K200q (allS (Or.inr H1) all0)
    have Z200 := Nat.le_trans Z171 K200q.1
    have hk200 := Nat.le_trans hk171 K200q.1
    refine Goes.tr st200 ?_
    show Goes p e below _ T200 (mkF m 39 #[.val (.int fx), .val (.int bo)] [(.ref b1)])
    obtain ⟨U, o, st, h1, h2, h3⟩ := throwIt X200 hx hZ120 rfl (hw _ (List.mem_of_getElem? (i := 229) rfl)) f206 f200_0 (g := (mkF m 39 #[.val (.int fx), .val (.int bo)] [(.ref b1)])) rfl rfl rfl (by rw [no_rows Bd X0.code]; intro y hy; cases hy) (rest := []) rfl (hb hby own_d1_39) hlk
    have hle : T200.heap.size ≤ U.heap.size := by rw [← (rfl : T200.heap = T200.heap)]; exact st.heap_le
    exact ⟨U, o, st, h1, h2, threw_monoW (h3.since hS120 (Nat.le_trans hk200 hle)) (by decide) (by decide) (own_fresh hh hn0 N200)⟩
  · obtain ⟨T207, h207, X207, e207, E207, A207, D207, Un207, st207⟩ := newO X0 hx hZ hown (hw _ (List.mem_of_getElem? (i := 8) rfl)) (hw _ (List.mem_of_getElem? (i := 9) rfl)) (hw _ (List.mem_of_getElem? (i := 10) rfl)) e0 (g := (mkF m 8 #[.val (.int fx), .val (.int bo)] [])) rfl (hb hby own_d1_8) (by decide) (by decide)
    obtain ⟨b207, g207⟩ : ∃ z, z = h0.size := ⟨_, rfl⟩
    rw [← g207] at A207 D207 Un207 st207
    have ne208 : zo ≠ b207 := own_lt_ne Do2.lt g207
    have ne209 : zt ≠ b207 := own_lt_ne Dt2.lt g207
    have G207 : n0 ≤ b207 := Nat.le_trans Z0 (Nat.le_of_eq g207.symm)
    have H207 : h0.size ≤ b207 := Nat.le_trans K0.1 (Nat.le_of_eq g207.symm)
    have f210 := Sc.ext E207
    have f211 := Do1.ext E207
    have f212 := Dt1.ext E207
    have f213 := Do2.ext E207
    have f214 := Dt2.ext E207
    have f215 := Fus.ext E207
    have f216 := Fss.ext E207
    have K207 := K0.ext E207
    have Z207 := Nat.le_trans Z0 E207.1
    have hk207 := Nat.le_trans hk0 E207.1
    have Ut207 : Unt h207 b207 := Un207
    have f217 : Fld Z h207 b207 "java/lang/Throwable" "cause" "Ljava/lang/Throwable;" .null := D207 (Or.inl (hw _ (List.mem_of_getElem? (i := 196) rfl))) (ty := (.object "java/lang/Throwable")) (by decide)
    have f218 : Fld Z h207 b207 "java/lang/Throwable" "stackTrace" "[Ljava/lang/StackTraceElement;" .null := D207 (Or.inl (hw _ (List.mem_of_getElem? (i := 199) rfl))) (ty := (.array (.object "java/lang/StackTraceElement"))) (by decide)
    have f219 : Fld Z h207 b207 "java/lang/Throwable" "suppressedExceptions" "Ljava/util/List;" .null := D207 (Or.inl (hw _ (List.mem_of_getElem? (i := 202) rfl))) (ty := (.object "java/util/List")) (by decide)
    have f220 : Fld Z h207 b207 "java/lang/Throwable" "detailMessage" "Ljava/lang/String;" .null := D207 (Or.inl (hw _ (List.mem_of_getElem? (i := 226) rfl))) (ty := (.object "java/lang/String")) (by decide)
    have f221 : Fld Z h207 b207 "java/lang/Throwable" "backtrace" "Ljava/lang/Object;" .null := D207 (Or.inl (hw _ (List.mem_of_getElem? (i := 227) rfl))) (ty := (.object "java/lang/Object")) (by decide)
    have f222 : Fld Z h207 b207 "java/lang/Throwable" "depth" "I" (.int (0 : Int32)) := D207 (Or.inl (hw _ (List.mem_of_getElem? (i := 228) rfl))) (ty := .int) (by decide)
    refine Goes.go st207 ?_
    show Goes p e below _ T207 (mkF m 11 #[.val (.int fx), .val (.int bo)] [(.ref b207)])
    refine own_dup X207 hx 12 rfl (hb hby own_d1_11) rfl ?_
    obtain ⟨T223, h223, X223, e223, E223, A223, D223, Un223, st223⟩ := newO X207 hx hZ hown (hw _ (List.mem_of_getElem? (i := 11) rfl)) (hw _ (List.mem_of_getElem? (i := 12) rfl)) (hw _ (List.mem_of_getElem? (i := 13) rfl)) e207 (g := (mkF m 12 #[.val (.int fx), .val (.int bo)] [(.ref b207), (.ref b207)])) rfl (hb hby own_d1_12) (by decide) (by decide)
    obtain ⟨b223, g223⟩ : ∃ z, z = h207.size := ⟨_, rfl⟩
    rw [← g223] at A223 D223 Un223 st223
    have ne224 : zo ≠ b223 := own_lt_ne f213.lt g223
    have ne225 : zt ≠ b223 := own_lt_ne f214.lt g223
    have ne226 : b207 ≠ b223 := own_lt_ne A207.lt g223
    have G223 : n0 ≤ b223 := Nat.le_trans Z207 (Nat.le_of_eq g223.symm)
    have H223 : h0.size ≤ b223 := Nat.le_trans K207.1 (Nat.le_of_eq g223.symm)
    have f227 := f210.ext E223
    have f228 := f211.ext E223
    have f229 := f212.ext E223
    have f230 := f213.ext E223
    have f231 := f214.ext E223
    have f232 := f215.ext E223
    have f233 := f216.ext E223
    have f234 := A207.ext E223
    have f235 := Ut207.ext E223
    have f236 := f217.ext E223
    have f237 := f218.ext E223
    have f238 := f219.ext E223
    have f239 := f220.ext E223
    have f240 := f221.ext E223
    have f241 := f222.ext E223
    have K223 := K207.ext E223
    have Z223 := Nat.le_trans Z207 E223.1
    have hk223 := Nat.le_trans hk207 E223.1
    have Ut223 : Unt h223 b223 := Un223
    have f242 : Fld Z h223 b223 "java/lang/AbstractStringBuilder" "value" "[B" .null := D223 (Or.inl (hw _ (List.mem_of_getElem? (i := 30) rfl))) (ty := (.array .byte)) (by decide)
    have f243 : Fld Z h223 b223 "java/lang/AbstractStringBuilder" "coder" "B" (.int (0 : Int32)) := D223 (Or.inl (hw _ (List.mem_of_getElem? (i := 32) rfl))) (ty := .byte) (by decide)
    have f244 : Fld Z h223 b223 "java/lang/AbstractStringBuilder" "count" "I" (.int (0 : Int32)) := D223 (Or.inl (hw _ (List.mem_of_getElem? (i := 63) rfl))) (ty := .int) (by decide)
    refine Goes.go st223 ?_
    show Goes p e below _ T223 (mkF m 15 #[.val (.int fx), .val (.int bo)] [(.ref b223), (.ref b207), (.ref b207)])
    refine own_dup X223 hx 16 rfl (hb hby own_d1_15) rfl ?_
    obtain ⟨_, _, ⟨T245, L245, k245, n245⟩, -, X245, ⟨Lc245, hQ245, l245, y245, z245⟩, st245⟩ := X223.specialBack hx (y := (⟨"java/lang/StringBuilder", "<init>", "()V"⟩ : MethodName)) rfl hown (mvT hZ (hw _ (List.mem_of_getElem? (i := 14) rfl))) (mvT hZ (hw _ (List.mem_of_getElem? (i := 15) rfl))) (mvT hZ (hw _ (List.mem_of_getElem? (i := 16) rfl))) (by decide) (backOf (W := 3) (rm2 l Z a0 hw [] b223 cs h223 n0 Z223 f227 hcs A223 G223 f242 f243 f244) hZ (hw _ (List.mem_of_getElem? (i := 16) rfl)) (hw _ (List.mem_of_getElem? (i := 13) rfl)) (by decide) (by decide)) (g := (mkF m 16 #[.val (.int fx), .val (.int bo)] [(.ref b223), (.ref b223), (.ref b207), (.ref b207)])) rfl (by rw [hml]; rfl) (Steps.refl _) (a := b223) (argsL := []) (rest := [(.ref b223), (.ref b207), (.ref b207)]) (lenOf own_pd19 rfl) rfl (by show 2 * 0 + _ ≤ _; exact Nat.le_of_eq rfl) (hb hby own_d1_16) (fun _ _ => ⟨rfl, e223, (by decide : 2 + 1 ≤ _), (by decide : 10 + 16 ≤ _)⟩)
    dsimp only [Pt.U, Pt.locs, Pt.cells, Pt.slots] at X245 l245 y245 z245 st245 hQ245
    subst l245 y245 z245
    obtain ⟨va_245, rfl, N245q, K245q, f245_0, f245_1, f245_2, f245_3, f245_4⟩ := hQ245
    have N245 := Fr.app N0 N245q
    have ne246 : zo ≠ va_245 := Nat.ne_of_lt (Nat.lt_of_lt_of_le f230.lt f245_0)
    have ne247 : zt ≠ va_245 := Nat.ne_of_lt (Nat.lt_of_lt_of_le f231.lt f245_0)
    have ne248 : b207 ≠ va_245 := Nat.ne_of_lt (Nat.lt_of_lt_of_le f234.lt f245_0)
    have ne249 : b223 ≠ va_245 := Nat.ne_of_lt (Nat.lt_of_lt_of_le A223.lt f245_0)
    have GG250 : n0 ≤ va_245 := Nat.le_trans Z223 f245_0
    have HG250 : h0.size ≤ va_245 := Nat.le_trans K223.1 f245_0
    have f251 := own_sta_keep f227 K245q (allS (own_eplain A223) all0)
    have f252 := own_sta_keep f228 K245q (allS (own_eplain A223) all0)
    have f253 := own_sta_keep f229 K245q (allS (own_eplain A223) all0)
    have f254 := f230.keep K245q (ninS ne224 nin0)
    have f255 := f231.keep K245q (ninS ne225 nin0)
    have f256 := own_sta_keep f232 K245q (allS (own_eplain A223) all0)
    have f257 := own_sta_keep f233 K245q (allS (own_eplain A223) all0)
    have f258 := f234.keep K245q
    have f259 := f235.keep K245q (ninS ne226 nin0)
    have f260 := f236.keep K245q (ninS ne226 nin0)
    have f261 := f237.keep K245q (ninS ne226 nin0)
    have f262 := f238.keep K245q (ninS ne226 nin0)
    have f263 := f239.keep K245q (ninS ne226 nin0)
    have f264 := f240.keep K245q (ninS ne226 nin0)
    have f265 := f241.keep K245q (ninS ne226 nin0)
    have f266 := A223.keep K245q
    have K245 := K223.trans K245q (allS (Or.inr H223) all0)
    have Z245 := Nat.le_trans Z223 K245q.1
    have hk245 := Nat.le_trans hk223 K245q.1
    refine Goes.tr st245 ?_
    show Goes p e below _ T245 (mkF m 19 #[.val (.int fx), .val (.int bo)] [(.ref b223), (.ref b207), (.ref b207)])
    obtain ⟨la267, T267, h267, k1267, lb267, lk267, X267, e267, E267, hS267, hk267, hZ267, ho267, Ea267, Ca267, Va267, Ab267, -, -, Ib267, Li267, st267⟩ := ldcSVL X245 hx hZ hown (hw _ (List.mem_of_getElem? (i := 33) rfl)) (own_wS hw) rfl hS0 hk245 (fun y hy => by rw [hh]; exact Nat.le_trans hn0 (N245 y hy)) (fun b' cl' q => by rw [hh]; exact hE0.2 b' cl' q) hI (List.not_mem_nil) hc1 hcw (vs := own_vA) (z := (10 : Int32)) ⟨by decide +kernel, rfl⟩ (by decide) (by decide +kernel) (g := (mkF m 19 #[.val (.int fx), .val (.int bo)] [(.ref b223), (.ref b207), (.ref b207)])) rfl (hb hby own_d1_19) (n := 40) (by decide +kernel) (by decide) (by decide) (by decide)
    have f268 := f251.ext E267
    have f269 := f252.ext E267
    have f270 := f253.ext E267
    have f271 := f254.ext E267
    have f272 := f255.ext E267
    have f273 := f256.ext E267
    have f274 := f257.ext E267
    have f275 := f258.ext E267
    have f276 := f259.ext E267
    have f277 := f260.ext E267
    have f278 := f261.ext E267
    have f279 := f262.ext E267
    have f280 := f263.ext E267
    have f281 := f264.ext E267
    have f282 := f265.ext E267
    have f283 := f266.ext E267
    have f284 := f245_1.ext E267
    have f285 := f245_2.ext E267
    have f286 := f245_3.ext E267
    have f287 := f245_4.ext E267
    have K267 := K245.ext E267
    have Z267 := Nat.le_trans Z245 E267.1
    have np267 : la267 ≠ b223 := (Exa.ne Ea267 f283 (by decide))
    have nq267 : la267 ≠ va_245 := (Exa.ne Ea267 (ByA.exa f287) (by decide))
    have nr267 : lb267 ≠ b223 := (Ne.symm (Exa.neArv f283 Ab267 (hw _ (List.mem_of_getElem? (i := 12) rfl))))
    have ns267 : lb267 ≠ va_245 := (ByA.neArv f287 Ab267 (by decide))
    refine Goes.go st267 ?_
    show Goes p e below _ T267 (mkF m 21 #[.val (.int fx), .val (.int bo)] [(.ref la267), (.ref b223), (.ref b207), (.ref b207)])
    obtain ⟨cq288, kq288, q288a, q288b, q288c⟩ := isOf hZ267 e267 f283
    obtain ⟨_, _, ⟨T288, L288, k288, n288⟩, -, X288, ⟨Lc288, hQ288, l288, y288, z288⟩, st288⟩ := X267.virtualBack hx (y := (⟨"java/lang/StringBuilder", "append", "(Ljava/lang/String;)Ljava/lang/StringBuilder;"⟩ : MethodName)) (z := (⟨"java/lang/StringBuilder", "append", "(Ljava/lang/String;)Ljava/lang/StringBuilder;"⟩ : MethodName)) ho267 (mvT hZ267 (hw _ (List.mem_of_getElem? (i := 39) rfl))) (mvT hZ267 (hw _ (List.mem_of_getElem? (i := 40) rfl))) (notFace_of_selects (args := #[]) (mvT hZ267 (hw _ (List.mem_of_getElem? (i := 42) rfl)))) (mvT hZ267 (hw _ (List.mem_of_getElem? (i := 42) rfl))) (mvT hZ267 (hw _ (List.mem_of_getElem? (i := 41) rfl))) (by decide) (backOf (W := 2) (rmsapN l Z a0 hw [] b223 la267 cs va_245 (16 : Int32) (0 : Int32) lb267 lk267 (10 : Int32) own_vA h267 n0 Z267 f268 hcs f283 G223 f284 f285 f287 f286 GG250 Ea267 Ca267 Va267 Ab267 ne249 nq267 ns267 np267 nr267 (by decide +kernel) (by decide +kernel) (by decide +kernel)) hZ267 (hw _ (List.mem_of_getElem? (i := 43) rfl)) (hw _ (List.mem_of_getElem? (i := 13) rfl)) (by decide) (by decide)) q288a q288c (g := (mkF m 21 #[.val (.int fx), .val (.int bo)] [(.ref la267), (.ref b223), (.ref b207), (.ref b207)])) rfl (by rw [hml]; rfl) (Steps.refl _) (argsL := [(.ref la267)]) (rest := [(.ref b207), (.ref b207)]) (lenOf own_pd20 rfl) rfl (by show 2 * 0 + _ ≤ _; exact Nat.le_of_eq rfl) (hb hby own_d1_21) (fun _ _ => ⟨rfl, e267, (by decide : 5 + 0 ≤ _), (by decide : 70 + 0 ≤ _)⟩)
    dsimp only [Pt.U, Pt.locs, Pt.cells, Pt.slots] at X288 l288 y288 z288 st288 hQ288
    subst l288 y288 z288
    obtain ⟨rfl, N288q, K288q, f288_0, f288_1, f288_2, f288_3⟩ := hQ288
    have N288 := Fr.app N245 N288q
    have f289 := own_sta_keep f268 K288q (allS (own_eplain f283) (allS f287.plain all0))
    have f290 := own_sta_keep f269 K288q (allS (own_eplain f283) (allS f287.plain all0))
    have f291 := own_sta_keep f270 K288q (allS (own_eplain f283) (allS f287.plain all0))
    have f292 := f271.keep K288q (ninS ne224 (ninS ne246 nin0))
    have f293 := f272.keep K288q (ninS ne225 (ninS ne247 nin0))
    have f294 := own_sta_keep f273 K288q (allS (own_eplain f283) (allS f287.plain all0))
    have f295 := own_sta_keep f274 K288q (allS (own_eplain f283) (allS f287.plain all0))
    have f296 := f275.keep K288q
    have f297 := f276.keep K288q (ninS ne226 (ninS ne248 nin0))
    have f298 := f277.keep K288q (ninS ne226 (ninS ne248 nin0))
    have f299 := f278.keep K288q (ninS ne226 (ninS ne248 nin0))
    have f300 := f279.keep K288q (ninS ne226 (ninS ne248 nin0))
    have f301 := f280.keep K288q (ninS ne226 (ninS ne248 nin0))
    have f302 := f281.keep K288q (ninS ne226 (ninS ne248 nin0))
    have f303 := f282.keep K288q (ninS ne226 (ninS ne248 nin0))
    have f304 := f283.keep K288q
    have f305 := Ea267.keep K288q
    have f306 := Ca267.keep K288q (ninS np267 (ninS nq267 nin0))
    have f307 := Va267.keep K288q (ninS np267 (ninS nq267 nin0))
    have f308 := Ab267.keep K288q (ninS nr267 (ninS ns267 nin0))
    have K288 := K267.trans K288q (allS (Or.inr H223) (allS (Or.inr HG250) all0))
    have Z288 := Nat.le_trans Z267 K288q.1
    have hk288 := Nat.le_trans hk267 K288q.1
    refine Goes.tr st288 ?_
    show Goes p e below _ T288 (mkF m 24 #[.val (.int fx), .val (.int bo)] [(.ref b223), (.ref b207), (.ref b207)])
    refine own_iloadN X288 hx 25 rfl (hb hby own_d1_24) rfl ?_
    obtain ⟨cq309, kq309, q309a, q309b, q309c⟩ := isOf hZ267 rfl f304
    obtain ⟨_, _, ⟨T309, L309, k309, n309⟩, -, X309, ⟨Lc309, hQ309, l309, y309, z309⟩, st309⟩ := X288.virtualBack hx (y := (⟨"java/lang/StringBuilder", "append", "(I)Ljava/lang/StringBuilder;"⟩ : MethodName)) (z := (⟨"java/lang/StringBuilder", "append", "(I)Ljava/lang/StringBuilder;"⟩ : MethodName)) ho267 (mvT hZ267 (hw _ (List.mem_of_getElem? (i := 89) rfl))) (mvT hZ267 (hw _ (List.mem_of_getElem? (i := 90) rfl))) (notFace_of_selects (args := #[]) (mvT hZ267 (hw _ (List.mem_of_getElem? (i := 92) rfl)))) (mvT hZ267 (hw _ (List.mem_of_getElem? (i := 92) rfl))) (mvT hZ267 (hw _ (List.mem_of_getElem? (i := 91) rfl))) (by decide) (backOf (W := 2) (rmsaIG l Z a0 hw [] b223 bo cs va_245 (16 : Int32) ((0 : Int32) + (10 : Int32)) sz zo zt (18 : Int32) T288.heap n0 Z288 f289 hcs f304 G223 f288_0 f288_1 f288_3 f288_2 GG250 f290 f291 f292 f293 ne249 (Ne.symm ne246) (Ne.symm ne247) ne224 ne225 hsz (own_inL hL (P := fun sz => 11 ≤ (((0 : Int32) + (10 : Int32)) + sz).toInt) (by decide +kernel)) (own_inL hL (P := fun sz => (0 : Int32) < ((((0 : Int32) + (10 : Int32)) + sz) - (16 : Int32))) (by decide +kernel)) (own_inL hL (P := fun sz => (if ((((0 : Int32) + (10 : Int32)) + sz) - (16 : Int32)) < ((16 : Int32) + (2 : Int32)) then ((16 : Int32) + (2 : Int32)) else ((((0 : Int32) + (10 : Int32)) + sz) - (16 : Int32))) = (18 : Int32)) (by decide +kernel)) (by decide +kernel) (by decide +kernel) (by decide +kernel) (by decide +kernel) (by decide +kernel) (by decide +kernel) (by decide +kernel) (own_inL hL (P := fun sz => (((0 : Int32) + (10 : Int32)) + sz).toInt ≤ (((16 : Int32) + (18 : Int32))).toInt) (by decide +kernel))) hZ267 (hw _ (List.mem_of_getElem? (i := 93) rfl)) (hw _ (List.mem_of_getElem? (i := 13) rfl)) (by decide) (by decide)) q309a q309c (g := (mkF m 25 #[.val (.int fx), .val (.int bo)] [(.int bo), (.ref b223), (.ref b207), (.ref b207)])) rfl (by rw [hml]; rfl) (Steps.refl _) (argsL := [(.int bo)]) (rest := [(.ref b207), (.ref b207)]) (lenOf own_pd21 rfl) rfl (by show 2 * 0 + _ ≤ _; exact Nat.le_of_eq rfl) (hb hby own_d1_25) (fun _ _ => ⟨rfl, rfl, (by decide : 5 + 1 ≤ _), (by decide : 70 + 100 ≤ _)⟩)
    dsimp only [Pt.U, Pt.locs, Pt.cells, Pt.slots] at X309 l309 y309 z309 st309 hQ309
    subst l309 y309 z309
    obtain ⟨va2_309, rfl, N309q, K309q, f309_0, f309_1, f309_2, f309_3, f309_4⟩ := hQ309
    have N309 := Fr.app N288 N309q
    have ne310 : zo ≠ va2_309 := Nat.ne_of_lt (Nat.lt_of_lt_of_le f292.lt f309_0)
    have ne311 : zt ≠ va2_309 := Nat.ne_of_lt (Nat.lt_of_lt_of_le f293.lt f309_0)
    have ne312 : b207 ≠ va2_309 := Nat.ne_of_lt (Nat.lt_of_lt_of_le f296.lt f309_0)
    have ne313 : b223 ≠ va2_309 := Nat.ne_of_lt (Nat.lt_of_lt_of_le f304.lt f309_0)
    have ne314 : va_245 ≠ va2_309 := Nat.ne_of_lt (Nat.lt_of_lt_of_le f288_3.lt f309_0)
    have GG315 : n0 ≤ va2_309 := Nat.le_trans Z288 f309_0
    have HG315 : h0.size ≤ va2_309 := Nat.le_trans K288.1 f309_0
    have f316 := own_sta_keep f289 K309q (allS (own_eplain f304) all0)
    have f317 := own_sta_keep f290 K309q (allS (own_eplain f304) all0)
    have f318 := own_sta_keep f291 K309q (allS (own_eplain f304) all0)
    have f319 := f292.keep K309q (ninS ne224 nin0)
    have f320 := f293.keep K309q (ninS ne225 nin0)
    have f321 := own_sta_keep f294 K309q (allS (own_eplain f304) all0)
    have f322 := own_sta_keep f295 K309q (allS (own_eplain f304) all0)
    have f323 := f296.keep K309q
    have f324 := f297.keep K309q (ninS ne226 nin0)
    have f325 := f298.keep K309q (ninS ne226 nin0)
    have f326 := f299.keep K309q (ninS ne226 nin0)
    have f327 := f300.keep K309q (ninS ne226 nin0)
    have f328 := f301.keep K309q (ninS ne226 nin0)
    have f329 := f302.keep K309q (ninS ne226 nin0)
    have f330 := f303.keep K309q (ninS ne226 nin0)
    have f331 := f304.keep K309q
    have f332 := f288_3.keep K309q (ninS (Ne.symm ne249) nin0)
    have K309 := K288.trans K309q (allS (Or.inr H223) all0)
    have Z309 := Nat.le_trans Z288 K309q.1
    have hk309 := Nat.le_trans hk288 K309q.1
    refine Goes.tr st309 ?_
    show Goes p e below _ T309 (mkF m 28 #[.val (.int fx), .val (.int bo)] [(.ref b223), (.ref b207), (.ref b207)])
    obtain ⟨la333, T333, h333, k1333, lb333, lk333, X333, e333, E333, hS333, hk333, hZ333, ho333, Ea333, Ca333, Va333, Ab333, -, -, Ib333, Li333, st333⟩ := ldcSVL X309 hx hZ267 ho267 (hw _ (List.mem_of_getElem? (i := 135) rfl)) (own_wS hw) rfl hS267 hk309 (fun y hy => by rw [hh]; exact Nat.le_trans hn0 (N309 y hy)) (fun b' cl' q => by rw [hh]; exact hE0.2 b' cl' q) Ib267 (by decide +kernel) hc2 hcw (vs := own_vB) (z := (33 : Int32)) ⟨by decide +kernel, rfl⟩ (by decide) (by decide +kernel) (g := (mkF m 28 #[.val (.int fx), .val (.int bo)] [(.ref b223), (.ref b207), (.ref b207)])) rfl (hb hby own_d1_28) (n := 132) (by decide +kernel) (by decide) (by decide) (by decide)
    have f334 := f316.ext E333
    have f335 := f317.ext E333
    have f336 := f318.ext E333
    have f337 := f319.ext E333
    have f338 := f320.ext E333
    have f339 := f321.ext E333
    have f340 := f322.ext E333
    have f341 := f323.ext E333
    have f342 := f324.ext E333
    have f343 := f325.ext E333
    have f344 := f326.ext E333
    have f345 := f327.ext E333
    have f346 := f328.ext E333
    have f347 := f329.ext E333
    have f348 := f330.ext E333
    have f349 := f331.ext E333
    have f350 := f332.ext E333
    have f351 := f309_1.ext E333
    have f352 := f309_2.ext E333
    have f353 := f309_3.ext E333
    have f354 := f309_4.ext E333
    have K333 := K309.ext E333
    have Z333 := Nat.le_trans Z309 E333.1
    have np333 : la333 ≠ b223 := (Exa.ne Ea333 f349 (by decide))
    have nq333 : la333 ≠ va2_309 := (Exa.ne Ea333 (ByA.exa f354) (by decide))
    have nr333 : lb333 ≠ b223 := (Ne.symm (Exa.neArv f349 Ab333 (hw _ (List.mem_of_getElem? (i := 12) rfl))))
    have ns333 : lb333 ≠ va2_309 := (ByA.neArv f354 Ab333 (by decide))
    refine Goes.go st333 ?_
    show Goes p e below _ T333 (mkF m 30 #[.val (.int fx), .val (.int bo)] [(.ref la333), (.ref b223), (.ref b207), (.ref b207)])
    obtain ⟨cq355, kq355, q355a, q355b, q355c⟩ := isOf hZ333 e333 f349
    obtain ⟨_, _, ⟨T355, L355, k355, n355⟩, -, X355, ⟨Lc355, hQ355, l355, y355, z355⟩, st355⟩ := X333.virtualBack hx (y := (⟨"java/lang/StringBuilder", "append", "(Ljava/lang/String;)Ljava/lang/StringBuilder;"⟩ : MethodName)) (z := (⟨"java/lang/StringBuilder", "append", "(Ljava/lang/String;)Ljava/lang/StringBuilder;"⟩ : MethodName)) ho333 (mvT hZ333 (hw _ (List.mem_of_getElem? (i := 39) rfl))) (mvT hZ333 (hw _ (List.mem_of_getElem? (i := 40) rfl))) (notFace_of_selects (args := #[]) (mvT hZ333 (hw _ (List.mem_of_getElem? (i := 42) rfl)))) (mvT hZ333 (hw _ (List.mem_of_getElem? (i := 42) rfl))) (mvT hZ333 (hw _ (List.mem_of_getElem? (i := 41) rfl))) (by decide) (backOf (W := 2) (rmsapG l Z a0 hw [] b223 la333 cs va2_309 ((16 : Int32) + (18 : Int32)) (((0 : Int32) + (10 : Int32)) + sz) lb333 lk333 (33 : Int32) own_vB (((16 : Int32) + (18 : Int32)) + (2 : Int32)) h333 n0 Z333 f334 hcs f349 G223 f351 f352 f354 f353 GG315 Ea333 Ca333 Va333 Ab333 ne313 nq333 ns333 np333 nr333 (own_inL hL (P := fun sz => (0 : Int32) < (((((0 : Int32) + (10 : Int32)) + sz) + (33 : Int32)) - ((16 : Int32) + (18 : Int32)))) (by decide +kernel)) (own_inL hL (P := fun sz => (if (((((0 : Int32) + (10 : Int32)) + sz) + (33 : Int32)) - ((16 : Int32) + (18 : Int32))) < (((16 : Int32) + (18 : Int32)) + (2 : Int32)) then (((16 : Int32) + (18 : Int32)) + (2 : Int32)) else (((((0 : Int32) + (10 : Int32)) + sz) + (33 : Int32)) - ((16 : Int32) + (18 : Int32)))) = (((16 : Int32) + (18 : Int32)) + (2 : Int32))) (by decide +kernel)) (by decide +kernel) (by decide +kernel) (by decide +kernel) (by decide +kernel) (by decide +kernel) (by decide +kernel) (by decide +kernel) (own_inL hL (P := fun sz => ¬ ((((0 : Int32) + (10 : Int32)) + sz) < (0 : Int32))) (by decide +kernel)) (own_inL hL (P := fun sz => ((((0 : Int32) + (10 : Int32)) + sz)).toNatClampNeg + ((33 : Int32)).toNatClampNeg ≤ ((((16 : Int32) + (18 : Int32)) + (((16 : Int32) + (18 : Int32)) + (2 : Int32)))).toNatClampNeg) (by decide +kernel))) hZ333 (hw _ (List.mem_of_getElem? (i := 43) rfl)) (hw _ (List.mem_of_getElem? (i := 13) rfl)) (by decide) (by decide)) q355a q355c (g := (mkF m 30 #[.val (.int fx), .val (.int bo)] [(.ref la333), (.ref b223), (.ref b207), (.ref b207)])) rfl (by rw [hml]; rfl) (Steps.refl _) (argsL := [(.ref la333)]) (rest := [(.ref b207), (.ref b207)]) (lenOf own_pd20 rfl) rfl (by show 2 * 0 + _ ≤ _; exact Nat.le_of_eq rfl) (hb hby own_d1_30) (fun _ _ => ⟨rfl, e333, (by decide : 8 + 1 ≤ _), (by decide : 306 + 100 ≤ _)⟩)
    dsimp only [Pt.U, Pt.locs, Pt.cells, Pt.slots] at X355 l355 y355 z355 st355 hQ355
    subst l355 y355 z355
    obtain ⟨va2_355, rfl, N355q, K355q, f355_0, f355_1, f355_2, f355_3, f355_4⟩ := hQ355
    have N355 := Fr.app N309 N355q
    have ne356 : zo ≠ va2_355 := Nat.ne_of_lt (Nat.lt_of_lt_of_le f337.lt f355_0)
    have ne357 : zt ≠ va2_355 := Nat.ne_of_lt (Nat.lt_of_lt_of_le f338.lt f355_0)
    have ne358 : b207 ≠ va2_355 := Nat.ne_of_lt (Nat.lt_of_lt_of_le f341.lt f355_0)
    have ne359 : b223 ≠ va2_355 := Nat.ne_of_lt (Nat.lt_of_lt_of_le f349.lt f355_0)
    have ne360 : va_245 ≠ va2_355 := Nat.ne_of_lt (Nat.lt_of_lt_of_le f350.lt f355_0)
    have ne361 : va2_309 ≠ va2_355 := Nat.ne_of_lt (Nat.lt_of_lt_of_le f354.lt f355_0)
    have ne362 : la333 ≠ va2_355 := Nat.ne_of_lt (Nat.lt_of_lt_of_le Ea333.lt f355_0)
    have ne363 : lb333 ≠ va2_355 := Nat.ne_of_lt (Nat.lt_of_lt_of_le Ab333.lt f355_0)
    have GG364 : n0 ≤ va2_355 := Nat.le_trans Z333 f355_0
    have HG364 : h0.size ≤ va2_355 := Nat.le_trans K333.1 f355_0
    have f365 := own_sta_keep f334 K355q (allS (own_eplain f349) all0)
    have f366 := own_sta_keep f335 K355q (allS (own_eplain f349) all0)
    have f367 := own_sta_keep f336 K355q (allS (own_eplain f349) all0)
    have f368 := f337.keep K355q (ninS ne224 nin0)
    have f369 := f338.keep K355q (ninS ne225 nin0)
    have f370 := own_sta_keep f339 K355q (allS (own_eplain f349) all0)
    have f371 := own_sta_keep f340 K355q (allS (own_eplain f349) all0)
    have f372 := f341.keep K355q
    have f373 := f342.keep K355q (ninS ne226 nin0)
    have f374 := f343.keep K355q (ninS ne226 nin0)
    have f375 := f344.keep K355q (ninS ne226 nin0)
    have f376 := f345.keep K355q (ninS ne226 nin0)
    have f377 := f346.keep K355q (ninS ne226 nin0)
    have f378 := f347.keep K355q (ninS ne226 nin0)
    have f379 := f348.keep K355q (ninS ne226 nin0)
    have f380 := f349.keep K355q
    have f381 := f350.keep K355q (ninS (Ne.symm ne249) nin0)
    have f382 := f354.keep K355q (ninS (Ne.symm ne313) nin0)
    have f383 := Ea333.keep K355q
    have f384 := Ca333.keep K355q (ninS np333 nin0)
    have f385 := Va333.keep K355q (ninS np333 nin0)
    have f386 := Ab333.keep K355q (ninS nr333 nin0)
    have K355 := K333.trans K355q (allS (Or.inr H223) all0)
    have Z355 := Nat.le_trans Z333 K355q.1
    have hk355 := Nat.le_trans hk333 K355q.1
    refine Goes.tr st355 ?_
    show Goes p e below _ T355 (mkF m 33 #[.val (.int fx), .val (.int bo)] [(.ref b223), (.ref b207), (.ref b207)])
    obtain ⟨cq387, kq387, q387a, q387b, q387c⟩ := isOf hZ333 rfl f380
    obtain ⟨_, _, ⟨T387, L387, k387, n387⟩, -, X387, ⟨Lc387, hQ387, l387, y387, z387⟩, st387⟩ := X355.virtualBack hx (y := (⟨"java/lang/StringBuilder", "toString", "()Ljava/lang/String;"⟩ : MethodName)) (z := (⟨"java/lang/StringBuilder", "toString", "()Ljava/lang/String;"⟩ : MethodName)) ho333 (mvT hZ333 (hw _ (List.mem_of_getElem? (i := 136) rfl))) (mvT hZ333 (hw _ (List.mem_of_getElem? (i := 137) rfl))) (notFace_of_selects (args := #[]) (mvT hZ333 (hw _ (List.mem_of_getElem? (i := 139) rfl)))) (mvT hZ333 (hw _ (List.mem_of_getElem? (i := 139) rfl))) (mvT hZ333 (hw _ (List.mem_of_getElem? (i := 138) rfl))) (by decide) (backOf (W := 2) (rmtsR l Z a0 hw [] b223 cs va2_355 (((16 : Int32) + (18 : Int32)) + (((16 : Int32) + (18 : Int32)) + (2 : Int32))) ((((0 : Int32) + (10 : Int32)) + sz) + (33 : Int32)) T355.heap n0 Z355 f365 hcs f380 f355_1 f355_2 f355_4 f355_3 (own_inL hL (P := fun sz => ¬ (((((0 : Int32) + (10 : Int32)) + sz) + (33 : Int32)) < (0 : Int32))) (by decide +kernel)) (own_inL hL (P := fun sz => (((((0 : Int32) + (10 : Int32)) + sz) + (33 : Int32))).toNatClampNeg ≤ 100) (by decide +kernel)) (own_inL hL (P := fun sz => ((((0 : Int32) + (10 : Int32)) + sz) + (33 : Int32)) < (((16 : Int32) + (18 : Int32)) + (((16 : Int32) + (18 : Int32)) + (2 : Int32)))) (by decide +kernel))) hZ333 (hw _ (List.mem_of_getElem? (i := 140) rfl)) (hw _ (List.mem_of_getElem? (i := 13) rfl)) (by decide) (by decide)) q387a q387c (g := (mkF m 33 #[.val (.int fx), .val (.int bo)] [(.ref b223), (.ref b207), (.ref b207)])) rfl (by rw [hml]; rfl) (Steps.refl _) (argsL := []) (rest := [(.ref b207), (.ref b207)]) (lenOf own_pd22 rfl) rfl (by show 2 * 0 + _ ≤ _; exact Nat.le_of_eq rfl) (hb hby own_d1_33) (fun _ _ => ⟨rfl, rfl, (by decide : 9 + 2 ≤ _), (by decide : 406 + 104 ≤ _)⟩)
    dsimp only [Pt.U, Pt.locs, Pt.cells, Pt.slots] at X387 l387 y387 z387 st387 hQ387
    subst l387 y387 z387
    obtain ⟨st__387, rfl, N387q, K387q, f387_0⟩ := hQ387
    have N387 := Fr.app N355 N387q
    have ne388 : zo ≠ st__387 := Nat.ne_of_lt (Nat.lt_of_lt_of_le f368.lt f387_0)
    have ne389 : zt ≠ st__387 := Nat.ne_of_lt (Nat.lt_of_lt_of_le f369.lt f387_0)
    have ne390 : b207 ≠ st__387 := Nat.ne_of_lt (Nat.lt_of_lt_of_le f372.lt f387_0)
    have ne391 : b223 ≠ st__387 := Nat.ne_of_lt (Nat.lt_of_lt_of_le f380.lt f387_0)
    have ne392 : va_245 ≠ st__387 := Nat.ne_of_lt (Nat.lt_of_lt_of_le f381.lt f387_0)
    have ne393 : va2_309 ≠ st__387 := Nat.ne_of_lt (Nat.lt_of_lt_of_le f382.lt f387_0)
    have ne394 : va2_355 ≠ st__387 := Nat.ne_of_lt (Nat.lt_of_lt_of_le f355_4.lt f387_0)
    have GG395 : n0 ≤ st__387 := Nat.le_trans Z355 f387_0
    have HG395 : h0.size ≤ st__387 := Nat.le_trans K355.1 f387_0
    have f396 := own_sta_keep f365 K387q all0
    have f397 := own_sta_keep f366 K387q all0
    have f398 := own_sta_keep f367 K387q all0
    have f399 := f368.keep K387q nin0
    have f400 := f369.keep K387q nin0
    have f401 := own_sta_keep f370 K387q all0
    have f402 := own_sta_keep f371 K387q all0
    have f403 := f372.keep K387q
    have f404 := f373.keep K387q nin0
    have f405 := f374.keep K387q nin0
    have f406 := f375.keep K387q nin0
    have f407 := f376.keep K387q nin0
    have f408 := f377.keep K387q nin0
    have f409 := f378.keep K387q nin0
    have f410 := f379.keep K387q nin0
    have f411 := f380.keep K387q
    have f412 := f381.keep K387q nin0
    have f413 := f382.keep K387q nin0
    have f414 := f355_1.keep K387q nin0
    have f415 := f355_2.keep K387q nin0
    have f416 := f355_3.keep K387q nin0
    have f417 := f355_4.keep K387q nin0
    have K387 := K355.trans K387q all0
    have Z387 := Nat.le_trans Z355 K387q.1
    have hk387 := Nat.le_trans hk355 K387q.1
    refine Goes.tr st387 ?_
    show Goes p e below _ T387 (mkF m 36 #[.val (.int fx), .val (.int bo)] [(.ref st__387), (.ref b207), (.ref b207)])
    obtain ⟨_, _, ⟨T418, L418, k418, n418⟩, -, X418, ⟨Lc418, hQ418, l418, y418, z418⟩, st418⟩ := X387.specialBack hx (y := (⟨"java/lang/IllegalArgumentException", "<init>", "(Ljava/lang/String;)V"⟩ : MethodName)) rfl ho333 (mvT hZ333 (hw _ (List.mem_of_getElem? (i := 173) rfl))) (mvT hZ333 (hw _ (List.mem_of_getElem? (i := 174) rfl))) (mvT hZ333 (hw _ (List.mem_of_getElem? (i := 175) rfl))) (by decide) (backOfKL (W := 1) (rm32 l Z a0 hw [] b207 st__387 us ss T387.heap n0 Z387 f403 G207 f404 f405 f406 f407 f409 f408 (own_kext hE0 K387) f401 hus f402 hss hfl) hZ333 (hw _ (List.mem_of_getElem? (i := 175) rfl)) (hw _ (List.mem_of_getElem? (i := 10) rfl)) (by decide) (by decide) (Vm.MethodsKnown.alikeC hS333.1.alike hTK) (Vm.FramesKnown.alikeC hS333.1.alike hBl)) (g := (mkF m 36 #[.val (.int fx), .val (.int bo)] [(.ref st__387), (.ref b207), (.ref b207)])) rfl (by rw [hml]; rfl) (Steps.refl _) (a := b207) (argsL := [(.ref st__387)]) (rest := [(.ref b207)]) (lenOf own_pd9 rfl) rfl (by show 2 * 0 + _ ≤ _; exact Nat.le_of_eq rfl) (hb hby own_d1_36) (fun _ _ => ⟨rfl, rfl, (by decide : 11 + 1 ≤ _), (by decide : 510 + 2752 ≤ _)⟩)
    dsimp only [Pt.U, Pt.locs, Pt.cells, Pt.slots] at X418 l418 y418 z418 st418 hQ418
    subst l418 y418 z418
    obtain ⟨rfl, N418q, K418q, f418_0⟩ := hQ418
    have N418 := Fr.app N387 N418q
    have f419 := own_sta_keep f396 K418q (allS (own_eplain f403) all0)
    have f420 := own_sta_keep f397 K418q (allS (own_eplain f403) all0)
    have f421 := own_sta_keep f398 K418q (allS (own_eplain f403) all0)
    have f422 := own_sta_keep f401 K418q (allS (own_eplain f403) all0)
    have f423 := own_sta_keep f402 K418q (allS (own_eplain f403) all0)
    have f424 := f403.keep K418q
    have K418 := K387.trans K418q (allS (Or.inr H207) all0)
    have Z418 := Nat.le_trans Z387 K418q.1
    have hk418 := Nat.le_trans hk387 K418q.1
    refine Goes.tr st418 ?_
    show Goes p e below _ T418 (mkF m 39 #[.val (.int fx), .val (.int bo)] [(.ref b207)])
    obtain ⟨U, o, st, h1, h2, h3⟩ := throwIt X418 hx hZ333 rfl (hw _ (List.mem_of_getElem? (i := 229) rfl)) f424 f418_0 (g := (mkF m 39 #[.val (.int fx), .val (.int bo)] [(.ref b207)])) rfl rfl rfl (by rw [no_rows Bd X0.code]; intro y hy; cases hy) (rest := []) rfl (hb hby own_d1_39) hlk
    have hle : T418.heap.size ≤ U.heap.size := by rw [← (rfl : T418.heap = T418.heap)]; exact st.heap_le
    exact ⟨U, o, st, h1, h2, threw_monoW (h3.since hS333 (Nat.le_trans hk418 hle)) (by decide) (by decide) (own_fresh hh hn0 N418)⟩
theorem own_pn_com_example_tidings_tidings_store_RecordFileCheckFitsPinLaw : plainName "com/example/tidings/tidings/store/RecordFileCheckFitsPinLaw" = true := by first | (simp [plainName, overriddenIn]; done) | decide +kernel
def Q0 (Z : State) (x0 : Int32) (x1 : Int32) (x2 : Int32) (cs : Int32) (zo : Addr) (zt : Addr) (us : Value) (ss : Value) (h0 : Heap) (n0 : Nat) (v : Option Value) (h : Heap) (L : List Loc) : Prop := v = some (.int 1) ∧ Fr n0 L
set_option maxRecDepth 65536 in
set_option maxHeartbeats 40000000 in
theorem rm0 (l : Launch) (Z : State) (a0 : Array Value) (hw : ∀ d ∈ tables_1, d.before a0 Z = true) (ws : List Jvm.Cond) (x0 : Int32) (x1 : Int32) (x2 : Int32) (cs : Int32) (zo : Addr) (zt : Addr) (us : Value) (ss : Value) (h0 : Heap) (n0 : Nat) (Z0 : n0 ≤ h0.size) (hold : Old Z n0 h0) (Sc : Sta Z h0 "java/lang/String" "COMPACT_STRINGS" "Z" (.int cs)) (hcs : ¬ (cs = (0 : Int32))) (Do1 : Sta Z h0 "java/lang/Integer" "DigitOnes" "[B" (.ref zo)) (Dt1 : Sta Z h0 "java/lang/Integer" "DigitTens" "[B" (.ref zt)) (Do2 : ByA Z h0 zo (100 : Int32)) (Dt2 : ByA Z h0 zt (100 : Int32)) (hc1 : Jvm.Lit.constHeld Z "com/example/tidings/tidings/store/RecordFile" 188) (hc2 : Jvm.Lit.constHeld Z "com/example/tidings/tidings/store/RecordFile" 193) (hcw : Jvm.Lit.compactW.before a0 Z = true) (Fus : Sta Z h0 "java/lang/Throwable" "UNASSIGNED_STACK" "[Ljava/lang/StackTraceElement;" us) (hus : us.isRef = true) (Fss : Sta Z h0 "java/lang/Throwable" "SUPPRESSED_SENTINEL" "Ljava/util/List;" ss) (hss : ss.isRef = true) (hfl : l.flags = flags0) :
    MetFree l x (head1 (Jvm.Cond.codeWith x code maxLocals ret handlers :: ws) room_1) (fun a U => a = #[(.int x0), (.int x1), (.int x2)] ∧ Z.Warmed39 U.vm ∧ U.heap = h0 ∧ IB Z U.vm []) (fun _ _ bl st _ => st.vm.MethodsKnown ∧ st.vm.FramesKnown bl) (fun _ U o U' => ∃ v L, o = .returned v ∧ Q0 Z x0 x1 x2 cs zo zt us ss h0 n0 v U'.heap L ∧ ReturnedEndW U o U' L 12 3262) := by
  refine Jvm.Free.Fmt.of_bodyTbl (code := code) (maxLocals := maxLocals) (ret := ret) (handlers := handlers) own_pn_com_example_tidings_tidings_store_RecordFileCheckFitsPinLaw (fun args s h => atoms_spec (ws := Jvm.Cond.codeWith x code maxLocals ret handlers :: ws) h _ (List.mem_cons_self ..)) ?_
  intro p e s m args below meth c s₁ Bd hml0 htab hP hK
  obtain ⟨hTK, hBl⟩ := hK
  obtain ⟨rfl, hZ, hh, hI⟩ := hP
  have hx := Bd.exec
  have hby := Bd.bytes
  have hml : c.maxLocals = 8 := hml0
  have hlk := Bd.notSynchronized
  have hown : s.vm.findClass "com/example/tidings/tidings/store/RecordFileCheckFitsPinLaw" = some m.cls := findClass_of_methodNamed Bd.named
  have hnm := (name_of_methodNamed Bd.named Bd.method).1
  have X0 : Stand p l e room_1 (s.setVm s.vm) m #[(.int x0), (.int x1), (.int x2)] below meth c s₁ [] 0 0 := Stand.of_body Bd
  have e0 : s₁.heap = h0 := by rw [← hh, Bd.state]; rfl
  have N0 := Fr.nil n0
  have hS0 : s.Since s.vm 0 := (State.WarmedH.refl s).since 0
  have hk0 : 0 ≤ h0.size := Nat.zero_le _
  have K0 : Keep h0 h0 [] := Keep.refl _ _
  refine own_enter (P := (DoneW s 12 3262 (Q0 Z x0 x1 x2 cs zo zt us ss h0 n0))) (Ls := #[.val (.int x0), .val (.int x1), .val (.int x2), .unset, .unset, .unset, .unset, .unset]) (by first | (simp [entryFrame, mkF, argsToLocals, Value.category, maxLocals]; done) | rfl) ?_
  have J35 : ∀ (T1 : State) (h1 : Heap) (L1 : List Loc) (fx : Int32) (bo : Int32) (hf : 0 ≤ fx.toInt) (X1 : Stand p l e room_1 (s.setVm s.vm) m #[(.int x0), (.int x1), (.int x2)] below meth c T1 L1 0 0) (e1 : T1.heap = h1) (N1 : Fr n0 L1) (K1 : Keep h0 h1 []) (Z1 : n0 ≤ h1.size) (f1_0 : Old Z n0 h1) (f1_1 : Sta Z h1 "java/lang/String" "COMPACT_STRINGS" "Z" (.int cs)) (f1_2 : Sta Z h1 "java/lang/Integer" "DigitOnes" "[B" (.ref zo)) (f1_3 : Sta Z h1 "java/lang/Integer" "DigitTens" "[B" (.ref zt)) (f1_4 : ByA Z h1 zo (100 : Int32)) (f1_5 : ByA Z h1 zt (100 : Int32)) (f1_6 : Sta Z h1 "java/lang/Throwable" "UNASSIGNED_STACK" "[Ljava/lang/StackTraceElement;" us) (f1_7 : Sta Z h1 "java/lang/Throwable" "SUPPRESSED_SENTINEL" "Ljava/util/List;" ss), Goes p e below (DoneW s 12 3262 (Q0 Z x0 x1 x2 cs zo zt us ss h0 n0)) T1 (mkF m 35 #[.val (.int x0), .val (.int x1), .val (.int x2), .val (.int fx), .val (.int bo), .unset, .unset, .unset] []) := by
    intro T1 h1 L1 fx bo hf X1 e1 N1 K1 Z1 f1_0 f1_1 f1_2 f1_3 f1_4 f1_5 f1_6 f1_7
    refine own_iloadN X1 hx 36 rfl (hb hby at_35) rfl ?_
    refine own_i2l X1 hx 37 rfl (hb hby at_36) rfl ?_
    refine own_iload X1 hx 39 rfl (hb hby at_37) rfl ?_
    refine own_i2l X1 hx 40 rfl (hb hby at_39) rfl ?_
    refine own_ladd X1 hx 41 rfl (hb hby at_40) rfl ?_
    refine Goes.go (X1.ldc2Long hx hown (mvT hZ (hw _ (List.mem_of_getElem? (i := 1) rfl))) (g := (mkF m 41 #[.val (.int x0), .val (.int x1), .val (.int x2), .val (.int fx), .val (.int bo), .unset, .unset, .unset] [(.long ((fx.toInt64) + (bo.toInt64)))])) rfl (hb hby at_41)) ?_
    show Goes p e below _ T1 (mkF m 44 #[.val (.int x0), .val (.int x1), .val (.int x2), .val (.int fx), .val (.int bo), .unset, .unset, .unset] [(.long (16777216 : Int64)), (.long ((fx.toInt64) + (bo.toInt64)))])
    refine own_lcmp X1 hx 45 rfl (hb hby at_44) ?_
    by_cases hc45_2 : (16777216 : Int64) < ((fx.toInt64) + (bo.toInt64))
    · refine own_ifN X1 hx 48 (hb hby at_45) (Ltlt hc45_2).2.2.2 rfl ?_
      refine own_iconst X1 hx 49 rfl (1 : Int32) (hb hby at_48) (by decide) ?_
      refine own_goto X1 hx 53 (hb hby at_49) (by decide) (by decide) ?_
      refine own_istore X1 hx 55 rfl #[.val (.int x0), .val (.int x1), .val (.int x2), .val (.int fx), .val (.int bo), .val (.int (1 : Int32)), .unset, .unset] (hb hby at_53) rfl ?_
      refine own_iconst X1 hx 56 rfl (0 : Int32) (hb hby at_55) (by decide) ?_
      refine own_istore X1 hx 58 rfl #[.val (.int x0), .val (.int x1), .val (.int x2), .val (.int fx), .val (.int bo), .val (.int (1 : Int32)), .val (.int (0 : Int32)), .unset] (hb hby at_56) rfl ?_
      refine own_iloadN X1 hx 59 rfl (hb hby at_58) rfl ?_
      refine own_iload X1 hx 61 rfl (hb hby at_59) rfl ?_
      obtain ⟨ea3, B3, XB3, SB3, gB3, KB3, st3⟩ := own_catchSI (cls := "java/lang/IllegalArgumentException") (rm := ({ frames := 7, cells := 12, slots := 3262, locals := 95 } : Room)) X1 hx hI hown (mvT hZ (hw _ (List.mem_of_getElem? (i := 2) rfl))) (mvT hZ (hw _ (List.mem_of_getElem? (i := 3) rfl))) (mvT hZ (hw _ (List.mem_of_getElem? (i := 4) rfl))) (mvT hZ (hw _ (List.mem_of_getElem? (i := 5) rfl))) (by decide) hZ (rmcfT l Z a0 hw [] fx bo cs zo zt us ss h1 h1.size (Nat.le_refl _) (own_ovT hf hc45_2) (Nat.le_refl _) f1_0.2 f1_1 hcs f1_2 f1_3 f1_4 f1_5 hc1 hc2 hcw f1_6 hus f1_7 hss hfl) (hw _ (List.mem_of_getElem? (i := 5) rfl)) (hw _ (List.mem_of_getElem? (i := 4) rfl)) e1 (Vm.MethodsKnown.alikeC hS0.1.alike hTK) (Vm.FramesKnown.alikeC hS0.1.alike hBl) (g := (mkF m 61 #[.val (.int x0), .val (.int x1), .val (.int x2), .val (.int fx), .val (.int bo), .val (.int (1 : Int32)), .val (.int (0 : Int32)), .unset] [(.int bo), (.int fx)])) rfl (by rw [hml]; rfl) (argsL := [(.int fx), (.int bo)]) (rest := []) (lenOf own_pd1 rfl) rfl (W := 0) (by show 2 * 0 + _ ≤ _; exact Nat.le_of_eq rfl) (by decide) (by decide) (by decide) (by decide) (hb hby at_61) rfl (x := ⟨58, 64, 67, 17⟩) (rst := []) htab rfl (by decide) (mvT hZ (hw _ (List.mem_of_getElem? (i := 231) rfl)))
      obtain ⟨Y3, hS3, hZ3, ho3⟩ := rebS hS0 (Nat.zero_le (Array.size h1)) XB3 SB3 gB3 hZ hown
      have f4 := f1_0.keep KB3 all0
      have f5 := own_sta_keep f1_1 KB3 all0
      have f6 := own_sta_keep f1_2 KB3 all0
      have f7 := own_sta_keep f1_3 KB3 all0
      have f8 := f1_4.keep KB3 nin0
      have f9 := f1_5.keep KB3 nin0
      have f10 := own_sta_keep f1_6 KB3 all0
      have f11 := own_sta_keep f1_7 KB3 all0
      have K3 := K1.trans KB3 all0
      have Z3 := Nat.le_trans Z1 KB3.1
      refine Goes.tr st3 ?_
      show Goes p e below _ B3 (mkF m 67 #[.val (.int x0), .val (.int x1), .val (.int x2), .val (.int fx), .val (.int bo), .val (.int (1 : Int32)), .val (.int (0 : Int32)), .unset] [(.ref ea3)])
      refine own_astore Y3 hx 69 rfl #[.val (.int x0), .val (.int x1), .val (.int x2), .val (.int fx), .val (.int bo), .val (.int (1 : Int32)), .val (.int (0 : Int32)), .val (.ref ea3)] (hb hby at_67) rfl rfl ?_
      refine own_iconst Y3 hx 70 rfl (1 : Int32) (hb hby at_69) (by decide) ?_
      refine own_istore Y3 hx 72 rfl #[.val (.int x0), .val (.int x1), .val (.int x2), .val (.int fx), .val (.int bo), .val (.int (1 : Int32)), .val (.int (1 : Int32)), .val (.ref ea3)] (hb hby at_70) rfl ?_
      refine own_iload Y3 hx 74 rfl (hb hby at_72) rfl ?_
      refine own_iload Y3 hx 76 rfl (hb hby at_74) rfl ?_
      refine own_icmpN Y3 hx 79 (hb hby at_76) (teq ((by decide) : (1 : Int32) = (1 : Int32))).2 rfl ?_
      refine own_iconst Y3 hx 80 rfl (1 : Int32) (hb hby at_79) (by decide) ?_
      refine own_goto Y3 hx 84 (hb hby at_80) (by decide) (by decide) ?_
      refine own_retWZ Y3 hx hS3 hlk Bd.returns (by decide) (hb hby at_84) (by decide) (by decide) rfl (Nat.le_refl B3.heap.size) ?_
      exact ⟨rfl, N1⟩
    · refine own_ifY X1 hx 52 (hb hby at_45) (Lflt hc45_2).2.2.2 (by decide) (by decide) ?_
      refine own_iconst X1 hx 53 rfl (0 : Int32) (hb hby at_52) (by decide) ?_
      refine own_istore X1 hx 55 rfl #[.val (.int x0), .val (.int x1), .val (.int x2), .val (.int fx), .val (.int bo), .val (.int (0 : Int32)), .unset, .unset] (hb hby at_53) rfl ?_
      refine own_iconst X1 hx 56 rfl (0 : Int32) (hb hby at_55) (by decide) ?_
      refine own_istore X1 hx 58 rfl #[.val (.int x0), .val (.int x1), .val (.int x2), .val (.int fx), .val (.int bo), .val (.int (0 : Int32)), .val (.int (0 : Int32)), .unset] (hb hby at_56) rfl ?_
      refine own_iloadN X1 hx 59 rfl (hb hby at_58) rfl ?_
      refine own_iload X1 hx 61 rfl (hb hby at_59) rfl ?_
      obtain ⟨_, _, ⟨T12, L12, k12, n12⟩, -, X12, ⟨Lc12, hQ12, l12, y12, z12⟩, st12⟩ := Jvm.LawKit.callS X1 hx (y := (⟨"com/example/tidings/tidings/store/RecordFile", "checkFits", "(II)V"⟩ : MethodName)) hown (mvT hZ (hw _ (List.mem_of_getElem? (i := 2) rfl))) (mvT hZ (hw _ (List.mem_of_getElem? (i := 3) rfl))) (mvT hZ (hw _ (List.mem_of_getElem? (i := 4) rfl))) (mvT hZ (hw _ (List.mem_of_getElem? (i := 5) rfl))) (by decide) (backOf (W := 0) (rmcfN l Z a0 hw [] fx bo h1 n0 Z1 (own_ovF hf hc45_2)) hZ (hw _ (List.mem_of_getElem? (i := 5) rfl)) (hw _ (List.mem_of_getElem? (i := 4) rfl)) (by decide) (by decide)) (g := (mkF m 61 #[.val (.int x0), .val (.int x1), .val (.int x2), .val (.int fx), .val (.int bo), .val (.int (0 : Int32)), .val (.int (0 : Int32)), .unset] [(.int bo), (.int fx)])) rfl (by rw [hml]; rfl) (argsL := [(.int fx), (.int bo)]) (rest := []) (lenOf own_pd1 rfl) rfl (by show 2 * 0 + _ ≤ _; exact Nat.le_of_eq rfl) (hb hby at_61) (fun _ _ => ⟨rfl, e1, (by decide : 0 + 0 ≤ _), (by decide : 0 + 0 ≤ _)⟩)
      dsimp only [Pt.U, Pt.locs, Pt.cells, Pt.slots] at X12 l12 y12 z12 st12 hQ12
      subst l12 y12 z12
      obtain ⟨rfl, N12q, eh12⟩ := hQ12
      have N12 := Fr.app N1 N12q
      refine Goes.go st12 ?_
      show Goes p e below _ T12 (mkF m 64 #[.val (.int x0), .val (.int x1), .val (.int x2), .val (.int fx), .val (.int bo), .val (.int (0 : Int32)), .val (.int (0 : Int32)), .unset] [])
      refine own_goto X12 hx 72 (hb hby at_64) (by decide) (by decide) ?_
      refine own_iload X12 hx 74 rfl (hb hby at_72) rfl ?_
      refine own_iload X12 hx 76 rfl (hb hby at_74) rfl ?_
      refine own_icmpN X12 hx 79 (hb hby at_76) (teq ((by decide) : (0 : Int32) = (0 : Int32))).2 rfl ?_
      refine own_iconst X12 hx 80 rfl (1 : Int32) (hb hby at_79) (by decide) ?_
      refine own_goto X12 hx 84 (hb hby at_80) (by decide) (by decide) ?_
      refine own_retWZ X12 hx hS0 hlk Bd.returns (by decide) (hb hby at_84) (by decide) (by decide) eh12 (Nat.zero_le (Array.size h1)) ?_
      exact ⟨rfl, N12⟩
  refine own_iloadN X0 hx 1 rfl (hb hby at_0) rfl ?_
  refine own_iconst X0 hx 2 rfl (1 : Int32) (hb hby at_1) (by decide) ?_
  refine own_iand X0 hx 3 rfl (hb hby at_2) rfl ?_
  by_cases hc3_13 : (x2 &&& (1 : Int32)) = (0 : Int32)
  · refine own_ifY X0 hx 27 (hb hby at_3) ((if0 _ _).trans (teq hc3_13).1) (by decide) (by decide) ?_
    refine own_iloadN X0 hx 28 rfl (hb hby at_27) rfl ?_
    refine Goes.go (X0.ldcInt hx hown (mvT hZ (hw _ (List.mem_of_getElem? (i := 0) rfl))) (g := (mkF m 28 #[.val (.int x0), .val (.int x1), .val (.int x2), .unset, .unset, .unset, .unset, .unset] [(.int x0)])) rfl (hb hby at_28)) ?_
    show Goes p e below _ s₁ (mkF m 30 #[.val (.int x0), .val (.int x1), .val (.int x2), .unset, .unset, .unset, .unset, .unset] [(.int (2147483647 : Int32)), (.int x0)])
    refine own_iand X0 hx 31 rfl (hb hby at_30) rfl ?_
    refine own_istoreN X0 hx 32 rfl #[.val (.int x0), .val (.int x1), .val (.int x2), .val (.int (x0 &&& (2147483647 : Int32))), .unset, .unset, .unset, .unset] (hb hby at_31) rfl ?_
    refine own_iloadN X0 hx 33 rfl (hb hby at_32) rfl ?_
    refine own_istore X0 hx 35 rfl #[.val (.int x0), .val (.int x1), .val (.int x2), .val (.int (x0 &&& (2147483647 : Int32))), .val (.int x1), .unset, .unset, .unset] (hb hby at_33) rfl ?_
    exact J35 s₁ h0 _ (x0 &&& (2147483647 : Int32)) (x1) (c_and _ _ (by decide)).1 X0 e0 N0 K0 Z0 hold Sc Do1 Dt1 Do2 Dt2 Fus Fss
  · refine own_ifN X0 hx 6 (hb hby at_3) ((if0 _ _).trans (feq hc3_13).1) rfl ?_
    refine own_iloadN X0 hx 7 rfl (hb hby at_6) rfl ?_
    refine own_sipush X0 hx 10 rfl (255 : Int32) (hb hby at_7) (by decide) ?_
    refine own_iand X0 hx 11 rfl (hb hby at_10) rfl ?_
    refine own_istoreN X0 hx 12 rfl #[.val (.int x0), .val (.int x1), .val (.int x2), .val (.int (x0 &&& (255 : Int32))), .unset, .unset, .unset, .unset] (hb hby at_11) rfl ?_
    refine Goes.go (X0.ldcInt hx hown (mvT hZ (hw _ (List.mem_of_getElem? (i := 7) rfl))) (g := (mkF m 12 #[.val (.int x0), .val (.int x1), .val (.int x2), .val (.int (x0 &&& (255 : Int32))), .unset, .unset, .unset, .unset] [])) rfl (hb hby at_12)) ?_
    show Goes p e below _ s₁ (mkF m 14 #[.val (.int x0), .val (.int x1), .val (.int x2), .val (.int (x0 &&& (255 : Int32))), .unset, .unset, .unset, .unset] [(.int (16777216 : Int32))])
    refine own_iloadN X0 hx 15 rfl (hb hby at_14) rfl ?_
    refine own_isub X0 hx 16 rfl (hb hby at_15) rfl ?_
    refine own_iloadN X0 hx 17 rfl (hb hby at_16) rfl ?_
    refine own_iconst X0 hx 18 rfl (3 : Int32) (hb hby at_17) (by decide) ?_
    refine own_iand X0 hx 19 rfl (hb hby at_18) rfl ?_
    refine own_iconst X0 hx 20 rfl (1 : Int32) (hb hby at_19) (by decide) ?_
    refine own_isub X0 hx 21 rfl (hb hby at_20) rfl ?_
    refine own_iadd X0 hx 22 rfl (hb hby at_21) rfl ?_
    refine own_istore X0 hx 24 rfl #[.val (.int x0), .val (.int x1), .val (.int x2), .val (.int (x0 &&& (255 : Int32))), .val (.int (((16777216 : Int32) - (x0 &&& (255 : Int32))) + ((x1 &&& (3 : Int32)) - (1 : Int32)))), .unset, .unset, .unset] (hb hby at_22) rfl ?_
    refine own_goto X0 hx 35 (hb hby at_24) (by decide) (by decide) ?_
    exact J35 s₁ h0 _ (x0 &&& (255 : Int32)) (((16777216 : Int32) - (x0 &&& (255 : Int32))) + ((x1 &&& (3 : Int32)) - (1 : Int32))) (c_and _ _ (by decide)).1 X0 e0 N0 K0 Z0 hold Sc Do1 Dt1 Do2 Dt2 Fus Fss
set_option maxRecDepth 65536 in
set_option maxHeartbeats 40000000 in
theorem comes_1 {Post : Tables → Env → Array Value → State → Outcome → State → Prop} (hpost : ∀ tb e args s v u, (limb_1_1.after args s (.returned v) u = true ∧ limb_1_2.after args s (.returned v) u = true ∧ True) → ReturnedEndW s (.returned v) u (Jvm.fieldLocs frame_1_writes args s ++ Jvm.arrayLocs frame_1_arrays args s ++ Jvm.staticLocs frame_1_statics s) 32 8000 → Post tb e args s (.returned v) u) :
    ArmForH flags0 classFile x head World_1 tables_1 room_1 Calls_1 rest_1 Pre_1 Post := by
  intro l hfl _ _ p e ha hc hk s m args below hf hA hF happ hP
  obtain ⟨hcalls, hrest, hpre⟩ := hP
  obtain ⟨-, -, -, hnamed, -, -, -, hat⟩ := (Spec.applies_iff hf).mp happ
  obtain ⟨hg, hn⟩ := and_e (Cond.before_iff.mp (show (Jvm.Cond.and given_1 narrow_1).before args s = true from hpre))
  obtain ⟨gg1, gg2⟩ := and_e hg
  obtain ⟨gg3, gg4⟩ := and_e gg2
  obtain ⟨gg5, gg6⟩ := and_e gg4
  obtain ⟨w0, w1, w2, rfl⟩ : ∃ w0 w1 w2 : Value, args = #[w0, w1, w2] := by
    have hs : args.size = 3 := by simpa [Cond.value, given_1] using gg1
    obtain ⟨L⟩ := args
    match L, hs with
    | [w0, w1, w2], _ => exact ⟨w0, w1, w2, rfl⟩
  have hw := fun d (hd : d ∈ tables_1) => atoms_spec (ws := head :: tables_1) hat d (List.mem_cons_of_mem _ hd)
  have hfit : Fit s := fun {y c} hc i hi => by
    obtain ⟨ha, rfl⟩ := Array.getElem?_eq_some_iff.mp hc
    have q := List.all_eq_true.mp ((Array.all_eq_true_iff_forall_mem.mp hF) _ (Array.getElem_mem ha)) i (List.mem_range.mpr hi)
    simpa [Array.getElem?_eq_getElem hi] using q
  obtain ⟨i0, ei0⟩ := is_v gg3
  obtain rfl : w0 = (.int i0) := Option.some.inj ei0
  obtain ⟨i1, ei1⟩ := is_v gg5
  obtain rfl : w1 = (.int i1) := Option.some.inj ei1
  obtain ⟨i2, ei2⟩ := is_v gg6
  obtain rfl : w2 = (.int i2) := Option.some.inj ei2
  obtain ⟨hsets, hown0⟩ := atoms_of _ (rest_1_c_eq ▸ (show rest_1_c.before _ s = true from hrest))
  obtain ⟨cs, evc⟩ := is_v (Cond.before_iff.mp (hsets _ (List.mem_of_getElem? (i := 1) rfl)))
  have Sc := Sta.start evc (Or.inl (hsets _ (List.mem_of_getElem? (i := 0) rfl)))
  have hcs := own_nz evc (hsets _ (List.mem_of_getElem? (i := 2) rfl))
  obtain ⟨zo, evo⟩ := exa_v (Cond.before_iff.mp (hsets _ (List.mem_of_getElem? (i := 12) rfl)))
  have Do1 := Sta.start evo (Or.inl (hsets _ (List.mem_of_getElem? (i := 11) rfl)))
  have Do2 := ByA.start hfit evo (hsets _ (List.mem_of_getElem? (i := 12) rfl)) (hsets _ (List.mem_of_getElem? (i := 13) rfl)) (hw _ (List.mem_of_getElem? (i := 28) rfl)) (by decide)
  obtain ⟨zt, evt⟩ := exa_v (Cond.before_iff.mp (hsets _ (List.mem_of_getElem? (i := 17) rfl)))
  have Dt1 := Sta.start evt (Or.inl (hsets _ (List.mem_of_getElem? (i := 16) rfl)))
  have Dt2 := ByA.start hfit evt (hsets _ (List.mem_of_getElem? (i := 17) rfl)) (hsets _ (List.mem_of_getElem? (i := 18) rfl)) (hw _ (List.mem_of_getElem? (i := 28) rfl)) (by decide)
  obtain ⟨us, evu, fu⟩ := static_fit hfit (hsets _ (List.mem_of_getElem? (i := 25) rfl)) (ty := .array (.object "java/lang/StackTraceElement")) (by decide)
  have hus := fit_R fu rfl
  have Fus := Sta.start evu (Or.inl (hsets _ (List.mem_of_getElem? (i := 26) rfl)))
  obtain ⟨ss, evs, fs⟩ := static_fit hfit (hsets _ (List.mem_of_getElem? (i := 30) rfl)) (ty := .object "java/util/List") (by decide)
  have hss := fit_R fs rfl
  have Fss := Sta.start evs (Or.inl (hsets _ (List.mem_of_getElem? (i := 31) rfl)))
  have hc1 : Jvm.Lit.constHeld s "com/example/tidings/tidings/store/RecordFile" 188 := hcalls.2.2.1 ("com/example/tidings/tidings/store/RecordFile", 188) (by simp [consts_1])
  have hc2 : Jvm.Lit.constHeld s "com/example/tidings/tidings/store/RecordFile" 193 := hcalls.2.2.1 ("com/example/tidings/tidings/store/RecordFile", 193) (by simp [consts_1])
  have hcw : Jvm.Lit.compactW.before _ s = true := (hsets _ (List.mem_of_getElem? (i := 2) rfl))
  obtain ⟨n, o, h1, h2, h3, _, L, rfl, ⟨rfl, N⟩, hq⟩ := rm0 l s _ hw tables_1 i0 i1 i2 cs zo zt us ss s.heap s.heap.size (Nat.le_refl _) (Old.start s) Sc hcs Do1 Dt1 Do2 Dt2 hc1 hc2 hcw Fus hus Fss hss hfl p e ha hc hk s m _ below hf ((Spec.applies_iff_loose hf).mp happ).1 ⟨rfl, State.Warmed39.refl s, rfl, IB.start⟩ ⟨MethodsKnown_of_tablesKnown hcalls.2.1, FramesKnown_of_framesKnown hcalls.1 hf⟩
  refine ⟨n, _, h1, h2, h3, hpost _ _ _ _ _ _ ⟨Cond.after_iff.mpr rfl, Cond.after_iff.mpr (eq_i res_at (Term.int_eval (1)) rfl), trivial⟩ ⟨hq.1, hq.2.1, hq.2.2.1, (hq.2.2.2.sift fun y hy => Or.inr (N y hy)).mono (by decide) (by decide)⟩⟩
theorem main_1_1 : Claimed_1_1 := comes_1 fun _ _ _ _ _ _ h hF => ⟨h.1, hF⟩
theorem main_1_2 : Claimed_1_2 := comes_1 fun _ _ _ _ _ _ h hF => ⟨h.2.1, hF⟩
end Jvm.Pilot.@@N@@
namespace Jvm.Pilot.@@N@@
open Jvm Jvm.ClassFile Sem Op Lib Jvm.Free Jvm.Stand Jvm.Pilot.@@N@@.Jvm.D
/-! MADE BY PROGRAM (witnessworld.py) out of the Statement's table words and the real class files: 44 classes; the members and pool entries that the words name. The judged class is class 1, her method 1. -/
namespace start1
open Jvm.ClassFile
def u (s : String) : CpInfo := .utf8 (stringToUtf16 s)
/-- a pool by its gaps: so many unusable entries, then the entry; so many at the end -/
def gap : Nat → List CpInfo → List CpInfo
  | 0, r => r
  | n + 1, r => .unusable :: gap n r
def poolList (es : List (Nat × CpInfo)) (last : Nat) : List CpInfo := es.foldr (fun e r => gap e.1 (e.2 :: r)) (gap last [])
def pool (es : List (Nat × CpInfo)) (last : Nat) : Array CpInfo := ⟨poolList es last⟩
def fileOf (pool : Array CpInfo) (this : Nat) (attrs : Array Attribute := #[]) (ms : Array MethodInfo := #[]) (fl : Nat := 33) (sup : Nat := 0) (ifs : Array Nat := #[]) (fds : Array FieldInfo := #[]) : ClassFile where
  minorVersion := 0
  majorVersion := 65
  constantPool := pool
  accessFlags := fl
  thisClass := this
  superClass := sup
  interfaces := ifs
  fields := fds
  methods := ms
  attributes := attrs
def plain (name : String) (sup : Option ClassId) : Class where
  name := name
  kind := .ordinary
  loader := none
  accessFlags := 33
  super := sup
  interfaces := #[]
  cf := none
  fields := #[]
  methods := #[]
  instanceTypes := #[]
  staticTypes := #[]
  resolved := #[]
  callSites := []
  init := .initialized
  statics := none
  mirror := none

def pool0 : Array CpInfo := pool [(5, u "<init>"), (0, u "()V"), (1, .class_ 10), (1, u "java/lang/Object"), (85, u "clone"), (0, u "()Ljava/lang/Object;")] 26

def k0c0 : Code := { maxStack := 0, maxLocals := 1, code := object_method_1_code, exceptionTable := #[], attributes := #[] }
def k0m0 : Method := { name := "<init>", desc := "()V", sig := { parameters := [], returnType := none }, accessFlags := 1, code := some k0c0 }
def k0m1 : Method := { name := "clone", desc := "()Ljava/lang/Object;", sig := { parameters := [], returnType := some (.object "java/lang/Object") }, accessFlags := 260, code := none }
/-- java/lang/Object -/
def k0 : Class := { plain "java/lang/Object" none with
  accessFlags := 33
  interfaces := #[]
  cf := some (fileOf pool0 8 #[] #[{ accessFlags := 1, nameIndex := 5, descriptorIndex := 6, attributes := #[] }, { accessFlags := 260, nameIndex := 96, descriptorIndex := 97, attributes := #[] }] 33 0 #[] #[])
  fields := #[]
  methods := #[k0m0, k0m1]
  instanceTypes := #[]
  staticTypes := #[]
  resolved := Array.replicate 124 none
  statics := none }

def pool1 : Array CpInfo := pool [(2, .class_ 4), (1, u "java/lang/Object"), (0, u "<init>"), (0, u "()V"), (0, .integer 16777216), (0, .integer 2147483647), (0, .long 16777216), (1, .methodref 12 13), (0, .class_ 14), (0, .nameAndType 15 16), (0, u "com/example/tidings/tidings/store/RecordFile"), (0, u "checkFits"), (0, u "(II)V"), (0, .class_ 18), (0, u "java/lang/IllegalArgumentException"), (0, .class_ 20), (0, u "com/example/tidings/tidings/store/RecordFileCheckFitsPinLaw"), (2, u "law"), (0, u "(III)Z")] 3

def k1m0 : Method := { name := "<init>", desc := "()V", sig := { parameters := [], returnType := none }, accessFlags := 2, code := none }
def k1c1 : Code := { maxStack := 4, maxLocals := 8, code := code, exceptionTable := #[{ startPc := 58, endPc := 64, handlerPc := 67, catchType := 17 }], attributes := #[] }
def k1m1 : Method := { name := "law", desc := "(III)Z", sig := { parameters := [.int, .int, .int], returnType := some .boolean }, accessFlags := 9, code := some k1c1 }
/-- com/example/tidings/tidings/store/RecordFileCheckFitsPinLaw -/
def k1 : Class := { plain "com/example/tidings/tidings/store/RecordFileCheckFitsPinLaw" (some 0) with
  accessFlags := 49
  interfaces := #[]
  cf := some (fileOf pool1 19 #[] #[{ accessFlags := 2, nameIndex := 5, descriptorIndex := 6, attributes := #[] }, { accessFlags := 9, nameIndex := 23, descriptorIndex := 24, attributes := #[] }] 49 2 #[] #[])
  fields := #[]
  methods := #[k1m0, k1m1]
  instanceTypes := #[]
  staticTypes := #[]
  resolved := Array.replicate 28 none
  statics := none }

def pool2 : Array CpInfo := pool [(1, .class_ 2), (0, u "java/lang/AutoCloseable"), (0, .class_ 4), (0, u "java/lang/Object")] 7

/-- java/lang/AutoCloseable -/
def k2 : Class := { plain "java/lang/AutoCloseable" (some 0) with
  accessFlags := 1537
  interfaces := #[]
  cf := some (fileOf pool2 1 #[] #[] 1537 3 #[] #[])
  fields := #[]
  methods := #[]
  instanceTypes := #[]
  staticTypes := #[]
  resolved := Array.replicate 12 none
  statics := none }

def pool3 : Array CpInfo := pool [(1, .class_ 2), (0, u "java/io/Closeable"), (0, .class_ 4), (0, u "java/lang/Object"), (0, .class_ 6), (0, u "java/lang/AutoCloseable")] 7

/-- java/io/Closeable -/
def k3 : Class := { plain "java/io/Closeable" (some 0) with
  accessFlags := 1537
  interfaces := #[2]
  cf := some (fileOf pool3 1 #[] #[] 1537 3 #[5] #[])
  fields := #[]
  methods := #[]
  instanceTypes := #[]
  staticTypes := #[]
  resolved := Array.replicate 14 none
  statics := none }

def pool4 : Array CpInfo := pool [(2, .class_ 4), (0, .nameAndType 5 6), (0, u "java/lang/Object"), (0, u "<init>"), (0, u "()V"), (1, .class_ 10), (1, u "com/example/tidings/tidings/store/RecordFile"), (0, u "file"), (0, u "Ljava/nio/file/Path;"), (2, u "channel"), (0, u "Ljava/nio/channels/FileChannel;"), (2, u "size"), (0, u "J"), (2, u "tornEnd"), (0, u "Ljava/lang/String;"), (4, .nameAndType 31 32), (1, u "toString"), (0, u "()Ljava/lang/String;"), (1, .nameAndType 5 35), (0, u "(Ljava/lang/String;)V"), (2, u "syncs"), (0, u "Lcom/example/tidings/tidings/store/GroupSync;"), (56, .class_ 98), (1, u "com/example/tidings/tidings/store/RecordFile$Record"), (11, .class_ 111), (0, u "java/lang/StringBuilder"), (0, .methodref 110 3), (0, .methodref 110 114), (0, .nameAndType 115 116), (0, u "append"), (0, u "(Ljava/lang/String;)Ljava/lang/StringBuilder;"), (2, .methodref 110 29), (22, .class_ 144), (1, u "com/example/tidings/tidings/store/RecordFile$Replayer"), (40, .integer 16777216), (0, .class_ 187), (0, u "java/lang/IllegalArgumentException"), (0, .string 189), (0, u "a body of "), (0, .methodref 110 191), (0, .nameAndType 115 192), (0, u "(I)Ljava/lang/StringBuilder;"), (0, .string 194), (0, u " bytes is too large for a journal"), (0, .methodref 186 34), (149, .class_ 346), (0, u "com/example/tidings/tidings/store/RecordFile$Sink"), (4, .class_ 353), (1, u "com/example/tidings/tidings/store/RecordFile$Rewrite"), (7, .class_ 362), (0, u "java/io/Closeable"), (0, u "FRAME_BYTES"), (0, u "I"), (2, u "MAX_RECORD_BYTES"), (0, u "READ_BUFFER_BYTES"), (0, u "MIN_REWRITE_GARBAGE"), (16, u "checkFits"), (0, u "(II)V")] 72

def k4c0 : Code := { maxStack := 4, maxLocals := 2, code := prog_105_method_6_code, exceptionTable := #[], attributes := #[] }
def k4m0 : Method := { name := "checkFits", desc := "(II)V", sig := { parameters := [.int, .int], returnType := none }, accessFlags := 8, code := some k4c0 }
/-- com/example/tidings/tidings/store/RecordFile -/
def k4 : Class := { plain "com/example/tidings/tidings/store/RecordFile" (some 0) with
  accessFlags := 48
  interfaces := #[3]
  cf := some (fileOf pool4 8 #[.nestMembers #[96, 345, 351, 142]] #[{ accessFlags := 8, nameIndex := 386, descriptorIndex := 387, attributes := #[] }] 48 2 #[361] #[{ accessFlags := 24, nameIndex := 363, descriptorIndex := 364, attributes := #[] }, { accessFlags := 24, nameIndex := 367, descriptorIndex := 364, attributes := #[] }, { accessFlags := 26, nameIndex := 368, descriptorIndex := 364, attributes := #[] }, { accessFlags := 26, nameIndex := 369, descriptorIndex := 20, attributes := #[] }, { accessFlags := 18, nameIndex := 11, descriptorIndex := 12, attributes := #[] }, { accessFlags := 18, nameIndex := 23, descriptorIndex := 24, attributes := #[] }, { accessFlags := 18, nameIndex := 38, descriptorIndex := 39, attributes := #[] }, { accessFlags := 2, nameIndex := 15, descriptorIndex := 16, attributes := #[] }, { accessFlags := 2, nameIndex := 19, descriptorIndex := 20, attributes := #[] }])
  fields := #[{ name := "FRAME_BYTES", type := .int, accessFlags := 24, slot := 0, constantValue := 0 }, { name := "MAX_RECORD_BYTES", type := .int, accessFlags := 24, slot := 1, constantValue := 0 }, { name := "READ_BUFFER_BYTES", type := .int, accessFlags := 26, slot := 2, constantValue := 0 }, { name := "MIN_REWRITE_GARBAGE", type := .long, accessFlags := 26, slot := 3, constantValue := 0 }, { name := "file", type := (.object "java/nio/file/Path"), accessFlags := 18, slot := 0, constantValue := 0 }, { name := "tornEnd", type := (.object "java/lang/String"), accessFlags := 18, slot := 1, constantValue := 0 }, { name := "syncs", type := (.object "com/example/tidings/tidings/store/GroupSync"), accessFlags := 18, slot := 2, constantValue := 0 }, { name := "channel", type := (.object "java/nio/channels/FileChannel"), accessFlags := 2, slot := 3, constantValue := 0 }, { name := "size", type := .long, accessFlags := 2, slot := 4, constantValue := 0 }]
  methods := #[k4m0]
  instanceTypes := #[(.object "java/nio/file/Path"), (.object "java/lang/String"), (.object "com/example/tidings/tidings/store/GroupSync"), (.object "java/nio/channels/FileChannel"), .long]
  staticTypes := #[.int, .int, .int, .long]
  resolved := Array.replicate 460 none
  statics := none }

def pool5 : Array CpInfo := pool [(1, .class_ 2), (0, u "java/io/Serializable"), (0, .class_ 4), (0, u "java/lang/Object")] 2

/-- java/io/Serializable -/
def k5 : Class := { plain "java/io/Serializable" (some 0) with
  accessFlags := 1537
  interfaces := #[]
  cf := some (fileOf pool5 1 #[] #[] 1537 3 #[] #[])
  fields := #[]
  methods := #[]
  instanceTypes := #[]
  staticTypes := #[]
  resolved := Array.replicate 7 none
  statics := none }

def pool6 : Array CpInfo := pool [(1, .methodref 2 3), (0, .class_ 4), (0, .nameAndType 5 6), (0, u "java/lang/Object"), (0, u "<init>"), (0, u "()V"), (0, .fieldref 8 9), (0, .class_ 10), (0, .nameAndType 11 12), (0, u "java/lang/Throwable"), (0, u "cause"), (0, u "Ljava/lang/Throwable;"), (0, .fieldref 8 14), (0, .nameAndType 15 16), (0, u "UNASSIGNED_STACK"), (0, u "[Ljava/lang/StackTraceElement;"), (0, .fieldref 8 18), (0, .nameAndType 19 16), (0, u "stackTrace"), (0, .fieldref 8 21), (0, .nameAndType 22 23), (0, u "SUPPRESSED_SENTINEL"), (0, u "Ljava/util/List;"), (0, .fieldref 8 25), (0, .nameAndType 26 23), (0, u "suppressedExceptions"), (0, .methodref 8 28), (0, .nameAndType 29 30), (0, u "fillInStackTrace"), (0, u "()Ljava/lang/Throwable;"), (0, .fieldref 8 32), (0, .nameAndType 33 34), (0, u "detailMessage"), (0, u "Ljava/lang/String;"), (58, .class_ 94), (0, u "java/lang/Throwable$WrappedPrintStream"), (6, .class_ 103), (1, u "java/lang/Throwable$PrintStreamOrWriter"), (61, u "$assertionsDisabled"), (0, u "Z"), (26, .class_ 194), (0, u "java/lang/Throwable$WrappedPrintWriter"), (3, .fieldref 8 199), (0, .nameAndType 200 201), (0, u "backtrace"), (0, u "Ljava/lang/Object;"), (0, .methodref 8 203), (0, .nameAndType 29 204), (0, u "(I)Ljava/lang/Throwable;"), (6, u "depth"), (0, u "I"), (10, u "(Ljava/lang/String;)V"), (45, .class_ 271), (1, u "java/lang/Throwable$SentinelHolder"), (32, u "EMPTY_THROWABLE_ARRAY"), (0, u "[Ljava/lang/Throwable;"), (12, .class_ 319), (0, u "java/io/Serializable"), (0, u "serialVersionUID"), (0, u "J"), (5, u "NULL_CAUSE_MESSAGE"), (0, u "SELF_SUPPRESSION_MESSAGE"), (0, u "CAUSE_CAPTION"), (0, u "SUPPRESSED_CAPTION")] 73

def k6c0 : Code := { maxStack := 2, maxLocals := 1, code := jdk_78_method_1_code, exceptionTable := #[], attributes := #[] }
def k6m0 : Method := { name := "<init>", desc := "()V", sig := { parameters := [], returnType := none }, accessFlags := 1, code := some k6c0 }
def k6c1 : Code := { maxStack := 2, maxLocals := 2, code := jdk_78_method_2_code, exceptionTable := #[], attributes := #[] }
def k6m1 : Method := { name := "<init>", desc := "(Ljava/lang/String;)V", sig := { parameters := [(.object "java/lang/String")], returnType := none }, accessFlags := 1, code := some k6c1 }
def k6c2 : Code := { maxStack := 2, maxLocals := 1, code := jdk_78_method_18_code, exceptionTable := #[], attributes := #[] }
def k6m2 : Method := { name := "fillInStackTrace", desc := "()Ljava/lang/Throwable;", sig := { parameters := [], returnType := some (.object "java/lang/Throwable") }, accessFlags := 33, code := some k6c2 }
def k6m3 : Method := { name := "fillInStackTrace", desc := "(I)Ljava/lang/Throwable;", sig := { parameters := [.int], returnType := some (.object "java/lang/Throwable") }, accessFlags := 258, code := none }
/-- java/lang/Throwable -/
def k6 : Class := { plain "java/lang/Throwable" (some 0) with
  accessFlags := 33
  interfaces := #[5]
  cf := some (fileOf pool6 8 #[.nestMembers #[193, 93, 101, 269]] #[{ accessFlags := 1, nameIndex := 5, descriptorIndex := 6, attributes := #[] }, { accessFlags := 1, nameIndex := 5, descriptorIndex := 223, attributes := #[] }, { accessFlags := 33, nameIndex := 29, descriptorIndex := 30, attributes := #[] }, { accessFlags := 258, nameIndex := 29, descriptorIndex := 204, attributes := #[] }] 33 2 #[318] #[{ accessFlags := 26, nameIndex := 320, descriptorIndex := 321, attributes := #[] }, { accessFlags := 130, nameIndex := 200, descriptorIndex := 201, attributes := #[] }, { accessFlags := 2, nameIndex := 33, descriptorIndex := 34, attributes := #[] }, { accessFlags := 26, nameIndex := 15, descriptorIndex := 16, attributes := #[] }, { accessFlags := 2, nameIndex := 11, descriptorIndex := 12, attributes := #[] }, { accessFlags := 2, nameIndex := 19, descriptorIndex := 16, attributes := #[] }, { accessFlags := 130, nameIndex := 211, descriptorIndex := 212, attributes := #[] }, { accessFlags := 26, nameIndex := 22, descriptorIndex := 23, attributes := #[] }, { accessFlags := 2, nameIndex := 26, descriptorIndex := 23, attributes := #[] }, { accessFlags := 26, nameIndex := 327, descriptorIndex := 34, attributes := #[] }, { accessFlags := 26, nameIndex := 328, descriptorIndex := 34, attributes := #[] }, { accessFlags := 26, nameIndex := 329, descriptorIndex := 34, attributes := #[] }, { accessFlags := 26, nameIndex := 330, descriptorIndex := 34, attributes := #[] }, { accessFlags := 26, nameIndex := 304, descriptorIndex := 305, attributes := #[] }, { accessFlags := 4120, nameIndex := 165, descriptorIndex := 166, attributes := #[] }])
  fields := #[{ name := "serialVersionUID", type := .long, accessFlags := 26, slot := 0, constantValue := 0 }, { name := "backtrace", type := (.object "java/lang/Object"), accessFlags := 130, slot := 0, constantValue := 0 }, { name := "detailMessage", type := (.object "java/lang/String"), accessFlags := 2, slot := 1, constantValue := 0 }, { name := "UNASSIGNED_STACK", type := (.array (.object "java/lang/StackTraceElement")), accessFlags := 26, slot := 1, constantValue := 0 }, { name := "cause", type := (.object "java/lang/Throwable"), accessFlags := 2, slot := 2, constantValue := 0 }, { name := "stackTrace", type := (.array (.object "java/lang/StackTraceElement")), accessFlags := 2, slot := 3, constantValue := 0 }, { name := "depth", type := .int, accessFlags := 130, slot := 4, constantValue := 0 }, { name := "SUPPRESSED_SENTINEL", type := (.object "java/util/List"), accessFlags := 26, slot := 2, constantValue := 0 }, { name := "suppressedExceptions", type := (.object "java/util/List"), accessFlags := 2, slot := 5, constantValue := 0 }, { name := "NULL_CAUSE_MESSAGE", type := (.object "java/lang/String"), accessFlags := 26, slot := 3, constantValue := 0 }, { name := "SELF_SUPPRESSION_MESSAGE", type := (.object "java/lang/String"), accessFlags := 26, slot := 4, constantValue := 0 }, { name := "CAUSE_CAPTION", type := (.object "java/lang/String"), accessFlags := 26, slot := 5, constantValue := 0 }, { name := "SUPPRESSED_CAPTION", type := (.object "java/lang/String"), accessFlags := 26, slot := 6, constantValue := 0 }, { name := "EMPTY_THROWABLE_ARRAY", type := (.array (.object "java/lang/Throwable")), accessFlags := 26, slot := 7, constantValue := 0 }, { name := "$assertionsDisabled", type := .boolean, accessFlags := 4120, slot := 8, constantValue := 0 }]
  methods := #[k6m0, k6m1, k6m2, k6m3]
  instanceTypes := #[(.object "java/lang/Object"), (.object "java/lang/String"), (.object "java/lang/Throwable"), (.array (.object "java/lang/StackTraceElement")), .int, (.object "java/util/List")]
  staticTypes := #[.long, (.array (.object "java/lang/StackTraceElement")), (.object "java/util/List"), (.object "java/lang/String"), (.object "java/lang/String"), (.object "java/lang/String"), (.object "java/lang/String"), (.array (.object "java/lang/Throwable")), .boolean]
  resolved := Array.replicate 404 none
  statics := some 0 }

def pool7 : Array CpInfo := pool [(2, .class_ 4), (1, u "java/lang/Throwable"), (0, u "<init>"), (0, u "()V"), (0, .methodref 2 8), (0, .nameAndType 5 9), (0, u "(Ljava/lang/String;)V"), (9, .class_ 20), (0, u "java/lang/Exception"), (0, u "serialVersionUID"), (0, u "J")] 17

def k7m0 : Method := { name := "<init>", desc := "()V", sig := { parameters := [], returnType := none }, accessFlags := 1, code := none }
def k7c1 : Code := { maxStack := 2, maxLocals := 2, code := jdk_59_method_2_code, exceptionTable := #[], attributes := #[] }
def k7m1 : Method := { name := "<init>", desc := "(Ljava/lang/String;)V", sig := { parameters := [(.object "java/lang/String")], returnType := none }, accessFlags := 1, code := some k7c1 }
/-- java/lang/Exception -/
def k7 : Class := { plain "java/lang/Exception" (some 6) with
  accessFlags := 33
  interfaces := #[]
  cf := some (fileOf pool7 19 #[] #[{ accessFlags := 1, nameIndex := 5, descriptorIndex := 6, attributes := #[] }, { accessFlags := 1, nameIndex := 5, descriptorIndex := 9, attributes := #[] }] 33 2 #[] #[{ accessFlags := 24, nameIndex := 21, descriptorIndex := 22, attributes := #[] }])
  fields := #[{ name := "serialVersionUID", type := .long, accessFlags := 24, slot := 0, constantValue := 0 }]
  methods := #[k7m0, k7m1]
  instanceTypes := #[(.object "java/lang/Object"), (.object "java/lang/String"), (.object "java/lang/Throwable"), (.array (.object "java/lang/StackTraceElement")), .int, (.object "java/util/List")]
  staticTypes := #[.long]
  resolved := Array.replicate 40 none
  statics := none }

def pool8 : Array CpInfo := pool [(2, .class_ 4), (1, u "java/lang/Exception"), (0, u "<init>"), (0, u "()V"), (0, .methodref 2 8), (0, .nameAndType 5 9), (0, u "(Ljava/lang/String;)V"), (9, .class_ 20), (0, u "java/lang/RuntimeException"), (0, u "serialVersionUID"), (0, u "J")] 17

def k8m0 : Method := { name := "<init>", desc := "()V", sig := { parameters := [], returnType := none }, accessFlags := 1, code := none }
def k8c1 : Code := { maxStack := 2, maxLocals := 2, code := jdk_58_method_2_code, exceptionTable := #[], attributes := #[] }
def k8m1 : Method := { name := "<init>", desc := "(Ljava/lang/String;)V", sig := { parameters := [(.object "java/lang/String")], returnType := none }, accessFlags := 1, code := some k8c1 }
/-- java/lang/RuntimeException -/
def k8 : Class := { plain "java/lang/RuntimeException" (some 7) with
  accessFlags := 33
  interfaces := #[]
  cf := some (fileOf pool8 19 #[] #[{ accessFlags := 1, nameIndex := 5, descriptorIndex := 6, attributes := #[] }, { accessFlags := 1, nameIndex := 5, descriptorIndex := 9, attributes := #[] }] 33 2 #[] #[{ accessFlags := 24, nameIndex := 21, descriptorIndex := 22, attributes := #[] }])
  fields := #[{ name := "serialVersionUID", type := .long, accessFlags := 24, slot := 0, constantValue := 0 }]
  methods := #[k8m0, k8m1]
  instanceTypes := #[(.object "java/lang/Object"), (.object "java/lang/String"), (.object "java/lang/Throwable"), (.array (.object "java/lang/StackTraceElement")), .int, (.object "java/util/List")]
  staticTypes := #[.long]
  resolved := Array.replicate 40 none
  statics := none }

def pool9 : Array CpInfo := pool [(2, .class_ 4), (1, u "java/lang/RuntimeException"), (0, u "<init>"), (0, u "()V"), (0, .methodref 2 8), (0, .nameAndType 5 9), (0, u "(Ljava/lang/String;)V"), (6, .class_ 17), (0, u "java/lang/IllegalArgumentException"), (0, u "serialVersionUID"), (0, u "J")] 15

def k9m0 : Method := { name := "<init>", desc := "()V", sig := { parameters := [], returnType := none }, accessFlags := 1, code := none }
def k9c1 : Code := { maxStack := 2, maxLocals := 2, code := jdk_57_method_2_code, exceptionTable := #[], attributes := #[] }
def k9m1 : Method := { name := "<init>", desc := "(Ljava/lang/String;)V", sig := { parameters := [(.object "java/lang/String")], returnType := none }, accessFlags := 1, code := some k9c1 }
/-- java/lang/IllegalArgumentException -/
def k9 : Class := { plain "java/lang/IllegalArgumentException" (some 8) with
  accessFlags := 33
  interfaces := #[]
  cf := some (fileOf pool9 16 #[] #[{ accessFlags := 1, nameIndex := 5, descriptorIndex := 6, attributes := #[] }, { accessFlags := 1, nameIndex := 5, descriptorIndex := 9, attributes := #[] }] 33 2 #[] #[{ accessFlags := 26, nameIndex := 18, descriptorIndex := 19, attributes := #[] }])
  fields := #[{ name := "serialVersionUID", type := .long, accessFlags := 26, slot := 0, constantValue := 0 }]
  methods := #[k9m0, k9m1]
  instanceTypes := #[(.object "java/lang/Object"), (.object "java/lang/String"), (.object "java/lang/Throwable"), (.array (.object "java/lang/StackTraceElement")), .int, (.object "java/util/List")]
  staticTypes := #[.long]
  resolved := Array.replicate 35 none
  statics := none }

def pool10 : Array CpInfo := pool [(1, .class_ 2), (0, u "java/lang/Appendable"), (0, .class_ 4), (0, u "java/lang/Object")] 9

/-- java/lang/Appendable -/
def k10 : Class := { plain "java/lang/Appendable" (some 0) with
  accessFlags := 1537
  interfaces := #[]
  cf := some (fileOf pool10 1 #[] #[] 1537 3 #[] #[])
  fields := #[]
  methods := #[]
  instanceTypes := #[]
  staticTypes := #[]
  resolved := Array.replicate 14 none
  statics := none }

def pool11 : Array CpInfo := pool [(2, .class_ 4), (1, u "java/lang/CharSequence"), (42, .class_ 48), (0, u "java/lang/CharSequence$1CodePointIterator"), (10, .class_ 60), (0, u "java/lang/CharSequence$1CharIterator"), (5, .class_ 67), (0, u "java/lang/Object")] 63

/-- java/lang/CharSequence -/
def k11 : Class := { plain "java/lang/CharSequence" (some 0) with
  accessFlags := 1537
  interfaces := #[]
  cf := some (fileOf pool11 2 #[.nestMembers #[47, 59]] #[] 1537 66 #[] #[])
  fields := #[]
  methods := #[]
  instanceTypes := #[]
  staticTypes := #[]
  resolved := Array.replicate 131 none
  statics := none }

def pool12 : Array CpInfo := pool [(1, .class_ 2), (0, u "java/lang/String"), (0, .methodref 4 5), (0, .class_ 6), (0, .nameAndType 7 8), (0, u "java/lang/Object"), (0, u "<init>"), (0, u "()V"), (1, .class_ 12), (1, u "java/lang/AbstractStringBuilder"), (0, u "EMPTYVALUE"), (0, u "[B"), (0, .fieldref 10 16), (0, .nameAndType 17 14), (0, u "value"), (0, .fieldref 1 19), (0, .nameAndType 20 21), (0, u "COMPACT_STRINGS"), (0, u "Z"), (0, .fieldref 10 23), (0, .nameAndType 24 25), (0, u "coder"), (0, u "B"), (6, .methodref 1 33), (0, .nameAndType 34 35), (0, u "length"), (0, u "()I"), (0, .class_ 37), (0, u "java/lang/Integer"), (1, .integer 2147483647), (0, .methodref 1 41), (0, .nameAndType 24 42), (0, u "()B"), (2, u "append"), (0, u "(Ljava/lang/String;)Ljava/lang/AbstractStringBuilder;"), (1, .class_ 49), (0, u "java/lang/CharSequence"), (19, u "(Ljava/lang/String;)V"), (5, u "maybeLatin1"), (3, .fieldref 10 80), (0, .nameAndType 81 82), (0, u "count"), (0, u "I"), (0, .methodref 10 84), (0, .nameAndType 85 86), (0, u "isLatin1"), (0, u "()Z"), (13, .methodref 10 101), (0, .nameAndType 102 103), (0, u "ensureCapacityInternal"), (0, u "(I)V"), (0, .methodref 10 105), (0, .nameAndType 106 107), (0, u "newCapacity"), (0, u "(I)I"), (0, .methodref 109 110), (0, .class_ 111), (0, .nameAndType 112 113), (0, u "java/util/Arrays"), (0, u "copyOf"), (0, u "([BI)[B"), (0, .methodref 115 116), (0, .class_ 117), (0, .nameAndType 118 119), (0, u "jdk/internal/util/ArraysSupport"), (0, u "newLength"), (0, u "(III)I"), (68, u "getChars"), (19, .methodref 10 209), (0, .nameAndType 210 211), (0, u "putStringAt"), (0, u "(ILjava/lang/String;)V"), (5, u "inflateIfNeededFor"), (2, .nameAndType 221 222), (0, u "getBytes"), (0, u "([BIB)V"), (22, .methodref 36 246), (0, .nameAndType 247 107), (0, u "stringSize"), (0, .methodref 36 249), (0, .nameAndType 188 250), (0, u "(II[B)I"), (146, .methodref 10 398), (0, .nameAndType 217 69), (0, .methodref 1 220), (3, u "()[B"), (40, .class_ 445), (0, u "java/lang/Appendable"), (65, u "(I)Ljava/lang/AbstractStringBuilder;"), (40, u "getValue")] 56

def k12m0 : Method := { name := "<init>", desc := "()V", sig := { parameters := [], returnType := none }, accessFlags := 0, code := none }
def k12c1 : Code := { maxStack := 2, maxLocals := 2, code := jdk_68_method_2_code, exceptionTable := #[], attributes := #[] }
def k12m1 : Method := { name := "<init>", desc := "(I)V", sig := { parameters := [.int], returnType := none }, accessFlags := 0, code := some k12c1 }
def k12c2 : Code := { maxStack := 1, maxLocals := 1, code := jdk_68_method_6_code, exceptionTable := #[], attributes := #[] }
def k12m2 : Method := { name := "length", desc := "()I", sig := { parameters := [], returnType := some .int }, accessFlags := 1, code := some k12c2 }
def k12c3 : Code := { maxStack := 4, maxLocals := 3, code := jdk_68_method_9_code, exceptionTable := #[], attributes := #[] }
def k12m3 : Method := { name := "ensureCapacityInternal", desc := "(I)V", sig := { parameters := [.int], returnType := none }, accessFlags := 2, code := some k12c3 }
def k12c4 : Code := { maxStack := 5, maxLocals := 6, code := jdk_68_method_10_code, exceptionTable := #[], attributes := #[] }
def k12m4 : Method := { name := "newCapacity", desc := "(I)I", sig := { parameters := [.int], returnType := some .int }, accessFlags := 2, code := some k12c4 }
def k12c5 : Code := { maxStack := 3, maxLocals := 3, code := jdk_68_method_22_code, exceptionTable := #[], attributes := #[] }
def k12m5 : Method := { name := "append", desc := "(Ljava/lang/String;)Ljava/lang/AbstractStringBuilder;", sig := { parameters := [(.object "java/lang/String")], returnType := some (.object "java/lang/AbstractStringBuilder") }, accessFlags := 1, code := some k12c5 }
def k12c6 : Code := { maxStack := 4, maxLocals := 4, code := jdk_68_method_32_code, exceptionTable := #[], attributes := #[] }
def k12m6 : Method := { name := "append", desc := "(I)Ljava/lang/AbstractStringBuilder;", sig := { parameters := [.int], returnType := some (.object "java/lang/AbstractStringBuilder") }, accessFlags := 1, code := some k12c6 }
def k12c7 : Code := { maxStack := 1, maxLocals := 1, code := jdk_68_method_64_code, exceptionTable := #[], attributes := #[] }
def k12m7 : Method := { name := "getValue", desc := "()[B", sig := { parameters := [], returnType := some (.array .byte) }, accessFlags := 16, code := some k12c7 }
def k12c8 : Code := { maxStack := 1, maxLocals := 1, code := jdk_68_method_68_code, exceptionTable := #[], attributes := #[] }
def k12m8 : Method := { name := "isLatin1", desc := "()Z", sig := { parameters := [], returnType := some .boolean }, accessFlags := 16, code := some k12c8 }
def k12c9 : Code := { maxStack := 2, maxLocals := 2, code := jdk_68_method_71_code, exceptionTable := #[], attributes := #[] }
def k12m9 : Method := { name := "inflateIfNeededFor", desc := "(Ljava/lang/String;)V", sig := { parameters := [(.object "java/lang/String")], returnType := none }, accessFlags := 2, code := some k12c9 }
def k12c10 : Code := { maxStack := 4, maxLocals := 3, code := jdk_68_method_73_code, exceptionTable := #[], attributes := #[] }
def k12m10 : Method := { name := "putStringAt", desc := "(ILjava/lang/String;)V", sig := { parameters := [.int, (.object "java/lang/String")], returnType := none }, accessFlags := 2, code := some k12c10 }
/-- java/lang/AbstractStringBuilder -/
def k12 : Class := { plain "java/lang/AbstractStringBuilder" (some 0) with
  accessFlags := 1056
  interfaces := #[10, 11]
  cf := some (fileOf pool12 10 #[] #[{ accessFlags := 0, nameIndex := 7, descriptorIndex := 8, attributes := #[] }, { accessFlags := 0, nameIndex := 7, descriptorIndex := 103, attributes := #[] }, { accessFlags := 1, nameIndex := 34, descriptorIndex := 35, attributes := #[] }, { accessFlags := 2, nameIndex := 102, descriptorIndex := 103, attributes := #[] }, { accessFlags := 2, nameIndex := 106, descriptorIndex := 107, attributes := #[] }, { accessFlags := 1, nameIndex := 45, descriptorIndex := 46, attributes := #[] }, { accessFlags := 1, nameIndex := 45, descriptorIndex := 511, attributes := #[] }, { accessFlags := 16, nameIndex := 552, descriptorIndex := 403, attributes := #[] }, { accessFlags := 16, nameIndex := 85, descriptorIndex := 86, attributes := #[] }, { accessFlags := 2, nameIndex := 217, descriptorIndex := 69, attributes := #[] }, { accessFlags := 2, nameIndex := 210, descriptorIndex := 211, attributes := #[] }] 1056 4 #[444, 48] #[{ accessFlags := 0, nameIndex := 17, descriptorIndex := 14, attributes := #[] }, { accessFlags := 0, nameIndex := 24, descriptorIndex := 25, attributes := #[] }, { accessFlags := 0, nameIndex := 75, descriptorIndex := 21, attributes := #[] }, { accessFlags := 0, nameIndex := 81, descriptorIndex := 82, attributes := #[] }, { accessFlags := 26, nameIndex := 13, descriptorIndex := 14, attributes := #[] }])
  fields := #[{ name := "value", type := (.array .byte), accessFlags := 0, slot := 0, constantValue := 0 }, { name := "coder", type := .byte, accessFlags := 0, slot := 1, constantValue := 0 }, { name := "maybeLatin1", type := .boolean, accessFlags := 0, slot := 2, constantValue := 0 }, { name := "count", type := .int, accessFlags := 0, slot := 3, constantValue := 0 }, { name := "EMPTYVALUE", type := (.array .byte), accessFlags := 26, slot := 0, constantValue := 0 }]
  methods := #[k12m0, k12m1, k12m2, k12m3, k12m4, k12m5, k12m6, k12m7, k12m8, k12m9, k12m10]
  instanceTypes := #[(.array .byte), .byte, .boolean, .int]
  staticTypes := #[(.array .byte)]
  resolved := Array.replicate 609 none
  statics := none }

def pool13 : Array CpInfo := pool [(1, .class_ 2), (0, u "java/lang/Comparable"), (0, .class_ 4), (0, u "java/lang/Object")] 7

/-- java/lang/Comparable -/
def k13 : Class := { plain "java/lang/Comparable" (some 0) with
  accessFlags := 1537
  interfaces := #[]
  cf := some (fileOf pool13 1 #[] #[] 1537 3 #[] #[])
  fields := #[]
  methods := #[]
  instanceTypes := #[]
  staticTypes := #[]
  resolved := Array.replicate 12 none
  statics := none }

def pool14 : Array CpInfo := pool [(1, .methodref 2 3), (0, .class_ 4), (0, .nameAndType 5 6), (0, u "java/lang/AbstractStringBuilder"), (0, u "<init>"), (0, u "(I)V"), (11, .class_ 20), (1, u "java/lang/String"), (3, .class_ 26), (1, u "java/lang/StringBuilder"), (0, u "append"), (0, u "(Ljava/lang/String;)Ljava/lang/StringBuilder;"), (0, .methodref 2 30), (0, .nameAndType 27 31), (0, u "(Ljava/lang/String;)Ljava/lang/AbstractStringBuilder;"), (21, .methodref 2 54), (0, .nameAndType 27 55), (0, u "(I)Ljava/lang/AbstractStringBuilder;"), (81, .methodref 18 138), (0, .nameAndType 5 139), (0, u "(Ljava/lang/StringBuilder;)V"), (5, u "()V"), (10, u "()I"), (111, u "(I)Ljava/lang/StringBuilder;"), (74, .methodref 2 344), (0, .nameAndType 345 156), (0, u "length"), (3, .class_ 350), (0, u "java/lang/Appendable"), (0, .class_ 352), (0, u "java/io/Serializable"), (0, .class_ 354), (0, u "java/lang/Comparable"), (0, .class_ 356), (0, u "java/lang/CharSequence"), (0, u "serialVersionUID"), (0, u "J"), (40, u "toString"), (0, u "()Ljava/lang/String;")] 21

def k14c0 : Code := { maxStack := 2, maxLocals := 1, code := jdk_67_method_1_code, exceptionTable := #[], attributes := #[] }
def k14m0 : Method := { name := "<init>", desc := "()V", sig := { parameters := [], returnType := none }, accessFlags := 1, code := some k14c0 }
def k14c1 : Code := { maxStack := 2, maxLocals := 2, code := jdk_67_method_7_code, exceptionTable := #[], attributes := #[] }
def k14m1 : Method := { name := "append", desc := "(Ljava/lang/String;)Ljava/lang/StringBuilder;", sig := { parameters := [(.object "java/lang/String")], returnType := some (.object "java/lang/StringBuilder") }, accessFlags := 1, code := some k14c1 }
def k14c2 : Code := { maxStack := 2, maxLocals := 2, code := jdk_67_method_15_code, exceptionTable := #[], attributes := #[] }
def k14m2 : Method := { name := "append", desc := "(I)Ljava/lang/StringBuilder;", sig := { parameters := [.int], returnType := some (.object "java/lang/StringBuilder") }, accessFlags := 1, code := some k14c2 }
def k14c3 : Code := { maxStack := 3, maxLocals := 1, code := jdk_67_method_42_code, exceptionTable := #[], attributes := #[] }
def k14m3 : Method := { name := "toString", desc := "()Ljava/lang/String;", sig := { parameters := [], returnType := some (.object "java/lang/String") }, accessFlags := 1, code := some k14c3 }
def k14c4 : Code := { maxStack := 1, maxLocals := 1, code := jdk_67_method_93_code, exceptionTable := #[], attributes := #[] }
def k14m4 : Method := { name := "length", desc := "()I", sig := { parameters := [], returnType := some .int }, accessFlags := 4161, code := some k14c4 }
/-- java/lang/StringBuilder -/
def k14 : Class := { plain "java/lang/StringBuilder" (some 12) with
  accessFlags := 49
  interfaces := #[10, 5, 13, 11]
  cf := some (fileOf pool14 24 #[] #[{ accessFlags := 1, nameIndex := 5, descriptorIndex := 145, attributes := #[] }, { accessFlags := 1, nameIndex := 27, descriptorIndex := 28, attributes := #[] }, { accessFlags := 1, nameIndex := 27, descriptorIndex := 268, attributes := #[] }, { accessFlags := 1, nameIndex := 399, descriptorIndex := 400, attributes := #[] }, { accessFlags := 4161, nameIndex := 345, descriptorIndex := 156, attributes := #[] }] 49 2 #[349, 351, 353, 355] #[{ accessFlags := 24, nameIndex := 357, descriptorIndex := 358, attributes := #[] }])
  fields := #[{ name := "serialVersionUID", type := .long, accessFlags := 24, slot := 0, constantValue := 0 }]
  methods := #[k14m0, k14m1, k14m2, k14m3, k14m4]
  instanceTypes := #[(.array .byte), .byte, .boolean, .int]
  staticTypes := #[.long]
  resolved := Array.replicate 422 none
  statics := none }

def pool15 : Array CpInfo := pool [(1, .class_ 2), (0, u "java/lang/constant/Constable"), (0, .class_ 4), (0, u "java/lang/Object")] 6

/-- java/lang/constant/Constable -/
def k15 : Class := { plain "java/lang/constant/Constable" (some 0) with
  accessFlags := 1537
  interfaces := #[]
  cf := some (fileOf pool15 1 #[] #[] 1537 3 #[] #[])
  fields := #[]
  methods := #[]
  instanceTypes := #[]
  staticTypes := #[]
  resolved := Array.replicate 11 none
  statics := none }

def pool16 : Array CpInfo := pool [(1, .class_ 2), (0, u "java/lang/constant/ConstantDesc"), (0, .class_ 4), (0, u "java/lang/Object")] 32

/-- java/lang/constant/ConstantDesc -/
def k16 : Class := { plain "java/lang/constant/ConstantDesc" (some 0) with
  accessFlags := 1537
  interfaces := #[]
  cf := some (fileOf pool16 1 #[] #[] 1537 3 #[] #[])
  fields := #[]
  methods := #[]
  instanceTypes := #[]
  staticTypes := #[]
  resolved := Array.replicate 37 none
  statics := none }

def pool17 : Array CpInfo := pool [(1, .methodref 2 3), (0, .class_ 4), (0, .nameAndType 5 6), (0, u "java/lang/Object"), (0, u "<init>"), (0, u "()V"), (2, .fieldref 10 11), (0, .class_ 12), (0, .nameAndType 13 14), (0, u "java/lang/String"), (0, u "value"), (0, u "[B"), (0, .fieldref 10 16), (0, .nameAndType 17 18), (0, u "coder"), (0, u "B"), (2, u "hash"), (0, u "I"), (2, u "hashIsZero"), (0, u "Z"), (11, .fieldref 10 39), (0, .nameAndType 40 26), (0, u "COMPACT_STRINGS"), (13, .methodref 55 56), (0, .class_ 57), (0, .nameAndType 58 59), (0, u "java/util/Arrays"), (0, u "copyOfRange"), (0, u "([BII)[B"), (82, u "()Z"), (50, .class_ 195), (1, u "java/lang/System"), (16, .methodref 193 213), (0, .nameAndType 214 215), (0, u "arraycopy"), (0, u "(Ljava/lang/Object;ILjava/lang/Object;II)V"), (118, u "()I"), (0, .methodref 10 336), (0, .nameAndType 17 337), (0, u "()B"), (2, u "()[B"), (148, .methodref 10 490), (0, .nameAndType 5 491), (0, u "(Ljava/lang/AbstractStringBuilder;Ljava/lang/Void;)V"), (1, .nameAndType 494 142), (0, u "isLatin1"), (11, .nameAndType 507 334), (0, u "length"), (24, u "getBytes"), (16, .methodref 550 506), (0, .class_ 551), (0, u "java/lang/AbstractStringBuilder"), (0, .methodref 550 553), (0, .nameAndType 554 340), (0, u "getValue"), (20, .class_ 576), (0, u "java/lang/CharSequence"), (22, u "CASE_INSENSITIVE_ORDER"), (0, u "Ljava/util/Comparator;"), (220, u "([BIB)V"), (225, .methodref 550 493), (53, u "serialPersistentFields"), (0, u "[Ljava/io/ObjectStreamField;"), (0, .class_ 1104), (0, u "java/lang/String$CaseInsensitiveComparator"), (1, .class_ 1107), (0, u "java/io/Serializable"), (0, .class_ 1109), (0, u "java/lang/Comparable"), (0, .class_ 1111), (0, u "java/lang/constant/Constable"), (0, .class_ 1113), (0, u "java/lang/constant/ConstantDesc"), (2, u "serialVersionUID"), (0, u "J"), (3, u "REPL"), (0, u "C"), (2, u "LATIN1"), (1, u "UTF16"), (105, u "(Ljava/lang/StringBuilder;)V")] 217

def k17m0 : Method := { name := "<init>", desc := "()V", sig := { parameters := [], returnType := none }, accessFlags := 1, code := none }
def k17c1 : Code := { maxStack := 3, maxLocals := 2, code := jdk_42_method_53_code, exceptionTable := #[], attributes := #[] }
def k17m1 : Method := { name := "<init>", desc := "(Ljava/lang/StringBuilder;)V", sig := { parameters := [(.object "java/lang/StringBuilder")], returnType := none }, accessFlags := 1, code := some k17c1 }
def k17c2 : Code := { maxStack := 2, maxLocals := 1, code := jdk_42_method_54_code, exceptionTable := #[], attributes := #[] }
def k17m2 : Method := { name := "length", desc := "()I", sig := { parameters := [], returnType := some .int }, accessFlags := 1, code := some k17c2 }
def k17c3 : Code := { maxStack := 5, maxLocals := 4, code := jdk_42_method_147_code, exceptionTable := #[], attributes := #[] }
def k17m3 : Method := { name := "getBytes", desc := "([BIB)V", sig := { parameters := [(.array .byte), .int, .byte], returnType := none }, accessFlags := 0, code := some k17c3 }
def k17c4 : Code := { maxStack := 5, maxLocals := 5, code := jdk_42_method_150_code, exceptionTable := #[], attributes := #[] }
def k17m4 : Method := { name := "<init>", desc := "(Ljava/lang/AbstractStringBuilder;Ljava/lang/Void;)V", sig := { parameters := [(.object "java/lang/AbstractStringBuilder"), (.object "java/lang/Void")], returnType := none }, accessFlags := 0, code := some k17c4 }
def k17c5 : Code := { maxStack := 1, maxLocals := 1, code := jdk_42_method_152_code, exceptionTable := #[], attributes := #[] }
def k17m5 : Method := { name := "coder", desc := "()B", sig := { parameters := [], returnType := some .byte }, accessFlags := 0, code := some k17c5 }
/-- java/lang/String -/
def k17 : Class := { plain "java/lang/String" (some 0) with
  accessFlags := 49
  interfaces := #[5, 13, 11, 15, 16]
  cf := some (fileOf pool17 10 #[.nestMembers #[1103]] #[{ accessFlags := 1, nameIndex := 5, descriptorIndex := 6, attributes := #[] }, { accessFlags := 1, nameIndex := 5, descriptorIndex := 1233, attributes := #[] }, { accessFlags := 1, nameIndex := 507, descriptorIndex := 334, attributes := #[] }, { accessFlags := 0, nameIndex := 532, descriptorIndex := 821, attributes := #[] }, { accessFlags := 0, nameIndex := 5, descriptorIndex := 491, attributes := #[] }, { accessFlags := 0, nameIndex := 17, descriptorIndex := 337, attributes := #[] }] 49 2 #[1106, 1108, 575, 1110, 1112] #[{ accessFlags := 18, nameIndex := 13, descriptorIndex := 14, attributes := #[] }, { accessFlags := 18, nameIndex := 17, descriptorIndex := 18, attributes := #[] }, { accessFlags := 2, nameIndex := 21, descriptorIndex := 22, attributes := #[] }, { accessFlags := 2, nameIndex := 25, descriptorIndex := 26, attributes := #[] }, { accessFlags := 26, nameIndex := 1116, descriptorIndex := 1117, attributes := #[] }, { accessFlags := 24, nameIndex := 40, descriptorIndex := 26, attributes := #[] }, { accessFlags := 26, nameIndex := 1101, descriptorIndex := 1102, attributes := #[] }, { accessFlags := 26, nameIndex := 1121, descriptorIndex := 1122, attributes := #[] }, { accessFlags := 25, nameIndex := 599, descriptorIndex := 600, attributes := #[] }, { accessFlags := 24, nameIndex := 1125, descriptorIndex := 18, attributes := #[] }, { accessFlags := 24, nameIndex := 1127, descriptorIndex := 18, attributes := #[] }])
  fields := #[{ name := "value", type := (.array .byte), accessFlags := 18, slot := 0, constantValue := 0 }, { name := "coder", type := .byte, accessFlags := 18, slot := 1, constantValue := 0 }, { name := "hash", type := .int, accessFlags := 2, slot := 2, constantValue := 0 }, { name := "hashIsZero", type := .boolean, accessFlags := 2, slot := 3, constantValue := 0 }, { name := "serialVersionUID", type := .long, accessFlags := 26, slot := 0, constantValue := 0 }, { name := "COMPACT_STRINGS", type := .boolean, accessFlags := 24, slot := 1, constantValue := 0 }, { name := "serialPersistentFields", type := (.array (.object "java/io/ObjectStreamField")), accessFlags := 26, slot := 2, constantValue := 0 }, { name := "REPL", type := .char, accessFlags := 26, slot := 3, constantValue := 0 }, { name := "CASE_INSENSITIVE_ORDER", type := (.object "java/util/Comparator"), accessFlags := 25, slot := 4, constantValue := 0 }, { name := "LATIN1", type := .byte, accessFlags := 24, slot := 5, constantValue := 0 }, { name := "UTF16", type := .byte, accessFlags := 24, slot := 6, constantValue := 0 }]
  methods := #[k17m0, k17m1, k17m2, k17m3, k17m4, k17m5]
  instanceTypes := #[(.array .byte), .byte, .int, .boolean]
  staticTypes := #[.long, .boolean, (.array (.object "java/io/ObjectStreamField")), .char, (.object "java/util/Comparator"), .byte, .byte]
  resolved := Array.replicate 1451 none
  statics := some 1 }

def pool18 : Array CpInfo := pool [(2, .class_ 4), (1, u "java/lang/Object"), (0, u "<init>"), (0, u "()V"), (1, .class_ 10), (1, u "java/lang/System"), (0, u "allowSecurityManager"), (0, u "I"), (16, u "cons"), (0, u "Ljava/io/Console;"), (77, .class_ 110), (1, u "java/lang/System$CallersHolder"), (43, u "initialErrStream"), (0, u "Ljava/io/PrintStream;"), (19, u "security"), (0, u "Ljava/lang/SecurityManager;"), (31, .class_ 209), (0, u "java/lang/System$1"), (7, u "props"), (0, u "Ljava/util/Properties;"), (2, u "lineSeparator"), (0, u "Ljava/lang/String;"), (96, .class_ 321), (1, u "java/lang/System$LoggerFinder"), (5, .class_ 328), (0, u "java/lang/System$Logger"), (67, u "err"), (2, u "out"), (91, u "notSupportedJnuEncoding"), (15, u "in"), (17, u "initialIn"), (0, u "Ljava/io/InputStream;"), (35, u "bootLayer"), (0, u "Ljava/lang/ModuleLayer;"), (99, .class_ 664), (0, u "java/lang/System$2"), (9, u "NEVER"), (2, u "MAYBE"), (49, u "arraycopy"), (0, u "(Ljava/lang/Object;ILjava/lang/Object;II)V"), (72, .class_ 802), (0, u "java/lang/System$Logger$Level")] 31

def k18m0 : Method := { name := "<init>", desc := "()V", sig := { parameters := [], returnType := none }, accessFlags := 2, code := none }
def k18m1 : Method := { name := "arraycopy", desc := "(Ljava/lang/Object;ILjava/lang/Object;II)V", sig := { parameters := [(.object "java/lang/Object"), .int, (.object "java/lang/Object"), .int, .int], returnType := none }, accessFlags := 265, code := none }
/-- java/lang/System -/
def k18 : Class := { plain "java/lang/System" (some 0) with
  accessFlags := 49
  interfaces := #[]
  cf := some (fileOf pool18 8 #[.nestMembers #[319, 327, 801, 108, 663, 208]] #[{ accessFlags := 2, nameIndex := 5, descriptorIndex := 6, attributes := #[] }, { accessFlags := 265, nameIndex := 727, descriptorIndex := 728, attributes := #[] }] 49 2 #[] #[{ accessFlags := 25, nameIndex := 507, descriptorIndex := 526, attributes := #[] }, { accessFlags := 25, nameIndex := 399, descriptorIndex := 155, attributes := #[] }, { accessFlags := 25, nameIndex := 396, descriptorIndex := 155, attributes := #[] }, { accessFlags := 10, nameIndex := 525, descriptorIndex := 526, attributes := #[] }, { accessFlags := 26, nameIndex := 674, descriptorIndex := 12, attributes := #[] }, { accessFlags := 26, nameIndex := 677, descriptorIndex := 12, attributes := #[] }, { accessFlags := 10, nameIndex := 11, descriptorIndex := 12, attributes := #[] }, { accessFlags := 74, nameIndex := 175, descriptorIndex := 176, attributes := #[] }, { accessFlags := 10, nameIndex := 491, descriptorIndex := 222, attributes := #[] }, { accessFlags := 74, nameIndex := 29, descriptorIndex := 30, attributes := #[] }, { accessFlags := 74, nameIndex := 154, descriptorIndex := 155, attributes := #[] }, { accessFlags := 10, nameIndex := 217, descriptorIndex := 218, attributes := #[] }, { accessFlags := 10, nameIndex := 221, descriptorIndex := 222, attributes := #[] }, { accessFlags := 8, nameIndex := 562, descriptorIndex := 563, attributes := #[] }])
  fields := #[{ name := "in", type := (.object "java/io/InputStream"), accessFlags := 25, slot := 0, constantValue := 0 }, { name := "out", type := (.object "java/io/PrintStream"), accessFlags := 25, slot := 1, constantValue := 0 }, { name := "err", type := (.object "java/io/PrintStream"), accessFlags := 25, slot := 2, constantValue := 0 }, { name := "initialIn", type := (.object "java/io/InputStream"), accessFlags := 10, slot := 3, constantValue := 0 }, { name := "NEVER", type := .int, accessFlags := 26, slot := 4, constantValue := 0 }, { name := "MAYBE", type := .int, accessFlags := 26, slot := 5, constantValue := 0 }, { name := "allowSecurityManager", type := .int, accessFlags := 10, slot := 6, constantValue := 0 }, { name := "security", type := (.object "java/lang/SecurityManager"), accessFlags := 74, slot := 7, constantValue := 0 }, { name := "notSupportedJnuEncoding", type := (.object "java/lang/String"), accessFlags := 10, slot := 8, constantValue := 0 }, { name := "cons", type := (.object "java/io/Console"), accessFlags := 74, slot := 9, constantValue := 0 }, { name := "initialErrStream", type := (.object "java/io/PrintStream"), accessFlags := 74, slot := 10, constantValue := 0 }, { name := "props", type := (.object "java/util/Properties"), accessFlags := 10, slot := 11, constantValue := 0 }, { name := "lineSeparator", type := (.object "java/lang/String"), accessFlags := 10, slot := 12, constantValue := 0 }, { name := "bootLayer", type := (.object "java/lang/ModuleLayer"), accessFlags := 8, slot := 13, constantValue := 0 }]
  methods := #[k18m0, k18m1]
  instanceTypes := #[]
  staticTypes := #[(.object "java/io/InputStream"), (.object "java/io/PrintStream"), (.object "java/io/PrintStream"), (.object "java/io/InputStream"), .int, .int, .int, (.object "java/lang/SecurityManager"), (.object "java/lang/String"), (.object "java/io/Console"), (.object "java/io/PrintStream"), (.object "java/util/Properties"), (.object "java/lang/String"), (.object "java/lang/ModuleLayer")]
  resolved := Array.replicate 834 none
  statics := none }

def pool19 : Array CpInfo := pool [(2, .class_ 4), (1, u "java/lang/Object"), (0, u "<init>"), (0, u "()V"), (1, .class_ 10), (1, u "java/lang/Number"), (2, .class_ 14), (0, u "java/io/Serializable"), (0, u "serialVersionUID"), (0, u "J")] 20

def k19m0 : Method := { name := "<init>", desc := "()V", sig := { parameters := [], returnType := none }, accessFlags := 1, code := none }
/-- java/lang/Number -/
def k19 : Class := { plain "java/lang/Number" (some 0) with
  accessFlags := 1057
  interfaces := #[5]
  cf := some (fileOf pool19 8 #[] #[{ accessFlags := 1, nameIndex := 5, descriptorIndex := 6, attributes := #[] }] 1057 2 #[13] #[{ accessFlags := 26, nameIndex := 15, descriptorIndex := 16, attributes := #[] }])
  fields := #[{ name := "serialVersionUID", type := .long, accessFlags := 26, slot := 0, constantValue := 0 }]
  methods := #[k19m0]
  instanceTypes := #[]
  staticTypes := #[.long]
  resolved := Array.replicate 37 none
  statics := none }

def pool20 : Array CpInfo := pool [(1, .class_ 2), (0, u "java/lang/Integer"), (16, u "digits"), (0, u "[C"), (33, u "(I)I"), (19, u "stringSize"), (2, u "getChars"), (0, u "(II[B)I"), (4, .fieldref 1 84), (0, .nameAndType 85 86), (0, u "DigitOnes"), (0, u "[B"), (0, .fieldref 1 88), (0, .nameAndType 89 86), (0, u "DigitTens"), (99, .class_ 190), (0, u "java/lang/Integer$IntegerCache"), (3, u "I"), (8, .class_ 204), (0, u "java/lang/Number"), (2, u "value"), (94, u "TYPE"), (0, u "Ljava/lang/Class;"), (0, .class_ 305), (0, u "java/lang/Comparable"), (0, .class_ 307), (0, u "java/lang/constant/Constable"), (0, .class_ 309), (0, u "java/lang/constant/ConstantDesc"), (0, u "MIN_VALUE"), (1, u "MAX_VALUE"), (3, u "SIZE"), (1, u "BYTES"), (1, u "serialVersionUID"), (0, u "J")] 131

def k20c0 : Code := { maxStack := 4, maxLocals := 7, code := jdk_33_method_12_code, exceptionTable := #[], attributes := #[] }
def k20m0 : Method := { name := "getChars", desc := "(II[B)I", sig := { parameters := [.int, .int, (.array .byte)], returnType := some .int }, accessFlags := 8, code := some k20c0 }
def k20c1 : Code := { maxStack := 2, maxLocals := 4, code := jdk_33_method_13_code, exceptionTable := #[], attributes := #[] }
def k20m1 : Method := { name := "stringSize", desc := "(I)I", sig := { parameters := [.int], returnType := some .int }, accessFlags := 8, code := some k20c1 }
/-- java/lang/Integer -/
def k20 : Class := { plain "java/lang/Integer" (some 19) with
  accessFlags := 49
  interfaces := #[13, 15, 16]
  cf := some (fileOf pool20 1 #[.nestMembers #[189]] #[{ accessFlags := 8, nameIndex := 77, descriptorIndex := 78, attributes := #[] }, { accessFlags := 8, nameIndex := 74, descriptorIndex := 54, attributes := #[] }] 49 203 #[304, 306, 308] #[{ accessFlags := 25, nameIndex := 310, descriptorIndex := 194, attributes := #[] }, { accessFlags := 25, nameIndex := 312, descriptorIndex := 194, attributes := #[] }, { accessFlags := 25, nameIndex := 302, descriptorIndex := 303, attributes := #[] }, { accessFlags := 24, nameIndex := 19, descriptorIndex := 20, attributes := #[] }, { accessFlags := 24, nameIndex := 89, descriptorIndex := 86, attributes := #[] }, { accessFlags := 24, nameIndex := 85, descriptorIndex := 86, attributes := #[] }, { accessFlags := 18, nameIndex := 207, descriptorIndex := 194, attributes := #[] }, { accessFlags := 25, nameIndex := 316, descriptorIndex := 194, attributes := #[] }, { accessFlags := 25, nameIndex := 318, descriptorIndex := 194, attributes := #[] }, { accessFlags := 26, nameIndex := 320, descriptorIndex := 321, attributes := #[] }])
  fields := #[{ name := "MIN_VALUE", type := .int, accessFlags := 25, slot := 0, constantValue := 0 }, { name := "MAX_VALUE", type := .int, accessFlags := 25, slot := 1, constantValue := 0 }, { name := "TYPE", type := (.object "java/lang/Class"), accessFlags := 25, slot := 2, constantValue := 0 }, { name := "digits", type := (.array .char), accessFlags := 24, slot := 3, constantValue := 0 }, { name := "DigitTens", type := (.array .byte), accessFlags := 24, slot := 4, constantValue := 0 }, { name := "DigitOnes", type := (.array .byte), accessFlags := 24, slot := 5, constantValue := 0 }, { name := "value", type := .int, accessFlags := 18, slot := 0, constantValue := 0 }, { name := "SIZE", type := .int, accessFlags := 25, slot := 6, constantValue := 0 }, { name := "BYTES", type := .int, accessFlags := 25, slot := 7, constantValue := 0 }, { name := "serialVersionUID", type := .long, accessFlags := 26, slot := 8, constantValue := 0 }]
  methods := #[k20m0, k20m1]
  instanceTypes := #[.int]
  staticTypes := #[.int, .int, (.object "java/lang/Class"), (.array .char), (.array .byte), (.array .byte), .int, .int, .long]
  resolved := Array.replicate 453 none
  statics := some 2 }

def pool21 : Array CpInfo := pool [(9, u "<init>"), (6, .class_ 18), (1, u "java/lang/Object"), (0, u "()V"), (1, .class_ 23), (1, u "jdk/internal/util/ArraysSupport"), (0, u "LOG2_ARRAY_LONG_INDEX_SCALE"), (0, u "I"), (2, u "U"), (0, u "Ljdk/internal/misc/Unsafe;"), (8, u "BIG_ENDIAN"), (0, u "Z"), (8, u "LOG2_BYTE_BIT_SIZE"), (4, u "LOG2_ARRAY_INT_INDEX_SCALE"), (54, u "JLA"), (0, u "Ljdk/internal/access/JavaLangAccess;"), (11, u "LOG2_ARRAY_BOOLEAN_INDEX_SCALE"), (9, u "LOG2_ARRAY_BYTE_INDEX_SCALE"), (5, u "LOG2_ARRAY_CHAR_INDEX_SCALE"), (5, u "LOG2_ARRAY_SHORT_INDEX_SCALE"), (18, u "LOG2_ARRAY_FLOAT_INDEX_SCALE"), (24, u "LOG2_ARRAY_DOUBLE_INDEX_SCALE"), (6, .methodref 195 196), (0, .class_ 197), (0, .nameAndType 198 199), (0, u "java/lang/Math"), (0, u "max"), (0, u "(II)I"), (0, .integer 2147483639), (76, u "T_BOOLEAN"), (2, u "T_CHAR"), (1, u "T_FLOAT"), (1, u "T_DOUBLE"), (1, u "T_BYTE"), (1, u "T_SHORT"), (1, u "T_INT"), (1, u "T_LONG"), (1, u "SOFT_MAX_ARRAY_LENGTH"), (56, u "newLength"), (0, u "(III)I")] 25

def k21m0 : Method := { name := "<init>", desc := "()V", sig := { parameters := [], returnType := none }, accessFlags := 2, code := none }
def k21c1 : Code := { maxStack := 3, maxLocals := 4, code := jdk_48_method_27_code, exceptionTable := #[], attributes := #[] }
def k21m1 : Method := { name := "newLength", desc := "(III)I", sig := { parameters := [.int, .int, .int], returnType := some .int }, accessFlags := 9, code := some k21c1 }
/-- jdk/internal/util/ArraysSupport -/
def k21 : Class := { plain "jdk/internal/util/ArraysSupport" (some 0) with
  accessFlags := 33
  interfaces := #[]
  cf := some (fileOf pool21 21 #[] #[{ accessFlags := 2, nameIndex := 9, descriptorIndex := 19, attributes := #[] }, { accessFlags := 9, nameIndex := 351, descriptorIndex := 352, attributes := #[] }] 33 16 #[] #[{ accessFlags := 24, nameIndex := 28, descriptorIndex := 29, attributes := #[] }, { accessFlags := 26, nameIndex := 38, descriptorIndex := 39, attributes := #[] }, { accessFlags := 25, nameIndex := 121, descriptorIndex := 25, attributes := #[] }, { accessFlags := 25, nameIndex := 131, descriptorIndex := 25, attributes := #[] }, { accessFlags := 25, nameIndex := 137, descriptorIndex := 25, attributes := #[] }, { accessFlags := 25, nameIndex := 143, descriptorIndex := 25, attributes := #[] }, { accessFlags := 25, nameIndex := 53, descriptorIndex := 25, attributes := #[] }, { accessFlags := 25, nameIndex := 24, descriptorIndex := 25, attributes := #[] }, { accessFlags := 25, nameIndex := 162, descriptorIndex := 25, attributes := #[] }, { accessFlags := 25, nameIndex := 187, descriptorIndex := 25, attributes := #[] }, { accessFlags := 26, nameIndex := 48, descriptorIndex := 25, attributes := #[] }, { accessFlags := 25, nameIndex := 277, descriptorIndex := 25, attributes := #[] }, { accessFlags := 25, nameIndex := 280, descriptorIndex := 25, attributes := #[] }, { accessFlags := 25, nameIndex := 282, descriptorIndex := 25, attributes := #[] }, { accessFlags := 25, nameIndex := 284, descriptorIndex := 25, attributes := #[] }, { accessFlags := 25, nameIndex := 286, descriptorIndex := 25, attributes := #[] }, { accessFlags := 25, nameIndex := 288, descriptorIndex := 25, attributes := #[] }, { accessFlags := 25, nameIndex := 290, descriptorIndex := 25, attributes := #[] }, { accessFlags := 25, nameIndex := 292, descriptorIndex := 25, attributes := #[] }, { accessFlags := 26, nameIndex := 108, descriptorIndex := 109, attributes := #[] }, { accessFlags := 25, nameIndex := 294, descriptorIndex := 25, attributes := #[] }])
  fields := #[{ name := "U", type := (.object "jdk/internal/misc/Unsafe"), accessFlags := 24, slot := 0, constantValue := 0 }, { name := "BIG_ENDIAN", type := .boolean, accessFlags := 26, slot := 1, constantValue := 0 }, { name := "LOG2_ARRAY_BOOLEAN_INDEX_SCALE", type := .int, accessFlags := 25, slot := 2, constantValue := 0 }, { name := "LOG2_ARRAY_BYTE_INDEX_SCALE", type := .int, accessFlags := 25, slot := 3, constantValue := 0 }, { name := "LOG2_ARRAY_CHAR_INDEX_SCALE", type := .int, accessFlags := 25, slot := 4, constantValue := 0 }, { name := "LOG2_ARRAY_SHORT_INDEX_SCALE", type := .int, accessFlags := 25, slot := 5, constantValue := 0 }, { name := "LOG2_ARRAY_INT_INDEX_SCALE", type := .int, accessFlags := 25, slot := 6, constantValue := 0 }, { name := "LOG2_ARRAY_LONG_INDEX_SCALE", type := .int, accessFlags := 25, slot := 7, constantValue := 0 }, { name := "LOG2_ARRAY_FLOAT_INDEX_SCALE", type := .int, accessFlags := 25, slot := 8, constantValue := 0 }, { name := "LOG2_ARRAY_DOUBLE_INDEX_SCALE", type := .int, accessFlags := 25, slot := 9, constantValue := 0 }, { name := "LOG2_BYTE_BIT_SIZE", type := .int, accessFlags := 26, slot := 10, constantValue := 0 }, { name := "T_BOOLEAN", type := .int, accessFlags := 25, slot := 11, constantValue := 0 }, { name := "T_CHAR", type := .int, accessFlags := 25, slot := 12, constantValue := 0 }, { name := "T_FLOAT", type := .int, accessFlags := 25, slot := 13, constantValue := 0 }, { name := "T_DOUBLE", type := .int, accessFlags := 25, slot := 14, constantValue := 0 }, { name := "T_BYTE", type := .int, accessFlags := 25, slot := 15, constantValue := 0 }, { name := "T_SHORT", type := .int, accessFlags := 25, slot := 16, constantValue := 0 }, { name := "T_INT", type := .int, accessFlags := 25, slot := 17, constantValue := 0 }, { name := "T_LONG", type := .int, accessFlags := 25, slot := 18, constantValue := 0 }, { name := "JLA", type := (.object "jdk/internal/access/JavaLangAccess"), accessFlags := 26, slot := 19, constantValue := 0 }, { name := "SOFT_MAX_ARRAY_LENGTH", type := .int, accessFlags := 25, slot := 20, constantValue := 0 }]
  methods := #[k21m0, k21m1]
  instanceTypes := #[]
  staticTypes := #[(.object "jdk/internal/misc/Unsafe"), .boolean, .int, .int, .int, .int, .int, .int, .int, .int, .int, .int, .int, .int, .int, .int, .int, .int, .int, (.object "jdk/internal/access/JavaLangAccess"), .int]
  resolved := Array.replicate 378 none
  statics := none }

def pool22 : Array CpInfo := pool [(1, .class_ 2), (0, u "java/lang/Math"), (1, .class_ 6), (1, u "java/lang/Object"), (0, u "<init>"), (0, u "()V"), (89, .class_ 100), (1, u "java/lang/Math$RandomNumberGeneratorHolder"), (71, u "negativeZeroFloatBits"), (0, u "J"), (2, u "negativeZeroDoubleBits"), (21, u "max"), (2, u "min"), (43, u "$assertionsDisabled"), (0, u "Z"), (88, u "(II)I"), (2, u "twoToTheDoubleScaleDown"), (0, u "D"), (4, u "twoToTheDoubleScaleUp"), (9, u "E"), (3, u "PI"), (2, u "TAU"), (2, u "DEGREES_TO_RADIANS"), (0, u "RADIANS_TO_DEGREES")] 94

def k22m0 : Method := { name := "<init>", desc := "()V", sig := { parameters := [], returnType := none }, accessFlags := 2, code := none }
def k22c1 : Code := { maxStack := 2, maxLocals := 2, code := jdk_29_method_65_code, exceptionTable := #[], attributes := #[] }
def k22m1 : Method := { name := "max", desc := "(II)I", sig := { parameters := [.int, .int], returnType := some .int }, accessFlags := 9, code := some k22c1 }
def k22c2 : Code := { maxStack := 2, maxLocals := 2, code := jdk_29_method_69_code, exceptionTable := #[], attributes := #[] }
def k22m2 : Method := { name := "min", desc := "(II)I", sig := { parameters := [.int, .int], returnType := some .int }, accessFlags := 9, code := some k22c2 }
/-- java/lang/Math -/
def k22 : Class := { plain "java/lang/Math" (some 0) with
  accessFlags := 49
  interfaces := #[]
  cf := some (fileOf pool22 1 #[.nestMembers #[98]] #[{ accessFlags := 2, nameIndex := 7, descriptorIndex := 8, attributes := #[] }, { accessFlags := 9, nameIndex := 198, descriptorIndex := 335, attributes := #[] }, { accessFlags := 9, nameIndex := 201, descriptorIndex := 335, attributes := #[] }] 49 4 #[] #[{ accessFlags := 25, nameIndex := 354, descriptorIndex := 339, attributes := #[] }, { accessFlags := 25, nameIndex := 358, descriptorIndex := 339, attributes := #[] }, { accessFlags := 25, nameIndex := 361, descriptorIndex := 339, attributes := #[] }, { accessFlags := 26, nameIndex := 364, descriptorIndex := 339, attributes := #[] }, { accessFlags := 26, nameIndex := 365, descriptorIndex := 339, attributes := #[] }, { accessFlags := 26, nameIndex := 172, descriptorIndex := 173, attributes := #[] }, { accessFlags := 26, nameIndex := 176, descriptorIndex := 173, attributes := #[] }, { accessFlags := 8, nameIndex := 344, descriptorIndex := 339, attributes := #[] }, { accessFlags := 8, nameIndex := 338, descriptorIndex := 339, attributes := #[] }, { accessFlags := 4120, nameIndex := 245, descriptorIndex := 246, attributes := #[] }])
  fields := #[{ name := "E", type := .double, accessFlags := 25, slot := 0, constantValue := 0 }, { name := "PI", type := .double, accessFlags := 25, slot := 1, constantValue := 0 }, { name := "TAU", type := .double, accessFlags := 25, slot := 2, constantValue := 0 }, { name := "DEGREES_TO_RADIANS", type := .double, accessFlags := 26, slot := 3, constantValue := 0 }, { name := "RADIANS_TO_DEGREES", type := .double, accessFlags := 26, slot := 4, constantValue := 0 }, { name := "negativeZeroFloatBits", type := .long, accessFlags := 26, slot := 5, constantValue := 0 }, { name := "negativeZeroDoubleBits", type := .long, accessFlags := 26, slot := 6, constantValue := 0 }, { name := "twoToTheDoubleScaleUp", type := .double, accessFlags := 8, slot := 7, constantValue := 0 }, { name := "twoToTheDoubleScaleDown", type := .double, accessFlags := 8, slot := 8, constantValue := 0 }, { name := "$assertionsDisabled", type := .boolean, accessFlags := 4120, slot := 9, constantValue := 0 }]
  methods := #[k22m0, k22m1, k22m2]
  instanceTypes := #[]
  staticTypes := #[.double, .double, .double, .double, .double, .long, .long, .double, .double, .boolean]
  resolved := Array.replicate 460 none
  statics := none }

def pool23 : Array CpInfo := pool [(2, .class_ 4), (1, u "java/lang/Object"), (0, u "<init>"), (0, u "()V"), (7, .class_ 16), (1, u "java/util/Arrays"), (57, .class_ 76), (1, u "java/util/Arrays$NaturalOrder"), (32, u "()Ljava/lang/Object;"), (3, .class_ 115), (1, u "java/util/Arrays$LegacyMergeSort"), (1, u "Z"), (10, .nameAndType 129 109), (0, u "clone"), (9, u "copyOfRange"), (10, .methodref 151 152), (0, .class_ 153), (0, .nameAndType 154 155), (0, u "java/lang/System"), (0, u "arraycopy"), (0, u "(Ljava/lang/Object;ILjava/lang/Object;II)V"), (146, u "copyOf"), (1, .methodref 305 306), (0, .class_ 307), (0, .nameAndType 308 309), (0, u "java/lang/Math"), (0, u "min"), (0, u "(II)I"), (0, .methodref 311 128), (0, .class_ 312), (0, u "[B"), (26, .methodref 14 340), (0, .nameAndType 341 342), (0, u "copyOfRangeByte"), (0, u "([BII)[B"), (0, .methodref 14 344), (0, .nameAndType 345 346), (0, u "checkLength"), (0, u "(II)V"), (28, .class_ 376), (0, u "java/util/Arrays$ArrayList"), (68, u "$assertionsDisabled"), (269, u "MIN_ARRAY_SORT_GRAN"), (0, u "I"), (2, u "INSERTIONSORT_THRESHOLD"), (149, u "([BI)[B"), (105, .class_ 976), (0, u "java/util/Arrays$ArrayItr")] 52

def k23m0 : Method := { name := "<init>", desc := "()V", sig := { parameters := [], returnType := none }, accessFlags := 2, code := none }
def k23c1 : Code := { maxStack := 6, maxLocals := 3, code := jdk_65_method_121_code, exceptionTable := #[], attributes := #[] }
def k23m1 : Method := { name := "copyOf", desc := "([BI)[B", sig := { parameters := [(.array .byte), .int], returnType := some (.array .byte) }, accessFlags := 9, code := some k23c1 }
def k23c2 : Code := { maxStack := 4, maxLocals := 2, code := jdk_65_method_131_code, exceptionTable := #[], attributes := #[] }
def k23m2 : Method := { name := "checkLength", desc := "(II)V", sig := { parameters := [.int, .int], returnType := none }, accessFlags := 10, code := some k23c2 }
def k23c3 : Code := { maxStack := 3, maxLocals := 3, code := jdk_65_method_132_code, exceptionTable := #[], attributes := #[] }
def k23m3 : Method := { name := "copyOfRange", desc := "([BII)[B", sig := { parameters := [(.array .byte), .int, .int], returnType := some (.array .byte) }, accessFlags := 9, code := some k23c3 }
def k23c4 : Code := { maxStack := 6, maxLocals := 5, code := jdk_65_method_133_code, exceptionTable := #[], attributes := #[] }
def k23m4 : Method := { name := "copyOfRangeByte", desc := "([BII)[B", sig := { parameters := [(.array .byte), .int, .int], returnType := some (.array .byte) }, accessFlags := 10, code := some k23c4 }
/-- java/util/Arrays -/
def k23 : Class := { plain "java/util/Arrays" (some 0) with
  accessFlags := 49
  interfaces := #[]
  cf := some (fileOf pool23 14 #[.nestMembers #[975, 375, 113, 74]] #[{ accessFlags := 2, nameIndex := 5, descriptorIndex := 6, attributes := #[] }, { accessFlags := 9, nameIndex := 302, descriptorIndex := 869, attributes := #[] }, { accessFlags := 10, nameIndex := 345, descriptorIndex := 346, attributes := #[] }, { accessFlags := 9, nameIndex := 139, descriptorIndex := 342, attributes := #[] }, { accessFlags := 10, nameIndex := 341, descriptorIndex := 342, attributes := #[] }] 49 2 #[] #[{ accessFlags := 26, nameIndex := 715, descriptorIndex := 716, attributes := #[] }, { accessFlags := 26, nameIndex := 719, descriptorIndex := 716, attributes := #[] }, { accessFlags := 4120, nameIndex := 445, descriptorIndex := 117, attributes := #[] }])
  fields := #[{ name := "MIN_ARRAY_SORT_GRAN", type := .int, accessFlags := 26, slot := 0, constantValue := 0 }, { name := "INSERTIONSORT_THRESHOLD", type := .int, accessFlags := 26, slot := 1, constantValue := 0 }, { name := "$assertionsDisabled", type := .boolean, accessFlags := 4120, slot := 2, constantValue := 0 }]
  methods := #[k23m0, k23m1, k23m2, k23m3, k23m4]
  instanceTypes := #[]
  staticTypes := #[.int, .int, .boolean]
  resolved := Array.replicate 1029 none
  statics := none }

def pool24 : Array CpInfo := pool [(1, .class_ 2), (0, u "java/lang/Cloneable"), (0, .class_ 4), (0, u "java/lang/Object")] 2

/-- java/lang/Cloneable -/
def k24 : Class := { plain "java/lang/Cloneable" (some 0) with
  accessFlags := 1537
  interfaces := #[]
  cf := some (fileOf pool24 1 #[] #[] 1537 3 #[] #[])
  fields := #[]
  methods := #[]
  instanceTypes := #[]
  staticTypes := #[]
  resolved := Array.replicate 7 none
  statics := none }

def pool25 : Array CpInfo := pool [(4, .class_ 6), (1, u "java/lang/Object"), (0, u "<init>"), (0, u "()V"), (5, .class_ 16), (1, u "java/lang/StringLatin1"), (104, u "$assertionsDisabled"), (0, u "Z"), (98, .class_ 223), (1, u "java/lang/StringLatin1$LinesSpliterator"), (166, .class_ 391), (0, u "java/lang/StringLatin1$CharsSpliterator")] 3

def k25m0 : Method := { name := "<init>", desc := "()V", sig := { parameters := [], returnType := none }, accessFlags := 0, code := none }
/-- java/lang/StringLatin1 -/
def k25 : Class := { plain "java/lang/StringLatin1" (some 0) with
  accessFlags := 48
  interfaces := #[]
  cf := some (fileOf pool25 14 #[.nestMembers #[390, 221]] #[{ accessFlags := 0, nameIndex := 7, descriptorIndex := 8, attributes := #[] }] 48 4 #[] #[{ accessFlags := 4120, nameIndex := 121, descriptorIndex := 122, attributes := #[] }])
  fields := #[{ name := "$assertionsDisabled", type := .boolean, accessFlags := 4120, slot := 0, constantValue := 0 }]
  methods := #[k25m0]
  instanceTypes := #[]
  staticTypes := #[.boolean]
  resolved := Array.replicate 395 none
  statics := none }

def pool26 : Array CpInfo := pool [(2, .class_ 4), (1, u "java/lang/Object"), (0, u "<init>"), (0, u "()V"), (17, .class_ 26), (1, u "jdk/internal/util/Preconditions"), (28, .class_ 56), (0, u "jdk/internal/util/Preconditions$4"), (57, .class_ 115), (0, u "jdk/internal/util/Preconditions$1"), (7, u "SIOOBE_FORMATTER"), (0, u "Ljava/util/function/BiFunction;"), (0, .class_ 126), (0, u "jdk/internal/util/Preconditions$2"), (3, u "AIOOBE_FORMATTER"), (0, .class_ 132), (0, u "jdk/internal/util/Preconditions$3"), (3, u "IOOBE_FORMATTER")] 57

def k26m0 : Method := { name := "<init>", desc := "()V", sig := { parameters := [], returnType := none }, accessFlags := 1, code := none }
/-- jdk/internal/util/Preconditions -/
def k26 : Class := { plain "jdk/internal/util/Preconditions" (some 0) with
  accessFlags := 33
  interfaces := #[]
  cf := some (fileOf pool26 24 #[.nestMembers #[55, 131, 125, 114]] #[{ accessFlags := 1, nameIndex := 5, descriptorIndex := 6, attributes := #[] }] 33 2 #[] #[{ accessFlags := 25, nameIndex := 123, descriptorIndex := 124, attributes := #[] }, { accessFlags := 25, nameIndex := 130, descriptorIndex := 124, attributes := #[] }, { accessFlags := 25, nameIndex := 136, descriptorIndex := 124, attributes := #[] }])
  fields := #[{ name := "SIOOBE_FORMATTER", type := (.object "java/util/function/BiFunction"), accessFlags := 25, slot := 0, constantValue := 0 }, { name := "AIOOBE_FORMATTER", type := (.object "java/util/function/BiFunction"), accessFlags := 25, slot := 1, constantValue := 0 }, { name := "IOOBE_FORMATTER", type := (.object "java/util/function/BiFunction"), accessFlags := 25, slot := 2, constantValue := 0 }]
  methods := #[k26m0]
  instanceTypes := #[]
  staticTypes := #[(.object "java/util/function/BiFunction"), (.object "java/util/function/BiFunction"), (.object "java/util/function/BiFunction")]
  resolved := Array.replicate 194 none
  statics := some 3 }

def pool27 : Array CpInfo := pool [(2, .class_ 4), (1, u "java/lang/Object"), (0, u "<init>"), (0, u "()V"), (12, .class_ 20), (0, u "java/util/Collections"), (63, u "r"), (0, u "Ljava/util/Random;"), (80, .class_ 167), (0, u "java/util/Collections$UnmodifiableCollection"), (6, .class_ 175), (0, u "java/util/Collections$UnmodifiableSequencedCollection"), (6, .class_ 183), (0, u "java/util/Collections$UnmodifiableSet"), (6, .class_ 191), (0, u "java/util/Collections$UnmodifiableSequencedSet"), (6, .class_ 199), (0, u "java/util/Collections$UnmodifiableSortedSet"), (6, .class_ 207), (0, u "java/util/Collections$UnmodifiableNavigableSet"), (4, .class_ 213), (0, u "java/util/Collections$UnmodifiableList"), (1, .class_ 216), (0, u "java/util/Collections$UnmodifiableRandomAccessList"), (6, .class_ 224), (0, u "java/util/Collections$UnmodifiableMap"), (6, .class_ 232), (0, u "java/util/Collections$UnmodifiableSequencedMap"), (4, .class_ 238), (0, u "java/util/Collections$UnmodifiableSortedMap"), (6, .class_ 246), (0, u "java/util/Collections$UnmodifiableNavigableMap"), (3, .class_ 251), (0, u "java/util/Collections$SynchronizedCollection"), (4, .class_ 257), (0, u "java/util/Collections$SynchronizedSet"), (4, .class_ 263), (0, u "java/util/Collections$SynchronizedSortedSet"), (1, .class_ 266), (0, u "java/util/Collections$SynchronizedNavigableSet"), (1, .class_ 269), (0, u "java/util/Collections$SynchronizedRandomAccessList"), (1, .class_ 272), (0, u "java/util/Collections$SynchronizedList"), (5, .class_ 279), (0, u "java/util/Collections$SynchronizedMap"), (1, .class_ 282), (0, u "java/util/Collections$SynchronizedSortedMap"), (1, .class_ 285), (0, u "java/util/Collections$SynchronizedNavigableMap"), (1, .class_ 288), (0, u "java/util/Collections$CheckedCollection"), (11, .class_ 301), (0, u "java/util/Collections$CheckedQueue"), (3, .class_ 306), (0, u "java/util/Collections$CheckedSet"), (3, .class_ 311), (0, u "java/util/Collections$CheckedSortedSet"), (3, .class_ 316), (0, u "java/util/Collections$CheckedNavigableSet"), (3, .class_ 321), (0, u "java/util/Collections$CheckedRandomAccessList"), (3, .class_ 326), (0, u "java/util/Collections$CheckedList"), (1, .class_ 329), (0, u "java/util/Collections$CheckedMap"), (3, .class_ 334), (0, u "java/util/Collections$CheckedSortedMap"), (3, .class_ 339), (0, u "java/util/Collections$CheckedNavigableMap"), (4, .class_ 346), (1, u "java/util/Collections$EmptyIterator"), (3, .class_ 352), (1, u "java/util/Collections$EmptyListIterator"), (2, .class_ 357), (1, u "java/util/Collections$EmptyEnumeration"), (4, u "EMPTY_SET"), (0, u "Ljava/util/Set;"), (6, u "EMPTY_LIST"), (0, u "Ljava/util/List;"), (2, u "EMPTY_MAP"), (0, u "Ljava/util/Map;"), (4, .class_ 381), (0, u "java/util/Collections$SingletonSet"), (2, .class_ 385), (0, u "java/util/Collections$1"), (1, .class_ 388), (0, u "java/util/Collections$2"), (1, .class_ 391), (0, u "java/util/Collections$SingletonList"), (1, .class_ 394), (0, u "java/util/Collections$SingletonMap"), (22, .class_ 418), (0, u "java/util/Collections$CopiesList"), (4, .class_ 425), (1, u "java/util/Collections$ReverseComparator"), (8, .class_ 435), (0, u "java/util/Collections$ReverseComparator2"), (6, .class_ 443), (0, u "java/util/Collections$3"), (25, .class_ 470), (0, u "java/util/Collections$SetFromMap"), (2, .class_ 474), (0, u "java/util/Collections$SequencedSetFromMap"), (3, .class_ 479), (0, u "java/util/Collections$AsLIFOQueue"), (11, .class_ 492), (0, u "java/util/Collections$EmptySet"), (1, .class_ 495), (0, u "java/util/Collections$EmptyList"), (1, .class_ 498), (0, u "java/util/Collections$EmptyMap"), (1, u "BINARYSEARCH_THRESHOLD"), (0, u "I"), (2, u "REVERSE_THRESHOLD"), (1, u "SHUFFLE_THRESHOLD"), (1, u "FILL_THRESHOLD"), (1, u "ROTATE_THRESHOLD"), (1, u "COPY_THRESHOLD"), (1, u "REPLACEALL_THRESHOLD"), (1, u "INDEXOFSUBLIST_THRESHOLD"), (333, .class_ 851), (0, u "java/util/Collections$CheckedMap$CheckedEntrySet"), (0, .class_ 853), (0, u "java/util/Collections$CheckedMap$CheckedEntrySet$CheckedEntry"), (0, .class_ 855), (0, u "java/util/Collections$CheckedMap$CheckedEntrySet$1"), (0, .class_ 857), (0, u "java/util/Collections$CheckedList$1"), (0, .class_ 859), (0, u "java/util/Collections$CheckedCollection$1"), (0, .class_ 861), (0, u "java/util/Collections$UnmodifiableNavigableMap$EmptyNavigableMap"), (0, .class_ 863), (0, u "java/util/Collections$UnmodifiableMap$UnmodifiableEntrySet"), (0, .class_ 865), (0, u "java/util/Collections$UnmodifiableMap$UnmodifiableEntrySet$UnmodifiableEntry"), (0, .class_ 867), (0, u "java/util/Collections$UnmodifiableMap$UnmodifiableEntrySet$UnmodifiableEntrySetSpliterator"), (0, .class_ 869), (0, u "java/util/Collections$UnmodifiableMap$UnmodifiableEntrySet$1"), (0, .class_ 871), (0, u "java/util/Collections$UnmodifiableList$1"), (0, .class_ 873), (0, u "java/util/Collections$UnmodifiableNavigableSet$EmptyNavigableSet"), (0, .class_ 875), (0, u "java/util/Collections$UnmodifiableCollection$1")] 57

def k27m0 : Method := { name := "<init>", desc := "()V", sig := { parameters := [], returnType := none }, accessFlags := 2, code := none }
/-- java/util/Collections -/
def k27 : Class := { plain "java/util/Collections" (some 0) with
  accessFlags := 33
  interfaces := #[]
  cf := some (fileOf pool27 19 #[.nestMembers #[478, 473, 469, 434, 423, 417, 393, 390, 380, 497, 494, 491, 355, 350, 344, 338, 333, 328, 850, 852, 854, 320, 325, 856, 315, 310, 305, 300, 287, 858, 284, 281, 278, 268, 271, 265, 262, 256, 250, 245, 860, 237, 231, 223, 862, 864, 866, 868, 215, 212, 870, 206, 872, 198, 190, 182, 174, 166, 874, 442, 387, 384]] #[{ accessFlags := 2, nameIndex := 5, descriptorIndex := 6, attributes := #[] }] 33 2 #[] #[{ accessFlags := 26, nameIndex := 500, descriptorIndex := 501, attributes := #[] }, { accessFlags := 26, nameIndex := 504, descriptorIndex := 501, attributes := #[] }, { accessFlags := 26, nameIndex := 506, descriptorIndex := 501, attributes := #[] }, { accessFlags := 26, nameIndex := 508, descriptorIndex := 501, attributes := #[] }, { accessFlags := 26, nameIndex := 510, descriptorIndex := 501, attributes := #[] }, { accessFlags := 26, nameIndex := 512, descriptorIndex := 501, attributes := #[] }, { accessFlags := 26, nameIndex := 514, descriptorIndex := 501, attributes := #[] }, { accessFlags := 26, nameIndex := 516, descriptorIndex := 501, attributes := #[] }, { accessFlags := 10, nameIndex := 84, descriptorIndex := 85, attributes := #[] }, { accessFlags := 25, nameIndex := 362, descriptorIndex := 363, attributes := #[] }, { accessFlags := 25, nameIndex := 370, descriptorIndex := 371, attributes := #[] }, { accessFlags := 25, nameIndex := 374, descriptorIndex := 375, attributes := #[] }])
  fields := #[{ name := "BINARYSEARCH_THRESHOLD", type := .int, accessFlags := 26, slot := 0, constantValue := 0 }, { name := "REVERSE_THRESHOLD", type := .int, accessFlags := 26, slot := 1, constantValue := 0 }, { name := "SHUFFLE_THRESHOLD", type := .int, accessFlags := 26, slot := 2, constantValue := 0 }, { name := "FILL_THRESHOLD", type := .int, accessFlags := 26, slot := 3, constantValue := 0 }, { name := "ROTATE_THRESHOLD", type := .int, accessFlags := 26, slot := 4, constantValue := 0 }, { name := "COPY_THRESHOLD", type := .int, accessFlags := 26, slot := 5, constantValue := 0 }, { name := "REPLACEALL_THRESHOLD", type := .int, accessFlags := 26, slot := 6, constantValue := 0 }, { name := "INDEXOFSUBLIST_THRESHOLD", type := .int, accessFlags := 26, slot := 7, constantValue := 0 }, { name := "r", type := (.object "java/util/Random"), accessFlags := 10, slot := 8, constantValue := 0 }, { name := "EMPTY_SET", type := (.object "java/util/Set"), accessFlags := 25, slot := 9, constantValue := 0 }, { name := "EMPTY_LIST", type := (.object "java/util/List"), accessFlags := 25, slot := 10, constantValue := 0 }, { name := "EMPTY_MAP", type := (.object "java/util/Map"), accessFlags := 25, slot := 11, constantValue := 0 }]
  methods := #[k27m0]
  instanceTypes := #[]
  staticTypes := #[.int, .int, .int, .int, .int, .int, .int, .int, (.object "java/util/Random"), (.object "java/util/Set"), (.object "java/util/List"), (.object "java/util/Map")]
  resolved := Array.replicate 933 none
  statics := some 4 }

def pool28 : Array CpInfo := pool [(8, .class_ 10), (1, u "java/lang/Iterable"), (24, .class_ 36), (0, u "java/lang/Object")] 25

/-- java/lang/Iterable -/
def k28 : Class := { plain "java/lang/Iterable" (some 0) with
  accessFlags := 1537
  interfaces := #[]
  cf := some (fileOf pool28 8 #[] #[] 1537 35 #[] #[])
  fields := #[]
  methods := #[]
  instanceTypes := #[]
  staticTypes := #[]
  resolved := Array.replicate 62 none
  statics := none }

def pool29 : Array CpInfo := pool [(10, .class_ 12), (1, u "java/util/Collection"), (47, .class_ 61), (0, u "java/lang/Object"), (0, .class_ 63), (0, u "java/lang/Iterable")] 51

/-- java/util/Collection -/
def k29 : Class := { plain "java/util/Collection" (some 0) with
  accessFlags := 1537
  interfaces := #[28]
  cf := some (fileOf pool29 10 #[] #[] 1537 60 #[62] #[])
  fields := #[]
  methods := #[]
  instanceTypes := #[]
  staticTypes := #[]
  resolved := Array.replicate 115 none
  statics := none }

def pool30 : Array CpInfo := pool [(2, .class_ 4), (1, u "java/lang/Object"), (0, u "<init>"), (0, u "()V"), (1, .class_ 10), (1, u "java/util/AbstractCollection"), (66, .class_ 78), (0, u "java/util/Collection")] 81

def k30m0 : Method := { name := "<init>", desc := "()V", sig := { parameters := [], returnType := none }, accessFlags := 4, code := none }
/-- java/util/AbstractCollection -/
def k30 : Class := { plain "java/util/AbstractCollection" (some 0) with
  accessFlags := 1057
  interfaces := #[29]
  cf := some (fileOf pool30 8 #[] #[{ accessFlags := 4, nameIndex := 5, descriptorIndex := 6, attributes := #[] }] 1057 2 #[77] #[])
  fields := #[]
  methods := #[k30m0]
  instanceTypes := #[]
  staticTypes := #[]
  resolved := Array.replicate 160 none
  statics := none }

def pool31 : Array CpInfo := pool [(8, .class_ 10), (1, u "java/util/SequencedCollection"), (15, .class_ 27), (0, u "java/lang/Object"), (0, .class_ 29), (0, u "java/util/Collection")] 27

/-- java/util/SequencedCollection -/
def k31 : Class := { plain "java/util/SequencedCollection" (some 0) with
  accessFlags := 1537
  interfaces := #[29]
  cf := some (fileOf pool31 8 #[] #[] 1537 26 #[28] #[])
  fields := #[]
  methods := #[]
  instanceTypes := #[]
  staticTypes := #[]
  resolved := Array.replicate 57 none
  statics := none }

def pool32 : Array CpInfo := pool [(8, .class_ 10), (1, u "java/util/List"), (92, .class_ 104), (0, u "java/lang/Object"), (15, .class_ 121), (0, u "java/util/SequencedCollection")] 129

/-- java/util/List -/
def k32 : Class := { plain "java/util/List" (some 0) with
  accessFlags := 1537
  interfaces := #[31]
  cf := some (fileOf pool32 8 #[] #[] 1537 103 #[120] #[])
  fields := #[]
  methods := #[]
  instanceTypes := #[]
  staticTypes := #[]
  resolved := Array.replicate 251 none
  statics := none }

def pool33 : Array CpInfo := pool [(2, .class_ 4), (1, u "java/util/AbstractCollection"), (0, u "<init>"), (0, u "()V"), (1, .class_ 10), (1, u "java/util/AbstractList"), (0, u "modCount"), (0, u "I"), (64, .class_ 78), (0, u "java/util/AbstractList$Itr"), (3, .class_ 83), (0, u "java/util/AbstractList$ListItr"), (9, .class_ 94), (0, u "java/util/AbstractList$RandomAccessSubList"), (3, .class_ 99), (0, u "java/util/AbstractList$SubList"), (33, .class_ 134), (0, u "java/util/List"), (73, .class_ 209), (0, u "java/util/AbstractList$SubList$1"), (0, .class_ 211), (0, u "java/util/AbstractList$RandomAccessSpliterator")] 6

def k33m0 : Method := { name := "<init>", desc := "()V", sig := { parameters := [], returnType := none }, accessFlags := 4, code := none }
/-- java/util/AbstractList -/
def k33 : Class := { plain "java/util/AbstractList" (some 30) with
  accessFlags := 1057
  interfaces := #[32]
  cf := some (fileOf pool33 8 #[.nestMembers #[93, 98, 208, 210, 82, 77]] #[{ accessFlags := 4, nameIndex := 5, descriptorIndex := 6, attributes := #[] }] 1057 2 #[133] #[{ accessFlags := 132, nameIndex := 11, descriptorIndex := 12, attributes := #[] }])
  fields := #[{ name := "modCount", type := .int, accessFlags := 132, slot := 0, constantValue := 0 }]
  methods := #[k33m0]
  instanceTypes := #[.int]
  staticTypes := #[]
  resolved := Array.replicate 218 none
  statics := none }

def pool34 : Array CpInfo := pool [(1, .class_ 2), (0, u "java/util/RandomAccess"), (0, .class_ 4), (0, u "java/lang/Object")] 2

/-- java/util/RandomAccess -/
def k34 : Class := { plain "java/util/RandomAccess" (some 0) with
  accessFlags := 1537
  interfaces := #[]
  cf := some (fileOf pool34 1 #[] #[] 1537 3 #[] #[])
  fields := #[]
  methods := #[]
  instanceTypes := #[]
  staticTypes := #[]
  resolved := Array.replicate 7 none
  statics := none }

def pool35 : Array CpInfo := pool [(2, .class_ 4), (1, u "java/util/AbstractList"), (0, u "<init>"), (0, u "()V"), (1, .class_ 10), (1, u "java/util/Collections"), (54, .class_ 66), (0, u "java/util/Collections$EmptyList"), (0, .class_ 68), (0, u "java/util/RandomAccess"), (0, .class_ 70), (0, u "java/io/Serializable"), (0, u "serialVersionUID"), (0, u "J")] 77

def k35m0 : Method := { name := "<init>", desc := "()V", sig := { parameters := [], returnType := none }, accessFlags := 2, code := none }
/-- java/util/Collections$EmptyList -/
def k35 : Class := { plain "java/util/Collections$EmptyList" (some 33) with
  accessFlags := 32
  interfaces := #[34, 5]
  cf := some (fileOf pool35 65 #[.nestHost 8] #[{ accessFlags := 2, nameIndex := 5, descriptorIndex := 6, attributes := #[] }] 32 2 #[67, 69] #[{ accessFlags := 26, nameIndex := 71, descriptorIndex := 72, attributes := #[] }])
  fields := #[{ name := "serialVersionUID", type := .long, accessFlags := 26, slot := 0, constantValue := 0 }]
  methods := #[k35m0]
  instanceTypes := #[.int]
  staticTypes := #[.long]
  resolved := Array.replicate 150 none
  statics := none }

def pool36 : Array CpInfo := pool [(2, .class_ 4), (1, u "java/lang/StackTraceElement"), (0, u "<init>"), (2, .class_ 10), (1, u "java/lang/Object"), (0, u "()V"), (2, u "format"), (0, u "B"), (2, u "classLoaderName"), (0, u "Ljava/lang/String;"), (2, u "moduleName"), (2, u "moduleVersion"), (12, u "declaringClass"), (4, u "methodName"), (2, u "fileName"), (2, u "lineNumber"), (0, u "I"), (65, u "declaringClassObject"), (0, u "Ljava/lang/Class;"), (33, .class_ 153), (1, u "java/lang/StackTraceElement$HashedModules"), (17, .class_ 172), (0, u "java/io/Serializable"), (0, u "NATIVE_METHOD"), (1, u "UNKNOWN_SOURCE"), (2, u "BUILTIN_CLASS_LOADER"), (1, u "JDK_NON_UPGRADEABLE_MODULE"), (1, u "serialVersionUID"), (0, u "J")] 51

def k36m0 : Method := { name := "<init>", desc := "()V", sig := { parameters := [], returnType := none }, accessFlags := 2, code := none }
/-- java/lang/StackTraceElement -/
def k36 : Class := { plain "java/lang/StackTraceElement" (some 0) with
  accessFlags := 49
  interfaces := #[5]
  cf := some (fileOf pool36 2 #[.nestMembers #[151]] #[{ accessFlags := 2, nameIndex := 5, descriptorIndex := 11, attributes := #[] }] 49 8 #[171] #[{ accessFlags := 26, nameIndex := 173, descriptorIndex := 19, attributes := #[] }, { accessFlags := 26, nameIndex := 175, descriptorIndex := 19, attributes := #[] }, { accessFlags := 130, nameIndex := 116, descriptorIndex := 117, attributes := #[] }, { accessFlags := 2, nameIndex := 18, descriptorIndex := 19, attributes := #[] }, { accessFlags := 2, nameIndex := 22, descriptorIndex := 19, attributes := #[] }, { accessFlags := 2, nameIndex := 25, descriptorIndex := 19, attributes := #[] }, { accessFlags := 2, nameIndex := 38, descriptorIndex := 19, attributes := #[] }, { accessFlags := 2, nameIndex := 43, descriptorIndex := 19, attributes := #[] }, { accessFlags := 2, nameIndex := 46, descriptorIndex := 19, attributes := #[] }, { accessFlags := 2, nameIndex := 49, descriptorIndex := 50, attributes := #[] }, { accessFlags := 2, nameIndex := 14, descriptorIndex := 15, attributes := #[] }, { accessFlags := 26, nameIndex := 178, descriptorIndex := 15, attributes := #[] }, { accessFlags := 26, nameIndex := 180, descriptorIndex := 15, attributes := #[] }, { accessFlags := 26, nameIndex := 182, descriptorIndex := 183, attributes := #[] }])
  fields := #[{ name := "NATIVE_METHOD", type := (.object "java/lang/String"), accessFlags := 26, slot := 0, constantValue := 0 }, { name := "UNKNOWN_SOURCE", type := (.object "java/lang/String"), accessFlags := 26, slot := 1, constantValue := 0 }, { name := "declaringClassObject", type := (.object "java/lang/Class"), accessFlags := 130, slot := 0, constantValue := 0 }, { name := "classLoaderName", type := (.object "java/lang/String"), accessFlags := 2, slot := 1, constantValue := 0 }, { name := "moduleName", type := (.object "java/lang/String"), accessFlags := 2, slot := 2, constantValue := 0 }, { name := "moduleVersion", type := (.object "java/lang/String"), accessFlags := 2, slot := 3, constantValue := 0 }, { name := "declaringClass", type := (.object "java/lang/String"), accessFlags := 2, slot := 4, constantValue := 0 }, { name := "methodName", type := (.object "java/lang/String"), accessFlags := 2, slot := 5, constantValue := 0 }, { name := "fileName", type := (.object "java/lang/String"), accessFlags := 2, slot := 6, constantValue := 0 }, { name := "lineNumber", type := .int, accessFlags := 2, slot := 7, constantValue := 0 }, { name := "format", type := .byte, accessFlags := 2, slot := 8, constantValue := 0 }, { name := "BUILTIN_CLASS_LOADER", type := .byte, accessFlags := 26, slot := 2, constantValue := 0 }, { name := "JDK_NON_UPGRADEABLE_MODULE", type := .byte, accessFlags := 26, slot := 3, constantValue := 0 }, { name := "serialVersionUID", type := .long, accessFlags := 26, slot := 4, constantValue := 0 }]
  methods := #[k36m0]
  instanceTypes := #[(.object "java/lang/Class"), (.object "java/lang/String"), (.object "java/lang/String"), (.object "java/lang/String"), (.object "java/lang/String"), (.object "java/lang/String"), (.object "java/lang/String"), .int, .byte]
  staticTypes := #[(.object "java/lang/String"), (.object "java/lang/String"), .byte, .byte, .long]
  resolved := Array.replicate 235 none
  statics := none }

/-- the primitive byte -/
def k37 : Class := { plain "byte" none with kind := .primitive 'B', accessFlags := 0x411 }
/-- [B -/
def k38 : Class := { plain "[B" (some 0) with kind := .array 37 .byte, interfaces := #[24, 5], accessFlags := 1041 }

/-- the primitive int -/
def k39 : Class := { plain "int" none with kind := .primitive 'I', accessFlags := 0x411 }
/-- [I -/
def k40 : Class := { plain "[I" (some 0) with kind := .array 39 .int, interfaces := #[24, 5], accessFlags := 1041 }

/-- [Ljava/lang/Object; -/
def k41 : Class := { plain "[Ljava/lang/Object;" (some 0) with kind := .array 0 (.object "java/lang/Object"), interfaces := #[24, 5], accessFlags := 1041 }

/-- [Ljava/lang/StackTraceElement; -/
def k42 : Class := { plain "[Ljava/lang/StackTraceElement;" (some 0) with kind := .array 36 (.object "java/lang/StackTraceElement"), interfaces := #[24, 5], accessFlags := 1041 }

/-- [Ljava/lang/Throwable; -/
def k43 : Class := { plain "[Ljava/lang/Throwable;" (some 0) with kind := .array 6 (.object "java/lang/Throwable"), interfaces := #[24, 5], accessFlags := 1041 }

def heap : Heap := #[{ cls := 6, slots := #[.long 0, .ref 5, .ref 7, .null, .null, .null, .null, .ref 6, .int 1], vm := .statics 6 },
  { cls := 17, slots := #[.long 0, .int 1, .null, .int 0, .null, .int 0, .int 0], vm := .statics 17 },
  { cls := 20, slots := #[.int 0, .int 0, .null, .null, .ref 9, .ref 8, .int 0, .int 0, .long 0], vm := .statics 20 },
  { cls := 26, slots := #[.null, .null, .null], vm := .statics 26 },
  { cls := 27, slots := #[.int 0, .int 0, .int 0, .int 0, .int 0, .int 0, .int 0, .int 0, .null, .null, .ref 7, .null], vm := .statics 27 },
  { cls := 42, slots := #[], vm := .none },
  { cls := 43, slots := #[], vm := .none },
  { cls := 35, slots := #[.int 0], vm := .none },
  { cls := 38, slots := #[.int 48, .int 49, .int 50, .int 51, .int 52, .int 53, .int 54, .int 55, .int 56, .int 57, .int 48, .int 49, .int 50, .int 51, .int 52, .int 53, .int 54, .int 55, .int 56, .int 57, .int 48, .int 49, .int 50, .int 51, .int 52, .int 53, .int 54, .int 55, .int 56, .int 57, .int 48, .int 49, .int 50, .int 51, .int 52, .int 53, .int 54, .int 55, .int 56, .int 57, .int 48, .int 49, .int 50, .int 51, .int 52, .int 53, .int 54, .int 55, .int 56, .int 57, .int 48, .int 49, .int 50, .int 51, .int 52, .int 53, .int 54, .int 55, .int 56, .int 57, .int 48, .int 49, .int 50, .int 51, .int 52, .int 53, .int 54, .int 55, .int 56, .int 57, .int 48, .int 49, .int 50, .int 51, .int 52, .int 53, .int 54, .int 55, .int 56, .int 57, .int 48, .int 49, .int 50, .int 51, .int 52, .int 53, .int 54, .int 55, .int 56, .int 57, .int 48, .int 49, .int 50, .int 51, .int 52, .int 53, .int 54, .int 55, .int 56, .int 57], vm := .none },
  { cls := 38, slots := #[.int 48, .int 48, .int 48, .int 48, .int 48, .int 48, .int 48, .int 48, .int 48, .int 48, .int 49, .int 49, .int 49, .int 49, .int 49, .int 49, .int 49, .int 49, .int 49, .int 49, .int 50, .int 50, .int 50, .int 50, .int 50, .int 50, .int 50, .int 50, .int 50, .int 50, .int 51, .int 51, .int 51, .int 51, .int 51, .int 51, .int 51, .int 51, .int 51, .int 51, .int 52, .int 52, .int 52, .int 52, .int 52, .int 52, .int 52, .int 52, .int 52, .int 52, .int 53, .int 53, .int 53, .int 53, .int 53, .int 53, .int 53, .int 53, .int 53, .int 53, .int 54, .int 54, .int 54, .int 54, .int 54, .int 54, .int 54, .int 54, .int 54, .int 54, .int 55, .int 55, .int 55, .int 55, .int 55, .int 55, .int 55, .int 55, .int 55, .int 55, .int 56, .int 56, .int 56, .int 56, .int 56, .int 56, .int 56, .int 56, .int 56, .int 56, .int 57, .int 57, .int 57, .int 57, .int 57, .int 57, .int 57, .int 57, .int 57, .int 57], vm := .none }]
def classes : Array Class := #[k0, k1, k2, k3, k4, k5, k6, k7, k8, k9, k10, k11, k12, k13, k14, k15, k16, k17, k18, k19, k20, k21, k22, k23, k24, k25, k26, k27, k28, k29, k30, k31, k32, k33, k34, k35, k36, k37, k38, k39, k40, k41, k42, k43]
def interned : List (Array UInt16 × Addr) := []
def slotsUsed : Nat := 241
def theMethod : MethodId := ⟨1, 1⟩
def args0 : Array Value := #[.int 5, .int 3, .int 0]
def aboutOver (below : List Frame) : State where
  vm := { classes := classes, interned := interned.toArray }
  heap := heap
  slotsUsed := slotsUsed
  threads := #[{ frames := .invoking theMethod args0 :: below }]
def below0 : List Frame := [.native { method := ⟨0, 0⟩, args := #[] }]
def about1 : State := aboutOver below0
def p0 : Program := .bare "" "" ""
def e0 : Env := launch0.env 0 0 0
theorem w_frames : about1.frames = Frame.invoking theMethod args0 :: below0 := rfl
set_option maxRecDepth 65536 in
theorem w_args : argsFit about1.vm theMethod args0 = true := by decide +kernel
set_option maxRecDepth 65536 in
theorem w_heap : heapFits about1 = true := by decide +kernel
set_option maxRecDepth 65536 in
theorem w_runnable : about1.curStatus? = some .runnable := by decide +kernel
set_option maxRecDepth 65536 in
theorem w_alone : about1.alone = true := by decide +kernel
set_option maxRecDepth 65536 in
theorem w_named : about1.methodNamed? x = some theMethod := by decide +kernel
set_option maxRecDepth 65536 in
theorem w_hears : about1.hears theMethod below0 = true := by decide +kernel
set_option maxRecDepth 65536 in
theorem w_ripe : about1.ripe theMethod args0 below0 = true := by decide +kernel
theorem w_running : about1.status = .running := rfl
set_option maxRecDepth 65536 in
theorem w_room : about1.hasRoom e0.platform room_1 = true :=
  launch0.hasRoom_least _ room_1 (by decide +kernel) (by decide +kernel) (by decide +kernel) (by decide +kernel) (by decide +kernel) (by decide +kernel)
theorem allAtoms_all (ts : List Jvm.Cond) (a : Array Jvm.Value) (st : Jvm.State) : (allAtoms ts).before a st = ts.all (fun c => c.before a st) := by
  induction ts with
  | nil => rfl
  | cons c t ih =>
    show (Jvm.Cond.and c (allAtoms t)).before a st = _
    rw [Jvm.Cond.before_and, ih, List.all_cons]
def words1 : List Jvm.Cond := head :: tables_1
/-- a 'code' word, met by the world's own term for the bytes: nothing is compared byte by byte -/
theorem code_word {y : MethodName} {bytes : ByteArray} {mx : Nat} {rt : Option FieldType} {a : Array Value} {s : State} {m : MethodId} {meth : Method} {c : Code} (h1 : s.methodNamed? y = some m) (h2 : s.vm.method? m = some meth) (h3 : meth.code = some c) (h4 : c.code = bytes)
    (h5 : (c.maxLocals == mx && c.exceptionTable.isEmpty && decide (c.maxStack ≤ mostOperands) && decide (meth.sig.returnType = rt) && !meth.locks && decide (parseMethodDescriptor y.desc = some meth.sig)) = true) : (Jvm.Cond.code y bytes mx rt).before a s = true := by
  simp only [Bool.and_eq_true, beq_iff_eq, Bool.not_eq_true', decide_eq_true_eq] at h5
  obtain ⟨⟨⟨⟨⟨g1, g2⟩, g3⟩, g4⟩, g5⟩, g6⟩ := h5
  simp [Cond.before, Cond.holds, Cond.value, h1, h2, h3, h4, g1, g2, g3, g4, g5, g6]
def isCode : Jvm.Cond → Bool
  | .code _ _ _ _ => true
  | .codeWith _ _ _ _ _ => true
  | _ => false
theorem all_split {L : List Jvm.Cond} {P : Jvm.Cond → Bool} (h1 : L.all (fun c => isCode c || P c) = true) (h2 : ∀ c ∈ L.filter isCode, P c = true) : L.all P = true := by
  refine List.all_eq_true.mpr fun c hc => ?_
  have h := List.all_eq_true.mp h1 c hc
  rcases Bool.eq_false_or_eq_true (isCode c) with hi | hi
  · exact h2 c (List.mem_filter.mpr ⟨hc, hi⟩)
  · simpa [hi] using h
set_option maxRecDepth 65536 in
set_option maxRecDepth 65536 in
theorem w_c0 : head.before args0 about1 = true := by decide +kernel
set_option maxRecDepth 65536 in
theorem w_c1 : (Jvm.Cond.code ({ cls := "com/example/tidings/tidings/store/RecordFile", name := "checkFits", desc := "(II)V" } : Jvm.MethodName) prog_105_method_6_code (2 : Nat) (Option.none : Option Jvm.ClassFile.FieldType)).before args0 about1 = true := code_word (m := ⟨4, 0⟩) (meth := k4m0) (c := k4c0) (by decide +kernel) rfl rfl rfl (by decide +kernel)
set_option maxRecDepth 65536 in
theorem w_c2 : (Jvm.Cond.code ({ cls := "java/lang/StringBuilder", name := "<init>", desc := "()V" } : Jvm.MethodName) jdk_67_method_1_code (1 : Nat) (Option.none : Option Jvm.ClassFile.FieldType)).before args0 about1 = true := code_word (m := ⟨14, 0⟩) (meth := k14m0) (c := k14c0) (by decide +kernel) rfl rfl rfl (by decide +kernel)
set_option maxRecDepth 65536 in
theorem w_c3 : (Jvm.Cond.code ({ cls := "java/lang/AbstractStringBuilder", name := "<init>", desc := "(I)V" } : Jvm.MethodName) jdk_68_method_2_code (2 : Nat) (Option.none : Option Jvm.ClassFile.FieldType)).before args0 about1 = true := code_word (m := ⟨12, 1⟩) (meth := k12m1) (c := k12c1) (by decide +kernel) rfl rfl rfl (by decide +kernel)
set_option maxRecDepth 65536 in
theorem w_c4 : (Jvm.Cond.code ({ cls := "java/lang/Object", name := "<init>", desc := "()V" } : Jvm.MethodName) object_method_1_code (1 : Nat) (Option.none : Option Jvm.ClassFile.FieldType)).before args0 about1 = true := code_word (m := ⟨0, 0⟩) (meth := k0m0) (c := k0c0) (by decide +kernel) rfl rfl rfl (by decide +kernel)
set_option maxRecDepth 65536 in
theorem w_c5 : (Jvm.Cond.code ({ cls := "java/lang/StringBuilder", name := "append", desc := "(Ljava/lang/String;)Ljava/lang/StringBuilder;" } : Jvm.MethodName) jdk_67_method_7_code (2 : Nat) (Option.some (Jvm.ClassFile.FieldType.object "java/lang/StringBuilder"))).before args0 about1 = true := code_word (m := ⟨14, 1⟩) (meth := k14m1) (c := k14c1) (by decide +kernel) rfl rfl rfl (by decide +kernel)
set_option maxRecDepth 65536 in
theorem w_c6 : (Jvm.Cond.code ({ cls := "java/lang/AbstractStringBuilder", name := "append", desc := "(Ljava/lang/String;)Ljava/lang/AbstractStringBuilder;" } : Jvm.MethodName) jdk_68_method_22_code (3 : Nat) (Option.some (Jvm.ClassFile.FieldType.object "java/lang/AbstractStringBuilder"))).before args0 about1 = true := code_word (m := ⟨12, 5⟩) (meth := k12m5) (c := k12c5) (by decide +kernel) rfl rfl rfl (by decide +kernel)
set_option maxRecDepth 65536 in
theorem w_c7 : (Jvm.Cond.code ({ cls := "java/lang/String", name := "length", desc := "()I" } : Jvm.MethodName) jdk_42_method_54_code (1 : Nat) (Option.some Jvm.ClassFile.FieldType.int)).before args0 about1 = true := code_word (m := ⟨17, 2⟩) (meth := k17m2) (c := k17c2) (by decide +kernel) rfl rfl rfl (by decide +kernel)
set_option maxRecDepth 65536 in
theorem w_c8 : (Jvm.Cond.code ({ cls := "java/lang/String", name := "coder", desc := "()B" } : Jvm.MethodName) jdk_42_method_152_code (1 : Nat) (Option.some Jvm.ClassFile.FieldType.byte)).before args0 about1 = true := code_word (m := ⟨17, 5⟩) (meth := k17m5) (c := k17c5) (by decide +kernel) rfl rfl rfl (by decide +kernel)
set_option maxRecDepth 65536 in
theorem w_c9 : (Jvm.Cond.code ({ cls := "java/lang/AbstractStringBuilder", name := "ensureCapacityInternal", desc := "(I)V" } : Jvm.MethodName) jdk_68_method_9_code (3 : Nat) (Option.none : Option Jvm.ClassFile.FieldType)).before args0 about1 = true := code_word (m := ⟨12, 3⟩) (meth := k12m3) (c := k12c3) (by decide +kernel) rfl rfl rfl (by decide +kernel)
set_option maxRecDepth 65536 in
theorem w_c10 : (Jvm.Cond.code ({ cls := "java/lang/AbstractStringBuilder", name := "putStringAt", desc := "(ILjava/lang/String;)V" } : Jvm.MethodName) jdk_68_method_73_code (3 : Nat) (Option.none : Option Jvm.ClassFile.FieldType)).before args0 about1 = true := code_word (m := ⟨12, 10⟩) (meth := k12m10) (c := k12c10) (by decide +kernel) rfl rfl rfl (by decide +kernel)
set_option maxRecDepth 65536 in
theorem w_c11 : (Jvm.Cond.code ({ cls := "java/lang/AbstractStringBuilder", name := "inflateIfNeededFor", desc := "(Ljava/lang/String;)V" } : Jvm.MethodName) jdk_68_method_71_code (2 : Nat) (Option.none : Option Jvm.ClassFile.FieldType)).before args0 about1 = true := code_word (m := ⟨12, 9⟩) (meth := k12m9) (c := k12c9) (by decide +kernel) rfl rfl rfl (by decide +kernel)
set_option maxRecDepth 65536 in
theorem w_c12 : (Jvm.Cond.code ({ cls := "java/lang/String", name := "getBytes", desc := "([BIB)V" } : Jvm.MethodName) jdk_42_method_147_code (4 : Nat) (Option.none : Option Jvm.ClassFile.FieldType)).before args0 about1 = true := code_word (m := ⟨17, 3⟩) (meth := k17m3) (c := k17c3) (by decide +kernel) rfl rfl rfl (by decide +kernel)
set_option maxRecDepth 65536 in
theorem w_c13 : (Jvm.Cond.code ({ cls := "java/lang/StringBuilder", name := "append", desc := "(I)Ljava/lang/StringBuilder;" } : Jvm.MethodName) jdk_67_method_15_code (2 : Nat) (Option.some (Jvm.ClassFile.FieldType.object "java/lang/StringBuilder"))).before args0 about1 = true := code_word (m := ⟨14, 2⟩) (meth := k14m2) (c := k14c2) (by decide +kernel) rfl rfl rfl (by decide +kernel)
set_option maxRecDepth 65536 in
theorem w_c14 : (Jvm.Cond.code ({ cls := "java/lang/AbstractStringBuilder", name := "append", desc := "(I)Ljava/lang/AbstractStringBuilder;" } : Jvm.MethodName) jdk_68_method_32_code (4 : Nat) (Option.some (Jvm.ClassFile.FieldType.object "java/lang/AbstractStringBuilder"))).before args0 about1 = true := code_word (m := ⟨12, 6⟩) (meth := k12m6) (c := k12c6) (by decide +kernel) rfl rfl rfl (by decide +kernel)
set_option maxRecDepth 65536 in
theorem w_c15 : (Jvm.Cond.code ({ cls := "java/lang/Integer", name := "stringSize", desc := "(I)I" } : Jvm.MethodName) jdk_33_method_13_code (4 : Nat) (Option.some Jvm.ClassFile.FieldType.int)).before args0 about1 = true := code_word (m := ⟨20, 1⟩) (meth := k20m1) (c := k20c1) (by decide +kernel) rfl rfl rfl (by decide +kernel)
set_option maxRecDepth 65536 in
theorem w_c16 : (Jvm.Cond.code ({ cls := "java/lang/AbstractStringBuilder", name := "newCapacity", desc := "(I)I" } : Jvm.MethodName) jdk_68_method_10_code (6 : Nat) (Option.some Jvm.ClassFile.FieldType.int)).before args0 about1 = true := code_word (m := ⟨12, 4⟩) (meth := k12m4) (c := k12c4) (by decide +kernel) rfl rfl rfl (by decide +kernel)
set_option maxRecDepth 65536 in
theorem w_c17 : (Jvm.Cond.code ({ cls := "jdk/internal/util/ArraysSupport", name := "newLength", desc := "(III)I" } : Jvm.MethodName) jdk_48_method_27_code (4 : Nat) (Option.some Jvm.ClassFile.FieldType.int)).before args0 about1 = true := code_word (m := ⟨21, 1⟩) (meth := k21m1) (c := k21c1) (by decide +kernel) rfl rfl rfl (by decide +kernel)
set_option maxRecDepth 65536 in
theorem w_c18 : (Jvm.Cond.code ({ cls := "java/lang/Math", name := "max", desc := "(II)I" } : Jvm.MethodName) jdk_29_method_65_code (2 : Nat) (Option.some Jvm.ClassFile.FieldType.int)).before args0 about1 = true := code_word (m := ⟨22, 1⟩) (meth := k22m1) (c := k22c1) (by decide +kernel) rfl rfl rfl (by decide +kernel)
set_option maxRecDepth 65536 in
theorem w_c19 : (Jvm.Cond.code ({ cls := "java/util/Arrays", name := "copyOf", desc := "([BI)[B" } : Jvm.MethodName) jdk_65_method_121_code (3 : Nat) (Option.some (Jvm.ClassFile.FieldType.array Jvm.ClassFile.FieldType.byte))).before args0 about1 = true := code_word (m := ⟨23, 1⟩) (meth := k23m1) (c := k23c1) (by decide +kernel) rfl rfl rfl (by decide +kernel)
set_option maxRecDepth 65536 in
theorem w_c20 : (Jvm.Cond.code ({ cls := "java/lang/Math", name := "min", desc := "(II)I" } : Jvm.MethodName) jdk_29_method_69_code (2 : Nat) (Option.some Jvm.ClassFile.FieldType.int)).before args0 about1 = true := code_word (m := ⟨22, 2⟩) (meth := k22m2) (c := k22c2) (by decide +kernel) rfl rfl rfl (by decide +kernel)
set_option maxRecDepth 65536 in
theorem w_c21 : (Jvm.Cond.code ({ cls := "java/lang/AbstractStringBuilder", name := "isLatin1", desc := "()Z" } : Jvm.MethodName) jdk_68_method_68_code (1 : Nat) (Option.some Jvm.ClassFile.FieldType.boolean)).before args0 about1 = true := code_word (m := ⟨12, 8⟩) (meth := k12m8) (c := k12c8) (by decide +kernel) rfl rfl rfl (by decide +kernel)
set_option maxRecDepth 65536 in
theorem w_c22 : (Jvm.Cond.code ({ cls := "java/lang/Integer", name := "getChars", desc := "(II[B)I" } : Jvm.MethodName) jdk_33_method_12_code (7 : Nat) (Option.some Jvm.ClassFile.FieldType.int)).before args0 about1 = true := code_word (m := ⟨20, 0⟩) (meth := k20m0) (c := k20c0) (by decide +kernel) rfl rfl rfl (by decide +kernel)
set_option maxRecDepth 65536 in
theorem w_c23 : (Jvm.Cond.code ({ cls := "java/lang/StringBuilder", name := "toString", desc := "()Ljava/lang/String;" } : Jvm.MethodName) jdk_67_method_42_code (1 : Nat) (Option.some (Jvm.ClassFile.FieldType.object "java/lang/String"))).before args0 about1 = true := code_word (m := ⟨14, 3⟩) (meth := k14m3) (c := k14c3) (by decide +kernel) rfl rfl rfl (by decide +kernel)
set_option maxRecDepth 65536 in
theorem w_c24 : (Jvm.Cond.code ({ cls := "java/lang/String", name := "<init>", desc := "(Ljava/lang/StringBuilder;)V" } : Jvm.MethodName) jdk_42_method_53_code (2 : Nat) (Option.none : Option Jvm.ClassFile.FieldType)).before args0 about1 = true := code_word (m := ⟨17, 1⟩) (meth := k17m1) (c := k17c1) (by decide +kernel) rfl rfl rfl (by decide +kernel)
set_option maxRecDepth 65536 in
theorem w_c25 : (Jvm.Cond.code ({ cls := "java/lang/String", name := "<init>", desc := "(Ljava/lang/AbstractStringBuilder;Ljava/lang/Void;)V" } : Jvm.MethodName) jdk_42_method_150_code (5 : Nat) (Option.none : Option Jvm.ClassFile.FieldType)).before args0 about1 = true := code_word (m := ⟨17, 4⟩) (meth := k17m4) (c := k17c4) (by decide +kernel) rfl rfl rfl (by decide +kernel)
set_option maxRecDepth 65536 in
theorem w_c26 : (Jvm.Cond.code ({ cls := "java/lang/AbstractStringBuilder", name := "getValue", desc := "()[B" } : Jvm.MethodName) jdk_68_method_64_code (1 : Nat) (Option.some (Jvm.ClassFile.FieldType.array Jvm.ClassFile.FieldType.byte))).before args0 about1 = true := code_word (m := ⟨12, 7⟩) (meth := k12m7) (c := k12c7) (by decide +kernel) rfl rfl rfl (by decide +kernel)
set_option maxRecDepth 65536 in
theorem w_c27 : (Jvm.Cond.code ({ cls := "java/lang/StringBuilder", name := "length", desc := "()I" } : Jvm.MethodName) jdk_67_method_93_code (1 : Nat) (Option.some Jvm.ClassFile.FieldType.int)).before args0 about1 = true := code_word (m := ⟨14, 4⟩) (meth := k14m4) (c := k14c4) (by decide +kernel) rfl rfl rfl (by decide +kernel)
set_option maxRecDepth 65536 in
theorem w_c28 : (Jvm.Cond.code ({ cls := "java/lang/AbstractStringBuilder", name := "length", desc := "()I" } : Jvm.MethodName) jdk_68_method_6_code (1 : Nat) (Option.some Jvm.ClassFile.FieldType.int)).before args0 about1 = true := code_word (m := ⟨12, 2⟩) (meth := k12m2) (c := k12c2) (by decide +kernel) rfl rfl rfl (by decide +kernel)
set_option maxRecDepth 65536 in
theorem w_c29 : (Jvm.Cond.code ({ cls := "java/util/Arrays", name := "copyOfRange", desc := "([BII)[B" } : Jvm.MethodName) jdk_65_method_132_code (3 : Nat) (Option.some (Jvm.ClassFile.FieldType.array Jvm.ClassFile.FieldType.byte))).before args0 about1 = true := code_word (m := ⟨23, 3⟩) (meth := k23m3) (c := k23c3) (by decide +kernel) rfl rfl rfl (by decide +kernel)
set_option maxRecDepth 65536 in
theorem w_c30 : (Jvm.Cond.code ({ cls := "java/util/Arrays", name := "copyOfRangeByte", desc := "([BII)[B" } : Jvm.MethodName) jdk_65_method_133_code (5 : Nat) (Option.some (Jvm.ClassFile.FieldType.array Jvm.ClassFile.FieldType.byte))).before args0 about1 = true := code_word (m := ⟨23, 4⟩) (meth := k23m4) (c := k23c4) (by decide +kernel) rfl rfl rfl (by decide +kernel)
set_option maxRecDepth 65536 in
theorem w_c31 : (Jvm.Cond.code ({ cls := "java/util/Arrays", name := "checkLength", desc := "(II)V" } : Jvm.MethodName) jdk_65_method_131_code (2 : Nat) (Option.none : Option Jvm.ClassFile.FieldType)).before args0 about1 = true := code_word (m := ⟨23, 2⟩) (meth := k23m2) (c := k23c2) (by decide +kernel) rfl rfl rfl (by decide +kernel)
set_option maxRecDepth 65536 in
theorem w_c32 : (Jvm.Cond.code ({ cls := "java/lang/IllegalArgumentException", name := "<init>", desc := "(Ljava/lang/String;)V" } : Jvm.MethodName) jdk_57_method_2_code (2 : Nat) (Option.none : Option Jvm.ClassFile.FieldType)).before args0 about1 = true := code_word (m := ⟨9, 1⟩) (meth := k9m1) (c := k9c1) (by decide +kernel) rfl rfl rfl (by decide +kernel)
set_option maxRecDepth 65536 in
theorem w_c33 : (Jvm.Cond.code ({ cls := "java/lang/RuntimeException", name := "<init>", desc := "(Ljava/lang/String;)V" } : Jvm.MethodName) jdk_58_method_2_code (2 : Nat) (Option.none : Option Jvm.ClassFile.FieldType)).before args0 about1 = true := code_word (m := ⟨8, 1⟩) (meth := k8m1) (c := k8c1) (by decide +kernel) rfl rfl rfl (by decide +kernel)
set_option maxRecDepth 65536 in
theorem w_c34 : (Jvm.Cond.code ({ cls := "java/lang/Exception", name := "<init>", desc := "(Ljava/lang/String;)V" } : Jvm.MethodName) jdk_59_method_2_code (2 : Nat) (Option.none : Option Jvm.ClassFile.FieldType)).before args0 about1 = true := code_word (m := ⟨7, 1⟩) (meth := k7m1) (c := k7c1) (by decide +kernel) rfl rfl rfl (by decide +kernel)
set_option maxRecDepth 65536 in
theorem w_c35 : (Jvm.Cond.code ({ cls := "java/lang/Throwable", name := "<init>", desc := "(Ljava/lang/String;)V" } : Jvm.MethodName) jdk_78_method_2_code (2 : Nat) (Option.none : Option Jvm.ClassFile.FieldType)).before args0 about1 = true := code_word (m := ⟨6, 1⟩) (meth := k6m1) (c := k6c1) (by decide +kernel) rfl rfl rfl (by decide +kernel)
set_option maxRecDepth 65536 in
theorem w_c36 : (Jvm.Cond.code ({ cls := "java/lang/Throwable", name := "<init>", desc := "()V" } : Jvm.MethodName) jdk_78_method_1_code (1 : Nat) (Option.none : Option Jvm.ClassFile.FieldType)).before args0 about1 = true := code_word (m := ⟨6, 0⟩) (meth := k6m0) (c := k6c0) (by decide +kernel) rfl rfl rfl (by decide +kernel)
def codes1 : List Jvm.Cond := [head, Jvm.Cond.code ({ cls := "com/example/tidings/tidings/store/RecordFile", name := "checkFits", desc := "(II)V" } : Jvm.MethodName) prog_105_method_6_code (2 : Nat) (Option.none : Option Jvm.ClassFile.FieldType), Jvm.Cond.code ({ cls := "java/lang/StringBuilder", name := "<init>", desc := "()V" } : Jvm.MethodName) jdk_67_method_1_code (1 : Nat) (Option.none : Option Jvm.ClassFile.FieldType), Jvm.Cond.code ({ cls := "java/lang/AbstractStringBuilder", name := "<init>", desc := "(I)V" } : Jvm.MethodName) jdk_68_method_2_code (2 : Nat) (Option.none : Option Jvm.ClassFile.FieldType), Jvm.Cond.code ({ cls := "java/lang/Object", name := "<init>", desc := "()V" } : Jvm.MethodName) object_method_1_code (1 : Nat) (Option.none : Option Jvm.ClassFile.FieldType), Jvm.Cond.code ({ cls := "java/lang/StringBuilder", name := "append", desc := "(Ljava/lang/String;)Ljava/lang/StringBuilder;" } : Jvm.MethodName) jdk_67_method_7_code (2 : Nat) (Option.some (Jvm.ClassFile.FieldType.object "java/lang/StringBuilder")), Jvm.Cond.code ({ cls := "java/lang/AbstractStringBuilder", name := "append", desc := "(Ljava/lang/String;)Ljava/lang/AbstractStringBuilder;" } : Jvm.MethodName) jdk_68_method_22_code (3 : Nat) (Option.some (Jvm.ClassFile.FieldType.object "java/lang/AbstractStringBuilder")), Jvm.Cond.code ({ cls := "java/lang/String", name := "length", desc := "()I" } : Jvm.MethodName) jdk_42_method_54_code (1 : Nat) (Option.some Jvm.ClassFile.FieldType.int), Jvm.Cond.code ({ cls := "java/lang/String", name := "coder", desc := "()B" } : Jvm.MethodName) jdk_42_method_152_code (1 : Nat) (Option.some Jvm.ClassFile.FieldType.byte), Jvm.Cond.code ({ cls := "java/lang/AbstractStringBuilder", name := "ensureCapacityInternal", desc := "(I)V" } : Jvm.MethodName) jdk_68_method_9_code (3 : Nat) (Option.none : Option Jvm.ClassFile.FieldType), Jvm.Cond.code ({ cls := "java/lang/AbstractStringBuilder", name := "putStringAt", desc := "(ILjava/lang/String;)V" } : Jvm.MethodName) jdk_68_method_73_code (3 : Nat) (Option.none : Option Jvm.ClassFile.FieldType), Jvm.Cond.code ({ cls := "java/lang/AbstractStringBuilder", name := "inflateIfNeededFor", desc := "(Ljava/lang/String;)V" } : Jvm.MethodName) jdk_68_method_71_code (2 : Nat) (Option.none : Option Jvm.ClassFile.FieldType), Jvm.Cond.code ({ cls := "java/lang/String", name := "getBytes", desc := "([BIB)V" } : Jvm.MethodName) jdk_42_method_147_code (4 : Nat) (Option.none : Option Jvm.ClassFile.FieldType), Jvm.Cond.code ({ cls := "java/lang/StringBuilder", name := "append", desc := "(I)Ljava/lang/StringBuilder;" } : Jvm.MethodName) jdk_67_method_15_code (2 : Nat) (Option.some (Jvm.ClassFile.FieldType.object "java/lang/StringBuilder")), Jvm.Cond.code ({ cls := "java/lang/AbstractStringBuilder", name := "append", desc := "(I)Ljava/lang/AbstractStringBuilder;" } : Jvm.MethodName) jdk_68_method_32_code (4 : Nat) (Option.some (Jvm.ClassFile.FieldType.object "java/lang/AbstractStringBuilder")), Jvm.Cond.code ({ cls := "java/lang/Integer", name := "stringSize", desc := "(I)I" } : Jvm.MethodName) jdk_33_method_13_code (4 : Nat) (Option.some Jvm.ClassFile.FieldType.int), Jvm.Cond.code ({ cls := "java/lang/AbstractStringBuilder", name := "newCapacity", desc := "(I)I" } : Jvm.MethodName) jdk_68_method_10_code (6 : Nat) (Option.some Jvm.ClassFile.FieldType.int), Jvm.Cond.code ({ cls := "jdk/internal/util/ArraysSupport", name := "newLength", desc := "(III)I" } : Jvm.MethodName) jdk_48_method_27_code (4 : Nat) (Option.some Jvm.ClassFile.FieldType.int), Jvm.Cond.code ({ cls := "java/lang/Math", name := "max", desc := "(II)I" } : Jvm.MethodName) jdk_29_method_65_code (2 : Nat) (Option.some Jvm.ClassFile.FieldType.int), Jvm.Cond.code ({ cls := "java/util/Arrays", name := "copyOf", desc := "([BI)[B" } : Jvm.MethodName) jdk_65_method_121_code (3 : Nat) (Option.some (Jvm.ClassFile.FieldType.array Jvm.ClassFile.FieldType.byte)), Jvm.Cond.code ({ cls := "java/lang/Math", name := "min", desc := "(II)I" } : Jvm.MethodName) jdk_29_method_69_code (2 : Nat) (Option.some Jvm.ClassFile.FieldType.int), Jvm.Cond.code ({ cls := "java/lang/AbstractStringBuilder", name := "isLatin1", desc := "()Z" } : Jvm.MethodName) jdk_68_method_68_code (1 : Nat) (Option.some Jvm.ClassFile.FieldType.boolean), Jvm.Cond.code ({ cls := "java/lang/Integer", name := "getChars", desc := "(II[B)I" } : Jvm.MethodName) jdk_33_method_12_code (7 : Nat) (Option.some Jvm.ClassFile.FieldType.int), Jvm.Cond.code ({ cls := "java/lang/StringBuilder", name := "toString", desc := "()Ljava/lang/String;" } : Jvm.MethodName) jdk_67_method_42_code (1 : Nat) (Option.some (Jvm.ClassFile.FieldType.object "java/lang/String")), Jvm.Cond.code ({ cls := "java/lang/String", name := "<init>", desc := "(Ljava/lang/StringBuilder;)V" } : Jvm.MethodName) jdk_42_method_53_code (2 : Nat) (Option.none : Option Jvm.ClassFile.FieldType), Jvm.Cond.code ({ cls := "java/lang/String", name := "<init>", desc := "(Ljava/lang/AbstractStringBuilder;Ljava/lang/Void;)V" } : Jvm.MethodName) jdk_42_method_150_code (5 : Nat) (Option.none : Option Jvm.ClassFile.FieldType), Jvm.Cond.code ({ cls := "java/lang/AbstractStringBuilder", name := "getValue", desc := "()[B" } : Jvm.MethodName) jdk_68_method_64_code (1 : Nat) (Option.some (Jvm.ClassFile.FieldType.array Jvm.ClassFile.FieldType.byte)), Jvm.Cond.code ({ cls := "java/lang/StringBuilder", name := "length", desc := "()I" } : Jvm.MethodName) jdk_67_method_93_code (1 : Nat) (Option.some Jvm.ClassFile.FieldType.int), Jvm.Cond.code ({ cls := "java/lang/AbstractStringBuilder", name := "length", desc := "()I" } : Jvm.MethodName) jdk_68_method_6_code (1 : Nat) (Option.some Jvm.ClassFile.FieldType.int), Jvm.Cond.code ({ cls := "java/util/Arrays", name := "copyOfRange", desc := "([BII)[B" } : Jvm.MethodName) jdk_65_method_132_code (3 : Nat) (Option.some (Jvm.ClassFile.FieldType.array Jvm.ClassFile.FieldType.byte)), Jvm.Cond.code ({ cls := "java/util/Arrays", name := "copyOfRangeByte", desc := "([BII)[B" } : Jvm.MethodName) jdk_65_method_133_code (5 : Nat) (Option.some (Jvm.ClassFile.FieldType.array Jvm.ClassFile.FieldType.byte)), Jvm.Cond.code ({ cls := "java/util/Arrays", name := "checkLength", desc := "(II)V" } : Jvm.MethodName) jdk_65_method_131_code (2 : Nat) (Option.none : Option Jvm.ClassFile.FieldType), Jvm.Cond.code ({ cls := "java/lang/IllegalArgumentException", name := "<init>", desc := "(Ljava/lang/String;)V" } : Jvm.MethodName) jdk_57_method_2_code (2 : Nat) (Option.none : Option Jvm.ClassFile.FieldType), Jvm.Cond.code ({ cls := "java/lang/RuntimeException", name := "<init>", desc := "(Ljava/lang/String;)V" } : Jvm.MethodName) jdk_58_method_2_code (2 : Nat) (Option.none : Option Jvm.ClassFile.FieldType), Jvm.Cond.code ({ cls := "java/lang/Exception", name := "<init>", desc := "(Ljava/lang/String;)V" } : Jvm.MethodName) jdk_59_method_2_code (2 : Nat) (Option.none : Option Jvm.ClassFile.FieldType), Jvm.Cond.code ({ cls := "java/lang/Throwable", name := "<init>", desc := "(Ljava/lang/String;)V" } : Jvm.MethodName) jdk_78_method_2_code (2 : Nat) (Option.none : Option Jvm.ClassFile.FieldType), Jvm.Cond.code ({ cls := "java/lang/Throwable", name := "<init>", desc := "()V" } : Jvm.MethodName) jdk_78_method_1_code (1 : Nat) (Option.none : Option Jvm.ClassFile.FieldType)]
set_option maxRecDepth 65536 in
theorem codes_eq : words1.filter isCode = codes1 := rfl
theorem w_codes : ∀ c ∈ words1.filter isCode, c.before args0 about1 = true := by
  rw [codes_eq]
  intro c hc
  simp only [codes1, List.mem_cons, List.not_mem_nil, or_false] at hc
  rcases hc with rfl | rfl | rfl | rfl | rfl | rfl | rfl | rfl | rfl | rfl | rfl | rfl | rfl | rfl | rfl | rfl | rfl | rfl | rfl | rfl | rfl | rfl | rfl | rfl | rfl | rfl | rfl | rfl | rfl | rfl | rfl | rfl | rfl | rfl | rfl | rfl | rfl
  · exact w_c0
  · exact w_c1
  · exact w_c2
  · exact w_c3
  · exact w_c4
  · exact w_c5
  · exact w_c6
  · exact w_c7
  · exact w_c8
  · exact w_c9
  · exact w_c10
  · exact w_c11
  · exact w_c12
  · exact w_c13
  · exact w_c14
  · exact w_c15
  · exact w_c16
  · exact w_c17
  · exact w_c18
  · exact w_c19
  · exact w_c20
  · exact w_c21
  · exact w_c22
  · exact w_c23
  · exact w_c24
  · exact w_c25
  · exact w_c26
  · exact w_c27
  · exact w_c28
  · exact w_c29
  · exact w_c30
  · exact w_c31
  · exact w_c32
  · exact w_c33
  · exact w_c34
  · exact w_c35
  · exact w_c36
set_option maxRecDepth 65536 in
theorem w_t1 : (words1.take 24).all (fun c => isCode c || c.before args0 about1) = true := by decide +kernel
set_option maxRecDepth 65536 in
theorem w_t2 : ((words1.drop 24).take 24).all (fun c => isCode c || c.before args0 about1) = true := by decide +kernel
set_option maxRecDepth 65536 in
theorem w_t3 : (((words1.drop 24).drop 24).take 24).all (fun c => isCode c || c.before args0 about1) = true := by decide +kernel
set_option maxRecDepth 65536 in
theorem w_t4 : ((((words1.drop 24).drop 24).drop 24).take 24).all (fun c => isCode c || c.before args0 about1) = true := by decide +kernel
set_option maxRecDepth 65536 in
theorem w_t5 : (((((words1.drop 24).drop 24).drop 24).drop 24).take 24).all (fun c => isCode c || c.before args0 about1) = true := by decide +kernel
set_option maxRecDepth 65536 in
theorem w_t6 : ((((((words1.drop 24).drop 24).drop 24).drop 24).drop 24).take 24).all (fun c => isCode c || c.before args0 about1) = true := by decide +kernel
set_option maxRecDepth 65536 in
theorem w_t7 : (((((((words1.drop 24).drop 24).drop 24).drop 24).drop 24).drop 24).take 24).all (fun c => isCode c || c.before args0 about1) = true := by decide +kernel
set_option maxRecDepth 65536 in
theorem w_t8 : ((((((((words1.drop 24).drop 24).drop 24).drop 24).drop 24).drop 24).drop 24).take 24).all (fun c => isCode c || c.before args0 about1) = true := by decide +kernel
set_option maxRecDepth 65536 in
theorem w_t9 : (((((((((words1.drop 24).drop 24).drop 24).drop 24).drop 24).drop 24).drop 24).drop 24).take 24).all (fun c => isCode c || c.before args0 about1) = true := by decide +kernel
set_option maxRecDepth 65536 in
theorem w_t10 : ((((((((((words1.drop 24).drop 24).drop 24).drop 24).drop 24).drop 24).drop 24).drop 24).drop 24).take 24).all (fun c => isCode c || c.before args0 about1) = true := by decide +kernel
set_option maxRecDepth 65536 in
theorem w_t11 : ((((((((((words1.drop 24).drop 24).drop 24).drop 24).drop 24).drop 24).drop 24).drop 24).drop 24).drop 24).all (fun c => isCode c || c.before args0 about1) = true := by decide +kernel
theorem w_tables : (allAtoms (head :: tables_1)).before args0 about1 = true := by
  rw [allAtoms_all]
  show words1.all (fun c => c.before args0 about1) = true
  refine all_split ?_ w_codes
  rw [← List.take_append_drop 24 words1, List.all_append, w_t1, ← List.take_append_drop 24 (words1.drop 24), List.all_append, w_t2, ← List.take_append_drop 24 ((words1.drop 24).drop 24), List.all_append, w_t3, ← List.take_append_drop 24 (((words1.drop 24).drop 24).drop 24), List.all_append, w_t4, ← List.take_append_drop 24 ((((words1.drop 24).drop 24).drop 24).drop 24), List.all_append, w_t5, ← List.take_append_drop 24 (((((words1.drop 24).drop 24).drop 24).drop 24).drop 24), List.all_append, w_t6, ← List.take_append_drop 24 ((((((words1.drop 24).drop 24).drop 24).drop 24).drop 24).drop 24), List.all_append, w_t7, ← List.take_append_drop 24 (((((((words1.drop 24).drop 24).drop 24).drop 24).drop 24).drop 24).drop 24), List.all_append, w_t8, ← List.take_append_drop 24 ((((((((words1.drop 24).drop 24).drop 24).drop 24).drop 24).drop 24).drop 24).drop 24), List.all_append, w_t9, ← List.take_append_drop 24 (((((((((words1.drop 24).drop 24).drop 24).drop 24).drop 24).drop 24).drop 24).drop 24).drop 24), List.all_append, w_t10, w_t11]
  rfl
set_option maxRecDepth 65536 in
theorem w_rest : rest_1_c.before args0 about1 = true := by decide +kernel
set_option maxRecDepth 65536 in
theorem w_case : (Jvm.Cond.and given_1 narrow_1).before args0 about1 = true := by decide +kernel
set_option maxRecDepth 65536 in
theorem w_consts : constsHeld consts_1 about1 := Jvm.Lit.constsHeldB_iff.mp (by decide +kernel)
theorem w_applies : (headSpec (head :: tables_1) room_1).applies x e0.platform about1 = true :=
  (Spec.applies_iff w_frames).mpr ⟨w_running, w_runnable, w_alone, w_named, w_hears, w_ripe, w_room, w_tables⟩
theorem atStart : AtStartH classFile x head World_1 tables_1 room_1 Calls_1 rest_1 Pre_1 launch0 p0 e0 about1 theMethod args0 below0 :=
  ⟨lists_1, trivial, launch0.admits_env _ _ _, launch0.least_env, fairChoices_fair.cas, fairChoices_fair.clock, w_frames, w_args, w_heap, w_applies, ⟨(by decide +kernel : framesKnown about1 = true), ⟨(by decide +kernel : tablesKnown about1 = true), ⟨w_consts, trivial⟩⟩⟩, w_rest, w_case⟩
end start1
theorem witness_1 : WitnessClaimed_1 := ⟨start1.p0, start1.e0, start1.about1, start1.theMethod, start1.args0, start1.below0, start1.atStart⟩
end Jvm.Pilot.@@N@@
