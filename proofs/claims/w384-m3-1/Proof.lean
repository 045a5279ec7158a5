import JvmDerived
import JvmDerived.Pilot.@@N@@Statement
import JvmDerived.Pilot.@@N@@Code
set_option linter.unusedVariables false
set_option linter.unusedSimpArgs false
namespace Jvm.OwnKit
open Jvm Sem ClassFile Op Lib Jvm.Stand Jvm.Free Jvm.LawKit Jvm.RoadKit
/-- what a body's walk knows of its frame throughout -/
def Cx (p : Program) (s : State) (m : MethodId) (meth : Method) (c : Code) (Z : State) (y : MethodName) (bytes : ByteArray) (ml : Nat) (ret : Option FieldType) : Prop :=
  p.tables.exec = Jvm.exec ∧ Z.Warmed39 s.vm ∧ s.vm.findClass y.cls = some m.cls ∧ c.code = bytes ∧ c.maxLocals = ml ∧ meth.sig.returnType = ret ∧ meth.locks = false ∧ meth.name = y.name
/-- from the heap h, k cells and n slots made so far, the frame at pc with these locals and this stack comes to its end, and F holds of the result and the last state -/
def W (p : Program) (l : Launch) (e : Env) (R : Room) (s : State) (m : MethodId) (args : Array Value) (below : List Frame) (meth : Method) (c : Code) (n0 : Nat) (F : Option Value → Outcome → State → List Loc → Prop)
    (k n : Nat) (h : Heap) (pc : Nat) (ls : Array Slot) (st : List Value) : Prop :=
  ∀ (T : State) (locs : List Loc), Stand p l e R s m args below meth c T locs k n → T.heap = h → Fr n0 locs →
    ∃ s₂ o, Steps p.tables e below (T.setTop (mkF m pc ls st)) s₂ ∧ s₂.status = .running ∧ Ended s₂ below o ∧ ∃ v L, o = .returned v ∧ F v o s₂ L
/-- the end of a walk that has loaded no String constant -/
def FN (s : State) (n0 : Nat) (Q : Option Value → Heap → Prop) (kc ks : Nat) : Option Value → Outcome → State → List Loc → Prop := fun v o t L => (Q v t.heap ∧ Fr n0 L) ∧ FrameEnd s o t L kc ks
/-- the end of a walk that may have loaded one: said of the true start -/
def FW (s : State) (n0 : Nat) (Q : Option Value → Heap → Vm → Prop) (kc ks : Nat) : Option Value → Outcome → State → List Loc → Prop := fun v o t L => (Q v t.heap t.vm ∧ Fr n0 L) ∧ ReturnedEndW s o t L kc ks
/-- what is booked since s stands in h -/
def Sn (s : State) (vm : Vm) (h : Heap) : Prop := ∃ k, s.Since vm k ∧ k ≤ h.size
theorem Sn.le {s : State} {vm : Vm} {h h' : Heap} (S : Sn s vm h) (q : h.size ≤ h'.size) : Sn s vm h' := by obtain ⟨k, a, b⟩ := S; exact ⟨k, a, Nat.le_trans b q⟩
theorem FN.ok {s : State} {n0 : Nat} {Q : Option Value → Heap → Prop} {kc ks k n : Nat} {v : Option Value} {h : Heap} (hk : k ≤ kc) (hs : n ≤ ks) (q : Q v h) : ∀ (t : State) (L : List Loc), t.heap = h → Fr n0 L → FrameEnd s (.returned v) t L k n → FN s n0 Q kc ks v (.returned v) t L :=
  fun t L e N f => ⟨⟨by rw [e]; exact q, N⟩, f.1, f.2.1, f.2.2.mono hk hs⟩
theorem FW.ok {s : State} {vm0 : Vm} {n0 : Nat} {Q : Option Value → Heap → Vm → Prop} {kc ks k n : Nat} {v : Option Value} {h : Heap} (S : Sn s vm0 h) (hk : k ≤ kc) (hs : n ≤ ks) (q : ∀ vm', (s.setVm vm0).WarmedH vm' → Q v h vm') : ∀ (t : State) (L : List Loc), t.heap = h → Fr n0 L → FrameEnd (s.setVm vm0) (.returned v) t L k n → FW s n0 Q kc ks v (.returned v) t L := by
  intro t L e N f
  subst e
  obtain ⟨k0, S, b⟩ := S
  obtain ⟨x, y, z⟩ := S.ended (U := t) f.2.1 b f.2.2
  exact ⟨⟨q _ f.2.1, N⟩, ⟨v, rfl⟩, x, y, z.mono hk hs⟩
/-- the held constants, when the tables have only been warmed -/
theorem chw {s Z : State} {vm0 vm' : Vm} {EL : List (String × Nat)} {a0 : Array Value} {h : Heap} (hZ : Z.Warmed39 vm0) (hW : (s.setVm vm0).WarmedH vm') (w : EW Z a0 EL) (H : CHv Z EL vm0 h) : CHr Z EL vm0 h vm' h := by
  have q := CHv.later (h' := h) hZ (hW := (show (Wst Z vm0 h).Warmed39 vm' from hW.wide)) w ⟨Nat.le_refl _, fun _ _ q => q⟩ (Or.inl hW.interned_eq) H
  exact ⟨q.1, Nat.le_refl _, q.2⟩
theorem ext0 {h h' : Heap} (K : Keep h h' []) : Ext h h' := ⟨K.1, fun x c q => K.2.1 x c q (fun z => nomatch z)⟩
/-- a body's contract, where it may load String constants -/
def ConW (l : Launch) (Z : State) (y : MethodName) (bytes : ByteArray) (ml : Nat) (ret : Option FieldType) (rm : Room) (as' : Array Value) (h0 : Heap) (n0 : Nat) (Pv : Vm → Prop) (Q : Option Value → Heap → Vm → Prop) : Prop :=
  ∀ ws : List Jvm.Cond, MetFree l y (head1 (Jvm.Cond.code y bytes ml ret :: ws) rm) (fun a U => a = as' ∧ Z.Warmed39 U.vm ∧ U.heap = h0 ∧ Pv U.vm) (fun _ _ _ _ _ => True) (fun _ U o U' => ∃ v L, o = .returned v ∧ (Q v U'.heap U'.vm ∧ Fr n0 L) ∧ ReturnedEndW U o U' L rm.cells rm.slots)
/-- a body's contract -/
def Con (l : Launch) (Z : State) (y : MethodName) (bytes : ByteArray) (ml : Nat) (ret : Option FieldType) (rm : Room) (as' : Array Value) (h0 : Heap) (n0 : Nat) (Q : Option Value → Heap → Prop) : Prop :=
  ∀ ws : List Jvm.Cond, MetFree l y (head1 (Jvm.Cond.code y bytes ml ret :: ws) rm) (fun a U => a = as' ∧ Z.Warmed39 U.vm ∧ U.heap = h0) (fun _ _ _ _ _ => True) (fun _ U o U' => ∃ v L, o = .returned v ∧ (Q v U'.heap ∧ Fr n0 L) ∧ FrameEnd U o U' L rm.cells rm.slots)
/-- it returns v and leaves the heap -/
def Pu (v : Option Value) (h : Heap) : Option Value → Heap → Prop := fun v' h' => v' = v ∧ h = h'
section
variable {p : Program} {l : Launch} {e : Env} {R : Room} {s : State} {m : MethodId} {args : Array Value} {below : List Frame} {meth : Method} {c : Code} {Z : State} {y : MethodName} {bytes : ByteArray} {ml : Nat} {ret : Option FieldType} {n0 : Nat} {Q : Option Value → Heap → Prop} {Fe : Option Value → Outcome → State → List Loc → Prop} {Pv : Vm → Prop} {Qw : Option Value → Heap → Vm → Prop} {vm0 : Vm} {kc ks k n : Nat} {h : Heap} {pc : Nat} {ls : Array Slot} {st : List Value} {a0 : Array Value}
theorem Cx.a (C : Cx p s m meth c Z y bytes ml ret) {pc : Nat} {r : Except ClassFile.DecodeError (ClassFile.Instr × Nat)} (h2 : ClassFile.decode bytes pc = r) : ClassFile.decode c.code pc = r := C.2.2.2.1 ▸ h2
theorem Con.of {rm : Room} {as' : Array Value} {h0 : Heap} (hpn : plainFor y = true) {ls : Array Slot} (hent : ∀ m, entryFrame m as' ml = mkF m 0 ls [])
    (hW : ∀ p e s m below meth c, Cx p s m meth c Z y bytes ml ret → W p l e rm s m as' below meth c n0 (FN s n0 Q rm.cells rm.slots) 0 0 h0 0 ls []) : Con l Z y bytes ml ret rm as' h0 n0 Q := by
  intro ws
  refine MetFree.of_bodySF hpn hisR ?_
  intro p e s m args below meth c s₁ Bd hml0 hP hK
  obtain ⟨rfl, hZ, hh⟩ := hP
  have X0 : Stand p l e rm s m _ below meth c s₁ [] 0 0 := Stand.of_body Bd
  have e0 : s₁.heap = h0 := by rw [← hh, Bd.state]; rfl
  obtain ⟨s₂, o, h1, h2⟩ := hW p e s m below meth c ⟨Bd.exec, hZ, findClass_of_methodNamed Bd.named, Bd.bytes, hml0, Bd.returns, Bd.notSynchronized, (name_of_methodNamed Bd.named Bd.method).1⟩ s₁ [] X0 e0 (Fr.nil n0)
  exact ⟨s₂, o, castTop (hent m) h1, h2⟩
theorem W.lift {pc' : Nat} {ls' : Array Slot} {st' : List Value} (f : ∀ T target, At T m c below → Steps p.tables e below (T.setTop (mkF m pc' ls' st')) target → Steps p.tables e below (T.setTop (mkF m pc ls st)) target) (K : W p l e R s m args below meth c n0 Fe k n h pc' ls' st') : W p l e R s m args below meth c n0 Fe k n h pc ls st := fun T locs X eT N => by
  obtain ⟨s₂, o, h1, h2⟩ := K T locs X eT N
  exact ⟨s₂, o, f T _ X.here h1, h2⟩
theorem W.heap {h' : Heap} (q : h = h') (K : W p l e R s m args below meth c n0 Fe k n h' pc ls st) : W p l e R s m args below meth c n0 Fe k n h pc ls st := q ▸ K
theorem W.room {k' n' : Nat} (hk : k ≤ k') (hn : n ≤ n') (K : W p l e R s m args below meth c n0 Fe k' n' h pc ls st) : W p l e R s m args below meth c n0 Fe k n h pc ls st := fun T locs X eT N => K T locs ⟨X.admits, X.cas, X.clock, X.frames, X.room, X.hears, X.method, X.code, X.here, X.tail, X.warmed, X.limits, X.bytes, X.same.mono hk hn⟩ eT N
theorem W.iaddV (C : Cx p s m meth c Z y bytes ml ret) {u v : Int32} (z : Int32) (d : decode bytes pc = .ok (.iadd, 1)) (hz : (u + v) = z) (K : W p l e R s m args below meth c n0 Fe k n h (pc + 1) ls (.int z :: st)) : W p l e R s m args below meth c n0 Fe k n h pc ls (.int v :: .int u :: st) :=
  W.lift (fun T t H S => XS.iadd H C.1 rfl (C.a d) rfl (by subst hz; exact S)) K
theorem W.iadd (C : Cx p s m meth c Z y bytes ml ret) {u v : Int32} (d : decode bytes pc = .ok (.iadd, 1)) (K : W p l e R s m args below meth c n0 Fe k n h (pc + 1) ls (.int (u + v) :: st)) : W p l e R s m args below meth c n0 Fe k n h pc ls (.int v :: .int u :: st) :=
  W.lift (fun T t H S => XS.iadd H C.1 rfl (C.a d) rfl S) K
theorem W.isubV (C : Cx p s m meth c Z y bytes ml ret) {u v : Int32} (z : Int32) (d : decode bytes pc = .ok (.isub, 1)) (hz : (u - v) = z) (K : W p l e R s m args below meth c n0 Fe k n h (pc + 1) ls (.int z :: st)) : W p l e R s m args below meth c n0 Fe k n h pc ls (.int v :: .int u :: st) :=
  W.lift (fun T t H S => XS.isub H C.1 rfl (C.a d) rfl (by subst hz; exact S)) K
theorem W.isub (C : Cx p s m meth c Z y bytes ml ret) {u v : Int32} (d : decode bytes pc = .ok (.isub, 1)) (K : W p l e R s m args below meth c n0 Fe k n h (pc + 1) ls (.int (u - v) :: st)) : W p l e R s m args below meth c n0 Fe k n h pc ls (.int v :: .int u :: st) :=
  W.lift (fun T t H S => XS.isub H C.1 rfl (C.a d) rfl S) K
theorem W.imulV (C : Cx p s m meth c Z y bytes ml ret) {u v : Int32} (z : Int32) (d : decode bytes pc = .ok (.imul, 1)) (hz : (u * v) = z) (K : W p l e R s m args below meth c n0 Fe k n h (pc + 1) ls (.int z :: st)) : W p l e R s m args below meth c n0 Fe k n h pc ls (.int v :: .int u :: st) :=
  W.lift (fun T t H S => XS.imul H C.1 rfl (C.a d) rfl (by subst hz; exact S)) K
theorem W.imul (C : Cx p s m meth c Z y bytes ml ret) {u v : Int32} (d : decode bytes pc = .ok (.imul, 1)) (K : W p l e R s m args below meth c n0 Fe k n h (pc + 1) ls (.int (u * v) :: st)) : W p l e R s m args below meth c n0 Fe k n h pc ls (.int v :: .int u :: st) :=
  W.lift (fun T t H S => XS.imul H C.1 rfl (C.a d) rfl S) K
theorem W.iandV (C : Cx p s m meth c Z y bytes ml ret) {u v : Int32} (z : Int32) (d : decode bytes pc = .ok (.iand, 1)) (hz : (u &&& v) = z) (K : W p l e R s m args below meth c n0 Fe k n h (pc + 1) ls (.int z :: st)) : W p l e R s m args below meth c n0 Fe k n h pc ls (.int v :: .int u :: st) :=
  W.lift (fun T t H S => XS.iand H C.1 rfl (C.a d) rfl (by subst hz; exact S)) K
theorem W.iand (C : Cx p s m meth c Z y bytes ml ret) {u v : Int32} (d : decode bytes pc = .ok (.iand, 1)) (K : W p l e R s m args below meth c n0 Fe k n h (pc + 1) ls (.int (u &&& v) :: st)) : W p l e R s m args below meth c n0 Fe k n h pc ls (.int v :: .int u :: st) :=
  W.lift (fun T t H S => XS.iand H C.1 rfl (C.a d) rfl S) K
theorem W.iorV (C : Cx p s m meth c Z y bytes ml ret) {u v : Int32} (z : Int32) (d : decode bytes pc = .ok (.ior, 1)) (hz : (u ||| v) = z) (K : W p l e R s m args below meth c n0 Fe k n h (pc + 1) ls (.int z :: st)) : W p l e R s m args below meth c n0 Fe k n h pc ls (.int v :: .int u :: st) :=
  W.lift (fun T t H S => XS.ior H C.1 rfl (C.a d) rfl (by subst hz; exact S)) K
theorem W.ior (C : Cx p s m meth c Z y bytes ml ret) {u v : Int32} (d : decode bytes pc = .ok (.ior, 1)) (K : W p l e R s m args below meth c n0 Fe k n h (pc + 1) ls (.int (u ||| v) :: st)) : W p l e R s m args below meth c n0 Fe k n h pc ls (.int v :: .int u :: st) :=
  W.lift (fun T t H S => XS.ior H C.1 rfl (C.a d) rfl S) K
theorem W.ixorV (C : Cx p s m meth c Z y bytes ml ret) {u v : Int32} (z : Int32) (d : decode bytes pc = .ok (.ixor, 1)) (hz : (u ^^^ v) = z) (K : W p l e R s m args below meth c n0 Fe k n h (pc + 1) ls (.int z :: st)) : W p l e R s m args below meth c n0 Fe k n h pc ls (.int v :: .int u :: st) :=
  W.lift (fun T t H S => XS.ixor H C.1 rfl (C.a d) rfl (by subst hz; exact S)) K
theorem W.ixor (C : Cx p s m meth c Z y bytes ml ret) {u v : Int32} (d : decode bytes pc = .ok (.ixor, 1)) (K : W p l e R s m args below meth c n0 Fe k n h (pc + 1) ls (.int (u ^^^ v) :: st)) : W p l e R s m args below meth c n0 Fe k n h pc ls (.int v :: .int u :: st) :=
  W.lift (fun T t H S => XS.ixor H C.1 rfl (C.a d) rfl S) K
theorem W.ishlV (C : Cx p s m meth c Z y bytes ml ret) {u v : Int32} (z : Int32) (d : decode bytes pc = .ok (.ishl, 1)) (hz : (u <<< (v &&& 31)) = z) (K : W p l e R s m args below meth c n0 Fe k n h (pc + 1) ls (.int z :: st)) : W p l e R s m args below meth c n0 Fe k n h pc ls (.int v :: .int u :: st) :=
  W.lift (fun T t H S => XS.ishl H C.1 rfl (C.a d) rfl (by subst hz; exact S)) K
theorem W.ishl (C : Cx p s m meth c Z y bytes ml ret) {u v : Int32} (d : decode bytes pc = .ok (.ishl, 1)) (K : W p l e R s m args below meth c n0 Fe k n h (pc + 1) ls (.int (u <<< (v &&& 31)) :: st)) : W p l e R s m args below meth c n0 Fe k n h pc ls (.int v :: .int u :: st) :=
  W.lift (fun T t H S => XS.ishl H C.1 rfl (C.a d) rfl S) K
theorem W.ishrV (C : Cx p s m meth c Z y bytes ml ret) {u v : Int32} (z : Int32) (d : decode bytes pc = .ok (.ishr, 1)) (hz : (u >>> (v &&& 31)) = z) (K : W p l e R s m args below meth c n0 Fe k n h (pc + 1) ls (.int z :: st)) : W p l e R s m args below meth c n0 Fe k n h pc ls (.int v :: .int u :: st) :=
  W.lift (fun T t H S => XS.ishr H C.1 rfl (C.a d) rfl (by subst hz; exact S)) K
theorem W.ishr (C : Cx p s m meth c Z y bytes ml ret) {u v : Int32} (d : decode bytes pc = .ok (.ishr, 1)) (K : W p l e R s m args below meth c n0 Fe k n h (pc + 1) ls (.int (u >>> (v &&& 31)) :: st)) : W p l e R s m args below meth c n0 Fe k n h pc ls (.int v :: .int u :: st) :=
  W.lift (fun T t H S => XS.ishr H C.1 rfl (C.a d) rfl S) K
theorem W.iushrV (C : Cx p s m meth c Z y bytes ml ret) {u v : Int32} (z : Int32) (d : decode bytes pc = .ok (.iushr, 1)) (hz : ((u.toUInt32 >>> (v &&& 31).toUInt32).toInt32) = z) (K : W p l e R s m args below meth c n0 Fe k n h (pc + 1) ls (.int z :: st)) : W p l e R s m args below meth c n0 Fe k n h pc ls (.int v :: .int u :: st) :=
  W.lift (fun T t H S => XS.iushr H C.1 rfl (C.a d) rfl (by subst hz; exact S)) K
theorem W.iushr (C : Cx p s m meth c Z y bytes ml ret) {u v : Int32} (d : decode bytes pc = .ok (.iushr, 1)) (K : W p l e R s m args below meth c n0 Fe k n h (pc + 1) ls (.int ((u.toUInt32 >>> (v &&& 31).toUInt32).toInt32) :: st)) : W p l e R s m args below meth c n0 Fe k n h pc ls (.int v :: .int u :: st) :=
  W.lift (fun T t H S => XS.iushr H C.1 rfl (C.a d) rfl S) K
theorem W.laddV (C : Cx p s m meth c Z y bytes ml ret) {u v : Int64} (z : Int64) (d : decode bytes pc = .ok (.ladd, 1)) (hz : (u + v) = z) (K : W p l e R s m args below meth c n0 Fe k n h (pc + 1) ls (.long z :: st)) : W p l e R s m args below meth c n0 Fe k n h pc ls (.long v :: .long u :: st) :=
  W.lift (fun T t H S => XS.ladd H C.1 rfl (C.a d) rfl (by subst hz; exact S)) K
theorem W.ladd (C : Cx p s m meth c Z y bytes ml ret) {u v : Int64} (d : decode bytes pc = .ok (.ladd, 1)) (K : W p l e R s m args below meth c n0 Fe k n h (pc + 1) ls (.long (u + v) :: st)) : W p l e R s m args below meth c n0 Fe k n h pc ls (.long v :: .long u :: st) :=
  W.lift (fun T t H S => XS.ladd H C.1 rfl (C.a d) rfl S) K
theorem W.lsubV (C : Cx p s m meth c Z y bytes ml ret) {u v : Int64} (z : Int64) (d : decode bytes pc = .ok (.lsub, 1)) (hz : (u - v) = z) (K : W p l e R s m args below meth c n0 Fe k n h (pc + 1) ls (.long z :: st)) : W p l e R s m args below meth c n0 Fe k n h pc ls (.long v :: .long u :: st) :=
  W.lift (fun T t H S => XS.lsub H C.1 rfl (C.a d) rfl (by subst hz; exact S)) K
theorem W.lsub (C : Cx p s m meth c Z y bytes ml ret) {u v : Int64} (d : decode bytes pc = .ok (.lsub, 1)) (K : W p l e R s m args below meth c n0 Fe k n h (pc + 1) ls (.long (u - v) :: st)) : W p l e R s m args below meth c n0 Fe k n h pc ls (.long v :: .long u :: st) :=
  W.lift (fun T t H S => XS.lsub H C.1 rfl (C.a d) rfl S) K
theorem W.lmulV (C : Cx p s m meth c Z y bytes ml ret) {u v : Int64} (z : Int64) (d : decode bytes pc = .ok (.lmul, 1)) (hz : (u * v) = z) (K : W p l e R s m args below meth c n0 Fe k n h (pc + 1) ls (.long z :: st)) : W p l e R s m args below meth c n0 Fe k n h pc ls (.long v :: .long u :: st) :=
  W.lift (fun T t H S => XS.lmul H C.1 rfl (C.a d) rfl (by subst hz; exact S)) K
theorem W.lmul (C : Cx p s m meth c Z y bytes ml ret) {u v : Int64} (d : decode bytes pc = .ok (.lmul, 1)) (K : W p l e R s m args below meth c n0 Fe k n h (pc + 1) ls (.long (u * v) :: st)) : W p l e R s m args below meth c n0 Fe k n h pc ls (.long v :: .long u :: st) :=
  W.lift (fun T t H S => XS.lmul H C.1 rfl (C.a d) rfl S) K
theorem W.landV (C : Cx p s m meth c Z y bytes ml ret) {u v : Int64} (z : Int64) (d : decode bytes pc = .ok (.land, 1)) (hz : (u &&& v) = z) (K : W p l e R s m args below meth c n0 Fe k n h (pc + 1) ls (.long z :: st)) : W p l e R s m args below meth c n0 Fe k n h pc ls (.long v :: .long u :: st) :=
  W.lift (fun T t H S => XS.land H C.1 rfl (C.a d) rfl (by subst hz; exact S)) K
theorem W.land (C : Cx p s m meth c Z y bytes ml ret) {u v : Int64} (d : decode bytes pc = .ok (.land, 1)) (K : W p l e R s m args below meth c n0 Fe k n h (pc + 1) ls (.long (u &&& v) :: st)) : W p l e R s m args below meth c n0 Fe k n h pc ls (.long v :: .long u :: st) :=
  W.lift (fun T t H S => XS.land H C.1 rfl (C.a d) rfl S) K
theorem W.lorV (C : Cx p s m meth c Z y bytes ml ret) {u v : Int64} (z : Int64) (d : decode bytes pc = .ok (.lor, 1)) (hz : (u ||| v) = z) (K : W p l e R s m args below meth c n0 Fe k n h (pc + 1) ls (.long z :: st)) : W p l e R s m args below meth c n0 Fe k n h pc ls (.long v :: .long u :: st) :=
  W.lift (fun T t H S => XS.lor H C.1 rfl (C.a d) rfl (by subst hz; exact S)) K
theorem W.lor (C : Cx p s m meth c Z y bytes ml ret) {u v : Int64} (d : decode bytes pc = .ok (.lor, 1)) (K : W p l e R s m args below meth c n0 Fe k n h (pc + 1) ls (.long (u ||| v) :: st)) : W p l e R s m args below meth c n0 Fe k n h pc ls (.long v :: .long u :: st) :=
  W.lift (fun T t H S => XS.lor H C.1 rfl (C.a d) rfl S) K
theorem W.lxorV (C : Cx p s m meth c Z y bytes ml ret) {u v : Int64} (z : Int64) (d : decode bytes pc = .ok (.lxor, 1)) (hz : (u ^^^ v) = z) (K : W p l e R s m args below meth c n0 Fe k n h (pc + 1) ls (.long z :: st)) : W p l e R s m args below meth c n0 Fe k n h pc ls (.long v :: .long u :: st) :=
  W.lift (fun T t H S => XS.lxor H C.1 rfl (C.a d) rfl (by subst hz; exact S)) K
theorem W.lxor (C : Cx p s m meth c Z y bytes ml ret) {u v : Int64} (d : decode bytes pc = .ok (.lxor, 1)) (K : W p l e R s m args below meth c n0 Fe k n h (pc + 1) ls (.long (u ^^^ v) :: st)) : W p l e R s m args below meth c n0 Fe k n h pc ls (.long v :: .long u :: st) :=
  W.lift (fun T t H S => XS.lxor H C.1 rfl (C.a d) rfl S) K
theorem W.lshlV (C : Cx p s m meth c Z y bytes ml ret) {u : Int64} {v : Int32} (z : Int64) (d : decode bytes pc = .ok (.lshl, 1)) (hz : (u <<< (v &&& 0x3f).toInt64) = z) (K : W p l e R s m args below meth c n0 Fe k n h (pc + 1) ls (.long z :: st)) : W p l e R s m args below meth c n0 Fe k n h pc ls (.int v :: .long u :: st) :=
  W.lift (fun T t H S => XS.lshl H C.1 rfl (C.a d) rfl (by subst hz; exact S)) K
theorem W.lshl (C : Cx p s m meth c Z y bytes ml ret) {u : Int64} {v : Int32} (d : decode bytes pc = .ok (.lshl, 1)) (K : W p l e R s m args below meth c n0 Fe k n h (pc + 1) ls (.long (u <<< (v &&& 0x3f).toInt64) :: st)) : W p l e R s m args below meth c n0 Fe k n h pc ls (.int v :: .long u :: st) :=
  W.lift (fun T t H S => XS.lshl H C.1 rfl (C.a d) rfl S) K
theorem W.lshrV (C : Cx p s m meth c Z y bytes ml ret) {u : Int64} {v : Int32} (z : Int64) (d : decode bytes pc = .ok (.lshr, 1)) (hz : (u >>> (v &&& 0x3f).toInt64) = z) (K : W p l e R s m args below meth c n0 Fe k n h (pc + 1) ls (.long z :: st)) : W p l e R s m args below meth c n0 Fe k n h pc ls (.int v :: .long u :: st) :=
  W.lift (fun T t H S => XS.lshr H C.1 rfl (C.a d) rfl (by subst hz; exact S)) K
theorem W.lshr (C : Cx p s m meth c Z y bytes ml ret) {u : Int64} {v : Int32} (d : decode bytes pc = .ok (.lshr, 1)) (K : W p l e R s m args below meth c n0 Fe k n h (pc + 1) ls (.long (u >>> (v &&& 0x3f).toInt64) :: st)) : W p l e R s m args below meth c n0 Fe k n h pc ls (.int v :: .long u :: st) :=
  W.lift (fun T t H S => XS.lshr H C.1 rfl (C.a d) rfl S) K
theorem W.lushrV (C : Cx p s m meth c Z y bytes ml ret) {u : Int64} {v : Int32} (z : Int64) (d : decode bytes pc = .ok (.lushr, 1)) (hz : ((u.toUInt64 >>> (v &&& 0x3f).toInt64.toUInt64).toInt64) = z) (K : W p l e R s m args below meth c n0 Fe k n h (pc + 1) ls (.long z :: st)) : W p l e R s m args below meth c n0 Fe k n h pc ls (.int v :: .long u :: st) :=
  W.lift (fun T t H S => XS.lushr H C.1 rfl (C.a d) rfl (by subst hz; exact S)) K
theorem W.lushr (C : Cx p s m meth c Z y bytes ml ret) {u : Int64} {v : Int32} (d : decode bytes pc = .ok (.lushr, 1)) (K : W p l e R s m args below meth c n0 Fe k n h (pc + 1) ls (.long ((u.toUInt64 >>> (v &&& 0x3f).toInt64.toUInt64).toInt64) :: st)) : W p l e R s m args below meth c n0 Fe k n h pc ls (.int v :: .long u :: st) :=
  W.lift (fun T t H S => XS.lushr H C.1 rfl (C.a d) rfl S) K
theorem W.idivV (C : Cx p s m meth c Z y bytes ml ret) {u v : Int32} (z : Int32) (d : decode bytes pc = .ok (.idiv, 1)) (hy : v ≠ 0) (hz : (u / v) = z) (K : W p l e R s m args below meth c n0 Fe k n h (pc + 1) ls (.int z :: st)) : W p l e R s m args below meth c n0 Fe k n h pc ls (.int v :: .int u :: st) :=
  W.lift (fun T t H S => XS.idiv H C.1 rfl (C.a d) rfl hy (by subst hz; exact S)) K
theorem W.idiv (C : Cx p s m meth c Z y bytes ml ret) {u v : Int32} (d : decode bytes pc = .ok (.idiv, 1)) (hy : v ≠ 0) (K : W p l e R s m args below meth c n0 Fe k n h (pc + 1) ls (.int (u / v) :: st)) : W p l e R s m args below meth c n0 Fe k n h pc ls (.int v :: .int u :: st) :=
  W.lift (fun T t H S => XS.idiv H C.1 rfl (C.a d) rfl hy S) K
theorem W.irem (C : Cx p s m meth c Z y bytes ml ret) {u v : Int32} (d : decode bytes pc = .ok (.irem, 1)) (hy : v ≠ 0) (K : W p l e R s m args below meth c n0 Fe k n h (pc + 1) ls (.int (u % v) :: st)) : W p l e R s m args below meth c n0 Fe k n h pc ls (.int v :: .int u :: st) :=
  W.lift (fun T t H S => XS.irem H C.1 rfl (C.a d) rfl hy (by rw [irem_eq_mod u v]; exact S)) K
theorem W.ldivV (C : Cx p s m meth c Z y bytes ml ret) {u v : Int64} (z : Int64) (d : decode bytes pc = .ok (.ldiv, 1)) (hy : v ≠ 0) (hz : (u / v) = z) (K : W p l e R s m args below meth c n0 Fe k n h (pc + 1) ls (.long z :: st)) : W p l e R s m args below meth c n0 Fe k n h pc ls (.long v :: .long u :: st) :=
  W.lift (fun T t H S => XS.ldiv H C.1 rfl (C.a d) rfl hy (by subst hz; exact S)) K
theorem W.ldiv (C : Cx p s m meth c Z y bytes ml ret) {u v : Int64} (d : decode bytes pc = .ok (.ldiv, 1)) (hy : v ≠ 0) (K : W p l e R s m args below meth c n0 Fe k n h (pc + 1) ls (.long (u / v) :: st)) : W p l e R s m args below meth c n0 Fe k n h pc ls (.long v :: .long u :: st) :=
  W.lift (fun T t H S => XS.ldiv H C.1 rfl (C.a d) rfl hy S) K
theorem W.lrem (C : Cx p s m meth c Z y bytes ml ret) {u v : Int64} (d : decode bytes pc = .ok (.lrem, 1)) (hy : v ≠ 0) (K : W p l e R s m args below meth c n0 Fe k n h (pc + 1) ls (.long (u % v) :: st)) : W p l e R s m args below meth c n0 Fe k n h pc ls (.long v :: .long u :: st) :=
  W.lift (fun T t H S => XS.lrem H C.1 rfl (C.a d) rfl hy (by rw [lrem_mod u v]; exact S)) K
theorem W.inegV (C : Cx p s m meth c Z y bytes ml ret) {u : Int32} (z : Int32) (d : decode bytes pc = .ok (.ineg, 1)) (hz : (-u) = z) (K : W p l e R s m args below meth c n0 Fe k n h (pc + 1) ls (.int z :: st)) : W p l e R s m args below meth c n0 Fe k n h pc ls (.int u :: st) :=
  W.lift (fun T t H S => XS.ineg H C.1 rfl (C.a d) rfl (by subst hz; exact S)) K
theorem W.ineg (C : Cx p s m meth c Z y bytes ml ret) {u : Int32} (d : decode bytes pc = .ok (.ineg, 1)) (K : W p l e R s m args below meth c n0 Fe k n h (pc + 1) ls (.int (-u) :: st)) : W p l e R s m args below meth c n0 Fe k n h pc ls (.int u :: st) :=
  W.lift (fun T t H S => XS.ineg H C.1 rfl (C.a d) rfl S) K
theorem W.i2bV (C : Cx p s m meth c Z y bytes ml ret) {u : Int32} (z : Int32) (d : decode bytes pc = .ok (.i2b, 1)) (hz : (u.toInt8.toInt32) = z) (K : W p l e R s m args below meth c n0 Fe k n h (pc + 1) ls (.int z :: st)) : W p l e R s m args below meth c n0 Fe k n h pc ls (.int u :: st) :=
  W.lift (fun T t H S => XS.i2b H C.1 rfl (C.a d) rfl (by subst hz; exact S)) K
theorem W.i2b (C : Cx p s m meth c Z y bytes ml ret) {u : Int32} (d : decode bytes pc = .ok (.i2b, 1)) (K : W p l e R s m args below meth c n0 Fe k n h (pc + 1) ls (.int (u.toInt8.toInt32) :: st)) : W p l e R s m args below meth c n0 Fe k n h pc ls (.int u :: st) :=
  W.lift (fun T t H S => XS.i2b H C.1 rfl (C.a d) rfl S) K
theorem W.i2cV (C : Cx p s m meth c Z y bytes ml ret) {u : Int32} (z : Int32) (d : decode bytes pc = .ok (.i2c, 1)) (hz : (u.toUInt32.toUInt16.toUInt32.toInt32) = z) (K : W p l e R s m args below meth c n0 Fe k n h (pc + 1) ls (.int z :: st)) : W p l e R s m args below meth c n0 Fe k n h pc ls (.int u :: st) :=
  W.lift (fun T t H S => XS.i2c H C.1 rfl (C.a d) rfl (by subst hz; exact S)) K
theorem W.i2c (C : Cx p s m meth c Z y bytes ml ret) {u : Int32} (d : decode bytes pc = .ok (.i2c, 1)) (K : W p l e R s m args below meth c n0 Fe k n h (pc + 1) ls (.int (u.toUInt32.toUInt16.toUInt32.toInt32) :: st)) : W p l e R s m args below meth c n0 Fe k n h pc ls (.int u :: st) :=
  W.lift (fun T t H S => XS.i2c H C.1 rfl (C.a d) rfl S) K
theorem W.i2sV (C : Cx p s m meth c Z y bytes ml ret) {u : Int32} (z : Int32) (d : decode bytes pc = .ok (.i2s, 1)) (hz : (u.toInt16.toInt32) = z) (K : W p l e R s m args below meth c n0 Fe k n h (pc + 1) ls (.int z :: st)) : W p l e R s m args below meth c n0 Fe k n h pc ls (.int u :: st) :=
  W.lift (fun T t H S => XS.i2s H C.1 rfl (C.a d) rfl (by subst hz; exact S)) K
theorem W.i2s (C : Cx p s m meth c Z y bytes ml ret) {u : Int32} (d : decode bytes pc = .ok (.i2s, 1)) (K : W p l e R s m args below meth c n0 Fe k n h (pc + 1) ls (.int (u.toInt16.toInt32) :: st)) : W p l e R s m args below meth c n0 Fe k n h pc ls (.int u :: st) :=
  W.lift (fun T t H S => XS.i2s H C.1 rfl (C.a d) rfl S) K
theorem W.i2lV (C : Cx p s m meth c Z y bytes ml ret) {u : Int32} (z : Int64) (d : decode bytes pc = .ok (.i2l, 1)) (hz : u.toInt64 = z) (K : W p l e R s m args below meth c n0 Fe k n h (pc + 1) ls (.long z :: st)) : W p l e R s m args below meth c n0 Fe k n h pc ls (.int u :: st) :=
  W.lift (fun T t H S => XS.i2l H C.1 rfl (C.a d) rfl (by subst hz; exact S)) K
theorem W.i2l (C : Cx p s m meth c Z y bytes ml ret) {u : Int32} (d : decode bytes pc = .ok (.i2l, 1)) (K : W p l e R s m args below meth c n0 Fe k n h (pc + 1) ls (.long u.toInt64 :: st)) : W p l e R s m args below meth c n0 Fe k n h pc ls (.int u :: st) :=
  W.lift (fun T t H S => XS.i2l H C.1 rfl (C.a d) rfl S) K
theorem W.l2iV (C : Cx p s m meth c Z y bytes ml ret) {u : Int64} (z : Int32) (d : decode bytes pc = .ok (.l2i, 1)) (hz : u.toInt32 = z) (K : W p l e R s m args below meth c n0 Fe k n h (pc + 1) ls (.int z :: st)) : W p l e R s m args below meth c n0 Fe k n h pc ls (.long u :: st) :=
  W.lift (fun T t H S => XS.l2i H C.1 rfl (C.a d) rfl (by subst hz; exact S)) K
theorem W.l2i (C : Cx p s m meth c Z y bytes ml ret) {u : Int64} (d : decode bytes pc = .ok (.l2i, 1)) (K : W p l e R s m args below meth c n0 Fe k n h (pc + 1) ls (.int u.toInt32 :: st)) : W p l e R s m args below meth c n0 Fe k n h pc ls (.long u :: st) :=
  W.lift (fun T t H S => XS.l2i H C.1 rfl (C.a d) rfl S) K
theorem W.lnegV (C : Cx p s m meth c Z y bytes ml ret) {u : Int64} (z : Int64) (d : decode bytes pc = .ok (.lneg, 1)) (hz : (-u) = z) (K : W p l e R s m args below meth c n0 Fe k n h (pc + 1) ls (.long z :: st)) : W p l e R s m args below meth c n0 Fe k n h pc ls (.long u :: st) :=
  W.lift (fun T t H S => XS.lneg H C.1 rfl (C.a d) rfl (by subst hz; exact S)) K
theorem W.lneg (C : Cx p s m meth c Z y bytes ml ret) {u : Int64} (d : decode bytes pc = .ok (.lneg, 1)) (K : W p l e R s m args below meth c n0 Fe k n h (pc + 1) ls (.long (-u) :: st)) : W p l e R s m args below meth c n0 Fe k n h pc ls (.long u :: st) :=
  W.lift (fun T t H S => XS.lneg H C.1 rfl (C.a d) rfl S) K
theorem W.lcmpV (C : Cx p s m meth c Z y bytes ml ret) {u v : Int64} (z : Int32) (d : decode bytes pc = .ok (.lcmp, 1)) (hz : (lcmpW u v) = z) (K : W p l e R s m args below meth c n0 Fe k n h (pc + 1) ls (.int z :: st)) : W p l e R s m args below meth c n0 Fe k n h pc ls (.long v :: .long u :: st) :=
  W.lift (fun T t H S => XS.lcmp H C.1 rfl (C.a d) rfl (by subst hz; exact S)) K
theorem W.lcmp (C : Cx p s m meth c Z y bytes ml ret) {u v : Int64} (d : decode bytes pc = .ok (.lcmp, 1)) (K : W p l e R s m args below meth c n0 Fe k n h (pc + 1) ls (.int (lcmpW u v) :: st)) : W p l e R s m args below meth c n0 Fe k n h pc ls (.long v :: .long u :: st) :=
  W.lift (fun T t H S => XS.lcmp H C.1 rfl (C.a d) rfl S) K
theorem W.pop (C : Cx p s m meth c Z y bytes ml ret) {u : Value} (d : decode bytes pc = .ok (.pop, 1)) (hc : u.category = 1) (K : W p l e R s m args below meth c n0 Fe k n h (pc + 1) ls (st)) : W p l e R s m args below meth c n0 Fe k n h pc ls (u :: st) :=
  W.lift (fun T t H S => XS.pop H C.1 rfl (C.a d) rfl hc S) K
theorem W.dup (C : Cx p s m meth c Z y bytes ml ret) {u : Value} (d : decode bytes pc = .ok (.dup, 1)) (hc : u.category = 1) (K : W p l e R s m args below meth c n0 Fe k n h (pc + 1) ls (u :: u :: st)) : W p l e R s m args below meth c n0 Fe k n h pc ls (u :: st) :=
  W.lift (fun T t H S => XS.dup H C.1 rfl (C.a d) rfl hc S) K
theorem W.dupX1 (C : Cx p s m meth c Z y bytes ml ret) {u v : Value} (d : decode bytes pc = .ok (.dup_x1, 1)) (hc : u.category = 1) (hc' : v.category = 1) (K : W p l e R s m args below meth c n0 Fe k n h (pc + 1) ls (u :: v :: u :: st)) : W p l e R s m args below meth c n0 Fe k n h pc ls (u :: v :: st) :=
  W.lift (fun T t H S => XT.dupX1 H C.1 rfl (C.a d) rfl hc hc' S) K
theorem W.dup2 (C : Cx p s m meth c Z y bytes ml ret) {u v : Value} (d : decode bytes pc = .ok (.dup2, 1)) (hc : u.category = 1) (hc' : v.category = 1) (K : W p l e R s m args below meth c n0 Fe k n h (pc + 1) ls (u :: v :: u :: v :: st)) : W p l e R s m args below meth c n0 Fe k n h pc ls (u :: v :: st) :=
  W.lift (fun T t H S => XT.dup2 H C.1 rfl (C.a d) rfl hc hc' S) K
theorem W.dup2L (C : Cx p s m meth c Z y bytes ml ret) {u : Int64} (d : decode bytes pc = .ok (.dup2, 1)) (K : W p l e R s m args below meth c n0 Fe k n h (pc + 1) ls (.long u :: .long u :: st)) : W p l e R s m args below meth c n0 Fe k n h pc ls (.long u :: st) :=
  W.lift (fun T t H S => XT.dup2L H C.1 rfl (C.a d) rfl S) K
theorem W.aconstNull (C : Cx p s m meth c Z y bytes ml ret)  (d : decode bytes pc = .ok (.aconst_null, 1)) (K : W p l e R s m args below meth c n0 Fe k n h (pc + 1) ls (.null :: st)) : W p l e R s m args below meth c n0 Fe k n h pc ls (st) :=
  W.lift (fun T t H S => XS.aconstNull H C.1 rfl (C.a d)  S) K
theorem W.iconst (C : Cx p s m meth c Z y bytes ml ret) {i : Int} (v : Int32) (d : decode bytes pc = .ok (.iconst i, 1)) (hv : Int32.ofInt i = v) (K : W p l e R s m args below meth c n0 Fe k n h (pc + 1) ls (.int v :: st)) : W p l e R s m args below meth c n0 Fe k n h pc ls st :=
  W.lift (fun T t H S => XS.iconst H C.1 rfl (C.a d) (by rw [hv]; exact S)) K
theorem W.bipush (C : Cx p s m meth c Z y bytes ml ret) {i : Int} (v : Int32) (d : decode bytes pc = .ok (.bipush i, 2)) (hv : (Int8.ofInt i).toInt32 = v) (K : W p l e R s m args below meth c n0 Fe k n h (pc + 2) ls (.int v :: st)) : W p l e R s m args below meth c n0 Fe k n h pc ls st :=
  W.lift (fun T t H S => XS.bipush H C.1 rfl (C.a d) (by rw [hv]; exact S)) K
theorem W.sipush (C : Cx p s m meth c Z y bytes ml ret) {i : Int} (v : Int32) (d : decode bytes pc = .ok (.sipush i, 3)) (hv : (Int16.ofInt i).toInt32 = v) (K : W p l e R s m args below meth c n0 Fe k n h (pc + 3) ls (.int v :: st)) : W p l e R s m args below meth c n0 Fe k n h pc ls st :=
  W.lift (fun T t H S => XS.sipush H C.1 rfl (C.a d) (by rw [hv]; exact S)) K
theorem W.lconst (C : Cx p s m meth c Z y bytes ml ret) {i : Fin 2} (v : Int64) (d : decode bytes pc = .ok (.lconst i, 1)) (hv : Int64.ofNat i = v) (K : W p l e R s m args below meth c n0 Fe k n h (pc + 1) ls (.long v :: st)) : W p l e R s m args below meth c n0 Fe k n h pc ls st :=
  W.lift (fun T t H S => XS.lconst H C.1 rfl (C.a d) (by rw [hv]; exact S)) K
theorem W.iloadN (C : Cx p s m meth c Z y bytes ml ret) {i : Fin 4} {v : Int32} (d : decode bytes pc = .ok (.iload_n i, 1)) (hl : ls[i.val]? = some (.val (.int v))) (K : W p l e R s m args below meth c n0 Fe k n h (pc + 1) ls (.int v :: st)) : W p l e R s m args below meth c n0 Fe k n h pc ls st :=
  W.lift (fun T t H S => XS.iloadN H C.1 rfl (C.a d) hl S) K
theorem W.iload (C : Cx p s m meth c Z y bytes ml ret) {i : Nat} {v : Int32} (d : decode bytes pc = .ok (.iload i, 2)) (hl : ls[i]? = some (.val (.int v))) (K : W p l e R s m args below meth c n0 Fe k n h (pc + 2) ls (.int v :: st)) : W p l e R s m args below meth c n0 Fe k n h pc ls st :=
  W.lift (fun T t H S => XS.iload H C.1 rfl (C.a d) hl S) K
theorem W.istoreN (C : Cx p s m meth c Z y bytes ml ret) {i : Fin 4} {v : Int32} (l' : Array Slot) (d : decode bytes pc = .ok (.istore_n i, 1)) (hl : storeLocals ls i.val (.int v) = some l') (K : W p l e R s m args below meth c n0 Fe k n h (pc + 1) l' st) : W p l e R s m args below meth c n0 Fe k n h pc ls (.int v :: st) :=
  W.lift (fun T t H S => XS.istoreN H C.1 rfl (C.a d) rfl hl S) K
theorem W.istore (C : Cx p s m meth c Z y bytes ml ret) {i : Nat} {v : Int32} (l' : Array Slot) (d : decode bytes pc = .ok (.istore i, 2)) (hl : storeLocals ls i (.int v) = some l') (K : W p l e R s m args below meth c n0 Fe k n h (pc + 2) l' st) : W p l e R s m args below meth c n0 Fe k n h pc ls (.int v :: st) :=
  W.lift (fun T t H S => XS.istore H C.1 rfl (C.a d) rfl hl S) K
theorem W.lloadN (C : Cx p s m meth c Z y bytes ml ret) {i : Fin 4} {v : Int64} (d : decode bytes pc = .ok (.lload_n i, 1)) (hl : ls[i.val]? = some (.val (.long v))) (K : W p l e R s m args below meth c n0 Fe k n h (pc + 1) ls (.long v :: st)) : W p l e R s m args below meth c n0 Fe k n h pc ls st :=
  W.lift (fun T t H S => XS.lloadN H C.1 rfl (C.a d) hl S) K
theorem W.lload (C : Cx p s m meth c Z y bytes ml ret) {i : Nat} {v : Int64} (d : decode bytes pc = .ok (.lload i, 2)) (hl : ls[i]? = some (.val (.long v))) (K : W p l e R s m args below meth c n0 Fe k n h (pc + 2) ls (.long v :: st)) : W p l e R s m args below meth c n0 Fe k n h pc ls st :=
  W.lift (fun T t H S => XS.lload H C.1 rfl (C.a d) hl S) K
theorem W.lstoreN (C : Cx p s m meth c Z y bytes ml ret) {i : Fin 4} {v : Int64} (l' : Array Slot) (d : decode bytes pc = .ok (.lstore_n i, 1)) (hl : storeLocals ls i.val (.long v) = some l') (K : W p l e R s m args below meth c n0 Fe k n h (pc + 1) l' st) : W p l e R s m args below meth c n0 Fe k n h pc ls (.long v :: st) :=
  W.lift (fun T t H S => XS.lstoreN H C.1 rfl (C.a d) rfl hl S) K
theorem W.lstore (C : Cx p s m meth c Z y bytes ml ret) {i : Nat} {v : Int64} (l' : Array Slot) (d : decode bytes pc = .ok (.lstore i, 2)) (hl : storeLocals ls i (.long v) = some l') (K : W p l e R s m args below meth c n0 Fe k n h (pc + 2) l' st) : W p l e R s m args below meth c n0 Fe k n h pc ls (.long v :: st) :=
  W.lift (fun T t H S => XS.lstore H C.1 rfl (C.a d) rfl hl S) K
theorem W.aloadN (C : Cx p s m meth c Z y bytes ml ret) {i : Fin 4} {v : Value} (d : decode bytes pc = .ok (.aload_n i, 1)) (hl : ls[i.val]? = some (.val v)) (hv : v.isRef = true) (K : W p l e R s m args below meth c n0 Fe k n h (pc + 1) ls (v :: st)) : W p l e R s m args below meth c n0 Fe k n h pc ls st :=
  W.lift (fun T t H S => XS.aloadN H C.1 rfl (C.a d) hl hv S) K
theorem W.aload (C : Cx p s m meth c Z y bytes ml ret) {i : Nat} {v : Value} (d : decode bytes pc = .ok (.aload i, 2)) (hl : ls[i]? = some (.val v)) (hv : v.isRef = true) (K : W p l e R s m args below meth c n0 Fe k n h (pc + 2) ls (v :: st)) : W p l e R s m args below meth c n0 Fe k n h pc ls st :=
  W.lift (fun T t H S => XS.aload H C.1 rfl (C.a d) hl hv S) K
theorem W.astoreN (C : Cx p s m meth c Z y bytes ml ret) {i : Fin 4} {v : Value} (l' : Array Slot) (d : decode bytes pc = .ok (.astore_n i, 1)) (hv : v.isRef = true) (hl : storeLocals ls i.val v = some l') (K : W p l e R s m args below meth c n0 Fe k n h (pc + 1) l' st) : W p l e R s m args below meth c n0 Fe k n h pc ls (v :: st) :=
  W.lift (fun T t H S => XS.astoreN H C.1 rfl (C.a d) rfl hv hl S) K
theorem W.astore (C : Cx p s m meth c Z y bytes ml ret) {i : Nat} {v : Value} (l' : Array Slot) (d : decode bytes pc = .ok (.astore i, 2)) (hv : v.isRef = true) (hl : storeLocals ls i v = some l') (K : W p l e R s m args below meth c n0 Fe k n h (pc + 2) l' st) : W p l e R s m args below meth c n0 Fe k n h pc ls (v :: st) :=
  W.lift (fun T t H S => XS.astore H C.1 rfl (C.a d) rfl hv hl S) K
theorem W.istoreO (C : Cx p s m meth c Z y bytes ml ret) {i : Nat} {v : Int32} {o : Slot} (l' : Array Slot) (d : decode bytes pc = .ok (.istore i, 2)) (hold : ls[i]? = some o) (ho : One o) (hl : ls.setIfInBounds i (.val (.int v)) = l') (K : W p l e R s m args below meth c n0 Fe k n h (pc + 2) l' st) : W p l e R s m args below meth c n0 Fe k n h pc ls (.int v :: st) :=
  W.lift (fun T t H S => XS.istoreS H C.1 rfl (C.a d) rfl hold ho (by rw [hl]; exact S)) K
theorem W.istoreNO (C : Cx p s m meth c Z y bytes ml ret) {i : Fin 4} {v : Int32} {o : Slot} (l' : Array Slot) (d : decode bytes pc = .ok (.istore_n i, 1)) (hold : ls[i.val]? = some o) (ho : One o) (hl : ls.setIfInBounds i.val (.val (.int v)) = l') (K : W p l e R s m args below meth c n0 Fe k n h (pc + 1) l' st) : W p l e R s m args below meth c n0 Fe k n h pc ls (.int v :: st) :=
  W.lift (fun T t H S => XS.istoreNS H C.1 rfl (C.a d) rfl hold ho (by rw [hl]; exact S)) K
theorem W.iinc (C : Cx p s m meth c Z y bytes ml ret) {i : Nat} {cst : Int} {u : Int32} (v : Int32) (l' : Array Slot) (d : decode bytes pc = .ok (.iinc i cst, 3)) (hl : ls[i]? = some (.val (.int u))) (hv : u + Int32.ofInt cst = v) (hl' : storeLocals ls i (.int v) = some l') (K : W p l e R s m args below meth c n0 Fe k n h (pc + 3) l' st) : W p l e R s m args below meth c n0 Fe k n h pc ls st :=
  W.lift (fun T t H S => XS.iinc H C.1 rfl (C.a d) hl (by rw [hv]; exact hl') S) K
theorem jmp {pc pc' : Nat} {o : Int} (hp : (pc : Int) + o = pc') : 0 ≤ (pc : Int) + o ∧ ((pc : Int) + o).toNat = pc' := by omega
theorem W.goto (C : Cx p s m meth c Z y bytes ml ret) {o : Int} (pc' : Nat) (d : decode bytes pc = .ok (.goto o, 3)) (hp : (pc : Int) + o = pc') (K : W p l e R s m args below meth c n0 Fe k n h pc' ls st) : W p l e R s m args below meth c n0 Fe k n h pc ls st :=
  W.lift (fun T t H S => XS.goto H C.1 rfl (pc0 := pc) (pc' := pc') rfl (C.a d) (jmp hp).1 (jmp hp).2 S) K
theorem W.icmp_eq (C : Cx p s m meth c Z y bytes ml ret) {u v : Int32} {o : Int} (pc' : Nat) (d : decode bytes pc = .ok (.if_icmp .eq o, 3)) (hp : (pc : Int) + o = pc') (yes : u = v → W p l e R s m args below meth c n0 Fe k n h pc' ls st) (no : ¬ u = v → W p l e R s m args below meth c n0 Fe k n h (pc + 3) ls st) : W p l e R s m args below meth c n0 Fe k n h pc ls (.int v :: .int u :: st) := by
  by_cases b : u = v
  · exact W.lift (fun T t H S => XS.icmpYes H C.1 rfl (pc0 := pc) (pc' := pc') rfl (C.a d) rfl (XT.ii_eq_t b) (jmp hp).1 (jmp hp).2 S) (yes b)
  · exact W.lift (fun T t H S => XS.icmpNo H C.1 rfl (C.a d) rfl (XT.ii_eq_f b) S) (no b)
theorem W.if_eq (C : Cx p s m meth c Z y bytes ml ret) {u : Int32} {o : Int} (pc' : Nat) (d : decode bytes pc = .ok (.ifCond .eq o, 3)) (hp : (pc : Int) + o = pc') (yes : u = 0 → W p l e R s m args below meth c n0 Fe k n h pc' ls st) (no : ¬ u = 0 → W p l e R s m args below meth c n0 Fe k n h (pc + 3) ls st) : W p l e R s m args below meth c n0 Fe k n h pc ls (.int u :: st) := by
  by_cases b : u = 0
  · exact W.lift (fun T t H S => XS.ifYes H C.1 rfl (pc0 := pc) (pc' := pc') rfl (C.a d) rfl (XT.i0_eq_t b) (jmp hp).1 (jmp hp).2 S) (yes b)
  · exact W.lift (fun T t H S => XS.ifNo H C.1 rfl (C.a d) rfl (XT.i0_eq_f b) S) (no b)
theorem ll_eq_t {u v : Int64} (b : u = v) : ifCond.holds .eq (lcmpW u v) = true := XT.ll_eq_t b
theorem ll_eq_f {u v : Int64} (b : ¬ u = v) : ifCond.holds .eq (lcmpW u v) = false := XT.ll_eq_f b
theorem W.lif_eq (C : Cx p s m meth c Z y bytes ml ret) {u v : Int64} {o : Int} (pc' : Nat) (d : decode bytes pc = .ok (.ifCond .eq o, 3)) (hp : (pc : Int) + o = pc') (yes : u = v → W p l e R s m args below meth c n0 Fe k n h pc' ls st) (no : ¬ u = v → W p l e R s m args below meth c n0 Fe k n h (pc + 3) ls st) : W p l e R s m args below meth c n0 Fe k n h pc ls (.int (lcmpW u v) :: st) := by
  by_cases b : u = v
  · exact W.lift (fun T t H S => XS.ifYes H C.1 rfl (pc0 := pc) (pc' := pc') rfl (C.a d) rfl (ll_eq_t b) (jmp hp).1 (jmp hp).2 S) (yes b)
  · exact W.lift (fun T t H S => XS.ifNo H C.1 rfl (C.a d) rfl (ll_eq_f b) S) (no b)
theorem W.icmp_ne (C : Cx p s m meth c Z y bytes ml ret) {u v : Int32} {o : Int} (pc' : Nat) (d : decode bytes pc = .ok (.if_icmp .ne o, 3)) (hp : (pc : Int) + o = pc') (yes : ¬ u = v → W p l e R s m args below meth c n0 Fe k n h pc' ls st) (no : u = v → W p l e R s m args below meth c n0 Fe k n h (pc + 3) ls st) : W p l e R s m args below meth c n0 Fe k n h pc ls (.int v :: .int u :: st) := by
  by_cases b : u = v
  · exact W.lift (fun T t H S => XS.icmpNo H C.1 rfl (C.a d) rfl (XT.ii_ne_f b) S) (no b)
  · exact W.lift (fun T t H S => XS.icmpYes H C.1 rfl (pc0 := pc) (pc' := pc') rfl (C.a d) rfl (XT.ii_ne_t b) (jmp hp).1 (jmp hp).2 S) (yes b)
theorem W.if_ne (C : Cx p s m meth c Z y bytes ml ret) {u : Int32} {o : Int} (pc' : Nat) (d : decode bytes pc = .ok (.ifCond .ne o, 3)) (hp : (pc : Int) + o = pc') (yes : ¬ u = 0 → W p l e R s m args below meth c n0 Fe k n h pc' ls st) (no : u = 0 → W p l e R s m args below meth c n0 Fe k n h (pc + 3) ls st) : W p l e R s m args below meth c n0 Fe k n h pc ls (.int u :: st) := by
  by_cases b : u = 0
  · exact W.lift (fun T t H S => XS.ifNo H C.1 rfl (C.a d) rfl (XT.i0_ne_f b) S) (no b)
  · exact W.lift (fun T t H S => XS.ifYes H C.1 rfl (pc0 := pc) (pc' := pc') rfl (C.a d) rfl (XT.i0_ne_t b) (jmp hp).1 (jmp hp).2 S) (yes b)
theorem ll_ne_t {u v : Int64} (b : ¬ u = v) : ifCond.holds .ne (lcmpW u v) = true := XT.ll_ne_t b
theorem ll_ne_f {u v : Int64} (b : u = v) : ifCond.holds .ne (lcmpW u v) = false := XT.ll_ne_f b
theorem W.lif_ne (C : Cx p s m meth c Z y bytes ml ret) {u v : Int64} {o : Int} (pc' : Nat) (d : decode bytes pc = .ok (.ifCond .ne o, 3)) (hp : (pc : Int) + o = pc') (yes : ¬ u = v → W p l e R s m args below meth c n0 Fe k n h pc' ls st) (no : u = v → W p l e R s m args below meth c n0 Fe k n h (pc + 3) ls st) : W p l e R s m args below meth c n0 Fe k n h pc ls (.int (lcmpW u v) :: st) := by
  by_cases b : u = v
  · exact W.lift (fun T t H S => XS.ifNo H C.1 rfl (C.a d) rfl (ll_ne_f b) S) (no b)
  · exact W.lift (fun T t H S => XS.ifYes H C.1 rfl (pc0 := pc) (pc' := pc') rfl (C.a d) rfl (ll_ne_t b) (jmp hp).1 (jmp hp).2 S) (yes b)
theorem W.icmp_lt (C : Cx p s m meth c Z y bytes ml ret) {u v : Int32} {o : Int} (pc' : Nat) (d : decode bytes pc = .ok (.if_icmp .lt o, 3)) (hp : (pc : Int) + o = pc') (yes : u < v → W p l e R s m args below meth c n0 Fe k n h pc' ls st) (no : ¬ u < v → W p l e R s m args below meth c n0 Fe k n h (pc + 3) ls st) : W p l e R s m args below meth c n0 Fe k n h pc ls (.int v :: .int u :: st) := by
  by_cases b : u < v
  · exact W.lift (fun T t H S => XS.icmpYes H C.1 rfl (pc0 := pc) (pc' := pc') rfl (C.a d) rfl (XT.ii_lt_t b) (jmp hp).1 (jmp hp).2 S) (yes b)
  · exact W.lift (fun T t H S => XS.icmpNo H C.1 rfl (C.a d) rfl (XT.ii_lt_f b) S) (no b)
theorem W.if_lt (C : Cx p s m meth c Z y bytes ml ret) {u : Int32} {o : Int} (pc' : Nat) (d : decode bytes pc = .ok (.ifCond .lt o, 3)) (hp : (pc : Int) + o = pc') (yes : u < 0 → W p l e R s m args below meth c n0 Fe k n h pc' ls st) (no : ¬ u < 0 → W p l e R s m args below meth c n0 Fe k n h (pc + 3) ls st) : W p l e R s m args below meth c n0 Fe k n h pc ls (.int u :: st) := by
  by_cases b : u < 0
  · exact W.lift (fun T t H S => XS.ifYes H C.1 rfl (pc0 := pc) (pc' := pc') rfl (C.a d) rfl (XT.i0_lt_t b) (jmp hp).1 (jmp hp).2 S) (yes b)
  · exact W.lift (fun T t H S => XS.ifNo H C.1 rfl (C.a d) rfl (XT.i0_lt_f b) S) (no b)
theorem ll_lt_t {u v : Int64} (b : u < v) : ifCond.holds .lt (lcmpW u v) = true := XT.ll_lt_t b
theorem ll_lt_f {u v : Int64} (b : ¬ u < v) : ifCond.holds .lt (lcmpW u v) = false := XT.ll_lt_f b
theorem W.lif_lt (C : Cx p s m meth c Z y bytes ml ret) {u v : Int64} {o : Int} (pc' : Nat) (d : decode bytes pc = .ok (.ifCond .lt o, 3)) (hp : (pc : Int) + o = pc') (yes : u < v → W p l e R s m args below meth c n0 Fe k n h pc' ls st) (no : ¬ u < v → W p l e R s m args below meth c n0 Fe k n h (pc + 3) ls st) : W p l e R s m args below meth c n0 Fe k n h pc ls (.int (lcmpW u v) :: st) := by
  by_cases b : u < v
  · exact W.lift (fun T t H S => XS.ifYes H C.1 rfl (pc0 := pc) (pc' := pc') rfl (C.a d) rfl (ll_lt_t b) (jmp hp).1 (jmp hp).2 S) (yes b)
  · exact W.lift (fun T t H S => XS.ifNo H C.1 rfl (C.a d) rfl (ll_lt_f b) S) (no b)
theorem W.icmp_ge (C : Cx p s m meth c Z y bytes ml ret) {u v : Int32} {o : Int} (pc' : Nat) (d : decode bytes pc = .ok (.if_icmp .ge o, 3)) (hp : (pc : Int) + o = pc') (yes : ¬ u < v → W p l e R s m args below meth c n0 Fe k n h pc' ls st) (no : u < v → W p l e R s m args below meth c n0 Fe k n h (pc + 3) ls st) : W p l e R s m args below meth c n0 Fe k n h pc ls (.int v :: .int u :: st) := by
  by_cases b : u < v
  · exact W.lift (fun T t H S => XS.icmpNo H C.1 rfl (C.a d) rfl (XT.ii_ge_f b) S) (no b)
  · exact W.lift (fun T t H S => XS.icmpYes H C.1 rfl (pc0 := pc) (pc' := pc') rfl (C.a d) rfl (XT.ii_ge_t b) (jmp hp).1 (jmp hp).2 S) (yes b)
theorem W.if_ge (C : Cx p s m meth c Z y bytes ml ret) {u : Int32} {o : Int} (pc' : Nat) (d : decode bytes pc = .ok (.ifCond .ge o, 3)) (hp : (pc : Int) + o = pc') (yes : ¬ u < 0 → W p l e R s m args below meth c n0 Fe k n h pc' ls st) (no : u < 0 → W p l e R s m args below meth c n0 Fe k n h (pc + 3) ls st) : W p l e R s m args below meth c n0 Fe k n h pc ls (.int u :: st) := by
  by_cases b : u < 0
  · exact W.lift (fun T t H S => XS.ifNo H C.1 rfl (C.a d) rfl (XT.i0_ge_f b) S) (no b)
  · exact W.lift (fun T t H S => XS.ifYes H C.1 rfl (pc0 := pc) (pc' := pc') rfl (C.a d) rfl (XT.i0_ge_t b) (jmp hp).1 (jmp hp).2 S) (yes b)
theorem ll_ge_t {u v : Int64} (b : ¬ u < v) : ifCond.holds .ge (lcmpW u v) = true := XT.ll_ge_t b
theorem ll_ge_f {u v : Int64} (b : u < v) : ifCond.holds .ge (lcmpW u v) = false := XT.ll_ge_f b
theorem W.lif_ge (C : Cx p s m meth c Z y bytes ml ret) {u v : Int64} {o : Int} (pc' : Nat) (d : decode bytes pc = .ok (.ifCond .ge o, 3)) (hp : (pc : Int) + o = pc') (yes : ¬ u < v → W p l e R s m args below meth c n0 Fe k n h pc' ls st) (no : u < v → W p l e R s m args below meth c n0 Fe k n h (pc + 3) ls st) : W p l e R s m args below meth c n0 Fe k n h pc ls (.int (lcmpW u v) :: st) := by
  by_cases b : u < v
  · exact W.lift (fun T t H S => XS.ifNo H C.1 rfl (C.a d) rfl (ll_ge_f b) S) (no b)
  · exact W.lift (fun T t H S => XS.ifYes H C.1 rfl (pc0 := pc) (pc' := pc') rfl (C.a d) rfl (ll_ge_t b) (jmp hp).1 (jmp hp).2 S) (yes b)
theorem W.icmp_gt (C : Cx p s m meth c Z y bytes ml ret) {u v : Int32} {o : Int} (pc' : Nat) (d : decode bytes pc = .ok (.if_icmp .gt o, 3)) (hp : (pc : Int) + o = pc') (yes : v < u → W p l e R s m args below meth c n0 Fe k n h pc' ls st) (no : ¬ v < u → W p l e R s m args below meth c n0 Fe k n h (pc + 3) ls st) : W p l e R s m args below meth c n0 Fe k n h pc ls (.int v :: .int u :: st) := by
  by_cases b : v < u
  · exact W.lift (fun T t H S => XS.icmpYes H C.1 rfl (pc0 := pc) (pc' := pc') rfl (C.a d) rfl (XT.ii_gt_t b) (jmp hp).1 (jmp hp).2 S) (yes b)
  · exact W.lift (fun T t H S => XS.icmpNo H C.1 rfl (C.a d) rfl (XT.ii_gt_f b) S) (no b)
theorem W.if_gt (C : Cx p s m meth c Z y bytes ml ret) {u : Int32} {o : Int} (pc' : Nat) (d : decode bytes pc = .ok (.ifCond .gt o, 3)) (hp : (pc : Int) + o = pc') (yes : 0 < u → W p l e R s m args below meth c n0 Fe k n h pc' ls st) (no : ¬ 0 < u → W p l e R s m args below meth c n0 Fe k n h (pc + 3) ls st) : W p l e R s m args below meth c n0 Fe k n h pc ls (.int u :: st) := by
  by_cases b : 0 < u
  · exact W.lift (fun T t H S => XS.ifYes H C.1 rfl (pc0 := pc) (pc' := pc') rfl (C.a d) rfl (XT.i0_gt_t b) (jmp hp).1 (jmp hp).2 S) (yes b)
  · exact W.lift (fun T t H S => XS.ifNo H C.1 rfl (C.a d) rfl (XT.i0_gt_f b) S) (no b)
theorem ll_gt_t {u v : Int64} (b : v < u) : ifCond.holds .gt (lcmpW u v) = true := XT.ll_gt_t b
theorem ll_gt_f {u v : Int64} (b : ¬ v < u) : ifCond.holds .gt (lcmpW u v) = false := XT.ll_gt_f b
theorem W.lif_gt (C : Cx p s m meth c Z y bytes ml ret) {u v : Int64} {o : Int} (pc' : Nat) (d : decode bytes pc = .ok (.ifCond .gt o, 3)) (hp : (pc : Int) + o = pc') (yes : v < u → W p l e R s m args below meth c n0 Fe k n h pc' ls st) (no : ¬ v < u → W p l e R s m args below meth c n0 Fe k n h (pc + 3) ls st) : W p l e R s m args below meth c n0 Fe k n h pc ls (.int (lcmpW u v) :: st) := by
  by_cases b : v < u
  · exact W.lift (fun T t H S => XS.ifYes H C.1 rfl (pc0 := pc) (pc' := pc') rfl (C.a d) rfl (ll_gt_t b) (jmp hp).1 (jmp hp).2 S) (yes b)
  · exact W.lift (fun T t H S => XS.ifNo H C.1 rfl (C.a d) rfl (ll_gt_f b) S) (no b)
theorem W.icmp_le (C : Cx p s m meth c Z y bytes ml ret) {u v : Int32} {o : Int} (pc' : Nat) (d : decode bytes pc = .ok (.if_icmp .le o, 3)) (hp : (pc : Int) + o = pc') (yes : ¬ v < u → W p l e R s m args below meth c n0 Fe k n h pc' ls st) (no : v < u → W p l e R s m args below meth c n0 Fe k n h (pc + 3) ls st) : W p l e R s m args below meth c n0 Fe k n h pc ls (.int v :: .int u :: st) := by
  by_cases b : v < u
  · exact W.lift (fun T t H S => XS.icmpNo H C.1 rfl (C.a d) rfl (XT.ii_le_f b) S) (no b)
  · exact W.lift (fun T t H S => XS.icmpYes H C.1 rfl (pc0 := pc) (pc' := pc') rfl (C.a d) rfl (XT.ii_le_t b) (jmp hp).1 (jmp hp).2 S) (yes b)
theorem W.if_le (C : Cx p s m meth c Z y bytes ml ret) {u : Int32} {o : Int} (pc' : Nat) (d : decode bytes pc = .ok (.ifCond .le o, 3)) (hp : (pc : Int) + o = pc') (yes : ¬ 0 < u → W p l e R s m args below meth c n0 Fe k n h pc' ls st) (no : 0 < u → W p l e R s m args below meth c n0 Fe k n h (pc + 3) ls st) : W p l e R s m args below meth c n0 Fe k n h pc ls (.int u :: st) := by
  by_cases b : 0 < u
  · exact W.lift (fun T t H S => XS.ifNo H C.1 rfl (C.a d) rfl (XT.i0_le_f b) S) (no b)
  · exact W.lift (fun T t H S => XS.ifYes H C.1 rfl (pc0 := pc) (pc' := pc') rfl (C.a d) rfl (XT.i0_le_t b) (jmp hp).1 (jmp hp).2 S) (yes b)
theorem ll_le_t {u v : Int64} (b : ¬ v < u) : ifCond.holds .le (lcmpW u v) = true := XT.ll_le_t b
theorem ll_le_f {u v : Int64} (b : v < u) : ifCond.holds .le (lcmpW u v) = false := XT.ll_le_f b
theorem W.lif_le (C : Cx p s m meth c Z y bytes ml ret) {u v : Int64} {o : Int} (pc' : Nat) (d : decode bytes pc = .ok (.ifCond .le o, 3)) (hp : (pc : Int) + o = pc') (yes : ¬ v < u → W p l e R s m args below meth c n0 Fe k n h pc' ls st) (no : v < u → W p l e R s m args below meth c n0 Fe k n h (pc + 3) ls st) : W p l e R s m args below meth c n0 Fe k n h pc ls (.int (lcmpW u v) :: st) := by
  by_cases b : v < u
  · exact W.lift (fun T t H S => XS.ifNo H C.1 rfl (C.a d) rfl (ll_le_f b) S) (no b)
  · exact W.lift (fun T t H S => XS.ifYes H C.1 rfl (pc0 := pc) (pc' := pc') rfl (C.a d) rfl (ll_le_t b) (jmp hp).1 (jmp hp).2 S) (yes b)
theorem W.ifnullNo (C : Cx p s m meth c Z y bytes ml ret) {b : Addr} {o : Int} (d : decode bytes pc = .ok (.ifnull o, 3)) (K : W p l e R s m args below meth c n0 Fe k n h (pc + 3) ls st) : W p l e R s m args below meth c n0 Fe k n h pc ls (.ref b :: st) :=
  W.lift (fun T t H S => XS.ifnullNo H C.1 rfl (C.a d) rfl S) K
theorem W.ifnullYes (C : Cx p s m meth c Z y bytes ml ret) {o : Int} (pc' : Nat) (d : decode bytes pc = .ok (.ifnull o, 3)) (hp : (pc : Int) + o = pc') (K : W p l e R s m args below meth c n0 Fe k n h pc' ls st) : W p l e R s m args below meth c n0 Fe k n h pc ls (.null :: st) :=
  W.lift (fun T t H S => XS.ifnullYes H C.1 rfl (pc0 := pc) (pc' := pc') rfl (C.a d) rfl (jmp hp).1 (jmp hp).2 S) K
theorem W.ifnonnullYes (C : Cx p s m meth c Z y bytes ml ret) {b : Addr} {o : Int} (pc' : Nat) (d : decode bytes pc = .ok (.ifnonnull o, 3)) (hp : (pc : Int) + o = pc') (K : W p l e R s m args below meth c n0 Fe k n h pc' ls st) : W p l e R s m args below meth c n0 Fe k n h pc ls (.ref b :: st) :=
  W.lift (fun T t H S => XT.ifnonnullYes H C.1 rfl (pc0 := pc) (pc' := pc') rfl (C.a d) rfl (jmp hp).1 (jmp hp).2 S) K
theorem W.ifnonnullNo (C : Cx p s m meth c Z y bytes ml ret) {o : Int} (d : decode bytes pc = .ok (.ifnonnull o, 3)) (K : W p l e R s m args below meth c n0 Fe k n h (pc + 3) ls st) : W p l e R s m args below meth c n0 Fe k n h pc ls (.null :: st) :=
  W.lift (fun T t H S => XT.ifnonnullNo H C.1 rfl (C.a d) rfl S) K
theorem W.acmp_eq (C : Cx p s m meth c Z y bytes ml ret) {u v : Value} {o : Int} (pc' : Nat) (d : decode bytes pc = .ok (.if_acmp .eq o, 3)) (hu : u.isRef = true) (hv : v.isRef = true) (hp : (pc : Int) + o = pc') (yes : u = v → W p l e R s m args below meth c n0 Fe k n h pc' ls st) (no : ¬ u = v → W p l e R s m args below meth c n0 Fe k n h (pc + 3) ls st) : W p l e R s m args below meth c n0 Fe k n h pc ls (v :: u :: st) := by
  by_cases b : u = v
  · exact W.lift (fun T t H S => XT.acmpYes H C.1 rfl (pc0 := pc) (pc' := pc') rfl (C.a d) rfl hu hv (XT.aa_eq_t b) (jmp hp).1 (jmp hp).2 S) (yes b)
  · exact W.lift (fun T t H S => XT.acmpNo H C.1 rfl (C.a d) rfl hu hv (XT.aa_eq_f b) S) (no b)
theorem W.acmp_ne (C : Cx p s m meth c Z y bytes ml ret) {u v : Value} {o : Int} (pc' : Nat) (d : decode bytes pc = .ok (.if_acmp .ne o, 3)) (hu : u.isRef = true) (hv : v.isRef = true) (hp : (pc : Int) + o = pc') (yes : ¬ u = v → W p l e R s m args below meth c n0 Fe k n h pc' ls st) (no : u = v → W p l e R s m args below meth c n0 Fe k n h (pc + 3) ls st) : W p l e R s m args below meth c n0 Fe k n h pc ls (v :: u :: st) := by
  by_cases b : u = v
  · exact W.lift (fun T t H S => XT.acmpNo H C.1 rfl (C.a d) rfl hu hv (XT.aa_ne_f b) S) (no b)
  · exact W.lift (fun T t H S => XT.acmpYes H C.1 rfl (pc0 := pc) (pc' := pc') rfl (C.a d) rfl hu hv (XT.aa_ne_t b) (jmp hp).1 (jmp hp).2 S) (yes b)
theorem W.ldcI (C : Cx p s m meth c Z y bytes ml ret) {i : Nat} {v : Int32} (d : decode bytes pc = .ok (.ldc i, 2)) (w : (Jvm.Cond.constant y.cls i v).before a0 Z = true) (K : W p l e R s m args below meth c n0 Fe k n h (pc + 2) ls (.int v :: st)) : W p l e R s m args below meth c n0 Fe k n h pc ls st := fun T locs X eT N => by
  obtain ⟨s₂, o, h1, h2⟩ := K T locs X eT N
  exact ⟨s₂, o, X.ldcI C.1 C.2.2.1 (mvT C.2.1 w) rfl (C.a d) h1, h2⟩
theorem W.ldcWI (C : Cx p s m meth c Z y bytes ml ret) {i : Nat} {v : Int32} (d : decode bytes pc = .ok (.ldc_w i, 3)) (w : (Jvm.Cond.constant y.cls i v).before a0 Z = true) (K : W p l e R s m args below meth c n0 Fe k n h (pc + 3) ls (.int v :: st)) : W p l e R s m args below meth c n0 Fe k n h pc ls st := fun T locs X eT N => by
  obtain ⟨s₂, o, h1, h2⟩ := K T locs X eT N
  exact ⟨s₂, o, X.ldcWI C.1 C.2.2.1 (mvT C.2.1 w) rfl (C.a d) h1, h2⟩
theorem W.ldc2J (C : Cx p s m meth c Z y bytes ml ret) {i : Nat} {v : Int64} (d : decode bytes pc = .ok (.ldc2_w i, 3)) (w : (Jvm.Cond.constantLong y.cls i v).before a0 Z = true) (K : W p l e R s m args below meth c n0 Fe k n h (pc + 3) ls (.long v :: st)) : W p l e R s m args below meth c n0 Fe k n h pc ls st := fun T locs X eT N => by
  obtain ⟨s₂, o, h1, h2⟩ := K T locs X eT N
  exact ⟨s₂, o, X.ldc2J C.1 C.2.2.1 (mvT C.2.1 w) rfl (C.a d) h1, h2⟩
theorem W.iret {t : FieldType} {z : Int32} (C : Cx p s m meth c Z y bytes ml (some t)) (d : decode bytes pc = .ok (.ireturn, 1)) (ht : t = .int ∨ t = .boolean ∨ t = .byte ∨ t = .char ∨ t = .short) (hn : narrow t (.int z) = .int z) (q : ∀ (t : State) (L : List Loc), t.heap = h → Fr n0 L → FrameEnd s (.returned (some (.int z))) t L k n → Fe (some (.int z)) (.returned (some (.int z))) t L) : W p l e R s m args below meth c n0 Fe k n h pc ls (.int z :: st) := fun T locs X eT N => by
  obtain ⟨fs, hr, hrun, hended, hW, hsame⟩ := X.leave (v := some (.int z)) (fun q => by rw [C.2.2.2.2.2.1] at q; cases q) C.2.2.2.2.2.2.1
  exact ⟨_, _, retOut X C.1 C.2.2.2.2.2.1 hn (Or.inl ⟨rfl, ht, z, rfl⟩) (C.a d) hr, hrun, hended, _, _, rfl, q _ _ (show (T.setFrames fs).heap = h from eT) N ⟨⟨_, rfl⟩, hW, hsame⟩⟩
theorem W.lret {t : FieldType} {z : Int64} (C : Cx p s m meth c Z y bytes ml (some t)) (d : decode bytes pc = .ok (.lreturn, 1)) (ht : t = .long) (hn : narrow t (.long z) = .long z) (q : ∀ (t : State) (L : List Loc), t.heap = h → Fr n0 L → FrameEnd s (.returned (some (.long z))) t L k n → Fe (some (.long z)) (.returned (some (.long z))) t L) : W p l e R s m args below meth c n0 Fe k n h pc ls (.long z :: st) := fun T locs X eT N => by
  obtain ⟨fs, hr, hrun, hended, hW, hsame⟩ := X.leave (v := some (.long z)) (fun q => by rw [C.2.2.2.2.2.1] at q; cases q) C.2.2.2.2.2.2.1
  exact ⟨_, _, retOut X C.1 C.2.2.2.2.2.1 hn (Or.inr (Or.inl ⟨rfl, ht, z, rfl⟩)) (C.a d) hr, hrun, hended, _, _, rfl, q _ _ (show (T.setFrames fs).heap = h from eT) N ⟨⟨_, rfl⟩, hW, hsame⟩⟩
theorem W.aret {t : FieldType} {z : Value} (C : Cx p s m meth c Z y bytes ml (some t)) (d : decode bytes pc = .ok (.areturn, 1)) (ht : t.isReference = true) (hz : z.isRef = true) (hn : narrow t (z) = z) (q : ∀ (t : State) (L : List Loc), t.heap = h → Fr n0 L → FrameEnd s (.returned (some (z))) t L k n → Fe (some (z)) (.returned (some (z))) t L) : W p l e R s m args below meth c n0 Fe k n h pc ls (z :: st) := fun T locs X eT N => by
  obtain ⟨fs, hr, hrun, hended, hW, hsame⟩ := X.leave (v := some (z)) (fun q => by rw [C.2.2.2.2.2.1] at q; cases q) C.2.2.2.2.2.2.1
  exact ⟨_, _, retOut X C.1 C.2.2.2.2.2.1 hn (Or.inr (Or.inr (Or.inr (Or.inr ⟨rfl, ht, hz⟩)))) (C.a d) hr, hrun, hended, _, _, rfl, q _ _ (show (T.setFrames fs).heap = h from eT) N ⟨⟨_, rfl⟩, hW, hsame⟩⟩
theorem W.retV (C : Cx p s m meth c Z y bytes ml none) (d : decode bytes pc = .ok (.return_, 1)) (q : ∀ (t : State) (L : List Loc), t.heap = h → Fr n0 L → FrameEnd s (.returned none) t L k n → Fe none (.returned none) t L) : W p l e R s m args below meth c n0 Fe k n h pc ls [] := fun T locs X eT N => by
  obtain ⟨fs, hr, hrun, hended, hW, hsame⟩ := X.leave (v := none) (fun _ => rfl) C.2.2.2.2.2.2.1
  exact ⟨_, _, X.returnOut C.1 C.2.2.2.2.2.1 (C.a d) hr, hrun, hended, _, _, rfl, q _ _ (show (T.setFrames fs).heap = h from eT) N ⟨⟨_, rfl⟩, hW, hsame⟩⟩
theorem W.callS (C : Cx p s m meth c Z y bytes ml ret) {y' : MethodName} {index : Nat} {bytes' : ByteArray} {ml' : Nat} {ret' : Option FieldType} {rm : Room} {Q' : Option Value → Heap → Prop} (d : decode bytes pc = .ok (.invokestatic index, 3)) (w1 : (Jvm.Cond.methodLink y.cls index y').before a0 Z = true) (w2 : (Jvm.Cond.static y').before a0 Z = true) (w3 : (Jvm.Cond.initialized y'.cls).before a0 Z = true) (w4 : (Jvm.Cond.code y' bytes' ml' ret').before a0 Z = true) (hy : y'.cls ≠ "java/lang/invoke/MethodHandle" ∧ y'.cls ≠ "java/lang/invoke/VarHandle")
    {argsL rest : List Value} (hst : st = argsL.reverse ++ rest) (hlen : ∀ sig, parseMethodDescriptor y'.desc = some sig → argsL.length = sig.parameters.length) (D : Con l Z y' bytes' ml' ret' rm argsL.toArray h n0 Q') (w k' n' : Nat) (hW : (rest.map fun v => v.category).sum = w) (hk : k + rm.cells = k') (hn : n + rm.slots = n') (hf : rm.frames + 1 ≤ R.frames) (hl : w + (ml' + 11) + rm.locals ≤ R.locals) (hc : k' ≤ R.cells) (hs : n' ≤ R.slots) (hsz : ls.size = ml)
    (K : ∀ v h', Q' v h' → W p l e R s m args below meth c n0 Fe k' n' h' (pc + 3) ls (v.toList ++ rest)) : W p l e R s m args below meth c n0 Fe k n h pc ls st := fun T locs X eT N => by
  obtain ⟨_, _, ⟨T1, L1, k1, n1⟩, -, X1, ⟨Lc1, hQ1, l1, y1, z1⟩, st1⟩ := Jvm.LawKit.callS X C.1 (y := y') C.2.2.1 (mvT C.2.1 w1) (mvT C.2.1 w2) (mvT C.2.1 w3) (mvT C.2.1 w4) hy (backOf (W := w) (Q := fun v h' L => Q' v h' ∧ Fr n0 L) (D []) C.2.1 w4 w3 hf hl) (g := mkF m pc ls st) rfl (hsz.trans C.2.2.2.2.1.symm) (argsL := argsL) (rest := rest) hlen hst (by show 2 * 0 + _ ≤ _; omega) (C.a d) (fun _ _ => ⟨rfl, eT, by rw [hk]; exact hc, by rw [hn]; exact hs⟩)
  dsimp only [Pt.U, Pt.locs, Pt.cells, Pt.slots] at X1 l1 y1 z1 st1 hQ1
  subst l1
  rw [hk] at y1
  rw [hn] at z1
  subst y1 z1
  obtain ⟨s₂, o, g1, g2⟩ := K _ _ hQ1.1 T1 _ X1 rfl (Fr.app N hQ1.2)
  exact ⟨s₂, o, st1 _ g1, g2⟩
theorem W.callI (C : Cx p s m meth c Z y bytes ml ret) {y' : MethodName} {index : Nat} {bytes' : ByteArray} {ml' : Nat} {rm : Room} {Q' : Option Value → Heap → Prop} (d : decode bytes pc = .ok (.invokespecial index, 3)) (hi : y'.name = "<init>") (w1 : (Jvm.Cond.methodLink y.cls index y').before a0 Z = true) (w2 : (Jvm.Cond.instanceMethod y').before a0 Z = true) (w3 : (Jvm.Cond.initialized y'.cls).before a0 Z = true) (w4 : (Jvm.Cond.code y' bytes' ml' none).before a0 Z = true) (hy : y'.cls ≠ "java/lang/invoke/MethodHandle" ∧ y'.cls ≠ "java/lang/invoke/VarHandle")
    {a : Addr} {argsL rest : List Value} (hst : st = argsL.reverse ++ .ref a :: rest) (hlen : ∀ sig, parseMethodDescriptor y'.desc = some sig → argsL.length = sig.parameters.length) (D : Con l Z y' bytes' ml' none rm (.ref a :: argsL).toArray h n0 Q') (w k' n' : Nat) (hW : (rest.map fun v => v.category).sum = w) (hk : k + rm.cells = k') (hn : n + rm.slots = n') (hf : rm.frames + 1 ≤ R.frames) (hl : w + (ml' + 11) + rm.locals ≤ R.locals) (hc : k' ≤ R.cells) (hs : n' ≤ R.slots) (hsz : ls.size = ml)
    (K : ∀ v h', Q' v h' → W p l e R s m args below meth c n0 Fe k' n' h' (pc + 3) ls (v.toList ++ rest)) : W p l e R s m args below meth c n0 Fe k n h pc ls st := fun T locs X eT N => by
  obtain ⟨_, _, ⟨T1, L1, k1, n1⟩, -, X1, ⟨Lc1, hQ1, l1, y1, z1⟩, st1⟩ := X.specialBack C.1 (y := y') hi C.2.2.1 (mvT C.2.1 w1) (mvT C.2.1 w2) (mvT C.2.1 w4) hy (backOf (W := w) (Q := fun v h' L => Q' v h' ∧ Fr n0 L) (D []) C.2.1 w4 w3 hf hl) (g := mkF m pc ls st) rfl (hsz.trans C.2.2.2.2.1.symm) (Steps.refl _) (a := a) (argsL := argsL) (rest := rest) hlen hst (by show 2 * 0 + _ ≤ _; omega) (C.a d) (fun _ _ => ⟨rfl, eT, by rw [hk]; exact hc, by rw [hn]; exact hs⟩)
  dsimp only [Pt.U, Pt.locs, Pt.cells, Pt.slots] at X1 l1 y1 z1 st1 hQ1
  subst l1
  rw [hk] at y1
  rw [hn] at z1
  subst y1 z1
  obtain ⟨s₂, o, g1, g2⟩ := K _ _ hQ1.1 T1 _ X1 rfl (Fr.app N hQ1.2)
  exact ⟨s₂, o, st1.trans g1, g2⟩
theorem W.callV (C : Cx p s m meth c Z y bytes ml ret) {y' : MethodName} {K0 : String} {index : Nat} {bytes' : ByteArray} {ml' : Nat} {ret' : Option FieldType} {rm : Room} {Q' : Option Value → Heap → Prop} (d : decode bytes pc = .ok (.invokevirtual index, 3)) (w1 : (Jvm.Cond.methodLink y.cls index y').before a0 Z = true) (w2 : (Jvm.Cond.declares y').before a0 Z = true) (w5 : (Jvm.Cond.selects K0 y' y').before a0 Z = true) (w6 : (Jvm.Cond.instanceMethod y').before a0 Z = true) (w3 : (Jvm.Cond.initialized y'.cls).before a0 Z = true) (w4 : (Jvm.Cond.code y' bytes' ml' ret').before a0 Z = true) (hy : y'.cls ≠ "java/lang/invoke/MethodHandle" ∧ y'.cls ≠ "java/lang/invoke/VarHandle")
    {a : Addr} (E : Exa Z h a K0) {argsL rest : List Value} (hst : st = argsL.reverse ++ .ref a :: rest) (hlen : ∀ sig, parseMethodDescriptor y'.desc = some sig → argsL.length = sig.parameters.length) (D : Con l Z y' bytes' ml' ret' rm (.ref a :: argsL).toArray h n0 Q') (w k' n' : Nat) (hW : (rest.map fun v => v.category).sum = w) (hk : k + rm.cells = k') (hn : n + rm.slots = n') (hf : rm.frames + 1 ≤ R.frames) (hl : w + (ml' + 11) + rm.locals ≤ R.locals) (hc : k' ≤ R.cells) (hs : n' ≤ R.slots) (hsz : ls.size = ml)
    (K : ∀ v h', Q' v h' → W p l e R s m args below meth c n0 Fe k' n' h' (pc + 3) ls (v.toList ++ rest)) : W p l e R s m args below meth c n0 Fe k n h pc ls st := fun T locs X eT N => by
  obtain ⟨cq, kq, qa, qb, qc⟩ := isOf C.2.1 eT E
  obtain ⟨_, _, ⟨T1, L1, k1, n1⟩, -, X1, ⟨Lc1, hQ1, l1, y1, z1⟩, st1⟩ := X.virtualBack C.1 (y := y') (z := y') C.2.2.1 (mvT C.2.1 w1) (mvT C.2.1 w2) (notFace_of_selects (args := #[]) (mvT C.2.1 w5)) (mvT C.2.1 w5) (mvT C.2.1 w6) hy (backOf (W := w) (Q := fun v h' L => Q' v h' ∧ Fr n0 L) (D []) C.2.1 w4 w3 hf hl) qa qc (g := mkF m pc ls st) rfl (hsz.trans C.2.2.2.2.1.symm) (Steps.refl _) (argsL := argsL) (rest := rest) hlen hst (by show 2 * 0 + _ ≤ _; omega) (C.a d) (fun _ _ => ⟨rfl, eT, by rw [hk]; exact hc, by rw [hn]; exact hs⟩)
  dsimp only [Pt.U, Pt.locs, Pt.cells, Pt.slots] at X1 l1 y1 z1 st1 hQ1
  subst l1
  rw [hk] at y1
  rw [hn] at z1
  subst y1 z1
  obtain ⟨s₂, o, g1, g2⟩ := K _ _ hQ1.1 T1 _ X1 rfl (Fr.app N hQ1.2)
  exact ⟨s₂, o, st1.trans g1, g2⟩
theorem W.initO (C : Cx p s m meth c Z y bytes ml ret) {index : Nat} (d : decode bytes pc = .ok (.invokespecial index, 3)) (w1 : (Jvm.Cond.methodLink y.cls index Lib.objectInit).before a0 Z = true) (w2 : (Jvm.Cond.instanceMethod Lib.objectInit).before a0 Z = true) (w3 : (Jvm.Cond.code Lib.objectInit ⟨#[0xb1]⟩ 1 none).before a0 Z = true)
    {a : Addr} (w : Nat) (hW : (st.map fun v => v.category).sum = w) (hf : 1 ≤ R.frames) (hl : w + 12 ≤ R.locals) (hsz : ls.size = ml) (K : W p l e R s m args below meth c n0 Fe k n h (pc + 3) ls st) : W p l e R s m args below meth c n0 Fe k n h pc ls (.ref a :: st) := fun T locs X eT N => by
  obtain ⟨T1, X1, e1, st1⟩ := Jvm.RoadKit.initO X C.1 C.2.1 C.2.2.1 w1 w2 w3 eT (g := mkF m pc ls (.ref a :: st)) rfl (hsz.trans C.2.2.2.2.1.symm) rfl (C.a d) hf (W := w) (by show 2 * 0 + _ ≤ _; omega) hl
  obtain ⟨s₂, o, g1, g2⟩ := K T1 _ X1 e1 N
  exact ⟨s₂, o, st1 _ g1, g2⟩
theorem W.new (C : Cx p s m meth c Z y bytes ml ret) {index sz : Nat} {K0 : String} (d : decode bytes pc = .ok (.new index, 3)) (w1 : (Jvm.Cond.classLink y.cls index K0).before a0 Z = true) (w2 : (Jvm.Cond.instantiable K0 sz).before a0 Z = true) (w3 : (Jvm.Cond.initialized K0).before a0 Z = true) (k' n' : Nat) (hk : k + 1 = k') (hn : n + sz = n') (hc : k' ≤ R.cells) (hs : n' ≤ R.slots)
    (K : ∀ a h', a = h.size → Ext h h' → Exa Z h' a K0 → (∀ {O nm d : String} {ty : FieldType}, Laid Z a0 K0 O nm d → parseFieldDescriptor d = some ty → Fld Z h' a O nm d (defaultValue ty)) → W p l e R s m args below meth c n0 Fe k' n' h' (pc + 3) ls (.ref a :: st)) : W p l e R s m args below meth c n0 Fe k n h pc ls st := fun T locs X eT N => by
  subst hk hn
  obtain ⟨T1, h1, X1, e1, E1, A1, D1, -, st1⟩ := newO X C.1 C.2.1 C.2.2.1 w1 w2 w3 eT (g := mkF m pc ls st) rfl (C.a d) hc hs
  obtain ⟨s₂, o, g1, g2⟩ := K _ h1 rfl E1 A1 D1 T1 _ X1 e1 N
  exact ⟨s₂, o, st1 _ g1, g2⟩
theorem W.getF (C : Cx p s m meth c Z y bytes ml ret) {index : Nat} {R0 O nm dd : String} (d : decode bytes pc = .ok (.getfield index, 3)) (w : (Jvm.Cond.fieldLink y.cls index R0 nm dd).before a0 Z = true) (via : Via Z R0 O nm dd) {a : Addr} {v : Value} (F : Fld Z h a O nm dd v) (K : W p l e R s m args below meth c n0 Fe k n h (pc + 3) ls (v :: st)) : W p l e R s m args below meth c n0 Fe k n h pc ls (.ref a :: st) := fun T locs X eT N => by
  obtain ⟨T1, X1, e1, st1⟩ := Jvm.RoadKit.getF X C.1 C.2.1 C.2.2.1 (host := "") (Or.inl w) via eT F (g := mkF m pc ls (.ref a :: st)) rfl rfl (C.a d)
  obtain ⟨s₂, o, g1, g2⟩ := K T1 _ X1 e1 N
  exact ⟨s₂, o, st1 _ g1, g2⟩
theorem W.getFN (C : Cx p s m meth c Z y bytes ml ret) {index : Nat} {R0 O nm dd host : String} (d : decode bytes pc = .ok (.getfield index, 3)) (w : (Jvm.Cond.fieldLinkNest y.cls index R0 nm dd host).before a0 Z = true) (via : Via Z R0 O nm dd) {a : Addr} {v : Value} (F : Fld Z h a O nm dd v) (K : W p l e R s m args below meth c n0 Fe k n h (pc + 3) ls (v :: st)) : W p l e R s m args below meth c n0 Fe k n h pc ls (.ref a :: st) := fun T locs X eT N => by
  obtain ⟨T1, X1, e1, st1⟩ := Jvm.RoadKit.getF X C.1 C.2.1 C.2.2.1 (host := host) (Or.inr w) via eT F (g := mkF m pc ls (.ref a :: st)) rfl rfl (C.a d)
  obtain ⟨s₂, o, g1, g2⟩ := K T1 _ X1 e1 N
  exact ⟨s₂, o, st1 _ g1, g2⟩
theorem W.getS (C : Cx p s m meth c Z y bytes ml ret) {index : Nat} {R0 O nm dd : String} (d : decode bytes pc = .ok (.getstatic index, 3)) (w : (Jvm.Cond.fieldLink y.cls index R0 nm dd).before a0 Z = true) (via : Via Z R0 O nm dd) {v : Value} (F : Sta Z h O nm dd v) (K : W p l e R s m args below meth c n0 Fe k n h (pc + 3) ls (v :: st)) : W p l e R s m args below meth c n0 Fe k n h pc ls st := fun T locs X eT N => by
  obtain ⟨T1, X1, e1, st1⟩ := Jvm.RoadKit.getS X C.1 C.2.1 (host := "") C.2.2.1 w via eT F (g := mkF m pc ls st) rfl (C.a d)
  obtain ⟨s₂, o, g1, g2⟩ := K T1 _ X1 e1 N
  exact ⟨s₂, o, st1 _ g1, g2⟩
theorem W.putF (C : Cx p s m meth c Z y bytes ml ret) {index kk : Nat} {R0 O nm dd K0 : String} {ty : FieldType} (d : decode bytes pc = .ok (.putfield index, 3)) (w : (Jvm.Cond.fieldLink y.cls index R0 nm dd).before a0 Z = true) (via : Via Z R0 O nm dd) {a : Addr} {v old : Value} (F : Fld Z h a O nm dd old) (E : Exa Z h a K0) (L : (Jvm.Cond.lays K0 O nm dd).before a0 Z = true ∨ ((Jvm.Cond.laysFinal K0 O nm dd).before a0 Z = true ∧ y.cls = O ∧ y.name = "<init>")) (wi : (Jvm.Cond.instantiable K0 kk).before a0 Z = true)
    (hty : parseFieldDescriptor dd = some ty) (hn : narrow ty v = v) (hf : fits ty v = true) (g : n0 ≤ a) (K : ∀ h', Wr h h' a (Jvm.RoadKit.slotOf Z O nm dd) v → W p l e R s m args below meth c n0 Fe k n h' (pc + 3) ls st) : W p l e R s m args below meth c n0 Fe k n h pc ls (v :: .ref a :: st) := fun T locs X eT N => by
  obtain ⟨T1, h1, X1, e1, W1, st1⟩ := Jvm.RoadKit.putF X C.1 C.2.1 C.2.2.1 (host := "") (Or.inl w) via eT F E (L.imp id fun q => ⟨q.1, q.2.1, C.2.2.2.2.2.2.2.trans q.2.2⟩) wi hty hn hf (g := mkF m pc ls (v :: .ref a :: st)) rfl rfl (C.a d)
  obtain ⟨s₂, o, g1, g2⟩ := K h1 W1 T1 _ X1 e1 (Fr.snoc X1 N g)
  exact ⟨s₂, o, st1 _ g1, g2⟩
/-- an array at a of component type ty that holds vs -/
def Al (Z : State) (h : Heap) (a : Addr) (ty : FieldType) (vs : List Value) : Prop := ∃ c : Cell, Arr Z h a c ty ∧ c.slots = vs.toArray
theorem Al.lt {a : Addr} {ty : FieldType} {vs : List Value} (F : Al Z h a ty vs) : a < h.size := by obtain ⟨c, A, -⟩ := F; exact A.lt
theorem Al.ext {a : Addr} {ty : FieldType} {vs : List Value} {h' : Heap} (F : Al Z h a ty vs) (E : Ext h h') : Al Z h' a ty vs := by obtain ⟨c, A, r⟩ := F; exact ⟨c, A.ext E, r⟩
theorem Al.other {a b : Addr} {ty : FieldType} {vs : List Value} {h' : Heap} {sl : Nat} {v : Value} (F : Al Z h b ty vs) (U : Wr h h' a sl v) (q : b ≠ a) : Al Z h' b ty vs := by obtain ⟨c, A, r⟩ := F; exact ⟨c, A.other U q, r⟩
theorem Al.keep {a : Addr} {ty : FieldType} {vs : List Value} {h' : Heap} {ws : List Addr} (F : Al Z h a ty vs) (K : Keep h h' ws) (q : a ∉ ws) : Al Z h' a ty vs := by obtain ⟨c, A, r⟩ := F; exact ⟨c, ⟨K.2.1 a c A.1 q, A.2⟩, r⟩
theorem Al.set {a : Addr} {ty : FieldType} {vs : List Value} {h' : Heap} {i : Nat} {v : Value} (F : Al Z h a ty vs) (U : Wr h h' a i v) : Al Z h' a ty (vs.set i v) := by
  obtain ⟨c, A, r⟩ := F
  refine ⟨_, A.same U, ?_⟩
  simp [Cell.setSlot, r]
theorem idx_of {j : Int32} {i : Nat} (hi : j.toInt = (i : Int)) : ¬ j < 0 ∧ j.toNatClampNeg = i := by
  refine ⟨fun q => ?_, ?_⟩
  · rw [Int32.lt_iff_toInt_lt] at q
    have : (0 : Int32).toInt = 0 := rfl
    omega
  · show j.toInt.toNat = i
    omega
theorem inb_of_idx {j : Int32} {i : Nat} {cl : Cell} {vs : List Value} (hi : j.toInt = (i : Int)) (r : cl.slots = vs.toArray) (hb : i < vs.length) : ¬ (j < 0 ∨ cl.slots.size ≤ j.toNatClampNeg) := by
  obtain ⟨q1, q2⟩ := idx_of hi
  rw [q2, r]
  simp only [List.size_toArray]
  rintro (z | z)
  · exact q1 z
  · omega
theorem W.arrlen (C : Cx p s m meth c Z y bytes ml ret) {a : Addr} {ty : FieldType} {vs : List Value} (z : Int32) (d : decode bytes pc = .ok (.arraylength, 1)) (A : Al Z h a ty vs) (hz : vs.length.toInt32 = z) (K : W p l e R s m args below meth c n0 Fe k n h (pc + 1) ls (.int z :: st)) : W p l e R s m args below meth c n0 Fe k n h pc ls (.ref a :: st) := fun T locs X eT N => by
  obtain ⟨cl, A, r⟩ := A
  obtain ⟨s₂, o, g1, g2⟩ := K T locs X eT N
  refine ⟨s₂, o, X.arraylength C.1 (by rw [eT]; exact A.1) (State.isArrayOf_alike C.2.1.alike A.2.1) (g := mkF m pc ls (.ref a :: st)) rfl rfl (C.a d) _ ?_, g2⟩
  have : cl.slots.size.toInt32 = z := by rw [r]; simpa using hz
  rw [this]; exact g1
theorem W.iaload (C : Cx p s m meth c Z y bytes ml ret) {a : Addr} {vs : List Value} {j : Int32} (i : Nat) {v : Value} (d : decode bytes pc = .ok (.iaload, 1)) (A : Al Z h a .int vs) (hi : j.toInt = (i : Int)) (hv : vs[i]? = some v) (K : W p l e R s m args below meth c n0 Fe k n h (pc + 1) ls (v :: st)) : W p l e R s m args below meth c n0 Fe k n h pc ls (.int j :: .ref a :: st) := fun T locs X eT N => by
  obtain ⟨cl, A, r⟩ := A
  obtain ⟨s₂, o, g1, g2⟩ := K T locs X eT N
  have hb : i < vs.length := (List.getElem?_eq_some_iff.mp hv).1
  exact ⟨s₂, o, X.iaload C.1 (j := j) (v := v) (by rw [eT]; exact A.1) (State.isArrayOf_alike C.2.1.alike A.2.1) A.2.2 (inb_of_idx hi r hb) (by rw [(idx_of hi).2, r]; simpa using hv) (g := mkF m pc ls (.int j :: .ref a :: st)) rfl rfl (C.a d) _ g1, g2⟩
theorem W.laload (C : Cx p s m meth c Z y bytes ml ret) {a : Addr} {vs : List Value} {j : Int32} (i : Nat) {v : Value} (d : decode bytes pc = .ok (.laload, 1)) (A : Al Z h a .long vs) (hi : j.toInt = (i : Int)) (hv : vs[i]? = some v) (K : W p l e R s m args below meth c n0 Fe k n h (pc + 1) ls (v :: st)) : W p l e R s m args below meth c n0 Fe k n h pc ls (.int j :: .ref a :: st) := fun T locs X eT N => by
  obtain ⟨cl, A, r⟩ := A
  obtain ⟨s₂, o, g1, g2⟩ := K T locs X eT N
  have hb : i < vs.length := (List.getElem?_eq_some_iff.mp hv).1
  exact ⟨s₂, o, X.laload C.1 (j := j) (v := v) (by rw [eT]; exact A.1) (State.isArrayOf_alike C.2.1.alike A.2.1) A.2.2 (inb_of_idx hi r hb) (by rw [(idx_of hi).2, r]; simpa using hv) (g := mkF m pc ls (.int j :: .ref a :: st)) rfl rfl (C.a d) _ g1, g2⟩
theorem W.baload (C : Cx p s m meth c Z y bytes ml ret) {a : Addr} {vs : List Value} {j : Int32} (i : Nat) {v : Value} (d : decode bytes pc = .ok (.baload, 1)) (A : Al Z h a .byte vs) (hi : j.toInt = (i : Int)) (hv : vs[i]? = some v) (K : W p l e R s m args below meth c n0 Fe k n h (pc + 1) ls (v :: st)) : W p l e R s m args below meth c n0 Fe k n h pc ls (.int j :: .ref a :: st) := fun T locs X eT N => by
  obtain ⟨cl, A, r⟩ := A
  obtain ⟨s₂, o, g1, g2⟩ := K T locs X eT N
  have hb : i < vs.length := (List.getElem?_eq_some_iff.mp hv).1
  exact ⟨s₂, o, X.baloadBytes C.1 (j := j) (v := v) (by rw [eT]; exact A.1) (State.isArrayOf_alike C.2.1.alike A.2.1) A.2.2 (inb_of_idx hi r hb) (by rw [(idx_of hi).2, r]; simpa using hv) (g := mkF m pc ls (.int j :: .ref a :: st)) rfl rfl (C.a d) _ g1, g2⟩
theorem W.caload (C : Cx p s m meth c Z y bytes ml ret) {a : Addr} {vs : List Value} {j : Int32} (i : Nat) {v : Value} (d : decode bytes pc = .ok (.caload, 1)) (A : Al Z h a .char vs) (hi : j.toInt = (i : Int)) (hv : vs[i]? = some v) (K : W p l e R s m args below meth c n0 Fe k n h (pc + 1) ls (v :: st)) : W p l e R s m args below meth c n0 Fe k n h pc ls (.int j :: .ref a :: st) := fun T locs X eT N => by
  obtain ⟨cl, A, r⟩ := A
  obtain ⟨s₂, o, g1, g2⟩ := K T locs X eT N
  have hb : i < vs.length := (List.getElem?_eq_some_iff.mp hv).1
  exact ⟨s₂, o, X.caload C.1 (j := j) (v := v) (by rw [eT]; exact A.1) (State.isArrayOf_alike C.2.1.alike A.2.1) A.2.2 (inb_of_idx hi r hb) (by rw [(idx_of hi).2, r]; simpa using hv) (g := mkF m pc ls (.int j :: .ref a :: st)) rfl rfl (C.a d) _ g1, g2⟩
theorem W.zaload (C : Cx p s m meth c Z y bytes ml ret) {a : Addr} {vs : List Value} {j : Int32} (i : Nat) {v : Value} (d : decode bytes pc = .ok (.baload, 1)) (A : Al Z h a .boolean vs) (hi : j.toInt = (i : Int)) (hv : vs[i]? = some v) (K : W p l e R s m args below meth c n0 Fe k n h (pc + 1) ls (v :: st)) : W p l e R s m args below meth c n0 Fe k n h pc ls (.int j :: .ref a :: st) := fun T locs X eT N => by
  obtain ⟨cl, A, r⟩ := A
  obtain ⟨s₂, o, g1, g2⟩ := K T locs X eT N
  have hb : i < vs.length := (List.getElem?_eq_some_iff.mp hv).1
  exact ⟨s₂, o, X.baloadBooleans C.1 (j := j) (v := v) (by rw [eT]; exact A.1) (State.isArrayOf_alike C.2.1.alike A.2.1) A.2.2 (inb_of_idx hi r hb) (by rw [(idx_of hi).2, r]; simpa using hv) (g := mkF m pc ls (.int j :: .ref a :: st)) rfl rfl (C.a d) _ g1, g2⟩
theorem W.aaload (C : Cx p s m meth c Z y bytes ml ret) {a : Addr} {ty : FieldType} {vs : List Value} {j : Int32} (i : Nat) {v : Value} (d : decode bytes pc = .ok (.aaload, 1)) (A : Al Z h a ty vs) (hty : ty.isReference = true) (hi : j.toInt = (i : Int)) (hv : vs[i]? = some v) (K : W p l e R s m args below meth c n0 Fe k n h (pc + 1) ls (v :: st)) : W p l e R s m args below meth c n0 Fe k n h pc ls (.int j :: .ref a :: st) := fun T locs X eT N => by
  obtain ⟨cl, A, r⟩ := A
  obtain ⟨s₂, o, g1, g2⟩ := K T locs X eT N
  have hb : i < vs.length := (List.getElem?_eq_some_iff.mp hv).1
  exact ⟨s₂, o, X.aaload C.1 (j := j) (v := v) (by rw [eT]; exact A.1) (State.isArrayOf_alike C.2.1.alike A.2.1) hty A.2.2 (inb_of_idx hi r hb) (by rw [(idx_of hi).2, r]; simpa using hv) (g := mkF m pc ls (.int j :: .ref a :: st)) rfl rfl (C.a d) _ g1, g2⟩
theorem W.iastore (C : Cx p s m meth c Z y bytes ml ret) {a : Addr} {vs : List Value} {j : Int32} {x : Int32} (i : Nat) (d : decode bytes pc = .ok (.iastore, 1)) (A : Al Z h a .int vs) (hi : j.toInt = (i : Int)) (hb : i < vs.length) (g : n0 ≤ a) (K : ∀ h', Wr h h' a i (.int x) → Al Z h' a .int (vs.set i (.int x)) → W p l e R s m args below meth c n0 Fe k n h' (pc + 1) ls st) : W p l e R s m args below meth c n0 Fe k n h pc ls (.int x :: .int j :: .ref a :: st) := fun T locs X eT N => by
  obtain ⟨cl, A, r⟩ := A
  obtain ⟨T1, h1, X1, e1, W1, st1⟩ := stI X C.1 C.2.1 eT A (j := j) (x := x) (inb_of_idx hi r hb) (g := mkF m pc ls (.int x :: .int j :: .ref a :: st)) rfl rfl (C.a d)
  have N1 := Fr.snoc X1 N g
  rw [(idx_of hi).2] at W1
  obtain ⟨s₂, o, g1, g2⟩ := K h1 W1 (Al.set ⟨cl, A, r⟩ W1) T1 _ X1 e1 N1
  exact ⟨s₂, o, st1 _ g1, g2⟩
theorem W.lastore (C : Cx p s m meth c Z y bytes ml ret) {a : Addr} {vs : List Value} {j : Int32} {x : Int64} (i : Nat) (d : decode bytes pc = .ok (.lastore, 1)) (A : Al Z h a .long vs) (hi : j.toInt = (i : Int)) (hb : i < vs.length) (g : n0 ≤ a) (K : ∀ h', Wr h h' a i (.long x) → Al Z h' a .long (vs.set i (.long x)) → W p l e R s m args below meth c n0 Fe k n h' (pc + 1) ls st) : W p l e R s m args below meth c n0 Fe k n h pc ls (.long x :: .int j :: .ref a :: st) := fun T locs X eT N => by
  obtain ⟨cl, A, r⟩ := A
  obtain ⟨T1, h1, X1, e1, W1, st1⟩ := stJ X C.1 C.2.1 eT A (j := j) (x := x) (inb_of_idx hi r hb) (g := mkF m pc ls (.long x :: .int j :: .ref a :: st)) rfl rfl (C.a d)
  have N1 := Fr.snoc X1 N g
  rw [(idx_of hi).2] at W1
  obtain ⟨s₂, o, g1, g2⟩ := K h1 W1 (Al.set ⟨cl, A, r⟩ W1) T1 _ X1 e1 N1
  exact ⟨s₂, o, st1 _ g1, g2⟩
theorem W.bastore (C : Cx p s m meth c Z y bytes ml ret) {a : Addr} {vs : List Value} {j : Int32} {x : Int32} (i : Nat) (d : decode bytes pc = .ok (.bastore, 1)) (A : Al Z h a .byte vs) (hi : j.toInt = (i : Int)) (hb : i < vs.length) (g : n0 ≤ a) (K : ∀ h', Wr h h' a i (.int x.toInt8.toInt32) → Al Z h' a .byte (vs.set i (.int x.toInt8.toInt32)) → W p l e R s m args below meth c n0 Fe k n h' (pc + 1) ls st) : W p l e R s m args below meth c n0 Fe k n h pc ls (.int x :: .int j :: .ref a :: st) := fun T locs X eT N => by
  obtain ⟨cl, A, r⟩ := A
  obtain ⟨T1, h1, X1, e1, W1, st1⟩ := stB X C.1 C.2.1 eT A (j := j) (x := x) (inb_of_idx hi r hb) (g := mkF m pc ls (.int x :: .int j :: .ref a :: st)) rfl rfl (C.a d)
  have N1 := Fr.snoc X1 N g
  rw [(idx_of hi).2] at W1
  obtain ⟨s₂, o, g1, g2⟩ := K h1 W1 (Al.set ⟨cl, A, r⟩ W1) T1 _ X1 e1 N1
  exact ⟨s₂, o, st1 _ g1, g2⟩
theorem W.castore (C : Cx p s m meth c Z y bytes ml ret) {a : Addr} {vs : List Value} {j : Int32} {x : Int32} (i : Nat) (d : decode bytes pc = .ok (.castore, 1)) (A : Al Z h a .char vs) (hi : j.toInt = (i : Int)) (hb : i < vs.length) (g : n0 ≤ a) (K : ∀ h', Wr h h' a i (.int x.toUInt32.toUInt16.toUInt32.toInt32) → Al Z h' a .char (vs.set i (.int x.toUInt32.toUInt16.toUInt32.toInt32)) → W p l e R s m args below meth c n0 Fe k n h' (pc + 1) ls st) : W p l e R s m args below meth c n0 Fe k n h pc ls (.int x :: .int j :: .ref a :: st) := fun T locs X eT N => by
  obtain ⟨cl, A, r⟩ := A
  obtain ⟨T1, h1, X1, e1, W1, st1⟩ := stC X C.1 C.2.1 eT A (j := j) (x := x) (inb_of_idx hi r hb) (g := mkF m pc ls (.int x :: .int j :: .ref a :: st)) rfl rfl (C.a d)
  have N1 := Fr.snoc X1 N g
  rw [(idx_of hi).2] at W1
  obtain ⟨s₂, o, g1, g2⟩ := K h1 W1 (Al.set ⟨cl, A, r⟩ W1) T1 _ X1 e1 N1
  exact ⟨s₂, o, st1 _ g1, g2⟩
theorem W.zastore (C : Cx p s m meth c Z y bytes ml ret) {a : Addr} {vs : List Value} {j : Int32} {x : Int32} (i : Nat) (d : decode bytes pc = .ok (.bastore, 1)) (A : Al Z h a .boolean vs) (hi : j.toInt = (i : Int)) (hb : i < vs.length) (g : n0 ≤ a) (K : ∀ h', Wr h h' a i (.int (x &&& 1)) → Al Z h' a .boolean (vs.set i (.int (x &&& 1))) → W p l e R s m args below meth c n0 Fe k n h' (pc + 1) ls st) : W p l e R s m args below meth c n0 Fe k n h pc ls (.int x :: .int j :: .ref a :: st) := fun T locs X eT N => by
  obtain ⟨cl, A, r⟩ := A
  obtain ⟨T1, h1, X1, e1, W1, st1⟩ := stZ X C.1 C.2.1 eT A (j := j) (x := x) (inb_of_idx hi r hb) (g := mkF m pc ls (.int x :: .int j :: .ref a :: st)) rfl rfl (C.a d)
  have N1 := Fr.snoc X1 N g
  rw [(idx_of hi).2] at W1
  obtain ⟨s₂, o, g1, g2⟩ := K h1 W1 (Al.set ⟨cl, A, r⟩ W1) T1 _ X1 e1 N1
  exact ⟨s₂, o, st1 _ g1, g2⟩
theorem i8_i8 (y : Int32) : y.toInt8.toInt32.toInt8.toInt32 = y.toInt8.toInt32 := by simp
theorem W.bastoreI (C : Cx p s m meth c Z y bytes ml ret) {a : Addr} {vs : List Value} {j : Int32} {x : Int32} (i : Nat) (d : decode bytes pc = .ok (.bastore, 1)) (A : Al Z h a .byte vs) (hi : j.toInt = (i : Int)) (hb : i < vs.length) (g : n0 ≤ a) (K : ∀ h', Wr h h' a i (.int x.toInt8.toInt32) → Al Z h' a .byte (vs.set i (.int x.toInt8.toInt32)) → W p l e R s m args below meth c n0 Fe k n h' (pc + 1) ls st) : W p l e R s m args below meth c n0 Fe k n h pc ls (.int x.toInt8.toInt32 :: .int j :: .ref a :: st) :=
  W.bastore C i d A hi hb g (by rw [i8_i8]; exact K)
theorem W.newP (C : Cx p s m meth c Z y bytes ml ret) {aty : ArrayType} {nn : Int32} (sz cap : Nat) (d : decode bytes pc = .ok (.newarray aty, 2)) (w : (Jvm.Cond.arrayClass (newarray.typeOf aty)).before a0 Z = true) (hn : nn.toInt = (sz : Int)) (hcap : sz ≤ cap) (hb : cap * 8 ≤ 536870912) (k' n' : Nat) (hk : k + 1 = k') (hn' : n + cap = n') (hc : k' ≤ R.cells) (hl : n' ≤ R.slots)
    (K : ∀ a h', a = h.size → Ext h h' → Al Z h' a (newarray.typeOf aty) (List.replicate sz (defaultValue (newarray.typeOf aty))) → W p l e R s m args below meth c n0 Fe k' n' h' (pc + 2) ls (.ref a :: st)) : W p l e R s m args below meth c n0 Fe k n h pc ls (.int nn :: st) := fun T locs X eT N => by
  subst hk hn'
  obtain ⟨T1, h1, cA, X1, e1, E1, A1, st1⟩ := Jvm.RoadKit.newP X C.1 C.2.1 w eT (g := mkF m pc ls (.int nn :: st)) rfl (C.a d) rfl (idx_of hn).1 (cap := cap) (by rw [(idx_of hn).2]; exact hcap) hb hc hl
  obtain ⟨s₂, o, g1, g2⟩ := K _ h1 rfl E1 ⟨_, A1, by simp [newA, (idx_of hn).2]⟩ T1 _ X1 e1 N
  exact ⟨s₂, o, st1 _ g1, g2⟩
theorem dupX2s {tb : Tables} [Ours tb] {T target : State} {g : JFrame} (H : At T m c below) (hx : tb.exec = Jvm.exec) (hg : g.method = m) {u v w : Value} {rest : List Value} (hd : decode c.code g.pc = .ok (.dup_x2, 1)) (hs : g.stack = u :: v :: w :: rest) (hc : u.category = 1) (hc' : v.category = 1) (hc2 : w.category = 1)
    (hr : Steps tb e below (T.setTop { g with pc := g.pc + 1, stack := u :: v :: w :: u :: rest }) target) : Steps tb e below (T.setTop g) target := by
  subst hg
  jvm_step H [H.top, hx, hd, hs, hc, hc', hc2]
  exact hr
theorem W.dupX2 (C : Cx p s m meth c Z y bytes ml ret) {u v w : Value} (d : decode bytes pc = .ok (.dup_x2, 1)) (hc : u.category = 1) (hc' : v.category = 1) (hc2 : w.category = 1) (K : W p l e R s m args below meth c n0 Fe k n h (pc + 1) ls (u :: v :: w :: u :: st)) : W p l e R s m args below meth c n0 Fe k n h pc ls (u :: v :: w :: st) :=
  W.lift (fun T t H S => dupX2s H C.1 rfl (C.a d) rfl hc hc' hc2 S) K
theorem Al.arv {a : Addr} {ty : FieldType} {vs : List Value} {dv : Value} (F : Al Z h a ty vs) (hl : vs.length < 2147483648) (hf : ∀ v ∈ vs, fits ty v = true) : ∃ k, Arv Z h a k ty vs.length.toInt32 vs dv := by
  obtain ⟨c, A, r⟩ := F
  have hs : c.slots.size = vs.length := by rw [r]; simp
  have hz : (vs.length.toInt32).toInt = vs.length := len_toInt hl
  obtain ⟨q1, q2⟩ := idx_of hz
  refine ⟨c.cls, c, A, rfl, by rw [hs, q2], q1, fun i hi => ?_, fun i hi => ?_⟩
  · rw [hs] at hi
    rw [r]; simp [List.getD_eq_getElem?_getD, List.getElem?_eq_getElem hi]
  · rw [hs] at hi
    have : vs.getD i dv = vs[i] := by simp [List.getD_eq_getElem?_getD, List.getElem?_eq_getElem hi]
    rw [this]; exact hf _ (List.getElem_mem hi)
theorem Al.of_arv {a : Addr} {k : ClassId} {ty : FieldType} {z : Int32} {vs : List Value} {dv : Value} (F : Arv Z h a k ty z vs dv) (hl : z.toNatClampNeg = vs.length) : Al Z h a ty vs := by
  obtain ⟨c, A, -, r2, -, H, -⟩ := F
  refine ⟨c, A, ?_⟩
  have hs : c.slots.size = vs.length := r2.trans hl
  apply Array.ext_getElem?
  intro i
  by_cases hi : i < vs.length
  · rw [H i (by rw [hs]; exact hi)]; simp [List.getD_eq_getElem?_getD, List.getElem?_eq_getElem hi]
  · rw [Array.getElem?_eq_none (by rw [hs]; omega)]; simp; omega
theorem cut_map (va : List Value) (dv : Value) (i q : Nat) (h : i + q ≤ va.length) : (List.range q).map (fun t => va.getD (i + t) dv) = (va.drop i).take q := by
  apply List.ext_getElem?
  intro t
  by_cases ht : t < q
  · have h1 : i + t < va.length := by omega
    simp [List.getElem?_take, ht, List.getD_eq_getElem?_getD, List.getElem?_eq_getElem h1]
  · simp [List.getElem?_take, ht]
theorem W.arrcopy (C : Cx p s m meth c Z y bytes ml ret) {index : Nat} {a b : Addr} {ty : FieldType} {va vd : List Value} {sp dp nn : Int32} (i j q : Nat) (d : decode bytes pc = .ok (.invokestatic index, 3)) (w1 : (Jvm.Cond.methodLink y.cls index Jvm.Stand.acN).before a0 Z = true) (w2 : (Jvm.Cond.native Jvm.Stand.acN).before a0 Z = true) (w3 : (Jvm.Cond.static Jvm.Stand.acN).before a0 Z = true) (w4 : (Jvm.Cond.initialized "java/lang/System").before a0 Z = true)
    (A : Al Z h a ty va) (B : Al Z h b ty vd) (hty : refKind ty = false) (hfa : ∀ v ∈ va, fits ty v = true) (hfb : ∀ v ∈ vd, fits ty v = true) (hla : va.length < 2147483648) (hlb : vd.length < 2147483648) (hsp : sp.toInt = (i : Int)) (hdp : dp.toInt = (j : Int)) (hnn : nn.toInt = (q : Int)) (h4 : i + q ≤ va.length) (h5 : j + q ≤ vd.length) (ge : n0 ≤ b)
    (w : Nat) (hW : (st.map fun v => v.category).sum = w) (hf : 1 ≤ R.frames) (hlo : w + (nativeFrameWords "java/lang/System" "arraycopy" 5 + 11) ≤ R.locals) (hsz : ls.size = ml)
    (K : ∀ h', Keep h h' [b] → Al Z h' b ty (vd.take j ++ (va.drop i).take q ++ vd.drop (j + q)) → W p l e R s m args below meth c n0 Fe k n h' (pc + 3) ls st) : W p l e R s m args below meth c n0 Fe k n h pc ls (.int nn :: .int dp :: .ref b :: .int sp :: .ref a :: st) := fun T locs X eT N => by
  obtain ⟨ka, A⟩ := A.arv (dv := .null) hla hfa
  obtain ⟨kb, B⟩ := B.arv (dv := .null) hlb hfb
  obtain ⟨s1, s2⟩ := idx_of hsp
  obtain ⟨d1, d2⟩ := idx_of hdp
  obtain ⟨n1, n2⟩ := idx_of hnn
  have za := (idx_of (len_toInt hla)).2
  have zb := (idx_of (len_toInt hlb)).2
  obtain ⟨T1, h1, L1, X1, e1, N1, K1, B1, st1⟩ := cpA X C.1 C.2.1 C.2.2.1 w1 w2 w3 w4 eT A B (Or.inl ⟨rfl, hty⟩) s1 d1 n1 (by rw [s2, n2, za]; exact h4) (by rw [d2, n2, zb]; exact h5) rfl (by rw [d2, n2]; exact h5) N ge (g := mkF m pc ls (.int nn :: .int dp :: .ref b :: .int sp :: .ref a :: st)) rfl (hsz.trans C.2.2.2.2.1.symm) rfl (C.a d) hf (W := w) (by show 2 * 0 + _ ≤ _; omega) hlo
  rw [s2, d2, n2, cut_map va .null i q h4] at B1
  have B2 : Al Z h1 b ty (vd.take j ++ (va.drop i).take q ++ vd.drop (j + q)) := Al.of_arv B1 (by rw [zb]; simp; omega)
  obtain ⟨s₂, o, g1, g2⟩ := K h1 K1 B2 T1 _ X1 e1 N1
  exact ⟨s₂, o, st1 _ g1, g2⟩
theorem W.clone (C : Cx p s m meth c Z y bytes ml ret) {index : Nat} {ad : String} {a : Addr} {ty : FieldType} {vs : List Value} (cap : Nat) (d : decode bytes pc = .ok (.invokevirtual index, 3)) (w1 : (Jvm.Cond.methodLink y.cls index ⟨ad, "clone", "()Ljava/lang/Object;"⟩).before a0 Z = true) (w2 : (Jvm.Cond.sameMethod ad "java/lang/Object" "clone" "()Ljava/lang/Object;").before a0 Z = true) (w3 : (Jvm.Cond.native ⟨"java/lang/Object", "clone", "()Ljava/lang/Object;"⟩).before a0 Z = true)
    (w4 : (Jvm.Cond.instanceMethod ⟨"java/lang/Object", "clone", "()Ljava/lang/Object;"⟩).before a0 Z = true) (w5 : (Jvm.Cond.selects ad ⟨ad, "clone", "()Ljava/lang/Object;"⟩ ⟨"java/lang/Object", "clone", "()Ljava/lang/Object;"⟩).before a0 Z = true) (w6 : (Jvm.Cond.castable ad "java/lang/Cloneable").before a0 Z = true)
    (A : Al Z h a ty vs) (E : Exa Z h a ad) (hfa : ∀ v ∈ vs, fits ty v = true) (hla : vs.length < 2147483648) (w k' n' : Nat) (hW : (st.map fun v => v.category).sum = w) (hf : 1 ≤ R.frames) (hlo : w + 14 ≤ R.locals) (hcap : vs.length ≤ cap) (hk : k + 1 = k') (hn : n + cap = n') (hc : k' ≤ R.cells) (hs : n' ≤ R.slots) (hsz : ls.size = ml)
    (K : ∀ a' h', a' = h.size → Ext h h' → Al Z h' a' ty vs → Exa Z h' a' ad → W p l e R s m args below meth c n0 Fe k' n' h' (pc + 3) ls (.ref a' :: st)) : W p l e R s m args below meth c n0 Fe k n h pc ls (.ref a :: st) := fun T locs X eT N => by
  subst hk hn
  obtain ⟨ka, A⟩ := A.arv (dv := .null) hla hfa
  have za := (idx_of (len_toInt hla)).2
  obtain ⟨T1, h1, X1, e1, E1, B1, G1, st1⟩ := cloneH X C.1 C.2.1 C.2.2.1 w1 w2 w3 w4 w5 w6 eT A.arh E (g := mkF m pc ls (.ref a :: st)) rfl (hsz.trans C.2.2.2.2.1.symm) rfl (C.a d) hf (W := w) (cap := cap) (by show 2 * 0 + _ ≤ _; omega) hlo (by rw [za]; exact hcap) hc hs
  obtain ⟨s₂, o, g1, g2⟩ := K _ h1 rfl E1 (Al.of_arv (show Arv Z h1 h.size ka ty vs.length.toInt32 vs .null from B1) za) G1 T1 _ X1 e1 N
  exact ⟨s₂, o, st1 _ g1, g2⟩
theorem W.cast (C : Cx p s m meth c Z y bytes ml ret) {index : Nat} {K0 : String} {a : Addr} (d : decode bytes pc = .ok (.checkcast index, 3)) (w1 : (Jvm.Cond.classLink y.cls index K0).before a0 Z = true) (I : Ins Z h a K0 true) (K : W p l e R s m args below meth c n0 Fe k n h (pc + 3) ls (.ref a :: st)) : W p l e R s m args below meth c n0 Fe k n h pc ls (.ref a :: st) := fun T locs X eT N => by
  obtain ⟨T1, X1, e1, st1⟩ := castY X C.1 C.2.1 C.2.2.1 w1 eT I (g := mkF m pc ls (.ref a :: st)) rfl rfl (C.a d)
  obtain ⟨s₂, o, g1, g2⟩ := K T1 _ X1 e1 N
  exact ⟨s₂, o, st1 _ g1, g2⟩
/-- an array of references, of the class k0 -/
def Alr (Z : State) (h : Heap) (a : Addr) (k0 : ClassId) (ty : FieldType) (vs : List Value) : Prop := ∃ c : Cell, Arr Z h a c ty ∧ c.cls = k0 ∧ c.slots = vs.toArray
theorem Alr.al {a : Addr} {k0 : ClassId} {ty : FieldType} {vs : List Value} (F : Alr Z h a k0 ty vs) : Al Z h a ty vs := by obtain ⟨c, A, -, r⟩ := F; exact ⟨c, A, r⟩
theorem Alr.lt {a : Addr} {k0 : ClassId} {ty : FieldType} {vs : List Value} (F : Alr Z h a k0 ty vs) : a < h.size := F.al.lt
theorem Alr.ext {a : Addr} {k0 : ClassId} {ty : FieldType} {vs : List Value} {h' : Heap} (F : Alr Z h a k0 ty vs) (E : Ext h h') : Alr Z h' a k0 ty vs := by obtain ⟨c, A, r⟩ := F; exact ⟨c, A.ext E, r⟩
theorem Alr.other {a b : Addr} {k0 : ClassId} {ty : FieldType} {vs : List Value} {h' : Heap} {sl : Nat} {v : Value} (F : Alr Z h b k0 ty vs) (U : Wr h h' a sl v) (q : b ≠ a) : Alr Z h' b k0 ty vs := by obtain ⟨c, A, r⟩ := F; exact ⟨c, A.other U q, r⟩
theorem Alr.keep {a : Addr} {k0 : ClassId} {ty : FieldType} {vs : List Value} {h' : Heap} {ws : List Addr} (F : Alr Z h a k0 ty vs) (K : Keep h h' ws) (q : a ∉ ws) : Alr Z h' a k0 ty vs := by obtain ⟨c, A, r⟩ := F; exact ⟨c, ⟨K.2.1 a c A.1 q, A.2⟩, r⟩
theorem W.newRA (C : Cx p s m meth c Z y bytes ml ret) {index : Nat} {ty : FieldType} {K0 ad : String} {nn : Int32} (sz cap : Nat) (d : decode bytes pc = .ok (.anewarray index, 3)) (hC : (FieldType.array ty).toString = K0) (w1 : (Jvm.Cond.classLink y.cls index K0).before a0 Z = true) (w2 : (Jvm.Cond.arrayOver (.array ty)).before a0 Z = true) (had : "[" ++ K0 = ad) (hn : nn.toInt = (sz : Int)) (hcap : sz ≤ cap) (hb : cap * 8 ≤ 536870912) (k' n' : Nat) (hk : k + 1 = k') (hn' : n + cap = n') (hc : k' ≤ R.cells) (hl : n' ≤ R.slots)
    (K : ∀ a h' k0, a = h.size → Ext h h' → Alr Z h' a k0 (.array ty) (List.replicate sz .null) → OvrA Z k0 ty K0 → Exa Z h' a ad → W p l e R s m args below meth c n0 Fe k' n' h' (pc + 3) ls (.ref a :: st)) : W p l e R s m args below meth c n0 Fe k n h pc ls (.int nn :: st) := fun T locs X eT N => by
  subst hk hn'
  obtain ⟨T1, h1, cA, X1, e1, E1, A1, G1, O1, st1⟩ := Jvm.RoadKit.newRA X C.1 C.2.1 C.2.2.1 hC w1 w2 eT (g := mkF m pc ls (.int nn :: st)) rfl (C.a d) rfl (idx_of hn).1 (cap := cap) (by rw [(idx_of hn).2]; exact hcap) hb hc hl had
  obtain ⟨s₂, o, g1, g2⟩ := K _ h1 cA rfl E1 ⟨_, A1, rfl, by simp [newA, (idx_of hn).2, defaultValue]⟩ O1 G1 T1 _ X1 e1 N
  exact ⟨s₂, o, st1 _ g1, g2⟩
theorem W.newPE (C : Cx p s m meth c Z y bytes ml ret) {aty : ArrayType} {nn : Int32} {ad : String} (sz cap : Nat) (d : decode bytes pc = .ok (.newarray aty, 2)) (w : (Jvm.Cond.arrayClass (newarray.typeOf aty)).before a0 Z = true) (had : "[" ++ (newarray.typeOf aty).toString = ad) (hn : nn.toInt = (sz : Int)) (hcap : sz ≤ cap) (hb : cap * 8 ≤ 536870912) (k' n' : Nat) (hk : k + 1 = k') (hn' : n + cap = n') (hc : k' ≤ R.cells) (hl : n' ≤ R.slots)
    (K : ∀ a h', a = h.size → Ext h h' → Al Z h' a (newarray.typeOf aty) (List.replicate sz (defaultValue (newarray.typeOf aty))) → Exa Z h' a ad → W p l e R s m args below meth c n0 Fe k' n' h' (pc + 2) ls (.ref a :: st)) : W p l e R s m args below meth c n0 Fe k n h pc ls (.int nn :: st) := fun T locs X eT N => by
  subst hk hn'
  obtain ⟨T1, h1, cA, X1, e1, E1, A1, G1, st1⟩ := Jvm.RoadKit.newPE X C.1 C.2.1 w eT (g := mkF m pc ls (.int nn :: st)) rfl (C.a d) rfl (idx_of hn).1 (cap := cap) (by rw [(idx_of hn).2]; exact hcap) hb hc hl had
  obtain ⟨s₂, o, g1, g2⟩ := K _ h1 rfl E1 ⟨_, A1, by simp [newA, (idx_of hn).2]⟩ G1 T1 _ X1 e1 N
  exact ⟨s₂, o, st1 _ g1, g2⟩
theorem W.aastoreA (C : Cx p s m meth c Z y bytes ml ret) {a b : Addr} {k0 : ClassId} {ty : FieldType} {K0 : String} {vs : List Value} {j : Int32} (i : Nat) (d : decode bytes pc = .ok (.aastore, 1)) (A : Alr Z h a k0 (.array ty) vs) (O : OvrA Z k0 ty K0) (I : Ins Z h b K0 true) (hi : j.toInt = (i : Int)) (hb : i < vs.length) (g : n0 ≤ a) (K : ∀ h', Wr h h' a i (.ref b) → Alr Z h' a k0 (.array ty) (vs.set i (.ref b)) → W p l e R s m args below meth c n0 Fe k n h' (pc + 1) ls st) : W p l e R s m args below meth c n0 Fe k n h pc ls (.ref b :: .int j :: .ref a :: st) := fun T locs X eT N => by
  obtain ⟨cl, A, q0, r⟩ := A
  obtain ⟨T1, h1, X1, e1, W1, st1⟩ := stR X C.1 C.2.1 eT A (j := j) (inb_of_idx hi r hb) rfl (Sto.ofVA A q0 O I) (g := mkF m pc ls (.ref b :: .int j :: .ref a :: st)) rfl rfl (C.a d)
  have N1 := Fr.snoc X1 N g
  rw [(idx_of hi).2] at W1
  obtain ⟨s₂, o, g1, g2⟩ := K h1 W1 ⟨_, A.same W1, q0, by simp [Cell.setSlot, r]⟩ T1 _ X1 e1 N1
  exact ⟨s₂, o, st1 _ g1, g2⟩
theorem ConW.of {rm : Room} {as' : Array Value} {h0 : Heap} (hpn : plainFor y = true) {ls : Array Slot} (hent : ∀ m, entryFrame m as' ml = mkF m 0 ls [])
    (hW : ∀ p e s m below meth c, Cx p (s.setVm s.vm) m meth c Z y bytes ml ret → Pv s.vm → Sn s s.vm h0 → W p l e rm (s.setVm s.vm) m as' below meth c n0 (FW s n0 Qw rm.cells rm.slots) 0 0 h0 0 ls []) : ConW l Z y bytes ml ret rm as' h0 n0 Pv Qw := by
  intro ws
  refine MetFree.of_bodySF hpn hisR ?_
  intro p e s m args below meth c s₁ Bd hml0 hP hK
  obtain ⟨rfl, hZ, hh, hpv⟩ := hP
  have X0 : Stand p l e rm (s.setVm s.vm) m _ below meth c s₁ [] 0 0 := Stand.of_body Bd
  have e0 : s₁.heap = h0 := by rw [← hh, Bd.state]; rfl
  obtain ⟨s₂, o, h1, h2⟩ := hW p e s m below meth c ⟨Bd.exec, hZ, findClass_of_methodNamed Bd.named, Bd.bytes, hml0, Bd.returns, Bd.notSynchronized, (name_of_methodNamed Bd.named Bd.method).1⟩ hpv ⟨0, (State.WarmedH.refl s).since 0, Nat.zero_le _⟩ s₁ [] X0 e0 (Fr.nil n0)
  exact ⟨s₂, o, castTop (hent m) h1, h2⟩
theorem backW {y' : MethodName} {bytes' : ByteArray} {ml' : Nat} {ret' : Option FieldType} {rm : Room} {len w : Nat} {as' : Array Value} (D : ConW l Z y' bytes' ml' ret' rm as' h n0 Pv Qw)
    (hZ : Z.Warmed39 s.vm) (wc : (Jvm.Cond.code y' bytes' ml' ret').before a0 Z = true) (wz : (Jvm.Cond.initialized y'.cls).before a0 Z = true) (hf : rm.frames + 1 ≤ R.frames) (hl : w + (ml' + 11) + rm.locals ≤ R.locals) :
    BackS l R p e below s args y' len w (fun A a => (a = as' ∧ A.U.heap = h ∧ Pv A.U.vm) ∧ A.cells + rm.cells ≤ R.cells ∧ A.slots + rm.slots ≤ R.slots)
      (fun A _ v B => ∃ L, (Qw v B.U.heap B.U.vm ∧ Fr n0 L) ∧ B.locs = A.locs ++ L ∧ B.cells = A.cells + rm.cells ∧ B.slots = A.slots + rm.slots) := by
  refine BackS.of_freeW (bytes := bytes') (maxL := ml') (ret := ret') (E := fun _ _ o t L k n => (k = rm.cells ∧ n = rm.slots) ∧ ∃ v, o = .returned v ∧ Qw v t.heap t.vm ∧ Fr n0 L) (D []) hf hl ?_ ?_ ?_ ?_ ?_
  · intro m meth c A a Y hp
    have hU : Z.Warmed39 A.U.vm := wtrans hZ Y.warmed
    have hc := mv (args := a) hU wc
    refine ⟨?_, hc, mv hU wz, hp.2.1, hp.2.2⟩
    show (Jvm.Cond.and _ .tt).before a A.U = true
    rw [Cond.before_and, hc]; rfl
  · intro m meth c A a g mk Y hp
    exact ⟨hp.1.1, wtrans hZ Y.warmed, hp.1.2.1, hp.1.2.2⟩
  · intros; trivial
  · intro a first o t q
    obtain ⟨v, L, h1, h2, h3⟩ := q
    exact ⟨L, _, _, h3, ⟨rfl, rfl⟩, v, h1, h2⟩
  · intro m meth c A a g mk v t L k n Y hp _ _ q
    obtain ⟨⟨e1, e2⟩, v', e3, e4⟩ := q
    cases e3; subst e1 e2
    exact ⟨L, e4, rfl, rfl, rfl⟩
theorem Cx.w {vm1 : Vm} (C : Cx p (s.setVm vm0) m meth c Z y bytes ml ret) (h1 : Z.Warmed39 vm1) (h2 : vm1.findClass y.cls = some m.cls) : Cx p (s.setVm vm1) m meth c Z y bytes ml ret := ⟨C.1, h1, h2, C.2.2.2⟩
theorem W.callSW (C : Cx p (s.setVm vm0) m meth c Z y bytes ml ret) (S : Sn s vm0 h) {y' : MethodName} {index : Nat} {bytes' : ByteArray} {ml' : Nat} {ret' : Option FieldType} {rm : Room} (d : decode bytes pc = .ok (.invokestatic index, 3)) (w1 : (Jvm.Cond.methodLink y.cls index y').before a0 Z = true) (w2 : (Jvm.Cond.static y').before a0 Z = true) (w3 : (Jvm.Cond.initialized y'.cls).before a0 Z = true) (w4 : (Jvm.Cond.code y' bytes' ml' ret').before a0 Z = true) (hy : y'.cls ≠ "java/lang/invoke/MethodHandle" ∧ y'.cls ≠ "java/lang/invoke/VarHandle")
    {argsL rest : List Value} (hst : st = argsL.reverse ++ rest) (hlen : ∀ sig, parseMethodDescriptor y'.desc = some sig → argsL.length = sig.parameters.length) (D : ConW l Z y' bytes' ml' ret' rm argsL.toArray h n0 Pv Qw) (hpv : ∀ vm', (s.setVm vm0).WarmedH vm' → Pv vm') (w k' n' : Nat) (hW : (rest.map fun v => v.category).sum = w) (hk : k + rm.cells = k') (hn : n + rm.slots = n') (hf : rm.frames + 1 ≤ R.frames) (hl : w + (ml' + 11) + rm.locals ≤ R.locals) (hc : k' ≤ R.cells) (hs : n' ≤ R.slots) (hsz : ls.size = ml)
    (K : ∀ v h' vm1, Qw v h' vm1 → h.size ≤ h'.size → Cx p (s.setVm vm1) m meth c Z y bytes ml ret → Sn s vm1 h' → W p l e R (s.setVm vm1) m args below meth c n0 Fe k' n' h' (pc + 3) ls (v.toList ++ rest)) : W p l e R (s.setVm vm0) m args below meth c n0 Fe k n h pc ls st := fun T locs X eT N => by
  obtain ⟨v1, vm₁, ⟨T1, L1, k1, n1⟩, -, X1, hS1, hg1, ⟨Lc1, hQ1, l1, y1, z1⟩, st1⟩ := Jvm.RoadKit.callSS X C.1 (y := y') C.2.2.1 (mvT C.2.1 w1) (mvT C.2.1 w2) (mvT C.2.1 w3) (mvT C.2.1 w4) hy (backW (w := w) D C.2.1 w4 w3 hf hl) (g := mkF m pc ls st) rfl (hsz.trans C.2.2.2.2.1.symm) (argsL := argsL) (rest := rest) hlen hst (by show 2 * 0 + _ ≤ _; omega) (C.a d) (fun vm₁ hw₁ => ⟨⟨rfl, eT, hpv vm₁ hw₁⟩, by rw [hk]; exact hc, by rw [hn]; exact hs⟩)
  dsimp only [Pt.U, Pt.locs, Pt.cells, Pt.slots] at X1 hS1 hg1 l1 y1 z1 st1 hQ1
  subst l1
  rw [hk] at y1
  rw [hn] at z1
  subst y1 z1
  obtain ⟨k0, S, b0⟩ := S
  have hg2 : h.size ≤ T1.heap.size := by rw [← eT]; exact hg1
  obtain ⟨X2, S2, hZ2, ho2⟩ := rebS S b0 X1 hS1 hg2 C.2.1 C.2.2.1
  obtain ⟨s₂, o, g1, g2⟩ := K _ _ _ hQ1.1 hg2 (C.w hZ2 ho2) ⟨_, S2, Nat.le_refl _⟩ T1 _ X2 rfl (Fr.app N hQ1.2)
  exact ⟨s₂, o, st1.trans g1, g2⟩
theorem W.callIW (C : Cx p (s.setVm vm0) m meth c Z y bytes ml ret) (S : Sn s vm0 h) {y' : MethodName} {index : Nat} {bytes' : ByteArray} {ml' : Nat} {rm : Room} (d : decode bytes pc = .ok (.invokespecial index, 3)) (hi : y'.name = "<init>") (w1 : (Jvm.Cond.methodLink y.cls index y').before a0 Z = true) (w2 : (Jvm.Cond.instanceMethod y').before a0 Z = true) (w3 : (Jvm.Cond.initialized y'.cls).before a0 Z = true) (w4 : (Jvm.Cond.code y' bytes' ml' none).before a0 Z = true) (hy : y'.cls ≠ "java/lang/invoke/MethodHandle" ∧ y'.cls ≠ "java/lang/invoke/VarHandle")
    {a : Addr} {argsL rest : List Value} (hst : st = argsL.reverse ++ .ref a :: rest) (hlen : ∀ sig, parseMethodDescriptor y'.desc = some sig → argsL.length = sig.parameters.length) (D : ConW l Z y' bytes' ml' none rm (.ref a :: argsL).toArray h n0 Pv Qw) (hpv : ∀ vm', (s.setVm vm0).WarmedH vm' → Pv vm') (w k' n' : Nat) (hW : (rest.map fun v => v.category).sum = w) (hk : k + rm.cells = k') (hn : n + rm.slots = n') (hf : rm.frames + 1 ≤ R.frames) (hl : w + (ml' + 11) + rm.locals ≤ R.locals) (hc : k' ≤ R.cells) (hs : n' ≤ R.slots) (hsz : ls.size = ml)
    (K : ∀ v h' vm1, Qw v h' vm1 → h.size ≤ h'.size → Cx p (s.setVm vm1) m meth c Z y bytes ml ret → Sn s vm1 h' → W p l e R (s.setVm vm1) m args below meth c n0 Fe k' n' h' (pc + 3) ls (v.toList ++ rest)) : W p l e R (s.setVm vm0) m args below meth c n0 Fe k n h pc ls st := fun T locs X eT N => by
  obtain ⟨v1, vm₁, ⟨T1, L1, k1, n1⟩, -, X1, hS1, hg1, ⟨Lc1, hQ1, l1, y1, z1⟩, st1⟩ := X.specialBackS C.1 (y := y') hi C.2.2.1 (mvT C.2.1 w1) (mvT C.2.1 w2) (mvT C.2.1 w4) hy (backW (w := w) D C.2.1 w4 w3 hf hl) (g := mkF m pc ls st) rfl (hsz.trans C.2.2.2.2.1.symm) (Steps.refl _) (a := a) (argsL := argsL) (rest := rest) hlen hst (by show 2 * 0 + _ ≤ _; omega) (C.a d) (fun vm₁ hw₁ => ⟨⟨rfl, eT, hpv vm₁ hw₁⟩, by rw [hk]; exact hc, by rw [hn]; exact hs⟩)
  dsimp only [Pt.U, Pt.locs, Pt.cells, Pt.slots] at X1 hS1 hg1 l1 y1 z1 st1 hQ1
  subst l1
  rw [hk] at y1
  rw [hn] at z1
  subst y1 z1
  obtain ⟨k0, S, b0⟩ := S
  have hg2 : h.size ≤ T1.heap.size := by rw [← eT]; exact hg1
  obtain ⟨X2, S2, hZ2, ho2⟩ := rebS S b0 X1 hS1 hg2 C.2.1 C.2.2.1
  obtain ⟨s₂, o, g1, g2⟩ := K _ _ _ hQ1.1 hg2 (C.w hZ2 ho2) ⟨_, S2, Nat.le_refl _⟩ T1 _ X2 rfl (Fr.app N hQ1.2)
  exact ⟨s₂, o, st1.trans g1, g2⟩
theorem W.ldcV (C : Cx p (s.setVm vm0) m meth c Z y bytes ml ret) (S : Sn s vm0 h) {index : Nat} {EL : List (String × Nat)} (d : decode bytes pc = .ok (.ldc index, 2)) (w : (Jvm.Cond.stringLink y.cls index "").before a0 Z = true) (wS : ∀ a ∈ Bundle.stringAtoms, a.before a0 Z = true) (hEL : EW Z a0 EL) (hmem : (y.cls, index) ∈ EL) (H : CHv Z EL vm0 h) (k' n' : Nat) (hk : k + 2 = k') (hn : n + 4 = n') (hc : k' ≤ R.cells) (hs : n' ≤ R.slots)
    (K : ∀ a h' vm1 b, Ext h h' → Exa Z h' a "java/lang/String" → Fld Z h' a "java/lang/String" "coder" "B" (.int 0) → Fld Z h' a "java/lang/String" "value" "[B" (.ref b) → Al Z h' b .byte [] → CHr Z EL vm0 h vm1 h' → (∀ x, Safe Z EL vm1 h' x → x ≠ a ∧ x ≠ b) → Cx p (s.setVm vm1) m meth c Z y bytes ml ret → Sn s vm1 h' → W p l e R (s.setVm vm1) m args below meth c n0 Fe k' n' h' (pc + 2) ls (.ref a :: st)) : W p l e R (s.setVm vm0) m args below meth c n0 Fe k n h pc ls st := fun T locs X eT N => by
  subst hk hn
  obtain ⟨k0, S, b0⟩ := S
  obtain ⟨a, T', h', k1, b, kc1, X', e', E', S', b1, hZ', ho', r1, r2, r3, r4, r5, r6, r7, r8, r9, st'⟩ := ldcCH X C.1 C.2.1 C.2.2.1 w wS eT S b0 hEL hmem H (vs := []) (z := 0) ⟨by intro c hc; simp at hc, rfl⟩ (by decide) rfl (g := mkF m pc ls st) rfl (C.a d) (n := 0) (by simp) (by decide) hc hs
  obtain ⟨s₂, o, g1, g2⟩ := K a h' T'.vm b E' r1 r2 r3 (Al.of_arv r4 rfl) r7 r9 (C.w hZ' ho') ⟨k1, S', b1⟩ T' _ X' e' N
  exact ⟨s₂, o, st' _ g1, g2⟩
theorem W.ldcO (C : Cx p (s.setVm vm0) m meth c Z y bytes ml ret) (S : Sn s vm0 h) {index : Nat} {text : String} {EL : List (String × Nat)} (cap : Nat) (d : decode bytes pc = .ok (.ldc index, 2)) (w : (Jvm.Cond.stringLink y.cls index text).before a0 Z = true) (wS : ∀ a ∈ Bundle.stringAtoms, a.before a0 Z = true) (hEL : EW Z a0 EL) (H : CHv Z EL vm0 h) (hcap : 4 * text.toList.length ≤ cap) (hbig : cap ≤ 536870912) (k' n' : Nat) (hk : k + 2 = k') (hn : n + (cap + 4) = n') (hc : k' ≤ R.cells) (hs : n' ≤ R.slots)
    (K : ∀ a h' vm1, Ext h h' → CHr Z EL vm0 h vm1 h' → Cx p (s.setVm vm1) m meth c Z y bytes ml ret → Sn s vm1 h' → W p l e R (s.setVm vm1) m args below meth c n0 Fe k' n' h' (pc + 2) ls (.ref a :: st)) : W p l e R (s.setVm vm0) m args below meth c n0 Fe k n h pc ls st := fun T locs X eT N => by
  subst hk hn
  obtain ⟨k0, S, b0⟩ := S
  obtain ⟨a, T', h', k1, X', e', E', S', b1, hZ', ho', r1, r2, st'⟩ := ldcOH X C.1 C.2.1 C.2.2.1 w wS eT S b0 hEL H (g := mkF m pc ls st) rfl (C.a d) (n := cap) hcap hbig hc hs
  obtain ⟨s₂, o, g1, g2⟩ := K a h' T'.vm E' r1 (C.w hZ' ho') ⟨k1, S', b1⟩ T' _ X' e' N
  exact ⟨s₂, o, st' _ g1, g2⟩
end
theorem tkw {ts : List Jvm.Cond} {a0 : Array Value} {Z : State} (hw : ∀ d ∈ ts, d.before a0 Z = true) (i : Nat) {d : Jvm.Cond} (q : ts[i]? = some d) : d.before a0 Z = true := hw d (List.mem_of_getElem? q)
end Jvm.OwnKit
namespace Jvm.Pilot.@@N@@
open Jvm Jvm.ClassFile Sem Op Lib Jvm.Free Jvm.Stand Jvm.LawKit Jvm.RoadKit Bundle Jvm.OwnKit Jvm.Pilot.@@N@@.Jvm.D
abbrev own_EL : List (String × Nat) := [("com/example/dibs/dibs/redis/LockKeys", 174), ("com/example/dibs/dibs/redis/LockKeys", 176), ("java/lang/String", 7)]
theorem own_ew {Z : State} {a0 : Array Value} (hw : ∀ d ∈ tables_1, d.before a0 Z = true) : EW Z a0 own_EL := (EW.cons (tkw hw 32 rfl) (by first | (intro c hc; simp at hc; done) | decide | decide +kernel) (EW.cons (tkw hw 37 rfl) (by first | (intro c hc; simp at hc; done) | decide | decide +kernel) (EW.cons (tkw hw 20 rfl) (by first | (intro c hc; simp at hc; done) | decide | decide +kernel) EW.nil)))
theorem own_sa {Z : State} {a0 : Array Value} (hw : ∀ d ∈ tables_1, d.before a0 Z = true) : ∀ a ∈ Bundle.stringAtoms, a.before a0 Z = true := by
  intro a ha
  simp only [Bundle.stringAtoms, Bundle.sN, List.mem_cons, List.not_mem_nil, or_false] at ha
  rcases ha with rfl | rfl | rfl | rfl | rfl | rfl | rfl
  · exact tkw hw 8 rfl
  · exact tkw hw 7 rfl
  · exact tkw hw 21 rfl
  · exact tkw hw 22 rfl
  · exact tkw hw 23 rfl
  · exact tkw hw 24 rfl
  · exact tkw hw 25 rfl
theorem own_gc (c : Int32) (h0 : 0 ≤ c.toInt) (h1 : c.toInt < 65536) : ((((((c >>> ((0 : Int32) &&& 31))).toInt8.toInt32) &&& (255 : Int32)) <<< ((0 : Int32) &&& 31)) ||| (((((c >>> ((8 : Int32) &&& 31))).toInt8.toInt32) &&& (255 : Int32)) <<< ((8 : Int32) &&& 31))).toUInt32.toUInt16.toUInt32.toInt32 = c := by
  have a1 := c_ishr c 0 0 (by decide)
  have a2 := c_ishr c 8 8 (by decide)
  generalize c >>> ((0 : Int32) &&& 31) = x at *
  generalize c >>> ((8 : Int32) &&& 31) = y at *
  have b1 := c_i2b x
  have b2 := c_i2b y
  have m1 := c_mask x.toInt8.toInt32 255 8 (by decide) (by decide)
  have m2 := c_mask y.toInt8.toInt32 255 8 (by decide) (by decide)
  generalize x.toInt8.toInt32 &&& (255 : Int32) = u at *
  generalize y.toInt8.toInt32 &&& (255 : Int32) = v at *
  have s1 := c_ishl u 0 0 (by decide)
  have s2 := c_ishl v 8 8 (by decide)
  have r1 := rng32 (u <<< ((0 : Int32) &&& 31))
  have r2 := rng32 (v <<< ((8 : Int32) &&& 31))
  generalize u <<< ((0 : Int32) &&& 31) = p at *
  generalize v <<< ((8 : Int32) &&& 31) = q at *
  have o := c_or' p q 8 (by decide) 256 (by decide) (by omega) (by omega) (by omega)
  have z := c_i2c (p ||| q)
  have r3 := rng32 (p ||| q)
  apply Int32.toInt_inj.mp
  omega
theorem own_lc (c : Int32) (h0 : 0 ≤ c.toInt) (h1 : ¬ (255 : Int32) < c) : (((c).toInt8.toInt32) &&& (255 : Int32)).toUInt32.toUInt16.toUInt32.toInt32 = c := by
  have h2 : c.toInt ≤ 255 := by
    have h3 : ¬ (255 : Int32).toInt < c.toInt := fun q => h1 (Int32.lt_iff_toInt_lt.mpr q)
    have z : (255 : Int32).toInt = 255 := rfl
    omega
  have b1 := c_i2b c
  have m1 := c_mask c.toInt8.toInt32 255 8 (by decide) (by decide)
  rw [i2c_mask]
  apply Int32.toInt_inj.mp
  omega
theorem own_rg (y : Int32) : 0 ≤ y.toUInt32.toUInt16.toUInt32.toInt32.toInt ∧ y.toUInt32.toUInt16.toUInt32.toInt32.toInt < 65536 := ⟨(c_i2c y).2.1, (c_i2c y).2.2⟩
abbrev y17 : MethodName := ⟨"jdk/internal/util/Preconditions", "checkIndex", "(IILjava/util/function/BiFunction;)I"⟩
theorem d17_0 : decode jdk_41_method_11_code 0 = .ok (.iload_n 0, 1) := by decide +kernel
theorem d17_1 : decode jdk_41_method_11_code 1 = .ok (.ifCond .lt 8, 3) := by decide +kernel
theorem d17_4 : decode jdk_41_method_11_code 4 = .ok (.iload_n 0, 1) := by decide +kernel
theorem d17_5 : decode jdk_41_method_11_code 5 = .ok (.iload_n 1, 1) := by decide +kernel
theorem d17_6 : decode jdk_41_method_11_code 6 = .ok (.if_icmp .lt 10, 3) := by decide +kernel
theorem d17_9 : decode jdk_41_method_11_code 9 = .ok (.aload_n 2, 1) := by decide +kernel
theorem d17_10 : decode jdk_41_method_11_code 10 = .ok (.iload_n 0, 1) := by decide +kernel
theorem d17_11 : decode jdk_41_method_11_code 11 = .ok (.iload_n 1, 1) := by decide +kernel
theorem d17_12 : decode jdk_41_method_11_code 12 = .ok (.invokestatic 95, 3) := by decide +kernel
theorem d17_15 : decode jdk_41_method_11_code 15 = .ok (.athrow, 1) := by decide +kernel
theorem d17_16 : decode jdk_41_method_11_code 16 = .ok (.iload_n 0, 1) := by decide +kernel
theorem d17_17 : decode jdk_41_method_11_code 17 = .ok (.ireturn, 1) := by decide +kernel
theorem pf_17 : plainFor y17 = true := by first | exact plainFor_of_name (by first | (simp [plainName, overriddenIn]; done) | decide +kernel) | decide +kernel
theorem ef_pc_a (m : MethodId) (x : Int32) (y : Int32) (fa : Addr) : entryFrame m #[(.int x), (.int y), (.ref fa)] 3 = mkF m 0 #[.val (.int x), .val (.int y), .val (.ref fa)] [] := by first | (simp [entryFrame, mkF, argsToLocals, Value.category]; done) | rfl
set_option maxRecDepth 65536 in
set_option maxHeartbeats 40000000 in
theorem con_pc_a (l : Launch) (Z : State) (a0 : Array Value) (hw : ∀ d ∈ tables_1, d.before a0 Z = true) (h0 : Heap) (n0 : Nat) (x : Int32) (y : Int32) (fa : Addr) (hx : ¬ x < 0) (hxy : x < y) (Z0 : n0 ≤ h0.size) : Con l Z y17 jdk_41_method_11_code 3 (some .int) ({ frames := 0, cells := 0, slots := 0, locals := 0 } : Room) #[(.int x), (.int y), (.ref fa)] h0 n0 (Pu (some (.int x)) h0) := by
  refine Con.of pf_17 (fun m => ef_pc_a m x y fa) ?_
  intro p e s m below meth c C
  refine W.iloadN C d17_0 rfl ?_
  refine W.if_lt C 9 d17_1 rfl (fun bq1 => absurd bq1 hx) (fun bq1 => ?_)
  refine W.iloadN C d17_4 rfl ?_
  refine W.iloadN C d17_5 rfl ?_
  refine W.icmp_lt C 16 d17_6 rfl (fun bq2 => ?_) (fun bq2 => absurd hxy bq2)
  refine W.iloadN C d17_16 rfl ?_
  exact W.iret C d17_17 (by simp) rfl (FN.ok (by decide) (by decide) ⟨rfl, rfl⟩)

abbrev y16 : MethodName := ⟨"java/lang/String", "checkIndex", "(II)V"⟩
theorem d16_0 : decode jdk_42_method_155_code 0 = .ok (.iload_n 0, 1) := by decide +kernel
theorem d16_1 : decode jdk_42_method_155_code 1 = .ok (.iload_n 1, 1) := by decide +kernel
theorem d16_2 : decode jdk_42_method_155_code 2 = .ok (.getstatic 1053, 3) := by decide +kernel
theorem d16_5 : decode jdk_42_method_155_code 5 = .ok (.invokestatic 1059, 3) := by decide +kernel
theorem d16_8 : decode jdk_42_method_155_code 8 = .ok (.pop, 1) := by decide +kernel
theorem d16_9 : decode jdk_42_method_155_code 9 = .ok (.return_, 1) := by decide +kernel
theorem pf_16 : plainFor y16 = true := by first | exact plainFor_of_name (by first | (simp [plainName, overriddenIn]; done) | decide +kernel) | decide +kernel
theorem ef_ci_a (m : MethodId) (x : Int32) (y : Int32) : entryFrame m #[(.int x), (.int y)] 2 = mkF m 0 #[.val (.int x), .val (.int y)] [] := by first | (simp [entryFrame, mkF, argsToLocals, Value.category]; done) | rfl
theorem pd_0 : parseMethodDescriptor "(IILjava/util/function/BiFunction;)I" = some ⟨[.int, .int, (.object "java/util/function/BiFunction")], some .int⟩ := by decide +kernel
set_option maxRecDepth 65536 in
set_option maxHeartbeats 40000000 in
theorem con_ci_a (l : Launch) (Z : State) (a0 : Array Value) (hw : ∀ d ∈ tables_1, d.before a0 Z = true) (h0 : Heap) (n0 : Nat) (x : Int32) (y : Int32) (hx : ¬ x < 0) (hxy : x < y) (fa : Addr) (S_F : Sta Z h0 "jdk/internal/util/Preconditions" "SIOOBE_FORMATTER" "Ljava/util/function/BiFunction;" (.ref fa)) (Z0 : n0 ≤ h0.size) : Con l Z y16 jdk_42_method_155_code 2 none ({ frames := 1, cells := 0, slots := 0, locals := 14 } : Room) #[(.int x), (.int y)] h0 n0 (Pu none h0) := by
  refine Con.of pf_16 (fun m => ef_ci_a m x y) ?_
  intro p e s m below meth c C
  refine W.iloadN C d16_0 rfl ?_
  refine W.iloadN C d16_1 rfl ?_
  refine W.getS C d16_2 (tkw hw 80 rfl) Via.refl S_F ?_
  refine W.callS C (y' := y17) d16_5 (tkw hw 82 rfl) (tkw hw 83 rfl) (tkw hw 81 rfl) (tkw hw 84 rfl) (by decide) (argsL := [(.int x), (.int y), (.ref fa)]) (rest := []) rfl (lenOf pd_0 rfl) (con_pc_a l Z a0 hw h0 n0 x y fa hx hxy Z0) 0 0 0 rfl rfl rfl (by decide) (by decide) (by decide) (by decide) rfl ?_
  rintro _ _ ⟨rfl, rfl⟩
  refine Jvm.OwnKit.W.pop C d16_8 rfl ?_
  exact W.retV C d16_9 (FN.ok (by decide) (by decide) ⟨rfl, rfl⟩)

theorem ef_pc_n (m : MethodId) (x : Int32) (y : Int32) : entryFrame m #[(.int x), (.int y), .null] 3 = mkF m 0 #[.val (.int x), .val (.int y), .val .null] [] := by first | (simp [entryFrame, mkF, argsToLocals, Value.category]; done) | rfl
set_option maxRecDepth 65536 in
set_option maxHeartbeats 40000000 in
theorem con_pc_n (l : Launch) (Z : State) (a0 : Array Value) (hw : ∀ d ∈ tables_1, d.before a0 Z = true) (h0 : Heap) (n0 : Nat) (x : Int32) (y : Int32) (hx : ¬ x < 0) (hxy : x < y) (Z0 : n0 ≤ h0.size) : Con l Z y17 jdk_41_method_11_code 3 (some .int) ({ frames := 0, cells := 0, slots := 0, locals := 0 } : Room) #[(.int x), (.int y), .null] h0 n0 (Pu (some (.int x)) h0) := by
  refine Con.of pf_17 (fun m => ef_pc_n m x y) ?_
  intro p e s m below meth c C
  refine W.iloadN C d17_0 rfl ?_
  refine W.if_lt C 9 d17_1 rfl (fun bq1 => absurd bq1 hx) (fun bq1 => ?_)
  refine W.iloadN C d17_4 rfl ?_
  refine W.iloadN C d17_5 rfl ?_
  refine W.icmp_lt C 16 d17_6 rfl (fun bq2 => ?_) (fun bq2 => absurd hxy bq2)
  refine W.iloadN C d17_16 rfl ?_
  exact W.iret C d17_17 (by simp) rfl (FN.ok (by decide) (by decide) ⟨rfl, rfl⟩)

theorem ef_ci_n (m : MethodId) (x : Int32) (y : Int32) : entryFrame m #[(.int x), (.int y)] 2 = mkF m 0 #[.val (.int x), .val (.int y)] [] := by first | (simp [entryFrame, mkF, argsToLocals, Value.category]; done) | rfl
set_option maxRecDepth 65536 in
set_option maxHeartbeats 40000000 in
theorem con_ci_n (l : Launch) (Z : State) (a0 : Array Value) (hw : ∀ d ∈ tables_1, d.before a0 Z = true) (h0 : Heap) (n0 : Nat) (x : Int32) (y : Int32) (hx : ¬ x < 0) (hxy : x < y) (S_F : Sta Z h0 "jdk/internal/util/Preconditions" "SIOOBE_FORMATTER" "Ljava/util/function/BiFunction;" .null) (Z0 : n0 ≤ h0.size) : Con l Z y16 jdk_42_method_155_code 2 none ({ frames := 1, cells := 0, slots := 0, locals := 14 } : Room) #[(.int x), (.int y)] h0 n0 (Pu none h0) := by
  refine Con.of pf_16 (fun m => ef_ci_n m x y) ?_
  intro p e s m below meth c C
  refine W.iloadN C d16_0 rfl ?_
  refine W.iloadN C d16_1 rfl ?_
  refine W.getS C d16_2 (tkw hw 80 rfl) Via.refl S_F ?_
  refine W.callS C (y' := y17) d16_5 (tkw hw 82 rfl) (tkw hw 83 rfl) (tkw hw 81 rfl) (tkw hw 84 rfl) (by decide) (argsL := [(.int x), (.int y), .null]) (rest := []) rfl (lenOf pd_0 rfl) (con_pc_n l Z a0 hw h0 n0 x y hx hxy Z0) 0 0 0 rfl rfl rfl (by decide) (by decide) (by decide) (by decide) rfl ?_
  rintro _ _ ⟨rfl, rfl⟩
  refine Jvm.OwnKit.W.pop C d16_8 rfl ?_
  exact W.retV C d16_9 (FN.ok (by decide) (by decide) ⟨rfl, rfl⟩)

theorem con_ci (l : Launch) (Z : State) (a0 : Array Value) (hw : ∀ d ∈ tables_1, d.before a0 Z = true) (h0 : Heap) (n0 : Nat) (x y : Int32) (hx : ¬ x < 0) (hxy : x < y) (fm : Value) (hfm : fm.isRef = true) (S_F : Sta Z h0 "jdk/internal/util/Preconditions" "SIOOBE_FORMATTER" "Ljava/util/function/BiFunction;" fm) (Z0 : n0 ≤ h0.size) : Con l Z y16 jdk_42_method_155_code 2 none ({ frames := 1, cells := 0, slots := 0, locals := 14 } : Room) #[(.int x), (.int y)] h0 n0 (Pu none h0) := by
  rcases ref_cases hfm with rfl | ⟨fa, rfl⟩
  · exact con_ci_n l Z a0 hw h0 n0 x y hx hxy S_F Z0
  · exact con_ci_a l Z a0 hw h0 n0 x y hx hxy fa S_F Z0
abbrev y25 : MethodName := ⟨"java/lang/StringUTF16", "length", "([B)I"⟩
theorem d25_0 : decode jdk_52_method_6_code 0 = .ok (.aload_n 0, 1) := by decide +kernel
theorem d25_1 : decode jdk_52_method_6_code 1 = .ok (.arraylength, 1) := by decide +kernel
theorem d25_2 : decode jdk_52_method_6_code 2 = .ok (.iconst 1, 1) := by decide +kernel
theorem d25_3 : decode jdk_52_method_6_code 3 = .ok (.ishr, 1) := by decide +kernel
theorem d25_4 : decode jdk_52_method_6_code 4 = .ok (.ireturn, 1) := by decide +kernel
theorem pf_25 : plainFor y25 = true := by first | exact plainFor_of_name (by first | (simp [plainName, overriddenIn]; done) | decide +kernel) | decide +kernel
theorem ef_ul (m : MethodId) (d1 : Addr) : entryFrame m #[(.ref d1)] 1 = mkF m 0 #[.val (.ref d1)] [] := by first | (simp [entryFrame, mkF, argsToLocals, Value.category]; done) | rfl
set_option maxRecDepth 65536 in
set_option maxHeartbeats 40000000 in
theorem con_ul (l : Launch) (Z : State) (a0 : Array Value) (hw : ∀ d ∈ tables_1, d.before a0 Z = true) (h0 : Heap) (n0 : Nat) (d1 : Addr) (vs : List Value) (nn : Int32) (hL : vs.length.toInt32 = nn) (Ld : Al Z h0 d1 .byte vs) (Z0 : n0 ≤ h0.size) : Con l Z y25 jdk_52_method_6_code 1 (some .int) ({ frames := 0, cells := 0, slots := 0, locals := 0 } : Room) #[(.ref d1)] h0 n0 (Pu (some (.int (nn >>> ((1 : Int32) &&& 31)))) h0) := by
  refine Con.of pf_25 (fun m => ef_ul m d1) ?_
  intro p e s m below meth c C
  refine W.aloadN C d25_0 rfl rfl ?_
  refine W.arrlen C nn d25_1 Ld hL ?_
  refine W.iconst C (1 : Int32) d25_2 rfl ?_
  refine W.ishr C d25_3 ?_
  exact W.iret C d25_4 (by simp) rfl (FN.ok (by decide) (by decide) ⟨rfl, rfl⟩)

abbrev y24 : MethodName := ⟨"java/lang/StringUTF16", "checkIndex", "(I[B)V"⟩
theorem d24_0 : decode jdk_52_method_91_code 0 = .ok (.iload_n 0, 1) := by decide +kernel
theorem d24_1 : decode jdk_52_method_91_code 1 = .ok (.aload_n 1, 1) := by decide +kernel
theorem d24_2 : decode jdk_52_method_91_code 2 = .ok (.invokestatic 48, 3) := by decide +kernel
theorem d24_5 : decode jdk_52_method_91_code 5 = .ok (.invokestatic 414, 3) := by decide +kernel
theorem d24_8 : decode jdk_52_method_91_code 8 = .ok (.return_, 1) := by decide +kernel
theorem pf_24 : plainFor y24 = true := by first | exact plainFor_of_name (by first | (simp [plainName, overriddenIn]; done) | decide +kernel) | decide +kernel
theorem ef_uci (m : MethodId) (x : Int32) (d1 : Addr) : entryFrame m #[(.int x), (.ref d1)] 2 = mkF m 0 #[.val (.int x), .val (.ref d1)] [] := by first | (simp [entryFrame, mkF, argsToLocals, Value.category]; done) | rfl
theorem pd_1 : parseMethodDescriptor "([B)I" = some ⟨[(.array .byte)], some .int⟩ := by decide +kernel
theorem pd_2 : parseMethodDescriptor "(II)V" = some ⟨[.int, .int], none⟩ := by decide +kernel
set_option maxRecDepth 65536 in
set_option maxHeartbeats 40000000 in
theorem con_uci (l : Launch) (Z : State) (a0 : Array Value) (hw : ∀ d ∈ tables_1, d.before a0 Z = true) (h0 : Heap) (n0 : Nat) (x : Int32) (d1 : Addr) (vs : List Value) (nn : Int32) (hL : vs.length.toInt32 = nn) (fm : Value) (hfm : fm.isRef = true) (hx : ¬ x < 0) (hxy : x < (nn >>> ((1 : Int32) &&& 31))) (Ld : Al Z h0 d1 .byte vs) (S_F : Sta Z h0 "jdk/internal/util/Preconditions" "SIOOBE_FORMATTER" "Ljava/util/function/BiFunction;" fm) (Z0 : n0 ≤ h0.size) : Con l Z y24 jdk_52_method_91_code 2 none ({ frames := 2, cells := 0, slots := 0, locals := 27 } : Room) #[(.int x), (.ref d1)] h0 n0 (Pu none h0) := by
  refine Con.of pf_24 (fun m => ef_uci m x d1) ?_
  intro p e s m below meth c C
  refine W.iloadN C d24_0 rfl ?_
  refine W.aloadN C d24_1 rfl rfl ?_
  refine W.callS C (y' := y25) d24_2 (tkw hw 110 rfl) (tkw hw 111 rfl) (tkw hw 55 rfl) (tkw hw 112 rfl) (by decide) (argsL := [(.ref d1)]) (rest := [(.int x)]) rfl (lenOf pd_1 rfl) (con_ul l Z a0 hw h0 n0 d1 vs nn hL Ld Z0) 1 0 0 rfl rfl rfl (by decide) (by decide) (by decide) (by decide) rfl ?_
  rintro _ _ ⟨rfl, rfl⟩
  refine W.callS C (y' := y16) d24_5 (tkw hw 113 rfl) (tkw hw 78 rfl) (tkw hw 8 rfl) (tkw hw 79 rfl) (by decide) (argsL := [(.int x), (.int (nn >>> ((1 : Int32) &&& 31)))]) (rest := []) rfl (lenOf pd_2 rfl) (con_ci l Z a0 hw h0 n0 x (nn >>> ((1 : Int32) &&& 31)) hx hxy fm hfm S_F Z0) 0 0 0 rfl rfl rfl (by decide) (by decide) (by decide) (by decide) rfl ?_
  rintro _ _ ⟨rfl, rfl⟩
  exact W.retV C d24_8 (FN.ok (by decide) (by decide) ⟨rfl, rfl⟩)

abbrev y22 : MethodName := ⟨"java/lang/StringUTF16", "getChar", "([BI)C"⟩
theorem d22_0 : decode jdk_52_method_5_code 0 = .ok (.getstatic 44, 3) := by decide +kernel
theorem d22_3 : decode jdk_52_method_5_code 3 = .ok (.ifCond .ne 25, 3) := by decide +kernel
theorem d22_6 : decode jdk_52_method_5_code 6 = .ok (.iload_n 1, 1) := by decide +kernel
theorem d22_7 : decode jdk_52_method_5_code 7 = .ok (.ifCond .lt 11, 3) := by decide +kernel
theorem d22_10 : decode jdk_52_method_5_code 10 = .ok (.iload_n 1, 1) := by decide +kernel
theorem d22_11 : decode jdk_52_method_5_code 11 = .ok (.aload_n 0, 1) := by decide +kernel
theorem d22_12 : decode jdk_52_method_5_code 12 = .ok (.invokestatic 48, 3) := by decide +kernel
theorem d22_15 : decode jdk_52_method_5_code 15 = .ok (.if_icmp .lt 13, 3) := by decide +kernel
theorem d22_18 : decode jdk_52_method_5_code 18 = .ok (.new 52, 3) := by decide +kernel
theorem d22_21 : decode jdk_52_method_5_code 21 = .ok (.dup, 1) := by decide +kernel
theorem d22_22 : decode jdk_52_method_5_code 22 = .ok (.ldc 54, 2) := by decide +kernel
theorem d22_24 : decode jdk_52_method_5_code 24 = .ok (.invokespecial 56, 3) := by decide +kernel
theorem d22_27 : decode jdk_52_method_5_code 27 = .ok (.athrow, 1) := by decide +kernel
theorem d22_28 : decode jdk_52_method_5_code 28 = .ok (.iload_n 1, 1) := by decide +kernel
theorem d22_29 : decode jdk_52_method_5_code 29 = .ok (.iconst 1, 1) := by decide +kernel
theorem d22_30 : decode jdk_52_method_5_code 30 = .ok (.ishl, 1) := by decide +kernel
theorem d22_31 : decode jdk_52_method_5_code 31 = .ok (.istore_n 1, 1) := by decide +kernel
theorem d22_32 : decode jdk_52_method_5_code 32 = .ok (.aload_n 0, 1) := by decide +kernel
theorem d22_33 : decode jdk_52_method_5_code 33 = .ok (.iload_n 1, 1) := by decide +kernel
theorem d22_34 : decode jdk_52_method_5_code 34 = .ok (.iinc 1 1, 3) := by decide +kernel
theorem d22_37 : decode jdk_52_method_5_code 37 = .ok (.baload, 1) := by decide +kernel
theorem d22_38 : decode jdk_52_method_5_code 38 = .ok (.sipush 255, 3) := by decide +kernel
theorem d22_41 : decode jdk_52_method_5_code 41 = .ok (.iand, 1) := by decide +kernel
theorem d22_42 : decode jdk_52_method_5_code 42 = .ok (.getstatic 59, 3) := by decide +kernel
theorem d22_45 : decode jdk_52_method_5_code 45 = .ok (.ishl, 1) := by decide +kernel
theorem d22_46 : decode jdk_52_method_5_code 46 = .ok (.aload_n 0, 1) := by decide +kernel
theorem d22_47 : decode jdk_52_method_5_code 47 = .ok (.iload_n 1, 1) := by decide +kernel
theorem d22_48 : decode jdk_52_method_5_code 48 = .ok (.baload, 1) := by decide +kernel
theorem d22_49 : decode jdk_52_method_5_code 49 = .ok (.sipush 255, 3) := by decide +kernel
theorem d22_52 : decode jdk_52_method_5_code 52 = .ok (.iand, 1) := by decide +kernel
theorem d22_53 : decode jdk_52_method_5_code 53 = .ok (.getstatic 63, 3) := by decide +kernel
theorem d22_56 : decode jdk_52_method_5_code 56 = .ok (.ishl, 1) := by decide +kernel
theorem d22_57 : decode jdk_52_method_5_code 57 = .ok (.ior, 1) := by decide +kernel
theorem d22_58 : decode jdk_52_method_5_code 58 = .ok (.i2c, 1) := by decide +kernel
theorem d22_59 : decode jdk_52_method_5_code 59 = .ok (.ireturn, 1) := by decide +kernel
theorem pf_22 : plainFor y22 = true := by first | exact plainFor_of_name (by first | (simp [plainName, overriddenIn]; done) | decide +kernel) | decide +kernel
theorem ef_gc_0 (m : MethodId) (d1 : Addr) : entryFrame m #[(.ref d1), (.int (0 : Int32))] 2 = mkF m 0 #[.val (.ref d1), .val (.int (0 : Int32))] [] := by first | (simp [entryFrame, mkF, argsToLocals, Value.category]; done) | rfl
set_option maxRecDepth 65536 in
set_option maxHeartbeats 40000000 in
theorem con_gc_0 (l : Launch) (Z : State) (a0 : Array Value) (hw : ∀ d ∈ tables_1, d.before a0 Z = true) (h0 : Heap) (n0 : Nat) (d1 : Addr) (vs : List Value) (cz : Int32) (hc0 : 0 ≤ cz.toInt) (hc1 : cz.toInt < 65536) (q0 : vs[0]? = some (.int (((cz >>> ((0 : Int32) &&& 31))).toInt8.toInt32))) (q1 : vs[1]? = some (.int (((cz >>> ((8 : Int32) &&& 31))).toInt8.toInt32))) (Ld : Al Z h0 d1 .byte vs) (S_A : Sta Z h0 "java/lang/StringUTF16" "$assertionsDisabled" "Z" (.int (1 : Int32))) (S_H : Sta Z h0 "java/lang/StringUTF16" "HI_BYTE_SHIFT" "I" (.int (0 : Int32))) (S_L : Sta Z h0 "java/lang/StringUTF16" "LO_BYTE_SHIFT" "I" (.int (8 : Int32))) (Z0 : n0 ≤ h0.size) : Con l Z y22 jdk_52_method_5_code 2 (some .char) ({ frames := 0, cells := 0, slots := 0, locals := 0 } : Room) #[(.ref d1), (.int (0 : Int32))] h0 n0 (Pu (some (.int cz)) h0) := by
  refine Con.of pf_22 (fun m => ef_gc_0 m d1) ?_
  intro p e s m below meth c C
  refine W.getS C d22_0 (tkw hw 98 rfl) Via.refl S_A ?_
  refine W.if_ne C 28 d22_3 rfl (fun _ => ?_) (fun b => absurd b (by decide))
  refine W.iloadN C d22_28 rfl ?_
  refine W.iconst C (1 : Int32) d22_29 rfl ?_
  refine W.ishlV C (0 : Int32) d22_30 (by decide) ?_
  refine W.istoreN C #[.val (.ref d1), .val (.int (0 : Int32))] d22_31 rfl ?_
  refine W.aloadN C d22_32 rfl rfl ?_
  refine W.iloadN C d22_33 rfl ?_
  refine W.iinc C (1 : Int32) #[.val (.ref d1), .val (.int (1 : Int32))] d22_34 rfl rfl rfl ?_
  refine W.baload C 0 d22_37 Ld rfl q0 ?_
  refine W.sipush C (255 : Int32) d22_38 rfl ?_
  refine W.iand C d22_41 ?_
  refine W.getS C d22_42 (tkw hw 99 rfl) Via.refl S_H ?_
  refine W.ishl C d22_45 ?_
  refine W.aloadN C d22_46 rfl rfl ?_
  refine W.iloadN C d22_47 rfl ?_
  refine W.baload C 1 d22_48 Ld rfl q1 ?_
  refine W.sipush C (255 : Int32) d22_49 rfl ?_
  refine W.iand C d22_52 ?_
  refine W.getS C d22_53 (tkw hw 100 rfl) Via.refl S_L ?_
  refine W.ishl C d22_56 ?_
  refine W.ior C d22_57 ?_
  refine W.i2c C d22_58 ?_
  exact W.iret C d22_59 (by simp) (XT.narrow_c _) (FN.ok (by decide) (by decide) ⟨by show some _ = some _; rw [own_gc cz hc0 hc1], rfl⟩)

theorem own_nc (c : Int32) (h0 : 0 ≤ c.toInt) (h1 : c.toInt < 65536) : narrow .char (.int c) = .int c := by
  have q : c.toUInt32.toUInt16.toUInt32.toInt32 = c := by
    have z := c_i2c c
    apply Int32.toInt_inj.mp
    omega
  have r := XT.narrow_c c
  rw [q] at r
  exact r
abbrev y23 : MethodName := ⟨"java/lang/StringUTF16", "charAt", "([BI)C"⟩
theorem d23_0 : decode jdk_52_method_83_code 0 = .ok (.iload_n 1, 1) := by decide +kernel
theorem d23_1 : decode jdk_52_method_83_code 1 = .ok (.aload_n 0, 1) := by decide +kernel
theorem d23_2 : decode jdk_52_method_83_code 2 = .ok (.invokestatic 67, 3) := by decide +kernel
theorem d23_5 : decode jdk_52_method_83_code 5 = .ok (.aload_n 0, 1) := by decide +kernel
theorem d23_6 : decode jdk_52_method_83_code 6 = .ok (.iload_n 1, 1) := by decide +kernel
theorem d23_7 : decode jdk_52_method_83_code 7 = .ok (.invokestatic 71, 3) := by decide +kernel
theorem d23_10 : decode jdk_52_method_83_code 10 = .ok (.ireturn, 1) := by decide +kernel
theorem pf_23 : plainFor y23 = true := by first | exact plainFor_of_name (by first | (simp [plainName, overriddenIn]; done) | decide +kernel) | decide +kernel
theorem ef_uc_0 (m : MethodId) (d1 : Addr) : entryFrame m #[(.ref d1), (.int (0 : Int32))] 2 = mkF m 0 #[.val (.ref d1), .val (.int (0 : Int32))] [] := by first | (simp [entryFrame, mkF, argsToLocals, Value.category]; done) | rfl
theorem pd_3 : parseMethodDescriptor "(I[B)V" = some ⟨[.int, (.array .byte)], none⟩ := by decide +kernel
theorem pd_4 : parseMethodDescriptor "([BI)C" = some ⟨[(.array .byte), .int], some .char⟩ := by decide +kernel
set_option maxRecDepth 65536 in
set_option maxHeartbeats 40000000 in
theorem con_uc_0 (l : Launch) (Z : State) (a0 : Array Value) (hw : ∀ d ∈ tables_1, d.before a0 Z = true) (h0 : Heap) (n0 : Nat) (d1 : Addr) (vs : List Value) (nn : Int32) (hL : vs.length.toInt32 = nn) (cz : Int32) (hc0 : 0 ≤ cz.toInt) (hc1 : cz.toInt < 65536) (fm : Value) (hfm : fm.isRef = true) (hxy : (0 : Int32) < (nn >>> ((1 : Int32) &&& 31))) (q0 : vs[0]? = some (.int (((cz >>> ((0 : Int32) &&& 31))).toInt8.toInt32))) (q1 : vs[1]? = some (.int (((cz >>> ((8 : Int32) &&& 31))).toInt8.toInt32))) (Ld : Al Z h0 d1 .byte vs) (S_A : Sta Z h0 "java/lang/StringUTF16" "$assertionsDisabled" "Z" (.int (1 : Int32))) (S_H : Sta Z h0 "java/lang/StringUTF16" "HI_BYTE_SHIFT" "I" (.int (0 : Int32))) (S_L : Sta Z h0 "java/lang/StringUTF16" "LO_BYTE_SHIFT" "I" (.int (8 : Int32))) (S_F : Sta Z h0 "jdk/internal/util/Preconditions" "SIOOBE_FORMATTER" "Ljava/util/function/BiFunction;" fm) (Z0 : n0 ≤ h0.size) : Con l Z y23 jdk_52_method_83_code 2 (some .char) ({ frames := 3, cells := 0, slots := 0, locals := 40 } : Room) #[(.ref d1), (.int (0 : Int32))] h0 n0 (Pu (some (.int cz)) h0) := by
  refine Con.of pf_23 (fun m => ef_uc_0 m d1) ?_
  intro p e s m below meth c C
  refine W.iloadN C d23_0 rfl ?_
  refine W.aloadN C d23_1 rfl rfl ?_
  refine W.callS C (y' := y24) d23_2 (tkw hw 107 rfl) (tkw hw 108 rfl) (tkw hw 55 rfl) (tkw hw 109 rfl) (by decide) (argsL := [(.int (0 : Int32)), (.ref d1)]) (rest := []) rfl (lenOf pd_3 rfl) (con_uci l Z a0 hw h0 n0 (0 : Int32) d1 vs nn hL fm hfm (by decide) hxy Ld S_F Z0) 0 0 0 rfl rfl rfl (by decide) (by decide) (by decide) (by decide) rfl ?_
  rintro _ _ ⟨rfl, rfl⟩
  refine W.aloadN C d23_5 rfl rfl ?_
  refine W.iloadN C d23_6 rfl ?_
  refine W.callS C (y' := y22) d23_7 (tkw hw 101 rfl) (tkw hw 102 rfl) (tkw hw 55 rfl) (tkw hw 103 rfl) (by decide) (argsL := [(.ref d1), (.int (0 : Int32))]) (rest := []) rfl (lenOf pd_4 rfl) (con_gc_0 l Z a0 hw h0 n0 d1 vs cz hc0 hc1 q0 q1 Ld S_A S_H S_L Z0) 0 0 0 rfl rfl rfl (by decide) (by decide) (by decide) (by decide) rfl ?_
  rintro _ _ ⟨rfl, rfl⟩
  exact W.iret C d23_10 (by simp) (own_nc cz hc0 hc1) (FN.ok (by decide) (by decide) ⟨rfl, rfl⟩)

abbrev y15 : MethodName := ⟨"java/lang/StringLatin1", "charAt", "([BI)C"⟩
theorem d15_0 : decode jdk_43_method_2_code 0 = .ok (.iload_n 1, 1) := by decide +kernel
theorem d15_1 : decode jdk_43_method_2_code 1 = .ok (.aload_n 0, 1) := by decide +kernel
theorem d15_2 : decode jdk_43_method_2_code 2 = .ok (.arraylength, 1) := by decide +kernel
theorem d15_3 : decode jdk_43_method_2_code 3 = .ok (.invokestatic 9, 3) := by decide +kernel
theorem d15_6 : decode jdk_43_method_2_code 6 = .ok (.aload_n 0, 1) := by decide +kernel
theorem d15_7 : decode jdk_43_method_2_code 7 = .ok (.iload_n 1, 1) := by decide +kernel
theorem d15_8 : decode jdk_43_method_2_code 8 = .ok (.baload, 1) := by decide +kernel
theorem d15_9 : decode jdk_43_method_2_code 9 = .ok (.sipush 255, 3) := by decide +kernel
theorem d15_12 : decode jdk_43_method_2_code 12 = .ok (.iand, 1) := by decide +kernel
theorem d15_13 : decode jdk_43_method_2_code 13 = .ok (.i2c, 1) := by decide +kernel
theorem d15_14 : decode jdk_43_method_2_code 14 = .ok (.ireturn, 1) := by decide +kernel
theorem pf_15 : plainFor y15 = true := by first | exact plainFor_of_name (by first | (simp [plainName, overriddenIn]; done) | decide +kernel) | decide +kernel
theorem ef_lc_0 (m : MethodId) (d1 : Addr) : entryFrame m #[(.ref d1), (.int (0 : Int32))] 2 = mkF m 0 #[.val (.ref d1), .val (.int (0 : Int32))] [] := by first | (simp [entryFrame, mkF, argsToLocals, Value.category]; done) | rfl
set_option maxRecDepth 65536 in
set_option maxHeartbeats 40000000 in
theorem con_lc_0 (l : Launch) (Z : State) (a0 : Array Value) (hw : ∀ d ∈ tables_1, d.before a0 Z = true) (h0 : Heap) (n0 : Nat) (d1 : Addr) (vs : List Value) (nn : Int32) (hL : vs.length.toInt32 = nn) (cz : Int32) (hc0 : 0 ≤ cz.toInt) (hc : ¬ (255 : Int32) < cz) (fm : Value) (hfm : fm.isRef = true) (hxy : (0 : Int32) < nn) (q0 : vs[0]? = some (.int ((cz).toInt8.toInt32))) (Ld : Al Z h0 d1 .byte vs) (S_F : Sta Z h0 "jdk/internal/util/Preconditions" "SIOOBE_FORMATTER" "Ljava/util/function/BiFunction;" fm) (Z0 : n0 ≤ h0.size) : Con l Z y15 jdk_43_method_2_code 2 (some .char) ({ frames := 2, cells := 0, slots := 0, locals := 27 } : Room) #[(.ref d1), (.int (0 : Int32))] h0 n0 (Pu (some (.int cz)) h0) := by
  refine Con.of pf_15 (fun m => ef_lc_0 m d1) ?_
  intro p e s m below meth c C
  refine W.iloadN C d15_0 rfl ?_
  refine W.aloadN C d15_1 rfl rfl ?_
  refine W.arrlen C nn d15_2 Ld hL ?_
  refine W.callS C (y' := y16) d15_3 (tkw hw 77 rfl) (tkw hw 78 rfl) (tkw hw 8 rfl) (tkw hw 79 rfl) (by decide) (argsL := [(.int (0 : Int32)), (.int nn)]) (rest := []) rfl (lenOf pd_2 rfl) (con_ci l Z a0 hw h0 n0 (0 : Int32) nn (by decide) hxy fm hfm S_F Z0) 0 0 0 rfl rfl rfl (by decide) (by decide) (by decide) (by decide) rfl ?_
  rintro _ _ ⟨rfl, rfl⟩
  refine W.aloadN C d15_6 rfl rfl ?_
  refine W.iloadN C d15_7 rfl ?_
  refine W.baload C 0 d15_8 Ld rfl q0 ?_
  refine W.sipush C (255 : Int32) d15_9 rfl ?_
  refine W.iand C d15_12 ?_
  refine W.i2c C d15_13 ?_
  exact W.iret C d15_14 (by simp) (XT.narrow_c _) (FN.ok (by decide) (by decide) ⟨by show some _ = some _; rw [own_lc cz hc0 hc], rfl⟩)

theorem ef_gc_1 (m : MethodId) (d1 : Addr) : entryFrame m #[(.ref d1), (.int (1 : Int32))] 2 = mkF m 0 #[.val (.ref d1), .val (.int (1 : Int32))] [] := by first | (simp [entryFrame, mkF, argsToLocals, Value.category]; done) | rfl
set_option maxRecDepth 65536 in
set_option maxHeartbeats 40000000 in
theorem con_gc_1 (l : Launch) (Z : State) (a0 : Array Value) (hw : ∀ d ∈ tables_1, d.before a0 Z = true) (h0 : Heap) (n0 : Nat) (d1 : Addr) (vs : List Value) (cz : Int32) (hc0 : 0 ≤ cz.toInt) (hc1 : cz.toInt < 65536) (q0 : vs[2]? = some (.int (((cz >>> ((0 : Int32) &&& 31))).toInt8.toInt32))) (q1 : vs[3]? = some (.int (((cz >>> ((8 : Int32) &&& 31))).toInt8.toInt32))) (Ld : Al Z h0 d1 .byte vs) (S_A : Sta Z h0 "java/lang/StringUTF16" "$assertionsDisabled" "Z" (.int (1 : Int32))) (S_H : Sta Z h0 "java/lang/StringUTF16" "HI_BYTE_SHIFT" "I" (.int (0 : Int32))) (S_L : Sta Z h0 "java/lang/StringUTF16" "LO_BYTE_SHIFT" "I" (.int (8 : Int32))) (Z0 : n0 ≤ h0.size) : Con l Z y22 jdk_52_method_5_code 2 (some .char) ({ frames := 0, cells := 0, slots := 0, locals := 0 } : Room) #[(.ref d1), (.int (1 : Int32))] h0 n0 (Pu (some (.int cz)) h0) := by
  refine Con.of pf_22 (fun m => ef_gc_1 m d1) ?_
  intro p e s m below meth c C
  refine W.getS C d22_0 (tkw hw 98 rfl) Via.refl S_A ?_
  refine W.if_ne C 28 d22_3 rfl (fun _ => ?_) (fun b => absurd b (by decide))
  refine W.iloadN C d22_28 rfl ?_
  refine W.iconst C (1 : Int32) d22_29 rfl ?_
  refine W.ishlV C (2 : Int32) d22_30 (by decide) ?_
  refine W.istoreN C #[.val (.ref d1), .val (.int (2 : Int32))] d22_31 rfl ?_
  refine W.aloadN C d22_32 rfl rfl ?_
  refine W.iloadN C d22_33 rfl ?_
  refine W.iinc C (3 : Int32) #[.val (.ref d1), .val (.int (3 : Int32))] d22_34 rfl rfl rfl ?_
  refine W.baload C 2 d22_37 Ld rfl q0 ?_
  refine W.sipush C (255 : Int32) d22_38 rfl ?_
  refine W.iand C d22_41 ?_
  refine W.getS C d22_42 (tkw hw 99 rfl) Via.refl S_H ?_
  refine W.ishl C d22_45 ?_
  refine W.aloadN C d22_46 rfl rfl ?_
  refine W.iloadN C d22_47 rfl ?_
  refine W.baload C 3 d22_48 Ld rfl q1 ?_
  refine W.sipush C (255 : Int32) d22_49 rfl ?_
  refine W.iand C d22_52 ?_
  refine W.getS C d22_53 (tkw hw 100 rfl) Via.refl S_L ?_
  refine W.ishl C d22_56 ?_
  refine W.ior C d22_57 ?_
  refine W.i2c C d22_58 ?_
  exact W.iret C d22_59 (by simp) (XT.narrow_c _) (FN.ok (by decide) (by decide) ⟨by show some _ = some _; rw [own_gc cz hc0 hc1], rfl⟩)

theorem ef_uc_1 (m : MethodId) (d1 : Addr) : entryFrame m #[(.ref d1), (.int (1 : Int32))] 2 = mkF m 0 #[.val (.ref d1), .val (.int (1 : Int32))] [] := by first | (simp [entryFrame, mkF, argsToLocals, Value.category]; done) | rfl
set_option maxRecDepth 65536 in
set_option maxHeartbeats 40000000 in
theorem con_uc_1 (l : Launch) (Z : State) (a0 : Array Value) (hw : ∀ d ∈ tables_1, d.before a0 Z = true) (h0 : Heap) (n0 : Nat) (d1 : Addr) (vs : List Value) (nn : Int32) (hL : vs.length.toInt32 = nn) (cz : Int32) (hc0 : 0 ≤ cz.toInt) (hc1 : cz.toInt < 65536) (fm : Value) (hfm : fm.isRef = true) (hxy : (1 : Int32) < (nn >>> ((1 : Int32) &&& 31))) (q0 : vs[2]? = some (.int (((cz >>> ((0 : Int32) &&& 31))).toInt8.toInt32))) (q1 : vs[3]? = some (.int (((cz >>> ((8 : Int32) &&& 31))).toInt8.toInt32))) (Ld : Al Z h0 d1 .byte vs) (S_A : Sta Z h0 "java/lang/StringUTF16" "$assertionsDisabled" "Z" (.int (1 : Int32))) (S_H : Sta Z h0 "java/lang/StringUTF16" "HI_BYTE_SHIFT" "I" (.int (0 : Int32))) (S_L : Sta Z h0 "java/lang/StringUTF16" "LO_BYTE_SHIFT" "I" (.int (8 : Int32))) (S_F : Sta Z h0 "jdk/internal/util/Preconditions" "SIOOBE_FORMATTER" "Ljava/util/function/BiFunction;" fm) (Z0 : n0 ≤ h0.size) : Con l Z y23 jdk_52_method_83_code 2 (some .char) ({ frames := 3, cells := 0, slots := 0, locals := 40 } : Room) #[(.ref d1), (.int (1 : Int32))] h0 n0 (Pu (some (.int cz)) h0) := by
  refine Con.of pf_23 (fun m => ef_uc_1 m d1) ?_
  intro p e s m below meth c C
  refine W.iloadN C d23_0 rfl ?_
  refine W.aloadN C d23_1 rfl rfl ?_
  refine W.callS C (y' := y24) d23_2 (tkw hw 107 rfl) (tkw hw 108 rfl) (tkw hw 55 rfl) (tkw hw 109 rfl) (by decide) (argsL := [(.int (1 : Int32)), (.ref d1)]) (rest := []) rfl (lenOf pd_3 rfl) (con_uci l Z a0 hw h0 n0 (1 : Int32) d1 vs nn hL fm hfm (by decide) hxy Ld S_F Z0) 0 0 0 rfl rfl rfl (by decide) (by decide) (by decide) (by decide) rfl ?_
  rintro _ _ ⟨rfl, rfl⟩
  refine W.aloadN C d23_5 rfl rfl ?_
  refine W.iloadN C d23_6 rfl ?_
  refine W.callS C (y' := y22) d23_7 (tkw hw 101 rfl) (tkw hw 102 rfl) (tkw hw 55 rfl) (tkw hw 103 rfl) (by decide) (argsL := [(.ref d1), (.int (1 : Int32))]) (rest := []) rfl (lenOf pd_4 rfl) (con_gc_1 l Z a0 hw h0 n0 d1 vs cz hc0 hc1 q0 q1 Ld S_A S_H S_L Z0) 0 0 0 rfl rfl rfl (by decide) (by decide) (by decide) (by decide) rfl ?_
  rintro _ _ ⟨rfl, rfl⟩
  exact W.iret C d23_10 (by simp) (own_nc cz hc0 hc1) (FN.ok (by decide) (by decide) ⟨rfl, rfl⟩)

theorem ef_lc_1 (m : MethodId) (d1 : Addr) : entryFrame m #[(.ref d1), (.int (1 : Int32))] 2 = mkF m 0 #[.val (.ref d1), .val (.int (1 : Int32))] [] := by first | (simp [entryFrame, mkF, argsToLocals, Value.category]; done) | rfl
set_option maxRecDepth 65536 in
set_option maxHeartbeats 40000000 in
theorem con_lc_1 (l : Launch) (Z : State) (a0 : Array Value) (hw : ∀ d ∈ tables_1, d.before a0 Z = true) (h0 : Heap) (n0 : Nat) (d1 : Addr) (vs : List Value) (nn : Int32) (hL : vs.length.toInt32 = nn) (cz : Int32) (hc0 : 0 ≤ cz.toInt) (hc : ¬ (255 : Int32) < cz) (fm : Value) (hfm : fm.isRef = true) (hxy : (1 : Int32) < nn) (q0 : vs[1]? = some (.int ((cz).toInt8.toInt32))) (Ld : Al Z h0 d1 .byte vs) (S_F : Sta Z h0 "jdk/internal/util/Preconditions" "SIOOBE_FORMATTER" "Ljava/util/function/BiFunction;" fm) (Z0 : n0 ≤ h0.size) : Con l Z y15 jdk_43_method_2_code 2 (some .char) ({ frames := 2, cells := 0, slots := 0, locals := 27 } : Room) #[(.ref d1), (.int (1 : Int32))] h0 n0 (Pu (some (.int cz)) h0) := by
  refine Con.of pf_15 (fun m => ef_lc_1 m d1) ?_
  intro p e s m below meth c C
  refine W.iloadN C d15_0 rfl ?_
  refine W.aloadN C d15_1 rfl rfl ?_
  refine W.arrlen C nn d15_2 Ld hL ?_
  refine W.callS C (y' := y16) d15_3 (tkw hw 77 rfl) (tkw hw 78 rfl) (tkw hw 8 rfl) (tkw hw 79 rfl) (by decide) (argsL := [(.int (1 : Int32)), (.int nn)]) (rest := []) rfl (lenOf pd_2 rfl) (con_ci l Z a0 hw h0 n0 (1 : Int32) nn (by decide) hxy fm hfm S_F Z0) 0 0 0 rfl rfl rfl (by decide) (by decide) (by decide) (by decide) rfl ?_
  rintro _ _ ⟨rfl, rfl⟩
  refine W.aloadN C d15_6 rfl rfl ?_
  refine W.iloadN C d15_7 rfl ?_
  refine W.baload C 1 d15_8 Ld rfl q0 ?_
  refine W.sipush C (255 : Int32) d15_9 rfl ?_
  refine W.iand C d15_12 ?_
  refine W.i2c C d15_13 ?_
  exact W.iret C d15_14 (by simp) (XT.narrow_c _) (FN.ok (by decide) (by decide) ⟨by show some _ = some _; rw [own_lc cz hc0 hc], rfl⟩)

theorem ef_gc_2 (m : MethodId) (d1 : Addr) : entryFrame m #[(.ref d1), (.int (2 : Int32))] 2 = mkF m 0 #[.val (.ref d1), .val (.int (2 : Int32))] [] := by first | (simp [entryFrame, mkF, argsToLocals, Value.category]; done) | rfl
set_option maxRecDepth 65536 in
set_option maxHeartbeats 40000000 in
theorem con_gc_2 (l : Launch) (Z : State) (a0 : Array Value) (hw : ∀ d ∈ tables_1, d.before a0 Z = true) (h0 : Heap) (n0 : Nat) (d1 : Addr) (vs : List Value) (cz : Int32) (hc0 : 0 ≤ cz.toInt) (hc1 : cz.toInt < 65536) (q0 : vs[4]? = some (.int (((cz >>> ((0 : Int32) &&& 31))).toInt8.toInt32))) (q1 : vs[5]? = some (.int (((cz >>> ((8 : Int32) &&& 31))).toInt8.toInt32))) (Ld : Al Z h0 d1 .byte vs) (S_A : Sta Z h0 "java/lang/StringUTF16" "$assertionsDisabled" "Z" (.int (1 : Int32))) (S_H : Sta Z h0 "java/lang/StringUTF16" "HI_BYTE_SHIFT" "I" (.int (0 : Int32))) (S_L : Sta Z h0 "java/lang/StringUTF16" "LO_BYTE_SHIFT" "I" (.int (8 : Int32))) (Z0 : n0 ≤ h0.size) : Con l Z y22 jdk_52_method_5_code 2 (some .char) ({ frames := 0, cells := 0, slots := 0, locals := 0 } : Room) #[(.ref d1), (.int (2 : Int32))] h0 n0 (Pu (some (.int cz)) h0) := by
  refine Con.of pf_22 (fun m => ef_gc_2 m d1) ?_
  intro p e s m below meth c C
  refine W.getS C d22_0 (tkw hw 98 rfl) Via.refl S_A ?_
  refine W.if_ne C 28 d22_3 rfl (fun _ => ?_) (fun b => absurd b (by decide))
  refine W.iloadN C d22_28 rfl ?_
  refine W.iconst C (1 : Int32) d22_29 rfl ?_
  refine W.ishlV C (4 : Int32) d22_30 (by decide) ?_
  refine W.istoreN C #[.val (.ref d1), .val (.int (4 : Int32))] d22_31 rfl ?_
  refine W.aloadN C d22_32 rfl rfl ?_
  refine W.iloadN C d22_33 rfl ?_
  refine W.iinc C (5 : Int32) #[.val (.ref d1), .val (.int (5 : Int32))] d22_34 rfl rfl rfl ?_
  refine W.baload C 4 d22_37 Ld rfl q0 ?_
  refine W.sipush C (255 : Int32) d22_38 rfl ?_
  refine W.iand C d22_41 ?_
  refine W.getS C d22_42 (tkw hw 99 rfl) Via.refl S_H ?_
  refine W.ishl C d22_45 ?_
  refine W.aloadN C d22_46 rfl rfl ?_
  refine W.iloadN C d22_47 rfl ?_
  refine W.baload C 5 d22_48 Ld rfl q1 ?_
  refine W.sipush C (255 : Int32) d22_49 rfl ?_
  refine W.iand C d22_52 ?_
  refine W.getS C d22_53 (tkw hw 100 rfl) Via.refl S_L ?_
  refine W.ishl C d22_56 ?_
  refine W.ior C d22_57 ?_
  refine W.i2c C d22_58 ?_
  exact W.iret C d22_59 (by simp) (XT.narrow_c _) (FN.ok (by decide) (by decide) ⟨by show some _ = some _; rw [own_gc cz hc0 hc1], rfl⟩)

theorem ef_uc_2 (m : MethodId) (d1 : Addr) : entryFrame m #[(.ref d1), (.int (2 : Int32))] 2 = mkF m 0 #[.val (.ref d1), .val (.int (2 : Int32))] [] := by first | (simp [entryFrame, mkF, argsToLocals, Value.category]; done) | rfl
set_option maxRecDepth 65536 in
set_option maxHeartbeats 40000000 in
theorem con_uc_2 (l : Launch) (Z : State) (a0 : Array Value) (hw : ∀ d ∈ tables_1, d.before a0 Z = true) (h0 : Heap) (n0 : Nat) (d1 : Addr) (vs : List Value) (nn : Int32) (hL : vs.length.toInt32 = nn) (cz : Int32) (hc0 : 0 ≤ cz.toInt) (hc1 : cz.toInt < 65536) (fm : Value) (hfm : fm.isRef = true) (hxy : (2 : Int32) < (nn >>> ((1 : Int32) &&& 31))) (q0 : vs[4]? = some (.int (((cz >>> ((0 : Int32) &&& 31))).toInt8.toInt32))) (q1 : vs[5]? = some (.int (((cz >>> ((8 : Int32) &&& 31))).toInt8.toInt32))) (Ld : Al Z h0 d1 .byte vs) (S_A : Sta Z h0 "java/lang/StringUTF16" "$assertionsDisabled" "Z" (.int (1 : Int32))) (S_H : Sta Z h0 "java/lang/StringUTF16" "HI_BYTE_SHIFT" "I" (.int (0 : Int32))) (S_L : Sta Z h0 "java/lang/StringUTF16" "LO_BYTE_SHIFT" "I" (.int (8 : Int32))) (S_F : Sta Z h0 "jdk/internal/util/Preconditions" "SIOOBE_FORMATTER" "Ljava/util/function/BiFunction;" fm) (Z0 : n0 ≤ h0.size) : Con l Z y23 jdk_52_method_83_code 2 (some .char) ({ frames := 3, cells := 0, slots := 0, locals := 40 } : Room) #[(.ref d1), (.int (2 : Int32))] h0 n0 (Pu (some (.int cz)) h0) := by
  refine Con.of pf_23 (fun m => ef_uc_2 m d1) ?_
  intro p e s m below meth c C
  refine W.iloadN C d23_0 rfl ?_
  refine W.aloadN C d23_1 rfl rfl ?_
  refine W.callS C (y' := y24) d23_2 (tkw hw 107 rfl) (tkw hw 108 rfl) (tkw hw 55 rfl) (tkw hw 109 rfl) (by decide) (argsL := [(.int (2 : Int32)), (.ref d1)]) (rest := []) rfl (lenOf pd_3 rfl) (con_uci l Z a0 hw h0 n0 (2 : Int32) d1 vs nn hL fm hfm (by decide) hxy Ld S_F Z0) 0 0 0 rfl rfl rfl (by decide) (by decide) (by decide) (by decide) rfl ?_
  rintro _ _ ⟨rfl, rfl⟩
  refine W.aloadN C d23_5 rfl rfl ?_
  refine W.iloadN C d23_6 rfl ?_
  refine W.callS C (y' := y22) d23_7 (tkw hw 101 rfl) (tkw hw 102 rfl) (tkw hw 55 rfl) (tkw hw 103 rfl) (by decide) (argsL := [(.ref d1), (.int (2 : Int32))]) (rest := []) rfl (lenOf pd_4 rfl) (con_gc_2 l Z a0 hw h0 n0 d1 vs cz hc0 hc1 q0 q1 Ld S_A S_H S_L Z0) 0 0 0 rfl rfl rfl (by decide) (by decide) (by decide) (by decide) rfl ?_
  rintro _ _ ⟨rfl, rfl⟩
  exact W.iret C d23_10 (by simp) (own_nc cz hc0 hc1) (FN.ok (by decide) (by decide) ⟨rfl, rfl⟩)

theorem ef_lc_2 (m : MethodId) (d1 : Addr) : entryFrame m #[(.ref d1), (.int (2 : Int32))] 2 = mkF m 0 #[.val (.ref d1), .val (.int (2 : Int32))] [] := by first | (simp [entryFrame, mkF, argsToLocals, Value.category]; done) | rfl
set_option maxRecDepth 65536 in
set_option maxHeartbeats 40000000 in
theorem con_lc_2 (l : Launch) (Z : State) (a0 : Array Value) (hw : ∀ d ∈ tables_1, d.before a0 Z = true) (h0 : Heap) (n0 : Nat) (d1 : Addr) (vs : List Value) (nn : Int32) (hL : vs.length.toInt32 = nn) (cz : Int32) (hc0 : 0 ≤ cz.toInt) (hc : ¬ (255 : Int32) < cz) (fm : Value) (hfm : fm.isRef = true) (hxy : (2 : Int32) < nn) (q0 : vs[2]? = some (.int ((cz).toInt8.toInt32))) (Ld : Al Z h0 d1 .byte vs) (S_F : Sta Z h0 "jdk/internal/util/Preconditions" "SIOOBE_FORMATTER" "Ljava/util/function/BiFunction;" fm) (Z0 : n0 ≤ h0.size) : Con l Z y15 jdk_43_method_2_code 2 (some .char) ({ frames := 2, cells := 0, slots := 0, locals := 27 } : Room) #[(.ref d1), (.int (2 : Int32))] h0 n0 (Pu (some (.int cz)) h0) := by
  refine Con.of pf_15 (fun m => ef_lc_2 m d1) ?_
  intro p e s m below meth c C
  refine W.iloadN C d15_0 rfl ?_
  refine W.aloadN C d15_1 rfl rfl ?_
  refine W.arrlen C nn d15_2 Ld hL ?_
  refine W.callS C (y' := y16) d15_3 (tkw hw 77 rfl) (tkw hw 78 rfl) (tkw hw 8 rfl) (tkw hw 79 rfl) (by decide) (argsL := [(.int (2 : Int32)), (.int nn)]) (rest := []) rfl (lenOf pd_2 rfl) (con_ci l Z a0 hw h0 n0 (2 : Int32) nn (by decide) hxy fm hfm S_F Z0) 0 0 0 rfl rfl rfl (by decide) (by decide) (by decide) (by decide) rfl ?_
  rintro _ _ ⟨rfl, rfl⟩
  refine W.aloadN C d15_6 rfl rfl ?_
  refine W.iloadN C d15_7 rfl ?_
  refine W.baload C 2 d15_8 Ld rfl q0 ?_
  refine W.sipush C (255 : Int32) d15_9 rfl ?_
  refine W.iand C d15_12 ?_
  refine W.i2c C d15_13 ?_
  exact W.iret C d15_14 (by simp) (XT.narrow_c _) (FN.ok (by decide) (by decide) ⟨by show some _ = some _; rw [own_lc cz hc0 hc], rfl⟩)

theorem ef_gc_3 (m : MethodId) (d1 : Addr) : entryFrame m #[(.ref d1), (.int (3 : Int32))] 2 = mkF m 0 #[.val (.ref d1), .val (.int (3 : Int32))] [] := by first | (simp [entryFrame, mkF, argsToLocals, Value.category]; done) | rfl
set_option maxRecDepth 65536 in
set_option maxHeartbeats 40000000 in
theorem con_gc_3 (l : Launch) (Z : State) (a0 : Array Value) (hw : ∀ d ∈ tables_1, d.before a0 Z = true) (h0 : Heap) (n0 : Nat) (d1 : Addr) (vs : List Value) (cz : Int32) (hc0 : 0 ≤ cz.toInt) (hc1 : cz.toInt < 65536) (q0 : vs[6]? = some (.int (((cz >>> ((0 : Int32) &&& 31))).toInt8.toInt32))) (q1 : vs[7]? = some (.int (((cz >>> ((8 : Int32) &&& 31))).toInt8.toInt32))) (Ld : Al Z h0 d1 .byte vs) (S_A : Sta Z h0 "java/lang/StringUTF16" "$assertionsDisabled" "Z" (.int (1 : Int32))) (S_H : Sta Z h0 "java/lang/StringUTF16" "HI_BYTE_SHIFT" "I" (.int (0 : Int32))) (S_L : Sta Z h0 "java/lang/StringUTF16" "LO_BYTE_SHIFT" "I" (.int (8 : Int32))) (Z0 : n0 ≤ h0.size) : Con l Z y22 jdk_52_method_5_code 2 (some .char) ({ frames := 0, cells := 0, slots := 0, locals := 0 } : Room) #[(.ref d1), (.int (3 : Int32))] h0 n0 (Pu (some (.int cz)) h0) := by
  refine Con.of pf_22 (fun m => ef_gc_3 m d1) ?_
  intro p e s m below meth c C
  refine W.getS C d22_0 (tkw hw 98 rfl) Via.refl S_A ?_
  refine W.if_ne C 28 d22_3 rfl (fun _ => ?_) (fun b => absurd b (by decide))
  refine W.iloadN C d22_28 rfl ?_
  refine W.iconst C (1 : Int32) d22_29 rfl ?_
  refine W.ishlV C (6 : Int32) d22_30 (by decide) ?_
  refine W.istoreN C #[.val (.ref d1), .val (.int (6 : Int32))] d22_31 rfl ?_
  refine W.aloadN C d22_32 rfl rfl ?_
  refine W.iloadN C d22_33 rfl ?_
  refine W.iinc C (7 : Int32) #[.val (.ref d1), .val (.int (7 : Int32))] d22_34 rfl rfl rfl ?_
  refine W.baload C 6 d22_37 Ld rfl q0 ?_
  refine W.sipush C (255 : Int32) d22_38 rfl ?_
  refine W.iand C d22_41 ?_
  refine W.getS C d22_42 (tkw hw 99 rfl) Via.refl S_H ?_
  refine W.ishl C d22_45 ?_
  refine W.aloadN C d22_46 rfl rfl ?_
  refine W.iloadN C d22_47 rfl ?_
  refine W.baload C 7 d22_48 Ld rfl q1 ?_
  refine W.sipush C (255 : Int32) d22_49 rfl ?_
  refine W.iand C d22_52 ?_
  refine W.getS C d22_53 (tkw hw 100 rfl) Via.refl S_L ?_
  refine W.ishl C d22_56 ?_
  refine W.ior C d22_57 ?_
  refine W.i2c C d22_58 ?_
  exact W.iret C d22_59 (by simp) (XT.narrow_c _) (FN.ok (by decide) (by decide) ⟨by show some _ = some _; rw [own_gc cz hc0 hc1], rfl⟩)

theorem ef_uc_3 (m : MethodId) (d1 : Addr) : entryFrame m #[(.ref d1), (.int (3 : Int32))] 2 = mkF m 0 #[.val (.ref d1), .val (.int (3 : Int32))] [] := by first | (simp [entryFrame, mkF, argsToLocals, Value.category]; done) | rfl
set_option maxRecDepth 65536 in
set_option maxHeartbeats 40000000 in
theorem con_uc_3 (l : Launch) (Z : State) (a0 : Array Value) (hw : ∀ d ∈ tables_1, d.before a0 Z = true) (h0 : Heap) (n0 : Nat) (d1 : Addr) (vs : List Value) (nn : Int32) (hL : vs.length.toInt32 = nn) (cz : Int32) (hc0 : 0 ≤ cz.toInt) (hc1 : cz.toInt < 65536) (fm : Value) (hfm : fm.isRef = true) (hxy : (3 : Int32) < (nn >>> ((1 : Int32) &&& 31))) (q0 : vs[6]? = some (.int (((cz >>> ((0 : Int32) &&& 31))).toInt8.toInt32))) (q1 : vs[7]? = some (.int (((cz >>> ((8 : Int32) &&& 31))).toInt8.toInt32))) (Ld : Al Z h0 d1 .byte vs) (S_A : Sta Z h0 "java/lang/StringUTF16" "$assertionsDisabled" "Z" (.int (1 : Int32))) (S_H : Sta Z h0 "java/lang/StringUTF16" "HI_BYTE_SHIFT" "I" (.int (0 : Int32))) (S_L : Sta Z h0 "java/lang/StringUTF16" "LO_BYTE_SHIFT" "I" (.int (8 : Int32))) (S_F : Sta Z h0 "jdk/internal/util/Preconditions" "SIOOBE_FORMATTER" "Ljava/util/function/BiFunction;" fm) (Z0 : n0 ≤ h0.size) : Con l Z y23 jdk_52_method_83_code 2 (some .char) ({ frames := 3, cells := 0, slots := 0, locals := 40 } : Room) #[(.ref d1), (.int (3 : Int32))] h0 n0 (Pu (some (.int cz)) h0) := by
  refine Con.of pf_23 (fun m => ef_uc_3 m d1) ?_
  intro p e s m below meth c C
  refine W.iloadN C d23_0 rfl ?_
  refine W.aloadN C d23_1 rfl rfl ?_
  refine W.callS C (y' := y24) d23_2 (tkw hw 107 rfl) (tkw hw 108 rfl) (tkw hw 55 rfl) (tkw hw 109 rfl) (by decide) (argsL := [(.int (3 : Int32)), (.ref d1)]) (rest := []) rfl (lenOf pd_3 rfl) (con_uci l Z a0 hw h0 n0 (3 : Int32) d1 vs nn hL fm hfm (by decide) hxy Ld S_F Z0) 0 0 0 rfl rfl rfl (by decide) (by decide) (by decide) (by decide) rfl ?_
  rintro _ _ ⟨rfl, rfl⟩
  refine W.aloadN C d23_5 rfl rfl ?_
  refine W.iloadN C d23_6 rfl ?_
  refine W.callS C (y' := y22) d23_7 (tkw hw 101 rfl) (tkw hw 102 rfl) (tkw hw 55 rfl) (tkw hw 103 rfl) (by decide) (argsL := [(.ref d1), (.int (3 : Int32))]) (rest := []) rfl (lenOf pd_4 rfl) (con_gc_3 l Z a0 hw h0 n0 d1 vs cz hc0 hc1 q0 q1 Ld S_A S_H S_L Z0) 0 0 0 rfl rfl rfl (by decide) (by decide) (by decide) (by decide) rfl ?_
  rintro _ _ ⟨rfl, rfl⟩
  exact W.iret C d23_10 (by simp) (own_nc cz hc0 hc1) (FN.ok (by decide) (by decide) ⟨rfl, rfl⟩)

theorem ef_lc_3 (m : MethodId) (d1 : Addr) : entryFrame m #[(.ref d1), (.int (3 : Int32))] 2 = mkF m 0 #[.val (.ref d1), .val (.int (3 : Int32))] [] := by first | (simp [entryFrame, mkF, argsToLocals, Value.category]; done) | rfl
set_option maxRecDepth 65536 in
set_option maxHeartbeats 40000000 in
theorem con_lc_3 (l : Launch) (Z : State) (a0 : Array Value) (hw : ∀ d ∈ tables_1, d.before a0 Z = true) (h0 : Heap) (n0 : Nat) (d1 : Addr) (vs : List Value) (nn : Int32) (hL : vs.length.toInt32 = nn) (cz : Int32) (hc0 : 0 ≤ cz.toInt) (hc : ¬ (255 : Int32) < cz) (fm : Value) (hfm : fm.isRef = true) (hxy : (3 : Int32) < nn) (q0 : vs[3]? = some (.int ((cz).toInt8.toInt32))) (Ld : Al Z h0 d1 .byte vs) (S_F : Sta Z h0 "jdk/internal/util/Preconditions" "SIOOBE_FORMATTER" "Ljava/util/function/BiFunction;" fm) (Z0 : n0 ≤ h0.size) : Con l Z y15 jdk_43_method_2_code 2 (some .char) ({ frames := 2, cells := 0, slots := 0, locals := 27 } : Room) #[(.ref d1), (.int (3 : Int32))] h0 n0 (Pu (some (.int cz)) h0) := by
  refine Con.of pf_15 (fun m => ef_lc_3 m d1) ?_
  intro p e s m below meth c C
  refine W.iloadN C d15_0 rfl ?_
  refine W.aloadN C d15_1 rfl rfl ?_
  refine W.arrlen C nn d15_2 Ld hL ?_
  refine W.callS C (y' := y16) d15_3 (tkw hw 77 rfl) (tkw hw 78 rfl) (tkw hw 8 rfl) (tkw hw 79 rfl) (by decide) (argsL := [(.int (3 : Int32)), (.int nn)]) (rest := []) rfl (lenOf pd_2 rfl) (con_ci l Z a0 hw h0 n0 (3 : Int32) nn (by decide) hxy fm hfm S_F Z0) 0 0 0 rfl rfl rfl (by decide) (by decide) (by decide) (by decide) rfl ?_
  rintro _ _ ⟨rfl, rfl⟩
  refine W.aloadN C d15_6 rfl rfl ?_
  refine W.iloadN C d15_7 rfl ?_
  refine W.baload C 3 d15_8 Ld rfl q0 ?_
  refine W.sipush C (255 : Int32) d15_9 rfl ?_
  refine W.iand C d15_12 ?_
  refine W.i2c C d15_13 ?_
  exact W.iret C d15_14 (by simp) (XT.narrow_c _) (FN.ok (by decide) (by decide) ⟨by show some _ = some _; rw [own_lc cz hc0 hc], rfl⟩)

abbrev y9 : MethodName := ⟨"java/lang/String", "coder", "()B"⟩
theorem d9_0 : decode jdk_42_method_152_code 0 = .ok (.getstatic 38, 3) := by decide +kernel
theorem d9_3 : decode jdk_42_method_152_code 3 = .ok (.ifCond .eq 10, 3) := by decide +kernel
theorem d9_6 : decode jdk_42_method_152_code 6 = .ok (.aload_n 0, 1) := by decide +kernel
theorem d9_7 : decode jdk_42_method_152_code 7 = .ok (.getfield 15, 3) := by decide +kernel
theorem d9_10 : decode jdk_42_method_152_code 10 = .ok (.goto 4, 3) := by decide +kernel
theorem d9_13 : decode jdk_42_method_152_code 13 = .ok (.iconst 1, 1) := by decide +kernel
theorem d9_14 : decode jdk_42_method_152_code 14 = .ok (.ireturn, 1) := by decide +kernel
theorem pf_9 : plainFor y9 = true := by first | exact plainFor_of_name (by first | (simp [plainName, overriddenIn]; done) | decide +kernel) | decide +kernel
theorem ef_cd_0 (m : MethodId) (a1 : Addr) : entryFrame m #[(.ref a1)] 1 = mkF m 0 #[.val (.ref a1)] [] := by first | (simp [entryFrame, mkF, argsToLocals, Value.category]; done) | rfl
set_option maxRecDepth 65536 in
set_option maxHeartbeats 40000000 in
theorem con_cd_0 (l : Launch) (Z : State) (a0 : Array Value) (hw : ∀ d ∈ tables_1, d.before a0 Z = true) (h0 : Heap) (n0 : Nat) (a1 : Addr) (cv : Int32) (hcv : ¬ cv = 0) (Fc : Fld Z h0 a1 "java/lang/String" "coder" "B" (.int 0)) (S_C : Sta Z h0 "java/lang/String" "COMPACT_STRINGS" "Z" (.int cv)) (Z0 : n0 ≤ h0.size) : Con l Z y9 jdk_42_method_152_code 1 (some .byte) ({ frames := 0, cells := 0, slots := 0, locals := 0 } : Room) #[(.ref a1)] h0 n0 (Pu (some (.int 0)) h0) := by
  refine Con.of pf_9 (fun m => ef_cd_0 m a1) ?_
  intro p e s m below meth c C
  refine W.getS C d9_0 (tkw hw 51 rfl) Via.refl S_C ?_
  refine W.if_eq C 13 d9_3 rfl (fun bq1 => absurd bq1 hcv) (fun bq1 => ?_)
  refine W.aloadN C d9_6 rfl rfl ?_
  refine W.getF C d9_7 (tkw hw 27 rfl) Via.refl Fc ?_
  refine W.goto C 14 d9_10 rfl ?_
  exact W.iret C d9_14 (by simp) rfl (FN.ok (by decide) (by decide) ⟨rfl, rfl⟩)

abbrev y14 : MethodName := ⟨"java/lang/String", "isLatin1", "()Z"⟩
theorem d14_0 : decode jdk_42_method_154_code 0 = .ok (.getstatic 38, 3) := by decide +kernel
theorem d14_3 : decode jdk_42_method_154_code 3 = .ok (.ifCond .eq 14, 3) := by decide +kernel
theorem d14_6 : decode jdk_42_method_154_code 6 = .ok (.aload_n 0, 1) := by decide +kernel
theorem d14_7 : decode jdk_42_method_154_code 7 = .ok (.getfield 15, 3) := by decide +kernel
theorem d14_10 : decode jdk_42_method_154_code 10 = .ok (.ifCond .ne 7, 3) := by decide +kernel
theorem d14_13 : decode jdk_42_method_154_code 13 = .ok (.iconst 1, 1) := by decide +kernel
theorem d14_14 : decode jdk_42_method_154_code 14 = .ok (.goto 4, 3) := by decide +kernel
theorem d14_17 : decode jdk_42_method_154_code 17 = .ok (.iconst 0, 1) := by decide +kernel
theorem d14_18 : decode jdk_42_method_154_code 18 = .ok (.ireturn, 1) := by decide +kernel
theorem pf_14 : plainFor y14 = true := by first | exact plainFor_of_name (by first | (simp [plainName, overriddenIn]; done) | decide +kernel) | decide +kernel
theorem ef_il_0 (m : MethodId) (a1 : Addr) : entryFrame m #[(.ref a1)] 1 = mkF m 0 #[.val (.ref a1)] [] := by first | (simp [entryFrame, mkF, argsToLocals, Value.category]; done) | rfl
set_option maxRecDepth 65536 in
set_option maxHeartbeats 40000000 in
theorem con_il_0 (l : Launch) (Z : State) (a0 : Array Value) (hw : ∀ d ∈ tables_1, d.before a0 Z = true) (h0 : Heap) (n0 : Nat) (a1 : Addr) (cv : Int32) (hcv : ¬ cv = 0) (Fc : Fld Z h0 a1 "java/lang/String" "coder" "B" (.int 0)) (S_C : Sta Z h0 "java/lang/String" "COMPACT_STRINGS" "Z" (.int cv)) (Z0 : n0 ≤ h0.size) : Con l Z y14 jdk_42_method_154_code 1 (some .boolean) ({ frames := 0, cells := 0, slots := 0, locals := 0 } : Room) #[(.ref a1)] h0 n0 (Pu (some (.int 1)) h0) := by
  refine Con.of pf_14 (fun m => ef_il_0 m a1) ?_
  intro p e s m below meth c C
  refine W.getS C d14_0 (tkw hw 51 rfl) Via.refl S_C ?_
  refine W.if_eq C 17 d14_3 rfl (fun bq1 => absurd bq1 hcv) (fun bq1 => ?_)
  refine W.aloadN C d14_6 rfl rfl ?_
  refine W.getF C d14_7 (tkw hw 27 rfl) Via.refl Fc ?_
  refine W.if_ne C 17 d14_10 rfl (fun b => absurd b (by decide)) (fun _ => ?_)
  refine W.iconst C (1 : Int32) d14_13 rfl ?_
  refine W.goto C 18 d14_14 rfl ?_
  exact W.iret C d14_18 (by simp) rfl (FN.ok (by decide) (by decide) ⟨rfl, rfl⟩)

abbrev y8 : MethodName := ⟨"java/lang/String", "length", "()I"⟩
theorem d8_0 : decode jdk_42_method_54_code 0 = .ok (.aload_n 0, 1) := by decide +kernel
theorem d8_1 : decode jdk_42_method_54_code 1 = .ok (.getfield 9, 3) := by decide +kernel
theorem d8_4 : decode jdk_42_method_54_code 4 = .ok (.arraylength, 1) := by decide +kernel
theorem d8_5 : decode jdk_42_method_54_code 5 = .ok (.aload_n 0, 1) := by decide +kernel
theorem d8_6 : decode jdk_42_method_54_code 6 = .ok (.invokevirtual 335, 3) := by decide +kernel
theorem d8_9 : decode jdk_42_method_54_code 9 = .ok (.ishr, 1) := by decide +kernel
theorem d8_10 : decode jdk_42_method_54_code 10 = .ok (.ireturn, 1) := by decide +kernel
theorem pf_8 : plainFor y8 = true := by first | exact plainFor_of_name (by first | (simp [plainName, overriddenIn]; done) | decide +kernel) | decide +kernel
theorem ef_ln_0 (m : MethodId) (a1 : Addr) : entryFrame m #[(.ref a1)] 1 = mkF m 0 #[.val (.ref a1)] [] := by first | (simp [entryFrame, mkF, argsToLocals, Value.category]; done) | rfl
theorem pd_5 : parseMethodDescriptor "()B" = some ⟨[], some .byte⟩ := by decide +kernel
set_option maxRecDepth 65536 in
set_option maxHeartbeats 40000000 in
theorem con_ln_0 (l : Launch) (Z : State) (a0 : Array Value) (hw : ∀ d ∈ tables_1, d.before a0 Z = true) (h0 : Heap) (n0 : Nat) (a1 : Addr) (d1 : Addr) (vs : List Value) (nn : Int32) (hL : vs.length.toInt32 = nn) (r : Int32) (hr : nn >>> ((0 : Int32) &&& 31) = r) (cv : Int32) (hcv : ¬ cv = 0) (E_a1 : Exa Z h0 a1 "java/lang/String") (Fv : Fld Z h0 a1 "java/lang/String" "value" "[B" (.ref d1)) (Fc : Fld Z h0 a1 "java/lang/String" "coder" "B" (.int 0)) (Ld : Al Z h0 d1 .byte vs) (S_C : Sta Z h0 "java/lang/String" "COMPACT_STRINGS" "Z" (.int cv)) (Z0 : n0 ≤ h0.size) : Con l Z y8 jdk_42_method_54_code 1 (some .int) ({ frames := 1, cells := 0, slots := 0, locals := 13 } : Room) #[(.ref a1)] h0 n0 (Pu (some (.int r)) h0) := by
  refine Con.of pf_8 (fun m => ef_ln_0 m a1) ?_
  intro p e s m below meth c C
  refine W.aloadN C d8_0 rfl rfl ?_
  refine W.getF C d8_1 (tkw hw 26 rfl) Via.refl Fv ?_
  refine W.arrlen C nn d8_4 Ld hL ?_
  refine W.aloadN C d8_5 rfl rfl ?_
  refine W.callV C (y' := y9) d8_6 (tkw hw 46 rfl) (tkw hw 47 rfl) (tkw hw 49 rfl) (tkw hw 48 rfl) (tkw hw 8 rfl) (tkw hw 50 rfl) (by decide) E_a1 (argsL := []) (rest := [(.int nn)]) rfl (lenOf pd_5 rfl) (con_cd_0 l Z a0 hw h0 n0 a1 cv hcv Fc S_C Z0) 1 0 0 rfl rfl rfl (by decide) (by decide) (by decide) (by decide) rfl ?_
  rintro _ _ ⟨rfl, rfl⟩
  refine W.ishr C d8_9 ?_
  exact W.iret C d8_10 (by simp) rfl (FN.ok (by decide) (by decide) ⟨by show some _ = some _; rw [hr], rfl⟩)

theorem own_l5 {c : Int32} (h : ¬ (255 : Int32) < c) : c.toInt < 65536 := by
  have h2 : ¬ (255 : Int32).toInt < c.toInt := fun q => h (Int32.lt_iff_toInt_lt.mpr q)
  have z : (255 : Int32).toInt = 255 := rfl
  omega
abbrev y13 : MethodName := ⟨"java/lang/String", "charAt", "(I)C"⟩
theorem d13_0 : decode jdk_42_method_56_code 0 = .ok (.aload_n 0, 1) := by decide +kernel
theorem d13_1 : decode jdk_42_method_56_code 1 = .ok (.invokevirtual 492, 3) := by decide +kernel
theorem d13_4 : decode jdk_42_method_56_code 4 = .ok (.ifCond .eq 12, 3) := by decide +kernel
theorem d13_7 : decode jdk_42_method_56_code 7 = .ok (.aload_n 0, 1) := by decide +kernel
theorem d13_8 : decode jdk_42_method_56_code 8 = .ok (.getfield 9, 3) := by decide +kernel
theorem d13_11 : decode jdk_42_method_56_code 11 = .ok (.iload_n 1, 1) := by decide +kernel
theorem d13_12 : decode jdk_42_method_56_code 12 = .ok (.invokestatic 495, 3) := by decide +kernel
theorem d13_15 : decode jdk_42_method_56_code 15 = .ok (.ireturn, 1) := by decide +kernel
theorem d13_16 : decode jdk_42_method_56_code 16 = .ok (.aload_n 0, 1) := by decide +kernel
theorem d13_17 : decode jdk_42_method_56_code 17 = .ok (.getfield 9, 3) := by decide +kernel
theorem d13_20 : decode jdk_42_method_56_code 20 = .ok (.iload_n 1, 1) := by decide +kernel
theorem d13_21 : decode jdk_42_method_56_code 21 = .ok (.invokestatic 498, 3) := by decide +kernel
theorem d13_24 : decode jdk_42_method_56_code 24 = .ok (.ireturn, 1) := by decide +kernel
theorem pf_13 : plainFor y13 = true := by first | exact plainFor_of_name (by first | (simp [plainName, overriddenIn]; done) | decide +kernel) | decide +kernel
theorem ef_ca_0_0 (m : MethodId) (a1 : Addr) : entryFrame m #[(.ref a1), (.int (0 : Int32))] 2 = mkF m 0 #[.val (.ref a1), .val (.int (0 : Int32))] [] := by first | (simp [entryFrame, mkF, argsToLocals, Value.category]; done) | rfl
theorem pd_6 : parseMethodDescriptor "()Z" = some ⟨[], some .boolean⟩ := by decide +kernel
set_option maxRecDepth 65536 in
set_option maxHeartbeats 40000000 in
theorem con_ca_0_0 (l : Launch) (Z : State) (a0 : Array Value) (hw : ∀ d ∈ tables_1, d.before a0 Z = true) (h0 : Heap) (n0 : Nat) (a1 : Addr) (d1 : Addr) (vs : List Value) (nn : Int32) (hL : vs.length.toInt32 = nn) (cz : Int32) (hc0 : 0 ≤ cz.toInt) (hc : ¬ (255 : Int32) < cz) (fm : Value) (hfm : fm.isRef = true) (cv : Int32) (hcv : ¬ cv = 0) (hxy : (0 : Int32) < nn) (q0 : vs[0]? = some (.int ((cz).toInt8.toInt32))) (E_a1 : Exa Z h0 a1 "java/lang/String") (Fv : Fld Z h0 a1 "java/lang/String" "value" "[B" (.ref d1)) (Fc : Fld Z h0 a1 "java/lang/String" "coder" "B" (.int 0)) (Ld : Al Z h0 d1 .byte vs) (S_C : Sta Z h0 "java/lang/String" "COMPACT_STRINGS" "Z" (.int cv)) (S_F : Sta Z h0 "jdk/internal/util/Preconditions" "SIOOBE_FORMATTER" "Ljava/util/function/BiFunction;" fm) (Z0 : n0 ≤ h0.size) : Con l Z y13 jdk_42_method_56_code 2 (some .char) ({ frames := 3, cells := 0, slots := 0, locals := 40 } : Room) #[(.ref a1), (.int (0 : Int32))] h0 n0 (Pu (some (.int cz)) h0) := by
  refine Con.of pf_13 (fun m => ef_ca_0_0 m a1) ?_
  intro p e s m below meth c C
  refine W.aloadN C d13_0 rfl rfl ?_
  refine W.callV C (y' := y14) d13_1 (tkw hw 68 rfl) (tkw hw 69 rfl) (tkw hw 71 rfl) (tkw hw 70 rfl) (tkw hw 8 rfl) (tkw hw 72 rfl) (by decide) E_a1 (argsL := []) (rest := []) rfl (lenOf pd_6 rfl) (con_il_0 l Z a0 hw h0 n0 a1 cv hcv Fc S_C Z0) 0 0 0 rfl rfl rfl (by decide) (by decide) (by decide) (by decide) rfl ?_
  rintro _ _ ⟨rfl, rfl⟩
  refine W.if_eq C 16 d13_4 rfl (fun b => absurd b (by decide)) (fun _ => ?_)
  refine W.aloadN C d13_7 rfl rfl ?_
  refine W.getF C d13_8 (tkw hw 26 rfl) Via.refl Fv ?_
  refine W.iloadN C d13_11 rfl ?_
  refine W.callS C (y' := y15) d13_12 (tkw hw 73 rfl) (tkw hw 74 rfl) (tkw hw 75 rfl) (tkw hw 76 rfl) (by decide) (argsL := [(.ref d1), (.int (0 : Int32))]) (rest := []) rfl (lenOf pd_4 rfl) (con_lc_0 l Z a0 hw h0 n0 d1 vs nn hL cz hc0 hc fm hfm hxy q0 Ld S_F Z0) 0 0 0 rfl rfl rfl (by decide) (by decide) (by decide) (by decide) rfl ?_
  rintro _ _ ⟨rfl, rfl⟩
  exact W.iret C d13_15 (by simp) (own_nc cz hc0 (own_l5 hc)) (FN.ok (by decide) (by decide) ⟨rfl, rfl⟩)

theorem ef_ca_0_1 (m : MethodId) (a1 : Addr) : entryFrame m #[(.ref a1), (.int (1 : Int32))] 2 = mkF m 0 #[.val (.ref a1), .val (.int (1 : Int32))] [] := by first | (simp [entryFrame, mkF, argsToLocals, Value.category]; done) | rfl
set_option maxRecDepth 65536 in
set_option maxHeartbeats 40000000 in
theorem con_ca_0_1 (l : Launch) (Z : State) (a0 : Array Value) (hw : ∀ d ∈ tables_1, d.before a0 Z = true) (h0 : Heap) (n0 : Nat) (a1 : Addr) (d1 : Addr) (vs : List Value) (nn : Int32) (hL : vs.length.toInt32 = nn) (cz : Int32) (hc0 : 0 ≤ cz.toInt) (hc : ¬ (255 : Int32) < cz) (fm : Value) (hfm : fm.isRef = true) (cv : Int32) (hcv : ¬ cv = 0) (hxy : (1 : Int32) < nn) (q0 : vs[1]? = some (.int ((cz).toInt8.toInt32))) (E_a1 : Exa Z h0 a1 "java/lang/String") (Fv : Fld Z h0 a1 "java/lang/String" "value" "[B" (.ref d1)) (Fc : Fld Z h0 a1 "java/lang/String" "coder" "B" (.int 0)) (Ld : Al Z h0 d1 .byte vs) (S_C : Sta Z h0 "java/lang/String" "COMPACT_STRINGS" "Z" (.int cv)) (S_F : Sta Z h0 "jdk/internal/util/Preconditions" "SIOOBE_FORMATTER" "Ljava/util/function/BiFunction;" fm) (Z0 : n0 ≤ h0.size) : Con l Z y13 jdk_42_method_56_code 2 (some .char) ({ frames := 3, cells := 0, slots := 0, locals := 40 } : Room) #[(.ref a1), (.int (1 : Int32))] h0 n0 (Pu (some (.int cz)) h0) := by
  refine Con.of pf_13 (fun m => ef_ca_0_1 m a1) ?_
  intro p e s m below meth c C
  refine W.aloadN C d13_0 rfl rfl ?_
  refine W.callV C (y' := y14) d13_1 (tkw hw 68 rfl) (tkw hw 69 rfl) (tkw hw 71 rfl) (tkw hw 70 rfl) (tkw hw 8 rfl) (tkw hw 72 rfl) (by decide) E_a1 (argsL := []) (rest := []) rfl (lenOf pd_6 rfl) (con_il_0 l Z a0 hw h0 n0 a1 cv hcv Fc S_C Z0) 0 0 0 rfl rfl rfl (by decide) (by decide) (by decide) (by decide) rfl ?_
  rintro _ _ ⟨rfl, rfl⟩
  refine W.if_eq C 16 d13_4 rfl (fun b => absurd b (by decide)) (fun _ => ?_)
  refine W.aloadN C d13_7 rfl rfl ?_
  refine W.getF C d13_8 (tkw hw 26 rfl) Via.refl Fv ?_
  refine W.iloadN C d13_11 rfl ?_
  refine W.callS C (y' := y15) d13_12 (tkw hw 73 rfl) (tkw hw 74 rfl) (tkw hw 75 rfl) (tkw hw 76 rfl) (by decide) (argsL := [(.ref d1), (.int (1 : Int32))]) (rest := []) rfl (lenOf pd_4 rfl) (con_lc_1 l Z a0 hw h0 n0 d1 vs nn hL cz hc0 hc fm hfm hxy q0 Ld S_F Z0) 0 0 0 rfl rfl rfl (by decide) (by decide) (by decide) (by decide) rfl ?_
  rintro _ _ ⟨rfl, rfl⟩
  exact W.iret C d13_15 (by simp) (own_nc cz hc0 (own_l5 hc)) (FN.ok (by decide) (by decide) ⟨rfl, rfl⟩)

theorem ef_ca_0_2 (m : MethodId) (a1 : Addr) : entryFrame m #[(.ref a1), (.int (2 : Int32))] 2 = mkF m 0 #[.val (.ref a1), .val (.int (2 : Int32))] [] := by first | (simp [entryFrame, mkF, argsToLocals, Value.category]; done) | rfl
set_option maxRecDepth 65536 in
set_option maxHeartbeats 40000000 in
theorem con_ca_0_2 (l : Launch) (Z : State) (a0 : Array Value) (hw : ∀ d ∈ tables_1, d.before a0 Z = true) (h0 : Heap) (n0 : Nat) (a1 : Addr) (d1 : Addr) (vs : List Value) (nn : Int32) (hL : vs.length.toInt32 = nn) (cz : Int32) (hc0 : 0 ≤ cz.toInt) (hc : ¬ (255 : Int32) < cz) (fm : Value) (hfm : fm.isRef = true) (cv : Int32) (hcv : ¬ cv = 0) (hxy : (2 : Int32) < nn) (q0 : vs[2]? = some (.int ((cz).toInt8.toInt32))) (E_a1 : Exa Z h0 a1 "java/lang/String") (Fv : Fld Z h0 a1 "java/lang/String" "value" "[B" (.ref d1)) (Fc : Fld Z h0 a1 "java/lang/String" "coder" "B" (.int 0)) (Ld : Al Z h0 d1 .byte vs) (S_C : Sta Z h0 "java/lang/String" "COMPACT_STRINGS" "Z" (.int cv)) (S_F : Sta Z h0 "jdk/internal/util/Preconditions" "SIOOBE_FORMATTER" "Ljava/util/function/BiFunction;" fm) (Z0 : n0 ≤ h0.size) : Con l Z y13 jdk_42_method_56_code 2 (some .char) ({ frames := 3, cells := 0, slots := 0, locals := 40 } : Room) #[(.ref a1), (.int (2 : Int32))] h0 n0 (Pu (some (.int cz)) h0) := by
  refine Con.of pf_13 (fun m => ef_ca_0_2 m a1) ?_
  intro p e s m below meth c C
  refine W.aloadN C d13_0 rfl rfl ?_
  refine W.callV C (y' := y14) d13_1 (tkw hw 68 rfl) (tkw hw 69 rfl) (tkw hw 71 rfl) (tkw hw 70 rfl) (tkw hw 8 rfl) (tkw hw 72 rfl) (by decide) E_a1 (argsL := []) (rest := []) rfl (lenOf pd_6 rfl) (con_il_0 l Z a0 hw h0 n0 a1 cv hcv Fc S_C Z0) 0 0 0 rfl rfl rfl (by decide) (by decide) (by decide) (by decide) rfl ?_
  rintro _ _ ⟨rfl, rfl⟩
  refine W.if_eq C 16 d13_4 rfl (fun b => absurd b (by decide)) (fun _ => ?_)
  refine W.aloadN C d13_7 rfl rfl ?_
  refine W.getF C d13_8 (tkw hw 26 rfl) Via.refl Fv ?_
  refine W.iloadN C d13_11 rfl ?_
  refine W.callS C (y' := y15) d13_12 (tkw hw 73 rfl) (tkw hw 74 rfl) (tkw hw 75 rfl) (tkw hw 76 rfl) (by decide) (argsL := [(.ref d1), (.int (2 : Int32))]) (rest := []) rfl (lenOf pd_4 rfl) (con_lc_2 l Z a0 hw h0 n0 d1 vs nn hL cz hc0 hc fm hfm hxy q0 Ld S_F Z0) 0 0 0 rfl rfl rfl (by decide) (by decide) (by decide) (by decide) rfl ?_
  rintro _ _ ⟨rfl, rfl⟩
  exact W.iret C d13_15 (by simp) (own_nc cz hc0 (own_l5 hc)) (FN.ok (by decide) (by decide) ⟨rfl, rfl⟩)

theorem ef_ca_0_3 (m : MethodId) (a1 : Addr) : entryFrame m #[(.ref a1), (.int (3 : Int32))] 2 = mkF m 0 #[.val (.ref a1), .val (.int (3 : Int32))] [] := by first | (simp [entryFrame, mkF, argsToLocals, Value.category]; done) | rfl
set_option maxRecDepth 65536 in
set_option maxHeartbeats 40000000 in
theorem con_ca_0_3 (l : Launch) (Z : State) (a0 : Array Value) (hw : ∀ d ∈ tables_1, d.before a0 Z = true) (h0 : Heap) (n0 : Nat) (a1 : Addr) (d1 : Addr) (vs : List Value) (nn : Int32) (hL : vs.length.toInt32 = nn) (cz : Int32) (hc0 : 0 ≤ cz.toInt) (hc : ¬ (255 : Int32) < cz) (fm : Value) (hfm : fm.isRef = true) (cv : Int32) (hcv : ¬ cv = 0) (hxy : (3 : Int32) < nn) (q0 : vs[3]? = some (.int ((cz).toInt8.toInt32))) (E_a1 : Exa Z h0 a1 "java/lang/String") (Fv : Fld Z h0 a1 "java/lang/String" "value" "[B" (.ref d1)) (Fc : Fld Z h0 a1 "java/lang/String" "coder" "B" (.int 0)) (Ld : Al Z h0 d1 .byte vs) (S_C : Sta Z h0 "java/lang/String" "COMPACT_STRINGS" "Z" (.int cv)) (S_F : Sta Z h0 "jdk/internal/util/Preconditions" "SIOOBE_FORMATTER" "Ljava/util/function/BiFunction;" fm) (Z0 : n0 ≤ h0.size) : Con l Z y13 jdk_42_method_56_code 2 (some .char) ({ frames := 3, cells := 0, slots := 0, locals := 40 } : Room) #[(.ref a1), (.int (3 : Int32))] h0 n0 (Pu (some (.int cz)) h0) := by
  refine Con.of pf_13 (fun m => ef_ca_0_3 m a1) ?_
  intro p e s m below meth c C
  refine W.aloadN C d13_0 rfl rfl ?_
  refine W.callV C (y' := y14) d13_1 (tkw hw 68 rfl) (tkw hw 69 rfl) (tkw hw 71 rfl) (tkw hw 70 rfl) (tkw hw 8 rfl) (tkw hw 72 rfl) (by decide) E_a1 (argsL := []) (rest := []) rfl (lenOf pd_6 rfl) (con_il_0 l Z a0 hw h0 n0 a1 cv hcv Fc S_C Z0) 0 0 0 rfl rfl rfl (by decide) (by decide) (by decide) (by decide) rfl ?_
  rintro _ _ ⟨rfl, rfl⟩
  refine W.if_eq C 16 d13_4 rfl (fun b => absurd b (by decide)) (fun _ => ?_)
  refine W.aloadN C d13_7 rfl rfl ?_
  refine W.getF C d13_8 (tkw hw 26 rfl) Via.refl Fv ?_
  refine W.iloadN C d13_11 rfl ?_
  refine W.callS C (y' := y15) d13_12 (tkw hw 73 rfl) (tkw hw 74 rfl) (tkw hw 75 rfl) (tkw hw 76 rfl) (by decide) (argsL := [(.ref d1), (.int (3 : Int32))]) (rest := []) rfl (lenOf pd_4 rfl) (con_lc_3 l Z a0 hw h0 n0 d1 vs nn hL cz hc0 hc fm hfm hxy q0 Ld S_F Z0) 0 0 0 rfl rfl rfl (by decide) (by decide) (by decide) (by decide) rfl ?_
  rintro _ _ ⟨rfl, rfl⟩
  exact W.iret C d13_15 (by simp) (own_nc cz hc0 (own_l5 hc)) (FN.ok (by decide) (by decide) ⟨rfl, rfl⟩)

theorem ef_cd_1 (m : MethodId) (a1 : Addr) : entryFrame m #[(.ref a1)] 1 = mkF m 0 #[.val (.ref a1)] [] := by first | (simp [entryFrame, mkF, argsToLocals, Value.category]; done) | rfl
set_option maxRecDepth 65536 in
set_option maxHeartbeats 40000000 in
theorem con_cd_1 (l : Launch) (Z : State) (a0 : Array Value) (hw : ∀ d ∈ tables_1, d.before a0 Z = true) (h0 : Heap) (n0 : Nat) (a1 : Addr) (cv : Int32) (hcv : ¬ cv = 0) (Fc : Fld Z h0 a1 "java/lang/String" "coder" "B" (.int 1)) (S_C : Sta Z h0 "java/lang/String" "COMPACT_STRINGS" "Z" (.int cv)) (Z0 : n0 ≤ h0.size) : Con l Z y9 jdk_42_method_152_code 1 (some .byte) ({ frames := 0, cells := 0, slots := 0, locals := 0 } : Room) #[(.ref a1)] h0 n0 (Pu (some (.int 1)) h0) := by
  refine Con.of pf_9 (fun m => ef_cd_1 m a1) ?_
  intro p e s m below meth c C
  refine W.getS C d9_0 (tkw hw 51 rfl) Via.refl S_C ?_
  refine W.if_eq C 13 d9_3 rfl (fun bq1 => absurd bq1 hcv) (fun bq1 => ?_)
  refine W.aloadN C d9_6 rfl rfl ?_
  refine W.getF C d9_7 (tkw hw 27 rfl) Via.refl Fc ?_
  refine W.goto C 14 d9_10 rfl ?_
  exact W.iret C d9_14 (by simp) rfl (FN.ok (by decide) (by decide) ⟨rfl, rfl⟩)

theorem ef_il_1 (m : MethodId) (a1 : Addr) : entryFrame m #[(.ref a1)] 1 = mkF m 0 #[.val (.ref a1)] [] := by first | (simp [entryFrame, mkF, argsToLocals, Value.category]; done) | rfl
set_option maxRecDepth 65536 in
set_option maxHeartbeats 40000000 in
theorem con_il_1 (l : Launch) (Z : State) (a0 : Array Value) (hw : ∀ d ∈ tables_1, d.before a0 Z = true) (h0 : Heap) (n0 : Nat) (a1 : Addr) (cv : Int32) (hcv : ¬ cv = 0) (Fc : Fld Z h0 a1 "java/lang/String" "coder" "B" (.int 1)) (S_C : Sta Z h0 "java/lang/String" "COMPACT_STRINGS" "Z" (.int cv)) (Z0 : n0 ≤ h0.size) : Con l Z y14 jdk_42_method_154_code 1 (some .boolean) ({ frames := 0, cells := 0, slots := 0, locals := 0 } : Room) #[(.ref a1)] h0 n0 (Pu (some (.int 0)) h0) := by
  refine Con.of pf_14 (fun m => ef_il_1 m a1) ?_
  intro p e s m below meth c C
  refine W.getS C d14_0 (tkw hw 51 rfl) Via.refl S_C ?_
  refine W.if_eq C 17 d14_3 rfl (fun bq1 => absurd bq1 hcv) (fun bq1 => ?_)
  refine W.aloadN C d14_6 rfl rfl ?_
  refine W.getF C d14_7 (tkw hw 27 rfl) Via.refl Fc ?_
  refine W.if_ne C 17 d14_10 rfl (fun _ => ?_) (fun b => absurd b (by decide))
  refine W.iconst C (0 : Int32) d14_17 rfl ?_
  exact W.iret C d14_18 (by simp) rfl (FN.ok (by decide) (by decide) ⟨rfl, rfl⟩)

theorem ef_ln_1 (m : MethodId) (a1 : Addr) : entryFrame m #[(.ref a1)] 1 = mkF m 0 #[.val (.ref a1)] [] := by first | (simp [entryFrame, mkF, argsToLocals, Value.category]; done) | rfl
set_option maxRecDepth 65536 in
set_option maxHeartbeats 40000000 in
theorem con_ln_1 (l : Launch) (Z : State) (a0 : Array Value) (hw : ∀ d ∈ tables_1, d.before a0 Z = true) (h0 : Heap) (n0 : Nat) (a1 : Addr) (d1 : Addr) (vs : List Value) (nn : Int32) (hL : vs.length.toInt32 = nn) (r : Int32) (hr : nn >>> ((1 : Int32) &&& 31) = r) (cv : Int32) (hcv : ¬ cv = 0) (E_a1 : Exa Z h0 a1 "java/lang/String") (Fv : Fld Z h0 a1 "java/lang/String" "value" "[B" (.ref d1)) (Fc : Fld Z h0 a1 "java/lang/String" "coder" "B" (.int 1)) (Ld : Al Z h0 d1 .byte vs) (S_C : Sta Z h0 "java/lang/String" "COMPACT_STRINGS" "Z" (.int cv)) (Z0 : n0 ≤ h0.size) : Con l Z y8 jdk_42_method_54_code 1 (some .int) ({ frames := 1, cells := 0, slots := 0, locals := 13 } : Room) #[(.ref a1)] h0 n0 (Pu (some (.int r)) h0) := by
  refine Con.of pf_8 (fun m => ef_ln_1 m a1) ?_
  intro p e s m below meth c C
  refine W.aloadN C d8_0 rfl rfl ?_
  refine W.getF C d8_1 (tkw hw 26 rfl) Via.refl Fv ?_
  refine W.arrlen C nn d8_4 Ld hL ?_
  refine W.aloadN C d8_5 rfl rfl ?_
  refine W.callV C (y' := y9) d8_6 (tkw hw 46 rfl) (tkw hw 47 rfl) (tkw hw 49 rfl) (tkw hw 48 rfl) (tkw hw 8 rfl) (tkw hw 50 rfl) (by decide) E_a1 (argsL := []) (rest := [(.int nn)]) rfl (lenOf pd_5 rfl) (con_cd_1 l Z a0 hw h0 n0 a1 cv hcv Fc S_C Z0) 1 0 0 rfl rfl rfl (by decide) (by decide) (by decide) (by decide) rfl ?_
  rintro _ _ ⟨rfl, rfl⟩
  refine W.ishr C d8_9 ?_
  exact W.iret C d8_10 (by simp) rfl (FN.ok (by decide) (by decide) ⟨by show some _ = some _; rw [hr], rfl⟩)

theorem ef_ca_1_0 (m : MethodId) (a1 : Addr) : entryFrame m #[(.ref a1), (.int (0 : Int32))] 2 = mkF m 0 #[.val (.ref a1), .val (.int (0 : Int32))] [] := by first | (simp [entryFrame, mkF, argsToLocals, Value.category]; done) | rfl
set_option maxRecDepth 65536 in
set_option maxHeartbeats 40000000 in
theorem con_ca_1_0 (l : Launch) (Z : State) (a0 : Array Value) (hw : ∀ d ∈ tables_1, d.before a0 Z = true) (h0 : Heap) (n0 : Nat) (a1 : Addr) (d1 : Addr) (vs : List Value) (nn : Int32) (hL : vs.length.toInt32 = nn) (cz : Int32) (hc0 : 0 ≤ cz.toInt) (hc1 : cz.toInt < 65536) (fm : Value) (hfm : fm.isRef = true) (cv : Int32) (hcv : ¬ cv = 0) (hxy : (0 : Int32) < (nn >>> ((1 : Int32) &&& 31))) (q0 : vs[0]? = some (.int (((cz >>> ((0 : Int32) &&& 31))).toInt8.toInt32))) (q1 : vs[1]? = some (.int (((cz >>> ((8 : Int32) &&& 31))).toInt8.toInt32))) (E_a1 : Exa Z h0 a1 "java/lang/String") (Fv : Fld Z h0 a1 "java/lang/String" "value" "[B" (.ref d1)) (Fc : Fld Z h0 a1 "java/lang/String" "coder" "B" (.int 1)) (Ld : Al Z h0 d1 .byte vs) (S_C : Sta Z h0 "java/lang/String" "COMPACT_STRINGS" "Z" (.int cv)) (S_F : Sta Z h0 "jdk/internal/util/Preconditions" "SIOOBE_FORMATTER" "Ljava/util/function/BiFunction;" fm) (S_A : Sta Z h0 "java/lang/StringUTF16" "$assertionsDisabled" "Z" (.int (1 : Int32))) (S_H : Sta Z h0 "java/lang/StringUTF16" "HI_BYTE_SHIFT" "I" (.int (0 : Int32))) (S_L : Sta Z h0 "java/lang/StringUTF16" "LO_BYTE_SHIFT" "I" (.int (8 : Int32))) (Z0 : n0 ≤ h0.size) : Con l Z y13 jdk_42_method_56_code 2 (some .char) ({ frames := 4, cells := 0, slots := 0, locals := 53 } : Room) #[(.ref a1), (.int (0 : Int32))] h0 n0 (Pu (some (.int cz)) h0) := by
  refine Con.of pf_13 (fun m => ef_ca_1_0 m a1) ?_
  intro p e s m below meth c C
  refine W.aloadN C d13_0 rfl rfl ?_
  refine W.callV C (y' := y14) d13_1 (tkw hw 68 rfl) (tkw hw 69 rfl) (tkw hw 71 rfl) (tkw hw 70 rfl) (tkw hw 8 rfl) (tkw hw 72 rfl) (by decide) E_a1 (argsL := []) (rest := []) rfl (lenOf pd_6 rfl) (con_il_1 l Z a0 hw h0 n0 a1 cv hcv Fc S_C Z0) 0 0 0 rfl rfl rfl (by decide) (by decide) (by decide) (by decide) rfl ?_
  rintro _ _ ⟨rfl, rfl⟩
  refine W.if_eq C 16 d13_4 rfl (fun _ => ?_) (fun b => absurd b (by decide))
  refine W.aloadN C d13_16 rfl rfl ?_
  refine W.getF C d13_17 (tkw hw 26 rfl) Via.refl Fv ?_
  refine W.iloadN C d13_20 rfl ?_
  refine W.callS C (y' := y23) d13_21 (tkw hw 104 rfl) (tkw hw 105 rfl) (tkw hw 55 rfl) (tkw hw 106 rfl) (by decide) (argsL := [(.ref d1), (.int (0 : Int32))]) (rest := []) rfl (lenOf pd_4 rfl) (con_uc_0 l Z a0 hw h0 n0 d1 vs nn hL cz hc0 hc1 fm hfm hxy q0 q1 Ld S_A S_H S_L S_F Z0) 0 0 0 rfl rfl rfl (by decide) (by decide) (by decide) (by decide) rfl ?_
  rintro _ _ ⟨rfl, rfl⟩
  exact W.iret C d13_24 (by simp) (own_nc cz hc0 hc1) (FN.ok (by decide) (by decide) ⟨rfl, rfl⟩)

theorem ef_ca_1_1 (m : MethodId) (a1 : Addr) : entryFrame m #[(.ref a1), (.int (1 : Int32))] 2 = mkF m 0 #[.val (.ref a1), .val (.int (1 : Int32))] [] := by first | (simp [entryFrame, mkF, argsToLocals, Value.category]; done) | rfl
set_option maxRecDepth 65536 in
set_option maxHeartbeats 40000000 in
theorem con_ca_1_1 (l : Launch) (Z : State) (a0 : Array Value) (hw : ∀ d ∈ tables_1, d.before a0 Z = true) (h0 : Heap) (n0 : Nat) (a1 : Addr) (d1 : Addr) (vs : List Value) (nn : Int32) (hL : vs.length.toInt32 = nn) (cz : Int32) (hc0 : 0 ≤ cz.toInt) (hc1 : cz.toInt < 65536) (fm : Value) (hfm : fm.isRef = true) (cv : Int32) (hcv : ¬ cv = 0) (hxy : (1 : Int32) < (nn >>> ((1 : Int32) &&& 31))) (q0 : vs[2]? = some (.int (((cz >>> ((0 : Int32) &&& 31))).toInt8.toInt32))) (q1 : vs[3]? = some (.int (((cz >>> ((8 : Int32) &&& 31))).toInt8.toInt32))) (E_a1 : Exa Z h0 a1 "java/lang/String") (Fv : Fld Z h0 a1 "java/lang/String" "value" "[B" (.ref d1)) (Fc : Fld Z h0 a1 "java/lang/String" "coder" "B" (.int 1)) (Ld : Al Z h0 d1 .byte vs) (S_C : Sta Z h0 "java/lang/String" "COMPACT_STRINGS" "Z" (.int cv)) (S_F : Sta Z h0 "jdk/internal/util/Preconditions" "SIOOBE_FORMATTER" "Ljava/util/function/BiFunction;" fm) (S_A : Sta Z h0 "java/lang/StringUTF16" "$assertionsDisabled" "Z" (.int (1 : Int32))) (S_H : Sta Z h0 "java/lang/StringUTF16" "HI_BYTE_SHIFT" "I" (.int (0 : Int32))) (S_L : Sta Z h0 "java/lang/StringUTF16" "LO_BYTE_SHIFT" "I" (.int (8 : Int32))) (Z0 : n0 ≤ h0.size) : Con l Z y13 jdk_42_method_56_code 2 (some .char) ({ frames := 4, cells := 0, slots := 0, locals := 53 } : Room) #[(.ref a1), (.int (1 : Int32))] h0 n0 (Pu (some (.int cz)) h0) := by
  refine Con.of pf_13 (fun m => ef_ca_1_1 m a1) ?_
  intro p e s m below meth c C
  refine W.aloadN C d13_0 rfl rfl ?_
  refine W.callV C (y' := y14) d13_1 (tkw hw 68 rfl) (tkw hw 69 rfl) (tkw hw 71 rfl) (tkw hw 70 rfl) (tkw hw 8 rfl) (tkw hw 72 rfl) (by decide) E_a1 (argsL := []) (rest := []) rfl (lenOf pd_6 rfl) (con_il_1 l Z a0 hw h0 n0 a1 cv hcv Fc S_C Z0) 0 0 0 rfl rfl rfl (by decide) (by decide) (by decide) (by decide) rfl ?_
  rintro _ _ ⟨rfl, rfl⟩
  refine W.if_eq C 16 d13_4 rfl (fun _ => ?_) (fun b => absurd b (by decide))
  refine W.aloadN C d13_16 rfl rfl ?_
  refine W.getF C d13_17 (tkw hw 26 rfl) Via.refl Fv ?_
  refine W.iloadN C d13_20 rfl ?_
  refine W.callS C (y' := y23) d13_21 (tkw hw 104 rfl) (tkw hw 105 rfl) (tkw hw 55 rfl) (tkw hw 106 rfl) (by decide) (argsL := [(.ref d1), (.int (1 : Int32))]) (rest := []) rfl (lenOf pd_4 rfl) (con_uc_1 l Z a0 hw h0 n0 d1 vs nn hL cz hc0 hc1 fm hfm hxy q0 q1 Ld S_A S_H S_L S_F Z0) 0 0 0 rfl rfl rfl (by decide) (by decide) (by decide) (by decide) rfl ?_
  rintro _ _ ⟨rfl, rfl⟩
  exact W.iret C d13_24 (by simp) (own_nc cz hc0 hc1) (FN.ok (by decide) (by decide) ⟨rfl, rfl⟩)

theorem ef_ca_1_2 (m : MethodId) (a1 : Addr) : entryFrame m #[(.ref a1), (.int (2 : Int32))] 2 = mkF m 0 #[.val (.ref a1), .val (.int (2 : Int32))] [] := by first | (simp [entryFrame, mkF, argsToLocals, Value.category]; done) | rfl
set_option maxRecDepth 65536 in
set_option maxHeartbeats 40000000 in
theorem con_ca_1_2 (l : Launch) (Z : State) (a0 : Array Value) (hw : ∀ d ∈ tables_1, d.before a0 Z = true) (h0 : Heap) (n0 : Nat) (a1 : Addr) (d1 : Addr) (vs : List Value) (nn : Int32) (hL : vs.length.toInt32 = nn) (cz : Int32) (hc0 : 0 ≤ cz.toInt) (hc1 : cz.toInt < 65536) (fm : Value) (hfm : fm.isRef = true) (cv : Int32) (hcv : ¬ cv = 0) (hxy : (2 : Int32) < (nn >>> ((1 : Int32) &&& 31))) (q0 : vs[4]? = some (.int (((cz >>> ((0 : Int32) &&& 31))).toInt8.toInt32))) (q1 : vs[5]? = some (.int (((cz >>> ((8 : Int32) &&& 31))).toInt8.toInt32))) (E_a1 : Exa Z h0 a1 "java/lang/String") (Fv : Fld Z h0 a1 "java/lang/String" "value" "[B" (.ref d1)) (Fc : Fld Z h0 a1 "java/lang/String" "coder" "B" (.int 1)) (Ld : Al Z h0 d1 .byte vs) (S_C : Sta Z h0 "java/lang/String" "COMPACT_STRINGS" "Z" (.int cv)) (S_F : Sta Z h0 "jdk/internal/util/Preconditions" "SIOOBE_FORMATTER" "Ljava/util/function/BiFunction;" fm) (S_A : Sta Z h0 "java/lang/StringUTF16" "$assertionsDisabled" "Z" (.int (1 : Int32))) (S_H : Sta Z h0 "java/lang/StringUTF16" "HI_BYTE_SHIFT" "I" (.int (0 : Int32))) (S_L : Sta Z h0 "java/lang/StringUTF16" "LO_BYTE_SHIFT" "I" (.int (8 : Int32))) (Z0 : n0 ≤ h0.size) : Con l Z y13 jdk_42_method_56_code 2 (some .char) ({ frames := 4, cells := 0, slots := 0, locals := 53 } : Room) #[(.ref a1), (.int (2 : Int32))] h0 n0 (Pu (some (.int cz)) h0) := by
  refine Con.of pf_13 (fun m => ef_ca_1_2 m a1) ?_
  intro p e s m below meth c C
  refine W.aloadN C d13_0 rfl rfl ?_
  refine W.callV C (y' := y14) d13_1 (tkw hw 68 rfl) (tkw hw 69 rfl) (tkw hw 71 rfl) (tkw hw 70 rfl) (tkw hw 8 rfl) (tkw hw 72 rfl) (by decide) E_a1 (argsL := []) (rest := []) rfl (lenOf pd_6 rfl) (con_il_1 l Z a0 hw h0 n0 a1 cv hcv Fc S_C Z0) 0 0 0 rfl rfl rfl (by decide) (by decide) (by decide) (by decide) rfl ?_
  rintro _ _ ⟨rfl, rfl⟩
  refine W.if_eq C 16 d13_4 rfl (fun _ => ?_) (fun b => absurd b (by decide))
  refine W.aloadN C d13_16 rfl rfl ?_
  refine W.getF C d13_17 (tkw hw 26 rfl) Via.refl Fv ?_
  refine W.iloadN C d13_20 rfl ?_
  refine W.callS C (y' := y23) d13_21 (tkw hw 104 rfl) (tkw hw 105 rfl) (tkw hw 55 rfl) (tkw hw 106 rfl) (by decide) (argsL := [(.ref d1), (.int (2 : Int32))]) (rest := []) rfl (lenOf pd_4 rfl) (con_uc_2 l Z a0 hw h0 n0 d1 vs nn hL cz hc0 hc1 fm hfm hxy q0 q1 Ld S_A S_H S_L S_F Z0) 0 0 0 rfl rfl rfl (by decide) (by decide) (by decide) (by decide) rfl ?_
  rintro _ _ ⟨rfl, rfl⟩
  exact W.iret C d13_24 (by simp) (own_nc cz hc0 hc1) (FN.ok (by decide) (by decide) ⟨rfl, rfl⟩)

theorem ef_ca_1_3 (m : MethodId) (a1 : Addr) : entryFrame m #[(.ref a1), (.int (3 : Int32))] 2 = mkF m 0 #[.val (.ref a1), .val (.int (3 : Int32))] [] := by first | (simp [entryFrame, mkF, argsToLocals, Value.category]; done) | rfl
set_option maxRecDepth 65536 in
set_option maxHeartbeats 40000000 in
theorem con_ca_1_3 (l : Launch) (Z : State) (a0 : Array Value) (hw : ∀ d ∈ tables_1, d.before a0 Z = true) (h0 : Heap) (n0 : Nat) (a1 : Addr) (d1 : Addr) (vs : List Value) (nn : Int32) (hL : vs.length.toInt32 = nn) (cz : Int32) (hc0 : 0 ≤ cz.toInt) (hc1 : cz.toInt < 65536) (fm : Value) (hfm : fm.isRef = true) (cv : Int32) (hcv : ¬ cv = 0) (hxy : (3 : Int32) < (nn >>> ((1 : Int32) &&& 31))) (q0 : vs[6]? = some (.int (((cz >>> ((0 : Int32) &&& 31))).toInt8.toInt32))) (q1 : vs[7]? = some (.int (((cz >>> ((8 : Int32) &&& 31))).toInt8.toInt32))) (E_a1 : Exa Z h0 a1 "java/lang/String") (Fv : Fld Z h0 a1 "java/lang/String" "value" "[B" (.ref d1)) (Fc : Fld Z h0 a1 "java/lang/String" "coder" "B" (.int 1)) (Ld : Al Z h0 d1 .byte vs) (S_C : Sta Z h0 "java/lang/String" "COMPACT_STRINGS" "Z" (.int cv)) (S_F : Sta Z h0 "jdk/internal/util/Preconditions" "SIOOBE_FORMATTER" "Ljava/util/function/BiFunction;" fm) (S_A : Sta Z h0 "java/lang/StringUTF16" "$assertionsDisabled" "Z" (.int (1 : Int32))) (S_H : Sta Z h0 "java/lang/StringUTF16" "HI_BYTE_SHIFT" "I" (.int (0 : Int32))) (S_L : Sta Z h0 "java/lang/StringUTF16" "LO_BYTE_SHIFT" "I" (.int (8 : Int32))) (Z0 : n0 ≤ h0.size) : Con l Z y13 jdk_42_method_56_code 2 (some .char) ({ frames := 4, cells := 0, slots := 0, locals := 53 } : Room) #[(.ref a1), (.int (3 : Int32))] h0 n0 (Pu (some (.int cz)) h0) := by
  refine Con.of pf_13 (fun m => ef_ca_1_3 m a1) ?_
  intro p e s m below meth c C
  refine W.aloadN C d13_0 rfl rfl ?_
  refine W.callV C (y' := y14) d13_1 (tkw hw 68 rfl) (tkw hw 69 rfl) (tkw hw 71 rfl) (tkw hw 70 rfl) (tkw hw 8 rfl) (tkw hw 72 rfl) (by decide) E_a1 (argsL := []) (rest := []) rfl (lenOf pd_6 rfl) (con_il_1 l Z a0 hw h0 n0 a1 cv hcv Fc S_C Z0) 0 0 0 rfl rfl rfl (by decide) (by decide) (by decide) (by decide) rfl ?_
  rintro _ _ ⟨rfl, rfl⟩
  refine W.if_eq C 16 d13_4 rfl (fun _ => ?_) (fun b => absurd b (by decide))
  refine W.aloadN C d13_16 rfl rfl ?_
  refine W.getF C d13_17 (tkw hw 26 rfl) Via.refl Fv ?_
  refine W.iloadN C d13_20 rfl ?_
  refine W.callS C (y' := y23) d13_21 (tkw hw 104 rfl) (tkw hw 105 rfl) (tkw hw 55 rfl) (tkw hw 106 rfl) (by decide) (argsL := [(.ref d1), (.int (3 : Int32))]) (rest := []) rfl (lenOf pd_4 rfl) (con_uc_3 l Z a0 hw h0 n0 d1 vs nn hL cz hc0 hc1 fm hfm hxy q0 q1 Ld S_A S_H S_L S_F Z0) 0 0 0 rfl rfl rfl (by decide) (by decide) (by decide) (by decide) rfl ?_
  rintro _ _ ⟨rfl, rfl⟩
  exact W.iret C d13_24 (by simp) (own_nc cz hc0 hc1) (FN.ok (by decide) (by decide) ⟨rfl, rfl⟩)

abbrev y6 : MethodName := ⟨"java/util/Objects", "requireNonNull", "(Ljava/lang/Object;Ljava/lang/String;)Ljava/lang/Object;"⟩
theorem d6_0 : decode jdk_31_method_11_code 0 = .ok (.aload_n 0, 1) := by decide +kernel
theorem d6_1 : decode jdk_31_method_11_code 1 = .ok (.ifnonnull 12, 3) := by decide +kernel
theorem d6_4 : decode jdk_31_method_11_code 4 = .ok (.new 84, 3) := by decide +kernel
theorem d6_7 : decode jdk_31_method_11_code 7 = .ok (.dup, 1) := by decide +kernel
theorem d6_8 : decode jdk_31_method_11_code 8 = .ok (.aload_n 1, 1) := by decide +kernel
theorem d6_9 : decode jdk_31_method_11_code 9 = .ok (.invokespecial 87, 3) := by decide +kernel
theorem d6_12 : decode jdk_31_method_11_code 12 = .ok (.athrow, 1) := by decide +kernel
theorem d6_13 : decode jdk_31_method_11_code 13 = .ok (.aload_n 0, 1) := by decide +kernel
theorem d6_14 : decode jdk_31_method_11_code 14 = .ok (.areturn, 1) := by decide +kernel
theorem pf_6 : plainFor y6 = true := by first | exact plainFor_of_name (by first | (simp [plainName, overriddenIn]; done) | decide +kernel) | decide +kernel
theorem ef_rn (m : MethodId) (a1 : Addr) (q1 : Addr) : entryFrame m #[(.ref a1), (.ref q1)] 2 = mkF m 0 #[.val (.ref a1), .val (.ref q1)] [] := by first | (simp [entryFrame, mkF, argsToLocals, Value.category]; done) | rfl
set_option maxRecDepth 65536 in
set_option maxHeartbeats 40000000 in
theorem con_rn (l : Launch) (Z : State) (a0 : Array Value) (hw : ∀ d ∈ tables_1, d.before a0 Z = true) (h0 : Heap) (n0 : Nat) (a1 : Addr) (q1 : Addr)  (Z0 : n0 ≤ h0.size) : Con l Z y6 jdk_31_method_11_code 2 (some (.object "java/lang/Object")) ({ frames := 0, cells := 0, slots := 0, locals := 0 } : Room) #[(.ref a1), (.ref q1)] h0 n0 (Pu (some (.ref a1)) h0) := by
  refine Con.of pf_6 (fun m => ef_rn m a1 q1) ?_
  intro p e s m below meth c C
  refine W.aloadN C d6_0 rfl rfl ?_
  refine W.ifnonnullYes C 13 d6_1 rfl ?_
  refine W.aloadN C d6_13 rfl rfl ?_
  exact W.aret C d6_14 rfl rfl rfl (FN.ok (by decide) (by decide) ⟨rfl, rfl⟩)

abbrev y7 : MethodName := ⟨"com/example/dibs/dibs/redis/LockKeys", "requireNoBrace", "(Ljava/lang/String;Ljava/lang/String;)V"⟩
theorem d7_0 : decode prog_8_method_25_code 0 = .ok (.iconst 0, 1) := by decide +kernel
theorem d7_1 : decode prog_8_method_25_code 1 = .ok (.istore_n 2, 1) := by decide +kernel
theorem d7_2 : decode prog_8_method_25_code 2 = .ok (.iload_n 2, 1) := by decide +kernel
theorem d7_3 : decode prog_8_method_25_code 3 = .ok (.aload_n 1, 1) := by decide +kernel
theorem d7_4 : decode prog_8_method_25_code 4 = .ok (.invokevirtual 183, 3) := by decide +kernel
theorem d7_7 : decode prog_8_method_25_code 7 = .ok (.if_icmp .ge 43, 3) := by decide +kernel
theorem d7_10 : decode prog_8_method_25_code 10 = .ok (.aload_n 1, 1) := by decide +kernel
theorem d7_11 : decode prog_8_method_25_code 11 = .ok (.iload_n 2, 1) := by decide +kernel
theorem d7_12 : decode prog_8_method_25_code 12 = .ok (.invokevirtual 187, 3) := by decide +kernel
theorem d7_15 : decode prog_8_method_25_code 15 = .ok (.istore_n 3, 1) := by decide +kernel
theorem d7_16 : decode prog_8_method_25_code 16 = .ok (.iload_n 3, 1) := by decide +kernel
theorem d7_17 : decode prog_8_method_25_code 17 = .ok (.bipush 123, 2) := by decide +kernel
theorem d7_19 : decode prog_8_method_25_code 19 = .ok (.if_icmp .eq 9, 3) := by decide +kernel
theorem d7_22 : decode prog_8_method_25_code 22 = .ok (.iload_n 3, 1) := by decide +kernel
theorem d7_23 : decode prog_8_method_25_code 23 = .ok (.bipush 125, 2) := by decide +kernel
theorem d7_25 : decode prog_8_method_25_code 25 = .ok (.if_icmp .ne 19, 3) := by decide +kernel
theorem d7_28 : decode prog_8_method_25_code 28 = .ok (.new 156, 3) := by decide +kernel
theorem d7_31 : decode prog_8_method_25_code 31 = .ok (.dup, 1) := by decide +kernel
theorem d7_32 : decode prog_8_method_25_code 32 = .ok (.aload_n 0, 1) := by decide +kernel
theorem d7_33 : decode prog_8_method_25_code 33 = .ok (.iload_n 3, 1) := by decide +kernel
theorem d7_34 : decode prog_8_method_25_code 34 = .ok (.iload_n 2, 1) := by decide +kernel
theorem d7_35 : decode prog_8_method_25_code 35 = .ok (.invokedynamic 191, 5) := by decide +kernel
theorem d7_40 : decode prog_8_method_25_code 40 = .ok (.invokespecial 160, 3) := by decide +kernel
theorem d7_43 : decode prog_8_method_25_code 43 = .ok (.athrow, 1) := by decide +kernel
theorem d7_44 : decode prog_8_method_25_code 44 = .ok (.iinc 2 1, 3) := by decide +kernel
theorem d7_47 : decode prog_8_method_25_code 47 = .ok (.goto (-45), 3) := by decide +kernel
theorem d7_50 : decode prog_8_method_25_code 50 = .ok (.return_, 1) := by decide +kernel
theorem pf_7 : plainFor y7 = true := by first | exact plainFor_of_name (by first | (simp [plainName, overriddenIn]; done) | decide +kernel) | decide +kernel
theorem ef_rb_0_0 (m : MethodId) (q1 : Addr) (a1 : Addr) : entryFrame m #[(.ref q1), (.ref a1)] 4 = mkF m 0 #[.val (.ref q1), .val (.ref a1), .unset, .unset] [] := by first | (simp [entryFrame, mkF, argsToLocals, Value.category]; done) | rfl
theorem pd_7 : parseMethodDescriptor "()I" = some ⟨[], some .int⟩ := by decide +kernel
theorem pd_8 : parseMethodDescriptor "(I)C" = some ⟨[.int], some .char⟩ := by decide +kernel
set_option maxRecDepth 65536 in
set_option maxHeartbeats 40000000 in
theorem con_rb_0_0 (l : Launch) (Z : State) (a0 : Array Value) (hw : ∀ d ∈ tables_1, d.before a0 Z = true) (h0 : Heap) (n0 : Nat) (q1 : Addr) (a1 : Addr) (d1 : Addr)  (fm : Value) (hfm : fm.isRef = true) (cv : Int32) (hcv : ¬ cv = 0) (E_a1 : Exa Z h0 a1 "java/lang/String") (Fv : Fld Z h0 a1 "java/lang/String" "value" "[B" (.ref d1)) (Fc : Fld Z h0 a1 "java/lang/String" "coder" "B" (.int 0)) (Ld : Al Z h0 d1 .byte []) (S_C : Sta Z h0 "java/lang/String" "COMPACT_STRINGS" "Z" (.int cv)) (S_F : Sta Z h0 "jdk/internal/util/Preconditions" "SIOOBE_FORMATTER" "Ljava/util/function/BiFunction;" fm) (Z0 : n0 ≤ h0.size) : Con l Z y7 prog_8_method_25_code 4 none ({ frames := 2, cells := 0, slots := 0, locals := 26 } : Room) #[(.ref q1), (.ref a1)] h0 n0 (Pu none h0) := by
  refine Con.of pf_7 (fun m => ef_rb_0_0 m q1 a1) ?_
  intro p e s m below meth c C
  refine W.iconst C (0 : Int32) d7_0 rfl ?_
  refine W.istoreN C #[.val (.ref q1), .val (.ref a1), .val (.int (0 : Int32)), .unset] d7_1 rfl ?_
  refine W.iloadN C d7_2 rfl ?_
  refine W.aloadN C d7_3 rfl rfl ?_
  refine W.callV C (y' := y8) d7_4 (tkw hw 41 rfl) (tkw hw 42 rfl) (tkw hw 44 rfl) (tkw hw 43 rfl) (tkw hw 8 rfl) (tkw hw 45 rfl) (by decide) E_a1 (argsL := []) (rest := [(.int (0 : Int32))]) rfl (lenOf pd_7 rfl) (con_ln_0 l Z a0 hw h0 n0 a1 d1 _ (0 : Int32) rfl (0 : Int32) (by decide) cv hcv E_a1 Fv Fc Ld S_C Z0) 1 0 0 rfl rfl rfl (by decide) (by decide) (by decide) (by decide) rfl ?_
  rintro _ _ ⟨rfl, rfl⟩
  refine W.icmp_ge C 50 d7_7 rfl (fun _ => ?_) (fun b => absurd b (by decide))
  exact W.retV C d7_50 (FN.ok (by decide) (by decide) ⟨rfl, rfl⟩)

abbrev y5 : MethodName := ⟨"com/example/dibs/dibs/redis/LockKeys", "checkPrefix", "(Ljava/lang/String;)V"⟩
theorem d5_0 : decode prog_8_method_3_code 0 = .ok (.aload_n 0, 1) := by decide +kernel
theorem d5_1 : decode prog_8_method_3_code 1 = .ok (.ldc 174, 2) := by decide +kernel
theorem d5_3 : decode prog_8_method_3_code 3 = .ok (.invokestatic 141, 3) := by decide +kernel
theorem d5_6 : decode prog_8_method_3_code 6 = .ok (.pop, 1) := by decide +kernel
theorem d5_7 : decode prog_8_method_3_code 7 = .ok (.ldc 176, 2) := by decide +kernel
theorem d5_9 : decode prog_8_method_3_code 9 = .ok (.aload_n 0, 1) := by decide +kernel
theorem d5_10 : decode prog_8_method_3_code 10 = .ok (.invokestatic 149, 3) := by decide +kernel
theorem d5_13 : decode prog_8_method_3_code 13 = .ok (.return_, 1) := by decide +kernel
theorem pf_5 : plainFor y5 = true := by first | exact plainFor_of_name (by first | (simp [plainName, overriddenIn]; done) | decide +kernel) | decide +kernel
theorem ef_cp_0_0 (m : MethodId) (a1 : Addr) : entryFrame m #[(.ref a1)] 1 = mkF m 0 #[.val (.ref a1)] [] := by first | (simp [entryFrame, mkF, argsToLocals, Value.category]; done) | rfl
theorem pd_9 : parseMethodDescriptor "(Ljava/lang/Object;Ljava/lang/String;)Ljava/lang/Object;" = some ⟨[(.object "java/lang/Object"), (.object "java/lang/String")], some (.object "java/lang/Object")⟩ := by decide +kernel
theorem pd_10 : parseMethodDescriptor "(Ljava/lang/String;Ljava/lang/String;)V" = some ⟨[(.object "java/lang/String"), (.object "java/lang/String")], none⟩ := by decide +kernel
set_option maxRecDepth 65536 in
set_option maxHeartbeats 40000000 in
theorem con_cp_0_0 (l : Launch) (Z : State) (a0 : Array Value) (hw : ∀ d ∈ tables_1, d.before a0 Z = true) (h0 : Heap) (n0 : Nat) (a1 : Addr) (d1 : Addr)  (fm : Value) (hfm : fm.isRef = true) (cv : Int32) (hcv : ¬ cv = 0) (E_a1 : Exa Z h0 a1 "java/lang/String") (Fv : Fld Z h0 a1 "java/lang/String" "value" "[B" (.ref d1)) (Fc : Fld Z h0 a1 "java/lang/String" "coder" "B" (.int 0)) (Ld : Al Z h0 d1 .byte []) (S_C : Sta Z h0 "java/lang/String" "COMPACT_STRINGS" "Z" (.int cv)) (S_F : Sta Z h0 "jdk/internal/util/Preconditions" "SIOOBE_FORMATTER" "Ljava/util/function/BiFunction;" fm) (Z0 : n0 ≤ h0.size) : ConW l Z y5 prog_8_method_3_code 1 none ({ frames := 3, cells := 4, slots := 72, locals := 41 } : Room) #[(.ref a1)] h0 n0 (fun vm => CHv Z own_EL vm h0) (fun v h _ => v = none ∧ Ext h0 h) := by
  refine ConW.of pf_5 (fun m => ef_cp_0_0 m a1) ?_
  intro p e s m below meth c C PV hS
  have Hc := PV
  have K0 : Keep h0 h0 [] := Keep.refl _ _
  refine W.aloadN C d5_0 rfl rfl ?_
  refine W.ldcO C hS 24 d5_1 (tkw hw 32 rfl) (own_sa hw) (own_ew hw) Hc (by decide) (by decide) 2 28 rfl rfl (by decide) (by decide) ?_
  intro lt1 hp2 vm3 Elt1 HR C hS
  replace Hc := HR.1
  replace E_a1 := E_a1.ext Elt1
  replace Fv := Fv.ext Elt1
  replace Fc := Fc.ext Elt1
  replace Ld := Ld.ext Elt1
  replace S_C := S_C.ext Elt1
  replace S_F := S_F.ext Elt1
  replace Z0 := Nat.le_trans Z0 Elt1.1
  replace K0 := K0.ext Elt1
  refine W.callS C (y' := y6) d5_3 (tkw hw 33 rfl) (tkw hw 34 rfl) (tkw hw 35 rfl) (tkw hw 36 rfl) (by decide) (argsL := [(.ref a1), (.ref lt1)]) (rest := []) rfl (lenOf pd_9 rfl) (con_rn l Z a0 hw hp2 n0 a1 lt1 Z0) 0 2 28 rfl rfl rfl (by decide) (by decide) (by decide) (by decide) rfl ?_
  rintro _ _ ⟨rfl, rfl⟩
  refine Jvm.OwnKit.W.pop C d5_6 rfl ?_
  refine W.ldcO C hS 40 d5_7 (tkw hw 37 rfl) (own_sa hw) (own_ew hw) Hc (by decide) (by decide) 4 72 rfl rfl (by decide) (by decide) ?_
  intro lt4 hp5 vm6 Elt4 HR C hS
  replace Hc := HR.1
  replace E_a1 := E_a1.ext Elt4
  replace Fv := Fv.ext Elt4
  replace Fc := Fc.ext Elt4
  replace Ld := Ld.ext Elt4
  replace S_C := S_C.ext Elt4
  replace S_F := S_F.ext Elt4
  replace Z0 := Nat.le_trans Z0 Elt4.1
  replace K0 := K0.ext Elt4
  refine W.aloadN C d5_9 rfl rfl ?_
  refine W.callS C (y' := y7) d5_10 (tkw hw 38 rfl) (tkw hw 39 rfl) (tkw hw 30 rfl) (tkw hw 40 rfl) (by decide) (argsL := [(.ref lt4), (.ref a1)]) (rest := []) rfl (lenOf pd_10 rfl) (con_rb_0_0 l Z a0 hw hp5 n0 lt4 a1 d1   fm hfm cv hcv E_a1 Fv Fc Ld S_C S_F Z0) 0 4 72 rfl rfl rfl (by decide) (by decide) (by decide) (by decide) rfl ?_
  rintro _ _ ⟨rfl, rfl⟩
  exact W.retV C d5_13 (FW.ok hS (by decide) (by decide) (fun vm' hW' => ⟨rfl, ext0 K0⟩))

theorem ef_rb_0_1 (m : MethodId) (q1 : Addr) (a1 : Addr) : entryFrame m #[(.ref q1), (.ref a1)] 4 = mkF m 0 #[.val (.ref q1), .val (.ref a1), .unset, .unset] [] := by first | (simp [entryFrame, mkF, argsToLocals, Value.category]; done) | rfl
set_option maxRecDepth 65536 in
set_option maxHeartbeats 40000000 in
theorem con_rb_0_1 (l : Launch) (Z : State) (a0 : Array Value) (hw : ∀ d ∈ tables_1, d.before a0 Z = true) (h0 : Heap) (n0 : Nat) (q1 : Addr) (a1 : Addr) (d1 : Addr) (c0 : Int32) (x0 : ¬ c0 = 123) (y0 : ¬ c0 = 125) (r0 : 0 ≤ c0.toInt ∧ c0.toInt < 65536) (hc0 : ¬ (255 : Int32) < c0) (fm : Value) (hfm : fm.isRef = true) (cv : Int32) (hcv : ¬ cv = 0) (E_a1 : Exa Z h0 a1 "java/lang/String") (Fv : Fld Z h0 a1 "java/lang/String" "value" "[B" (.ref d1)) (Fc : Fld Z h0 a1 "java/lang/String" "coder" "B" (.int 0)) (Ld : Al Z h0 d1 .byte [(.int ((c0).toInt8.toInt32))]) (S_C : Sta Z h0 "java/lang/String" "COMPACT_STRINGS" "Z" (.int cv)) (S_F : Sta Z h0 "jdk/internal/util/Preconditions" "SIOOBE_FORMATTER" "Ljava/util/function/BiFunction;" fm) (Z0 : n0 ≤ h0.size) : Con l Z y7 prog_8_method_25_code 4 none ({ frames := 4, cells := 0, slots := 0, locals := 53 } : Room) #[(.ref q1), (.ref a1)] h0 n0 (Pu none h0) := by
  refine Con.of pf_7 (fun m => ef_rb_0_1 m q1 a1) ?_
  intro p e s m below meth c C
  refine W.iconst C (0 : Int32) d7_0 rfl ?_
  refine W.istoreN C #[.val (.ref q1), .val (.ref a1), .val (.int (0 : Int32)), .unset] d7_1 rfl ?_
  refine W.iloadN C d7_2 rfl ?_
  refine W.aloadN C d7_3 rfl rfl ?_
  refine W.callV C (y' := y8) d7_4 (tkw hw 41 rfl) (tkw hw 42 rfl) (tkw hw 44 rfl) (tkw hw 43 rfl) (tkw hw 8 rfl) (tkw hw 45 rfl) (by decide) E_a1 (argsL := []) (rest := [(.int (0 : Int32))]) rfl (lenOf pd_7 rfl) (con_ln_0 l Z a0 hw h0 n0 a1 d1 _ (1 : Int32) rfl (1 : Int32) (by decide) cv hcv E_a1 Fv Fc Ld S_C Z0) 1 0 0 rfl rfl rfl (by decide) (by decide) (by decide) (by decide) rfl ?_
  rintro _ _ ⟨rfl, rfl⟩
  refine W.icmp_ge C 50 d7_7 rfl (fun b => absurd b (by decide)) (fun _ => ?_)
  refine W.aloadN C d7_10 rfl rfl ?_
  refine W.iloadN C d7_11 rfl ?_
  refine W.callV C (y' := y13) d7_12 (tkw hw 63 rfl) (tkw hw 64 rfl) (tkw hw 66 rfl) (tkw hw 65 rfl) (tkw hw 8 rfl) (tkw hw 67 rfl) (by decide) E_a1 (argsL := [(.int (0 : Int32))]) (rest := []) rfl (lenOf pd_8 rfl) (con_ca_0_0 l Z a0 hw h0 n0 a1 d1 _ (1 : Int32) rfl c0 r0.1 hc0 fm hfm cv hcv (by decide) rfl E_a1 Fv Fc Ld S_C S_F Z0) 0 0 0 rfl rfl rfl (by decide) (by decide) (by decide) (by decide) rfl ?_
  rintro _ _ ⟨rfl, rfl⟩
  refine W.istoreN C #[.val (.ref q1), .val (.ref a1), .val (.int (0 : Int32)), .val (.int c0)] d7_15 rfl ?_
  refine W.iloadN C d7_16 rfl ?_
  refine W.bipush C (123 : Int32) d7_17 rfl ?_
  refine W.icmp_eq C 28 d7_19 rfl (fun bq1 => absurd bq1 x0) (fun bq1 => ?_)
  refine W.iloadN C d7_22 rfl ?_
  refine W.bipush C (125 : Int32) d7_23 rfl ?_
  refine W.icmp_ne C 44 d7_25 rfl (fun bq2 => ?_) (fun bq2 => absurd bq2 y0)
  refine W.iinc C (1 : Int32) #[.val (.ref q1), .val (.ref a1), .val (.int (1 : Int32)), .val (.int c0)] d7_44 rfl rfl rfl ?_
  refine W.goto C 2 d7_47 rfl ?_
  refine W.iloadN C d7_2 rfl ?_
  refine W.aloadN C d7_3 rfl rfl ?_
  refine W.callV C (y' := y8) d7_4 (tkw hw 41 rfl) (tkw hw 42 rfl) (tkw hw 44 rfl) (tkw hw 43 rfl) (tkw hw 8 rfl) (tkw hw 45 rfl) (by decide) E_a1 (argsL := []) (rest := [(.int (1 : Int32))]) rfl (lenOf pd_7 rfl) (con_ln_0 l Z a0 hw h0 n0 a1 d1 _ (1 : Int32) rfl (1 : Int32) (by decide) cv hcv E_a1 Fv Fc Ld S_C Z0) 1 0 0 rfl rfl rfl (by decide) (by decide) (by decide) (by decide) rfl ?_
  rintro _ _ ⟨rfl, rfl⟩
  refine W.icmp_ge C 50 d7_7 rfl (fun _ => ?_) (fun b => absurd b (by decide))
  exact W.retV C d7_50 (FN.ok (by decide) (by decide) ⟨rfl, rfl⟩)

theorem ef_cp_0_1 (m : MethodId) (a1 : Addr) : entryFrame m #[(.ref a1)] 1 = mkF m 0 #[.val (.ref a1)] [] := by first | (simp [entryFrame, mkF, argsToLocals, Value.category]; done) | rfl
set_option maxRecDepth 65536 in
set_option maxHeartbeats 40000000 in
theorem con_cp_0_1 (l : Launch) (Z : State) (a0 : Array Value) (hw : ∀ d ∈ tables_1, d.before a0 Z = true) (h0 : Heap) (n0 : Nat) (a1 : Addr) (d1 : Addr) (c0 : Int32) (x0 : ¬ c0 = 123) (y0 : ¬ c0 = 125) (r0 : 0 ≤ c0.toInt ∧ c0.toInt < 65536) (hc0 : ¬ (255 : Int32) < c0) (fm : Value) (hfm : fm.isRef = true) (cv : Int32) (hcv : ¬ cv = 0) (E_a1 : Exa Z h0 a1 "java/lang/String") (Fv : Fld Z h0 a1 "java/lang/String" "value" "[B" (.ref d1)) (Fc : Fld Z h0 a1 "java/lang/String" "coder" "B" (.int 0)) (Ld : Al Z h0 d1 .byte [(.int ((c0).toInt8.toInt32))]) (S_C : Sta Z h0 "java/lang/String" "COMPACT_STRINGS" "Z" (.int cv)) (S_F : Sta Z h0 "jdk/internal/util/Preconditions" "SIOOBE_FORMATTER" "Ljava/util/function/BiFunction;" fm) (Z0 : n0 ≤ h0.size) : ConW l Z y5 prog_8_method_3_code 1 none ({ frames := 5, cells := 4, slots := 72, locals := 68 } : Room) #[(.ref a1)] h0 n0 (fun vm => CHv Z own_EL vm h0) (fun v h _ => v = none ∧ Ext h0 h) := by
  refine ConW.of pf_5 (fun m => ef_cp_0_1 m a1) ?_
  intro p e s m below meth c C PV hS
  have Hc := PV
  have K0 : Keep h0 h0 [] := Keep.refl _ _
  refine W.aloadN C d5_0 rfl rfl ?_
  refine W.ldcO C hS 24 d5_1 (tkw hw 32 rfl) (own_sa hw) (own_ew hw) Hc (by decide) (by decide) 2 28 rfl rfl (by decide) (by decide) ?_
  intro lt1 hp2 vm3 Elt1 HR C hS
  replace Hc := HR.1
  replace E_a1 := E_a1.ext Elt1
  replace Fv := Fv.ext Elt1
  replace Fc := Fc.ext Elt1
  replace Ld := Ld.ext Elt1
  replace S_C := S_C.ext Elt1
  replace S_F := S_F.ext Elt1
  replace Z0 := Nat.le_trans Z0 Elt1.1
  replace K0 := K0.ext Elt1
  refine W.callS C (y' := y6) d5_3 (tkw hw 33 rfl) (tkw hw 34 rfl) (tkw hw 35 rfl) (tkw hw 36 rfl) (by decide) (argsL := [(.ref a1), (.ref lt1)]) (rest := []) rfl (lenOf pd_9 rfl) (con_rn l Z a0 hw hp2 n0 a1 lt1 Z0) 0 2 28 rfl rfl rfl (by decide) (by decide) (by decide) (by decide) rfl ?_
  rintro _ _ ⟨rfl, rfl⟩
  refine Jvm.OwnKit.W.pop C d5_6 rfl ?_
  refine W.ldcO C hS 40 d5_7 (tkw hw 37 rfl) (own_sa hw) (own_ew hw) Hc (by decide) (by decide) 4 72 rfl rfl (by decide) (by decide) ?_
  intro lt4 hp5 vm6 Elt4 HR C hS
  replace Hc := HR.1
  replace E_a1 := E_a1.ext Elt4
  replace Fv := Fv.ext Elt4
  replace Fc := Fc.ext Elt4
  replace Ld := Ld.ext Elt4
  replace S_C := S_C.ext Elt4
  replace S_F := S_F.ext Elt4
  replace Z0 := Nat.le_trans Z0 Elt4.1
  replace K0 := K0.ext Elt4
  refine W.aloadN C d5_9 rfl rfl ?_
  refine W.callS C (y' := y7) d5_10 (tkw hw 38 rfl) (tkw hw 39 rfl) (tkw hw 30 rfl) (tkw hw 40 rfl) (by decide) (argsL := [(.ref lt4), (.ref a1)]) (rest := []) rfl (lenOf pd_10 rfl) (con_rb_0_1 l Z a0 hw hp5 n0 lt4 a1 d1 c0 x0 y0 r0 hc0 fm hfm cv hcv E_a1 Fv Fc Ld S_C S_F Z0) 0 4 72 rfl rfl rfl (by decide) (by decide) (by decide) (by decide) rfl ?_
  rintro _ _ ⟨rfl, rfl⟩
  exact W.retV C d5_13 (FW.ok hS (by decide) (by decide) (fun vm' hW' => ⟨rfl, ext0 K0⟩))

theorem ef_rb_0_2 (m : MethodId) (q1 : Addr) (a1 : Addr) : entryFrame m #[(.ref q1), (.ref a1)] 4 = mkF m 0 #[.val (.ref q1), .val (.ref a1), .unset, .unset] [] := by first | (simp [entryFrame, mkF, argsToLocals, Value.category]; done) | rfl
set_option maxRecDepth 65536 in
set_option maxHeartbeats 40000000 in
theorem con_rb_0_2 (l : Launch) (Z : State) (a0 : Array Value) (hw : ∀ d ∈ tables_1, d.before a0 Z = true) (h0 : Heap) (n0 : Nat) (q1 : Addr) (a1 : Addr) (d1 : Addr) (c0 c1 : Int32) (x0 : ¬ c0 = 123) (y0 : ¬ c0 = 125) (r0 : 0 ≤ c0.toInt ∧ c0.toInt < 65536) (hc0 : ¬ (255 : Int32) < c0) (x1 : ¬ c1 = 123) (y1 : ¬ c1 = 125) (r1 : 0 ≤ c1.toInt ∧ c1.toInt < 65536) (hc1 : ¬ (255 : Int32) < c1) (fm : Value) (hfm : fm.isRef = true) (cv : Int32) (hcv : ¬ cv = 0) (E_a1 : Exa Z h0 a1 "java/lang/String") (Fv : Fld Z h0 a1 "java/lang/String" "value" "[B" (.ref d1)) (Fc : Fld Z h0 a1 "java/lang/String" "coder" "B" (.int 0)) (Ld : Al Z h0 d1 .byte [(.int ((c0).toInt8.toInt32)), (.int ((c1).toInt8.toInt32))]) (S_C : Sta Z h0 "java/lang/String" "COMPACT_STRINGS" "Z" (.int cv)) (S_F : Sta Z h0 "jdk/internal/util/Preconditions" "SIOOBE_FORMATTER" "Ljava/util/function/BiFunction;" fm) (Z0 : n0 ≤ h0.size) : Con l Z y7 prog_8_method_25_code 4 none ({ frames := 4, cells := 0, slots := 0, locals := 53 } : Room) #[(.ref q1), (.ref a1)] h0 n0 (Pu none h0) := by
  refine Con.of pf_7 (fun m => ef_rb_0_2 m q1 a1) ?_
  intro p e s m below meth c C
  refine W.iconst C (0 : Int32) d7_0 rfl ?_
  refine W.istoreN C #[.val (.ref q1), .val (.ref a1), .val (.int (0 : Int32)), .unset] d7_1 rfl ?_
  refine W.iloadN C d7_2 rfl ?_
  refine W.aloadN C d7_3 rfl rfl ?_
  refine W.callV C (y' := y8) d7_4 (tkw hw 41 rfl) (tkw hw 42 rfl) (tkw hw 44 rfl) (tkw hw 43 rfl) (tkw hw 8 rfl) (tkw hw 45 rfl) (by decide) E_a1 (argsL := []) (rest := [(.int (0 : Int32))]) rfl (lenOf pd_7 rfl) (con_ln_0 l Z a0 hw h0 n0 a1 d1 _ (2 : Int32) rfl (2 : Int32) (by decide) cv hcv E_a1 Fv Fc Ld S_C Z0) 1 0 0 rfl rfl rfl (by decide) (by decide) (by decide) (by decide) rfl ?_
  rintro _ _ ⟨rfl, rfl⟩
  refine W.icmp_ge C 50 d7_7 rfl (fun b => absurd b (by decide)) (fun _ => ?_)
  refine W.aloadN C d7_10 rfl rfl ?_
  refine W.iloadN C d7_11 rfl ?_
  refine W.callV C (y' := y13) d7_12 (tkw hw 63 rfl) (tkw hw 64 rfl) (tkw hw 66 rfl) (tkw hw 65 rfl) (tkw hw 8 rfl) (tkw hw 67 rfl) (by decide) E_a1 (argsL := [(.int (0 : Int32))]) (rest := []) rfl (lenOf pd_8 rfl) (con_ca_0_0 l Z a0 hw h0 n0 a1 d1 _ (2 : Int32) rfl c0 r0.1 hc0 fm hfm cv hcv (by decide) rfl E_a1 Fv Fc Ld S_C S_F Z0) 0 0 0 rfl rfl rfl (by decide) (by decide) (by decide) (by decide) rfl ?_
  rintro _ _ ⟨rfl, rfl⟩
  refine W.istoreN C #[.val (.ref q1), .val (.ref a1), .val (.int (0 : Int32)), .val (.int c0)] d7_15 rfl ?_
  refine W.iloadN C d7_16 rfl ?_
  refine W.bipush C (123 : Int32) d7_17 rfl ?_
  refine W.icmp_eq C 28 d7_19 rfl (fun bq1 => absurd bq1 x0) (fun bq1 => ?_)
  refine W.iloadN C d7_22 rfl ?_
  refine W.bipush C (125 : Int32) d7_23 rfl ?_
  refine W.icmp_ne C 44 d7_25 rfl (fun bq2 => ?_) (fun bq2 => absurd bq2 y0)
  refine W.iinc C (1 : Int32) #[.val (.ref q1), .val (.ref a1), .val (.int (1 : Int32)), .val (.int c0)] d7_44 rfl rfl rfl ?_
  refine W.goto C 2 d7_47 rfl ?_
  refine W.iloadN C d7_2 rfl ?_
  refine W.aloadN C d7_3 rfl rfl ?_
  refine W.callV C (y' := y8) d7_4 (tkw hw 41 rfl) (tkw hw 42 rfl) (tkw hw 44 rfl) (tkw hw 43 rfl) (tkw hw 8 rfl) (tkw hw 45 rfl) (by decide) E_a1 (argsL := []) (rest := [(.int (1 : Int32))]) rfl (lenOf pd_7 rfl) (con_ln_0 l Z a0 hw h0 n0 a1 d1 _ (2 : Int32) rfl (2 : Int32) (by decide) cv hcv E_a1 Fv Fc Ld S_C Z0) 1 0 0 rfl rfl rfl (by decide) (by decide) (by decide) (by decide) rfl ?_
  rintro _ _ ⟨rfl, rfl⟩
  refine W.icmp_ge C 50 d7_7 rfl (fun b => absurd b (by decide)) (fun _ => ?_)
  refine W.aloadN C d7_10 rfl rfl ?_
  refine W.iloadN C d7_11 rfl ?_
  refine W.callV C (y' := y13) d7_12 (tkw hw 63 rfl) (tkw hw 64 rfl) (tkw hw 66 rfl) (tkw hw 65 rfl) (tkw hw 8 rfl) (tkw hw 67 rfl) (by decide) E_a1 (argsL := [(.int (1 : Int32))]) (rest := []) rfl (lenOf pd_8 rfl) (con_ca_0_1 l Z a0 hw h0 n0 a1 d1 _ (2 : Int32) rfl c1 r1.1 hc1 fm hfm cv hcv (by decide) rfl E_a1 Fv Fc Ld S_C S_F Z0) 0 0 0 rfl rfl rfl (by decide) (by decide) (by decide) (by decide) rfl ?_
  rintro _ _ ⟨rfl, rfl⟩
  refine W.istoreN C #[.val (.ref q1), .val (.ref a1), .val (.int (1 : Int32)), .val (.int c1)] d7_15 rfl ?_
  refine W.iloadN C d7_16 rfl ?_
  refine W.bipush C (123 : Int32) d7_17 rfl ?_
  refine W.icmp_eq C 28 d7_19 rfl (fun bq3 => absurd bq3 x1) (fun bq3 => ?_)
  refine W.iloadN C d7_22 rfl ?_
  refine W.bipush C (125 : Int32) d7_23 rfl ?_
  refine W.icmp_ne C 44 d7_25 rfl (fun bq4 => ?_) (fun bq4 => absurd bq4 y1)
  refine W.iinc C (2 : Int32) #[.val (.ref q1), .val (.ref a1), .val (.int (2 : Int32)), .val (.int c1)] d7_44 rfl rfl rfl ?_
  refine W.goto C 2 d7_47 rfl ?_
  refine W.iloadN C d7_2 rfl ?_
  refine W.aloadN C d7_3 rfl rfl ?_
  refine W.callV C (y' := y8) d7_4 (tkw hw 41 rfl) (tkw hw 42 rfl) (tkw hw 44 rfl) (tkw hw 43 rfl) (tkw hw 8 rfl) (tkw hw 45 rfl) (by decide) E_a1 (argsL := []) (rest := [(.int (2 : Int32))]) rfl (lenOf pd_7 rfl) (con_ln_0 l Z a0 hw h0 n0 a1 d1 _ (2 : Int32) rfl (2 : Int32) (by decide) cv hcv E_a1 Fv Fc Ld S_C Z0) 1 0 0 rfl rfl rfl (by decide) (by decide) (by decide) (by decide) rfl ?_
  rintro _ _ ⟨rfl, rfl⟩
  refine W.icmp_ge C 50 d7_7 rfl (fun _ => ?_) (fun b => absurd b (by decide))
  exact W.retV C d7_50 (FN.ok (by decide) (by decide) ⟨rfl, rfl⟩)

theorem ef_cp_0_2 (m : MethodId) (a1 : Addr) : entryFrame m #[(.ref a1)] 1 = mkF m 0 #[.val (.ref a1)] [] := by first | (simp [entryFrame, mkF, argsToLocals, Value.category]; done) | rfl
set_option maxRecDepth 65536 in
set_option maxHeartbeats 40000000 in
theorem con_cp_0_2 (l : Launch) (Z : State) (a0 : Array Value) (hw : ∀ d ∈ tables_1, d.before a0 Z = true) (h0 : Heap) (n0 : Nat) (a1 : Addr) (d1 : Addr) (c0 c1 : Int32) (x0 : ¬ c0 = 123) (y0 : ¬ c0 = 125) (r0 : 0 ≤ c0.toInt ∧ c0.toInt < 65536) (hc0 : ¬ (255 : Int32) < c0) (x1 : ¬ c1 = 123) (y1 : ¬ c1 = 125) (r1 : 0 ≤ c1.toInt ∧ c1.toInt < 65536) (hc1 : ¬ (255 : Int32) < c1) (fm : Value) (hfm : fm.isRef = true) (cv : Int32) (hcv : ¬ cv = 0) (E_a1 : Exa Z h0 a1 "java/lang/String") (Fv : Fld Z h0 a1 "java/lang/String" "value" "[B" (.ref d1)) (Fc : Fld Z h0 a1 "java/lang/String" "coder" "B" (.int 0)) (Ld : Al Z h0 d1 .byte [(.int ((c0).toInt8.toInt32)), (.int ((c1).toInt8.toInt32))]) (S_C : Sta Z h0 "java/lang/String" "COMPACT_STRINGS" "Z" (.int cv)) (S_F : Sta Z h0 "jdk/internal/util/Preconditions" "SIOOBE_FORMATTER" "Ljava/util/function/BiFunction;" fm) (Z0 : n0 ≤ h0.size) : ConW l Z y5 prog_8_method_3_code 1 none ({ frames := 5, cells := 4, slots := 72, locals := 68 } : Room) #[(.ref a1)] h0 n0 (fun vm => CHv Z own_EL vm h0) (fun v h _ => v = none ∧ Ext h0 h) := by
  refine ConW.of pf_5 (fun m => ef_cp_0_2 m a1) ?_
  intro p e s m below meth c C PV hS
  have Hc := PV
  have K0 : Keep h0 h0 [] := Keep.refl _ _
  refine W.aloadN C d5_0 rfl rfl ?_
  refine W.ldcO C hS 24 d5_1 (tkw hw 32 rfl) (own_sa hw) (own_ew hw) Hc (by decide) (by decide) 2 28 rfl rfl (by decide) (by decide) ?_
  intro lt1 hp2 vm3 Elt1 HR C hS
  replace Hc := HR.1
  replace E_a1 := E_a1.ext Elt1
  replace Fv := Fv.ext Elt1
  replace Fc := Fc.ext Elt1
  replace Ld := Ld.ext Elt1
  replace S_C := S_C.ext Elt1
  replace S_F := S_F.ext Elt1
  replace Z0 := Nat.le_trans Z0 Elt1.1
  replace K0 := K0.ext Elt1
  refine W.callS C (y' := y6) d5_3 (tkw hw 33 rfl) (tkw hw 34 rfl) (tkw hw 35 rfl) (tkw hw 36 rfl) (by decide) (argsL := [(.ref a1), (.ref lt1)]) (rest := []) rfl (lenOf pd_9 rfl) (con_rn l Z a0 hw hp2 n0 a1 lt1 Z0) 0 2 28 rfl rfl rfl (by decide) (by decide) (by decide) (by decide) rfl ?_
  rintro _ _ ⟨rfl, rfl⟩
  refine Jvm.OwnKit.W.pop C d5_6 rfl ?_
  refine W.ldcO C hS 40 d5_7 (tkw hw 37 rfl) (own_sa hw) (own_ew hw) Hc (by decide) (by decide) 4 72 rfl rfl (by decide) (by decide) ?_
  intro lt4 hp5 vm6 Elt4 HR C hS
  replace Hc := HR.1
  replace E_a1 := E_a1.ext Elt4
  replace Fv := Fv.ext Elt4
  replace Fc := Fc.ext Elt4
  replace Ld := Ld.ext Elt4
  replace S_C := S_C.ext Elt4
  replace S_F := S_F.ext Elt4
  replace Z0 := Nat.le_trans Z0 Elt4.1
  replace K0 := K0.ext Elt4
  refine W.aloadN C d5_9 rfl rfl ?_
  refine W.callS C (y' := y7) d5_10 (tkw hw 38 rfl) (tkw hw 39 rfl) (tkw hw 30 rfl) (tkw hw 40 rfl) (by decide) (argsL := [(.ref lt4), (.ref a1)]) (rest := []) rfl (lenOf pd_10 rfl) (con_rb_0_2 l Z a0 hw hp5 n0 lt4 a1 d1 c0 c1 x0 y0 r0 hc0 x1 y1 r1 hc1 fm hfm cv hcv E_a1 Fv Fc Ld S_C S_F Z0) 0 4 72 rfl rfl rfl (by decide) (by decide) (by decide) (by decide) rfl ?_
  rintro _ _ ⟨rfl, rfl⟩
  exact W.retV C d5_13 (FW.ok hS (by decide) (by decide) (fun vm' hW' => ⟨rfl, ext0 K0⟩))

theorem ef_rb_0_3 (m : MethodId) (q1 : Addr) (a1 : Addr) : entryFrame m #[(.ref q1), (.ref a1)] 4 = mkF m 0 #[.val (.ref q1), .val (.ref a1), .unset, .unset] [] := by first | (simp [entryFrame, mkF, argsToLocals, Value.category]; done) | rfl
set_option maxRecDepth 65536 in
set_option maxHeartbeats 40000000 in
theorem con_rb_0_3 (l : Launch) (Z : State) (a0 : Array Value) (hw : ∀ d ∈ tables_1, d.before a0 Z = true) (h0 : Heap) (n0 : Nat) (q1 : Addr) (a1 : Addr) (d1 : Addr) (c0 c1 c2 : Int32) (x0 : ¬ c0 = 123) (y0 : ¬ c0 = 125) (r0 : 0 ≤ c0.toInt ∧ c0.toInt < 65536) (hc0 : ¬ (255 : Int32) < c0) (x1 : ¬ c1 = 123) (y1 : ¬ c1 = 125) (r1 : 0 ≤ c1.toInt ∧ c1.toInt < 65536) (hc1 : ¬ (255 : Int32) < c1) (x2 : ¬ c2 = 123) (y2 : ¬ c2 = 125) (r2 : 0 ≤ c2.toInt ∧ c2.toInt < 65536) (hc2 : ¬ (255 : Int32) < c2) (fm : Value) (hfm : fm.isRef = true) (cv : Int32) (hcv : ¬ cv = 0) (E_a1 : Exa Z h0 a1 "java/lang/String") (Fv : Fld Z h0 a1 "java/lang/String" "value" "[B" (.ref d1)) (Fc : Fld Z h0 a1 "java/lang/String" "coder" "B" (.int 0)) (Ld : Al Z h0 d1 .byte [(.int ((c0).toInt8.toInt32)), (.int ((c1).toInt8.toInt32)), (.int ((c2).toInt8.toInt32))]) (S_C : Sta Z h0 "java/lang/String" "COMPACT_STRINGS" "Z" (.int cv)) (S_F : Sta Z h0 "jdk/internal/util/Preconditions" "SIOOBE_FORMATTER" "Ljava/util/function/BiFunction;" fm) (Z0 : n0 ≤ h0.size) : Con l Z y7 prog_8_method_25_code 4 none ({ frames := 4, cells := 0, slots := 0, locals := 53 } : Room) #[(.ref q1), (.ref a1)] h0 n0 (Pu none h0) := by
  refine Con.of pf_7 (fun m => ef_rb_0_3 m q1 a1) ?_
  intro p e s m below meth c C
  refine W.iconst C (0 : Int32) d7_0 rfl ?_
  refine W.istoreN C #[.val (.ref q1), .val (.ref a1), .val (.int (0 : Int32)), .unset] d7_1 rfl ?_
  refine W.iloadN C d7_2 rfl ?_
  refine W.aloadN C d7_3 rfl rfl ?_
  refine W.callV C (y' := y8) d7_4 (tkw hw 41 rfl) (tkw hw 42 rfl) (tkw hw 44 rfl) (tkw hw 43 rfl) (tkw hw 8 rfl) (tkw hw 45 rfl) (by decide) E_a1 (argsL := []) (rest := [(.int (0 : Int32))]) rfl (lenOf pd_7 rfl) (con_ln_0 l Z a0 hw h0 n0 a1 d1 _ (3 : Int32) rfl (3 : Int32) (by decide) cv hcv E_a1 Fv Fc Ld S_C Z0) 1 0 0 rfl rfl rfl (by decide) (by decide) (by decide) (by decide) rfl ?_
  rintro _ _ ⟨rfl, rfl⟩
  refine W.icmp_ge C 50 d7_7 rfl (fun b => absurd b (by decide)) (fun _ => ?_)
  refine W.aloadN C d7_10 rfl rfl ?_
  refine W.iloadN C d7_11 rfl ?_
  refine W.callV C (y' := y13) d7_12 (tkw hw 63 rfl) (tkw hw 64 rfl) (tkw hw 66 rfl) (tkw hw 65 rfl) (tkw hw 8 rfl) (tkw hw 67 rfl) (by decide) E_a1 (argsL := [(.int (0 : Int32))]) (rest := []) rfl (lenOf pd_8 rfl) (con_ca_0_0 l Z a0 hw h0 n0 a1 d1 _ (3 : Int32) rfl c0 r0.1 hc0 fm hfm cv hcv (by decide) rfl E_a1 Fv Fc Ld S_C S_F Z0) 0 0 0 rfl rfl rfl (by decide) (by decide) (by decide) (by decide) rfl ?_
  rintro _ _ ⟨rfl, rfl⟩
  refine W.istoreN C #[.val (.ref q1), .val (.ref a1), .val (.int (0 : Int32)), .val (.int c0)] d7_15 rfl ?_
  refine W.iloadN C d7_16 rfl ?_
  refine W.bipush C (123 : Int32) d7_17 rfl ?_
  refine W.icmp_eq C 28 d7_19 rfl (fun bq1 => absurd bq1 x0) (fun bq1 => ?_)
  refine W.iloadN C d7_22 rfl ?_
  refine W.bipush C (125 : Int32) d7_23 rfl ?_
  refine W.icmp_ne C 44 d7_25 rfl (fun bq2 => ?_) (fun bq2 => absurd bq2 y0)
  refine W.iinc C (1 : Int32) #[.val (.ref q1), .val (.ref a1), .val (.int (1 : Int32)), .val (.int c0)] d7_44 rfl rfl rfl ?_
  refine W.goto C 2 d7_47 rfl ?_
  refine W.iloadN C d7_2 rfl ?_
  refine W.aloadN C d7_3 rfl rfl ?_
  refine W.callV C (y' := y8) d7_4 (tkw hw 41 rfl) (tkw hw 42 rfl) (tkw hw 44 rfl) (tkw hw 43 rfl) (tkw hw 8 rfl) (tkw hw 45 rfl) (by decide) E_a1 (argsL := []) (rest := [(.int (1 : Int32))]) rfl (lenOf pd_7 rfl) (con_ln_0 l Z a0 hw h0 n0 a1 d1 _ (3 : Int32) rfl (3 : Int32) (by decide) cv hcv E_a1 Fv Fc Ld S_C Z0) 1 0 0 rfl rfl rfl (by decide) (by decide) (by decide) (by decide) rfl ?_
  rintro _ _ ⟨rfl, rfl⟩
  refine W.icmp_ge C 50 d7_7 rfl (fun b => absurd b (by decide)) (fun _ => ?_)
  refine W.aloadN C d7_10 rfl rfl ?_
  refine W.iloadN C d7_11 rfl ?_
  refine W.callV C (y' := y13) d7_12 (tkw hw 63 rfl) (tkw hw 64 rfl) (tkw hw 66 rfl) (tkw hw 65 rfl) (tkw hw 8 rfl) (tkw hw 67 rfl) (by decide) E_a1 (argsL := [(.int (1 : Int32))]) (rest := []) rfl (lenOf pd_8 rfl) (con_ca_0_1 l Z a0 hw h0 n0 a1 d1 _ (3 : Int32) rfl c1 r1.1 hc1 fm hfm cv hcv (by decide) rfl E_a1 Fv Fc Ld S_C S_F Z0) 0 0 0 rfl rfl rfl (by decide) (by decide) (by decide) (by decide) rfl ?_
  rintro _ _ ⟨rfl, rfl⟩
  refine W.istoreN C #[.val (.ref q1), .val (.ref a1), .val (.int (1 : Int32)), .val (.int c1)] d7_15 rfl ?_
  refine W.iloadN C d7_16 rfl ?_
  refine W.bipush C (123 : Int32) d7_17 rfl ?_
  refine W.icmp_eq C 28 d7_19 rfl (fun bq3 => absurd bq3 x1) (fun bq3 => ?_)
  refine W.iloadN C d7_22 rfl ?_
  refine W.bipush C (125 : Int32) d7_23 rfl ?_
  refine W.icmp_ne C 44 d7_25 rfl (fun bq4 => ?_) (fun bq4 => absurd bq4 y1)
  refine W.iinc C (2 : Int32) #[.val (.ref q1), .val (.ref a1), .val (.int (2 : Int32)), .val (.int c1)] d7_44 rfl rfl rfl ?_
  refine W.goto C 2 d7_47 rfl ?_
  refine W.iloadN C d7_2 rfl ?_
  refine W.aloadN C d7_3 rfl rfl ?_
  refine W.callV C (y' := y8) d7_4 (tkw hw 41 rfl) (tkw hw 42 rfl) (tkw hw 44 rfl) (tkw hw 43 rfl) (tkw hw 8 rfl) (tkw hw 45 rfl) (by decide) E_a1 (argsL := []) (rest := [(.int (2 : Int32))]) rfl (lenOf pd_7 rfl) (con_ln_0 l Z a0 hw h0 n0 a1 d1 _ (3 : Int32) rfl (3 : Int32) (by decide) cv hcv E_a1 Fv Fc Ld S_C Z0) 1 0 0 rfl rfl rfl (by decide) (by decide) (by decide) (by decide) rfl ?_
  rintro _ _ ⟨rfl, rfl⟩
  refine W.icmp_ge C 50 d7_7 rfl (fun b => absurd b (by decide)) (fun _ => ?_)
  refine W.aloadN C d7_10 rfl rfl ?_
  refine W.iloadN C d7_11 rfl ?_
  refine W.callV C (y' := y13) d7_12 (tkw hw 63 rfl) (tkw hw 64 rfl) (tkw hw 66 rfl) (tkw hw 65 rfl) (tkw hw 8 rfl) (tkw hw 67 rfl) (by decide) E_a1 (argsL := [(.int (2 : Int32))]) (rest := []) rfl (lenOf pd_8 rfl) (con_ca_0_2 l Z a0 hw h0 n0 a1 d1 _ (3 : Int32) rfl c2 r2.1 hc2 fm hfm cv hcv (by decide) rfl E_a1 Fv Fc Ld S_C S_F Z0) 0 0 0 rfl rfl rfl (by decide) (by decide) (by decide) (by decide) rfl ?_
  rintro _ _ ⟨rfl, rfl⟩
  refine W.istoreN C #[.val (.ref q1), .val (.ref a1), .val (.int (2 : Int32)), .val (.int c2)] d7_15 rfl ?_
  refine W.iloadN C d7_16 rfl ?_
  refine W.bipush C (123 : Int32) d7_17 rfl ?_
  refine W.icmp_eq C 28 d7_19 rfl (fun bq5 => absurd bq5 x2) (fun bq5 => ?_)
  refine W.iloadN C d7_22 rfl ?_
  refine W.bipush C (125 : Int32) d7_23 rfl ?_
  refine W.icmp_ne C 44 d7_25 rfl (fun bq6 => ?_) (fun bq6 => absurd bq6 y2)
  refine W.iinc C (3 : Int32) #[.val (.ref q1), .val (.ref a1), .val (.int (3 : Int32)), .val (.int c2)] d7_44 rfl rfl rfl ?_
  refine W.goto C 2 d7_47 rfl ?_
  refine W.iloadN C d7_2 rfl ?_
  refine W.aloadN C d7_3 rfl rfl ?_
  refine W.callV C (y' := y8) d7_4 (tkw hw 41 rfl) (tkw hw 42 rfl) (tkw hw 44 rfl) (tkw hw 43 rfl) (tkw hw 8 rfl) (tkw hw 45 rfl) (by decide) E_a1 (argsL := []) (rest := [(.int (3 : Int32))]) rfl (lenOf pd_7 rfl) (con_ln_0 l Z a0 hw h0 n0 a1 d1 _ (3 : Int32) rfl (3 : Int32) (by decide) cv hcv E_a1 Fv Fc Ld S_C Z0) 1 0 0 rfl rfl rfl (by decide) (by decide) (by decide) (by decide) rfl ?_
  rintro _ _ ⟨rfl, rfl⟩
  refine W.icmp_ge C 50 d7_7 rfl (fun _ => ?_) (fun b => absurd b (by decide))
  exact W.retV C d7_50 (FN.ok (by decide) (by decide) ⟨rfl, rfl⟩)

theorem ef_cp_0_3 (m : MethodId) (a1 : Addr) : entryFrame m #[(.ref a1)] 1 = mkF m 0 #[.val (.ref a1)] [] := by first | (simp [entryFrame, mkF, argsToLocals, Value.category]; done) | rfl
set_option maxRecDepth 65536 in
set_option maxHeartbeats 40000000 in
theorem con_cp_0_3 (l : Launch) (Z : State) (a0 : Array Value) (hw : ∀ d ∈ tables_1, d.before a0 Z = true) (h0 : Heap) (n0 : Nat) (a1 : Addr) (d1 : Addr) (c0 c1 c2 : Int32) (x0 : ¬ c0 = 123) (y0 : ¬ c0 = 125) (r0 : 0 ≤ c0.toInt ∧ c0.toInt < 65536) (hc0 : ¬ (255 : Int32) < c0) (x1 : ¬ c1 = 123) (y1 : ¬ c1 = 125) (r1 : 0 ≤ c1.toInt ∧ c1.toInt < 65536) (hc1 : ¬ (255 : Int32) < c1) (x2 : ¬ c2 = 123) (y2 : ¬ c2 = 125) (r2 : 0 ≤ c2.toInt ∧ c2.toInt < 65536) (hc2 : ¬ (255 : Int32) < c2) (fm : Value) (hfm : fm.isRef = true) (cv : Int32) (hcv : ¬ cv = 0) (E_a1 : Exa Z h0 a1 "java/lang/String") (Fv : Fld Z h0 a1 "java/lang/String" "value" "[B" (.ref d1)) (Fc : Fld Z h0 a1 "java/lang/String" "coder" "B" (.int 0)) (Ld : Al Z h0 d1 .byte [(.int ((c0).toInt8.toInt32)), (.int ((c1).toInt8.toInt32)), (.int ((c2).toInt8.toInt32))]) (S_C : Sta Z h0 "java/lang/String" "COMPACT_STRINGS" "Z" (.int cv)) (S_F : Sta Z h0 "jdk/internal/util/Preconditions" "SIOOBE_FORMATTER" "Ljava/util/function/BiFunction;" fm) (Z0 : n0 ≤ h0.size) : ConW l Z y5 prog_8_method_3_code 1 none ({ frames := 5, cells := 4, slots := 72, locals := 68 } : Room) #[(.ref a1)] h0 n0 (fun vm => CHv Z own_EL vm h0) (fun v h _ => v = none ∧ Ext h0 h) := by
  refine ConW.of pf_5 (fun m => ef_cp_0_3 m a1) ?_
  intro p e s m below meth c C PV hS
  have Hc := PV
  have K0 : Keep h0 h0 [] := Keep.refl _ _
  refine W.aloadN C d5_0 rfl rfl ?_
  refine W.ldcO C hS 24 d5_1 (tkw hw 32 rfl) (own_sa hw) (own_ew hw) Hc (by decide) (by decide) 2 28 rfl rfl (by decide) (by decide) ?_
  intro lt1 hp2 vm3 Elt1 HR C hS
  replace Hc := HR.1
  replace E_a1 := E_a1.ext Elt1
  replace Fv := Fv.ext Elt1
  replace Fc := Fc.ext Elt1
  replace Ld := Ld.ext Elt1
  replace S_C := S_C.ext Elt1
  replace S_F := S_F.ext Elt1
  replace Z0 := Nat.le_trans Z0 Elt1.1
  replace K0 := K0.ext Elt1
  refine W.callS C (y' := y6) d5_3 (tkw hw 33 rfl) (tkw hw 34 rfl) (tkw hw 35 rfl) (tkw hw 36 rfl) (by decide) (argsL := [(.ref a1), (.ref lt1)]) (rest := []) rfl (lenOf pd_9 rfl) (con_rn l Z a0 hw hp2 n0 a1 lt1 Z0) 0 2 28 rfl rfl rfl (by decide) (by decide) (by decide) (by decide) rfl ?_
  rintro _ _ ⟨rfl, rfl⟩
  refine Jvm.OwnKit.W.pop C d5_6 rfl ?_
  refine W.ldcO C hS 40 d5_7 (tkw hw 37 rfl) (own_sa hw) (own_ew hw) Hc (by decide) (by decide) 4 72 rfl rfl (by decide) (by decide) ?_
  intro lt4 hp5 vm6 Elt4 HR C hS
  replace Hc := HR.1
  replace E_a1 := E_a1.ext Elt4
  replace Fv := Fv.ext Elt4
  replace Fc := Fc.ext Elt4
  replace Ld := Ld.ext Elt4
  replace S_C := S_C.ext Elt4
  replace S_F := S_F.ext Elt4
  replace Z0 := Nat.le_trans Z0 Elt4.1
  replace K0 := K0.ext Elt4
  refine W.aloadN C d5_9 rfl rfl ?_
  refine W.callS C (y' := y7) d5_10 (tkw hw 38 rfl) (tkw hw 39 rfl) (tkw hw 30 rfl) (tkw hw 40 rfl) (by decide) (argsL := [(.ref lt4), (.ref a1)]) (rest := []) rfl (lenOf pd_10 rfl) (con_rb_0_3 l Z a0 hw hp5 n0 lt4 a1 d1 c0 c1 c2 x0 y0 r0 hc0 x1 y1 r1 hc1 x2 y2 r2 hc2 fm hfm cv hcv E_a1 Fv Fc Ld S_C S_F Z0) 0 4 72 rfl rfl rfl (by decide) (by decide) (by decide) (by decide) rfl ?_
  rintro _ _ ⟨rfl, rfl⟩
  exact W.retV C d5_13 (FW.ok hS (by decide) (by decide) (fun vm' hW' => ⟨rfl, ext0 K0⟩))

theorem ef_rb_0_4 (m : MethodId) (q1 : Addr) (a1 : Addr) : entryFrame m #[(.ref q1), (.ref a1)] 4 = mkF m 0 #[.val (.ref q1), .val (.ref a1), .unset, .unset] [] := by first | (simp [entryFrame, mkF, argsToLocals, Value.category]; done) | rfl
set_option maxRecDepth 65536 in
set_option maxHeartbeats 40000000 in
theorem con_rb_0_4 (l : Launch) (Z : State) (a0 : Array Value) (hw : ∀ d ∈ tables_1, d.before a0 Z = true) (h0 : Heap) (n0 : Nat) (q1 : Addr) (a1 : Addr) (d1 : Addr) (c0 c1 c2 c3 : Int32) (x0 : ¬ c0 = 123) (y0 : ¬ c0 = 125) (r0 : 0 ≤ c0.toInt ∧ c0.toInt < 65536) (hc0 : ¬ (255 : Int32) < c0) (x1 : ¬ c1 = 123) (y1 : ¬ c1 = 125) (r1 : 0 ≤ c1.toInt ∧ c1.toInt < 65536) (hc1 : ¬ (255 : Int32) < c1) (x2 : ¬ c2 = 123) (y2 : ¬ c2 = 125) (r2 : 0 ≤ c2.toInt ∧ c2.toInt < 65536) (hc2 : ¬ (255 : Int32) < c2) (x3 : ¬ c3 = 123) (y3 : ¬ c3 = 125) (r3 : 0 ≤ c3.toInt ∧ c3.toInt < 65536) (hc3 : ¬ (255 : Int32) < c3) (fm : Value) (hfm : fm.isRef = true) (cv : Int32) (hcv : ¬ cv = 0) (E_a1 : Exa Z h0 a1 "java/lang/String") (Fv : Fld Z h0 a1 "java/lang/String" "value" "[B" (.ref d1)) (Fc : Fld Z h0 a1 "java/lang/String" "coder" "B" (.int 0)) (Ld : Al Z h0 d1 .byte [(.int ((c0).toInt8.toInt32)), (.int ((c1).toInt8.toInt32)), (.int ((c2).toInt8.toInt32)), (.int ((c3).toInt8.toInt32))]) (S_C : Sta Z h0 "java/lang/String" "COMPACT_STRINGS" "Z" (.int cv)) (S_F : Sta Z h0 "jdk/internal/util/Preconditions" "SIOOBE_FORMATTER" "Ljava/util/function/BiFunction;" fm) (Z0 : n0 ≤ h0.size) : Con l Z y7 prog_8_method_25_code 4 none ({ frames := 4, cells := 0, slots := 0, locals := 53 } : Room) #[(.ref q1), (.ref a1)] h0 n0 (Pu none h0) := by
  refine Con.of pf_7 (fun m => ef_rb_0_4 m q1 a1) ?_
  intro p e s m below meth c C
  refine W.iconst C (0 : Int32) d7_0 rfl ?_
  refine W.istoreN C #[.val (.ref q1), .val (.ref a1), .val (.int (0 : Int32)), .unset] d7_1 rfl ?_
  refine W.iloadN C d7_2 rfl ?_
  refine W.aloadN C d7_3 rfl rfl ?_
  refine W.callV C (y' := y8) d7_4 (tkw hw 41 rfl) (tkw hw 42 rfl) (tkw hw 44 rfl) (tkw hw 43 rfl) (tkw hw 8 rfl) (tkw hw 45 rfl) (by decide) E_a1 (argsL := []) (rest := [(.int (0 : Int32))]) rfl (lenOf pd_7 rfl) (con_ln_0 l Z a0 hw h0 n0 a1 d1 _ (4 : Int32) rfl (4 : Int32) (by decide) cv hcv E_a1 Fv Fc Ld S_C Z0) 1 0 0 rfl rfl rfl (by decide) (by decide) (by decide) (by decide) rfl ?_
  rintro _ _ ⟨rfl, rfl⟩
  refine W.icmp_ge C 50 d7_7 rfl (fun b => absurd b (by decide)) (fun _ => ?_)
  refine W.aloadN C d7_10 rfl rfl ?_
  refine W.iloadN C d7_11 rfl ?_
  refine W.callV C (y' := y13) d7_12 (tkw hw 63 rfl) (tkw hw 64 rfl) (tkw hw 66 rfl) (tkw hw 65 rfl) (tkw hw 8 rfl) (tkw hw 67 rfl) (by decide) E_a1 (argsL := [(.int (0 : Int32))]) (rest := []) rfl (lenOf pd_8 rfl) (con_ca_0_0 l Z a0 hw h0 n0 a1 d1 _ (4 : Int32) rfl c0 r0.1 hc0 fm hfm cv hcv (by decide) rfl E_a1 Fv Fc Ld S_C S_F Z0) 0 0 0 rfl rfl rfl (by decide) (by decide) (by decide) (by decide) rfl ?_
  rintro _ _ ⟨rfl, rfl⟩
  refine W.istoreN C #[.val (.ref q1), .val (.ref a1), .val (.int (0 : Int32)), .val (.int c0)] d7_15 rfl ?_
  refine W.iloadN C d7_16 rfl ?_
  refine W.bipush C (123 : Int32) d7_17 rfl ?_
  refine W.icmp_eq C 28 d7_19 rfl (fun bq1 => absurd bq1 x0) (fun bq1 => ?_)
  refine W.iloadN C d7_22 rfl ?_
  refine W.bipush C (125 : Int32) d7_23 rfl ?_
  refine W.icmp_ne C 44 d7_25 rfl (fun bq2 => ?_) (fun bq2 => absurd bq2 y0)
  refine W.iinc C (1 : Int32) #[.val (.ref q1), .val (.ref a1), .val (.int (1 : Int32)), .val (.int c0)] d7_44 rfl rfl rfl ?_
  refine W.goto C 2 d7_47 rfl ?_
  refine W.iloadN C d7_2 rfl ?_
  refine W.aloadN C d7_3 rfl rfl ?_
  refine W.callV C (y' := y8) d7_4 (tkw hw 41 rfl) (tkw hw 42 rfl) (tkw hw 44 rfl) (tkw hw 43 rfl) (tkw hw 8 rfl) (tkw hw 45 rfl) (by decide) E_a1 (argsL := []) (rest := [(.int (1 : Int32))]) rfl (lenOf pd_7 rfl) (con_ln_0 l Z a0 hw h0 n0 a1 d1 _ (4 : Int32) rfl (4 : Int32) (by decide) cv hcv E_a1 Fv Fc Ld S_C Z0) 1 0 0 rfl rfl rfl (by decide) (by decide) (by decide) (by decide) rfl ?_
  rintro _ _ ⟨rfl, rfl⟩
  refine W.icmp_ge C 50 d7_7 rfl (fun b => absurd b (by decide)) (fun _ => ?_)
  refine W.aloadN C d7_10 rfl rfl ?_
  refine W.iloadN C d7_11 rfl ?_
  refine W.callV C (y' := y13) d7_12 (tkw hw 63 rfl) (tkw hw 64 rfl) (tkw hw 66 rfl) (tkw hw 65 rfl) (tkw hw 8 rfl) (tkw hw 67 rfl) (by decide) E_a1 (argsL := [(.int (1 : Int32))]) (rest := []) rfl (lenOf pd_8 rfl) (con_ca_0_1 l Z a0 hw h0 n0 a1 d1 _ (4 : Int32) rfl c1 r1.1 hc1 fm hfm cv hcv (by decide) rfl E_a1 Fv Fc Ld S_C S_F Z0) 0 0 0 rfl rfl rfl (by decide) (by decide) (by decide) (by decide) rfl ?_
  rintro _ _ ⟨rfl, rfl⟩
  refine W.istoreN C #[.val (.ref q1), .val (.ref a1), .val (.int (1 : Int32)), .val (.int c1)] d7_15 rfl ?_
  refine W.iloadN C d7_16 rfl ?_
  refine W.bipush C (123 : Int32) d7_17 rfl ?_
  refine W.icmp_eq C 28 d7_19 rfl (fun bq3 => absurd bq3 x1) (fun bq3 => ?_)
  refine W.iloadN C d7_22 rfl ?_
  refine W.bipush C (125 : Int32) d7_23 rfl ?_
  refine W.icmp_ne C 44 d7_25 rfl (fun bq4 => ?_) (fun bq4 => absurd bq4 y1)
  refine W.iinc C (2 : Int32) #[.val (.ref q1), .val (.ref a1), .val (.int (2 : Int32)), .val (.int c1)] d7_44 rfl rfl rfl ?_
  refine W.goto C 2 d7_47 rfl ?_
  refine W.iloadN C d7_2 rfl ?_
  refine W.aloadN C d7_3 rfl rfl ?_
  refine W.callV C (y' := y8) d7_4 (tkw hw 41 rfl) (tkw hw 42 rfl) (tkw hw 44 rfl) (tkw hw 43 rfl) (tkw hw 8 rfl) (tkw hw 45 rfl) (by decide) E_a1 (argsL := []) (rest := [(.int (2 : Int32))]) rfl (lenOf pd_7 rfl) (con_ln_0 l Z a0 hw h0 n0 a1 d1 _ (4 : Int32) rfl (4 : Int32) (by decide) cv hcv E_a1 Fv Fc Ld S_C Z0) 1 0 0 rfl rfl rfl (by decide) (by decide) (by decide) (by decide) rfl ?_
  rintro _ _ ⟨rfl, rfl⟩
  refine W.icmp_ge C 50 d7_7 rfl (fun b => absurd b (by decide)) (fun _ => ?_)
  refine W.aloadN C d7_10 rfl rfl ?_
  refine W.iloadN C d7_11 rfl ?_
  refine W.callV C (y' := y13) d7_12 (tkw hw 63 rfl) (tkw hw 64 rfl) (tkw hw 66 rfl) (tkw hw 65 rfl) (tkw hw 8 rfl) (tkw hw 67 rfl) (by decide) E_a1 (argsL := [(.int (2 : Int32))]) (rest := []) rfl (lenOf pd_8 rfl) (con_ca_0_2 l Z a0 hw h0 n0 a1 d1 _ (4 : Int32) rfl c2 r2.1 hc2 fm hfm cv hcv (by decide) rfl E_a1 Fv Fc Ld S_C S_F Z0) 0 0 0 rfl rfl rfl (by decide) (by decide) (by decide) (by decide) rfl ?_
  rintro _ _ ⟨rfl, rfl⟩
  refine W.istoreN C #[.val (.ref q1), .val (.ref a1), .val (.int (2 : Int32)), .val (.int c2)] d7_15 rfl ?_
  refine W.iloadN C d7_16 rfl ?_
  refine W.bipush C (123 : Int32) d7_17 rfl ?_
  refine W.icmp_eq C 28 d7_19 rfl (fun bq5 => absurd bq5 x2) (fun bq5 => ?_)
  refine W.iloadN C d7_22 rfl ?_
  refine W.bipush C (125 : Int32) d7_23 rfl ?_
  refine W.icmp_ne C 44 d7_25 rfl (fun bq6 => ?_) (fun bq6 => absurd bq6 y2)
  refine W.iinc C (3 : Int32) #[.val (.ref q1), .val (.ref a1), .val (.int (3 : Int32)), .val (.int c2)] d7_44 rfl rfl rfl ?_
  refine W.goto C 2 d7_47 rfl ?_
  refine W.iloadN C d7_2 rfl ?_
  refine W.aloadN C d7_3 rfl rfl ?_
  refine W.callV C (y' := y8) d7_4 (tkw hw 41 rfl) (tkw hw 42 rfl) (tkw hw 44 rfl) (tkw hw 43 rfl) (tkw hw 8 rfl) (tkw hw 45 rfl) (by decide) E_a1 (argsL := []) (rest := [(.int (3 : Int32))]) rfl (lenOf pd_7 rfl) (con_ln_0 l Z a0 hw h0 n0 a1 d1 _ (4 : Int32) rfl (4 : Int32) (by decide) cv hcv E_a1 Fv Fc Ld S_C Z0) 1 0 0 rfl rfl rfl (by decide) (by decide) (by decide) (by decide) rfl ?_
  rintro _ _ ⟨rfl, rfl⟩
  refine W.icmp_ge C 50 d7_7 rfl (fun b => absurd b (by decide)) (fun _ => ?_)
  refine W.aloadN C d7_10 rfl rfl ?_
  refine W.iloadN C d7_11 rfl ?_
  refine W.callV C (y' := y13) d7_12 (tkw hw 63 rfl) (tkw hw 64 rfl) (tkw hw 66 rfl) (tkw hw 65 rfl) (tkw hw 8 rfl) (tkw hw 67 rfl) (by decide) E_a1 (argsL := [(.int (3 : Int32))]) (rest := []) rfl (lenOf pd_8 rfl) (con_ca_0_3 l Z a0 hw h0 n0 a1 d1 _ (4 : Int32) rfl c3 r3.1 hc3 fm hfm cv hcv (by decide) rfl E_a1 Fv Fc Ld S_C S_F Z0) 0 0 0 rfl rfl rfl (by decide) (by decide) (by decide) (by decide) rfl ?_
  rintro _ _ ⟨rfl, rfl⟩
  refine W.istoreN C #[.val (.ref q1), .val (.ref a1), .val (.int (3 : Int32)), .val (.int c3)] d7_15 rfl ?_
  refine W.iloadN C d7_16 rfl ?_
  refine W.bipush C (123 : Int32) d7_17 rfl ?_
  refine W.icmp_eq C 28 d7_19 rfl (fun bq7 => absurd bq7 x3) (fun bq7 => ?_)
  refine W.iloadN C d7_22 rfl ?_
  refine W.bipush C (125 : Int32) d7_23 rfl ?_
  refine W.icmp_ne C 44 d7_25 rfl (fun bq8 => ?_) (fun bq8 => absurd bq8 y3)
  refine W.iinc C (4 : Int32) #[.val (.ref q1), .val (.ref a1), .val (.int (4 : Int32)), .val (.int c3)] d7_44 rfl rfl rfl ?_
  refine W.goto C 2 d7_47 rfl ?_
  refine W.iloadN C d7_2 rfl ?_
  refine W.aloadN C d7_3 rfl rfl ?_
  refine W.callV C (y' := y8) d7_4 (tkw hw 41 rfl) (tkw hw 42 rfl) (tkw hw 44 rfl) (tkw hw 43 rfl) (tkw hw 8 rfl) (tkw hw 45 rfl) (by decide) E_a1 (argsL := []) (rest := [(.int (4 : Int32))]) rfl (lenOf pd_7 rfl) (con_ln_0 l Z a0 hw h0 n0 a1 d1 _ (4 : Int32) rfl (4 : Int32) (by decide) cv hcv E_a1 Fv Fc Ld S_C Z0) 1 0 0 rfl rfl rfl (by decide) (by decide) (by decide) (by decide) rfl ?_
  rintro _ _ ⟨rfl, rfl⟩
  refine W.icmp_ge C 50 d7_7 rfl (fun _ => ?_) (fun b => absurd b (by decide))
  exact W.retV C d7_50 (FN.ok (by decide) (by decide) ⟨rfl, rfl⟩)

theorem ef_cp_0_4 (m : MethodId) (a1 : Addr) : entryFrame m #[(.ref a1)] 1 = mkF m 0 #[.val (.ref a1)] [] := by first | (simp [entryFrame, mkF, argsToLocals, Value.category]; done) | rfl
set_option maxRecDepth 65536 in
set_option maxHeartbeats 40000000 in
theorem con_cp_0_4 (l : Launch) (Z : State) (a0 : Array Value) (hw : ∀ d ∈ tables_1, d.before a0 Z = true) (h0 : Heap) (n0 : Nat) (a1 : Addr) (d1 : Addr) (c0 c1 c2 c3 : Int32) (x0 : ¬ c0 = 123) (y0 : ¬ c0 = 125) (r0 : 0 ≤ c0.toInt ∧ c0.toInt < 65536) (hc0 : ¬ (255 : Int32) < c0) (x1 : ¬ c1 = 123) (y1 : ¬ c1 = 125) (r1 : 0 ≤ c1.toInt ∧ c1.toInt < 65536) (hc1 : ¬ (255 : Int32) < c1) (x2 : ¬ c2 = 123) (y2 : ¬ c2 = 125) (r2 : 0 ≤ c2.toInt ∧ c2.toInt < 65536) (hc2 : ¬ (255 : Int32) < c2) (x3 : ¬ c3 = 123) (y3 : ¬ c3 = 125) (r3 : 0 ≤ c3.toInt ∧ c3.toInt < 65536) (hc3 : ¬ (255 : Int32) < c3) (fm : Value) (hfm : fm.isRef = true) (cv : Int32) (hcv : ¬ cv = 0) (E_a1 : Exa Z h0 a1 "java/lang/String") (Fv : Fld Z h0 a1 "java/lang/String" "value" "[B" (.ref d1)) (Fc : Fld Z h0 a1 "java/lang/String" "coder" "B" (.int 0)) (Ld : Al Z h0 d1 .byte [(.int ((c0).toInt8.toInt32)), (.int ((c1).toInt8.toInt32)), (.int ((c2).toInt8.toInt32)), (.int ((c3).toInt8.toInt32))]) (S_C : Sta Z h0 "java/lang/String" "COMPACT_STRINGS" "Z" (.int cv)) (S_F : Sta Z h0 "jdk/internal/util/Preconditions" "SIOOBE_FORMATTER" "Ljava/util/function/BiFunction;" fm) (Z0 : n0 ≤ h0.size) : ConW l Z y5 prog_8_method_3_code 1 none ({ frames := 5, cells := 4, slots := 72, locals := 68 } : Room) #[(.ref a1)] h0 n0 (fun vm => CHv Z own_EL vm h0) (fun v h _ => v = none ∧ Ext h0 h) := by
  refine ConW.of pf_5 (fun m => ef_cp_0_4 m a1) ?_
  intro p e s m below meth c C PV hS
  have Hc := PV
  have K0 : Keep h0 h0 [] := Keep.refl _ _
  refine W.aloadN C d5_0 rfl rfl ?_
  refine W.ldcO C hS 24 d5_1 (tkw hw 32 rfl) (own_sa hw) (own_ew hw) Hc (by decide) (by decide) 2 28 rfl rfl (by decide) (by decide) ?_
  intro lt1 hp2 vm3 Elt1 HR C hS
  replace Hc := HR.1
  replace E_a1 := E_a1.ext Elt1
  replace Fv := Fv.ext Elt1
  replace Fc := Fc.ext Elt1
  replace Ld := Ld.ext Elt1
  replace S_C := S_C.ext Elt1
  replace S_F := S_F.ext Elt1
  replace Z0 := Nat.le_trans Z0 Elt1.1
  replace K0 := K0.ext Elt1
  refine W.callS C (y' := y6) d5_3 (tkw hw 33 rfl) (tkw hw 34 rfl) (tkw hw 35 rfl) (tkw hw 36 rfl) (by decide) (argsL := [(.ref a1), (.ref lt1)]) (rest := []) rfl (lenOf pd_9 rfl) (con_rn l Z a0 hw hp2 n0 a1 lt1 Z0) 0 2 28 rfl rfl rfl (by decide) (by decide) (by decide) (by decide) rfl ?_
  rintro _ _ ⟨rfl, rfl⟩
  refine Jvm.OwnKit.W.pop C d5_6 rfl ?_
  refine W.ldcO C hS 40 d5_7 (tkw hw 37 rfl) (own_sa hw) (own_ew hw) Hc (by decide) (by decide) 4 72 rfl rfl (by decide) (by decide) ?_
  intro lt4 hp5 vm6 Elt4 HR C hS
  replace Hc := HR.1
  replace E_a1 := E_a1.ext Elt4
  replace Fv := Fv.ext Elt4
  replace Fc := Fc.ext Elt4
  replace Ld := Ld.ext Elt4
  replace S_C := S_C.ext Elt4
  replace S_F := S_F.ext Elt4
  replace Z0 := Nat.le_trans Z0 Elt4.1
  replace K0 := K0.ext Elt4
  refine W.aloadN C d5_9 rfl rfl ?_
  refine W.callS C (y' := y7) d5_10 (tkw hw 38 rfl) (tkw hw 39 rfl) (tkw hw 30 rfl) (tkw hw 40 rfl) (by decide) (argsL := [(.ref lt4), (.ref a1)]) (rest := []) rfl (lenOf pd_10 rfl) (con_rb_0_4 l Z a0 hw hp5 n0 lt4 a1 d1 c0 c1 c2 c3 x0 y0 r0 hc0 x1 y1 r1 hc1 x2 y2 r2 hc2 x3 y3 r3 hc3 fm hfm cv hcv E_a1 Fv Fc Ld S_C S_F Z0) 0 4 72 rfl rfl rfl (by decide) (by decide) (by decide) (by decide) rfl ?_
  rintro _ _ ⟨rfl, rfl⟩
  exact W.retV C d5_13 (FW.ok hS (by decide) (by decide) (fun vm' hW' => ⟨rfl, ext0 K0⟩))

theorem ef_rb_1_1 (m : MethodId) (q1 : Addr) (a1 : Addr) : entryFrame m #[(.ref q1), (.ref a1)] 4 = mkF m 0 #[.val (.ref q1), .val (.ref a1), .unset, .unset] [] := by first | (simp [entryFrame, mkF, argsToLocals, Value.category]; done) | rfl
set_option maxRecDepth 65536 in
set_option maxHeartbeats 40000000 in
theorem con_rb_1_1 (l : Launch) (Z : State) (a0 : Array Value) (hw : ∀ d ∈ tables_1, d.before a0 Z = true) (h0 : Heap) (n0 : Nat) (q1 : Addr) (a1 : Addr) (d1 : Addr) (c0 : Int32) (x0 : ¬ c0 = 123) (y0 : ¬ c0 = 125) (r0 : 0 ≤ c0.toInt ∧ c0.toInt < 65536) (fm : Value) (hfm : fm.isRef = true) (cv : Int32) (hcv : ¬ cv = 0) (E_a1 : Exa Z h0 a1 "java/lang/String") (Fv : Fld Z h0 a1 "java/lang/String" "value" "[B" (.ref d1)) (Fc : Fld Z h0 a1 "java/lang/String" "coder" "B" (.int 1)) (Ld : Al Z h0 d1 .byte [(.int (((c0 >>> ((0 : Int32) &&& 31))).toInt8.toInt32)), (.int (((c0 >>> ((8 : Int32) &&& 31))).toInt8.toInt32))]) (S_C : Sta Z h0 "java/lang/String" "COMPACT_STRINGS" "Z" (.int cv)) (S_F : Sta Z h0 "jdk/internal/util/Preconditions" "SIOOBE_FORMATTER" "Ljava/util/function/BiFunction;" fm) (S_A : Sta Z h0 "java/lang/StringUTF16" "$assertionsDisabled" "Z" (.int (1 : Int32))) (S_H : Sta Z h0 "java/lang/StringUTF16" "HI_BYTE_SHIFT" "I" (.int (0 : Int32))) (S_L : Sta Z h0 "java/lang/StringUTF16" "LO_BYTE_SHIFT" "I" (.int (8 : Int32))) (Z0 : n0 ≤ h0.size) : Con l Z y7 prog_8_method_25_code 4 none ({ frames := 5, cells := 0, slots := 0, locals := 66 } : Room) #[(.ref q1), (.ref a1)] h0 n0 (Pu none h0) := by
  refine Con.of pf_7 (fun m => ef_rb_1_1 m q1 a1) ?_
  intro p e s m below meth c C
  refine W.iconst C (0 : Int32) d7_0 rfl ?_
  refine W.istoreN C #[.val (.ref q1), .val (.ref a1), .val (.int (0 : Int32)), .unset] d7_1 rfl ?_
  refine W.iloadN C d7_2 rfl ?_
  refine W.aloadN C d7_3 rfl rfl ?_
  refine W.callV C (y' := y8) d7_4 (tkw hw 41 rfl) (tkw hw 42 rfl) (tkw hw 44 rfl) (tkw hw 43 rfl) (tkw hw 8 rfl) (tkw hw 45 rfl) (by decide) E_a1 (argsL := []) (rest := [(.int (0 : Int32))]) rfl (lenOf pd_7 rfl) (con_ln_1 l Z a0 hw h0 n0 a1 d1 _ (2 : Int32) rfl (1 : Int32) (by decide) cv hcv E_a1 Fv Fc Ld S_C Z0) 1 0 0 rfl rfl rfl (by decide) (by decide) (by decide) (by decide) rfl ?_
  rintro _ _ ⟨rfl, rfl⟩
  refine W.icmp_ge C 50 d7_7 rfl (fun b => absurd b (by decide)) (fun _ => ?_)
  refine W.aloadN C d7_10 rfl rfl ?_
  refine W.iloadN C d7_11 rfl ?_
  refine W.callV C (y' := y13) d7_12 (tkw hw 63 rfl) (tkw hw 64 rfl) (tkw hw 66 rfl) (tkw hw 65 rfl) (tkw hw 8 rfl) (tkw hw 67 rfl) (by decide) E_a1 (argsL := [(.int (0 : Int32))]) (rest := []) rfl (lenOf pd_8 rfl) (con_ca_1_0 l Z a0 hw h0 n0 a1 d1 _ (2 : Int32) rfl c0 r0.1 r0.2 fm hfm cv hcv (by decide) rfl rfl E_a1 Fv Fc Ld S_C S_F S_A S_H S_L Z0) 0 0 0 rfl rfl rfl (by decide) (by decide) (by decide) (by decide) rfl ?_
  rintro _ _ ⟨rfl, rfl⟩
  refine W.istoreN C #[.val (.ref q1), .val (.ref a1), .val (.int (0 : Int32)), .val (.int c0)] d7_15 rfl ?_
  refine W.iloadN C d7_16 rfl ?_
  refine W.bipush C (123 : Int32) d7_17 rfl ?_
  refine W.icmp_eq C 28 d7_19 rfl (fun bq1 => absurd bq1 x0) (fun bq1 => ?_)
  refine W.iloadN C d7_22 rfl ?_
  refine W.bipush C (125 : Int32) d7_23 rfl ?_
  refine W.icmp_ne C 44 d7_25 rfl (fun bq2 => ?_) (fun bq2 => absurd bq2 y0)
  refine W.iinc C (1 : Int32) #[.val (.ref q1), .val (.ref a1), .val (.int (1 : Int32)), .val (.int c0)] d7_44 rfl rfl rfl ?_
  refine W.goto C 2 d7_47 rfl ?_
  refine W.iloadN C d7_2 rfl ?_
  refine W.aloadN C d7_3 rfl rfl ?_
  refine W.callV C (y' := y8) d7_4 (tkw hw 41 rfl) (tkw hw 42 rfl) (tkw hw 44 rfl) (tkw hw 43 rfl) (tkw hw 8 rfl) (tkw hw 45 rfl) (by decide) E_a1 (argsL := []) (rest := [(.int (1 : Int32))]) rfl (lenOf pd_7 rfl) (con_ln_1 l Z a0 hw h0 n0 a1 d1 _ (2 : Int32) rfl (1 : Int32) (by decide) cv hcv E_a1 Fv Fc Ld S_C Z0) 1 0 0 rfl rfl rfl (by decide) (by decide) (by decide) (by decide) rfl ?_
  rintro _ _ ⟨rfl, rfl⟩
  refine W.icmp_ge C 50 d7_7 rfl (fun _ => ?_) (fun b => absurd b (by decide))
  exact W.retV C d7_50 (FN.ok (by decide) (by decide) ⟨rfl, rfl⟩)

theorem ef_cp_1_1 (m : MethodId) (a1 : Addr) : entryFrame m #[(.ref a1)] 1 = mkF m 0 #[.val (.ref a1)] [] := by first | (simp [entryFrame, mkF, argsToLocals, Value.category]; done) | rfl
set_option maxRecDepth 65536 in
set_option maxHeartbeats 40000000 in
theorem con_cp_1_1 (l : Launch) (Z : State) (a0 : Array Value) (hw : ∀ d ∈ tables_1, d.before a0 Z = true) (h0 : Heap) (n0 : Nat) (a1 : Addr) (d1 : Addr) (c0 : Int32) (x0 : ¬ c0 = 123) (y0 : ¬ c0 = 125) (r0 : 0 ≤ c0.toInt ∧ c0.toInt < 65536) (fm : Value) (hfm : fm.isRef = true) (cv : Int32) (hcv : ¬ cv = 0) (E_a1 : Exa Z h0 a1 "java/lang/String") (Fv : Fld Z h0 a1 "java/lang/String" "value" "[B" (.ref d1)) (Fc : Fld Z h0 a1 "java/lang/String" "coder" "B" (.int 1)) (Ld : Al Z h0 d1 .byte [(.int (((c0 >>> ((0 : Int32) &&& 31))).toInt8.toInt32)), (.int (((c0 >>> ((8 : Int32) &&& 31))).toInt8.toInt32))]) (S_C : Sta Z h0 "java/lang/String" "COMPACT_STRINGS" "Z" (.int cv)) (S_F : Sta Z h0 "jdk/internal/util/Preconditions" "SIOOBE_FORMATTER" "Ljava/util/function/BiFunction;" fm) (S_A : Sta Z h0 "java/lang/StringUTF16" "$assertionsDisabled" "Z" (.int (1 : Int32))) (S_H : Sta Z h0 "java/lang/StringUTF16" "HI_BYTE_SHIFT" "I" (.int (0 : Int32))) (S_L : Sta Z h0 "java/lang/StringUTF16" "LO_BYTE_SHIFT" "I" (.int (8 : Int32))) (Z0 : n0 ≤ h0.size) : ConW l Z y5 prog_8_method_3_code 1 none ({ frames := 6, cells := 4, slots := 72, locals := 81 } : Room) #[(.ref a1)] h0 n0 (fun vm => CHv Z own_EL vm h0) (fun v h _ => v = none ∧ Ext h0 h) := by
  refine ConW.of pf_5 (fun m => ef_cp_1_1 m a1) ?_
  intro p e s m below meth c C PV hS
  have Hc := PV
  have K0 : Keep h0 h0 [] := Keep.refl _ _
  refine W.aloadN C d5_0 rfl rfl ?_
  refine W.ldcO C hS 24 d5_1 (tkw hw 32 rfl) (own_sa hw) (own_ew hw) Hc (by decide) (by decide) 2 28 rfl rfl (by decide) (by decide) ?_
  intro lt1 hp2 vm3 Elt1 HR C hS
  replace Hc := HR.1
  replace E_a1 := E_a1.ext Elt1
  replace Fv := Fv.ext Elt1
  replace Fc := Fc.ext Elt1
  replace Ld := Ld.ext Elt1
  replace S_C := S_C.ext Elt1
  replace S_F := S_F.ext Elt1
  replace S_A := S_A.ext Elt1
  replace S_H := S_H.ext Elt1
  replace S_L := S_L.ext Elt1
  replace Z0 := Nat.le_trans Z0 Elt1.1
  replace K0 := K0.ext Elt1
  refine W.callS C (y' := y6) d5_3 (tkw hw 33 rfl) (tkw hw 34 rfl) (tkw hw 35 rfl) (tkw hw 36 rfl) (by decide) (argsL := [(.ref a1), (.ref lt1)]) (rest := []) rfl (lenOf pd_9 rfl) (con_rn l Z a0 hw hp2 n0 a1 lt1 Z0) 0 2 28 rfl rfl rfl (by decide) (by decide) (by decide) (by decide) rfl ?_
  rintro _ _ ⟨rfl, rfl⟩
  refine Jvm.OwnKit.W.pop C d5_6 rfl ?_
  refine W.ldcO C hS 40 d5_7 (tkw hw 37 rfl) (own_sa hw) (own_ew hw) Hc (by decide) (by decide) 4 72 rfl rfl (by decide) (by decide) ?_
  intro lt4 hp5 vm6 Elt4 HR C hS
  replace Hc := HR.1
  replace E_a1 := E_a1.ext Elt4
  replace Fv := Fv.ext Elt4
  replace Fc := Fc.ext Elt4
  replace Ld := Ld.ext Elt4
  replace S_C := S_C.ext Elt4
  replace S_F := S_F.ext Elt4
  replace S_A := S_A.ext Elt4
  replace S_H := S_H.ext Elt4
  replace S_L := S_L.ext Elt4
  replace Z0 := Nat.le_trans Z0 Elt4.1
  replace K0 := K0.ext Elt4
  refine W.aloadN C d5_9 rfl rfl ?_
  refine W.callS C (y' := y7) d5_10 (tkw hw 38 rfl) (tkw hw 39 rfl) (tkw hw 30 rfl) (tkw hw 40 rfl) (by decide) (argsL := [(.ref lt4), (.ref a1)]) (rest := []) rfl (lenOf pd_10 rfl) (con_rb_1_1 l Z a0 hw hp5 n0 lt4 a1 d1 c0 x0 y0 r0 fm hfm cv hcv E_a1 Fv Fc Ld S_C S_F S_A S_H S_L Z0) 0 4 72 rfl rfl rfl (by decide) (by decide) (by decide) (by decide) rfl ?_
  rintro _ _ ⟨rfl, rfl⟩
  exact W.retV C d5_13 (FW.ok hS (by decide) (by decide) (fun vm' hW' => ⟨rfl, ext0 K0⟩))

theorem ef_rb_1_2 (m : MethodId) (q1 : Addr) (a1 : Addr) : entryFrame m #[(.ref q1), (.ref a1)] 4 = mkF m 0 #[.val (.ref q1), .val (.ref a1), .unset, .unset] [] := by first | (simp [entryFrame, mkF, argsToLocals, Value.category]; done) | rfl
set_option maxRecDepth 65536 in
set_option maxHeartbeats 40000000 in
theorem con_rb_1_2 (l : Launch) (Z : State) (a0 : Array Value) (hw : ∀ d ∈ tables_1, d.before a0 Z = true) (h0 : Heap) (n0 : Nat) (q1 : Addr) (a1 : Addr) (d1 : Addr) (c0 c1 : Int32) (x0 : ¬ c0 = 123) (y0 : ¬ c0 = 125) (r0 : 0 ≤ c0.toInt ∧ c0.toInt < 65536) (x1 : ¬ c1 = 123) (y1 : ¬ c1 = 125) (r1 : 0 ≤ c1.toInt ∧ c1.toInt < 65536) (fm : Value) (hfm : fm.isRef = true) (cv : Int32) (hcv : ¬ cv = 0) (E_a1 : Exa Z h0 a1 "java/lang/String") (Fv : Fld Z h0 a1 "java/lang/String" "value" "[B" (.ref d1)) (Fc : Fld Z h0 a1 "java/lang/String" "coder" "B" (.int 1)) (Ld : Al Z h0 d1 .byte [(.int (((c0 >>> ((0 : Int32) &&& 31))).toInt8.toInt32)), (.int (((c0 >>> ((8 : Int32) &&& 31))).toInt8.toInt32)), (.int (((c1 >>> ((0 : Int32) &&& 31))).toInt8.toInt32)), (.int (((c1 >>> ((8 : Int32) &&& 31))).toInt8.toInt32))]) (S_C : Sta Z h0 "java/lang/String" "COMPACT_STRINGS" "Z" (.int cv)) (S_F : Sta Z h0 "jdk/internal/util/Preconditions" "SIOOBE_FORMATTER" "Ljava/util/function/BiFunction;" fm) (S_A : Sta Z h0 "java/lang/StringUTF16" "$assertionsDisabled" "Z" (.int (1 : Int32))) (S_H : Sta Z h0 "java/lang/StringUTF16" "HI_BYTE_SHIFT" "I" (.int (0 : Int32))) (S_L : Sta Z h0 "java/lang/StringUTF16" "LO_BYTE_SHIFT" "I" (.int (8 : Int32))) (Z0 : n0 ≤ h0.size) : Con l Z y7 prog_8_method_25_code 4 none ({ frames := 5, cells := 0, slots := 0, locals := 66 } : Room) #[(.ref q1), (.ref a1)] h0 n0 (Pu none h0) := by
  refine Con.of pf_7 (fun m => ef_rb_1_2 m q1 a1) ?_
  intro p e s m below meth c C
  refine W.iconst C (0 : Int32) d7_0 rfl ?_
  refine W.istoreN C #[.val (.ref q1), .val (.ref a1), .val (.int (0 : Int32)), .unset] d7_1 rfl ?_
  refine W.iloadN C d7_2 rfl ?_
  refine W.aloadN C d7_3 rfl rfl ?_
  refine W.callV C (y' := y8) d7_4 (tkw hw 41 rfl) (tkw hw 42 rfl) (tkw hw 44 rfl) (tkw hw 43 rfl) (tkw hw 8 rfl) (tkw hw 45 rfl) (by decide) E_a1 (argsL := []) (rest := [(.int (0 : Int32))]) rfl (lenOf pd_7 rfl) (con_ln_1 l Z a0 hw h0 n0 a1 d1 _ (4 : Int32) rfl (2 : Int32) (by decide) cv hcv E_a1 Fv Fc Ld S_C Z0) 1 0 0 rfl rfl rfl (by decide) (by decide) (by decide) (by decide) rfl ?_
  rintro _ _ ⟨rfl, rfl⟩
  refine W.icmp_ge C 50 d7_7 rfl (fun b => absurd b (by decide)) (fun _ => ?_)
  refine W.aloadN C d7_10 rfl rfl ?_
  refine W.iloadN C d7_11 rfl ?_
  refine W.callV C (y' := y13) d7_12 (tkw hw 63 rfl) (tkw hw 64 rfl) (tkw hw 66 rfl) (tkw hw 65 rfl) (tkw hw 8 rfl) (tkw hw 67 rfl) (by decide) E_a1 (argsL := [(.int (0 : Int32))]) (rest := []) rfl (lenOf pd_8 rfl) (con_ca_1_0 l Z a0 hw h0 n0 a1 d1 _ (4 : Int32) rfl c0 r0.1 r0.2 fm hfm cv hcv (by decide) rfl rfl E_a1 Fv Fc Ld S_C S_F S_A S_H S_L Z0) 0 0 0 rfl rfl rfl (by decide) (by decide) (by decide) (by decide) rfl ?_
  rintro _ _ ⟨rfl, rfl⟩
  refine W.istoreN C #[.val (.ref q1), .val (.ref a1), .val (.int (0 : Int32)), .val (.int c0)] d7_15 rfl ?_
  refine W.iloadN C d7_16 rfl ?_
  refine W.bipush C (123 : Int32) d7_17 rfl ?_
  refine W.icmp_eq C 28 d7_19 rfl (fun bq1 => absurd bq1 x0) (fun bq1 => ?_)
  refine W.iloadN C d7_22 rfl ?_
  refine W.bipush C (125 : Int32) d7_23 rfl ?_
  refine W.icmp_ne C 44 d7_25 rfl (fun bq2 => ?_) (fun bq2 => absurd bq2 y0)
  refine W.iinc C (1 : Int32) #[.val (.ref q1), .val (.ref a1), .val (.int (1 : Int32)), .val (.int c0)] d7_44 rfl rfl rfl ?_
  refine W.goto C 2 d7_47 rfl ?_
  refine W.iloadN C d7_2 rfl ?_
  refine W.aloadN C d7_3 rfl rfl ?_
  refine W.callV C (y' := y8) d7_4 (tkw hw 41 rfl) (tkw hw 42 rfl) (tkw hw 44 rfl) (tkw hw 43 rfl) (tkw hw 8 rfl) (tkw hw 45 rfl) (by decide) E_a1 (argsL := []) (rest := [(.int (1 : Int32))]) rfl (lenOf pd_7 rfl) (con_ln_1 l Z a0 hw h0 n0 a1 d1 _ (4 : Int32) rfl (2 : Int32) (by decide) cv hcv E_a1 Fv Fc Ld S_C Z0) 1 0 0 rfl rfl rfl (by decide) (by decide) (by decide) (by decide) rfl ?_
  rintro _ _ ⟨rfl, rfl⟩
  refine W.icmp_ge C 50 d7_7 rfl (fun b => absurd b (by decide)) (fun _ => ?_)
  refine W.aloadN C d7_10 rfl rfl ?_
  refine W.iloadN C d7_11 rfl ?_
  refine W.callV C (y' := y13) d7_12 (tkw hw 63 rfl) (tkw hw 64 rfl) (tkw hw 66 rfl) (tkw hw 65 rfl) (tkw hw 8 rfl) (tkw hw 67 rfl) (by decide) E_a1 (argsL := [(.int (1 : Int32))]) (rest := []) rfl (lenOf pd_8 rfl) (con_ca_1_1 l Z a0 hw h0 n0 a1 d1 _ (4 : Int32) rfl c1 r1.1 r1.2 fm hfm cv hcv (by decide) rfl rfl E_a1 Fv Fc Ld S_C S_F S_A S_H S_L Z0) 0 0 0 rfl rfl rfl (by decide) (by decide) (by decide) (by decide) rfl ?_
  rintro _ _ ⟨rfl, rfl⟩
  refine W.istoreN C #[.val (.ref q1), .val (.ref a1), .val (.int (1 : Int32)), .val (.int c1)] d7_15 rfl ?_
  refine W.iloadN C d7_16 rfl ?_
  refine W.bipush C (123 : Int32) d7_17 rfl ?_
  refine W.icmp_eq C 28 d7_19 rfl (fun bq3 => absurd bq3 x1) (fun bq3 => ?_)
  refine W.iloadN C d7_22 rfl ?_
  refine W.bipush C (125 : Int32) d7_23 rfl ?_
  refine W.icmp_ne C 44 d7_25 rfl (fun bq4 => ?_) (fun bq4 => absurd bq4 y1)
  refine W.iinc C (2 : Int32) #[.val (.ref q1), .val (.ref a1), .val (.int (2 : Int32)), .val (.int c1)] d7_44 rfl rfl rfl ?_
  refine W.goto C 2 d7_47 rfl ?_
  refine W.iloadN C d7_2 rfl ?_
  refine W.aloadN C d7_3 rfl rfl ?_
  refine W.callV C (y' := y8) d7_4 (tkw hw 41 rfl) (tkw hw 42 rfl) (tkw hw 44 rfl) (tkw hw 43 rfl) (tkw hw 8 rfl) (tkw hw 45 rfl) (by decide) E_a1 (argsL := []) (rest := [(.int (2 : Int32))]) rfl (lenOf pd_7 rfl) (con_ln_1 l Z a0 hw h0 n0 a1 d1 _ (4 : Int32) rfl (2 : Int32) (by decide) cv hcv E_a1 Fv Fc Ld S_C Z0) 1 0 0 rfl rfl rfl (by decide) (by decide) (by decide) (by decide) rfl ?_
  rintro _ _ ⟨rfl, rfl⟩
  refine W.icmp_ge C 50 d7_7 rfl (fun _ => ?_) (fun b => absurd b (by decide))
  exact W.retV C d7_50 (FN.ok (by decide) (by decide) ⟨rfl, rfl⟩)

theorem ef_cp_1_2 (m : MethodId) (a1 : Addr) : entryFrame m #[(.ref a1)] 1 = mkF m 0 #[.val (.ref a1)] [] := by first | (simp [entryFrame, mkF, argsToLocals, Value.category]; done) | rfl
set_option maxRecDepth 65536 in
set_option maxHeartbeats 40000000 in
theorem con_cp_1_2 (l : Launch) (Z : State) (a0 : Array Value) (hw : ∀ d ∈ tables_1, d.before a0 Z = true) (h0 : Heap) (n0 : Nat) (a1 : Addr) (d1 : Addr) (c0 c1 : Int32) (x0 : ¬ c0 = 123) (y0 : ¬ c0 = 125) (r0 : 0 ≤ c0.toInt ∧ c0.toInt < 65536) (x1 : ¬ c1 = 123) (y1 : ¬ c1 = 125) (r1 : 0 ≤ c1.toInt ∧ c1.toInt < 65536) (fm : Value) (hfm : fm.isRef = true) (cv : Int32) (hcv : ¬ cv = 0) (E_a1 : Exa Z h0 a1 "java/lang/String") (Fv : Fld Z h0 a1 "java/lang/String" "value" "[B" (.ref d1)) (Fc : Fld Z h0 a1 "java/lang/String" "coder" "B" (.int 1)) (Ld : Al Z h0 d1 .byte [(.int (((c0 >>> ((0 : Int32) &&& 31))).toInt8.toInt32)), (.int (((c0 >>> ((8 : Int32) &&& 31))).toInt8.toInt32)), (.int (((c1 >>> ((0 : Int32) &&& 31))).toInt8.toInt32)), (.int (((c1 >>> ((8 : Int32) &&& 31))).toInt8.toInt32))]) (S_C : Sta Z h0 "java/lang/String" "COMPACT_STRINGS" "Z" (.int cv)) (S_F : Sta Z h0 "jdk/internal/util/Preconditions" "SIOOBE_FORMATTER" "Ljava/util/function/BiFunction;" fm) (S_A : Sta Z h0 "java/lang/StringUTF16" "$assertionsDisabled" "Z" (.int (1 : Int32))) (S_H : Sta Z h0 "java/lang/StringUTF16" "HI_BYTE_SHIFT" "I" (.int (0 : Int32))) (S_L : Sta Z h0 "java/lang/StringUTF16" "LO_BYTE_SHIFT" "I" (.int (8 : Int32))) (Z0 : n0 ≤ h0.size) : ConW l Z y5 prog_8_method_3_code 1 none ({ frames := 6, cells := 4, slots := 72, locals := 81 } : Room) #[(.ref a1)] h0 n0 (fun vm => CHv Z own_EL vm h0) (fun v h _ => v = none ∧ Ext h0 h) := by
  refine ConW.of pf_5 (fun m => ef_cp_1_2 m a1) ?_
  intro p e s m below meth c C PV hS
  have Hc := PV
  have K0 : Keep h0 h0 [] := Keep.refl _ _
  refine W.aloadN C d5_0 rfl rfl ?_
  refine W.ldcO C hS 24 d5_1 (tkw hw 32 rfl) (own_sa hw) (own_ew hw) Hc (by decide) (by decide) 2 28 rfl rfl (by decide) (by decide) ?_
  intro lt1 hp2 vm3 Elt1 HR C hS
  replace Hc := HR.1
  replace E_a1 := E_a1.ext Elt1
  replace Fv := Fv.ext Elt1
  replace Fc := Fc.ext Elt1
  replace Ld := Ld.ext Elt1
  replace S_C := S_C.ext Elt1
  replace S_F := S_F.ext Elt1
  replace S_A := S_A.ext Elt1
  replace S_H := S_H.ext Elt1
  replace S_L := S_L.ext Elt1
  replace Z0 := Nat.le_trans Z0 Elt1.1
  replace K0 := K0.ext Elt1
  refine W.callS C (y' := y6) d5_3 (tkw hw 33 rfl) (tkw hw 34 rfl) (tkw hw 35 rfl) (tkw hw 36 rfl) (by decide) (argsL := [(.ref a1), (.ref lt1)]) (rest := []) rfl (lenOf pd_9 rfl) (con_rn l Z a0 hw hp2 n0 a1 lt1 Z0) 0 2 28 rfl rfl rfl (by decide) (by decide) (by decide) (by decide) rfl ?_
  rintro _ _ ⟨rfl, rfl⟩
  refine Jvm.OwnKit.W.pop C d5_6 rfl ?_
  refine W.ldcO C hS 40 d5_7 (tkw hw 37 rfl) (own_sa hw) (own_ew hw) Hc (by decide) (by decide) 4 72 rfl rfl (by decide) (by decide) ?_
  intro lt4 hp5 vm6 Elt4 HR C hS
  replace Hc := HR.1
  replace E_a1 := E_a1.ext Elt4
  replace Fv := Fv.ext Elt4
  replace Fc := Fc.ext Elt4
  replace Ld := Ld.ext Elt4
  replace S_C := S_C.ext Elt4
  replace S_F := S_F.ext Elt4
  replace S_A := S_A.ext Elt4
  replace S_H := S_H.ext Elt4
  replace S_L := S_L.ext Elt4
  replace Z0 := Nat.le_trans Z0 Elt4.1
  replace K0 := K0.ext Elt4
  refine W.aloadN C d5_9 rfl rfl ?_
  refine W.callS C (y' := y7) d5_10 (tkw hw 38 rfl) (tkw hw 39 rfl) (tkw hw 30 rfl) (tkw hw 40 rfl) (by decide) (argsL := [(.ref lt4), (.ref a1)]) (rest := []) rfl (lenOf pd_10 rfl) (con_rb_1_2 l Z a0 hw hp5 n0 lt4 a1 d1 c0 c1 x0 y0 r0 x1 y1 r1 fm hfm cv hcv E_a1 Fv Fc Ld S_C S_F S_A S_H S_L Z0) 0 4 72 rfl rfl rfl (by decide) (by decide) (by decide) (by decide) rfl ?_
  rintro _ _ ⟨rfl, rfl⟩
  exact W.retV C d5_13 (FW.ok hS (by decide) (by decide) (fun vm' hW' => ⟨rfl, ext0 K0⟩))

theorem ef_rb_1_3 (m : MethodId) (q1 : Addr) (a1 : Addr) : entryFrame m #[(.ref q1), (.ref a1)] 4 = mkF m 0 #[.val (.ref q1), .val (.ref a1), .unset, .unset] [] := by first | (simp [entryFrame, mkF, argsToLocals, Value.category]; done) | rfl
set_option maxRecDepth 65536 in
set_option maxHeartbeats 40000000 in
theorem con_rb_1_3 (l : Launch) (Z : State) (a0 : Array Value) (hw : ∀ d ∈ tables_1, d.before a0 Z = true) (h0 : Heap) (n0 : Nat) (q1 : Addr) (a1 : Addr) (d1 : Addr) (c0 c1 c2 : Int32) (x0 : ¬ c0 = 123) (y0 : ¬ c0 = 125) (r0 : 0 ≤ c0.toInt ∧ c0.toInt < 65536) (x1 : ¬ c1 = 123) (y1 : ¬ c1 = 125) (r1 : 0 ≤ c1.toInt ∧ c1.toInt < 65536) (x2 : ¬ c2 = 123) (y2 : ¬ c2 = 125) (r2 : 0 ≤ c2.toInt ∧ c2.toInt < 65536) (fm : Value) (hfm : fm.isRef = true) (cv : Int32) (hcv : ¬ cv = 0) (E_a1 : Exa Z h0 a1 "java/lang/String") (Fv : Fld Z h0 a1 "java/lang/String" "value" "[B" (.ref d1)) (Fc : Fld Z h0 a1 "java/lang/String" "coder" "B" (.int 1)) (Ld : Al Z h0 d1 .byte [(.int (((c0 >>> ((0 : Int32) &&& 31))).toInt8.toInt32)), (.int (((c0 >>> ((8 : Int32) &&& 31))).toInt8.toInt32)), (.int (((c1 >>> ((0 : Int32) &&& 31))).toInt8.toInt32)), (.int (((c1 >>> ((8 : Int32) &&& 31))).toInt8.toInt32)), (.int (((c2 >>> ((0 : Int32) &&& 31))).toInt8.toInt32)), (.int (((c2 >>> ((8 : Int32) &&& 31))).toInt8.toInt32))]) (S_C : Sta Z h0 "java/lang/String" "COMPACT_STRINGS" "Z" (.int cv)) (S_F : Sta Z h0 "jdk/internal/util/Preconditions" "SIOOBE_FORMATTER" "Ljava/util/function/BiFunction;" fm) (S_A : Sta Z h0 "java/lang/StringUTF16" "$assertionsDisabled" "Z" (.int (1 : Int32))) (S_H : Sta Z h0 "java/lang/StringUTF16" "HI_BYTE_SHIFT" "I" (.int (0 : Int32))) (S_L : Sta Z h0 "java/lang/StringUTF16" "LO_BYTE_SHIFT" "I" (.int (8 : Int32))) (Z0 : n0 ≤ h0.size) : Con l Z y7 prog_8_method_25_code 4 none ({ frames := 5, cells := 0, slots := 0, locals := 66 } : Room) #[(.ref q1), (.ref a1)] h0 n0 (Pu none h0) := by
  refine Con.of pf_7 (fun m => ef_rb_1_3 m q1 a1) ?_
  intro p e s m below meth c C
  refine W.iconst C (0 : Int32) d7_0 rfl ?_
  refine W.istoreN C #[.val (.ref q1), .val (.ref a1), .val (.int (0 : Int32)), .unset] d7_1 rfl ?_
  refine W.iloadN C d7_2 rfl ?_
  refine W.aloadN C d7_3 rfl rfl ?_
  refine W.callV C (y' := y8) d7_4 (tkw hw 41 rfl) (tkw hw 42 rfl) (tkw hw 44 rfl) (tkw hw 43 rfl) (tkw hw 8 rfl) (tkw hw 45 rfl) (by decide) E_a1 (argsL := []) (rest := [(.int (0 : Int32))]) rfl (lenOf pd_7 rfl) (con_ln_1 l Z a0 hw h0 n0 a1 d1 _ (6 : Int32) rfl (3 : Int32) (by decide) cv hcv E_a1 Fv Fc Ld S_C Z0) 1 0 0 rfl rfl rfl (by decide) (by decide) (by decide) (by decide) rfl ?_
  rintro _ _ ⟨rfl, rfl⟩
  refine W.icmp_ge C 50 d7_7 rfl (fun b => absurd b (by decide)) (fun _ => ?_)
  refine W.aloadN C d7_10 rfl rfl ?_
  refine W.iloadN C d7_11 rfl ?_
  refine W.callV C (y' := y13) d7_12 (tkw hw 63 rfl) (tkw hw 64 rfl) (tkw hw 66 rfl) (tkw hw 65 rfl) (tkw hw 8 rfl) (tkw hw 67 rfl) (by decide) E_a1 (argsL := [(.int (0 : Int32))]) (rest := []) rfl (lenOf pd_8 rfl) (con_ca_1_0 l Z a0 hw h0 n0 a1 d1 _ (6 : Int32) rfl c0 r0.1 r0.2 fm hfm cv hcv (by decide) rfl rfl E_a1 Fv Fc Ld S_C S_F S_A S_H S_L Z0) 0 0 0 rfl rfl rfl (by decide) (by decide) (by decide) (by decide) rfl ?_
  rintro _ _ ⟨rfl, rfl⟩
  refine W.istoreN C #[.val (.ref q1), .val (.ref a1), .val (.int (0 : Int32)), .val (.int c0)] d7_15 rfl ?_
  refine W.iloadN C d7_16 rfl ?_
  refine W.bipush C (123 : Int32) d7_17 rfl ?_
  refine W.icmp_eq C 28 d7_19 rfl (fun bq1 => absurd bq1 x0) (fun bq1 => ?_)
  refine W.iloadN C d7_22 rfl ?_
  refine W.bipush C (125 : Int32) d7_23 rfl ?_
  refine W.icmp_ne C 44 d7_25 rfl (fun bq2 => ?_) (fun bq2 => absurd bq2 y0)
  refine W.iinc C (1 : Int32) #[.val (.ref q1), .val (.ref a1), .val (.int (1 : Int32)), .val (.int c0)] d7_44 rfl rfl rfl ?_
  refine W.goto C 2 d7_47 rfl ?_
  refine W.iloadN C d7_2 rfl ?_
  refine W.aloadN C d7_3 rfl rfl ?_
  refine W.callV C (y' := y8) d7_4 (tkw hw 41 rfl) (tkw hw 42 rfl) (tkw hw 44 rfl) (tkw hw 43 rfl) (tkw hw 8 rfl) (tkw hw 45 rfl) (by decide) E_a1 (argsL := []) (rest := [(.int (1 : Int32))]) rfl (lenOf pd_7 rfl) (con_ln_1 l Z a0 hw h0 n0 a1 d1 _ (6 : Int32) rfl (3 : Int32) (by decide) cv hcv E_a1 Fv Fc Ld S_C Z0) 1 0 0 rfl rfl rfl (by decide) (by decide) (by decide) (by decide) rfl ?_
  rintro _ _ ⟨rfl, rfl⟩
  refine W.icmp_ge C 50 d7_7 rfl (fun b => absurd b (by decide)) (fun _ => ?_)
  refine W.aloadN C d7_10 rfl rfl ?_
  refine W.iloadN C d7_11 rfl ?_
  refine W.callV C (y' := y13) d7_12 (tkw hw 63 rfl) (tkw hw 64 rfl) (tkw hw 66 rfl) (tkw hw 65 rfl) (tkw hw 8 rfl) (tkw hw 67 rfl) (by decide) E_a1 (argsL := [(.int (1 : Int32))]) (rest := []) rfl (lenOf pd_8 rfl) (con_ca_1_1 l Z a0 hw h0 n0 a1 d1 _ (6 : Int32) rfl c1 r1.1 r1.2 fm hfm cv hcv (by decide) rfl rfl E_a1 Fv Fc Ld S_C S_F S_A S_H S_L Z0) 0 0 0 rfl rfl rfl (by decide) (by decide) (by decide) (by decide) rfl ?_
  rintro _ _ ⟨rfl, rfl⟩
  refine W.istoreN C #[.val (.ref q1), .val (.ref a1), .val (.int (1 : Int32)), .val (.int c1)] d7_15 rfl ?_
  refine W.iloadN C d7_16 rfl ?_
  refine W.bipush C (123 : Int32) d7_17 rfl ?_
  refine W.icmp_eq C 28 d7_19 rfl (fun bq3 => absurd bq3 x1) (fun bq3 => ?_)
  refine W.iloadN C d7_22 rfl ?_
  refine W.bipush C (125 : Int32) d7_23 rfl ?_
  refine W.icmp_ne C 44 d7_25 rfl (fun bq4 => ?_) (fun bq4 => absurd bq4 y1)
  refine W.iinc C (2 : Int32) #[.val (.ref q1), .val (.ref a1), .val (.int (2 : Int32)), .val (.int c1)] d7_44 rfl rfl rfl ?_
  refine W.goto C 2 d7_47 rfl ?_
  refine W.iloadN C d7_2 rfl ?_
  refine W.aloadN C d7_3 rfl rfl ?_
  refine W.callV C (y' := y8) d7_4 (tkw hw 41 rfl) (tkw hw 42 rfl) (tkw hw 44 rfl) (tkw hw 43 rfl) (tkw hw 8 rfl) (tkw hw 45 rfl) (by decide) E_a1 (argsL := []) (rest := [(.int (2 : Int32))]) rfl (lenOf pd_7 rfl) (con_ln_1 l Z a0 hw h0 n0 a1 d1 _ (6 : Int32) rfl (3 : Int32) (by decide) cv hcv E_a1 Fv Fc Ld S_C Z0) 1 0 0 rfl rfl rfl (by decide) (by decide) (by decide) (by decide) rfl ?_
  rintro _ _ ⟨rfl, rfl⟩
  refine W.icmp_ge C 50 d7_7 rfl (fun b => absurd b (by decide)) (fun _ => ?_)
  refine W.aloadN C d7_10 rfl rfl ?_
  refine W.iloadN C d7_11 rfl ?_
  refine W.callV C (y' := y13) d7_12 (tkw hw 63 rfl) (tkw hw 64 rfl) (tkw hw 66 rfl) (tkw hw 65 rfl) (tkw hw 8 rfl) (tkw hw 67 rfl) (by decide) E_a1 (argsL := [(.int (2 : Int32))]) (rest := []) rfl (lenOf pd_8 rfl) (con_ca_1_2 l Z a0 hw h0 n0 a1 d1 _ (6 : Int32) rfl c2 r2.1 r2.2 fm hfm cv hcv (by decide) rfl rfl E_a1 Fv Fc Ld S_C S_F S_A S_H S_L Z0) 0 0 0 rfl rfl rfl (by decide) (by decide) (by decide) (by decide) rfl ?_
  rintro _ _ ⟨rfl, rfl⟩
  refine W.istoreN C #[.val (.ref q1), .val (.ref a1), .val (.int (2 : Int32)), .val (.int c2)] d7_15 rfl ?_
  refine W.iloadN C d7_16 rfl ?_
  refine W.bipush C (123 : Int32) d7_17 rfl ?_
  refine W.icmp_eq C 28 d7_19 rfl (fun bq5 => absurd bq5 x2) (fun bq5 => ?_)
  refine W.iloadN C d7_22 rfl ?_
  refine W.bipush C (125 : Int32) d7_23 rfl ?_
  refine W.icmp_ne C 44 d7_25 rfl (fun bq6 => ?_) (fun bq6 => absurd bq6 y2)
  refine W.iinc C (3 : Int32) #[.val (.ref q1), .val (.ref a1), .val (.int (3 : Int32)), .val (.int c2)] d7_44 rfl rfl rfl ?_
  refine W.goto C 2 d7_47 rfl ?_
  refine W.iloadN C d7_2 rfl ?_
  refine W.aloadN C d7_3 rfl rfl ?_
  refine W.callV C (y' := y8) d7_4 (tkw hw 41 rfl) (tkw hw 42 rfl) (tkw hw 44 rfl) (tkw hw 43 rfl) (tkw hw 8 rfl) (tkw hw 45 rfl) (by decide) E_a1 (argsL := []) (rest := [(.int (3 : Int32))]) rfl (lenOf pd_7 rfl) (con_ln_1 l Z a0 hw h0 n0 a1 d1 _ (6 : Int32) rfl (3 : Int32) (by decide) cv hcv E_a1 Fv Fc Ld S_C Z0) 1 0 0 rfl rfl rfl (by decide) (by decide) (by decide) (by decide) rfl ?_
  rintro _ _ ⟨rfl, rfl⟩
  refine W.icmp_ge C 50 d7_7 rfl (fun _ => ?_) (fun b => absurd b (by decide))
  exact W.retV C d7_50 (FN.ok (by decide) (by decide) ⟨rfl, rfl⟩)

theorem ef_cp_1_3 (m : MethodId) (a1 : Addr) : entryFrame m #[(.ref a1)] 1 = mkF m 0 #[.val (.ref a1)] [] := by first | (simp [entryFrame, mkF, argsToLocals, Value.category]; done) | rfl
set_option maxRecDepth 65536 in
set_option maxHeartbeats 40000000 in
theorem con_cp_1_3 (l : Launch) (Z : State) (a0 : Array Value) (hw : ∀ d ∈ tables_1, d.before a0 Z = true) (h0 : Heap) (n0 : Nat) (a1 : Addr) (d1 : Addr) (c0 c1 c2 : Int32) (x0 : ¬ c0 = 123) (y0 : ¬ c0 = 125) (r0 : 0 ≤ c0.toInt ∧ c0.toInt < 65536) (x1 : ¬ c1 = 123) (y1 : ¬ c1 = 125) (r1 : 0 ≤ c1.toInt ∧ c1.toInt < 65536) (x2 : ¬ c2 = 123) (y2 : ¬ c2 = 125) (r2 : 0 ≤ c2.toInt ∧ c2.toInt < 65536) (fm : Value) (hfm : fm.isRef = true) (cv : Int32) (hcv : ¬ cv = 0) (E_a1 : Exa Z h0 a1 "java/lang/String") (Fv : Fld Z h0 a1 "java/lang/String" "value" "[B" (.ref d1)) (Fc : Fld Z h0 a1 "java/lang/String" "coder" "B" (.int 1)) (Ld : Al Z h0 d1 .byte [(.int (((c0 >>> ((0 : Int32) &&& 31))).toInt8.toInt32)), (.int (((c0 >>> ((8 : Int32) &&& 31))).toInt8.toInt32)), (.int (((c1 >>> ((0 : Int32) &&& 31))).toInt8.toInt32)), (.int (((c1 >>> ((8 : Int32) &&& 31))).toInt8.toInt32)), (.int (((c2 >>> ((0 : Int32) &&& 31))).toInt8.toInt32)), (.int (((c2 >>> ((8 : Int32) &&& 31))).toInt8.toInt32))]) (S_C : Sta Z h0 "java/lang/String" "COMPACT_STRINGS" "Z" (.int cv)) (S_F : Sta Z h0 "jdk/internal/util/Preconditions" "SIOOBE_FORMATTER" "Ljava/util/function/BiFunction;" fm) (S_A : Sta Z h0 "java/lang/StringUTF16" "$assertionsDisabled" "Z" (.int (1 : Int32))) (S_H : Sta Z h0 "java/lang/StringUTF16" "HI_BYTE_SHIFT" "I" (.int (0 : Int32))) (S_L : Sta Z h0 "java/lang/StringUTF16" "LO_BYTE_SHIFT" "I" (.int (8 : Int32))) (Z0 : n0 ≤ h0.size) : ConW l Z y5 prog_8_method_3_code 1 none ({ frames := 6, cells := 4, slots := 72, locals := 81 } : Room) #[(.ref a1)] h0 n0 (fun vm => CHv Z own_EL vm h0) (fun v h _ => v = none ∧ Ext h0 h) := by
  refine ConW.of pf_5 (fun m => ef_cp_1_3 m a1) ?_
  intro p e s m below meth c C PV hS
  have Hc := PV
  have K0 : Keep h0 h0 [] := Keep.refl _ _
  refine W.aloadN C d5_0 rfl rfl ?_
  refine W.ldcO C hS 24 d5_1 (tkw hw 32 rfl) (own_sa hw) (own_ew hw) Hc (by decide) (by decide) 2 28 rfl rfl (by decide) (by decide) ?_
  intro lt1 hp2 vm3 Elt1 HR C hS
  replace Hc := HR.1
  replace E_a1 := E_a1.ext Elt1
  replace Fv := Fv.ext Elt1
  replace Fc := Fc.ext Elt1
  replace Ld := Ld.ext Elt1
  replace S_C := S_C.ext Elt1
  replace S_F := S_F.ext Elt1
  replace S_A := S_A.ext Elt1
  replace S_H := S_H.ext Elt1
  replace S_L := S_L.ext Elt1
  replace Z0 := Nat.le_trans Z0 Elt1.1
  replace K0 := K0.ext Elt1
  refine W.callS C (y' := y6) d5_3 (tkw hw 33 rfl) (tkw hw 34 rfl) (tkw hw 35 rfl) (tkw hw 36 rfl) (by decide) (argsL := [(.ref a1), (.ref lt1)]) (rest := []) rfl (lenOf pd_9 rfl) (con_rn l Z a0 hw hp2 n0 a1 lt1 Z0) 0 2 28 rfl rfl rfl (by decide) (by decide) (by decide) (by decide) rfl ?_
  rintro _ _ ⟨rfl, rfl⟩
  refine Jvm.OwnKit.W.pop C d5_6 rfl ?_
  refine W.ldcO C hS 40 d5_7 (tkw hw 37 rfl) (own_sa hw) (own_ew hw) Hc (by decide) (by decide) 4 72 rfl rfl (by decide) (by decide) ?_
  intro lt4 hp5 vm6 Elt4 HR C hS
  replace Hc := HR.1
  replace E_a1 := E_a1.ext Elt4
  replace Fv := Fv.ext Elt4
  replace Fc := Fc.ext Elt4
  replace Ld := Ld.ext Elt4
  replace S_C := S_C.ext Elt4
  replace S_F := S_F.ext Elt4
  replace S_A := S_A.ext Elt4
  replace S_H := S_H.ext Elt4
  replace S_L := S_L.ext Elt4
  replace Z0 := Nat.le_trans Z0 Elt4.1
  replace K0 := K0.ext Elt4
  refine W.aloadN C d5_9 rfl rfl ?_
  refine W.callS C (y' := y7) d5_10 (tkw hw 38 rfl) (tkw hw 39 rfl) (tkw hw 30 rfl) (tkw hw 40 rfl) (by decide) (argsL := [(.ref lt4), (.ref a1)]) (rest := []) rfl (lenOf pd_10 rfl) (con_rb_1_3 l Z a0 hw hp5 n0 lt4 a1 d1 c0 c1 c2 x0 y0 r0 x1 y1 r1 x2 y2 r2 fm hfm cv hcv E_a1 Fv Fc Ld S_C S_F S_A S_H S_L Z0) 0 4 72 rfl rfl rfl (by decide) (by decide) (by decide) (by decide) rfl ?_
  rintro _ _ ⟨rfl, rfl⟩
  exact W.retV C d5_13 (FW.ok hS (by decide) (by decide) (fun vm' hW' => ⟨rfl, ext0 K0⟩))

theorem ef_rb_1_4 (m : MethodId) (q1 : Addr) (a1 : Addr) : entryFrame m #[(.ref q1), (.ref a1)] 4 = mkF m 0 #[.val (.ref q1), .val (.ref a1), .unset, .unset] [] := by first | (simp [entryFrame, mkF, argsToLocals, Value.category]; done) | rfl
set_option maxRecDepth 65536 in
set_option maxHeartbeats 40000000 in
theorem con_rb_1_4 (l : Launch) (Z : State) (a0 : Array Value) (hw : ∀ d ∈ tables_1, d.before a0 Z = true) (h0 : Heap) (n0 : Nat) (q1 : Addr) (a1 : Addr) (d1 : Addr) (c0 c1 c2 c3 : Int32) (x0 : ¬ c0 = 123) (y0 : ¬ c0 = 125) (r0 : 0 ≤ c0.toInt ∧ c0.toInt < 65536) (x1 : ¬ c1 = 123) (y1 : ¬ c1 = 125) (r1 : 0 ≤ c1.toInt ∧ c1.toInt < 65536) (x2 : ¬ c2 = 123) (y2 : ¬ c2 = 125) (r2 : 0 ≤ c2.toInt ∧ c2.toInt < 65536) (x3 : ¬ c3 = 123) (y3 : ¬ c3 = 125) (r3 : 0 ≤ c3.toInt ∧ c3.toInt < 65536) (fm : Value) (hfm : fm.isRef = true) (cv : Int32) (hcv : ¬ cv = 0) (E_a1 : Exa Z h0 a1 "java/lang/String") (Fv : Fld Z h0 a1 "java/lang/String" "value" "[B" (.ref d1)) (Fc : Fld Z h0 a1 "java/lang/String" "coder" "B" (.int 1)) (Ld : Al Z h0 d1 .byte [(.int (((c0 >>> ((0 : Int32) &&& 31))).toInt8.toInt32)), (.int (((c0 >>> ((8 : Int32) &&& 31))).toInt8.toInt32)), (.int (((c1 >>> ((0 : Int32) &&& 31))).toInt8.toInt32)), (.int (((c1 >>> ((8 : Int32) &&& 31))).toInt8.toInt32)), (.int (((c2 >>> ((0 : Int32) &&& 31))).toInt8.toInt32)), (.int (((c2 >>> ((8 : Int32) &&& 31))).toInt8.toInt32)), (.int (((c3 >>> ((0 : Int32) &&& 31))).toInt8.toInt32)), (.int (((c3 >>> ((8 : Int32) &&& 31))).toInt8.toInt32))]) (S_C : Sta Z h0 "java/lang/String" "COMPACT_STRINGS" "Z" (.int cv)) (S_F : Sta Z h0 "jdk/internal/util/Preconditions" "SIOOBE_FORMATTER" "Ljava/util/function/BiFunction;" fm) (S_A : Sta Z h0 "java/lang/StringUTF16" "$assertionsDisabled" "Z" (.int (1 : Int32))) (S_H : Sta Z h0 "java/lang/StringUTF16" "HI_BYTE_SHIFT" "I" (.int (0 : Int32))) (S_L : Sta Z h0 "java/lang/StringUTF16" "LO_BYTE_SHIFT" "I" (.int (8 : Int32))) (Z0 : n0 ≤ h0.size) : Con l Z y7 prog_8_method_25_code 4 none ({ frames := 5, cells := 0, slots := 0, locals := 66 } : Room) #[(.ref q1), (.ref a1)] h0 n0 (Pu none h0) := by
  refine Con.of pf_7 (fun m => ef_rb_1_4 m q1 a1) ?_
  intro p e s m below meth c C
  refine W.iconst C (0 : Int32) d7_0 rfl ?_
  refine W.istoreN C #[.val (.ref q1), .val (.ref a1), .val (.int (0 : Int32)), .unset] d7_1 rfl ?_
  refine W.iloadN C d7_2 rfl ?_
  refine W.aloadN C d7_3 rfl rfl ?_
  refine W.callV C (y' := y8) d7_4 (tkw hw 41 rfl) (tkw hw 42 rfl) (tkw hw 44 rfl) (tkw hw 43 rfl) (tkw hw 8 rfl) (tkw hw 45 rfl) (by decide) E_a1 (argsL := []) (rest := [(.int (0 : Int32))]) rfl (lenOf pd_7 rfl) (con_ln_1 l Z a0 hw h0 n0 a1 d1 _ (8 : Int32) rfl (4 : Int32) (by decide) cv hcv E_a1 Fv Fc Ld S_C Z0) 1 0 0 rfl rfl rfl (by decide) (by decide) (by decide) (by decide) rfl ?_
  rintro _ _ ⟨rfl, rfl⟩
  refine W.icmp_ge C 50 d7_7 rfl (fun b => absurd b (by decide)) (fun _ => ?_)
  refine W.aloadN C d7_10 rfl rfl ?_
  refine W.iloadN C d7_11 rfl ?_
  refine W.callV C (y' := y13) d7_12 (tkw hw 63 rfl) (tkw hw 64 rfl) (tkw hw 66 rfl) (tkw hw 65 rfl) (tkw hw 8 rfl) (tkw hw 67 rfl) (by decide) E_a1 (argsL := [(.int (0 : Int32))]) (rest := []) rfl (lenOf pd_8 rfl) (con_ca_1_0 l Z a0 hw h0 n0 a1 d1 _ (8 : Int32) rfl c0 r0.1 r0.2 fm hfm cv hcv (by decide) rfl rfl E_a1 Fv Fc Ld S_C S_F S_A S_H S_L Z0) 0 0 0 rfl rfl rfl (by decide) (by decide) (by decide) (by decide) rfl ?_
  rintro _ _ ⟨rfl, rfl⟩
  refine W.istoreN C #[.val (.ref q1), .val (.ref a1), .val (.int (0 : Int32)), .val (.int c0)] d7_15 rfl ?_
  refine W.iloadN C d7_16 rfl ?_
  refine W.bipush C (123 : Int32) d7_17 rfl ?_
  refine W.icmp_eq C 28 d7_19 rfl (fun bq1 => absurd bq1 x0) (fun bq1 => ?_)
  refine W.iloadN C d7_22 rfl ?_
  refine W.bipush C (125 : Int32) d7_23 rfl ?_
  refine W.icmp_ne C 44 d7_25 rfl (fun bq2 => ?_) (fun bq2 => absurd bq2 y0)
  refine W.iinc C (1 : Int32) #[.val (.ref q1), .val (.ref a1), .val (.int (1 : Int32)), .val (.int c0)] d7_44 rfl rfl rfl ?_
  refine W.goto C 2 d7_47 rfl ?_
  refine W.iloadN C d7_2 rfl ?_
  refine W.aloadN C d7_3 rfl rfl ?_
  refine W.callV C (y' := y8) d7_4 (tkw hw 41 rfl) (tkw hw 42 rfl) (tkw hw 44 rfl) (tkw hw 43 rfl) (tkw hw 8 rfl) (tkw hw 45 rfl) (by decide) E_a1 (argsL := []) (rest := [(.int (1 : Int32))]) rfl (lenOf pd_7 rfl) (con_ln_1 l Z a0 hw h0 n0 a1 d1 _ (8 : Int32) rfl (4 : Int32) (by decide) cv hcv E_a1 Fv Fc Ld S_C Z0) 1 0 0 rfl rfl rfl (by decide) (by decide) (by decide) (by decide) rfl ?_
  rintro _ _ ⟨rfl, rfl⟩
  refine W.icmp_ge C 50 d7_7 rfl (fun b => absurd b (by decide)) (fun _ => ?_)
  refine W.aloadN C d7_10 rfl rfl ?_
  refine W.iloadN C d7_11 rfl ?_
  refine W.callV C (y' := y13) d7_12 (tkw hw 63 rfl) (tkw hw 64 rfl) (tkw hw 66 rfl) (tkw hw 65 rfl) (tkw hw 8 rfl) (tkw hw 67 rfl) (by decide) E_a1 (argsL := [(.int (1 : Int32))]) (rest := []) rfl (lenOf pd_8 rfl) (con_ca_1_1 l Z a0 hw h0 n0 a1 d1 _ (8 : Int32) rfl c1 r1.1 r1.2 fm hfm cv hcv (by decide) rfl rfl E_a1 Fv Fc Ld S_C S_F S_A S_H S_L Z0) 0 0 0 rfl rfl rfl (by decide) (by decide) (by decide) (by decide) rfl ?_
  rintro _ _ ⟨rfl, rfl⟩
  refine W.istoreN C #[.val (.ref q1), .val (.ref a1), .val (.int (1 : Int32)), .val (.int c1)] d7_15 rfl ?_
  refine W.iloadN C d7_16 rfl ?_
  refine W.bipush C (123 : Int32) d7_17 rfl ?_
  refine W.icmp_eq C 28 d7_19 rfl (fun bq3 => absurd bq3 x1) (fun bq3 => ?_)
  refine W.iloadN C d7_22 rfl ?_
  refine W.bipush C (125 : Int32) d7_23 rfl ?_
  refine W.icmp_ne C 44 d7_25 rfl (fun bq4 => ?_) (fun bq4 => absurd bq4 y1)
  refine W.iinc C (2 : Int32) #[.val (.ref q1), .val (.ref a1), .val (.int (2 : Int32)), .val (.int c1)] d7_44 rfl rfl rfl ?_
  refine W.goto C 2 d7_47 rfl ?_
  refine W.iloadN C d7_2 rfl ?_
  refine W.aloadN C d7_3 rfl rfl ?_
  refine W.callV C (y' := y8) d7_4 (tkw hw 41 rfl) (tkw hw 42 rfl) (tkw hw 44 rfl) (tkw hw 43 rfl) (tkw hw 8 rfl) (tkw hw 45 rfl) (by decide) E_a1 (argsL := []) (rest := [(.int (2 : Int32))]) rfl (lenOf pd_7 rfl) (con_ln_1 l Z a0 hw h0 n0 a1 d1 _ (8 : Int32) rfl (4 : Int32) (by decide) cv hcv E_a1 Fv Fc Ld S_C Z0) 1 0 0 rfl rfl rfl (by decide) (by decide) (by decide) (by decide) rfl ?_
  rintro _ _ ⟨rfl, rfl⟩
  refine W.icmp_ge C 50 d7_7 rfl (fun b => absurd b (by decide)) (fun _ => ?_)
  refine W.aloadN C d7_10 rfl rfl ?_
  refine W.iloadN C d7_11 rfl ?_
  refine W.callV C (y' := y13) d7_12 (tkw hw 63 rfl) (tkw hw 64 rfl) (tkw hw 66 rfl) (tkw hw 65 rfl) (tkw hw 8 rfl) (tkw hw 67 rfl) (by decide) E_a1 (argsL := [(.int (2 : Int32))]) (rest := []) rfl (lenOf pd_8 rfl) (con_ca_1_2 l Z a0 hw h0 n0 a1 d1 _ (8 : Int32) rfl c2 r2.1 r2.2 fm hfm cv hcv (by decide) rfl rfl E_a1 Fv Fc Ld S_C S_F S_A S_H S_L Z0) 0 0 0 rfl rfl rfl (by decide) (by decide) (by decide) (by decide) rfl ?_
  rintro _ _ ⟨rfl, rfl⟩
  refine W.istoreN C #[.val (.ref q1), .val (.ref a1), .val (.int (2 : Int32)), .val (.int c2)] d7_15 rfl ?_
  refine W.iloadN C d7_16 rfl ?_
  refine W.bipush C (123 : Int32) d7_17 rfl ?_
  refine W.icmp_eq C 28 d7_19 rfl (fun bq5 => absurd bq5 x2) (fun bq5 => ?_)
  refine W.iloadN C d7_22 rfl ?_
  refine W.bipush C (125 : Int32) d7_23 rfl ?_
  refine W.icmp_ne C 44 d7_25 rfl (fun bq6 => ?_) (fun bq6 => absurd bq6 y2)
  refine W.iinc C (3 : Int32) #[.val (.ref q1), .val (.ref a1), .val (.int (3 : Int32)), .val (.int c2)] d7_44 rfl rfl rfl ?_
  refine W.goto C 2 d7_47 rfl ?_
  refine W.iloadN C d7_2 rfl ?_
  refine W.aloadN C d7_3 rfl rfl ?_
  refine W.callV C (y' := y8) d7_4 (tkw hw 41 rfl) (tkw hw 42 rfl) (tkw hw 44 rfl) (tkw hw 43 rfl) (tkw hw 8 rfl) (tkw hw 45 rfl) (by decide) E_a1 (argsL := []) (rest := [(.int (3 : Int32))]) rfl (lenOf pd_7 rfl) (con_ln_1 l Z a0 hw h0 n0 a1 d1 _ (8 : Int32) rfl (4 : Int32) (by decide) cv hcv E_a1 Fv Fc Ld S_C Z0) 1 0 0 rfl rfl rfl (by decide) (by decide) (by decide) (by decide) rfl ?_
  rintro _ _ ⟨rfl, rfl⟩
  refine W.icmp_ge C 50 d7_7 rfl (fun b => absurd b (by decide)) (fun _ => ?_)
  refine W.aloadN C d7_10 rfl rfl ?_
  refine W.iloadN C d7_11 rfl ?_
  refine W.callV C (y' := y13) d7_12 (tkw hw 63 rfl) (tkw hw 64 rfl) (tkw hw 66 rfl) (tkw hw 65 rfl) (tkw hw 8 rfl) (tkw hw 67 rfl) (by decide) E_a1 (argsL := [(.int (3 : Int32))]) (rest := []) rfl (lenOf pd_8 rfl) (con_ca_1_3 l Z a0 hw h0 n0 a1 d1 _ (8 : Int32) rfl c3 r3.1 r3.2 fm hfm cv hcv (by decide) rfl rfl E_a1 Fv Fc Ld S_C S_F S_A S_H S_L Z0) 0 0 0 rfl rfl rfl (by decide) (by decide) (by decide) (by decide) rfl ?_
  rintro _ _ ⟨rfl, rfl⟩
  refine W.istoreN C #[.val (.ref q1), .val (.ref a1), .val (.int (3 : Int32)), .val (.int c3)] d7_15 rfl ?_
  refine W.iloadN C d7_16 rfl ?_
  refine W.bipush C (123 : Int32) d7_17 rfl ?_
  refine W.icmp_eq C 28 d7_19 rfl (fun bq7 => absurd bq7 x3) (fun bq7 => ?_)
  refine W.iloadN C d7_22 rfl ?_
  refine W.bipush C (125 : Int32) d7_23 rfl ?_
  refine W.icmp_ne C 44 d7_25 rfl (fun bq8 => ?_) (fun bq8 => absurd bq8 y3)
  refine W.iinc C (4 : Int32) #[.val (.ref q1), .val (.ref a1), .val (.int (4 : Int32)), .val (.int c3)] d7_44 rfl rfl rfl ?_
  refine W.goto C 2 d7_47 rfl ?_
  refine W.iloadN C d7_2 rfl ?_
  refine W.aloadN C d7_3 rfl rfl ?_
  refine W.callV C (y' := y8) d7_4 (tkw hw 41 rfl) (tkw hw 42 rfl) (tkw hw 44 rfl) (tkw hw 43 rfl) (tkw hw 8 rfl) (tkw hw 45 rfl) (by decide) E_a1 (argsL := []) (rest := [(.int (4 : Int32))]) rfl (lenOf pd_7 rfl) (con_ln_1 l Z a0 hw h0 n0 a1 d1 _ (8 : Int32) rfl (4 : Int32) (by decide) cv hcv E_a1 Fv Fc Ld S_C Z0) 1 0 0 rfl rfl rfl (by decide) (by decide) (by decide) (by decide) rfl ?_
  rintro _ _ ⟨rfl, rfl⟩
  refine W.icmp_ge C 50 d7_7 rfl (fun _ => ?_) (fun b => absurd b (by decide))
  exact W.retV C d7_50 (FN.ok (by decide) (by decide) ⟨rfl, rfl⟩)

theorem ef_cp_1_4 (m : MethodId) (a1 : Addr) : entryFrame m #[(.ref a1)] 1 = mkF m 0 #[.val (.ref a1)] [] := by first | (simp [entryFrame, mkF, argsToLocals, Value.category]; done) | rfl
set_option maxRecDepth 65536 in
set_option maxHeartbeats 40000000 in
theorem con_cp_1_4 (l : Launch) (Z : State) (a0 : Array Value) (hw : ∀ d ∈ tables_1, d.before a0 Z = true) (h0 : Heap) (n0 : Nat) (a1 : Addr) (d1 : Addr) (c0 c1 c2 c3 : Int32) (x0 : ¬ c0 = 123) (y0 : ¬ c0 = 125) (r0 : 0 ≤ c0.toInt ∧ c0.toInt < 65536) (x1 : ¬ c1 = 123) (y1 : ¬ c1 = 125) (r1 : 0 ≤ c1.toInt ∧ c1.toInt < 65536) (x2 : ¬ c2 = 123) (y2 : ¬ c2 = 125) (r2 : 0 ≤ c2.toInt ∧ c2.toInt < 65536) (x3 : ¬ c3 = 123) (y3 : ¬ c3 = 125) (r3 : 0 ≤ c3.toInt ∧ c3.toInt < 65536) (fm : Value) (hfm : fm.isRef = true) (cv : Int32) (hcv : ¬ cv = 0) (E_a1 : Exa Z h0 a1 "java/lang/String") (Fv : Fld Z h0 a1 "java/lang/String" "value" "[B" (.ref d1)) (Fc : Fld Z h0 a1 "java/lang/String" "coder" "B" (.int 1)) (Ld : Al Z h0 d1 .byte [(.int (((c0 >>> ((0 : Int32) &&& 31))).toInt8.toInt32)), (.int (((c0 >>> ((8 : Int32) &&& 31))).toInt8.toInt32)), (.int (((c1 >>> ((0 : Int32) &&& 31))).toInt8.toInt32)), (.int (((c1 >>> ((8 : Int32) &&& 31))).toInt8.toInt32)), (.int (((c2 >>> ((0 : Int32) &&& 31))).toInt8.toInt32)), (.int (((c2 >>> ((8 : Int32) &&& 31))).toInt8.toInt32)), (.int (((c3 >>> ((0 : Int32) &&& 31))).toInt8.toInt32)), (.int (((c3 >>> ((8 : Int32) &&& 31))).toInt8.toInt32))]) (S_C : Sta Z h0 "java/lang/String" "COMPACT_STRINGS" "Z" (.int cv)) (S_F : Sta Z h0 "jdk/internal/util/Preconditions" "SIOOBE_FORMATTER" "Ljava/util/function/BiFunction;" fm) (S_A : Sta Z h0 "java/lang/StringUTF16" "$assertionsDisabled" "Z" (.int (1 : Int32))) (S_H : Sta Z h0 "java/lang/StringUTF16" "HI_BYTE_SHIFT" "I" (.int (0 : Int32))) (S_L : Sta Z h0 "java/lang/StringUTF16" "LO_BYTE_SHIFT" "I" (.int (8 : Int32))) (Z0 : n0 ≤ h0.size) : ConW l Z y5 prog_8_method_3_code 1 none ({ frames := 6, cells := 4, slots := 72, locals := 81 } : Room) #[(.ref a1)] h0 n0 (fun vm => CHv Z own_EL vm h0) (fun v h _ => v = none ∧ Ext h0 h) := by
  refine ConW.of pf_5 (fun m => ef_cp_1_4 m a1) ?_
  intro p e s m below meth c C PV hS
  have Hc := PV
  have K0 : Keep h0 h0 [] := Keep.refl _ _
  refine W.aloadN C d5_0 rfl rfl ?_
  refine W.ldcO C hS 24 d5_1 (tkw hw 32 rfl) (own_sa hw) (own_ew hw) Hc (by decide) (by decide) 2 28 rfl rfl (by decide) (by decide) ?_
  intro lt1 hp2 vm3 Elt1 HR C hS
  replace Hc := HR.1
  replace E_a1 := E_a1.ext Elt1
  replace Fv := Fv.ext Elt1
  replace Fc := Fc.ext Elt1
  replace Ld := Ld.ext Elt1
  replace S_C := S_C.ext Elt1
  replace S_F := S_F.ext Elt1
  replace S_A := S_A.ext Elt1
  replace S_H := S_H.ext Elt1
  replace S_L := S_L.ext Elt1
  replace Z0 := Nat.le_trans Z0 Elt1.1
  replace K0 := K0.ext Elt1
  refine W.callS C (y' := y6) d5_3 (tkw hw 33 rfl) (tkw hw 34 rfl) (tkw hw 35 rfl) (tkw hw 36 rfl) (by decide) (argsL := [(.ref a1), (.ref lt1)]) (rest := []) rfl (lenOf pd_9 rfl) (con_rn l Z a0 hw hp2 n0 a1 lt1 Z0) 0 2 28 rfl rfl rfl (by decide) (by decide) (by decide) (by decide) rfl ?_
  rintro _ _ ⟨rfl, rfl⟩
  refine Jvm.OwnKit.W.pop C d5_6 rfl ?_
  refine W.ldcO C hS 40 d5_7 (tkw hw 37 rfl) (own_sa hw) (own_ew hw) Hc (by decide) (by decide) 4 72 rfl rfl (by decide) (by decide) ?_
  intro lt4 hp5 vm6 Elt4 HR C hS
  replace Hc := HR.1
  replace E_a1 := E_a1.ext Elt4
  replace Fv := Fv.ext Elt4
  replace Fc := Fc.ext Elt4
  replace Ld := Ld.ext Elt4
  replace S_C := S_C.ext Elt4
  replace S_F := S_F.ext Elt4
  replace S_A := S_A.ext Elt4
  replace S_H := S_H.ext Elt4
  replace S_L := S_L.ext Elt4
  replace Z0 := Nat.le_trans Z0 Elt4.1
  replace K0 := K0.ext Elt4
  refine W.aloadN C d5_9 rfl rfl ?_
  refine W.callS C (y' := y7) d5_10 (tkw hw 38 rfl) (tkw hw 39 rfl) (tkw hw 30 rfl) (tkw hw 40 rfl) (by decide) (argsL := [(.ref lt4), (.ref a1)]) (rest := []) rfl (lenOf pd_10 rfl) (con_rb_1_4 l Z a0 hw hp5 n0 lt4 a1 d1 c0 c1 c2 c3 x0 y0 r0 x1 y1 r1 x2 y2 r2 x3 y3 r3 fm hfm cv hcv E_a1 Fv Fc Ld S_C S_F S_A S_H S_L Z0) 0 4 72 rfl rfl rfl (by decide) (by decide) (by decide) (by decide) rfl ?_
  rintro _ _ ⟨rfl, rfl⟩
  exact W.retV C d5_13 (FW.ok hS (by decide) (by decide) (fun vm' hW' => ⟨rfl, ext0 K0⟩))

abbrev y11 : MethodName := ⟨"java/lang/StringUTF16", "compress", "([CI[BII)I"⟩
theorem d11_0 : decode jdk_52_method_21_code 0 = .ok (.iconst 0, 1) := by decide +kernel
theorem d11_1 : decode jdk_52_method_21_code 1 = .ok (.istore 5, 2) := by decide +kernel
theorem d11_3 : decode jdk_52_method_21_code 3 = .ok (.iload 5, 2) := by decide +kernel
theorem d11_5 : decode jdk_52_method_21_code 5 = .ok (.iload 4, 2) := by decide +kernel
theorem d11_7 : decode jdk_52_method_21_code 7 = .ok (.if_icmp .ge 37, 3) := by decide +kernel
theorem d11_10 : decode jdk_52_method_21_code 10 = .ok (.aload_n 0, 1) := by decide +kernel
theorem d11_11 : decode jdk_52_method_21_code 11 = .ok (.iload_n 1, 1) := by decide +kernel
theorem d11_12 : decode jdk_52_method_21_code 12 = .ok (.caload, 1) := by decide +kernel
theorem d11_13 : decode jdk_52_method_21_code 13 = .ok (.istore 6, 2) := by decide +kernel
theorem d11_15 : decode jdk_52_method_21_code 15 = .ok (.iload 6, 2) := by decide +kernel
theorem d11_17 : decode jdk_52_method_21_code 17 = .ok (.sipush 255, 3) := by decide +kernel
theorem d11_20 : decode jdk_52_method_21_code 20 = .ok (.if_icmp .le 6, 3) := by decide +kernel
theorem d11_23 : decode jdk_52_method_21_code 23 = .ok (.iload 5, 2) := by decide +kernel
theorem d11_25 : decode jdk_52_method_21_code 25 = .ok (.ireturn, 1) := by decide +kernel
theorem d11_26 : decode jdk_52_method_21_code 26 = .ok (.aload_n 2, 1) := by decide +kernel
theorem d11_27 : decode jdk_52_method_21_code 27 = .ok (.iload_n 3, 1) := by decide +kernel
theorem d11_28 : decode jdk_52_method_21_code 28 = .ok (.iload 6, 2) := by decide +kernel
theorem d11_30 : decode jdk_52_method_21_code 30 = .ok (.i2b, 1) := by decide +kernel
theorem d11_31 : decode jdk_52_method_21_code 31 = .ok (.bastore, 1) := by decide +kernel
theorem d11_32 : decode jdk_52_method_21_code 32 = .ok (.iinc 1 1, 3) := by decide +kernel
theorem d11_35 : decode jdk_52_method_21_code 35 = .ok (.iinc 3 1, 3) := by decide +kernel
theorem d11_38 : decode jdk_52_method_21_code 38 = .ok (.iinc 5 1, 3) := by decide +kernel
theorem d11_41 : decode jdk_52_method_21_code 41 = .ok (.goto (-38), 3) := by decide +kernel
theorem d11_44 : decode jdk_52_method_21_code 44 = .ok (.iload 4, 2) := by decide +kernel
theorem d11_46 : decode jdk_52_method_21_code 46 = .ok (.ireturn, 1) := by decide +kernel
theorem pf_11 : plainFor y11 = true := by first | exact plainFor_of_name (by first | (simp [plainName, overriddenIn]; done) | decide +kernel) | decide +kernel
theorem ef_c4_1 (m : MethodId) (b1 : Addr) (d1 : Addr) : entryFrame m #[(.ref b1), (.int (0 : Int32)), (.ref d1), (.int (0 : Int32)), (.int (1 : Int32))] 7 = mkF m 0 #[.val (.ref b1), .val (.int (0 : Int32)), .val (.ref d1), .val (.int (0 : Int32)), .val (.int (1 : Int32)), .unset, .unset] [] := by first | (simp [entryFrame, mkF, argsToLocals, Value.category]; done) | rfl
set_option maxRecDepth 65536 in
set_option maxHeartbeats 40000000 in
theorem con_c4_1 (l : Launch) (Z : State) (a0 : Array Value) (hw : ∀ d ∈ tables_1, d.before a0 Z = true) (h0 : Heap) (n0 : Nat) (b1 : Addr) (d1 : Addr) (c0 : Int32) (hc0 : ¬ (255 : Int32) < c0) (ne_b1_d1 : b1 ≠ d1) (g_d1 : n0 ≤ d1) (Ls : Al Z h0 b1 .char [(.int c0)]) (Ld : Al Z h0 d1 .byte [(.int (0 : Int32))]) (Z0 : n0 ≤ h0.size) : Con l Z y11 jdk_52_method_21_code 7 (some .int) ({ frames := 0, cells := 0, slots := 0, locals := 0 } : Room) #[(.ref b1), (.int (0 : Int32)), (.ref d1), (.int (0 : Int32)), (.int (1 : Int32))] h0 n0 (fun v h => v = some (.int 1) ∧ Keep h0 h [d1] ∧ Al Z h d1 .byte [(.int ((c0).toInt8.toInt32))]) := by
  refine Con.of pf_11 (fun m => ef_c4_1 m b1 d1) ?_
  intro p e s m below meth c C
  have K0 : Keep h0 h0 [d1] := Keep.refl _ _
  refine W.iconst C (0 : Int32) d11_0 rfl ?_
  refine W.istore C #[.val (.ref b1), .val (.int (0 : Int32)), .val (.ref d1), .val (.int (0 : Int32)), .val (.int (1 : Int32)), .val (.int (0 : Int32)), .unset] d11_1 rfl ?_
  refine W.iload C d11_3 rfl ?_
  refine W.iload C d11_5 rfl ?_
  refine W.icmp_ge C 44 d11_7 rfl (fun b => absurd b (by decide)) (fun _ => ?_)
  refine W.aloadN C d11_10 rfl rfl ?_
  refine W.iloadN C d11_11 rfl ?_
  refine W.caload C 0 d11_12 Ls rfl rfl ?_
  refine W.istore C #[.val (.ref b1), .val (.int (0 : Int32)), .val (.ref d1), .val (.int (0 : Int32)), .val (.int (1 : Int32)), .val (.int (0 : Int32)), .val (.int c0)] d11_13 rfl ?_
  refine W.iload C d11_15 rfl ?_
  refine W.sipush C (255 : Int32) d11_17 rfl ?_
  refine W.icmp_le C 26 d11_20 rfl (fun bq1 => ?_) (fun bq1 => absurd bq1 hc0)
  refine W.aloadN C d11_26 rfl rfl ?_
  refine W.iloadN C d11_27 rfl ?_
  refine W.iload C d11_28 rfl ?_
  refine W.i2b C d11_30 ?_
  refine W.bastoreI C 0 d11_31 Ld rfl (show (0 : Nat) < 1 by decide) g_d1 ?_
  intro hp1 U2 Ld_
  replace Ls := Ls.other U2 ne_b1_d1
  replace Z0 := Nat.le_trans Z0 (Nat.le_of_eq (U2.size).symm)
  replace K0 := K0.wr U2 (Or.inl (List.mem_of_getElem? (i := 0) rfl))
  replace Ld : Al Z hp1 d1 .byte [(.int ((c0).toInt8.toInt32))] := Ld_
  refine W.iinc C (1 : Int32) #[.val (.ref b1), .val (.int (1 : Int32)), .val (.ref d1), .val (.int (0 : Int32)), .val (.int (1 : Int32)), .val (.int (0 : Int32)), .val (.int c0)] d11_32 rfl rfl rfl ?_
  refine W.iinc C (1 : Int32) #[.val (.ref b1), .val (.int (1 : Int32)), .val (.ref d1), .val (.int (1 : Int32)), .val (.int (1 : Int32)), .val (.int (0 : Int32)), .val (.int c0)] d11_35 rfl rfl rfl ?_
  refine W.iinc C (1 : Int32) #[.val (.ref b1), .val (.int (1 : Int32)), .val (.ref d1), .val (.int (1 : Int32)), .val (.int (1 : Int32)), .val (.int (1 : Int32)), .val (.int c0)] d11_38 rfl rfl rfl ?_
  refine W.goto C 3 d11_41 rfl ?_
  refine W.iload C d11_3 rfl ?_
  refine W.iload C d11_5 rfl ?_
  refine W.icmp_ge C 44 d11_7 rfl (fun _ => ?_) (fun b => absurd b (by decide))
  refine W.iload C d11_44 rfl ?_
  exact W.iret C d11_46 (by simp) rfl (FN.ok (by decide) (by decide) ⟨rfl, K0, Ld⟩)

abbrev y10 : MethodName := ⟨"java/lang/StringUTF16", "compress", "([CII)[B"⟩
theorem d10_0 : decode jdk_52_method_16_code 0 = .ok (.iload_n 2, 1) := by decide +kernel
theorem d10_1 : decode jdk_52_method_16_code 1 = .ok (.newarray .byte, 2) := by decide +kernel
theorem d10_3 : decode jdk_52_method_16_code 3 = .ok (.astore_n 3, 1) := by decide +kernel
theorem d10_4 : decode jdk_52_method_16_code 4 = .ok (.aload_n 0, 1) := by decide +kernel
theorem d10_5 : decode jdk_52_method_16_code 5 = .ok (.iload_n 1, 1) := by decide +kernel
theorem d10_6 : decode jdk_52_method_16_code 6 = .ok (.aload_n 3, 1) := by decide +kernel
theorem d10_7 : decode jdk_52_method_16_code 7 = .ok (.iconst 0, 1) := by decide +kernel
theorem d10_8 : decode jdk_52_method_16_code 8 = .ok (.iload_n 2, 1) := by decide +kernel
theorem d10_9 : decode jdk_52_method_16_code 9 = .ok (.invokestatic 115, 3) := by decide +kernel
theorem d10_12 : decode jdk_52_method_16_code 12 = .ok (.istore 4, 2) := by decide +kernel
theorem d10_14 : decode jdk_52_method_16_code 14 = .ok (.iload 4, 2) := by decide +kernel
theorem d10_16 : decode jdk_52_method_16_code 16 = .ok (.iload_n 2, 1) := by decide +kernel
theorem d10_17 : decode jdk_52_method_16_code 17 = .ok (.if_icmp .eq 40, 3) := by decide +kernel
theorem d10_20 : decode jdk_52_method_16_code 20 = .ok (.aload_n 0, 1) := by decide +kernel
theorem d10_21 : decode jdk_52_method_16_code 21 = .ok (.iload_n 1, 1) := by decide +kernel
theorem d10_22 : decode jdk_52_method_16_code 22 = .ok (.iload_n 2, 1) := by decide +kernel
theorem d10_23 : decode jdk_52_method_16_code 23 = .ok (.invokestatic 119, 3) := by decide +kernel
theorem d10_26 : decode jdk_52_method_16_code 26 = .ok (.astore 5, 2) := by decide +kernel
theorem d10_28 : decode jdk_52_method_16_code 28 = .ok (.aload 5, 2) := by decide +kernel
theorem d10_30 : decode jdk_52_method_16_code 30 = .ok (.iload 4, 2) := by decide +kernel
theorem d10_32 : decode jdk_52_method_16_code 32 = .ok (.invokestatic 71, 3) := by decide +kernel
theorem d10_35 : decode jdk_52_method_16_code 35 = .ok (.sipush 255, 3) := by decide +kernel
theorem d10_38 : decode jdk_52_method_16_code 38 = .ok (.if_icmp .gt 16, 3) := by decide +kernel
theorem d10_41 : decode jdk_52_method_16_code 41 = .ok (.aload 5, 2) := by decide +kernel
theorem d10_43 : decode jdk_52_method_16_code 43 = .ok (.iconst 0, 1) := by decide +kernel
theorem d10_44 : decode jdk_52_method_16_code 44 = .ok (.aload_n 3, 1) := by decide +kernel
theorem d10_45 : decode jdk_52_method_16_code 45 = .ok (.iconst 0, 1) := by decide +kernel
theorem d10_46 : decode jdk_52_method_16_code 46 = .ok (.iload_n 2, 1) := by decide +kernel
theorem d10_47 : decode jdk_52_method_16_code 47 = .ok (.invokestatic 123, 3) := by decide +kernel
theorem d10_50 : decode jdk_52_method_16_code 50 = .ok (.iload_n 2, 1) := by decide +kernel
theorem d10_51 : decode jdk_52_method_16_code 51 = .ok (.if_icmp .eq 6, 3) := by decide +kernel
theorem d10_54 : decode jdk_52_method_16_code 54 = .ok (.aload 5, 2) := by decide +kernel
theorem d10_56 : decode jdk_52_method_16_code 56 = .ok (.areturn, 1) := by decide +kernel
theorem d10_57 : decode jdk_52_method_16_code 57 = .ok (.aload_n 3, 1) := by decide +kernel
theorem d10_58 : decode jdk_52_method_16_code 58 = .ok (.areturn, 1) := by decide +kernel
theorem pf_10 : plainFor y10 = true := by first | exact plainFor_of_name (by first | (simp [plainName, overriddenIn]; done) | decide +kernel) | decide +kernel
theorem ef_c3_1 (m : MethodId) (b1 : Addr) : entryFrame m #[(.ref b1), (.int (0 : Int32)), (.int (1 : Int32))] 6 = mkF m 0 #[.val (.ref b1), .val (.int (0 : Int32)), .val (.int (1 : Int32)), .unset, .unset, .unset] [] := by first | (simp [entryFrame, mkF, argsToLocals, Value.category]; done) | rfl
theorem pd_11 : parseMethodDescriptor "([CI[BII)I" = some ⟨[(.array .char), .int, (.array .byte), .int, .int], some .int⟩ := by decide +kernel
theorem pd_12 : parseMethodDescriptor "([CII)[B" = some ⟨[(.array .char), .int, .int], some (.array .byte)⟩ := by decide +kernel
set_option maxRecDepth 65536 in
set_option maxHeartbeats 40000000 in
theorem con_c3_1 (l : Launch) (Z : State) (a0 : Array Value) (hw : ∀ d ∈ tables_1, d.before a0 Z = true) (h0 : Heap) (n0 : Nat) (b1 : Addr) (c0 : Int32) (hc0 : ¬ (255 : Int32) < c0) (Ls : Al Z h0 b1 .char [(.int c0)]) (Z0 : n0 ≤ h0.size) : Con l Z y10 jdk_52_method_16_code 6 (some (.array .byte)) ({ frames := 1, cells := 1, slots := 1, locals := 18 } : Room) #[(.ref b1), (.int (0 : Int32)), (.int (1 : Int32))] h0 n0 (fun v h => ∃ d, v = some (.ref d) ∧ Keep h0 h [] ∧ Al Z h d .byte [(.int ((c0).toInt8.toInt32))] ∧ h0.size ≤ d) := by
  refine Con.of pf_10 (fun m => ef_c3_1 m b1) ?_
  intro p e s m below meth c C
  have K0 : Keep h0 h0 [] := Keep.refl _ _
  refine W.iloadN C d10_0 rfl ?_
  refine W.newP C 1 1 d10_1 (tkw hw 21 rfl) rfl (Nat.le_refl _) (by decide) 1 1 rfl rfl (by decide) (by decide) ?_
  intro ob1 hp2 hob1 Eob1 Lob1
  have ne_b1_ob1 : b1 ≠ ob1 := Nat.ne_of_lt (by rw [hob1]; exact Ls.lt)
  have ge_ob1 : n0 ≤ ob1 := by rw [hob1]; exact Z0
  have sz_ob1 : h0.size ≤ ob1 := by rw [hob1]; exact K0.1
  replace Ls := Ls.ext Eob1
  replace Z0 := Nat.le_trans Z0 Eob1.1
  replace K0 := K0.ext Eob1
  replace Lob1 : Al Z hp2 ob1 .byte [(.int (0 : Int32))] := Lob1
  refine W.astoreN C #[.val (.ref b1), .val (.int (0 : Int32)), .val (.int (1 : Int32)), .val (.ref ob1), .unset, .unset] d10_3 rfl rfl ?_
  refine W.aloadN C d10_4 rfl rfl ?_
  refine W.iloadN C d10_5 rfl ?_
  refine W.aloadN C d10_6 rfl rfl ?_
  refine W.iconst C (0 : Int32) d10_7 rfl ?_
  refine W.iloadN C d10_8 rfl ?_
  refine W.callS C (y' := y11) d10_9 (tkw hw 57 rfl) (tkw hw 58 rfl) (tkw hw 55 rfl) (tkw hw 59 rfl) (by decide) (argsL := [(.ref b1), (.int (0 : Int32)), (.ref ob1), (.int (0 : Int32)), (.int (1 : Int32))]) (rest := []) rfl (lenOf pd_11 rfl) (con_c4_1 l Z a0 hw hp2 n0 b1 ob1 c0 hc0 ne_b1_ob1 ge_ob1 Ls Lob1 Z0) 0 1 1 rfl rfl rfl (by decide) (by decide) (by decide) (by decide) rfl ?_
  rintro _ hp3 ⟨rfl, Kc, L_⟩
  replace Ls := Ls.keep Kc (ninS ne_b1_ob1 nin0)
  replace Z0 := Nat.le_trans Z0 Kc.1
  replace K0 := K0.trans Kc (allS (Or.inr sz_ob1) all0)
  replace Lob1 := L_
  refine W.istore C #[.val (.ref b1), .val (.int (0 : Int32)), .val (.int (1 : Int32)), .val (.ref ob1), .val (.int (1 : Int32)), .unset] d10_12 rfl ?_
  refine W.iload C d10_14 rfl ?_
  refine W.iloadN C d10_16 rfl ?_
  refine W.icmp_eq C 57 d10_17 rfl (fun _ => ?_) (fun b => absurd b (by decide))
  refine W.aloadN C d10_57 rfl rfl ?_
  exact W.aret C d10_58 rfl rfl rfl (FN.ok (by decide) (by decide) ⟨ob1, rfl, K0, Lob1, sz_ob1⟩)

abbrev y12 : MethodName := ⟨"java/lang/StringUTF16", "coderFromArrayLen", "([BI)B"⟩
theorem d12_0 : decode jdk_52_method_15_code 0 = .ok (.iload_n 1, 1) := by decide +kernel
theorem d12_1 : decode jdk_52_method_15_code 1 = .ok (.aload_n 0, 1) := by decide +kernel
theorem d12_2 : decode jdk_52_method_15_code 2 = .ok (.arraylength, 1) := by decide +kernel
theorem d12_3 : decode jdk_52_method_15_code 3 = .ok (.isub, 1) := by decide +kernel
theorem d12_4 : decode jdk_52_method_15_code 4 = .ok (.bipush 31, 2) := by decide +kernel
theorem d12_6 : decode jdk_52_method_15_code 6 = .ok (.iushr, 1) := by decide +kernel
theorem d12_7 : decode jdk_52_method_15_code 7 = .ok (.i2b, 1) := by decide +kernel
theorem d12_8 : decode jdk_52_method_15_code 8 = .ok (.ireturn, 1) := by decide +kernel
theorem pf_12 : plainFor y12 = true := by first | exact plainFor_of_name (by first | (simp [plainName, overriddenIn]; done) | decide +kernel) | decide +kernel
theorem ef_co_1 (m : MethodId) (d1 : Addr) : entryFrame m #[(.ref d1), (.int (1 : Int32))] 2 = mkF m 0 #[.val (.ref d1), .val (.int (1 : Int32))] [] := by first | (simp [entryFrame, mkF, argsToLocals, Value.category]; done) | rfl
set_option maxRecDepth 65536 in
set_option maxHeartbeats 40000000 in
theorem con_co_1 (l : Launch) (Z : State) (a0 : Array Value) (hw : ∀ d ∈ tables_1, d.before a0 Z = true) (h0 : Heap) (n0 : Nat) (d1 : Addr) (c0 : Int32) (Ld : Al Z h0 d1 .byte [(.int ((c0).toInt8.toInt32))]) (Z0 : n0 ≤ h0.size) : Con l Z y12 jdk_52_method_15_code 2 (some .byte) ({ frames := 0, cells := 0, slots := 0, locals := 0 } : Room) #[(.ref d1), (.int (1 : Int32))] h0 n0 (Pu (some (.int 0)) h0) := by
  refine Con.of pf_12 (fun m => ef_co_1 m d1) ?_
  intro p e s m below meth c C
  refine W.iloadN C d12_0 rfl ?_
  refine W.aloadN C d12_1 rfl rfl ?_
  refine W.arrlen C (1 : Int32) d12_2 Ld rfl ?_
  refine W.isubV C (0 : Int32) d12_3 (by decide) ?_
  refine W.bipush C (31 : Int32) d12_4 rfl ?_
  refine W.iushrV C (0 : Int32) d12_6 (by decide) ?_
  refine W.i2bV C (0 : Int32) d12_7 (by decide) ?_
  exact W.iret C d12_8 (by simp) rfl (FN.ok (by decide) (by decide) ⟨rfl, rfl⟩)

abbrev y3 : MethodName := ⟨"java/lang/String", "<init>", "([CIILjava/lang/Void;)V"⟩
theorem d3_0 : decode jdk_42_method_149_code 0 = .ok (.aload_n 0, 1) := by decide +kernel
theorem d3_1 : decode jdk_42_method_149_code 1 = .ok (.invokespecial 1, 3) := by decide +kernel
theorem d3_4 : decode jdk_42_method_149_code 4 = .ok (.iload_n 3, 1) := by decide +kernel
theorem d3_5 : decode jdk_42_method_149_code 5 = .ok (.ifCond .ne 22, 3) := by decide +kernel
theorem d3_8 : decode jdk_42_method_149_code 8 = .ok (.aload_n 0, 1) := by decide +kernel
theorem d3_9 : decode jdk_42_method_149_code 9 = .ok (.ldc 7, 2) := by decide +kernel
theorem d3_11 : decode jdk_42_method_149_code 11 = .ok (.getfield 9, 3) := by decide +kernel
theorem d3_14 : decode jdk_42_method_149_code 14 = .ok (.putfield 9, 3) := by decide +kernel
theorem d3_17 : decode jdk_42_method_149_code 17 = .ok (.aload_n 0, 1) := by decide +kernel
theorem d3_18 : decode jdk_42_method_149_code 18 = .ok (.ldc 7, 2) := by decide +kernel
theorem d3_20 : decode jdk_42_method_149_code 20 = .ok (.getfield 15, 3) := by decide +kernel
theorem d3_23 : decode jdk_42_method_149_code 23 = .ok (.putfield 15, 3) := by decide +kernel
theorem d3_26 : decode jdk_42_method_149_code 26 = .ok (.return_, 1) := by decide +kernel
theorem d3_27 : decode jdk_42_method_149_code 27 = .ok (.getstatic 38, 3) := by decide +kernel
theorem d3_30 : decode jdk_42_method_149_code 30 = .ok (.ifCond .eq 28, 3) := by decide +kernel
theorem d3_33 : decode jdk_42_method_149_code 33 = .ok (.aload_n 1, 1) := by decide +kernel
theorem d3_34 : decode jdk_42_method_149_code 34 = .ok (.iload_n 2, 1) := by decide +kernel
theorem d3_35 : decode jdk_42_method_149_code 35 = .ok (.iload_n 3, 1) := by decide +kernel
theorem d3_36 : decode jdk_42_method_149_code 36 = .ok (.invokestatic 177, 3) := by decide +kernel
theorem d3_39 : decode jdk_42_method_149_code 39 = .ok (.astore 5, 2) := by decide +kernel
theorem d3_41 : decode jdk_42_method_149_code 41 = .ok (.aload_n 0, 1) := by decide +kernel
theorem d3_42 : decode jdk_42_method_149_code 42 = .ok (.aload 5, 2) := by decide +kernel
theorem d3_44 : decode jdk_42_method_149_code 44 = .ok (.iload_n 3, 1) := by decide +kernel
theorem d3_45 : decode jdk_42_method_149_code 45 = .ok (.invokestatic 47, 3) := by decide +kernel
theorem d3_48 : decode jdk_42_method_149_code 48 = .ok (.putfield 15, 3) := by decide +kernel
theorem d3_51 : decode jdk_42_method_149_code 51 = .ok (.aload_n 0, 1) := by decide +kernel
theorem d3_52 : decode jdk_42_method_149_code 52 = .ok (.aload 5, 2) := by decide +kernel
theorem d3_54 : decode jdk_42_method_149_code 54 = .ok (.putfield 9, 3) := by decide +kernel
theorem d3_57 : decode jdk_42_method_149_code 57 = .ok (.return_, 1) := by decide +kernel
theorem d3_58 : decode jdk_42_method_149_code 58 = .ok (.aload_n 0, 1) := by decide +kernel
theorem d3_59 : decode jdk_42_method_149_code 59 = .ok (.iconst 1, 1) := by decide +kernel
theorem d3_60 : decode jdk_42_method_149_code 60 = .ok (.putfield 15, 3) := by decide +kernel
theorem d3_63 : decode jdk_42_method_149_code 63 = .ok (.aload_n 0, 1) := by decide +kernel
theorem d3_64 : decode jdk_42_method_149_code 64 = .ok (.aload_n 1, 1) := by decide +kernel
theorem d3_65 : decode jdk_42_method_149_code 65 = .ok (.iload_n 2, 1) := by decide +kernel
theorem d3_66 : decode jdk_42_method_149_code 66 = .ok (.iload_n 3, 1) := by decide +kernel
theorem d3_67 : decode jdk_42_method_149_code 67 = .ok (.invokestatic 180, 3) := by decide +kernel
theorem d3_70 : decode jdk_42_method_149_code 70 = .ok (.putfield 9, 3) := by decide +kernel
theorem d3_73 : decode jdk_42_method_149_code 73 = .ok (.return_, 1) := by decide +kernel
theorem pf_3 : plainFor y3 = true := by first | exact plainFor_of_name (by first | (simp [plainName, overriddenIn]; done) | decide +kernel) | decide +kernel
theorem ef_i4_1 (m : MethodId) (a1 : Addr) (b1 : Addr) : entryFrame m #[(.ref a1), (.ref b1), (.int (0 : Int32)), (.int (1 : Int32)), .null] 6 = mkF m 0 #[.val (.ref a1), .val (.ref b1), .val (.int (0 : Int32)), .val (.int (1 : Int32)), .val .null, .unset] [] := by first | (simp [entryFrame, mkF, argsToLocals, Value.category]; done) | rfl
theorem pd_13 : parseMethodDescriptor "()V" = some ⟨[], none⟩ := by decide +kernel
theorem pd_14 : parseMethodDescriptor "([BI)B" = some ⟨[(.array .byte), .int], some .byte⟩ := by decide +kernel
set_option maxRecDepth 65536 in
set_option maxHeartbeats 40000000 in
theorem con_i4_1 (l : Launch) (Z : State) (a0 : Array Value) (hw : ∀ d ∈ tables_1, d.before a0 Z = true) (h0 : Heap) (n0 : Nat) (a1 : Addr) (b1 : Addr) (c0 : Int32) (hc0 : ¬ (255 : Int32) < c0) (u0 u1 : Value) (cv : Int32) (ne_a1_b1 : a1 ≠ b1) (g_a1 : n0 ≤ a1) (E_a1 : Exa Z h0 a1 "java/lang/String") (Fv : Fld Z h0 a1 "java/lang/String" "value" "[B" u0) (Fc : Fld Z h0 a1 "java/lang/String" "coder" "B" u1) (Ls : Al Z h0 b1 .char [(.int c0)]) (S_C : Sta Z h0 "java/lang/String" "COMPACT_STRINGS" "Z" (.int cv)) (hcv : ¬ cv = 0) (Z0 : n0 ≤ h0.size) : Con l Z y3 jdk_42_method_149_code 6 none ({ frames := 2, cells := 1, slots := 1, locals := 35 } : Room) #[(.ref a1), (.ref b1), (.int (0 : Int32)), (.int (1 : Int32)), .null] h0 n0 (fun v h => v = none ∧ Keep h0 h [a1] ∧ Exa Z h a1 "java/lang/String" ∧ ∃ d, Fld Z h a1 "java/lang/String" "value" "[B" (.ref d) ∧ Fld Z h a1 "java/lang/String" "coder" "B" (.int 0) ∧ Al Z h d .byte [(.int ((c0).toInt8.toInt32))]) := by
  refine Con.of pf_3 (fun m => ef_i4_1 m a1 b1) ?_
  intro p e s m below meth c C
  have K0 : Keep h0 h0 [a1] := Keep.refl _ _
  refine W.aloadN C d3_0 rfl rfl ?_
  refine W.initO C d3_1 (tkw hw 17 rfl) (tkw hw 18 rfl) (tkw hw 19 rfl) 0 rfl (by decide) (by decide) rfl ?_
  refine W.iloadN C d3_4 rfl ?_
  refine W.if_ne C 27 d3_5 rfl (fun _ => ?_) (fun b => absurd b (by decide))
  refine W.getS C d3_27 (tkw hw 51 rfl) Via.refl S_C ?_
  refine W.if_eq C 58 d3_30 rfl (fun bq1 => absurd bq1 hcv) (fun bq1 => ?_)
  refine W.aloadN C d3_33 rfl rfl ?_
  refine W.iloadN C d3_34 rfl ?_
  refine W.iloadN C d3_35 rfl ?_
  refine W.callS C (y' := y10) d3_36 (tkw hw 53 rfl) (tkw hw 54 rfl) (tkw hw 55 rfl) (tkw hw 56 rfl) (by decide) (argsL := [(.ref b1), (.int (0 : Int32)), (.int (1 : Int32))]) (rest := []) rfl (lenOf pd_12 rfl) (con_c3_1 l Z a0 hw h0 n0 b1 c0 hc0 Ls Z0) 0 1 1 rfl rfl rfl (by decide) (by decide) (by decide) (by decide) rfl ?_
  rintro _ hp2 ⟨d1, rfl, Kc, Ld1, sz⟩
  have ne_a1_d1 : a1 ≠ d1 := Nat.ne_of_lt (Nat.lt_of_lt_of_le E_a1.lt sz)
  replace E_a1 := E_a1.ext (ext0 Kc)
  replace Fv := Fv.ext (ext0 Kc)
  replace Fc := Fc.ext (ext0 Kc)
  replace Ls := Ls.ext (ext0 Kc)
  replace S_C := S_C.ext (ext0 Kc)
  replace Z0 := Nat.le_trans Z0 (ext0 Kc).1
  replace K0 := K0.ext (ext0 Kc)
  refine W.astore C #[.val (.ref a1), .val (.ref b1), .val (.int (0 : Int32)), .val (.int (1 : Int32)), .val .null, .val (.ref d1)] d3_39 rfl rfl ?_
  refine W.aloadN C d3_41 rfl rfl ?_
  refine W.aload C d3_42 rfl rfl ?_
  refine W.iloadN C d3_44 rfl ?_
  refine W.callS C (y' := y12) d3_45 (tkw hw 60 rfl) (tkw hw 61 rfl) (tkw hw 55 rfl) (tkw hw 62 rfl) (by decide) (argsL := [(.ref d1), (.int (1 : Int32))]) (rest := [(.ref a1)]) rfl (lenOf pd_14 rfl) (con_co_1 l Z a0 hw hp2 n0 d1 c0 Ld1 Z0) 1 1 1 rfl rfl rfl (by decide) (by decide) (by decide) (by decide) rfl ?_
  rintro _ _ ⟨rfl, rfl⟩
  refine W.putF C d3_48 (tkw hw 27 rfl) Via.refl Fc E_a1 (Or.inr ⟨(tkw hw 23 rfl), rfl, rfl⟩) (tkw hw 7 rfl) (ty := .byte) (by decide) rfl rfl g_a1 ?_
  intro hp3 U4
  replace Fc := Fc.same U4
  replace E_a1 := E_a1.wr U4
  replace Fv := Fv.other U4 (Or.inr (slot_ne (Or.inr (tkw hw 22 rfl)) (Or.inr (tkw hw 23 rfl)) (by decide) (t := (.array .byte)) (t' := .byte) (by decide) (by decide)))
  replace Ls := Ls.other U4 (Ne.symm ne_a1_b1)
  replace S_C := S_C.wr U4
  replace Z0 := Nat.le_trans Z0 (Nat.le_of_eq (U4.size).symm)
  replace K0 := K0.wr U4 (Or.inl (List.mem_of_getElem? (i := 0) rfl))
  replace Ld1 := Ld1.other U4 (Ne.symm ne_a1_d1)
  refine W.aloadN C d3_51 rfl rfl ?_
  refine W.aload C d3_52 rfl rfl ?_
  refine W.putF C d3_54 (tkw hw 26 rfl) Via.refl Fv E_a1 (Or.inr ⟨(tkw hw 22 rfl), rfl, rfl⟩) (tkw hw 7 rfl) (ty := (.array .byte)) (by decide) rfl rfl g_a1 ?_
  intro hp5 U6
  replace Fv := Fv.same U6
  replace E_a1 := E_a1.wr U6
  replace Fc := Fc.other U6 (Or.inr (slot_ne (Or.inr (tkw hw 23 rfl)) (Or.inr (tkw hw 22 rfl)) (by decide) (t := .byte) (t' := (.array .byte)) (by decide) (by decide)))
  replace Ls := Ls.other U6 (Ne.symm ne_a1_b1)
  replace S_C := S_C.wr U6
  replace Z0 := Nat.le_trans Z0 (Nat.le_of_eq (U6.size).symm)
  replace K0 := K0.wr U6 (Or.inl (List.mem_of_getElem? (i := 0) rfl))
  replace Ld1 := Ld1.other U6 (Ne.symm ne_a1_d1)
  exact W.retV C d3_57 (FN.ok (by decide) (by decide) ⟨rfl, K0, E_a1, d1, Fv, Fc, Ld1⟩)

abbrev y2 : MethodName := ⟨"java/lang/String", "<init>", "([C)V"⟩
theorem d2_0 : decode jdk_42_method_3_code 0 = .ok (.aload_n 0, 1) := by decide +kernel
theorem d2_1 : decode jdk_42_method_3_code 1 = .ok (.aload_n 1, 1) := by decide +kernel
theorem d2_2 : decode jdk_42_method_3_code 2 = .ok (.iconst 0, 1) := by decide +kernel
theorem d2_3 : decode jdk_42_method_3_code 3 = .ok (.aload_n 1, 1) := by decide +kernel
theorem d2_4 : decode jdk_42_method_3_code 4 = .ok (.arraylength, 1) := by decide +kernel
theorem d2_5 : decode jdk_42_method_3_code 5 = .ok (.aconst_null, 1) := by decide +kernel
theorem d2_6 : decode jdk_42_method_3_code 6 = .ok (.invokespecial 27, 3) := by decide +kernel
theorem d2_9 : decode jdk_42_method_3_code 9 = .ok (.return_, 1) := by decide +kernel
theorem pf_2 : plainFor y2 = true := by first | exact plainFor_of_name (by first | (simp [plainName, overriddenIn]; done) | decide +kernel) | decide +kernel
theorem ef_i1_1 (m : MethodId) (a1 : Addr) (b1 : Addr) : entryFrame m #[(.ref a1), (.ref b1)] 2 = mkF m 0 #[.val (.ref a1), .val (.ref b1)] [] := by first | (simp [entryFrame, mkF, argsToLocals, Value.category]; done) | rfl
theorem pd_15 : parseMethodDescriptor "([CIILjava/lang/Void;)V" = some ⟨[(.array .char), .int, .int, (.object "java/lang/Void")], none⟩ := by decide +kernel
set_option maxRecDepth 65536 in
set_option maxHeartbeats 40000000 in
theorem con_i1_1 (l : Launch) (Z : State) (a0 : Array Value) (hw : ∀ d ∈ tables_1, d.before a0 Z = true) (h0 : Heap) (n0 : Nat) (a1 : Addr) (b1 : Addr) (c0 : Int32) (hc0 : ¬ (255 : Int32) < c0) (u0 u1 : Value) (cv : Int32) (ne_a1_b1 : a1 ≠ b1) (g_a1 : n0 ≤ a1) (E_a1 : Exa Z h0 a1 "java/lang/String") (Fv : Fld Z h0 a1 "java/lang/String" "value" "[B" u0) (Fc : Fld Z h0 a1 "java/lang/String" "coder" "B" u1) (Ls : Al Z h0 b1 .char [(.int c0)]) (S_C : Sta Z h0 "java/lang/String" "COMPACT_STRINGS" "Z" (.int cv)) (hcv : ¬ cv = 0) (Z0 : n0 ≤ h0.size) : Con l Z y2 jdk_42_method_3_code 2 none ({ frames := 3, cells := 1, slots := 1, locals := 52 } : Room) #[(.ref a1), (.ref b1)] h0 n0 (fun v h => v = none ∧ Keep h0 h [a1] ∧ Exa Z h a1 "java/lang/String" ∧ ∃ d, Fld Z h a1 "java/lang/String" "value" "[B" (.ref d) ∧ Fld Z h a1 "java/lang/String" "coder" "B" (.int 0) ∧ Al Z h d .byte [(.int ((c0).toInt8.toInt32))]) := by
  refine Con.of pf_2 (fun m => ef_i1_1 m a1 b1) ?_
  intro p e s m below meth c C
  have K0 : Keep h0 h0 [a1] := Keep.refl _ _
  refine W.aloadN C d2_0 rfl rfl ?_
  refine W.aloadN C d2_1 rfl rfl ?_
  refine W.iconst C (0 : Int32) d2_2 rfl ?_
  refine W.aloadN C d2_3 rfl rfl ?_
  refine W.arrlen C (1 : Int32) d2_4 Ls rfl ?_
  refine W.aconstNull C d2_5 ?_
  refine W.callI C (y' := y3) d2_6 rfl (tkw hw 13 rfl) (tkw hw 14 rfl) (tkw hw 8 rfl) (tkw hw 16 rfl) (by decide) (a := a1) (argsL := [(.ref b1), (.int (0 : Int32)), (.int (1 : Int32)), .null]) (rest := []) rfl (lenOf pd_15 rfl) (con_i4_1 l Z a0 hw h0 n0 a1 b1 c0 hc0 u0 u1 cv ne_a1_b1 g_a1 E_a1 Fv Fc Ls S_C hcv Z0) 0 1 1 rfl rfl rfl (by decide) (by decide) (by decide) (by decide) rfl ?_
  rintro _ hp1 ⟨rfl, Kc, E_n, d, Fv_n, Fc_n, Ld⟩
  replace Ls := Ls.keep Kc (ninS (Ne.symm ne_a1_b1) nin0)
  replace Z0 := Nat.le_trans Z0 Kc.1
  replace K0 := K0.trans Kc (allS (Or.inl (List.mem_of_getElem? (i := 0) rfl)) all0)
  replace E_a1 := E_n
  replace Fv := Fv_n
  replace Fc := Fc_n
  exact W.retV C d2_9 (FN.ok (by decide) (by decide) ⟨rfl, K0, E_a1, d, Fv, Fc, Ld⟩)

theorem ef_c4_2 (m : MethodId) (b1 : Addr) (d1 : Addr) : entryFrame m #[(.ref b1), (.int (0 : Int32)), (.ref d1), (.int (0 : Int32)), (.int (2 : Int32))] 7 = mkF m 0 #[.val (.ref b1), .val (.int (0 : Int32)), .val (.ref d1), .val (.int (0 : Int32)), .val (.int (2 : Int32)), .unset, .unset] [] := by first | (simp [entryFrame, mkF, argsToLocals, Value.category]; done) | rfl
set_option maxRecDepth 65536 in
set_option maxHeartbeats 40000000 in
theorem con_c4_2 (l : Launch) (Z : State) (a0 : Array Value) (hw : ∀ d ∈ tables_1, d.before a0 Z = true) (h0 : Heap) (n0 : Nat) (b1 : Addr) (d1 : Addr) (c0 c1 : Int32) (hc0 : ¬ (255 : Int32) < c0) (hc1 : ¬ (255 : Int32) < c1) (ne_b1_d1 : b1 ≠ d1) (g_d1 : n0 ≤ d1) (Ls : Al Z h0 b1 .char [(.int c0), (.int c1)]) (Ld : Al Z h0 d1 .byte [(.int (0 : Int32)), (.int (0 : Int32))]) (Z0 : n0 ≤ h0.size) : Con l Z y11 jdk_52_method_21_code 7 (some .int) ({ frames := 0, cells := 0, slots := 0, locals := 0 } : Room) #[(.ref b1), (.int (0 : Int32)), (.ref d1), (.int (0 : Int32)), (.int (2 : Int32))] h0 n0 (fun v h => v = some (.int 2) ∧ Keep h0 h [d1] ∧ Al Z h d1 .byte [(.int ((c0).toInt8.toInt32)), (.int ((c1).toInt8.toInt32))]) := by
  refine Con.of pf_11 (fun m => ef_c4_2 m b1 d1) ?_
  intro p e s m below meth c C
  have K0 : Keep h0 h0 [d1] := Keep.refl _ _
  refine W.iconst C (0 : Int32) d11_0 rfl ?_
  refine W.istore C #[.val (.ref b1), .val (.int (0 : Int32)), .val (.ref d1), .val (.int (0 : Int32)), .val (.int (2 : Int32)), .val (.int (0 : Int32)), .unset] d11_1 rfl ?_
  refine W.iload C d11_3 rfl ?_
  refine W.iload C d11_5 rfl ?_
  refine W.icmp_ge C 44 d11_7 rfl (fun b => absurd b (by decide)) (fun _ => ?_)
  refine W.aloadN C d11_10 rfl rfl ?_
  refine W.iloadN C d11_11 rfl ?_
  refine W.caload C 0 d11_12 Ls rfl rfl ?_
  refine W.istore C #[.val (.ref b1), .val (.int (0 : Int32)), .val (.ref d1), .val (.int (0 : Int32)), .val (.int (2 : Int32)), .val (.int (0 : Int32)), .val (.int c0)] d11_13 rfl ?_
  refine W.iload C d11_15 rfl ?_
  refine W.sipush C (255 : Int32) d11_17 rfl ?_
  refine W.icmp_le C 26 d11_20 rfl (fun bq1 => ?_) (fun bq1 => absurd bq1 hc0)
  refine W.aloadN C d11_26 rfl rfl ?_
  refine W.iloadN C d11_27 rfl ?_
  refine W.iload C d11_28 rfl ?_
  refine W.i2b C d11_30 ?_
  refine W.bastoreI C 0 d11_31 Ld rfl (show (0 : Nat) < 2 by decide) g_d1 ?_
  intro hp1 U2 Ld_
  replace Ls := Ls.other U2 ne_b1_d1
  replace Z0 := Nat.le_trans Z0 (Nat.le_of_eq (U2.size).symm)
  replace K0 := K0.wr U2 (Or.inl (List.mem_of_getElem? (i := 0) rfl))
  replace Ld : Al Z hp1 d1 .byte [(.int ((c0).toInt8.toInt32)), (.int (0 : Int32))] := Ld_
  refine W.iinc C (1 : Int32) #[.val (.ref b1), .val (.int (1 : Int32)), .val (.ref d1), .val (.int (0 : Int32)), .val (.int (2 : Int32)), .val (.int (0 : Int32)), .val (.int c0)] d11_32 rfl rfl rfl ?_
  refine W.iinc C (1 : Int32) #[.val (.ref b1), .val (.int (1 : Int32)), .val (.ref d1), .val (.int (1 : Int32)), .val (.int (2 : Int32)), .val (.int (0 : Int32)), .val (.int c0)] d11_35 rfl rfl rfl ?_
  refine W.iinc C (1 : Int32) #[.val (.ref b1), .val (.int (1 : Int32)), .val (.ref d1), .val (.int (1 : Int32)), .val (.int (2 : Int32)), .val (.int (1 : Int32)), .val (.int c0)] d11_38 rfl rfl rfl ?_
  refine W.goto C 3 d11_41 rfl ?_
  refine W.iload C d11_3 rfl ?_
  refine W.iload C d11_5 rfl ?_
  refine W.icmp_ge C 44 d11_7 rfl (fun b => absurd b (by decide)) (fun _ => ?_)
  refine W.aloadN C d11_10 rfl rfl ?_
  refine W.iloadN C d11_11 rfl ?_
  refine W.caload C 1 d11_12 Ls rfl rfl ?_
  refine W.istore C #[.val (.ref b1), .val (.int (1 : Int32)), .val (.ref d1), .val (.int (1 : Int32)), .val (.int (2 : Int32)), .val (.int (1 : Int32)), .val (.int c1)] d11_13 rfl ?_
  refine W.iload C d11_15 rfl ?_
  refine W.sipush C (255 : Int32) d11_17 rfl ?_
  refine W.icmp_le C 26 d11_20 rfl (fun bq2 => ?_) (fun bq2 => absurd bq2 hc1)
  refine W.aloadN C d11_26 rfl rfl ?_
  refine W.iloadN C d11_27 rfl ?_
  refine W.iload C d11_28 rfl ?_
  refine W.i2b C d11_30 ?_
  refine W.bastoreI C 1 d11_31 Ld rfl (show (1 : Nat) < 2 by decide) g_d1 ?_
  intro hp3 U4 Ld_
  replace Ls := Ls.other U4 ne_b1_d1
  replace Z0 := Nat.le_trans Z0 (Nat.le_of_eq (U4.size).symm)
  replace K0 := K0.wr U4 (Or.inl (List.mem_of_getElem? (i := 0) rfl))
  replace Ld : Al Z hp3 d1 .byte [(.int ((c0).toInt8.toInt32)), (.int ((c1).toInt8.toInt32))] := Ld_
  refine W.iinc C (2 : Int32) #[.val (.ref b1), .val (.int (2 : Int32)), .val (.ref d1), .val (.int (1 : Int32)), .val (.int (2 : Int32)), .val (.int (1 : Int32)), .val (.int c1)] d11_32 rfl rfl rfl ?_
  refine W.iinc C (2 : Int32) #[.val (.ref b1), .val (.int (2 : Int32)), .val (.ref d1), .val (.int (2 : Int32)), .val (.int (2 : Int32)), .val (.int (1 : Int32)), .val (.int c1)] d11_35 rfl rfl rfl ?_
  refine W.iinc C (2 : Int32) #[.val (.ref b1), .val (.int (2 : Int32)), .val (.ref d1), .val (.int (2 : Int32)), .val (.int (2 : Int32)), .val (.int (2 : Int32)), .val (.int c1)] d11_38 rfl rfl rfl ?_
  refine W.goto C 3 d11_41 rfl ?_
  refine W.iload C d11_3 rfl ?_
  refine W.iload C d11_5 rfl ?_
  refine W.icmp_ge C 44 d11_7 rfl (fun _ => ?_) (fun b => absurd b (by decide))
  refine W.iload C d11_44 rfl ?_
  exact W.iret C d11_46 (by simp) rfl (FN.ok (by decide) (by decide) ⟨rfl, K0, Ld⟩)

theorem ef_c3_2 (m : MethodId) (b1 : Addr) : entryFrame m #[(.ref b1), (.int (0 : Int32)), (.int (2 : Int32))] 6 = mkF m 0 #[.val (.ref b1), .val (.int (0 : Int32)), .val (.int (2 : Int32)), .unset, .unset, .unset] [] := by first | (simp [entryFrame, mkF, argsToLocals, Value.category]; done) | rfl
set_option maxRecDepth 65536 in
set_option maxHeartbeats 40000000 in
theorem con_c3_2 (l : Launch) (Z : State) (a0 : Array Value) (hw : ∀ d ∈ tables_1, d.before a0 Z = true) (h0 : Heap) (n0 : Nat) (b1 : Addr) (c0 c1 : Int32) (hc0 : ¬ (255 : Int32) < c0) (hc1 : ¬ (255 : Int32) < c1) (Ls : Al Z h0 b1 .char [(.int c0), (.int c1)]) (Z0 : n0 ≤ h0.size) : Con l Z y10 jdk_52_method_16_code 6 (some (.array .byte)) ({ frames := 1, cells := 1, slots := 2, locals := 18 } : Room) #[(.ref b1), (.int (0 : Int32)), (.int (2 : Int32))] h0 n0 (fun v h => ∃ d, v = some (.ref d) ∧ Keep h0 h [] ∧ Al Z h d .byte [(.int ((c0).toInt8.toInt32)), (.int ((c1).toInt8.toInt32))] ∧ h0.size ≤ d) := by
  refine Con.of pf_10 (fun m => ef_c3_2 m b1) ?_
  intro p e s m below meth c C
  have K0 : Keep h0 h0 [] := Keep.refl _ _
  refine W.iloadN C d10_0 rfl ?_
  refine W.newP C 2 2 d10_1 (tkw hw 21 rfl) rfl (Nat.le_refl _) (by decide) 1 2 rfl rfl (by decide) (by decide) ?_
  intro ob1 hp2 hob1 Eob1 Lob1
  have ne_b1_ob1 : b1 ≠ ob1 := Nat.ne_of_lt (by rw [hob1]; exact Ls.lt)
  have ge_ob1 : n0 ≤ ob1 := by rw [hob1]; exact Z0
  have sz_ob1 : h0.size ≤ ob1 := by rw [hob1]; exact K0.1
  replace Ls := Ls.ext Eob1
  replace Z0 := Nat.le_trans Z0 Eob1.1
  replace K0 := K0.ext Eob1
  replace Lob1 : Al Z hp2 ob1 .byte [(.int (0 : Int32)), (.int (0 : Int32))] := Lob1
  refine W.astoreN C #[.val (.ref b1), .val (.int (0 : Int32)), .val (.int (2 : Int32)), .val (.ref ob1), .unset, .unset] d10_3 rfl rfl ?_
  refine W.aloadN C d10_4 rfl rfl ?_
  refine W.iloadN C d10_5 rfl ?_
  refine W.aloadN C d10_6 rfl rfl ?_
  refine W.iconst C (0 : Int32) d10_7 rfl ?_
  refine W.iloadN C d10_8 rfl ?_
  refine W.callS C (y' := y11) d10_9 (tkw hw 57 rfl) (tkw hw 58 rfl) (tkw hw 55 rfl) (tkw hw 59 rfl) (by decide) (argsL := [(.ref b1), (.int (0 : Int32)), (.ref ob1), (.int (0 : Int32)), (.int (2 : Int32))]) (rest := []) rfl (lenOf pd_11 rfl) (con_c4_2 l Z a0 hw hp2 n0 b1 ob1 c0 c1 hc0 hc1 ne_b1_ob1 ge_ob1 Ls Lob1 Z0) 0 1 2 rfl rfl rfl (by decide) (by decide) (by decide) (by decide) rfl ?_
  rintro _ hp3 ⟨rfl, Kc, L_⟩
  replace Ls := Ls.keep Kc (ninS ne_b1_ob1 nin0)
  replace Z0 := Nat.le_trans Z0 Kc.1
  replace K0 := K0.trans Kc (allS (Or.inr sz_ob1) all0)
  replace Lob1 := L_
  refine W.istore C #[.val (.ref b1), .val (.int (0 : Int32)), .val (.int (2 : Int32)), .val (.ref ob1), .val (.int (2 : Int32)), .unset] d10_12 rfl ?_
  refine W.iload C d10_14 rfl ?_
  refine W.iloadN C d10_16 rfl ?_
  refine W.icmp_eq C 57 d10_17 rfl (fun _ => ?_) (fun b => absurd b (by decide))
  refine W.aloadN C d10_57 rfl rfl ?_
  exact W.aret C d10_58 rfl rfl rfl (FN.ok (by decide) (by decide) ⟨ob1, rfl, K0, Lob1, sz_ob1⟩)

theorem ef_co_2 (m : MethodId) (d1 : Addr) : entryFrame m #[(.ref d1), (.int (2 : Int32))] 2 = mkF m 0 #[.val (.ref d1), .val (.int (2 : Int32))] [] := by first | (simp [entryFrame, mkF, argsToLocals, Value.category]; done) | rfl
set_option maxRecDepth 65536 in
set_option maxHeartbeats 40000000 in
theorem con_co_2 (l : Launch) (Z : State) (a0 : Array Value) (hw : ∀ d ∈ tables_1, d.before a0 Z = true) (h0 : Heap) (n0 : Nat) (d1 : Addr) (c0 c1 : Int32) (Ld : Al Z h0 d1 .byte [(.int ((c0).toInt8.toInt32)), (.int ((c1).toInt8.toInt32))]) (Z0 : n0 ≤ h0.size) : Con l Z y12 jdk_52_method_15_code 2 (some .byte) ({ frames := 0, cells := 0, slots := 0, locals := 0 } : Room) #[(.ref d1), (.int (2 : Int32))] h0 n0 (Pu (some (.int 0)) h0) := by
  refine Con.of pf_12 (fun m => ef_co_2 m d1) ?_
  intro p e s m below meth c C
  refine W.iloadN C d12_0 rfl ?_
  refine W.aloadN C d12_1 rfl rfl ?_
  refine W.arrlen C (2 : Int32) d12_2 Ld rfl ?_
  refine W.isubV C (0 : Int32) d12_3 (by decide) ?_
  refine W.bipush C (31 : Int32) d12_4 rfl ?_
  refine W.iushrV C (0 : Int32) d12_6 (by decide) ?_
  refine W.i2bV C (0 : Int32) d12_7 (by decide) ?_
  exact W.iret C d12_8 (by simp) rfl (FN.ok (by decide) (by decide) ⟨rfl, rfl⟩)

theorem ef_i4_2 (m : MethodId) (a1 : Addr) (b1 : Addr) : entryFrame m #[(.ref a1), (.ref b1), (.int (0 : Int32)), (.int (2 : Int32)), .null] 6 = mkF m 0 #[.val (.ref a1), .val (.ref b1), .val (.int (0 : Int32)), .val (.int (2 : Int32)), .val .null, .unset] [] := by first | (simp [entryFrame, mkF, argsToLocals, Value.category]; done) | rfl
set_option maxRecDepth 65536 in
set_option maxHeartbeats 40000000 in
theorem con_i4_2 (l : Launch) (Z : State) (a0 : Array Value) (hw : ∀ d ∈ tables_1, d.before a0 Z = true) (h0 : Heap) (n0 : Nat) (a1 : Addr) (b1 : Addr) (c0 c1 : Int32) (hc0 : ¬ (255 : Int32) < c0) (hc1 : ¬ (255 : Int32) < c1) (u0 u1 : Value) (cv : Int32) (ne_a1_b1 : a1 ≠ b1) (g_a1 : n0 ≤ a1) (E_a1 : Exa Z h0 a1 "java/lang/String") (Fv : Fld Z h0 a1 "java/lang/String" "value" "[B" u0) (Fc : Fld Z h0 a1 "java/lang/String" "coder" "B" u1) (Ls : Al Z h0 b1 .char [(.int c0), (.int c1)]) (S_C : Sta Z h0 "java/lang/String" "COMPACT_STRINGS" "Z" (.int cv)) (hcv : ¬ cv = 0) (Z0 : n0 ≤ h0.size) : Con l Z y3 jdk_42_method_149_code 6 none ({ frames := 2, cells := 1, slots := 2, locals := 35 } : Room) #[(.ref a1), (.ref b1), (.int (0 : Int32)), (.int (2 : Int32)), .null] h0 n0 (fun v h => v = none ∧ Keep h0 h [a1] ∧ Exa Z h a1 "java/lang/String" ∧ ∃ d, Fld Z h a1 "java/lang/String" "value" "[B" (.ref d) ∧ Fld Z h a1 "java/lang/String" "coder" "B" (.int 0) ∧ Al Z h d .byte [(.int ((c0).toInt8.toInt32)), (.int ((c1).toInt8.toInt32))]) := by
  refine Con.of pf_3 (fun m => ef_i4_2 m a1 b1) ?_
  intro p e s m below meth c C
  have K0 : Keep h0 h0 [a1] := Keep.refl _ _
  refine W.aloadN C d3_0 rfl rfl ?_
  refine W.initO C d3_1 (tkw hw 17 rfl) (tkw hw 18 rfl) (tkw hw 19 rfl) 0 rfl (by decide) (by decide) rfl ?_
  refine W.iloadN C d3_4 rfl ?_
  refine W.if_ne C 27 d3_5 rfl (fun _ => ?_) (fun b => absurd b (by decide))
  refine W.getS C d3_27 (tkw hw 51 rfl) Via.refl S_C ?_
  refine W.if_eq C 58 d3_30 rfl (fun bq1 => absurd bq1 hcv) (fun bq1 => ?_)
  refine W.aloadN C d3_33 rfl rfl ?_
  refine W.iloadN C d3_34 rfl ?_
  refine W.iloadN C d3_35 rfl ?_
  refine W.callS C (y' := y10) d3_36 (tkw hw 53 rfl) (tkw hw 54 rfl) (tkw hw 55 rfl) (tkw hw 56 rfl) (by decide) (argsL := [(.ref b1), (.int (0 : Int32)), (.int (2 : Int32))]) (rest := []) rfl (lenOf pd_12 rfl) (con_c3_2 l Z a0 hw h0 n0 b1 c0 c1 hc0 hc1 Ls Z0) 0 1 2 rfl rfl rfl (by decide) (by decide) (by decide) (by decide) rfl ?_
  rintro _ hp2 ⟨d1, rfl, Kc, Ld1, sz⟩
  have ne_a1_d1 : a1 ≠ d1 := Nat.ne_of_lt (Nat.lt_of_lt_of_le E_a1.lt sz)
  replace E_a1 := E_a1.ext (ext0 Kc)
  replace Fv := Fv.ext (ext0 Kc)
  replace Fc := Fc.ext (ext0 Kc)
  replace Ls := Ls.ext (ext0 Kc)
  replace S_C := S_C.ext (ext0 Kc)
  replace Z0 := Nat.le_trans Z0 (ext0 Kc).1
  replace K0 := K0.ext (ext0 Kc)
  refine W.astore C #[.val (.ref a1), .val (.ref b1), .val (.int (0 : Int32)), .val (.int (2 : Int32)), .val .null, .val (.ref d1)] d3_39 rfl rfl ?_
  refine W.aloadN C d3_41 rfl rfl ?_
  refine W.aload C d3_42 rfl rfl ?_
  refine W.iloadN C d3_44 rfl ?_
  refine W.callS C (y' := y12) d3_45 (tkw hw 60 rfl) (tkw hw 61 rfl) (tkw hw 55 rfl) (tkw hw 62 rfl) (by decide) (argsL := [(.ref d1), (.int (2 : Int32))]) (rest := [(.ref a1)]) rfl (lenOf pd_14 rfl) (con_co_2 l Z a0 hw hp2 n0 d1 c0 c1 Ld1 Z0) 1 1 2 rfl rfl rfl (by decide) (by decide) (by decide) (by decide) rfl ?_
  rintro _ _ ⟨rfl, rfl⟩
  refine W.putF C d3_48 (tkw hw 27 rfl) Via.refl Fc E_a1 (Or.inr ⟨(tkw hw 23 rfl), rfl, rfl⟩) (tkw hw 7 rfl) (ty := .byte) (by decide) rfl rfl g_a1 ?_
  intro hp3 U4
  replace Fc := Fc.same U4
  replace E_a1 := E_a1.wr U4
  replace Fv := Fv.other U4 (Or.inr (slot_ne (Or.inr (tkw hw 22 rfl)) (Or.inr (tkw hw 23 rfl)) (by decide) (t := (.array .byte)) (t' := .byte) (by decide) (by decide)))
  replace Ls := Ls.other U4 (Ne.symm ne_a1_b1)
  replace S_C := S_C.wr U4
  replace Z0 := Nat.le_trans Z0 (Nat.le_of_eq (U4.size).symm)
  replace K0 := K0.wr U4 (Or.inl (List.mem_of_getElem? (i := 0) rfl))
  replace Ld1 := Ld1.other U4 (Ne.symm ne_a1_d1)
  refine W.aloadN C d3_51 rfl rfl ?_
  refine W.aload C d3_52 rfl rfl ?_
  refine W.putF C d3_54 (tkw hw 26 rfl) Via.refl Fv E_a1 (Or.inr ⟨(tkw hw 22 rfl), rfl, rfl⟩) (tkw hw 7 rfl) (ty := (.array .byte)) (by decide) rfl rfl g_a1 ?_
  intro hp5 U6
  replace Fv := Fv.same U6
  replace E_a1 := E_a1.wr U6
  replace Fc := Fc.other U6 (Or.inr (slot_ne (Or.inr (tkw hw 23 rfl)) (Or.inr (tkw hw 22 rfl)) (by decide) (t := .byte) (t' := (.array .byte)) (by decide) (by decide)))
  replace Ls := Ls.other U6 (Ne.symm ne_a1_b1)
  replace S_C := S_C.wr U6
  replace Z0 := Nat.le_trans Z0 (Nat.le_of_eq (U6.size).symm)
  replace K0 := K0.wr U6 (Or.inl (List.mem_of_getElem? (i := 0) rfl))
  replace Ld1 := Ld1.other U6 (Ne.symm ne_a1_d1)
  exact W.retV C d3_57 (FN.ok (by decide) (by decide) ⟨rfl, K0, E_a1, d1, Fv, Fc, Ld1⟩)

theorem ef_i1_2 (m : MethodId) (a1 : Addr) (b1 : Addr) : entryFrame m #[(.ref a1), (.ref b1)] 2 = mkF m 0 #[.val (.ref a1), .val (.ref b1)] [] := by first | (simp [entryFrame, mkF, argsToLocals, Value.category]; done) | rfl
set_option maxRecDepth 65536 in
set_option maxHeartbeats 40000000 in
theorem con_i1_2 (l : Launch) (Z : State) (a0 : Array Value) (hw : ∀ d ∈ tables_1, d.before a0 Z = true) (h0 : Heap) (n0 : Nat) (a1 : Addr) (b1 : Addr) (c0 c1 : Int32) (hc0 : ¬ (255 : Int32) < c0) (hc1 : ¬ (255 : Int32) < c1) (u0 u1 : Value) (cv : Int32) (ne_a1_b1 : a1 ≠ b1) (g_a1 : n0 ≤ a1) (E_a1 : Exa Z h0 a1 "java/lang/String") (Fv : Fld Z h0 a1 "java/lang/String" "value" "[B" u0) (Fc : Fld Z h0 a1 "java/lang/String" "coder" "B" u1) (Ls : Al Z h0 b1 .char [(.int c0), (.int c1)]) (S_C : Sta Z h0 "java/lang/String" "COMPACT_STRINGS" "Z" (.int cv)) (hcv : ¬ cv = 0) (Z0 : n0 ≤ h0.size) : Con l Z y2 jdk_42_method_3_code 2 none ({ frames := 3, cells := 1, slots := 2, locals := 52 } : Room) #[(.ref a1), (.ref b1)] h0 n0 (fun v h => v = none ∧ Keep h0 h [a1] ∧ Exa Z h a1 "java/lang/String" ∧ ∃ d, Fld Z h a1 "java/lang/String" "value" "[B" (.ref d) ∧ Fld Z h a1 "java/lang/String" "coder" "B" (.int 0) ∧ Al Z h d .byte [(.int ((c0).toInt8.toInt32)), (.int ((c1).toInt8.toInt32))]) := by
  refine Con.of pf_2 (fun m => ef_i1_2 m a1 b1) ?_
  intro p e s m below meth c C
  have K0 : Keep h0 h0 [a1] := Keep.refl _ _
  refine W.aloadN C d2_0 rfl rfl ?_
  refine W.aloadN C d2_1 rfl rfl ?_
  refine W.iconst C (0 : Int32) d2_2 rfl ?_
  refine W.aloadN C d2_3 rfl rfl ?_
  refine W.arrlen C (2 : Int32) d2_4 Ls rfl ?_
  refine W.aconstNull C d2_5 ?_
  refine W.callI C (y' := y3) d2_6 rfl (tkw hw 13 rfl) (tkw hw 14 rfl) (tkw hw 8 rfl) (tkw hw 16 rfl) (by decide) (a := a1) (argsL := [(.ref b1), (.int (0 : Int32)), (.int (2 : Int32)), .null]) (rest := []) rfl (lenOf pd_15 rfl) (con_i4_2 l Z a0 hw h0 n0 a1 b1 c0 c1 hc0 hc1 u0 u1 cv ne_a1_b1 g_a1 E_a1 Fv Fc Ls S_C hcv Z0) 0 1 2 rfl rfl rfl (by decide) (by decide) (by decide) (by decide) rfl ?_
  rintro _ hp1 ⟨rfl, Kc, E_n, d, Fv_n, Fc_n, Ld⟩
  replace Ls := Ls.keep Kc (ninS (Ne.symm ne_a1_b1) nin0)
  replace Z0 := Nat.le_trans Z0 Kc.1
  replace K0 := K0.trans Kc (allS (Or.inl (List.mem_of_getElem? (i := 0) rfl)) all0)
  replace E_a1 := E_n
  replace Fv := Fv_n
  replace Fc := Fc_n
  exact W.retV C d2_9 (FN.ok (by decide) (by decide) ⟨rfl, K0, E_a1, d, Fv, Fc, Ld⟩)

theorem ef_c4_3 (m : MethodId) (b1 : Addr) (d1 : Addr) : entryFrame m #[(.ref b1), (.int (0 : Int32)), (.ref d1), (.int (0 : Int32)), (.int (3 : Int32))] 7 = mkF m 0 #[.val (.ref b1), .val (.int (0 : Int32)), .val (.ref d1), .val (.int (0 : Int32)), .val (.int (3 : Int32)), .unset, .unset] [] := by first | (simp [entryFrame, mkF, argsToLocals, Value.category]; done) | rfl
set_option maxRecDepth 65536 in
set_option maxHeartbeats 40000000 in
theorem con_c4_3 (l : Launch) (Z : State) (a0 : Array Value) (hw : ∀ d ∈ tables_1, d.before a0 Z = true) (h0 : Heap) (n0 : Nat) (b1 : Addr) (d1 : Addr) (c0 c1 c2 : Int32) (hc0 : ¬ (255 : Int32) < c0) (hc1 : ¬ (255 : Int32) < c1) (hc2 : ¬ (255 : Int32) < c2) (ne_b1_d1 : b1 ≠ d1) (g_d1 : n0 ≤ d1) (Ls : Al Z h0 b1 .char [(.int c0), (.int c1), (.int c2)]) (Ld : Al Z h0 d1 .byte [(.int (0 : Int32)), (.int (0 : Int32)), (.int (0 : Int32))]) (Z0 : n0 ≤ h0.size) : Con l Z y11 jdk_52_method_21_code 7 (some .int) ({ frames := 0, cells := 0, slots := 0, locals := 0 } : Room) #[(.ref b1), (.int (0 : Int32)), (.ref d1), (.int (0 : Int32)), (.int (3 : Int32))] h0 n0 (fun v h => v = some (.int 3) ∧ Keep h0 h [d1] ∧ Al Z h d1 .byte [(.int ((c0).toInt8.toInt32)), (.int ((c1).toInt8.toInt32)), (.int ((c2).toInt8.toInt32))]) := by
  refine Con.of pf_11 (fun m => ef_c4_3 m b1 d1) ?_
  intro p e s m below meth c C
  have K0 : Keep h0 h0 [d1] := Keep.refl _ _
  refine W.iconst C (0 : Int32) d11_0 rfl ?_
  refine W.istore C #[.val (.ref b1), .val (.int (0 : Int32)), .val (.ref d1), .val (.int (0 : Int32)), .val (.int (3 : Int32)), .val (.int (0 : Int32)), .unset] d11_1 rfl ?_
  refine W.iload C d11_3 rfl ?_
  refine W.iload C d11_5 rfl ?_
  refine W.icmp_ge C 44 d11_7 rfl (fun b => absurd b (by decide)) (fun _ => ?_)
  refine W.aloadN C d11_10 rfl rfl ?_
  refine W.iloadN C d11_11 rfl ?_
  refine W.caload C 0 d11_12 Ls rfl rfl ?_
  refine W.istore C #[.val (.ref b1), .val (.int (0 : Int32)), .val (.ref d1), .val (.int (0 : Int32)), .val (.int (3 : Int32)), .val (.int (0 : Int32)), .val (.int c0)] d11_13 rfl ?_
  refine W.iload C d11_15 rfl ?_
  refine W.sipush C (255 : Int32) d11_17 rfl ?_
  refine W.icmp_le C 26 d11_20 rfl (fun bq1 => ?_) (fun bq1 => absurd bq1 hc0)
  refine W.aloadN C d11_26 rfl rfl ?_
  refine W.iloadN C d11_27 rfl ?_
  refine W.iload C d11_28 rfl ?_
  refine W.i2b C d11_30 ?_
  refine W.bastoreI C 0 d11_31 Ld rfl (show (0 : Nat) < 3 by decide) g_d1 ?_
  intro hp1 U2 Ld_
  replace Ls := Ls.other U2 ne_b1_d1
  replace Z0 := Nat.le_trans Z0 (Nat.le_of_eq (U2.size).symm)
  replace K0 := K0.wr U2 (Or.inl (List.mem_of_getElem? (i := 0) rfl))
  replace Ld : Al Z hp1 d1 .byte [(.int ((c0).toInt8.toInt32)), (.int (0 : Int32)), (.int (0 : Int32))] := Ld_
  refine W.iinc C (1 : Int32) #[.val (.ref b1), .val (.int (1 : Int32)), .val (.ref d1), .val (.int (0 : Int32)), .val (.int (3 : Int32)), .val (.int (0 : Int32)), .val (.int c0)] d11_32 rfl rfl rfl ?_
  refine W.iinc C (1 : Int32) #[.val (.ref b1), .val (.int (1 : Int32)), .val (.ref d1), .val (.int (1 : Int32)), .val (.int (3 : Int32)), .val (.int (0 : Int32)), .val (.int c0)] d11_35 rfl rfl rfl ?_
  refine W.iinc C (1 : Int32) #[.val (.ref b1), .val (.int (1 : Int32)), .val (.ref d1), .val (.int (1 : Int32)), .val (.int (3 : Int32)), .val (.int (1 : Int32)), .val (.int c0)] d11_38 rfl rfl rfl ?_
  refine W.goto C 3 d11_41 rfl ?_
  refine W.iload C d11_3 rfl ?_
  refine W.iload C d11_5 rfl ?_
  refine W.icmp_ge C 44 d11_7 rfl (fun b => absurd b (by decide)) (fun _ => ?_)
  refine W.aloadN C d11_10 rfl rfl ?_
  refine W.iloadN C d11_11 rfl ?_
  refine W.caload C 1 d11_12 Ls rfl rfl ?_
  refine W.istore C #[.val (.ref b1), .val (.int (1 : Int32)), .val (.ref d1), .val (.int (1 : Int32)), .val (.int (3 : Int32)), .val (.int (1 : Int32)), .val (.int c1)] d11_13 rfl ?_
  refine W.iload C d11_15 rfl ?_
  refine W.sipush C (255 : Int32) d11_17 rfl ?_
  refine W.icmp_le C 26 d11_20 rfl (fun bq2 => ?_) (fun bq2 => absurd bq2 hc1)
  refine W.aloadN C d11_26 rfl rfl ?_
  refine W.iloadN C d11_27 rfl ?_
  refine W.iload C d11_28 rfl ?_
  refine W.i2b C d11_30 ?_
  refine W.bastoreI C 1 d11_31 Ld rfl (show (1 : Nat) < 3 by decide) g_d1 ?_
  intro hp3 U4 Ld_
  replace Ls := Ls.other U4 ne_b1_d1
  replace Z0 := Nat.le_trans Z0 (Nat.le_of_eq (U4.size).symm)
  replace K0 := K0.wr U4 (Or.inl (List.mem_of_getElem? (i := 0) rfl))
  replace Ld : Al Z hp3 d1 .byte [(.int ((c0).toInt8.toInt32)), (.int ((c1).toInt8.toInt32)), (.int (0 : Int32))] := Ld_
  refine W.iinc C (2 : Int32) #[.val (.ref b1), .val (.int (2 : Int32)), .val (.ref d1), .val (.int (1 : Int32)), .val (.int (3 : Int32)), .val (.int (1 : Int32)), .val (.int c1)] d11_32 rfl rfl rfl ?_
  refine W.iinc C (2 : Int32) #[.val (.ref b1), .val (.int (2 : Int32)), .val (.ref d1), .val (.int (2 : Int32)), .val (.int (3 : Int32)), .val (.int (1 : Int32)), .val (.int c1)] d11_35 rfl rfl rfl ?_
  refine W.iinc C (2 : Int32) #[.val (.ref b1), .val (.int (2 : Int32)), .val (.ref d1), .val (.int (2 : Int32)), .val (.int (3 : Int32)), .val (.int (2 : Int32)), .val (.int c1)] d11_38 rfl rfl rfl ?_
  refine W.goto C 3 d11_41 rfl ?_
  refine W.iload C d11_3 rfl ?_
  refine W.iload C d11_5 rfl ?_
  refine W.icmp_ge C 44 d11_7 rfl (fun b => absurd b (by decide)) (fun _ => ?_)
  refine W.aloadN C d11_10 rfl rfl ?_
  refine W.iloadN C d11_11 rfl ?_
  refine W.caload C 2 d11_12 Ls rfl rfl ?_
  refine W.istore C #[.val (.ref b1), .val (.int (2 : Int32)), .val (.ref d1), .val (.int (2 : Int32)), .val (.int (3 : Int32)), .val (.int (2 : Int32)), .val (.int c2)] d11_13 rfl ?_
  refine W.iload C d11_15 rfl ?_
  refine W.sipush C (255 : Int32) d11_17 rfl ?_
  refine W.icmp_le C 26 d11_20 rfl (fun bq3 => ?_) (fun bq3 => absurd bq3 hc2)
  refine W.aloadN C d11_26 rfl rfl ?_
  refine W.iloadN C d11_27 rfl ?_
  refine W.iload C d11_28 rfl ?_
  refine W.i2b C d11_30 ?_
  refine W.bastoreI C 2 d11_31 Ld rfl (show (2 : Nat) < 3 by decide) g_d1 ?_
  intro hp5 U6 Ld_
  replace Ls := Ls.other U6 ne_b1_d1
  replace Z0 := Nat.le_trans Z0 (Nat.le_of_eq (U6.size).symm)
  replace K0 := K0.wr U6 (Or.inl (List.mem_of_getElem? (i := 0) rfl))
  replace Ld : Al Z hp5 d1 .byte [(.int ((c0).toInt8.toInt32)), (.int ((c1).toInt8.toInt32)), (.int ((c2).toInt8.toInt32))] := Ld_
  refine W.iinc C (3 : Int32) #[.val (.ref b1), .val (.int (3 : Int32)), .val (.ref d1), .val (.int (2 : Int32)), .val (.int (3 : Int32)), .val (.int (2 : Int32)), .val (.int c2)] d11_32 rfl rfl rfl ?_
  refine W.iinc C (3 : Int32) #[.val (.ref b1), .val (.int (3 : Int32)), .val (.ref d1), .val (.int (3 : Int32)), .val (.int (3 : Int32)), .val (.int (2 : Int32)), .val (.int c2)] d11_35 rfl rfl rfl ?_
  refine W.iinc C (3 : Int32) #[.val (.ref b1), .val (.int (3 : Int32)), .val (.ref d1), .val (.int (3 : Int32)), .val (.int (3 : Int32)), .val (.int (3 : Int32)), .val (.int c2)] d11_38 rfl rfl rfl ?_
  refine W.goto C 3 d11_41 rfl ?_
  refine W.iload C d11_3 rfl ?_
  refine W.iload C d11_5 rfl ?_
  refine W.icmp_ge C 44 d11_7 rfl (fun _ => ?_) (fun b => absurd b (by decide))
  refine W.iload C d11_44 rfl ?_
  exact W.iret C d11_46 (by simp) rfl (FN.ok (by decide) (by decide) ⟨rfl, K0, Ld⟩)

theorem ef_c3_3 (m : MethodId) (b1 : Addr) : entryFrame m #[(.ref b1), (.int (0 : Int32)), (.int (3 : Int32))] 6 = mkF m 0 #[.val (.ref b1), .val (.int (0 : Int32)), .val (.int (3 : Int32)), .unset, .unset, .unset] [] := by first | (simp [entryFrame, mkF, argsToLocals, Value.category]; done) | rfl
set_option maxRecDepth 65536 in
set_option maxHeartbeats 40000000 in
theorem con_c3_3 (l : Launch) (Z : State) (a0 : Array Value) (hw : ∀ d ∈ tables_1, d.before a0 Z = true) (h0 : Heap) (n0 : Nat) (b1 : Addr) (c0 c1 c2 : Int32) (hc0 : ¬ (255 : Int32) < c0) (hc1 : ¬ (255 : Int32) < c1) (hc2 : ¬ (255 : Int32) < c2) (Ls : Al Z h0 b1 .char [(.int c0), (.int c1), (.int c2)]) (Z0 : n0 ≤ h0.size) : Con l Z y10 jdk_52_method_16_code 6 (some (.array .byte)) ({ frames := 1, cells := 1, slots := 3, locals := 18 } : Room) #[(.ref b1), (.int (0 : Int32)), (.int (3 : Int32))] h0 n0 (fun v h => ∃ d, v = some (.ref d) ∧ Keep h0 h [] ∧ Al Z h d .byte [(.int ((c0).toInt8.toInt32)), (.int ((c1).toInt8.toInt32)), (.int ((c2).toInt8.toInt32))] ∧ h0.size ≤ d) := by
  refine Con.of pf_10 (fun m => ef_c3_3 m b1) ?_
  intro p e s m below meth c C
  have K0 : Keep h0 h0 [] := Keep.refl _ _
  refine W.iloadN C d10_0 rfl ?_
  refine W.newP C 3 3 d10_1 (tkw hw 21 rfl) rfl (Nat.le_refl _) (by decide) 1 3 rfl rfl (by decide) (by decide) ?_
  intro ob1 hp2 hob1 Eob1 Lob1
  have ne_b1_ob1 : b1 ≠ ob1 := Nat.ne_of_lt (by rw [hob1]; exact Ls.lt)
  have ge_ob1 : n0 ≤ ob1 := by rw [hob1]; exact Z0
  have sz_ob1 : h0.size ≤ ob1 := by rw [hob1]; exact K0.1
  replace Ls := Ls.ext Eob1
  replace Z0 := Nat.le_trans Z0 Eob1.1
  replace K0 := K0.ext Eob1
  replace Lob1 : Al Z hp2 ob1 .byte [(.int (0 : Int32)), (.int (0 : Int32)), (.int (0 : Int32))] := Lob1
  refine W.astoreN C #[.val (.ref b1), .val (.int (0 : Int32)), .val (.int (3 : Int32)), .val (.ref ob1), .unset, .unset] d10_3 rfl rfl ?_
  refine W.aloadN C d10_4 rfl rfl ?_
  refine W.iloadN C d10_5 rfl ?_
  refine W.aloadN C d10_6 rfl rfl ?_
  refine W.iconst C (0 : Int32) d10_7 rfl ?_
  refine W.iloadN C d10_8 rfl ?_
  refine W.callS C (y' := y11) d10_9 (tkw hw 57 rfl) (tkw hw 58 rfl) (tkw hw 55 rfl) (tkw hw 59 rfl) (by decide) (argsL := [(.ref b1), (.int (0 : Int32)), (.ref ob1), (.int (0 : Int32)), (.int (3 : Int32))]) (rest := []) rfl (lenOf pd_11 rfl) (con_c4_3 l Z a0 hw hp2 n0 b1 ob1 c0 c1 c2 hc0 hc1 hc2 ne_b1_ob1 ge_ob1 Ls Lob1 Z0) 0 1 3 rfl rfl rfl (by decide) (by decide) (by decide) (by decide) rfl ?_
  rintro _ hp3 ⟨rfl, Kc, L_⟩
  replace Ls := Ls.keep Kc (ninS ne_b1_ob1 nin0)
  replace Z0 := Nat.le_trans Z0 Kc.1
  replace K0 := K0.trans Kc (allS (Or.inr sz_ob1) all0)
  replace Lob1 := L_
  refine W.istore C #[.val (.ref b1), .val (.int (0 : Int32)), .val (.int (3 : Int32)), .val (.ref ob1), .val (.int (3 : Int32)), .unset] d10_12 rfl ?_
  refine W.iload C d10_14 rfl ?_
  refine W.iloadN C d10_16 rfl ?_
  refine W.icmp_eq C 57 d10_17 rfl (fun _ => ?_) (fun b => absurd b (by decide))
  refine W.aloadN C d10_57 rfl rfl ?_
  exact W.aret C d10_58 rfl rfl rfl (FN.ok (by decide) (by decide) ⟨ob1, rfl, K0, Lob1, sz_ob1⟩)

theorem ef_co_3 (m : MethodId) (d1 : Addr) : entryFrame m #[(.ref d1), (.int (3 : Int32))] 2 = mkF m 0 #[.val (.ref d1), .val (.int (3 : Int32))] [] := by first | (simp [entryFrame, mkF, argsToLocals, Value.category]; done) | rfl
set_option maxRecDepth 65536 in
set_option maxHeartbeats 40000000 in
theorem con_co_3 (l : Launch) (Z : State) (a0 : Array Value) (hw : ∀ d ∈ tables_1, d.before a0 Z = true) (h0 : Heap) (n0 : Nat) (d1 : Addr) (c0 c1 c2 : Int32) (Ld : Al Z h0 d1 .byte [(.int ((c0).toInt8.toInt32)), (.int ((c1).toInt8.toInt32)), (.int ((c2).toInt8.toInt32))]) (Z0 : n0 ≤ h0.size) : Con l Z y12 jdk_52_method_15_code 2 (some .byte) ({ frames := 0, cells := 0, slots := 0, locals := 0 } : Room) #[(.ref d1), (.int (3 : Int32))] h0 n0 (Pu (some (.int 0)) h0) := by
  refine Con.of pf_12 (fun m => ef_co_3 m d1) ?_
  intro p e s m below meth c C
  refine W.iloadN C d12_0 rfl ?_
  refine W.aloadN C d12_1 rfl rfl ?_
  refine W.arrlen C (3 : Int32) d12_2 Ld rfl ?_
  refine W.isubV C (0 : Int32) d12_3 (by decide) ?_
  refine W.bipush C (31 : Int32) d12_4 rfl ?_
  refine W.iushrV C (0 : Int32) d12_6 (by decide) ?_
  refine W.i2bV C (0 : Int32) d12_7 (by decide) ?_
  exact W.iret C d12_8 (by simp) rfl (FN.ok (by decide) (by decide) ⟨rfl, rfl⟩)

theorem ef_i4_3 (m : MethodId) (a1 : Addr) (b1 : Addr) : entryFrame m #[(.ref a1), (.ref b1), (.int (0 : Int32)), (.int (3 : Int32)), .null] 6 = mkF m 0 #[.val (.ref a1), .val (.ref b1), .val (.int (0 : Int32)), .val (.int (3 : Int32)), .val .null, .unset] [] := by first | (simp [entryFrame, mkF, argsToLocals, Value.category]; done) | rfl
set_option maxRecDepth 65536 in
set_option maxHeartbeats 40000000 in
theorem con_i4_3 (l : Launch) (Z : State) (a0 : Array Value) (hw : ∀ d ∈ tables_1, d.before a0 Z = true) (h0 : Heap) (n0 : Nat) (a1 : Addr) (b1 : Addr) (c0 c1 c2 : Int32) (hc0 : ¬ (255 : Int32) < c0) (hc1 : ¬ (255 : Int32) < c1) (hc2 : ¬ (255 : Int32) < c2) (u0 u1 : Value) (cv : Int32) (ne_a1_b1 : a1 ≠ b1) (g_a1 : n0 ≤ a1) (E_a1 : Exa Z h0 a1 "java/lang/String") (Fv : Fld Z h0 a1 "java/lang/String" "value" "[B" u0) (Fc : Fld Z h0 a1 "java/lang/String" "coder" "B" u1) (Ls : Al Z h0 b1 .char [(.int c0), (.int c1), (.int c2)]) (S_C : Sta Z h0 "java/lang/String" "COMPACT_STRINGS" "Z" (.int cv)) (hcv : ¬ cv = 0) (Z0 : n0 ≤ h0.size) : Con l Z y3 jdk_42_method_149_code 6 none ({ frames := 2, cells := 1, slots := 3, locals := 35 } : Room) #[(.ref a1), (.ref b1), (.int (0 : Int32)), (.int (3 : Int32)), .null] h0 n0 (fun v h => v = none ∧ Keep h0 h [a1] ∧ Exa Z h a1 "java/lang/String" ∧ ∃ d, Fld Z h a1 "java/lang/String" "value" "[B" (.ref d) ∧ Fld Z h a1 "java/lang/String" "coder" "B" (.int 0) ∧ Al Z h d .byte [(.int ((c0).toInt8.toInt32)), (.int ((c1).toInt8.toInt32)), (.int ((c2).toInt8.toInt32))]) := by
  refine Con.of pf_3 (fun m => ef_i4_3 m a1 b1) ?_
  intro p e s m below meth c C
  have K0 : Keep h0 h0 [a1] := Keep.refl _ _
  refine W.aloadN C d3_0 rfl rfl ?_
  refine W.initO C d3_1 (tkw hw 17 rfl) (tkw hw 18 rfl) (tkw hw 19 rfl) 0 rfl (by decide) (by decide) rfl ?_
  refine W.iloadN C d3_4 rfl ?_
  refine W.if_ne C 27 d3_5 rfl (fun _ => ?_) (fun b => absurd b (by decide))
  refine W.getS C d3_27 (tkw hw 51 rfl) Via.refl S_C ?_
  refine W.if_eq C 58 d3_30 rfl (fun bq1 => absurd bq1 hcv) (fun bq1 => ?_)
  refine W.aloadN C d3_33 rfl rfl ?_
  refine W.iloadN C d3_34 rfl ?_
  refine W.iloadN C d3_35 rfl ?_
  refine W.callS C (y' := y10) d3_36 (tkw hw 53 rfl) (tkw hw 54 rfl) (tkw hw 55 rfl) (tkw hw 56 rfl) (by decide) (argsL := [(.ref b1), (.int (0 : Int32)), (.int (3 : Int32))]) (rest := []) rfl (lenOf pd_12 rfl) (con_c3_3 l Z a0 hw h0 n0 b1 c0 c1 c2 hc0 hc1 hc2 Ls Z0) 0 1 3 rfl rfl rfl (by decide) (by decide) (by decide) (by decide) rfl ?_
  rintro _ hp2 ⟨d1, rfl, Kc, Ld1, sz⟩
  have ne_a1_d1 : a1 ≠ d1 := Nat.ne_of_lt (Nat.lt_of_lt_of_le E_a1.lt sz)
  replace E_a1 := E_a1.ext (ext0 Kc)
  replace Fv := Fv.ext (ext0 Kc)
  replace Fc := Fc.ext (ext0 Kc)
  replace Ls := Ls.ext (ext0 Kc)
  replace S_C := S_C.ext (ext0 Kc)
  replace Z0 := Nat.le_trans Z0 (ext0 Kc).1
  replace K0 := K0.ext (ext0 Kc)
  refine W.astore C #[.val (.ref a1), .val (.ref b1), .val (.int (0 : Int32)), .val (.int (3 : Int32)), .val .null, .val (.ref d1)] d3_39 rfl rfl ?_
  refine W.aloadN C d3_41 rfl rfl ?_
  refine W.aload C d3_42 rfl rfl ?_
  refine W.iloadN C d3_44 rfl ?_
  refine W.callS C (y' := y12) d3_45 (tkw hw 60 rfl) (tkw hw 61 rfl) (tkw hw 55 rfl) (tkw hw 62 rfl) (by decide) (argsL := [(.ref d1), (.int (3 : Int32))]) (rest := [(.ref a1)]) rfl (lenOf pd_14 rfl) (con_co_3 l Z a0 hw hp2 n0 d1 c0 c1 c2 Ld1 Z0) 1 1 3 rfl rfl rfl (by decide) (by decide) (by decide) (by decide) rfl ?_
  rintro _ _ ⟨rfl, rfl⟩
  refine W.putF C d3_48 (tkw hw 27 rfl) Via.refl Fc E_a1 (Or.inr ⟨(tkw hw 23 rfl), rfl, rfl⟩) (tkw hw 7 rfl) (ty := .byte) (by decide) rfl rfl g_a1 ?_
  intro hp3 U4
  replace Fc := Fc.same U4
  replace E_a1 := E_a1.wr U4
  replace Fv := Fv.other U4 (Or.inr (slot_ne (Or.inr (tkw hw 22 rfl)) (Or.inr (tkw hw 23 rfl)) (by decide) (t := (.array .byte)) (t' := .byte) (by decide) (by decide)))
  replace Ls := Ls.other U4 (Ne.symm ne_a1_b1)
  replace S_C := S_C.wr U4
  replace Z0 := Nat.le_trans Z0 (Nat.le_of_eq (U4.size).symm)
  replace K0 := K0.wr U4 (Or.inl (List.mem_of_getElem? (i := 0) rfl))
  replace Ld1 := Ld1.other U4 (Ne.symm ne_a1_d1)
  refine W.aloadN C d3_51 rfl rfl ?_
  refine W.aload C d3_52 rfl rfl ?_
  refine W.putF C d3_54 (tkw hw 26 rfl) Via.refl Fv E_a1 (Or.inr ⟨(tkw hw 22 rfl), rfl, rfl⟩) (tkw hw 7 rfl) (ty := (.array .byte)) (by decide) rfl rfl g_a1 ?_
  intro hp5 U6
  replace Fv := Fv.same U6
  replace E_a1 := E_a1.wr U6
  replace Fc := Fc.other U6 (Or.inr (slot_ne (Or.inr (tkw hw 23 rfl)) (Or.inr (tkw hw 22 rfl)) (by decide) (t := .byte) (t' := (.array .byte)) (by decide) (by decide)))
  replace Ls := Ls.other U6 (Ne.symm ne_a1_b1)
  replace S_C := S_C.wr U6
  replace Z0 := Nat.le_trans Z0 (Nat.le_of_eq (U6.size).symm)
  replace K0 := K0.wr U6 (Or.inl (List.mem_of_getElem? (i := 0) rfl))
  replace Ld1 := Ld1.other U6 (Ne.symm ne_a1_d1)
  exact W.retV C d3_57 (FN.ok (by decide) (by decide) ⟨rfl, K0, E_a1, d1, Fv, Fc, Ld1⟩)

theorem ef_i1_3 (m : MethodId) (a1 : Addr) (b1 : Addr) : entryFrame m #[(.ref a1), (.ref b1)] 2 = mkF m 0 #[.val (.ref a1), .val (.ref b1)] [] := by first | (simp [entryFrame, mkF, argsToLocals, Value.category]; done) | rfl
set_option maxRecDepth 65536 in
set_option maxHeartbeats 40000000 in
theorem con_i1_3 (l : Launch) (Z : State) (a0 : Array Value) (hw : ∀ d ∈ tables_1, d.before a0 Z = true) (h0 : Heap) (n0 : Nat) (a1 : Addr) (b1 : Addr) (c0 c1 c2 : Int32) (hc0 : ¬ (255 : Int32) < c0) (hc1 : ¬ (255 : Int32) < c1) (hc2 : ¬ (255 : Int32) < c2) (u0 u1 : Value) (cv : Int32) (ne_a1_b1 : a1 ≠ b1) (g_a1 : n0 ≤ a1) (E_a1 : Exa Z h0 a1 "java/lang/String") (Fv : Fld Z h0 a1 "java/lang/String" "value" "[B" u0) (Fc : Fld Z h0 a1 "java/lang/String" "coder" "B" u1) (Ls : Al Z h0 b1 .char [(.int c0), (.int c1), (.int c2)]) (S_C : Sta Z h0 "java/lang/String" "COMPACT_STRINGS" "Z" (.int cv)) (hcv : ¬ cv = 0) (Z0 : n0 ≤ h0.size) : Con l Z y2 jdk_42_method_3_code 2 none ({ frames := 3, cells := 1, slots := 3, locals := 52 } : Room) #[(.ref a1), (.ref b1)] h0 n0 (fun v h => v = none ∧ Keep h0 h [a1] ∧ Exa Z h a1 "java/lang/String" ∧ ∃ d, Fld Z h a1 "java/lang/String" "value" "[B" (.ref d) ∧ Fld Z h a1 "java/lang/String" "coder" "B" (.int 0) ∧ Al Z h d .byte [(.int ((c0).toInt8.toInt32)), (.int ((c1).toInt8.toInt32)), (.int ((c2).toInt8.toInt32))]) := by
  refine Con.of pf_2 (fun m => ef_i1_3 m a1 b1) ?_
  intro p e s m below meth c C
  have K0 : Keep h0 h0 [a1] := Keep.refl _ _
  refine W.aloadN C d2_0 rfl rfl ?_
  refine W.aloadN C d2_1 rfl rfl ?_
  refine W.iconst C (0 : Int32) d2_2 rfl ?_
  refine W.aloadN C d2_3 rfl rfl ?_
  refine W.arrlen C (3 : Int32) d2_4 Ls rfl ?_
  refine W.aconstNull C d2_5 ?_
  refine W.callI C (y' := y3) d2_6 rfl (tkw hw 13 rfl) (tkw hw 14 rfl) (tkw hw 8 rfl) (tkw hw 16 rfl) (by decide) (a := a1) (argsL := [(.ref b1), (.int (0 : Int32)), (.int (3 : Int32)), .null]) (rest := []) rfl (lenOf pd_15 rfl) (con_i4_3 l Z a0 hw h0 n0 a1 b1 c0 c1 c2 hc0 hc1 hc2 u0 u1 cv ne_a1_b1 g_a1 E_a1 Fv Fc Ls S_C hcv Z0) 0 1 3 rfl rfl rfl (by decide) (by decide) (by decide) (by decide) rfl ?_
  rintro _ hp1 ⟨rfl, Kc, E_n, d, Fv_n, Fc_n, Ld⟩
  replace Ls := Ls.keep Kc (ninS (Ne.symm ne_a1_b1) nin0)
  replace Z0 := Nat.le_trans Z0 Kc.1
  replace K0 := K0.trans Kc (allS (Or.inl (List.mem_of_getElem? (i := 0) rfl)) all0)
  replace E_a1 := E_n
  replace Fv := Fv_n
  replace Fc := Fc_n
  exact W.retV C d2_9 (FN.ok (by decide) (by decide) ⟨rfl, K0, E_a1, d, Fv, Fc, Ld⟩)

theorem ef_c4_4 (m : MethodId) (b1 : Addr) (d1 : Addr) : entryFrame m #[(.ref b1), (.int (0 : Int32)), (.ref d1), (.int (0 : Int32)), (.int (4 : Int32))] 7 = mkF m 0 #[.val (.ref b1), .val (.int (0 : Int32)), .val (.ref d1), .val (.int (0 : Int32)), .val (.int (4 : Int32)), .unset, .unset] [] := by first | (simp [entryFrame, mkF, argsToLocals, Value.category]; done) | rfl
set_option maxRecDepth 65536 in
set_option maxHeartbeats 40000000 in
theorem con_c4_4 (l : Launch) (Z : State) (a0 : Array Value) (hw : ∀ d ∈ tables_1, d.before a0 Z = true) (h0 : Heap) (n0 : Nat) (b1 : Addr) (d1 : Addr) (c0 c1 c2 c3 : Int32) (hc0 : ¬ (255 : Int32) < c0) (hc1 : ¬ (255 : Int32) < c1) (hc2 : ¬ (255 : Int32) < c2) (hc3 : ¬ (255 : Int32) < c3) (ne_b1_d1 : b1 ≠ d1) (g_d1 : n0 ≤ d1) (Ls : Al Z h0 b1 .char [(.int c0), (.int c1), (.int c2), (.int c3)]) (Ld : Al Z h0 d1 .byte [(.int (0 : Int32)), (.int (0 : Int32)), (.int (0 : Int32)), (.int (0 : Int32))]) (Z0 : n0 ≤ h0.size) : Con l Z y11 jdk_52_method_21_code 7 (some .int) ({ frames := 0, cells := 0, slots := 0, locals := 0 } : Room) #[(.ref b1), (.int (0 : Int32)), (.ref d1), (.int (0 : Int32)), (.int (4 : Int32))] h0 n0 (fun v h => v = some (.int 4) ∧ Keep h0 h [d1] ∧ Al Z h d1 .byte [(.int ((c0).toInt8.toInt32)), (.int ((c1).toInt8.toInt32)), (.int ((c2).toInt8.toInt32)), (.int ((c3).toInt8.toInt32))]) := by
  refine Con.of pf_11 (fun m => ef_c4_4 m b1 d1) ?_
  intro p e s m below meth c C
  have K0 : Keep h0 h0 [d1] := Keep.refl _ _
  refine W.iconst C (0 : Int32) d11_0 rfl ?_
  refine W.istore C #[.val (.ref b1), .val (.int (0 : Int32)), .val (.ref d1), .val (.int (0 : Int32)), .val (.int (4 : Int32)), .val (.int (0 : Int32)), .unset] d11_1 rfl ?_
  refine W.iload C d11_3 rfl ?_
  refine W.iload C d11_5 rfl ?_
  refine W.icmp_ge C 44 d11_7 rfl (fun b => absurd b (by decide)) (fun _ => ?_)
  refine W.aloadN C d11_10 rfl rfl ?_
  refine W.iloadN C d11_11 rfl ?_
  refine W.caload C 0 d11_12 Ls rfl rfl ?_
  refine W.istore C #[.val (.ref b1), .val (.int (0 : Int32)), .val (.ref d1), .val (.int (0 : Int32)), .val (.int (4 : Int32)), .val (.int (0 : Int32)), .val (.int c0)] d11_13 rfl ?_
  refine W.iload C d11_15 rfl ?_
  refine W.sipush C (255 : Int32) d11_17 rfl ?_
  refine W.icmp_le C 26 d11_20 rfl (fun bq1 => ?_) (fun bq1 => absurd bq1 hc0)
  refine W.aloadN C d11_26 rfl rfl ?_
  refine W.iloadN C d11_27 rfl ?_
  refine W.iload C d11_28 rfl ?_
  refine W.i2b C d11_30 ?_
  refine W.bastoreI C 0 d11_31 Ld rfl (show (0 : Nat) < 4 by decide) g_d1 ?_
  intro hp1 U2 Ld_
  replace Ls := Ls.other U2 ne_b1_d1
  replace Z0 := Nat.le_trans Z0 (Nat.le_of_eq (U2.size).symm)
  replace K0 := K0.wr U2 (Or.inl (List.mem_of_getElem? (i := 0) rfl))
  replace Ld : Al Z hp1 d1 .byte [(.int ((c0).toInt8.toInt32)), (.int (0 : Int32)), (.int (0 : Int32)), (.int (0 : Int32))] := Ld_
  refine W.iinc C (1 : Int32) #[.val (.ref b1), .val (.int (1 : Int32)), .val (.ref d1), .val (.int (0 : Int32)), .val (.int (4 : Int32)), .val (.int (0 : Int32)), .val (.int c0)] d11_32 rfl rfl rfl ?_
  refine W.iinc C (1 : Int32) #[.val (.ref b1), .val (.int (1 : Int32)), .val (.ref d1), .val (.int (1 : Int32)), .val (.int (4 : Int32)), .val (.int (0 : Int32)), .val (.int c0)] d11_35 rfl rfl rfl ?_
  refine W.iinc C (1 : Int32) #[.val (.ref b1), .val (.int (1 : Int32)), .val (.ref d1), .val (.int (1 : Int32)), .val (.int (4 : Int32)), .val (.int (1 : Int32)), .val (.int c0)] d11_38 rfl rfl rfl ?_
  refine W.goto C 3 d11_41 rfl ?_
  refine W.iload C d11_3 rfl ?_
  refine W.iload C d11_5 rfl ?_
  refine W.icmp_ge C 44 d11_7 rfl (fun b => absurd b (by decide)) (fun _ => ?_)
  refine W.aloadN C d11_10 rfl rfl ?_
  refine W.iloadN C d11_11 rfl ?_
  refine W.caload C 1 d11_12 Ls rfl rfl ?_
  refine W.istore C #[.val (.ref b1), .val (.int (1 : Int32)), .val (.ref d1), .val (.int (1 : Int32)), .val (.int (4 : Int32)), .val (.int (1 : Int32)), .val (.int c1)] d11_13 rfl ?_
  refine W.iload C d11_15 rfl ?_
  refine W.sipush C (255 : Int32) d11_17 rfl ?_
  refine W.icmp_le C 26 d11_20 rfl (fun bq2 => ?_) (fun bq2 => absurd bq2 hc1)
  refine W.aloadN C d11_26 rfl rfl ?_
  refine W.iloadN C d11_27 rfl ?_
  refine W.iload C d11_28 rfl ?_
  refine W.i2b C d11_30 ?_
  refine W.bastoreI C 1 d11_31 Ld rfl (show (1 : Nat) < 4 by decide) g_d1 ?_
  intro hp3 U4 Ld_
  replace Ls := Ls.other U4 ne_b1_d1
  replace Z0 := Nat.le_trans Z0 (Nat.le_of_eq (U4.size).symm)
  replace K0 := K0.wr U4 (Or.inl (List.mem_of_getElem? (i := 0) rfl))
  replace Ld : Al Z hp3 d1 .byte [(.int ((c0).toInt8.toInt32)), (.int ((c1).toInt8.toInt32)), (.int (0 : Int32)), (.int (0 : Int32))] := Ld_
  refine W.iinc C (2 : Int32) #[.val (.ref b1), .val (.int (2 : Int32)), .val (.ref d1), .val (.int (1 : Int32)), .val (.int (4 : Int32)), .val (.int (1 : Int32)), .val (.int c1)] d11_32 rfl rfl rfl ?_
  refine W.iinc C (2 : Int32) #[.val (.ref b1), .val (.int (2 : Int32)), .val (.ref d1), .val (.int (2 : Int32)), .val (.int (4 : Int32)), .val (.int (1 : Int32)), .val (.int c1)] d11_35 rfl rfl rfl ?_
  refine W.iinc C (2 : Int32) #[.val (.ref b1), .val (.int (2 : Int32)), .val (.ref d1), .val (.int (2 : Int32)), .val (.int (4 : Int32)), .val (.int (2 : Int32)), .val (.int c1)] d11_38 rfl rfl rfl ?_
  refine W.goto C 3 d11_41 rfl ?_
  refine W.iload C d11_3 rfl ?_
  refine W.iload C d11_5 rfl ?_
  refine W.icmp_ge C 44 d11_7 rfl (fun b => absurd b (by decide)) (fun _ => ?_)
  refine W.aloadN C d11_10 rfl rfl ?_
  refine W.iloadN C d11_11 rfl ?_
  refine W.caload C 2 d11_12 Ls rfl rfl ?_
  refine W.istore C #[.val (.ref b1), .val (.int (2 : Int32)), .val (.ref d1), .val (.int (2 : Int32)), .val (.int (4 : Int32)), .val (.int (2 : Int32)), .val (.int c2)] d11_13 rfl ?_
  refine W.iload C d11_15 rfl ?_
  refine W.sipush C (255 : Int32) d11_17 rfl ?_
  refine W.icmp_le C 26 d11_20 rfl (fun bq3 => ?_) (fun bq3 => absurd bq3 hc2)
  refine W.aloadN C d11_26 rfl rfl ?_
  refine W.iloadN C d11_27 rfl ?_
  refine W.iload C d11_28 rfl ?_
  refine W.i2b C d11_30 ?_
  refine W.bastoreI C 2 d11_31 Ld rfl (show (2 : Nat) < 4 by decide) g_d1 ?_
  intro hp5 U6 Ld_
  replace Ls := Ls.other U6 ne_b1_d1
  replace Z0 := Nat.le_trans Z0 (Nat.le_of_eq (U6.size).symm)
  replace K0 := K0.wr U6 (Or.inl (List.mem_of_getElem? (i := 0) rfl))
  replace Ld : Al Z hp5 d1 .byte [(.int ((c0).toInt8.toInt32)), (.int ((c1).toInt8.toInt32)), (.int ((c2).toInt8.toInt32)), (.int (0 : Int32))] := Ld_
  refine W.iinc C (3 : Int32) #[.val (.ref b1), .val (.int (3 : Int32)), .val (.ref d1), .val (.int (2 : Int32)), .val (.int (4 : Int32)), .val (.int (2 : Int32)), .val (.int c2)] d11_32 rfl rfl rfl ?_
  refine W.iinc C (3 : Int32) #[.val (.ref b1), .val (.int (3 : Int32)), .val (.ref d1), .val (.int (3 : Int32)), .val (.int (4 : Int32)), .val (.int (2 : Int32)), .val (.int c2)] d11_35 rfl rfl rfl ?_
  refine W.iinc C (3 : Int32) #[.val (.ref b1), .val (.int (3 : Int32)), .val (.ref d1), .val (.int (3 : Int32)), .val (.int (4 : Int32)), .val (.int (3 : Int32)), .val (.int c2)] d11_38 rfl rfl rfl ?_
  refine W.goto C 3 d11_41 rfl ?_
  refine W.iload C d11_3 rfl ?_
  refine W.iload C d11_5 rfl ?_
  refine W.icmp_ge C 44 d11_7 rfl (fun b => absurd b (by decide)) (fun _ => ?_)
  refine W.aloadN C d11_10 rfl rfl ?_
  refine W.iloadN C d11_11 rfl ?_
  refine W.caload C 3 d11_12 Ls rfl rfl ?_
  refine W.istore C #[.val (.ref b1), .val (.int (3 : Int32)), .val (.ref d1), .val (.int (3 : Int32)), .val (.int (4 : Int32)), .val (.int (3 : Int32)), .val (.int c3)] d11_13 rfl ?_
  refine W.iload C d11_15 rfl ?_
  refine W.sipush C (255 : Int32) d11_17 rfl ?_
  refine W.icmp_le C 26 d11_20 rfl (fun bq4 => ?_) (fun bq4 => absurd bq4 hc3)
  refine W.aloadN C d11_26 rfl rfl ?_
  refine W.iloadN C d11_27 rfl ?_
  refine W.iload C d11_28 rfl ?_
  refine W.i2b C d11_30 ?_
  refine W.bastoreI C 3 d11_31 Ld rfl (show (3 : Nat) < 4 by decide) g_d1 ?_
  intro hp7 U8 Ld_
  replace Ls := Ls.other U8 ne_b1_d1
  replace Z0 := Nat.le_trans Z0 (Nat.le_of_eq (U8.size).symm)
  replace K0 := K0.wr U8 (Or.inl (List.mem_of_getElem? (i := 0) rfl))
  replace Ld : Al Z hp7 d1 .byte [(.int ((c0).toInt8.toInt32)), (.int ((c1).toInt8.toInt32)), (.int ((c2).toInt8.toInt32)), (.int ((c3).toInt8.toInt32))] := Ld_
  refine W.iinc C (4 : Int32) #[.val (.ref b1), .val (.int (4 : Int32)), .val (.ref d1), .val (.int (3 : Int32)), .val (.int (4 : Int32)), .val (.int (3 : Int32)), .val (.int c3)] d11_32 rfl rfl rfl ?_
  refine W.iinc C (4 : Int32) #[.val (.ref b1), .val (.int (4 : Int32)), .val (.ref d1), .val (.int (4 : Int32)), .val (.int (4 : Int32)), .val (.int (3 : Int32)), .val (.int c3)] d11_35 rfl rfl rfl ?_
  refine W.iinc C (4 : Int32) #[.val (.ref b1), .val (.int (4 : Int32)), .val (.ref d1), .val (.int (4 : Int32)), .val (.int (4 : Int32)), .val (.int (4 : Int32)), .val (.int c3)] d11_38 rfl rfl rfl ?_
  refine W.goto C 3 d11_41 rfl ?_
  refine W.iload C d11_3 rfl ?_
  refine W.iload C d11_5 rfl ?_
  refine W.icmp_ge C 44 d11_7 rfl (fun _ => ?_) (fun b => absurd b (by decide))
  refine W.iload C d11_44 rfl ?_
  exact W.iret C d11_46 (by simp) rfl (FN.ok (by decide) (by decide) ⟨rfl, K0, Ld⟩)

theorem ef_c3_4 (m : MethodId) (b1 : Addr) : entryFrame m #[(.ref b1), (.int (0 : Int32)), (.int (4 : Int32))] 6 = mkF m 0 #[.val (.ref b1), .val (.int (0 : Int32)), .val (.int (4 : Int32)), .unset, .unset, .unset] [] := by first | (simp [entryFrame, mkF, argsToLocals, Value.category]; done) | rfl
set_option maxRecDepth 65536 in
set_option maxHeartbeats 40000000 in
theorem con_c3_4 (l : Launch) (Z : State) (a0 : Array Value) (hw : ∀ d ∈ tables_1, d.before a0 Z = true) (h0 : Heap) (n0 : Nat) (b1 : Addr) (c0 c1 c2 c3 : Int32) (hc0 : ¬ (255 : Int32) < c0) (hc1 : ¬ (255 : Int32) < c1) (hc2 : ¬ (255 : Int32) < c2) (hc3 : ¬ (255 : Int32) < c3) (Ls : Al Z h0 b1 .char [(.int c0), (.int c1), (.int c2), (.int c3)]) (Z0 : n0 ≤ h0.size) : Con l Z y10 jdk_52_method_16_code 6 (some (.array .byte)) ({ frames := 1, cells := 1, slots := 4, locals := 18 } : Room) #[(.ref b1), (.int (0 : Int32)), (.int (4 : Int32))] h0 n0 (fun v h => ∃ d, v = some (.ref d) ∧ Keep h0 h [] ∧ Al Z h d .byte [(.int ((c0).toInt8.toInt32)), (.int ((c1).toInt8.toInt32)), (.int ((c2).toInt8.toInt32)), (.int ((c3).toInt8.toInt32))] ∧ h0.size ≤ d) := by
  refine Con.of pf_10 (fun m => ef_c3_4 m b1) ?_
  intro p e s m below meth c C
  have K0 : Keep h0 h0 [] := Keep.refl _ _
  refine W.iloadN C d10_0 rfl ?_
  refine W.newP C 4 4 d10_1 (tkw hw 21 rfl) rfl (Nat.le_refl _) (by decide) 1 4 rfl rfl (by decide) (by decide) ?_
  intro ob1 hp2 hob1 Eob1 Lob1
  have ne_b1_ob1 : b1 ≠ ob1 := Nat.ne_of_lt (by rw [hob1]; exact Ls.lt)
  have ge_ob1 : n0 ≤ ob1 := by rw [hob1]; exact Z0
  have sz_ob1 : h0.size ≤ ob1 := by rw [hob1]; exact K0.1
  replace Ls := Ls.ext Eob1
  replace Z0 := Nat.le_trans Z0 Eob1.1
  replace K0 := K0.ext Eob1
  replace Lob1 : Al Z hp2 ob1 .byte [(.int (0 : Int32)), (.int (0 : Int32)), (.int (0 : Int32)), (.int (0 : Int32))] := Lob1
  refine W.astoreN C #[.val (.ref b1), .val (.int (0 : Int32)), .val (.int (4 : Int32)), .val (.ref ob1), .unset, .unset] d10_3 rfl rfl ?_
  refine W.aloadN C d10_4 rfl rfl ?_
  refine W.iloadN C d10_5 rfl ?_
  refine W.aloadN C d10_6 rfl rfl ?_
  refine W.iconst C (0 : Int32) d10_7 rfl ?_
  refine W.iloadN C d10_8 rfl ?_
  refine W.callS C (y' := y11) d10_9 (tkw hw 57 rfl) (tkw hw 58 rfl) (tkw hw 55 rfl) (tkw hw 59 rfl) (by decide) (argsL := [(.ref b1), (.int (0 : Int32)), (.ref ob1), (.int (0 : Int32)), (.int (4 : Int32))]) (rest := []) rfl (lenOf pd_11 rfl) (con_c4_4 l Z a0 hw hp2 n0 b1 ob1 c0 c1 c2 c3 hc0 hc1 hc2 hc3 ne_b1_ob1 ge_ob1 Ls Lob1 Z0) 0 1 4 rfl rfl rfl (by decide) (by decide) (by decide) (by decide) rfl ?_
  rintro _ hp3 ⟨rfl, Kc, L_⟩
  replace Ls := Ls.keep Kc (ninS ne_b1_ob1 nin0)
  replace Z0 := Nat.le_trans Z0 Kc.1
  replace K0 := K0.trans Kc (allS (Or.inr sz_ob1) all0)
  replace Lob1 := L_
  refine W.istore C #[.val (.ref b1), .val (.int (0 : Int32)), .val (.int (4 : Int32)), .val (.ref ob1), .val (.int (4 : Int32)), .unset] d10_12 rfl ?_
  refine W.iload C d10_14 rfl ?_
  refine W.iloadN C d10_16 rfl ?_
  refine W.icmp_eq C 57 d10_17 rfl (fun _ => ?_) (fun b => absurd b (by decide))
  refine W.aloadN C d10_57 rfl rfl ?_
  exact W.aret C d10_58 rfl rfl rfl (FN.ok (by decide) (by decide) ⟨ob1, rfl, K0, Lob1, sz_ob1⟩)

theorem ef_co_4 (m : MethodId) (d1 : Addr) : entryFrame m #[(.ref d1), (.int (4 : Int32))] 2 = mkF m 0 #[.val (.ref d1), .val (.int (4 : Int32))] [] := by first | (simp [entryFrame, mkF, argsToLocals, Value.category]; done) | rfl
set_option maxRecDepth 65536 in
set_option maxHeartbeats 40000000 in
theorem con_co_4 (l : Launch) (Z : State) (a0 : Array Value) (hw : ∀ d ∈ tables_1, d.before a0 Z = true) (h0 : Heap) (n0 : Nat) (d1 : Addr) (c0 c1 c2 c3 : Int32) (Ld : Al Z h0 d1 .byte [(.int ((c0).toInt8.toInt32)), (.int ((c1).toInt8.toInt32)), (.int ((c2).toInt8.toInt32)), (.int ((c3).toInt8.toInt32))]) (Z0 : n0 ≤ h0.size) : Con l Z y12 jdk_52_method_15_code 2 (some .byte) ({ frames := 0, cells := 0, slots := 0, locals := 0 } : Room) #[(.ref d1), (.int (4 : Int32))] h0 n0 (Pu (some (.int 0)) h0) := by
  refine Con.of pf_12 (fun m => ef_co_4 m d1) ?_
  intro p e s m below meth c C
  refine W.iloadN C d12_0 rfl ?_
  refine W.aloadN C d12_1 rfl rfl ?_
  refine W.arrlen C (4 : Int32) d12_2 Ld rfl ?_
  refine W.isubV C (0 : Int32) d12_3 (by decide) ?_
  refine W.bipush C (31 : Int32) d12_4 rfl ?_
  refine W.iushrV C (0 : Int32) d12_6 (by decide) ?_
  refine W.i2bV C (0 : Int32) d12_7 (by decide) ?_
  exact W.iret C d12_8 (by simp) rfl (FN.ok (by decide) (by decide) ⟨rfl, rfl⟩)

theorem ef_i4_4 (m : MethodId) (a1 : Addr) (b1 : Addr) : entryFrame m #[(.ref a1), (.ref b1), (.int (0 : Int32)), (.int (4 : Int32)), .null] 6 = mkF m 0 #[.val (.ref a1), .val (.ref b1), .val (.int (0 : Int32)), .val (.int (4 : Int32)), .val .null, .unset] [] := by first | (simp [entryFrame, mkF, argsToLocals, Value.category]; done) | rfl
set_option maxRecDepth 65536 in
set_option maxHeartbeats 40000000 in
theorem con_i4_4 (l : Launch) (Z : State) (a0 : Array Value) (hw : ∀ d ∈ tables_1, d.before a0 Z = true) (h0 : Heap) (n0 : Nat) (a1 : Addr) (b1 : Addr) (c0 c1 c2 c3 : Int32) (hc0 : ¬ (255 : Int32) < c0) (hc1 : ¬ (255 : Int32) < c1) (hc2 : ¬ (255 : Int32) < c2) (hc3 : ¬ (255 : Int32) < c3) (u0 u1 : Value) (cv : Int32) (ne_a1_b1 : a1 ≠ b1) (g_a1 : n0 ≤ a1) (E_a1 : Exa Z h0 a1 "java/lang/String") (Fv : Fld Z h0 a1 "java/lang/String" "value" "[B" u0) (Fc : Fld Z h0 a1 "java/lang/String" "coder" "B" u1) (Ls : Al Z h0 b1 .char [(.int c0), (.int c1), (.int c2), (.int c3)]) (S_C : Sta Z h0 "java/lang/String" "COMPACT_STRINGS" "Z" (.int cv)) (hcv : ¬ cv = 0) (Z0 : n0 ≤ h0.size) : Con l Z y3 jdk_42_method_149_code 6 none ({ frames := 2, cells := 1, slots := 4, locals := 35 } : Room) #[(.ref a1), (.ref b1), (.int (0 : Int32)), (.int (4 : Int32)), .null] h0 n0 (fun v h => v = none ∧ Keep h0 h [a1] ∧ Exa Z h a1 "java/lang/String" ∧ ∃ d, Fld Z h a1 "java/lang/String" "value" "[B" (.ref d) ∧ Fld Z h a1 "java/lang/String" "coder" "B" (.int 0) ∧ Al Z h d .byte [(.int ((c0).toInt8.toInt32)), (.int ((c1).toInt8.toInt32)), (.int ((c2).toInt8.toInt32)), (.int ((c3).toInt8.toInt32))]) := by
  refine Con.of pf_3 (fun m => ef_i4_4 m a1 b1) ?_
  intro p e s m below meth c C
  have K0 : Keep h0 h0 [a1] := Keep.refl _ _
  refine W.aloadN C d3_0 rfl rfl ?_
  refine W.initO C d3_1 (tkw hw 17 rfl) (tkw hw 18 rfl) (tkw hw 19 rfl) 0 rfl (by decide) (by decide) rfl ?_
  refine W.iloadN C d3_4 rfl ?_
  refine W.if_ne C 27 d3_5 rfl (fun _ => ?_) (fun b => absurd b (by decide))
  refine W.getS C d3_27 (tkw hw 51 rfl) Via.refl S_C ?_
  refine W.if_eq C 58 d3_30 rfl (fun bq1 => absurd bq1 hcv) (fun bq1 => ?_)
  refine W.aloadN C d3_33 rfl rfl ?_
  refine W.iloadN C d3_34 rfl ?_
  refine W.iloadN C d3_35 rfl ?_
  refine W.callS C (y' := y10) d3_36 (tkw hw 53 rfl) (tkw hw 54 rfl) (tkw hw 55 rfl) (tkw hw 56 rfl) (by decide) (argsL := [(.ref b1), (.int (0 : Int32)), (.int (4 : Int32))]) (rest := []) rfl (lenOf pd_12 rfl) (con_c3_4 l Z a0 hw h0 n0 b1 c0 c1 c2 c3 hc0 hc1 hc2 hc3 Ls Z0) 0 1 4 rfl rfl rfl (by decide) (by decide) (by decide) (by decide) rfl ?_
  rintro _ hp2 ⟨d1, rfl, Kc, Ld1, sz⟩
  have ne_a1_d1 : a1 ≠ d1 := Nat.ne_of_lt (Nat.lt_of_lt_of_le E_a1.lt sz)
  replace E_a1 := E_a1.ext (ext0 Kc)
  replace Fv := Fv.ext (ext0 Kc)
  replace Fc := Fc.ext (ext0 Kc)
  replace Ls := Ls.ext (ext0 Kc)
  replace S_C := S_C.ext (ext0 Kc)
  replace Z0 := Nat.le_trans Z0 (ext0 Kc).1
  replace K0 := K0.ext (ext0 Kc)
  refine W.astore C #[.val (.ref a1), .val (.ref b1), .val (.int (0 : Int32)), .val (.int (4 : Int32)), .val .null, .val (.ref d1)] d3_39 rfl rfl ?_
  refine W.aloadN C d3_41 rfl rfl ?_
  refine W.aload C d3_42 rfl rfl ?_
  refine W.iloadN C d3_44 rfl ?_
  refine W.callS C (y' := y12) d3_45 (tkw hw 60 rfl) (tkw hw 61 rfl) (tkw hw 55 rfl) (tkw hw 62 rfl) (by decide) (argsL := [(.ref d1), (.int (4 : Int32))]) (rest := [(.ref a1)]) rfl (lenOf pd_14 rfl) (con_co_4 l Z a0 hw hp2 n0 d1 c0 c1 c2 c3 Ld1 Z0) 1 1 4 rfl rfl rfl (by decide) (by decide) (by decide) (by decide) rfl ?_
  rintro _ _ ⟨rfl, rfl⟩
  refine W.putF C d3_48 (tkw hw 27 rfl) Via.refl Fc E_a1 (Or.inr ⟨(tkw hw 23 rfl), rfl, rfl⟩) (tkw hw 7 rfl) (ty := .byte) (by decide) rfl rfl g_a1 ?_
  intro hp3 U4
  replace Fc := Fc.same U4
  replace E_a1 := E_a1.wr U4
  replace Fv := Fv.other U4 (Or.inr (slot_ne (Or.inr (tkw hw 22 rfl)) (Or.inr (tkw hw 23 rfl)) (by decide) (t := (.array .byte)) (t' := .byte) (by decide) (by decide)))
  replace Ls := Ls.other U4 (Ne.symm ne_a1_b1)
  replace S_C := S_C.wr U4
  replace Z0 := Nat.le_trans Z0 (Nat.le_of_eq (U4.size).symm)
  replace K0 := K0.wr U4 (Or.inl (List.mem_of_getElem? (i := 0) rfl))
  replace Ld1 := Ld1.other U4 (Ne.symm ne_a1_d1)
  refine W.aloadN C d3_51 rfl rfl ?_
  refine W.aload C d3_52 rfl rfl ?_
  refine W.putF C d3_54 (tkw hw 26 rfl) Via.refl Fv E_a1 (Or.inr ⟨(tkw hw 22 rfl), rfl, rfl⟩) (tkw hw 7 rfl) (ty := (.array .byte)) (by decide) rfl rfl g_a1 ?_
  intro hp5 U6
  replace Fv := Fv.same U6
  replace E_a1 := E_a1.wr U6
  replace Fc := Fc.other U6 (Or.inr (slot_ne (Or.inr (tkw hw 23 rfl)) (Or.inr (tkw hw 22 rfl)) (by decide) (t := .byte) (t' := (.array .byte)) (by decide) (by decide)))
  replace Ls := Ls.other U6 (Ne.symm ne_a1_b1)
  replace S_C := S_C.wr U6
  replace Z0 := Nat.le_trans Z0 (Nat.le_of_eq (U6.size).symm)
  replace K0 := K0.wr U6 (Or.inl (List.mem_of_getElem? (i := 0) rfl))
  replace Ld1 := Ld1.other U6 (Ne.symm ne_a1_d1)
  exact W.retV C d3_57 (FN.ok (by decide) (by decide) ⟨rfl, K0, E_a1, d1, Fv, Fc, Ld1⟩)

theorem ef_i1_4 (m : MethodId) (a1 : Addr) (b1 : Addr) : entryFrame m #[(.ref a1), (.ref b1)] 2 = mkF m 0 #[.val (.ref a1), .val (.ref b1)] [] := by first | (simp [entryFrame, mkF, argsToLocals, Value.category]; done) | rfl
set_option maxRecDepth 65536 in
set_option maxHeartbeats 40000000 in
theorem con_i1_4 (l : Launch) (Z : State) (a0 : Array Value) (hw : ∀ d ∈ tables_1, d.before a0 Z = true) (h0 : Heap) (n0 : Nat) (a1 : Addr) (b1 : Addr) (c0 c1 c2 c3 : Int32) (hc0 : ¬ (255 : Int32) < c0) (hc1 : ¬ (255 : Int32) < c1) (hc2 : ¬ (255 : Int32) < c2) (hc3 : ¬ (255 : Int32) < c3) (u0 u1 : Value) (cv : Int32) (ne_a1_b1 : a1 ≠ b1) (g_a1 : n0 ≤ a1) (E_a1 : Exa Z h0 a1 "java/lang/String") (Fv : Fld Z h0 a1 "java/lang/String" "value" "[B" u0) (Fc : Fld Z h0 a1 "java/lang/String" "coder" "B" u1) (Ls : Al Z h0 b1 .char [(.int c0), (.int c1), (.int c2), (.int c3)]) (S_C : Sta Z h0 "java/lang/String" "COMPACT_STRINGS" "Z" (.int cv)) (hcv : ¬ cv = 0) (Z0 : n0 ≤ h0.size) : Con l Z y2 jdk_42_method_3_code 2 none ({ frames := 3, cells := 1, slots := 4, locals := 52 } : Room) #[(.ref a1), (.ref b1)] h0 n0 (fun v h => v = none ∧ Keep h0 h [a1] ∧ Exa Z h a1 "java/lang/String" ∧ ∃ d, Fld Z h a1 "java/lang/String" "value" "[B" (.ref d) ∧ Fld Z h a1 "java/lang/String" "coder" "B" (.int 0) ∧ Al Z h d .byte [(.int ((c0).toInt8.toInt32)), (.int ((c1).toInt8.toInt32)), (.int ((c2).toInt8.toInt32)), (.int ((c3).toInt8.toInt32))]) := by
  refine Con.of pf_2 (fun m => ef_i1_4 m a1 b1) ?_
  intro p e s m below meth c C
  have K0 : Keep h0 h0 [a1] := Keep.refl _ _
  refine W.aloadN C d2_0 rfl rfl ?_
  refine W.aloadN C d2_1 rfl rfl ?_
  refine W.iconst C (0 : Int32) d2_2 rfl ?_
  refine W.aloadN C d2_3 rfl rfl ?_
  refine W.arrlen C (4 : Int32) d2_4 Ls rfl ?_
  refine W.aconstNull C d2_5 ?_
  refine W.callI C (y' := y3) d2_6 rfl (tkw hw 13 rfl) (tkw hw 14 rfl) (tkw hw 8 rfl) (tkw hw 16 rfl) (by decide) (a := a1) (argsL := [(.ref b1), (.int (0 : Int32)), (.int (4 : Int32)), .null]) (rest := []) rfl (lenOf pd_15 rfl) (con_i4_4 l Z a0 hw h0 n0 a1 b1 c0 c1 c2 c3 hc0 hc1 hc2 hc3 u0 u1 cv ne_a1_b1 g_a1 E_a1 Fv Fc Ls S_C hcv Z0) 0 1 4 rfl rfl rfl (by decide) (by decide) (by decide) (by decide) rfl ?_
  rintro _ hp1 ⟨rfl, Kc, E_n, d, Fv_n, Fc_n, Ld⟩
  replace Ls := Ls.keep Kc (ninS (Ne.symm ne_a1_b1) nin0)
  replace Z0 := Nat.le_trans Z0 Kc.1
  replace K0 := K0.trans Kc (allS (Or.inl (List.mem_of_getElem? (i := 0) rfl)) all0)
  replace E_a1 := E_n
  replace Fv := Fv_n
  replace Fc := Fc_n
  exact W.retV C d2_9 (FN.ok (by decide) (by decide) ⟨rfl, K0, E_a1, d, Fv, Fc, Ld⟩)

theorem ef_i4_0 (m : MethodId) (a1 : Addr) (b1 : Addr) : entryFrame m #[(.ref a1), (.ref b1), (.int (0 : Int32)), (.int (0 : Int32)), .null] 6 = mkF m 0 #[.val (.ref a1), .val (.ref b1), .val (.int (0 : Int32)), .val (.int (0 : Int32)), .val .null, .unset] [] := by first | (simp [entryFrame, mkF, argsToLocals, Value.category]; done) | rfl
set_option maxRecDepth 65536 in
set_option maxHeartbeats 40000000 in
theorem con_i4_0 (l : Launch) (Z : State) (a0 : Array Value) (hw : ∀ d ∈ tables_1, d.before a0 Z = true) (h0 : Heap) (n0 : Nat) (a1 : Addr) (b1 : Addr) (u0 u1 : Value) (g_a1 : n0 ≤ a1) (E_a1 : Exa Z h0 a1 "java/lang/String") (Fv : Fld Z h0 a1 "java/lang/String" "value" "[B" u0) (Fc : Fld Z h0 a1 "java/lang/String" "coder" "B" u1) (Z0 : n0 ≤ h0.size) : ConW l Z y3 jdk_42_method_149_code 6 none ({ frames := 1, cells := 4, slots := 8, locals := 12 } : Room) #[(.ref a1), (.ref b1), (.int (0 : Int32)), (.int (0 : Int32)), .null] h0 n0 (fun vm => CHv Z own_EL vm h0 ∧ Safe Z own_EL vm h0 a1) (fun v h vm => v = none ∧ Keep h0 h [a1] ∧ Exa Z h a1 "java/lang/String" ∧ CHv Z own_EL vm h ∧ ∃ d, Fld Z h a1 "java/lang/String" "value" "[B" (.ref d) ∧ Fld Z h a1 "java/lang/String" "coder" "B" (.int 0) ∧ Al Z h d .byte []) := by
  refine ConW.of pf_3 (fun m => ef_i4_0 m a1 b1) ?_
  intro p e s m below meth c C PV hS
  obtain ⟨Hc, Sf_a1⟩ := PV
  have K0 : Keep h0 h0 [a1] := Keep.refl _ _
  refine W.aloadN C d3_0 rfl rfl ?_
  refine W.initO C d3_1 (tkw hw 17 rfl) (tkw hw 18 rfl) (tkw hw 19 rfl) 0 rfl (by decide) (by decide) rfl ?_
  refine W.iloadN C d3_4 rfl ?_
  refine W.if_ne C 27 d3_5 rfl (fun b => absurd b (by decide)) (fun _ => ?_)
  refine W.aloadN C d3_8 rfl rfl ?_
  have lt_a1 := E_a1.lt
  refine W.ldcV C hS d3_9 (tkw hw 20 rfl) (own_sa hw) (own_ew hw) (List.mem_of_getElem? (i := 2) rfl) Hc 2 4 rfl rfl (by decide) (by decide) ?_
  intro lt1 hp2 vm3 lb4 Elt1 Xlt1 Fclt1 Fvlt1 Llb4 HR hne C hS
  replace Sf_a1 := HR.safe lt_a1 Sf_a1
  replace Hc := HR.1
  have ne_a1_lt1 := (hne _ Sf_a1).1
  have ne_a1_lb4 := (hne _ Sf_a1).2
  replace E_a1 := E_a1.ext Elt1
  replace Fv := Fv.ext Elt1
  replace Fc := Fc.ext Elt1
  replace Z0 := Nat.le_trans Z0 Elt1.1
  replace K0 := K0.ext Elt1
  refine W.getF C d3_11 (tkw hw 26 rfl) Via.refl Fvlt1 ?_
  refine W.putF C d3_14 (tkw hw 26 rfl) Via.refl Fv E_a1 (Or.inr ⟨(tkw hw 22 rfl), rfl, rfl⟩) (tkw hw 7 rfl) (ty := (.array .byte)) (by decide) rfl rfl g_a1 ?_
  intro hp5 U6
  replace Fv := Fv.same U6
  have Sf_new := Safe.wr U6 Sf_a1 Hc Sf_a1
  replace Hc := CHv.wr U6 Sf_a1 Hc
  replace Sf_a1 := Sf_new
  replace E_a1 := E_a1.wr U6
  replace Fc := Fc.other U6 (Or.inr (slot_ne (Or.inr (tkw hw 23 rfl)) (Or.inr (tkw hw 22 rfl)) (by decide) (t := .byte) (t' := (.array .byte)) (by decide) (by decide)))
  replace hS := hS.le (Nat.le_of_eq (U6.size).symm)
  replace Z0 := Nat.le_trans Z0 (Nat.le_of_eq (U6.size).symm)
  replace K0 := K0.wr U6 (Or.inl (List.mem_of_getElem? (i := 0) rfl))
  replace Xlt1 := Xlt1.wr U6
  replace Fclt1 := Fclt1.other U6 (Or.inl (Ne.symm ne_a1_lt1))
  replace Fvlt1 := Fvlt1.other U6 (Or.inl (Ne.symm ne_a1_lt1))
  replace Llb4 := Llb4.other U6 (Ne.symm ne_a1_lb4)
  refine W.aloadN C d3_17 rfl rfl ?_
  have lt_a1 := E_a1.lt
  refine W.ldcV C hS d3_18 (tkw hw 20 rfl) (own_sa hw) (own_ew hw) (List.mem_of_getElem? (i := 2) rfl) Hc 4 8 rfl rfl (by decide) (by decide) ?_
  intro lt7 hp8 vm9 lb10 Elt7 Xlt7 Fclt7 Fvlt7 Llb10 HR hne C hS
  replace Sf_a1 := HR.safe lt_a1 Sf_a1
  replace Hc := HR.1
  have ne_a1_lt7 := (hne _ Sf_a1).1
  have ne_a1_lb10 := (hne _ Sf_a1).2
  replace E_a1 := E_a1.ext Elt7
  replace Fv := Fv.ext Elt7
  replace Fc := Fc.ext Elt7
  replace Z0 := Nat.le_trans Z0 Elt7.1
  replace K0 := K0.ext Elt7
  replace Xlt1 := Xlt1.ext Elt7
  replace Fclt1 := Fclt1.ext Elt7
  replace Fvlt1 := Fvlt1.ext Elt7
  replace Llb4 := Llb4.ext Elt7
  refine W.getF C d3_20 (tkw hw 27 rfl) Via.refl Fclt7 ?_
  refine W.putF C d3_23 (tkw hw 27 rfl) Via.refl Fc E_a1 (Or.inr ⟨(tkw hw 23 rfl), rfl, rfl⟩) (tkw hw 7 rfl) (ty := .byte) (by decide) rfl rfl g_a1 ?_
  intro hp11 U12
  replace Fc := Fc.same U12
  have Sf_new := Safe.wr U12 Sf_a1 Hc Sf_a1
  replace Hc := CHv.wr U12 Sf_a1 Hc
  replace Sf_a1 := Sf_new
  replace E_a1 := E_a1.wr U12
  replace Fv := Fv.other U12 (Or.inr (slot_ne (Or.inr (tkw hw 22 rfl)) (Or.inr (tkw hw 23 rfl)) (by decide) (t := (.array .byte)) (t' := .byte) (by decide) (by decide)))
  replace hS := hS.le (Nat.le_of_eq (U12.size).symm)
  replace Z0 := Nat.le_trans Z0 (Nat.le_of_eq (U12.size).symm)
  replace K0 := K0.wr U12 (Or.inl (List.mem_of_getElem? (i := 0) rfl))
  replace Xlt1 := Xlt1.wr U12
  replace Fclt1 := Fclt1.other U12 (Or.inl (Ne.symm ne_a1_lt1))
  replace Fvlt1 := Fvlt1.other U12 (Or.inl (Ne.symm ne_a1_lt1))
  replace Llb4 := Llb4.other U12 (Ne.symm ne_a1_lb4)
  replace Xlt7 := Xlt7.wr U12
  replace Fclt7 := Fclt7.other U12 (Or.inl (Ne.symm ne_a1_lt7))
  replace Fvlt7 := Fvlt7.other U12 (Or.inl (Ne.symm ne_a1_lt7))
  replace Llb10 := Llb10.other U12 (Ne.symm ne_a1_lb10)
  exact W.retV C d3_26 (FW.ok hS (by decide) (by decide) (fun vm' hW' => ⟨rfl, K0, E_a1, (chw C.2.1 hW' (own_ew hw) Hc).1, lb4, Fv, Fc, Llb4⟩))

theorem ef_i1_0 (m : MethodId) (a1 : Addr) (b1 : Addr) : entryFrame m #[(.ref a1), (.ref b1)] 2 = mkF m 0 #[.val (.ref a1), .val (.ref b1)] [] := by first | (simp [entryFrame, mkF, argsToLocals, Value.category]; done) | rfl
set_option maxRecDepth 65536 in
set_option maxHeartbeats 40000000 in
theorem con_i1_0 (l : Launch) (Z : State) (a0 : Array Value) (hw : ∀ d ∈ tables_1, d.before a0 Z = true) (h0 : Heap) (n0 : Nat) (a1 : Addr) (b1 : Addr) (u0 u1 : Value) (g_a1 : n0 ≤ a1) (E_a1 : Exa Z h0 a1 "java/lang/String") (Fv : Fld Z h0 a1 "java/lang/String" "value" "[B" u0) (Fc : Fld Z h0 a1 "java/lang/String" "coder" "B" u1) (Ls : Al Z h0 b1 .char []) (Z0 : n0 ≤ h0.size) : ConW l Z y2 jdk_42_method_3_code 2 none ({ frames := 2, cells := 4, slots := 8, locals := 29 } : Room) #[(.ref a1), (.ref b1)] h0 n0 (fun vm => CHv Z own_EL vm h0 ∧ Safe Z own_EL vm h0 a1) (fun v h vm => v = none ∧ Keep h0 h [a1] ∧ Exa Z h a1 "java/lang/String" ∧ CHv Z own_EL vm h ∧ ∃ d, Fld Z h a1 "java/lang/String" "value" "[B" (.ref d) ∧ Fld Z h a1 "java/lang/String" "coder" "B" (.int 0) ∧ Al Z h d .byte []) := by
  refine ConW.of pf_2 (fun m => ef_i1_0 m a1 b1) ?_
  intro p e s m below meth c C PV hS
  obtain ⟨Hc, Sf_a1⟩ := PV
  have K0 : Keep h0 h0 [a1] := Keep.refl _ _
  refine W.aloadN C d2_0 rfl rfl ?_
  refine W.aloadN C d2_1 rfl rfl ?_
  refine W.iconst C (0 : Int32) d2_2 rfl ?_
  refine W.aloadN C d2_3 rfl rfl ?_
  refine W.arrlen C (0 : Int32) d2_4 Ls rfl ?_
  refine W.aconstNull C d2_5 ?_
  refine W.callIW C hS (y' := y3) d2_6 rfl (tkw hw 13 rfl) (tkw hw 14 rfl) (tkw hw 8 rfl) (tkw hw 16 rfl) (by decide) (a := a1) (argsL := [(.ref b1), (.int (0 : Int32)), (.int (0 : Int32)), .null]) (rest := []) rfl (lenOf pd_15 rfl) (con_i4_0 l Z a0 hw h0 n0 a1 b1 u0 u1 g_a1 E_a1 Fv Fc Z0) (fun vm' hW' => ⟨(chw C.2.1 hW' (own_ew hw) Hc).1, (chw C.2.1 hW' (own_ew hw) Hc).safe E_a1.lt Sf_a1⟩) 0 4 8 rfl rfl rfl (by decide) (by decide) (by decide) (by decide) rfl ?_
  rintro _ hp1 vm2 ⟨rfl, Kc, E_n, Hn, d, Fv_n, Fc_n, Ld⟩ _ C hSn
  replace Z0 := Nat.le_trans Z0 Kc.1
  replace K0 := K0.trans Kc (allS (Or.inl (List.mem_of_getElem? (i := 0) rfl)) all0)
  replace E_a1 := E_n
  replace Fv := Fv_n
  replace Fc := Fc_n
  replace Hc := Hn
  replace hS := hSn
  exact W.retV C d2_9 (FW.ok hS (by decide) (by decide) (fun vm' hW' => ⟨rfl, K0, E_a1, (chw C.2.1 hW' (own_ew hw) Hc).1, d, Fv, Fc, Ld⟩))

abbrev y21 : MethodName := ⟨"java/lang/StringUTF16", "putChar", "([BII)V"⟩
theorem d21_0 : decode jdk_52_method_4_code 0 = .ok (.getstatic 44, 3) := by decide +kernel
theorem d21_3 : decode jdk_52_method_4_code 3 = .ok (.ifCond .ne 25, 3) := by decide +kernel
theorem d21_6 : decode jdk_52_method_4_code 6 = .ok (.iload_n 1, 1) := by decide +kernel
theorem d21_7 : decode jdk_52_method_4_code 7 = .ok (.ifCond .lt 11, 3) := by decide +kernel
theorem d21_10 : decode jdk_52_method_4_code 10 = .ok (.iload_n 1, 1) := by decide +kernel
theorem d21_11 : decode jdk_52_method_4_code 11 = .ok (.aload_n 0, 1) := by decide +kernel
theorem d21_12 : decode jdk_52_method_4_code 12 = .ok (.invokestatic 48, 3) := by decide +kernel
theorem d21_15 : decode jdk_52_method_4_code 15 = .ok (.if_icmp .lt 13, 3) := by decide +kernel
theorem d21_18 : decode jdk_52_method_4_code 18 = .ok (.new 52, 3) := by decide +kernel
theorem d21_21 : decode jdk_52_method_4_code 21 = .ok (.dup, 1) := by decide +kernel
theorem d21_22 : decode jdk_52_method_4_code 22 = .ok (.ldc 54, 2) := by decide +kernel
theorem d21_24 : decode jdk_52_method_4_code 24 = .ok (.invokespecial 56, 3) := by decide +kernel
theorem d21_27 : decode jdk_52_method_4_code 27 = .ok (.athrow, 1) := by decide +kernel
theorem d21_28 : decode jdk_52_method_4_code 28 = .ok (.iload_n 1, 1) := by decide +kernel
theorem d21_29 : decode jdk_52_method_4_code 29 = .ok (.iconst 1, 1) := by decide +kernel
theorem d21_30 : decode jdk_52_method_4_code 30 = .ok (.ishl, 1) := by decide +kernel
theorem d21_31 : decode jdk_52_method_4_code 31 = .ok (.istore_n 1, 1) := by decide +kernel
theorem d21_32 : decode jdk_52_method_4_code 32 = .ok (.aload_n 0, 1) := by decide +kernel
theorem d21_33 : decode jdk_52_method_4_code 33 = .ok (.iload_n 1, 1) := by decide +kernel
theorem d21_34 : decode jdk_52_method_4_code 34 = .ok (.iinc 1 1, 3) := by decide +kernel
theorem d21_37 : decode jdk_52_method_4_code 37 = .ok (.iload_n 2, 1) := by decide +kernel
theorem d21_38 : decode jdk_52_method_4_code 38 = .ok (.getstatic 59, 3) := by decide +kernel
theorem d21_41 : decode jdk_52_method_4_code 41 = .ok (.ishr, 1) := by decide +kernel
theorem d21_42 : decode jdk_52_method_4_code 42 = .ok (.i2b, 1) := by decide +kernel
theorem d21_43 : decode jdk_52_method_4_code 43 = .ok (.bastore, 1) := by decide +kernel
theorem d21_44 : decode jdk_52_method_4_code 44 = .ok (.aload_n 0, 1) := by decide +kernel
theorem d21_45 : decode jdk_52_method_4_code 45 = .ok (.iload_n 1, 1) := by decide +kernel
theorem d21_46 : decode jdk_52_method_4_code 46 = .ok (.iload_n 2, 1) := by decide +kernel
theorem d21_47 : decode jdk_52_method_4_code 47 = .ok (.getstatic 63, 3) := by decide +kernel
theorem d21_50 : decode jdk_52_method_4_code 50 = .ok (.ishr, 1) := by decide +kernel
theorem d21_51 : decode jdk_52_method_4_code 51 = .ok (.i2b, 1) := by decide +kernel
theorem d21_52 : decode jdk_52_method_4_code 52 = .ok (.bastore, 1) := by decide +kernel
theorem d21_53 : decode jdk_52_method_4_code 53 = .ok (.return_, 1) := by decide +kernel
theorem pf_21 : plainFor y21 = true := by first | exact plainFor_of_name (by first | (simp [plainName, overriddenIn]; done) | decide +kernel) | decide +kernel
theorem ef_pt_0 (m : MethodId) (d1 : Addr) (cz : Int32) : entryFrame m #[(.ref d1), (.int (0 : Int32)), (.int cz)] 3 = mkF m 0 #[.val (.ref d1), .val (.int (0 : Int32)), .val (.int cz)] [] := by first | (simp [entryFrame, mkF, argsToLocals, Value.category]; done) | rfl
set_option maxRecDepth 65536 in
set_option maxHeartbeats 40000000 in
theorem con_pt_0 (l : Launch) (Z : State) (a0 : Array Value) (hw : ∀ d ∈ tables_1, d.before a0 Z = true) (h0 : Heap) (n0 : Nat) (d1 : Addr) (cz : Int32) (vs : List Value) (g_d1 : n0 ≤ d1) (hlen : 1 < vs.length) (Ld : Al Z h0 d1 .byte vs) (S_A : Sta Z h0 "java/lang/StringUTF16" "$assertionsDisabled" "Z" (.int (1 : Int32))) (S_H : Sta Z h0 "java/lang/StringUTF16" "HI_BYTE_SHIFT" "I" (.int (0 : Int32))) (S_L : Sta Z h0 "java/lang/StringUTF16" "LO_BYTE_SHIFT" "I" (.int (8 : Int32))) (Z0 : n0 ≤ h0.size) : Con l Z y21 jdk_52_method_4_code 3 none ({ frames := 0, cells := 0, slots := 0, locals := 0 } : Room) #[(.ref d1), (.int (0 : Int32)), (.int cz)] h0 n0 (fun v h => v = none ∧ Keep h0 h [d1] ∧ Al Z h d1 .byte ((vs.set 0 (.int (((cz >>> ((0 : Int32) &&& 31))).toInt8.toInt32))).set 1 (.int (((cz >>> ((8 : Int32) &&& 31))).toInt8.toInt32)))) := by
  refine Con.of pf_21 (fun m => ef_pt_0 m d1 cz) ?_
  intro p e s m below meth c C
  have K0 : Keep h0 h0 [d1] := Keep.refl _ _
  refine W.getS C d21_0 (tkw hw 98 rfl) Via.refl S_A ?_
  refine W.if_ne C 28 d21_3 rfl (fun _ => ?_) (fun b => absurd b (by decide))
  refine W.iloadN C d21_28 rfl ?_
  refine W.iconst C (1 : Int32) d21_29 rfl ?_
  refine W.ishlV C (0 : Int32) d21_30 (by decide) ?_
  refine W.istoreN C #[.val (.ref d1), .val (.int (0 : Int32)), .val (.int cz)] d21_31 rfl ?_
  refine W.aloadN C d21_32 rfl rfl ?_
  refine W.iloadN C d21_33 rfl ?_
  refine W.iinc C (1 : Int32) #[.val (.ref d1), .val (.int (1 : Int32)), .val (.int cz)] d21_34 rfl rfl rfl ?_
  refine W.iloadN C d21_37 rfl ?_
  refine W.getS C d21_38 (tkw hw 99 rfl) Via.refl S_H ?_
  refine W.ishr C d21_41 ?_
  refine W.i2b C d21_42 ?_
  refine W.bastoreI C 0 d21_43 Ld rfl (Nat.lt_of_succ_lt hlen) g_d1 ?_
  intro hp1 U2 Ld_
  replace S_A := S_A.wr U2
  replace S_H := S_H.wr U2
  replace S_L := S_L.wr U2
  replace Z0 := Nat.le_trans Z0 (Nat.le_of_eq (U2.size).symm)
  replace K0 := K0.wr U2 (Or.inl (List.mem_of_getElem? (i := 0) rfl))
  replace Ld : Al Z hp1 d1 .byte (vs.set 0 (.int (((cz >>> ((0 : Int32) &&& 31))).toInt8.toInt32))) := Ld_
  refine W.aloadN C d21_44 rfl rfl ?_
  refine W.iloadN C d21_45 rfl ?_
  refine W.iloadN C d21_46 rfl ?_
  refine W.getS C d21_47 (tkw hw 100 rfl) Via.refl S_L ?_
  refine W.ishr C d21_50 ?_
  refine W.i2b C d21_51 ?_
  refine W.bastoreI C 1 d21_52 Ld rfl (by rw [List.length_set]; exact hlen) g_d1 ?_
  intro hp3 U4 Ld_
  replace S_A := S_A.wr U4
  replace S_H := S_H.wr U4
  replace S_L := S_L.wr U4
  replace Z0 := Nat.le_trans Z0 (Nat.le_of_eq (U4.size).symm)
  replace K0 := K0.wr U4 (Or.inl (List.mem_of_getElem? (i := 0) rfl))
  replace Ld : Al Z hp3 d1 .byte ((vs.set 0 (.int (((cz >>> ((0 : Int32) &&& 31))).toInt8.toInt32))).set 1 (.int (((cz >>> ((8 : Int32) &&& 31))).toInt8.toInt32))) := Ld_
  exact W.retV C d21_53 (FN.ok (by decide) (by decide) ⟨rfl, K0, Ld⟩)

theorem ef_pt_1 (m : MethodId) (d1 : Addr) (cz : Int32) : entryFrame m #[(.ref d1), (.int (1 : Int32)), (.int cz)] 3 = mkF m 0 #[.val (.ref d1), .val (.int (1 : Int32)), .val (.int cz)] [] := by first | (simp [entryFrame, mkF, argsToLocals, Value.category]; done) | rfl
set_option maxRecDepth 65536 in
set_option maxHeartbeats 40000000 in
theorem con_pt_1 (l : Launch) (Z : State) (a0 : Array Value) (hw : ∀ d ∈ tables_1, d.before a0 Z = true) (h0 : Heap) (n0 : Nat) (d1 : Addr) (cz : Int32) (vs : List Value) (g_d1 : n0 ≤ d1) (hlen : 3 < vs.length) (Ld : Al Z h0 d1 .byte vs) (S_A : Sta Z h0 "java/lang/StringUTF16" "$assertionsDisabled" "Z" (.int (1 : Int32))) (S_H : Sta Z h0 "java/lang/StringUTF16" "HI_BYTE_SHIFT" "I" (.int (0 : Int32))) (S_L : Sta Z h0 "java/lang/StringUTF16" "LO_BYTE_SHIFT" "I" (.int (8 : Int32))) (Z0 : n0 ≤ h0.size) : Con l Z y21 jdk_52_method_4_code 3 none ({ frames := 0, cells := 0, slots := 0, locals := 0 } : Room) #[(.ref d1), (.int (1 : Int32)), (.int cz)] h0 n0 (fun v h => v = none ∧ Keep h0 h [d1] ∧ Al Z h d1 .byte ((vs.set 2 (.int (((cz >>> ((0 : Int32) &&& 31))).toInt8.toInt32))).set 3 (.int (((cz >>> ((8 : Int32) &&& 31))).toInt8.toInt32)))) := by
  refine Con.of pf_21 (fun m => ef_pt_1 m d1 cz) ?_
  intro p e s m below meth c C
  have K0 : Keep h0 h0 [d1] := Keep.refl _ _
  refine W.getS C d21_0 (tkw hw 98 rfl) Via.refl S_A ?_
  refine W.if_ne C 28 d21_3 rfl (fun _ => ?_) (fun b => absurd b (by decide))
  refine W.iloadN C d21_28 rfl ?_
  refine W.iconst C (1 : Int32) d21_29 rfl ?_
  refine W.ishlV C (2 : Int32) d21_30 (by decide) ?_
  refine W.istoreN C #[.val (.ref d1), .val (.int (2 : Int32)), .val (.int cz)] d21_31 rfl ?_
  refine W.aloadN C d21_32 rfl rfl ?_
  refine W.iloadN C d21_33 rfl ?_
  refine W.iinc C (3 : Int32) #[.val (.ref d1), .val (.int (3 : Int32)), .val (.int cz)] d21_34 rfl rfl rfl ?_
  refine W.iloadN C d21_37 rfl ?_
  refine W.getS C d21_38 (tkw hw 99 rfl) Via.refl S_H ?_
  refine W.ishr C d21_41 ?_
  refine W.i2b C d21_42 ?_
  refine W.bastoreI C 2 d21_43 Ld rfl (Nat.lt_of_succ_lt hlen) g_d1 ?_
  intro hp1 U2 Ld_
  replace S_A := S_A.wr U2
  replace S_H := S_H.wr U2
  replace S_L := S_L.wr U2
  replace Z0 := Nat.le_trans Z0 (Nat.le_of_eq (U2.size).symm)
  replace K0 := K0.wr U2 (Or.inl (List.mem_of_getElem? (i := 0) rfl))
  replace Ld : Al Z hp1 d1 .byte (vs.set 2 (.int (((cz >>> ((0 : Int32) &&& 31))).toInt8.toInt32))) := Ld_
  refine W.aloadN C d21_44 rfl rfl ?_
  refine W.iloadN C d21_45 rfl ?_
  refine W.iloadN C d21_46 rfl ?_
  refine W.getS C d21_47 (tkw hw 100 rfl) Via.refl S_L ?_
  refine W.ishr C d21_50 ?_
  refine W.i2b C d21_51 ?_
  refine W.bastoreI C 3 d21_52 Ld rfl (by rw [List.length_set]; exact hlen) g_d1 ?_
  intro hp3 U4 Ld_
  replace S_A := S_A.wr U4
  replace S_H := S_H.wr U4
  replace S_L := S_L.wr U4
  replace Z0 := Nat.le_trans Z0 (Nat.le_of_eq (U4.size).symm)
  replace K0 := K0.wr U4 (Or.inl (List.mem_of_getElem? (i := 0) rfl))
  replace Ld : Al Z hp3 d1 .byte ((vs.set 2 (.int (((cz >>> ((0 : Int32) &&& 31))).toInt8.toInt32))).set 3 (.int (((cz >>> ((8 : Int32) &&& 31))).toInt8.toInt32))) := Ld_
  exact W.retV C d21_53 (FN.ok (by decide) (by decide) ⟨rfl, K0, Ld⟩)

theorem ef_pt_2 (m : MethodId) (d1 : Addr) (cz : Int32) : entryFrame m #[(.ref d1), (.int (2 : Int32)), (.int cz)] 3 = mkF m 0 #[.val (.ref d1), .val (.int (2 : Int32)), .val (.int cz)] [] := by first | (simp [entryFrame, mkF, argsToLocals, Value.category]; done) | rfl
set_option maxRecDepth 65536 in
set_option maxHeartbeats 40000000 in
theorem con_pt_2 (l : Launch) (Z : State) (a0 : Array Value) (hw : ∀ d ∈ tables_1, d.before a0 Z = true) (h0 : Heap) (n0 : Nat) (d1 : Addr) (cz : Int32) (vs : List Value) (g_d1 : n0 ≤ d1) (hlen : 5 < vs.length) (Ld : Al Z h0 d1 .byte vs) (S_A : Sta Z h0 "java/lang/StringUTF16" "$assertionsDisabled" "Z" (.int (1 : Int32))) (S_H : Sta Z h0 "java/lang/StringUTF16" "HI_BYTE_SHIFT" "I" (.int (0 : Int32))) (S_L : Sta Z h0 "java/lang/StringUTF16" "LO_BYTE_SHIFT" "I" (.int (8 : Int32))) (Z0 : n0 ≤ h0.size) : Con l Z y21 jdk_52_method_4_code 3 none ({ frames := 0, cells := 0, slots := 0, locals := 0 } : Room) #[(.ref d1), (.int (2 : Int32)), (.int cz)] h0 n0 (fun v h => v = none ∧ Keep h0 h [d1] ∧ Al Z h d1 .byte ((vs.set 4 (.int (((cz >>> ((0 : Int32) &&& 31))).toInt8.toInt32))).set 5 (.int (((cz >>> ((8 : Int32) &&& 31))).toInt8.toInt32)))) := by
  refine Con.of pf_21 (fun m => ef_pt_2 m d1 cz) ?_
  intro p e s m below meth c C
  have K0 : Keep h0 h0 [d1] := Keep.refl _ _
  refine W.getS C d21_0 (tkw hw 98 rfl) Via.refl S_A ?_
  refine W.if_ne C 28 d21_3 rfl (fun _ => ?_) (fun b => absurd b (by decide))
  refine W.iloadN C d21_28 rfl ?_
  refine W.iconst C (1 : Int32) d21_29 rfl ?_
  refine W.ishlV C (4 : Int32) d21_30 (by decide) ?_
  refine W.istoreN C #[.val (.ref d1), .val (.int (4 : Int32)), .val (.int cz)] d21_31 rfl ?_
  refine W.aloadN C d21_32 rfl rfl ?_
  refine W.iloadN C d21_33 rfl ?_
  refine W.iinc C (5 : Int32) #[.val (.ref d1), .val (.int (5 : Int32)), .val (.int cz)] d21_34 rfl rfl rfl ?_
  refine W.iloadN C d21_37 rfl ?_
  refine W.getS C d21_38 (tkw hw 99 rfl) Via.refl S_H ?_
  refine W.ishr C d21_41 ?_
  refine W.i2b C d21_42 ?_
  refine W.bastoreI C 4 d21_43 Ld rfl (Nat.lt_of_succ_lt hlen) g_d1 ?_
  intro hp1 U2 Ld_
  replace S_A := S_A.wr U2
  replace S_H := S_H.wr U2
  replace S_L := S_L.wr U2
  replace Z0 := Nat.le_trans Z0 (Nat.le_of_eq (U2.size).symm)
  replace K0 := K0.wr U2 (Or.inl (List.mem_of_getElem? (i := 0) rfl))
  replace Ld : Al Z hp1 d1 .byte (vs.set 4 (.int (((cz >>> ((0 : Int32) &&& 31))).toInt8.toInt32))) := Ld_
  refine W.aloadN C d21_44 rfl rfl ?_
  refine W.iloadN C d21_45 rfl ?_
  refine W.iloadN C d21_46 rfl ?_
  refine W.getS C d21_47 (tkw hw 100 rfl) Via.refl S_L ?_
  refine W.ishr C d21_50 ?_
  refine W.i2b C d21_51 ?_
  refine W.bastoreI C 5 d21_52 Ld rfl (by rw [List.length_set]; exact hlen) g_d1 ?_
  intro hp3 U4 Ld_
  replace S_A := S_A.wr U4
  replace S_H := S_H.wr U4
  replace S_L := S_L.wr U4
  replace Z0 := Nat.le_trans Z0 (Nat.le_of_eq (U4.size).symm)
  replace K0 := K0.wr U4 (Or.inl (List.mem_of_getElem? (i := 0) rfl))
  replace Ld : Al Z hp3 d1 .byte ((vs.set 4 (.int (((cz >>> ((0 : Int32) &&& 31))).toInt8.toInt32))).set 5 (.int (((cz >>> ((8 : Int32) &&& 31))).toInt8.toInt32))) := Ld_
  exact W.retV C d21_53 (FN.ok (by decide) (by decide) ⟨rfl, K0, Ld⟩)

theorem ef_pt_3 (m : MethodId) (d1 : Addr) (cz : Int32) : entryFrame m #[(.ref d1), (.int (3 : Int32)), (.int cz)] 3 = mkF m 0 #[.val (.ref d1), .val (.int (3 : Int32)), .val (.int cz)] [] := by first | (simp [entryFrame, mkF, argsToLocals, Value.category]; done) | rfl
set_option maxRecDepth 65536 in
set_option maxHeartbeats 40000000 in
theorem con_pt_3 (l : Launch) (Z : State) (a0 : Array Value) (hw : ∀ d ∈ tables_1, d.before a0 Z = true) (h0 : Heap) (n0 : Nat) (d1 : Addr) (cz : Int32) (vs : List Value) (g_d1 : n0 ≤ d1) (hlen : 7 < vs.length) (Ld : Al Z h0 d1 .byte vs) (S_A : Sta Z h0 "java/lang/StringUTF16" "$assertionsDisabled" "Z" (.int (1 : Int32))) (S_H : Sta Z h0 "java/lang/StringUTF16" "HI_BYTE_SHIFT" "I" (.int (0 : Int32))) (S_L : Sta Z h0 "java/lang/StringUTF16" "LO_BYTE_SHIFT" "I" (.int (8 : Int32))) (Z0 : n0 ≤ h0.size) : Con l Z y21 jdk_52_method_4_code 3 none ({ frames := 0, cells := 0, slots := 0, locals := 0 } : Room) #[(.ref d1), (.int (3 : Int32)), (.int cz)] h0 n0 (fun v h => v = none ∧ Keep h0 h [d1] ∧ Al Z h d1 .byte ((vs.set 6 (.int (((cz >>> ((0 : Int32) &&& 31))).toInt8.toInt32))).set 7 (.int (((cz >>> ((8 : Int32) &&& 31))).toInt8.toInt32)))) := by
  refine Con.of pf_21 (fun m => ef_pt_3 m d1 cz) ?_
  intro p e s m below meth c C
  have K0 : Keep h0 h0 [d1] := Keep.refl _ _
  refine W.getS C d21_0 (tkw hw 98 rfl) Via.refl S_A ?_
  refine W.if_ne C 28 d21_3 rfl (fun _ => ?_) (fun b => absurd b (by decide))
  refine W.iloadN C d21_28 rfl ?_
  refine W.iconst C (1 : Int32) d21_29 rfl ?_
  refine W.ishlV C (6 : Int32) d21_30 (by decide) ?_
  refine W.istoreN C #[.val (.ref d1), .val (.int (6 : Int32)), .val (.int cz)] d21_31 rfl ?_
  refine W.aloadN C d21_32 rfl rfl ?_
  refine W.iloadN C d21_33 rfl ?_
  refine W.iinc C (7 : Int32) #[.val (.ref d1), .val (.int (7 : Int32)), .val (.int cz)] d21_34 rfl rfl rfl ?_
  refine W.iloadN C d21_37 rfl ?_
  refine W.getS C d21_38 (tkw hw 99 rfl) Via.refl S_H ?_
  refine W.ishr C d21_41 ?_
  refine W.i2b C d21_42 ?_
  refine W.bastoreI C 6 d21_43 Ld rfl (Nat.lt_of_succ_lt hlen) g_d1 ?_
  intro hp1 U2 Ld_
  replace S_A := S_A.wr U2
  replace S_H := S_H.wr U2
  replace S_L := S_L.wr U2
  replace Z0 := Nat.le_trans Z0 (Nat.le_of_eq (U2.size).symm)
  replace K0 := K0.wr U2 (Or.inl (List.mem_of_getElem? (i := 0) rfl))
  replace Ld : Al Z hp1 d1 .byte (vs.set 6 (.int (((cz >>> ((0 : Int32) &&& 31))).toInt8.toInt32))) := Ld_
  refine W.aloadN C d21_44 rfl rfl ?_
  refine W.iloadN C d21_45 rfl ?_
  refine W.iloadN C d21_46 rfl ?_
  refine W.getS C d21_47 (tkw hw 100 rfl) Via.refl S_L ?_
  refine W.ishr C d21_50 ?_
  refine W.i2b C d21_51 ?_
  refine W.bastoreI C 7 d21_52 Ld rfl (by rw [List.length_set]; exact hlen) g_d1 ?_
  intro hp3 U4 Ld_
  replace S_A := S_A.wr U4
  replace S_H := S_H.wr U4
  replace S_L := S_L.wr U4
  replace Z0 := Nat.le_trans Z0 (Nat.le_of_eq (U4.size).symm)
  replace K0 := K0.wr U4 (Or.inl (List.mem_of_getElem? (i := 0) rfl))
  replace Ld : Al Z hp3 d1 .byte ((vs.set 6 (.int (((cz >>> ((0 : Int32) &&& 31))).toInt8.toInt32))).set 7 (.int (((cz >>> ((8 : Int32) &&& 31))).toInt8.toInt32))) := Ld_
  exact W.retV C d21_53 (FN.ok (by decide) (by decide) ⟨rfl, K0, Ld⟩)

abbrev y20 : MethodName := ⟨"java/lang/StringUTF16", "newBytesLength", "(I)I"⟩
theorem d20_0 : decode jdk_52_method_3_code 0 = .ok (.iload_n 0, 1) := by decide +kernel
theorem d20_1 : decode jdk_52_method_3_code 1 = .ok (.ifCond .ge 11, 3) := by decide +kernel
theorem d20_4 : decode jdk_52_method_3_code 4 = .ok (.new 17, 3) := by decide +kernel
theorem d20_7 : decode jdk_52_method_3_code 7 = .ok (.dup, 1) := by decide +kernel
theorem d20_8 : decode jdk_52_method_3_code 8 = .ok (.invokespecial 19, 3) := by decide +kernel
theorem d20_11 : decode jdk_52_method_3_code 11 = .ok (.athrow, 1) := by decide +kernel
theorem d20_12 : decode jdk_52_method_3_code 12 = .ok (.iload_n 0, 1) := by decide +kernel
theorem d20_13 : decode jdk_52_method_3_code 13 = .ok (.ldc 20, 2) := by decide +kernel
theorem d20_15 : decode jdk_52_method_3_code 15 = .ok (.if_icmp .lt 40, 3) := by decide +kernel
theorem d20_18 : decode jdk_52_method_3_code 18 = .ok (.new 21, 3) := by decide +kernel
theorem d20_21 : decode jdk_52_method_3_code 21 = .ok (.dup, 1) := by decide +kernel
theorem d20_22 : decode jdk_52_method_3_code 22 = .ok (.new 23, 3) := by decide +kernel
theorem d20_25 : decode jdk_52_method_3_code 25 = .ok (.dup, 1) := by decide +kernel
theorem d20_26 : decode jdk_52_method_3_code 26 = .ok (.invokespecial 25, 3) := by decide +kernel
theorem d20_29 : decode jdk_52_method_3_code 29 = .ok (.ldc 26, 2) := by decide +kernel
theorem d20_31 : decode jdk_52_method_3_code 31 = .ok (.invokevirtual 28, 3) := by decide +kernel
theorem d20_34 : decode jdk_52_method_3_code 34 = .ok (.iload_n 0, 1) := by decide +kernel
theorem d20_35 : decode jdk_52_method_3_code 35 = .ok (.invokevirtual 32, 3) := by decide +kernel
theorem d20_38 : decode jdk_52_method_3_code 38 = .ok (.ldc 35, 2) := by decide +kernel
theorem d20_40 : decode jdk_52_method_3_code 40 = .ok (.invokevirtual 28, 3) := by decide +kernel
theorem d20_43 : decode jdk_52_method_3_code 43 = .ok (.ldc 20, 2) := by decide +kernel
theorem d20_45 : decode jdk_52_method_3_code 45 = .ok (.invokevirtual 32, 3) := by decide +kernel
theorem d20_48 : decode jdk_52_method_3_code 48 = .ok (.invokevirtual 37, 3) := by decide +kernel
theorem d20_51 : decode jdk_52_method_3_code 51 = .ok (.invokespecial 41, 3) := by decide +kernel
theorem d20_54 : decode jdk_52_method_3_code 54 = .ok (.athrow, 1) := by decide +kernel
theorem d20_55 : decode jdk_52_method_3_code 55 = .ok (.iload_n 0, 1) := by decide +kernel
theorem d20_56 : decode jdk_52_method_3_code 56 = .ok (.iconst 1, 1) := by decide +kernel
theorem d20_57 : decode jdk_52_method_3_code 57 = .ok (.ishl, 1) := by decide +kernel
theorem d20_58 : decode jdk_52_method_3_code 58 = .ok (.ireturn, 1) := by decide +kernel
theorem pf_20 : plainFor y20 = true := by first | exact plainFor_of_name (by first | (simp [plainName, overriddenIn]; done) | decide +kernel) | decide +kernel
theorem ef_nl_1 (m : MethodId)  : entryFrame m #[(.int (1 : Int32))] 1 = mkF m 0 #[.val (.int (1 : Int32))] [] := by first | (simp [entryFrame, mkF, argsToLocals, Value.category]; done) | rfl
set_option maxRecDepth 65536 in
set_option maxHeartbeats 40000000 in
theorem con_nl_1 (l : Launch) (Z : State) (a0 : Array Value) (hw : ∀ d ∈ tables_1, d.before a0 Z = true) (h0 : Heap) (n0 : Nat)   (Z0 : n0 ≤ h0.size) : Con l Z y20 jdk_52_method_3_code 1 (some .int) ({ frames := 0, cells := 0, slots := 0, locals := 0 } : Room) #[(.int (1 : Int32))] h0 n0 (Pu (some (.int 2)) h0) := by
  refine Con.of pf_20 (fun m => ef_nl_1 m ) ?_
  intro p e s m below meth c C
  refine W.iloadN C d20_0 rfl ?_
  refine W.if_ge C 12 d20_1 rfl (fun _ => ?_) (fun b => absurd b (by decide))
  refine W.iloadN C d20_12 rfl ?_
  refine W.ldcI C (v := (1073741823 : Int32)) d20_13 (tkw hw 94 rfl) ?_
  refine W.icmp_lt C 55 d20_15 rfl (fun _ => ?_) (fun b => absurd b (by decide))
  refine W.iloadN C d20_55 rfl ?_
  refine W.iconst C (1 : Int32) d20_56 rfl ?_
  refine W.ishlV C (2 : Int32) d20_57 (by decide) ?_
  exact W.iret C d20_58 (by simp) rfl (FN.ok (by decide) (by decide) ⟨rfl, rfl⟩)

abbrev y19 : MethodName := ⟨"java/lang/StringUTF16", "newBytesFor", "(I)[B"⟩
theorem d19_0 : decode jdk_52_method_2_code 0 = .ok (.iload_n 0, 1) := by decide +kernel
theorem d19_1 : decode jdk_52_method_2_code 1 = .ok (.invokestatic 11, 3) := by decide +kernel
theorem d19_4 : decode jdk_52_method_2_code 4 = .ok (.newarray .byte, 2) := by decide +kernel
theorem d19_6 : decode jdk_52_method_2_code 6 = .ok (.areturn, 1) := by decide +kernel
theorem pf_19 : plainFor y19 = true := by first | exact plainFor_of_name (by first | (simp [plainName, overriddenIn]; done) | decide +kernel) | decide +kernel
theorem ef_nf_1 (m : MethodId)  : entryFrame m #[(.int (1 : Int32))] 1 = mkF m 0 #[.val (.int (1 : Int32))] [] := by first | (simp [entryFrame, mkF, argsToLocals, Value.category]; done) | rfl
theorem pd_16 : parseMethodDescriptor "(I)I" = some ⟨[.int], some .int⟩ := by decide +kernel
set_option maxRecDepth 65536 in
set_option maxHeartbeats 40000000 in
theorem con_nf_1 (l : Launch) (Z : State) (a0 : Array Value) (hw : ∀ d ∈ tables_1, d.before a0 Z = true) (h0 : Heap) (n0 : Nat)   (Z0 : n0 ≤ h0.size) : Con l Z y19 jdk_52_method_2_code 1 (some (.array .byte)) ({ frames := 1, cells := 1, slots := 2, locals := 12 } : Room) #[(.int (1 : Int32))] h0 n0 (fun v h => ∃ d, v = some (.ref d) ∧ Keep h0 h [] ∧ Al Z h d .byte [(.int (0 : Int32)), (.int (0 : Int32))] ∧ h0.size ≤ d ∧ n0 ≤ d) := by
  refine Con.of pf_19 (fun m => ef_nf_1 m ) ?_
  intro p e s m below meth c C
  have K0 : Keep h0 h0 [] := Keep.refl _ _
  refine W.iloadN C d19_0 rfl ?_
  refine W.callS C (y' := y20) d19_1 (tkw hw 91 rfl) (tkw hw 92 rfl) (tkw hw 55 rfl) (tkw hw 93 rfl) (by decide) (argsL := [(.int (1 : Int32))]) (rest := []) rfl (lenOf pd_16 rfl) (con_nl_1 l Z a0 hw h0 n0 Z0) 0 0 0 rfl rfl rfl (by decide) (by decide) (by decide) (by decide) rfl ?_
  rintro _ _ ⟨rfl, rfl⟩
  refine W.newP C 2 2 d19_4 (tkw hw 21 rfl) rfl (Nat.le_refl _) (by decide) 1 2 rfl rfl (by decide) (by decide) ?_
  intro ob1 hp2 hob1 Eob1 Lob1
  have ge_ob1 : n0 ≤ ob1 := by rw [hob1]; exact Z0
  have sz_ob1 : h0.size ≤ ob1 := by rw [hob1]; exact K0.1
  replace Z0 := Nat.le_trans Z0 Eob1.1
  replace K0 := K0.ext Eob1
  replace Lob1 : Al Z hp2 ob1 .byte [(.int (0 : Int32)), (.int (0 : Int32))] := Lob1
  exact W.aret C d19_6 rfl rfl rfl (FN.ok (by decide) (by decide) ⟨ob1, rfl, K0, Lob1, sz_ob1, ge_ob1⟩)

theorem own_sa2 {Z : State} {h h' : Heap} {C n d : String} {w : Value} {a : Addr} {ty : FieldType} {vs : List Value} (F : Sta Z h C n d w) (E : Al Z h a ty vs) (K : Keep h h' [a]) : Sta Z h' C n d w := by
  obtain ⟨cf, i, k, f, st, cell, h1, h2, h3, h4, h5, h6, h7⟩ := F
  obtain ⟨c2, ⟨e1, e4, -⟩, -⟩ := E
  refine ⟨cf, i, k, f, st, cell, h1, h2, h3, h4, K.2.1 st cell h5 (fun q => ?_), h6, h7⟩
  have ns : c2.vm.isStatics = false := by cases q2 : c2.vm <;> first | rfl | exact absurd q2 (e4.1 _)
  cases List.mem_singleton.mp q
  cases h5.symm.trans e1
  rw [ns] at h6; cases h6
abbrev y18 : MethodName := ⟨"java/lang/StringUTF16", "toBytes", "([CII)[B"⟩
theorem d18_0 : decode jdk_52_method_14_code 0 = .ok (.iload_n 2, 1) := by decide +kernel
theorem d18_1 : decode jdk_52_method_14_code 1 = .ok (.invokestatic 107, 3) := by decide +kernel
theorem d18_4 : decode jdk_52_method_14_code 4 = .ok (.astore_n 3, 1) := by decide +kernel
theorem d18_5 : decode jdk_52_method_14_code 5 = .ok (.iconst 0, 1) := by decide +kernel
theorem d18_6 : decode jdk_52_method_14_code 6 = .ok (.istore 4, 2) := by decide +kernel
theorem d18_8 : decode jdk_52_method_14_code 8 = .ok (.iload 4, 2) := by decide +kernel
theorem d18_10 : decode jdk_52_method_14_code 10 = .ok (.iload_n 2, 1) := by decide +kernel
theorem d18_11 : decode jdk_52_method_14_code 11 = .ok (.if_icmp .ge 21, 3) := by decide +kernel
theorem d18_14 : decode jdk_52_method_14_code 14 = .ok (.aload_n 3, 1) := by decide +kernel
theorem d18_15 : decode jdk_52_method_14_code 15 = .ok (.iload 4, 2) := by decide +kernel
theorem d18_17 : decode jdk_52_method_14_code 17 = .ok (.aload_n 0, 1) := by decide +kernel
theorem d18_18 : decode jdk_52_method_14_code 18 = .ok (.iload_n 1, 1) := by decide +kernel
theorem d18_19 : decode jdk_52_method_14_code 19 = .ok (.caload, 1) := by decide +kernel
theorem d18_20 : decode jdk_52_method_14_code 20 = .ok (.invokestatic 111, 3) := by decide +kernel
theorem d18_23 : decode jdk_52_method_14_code 23 = .ok (.iinc 1 1, 3) := by decide +kernel
theorem d18_26 : decode jdk_52_method_14_code 26 = .ok (.iinc 4 1, 3) := by decide +kernel
theorem d18_29 : decode jdk_52_method_14_code 29 = .ok (.goto (-21), 3) := by decide +kernel
theorem d18_32 : decode jdk_52_method_14_code 32 = .ok (.aload_n 3, 1) := by decide +kernel
theorem d18_33 : decode jdk_52_method_14_code 33 = .ok (.areturn, 1) := by decide +kernel
theorem pf_18 : plainFor y18 = true := by first | exact plainFor_of_name (by first | (simp [plainName, overriddenIn]; done) | decide +kernel) | decide +kernel
theorem ef_tb_1 (m : MethodId) (b1 : Addr) : entryFrame m #[(.ref b1), (.int (0 : Int32)), (.int (1 : Int32))] 5 = mkF m 0 #[.val (.ref b1), .val (.int (0 : Int32)), .val (.int (1 : Int32)), .unset, .unset] [] := by first | (simp [entryFrame, mkF, argsToLocals, Value.category]; done) | rfl
theorem pd_17 : parseMethodDescriptor "(I)[B" = some ⟨[.int], some (.array .byte)⟩ := by decide +kernel
theorem pd_18 : parseMethodDescriptor "([BII)V" = some ⟨[(.array .byte), .int, .int], none⟩ := by decide +kernel
set_option maxRecDepth 65536 in
set_option maxHeartbeats 40000000 in
theorem con_tb_1 (l : Launch) (Z : State) (a0 : Array Value) (hw : ∀ d ∈ tables_1, d.before a0 Z = true) (h0 : Heap) (n0 : Nat) (b1 : Addr) (c0 : Int32) (Ls : Al Z h0 b1 .char [(.int c0)]) (S_A : Sta Z h0 "java/lang/StringUTF16" "$assertionsDisabled" "Z" (.int (1 : Int32))) (S_H : Sta Z h0 "java/lang/StringUTF16" "HI_BYTE_SHIFT" "I" (.int (0 : Int32))) (S_L : Sta Z h0 "java/lang/StringUTF16" "LO_BYTE_SHIFT" "I" (.int (8 : Int32))) (Z0 : n0 ≤ h0.size) : Con l Z y18 jdk_52_method_14_code 5 (some (.array .byte)) ({ frames := 2, cells := 1, slots := 2, locals := 24 } : Room) #[(.ref b1), (.int (0 : Int32)), (.int (1 : Int32))] h0 n0 (fun v h => ∃ d, v = some (.ref d) ∧ Keep h0 h [] ∧ Al Z h d .byte [(.int (((c0 >>> ((0 : Int32) &&& 31))).toInt8.toInt32)), (.int (((c0 >>> ((8 : Int32) &&& 31))).toInt8.toInt32))] ∧ h0.size ≤ d) := by
  refine Con.of pf_18 (fun m => ef_tb_1 m b1) ?_
  intro p e s m below meth c C
  have K0 : Keep h0 h0 [] := Keep.refl _ _
  refine W.iloadN C d18_0 rfl ?_
  refine W.callS C (y' := y19) d18_1 (tkw hw 88 rfl) (tkw hw 89 rfl) (tkw hw 55 rfl) (tkw hw 90 rfl) (by decide) (argsL := [(.int (1 : Int32))]) (rest := []) rfl (lenOf pd_17 rfl) (con_nf_1 l Z a0 hw h0 n0 Z0) 0 1 2 rfl rfl rfl (by decide) (by decide) (by decide) (by decide) rfl ?_
  rintro _ hp2 ⟨d1, rfl, Kc, Ld1, sz, ge_d1⟩
  have ne_b1_d1 : b1 ≠ d1 := Nat.ne_of_lt (Nat.lt_of_lt_of_le Ls.lt sz)
  have sz_d1 := Nat.le_trans K0.1 sz
  replace Ls := Ls.ext (ext0 Kc)
  replace S_A := S_A.ext (ext0 Kc)
  replace S_H := S_H.ext (ext0 Kc)
  replace S_L := S_L.ext (ext0 Kc)
  replace Z0 := Nat.le_trans Z0 (ext0 Kc).1
  replace K0 := K0.ext (ext0 Kc)
  refine W.astoreN C #[.val (.ref b1), .val (.int (0 : Int32)), .val (.int (1 : Int32)), .val (.ref d1), .unset] d18_4 rfl rfl ?_
  refine W.iconst C (0 : Int32) d18_5 rfl ?_
  refine W.istore C #[.val (.ref b1), .val (.int (0 : Int32)), .val (.int (1 : Int32)), .val (.ref d1), .val (.int (0 : Int32))] d18_6 rfl ?_
  refine W.iload C d18_8 rfl ?_
  refine W.iloadN C d18_10 rfl ?_
  refine W.icmp_ge C 32 d18_11 rfl (fun b => absurd b (by decide)) (fun _ => ?_)
  refine W.aloadN C d18_14 rfl rfl ?_
  refine W.iload C d18_15 rfl ?_
  refine W.aloadN C d18_17 rfl rfl ?_
  refine W.iloadN C d18_18 rfl ?_
  refine W.caload C 0 d18_19 Ls rfl rfl ?_
  refine W.callS C (y' := y21) d18_20 (tkw hw 95 rfl) (tkw hw 96 rfl) (tkw hw 55 rfl) (tkw hw 97 rfl) (by decide) (argsL := [(.ref d1), (.int (0 : Int32)), (.int c0)]) (rest := []) rfl (lenOf pd_18 rfl) (con_pt_0 l Z a0 hw hp2 n0 d1 c0 [(.int (0 : Int32)), (.int (0 : Int32))] ge_d1 (show (1 : Nat) < 2 by decide) Ld1 S_A S_H S_L Z0) 0 1 2 rfl rfl rfl (by decide) (by decide) (by decide) (by decide) rfl ?_
  rintro _ hp3 ⟨rfl, Kc, L_⟩
  replace S_A := own_sa2 S_A Ld1 Kc
  replace S_H := own_sa2 S_H Ld1 Kc
  replace S_L := own_sa2 S_L Ld1 Kc
  replace Ls := Ls.keep Kc (ninS ne_b1_d1 nin0)
  replace Z0 := Nat.le_trans Z0 Kc.1
  replace K0 := K0.trans Kc (allS (Or.inr sz_d1) all0)
  replace Ld1 : Al Z hp3 d1 .byte [(.int (((c0 >>> ((0 : Int32) &&& 31))).toInt8.toInt32)), (.int (((c0 >>> ((8 : Int32) &&& 31))).toInt8.toInt32))] := L_
  refine W.iinc C (1 : Int32) #[.val (.ref b1), .val (.int (1 : Int32)), .val (.int (1 : Int32)), .val (.ref d1), .val (.int (0 : Int32))] d18_23 rfl rfl rfl ?_
  refine W.iinc C (1 : Int32) #[.val (.ref b1), .val (.int (1 : Int32)), .val (.int (1 : Int32)), .val (.ref d1), .val (.int (1 : Int32))] d18_26 rfl rfl rfl ?_
  refine W.goto C 8 d18_29 rfl ?_
  refine W.iload C d18_8 rfl ?_
  refine W.iloadN C d18_10 rfl ?_
  refine W.icmp_ge C 32 d18_11 rfl (fun _ => ?_) (fun b => absurd b (by decide))
  refine W.aloadN C d18_32 rfl rfl ?_
  exact W.aret C d18_33 rfl rfl rfl (FN.ok (by decide) (by decide) ⟨d1, rfl, K0, Ld1, sz_d1⟩)

theorem ef_cou_1 (m : MethodId) (d1 : Addr) : entryFrame m #[(.ref d1), (.int (1 : Int32))] 2 = mkF m 0 #[.val (.ref d1), .val (.int (1 : Int32))] [] := by first | (simp [entryFrame, mkF, argsToLocals, Value.category]; done) | rfl
set_option maxRecDepth 65536 in
set_option maxHeartbeats 40000000 in
theorem con_cou_1 (l : Launch) (Z : State) (a0 : Array Value) (hw : ∀ d ∈ tables_1, d.before a0 Z = true) (h0 : Heap) (n0 : Nat) (d1 : Addr) (c0 : Int32) (Ld : Al Z h0 d1 .byte [(.int (((c0 >>> ((0 : Int32) &&& 31))).toInt8.toInt32)), (.int (((c0 >>> ((8 : Int32) &&& 31))).toInt8.toInt32))]) (Z0 : n0 ≤ h0.size) : Con l Z y12 jdk_52_method_15_code 2 (some .byte) ({ frames := 0, cells := 0, slots := 0, locals := 0 } : Room) #[(.ref d1), (.int (1 : Int32))] h0 n0 (Pu (some (.int 1)) h0) := by
  refine Con.of pf_12 (fun m => ef_cou_1 m d1) ?_
  intro p e s m below meth c C
  refine W.iloadN C d12_0 rfl ?_
  refine W.aloadN C d12_1 rfl rfl ?_
  refine W.arrlen C (2 : Int32) d12_2 Ld rfl ?_
  refine W.isubV C (-1 : Int32) d12_3 (by decide) ?_
  refine W.bipush C (31 : Int32) d12_4 rfl ?_
  refine W.iushrV C (1 : Int32) d12_6 (by decide) ?_
  refine W.i2bV C (1 : Int32) d12_7 (by decide) ?_
  exact W.iret C d12_8 (by simp) rfl (FN.ok (by decide) (by decide) ⟨rfl, rfl⟩)

theorem ef_c4_1_0 (m : MethodId) (b1 : Addr) (d1 : Addr) : entryFrame m #[(.ref b1), (.int (0 : Int32)), (.ref d1), (.int (0 : Int32)), (.int (1 : Int32))] 7 = mkF m 0 #[.val (.ref b1), .val (.int (0 : Int32)), .val (.ref d1), .val (.int (0 : Int32)), .val (.int (1 : Int32)), .unset, .unset] [] := by first | (simp [entryFrame, mkF, argsToLocals, Value.category]; done) | rfl
set_option maxRecDepth 65536 in
set_option maxHeartbeats 40000000 in
theorem con_c4_1_0 (l : Launch) (Z : State) (a0 : Array Value) (hw : ∀ d ∈ tables_1, d.before a0 Z = true) (h0 : Heap) (n0 : Nat) (b1 : Addr) (d1 : Addr) (c0 : Int32)  (hj : (255 : Int32) < c0) (ne_b1_d1 : b1 ≠ d1) (g_d1 : n0 ≤ d1) (Ls : Al Z h0 b1 .char [(.int c0)]) (Ld : Al Z h0 d1 .byte [(.int (0 : Int32))]) (Z0 : n0 ≤ h0.size) : Con l Z y11 jdk_52_method_21_code 7 (some .int) ({ frames := 0, cells := 0, slots := 0, locals := 0 } : Room) #[(.ref b1), (.int (0 : Int32)), (.ref d1), (.int (0 : Int32)), (.int (1 : Int32))] h0 n0 (fun v h => v = some (.int 0) ∧ Keep h0 h [d1]) := by
  refine Con.of pf_11 (fun m => ef_c4_1_0 m b1 d1) ?_
  intro p e s m below meth c C
  have K0 : Keep h0 h0 [d1] := Keep.refl _ _
  refine W.iconst C (0 : Int32) d11_0 rfl ?_
  refine W.istore C #[.val (.ref b1), .val (.int (0 : Int32)), .val (.ref d1), .val (.int (0 : Int32)), .val (.int (1 : Int32)), .val (.int (0 : Int32)), .unset] d11_1 rfl ?_
  refine W.iload C d11_3 rfl ?_
  refine W.iload C d11_5 rfl ?_
  refine W.icmp_ge C 44 d11_7 rfl (fun b => absurd b (by decide)) (fun _ => ?_)
  refine W.aloadN C d11_10 rfl rfl ?_
  refine W.iloadN C d11_11 rfl ?_
  refine W.caload C 0 d11_12 Ls rfl rfl ?_
  refine W.istore C #[.val (.ref b1), .val (.int (0 : Int32)), .val (.ref d1), .val (.int (0 : Int32)), .val (.int (1 : Int32)), .val (.int (0 : Int32)), .val (.int c0)] d11_13 rfl ?_
  refine W.iload C d11_15 rfl ?_
  refine W.sipush C (255 : Int32) d11_17 rfl ?_
  refine W.icmp_le C 26 d11_20 rfl (fun bq1 => absurd hj bq1) (fun bq1 => ?_)
  refine W.iload C d11_23 rfl ?_
  exact W.iret C d11_25 (by simp) rfl (FN.ok (by decide) (by decide) ⟨rfl, K0⟩)

theorem ef_c3_1_0 (m : MethodId) (b1 : Addr) : entryFrame m #[(.ref b1), (.int (0 : Int32)), (.int (1 : Int32))] 6 = mkF m 0 #[.val (.ref b1), .val (.int (0 : Int32)), .val (.int (1 : Int32)), .unset, .unset, .unset] [] := by first | (simp [entryFrame, mkF, argsToLocals, Value.category]; done) | rfl
set_option maxRecDepth 65536 in
set_option maxHeartbeats 40000000 in
theorem con_c3_1_0 (l : Launch) (Z : State) (a0 : Array Value) (hw : ∀ d ∈ tables_1, d.before a0 Z = true) (h0 : Heap) (n0 : Nat) (b1 : Addr) (c0 : Int32)  (hj : (255 : Int32) < c0) (hr : 0 ≤ c0.toInt ∧ c0.toInt < 65536) (Ls : Al Z h0 b1 .char [(.int c0)]) (S_A : Sta Z h0 "java/lang/StringUTF16" "$assertionsDisabled" "Z" (.int (1 : Int32))) (S_H : Sta Z h0 "java/lang/StringUTF16" "HI_BYTE_SHIFT" "I" (.int (0 : Int32))) (S_L : Sta Z h0 "java/lang/StringUTF16" "LO_BYTE_SHIFT" "I" (.int (8 : Int32))) (Z0 : n0 ≤ h0.size) : Con l Z y10 jdk_52_method_16_code 6 (some (.array .byte)) ({ frames := 3, cells := 2, slots := 3, locals := 40 } : Room) #[(.ref b1), (.int (0 : Int32)), (.int (1 : Int32))] h0 n0 (fun v h => ∃ d, v = some (.ref d) ∧ Keep h0 h [] ∧ Al Z h d .byte [(.int (((c0 >>> ((0 : Int32) &&& 31))).toInt8.toInt32)), (.int (((c0 >>> ((8 : Int32) &&& 31))).toInt8.toInt32))] ∧ h0.size ≤ d) := by
  refine Con.of pf_10 (fun m => ef_c3_1_0 m b1) ?_
  intro p e s m below meth c C
  have K0 : Keep h0 h0 [] := Keep.refl _ _
  refine W.iloadN C d10_0 rfl ?_
  refine W.newP C 1 1 d10_1 (tkw hw 21 rfl) rfl (Nat.le_refl _) (by decide) 1 1 rfl rfl (by decide) (by decide) ?_
  intro ob1 hp2 hob1 Eob1 Lob1
  have ne_b1_ob1 : b1 ≠ ob1 := Nat.ne_of_lt (by rw [hob1]; exact Ls.lt)
  have ge_ob1 : n0 ≤ ob1 := by rw [hob1]; exact Z0
  have sz_ob1 : h0.size ≤ ob1 := by rw [hob1]; exact K0.1
  replace Ls := Ls.ext Eob1
  replace S_A := S_A.ext Eob1
  replace S_H := S_H.ext Eob1
  replace S_L := S_L.ext Eob1
  replace Z0 := Nat.le_trans Z0 Eob1.1
  replace K0 := K0.ext Eob1
  replace Lob1 : Al Z hp2 ob1 .byte [(.int (0 : Int32))] := Lob1
  refine W.astoreN C #[.val (.ref b1), .val (.int (0 : Int32)), .val (.int (1 : Int32)), .val (.ref ob1), .unset, .unset] d10_3 rfl rfl ?_
  refine W.aloadN C d10_4 rfl rfl ?_
  refine W.iloadN C d10_5 rfl ?_
  refine W.aloadN C d10_6 rfl rfl ?_
  refine W.iconst C (0 : Int32) d10_7 rfl ?_
  refine W.iloadN C d10_8 rfl ?_
  refine W.callS C (y' := y11) d10_9 (tkw hw 57 rfl) (tkw hw 58 rfl) (tkw hw 55 rfl) (tkw hw 59 rfl) (by decide) (argsL := [(.ref b1), (.int (0 : Int32)), (.ref ob1), (.int (0 : Int32)), (.int (1 : Int32))]) (rest := []) rfl (lenOf pd_11 rfl) (con_c4_1_0 l Z a0 hw hp2 n0 b1 ob1 c0  hj ne_b1_ob1 ge_ob1 Ls Lob1 Z0) 0 1 1 rfl rfl rfl (by decide) (by decide) (by decide) (by decide) rfl ?_
  rintro _ hp3 ⟨rfl, Kc⟩
  replace S_A := own_sa2 S_A Lob1 Kc
  replace S_H := own_sa2 S_H Lob1 Kc
  replace S_L := own_sa2 S_L Lob1 Kc
  replace Ls := Ls.keep Kc (ninS ne_b1_ob1 nin0)
  replace Z0 := Nat.le_trans Z0 Kc.1
  replace K0 := K0.trans Kc (allS (Or.inr sz_ob1) all0)
  refine W.istore C #[.val (.ref b1), .val (.int (0 : Int32)), .val (.int (1 : Int32)), .val (.ref ob1), .val (.int (0 : Int32)), .unset] d10_12 rfl ?_
  refine W.iload C d10_14 rfl ?_
  refine W.iloadN C d10_16 rfl ?_
  refine W.icmp_eq C 57 d10_17 rfl (fun b => absurd b (by decide)) (fun _ => ?_)
  refine W.aloadN C d10_20 rfl rfl ?_
  refine W.iloadN C d10_21 rfl ?_
  refine W.iloadN C d10_22 rfl ?_
  refine W.callS C (y' := y18) d10_23 (tkw hw 85 rfl) (tkw hw 86 rfl) (tkw hw 55 rfl) (tkw hw 87 rfl) (by decide) (argsL := [(.ref b1), (.int (0 : Int32)), (.int (1 : Int32))]) (rest := []) rfl (lenOf pd_12 rfl) (con_tb_1 l Z a0 hw hp3 n0 b1 c0 Ls S_A S_H S_L Z0) 0 2 3 rfl rfl rfl (by decide) (by decide) (by decide) (by decide) rfl ?_
  rintro _ hp5 ⟨d4, rfl, Kc, Ld4, sz⟩
  have sz_d4 := Nat.le_trans K0.1 sz
  replace Ls := Ls.ext (ext0 Kc)
  replace Z0 := Nat.le_trans Z0 (ext0 Kc).1
  replace K0 := K0.ext (ext0 Kc)
  replace S_A := S_A.ext (ext0 Kc)
  replace S_H := S_H.ext (ext0 Kc)
  replace S_L := S_L.ext (ext0 Kc)
  refine W.astore C #[.val (.ref b1), .val (.int (0 : Int32)), .val (.int (1 : Int32)), .val (.ref ob1), .val (.int (0 : Int32)), .val (.ref d4)] d10_26 rfl rfl ?_
  refine W.aload C d10_28 rfl rfl ?_
  refine W.iload C d10_30 rfl ?_
  refine W.callS C (y' := y22) d10_32 (tkw hw 101 rfl) (tkw hw 102 rfl) (tkw hw 55 rfl) (tkw hw 103 rfl) (by decide) (argsL := [(.ref d4), (.int (0 : Int32))]) (rest := []) rfl (lenOf pd_4 rfl) (con_gc_0 l Z a0 hw hp5 n0 d4 _ c0 hr.1 hr.2 rfl rfl Ld4 S_A S_H S_L Z0) 0 2 3 rfl rfl rfl (by decide) (by decide) (by decide) (by decide) rfl ?_
  rintro _ _ ⟨rfl, rfl⟩
  refine W.sipush C (255 : Int32) d10_35 rfl ?_
  refine W.icmp_gt C 54 d10_38 rfl (fun bq1 => ?_) (fun bq1 => absurd hj bq1)
  refine W.aload C d10_54 rfl rfl ?_
  exact W.aret C d10_56 rfl rfl rfl (FN.ok (by decide) (by decide) ⟨d4, rfl, K0, Ld4, sz_d4⟩)

theorem ef_i4_1_0 (m : MethodId) (a1 : Addr) (b1 : Addr) : entryFrame m #[(.ref a1), (.ref b1), (.int (0 : Int32)), (.int (1 : Int32)), .null] 6 = mkF m 0 #[.val (.ref a1), .val (.ref b1), .val (.int (0 : Int32)), .val (.int (1 : Int32)), .val .null, .unset] [] := by first | (simp [entryFrame, mkF, argsToLocals, Value.category]; done) | rfl
set_option maxRecDepth 65536 in
set_option maxHeartbeats 40000000 in
theorem con_i4_1_0 (l : Launch) (Z : State) (a0 : Array Value) (hw : ∀ d ∈ tables_1, d.before a0 Z = true) (h0 : Heap) (n0 : Nat) (a1 : Addr) (b1 : Addr) (c0 : Int32)  (hj : (255 : Int32) < c0) (hr : 0 ≤ c0.toInt ∧ c0.toInt < 65536) (u0 u1 : Value) (cv : Int32) (ne_a1_b1 : a1 ≠ b1) (g_a1 : n0 ≤ a1) (E_a1 : Exa Z h0 a1 "java/lang/String") (Fv : Fld Z h0 a1 "java/lang/String" "value" "[B" u0) (Fc : Fld Z h0 a1 "java/lang/String" "coder" "B" u1) (Ls : Al Z h0 b1 .char [(.int c0)]) (S_C : Sta Z h0 "java/lang/String" "COMPACT_STRINGS" "Z" (.int cv)) (hcv : ¬ cv = 0) (S_A : Sta Z h0 "java/lang/StringUTF16" "$assertionsDisabled" "Z" (.int (1 : Int32))) (S_H : Sta Z h0 "java/lang/StringUTF16" "HI_BYTE_SHIFT" "I" (.int (0 : Int32))) (S_L : Sta Z h0 "java/lang/StringUTF16" "LO_BYTE_SHIFT" "I" (.int (8 : Int32))) (Z0 : n0 ≤ h0.size) : Con l Z y3 jdk_42_method_149_code 6 none ({ frames := 4, cells := 2, slots := 3, locals := 57 } : Room) #[(.ref a1), (.ref b1), (.int (0 : Int32)), (.int (1 : Int32)), .null] h0 n0 (fun v h => v = none ∧ Keep h0 h [a1] ∧ Exa Z h a1 "java/lang/String" ∧ ∃ d, Fld Z h a1 "java/lang/String" "value" "[B" (.ref d) ∧ Fld Z h a1 "java/lang/String" "coder" "B" (.int 1) ∧ Al Z h d .byte [(.int (((c0 >>> ((0 : Int32) &&& 31))).toInt8.toInt32)), (.int (((c0 >>> ((8 : Int32) &&& 31))).toInt8.toInt32))]) := by
  refine Con.of pf_3 (fun m => ef_i4_1_0 m a1 b1) ?_
  intro p e s m below meth c C
  have K0 : Keep h0 h0 [a1] := Keep.refl _ _
  refine W.aloadN C d3_0 rfl rfl ?_
  refine W.initO C d3_1 (tkw hw 17 rfl) (tkw hw 18 rfl) (tkw hw 19 rfl) 0 rfl (by decide) (by decide) rfl ?_
  refine W.iloadN C d3_4 rfl ?_
  refine W.if_ne C 27 d3_5 rfl (fun _ => ?_) (fun b => absurd b (by decide))
  refine W.getS C d3_27 (tkw hw 51 rfl) Via.refl S_C ?_
  refine W.if_eq C 58 d3_30 rfl (fun bq1 => absurd bq1 hcv) (fun bq1 => ?_)
  refine W.aloadN C d3_33 rfl rfl ?_
  refine W.iloadN C d3_34 rfl ?_
  refine W.iloadN C d3_35 rfl ?_
  refine W.callS C (y' := y10) d3_36 (tkw hw 53 rfl) (tkw hw 54 rfl) (tkw hw 55 rfl) (tkw hw 56 rfl) (by decide) (argsL := [(.ref b1), (.int (0 : Int32)), (.int (1 : Int32))]) (rest := []) rfl (lenOf pd_12 rfl) (con_c3_1_0 l Z a0 hw h0 n0 b1 c0  hj hr Ls S_A S_H S_L Z0) 0 2 3 rfl rfl rfl (by decide) (by decide) (by decide) (by decide) rfl ?_
  rintro _ hp2 ⟨d1, rfl, Kc, Ld1, sz⟩
  have ne_a1_d1 : a1 ≠ d1 := Nat.ne_of_lt (Nat.lt_of_lt_of_le E_a1.lt sz)
  replace E_a1 := E_a1.ext (ext0 Kc)
  replace Fv := Fv.ext (ext0 Kc)
  replace Fc := Fc.ext (ext0 Kc)
  replace Ls := Ls.ext (ext0 Kc)
  replace S_A := S_A.ext (ext0 Kc)
  replace S_H := S_H.ext (ext0 Kc)
  replace S_L := S_L.ext (ext0 Kc)
  replace S_C := S_C.ext (ext0 Kc)
  replace Z0 := Nat.le_trans Z0 (ext0 Kc).1
  replace K0 := K0.ext (ext0 Kc)
  refine W.astore C #[.val (.ref a1), .val (.ref b1), .val (.int (0 : Int32)), .val (.int (1 : Int32)), .val .null, .val (.ref d1)] d3_39 rfl rfl ?_
  refine W.aloadN C d3_41 rfl rfl ?_
  refine W.aload C d3_42 rfl rfl ?_
  refine W.iloadN C d3_44 rfl ?_
  refine W.callS C (y' := y12) d3_45 (tkw hw 60 rfl) (tkw hw 61 rfl) (tkw hw 55 rfl) (tkw hw 62 rfl) (by decide) (argsL := [(.ref d1), (.int (1 : Int32))]) (rest := [(.ref a1)]) rfl (lenOf pd_14 rfl) (con_cou_1 l Z a0 hw hp2 n0 d1 c0 Ld1 Z0) 1 2 3 rfl rfl rfl (by decide) (by decide) (by decide) (by decide) rfl ?_
  rintro _ _ ⟨rfl, rfl⟩
  refine W.putF C d3_48 (tkw hw 27 rfl) Via.refl Fc E_a1 (Or.inr ⟨(tkw hw 23 rfl), rfl, rfl⟩) (tkw hw 7 rfl) (ty := .byte) (by decide) rfl rfl g_a1 ?_
  intro hp3 U4
  replace Fc := Fc.same U4
  replace E_a1 := E_a1.wr U4
  replace Fv := Fv.other U4 (Or.inr (slot_ne (Or.inr (tkw hw 22 rfl)) (Or.inr (tkw hw 23 rfl)) (by decide) (t := (.array .byte)) (t' := .byte) (by decide) (by decide)))
  replace Ls := Ls.other U4 (Ne.symm ne_a1_b1)
  replace S_A := S_A.wr U4
  replace S_H := S_H.wr U4
  replace S_L := S_L.wr U4
  replace S_C := S_C.wr U4
  replace Z0 := Nat.le_trans Z0 (Nat.le_of_eq (U4.size).symm)
  replace K0 := K0.wr U4 (Or.inl (List.mem_of_getElem? (i := 0) rfl))
  replace Ld1 := Ld1.other U4 (Ne.symm ne_a1_d1)
  refine W.aloadN C d3_51 rfl rfl ?_
  refine W.aload C d3_52 rfl rfl ?_
  refine W.putF C d3_54 (tkw hw 26 rfl) Via.refl Fv E_a1 (Or.inr ⟨(tkw hw 22 rfl), rfl, rfl⟩) (tkw hw 7 rfl) (ty := (.array .byte)) (by decide) rfl rfl g_a1 ?_
  intro hp5 U6
  replace Fv := Fv.same U6
  replace E_a1 := E_a1.wr U6
  replace Fc := Fc.other U6 (Or.inr (slot_ne (Or.inr (tkw hw 23 rfl)) (Or.inr (tkw hw 22 rfl)) (by decide) (t := .byte) (t' := (.array .byte)) (by decide) (by decide)))
  replace Ls := Ls.other U6 (Ne.symm ne_a1_b1)
  replace S_A := S_A.wr U6
  replace S_H := S_H.wr U6
  replace S_L := S_L.wr U6
  replace S_C := S_C.wr U6
  replace Z0 := Nat.le_trans Z0 (Nat.le_of_eq (U6.size).symm)
  replace K0 := K0.wr U6 (Or.inl (List.mem_of_getElem? (i := 0) rfl))
  replace Ld1 := Ld1.other U6 (Ne.symm ne_a1_d1)
  exact W.retV C d3_57 (FN.ok (by decide) (by decide) ⟨rfl, K0, E_a1, d1, Fv, Fc, Ld1⟩)

theorem ef_i1_1_0 (m : MethodId) (a1 : Addr) (b1 : Addr) : entryFrame m #[(.ref a1), (.ref b1)] 2 = mkF m 0 #[.val (.ref a1), .val (.ref b1)] [] := by first | (simp [entryFrame, mkF, argsToLocals, Value.category]; done) | rfl
set_option maxRecDepth 65536 in
set_option maxHeartbeats 40000000 in
theorem con_i1_1_0 (l : Launch) (Z : State) (a0 : Array Value) (hw : ∀ d ∈ tables_1, d.before a0 Z = true) (h0 : Heap) (n0 : Nat) (a1 : Addr) (b1 : Addr) (c0 : Int32)  (hj : (255 : Int32) < c0) (hr : 0 ≤ c0.toInt ∧ c0.toInt < 65536) (u0 u1 : Value) (cv : Int32) (ne_a1_b1 : a1 ≠ b1) (g_a1 : n0 ≤ a1) (E_a1 : Exa Z h0 a1 "java/lang/String") (Fv : Fld Z h0 a1 "java/lang/String" "value" "[B" u0) (Fc : Fld Z h0 a1 "java/lang/String" "coder" "B" u1) (Ls : Al Z h0 b1 .char [(.int c0)]) (S_C : Sta Z h0 "java/lang/String" "COMPACT_STRINGS" "Z" (.int cv)) (hcv : ¬ cv = 0) (S_A : Sta Z h0 "java/lang/StringUTF16" "$assertionsDisabled" "Z" (.int (1 : Int32))) (S_H : Sta Z h0 "java/lang/StringUTF16" "HI_BYTE_SHIFT" "I" (.int (0 : Int32))) (S_L : Sta Z h0 "java/lang/StringUTF16" "LO_BYTE_SHIFT" "I" (.int (8 : Int32))) (Z0 : n0 ≤ h0.size) : Con l Z y2 jdk_42_method_3_code 2 none ({ frames := 5, cells := 2, slots := 3, locals := 74 } : Room) #[(.ref a1), (.ref b1)] h0 n0 (fun v h => v = none ∧ Keep h0 h [a1] ∧ Exa Z h a1 "java/lang/String" ∧ ∃ d, Fld Z h a1 "java/lang/String" "value" "[B" (.ref d) ∧ Fld Z h a1 "java/lang/String" "coder" "B" (.int 1) ∧ Al Z h d .byte [(.int (((c0 >>> ((0 : Int32) &&& 31))).toInt8.toInt32)), (.int (((c0 >>> ((8 : Int32) &&& 31))).toInt8.toInt32))]) := by
  refine Con.of pf_2 (fun m => ef_i1_1_0 m a1 b1) ?_
  intro p e s m below meth c C
  have K0 : Keep h0 h0 [a1] := Keep.refl _ _
  refine W.aloadN C d2_0 rfl rfl ?_
  refine W.aloadN C d2_1 rfl rfl ?_
  refine W.iconst C (0 : Int32) d2_2 rfl ?_
  refine W.aloadN C d2_3 rfl rfl ?_
  refine W.arrlen C (1 : Int32) d2_4 Ls rfl ?_
  refine W.aconstNull C d2_5 ?_
  refine W.callI C (y' := y3) d2_6 rfl (tkw hw 13 rfl) (tkw hw 14 rfl) (tkw hw 8 rfl) (tkw hw 16 rfl) (by decide) (a := a1) (argsL := [(.ref b1), (.int (0 : Int32)), (.int (1 : Int32)), .null]) (rest := []) rfl (lenOf pd_15 rfl) (con_i4_1_0 l Z a0 hw h0 n0 a1 b1 c0  hj hr u0 u1 cv ne_a1_b1 g_a1 E_a1 Fv Fc Ls S_C hcv S_A S_H S_L Z0) 0 2 3 rfl rfl rfl (by decide) (by decide) (by decide) (by decide) rfl ?_
  rintro _ hp1 ⟨rfl, Kc, E_n, d, Fv_n, Fc_n, Ld⟩
  replace Ls := Ls.keep Kc (ninS (Ne.symm ne_a1_b1) nin0)
  replace Z0 := Nat.le_trans Z0 Kc.1
  replace K0 := K0.trans Kc (allS (Or.inl (List.mem_of_getElem? (i := 0) rfl)) all0)
  replace E_a1 := E_n
  replace Fv := Fv_n
  replace Fc := Fc_n
  exact W.retV C d2_9 (FN.ok (by decide) (by decide) ⟨rfl, K0, E_a1, d, Fv, Fc, Ld⟩)

theorem ef_nl_2 (m : MethodId)  : entryFrame m #[(.int (2 : Int32))] 1 = mkF m 0 #[.val (.int (2 : Int32))] [] := by first | (simp [entryFrame, mkF, argsToLocals, Value.category]; done) | rfl
set_option maxRecDepth 65536 in
set_option maxHeartbeats 40000000 in
theorem con_nl_2 (l : Launch) (Z : State) (a0 : Array Value) (hw : ∀ d ∈ tables_1, d.before a0 Z = true) (h0 : Heap) (n0 : Nat)   (Z0 : n0 ≤ h0.size) : Con l Z y20 jdk_52_method_3_code 1 (some .int) ({ frames := 0, cells := 0, slots := 0, locals := 0 } : Room) #[(.int (2 : Int32))] h0 n0 (Pu (some (.int 4)) h0) := by
  refine Con.of pf_20 (fun m => ef_nl_2 m ) ?_
  intro p e s m below meth c C
  refine W.iloadN C d20_0 rfl ?_
  refine W.if_ge C 12 d20_1 rfl (fun _ => ?_) (fun b => absurd b (by decide))
  refine W.iloadN C d20_12 rfl ?_
  refine W.ldcI C (v := (1073741823 : Int32)) d20_13 (tkw hw 94 rfl) ?_
  refine W.icmp_lt C 55 d20_15 rfl (fun _ => ?_) (fun b => absurd b (by decide))
  refine W.iloadN C d20_55 rfl ?_
  refine W.iconst C (1 : Int32) d20_56 rfl ?_
  refine W.ishlV C (4 : Int32) d20_57 (by decide) ?_
  exact W.iret C d20_58 (by simp) rfl (FN.ok (by decide) (by decide) ⟨rfl, rfl⟩)

theorem ef_nf_2 (m : MethodId)  : entryFrame m #[(.int (2 : Int32))] 1 = mkF m 0 #[.val (.int (2 : Int32))] [] := by first | (simp [entryFrame, mkF, argsToLocals, Value.category]; done) | rfl
set_option maxRecDepth 65536 in
set_option maxHeartbeats 40000000 in
theorem con_nf_2 (l : Launch) (Z : State) (a0 : Array Value) (hw : ∀ d ∈ tables_1, d.before a0 Z = true) (h0 : Heap) (n0 : Nat)   (Z0 : n0 ≤ h0.size) : Con l Z y19 jdk_52_method_2_code 1 (some (.array .byte)) ({ frames := 1, cells := 1, slots := 4, locals := 12 } : Room) #[(.int (2 : Int32))] h0 n0 (fun v h => ∃ d, v = some (.ref d) ∧ Keep h0 h [] ∧ Al Z h d .byte [(.int (0 : Int32)), (.int (0 : Int32)), (.int (0 : Int32)), (.int (0 : Int32))] ∧ h0.size ≤ d ∧ n0 ≤ d) := by
  refine Con.of pf_19 (fun m => ef_nf_2 m ) ?_
  intro p e s m below meth c C
  have K0 : Keep h0 h0 [] := Keep.refl _ _
  refine W.iloadN C d19_0 rfl ?_
  refine W.callS C (y' := y20) d19_1 (tkw hw 91 rfl) (tkw hw 92 rfl) (tkw hw 55 rfl) (tkw hw 93 rfl) (by decide) (argsL := [(.int (2 : Int32))]) (rest := []) rfl (lenOf pd_16 rfl) (con_nl_2 l Z a0 hw h0 n0 Z0) 0 0 0 rfl rfl rfl (by decide) (by decide) (by decide) (by decide) rfl ?_
  rintro _ _ ⟨rfl, rfl⟩
  refine W.newP C 4 4 d19_4 (tkw hw 21 rfl) rfl (Nat.le_refl _) (by decide) 1 4 rfl rfl (by decide) (by decide) ?_
  intro ob1 hp2 hob1 Eob1 Lob1
  have ge_ob1 : n0 ≤ ob1 := by rw [hob1]; exact Z0
  have sz_ob1 : h0.size ≤ ob1 := by rw [hob1]; exact K0.1
  replace Z0 := Nat.le_trans Z0 Eob1.1
  replace K0 := K0.ext Eob1
  replace Lob1 : Al Z hp2 ob1 .byte [(.int (0 : Int32)), (.int (0 : Int32)), (.int (0 : Int32)), (.int (0 : Int32))] := Lob1
  exact W.aret C d19_6 rfl rfl rfl (FN.ok (by decide) (by decide) ⟨ob1, rfl, K0, Lob1, sz_ob1, ge_ob1⟩)

theorem ef_tb_2 (m : MethodId) (b1 : Addr) : entryFrame m #[(.ref b1), (.int (0 : Int32)), (.int (2 : Int32))] 5 = mkF m 0 #[.val (.ref b1), .val (.int (0 : Int32)), .val (.int (2 : Int32)), .unset, .unset] [] := by first | (simp [entryFrame, mkF, argsToLocals, Value.category]; done) | rfl
set_option maxRecDepth 65536 in
set_option maxHeartbeats 40000000 in
theorem con_tb_2 (l : Launch) (Z : State) (a0 : Array Value) (hw : ∀ d ∈ tables_1, d.before a0 Z = true) (h0 : Heap) (n0 : Nat) (b1 : Addr) (c0 c1 : Int32) (Ls : Al Z h0 b1 .char [(.int c0), (.int c1)]) (S_A : Sta Z h0 "java/lang/StringUTF16" "$assertionsDisabled" "Z" (.int (1 : Int32))) (S_H : Sta Z h0 "java/lang/StringUTF16" "HI_BYTE_SHIFT" "I" (.int (0 : Int32))) (S_L : Sta Z h0 "java/lang/StringUTF16" "LO_BYTE_SHIFT" "I" (.int (8 : Int32))) (Z0 : n0 ≤ h0.size) : Con l Z y18 jdk_52_method_14_code 5 (some (.array .byte)) ({ frames := 2, cells := 1, slots := 4, locals := 24 } : Room) #[(.ref b1), (.int (0 : Int32)), (.int (2 : Int32))] h0 n0 (fun v h => ∃ d, v = some (.ref d) ∧ Keep h0 h [] ∧ Al Z h d .byte [(.int (((c0 >>> ((0 : Int32) &&& 31))).toInt8.toInt32)), (.int (((c0 >>> ((8 : Int32) &&& 31))).toInt8.toInt32)), (.int (((c1 >>> ((0 : Int32) &&& 31))).toInt8.toInt32)), (.int (((c1 >>> ((8 : Int32) &&& 31))).toInt8.toInt32))] ∧ h0.size ≤ d) := by
  refine Con.of pf_18 (fun m => ef_tb_2 m b1) ?_
  intro p e s m below meth c C
  have K0 : Keep h0 h0 [] := Keep.refl _ _
  refine W.iloadN C d18_0 rfl ?_
  refine W.callS C (y' := y19) d18_1 (tkw hw 88 rfl) (tkw hw 89 rfl) (tkw hw 55 rfl) (tkw hw 90 rfl) (by decide) (argsL := [(.int (2 : Int32))]) (rest := []) rfl (lenOf pd_17 rfl) (con_nf_2 l Z a0 hw h0 n0 Z0) 0 1 4 rfl rfl rfl (by decide) (by decide) (by decide) (by decide) rfl ?_
  rintro _ hp2 ⟨d1, rfl, Kc, Ld1, sz, ge_d1⟩
  have ne_b1_d1 : b1 ≠ d1 := Nat.ne_of_lt (Nat.lt_of_lt_of_le Ls.lt sz)
  have sz_d1 := Nat.le_trans K0.1 sz
  replace Ls := Ls.ext (ext0 Kc)
  replace S_A := S_A.ext (ext0 Kc)
  replace S_H := S_H.ext (ext0 Kc)
  replace S_L := S_L.ext (ext0 Kc)
  replace Z0 := Nat.le_trans Z0 (ext0 Kc).1
  replace K0 := K0.ext (ext0 Kc)
  refine W.astoreN C #[.val (.ref b1), .val (.int (0 : Int32)), .val (.int (2 : Int32)), .val (.ref d1), .unset] d18_4 rfl rfl ?_
  refine W.iconst C (0 : Int32) d18_5 rfl ?_
  refine W.istore C #[.val (.ref b1), .val (.int (0 : Int32)), .val (.int (2 : Int32)), .val (.ref d1), .val (.int (0 : Int32))] d18_6 rfl ?_
  refine W.iload C d18_8 rfl ?_
  refine W.iloadN C d18_10 rfl ?_
  refine W.icmp_ge C 32 d18_11 rfl (fun b => absurd b (by decide)) (fun _ => ?_)
  refine W.aloadN C d18_14 rfl rfl ?_
  refine W.iload C d18_15 rfl ?_
  refine W.aloadN C d18_17 rfl rfl ?_
  refine W.iloadN C d18_18 rfl ?_
  refine W.caload C 0 d18_19 Ls rfl rfl ?_
  refine W.callS C (y' := y21) d18_20 (tkw hw 95 rfl) (tkw hw 96 rfl) (tkw hw 55 rfl) (tkw hw 97 rfl) (by decide) (argsL := [(.ref d1), (.int (0 : Int32)), (.int c0)]) (rest := []) rfl (lenOf pd_18 rfl) (con_pt_0 l Z a0 hw hp2 n0 d1 c0 [(.int (0 : Int32)), (.int (0 : Int32)), (.int (0 : Int32)), (.int (0 : Int32))] ge_d1 (show (1 : Nat) < 4 by decide) Ld1 S_A S_H S_L Z0) 0 1 4 rfl rfl rfl (by decide) (by decide) (by decide) (by decide) rfl ?_
  rintro _ hp3 ⟨rfl, Kc, L_⟩
  replace S_A := own_sa2 S_A Ld1 Kc
  replace S_H := own_sa2 S_H Ld1 Kc
  replace S_L := own_sa2 S_L Ld1 Kc
  replace Ls := Ls.keep Kc (ninS ne_b1_d1 nin0)
  replace Z0 := Nat.le_trans Z0 Kc.1
  replace K0 := K0.trans Kc (allS (Or.inr sz_d1) all0)
  replace Ld1 : Al Z hp3 d1 .byte [(.int (((c0 >>> ((0 : Int32) &&& 31))).toInt8.toInt32)), (.int (((c0 >>> ((8 : Int32) &&& 31))).toInt8.toInt32)), (.int (0 : Int32)), (.int (0 : Int32))] := L_
  refine W.iinc C (1 : Int32) #[.val (.ref b1), .val (.int (1 : Int32)), .val (.int (2 : Int32)), .val (.ref d1), .val (.int (0 : Int32))] d18_23 rfl rfl rfl ?_
  refine W.iinc C (1 : Int32) #[.val (.ref b1), .val (.int (1 : Int32)), .val (.int (2 : Int32)), .val (.ref d1), .val (.int (1 : Int32))] d18_26 rfl rfl rfl ?_
  refine W.goto C 8 d18_29 rfl ?_
  refine W.iload C d18_8 rfl ?_
  refine W.iloadN C d18_10 rfl ?_
  refine W.icmp_ge C 32 d18_11 rfl (fun b => absurd b (by decide)) (fun _ => ?_)
  refine W.aloadN C d18_14 rfl rfl ?_
  refine W.iload C d18_15 rfl ?_
  refine W.aloadN C d18_17 rfl rfl ?_
  refine W.iloadN C d18_18 rfl ?_
  refine W.caload C 1 d18_19 Ls rfl rfl ?_
  refine W.callS C (y' := y21) d18_20 (tkw hw 95 rfl) (tkw hw 96 rfl) (tkw hw 55 rfl) (tkw hw 97 rfl) (by decide) (argsL := [(.ref d1), (.int (1 : Int32)), (.int c1)]) (rest := []) rfl (lenOf pd_18 rfl) (con_pt_1 l Z a0 hw hp3 n0 d1 c1 [(.int (((c0 >>> ((0 : Int32) &&& 31))).toInt8.toInt32)), (.int (((c0 >>> ((8 : Int32) &&& 31))).toInt8.toInt32)), (.int (0 : Int32)), (.int (0 : Int32))] ge_d1 (show (3 : Nat) < 4 by decide) Ld1 S_A S_H S_L Z0) 0 1 4 rfl rfl rfl (by decide) (by decide) (by decide) (by decide) rfl ?_
  rintro _ hp4 ⟨rfl, Kc, L_⟩
  replace S_A := own_sa2 S_A Ld1 Kc
  replace S_H := own_sa2 S_H Ld1 Kc
  replace S_L := own_sa2 S_L Ld1 Kc
  replace Ls := Ls.keep Kc (ninS ne_b1_d1 nin0)
  replace Z0 := Nat.le_trans Z0 Kc.1
  replace K0 := K0.trans Kc (allS (Or.inr sz_d1) all0)
  replace Ld1 : Al Z hp4 d1 .byte [(.int (((c0 >>> ((0 : Int32) &&& 31))).toInt8.toInt32)), (.int (((c0 >>> ((8 : Int32) &&& 31))).toInt8.toInt32)), (.int (((c1 >>> ((0 : Int32) &&& 31))).toInt8.toInt32)), (.int (((c1 >>> ((8 : Int32) &&& 31))).toInt8.toInt32))] := L_
  refine W.iinc C (2 : Int32) #[.val (.ref b1), .val (.int (2 : Int32)), .val (.int (2 : Int32)), .val (.ref d1), .val (.int (1 : Int32))] d18_23 rfl rfl rfl ?_
  refine W.iinc C (2 : Int32) #[.val (.ref b1), .val (.int (2 : Int32)), .val (.int (2 : Int32)), .val (.ref d1), .val (.int (2 : Int32))] d18_26 rfl rfl rfl ?_
  refine W.goto C 8 d18_29 rfl ?_
  refine W.iload C d18_8 rfl ?_
  refine W.iloadN C d18_10 rfl ?_
  refine W.icmp_ge C 32 d18_11 rfl (fun _ => ?_) (fun b => absurd b (by decide))
  refine W.aloadN C d18_32 rfl rfl ?_
  exact W.aret C d18_33 rfl rfl rfl (FN.ok (by decide) (by decide) ⟨d1, rfl, K0, Ld1, sz_d1⟩)

theorem ef_cou_2 (m : MethodId) (d1 : Addr) : entryFrame m #[(.ref d1), (.int (2 : Int32))] 2 = mkF m 0 #[.val (.ref d1), .val (.int (2 : Int32))] [] := by first | (simp [entryFrame, mkF, argsToLocals, Value.category]; done) | rfl
set_option maxRecDepth 65536 in
set_option maxHeartbeats 40000000 in
theorem con_cou_2 (l : Launch) (Z : State) (a0 : Array Value) (hw : ∀ d ∈ tables_1, d.before a0 Z = true) (h0 : Heap) (n0 : Nat) (d1 : Addr) (c0 c1 : Int32) (Ld : Al Z h0 d1 .byte [(.int (((c0 >>> ((0 : Int32) &&& 31))).toInt8.toInt32)), (.int (((c0 >>> ((8 : Int32) &&& 31))).toInt8.toInt32)), (.int (((c1 >>> ((0 : Int32) &&& 31))).toInt8.toInt32)), (.int (((c1 >>> ((8 : Int32) &&& 31))).toInt8.toInt32))]) (Z0 : n0 ≤ h0.size) : Con l Z y12 jdk_52_method_15_code 2 (some .byte) ({ frames := 0, cells := 0, slots := 0, locals := 0 } : Room) #[(.ref d1), (.int (2 : Int32))] h0 n0 (Pu (some (.int 1)) h0) := by
  refine Con.of pf_12 (fun m => ef_cou_2 m d1) ?_
  intro p e s m below meth c C
  refine W.iloadN C d12_0 rfl ?_
  refine W.aloadN C d12_1 rfl rfl ?_
  refine W.arrlen C (4 : Int32) d12_2 Ld rfl ?_
  refine W.isubV C (-2 : Int32) d12_3 (by decide) ?_
  refine W.bipush C (31 : Int32) d12_4 rfl ?_
  refine W.iushrV C (1 : Int32) d12_6 (by decide) ?_
  refine W.i2bV C (1 : Int32) d12_7 (by decide) ?_
  exact W.iret C d12_8 (by simp) rfl (FN.ok (by decide) (by decide) ⟨rfl, rfl⟩)

theorem ef_c4_2_0 (m : MethodId) (b1 : Addr) (d1 : Addr) : entryFrame m #[(.ref b1), (.int (0 : Int32)), (.ref d1), (.int (0 : Int32)), (.int (2 : Int32))] 7 = mkF m 0 #[.val (.ref b1), .val (.int (0 : Int32)), .val (.ref d1), .val (.int (0 : Int32)), .val (.int (2 : Int32)), .unset, .unset] [] := by first | (simp [entryFrame, mkF, argsToLocals, Value.category]; done) | rfl
set_option maxRecDepth 65536 in
set_option maxHeartbeats 40000000 in
theorem con_c4_2_0 (l : Launch) (Z : State) (a0 : Array Value) (hw : ∀ d ∈ tables_1, d.before a0 Z = true) (h0 : Heap) (n0 : Nat) (b1 : Addr) (d1 : Addr) (c0 c1 : Int32)  (hj : (255 : Int32) < c0) (ne_b1_d1 : b1 ≠ d1) (g_d1 : n0 ≤ d1) (Ls : Al Z h0 b1 .char [(.int c0), (.int c1)]) (Ld : Al Z h0 d1 .byte [(.int (0 : Int32)), (.int (0 : Int32))]) (Z0 : n0 ≤ h0.size) : Con l Z y11 jdk_52_method_21_code 7 (some .int) ({ frames := 0, cells := 0, slots := 0, locals := 0 } : Room) #[(.ref b1), (.int (0 : Int32)), (.ref d1), (.int (0 : Int32)), (.int (2 : Int32))] h0 n0 (fun v h => v = some (.int 0) ∧ Keep h0 h [d1]) := by
  refine Con.of pf_11 (fun m => ef_c4_2_0 m b1 d1) ?_
  intro p e s m below meth c C
  have K0 : Keep h0 h0 [d1] := Keep.refl _ _
  refine W.iconst C (0 : Int32) d11_0 rfl ?_
  refine W.istore C #[.val (.ref b1), .val (.int (0 : Int32)), .val (.ref d1), .val (.int (0 : Int32)), .val (.int (2 : Int32)), .val (.int (0 : Int32)), .unset] d11_1 rfl ?_
  refine W.iload C d11_3 rfl ?_
  refine W.iload C d11_5 rfl ?_
  refine W.icmp_ge C 44 d11_7 rfl (fun b => absurd b (by decide)) (fun _ => ?_)
  refine W.aloadN C d11_10 rfl rfl ?_
  refine W.iloadN C d11_11 rfl ?_
  refine W.caload C 0 d11_12 Ls rfl rfl ?_
  refine W.istore C #[.val (.ref b1), .val (.int (0 : Int32)), .val (.ref d1), .val (.int (0 : Int32)), .val (.int (2 : Int32)), .val (.int (0 : Int32)), .val (.int c0)] d11_13 rfl ?_
  refine W.iload C d11_15 rfl ?_
  refine W.sipush C (255 : Int32) d11_17 rfl ?_
  refine W.icmp_le C 26 d11_20 rfl (fun bq1 => absurd hj bq1) (fun bq1 => ?_)
  refine W.iload C d11_23 rfl ?_
  exact W.iret C d11_25 (by simp) rfl (FN.ok (by decide) (by decide) ⟨rfl, K0⟩)

theorem ef_c3_2_0 (m : MethodId) (b1 : Addr) : entryFrame m #[(.ref b1), (.int (0 : Int32)), (.int (2 : Int32))] 6 = mkF m 0 #[.val (.ref b1), .val (.int (0 : Int32)), .val (.int (2 : Int32)), .unset, .unset, .unset] [] := by first | (simp [entryFrame, mkF, argsToLocals, Value.category]; done) | rfl
set_option maxRecDepth 65536 in
set_option maxHeartbeats 40000000 in
theorem con_c3_2_0 (l : Launch) (Z : State) (a0 : Array Value) (hw : ∀ d ∈ tables_1, d.before a0 Z = true) (h0 : Heap) (n0 : Nat) (b1 : Addr) (c0 c1 : Int32)  (hj : (255 : Int32) < c0) (hr : 0 ≤ c0.toInt ∧ c0.toInt < 65536) (Ls : Al Z h0 b1 .char [(.int c0), (.int c1)]) (S_A : Sta Z h0 "java/lang/StringUTF16" "$assertionsDisabled" "Z" (.int (1 : Int32))) (S_H : Sta Z h0 "java/lang/StringUTF16" "HI_BYTE_SHIFT" "I" (.int (0 : Int32))) (S_L : Sta Z h0 "java/lang/StringUTF16" "LO_BYTE_SHIFT" "I" (.int (8 : Int32))) (Z0 : n0 ≤ h0.size) : Con l Z y10 jdk_52_method_16_code 6 (some (.array .byte)) ({ frames := 3, cells := 2, slots := 6, locals := 40 } : Room) #[(.ref b1), (.int (0 : Int32)), (.int (2 : Int32))] h0 n0 (fun v h => ∃ d, v = some (.ref d) ∧ Keep h0 h [] ∧ Al Z h d .byte [(.int (((c0 >>> ((0 : Int32) &&& 31))).toInt8.toInt32)), (.int (((c0 >>> ((8 : Int32) &&& 31))).toInt8.toInt32)), (.int (((c1 >>> ((0 : Int32) &&& 31))).toInt8.toInt32)), (.int (((c1 >>> ((8 : Int32) &&& 31))).toInt8.toInt32))] ∧ h0.size ≤ d) := by
  refine Con.of pf_10 (fun m => ef_c3_2_0 m b1) ?_
  intro p e s m below meth c C
  have K0 : Keep h0 h0 [] := Keep.refl _ _
  refine W.iloadN C d10_0 rfl ?_
  refine W.newP C 2 2 d10_1 (tkw hw 21 rfl) rfl (Nat.le_refl _) (by decide) 1 2 rfl rfl (by decide) (by decide) ?_
  intro ob1 hp2 hob1 Eob1 Lob1
  have ne_b1_ob1 : b1 ≠ ob1 := Nat.ne_of_lt (by rw [hob1]; exact Ls.lt)
  have ge_ob1 : n0 ≤ ob1 := by rw [hob1]; exact Z0
  have sz_ob1 : h0.size ≤ ob1 := by rw [hob1]; exact K0.1
  replace Ls := Ls.ext Eob1
  replace S_A := S_A.ext Eob1
  replace S_H := S_H.ext Eob1
  replace S_L := S_L.ext Eob1
  replace Z0 := Nat.le_trans Z0 Eob1.1
  replace K0 := K0.ext Eob1
  replace Lob1 : Al Z hp2 ob1 .byte [(.int (0 : Int32)), (.int (0 : Int32))] := Lob1
  refine W.astoreN C #[.val (.ref b1), .val (.int (0 : Int32)), .val (.int (2 : Int32)), .val (.ref ob1), .unset, .unset] d10_3 rfl rfl ?_
  refine W.aloadN C d10_4 rfl rfl ?_
  refine W.iloadN C d10_5 rfl ?_
  refine W.aloadN C d10_6 rfl rfl ?_
  refine W.iconst C (0 : Int32) d10_7 rfl ?_
  refine W.iloadN C d10_8 rfl ?_
  refine W.callS C (y' := y11) d10_9 (tkw hw 57 rfl) (tkw hw 58 rfl) (tkw hw 55 rfl) (tkw hw 59 rfl) (by decide) (argsL := [(.ref b1), (.int (0 : Int32)), (.ref ob1), (.int (0 : Int32)), (.int (2 : Int32))]) (rest := []) rfl (lenOf pd_11 rfl) (con_c4_2_0 l Z a0 hw hp2 n0 b1 ob1 c0 c1  hj ne_b1_ob1 ge_ob1 Ls Lob1 Z0) 0 1 2 rfl rfl rfl (by decide) (by decide) (by decide) (by decide) rfl ?_
  rintro _ hp3 ⟨rfl, Kc⟩
  replace S_A := own_sa2 S_A Lob1 Kc
  replace S_H := own_sa2 S_H Lob1 Kc
  replace S_L := own_sa2 S_L Lob1 Kc
  replace Ls := Ls.keep Kc (ninS ne_b1_ob1 nin0)
  replace Z0 := Nat.le_trans Z0 Kc.1
  replace K0 := K0.trans Kc (allS (Or.inr sz_ob1) all0)
  refine W.istore C #[.val (.ref b1), .val (.int (0 : Int32)), .val (.int (2 : Int32)), .val (.ref ob1), .val (.int (0 : Int32)), .unset] d10_12 rfl ?_
  refine W.iload C d10_14 rfl ?_
  refine W.iloadN C d10_16 rfl ?_
  refine W.icmp_eq C 57 d10_17 rfl (fun b => absurd b (by decide)) (fun _ => ?_)
  refine W.aloadN C d10_20 rfl rfl ?_
  refine W.iloadN C d10_21 rfl ?_
  refine W.iloadN C d10_22 rfl ?_
  refine W.callS C (y' := y18) d10_23 (tkw hw 85 rfl) (tkw hw 86 rfl) (tkw hw 55 rfl) (tkw hw 87 rfl) (by decide) (argsL := [(.ref b1), (.int (0 : Int32)), (.int (2 : Int32))]) (rest := []) rfl (lenOf pd_12 rfl) (con_tb_2 l Z a0 hw hp3 n0 b1 c0 c1 Ls S_A S_H S_L Z0) 0 2 6 rfl rfl rfl (by decide) (by decide) (by decide) (by decide) rfl ?_
  rintro _ hp5 ⟨d4, rfl, Kc, Ld4, sz⟩
  have sz_d4 := Nat.le_trans K0.1 sz
  replace Ls := Ls.ext (ext0 Kc)
  replace Z0 := Nat.le_trans Z0 (ext0 Kc).1
  replace K0 := K0.ext (ext0 Kc)
  replace S_A := S_A.ext (ext0 Kc)
  replace S_H := S_H.ext (ext0 Kc)
  replace S_L := S_L.ext (ext0 Kc)
  refine W.astore C #[.val (.ref b1), .val (.int (0 : Int32)), .val (.int (2 : Int32)), .val (.ref ob1), .val (.int (0 : Int32)), .val (.ref d4)] d10_26 rfl rfl ?_
  refine W.aload C d10_28 rfl rfl ?_
  refine W.iload C d10_30 rfl ?_
  refine W.callS C (y' := y22) d10_32 (tkw hw 101 rfl) (tkw hw 102 rfl) (tkw hw 55 rfl) (tkw hw 103 rfl) (by decide) (argsL := [(.ref d4), (.int (0 : Int32))]) (rest := []) rfl (lenOf pd_4 rfl) (con_gc_0 l Z a0 hw hp5 n0 d4 _ c0 hr.1 hr.2 rfl rfl Ld4 S_A S_H S_L Z0) 0 2 6 rfl rfl rfl (by decide) (by decide) (by decide) (by decide) rfl ?_
  rintro _ _ ⟨rfl, rfl⟩
  refine W.sipush C (255 : Int32) d10_35 rfl ?_
  refine W.icmp_gt C 54 d10_38 rfl (fun bq1 => ?_) (fun bq1 => absurd hj bq1)
  refine W.aload C d10_54 rfl rfl ?_
  exact W.aret C d10_56 rfl rfl rfl (FN.ok (by decide) (by decide) ⟨d4, rfl, K0, Ld4, sz_d4⟩)

theorem ef_i4_2_0 (m : MethodId) (a1 : Addr) (b1 : Addr) : entryFrame m #[(.ref a1), (.ref b1), (.int (0 : Int32)), (.int (2 : Int32)), .null] 6 = mkF m 0 #[.val (.ref a1), .val (.ref b1), .val (.int (0 : Int32)), .val (.int (2 : Int32)), .val .null, .unset] [] := by first | (simp [entryFrame, mkF, argsToLocals, Value.category]; done) | rfl
set_option maxRecDepth 65536 in
set_option maxHeartbeats 40000000 in
theorem con_i4_2_0 (l : Launch) (Z : State) (a0 : Array Value) (hw : ∀ d ∈ tables_1, d.before a0 Z = true) (h0 : Heap) (n0 : Nat) (a1 : Addr) (b1 : Addr) (c0 c1 : Int32)  (hj : (255 : Int32) < c0) (hr : 0 ≤ c0.toInt ∧ c0.toInt < 65536) (u0 u1 : Value) (cv : Int32) (ne_a1_b1 : a1 ≠ b1) (g_a1 : n0 ≤ a1) (E_a1 : Exa Z h0 a1 "java/lang/String") (Fv : Fld Z h0 a1 "java/lang/String" "value" "[B" u0) (Fc : Fld Z h0 a1 "java/lang/String" "coder" "B" u1) (Ls : Al Z h0 b1 .char [(.int c0), (.int c1)]) (S_C : Sta Z h0 "java/lang/String" "COMPACT_STRINGS" "Z" (.int cv)) (hcv : ¬ cv = 0) (S_A : Sta Z h0 "java/lang/StringUTF16" "$assertionsDisabled" "Z" (.int (1 : Int32))) (S_H : Sta Z h0 "java/lang/StringUTF16" "HI_BYTE_SHIFT" "I" (.int (0 : Int32))) (S_L : Sta Z h0 "java/lang/StringUTF16" "LO_BYTE_SHIFT" "I" (.int (8 : Int32))) (Z0 : n0 ≤ h0.size) : Con l Z y3 jdk_42_method_149_code 6 none ({ frames := 4, cells := 2, slots := 6, locals := 57 } : Room) #[(.ref a1), (.ref b1), (.int (0 : Int32)), (.int (2 : Int32)), .null] h0 n0 (fun v h => v = none ∧ Keep h0 h [a1] ∧ Exa Z h a1 "java/lang/String" ∧ ∃ d, Fld Z h a1 "java/lang/String" "value" "[B" (.ref d) ∧ Fld Z h a1 "java/lang/String" "coder" "B" (.int 1) ∧ Al Z h d .byte [(.int (((c0 >>> ((0 : Int32) &&& 31))).toInt8.toInt32)), (.int (((c0 >>> ((8 : Int32) &&& 31))).toInt8.toInt32)), (.int (((c1 >>> ((0 : Int32) &&& 31))).toInt8.toInt32)), (.int (((c1 >>> ((8 : Int32) &&& 31))).toInt8.toInt32))]) := by
  refine Con.of pf_3 (fun m => ef_i4_2_0 m a1 b1) ?_
  intro p e s m below meth c C
  have K0 : Keep h0 h0 [a1] := Keep.refl _ _
  refine W.aloadN C d3_0 rfl rfl ?_
  refine W.initO C d3_1 (tkw hw 17 rfl) (tkw hw 18 rfl) (tkw hw 19 rfl) 0 rfl (by decide) (by decide) rfl ?_
  refine W.iloadN C d3_4 rfl ?_
  refine W.if_ne C 27 d3_5 rfl (fun _ => ?_) (fun b => absurd b (by decide))
  refine W.getS C d3_27 (tkw hw 51 rfl) Via.refl S_C ?_
  refine W.if_eq C 58 d3_30 rfl (fun bq1 => absurd bq1 hcv) (fun bq1 => ?_)
  refine W.aloadN C d3_33 rfl rfl ?_
  refine W.iloadN C d3_34 rfl ?_
  refine W.iloadN C d3_35 rfl ?_
  refine W.callS C (y' := y10) d3_36 (tkw hw 53 rfl) (tkw hw 54 rfl) (tkw hw 55 rfl) (tkw hw 56 rfl) (by decide) (argsL := [(.ref b1), (.int (0 : Int32)), (.int (2 : Int32))]) (rest := []) rfl (lenOf pd_12 rfl) (con_c3_2_0 l Z a0 hw h0 n0 b1 c0 c1  hj hr Ls S_A S_H S_L Z0) 0 2 6 rfl rfl rfl (by decide) (by decide) (by decide) (by decide) rfl ?_
  rintro _ hp2 ⟨d1, rfl, Kc, Ld1, sz⟩
  have ne_a1_d1 : a1 ≠ d1 := Nat.ne_of_lt (Nat.lt_of_lt_of_le E_a1.lt sz)
  replace E_a1 := E_a1.ext (ext0 Kc)
  replace Fv := Fv.ext (ext0 Kc)
  replace Fc := Fc.ext (ext0 Kc)
  replace Ls := Ls.ext (ext0 Kc)
  replace S_A := S_A.ext (ext0 Kc)
  replace S_H := S_H.ext (ext0 Kc)
  replace S_L := S_L.ext (ext0 Kc)
  replace S_C := S_C.ext (ext0 Kc)
  replace Z0 := Nat.le_trans Z0 (ext0 Kc).1
  replace K0 := K0.ext (ext0 Kc)
  refine W.astore C #[.val (.ref a1), .val (.ref b1), .val (.int (0 : Int32)), .val (.int (2 : Int32)), .val .null, .val (.ref d1)] d3_39 rfl rfl ?_
  refine W.aloadN C d3_41 rfl rfl ?_
  refine W.aload C d3_42 rfl rfl ?_
  refine W.iloadN C d3_44 rfl ?_
  refine W.callS C (y' := y12) d3_45 (tkw hw 60 rfl) (tkw hw 61 rfl) (tkw hw 55 rfl) (tkw hw 62 rfl) (by decide) (argsL := [(.ref d1), (.int (2 : Int32))]) (rest := [(.ref a1)]) rfl (lenOf pd_14 rfl) (con_cou_2 l Z a0 hw hp2 n0 d1 c0 c1 Ld1 Z0) 1 2 6 rfl rfl rfl (by decide) (by decide) (by decide) (by decide) rfl ?_
  rintro _ _ ⟨rfl, rfl⟩
  refine W.putF C d3_48 (tkw hw 27 rfl) Via.refl Fc E_a1 (Or.inr ⟨(tkw hw 23 rfl), rfl, rfl⟩) (tkw hw 7 rfl) (ty := .byte) (by decide) rfl rfl g_a1 ?_
  intro hp3 U4
  replace Fc := Fc.same U4
  replace E_a1 := E_a1.wr U4
  replace Fv := Fv.other U4 (Or.inr (slot_ne (Or.inr (tkw hw 22 rfl)) (Or.inr (tkw hw 23 rfl)) (by decide) (t := (.array .byte)) (t' := .byte) (by decide) (by decide)))
  replace Ls := Ls.other U4 (Ne.symm ne_a1_b1)
  replace S_A := S_A.wr U4
  replace S_H := S_H.wr U4
  replace S_L := S_L.wr U4
  replace S_C := S_C.wr U4
  replace Z0 := Nat.le_trans Z0 (Nat.le_of_eq (U4.size).symm)
  replace K0 := K0.wr U4 (Or.inl (List.mem_of_getElem? (i := 0) rfl))
  replace Ld1 := Ld1.other U4 (Ne.symm ne_a1_d1)
  refine W.aloadN C d3_51 rfl rfl ?_
  refine W.aload C d3_52 rfl rfl ?_
  refine W.putF C d3_54 (tkw hw 26 rfl) Via.refl Fv E_a1 (Or.inr ⟨(tkw hw 22 rfl), rfl, rfl⟩) (tkw hw 7 rfl) (ty := (.array .byte)) (by decide) rfl rfl g_a1 ?_
  intro hp5 U6
  replace Fv := Fv.same U6
  replace E_a1 := E_a1.wr U6
  replace Fc := Fc.other U6 (Or.inr (slot_ne (Or.inr (tkw hw 23 rfl)) (Or.inr (tkw hw 22 rfl)) (by decide) (t := .byte) (t' := (.array .byte)) (by decide) (by decide)))
  replace Ls := Ls.other U6 (Ne.symm ne_a1_b1)
  replace S_A := S_A.wr U6
  replace S_H := S_H.wr U6
  replace S_L := S_L.wr U6
  replace S_C := S_C.wr U6
  replace Z0 := Nat.le_trans Z0 (Nat.le_of_eq (U6.size).symm)
  replace K0 := K0.wr U6 (Or.inl (List.mem_of_getElem? (i := 0) rfl))
  replace Ld1 := Ld1.other U6 (Ne.symm ne_a1_d1)
  exact W.retV C d3_57 (FN.ok (by decide) (by decide) ⟨rfl, K0, E_a1, d1, Fv, Fc, Ld1⟩)

theorem ef_i1_2_0 (m : MethodId) (a1 : Addr) (b1 : Addr) : entryFrame m #[(.ref a1), (.ref b1)] 2 = mkF m 0 #[.val (.ref a1), .val (.ref b1)] [] := by first | (simp [entryFrame, mkF, argsToLocals, Value.category]; done) | rfl
set_option maxRecDepth 65536 in
set_option maxHeartbeats 40000000 in
theorem con_i1_2_0 (l : Launch) (Z : State) (a0 : Array Value) (hw : ∀ d ∈ tables_1, d.before a0 Z = true) (h0 : Heap) (n0 : Nat) (a1 : Addr) (b1 : Addr) (c0 c1 : Int32)  (hj : (255 : Int32) < c0) (hr : 0 ≤ c0.toInt ∧ c0.toInt < 65536) (u0 u1 : Value) (cv : Int32) (ne_a1_b1 : a1 ≠ b1) (g_a1 : n0 ≤ a1) (E_a1 : Exa Z h0 a1 "java/lang/String") (Fv : Fld Z h0 a1 "java/lang/String" "value" "[B" u0) (Fc : Fld Z h0 a1 "java/lang/String" "coder" "B" u1) (Ls : Al Z h0 b1 .char [(.int c0), (.int c1)]) (S_C : Sta Z h0 "java/lang/String" "COMPACT_STRINGS" "Z" (.int cv)) (hcv : ¬ cv = 0) (S_A : Sta Z h0 "java/lang/StringUTF16" "$assertionsDisabled" "Z" (.int (1 : Int32))) (S_H : Sta Z h0 "java/lang/StringUTF16" "HI_BYTE_SHIFT" "I" (.int (0 : Int32))) (S_L : Sta Z h0 "java/lang/StringUTF16" "LO_BYTE_SHIFT" "I" (.int (8 : Int32))) (Z0 : n0 ≤ h0.size) : Con l Z y2 jdk_42_method_3_code 2 none ({ frames := 5, cells := 2, slots := 6, locals := 74 } : Room) #[(.ref a1), (.ref b1)] h0 n0 (fun v h => v = none ∧ Keep h0 h [a1] ∧ Exa Z h a1 "java/lang/String" ∧ ∃ d, Fld Z h a1 "java/lang/String" "value" "[B" (.ref d) ∧ Fld Z h a1 "java/lang/String" "coder" "B" (.int 1) ∧ Al Z h d .byte [(.int (((c0 >>> ((0 : Int32) &&& 31))).toInt8.toInt32)), (.int (((c0 >>> ((8 : Int32) &&& 31))).toInt8.toInt32)), (.int (((c1 >>> ((0 : Int32) &&& 31))).toInt8.toInt32)), (.int (((c1 >>> ((8 : Int32) &&& 31))).toInt8.toInt32))]) := by
  refine Con.of pf_2 (fun m => ef_i1_2_0 m a1 b1) ?_
  intro p e s m below meth c C
  have K0 : Keep h0 h0 [a1] := Keep.refl _ _
  refine W.aloadN C d2_0 rfl rfl ?_
  refine W.aloadN C d2_1 rfl rfl ?_
  refine W.iconst C (0 : Int32) d2_2 rfl ?_
  refine W.aloadN C d2_3 rfl rfl ?_
  refine W.arrlen C (2 : Int32) d2_4 Ls rfl ?_
  refine W.aconstNull C d2_5 ?_
  refine W.callI C (y' := y3) d2_6 rfl (tkw hw 13 rfl) (tkw hw 14 rfl) (tkw hw 8 rfl) (tkw hw 16 rfl) (by decide) (a := a1) (argsL := [(.ref b1), (.int (0 : Int32)), (.int (2 : Int32)), .null]) (rest := []) rfl (lenOf pd_15 rfl) (con_i4_2_0 l Z a0 hw h0 n0 a1 b1 c0 c1  hj hr u0 u1 cv ne_a1_b1 g_a1 E_a1 Fv Fc Ls S_C hcv S_A S_H S_L Z0) 0 2 6 rfl rfl rfl (by decide) (by decide) (by decide) (by decide) rfl ?_
  rintro _ hp1 ⟨rfl, Kc, E_n, d, Fv_n, Fc_n, Ld⟩
  replace Ls := Ls.keep Kc (ninS (Ne.symm ne_a1_b1) nin0)
  replace Z0 := Nat.le_trans Z0 Kc.1
  replace K0 := K0.trans Kc (allS (Or.inl (List.mem_of_getElem? (i := 0) rfl)) all0)
  replace E_a1 := E_n
  replace Fv := Fv_n
  replace Fc := Fc_n
  exact W.retV C d2_9 (FN.ok (by decide) (by decide) ⟨rfl, K0, E_a1, d, Fv, Fc, Ld⟩)

theorem ef_c4_2_1 (m : MethodId) (b1 : Addr) (d1 : Addr) : entryFrame m #[(.ref b1), (.int (0 : Int32)), (.ref d1), (.int (0 : Int32)), (.int (2 : Int32))] 7 = mkF m 0 #[.val (.ref b1), .val (.int (0 : Int32)), .val (.ref d1), .val (.int (0 : Int32)), .val (.int (2 : Int32)), .unset, .unset] [] := by first | (simp [entryFrame, mkF, argsToLocals, Value.category]; done) | rfl
set_option maxRecDepth 65536 in
set_option maxHeartbeats 40000000 in
theorem con_c4_2_1 (l : Launch) (Z : State) (a0 : Array Value) (hw : ∀ d ∈ tables_1, d.before a0 Z = true) (h0 : Heap) (n0 : Nat) (b1 : Addr) (d1 : Addr) (c0 c1 : Int32) (hc0 : ¬ (255 : Int32) < c0) (hj : (255 : Int32) < c1) (ne_b1_d1 : b1 ≠ d1) (g_d1 : n0 ≤ d1) (Ls : Al Z h0 b1 .char [(.int c0), (.int c1)]) (Ld : Al Z h0 d1 .byte [(.int (0 : Int32)), (.int (0 : Int32))]) (Z0 : n0 ≤ h0.size) : Con l Z y11 jdk_52_method_21_code 7 (some .int) ({ frames := 0, cells := 0, slots := 0, locals := 0 } : Room) #[(.ref b1), (.int (0 : Int32)), (.ref d1), (.int (0 : Int32)), (.int (2 : Int32))] h0 n0 (fun v h => v = some (.int 1) ∧ Keep h0 h [d1]) := by
  refine Con.of pf_11 (fun m => ef_c4_2_1 m b1 d1) ?_
  intro p e s m below meth c C
  have K0 : Keep h0 h0 [d1] := Keep.refl _ _
  refine W.iconst C (0 : Int32) d11_0 rfl ?_
  refine W.istore C #[.val (.ref b1), .val (.int (0 : Int32)), .val (.ref d1), .val (.int (0 : Int32)), .val (.int (2 : Int32)), .val (.int (0 : Int32)), .unset] d11_1 rfl ?_
  refine W.iload C d11_3 rfl ?_
  refine W.iload C d11_5 rfl ?_
  refine W.icmp_ge C 44 d11_7 rfl (fun b => absurd b (by decide)) (fun _ => ?_)
  refine W.aloadN C d11_10 rfl rfl ?_
  refine W.iloadN C d11_11 rfl ?_
  refine W.caload C 0 d11_12 Ls rfl rfl ?_
  refine W.istore C #[.val (.ref b1), .val (.int (0 : Int32)), .val (.ref d1), .val (.int (0 : Int32)), .val (.int (2 : Int32)), .val (.int (0 : Int32)), .val (.int c0)] d11_13 rfl ?_
  refine W.iload C d11_15 rfl ?_
  refine W.sipush C (255 : Int32) d11_17 rfl ?_
  refine W.icmp_le C 26 d11_20 rfl (fun bq1 => ?_) (fun bq1 => absurd bq1 hc0)
  refine W.aloadN C d11_26 rfl rfl ?_
  refine W.iloadN C d11_27 rfl ?_
  refine W.iload C d11_28 rfl ?_
  refine W.i2b C d11_30 ?_
  refine W.bastoreI C 0 d11_31 Ld rfl (show (0 : Nat) < 2 by decide) g_d1 ?_
  intro hp1 U2 Ld_
  replace Ls := Ls.other U2 ne_b1_d1
  replace Z0 := Nat.le_trans Z0 (Nat.le_of_eq (U2.size).symm)
  replace K0 := K0.wr U2 (Or.inl (List.mem_of_getElem? (i := 0) rfl))
  replace Ld : Al Z hp1 d1 .byte [(.int ((c0).toInt8.toInt32)), (.int (0 : Int32))] := Ld_
  refine W.iinc C (1 : Int32) #[.val (.ref b1), .val (.int (1 : Int32)), .val (.ref d1), .val (.int (0 : Int32)), .val (.int (2 : Int32)), .val (.int (0 : Int32)), .val (.int c0)] d11_32 rfl rfl rfl ?_
  refine W.iinc C (1 : Int32) #[.val (.ref b1), .val (.int (1 : Int32)), .val (.ref d1), .val (.int (1 : Int32)), .val (.int (2 : Int32)), .val (.int (0 : Int32)), .val (.int c0)] d11_35 rfl rfl rfl ?_
  refine W.iinc C (1 : Int32) #[.val (.ref b1), .val (.int (1 : Int32)), .val (.ref d1), .val (.int (1 : Int32)), .val (.int (2 : Int32)), .val (.int (1 : Int32)), .val (.int c0)] d11_38 rfl rfl rfl ?_
  refine W.goto C 3 d11_41 rfl ?_
  refine W.iload C d11_3 rfl ?_
  refine W.iload C d11_5 rfl ?_
  refine W.icmp_ge C 44 d11_7 rfl (fun b => absurd b (by decide)) (fun _ => ?_)
  refine W.aloadN C d11_10 rfl rfl ?_
  refine W.iloadN C d11_11 rfl ?_
  refine W.caload C 1 d11_12 Ls rfl rfl ?_
  refine W.istore C #[.val (.ref b1), .val (.int (1 : Int32)), .val (.ref d1), .val (.int (1 : Int32)), .val (.int (2 : Int32)), .val (.int (1 : Int32)), .val (.int c1)] d11_13 rfl ?_
  refine W.iload C d11_15 rfl ?_
  refine W.sipush C (255 : Int32) d11_17 rfl ?_
  refine W.icmp_le C 26 d11_20 rfl (fun bq2 => absurd hj bq2) (fun bq2 => ?_)
  refine W.iload C d11_23 rfl ?_
  exact W.iret C d11_25 (by simp) rfl (FN.ok (by decide) (by decide) ⟨rfl, K0⟩)

theorem ef_c3_2_1 (m : MethodId) (b1 : Addr) : entryFrame m #[(.ref b1), (.int (0 : Int32)), (.int (2 : Int32))] 6 = mkF m 0 #[.val (.ref b1), .val (.int (0 : Int32)), .val (.int (2 : Int32)), .unset, .unset, .unset] [] := by first | (simp [entryFrame, mkF, argsToLocals, Value.category]; done) | rfl
set_option maxRecDepth 65536 in
set_option maxHeartbeats 40000000 in
theorem con_c3_2_1 (l : Launch) (Z : State) (a0 : Array Value) (hw : ∀ d ∈ tables_1, d.before a0 Z = true) (h0 : Heap) (n0 : Nat) (b1 : Addr) (c0 c1 : Int32) (hc0 : ¬ (255 : Int32) < c0) (hj : (255 : Int32) < c1) (hr : 0 ≤ c1.toInt ∧ c1.toInt < 65536) (Ls : Al Z h0 b1 .char [(.int c0), (.int c1)]) (S_A : Sta Z h0 "java/lang/StringUTF16" "$assertionsDisabled" "Z" (.int (1 : Int32))) (S_H : Sta Z h0 "java/lang/StringUTF16" "HI_BYTE_SHIFT" "I" (.int (0 : Int32))) (S_L : Sta Z h0 "java/lang/StringUTF16" "LO_BYTE_SHIFT" "I" (.int (8 : Int32))) (Z0 : n0 ≤ h0.size) : Con l Z y10 jdk_52_method_16_code 6 (some (.array .byte)) ({ frames := 3, cells := 2, slots := 6, locals := 40 } : Room) #[(.ref b1), (.int (0 : Int32)), (.int (2 : Int32))] h0 n0 (fun v h => ∃ d, v = some (.ref d) ∧ Keep h0 h [] ∧ Al Z h d .byte [(.int (((c0 >>> ((0 : Int32) &&& 31))).toInt8.toInt32)), (.int (((c0 >>> ((8 : Int32) &&& 31))).toInt8.toInt32)), (.int (((c1 >>> ((0 : Int32) &&& 31))).toInt8.toInt32)), (.int (((c1 >>> ((8 : Int32) &&& 31))).toInt8.toInt32))] ∧ h0.size ≤ d) := by
  refine Con.of pf_10 (fun m => ef_c3_2_1 m b1) ?_
  intro p e s m below meth c C
  have K0 : Keep h0 h0 [] := Keep.refl _ _
  refine W.iloadN C d10_0 rfl ?_
  refine W.newP C 2 2 d10_1 (tkw hw 21 rfl) rfl (Nat.le_refl _) (by decide) 1 2 rfl rfl (by decide) (by decide) ?_
  intro ob1 hp2 hob1 Eob1 Lob1
  have ne_b1_ob1 : b1 ≠ ob1 := Nat.ne_of_lt (by rw [hob1]; exact Ls.lt)
  have ge_ob1 : n0 ≤ ob1 := by rw [hob1]; exact Z0
  have sz_ob1 : h0.size ≤ ob1 := by rw [hob1]; exact K0.1
  replace Ls := Ls.ext Eob1
  replace S_A := S_A.ext Eob1
  replace S_H := S_H.ext Eob1
  replace S_L := S_L.ext Eob1
  replace Z0 := Nat.le_trans Z0 Eob1.1
  replace K0 := K0.ext Eob1
  replace Lob1 : Al Z hp2 ob1 .byte [(.int (0 : Int32)), (.int (0 : Int32))] := Lob1
  refine W.astoreN C #[.val (.ref b1), .val (.int (0 : Int32)), .val (.int (2 : Int32)), .val (.ref ob1), .unset, .unset] d10_3 rfl rfl ?_
  refine W.aloadN C d10_4 rfl rfl ?_
  refine W.iloadN C d10_5 rfl ?_
  refine W.aloadN C d10_6 rfl rfl ?_
  refine W.iconst C (0 : Int32) d10_7 rfl ?_
  refine W.iloadN C d10_8 rfl ?_
  refine W.callS C (y' := y11) d10_9 (tkw hw 57 rfl) (tkw hw 58 rfl) (tkw hw 55 rfl) (tkw hw 59 rfl) (by decide) (argsL := [(.ref b1), (.int (0 : Int32)), (.ref ob1), (.int (0 : Int32)), (.int (2 : Int32))]) (rest := []) rfl (lenOf pd_11 rfl) (con_c4_2_1 l Z a0 hw hp2 n0 b1 ob1 c0 c1 hc0 hj ne_b1_ob1 ge_ob1 Ls Lob1 Z0) 0 1 2 rfl rfl rfl (by decide) (by decide) (by decide) (by decide) rfl ?_
  rintro _ hp3 ⟨rfl, Kc⟩
  replace S_A := own_sa2 S_A Lob1 Kc
  replace S_H := own_sa2 S_H Lob1 Kc
  replace S_L := own_sa2 S_L Lob1 Kc
  replace Ls := Ls.keep Kc (ninS ne_b1_ob1 nin0)
  replace Z0 := Nat.le_trans Z0 Kc.1
  replace K0 := K0.trans Kc (allS (Or.inr sz_ob1) all0)
  refine W.istore C #[.val (.ref b1), .val (.int (0 : Int32)), .val (.int (2 : Int32)), .val (.ref ob1), .val (.int (1 : Int32)), .unset] d10_12 rfl ?_
  refine W.iload C d10_14 rfl ?_
  refine W.iloadN C d10_16 rfl ?_
  refine W.icmp_eq C 57 d10_17 rfl (fun b => absurd b (by decide)) (fun _ => ?_)
  refine W.aloadN C d10_20 rfl rfl ?_
  refine W.iloadN C d10_21 rfl ?_
  refine W.iloadN C d10_22 rfl ?_
  refine W.callS C (y' := y18) d10_23 (tkw hw 85 rfl) (tkw hw 86 rfl) (tkw hw 55 rfl) (tkw hw 87 rfl) (by decide) (argsL := [(.ref b1), (.int (0 : Int32)), (.int (2 : Int32))]) (rest := []) rfl (lenOf pd_12 rfl) (con_tb_2 l Z a0 hw hp3 n0 b1 c0 c1 Ls S_A S_H S_L Z0) 0 2 6 rfl rfl rfl (by decide) (by decide) (by decide) (by decide) rfl ?_
  rintro _ hp5 ⟨d4, rfl, Kc, Ld4, sz⟩
  have sz_d4 := Nat.le_trans K0.1 sz
  replace Ls := Ls.ext (ext0 Kc)
  replace Z0 := Nat.le_trans Z0 (ext0 Kc).1
  replace K0 := K0.ext (ext0 Kc)
  replace S_A := S_A.ext (ext0 Kc)
  replace S_H := S_H.ext (ext0 Kc)
  replace S_L := S_L.ext (ext0 Kc)
  refine W.astore C #[.val (.ref b1), .val (.int (0 : Int32)), .val (.int (2 : Int32)), .val (.ref ob1), .val (.int (1 : Int32)), .val (.ref d4)] d10_26 rfl rfl ?_
  refine W.aload C d10_28 rfl rfl ?_
  refine W.iload C d10_30 rfl ?_
  refine W.callS C (y' := y22) d10_32 (tkw hw 101 rfl) (tkw hw 102 rfl) (tkw hw 55 rfl) (tkw hw 103 rfl) (by decide) (argsL := [(.ref d4), (.int (1 : Int32))]) (rest := []) rfl (lenOf pd_4 rfl) (con_gc_1 l Z a0 hw hp5 n0 d4 _ c1 hr.1 hr.2 rfl rfl Ld4 S_A S_H S_L Z0) 0 2 6 rfl rfl rfl (by decide) (by decide) (by decide) (by decide) rfl ?_
  rintro _ _ ⟨rfl, rfl⟩
  refine W.sipush C (255 : Int32) d10_35 rfl ?_
  refine W.icmp_gt C 54 d10_38 rfl (fun bq1 => ?_) (fun bq1 => absurd hj bq1)
  refine W.aload C d10_54 rfl rfl ?_
  exact W.aret C d10_56 rfl rfl rfl (FN.ok (by decide) (by decide) ⟨d4, rfl, K0, Ld4, sz_d4⟩)

theorem ef_i4_2_1 (m : MethodId) (a1 : Addr) (b1 : Addr) : entryFrame m #[(.ref a1), (.ref b1), (.int (0 : Int32)), (.int (2 : Int32)), .null] 6 = mkF m 0 #[.val (.ref a1), .val (.ref b1), .val (.int (0 : Int32)), .val (.int (2 : Int32)), .val .null, .unset] [] := by first | (simp [entryFrame, mkF, argsToLocals, Value.category]; done) | rfl
set_option maxRecDepth 65536 in
set_option maxHeartbeats 40000000 in
theorem con_i4_2_1 (l : Launch) (Z : State) (a0 : Array Value) (hw : ∀ d ∈ tables_1, d.before a0 Z = true) (h0 : Heap) (n0 : Nat) (a1 : Addr) (b1 : Addr) (c0 c1 : Int32) (hc0 : ¬ (255 : Int32) < c0) (hj : (255 : Int32) < c1) (hr : 0 ≤ c1.toInt ∧ c1.toInt < 65536) (u0 u1 : Value) (cv : Int32) (ne_a1_b1 : a1 ≠ b1) (g_a1 : n0 ≤ a1) (E_a1 : Exa Z h0 a1 "java/lang/String") (Fv : Fld Z h0 a1 "java/lang/String" "value" "[B" u0) (Fc : Fld Z h0 a1 "java/lang/String" "coder" "B" u1) (Ls : Al Z h0 b1 .char [(.int c0), (.int c1)]) (S_C : Sta Z h0 "java/lang/String" "COMPACT_STRINGS" "Z" (.int cv)) (hcv : ¬ cv = 0) (S_A : Sta Z h0 "java/lang/StringUTF16" "$assertionsDisabled" "Z" (.int (1 : Int32))) (S_H : Sta Z h0 "java/lang/StringUTF16" "HI_BYTE_SHIFT" "I" (.int (0 : Int32))) (S_L : Sta Z h0 "java/lang/StringUTF16" "LO_BYTE_SHIFT" "I" (.int (8 : Int32))) (Z0 : n0 ≤ h0.size) : Con l Z y3 jdk_42_method_149_code 6 none ({ frames := 4, cells := 2, slots := 6, locals := 57 } : Room) #[(.ref a1), (.ref b1), (.int (0 : Int32)), (.int (2 : Int32)), .null] h0 n0 (fun v h => v = none ∧ Keep h0 h [a1] ∧ Exa Z h a1 "java/lang/String" ∧ ∃ d, Fld Z h a1 "java/lang/String" "value" "[B" (.ref d) ∧ Fld Z h a1 "java/lang/String" "coder" "B" (.int 1) ∧ Al Z h d .byte [(.int (((c0 >>> ((0 : Int32) &&& 31))).toInt8.toInt32)), (.int (((c0 >>> ((8 : Int32) &&& 31))).toInt8.toInt32)), (.int (((c1 >>> ((0 : Int32) &&& 31))).toInt8.toInt32)), (.int (((c1 >>> ((8 : Int32) &&& 31))).toInt8.toInt32))]) := by
  refine Con.of pf_3 (fun m => ef_i4_2_1 m a1 b1) ?_
  intro p e s m below meth c C
  have K0 : Keep h0 h0 [a1] := Keep.refl _ _
  refine W.aloadN C d3_0 rfl rfl ?_
  refine W.initO C d3_1 (tkw hw 17 rfl) (tkw hw 18 rfl) (tkw hw 19 rfl) 0 rfl (by decide) (by decide) rfl ?_
  refine W.iloadN C d3_4 rfl ?_
  refine W.if_ne C 27 d3_5 rfl (fun _ => ?_) (fun b => absurd b (by decide))
  refine W.getS C d3_27 (tkw hw 51 rfl) Via.refl S_C ?_
  refine W.if_eq C 58 d3_30 rfl (fun bq1 => absurd bq1 hcv) (fun bq1 => ?_)
  refine W.aloadN C d3_33 rfl rfl ?_
  refine W.iloadN C d3_34 rfl ?_
  refine W.iloadN C d3_35 rfl ?_
  refine W.callS C (y' := y10) d3_36 (tkw hw 53 rfl) (tkw hw 54 rfl) (tkw hw 55 rfl) (tkw hw 56 rfl) (by decide) (argsL := [(.ref b1), (.int (0 : Int32)), (.int (2 : Int32))]) (rest := []) rfl (lenOf pd_12 rfl) (con_c3_2_1 l Z a0 hw h0 n0 b1 c0 c1 hc0 hj hr Ls S_A S_H S_L Z0) 0 2 6 rfl rfl rfl (by decide) (by decide) (by decide) (by decide) rfl ?_
  rintro _ hp2 ⟨d1, rfl, Kc, Ld1, sz⟩
  have ne_a1_d1 : a1 ≠ d1 := Nat.ne_of_lt (Nat.lt_of_lt_of_le E_a1.lt sz)
  replace E_a1 := E_a1.ext (ext0 Kc)
  replace Fv := Fv.ext (ext0 Kc)
  replace Fc := Fc.ext (ext0 Kc)
  replace Ls := Ls.ext (ext0 Kc)
  replace S_A := S_A.ext (ext0 Kc)
  replace S_H := S_H.ext (ext0 Kc)
  replace S_L := S_L.ext (ext0 Kc)
  replace S_C := S_C.ext (ext0 Kc)
  replace Z0 := Nat.le_trans Z0 (ext0 Kc).1
  replace K0 := K0.ext (ext0 Kc)
  refine W.astore C #[.val (.ref a1), .val (.ref b1), .val (.int (0 : Int32)), .val (.int (2 : Int32)), .val .null, .val (.ref d1)] d3_39 rfl rfl ?_
  refine W.aloadN C d3_41 rfl rfl ?_
  refine W.aload C d3_42 rfl rfl ?_
  refine W.iloadN C d3_44 rfl ?_
  refine W.callS C (y' := y12) d3_45 (tkw hw 60 rfl) (tkw hw 61 rfl) (tkw hw 55 rfl) (tkw hw 62 rfl) (by decide) (argsL := [(.ref d1), (.int (2 : Int32))]) (rest := [(.ref a1)]) rfl (lenOf pd_14 rfl) (con_cou_2 l Z a0 hw hp2 n0 d1 c0 c1 Ld1 Z0) 1 2 6 rfl rfl rfl (by decide) (by decide) (by decide) (by decide) rfl ?_
  rintro _ _ ⟨rfl, rfl⟩
  refine W.putF C d3_48 (tkw hw 27 rfl) Via.refl Fc E_a1 (Or.inr ⟨(tkw hw 23 rfl), rfl, rfl⟩) (tkw hw 7 rfl) (ty := .byte) (by decide) rfl rfl g_a1 ?_
  intro hp3 U4
  replace Fc := Fc.same U4
  replace E_a1 := E_a1.wr U4
  replace Fv := Fv.other U4 (Or.inr (slot_ne (Or.inr (tkw hw 22 rfl)) (Or.inr (tkw hw 23 rfl)) (by decide) (t := (.array .byte)) (t' := .byte) (by decide) (by decide)))
  replace Ls := Ls.other U4 (Ne.symm ne_a1_b1)
  replace S_A := S_A.wr U4
  replace S_H := S_H.wr U4
  replace S_L := S_L.wr U4
  replace S_C := S_C.wr U4
  replace Z0 := Nat.le_trans Z0 (Nat.le_of_eq (U4.size).symm)
  replace K0 := K0.wr U4 (Or.inl (List.mem_of_getElem? (i := 0) rfl))
  replace Ld1 := Ld1.other U4 (Ne.symm ne_a1_d1)
  refine W.aloadN C d3_51 rfl rfl ?_
  refine W.aload C d3_52 rfl rfl ?_
  refine W.putF C d3_54 (tkw hw 26 rfl) Via.refl Fv E_a1 (Or.inr ⟨(tkw hw 22 rfl), rfl, rfl⟩) (tkw hw 7 rfl) (ty := (.array .byte)) (by decide) rfl rfl g_a1 ?_
  intro hp5 U6
  replace Fv := Fv.same U6
  replace E_a1 := E_a1.wr U6
  replace Fc := Fc.other U6 (Or.inr (slot_ne (Or.inr (tkw hw 23 rfl)) (Or.inr (tkw hw 22 rfl)) (by decide) (t := .byte) (t' := (.array .byte)) (by decide) (by decide)))
  replace Ls := Ls.other U6 (Ne.symm ne_a1_b1)
  replace S_A := S_A.wr U6
  replace S_H := S_H.wr U6
  replace S_L := S_L.wr U6
  replace S_C := S_C.wr U6
  replace Z0 := Nat.le_trans Z0 (Nat.le_of_eq (U6.size).symm)
  replace K0 := K0.wr U6 (Or.inl (List.mem_of_getElem? (i := 0) rfl))
  replace Ld1 := Ld1.other U6 (Ne.symm ne_a1_d1)
  exact W.retV C d3_57 (FN.ok (by decide) (by decide) ⟨rfl, K0, E_a1, d1, Fv, Fc, Ld1⟩)

theorem ef_i1_2_1 (m : MethodId) (a1 : Addr) (b1 : Addr) : entryFrame m #[(.ref a1), (.ref b1)] 2 = mkF m 0 #[.val (.ref a1), .val (.ref b1)] [] := by first | (simp [entryFrame, mkF, argsToLocals, Value.category]; done) | rfl
set_option maxRecDepth 65536 in
set_option maxHeartbeats 40000000 in
theorem con_i1_2_1 (l : Launch) (Z : State) (a0 : Array Value) (hw : ∀ d ∈ tables_1, d.before a0 Z = true) (h0 : Heap) (n0 : Nat) (a1 : Addr) (b1 : Addr) (c0 c1 : Int32) (hc0 : ¬ (255 : Int32) < c0) (hj : (255 : Int32) < c1) (hr : 0 ≤ c1.toInt ∧ c1.toInt < 65536) (u0 u1 : Value) (cv : Int32) (ne_a1_b1 : a1 ≠ b1) (g_a1 : n0 ≤ a1) (E_a1 : Exa Z h0 a1 "java/lang/String") (Fv : Fld Z h0 a1 "java/lang/String" "value" "[B" u0) (Fc : Fld Z h0 a1 "java/lang/String" "coder" "B" u1) (Ls : Al Z h0 b1 .char [(.int c0), (.int c1)]) (S_C : Sta Z h0 "java/lang/String" "COMPACT_STRINGS" "Z" (.int cv)) (hcv : ¬ cv = 0) (S_A : Sta Z h0 "java/lang/StringUTF16" "$assertionsDisabled" "Z" (.int (1 : Int32))) (S_H : Sta Z h0 "java/lang/StringUTF16" "HI_BYTE_SHIFT" "I" (.int (0 : Int32))) (S_L : Sta Z h0 "java/lang/StringUTF16" "LO_BYTE_SHIFT" "I" (.int (8 : Int32))) (Z0 : n0 ≤ h0.size) : Con l Z y2 jdk_42_method_3_code 2 none ({ frames := 5, cells := 2, slots := 6, locals := 74 } : Room) #[(.ref a1), (.ref b1)] h0 n0 (fun v h => v = none ∧ Keep h0 h [a1] ∧ Exa Z h a1 "java/lang/String" ∧ ∃ d, Fld Z h a1 "java/lang/String" "value" "[B" (.ref d) ∧ Fld Z h a1 "java/lang/String" "coder" "B" (.int 1) ∧ Al Z h d .byte [(.int (((c0 >>> ((0 : Int32) &&& 31))).toInt8.toInt32)), (.int (((c0 >>> ((8 : Int32) &&& 31))).toInt8.toInt32)), (.int (((c1 >>> ((0 : Int32) &&& 31))).toInt8.toInt32)), (.int (((c1 >>> ((8 : Int32) &&& 31))).toInt8.toInt32))]) := by
  refine Con.of pf_2 (fun m => ef_i1_2_1 m a1 b1) ?_
  intro p e s m below meth c C
  have K0 : Keep h0 h0 [a1] := Keep.refl _ _
  refine W.aloadN C d2_0 rfl rfl ?_
  refine W.aloadN C d2_1 rfl rfl ?_
  refine W.iconst C (0 : Int32) d2_2 rfl ?_
  refine W.aloadN C d2_3 rfl rfl ?_
  refine W.arrlen C (2 : Int32) d2_4 Ls rfl ?_
  refine W.aconstNull C d2_5 ?_
  refine W.callI C (y' := y3) d2_6 rfl (tkw hw 13 rfl) (tkw hw 14 rfl) (tkw hw 8 rfl) (tkw hw 16 rfl) (by decide) (a := a1) (argsL := [(.ref b1), (.int (0 : Int32)), (.int (2 : Int32)), .null]) (rest := []) rfl (lenOf pd_15 rfl) (con_i4_2_1 l Z a0 hw h0 n0 a1 b1 c0 c1 hc0 hj hr u0 u1 cv ne_a1_b1 g_a1 E_a1 Fv Fc Ls S_C hcv S_A S_H S_L Z0) 0 2 6 rfl rfl rfl (by decide) (by decide) (by decide) (by decide) rfl ?_
  rintro _ hp1 ⟨rfl, Kc, E_n, d, Fv_n, Fc_n, Ld⟩
  replace Ls := Ls.keep Kc (ninS (Ne.symm ne_a1_b1) nin0)
  replace Z0 := Nat.le_trans Z0 Kc.1
  replace K0 := K0.trans Kc (allS (Or.inl (List.mem_of_getElem? (i := 0) rfl)) all0)
  replace E_a1 := E_n
  replace Fv := Fv_n
  replace Fc := Fc_n
  exact W.retV C d2_9 (FN.ok (by decide) (by decide) ⟨rfl, K0, E_a1, d, Fv, Fc, Ld⟩)

theorem ef_nl_3 (m : MethodId)  : entryFrame m #[(.int (3 : Int32))] 1 = mkF m 0 #[.val (.int (3 : Int32))] [] := by first | (simp [entryFrame, mkF, argsToLocals, Value.category]; done) | rfl
set_option maxRecDepth 65536 in
set_option maxHeartbeats 40000000 in
theorem con_nl_3 (l : Launch) (Z : State) (a0 : Array Value) (hw : ∀ d ∈ tables_1, d.before a0 Z = true) (h0 : Heap) (n0 : Nat)   (Z0 : n0 ≤ h0.size) : Con l Z y20 jdk_52_method_3_code 1 (some .int) ({ frames := 0, cells := 0, slots := 0, locals := 0 } : Room) #[(.int (3 : Int32))] h0 n0 (Pu (some (.int 6)) h0) := by
  refine Con.of pf_20 (fun m => ef_nl_3 m ) ?_
  intro p e s m below meth c C
  refine W.iloadN C d20_0 rfl ?_
  refine W.if_ge C 12 d20_1 rfl (fun _ => ?_) (fun b => absurd b (by decide))
  refine W.iloadN C d20_12 rfl ?_
  refine W.ldcI C (v := (1073741823 : Int32)) d20_13 (tkw hw 94 rfl) ?_
  refine W.icmp_lt C 55 d20_15 rfl (fun _ => ?_) (fun b => absurd b (by decide))
  refine W.iloadN C d20_55 rfl ?_
  refine W.iconst C (1 : Int32) d20_56 rfl ?_
  refine W.ishlV C (6 : Int32) d20_57 (by decide) ?_
  exact W.iret C d20_58 (by simp) rfl (FN.ok (by decide) (by decide) ⟨rfl, rfl⟩)

theorem ef_nf_3 (m : MethodId)  : entryFrame m #[(.int (3 : Int32))] 1 = mkF m 0 #[.val (.int (3 : Int32))] [] := by first | (simp [entryFrame, mkF, argsToLocals, Value.category]; done) | rfl
set_option maxRecDepth 65536 in
set_option maxHeartbeats 40000000 in
theorem con_nf_3 (l : Launch) (Z : State) (a0 : Array Value) (hw : ∀ d ∈ tables_1, d.before a0 Z = true) (h0 : Heap) (n0 : Nat)   (Z0 : n0 ≤ h0.size) : Con l Z y19 jdk_52_method_2_code 1 (some (.array .byte)) ({ frames := 1, cells := 1, slots := 6, locals := 12 } : Room) #[(.int (3 : Int32))] h0 n0 (fun v h => ∃ d, v = some (.ref d) ∧ Keep h0 h [] ∧ Al Z h d .byte [(.int (0 : Int32)), (.int (0 : Int32)), (.int (0 : Int32)), (.int (0 : Int32)), (.int (0 : Int32)), (.int (0 : Int32))] ∧ h0.size ≤ d ∧ n0 ≤ d) := by
  refine Con.of pf_19 (fun m => ef_nf_3 m ) ?_
  intro p e s m below meth c C
  have K0 : Keep h0 h0 [] := Keep.refl _ _
  refine W.iloadN C d19_0 rfl ?_
  refine W.callS C (y' := y20) d19_1 (tkw hw 91 rfl) (tkw hw 92 rfl) (tkw hw 55 rfl) (tkw hw 93 rfl) (by decide) (argsL := [(.int (3 : Int32))]) (rest := []) rfl (lenOf pd_16 rfl) (con_nl_3 l Z a0 hw h0 n0 Z0) 0 0 0 rfl rfl rfl (by decide) (by decide) (by decide) (by decide) rfl ?_
  rintro _ _ ⟨rfl, rfl⟩
  refine W.newP C 6 6 d19_4 (tkw hw 21 rfl) rfl (Nat.le_refl _) (by decide) 1 6 rfl rfl (by decide) (by decide) ?_
  intro ob1 hp2 hob1 Eob1 Lob1
  have ge_ob1 : n0 ≤ ob1 := by rw [hob1]; exact Z0
  have sz_ob1 : h0.size ≤ ob1 := by rw [hob1]; exact K0.1
  replace Z0 := Nat.le_trans Z0 Eob1.1
  replace K0 := K0.ext Eob1
  replace Lob1 : Al Z hp2 ob1 .byte [(.int (0 : Int32)), (.int (0 : Int32)), (.int (0 : Int32)), (.int (0 : Int32)), (.int (0 : Int32)), (.int (0 : Int32))] := Lob1
  exact W.aret C d19_6 rfl rfl rfl (FN.ok (by decide) (by decide) ⟨ob1, rfl, K0, Lob1, sz_ob1, ge_ob1⟩)

theorem ef_tb_3 (m : MethodId) (b1 : Addr) : entryFrame m #[(.ref b1), (.int (0 : Int32)), (.int (3 : Int32))] 5 = mkF m 0 #[.val (.ref b1), .val (.int (0 : Int32)), .val (.int (3 : Int32)), .unset, .unset] [] := by first | (simp [entryFrame, mkF, argsToLocals, Value.category]; done) | rfl
set_option maxRecDepth 65536 in
set_option maxHeartbeats 40000000 in
theorem con_tb_3 (l : Launch) (Z : State) (a0 : Array Value) (hw : ∀ d ∈ tables_1, d.before a0 Z = true) (h0 : Heap) (n0 : Nat) (b1 : Addr) (c0 c1 c2 : Int32) (Ls : Al Z h0 b1 .char [(.int c0), (.int c1), (.int c2)]) (S_A : Sta Z h0 "java/lang/StringUTF16" "$assertionsDisabled" "Z" (.int (1 : Int32))) (S_H : Sta Z h0 "java/lang/StringUTF16" "HI_BYTE_SHIFT" "I" (.int (0 : Int32))) (S_L : Sta Z h0 "java/lang/StringUTF16" "LO_BYTE_SHIFT" "I" (.int (8 : Int32))) (Z0 : n0 ≤ h0.size) : Con l Z y18 jdk_52_method_14_code 5 (some (.array .byte)) ({ frames := 2, cells := 1, slots := 6, locals := 24 } : Room) #[(.ref b1), (.int (0 : Int32)), (.int (3 : Int32))] h0 n0 (fun v h => ∃ d, v = some (.ref d) ∧ Keep h0 h [] ∧ Al Z h d .byte [(.int (((c0 >>> ((0 : Int32) &&& 31))).toInt8.toInt32)), (.int (((c0 >>> ((8 : Int32) &&& 31))).toInt8.toInt32)), (.int (((c1 >>> ((0 : Int32) &&& 31))).toInt8.toInt32)), (.int (((c1 >>> ((8 : Int32) &&& 31))).toInt8.toInt32)), (.int (((c2 >>> ((0 : Int32) &&& 31))).toInt8.toInt32)), (.int (((c2 >>> ((8 : Int32) &&& 31))).toInt8.toInt32))] ∧ h0.size ≤ d) := by
  refine Con.of pf_18 (fun m => ef_tb_3 m b1) ?_
  intro p e s m below meth c C
  have K0 : Keep h0 h0 [] := Keep.refl _ _
  refine W.iloadN C d18_0 rfl ?_
  refine W.callS C (y' := y19) d18_1 (tkw hw 88 rfl) (tkw hw 89 rfl) (tkw hw 55 rfl) (tkw hw 90 rfl) (by decide) (argsL := [(.int (3 : Int32))]) (rest := []) rfl (lenOf pd_17 rfl) (con_nf_3 l Z a0 hw h0 n0 Z0) 0 1 6 rfl rfl rfl (by decide) (by decide) (by decide) (by decide) rfl ?_
  rintro _ hp2 ⟨d1, rfl, Kc, Ld1, sz, ge_d1⟩
  have ne_b1_d1 : b1 ≠ d1 := Nat.ne_of_lt (Nat.lt_of_lt_of_le Ls.lt sz)
  have sz_d1 := Nat.le_trans K0.1 sz
  replace Ls := Ls.ext (ext0 Kc)
  replace S_A := S_A.ext (ext0 Kc)
  replace S_H := S_H.ext (ext0 Kc)
  replace S_L := S_L.ext (ext0 Kc)
  replace Z0 := Nat.le_trans Z0 (ext0 Kc).1
  replace K0 := K0.ext (ext0 Kc)
  refine W.astoreN C #[.val (.ref b1), .val (.int (0 : Int32)), .val (.int (3 : Int32)), .val (.ref d1), .unset] d18_4 rfl rfl ?_
  refine W.iconst C (0 : Int32) d18_5 rfl ?_
  refine W.istore C #[.val (.ref b1), .val (.int (0 : Int32)), .val (.int (3 : Int32)), .val (.ref d1), .val (.int (0 : Int32))] d18_6 rfl ?_
  refine W.iload C d18_8 rfl ?_
  refine W.iloadN C d18_10 rfl ?_
  refine W.icmp_ge C 32 d18_11 rfl (fun b => absurd b (by decide)) (fun _ => ?_)
  refine W.aloadN C d18_14 rfl rfl ?_
  refine W.iload C d18_15 rfl ?_
  refine W.aloadN C d18_17 rfl rfl ?_
  refine W.iloadN C d18_18 rfl ?_
  refine W.caload C 0 d18_19 Ls rfl rfl ?_
  refine W.callS C (y' := y21) d18_20 (tkw hw 95 rfl) (tkw hw 96 rfl) (tkw hw 55 rfl) (tkw hw 97 rfl) (by decide) (argsL := [(.ref d1), (.int (0 : Int32)), (.int c0)]) (rest := []) rfl (lenOf pd_18 rfl) (con_pt_0 l Z a0 hw hp2 n0 d1 c0 [(.int (0 : Int32)), (.int (0 : Int32)), (.int (0 : Int32)), (.int (0 : Int32)), (.int (0 : Int32)), (.int (0 : Int32))] ge_d1 (show (1 : Nat) < 6 by decide) Ld1 S_A S_H S_L Z0) 0 1 6 rfl rfl rfl (by decide) (by decide) (by decide) (by decide) rfl ?_
  rintro _ hp3 ⟨rfl, Kc, L_⟩
  replace S_A := own_sa2 S_A Ld1 Kc
  replace S_H := own_sa2 S_H Ld1 Kc
  replace S_L := own_sa2 S_L Ld1 Kc
  replace Ls := Ls.keep Kc (ninS ne_b1_d1 nin0)
  replace Z0 := Nat.le_trans Z0 Kc.1
  replace K0 := K0.trans Kc (allS (Or.inr sz_d1) all0)
  replace Ld1 : Al Z hp3 d1 .byte [(.int (((c0 >>> ((0 : Int32) &&& 31))).toInt8.toInt32)), (.int (((c0 >>> ((8 : Int32) &&& 31))).toInt8.toInt32)), (.int (0 : Int32)), (.int (0 : Int32)), (.int (0 : Int32)), (.int (0 : Int32))] := L_
  refine W.iinc C (1 : Int32) #[.val (.ref b1), .val (.int (1 : Int32)), .val (.int (3 : Int32)), .val (.ref d1), .val (.int (0 : Int32))] d18_23 rfl rfl rfl ?_
  refine W.iinc C (1 : Int32) #[.val (.ref b1), .val (.int (1 : Int32)), .val (.int (3 : Int32)), .val (.ref d1), .val (.int (1 : Int32))] d18_26 rfl rfl rfl ?_
  refine W.goto C 8 d18_29 rfl ?_
  refine W.iload C d18_8 rfl ?_
  refine W.iloadN C d18_10 rfl ?_
  refine W.icmp_ge C 32 d18_11 rfl (fun b => absurd b (by decide)) (fun _ => ?_)
  refine W.aloadN C d18_14 rfl rfl ?_
  refine W.iload C d18_15 rfl ?_
  refine W.aloadN C d18_17 rfl rfl ?_
  refine W.iloadN C d18_18 rfl ?_
  refine W.caload C 1 d18_19 Ls rfl rfl ?_
  refine W.callS C (y' := y21) d18_20 (tkw hw 95 rfl) (tkw hw 96 rfl) (tkw hw 55 rfl) (tkw hw 97 rfl) (by decide) (argsL := [(.ref d1), (.int (1 : Int32)), (.int c1)]) (rest := []) rfl (lenOf pd_18 rfl) (con_pt_1 l Z a0 hw hp3 n0 d1 c1 [(.int (((c0 >>> ((0 : Int32) &&& 31))).toInt8.toInt32)), (.int (((c0 >>> ((8 : Int32) &&& 31))).toInt8.toInt32)), (.int (0 : Int32)), (.int (0 : Int32)), (.int (0 : Int32)), (.int (0 : Int32))] ge_d1 (show (3 : Nat) < 6 by decide) Ld1 S_A S_H S_L Z0) 0 1 6 rfl rfl rfl (by decide) (by decide) (by decide) (by decide) rfl ?_
  rintro _ hp4 ⟨rfl, Kc, L_⟩
  replace S_A := own_sa2 S_A Ld1 Kc
  replace S_H := own_sa2 S_H Ld1 Kc
  replace S_L := own_sa2 S_L Ld1 Kc
  replace Ls := Ls.keep Kc (ninS ne_b1_d1 nin0)
  replace Z0 := Nat.le_trans Z0 Kc.1
  replace K0 := K0.trans Kc (allS (Or.inr sz_d1) all0)
  replace Ld1 : Al Z hp4 d1 .byte [(.int (((c0 >>> ((0 : Int32) &&& 31))).toInt8.toInt32)), (.int (((c0 >>> ((8 : Int32) &&& 31))).toInt8.toInt32)), (.int (((c1 >>> ((0 : Int32) &&& 31))).toInt8.toInt32)), (.int (((c1 >>> ((8 : Int32) &&& 31))).toInt8.toInt32)), (.int (0 : Int32)), (.int (0 : Int32))] := L_
  refine W.iinc C (2 : Int32) #[.val (.ref b1), .val (.int (2 : Int32)), .val (.int (3 : Int32)), .val (.ref d1), .val (.int (1 : Int32))] d18_23 rfl rfl rfl ?_
  refine W.iinc C (2 : Int32) #[.val (.ref b1), .val (.int (2 : Int32)), .val (.int (3 : Int32)), .val (.ref d1), .val (.int (2 : Int32))] d18_26 rfl rfl rfl ?_
  refine W.goto C 8 d18_29 rfl ?_
  refine W.iload C d18_8 rfl ?_
  refine W.iloadN C d18_10 rfl ?_
  refine W.icmp_ge C 32 d18_11 rfl (fun b => absurd b (by decide)) (fun _ => ?_)
  refine W.aloadN C d18_14 rfl rfl ?_
  refine W.iload C d18_15 rfl ?_
  refine W.aloadN C d18_17 rfl rfl ?_
  refine W.iloadN C d18_18 rfl ?_
  refine W.caload C 2 d18_19 Ls rfl rfl ?_
  refine W.callS C (y' := y21) d18_20 (tkw hw 95 rfl) (tkw hw 96 rfl) (tkw hw 55 rfl) (tkw hw 97 rfl) (by decide) (argsL := [(.ref d1), (.int (2 : Int32)), (.int c2)]) (rest := []) rfl (lenOf pd_18 rfl) (con_pt_2 l Z a0 hw hp4 n0 d1 c2 [(.int (((c0 >>> ((0 : Int32) &&& 31))).toInt8.toInt32)), (.int (((c0 >>> ((8 : Int32) &&& 31))).toInt8.toInt32)), (.int (((c1 >>> ((0 : Int32) &&& 31))).toInt8.toInt32)), (.int (((c1 >>> ((8 : Int32) &&& 31))).toInt8.toInt32)), (.int (0 : Int32)), (.int (0 : Int32))] ge_d1 (show (5 : Nat) < 6 by decide) Ld1 S_A S_H S_L Z0) 0 1 6 rfl rfl rfl (by decide) (by decide) (by decide) (by decide) rfl ?_
  rintro _ hp5 ⟨rfl, Kc, L_⟩
  replace S_A := own_sa2 S_A Ld1 Kc
  replace S_H := own_sa2 S_H Ld1 Kc
  replace S_L := own_sa2 S_L Ld1 Kc
  replace Ls := Ls.keep Kc (ninS ne_b1_d1 nin0)
  replace Z0 := Nat.le_trans Z0 Kc.1
  replace K0 := K0.trans Kc (allS (Or.inr sz_d1) all0)
  replace Ld1 : Al Z hp5 d1 .byte [(.int (((c0 >>> ((0 : Int32) &&& 31))).toInt8.toInt32)), (.int (((c0 >>> ((8 : Int32) &&& 31))).toInt8.toInt32)), (.int (((c1 >>> ((0 : Int32) &&& 31))).toInt8.toInt32)), (.int (((c1 >>> ((8 : Int32) &&& 31))).toInt8.toInt32)), (.int (((c2 >>> ((0 : Int32) &&& 31))).toInt8.toInt32)), (.int (((c2 >>> ((8 : Int32) &&& 31))).toInt8.toInt32))] := L_
  refine W.iinc C (3 : Int32) #[.val (.ref b1), .val (.int (3 : Int32)), .val (.int (3 : Int32)), .val (.ref d1), .val (.int (2 : Int32))] d18_23 rfl rfl rfl ?_
  refine W.iinc C (3 : Int32) #[.val (.ref b1), .val (.int (3 : Int32)), .val (.int (3 : Int32)), .val (.ref d1), .val (.int (3 : Int32))] d18_26 rfl rfl rfl ?_
  refine W.goto C 8 d18_29 rfl ?_
  refine W.iload C d18_8 rfl ?_
  refine W.iloadN C d18_10 rfl ?_
  refine W.icmp_ge C 32 d18_11 rfl (fun _ => ?_) (fun b => absurd b (by decide))
  refine W.aloadN C d18_32 rfl rfl ?_
  exact W.aret C d18_33 rfl rfl rfl (FN.ok (by decide) (by decide) ⟨d1, rfl, K0, Ld1, sz_d1⟩)

theorem ef_cou_3 (m : MethodId) (d1 : Addr) : entryFrame m #[(.ref d1), (.int (3 : Int32))] 2 = mkF m 0 #[.val (.ref d1), .val (.int (3 : Int32))] [] := by first | (simp [entryFrame, mkF, argsToLocals, Value.category]; done) | rfl
set_option maxRecDepth 65536 in
set_option maxHeartbeats 40000000 in
theorem con_cou_3 (l : Launch) (Z : State) (a0 : Array Value) (hw : ∀ d ∈ tables_1, d.before a0 Z = true) (h0 : Heap) (n0 : Nat) (d1 : Addr) (c0 c1 c2 : Int32) (Ld : Al Z h0 d1 .byte [(.int (((c0 >>> ((0 : Int32) &&& 31))).toInt8.toInt32)), (.int (((c0 >>> ((8 : Int32) &&& 31))).toInt8.toInt32)), (.int (((c1 >>> ((0 : Int32) &&& 31))).toInt8.toInt32)), (.int (((c1 >>> ((8 : Int32) &&& 31))).toInt8.toInt32)), (.int (((c2 >>> ((0 : Int32) &&& 31))).toInt8.toInt32)), (.int (((c2 >>> ((8 : Int32) &&& 31))).toInt8.toInt32))]) (Z0 : n0 ≤ h0.size) : Con l Z y12 jdk_52_method_15_code 2 (some .byte) ({ frames := 0, cells := 0, slots := 0, locals := 0 } : Room) #[(.ref d1), (.int (3 : Int32))] h0 n0 (Pu (some (.int 1)) h0) := by
  refine Con.of pf_12 (fun m => ef_cou_3 m d1) ?_
  intro p e s m below meth c C
  refine W.iloadN C d12_0 rfl ?_
  refine W.aloadN C d12_1 rfl rfl ?_
  refine W.arrlen C (6 : Int32) d12_2 Ld rfl ?_
  refine W.isubV C (-3 : Int32) d12_3 (by decide) ?_
  refine W.bipush C (31 : Int32) d12_4 rfl ?_
  refine W.iushrV C (1 : Int32) d12_6 (by decide) ?_
  refine W.i2bV C (1 : Int32) d12_7 (by decide) ?_
  exact W.iret C d12_8 (by simp) rfl (FN.ok (by decide) (by decide) ⟨rfl, rfl⟩)

theorem ef_c4_3_0 (m : MethodId) (b1 : Addr) (d1 : Addr) : entryFrame m #[(.ref b1), (.int (0 : Int32)), (.ref d1), (.int (0 : Int32)), (.int (3 : Int32))] 7 = mkF m 0 #[.val (.ref b1), .val (.int (0 : Int32)), .val (.ref d1), .val (.int (0 : Int32)), .val (.int (3 : Int32)), .unset, .unset] [] := by first | (simp [entryFrame, mkF, argsToLocals, Value.category]; done) | rfl
set_option maxRecDepth 65536 in
set_option maxHeartbeats 40000000 in
theorem con_c4_3_0 (l : Launch) (Z : State) (a0 : Array Value) (hw : ∀ d ∈ tables_1, d.before a0 Z = true) (h0 : Heap) (n0 : Nat) (b1 : Addr) (d1 : Addr) (c0 c1 c2 : Int32)  (hj : (255 : Int32) < c0) (ne_b1_d1 : b1 ≠ d1) (g_d1 : n0 ≤ d1) (Ls : Al Z h0 b1 .char [(.int c0), (.int c1), (.int c2)]) (Ld : Al Z h0 d1 .byte [(.int (0 : Int32)), (.int (0 : Int32)), (.int (0 : Int32))]) (Z0 : n0 ≤ h0.size) : Con l Z y11 jdk_52_method_21_code 7 (some .int) ({ frames := 0, cells := 0, slots := 0, locals := 0 } : Room) #[(.ref b1), (.int (0 : Int32)), (.ref d1), (.int (0 : Int32)), (.int (3 : Int32))] h0 n0 (fun v h => v = some (.int 0) ∧ Keep h0 h [d1]) := by
  refine Con.of pf_11 (fun m => ef_c4_3_0 m b1 d1) ?_
  intro p e s m below meth c C
  have K0 : Keep h0 h0 [d1] := Keep.refl _ _
  refine W.iconst C (0 : Int32) d11_0 rfl ?_
  refine W.istore C #[.val (.ref b1), .val (.int (0 : Int32)), .val (.ref d1), .val (.int (0 : Int32)), .val (.int (3 : Int32)), .val (.int (0 : Int32)), .unset] d11_1 rfl ?_
  refine W.iload C d11_3 rfl ?_
  refine W.iload C d11_5 rfl ?_
  refine W.icmp_ge C 44 d11_7 rfl (fun b => absurd b (by decide)) (fun _ => ?_)
  refine W.aloadN C d11_10 rfl rfl ?_
  refine W.iloadN C d11_11 rfl ?_
  refine W.caload C 0 d11_12 Ls rfl rfl ?_
  refine W.istore C #[.val (.ref b1), .val (.int (0 : Int32)), .val (.ref d1), .val (.int (0 : Int32)), .val (.int (3 : Int32)), .val (.int (0 : Int32)), .val (.int c0)] d11_13 rfl ?_
  refine W.iload C d11_15 rfl ?_
  refine W.sipush C (255 : Int32) d11_17 rfl ?_
  refine W.icmp_le C 26 d11_20 rfl (fun bq1 => absurd hj bq1) (fun bq1 => ?_)
  refine W.iload C d11_23 rfl ?_
  exact W.iret C d11_25 (by simp) rfl (FN.ok (by decide) (by decide) ⟨rfl, K0⟩)

theorem ef_c3_3_0 (m : MethodId) (b1 : Addr) : entryFrame m #[(.ref b1), (.int (0 : Int32)), (.int (3 : Int32))] 6 = mkF m 0 #[.val (.ref b1), .val (.int (0 : Int32)), .val (.int (3 : Int32)), .unset, .unset, .unset] [] := by first | (simp [entryFrame, mkF, argsToLocals, Value.category]; done) | rfl
set_option maxRecDepth 65536 in
set_option maxHeartbeats 40000000 in
theorem con_c3_3_0 (l : Launch) (Z : State) (a0 : Array Value) (hw : ∀ d ∈ tables_1, d.before a0 Z = true) (h0 : Heap) (n0 : Nat) (b1 : Addr) (c0 c1 c2 : Int32)  (hj : (255 : Int32) < c0) (hr : 0 ≤ c0.toInt ∧ c0.toInt < 65536) (Ls : Al Z h0 b1 .char [(.int c0), (.int c1), (.int c2)]) (S_A : Sta Z h0 "java/lang/StringUTF16" "$assertionsDisabled" "Z" (.int (1 : Int32))) (S_H : Sta Z h0 "java/lang/StringUTF16" "HI_BYTE_SHIFT" "I" (.int (0 : Int32))) (S_L : Sta Z h0 "java/lang/StringUTF16" "LO_BYTE_SHIFT" "I" (.int (8 : Int32))) (Z0 : n0 ≤ h0.size) : Con l Z y10 jdk_52_method_16_code 6 (some (.array .byte)) ({ frames := 3, cells := 2, slots := 9, locals := 40 } : Room) #[(.ref b1), (.int (0 : Int32)), (.int (3 : Int32))] h0 n0 (fun v h => ∃ d, v = some (.ref d) ∧ Keep h0 h [] ∧ Al Z h d .byte [(.int (((c0 >>> ((0 : Int32) &&& 31))).toInt8.toInt32)), (.int (((c0 >>> ((8 : Int32) &&& 31))).toInt8.toInt32)), (.int (((c1 >>> ((0 : Int32) &&& 31))).toInt8.toInt32)), (.int (((c1 >>> ((8 : Int32) &&& 31))).toInt8.toInt32)), (.int (((c2 >>> ((0 : Int32) &&& 31))).toInt8.toInt32)), (.int (((c2 >>> ((8 : Int32) &&& 31))).toInt8.toInt32))] ∧ h0.size ≤ d) := by
  refine Con.of pf_10 (fun m => ef_c3_3_0 m b1) ?_
  intro p e s m below meth c C
  have K0 : Keep h0 h0 [] := Keep.refl _ _
  refine W.iloadN C d10_0 rfl ?_
  refine W.newP C 3 3 d10_1 (tkw hw 21 rfl) rfl (Nat.le_refl _) (by decide) 1 3 rfl rfl (by decide) (by decide) ?_
  intro ob1 hp2 hob1 Eob1 Lob1
  have ne_b1_ob1 : b1 ≠ ob1 := Nat.ne_of_lt (by rw [hob1]; exact Ls.lt)
  have ge_ob1 : n0 ≤ ob1 := by rw [hob1]; exact Z0
  have sz_ob1 : h0.size ≤ ob1 := by rw [hob1]; exact K0.1
  replace Ls := Ls.ext Eob1
  replace S_A := S_A.ext Eob1
  replace S_H := S_H.ext Eob1
  replace S_L := S_L.ext Eob1
  replace Z0 := Nat.le_trans Z0 Eob1.1
  replace K0 := K0.ext Eob1
  replace Lob1 : Al Z hp2 ob1 .byte [(.int (0 : Int32)), (.int (0 : Int32)), (.int (0 : Int32))] := Lob1
  refine W.astoreN C #[.val (.ref b1), .val (.int (0 : Int32)), .val (.int (3 : Int32)), .val (.ref ob1), .unset, .unset] d10_3 rfl rfl ?_
  refine W.aloadN C d10_4 rfl rfl ?_
  refine W.iloadN C d10_5 rfl ?_
  refine W.aloadN C d10_6 rfl rfl ?_
  refine W.iconst C (0 : Int32) d10_7 rfl ?_
  refine W.iloadN C d10_8 rfl ?_
  refine W.callS C (y' := y11) d10_9 (tkw hw 57 rfl) (tkw hw 58 rfl) (tkw hw 55 rfl) (tkw hw 59 rfl) (by decide) (argsL := [(.ref b1), (.int (0 : Int32)), (.ref ob1), (.int (0 : Int32)), (.int (3 : Int32))]) (rest := []) rfl (lenOf pd_11 rfl) (con_c4_3_0 l Z a0 hw hp2 n0 b1 ob1 c0 c1 c2  hj ne_b1_ob1 ge_ob1 Ls Lob1 Z0) 0 1 3 rfl rfl rfl (by decide) (by decide) (by decide) (by decide) rfl ?_
  rintro _ hp3 ⟨rfl, Kc⟩
  replace S_A := own_sa2 S_A Lob1 Kc
  replace S_H := own_sa2 S_H Lob1 Kc
  replace S_L := own_sa2 S_L Lob1 Kc
  replace Ls := Ls.keep Kc (ninS ne_b1_ob1 nin0)
  replace Z0 := Nat.le_trans Z0 Kc.1
  replace K0 := K0.trans Kc (allS (Or.inr sz_ob1) all0)
  refine W.istore C #[.val (.ref b1), .val (.int (0 : Int32)), .val (.int (3 : Int32)), .val (.ref ob1), .val (.int (0 : Int32)), .unset] d10_12 rfl ?_
  refine W.iload C d10_14 rfl ?_
  refine W.iloadN C d10_16 rfl ?_
  refine W.icmp_eq C 57 d10_17 rfl (fun b => absurd b (by decide)) (fun _ => ?_)
  refine W.aloadN C d10_20 rfl rfl ?_
  refine W.iloadN C d10_21 rfl ?_
  refine W.iloadN C d10_22 rfl ?_
  refine W.callS C (y' := y18) d10_23 (tkw hw 85 rfl) (tkw hw 86 rfl) (tkw hw 55 rfl) (tkw hw 87 rfl) (by decide) (argsL := [(.ref b1), (.int (0 : Int32)), (.int (3 : Int32))]) (rest := []) rfl (lenOf pd_12 rfl) (con_tb_3 l Z a0 hw hp3 n0 b1 c0 c1 c2 Ls S_A S_H S_L Z0) 0 2 9 rfl rfl rfl (by decide) (by decide) (by decide) (by decide) rfl ?_
  rintro _ hp5 ⟨d4, rfl, Kc, Ld4, sz⟩
  have sz_d4 := Nat.le_trans K0.1 sz
  replace Ls := Ls.ext (ext0 Kc)
  replace Z0 := Nat.le_trans Z0 (ext0 Kc).1
  replace K0 := K0.ext (ext0 Kc)
  replace S_A := S_A.ext (ext0 Kc)
  replace S_H := S_H.ext (ext0 Kc)
  replace S_L := S_L.ext (ext0 Kc)
  refine W.astore C #[.val (.ref b1), .val (.int (0 : Int32)), .val (.int (3 : Int32)), .val (.ref ob1), .val (.int (0 : Int32)), .val (.ref d4)] d10_26 rfl rfl ?_
  refine W.aload C d10_28 rfl rfl ?_
  refine W.iload C d10_30 rfl ?_
  refine W.callS C (y' := y22) d10_32 (tkw hw 101 rfl) (tkw hw 102 rfl) (tkw hw 55 rfl) (tkw hw 103 rfl) (by decide) (argsL := [(.ref d4), (.int (0 : Int32))]) (rest := []) rfl (lenOf pd_4 rfl) (con_gc_0 l Z a0 hw hp5 n0 d4 _ c0 hr.1 hr.2 rfl rfl Ld4 S_A S_H S_L Z0) 0 2 9 rfl rfl rfl (by decide) (by decide) (by decide) (by decide) rfl ?_
  rintro _ _ ⟨rfl, rfl⟩
  refine W.sipush C (255 : Int32) d10_35 rfl ?_
  refine W.icmp_gt C 54 d10_38 rfl (fun bq1 => ?_) (fun bq1 => absurd hj bq1)
  refine W.aload C d10_54 rfl rfl ?_
  exact W.aret C d10_56 rfl rfl rfl (FN.ok (by decide) (by decide) ⟨d4, rfl, K0, Ld4, sz_d4⟩)

theorem ef_i4_3_0 (m : MethodId) (a1 : Addr) (b1 : Addr) : entryFrame m #[(.ref a1), (.ref b1), (.int (0 : Int32)), (.int (3 : Int32)), .null] 6 = mkF m 0 #[.val (.ref a1), .val (.ref b1), .val (.int (0 : Int32)), .val (.int (3 : Int32)), .val .null, .unset] [] := by first | (simp [entryFrame, mkF, argsToLocals, Value.category]; done) | rfl
set_option maxRecDepth 65536 in
set_option maxHeartbeats 40000000 in
theorem con_i4_3_0 (l : Launch) (Z : State) (a0 : Array Value) (hw : ∀ d ∈ tables_1, d.before a0 Z = true) (h0 : Heap) (n0 : Nat) (a1 : Addr) (b1 : Addr) (c0 c1 c2 : Int32)  (hj : (255 : Int32) < c0) (hr : 0 ≤ c0.toInt ∧ c0.toInt < 65536) (u0 u1 : Value) (cv : Int32) (ne_a1_b1 : a1 ≠ b1) (g_a1 : n0 ≤ a1) (E_a1 : Exa Z h0 a1 "java/lang/String") (Fv : Fld Z h0 a1 "java/lang/String" "value" "[B" u0) (Fc : Fld Z h0 a1 "java/lang/String" "coder" "B" u1) (Ls : Al Z h0 b1 .char [(.int c0), (.int c1), (.int c2)]) (S_C : Sta Z h0 "java/lang/String" "COMPACT_STRINGS" "Z" (.int cv)) (hcv : ¬ cv = 0) (S_A : Sta Z h0 "java/lang/StringUTF16" "$assertionsDisabled" "Z" (.int (1 : Int32))) (S_H : Sta Z h0 "java/lang/StringUTF16" "HI_BYTE_SHIFT" "I" (.int (0 : Int32))) (S_L : Sta Z h0 "java/lang/StringUTF16" "LO_BYTE_SHIFT" "I" (.int (8 : Int32))) (Z0 : n0 ≤ h0.size) : Con l Z y3 jdk_42_method_149_code 6 none ({ frames := 4, cells := 2, slots := 9, locals := 57 } : Room) #[(.ref a1), (.ref b1), (.int (0 : Int32)), (.int (3 : Int32)), .null] h0 n0 (fun v h => v = none ∧ Keep h0 h [a1] ∧ Exa Z h a1 "java/lang/String" ∧ ∃ d, Fld Z h a1 "java/lang/String" "value" "[B" (.ref d) ∧ Fld Z h a1 "java/lang/String" "coder" "B" (.int 1) ∧ Al Z h d .byte [(.int (((c0 >>> ((0 : Int32) &&& 31))).toInt8.toInt32)), (.int (((c0 >>> ((8 : Int32) &&& 31))).toInt8.toInt32)), (.int (((c1 >>> ((0 : Int32) &&& 31))).toInt8.toInt32)), (.int (((c1 >>> ((8 : Int32) &&& 31))).toInt8.toInt32)), (.int (((c2 >>> ((0 : Int32) &&& 31))).toInt8.toInt32)), (.int (((c2 >>> ((8 : Int32) &&& 31))).toInt8.toInt32))]) := by
  refine Con.of pf_3 (fun m => ef_i4_3_0 m a1 b1) ?_
  intro p e s m below meth c C
  have K0 : Keep h0 h0 [a1] := Keep.refl _ _
  refine W.aloadN C d3_0 rfl rfl ?_
  refine W.initO C d3_1 (tkw hw 17 rfl) (tkw hw 18 rfl) (tkw hw 19 rfl) 0 rfl (by decide) (by decide) rfl ?_
  refine W.iloadN C d3_4 rfl ?_
  refine W.if_ne C 27 d3_5 rfl (fun _ => ?_) (fun b => absurd b (by decide))
  refine W.getS C d3_27 (tkw hw 51 rfl) Via.refl S_C ?_
  refine W.if_eq C 58 d3_30 rfl (fun bq1 => absurd bq1 hcv) (fun bq1 => ?_)
  refine W.aloadN C d3_33 rfl rfl ?_
  refine W.iloadN C d3_34 rfl ?_
  refine W.iloadN C d3_35 rfl ?_
  refine W.callS C (y' := y10) d3_36 (tkw hw 53 rfl) (tkw hw 54 rfl) (tkw hw 55 rfl) (tkw hw 56 rfl) (by decide) (argsL := [(.ref b1), (.int (0 : Int32)), (.int (3 : Int32))]) (rest := []) rfl (lenOf pd_12 rfl) (con_c3_3_0 l Z a0 hw h0 n0 b1 c0 c1 c2  hj hr Ls S_A S_H S_L Z0) 0 2 9 rfl rfl rfl (by decide) (by decide) (by decide) (by decide) rfl ?_
  rintro _ hp2 ⟨d1, rfl, Kc, Ld1, sz⟩
  have ne_a1_d1 : a1 ≠ d1 := Nat.ne_of_lt (Nat.lt_of_lt_of_le E_a1.lt sz)
  replace E_a1 := E_a1.ext (ext0 Kc)
  replace Fv := Fv.ext (ext0 Kc)
  replace Fc := Fc.ext (ext0 Kc)
  replace Ls := Ls.ext (ext0 Kc)
  replace S_A := S_A.ext (ext0 Kc)
  replace S_H := S_H.ext (ext0 Kc)
  replace S_L := S_L.ext (ext0 Kc)
  replace S_C := S_C.ext (ext0 Kc)
  replace Z0 := Nat.le_trans Z0 (ext0 Kc).1
  replace K0 := K0.ext (ext0 Kc)
  refine W.astore C #[.val (.ref a1), .val (.ref b1), .val (.int (0 : Int32)), .val (.int (3 : Int32)), .val .null, .val (.ref d1)] d3_39 rfl rfl ?_
  refine W.aloadN C d3_41 rfl rfl ?_
  refine W.aload C d3_42 rfl rfl ?_
  refine W.iloadN C d3_44 rfl ?_
  refine W.callS C (y' := y12) d3_45 (tkw hw 60 rfl) (tkw hw 61 rfl) (tkw hw 55 rfl) (tkw hw 62 rfl) (by decide) (argsL := [(.ref d1), (.int (3 : Int32))]) (rest := [(.ref a1)]) rfl (lenOf pd_14 rfl) (con_cou_3 l Z a0 hw hp2 n0 d1 c0 c1 c2 Ld1 Z0) 1 2 9 rfl rfl rfl (by decide) (by decide) (by decide) (by decide) rfl ?_
  rintro _ _ ⟨rfl, rfl⟩
  refine W.putF C d3_48 (tkw hw 27 rfl) Via.refl Fc E_a1 (Or.inr ⟨(tkw hw 23 rfl), rfl, rfl⟩) (tkw hw 7 rfl) (ty := .byte) (by decide) rfl rfl g_a1 ?_
  intro hp3 U4
  replace Fc := Fc.same U4
  replace E_a1 := E_a1.wr U4
  replace Fv := Fv.other U4 (Or.inr (slot_ne (Or.inr (tkw hw 22 rfl)) (Or.inr (tkw hw 23 rfl)) (by decide) (t := (.array .byte)) (t' := .byte) (by decide) (by decide)))
  replace Ls := Ls.other U4 (Ne.symm ne_a1_b1)
  replace S_A := S_A.wr U4
  replace S_H := S_H.wr U4
  replace S_L := S_L.wr U4
  replace S_C := S_C.wr U4
  replace Z0 := Nat.le_trans Z0 (Nat.le_of_eq (U4.size).symm)
  replace K0 := K0.wr U4 (Or.inl (List.mem_of_getElem? (i := 0) rfl))
  replace Ld1 := Ld1.other U4 (Ne.symm ne_a1_d1)
  refine W.aloadN C d3_51 rfl rfl ?_
  refine W.aload C d3_52 rfl rfl ?_
  refine W.putF C d3_54 (tkw hw 26 rfl) Via.refl Fv E_a1 (Or.inr ⟨(tkw hw 22 rfl), rfl, rfl⟩) (tkw hw 7 rfl) (ty := (.array .byte)) (by decide) rfl rfl g_a1 ?_
  intro hp5 U6
  replace Fv := Fv.same U6
  replace E_a1 := E_a1.wr U6
  replace Fc := Fc.other U6 (Or.inr (slot_ne (Or.inr (tkw hw 23 rfl)) (Or.inr (tkw hw 22 rfl)) (by decide) (t := .byte) (t' := (.array .byte)) (by decide) (by decide)))
  replace Ls := Ls.other U6 (Ne.symm ne_a1_b1)
  replace S_A := S_A.wr U6
  replace S_H := S_H.wr U6
  replace S_L := S_L.wr U6
  replace S_C := S_C.wr U6
  replace Z0 := Nat.le_trans Z0 (Nat.le_of_eq (U6.size).symm)
  replace K0 := K0.wr U6 (Or.inl (List.mem_of_getElem? (i := 0) rfl))
  replace Ld1 := Ld1.other U6 (Ne.symm ne_a1_d1)
  exact W.retV C d3_57 (FN.ok (by decide) (by decide) ⟨rfl, K0, E_a1, d1, Fv, Fc, Ld1⟩)

theorem ef_i1_3_0 (m : MethodId) (a1 : Addr) (b1 : Addr) : entryFrame m #[(.ref a1), (.ref b1)] 2 = mkF m 0 #[.val (.ref a1), .val (.ref b1)] [] := by first | (simp [entryFrame, mkF, argsToLocals, Value.category]; done) | rfl
set_option maxRecDepth 65536 in
set_option maxHeartbeats 40000000 in
theorem con_i1_3_0 (l : Launch) (Z : State) (a0 : Array Value) (hw : ∀ d ∈ tables_1, d.before a0 Z = true) (h0 : Heap) (n0 : Nat) (a1 : Addr) (b1 : Addr) (c0 c1 c2 : Int32)  (hj : (255 : Int32) < c0) (hr : 0 ≤ c0.toInt ∧ c0.toInt < 65536) (u0 u1 : Value) (cv : Int32) (ne_a1_b1 : a1 ≠ b1) (g_a1 : n0 ≤ a1) (E_a1 : Exa Z h0 a1 "java/lang/String") (Fv : Fld Z h0 a1 "java/lang/String" "value" "[B" u0) (Fc : Fld Z h0 a1 "java/lang/String" "coder" "B" u1) (Ls : Al Z h0 b1 .char [(.int c0), (.int c1), (.int c2)]) (S_C : Sta Z h0 "java/lang/String" "COMPACT_STRINGS" "Z" (.int cv)) (hcv : ¬ cv = 0) (S_A : Sta Z h0 "java/lang/StringUTF16" "$assertionsDisabled" "Z" (.int (1 : Int32))) (S_H : Sta Z h0 "java/lang/StringUTF16" "HI_BYTE_SHIFT" "I" (.int (0 : Int32))) (S_L : Sta Z h0 "java/lang/StringUTF16" "LO_BYTE_SHIFT" "I" (.int (8 : Int32))) (Z0 : n0 ≤ h0.size) : Con l Z y2 jdk_42_method_3_code 2 none ({ frames := 5, cells := 2, slots := 9, locals := 74 } : Room) #[(.ref a1), (.ref b1)] h0 n0 (fun v h => v = none ∧ Keep h0 h [a1] ∧ Exa Z h a1 "java/lang/String" ∧ ∃ d, Fld Z h a1 "java/lang/String" "value" "[B" (.ref d) ∧ Fld Z h a1 "java/lang/String" "coder" "B" (.int 1) ∧ Al Z h d .byte [(.int (((c0 >>> ((0 : Int32) &&& 31))).toInt8.toInt32)), (.int (((c0 >>> ((8 : Int32) &&& 31))).toInt8.toInt32)), (.int (((c1 >>> ((0 : Int32) &&& 31))).toInt8.toInt32)), (.int (((c1 >>> ((8 : Int32) &&& 31))).toInt8.toInt32)), (.int (((c2 >>> ((0 : Int32) &&& 31))).toInt8.toInt32)), (.int (((c2 >>> ((8 : Int32) &&& 31))).toInt8.toInt32))]) := by
  refine Con.of pf_2 (fun m => ef_i1_3_0 m a1 b1) ?_
  intro p e s m below meth c C
  have K0 : Keep h0 h0 [a1] := Keep.refl _ _
  refine W.aloadN C d2_0 rfl rfl ?_
  refine W.aloadN C d2_1 rfl rfl ?_
  refine W.iconst C (0 : Int32) d2_2 rfl ?_
  refine W.aloadN C d2_3 rfl rfl ?_
  refine W.arrlen C (3 : Int32) d2_4 Ls rfl ?_
  refine W.aconstNull C d2_5 ?_
  refine W.callI C (y' := y3) d2_6 rfl (tkw hw 13 rfl) (tkw hw 14 rfl) (tkw hw 8 rfl) (tkw hw 16 rfl) (by decide) (a := a1) (argsL := [(.ref b1), (.int (0 : Int32)), (.int (3 : Int32)), .null]) (rest := []) rfl (lenOf pd_15 rfl) (con_i4_3_0 l Z a0 hw h0 n0 a1 b1 c0 c1 c2  hj hr u0 u1 cv ne_a1_b1 g_a1 E_a1 Fv Fc Ls S_C hcv S_A S_H S_L Z0) 0 2 9 rfl rfl rfl (by decide) (by decide) (by decide) (by decide) rfl ?_
  rintro _ hp1 ⟨rfl, Kc, E_n, d, Fv_n, Fc_n, Ld⟩
  replace Ls := Ls.keep Kc (ninS (Ne.symm ne_a1_b1) nin0)
  replace Z0 := Nat.le_trans Z0 Kc.1
  replace K0 := K0.trans Kc (allS (Or.inl (List.mem_of_getElem? (i := 0) rfl)) all0)
  replace E_a1 := E_n
  replace Fv := Fv_n
  replace Fc := Fc_n
  exact W.retV C d2_9 (FN.ok (by decide) (by decide) ⟨rfl, K0, E_a1, d, Fv, Fc, Ld⟩)

theorem ef_c4_3_1 (m : MethodId) (b1 : Addr) (d1 : Addr) : entryFrame m #[(.ref b1), (.int (0 : Int32)), (.ref d1), (.int (0 : Int32)), (.int (3 : Int32))] 7 = mkF m 0 #[.val (.ref b1), .val (.int (0 : Int32)), .val (.ref d1), .val (.int (0 : Int32)), .val (.int (3 : Int32)), .unset, .unset] [] := by first | (simp [entryFrame, mkF, argsToLocals, Value.category]; done) | rfl
set_option maxRecDepth 65536 in
set_option maxHeartbeats 40000000 in
theorem con_c4_3_1 (l : Launch) (Z : State) (a0 : Array Value) (hw : ∀ d ∈ tables_1, d.before a0 Z = true) (h0 : Heap) (n0 : Nat) (b1 : Addr) (d1 : Addr) (c0 c1 c2 : Int32) (hc0 : ¬ (255 : Int32) < c0) (hj : (255 : Int32) < c1) (ne_b1_d1 : b1 ≠ d1) (g_d1 : n0 ≤ d1) (Ls : Al Z h0 b1 .char [(.int c0), (.int c1), (.int c2)]) (Ld : Al Z h0 d1 .byte [(.int (0 : Int32)), (.int (0 : Int32)), (.int (0 : Int32))]) (Z0 : n0 ≤ h0.size) : Con l Z y11 jdk_52_method_21_code 7 (some .int) ({ frames := 0, cells := 0, slots := 0, locals := 0 } : Room) #[(.ref b1), (.int (0 : Int32)), (.ref d1), (.int (0 : Int32)), (.int (3 : Int32))] h0 n0 (fun v h => v = some (.int 1) ∧ Keep h0 h [d1]) := by
  refine Con.of pf_11 (fun m => ef_c4_3_1 m b1 d1) ?_
  intro p e s m below meth c C
  have K0 : Keep h0 h0 [d1] := Keep.refl _ _
  refine W.iconst C (0 : Int32) d11_0 rfl ?_
  refine W.istore C #[.val (.ref b1), .val (.int (0 : Int32)), .val (.ref d1), .val (.int (0 : Int32)), .val (.int (3 : Int32)), .val (.int (0 : Int32)), .unset] d11_1 rfl ?_
  refine W.iload C d11_3 rfl ?_
  refine W.iload C d11_5 rfl ?_
  refine W.icmp_ge C 44 d11_7 rfl (fun b => absurd b (by decide)) (fun _ => ?_)
  refine W.aloadN C d11_10 rfl rfl ?_
  refine W.iloadN C d11_11 rfl ?_
  refine W.caload C 0 d11_12 Ls rfl rfl ?_
  refine W.istore C #[.val (.ref b1), .val (.int (0 : Int32)), .val (.ref d1), .val (.int (0 : Int32)), .val (.int (3 : Int32)), .val (.int (0 : Int32)), .val (.int c0)] d11_13 rfl ?_
  refine W.iload C d11_15 rfl ?_
  refine W.sipush C (255 : Int32) d11_17 rfl ?_
  refine W.icmp_le C 26 d11_20 rfl (fun bq1 => ?_) (fun bq1 => absurd bq1 hc0)
  refine W.aloadN C d11_26 rfl rfl ?_
  refine W.iloadN C d11_27 rfl ?_
  refine W.iload C d11_28 rfl ?_
  refine W.i2b C d11_30 ?_
  refine W.bastoreI C 0 d11_31 Ld rfl (show (0 : Nat) < 3 by decide) g_d1 ?_
  intro hp1 U2 Ld_
  replace Ls := Ls.other U2 ne_b1_d1
  replace Z0 := Nat.le_trans Z0 (Nat.le_of_eq (U2.size).symm)
  replace K0 := K0.wr U2 (Or.inl (List.mem_of_getElem? (i := 0) rfl))
  replace Ld : Al Z hp1 d1 .byte [(.int ((c0).toInt8.toInt32)), (.int (0 : Int32)), (.int (0 : Int32))] := Ld_
  refine W.iinc C (1 : Int32) #[.val (.ref b1), .val (.int (1 : Int32)), .val (.ref d1), .val (.int (0 : Int32)), .val (.int (3 : Int32)), .val (.int (0 : Int32)), .val (.int c0)] d11_32 rfl rfl rfl ?_
  refine W.iinc C (1 : Int32) #[.val (.ref b1), .val (.int (1 : Int32)), .val (.ref d1), .val (.int (1 : Int32)), .val (.int (3 : Int32)), .val (.int (0 : Int32)), .val (.int c0)] d11_35 rfl rfl rfl ?_
  refine W.iinc C (1 : Int32) #[.val (.ref b1), .val (.int (1 : Int32)), .val (.ref d1), .val (.int (1 : Int32)), .val (.int (3 : Int32)), .val (.int (1 : Int32)), .val (.int c0)] d11_38 rfl rfl rfl ?_
  refine W.goto C 3 d11_41 rfl ?_
  refine W.iload C d11_3 rfl ?_
  refine W.iload C d11_5 rfl ?_
  refine W.icmp_ge C 44 d11_7 rfl (fun b => absurd b (by decide)) (fun _ => ?_)
  refine W.aloadN C d11_10 rfl rfl ?_
  refine W.iloadN C d11_11 rfl ?_
  refine W.caload C 1 d11_12 Ls rfl rfl ?_
  refine W.istore C #[.val (.ref b1), .val (.int (1 : Int32)), .val (.ref d1), .val (.int (1 : Int32)), .val (.int (3 : Int32)), .val (.int (1 : Int32)), .val (.int c1)] d11_13 rfl ?_
  refine W.iload C d11_15 rfl ?_
  refine W.sipush C (255 : Int32) d11_17 rfl ?_
  refine W.icmp_le C 26 d11_20 rfl (fun bq2 => absurd hj bq2) (fun bq2 => ?_)
  refine W.iload C d11_23 rfl ?_
  exact W.iret C d11_25 (by simp) rfl (FN.ok (by decide) (by decide) ⟨rfl, K0⟩)

theorem ef_c3_3_1 (m : MethodId) (b1 : Addr) : entryFrame m #[(.ref b1), (.int (0 : Int32)), (.int (3 : Int32))] 6 = mkF m 0 #[.val (.ref b1), .val (.int (0 : Int32)), .val (.int (3 : Int32)), .unset, .unset, .unset] [] := by first | (simp [entryFrame, mkF, argsToLocals, Value.category]; done) | rfl
set_option maxRecDepth 65536 in
set_option maxHeartbeats 40000000 in
theorem con_c3_3_1 (l : Launch) (Z : State) (a0 : Array Value) (hw : ∀ d ∈ tables_1, d.before a0 Z = true) (h0 : Heap) (n0 : Nat) (b1 : Addr) (c0 c1 c2 : Int32) (hc0 : ¬ (255 : Int32) < c0) (hj : (255 : Int32) < c1) (hr : 0 ≤ c1.toInt ∧ c1.toInt < 65536) (Ls : Al Z h0 b1 .char [(.int c0), (.int c1), (.int c2)]) (S_A : Sta Z h0 "java/lang/StringUTF16" "$assertionsDisabled" "Z" (.int (1 : Int32))) (S_H : Sta Z h0 "java/lang/StringUTF16" "HI_BYTE_SHIFT" "I" (.int (0 : Int32))) (S_L : Sta Z h0 "java/lang/StringUTF16" "LO_BYTE_SHIFT" "I" (.int (8 : Int32))) (Z0 : n0 ≤ h0.size) : Con l Z y10 jdk_52_method_16_code 6 (some (.array .byte)) ({ frames := 3, cells := 2, slots := 9, locals := 40 } : Room) #[(.ref b1), (.int (0 : Int32)), (.int (3 : Int32))] h0 n0 (fun v h => ∃ d, v = some (.ref d) ∧ Keep h0 h [] ∧ Al Z h d .byte [(.int (((c0 >>> ((0 : Int32) &&& 31))).toInt8.toInt32)), (.int (((c0 >>> ((8 : Int32) &&& 31))).toInt8.toInt32)), (.int (((c1 >>> ((0 : Int32) &&& 31))).toInt8.toInt32)), (.int (((c1 >>> ((8 : Int32) &&& 31))).toInt8.toInt32)), (.int (((c2 >>> ((0 : Int32) &&& 31))).toInt8.toInt32)), (.int (((c2 >>> ((8 : Int32) &&& 31))).toInt8.toInt32))] ∧ h0.size ≤ d) := by
  refine Con.of pf_10 (fun m => ef_c3_3_1 m b1) ?_
  intro p e s m below meth c C
  have K0 : Keep h0 h0 [] := Keep.refl _ _
  refine W.iloadN C d10_0 rfl ?_
  refine W.newP C 3 3 d10_1 (tkw hw 21 rfl) rfl (Nat.le_refl _) (by decide) 1 3 rfl rfl (by decide) (by decide) ?_
  intro ob1 hp2 hob1 Eob1 Lob1
  have ne_b1_ob1 : b1 ≠ ob1 := Nat.ne_of_lt (by rw [hob1]; exact Ls.lt)
  have ge_ob1 : n0 ≤ ob1 := by rw [hob1]; exact Z0
  have sz_ob1 : h0.size ≤ ob1 := by rw [hob1]; exact K0.1
  replace Ls := Ls.ext Eob1
  replace S_A := S_A.ext Eob1
  replace S_H := S_H.ext Eob1
  replace S_L := S_L.ext Eob1
  replace Z0 := Nat.le_trans Z0 Eob1.1
  replace K0 := K0.ext Eob1
  replace Lob1 : Al Z hp2 ob1 .byte [(.int (0 : Int32)), (.int (0 : Int32)), (.int (0 : Int32))] := Lob1
  refine W.astoreN C #[.val (.ref b1), .val (.int (0 : Int32)), .val (.int (3 : Int32)), .val (.ref ob1), .unset, .unset] d10_3 rfl rfl ?_
  refine W.aloadN C d10_4 rfl rfl ?_
  refine W.iloadN C d10_5 rfl ?_
  refine W.aloadN C d10_6 rfl rfl ?_
  refine W.iconst C (0 : Int32) d10_7 rfl ?_
  refine W.iloadN C d10_8 rfl ?_
  refine W.callS C (y' := y11) d10_9 (tkw hw 57 rfl) (tkw hw 58 rfl) (tkw hw 55 rfl) (tkw hw 59 rfl) (by decide) (argsL := [(.ref b1), (.int (0 : Int32)), (.ref ob1), (.int (0 : Int32)), (.int (3 : Int32))]) (rest := []) rfl (lenOf pd_11 rfl) (con_c4_3_1 l Z a0 hw hp2 n0 b1 ob1 c0 c1 c2 hc0 hj ne_b1_ob1 ge_ob1 Ls Lob1 Z0) 0 1 3 rfl rfl rfl (by decide) (by decide) (by decide) (by decide) rfl ?_
  rintro _ hp3 ⟨rfl, Kc⟩
  replace S_A := own_sa2 S_A Lob1 Kc
  replace S_H := own_sa2 S_H Lob1 Kc
  replace S_L := own_sa2 S_L Lob1 Kc
  replace Ls := Ls.keep Kc (ninS ne_b1_ob1 nin0)
  replace Z0 := Nat.le_trans Z0 Kc.1
  replace K0 := K0.trans Kc (allS (Or.inr sz_ob1) all0)
  refine W.istore C #[.val (.ref b1), .val (.int (0 : Int32)), .val (.int (3 : Int32)), .val (.ref ob1), .val (.int (1 : Int32)), .unset] d10_12 rfl ?_
  refine W.iload C d10_14 rfl ?_
  refine W.iloadN C d10_16 rfl ?_
  refine W.icmp_eq C 57 d10_17 rfl (fun b => absurd b (by decide)) (fun _ => ?_)
  refine W.aloadN C d10_20 rfl rfl ?_
  refine W.iloadN C d10_21 rfl ?_
  refine W.iloadN C d10_22 rfl ?_
  refine W.callS C (y' := y18) d10_23 (tkw hw 85 rfl) (tkw hw 86 rfl) (tkw hw 55 rfl) (tkw hw 87 rfl) (by decide) (argsL := [(.ref b1), (.int (0 : Int32)), (.int (3 : Int32))]) (rest := []) rfl (lenOf pd_12 rfl) (con_tb_3 l Z a0 hw hp3 n0 b1 c0 c1 c2 Ls S_A S_H S_L Z0) 0 2 9 rfl rfl rfl (by decide) (by decide) (by decide) (by decide) rfl ?_
  rintro _ hp5 ⟨d4, rfl, Kc, Ld4, sz⟩
  have sz_d4 := Nat.le_trans K0.1 sz
  replace Ls := Ls.ext (ext0 Kc)
  replace Z0 := Nat.le_trans Z0 (ext0 Kc).1
  replace K0 := K0.ext (ext0 Kc)
  replace S_A := S_A.ext (ext0 Kc)
  replace S_H := S_H.ext (ext0 Kc)
  replace S_L := S_L.ext (ext0 Kc)
  refine W.astore C #[.val (.ref b1), .val (.int (0 : Int32)), .val (.int (3 : Int32)), .val (.ref ob1), .val (.int (1 : Int32)), .val (.ref d4)] d10_26 rfl rfl ?_
  refine W.aload C d10_28 rfl rfl ?_
  refine W.iload C d10_30 rfl ?_
  refine W.callS C (y' := y22) d10_32 (tkw hw 101 rfl) (tkw hw 102 rfl) (tkw hw 55 rfl) (tkw hw 103 rfl) (by decide) (argsL := [(.ref d4), (.int (1 : Int32))]) (rest := []) rfl (lenOf pd_4 rfl) (con_gc_1 l Z a0 hw hp5 n0 d4 _ c1 hr.1 hr.2 rfl rfl Ld4 S_A S_H S_L Z0) 0 2 9 rfl rfl rfl (by decide) (by decide) (by decide) (by decide) rfl ?_
  rintro _ _ ⟨rfl, rfl⟩
  refine W.sipush C (255 : Int32) d10_35 rfl ?_
  refine W.icmp_gt C 54 d10_38 rfl (fun bq1 => ?_) (fun bq1 => absurd hj bq1)
  refine W.aload C d10_54 rfl rfl ?_
  exact W.aret C d10_56 rfl rfl rfl (FN.ok (by decide) (by decide) ⟨d4, rfl, K0, Ld4, sz_d4⟩)

theorem ef_i4_3_1 (m : MethodId) (a1 : Addr) (b1 : Addr) : entryFrame m #[(.ref a1), (.ref b1), (.int (0 : Int32)), (.int (3 : Int32)), .null] 6 = mkF m 0 #[.val (.ref a1), .val (.ref b1), .val (.int (0 : Int32)), .val (.int (3 : Int32)), .val .null, .unset] [] := by first | (simp [entryFrame, mkF, argsToLocals, Value.category]; done) | rfl
set_option maxRecDepth 65536 in
set_option maxHeartbeats 40000000 in
theorem con_i4_3_1 (l : Launch) (Z : State) (a0 : Array Value) (hw : ∀ d ∈ tables_1, d.before a0 Z = true) (h0 : Heap) (n0 : Nat) (a1 : Addr) (b1 : Addr) (c0 c1 c2 : Int32) (hc0 : ¬ (255 : Int32) < c0) (hj : (255 : Int32) < c1) (hr : 0 ≤ c1.toInt ∧ c1.toInt < 65536) (u0 u1 : Value) (cv : Int32) (ne_a1_b1 : a1 ≠ b1) (g_a1 : n0 ≤ a1) (E_a1 : Exa Z h0 a1 "java/lang/String") (Fv : Fld Z h0 a1 "java/lang/String" "value" "[B" u0) (Fc : Fld Z h0 a1 "java/lang/String" "coder" "B" u1) (Ls : Al Z h0 b1 .char [(.int c0), (.int c1), (.int c2)]) (S_C : Sta Z h0 "java/lang/String" "COMPACT_STRINGS" "Z" (.int cv)) (hcv : ¬ cv = 0) (S_A : Sta Z h0 "java/lang/StringUTF16" "$assertionsDisabled" "Z" (.int (1 : Int32))) (S_H : Sta Z h0 "java/lang/StringUTF16" "HI_BYTE_SHIFT" "I" (.int (0 : Int32))) (S_L : Sta Z h0 "java/lang/StringUTF16" "LO_BYTE_SHIFT" "I" (.int (8 : Int32))) (Z0 : n0 ≤ h0.size) : Con l Z y3 jdk_42_method_149_code 6 none ({ frames := 4, cells := 2, slots := 9, locals := 57 } : Room) #[(.ref a1), (.ref b1), (.int (0 : Int32)), (.int (3 : Int32)), .null] h0 n0 (fun v h => v = none ∧ Keep h0 h [a1] ∧ Exa Z h a1 "java/lang/String" ∧ ∃ d, Fld Z h a1 "java/lang/String" "value" "[B" (.ref d) ∧ Fld Z h a1 "java/lang/String" "coder" "B" (.int 1) ∧ Al Z h d .byte [(.int (((c0 >>> ((0 : Int32) &&& 31))).toInt8.toInt32)), (.int (((c0 >>> ((8 : Int32) &&& 31))).toInt8.toInt32)), (.int (((c1 >>> ((0 : Int32) &&& 31))).toInt8.toInt32)), (.int (((c1 >>> ((8 : Int32) &&& 31))).toInt8.toInt32)), (.int (((c2 >>> ((0 : Int32) &&& 31))).toInt8.toInt32)), (.int (((c2 >>> ((8 : Int32) &&& 31))).toInt8.toInt32))]) := by
  refine Con.of pf_3 (fun m => ef_i4_3_1 m a1 b1) ?_
  intro p e s m below meth c C
  have K0 : Keep h0 h0 [a1] := Keep.refl _ _
  refine W.aloadN C d3_0 rfl rfl ?_
  refine W.initO C d3_1 (tkw hw 17 rfl) (tkw hw 18 rfl) (tkw hw 19 rfl) 0 rfl (by decide) (by decide) rfl ?_
  refine W.iloadN C d3_4 rfl ?_
  refine W.if_ne C 27 d3_5 rfl (fun _ => ?_) (fun b => absurd b (by decide))
  refine W.getS C d3_27 (tkw hw 51 rfl) Via.refl S_C ?_
  refine W.if_eq C 58 d3_30 rfl (fun bq1 => absurd bq1 hcv) (fun bq1 => ?_)
  refine W.aloadN C d3_33 rfl rfl ?_
  refine W.iloadN C d3_34 rfl ?_
  refine W.iloadN C d3_35 rfl ?_
  refine W.callS C (y' := y10) d3_36 (tkw hw 53 rfl) (tkw hw 54 rfl) (tkw hw 55 rfl) (tkw hw 56 rfl) (by decide) (argsL := [(.ref b1), (.int (0 : Int32)), (.int (3 : Int32))]) (rest := []) rfl (lenOf pd_12 rfl) (con_c3_3_1 l Z a0 hw h0 n0 b1 c0 c1 c2 hc0 hj hr Ls S_A S_H S_L Z0) 0 2 9 rfl rfl rfl (by decide) (by decide) (by decide) (by decide) rfl ?_
  rintro _ hp2 ⟨d1, rfl, Kc, Ld1, sz⟩
  have ne_a1_d1 : a1 ≠ d1 := Nat.ne_of_lt (Nat.lt_of_lt_of_le E_a1.lt sz)
  replace E_a1 := E_a1.ext (ext0 Kc)
  replace Fv := Fv.ext (ext0 Kc)
  replace Fc := Fc.ext (ext0 Kc)
  replace Ls := Ls.ext (ext0 Kc)
  replace S_A := S_A.ext (ext0 Kc)
  replace S_H := S_H.ext (ext0 Kc)
  replace S_L := S_L.ext (ext0 Kc)
  replace S_C := S_C.ext (ext0 Kc)
  replace Z0 := Nat.le_trans Z0 (ext0 Kc).1
  replace K0 := K0.ext (ext0 Kc)
  refine W.astore C #[.val (.ref a1), .val (.ref b1), .val (.int (0 : Int32)), .val (.int (3 : Int32)), .val .null, .val (.ref d1)] d3_39 rfl rfl ?_
  refine W.aloadN C d3_41 rfl rfl ?_
  refine W.aload C d3_42 rfl rfl ?_
  refine W.iloadN C d3_44 rfl ?_
  refine W.callS C (y' := y12) d3_45 (tkw hw 60 rfl) (tkw hw 61 rfl) (tkw hw 55 rfl) (tkw hw 62 rfl) (by decide) (argsL := [(.ref d1), (.int (3 : Int32))]) (rest := [(.ref a1)]) rfl (lenOf pd_14 rfl) (con_cou_3 l Z a0 hw hp2 n0 d1 c0 c1 c2 Ld1 Z0) 1 2 9 rfl rfl rfl (by decide) (by decide) (by decide) (by decide) rfl ?_
  rintro _ _ ⟨rfl, rfl⟩
  refine W.putF C d3_48 (tkw hw 27 rfl) Via.refl Fc E_a1 (Or.inr ⟨(tkw hw 23 rfl), rfl, rfl⟩) (tkw hw 7 rfl) (ty := .byte) (by decide) rfl rfl g_a1 ?_
  intro hp3 U4
  replace Fc := Fc.same U4
  replace E_a1 := E_a1.wr U4
  replace Fv := Fv.other U4 (Or.inr (slot_ne (Or.inr (tkw hw 22 rfl)) (Or.inr (tkw hw 23 rfl)) (by decide) (t := (.array .byte)) (t' := .byte) (by decide) (by decide)))
  replace Ls := Ls.other U4 (Ne.symm ne_a1_b1)
  replace S_A := S_A.wr U4
  replace S_H := S_H.wr U4
  replace S_L := S_L.wr U4
  replace S_C := S_C.wr U4
  replace Z0 := Nat.le_trans Z0 (Nat.le_of_eq (U4.size).symm)
  replace K0 := K0.wr U4 (Or.inl (List.mem_of_getElem? (i := 0) rfl))
  replace Ld1 := Ld1.other U4 (Ne.symm ne_a1_d1)
  refine W.aloadN C d3_51 rfl rfl ?_
  refine W.aload C d3_52 rfl rfl ?_
  refine W.putF C d3_54 (tkw hw 26 rfl) Via.refl Fv E_a1 (Or.inr ⟨(tkw hw 22 rfl), rfl, rfl⟩) (tkw hw 7 rfl) (ty := (.array .byte)) (by decide) rfl rfl g_a1 ?_
  intro hp5 U6
  replace Fv := Fv.same U6
  replace E_a1 := E_a1.wr U6
  replace Fc := Fc.other U6 (Or.inr (slot_ne (Or.inr (tkw hw 23 rfl)) (Or.inr (tkw hw 22 rfl)) (by decide) (t := .byte) (t' := (.array .byte)) (by decide) (by decide)))
  replace Ls := Ls.other U6 (Ne.symm ne_a1_b1)
  replace S_A := S_A.wr U6
  replace S_H := S_H.wr U6
  replace S_L := S_L.wr U6
  replace S_C := S_C.wr U6
  replace Z0 := Nat.le_trans Z0 (Nat.le_of_eq (U6.size).symm)
  replace K0 := K0.wr U6 (Or.inl (List.mem_of_getElem? (i := 0) rfl))
  replace Ld1 := Ld1.other U6 (Ne.symm ne_a1_d1)
  exact W.retV C d3_57 (FN.ok (by decide) (by decide) ⟨rfl, K0, E_a1, d1, Fv, Fc, Ld1⟩)

theorem ef_i1_3_1 (m : MethodId) (a1 : Addr) (b1 : Addr) : entryFrame m #[(.ref a1), (.ref b1)] 2 = mkF m 0 #[.val (.ref a1), .val (.ref b1)] [] := by first | (simp [entryFrame, mkF, argsToLocals, Value.category]; done) | rfl
set_option maxRecDepth 65536 in
set_option maxHeartbeats 40000000 in
theorem con_i1_3_1 (l : Launch) (Z : State) (a0 : Array Value) (hw : ∀ d ∈ tables_1, d.before a0 Z = true) (h0 : Heap) (n0 : Nat) (a1 : Addr) (b1 : Addr) (c0 c1 c2 : Int32) (hc0 : ¬ (255 : Int32) < c0) (hj : (255 : Int32) < c1) (hr : 0 ≤ c1.toInt ∧ c1.toInt < 65536) (u0 u1 : Value) (cv : Int32) (ne_a1_b1 : a1 ≠ b1) (g_a1 : n0 ≤ a1) (E_a1 : Exa Z h0 a1 "java/lang/String") (Fv : Fld Z h0 a1 "java/lang/String" "value" "[B" u0) (Fc : Fld Z h0 a1 "java/lang/String" "coder" "B" u1) (Ls : Al Z h0 b1 .char [(.int c0), (.int c1), (.int c2)]) (S_C : Sta Z h0 "java/lang/String" "COMPACT_STRINGS" "Z" (.int cv)) (hcv : ¬ cv = 0) (S_A : Sta Z h0 "java/lang/StringUTF16" "$assertionsDisabled" "Z" (.int (1 : Int32))) (S_H : Sta Z h0 "java/lang/StringUTF16" "HI_BYTE_SHIFT" "I" (.int (0 : Int32))) (S_L : Sta Z h0 "java/lang/StringUTF16" "LO_BYTE_SHIFT" "I" (.int (8 : Int32))) (Z0 : n0 ≤ h0.size) : Con l Z y2 jdk_42_method_3_code 2 none ({ frames := 5, cells := 2, slots := 9, locals := 74 } : Room) #[(.ref a1), (.ref b1)] h0 n0 (fun v h => v = none ∧ Keep h0 h [a1] ∧ Exa Z h a1 "java/lang/String" ∧ ∃ d, Fld Z h a1 "java/lang/String" "value" "[B" (.ref d) ∧ Fld Z h a1 "java/lang/String" "coder" "B" (.int 1) ∧ Al Z h d .byte [(.int (((c0 >>> ((0 : Int32) &&& 31))).toInt8.toInt32)), (.int (((c0 >>> ((8 : Int32) &&& 31))).toInt8.toInt32)), (.int (((c1 >>> ((0 : Int32) &&& 31))).toInt8.toInt32)), (.int (((c1 >>> ((8 : Int32) &&& 31))).toInt8.toInt32)), (.int (((c2 >>> ((0 : Int32) &&& 31))).toInt8.toInt32)), (.int (((c2 >>> ((8 : Int32) &&& 31))).toInt8.toInt32))]) := by
  refine Con.of pf_2 (fun m => ef_i1_3_1 m a1 b1) ?_
  intro p e s m below meth c C
  have K0 : Keep h0 h0 [a1] := Keep.refl _ _
  refine W.aloadN C d2_0 rfl rfl ?_
  refine W.aloadN C d2_1 rfl rfl ?_
  refine W.iconst C (0 : Int32) d2_2 rfl ?_
  refine W.aloadN C d2_3 rfl rfl ?_
  refine W.arrlen C (3 : Int32) d2_4 Ls rfl ?_
  refine W.aconstNull C d2_5 ?_
  refine W.callI C (y' := y3) d2_6 rfl (tkw hw 13 rfl) (tkw hw 14 rfl) (tkw hw 8 rfl) (tkw hw 16 rfl) (by decide) (a := a1) (argsL := [(.ref b1), (.int (0 : Int32)), (.int (3 : Int32)), .null]) (rest := []) rfl (lenOf pd_15 rfl) (con_i4_3_1 l Z a0 hw h0 n0 a1 b1 c0 c1 c2 hc0 hj hr u0 u1 cv ne_a1_b1 g_a1 E_a1 Fv Fc Ls S_C hcv S_A S_H S_L Z0) 0 2 9 rfl rfl rfl (by decide) (by decide) (by decide) (by decide) rfl ?_
  rintro _ hp1 ⟨rfl, Kc, E_n, d, Fv_n, Fc_n, Ld⟩
  replace Ls := Ls.keep Kc (ninS (Ne.symm ne_a1_b1) nin0)
  replace Z0 := Nat.le_trans Z0 Kc.1
  replace K0 := K0.trans Kc (allS (Or.inl (List.mem_of_getElem? (i := 0) rfl)) all0)
  replace E_a1 := E_n
  replace Fv := Fv_n
  replace Fc := Fc_n
  exact W.retV C d2_9 (FN.ok (by decide) (by decide) ⟨rfl, K0, E_a1, d, Fv, Fc, Ld⟩)

theorem ef_c4_3_2 (m : MethodId) (b1 : Addr) (d1 : Addr) : entryFrame m #[(.ref b1), (.int (0 : Int32)), (.ref d1), (.int (0 : Int32)), (.int (3 : Int32))] 7 = mkF m 0 #[.val (.ref b1), .val (.int (0 : Int32)), .val (.ref d1), .val (.int (0 : Int32)), .val (.int (3 : Int32)), .unset, .unset] [] := by first | (simp [entryFrame, mkF, argsToLocals, Value.category]; done) | rfl
set_option maxRecDepth 65536 in
set_option maxHeartbeats 40000000 in
theorem con_c4_3_2 (l : Launch) (Z : State) (a0 : Array Value) (hw : ∀ d ∈ tables_1, d.before a0 Z = true) (h0 : Heap) (n0 : Nat) (b1 : Addr) (d1 : Addr) (c0 c1 c2 : Int32) (hc0 : ¬ (255 : Int32) < c0) (hc1 : ¬ (255 : Int32) < c1) (hj : (255 : Int32) < c2) (ne_b1_d1 : b1 ≠ d1) (g_d1 : n0 ≤ d1) (Ls : Al Z h0 b1 .char [(.int c0), (.int c1), (.int c2)]) (Ld : Al Z h0 d1 .byte [(.int (0 : Int32)), (.int (0 : Int32)), (.int (0 : Int32))]) (Z0 : n0 ≤ h0.size) : Con l Z y11 jdk_52_method_21_code 7 (some .int) ({ frames := 0, cells := 0, slots := 0, locals := 0 } : Room) #[(.ref b1), (.int (0 : Int32)), (.ref d1), (.int (0 : Int32)), (.int (3 : Int32))] h0 n0 (fun v h => v = some (.int 2) ∧ Keep h0 h [d1]) := by
  refine Con.of pf_11 (fun m => ef_c4_3_2 m b1 d1) ?_
  intro p e s m below meth c C
  have K0 : Keep h0 h0 [d1] := Keep.refl _ _
  refine W.iconst C (0 : Int32) d11_0 rfl ?_
  refine W.istore C #[.val (.ref b1), .val (.int (0 : Int32)), .val (.ref d1), .val (.int (0 : Int32)), .val (.int (3 : Int32)), .val (.int (0 : Int32)), .unset] d11_1 rfl ?_
  refine W.iload C d11_3 rfl ?_
  refine W.iload C d11_5 rfl ?_
  refine W.icmp_ge C 44 d11_7 rfl (fun b => absurd b (by decide)) (fun _ => ?_)
  refine W.aloadN C d11_10 rfl rfl ?_
  refine W.iloadN C d11_11 rfl ?_
  refine W.caload C 0 d11_12 Ls rfl rfl ?_
  refine W.istore C #[.val (.ref b1), .val (.int (0 : Int32)), .val (.ref d1), .val (.int (0 : Int32)), .val (.int (3 : Int32)), .val (.int (0 : Int32)), .val (.int c0)] d11_13 rfl ?_
  refine W.iload C d11_15 rfl ?_
  refine W.sipush C (255 : Int32) d11_17 rfl ?_
  refine W.icmp_le C 26 d11_20 rfl (fun bq1 => ?_) (fun bq1 => absurd bq1 hc0)
  refine W.aloadN C d11_26 rfl rfl ?_
  refine W.iloadN C d11_27 rfl ?_
  refine W.iload C d11_28 rfl ?_
  refine W.i2b C d11_30 ?_
  refine W.bastoreI C 0 d11_31 Ld rfl (show (0 : Nat) < 3 by decide) g_d1 ?_
  intro hp1 U2 Ld_
  replace Ls := Ls.other U2 ne_b1_d1
  replace Z0 := Nat.le_trans Z0 (Nat.le_of_eq (U2.size).symm)
  replace K0 := K0.wr U2 (Or.inl (List.mem_of_getElem? (i := 0) rfl))
  replace Ld : Al Z hp1 d1 .byte [(.int ((c0).toInt8.toInt32)), (.int (0 : Int32)), (.int (0 : Int32))] := Ld_
  refine W.iinc C (1 : Int32) #[.val (.ref b1), .val (.int (1 : Int32)), .val (.ref d1), .val (.int (0 : Int32)), .val (.int (3 : Int32)), .val (.int (0 : Int32)), .val (.int c0)] d11_32 rfl rfl rfl ?_
  refine W.iinc C (1 : Int32) #[.val (.ref b1), .val (.int (1 : Int32)), .val (.ref d1), .val (.int (1 : Int32)), .val (.int (3 : Int32)), .val (.int (0 : Int32)), .val (.int c0)] d11_35 rfl rfl rfl ?_
  refine W.iinc C (1 : Int32) #[.val (.ref b1), .val (.int (1 : Int32)), .val (.ref d1), .val (.int (1 : Int32)), .val (.int (3 : Int32)), .val (.int (1 : Int32)), .val (.int c0)] d11_38 rfl rfl rfl ?_
  refine W.goto C 3 d11_41 rfl ?_
  refine W.iload C d11_3 rfl ?_
  refine W.iload C d11_5 rfl ?_
  refine W.icmp_ge C 44 d11_7 rfl (fun b => absurd b (by decide)) (fun _ => ?_)
  refine W.aloadN C d11_10 rfl rfl ?_
  refine W.iloadN C d11_11 rfl ?_
  refine W.caload C 1 d11_12 Ls rfl rfl ?_
  refine W.istore C #[.val (.ref b1), .val (.int (1 : Int32)), .val (.ref d1), .val (.int (1 : Int32)), .val (.int (3 : Int32)), .val (.int (1 : Int32)), .val (.int c1)] d11_13 rfl ?_
  refine W.iload C d11_15 rfl ?_
  refine W.sipush C (255 : Int32) d11_17 rfl ?_
  refine W.icmp_le C 26 d11_20 rfl (fun bq2 => ?_) (fun bq2 => absurd bq2 hc1)
  refine W.aloadN C d11_26 rfl rfl ?_
  refine W.iloadN C d11_27 rfl ?_
  refine W.iload C d11_28 rfl ?_
  refine W.i2b C d11_30 ?_
  refine W.bastoreI C 1 d11_31 Ld rfl (show (1 : Nat) < 3 by decide) g_d1 ?_
  intro hp3 U4 Ld_
  replace Ls := Ls.other U4 ne_b1_d1
  replace Z0 := Nat.le_trans Z0 (Nat.le_of_eq (U4.size).symm)
  replace K0 := K0.wr U4 (Or.inl (List.mem_of_getElem? (i := 0) rfl))
  replace Ld : Al Z hp3 d1 .byte [(.int ((c0).toInt8.toInt32)), (.int ((c1).toInt8.toInt32)), (.int (0 : Int32))] := Ld_
  refine W.iinc C (2 : Int32) #[.val (.ref b1), .val (.int (2 : Int32)), .val (.ref d1), .val (.int (1 : Int32)), .val (.int (3 : Int32)), .val (.int (1 : Int32)), .val (.int c1)] d11_32 rfl rfl rfl ?_
  refine W.iinc C (2 : Int32) #[.val (.ref b1), .val (.int (2 : Int32)), .val (.ref d1), .val (.int (2 : Int32)), .val (.int (3 : Int32)), .val (.int (1 : Int32)), .val (.int c1)] d11_35 rfl rfl rfl ?_
  refine W.iinc C (2 : Int32) #[.val (.ref b1), .val (.int (2 : Int32)), .val (.ref d1), .val (.int (2 : Int32)), .val (.int (3 : Int32)), .val (.int (2 : Int32)), .val (.int c1)] d11_38 rfl rfl rfl ?_
  refine W.goto C 3 d11_41 rfl ?_
  refine W.iload C d11_3 rfl ?_
  refine W.iload C d11_5 rfl ?_
  refine W.icmp_ge C 44 d11_7 rfl (fun b => absurd b (by decide)) (fun _ => ?_)
  refine W.aloadN C d11_10 rfl rfl ?_
  refine W.iloadN C d11_11 rfl ?_
  refine W.caload C 2 d11_12 Ls rfl rfl ?_
  refine W.istore C #[.val (.ref b1), .val (.int (2 : Int32)), .val (.ref d1), .val (.int (2 : Int32)), .val (.int (3 : Int32)), .val (.int (2 : Int32)), .val (.int c2)] d11_13 rfl ?_
  refine W.iload C d11_15 rfl ?_
  refine W.sipush C (255 : Int32) d11_17 rfl ?_
  refine W.icmp_le C 26 d11_20 rfl (fun bq3 => absurd hj bq3) (fun bq3 => ?_)
  refine W.iload C d11_23 rfl ?_
  exact W.iret C d11_25 (by simp) rfl (FN.ok (by decide) (by decide) ⟨rfl, K0⟩)

theorem ef_c3_3_2 (m : MethodId) (b1 : Addr) : entryFrame m #[(.ref b1), (.int (0 : Int32)), (.int (3 : Int32))] 6 = mkF m 0 #[.val (.ref b1), .val (.int (0 : Int32)), .val (.int (3 : Int32)), .unset, .unset, .unset] [] := by first | (simp [entryFrame, mkF, argsToLocals, Value.category]; done) | rfl
set_option maxRecDepth 65536 in
set_option maxHeartbeats 40000000 in
theorem con_c3_3_2 (l : Launch) (Z : State) (a0 : Array Value) (hw : ∀ d ∈ tables_1, d.before a0 Z = true) (h0 : Heap) (n0 : Nat) (b1 : Addr) (c0 c1 c2 : Int32) (hc0 : ¬ (255 : Int32) < c0) (hc1 : ¬ (255 : Int32) < c1) (hj : (255 : Int32) < c2) (hr : 0 ≤ c2.toInt ∧ c2.toInt < 65536) (Ls : Al Z h0 b1 .char [(.int c0), (.int c1), (.int c2)]) (S_A : Sta Z h0 "java/lang/StringUTF16" "$assertionsDisabled" "Z" (.int (1 : Int32))) (S_H : Sta Z h0 "java/lang/StringUTF16" "HI_BYTE_SHIFT" "I" (.int (0 : Int32))) (S_L : Sta Z h0 "java/lang/StringUTF16" "LO_BYTE_SHIFT" "I" (.int (8 : Int32))) (Z0 : n0 ≤ h0.size) : Con l Z y10 jdk_52_method_16_code 6 (some (.array .byte)) ({ frames := 3, cells := 2, slots := 9, locals := 40 } : Room) #[(.ref b1), (.int (0 : Int32)), (.int (3 : Int32))] h0 n0 (fun v h => ∃ d, v = some (.ref d) ∧ Keep h0 h [] ∧ Al Z h d .byte [(.int (((c0 >>> ((0 : Int32) &&& 31))).toInt8.toInt32)), (.int (((c0 >>> ((8 : Int32) &&& 31))).toInt8.toInt32)), (.int (((c1 >>> ((0 : Int32) &&& 31))).toInt8.toInt32)), (.int (((c1 >>> ((8 : Int32) &&& 31))).toInt8.toInt32)), (.int (((c2 >>> ((0 : Int32) &&& 31))).toInt8.toInt32)), (.int (((c2 >>> ((8 : Int32) &&& 31))).toInt8.toInt32))] ∧ h0.size ≤ d) := by
  refine Con.of pf_10 (fun m => ef_c3_3_2 m b1) ?_
  intro p e s m below meth c C
  have K0 : Keep h0 h0 [] := Keep.refl _ _
  refine W.iloadN C d10_0 rfl ?_
  refine W.newP C 3 3 d10_1 (tkw hw 21 rfl) rfl (Nat.le_refl _) (by decide) 1 3 rfl rfl (by decide) (by decide) ?_
  intro ob1 hp2 hob1 Eob1 Lob1
  have ne_b1_ob1 : b1 ≠ ob1 := Nat.ne_of_lt (by rw [hob1]; exact Ls.lt)
  have ge_ob1 : n0 ≤ ob1 := by rw [hob1]; exact Z0
  have sz_ob1 : h0.size ≤ ob1 := by rw [hob1]; exact K0.1
  replace Ls := Ls.ext Eob1
  replace S_A := S_A.ext Eob1
  replace S_H := S_H.ext Eob1
  replace S_L := S_L.ext Eob1
  replace Z0 := Nat.le_trans Z0 Eob1.1
  replace K0 := K0.ext Eob1
  replace Lob1 : Al Z hp2 ob1 .byte [(.int (0 : Int32)), (.int (0 : Int32)), (.int (0 : Int32))] := Lob1
  refine W.astoreN C #[.val (.ref b1), .val (.int (0 : Int32)), .val (.int (3 : Int32)), .val (.ref ob1), .unset, .unset] d10_3 rfl rfl ?_
  refine W.aloadN C d10_4 rfl rfl ?_
  refine W.iloadN C d10_5 rfl ?_
  refine W.aloadN C d10_6 rfl rfl ?_
  refine W.iconst C (0 : Int32) d10_7 rfl ?_
  refine W.iloadN C d10_8 rfl ?_
  refine W.callS C (y' := y11) d10_9 (tkw hw 57 rfl) (tkw hw 58 rfl) (tkw hw 55 rfl) (tkw hw 59 rfl) (by decide) (argsL := [(.ref b1), (.int (0 : Int32)), (.ref ob1), (.int (0 : Int32)), (.int (3 : Int32))]) (rest := []) rfl (lenOf pd_11 rfl) (con_c4_3_2 l Z a0 hw hp2 n0 b1 ob1 c0 c1 c2 hc0 hc1 hj ne_b1_ob1 ge_ob1 Ls Lob1 Z0) 0 1 3 rfl rfl rfl (by decide) (by decide) (by decide) (by decide) rfl ?_
  rintro _ hp3 ⟨rfl, Kc⟩
  replace S_A := own_sa2 S_A Lob1 Kc
  replace S_H := own_sa2 S_H Lob1 Kc
  replace S_L := own_sa2 S_L Lob1 Kc
  replace Ls := Ls.keep Kc (ninS ne_b1_ob1 nin0)
  replace Z0 := Nat.le_trans Z0 Kc.1
  replace K0 := K0.trans Kc (allS (Or.inr sz_ob1) all0)
  refine W.istore C #[.val (.ref b1), .val (.int (0 : Int32)), .val (.int (3 : Int32)), .val (.ref ob1), .val (.int (2 : Int32)), .unset] d10_12 rfl ?_
  refine W.iload C d10_14 rfl ?_
  refine W.iloadN C d10_16 rfl ?_
  refine W.icmp_eq C 57 d10_17 rfl (fun b => absurd b (by decide)) (fun _ => ?_)
  refine W.aloadN C d10_20 rfl rfl ?_
  refine W.iloadN C d10_21 rfl ?_
  refine W.iloadN C d10_22 rfl ?_
  refine W.callS C (y' := y18) d10_23 (tkw hw 85 rfl) (tkw hw 86 rfl) (tkw hw 55 rfl) (tkw hw 87 rfl) (by decide) (argsL := [(.ref b1), (.int (0 : Int32)), (.int (3 : Int32))]) (rest := []) rfl (lenOf pd_12 rfl) (con_tb_3 l Z a0 hw hp3 n0 b1 c0 c1 c2 Ls S_A S_H S_L Z0) 0 2 9 rfl rfl rfl (by decide) (by decide) (by decide) (by decide) rfl ?_
  rintro _ hp5 ⟨d4, rfl, Kc, Ld4, sz⟩
  have sz_d4 := Nat.le_trans K0.1 sz
  replace Ls := Ls.ext (ext0 Kc)
  replace Z0 := Nat.le_trans Z0 (ext0 Kc).1
  replace K0 := K0.ext (ext0 Kc)
  replace S_A := S_A.ext (ext0 Kc)
  replace S_H := S_H.ext (ext0 Kc)
  replace S_L := S_L.ext (ext0 Kc)
  refine W.astore C #[.val (.ref b1), .val (.int (0 : Int32)), .val (.int (3 : Int32)), .val (.ref ob1), .val (.int (2 : Int32)), .val (.ref d4)] d10_26 rfl rfl ?_
  refine W.aload C d10_28 rfl rfl ?_
  refine W.iload C d10_30 rfl ?_
  refine W.callS C (y' := y22) d10_32 (tkw hw 101 rfl) (tkw hw 102 rfl) (tkw hw 55 rfl) (tkw hw 103 rfl) (by decide) (argsL := [(.ref d4), (.int (2 : Int32))]) (rest := []) rfl (lenOf pd_4 rfl) (con_gc_2 l Z a0 hw hp5 n0 d4 _ c2 hr.1 hr.2 rfl rfl Ld4 S_A S_H S_L Z0) 0 2 9 rfl rfl rfl (by decide) (by decide) (by decide) (by decide) rfl ?_
  rintro _ _ ⟨rfl, rfl⟩
  refine W.sipush C (255 : Int32) d10_35 rfl ?_
  refine W.icmp_gt C 54 d10_38 rfl (fun bq1 => ?_) (fun bq1 => absurd hj bq1)
  refine W.aload C d10_54 rfl rfl ?_
  exact W.aret C d10_56 rfl rfl rfl (FN.ok (by decide) (by decide) ⟨d4, rfl, K0, Ld4, sz_d4⟩)

theorem ef_i4_3_2 (m : MethodId) (a1 : Addr) (b1 : Addr) : entryFrame m #[(.ref a1), (.ref b1), (.int (0 : Int32)), (.int (3 : Int32)), .null] 6 = mkF m 0 #[.val (.ref a1), .val (.ref b1), .val (.int (0 : Int32)), .val (.int (3 : Int32)), .val .null, .unset] [] := by first | (simp [entryFrame, mkF, argsToLocals, Value.category]; done) | rfl
set_option maxRecDepth 65536 in
set_option maxHeartbeats 40000000 in
theorem con_i4_3_2 (l : Launch) (Z : State) (a0 : Array Value) (hw : ∀ d ∈ tables_1, d.before a0 Z = true) (h0 : Heap) (n0 : Nat) (a1 : Addr) (b1 : Addr) (c0 c1 c2 : Int32) (hc0 : ¬ (255 : Int32) < c0) (hc1 : ¬ (255 : Int32) < c1) (hj : (255 : Int32) < c2) (hr : 0 ≤ c2.toInt ∧ c2.toInt < 65536) (u0 u1 : Value) (cv : Int32) (ne_a1_b1 : a1 ≠ b1) (g_a1 : n0 ≤ a1) (E_a1 : Exa Z h0 a1 "java/lang/String") (Fv : Fld Z h0 a1 "java/lang/String" "value" "[B" u0) (Fc : Fld Z h0 a1 "java/lang/String" "coder" "B" u1) (Ls : Al Z h0 b1 .char [(.int c0), (.int c1), (.int c2)]) (S_C : Sta Z h0 "java/lang/String" "COMPACT_STRINGS" "Z" (.int cv)) (hcv : ¬ cv = 0) (S_A : Sta Z h0 "java/lang/StringUTF16" "$assertionsDisabled" "Z" (.int (1 : Int32))) (S_H : Sta Z h0 "java/lang/StringUTF16" "HI_BYTE_SHIFT" "I" (.int (0 : Int32))) (S_L : Sta Z h0 "java/lang/StringUTF16" "LO_BYTE_SHIFT" "I" (.int (8 : Int32))) (Z0 : n0 ≤ h0.size) : Con l Z y3 jdk_42_method_149_code 6 none ({ frames := 4, cells := 2, slots := 9, locals := 57 } : Room) #[(.ref a1), (.ref b1), (.int (0 : Int32)), (.int (3 : Int32)), .null] h0 n0 (fun v h => v = none ∧ Keep h0 h [a1] ∧ Exa Z h a1 "java/lang/String" ∧ ∃ d, Fld Z h a1 "java/lang/String" "value" "[B" (.ref d) ∧ Fld Z h a1 "java/lang/String" "coder" "B" (.int 1) ∧ Al Z h d .byte [(.int (((c0 >>> ((0 : Int32) &&& 31))).toInt8.toInt32)), (.int (((c0 >>> ((8 : Int32) &&& 31))).toInt8.toInt32)), (.int (((c1 >>> ((0 : Int32) &&& 31))).toInt8.toInt32)), (.int (((c1 >>> ((8 : Int32) &&& 31))).toInt8.toInt32)), (.int (((c2 >>> ((0 : Int32) &&& 31))).toInt8.toInt32)), (.int (((c2 >>> ((8 : Int32) &&& 31))).toInt8.toInt32))]) := by
  refine Con.of pf_3 (fun m => ef_i4_3_2 m a1 b1) ?_
  intro p e s m below meth c C
  have K0 : Keep h0 h0 [a1] := Keep.refl _ _
  refine W.aloadN C d3_0 rfl rfl ?_
  refine W.initO C d3_1 (tkw hw 17 rfl) (tkw hw 18 rfl) (tkw hw 19 rfl) 0 rfl (by decide) (by decide) rfl ?_
  refine W.iloadN C d3_4 rfl ?_
  refine W.if_ne C 27 d3_5 rfl (fun _ => ?_) (fun b => absurd b (by decide))
  refine W.getS C d3_27 (tkw hw 51 rfl) Via.refl S_C ?_
  refine W.if_eq C 58 d3_30 rfl (fun bq1 => absurd bq1 hcv) (fun bq1 => ?_)
  refine W.aloadN C d3_33 rfl rfl ?_
  refine W.iloadN C d3_34 rfl ?_
  refine W.iloadN C d3_35 rfl ?_
  refine W.callS C (y' := y10) d3_36 (tkw hw 53 rfl) (tkw hw 54 rfl) (tkw hw 55 rfl) (tkw hw 56 rfl) (by decide) (argsL := [(.ref b1), (.int (0 : Int32)), (.int (3 : Int32))]) (rest := []) rfl (lenOf pd_12 rfl) (con_c3_3_2 l Z a0 hw h0 n0 b1 c0 c1 c2 hc0 hc1 hj hr Ls S_A S_H S_L Z0) 0 2 9 rfl rfl rfl (by decide) (by decide) (by decide) (by decide) rfl ?_
  rintro _ hp2 ⟨d1, rfl, Kc, Ld1, sz⟩
  have ne_a1_d1 : a1 ≠ d1 := Nat.ne_of_lt (Nat.lt_of_lt_of_le E_a1.lt sz)
  replace E_a1 := E_a1.ext (ext0 Kc)
  replace Fv := Fv.ext (ext0 Kc)
  replace Fc := Fc.ext (ext0 Kc)
  replace Ls := Ls.ext (ext0 Kc)
  replace S_A := S_A.ext (ext0 Kc)
  replace S_H := S_H.ext (ext0 Kc)
  replace S_L := S_L.ext (ext0 Kc)
  replace S_C := S_C.ext (ext0 Kc)
  replace Z0 := Nat.le_trans Z0 (ext0 Kc).1
  replace K0 := K0.ext (ext0 Kc)
  refine W.astore C #[.val (.ref a1), .val (.ref b1), .val (.int (0 : Int32)), .val (.int (3 : Int32)), .val .null, .val (.ref d1)] d3_39 rfl rfl ?_
  refine W.aloadN C d3_41 rfl rfl ?_
  refine W.aload C d3_42 rfl rfl ?_
  refine W.iloadN C d3_44 rfl ?_
  refine W.callS C (y' := y12) d3_45 (tkw hw 60 rfl) (tkw hw 61 rfl) (tkw hw 55 rfl) (tkw hw 62 rfl) (by decide) (argsL := [(.ref d1), (.int (3 : Int32))]) (rest := [(.ref a1)]) rfl (lenOf pd_14 rfl) (con_cou_3 l Z a0 hw hp2 n0 d1 c0 c1 c2 Ld1 Z0) 1 2 9 rfl rfl rfl (by decide) (by decide) (by decide) (by decide) rfl ?_
  rintro _ _ ⟨rfl, rfl⟩
  refine W.putF C d3_48 (tkw hw 27 rfl) Via.refl Fc E_a1 (Or.inr ⟨(tkw hw 23 rfl), rfl, rfl⟩) (tkw hw 7 rfl) (ty := .byte) (by decide) rfl rfl g_a1 ?_
  intro hp3 U4
  replace Fc := Fc.same U4
  replace E_a1 := E_a1.wr U4
  replace Fv := Fv.other U4 (Or.inr (slot_ne (Or.inr (tkw hw 22 rfl)) (Or.inr (tkw hw 23 rfl)) (by decide) (t := (.array .byte)) (t' := .byte) (by decide) (by decide)))
  replace Ls := Ls.other U4 (Ne.symm ne_a1_b1)
  replace S_A := S_A.wr U4
  replace S_H := S_H.wr U4
  replace S_L := S_L.wr U4
  replace S_C := S_C.wr U4
  replace Z0 := Nat.le_trans Z0 (Nat.le_of_eq (U4.size).symm)
  replace K0 := K0.wr U4 (Or.inl (List.mem_of_getElem? (i := 0) rfl))
  replace Ld1 := Ld1.other U4 (Ne.symm ne_a1_d1)
  refine W.aloadN C d3_51 rfl rfl ?_
  refine W.aload C d3_52 rfl rfl ?_
  refine W.putF C d3_54 (tkw hw 26 rfl) Via.refl Fv E_a1 (Or.inr ⟨(tkw hw 22 rfl), rfl, rfl⟩) (tkw hw 7 rfl) (ty := (.array .byte)) (by decide) rfl rfl g_a1 ?_
  intro hp5 U6
  replace Fv := Fv.same U6
  replace E_a1 := E_a1.wr U6
  replace Fc := Fc.other U6 (Or.inr (slot_ne (Or.inr (tkw hw 23 rfl)) (Or.inr (tkw hw 22 rfl)) (by decide) (t := .byte) (t' := (.array .byte)) (by decide) (by decide)))
  replace Ls := Ls.other U6 (Ne.symm ne_a1_b1)
  replace S_A := S_A.wr U6
  replace S_H := S_H.wr U6
  replace S_L := S_L.wr U6
  replace S_C := S_C.wr U6
  replace Z0 := Nat.le_trans Z0 (Nat.le_of_eq (U6.size).symm)
  replace K0 := K0.wr U6 (Or.inl (List.mem_of_getElem? (i := 0) rfl))
  replace Ld1 := Ld1.other U6 (Ne.symm ne_a1_d1)
  exact W.retV C d3_57 (FN.ok (by decide) (by decide) ⟨rfl, K0, E_a1, d1, Fv, Fc, Ld1⟩)

theorem ef_i1_3_2 (m : MethodId) (a1 : Addr) (b1 : Addr) : entryFrame m #[(.ref a1), (.ref b1)] 2 = mkF m 0 #[.val (.ref a1), .val (.ref b1)] [] := by first | (simp [entryFrame, mkF, argsToLocals, Value.category]; done) | rfl
set_option maxRecDepth 65536 in
set_option maxHeartbeats 40000000 in
theorem con_i1_3_2 (l : Launch) (Z : State) (a0 : Array Value) (hw : ∀ d ∈ tables_1, d.before a0 Z = true) (h0 : Heap) (n0 : Nat) (a1 : Addr) (b1 : Addr) (c0 c1 c2 : Int32) (hc0 : ¬ (255 : Int32) < c0) (hc1 : ¬ (255 : Int32) < c1) (hj : (255 : Int32) < c2) (hr : 0 ≤ c2.toInt ∧ c2.toInt < 65536) (u0 u1 : Value) (cv : Int32) (ne_a1_b1 : a1 ≠ b1) (g_a1 : n0 ≤ a1) (E_a1 : Exa Z h0 a1 "java/lang/String") (Fv : Fld Z h0 a1 "java/lang/String" "value" "[B" u0) (Fc : Fld Z h0 a1 "java/lang/String" "coder" "B" u1) (Ls : Al Z h0 b1 .char [(.int c0), (.int c1), (.int c2)]) (S_C : Sta Z h0 "java/lang/String" "COMPACT_STRINGS" "Z" (.int cv)) (hcv : ¬ cv = 0) (S_A : Sta Z h0 "java/lang/StringUTF16" "$assertionsDisabled" "Z" (.int (1 : Int32))) (S_H : Sta Z h0 "java/lang/StringUTF16" "HI_BYTE_SHIFT" "I" (.int (0 : Int32))) (S_L : Sta Z h0 "java/lang/StringUTF16" "LO_BYTE_SHIFT" "I" (.int (8 : Int32))) (Z0 : n0 ≤ h0.size) : Con l Z y2 jdk_42_method_3_code 2 none ({ frames := 5, cells := 2, slots := 9, locals := 74 } : Room) #[(.ref a1), (.ref b1)] h0 n0 (fun v h => v = none ∧ Keep h0 h [a1] ∧ Exa Z h a1 "java/lang/String" ∧ ∃ d, Fld Z h a1 "java/lang/String" "value" "[B" (.ref d) ∧ Fld Z h a1 "java/lang/String" "coder" "B" (.int 1) ∧ Al Z h d .byte [(.int (((c0 >>> ((0 : Int32) &&& 31))).toInt8.toInt32)), (.int (((c0 >>> ((8 : Int32) &&& 31))).toInt8.toInt32)), (.int (((c1 >>> ((0 : Int32) &&& 31))).toInt8.toInt32)), (.int (((c1 >>> ((8 : Int32) &&& 31))).toInt8.toInt32)), (.int (((c2 >>> ((0 : Int32) &&& 31))).toInt8.toInt32)), (.int (((c2 >>> ((8 : Int32) &&& 31))).toInt8.toInt32))]) := by
  refine Con.of pf_2 (fun m => ef_i1_3_2 m a1 b1) ?_
  intro p e s m below meth c C
  have K0 : Keep h0 h0 [a1] := Keep.refl _ _
  refine W.aloadN C d2_0 rfl rfl ?_
  refine W.aloadN C d2_1 rfl rfl ?_
  refine W.iconst C (0 : Int32) d2_2 rfl ?_
  refine W.aloadN C d2_3 rfl rfl ?_
  refine W.arrlen C (3 : Int32) d2_4 Ls rfl ?_
  refine W.aconstNull C d2_5 ?_
  refine W.callI C (y' := y3) d2_6 rfl (tkw hw 13 rfl) (tkw hw 14 rfl) (tkw hw 8 rfl) (tkw hw 16 rfl) (by decide) (a := a1) (argsL := [(.ref b1), (.int (0 : Int32)), (.int (3 : Int32)), .null]) (rest := []) rfl (lenOf pd_15 rfl) (con_i4_3_2 l Z a0 hw h0 n0 a1 b1 c0 c1 c2 hc0 hc1 hj hr u0 u1 cv ne_a1_b1 g_a1 E_a1 Fv Fc Ls S_C hcv S_A S_H S_L Z0) 0 2 9 rfl rfl rfl (by decide) (by decide) (by decide) (by decide) rfl ?_
  rintro _ hp1 ⟨rfl, Kc, E_n, d, Fv_n, Fc_n, Ld⟩
  replace Ls := Ls.keep Kc (ninS (Ne.symm ne_a1_b1) nin0)
  replace Z0 := Nat.le_trans Z0 Kc.1
  replace K0 := K0.trans Kc (allS (Or.inl (List.mem_of_getElem? (i := 0) rfl)) all0)
  replace E_a1 := E_n
  replace Fv := Fv_n
  replace Fc := Fc_n
  exact W.retV C d2_9 (FN.ok (by decide) (by decide) ⟨rfl, K0, E_a1, d, Fv, Fc, Ld⟩)

theorem ef_nl_4 (m : MethodId)  : entryFrame m #[(.int (4 : Int32))] 1 = mkF m 0 #[.val (.int (4 : Int32))] [] := by first | (simp [entryFrame, mkF, argsToLocals, Value.category]; done) | rfl
set_option maxRecDepth 65536 in
set_option maxHeartbeats 40000000 in
theorem con_nl_4 (l : Launch) (Z : State) (a0 : Array Value) (hw : ∀ d ∈ tables_1, d.before a0 Z = true) (h0 : Heap) (n0 : Nat)   (Z0 : n0 ≤ h0.size) : Con l Z y20 jdk_52_method_3_code 1 (some .int) ({ frames := 0, cells := 0, slots := 0, locals := 0 } : Room) #[(.int (4 : Int32))] h0 n0 (Pu (some (.int 8)) h0) := by
  refine Con.of pf_20 (fun m => ef_nl_4 m ) ?_
  intro p e s m below meth c C
  refine W.iloadN C d20_0 rfl ?_
  refine W.if_ge C 12 d20_1 rfl (fun _ => ?_) (fun b => absurd b (by decide))
  refine W.iloadN C d20_12 rfl ?_
  refine W.ldcI C (v := (1073741823 : Int32)) d20_13 (tkw hw 94 rfl) ?_
  refine W.icmp_lt C 55 d20_15 rfl (fun _ => ?_) (fun b => absurd b (by decide))
  refine W.iloadN C d20_55 rfl ?_
  refine W.iconst C (1 : Int32) d20_56 rfl ?_
  refine W.ishlV C (8 : Int32) d20_57 (by decide) ?_
  exact W.iret C d20_58 (by simp) rfl (FN.ok (by decide) (by decide) ⟨rfl, rfl⟩)

theorem ef_nf_4 (m : MethodId)  : entryFrame m #[(.int (4 : Int32))] 1 = mkF m 0 #[.val (.int (4 : Int32))] [] := by first | (simp [entryFrame, mkF, argsToLocals, Value.category]; done) | rfl
set_option maxRecDepth 65536 in
set_option maxHeartbeats 40000000 in
theorem con_nf_4 (l : Launch) (Z : State) (a0 : Array Value) (hw : ∀ d ∈ tables_1, d.before a0 Z = true) (h0 : Heap) (n0 : Nat)   (Z0 : n0 ≤ h0.size) : Con l Z y19 jdk_52_method_2_code 1 (some (.array .byte)) ({ frames := 1, cells := 1, slots := 8, locals := 12 } : Room) #[(.int (4 : Int32))] h0 n0 (fun v h => ∃ d, v = some (.ref d) ∧ Keep h0 h [] ∧ Al Z h d .byte [(.int (0 : Int32)), (.int (0 : Int32)), (.int (0 : Int32)), (.int (0 : Int32)), (.int (0 : Int32)), (.int (0 : Int32)), (.int (0 : Int32)), (.int (0 : Int32))] ∧ h0.size ≤ d ∧ n0 ≤ d) := by
  refine Con.of pf_19 (fun m => ef_nf_4 m ) ?_
  intro p e s m below meth c C
  have K0 : Keep h0 h0 [] := Keep.refl _ _
  refine W.iloadN C d19_0 rfl ?_
  refine W.callS C (y' := y20) d19_1 (tkw hw 91 rfl) (tkw hw 92 rfl) (tkw hw 55 rfl) (tkw hw 93 rfl) (by decide) (argsL := [(.int (4 : Int32))]) (rest := []) rfl (lenOf pd_16 rfl) (con_nl_4 l Z a0 hw h0 n0 Z0) 0 0 0 rfl rfl rfl (by decide) (by decide) (by decide) (by decide) rfl ?_
  rintro _ _ ⟨rfl, rfl⟩
  refine W.newP C 8 8 d19_4 (tkw hw 21 rfl) rfl (Nat.le_refl _) (by decide) 1 8 rfl rfl (by decide) (by decide) ?_
  intro ob1 hp2 hob1 Eob1 Lob1
  have ge_ob1 : n0 ≤ ob1 := by rw [hob1]; exact Z0
  have sz_ob1 : h0.size ≤ ob1 := by rw [hob1]; exact K0.1
  replace Z0 := Nat.le_trans Z0 Eob1.1
  replace K0 := K0.ext Eob1
  replace Lob1 : Al Z hp2 ob1 .byte [(.int (0 : Int32)), (.int (0 : Int32)), (.int (0 : Int32)), (.int (0 : Int32)), (.int (0 : Int32)), (.int (0 : Int32)), (.int (0 : Int32)), (.int (0 : Int32))] := Lob1
  exact W.aret C d19_6 rfl rfl rfl (FN.ok (by decide) (by decide) ⟨ob1, rfl, K0, Lob1, sz_ob1, ge_ob1⟩)

theorem ef_tb_4 (m : MethodId) (b1 : Addr) : entryFrame m #[(.ref b1), (.int (0 : Int32)), (.int (4 : Int32))] 5 = mkF m 0 #[.val (.ref b1), .val (.int (0 : Int32)), .val (.int (4 : Int32)), .unset, .unset] [] := by first | (simp [entryFrame, mkF, argsToLocals, Value.category]; done) | rfl
set_option maxRecDepth 65536 in
set_option maxHeartbeats 40000000 in
theorem con_tb_4 (l : Launch) (Z : State) (a0 : Array Value) (hw : ∀ d ∈ tables_1, d.before a0 Z = true) (h0 : Heap) (n0 : Nat) (b1 : Addr) (c0 c1 c2 c3 : Int32) (Ls : Al Z h0 b1 .char [(.int c0), (.int c1), (.int c2), (.int c3)]) (S_A : Sta Z h0 "java/lang/StringUTF16" "$assertionsDisabled" "Z" (.int (1 : Int32))) (S_H : Sta Z h0 "java/lang/StringUTF16" "HI_BYTE_SHIFT" "I" (.int (0 : Int32))) (S_L : Sta Z h0 "java/lang/StringUTF16" "LO_BYTE_SHIFT" "I" (.int (8 : Int32))) (Z0 : n0 ≤ h0.size) : Con l Z y18 jdk_52_method_14_code 5 (some (.array .byte)) ({ frames := 2, cells := 1, slots := 8, locals := 24 } : Room) #[(.ref b1), (.int (0 : Int32)), (.int (4 : Int32))] h0 n0 (fun v h => ∃ d, v = some (.ref d) ∧ Keep h0 h [] ∧ Al Z h d .byte [(.int (((c0 >>> ((0 : Int32) &&& 31))).toInt8.toInt32)), (.int (((c0 >>> ((8 : Int32) &&& 31))).toInt8.toInt32)), (.int (((c1 >>> ((0 : Int32) &&& 31))).toInt8.toInt32)), (.int (((c1 >>> ((8 : Int32) &&& 31))).toInt8.toInt32)), (.int (((c2 >>> ((0 : Int32) &&& 31))).toInt8.toInt32)), (.int (((c2 >>> ((8 : Int32) &&& 31))).toInt8.toInt32)), (.int (((c3 >>> ((0 : Int32) &&& 31))).toInt8.toInt32)), (.int (((c3 >>> ((8 : Int32) &&& 31))).toInt8.toInt32))] ∧ h0.size ≤ d) := by
  refine Con.of pf_18 (fun m => ef_tb_4 m b1) ?_
  intro p e s m below meth c C
  have K0 : Keep h0 h0 [] := Keep.refl _ _
  refine W.iloadN C d18_0 rfl ?_
  refine W.callS C (y' := y19) d18_1 (tkw hw 88 rfl) (tkw hw 89 rfl) (tkw hw 55 rfl) (tkw hw 90 rfl) (by decide) (argsL := [(.int (4 : Int32))]) (rest := []) rfl (lenOf pd_17 rfl) (con_nf_4 l Z a0 hw h0 n0 Z0) 0 1 8 rfl rfl rfl (by decide) (by decide) (by decide) (by decide) rfl ?_
  rintro _ hp2 ⟨d1, rfl, Kc, Ld1, sz, ge_d1⟩
  have ne_b1_d1 : b1 ≠ d1 := Nat.ne_of_lt (Nat.lt_of_lt_of_le Ls.lt sz)
  have sz_d1 := Nat.le_trans K0.1 sz
  replace Ls := Ls.ext (ext0 Kc)
  replace S_A := S_A.ext (ext0 Kc)
  replace S_H := S_H.ext (ext0 Kc)
  replace S_L := S_L.ext (ext0 Kc)
  replace Z0 := Nat.le_trans Z0 (ext0 Kc).1
  replace K0 := K0.ext (ext0 Kc)
  refine W.astoreN C #[.val (.ref b1), .val (.int (0 : Int32)), .val (.int (4 : Int32)), .val (.ref d1), .unset] d18_4 rfl rfl ?_
  refine W.iconst C (0 : Int32) d18_5 rfl ?_
  refine W.istore C #[.val (.ref b1), .val (.int (0 : Int32)), .val (.int (4 : Int32)), .val (.ref d1), .val (.int (0 : Int32))] d18_6 rfl ?_
  refine W.iload C d18_8 rfl ?_
  refine W.iloadN C d18_10 rfl ?_
  refine W.icmp_ge C 32 d18_11 rfl (fun b => absurd b (by decide)) (fun _ => ?_)
  refine W.aloadN C d18_14 rfl rfl ?_
  refine W.iload C d18_15 rfl ?_
  refine W.aloadN C d18_17 rfl rfl ?_
  refine W.iloadN C d18_18 rfl ?_
  refine W.caload C 0 d18_19 Ls rfl rfl ?_
  refine W.callS C (y' := y21) d18_20 (tkw hw 95 rfl) (tkw hw 96 rfl) (tkw hw 55 rfl) (tkw hw 97 rfl) (by decide) (argsL := [(.ref d1), (.int (0 : Int32)), (.int c0)]) (rest := []) rfl (lenOf pd_18 rfl) (con_pt_0 l Z a0 hw hp2 n0 d1 c0 [(.int (0 : Int32)), (.int (0 : Int32)), (.int (0 : Int32)), (.int (0 : Int32)), (.int (0 : Int32)), (.int (0 : Int32)), (.int (0 : Int32)), (.int (0 : Int32))] ge_d1 (show (1 : Nat) < 8 by decide) Ld1 S_A S_H S_L Z0) 0 1 8 rfl rfl rfl (by decide) (by decide) (by decide) (by decide) rfl ?_
  rintro _ hp3 ⟨rfl, Kc, L_⟩
  replace S_A := own_sa2 S_A Ld1 Kc
  replace S_H := own_sa2 S_H Ld1 Kc
  replace S_L := own_sa2 S_L Ld1 Kc
  replace Ls := Ls.keep Kc (ninS ne_b1_d1 nin0)
  replace Z0 := Nat.le_trans Z0 Kc.1
  replace K0 := K0.trans Kc (allS (Or.inr sz_d1) all0)
  replace Ld1 : Al Z hp3 d1 .byte [(.int (((c0 >>> ((0 : Int32) &&& 31))).toInt8.toInt32)), (.int (((c0 >>> ((8 : Int32) &&& 31))).toInt8.toInt32)), (.int (0 : Int32)), (.int (0 : Int32)), (.int (0 : Int32)), (.int (0 : Int32)), (.int (0 : Int32)), (.int (0 : Int32))] := L_
  refine W.iinc C (1 : Int32) #[.val (.ref b1), .val (.int (1 : Int32)), .val (.int (4 : Int32)), .val (.ref d1), .val (.int (0 : Int32))] d18_23 rfl rfl rfl ?_
  refine W.iinc C (1 : Int32) #[.val (.ref b1), .val (.int (1 : Int32)), .val (.int (4 : Int32)), .val (.ref d1), .val (.int (1 : Int32))] d18_26 rfl rfl rfl ?_
  refine W.goto C 8 d18_29 rfl ?_
  refine W.iload C d18_8 rfl ?_
  refine W.iloadN C d18_10 rfl ?_
  refine W.icmp_ge C 32 d18_11 rfl (fun b => absurd b (by decide)) (fun _ => ?_)
  refine W.aloadN C d18_14 rfl rfl ?_
  refine W.iload C d18_15 rfl ?_
  refine W.aloadN C d18_17 rfl rfl ?_
  refine W.iloadN C d18_18 rfl ?_
  refine W.caload C 1 d18_19 Ls rfl rfl ?_
  refine W.callS C (y' := y21) d18_20 (tkw hw 95 rfl) (tkw hw 96 rfl) (tkw hw 55 rfl) (tkw hw 97 rfl) (by decide) (argsL := [(.ref d1), (.int (1 : Int32)), (.int c1)]) (rest := []) rfl (lenOf pd_18 rfl) (con_pt_1 l Z a0 hw hp3 n0 d1 c1 [(.int (((c0 >>> ((0 : Int32) &&& 31))).toInt8.toInt32)), (.int (((c0 >>> ((8 : Int32) &&& 31))).toInt8.toInt32)), (.int (0 : Int32)), (.int (0 : Int32)), (.int (0 : Int32)), (.int (0 : Int32)), (.int (0 : Int32)), (.int (0 : Int32))] ge_d1 (show (3 : Nat) < 8 by decide) Ld1 S_A S_H S_L Z0) 0 1 8 rfl rfl rfl (by decide) (by decide) (by decide) (by decide) rfl ?_
  rintro _ hp4 ⟨rfl, Kc, L_⟩
  replace S_A := own_sa2 S_A Ld1 Kc
  replace S_H := own_sa2 S_H Ld1 Kc
  replace S_L := own_sa2 S_L Ld1 Kc
  replace Ls := Ls.keep Kc (ninS ne_b1_d1 nin0)
  replace Z0 := Nat.le_trans Z0 Kc.1
  replace K0 := K0.trans Kc (allS (Or.inr sz_d1) all0)
  replace Ld1 : Al Z hp4 d1 .byte [(.int (((c0 >>> ((0 : Int32) &&& 31))).toInt8.toInt32)), (.int (((c0 >>> ((8 : Int32) &&& 31))).toInt8.toInt32)), (.int (((c1 >>> ((0 : Int32) &&& 31))).toInt8.toInt32)), (.int (((c1 >>> ((8 : Int32) &&& 31))).toInt8.toInt32)), (.int (0 : Int32)), (.int (0 : Int32)), (.int (0 : Int32)), (.int (0 : Int32))] := L_
  refine W.iinc C (2 : Int32) #[.val (.ref b1), .val (.int (2 : Int32)), .val (.int (4 : Int32)), .val (.ref d1), .val (.int (1 : Int32))] d18_23 rfl rfl rfl ?_
  refine W.iinc C (2 : Int32) #[.val (.ref b1), .val (.int (2 : Int32)), .val (.int (4 : Int32)), .val (.ref d1), .val (.int (2 : Int32))] d18_26 rfl rfl rfl ?_
  refine W.goto C 8 d18_29 rfl ?_
  refine W.iload C d18_8 rfl ?_
  refine W.iloadN C d18_10 rfl ?_
  refine W.icmp_ge C 32 d18_11 rfl (fun b => absurd b (by decide)) (fun _ => ?_)
  refine W.aloadN C d18_14 rfl rfl ?_
  refine W.iload C d18_15 rfl ?_
  refine W.aloadN C d18_17 rfl rfl ?_
  refine W.iloadN C d18_18 rfl ?_
  refine W.caload C 2 d18_19 Ls rfl rfl ?_
  refine W.callS C (y' := y21) d18_20 (tkw hw 95 rfl) (tkw hw 96 rfl) (tkw hw 55 rfl) (tkw hw 97 rfl) (by decide) (argsL := [(.ref d1), (.int (2 : Int32)), (.int c2)]) (rest := []) rfl (lenOf pd_18 rfl) (con_pt_2 l Z a0 hw hp4 n0 d1 c2 [(.int (((c0 >>> ((0 : Int32) &&& 31))).toInt8.toInt32)), (.int (((c0 >>> ((8 : Int32) &&& 31))).toInt8.toInt32)), (.int (((c1 >>> ((0 : Int32) &&& 31))).toInt8.toInt32)), (.int (((c1 >>> ((8 : Int32) &&& 31))).toInt8.toInt32)), (.int (0 : Int32)), (.int (0 : Int32)), (.int (0 : Int32)), (.int (0 : Int32))] ge_d1 (show (5 : Nat) < 8 by decide) Ld1 S_A S_H S_L Z0) 0 1 8 rfl rfl rfl (by decide) (by decide) (by decide) (by decide) rfl ?_
  rintro _ hp5 ⟨rfl, Kc, L_⟩
  replace S_A := own_sa2 S_A Ld1 Kc
  replace S_H := own_sa2 S_H Ld1 Kc
  replace S_L := own_sa2 S_L Ld1 Kc
  replace Ls := Ls.keep Kc (ninS ne_b1_d1 nin0)
  replace Z0 := Nat.le_trans Z0 Kc.1
  replace K0 := K0.trans Kc (allS (Or.inr sz_d1) all0)
  replace Ld1 : Al Z hp5 d1 .byte [(.int (((c0 >>> ((0 : Int32) &&& 31))).toInt8.toInt32)), (.int (((c0 >>> ((8 : Int32) &&& 31))).toInt8.toInt32)), (.int (((c1 >>> ((0 : Int32) &&& 31))).toInt8.toInt32)), (.int (((c1 >>> ((8 : Int32) &&& 31))).toInt8.toInt32)), (.int (((c2 >>> ((0 : Int32) &&& 31))).toInt8.toInt32)), (.int (((c2 >>> ((8 : Int32) &&& 31))).toInt8.toInt32)), (.int (0 : Int32)), (.int (0 : Int32))] := L_
  refine W.iinc C (3 : Int32) #[.val (.ref b1), .val (.int (3 : Int32)), .val (.int (4 : Int32)), .val (.ref d1), .val (.int (2 : Int32))] d18_23 rfl rfl rfl ?_
  refine W.iinc C (3 : Int32) #[.val (.ref b1), .val (.int (3 : Int32)), .val (.int (4 : Int32)), .val (.ref d1), .val (.int (3 : Int32))] d18_26 rfl rfl rfl ?_
  refine W.goto C 8 d18_29 rfl ?_
  refine W.iload C d18_8 rfl ?_
  refine W.iloadN C d18_10 rfl ?_
  refine W.icmp_ge C 32 d18_11 rfl (fun b => absurd b (by decide)) (fun _ => ?_)
  refine W.aloadN C d18_14 rfl rfl ?_
  refine W.iload C d18_15 rfl ?_
  refine W.aloadN C d18_17 rfl rfl ?_
  refine W.iloadN C d18_18 rfl ?_
  refine W.caload C 3 d18_19 Ls rfl rfl ?_
  refine W.callS C (y' := y21) d18_20 (tkw hw 95 rfl) (tkw hw 96 rfl) (tkw hw 55 rfl) (tkw hw 97 rfl) (by decide) (argsL := [(.ref d1), (.int (3 : Int32)), (.int c3)]) (rest := []) rfl (lenOf pd_18 rfl) (con_pt_3 l Z a0 hw hp5 n0 d1 c3 [(.int (((c0 >>> ((0 : Int32) &&& 31))).toInt8.toInt32)), (.int (((c0 >>> ((8 : Int32) &&& 31))).toInt8.toInt32)), (.int (((c1 >>> ((0 : Int32) &&& 31))).toInt8.toInt32)), (.int (((c1 >>> ((8 : Int32) &&& 31))).toInt8.toInt32)), (.int (((c2 >>> ((0 : Int32) &&& 31))).toInt8.toInt32)), (.int (((c2 >>> ((8 : Int32) &&& 31))).toInt8.toInt32)), (.int (0 : Int32)), (.int (0 : Int32))] ge_d1 (show (7 : Nat) < 8 by decide) Ld1 S_A S_H S_L Z0) 0 1 8 rfl rfl rfl (by decide) (by decide) (by decide) (by decide) rfl ?_
  rintro _ hp6 ⟨rfl, Kc, L_⟩
  replace S_A := own_sa2 S_A Ld1 Kc
  replace S_H := own_sa2 S_H Ld1 Kc
  replace S_L := own_sa2 S_L Ld1 Kc
  replace Ls := Ls.keep Kc (ninS ne_b1_d1 nin0)
  replace Z0 := Nat.le_trans Z0 Kc.1
  replace K0 := K0.trans Kc (allS (Or.inr sz_d1) all0)
  replace Ld1 : Al Z hp6 d1 .byte [(.int (((c0 >>> ((0 : Int32) &&& 31))).toInt8.toInt32)), (.int (((c0 >>> ((8 : Int32) &&& 31))).toInt8.toInt32)), (.int (((c1 >>> ((0 : Int32) &&& 31))).toInt8.toInt32)), (.int (((c1 >>> ((8 : Int32) &&& 31))).toInt8.toInt32)), (.int (((c2 >>> ((0 : Int32) &&& 31))).toInt8.toInt32)), (.int (((c2 >>> ((8 : Int32) &&& 31))).toInt8.toInt32)), (.int (((c3 >>> ((0 : Int32) &&& 31))).toInt8.toInt32)), (.int (((c3 >>> ((8 : Int32) &&& 31))).toInt8.toInt32))] := L_
  refine W.iinc C (4 : Int32) #[.val (.ref b1), .val (.int (4 : Int32)), .val (.int (4 : Int32)), .val (.ref d1), .val (.int (3 : Int32))] d18_23 rfl rfl rfl ?_
  refine W.iinc C (4 : Int32) #[.val (.ref b1), .val (.int (4 : Int32)), .val (.int (4 : Int32)), .val (.ref d1), .val (.int (4 : Int32))] d18_26 rfl rfl rfl ?_
  refine W.goto C 8 d18_29 rfl ?_
  refine W.iload C d18_8 rfl ?_
  refine W.iloadN C d18_10 rfl ?_
  refine W.icmp_ge C 32 d18_11 rfl (fun _ => ?_) (fun b => absurd b (by decide))
  refine W.aloadN C d18_32 rfl rfl ?_
  exact W.aret C d18_33 rfl rfl rfl (FN.ok (by decide) (by decide) ⟨d1, rfl, K0, Ld1, sz_d1⟩)

theorem ef_cou_4 (m : MethodId) (d1 : Addr) : entryFrame m #[(.ref d1), (.int (4 : Int32))] 2 = mkF m 0 #[.val (.ref d1), .val (.int (4 : Int32))] [] := by first | (simp [entryFrame, mkF, argsToLocals, Value.category]; done) | rfl
set_option maxRecDepth 65536 in
set_option maxHeartbeats 40000000 in
theorem con_cou_4 (l : Launch) (Z : State) (a0 : Array Value) (hw : ∀ d ∈ tables_1, d.before a0 Z = true) (h0 : Heap) (n0 : Nat) (d1 : Addr) (c0 c1 c2 c3 : Int32) (Ld : Al Z h0 d1 .byte [(.int (((c0 >>> ((0 : Int32) &&& 31))).toInt8.toInt32)), (.int (((c0 >>> ((8 : Int32) &&& 31))).toInt8.toInt32)), (.int (((c1 >>> ((0 : Int32) &&& 31))).toInt8.toInt32)), (.int (((c1 >>> ((8 : Int32) &&& 31))).toInt8.toInt32)), (.int (((c2 >>> ((0 : Int32) &&& 31))).toInt8.toInt32)), (.int (((c2 >>> ((8 : Int32) &&& 31))).toInt8.toInt32)), (.int (((c3 >>> ((0 : Int32) &&& 31))).toInt8.toInt32)), (.int (((c3 >>> ((8 : Int32) &&& 31))).toInt8.toInt32))]) (Z0 : n0 ≤ h0.size) : Con l Z y12 jdk_52_method_15_code 2 (some .byte) ({ frames := 0, cells := 0, slots := 0, locals := 0 } : Room) #[(.ref d1), (.int (4 : Int32))] h0 n0 (Pu (some (.int 1)) h0) := by
  refine Con.of pf_12 (fun m => ef_cou_4 m d1) ?_
  intro p e s m below meth c C
  refine W.iloadN C d12_0 rfl ?_
  refine W.aloadN C d12_1 rfl rfl ?_
  refine W.arrlen C (8 : Int32) d12_2 Ld rfl ?_
  refine W.isubV C (-4 : Int32) d12_3 (by decide) ?_
  refine W.bipush C (31 : Int32) d12_4 rfl ?_
  refine W.iushrV C (1 : Int32) d12_6 (by decide) ?_
  refine W.i2bV C (1 : Int32) d12_7 (by decide) ?_
  exact W.iret C d12_8 (by simp) rfl (FN.ok (by decide) (by decide) ⟨rfl, rfl⟩)

theorem ef_c4_4_0 (m : MethodId) (b1 : Addr) (d1 : Addr) : entryFrame m #[(.ref b1), (.int (0 : Int32)), (.ref d1), (.int (0 : Int32)), (.int (4 : Int32))] 7 = mkF m 0 #[.val (.ref b1), .val (.int (0 : Int32)), .val (.ref d1), .val (.int (0 : Int32)), .val (.int (4 : Int32)), .unset, .unset] [] := by first | (simp [entryFrame, mkF, argsToLocals, Value.category]; done) | rfl
set_option maxRecDepth 65536 in
set_option maxHeartbeats 40000000 in
theorem con_c4_4_0 (l : Launch) (Z : State) (a0 : Array Value) (hw : ∀ d ∈ tables_1, d.before a0 Z = true) (h0 : Heap) (n0 : Nat) (b1 : Addr) (d1 : Addr) (c0 c1 c2 c3 : Int32)  (hj : (255 : Int32) < c0) (ne_b1_d1 : b1 ≠ d1) (g_d1 : n0 ≤ d1) (Ls : Al Z h0 b1 .char [(.int c0), (.int c1), (.int c2), (.int c3)]) (Ld : Al Z h0 d1 .byte [(.int (0 : Int32)), (.int (0 : Int32)), (.int (0 : Int32)), (.int (0 : Int32))]) (Z0 : n0 ≤ h0.size) : Con l Z y11 jdk_52_method_21_code 7 (some .int) ({ frames := 0, cells := 0, slots := 0, locals := 0 } : Room) #[(.ref b1), (.int (0 : Int32)), (.ref d1), (.int (0 : Int32)), (.int (4 : Int32))] h0 n0 (fun v h => v = some (.int 0) ∧ Keep h0 h [d1]) := by
  refine Con.of pf_11 (fun m => ef_c4_4_0 m b1 d1) ?_
  intro p e s m below meth c C
  have K0 : Keep h0 h0 [d1] := Keep.refl _ _
  refine W.iconst C (0 : Int32) d11_0 rfl ?_
  refine W.istore C #[.val (.ref b1), .val (.int (0 : Int32)), .val (.ref d1), .val (.int (0 : Int32)), .val (.int (4 : Int32)), .val (.int (0 : Int32)), .unset] d11_1 rfl ?_
  refine W.iload C d11_3 rfl ?_
  refine W.iload C d11_5 rfl ?_
  refine W.icmp_ge C 44 d11_7 rfl (fun b => absurd b (by decide)) (fun _ => ?_)
  refine W.aloadN C d11_10 rfl rfl ?_
  refine W.iloadN C d11_11 rfl ?_
  refine W.caload C 0 d11_12 Ls rfl rfl ?_
  refine W.istore C #[.val (.ref b1), .val (.int (0 : Int32)), .val (.ref d1), .val (.int (0 : Int32)), .val (.int (4 : Int32)), .val (.int (0 : Int32)), .val (.int c0)] d11_13 rfl ?_
  refine W.iload C d11_15 rfl ?_
  refine W.sipush C (255 : Int32) d11_17 rfl ?_
  refine W.icmp_le C 26 d11_20 rfl (fun bq1 => absurd hj bq1) (fun bq1 => ?_)
  refine W.iload C d11_23 rfl ?_
  exact W.iret C d11_25 (by simp) rfl (FN.ok (by decide) (by decide) ⟨rfl, K0⟩)

theorem ef_c3_4_0 (m : MethodId) (b1 : Addr) : entryFrame m #[(.ref b1), (.int (0 : Int32)), (.int (4 : Int32))] 6 = mkF m 0 #[.val (.ref b1), .val (.int (0 : Int32)), .val (.int (4 : Int32)), .unset, .unset, .unset] [] := by first | (simp [entryFrame, mkF, argsToLocals, Value.category]; done) | rfl
set_option maxRecDepth 65536 in
set_option maxHeartbeats 40000000 in
theorem con_c3_4_0 (l : Launch) (Z : State) (a0 : Array Value) (hw : ∀ d ∈ tables_1, d.before a0 Z = true) (h0 : Heap) (n0 : Nat) (b1 : Addr) (c0 c1 c2 c3 : Int32)  (hj : (255 : Int32) < c0) (hr : 0 ≤ c0.toInt ∧ c0.toInt < 65536) (Ls : Al Z h0 b1 .char [(.int c0), (.int c1), (.int c2), (.int c3)]) (S_A : Sta Z h0 "java/lang/StringUTF16" "$assertionsDisabled" "Z" (.int (1 : Int32))) (S_H : Sta Z h0 "java/lang/StringUTF16" "HI_BYTE_SHIFT" "I" (.int (0 : Int32))) (S_L : Sta Z h0 "java/lang/StringUTF16" "LO_BYTE_SHIFT" "I" (.int (8 : Int32))) (Z0 : n0 ≤ h0.size) : Con l Z y10 jdk_52_method_16_code 6 (some (.array .byte)) ({ frames := 3, cells := 2, slots := 12, locals := 40 } : Room) #[(.ref b1), (.int (0 : Int32)), (.int (4 : Int32))] h0 n0 (fun v h => ∃ d, v = some (.ref d) ∧ Keep h0 h [] ∧ Al Z h d .byte [(.int (((c0 >>> ((0 : Int32) &&& 31))).toInt8.toInt32)), (.int (((c0 >>> ((8 : Int32) &&& 31))).toInt8.toInt32)), (.int (((c1 >>> ((0 : Int32) &&& 31))).toInt8.toInt32)), (.int (((c1 >>> ((8 : Int32) &&& 31))).toInt8.toInt32)), (.int (((c2 >>> ((0 : Int32) &&& 31))).toInt8.toInt32)), (.int (((c2 >>> ((8 : Int32) &&& 31))).toInt8.toInt32)), (.int (((c3 >>> ((0 : Int32) &&& 31))).toInt8.toInt32)), (.int (((c3 >>> ((8 : Int32) &&& 31))).toInt8.toInt32))] ∧ h0.size ≤ d) := by
  refine Con.of pf_10 (fun m => ef_c3_4_0 m b1) ?_
  intro p e s m below meth c C
  have K0 : Keep h0 h0 [] := Keep.refl _ _
  refine W.iloadN C d10_0 rfl ?_
  refine W.newP C 4 4 d10_1 (tkw hw 21 rfl) rfl (Nat.le_refl _) (by decide) 1 4 rfl rfl (by decide) (by decide) ?_
  intro ob1 hp2 hob1 Eob1 Lob1
  have ne_b1_ob1 : b1 ≠ ob1 := Nat.ne_of_lt (by rw [hob1]; exact Ls.lt)
  have ge_ob1 : n0 ≤ ob1 := by rw [hob1]; exact Z0
  have sz_ob1 : h0.size ≤ ob1 := by rw [hob1]; exact K0.1
  replace Ls := Ls.ext Eob1
  replace S_A := S_A.ext Eob1
  replace S_H := S_H.ext Eob1
  replace S_L := S_L.ext Eob1
  replace Z0 := Nat.le_trans Z0 Eob1.1
  replace K0 := K0.ext Eob1
  replace Lob1 : Al Z hp2 ob1 .byte [(.int (0 : Int32)), (.int (0 : Int32)), (.int (0 : Int32)), (.int (0 : Int32))] := Lob1
  refine W.astoreN C #[.val (.ref b1), .val (.int (0 : Int32)), .val (.int (4 : Int32)), .val (.ref ob1), .unset, .unset] d10_3 rfl rfl ?_
  refine W.aloadN C d10_4 rfl rfl ?_
  refine W.iloadN C d10_5 rfl ?_
  refine W.aloadN C d10_6 rfl rfl ?_
  refine W.iconst C (0 : Int32) d10_7 rfl ?_
  refine W.iloadN C d10_8 rfl ?_
  refine W.callS C (y' := y11) d10_9 (tkw hw 57 rfl) (tkw hw 58 rfl) (tkw hw 55 rfl) (tkw hw 59 rfl) (by decide) (argsL := [(.ref b1), (.int (0 : Int32)), (.ref ob1), (.int (0 : Int32)), (.int (4 : Int32))]) (rest := []) rfl (lenOf pd_11 rfl) (con_c4_4_0 l Z a0 hw hp2 n0 b1 ob1 c0 c1 c2 c3  hj ne_b1_ob1 ge_ob1 Ls Lob1 Z0) 0 1 4 rfl rfl rfl (by decide) (by decide) (by decide) (by decide) rfl ?_
  rintro _ hp3 ⟨rfl, Kc⟩
  replace S_A := own_sa2 S_A Lob1 Kc
  replace S_H := own_sa2 S_H Lob1 Kc
  replace S_L := own_sa2 S_L Lob1 Kc
  replace Ls := Ls.keep Kc (ninS ne_b1_ob1 nin0)
  replace Z0 := Nat.le_trans Z0 Kc.1
  replace K0 := K0.trans Kc (allS (Or.inr sz_ob1) all0)
  refine W.istore C #[.val (.ref b1), .val (.int (0 : Int32)), .val (.int (4 : Int32)), .val (.ref ob1), .val (.int (0 : Int32)), .unset] d10_12 rfl ?_
  refine W.iload C d10_14 rfl ?_
  refine W.iloadN C d10_16 rfl ?_
  refine W.icmp_eq C 57 d10_17 rfl (fun b => absurd b (by decide)) (fun _ => ?_)
  refine W.aloadN C d10_20 rfl rfl ?_
  refine W.iloadN C d10_21 rfl ?_
  refine W.iloadN C d10_22 rfl ?_
  refine W.callS C (y' := y18) d10_23 (tkw hw 85 rfl) (tkw hw 86 rfl) (tkw hw 55 rfl) (tkw hw 87 rfl) (by decide) (argsL := [(.ref b1), (.int (0 : Int32)), (.int (4 : Int32))]) (rest := []) rfl (lenOf pd_12 rfl) (con_tb_4 l Z a0 hw hp3 n0 b1 c0 c1 c2 c3 Ls S_A S_H S_L Z0) 0 2 12 rfl rfl rfl (by decide) (by decide) (by decide) (by decide) rfl ?_
  rintro _ hp5 ⟨d4, rfl, Kc, Ld4, sz⟩
  have sz_d4 := Nat.le_trans K0.1 sz
  replace Ls := Ls.ext (ext0 Kc)
  replace Z0 := Nat.le_trans Z0 (ext0 Kc).1
  replace K0 := K0.ext (ext0 Kc)
  replace S_A := S_A.ext (ext0 Kc)
  replace S_H := S_H.ext (ext0 Kc)
  replace S_L := S_L.ext (ext0 Kc)
  refine W.astore C #[.val (.ref b1), .val (.int (0 : Int32)), .val (.int (4 : Int32)), .val (.ref ob1), .val (.int (0 : Int32)), .val (.ref d4)] d10_26 rfl rfl ?_
  refine W.aload C d10_28 rfl rfl ?_
  refine W.iload C d10_30 rfl ?_
  refine W.callS C (y' := y22) d10_32 (tkw hw 101 rfl) (tkw hw 102 rfl) (tkw hw 55 rfl) (tkw hw 103 rfl) (by decide) (argsL := [(.ref d4), (.int (0 : Int32))]) (rest := []) rfl (lenOf pd_4 rfl) (con_gc_0 l Z a0 hw hp5 n0 d4 _ c0 hr.1 hr.2 rfl rfl Ld4 S_A S_H S_L Z0) 0 2 12 rfl rfl rfl (by decide) (by decide) (by decide) (by decide) rfl ?_
  rintro _ _ ⟨rfl, rfl⟩
  refine W.sipush C (255 : Int32) d10_35 rfl ?_
  refine W.icmp_gt C 54 d10_38 rfl (fun bq1 => ?_) (fun bq1 => absurd hj bq1)
  refine W.aload C d10_54 rfl rfl ?_
  exact W.aret C d10_56 rfl rfl rfl (FN.ok (by decide) (by decide) ⟨d4, rfl, K0, Ld4, sz_d4⟩)

theorem ef_i4_4_0 (m : MethodId) (a1 : Addr) (b1 : Addr) : entryFrame m #[(.ref a1), (.ref b1), (.int (0 : Int32)), (.int (4 : Int32)), .null] 6 = mkF m 0 #[.val (.ref a1), .val (.ref b1), .val (.int (0 : Int32)), .val (.int (4 : Int32)), .val .null, .unset] [] := by first | (simp [entryFrame, mkF, argsToLocals, Value.category]; done) | rfl
set_option maxRecDepth 65536 in
set_option maxHeartbeats 40000000 in
theorem con_i4_4_0 (l : Launch) (Z : State) (a0 : Array Value) (hw : ∀ d ∈ tables_1, d.before a0 Z = true) (h0 : Heap) (n0 : Nat) (a1 : Addr) (b1 : Addr) (c0 c1 c2 c3 : Int32)  (hj : (255 : Int32) < c0) (hr : 0 ≤ c0.toInt ∧ c0.toInt < 65536) (u0 u1 : Value) (cv : Int32) (ne_a1_b1 : a1 ≠ b1) (g_a1 : n0 ≤ a1) (E_a1 : Exa Z h0 a1 "java/lang/String") (Fv : Fld Z h0 a1 "java/lang/String" "value" "[B" u0) (Fc : Fld Z h0 a1 "java/lang/String" "coder" "B" u1) (Ls : Al Z h0 b1 .char [(.int c0), (.int c1), (.int c2), (.int c3)]) (S_C : Sta Z h0 "java/lang/String" "COMPACT_STRINGS" "Z" (.int cv)) (hcv : ¬ cv = 0) (S_A : Sta Z h0 "java/lang/StringUTF16" "$assertionsDisabled" "Z" (.int (1 : Int32))) (S_H : Sta Z h0 "java/lang/StringUTF16" "HI_BYTE_SHIFT" "I" (.int (0 : Int32))) (S_L : Sta Z h0 "java/lang/StringUTF16" "LO_BYTE_SHIFT" "I" (.int (8 : Int32))) (Z0 : n0 ≤ h0.size) : Con l Z y3 jdk_42_method_149_code 6 none ({ frames := 4, cells := 2, slots := 12, locals := 57 } : Room) #[(.ref a1), (.ref b1), (.int (0 : Int32)), (.int (4 : Int32)), .null] h0 n0 (fun v h => v = none ∧ Keep h0 h [a1] ∧ Exa Z h a1 "java/lang/String" ∧ ∃ d, Fld Z h a1 "java/lang/String" "value" "[B" (.ref d) ∧ Fld Z h a1 "java/lang/String" "coder" "B" (.int 1) ∧ Al Z h d .byte [(.int (((c0 >>> ((0 : Int32) &&& 31))).toInt8.toInt32)), (.int (((c0 >>> ((8 : Int32) &&& 31))).toInt8.toInt32)), (.int (((c1 >>> ((0 : Int32) &&& 31))).toInt8.toInt32)), (.int (((c1 >>> ((8 : Int32) &&& 31))).toInt8.toInt32)), (.int (((c2 >>> ((0 : Int32) &&& 31))).toInt8.toInt32)), (.int (((c2 >>> ((8 : Int32) &&& 31))).toInt8.toInt32)), (.int (((c3 >>> ((0 : Int32) &&& 31))).toInt8.toInt32)), (.int (((c3 >>> ((8 : Int32) &&& 31))).toInt8.toInt32))]) := by
  refine Con.of pf_3 (fun m => ef_i4_4_0 m a1 b1) ?_
  intro p e s m below meth c C
  have K0 : Keep h0 h0 [a1] := Keep.refl _ _
  refine W.aloadN C d3_0 rfl rfl ?_
  refine W.initO C d3_1 (tkw hw 17 rfl) (tkw hw 18 rfl) (tkw hw 19 rfl) 0 rfl (by decide) (by decide) rfl ?_
  refine W.iloadN C d3_4 rfl ?_
  refine W.if_ne C 27 d3_5 rfl (fun _ => ?_) (fun b => absurd b (by decide))
  refine W.getS C d3_27 (tkw hw 51 rfl) Via.refl S_C ?_
  refine W.if_eq C 58 d3_30 rfl (fun bq1 => absurd bq1 hcv) (fun bq1 => ?_)
  refine W.aloadN C d3_33 rfl rfl ?_
  refine W.iloadN C d3_34 rfl ?_
  refine W.iloadN C d3_35 rfl ?_
  refine W.callS C (y' := y10) d3_36 (tkw hw 53 rfl) (tkw hw 54 rfl) (tkw hw 55 rfl) (tkw hw 56 rfl) (by decide) (argsL := [(.ref b1), (.int (0 : Int32)), (.int (4 : Int32))]) (rest := []) rfl (lenOf pd_12 rfl) (con_c3_4_0 l Z a0 hw h0 n0 b1 c0 c1 c2 c3  hj hr Ls S_A S_H S_L Z0) 0 2 12 rfl rfl rfl (by decide) (by decide) (by decide) (by decide) rfl ?_
  rintro _ hp2 ⟨d1, rfl, Kc, Ld1, sz⟩
  have ne_a1_d1 : a1 ≠ d1 := Nat.ne_of_lt (Nat.lt_of_lt_of_le E_a1.lt sz)
  replace E_a1 := E_a1.ext (ext0 Kc)
  replace Fv := Fv.ext (ext0 Kc)
  replace Fc := Fc.ext (ext0 Kc)
  replace Ls := Ls.ext (ext0 Kc)
  replace S_A := S_A.ext (ext0 Kc)
  replace S_H := S_H.ext (ext0 Kc)
  replace S_L := S_L.ext (ext0 Kc)
  replace S_C := S_C.ext (ext0 Kc)
  replace Z0 := Nat.le_trans Z0 (ext0 Kc).1
  replace K0 := K0.ext (ext0 Kc)
  refine W.astore C #[.val (.ref a1), .val (.ref b1), .val (.int (0 : Int32)), .val (.int (4 : Int32)), .val .null, .val (.ref d1)] d3_39 rfl rfl ?_
  refine W.aloadN C d3_41 rfl rfl ?_
  refine W.aload C d3_42 rfl rfl ?_
  refine W.iloadN C d3_44 rfl ?_
  refine W.callS C (y' := y12) d3_45 (tkw hw 60 rfl) (tkw hw 61 rfl) (tkw hw 55 rfl) (tkw hw 62 rfl) (by decide) (argsL := [(.ref d1), (.int (4 : Int32))]) (rest := [(.ref a1)]) rfl (lenOf pd_14 rfl) (con_cou_4 l Z a0 hw hp2 n0 d1 c0 c1 c2 c3 Ld1 Z0) 1 2 12 rfl rfl rfl (by decide) (by decide) (by decide) (by decide) rfl ?_
  rintro _ _ ⟨rfl, rfl⟩
  refine W.putF C d3_48 (tkw hw 27 rfl) Via.refl Fc E_a1 (Or.inr ⟨(tkw hw 23 rfl), rfl, rfl⟩) (tkw hw 7 rfl) (ty := .byte) (by decide) rfl rfl g_a1 ?_
  intro hp3 U4
  replace Fc := Fc.same U4
  replace E_a1 := E_a1.wr U4
  replace Fv := Fv.other U4 (Or.inr (slot_ne (Or.inr (tkw hw 22 rfl)) (Or.inr (tkw hw 23 rfl)) (by decide) (t := (.array .byte)) (t' := .byte) (by decide) (by decide)))
  replace Ls := Ls.other U4 (Ne.symm ne_a1_b1)
  replace S_A := S_A.wr U4
  replace S_H := S_H.wr U4
  replace S_L := S_L.wr U4
  replace S_C := S_C.wr U4
  replace Z0 := Nat.le_trans Z0 (Nat.le_of_eq (U4.size).symm)
  replace K0 := K0.wr U4 (Or.inl (List.mem_of_getElem? (i := 0) rfl))
  replace Ld1 := Ld1.other U4 (Ne.symm ne_a1_d1)
  refine W.aloadN C d3_51 rfl rfl ?_
  refine W.aload C d3_52 rfl rfl ?_
  refine W.putF C d3_54 (tkw hw 26 rfl) Via.refl Fv E_a1 (Or.inr ⟨(tkw hw 22 rfl), rfl, rfl⟩) (tkw hw 7 rfl) (ty := (.array .byte)) (by decide) rfl rfl g_a1 ?_
  intro hp5 U6
  replace Fv := Fv.same U6
  replace E_a1 := E_a1.wr U6
  replace Fc := Fc.other U6 (Or.inr (slot_ne (Or.inr (tkw hw 23 rfl)) (Or.inr (tkw hw 22 rfl)) (by decide) (t := .byte) (t' := (.array .byte)) (by decide) (by decide)))
  replace Ls := Ls.other U6 (Ne.symm ne_a1_b1)
  replace S_A := S_A.wr U6
  replace S_H := S_H.wr U6
  replace S_L := S_L.wr U6
  replace S_C := S_C.wr U6
  replace Z0 := Nat.le_trans Z0 (Nat.le_of_eq (U6.size).symm)
  replace K0 := K0.wr U6 (Or.inl (List.mem_of_getElem? (i := 0) rfl))
  replace Ld1 := Ld1.other U6 (Ne.symm ne_a1_d1)
  exact W.retV C d3_57 (FN.ok (by decide) (by decide) ⟨rfl, K0, E_a1, d1, Fv, Fc, Ld1⟩)

theorem ef_i1_4_0 (m : MethodId) (a1 : Addr) (b1 : Addr) : entryFrame m #[(.ref a1), (.ref b1)] 2 = mkF m 0 #[.val (.ref a1), .val (.ref b1)] [] := by first | (simp [entryFrame, mkF, argsToLocals, Value.category]; done) | rfl
set_option maxRecDepth 65536 in
set_option maxHeartbeats 40000000 in
theorem con_i1_4_0 (l : Launch) (Z : State) (a0 : Array Value) (hw : ∀ d ∈ tables_1, d.before a0 Z = true) (h0 : Heap) (n0 : Nat) (a1 : Addr) (b1 : Addr) (c0 c1 c2 c3 : Int32)  (hj : (255 : Int32) < c0) (hr : 0 ≤ c0.toInt ∧ c0.toInt < 65536) (u0 u1 : Value) (cv : Int32) (ne_a1_b1 : a1 ≠ b1) (g_a1 : n0 ≤ a1) (E_a1 : Exa Z h0 a1 "java/lang/String") (Fv : Fld Z h0 a1 "java/lang/String" "value" "[B" u0) (Fc : Fld Z h0 a1 "java/lang/String" "coder" "B" u1) (Ls : Al Z h0 b1 .char [(.int c0), (.int c1), (.int c2), (.int c3)]) (S_C : Sta Z h0 "java/lang/String" "COMPACT_STRINGS" "Z" (.int cv)) (hcv : ¬ cv = 0) (S_A : Sta Z h0 "java/lang/StringUTF16" "$assertionsDisabled" "Z" (.int (1 : Int32))) (S_H : Sta Z h0 "java/lang/StringUTF16" "HI_BYTE_SHIFT" "I" (.int (0 : Int32))) (S_L : Sta Z h0 "java/lang/StringUTF16" "LO_BYTE_SHIFT" "I" (.int (8 : Int32))) (Z0 : n0 ≤ h0.size) : Con l Z y2 jdk_42_method_3_code 2 none ({ frames := 5, cells := 2, slots := 12, locals := 74 } : Room) #[(.ref a1), (.ref b1)] h0 n0 (fun v h => v = none ∧ Keep h0 h [a1] ∧ Exa Z h a1 "java/lang/String" ∧ ∃ d, Fld Z h a1 "java/lang/String" "value" "[B" (.ref d) ∧ Fld Z h a1 "java/lang/String" "coder" "B" (.int 1) ∧ Al Z h d .byte [(.int (((c0 >>> ((0 : Int32) &&& 31))).toInt8.toInt32)), (.int (((c0 >>> ((8 : Int32) &&& 31))).toInt8.toInt32)), (.int (((c1 >>> ((0 : Int32) &&& 31))).toInt8.toInt32)), (.int (((c1 >>> ((8 : Int32) &&& 31))).toInt8.toInt32)), (.int (((c2 >>> ((0 : Int32) &&& 31))).toInt8.toInt32)), (.int (((c2 >>> ((8 : Int32) &&& 31))).toInt8.toInt32)), (.int (((c3 >>> ((0 : Int32) &&& 31))).toInt8.toInt32)), (.int (((c3 >>> ((8 : Int32) &&& 31))).toInt8.toInt32))]) := by
  refine Con.of pf_2 (fun m => ef_i1_4_0 m a1 b1) ?_
  intro p e s m below meth c C
  have K0 : Keep h0 h0 [a1] := Keep.refl _ _
  refine W.aloadN C d2_0 rfl rfl ?_
  refine W.aloadN C d2_1 rfl rfl ?_
  refine W.iconst C (0 : Int32) d2_2 rfl ?_
  refine W.aloadN C d2_3 rfl rfl ?_
  refine W.arrlen C (4 : Int32) d2_4 Ls rfl ?_
  refine W.aconstNull C d2_5 ?_
  refine W.callI C (y' := y3) d2_6 rfl (tkw hw 13 rfl) (tkw hw 14 rfl) (tkw hw 8 rfl) (tkw hw 16 rfl) (by decide) (a := a1) (argsL := [(.ref b1), (.int (0 : Int32)), (.int (4 : Int32)), .null]) (rest := []) rfl (lenOf pd_15 rfl) (con_i4_4_0 l Z a0 hw h0 n0 a1 b1 c0 c1 c2 c3  hj hr u0 u1 cv ne_a1_b1 g_a1 E_a1 Fv Fc Ls S_C hcv S_A S_H S_L Z0) 0 2 12 rfl rfl rfl (by decide) (by decide) (by decide) (by decide) rfl ?_
  rintro _ hp1 ⟨rfl, Kc, E_n, d, Fv_n, Fc_n, Ld⟩
  replace Ls := Ls.keep Kc (ninS (Ne.symm ne_a1_b1) nin0)
  replace Z0 := Nat.le_trans Z0 Kc.1
  replace K0 := K0.trans Kc (allS (Or.inl (List.mem_of_getElem? (i := 0) rfl)) all0)
  replace E_a1 := E_n
  replace Fv := Fv_n
  replace Fc := Fc_n
  exact W.retV C d2_9 (FN.ok (by decide) (by decide) ⟨rfl, K0, E_a1, d, Fv, Fc, Ld⟩)

theorem ef_c4_4_1 (m : MethodId) (b1 : Addr) (d1 : Addr) : entryFrame m #[(.ref b1), (.int (0 : Int32)), (.ref d1), (.int (0 : Int32)), (.int (4 : Int32))] 7 = mkF m 0 #[.val (.ref b1), .val (.int (0 : Int32)), .val (.ref d1), .val (.int (0 : Int32)), .val (.int (4 : Int32)), .unset, .unset] [] := by first | (simp [entryFrame, mkF, argsToLocals, Value.category]; done) | rfl
set_option maxRecDepth 65536 in
set_option maxHeartbeats 40000000 in
theorem con_c4_4_1 (l : Launch) (Z : State) (a0 : Array Value) (hw : ∀ d ∈ tables_1, d.before a0 Z = true) (h0 : Heap) (n0 : Nat) (b1 : Addr) (d1 : Addr) (c0 c1 c2 c3 : Int32) (hc0 : ¬ (255 : Int32) < c0) (hj : (255 : Int32) < c1) (ne_b1_d1 : b1 ≠ d1) (g_d1 : n0 ≤ d1) (Ls : Al Z h0 b1 .char [(.int c0), (.int c1), (.int c2), (.int c3)]) (Ld : Al Z h0 d1 .byte [(.int (0 : Int32)), (.int (0 : Int32)), (.int (0 : Int32)), (.int (0 : Int32))]) (Z0 : n0 ≤ h0.size) : Con l Z y11 jdk_52_method_21_code 7 (some .int) ({ frames := 0, cells := 0, slots := 0, locals := 0 } : Room) #[(.ref b1), (.int (0 : Int32)), (.ref d1), (.int (0 : Int32)), (.int (4 : Int32))] h0 n0 (fun v h => v = some (.int 1) ∧ Keep h0 h [d1]) := by
  refine Con.of pf_11 (fun m => ef_c4_4_1 m b1 d1) ?_
  intro p e s m below meth c C
  have K0 : Keep h0 h0 [d1] := Keep.refl _ _
  refine W.iconst C (0 : Int32) d11_0 rfl ?_
  refine W.istore C #[.val (.ref b1), .val (.int (0 : Int32)), .val (.ref d1), .val (.int (0 : Int32)), .val (.int (4 : Int32)), .val (.int (0 : Int32)), .unset] d11_1 rfl ?_
  refine W.iload C d11_3 rfl ?_
  refine W.iload C d11_5 rfl ?_
  refine W.icmp_ge C 44 d11_7 rfl (fun b => absurd b (by decide)) (fun _ => ?_)
  refine W.aloadN C d11_10 rfl rfl ?_
  refine W.iloadN C d11_11 rfl ?_
  refine W.caload C 0 d11_12 Ls rfl rfl ?_
  refine W.istore C #[.val (.ref b1), .val (.int (0 : Int32)), .val (.ref d1), .val (.int (0 : Int32)), .val (.int (4 : Int32)), .val (.int (0 : Int32)), .val (.int c0)] d11_13 rfl ?_
  refine W.iload C d11_15 rfl ?_
  refine W.sipush C (255 : Int32) d11_17 rfl ?_
  refine W.icmp_le C 26 d11_20 rfl (fun bq1 => ?_) (fun bq1 => absurd bq1 hc0)
  refine W.aloadN C d11_26 rfl rfl ?_
  refine W.iloadN C d11_27 rfl ?_
  refine W.iload C d11_28 rfl ?_
  refine W.i2b C d11_30 ?_
  refine W.bastoreI C 0 d11_31 Ld rfl (show (0 : Nat) < 4 by decide) g_d1 ?_
  intro hp1 U2 Ld_
  replace Ls := Ls.other U2 ne_b1_d1
  replace Z0 := Nat.le_trans Z0 (Nat.le_of_eq (U2.size).symm)
  replace K0 := K0.wr U2 (Or.inl (List.mem_of_getElem? (i := 0) rfl))
  replace Ld : Al Z hp1 d1 .byte [(.int ((c0).toInt8.toInt32)), (.int (0 : Int32)), (.int (0 : Int32)), (.int (0 : Int32))] := Ld_
  refine W.iinc C (1 : Int32) #[.val (.ref b1), .val (.int (1 : Int32)), .val (.ref d1), .val (.int (0 : Int32)), .val (.int (4 : Int32)), .val (.int (0 : Int32)), .val (.int c0)] d11_32 rfl rfl rfl ?_
  refine W.iinc C (1 : Int32) #[.val (.ref b1), .val (.int (1 : Int32)), .val (.ref d1), .val (.int (1 : Int32)), .val (.int (4 : Int32)), .val (.int (0 : Int32)), .val (.int c0)] d11_35 rfl rfl rfl ?_
  refine W.iinc C (1 : Int32) #[.val (.ref b1), .val (.int (1 : Int32)), .val (.ref d1), .val (.int (1 : Int32)), .val (.int (4 : Int32)), .val (.int (1 : Int32)), .val (.int c0)] d11_38 rfl rfl rfl ?_
  refine W.goto C 3 d11_41 rfl ?_
  refine W.iload C d11_3 rfl ?_
  refine W.iload C d11_5 rfl ?_
  refine W.icmp_ge C 44 d11_7 rfl (fun b => absurd b (by decide)) (fun _ => ?_)
  refine W.aloadN C d11_10 rfl rfl ?_
  refine W.iloadN C d11_11 rfl ?_
  refine W.caload C 1 d11_12 Ls rfl rfl ?_
  refine W.istore C #[.val (.ref b1), .val (.int (1 : Int32)), .val (.ref d1), .val (.int (1 : Int32)), .val (.int (4 : Int32)), .val (.int (1 : Int32)), .val (.int c1)] d11_13 rfl ?_
  refine W.iload C d11_15 rfl ?_
  refine W.sipush C (255 : Int32) d11_17 rfl ?_
  refine W.icmp_le C 26 d11_20 rfl (fun bq2 => absurd hj bq2) (fun bq2 => ?_)
  refine W.iload C d11_23 rfl ?_
  exact W.iret C d11_25 (by simp) rfl (FN.ok (by decide) (by decide) ⟨rfl, K0⟩)

theorem ef_c3_4_1 (m : MethodId) (b1 : Addr) : entryFrame m #[(.ref b1), (.int (0 : Int32)), (.int (4 : Int32))] 6 = mkF m 0 #[.val (.ref b1), .val (.int (0 : Int32)), .val (.int (4 : Int32)), .unset, .unset, .unset] [] := by first | (simp [entryFrame, mkF, argsToLocals, Value.category]; done) | rfl
set_option maxRecDepth 65536 in
set_option maxHeartbeats 40000000 in
theorem con_c3_4_1 (l : Launch) (Z : State) (a0 : Array Value) (hw : ∀ d ∈ tables_1, d.before a0 Z = true) (h0 : Heap) (n0 : Nat) (b1 : Addr) (c0 c1 c2 c3 : Int32) (hc0 : ¬ (255 : Int32) < c0) (hj : (255 : Int32) < c1) (hr : 0 ≤ c1.toInt ∧ c1.toInt < 65536) (Ls : Al Z h0 b1 .char [(.int c0), (.int c1), (.int c2), (.int c3)]) (S_A : Sta Z h0 "java/lang/StringUTF16" "$assertionsDisabled" "Z" (.int (1 : Int32))) (S_H : Sta Z h0 "java/lang/StringUTF16" "HI_BYTE_SHIFT" "I" (.int (0 : Int32))) (S_L : Sta Z h0 "java/lang/StringUTF16" "LO_BYTE_SHIFT" "I" (.int (8 : Int32))) (Z0 : n0 ≤ h0.size) : Con l Z y10 jdk_52_method_16_code 6 (some (.array .byte)) ({ frames := 3, cells := 2, slots := 12, locals := 40 } : Room) #[(.ref b1), (.int (0 : Int32)), (.int (4 : Int32))] h0 n0 (fun v h => ∃ d, v = some (.ref d) ∧ Keep h0 h [] ∧ Al Z h d .byte [(.int (((c0 >>> ((0 : Int32) &&& 31))).toInt8.toInt32)), (.int (((c0 >>> ((8 : Int32) &&& 31))).toInt8.toInt32)), (.int (((c1 >>> ((0 : Int32) &&& 31))).toInt8.toInt32)), (.int (((c1 >>> ((8 : Int32) &&& 31))).toInt8.toInt32)), (.int (((c2 >>> ((0 : Int32) &&& 31))).toInt8.toInt32)), (.int (((c2 >>> ((8 : Int32) &&& 31))).toInt8.toInt32)), (.int (((c3 >>> ((0 : Int32) &&& 31))).toInt8.toInt32)), (.int (((c3 >>> ((8 : Int32) &&& 31))).toInt8.toInt32))] ∧ h0.size ≤ d) := by
  refine Con.of pf_10 (fun m => ef_c3_4_1 m b1) ?_
  intro p e s m below meth c C
  have K0 : Keep h0 h0 [] := Keep.refl _ _
  refine W.iloadN C d10_0 rfl ?_
  refine W.newP C 4 4 d10_1 (tkw hw 21 rfl) rfl (Nat.le_refl _) (by decide) 1 4 rfl rfl (by decide) (by decide) ?_
  intro ob1 hp2 hob1 Eob1 Lob1
  have ne_b1_ob1 : b1 ≠ ob1 := Nat.ne_of_lt (by rw [hob1]; exact Ls.lt)
  have ge_ob1 : n0 ≤ ob1 := by rw [hob1]; exact Z0
  have sz_ob1 : h0.size ≤ ob1 := by rw [hob1]; exact K0.1
  replace Ls := Ls.ext Eob1
  replace S_A := S_A.ext Eob1
  replace S_H := S_H.ext Eob1
  replace S_L := S_L.ext Eob1
  replace Z0 := Nat.le_trans Z0 Eob1.1
  replace K0 := K0.ext Eob1
  replace Lob1 : Al Z hp2 ob1 .byte [(.int (0 : Int32)), (.int (0 : Int32)), (.int (0 : Int32)), (.int (0 : Int32))] := Lob1
  refine W.astoreN C #[.val (.ref b1), .val (.int (0 : Int32)), .val (.int (4 : Int32)), .val (.ref ob1), .unset, .unset] d10_3 rfl rfl ?_
  refine W.aloadN C d10_4 rfl rfl ?_
  refine W.iloadN C d10_5 rfl ?_
  refine W.aloadN C d10_6 rfl rfl ?_
  refine W.iconst C (0 : Int32) d10_7 rfl ?_
  refine W.iloadN C d10_8 rfl ?_
  refine W.callS C (y' := y11) d10_9 (tkw hw 57 rfl) (tkw hw 58 rfl) (tkw hw 55 rfl) (tkw hw 59 rfl) (by decide) (argsL := [(.ref b1), (.int (0 : Int32)), (.ref ob1), (.int (0 : Int32)), (.int (4 : Int32))]) (rest := []) rfl (lenOf pd_11 rfl) (con_c4_4_1 l Z a0 hw hp2 n0 b1 ob1 c0 c1 c2 c3 hc0 hj ne_b1_ob1 ge_ob1 Ls Lob1 Z0) 0 1 4 rfl rfl rfl (by decide) (by decide) (by decide) (by decide) rfl ?_
  rintro _ hp3 ⟨rfl, Kc⟩
  replace S_A := own_sa2 S_A Lob1 Kc
  replace S_H := own_sa2 S_H Lob1 Kc
  replace S_L := own_sa2 S_L Lob1 Kc
  replace Ls := Ls.keep Kc (ninS ne_b1_ob1 nin0)
  replace Z0 := Nat.le_trans Z0 Kc.1
  replace K0 := K0.trans Kc (allS (Or.inr sz_ob1) all0)
  refine W.istore C #[.val (.ref b1), .val (.int (0 : Int32)), .val (.int (4 : Int32)), .val (.ref ob1), .val (.int (1 : Int32)), .unset] d10_12 rfl ?_
  refine W.iload C d10_14 rfl ?_
  refine W.iloadN C d10_16 rfl ?_
  refine W.icmp_eq C 57 d10_17 rfl (fun b => absurd b (by decide)) (fun _ => ?_)
  refine W.aloadN C d10_20 rfl rfl ?_
  refine W.iloadN C d10_21 rfl ?_
  refine W.iloadN C d10_22 rfl ?_
  refine W.callS C (y' := y18) d10_23 (tkw hw 85 rfl) (tkw hw 86 rfl) (tkw hw 55 rfl) (tkw hw 87 rfl) (by decide) (argsL := [(.ref b1), (.int (0 : Int32)), (.int (4 : Int32))]) (rest := []) rfl (lenOf pd_12 rfl) (con_tb_4 l Z a0 hw hp3 n0 b1 c0 c1 c2 c3 Ls S_A S_H S_L Z0) 0 2 12 rfl rfl rfl (by decide) (by decide) (by decide) (by decide) rfl ?_
  rintro _ hp5 ⟨d4, rfl, Kc, Ld4, sz⟩
  have sz_d4 := Nat.le_trans K0.1 sz
  replace Ls := Ls.ext (ext0 Kc)
  replace Z0 := Nat.le_trans Z0 (ext0 Kc).1
  replace K0 := K0.ext (ext0 Kc)
  replace S_A := S_A.ext (ext0 Kc)
  replace S_H := S_H.ext (ext0 Kc)
  replace S_L := S_L.ext (ext0 Kc)
  refine W.astore C #[.val (.ref b1), .val (.int (0 : Int32)), .val (.int (4 : Int32)), .val (.ref ob1), .val (.int (1 : Int32)), .val (.ref d4)] d10_26 rfl rfl ?_
  refine W.aload C d10_28 rfl rfl ?_
  refine W.iload C d10_30 rfl ?_
  refine W.callS C (y' := y22) d10_32 (tkw hw 101 rfl) (tkw hw 102 rfl) (tkw hw 55 rfl) (tkw hw 103 rfl) (by decide) (argsL := [(.ref d4), (.int (1 : Int32))]) (rest := []) rfl (lenOf pd_4 rfl) (con_gc_1 l Z a0 hw hp5 n0 d4 _ c1 hr.1 hr.2 rfl rfl Ld4 S_A S_H S_L Z0) 0 2 12 rfl rfl rfl (by decide) (by decide) (by decide) (by decide) rfl ?_
  rintro _ _ ⟨rfl, rfl⟩
  refine W.sipush C (255 : Int32) d10_35 rfl ?_
  refine W.icmp_gt C 54 d10_38 rfl (fun bq1 => ?_) (fun bq1 => absurd hj bq1)
  refine W.aload C d10_54 rfl rfl ?_
  exact W.aret C d10_56 rfl rfl rfl (FN.ok (by decide) (by decide) ⟨d4, rfl, K0, Ld4, sz_d4⟩)

theorem ef_i4_4_1 (m : MethodId) (a1 : Addr) (b1 : Addr) : entryFrame m #[(.ref a1), (.ref b1), (.int (0 : Int32)), (.int (4 : Int32)), .null] 6 = mkF m 0 #[.val (.ref a1), .val (.ref b1), .val (.int (0 : Int32)), .val (.int (4 : Int32)), .val .null, .unset] [] := by first | (simp [entryFrame, mkF, argsToLocals, Value.category]; done) | rfl
set_option maxRecDepth 65536 in
set_option maxHeartbeats 40000000 in
theorem con_i4_4_1 (l : Launch) (Z : State) (a0 : Array Value) (hw : ∀ d ∈ tables_1, d.before a0 Z = true) (h0 : Heap) (n0 : Nat) (a1 : Addr) (b1 : Addr) (c0 c1 c2 c3 : Int32) (hc0 : ¬ (255 : Int32) < c0) (hj : (255 : Int32) < c1) (hr : 0 ≤ c1.toInt ∧ c1.toInt < 65536) (u0 u1 : Value) (cv : Int32) (ne_a1_b1 : a1 ≠ b1) (g_a1 : n0 ≤ a1) (E_a1 : Exa Z h0 a1 "java/lang/String") (Fv : Fld Z h0 a1 "java/lang/String" "value" "[B" u0) (Fc : Fld Z h0 a1 "java/lang/String" "coder" "B" u1) (Ls : Al Z h0 b1 .char [(.int c0), (.int c1), (.int c2), (.int c3)]) (S_C : Sta Z h0 "java/lang/String" "COMPACT_STRINGS" "Z" (.int cv)) (hcv : ¬ cv = 0) (S_A : Sta Z h0 "java/lang/StringUTF16" "$assertionsDisabled" "Z" (.int (1 : Int32))) (S_H : Sta Z h0 "java/lang/StringUTF16" "HI_BYTE_SHIFT" "I" (.int (0 : Int32))) (S_L : Sta Z h0 "java/lang/StringUTF16" "LO_BYTE_SHIFT" "I" (.int (8 : Int32))) (Z0 : n0 ≤ h0.size) : Con l Z y3 jdk_42_method_149_code 6 none ({ frames := 4, cells := 2, slots := 12, locals := 57 } : Room) #[(.ref a1), (.ref b1), (.int (0 : Int32)), (.int (4 : Int32)), .null] h0 n0 (fun v h => v = none ∧ Keep h0 h [a1] ∧ Exa Z h a1 "java/lang/String" ∧ ∃ d, Fld Z h a1 "java/lang/String" "value" "[B" (.ref d) ∧ Fld Z h a1 "java/lang/String" "coder" "B" (.int 1) ∧ Al Z h d .byte [(.int (((c0 >>> ((0 : Int32) &&& 31))).toInt8.toInt32)), (.int (((c0 >>> ((8 : Int32) &&& 31))).toInt8.toInt32)), (.int (((c1 >>> ((0 : Int32) &&& 31))).toInt8.toInt32)), (.int (((c1 >>> ((8 : Int32) &&& 31))).toInt8.toInt32)), (.int (((c2 >>> ((0 : Int32) &&& 31))).toInt8.toInt32)), (.int (((c2 >>> ((8 : Int32) &&& 31))).toInt8.toInt32)), (.int (((c3 >>> ((0 : Int32) &&& 31))).toInt8.toInt32)), (.int (((c3 >>> ((8 : Int32) &&& 31))).toInt8.toInt32))]) := by
  refine Con.of pf_3 (fun m => ef_i4_4_1 m a1 b1) ?_
  intro p e s m below meth c C
  have K0 : Keep h0 h0 [a1] := Keep.refl _ _
  refine W.aloadN C d3_0 rfl rfl ?_
  refine W.initO C d3_1 (tkw hw 17 rfl) (tkw hw 18 rfl) (tkw hw 19 rfl) 0 rfl (by decide) (by decide) rfl ?_
  refine W.iloadN C d3_4 rfl ?_
  refine W.if_ne C 27 d3_5 rfl (fun _ => ?_) (fun b => absurd b (by decide))
  refine W.getS C d3_27 (tkw hw 51 rfl) Via.refl S_C ?_
  refine W.if_eq C 58 d3_30 rfl (fun bq1 => absurd bq1 hcv) (fun bq1 => ?_)
  refine W.aloadN C d3_33 rfl rfl ?_
  refine W.iloadN C d3_34 rfl ?_
  refine W.iloadN C d3_35 rfl ?_
  refine W.callS C (y' := y10) d3_36 (tkw hw 53 rfl) (tkw hw 54 rfl) (tkw hw 55 rfl) (tkw hw 56 rfl) (by decide) (argsL := [(.ref b1), (.int (0 : Int32)), (.int (4 : Int32))]) (rest := []) rfl (lenOf pd_12 rfl) (con_c3_4_1 l Z a0 hw h0 n0 b1 c0 c1 c2 c3 hc0 hj hr Ls S_A S_H S_L Z0) 0 2 12 rfl rfl rfl (by decide) (by decide) (by decide) (by decide) rfl ?_
  rintro _ hp2 ⟨d1, rfl, Kc, Ld1, sz⟩
  have ne_a1_d1 : a1 ≠ d1 := Nat.ne_of_lt (Nat.lt_of_lt_of_le E_a1.lt sz)
  replace E_a1 := E_a1.ext (ext0 Kc)
  replace Fv := Fv.ext (ext0 Kc)
  replace Fc := Fc.ext (ext0 Kc)
  replace Ls := Ls.ext (ext0 Kc)
  replace S_A := S_A.ext (ext0 Kc)
  replace S_H := S_H.ext (ext0 Kc)
  replace S_L := S_L.ext (ext0 Kc)
  replace S_C := S_C.ext (ext0 Kc)
  replace Z0 := Nat.le_trans Z0 (ext0 Kc).1
  replace K0 := K0.ext (ext0 Kc)
  refine W.astore C #[.val (.ref a1), .val (.ref b1), .val (.int (0 : Int32)), .val (.int (4 : Int32)), .val .null, .val (.ref d1)] d3_39 rfl rfl ?_
  refine W.aloadN C d3_41 rfl rfl ?_
  refine W.aload C d3_42 rfl rfl ?_
  refine W.iloadN C d3_44 rfl ?_
  refine W.callS C (y' := y12) d3_45 (tkw hw 60 rfl) (tkw hw 61 rfl) (tkw hw 55 rfl) (tkw hw 62 rfl) (by decide) (argsL := [(.ref d1), (.int (4 : Int32))]) (rest := [(.ref a1)]) rfl (lenOf pd_14 rfl) (con_cou_4 l Z a0 hw hp2 n0 d1 c0 c1 c2 c3 Ld1 Z0) 1 2 12 rfl rfl rfl (by decide) (by decide) (by decide) (by decide) rfl ?_
  rintro _ _ ⟨rfl, rfl⟩
  refine W.putF C d3_48 (tkw hw 27 rfl) Via.refl Fc E_a1 (Or.inr ⟨(tkw hw 23 rfl), rfl, rfl⟩) (tkw hw 7 rfl) (ty := .byte) (by decide) rfl rfl g_a1 ?_
  intro hp3 U4
  replace Fc := Fc.same U4
  replace E_a1 := E_a1.wr U4
  replace Fv := Fv.other U4 (Or.inr (slot_ne (Or.inr (tkw hw 22 rfl)) (Or.inr (tkw hw 23 rfl)) (by decide) (t := (.array .byte)) (t' := .byte) (by decide) (by decide)))
  replace Ls := Ls.other U4 (Ne.symm ne_a1_b1)
  replace S_A := S_A.wr U4
  replace S_H := S_H.wr U4
  replace S_L := S_L.wr U4
  replace S_C := S_C.wr U4
  replace Z0 := Nat.le_trans Z0 (Nat.le_of_eq (U4.size).symm)
  replace K0 := K0.wr U4 (Or.inl (List.mem_of_getElem? (i := 0) rfl))
  replace Ld1 := Ld1.other U4 (Ne.symm ne_a1_d1)
  refine W.aloadN C d3_51 rfl rfl ?_
  refine W.aload C d3_52 rfl rfl ?_
  refine W.putF C d3_54 (tkw hw 26 rfl) Via.refl Fv E_a1 (Or.inr ⟨(tkw hw 22 rfl), rfl, rfl⟩) (tkw hw 7 rfl) (ty := (.array .byte)) (by decide) rfl rfl g_a1 ?_
  intro hp5 U6
  replace Fv := Fv.same U6
  replace E_a1 := E_a1.wr U6
  replace Fc := Fc.other U6 (Or.inr (slot_ne (Or.inr (tkw hw 23 rfl)) (Or.inr (tkw hw 22 rfl)) (by decide) (t := .byte) (t' := (.array .byte)) (by decide) (by decide)))
  replace Ls := Ls.other U6 (Ne.symm ne_a1_b1)
  replace S_A := S_A.wr U6
  replace S_H := S_H.wr U6
  replace S_L := S_L.wr U6
  replace S_C := S_C.wr U6
  replace Z0 := Nat.le_trans Z0 (Nat.le_of_eq (U6.size).symm)
  replace K0 := K0.wr U6 (Or.inl (List.mem_of_getElem? (i := 0) rfl))
  replace Ld1 := Ld1.other U6 (Ne.symm ne_a1_d1)
  exact W.retV C d3_57 (FN.ok (by decide) (by decide) ⟨rfl, K0, E_a1, d1, Fv, Fc, Ld1⟩)

theorem ef_i1_4_1 (m : MethodId) (a1 : Addr) (b1 : Addr) : entryFrame m #[(.ref a1), (.ref b1)] 2 = mkF m 0 #[.val (.ref a1), .val (.ref b1)] [] := by first | (simp [entryFrame, mkF, argsToLocals, Value.category]; done) | rfl
set_option maxRecDepth 65536 in
set_option maxHeartbeats 40000000 in
theorem con_i1_4_1 (l : Launch) (Z : State) (a0 : Array Value) (hw : ∀ d ∈ tables_1, d.before a0 Z = true) (h0 : Heap) (n0 : Nat) (a1 : Addr) (b1 : Addr) (c0 c1 c2 c3 : Int32) (hc0 : ¬ (255 : Int32) < c0) (hj : (255 : Int32) < c1) (hr : 0 ≤ c1.toInt ∧ c1.toInt < 65536) (u0 u1 : Value) (cv : Int32) (ne_a1_b1 : a1 ≠ b1) (g_a1 : n0 ≤ a1) (E_a1 : Exa Z h0 a1 "java/lang/String") (Fv : Fld Z h0 a1 "java/lang/String" "value" "[B" u0) (Fc : Fld Z h0 a1 "java/lang/String" "coder" "B" u1) (Ls : Al Z h0 b1 .char [(.int c0), (.int c1), (.int c2), (.int c3)]) (S_C : Sta Z h0 "java/lang/String" "COMPACT_STRINGS" "Z" (.int cv)) (hcv : ¬ cv = 0) (S_A : Sta Z h0 "java/lang/StringUTF16" "$assertionsDisabled" "Z" (.int (1 : Int32))) (S_H : Sta Z h0 "java/lang/StringUTF16" "HI_BYTE_SHIFT" "I" (.int (0 : Int32))) (S_L : Sta Z h0 "java/lang/StringUTF16" "LO_BYTE_SHIFT" "I" (.int (8 : Int32))) (Z0 : n0 ≤ h0.size) : Con l Z y2 jdk_42_method_3_code 2 none ({ frames := 5, cells := 2, slots := 12, locals := 74 } : Room) #[(.ref a1), (.ref b1)] h0 n0 (fun v h => v = none ∧ Keep h0 h [a1] ∧ Exa Z h a1 "java/lang/String" ∧ ∃ d, Fld Z h a1 "java/lang/String" "value" "[B" (.ref d) ∧ Fld Z h a1 "java/lang/String" "coder" "B" (.int 1) ∧ Al Z h d .byte [(.int (((c0 >>> ((0 : Int32) &&& 31))).toInt8.toInt32)), (.int (((c0 >>> ((8 : Int32) &&& 31))).toInt8.toInt32)), (.int (((c1 >>> ((0 : Int32) &&& 31))).toInt8.toInt32)), (.int (((c1 >>> ((8 : Int32) &&& 31))).toInt8.toInt32)), (.int (((c2 >>> ((0 : Int32) &&& 31))).toInt8.toInt32)), (.int (((c2 >>> ((8 : Int32) &&& 31))).toInt8.toInt32)), (.int (((c3 >>> ((0 : Int32) &&& 31))).toInt8.toInt32)), (.int (((c3 >>> ((8 : Int32) &&& 31))).toInt8.toInt32))]) := by
  refine Con.of pf_2 (fun m => ef_i1_4_1 m a1 b1) ?_
  intro p e s m below meth c C
  have K0 : Keep h0 h0 [a1] := Keep.refl _ _
  refine W.aloadN C d2_0 rfl rfl ?_
  refine W.aloadN C d2_1 rfl rfl ?_
  refine W.iconst C (0 : Int32) d2_2 rfl ?_
  refine W.aloadN C d2_3 rfl rfl ?_
  refine W.arrlen C (4 : Int32) d2_4 Ls rfl ?_
  refine W.aconstNull C d2_5 ?_
  refine W.callI C (y' := y3) d2_6 rfl (tkw hw 13 rfl) (tkw hw 14 rfl) (tkw hw 8 rfl) (tkw hw 16 rfl) (by decide) (a := a1) (argsL := [(.ref b1), (.int (0 : Int32)), (.int (4 : Int32)), .null]) (rest := []) rfl (lenOf pd_15 rfl) (con_i4_4_1 l Z a0 hw h0 n0 a1 b1 c0 c1 c2 c3 hc0 hj hr u0 u1 cv ne_a1_b1 g_a1 E_a1 Fv Fc Ls S_C hcv S_A S_H S_L Z0) 0 2 12 rfl rfl rfl (by decide) (by decide) (by decide) (by decide) rfl ?_
  rintro _ hp1 ⟨rfl, Kc, E_n, d, Fv_n, Fc_n, Ld⟩
  replace Ls := Ls.keep Kc (ninS (Ne.symm ne_a1_b1) nin0)
  replace Z0 := Nat.le_trans Z0 Kc.1
  replace K0 := K0.trans Kc (allS (Or.inl (List.mem_of_getElem? (i := 0) rfl)) all0)
  replace E_a1 := E_n
  replace Fv := Fv_n
  replace Fc := Fc_n
  exact W.retV C d2_9 (FN.ok (by decide) (by decide) ⟨rfl, K0, E_a1, d, Fv, Fc, Ld⟩)

theorem ef_c4_4_2 (m : MethodId) (b1 : Addr) (d1 : Addr) : entryFrame m #[(.ref b1), (.int (0 : Int32)), (.ref d1), (.int (0 : Int32)), (.int (4 : Int32))] 7 = mkF m 0 #[.val (.ref b1), .val (.int (0 : Int32)), .val (.ref d1), .val (.int (0 : Int32)), .val (.int (4 : Int32)), .unset, .unset] [] := by first | (simp [entryFrame, mkF, argsToLocals, Value.category]; done) | rfl
set_option maxRecDepth 65536 in
set_option maxHeartbeats 40000000 in
theorem con_c4_4_2 (l : Launch) (Z : State) (a0 : Array Value) (hw : ∀ d ∈ tables_1, d.before a0 Z = true) (h0 : Heap) (n0 : Nat) (b1 : Addr) (d1 : Addr) (c0 c1 c2 c3 : Int32) (hc0 : ¬ (255 : Int32) < c0) (hc1 : ¬ (255 : Int32) < c1) (hj : (255 : Int32) < c2) (ne_b1_d1 : b1 ≠ d1) (g_d1 : n0 ≤ d1) (Ls : Al Z h0 b1 .char [(.int c0), (.int c1), (.int c2), (.int c3)]) (Ld : Al Z h0 d1 .byte [(.int (0 : Int32)), (.int (0 : Int32)), (.int (0 : Int32)), (.int (0 : Int32))]) (Z0 : n0 ≤ h0.size) : Con l Z y11 jdk_52_method_21_code 7 (some .int) ({ frames := 0, cells := 0, slots := 0, locals := 0 } : Room) #[(.ref b1), (.int (0 : Int32)), (.ref d1), (.int (0 : Int32)), (.int (4 : Int32))] h0 n0 (fun v h => v = some (.int 2) ∧ Keep h0 h [d1]) := by
  refine Con.of pf_11 (fun m => ef_c4_4_2 m b1 d1) ?_
  intro p e s m below meth c C
  have K0 : Keep h0 h0 [d1] := Keep.refl _ _
  refine W.iconst C (0 : Int32) d11_0 rfl ?_
  refine W.istore C #[.val (.ref b1), .val (.int (0 : Int32)), .val (.ref d1), .val (.int (0 : Int32)), .val (.int (4 : Int32)), .val (.int (0 : Int32)), .unset] d11_1 rfl ?_
  refine W.iload C d11_3 rfl ?_
  refine W.iload C d11_5 rfl ?_
  refine W.icmp_ge C 44 d11_7 rfl (fun b => absurd b (by decide)) (fun _ => ?_)
  refine W.aloadN C d11_10 rfl rfl ?_
  refine W.iloadN C d11_11 rfl ?_
  refine W.caload C 0 d11_12 Ls rfl rfl ?_
  refine W.istore C #[.val (.ref b1), .val (.int (0 : Int32)), .val (.ref d1), .val (.int (0 : Int32)), .val (.int (4 : Int32)), .val (.int (0 : Int32)), .val (.int c0)] d11_13 rfl ?_
  refine W.iload C d11_15 rfl ?_
  refine W.sipush C (255 : Int32) d11_17 rfl ?_
  refine W.icmp_le C 26 d11_20 rfl (fun bq1 => ?_) (fun bq1 => absurd bq1 hc0)
  refine W.aloadN C d11_26 rfl rfl ?_
  refine W.iloadN C d11_27 rfl ?_
  refine W.iload C d11_28 rfl ?_
  refine W.i2b C d11_30 ?_
  refine W.bastoreI C 0 d11_31 Ld rfl (show (0 : Nat) < 4 by decide) g_d1 ?_
  intro hp1 U2 Ld_
  replace Ls := Ls.other U2 ne_b1_d1
  replace Z0 := Nat.le_trans Z0 (Nat.le_of_eq (U2.size).symm)
  replace K0 := K0.wr U2 (Or.inl (List.mem_of_getElem? (i := 0) rfl))
  replace Ld : Al Z hp1 d1 .byte [(.int ((c0).toInt8.toInt32)), (.int (0 : Int32)), (.int (0 : Int32)), (.int (0 : Int32))] := Ld_
  refine W.iinc C (1 : Int32) #[.val (.ref b1), .val (.int (1 : Int32)), .val (.ref d1), .val (.int (0 : Int32)), .val (.int (4 : Int32)), .val (.int (0 : Int32)), .val (.int c0)] d11_32 rfl rfl rfl ?_
  refine W.iinc C (1 : Int32) #[.val (.ref b1), .val (.int (1 : Int32)), .val (.ref d1), .val (.int (1 : Int32)), .val (.int (4 : Int32)), .val (.int (0 : Int32)), .val (.int c0)] d11_35 rfl rfl rfl ?_
  refine W.iinc C (1 : Int32) #[.val (.ref b1), .val (.int (1 : Int32)), .val (.ref d1), .val (.int (1 : Int32)), .val (.int (4 : Int32)), .val (.int (1 : Int32)), .val (.int c0)] d11_38 rfl rfl rfl ?_
  refine W.goto C 3 d11_41 rfl ?_
  refine W.iload C d11_3 rfl ?_
  refine W.iload C d11_5 rfl ?_
  refine W.icmp_ge C 44 d11_7 rfl (fun b => absurd b (by decide)) (fun _ => ?_)
  refine W.aloadN C d11_10 rfl rfl ?_
  refine W.iloadN C d11_11 rfl ?_
  refine W.caload C 1 d11_12 Ls rfl rfl ?_
  refine W.istore C #[.val (.ref b1), .val (.int (1 : Int32)), .val (.ref d1), .val (.int (1 : Int32)), .val (.int (4 : Int32)), .val (.int (1 : Int32)), .val (.int c1)] d11_13 rfl ?_
  refine W.iload C d11_15 rfl ?_
  refine W.sipush C (255 : Int32) d11_17 rfl ?_
  refine W.icmp_le C 26 d11_20 rfl (fun bq2 => ?_) (fun bq2 => absurd bq2 hc1)
  refine W.aloadN C d11_26 rfl rfl ?_
  refine W.iloadN C d11_27 rfl ?_
  refine W.iload C d11_28 rfl ?_
  refine W.i2b C d11_30 ?_
  refine W.bastoreI C 1 d11_31 Ld rfl (show (1 : Nat) < 4 by decide) g_d1 ?_
  intro hp3 U4 Ld_
  replace Ls := Ls.other U4 ne_b1_d1
  replace Z0 := Nat.le_trans Z0 (Nat.le_of_eq (U4.size).symm)
  replace K0 := K0.wr U4 (Or.inl (List.mem_of_getElem? (i := 0) rfl))
  replace Ld : Al Z hp3 d1 .byte [(.int ((c0).toInt8.toInt32)), (.int ((c1).toInt8.toInt32)), (.int (0 : Int32)), (.int (0 : Int32))] := Ld_
  refine W.iinc C (2 : Int32) #[.val (.ref b1), .val (.int (2 : Int32)), .val (.ref d1), .val (.int (1 : Int32)), .val (.int (4 : Int32)), .val (.int (1 : Int32)), .val (.int c1)] d11_32 rfl rfl rfl ?_
  refine W.iinc C (2 : Int32) #[.val (.ref b1), .val (.int (2 : Int32)), .val (.ref d1), .val (.int (2 : Int32)), .val (.int (4 : Int32)), .val (.int (1 : Int32)), .val (.int c1)] d11_35 rfl rfl rfl ?_
  refine W.iinc C (2 : Int32) #[.val (.ref b1), .val (.int (2 : Int32)), .val (.ref d1), .val (.int (2 : Int32)), .val (.int (4 : Int32)), .val (.int (2 : Int32)), .val (.int c1)] d11_38 rfl rfl rfl ?_
  refine W.goto C 3 d11_41 rfl ?_
  refine W.iload C d11_3 rfl ?_
  refine W.iload C d11_5 rfl ?_
  refine W.icmp_ge C 44 d11_7 rfl (fun b => absurd b (by decide)) (fun _ => ?_)
  refine W.aloadN C d11_10 rfl rfl ?_
  refine W.iloadN C d11_11 rfl ?_
  refine W.caload C 2 d11_12 Ls rfl rfl ?_
  refine W.istore C #[.val (.ref b1), .val (.int (2 : Int32)), .val (.ref d1), .val (.int (2 : Int32)), .val (.int (4 : Int32)), .val (.int (2 : Int32)), .val (.int c2)] d11_13 rfl ?_
  refine W.iload C d11_15 rfl ?_
  refine W.sipush C (255 : Int32) d11_17 rfl ?_
  refine W.icmp_le C 26 d11_20 rfl (fun bq3 => absurd hj bq3) (fun bq3 => ?_)
  refine W.iload C d11_23 rfl ?_
  exact W.iret C d11_25 (by simp) rfl (FN.ok (by decide) (by decide) ⟨rfl, K0⟩)

theorem ef_c3_4_2 (m : MethodId) (b1 : Addr) : entryFrame m #[(.ref b1), (.int (0 : Int32)), (.int (4 : Int32))] 6 = mkF m 0 #[.val (.ref b1), .val (.int (0 : Int32)), .val (.int (4 : Int32)), .unset, .unset, .unset] [] := by first | (simp [entryFrame, mkF, argsToLocals, Value.category]; done) | rfl
set_option maxRecDepth 65536 in
set_option maxHeartbeats 40000000 in
theorem con_c3_4_2 (l : Launch) (Z : State) (a0 : Array Value) (hw : ∀ d ∈ tables_1, d.before a0 Z = true) (h0 : Heap) (n0 : Nat) (b1 : Addr) (c0 c1 c2 c3 : Int32) (hc0 : ¬ (255 : Int32) < c0) (hc1 : ¬ (255 : Int32) < c1) (hj : (255 : Int32) < c2) (hr : 0 ≤ c2.toInt ∧ c2.toInt < 65536) (Ls : Al Z h0 b1 .char [(.int c0), (.int c1), (.int c2), (.int c3)]) (S_A : Sta Z h0 "java/lang/StringUTF16" "$assertionsDisabled" "Z" (.int (1 : Int32))) (S_H : Sta Z h0 "java/lang/StringUTF16" "HI_BYTE_SHIFT" "I" (.int (0 : Int32))) (S_L : Sta Z h0 "java/lang/StringUTF16" "LO_BYTE_SHIFT" "I" (.int (8 : Int32))) (Z0 : n0 ≤ h0.size) : Con l Z y10 jdk_52_method_16_code 6 (some (.array .byte)) ({ frames := 3, cells := 2, slots := 12, locals := 40 } : Room) #[(.ref b1), (.int (0 : Int32)), (.int (4 : Int32))] h0 n0 (fun v h => ∃ d, v = some (.ref d) ∧ Keep h0 h [] ∧ Al Z h d .byte [(.int (((c0 >>> ((0 : Int32) &&& 31))).toInt8.toInt32)), (.int (((c0 >>> ((8 : Int32) &&& 31))).toInt8.toInt32)), (.int (((c1 >>> ((0 : Int32) &&& 31))).toInt8.toInt32)), (.int (((c1 >>> ((8 : Int32) &&& 31))).toInt8.toInt32)), (.int (((c2 >>> ((0 : Int32) &&& 31))).toInt8.toInt32)), (.int (((c2 >>> ((8 : Int32) &&& 31))).toInt8.toInt32)), (.int (((c3 >>> ((0 : Int32) &&& 31))).toInt8.toInt32)), (.int (((c3 >>> ((8 : Int32) &&& 31))).toInt8.toInt32))] ∧ h0.size ≤ d) := by
  refine Con.of pf_10 (fun m => ef_c3_4_2 m b1) ?_
  intro p e s m below meth c C
  have K0 : Keep h0 h0 [] := Keep.refl _ _
  refine W.iloadN C d10_0 rfl ?_
  refine W.newP C 4 4 d10_1 (tkw hw 21 rfl) rfl (Nat.le_refl _) (by decide) 1 4 rfl rfl (by decide) (by decide) ?_
  intro ob1 hp2 hob1 Eob1 Lob1
  have ne_b1_ob1 : b1 ≠ ob1 := Nat.ne_of_lt (by rw [hob1]; exact Ls.lt)
  have ge_ob1 : n0 ≤ ob1 := by rw [hob1]; exact Z0
  have sz_ob1 : h0.size ≤ ob1 := by rw [hob1]; exact K0.1
  replace Ls := Ls.ext Eob1
  replace S_A := S_A.ext Eob1
  replace S_H := S_H.ext Eob1
  replace S_L := S_L.ext Eob1
  replace Z0 := Nat.le_trans Z0 Eob1.1
  replace K0 := K0.ext Eob1
  replace Lob1 : Al Z hp2 ob1 .byte [(.int (0 : Int32)), (.int (0 : Int32)), (.int (0 : Int32)), (.int (0 : Int32))] := Lob1
  refine W.astoreN C #[.val (.ref b1), .val (.int (0 : Int32)), .val (.int (4 : Int32)), .val (.ref ob1), .unset, .unset] d10_3 rfl rfl ?_
  refine W.aloadN C d10_4 rfl rfl ?_
  refine W.iloadN C d10_5 rfl ?_
  refine W.aloadN C d10_6 rfl rfl ?_
  refine W.iconst C (0 : Int32) d10_7 rfl ?_
  refine W.iloadN C d10_8 rfl ?_
  refine W.callS C (y' := y11) d10_9 (tkw hw 57 rfl) (tkw hw 58 rfl) (tkw hw 55 rfl) (tkw hw 59 rfl) (by decide) (argsL := [(.ref b1), (.int (0 : Int32)), (.ref ob1), (.int (0 : Int32)), (.int (4 : Int32))]) (rest := []) rfl (lenOf pd_11 rfl) (con_c4_4_2 l Z a0 hw hp2 n0 b1 ob1 c0 c1 c2 c3 hc0 hc1 hj ne_b1_ob1 ge_ob1 Ls Lob1 Z0) 0 1 4 rfl rfl rfl (by decide) (by decide) (by decide) (by decide) rfl ?_
  rintro _ hp3 ⟨rfl, Kc⟩
  replace S_A := own_sa2 S_A Lob1 Kc
  replace S_H := own_sa2 S_H Lob1 Kc
  replace S_L := own_sa2 S_L Lob1 Kc
  replace Ls := Ls.keep Kc (ninS ne_b1_ob1 nin0)
  replace Z0 := Nat.le_trans Z0 Kc.1
  replace K0 := K0.trans Kc (allS (Or.inr sz_ob1) all0)
  refine W.istore C #[.val (.ref b1), .val (.int (0 : Int32)), .val (.int (4 : Int32)), .val (.ref ob1), .val (.int (2 : Int32)), .unset] d10_12 rfl ?_
  refine W.iload C d10_14 rfl ?_
  refine W.iloadN C d10_16 rfl ?_
  refine W.icmp_eq C 57 d10_17 rfl (fun b => absurd b (by decide)) (fun _ => ?_)
  refine W.aloadN C d10_20 rfl rfl ?_
  refine W.iloadN C d10_21 rfl ?_
  refine W.iloadN C d10_22 rfl ?_
  refine W.callS C (y' := y18) d10_23 (tkw hw 85 rfl) (tkw hw 86 rfl) (tkw hw 55 rfl) (tkw hw 87 rfl) (by decide) (argsL := [(.ref b1), (.int (0 : Int32)), (.int (4 : Int32))]) (rest := []) rfl (lenOf pd_12 rfl) (con_tb_4 l Z a0 hw hp3 n0 b1 c0 c1 c2 c3 Ls S_A S_H S_L Z0) 0 2 12 rfl rfl rfl (by decide) (by decide) (by decide) (by decide) rfl ?_
  rintro _ hp5 ⟨d4, rfl, Kc, Ld4, sz⟩
  have sz_d4 := Nat.le_trans K0.1 sz
  replace Ls := Ls.ext (ext0 Kc)
  replace Z0 := Nat.le_trans Z0 (ext0 Kc).1
  replace K0 := K0.ext (ext0 Kc)
  replace S_A := S_A.ext (ext0 Kc)
  replace S_H := S_H.ext (ext0 Kc)
  replace S_L := S_L.ext (ext0 Kc)
  refine W.astore C #[.val (.ref b1), .val (.int (0 : Int32)), .val (.int (4 : Int32)), .val (.ref ob1), .val (.int (2 : Int32)), .val (.ref d4)] d10_26 rfl rfl ?_
  refine W.aload C d10_28 rfl rfl ?_
  refine W.iload C d10_30 rfl ?_
  refine W.callS C (y' := y22) d10_32 (tkw hw 101 rfl) (tkw hw 102 rfl) (tkw hw 55 rfl) (tkw hw 103 rfl) (by decide) (argsL := [(.ref d4), (.int (2 : Int32))]) (rest := []) rfl (lenOf pd_4 rfl) (con_gc_2 l Z a0 hw hp5 n0 d4 _ c2 hr.1 hr.2 rfl rfl Ld4 S_A S_H S_L Z0) 0 2 12 rfl rfl rfl (by decide) (by decide) (by decide) (by decide) rfl ?_
  rintro _ _ ⟨rfl, rfl⟩
  refine W.sipush C (255 : Int32) d10_35 rfl ?_
  refine W.icmp_gt C 54 d10_38 rfl (fun bq1 => ?_) (fun bq1 => absurd hj bq1)
  refine W.aload C d10_54 rfl rfl ?_
  exact W.aret C d10_56 rfl rfl rfl (FN.ok (by decide) (by decide) ⟨d4, rfl, K0, Ld4, sz_d4⟩)

theorem ef_i4_4_2 (m : MethodId) (a1 : Addr) (b1 : Addr) : entryFrame m #[(.ref a1), (.ref b1), (.int (0 : Int32)), (.int (4 : Int32)), .null] 6 = mkF m 0 #[.val (.ref a1), .val (.ref b1), .val (.int (0 : Int32)), .val (.int (4 : Int32)), .val .null, .unset] [] := by first | (simp [entryFrame, mkF, argsToLocals, Value.category]; done) | rfl
set_option maxRecDepth 65536 in
set_option maxHeartbeats 40000000 in
theorem con_i4_4_2 (l : Launch) (Z : State) (a0 : Array Value) (hw : ∀ d ∈ tables_1, d.before a0 Z = true) (h0 : Heap) (n0 : Nat) (a1 : Addr) (b1 : Addr) (c0 c1 c2 c3 : Int32) (hc0 : ¬ (255 : Int32) < c0) (hc1 : ¬ (255 : Int32) < c1) (hj : (255 : Int32) < c2) (hr : 0 ≤ c2.toInt ∧ c2.toInt < 65536) (u0 u1 : Value) (cv : Int32) (ne_a1_b1 : a1 ≠ b1) (g_a1 : n0 ≤ a1) (E_a1 : Exa Z h0 a1 "java/lang/String") (Fv : Fld Z h0 a1 "java/lang/String" "value" "[B" u0) (Fc : Fld Z h0 a1 "java/lang/String" "coder" "B" u1) (Ls : Al Z h0 b1 .char [(.int c0), (.int c1), (.int c2), (.int c3)]) (S_C : Sta Z h0 "java/lang/String" "COMPACT_STRINGS" "Z" (.int cv)) (hcv : ¬ cv = 0) (S_A : Sta Z h0 "java/lang/StringUTF16" "$assertionsDisabled" "Z" (.int (1 : Int32))) (S_H : Sta Z h0 "java/lang/StringUTF16" "HI_BYTE_SHIFT" "I" (.int (0 : Int32))) (S_L : Sta Z h0 "java/lang/StringUTF16" "LO_BYTE_SHIFT" "I" (.int (8 : Int32))) (Z0 : n0 ≤ h0.size) : Con l Z y3 jdk_42_method_149_code 6 none ({ frames := 4, cells := 2, slots := 12, locals := 57 } : Room) #[(.ref a1), (.ref b1), (.int (0 : Int32)), (.int (4 : Int32)), .null] h0 n0 (fun v h => v = none ∧ Keep h0 h [a1] ∧ Exa Z h a1 "java/lang/String" ∧ ∃ d, Fld Z h a1 "java/lang/String" "value" "[B" (.ref d) ∧ Fld Z h a1 "java/lang/String" "coder" "B" (.int 1) ∧ Al Z h d .byte [(.int (((c0 >>> ((0 : Int32) &&& 31))).toInt8.toInt32)), (.int (((c0 >>> ((8 : Int32) &&& 31))).toInt8.toInt32)), (.int (((c1 >>> ((0 : Int32) &&& 31))).toInt8.toInt32)), (.int (((c1 >>> ((8 : Int32) &&& 31))).toInt8.toInt32)), (.int (((c2 >>> ((0 : Int32) &&& 31))).toInt8.toInt32)), (.int (((c2 >>> ((8 : Int32) &&& 31))).toInt8.toInt32)), (.int (((c3 >>> ((0 : Int32) &&& 31))).toInt8.toInt32)), (.int (((c3 >>> ((8 : Int32) &&& 31))).toInt8.toInt32))]) := by
  refine Con.of pf_3 (fun m => ef_i4_4_2 m a1 b1) ?_
  intro p e s m below meth c C
  have K0 : Keep h0 h0 [a1] := Keep.refl _ _
  refine W.aloadN C d3_0 rfl rfl ?_
  refine W.initO C d3_1 (tkw hw 17 rfl) (tkw hw 18 rfl) (tkw hw 19 rfl) 0 rfl (by decide) (by decide) rfl ?_
  refine W.iloadN C d3_4 rfl ?_
  refine W.if_ne C 27 d3_5 rfl (fun _ => ?_) (fun b => absurd b (by decide))
  refine W.getS C d3_27 (tkw hw 51 rfl) Via.refl S_C ?_
  refine W.if_eq C 58 d3_30 rfl (fun bq1 => absurd bq1 hcv) (fun bq1 => ?_)
  refine W.aloadN C d3_33 rfl rfl ?_
  refine W.iloadN C d3_34 rfl ?_
  refine W.iloadN C d3_35 rfl ?_
  refine W.callS C (y' := y10) d3_36 (tkw hw 53 rfl) (tkw hw 54 rfl) (tkw hw 55 rfl) (tkw hw 56 rfl) (by decide) (argsL := [(.ref b1), (.int (0 : Int32)), (.int (4 : Int32))]) (rest := []) rfl (lenOf pd_12 rfl) (con_c3_4_2 l Z a0 hw h0 n0 b1 c0 c1 c2 c3 hc0 hc1 hj hr Ls S_A S_H S_L Z0) 0 2 12 rfl rfl rfl (by decide) (by decide) (by decide) (by decide) rfl ?_
  rintro _ hp2 ⟨d1, rfl, Kc, Ld1, sz⟩
  have ne_a1_d1 : a1 ≠ d1 := Nat.ne_of_lt (Nat.lt_of_lt_of_le E_a1.lt sz)
  replace E_a1 := E_a1.ext (ext0 Kc)
  replace Fv := Fv.ext (ext0 Kc)
  replace Fc := Fc.ext (ext0 Kc)
  replace Ls := Ls.ext (ext0 Kc)
  replace S_A := S_A.ext (ext0 Kc)
  replace S_H := S_H.ext (ext0 Kc)
  replace S_L := S_L.ext (ext0 Kc)
  replace S_C := S_C.ext (ext0 Kc)
  replace Z0 := Nat.le_trans Z0 (ext0 Kc).1
  replace K0 := K0.ext (ext0 Kc)
  refine W.astore C #[.val (.ref a1), .val (.ref b1), .val (.int (0 : Int32)), .val (.int (4 : Int32)), .val .null, .val (.ref d1)] d3_39 rfl rfl ?_
  refine W.aloadN C d3_41 rfl rfl ?_
  refine W.aload C d3_42 rfl rfl ?_
  refine W.iloadN C d3_44 rfl ?_
  refine W.callS C (y' := y12) d3_45 (tkw hw 60 rfl) (tkw hw 61 rfl) (tkw hw 55 rfl) (tkw hw 62 rfl) (by decide) (argsL := [(.ref d1), (.int (4 : Int32))]) (rest := [(.ref a1)]) rfl (lenOf pd_14 rfl) (con_cou_4 l Z a0 hw hp2 n0 d1 c0 c1 c2 c3 Ld1 Z0) 1 2 12 rfl rfl rfl (by decide) (by decide) (by decide) (by decide) rfl ?_
  rintro _ _ ⟨rfl, rfl⟩
  refine W.putF C d3_48 (tkw hw 27 rfl) Via.refl Fc E_a1 (Or.inr ⟨(tkw hw 23 rfl), rfl, rfl⟩) (tkw hw 7 rfl) (ty := .byte) (by decide) rfl rfl g_a1 ?_
  intro hp3 U4
  replace Fc := Fc.same U4
  replace E_a1 := E_a1.wr U4
  replace Fv := Fv.other U4 (Or.inr (slot_ne (Or.inr (tkw hw 22 rfl)) (Or.inr (tkw hw 23 rfl)) (by decide) (t := (.array .byte)) (t' := .byte) (by decide) (by decide)))
  replace Ls := Ls.other U4 (Ne.symm ne_a1_b1)
  replace S_A := S_A.wr U4
  replace S_H := S_H.wr U4
  replace S_L := S_L.wr U4
  replace S_C := S_C.wr U4
  replace Z0 := Nat.le_trans Z0 (Nat.le_of_eq (U4.size).symm)
  replace K0 := K0.wr U4 (Or.inl (List.mem_of_getElem? (i := 0) rfl))
  replace Ld1 := Ld1.other U4 (Ne.symm ne_a1_d1)
  refine W.aloadN C d3_51 rfl rfl ?_
  refine W.aload C d3_52 rfl rfl ?_
  refine W.putF C d3_54 (tkw hw 26 rfl) Via.refl Fv E_a1 (Or.inr ⟨(tkw hw 22 rfl), rfl, rfl⟩) (tkw hw 7 rfl) (ty := (.array .byte)) (by decide) rfl rfl g_a1 ?_
  intro hp5 U6
  replace Fv := Fv.same U6
  replace E_a1 := E_a1.wr U6
  replace Fc := Fc.other U6 (Or.inr (slot_ne (Or.inr (tkw hw 23 rfl)) (Or.inr (tkw hw 22 rfl)) (by decide) (t := .byte) (t' := (.array .byte)) (by decide) (by decide)))
  replace Ls := Ls.other U6 (Ne.symm ne_a1_b1)
  replace S_A := S_A.wr U6
  replace S_H := S_H.wr U6
  replace S_L := S_L.wr U6
  replace S_C := S_C.wr U6
  replace Z0 := Nat.le_trans Z0 (Nat.le_of_eq (U6.size).symm)
  replace K0 := K0.wr U6 (Or.inl (List.mem_of_getElem? (i := 0) rfl))
  replace Ld1 := Ld1.other U6 (Ne.symm ne_a1_d1)
  exact W.retV C d3_57 (FN.ok (by decide) (by decide) ⟨rfl, K0, E_a1, d1, Fv, Fc, Ld1⟩)

theorem ef_i1_4_2 (m : MethodId) (a1 : Addr) (b1 : Addr) : entryFrame m #[(.ref a1), (.ref b1)] 2 = mkF m 0 #[.val (.ref a1), .val (.ref b1)] [] := by first | (simp [entryFrame, mkF, argsToLocals, Value.category]; done) | rfl
set_option maxRecDepth 65536 in
set_option maxHeartbeats 40000000 in
theorem con_i1_4_2 (l : Launch) (Z : State) (a0 : Array Value) (hw : ∀ d ∈ tables_1, d.before a0 Z = true) (h0 : Heap) (n0 : Nat) (a1 : Addr) (b1 : Addr) (c0 c1 c2 c3 : Int32) (hc0 : ¬ (255 : Int32) < c0) (hc1 : ¬ (255 : Int32) < c1) (hj : (255 : Int32) < c2) (hr : 0 ≤ c2.toInt ∧ c2.toInt < 65536) (u0 u1 : Value) (cv : Int32) (ne_a1_b1 : a1 ≠ b1) (g_a1 : n0 ≤ a1) (E_a1 : Exa Z h0 a1 "java/lang/String") (Fv : Fld Z h0 a1 "java/lang/String" "value" "[B" u0) (Fc : Fld Z h0 a1 "java/lang/String" "coder" "B" u1) (Ls : Al Z h0 b1 .char [(.int c0), (.int c1), (.int c2), (.int c3)]) (S_C : Sta Z h0 "java/lang/String" "COMPACT_STRINGS" "Z" (.int cv)) (hcv : ¬ cv = 0) (S_A : Sta Z h0 "java/lang/StringUTF16" "$assertionsDisabled" "Z" (.int (1 : Int32))) (S_H : Sta Z h0 "java/lang/StringUTF16" "HI_BYTE_SHIFT" "I" (.int (0 : Int32))) (S_L : Sta Z h0 "java/lang/StringUTF16" "LO_BYTE_SHIFT" "I" (.int (8 : Int32))) (Z0 : n0 ≤ h0.size) : Con l Z y2 jdk_42_method_3_code 2 none ({ frames := 5, cells := 2, slots := 12, locals := 74 } : Room) #[(.ref a1), (.ref b1)] h0 n0 (fun v h => v = none ∧ Keep h0 h [a1] ∧ Exa Z h a1 "java/lang/String" ∧ ∃ d, Fld Z h a1 "java/lang/String" "value" "[B" (.ref d) ∧ Fld Z h a1 "java/lang/String" "coder" "B" (.int 1) ∧ Al Z h d .byte [(.int (((c0 >>> ((0 : Int32) &&& 31))).toInt8.toInt32)), (.int (((c0 >>> ((8 : Int32) &&& 31))).toInt8.toInt32)), (.int (((c1 >>> ((0 : Int32) &&& 31))).toInt8.toInt32)), (.int (((c1 >>> ((8 : Int32) &&& 31))).toInt8.toInt32)), (.int (((c2 >>> ((0 : Int32) &&& 31))).toInt8.toInt32)), (.int (((c2 >>> ((8 : Int32) &&& 31))).toInt8.toInt32)), (.int (((c3 >>> ((0 : Int32) &&& 31))).toInt8.toInt32)), (.int (((c3 >>> ((8 : Int32) &&& 31))).toInt8.toInt32))]) := by
  refine Con.of pf_2 (fun m => ef_i1_4_2 m a1 b1) ?_
  intro p e s m below meth c C
  have K0 : Keep h0 h0 [a1] := Keep.refl _ _
  refine W.aloadN C d2_0 rfl rfl ?_
  refine W.aloadN C d2_1 rfl rfl ?_
  refine W.iconst C (0 : Int32) d2_2 rfl ?_
  refine W.aloadN C d2_3 rfl rfl ?_
  refine W.arrlen C (4 : Int32) d2_4 Ls rfl ?_
  refine W.aconstNull C d2_5 ?_
  refine W.callI C (y' := y3) d2_6 rfl (tkw hw 13 rfl) (tkw hw 14 rfl) (tkw hw 8 rfl) (tkw hw 16 rfl) (by decide) (a := a1) (argsL := [(.ref b1), (.int (0 : Int32)), (.int (4 : Int32)), .null]) (rest := []) rfl (lenOf pd_15 rfl) (con_i4_4_2 l Z a0 hw h0 n0 a1 b1 c0 c1 c2 c3 hc0 hc1 hj hr u0 u1 cv ne_a1_b1 g_a1 E_a1 Fv Fc Ls S_C hcv S_A S_H S_L Z0) 0 2 12 rfl rfl rfl (by decide) (by decide) (by decide) (by decide) rfl ?_
  rintro _ hp1 ⟨rfl, Kc, E_n, d, Fv_n, Fc_n, Ld⟩
  replace Ls := Ls.keep Kc (ninS (Ne.symm ne_a1_b1) nin0)
  replace Z0 := Nat.le_trans Z0 Kc.1
  replace K0 := K0.trans Kc (allS (Or.inl (List.mem_of_getElem? (i := 0) rfl)) all0)
  replace E_a1 := E_n
  replace Fv := Fv_n
  replace Fc := Fc_n
  exact W.retV C d2_9 (FN.ok (by decide) (by decide) ⟨rfl, K0, E_a1, d, Fv, Fc, Ld⟩)

theorem ef_c4_4_3 (m : MethodId) (b1 : Addr) (d1 : Addr) : entryFrame m #[(.ref b1), (.int (0 : Int32)), (.ref d1), (.int (0 : Int32)), (.int (4 : Int32))] 7 = mkF m 0 #[.val (.ref b1), .val (.int (0 : Int32)), .val (.ref d1), .val (.int (0 : Int32)), .val (.int (4 : Int32)), .unset, .unset] [] := by first | (simp [entryFrame, mkF, argsToLocals, Value.category]; done) | rfl
set_option maxRecDepth 65536 in
set_option maxHeartbeats 40000000 in
theorem con_c4_4_3 (l : Launch) (Z : State) (a0 : Array Value) (hw : ∀ d ∈ tables_1, d.before a0 Z = true) (h0 : Heap) (n0 : Nat) (b1 : Addr) (d1 : Addr) (c0 c1 c2 c3 : Int32) (hc0 : ¬ (255 : Int32) < c0) (hc1 : ¬ (255 : Int32) < c1) (hc2 : ¬ (255 : Int32) < c2) (hj : (255 : Int32) < c3) (ne_b1_d1 : b1 ≠ d1) (g_d1 : n0 ≤ d1) (Ls : Al Z h0 b1 .char [(.int c0), (.int c1), (.int c2), (.int c3)]) (Ld : Al Z h0 d1 .byte [(.int (0 : Int32)), (.int (0 : Int32)), (.int (0 : Int32)), (.int (0 : Int32))]) (Z0 : n0 ≤ h0.size) : Con l Z y11 jdk_52_method_21_code 7 (some .int) ({ frames := 0, cells := 0, slots := 0, locals := 0 } : Room) #[(.ref b1), (.int (0 : Int32)), (.ref d1), (.int (0 : Int32)), (.int (4 : Int32))] h0 n0 (fun v h => v = some (.int 3) ∧ Keep h0 h [d1]) := by
  refine Con.of pf_11 (fun m => ef_c4_4_3 m b1 d1) ?_
  intro p e s m below meth c C
  have K0 : Keep h0 h0 [d1] := Keep.refl _ _
  refine W.iconst C (0 : Int32) d11_0 rfl ?_
  refine W.istore C #[.val (.ref b1), .val (.int (0 : Int32)), .val (.ref d1), .val (.int (0 : Int32)), .val (.int (4 : Int32)), .val (.int (0 : Int32)), .unset] d11_1 rfl ?_
  refine W.iload C d11_3 rfl ?_
  refine W.iload C d11_5 rfl ?_
  refine W.icmp_ge C 44 d11_7 rfl (fun b => absurd b (by decide)) (fun _ => ?_)
  refine W.aloadN C d11_10 rfl rfl ?_
  refine W.iloadN C d11_11 rfl ?_
  refine W.caload C 0 d11_12 Ls rfl rfl ?_
  refine W.istore C #[.val (.ref b1), .val (.int (0 : Int32)), .val (.ref d1), .val (.int (0 : Int32)), .val (.int (4 : Int32)), .val (.int (0 : Int32)), .val (.int c0)] d11_13 rfl ?_
  refine W.iload C d11_15 rfl ?_
  refine W.sipush C (255 : Int32) d11_17 rfl ?_
  refine W.icmp_le C 26 d11_20 rfl (fun bq1 => ?_) (fun bq1 => absurd bq1 hc0)
  refine W.aloadN C d11_26 rfl rfl ?_
  refine W.iloadN C d11_27 rfl ?_
  refine W.iload C d11_28 rfl ?_
  refine W.i2b C d11_30 ?_
  refine W.bastoreI C 0 d11_31 Ld rfl (show (0 : Nat) < 4 by decide) g_d1 ?_
  intro hp1 U2 Ld_
  replace Ls := Ls.other U2 ne_b1_d1
  replace Z0 := Nat.le_trans Z0 (Nat.le_of_eq (U2.size).symm)
  replace K0 := K0.wr U2 (Or.inl (List.mem_of_getElem? (i := 0) rfl))
  replace Ld : Al Z hp1 d1 .byte [(.int ((c0).toInt8.toInt32)), (.int (0 : Int32)), (.int (0 : Int32)), (.int (0 : Int32))] := Ld_
  refine W.iinc C (1 : Int32) #[.val (.ref b1), .val (.int (1 : Int32)), .val (.ref d1), .val (.int (0 : Int32)), .val (.int (4 : Int32)), .val (.int (0 : Int32)), .val (.int c0)] d11_32 rfl rfl rfl ?_
  refine W.iinc C (1 : Int32) #[.val (.ref b1), .val (.int (1 : Int32)), .val (.ref d1), .val (.int (1 : Int32)), .val (.int (4 : Int32)), .val (.int (0 : Int32)), .val (.int c0)] d11_35 rfl rfl rfl ?_
  refine W.iinc C (1 : Int32) #[.val (.ref b1), .val (.int (1 : Int32)), .val (.ref d1), .val (.int (1 : Int32)), .val (.int (4 : Int32)), .val (.int (1 : Int32)), .val (.int c0)] d11_38 rfl rfl rfl ?_
  refine W.goto C 3 d11_41 rfl ?_
  refine W.iload C d11_3 rfl ?_
  refine W.iload C d11_5 rfl ?_
  refine W.icmp_ge C 44 d11_7 rfl (fun b => absurd b (by decide)) (fun _ => ?_)
  refine W.aloadN C d11_10 rfl rfl ?_
  refine W.iloadN C d11_11 rfl ?_
  refine W.caload C 1 d11_12 Ls rfl rfl ?_
  refine W.istore C #[.val (.ref b1), .val (.int (1 : Int32)), .val (.ref d1), .val (.int (1 : Int32)), .val (.int (4 : Int32)), .val (.int (1 : Int32)), .val (.int c1)] d11_13 rfl ?_
  refine W.iload C d11_15 rfl ?_
  refine W.sipush C (255 : Int32) d11_17 rfl ?_
  refine W.icmp_le C 26 d11_20 rfl (fun bq2 => ?_) (fun bq2 => absurd bq2 hc1)
  refine W.aloadN C d11_26 rfl rfl ?_
  refine W.iloadN C d11_27 rfl ?_
  refine W.iload C d11_28 rfl ?_
  refine W.i2b C d11_30 ?_
  refine W.bastoreI C 1 d11_31 Ld rfl (show (1 : Nat) < 4 by decide) g_d1 ?_
  intro hp3 U4 Ld_
  replace Ls := Ls.other U4 ne_b1_d1
  replace Z0 := Nat.le_trans Z0 (Nat.le_of_eq (U4.size).symm)
  replace K0 := K0.wr U4 (Or.inl (List.mem_of_getElem? (i := 0) rfl))
  replace Ld : Al Z hp3 d1 .byte [(.int ((c0).toInt8.toInt32)), (.int ((c1).toInt8.toInt32)), (.int (0 : Int32)), (.int (0 : Int32))] := Ld_
  refine W.iinc C (2 : Int32) #[.val (.ref b1), .val (.int (2 : Int32)), .val (.ref d1), .val (.int (1 : Int32)), .val (.int (4 : Int32)), .val (.int (1 : Int32)), .val (.int c1)] d11_32 rfl rfl rfl ?_
  refine W.iinc C (2 : Int32) #[.val (.ref b1), .val (.int (2 : Int32)), .val (.ref d1), .val (.int (2 : Int32)), .val (.int (4 : Int32)), .val (.int (1 : Int32)), .val (.int c1)] d11_35 rfl rfl rfl ?_
  refine W.iinc C (2 : Int32) #[.val (.ref b1), .val (.int (2 : Int32)), .val (.ref d1), .val (.int (2 : Int32)), .val (.int (4 : Int32)), .val (.int (2 : Int32)), .val (.int c1)] d11_38 rfl rfl rfl ?_
  refine W.goto C 3 d11_41 rfl ?_
  refine W.iload C d11_3 rfl ?_
  refine W.iload C d11_5 rfl ?_
  refine W.icmp_ge C 44 d11_7 rfl (fun b => absurd b (by decide)) (fun _ => ?_)
  refine W.aloadN C d11_10 rfl rfl ?_
  refine W.iloadN C d11_11 rfl ?_
  refine W.caload C 2 d11_12 Ls rfl rfl ?_
  refine W.istore C #[.val (.ref b1), .val (.int (2 : Int32)), .val (.ref d1), .val (.int (2 : Int32)), .val (.int (4 : Int32)), .val (.int (2 : Int32)), .val (.int c2)] d11_13 rfl ?_
  refine W.iload C d11_15 rfl ?_
  refine W.sipush C (255 : Int32) d11_17 rfl ?_
  refine W.icmp_le C 26 d11_20 rfl (fun bq3 => ?_) (fun bq3 => absurd bq3 hc2)
  refine W.aloadN C d11_26 rfl rfl ?_
  refine W.iloadN C d11_27 rfl ?_
  refine W.iload C d11_28 rfl ?_
  refine W.i2b C d11_30 ?_
  refine W.bastoreI C 2 d11_31 Ld rfl (show (2 : Nat) < 4 by decide) g_d1 ?_
  intro hp5 U6 Ld_
  replace Ls := Ls.other U6 ne_b1_d1
  replace Z0 := Nat.le_trans Z0 (Nat.le_of_eq (U6.size).symm)
  replace K0 := K0.wr U6 (Or.inl (List.mem_of_getElem? (i := 0) rfl))
  replace Ld : Al Z hp5 d1 .byte [(.int ((c0).toInt8.toInt32)), (.int ((c1).toInt8.toInt32)), (.int ((c2).toInt8.toInt32)), (.int (0 : Int32))] := Ld_
  refine W.iinc C (3 : Int32) #[.val (.ref b1), .val (.int (3 : Int32)), .val (.ref d1), .val (.int (2 : Int32)), .val (.int (4 : Int32)), .val (.int (2 : Int32)), .val (.int c2)] d11_32 rfl rfl rfl ?_
  refine W.iinc C (3 : Int32) #[.val (.ref b1), .val (.int (3 : Int32)), .val (.ref d1), .val (.int (3 : Int32)), .val (.int (4 : Int32)), .val (.int (2 : Int32)), .val (.int c2)] d11_35 rfl rfl rfl ?_
  refine W.iinc C (3 : Int32) #[.val (.ref b1), .val (.int (3 : Int32)), .val (.ref d1), .val (.int (3 : Int32)), .val (.int (4 : Int32)), .val (.int (3 : Int32)), .val (.int c2)] d11_38 rfl rfl rfl ?_
  refine W.goto C 3 d11_41 rfl ?_
  refine W.iload C d11_3 rfl ?_
  refine W.iload C d11_5 rfl ?_
  refine W.icmp_ge C 44 d11_7 rfl (fun b => absurd b (by decide)) (fun _ => ?_)
  refine W.aloadN C d11_10 rfl rfl ?_
  refine W.iloadN C d11_11 rfl ?_
  refine W.caload C 3 d11_12 Ls rfl rfl ?_
  refine W.istore C #[.val (.ref b1), .val (.int (3 : Int32)), .val (.ref d1), .val (.int (3 : Int32)), .val (.int (4 : Int32)), .val (.int (3 : Int32)), .val (.int c3)] d11_13 rfl ?_
  refine W.iload C d11_15 rfl ?_
  refine W.sipush C (255 : Int32) d11_17 rfl ?_
  refine W.icmp_le C 26 d11_20 rfl (fun bq4 => absurd hj bq4) (fun bq4 => ?_)
  refine W.iload C d11_23 rfl ?_
  exact W.iret C d11_25 (by simp) rfl (FN.ok (by decide) (by decide) ⟨rfl, K0⟩)

theorem ef_c3_4_3 (m : MethodId) (b1 : Addr) : entryFrame m #[(.ref b1), (.int (0 : Int32)), (.int (4 : Int32))] 6 = mkF m 0 #[.val (.ref b1), .val (.int (0 : Int32)), .val (.int (4 : Int32)), .unset, .unset, .unset] [] := by first | (simp [entryFrame, mkF, argsToLocals, Value.category]; done) | rfl
set_option maxRecDepth 65536 in
set_option maxHeartbeats 40000000 in
theorem con_c3_4_3 (l : Launch) (Z : State) (a0 : Array Value) (hw : ∀ d ∈ tables_1, d.before a0 Z = true) (h0 : Heap) (n0 : Nat) (b1 : Addr) (c0 c1 c2 c3 : Int32) (hc0 : ¬ (255 : Int32) < c0) (hc1 : ¬ (255 : Int32) < c1) (hc2 : ¬ (255 : Int32) < c2) (hj : (255 : Int32) < c3) (hr : 0 ≤ c3.toInt ∧ c3.toInt < 65536) (Ls : Al Z h0 b1 .char [(.int c0), (.int c1), (.int c2), (.int c3)]) (S_A : Sta Z h0 "java/lang/StringUTF16" "$assertionsDisabled" "Z" (.int (1 : Int32))) (S_H : Sta Z h0 "java/lang/StringUTF16" "HI_BYTE_SHIFT" "I" (.int (0 : Int32))) (S_L : Sta Z h0 "java/lang/StringUTF16" "LO_BYTE_SHIFT" "I" (.int (8 : Int32))) (Z0 : n0 ≤ h0.size) : Con l Z y10 jdk_52_method_16_code 6 (some (.array .byte)) ({ frames := 3, cells := 2, slots := 12, locals := 40 } : Room) #[(.ref b1), (.int (0 : Int32)), (.int (4 : Int32))] h0 n0 (fun v h => ∃ d, v = some (.ref d) ∧ Keep h0 h [] ∧ Al Z h d .byte [(.int (((c0 >>> ((0 : Int32) &&& 31))).toInt8.toInt32)), (.int (((c0 >>> ((8 : Int32) &&& 31))).toInt8.toInt32)), (.int (((c1 >>> ((0 : Int32) &&& 31))).toInt8.toInt32)), (.int (((c1 >>> ((8 : Int32) &&& 31))).toInt8.toInt32)), (.int (((c2 >>> ((0 : Int32) &&& 31))).toInt8.toInt32)), (.int (((c2 >>> ((8 : Int32) &&& 31))).toInt8.toInt32)), (.int (((c3 >>> ((0 : Int32) &&& 31))).toInt8.toInt32)), (.int (((c3 >>> ((8 : Int32) &&& 31))).toInt8.toInt32))] ∧ h0.size ≤ d) := by
  refine Con.of pf_10 (fun m => ef_c3_4_3 m b1) ?_
  intro p e s m below meth c C
  have K0 : Keep h0 h0 [] := Keep.refl _ _
  refine W.iloadN C d10_0 rfl ?_
  refine W.newP C 4 4 d10_1 (tkw hw 21 rfl) rfl (Nat.le_refl _) (by decide) 1 4 rfl rfl (by decide) (by decide) ?_
  intro ob1 hp2 hob1 Eob1 Lob1
  have ne_b1_ob1 : b1 ≠ ob1 := Nat.ne_of_lt (by rw [hob1]; exact Ls.lt)
  have ge_ob1 : n0 ≤ ob1 := by rw [hob1]; exact Z0
  have sz_ob1 : h0.size ≤ ob1 := by rw [hob1]; exact K0.1
  replace Ls := Ls.ext Eob1
  replace S_A := S_A.ext Eob1
  replace S_H := S_H.ext Eob1
  replace S_L := S_L.ext Eob1
  replace Z0 := Nat.le_trans Z0 Eob1.1
  replace K0 := K0.ext Eob1
  replace Lob1 : Al Z hp2 ob1 .byte [(.int (0 : Int32)), (.int (0 : Int32)), (.int (0 : Int32)), (.int (0 : Int32))] := Lob1
  refine W.astoreN C #[.val (.ref b1), .val (.int (0 : Int32)), .val (.int (4 : Int32)), .val (.ref ob1), .unset, .unset] d10_3 rfl rfl ?_
  refine W.aloadN C d10_4 rfl rfl ?_
  refine W.iloadN C d10_5 rfl ?_
  refine W.aloadN C d10_6 rfl rfl ?_
  refine W.iconst C (0 : Int32) d10_7 rfl ?_
  refine W.iloadN C d10_8 rfl ?_
  refine W.callS C (y' := y11) d10_9 (tkw hw 57 rfl) (tkw hw 58 rfl) (tkw hw 55 rfl) (tkw hw 59 rfl) (by decide) (argsL := [(.ref b1), (.int (0 : Int32)), (.ref ob1), (.int (0 : Int32)), (.int (4 : Int32))]) (rest := []) rfl (lenOf pd_11 rfl) (con_c4_4_3 l Z a0 hw hp2 n0 b1 ob1 c0 c1 c2 c3 hc0 hc1 hc2 hj ne_b1_ob1 ge_ob1 Ls Lob1 Z0) 0 1 4 rfl rfl rfl (by decide) (by decide) (by decide) (by decide) rfl ?_
  rintro _ hp3 ⟨rfl, Kc⟩
  replace S_A := own_sa2 S_A Lob1 Kc
  replace S_H := own_sa2 S_H Lob1 Kc
  replace S_L := own_sa2 S_L Lob1 Kc
  replace Ls := Ls.keep Kc (ninS ne_b1_ob1 nin0)
  replace Z0 := Nat.le_trans Z0 Kc.1
  replace K0 := K0.trans Kc (allS (Or.inr sz_ob1) all0)
  refine W.istore C #[.val (.ref b1), .val (.int (0 : Int32)), .val (.int (4 : Int32)), .val (.ref ob1), .val (.int (3 : Int32)), .unset] d10_12 rfl ?_
  refine W.iload C d10_14 rfl ?_
  refine W.iloadN C d10_16 rfl ?_
  refine W.icmp_eq C 57 d10_17 rfl (fun b => absurd b (by decide)) (fun _ => ?_)
  refine W.aloadN C d10_20 rfl rfl ?_
  refine W.iloadN C d10_21 rfl ?_
  refine W.iloadN C d10_22 rfl ?_
  refine W.callS C (y' := y18) d10_23 (tkw hw 85 rfl) (tkw hw 86 rfl) (tkw hw 55 rfl) (tkw hw 87 rfl) (by decide) (argsL := [(.ref b1), (.int (0 : Int32)), (.int (4 : Int32))]) (rest := []) rfl (lenOf pd_12 rfl) (con_tb_4 l Z a0 hw hp3 n0 b1 c0 c1 c2 c3 Ls S_A S_H S_L Z0) 0 2 12 rfl rfl rfl (by decide) (by decide) (by decide) (by decide) rfl ?_
  rintro _ hp5 ⟨d4, rfl, Kc, Ld4, sz⟩
  have sz_d4 := Nat.le_trans K0.1 sz
  replace Ls := Ls.ext (ext0 Kc)
  replace Z0 := Nat.le_trans Z0 (ext0 Kc).1
  replace K0 := K0.ext (ext0 Kc)
  replace S_A := S_A.ext (ext0 Kc)
  replace S_H := S_H.ext (ext0 Kc)
  replace S_L := S_L.ext (ext0 Kc)
  refine W.astore C #[.val (.ref b1), .val (.int (0 : Int32)), .val (.int (4 : Int32)), .val (.ref ob1), .val (.int (3 : Int32)), .val (.ref d4)] d10_26 rfl rfl ?_
  refine W.aload C d10_28 rfl rfl ?_
  refine W.iload C d10_30 rfl ?_
  refine W.callS C (y' := y22) d10_32 (tkw hw 101 rfl) (tkw hw 102 rfl) (tkw hw 55 rfl) (tkw hw 103 rfl) (by decide) (argsL := [(.ref d4), (.int (3 : Int32))]) (rest := []) rfl (lenOf pd_4 rfl) (con_gc_3 l Z a0 hw hp5 n0 d4 _ c3 hr.1 hr.2 rfl rfl Ld4 S_A S_H S_L Z0) 0 2 12 rfl rfl rfl (by decide) (by decide) (by decide) (by decide) rfl ?_
  rintro _ _ ⟨rfl, rfl⟩
  refine W.sipush C (255 : Int32) d10_35 rfl ?_
  refine W.icmp_gt C 54 d10_38 rfl (fun bq1 => ?_) (fun bq1 => absurd hj bq1)
  refine W.aload C d10_54 rfl rfl ?_
  exact W.aret C d10_56 rfl rfl rfl (FN.ok (by decide) (by decide) ⟨d4, rfl, K0, Ld4, sz_d4⟩)

theorem ef_i4_4_3 (m : MethodId) (a1 : Addr) (b1 : Addr) : entryFrame m #[(.ref a1), (.ref b1), (.int (0 : Int32)), (.int (4 : Int32)), .null] 6 = mkF m 0 #[.val (.ref a1), .val (.ref b1), .val (.int (0 : Int32)), .val (.int (4 : Int32)), .val .null, .unset] [] := by first | (simp [entryFrame, mkF, argsToLocals, Value.category]; done) | rfl
set_option maxRecDepth 65536 in
set_option maxHeartbeats 40000000 in
theorem con_i4_4_3 (l : Launch) (Z : State) (a0 : Array Value) (hw : ∀ d ∈ tables_1, d.before a0 Z = true) (h0 : Heap) (n0 : Nat) (a1 : Addr) (b1 : Addr) (c0 c1 c2 c3 : Int32) (hc0 : ¬ (255 : Int32) < c0) (hc1 : ¬ (255 : Int32) < c1) (hc2 : ¬ (255 : Int32) < c2) (hj : (255 : Int32) < c3) (hr : 0 ≤ c3.toInt ∧ c3.toInt < 65536) (u0 u1 : Value) (cv : Int32) (ne_a1_b1 : a1 ≠ b1) (g_a1 : n0 ≤ a1) (E_a1 : Exa Z h0 a1 "java/lang/String") (Fv : Fld Z h0 a1 "java/lang/String" "value" "[B" u0) (Fc : Fld Z h0 a1 "java/lang/String" "coder" "B" u1) (Ls : Al Z h0 b1 .char [(.int c0), (.int c1), (.int c2), (.int c3)]) (S_C : Sta Z h0 "java/lang/String" "COMPACT_STRINGS" "Z" (.int cv)) (hcv : ¬ cv = 0) (S_A : Sta Z h0 "java/lang/StringUTF16" "$assertionsDisabled" "Z" (.int (1 : Int32))) (S_H : Sta Z h0 "java/lang/StringUTF16" "HI_BYTE_SHIFT" "I" (.int (0 : Int32))) (S_L : Sta Z h0 "java/lang/StringUTF16" "LO_BYTE_SHIFT" "I" (.int (8 : Int32))) (Z0 : n0 ≤ h0.size) : Con l Z y3 jdk_42_method_149_code 6 none ({ frames := 4, cells := 2, slots := 12, locals := 57 } : Room) #[(.ref a1), (.ref b1), (.int (0 : Int32)), (.int (4 : Int32)), .null] h0 n0 (fun v h => v = none ∧ Keep h0 h [a1] ∧ Exa Z h a1 "java/lang/String" ∧ ∃ d, Fld Z h a1 "java/lang/String" "value" "[B" (.ref d) ∧ Fld Z h a1 "java/lang/String" "coder" "B" (.int 1) ∧ Al Z h d .byte [(.int (((c0 >>> ((0 : Int32) &&& 31))).toInt8.toInt32)), (.int (((c0 >>> ((8 : Int32) &&& 31))).toInt8.toInt32)), (.int (((c1 >>> ((0 : Int32) &&& 31))).toInt8.toInt32)), (.int (((c1 >>> ((8 : Int32) &&& 31))).toInt8.toInt32)), (.int (((c2 >>> ((0 : Int32) &&& 31))).toInt8.toInt32)), (.int (((c2 >>> ((8 : Int32) &&& 31))).toInt8.toInt32)), (.int (((c3 >>> ((0 : Int32) &&& 31))).toInt8.toInt32)), (.int (((c3 >>> ((8 : Int32) &&& 31))).toInt8.toInt32))]) := by
  refine Con.of pf_3 (fun m => ef_i4_4_3 m a1 b1) ?_
  intro p e s m below meth c C
  have K0 : Keep h0 h0 [a1] := Keep.refl _ _
  refine W.aloadN C d3_0 rfl rfl ?_
  refine W.initO C d3_1 (tkw hw 17 rfl) (tkw hw 18 rfl) (tkw hw 19 rfl) 0 rfl (by decide) (by decide) rfl ?_
  refine W.iloadN C d3_4 rfl ?_
  refine W.if_ne C 27 d3_5 rfl (fun _ => ?_) (fun b => absurd b (by decide))
  refine W.getS C d3_27 (tkw hw 51 rfl) Via.refl S_C ?_
  refine W.if_eq C 58 d3_30 rfl (fun bq1 => absurd bq1 hcv) (fun bq1 => ?_)
  refine W.aloadN C d3_33 rfl rfl ?_
  refine W.iloadN C d3_34 rfl ?_
  refine W.iloadN C d3_35 rfl ?_
  refine W.callS C (y' := y10) d3_36 (tkw hw 53 rfl) (tkw hw 54 rfl) (tkw hw 55 rfl) (tkw hw 56 rfl) (by decide) (argsL := [(.ref b1), (.int (0 : Int32)), (.int (4 : Int32))]) (rest := []) rfl (lenOf pd_12 rfl) (con_c3_4_3 l Z a0 hw h0 n0 b1 c0 c1 c2 c3 hc0 hc1 hc2 hj hr Ls S_A S_H S_L Z0) 0 2 12 rfl rfl rfl (by decide) (by decide) (by decide) (by decide) rfl ?_
  rintro _ hp2 ⟨d1, rfl, Kc, Ld1, sz⟩
  have ne_a1_d1 : a1 ≠ d1 := Nat.ne_of_lt (Nat.lt_of_lt_of_le E_a1.lt sz)
  replace E_a1 := E_a1.ext (ext0 Kc)
  replace Fv := Fv.ext (ext0 Kc)
  replace Fc := Fc.ext (ext0 Kc)
  replace Ls := Ls.ext (ext0 Kc)
  replace S_A := S_A.ext (ext0 Kc)
  replace S_H := S_H.ext (ext0 Kc)
  replace S_L := S_L.ext (ext0 Kc)
  replace S_C := S_C.ext (ext0 Kc)
  replace Z0 := Nat.le_trans Z0 (ext0 Kc).1
  replace K0 := K0.ext (ext0 Kc)
  refine W.astore C #[.val (.ref a1), .val (.ref b1), .val (.int (0 : Int32)), .val (.int (4 : Int32)), .val .null, .val (.ref d1)] d3_39 rfl rfl ?_
  refine W.aloadN C d3_41 rfl rfl ?_
  refine W.aload C d3_42 rfl rfl ?_
  refine W.iloadN C d3_44 rfl ?_
  refine W.callS C (y' := y12) d3_45 (tkw hw 60 rfl) (tkw hw 61 rfl) (tkw hw 55 rfl) (tkw hw 62 rfl) (by decide) (argsL := [(.ref d1), (.int (4 : Int32))]) (rest := [(.ref a1)]) rfl (lenOf pd_14 rfl) (con_cou_4 l Z a0 hw hp2 n0 d1 c0 c1 c2 c3 Ld1 Z0) 1 2 12 rfl rfl rfl (by decide) (by decide) (by decide) (by decide) rfl ?_
  rintro _ _ ⟨rfl, rfl⟩
  refine W.putF C d3_48 (tkw hw 27 rfl) Via.refl Fc E_a1 (Or.inr ⟨(tkw hw 23 rfl), rfl, rfl⟩) (tkw hw 7 rfl) (ty := .byte) (by decide) rfl rfl g_a1 ?_
  intro hp3 U4
  replace Fc := Fc.same U4
  replace E_a1 := E_a1.wr U4
  replace Fv := Fv.other U4 (Or.inr (slot_ne (Or.inr (tkw hw 22 rfl)) (Or.inr (tkw hw 23 rfl)) (by decide) (t := (.array .byte)) (t' := .byte) (by decide) (by decide)))
  replace Ls := Ls.other U4 (Ne.symm ne_a1_b1)
  replace S_A := S_A.wr U4
  replace S_H := S_H.wr U4
  replace S_L := S_L.wr U4
  replace S_C := S_C.wr U4
  replace Z0 := Nat.le_trans Z0 (Nat.le_of_eq (U4.size).symm)
  replace K0 := K0.wr U4 (Or.inl (List.mem_of_getElem? (i := 0) rfl))
  replace Ld1 := Ld1.other U4 (Ne.symm ne_a1_d1)
  refine W.aloadN C d3_51 rfl rfl ?_
  refine W.aload C d3_52 rfl rfl ?_
  refine W.putF C d3_54 (tkw hw 26 rfl) Via.refl Fv E_a1 (Or.inr ⟨(tkw hw 22 rfl), rfl, rfl⟩) (tkw hw 7 rfl) (ty := (.array .byte)) (by decide) rfl rfl g_a1 ?_
  intro hp5 U6
  replace Fv := Fv.same U6
  replace E_a1 := E_a1.wr U6
  replace Fc := Fc.other U6 (Or.inr (slot_ne (Or.inr (tkw hw 23 rfl)) (Or.inr (tkw hw 22 rfl)) (by decide) (t := .byte) (t' := (.array .byte)) (by decide) (by decide)))
  replace Ls := Ls.other U6 (Ne.symm ne_a1_b1)
  replace S_A := S_A.wr U6
  replace S_H := S_H.wr U6
  replace S_L := S_L.wr U6
  replace S_C := S_C.wr U6
  replace Z0 := Nat.le_trans Z0 (Nat.le_of_eq (U6.size).symm)
  replace K0 := K0.wr U6 (Or.inl (List.mem_of_getElem? (i := 0) rfl))
  replace Ld1 := Ld1.other U6 (Ne.symm ne_a1_d1)
  exact W.retV C d3_57 (FN.ok (by decide) (by decide) ⟨rfl, K0, E_a1, d1, Fv, Fc, Ld1⟩)

theorem ef_i1_4_3 (m : MethodId) (a1 : Addr) (b1 : Addr) : entryFrame m #[(.ref a1), (.ref b1)] 2 = mkF m 0 #[.val (.ref a1), .val (.ref b1)] [] := by first | (simp [entryFrame, mkF, argsToLocals, Value.category]; done) | rfl
set_option maxRecDepth 65536 in
set_option maxHeartbeats 40000000 in
theorem con_i1_4_3 (l : Launch) (Z : State) (a0 : Array Value) (hw : ∀ d ∈ tables_1, d.before a0 Z = true) (h0 : Heap) (n0 : Nat) (a1 : Addr) (b1 : Addr) (c0 c1 c2 c3 : Int32) (hc0 : ¬ (255 : Int32) < c0) (hc1 : ¬ (255 : Int32) < c1) (hc2 : ¬ (255 : Int32) < c2) (hj : (255 : Int32) < c3) (hr : 0 ≤ c3.toInt ∧ c3.toInt < 65536) (u0 u1 : Value) (cv : Int32) (ne_a1_b1 : a1 ≠ b1) (g_a1 : n0 ≤ a1) (E_a1 : Exa Z h0 a1 "java/lang/String") (Fv : Fld Z h0 a1 "java/lang/String" "value" "[B" u0) (Fc : Fld Z h0 a1 "java/lang/String" "coder" "B" u1) (Ls : Al Z h0 b1 .char [(.int c0), (.int c1), (.int c2), (.int c3)]) (S_C : Sta Z h0 "java/lang/String" "COMPACT_STRINGS" "Z" (.int cv)) (hcv : ¬ cv = 0) (S_A : Sta Z h0 "java/lang/StringUTF16" "$assertionsDisabled" "Z" (.int (1 : Int32))) (S_H : Sta Z h0 "java/lang/StringUTF16" "HI_BYTE_SHIFT" "I" (.int (0 : Int32))) (S_L : Sta Z h0 "java/lang/StringUTF16" "LO_BYTE_SHIFT" "I" (.int (8 : Int32))) (Z0 : n0 ≤ h0.size) : Con l Z y2 jdk_42_method_3_code 2 none ({ frames := 5, cells := 2, slots := 12, locals := 74 } : Room) #[(.ref a1), (.ref b1)] h0 n0 (fun v h => v = none ∧ Keep h0 h [a1] ∧ Exa Z h a1 "java/lang/String" ∧ ∃ d, Fld Z h a1 "java/lang/String" "value" "[B" (.ref d) ∧ Fld Z h a1 "java/lang/String" "coder" "B" (.int 1) ∧ Al Z h d .byte [(.int (((c0 >>> ((0 : Int32) &&& 31))).toInt8.toInt32)), (.int (((c0 >>> ((8 : Int32) &&& 31))).toInt8.toInt32)), (.int (((c1 >>> ((0 : Int32) &&& 31))).toInt8.toInt32)), (.int (((c1 >>> ((8 : Int32) &&& 31))).toInt8.toInt32)), (.int (((c2 >>> ((0 : Int32) &&& 31))).toInt8.toInt32)), (.int (((c2 >>> ((8 : Int32) &&& 31))).toInt8.toInt32)), (.int (((c3 >>> ((0 : Int32) &&& 31))).toInt8.toInt32)), (.int (((c3 >>> ((8 : Int32) &&& 31))).toInt8.toInt32))]) := by
  refine Con.of pf_2 (fun m => ef_i1_4_3 m a1 b1) ?_
  intro p e s m below meth c C
  have K0 : Keep h0 h0 [a1] := Keep.refl _ _
  refine W.aloadN C d2_0 rfl rfl ?_
  refine W.aloadN C d2_1 rfl rfl ?_
  refine W.iconst C (0 : Int32) d2_2 rfl ?_
  refine W.aloadN C d2_3 rfl rfl ?_
  refine W.arrlen C (4 : Int32) d2_4 Ls rfl ?_
  refine W.aconstNull C d2_5 ?_
  refine W.callI C (y' := y3) d2_6 rfl (tkw hw 13 rfl) (tkw hw 14 rfl) (tkw hw 8 rfl) (tkw hw 16 rfl) (by decide) (a := a1) (argsL := [(.ref b1), (.int (0 : Int32)), (.int (4 : Int32)), .null]) (rest := []) rfl (lenOf pd_15 rfl) (con_i4_4_3 l Z a0 hw h0 n0 a1 b1 c0 c1 c2 c3 hc0 hc1 hc2 hj hr u0 u1 cv ne_a1_b1 g_a1 E_a1 Fv Fc Ls S_C hcv S_A S_H S_L Z0) 0 2 12 rfl rfl rfl (by decide) (by decide) (by decide) (by decide) rfl ?_
  rintro _ hp1 ⟨rfl, Kc, E_n, d, Fv_n, Fc_n, Ld⟩
  replace Ls := Ls.keep Kc (ninS (Ne.symm ne_a1_b1) nin0)
  replace Z0 := Nat.le_trans Z0 Kc.1
  replace K0 := K0.trans Kc (allS (Or.inl (List.mem_of_getElem? (i := 0) rfl)) all0)
  replace E_a1 := E_n
  replace Fv := Fv_n
  replace Fc := Fc_n
  exact W.retV C d2_9 (FN.ok (by decide) (by decide) ⟨rfl, K0, E_a1, d, Fv, Fc, Ld⟩)

abbrev y1 : MethodName := ⟨"com/example/dibs/dibs/redis/LockKeysCheckPrefixPinLaw", "clean", "(I)C"⟩
theorem d1_0 : decode method_2_code 0 = .ok (.iload_n 0, 1) := by decide +kernel
theorem d1_1 : decode method_2_code 1 = .ok (.ldc 7, 2) := by decide +kernel
theorem d1_3 : decode method_2_code 3 = .ok (.iand, 1) := by decide +kernel
theorem d1_4 : decode method_2_code 4 = .ok (.i2c, 1) := by decide +kernel
theorem d1_5 : decode method_2_code 5 = .ok (.istore_n 1, 1) := by decide +kernel
theorem d1_6 : decode method_2_code 6 = .ok (.iload_n 1, 1) := by decide +kernel
theorem d1_7 : decode method_2_code 7 = .ok (.bipush 123, 2) := by decide +kernel
theorem d1_9 : decode method_2_code 9 = .ok (.if_icmp .eq 9, 3) := by decide +kernel
theorem d1_12 : decode method_2_code 12 = .ok (.iload_n 1, 1) := by decide +kernel
theorem d1_13 : decode method_2_code 13 = .ok (.bipush 125, 2) := by decide +kernel
theorem d1_15 : decode method_2_code 15 = .ok (.if_icmp .ne 10, 3) := by decide +kernel
theorem d1_18 : decode method_2_code 18 = .ok (.iload_n 1, 1) := by decide +kernel
theorem d1_19 : decode method_2_code 19 = .ok (.sipush 256, 3) := by decide +kernel
theorem d1_22 : decode method_2_code 22 = .ok (.ixor, 1) := by decide +kernel
theorem d1_23 : decode method_2_code 23 = .ok (.i2c, 1) := by decide +kernel
theorem d1_24 : decode method_2_code 24 = .ok (.ireturn, 1) := by decide +kernel
theorem d1_25 : decode method_2_code 25 = .ok (.iload_n 1, 1) := by decide +kernel
theorem d1_26 : decode method_2_code 26 = .ok (.ireturn, 1) := by decide +kernel
theorem pf_1 : plainFor y1 = true := by first | exact plainFor_of_name (by first | (simp [plainName, overriddenIn]; done) | decide +kernel) | decide +kernel
theorem ef_1 (m : MethodId) (x : Int32) : entryFrame m #[(.int x)] 2 = mkF m 0 #[.val (.int x), .unset] [] := by first | (simp [entryFrame, mkF, argsToLocals, Value.category]; done) | rfl
def own_clean (x : Int32) : Int32 := if (((x &&& (65535 : Int32))).toUInt32.toUInt16.toUInt32.toInt32) = (123 : Int32) then ((((((x &&& (65535 : Int32))).toUInt32.toUInt16.toUInt32.toInt32) ^^^ (256 : Int32))).toUInt32.toUInt16.toUInt32.toInt32) else if (((x &&& (65535 : Int32))).toUInt32.toUInt16.toUInt32.toInt32) = (125 : Int32) then ((((((x &&& (65535 : Int32))).toUInt32.toUInt16.toUInt32.toInt32) ^^^ (256 : Int32))).toUInt32.toUInt16.toUInt32.toInt32) else (((x &&& (65535 : Int32))).toUInt32.toUInt16.toUInt32.toInt32)
set_option maxRecDepth 65536 in
set_option maxHeartbeats 40000000 in
theorem con_1 (l : Launch) (Z : State) (a0 : Array Value) (hw : ∀ d ∈ tables_1, d.before a0 Z = true) (h0 : Heap) (n0 : Nat) (x : Int32)   : Con l Z y1 method_2_code 2 (some .char) ({ frames := 0, cells := 0, slots := 0, locals := 0 } : Room) #[(.int x)] h0 n0 (Pu (some (.int (own_clean x))) h0) := by
  refine Con.of pf_1 (fun m => ef_1 m x) ?_
  intro p e s m below meth c C
  refine W.iloadN C d1_0 rfl ?_
  refine W.ldcI C (v := (65535 : Int32)) d1_1 (tkw hw 5 rfl) ?_
  refine W.iand C d1_3 ?_
  refine W.i2c C d1_4 ?_
  refine W.istoreN C #[.val (.int x), .val (.int (((x &&& (65535 : Int32))).toUInt32.toUInt16.toUInt32.toInt32))] d1_5 rfl ?_
  refine W.iloadN C d1_6 rfl ?_
  refine W.bipush C (123 : Int32) d1_7 rfl ?_
  refine W.icmp_eq C 18 d1_9 rfl (fun bq1 => ?_) (fun bq1 => ?_)
  · skip
    refine W.iloadN C d1_18 rfl ?_
    refine W.sipush C (256 : Int32) d1_19 rfl ?_
    refine W.ixor C d1_22 ?_
    refine W.i2c C d1_23 ?_
    exact W.iret C d1_24 (by simp) (XT.narrow_c _) (FN.ok (by decide) (by decide) ⟨by show some _ = some _; rw [own_clean, if_pos bq1], rfl⟩)
  · skip
    refine W.iloadN C d1_12 rfl ?_
    refine W.bipush C (125 : Int32) d1_13 rfl ?_
    refine W.icmp_ne C 25 d1_15 rfl (fun bq2 => ?_) (fun bq2 => ?_)
    · skip
      refine W.iloadN C d1_25 rfl ?_
      exact W.iret C d1_26 (by simp) (XT.narrow_c _) (FN.ok (by decide) (by decide) ⟨by show some _ = some _; rw [own_clean, if_neg bq1, if_neg bq2], rfl⟩)
    · skip
      refine W.iloadN C d1_18 rfl ?_
      refine W.sipush C (256 : Int32) d1_19 rfl ?_
      refine W.ixor C d1_22 ?_
      refine W.i2c C d1_23 ?_
      exact W.iret C d1_24 (by simp) (XT.narrow_c _) (FN.ok (by decide) (by decide) ⟨by show some _ = some _; rw [own_clean, if_neg bq1, if_pos bq2], rfl⟩)

theorem own_again (z : Int32) : (z.toUInt32.toUInt16.toUInt32.toInt32).toUInt32.toUInt16.toUInt32.toInt32 = z.toUInt32.toUInt16.toUInt32.toInt32 := by
  have a := c_i2c z
  have b := c_i2c (z.toUInt32.toUInt16.toUInt32.toInt32)
  apply Int32.toInt_inj.mp
  omega
theorem own_cx (x : Int32) : ¬ (own_clean x).toUInt32.toUInt16.toUInt32.toInt32 = 123 ∧ ¬ (own_clean x).toUInt32.toUInt16.toUInt32.toInt32 = 125 := by
  unfold own_clean
  split
  · rename_i h; rw [h]; decide
  · rename_i h1
    split
    · rename_i h; rw [h]; decide
    · rename_i h2; rw [own_again]; exact ⟨h1, h2⟩
theorem own_n5 (x : Int32) : (x &&& (2147483647 : Int32)) % (5 : Int32) = 0 ∨ (x &&& (2147483647 : Int32)) % (5 : Int32) = 1 ∨ (x &&& (2147483647 : Int32)) % (5 : Int32) = 2 ∨ (x &&& (2147483647 : Int32)) % (5 : Int32) = 3 ∨ (x &&& (2147483647 : Int32)) % (5 : Int32) = 4 := by
  have e1 := c_and x 2147483647 (by decide)
  have e2 := (c_iremV (x &&& 2147483647) 5).1 e1.1 (by decide)
  have z : (5 : Int32).toInt = 5 := rfl
  simp only [← Int32.toInt_inj]
  have z0 : (0 : Int32).toInt = 0 := rfl
  have z1 : (1 : Int32).toInt = 1 := rfl
  have z2 : (2 : Int32).toInt = 2 := rfl
  have z3 : (3 : Int32).toInt = 3 := rfl
  have z4 : (4 : Int32).toInt = 4 := rfl
  omega
theorem own_four (x : Int32) (h0 : ¬ (x &&& (2147483647 : Int32)) % (5 : Int32) = 0) (h1 : ¬ (x &&& (2147483647 : Int32)) % (5 : Int32) = 1) (h2 : ¬ (x &&& (2147483647 : Int32)) % (5 : Int32) = 2) (h3 : ¬ (x &&& (2147483647 : Int32)) % (5 : Int32) = 3) : (x &&& (2147483647 : Int32)) % (5 : Int32) = 4 := by
  rcases own_n5 x with q | q | q | q | q
  · exact absurd q h0
  · exact absurd q h1
  · exact absurd q h2
  · exact absurd q h3
  · exact q
theorem own_sk {Z : State} {h h' : Heap} {C n d K0 : String} {w : Value} {a : Addr} (F : Sta Z h C n d w) (E : Exa Z h a K0) (K : Keep h h' [a]) : Sta Z h' C n d w := by
  obtain ⟨cf, i, k, f, st, cell, h1, h2, h3, h4, h5, h6, h7⟩ := F
  obtain ⟨c2, k2, e1, -, -, e4, -⟩ := E
  refine ⟨cf, i, k, f, st, cell, h1, h2, h3, h4, K.2.1 st cell h5 (fun q => ?_), h6, h7⟩
  cases List.mem_singleton.mp q
  cases h5.symm.trans e1
  rw [e4] at h6; cases h6
theorem pf_0 : plainFor x = true := by first | exact plainFor_of_name (by first | (simp [plainName, overriddenIn]; done) | decide +kernel) | decide +kernel
theorem ef_0 (m : MethodId) (p0 : Int32) (p1 : Int32) (p2 : Int32) (p3 : Int32) (p4 : Int32) : entryFrame m #[(.int p0), (.int p1), (.int p2), (.int p3), (.int p4)] maxLocals = mkF m 0 #[.val (.int p0), .val (.int p1), .val (.int p2), .val (.int p3), .val (.int p4), .unset, .unset, .unset, .unset, .unset, .unset] [] := by first | (simp [entryFrame, mkF, argsToLocals, Value.category, maxLocals]; done) | rfl
theorem pd_19 : parseMethodDescriptor "([C)V" = some ⟨[(.array .char)], none⟩ := by decide +kernel
theorem pd_20 : parseMethodDescriptor "(Ljava/lang/String;)V" = some ⟨[(.object "java/lang/String")], none⟩ := by decide +kernel
set_option maxRecDepth 65536 in
set_option maxHeartbeats 40000000 in
theorem con_0 (l : Launch) (Z : State) (a0 : Array Value) (hw : ∀ d ∈ tables_1, d.before a0 Z = true) (h0 : Heap) (n0 : Nat) (p0 : Int32) (p1 : Int32) (p2 : Int32) (p3 : Int32) (p4 : Int32) (fm : Value) (hfm : fm.isRef = true) (cv : Int32) (hcv : ¬ cv = 0) (S_C : Sta Z h0 "java/lang/String" "COMPACT_STRINGS" "Z" (.int cv)) (S_F : Sta Z h0 "jdk/internal/util/Preconditions" "SIOOBE_FORMATTER" "Ljava/util/function/BiFunction;" fm) (S_A : Sta Z h0 "java/lang/StringUTF16" "$assertionsDisabled" "Z" (.int (1 : Int32))) (S_H : Sta Z h0 "java/lang/StringUTF16" "HI_BYTE_SHIFT" "I" (.int (0 : Int32))) (S_L : Sta Z h0 "java/lang/StringUTF16" "LO_BYTE_SHIFT" "I" (.int (8 : Int32))) (Z0 : n0 ≤ h0.size) : ConW l Z x code maxLocals ret room_1 #[(.int p0), (.int p1), (.int p2), (.int p3), (.int p4)] h0 n0 (fun vm => CHv Z own_EL vm h0) (fun v _ _ => v = some (.int 1)) := by
  refine ConW.of pf_0 (fun m => ef_0 m p0 p1 p2 p3 p4) ?_
  intro p e s m below meth c C PV hS
  have Hc := PV
  refine W.iloadN C at_0 rfl ?_
  refine W.ldcI C (v := (2147483647 : Int32)) at_1 (tkw hw 0 rfl) ?_
  refine W.iand C at_3 ?_
  refine W.iconst C (5 : Int32) at_4 rfl ?_
  refine W.irem C at_5 (by decide) ?_
  refine W.istore C #[.val (.int p0), .val (.int p1), .val (.int p2), .val (.int p3), .val (.int p4), .val (.int ((p0 &&& (2147483647 : Int32)) % (5 : Int32))), .unset, .unset, .unset, .unset, .unset] at_6 rfl ?_
  refine W.iloadN C at_8 rfl ?_
  refine W.callS C (y' := y1) at_9 (tkw hw 1 rfl) (tkw hw 2 rfl) (tkw hw 3 rfl) (tkw hw 4 rfl) (by decide) (argsL := [(.int p1)]) (rest := []) rfl (lenOf pd_8 rfl) (con_1 l Z a0 hw h0 n0 p1) 0 0 0 rfl rfl rfl (by decide) (by decide) (by decide) (by decide) rfl ?_
  rintro _ _ ⟨rfl, rfl⟩
  refine W.istore C #[.val (.int p0), .val (.int p1), .val (.int p2), .val (.int p3), .val (.int p4), .val (.int ((p0 &&& (2147483647 : Int32)) % (5 : Int32))), .val (.int (own_clean p1)), .unset, .unset, .unset, .unset] at_12 rfl ?_
  refine W.iloadN C at_14 rfl ?_
  refine W.callS C (y' := y1) at_15 (tkw hw 1 rfl) (tkw hw 2 rfl) (tkw hw 3 rfl) (tkw hw 4 rfl) (by decide) (argsL := [(.int p2)]) (rest := []) rfl (lenOf pd_8 rfl) (con_1 l Z a0 hw h0 n0 p2) 0 0 0 rfl rfl rfl (by decide) (by decide) (by decide) (by decide) rfl ?_
  rintro _ _ ⟨rfl, rfl⟩
  refine W.istore C #[.val (.int p0), .val (.int p1), .val (.int p2), .val (.int p3), .val (.int p4), .val (.int ((p0 &&& (2147483647 : Int32)) % (5 : Int32))), .val (.int (own_clean p1)), .val (.int (own_clean p2)), .unset, .unset, .unset] at_18 rfl ?_
  refine W.iloadN C at_20 rfl ?_
  refine W.callS C (y' := y1) at_21 (tkw hw 1 rfl) (tkw hw 2 rfl) (tkw hw 3 rfl) (tkw hw 4 rfl) (by decide) (argsL := [(.int p3)]) (rest := []) rfl (lenOf pd_8 rfl) (con_1 l Z a0 hw h0 n0 p3) 0 0 0 rfl rfl rfl (by decide) (by decide) (by decide) (by decide) rfl ?_
  rintro _ _ ⟨rfl, rfl⟩
  refine W.istore C #[.val (.int p0), .val (.int p1), .val (.int p2), .val (.int p3), .val (.int p4), .val (.int ((p0 &&& (2147483647 : Int32)) % (5 : Int32))), .val (.int (own_clean p1)), .val (.int (own_clean p2)), .val (.int (own_clean p3)), .unset, .unset] at_24 rfl ?_
  refine W.iload C at_26 rfl ?_
  refine W.callS C (y' := y1) at_28 (tkw hw 1 rfl) (tkw hw 2 rfl) (tkw hw 3 rfl) (tkw hw 4 rfl) (by decide) (argsL := [(.int p4)]) (rest := []) rfl (lenOf pd_8 rfl) (con_1 l Z a0 hw h0 n0 p4) 0 0 0 rfl rfl rfl (by decide) (by decide) (by decide) (by decide) rfl ?_
  rintro _ _ ⟨rfl, rfl⟩
  refine W.istore C #[.val (.int p0), .val (.int p1), .val (.int p2), .val (.int p3), .val (.int p4), .val (.int ((p0 &&& (2147483647 : Int32)) % (5 : Int32))), .val (.int (own_clean p1)), .val (.int (own_clean p2)), .val (.int (own_clean p3)), .val (.int (own_clean p4)), .unset] at_31 rfl ?_
  refine W.iload C at_33 rfl ?_
  refine W.if_ne C 53 at_35 rfl (fun bq1 => ?_) (fun bq1 => ?_)
  · skip
    refine W.iload C at_53 rfl ?_
    refine W.iconst C (1 : Int32) at_55 rfl ?_
    refine W.icmp_ne C 79 at_56 rfl (fun bq2 => ?_) (fun bq2 => ?_)
    · skip
      refine W.iload C at_79 rfl ?_
      refine W.iconst C (2 : Int32) at_81 rfl ?_
      refine W.icmp_ne C 110 at_82 rfl (fun bq3 => ?_) (fun bq3 => ?_)
      · skip
        refine W.iload C at_110 rfl ?_
        refine W.iconst C (3 : Int32) at_112 rfl ?_
        refine W.icmp_ne C 146 at_113 rfl (fun bq4 => ?_) (fun bq4 => ?_)
        · skip
          refine W.new C at_146 (tkw hw 6 rfl) (tkw hw 7 rfl) (tkw hw 8 rfl) 1 4 rfl rfl (by decide) (by decide) ?_
          intro ob1 hp2 hob1 Eob1 Aob1 Dob1
          have Sf_ob1 : Safe Z own_EL s.vm h0 ob1 := Safe.new (Nat.le_of_eq hob1.symm)
          have ge_ob1 : n0 ≤ ob1 := by rw [hob1]; exact Z0
          replace Sf_ob1 := Safe.ext Eob1 Hc Sf_ob1
          replace Hc := CHv.ext Eob1 Hc
          replace S_C := S_C.ext Eob1
          replace S_F := S_F.ext Eob1
          replace S_A := S_A.ext Eob1
          replace S_H := S_H.ext Eob1
          replace S_L := S_L.ext Eob1
          replace hS := hS.le Eob1.1
          replace Z0 := Nat.le_trans Z0 Eob1.1
          have Fob1_value : Fld Z hp2 ob1 "java/lang/String" "value" "[B" .null := Dob1 (Or.inr (tkw hw 22 rfl)) (ty := (.array .byte)) (by decide)
          have Fob1_coder : Fld Z hp2 ob1 "java/lang/String" "coder" "B" (.int (0 : Int32)) := Dob1 (Or.inr (tkw hw 23 rfl)) (ty := .byte) (by decide)
          refine W.dup C at_149 rfl ?_
          refine W.iconst C (4 : Int32) at_150 rfl ?_
          refine W.newP C 4 4 at_151 (tkw hw 9 rfl) rfl (Nat.le_refl _) (by decide) 2 8 rfl rfl (by decide) (by decide) ?_
          intro ob3 hp4 hob3 Eob3 Lob3
          have Sf_ob3 : Safe Z own_EL s.vm hp2 ob3 := Safe.new (Nat.le_of_eq hob3.symm)
          have ne_ob1_ob3 : ob1 ≠ ob3 := Nat.ne_of_lt (by rw [hob3]; exact Aob1.lt)
          have ge_ob3 : n0 ≤ ob3 := by rw [hob3]; exact Z0
          replace Sf_ob1 := Safe.ext Eob3 Hc Sf_ob1
          replace Sf_ob3 := Safe.ext Eob3 Hc Sf_ob3
          replace Hc := CHv.ext Eob3 Hc
          replace S_C := S_C.ext Eob3
          replace S_F := S_F.ext Eob3
          replace S_A := S_A.ext Eob3
          replace S_H := S_H.ext Eob3
          replace S_L := S_L.ext Eob3
          replace hS := hS.le Eob3.1
          replace Z0 := Nat.le_trans Z0 Eob3.1
          replace Aob1 := Aob1.ext Eob3
          replace Fob1_value := Fob1_value.ext Eob3
          replace Fob1_coder := Fob1_coder.ext Eob3
          replace Lob3 : Al Z hp4 ob3 .char [(.int (0 : Int32)), (.int (0 : Int32)), (.int (0 : Int32)), (.int (0 : Int32))] := Lob3
          refine W.dup C at_153 rfl ?_
          refine W.iconst C (0 : Int32) at_154 rfl ?_
          refine W.iload C at_155 rfl ?_
          refine W.castore C 0 at_157 Lob3 rfl (show (0 : Nat) < 4 by decide) ge_ob3 ?_
          intro hp5 U6 Lob3_
          replace Sf_ob1 := Safe.wr U6 Sf_ob3 Hc Sf_ob1
          have Sf_new := Safe.wr U6 Sf_ob3 Hc Sf_ob3
          replace Hc := CHv.wr U6 Sf_ob3 Hc
          replace Sf_ob3 := Sf_new
          replace S_C := S_C.wr U6
          replace S_F := S_F.wr U6
          replace S_A := S_A.wr U6
          replace S_H := S_H.wr U6
          replace S_L := S_L.wr U6
          replace hS := hS.le (Nat.le_of_eq (U6.size).symm)
          replace Z0 := Nat.le_trans Z0 (Nat.le_of_eq (U6.size).symm)
          replace Aob1 := Aob1.wr U6
          replace Fob1_value := Fob1_value.other U6 (Or.inl ne_ob1_ob3)
          replace Fob1_coder := Fob1_coder.other U6 (Or.inl ne_ob1_ob3)
          replace Lob3 : Al Z hp5 ob3 .char [(.int ((own_clean p1)).toUInt32.toUInt16.toUInt32.toInt32), (.int (0 : Int32)), (.int (0 : Int32)), (.int (0 : Int32))] := Lob3_
          refine W.dup C at_158 rfl ?_
          refine W.iconst C (1 : Int32) at_159 rfl ?_
          refine W.iload C at_160 rfl ?_
          refine W.castore C 1 at_162 Lob3 rfl (show (1 : Nat) < 4 by decide) ge_ob3 ?_
          intro hp7 U8 Lob3_
          replace Sf_ob1 := Safe.wr U8 Sf_ob3 Hc Sf_ob1
          have Sf_new := Safe.wr U8 Sf_ob3 Hc Sf_ob3
          replace Hc := CHv.wr U8 Sf_ob3 Hc
          replace Sf_ob3 := Sf_new
          replace S_C := S_C.wr U8
          replace S_F := S_F.wr U8
          replace S_A := S_A.wr U8
          replace S_H := S_H.wr U8
          replace S_L := S_L.wr U8
          replace hS := hS.le (Nat.le_of_eq (U8.size).symm)
          replace Z0 := Nat.le_trans Z0 (Nat.le_of_eq (U8.size).symm)
          replace Aob1 := Aob1.wr U8
          replace Fob1_value := Fob1_value.other U8 (Or.inl ne_ob1_ob3)
          replace Fob1_coder := Fob1_coder.other U8 (Or.inl ne_ob1_ob3)
          replace Lob3 : Al Z hp7 ob3 .char [(.int ((own_clean p1)).toUInt32.toUInt16.toUInt32.toInt32), (.int ((own_clean p2)).toUInt32.toUInt16.toUInt32.toInt32), (.int (0 : Int32)), (.int (0 : Int32))] := Lob3_
          refine W.dup C at_163 rfl ?_
          refine W.iconst C (2 : Int32) at_164 rfl ?_
          refine W.iload C at_165 rfl ?_
          refine W.castore C 2 at_167 Lob3 rfl (show (2 : Nat) < 4 by decide) ge_ob3 ?_
          intro hp9 U10 Lob3_
          replace Sf_ob1 := Safe.wr U10 Sf_ob3 Hc Sf_ob1
          have Sf_new := Safe.wr U10 Sf_ob3 Hc Sf_ob3
          replace Hc := CHv.wr U10 Sf_ob3 Hc
          replace Sf_ob3 := Sf_new
          replace S_C := S_C.wr U10
          replace S_F := S_F.wr U10
          replace S_A := S_A.wr U10
          replace S_H := S_H.wr U10
          replace S_L := S_L.wr U10
          replace hS := hS.le (Nat.le_of_eq (U10.size).symm)
          replace Z0 := Nat.le_trans Z0 (Nat.le_of_eq (U10.size).symm)
          replace Aob1 := Aob1.wr U10
          replace Fob1_value := Fob1_value.other U10 (Or.inl ne_ob1_ob3)
          replace Fob1_coder := Fob1_coder.other U10 (Or.inl ne_ob1_ob3)
          replace Lob3 : Al Z hp9 ob3 .char [(.int ((own_clean p1)).toUInt32.toUInt16.toUInt32.toInt32), (.int ((own_clean p2)).toUInt32.toUInt16.toUInt32.toInt32), (.int ((own_clean p3)).toUInt32.toUInt16.toUInt32.toInt32), (.int (0 : Int32))] := Lob3_
          refine W.dup C at_168 rfl ?_
          refine W.iconst C (3 : Int32) at_169 rfl ?_
          refine W.iload C at_170 rfl ?_
          refine W.castore C 3 at_172 Lob3 rfl (show (3 : Nat) < 4 by decide) ge_ob3 ?_
          intro hp11 U12 Lob3_
          replace Sf_ob1 := Safe.wr U12 Sf_ob3 Hc Sf_ob1
          have Sf_new := Safe.wr U12 Sf_ob3 Hc Sf_ob3
          replace Hc := CHv.wr U12 Sf_ob3 Hc
          replace Sf_ob3 := Sf_new
          replace S_C := S_C.wr U12
          replace S_F := S_F.wr U12
          replace S_A := S_A.wr U12
          replace S_H := S_H.wr U12
          replace S_L := S_L.wr U12
          replace hS := hS.le (Nat.le_of_eq (U12.size).symm)
          replace Z0 := Nat.le_trans Z0 (Nat.le_of_eq (U12.size).symm)
          replace Aob1 := Aob1.wr U12
          replace Fob1_value := Fob1_value.other U12 (Or.inl ne_ob1_ob3)
          replace Fob1_coder := Fob1_coder.other U12 (Or.inl ne_ob1_ob3)
          replace Lob3 : Al Z hp11 ob3 .char [(.int ((own_clean p1)).toUInt32.toUInt16.toUInt32.toInt32), (.int ((own_clean p2)).toUInt32.toUInt16.toUInt32.toInt32), (.int ((own_clean p3)).toUInt32.toUInt16.toUInt32.toInt32), (.int ((own_clean p4)).toUInt32.toUInt16.toUInt32.toInt32)] := Lob3_
          by_cases q0 : (255 : Int32) < ((own_clean p1)).toUInt32.toUInt16.toUInt32.toInt32
          · skip
            have X_old := Aob1
            refine W.callI C (y' := y2) at_173 rfl (tkw hw 10 rfl) (tkw hw 11 rfl) (tkw hw 8 rfl) (tkw hw 12 rfl) (by decide) (a := ob1) (argsL := [(.ref ob3)]) (rest := [(.ref ob1)]) rfl (lenOf pd_19 rfl) (con_i1_4_0 l Z a0 hw hp11 n0 ob1 ob3 (((own_clean p1)).toUInt32.toUInt16.toUInt32.toInt32) (((own_clean p2)).toUInt32.toUInt16.toUInt32.toInt32) (((own_clean p3)).toUInt32.toUInt16.toUInt32.toInt32) (((own_clean p4)).toUInt32.toUInt16.toUInt32.toInt32) q0 (own_rg _) _ _ cv ne_ob1_ob3 ge_ob1 Aob1 Fob1_value Fob1_coder Lob3 S_C hcv S_A S_H S_L Z0) 1 4 20 rfl rfl rfl (by decide) (by decide) (by decide) (by decide) rfl ?_
            rintro _ hp13 ⟨rfl, Kc, E_a1, d1, Fv, Fc, Ld⟩
            replace S_C := own_sk S_C X_old Kc
            replace S_F := own_sk S_F X_old Kc
            replace S_A := own_sk S_A X_old Kc
            replace S_H := own_sk S_H X_old Kc
            replace S_L := own_sk S_L X_old Kc
            have Sf_ob1_n := Safe.keep Kc (allS Sf_ob1 all0) Hc Sf_ob1
            replace Hc := CHv.keep Kc (allS Sf_ob1 all0) Hc
            replace Sf_ob1 := Sf_ob1_n
            replace hS := hS.le Kc.1
            replace Z0 := Nat.le_trans Z0 Kc.1
            replace Lob3 := Lob3.keep Kc (ninS (Ne.symm ne_ob1_ob3) nin0)
            refine W.astore C #[.val (.int p0), .val (.int p1), .val (.int p2), .val (.int p3), .val (.int p4), .val (.int ((p0 &&& (2147483647 : Int32)) % (5 : Int32))), .val (.int (own_clean p1)), .val (.int (own_clean p2)), .val (.int (own_clean p3)), .val (.int (own_clean p4)), .val (.ref ob1)] at_176 rfl rfl ?_
            refine W.aload C at_178 rfl rfl ?_
            refine W.callSW C hS (y' := y5) at_180 (tkw hw 28 rfl) (tkw hw 29 rfl) (tkw hw 30 rfl) (tkw hw 31 rfl) (by decide) (argsL := [(.ref ob1)]) (rest := []) rfl (lenOf pd_20 rfl) (con_cp_1_4 l Z a0 hw hp13 n0 ob1 d1 (((own_clean p1)).toUInt32.toUInt16.toUInt32.toInt32) (((own_clean p2)).toUInt32.toUInt16.toUInt32.toInt32) (((own_clean p3)).toUInt32.toUInt16.toUInt32.toInt32) (((own_clean p4)).toUInt32.toUInt16.toUInt32.toInt32) (own_cx _).1 (own_cx _).2 (own_rg _) (own_cx _).1 (own_cx _).2 (own_rg _) (own_cx _).1 (own_cx _).2 (own_rg _) (own_cx _).1 (own_cx _).2 (own_rg _) fm hfm cv hcv E_a1 Fv Fc Ld S_C S_F S_A S_H S_L Z0) (fun vm' hW' => (chw C.2.1 hW' (own_ew hw) Hc).1) 0 8 92 rfl rfl rfl (by decide) (by decide) (by decide) (by decide) rfl ?_
            rintro _ hp14 vm15 ⟨rfl, Ed⟩ _ C hSn
            replace Z0 := Nat.le_trans Z0 Ed.1
            replace S_C := S_C.ext Ed
            replace S_F := S_F.ext Ed
            replace S_A := S_A.ext Ed
            replace S_H := S_H.ext Ed
            replace S_L := S_L.ext Ed
            replace E_a1 := E_a1.ext Ed
            replace Fv := Fv.ext Ed
            replace Fc := Fc.ext Ed
            replace Ld := Ld.ext Ed
            replace hS := hSn
            refine W.aload C at_183 rfl rfl ?_
            refine W.callV C (y' := y8) at_185 (tkw hw 52 rfl) (tkw hw 42 rfl) (tkw hw 44 rfl) (tkw hw 43 rfl) (tkw hw 8 rfl) (tkw hw 45 rfl) (by decide) E_a1 (argsL := []) (rest := []) rfl (lenOf pd_7 rfl) (con_ln_1 l Z a0 hw hp14 n0 ob1 d1 _ (8 : Int32) rfl (4 : Int32) (by decide) cv hcv E_a1 Fv Fc Ld S_C Z0) 0 8 92 rfl rfl rfl (by decide) (by decide) (by decide) (by decide) rfl ?_
            rintro _ _ ⟨rfl, rfl⟩
            refine W.iload C at_188 rfl ?_
            refine W.icmp_ne C 197 at_190 rfl (fun bq5 => absurd (own_four p0 bq1 bq2 bq3 bq4).symm bq5) (fun bq5 => ?_)
            refine W.iconst C (1 : Int32) at_193 rfl ?_
            refine W.goto C 198 at_194 rfl ?_
            exact W.iret C at_198 (by simp) rfl (FW.ok hS (by decide) (by decide) (fun vm' hW' => rfl))
          · skip
            by_cases q1 : (255 : Int32) < ((own_clean p2)).toUInt32.toUInt16.toUInt32.toInt32
            · skip
              have X_old := Aob1
              refine W.callI C (y' := y2) at_173 rfl (tkw hw 10 rfl) (tkw hw 11 rfl) (tkw hw 8 rfl) (tkw hw 12 rfl) (by decide) (a := ob1) (argsL := [(.ref ob3)]) (rest := [(.ref ob1)]) rfl (lenOf pd_19 rfl) (con_i1_4_1 l Z a0 hw hp11 n0 ob1 ob3 (((own_clean p1)).toUInt32.toUInt16.toUInt32.toInt32) (((own_clean p2)).toUInt32.toUInt16.toUInt32.toInt32) (((own_clean p3)).toUInt32.toUInt16.toUInt32.toInt32) (((own_clean p4)).toUInt32.toUInt16.toUInt32.toInt32) q0 q1 (own_rg _) _ _ cv ne_ob1_ob3 ge_ob1 Aob1 Fob1_value Fob1_coder Lob3 S_C hcv S_A S_H S_L Z0) 1 4 20 rfl rfl rfl (by decide) (by decide) (by decide) (by decide) rfl ?_
              rintro _ hp16 ⟨rfl, Kc, E_a1, d1, Fv, Fc, Ld⟩
              replace S_C := own_sk S_C X_old Kc
              replace S_F := own_sk S_F X_old Kc
              replace S_A := own_sk S_A X_old Kc
              replace S_H := own_sk S_H X_old Kc
              replace S_L := own_sk S_L X_old Kc
              have Sf_ob1_n := Safe.keep Kc (allS Sf_ob1 all0) Hc Sf_ob1
              replace Hc := CHv.keep Kc (allS Sf_ob1 all0) Hc
              replace Sf_ob1 := Sf_ob1_n
              replace hS := hS.le Kc.1
              replace Z0 := Nat.le_trans Z0 Kc.1
              replace Lob3 := Lob3.keep Kc (ninS (Ne.symm ne_ob1_ob3) nin0)
              refine W.astore C #[.val (.int p0), .val (.int p1), .val (.int p2), .val (.int p3), .val (.int p4), .val (.int ((p0 &&& (2147483647 : Int32)) % (5 : Int32))), .val (.int (own_clean p1)), .val (.int (own_clean p2)), .val (.int (own_clean p3)), .val (.int (own_clean p4)), .val (.ref ob1)] at_176 rfl rfl ?_
              refine W.aload C at_178 rfl rfl ?_
              refine W.callSW C hS (y' := y5) at_180 (tkw hw 28 rfl) (tkw hw 29 rfl) (tkw hw 30 rfl) (tkw hw 31 rfl) (by decide) (argsL := [(.ref ob1)]) (rest := []) rfl (lenOf pd_20 rfl) (con_cp_1_4 l Z a0 hw hp16 n0 ob1 d1 (((own_clean p1)).toUInt32.toUInt16.toUInt32.toInt32) (((own_clean p2)).toUInt32.toUInt16.toUInt32.toInt32) (((own_clean p3)).toUInt32.toUInt16.toUInt32.toInt32) (((own_clean p4)).toUInt32.toUInt16.toUInt32.toInt32) (own_cx _).1 (own_cx _).2 (own_rg _) (own_cx _).1 (own_cx _).2 (own_rg _) (own_cx _).1 (own_cx _).2 (own_rg _) (own_cx _).1 (own_cx _).2 (own_rg _) fm hfm cv hcv E_a1 Fv Fc Ld S_C S_F S_A S_H S_L Z0) (fun vm' hW' => (chw C.2.1 hW' (own_ew hw) Hc).1) 0 8 92 rfl rfl rfl (by decide) (by decide) (by decide) (by decide) rfl ?_
              rintro _ hp17 vm18 ⟨rfl, Ed⟩ _ C hSn
              replace Z0 := Nat.le_trans Z0 Ed.1
              replace S_C := S_C.ext Ed
              replace S_F := S_F.ext Ed
              replace S_A := S_A.ext Ed
              replace S_H := S_H.ext Ed
              replace S_L := S_L.ext Ed
              replace E_a1 := E_a1.ext Ed
              replace Fv := Fv.ext Ed
              replace Fc := Fc.ext Ed
              replace Ld := Ld.ext Ed
              replace hS := hSn
              refine W.aload C at_183 rfl rfl ?_
              refine W.callV C (y' := y8) at_185 (tkw hw 52 rfl) (tkw hw 42 rfl) (tkw hw 44 rfl) (tkw hw 43 rfl) (tkw hw 8 rfl) (tkw hw 45 rfl) (by decide) E_a1 (argsL := []) (rest := []) rfl (lenOf pd_7 rfl) (con_ln_1 l Z a0 hw hp17 n0 ob1 d1 _ (8 : Int32) rfl (4 : Int32) (by decide) cv hcv E_a1 Fv Fc Ld S_C Z0) 0 8 92 rfl rfl rfl (by decide) (by decide) (by decide) (by decide) rfl ?_
              rintro _ _ ⟨rfl, rfl⟩
              refine W.iload C at_188 rfl ?_
              refine W.icmp_ne C 197 at_190 rfl (fun bq6 => absurd (own_four p0 bq1 bq2 bq3 bq4).symm bq6) (fun bq6 => ?_)
              refine W.iconst C (1 : Int32) at_193 rfl ?_
              refine W.goto C 198 at_194 rfl ?_
              exact W.iret C at_198 (by simp) rfl (FW.ok hS (by decide) (by decide) (fun vm' hW' => rfl))
            · skip
              by_cases q2 : (255 : Int32) < ((own_clean p3)).toUInt32.toUInt16.toUInt32.toInt32
              · skip
                have X_old := Aob1
                refine W.callI C (y' := y2) at_173 rfl (tkw hw 10 rfl) (tkw hw 11 rfl) (tkw hw 8 rfl) (tkw hw 12 rfl) (by decide) (a := ob1) (argsL := [(.ref ob3)]) (rest := [(.ref ob1)]) rfl (lenOf pd_19 rfl) (con_i1_4_2 l Z a0 hw hp11 n0 ob1 ob3 (((own_clean p1)).toUInt32.toUInt16.toUInt32.toInt32) (((own_clean p2)).toUInt32.toUInt16.toUInt32.toInt32) (((own_clean p3)).toUInt32.toUInt16.toUInt32.toInt32) (((own_clean p4)).toUInt32.toUInt16.toUInt32.toInt32) q0 q1 q2 (own_rg _) _ _ cv ne_ob1_ob3 ge_ob1 Aob1 Fob1_value Fob1_coder Lob3 S_C hcv S_A S_H S_L Z0) 1 4 20 rfl rfl rfl (by decide) (by decide) (by decide) (by decide) rfl ?_
                rintro _ hp19 ⟨rfl, Kc, E_a1, d1, Fv, Fc, Ld⟩
                replace S_C := own_sk S_C X_old Kc
                replace S_F := own_sk S_F X_old Kc
                replace S_A := own_sk S_A X_old Kc
                replace S_H := own_sk S_H X_old Kc
                replace S_L := own_sk S_L X_old Kc
                have Sf_ob1_n := Safe.keep Kc (allS Sf_ob1 all0) Hc Sf_ob1
                replace Hc := CHv.keep Kc (allS Sf_ob1 all0) Hc
                replace Sf_ob1 := Sf_ob1_n
                replace hS := hS.le Kc.1
                replace Z0 := Nat.le_trans Z0 Kc.1
                replace Lob3 := Lob3.keep Kc (ninS (Ne.symm ne_ob1_ob3) nin0)
                refine W.astore C #[.val (.int p0), .val (.int p1), .val (.int p2), .val (.int p3), .val (.int p4), .val (.int ((p0 &&& (2147483647 : Int32)) % (5 : Int32))), .val (.int (own_clean p1)), .val (.int (own_clean p2)), .val (.int (own_clean p3)), .val (.int (own_clean p4)), .val (.ref ob1)] at_176 rfl rfl ?_
                refine W.aload C at_178 rfl rfl ?_
                refine W.callSW C hS (y' := y5) at_180 (tkw hw 28 rfl) (tkw hw 29 rfl) (tkw hw 30 rfl) (tkw hw 31 rfl) (by decide) (argsL := [(.ref ob1)]) (rest := []) rfl (lenOf pd_20 rfl) (con_cp_1_4 l Z a0 hw hp19 n0 ob1 d1 (((own_clean p1)).toUInt32.toUInt16.toUInt32.toInt32) (((own_clean p2)).toUInt32.toUInt16.toUInt32.toInt32) (((own_clean p3)).toUInt32.toUInt16.toUInt32.toInt32) (((own_clean p4)).toUInt32.toUInt16.toUInt32.toInt32) (own_cx _).1 (own_cx _).2 (own_rg _) (own_cx _).1 (own_cx _).2 (own_rg _) (own_cx _).1 (own_cx _).2 (own_rg _) (own_cx _).1 (own_cx _).2 (own_rg _) fm hfm cv hcv E_a1 Fv Fc Ld S_C S_F S_A S_H S_L Z0) (fun vm' hW' => (chw C.2.1 hW' (own_ew hw) Hc).1) 0 8 92 rfl rfl rfl (by decide) (by decide) (by decide) (by decide) rfl ?_
                rintro _ hp20 vm21 ⟨rfl, Ed⟩ _ C hSn
                replace Z0 := Nat.le_trans Z0 Ed.1
                replace S_C := S_C.ext Ed
                replace S_F := S_F.ext Ed
                replace S_A := S_A.ext Ed
                replace S_H := S_H.ext Ed
                replace S_L := S_L.ext Ed
                replace E_a1 := E_a1.ext Ed
                replace Fv := Fv.ext Ed
                replace Fc := Fc.ext Ed
                replace Ld := Ld.ext Ed
                replace hS := hSn
                refine W.aload C at_183 rfl rfl ?_
                refine W.callV C (y' := y8) at_185 (tkw hw 52 rfl) (tkw hw 42 rfl) (tkw hw 44 rfl) (tkw hw 43 rfl) (tkw hw 8 rfl) (tkw hw 45 rfl) (by decide) E_a1 (argsL := []) (rest := []) rfl (lenOf pd_7 rfl) (con_ln_1 l Z a0 hw hp20 n0 ob1 d1 _ (8 : Int32) rfl (4 : Int32) (by decide) cv hcv E_a1 Fv Fc Ld S_C Z0) 0 8 92 rfl rfl rfl (by decide) (by decide) (by decide) (by decide) rfl ?_
                rintro _ _ ⟨rfl, rfl⟩
                refine W.iload C at_188 rfl ?_
                refine W.icmp_ne C 197 at_190 rfl (fun bq7 => absurd (own_four p0 bq1 bq2 bq3 bq4).symm bq7) (fun bq7 => ?_)
                refine W.iconst C (1 : Int32) at_193 rfl ?_
                refine W.goto C 198 at_194 rfl ?_
                exact W.iret C at_198 (by simp) rfl (FW.ok hS (by decide) (by decide) (fun vm' hW' => rfl))
              · skip
                by_cases q3 : (255 : Int32) < ((own_clean p4)).toUInt32.toUInt16.toUInt32.toInt32
                · skip
                  have X_old := Aob1
                  refine W.callI C (y' := y2) at_173 rfl (tkw hw 10 rfl) (tkw hw 11 rfl) (tkw hw 8 rfl) (tkw hw 12 rfl) (by decide) (a := ob1) (argsL := [(.ref ob3)]) (rest := [(.ref ob1)]) rfl (lenOf pd_19 rfl) (con_i1_4_3 l Z a0 hw hp11 n0 ob1 ob3 (((own_clean p1)).toUInt32.toUInt16.toUInt32.toInt32) (((own_clean p2)).toUInt32.toUInt16.toUInt32.toInt32) (((own_clean p3)).toUInt32.toUInt16.toUInt32.toInt32) (((own_clean p4)).toUInt32.toUInt16.toUInt32.toInt32) q0 q1 q2 q3 (own_rg _) _ _ cv ne_ob1_ob3 ge_ob1 Aob1 Fob1_value Fob1_coder Lob3 S_C hcv S_A S_H S_L Z0) 1 4 20 rfl rfl rfl (by decide) (by decide) (by decide) (by decide) rfl ?_
                  rintro _ hp22 ⟨rfl, Kc, E_a1, d1, Fv, Fc, Ld⟩
                  replace S_C := own_sk S_C X_old Kc
                  replace S_F := own_sk S_F X_old Kc
                  replace S_A := own_sk S_A X_old Kc
                  replace S_H := own_sk S_H X_old Kc
                  replace S_L := own_sk S_L X_old Kc
                  have Sf_ob1_n := Safe.keep Kc (allS Sf_ob1 all0) Hc Sf_ob1
                  replace Hc := CHv.keep Kc (allS Sf_ob1 all0) Hc
                  replace Sf_ob1 := Sf_ob1_n
                  replace hS := hS.le Kc.1
                  replace Z0 := Nat.le_trans Z0 Kc.1
                  replace Lob3 := Lob3.keep Kc (ninS (Ne.symm ne_ob1_ob3) nin0)
                  refine W.astore C #[.val (.int p0), .val (.int p1), .val (.int p2), .val (.int p3), .val (.int p4), .val (.int ((p0 &&& (2147483647 : Int32)) % (5 : Int32))), .val (.int (own_clean p1)), .val (.int (own_clean p2)), .val (.int (own_clean p3)), .val (.int (own_clean p4)), .val (.ref ob1)] at_176 rfl rfl ?_
                  refine W.aload C at_178 rfl rfl ?_
                  refine W.callSW C hS (y' := y5) at_180 (tkw hw 28 rfl) (tkw hw 29 rfl) (tkw hw 30 rfl) (tkw hw 31 rfl) (by decide) (argsL := [(.ref ob1)]) (rest := []) rfl (lenOf pd_20 rfl) (con_cp_1_4 l Z a0 hw hp22 n0 ob1 d1 (((own_clean p1)).toUInt32.toUInt16.toUInt32.toInt32) (((own_clean p2)).toUInt32.toUInt16.toUInt32.toInt32) (((own_clean p3)).toUInt32.toUInt16.toUInt32.toInt32) (((own_clean p4)).toUInt32.toUInt16.toUInt32.toInt32) (own_cx _).1 (own_cx _).2 (own_rg _) (own_cx _).1 (own_cx _).2 (own_rg _) (own_cx _).1 (own_cx _).2 (own_rg _) (own_cx _).1 (own_cx _).2 (own_rg _) fm hfm cv hcv E_a1 Fv Fc Ld S_C S_F S_A S_H S_L Z0) (fun vm' hW' => (chw C.2.1 hW' (own_ew hw) Hc).1) 0 8 92 rfl rfl rfl (by decide) (by decide) (by decide) (by decide) rfl ?_
                  rintro _ hp23 vm24 ⟨rfl, Ed⟩ _ C hSn
                  replace Z0 := Nat.le_trans Z0 Ed.1
                  replace S_C := S_C.ext Ed
                  replace S_F := S_F.ext Ed
                  replace S_A := S_A.ext Ed
                  replace S_H := S_H.ext Ed
                  replace S_L := S_L.ext Ed
                  replace E_a1 := E_a1.ext Ed
                  replace Fv := Fv.ext Ed
                  replace Fc := Fc.ext Ed
                  replace Ld := Ld.ext Ed
                  replace hS := hSn
                  refine W.aload C at_183 rfl rfl ?_
                  refine W.callV C (y' := y8) at_185 (tkw hw 52 rfl) (tkw hw 42 rfl) (tkw hw 44 rfl) (tkw hw 43 rfl) (tkw hw 8 rfl) (tkw hw 45 rfl) (by decide) E_a1 (argsL := []) (rest := []) rfl (lenOf pd_7 rfl) (con_ln_1 l Z a0 hw hp23 n0 ob1 d1 _ (8 : Int32) rfl (4 : Int32) (by decide) cv hcv E_a1 Fv Fc Ld S_C Z0) 0 8 92 rfl rfl rfl (by decide) (by decide) (by decide) (by decide) rfl ?_
                  rintro _ _ ⟨rfl, rfl⟩
                  refine W.iload C at_188 rfl ?_
                  refine W.icmp_ne C 197 at_190 rfl (fun bq8 => absurd (own_four p0 bq1 bq2 bq3 bq4).symm bq8) (fun bq8 => ?_)
                  refine W.iconst C (1 : Int32) at_193 rfl ?_
                  refine W.goto C 198 at_194 rfl ?_
                  exact W.iret C at_198 (by simp) rfl (FW.ok hS (by decide) (by decide) (fun vm' hW' => rfl))
                · skip
                  have X_old := Aob1
                  refine W.callI C (y' := y2) at_173 rfl (tkw hw 10 rfl) (tkw hw 11 rfl) (tkw hw 8 rfl) (tkw hw 12 rfl) (by decide) (a := ob1) (argsL := [(.ref ob3)]) (rest := [(.ref ob1)]) rfl (lenOf pd_19 rfl) (con_i1_4 l Z a0 hw hp11 n0 ob1 ob3 (((own_clean p1)).toUInt32.toUInt16.toUInt32.toInt32) (((own_clean p2)).toUInt32.toUInt16.toUInt32.toInt32) (((own_clean p3)).toUInt32.toUInt16.toUInt32.toInt32) (((own_clean p4)).toUInt32.toUInt16.toUInt32.toInt32) q0 q1 q2 q3 _ _ cv ne_ob1_ob3 ge_ob1 Aob1 Fob1_value Fob1_coder Lob3 S_C hcv Z0) 1 3 12 rfl rfl rfl (by decide) (by decide) (by decide) (by decide) rfl ?_
                  rintro _ hp25 ⟨rfl, Kc, E_a1, d1, Fv, Fc, Ld⟩
                  replace S_C := own_sk S_C X_old Kc
                  replace S_F := own_sk S_F X_old Kc
                  replace S_A := own_sk S_A X_old Kc
                  replace S_H := own_sk S_H X_old Kc
                  replace S_L := own_sk S_L X_old Kc
                  have Sf_ob1_n := Safe.keep Kc (allS Sf_ob1 all0) Hc Sf_ob1
                  replace Hc := CHv.keep Kc (allS Sf_ob1 all0) Hc
                  replace Sf_ob1 := Sf_ob1_n
                  replace hS := hS.le Kc.1
                  replace Z0 := Nat.le_trans Z0 Kc.1
                  replace Lob3 := Lob3.keep Kc (ninS (Ne.symm ne_ob1_ob3) nin0)
                  refine W.astore C #[.val (.int p0), .val (.int p1), .val (.int p2), .val (.int p3), .val (.int p4), .val (.int ((p0 &&& (2147483647 : Int32)) % (5 : Int32))), .val (.int (own_clean p1)), .val (.int (own_clean p2)), .val (.int (own_clean p3)), .val (.int (own_clean p4)), .val (.ref ob1)] at_176 rfl rfl ?_
                  refine W.aload C at_178 rfl rfl ?_
                  refine W.callSW C hS (y' := y5) at_180 (tkw hw 28 rfl) (tkw hw 29 rfl) (tkw hw 30 rfl) (tkw hw 31 rfl) (by decide) (argsL := [(.ref ob1)]) (rest := []) rfl (lenOf pd_20 rfl) (con_cp_0_4 l Z a0 hw hp25 n0 ob1 d1 (((own_clean p1)).toUInt32.toUInt16.toUInt32.toInt32) (((own_clean p2)).toUInt32.toUInt16.toUInt32.toInt32) (((own_clean p3)).toUInt32.toUInt16.toUInt32.toInt32) (((own_clean p4)).toUInt32.toUInt16.toUInt32.toInt32) (own_cx _).1 (own_cx _).2 (own_rg _) q0 (own_cx _).1 (own_cx _).2 (own_rg _) q1 (own_cx _).1 (own_cx _).2 (own_rg _) q2 (own_cx _).1 (own_cx _).2 (own_rg _) q3 fm hfm cv hcv E_a1 Fv Fc Ld S_C S_F Z0) (fun vm' hW' => (chw C.2.1 hW' (own_ew hw) Hc).1) 0 7 84 rfl rfl rfl (by decide) (by decide) (by decide) (by decide) rfl ?_
                  rintro _ hp26 vm27 ⟨rfl, Ed⟩ _ C hSn
                  replace Z0 := Nat.le_trans Z0 Ed.1
                  replace S_C := S_C.ext Ed
                  replace S_F := S_F.ext Ed
                  replace S_A := S_A.ext Ed
                  replace S_H := S_H.ext Ed
                  replace S_L := S_L.ext Ed
                  replace E_a1 := E_a1.ext Ed
                  replace Fv := Fv.ext Ed
                  replace Fc := Fc.ext Ed
                  replace Ld := Ld.ext Ed
                  replace hS := hSn
                  refine W.aload C at_183 rfl rfl ?_
                  refine W.callV C (y' := y8) at_185 (tkw hw 52 rfl) (tkw hw 42 rfl) (tkw hw 44 rfl) (tkw hw 43 rfl) (tkw hw 8 rfl) (tkw hw 45 rfl) (by decide) E_a1 (argsL := []) (rest := []) rfl (lenOf pd_7 rfl) (con_ln_0 l Z a0 hw hp26 n0 ob1 d1 _ (4 : Int32) rfl (4 : Int32) (by decide) cv hcv E_a1 Fv Fc Ld S_C Z0) 0 7 84 rfl rfl rfl (by decide) (by decide) (by decide) (by decide) rfl ?_
                  rintro _ _ ⟨rfl, rfl⟩
                  refine W.iload C at_188 rfl ?_
                  refine W.icmp_ne C 197 at_190 rfl (fun bq9 => absurd (own_four p0 bq1 bq2 bq3 bq4).symm bq9) (fun bq9 => ?_)
                  refine W.iconst C (1 : Int32) at_193 rfl ?_
                  refine W.goto C 198 at_194 rfl ?_
                  exact W.iret C at_198 (by simp) rfl (FW.ok hS (by decide) (by decide) (fun vm' hW' => rfl))
        · skip
          refine W.new C at_116 (tkw hw 6 rfl) (tkw hw 7 rfl) (tkw hw 8 rfl) 1 4 rfl rfl (by decide) (by decide) ?_
          intro ob28 hp29 hob28 Eob28 Aob28 Dob28
          have Sf_ob28 : Safe Z own_EL s.vm h0 ob28 := Safe.new (Nat.le_of_eq hob28.symm)
          have ge_ob28 : n0 ≤ ob28 := by rw [hob28]; exact Z0
          replace Sf_ob28 := Safe.ext Eob28 Hc Sf_ob28
          replace Hc := CHv.ext Eob28 Hc
          replace S_C := S_C.ext Eob28
          replace S_F := S_F.ext Eob28
          replace S_A := S_A.ext Eob28
          replace S_H := S_H.ext Eob28
          replace S_L := S_L.ext Eob28
          replace hS := hS.le Eob28.1
          replace Z0 := Nat.le_trans Z0 Eob28.1
          have Fob28_value : Fld Z hp29 ob28 "java/lang/String" "value" "[B" .null := Dob28 (Or.inr (tkw hw 22 rfl)) (ty := (.array .byte)) (by decide)
          have Fob28_coder : Fld Z hp29 ob28 "java/lang/String" "coder" "B" (.int (0 : Int32)) := Dob28 (Or.inr (tkw hw 23 rfl)) (ty := .byte) (by decide)
          refine W.dup C at_119 rfl ?_
          refine W.iconst C (3 : Int32) at_120 rfl ?_
          refine W.newP C 3 3 at_121 (tkw hw 9 rfl) rfl (Nat.le_refl _) (by decide) 2 7 rfl rfl (by decide) (by decide) ?_
          intro ob30 hp31 hob30 Eob30 Lob30
          have Sf_ob30 : Safe Z own_EL s.vm hp29 ob30 := Safe.new (Nat.le_of_eq hob30.symm)
          have ne_ob28_ob30 : ob28 ≠ ob30 := Nat.ne_of_lt (by rw [hob30]; exact Aob28.lt)
          have ge_ob30 : n0 ≤ ob30 := by rw [hob30]; exact Z0
          replace Sf_ob28 := Safe.ext Eob30 Hc Sf_ob28
          replace Sf_ob30 := Safe.ext Eob30 Hc Sf_ob30
          replace Hc := CHv.ext Eob30 Hc
          replace S_C := S_C.ext Eob30
          replace S_F := S_F.ext Eob30
          replace S_A := S_A.ext Eob30
          replace S_H := S_H.ext Eob30
          replace S_L := S_L.ext Eob30
          replace hS := hS.le Eob30.1
          replace Z0 := Nat.le_trans Z0 Eob30.1
          replace Aob28 := Aob28.ext Eob30
          replace Fob28_value := Fob28_value.ext Eob30
          replace Fob28_coder := Fob28_coder.ext Eob30
          replace Lob30 : Al Z hp31 ob30 .char [(.int (0 : Int32)), (.int (0 : Int32)), (.int (0 : Int32))] := Lob30
          refine W.dup C at_123 rfl ?_
          refine W.iconst C (0 : Int32) at_124 rfl ?_
          refine W.iload C at_125 rfl ?_
          refine W.castore C 0 at_127 Lob30 rfl (show (0 : Nat) < 3 by decide) ge_ob30 ?_
          intro hp32 U33 Lob30_
          replace Sf_ob28 := Safe.wr U33 Sf_ob30 Hc Sf_ob28
          have Sf_new := Safe.wr U33 Sf_ob30 Hc Sf_ob30
          replace Hc := CHv.wr U33 Sf_ob30 Hc
          replace Sf_ob30 := Sf_new
          replace S_C := S_C.wr U33
          replace S_F := S_F.wr U33
          replace S_A := S_A.wr U33
          replace S_H := S_H.wr U33
          replace S_L := S_L.wr U33
          replace hS := hS.le (Nat.le_of_eq (U33.size).symm)
          replace Z0 := Nat.le_trans Z0 (Nat.le_of_eq (U33.size).symm)
          replace Aob28 := Aob28.wr U33
          replace Fob28_value := Fob28_value.other U33 (Or.inl ne_ob28_ob30)
          replace Fob28_coder := Fob28_coder.other U33 (Or.inl ne_ob28_ob30)
          replace Lob30 : Al Z hp32 ob30 .char [(.int ((own_clean p1)).toUInt32.toUInt16.toUInt32.toInt32), (.int (0 : Int32)), (.int (0 : Int32))] := Lob30_
          refine W.dup C at_128 rfl ?_
          refine W.iconst C (1 : Int32) at_129 rfl ?_
          refine W.iload C at_130 rfl ?_
          refine W.castore C 1 at_132 Lob30 rfl (show (1 : Nat) < 3 by decide) ge_ob30 ?_
          intro hp34 U35 Lob30_
          replace Sf_ob28 := Safe.wr U35 Sf_ob30 Hc Sf_ob28
          have Sf_new := Safe.wr U35 Sf_ob30 Hc Sf_ob30
          replace Hc := CHv.wr U35 Sf_ob30 Hc
          replace Sf_ob30 := Sf_new
          replace S_C := S_C.wr U35
          replace S_F := S_F.wr U35
          replace S_A := S_A.wr U35
          replace S_H := S_H.wr U35
          replace S_L := S_L.wr U35
          replace hS := hS.le (Nat.le_of_eq (U35.size).symm)
          replace Z0 := Nat.le_trans Z0 (Nat.le_of_eq (U35.size).symm)
          replace Aob28 := Aob28.wr U35
          replace Fob28_value := Fob28_value.other U35 (Or.inl ne_ob28_ob30)
          replace Fob28_coder := Fob28_coder.other U35 (Or.inl ne_ob28_ob30)
          replace Lob30 : Al Z hp34 ob30 .char [(.int ((own_clean p1)).toUInt32.toUInt16.toUInt32.toInt32), (.int ((own_clean p2)).toUInt32.toUInt16.toUInt32.toInt32), (.int (0 : Int32))] := Lob30_
          refine W.dup C at_133 rfl ?_
          refine W.iconst C (2 : Int32) at_134 rfl ?_
          refine W.iload C at_135 rfl ?_
          refine W.castore C 2 at_137 Lob30 rfl (show (2 : Nat) < 3 by decide) ge_ob30 ?_
          intro hp36 U37 Lob30_
          replace Sf_ob28 := Safe.wr U37 Sf_ob30 Hc Sf_ob28
          have Sf_new := Safe.wr U37 Sf_ob30 Hc Sf_ob30
          replace Hc := CHv.wr U37 Sf_ob30 Hc
          replace Sf_ob30 := Sf_new
          replace S_C := S_C.wr U37
          replace S_F := S_F.wr U37
          replace S_A := S_A.wr U37
          replace S_H := S_H.wr U37
          replace S_L := S_L.wr U37
          replace hS := hS.le (Nat.le_of_eq (U37.size).symm)
          replace Z0 := Nat.le_trans Z0 (Nat.le_of_eq (U37.size).symm)
          replace Aob28 := Aob28.wr U37
          replace Fob28_value := Fob28_value.other U37 (Or.inl ne_ob28_ob30)
          replace Fob28_coder := Fob28_coder.other U37 (Or.inl ne_ob28_ob30)
          replace Lob30 : Al Z hp36 ob30 .char [(.int ((own_clean p1)).toUInt32.toUInt16.toUInt32.toInt32), (.int ((own_clean p2)).toUInt32.toUInt16.toUInt32.toInt32), (.int ((own_clean p3)).toUInt32.toUInt16.toUInt32.toInt32)] := Lob30_
          by_cases q0 : (255 : Int32) < ((own_clean p1)).toUInt32.toUInt16.toUInt32.toInt32
          · skip
            have X_old := Aob28
            refine W.callI C (y' := y2) at_138 rfl (tkw hw 10 rfl) (tkw hw 11 rfl) (tkw hw 8 rfl) (tkw hw 12 rfl) (by decide) (a := ob28) (argsL := [(.ref ob30)]) (rest := [(.ref ob28)]) rfl (lenOf pd_19 rfl) (con_i1_3_0 l Z a0 hw hp36 n0 ob28 ob30 (((own_clean p1)).toUInt32.toUInt16.toUInt32.toInt32) (((own_clean p2)).toUInt32.toUInt16.toUInt32.toInt32) (((own_clean p3)).toUInt32.toUInt16.toUInt32.toInt32) q0 (own_rg _) _ _ cv ne_ob28_ob30 ge_ob28 Aob28 Fob28_value Fob28_coder Lob30 S_C hcv S_A S_H S_L Z0) 1 4 16 rfl rfl rfl (by decide) (by decide) (by decide) (by decide) rfl ?_
            rintro _ hp38 ⟨rfl, Kc, E_a1, d1, Fv, Fc, Ld⟩
            replace S_C := own_sk S_C X_old Kc
            replace S_F := own_sk S_F X_old Kc
            replace S_A := own_sk S_A X_old Kc
            replace S_H := own_sk S_H X_old Kc
            replace S_L := own_sk S_L X_old Kc
            have Sf_ob28_n := Safe.keep Kc (allS Sf_ob28 all0) Hc Sf_ob28
            replace Hc := CHv.keep Kc (allS Sf_ob28 all0) Hc
            replace Sf_ob28 := Sf_ob28_n
            replace hS := hS.le Kc.1
            replace Z0 := Nat.le_trans Z0 Kc.1
            replace Lob30 := Lob30.keep Kc (ninS (Ne.symm ne_ob28_ob30) nin0)
            refine W.astore C #[.val (.int p0), .val (.int p1), .val (.int p2), .val (.int p3), .val (.int p4), .val (.int ((p0 &&& (2147483647 : Int32)) % (5 : Int32))), .val (.int (own_clean p1)), .val (.int (own_clean p2)), .val (.int (own_clean p3)), .val (.int (own_clean p4)), .val (.ref ob28)] at_141 rfl rfl ?_
            refine W.goto C 178 at_143 rfl ?_
            refine W.aload C at_178 rfl rfl ?_
            refine W.callSW C hS (y' := y5) at_180 (tkw hw 28 rfl) (tkw hw 29 rfl) (tkw hw 30 rfl) (tkw hw 31 rfl) (by decide) (argsL := [(.ref ob28)]) (rest := []) rfl (lenOf pd_20 rfl) (con_cp_1_3 l Z a0 hw hp38 n0 ob28 d1 (((own_clean p1)).toUInt32.toUInt16.toUInt32.toInt32) (((own_clean p2)).toUInt32.toUInt16.toUInt32.toInt32) (((own_clean p3)).toUInt32.toUInt16.toUInt32.toInt32) (own_cx _).1 (own_cx _).2 (own_rg _) (own_cx _).1 (own_cx _).2 (own_rg _) (own_cx _).1 (own_cx _).2 (own_rg _) fm hfm cv hcv E_a1 Fv Fc Ld S_C S_F S_A S_H S_L Z0) (fun vm' hW' => (chw C.2.1 hW' (own_ew hw) Hc).1) 0 8 88 rfl rfl rfl (by decide) (by decide) (by decide) (by decide) rfl ?_
            rintro _ hp39 vm40 ⟨rfl, Ed⟩ _ C hSn
            replace Z0 := Nat.le_trans Z0 Ed.1
            replace S_C := S_C.ext Ed
            replace S_F := S_F.ext Ed
            replace S_A := S_A.ext Ed
            replace S_H := S_H.ext Ed
            replace S_L := S_L.ext Ed
            replace E_a1 := E_a1.ext Ed
            replace Fv := Fv.ext Ed
            replace Fc := Fc.ext Ed
            replace Ld := Ld.ext Ed
            replace hS := hSn
            refine W.aload C at_183 rfl rfl ?_
            refine W.callV C (y' := y8) at_185 (tkw hw 52 rfl) (tkw hw 42 rfl) (tkw hw 44 rfl) (tkw hw 43 rfl) (tkw hw 8 rfl) (tkw hw 45 rfl) (by decide) E_a1 (argsL := []) (rest := []) rfl (lenOf pd_7 rfl) (con_ln_1 l Z a0 hw hp39 n0 ob28 d1 _ (6 : Int32) rfl (3 : Int32) (by decide) cv hcv E_a1 Fv Fc Ld S_C Z0) 0 8 88 rfl rfl rfl (by decide) (by decide) (by decide) (by decide) rfl ?_
            rintro _ _ ⟨rfl, rfl⟩
            refine W.iload C at_188 rfl ?_
            refine W.icmp_ne C 197 at_190 rfl (fun bq10 => absurd bq4.symm bq10) (fun bq10 => ?_)
            refine W.iconst C (1 : Int32) at_193 rfl ?_
            refine W.goto C 198 at_194 rfl ?_
            exact W.iret C at_198 (by simp) rfl (FW.ok hS (by decide) (by decide) (fun vm' hW' => rfl))
          · skip
            by_cases q1 : (255 : Int32) < ((own_clean p2)).toUInt32.toUInt16.toUInt32.toInt32
            · skip
              have X_old := Aob28
              refine W.callI C (y' := y2) at_138 rfl (tkw hw 10 rfl) (tkw hw 11 rfl) (tkw hw 8 rfl) (tkw hw 12 rfl) (by decide) (a := ob28) (argsL := [(.ref ob30)]) (rest := [(.ref ob28)]) rfl (lenOf pd_19 rfl) (con_i1_3_1 l Z a0 hw hp36 n0 ob28 ob30 (((own_clean p1)).toUInt32.toUInt16.toUInt32.toInt32) (((own_clean p2)).toUInt32.toUInt16.toUInt32.toInt32) (((own_clean p3)).toUInt32.toUInt16.toUInt32.toInt32) q0 q1 (own_rg _) _ _ cv ne_ob28_ob30 ge_ob28 Aob28 Fob28_value Fob28_coder Lob30 S_C hcv S_A S_H S_L Z0) 1 4 16 rfl rfl rfl (by decide) (by decide) (by decide) (by decide) rfl ?_
              rintro _ hp41 ⟨rfl, Kc, E_a1, d1, Fv, Fc, Ld⟩
              replace S_C := own_sk S_C X_old Kc
              replace S_F := own_sk S_F X_old Kc
              replace S_A := own_sk S_A X_old Kc
              replace S_H := own_sk S_H X_old Kc
              replace S_L := own_sk S_L X_old Kc
              have Sf_ob28_n := Safe.keep Kc (allS Sf_ob28 all0) Hc Sf_ob28
              replace Hc := CHv.keep Kc (allS Sf_ob28 all0) Hc
              replace Sf_ob28 := Sf_ob28_n
              replace hS := hS.le Kc.1
              replace Z0 := Nat.le_trans Z0 Kc.1
              replace Lob30 := Lob30.keep Kc (ninS (Ne.symm ne_ob28_ob30) nin0)
              refine W.astore C #[.val (.int p0), .val (.int p1), .val (.int p2), .val (.int p3), .val (.int p4), .val (.int ((p0 &&& (2147483647 : Int32)) % (5 : Int32))), .val (.int (own_clean p1)), .val (.int (own_clean p2)), .val (.int (own_clean p3)), .val (.int (own_clean p4)), .val (.ref ob28)] at_141 rfl rfl ?_
              refine W.goto C 178 at_143 rfl ?_
              refine W.aload C at_178 rfl rfl ?_
              refine W.callSW C hS (y' := y5) at_180 (tkw hw 28 rfl) (tkw hw 29 rfl) (tkw hw 30 rfl) (tkw hw 31 rfl) (by decide) (argsL := [(.ref ob28)]) (rest := []) rfl (lenOf pd_20 rfl) (con_cp_1_3 l Z a0 hw hp41 n0 ob28 d1 (((own_clean p1)).toUInt32.toUInt16.toUInt32.toInt32) (((own_clean p2)).toUInt32.toUInt16.toUInt32.toInt32) (((own_clean p3)).toUInt32.toUInt16.toUInt32.toInt32) (own_cx _).1 (own_cx _).2 (own_rg _) (own_cx _).1 (own_cx _).2 (own_rg _) (own_cx _).1 (own_cx _).2 (own_rg _) fm hfm cv hcv E_a1 Fv Fc Ld S_C S_F S_A S_H S_L Z0) (fun vm' hW' => (chw C.2.1 hW' (own_ew hw) Hc).1) 0 8 88 rfl rfl rfl (by decide) (by decide) (by decide) (by decide) rfl ?_
              rintro _ hp42 vm43 ⟨rfl, Ed⟩ _ C hSn
              replace Z0 := Nat.le_trans Z0 Ed.1
              replace S_C := S_C.ext Ed
              replace S_F := S_F.ext Ed
              replace S_A := S_A.ext Ed
              replace S_H := S_H.ext Ed
              replace S_L := S_L.ext Ed
              replace E_a1 := E_a1.ext Ed
              replace Fv := Fv.ext Ed
              replace Fc := Fc.ext Ed
              replace Ld := Ld.ext Ed
              replace hS := hSn
              refine W.aload C at_183 rfl rfl ?_
              refine W.callV C (y' := y8) at_185 (tkw hw 52 rfl) (tkw hw 42 rfl) (tkw hw 44 rfl) (tkw hw 43 rfl) (tkw hw 8 rfl) (tkw hw 45 rfl) (by decide) E_a1 (argsL := []) (rest := []) rfl (lenOf pd_7 rfl) (con_ln_1 l Z a0 hw hp42 n0 ob28 d1 _ (6 : Int32) rfl (3 : Int32) (by decide) cv hcv E_a1 Fv Fc Ld S_C Z0) 0 8 88 rfl rfl rfl (by decide) (by decide) (by decide) (by decide) rfl ?_
              rintro _ _ ⟨rfl, rfl⟩
              refine W.iload C at_188 rfl ?_
              refine W.icmp_ne C 197 at_190 rfl (fun bq11 => absurd bq4.symm bq11) (fun bq11 => ?_)
              refine W.iconst C (1 : Int32) at_193 rfl ?_
              refine W.goto C 198 at_194 rfl ?_
              exact W.iret C at_198 (by simp) rfl (FW.ok hS (by decide) (by decide) (fun vm' hW' => rfl))
            · skip
              by_cases q2 : (255 : Int32) < ((own_clean p3)).toUInt32.toUInt16.toUInt32.toInt32
              · skip
                have X_old := Aob28
                refine W.callI C (y' := y2) at_138 rfl (tkw hw 10 rfl) (tkw hw 11 rfl) (tkw hw 8 rfl) (tkw hw 12 rfl) (by decide) (a := ob28) (argsL := [(.ref ob30)]) (rest := [(.ref ob28)]) rfl (lenOf pd_19 rfl) (con_i1_3_2 l Z a0 hw hp36 n0 ob28 ob30 (((own_clean p1)).toUInt32.toUInt16.toUInt32.toInt32) (((own_clean p2)).toUInt32.toUInt16.toUInt32.toInt32) (((own_clean p3)).toUInt32.toUInt16.toUInt32.toInt32) q0 q1 q2 (own_rg _) _ _ cv ne_ob28_ob30 ge_ob28 Aob28 Fob28_value Fob28_coder Lob30 S_C hcv S_A S_H S_L Z0) 1 4 16 rfl rfl rfl (by decide) (by decide) (by decide) (by decide) rfl ?_
                rintro _ hp44 ⟨rfl, Kc, E_a1, d1, Fv, Fc, Ld⟩
                replace S_C := own_sk S_C X_old Kc
                replace S_F := own_sk S_F X_old Kc
                replace S_A := own_sk S_A X_old Kc
                replace S_H := own_sk S_H X_old Kc
                replace S_L := own_sk S_L X_old Kc
                have Sf_ob28_n := Safe.keep Kc (allS Sf_ob28 all0) Hc Sf_ob28
                replace Hc := CHv.keep Kc (allS Sf_ob28 all0) Hc
                replace Sf_ob28 := Sf_ob28_n
                replace hS := hS.le Kc.1
                replace Z0 := Nat.le_trans Z0 Kc.1
                replace Lob30 := Lob30.keep Kc (ninS (Ne.symm ne_ob28_ob30) nin0)
                refine W.astore C #[.val (.int p0), .val (.int p1), .val (.int p2), .val (.int p3), .val (.int p4), .val (.int ((p0 &&& (2147483647 : Int32)) % (5 : Int32))), .val (.int (own_clean p1)), .val (.int (own_clean p2)), .val (.int (own_clean p3)), .val (.int (own_clean p4)), .val (.ref ob28)] at_141 rfl rfl ?_
                refine W.goto C 178 at_143 rfl ?_
                refine W.aload C at_178 rfl rfl ?_
                refine W.callSW C hS (y' := y5) at_180 (tkw hw 28 rfl) (tkw hw 29 rfl) (tkw hw 30 rfl) (tkw hw 31 rfl) (by decide) (argsL := [(.ref ob28)]) (rest := []) rfl (lenOf pd_20 rfl) (con_cp_1_3 l Z a0 hw hp44 n0 ob28 d1 (((own_clean p1)).toUInt32.toUInt16.toUInt32.toInt32) (((own_clean p2)).toUInt32.toUInt16.toUInt32.toInt32) (((own_clean p3)).toUInt32.toUInt16.toUInt32.toInt32) (own_cx _).1 (own_cx _).2 (own_rg _) (own_cx _).1 (own_cx _).2 (own_rg _) (own_cx _).1 (own_cx _).2 (own_rg _) fm hfm cv hcv E_a1 Fv Fc Ld S_C S_F S_A S_H S_L Z0) (fun vm' hW' => (chw C.2.1 hW' (own_ew hw) Hc).1) 0 8 88 rfl rfl rfl (by decide) (by decide) (by decide) (by decide) rfl ?_
                rintro _ hp45 vm46 ⟨rfl, Ed⟩ _ C hSn
                replace Z0 := Nat.le_trans Z0 Ed.1
                replace S_C := S_C.ext Ed
                replace S_F := S_F.ext Ed
                replace S_A := S_A.ext Ed
                replace S_H := S_H.ext Ed
                replace S_L := S_L.ext Ed
                replace E_a1 := E_a1.ext Ed
                replace Fv := Fv.ext Ed
                replace Fc := Fc.ext Ed
                replace Ld := Ld.ext Ed
                replace hS := hSn
                refine W.aload C at_183 rfl rfl ?_
                refine W.callV C (y' := y8) at_185 (tkw hw 52 rfl) (tkw hw 42 rfl) (tkw hw 44 rfl) (tkw hw 43 rfl) (tkw hw 8 rfl) (tkw hw 45 rfl) (by decide) E_a1 (argsL := []) (rest := []) rfl (lenOf pd_7 rfl) (con_ln_1 l Z a0 hw hp45 n0 ob28 d1 _ (6 : Int32) rfl (3 : Int32) (by decide) cv hcv E_a1 Fv Fc Ld S_C Z0) 0 8 88 rfl rfl rfl (by decide) (by decide) (by decide) (by decide) rfl ?_
                rintro _ _ ⟨rfl, rfl⟩
                refine W.iload C at_188 rfl ?_
                refine W.icmp_ne C 197 at_190 rfl (fun bq12 => absurd bq4.symm bq12) (fun bq12 => ?_)
                refine W.iconst C (1 : Int32) at_193 rfl ?_
                refine W.goto C 198 at_194 rfl ?_
                exact W.iret C at_198 (by simp) rfl (FW.ok hS (by decide) (by decide) (fun vm' hW' => rfl))
              · skip
                have X_old := Aob28
                refine W.callI C (y' := y2) at_138 rfl (tkw hw 10 rfl) (tkw hw 11 rfl) (tkw hw 8 rfl) (tkw hw 12 rfl) (by decide) (a := ob28) (argsL := [(.ref ob30)]) (rest := [(.ref ob28)]) rfl (lenOf pd_19 rfl) (con_i1_3 l Z a0 hw hp36 n0 ob28 ob30 (((own_clean p1)).toUInt32.toUInt16.toUInt32.toInt32) (((own_clean p2)).toUInt32.toUInt16.toUInt32.toInt32) (((own_clean p3)).toUInt32.toUInt16.toUInt32.toInt32) q0 q1 q2 _ _ cv ne_ob28_ob30 ge_ob28 Aob28 Fob28_value Fob28_coder Lob30 S_C hcv Z0) 1 3 10 rfl rfl rfl (by decide) (by decide) (by decide) (by decide) rfl ?_
                rintro _ hp47 ⟨rfl, Kc, E_a1, d1, Fv, Fc, Ld⟩
                replace S_C := own_sk S_C X_old Kc
                replace S_F := own_sk S_F X_old Kc
                replace S_A := own_sk S_A X_old Kc
                replace S_H := own_sk S_H X_old Kc
                replace S_L := own_sk S_L X_old Kc
                have Sf_ob28_n := Safe.keep Kc (allS Sf_ob28 all0) Hc Sf_ob28
                replace Hc := CHv.keep Kc (allS Sf_ob28 all0) Hc
                replace Sf_ob28 := Sf_ob28_n
                replace hS := hS.le Kc.1
                replace Z0 := Nat.le_trans Z0 Kc.1
                replace Lob30 := Lob30.keep Kc (ninS (Ne.symm ne_ob28_ob30) nin0)
                refine W.astore C #[.val (.int p0), .val (.int p1), .val (.int p2), .val (.int p3), .val (.int p4), .val (.int ((p0 &&& (2147483647 : Int32)) % (5 : Int32))), .val (.int (own_clean p1)), .val (.int (own_clean p2)), .val (.int (own_clean p3)), .val (.int (own_clean p4)), .val (.ref ob28)] at_141 rfl rfl ?_
                refine W.goto C 178 at_143 rfl ?_
                refine W.aload C at_178 rfl rfl ?_
                refine W.callSW C hS (y' := y5) at_180 (tkw hw 28 rfl) (tkw hw 29 rfl) (tkw hw 30 rfl) (tkw hw 31 rfl) (by decide) (argsL := [(.ref ob28)]) (rest := []) rfl (lenOf pd_20 rfl) (con_cp_0_3 l Z a0 hw hp47 n0 ob28 d1 (((own_clean p1)).toUInt32.toUInt16.toUInt32.toInt32) (((own_clean p2)).toUInt32.toUInt16.toUInt32.toInt32) (((own_clean p3)).toUInt32.toUInt16.toUInt32.toInt32) (own_cx _).1 (own_cx _).2 (own_rg _) q0 (own_cx _).1 (own_cx _).2 (own_rg _) q1 (own_cx _).1 (own_cx _).2 (own_rg _) q2 fm hfm cv hcv E_a1 Fv Fc Ld S_C S_F Z0) (fun vm' hW' => (chw C.2.1 hW' (own_ew hw) Hc).1) 0 7 82 rfl rfl rfl (by decide) (by decide) (by decide) (by decide) rfl ?_
                rintro _ hp48 vm49 ⟨rfl, Ed⟩ _ C hSn
                replace Z0 := Nat.le_trans Z0 Ed.1
                replace S_C := S_C.ext Ed
                replace S_F := S_F.ext Ed
                replace S_A := S_A.ext Ed
                replace S_H := S_H.ext Ed
                replace S_L := S_L.ext Ed
                replace E_a1 := E_a1.ext Ed
                replace Fv := Fv.ext Ed
                replace Fc := Fc.ext Ed
                replace Ld := Ld.ext Ed
                replace hS := hSn
                refine W.aload C at_183 rfl rfl ?_
                refine W.callV C (y' := y8) at_185 (tkw hw 52 rfl) (tkw hw 42 rfl) (tkw hw 44 rfl) (tkw hw 43 rfl) (tkw hw 8 rfl) (tkw hw 45 rfl) (by decide) E_a1 (argsL := []) (rest := []) rfl (lenOf pd_7 rfl) (con_ln_0 l Z a0 hw hp48 n0 ob28 d1 _ (3 : Int32) rfl (3 : Int32) (by decide) cv hcv E_a1 Fv Fc Ld S_C Z0) 0 7 82 rfl rfl rfl (by decide) (by decide) (by decide) (by decide) rfl ?_
                rintro _ _ ⟨rfl, rfl⟩
                refine W.iload C at_188 rfl ?_
                refine W.icmp_ne C 197 at_190 rfl (fun bq13 => absurd bq4.symm bq13) (fun bq13 => ?_)
                refine W.iconst C (1 : Int32) at_193 rfl ?_
                refine W.goto C 198 at_194 rfl ?_
                exact W.iret C at_198 (by simp) rfl (FW.ok hS (by decide) (by decide) (fun vm' hW' => rfl))
      · skip
        refine W.new C at_85 (tkw hw 6 rfl) (tkw hw 7 rfl) (tkw hw 8 rfl) 1 4 rfl rfl (by decide) (by decide) ?_
        intro ob50 hp51 hob50 Eob50 Aob50 Dob50
        have Sf_ob50 : Safe Z own_EL s.vm h0 ob50 := Safe.new (Nat.le_of_eq hob50.symm)
        have ge_ob50 : n0 ≤ ob50 := by rw [hob50]; exact Z0
        replace Sf_ob50 := Safe.ext Eob50 Hc Sf_ob50
        replace Hc := CHv.ext Eob50 Hc
        replace S_C := S_C.ext Eob50
        replace S_F := S_F.ext Eob50
        replace S_A := S_A.ext Eob50
        replace S_H := S_H.ext Eob50
        replace S_L := S_L.ext Eob50
        replace hS := hS.le Eob50.1
        replace Z0 := Nat.le_trans Z0 Eob50.1
        have Fob50_value : Fld Z hp51 ob50 "java/lang/String" "value" "[B" .null := Dob50 (Or.inr (tkw hw 22 rfl)) (ty := (.array .byte)) (by decide)
        have Fob50_coder : Fld Z hp51 ob50 "java/lang/String" "coder" "B" (.int (0 : Int32)) := Dob50 (Or.inr (tkw hw 23 rfl)) (ty := .byte) (by decide)
        refine W.dup C at_88 rfl ?_
        refine W.iconst C (2 : Int32) at_89 rfl ?_
        refine W.newP C 2 2 at_90 (tkw hw 9 rfl) rfl (Nat.le_refl _) (by decide) 2 6 rfl rfl (by decide) (by decide) ?_
        intro ob52 hp53 hob52 Eob52 Lob52
        have Sf_ob52 : Safe Z own_EL s.vm hp51 ob52 := Safe.new (Nat.le_of_eq hob52.symm)
        have ne_ob50_ob52 : ob50 ≠ ob52 := Nat.ne_of_lt (by rw [hob52]; exact Aob50.lt)
        have ge_ob52 : n0 ≤ ob52 := by rw [hob52]; exact Z0
        replace Sf_ob50 := Safe.ext Eob52 Hc Sf_ob50
        replace Sf_ob52 := Safe.ext Eob52 Hc Sf_ob52
        replace Hc := CHv.ext Eob52 Hc
        replace S_C := S_C.ext Eob52
        replace S_F := S_F.ext Eob52
        replace S_A := S_A.ext Eob52
        replace S_H := S_H.ext Eob52
        replace S_L := S_L.ext Eob52
        replace hS := hS.le Eob52.1
        replace Z0 := Nat.le_trans Z0 Eob52.1
        replace Aob50 := Aob50.ext Eob52
        replace Fob50_value := Fob50_value.ext Eob52
        replace Fob50_coder := Fob50_coder.ext Eob52
        replace Lob52 : Al Z hp53 ob52 .char [(.int (0 : Int32)), (.int (0 : Int32))] := Lob52
        refine W.dup C at_92 rfl ?_
        refine W.iconst C (0 : Int32) at_93 rfl ?_
        refine W.iload C at_94 rfl ?_
        refine W.castore C 0 at_96 Lob52 rfl (show (0 : Nat) < 2 by decide) ge_ob52 ?_
        intro hp54 U55 Lob52_
        replace Sf_ob50 := Safe.wr U55 Sf_ob52 Hc Sf_ob50
        have Sf_new := Safe.wr U55 Sf_ob52 Hc Sf_ob52
        replace Hc := CHv.wr U55 Sf_ob52 Hc
        replace Sf_ob52 := Sf_new
        replace S_C := S_C.wr U55
        replace S_F := S_F.wr U55
        replace S_A := S_A.wr U55
        replace S_H := S_H.wr U55
        replace S_L := S_L.wr U55
        replace hS := hS.le (Nat.le_of_eq (U55.size).symm)
        replace Z0 := Nat.le_trans Z0 (Nat.le_of_eq (U55.size).symm)
        replace Aob50 := Aob50.wr U55
        replace Fob50_value := Fob50_value.other U55 (Or.inl ne_ob50_ob52)
        replace Fob50_coder := Fob50_coder.other U55 (Or.inl ne_ob50_ob52)
        replace Lob52 : Al Z hp54 ob52 .char [(.int ((own_clean p1)).toUInt32.toUInt16.toUInt32.toInt32), (.int (0 : Int32))] := Lob52_
        refine W.dup C at_97 rfl ?_
        refine W.iconst C (1 : Int32) at_98 rfl ?_
        refine W.iload C at_99 rfl ?_
        refine W.castore C 1 at_101 Lob52 rfl (show (1 : Nat) < 2 by decide) ge_ob52 ?_
        intro hp56 U57 Lob52_
        replace Sf_ob50 := Safe.wr U57 Sf_ob52 Hc Sf_ob50
        have Sf_new := Safe.wr U57 Sf_ob52 Hc Sf_ob52
        replace Hc := CHv.wr U57 Sf_ob52 Hc
        replace Sf_ob52 := Sf_new
        replace S_C := S_C.wr U57
        replace S_F := S_F.wr U57
        replace S_A := S_A.wr U57
        replace S_H := S_H.wr U57
        replace S_L := S_L.wr U57
        replace hS := hS.le (Nat.le_of_eq (U57.size).symm)
        replace Z0 := Nat.le_trans Z0 (Nat.le_of_eq (U57.size).symm)
        replace Aob50 := Aob50.wr U57
        replace Fob50_value := Fob50_value.other U57 (Or.inl ne_ob50_ob52)
        replace Fob50_coder := Fob50_coder.other U57 (Or.inl ne_ob50_ob52)
        replace Lob52 : Al Z hp56 ob52 .char [(.int ((own_clean p1)).toUInt32.toUInt16.toUInt32.toInt32), (.int ((own_clean p2)).toUInt32.toUInt16.toUInt32.toInt32)] := Lob52_
        by_cases q0 : (255 : Int32) < ((own_clean p1)).toUInt32.toUInt16.toUInt32.toInt32
        · skip
          have X_old := Aob50
          refine W.callI C (y' := y2) at_102 rfl (tkw hw 10 rfl) (tkw hw 11 rfl) (tkw hw 8 rfl) (tkw hw 12 rfl) (by decide) (a := ob50) (argsL := [(.ref ob52)]) (rest := [(.ref ob50)]) rfl (lenOf pd_19 rfl) (con_i1_2_0 l Z a0 hw hp56 n0 ob50 ob52 (((own_clean p1)).toUInt32.toUInt16.toUInt32.toInt32) (((own_clean p2)).toUInt32.toUInt16.toUInt32.toInt32) q0 (own_rg _) _ _ cv ne_ob50_ob52 ge_ob50 Aob50 Fob50_value Fob50_coder Lob52 S_C hcv S_A S_H S_L Z0) 1 4 12 rfl rfl rfl (by decide) (by decide) (by decide) (by decide) rfl ?_
          rintro _ hp58 ⟨rfl, Kc, E_a1, d1, Fv, Fc, Ld⟩
          replace S_C := own_sk S_C X_old Kc
          replace S_F := own_sk S_F X_old Kc
          replace S_A := own_sk S_A X_old Kc
          replace S_H := own_sk S_H X_old Kc
          replace S_L := own_sk S_L X_old Kc
          have Sf_ob50_n := Safe.keep Kc (allS Sf_ob50 all0) Hc Sf_ob50
          replace Hc := CHv.keep Kc (allS Sf_ob50 all0) Hc
          replace Sf_ob50 := Sf_ob50_n
          replace hS := hS.le Kc.1
          replace Z0 := Nat.le_trans Z0 Kc.1
          replace Lob52 := Lob52.keep Kc (ninS (Ne.symm ne_ob50_ob52) nin0)
          refine W.astore C #[.val (.int p0), .val (.int p1), .val (.int p2), .val (.int p3), .val (.int p4), .val (.int ((p0 &&& (2147483647 : Int32)) % (5 : Int32))), .val (.int (own_clean p1)), .val (.int (own_clean p2)), .val (.int (own_clean p3)), .val (.int (own_clean p4)), .val (.ref ob50)] at_105 rfl rfl ?_
          refine W.goto C 178 at_107 rfl ?_
          refine W.aload C at_178 rfl rfl ?_
          refine W.callSW C hS (y' := y5) at_180 (tkw hw 28 rfl) (tkw hw 29 rfl) (tkw hw 30 rfl) (tkw hw 31 rfl) (by decide) (argsL := [(.ref ob50)]) (rest := []) rfl (lenOf pd_20 rfl) (con_cp_1_2 l Z a0 hw hp58 n0 ob50 d1 (((own_clean p1)).toUInt32.toUInt16.toUInt32.toInt32) (((own_clean p2)).toUInt32.toUInt16.toUInt32.toInt32) (own_cx _).1 (own_cx _).2 (own_rg _) (own_cx _).1 (own_cx _).2 (own_rg _) fm hfm cv hcv E_a1 Fv Fc Ld S_C S_F S_A S_H S_L Z0) (fun vm' hW' => (chw C.2.1 hW' (own_ew hw) Hc).1) 0 8 84 rfl rfl rfl (by decide) (by decide) (by decide) (by decide) rfl ?_
          rintro _ hp59 vm60 ⟨rfl, Ed⟩ _ C hSn
          replace Z0 := Nat.le_trans Z0 Ed.1
          replace S_C := S_C.ext Ed
          replace S_F := S_F.ext Ed
          replace S_A := S_A.ext Ed
          replace S_H := S_H.ext Ed
          replace S_L := S_L.ext Ed
          replace E_a1 := E_a1.ext Ed
          replace Fv := Fv.ext Ed
          replace Fc := Fc.ext Ed
          replace Ld := Ld.ext Ed
          replace hS := hSn
          refine W.aload C at_183 rfl rfl ?_
          refine W.callV C (y' := y8) at_185 (tkw hw 52 rfl) (tkw hw 42 rfl) (tkw hw 44 rfl) (tkw hw 43 rfl) (tkw hw 8 rfl) (tkw hw 45 rfl) (by decide) E_a1 (argsL := []) (rest := []) rfl (lenOf pd_7 rfl) (con_ln_1 l Z a0 hw hp59 n0 ob50 d1 _ (4 : Int32) rfl (2 : Int32) (by decide) cv hcv E_a1 Fv Fc Ld S_C Z0) 0 8 84 rfl rfl rfl (by decide) (by decide) (by decide) (by decide) rfl ?_
          rintro _ _ ⟨rfl, rfl⟩
          refine W.iload C at_188 rfl ?_
          refine W.icmp_ne C 197 at_190 rfl (fun bq14 => absurd bq3.symm bq14) (fun bq14 => ?_)
          refine W.iconst C (1 : Int32) at_193 rfl ?_
          refine W.goto C 198 at_194 rfl ?_
          exact W.iret C at_198 (by simp) rfl (FW.ok hS (by decide) (by decide) (fun vm' hW' => rfl))
        · skip
          by_cases q1 : (255 : Int32) < ((own_clean p2)).toUInt32.toUInt16.toUInt32.toInt32
          · skip
            have X_old := Aob50
            refine W.callI C (y' := y2) at_102 rfl (tkw hw 10 rfl) (tkw hw 11 rfl) (tkw hw 8 rfl) (tkw hw 12 rfl) (by decide) (a := ob50) (argsL := [(.ref ob52)]) (rest := [(.ref ob50)]) rfl (lenOf pd_19 rfl) (con_i1_2_1 l Z a0 hw hp56 n0 ob50 ob52 (((own_clean p1)).toUInt32.toUInt16.toUInt32.toInt32) (((own_clean p2)).toUInt32.toUInt16.toUInt32.toInt32) q0 q1 (own_rg _) _ _ cv ne_ob50_ob52 ge_ob50 Aob50 Fob50_value Fob50_coder Lob52 S_C hcv S_A S_H S_L Z0) 1 4 12 rfl rfl rfl (by decide) (by decide) (by decide) (by decide) rfl ?_
            rintro _ hp61 ⟨rfl, Kc, E_a1, d1, Fv, Fc, Ld⟩
            replace S_C := own_sk S_C X_old Kc
            replace S_F := own_sk S_F X_old Kc
            replace S_A := own_sk S_A X_old Kc
            replace S_H := own_sk S_H X_old Kc
            replace S_L := own_sk S_L X_old Kc
            have Sf_ob50_n := Safe.keep Kc (allS Sf_ob50 all0) Hc Sf_ob50
            replace Hc := CHv.keep Kc (allS Sf_ob50 all0) Hc
            replace Sf_ob50 := Sf_ob50_n
            replace hS := hS.le Kc.1
            replace Z0 := Nat.le_trans Z0 Kc.1
            replace Lob52 := Lob52.keep Kc (ninS (Ne.symm ne_ob50_ob52) nin0)
            refine W.astore C #[.val (.int p0), .val (.int p1), .val (.int p2), .val (.int p3), .val (.int p4), .val (.int ((p0 &&& (2147483647 : Int32)) % (5 : Int32))), .val (.int (own_clean p1)), .val (.int (own_clean p2)), .val (.int (own_clean p3)), .val (.int (own_clean p4)), .val (.ref ob50)] at_105 rfl rfl ?_
            refine W.goto C 178 at_107 rfl ?_
            refine W.aload C at_178 rfl rfl ?_
            refine W.callSW C hS (y' := y5) at_180 (tkw hw 28 rfl) (tkw hw 29 rfl) (tkw hw 30 rfl) (tkw hw 31 rfl) (by decide) (argsL := [(.ref ob50)]) (rest := []) rfl (lenOf pd_20 rfl) (con_cp_1_2 l Z a0 hw hp61 n0 ob50 d1 (((own_clean p1)).toUInt32.toUInt16.toUInt32.toInt32) (((own_clean p2)).toUInt32.toUInt16.toUInt32.toInt32) (own_cx _).1 (own_cx _).2 (own_rg _) (own_cx _).1 (own_cx _).2 (own_rg _) fm hfm cv hcv E_a1 Fv Fc Ld S_C S_F S_A S_H S_L Z0) (fun vm' hW' => (chw C.2.1 hW' (own_ew hw) Hc).1) 0 8 84 rfl rfl rfl (by decide) (by decide) (by decide) (by decide) rfl ?_
            rintro _ hp62 vm63 ⟨rfl, Ed⟩ _ C hSn
            replace Z0 := Nat.le_trans Z0 Ed.1
            replace S_C := S_C.ext Ed
            replace S_F := S_F.ext Ed
            replace S_A := S_A.ext Ed
            replace S_H := S_H.ext Ed
            replace S_L := S_L.ext Ed
            replace E_a1 := E_a1.ext Ed
            replace Fv := Fv.ext Ed
            replace Fc := Fc.ext Ed
            replace Ld := Ld.ext Ed
            replace hS := hSn
            refine W.aload C at_183 rfl rfl ?_
            refine W.callV C (y' := y8) at_185 (tkw hw 52 rfl) (tkw hw 42 rfl) (tkw hw 44 rfl) (tkw hw 43 rfl) (tkw hw 8 rfl) (tkw hw 45 rfl) (by decide) E_a1 (argsL := []) (rest := []) rfl (lenOf pd_7 rfl) (con_ln_1 l Z a0 hw hp62 n0 ob50 d1 _ (4 : Int32) rfl (2 : Int32) (by decide) cv hcv E_a1 Fv Fc Ld S_C Z0) 0 8 84 rfl rfl rfl (by decide) (by decide) (by decide) (by decide) rfl ?_
            rintro _ _ ⟨rfl, rfl⟩
            refine W.iload C at_188 rfl ?_
            refine W.icmp_ne C 197 at_190 rfl (fun bq15 => absurd bq3.symm bq15) (fun bq15 => ?_)
            refine W.iconst C (1 : Int32) at_193 rfl ?_
            refine W.goto C 198 at_194 rfl ?_
            exact W.iret C at_198 (by simp) rfl (FW.ok hS (by decide) (by decide) (fun vm' hW' => rfl))
          · skip
            have X_old := Aob50
            refine W.callI C (y' := y2) at_102 rfl (tkw hw 10 rfl) (tkw hw 11 rfl) (tkw hw 8 rfl) (tkw hw 12 rfl) (by decide) (a := ob50) (argsL := [(.ref ob52)]) (rest := [(.ref ob50)]) rfl (lenOf pd_19 rfl) (con_i1_2 l Z a0 hw hp56 n0 ob50 ob52 (((own_clean p1)).toUInt32.toUInt16.toUInt32.toInt32) (((own_clean p2)).toUInt32.toUInt16.toUInt32.toInt32) q0 q1 _ _ cv ne_ob50_ob52 ge_ob50 Aob50 Fob50_value Fob50_coder Lob52 S_C hcv Z0) 1 3 8 rfl rfl rfl (by decide) (by decide) (by decide) (by decide) rfl ?_
            rintro _ hp64 ⟨rfl, Kc, E_a1, d1, Fv, Fc, Ld⟩
            replace S_C := own_sk S_C X_old Kc
            replace S_F := own_sk S_F X_old Kc
            replace S_A := own_sk S_A X_old Kc
            replace S_H := own_sk S_H X_old Kc
            replace S_L := own_sk S_L X_old Kc
            have Sf_ob50_n := Safe.keep Kc (allS Sf_ob50 all0) Hc Sf_ob50
            replace Hc := CHv.keep Kc (allS Sf_ob50 all0) Hc
            replace Sf_ob50 := Sf_ob50_n
            replace hS := hS.le Kc.1
            replace Z0 := Nat.le_trans Z0 Kc.1
            replace Lob52 := Lob52.keep Kc (ninS (Ne.symm ne_ob50_ob52) nin0)
            refine W.astore C #[.val (.int p0), .val (.int p1), .val (.int p2), .val (.int p3), .val (.int p4), .val (.int ((p0 &&& (2147483647 : Int32)) % (5 : Int32))), .val (.int (own_clean p1)), .val (.int (own_clean p2)), .val (.int (own_clean p3)), .val (.int (own_clean p4)), .val (.ref ob50)] at_105 rfl rfl ?_
            refine W.goto C 178 at_107 rfl ?_
            refine W.aload C at_178 rfl rfl ?_
            refine W.callSW C hS (y' := y5) at_180 (tkw hw 28 rfl) (tkw hw 29 rfl) (tkw hw 30 rfl) (tkw hw 31 rfl) (by decide) (argsL := [(.ref ob50)]) (rest := []) rfl (lenOf pd_20 rfl) (con_cp_0_2 l Z a0 hw hp64 n0 ob50 d1 (((own_clean p1)).toUInt32.toUInt16.toUInt32.toInt32) (((own_clean p2)).toUInt32.toUInt16.toUInt32.toInt32) (own_cx _).1 (own_cx _).2 (own_rg _) q0 (own_cx _).1 (own_cx _).2 (own_rg _) q1 fm hfm cv hcv E_a1 Fv Fc Ld S_C S_F Z0) (fun vm' hW' => (chw C.2.1 hW' (own_ew hw) Hc).1) 0 7 80 rfl rfl rfl (by decide) (by decide) (by decide) (by decide) rfl ?_
            rintro _ hp65 vm66 ⟨rfl, Ed⟩ _ C hSn
            replace Z0 := Nat.le_trans Z0 Ed.1
            replace S_C := S_C.ext Ed
            replace S_F := S_F.ext Ed
            replace S_A := S_A.ext Ed
            replace S_H := S_H.ext Ed
            replace S_L := S_L.ext Ed
            replace E_a1 := E_a1.ext Ed
            replace Fv := Fv.ext Ed
            replace Fc := Fc.ext Ed
            replace Ld := Ld.ext Ed
            replace hS := hSn
            refine W.aload C at_183 rfl rfl ?_
            refine W.callV C (y' := y8) at_185 (tkw hw 52 rfl) (tkw hw 42 rfl) (tkw hw 44 rfl) (tkw hw 43 rfl) (tkw hw 8 rfl) (tkw hw 45 rfl) (by decide) E_a1 (argsL := []) (rest := []) rfl (lenOf pd_7 rfl) (con_ln_0 l Z a0 hw hp65 n0 ob50 d1 _ (2 : Int32) rfl (2 : Int32) (by decide) cv hcv E_a1 Fv Fc Ld S_C Z0) 0 7 80 rfl rfl rfl (by decide) (by decide) (by decide) (by decide) rfl ?_
            rintro _ _ ⟨rfl, rfl⟩
            refine W.iload C at_188 rfl ?_
            refine W.icmp_ne C 197 at_190 rfl (fun bq16 => absurd bq3.symm bq16) (fun bq16 => ?_)
            refine W.iconst C (1 : Int32) at_193 rfl ?_
            refine W.goto C 198 at_194 rfl ?_
            exact W.iret C at_198 (by simp) rfl (FW.ok hS (by decide) (by decide) (fun vm' hW' => rfl))
    · skip
      refine W.new C at_59 (tkw hw 6 rfl) (tkw hw 7 rfl) (tkw hw 8 rfl) 1 4 rfl rfl (by decide) (by decide) ?_
      intro ob67 hp68 hob67 Eob67 Aob67 Dob67
      have Sf_ob67 : Safe Z own_EL s.vm h0 ob67 := Safe.new (Nat.le_of_eq hob67.symm)
      have ge_ob67 : n0 ≤ ob67 := by rw [hob67]; exact Z0
      replace Sf_ob67 := Safe.ext Eob67 Hc Sf_ob67
      replace Hc := CHv.ext Eob67 Hc
      replace S_C := S_C.ext Eob67
      replace S_F := S_F.ext Eob67
      replace S_A := S_A.ext Eob67
      replace S_H := S_H.ext Eob67
      replace S_L := S_L.ext Eob67
      replace hS := hS.le Eob67.1
      replace Z0 := Nat.le_trans Z0 Eob67.1
      have Fob67_value : Fld Z hp68 ob67 "java/lang/String" "value" "[B" .null := Dob67 (Or.inr (tkw hw 22 rfl)) (ty := (.array .byte)) (by decide)
      have Fob67_coder : Fld Z hp68 ob67 "java/lang/String" "coder" "B" (.int (0 : Int32)) := Dob67 (Or.inr (tkw hw 23 rfl)) (ty := .byte) (by decide)
      refine W.dup C at_62 rfl ?_
      refine W.iconst C (1 : Int32) at_63 rfl ?_
      refine W.newP C 1 1 at_64 (tkw hw 9 rfl) rfl (Nat.le_refl _) (by decide) 2 5 rfl rfl (by decide) (by decide) ?_
      intro ob69 hp70 hob69 Eob69 Lob69
      have Sf_ob69 : Safe Z own_EL s.vm hp68 ob69 := Safe.new (Nat.le_of_eq hob69.symm)
      have ne_ob67_ob69 : ob67 ≠ ob69 := Nat.ne_of_lt (by rw [hob69]; exact Aob67.lt)
      have ge_ob69 : n0 ≤ ob69 := by rw [hob69]; exact Z0
      replace Sf_ob67 := Safe.ext Eob69 Hc Sf_ob67
      replace Sf_ob69 := Safe.ext Eob69 Hc Sf_ob69
      replace Hc := CHv.ext Eob69 Hc
      replace S_C := S_C.ext Eob69
      replace S_F := S_F.ext Eob69
      replace S_A := S_A.ext Eob69
      replace S_H := S_H.ext Eob69
      replace S_L := S_L.ext Eob69
      replace hS := hS.le Eob69.1
      replace Z0 := Nat.le_trans Z0 Eob69.1
      replace Aob67 := Aob67.ext Eob69
      replace Fob67_value := Fob67_value.ext Eob69
      replace Fob67_coder := Fob67_coder.ext Eob69
      replace Lob69 : Al Z hp70 ob69 .char [(.int (0 : Int32))] := Lob69
      refine W.dup C at_66 rfl ?_
      refine W.iconst C (0 : Int32) at_67 rfl ?_
      refine W.iload C at_68 rfl ?_
      refine W.castore C 0 at_70 Lob69 rfl (show (0 : Nat) < 1 by decide) ge_ob69 ?_
      intro hp71 U72 Lob69_
      replace Sf_ob67 := Safe.wr U72 Sf_ob69 Hc Sf_ob67
      have Sf_new := Safe.wr U72 Sf_ob69 Hc Sf_ob69
      replace Hc := CHv.wr U72 Sf_ob69 Hc
      replace Sf_ob69 := Sf_new
      replace S_C := S_C.wr U72
      replace S_F := S_F.wr U72
      replace S_A := S_A.wr U72
      replace S_H := S_H.wr U72
      replace S_L := S_L.wr U72
      replace hS := hS.le (Nat.le_of_eq (U72.size).symm)
      replace Z0 := Nat.le_trans Z0 (Nat.le_of_eq (U72.size).symm)
      replace Aob67 := Aob67.wr U72
      replace Fob67_value := Fob67_value.other U72 (Or.inl ne_ob67_ob69)
      replace Fob67_coder := Fob67_coder.other U72 (Or.inl ne_ob67_ob69)
      replace Lob69 : Al Z hp71 ob69 .char [(.int ((own_clean p1)).toUInt32.toUInt16.toUInt32.toInt32)] := Lob69_
      by_cases q0 : (255 : Int32) < ((own_clean p1)).toUInt32.toUInt16.toUInt32.toInt32
      · skip
        have X_old := Aob67
        refine W.callI C (y' := y2) at_71 rfl (tkw hw 10 rfl) (tkw hw 11 rfl) (tkw hw 8 rfl) (tkw hw 12 rfl) (by decide) (a := ob67) (argsL := [(.ref ob69)]) (rest := [(.ref ob67)]) rfl (lenOf pd_19 rfl) (con_i1_1_0 l Z a0 hw hp71 n0 ob67 ob69 (((own_clean p1)).toUInt32.toUInt16.toUInt32.toInt32) q0 (own_rg _) _ _ cv ne_ob67_ob69 ge_ob67 Aob67 Fob67_value Fob67_coder Lob69 S_C hcv S_A S_H S_L Z0) 1 4 8 rfl rfl rfl (by decide) (by decide) (by decide) (by decide) rfl ?_
        rintro _ hp73 ⟨rfl, Kc, E_a1, d1, Fv, Fc, Ld⟩
        replace S_C := own_sk S_C X_old Kc
        replace S_F := own_sk S_F X_old Kc
        replace S_A := own_sk S_A X_old Kc
        replace S_H := own_sk S_H X_old Kc
        replace S_L := own_sk S_L X_old Kc
        have Sf_ob67_n := Safe.keep Kc (allS Sf_ob67 all0) Hc Sf_ob67
        replace Hc := CHv.keep Kc (allS Sf_ob67 all0) Hc
        replace Sf_ob67 := Sf_ob67_n
        replace hS := hS.le Kc.1
        replace Z0 := Nat.le_trans Z0 Kc.1
        replace Lob69 := Lob69.keep Kc (ninS (Ne.symm ne_ob67_ob69) nin0)
        refine W.astore C #[.val (.int p0), .val (.int p1), .val (.int p2), .val (.int p3), .val (.int p4), .val (.int ((p0 &&& (2147483647 : Int32)) % (5 : Int32))), .val (.int (own_clean p1)), .val (.int (own_clean p2)), .val (.int (own_clean p3)), .val (.int (own_clean p4)), .val (.ref ob67)] at_74 rfl rfl ?_
        refine W.goto C 178 at_76 rfl ?_
        refine W.aload C at_178 rfl rfl ?_
        refine W.callSW C hS (y' := y5) at_180 (tkw hw 28 rfl) (tkw hw 29 rfl) (tkw hw 30 rfl) (tkw hw 31 rfl) (by decide) (argsL := [(.ref ob67)]) (rest := []) rfl (lenOf pd_20 rfl) (con_cp_1_1 l Z a0 hw hp73 n0 ob67 d1 (((own_clean p1)).toUInt32.toUInt16.toUInt32.toInt32) (own_cx _).1 (own_cx _).2 (own_rg _) fm hfm cv hcv E_a1 Fv Fc Ld S_C S_F S_A S_H S_L Z0) (fun vm' hW' => (chw C.2.1 hW' (own_ew hw) Hc).1) 0 8 80 rfl rfl rfl (by decide) (by decide) (by decide) (by decide) rfl ?_
        rintro _ hp74 vm75 ⟨rfl, Ed⟩ _ C hSn
        replace Z0 := Nat.le_trans Z0 Ed.1
        replace S_C := S_C.ext Ed
        replace S_F := S_F.ext Ed
        replace S_A := S_A.ext Ed
        replace S_H := S_H.ext Ed
        replace S_L := S_L.ext Ed
        replace E_a1 := E_a1.ext Ed
        replace Fv := Fv.ext Ed
        replace Fc := Fc.ext Ed
        replace Ld := Ld.ext Ed
        replace hS := hSn
        refine W.aload C at_183 rfl rfl ?_
        refine W.callV C (y' := y8) at_185 (tkw hw 52 rfl) (tkw hw 42 rfl) (tkw hw 44 rfl) (tkw hw 43 rfl) (tkw hw 8 rfl) (tkw hw 45 rfl) (by decide) E_a1 (argsL := []) (rest := []) rfl (lenOf pd_7 rfl) (con_ln_1 l Z a0 hw hp74 n0 ob67 d1 _ (2 : Int32) rfl (1 : Int32) (by decide) cv hcv E_a1 Fv Fc Ld S_C Z0) 0 8 80 rfl rfl rfl (by decide) (by decide) (by decide) (by decide) rfl ?_
        rintro _ _ ⟨rfl, rfl⟩
        refine W.iload C at_188 rfl ?_
        refine W.icmp_ne C 197 at_190 rfl (fun bq17 => absurd bq2.symm bq17) (fun bq17 => ?_)
        refine W.iconst C (1 : Int32) at_193 rfl ?_
        refine W.goto C 198 at_194 rfl ?_
        exact W.iret C at_198 (by simp) rfl (FW.ok hS (by decide) (by decide) (fun vm' hW' => rfl))
      · skip
        have X_old := Aob67
        refine W.callI C (y' := y2) at_71 rfl (tkw hw 10 rfl) (tkw hw 11 rfl) (tkw hw 8 rfl) (tkw hw 12 rfl) (by decide) (a := ob67) (argsL := [(.ref ob69)]) (rest := [(.ref ob67)]) rfl (lenOf pd_19 rfl) (con_i1_1 l Z a0 hw hp71 n0 ob67 ob69 (((own_clean p1)).toUInt32.toUInt16.toUInt32.toInt32) q0 _ _ cv ne_ob67_ob69 ge_ob67 Aob67 Fob67_value Fob67_coder Lob69 S_C hcv Z0) 1 3 6 rfl rfl rfl (by decide) (by decide) (by decide) (by decide) rfl ?_
        rintro _ hp76 ⟨rfl, Kc, E_a1, d1, Fv, Fc, Ld⟩
        replace S_C := own_sk S_C X_old Kc
        replace S_F := own_sk S_F X_old Kc
        replace S_A := own_sk S_A X_old Kc
        replace S_H := own_sk S_H X_old Kc
        replace S_L := own_sk S_L X_old Kc
        have Sf_ob67_n := Safe.keep Kc (allS Sf_ob67 all0) Hc Sf_ob67
        replace Hc := CHv.keep Kc (allS Sf_ob67 all0) Hc
        replace Sf_ob67 := Sf_ob67_n
        replace hS := hS.le Kc.1
        replace Z0 := Nat.le_trans Z0 Kc.1
        replace Lob69 := Lob69.keep Kc (ninS (Ne.symm ne_ob67_ob69) nin0)
        refine W.astore C #[.val (.int p0), .val (.int p1), .val (.int p2), .val (.int p3), .val (.int p4), .val (.int ((p0 &&& (2147483647 : Int32)) % (5 : Int32))), .val (.int (own_clean p1)), .val (.int (own_clean p2)), .val (.int (own_clean p3)), .val (.int (own_clean p4)), .val (.ref ob67)] at_74 rfl rfl ?_
        refine W.goto C 178 at_76 rfl ?_
        refine W.aload C at_178 rfl rfl ?_
        refine W.callSW C hS (y' := y5) at_180 (tkw hw 28 rfl) (tkw hw 29 rfl) (tkw hw 30 rfl) (tkw hw 31 rfl) (by decide) (argsL := [(.ref ob67)]) (rest := []) rfl (lenOf pd_20 rfl) (con_cp_0_1 l Z a0 hw hp76 n0 ob67 d1 (((own_clean p1)).toUInt32.toUInt16.toUInt32.toInt32) (own_cx _).1 (own_cx _).2 (own_rg _) q0 fm hfm cv hcv E_a1 Fv Fc Ld S_C S_F Z0) (fun vm' hW' => (chw C.2.1 hW' (own_ew hw) Hc).1) 0 7 78 rfl rfl rfl (by decide) (by decide) (by decide) (by decide) rfl ?_
        rintro _ hp77 vm78 ⟨rfl, Ed⟩ _ C hSn
        replace Z0 := Nat.le_trans Z0 Ed.1
        replace S_C := S_C.ext Ed
        replace S_F := S_F.ext Ed
        replace S_A := S_A.ext Ed
        replace S_H := S_H.ext Ed
        replace S_L := S_L.ext Ed
        replace E_a1 := E_a1.ext Ed
        replace Fv := Fv.ext Ed
        replace Fc := Fc.ext Ed
        replace Ld := Ld.ext Ed
        replace hS := hSn
        refine W.aload C at_183 rfl rfl ?_
        refine W.callV C (y' := y8) at_185 (tkw hw 52 rfl) (tkw hw 42 rfl) (tkw hw 44 rfl) (tkw hw 43 rfl) (tkw hw 8 rfl) (tkw hw 45 rfl) (by decide) E_a1 (argsL := []) (rest := []) rfl (lenOf pd_7 rfl) (con_ln_0 l Z a0 hw hp77 n0 ob67 d1 _ (1 : Int32) rfl (1 : Int32) (by decide) cv hcv E_a1 Fv Fc Ld S_C Z0) 0 7 78 rfl rfl rfl (by decide) (by decide) (by decide) (by decide) rfl ?_
        rintro _ _ ⟨rfl, rfl⟩
        refine W.iload C at_188 rfl ?_
        refine W.icmp_ne C 197 at_190 rfl (fun bq18 => absurd bq2.symm bq18) (fun bq18 => ?_)
        refine W.iconst C (1 : Int32) at_193 rfl ?_
        refine W.goto C 198 at_194 rfl ?_
        exact W.iret C at_198 (by simp) rfl (FW.ok hS (by decide) (by decide) (fun vm' hW' => rfl))
  · skip
    refine W.new C at_38 (tkw hw 6 rfl) (tkw hw 7 rfl) (tkw hw 8 rfl) 1 4 rfl rfl (by decide) (by decide) ?_
    intro ob79 hp80 hob79 Eob79 Aob79 Dob79
    have Sf_ob79 : Safe Z own_EL s.vm h0 ob79 := Safe.new (Nat.le_of_eq hob79.symm)
    have ge_ob79 : n0 ≤ ob79 := by rw [hob79]; exact Z0
    replace Sf_ob79 := Safe.ext Eob79 Hc Sf_ob79
    replace Hc := CHv.ext Eob79 Hc
    replace S_C := S_C.ext Eob79
    replace S_F := S_F.ext Eob79
    replace S_A := S_A.ext Eob79
    replace S_H := S_H.ext Eob79
    replace S_L := S_L.ext Eob79
    replace hS := hS.le Eob79.1
    replace Z0 := Nat.le_trans Z0 Eob79.1
    have Fob79_value : Fld Z hp80 ob79 "java/lang/String" "value" "[B" .null := Dob79 (Or.inr (tkw hw 22 rfl)) (ty := (.array .byte)) (by decide)
    have Fob79_coder : Fld Z hp80 ob79 "java/lang/String" "coder" "B" (.int (0 : Int32)) := Dob79 (Or.inr (tkw hw 23 rfl)) (ty := .byte) (by decide)
    refine W.dup C at_41 rfl ?_
    refine W.iconst C (0 : Int32) at_42 rfl ?_
    refine W.newP C 0 0 at_43 (tkw hw 9 rfl) rfl (Nat.le_refl _) (by decide) 2 4 rfl rfl (by decide) (by decide) ?_
    intro ob81 hp82 hob81 Eob81 Lob81
    have Sf_ob81 : Safe Z own_EL s.vm hp80 ob81 := Safe.new (Nat.le_of_eq hob81.symm)
    have ne_ob79_ob81 : ob79 ≠ ob81 := Nat.ne_of_lt (by rw [hob81]; exact Aob79.lt)
    have ge_ob81 : n0 ≤ ob81 := by rw [hob81]; exact Z0
    replace Sf_ob79 := Safe.ext Eob81 Hc Sf_ob79
    replace Sf_ob81 := Safe.ext Eob81 Hc Sf_ob81
    replace Hc := CHv.ext Eob81 Hc
    replace S_C := S_C.ext Eob81
    replace S_F := S_F.ext Eob81
    replace S_A := S_A.ext Eob81
    replace S_H := S_H.ext Eob81
    replace S_L := S_L.ext Eob81
    replace hS := hS.le Eob81.1
    replace Z0 := Nat.le_trans Z0 Eob81.1
    replace Aob79 := Aob79.ext Eob81
    replace Fob79_value := Fob79_value.ext Eob81
    replace Fob79_coder := Fob79_coder.ext Eob81
    replace Lob81 : Al Z hp82 ob81 .char [] := Lob81
    have X_old := Aob79
    refine W.callIW C hS (y' := y2) at_45 rfl (tkw hw 10 rfl) (tkw hw 11 rfl) (tkw hw 8 rfl) (tkw hw 12 rfl) (by decide) (a := ob79) (argsL := [(.ref ob81)]) (rest := [(.ref ob79)]) rfl (lenOf pd_19 rfl) (con_i1_0 l Z a0 hw hp82 n0 ob79 ob81 _ _ ge_ob79 Aob79 Fob79_value Fob79_coder Lob81 Z0) (fun vm' hW' => ⟨(chw C.2.1 hW' (own_ew hw) Hc).1, (chw C.2.1 hW' (own_ew hw) Hc).safe Aob79.lt Sf_ob79⟩) 1 6 12 rfl rfl rfl (by decide) (by decide) (by decide) (by decide) rfl ?_
    rintro _ hp83 vm84 ⟨rfl, Kc, E_a1, Hn, d1, Fv, Fc, Ld⟩ _ C hSn
    replace S_C := own_sk S_C X_old Kc
    replace S_F := own_sk S_F X_old Kc
    replace S_A := own_sk S_A X_old Kc
    replace S_H := own_sk S_H X_old Kc
    replace S_L := own_sk S_L X_old Kc
    replace Z0 := Nat.le_trans Z0 Kc.1
    replace Lob81 := Lob81.keep Kc (ninS (Ne.symm ne_ob79_ob81) nin0)
    replace Hc := Hn
    replace hS := hSn
    refine W.astore C #[.val (.int p0), .val (.int p1), .val (.int p2), .val (.int p3), .val (.int p4), .val (.int ((p0 &&& (2147483647 : Int32)) % (5 : Int32))), .val (.int (own_clean p1)), .val (.int (own_clean p2)), .val (.int (own_clean p3)), .val (.int (own_clean p4)), .val (.ref ob79)] at_48 rfl rfl ?_
    refine W.goto C 178 at_50 rfl ?_
    refine W.aload C at_178 rfl rfl ?_
    refine W.callSW C hS (y' := y5) at_180 (tkw hw 28 rfl) (tkw hw 29 rfl) (tkw hw 30 rfl) (tkw hw 31 rfl) (by decide) (argsL := [(.ref ob79)]) (rest := []) rfl (lenOf pd_20 rfl) (con_cp_0_0 l Z a0 hw hp83 n0 ob79 d1   fm hfm cv hcv E_a1 Fv Fc Ld S_C S_F Z0) (fun vm' hW' => (chw C.2.1 hW' (own_ew hw) Hc).1) 0 10 84 rfl rfl rfl (by decide) (by decide) (by decide) (by decide) rfl ?_
    rintro _ hp85 vm86 ⟨rfl, Ed⟩ _ C hSn
    replace Z0 := Nat.le_trans Z0 Ed.1
    replace S_C := S_C.ext Ed
    replace S_F := S_F.ext Ed
    replace S_A := S_A.ext Ed
    replace S_H := S_H.ext Ed
    replace S_L := S_L.ext Ed
    replace E_a1 := E_a1.ext Ed
    replace Fv := Fv.ext Ed
    replace Fc := Fc.ext Ed
    replace Ld := Ld.ext Ed
    replace hS := hSn
    refine W.aload C at_183 rfl rfl ?_
    refine W.callV C (y' := y8) at_185 (tkw hw 52 rfl) (tkw hw 42 rfl) (tkw hw 44 rfl) (tkw hw 43 rfl) (tkw hw 8 rfl) (tkw hw 45 rfl) (by decide) E_a1 (argsL := []) (rest := []) rfl (lenOf pd_7 rfl) (con_ln_0 l Z a0 hw hp85 n0 ob79 d1 _ (0 : Int32) rfl (0 : Int32) (by decide) cv hcv E_a1 Fv Fc Ld S_C Z0) 0 10 84 rfl rfl rfl (by decide) (by decide) (by decide) (by decide) rfl ?_
    rintro _ _ ⟨rfl, rfl⟩
    refine W.iload C at_188 rfl ?_
    refine W.icmp_ne C 197 at_190 rfl (fun bq19 => absurd bq1.symm bq19) (fun bq19 => ?_)
    refine W.iconst C (1 : Int32) at_193 rfl ?_
    refine W.goto C 198 at_194 rfl ?_
    exact W.iret C at_198 (by simp) rfl (FW.ok hS (by decide) (by decide) (fun vm' hW' => rfl))

theorem own_se {args : Array Value} {s : State} {C n d : String} {k : Int32} (he : (Jvm.Cond.eq (.static C n d) (.int k)).value args s none s [] = some true) (wi : (Jvm.Cond.initializedFor C n d).before args s = true) : Sta s s.heap C n d (.int k) := by
  obtain ⟨x, y, ex, ey, kin⟩ := cmp_v (Or.inl he)
  have e2 : (Term.int k).eval args s none [] s = some (.int k) := Term.int_eval k
  cases e2.symm.trans ey
  obtain ⟨z, rfl⟩ := kin.2
  have := gotT (Cond.eq_ints ex e2) he
  subst this
  exact Sta.start ex (Or.inl wi)
set_option maxRecDepth 65536 in
set_option maxHeartbeats 40000000 in
theorem comes_1 {Post : Tables → Env → Array Value → State → Outcome → State → Prop} (hpost : ∀ tb e args s v u, (limb_1_1.after args s (.returned v) u = true ∧ limb_1_2.after args s (.returned v) u = true ∧ True) → ReturnedEndW s (.returned v) u (Jvm.fieldLocs frame_1_writes args s ++ Jvm.arrayLocs frame_1_arrays args s ++ Jvm.staticLocs frame_1_statics s) 24 3200 → Post tb e args s (.returned v) u) :
    ArmFor flags0 classFile x code maxLocals ret World_1 tables_1 room_1 Calls_1 rest_1 Pre_1 Post := by
  intro l hfl _ _ p e ha hc hk s m args below hf hA hF happ hP
  obtain ⟨hcalls, hrest, hpre⟩ := hP
  obtain ⟨-, -, -, hnamed, -, -, -, hat⟩ := (Spec.applies_iff hf).mp happ
  obtain ⟨hg, hn⟩ := and_e (Cond.before_iff.mp (show (Jvm.Cond.and given_1 narrow_1).before args s = true from hpre))
  obtain ⟨gc, g0⟩ := and_e hg
  obtain ⟨i0h, g1⟩ := and_e g0
  obtain ⟨i1h, g2⟩ := and_e g1
  obtain ⟨i2h, g3⟩ := and_e g2
  obtain ⟨i3h, g4⟩ := and_e g3
  obtain ⟨w0, w1, w2, w3, w4, rfl⟩ : ∃ w0 w1 w2 w3 w4 : Value, args = #[w0, w1, w2, w3, w4] := by
    have hs : args.size = 5 := by simpa [Cond.value, given_1] using gc
    obtain ⟨L⟩ := args
    match L, hs with
    | [w0, w1, w2, w3, w4], _ => exact ⟨w0, w1, w2, w3, w4, rfl⟩
  have hw := fun d (hd : d ∈ tables_1) => atoms_spec (ws := Jvm.Cond.code x code maxLocals ret :: tables_1) hat d (List.mem_cons_of_mem _ hd)
  have hfit : Fit s := fun {y c} hc i hi => by
    obtain ⟨ha, rfl⟩ := Array.getElem?_eq_some_iff.mp hc
    have q := List.all_eq_true.mp ((Array.all_eq_true_iff_forall_mem.mp hF) _ (Array.getElem_mem ha)) i (List.mem_range.mpr hi)
    simpa [Array.getElem?_eq_getElem hi] using q
  obtain ⟨i0, ei0⟩ := is_v i0h
  obtain rfl : w0 = (.int i0) := Option.some.inj ei0
  obtain ⟨i1, ei1⟩ := is_v i1h
  obtain rfl : w1 = (.int i1) := Option.some.inj ei1
  obtain ⟨i2, ei2⟩ := is_v i2h
  obtain rfl : w2 = (.int i2) := Option.some.inj ei2
  obtain ⟨i3, ei3⟩ := is_v i3h
  obtain rfl : w3 = (.int i3) := Option.some.inj ei3
  obtain ⟨i4, ei4⟩ := is_v g4
  obtain rfl : w4 = (.int i4) := Option.some.inj ei4
  obtain ⟨hsets, hown0⟩ := atoms_of _ (rest_1_c_eq ▸ (show rest_1_c.before _ s = true from hrest))
  have z3 := not_v (Cond.before_iff.mp (hsets _ (List.mem_of_getElem? (i := 2) rfl)))
  obtain ⟨cv, ecv⟩ := is_v (Cond.before_iff.mp (hsets _ (List.mem_of_getElem? (i := 1) rfl)))
  have S_C : Sta s s.heap "java/lang/String" "COMPACT_STRINGS" "Z" (.int cv) := Sta.start ecv (Or.inl (hsets _ (List.mem_of_getElem? (i := 0) rfl)))
  have hcv : ¬ cv = 0 := gotF (Cond.eq_ints ecv (Term.int_eval (0))) z3
  have Hc : CHv s own_EL s.vm s.heap := CHv.start (own_ew hw) (fun p hp => hcalls.1 p hp) (hsets _ (List.mem_of_getElem? (i := 2) rfl)) (tkw hw 21 rfl) (tkw hw 7 rfl)
  obtain ⟨fm, efm, hfm⟩ := isR_v (Cond.before_iff.mp (hsets _ (List.mem_of_getElem? (i := 8) rfl)))
  have S_F := Sta.start efm (Or.inl (hsets _ (List.mem_of_getElem? (i := 7) rfl)))
  have S_A := own_se (Cond.before_iff.mp (hsets _ (List.mem_of_getElem? (i := 12) rfl))) (hsets _ (List.mem_of_getElem? (i := 11) rfl))
  have S_H := own_se (Cond.before_iff.mp (hsets _ (List.mem_of_getElem? (i := 15) rfl))) (hsets _ (List.mem_of_getElem? (i := 14) rfl))
  have S_L := own_se (Cond.before_iff.mp (hsets _ (List.mem_of_getElem? (i := 18) rfl))) (hsets _ (List.mem_of_getElem? (i := 17) rfl))
  obtain ⟨n, o, h1, h2, h3, _, L, rfl, ⟨rfl, N⟩, hq⟩ := (con_0 l s _ hw s.heap s.heap.size i0 i1 i2 i3 i4 fm hfm cv hcv S_C S_F S_A S_H S_L (Nat.le_refl _)) tables_1 p e ha hc hk s m _ below hf ((Spec.applies_iff_loose hf).mp happ).1 ⟨rfl, State.Warmed39.refl s, rfl, Hc⟩ trivial
  refine ⟨n, _, h1, h2, h3, hpost _ _ _ _ _ _ ⟨Cond.after_iff.mpr rfl, Cond.after_iff.mpr (eq_i res_at (Term.int_eval (1)) rfl), trivial⟩ ⟨hq.1, hq.2.1, hq.2.2.1, (hq.2.2.2.sift fun y hy => Or.inr (N y hy)).mono (by decide) (by decide)⟩⟩
theorem main_1_1 : Claimed_1_1 := comes_1 fun _ _ _ _ _ _ h hF => ⟨h.1, hF⟩
theorem main_1_2 : Claimed_1_2 := comes_1 fun _ _ _ _ _ _ h hF => ⟨h.2.1, hF⟩
end Jvm.Pilot.@@N@@
namespace Jvm.Pilot.@@N@@
open Jvm Jvm.ClassFile Sem Op Lib Jvm.Free Jvm.Stand Jvm.Pilot.@@N@@.Jvm.D
/-! MADE BY PROGRAM (witnessworld.py) out of the Statement's table words and the real class files: 21 classes; the members and pool entries that the words name. The judged class is class 1, her method 2. -/
namespace start1
open Jvm.ClassFile
def u (s : String) : CpInfo := .utf8 (stringToUtf16 s)
/-- a pool by its gaps: so many unusable entries, then the entry; so many at the end -/
def gap : Nat → List CpInfo → List CpInfo
  | 0, r => r
  | n + 1, r => .unusable :: gap n r
def poolList (es : List (Nat × CpInfo)) (last : Nat) : List CpInfo := es.foldr (fun e r => gap e.1 (e.2 :: r)) (gap last [])
def pool (es : List (Nat × CpInfo)) (last : Nat) : Array CpInfo := ⟨poolList es last⟩
def fileOf (pool : Array CpInfo) (this : Nat) (attrs : Array Attribute := #[]) (ms : Array MethodInfo := #[]) (fl : Nat := 33) (sup : Nat := 0) (ifs : Array Nat := #[]) (fds : Array FieldInfo := #[]) : ClassFile where
  minorVersion := 0
  majorVersion := 65
  constantPool := pool
  accessFlags := fl
  thisClass := this
  superClass := sup
  interfaces := ifs
  fields := fds
  methods := ms
  attributes := attrs
def plain (name : String) (sup : Option ClassId) : Class where
  name := name
  kind := .ordinary
  loader := none
  accessFlags := 33
  super := sup
  interfaces := #[]
  cf := none
  fields := #[]
  methods := #[]
  instanceTypes := #[]
  staticTypes := #[]
  resolved := #[]
  callSites := []
  init := .initialized
  statics := none
  mirror := none

def pool0 : Array CpInfo := pool [(5, u "<init>"), (0, u "()V"), (1, .class_ 10), (1, u "java/lang/Object")] 113

def k0c0 : Code := { maxStack := 0, maxLocals := 1, code := object_method_1_code, exceptionTable := #[], attributes := #[] }
def k0m0 : Method := { name := "<init>", desc := "()V", sig := { parameters := [], returnType := none }, accessFlags := 1, code := some k0c0 }
/-- java/lang/Object -/
def k0 : Class := { plain "java/lang/Object" none with
  accessFlags := 33
  interfaces := #[]
  cf := some (fileOf pool0 8 #[] #[{ accessFlags := 1, nameIndex := 5, descriptorIndex := 6, attributes := #[] }] 33 0 #[] #[])
  fields := #[]
  methods := #[k0m0]
  instanceTypes := #[]
  staticTypes := #[]
  resolved := Array.replicate 124 none
  statics := none }

def pool1 : Array CpInfo := pool [(2, .class_ 4), (1, u "java/lang/Object"), (0, u "<init>"), (0, u "()V"), (0, .integer 65535), (0, .integer 2147483647), (0, .methodref 10 11), (0, .class_ 12), (0, .nameAndType 13 14), (0, u "com/example/dibs/dibs/redis/LockKeysCheckPrefixPinLaw"), (0, u "clean"), (0, u "(I)C"), (0, .class_ 16), (0, u "java/lang/String"), (0, .methodref 15 18), (0, .nameAndType 5 19), (0, u "([C)V"), (0, .methodref 21 22), (0, .class_ 23), (0, .nameAndType 24 25), (0, u "com/example/dibs/dibs/redis/LockKeys"), (0, u "checkPrefix"), (0, u "(Ljava/lang/String;)V"), (0, .methodref 15 27), (0, .nameAndType 28 29), (0, u "length"), (0, u "()I"), (3, u "law"), (0, u "(IIIII)Z")] 2

def k1m0 : Method := { name := "<init>", desc := "()V", sig := { parameters := [], returnType := none }, accessFlags := 1, code := none }
def k1c1 : Code := { maxStack := 2, maxLocals := 2, code := method_2_code, exceptionTable := #[], attributes := #[] }
def k1m1 : Method := { name := "clean", desc := "(I)C", sig := { parameters := [.int], returnType := some .char }, accessFlags := 10, code := some k1c1 }
def k1c2 : Code := { maxStack := 6, maxLocals := 11, code := code, exceptionTable := #[], attributes := #[] }
def k1m2 : Method := { name := "law", desc := "(IIIII)Z", sig := { parameters := [.int, .int, .int, .int, .int], returnType := some .boolean }, accessFlags := 9, code := some k1c2 }
/-- com/example/dibs/dibs/redis/LockKeysCheckPrefixPinLaw -/
def k1 : Class := { plain "com/example/dibs/dibs/redis/LockKeysCheckPrefixPinLaw" (some 0) with
  accessFlags := 49
  interfaces := #[]
  cf := some (fileOf pool1 10 #[] #[{ accessFlags := 1, nameIndex := 5, descriptorIndex := 6, attributes := #[] }, { accessFlags := 10, nameIndex := 13, descriptorIndex := 14, attributes := #[] }, { accessFlags := 9, nameIndex := 33, descriptorIndex := 34, attributes := #[] }] 49 2 #[] #[])
  fields := #[]
  methods := #[k1m0, k1m1, k1m2]
  instanceTypes := #[]
  staticTypes := #[]
  resolved := Array.replicate 37 none
  statics := none }

def pool2 : Array CpInfo := pool [(1, .class_ 2), (0, u "java/io/Serializable"), (0, .class_ 4), (0, u "java/lang/Object")] 2

/-- java/io/Serializable -/
def k2 : Class := { plain "java/io/Serializable" (some 0) with
  accessFlags := 1537
  interfaces := #[]
  cf := some (fileOf pool2 1 #[] #[] 1537 3 #[] #[])
  fields := #[]
  methods := #[]
  instanceTypes := #[]
  staticTypes := #[]
  resolved := Array.replicate 7 none
  statics := none }

def pool3 : Array CpInfo := pool [(1, .class_ 2), (0, u "java/lang/Comparable"), (0, .class_ 4), (0, u "java/lang/Object")] 7

/-- java/lang/Comparable -/
def k3 : Class := { plain "java/lang/Comparable" (some 0) with
  accessFlags := 1537
  interfaces := #[]
  cf := some (fileOf pool3 1 #[] #[] 1537 3 #[] #[])
  fields := #[]
  methods := #[]
  instanceTypes := #[]
  staticTypes := #[]
  resolved := Array.replicate 12 none
  statics := none }

def pool4 : Array CpInfo := pool [(2, .class_ 4), (1, u "java/lang/CharSequence"), (42, .class_ 48), (0, u "java/lang/CharSequence$1CodePointIterator"), (10, .class_ 60), (0, u "java/lang/CharSequence$1CharIterator"), (5, .class_ 67), (0, u "java/lang/Object")] 63

/-- java/lang/CharSequence -/
def k4 : Class := { plain "java/lang/CharSequence" (some 0) with
  accessFlags := 1537
  interfaces := #[]
  cf := some (fileOf pool4 2 #[.nestMembers #[47, 59]] #[] 1537 66 #[] #[])
  fields := #[]
  methods := #[]
  instanceTypes := #[]
  staticTypes := #[]
  resolved := Array.replicate 131 none
  statics := none }

def pool5 : Array CpInfo := pool [(1, .class_ 2), (0, u "java/lang/constant/Constable"), (0, .class_ 4), (0, u "java/lang/Object")] 6

/-- java/lang/constant/Constable -/
def k5 : Class := { plain "java/lang/constant/Constable" (some 0) with
  accessFlags := 1537
  interfaces := #[]
  cf := some (fileOf pool5 1 #[] #[] 1537 3 #[] #[])
  fields := #[]
  methods := #[]
  instanceTypes := #[]
  staticTypes := #[]
  resolved := Array.replicate 11 none
  statics := none }

def pool6 : Array CpInfo := pool [(1, .class_ 2), (0, u "java/lang/constant/ConstantDesc"), (0, .class_ 4), (0, u "java/lang/Object")] 32

/-- java/lang/constant/ConstantDesc -/
def k6 : Class := { plain "java/lang/constant/ConstantDesc" (some 0) with
  accessFlags := 1537
  interfaces := #[]
  cf := some (fileOf pool6 1 #[] #[] 1537 3 #[] #[])
  fields := #[]
  methods := #[]
  instanceTypes := #[]
  staticTypes := #[]
  resolved := Array.replicate 37 none
  statics := none }

def pool7 : Array CpInfo := pool [(1, .methodref 2 3), (0, .class_ 4), (0, .nameAndType 5 6), (0, u "java/lang/Object"), (0, u "<init>"), (0, u "()V"), (0, .string 8), (0, u ""), (0, .fieldref 10 11), (0, .class_ 12), (0, .nameAndType 13 14), (0, u "java/lang/String"), (0, u "value"), (0, u "[B"), (0, .fieldref 10 16), (0, .nameAndType 17 18), (0, u "coder"), (0, u "B"), (2, u "hash"), (0, u "I"), (2, u "hashIsZero"), (0, u "Z"), (0, .methodref 10 28), (0, .nameAndType 5 29), (0, u "([CIILjava/lang/Void;)V"), (8, .fieldref 10 39), (0, .nameAndType 40 26), (0, u "COMPACT_STRINGS"), (1, .class_ 44), (1, u "java/lang/StringUTF16"), (0, u "compress"), (1, .methodref 42 48), (0, .nameAndType 49 50), (0, u "coderFromArrayLen"), (0, u "([BI)B"), (56, .class_ 109), (1, u "java/lang/StringLatin1"), (32, u "()Z"), (34, .methodref 42 178), (0, .nameAndType 45 179), (0, u "([CII)[B"), (154, u "()I"), (0, .methodref 10 336), (0, .nameAndType 17 337), (0, u "()B"), (25, u "([BI)C"), (27, u "(II)V"), (35, u "(I)C"), (64, .methodref 10 493), (0, .nameAndType 494 142), (0, u "isLatin1"), (0, .methodref 107 496), (0, .nameAndType 497 363), (0, u "charAt"), (0, .methodref 42 496), (2, u "checkIndex"), (5, u "length"), (67, .class_ 576), (0, u "java/lang/CharSequence"), (22, u "CASE_INSENSITIVE_ORDER"), (0, u "Ljava/util/Comparator;"), (409, u "([C)V"), (42, .fieldref 1054 1055), (0, .class_ 1056), (0, .nameAndType 1057 1058), (0, u "jdk/internal/util/Preconditions"), (0, u "SIOOBE_FORMATTER"), (0, u "Ljava/util/function/BiFunction;"), (0, .methodref 1054 1060), (0, .nameAndType 501 1061), (0, u "(IILjava/util/function/BiFunction;)I"), (39, u "serialPersistentFields"), (0, u "[Ljava/io/ObjectStreamField;"), (0, .class_ 1104), (0, u "java/lang/String$CaseInsensitiveComparator"), (1, .class_ 1107), (0, u "java/io/Serializable"), (0, .class_ 1109), (0, u "java/lang/Comparable"), (0, .class_ 1111), (0, u "java/lang/constant/Constable"), (0, .class_ 1113), (0, u "java/lang/constant/ConstantDesc"), (2, u "serialVersionUID"), (0, u "J"), (3, u "REPL"), (0, u "C"), (2, u "LATIN1"), (1, u "UTF16")] 323

def k7m0 : Method := { name := "<init>", desc := "()V", sig := { parameters := [], returnType := none }, accessFlags := 1, code := none }
def k7c1 : Code := { maxStack := 5, maxLocals := 2, code := jdk_42_method_3_code, exceptionTable := #[], attributes := #[] }
def k7m1 : Method := { name := "<init>", desc := "([C)V", sig := { parameters := [(.array .char)], returnType := none }, accessFlags := 1, code := some k7c1 }
def k7c2 : Code := { maxStack := 2, maxLocals := 1, code := jdk_42_method_54_code, exceptionTable := #[], attributes := #[] }
def k7m2 : Method := { name := "length", desc := "()I", sig := { parameters := [], returnType := some .int }, accessFlags := 1, code := some k7c2 }
def k7c3 : Code := { maxStack := 2, maxLocals := 2, code := jdk_42_method_56_code, exceptionTable := #[], attributes := #[] }
def k7m3 : Method := { name := "charAt", desc := "(I)C", sig := { parameters := [.int], returnType := some .char }, accessFlags := 1, code := some k7c3 }
def k7c4 : Code := { maxStack := 4, maxLocals := 6, code := jdk_42_method_149_code, exceptionTable := #[], attributes := #[] }
def k7m4 : Method := { name := "<init>", desc := "([CIILjava/lang/Void;)V", sig := { parameters := [(.array .char), .int, .int, (.object "java/lang/Void")], returnType := none }, accessFlags := 2, code := some k7c4 }
def k7c5 : Code := { maxStack := 1, maxLocals := 1, code := jdk_42_method_152_code, exceptionTable := #[], attributes := #[] }
def k7m5 : Method := { name := "coder", desc := "()B", sig := { parameters := [], returnType := some .byte }, accessFlags := 0, code := some k7c5 }
def k7c6 : Code := { maxStack := 1, maxLocals := 1, code := jdk_42_method_154_code, exceptionTable := #[], attributes := #[] }
def k7m6 : Method := { name := "isLatin1", desc := "()Z", sig := { parameters := [], returnType := some .boolean }, accessFlags := 0, code := some k7c6 }
def k7c7 : Code := { maxStack := 3, maxLocals := 2, code := jdk_42_method_155_code, exceptionTable := #[], attributes := #[] }
def k7m7 : Method := { name := "checkIndex", desc := "(II)V", sig := { parameters := [.int, .int], returnType := none }, accessFlags := 8, code := some k7c7 }
/-- java/lang/String -/
def k7 : Class := { plain "java/lang/String" (some 0) with
  accessFlags := 49
  interfaces := #[2, 3, 4, 5, 6]
  cf := some (fileOf pool7 10 #[.nestMembers #[1103]] #[{ accessFlags := 1, nameIndex := 5, descriptorIndex := 6, attributes := #[] }, { accessFlags := 1, nameIndex := 5, descriptorIndex := 1010, attributes := #[] }, { accessFlags := 1, nameIndex := 507, descriptorIndex := 334, attributes := #[] }, { accessFlags := 1, nameIndex := 497, descriptorIndex := 427, attributes := #[] }, { accessFlags := 2, nameIndex := 5, descriptorIndex := 29, attributes := #[] }, { accessFlags := 0, nameIndex := 17, descriptorIndex := 337, attributes := #[] }, { accessFlags := 0, nameIndex := 494, descriptorIndex := 142, attributes := #[] }, { accessFlags := 8, nameIndex := 501, descriptorIndex := 391, attributes := #[] }] 49 2 #[1106, 1108, 575, 1110, 1112] #[{ accessFlags := 18, nameIndex := 13, descriptorIndex := 14, attributes := #[] }, { accessFlags := 18, nameIndex := 17, descriptorIndex := 18, attributes := #[] }, { accessFlags := 2, nameIndex := 21, descriptorIndex := 22, attributes := #[] }, { accessFlags := 2, nameIndex := 25, descriptorIndex := 26, attributes := #[] }, { accessFlags := 26, nameIndex := 1116, descriptorIndex := 1117, attributes := #[] }, { accessFlags := 24, nameIndex := 40, descriptorIndex := 26, attributes := #[] }, { accessFlags := 26, nameIndex := 1101, descriptorIndex := 1102, attributes := #[] }, { accessFlags := 26, nameIndex := 1121, descriptorIndex := 1122, attributes := #[] }, { accessFlags := 25, nameIndex := 599, descriptorIndex := 600, attributes := #[] }, { accessFlags := 24, nameIndex := 1125, descriptorIndex := 18, attributes := #[] }, { accessFlags := 24, nameIndex := 1127, descriptorIndex := 18, attributes := #[] }])
  fields := #[{ name := "value", type := (.array .byte), accessFlags := 18, slot := 0, constantValue := 0 }, { name := "coder", type := .byte, accessFlags := 18, slot := 1, constantValue := 0 }, { name := "hash", type := .int, accessFlags := 2, slot := 2, constantValue := 0 }, { name := "hashIsZero", type := .boolean, accessFlags := 2, slot := 3, constantValue := 0 }, { name := "serialVersionUID", type := .long, accessFlags := 26, slot := 0, constantValue := 0 }, { name := "COMPACT_STRINGS", type := .boolean, accessFlags := 24, slot := 1, constantValue := 0 }, { name := "serialPersistentFields", type := (.array (.object "java/io/ObjectStreamField")), accessFlags := 26, slot := 2, constantValue := 0 }, { name := "REPL", type := .char, accessFlags := 26, slot := 3, constantValue := 0 }, { name := "CASE_INSENSITIVE_ORDER", type := (.object "java/util/Comparator"), accessFlags := 25, slot := 4, constantValue := 0 }, { name := "LATIN1", type := .byte, accessFlags := 24, slot := 5, constantValue := 0 }, { name := "UTF16", type := .byte, accessFlags := 24, slot := 6, constantValue := 0 }]
  methods := #[k7m0, k7m1, k7m2, k7m3, k7m4, k7m5, k7m6, k7m7]
  instanceTypes := #[(.array .byte), .byte, .int, .boolean]
  staticTypes := #[.long, .boolean, (.array (.object "java/io/ObjectStreamField")), .char, (.object "java/util/Comparator"), .byte, .byte]
  resolved := Array.replicate 1451 none
  statics := some 0 }

def pool8 : Array CpInfo := pool [(2, .class_ 4), (1, u "java/lang/Object"), (3, .class_ 10), (1, u "com/example/dibs/dibs/redis/LockKeys"), (0, u "name"), (0, u "Ljava/lang/String;"), (2, u "lockKey"), (8, u "tokenKey"), (4, u "queueKey"), (4, u "queueLapsesKey"), (4, u "queueLeasesKey"), (4, u "waitersKey"), (4, u "waiterLeasesKey"), (4, u "releaseChannel"), (4, u "writeKey"), (4, u "writeTokenKey"), (4, u "readersKey"), (4, u "writersKey"), (4, u "readWriteChannel"), (4, u "semaphoreKey"), (4, u "permitHoldersKey"), (4, u "heldPermitsKey"), (4, u "semaphoreChannel"), (11, u "HAND_OFF_SUFFIXES"), (0, u "Ljava/util/List;"), (14, .class_ 128), (0, u "java/lang/String"), (6, u "handOffKeys"), (2, u "checkPrefix"), (0, u "(Ljava/lang/String;)V"), (1, .methodref 142 143), (0, .class_ 144), (0, .nameAndType 145 146), (0, u "java/util/Objects"), (0, u "requireNonNull"), (0, u "(Ljava/lang/Object;Ljava/lang/String;)Ljava/lang/Object;"), (2, .methodref 8 150), (0, .nameAndType 151 152), (0, u "requireNoBrace"), (0, u "(Ljava/lang/String;Ljava/lang/String;)V"), (21, .string 175), (0, u "prefix"), (0, .string 177), (0, u "key prefix"), (5, .methodref 127 184), (0, .nameAndType 185 186), (0, u "length"), (0, u "()I"), (0, .methodref 127 188), (0, .nameAndType 189 190), (0, u "charAt"), (0, u "(I)C"), (43, u "MAX_NAME_BYTES"), (0, u "I"), (2, u "TOKEN_SUFFIX"), (0, u "WAITERS_SUFFIX"), (0, u "WAITER_LEASES_SUFFIX"), (0, u "QUEUE_SUFFIX"), (0, u "QUEUE_LAPSES_SUFFIX"), (0, u "QUEUE_LEASES_SUFFIX")] 32

def k8c0 : Code := { maxStack := 2, maxLocals := 1, code := prog_8_method_3_code, exceptionTable := #[], attributes := #[] }
def k8m0 : Method := { name := "checkPrefix", desc := "(Ljava/lang/String;)V", sig := { parameters := [(.object "java/lang/String")], returnType := none }, accessFlags := 9, code := some k8c0 }
def k8c1 : Code := { maxStack := 5, maxLocals := 4, code := prog_8_method_25_code, exceptionTable := #[], attributes := #[] }
def k8m1 : Method := { name := "requireNoBrace", desc := "(Ljava/lang/String;Ljava/lang/String;)V", sig := { parameters := [(.object "java/lang/String"), (.object "java/lang/String")], returnType := none }, accessFlags := 10, code := some k8c1 }
/-- com/example/dibs/dibs/redis/LockKeys -/
def k8 : Class := { plain "com/example/dibs/dibs/redis/LockKeys" (some 0) with
  accessFlags := 49
  interfaces := #[]
  cf := some (fileOf pool8 8 #[] #[{ accessFlags := 9, nameIndex := 138, descriptorIndex := 139, attributes := #[] }, { accessFlags := 10, nameIndex := 151, descriptorIndex := 152, attributes := #[] }] 49 2 #[] #[{ accessFlags := 25, nameIndex := 234, descriptorIndex := 235, attributes := #[] }, { accessFlags := 26, nameIndex := 238, descriptorIndex := 12, attributes := #[] }, { accessFlags := 26, nameIndex := 239, descriptorIndex := 12, attributes := #[] }, { accessFlags := 26, nameIndex := 240, descriptorIndex := 12, attributes := #[] }, { accessFlags := 26, nameIndex := 241, descriptorIndex := 12, attributes := #[] }, { accessFlags := 26, nameIndex := 242, descriptorIndex := 12, attributes := #[] }, { accessFlags := 26, nameIndex := 243, descriptorIndex := 12, attributes := #[] }, { accessFlags := 24, nameIndex := 111, descriptorIndex := 112, attributes := #[] }, { accessFlags := 18, nameIndex := 11, descriptorIndex := 12, attributes := #[] }, { accessFlags := 18, nameIndex := 15, descriptorIndex := 12, attributes := #[] }, { accessFlags := 18, nameIndex := 24, descriptorIndex := 12, attributes := #[] }, { accessFlags := 18, nameIndex := 29, descriptorIndex := 12, attributes := #[] }, { accessFlags := 18, nameIndex := 34, descriptorIndex := 12, attributes := #[] }, { accessFlags := 18, nameIndex := 39, descriptorIndex := 12, attributes := #[] }, { accessFlags := 18, nameIndex := 44, descriptorIndex := 12, attributes := #[] }, { accessFlags := 18, nameIndex := 49, descriptorIndex := 12, attributes := #[] }, { accessFlags := 18, nameIndex := 54, descriptorIndex := 12, attributes := #[] }, { accessFlags := 18, nameIndex := 59, descriptorIndex := 12, attributes := #[] }, { accessFlags := 18, nameIndex := 64, descriptorIndex := 12, attributes := #[] }, { accessFlags := 18, nameIndex := 69, descriptorIndex := 12, attributes := #[] }, { accessFlags := 18, nameIndex := 74, descriptorIndex := 12, attributes := #[] }, { accessFlags := 18, nameIndex := 79, descriptorIndex := 12, attributes := #[] }, { accessFlags := 18, nameIndex := 84, descriptorIndex := 12, attributes := #[] }, { accessFlags := 18, nameIndex := 89, descriptorIndex := 12, attributes := #[] }, { accessFlags := 18, nameIndex := 94, descriptorIndex := 12, attributes := #[] }, { accessFlags := 18, nameIndex := 99, descriptorIndex := 12, attributes := #[] }, { accessFlags := 18, nameIndex := 135, descriptorIndex := 112, attributes := #[] }])
  fields := #[{ name := "MAX_NAME_BYTES", type := .int, accessFlags := 25, slot := 0, constantValue := 0 }, { name := "TOKEN_SUFFIX", type := (.object "java/lang/String"), accessFlags := 26, slot := 1, constantValue := 0 }, { name := "WAITERS_SUFFIX", type := (.object "java/lang/String"), accessFlags := 26, slot := 2, constantValue := 0 }, { name := "WAITER_LEASES_SUFFIX", type := (.object "java/lang/String"), accessFlags := 26, slot := 3, constantValue := 0 }, { name := "QUEUE_SUFFIX", type := (.object "java/lang/String"), accessFlags := 26, slot := 4, constantValue := 0 }, { name := "QUEUE_LAPSES_SUFFIX", type := (.object "java/lang/String"), accessFlags := 26, slot := 5, constantValue := 0 }, { name := "QUEUE_LEASES_SUFFIX", type := (.object "java/lang/String"), accessFlags := 26, slot := 6, constantValue := 0 }, { name := "HAND_OFF_SUFFIXES", type := (.object "java/util/List"), accessFlags := 24, slot := 7, constantValue := 0 }, { name := "name", type := (.object "java/lang/String"), accessFlags := 18, slot := 0, constantValue := 0 }, { name := "lockKey", type := (.object "java/lang/String"), accessFlags := 18, slot := 1, constantValue := 0 }, { name := "tokenKey", type := (.object "java/lang/String"), accessFlags := 18, slot := 2, constantValue := 0 }, { name := "queueKey", type := (.object "java/lang/String"), accessFlags := 18, slot := 3, constantValue := 0 }, { name := "queueLapsesKey", type := (.object "java/lang/String"), accessFlags := 18, slot := 4, constantValue := 0 }, { name := "queueLeasesKey", type := (.object "java/lang/String"), accessFlags := 18, slot := 5, constantValue := 0 }, { name := "waitersKey", type := (.object "java/lang/String"), accessFlags := 18, slot := 6, constantValue := 0 }, { name := "waiterLeasesKey", type := (.object "java/lang/String"), accessFlags := 18, slot := 7, constantValue := 0 }, { name := "releaseChannel", type := (.object "java/lang/String"), accessFlags := 18, slot := 8, constantValue := 0 }, { name := "writeKey", type := (.object "java/lang/String"), accessFlags := 18, slot := 9, constantValue := 0 }, { name := "writeTokenKey", type := (.object "java/lang/String"), accessFlags := 18, slot := 10, constantValue := 0 }, { name := "readersKey", type := (.object "java/lang/String"), accessFlags := 18, slot := 11, constantValue := 0 }, { name := "writersKey", type := (.object "java/lang/String"), accessFlags := 18, slot := 12, constantValue := 0 }, { name := "readWriteChannel", type := (.object "java/lang/String"), accessFlags := 18, slot := 13, constantValue := 0 }, { name := "semaphoreKey", type := (.object "java/lang/String"), accessFlags := 18, slot := 14, constantValue := 0 }, { name := "permitHoldersKey", type := (.object "java/lang/String"), accessFlags := 18, slot := 15, constantValue := 0 }, { name := "heldPermitsKey", type := (.object "java/lang/String"), accessFlags := 18, slot := 16, constantValue := 0 }, { name := "semaphoreChannel", type := (.object "java/lang/String"), accessFlags := 18, slot := 17, constantValue := 0 }, { name := "handOffKeys", type := (.object "java/util/List"), accessFlags := 18, slot := 18, constantValue := 0 }]
  methods := #[k8m0, k8m1]
  instanceTypes := #[(.object "java/lang/String"), (.object "java/lang/String"), (.object "java/lang/String"), (.object "java/lang/String"), (.object "java/lang/String"), (.object "java/lang/String"), (.object "java/lang/String"), (.object "java/lang/String"), (.object "java/lang/String"), (.object "java/lang/String"), (.object "java/lang/String"), (.object "java/lang/String"), (.object "java/lang/String"), (.object "java/lang/String"), (.object "java/lang/String"), (.object "java/lang/String"), (.object "java/lang/String"), (.object "java/lang/String"), (.object "java/util/List")]
  staticTypes := #[.int, (.object "java/lang/String"), (.object "java/lang/String"), (.object "java/lang/String"), (.object "java/lang/String"), (.object "java/lang/String"), (.object "java/lang/String"), (.object "java/util/List")]
  resolved := Array.replicate 276 none
  statics := none }

def pool9 : Array CpInfo := pool [(2, .class_ 4), (1, u "java/lang/Object"), (0, u "<init>"), (0, u "()V"), (35, .class_ 44), (1, u "java/util/Objects"), (0, u "requireNonNull"), (48, u "(Ljava/lang/Object;Ljava/lang/String;)Ljava/lang/Object;")] 89

def k9m0 : Method := { name := "<init>", desc := "()V", sig := { parameters := [], returnType := none }, accessFlags := 2, code := none }
def k9c1 : Code := { maxStack := 3, maxLocals := 2, code := jdk_31_method_11_code, exceptionTable := #[], attributes := #[] }
def k9m1 : Method := { name := "requireNonNull", desc := "(Ljava/lang/Object;Ljava/lang/String;)Ljava/lang/Object;", sig := { parameters := [(.object "java/lang/Object"), (.object "java/lang/String")], returnType := some (.object "java/lang/Object") }, accessFlags := 9, code := some k9c1 }
/-- java/util/Objects -/
def k9 : Class := { plain "java/util/Objects" (some 0) with
  accessFlags := 49
  interfaces := #[]
  cf := some (fileOf pool9 42 #[] #[{ accessFlags := 2, nameIndex := 5, descriptorIndex := 6, attributes := #[] }, { accessFlags := 9, nameIndex := 45, descriptorIndex := 94, attributes := #[] }] 49 2 #[] #[])
  fields := #[]
  methods := #[k9m0, k9m1]
  instanceTypes := #[]
  staticTypes := #[]
  resolved := Array.replicate 184 none
  statics := none }

def pool10 : Array CpInfo := pool [(3, .class_ 4), (0, u "java/lang/String"), (1, .class_ 8), (1, u "java/lang/Object"), (0, u "<init>"), (0, u "()V"), (0, .methodref 12 13), (0, .class_ 14), (0, .nameAndType 15 16), (0, u "java/lang/StringUTF16"), (0, u "newBytesLength"), (0, u "(I)I"), (3, .integer 1073741823), (23, .fieldref 12 45), (0, .nameAndType 46 47), (0, u "$assertionsDisabled"), (0, u "Z"), (0, .methodref 12 49), (0, .nameAndType 50 51), (0, u "length"), (0, u "([B)I"), (7, .fieldref 12 60), (0, .nameAndType 61 62), (0, u "HI_BYTE_SHIFT"), (0, u "I"), (0, .fieldref 12 64), (0, .nameAndType 65 62), (0, u "LO_BYTE_SHIFT"), (1, .methodref 12 68), (0, .nameAndType 69 70), (0, u "checkIndex"), (0, u "(I[B)V"), (0, .methodref 12 72), (0, .nameAndType 73 74), (0, u "getChar"), (0, u "([BI)C"), (32, .methodref 12 108), (0, .nameAndType 109 110), (0, u "newBytesFor"), (0, u "(I)[B"), (0, .methodref 12 112), (0, .nameAndType 113 114), (0, u "putChar"), (0, u "([BII)V"), (0, .methodref 12 116), (0, .nameAndType 117 118), (0, u "compress"), (0, u "([CI[BII)I"), (0, .methodref 12 120), (0, .nameAndType 121 122), (0, u "toBytes"), (0, u "([CII)[B"), (138, u "coderFromArrayLen"), (0, u "([BI)B"), (106, .class_ 371), (1, u "java/lang/StringUTF16$LinesSpliterator"), (20, u "charAt"), (21, .methodref 3 415), (0, .nameAndType 69 416), (0, u "(II)V"), (13, u "MAX_LENGTH"), (196, .class_ 628), (0, u "java/lang/StringUTF16$CodePointsSpliterator"), (0, .class_ 630), (0, u "java/lang/StringUTF16$CharsSpliterator")] 4

def k10m0 : Method := { name := "<init>", desc := "()V", sig := { parameters := [], returnType := none }, accessFlags := 0, code := none }
def k10c1 : Code := { maxStack := 1, maxLocals := 1, code := jdk_52_method_2_code, exceptionTable := #[], attributes := #[] }
def k10m1 : Method := { name := "newBytesFor", desc := "(I)[B", sig := { parameters := [.int], returnType := some (.array .byte) }, accessFlags := 9, code := some k10c1 }
def k10c2 : Code := { maxStack := 4, maxLocals := 1, code := jdk_52_method_3_code, exceptionTable := #[], attributes := #[] }
def k10m2 : Method := { name := "newBytesLength", desc := "(I)I", sig := { parameters := [.int], returnType := some .int }, accessFlags := 9, code := some k10c2 }
def k10c3 : Code := { maxStack := 4, maxLocals := 3, code := jdk_52_method_4_code, exceptionTable := #[], attributes := #[] }
def k10m3 : Method := { name := "putChar", desc := "([BII)V", sig := { parameters := [(.array .byte), .int, .int], returnType := none }, accessFlags := 8, code := some k10c3 }
def k10c4 : Code := { maxStack := 3, maxLocals := 2, code := jdk_52_method_5_code, exceptionTable := #[], attributes := #[] }
def k10m4 : Method := { name := "getChar", desc := "([BI)C", sig := { parameters := [(.array .byte), .int], returnType := some .char }, accessFlags := 8, code := some k10c4 }
def k10c5 : Code := { maxStack := 2, maxLocals := 1, code := jdk_52_method_6_code, exceptionTable := #[], attributes := #[] }
def k10m5 : Method := { name := "length", desc := "([B)I", sig := { parameters := [(.array .byte)], returnType := some .int }, accessFlags := 9, code := some k10c5 }
def k10c6 : Code := { maxStack := 4, maxLocals := 5, code := jdk_52_method_14_code, exceptionTable := #[], attributes := #[] }
def k10m6 : Method := { name := "toBytes", desc := "([CII)[B", sig := { parameters := [(.array .char), .int, .int], returnType := some (.array .byte) }, accessFlags := 9, code := some k10c6 }
def k10c7 : Code := { maxStack := 2, maxLocals := 2, code := jdk_52_method_15_code, exceptionTable := #[], attributes := #[] }
def k10m7 : Method := { name := "coderFromArrayLen", desc := "([BI)B", sig := { parameters := [(.array .byte), .int], returnType := some .byte }, accessFlags := 8, code := some k10c7 }
def k10c8 : Code := { maxStack := 5, maxLocals := 6, code := jdk_52_method_16_code, exceptionTable := #[], attributes := #[] }
def k10m8 : Method := { name := "compress", desc := "([CII)[B", sig := { parameters := [(.array .char), .int, .int], returnType := some (.array .byte) }, accessFlags := 9, code := some k10c8 }
def k10c9 : Code := { maxStack := 3, maxLocals := 7, code := jdk_52_method_21_code, exceptionTable := #[], attributes := #[] }
def k10m9 : Method := { name := "compress", desc := "([CI[BII)I", sig := { parameters := [(.array .char), .int, (.array .byte), .int, .int], returnType := some .int }, accessFlags := 9, code := some k10c9 }
def k10c10 : Code := { maxStack := 2, maxLocals := 2, code := jdk_52_method_83_code, exceptionTable := #[], attributes := #[] }
def k10m10 : Method := { name := "charAt", desc := "([BI)C", sig := { parameters := [(.array .byte), .int], returnType := some .char }, accessFlags := 9, code := some k10c10 }
def k10c11 : Code := { maxStack := 2, maxLocals := 2, code := jdk_52_method_91_code, exceptionTable := #[], attributes := #[] }
def k10m11 : Method := { name := "checkIndex", desc := "(I[B)V", sig := { parameters := [.int, (.array .byte)], returnType := none }, accessFlags := 9, code := some k10c11 }
/-- java/lang/StringUTF16 -/
def k10 : Class := { plain "java/lang/StringUTF16" (some 0) with
  accessFlags := 48
  interfaces := #[]
  cf := some (fileOf pool10 12 #[.nestMembers #[627, 629, 369]] #[{ accessFlags := 0, nameIndex := 9, descriptorIndex := 10, attributes := #[] }, { accessFlags := 9, nameIndex := 109, descriptorIndex := 110, attributes := #[] }, { accessFlags := 9, nameIndex := 15, descriptorIndex := 16, attributes := #[] }, { accessFlags := 8, nameIndex := 113, descriptorIndex := 114, attributes := #[] }, { accessFlags := 8, nameIndex := 73, descriptorIndex := 74, attributes := #[] }, { accessFlags := 9, nameIndex := 50, descriptorIndex := 51, attributes := #[] }, { accessFlags := 9, nameIndex := 121, descriptorIndex := 122, attributes := #[] }, { accessFlags := 8, nameIndex := 261, descriptorIndex := 262, attributes := #[] }, { accessFlags := 9, nameIndex := 117, descriptorIndex := 122, attributes := #[] }, { accessFlags := 9, nameIndex := 117, descriptorIndex := 118, attributes := #[] }, { accessFlags := 9, nameIndex := 392, descriptorIndex := 74, attributes := #[] }, { accessFlags := 9, nameIndex := 69, descriptorIndex := 70, attributes := #[] }] 48 6 #[] #[{ accessFlags := 26, nameIndex := 61, descriptorIndex := 62, attributes := #[] }, { accessFlags := 26, nameIndex := 65, descriptorIndex := 62, attributes := #[] }, { accessFlags := 24, nameIndex := 430, descriptorIndex := 62, attributes := #[] }, { accessFlags := 4120, nameIndex := 46, descriptorIndex := 47, attributes := #[] }])
  fields := #[{ name := "HI_BYTE_SHIFT", type := .int, accessFlags := 26, slot := 0, constantValue := 0 }, { name := "LO_BYTE_SHIFT", type := .int, accessFlags := 26, slot := 1, constantValue := 0 }, { name := "MAX_LENGTH", type := .int, accessFlags := 24, slot := 2, constantValue := 0 }, { name := "$assertionsDisabled", type := .boolean, accessFlags := 4120, slot := 3, constantValue := 0 }]
  methods := #[k10m0, k10m1, k10m2, k10m3, k10m4, k10m5, k10m6, k10m7, k10m8, k10m9, k10m10, k10m11]
  instanceTypes := #[]
  staticTypes := #[.int, .int, .int, .boolean]
  resolved := Array.replicate 635 none
  statics := some 1 }

def pool11 : Array CpInfo := pool [(1, .class_ 2), (0, u "java/lang/String"), (1, .class_ 6), (1, u "java/lang/Object"), (0, u "<init>"), (0, u "()V"), (0, .methodref 1 10), (0, .nameAndType 11 12), (0, u "checkIndex"), (0, u "(II)V"), (1, .class_ 16), (1, u "java/lang/StringLatin1"), (36, u "([BI)C"), (67, u "$assertionsDisabled"), (0, u "Z"), (98, .class_ 223), (1, u "java/lang/StringLatin1$LinesSpliterator"), (28, u "charAt"), (137, .class_ 391), (0, u "java/lang/StringLatin1$CharsSpliterator")] 3

def k11m0 : Method := { name := "<init>", desc := "()V", sig := { parameters := [], returnType := none }, accessFlags := 0, code := none }
def k11c1 : Code := { maxStack := 2, maxLocals := 2, code := jdk_43_method_2_code, exceptionTable := #[], attributes := #[] }
def k11m1 : Method := { name := "charAt", desc := "([BI)C", sig := { parameters := [(.array .byte), .int], returnType := some .char }, accessFlags := 9, code := some k11c1 }
/-- java/lang/StringLatin1 -/
def k11 : Class := { plain "java/lang/StringLatin1" (some 0) with
  accessFlags := 48
  interfaces := #[]
  cf := some (fileOf pool11 14 #[.nestMembers #[390, 221]] #[{ accessFlags := 0, nameIndex := 7, descriptorIndex := 8, attributes := #[] }, { accessFlags := 9, nameIndex := 252, descriptorIndex := 53, attributes := #[] }] 48 4 #[] #[{ accessFlags := 4120, nameIndex := 121, descriptorIndex := 122, attributes := #[] }])
  fields := #[{ name := "$assertionsDisabled", type := .boolean, accessFlags := 4120, slot := 0, constantValue := 0 }]
  methods := #[k11m0, k11m1]
  instanceTypes := #[]
  staticTypes := #[.boolean]
  resolved := Array.replicate 395 none
  statics := none }

def pool12 : Array CpInfo := pool [(2, .class_ 4), (1, u "java/lang/Object"), (0, u "<init>"), (0, u "()V"), (17, .class_ 26), (1, u "jdk/internal/util/Preconditions"), (6, u "checkIndex"), (21, .class_ 56), (0, u "jdk/internal/util/Preconditions$4"), (57, .class_ 115), (0, u "jdk/internal/util/Preconditions$1"), (7, u "SIOOBE_FORMATTER"), (0, u "Ljava/util/function/BiFunction;"), (0, .class_ 126), (0, u "jdk/internal/util/Preconditions$2"), (3, u "AIOOBE_FORMATTER"), (0, .class_ 132), (0, u "jdk/internal/util/Preconditions$3"), (3, u "IOOBE_FORMATTER"), (41, u "(IILjava/util/function/BiFunction;)I")] 15

def k12m0 : Method := { name := "<init>", desc := "()V", sig := { parameters := [], returnType := none }, accessFlags := 1, code := none }
def k12c1 : Code := { maxStack := 3, maxLocals := 3, code := jdk_41_method_11_code, exceptionTable := #[], attributes := #[] }
def k12m1 : Method := { name := "checkIndex", desc := "(IILjava/util/function/BiFunction;)I", sig := { parameters := [.int, .int, (.object "java/util/function/BiFunction")], returnType := some .int }, accessFlags := 9, code := some k12c1 }
/-- jdk/internal/util/Preconditions -/
def k12 : Class := { plain "jdk/internal/util/Preconditions" (some 0) with
  accessFlags := 33
  interfaces := #[]
  cf := some (fileOf pool12 24 #[.nestMembers #[55, 131, 125, 114]] #[{ accessFlags := 1, nameIndex := 5, descriptorIndex := 6, attributes := #[] }, { accessFlags := 9, nameIndex := 33, descriptorIndex := 178, attributes := #[] }] 33 2 #[] #[{ accessFlags := 25, nameIndex := 123, descriptorIndex := 124, attributes := #[] }, { accessFlags := 25, nameIndex := 130, descriptorIndex := 124, attributes := #[] }, { accessFlags := 25, nameIndex := 136, descriptorIndex := 124, attributes := #[] }])
  fields := #[{ name := "SIOOBE_FORMATTER", type := (.object "java/util/function/BiFunction"), accessFlags := 25, slot := 0, constantValue := 0 }, { name := "AIOOBE_FORMATTER", type := (.object "java/util/function/BiFunction"), accessFlags := 25, slot := 1, constantValue := 0 }, { name := "IOOBE_FORMATTER", type := (.object "java/util/function/BiFunction"), accessFlags := 25, slot := 2, constantValue := 0 }]
  methods := #[k12m0, k12m1]
  instanceTypes := #[]
  staticTypes := #[(.object "java/util/function/BiFunction"), (.object "java/util/function/BiFunction"), (.object "java/util/function/BiFunction")]
  resolved := Array.replicate 194 none
  statics := some 2 }

def pool13 : Array CpInfo := pool [(9, u "<init>"), (6, .class_ 18), (1, u "java/lang/Object"), (0, u "()V"), (1, .class_ 23), (1, u "jdk/internal/util/ArraysSupport"), (0, u "LOG2_ARRAY_LONG_INDEX_SCALE"), (0, u "I"), (2, u "U"), (0, u "Ljdk/internal/misc/Unsafe;"), (8, u "BIG_ENDIAN"), (0, u "Z"), (8, u "LOG2_BYTE_BIT_SIZE"), (4, u "LOG2_ARRAY_INT_INDEX_SCALE"), (54, u "JLA"), (0, u "Ljdk/internal/access/JavaLangAccess;"), (11, u "LOG2_ARRAY_BOOLEAN_INDEX_SCALE"), (9, u "LOG2_ARRAY_BYTE_INDEX_SCALE"), (5, u "LOG2_ARRAY_CHAR_INDEX_SCALE"), (5, u "LOG2_ARRAY_SHORT_INDEX_SCALE"), (18, u "LOG2_ARRAY_FLOAT_INDEX_SCALE"), (24, u "LOG2_ARRAY_DOUBLE_INDEX_SCALE"), (89, u "T_BOOLEAN"), (2, u "T_CHAR"), (1, u "T_FLOAT"), (1, u "T_DOUBLE"), (1, u "T_BYTE"), (1, u "T_SHORT"), (1, u "T_INT"), (1, u "T_LONG"), (1, u "SOFT_MAX_ARRAY_LENGTH")] 83

def k13m0 : Method := { name := "<init>", desc := "()V", sig := { parameters := [], returnType := none }, accessFlags := 2, code := none }
/-- jdk/internal/util/ArraysSupport -/
def k13 : Class := { plain "jdk/internal/util/ArraysSupport" (some 0) with
  accessFlags := 33
  interfaces := #[]
  cf := some (fileOf pool13 21 #[] #[{ accessFlags := 2, nameIndex := 9, descriptorIndex := 19, attributes := #[] }] 33 16 #[] #[{ accessFlags := 24, nameIndex := 28, descriptorIndex := 29, attributes := #[] }, { accessFlags := 26, nameIndex := 38, descriptorIndex := 39, attributes := #[] }, { accessFlags := 25, nameIndex := 121, descriptorIndex := 25, attributes := #[] }, { accessFlags := 25, nameIndex := 131, descriptorIndex := 25, attributes := #[] }, { accessFlags := 25, nameIndex := 137, descriptorIndex := 25, attributes := #[] }, { accessFlags := 25, nameIndex := 143, descriptorIndex := 25, attributes := #[] }, { accessFlags := 25, nameIndex := 53, descriptorIndex := 25, attributes := #[] }, { accessFlags := 25, nameIndex := 24, descriptorIndex := 25, attributes := #[] }, { accessFlags := 25, nameIndex := 162, descriptorIndex := 25, attributes := #[] }, { accessFlags := 25, nameIndex := 187, descriptorIndex := 25, attributes := #[] }, { accessFlags := 26, nameIndex := 48, descriptorIndex := 25, attributes := #[] }, { accessFlags := 25, nameIndex := 277, descriptorIndex := 25, attributes := #[] }, { accessFlags := 25, nameIndex := 280, descriptorIndex := 25, attributes := #[] }, { accessFlags := 25, nameIndex := 282, descriptorIndex := 25, attributes := #[] }, { accessFlags := 25, nameIndex := 284, descriptorIndex := 25, attributes := #[] }, { accessFlags := 25, nameIndex := 286, descriptorIndex := 25, attributes := #[] }, { accessFlags := 25, nameIndex := 288, descriptorIndex := 25, attributes := #[] }, { accessFlags := 25, nameIndex := 290, descriptorIndex := 25, attributes := #[] }, { accessFlags := 25, nameIndex := 292, descriptorIndex := 25, attributes := #[] }, { accessFlags := 26, nameIndex := 108, descriptorIndex := 109, attributes := #[] }, { accessFlags := 25, nameIndex := 294, descriptorIndex := 25, attributes := #[] }])
  fields := #[{ name := "U", type := (.object "jdk/internal/misc/Unsafe"), accessFlags := 24, slot := 0, constantValue := 0 }, { name := "BIG_ENDIAN", type := .boolean, accessFlags := 26, slot := 1, constantValue := 0 }, { name := "LOG2_ARRAY_BOOLEAN_INDEX_SCALE", type := .int, accessFlags := 25, slot := 2, constantValue := 0 }, { name := "LOG2_ARRAY_BYTE_INDEX_SCALE", type := .int, accessFlags := 25, slot := 3, constantValue := 0 }, { name := "LOG2_ARRAY_CHAR_INDEX_SCALE", type := .int, accessFlags := 25, slot := 4, constantValue := 0 }, { name := "LOG2_ARRAY_SHORT_INDEX_SCALE", type := .int, accessFlags := 25, slot := 5, constantValue := 0 }, { name := "LOG2_ARRAY_INT_INDEX_SCALE", type := .int, accessFlags := 25, slot := 6, constantValue := 0 }, { name := "LOG2_ARRAY_LONG_INDEX_SCALE", type := .int, accessFlags := 25, slot := 7, constantValue := 0 }, { name := "LOG2_ARRAY_FLOAT_INDEX_SCALE", type := .int, accessFlags := 25, slot := 8, constantValue := 0 }, { name := "LOG2_ARRAY_DOUBLE_INDEX_SCALE", type := .int, accessFlags := 25, slot := 9, constantValue := 0 }, { name := "LOG2_BYTE_BIT_SIZE", type := .int, accessFlags := 26, slot := 10, constantValue := 0 }, { name := "T_BOOLEAN", type := .int, accessFlags := 25, slot := 11, constantValue := 0 }, { name := "T_CHAR", type := .int, accessFlags := 25, slot := 12, constantValue := 0 }, { name := "T_FLOAT", type := .int, accessFlags := 25, slot := 13, constantValue := 0 }, { name := "T_DOUBLE", type := .int, accessFlags := 25, slot := 14, constantValue := 0 }, { name := "T_BYTE", type := .int, accessFlags := 25, slot := 15, constantValue := 0 }, { name := "T_SHORT", type := .int, accessFlags := 25, slot := 16, constantValue := 0 }, { name := "T_INT", type := .int, accessFlags := 25, slot := 17, constantValue := 0 }, { name := "T_LONG", type := .int, accessFlags := 25, slot := 18, constantValue := 0 }, { name := "JLA", type := (.object "jdk/internal/access/JavaLangAccess"), accessFlags := 26, slot := 19, constantValue := 0 }, { name := "SOFT_MAX_ARRAY_LENGTH", type := .int, accessFlags := 25, slot := 20, constantValue := 0 }]
  methods := #[k13m0]
  instanceTypes := #[]
  staticTypes := #[(.object "jdk/internal/misc/Unsafe"), .boolean, .int, .int, .int, .int, .int, .int, .int, .int, .int, .int, .int, .int, .int, .int, .int, .int, .int, (.object "jdk/internal/access/JavaLangAccess"), .int]
  resolved := Array.replicate 378 none
  statics := none }

def pool14 : Array CpInfo := pool [(1, u "java/lang/Cloneable"), (0, .class_ 1), (0, u "java/lang/Object"), (0, .class_ 3)] 3

/-- java/lang/Cloneable -/
def k14 : Class := { plain "java/lang/Cloneable" (some 0) with
  accessFlags := 1537
  interfaces := #[]
  cf := some (fileOf pool14 2 #[] #[] 1537 4 #[] #[])
  fields := #[]
  methods := #[]
  instanceTypes := #[]
  staticTypes := #[]
  resolved := Array.replicate 8 none
  statics := none }

/-- the primitive byte -/
def k15 : Class := { plain "byte" none with kind := .primitive 'B', accessFlags := 0x411 }
/-- [B -/
def k16 : Class := { plain "[B" (some 0) with kind := .array 15 .byte, interfaces := #[14, 2], accessFlags := 1041 }

/-- the primitive char -/
def k17 : Class := { plain "char" none with kind := .primitive 'C', accessFlags := 0x411 }
/-- [C -/
def k18 : Class := { plain "[C" (some 0) with kind := .array 17 .char, interfaces := #[14, 2], accessFlags := 1041 }

/-- the primitive int -/
def k19 : Class := { plain "int" none with kind := .primitive 'I', accessFlags := 0x411 }
/-- [I -/
def k20 : Class := { plain "[I" (some 0) with kind := .array 19 .int, interfaces := #[14, 2], accessFlags := 1041 }

def heap : Heap := #[{ cls := 7, slots := #[.long 0, .int 1, .null, .int 0, .null, .int 0, .int 0], vm := .statics 7 },
  { cls := 10, slots := #[.int 0, .int 8, .int 0, .int 1], vm := .statics 10 },
  { cls := 12, slots := #[.null, .null, .null], vm := .statics 12 }]
def classes : Array Class := #[k0, k1, k2, k3, k4, k5, k6, k7, k8, k9, k10, k11, k12, k13, k14, k15, k16, k17, k18, k19, k20]
def interned : List (Array UInt16 × Addr) := []
def slotsUsed : Nat := 14
def theMethod : MethodId := ⟨1, 2⟩
def args0 : Array Value := #[.int 5, .int 3, .int 7, .int 1, .int 2]
def aboutOver (below : List Frame) : State where
  vm := { classes := classes, interned := interned.toArray }
  heap := heap
  slotsUsed := slotsUsed
  threads := #[{ frames := .invoking theMethod args0 :: below }]
def below0 : List Frame := [.native { method := ⟨0, 0⟩, args := #[] }]
def about1 : State := aboutOver below0
def p0 : Program := .bare "" "" ""
def e0 : Env := launch0.env 0 0 0
theorem w_frames : about1.frames = Frame.invoking theMethod args0 :: below0 := rfl
set_option maxRecDepth 65536 in
theorem w_args : argsFit about1.vm theMethod args0 = true := by decide +kernel
set_option maxRecDepth 65536 in
theorem w_heap : heapFits about1 = true := by decide +kernel
set_option maxRecDepth 65536 in
theorem w_runnable : about1.curStatus? = some .runnable := by decide +kernel
set_option maxRecDepth 65536 in
theorem w_alone : about1.alone = true := by decide +kernel
set_option maxRecDepth 65536 in
theorem w_named : about1.methodNamed? x = some theMethod := by decide +kernel
set_option maxRecDepth 65536 in
theorem w_hears : about1.hears theMethod below0 = true := by decide +kernel
set_option maxRecDepth 65536 in
theorem w_ripe : about1.ripe theMethod args0 below0 = true := by decide +kernel
theorem w_running : about1.status = .running := rfl
set_option maxRecDepth 65536 in
theorem w_room : about1.hasRoom e0.platform room_1 = true :=
  launch0.hasRoom_least _ room_1 (by decide +kernel) (by decide +kernel) (by decide +kernel) (by decide +kernel) (by decide +kernel) (by decide +kernel)
theorem allAtoms_all (ts : List Jvm.Cond) (a : Array Jvm.Value) (st : Jvm.State) : (allAtoms ts).before a st = ts.all (fun c => c.before a st) := by
  induction ts with
  | nil => rfl
  | cons c t ih =>
    show (Jvm.Cond.and c (allAtoms t)).before a st = _
    rw [Jvm.Cond.before_and, ih, List.all_cons]
def words1 : List Jvm.Cond := Jvm.Cond.code x code maxLocals ret :: tables_1
/-- a 'code' word, met by the world's own term for the bytes: nothing is compared byte by byte -/
theorem code_word {y : MethodName} {bytes : ByteArray} {mx : Nat} {rt : Option FieldType} {a : Array Value} {s : State} {m : MethodId} {meth : Method} {c : Code} (h1 : s.methodNamed? y = some m) (h2 : s.vm.method? m = some meth) (h3 : meth.code = some c) (h4 : c.code = bytes)
    (h5 : (c.maxLocals == mx && c.exceptionTable.isEmpty && decide (c.maxStack ≤ mostOperands) && decide (meth.sig.returnType = rt) && !meth.locks && decide (parseMethodDescriptor y.desc = some meth.sig)) = true) : (Jvm.Cond.code y bytes mx rt).before a s = true := by
  simp only [Bool.and_eq_true, beq_iff_eq, Bool.not_eq_true', decide_eq_true_eq] at h5
  obtain ⟨⟨⟨⟨⟨g1, g2⟩, g3⟩, g4⟩, g5⟩, g6⟩ := h5
  simp [Cond.before, Cond.holds, Cond.value, h1, h2, h3, h4, g1, g2, g3, g4, g5, g6]
def isCode : Jvm.Cond → Bool
  | .code _ _ _ _ => true
  | _ => false
theorem all_split {L : List Jvm.Cond} {P : Jvm.Cond → Bool} (h1 : L.all (fun c => isCode c || P c) = true) (h2 : ∀ c ∈ L.filter isCode, P c = true) : L.all P = true := by
  refine List.all_eq_true.mpr fun c hc => ?_
  have h := List.all_eq_true.mp h1 c hc
  rcases Bool.eq_false_or_eq_true (isCode c) with hi | hi
  · exact h2 c (List.mem_filter.mpr ⟨hc, hi⟩)
  · simpa [hi] using h
set_option maxRecDepth 65536 in
theorem w_c0 : (Jvm.Cond.code x code maxLocals ret).before args0 about1 = true := code_word (m := ⟨1, 2⟩) (meth := k1m2) (c := k1c2) (by decide +kernel) rfl rfl rfl (by decide +kernel)
set_option maxRecDepth 65536 in
theorem w_c1 : (Jvm.Cond.code ({ cls := "com/example/dibs/dibs/redis/LockKeysCheckPrefixPinLaw", name := "clean", desc := "(I)C" } : Jvm.MethodName) method_2_code (2 : Nat) (Option.some Jvm.ClassFile.FieldType.char)).before args0 about1 = true := code_word (m := ⟨1, 1⟩) (meth := k1m1) (c := k1c1) (by decide +kernel) rfl rfl rfl (by decide +kernel)
set_option maxRecDepth 65536 in
theorem w_c2 : (Jvm.Cond.code ({ cls := "java/lang/String", name := "<init>", desc := "([C)V" } : Jvm.MethodName) jdk_42_method_3_code (2 : Nat) (Option.none : Option Jvm.ClassFile.FieldType)).before args0 about1 = true := code_word (m := ⟨7, 1⟩) (meth := k7m1) (c := k7c1) (by decide +kernel) rfl rfl rfl (by decide +kernel)
set_option maxRecDepth 65536 in
theorem w_c3 : (Jvm.Cond.code ({ cls := "java/lang/String", name := "<init>", desc := "([CIILjava/lang/Void;)V" } : Jvm.MethodName) jdk_42_method_149_code (6 : Nat) (Option.none : Option Jvm.ClassFile.FieldType)).before args0 about1 = true := code_word (m := ⟨7, 4⟩) (meth := k7m4) (c := k7c4) (by decide +kernel) rfl rfl rfl (by decide +kernel)
set_option maxRecDepth 65536 in
theorem w_c4 : (Jvm.Cond.code ({ cls := "java/lang/Object", name := "<init>", desc := "()V" } : Jvm.MethodName) object_method_1_code (1 : Nat) (Option.none : Option Jvm.ClassFile.FieldType)).before args0 about1 = true := code_word (m := ⟨0, 0⟩) (meth := k0m0) (c := k0c0) (by decide +kernel) rfl rfl rfl (by decide +kernel)
set_option maxRecDepth 65536 in
theorem w_c5 : (Jvm.Cond.code ({ cls := "com/example/dibs/dibs/redis/LockKeys", name := "checkPrefix", desc := "(Ljava/lang/String;)V" } : Jvm.MethodName) prog_8_method_3_code (1 : Nat) (Option.none : Option Jvm.ClassFile.FieldType)).before args0 about1 = true := code_word (m := ⟨8, 0⟩) (meth := k8m0) (c := k8c0) (by decide +kernel) rfl rfl rfl (by decide +kernel)
set_option maxRecDepth 65536 in
theorem w_c6 : (Jvm.Cond.code ({ cls := "java/util/Objects", name := "requireNonNull", desc := "(Ljava/lang/Object;Ljava/lang/String;)Ljava/lang/Object;" } : Jvm.MethodName) jdk_31_method_11_code (2 : Nat) (Option.some (Jvm.ClassFile.FieldType.object "java/lang/Object"))).before args0 about1 = true := code_word (m := ⟨9, 1⟩) (meth := k9m1) (c := k9c1) (by decide +kernel) rfl rfl rfl (by decide +kernel)
set_option maxRecDepth 65536 in
theorem w_c7 : (Jvm.Cond.code ({ cls := "com/example/dibs/dibs/redis/LockKeys", name := "requireNoBrace", desc := "(Ljava/lang/String;Ljava/lang/String;)V" } : Jvm.MethodName) prog_8_method_25_code (4 : Nat) (Option.none : Option Jvm.ClassFile.FieldType)).before args0 about1 = true := code_word (m := ⟨8, 1⟩) (meth := k8m1) (c := k8c1) (by decide +kernel) rfl rfl rfl (by decide +kernel)
set_option maxRecDepth 65536 in
theorem w_c8 : (Jvm.Cond.code ({ cls := "java/lang/String", name := "length", desc := "()I" } : Jvm.MethodName) jdk_42_method_54_code (1 : Nat) (Option.some Jvm.ClassFile.FieldType.int)).before args0 about1 = true := code_word (m := ⟨7, 2⟩) (meth := k7m2) (c := k7c2) (by decide +kernel) rfl rfl rfl (by decide +kernel)
set_option maxRecDepth 65536 in
theorem w_c9 : (Jvm.Cond.code ({ cls := "java/lang/String", name := "coder", desc := "()B" } : Jvm.MethodName) jdk_42_method_152_code (1 : Nat) (Option.some Jvm.ClassFile.FieldType.byte)).before args0 about1 = true := code_word (m := ⟨7, 5⟩) (meth := k7m5) (c := k7c5) (by decide +kernel) rfl rfl rfl (by decide +kernel)
set_option maxRecDepth 65536 in
theorem w_c10 : (Jvm.Cond.code ({ cls := "java/lang/StringUTF16", name := "compress", desc := "([CII)[B" } : Jvm.MethodName) jdk_52_method_16_code (6 : Nat) (Option.some (Jvm.ClassFile.FieldType.array Jvm.ClassFile.FieldType.byte))).before args0 about1 = true := code_word (m := ⟨10, 8⟩) (meth := k10m8) (c := k10c8) (by decide +kernel) rfl rfl rfl (by decide +kernel)
set_option maxRecDepth 65536 in
theorem w_c11 : (Jvm.Cond.code ({ cls := "java/lang/StringUTF16", name := "compress", desc := "([CI[BII)I" } : Jvm.MethodName) jdk_52_method_21_code (7 : Nat) (Option.some Jvm.ClassFile.FieldType.int)).before args0 about1 = true := code_word (m := ⟨10, 9⟩) (meth := k10m9) (c := k10c9) (by decide +kernel) rfl rfl rfl (by decide +kernel)
set_option maxRecDepth 65536 in
theorem w_c12 : (Jvm.Cond.code ({ cls := "java/lang/StringUTF16", name := "coderFromArrayLen", desc := "([BI)B" } : Jvm.MethodName) jdk_52_method_15_code (2 : Nat) (Option.some Jvm.ClassFile.FieldType.byte)).before args0 about1 = true := code_word (m := ⟨10, 7⟩) (meth := k10m7) (c := k10c7) (by decide +kernel) rfl rfl rfl (by decide +kernel)
set_option maxRecDepth 65536 in
theorem w_c13 : (Jvm.Cond.code ({ cls := "java/lang/String", name := "charAt", desc := "(I)C" } : Jvm.MethodName) jdk_42_method_56_code (2 : Nat) (Option.some Jvm.ClassFile.FieldType.char)).before args0 about1 = true := code_word (m := ⟨7, 3⟩) (meth := k7m3) (c := k7c3) (by decide +kernel) rfl rfl rfl (by decide +kernel)
set_option maxRecDepth 65536 in
theorem w_c14 : (Jvm.Cond.code ({ cls := "java/lang/String", name := "isLatin1", desc := "()Z" } : Jvm.MethodName) jdk_42_method_154_code (1 : Nat) (Option.some Jvm.ClassFile.FieldType.boolean)).before args0 about1 = true := code_word (m := ⟨7, 6⟩) (meth := k7m6) (c := k7c6) (by decide +kernel) rfl rfl rfl (by decide +kernel)
set_option maxRecDepth 65536 in
theorem w_c15 : (Jvm.Cond.code ({ cls := "java/lang/StringLatin1", name := "charAt", desc := "([BI)C" } : Jvm.MethodName) jdk_43_method_2_code (2 : Nat) (Option.some Jvm.ClassFile.FieldType.char)).before args0 about1 = true := code_word (m := ⟨11, 1⟩) (meth := k11m1) (c := k11c1) (by decide +kernel) rfl rfl rfl (by decide +kernel)
set_option maxRecDepth 65536 in
theorem w_c16 : (Jvm.Cond.code ({ cls := "java/lang/String", name := "checkIndex", desc := "(II)V" } : Jvm.MethodName) jdk_42_method_155_code (2 : Nat) (Option.none : Option Jvm.ClassFile.FieldType)).before args0 about1 = true := code_word (m := ⟨7, 7⟩) (meth := k7m7) (c := k7c7) (by decide +kernel) rfl rfl rfl (by decide +kernel)
set_option maxRecDepth 65536 in
theorem w_c17 : (Jvm.Cond.code ({ cls := "jdk/internal/util/Preconditions", name := "checkIndex", desc := "(IILjava/util/function/BiFunction;)I" } : Jvm.MethodName) jdk_41_method_11_code (3 : Nat) (Option.some Jvm.ClassFile.FieldType.int)).before args0 about1 = true := code_word (m := ⟨12, 1⟩) (meth := k12m1) (c := k12c1) (by decide +kernel) rfl rfl rfl (by decide +kernel)
set_option maxRecDepth 65536 in
theorem w_c18 : (Jvm.Cond.code ({ cls := "java/lang/StringUTF16", name := "toBytes", desc := "([CII)[B" } : Jvm.MethodName) jdk_52_method_14_code (5 : Nat) (Option.some (Jvm.ClassFile.FieldType.array Jvm.ClassFile.FieldType.byte))).before args0 about1 = true := code_word (m := ⟨10, 6⟩) (meth := k10m6) (c := k10c6) (by decide +kernel) rfl rfl rfl (by decide +kernel)
set_option maxRecDepth 65536 in
theorem w_c19 : (Jvm.Cond.code ({ cls := "java/lang/StringUTF16", name := "newBytesFor", desc := "(I)[B" } : Jvm.MethodName) jdk_52_method_2_code (1 : Nat) (Option.some (Jvm.ClassFile.FieldType.array Jvm.ClassFile.FieldType.byte))).before args0 about1 = true := code_word (m := ⟨10, 1⟩) (meth := k10m1) (c := k10c1) (by decide +kernel) rfl rfl rfl (by decide +kernel)
set_option maxRecDepth 65536 in
theorem w_c20 : (Jvm.Cond.code ({ cls := "java/lang/StringUTF16", name := "newBytesLength", desc := "(I)I" } : Jvm.MethodName) jdk_52_method_3_code (1 : Nat) (Option.some Jvm.ClassFile.FieldType.int)).before args0 about1 = true := code_word (m := ⟨10, 2⟩) (meth := k10m2) (c := k10c2) (by decide +kernel) rfl rfl rfl (by decide +kernel)
set_option maxRecDepth 65536 in
theorem w_c21 : (Jvm.Cond.code ({ cls := "java/lang/StringUTF16", name := "putChar", desc := "([BII)V" } : Jvm.MethodName) jdk_52_method_4_code (3 : Nat) (Option.none : Option Jvm.ClassFile.FieldType)).before args0 about1 = true := code_word (m := ⟨10, 3⟩) (meth := k10m3) (c := k10c3) (by decide +kernel) rfl rfl rfl (by decide +kernel)
set_option maxRecDepth 65536 in
theorem w_c22 : (Jvm.Cond.code ({ cls := "java/lang/StringUTF16", name := "getChar", desc := "([BI)C" } : Jvm.MethodName) jdk_52_method_5_code (2 : Nat) (Option.some Jvm.ClassFile.FieldType.char)).before args0 about1 = true := code_word (m := ⟨10, 4⟩) (meth := k10m4) (c := k10c4) (by decide +kernel) rfl rfl rfl (by decide +kernel)
set_option maxRecDepth 65536 in
theorem w_c23 : (Jvm.Cond.code ({ cls := "java/lang/StringUTF16", name := "charAt", desc := "([BI)C" } : Jvm.MethodName) jdk_52_method_83_code (2 : Nat) (Option.some Jvm.ClassFile.FieldType.char)).before args0 about1 = true := code_word (m := ⟨10, 10⟩) (meth := k10m10) (c := k10c10) (by decide +kernel) rfl rfl rfl (by decide +kernel)
set_option maxRecDepth 65536 in
theorem w_c24 : (Jvm.Cond.code ({ cls := "java/lang/StringUTF16", name := "checkIndex", desc := "(I[B)V" } : Jvm.MethodName) jdk_52_method_91_code (2 : Nat) (Option.none : Option Jvm.ClassFile.FieldType)).before args0 about1 = true := code_word (m := ⟨10, 11⟩) (meth := k10m11) (c := k10c11) (by decide +kernel) rfl rfl rfl (by decide +kernel)
set_option maxRecDepth 65536 in
theorem w_c25 : (Jvm.Cond.code ({ cls := "java/lang/StringUTF16", name := "length", desc := "([B)I" } : Jvm.MethodName) jdk_52_method_6_code (1 : Nat) (Option.some Jvm.ClassFile.FieldType.int)).before args0 about1 = true := code_word (m := ⟨10, 5⟩) (meth := k10m5) (c := k10c5) (by decide +kernel) rfl rfl rfl (by decide +kernel)
def codes1 : List Jvm.Cond := [Jvm.Cond.code x code maxLocals ret, Jvm.Cond.code ({ cls := "com/example/dibs/dibs/redis/LockKeysCheckPrefixPinLaw", name := "clean", desc := "(I)C" } : Jvm.MethodName) method_2_code (2 : Nat) (Option.some Jvm.ClassFile.FieldType.char), Jvm.Cond.code ({ cls := "java/lang/String", name := "<init>", desc := "([C)V" } : Jvm.MethodName) jdk_42_method_3_code (2 : Nat) (Option.none : Option Jvm.ClassFile.FieldType), Jvm.Cond.code ({ cls := "java/lang/String", name := "<init>", desc := "([CIILjava/lang/Void;)V" } : Jvm.MethodName) jdk_42_method_149_code (6 : Nat) (Option.none : Option Jvm.ClassFile.FieldType), Jvm.Cond.code ({ cls := "java/lang/Object", name := "<init>", desc := "()V" } : Jvm.MethodName) object_method_1_code (1 : Nat) (Option.none : Option Jvm.ClassFile.FieldType), Jvm.Cond.code ({ cls := "com/example/dibs/dibs/redis/LockKeys", name := "checkPrefix", desc := "(Ljava/lang/String;)V" } : Jvm.MethodName) prog_8_method_3_code (1 : Nat) (Option.none : Option Jvm.ClassFile.FieldType), Jvm.Cond.code ({ cls := "java/util/Objects", name := "requireNonNull", desc := "(Ljava/lang/Object;Ljava/lang/String;)Ljava/lang/Object;" } : Jvm.MethodName) jdk_31_method_11_code (2 : Nat) (Option.some (Jvm.ClassFile.FieldType.object "java/lang/Object")), Jvm.Cond.code ({ cls := "com/example/dibs/dibs/redis/LockKeys", name := "requireNoBrace", desc := "(Ljava/lang/String;Ljava/lang/String;)V" } : Jvm.MethodName) prog_8_method_25_code (4 : Nat) (Option.none : Option Jvm.ClassFile.FieldType), Jvm.Cond.code ({ cls := "java/lang/String", name := "length", desc := "()I" } : Jvm.MethodName) jdk_42_method_54_code (1 : Nat) (Option.some Jvm.ClassFile.FieldType.int), Jvm.Cond.code ({ cls := "java/lang/String", name := "coder", desc := "()B" } : Jvm.MethodName) jdk_42_method_152_code (1 : Nat) (Option.some Jvm.ClassFile.FieldType.byte), Jvm.Cond.code ({ cls := "java/lang/StringUTF16", name := "compress", desc := "([CII)[B" } : Jvm.MethodName) jdk_52_method_16_code (6 : Nat) (Option.some (Jvm.ClassFile.FieldType.array Jvm.ClassFile.FieldType.byte)), Jvm.Cond.code ({ cls := "java/lang/StringUTF16", name := "compress", desc := "([CI[BII)I" } : Jvm.MethodName) jdk_52_method_21_code (7 : Nat) (Option.some Jvm.ClassFile.FieldType.int), Jvm.Cond.code ({ cls := "java/lang/StringUTF16", name := "coderFromArrayLen", desc := "([BI)B" } : Jvm.MethodName) jdk_52_method_15_code (2 : Nat) (Option.some Jvm.ClassFile.FieldType.byte), Jvm.Cond.code ({ cls := "java/lang/String", name := "charAt", desc := "(I)C" } : Jvm.MethodName) jdk_42_method_56_code (2 : Nat) (Option.some Jvm.ClassFile.FieldType.char), Jvm.Cond.code ({ cls := "java/lang/String", name := "isLatin1", desc := "()Z" } : Jvm.MethodName) jdk_42_method_154_code (1 : Nat) (Option.some Jvm.ClassFile.FieldType.boolean), Jvm.Cond.code ({ cls := "java/lang/StringLatin1", name := "charAt", desc := "([BI)C" } : Jvm.MethodName) jdk_43_method_2_code (2 : Nat) (Option.some Jvm.ClassFile.FieldType.char), Jvm.Cond.code ({ cls := "java/lang/String", name := "checkIndex", desc := "(II)V" } : Jvm.MethodName) jdk_42_method_155_code (2 : Nat) (Option.none : Option Jvm.ClassFile.FieldType), Jvm.Cond.code ({ cls := "jdk/internal/util/Preconditions", name := "checkIndex", desc := "(IILjava/util/function/BiFunction;)I" } : Jvm.MethodName) jdk_41_method_11_code (3 : Nat) (Option.some Jvm.ClassFile.FieldType.int), Jvm.Cond.code ({ cls := "java/lang/StringUTF16", name := "toBytes", desc := "([CII)[B" } : Jvm.MethodName) jdk_52_method_14_code (5 : Nat) (Option.some (Jvm.ClassFile.FieldType.array Jvm.ClassFile.FieldType.byte)), Jvm.Cond.code ({ cls := "java/lang/StringUTF16", name := "newBytesFor", desc := "(I)[B" } : Jvm.MethodName) jdk_52_method_2_code (1 : Nat) (Option.some (Jvm.ClassFile.FieldType.array Jvm.ClassFile.FieldType.byte)), Jvm.Cond.code ({ cls := "java/lang/StringUTF16", name := "newBytesLength", desc := "(I)I" } : Jvm.MethodName) jdk_52_method_3_code (1 : Nat) (Option.some Jvm.ClassFile.FieldType.int), Jvm.Cond.code ({ cls := "java/lang/StringUTF16", name := "putChar", desc := "([BII)V" } : Jvm.MethodName) jdk_52_method_4_code (3 : Nat) (Option.none : Option Jvm.ClassFile.FieldType), Jvm.Cond.code ({ cls := "java/lang/StringUTF16", name := "getChar", desc := "([BI)C" } : Jvm.MethodName) jdk_52_method_5_code (2 : Nat) (Option.some Jvm.ClassFile.FieldType.char), Jvm.Cond.code ({ cls := "java/lang/StringUTF16", name := "charAt", desc := "([BI)C" } : Jvm.MethodName) jdk_52_method_83_code (2 : Nat) (Option.some Jvm.ClassFile.FieldType.char), Jvm.Cond.code ({ cls := "java/lang/StringUTF16", name := "checkIndex", desc := "(I[B)V" } : Jvm.MethodName) jdk_52_method_91_code (2 : Nat) (Option.none : Option Jvm.ClassFile.FieldType), Jvm.Cond.code ({ cls := "java/lang/StringUTF16", name := "length", desc := "([B)I" } : Jvm.MethodName) jdk_52_method_6_code (1 : Nat) (Option.some Jvm.ClassFile.FieldType.int)]
set_option maxRecDepth 65536 in
theorem codes_eq : words1.filter isCode = codes1 := rfl
theorem w_codes : ∀ c ∈ words1.filter isCode, c.before args0 about1 = true := by
  rw [codes_eq]
  intro c hc
  simp only [codes1, List.mem_cons, List.not_mem_nil, or_false] at hc
  rcases hc with rfl | rfl | rfl | rfl | rfl | rfl | rfl | rfl | rfl | rfl | rfl | rfl | rfl | rfl | rfl | rfl | rfl | rfl | rfl | rfl | rfl | rfl | rfl | rfl | rfl | rfl
  · exact w_c0
  · exact w_c1
  · exact w_c2
  · exact w_c3
  · exact w_c4
  · exact w_c5
  · exact w_c6
  · exact w_c7
  · exact w_c8
  · exact w_c9
  · exact w_c10
  · exact w_c11
  · exact w_c12
  · exact w_c13
  · exact w_c14
  · exact w_c15
  · exact w_c16
  · exact w_c17
  · exact w_c18
  · exact w_c19
  · exact w_c20
  · exact w_c21
  · exact w_c22
  · exact w_c23
  · exact w_c24
  · exact w_c25
set_option maxRecDepth 65536 in
theorem w_t1 : (words1.take 24).all (fun c => isCode c || c.before args0 about1) = true := by decide +kernel
set_option maxRecDepth 65536 in
theorem w_t2 : ((words1.drop 24).take 24).all (fun c => isCode c || c.before args0 about1) = true := by decide +kernel
set_option maxRecDepth 65536 in
theorem w_t3 : (((words1.drop 24).drop 24).take 24).all (fun c => isCode c || c.before args0 about1) = true := by decide +kernel
set_option maxRecDepth 65536 in
theorem w_t4 : ((((words1.drop 24).drop 24).drop 24).take 24).all (fun c => isCode c || c.before args0 about1) = true := by decide +kernel
set_option maxRecDepth 65536 in
theorem w_t5 : ((((words1.drop 24).drop 24).drop 24).drop 24).all (fun c => isCode c || c.before args0 about1) = true := by decide +kernel
theorem w_tables : (allAtoms (Jvm.Cond.code x code maxLocals ret :: tables_1)).before args0 about1 = true := by
  rw [allAtoms_all]
  show words1.all (fun c => c.before args0 about1) = true
  refine all_split ?_ w_codes
  rw [← List.take_append_drop 24 words1, List.all_append, w_t1, ← List.take_append_drop 24 (words1.drop 24), List.all_append, w_t2, ← List.take_append_drop 24 ((words1.drop 24).drop 24), List.all_append, w_t3, ← List.take_append_drop 24 (((words1.drop 24).drop 24).drop 24), List.all_append, w_t4, w_t5]
  rfl
set_option maxRecDepth 65536 in
theorem w_rest : rest_1_c.before args0 about1 = true := by decide +kernel
set_option maxRecDepth 65536 in
theorem w_case : (Jvm.Cond.and given_1 narrow_1).before args0 about1 = true := by decide +kernel
set_option maxRecDepth 65536 in
theorem w_consts : constsHeld consts_1 about1 := Jvm.Lit.constsHeldB_iff.mp (by decide +kernel)
theorem w_applies : (headSpec (Jvm.Cond.code x code maxLocals ret :: tables_1) room_1).applies x e0.platform about1 = true :=
  (Spec.applies_iff w_frames).mpr ⟨w_running, w_runnable, w_alone, w_named, w_hears, w_ripe, w_room, w_tables⟩
theorem atStart : AtStart classFile x code maxLocals ret World_1 tables_1 room_1 Calls_1 rest_1 Pre_1 launch0 p0 e0 about1 theMethod args0 below0 :=
  ⟨lists_1, trivial, launch0.admits_env _ _ _, launch0.least_env, fairChoices_fair.cas, fairChoices_fair.clock, w_frames, w_args, w_heap, w_applies, ⟨w_consts, trivial⟩, w_rest, w_case⟩
end start1
theorem witness_1 : WitnessClaimed_1 := ⟨start1.p0, start1.e0, start1.about1, start1.theMethod, start1.args0, start1.below0, start1.atStart⟩
end Jvm.Pilot.@@N@@
