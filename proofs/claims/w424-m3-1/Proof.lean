import JvmDerived
import JvmDerived.Pilot.@@N@@Statement
import JvmDerived.Pilot.@@N@@Code
set_option linter.unusedVariables false
set_option linter.unusedSimpArgs false
namespace Jvm.OwnKit
open Jvm Sem ClassFile Op Lib Jvm.Stand Jvm.Free Jvm.LawKit Jvm.RoadKit
/-- what a body's walk knows of its frame throughout -/
def Cx (p : Program) (s : State) (m : MethodId) (meth : Method) (c : Code) (Z : State) (y : MethodName) (bytes : ByteArray) (ml : Nat) (ret : Option FieldType) : Prop :=
  p.tables.exec = Jvm.exec ∧ Z.Warmed39 s.vm ∧ s.vm.findClass y.cls = some m.cls ∧ c.code = bytes ∧ c.maxLocals = ml ∧ meth.sig.returnType = ret ∧ meth.locks = false ∧ meth.name = y.name
/-- from the heap h, k cells and n slots made so far, the frame at pc with these locals and this stack comes to its end, and F holds of the result and the last state -/
def W (p : Program) (l : Launch) (e : Env) (R : Room) (s : State) (m : MethodId) (args : Array Value) (below : List Frame) (meth : Method) (c : Code) (n0 : Nat) (F : Option Value → Outcome → State → List Loc → Prop)
    (k n : Nat) (h : Heap) (pc : Nat) (ls : Array Slot) (st : List Value) : Prop :=
  ∀ (T : State) (locs : List Loc), Stand p l e R s m args below meth c T locs k n → T.heap = h → Fr n0 locs →
    ∃ s₂ o, Steps p.tables e below (T.setTop (mkF m pc ls st)) s₂ ∧ s₂.status = .running ∧ Ended s₂ below o ∧ ∃ v L, o = .returned v ∧ F v o s₂ L
/-- the end of a walk that has loaded no String constant -/
def FN (s : State) (n0 : Nat) (Q : Option Value → Heap → Prop) (kc ks : Nat) : Option Value → Outcome → State → List Loc → Prop := fun v o t L => (Q v t.heap ∧ Fr n0 L) ∧ FrameEnd s o t L kc ks
/-- the end of a walk that may have loaded one: said of the true start -/
def FW (s : State) (n0 : Nat) (Q : Option Value → Heap → Vm → Prop) (kc ks : Nat) : Option Value → Outcome → State → List Loc → Prop := fun v o t L => (Q v t.heap t.vm ∧ Fr n0 L) ∧ ReturnedEndW s o t L kc ks
/-- what is booked since s stands in h -/
def Sn (s : State) (vm : Vm) (h : Heap) : Prop := ∃ k, s.Since vm k ∧ k ≤ h.size
theorem Sn.le {s : State} {vm : Vm} {h h' : Heap} (S : Sn s vm h) (q : h.size ≤ h'.size) : Sn s vm h' := by obtain ⟨k, a, b⟩ := S; exact ⟨k, a, Nat.le_trans b q⟩
theorem FN.ok {s : State} {n0 : Nat} {Q : Option Value → Heap → Prop} {kc ks k n : Nat} {v : Option Value} {h : Heap} (hk : k ≤ kc) (hs : n ≤ ks) (q : Q v h) : ∀ (t : State) (L : List Loc), t.heap = h → Fr n0 L → FrameEnd s (.returned v) t L k n → FN s n0 Q kc ks v (.returned v) t L :=
  fun t L e N f => ⟨⟨by rw [e]; exact q, N⟩, f.1, f.2.1, f.2.2.mono hk hs⟩
theorem FW.ok {s : State} {vm0 : Vm} {n0 : Nat} {Q : Option Value → Heap → Vm → Prop} {kc ks k n : Nat} {v : Option Value} {h : Heap} (S : Sn s vm0 h) (hk : k ≤ kc) (hs : n ≤ ks) (q : ∀ vm', (s.setVm vm0).WarmedH vm' → Q v h vm') : ∀ (t : State) (L : List Loc), t.heap = h → Fr n0 L → FrameEnd (s.setVm vm0) (.returned v) t L k n → FW s n0 Q kc ks v (.returned v) t L := by
  intro t L e N f
  subst e
  obtain ⟨k0, S, b⟩ := S
  obtain ⟨x, y, z⟩ := S.ended (U := t) f.2.1 b f.2.2
  exact ⟨⟨q _ f.2.1, N⟩, ⟨v, rfl⟩, x, y, z.mono hk hs⟩
/-- the held constants, when the tables have only been warmed -/
theorem chw {s Z : State} {vm0 vm' : Vm} {EL : List (String × Nat)} {a0 : Array Value} {h : Heap} (hZ : Z.Warmed39 vm0) (hW : (s.setVm vm0).WarmedH vm') (w : EW Z a0 EL) (H : CHv Z EL vm0 h) : CHr Z EL vm0 h vm' h := by
  have q := CHv.later (h' := h) hZ (hW := (show (Wst Z vm0 h).Warmed39 vm' from hW.wide)) w ⟨Nat.le_refl _, fun _ _ q => q⟩ (Or.inl hW.interned_eq) H
  exact ⟨q.1, Nat.le_refl _, q.2⟩
theorem ext0 {h h' : Heap} (K : Keep h h' []) : Ext h h' := ⟨K.1, fun x c q => K.2.1 x c q (fun z => nomatch z)⟩
/-- a body's contract, where it may load String constants -/
def ConW (l : Launch) (Z : State) (y : MethodName) (bytes : ByteArray) (ml : Nat) (ret : Option FieldType) (rm : Room) (as' : Array Value) (h0 : Heap) (n0 : Nat) (Pv : Vm → Prop) (Q : Option Value → Heap → Vm → Prop) : Prop :=
  ∀ ws : List Jvm.Cond, MetFree l y (head1 (Jvm.Cond.code y bytes ml ret :: ws) rm) (fun a U => a = as' ∧ Z.Warmed39 U.vm ∧ U.heap = h0 ∧ Pv U.vm) (fun _ _ _ _ _ => True) (fun _ U o U' => ∃ v L, o = .returned v ∧ (Q v U'.heap U'.vm ∧ Fr n0 L) ∧ ReturnedEndW U o U' L rm.cells rm.slots)
/-- a body's contract -/
def Con (l : Launch) (Z : State) (y : MethodName) (bytes : ByteArray) (ml : Nat) (ret : Option FieldType) (rm : Room) (as' : Array Value) (h0 : Heap) (n0 : Nat) (Q : Option Value → Heap → Prop) : Prop :=
  ∀ ws : List Jvm.Cond, MetFree l y (head1 (Jvm.Cond.code y bytes ml ret :: ws) rm) (fun a U => a = as' ∧ Z.Warmed39 U.vm ∧ U.heap = h0) (fun _ _ _ _ _ => True) (fun _ U o U' => ∃ v L, o = .returned v ∧ (Q v U'.heap ∧ Fr n0 L) ∧ FrameEnd U o U' L rm.cells rm.slots)
/-- it returns v and leaves the heap -/
def Pu (v : Option Value) (h : Heap) : Option Value → Heap → Prop := fun v' h' => v' = v ∧ h = h'
section
variable {p : Program} {l : Launch} {e : Env} {R : Room} {s : State} {m : MethodId} {args : Array Value} {below : List Frame} {meth : Method} {c : Code} {Z : State} {y : MethodName} {bytes : ByteArray} {ml : Nat} {ret : Option FieldType} {n0 : Nat} {Q : Option Value → Heap → Prop} {Fe : Option Value → Outcome → State → List Loc → Prop} {Pv : Vm → Prop} {Qw : Option Value → Heap → Vm → Prop} {vm0 : Vm} {kc ks k n : Nat} {h : Heap} {pc : Nat} {ls : Array Slot} {st : List Value} {a0 : Array Value}
theorem Cx.a (C : Cx p s m meth c Z y bytes ml ret) {pc : Nat} {r : Except ClassFile.DecodeError (ClassFile.Instr × Nat)} (h2 : ClassFile.decode bytes pc = r) : ClassFile.decode c.code pc = r := C.2.2.2.1 ▸ h2
theorem Con.of {rm : Room} {as' : Array Value} {h0 : Heap} (hpn : plainFor y = true) {ls : Array Slot} (hent : ∀ m, entryFrame m as' ml = mkF m 0 ls [])
    (hW : ∀ p e s m below meth c, Cx p s m meth c Z y bytes ml ret → W p l e rm s m as' below meth c n0 (FN s n0 Q rm.cells rm.slots) 0 0 h0 0 ls []) : Con l Z y bytes ml ret rm as' h0 n0 Q := by
  intro ws
  refine MetFree.of_bodySF hpn hisR ?_
  intro p e s m args below meth c s₁ Bd hml0 hP hK
  obtain ⟨rfl, hZ, hh⟩ := hP
  have X0 : Stand p l e rm s m _ below meth c s₁ [] 0 0 := Stand.of_body Bd
  have e0 : s₁.heap = h0 := by rw [← hh, Bd.state]; rfl
  obtain ⟨s₂, o, h1, h2⟩ := hW p e s m below meth c ⟨Bd.exec, hZ, findClass_of_methodNamed Bd.named, Bd.bytes, hml0, Bd.returns, Bd.notSynchronized, (name_of_methodNamed Bd.named Bd.method).1⟩ s₁ [] X0 e0 (Fr.nil n0)
  exact ⟨s₂, o, castTop (hent m) h1, h2⟩
theorem W.lift {pc' : Nat} {ls' : Array Slot} {st' : List Value} (f : ∀ T target, At T m c below → Steps p.tables e below (T.setTop (mkF m pc' ls' st')) target → Steps p.tables e below (T.setTop (mkF m pc ls st)) target) (K : W p l e R s m args below meth c n0 Fe k n h pc' ls' st') : W p l e R s m args below meth c n0 Fe k n h pc ls st := fun T locs X eT N => by
  obtain ⟨s₂, o, h1, h2⟩ := K T locs X eT N
  exact ⟨s₂, o, f T _ X.here h1, h2⟩
theorem W.heap {h' : Heap} (q : h = h') (K : W p l e R s m args below meth c n0 Fe k n h' pc ls st) : W p l e R s m args below meth c n0 Fe k n h pc ls st := q ▸ K
theorem W.room {k' n' : Nat} (hk : k ≤ k') (hn : n ≤ n') (K : W p l e R s m args below meth c n0 Fe k' n' h pc ls st) : W p l e R s m args below meth c n0 Fe k n h pc ls st := fun T locs X eT N => K T locs ⟨X.admits, X.cas, X.clock, X.frames, X.room, X.hears, X.method, X.code, X.here, X.tail, X.warmed, X.limits, X.bytes, X.same.mono hk hn⟩ eT N
theorem W.iaddV (C : Cx p s m meth c Z y bytes ml ret) {u v : Int32} (z : Int32) (d : decode bytes pc = .ok (.iadd, 1)) (hz : (u + v) = z) (K : W p l e R s m args below meth c n0 Fe k n h (pc + 1) ls (.int z :: st)) : W p l e R s m args below meth c n0 Fe k n h pc ls (.int v :: .int u :: st) :=
  W.lift (fun T t H S => XS.iadd H C.1 rfl (C.a d) rfl (by subst hz; exact S)) K
theorem W.iadd (C : Cx p s m meth c Z y bytes ml ret) {u v : Int32} (d : decode bytes pc = .ok (.iadd, 1)) (K : W p l e R s m args below meth c n0 Fe k n h (pc + 1) ls (.int (u + v) :: st)) : W p l e R s m args below meth c n0 Fe k n h pc ls (.int v :: .int u :: st) :=
  W.lift (fun T t H S => XS.iadd H C.1 rfl (C.a d) rfl S) K
theorem W.isubV (C : Cx p s m meth c Z y bytes ml ret) {u v : Int32} (z : Int32) (d : decode bytes pc = .ok (.isub, 1)) (hz : (u - v) = z) (K : W p l e R s m args below meth c n0 Fe k n h (pc + 1) ls (.int z :: st)) : W p l e R s m args below meth c n0 Fe k n h pc ls (.int v :: .int u :: st) :=
  W.lift (fun T t H S => XS.isub H C.1 rfl (C.a d) rfl (by subst hz; exact S)) K
theorem W.isub (C : Cx p s m meth c Z y bytes ml ret) {u v : Int32} (d : decode bytes pc = .ok (.isub, 1)) (K : W p l e R s m args below meth c n0 Fe k n h (pc + 1) ls (.int (u - v) :: st)) : W p l e R s m args below meth c n0 Fe k n h pc ls (.int v :: .int u :: st) :=
  W.lift (fun T t H S => XS.isub H C.1 rfl (C.a d) rfl S) K
theorem W.imulV (C : Cx p s m meth c Z y bytes ml ret) {u v : Int32} (z : Int32) (d : decode bytes pc = .ok (.imul, 1)) (hz : (u * v) = z) (K : W p l e R s m args below meth c n0 Fe k n h (pc + 1) ls (.int z :: st)) : W p l e R s m args below meth c n0 Fe k n h pc ls (.int v :: .int u :: st) :=
  W.lift (fun T t H S => XS.imul H C.1 rfl (C.a d) rfl (by subst hz; exact S)) K
theorem W.imul (C : Cx p s m meth c Z y bytes ml ret) {u v : Int32} (d : decode bytes pc = .ok (.imul, 1)) (K : W p l e R s m args below meth c n0 Fe k n h (pc + 1) ls (.int (u * v) :: st)) : W p l e R s m args below meth c n0 Fe k n h pc ls (.int v :: .int u :: st) :=
  W.lift (fun T t H S => XS.imul H C.1 rfl (C.a d) rfl S) K
theorem W.iandV (C : Cx p s m meth c Z y bytes ml ret) {u v : Int32} (z : Int32) (d : decode bytes pc = .ok (.iand, 1)) (hz : (u &&& v) = z) (K : W p l e R s m args below meth c n0 Fe k n h (pc + 1) ls (.int z :: st)) : W p l e R s m args below meth c n0 Fe k n h pc ls (.int v :: .int u :: st) :=
  W.lift (fun T t H S => XS.iand H C.1 rfl (C.a d) rfl (by subst hz; exact S)) K
theorem W.iand (C : Cx p s m meth c Z y bytes ml ret) {u v : Int32} (d : decode bytes pc = .ok (.iand, 1)) (K : W p l e R s m args below meth c n0 Fe k n h (pc + 1) ls (.int (u &&& v) :: st)) : W p l e R s m args below meth c n0 Fe k n h pc ls (.int v :: .int u :: st) :=
  W.lift (fun T t H S => XS.iand H C.1 rfl (C.a d) rfl S) K
theorem W.iorV (C : Cx p s m meth c Z y bytes ml ret) {u v : Int32} (z : Int32) (d : decode bytes pc = .ok (.ior, 1)) (hz : (u ||| v) = z) (K : W p l e R s m args below meth c n0 Fe k n h (pc + 1) ls (.int z :: st)) : W p l e R s m args below meth c n0 Fe k n h pc ls (.int v :: .int u :: st) :=
  W.lift (fun T t H S => XS.ior H C.1 rfl (C.a d) rfl (by subst hz; exact S)) K
theorem W.ior (C : Cx p s m meth c Z y bytes ml ret) {u v : Int32} (d : decode bytes pc = .ok (.ior, 1)) (K : W p l e R s m args below meth c n0 Fe k n h (pc + 1) ls (.int (u ||| v) :: st)) : W p l e R s m args below meth c n0 Fe k n h pc ls (.int v :: .int u :: st) :=
  W.lift (fun T t H S => XS.ior H C.1 rfl (C.a d) rfl S) K
theorem W.ixorV (C : Cx p s m meth c Z y bytes ml ret) {u v : Int32} (z : Int32) (d : decode bytes pc = .ok (.ixor, 1)) (hz : (u ^^^ v) = z) (K : W p l e R s m args below meth c n0 Fe k n h (pc + 1) ls (.int z :: st)) : W p l e R s m args below meth c n0 Fe k n h pc ls (.int v :: .int u :: st) :=
  W.lift (fun T t H S => XS.ixor H C.1 rfl (C.a d) rfl (by subst hz; exact S)) K
theorem W.ixor (C : Cx p s m meth c Z y bytes ml ret) {u v : Int32} (d : decode bytes pc = .ok (.ixor, 1)) (K : W p l e R s m args below meth c n0 Fe k n h (pc + 1) ls (.int (u ^^^ v) :: st)) : W p l e R s m args below meth c n0 Fe k n h pc ls (.int v :: .int u :: st) :=
  W.lift (fun T t H S => XS.ixor H C.1 rfl (C.a d) rfl S) K
theorem W.ishlV (C : Cx p s m meth c Z y bytes ml ret) {u v : Int32} (z : Int32) (d : decode bytes pc = .ok (.ishl, 1)) (hz : (u <<< (v &&& 31)) = z) (K : W p l e R s m args below meth c n0 Fe k n h (pc + 1) ls (.int z :: st)) : W p l e R s m args below meth c n0 Fe k n h pc ls (.int v :: .int u :: st) :=
  W.lift (fun T t H S => XS.ishl H C.1 rfl (C.a d) rfl (by subst hz; exact S)) K
theorem W.ishl (C : Cx p s m meth c Z y bytes ml ret) {u v : Int32} (d : decode bytes pc = .ok (.ishl, 1)) (K : W p l e R s m args below meth c n0 Fe k n h (pc + 1) ls (.int (u <<< (v &&& 31)) :: st)) : W p l e R s m args below meth c n0 Fe k n h pc ls (.int v :: .int u :: st) :=
  W.lift (fun T t H S => XS.ishl H C.1 rfl (C.a d) rfl S) K
theorem W.ishrV (C : Cx p s m meth c Z y bytes ml ret) {u v : Int32} (z : Int32) (d : decode bytes pc = .ok (.ishr, 1)) (hz : (u >>> (v &&& 31)) = z) (K : W p l e R s m args below meth c n0 Fe k n h (pc + 1) ls (.int z :: st)) : W p l e R s m args below meth c n0 Fe k n h pc ls (.int v :: .int u :: st) :=
  W.lift (fun T t H S => XS.ishr H C.1 rfl (C.a d) rfl (by subst hz; exact S)) K
theorem W.ishr (C : Cx p s m meth c Z y bytes ml ret) {u v : Int32} (d : decode bytes pc = .ok (.ishr, 1)) (K : W p l e R s m args below meth c n0 Fe k n h (pc + 1) ls (.int (u >>> (v &&& 31)) :: st)) : W p l e R s m args below meth c n0 Fe k n h pc ls (.int v :: .int u :: st) :=
  W.lift (fun T t H S => XS.ishr H C.1 rfl (C.a d) rfl S) K
theorem W.iushrV (C : Cx p s m meth c Z y bytes ml ret) {u v : Int32} (z : Int32) (d : decode bytes pc = .ok (.iushr, 1)) (hz : ((u.toUInt32 >>> (v &&& 31).toUInt32).toInt32) = z) (K : W p l e R s m args below meth c n0 Fe k n h (pc + 1) ls (.int z :: st)) : W p l e R s m args below meth c n0 Fe k n h pc ls (.int v :: .int u :: st) :=
  W.lift (fun T t H S => XS.iushr H C.1 rfl (C.a d) rfl (by subst hz; exact S)) K
theorem W.iushr (C : Cx p s m meth c Z y bytes ml ret) {u v : Int32} (d : decode bytes pc = .ok (.iushr, 1)) (K : W p l e R s m args below meth c n0 Fe k n h (pc + 1) ls (.int ((u.toUInt32 >>> (v &&& 31).toUInt32).toInt32) :: st)) : W p l e R s m args below meth c n0 Fe k n h pc ls (.int v :: .int u :: st) :=
  W.lift (fun T t H S => XS.iushr H C.1 rfl (C.a d) rfl S) K
theorem W.laddV (C : Cx p s m meth c Z y bytes ml ret) {u v : Int64} (z : Int64) (d : decode bytes pc = .ok (.ladd, 1)) (hz : (u + v) = z) (K : W p l e R s m args below meth c n0 Fe k n h (pc + 1) ls (.long z :: st)) : W p l e R s m args below meth c n0 Fe k n h pc ls (.long v :: .long u :: st) :=
  W.lift (fun T t H S => XS.ladd H C.1 rfl (C.a d) rfl (by subst hz; exact S)) K
theorem W.ladd (C : Cx p s m meth c Z y bytes ml ret) {u v : Int64} (d : decode bytes pc = .ok (.ladd, 1)) (K : W p l e R s m args below meth c n0 Fe k n h (pc + 1) ls (.long (u + v) :: st)) : W p l e R s m args below meth c n0 Fe k n h pc ls (.long v :: .long u :: st) :=
  W.lift (fun T t H S => XS.ladd H C.1 rfl (C.a d) rfl S) K
theorem W.lsubV (C : Cx p s m meth c Z y bytes ml ret) {u v : Int64} (z : Int64) (d : decode bytes pc = .ok (.lsub, 1)) (hz : (u - v) = z) (K : W p l e R s m args below meth c n0 Fe k n h (pc + 1) ls (.long z :: st)) : W p l e R s m args below meth c n0 Fe k n h pc ls (.long v :: .long u :: st) :=
  W.lift (fun T t H S => XS.lsub H C.1 rfl (C.a d) rfl (by subst hz; exact S)) K
theorem W.lsub (C : Cx p s m meth c Z y bytes ml ret) {u v : Int64} (d : decode bytes pc = .ok (.lsub, 1)) (K : W p l e R s m args below meth c n0 Fe k n h (pc + 1) ls (.long (u - v) :: st)) : W p l e R s m args below meth c n0 Fe k n h pc ls (.long v :: .long u :: st) :=
  W.lift (fun T t H S => XS.lsub H C.1 rfl (C.a d) rfl S) K
theorem W.lmulV (C : Cx p s m meth c Z y bytes ml ret) {u v : Int64} (z : Int64) (d : decode bytes pc = .ok (.lmul, 1)) (hz : (u * v) = z) (K : W p l e R s m args below meth c n0 Fe k n h (pc + 1) ls (.long z :: st)) : W p l e R s m args below meth c n0 Fe k n h pc ls (.long v :: .long u :: st) :=
  W.lift (fun T t H S => XS.lmul H C.1 rfl (C.a d) rfl (by subst hz; exact S)) K
theorem W.lmul (C : Cx p s m meth c Z y bytes ml ret) {u v : Int64} (d : decode bytes pc = .ok (.lmul, 1)) (K : W p l e R s m args below meth c n0 Fe k n h (pc + 1) ls (.long (u * v) :: st)) : W p l e R s m args below meth c n0 Fe k n h pc ls (.long v :: .long u :: st) :=
  W.lift (fun T t H S => XS.lmul H C.1 rfl (C.a d) rfl S) K
theorem W.landV (C : Cx p s m meth c Z y bytes ml ret) {u v : Int64} (z : Int64) (d : decode bytes pc = .ok (.land, 1)) (hz : (u &&& v) = z) (K : W p l e R s m args below meth c n0 Fe k n h (pc + 1) ls (.long z :: st)) : W p l e R s m args below meth c n0 Fe k n h pc ls (.long v :: .long u :: st) :=
  W.lift (fun T t H S => XS.land H C.1 rfl (C.a d) rfl (by subst hz; exact S)) K
theorem W.land (C : Cx p s m meth c Z y bytes ml ret) {u v : Int64} (d : decode bytes pc = .ok (.land, 1)) (K : W p l e R s m args below meth c n0 Fe k n h (pc + 1) ls (.long (u &&& v) :: st)) : W p l e R s m args below meth c n0 Fe k n h pc ls (.long v :: .long u :: st) :=
  W.lift (fun T t H S => XS.land H C.1 rfl (C.a d) rfl S) K
theorem W.lorV (C : Cx p s m meth c Z y bytes ml ret) {u v : Int64} (z : Int64) (d : decode bytes pc = .ok (.lor, 1)) (hz : (u ||| v) = z) (K : W p l e R s m args below meth c n0 Fe k n h (pc + 1) ls (.long z :: st)) : W p l e R s m args below meth c n0 Fe k n h pc ls (.long v :: .long u :: st) :=
  W.lift (fun T t H S => XS.lor H C.1 rfl (C.a d) rfl (by subst hz; exact S)) K
theorem W.lor (C : Cx p s m meth c Z y bytes ml ret) {u v : Int64} (d : decode bytes pc = .ok (.lor, 1)) (K : W p l e R s m args below meth c n0 Fe k n h (pc + 1) ls (.long (u ||| v) :: st)) : W p l e R s m args below meth c n0 Fe k n h pc ls (.long v :: .long u :: st) :=
  W.lift (fun T t H S => XS.lor H C.1 rfl (C.a d) rfl S) K
theorem W.lxorV (C : Cx p s m meth c Z y bytes ml ret) {u v : Int64} (z : Int64) (d : decode bytes pc = .ok (.lxor, 1)) (hz : (u ^^^ v) = z) (K : W p l e R s m args below meth c n0 Fe k n h (pc + 1) ls (.long z :: st)) : W p l e R s m args below meth c n0 Fe k n h pc ls (.long v :: .long u :: st) :=
  W.lift (fun T t H S => XS.lxor H C.1 rfl (C.a d) rfl (by subst hz; exact S)) K
theorem W.lxor (C : Cx p s m meth c Z y bytes ml ret) {u v : Int64} (d : decode bytes pc = .ok (.lxor, 1)) (K : W p l e R s m args below meth c n0 Fe k n h (pc + 1) ls (.long (u ^^^ v) :: st)) : W p l e R s m args below meth c n0 Fe k n h pc ls (.long v :: .long u :: st) :=
  W.lift (fun T t H S => XS.lxor H C.1 rfl (C.a d) rfl S) K
theorem W.lshlV (C : Cx p s m meth c Z y bytes ml ret) {u : Int64} {v : Int32} (z : Int64) (d : decode bytes pc = .ok (.lshl, 1)) (hz : (u <<< (v &&& 0x3f).toInt64) = z) (K : W p l e R s m args below meth c n0 Fe k n h (pc + 1) ls (.long z :: st)) : W p l e R s m args below meth c n0 Fe k n h pc ls (.int v :: .long u :: st) :=
  W.lift (fun T t H S => XS.lshl H C.1 rfl (C.a d) rfl (by subst hz; exact S)) K
theorem W.lshl (C : Cx p s m meth c Z y bytes ml ret) {u : Int64} {v : Int32} (d : decode bytes pc = .ok (.lshl, 1)) (K : W p l e R s m args below meth c n0 Fe k n h (pc + 1) ls (.long (u <<< (v &&& 0x3f).toInt64) :: st)) : W p l e R s m args below meth c n0 Fe k n h pc ls (.int v :: .long u :: st) :=
  W.lift (fun T t H S => XS.lshl H C.1 rfl (C.a d) rfl S) K
theorem W.lshrV (C : Cx p s m meth c Z y bytes ml ret) {u : Int64} {v : Int32} (z : Int64) (d : decode bytes pc = .ok (.lshr, 1)) (hz : (u >>> (v &&& 0x3f).toInt64) = z) (K : W p l e R s m args below meth c n0 Fe k n h (pc + 1) ls (.long z :: st)) : W p l e R s m args below meth c n0 Fe k n h pc ls (.int v :: .long u :: st) :=
  W.lift (fun T t H S => XS.lshr H C.1 rfl (C.a d) rfl (by subst hz; exact S)) K
theorem W.lshr (C : Cx p s m meth c Z y bytes ml ret) {u : Int64} {v : Int32} (d : decode bytes pc = .ok (.lshr, 1)) (K : W p l e R s m args below meth c n0 Fe k n h (pc + 1) ls (.long (u >>> (v &&& 0x3f).toInt64) :: st)) : W p l e R s m args below meth c n0 Fe k n h pc ls (.int v :: .long u :: st) :=
  W.lift (fun T t H S => XS.lshr H C.1 rfl (C.a d) rfl S) K
theorem W.lushrV (C : Cx p s m meth c Z y bytes ml ret) {u : Int64} {v : Int32} (z : Int64) (d : decode bytes pc = .ok (.lushr, 1)) (hz : ((u.toUInt64 >>> (v &&& 0x3f).toInt64.toUInt64).toInt64) = z) (K : W p l e R s m args below meth c n0 Fe k n h (pc + 1) ls (.long z :: st)) : W p l e R s m args below meth c n0 Fe k n h pc ls (.int v :: .long u :: st) :=
  W.lift (fun T t H S => XS.lushr H C.1 rfl (C.a d) rfl (by subst hz; exact S)) K
theorem W.lushr (C : Cx p s m meth c Z y bytes ml ret) {u : Int64} {v : Int32} (d : decode bytes pc = .ok (.lushr, 1)) (K : W p l e R s m args below meth c n0 Fe k n h (pc + 1) ls (.long ((u.toUInt64 >>> (v &&& 0x3f).toInt64.toUInt64).toInt64) :: st)) : W p l e R s m args below meth c n0 Fe k n h pc ls (.int v :: .long u :: st) :=
  W.lift (fun T t H S => XS.lushr H C.1 rfl (C.a d) rfl S) K
theorem W.idivV (C : Cx p s m meth c Z y bytes ml ret) {u v : Int32} (z : Int32) (d : decode bytes pc = .ok (.idiv, 1)) (hy : v ≠ 0) (hz : (u / v) = z) (K : W p l e R s m args below meth c n0 Fe k n h (pc + 1) ls (.int z :: st)) : W p l e R s m args below meth c n0 Fe k n h pc ls (.int v :: .int u :: st) :=
  W.lift (fun T t H S => XS.idiv H C.1 rfl (C.a d) rfl hy (by subst hz; exact S)) K
theorem W.idiv (C : Cx p s m meth c Z y bytes ml ret) {u v : Int32} (d : decode bytes pc = .ok (.idiv, 1)) (hy : v ≠ 0) (K : W p l e R s m args below meth c n0 Fe k n h (pc + 1) ls (.int (u / v) :: st)) : W p l e R s m args below meth c n0 Fe k n h pc ls (.int v :: .int u :: st) :=
  W.lift (fun T t H S => XS.idiv H C.1 rfl (C.a d) rfl hy S) K
theorem W.irem (C : Cx p s m meth c Z y bytes ml ret) {u v : Int32} (d : decode bytes pc = .ok (.irem, 1)) (hy : v ≠ 0) (K : W p l e R s m args below meth c n0 Fe k n h (pc + 1) ls (.int (u % v) :: st)) : W p l e R s m args below meth c n0 Fe k n h pc ls (.int v :: .int u :: st) :=
  W.lift (fun T t H S => XS.irem H C.1 rfl (C.a d) rfl hy (by rw [irem_eq_mod u v]; exact S)) K
theorem W.ldivV (C : Cx p s m meth c Z y bytes ml ret) {u v : Int64} (z : Int64) (d : decode bytes pc = .ok (.ldiv, 1)) (hy : v ≠ 0) (hz : (u / v) = z) (K : W p l e R s m args below meth c n0 Fe k n h (pc + 1) ls (.long z :: st)) : W p l e R s m args below meth c n0 Fe k n h pc ls (.long v :: .long u :: st) :=
  W.lift (fun T t H S => XS.ldiv H C.1 rfl (C.a d) rfl hy (by subst hz; exact S)) K
theorem W.ldiv (C : Cx p s m meth c Z y bytes ml ret) {u v : Int64} (d : decode bytes pc = .ok (.ldiv, 1)) (hy : v ≠ 0) (K : W p l e R s m args below meth c n0 Fe k n h (pc + 1) ls (.long (u / v) :: st)) : W p l e R s m args below meth c n0 Fe k n h pc ls (.long v :: .long u :: st) :=
  W.lift (fun T t H S => XS.ldiv H C.1 rfl (C.a d) rfl hy S) K
theorem W.lrem (C : Cx p s m meth c Z y bytes ml ret) {u v : Int64} (d : decode bytes pc = .ok (.lrem, 1)) (hy : v ≠ 0) (K : W p l e R s m args below meth c n0 Fe k n h (pc + 1) ls (.long (u % v) :: st)) : W p l e R s m args below meth c n0 Fe k n h pc ls (.long v :: .long u :: st) :=
  W.lift (fun T t H S => XS.lrem H C.1 rfl (C.a d) rfl hy (by rw [lrem_mod u v]; exact S)) K
theorem W.inegV (C : Cx p s m meth c Z y bytes ml ret) {u : Int32} (z : Int32) (d : decode bytes pc = .ok (.ineg, 1)) (hz : (-u) = z) (K : W p l e R s m args below meth c n0 Fe k n h (pc + 1) ls (.int z :: st)) : W p l e R s m args below meth c n0 Fe k n h pc ls (.int u :: st) :=
  W.lift (fun T t H S => XS.ineg H C.1 rfl (C.a d) rfl (by subst hz; exact S)) K
theorem W.ineg (C : Cx p s m meth c Z y bytes ml ret) {u : Int32} (d : decode bytes pc = .ok (.ineg, 1)) (K : W p l e R s m args below meth c n0 Fe k n h (pc + 1) ls (.int (-u) :: st)) : W p l e R s m args below meth c n0 Fe k n h pc ls (.int u :: st) :=
  W.lift (fun T t H S => XS.ineg H C.1 rfl (C.a d) rfl S) K
theorem W.i2bV (C : Cx p s m meth c Z y bytes ml ret) {u : Int32} (z : Int32) (d : decode bytes pc = .ok (.i2b, 1)) (hz : (u.toInt8.toInt32) = z) (K : W p l e R s m args below meth c n0 Fe k n h (pc + 1) ls (.int z :: st)) : W p l e R s m args below meth c n0 Fe k n h pc ls (.int u :: st) :=
  W.lift (fun T t H S => XS.i2b H C.1 rfl (C.a d) rfl (by subst hz; exact S)) K
theorem W.i2b (C : Cx p s m meth c Z y bytes ml ret) {u : Int32} (d : decode bytes pc = .ok (.i2b, 1)) (K : W p l e R s m args below meth c n0 Fe k n h (pc + 1) ls (.int (u.toInt8.toInt32) :: st)) : W p l e R s m args below meth c n0 Fe k n h pc ls (.int u :: st) :=
  W.lift (fun T t H S => XS.i2b H C.1 rfl (C.a d) rfl S) K
theorem W.i2cV (C : Cx p s m meth c Z y bytes ml ret) {u : Int32} (z : Int32) (d : decode bytes pc = .ok (.i2c, 1)) (hz : (u.toUInt32.toUInt16.toUInt32.toInt32) = z) (K : W p l e R s m args below meth c n0 Fe k n h (pc + 1) ls (.int z :: st)) : W p l e R s m args below meth c n0 Fe k n h pc ls (.int u :: st) :=
  W.lift (fun T t H S => XS.i2c H C.1 rfl (C.a d) rfl (by subst hz; exact S)) K
theorem W.i2c (C : Cx p s m meth c Z y bytes ml ret) {u : Int32} (d : decode bytes pc = .ok (.i2c, 1)) (K : W p l e R s m args below meth c n0 Fe k n h (pc + 1) ls (.int (u.toUInt32.toUInt16.toUInt32.toInt32) :: st)) : W p l e R s m args below meth c n0 Fe k n h pc ls (.int u :: st) :=
  W.lift (fun T t H S => XS.i2c H C.1 rfl (C.a d) rfl S) K
theorem W.i2sV (C : Cx p s m meth c Z y bytes ml ret) {u : Int32} (z : Int32) (d : decode bytes pc = .ok (.i2s, 1)) (hz : (u.toInt16.toInt32) = z) (K : W p l e R s m args below meth c n0 Fe k n h (pc + 1) ls (.int z :: st)) : W p l e R s m args below meth c n0 Fe k n h pc ls (.int u :: st) :=
  W.lift (fun T t H S => XS.i2s H C.1 rfl (C.a d) rfl (by subst hz; exact S)) K
theorem W.i2s (C : Cx p s m meth c Z y bytes ml ret) {u : Int32} (d : decode bytes pc = .ok (.i2s, 1)) (K : W p l e R s m args below meth c n0 Fe k n h (pc + 1) ls (.int (u.toInt16.toInt32) :: st)) : W p l e R s m args below meth c n0 Fe k n h pc ls (.int u :: st) :=
  W.lift (fun T t H S => XS.i2s H C.1 rfl (C.a d) rfl S) K
theorem W.i2lV (C : Cx p s m meth c Z y bytes ml ret) {u : Int32} (z : Int64) (d : decode bytes pc = .ok (.i2l, 1)) (hz : u.toInt64 = z) (K : W p l e R s m args below meth c n0 Fe k n h (pc + 1) ls (.long z :: st)) : W p l e R s m args below meth c n0 Fe k n h pc ls (.int u :: st) :=
  W.lift (fun T t H S => XS.i2l H C.1 rfl (C.a d) rfl (by subst hz; exact S)) K
theorem W.i2l (C : Cx p s m meth c Z y bytes ml ret) {u : Int32} (d : decode bytes pc = .ok (.i2l, 1)) (K : W p l e R s m args below meth c n0 Fe k n h (pc + 1) ls (.long u.toInt64 :: st)) : W p l e R s m args below meth c n0 Fe k n h pc ls (.int u :: st) :=
  W.lift (fun T t H S => XS.i2l H C.1 rfl (C.a d) rfl S) K
theorem W.l2iV (C : Cx p s m meth c Z y bytes ml ret) {u : Int64} (z : Int32) (d : decode bytes pc = .ok (.l2i, 1)) (hz : u.toInt32 = z) (K : W p l e R s m args below meth c n0 Fe k n h (pc + 1) ls (.int z :: st)) : W p l e R s m args below meth c n0 Fe k n h pc ls (.long u :: st) :=
  W.lift (fun T t H S => XS.l2i H C.1 rfl (C.a d) rfl (by subst hz; exact S)) K
theorem W.l2i (C : Cx p s m meth c Z y bytes ml ret) {u : Int64} (d : decode bytes pc = .ok (.l2i, 1)) (K : W p l e R s m args below meth c n0 Fe k n h (pc + 1) ls (.int u.toInt32 :: st)) : W p l e R s m args below meth c n0 Fe k n h pc ls (.long u :: st) :=
  W.lift (fun T t H S => XS.l2i H C.1 rfl (C.a d) rfl S) K
theorem W.lnegV (C : Cx p s m meth c Z y bytes ml ret) {u : Int64} (z : Int64) (d : decode bytes pc = .ok (.lneg, 1)) (hz : (-u) = z) (K : W p l e R s m args below meth c n0 Fe k n h (pc + 1) ls (.long z :: st)) : W p l e R s m args below meth c n0 Fe k n h pc ls (.long u :: st) :=
  W.lift (fun T t H S => XS.lneg H C.1 rfl (C.a d) rfl (by subst hz; exact S)) K
theorem W.lneg (C : Cx p s m meth c Z y bytes ml ret) {u : Int64} (d : decode bytes pc = .ok (.lneg, 1)) (K : W p l e R s m args below meth c n0 Fe k n h (pc + 1) ls (.long (-u) :: st)) : W p l e R s m args below meth c n0 Fe k n h pc ls (.long u :: st) :=
  W.lift (fun T t H S => XS.lneg H C.1 rfl (C.a d) rfl S) K
theorem W.lcmpV (C : Cx p s m meth c Z y bytes ml ret) {u v : Int64} (z : Int32) (d : decode bytes pc = .ok (.lcmp, 1)) (hz : (lcmpW u v) = z) (K : W p l e R s m args below meth c n0 Fe k n h (pc + 1) ls (.int z :: st)) : W p l e R s m args below meth c n0 Fe k n h pc ls (.long v :: .long u :: st) :=
  W.lift (fun T t H S => XS.lcmp H C.1 rfl (C.a d) rfl (by subst hz; exact S)) K
theorem W.lcmp (C : Cx p s m meth c Z y bytes ml ret) {u v : Int64} (d : decode bytes pc = .ok (.lcmp, 1)) (K : W p l e R s m args below meth c n0 Fe k n h (pc + 1) ls (.int (lcmpW u v) :: st)) : W p l e R s m args below meth c n0 Fe k n h pc ls (.long v :: .long u :: st) :=
  W.lift (fun T t H S => XS.lcmp H C.1 rfl (C.a d) rfl S) K
theorem W.pop (C : Cx p s m meth c Z y bytes ml ret) {u : Value} (d : decode bytes pc = .ok (.pop, 1)) (hc : u.category = 1) (K : W p l e R s m args below meth c n0 Fe k n h (pc + 1) ls (st)) : W p l e R s m args below meth c n0 Fe k n h pc ls (u :: st) :=
  W.lift (fun T t H S => XS.pop H C.1 rfl (C.a d) rfl hc S) K
theorem W.dup (C : Cx p s m meth c Z y bytes ml ret) {u : Value} (d : decode bytes pc = .ok (.dup, 1)) (hc : u.category = 1) (K : W p l e R s m args below meth c n0 Fe k n h (pc + 1) ls (u :: u :: st)) : W p l e R s m args below meth c n0 Fe k n h pc ls (u :: st) :=
  W.lift (fun T t H S => XS.dup H C.1 rfl (C.a d) rfl hc S) K
theorem W.dupX1 (C : Cx p s m meth c Z y bytes ml ret) {u v : Value} (d : decode bytes pc = .ok (.dup_x1, 1)) (hc : u.category = 1) (hc' : v.category = 1) (K : W p l e R s m args below meth c n0 Fe k n h (pc + 1) ls (u :: v :: u :: st)) : W p l e R s m args below meth c n0 Fe k n h pc ls (u :: v :: st) :=
  W.lift (fun T t H S => XT.dupX1 H C.1 rfl (C.a d) rfl hc hc' S) K
theorem W.dup2 (C : Cx p s m meth c Z y bytes ml ret) {u v : Value} (d : decode bytes pc = .ok (.dup2, 1)) (hc : u.category = 1) (hc' : v.category = 1) (K : W p l e R s m args below meth c n0 Fe k n h (pc + 1) ls (u :: v :: u :: v :: st)) : W p l e R s m args below meth c n0 Fe k n h pc ls (u :: v :: st) :=
  W.lift (fun T t H S => XT.dup2 H C.1 rfl (C.a d) rfl hc hc' S) K
theorem W.dup2L (C : Cx p s m meth c Z y bytes ml ret) {u : Int64} (d : decode bytes pc = .ok (.dup2, 1)) (K : W p l e R s m args below meth c n0 Fe k n h (pc + 1) ls (.long u :: .long u :: st)) : W p l e R s m args below meth c n0 Fe k n h pc ls (.long u :: st) :=
  W.lift (fun T t H S => XT.dup2L H C.1 rfl (C.a d) rfl S) K
theorem W.aconstNull (C : Cx p s m meth c Z y bytes ml ret)  (d : decode bytes pc = .ok (.aconst_null, 1)) (K : W p l e R s m args below meth c n0 Fe k n h (pc + 1) ls (.null :: st)) : W p l e R s m args below meth c n0 Fe k n h pc ls (st) :=
  W.lift (fun T t H S => XS.aconstNull H C.1 rfl (C.a d)  S) K
theorem W.iconst (C : Cx p s m meth c Z y bytes ml ret) {i : Int} (v : Int32) (d : decode bytes pc = .ok (.iconst i, 1)) (hv : Int32.ofInt i = v) (K : W p l e R s m args below meth c n0 Fe k n h (pc + 1) ls (.int v :: st)) : W p l e R s m args below meth c n0 Fe k n h pc ls st :=
  W.lift (fun T t H S => XS.iconst H C.1 rfl (C.a d) (by rw [hv]; exact S)) K
theorem W.bipush (C : Cx p s m meth c Z y bytes ml ret) {i : Int} (v : Int32) (d : decode bytes pc = .ok (.bipush i, 2)) (hv : (Int8.ofInt i).toInt32 = v) (K : W p l e R s m args below meth c n0 Fe k n h (pc + 2) ls (.int v :: st)) : W p l e R s m args below meth c n0 Fe k n h pc ls st :=
  W.lift (fun T t H S => XS.bipush H C.1 rfl (C.a d) (by rw [hv]; exact S)) K
theorem W.sipush (C : Cx p s m meth c Z y bytes ml ret) {i : Int} (v : Int32) (d : decode bytes pc = .ok (.sipush i, 3)) (hv : (Int16.ofInt i).toInt32 = v) (K : W p l e R s m args below meth c n0 Fe k n h (pc + 3) ls (.int v :: st)) : W p l e R s m args below meth c n0 Fe k n h pc ls st :=
  W.lift (fun T t H S => XS.sipush H C.1 rfl (C.a d) (by rw [hv]; exact S)) K
theorem W.lconst (C : Cx p s m meth c Z y bytes ml ret) {i : Fin 2} (v : Int64) (d : decode bytes pc = .ok (.lconst i, 1)) (hv : Int64.ofNat i = v) (K : W p l e R s m args below meth c n0 Fe k n h (pc + 1) ls (.long v :: st)) : W p l e R s m args below meth c n0 Fe k n h pc ls st :=
  W.lift (fun T t H S => XS.lconst H C.1 rfl (C.a d) (by rw [hv]; exact S)) K
theorem W.iloadN (C : Cx p s m meth c Z y bytes ml ret) {i : Fin 4} {v : Int32} (d : decode bytes pc = .ok (.iload_n i, 1)) (hl : ls[i.val]? = some (.val (.int v))) (K : W p l e R s m args below meth c n0 Fe k n h (pc + 1) ls (.int v :: st)) : W p l e R s m args below meth c n0 Fe k n h pc ls st :=
  W.lift (fun T t H S => XS.iloadN H C.1 rfl (C.a d) hl S) K
theorem W.iload (C : Cx p s m meth c Z y bytes ml ret) {i : Nat} {v : Int32} (d : decode bytes pc = .ok (.iload i, 2)) (hl : ls[i]? = some (.val (.int v))) (K : W p l e R s m args below meth c n0 Fe k n h (pc + 2) ls (.int v :: st)) : W p l e R s m args below meth c n0 Fe k n h pc ls st :=
  W.lift (fun T t H S => XS.iload H C.1 rfl (C.a d) hl S) K
theorem W.istoreN (C : Cx p s m meth c Z y bytes ml ret) {i : Fin 4} {v : Int32} (l' : Array Slot) (d : decode bytes pc = .ok (.istore_n i, 1)) (hl : storeLocals ls i.val (.int v) = some l') (K : W p l e R s m args below meth c n0 Fe k n h (pc + 1) l' st) : W p l e R s m args below meth c n0 Fe k n h pc ls (.int v :: st) :=
  W.lift (fun T t H S => XS.istoreN H C.1 rfl (C.a d) rfl hl S) K
theorem W.istore (C : Cx p s m meth c Z y bytes ml ret) {i : Nat} {v : Int32} (l' : Array Slot) (d : decode bytes pc = .ok (.istore i, 2)) (hl : storeLocals ls i (.int v) = some l') (K : W p l e R s m args below meth c n0 Fe k n h (pc + 2) l' st) : W p l e R s m args below meth c n0 Fe k n h pc ls (.int v :: st) :=
  W.lift (fun T t H S => XS.istore H C.1 rfl (C.a d) rfl hl S) K
theorem W.lloadN (C : Cx p s m meth c Z y bytes ml ret) {i : Fin 4} {v : Int64} (d : decode bytes pc = .ok (.lload_n i, 1)) (hl : ls[i.val]? = some (.val (.long v))) (K : W p l e R s m args below meth c n0 Fe k n h (pc + 1) ls (.long v :: st)) : W p l e R s m args below meth c n0 Fe k n h pc ls st :=
  W.lift (fun T t H S => XS.lloadN H C.1 rfl (C.a d) hl S) K
theorem W.lload (C : Cx p s m meth c Z y bytes ml ret) {i : Nat} {v : Int64} (d : decode bytes pc = .ok (.lload i, 2)) (hl : ls[i]? = some (.val (.long v))) (K : W p l e R s m args below meth c n0 Fe k n h (pc + 2) ls (.long v :: st)) : W p l e R s m args below meth c n0 Fe k n h pc ls st :=
  W.lift (fun T t H S => XS.lload H C.1 rfl (C.a d) hl S) K
theorem W.lstoreN (C : Cx p s m meth c Z y bytes ml ret) {i : Fin 4} {v : Int64} (l' : Array Slot) (d : decode bytes pc = .ok (.lstore_n i, 1)) (hl : storeLocals ls i.val (.long v) = some l') (K : W p l e R s m args below meth c n0 Fe k n h (pc + 1) l' st) : W p l e R s m args below meth c n0 Fe k n h pc ls (.long v :: st) :=
  W.lift (fun T t H S => XS.lstoreN H C.1 rfl (C.a d) rfl hl S) K
theorem W.lstore (C : Cx p s m meth c Z y bytes ml ret) {i : Nat} {v : Int64} (l' : Array Slot) (d : decode bytes pc = .ok (.lstore i, 2)) (hl : storeLocals ls i (.long v) = some l') (K : W p l e R s m args below meth c n0 Fe k n h (pc + 2) l' st) : W p l e R s m args below meth c n0 Fe k n h pc ls (.long v :: st) :=
  W.lift (fun T t H S => XS.lstore H C.1 rfl (C.a d) rfl hl S) K
theorem W.aloadN (C : Cx p s m meth c Z y bytes ml ret) {i : Fin 4} {v : Value} (d : decode bytes pc = .ok (.aload_n i, 1)) (hl : ls[i.val]? = some (.val v)) (hv : v.isRef = true) (K : W p l e R s m args below meth c n0 Fe k n h (pc + 1) ls (v :: st)) : W p l e R s m args below meth c n0 Fe k n h pc ls st :=
  W.lift (fun T t H S => XS.aloadN H C.1 rfl (C.a d) hl hv S) K
theorem W.aload (C : Cx p s m meth c Z y bytes ml ret) {i : Nat} {v : Value} (d : decode bytes pc = .ok (.aload i, 2)) (hl : ls[i]? = some (.val v)) (hv : v.isRef = true) (K : W p l e R s m args below meth c n0 Fe k n h (pc + 2) ls (v :: st)) : W p l e R s m args below meth c n0 Fe k n h pc ls st :=
  W.lift (fun T t H S => XS.aload H C.1 rfl (C.a d) hl hv S) K
theorem W.astoreN (C : Cx p s m meth c Z y bytes ml ret) {i : Fin 4} {v : Value} (l' : Array Slot) (d : decode bytes pc = .ok (.astore_n i, 1)) (hv : v.isRef = true) (hl : storeLocals ls i.val v = some l') (K : W p l e R s m args below meth c n0 Fe k n h (pc + 1) l' st) : W p l e R s m args below meth c n0 Fe k n h pc ls (v :: st) :=
  W.lift (fun T t H S => XS.astoreN H C.1 rfl (C.a d) rfl hv hl S) K
theorem W.astore (C : Cx p s m meth c Z y bytes ml ret) {i : Nat} {v : Value} (l' : Array Slot) (d : decode bytes pc = .ok (.astore i, 2)) (hv : v.isRef = true) (hl : storeLocals ls i v = some l') (K : W p l e R s m args below meth c n0 Fe k n h (pc + 2) l' st) : W p l e R s m args below meth c n0 Fe k n h pc ls (v :: st) :=
  W.lift (fun T t H S => XS.astore H C.1 rfl (C.a d) rfl hv hl S) K
theorem W.istoreO (C : Cx p s m meth c Z y bytes ml ret) {i : Nat} {v : Int32} {o : Slot} (l' : Array Slot) (d : decode bytes pc = .ok (.istore i, 2)) (hold : ls[i]? = some o) (ho : One o) (hl : ls.setIfInBounds i (.val (.int v)) = l') (K : W p l e R s m args below meth c n0 Fe k n h (pc + 2) l' st) : W p l e R s m args below meth c n0 Fe k n h pc ls (.int v :: st) :=
  W.lift (fun T t H S => XS.istoreS H C.1 rfl (C.a d) rfl hold ho (by rw [hl]; exact S)) K
theorem W.istoreNO (C : Cx p s m meth c Z y bytes ml ret) {i : Fin 4} {v : Int32} {o : Slot} (l' : Array Slot) (d : decode bytes pc = .ok (.istore_n i, 1)) (hold : ls[i.val]? = some o) (ho : One o) (hl : ls.setIfInBounds i.val (.val (.int v)) = l') (K : W p l e R s m args below meth c n0 Fe k n h (pc + 1) l' st) : W p l e R s m args below meth c n0 Fe k n h pc ls (.int v :: st) :=
  W.lift (fun T t H S => XS.istoreNS H C.1 rfl (C.a d) rfl hold ho (by rw [hl]; exact S)) K
theorem W.iinc (C : Cx p s m meth c Z y bytes ml ret) {i : Nat} {cst : Int} {u : Int32} (v : Int32) (l' : Array Slot) (d : decode bytes pc = .ok (.iinc i cst, 3)) (hl : ls[i]? = some (.val (.int u))) (hv : u + Int32.ofInt cst = v) (hl' : storeLocals ls i (.int v) = some l') (K : W p l e R s m args below meth c n0 Fe k n h (pc + 3) l' st) : W p l e R s m args below meth c n0 Fe k n h pc ls st :=
  W.lift (fun T t H S => XS.iinc H C.1 rfl (C.a d) hl (by rw [hv]; exact hl') S) K
theorem jmp {pc pc' : Nat} {o : Int} (hp : (pc : Int) + o = pc') : 0 ≤ (pc : Int) + o ∧ ((pc : Int) + o).toNat = pc' := by omega
theorem W.goto (C : Cx p s m meth c Z y bytes ml ret) {o : Int} (pc' : Nat) (d : decode bytes pc = .ok (.goto o, 3)) (hp : (pc : Int) + o = pc') (K : W p l e R s m args below meth c n0 Fe k n h pc' ls st) : W p l e R s m args below meth c n0 Fe k n h pc ls st :=
  W.lift (fun T t H S => XS.goto H C.1 rfl (pc0 := pc) (pc' := pc') rfl (C.a d) (jmp hp).1 (jmp hp).2 S) K
theorem W.icmp_eq (C : Cx p s m meth c Z y bytes ml ret) {u v : Int32} {o : Int} (pc' : Nat) (d : decode bytes pc = .ok (.if_icmp .eq o, 3)) (hp : (pc : Int) + o = pc') (yes : u = v → W p l e R s m args below meth c n0 Fe k n h pc' ls st) (no : ¬ u = v → W p l e R s m args below meth c n0 Fe k n h (pc + 3) ls st) : W p l e R s m args below meth c n0 Fe k n h pc ls (.int v :: .int u :: st) := by
  by_cases b : u = v
  · exact W.lift (fun T t H S => XS.icmpYes H C.1 rfl (pc0 := pc) (pc' := pc') rfl (C.a d) rfl (XT.ii_eq_t b) (jmp hp).1 (jmp hp).2 S) (yes b)
  · exact W.lift (fun T t H S => XS.icmpNo H C.1 rfl (C.a d) rfl (XT.ii_eq_f b) S) (no b)
theorem W.if_eq (C : Cx p s m meth c Z y bytes ml ret) {u : Int32} {o : Int} (pc' : Nat) (d : decode bytes pc = .ok (.ifCond .eq o, 3)) (hp : (pc : Int) + o = pc') (yes : u = 0 → W p l e R s m args below meth c n0 Fe k n h pc' ls st) (no : ¬ u = 0 → W p l e R s m args below meth c n0 Fe k n h (pc + 3) ls st) : W p l e R s m args below meth c n0 Fe k n h pc ls (.int u :: st) := by
  by_cases b : u = 0
  · exact W.lift (fun T t H S => XS.ifYes H C.1 rfl (pc0 := pc) (pc' := pc') rfl (C.a d) rfl (XT.i0_eq_t b) (jmp hp).1 (jmp hp).2 S) (yes b)
  · exact W.lift (fun T t H S => XS.ifNo H C.1 rfl (C.a d) rfl (XT.i0_eq_f b) S) (no b)
theorem ll_eq_t {u v : Int64} (b : u = v) : ifCond.holds .eq (lcmpW u v) = true := XT.ll_eq_t b
theorem ll_eq_f {u v : Int64} (b : ¬ u = v) : ifCond.holds .eq (lcmpW u v) = false := XT.ll_eq_f b
theorem W.lif_eq (C : Cx p s m meth c Z y bytes ml ret) {u v : Int64} {o : Int} (pc' : Nat) (d : decode bytes pc = .ok (.ifCond .eq o, 3)) (hp : (pc : Int) + o = pc') (yes : u = v → W p l e R s m args below meth c n0 Fe k n h pc' ls st) (no : ¬ u = v → W p l e R s m args below meth c n0 Fe k n h (pc + 3) ls st) : W p l e R s m args below meth c n0 Fe k n h pc ls (.int (lcmpW u v) :: st) := by
  by_cases b : u = v
  · exact W.lift (fun T t H S => XS.ifYes H C.1 rfl (pc0 := pc) (pc' := pc') rfl (C.a d) rfl (ll_eq_t b) (jmp hp).1 (jmp hp).2 S) (yes b)
  · exact W.lift (fun T t H S => XS.ifNo H C.1 rfl (C.a d) rfl (ll_eq_f b) S) (no b)
theorem W.icmp_ne (C : Cx p s m meth c Z y bytes ml ret) {u v : Int32} {o : Int} (pc' : Nat) (d : decode bytes pc = .ok (.if_icmp .ne o, 3)) (hp : (pc : Int) + o = pc') (yes : ¬ u = v → W p l e R s m args below meth c n0 Fe k n h pc' ls st) (no : u = v → W p l e R s m args below meth c n0 Fe k n h (pc + 3) ls st) : W p l e R s m args below meth c n0 Fe k n h pc ls (.int v :: .int u :: st) := by
  by_cases b : u = v
  · exact W.lift (fun T t H S => XS.icmpNo H C.1 rfl (C.a d) rfl (XT.ii_ne_f b) S) (no b)
  · exact W.lift (fun T t H S => XS.icmpYes H C.1 rfl (pc0 := pc) (pc' := pc') rfl (C.a d) rfl (XT.ii_ne_t b) (jmp hp).1 (jmp hp).2 S) (yes b)
theorem W.if_ne (C : Cx p s m meth c Z y bytes ml ret) {u : Int32} {o : Int} (pc' : Nat) (d : decode bytes pc = .ok (.ifCond .ne o, 3)) (hp : (pc : Int) + o = pc') (yes : ¬ u = 0 → W p l e R s m args below meth c n0 Fe k n h pc' ls st) (no : u = 0 → W p l e R s m args below meth c n0 Fe k n h (pc + 3) ls st) : W p l e R s m args below meth c n0 Fe k n h pc ls (.int u :: st) := by
  by_cases b : u = 0
  · exact W.lift (fun T t H S => XS.ifNo H C.1 rfl (C.a d) rfl (XT.i0_ne_f b) S) (no b)
  · exact W.lift (fun T t H S => XS.ifYes H C.1 rfl (pc0 := pc) (pc' := pc') rfl (C.a d) rfl (XT.i0_ne_t b) (jmp hp).1 (jmp hp).2 S) (yes b)
theorem ll_ne_t {u v : Int64} (b : ¬ u = v) : ifCond.holds .ne (lcmpW u v) = true := XT.ll_ne_t b
theorem ll_ne_f {u v : Int64} (b : u = v) : ifCond.holds .ne (lcmpW u v) = false := XT.ll_ne_f b
theorem W.lif_ne (C : Cx p s m meth c Z y bytes ml ret) {u v : Int64} {o : Int} (pc' : Nat) (d : decode bytes pc = .ok (.ifCond .ne o, 3)) (hp : (pc : Int) + o = pc') (yes : ¬ u = v → W p l e R s m args below meth c n0 Fe k n h pc' ls st) (no : u = v → W p l e R s m args below meth c n0 Fe k n h (pc + 3) ls st) : W p l e R s m args below meth c n0 Fe k n h pc ls (.int (lcmpW u v) :: st) := by
  by_cases b : u = v
  · exact W.lift (fun T t H S => XS.ifNo H C.1 rfl (C.a d) rfl (ll_ne_f b) S) (no b)
  · exact W.lift (fun T t H S => XS.ifYes H C.1 rfl (pc0 := pc) (pc' := pc') rfl (C.a d) rfl (ll_ne_t b) (jmp hp).1 (jmp hp).2 S) (yes b)
theorem W.icmp_lt (C : Cx p s m meth c Z y bytes ml ret) {u v : Int32} {o : Int} (pc' : Nat) (d : decode bytes pc = .ok (.if_icmp .lt o, 3)) (hp : (pc : Int) + o = pc') (yes : u < v → W p l e R s m args below meth c n0 Fe k n h pc' ls st) (no : ¬ u < v → W p l e R s m args below meth c n0 Fe k n h (pc + 3) ls st) : W p l e R s m args below meth c n0 Fe k n h pc ls (.int v :: .int u :: st) := by
  by_cases b : u < v
  · exact W.lift (fun T t H S => XS.icmpYes H C.1 rfl (pc0 := pc) (pc' := pc') rfl (C.a d) rfl (XT.ii_lt_t b) (jmp hp).1 (jmp hp).2 S) (yes b)
  · exact W.lift (fun T t H S => XS.icmpNo H C.1 rfl (C.a d) rfl (XT.ii_lt_f b) S) (no b)
theorem W.if_lt (C : Cx p s m meth c Z y bytes ml ret) {u : Int32} {o : Int} (pc' : Nat) (d : decode bytes pc = .ok (.ifCond .lt o, 3)) (hp : (pc : Int) + o = pc') (yes : u < 0 → W p l e R s m args below meth c n0 Fe k n h pc' ls st) (no : ¬ u < 0 → W p l e R s m args below meth c n0 Fe k n h (pc + 3) ls st) : W p l e R s m args below meth c n0 Fe k n h pc ls (.int u :: st) := by
  by_cases b : u < 0
  · exact W.lift (fun T t H S => XS.ifYes H C.1 rfl (pc0 := pc) (pc' := pc') rfl (C.a d) rfl (XT.i0_lt_t b) (jmp hp).1 (jmp hp).2 S) (yes b)
  · exact W.lift (fun T t H S => XS.ifNo H C.1 rfl (C.a d) rfl (XT.i0_lt_f b) S) (no b)
theorem ll_lt_t {u v : Int64} (b : u < v) : ifCond.holds .lt (lcmpW u v) = true := XT.ll_lt_t b
theorem ll_lt_f {u v : Int64} (b : ¬ u < v) : ifCond.holds .lt (lcmpW u v) = false := XT.ll_lt_f b
theorem W.lif_lt (C : Cx p s m meth c Z y bytes ml ret) {u v : Int64} {o : Int} (pc' : Nat) (d : decode bytes pc = .ok (.ifCond .lt o, 3)) (hp : (pc : Int) + o = pc') (yes : u < v → W p l e R s m args below meth c n0 Fe k n h pc' ls st) (no : ¬ u < v → W p l e R s m args below meth c n0 Fe k n h (pc + 3) ls st) : W p l e R s m args below meth c n0 Fe k n h pc ls (.int (lcmpW u v) :: st) := by
  by_cases b : u < v
  · exact W.lift (fun T t H S => XS.ifYes H C.1 rfl (pc0 := pc) (pc' := pc') rfl (C.a d) rfl (ll_lt_t b) (jmp hp).1 (jmp hp).2 S) (yes b)
  · exact W.lift (fun T t H S => XS.ifNo H C.1 rfl (C.a d) rfl (ll_lt_f b) S) (no b)
theorem W.icmp_ge (C : Cx p s m meth c Z y bytes ml ret) {u v : Int32} {o : Int} (pc' : Nat) (d : decode bytes pc = .ok (.if_icmp .ge o, 3)) (hp : (pc : Int) + o = pc') (yes : ¬ u < v → W p l e R s m args below meth c n0 Fe k n h pc' ls st) (no : u < v → W p l e R s m args below meth c n0 Fe k n h (pc + 3) ls st) : W p l e R s m args below meth c n0 Fe k n h pc ls (.int v :: .int u :: st) := by
  by_cases b : u < v
  · exact W.lift (fun T t H S => XS.icmpNo H C.1 rfl (C.a d) rfl (XT.ii_ge_f b) S) (no b)
  · exact W.lift (fun T t H S => XS.icmpYes H C.1 rfl (pc0 := pc) (pc' := pc') rfl (C.a d) rfl (XT.ii_ge_t b) (jmp hp).1 (jmp hp).2 S) (yes b)
theorem W.if_ge (C : Cx p s m meth c Z y bytes ml ret) {u : Int32} {o : Int} (pc' : Nat) (d : decode bytes pc = .ok (.ifCond .ge o, 3)) (hp : (pc : Int) + o = pc') (yes : ¬ u < 0 → W p l e R s m args below meth c n0 Fe k n h pc' ls st) (no : u < 0 → W p l e R s m args below meth c n0 Fe k n h (pc + 3) ls st) : W p l e R s m args below meth c n0 Fe k n h pc ls (.int u :: st) := by
  by_cases b : u < 0
  · exact W.lift (fun T t H S => XS.ifNo H C.1 rfl (C.a d) rfl (XT.i0_ge_f b) S) (no b)
  · exact W.lift (fun T t H S => XS.ifYes H C.1 rfl (pc0 := pc) (pc' := pc') rfl (C.a d) rfl (XT.i0_ge_t b) (jmp hp).1 (jmp hp).2 S) (yes b)
theorem ll_ge_t {u v : Int64} (b : ¬ u < v) : ifCond.holds .ge (lcmpW u v) = true := XT.ll_ge_t b
theorem ll_ge_f {u v : Int64} (b : u < v) : ifCond.holds .ge (lcmpW u v) = false := XT.ll_ge_f b
theorem W.lif_ge (C : Cx p s m meth c Z y bytes ml ret) {u v : Int64} {o : Int} (pc' : Nat) (d : decode bytes pc = .ok (.ifCond .ge o, 3)) (hp : (pc : Int) + o = pc') (yes : ¬ u < v → W p l e R s m args below meth c n0 Fe k n h pc' ls st) (no : u < v → W p l e R s m args below meth c n0 Fe k n h (pc + 3) ls st) : W p l e R s m args below meth c n0 Fe k n h pc ls (.int (lcmpW u v) :: st) := by
  by_cases b : u < v
  · exact W.lift (fun T t H S => XS.ifNo H C.1 rfl (C.a d) rfl (ll_ge_f b) S) (no b)
  · exact W.lift (fun T t H S => XS.ifYes H C.1 rfl (pc0 := pc) (pc' := pc') rfl (C.a d) rfl (ll_ge_t b) (jmp hp).1 (jmp hp).2 S) (yes b)
theorem W.icmp_gt (C : Cx p s m meth c Z y bytes ml ret) {u v : Int32} {o : Int} (pc' : Nat) (d : decode bytes pc = .ok (.if_icmp .gt o, 3)) (hp : (pc : Int) + o = pc') (yes : v < u → W p l e R s m args below meth c n0 Fe k n h pc' ls st) (no : ¬ v < u → W p l e R s m args below meth c n0 Fe k n h (pc + 3) ls st) : W p l e R s m args below meth c n0 Fe k n h pc ls (.int v :: .int u :: st) := by
  by_cases b : v < u
  · exact W.lift (fun T t H S => XS.icmpYes H C.1 rfl (pc0 := pc) (pc' := pc') rfl (C.a d) rfl (XT.ii_gt_t b) (jmp hp).1 (jmp hp).2 S) (yes b)
  · exact W.lift (fun T t H S => XS.icmpNo H C.1 rfl (C.a d) rfl (XT.ii_gt_f b) S) (no b)
theorem W.if_gt (C : Cx p s m meth c Z y bytes ml ret) {u : Int32} {o : Int} (pc' : Nat) (d : decode bytes pc = .ok (.ifCond .gt o, 3)) (hp : (pc : Int) + o = pc') (yes : 0 < u → W p l e R s m args below meth c n0 Fe k n h pc' ls st) (no : ¬ 0 < u → W p l e R s m args below meth c n0 Fe k n h (pc + 3) ls st) : W p l e R s m args below meth c n0 Fe k n h pc ls (.int u :: st) := by
  by_cases b : 0 < u
  · exact W.lift (fun T t H S => XS.ifYes H C.1 rfl (pc0 := pc) (pc' := pc') rfl (C.a d) rfl (XT.i0_gt_t b) (jmp hp).1 (jmp hp).2 S) (yes b)
  · exact W.lift (fun T t H S => XS.ifNo H C.1 rfl (C.a d) rfl (XT.i0_gt_f b) S) (no b)
theorem ll_gt_t {u v : Int64} (b : v < u) : ifCond.holds .gt (lcmpW u v) = true := XT.ll_gt_t b
theorem ll_gt_f {u v : Int64} (b : ¬ v < u) : ifCond.holds .gt (lcmpW u v) = false := XT.ll_gt_f b
theorem W.lif_gt (C : Cx p s m meth c Z y bytes ml ret) {u v : Int64} {o : Int} (pc' : Nat) (d : decode bytes pc = .ok (.ifCond .gt o, 3)) (hp : (pc : Int) + o = pc') (yes : v < u → W p l e R s m args below meth c n0 Fe k n h pc' ls st) (no : ¬ v < u → W p l e R s m args below meth c n0 Fe k n h (pc + 3) ls st) : W p l e R s m args below meth c n0 Fe k n h pc ls (.int (lcmpW u v) :: st) := by
  by_cases b : v < u
  · exact W.lift (fun T t H S => XS.ifYes H C.1 rfl (pc0 := pc) (pc' := pc') rfl (C.a d) rfl (ll_gt_t b) (jmp hp).1 (jmp hp).2 S) (yes b)
  · exact W.lift (fun T t H S => XS.ifNo H C.1 rfl (C.a d) rfl (ll_gt_f b) S) (no b)
theorem W.icmp_le (C : Cx p s m meth c Z y bytes ml ret) {u v : Int32} {o : Int} (pc' : Nat) (d : decode bytes pc = .ok (.if_icmp .le o, 3)) (hp : (pc : Int) + o = pc') (yes : ¬ v < u → W p l e R s m args below meth c n0 Fe k n h pc' ls st) (no : v < u → W p l e R s m args below meth c n0 Fe k n h (pc + 3) ls st) : W p l e R s m args below meth c n0 Fe k n h pc ls (.int v :: .int u :: st) := by
  by_cases b : v < u
  · exact W.lift (fun T t H S => XS.icmpNo H C.1 rfl (C.a d) rfl (XT.ii_le_f b) S) (no b)
  · exact W.lift (fun T t H S => XS.icmpYes H C.1 rfl (pc0 := pc) (pc' := pc') rfl (C.a d) rfl (XT.ii_le_t b) (jmp hp).1 (jmp hp).2 S) (yes b)
theorem W.if_le (C : Cx p s m meth c Z y bytes ml ret) {u : Int32} {o : Int} (pc' : Nat) (d : decode bytes pc = .ok (.ifCond .le o, 3)) (hp : (pc : Int) + o = pc') (yes : ¬ 0 < u → W p l e R s m args below meth c n0 Fe k n h pc' ls st) (no : 0 < u → W p l e R s m args below meth c n0 Fe k n h (pc + 3) ls st) : W p l e R s m args below meth c n0 Fe k n h pc ls (.int u :: st) := by
  by_cases b : 0 < u
  · exact W.lift (fun T t H S => XS.ifNo H C.1 rfl (C.a d) rfl (XT.i0_le_f b) S) (no b)
  · exact W.lift (fun T t H S => XS.ifYes H C.1 rfl (pc0 := pc) (pc' := pc') rfl (C.a d) rfl (XT.i0_le_t b) (jmp hp).1 (jmp hp).2 S) (yes b)
theorem ll_le_t {u v : Int64} (b : ¬ v < u) : ifCond.holds .le (lcmpW u v) = true := XT.ll_le_t b
theorem ll_le_f {u v : Int64} (b : v < u) : ifCond.holds .le (lcmpW u v) = false := XT.ll_le_f b
theorem W.lif_le (C : Cx p s m meth c Z y bytes ml ret) {u v : Int64} {o : Int} (pc' : Nat) (d : decode bytes pc = .ok (.ifCond .le o, 3)) (hp : (pc : Int) + o = pc') (yes : ¬ v < u → W p l e R s m args below meth c n0 Fe k n h pc' ls st) (no : v < u → W p l e R s m args below meth c n0 Fe k n h (pc + 3) ls st) : W p l e R s m args below meth c n0 Fe k n h pc ls (.int (lcmpW u v) :: st) := by
  by_cases b : v < u
  · exact W.lift (fun T t H S => XS.ifNo H C.1 rfl (C.a d) rfl (ll_le_f b) S) (no b)
  · exact W.lift (fun T t H S => XS.ifYes H C.1 rfl (pc0 := pc) (pc' := pc') rfl (C.a d) rfl (ll_le_t b) (jmp hp).1 (jmp hp).2 S) (yes b)
theorem W.ifnullNo (C : Cx p s m meth c Z y bytes ml ret) {b : Addr} {o : Int} (d : decode bytes pc = .ok (.ifnull o, 3)) (K : W p l e R s m args below meth c n0 Fe k n h (pc + 3) ls st) : W p l e R s m args below meth c n0 Fe k n h pc ls (.ref b :: st) :=
  W.lift (fun T t H S => XS.ifnullNo H C.1 rfl (C.a d) rfl S) K
theorem W.ifnullYes (C : Cx p s m meth c Z y bytes ml ret) {o : Int} (pc' : Nat) (d : decode bytes pc = .ok (.ifnull o, 3)) (hp : (pc : Int) + o = pc') (K : W p l e R s m args below meth c n0 Fe k n h pc' ls st) : W p l e R s m args below meth c n0 Fe k n h pc ls (.null :: st) :=
  W.lift (fun T t H S => XS.ifnullYes H C.1 rfl (pc0 := pc) (pc' := pc') rfl (C.a d) rfl (jmp hp).1 (jmp hp).2 S) K
theorem W.ifnonnullYes (C : Cx p s m meth c Z y bytes ml ret) {b : Addr} {o : Int} (pc' : Nat) (d : decode bytes pc = .ok (.ifnonnull o, 3)) (hp : (pc : Int) + o = pc') (K : W p l e R s m args below meth c n0 Fe k n h pc' ls st) : W p l e R s m args below meth c n0 Fe k n h pc ls (.ref b :: st) :=
  W.lift (fun T t H S => XT.ifnonnullYes H C.1 rfl (pc0 := pc) (pc' := pc') rfl (C.a d) rfl (jmp hp).1 (jmp hp).2 S) K
theorem W.ifnonnullNo (C : Cx p s m meth c Z y bytes ml ret) {o : Int} (d : decode bytes pc = .ok (.ifnonnull o, 3)) (K : W p l e R s m args below meth c n0 Fe k n h (pc + 3) ls st) : W p l e R s m args below meth c n0 Fe k n h pc ls (.null :: st) :=
  W.lift (fun T t H S => XT.ifnonnullNo H C.1 rfl (C.a d) rfl S) K
theorem W.acmp_eq (C : Cx p s m meth c Z y bytes ml ret) {u v : Value} {o : Int} (pc' : Nat) (d : decode bytes pc = .ok (.if_acmp .eq o, 3)) (hu : u.isRef = true) (hv : v.isRef = true) (hp : (pc : Int) + o = pc') (yes : u = v → W p l e R s m args below meth c n0 Fe k n h pc' ls st) (no : ¬ u = v → W p l e R s m args below meth c n0 Fe k n h (pc + 3) ls st) : W p l e R s m args below meth c n0 Fe k n h pc ls (v :: u :: st) := by
  by_cases b : u = v
  · exact W.lift (fun T t H S => XT.acmpYes H C.1 rfl (pc0 := pc) (pc' := pc') rfl (C.a d) rfl hu hv (XT.aa_eq_t b) (jmp hp).1 (jmp hp).2 S) (yes b)
  · exact W.lift (fun T t H S => XT.acmpNo H C.1 rfl (C.a d) rfl hu hv (XT.aa_eq_f b) S) (no b)
theorem W.acmp_ne (C : Cx p s m meth c Z y bytes ml ret) {u v : Value} {o : Int} (pc' : Nat) (d : decode bytes pc = .ok (.if_acmp .ne o, 3)) (hu : u.isRef = true) (hv : v.isRef = true) (hp : (pc : Int) + o = pc') (yes : ¬ u = v → W p l e R s m args below meth c n0 Fe k n h pc' ls st) (no : u = v → W p l e R s m args below meth c n0 Fe k n h (pc + 3) ls st) : W p l e R s m args below meth c n0 Fe k n h pc ls (v :: u :: st) := by
  by_cases b : u = v
  · exact W.lift (fun T t H S => XT.acmpNo H C.1 rfl (C.a d) rfl hu hv (XT.aa_ne_f b) S) (no b)
  · exact W.lift (fun T t H S => XT.acmpYes H C.1 rfl (pc0 := pc) (pc' := pc') rfl (C.a d) rfl hu hv (XT.aa_ne_t b) (jmp hp).1 (jmp hp).2 S) (yes b)
theorem W.ldcI (C : Cx p s m meth c Z y bytes ml ret) {i : Nat} {v : Int32} (d : decode bytes pc = .ok (.ldc i, 2)) (w : (Jvm.Cond.constant y.cls i v).before a0 Z = true) (K : W p l e R s m args below meth c n0 Fe k n h (pc + 2) ls (.int v :: st)) : W p l e R s m args below meth c n0 Fe k n h pc ls st := fun T locs X eT N => by
  obtain ⟨s₂, o, h1, h2⟩ := K T locs X eT N
  exact ⟨s₂, o, X.ldcI C.1 C.2.2.1 (mvT C.2.1 w) rfl (C.a d) h1, h2⟩
theorem W.ldcWI (C : Cx p s m meth c Z y bytes ml ret) {i : Nat} {v : Int32} (d : decode bytes pc = .ok (.ldc_w i, 3)) (w : (Jvm.Cond.constant y.cls i v).before a0 Z = true) (K : W p l e R s m args below meth c n0 Fe k n h (pc + 3) ls (.int v :: st)) : W p l e R s m args below meth c n0 Fe k n h pc ls st := fun T locs X eT N => by
  obtain ⟨s₂, o, h1, h2⟩ := K T locs X eT N
  exact ⟨s₂, o, X.ldcWI C.1 C.2.2.1 (mvT C.2.1 w) rfl (C.a d) h1, h2⟩
theorem W.ldc2J (C : Cx p s m meth c Z y bytes ml ret) {i : Nat} {v : Int64} (d : decode bytes pc = .ok (.ldc2_w i, 3)) (w : (Jvm.Cond.constantLong y.cls i v).before a0 Z = true) (K : W p l e R s m args below meth c n0 Fe k n h (pc + 3) ls (.long v :: st)) : W p l e R s m args below meth c n0 Fe k n h pc ls st := fun T locs X eT N => by
  obtain ⟨s₂, o, h1, h2⟩ := K T locs X eT N
  exact ⟨s₂, o, X.ldc2J C.1 C.2.2.1 (mvT C.2.1 w) rfl (C.a d) h1, h2⟩
theorem W.iret {t : FieldType} {z : Int32} (C : Cx p s m meth c Z y bytes ml (some t)) (d : decode bytes pc = .ok (.ireturn, 1)) (ht : t = .int ∨ t = .boolean ∨ t = .byte ∨ t = .char ∨ t = .short) (hn : narrow t (.int z) = .int z) (q : ∀ (t : State) (L : List Loc), t.heap = h → Fr n0 L → FrameEnd s (.returned (some (.int z))) t L k n → Fe (some (.int z)) (.returned (some (.int z))) t L) : W p l e R s m args below meth c n0 Fe k n h pc ls (.int z :: st) := fun T locs X eT N => by
  obtain ⟨fs, hr, hrun, hended, hW, hsame⟩ := X.leave (v := some (.int z)) (fun q => by rw [C.2.2.2.2.2.1] at q; cases q) C.2.2.2.2.2.2.1
  exact ⟨_, _, retOut X C.1 C.2.2.2.2.2.1 hn (Or.inl ⟨rfl, ht, z, rfl⟩) (C.a d) hr, hrun, hended, _, _, rfl, q _ _ (show (T.setFrames fs).heap = h from eT) N ⟨⟨_, rfl⟩, hW, hsame⟩⟩
theorem W.lret {t : FieldType} {z : Int64} (C : Cx p s m meth c Z y bytes ml (some t)) (d : decode bytes pc = .ok (.lreturn, 1)) (ht : t = .long) (hn : narrow t (.long z) = .long z) (q : ∀ (t : State) (L : List Loc), t.heap = h → Fr n0 L → FrameEnd s (.returned (some (.long z))) t L k n → Fe (some (.long z)) (.returned (some (.long z))) t L) : W p l e R s m args below meth c n0 Fe k n h pc ls (.long z :: st) := fun T locs X eT N => by
  obtain ⟨fs, hr, hrun, hended, hW, hsame⟩ := X.leave (v := some (.long z)) (fun q => by rw [C.2.2.2.2.2.1] at q; cases q) C.2.2.2.2.2.2.1
  exact ⟨_, _, retOut X C.1 C.2.2.2.2.2.1 hn (Or.inr (Or.inl ⟨rfl, ht, z, rfl⟩)) (C.a d) hr, hrun, hended, _, _, rfl, q _ _ (show (T.setFrames fs).heap = h from eT) N ⟨⟨_, rfl⟩, hW, hsame⟩⟩
theorem W.aret {t : FieldType} {z : Value} (C : Cx p s m meth c Z y bytes ml (some t)) (d : decode bytes pc = .ok (.areturn, 1)) (ht : t.isReference = true) (hz : z.isRef = true) (hn : narrow t (z) = z) (q : ∀ (t : State) (L : List Loc), t.heap = h → Fr n0 L → FrameEnd s (.returned (some (z))) t L k n → Fe (some (z)) (.returned (some (z))) t L) : W p l e R s m args below meth c n0 Fe k n h pc ls (z :: st) := fun T locs X eT N => by
  obtain ⟨fs, hr, hrun, hended, hW, hsame⟩ := X.leave (v := some (z)) (fun q => by rw [C.2.2.2.2.2.1] at q; cases q) C.2.2.2.2.2.2.1
  exact ⟨_, _, retOut X C.1 C.2.2.2.2.2.1 hn (Or.inr (Or.inr (Or.inr (Or.inr ⟨rfl, ht, hz⟩)))) (C.a d) hr, hrun, hended, _, _, rfl, q _ _ (show (T.setFrames fs).heap = h from eT) N ⟨⟨_, rfl⟩, hW, hsame⟩⟩
theorem W.retV (C : Cx p s m meth c Z y bytes ml none) (d : decode bytes pc = .ok (.return_, 1)) (q : ∀ (t : State) (L : List Loc), t.heap = h → Fr n0 L → FrameEnd s (.returned none) t L k n → Fe none (.returned none) t L) : W p l e R s m args below meth c n0 Fe k n h pc ls [] := fun T locs X eT N => by
  obtain ⟨fs, hr, hrun, hended, hW, hsame⟩ := X.leave (v := none) (fun _ => rfl) C.2.2.2.2.2.2.1
  exact ⟨_, _, X.returnOut C.1 C.2.2.2.2.2.1 (C.a d) hr, hrun, hended, _, _, rfl, q _ _ (show (T.setFrames fs).heap = h from eT) N ⟨⟨_, rfl⟩, hW, hsame⟩⟩
theorem W.callS (C : Cx p s m meth c Z y bytes ml ret) {y' : MethodName} {index : Nat} {bytes' : ByteArray} {ml' : Nat} {ret' : Option FieldType} {rm : Room} {Q' : Option Value → Heap → Prop} (d : decode bytes pc = .ok (.invokestatic index, 3)) (w1 : (Jvm.Cond.methodLink y.cls index y').before a0 Z = true) (w2 : (Jvm.Cond.static y').before a0 Z = true) (w3 : (Jvm.Cond.initialized y'.cls).before a0 Z = true) (w4 : (Jvm.Cond.code y' bytes' ml' ret').before a0 Z = true) (hy : y'.cls ≠ "java/lang/invoke/MethodHandle" ∧ y'.cls ≠ "java/lang/invoke/VarHandle")
    {argsL rest : List Value} (hst : st = argsL.reverse ++ rest) (hlen : ∀ sig, parseMethodDescriptor y'.desc = some sig → argsL.length = sig.parameters.length) (D : Con l Z y' bytes' ml' ret' rm argsL.toArray h n0 Q') (w k' n' : Nat) (hW : (rest.map fun v => v.category).sum = w) (hk : k + rm.cells = k') (hn : n + rm.slots = n') (hf : rm.frames + 1 ≤ R.frames) (hl : w + (ml' + 11) + rm.locals ≤ R.locals) (hc : k' ≤ R.cells) (hs : n' ≤ R.slots) (hsz : ls.size = ml)
    (K : ∀ v h', Q' v h' → W p l e R s m args below meth c n0 Fe k' n' h' (pc + 3) ls (v.toList ++ rest)) : W p l e R s m args below meth c n0 Fe k n h pc ls st := fun T locs X eT N => by
  obtain ⟨_, _, ⟨T1, L1, k1, n1⟩, -, X1, ⟨Lc1, hQ1, l1, y1, z1⟩, st1⟩ := Jvm.LawKit.callS X C.1 (y := y') C.2.2.1 (mvT C.2.1 w1) (mvT C.2.1 w2) (mvT C.2.1 w3) (mvT C.2.1 w4) hy (backOf (W := w) (Q := fun v h' L => Q' v h' ∧ Fr n0 L) (D []) C.2.1 w4 w3 hf hl) (g := mkF m pc ls st) rfl (hsz.trans C.2.2.2.2.1.symm) (argsL := argsL) (rest := rest) hlen hst (by show 2 * 0 + _ ≤ _; omega) (C.a d) (fun _ _ => ⟨rfl, eT, by rw [hk]; exact hc, by rw [hn]; exact hs⟩)
  dsimp only [Pt.U, Pt.locs, Pt.cells, Pt.slots] at X1 l1 y1 z1 st1 hQ1
  subst l1
  rw [hk] at y1
  rw [hn] at z1
  subst y1 z1
  obtain ⟨s₂, o, g1, g2⟩ := K _ _ hQ1.1 T1 _ X1 rfl (Fr.app N hQ1.2)
  exact ⟨s₂, o, st1 _ g1, g2⟩
theorem W.callI (C : Cx p s m meth c Z y bytes ml ret) {y' : MethodName} {index : Nat} {bytes' : ByteArray} {ml' : Nat} {rm : Room} {Q' : Option Value → Heap → Prop} (d : decode bytes pc = .ok (.invokespecial index, 3)) (hi : y'.name = "<init>") (w1 : (Jvm.Cond.methodLink y.cls index y').before a0 Z = true) (w2 : (Jvm.Cond.instanceMethod y').before a0 Z = true) (w3 : (Jvm.Cond.initialized y'.cls).before a0 Z = true) (w4 : (Jvm.Cond.code y' bytes' ml' none).before a0 Z = true) (hy : y'.cls ≠ "java/lang/invoke/MethodHandle" ∧ y'.cls ≠ "java/lang/invoke/VarHandle")
    {a : Addr} {argsL rest : List Value} (hst : st = argsL.reverse ++ .ref a :: rest) (hlen : ∀ sig, parseMethodDescriptor y'.desc = some sig → argsL.length = sig.parameters.length) (D : Con l Z y' bytes' ml' none rm (.ref a :: argsL).toArray h n0 Q') (w k' n' : Nat) (hW : (rest.map fun v => v.category).sum = w) (hk : k + rm.cells = k') (hn : n + rm.slots = n') (hf : rm.frames + 1 ≤ R.frames) (hl : w + (ml' + 11) + rm.locals ≤ R.locals) (hc : k' ≤ R.cells) (hs : n' ≤ R.slots) (hsz : ls.size = ml)
    (K : ∀ v h', Q' v h' → W p l e R s m args below meth c n0 Fe k' n' h' (pc + 3) ls (v.toList ++ rest)) : W p l e R s m args below meth c n0 Fe k n h pc ls st := fun T locs X eT N => by
  obtain ⟨_, _, ⟨T1, L1, k1, n1⟩, -, X1, ⟨Lc1, hQ1, l1, y1, z1⟩, st1⟩ := X.specialBack C.1 (y := y') hi C.2.2.1 (mvT C.2.1 w1) (mvT C.2.1 w2) (mvT C.2.1 w4) hy (backOf (W := w) (Q := fun v h' L => Q' v h' ∧ Fr n0 L) (D []) C.2.1 w4 w3 hf hl) (g := mkF m pc ls st) rfl (hsz.trans C.2.2.2.2.1.symm) (Steps.refl _) (a := a) (argsL := argsL) (rest := rest) hlen hst (by show 2 * 0 + _ ≤ _; omega) (C.a d) (fun _ _ => ⟨rfl, eT, by rw [hk]; exact hc, by rw [hn]; exact hs⟩)
  dsimp only [Pt.U, Pt.locs, Pt.cells, Pt.slots] at X1 l1 y1 z1 st1 hQ1
  subst l1
  rw [hk] at y1
  rw [hn] at z1
  subst y1 z1
  obtain ⟨s₂, o, g1, g2⟩ := K _ _ hQ1.1 T1 _ X1 rfl (Fr.app N hQ1.2)
  exact ⟨s₂, o, st1.trans g1, g2⟩
theorem W.callV (C : Cx p s m meth c Z y bytes ml ret) {y' : MethodName} {K0 : String} {index : Nat} {bytes' : ByteArray} {ml' : Nat} {ret' : Option FieldType} {rm : Room} {Q' : Option Value → Heap → Prop} (d : decode bytes pc = .ok (.invokevirtual index, 3)) (w1 : (Jvm.Cond.methodLink y.cls index y').before a0 Z = true) (w2 : (Jvm.Cond.declares y').before a0 Z = true) (w5 : (Jvm.Cond.selects K0 y' y').before a0 Z = true) (w6 : (Jvm.Cond.instanceMethod y').before a0 Z = true) (w3 : (Jvm.Cond.initialized y'.cls).before a0 Z = true) (w4 : (Jvm.Cond.code y' bytes' ml' ret').before a0 Z = true) (hy : y'.cls ≠ "java/lang/invoke/MethodHandle" ∧ y'.cls ≠ "java/lang/invoke/VarHandle")
    {a : Addr} (E : Exa Z h a K0) {argsL rest : List Value} (hst : st = argsL.reverse ++ .ref a :: rest) (hlen : ∀ sig, parseMethodDescriptor y'.desc = some sig → argsL.length = sig.parameters.length) (D : Con l Z y' bytes' ml' ret' rm (.ref a :: argsL).toArray h n0 Q') (w k' n' : Nat) (hW : (rest.map fun v => v.category).sum = w) (hk : k + rm.cells = k') (hn : n + rm.slots = n') (hf : rm.frames + 1 ≤ R.frames) (hl : w + (ml' + 11) + rm.locals ≤ R.locals) (hc : k' ≤ R.cells) (hs : n' ≤ R.slots) (hsz : ls.size = ml)
    (K : ∀ v h', Q' v h' → W p l e R s m args below meth c n0 Fe k' n' h' (pc + 3) ls (v.toList ++ rest)) : W p l e R s m args below meth c n0 Fe k n h pc ls st := fun T locs X eT N => by
  obtain ⟨cq, kq, qa, qb, qc⟩ := isOf C.2.1 eT E
  obtain ⟨_, _, ⟨T1, L1, k1, n1⟩, -, X1, ⟨Lc1, hQ1, l1, y1, z1⟩, st1⟩ := X.virtualBack C.1 (y := y') (z := y') C.2.2.1 (mvT C.2.1 w1) (mvT C.2.1 w2) (notFace_of_selects (args := #[]) (mvT C.2.1 w5)) (mvT C.2.1 w5) (mvT C.2.1 w6) hy (backOf (W := w) (Q := fun v h' L => Q' v h' ∧ Fr n0 L) (D []) C.2.1 w4 w3 hf hl) qa qc (g := mkF m pc ls st) rfl (hsz.trans C.2.2.2.2.1.symm) (Steps.refl _) (argsL := argsL) (rest := rest) hlen hst (by show 2 * 0 + _ ≤ _; omega) (C.a d) (fun _ _ => ⟨rfl, eT, by rw [hk]; exact hc, by rw [hn]; exact hs⟩)
  dsimp only [Pt.U, Pt.locs, Pt.cells, Pt.slots] at X1 l1 y1 z1 st1 hQ1
  subst l1
  rw [hk] at y1
  rw [hn] at z1
  subst y1 z1
  obtain ⟨s₂, o, g1, g2⟩ := K _ _ hQ1.1 T1 _ X1 rfl (Fr.app N hQ1.2)
  exact ⟨s₂, o, st1.trans g1, g2⟩
theorem W.initO (C : Cx p s m meth c Z y bytes ml ret) {index : Nat} (d : decode bytes pc = .ok (.invokespecial index, 3)) (w1 : (Jvm.Cond.methodLink y.cls index Lib.objectInit).before a0 Z = true) (w2 : (Jvm.Cond.instanceMethod Lib.objectInit).before a0 Z = true) (w3 : (Jvm.Cond.code Lib.objectInit ⟨#[0xb1]⟩ 1 none).before a0 Z = true)
    {a : Addr} (w : Nat) (hW : (st.map fun v => v.category).sum = w) (hf : 1 ≤ R.frames) (hl : w + 12 ≤ R.locals) (hsz : ls.size = ml) (K : W p l e R s m args below meth c n0 Fe k n h (pc + 3) ls st) : W p l e R s m args below meth c n0 Fe k n h pc ls (.ref a :: st) := fun T locs X eT N => by
  obtain ⟨T1, X1, e1, st1⟩ := Jvm.RoadKit.initO X C.1 C.2.1 C.2.2.1 w1 w2 w3 eT (g := mkF m pc ls (.ref a :: st)) rfl (hsz.trans C.2.2.2.2.1.symm) rfl (C.a d) hf (W := w) (by show 2 * 0 + _ ≤ _; omega) hl
  obtain ⟨s₂, o, g1, g2⟩ := K T1 _ X1 e1 N
  exact ⟨s₂, o, st1 _ g1, g2⟩
theorem W.new (C : Cx p s m meth c Z y bytes ml ret) {index sz : Nat} {K0 : String} (d : decode bytes pc = .ok (.new index, 3)) (w1 : (Jvm.Cond.classLink y.cls index K0).before a0 Z = true) (w2 : (Jvm.Cond.instantiable K0 sz).before a0 Z = true) (w3 : (Jvm.Cond.initialized K0).before a0 Z = true) (k' n' : Nat) (hk : k + 1 = k') (hn : n + sz = n') (hc : k' ≤ R.cells) (hs : n' ≤ R.slots)
    (K : ∀ a h', a = h.size → Ext h h' → Exa Z h' a K0 → (∀ {O nm d : String} {ty : FieldType}, Laid Z a0 K0 O nm d → parseFieldDescriptor d = some ty → Fld Z h' a O nm d (defaultValue ty)) → W p l e R s m args below meth c n0 Fe k' n' h' (pc + 3) ls (.ref a :: st)) : W p l e R s m args below meth c n0 Fe k n h pc ls st := fun T locs X eT N => by
  subst hk hn
  obtain ⟨T1, h1, X1, e1, E1, A1, D1, -, st1⟩ := newO X C.1 C.2.1 C.2.2.1 w1 w2 w3 eT (g := mkF m pc ls st) rfl (C.a d) hc hs
  obtain ⟨s₂, o, g1, g2⟩ := K _ h1 rfl E1 A1 D1 T1 _ X1 e1 N
  exact ⟨s₂, o, st1 _ g1, g2⟩
theorem W.getF (C : Cx p s m meth c Z y bytes ml ret) {index : Nat} {R0 O nm dd : String} (d : decode bytes pc = .ok (.getfield index, 3)) (w : (Jvm.Cond.fieldLink y.cls index R0 nm dd).before a0 Z = true) (via : Via Z R0 O nm dd) {a : Addr} {v : Value} (F : Fld Z h a O nm dd v) (K : W p l e R s m args below meth c n0 Fe k n h (pc + 3) ls (v :: st)) : W p l e R s m args below meth c n0 Fe k n h pc ls (.ref a :: st) := fun T locs X eT N => by
  obtain ⟨T1, X1, e1, st1⟩ := Jvm.RoadKit.getF X C.1 C.2.1 C.2.2.1 (host := "") (Or.inl w) via eT F (g := mkF m pc ls (.ref a :: st)) rfl rfl (C.a d)
  obtain ⟨s₂, o, g1, g2⟩ := K T1 _ X1 e1 N
  exact ⟨s₂, o, st1 _ g1, g2⟩
theorem W.getFN (C : Cx p s m meth c Z y bytes ml ret) {index : Nat} {R0 O nm dd host : String} (d : decode bytes pc = .ok (.getfield index, 3)) (w : (Jvm.Cond.fieldLinkNest y.cls index R0 nm dd host).before a0 Z = true) (via : Via Z R0 O nm dd) {a : Addr} {v : Value} (F : Fld Z h a O nm dd v) (K : W p l e R s m args below meth c n0 Fe k n h (pc + 3) ls (v :: st)) : W p l e R s m args below meth c n0 Fe k n h pc ls (.ref a :: st) := fun T locs X eT N => by
  obtain ⟨T1, X1, e1, st1⟩ := Jvm.RoadKit.getF X C.1 C.2.1 C.2.2.1 (host := host) (Or.inr w) via eT F (g := mkF m pc ls (.ref a :: st)) rfl rfl (C.a d)
  obtain ⟨s₂, o, g1, g2⟩ := K T1 _ X1 e1 N
  exact ⟨s₂, o, st1 _ g1, g2⟩
theorem W.getS (C : Cx p s m meth c Z y bytes ml ret) {index : Nat} {R0 O nm dd : String} (d : decode bytes pc = .ok (.getstatic index, 3)) (w : (Jvm.Cond.fieldLink y.cls index R0 nm dd).before a0 Z = true) (via : Via Z R0 O nm dd) {v : Value} (F : Sta Z h O nm dd v) (K : W p l e R s m args below meth c n0 Fe k n h (pc + 3) ls (v :: st)) : W p l e R s m args below meth c n0 Fe k n h pc ls st := fun T locs X eT N => by
  obtain ⟨T1, X1, e1, st1⟩ := Jvm.RoadKit.getS X C.1 C.2.1 (host := "") C.2.2.1 w via eT F (g := mkF m pc ls st) rfl (C.a d)
  obtain ⟨s₂, o, g1, g2⟩ := K T1 _ X1 e1 N
  exact ⟨s₂, o, st1 _ g1, g2⟩
theorem W.putF (C : Cx p s m meth c Z y bytes ml ret) {index kk : Nat} {R0 O nm dd K0 : String} {ty : FieldType} (d : decode bytes pc = .ok (.putfield index, 3)) (w : (Jvm.Cond.fieldLink y.cls index R0 nm dd).before a0 Z = true) (via : Via Z R0 O nm dd) {a : Addr} {v old : Value} (F : Fld Z h a O nm dd old) (E : Exa Z h a K0) (L : (Jvm.Cond.lays K0 O nm dd).before a0 Z = true ∨ ((Jvm.Cond.laysFinal K0 O nm dd).before a0 Z = true ∧ y.cls = O ∧ y.name = "<init>")) (wi : (Jvm.Cond.instantiable K0 kk).before a0 Z = true)
    (hty : parseFieldDescriptor dd = some ty) (hn : narrow ty v = v) (hf : fits ty v = true) (g : n0 ≤ a) (K : ∀ h', Wr h h' a (Jvm.RoadKit.slotOf Z O nm dd) v → W p l e R s m args below meth c n0 Fe k n h' (pc + 3) ls st) : W p l e R s m args below meth c n0 Fe k n h pc ls (v :: .ref a :: st) := fun T locs X eT N => by
  obtain ⟨T1, h1, X1, e1, W1, st1⟩ := Jvm.RoadKit.putF X C.1 C.2.1 C.2.2.1 (host := "") (Or.inl w) via eT F E (L.imp id fun q => ⟨q.1, q.2.1, C.2.2.2.2.2.2.2.trans q.2.2⟩) wi hty hn hf (g := mkF m pc ls (v :: .ref a :: st)) rfl rfl (C.a d)
  obtain ⟨s₂, o, g1, g2⟩ := K h1 W1 T1 _ X1 e1 (Fr.snoc X1 N g)
  exact ⟨s₂, o, st1 _ g1, g2⟩
/-- an array at a of component type ty that holds vs -/
def Al (Z : State) (h : Heap) (a : Addr) (ty : FieldType) (vs : List Value) : Prop := ∃ c : Cell, Arr Z h a c ty ∧ c.slots = vs.toArray
theorem Al.lt {a : Addr} {ty : FieldType} {vs : List Value} (F : Al Z h a ty vs) : a < h.size := by obtain ⟨c, A, -⟩ := F; exact A.lt
theorem Al.ext {a : Addr} {ty : FieldType} {vs : List Value} {h' : Heap} (F : Al Z h a ty vs) (E : Ext h h') : Al Z h' a ty vs := by obtain ⟨c, A, r⟩ := F; exact ⟨c, A.ext E, r⟩
theorem Al.other {a b : Addr} {ty : FieldType} {vs : List Value} {h' : Heap} {sl : Nat} {v : Value} (F : Al Z h b ty vs) (U : Wr h h' a sl v) (q : b ≠ a) : Al Z h' b ty vs := by obtain ⟨c, A, r⟩ := F; exact ⟨c, A.other U q, r⟩
theorem Al.keep {a : Addr} {ty : FieldType} {vs : List Value} {h' : Heap} {ws : List Addr} (F : Al Z h a ty vs) (K : Keep h h' ws) (q : a ∉ ws) : Al Z h' a ty vs := by obtain ⟨c, A, r⟩ := F; exact ⟨c, ⟨K.2.1 a c A.1 q, A.2⟩, r⟩
theorem Al.set {a : Addr} {ty : FieldType} {vs : List Value} {h' : Heap} {i : Nat} {v : Value} (F : Al Z h a ty vs) (U : Wr h h' a i v) : Al Z h' a ty (vs.set i v) := by
  obtain ⟨c, A, r⟩ := F
  refine ⟨_, A.same U, ?_⟩
  simp [Cell.setSlot, r]
theorem idx_of {j : Int32} {i : Nat} (hi : j.toInt = (i : Int)) : ¬ j < 0 ∧ j.toNatClampNeg = i := by
  refine ⟨fun q => ?_, ?_⟩
  · rw [Int32.lt_iff_toInt_lt] at q
    have : (0 : Int32).toInt = 0 := rfl
    omega
  · show j.toInt.toNat = i
    omega
theorem inb_of_idx {j : Int32} {i : Nat} {cl : Cell} {vs : List Value} (hi : j.toInt = (i : Int)) (r : cl.slots = vs.toArray) (hb : i < vs.length) : ¬ (j < 0 ∨ cl.slots.size ≤ j.toNatClampNeg) := by
  obtain ⟨q1, q2⟩ := idx_of hi
  rw [q2, r]
  simp only [List.size_toArray]
  rintro (z | z)
  · exact q1 z
  · omega
theorem W.arrlen (C : Cx p s m meth c Z y bytes ml ret) {a : Addr} {ty : FieldType} {vs : List Value} (z : Int32) (d : decode bytes pc = .ok (.arraylength, 1)) (A : Al Z h a ty vs) (hz : vs.length.toInt32 = z) (K : W p l e R s m args below meth c n0 Fe k n h (pc + 1) ls (.int z :: st)) : W p l e R s m args below meth c n0 Fe k n h pc ls (.ref a :: st) := fun T locs X eT N => by
  obtain ⟨cl, A, r⟩ := A
  obtain ⟨s₂, o, g1, g2⟩ := K T locs X eT N
  refine ⟨s₂, o, X.arraylength C.1 (by rw [eT]; exact A.1) (State.isArrayOf_alike C.2.1.alike A.2.1) (g := mkF m pc ls (.ref a :: st)) rfl rfl (C.a d) _ ?_, g2⟩
  have : cl.slots.size.toInt32 = z := by rw [r]; simpa using hz
  rw [this]; exact g1
theorem W.iaload (C : Cx p s m meth c Z y bytes ml ret) {a : Addr} {vs : List Value} {j : Int32} (i : Nat) {v : Value} (d : decode bytes pc = .ok (.iaload, 1)) (A : Al Z h a .int vs) (hi : j.toInt = (i : Int)) (hv : vs[i]? = some v) (K : W p l e R s m args below meth c n0 Fe k n h (pc + 1) ls (v :: st)) : W p l e R s m args below meth c n0 Fe k n h pc ls (.int j :: .ref a :: st) := fun T locs X eT N => by
  obtain ⟨cl, A, r⟩ := A
  obtain ⟨s₂, o, g1, g2⟩ := K T locs X eT N
  have hb : i < vs.length := (List.getElem?_eq_some_iff.mp hv).1
  exact ⟨s₂, o, X.iaload C.1 (j := j) (v := v) (by rw [eT]; exact A.1) (State.isArrayOf_alike C.2.1.alike A.2.1) A.2.2 (inb_of_idx hi r hb) (by rw [(idx_of hi).2, r]; simpa using hv) (g := mkF m pc ls (.int j :: .ref a :: st)) rfl rfl (C.a d) _ g1, g2⟩
theorem W.laload (C : Cx p s m meth c Z y bytes ml ret) {a : Addr} {vs : List Value} {j : Int32} (i : Nat) {v : Value} (d : decode bytes pc = .ok (.laload, 1)) (A : Al Z h a .long vs) (hi : j.toInt = (i : Int)) (hv : vs[i]? = some v) (K : W p l e R s m args below meth c n0 Fe k n h (pc + 1) ls (v :: st)) : W p l e R s m args below meth c n0 Fe k n h pc ls (.int j :: .ref a :: st) := fun T locs X eT N => by
  obtain ⟨cl, A, r⟩ := A
  obtain ⟨s₂, o, g1, g2⟩ := K T locs X eT N
  have hb : i < vs.length := (List.getElem?_eq_some_iff.mp hv).1
  exact ⟨s₂, o, X.laload C.1 (j := j) (v := v) (by rw [eT]; exact A.1) (State.isArrayOf_alike C.2.1.alike A.2.1) A.2.2 (inb_of_idx hi r hb) (by rw [(idx_of hi).2, r]; simpa using hv) (g := mkF m pc ls (.int j :: .ref a :: st)) rfl rfl (C.a d) _ g1, g2⟩
theorem W.baload (C : Cx p s m meth c Z y bytes ml ret) {a : Addr} {vs : List Value} {j : Int32} (i : Nat) {v : Value} (d : decode bytes pc = .ok (.baload, 1)) (A : Al Z h a .byte vs) (hi : j.toInt = (i : Int)) (hv : vs[i]? = some v) (K : W p l e R s m args below meth c n0 Fe k n h (pc + 1) ls (v :: st)) : W p l e R s m args below meth c n0 Fe k n h pc ls (.int j :: .ref a :: st) := fun T locs X eT N => by
  obtain ⟨cl, A, r⟩ := A
  obtain ⟨s₂, o, g1, g2⟩ := K T locs X eT N
  have hb : i < vs.length := (List.getElem?_eq_some_iff.mp hv).1
  exact ⟨s₂, o, X.baloadBytes C.1 (j := j) (v := v) (by rw [eT]; exact A.1) (State.isArrayOf_alike C.2.1.alike A.2.1) A.2.2 (inb_of_idx hi r hb) (by rw [(idx_of hi).2, r]; simpa using hv) (g := mkF m pc ls (.int j :: .ref a :: st)) rfl rfl (C.a d) _ g1, g2⟩
theorem W.caload (C : Cx p s m meth c Z y bytes ml ret) {a : Addr} {vs : List Value} {j : Int32} (i : Nat) {v : Value} (d : decode bytes pc = .ok (.caload, 1)) (A : Al Z h a .char vs) (hi : j.toInt = (i : Int)) (hv : vs[i]? = some v) (K : W p l e R s m args below meth c n0 Fe k n h (pc + 1) ls (v :: st)) : W p l e R s m args below meth c n0 Fe k n h pc ls (.int j :: .ref a :: st) := fun T locs X eT N => by
  obtain ⟨cl, A, r⟩ := A
  obtain ⟨s₂, o, g1, g2⟩ := K T locs X eT N
  have hb : i < vs.length := (List.getElem?_eq_some_iff.mp hv).1
  exact ⟨s₂, o, X.caload C.1 (j := j) (v := v) (by rw [eT]; exact A.1) (State.isArrayOf_alike C.2.1.alike A.2.1) A.2.2 (inb_of_idx hi r hb) (by rw [(idx_of hi).2, r]; simpa using hv) (g := mkF m pc ls (.int j :: .ref a :: st)) rfl rfl (C.a d) _ g1, g2⟩
theorem W.zaload (C : Cx p s m meth c Z y bytes ml ret) {a : Addr} {vs : List Value} {j : Int32} (i : Nat) {v : Value} (d : decode bytes pc = .ok (.baload, 1)) (A : Al Z h a .boolean vs) (hi : j.toInt = (i : Int)) (hv : vs[i]? = some v) (K : W p l e R s m args below meth c n0 Fe k n h (pc + 1) ls (v :: st)) : W p l e R s m args below meth c n0 Fe k n h pc ls (.int j :: .ref a :: st) := fun T locs X eT N => by
  obtain ⟨cl, A, r⟩ := A
  obtain ⟨s₂, o, g1, g2⟩ := K T locs X eT N
  have hb : i < vs.length := (List.getElem?_eq_some_iff.mp hv).1
  exact ⟨s₂, o, X.baloadBooleans C.1 (j := j) (v := v) (by rw [eT]; exact A.1) (State.isArrayOf_alike C.2.1.alike A.2.1) A.2.2 (inb_of_idx hi r hb) (by rw [(idx_of hi).2, r]; simpa using hv) (g := mkF m pc ls (.int j :: .ref a :: st)) rfl rfl (C.a d) _ g1, g2⟩
theorem W.aaload (C : Cx p s m meth c Z y bytes ml ret) {a : Addr} {ty : FieldType} {vs : List Value} {j : Int32} (i : Nat) {v : Value} (d : decode bytes pc = .ok (.aaload, 1)) (A : Al Z h a ty vs) (hty : ty.isReference = true) (hi : j.toInt = (i : Int)) (hv : vs[i]? = some v) (K : W p l e R s m args below meth c n0 Fe k n h (pc + 1) ls (v :: st)) : W p l e R s m args below meth c n0 Fe k n h pc ls (.int j :: .ref a :: st) := fun T locs X eT N => by
  obtain ⟨cl, A, r⟩ := A
  obtain ⟨s₂, o, g1, g2⟩ := K T locs X eT N
  have hb : i < vs.length := (List.getElem?_eq_some_iff.mp hv).1
  exact ⟨s₂, o, X.aaload C.1 (j := j) (v := v) (by rw [eT]; exact A.1) (State.isArrayOf_alike C.2.1.alike A.2.1) hty A.2.2 (inb_of_idx hi r hb) (by rw [(idx_of hi).2, r]; simpa using hv) (g := mkF m pc ls (.int j :: .ref a :: st)) rfl rfl (C.a d) _ g1, g2⟩
theorem W.iastore (C : Cx p s m meth c Z y bytes ml ret) {a : Addr} {vs : List Value} {j : Int32} {x : Int32} (i : Nat) (d : decode bytes pc = .ok (.iastore, 1)) (A : Al Z h a .int vs) (hi : j.toInt = (i : Int)) (hb : i < vs.length) (g : n0 ≤ a) (K : ∀ h', Wr h h' a i (.int x) → Al Z h' a .int (vs.set i (.int x)) → W p l e R s m args below meth c n0 Fe k n h' (pc + 1) ls st) : W p l e R s m args below meth c n0 Fe k n h pc ls (.int x :: .int j :: .ref a :: st) := fun T locs X eT N => by
  obtain ⟨cl, A, r⟩ := A
  obtain ⟨T1, h1, X1, e1, W1, st1⟩ := stI X C.1 C.2.1 eT A (j := j) (x := x) (inb_of_idx hi r hb) (g := mkF m pc ls (.int x :: .int j :: .ref a :: st)) rfl rfl (C.a d)
  have N1 := Fr.snoc X1 N g
  rw [(idx_of hi).2] at W1
  obtain ⟨s₂, o, g1, g2⟩ := K h1 W1 (Al.set ⟨cl, A, r⟩ W1) T1 _ X1 e1 N1
  exact ⟨s₂, o, st1 _ g1, g2⟩
theorem W.lastore (C : Cx p s m meth c Z y bytes ml ret) {a : Addr} {vs : List Value} {j : Int32} {x : Int64} (i : Nat) (d : decode bytes pc = .ok (.lastore, 1)) (A : Al Z h a .long vs) (hi : j.toInt = (i : Int)) (hb : i < vs.length) (g : n0 ≤ a) (K : ∀ h', Wr h h' a i (.long x) → Al Z h' a .long (vs.set i (.long x)) → W p l e R s m args below meth c n0 Fe k n h' (pc + 1) ls st) : W p l e R s m args below meth c n0 Fe k n h pc ls (.long x :: .int j :: .ref a :: st) := fun T locs X eT N => by
  obtain ⟨cl, A, r⟩ := A
  obtain ⟨T1, h1, X1, e1, W1, st1⟩ := stJ X C.1 C.2.1 eT A (j := j) (x := x) (inb_of_idx hi r hb) (g := mkF m pc ls (.long x :: .int j :: .ref a :: st)) rfl rfl (C.a d)
  have N1 := Fr.snoc X1 N g
  rw [(idx_of hi).2] at W1
  obtain ⟨s₂, o, g1, g2⟩ := K h1 W1 (Al.set ⟨cl, A, r⟩ W1) T1 _ X1 e1 N1
  exact ⟨s₂, o, st1 _ g1, g2⟩
theorem W.bastore (C : Cx p s m meth c Z y bytes ml ret) {a : Addr} {vs : List Value} {j : Int32} {x : Int32} (i : Nat) (d : decode bytes pc = .ok (.bastore, 1)) (A : Al Z h a .byte vs) (hi : j.toInt = (i : Int)) (hb : i < vs.length) (g : n0 ≤ a) (K : ∀ h', Wr h h' a i (.int x.toInt8.toInt32) → Al Z h' a .byte (vs.set i (.int x.toInt8.toInt32)) → W p l e R s m args below meth c n0 Fe k n h' (pc + 1) ls st) : W p l e R s m args below meth c n0 Fe k n h pc ls (.int x :: .int j :: .ref a :: st) := fun T locs X eT N => by
  obtain ⟨cl, A, r⟩ := A
  obtain ⟨T1, h1, X1, e1, W1, st1⟩ := stB X C.1 C.2.1 eT A (j := j) (x := x) (inb_of_idx hi r hb) (g := mkF m pc ls (.int x :: .int j :: .ref a :: st)) rfl rfl (C.a d)
  have N1 := Fr.snoc X1 N g
  rw [(idx_of hi).2] at W1
  obtain ⟨s₂, o, g1, g2⟩ := K h1 W1 (Al.set ⟨cl, A, r⟩ W1) T1 _ X1 e1 N1
  exact ⟨s₂, o, st1 _ g1, g2⟩
theorem W.castore (C : Cx p s m meth c Z y bytes ml ret) {a : Addr} {vs : List Value} {j : Int32} {x : Int32} (i : Nat) (d : decode bytes pc = .ok (.castore, 1)) (A : Al Z h a .char vs) (hi : j.toInt = (i : Int)) (hb : i < vs.length) (g : n0 ≤ a) (K : ∀ h', Wr h h' a i (.int x.toUInt32.toUInt16.toUInt32.toInt32) → Al Z h' a .char (vs.set i (.int x.toUInt32.toUInt16.toUInt32.toInt32)) → W p l e R s m args below meth c n0 Fe k n h' (pc + 1) ls st) : W p l e R s m args below meth c n0 Fe k n h pc ls (.int x :: .int j :: .ref a :: st) := fun T locs X eT N => by
  obtain ⟨cl, A, r⟩ := A
  obtain ⟨T1, h1, X1, e1, W1, st1⟩ := stC X C.1 C.2.1 eT A (j := j) (x := x) (inb_of_idx hi r hb) (g := mkF m pc ls (.int x :: .int j :: .ref a :: st)) rfl rfl (C.a d)
  have N1 := Fr.snoc X1 N g
  rw [(idx_of hi).2] at W1
  obtain ⟨s₂, o, g1, g2⟩ := K h1 W1 (Al.set ⟨cl, A, r⟩ W1) T1 _ X1 e1 N1
  exact ⟨s₂, o, st1 _ g1, g2⟩
theorem W.zastore (C : Cx p s m meth c Z y bytes ml ret) {a : Addr} {vs : List Value} {j : Int32} {x : Int32} (i : Nat) (d : decode bytes pc = .ok (.bastore, 1)) (A : Al Z h a .boolean vs) (hi : j.toInt = (i : Int)) (hb : i < vs.length) (g : n0 ≤ a) (K : ∀ h', Wr h h' a i (.int (x &&& 1)) → Al Z h' a .boolean (vs.set i (.int (x &&& 1))) → W p l e R s m args below meth c n0 Fe k n h' (pc + 1) ls st) : W p l e R s m args below meth c n0 Fe k n h pc ls (.int x :: .int j :: .ref a :: st) := fun T locs X eT N => by
  obtain ⟨cl, A, r⟩ := A
  obtain ⟨T1, h1, X1, e1, W1, st1⟩ := stZ X C.1 C.2.1 eT A (j := j) (x := x) (inb_of_idx hi r hb) (g := mkF m pc ls (.int x :: .int j :: .ref a :: st)) rfl rfl (C.a d)
  have N1 := Fr.snoc X1 N g
  rw [(idx_of hi).2] at W1
  obtain ⟨s₂, o, g1, g2⟩ := K h1 W1 (Al.set ⟨cl, A, r⟩ W1) T1 _ X1 e1 N1
  exact ⟨s₂, o, st1 _ g1, g2⟩
theorem i8_i8 (y : Int32) : y.toInt8.toInt32.toInt8.toInt32 = y.toInt8.toInt32 := by simp
theorem W.bastoreI (C : Cx p s m meth c Z y bytes ml ret) {a : Addr} {vs : List Value} {j : Int32} {x : Int32} (i : Nat) (d : decode bytes pc = .ok (.bastore, 1)) (A : Al Z h a .byte vs) (hi : j.toInt = (i : Int)) (hb : i < vs.length) (g : n0 ≤ a) (K : ∀ h', Wr h h' a i (.int x.toInt8.toInt32) → Al Z h' a .byte (vs.set i (.int x.toInt8.toInt32)) → W p l e R s m args below meth c n0 Fe k n h' (pc + 1) ls st) : W p l e R s m args below meth c n0 Fe k n h pc ls (.int x.toInt8.toInt32 :: .int j :: .ref a :: st) :=
  W.bastore C i d A hi hb g (by rw [i8_i8]; exact K)
theorem W.newP (C : Cx p s m meth c Z y bytes ml ret) {aty : ArrayType} {nn : Int32} (sz cap : Nat) (d : decode bytes pc = .ok (.newarray aty, 2)) (w : (Jvm.Cond.arrayClass (newarray.typeOf aty)).before a0 Z = true) (hn : nn.toInt = (sz : Int)) (hcap : sz ≤ cap) (hb : cap * 8 ≤ 536870912) (k' n' : Nat) (hk : k + 1 = k') (hn' : n + cap = n') (hc : k' ≤ R.cells) (hl : n' ≤ R.slots)
    (K : ∀ a h', a = h.size → Ext h h' → Al Z h' a (newarray.typeOf aty) (List.replicate sz (defaultValue (newarray.typeOf aty))) → W p l e R s m args below meth c n0 Fe k' n' h' (pc + 2) ls (.ref a :: st)) : W p l e R s m args below meth c n0 Fe k n h pc ls (.int nn :: st) := fun T locs X eT N => by
  subst hk hn'
  obtain ⟨T1, h1, cA, X1, e1, E1, A1, st1⟩ := Jvm.RoadKit.newP X C.1 C.2.1 w eT (g := mkF m pc ls (.int nn :: st)) rfl (C.a d) rfl (idx_of hn).1 (cap := cap) (by rw [(idx_of hn).2]; exact hcap) hb hc hl
  obtain ⟨s₂, o, g1, g2⟩ := K _ h1 rfl E1 ⟨_, A1, by simp [newA, (idx_of hn).2]⟩ T1 _ X1 e1 N
  exact ⟨s₂, o, st1 _ g1, g2⟩
theorem dupX2s {tb : Tables} [Ours tb] {T target : State} {g : JFrame} (H : At T m c below) (hx : tb.exec = Jvm.exec) (hg : g.method = m) {u v w : Value} {rest : List Value} (hd : decode c.code g.pc = .ok (.dup_x2, 1)) (hs : g.stack = u :: v :: w :: rest) (hc : u.category = 1) (hc' : v.category = 1) (hc2 : w.category = 1)
    (hr : Steps tb e below (T.setTop { g with pc := g.pc + 1, stack := u :: v :: w :: u :: rest }) target) : Steps tb e below (T.setTop g) target := by
  subst hg
  jvm_step H [H.top, hx, hd, hs, hc, hc', hc2]
  exact hr
theorem W.dupX2 (C : Cx p s m meth c Z y bytes ml ret) {u v w : Value} (d : decode bytes pc = .ok (.dup_x2, 1)) (hc : u.category = 1) (hc' : v.category = 1) (hc2 : w.category = 1) (K : W p l e R s m args below meth c n0 Fe k n h (pc + 1) ls (u :: v :: w :: u :: st)) : W p l e R s m args below meth c n0 Fe k n h pc ls (u :: v :: w :: st) :=
  W.lift (fun T t H S => dupX2s H C.1 rfl (C.a d) rfl hc hc' hc2 S) K
theorem Al.arv {a : Addr} {ty : FieldType} {vs : List Value} {dv : Value} (F : Al Z h a ty vs) (hl : vs.length < 2147483648) (hf : ∀ v ∈ vs, fits ty v = true) : ∃ k, Arv Z h a k ty vs.length.toInt32 vs dv := by
  obtain ⟨c, A, r⟩ := F
  have hs : c.slots.size = vs.length := by rw [r]; simp
  have hz : (vs.length.toInt32).toInt = vs.length := len_toInt hl
  obtain ⟨q1, q2⟩ := idx_of hz
  refine ⟨c.cls, c, A, rfl, by rw [hs, q2], q1, fun i hi => ?_, fun i hi => ?_⟩
  · rw [hs] at hi
    rw [r]; simp [List.getD_eq_getElem?_getD, List.getElem?_eq_getElem hi]
  · rw [hs] at hi
    have : vs.getD i dv = vs[i] := by simp [List.getD_eq_getElem?_getD, List.getElem?_eq_getElem hi]
    rw [this]; exact hf _ (List.getElem_mem hi)
theorem Al.of_arv {a : Addr} {k : ClassId} {ty : FieldType} {z : Int32} {vs : List Value} {dv : Value} (F : Arv Z h a k ty z vs dv) (hl : z.toNatClampNeg = vs.length) : Al Z h a ty vs := by
  obtain ⟨c, A, -, r2, -, H, -⟩ := F
  refine ⟨c, A, ?_⟩
  have hs : c.slots.size = vs.length := r2.trans hl
  apply Array.ext_getElem?
  intro i
  by_cases hi : i < vs.length
  · rw [H i (by rw [hs]; exact hi)]; simp [List.getD_eq_getElem?_getD, List.getElem?_eq_getElem hi]
  · rw [Array.getElem?_eq_none (by rw [hs]; omega)]; simp; omega
theorem cut_map (va : List Value) (dv : Value) (i q : Nat) (h : i + q ≤ va.length) : (List.range q).map (fun t => va.getD (i + t) dv) = (va.drop i).take q := by
  apply List.ext_getElem?
  intro t
  by_cases ht : t < q
  · have h1 : i + t < va.length := by omega
    simp [List.getElem?_take, ht, List.getD_eq_getElem?_getD, List.getElem?_eq_getElem h1]
  · simp [List.getElem?_take, ht]
theorem W.arrcopy (C : Cx p s m meth c Z y bytes ml ret) {index : Nat} {a b : Addr} {ty : FieldType} {va vd : List Value} {sp dp nn : Int32} (i j q : Nat) (d : decode bytes pc = .ok (.invokestatic index, 3)) (w1 : (Jvm.Cond.methodLink y.cls index Jvm.Stand.acN).before a0 Z = true) (w2 : (Jvm.Cond.native Jvm.Stand.acN).before a0 Z = true) (w3 : (Jvm.Cond.static Jvm.Stand.acN).before a0 Z = true) (w4 : (Jvm.Cond.initialized "java/lang/System").before a0 Z = true)
    (A : Al Z h a ty va) (B : Al Z h b ty vd) (hty : refKind ty = false) (hfa : ∀ v ∈ va, fits ty v = true) (hfb : ∀ v ∈ vd, fits ty v = true) (hla : va.length < 2147483648) (hlb : vd.length < 2147483648) (hsp : sp.toInt = (i : Int)) (hdp : dp.toInt = (j : Int)) (hnn : nn.toInt = (q : Int)) (h4 : i + q ≤ va.length) (h5 : j + q ≤ vd.length) (ge : n0 ≤ b)
    (w : Nat) (hW : (st.map fun v => v.category).sum = w) (hf : 1 ≤ R.frames) (hlo : w + (nativeFrameWords "java/lang/System" "arraycopy" 5 + 11) ≤ R.locals) (hsz : ls.size = ml)
    (K : ∀ h', Keep h h' [b] → Al Z h' b ty (vd.take j ++ (va.drop i).take q ++ vd.drop (j + q)) → W p l e R s m args below meth c n0 Fe k n h' (pc + 3) ls st) : W p l e R s m args below meth c n0 Fe k n h pc ls (.int nn :: .int dp :: .ref b :: .int sp :: .ref a :: st) := fun T locs X eT N => by
  obtain ⟨ka, A⟩ := A.arv (dv := .null) hla hfa
  obtain ⟨kb, B⟩ := B.arv (dv := .null) hlb hfb
  obtain ⟨s1, s2⟩ := idx_of hsp
  obtain ⟨d1, d2⟩ := idx_of hdp
  obtain ⟨n1, n2⟩ := idx_of hnn
  have za := (idx_of (len_toInt hla)).2
  have zb := (idx_of (len_toInt hlb)).2
  obtain ⟨T1, h1, L1, X1, e1, N1, K1, B1, st1⟩ := cpA X C.1 C.2.1 C.2.2.1 w1 w2 w3 w4 eT A B (Or.inl ⟨rfl, hty⟩) s1 d1 n1 (by rw [s2, n2, za]; exact h4) (by rw [d2, n2, zb]; exact h5) rfl (by rw [d2, n2]; exact h5) N ge (g := mkF m pc ls (.int nn :: .int dp :: .ref b :: .int sp :: .ref a :: st)) rfl (hsz.trans C.2.2.2.2.1.symm) rfl (C.a d) hf (W := w) (by show 2 * 0 + _ ≤ _; omega) hlo
  rw [s2, d2, n2, cut_map va .null i q h4] at B1
  have B2 : Al Z h1 b ty (vd.take j ++ (va.drop i).take q ++ vd.drop (j + q)) := Al.of_arv B1 (by rw [zb]; simp; omega)
  obtain ⟨s₂, o, g1, g2⟩ := K h1 K1 B2 T1 _ X1 e1 N1
  exact ⟨s₂, o, st1 _ g1, g2⟩
theorem W.clone (C : Cx p s m meth c Z y bytes ml ret) {index : Nat} {ad : String} {a : Addr} {ty : FieldType} {vs : List Value} (cap : Nat) (d : decode bytes pc = .ok (.invokevirtual index, 3)) (w1 : (Jvm.Cond.methodLink y.cls index ⟨ad, "clone", "()Ljava/lang/Object;"⟩).before a0 Z = true) (w2 : (Jvm.Cond.sameMethod ad "java/lang/Object" "clone" "()Ljava/lang/Object;").before a0 Z = true) (w3 : (Jvm.Cond.native ⟨"java/lang/Object", "clone", "()Ljava/lang/Object;"⟩).before a0 Z = true)
    (w4 : (Jvm.Cond.instanceMethod ⟨"java/lang/Object", "clone", "()Ljava/lang/Object;"⟩).before a0 Z = true) (w5 : (Jvm.Cond.selects ad ⟨ad, "clone", "()Ljava/lang/Object;"⟩ ⟨"java/lang/Object", "clone", "()Ljava/lang/Object;"⟩).before a0 Z = true) (w6 : (Jvm.Cond.castable ad "java/lang/Cloneable").before a0 Z = true)
    (A : Al Z h a ty vs) (E : Exa Z h a ad) (hfa : ∀ v ∈ vs, fits ty v = true) (hla : vs.length < 2147483648) (w k' n' : Nat) (hW : (st.map fun v => v.category).sum = w) (hf : 1 ≤ R.frames) (hlo : w + 14 ≤ R.locals) (hcap : vs.length ≤ cap) (hk : k + 1 = k') (hn : n + cap = n') (hc : k' ≤ R.cells) (hs : n' ≤ R.slots) (hsz : ls.size = ml)
    (K : ∀ a' h', a' = h.size → Ext h h' → Al Z h' a' ty vs → Exa Z h' a' ad → W p l e R s m args below meth c n0 Fe k' n' h' (pc + 3) ls (.ref a' :: st)) : W p l e R s m args below meth c n0 Fe k n h pc ls (.ref a :: st) := fun T locs X eT N => by
  subst hk hn
  obtain ⟨ka, A⟩ := A.arv (dv := .null) hla hfa
  have za := (idx_of (len_toInt hla)).2
  obtain ⟨T1, h1, X1, e1, E1, B1, G1, st1⟩ := cloneH X C.1 C.2.1 C.2.2.1 w1 w2 w3 w4 w5 w6 eT A.arh E (g := mkF m pc ls (.ref a :: st)) rfl (hsz.trans C.2.2.2.2.1.symm) rfl (C.a d) hf (W := w) (cap := cap) (by show 2 * 0 + _ ≤ _; omega) hlo (by rw [za]; exact hcap) hc hs
  obtain ⟨s₂, o, g1, g2⟩ := K _ h1 rfl E1 (Al.of_arv (show Arv Z h1 h.size ka ty vs.length.toInt32 vs .null from B1) za) G1 T1 _ X1 e1 N
  exact ⟨s₂, o, st1 _ g1, g2⟩
theorem W.cast (C : Cx p s m meth c Z y bytes ml ret) {index : Nat} {K0 : String} {a : Addr} (d : decode bytes pc = .ok (.checkcast index, 3)) (w1 : (Jvm.Cond.classLink y.cls index K0).before a0 Z = true) (I : Ins Z h a K0 true) (K : W p l e R s m args below meth c n0 Fe k n h (pc + 3) ls (.ref a :: st)) : W p l e R s m args below meth c n0 Fe k n h pc ls (.ref a :: st) := fun T locs X eT N => by
  obtain ⟨T1, X1, e1, st1⟩ := castY X C.1 C.2.1 C.2.2.1 w1 eT I (g := mkF m pc ls (.ref a :: st)) rfl rfl (C.a d)
  obtain ⟨s₂, o, g1, g2⟩ := K T1 _ X1 e1 N
  exact ⟨s₂, o, st1 _ g1, g2⟩
/-- an array of references, of the class k0 -/
def Alr (Z : State) (h : Heap) (a : Addr) (k0 : ClassId) (ty : FieldType) (vs : List Value) : Prop := ∃ c : Cell, Arr Z h a c ty ∧ c.cls = k0 ∧ c.slots = vs.toArray
theorem Alr.al {a : Addr} {k0 : ClassId} {ty : FieldType} {vs : List Value} (F : Alr Z h a k0 ty vs) : Al Z h a ty vs := by obtain ⟨c, A, -, r⟩ := F; exact ⟨c, A, r⟩
theorem Alr.lt {a : Addr} {k0 : ClassId} {ty : FieldType} {vs : List Value} (F : Alr Z h a k0 ty vs) : a < h.size := F.al.lt
theorem Alr.ext {a : Addr} {k0 : ClassId} {ty : FieldType} {vs : List Value} {h' : Heap} (F : Alr Z h a k0 ty vs) (E : Ext h h') : Alr Z h' a k0 ty vs := by obtain ⟨c, A, r⟩ := F; exact ⟨c, A.ext E, r⟩
theorem Alr.other {a b : Addr} {k0 : ClassId} {ty : FieldType} {vs : List Value} {h' : Heap} {sl : Nat} {v : Value} (F : Alr Z h b k0 ty vs) (U : Wr h h' a sl v) (q : b ≠ a) : Alr Z h' b k0 ty vs := by obtain ⟨c, A, r⟩ := F; exact ⟨c, A.other U q, r⟩
theorem Alr.keep {a : Addr} {k0 : ClassId} {ty : FieldType} {vs : List Value} {h' : Heap} {ws : List Addr} (F : Alr Z h a k0 ty vs) (K : Keep h h' ws) (q : a ∉ ws) : Alr Z h' a k0 ty vs := by obtain ⟨c, A, r⟩ := F; exact ⟨c, ⟨K.2.1 a c A.1 q, A.2⟩, r⟩
theorem W.newRA (C : Cx p s m meth c Z y bytes ml ret) {index : Nat} {ty : FieldType} {K0 ad : String} {nn : Int32} (sz cap : Nat) (d : decode bytes pc = .ok (.anewarray index, 3)) (hC : (FieldType.array ty).toString = K0) (w1 : (Jvm.Cond.classLink y.cls index K0).before a0 Z = true) (w2 : (Jvm.Cond.arrayOver (.array ty)).before a0 Z = true) (had : "[" ++ K0 = ad) (hn : nn.toInt = (sz : Int)) (hcap : sz ≤ cap) (hb : cap * 8 ≤ 536870912) (k' n' : Nat) (hk : k + 1 = k') (hn' : n + cap = n') (hc : k' ≤ R.cells) (hl : n' ≤ R.slots)
    (K : ∀ a h' k0, a = h.size → Ext h h' → Alr Z h' a k0 (.array ty) (List.replicate sz .null) → OvrA Z k0 ty K0 → Exa Z h' a ad → W p l e R s m args below meth c n0 Fe k' n' h' (pc + 3) ls (.ref a :: st)) : W p l e R s m args below meth c n0 Fe k n h pc ls (.int nn :: st) := fun T locs X eT N => by
  subst hk hn'
  obtain ⟨T1, h1, cA, X1, e1, E1, A1, G1, O1, st1⟩ := Jvm.RoadKit.newRA X C.1 C.2.1 C.2.2.1 hC w1 w2 eT (g := mkF m pc ls (.int nn :: st)) rfl (C.a d) rfl (idx_of hn).1 (cap := cap) (by rw [(idx_of hn).2]; exact hcap) hb hc hl had
  obtain ⟨s₂, o, g1, g2⟩ := K _ h1 cA rfl E1 ⟨_, A1, rfl, by simp [newA, (idx_of hn).2, defaultValue]⟩ O1 G1 T1 _ X1 e1 N
  exact ⟨s₂, o, st1 _ g1, g2⟩
theorem W.newPE (C : Cx p s m meth c Z y bytes ml ret) {aty : ArrayType} {nn : Int32} {ad : String} (sz cap : Nat) (d : decode bytes pc = .ok (.newarray aty, 2)) (w : (Jvm.Cond.arrayClass (newarray.typeOf aty)).before a0 Z = true) (had : "[" ++ (newarray.typeOf aty).toString = ad) (hn : nn.toInt = (sz : Int)) (hcap : sz ≤ cap) (hb : cap * 8 ≤ 536870912) (k' n' : Nat) (hk : k + 1 = k') (hn' : n + cap = n') (hc : k' ≤ R.cells) (hl : n' ≤ R.slots)
    (K : ∀ a h', a = h.size → Ext h h' → Al Z h' a (newarray.typeOf aty) (List.replicate sz (defaultValue (newarray.typeOf aty))) → Exa Z h' a ad → W p l e R s m args below meth c n0 Fe k' n' h' (pc + 2) ls (.ref a :: st)) : W p l e R s m args below meth c n0 Fe k n h pc ls (.int nn :: st) := fun T locs X eT N => by
  subst hk hn'
  obtain ⟨T1, h1, cA, X1, e1, E1, A1, G1, st1⟩ := Jvm.RoadKit.newPE X C.1 C.2.1 w eT (g := mkF m pc ls (.int nn :: st)) rfl (C.a d) rfl (idx_of hn).1 (cap := cap) (by rw [(idx_of hn).2]; exact hcap) hb hc hl had
  obtain ⟨s₂, o, g1, g2⟩ := K _ h1 rfl E1 ⟨_, A1, by simp [newA, (idx_of hn).2]⟩ G1 T1 _ X1 e1 N
  exact ⟨s₂, o, st1 _ g1, g2⟩
theorem W.aastoreA (C : Cx p s m meth c Z y bytes ml ret) {a b : Addr} {k0 : ClassId} {ty : FieldType} {K0 : String} {vs : List Value} {j : Int32} (i : Nat) (d : decode bytes pc = .ok (.aastore, 1)) (A : Alr Z h a k0 (.array ty) vs) (O : OvrA Z k0 ty K0) (I : Ins Z h b K0 true) (hi : j.toInt = (i : Int)) (hb : i < vs.length) (g : n0 ≤ a) (K : ∀ h', Wr h h' a i (.ref b) → Alr Z h' a k0 (.array ty) (vs.set i (.ref b)) → W p l e R s m args below meth c n0 Fe k n h' (pc + 1) ls st) : W p l e R s m args below meth c n0 Fe k n h pc ls (.ref b :: .int j :: .ref a :: st) := fun T locs X eT N => by
  obtain ⟨cl, A, q0, r⟩ := A
  obtain ⟨T1, h1, X1, e1, W1, st1⟩ := stR X C.1 C.2.1 eT A (j := j) (inb_of_idx hi r hb) rfl (Sto.ofVA A q0 O I) (g := mkF m pc ls (.ref b :: .int j :: .ref a :: st)) rfl rfl (C.a d)
  have N1 := Fr.snoc X1 N g
  rw [(idx_of hi).2] at W1
  obtain ⟨s₂, o, g1, g2⟩ := K h1 W1 ⟨_, A.same W1, q0, by simp [Cell.setSlot, r]⟩ T1 _ X1 e1 N1
  exact ⟨s₂, o, st1 _ g1, g2⟩
theorem ConW.of {rm : Room} {as' : Array Value} {h0 : Heap} (hpn : plainFor y = true) {ls : Array Slot} (hent : ∀ m, entryFrame m as' ml = mkF m 0 ls [])
    (hW : ∀ p e s m below meth c, Cx p (s.setVm s.vm) m meth c Z y bytes ml ret → Pv s.vm → Sn s s.vm h0 → W p l e rm (s.setVm s.vm) m as' below meth c n0 (FW s n0 Qw rm.cells rm.slots) 0 0 h0 0 ls []) : ConW l Z y bytes ml ret rm as' h0 n0 Pv Qw := by
  intro ws
  refine MetFree.of_bodySF hpn hisR ?_
  intro p e s m args below meth c s₁ Bd hml0 hP hK
  obtain ⟨rfl, hZ, hh, hpv⟩ := hP
  have X0 : Stand p l e rm (s.setVm s.vm) m _ below meth c s₁ [] 0 0 := Stand.of_body Bd
  have e0 : s₁.heap = h0 := by rw [← hh, Bd.state]; rfl
  obtain ⟨s₂, o, h1, h2⟩ := hW p e s m below meth c ⟨Bd.exec, hZ, findClass_of_methodNamed Bd.named, Bd.bytes, hml0, Bd.returns, Bd.notSynchronized, (name_of_methodNamed Bd.named Bd.method).1⟩ hpv ⟨0, (State.WarmedH.refl s).since 0, Nat.zero_le _⟩ s₁ [] X0 e0 (Fr.nil n0)
  exact ⟨s₂, o, castTop (hent m) h1, h2⟩
theorem backW {y' : MethodName} {bytes' : ByteArray} {ml' : Nat} {ret' : Option FieldType} {rm : Room} {len w : Nat} {as' : Array Value} (D : ConW l Z y' bytes' ml' ret' rm as' h n0 Pv Qw)
    (hZ : Z.Warmed39 s.vm) (wc : (Jvm.Cond.code y' bytes' ml' ret').before a0 Z = true) (wz : (Jvm.Cond.initialized y'.cls).before a0 Z = true) (hf : rm.frames + 1 ≤ R.frames) (hl : w + (ml' + 11) + rm.locals ≤ R.locals) :
    BackS l R p e below s args y' len w (fun A a => (a = as' ∧ A.U.heap = h ∧ Pv A.U.vm) ∧ A.cells + rm.cells ≤ R.cells ∧ A.slots + rm.slots ≤ R.slots)
      (fun A _ v B => ∃ L, (Qw v B.U.heap B.U.vm ∧ Fr n0 L) ∧ B.locs = A.locs ++ L ∧ B.cells = A.cells + rm.cells ∧ B.slots = A.slots + rm.slots) := by
  refine BackS.of_freeW (bytes := bytes') (maxL := ml') (ret := ret') (E := fun _ _ o t L k n => (k = rm.cells ∧ n = rm.slots) ∧ ∃ v, o = .returned v ∧ Qw v t.heap t.vm ∧ Fr n0 L) (D []) hf hl ?_ ?_ ?_ ?_ ?_
  · intro m meth c A a Y hp
    have hU : Z.Warmed39 A.U.vm := wtrans hZ Y.warmed
    have hc := mv (args := a) hU wc
    refine ⟨?_, hc, mv hU wz, hp.2.1, hp.2.2⟩
    show (Jvm.Cond.and _ .tt).before a A.U = true
    rw [Cond.before_and, hc]; rfl
  · intro m meth c A a g mk Y hp
    exact ⟨hp.1.1, wtrans hZ Y.warmed, hp.1.2.1, hp.1.2.2⟩
  · intros; trivial
  · intro a first o t q
    obtain ⟨v, L, h1, h2, h3⟩ := q
    exact ⟨L, _, _, h3, ⟨rfl, rfl⟩, v, h1, h2⟩
  · intro m meth c A a g mk v t L k n Y hp _ _ q
    obtain ⟨⟨e1, e2⟩, v', e3, e4⟩ := q
    cases e3; subst e1 e2
    exact ⟨L, e4, rfl, rfl, rfl⟩
theorem Cx.w {vm1 : Vm} (C : Cx p (s.setVm vm0) m meth c Z y bytes ml ret) (h1 : Z.Warmed39 vm1) (h2 : vm1.findClass y.cls = some m.cls) : Cx p (s.setVm vm1) m meth c Z y bytes ml ret := ⟨C.1, h1, h2, C.2.2.2⟩
theorem W.callSW (C : Cx p (s.setVm vm0) m meth c Z y bytes ml ret) (S : Sn s vm0 h) {y' : MethodName} {index : Nat} {bytes' : ByteArray} {ml' : Nat} {ret' : Option FieldType} {rm : Room} (d : decode bytes pc = .ok (.invokestatic index, 3)) (w1 : (Jvm.Cond.methodLink y.cls index y').before a0 Z = true) (w2 : (Jvm.Cond.static y').before a0 Z = true) (w3 : (Jvm.Cond.initialized y'.cls).before a0 Z = true) (w4 : (Jvm.Cond.code y' bytes' ml' ret').before a0 Z = true) (hy : y'.cls ≠ "java/lang/invoke/MethodHandle" ∧ y'.cls ≠ "java/lang/invoke/VarHandle")
    {argsL rest : List Value} (hst : st = argsL.reverse ++ rest) (hlen : ∀ sig, parseMethodDescriptor y'.desc = some sig → argsL.length = sig.parameters.length) (D : ConW l Z y' bytes' ml' ret' rm argsL.toArray h n0 Pv Qw) (hpv : ∀ vm', (s.setVm vm0).WarmedH vm' → Pv vm') (w k' n' : Nat) (hW : (rest.map fun v => v.category).sum = w) (hk : k + rm.cells = k') (hn : n + rm.slots = n') (hf : rm.frames + 1 ≤ R.frames) (hl : w + (ml' + 11) + rm.locals ≤ R.locals) (hc : k' ≤ R.cells) (hs : n' ≤ R.slots) (hsz : ls.size = ml)
    (K : ∀ v h' vm1, Qw v h' vm1 → h.size ≤ h'.size → Cx p (s.setVm vm1) m meth c Z y bytes ml ret → Sn s vm1 h' → W p l e R (s.setVm vm1) m args below meth c n0 Fe k' n' h' (pc + 3) ls (v.toList ++ rest)) : W p l e R (s.setVm vm0) m args below meth c n0 Fe k n h pc ls st := fun T locs X eT N => by
  obtain ⟨v1, vm₁, ⟨T1, L1, k1, n1⟩, -, X1, hS1, hg1, ⟨Lc1, hQ1, l1, y1, z1⟩, st1⟩ := Jvm.RoadKit.callSS X C.1 (y := y') C.2.2.1 (mvT C.2.1 w1) (mvT C.2.1 w2) (mvT C.2.1 w3) (mvT C.2.1 w4) hy (backW (w := w) D C.2.1 w4 w3 hf hl) (g := mkF m pc ls st) rfl (hsz.trans C.2.2.2.2.1.symm) (argsL := argsL) (rest := rest) hlen hst (by show 2 * 0 + _ ≤ _; omega) (C.a d) (fun vm₁ hw₁ => ⟨⟨rfl, eT, hpv vm₁ hw₁⟩, by rw [hk]; exact hc, by rw [hn]; exact hs⟩)
  dsimp only [Pt.U, Pt.locs, Pt.cells, Pt.slots] at X1 hS1 hg1 l1 y1 z1 st1 hQ1
  subst l1
  rw [hk] at y1
  rw [hn] at z1
  subst y1 z1
  obtain ⟨k0, S, b0⟩ := S
  have hg2 : h.size ≤ T1.heap.size := by rw [← eT]; exact hg1
  obtain ⟨X2, S2, hZ2, ho2⟩ := rebS S b0 X1 hS1 hg2 C.2.1 C.2.2.1
  obtain ⟨s₂, o, g1, g2⟩ := K _ _ _ hQ1.1 hg2 (C.w hZ2 ho2) ⟨_, S2, Nat.le_refl _⟩ T1 _ X2 rfl (Fr.app N hQ1.2)
  exact ⟨s₂, o, st1.trans g1, g2⟩
theorem W.callIW (C : Cx p (s.setVm vm0) m meth c Z y bytes ml ret) (S : Sn s vm0 h) {y' : MethodName} {index : Nat} {bytes' : ByteArray} {ml' : Nat} {rm : Room} (d : decode bytes pc = .ok (.invokespecial index, 3)) (hi : y'.name = "<init>") (w1 : (Jvm.Cond.methodLink y.cls index y').before a0 Z = true) (w2 : (Jvm.Cond.instanceMethod y').before a0 Z = true) (w3 : (Jvm.Cond.initialized y'.cls).before a0 Z = true) (w4 : (Jvm.Cond.code y' bytes' ml' none).before a0 Z = true) (hy : y'.cls ≠ "java/lang/invoke/MethodHandle" ∧ y'.cls ≠ "java/lang/invoke/VarHandle")
    {a : Addr} {argsL rest : List Value} (hst : st = argsL.reverse ++ .ref a :: rest) (hlen : ∀ sig, parseMethodDescriptor y'.desc = some sig → argsL.length = sig.parameters.length) (D : ConW l Z y' bytes' ml' none rm (.ref a :: argsL).toArray h n0 Pv Qw) (hpv : ∀ vm', (s.setVm vm0).WarmedH vm' → Pv vm') (w k' n' : Nat) (hW : (rest.map fun v => v.category).sum = w) (hk : k + rm.cells = k') (hn : n + rm.slots = n') (hf : rm.frames + 1 ≤ R.frames) (hl : w + (ml' + 11) + rm.locals ≤ R.locals) (hc : k' ≤ R.cells) (hs : n' ≤ R.slots) (hsz : ls.size = ml)
    (K : ∀ v h' vm1, Qw v h' vm1 → h.size ≤ h'.size → Cx p (s.setVm vm1) m meth c Z y bytes ml ret → Sn s vm1 h' → W p l e R (s.setVm vm1) m args below meth c n0 Fe k' n' h' (pc + 3) ls (v.toList ++ rest)) : W p l e R (s.setVm vm0) m args below meth c n0 Fe k n h pc ls st := fun T locs X eT N => by
  obtain ⟨v1, vm₁, ⟨T1, L1, k1, n1⟩, -, X1, hS1, hg1, ⟨Lc1, hQ1, l1, y1, z1⟩, st1⟩ := X.specialBackS C.1 (y := y') hi C.2.2.1 (mvT C.2.1 w1) (mvT C.2.1 w2) (mvT C.2.1 w4) hy (backW (w := w) D C.2.1 w4 w3 hf hl) (g := mkF m pc ls st) rfl (hsz.trans C.2.2.2.2.1.symm) (Steps.refl _) (a := a) (argsL := argsL) (rest := rest) hlen hst (by show 2 * 0 + _ ≤ _; omega) (C.a d) (fun vm₁ hw₁ => ⟨⟨rfl, eT, hpv vm₁ hw₁⟩, by rw [hk]; exact hc, by rw [hn]; exact hs⟩)
  dsimp only [Pt.U, Pt.locs, Pt.cells, Pt.slots] at X1 hS1 hg1 l1 y1 z1 st1 hQ1
  subst l1
  rw [hk] at y1
  rw [hn] at z1
  subst y1 z1
  obtain ⟨k0, S, b0⟩ := S
  have hg2 : h.size ≤ T1.heap.size := by rw [← eT]; exact hg1
  obtain ⟨X2, S2, hZ2, ho2⟩ := rebS S b0 X1 hS1 hg2 C.2.1 C.2.2.1
  obtain ⟨s₂, o, g1, g2⟩ := K _ _ _ hQ1.1 hg2 (C.w hZ2 ho2) ⟨_, S2, Nat.le_refl _⟩ T1 _ X2 rfl (Fr.app N hQ1.2)
  exact ⟨s₂, o, st1.trans g1, g2⟩
theorem W.ldcV (C : Cx p (s.setVm vm0) m meth c Z y bytes ml ret) (S : Sn s vm0 h) {index : Nat} {EL : List (String × Nat)} (d : decode bytes pc = .ok (.ldc index, 2)) (w : (Jvm.Cond.stringLink y.cls index "").before a0 Z = true) (wS : ∀ a ∈ Bundle.stringAtoms, a.before a0 Z = true) (hEL : EW Z a0 EL) (hmem : (y.cls, index) ∈ EL) (H : CHv Z EL vm0 h) (k' n' : Nat) (hk : k + 2 = k') (hn : n + 4 = n') (hc : k' ≤ R.cells) (hs : n' ≤ R.slots)
    (K : ∀ a h' vm1 b, Ext h h' → Exa Z h' a "java/lang/String" → Fld Z h' a "java/lang/String" "coder" "B" (.int 0) → Fld Z h' a "java/lang/String" "value" "[B" (.ref b) → Al Z h' b .byte [] → CHr Z EL vm0 h vm1 h' → (∀ x, Safe Z EL vm1 h' x → x ≠ a ∧ x ≠ b) → Cx p (s.setVm vm1) m meth c Z y bytes ml ret → Sn s vm1 h' → W p l e R (s.setVm vm1) m args below meth c n0 Fe k' n' h' (pc + 2) ls (.ref a :: st)) : W p l e R (s.setVm vm0) m args below meth c n0 Fe k n h pc ls st := fun T locs X eT N => by
  subst hk hn
  obtain ⟨k0, S, b0⟩ := S
  obtain ⟨a, T', h', k1, b, kc1, X', e', E', S', b1, hZ', ho', r1, r2, r3, r4, r5, r6, r7, r8, r9, st'⟩ := ldcCH X C.1 C.2.1 C.2.2.1 w wS eT S b0 hEL hmem H (vs := []) (z := 0) ⟨by intro c hc; simp at hc, rfl⟩ (by decide) rfl (g := mkF m pc ls st) rfl (C.a d) (n := 0) (by simp) (by decide) hc hs
  obtain ⟨s₂, o, g1, g2⟩ := K a h' T'.vm b E' r1 r2 r3 (Al.of_arv r4 rfl) r7 r9 (C.w hZ' ho') ⟨k1, S', b1⟩ T' _ X' e' N
  exact ⟨s₂, o, st' _ g1, g2⟩
theorem W.ldcO (C : Cx p (s.setVm vm0) m meth c Z y bytes ml ret) (S : Sn s vm0 h) {index : Nat} {text : String} {EL : List (String × Nat)} (cap : Nat) (d : decode bytes pc = .ok (.ldc index, 2)) (w : (Jvm.Cond.stringLink y.cls index text).before a0 Z = true) (wS : ∀ a ∈ Bundle.stringAtoms, a.before a0 Z = true) (hEL : EW Z a0 EL) (H : CHv Z EL vm0 h) (hcap : 4 * text.toList.length ≤ cap) (hbig : cap ≤ 536870912) (k' n' : Nat) (hk : k + 2 = k') (hn : n + (cap + 4) = n') (hc : k' ≤ R.cells) (hs : n' ≤ R.slots)
    (K : ∀ a h' vm1, Ext h h' → CHr Z EL vm0 h vm1 h' → Cx p (s.setVm vm1) m meth c Z y bytes ml ret → Sn s vm1 h' → W p l e R (s.setVm vm1) m args below meth c n0 Fe k' n' h' (pc + 2) ls (.ref a :: st)) : W p l e R (s.setVm vm0) m args below meth c n0 Fe k n h pc ls st := fun T locs X eT N => by
  subst hk hn
  obtain ⟨k0, S, b0⟩ := S
  obtain ⟨a, T', h', k1, X', e', E', S', b1, hZ', ho', r1, r2, st'⟩ := ldcOH X C.1 C.2.1 C.2.2.1 w wS eT S b0 hEL H (g := mkF m pc ls st) rfl (C.a d) (n := cap) hcap hbig hc hs
  obtain ⟨s₂, o, g1, g2⟩ := K a h' T'.vm E' r1 (C.w hZ' ho') ⟨k1, S', b1⟩ T' _ X' e' N
  exact ⟨s₂, o, st' _ g1, g2⟩
end
theorem tkw {ts : List Jvm.Cond} {a0 : Array Value} {Z : State} (hw : ∀ d ∈ ts, d.before a0 Z = true) (i : Nat) {d : Jvm.Cond} (q : ts[i]? = some d) : d.before a0 Z = true := hw d (List.mem_of_getElem? q)
end Jvm.OwnKit
namespace Jvm.Pilot.@@N@@
open Jvm Jvm.ClassFile Sem Op Lib Jvm.Free Jvm.Stand Jvm.LawKit Jvm.RoadKit Bundle Jvm.OwnKit Jvm.Pilot.@@N@@.Jvm.D
abbrev own_EL : List (String × Nat) := [("java/lang/String", 7)]
theorem own_ew {Z : State} {a0 : Array Value} (hw : ∀ d ∈ tables_1, d.before a0 Z = true) : EW Z a0 own_EL := (EW.cons (tkw hw 70 rfl) (by first | (intro c hc; simp at hc; done) | decide | decide +kernel) EW.nil)
theorem own_sa {Z : State} {a0 : Array Value} (hw : ∀ d ∈ tables_1, d.before a0 Z = true) : ∀ a ∈ Bundle.stringAtoms, a.before a0 Z = true := by
  intro a ha
  simp only [Bundle.stringAtoms, Bundle.sN, List.mem_cons, List.not_mem_nil, or_false] at ha
  rcases ha with rfl | rfl | rfl | rfl | rfl | rfl | rfl
  · exact tkw hw 6 rfl
  · exact tkw hw 5 rfl
  · exact tkw hw 23 rfl
  · exact tkw hw 33 rfl
  · exact tkw hw 31 rfl
  · exact tkw hw 71 rfl
  · exact tkw hw 72 rfl
abbrev y6 : MethodName := ⟨"java/lang/StringUTF16", "compress", "([CI[BII)I"⟩
theorem d6_0 : decode jdk_52_method_21_code 0 = .ok (.iconst 0, 1) := by decide +kernel
theorem d6_1 : decode jdk_52_method_21_code 1 = .ok (.istore 5, 2) := by decide +kernel
theorem d6_3 : decode jdk_52_method_21_code 3 = .ok (.iload 5, 2) := by decide +kernel
theorem d6_5 : decode jdk_52_method_21_code 5 = .ok (.iload 4, 2) := by decide +kernel
theorem d6_7 : decode jdk_52_method_21_code 7 = .ok (.if_icmp .ge 37, 3) := by decide +kernel
theorem d6_10 : decode jdk_52_method_21_code 10 = .ok (.aload_n 0, 1) := by decide +kernel
theorem d6_11 : decode jdk_52_method_21_code 11 = .ok (.iload_n 1, 1) := by decide +kernel
theorem d6_12 : decode jdk_52_method_21_code 12 = .ok (.caload, 1) := by decide +kernel
theorem d6_13 : decode jdk_52_method_21_code 13 = .ok (.istore 6, 2) := by decide +kernel
theorem d6_15 : decode jdk_52_method_21_code 15 = .ok (.iload 6, 2) := by decide +kernel
theorem d6_17 : decode jdk_52_method_21_code 17 = .ok (.sipush 255, 3) := by decide +kernel
theorem d6_20 : decode jdk_52_method_21_code 20 = .ok (.if_icmp .le 6, 3) := by decide +kernel
theorem d6_23 : decode jdk_52_method_21_code 23 = .ok (.iload 5, 2) := by decide +kernel
theorem d6_25 : decode jdk_52_method_21_code 25 = .ok (.ireturn, 1) := by decide +kernel
theorem d6_26 : decode jdk_52_method_21_code 26 = .ok (.aload_n 2, 1) := by decide +kernel
theorem d6_27 : decode jdk_52_method_21_code 27 = .ok (.iload_n 3, 1) := by decide +kernel
theorem d6_28 : decode jdk_52_method_21_code 28 = .ok (.iload 6, 2) := by decide +kernel
theorem d6_30 : decode jdk_52_method_21_code 30 = .ok (.i2b, 1) := by decide +kernel
theorem d6_31 : decode jdk_52_method_21_code 31 = .ok (.bastore, 1) := by decide +kernel
theorem d6_32 : decode jdk_52_method_21_code 32 = .ok (.iinc 1 1, 3) := by decide +kernel
theorem d6_35 : decode jdk_52_method_21_code 35 = .ok (.iinc 3 1, 3) := by decide +kernel
theorem d6_38 : decode jdk_52_method_21_code 38 = .ok (.iinc 5 1, 3) := by decide +kernel
theorem d6_41 : decode jdk_52_method_21_code 41 = .ok (.goto (-38), 3) := by decide +kernel
theorem d6_44 : decode jdk_52_method_21_code 44 = .ok (.iload 4, 2) := by decide +kernel
theorem d6_46 : decode jdk_52_method_21_code 46 = .ok (.ireturn, 1) := by decide +kernel
theorem pf_6 : plainFor y6 = true := by first | exact plainFor_of_name (by first | (simp [plainName, overriddenIn]; done) | decide +kernel) | decide +kernel
theorem ef_c4_1 (m : MethodId) (b1 : Addr) (d1 : Addr) : entryFrame m #[(.ref b1), (.int (0 : Int32)), (.ref d1), (.int (0 : Int32)), (.int (1 : Int32))] 7 = mkF m 0 #[.val (.ref b1), .val (.int (0 : Int32)), .val (.ref d1), .val (.int (0 : Int32)), .val (.int (1 : Int32)), .unset, .unset] [] := by first | (simp [entryFrame, mkF, argsToLocals, Value.category]; done) | rfl
set_option maxRecDepth 65536 in
set_option maxHeartbeats 40000000 in
theorem con_c4_1 (l : Launch) (Z : State) (a0 : Array Value) (hw : ∀ d ∈ tables_1, d.before a0 Z = true) (h0 : Heap) (n0 : Nat) (b1 : Addr) (d1 : Addr) (c0 : Int32) (hc0 : ¬ (255 : Int32) < c0) (ne_b1_d1 : b1 ≠ d1) (g_d1 : n0 ≤ d1) (Ls : Al Z h0 b1 .char [(.int c0)]) (Ld : Al Z h0 d1 .byte [(.int (0 : Int32))]) (Z0 : n0 ≤ h0.size) : Con l Z y6 jdk_52_method_21_code 7 (some .int) ({ frames := 0, cells := 0, slots := 0, locals := 0 } : Room) #[(.ref b1), (.int (0 : Int32)), (.ref d1), (.int (0 : Int32)), (.int (1 : Int32))] h0 n0 (fun v h => v = some (.int 1) ∧ Keep h0 h [d1] ∧ Al Z h d1 .byte [(.int ((c0).toInt8.toInt32))]) := by
  refine Con.of pf_6 (fun m => ef_c4_1 m b1 d1) ?_
  intro p e s m below meth c C
  have K0 : Keep h0 h0 [d1] := Keep.refl _ _
  refine W.iconst C (0 : Int32) d6_0 rfl ?_
  refine W.istore C #[.val (.ref b1), .val (.int (0 : Int32)), .val (.ref d1), .val (.int (0 : Int32)), .val (.int (1 : Int32)), .val (.int (0 : Int32)), .unset] d6_1 rfl ?_
  refine W.iload C d6_3 rfl ?_
  refine W.iload C d6_5 rfl ?_
  refine W.icmp_ge C 44 d6_7 rfl (fun b => absurd b (by decide)) (fun _ => ?_)
  refine W.aloadN C d6_10 rfl rfl ?_
  refine W.iloadN C d6_11 rfl ?_
  refine W.caload C 0 d6_12 Ls rfl rfl ?_
  refine W.istore C #[.val (.ref b1), .val (.int (0 : Int32)), .val (.ref d1), .val (.int (0 : Int32)), .val (.int (1 : Int32)), .val (.int (0 : Int32)), .val (.int c0)] d6_13 rfl ?_
  refine W.iload C d6_15 rfl ?_
  refine W.sipush C (255 : Int32) d6_17 rfl ?_
  refine W.icmp_le C 26 d6_20 rfl (fun bq1 => ?_) (fun bq1 => absurd bq1 hc0)
  refine W.aloadN C d6_26 rfl rfl ?_
  refine W.iloadN C d6_27 rfl ?_
  refine W.iload C d6_28 rfl ?_
  refine W.i2b C d6_30 ?_
  refine W.bastoreI C 0 d6_31 Ld rfl (show (0 : Nat) < 1 by decide) g_d1 ?_
  intro hp1 U2 Ld_
  replace Ls := Ls.other U2 ne_b1_d1
  replace Z0 := Nat.le_trans Z0 (Nat.le_of_eq (U2.size).symm)
  replace K0 := K0.wr U2 (Or.inl (List.mem_of_getElem? (i := 0) rfl))
  replace Ld : Al Z hp1 d1 .byte [(.int ((c0).toInt8.toInt32))] := Ld_
  refine W.iinc C (1 : Int32) #[.val (.ref b1), .val (.int (1 : Int32)), .val (.ref d1), .val (.int (0 : Int32)), .val (.int (1 : Int32)), .val (.int (0 : Int32)), .val (.int c0)] d6_32 rfl rfl rfl ?_
  refine W.iinc C (1 : Int32) #[.val (.ref b1), .val (.int (1 : Int32)), .val (.ref d1), .val (.int (1 : Int32)), .val (.int (1 : Int32)), .val (.int (0 : Int32)), .val (.int c0)] d6_35 rfl rfl rfl ?_
  refine W.iinc C (1 : Int32) #[.val (.ref b1), .val (.int (1 : Int32)), .val (.ref d1), .val (.int (1 : Int32)), .val (.int (1 : Int32)), .val (.int (1 : Int32)), .val (.int c0)] d6_38 rfl rfl rfl ?_
  refine W.goto C 3 d6_41 rfl ?_
  refine W.iload C d6_3 rfl ?_
  refine W.iload C d6_5 rfl ?_
  refine W.icmp_ge C 44 d6_7 rfl (fun _ => ?_) (fun b => absurd b (by decide))
  refine W.iload C d6_44 rfl ?_
  exact W.iret C d6_46 (by simp) rfl (FN.ok (by decide) (by decide) ⟨rfl, K0, Ld⟩)

abbrev y5 : MethodName := ⟨"java/lang/StringUTF16", "compress", "([CII)[B"⟩
theorem d5_0 : decode jdk_52_method_16_code 0 = .ok (.iload_n 2, 1) := by decide +kernel
theorem d5_1 : decode jdk_52_method_16_code 1 = .ok (.newarray .byte, 2) := by decide +kernel
theorem d5_3 : decode jdk_52_method_16_code 3 = .ok (.astore_n 3, 1) := by decide +kernel
theorem d5_4 : decode jdk_52_method_16_code 4 = .ok (.aload_n 0, 1) := by decide +kernel
theorem d5_5 : decode jdk_52_method_16_code 5 = .ok (.iload_n 1, 1) := by decide +kernel
theorem d5_6 : decode jdk_52_method_16_code 6 = .ok (.aload_n 3, 1) := by decide +kernel
theorem d5_7 : decode jdk_52_method_16_code 7 = .ok (.iconst 0, 1) := by decide +kernel
theorem d5_8 : decode jdk_52_method_16_code 8 = .ok (.iload_n 2, 1) := by decide +kernel
theorem d5_9 : decode jdk_52_method_16_code 9 = .ok (.invokestatic 115, 3) := by decide +kernel
theorem d5_12 : decode jdk_52_method_16_code 12 = .ok (.istore 4, 2) := by decide +kernel
theorem d5_14 : decode jdk_52_method_16_code 14 = .ok (.iload 4, 2) := by decide +kernel
theorem d5_16 : decode jdk_52_method_16_code 16 = .ok (.iload_n 2, 1) := by decide +kernel
theorem d5_17 : decode jdk_52_method_16_code 17 = .ok (.if_icmp .eq 40, 3) := by decide +kernel
theorem d5_20 : decode jdk_52_method_16_code 20 = .ok (.aload_n 0, 1) := by decide +kernel
theorem d5_21 : decode jdk_52_method_16_code 21 = .ok (.iload_n 1, 1) := by decide +kernel
theorem d5_22 : decode jdk_52_method_16_code 22 = .ok (.iload_n 2, 1) := by decide +kernel
theorem d5_23 : decode jdk_52_method_16_code 23 = .ok (.invokestatic 119, 3) := by decide +kernel
theorem d5_26 : decode jdk_52_method_16_code 26 = .ok (.astore 5, 2) := by decide +kernel
theorem d5_28 : decode jdk_52_method_16_code 28 = .ok (.aload 5, 2) := by decide +kernel
theorem d5_30 : decode jdk_52_method_16_code 30 = .ok (.iload 4, 2) := by decide +kernel
theorem d5_32 : decode jdk_52_method_16_code 32 = .ok (.invokestatic 71, 3) := by decide +kernel
theorem d5_35 : decode jdk_52_method_16_code 35 = .ok (.sipush 255, 3) := by decide +kernel
theorem d5_38 : decode jdk_52_method_16_code 38 = .ok (.if_icmp .gt 16, 3) := by decide +kernel
theorem d5_41 : decode jdk_52_method_16_code 41 = .ok (.aload 5, 2) := by decide +kernel
theorem d5_43 : decode jdk_52_method_16_code 43 = .ok (.iconst 0, 1) := by decide +kernel
theorem d5_44 : decode jdk_52_method_16_code 44 = .ok (.aload_n 3, 1) := by decide +kernel
theorem d5_45 : decode jdk_52_method_16_code 45 = .ok (.iconst 0, 1) := by decide +kernel
theorem d5_46 : decode jdk_52_method_16_code 46 = .ok (.iload_n 2, 1) := by decide +kernel
theorem d5_47 : decode jdk_52_method_16_code 47 = .ok (.invokestatic 123, 3) := by decide +kernel
theorem d5_50 : decode jdk_52_method_16_code 50 = .ok (.iload_n 2, 1) := by decide +kernel
theorem d5_51 : decode jdk_52_method_16_code 51 = .ok (.if_icmp .eq 6, 3) := by decide +kernel
theorem d5_54 : decode jdk_52_method_16_code 54 = .ok (.aload 5, 2) := by decide +kernel
theorem d5_56 : decode jdk_52_method_16_code 56 = .ok (.areturn, 1) := by decide +kernel
theorem d5_57 : decode jdk_52_method_16_code 57 = .ok (.aload_n 3, 1) := by decide +kernel
theorem d5_58 : decode jdk_52_method_16_code 58 = .ok (.areturn, 1) := by decide +kernel
theorem pf_5 : plainFor y5 = true := by first | exact plainFor_of_name (by first | (simp [plainName, overriddenIn]; done) | decide +kernel) | decide +kernel
theorem ef_c3_1 (m : MethodId) (b1 : Addr) : entryFrame m #[(.ref b1), (.int (0 : Int32)), (.int (1 : Int32))] 6 = mkF m 0 #[.val (.ref b1), .val (.int (0 : Int32)), .val (.int (1 : Int32)), .unset, .unset, .unset] [] := by first | (simp [entryFrame, mkF, argsToLocals, Value.category]; done) | rfl
theorem pd_0 : parseMethodDescriptor "([CI[BII)I" = some ⟨[(.array .char), .int, (.array .byte), .int, .int], some .int⟩ := by decide +kernel
set_option maxRecDepth 65536 in
set_option maxHeartbeats 40000000 in
theorem con_c3_1 (l : Launch) (Z : State) (a0 : Array Value) (hw : ∀ d ∈ tables_1, d.before a0 Z = true) (h0 : Heap) (n0 : Nat) (b1 : Addr) (c0 : Int32) (hc0 : ¬ (255 : Int32) < c0) (Ls : Al Z h0 b1 .char [(.int c0)]) (Z0 : n0 ≤ h0.size) : Con l Z y5 jdk_52_method_16_code 6 (some (.array .byte)) ({ frames := 1, cells := 1, slots := 1, locals := 18 } : Room) #[(.ref b1), (.int (0 : Int32)), (.int (1 : Int32))] h0 n0 (fun v h => ∃ d, v = some (.ref d) ∧ Keep h0 h [] ∧ Al Z h d .byte [(.int ((c0).toInt8.toInt32))] ∧ h0.size ≤ d) := by
  refine Con.of pf_5 (fun m => ef_c3_1 m b1) ?_
  intro p e s m below meth c C
  have K0 : Keep h0 h0 [] := Keep.refl _ _
  refine W.iloadN C d5_0 rfl ?_
  refine W.newP C 1 1 d5_1 (tkw hw 23 rfl) rfl (Nat.le_refl _) (by decide) 1 1 rfl rfl (by decide) (by decide) ?_
  intro ob1 hp2 hob1 Eob1 Lob1
  have ne_b1_ob1 : b1 ≠ ob1 := Nat.ne_of_lt (by rw [hob1]; exact Ls.lt)
  have ge_ob1 : n0 ≤ ob1 := by rw [hob1]; exact Z0
  have sz_ob1 : h0.size ≤ ob1 := by rw [hob1]; exact K0.1
  replace Ls := Ls.ext Eob1
  replace Z0 := Nat.le_trans Z0 Eob1.1
  replace K0 := K0.ext Eob1
  replace Lob1 : Al Z hp2 ob1 .byte [(.int (0 : Int32))] := Lob1
  refine W.astoreN C #[.val (.ref b1), .val (.int (0 : Int32)), .val (.int (1 : Int32)), .val (.ref ob1), .unset, .unset] d5_3 rfl rfl ?_
  refine W.aloadN C d5_4 rfl rfl ?_
  refine W.iloadN C d5_5 rfl ?_
  refine W.aloadN C d5_6 rfl rfl ?_
  refine W.iconst C (0 : Int32) d5_7 rfl ?_
  refine W.iloadN C d5_8 rfl ?_
  refine W.callS C (y' := y6) d5_9 (tkw hw 24 rfl) (tkw hw 25 rfl) (tkw hw 21 rfl) (tkw hw 26 rfl) (by decide) (argsL := [(.ref b1), (.int (0 : Int32)), (.ref ob1), (.int (0 : Int32)), (.int (1 : Int32))]) (rest := []) rfl (lenOf pd_0 rfl) (con_c4_1 l Z a0 hw hp2 n0 b1 ob1 c0 hc0 ne_b1_ob1 ge_ob1 Ls Lob1 Z0) 0 1 1 rfl rfl rfl (by decide) (by decide) (by decide) (by decide) rfl ?_
  rintro _ hp3 ⟨rfl, Kc, L_⟩
  replace Ls := Ls.keep Kc (ninS ne_b1_ob1 nin0)
  replace Z0 := Nat.le_trans Z0 Kc.1
  replace K0 := K0.trans Kc (allS (Or.inr sz_ob1) all0)
  replace Lob1 := L_
  refine W.istore C #[.val (.ref b1), .val (.int (0 : Int32)), .val (.int (1 : Int32)), .val (.ref ob1), .val (.int (1 : Int32)), .unset] d5_12 rfl ?_
  refine W.iload C d5_14 rfl ?_
  refine W.iloadN C d5_16 rfl ?_
  refine W.icmp_eq C 57 d5_17 rfl (fun _ => ?_) (fun b => absurd b (by decide))
  refine W.aloadN C d5_57 rfl rfl ?_
  exact W.aret C d5_58 rfl rfl rfl (FN.ok (by decide) (by decide) ⟨ob1, rfl, K0, Lob1, sz_ob1⟩)

abbrev y7 : MethodName := ⟨"java/lang/StringUTF16", "coderFromArrayLen", "([BI)B"⟩
theorem d7_0 : decode jdk_52_method_15_code 0 = .ok (.iload_n 1, 1) := by decide +kernel
theorem d7_1 : decode jdk_52_method_15_code 1 = .ok (.aload_n 0, 1) := by decide +kernel
theorem d7_2 : decode jdk_52_method_15_code 2 = .ok (.arraylength, 1) := by decide +kernel
theorem d7_3 : decode jdk_52_method_15_code 3 = .ok (.isub, 1) := by decide +kernel
theorem d7_4 : decode jdk_52_method_15_code 4 = .ok (.bipush 31, 2) := by decide +kernel
theorem d7_6 : decode jdk_52_method_15_code 6 = .ok (.iushr, 1) := by decide +kernel
theorem d7_7 : decode jdk_52_method_15_code 7 = .ok (.i2b, 1) := by decide +kernel
theorem d7_8 : decode jdk_52_method_15_code 8 = .ok (.ireturn, 1) := by decide +kernel
theorem pf_7 : plainFor y7 = true := by first | exact plainFor_of_name (by first | (simp [plainName, overriddenIn]; done) | decide +kernel) | decide +kernel
theorem ef_co_1 (m : MethodId) (d1 : Addr) : entryFrame m #[(.ref d1), (.int (1 : Int32))] 2 = mkF m 0 #[.val (.ref d1), .val (.int (1 : Int32))] [] := by first | (simp [entryFrame, mkF, argsToLocals, Value.category]; done) | rfl
set_option maxRecDepth 65536 in
set_option maxHeartbeats 40000000 in
theorem con_co_1 (l : Launch) (Z : State) (a0 : Array Value) (hw : ∀ d ∈ tables_1, d.before a0 Z = true) (h0 : Heap) (n0 : Nat) (d1 : Addr) (c0 : Int32) (Ld : Al Z h0 d1 .byte [(.int ((c0).toInt8.toInt32))]) (Z0 : n0 ≤ h0.size) : Con l Z y7 jdk_52_method_15_code 2 (some .byte) ({ frames := 0, cells := 0, slots := 0, locals := 0 } : Room) #[(.ref d1), (.int (1 : Int32))] h0 n0 (Pu (some (.int 0)) h0) := by
  refine Con.of pf_7 (fun m => ef_co_1 m d1) ?_
  intro p e s m below meth c C
  refine W.iloadN C d7_0 rfl ?_
  refine W.aloadN C d7_1 rfl rfl ?_
  refine W.arrlen C (1 : Int32) d7_2 Ld rfl ?_
  refine W.isubV C (0 : Int32) d7_3 (by decide) ?_
  refine W.bipush C (31 : Int32) d7_4 rfl ?_
  refine W.iushrV C (0 : Int32) d7_6 (by decide) ?_
  refine W.i2bV C (0 : Int32) d7_7 (by decide) ?_
  exact W.iret C d7_8 (by simp) rfl (FN.ok (by decide) (by decide) ⟨rfl, rfl⟩)

abbrev y3 : MethodName := ⟨"java/lang/String", "<init>", "([CIILjava/lang/Void;)V"⟩
theorem d3_0 : decode jdk_42_method_149_code 0 = .ok (.aload_n 0, 1) := by decide +kernel
theorem d3_1 : decode jdk_42_method_149_code 1 = .ok (.invokespecial 1, 3) := by decide +kernel
theorem d3_4 : decode jdk_42_method_149_code 4 = .ok (.iload_n 3, 1) := by decide +kernel
theorem d3_5 : decode jdk_42_method_149_code 5 = .ok (.ifCond .ne 22, 3) := by decide +kernel
theorem d3_8 : decode jdk_42_method_149_code 8 = .ok (.aload_n 0, 1) := by decide +kernel
theorem d3_9 : decode jdk_42_method_149_code 9 = .ok (.ldc 7, 2) := by decide +kernel
theorem d3_11 : decode jdk_42_method_149_code 11 = .ok (.getfield 9, 3) := by decide +kernel
theorem d3_14 : decode jdk_42_method_149_code 14 = .ok (.putfield 9, 3) := by decide +kernel
theorem d3_17 : decode jdk_42_method_149_code 17 = .ok (.aload_n 0, 1) := by decide +kernel
theorem d3_18 : decode jdk_42_method_149_code 18 = .ok (.ldc 7, 2) := by decide +kernel
theorem d3_20 : decode jdk_42_method_149_code 20 = .ok (.getfield 15, 3) := by decide +kernel
theorem d3_23 : decode jdk_42_method_149_code 23 = .ok (.putfield 15, 3) := by decide +kernel
theorem d3_26 : decode jdk_42_method_149_code 26 = .ok (.return_, 1) := by decide +kernel
theorem d3_27 : decode jdk_42_method_149_code 27 = .ok (.getstatic 38, 3) := by decide +kernel
theorem d3_30 : decode jdk_42_method_149_code 30 = .ok (.ifCond .eq 28, 3) := by decide +kernel
theorem d3_33 : decode jdk_42_method_149_code 33 = .ok (.aload_n 1, 1) := by decide +kernel
theorem d3_34 : decode jdk_42_method_149_code 34 = .ok (.iload_n 2, 1) := by decide +kernel
theorem d3_35 : decode jdk_42_method_149_code 35 = .ok (.iload_n 3, 1) := by decide +kernel
theorem d3_36 : decode jdk_42_method_149_code 36 = .ok (.invokestatic 177, 3) := by decide +kernel
theorem d3_39 : decode jdk_42_method_149_code 39 = .ok (.astore 5, 2) := by decide +kernel
theorem d3_41 : decode jdk_42_method_149_code 41 = .ok (.aload_n 0, 1) := by decide +kernel
theorem d3_42 : decode jdk_42_method_149_code 42 = .ok (.aload 5, 2) := by decide +kernel
theorem d3_44 : decode jdk_42_method_149_code 44 = .ok (.iload_n 3, 1) := by decide +kernel
theorem d3_45 : decode jdk_42_method_149_code 45 = .ok (.invokestatic 47, 3) := by decide +kernel
theorem d3_48 : decode jdk_42_method_149_code 48 = .ok (.putfield 15, 3) := by decide +kernel
theorem d3_51 : decode jdk_42_method_149_code 51 = .ok (.aload_n 0, 1) := by decide +kernel
theorem d3_52 : decode jdk_42_method_149_code 52 = .ok (.aload 5, 2) := by decide +kernel
theorem d3_54 : decode jdk_42_method_149_code 54 = .ok (.putfield 9, 3) := by decide +kernel
theorem d3_57 : decode jdk_42_method_149_code 57 = .ok (.return_, 1) := by decide +kernel
theorem d3_58 : decode jdk_42_method_149_code 58 = .ok (.aload_n 0, 1) := by decide +kernel
theorem d3_59 : decode jdk_42_method_149_code 59 = .ok (.iconst 1, 1) := by decide +kernel
theorem d3_60 : decode jdk_42_method_149_code 60 = .ok (.putfield 15, 3) := by decide +kernel
theorem d3_63 : decode jdk_42_method_149_code 63 = .ok (.aload_n 0, 1) := by decide +kernel
theorem d3_64 : decode jdk_42_method_149_code 64 = .ok (.aload_n 1, 1) := by decide +kernel
theorem d3_65 : decode jdk_42_method_149_code 65 = .ok (.iload_n 2, 1) := by decide +kernel
theorem d3_66 : decode jdk_42_method_149_code 66 = .ok (.iload_n 3, 1) := by decide +kernel
theorem d3_67 : decode jdk_42_method_149_code 67 = .ok (.invokestatic 180, 3) := by decide +kernel
theorem d3_70 : decode jdk_42_method_149_code 70 = .ok (.putfield 9, 3) := by decide +kernel
theorem d3_73 : decode jdk_42_method_149_code 73 = .ok (.return_, 1) := by decide +kernel
theorem pf_3 : plainFor y3 = true := by first | exact plainFor_of_name (by first | (simp [plainName, overriddenIn]; done) | decide +kernel) | decide +kernel
theorem ef_i4_1 (m : MethodId) (a1 : Addr) (b1 : Addr) : entryFrame m #[(.ref a1), (.ref b1), (.int (0 : Int32)), (.int (1 : Int32)), .null] 6 = mkF m 0 #[.val (.ref a1), .val (.ref b1), .val (.int (0 : Int32)), .val (.int (1 : Int32)), .val .null, .unset] [] := by first | (simp [entryFrame, mkF, argsToLocals, Value.category]; done) | rfl
theorem pd_1 : parseMethodDescriptor "()V" = some ⟨[], none⟩ := by decide +kernel
theorem pd_2 : parseMethodDescriptor "([CII)[B" = some ⟨[(.array .char), .int, .int], some (.array .byte)⟩ := by decide +kernel
theorem pd_3 : parseMethodDescriptor "([BI)B" = some ⟨[(.array .byte), .int], some .byte⟩ := by decide +kernel
set_option maxRecDepth 65536 in
set_option maxHeartbeats 40000000 in
theorem con_i4_1 (l : Launch) (Z : State) (a0 : Array Value) (hw : ∀ d ∈ tables_1, d.before a0 Z = true) (h0 : Heap) (n0 : Nat) (a1 : Addr) (b1 : Addr) (c0 : Int32) (hc0 : ¬ (255 : Int32) < c0) (u0 u1 : Value) (cv : Int32) (ne_a1_b1 : a1 ≠ b1) (g_a1 : n0 ≤ a1) (E_a1 : Exa Z h0 a1 "java/lang/String") (Fv : Fld Z h0 a1 "java/lang/String" "value" "[B" u0) (Fc : Fld Z h0 a1 "java/lang/String" "coder" "B" u1) (Ls : Al Z h0 b1 .char [(.int c0)]) (S_C : Sta Z h0 "java/lang/String" "COMPACT_STRINGS" "Z" (.int cv)) (hcv : ¬ cv = 0) (Z0 : n0 ≤ h0.size) : Con l Z y3 jdk_42_method_149_code 6 none ({ frames := 2, cells := 1, slots := 1, locals := 35 } : Room) #[(.ref a1), (.ref b1), (.int (0 : Int32)), (.int (1 : Int32)), .null] h0 n0 (fun v h => v = none ∧ Keep h0 h [a1] ∧ Exa Z h a1 "java/lang/String" ∧ ∃ d, Fld Z h a1 "java/lang/String" "value" "[B" (.ref d) ∧ Fld Z h a1 "java/lang/String" "coder" "B" (.int 0) ∧ Al Z h d .byte [(.int ((c0).toInt8.toInt32))]) := by
  refine Con.of pf_3 (fun m => ef_i4_1 m a1 b1) ?_
  intro p e s m below meth c C
  have K0 : Keep h0 h0 [a1] := Keep.refl _ _
  refine W.aloadN C d3_0 rfl rfl ?_
  refine W.initO C d3_1 (tkw hw 15 rfl) (tkw hw 16 rfl) (tkw hw 17 rfl) 0 rfl (by decide) (by decide) rfl ?_
  refine W.iloadN C d3_4 rfl ?_
  refine W.if_ne C 27 d3_5 rfl (fun _ => ?_) (fun b => absurd b (by decide))
  refine W.getS C d3_27 (tkw hw 18 rfl) Via.refl S_C ?_
  refine W.if_eq C 58 d3_30 rfl (fun bq1 => absurd bq1 hcv) (fun bq1 => ?_)
  refine W.aloadN C d3_33 rfl rfl ?_
  refine W.iloadN C d3_34 rfl ?_
  refine W.iloadN C d3_35 rfl ?_
  refine W.callS C (y' := y5) d3_36 (tkw hw 19 rfl) (tkw hw 20 rfl) (tkw hw 21 rfl) (tkw hw 22 rfl) (by decide) (argsL := [(.ref b1), (.int (0 : Int32)), (.int (1 : Int32))]) (rest := []) rfl (lenOf pd_2 rfl) (con_c3_1 l Z a0 hw h0 n0 b1 c0 hc0 Ls Z0) 0 1 1 rfl rfl rfl (by decide) (by decide) (by decide) (by decide) rfl ?_
  rintro _ hp2 ⟨d1, rfl, Kc, Ld1, sz⟩
  have ne_a1_d1 : a1 ≠ d1 := Nat.ne_of_lt (Nat.lt_of_lt_of_le E_a1.lt sz)
  replace E_a1 := E_a1.ext (ext0 Kc)
  replace Fv := Fv.ext (ext0 Kc)
  replace Fc := Fc.ext (ext0 Kc)
  replace Ls := Ls.ext (ext0 Kc)
  replace S_C := S_C.ext (ext0 Kc)
  replace Z0 := Nat.le_trans Z0 (ext0 Kc).1
  replace K0 := K0.ext (ext0 Kc)
  refine W.astore C #[.val (.ref a1), .val (.ref b1), .val (.int (0 : Int32)), .val (.int (1 : Int32)), .val .null, .val (.ref d1)] d3_39 rfl rfl ?_
  refine W.aloadN C d3_41 rfl rfl ?_
  refine W.aload C d3_42 rfl rfl ?_
  refine W.iloadN C d3_44 rfl ?_
  refine W.callS C (y' := y7) d3_45 (tkw hw 27 rfl) (tkw hw 28 rfl) (tkw hw 21 rfl) (tkw hw 29 rfl) (by decide) (argsL := [(.ref d1), (.int (1 : Int32))]) (rest := [(.ref a1)]) rfl (lenOf pd_3 rfl) (con_co_1 l Z a0 hw hp2 n0 d1 c0 Ld1 Z0) 1 1 1 rfl rfl rfl (by decide) (by decide) (by decide) (by decide) rfl ?_
  rintro _ _ ⟨rfl, rfl⟩
  refine W.putF C d3_48 (tkw hw 30 rfl) Via.refl Fc E_a1 (Or.inr ⟨(tkw hw 31 rfl), rfl, rfl⟩) (tkw hw 5 rfl) (ty := .byte) (by decide) rfl rfl g_a1 ?_
  intro hp3 U4
  replace Fc := Fc.same U4
  replace E_a1 := E_a1.wr U4
  replace Fv := Fv.other U4 (Or.inr (slot_ne (Or.inr (tkw hw 33 rfl)) (Or.inr (tkw hw 31 rfl)) (by decide) (t := (.array .byte)) (t' := .byte) (by decide) (by decide)))
  replace Ls := Ls.other U4 (Ne.symm ne_a1_b1)
  replace S_C := S_C.wr U4
  replace Z0 := Nat.le_trans Z0 (Nat.le_of_eq (U4.size).symm)
  replace K0 := K0.wr U4 (Or.inl (List.mem_of_getElem? (i := 0) rfl))
  replace Ld1 := Ld1.other U4 (Ne.symm ne_a1_d1)
  refine W.aloadN C d3_51 rfl rfl ?_
  refine W.aload C d3_52 rfl rfl ?_
  refine W.putF C d3_54 (tkw hw 32 rfl) Via.refl Fv E_a1 (Or.inr ⟨(tkw hw 33 rfl), rfl, rfl⟩) (tkw hw 5 rfl) (ty := (.array .byte)) (by decide) rfl rfl g_a1 ?_
  intro hp5 U6
  replace Fv := Fv.same U6
  replace E_a1 := E_a1.wr U6
  replace Fc := Fc.other U6 (Or.inr (slot_ne (Or.inr (tkw hw 31 rfl)) (Or.inr (tkw hw 33 rfl)) (by decide) (t := .byte) (t' := (.array .byte)) (by decide) (by decide)))
  replace Ls := Ls.other U6 (Ne.symm ne_a1_b1)
  replace S_C := S_C.wr U6
  replace Z0 := Nat.le_trans Z0 (Nat.le_of_eq (U6.size).symm)
  replace K0 := K0.wr U6 (Or.inl (List.mem_of_getElem? (i := 0) rfl))
  replace Ld1 := Ld1.other U6 (Ne.symm ne_a1_d1)
  exact W.retV C d3_57 (FN.ok (by decide) (by decide) ⟨rfl, K0, E_a1, d1, Fv, Fc, Ld1⟩)

abbrev y2 : MethodName := ⟨"java/lang/String", "<init>", "([C)V"⟩
theorem d2_0 : decode jdk_42_method_3_code 0 = .ok (.aload_n 0, 1) := by decide +kernel
theorem d2_1 : decode jdk_42_method_3_code 1 = .ok (.aload_n 1, 1) := by decide +kernel
theorem d2_2 : decode jdk_42_method_3_code 2 = .ok (.iconst 0, 1) := by decide +kernel
theorem d2_3 : decode jdk_42_method_3_code 3 = .ok (.aload_n 1, 1) := by decide +kernel
theorem d2_4 : decode jdk_42_method_3_code 4 = .ok (.arraylength, 1) := by decide +kernel
theorem d2_5 : decode jdk_42_method_3_code 5 = .ok (.aconst_null, 1) := by decide +kernel
theorem d2_6 : decode jdk_42_method_3_code 6 = .ok (.invokespecial 27, 3) := by decide +kernel
theorem d2_9 : decode jdk_42_method_3_code 9 = .ok (.return_, 1) := by decide +kernel
theorem pf_2 : plainFor y2 = true := by first | exact plainFor_of_name (by first | (simp [plainName, overriddenIn]; done) | decide +kernel) | decide +kernel
theorem ef_i1_1 (m : MethodId) (a1 : Addr) (b1 : Addr) : entryFrame m #[(.ref a1), (.ref b1)] 2 = mkF m 0 #[.val (.ref a1), .val (.ref b1)] [] := by first | (simp [entryFrame, mkF, argsToLocals, Value.category]; done) | rfl
theorem pd_4 : parseMethodDescriptor "([CIILjava/lang/Void;)V" = some ⟨[(.array .char), .int, .int, (.object "java/lang/Void")], none⟩ := by decide +kernel
set_option maxRecDepth 65536 in
set_option maxHeartbeats 40000000 in
theorem con_i1_1 (l : Launch) (Z : State) (a0 : Array Value) (hw : ∀ d ∈ tables_1, d.before a0 Z = true) (h0 : Heap) (n0 : Nat) (a1 : Addr) (b1 : Addr) (c0 : Int32) (hc0 : ¬ (255 : Int32) < c0) (u0 u1 : Value) (cv : Int32) (ne_a1_b1 : a1 ≠ b1) (g_a1 : n0 ≤ a1) (E_a1 : Exa Z h0 a1 "java/lang/String") (Fv : Fld Z h0 a1 "java/lang/String" "value" "[B" u0) (Fc : Fld Z h0 a1 "java/lang/String" "coder" "B" u1) (Ls : Al Z h0 b1 .char [(.int c0)]) (S_C : Sta Z h0 "java/lang/String" "COMPACT_STRINGS" "Z" (.int cv)) (hcv : ¬ cv = 0) (Z0 : n0 ≤ h0.size) : Con l Z y2 jdk_42_method_3_code 2 none ({ frames := 3, cells := 1, slots := 1, locals := 52 } : Room) #[(.ref a1), (.ref b1)] h0 n0 (fun v h => v = none ∧ Keep h0 h [a1] ∧ Exa Z h a1 "java/lang/String" ∧ ∃ d, Fld Z h a1 "java/lang/String" "value" "[B" (.ref d) ∧ Fld Z h a1 "java/lang/String" "coder" "B" (.int 0) ∧ Al Z h d .byte [(.int ((c0).toInt8.toInt32))]) := by
  refine Con.of pf_2 (fun m => ef_i1_1 m a1 b1) ?_
  intro p e s m below meth c C
  have K0 : Keep h0 h0 [a1] := Keep.refl _ _
  refine W.aloadN C d2_0 rfl rfl ?_
  refine W.aloadN C d2_1 rfl rfl ?_
  refine W.iconst C (0 : Int32) d2_2 rfl ?_
  refine W.aloadN C d2_3 rfl rfl ?_
  refine W.arrlen C (1 : Int32) d2_4 Ls rfl ?_
  refine W.aconstNull C d2_5 ?_
  refine W.callI C (y' := y3) d2_6 rfl (tkw hw 11 rfl) (tkw hw 12 rfl) (tkw hw 6 rfl) (tkw hw 14 rfl) (by decide) (a := a1) (argsL := [(.ref b1), (.int (0 : Int32)), (.int (1 : Int32)), .null]) (rest := []) rfl (lenOf pd_4 rfl) (con_i4_1 l Z a0 hw h0 n0 a1 b1 c0 hc0 u0 u1 cv ne_a1_b1 g_a1 E_a1 Fv Fc Ls S_C hcv Z0) 0 1 1 rfl rfl rfl (by decide) (by decide) (by decide) (by decide) rfl ?_
  rintro _ hp1 ⟨rfl, Kc, E_n, d, Fv_n, Fc_n, Ld⟩
  replace Ls := Ls.keep Kc (ninS (Ne.symm ne_a1_b1) nin0)
  replace Z0 := Nat.le_trans Z0 Kc.1
  replace K0 := K0.trans Kc (allS (Or.inl (List.mem_of_getElem? (i := 0) rfl)) all0)
  replace E_a1 := E_n
  replace Fv := Fv_n
  replace Fc := Fc_n
  exact W.retV C d2_9 (FN.ok (by decide) (by decide) ⟨rfl, K0, E_a1, d, Fv, Fc, Ld⟩)

theorem ef_c4_2 (m : MethodId) (b1 : Addr) (d1 : Addr) : entryFrame m #[(.ref b1), (.int (0 : Int32)), (.ref d1), (.int (0 : Int32)), (.int (2 : Int32))] 7 = mkF m 0 #[.val (.ref b1), .val (.int (0 : Int32)), .val (.ref d1), .val (.int (0 : Int32)), .val (.int (2 : Int32)), .unset, .unset] [] := by first | (simp [entryFrame, mkF, argsToLocals, Value.category]; done) | rfl
set_option maxRecDepth 65536 in
set_option maxHeartbeats 40000000 in
theorem con_c4_2 (l : Launch) (Z : State) (a0 : Array Value) (hw : ∀ d ∈ tables_1, d.before a0 Z = true) (h0 : Heap) (n0 : Nat) (b1 : Addr) (d1 : Addr) (c0 c1 : Int32) (hc0 : ¬ (255 : Int32) < c0) (hc1 : ¬ (255 : Int32) < c1) (ne_b1_d1 : b1 ≠ d1) (g_d1 : n0 ≤ d1) (Ls : Al Z h0 b1 .char [(.int c0), (.int c1)]) (Ld : Al Z h0 d1 .byte [(.int (0 : Int32)), (.int (0 : Int32))]) (Z0 : n0 ≤ h0.size) : Con l Z y6 jdk_52_method_21_code 7 (some .int) ({ frames := 0, cells := 0, slots := 0, locals := 0 } : Room) #[(.ref b1), (.int (0 : Int32)), (.ref d1), (.int (0 : Int32)), (.int (2 : Int32))] h0 n0 (fun v h => v = some (.int 2) ∧ Keep h0 h [d1] ∧ Al Z h d1 .byte [(.int ((c0).toInt8.toInt32)), (.int ((c1).toInt8.toInt32))]) := by
  refine Con.of pf_6 (fun m => ef_c4_2 m b1 d1) ?_
  intro p e s m below meth c C
  have K0 : Keep h0 h0 [d1] := Keep.refl _ _
  refine W.iconst C (0 : Int32) d6_0 rfl ?_
  refine W.istore C #[.val (.ref b1), .val (.int (0 : Int32)), .val (.ref d1), .val (.int (0 : Int32)), .val (.int (2 : Int32)), .val (.int (0 : Int32)), .unset] d6_1 rfl ?_
  refine W.iload C d6_3 rfl ?_
  refine W.iload C d6_5 rfl ?_
  refine W.icmp_ge C 44 d6_7 rfl (fun b => absurd b (by decide)) (fun _ => ?_)
  refine W.aloadN C d6_10 rfl rfl ?_
  refine W.iloadN C d6_11 rfl ?_
  refine W.caload C 0 d6_12 Ls rfl rfl ?_
  refine W.istore C #[.val (.ref b1), .val (.int (0 : Int32)), .val (.ref d1), .val (.int (0 : Int32)), .val (.int (2 : Int32)), .val (.int (0 : Int32)), .val (.int c0)] d6_13 rfl ?_
  refine W.iload C d6_15 rfl ?_
  refine W.sipush C (255 : Int32) d6_17 rfl ?_
  refine W.icmp_le C 26 d6_20 rfl (fun bq1 => ?_) (fun bq1 => absurd bq1 hc0)
  refine W.aloadN C d6_26 rfl rfl ?_
  refine W.iloadN C d6_27 rfl ?_
  refine W.iload C d6_28 rfl ?_
  refine W.i2b C d6_30 ?_
  refine W.bastoreI C 0 d6_31 Ld rfl (show (0 : Nat) < 2 by decide) g_d1 ?_
  intro hp1 U2 Ld_
  replace Ls := Ls.other U2 ne_b1_d1
  replace Z0 := Nat.le_trans Z0 (Nat.le_of_eq (U2.size).symm)
  replace K0 := K0.wr U2 (Or.inl (List.mem_of_getElem? (i := 0) rfl))
  replace Ld : Al Z hp1 d1 .byte [(.int ((c0).toInt8.toInt32)), (.int (0 : Int32))] := Ld_
  refine W.iinc C (1 : Int32) #[.val (.ref b1), .val (.int (1 : Int32)), .val (.ref d1), .val (.int (0 : Int32)), .val (.int (2 : Int32)), .val (.int (0 : Int32)), .val (.int c0)] d6_32 rfl rfl rfl ?_
  refine W.iinc C (1 : Int32) #[.val (.ref b1), .val (.int (1 : Int32)), .val (.ref d1), .val (.int (1 : Int32)), .val (.int (2 : Int32)), .val (.int (0 : Int32)), .val (.int c0)] d6_35 rfl rfl rfl ?_
  refine W.iinc C (1 : Int32) #[.val (.ref b1), .val (.int (1 : Int32)), .val (.ref d1), .val (.int (1 : Int32)), .val (.int (2 : Int32)), .val (.int (1 : Int32)), .val (.int c0)] d6_38 rfl rfl rfl ?_
  refine W.goto C 3 d6_41 rfl ?_
  refine W.iload C d6_3 rfl ?_
  refine W.iload C d6_5 rfl ?_
  refine W.icmp_ge C 44 d6_7 rfl (fun b => absurd b (by decide)) (fun _ => ?_)
  refine W.aloadN C d6_10 rfl rfl ?_
  refine W.iloadN C d6_11 rfl ?_
  refine W.caload C 1 d6_12 Ls rfl rfl ?_
  refine W.istore C #[.val (.ref b1), .val (.int (1 : Int32)), .val (.ref d1), .val (.int (1 : Int32)), .val (.int (2 : Int32)), .val (.int (1 : Int32)), .val (.int c1)] d6_13 rfl ?_
  refine W.iload C d6_15 rfl ?_
  refine W.sipush C (255 : Int32) d6_17 rfl ?_
  refine W.icmp_le C 26 d6_20 rfl (fun bq2 => ?_) (fun bq2 => absurd bq2 hc1)
  refine W.aloadN C d6_26 rfl rfl ?_
  refine W.iloadN C d6_27 rfl ?_
  refine W.iload C d6_28 rfl ?_
  refine W.i2b C d6_30 ?_
  refine W.bastoreI C 1 d6_31 Ld rfl (show (1 : Nat) < 2 by decide) g_d1 ?_
  intro hp3 U4 Ld_
  replace Ls := Ls.other U4 ne_b1_d1
  replace Z0 := Nat.le_trans Z0 (Nat.le_of_eq (U4.size).symm)
  replace K0 := K0.wr U4 (Or.inl (List.mem_of_getElem? (i := 0) rfl))
  replace Ld : Al Z hp3 d1 .byte [(.int ((c0).toInt8.toInt32)), (.int ((c1).toInt8.toInt32))] := Ld_
  refine W.iinc C (2 : Int32) #[.val (.ref b1), .val (.int (2 : Int32)), .val (.ref d1), .val (.int (1 : Int32)), .val (.int (2 : Int32)), .val (.int (1 : Int32)), .val (.int c1)] d6_32 rfl rfl rfl ?_
  refine W.iinc C (2 : Int32) #[.val (.ref b1), .val (.int (2 : Int32)), .val (.ref d1), .val (.int (2 : Int32)), .val (.int (2 : Int32)), .val (.int (1 : Int32)), .val (.int c1)] d6_35 rfl rfl rfl ?_
  refine W.iinc C (2 : Int32) #[.val (.ref b1), .val (.int (2 : Int32)), .val (.ref d1), .val (.int (2 : Int32)), .val (.int (2 : Int32)), .val (.int (2 : Int32)), .val (.int c1)] d6_38 rfl rfl rfl ?_
  refine W.goto C 3 d6_41 rfl ?_
  refine W.iload C d6_3 rfl ?_
  refine W.iload C d6_5 rfl ?_
  refine W.icmp_ge C 44 d6_7 rfl (fun _ => ?_) (fun b => absurd b (by decide))
  refine W.iload C d6_44 rfl ?_
  exact W.iret C d6_46 (by simp) rfl (FN.ok (by decide) (by decide) ⟨rfl, K0, Ld⟩)

theorem ef_c3_2 (m : MethodId) (b1 : Addr) : entryFrame m #[(.ref b1), (.int (0 : Int32)), (.int (2 : Int32))] 6 = mkF m 0 #[.val (.ref b1), .val (.int (0 : Int32)), .val (.int (2 : Int32)), .unset, .unset, .unset] [] := by first | (simp [entryFrame, mkF, argsToLocals, Value.category]; done) | rfl
set_option maxRecDepth 65536 in
set_option maxHeartbeats 40000000 in
theorem con_c3_2 (l : Launch) (Z : State) (a0 : Array Value) (hw : ∀ d ∈ tables_1, d.before a0 Z = true) (h0 : Heap) (n0 : Nat) (b1 : Addr) (c0 c1 : Int32) (hc0 : ¬ (255 : Int32) < c0) (hc1 : ¬ (255 : Int32) < c1) (Ls : Al Z h0 b1 .char [(.int c0), (.int c1)]) (Z0 : n0 ≤ h0.size) : Con l Z y5 jdk_52_method_16_code 6 (some (.array .byte)) ({ frames := 1, cells := 1, slots := 2, locals := 18 } : Room) #[(.ref b1), (.int (0 : Int32)), (.int (2 : Int32))] h0 n0 (fun v h => ∃ d, v = some (.ref d) ∧ Keep h0 h [] ∧ Al Z h d .byte [(.int ((c0).toInt8.toInt32)), (.int ((c1).toInt8.toInt32))] ∧ h0.size ≤ d) := by
  refine Con.of pf_5 (fun m => ef_c3_2 m b1) ?_
  intro p e s m below meth c C
  have K0 : Keep h0 h0 [] := Keep.refl _ _
  refine W.iloadN C d5_0 rfl ?_
  refine W.newP C 2 2 d5_1 (tkw hw 23 rfl) rfl (Nat.le_refl _) (by decide) 1 2 rfl rfl (by decide) (by decide) ?_
  intro ob1 hp2 hob1 Eob1 Lob1
  have ne_b1_ob1 : b1 ≠ ob1 := Nat.ne_of_lt (by rw [hob1]; exact Ls.lt)
  have ge_ob1 : n0 ≤ ob1 := by rw [hob1]; exact Z0
  have sz_ob1 : h0.size ≤ ob1 := by rw [hob1]; exact K0.1
  replace Ls := Ls.ext Eob1
  replace Z0 := Nat.le_trans Z0 Eob1.1
  replace K0 := K0.ext Eob1
  replace Lob1 : Al Z hp2 ob1 .byte [(.int (0 : Int32)), (.int (0 : Int32))] := Lob1
  refine W.astoreN C #[.val (.ref b1), .val (.int (0 : Int32)), .val (.int (2 : Int32)), .val (.ref ob1), .unset, .unset] d5_3 rfl rfl ?_
  refine W.aloadN C d5_4 rfl rfl ?_
  refine W.iloadN C d5_5 rfl ?_
  refine W.aloadN C d5_6 rfl rfl ?_
  refine W.iconst C (0 : Int32) d5_7 rfl ?_
  refine W.iloadN C d5_8 rfl ?_
  refine W.callS C (y' := y6) d5_9 (tkw hw 24 rfl) (tkw hw 25 rfl) (tkw hw 21 rfl) (tkw hw 26 rfl) (by decide) (argsL := [(.ref b1), (.int (0 : Int32)), (.ref ob1), (.int (0 : Int32)), (.int (2 : Int32))]) (rest := []) rfl (lenOf pd_0 rfl) (con_c4_2 l Z a0 hw hp2 n0 b1 ob1 c0 c1 hc0 hc1 ne_b1_ob1 ge_ob1 Ls Lob1 Z0) 0 1 2 rfl rfl rfl (by decide) (by decide) (by decide) (by decide) rfl ?_
  rintro _ hp3 ⟨rfl, Kc, L_⟩
  replace Ls := Ls.keep Kc (ninS ne_b1_ob1 nin0)
  replace Z0 := Nat.le_trans Z0 Kc.1
  replace K0 := K0.trans Kc (allS (Or.inr sz_ob1) all0)
  replace Lob1 := L_
  refine W.istore C #[.val (.ref b1), .val (.int (0 : Int32)), .val (.int (2 : Int32)), .val (.ref ob1), .val (.int (2 : Int32)), .unset] d5_12 rfl ?_
  refine W.iload C d5_14 rfl ?_
  refine W.iloadN C d5_16 rfl ?_
  refine W.icmp_eq C 57 d5_17 rfl (fun _ => ?_) (fun b => absurd b (by decide))
  refine W.aloadN C d5_57 rfl rfl ?_
  exact W.aret C d5_58 rfl rfl rfl (FN.ok (by decide) (by decide) ⟨ob1, rfl, K0, Lob1, sz_ob1⟩)

theorem ef_co_2 (m : MethodId) (d1 : Addr) : entryFrame m #[(.ref d1), (.int (2 : Int32))] 2 = mkF m 0 #[.val (.ref d1), .val (.int (2 : Int32))] [] := by first | (simp [entryFrame, mkF, argsToLocals, Value.category]; done) | rfl
set_option maxRecDepth 65536 in
set_option maxHeartbeats 40000000 in
theorem con_co_2 (l : Launch) (Z : State) (a0 : Array Value) (hw : ∀ d ∈ tables_1, d.before a0 Z = true) (h0 : Heap) (n0 : Nat) (d1 : Addr) (c0 c1 : Int32) (Ld : Al Z h0 d1 .byte [(.int ((c0).toInt8.toInt32)), (.int ((c1).toInt8.toInt32))]) (Z0 : n0 ≤ h0.size) : Con l Z y7 jdk_52_method_15_code 2 (some .byte) ({ frames := 0, cells := 0, slots := 0, locals := 0 } : Room) #[(.ref d1), (.int (2 : Int32))] h0 n0 (Pu (some (.int 0)) h0) := by
  refine Con.of pf_7 (fun m => ef_co_2 m d1) ?_
  intro p e s m below meth c C
  refine W.iloadN C d7_0 rfl ?_
  refine W.aloadN C d7_1 rfl rfl ?_
  refine W.arrlen C (2 : Int32) d7_2 Ld rfl ?_
  refine W.isubV C (0 : Int32) d7_3 (by decide) ?_
  refine W.bipush C (31 : Int32) d7_4 rfl ?_
  refine W.iushrV C (0 : Int32) d7_6 (by decide) ?_
  refine W.i2bV C (0 : Int32) d7_7 (by decide) ?_
  exact W.iret C d7_8 (by simp) rfl (FN.ok (by decide) (by decide) ⟨rfl, rfl⟩)

theorem ef_i4_2 (m : MethodId) (a1 : Addr) (b1 : Addr) : entryFrame m #[(.ref a1), (.ref b1), (.int (0 : Int32)), (.int (2 : Int32)), .null] 6 = mkF m 0 #[.val (.ref a1), .val (.ref b1), .val (.int (0 : Int32)), .val (.int (2 : Int32)), .val .null, .unset] [] := by first | (simp [entryFrame, mkF, argsToLocals, Value.category]; done) | rfl
set_option maxRecDepth 65536 in
set_option maxHeartbeats 40000000 in
theorem con_i4_2 (l : Launch) (Z : State) (a0 : Array Value) (hw : ∀ d ∈ tables_1, d.before a0 Z = true) (h0 : Heap) (n0 : Nat) (a1 : Addr) (b1 : Addr) (c0 c1 : Int32) (hc0 : ¬ (255 : Int32) < c0) (hc1 : ¬ (255 : Int32) < c1) (u0 u1 : Value) (cv : Int32) (ne_a1_b1 : a1 ≠ b1) (g_a1 : n0 ≤ a1) (E_a1 : Exa Z h0 a1 "java/lang/String") (Fv : Fld Z h0 a1 "java/lang/String" "value" "[B" u0) (Fc : Fld Z h0 a1 "java/lang/String" "coder" "B" u1) (Ls : Al Z h0 b1 .char [(.int c0), (.int c1)]) (S_C : Sta Z h0 "java/lang/String" "COMPACT_STRINGS" "Z" (.int cv)) (hcv : ¬ cv = 0) (Z0 : n0 ≤ h0.size) : Con l Z y3 jdk_42_method_149_code 6 none ({ frames := 2, cells := 1, slots := 2, locals := 35 } : Room) #[(.ref a1), (.ref b1), (.int (0 : Int32)), (.int (2 : Int32)), .null] h0 n0 (fun v h => v = none ∧ Keep h0 h [a1] ∧ Exa Z h a1 "java/lang/String" ∧ ∃ d, Fld Z h a1 "java/lang/String" "value" "[B" (.ref d) ∧ Fld Z h a1 "java/lang/String" "coder" "B" (.int 0) ∧ Al Z h d .byte [(.int ((c0).toInt8.toInt32)), (.int ((c1).toInt8.toInt32))]) := by
  refine Con.of pf_3 (fun m => ef_i4_2 m a1 b1) ?_
  intro p e s m below meth c C
  have K0 : Keep h0 h0 [a1] := Keep.refl _ _
  refine W.aloadN C d3_0 rfl rfl ?_
  refine W.initO C d3_1 (tkw hw 15 rfl) (tkw hw 16 rfl) (tkw hw 17 rfl) 0 rfl (by decide) (by decide) rfl ?_
  refine W.iloadN C d3_4 rfl ?_
  refine W.if_ne C 27 d3_5 rfl (fun _ => ?_) (fun b => absurd b (by decide))
  refine W.getS C d3_27 (tkw hw 18 rfl) Via.refl S_C ?_
  refine W.if_eq C 58 d3_30 rfl (fun bq1 => absurd bq1 hcv) (fun bq1 => ?_)
  refine W.aloadN C d3_33 rfl rfl ?_
  refine W.iloadN C d3_34 rfl ?_
  refine W.iloadN C d3_35 rfl ?_
  refine W.callS C (y' := y5) d3_36 (tkw hw 19 rfl) (tkw hw 20 rfl) (tkw hw 21 rfl) (tkw hw 22 rfl) (by decide) (argsL := [(.ref b1), (.int (0 : Int32)), (.int (2 : Int32))]) (rest := []) rfl (lenOf pd_2 rfl) (con_c3_2 l Z a0 hw h0 n0 b1 c0 c1 hc0 hc1 Ls Z0) 0 1 2 rfl rfl rfl (by decide) (by decide) (by decide) (by decide) rfl ?_
  rintro _ hp2 ⟨d1, rfl, Kc, Ld1, sz⟩
  have ne_a1_d1 : a1 ≠ d1 := Nat.ne_of_lt (Nat.lt_of_lt_of_le E_a1.lt sz)
  replace E_a1 := E_a1.ext (ext0 Kc)
  replace Fv := Fv.ext (ext0 Kc)
  replace Fc := Fc.ext (ext0 Kc)
  replace Ls := Ls.ext (ext0 Kc)
  replace S_C := S_C.ext (ext0 Kc)
  replace Z0 := Nat.le_trans Z0 (ext0 Kc).1
  replace K0 := K0.ext (ext0 Kc)
  refine W.astore C #[.val (.ref a1), .val (.ref b1), .val (.int (0 : Int32)), .val (.int (2 : Int32)), .val .null, .val (.ref d1)] d3_39 rfl rfl ?_
  refine W.aloadN C d3_41 rfl rfl ?_
  refine W.aload C d3_42 rfl rfl ?_
  refine W.iloadN C d3_44 rfl ?_
  refine W.callS C (y' := y7) d3_45 (tkw hw 27 rfl) (tkw hw 28 rfl) (tkw hw 21 rfl) (tkw hw 29 rfl) (by decide) (argsL := [(.ref d1), (.int (2 : Int32))]) (rest := [(.ref a1)]) rfl (lenOf pd_3 rfl) (con_co_2 l Z a0 hw hp2 n0 d1 c0 c1 Ld1 Z0) 1 1 2 rfl rfl rfl (by decide) (by decide) (by decide) (by decide) rfl ?_
  rintro _ _ ⟨rfl, rfl⟩
  refine W.putF C d3_48 (tkw hw 30 rfl) Via.refl Fc E_a1 (Or.inr ⟨(tkw hw 31 rfl), rfl, rfl⟩) (tkw hw 5 rfl) (ty := .byte) (by decide) rfl rfl g_a1 ?_
  intro hp3 U4
  replace Fc := Fc.same U4
  replace E_a1 := E_a1.wr U4
  replace Fv := Fv.other U4 (Or.inr (slot_ne (Or.inr (tkw hw 33 rfl)) (Or.inr (tkw hw 31 rfl)) (by decide) (t := (.array .byte)) (t' := .byte) (by decide) (by decide)))
  replace Ls := Ls.other U4 (Ne.symm ne_a1_b1)
  replace S_C := S_C.wr U4
  replace Z0 := Nat.le_trans Z0 (Nat.le_of_eq (U4.size).symm)
  replace K0 := K0.wr U4 (Or.inl (List.mem_of_getElem? (i := 0) rfl))
  replace Ld1 := Ld1.other U4 (Ne.symm ne_a1_d1)
  refine W.aloadN C d3_51 rfl rfl ?_
  refine W.aload C d3_52 rfl rfl ?_
  refine W.putF C d3_54 (tkw hw 32 rfl) Via.refl Fv E_a1 (Or.inr ⟨(tkw hw 33 rfl), rfl, rfl⟩) (tkw hw 5 rfl) (ty := (.array .byte)) (by decide) rfl rfl g_a1 ?_
  intro hp5 U6
  replace Fv := Fv.same U6
  replace E_a1 := E_a1.wr U6
  replace Fc := Fc.other U6 (Or.inr (slot_ne (Or.inr (tkw hw 31 rfl)) (Or.inr (tkw hw 33 rfl)) (by decide) (t := .byte) (t' := (.array .byte)) (by decide) (by decide)))
  replace Ls := Ls.other U6 (Ne.symm ne_a1_b1)
  replace S_C := S_C.wr U6
  replace Z0 := Nat.le_trans Z0 (Nat.le_of_eq (U6.size).symm)
  replace K0 := K0.wr U6 (Or.inl (List.mem_of_getElem? (i := 0) rfl))
  replace Ld1 := Ld1.other U6 (Ne.symm ne_a1_d1)
  exact W.retV C d3_57 (FN.ok (by decide) (by decide) ⟨rfl, K0, E_a1, d1, Fv, Fc, Ld1⟩)

theorem ef_i1_2 (m : MethodId) (a1 : Addr) (b1 : Addr) : entryFrame m #[(.ref a1), (.ref b1)] 2 = mkF m 0 #[.val (.ref a1), .val (.ref b1)] [] := by first | (simp [entryFrame, mkF, argsToLocals, Value.category]; done) | rfl
set_option maxRecDepth 65536 in
set_option maxHeartbeats 40000000 in
theorem con_i1_2 (l : Launch) (Z : State) (a0 : Array Value) (hw : ∀ d ∈ tables_1, d.before a0 Z = true) (h0 : Heap) (n0 : Nat) (a1 : Addr) (b1 : Addr) (c0 c1 : Int32) (hc0 : ¬ (255 : Int32) < c0) (hc1 : ¬ (255 : Int32) < c1) (u0 u1 : Value) (cv : Int32) (ne_a1_b1 : a1 ≠ b1) (g_a1 : n0 ≤ a1) (E_a1 : Exa Z h0 a1 "java/lang/String") (Fv : Fld Z h0 a1 "java/lang/String" "value" "[B" u0) (Fc : Fld Z h0 a1 "java/lang/String" "coder" "B" u1) (Ls : Al Z h0 b1 .char [(.int c0), (.int c1)]) (S_C : Sta Z h0 "java/lang/String" "COMPACT_STRINGS" "Z" (.int cv)) (hcv : ¬ cv = 0) (Z0 : n0 ≤ h0.size) : Con l Z y2 jdk_42_method_3_code 2 none ({ frames := 3, cells := 1, slots := 2, locals := 52 } : Room) #[(.ref a1), (.ref b1)] h0 n0 (fun v h => v = none ∧ Keep h0 h [a1] ∧ Exa Z h a1 "java/lang/String" ∧ ∃ d, Fld Z h a1 "java/lang/String" "value" "[B" (.ref d) ∧ Fld Z h a1 "java/lang/String" "coder" "B" (.int 0) ∧ Al Z h d .byte [(.int ((c0).toInt8.toInt32)), (.int ((c1).toInt8.toInt32))]) := by
  refine Con.of pf_2 (fun m => ef_i1_2 m a1 b1) ?_
  intro p e s m below meth c C
  have K0 : Keep h0 h0 [a1] := Keep.refl _ _
  refine W.aloadN C d2_0 rfl rfl ?_
  refine W.aloadN C d2_1 rfl rfl ?_
  refine W.iconst C (0 : Int32) d2_2 rfl ?_
  refine W.aloadN C d2_3 rfl rfl ?_
  refine W.arrlen C (2 : Int32) d2_4 Ls rfl ?_
  refine W.aconstNull C d2_5 ?_
  refine W.callI C (y' := y3) d2_6 rfl (tkw hw 11 rfl) (tkw hw 12 rfl) (tkw hw 6 rfl) (tkw hw 14 rfl) (by decide) (a := a1) (argsL := [(.ref b1), (.int (0 : Int32)), (.int (2 : Int32)), .null]) (rest := []) rfl (lenOf pd_4 rfl) (con_i4_2 l Z a0 hw h0 n0 a1 b1 c0 c1 hc0 hc1 u0 u1 cv ne_a1_b1 g_a1 E_a1 Fv Fc Ls S_C hcv Z0) 0 1 2 rfl rfl rfl (by decide) (by decide) (by decide) (by decide) rfl ?_
  rintro _ hp1 ⟨rfl, Kc, E_n, d, Fv_n, Fc_n, Ld⟩
  replace Ls := Ls.keep Kc (ninS (Ne.symm ne_a1_b1) nin0)
  replace Z0 := Nat.le_trans Z0 Kc.1
  replace K0 := K0.trans Kc (allS (Or.inl (List.mem_of_getElem? (i := 0) rfl)) all0)
  replace E_a1 := E_n
  replace Fv := Fv_n
  replace Fc := Fc_n
  exact W.retV C d2_9 (FN.ok (by decide) (by decide) ⟨rfl, K0, E_a1, d, Fv, Fc, Ld⟩)

theorem ef_c4_3 (m : MethodId) (b1 : Addr) (d1 : Addr) : entryFrame m #[(.ref b1), (.int (0 : Int32)), (.ref d1), (.int (0 : Int32)), (.int (3 : Int32))] 7 = mkF m 0 #[.val (.ref b1), .val (.int (0 : Int32)), .val (.ref d1), .val (.int (0 : Int32)), .val (.int (3 : Int32)), .unset, .unset] [] := by first | (simp [entryFrame, mkF, argsToLocals, Value.category]; done) | rfl
set_option maxRecDepth 65536 in
set_option maxHeartbeats 40000000 in
theorem con_c4_3 (l : Launch) (Z : State) (a0 : Array Value) (hw : ∀ d ∈ tables_1, d.before a0 Z = true) (h0 : Heap) (n0 : Nat) (b1 : Addr) (d1 : Addr) (c0 c1 c2 : Int32) (hc0 : ¬ (255 : Int32) < c0) (hc1 : ¬ (255 : Int32) < c1) (hc2 : ¬ (255 : Int32) < c2) (ne_b1_d1 : b1 ≠ d1) (g_d1 : n0 ≤ d1) (Ls : Al Z h0 b1 .char [(.int c0), (.int c1), (.int c2)]) (Ld : Al Z h0 d1 .byte [(.int (0 : Int32)), (.int (0 : Int32)), (.int (0 : Int32))]) (Z0 : n0 ≤ h0.size) : Con l Z y6 jdk_52_method_21_code 7 (some .int) ({ frames := 0, cells := 0, slots := 0, locals := 0 } : Room) #[(.ref b1), (.int (0 : Int32)), (.ref d1), (.int (0 : Int32)), (.int (3 : Int32))] h0 n0 (fun v h => v = some (.int 3) ∧ Keep h0 h [d1] ∧ Al Z h d1 .byte [(.int ((c0).toInt8.toInt32)), (.int ((c1).toInt8.toInt32)), (.int ((c2).toInt8.toInt32))]) := by
  refine Con.of pf_6 (fun m => ef_c4_3 m b1 d1) ?_
  intro p e s m below meth c C
  have K0 : Keep h0 h0 [d1] := Keep.refl _ _
  refine W.iconst C (0 : Int32) d6_0 rfl ?_
  refine W.istore C #[.val (.ref b1), .val (.int (0 : Int32)), .val (.ref d1), .val (.int (0 : Int32)), .val (.int (3 : Int32)), .val (.int (0 : Int32)), .unset] d6_1 rfl ?_
  refine W.iload C d6_3 rfl ?_
  refine W.iload C d6_5 rfl ?_
  refine W.icmp_ge C 44 d6_7 rfl (fun b => absurd b (by decide)) (fun _ => ?_)
  refine W.aloadN C d6_10 rfl rfl ?_
  refine W.iloadN C d6_11 rfl ?_
  refine W.caload C 0 d6_12 Ls rfl rfl ?_
  refine W.istore C #[.val (.ref b1), .val (.int (0 : Int32)), .val (.ref d1), .val (.int (0 : Int32)), .val (.int (3 : Int32)), .val (.int (0 : Int32)), .val (.int c0)] d6_13 rfl ?_
  refine W.iload C d6_15 rfl ?_
  refine W.sipush C (255 : Int32) d6_17 rfl ?_
  refine W.icmp_le C 26 d6_20 rfl (fun bq1 => ?_) (fun bq1 => absurd bq1 hc0)
  refine W.aloadN C d6_26 rfl rfl ?_
  refine W.iloadN C d6_27 rfl ?_
  refine W.iload C d6_28 rfl ?_
  refine W.i2b C d6_30 ?_
  refine W.bastoreI C 0 d6_31 Ld rfl (show (0 : Nat) < 3 by decide) g_d1 ?_
  intro hp1 U2 Ld_
  replace Ls := Ls.other U2 ne_b1_d1
  replace Z0 := Nat.le_trans Z0 (Nat.le_of_eq (U2.size).symm)
  replace K0 := K0.wr U2 (Or.inl (List.mem_of_getElem? (i := 0) rfl))
  replace Ld : Al Z hp1 d1 .byte [(.int ((c0).toInt8.toInt32)), (.int (0 : Int32)), (.int (0 : Int32))] := Ld_
  refine W.iinc C (1 : Int32) #[.val (.ref b1), .val (.int (1 : Int32)), .val (.ref d1), .val (.int (0 : Int32)), .val (.int (3 : Int32)), .val (.int (0 : Int32)), .val (.int c0)] d6_32 rfl rfl rfl ?_
  refine W.iinc C (1 : Int32) #[.val (.ref b1), .val (.int (1 : Int32)), .val (.ref d1), .val (.int (1 : Int32)), .val (.int (3 : Int32)), .val (.int (0 : Int32)), .val (.int c0)] d6_35 rfl rfl rfl ?_
  refine W.iinc C (1 : Int32) #[.val (.ref b1), .val (.int (1 : Int32)), .val (.ref d1), .val (.int (1 : Int32)), .val (.int (3 : Int32)), .val (.int (1 : Int32)), .val (.int c0)] d6_38 rfl rfl rfl ?_
  refine W.goto C 3 d6_41 rfl ?_
  refine W.iload C d6_3 rfl ?_
  refine W.iload C d6_5 rfl ?_
  refine W.icmp_ge C 44 d6_7 rfl (fun b => absurd b (by decide)) (fun _ => ?_)
  refine W.aloadN C d6_10 rfl rfl ?_
  refine W.iloadN C d6_11 rfl ?_
  refine W.caload C 1 d6_12 Ls rfl rfl ?_
  refine W.istore C #[.val (.ref b1), .val (.int (1 : Int32)), .val (.ref d1), .val (.int (1 : Int32)), .val (.int (3 : Int32)), .val (.int (1 : Int32)), .val (.int c1)] d6_13 rfl ?_
  refine W.iload C d6_15 rfl ?_
  refine W.sipush C (255 : Int32) d6_17 rfl ?_
  refine W.icmp_le C 26 d6_20 rfl (fun bq2 => ?_) (fun bq2 => absurd bq2 hc1)
  refine W.aloadN C d6_26 rfl rfl ?_
  refine W.iloadN C d6_27 rfl ?_
  refine W.iload C d6_28 rfl ?_
  refine W.i2b C d6_30 ?_
  refine W.bastoreI C 1 d6_31 Ld rfl (show (1 : Nat) < 3 by decide) g_d1 ?_
  intro hp3 U4 Ld_
  replace Ls := Ls.other U4 ne_b1_d1
  replace Z0 := Nat.le_trans Z0 (Nat.le_of_eq (U4.size).symm)
  replace K0 := K0.wr U4 (Or.inl (List.mem_of_getElem? (i := 0) rfl))
  replace Ld : Al Z hp3 d1 .byte [(.int ((c0).toInt8.toInt32)), (.int ((c1).toInt8.toInt32)), (.int (0 : Int32))] := Ld_
  refine W.iinc C (2 : Int32) #[.val (.ref b1), .val (.int (2 : Int32)), .val (.ref d1), .val (.int (1 : Int32)), .val (.int (3 : Int32)), .val (.int (1 : Int32)), .val (.int c1)] d6_32 rfl rfl rfl ?_
  refine W.iinc C (2 : Int32) #[.val (.ref b1), .val (.int (2 : Int32)), .val (.ref d1), .val (.int (2 : Int32)), .val (.int (3 : Int32)), .val (.int (1 : Int32)), .val (.int c1)] d6_35 rfl rfl rfl ?_
  refine W.iinc C (2 : Int32) #[.val (.ref b1), .val (.int (2 : Int32)), .val (.ref d1), .val (.int (2 : Int32)), .val (.int (3 : Int32)), .val (.int (2 : Int32)), .val (.int c1)] d6_38 rfl rfl rfl ?_
  refine W.goto C 3 d6_41 rfl ?_
  refine W.iload C d6_3 rfl ?_
  refine W.iload C d6_5 rfl ?_
  refine W.icmp_ge C 44 d6_7 rfl (fun b => absurd b (by decide)) (fun _ => ?_)
  refine W.aloadN C d6_10 rfl rfl ?_
  refine W.iloadN C d6_11 rfl ?_
  refine W.caload C 2 d6_12 Ls rfl rfl ?_
  refine W.istore C #[.val (.ref b1), .val (.int (2 : Int32)), .val (.ref d1), .val (.int (2 : Int32)), .val (.int (3 : Int32)), .val (.int (2 : Int32)), .val (.int c2)] d6_13 rfl ?_
  refine W.iload C d6_15 rfl ?_
  refine W.sipush C (255 : Int32) d6_17 rfl ?_
  refine W.icmp_le C 26 d6_20 rfl (fun bq3 => ?_) (fun bq3 => absurd bq3 hc2)
  refine W.aloadN C d6_26 rfl rfl ?_
  refine W.iloadN C d6_27 rfl ?_
  refine W.iload C d6_28 rfl ?_
  refine W.i2b C d6_30 ?_
  refine W.bastoreI C 2 d6_31 Ld rfl (show (2 : Nat) < 3 by decide) g_d1 ?_
  intro hp5 U6 Ld_
  replace Ls := Ls.other U6 ne_b1_d1
  replace Z0 := Nat.le_trans Z0 (Nat.le_of_eq (U6.size).symm)
  replace K0 := K0.wr U6 (Or.inl (List.mem_of_getElem? (i := 0) rfl))
  replace Ld : Al Z hp5 d1 .byte [(.int ((c0).toInt8.toInt32)), (.int ((c1).toInt8.toInt32)), (.int ((c2).toInt8.toInt32))] := Ld_
  refine W.iinc C (3 : Int32) #[.val (.ref b1), .val (.int (3 : Int32)), .val (.ref d1), .val (.int (2 : Int32)), .val (.int (3 : Int32)), .val (.int (2 : Int32)), .val (.int c2)] d6_32 rfl rfl rfl ?_
  refine W.iinc C (3 : Int32) #[.val (.ref b1), .val (.int (3 : Int32)), .val (.ref d1), .val (.int (3 : Int32)), .val (.int (3 : Int32)), .val (.int (2 : Int32)), .val (.int c2)] d6_35 rfl rfl rfl ?_
  refine W.iinc C (3 : Int32) #[.val (.ref b1), .val (.int (3 : Int32)), .val (.ref d1), .val (.int (3 : Int32)), .val (.int (3 : Int32)), .val (.int (3 : Int32)), .val (.int c2)] d6_38 rfl rfl rfl ?_
  refine W.goto C 3 d6_41 rfl ?_
  refine W.iload C d6_3 rfl ?_
  refine W.iload C d6_5 rfl ?_
  refine W.icmp_ge C 44 d6_7 rfl (fun _ => ?_) (fun b => absurd b (by decide))
  refine W.iload C d6_44 rfl ?_
  exact W.iret C d6_46 (by simp) rfl (FN.ok (by decide) (by decide) ⟨rfl, K0, Ld⟩)

theorem ef_c3_3 (m : MethodId) (b1 : Addr) : entryFrame m #[(.ref b1), (.int (0 : Int32)), (.int (3 : Int32))] 6 = mkF m 0 #[.val (.ref b1), .val (.int (0 : Int32)), .val (.int (3 : Int32)), .unset, .unset, .unset] [] := by first | (simp [entryFrame, mkF, argsToLocals, Value.category]; done) | rfl
set_option maxRecDepth 65536 in
set_option maxHeartbeats 40000000 in
theorem con_c3_3 (l : Launch) (Z : State) (a0 : Array Value) (hw : ∀ d ∈ tables_1, d.before a0 Z = true) (h0 : Heap) (n0 : Nat) (b1 : Addr) (c0 c1 c2 : Int32) (hc0 : ¬ (255 : Int32) < c0) (hc1 : ¬ (255 : Int32) < c1) (hc2 : ¬ (255 : Int32) < c2) (Ls : Al Z h0 b1 .char [(.int c0), (.int c1), (.int c2)]) (Z0 : n0 ≤ h0.size) : Con l Z y5 jdk_52_method_16_code 6 (some (.array .byte)) ({ frames := 1, cells := 1, slots := 3, locals := 18 } : Room) #[(.ref b1), (.int (0 : Int32)), (.int (3 : Int32))] h0 n0 (fun v h => ∃ d, v = some (.ref d) ∧ Keep h0 h [] ∧ Al Z h d .byte [(.int ((c0).toInt8.toInt32)), (.int ((c1).toInt8.toInt32)), (.int ((c2).toInt8.toInt32))] ∧ h0.size ≤ d) := by
  refine Con.of pf_5 (fun m => ef_c3_3 m b1) ?_
  intro p e s m below meth c C
  have K0 : Keep h0 h0 [] := Keep.refl _ _
  refine W.iloadN C d5_0 rfl ?_
  refine W.newP C 3 3 d5_1 (tkw hw 23 rfl) rfl (Nat.le_refl _) (by decide) 1 3 rfl rfl (by decide) (by decide) ?_
  intro ob1 hp2 hob1 Eob1 Lob1
  have ne_b1_ob1 : b1 ≠ ob1 := Nat.ne_of_lt (by rw [hob1]; exact Ls.lt)
  have ge_ob1 : n0 ≤ ob1 := by rw [hob1]; exact Z0
  have sz_ob1 : h0.size ≤ ob1 := by rw [hob1]; exact K0.1
  replace Ls := Ls.ext Eob1
  replace Z0 := Nat.le_trans Z0 Eob1.1
  replace K0 := K0.ext Eob1
  replace Lob1 : Al Z hp2 ob1 .byte [(.int (0 : Int32)), (.int (0 : Int32)), (.int (0 : Int32))] := Lob1
  refine W.astoreN C #[.val (.ref b1), .val (.int (0 : Int32)), .val (.int (3 : Int32)), .val (.ref ob1), .unset, .unset] d5_3 rfl rfl ?_
  refine W.aloadN C d5_4 rfl rfl ?_
  refine W.iloadN C d5_5 rfl ?_
  refine W.aloadN C d5_6 rfl rfl ?_
  refine W.iconst C (0 : Int32) d5_7 rfl ?_
  refine W.iloadN C d5_8 rfl ?_
  refine W.callS C (y' := y6) d5_9 (tkw hw 24 rfl) (tkw hw 25 rfl) (tkw hw 21 rfl) (tkw hw 26 rfl) (by decide) (argsL := [(.ref b1), (.int (0 : Int32)), (.ref ob1), (.int (0 : Int32)), (.int (3 : Int32))]) (rest := []) rfl (lenOf pd_0 rfl) (con_c4_3 l Z a0 hw hp2 n0 b1 ob1 c0 c1 c2 hc0 hc1 hc2 ne_b1_ob1 ge_ob1 Ls Lob1 Z0) 0 1 3 rfl rfl rfl (by decide) (by decide) (by decide) (by decide) rfl ?_
  rintro _ hp3 ⟨rfl, Kc, L_⟩
  replace Ls := Ls.keep Kc (ninS ne_b1_ob1 nin0)
  replace Z0 := Nat.le_trans Z0 Kc.1
  replace K0 := K0.trans Kc (allS (Or.inr sz_ob1) all0)
  replace Lob1 := L_
  refine W.istore C #[.val (.ref b1), .val (.int (0 : Int32)), .val (.int (3 : Int32)), .val (.ref ob1), .val (.int (3 : Int32)), .unset] d5_12 rfl ?_
  refine W.iload C d5_14 rfl ?_
  refine W.iloadN C d5_16 rfl ?_
  refine W.icmp_eq C 57 d5_17 rfl (fun _ => ?_) (fun b => absurd b (by decide))
  refine W.aloadN C d5_57 rfl rfl ?_
  exact W.aret C d5_58 rfl rfl rfl (FN.ok (by decide) (by decide) ⟨ob1, rfl, K0, Lob1, sz_ob1⟩)

theorem ef_co_3 (m : MethodId) (d1 : Addr) : entryFrame m #[(.ref d1), (.int (3 : Int32))] 2 = mkF m 0 #[.val (.ref d1), .val (.int (3 : Int32))] [] := by first | (simp [entryFrame, mkF, argsToLocals, Value.category]; done) | rfl
set_option maxRecDepth 65536 in
set_option maxHeartbeats 40000000 in
theorem con_co_3 (l : Launch) (Z : State) (a0 : Array Value) (hw : ∀ d ∈ tables_1, d.before a0 Z = true) (h0 : Heap) (n0 : Nat) (d1 : Addr) (c0 c1 c2 : Int32) (Ld : Al Z h0 d1 .byte [(.int ((c0).toInt8.toInt32)), (.int ((c1).toInt8.toInt32)), (.int ((c2).toInt8.toInt32))]) (Z0 : n0 ≤ h0.size) : Con l Z y7 jdk_52_method_15_code 2 (some .byte) ({ frames := 0, cells := 0, slots := 0, locals := 0 } : Room) #[(.ref d1), (.int (3 : Int32))] h0 n0 (Pu (some (.int 0)) h0) := by
  refine Con.of pf_7 (fun m => ef_co_3 m d1) ?_
  intro p e s m below meth c C
  refine W.iloadN C d7_0 rfl ?_
  refine W.aloadN C d7_1 rfl rfl ?_
  refine W.arrlen C (3 : Int32) d7_2 Ld rfl ?_
  refine W.isubV C (0 : Int32) d7_3 (by decide) ?_
  refine W.bipush C (31 : Int32) d7_4 rfl ?_
  refine W.iushrV C (0 : Int32) d7_6 (by decide) ?_
  refine W.i2bV C (0 : Int32) d7_7 (by decide) ?_
  exact W.iret C d7_8 (by simp) rfl (FN.ok (by decide) (by decide) ⟨rfl, rfl⟩)

theorem ef_i4_3 (m : MethodId) (a1 : Addr) (b1 : Addr) : entryFrame m #[(.ref a1), (.ref b1), (.int (0 : Int32)), (.int (3 : Int32)), .null] 6 = mkF m 0 #[.val (.ref a1), .val (.ref b1), .val (.int (0 : Int32)), .val (.int (3 : Int32)), .val .null, .unset] [] := by first | (simp [entryFrame, mkF, argsToLocals, Value.category]; done) | rfl
set_option maxRecDepth 65536 in
set_option maxHeartbeats 40000000 in
theorem con_i4_3 (l : Launch) (Z : State) (a0 : Array Value) (hw : ∀ d ∈ tables_1, d.before a0 Z = true) (h0 : Heap) (n0 : Nat) (a1 : Addr) (b1 : Addr) (c0 c1 c2 : Int32) (hc0 : ¬ (255 : Int32) < c0) (hc1 : ¬ (255 : Int32) < c1) (hc2 : ¬ (255 : Int32) < c2) (u0 u1 : Value) (cv : Int32) (ne_a1_b1 : a1 ≠ b1) (g_a1 : n0 ≤ a1) (E_a1 : Exa Z h0 a1 "java/lang/String") (Fv : Fld Z h0 a1 "java/lang/String" "value" "[B" u0) (Fc : Fld Z h0 a1 "java/lang/String" "coder" "B" u1) (Ls : Al Z h0 b1 .char [(.int c0), (.int c1), (.int c2)]) (S_C : Sta Z h0 "java/lang/String" "COMPACT_STRINGS" "Z" (.int cv)) (hcv : ¬ cv = 0) (Z0 : n0 ≤ h0.size) : Con l Z y3 jdk_42_method_149_code 6 none ({ frames := 2, cells := 1, slots := 3, locals := 35 } : Room) #[(.ref a1), (.ref b1), (.int (0 : Int32)), (.int (3 : Int32)), .null] h0 n0 (fun v h => v = none ∧ Keep h0 h [a1] ∧ Exa Z h a1 "java/lang/String" ∧ ∃ d, Fld Z h a1 "java/lang/String" "value" "[B" (.ref d) ∧ Fld Z h a1 "java/lang/String" "coder" "B" (.int 0) ∧ Al Z h d .byte [(.int ((c0).toInt8.toInt32)), (.int ((c1).toInt8.toInt32)), (.int ((c2).toInt8.toInt32))]) := by
  refine Con.of pf_3 (fun m => ef_i4_3 m a1 b1) ?_
  intro p e s m below meth c C
  have K0 : Keep h0 h0 [a1] := Keep.refl _ _
  refine W.aloadN C d3_0 rfl rfl ?_
  refine W.initO C d3_1 (tkw hw 15 rfl) (tkw hw 16 rfl) (tkw hw 17 rfl) 0 rfl (by decide) (by decide) rfl ?_
  refine W.iloadN C d3_4 rfl ?_
  refine W.if_ne C 27 d3_5 rfl (fun _ => ?_) (fun b => absurd b (by decide))
  refine W.getS C d3_27 (tkw hw 18 rfl) Via.refl S_C ?_
  refine W.if_eq C 58 d3_30 rfl (fun bq1 => absurd bq1 hcv) (fun bq1 => ?_)
  refine W.aloadN C d3_33 rfl rfl ?_
  refine W.iloadN C d3_34 rfl ?_
  refine W.iloadN C d3_35 rfl ?_
  refine W.callS C (y' := y5) d3_36 (tkw hw 19 rfl) (tkw hw 20 rfl) (tkw hw 21 rfl) (tkw hw 22 rfl) (by decide) (argsL := [(.ref b1), (.int (0 : Int32)), (.int (3 : Int32))]) (rest := []) rfl (lenOf pd_2 rfl) (con_c3_3 l Z a0 hw h0 n0 b1 c0 c1 c2 hc0 hc1 hc2 Ls Z0) 0 1 3 rfl rfl rfl (by decide) (by decide) (by decide) (by decide) rfl ?_
  rintro _ hp2 ⟨d1, rfl, Kc, Ld1, sz⟩
  have ne_a1_d1 : a1 ≠ d1 := Nat.ne_of_lt (Nat.lt_of_lt_of_le E_a1.lt sz)
  replace E_a1 := E_a1.ext (ext0 Kc)
  replace Fv := Fv.ext (ext0 Kc)
  replace Fc := Fc.ext (ext0 Kc)
  replace Ls := Ls.ext (ext0 Kc)
  replace S_C := S_C.ext (ext0 Kc)
  replace Z0 := Nat.le_trans Z0 (ext0 Kc).1
  replace K0 := K0.ext (ext0 Kc)
  refine W.astore C #[.val (.ref a1), .val (.ref b1), .val (.int (0 : Int32)), .val (.int (3 : Int32)), .val .null, .val (.ref d1)] d3_39 rfl rfl ?_
  refine W.aloadN C d3_41 rfl rfl ?_
  refine W.aload C d3_42 rfl rfl ?_
  refine W.iloadN C d3_44 rfl ?_
  refine W.callS C (y' := y7) d3_45 (tkw hw 27 rfl) (tkw hw 28 rfl) (tkw hw 21 rfl) (tkw hw 29 rfl) (by decide) (argsL := [(.ref d1), (.int (3 : Int32))]) (rest := [(.ref a1)]) rfl (lenOf pd_3 rfl) (con_co_3 l Z a0 hw hp2 n0 d1 c0 c1 c2 Ld1 Z0) 1 1 3 rfl rfl rfl (by decide) (by decide) (by decide) (by decide) rfl ?_
  rintro _ _ ⟨rfl, rfl⟩
  refine W.putF C d3_48 (tkw hw 30 rfl) Via.refl Fc E_a1 (Or.inr ⟨(tkw hw 31 rfl), rfl, rfl⟩) (tkw hw 5 rfl) (ty := .byte) (by decide) rfl rfl g_a1 ?_
  intro hp3 U4
  replace Fc := Fc.same U4
  replace E_a1 := E_a1.wr U4
  replace Fv := Fv.other U4 (Or.inr (slot_ne (Or.inr (tkw hw 33 rfl)) (Or.inr (tkw hw 31 rfl)) (by decide) (t := (.array .byte)) (t' := .byte) (by decide) (by decide)))
  replace Ls := Ls.other U4 (Ne.symm ne_a1_b1)
  replace S_C := S_C.wr U4
  replace Z0 := Nat.le_trans Z0 (Nat.le_of_eq (U4.size).symm)
  replace K0 := K0.wr U4 (Or.inl (List.mem_of_getElem? (i := 0) rfl))
  replace Ld1 := Ld1.other U4 (Ne.symm ne_a1_d1)
  refine W.aloadN C d3_51 rfl rfl ?_
  refine W.aload C d3_52 rfl rfl ?_
  refine W.putF C d3_54 (tkw hw 32 rfl) Via.refl Fv E_a1 (Or.inr ⟨(tkw hw 33 rfl), rfl, rfl⟩) (tkw hw 5 rfl) (ty := (.array .byte)) (by decide) rfl rfl g_a1 ?_
  intro hp5 U6
  replace Fv := Fv.same U6
  replace E_a1 := E_a1.wr U6
  replace Fc := Fc.other U6 (Or.inr (slot_ne (Or.inr (tkw hw 31 rfl)) (Or.inr (tkw hw 33 rfl)) (by decide) (t := .byte) (t' := (.array .byte)) (by decide) (by decide)))
  replace Ls := Ls.other U6 (Ne.symm ne_a1_b1)
  replace S_C := S_C.wr U6
  replace Z0 := Nat.le_trans Z0 (Nat.le_of_eq (U6.size).symm)
  replace K0 := K0.wr U6 (Or.inl (List.mem_of_getElem? (i := 0) rfl))
  replace Ld1 := Ld1.other U6 (Ne.symm ne_a1_d1)
  exact W.retV C d3_57 (FN.ok (by decide) (by decide) ⟨rfl, K0, E_a1, d1, Fv, Fc, Ld1⟩)

theorem ef_i1_3 (m : MethodId) (a1 : Addr) (b1 : Addr) : entryFrame m #[(.ref a1), (.ref b1)] 2 = mkF m 0 #[.val (.ref a1), .val (.ref b1)] [] := by first | (simp [entryFrame, mkF, argsToLocals, Value.category]; done) | rfl
set_option maxRecDepth 65536 in
set_option maxHeartbeats 40000000 in
theorem con_i1_3 (l : Launch) (Z : State) (a0 : Array Value) (hw : ∀ d ∈ tables_1, d.before a0 Z = true) (h0 : Heap) (n0 : Nat) (a1 : Addr) (b1 : Addr) (c0 c1 c2 : Int32) (hc0 : ¬ (255 : Int32) < c0) (hc1 : ¬ (255 : Int32) < c1) (hc2 : ¬ (255 : Int32) < c2) (u0 u1 : Value) (cv : Int32) (ne_a1_b1 : a1 ≠ b1) (g_a1 : n0 ≤ a1) (E_a1 : Exa Z h0 a1 "java/lang/String") (Fv : Fld Z h0 a1 "java/lang/String" "value" "[B" u0) (Fc : Fld Z h0 a1 "java/lang/String" "coder" "B" u1) (Ls : Al Z h0 b1 .char [(.int c0), (.int c1), (.int c2)]) (S_C : Sta Z h0 "java/lang/String" "COMPACT_STRINGS" "Z" (.int cv)) (hcv : ¬ cv = 0) (Z0 : n0 ≤ h0.size) : Con l Z y2 jdk_42_method_3_code 2 none ({ frames := 3, cells := 1, slots := 3, locals := 52 } : Room) #[(.ref a1), (.ref b1)] h0 n0 (fun v h => v = none ∧ Keep h0 h [a1] ∧ Exa Z h a1 "java/lang/String" ∧ ∃ d, Fld Z h a1 "java/lang/String" "value" "[B" (.ref d) ∧ Fld Z h a1 "java/lang/String" "coder" "B" (.int 0) ∧ Al Z h d .byte [(.int ((c0).toInt8.toInt32)), (.int ((c1).toInt8.toInt32)), (.int ((c2).toInt8.toInt32))]) := by
  refine Con.of pf_2 (fun m => ef_i1_3 m a1 b1) ?_
  intro p e s m below meth c C
  have K0 : Keep h0 h0 [a1] := Keep.refl _ _
  refine W.aloadN C d2_0 rfl rfl ?_
  refine W.aloadN C d2_1 rfl rfl ?_
  refine W.iconst C (0 : Int32) d2_2 rfl ?_
  refine W.aloadN C d2_3 rfl rfl ?_
  refine W.arrlen C (3 : Int32) d2_4 Ls rfl ?_
  refine W.aconstNull C d2_5 ?_
  refine W.callI C (y' := y3) d2_6 rfl (tkw hw 11 rfl) (tkw hw 12 rfl) (tkw hw 6 rfl) (tkw hw 14 rfl) (by decide) (a := a1) (argsL := [(.ref b1), (.int (0 : Int32)), (.int (3 : Int32)), .null]) (rest := []) rfl (lenOf pd_4 rfl) (con_i4_3 l Z a0 hw h0 n0 a1 b1 c0 c1 c2 hc0 hc1 hc2 u0 u1 cv ne_a1_b1 g_a1 E_a1 Fv Fc Ls S_C hcv Z0) 0 1 3 rfl rfl rfl (by decide) (by decide) (by decide) (by decide) rfl ?_
  rintro _ hp1 ⟨rfl, Kc, E_n, d, Fv_n, Fc_n, Ld⟩
  replace Ls := Ls.keep Kc (ninS (Ne.symm ne_a1_b1) nin0)
  replace Z0 := Nat.le_trans Z0 Kc.1
  replace K0 := K0.trans Kc (allS (Or.inl (List.mem_of_getElem? (i := 0) rfl)) all0)
  replace E_a1 := E_n
  replace Fv := Fv_n
  replace Fc := Fc_n
  exact W.retV C d2_9 (FN.ok (by decide) (by decide) ⟨rfl, K0, E_a1, d, Fv, Fc, Ld⟩)

theorem ef_i4_0 (m : MethodId) (a1 : Addr) (b1 : Addr) : entryFrame m #[(.ref a1), (.ref b1), (.int (0 : Int32)), (.int (0 : Int32)), .null] 6 = mkF m 0 #[.val (.ref a1), .val (.ref b1), .val (.int (0 : Int32)), .val (.int (0 : Int32)), .val .null, .unset] [] := by first | (simp [entryFrame, mkF, argsToLocals, Value.category]; done) | rfl
set_option maxRecDepth 65536 in
set_option maxHeartbeats 40000000 in
theorem con_i4_0 (l : Launch) (Z : State) (a0 : Array Value) (hw : ∀ d ∈ tables_1, d.before a0 Z = true) (h0 : Heap) (n0 : Nat) (a1 : Addr) (b1 : Addr) (u0 u1 : Value) (g_a1 : n0 ≤ a1) (E_a1 : Exa Z h0 a1 "java/lang/String") (Fv : Fld Z h0 a1 "java/lang/String" "value" "[B" u0) (Fc : Fld Z h0 a1 "java/lang/String" "coder" "B" u1) (Z0 : n0 ≤ h0.size) : ConW l Z y3 jdk_42_method_149_code 6 none ({ frames := 1, cells := 4, slots := 8, locals := 12 } : Room) #[(.ref a1), (.ref b1), (.int (0 : Int32)), (.int (0 : Int32)), .null] h0 n0 (fun vm => CHv Z own_EL vm h0 ∧ Safe Z own_EL vm h0 a1) (fun v h vm => v = none ∧ Keep h0 h [a1] ∧ Exa Z h a1 "java/lang/String" ∧ CHv Z own_EL vm h ∧ ∃ d, Fld Z h a1 "java/lang/String" "value" "[B" (.ref d) ∧ Fld Z h a1 "java/lang/String" "coder" "B" (.int 0) ∧ Al Z h d .byte []) := by
  refine ConW.of pf_3 (fun m => ef_i4_0 m a1 b1) ?_
  intro p e s m below meth c C PV hS
  obtain ⟨Hc, Sf_a1⟩ := PV
  have K0 : Keep h0 h0 [a1] := Keep.refl _ _
  refine W.aloadN C d3_0 rfl rfl ?_
  refine W.initO C d3_1 (tkw hw 15 rfl) (tkw hw 16 rfl) (tkw hw 17 rfl) 0 rfl (by decide) (by decide) rfl ?_
  refine W.iloadN C d3_4 rfl ?_
  refine W.if_ne C 27 d3_5 rfl (fun b => absurd b (by decide)) (fun _ => ?_)
  refine W.aloadN C d3_8 rfl rfl ?_
  have lt_a1 := E_a1.lt
  refine W.ldcV C hS d3_9 (tkw hw 70 rfl) (own_sa hw) (own_ew hw) (List.mem_of_getElem? (i := 0) rfl) Hc 2 4 rfl rfl (by decide) (by decide) ?_
  intro lt1 hp2 vm3 lb4 Elt1 Xlt1 Fclt1 Fvlt1 Llb4 HR hne C hS
  replace Sf_a1 := HR.safe lt_a1 Sf_a1
  replace Hc := HR.1
  have ne_a1_lt1 := (hne _ Sf_a1).1
  have ne_a1_lb4 := (hne _ Sf_a1).2
  replace E_a1 := E_a1.ext Elt1
  replace Fv := Fv.ext Elt1
  replace Fc := Fc.ext Elt1
  replace Z0 := Nat.le_trans Z0 Elt1.1
  replace K0 := K0.ext Elt1
  refine W.getF C d3_11 (tkw hw 32 rfl) Via.refl Fvlt1 ?_
  refine W.putF C d3_14 (tkw hw 32 rfl) Via.refl Fv E_a1 (Or.inr ⟨(tkw hw 33 rfl), rfl, rfl⟩) (tkw hw 5 rfl) (ty := (.array .byte)) (by decide) rfl rfl g_a1 ?_
  intro hp5 U6
  replace Fv := Fv.same U6
  have Sf_new := Safe.wr U6 Sf_a1 Hc Sf_a1
  replace Hc := CHv.wr U6 Sf_a1 Hc
  replace Sf_a1 := Sf_new
  replace E_a1 := E_a1.wr U6
  replace Fc := Fc.other U6 (Or.inr (slot_ne (Or.inr (tkw hw 31 rfl)) (Or.inr (tkw hw 33 rfl)) (by decide) (t := .byte) (t' := (.array .byte)) (by decide) (by decide)))
  replace hS := hS.le (Nat.le_of_eq (U6.size).symm)
  replace Z0 := Nat.le_trans Z0 (Nat.le_of_eq (U6.size).symm)
  replace K0 := K0.wr U6 (Or.inl (List.mem_of_getElem? (i := 0) rfl))
  replace Xlt1 := Xlt1.wr U6
  replace Fclt1 := Fclt1.other U6 (Or.inl (Ne.symm ne_a1_lt1))
  replace Fvlt1 := Fvlt1.other U6 (Or.inl (Ne.symm ne_a1_lt1))
  replace Llb4 := Llb4.other U6 (Ne.symm ne_a1_lb4)
  refine W.aloadN C d3_17 rfl rfl ?_
  have lt_a1 := E_a1.lt
  refine W.ldcV C hS d3_18 (tkw hw 70 rfl) (own_sa hw) (own_ew hw) (List.mem_of_getElem? (i := 0) rfl) Hc 4 8 rfl rfl (by decide) (by decide) ?_
  intro lt7 hp8 vm9 lb10 Elt7 Xlt7 Fclt7 Fvlt7 Llb10 HR hne C hS
  replace Sf_a1 := HR.safe lt_a1 Sf_a1
  replace Hc := HR.1
  have ne_a1_lt7 := (hne _ Sf_a1).1
  have ne_a1_lb10 := (hne _ Sf_a1).2
  replace E_a1 := E_a1.ext Elt7
  replace Fv := Fv.ext Elt7
  replace Fc := Fc.ext Elt7
  replace Z0 := Nat.le_trans Z0 Elt7.1
  replace K0 := K0.ext Elt7
  replace Xlt1 := Xlt1.ext Elt7
  replace Fclt1 := Fclt1.ext Elt7
  replace Fvlt1 := Fvlt1.ext Elt7
  replace Llb4 := Llb4.ext Elt7
  refine W.getF C d3_20 (tkw hw 30 rfl) Via.refl Fclt7 ?_
  refine W.putF C d3_23 (tkw hw 30 rfl) Via.refl Fc E_a1 (Or.inr ⟨(tkw hw 31 rfl), rfl, rfl⟩) (tkw hw 5 rfl) (ty := .byte) (by decide) rfl rfl g_a1 ?_
  intro hp11 U12
  replace Fc := Fc.same U12
  have Sf_new := Safe.wr U12 Sf_a1 Hc Sf_a1
  replace Hc := CHv.wr U12 Sf_a1 Hc
  replace Sf_a1 := Sf_new
  replace E_a1 := E_a1.wr U12
  replace Fv := Fv.other U12 (Or.inr (slot_ne (Or.inr (tkw hw 33 rfl)) (Or.inr (tkw hw 31 rfl)) (by decide) (t := (.array .byte)) (t' := .byte) (by decide) (by decide)))
  replace hS := hS.le (Nat.le_of_eq (U12.size).symm)
  replace Z0 := Nat.le_trans Z0 (Nat.le_of_eq (U12.size).symm)
  replace K0 := K0.wr U12 (Or.inl (List.mem_of_getElem? (i := 0) rfl))
  replace Xlt1 := Xlt1.wr U12
  replace Fclt1 := Fclt1.other U12 (Or.inl (Ne.symm ne_a1_lt1))
  replace Fvlt1 := Fvlt1.other U12 (Or.inl (Ne.symm ne_a1_lt1))
  replace Llb4 := Llb4.other U12 (Ne.symm ne_a1_lb4)
  replace Xlt7 := Xlt7.wr U12
  replace Fclt7 := Fclt7.other U12 (Or.inl (Ne.symm ne_a1_lt7))
  replace Fvlt7 := Fvlt7.other U12 (Or.inl (Ne.symm ne_a1_lt7))
  replace Llb10 := Llb10.other U12 (Ne.symm ne_a1_lb10)
  exact W.retV C d3_26 (FW.ok hS (by decide) (by decide) (fun vm' hW' => ⟨rfl, K0, E_a1, (chw C.2.1 hW' (own_ew hw) Hc).1, lb4, Fv, Fc, Llb4⟩))

theorem ef_i1_0 (m : MethodId) (a1 : Addr) (b1 : Addr) : entryFrame m #[(.ref a1), (.ref b1)] 2 = mkF m 0 #[.val (.ref a1), .val (.ref b1)] [] := by first | (simp [entryFrame, mkF, argsToLocals, Value.category]; done) | rfl
set_option maxRecDepth 65536 in
set_option maxHeartbeats 40000000 in
theorem con_i1_0 (l : Launch) (Z : State) (a0 : Array Value) (hw : ∀ d ∈ tables_1, d.before a0 Z = true) (h0 : Heap) (n0 : Nat) (a1 : Addr) (b1 : Addr) (u0 u1 : Value) (g_a1 : n0 ≤ a1) (E_a1 : Exa Z h0 a1 "java/lang/String") (Fv : Fld Z h0 a1 "java/lang/String" "value" "[B" u0) (Fc : Fld Z h0 a1 "java/lang/String" "coder" "B" u1) (Ls : Al Z h0 b1 .char []) (Z0 : n0 ≤ h0.size) : ConW l Z y2 jdk_42_method_3_code 2 none ({ frames := 2, cells := 4, slots := 8, locals := 29 } : Room) #[(.ref a1), (.ref b1)] h0 n0 (fun vm => CHv Z own_EL vm h0 ∧ Safe Z own_EL vm h0 a1) (fun v h vm => v = none ∧ Keep h0 h [a1] ∧ Exa Z h a1 "java/lang/String" ∧ CHv Z own_EL vm h ∧ ∃ d, Fld Z h a1 "java/lang/String" "value" "[B" (.ref d) ∧ Fld Z h a1 "java/lang/String" "coder" "B" (.int 0) ∧ Al Z h d .byte []) := by
  refine ConW.of pf_2 (fun m => ef_i1_0 m a1 b1) ?_
  intro p e s m below meth c C PV hS
  obtain ⟨Hc, Sf_a1⟩ := PV
  have K0 : Keep h0 h0 [a1] := Keep.refl _ _
  refine W.aloadN C d2_0 rfl rfl ?_
  refine W.aloadN C d2_1 rfl rfl ?_
  refine W.iconst C (0 : Int32) d2_2 rfl ?_
  refine W.aloadN C d2_3 rfl rfl ?_
  refine W.arrlen C (0 : Int32) d2_4 Ls rfl ?_
  refine W.aconstNull C d2_5 ?_
  refine W.callIW C hS (y' := y3) d2_6 rfl (tkw hw 11 rfl) (tkw hw 12 rfl) (tkw hw 6 rfl) (tkw hw 14 rfl) (by decide) (a := a1) (argsL := [(.ref b1), (.int (0 : Int32)), (.int (0 : Int32)), .null]) (rest := []) rfl (lenOf pd_4 rfl) (con_i4_0 l Z a0 hw h0 n0 a1 b1 u0 u1 g_a1 E_a1 Fv Fc Z0) (fun vm' hW' => ⟨(chw C.2.1 hW' (own_ew hw) Hc).1, (chw C.2.1 hW' (own_ew hw) Hc).safe E_a1.lt Sf_a1⟩) 0 4 8 rfl rfl rfl (by decide) (by decide) (by decide) (by decide) rfl ?_
  rintro _ hp1 vm2 ⟨rfl, Kc, E_n, Hn, d, Fv_n, Fc_n, Ld⟩ _ C hSn
  replace Z0 := Nat.le_trans Z0 Kc.1
  replace K0 := K0.trans Kc (allS (Or.inl (List.mem_of_getElem? (i := 0) rfl)) all0)
  replace E_a1 := E_n
  replace Fv := Fv_n
  replace Fc := Fc_n
  replace Hc := Hn
  replace hS := hSn
  exact W.retV C d2_9 (FW.ok hS (by decide) (by decide) (fun vm' hW' => ⟨rfl, K0, E_a1, (chw C.2.1 hW' (own_ew hw) Hc).1, d, Fv, Fc, Ld⟩))

theorem own_ch (x : Int32) : ¬ (255 : Int32) < ((x &&& 255).toUInt32.toUInt16.toUInt32.toInt32).toUInt32.toUInt16.toUInt32.toInt32 := by
  rw [i2c_mask, i2c_mask]
  have e1 : (x &&& 255).toInt = x.toInt % (2 ^ 8 : Nat) := c_mask x 255 8 (by decide) (by decide)
  intro q
  have q := Int32.lt_iff_toInt_lt.mp q
  have z : (255 : Int32).toInt = 255 := rfl
  omega
theorem own_sk {Z : State} {h h' : Heap} {C n d K0 : String} {w : Value} {a : Addr} (F : Sta Z h C n d w) (E : Exa Z h a K0) (K : Keep h h' [a]) : Sta Z h' C n d w := by
  obtain ⟨cf, i, k, f, st, cell, h1, h2, h3, h4, h5, h6, h7⟩ := F
  obtain ⟨c2, k2, e1, -, -, e4, -⟩ := E
  refine ⟨cf, i, k, f, st, cell, h1, h2, h3, h4, K.2.1 st cell h5 (fun q => ?_), h6, h7⟩
  cases List.mem_singleton.mp q
  cases h5.symm.trans e1
  rw [e4] at h6; cases h6
abbrev y1 : MethodName := ⟨"com/example/holdfast/holdfast/cli/OptionTakesValuePinLaw", "draw", "(II)Ljava/lang/String;"⟩
theorem d1_0 : decode method_2_code 0 = .ok (.iload_n 1, 1) := by decide +kernel
theorem d1_1 : decode method_2_code 1 = .ok (.iconst 3, 1) := by decide +kernel
theorem d1_2 : decode method_2_code 2 = .ok (.iand, 1) := by decide +kernel
theorem d1_3 : decode method_2_code 3 = .ok (.istore_n 2, 1) := by decide +kernel
theorem d1_4 : decode method_2_code 4 = .ok (.iload_n 0, 1) := by decide +kernel
theorem d1_5 : decode method_2_code 5 = .ok (.sipush 255, 3) := by decide +kernel
theorem d1_8 : decode method_2_code 8 = .ok (.iand, 1) := by decide +kernel
theorem d1_9 : decode method_2_code 9 = .ok (.i2c, 1) := by decide +kernel
theorem d1_10 : decode method_2_code 10 = .ok (.istore_n 3, 1) := by decide +kernel
theorem d1_11 : decode method_2_code 11 = .ok (.iload_n 0, 1) := by decide +kernel
theorem d1_12 : decode method_2_code 12 = .ok (.bipush 8, 2) := by decide +kernel
theorem d1_14 : decode method_2_code 14 = .ok (.iushr, 1) := by decide +kernel
theorem d1_15 : decode method_2_code 15 = .ok (.sipush 255, 3) := by decide +kernel
theorem d1_18 : decode method_2_code 18 = .ok (.iand, 1) := by decide +kernel
theorem d1_19 : decode method_2_code 19 = .ok (.i2c, 1) := by decide +kernel
theorem d1_20 : decode method_2_code 20 = .ok (.istore 4, 2) := by decide +kernel
theorem d1_22 : decode method_2_code 22 = .ok (.iload_n 0, 1) := by decide +kernel
theorem d1_23 : decode method_2_code 23 = .ok (.bipush 16, 2) := by decide +kernel
theorem d1_25 : decode method_2_code 25 = .ok (.iushr, 1) := by decide +kernel
theorem d1_26 : decode method_2_code 26 = .ok (.sipush 255, 3) := by decide +kernel
theorem d1_29 : decode method_2_code 29 = .ok (.iand, 1) := by decide +kernel
theorem d1_30 : decode method_2_code 30 = .ok (.i2c, 1) := by decide +kernel
theorem d1_31 : decode method_2_code 31 = .ok (.istore 5, 2) := by decide +kernel
theorem d1_33 : decode method_2_code 33 = .ok (.iload_n 2, 1) := by decide +kernel
theorem d1_34 : decode method_2_code 34 = .ok (.ifCond .ne 14, 3) := by decide +kernel
theorem d1_37 : decode method_2_code 37 = .ok (.new 7, 3) := by decide +kernel
theorem d1_40 : decode method_2_code 40 = .ok (.dup, 1) := by decide +kernel
theorem d1_41 : decode method_2_code 41 = .ok (.iconst 0, 1) := by decide +kernel
theorem d1_42 : decode method_2_code 42 = .ok (.newarray .char, 2) := by decide +kernel
theorem d1_44 : decode method_2_code 44 = .ok (.invokespecial 9, 3) := by decide +kernel
theorem d1_47 : decode method_2_code 47 = .ok (.areturn, 1) := by decide +kernel
theorem d1_48 : decode method_2_code 48 = .ok (.iload_n 2, 1) := by decide +kernel
theorem d1_49 : decode method_2_code 49 = .ok (.iconst 1, 1) := by decide +kernel
theorem d1_50 : decode method_2_code 50 = .ok (.if_icmp .ne 18, 3) := by decide +kernel
theorem d1_53 : decode method_2_code 53 = .ok (.new 7, 3) := by decide +kernel
theorem d1_56 : decode method_2_code 56 = .ok (.dup, 1) := by decide +kernel
theorem d1_57 : decode method_2_code 57 = .ok (.iconst 1, 1) := by decide +kernel
theorem d1_58 : decode method_2_code 58 = .ok (.newarray .char, 2) := by decide +kernel
theorem d1_60 : decode method_2_code 60 = .ok (.dup, 1) := by decide +kernel
theorem d1_61 : decode method_2_code 61 = .ok (.iconst 0, 1) := by decide +kernel
theorem d1_62 : decode method_2_code 62 = .ok (.iload_n 3, 1) := by decide +kernel
theorem d1_63 : decode method_2_code 63 = .ok (.castore, 1) := by decide +kernel
theorem d1_64 : decode method_2_code 64 = .ok (.invokespecial 9, 3) := by decide +kernel
theorem d1_67 : decode method_2_code 67 = .ok (.areturn, 1) := by decide +kernel
theorem d1_68 : decode method_2_code 68 = .ok (.iload_n 2, 1) := by decide +kernel
theorem d1_69 : decode method_2_code 69 = .ok (.iconst 2, 1) := by decide +kernel
theorem d1_70 : decode method_2_code 70 = .ok (.if_icmp .ne 23, 3) := by decide +kernel
theorem d1_73 : decode method_2_code 73 = .ok (.new 7, 3) := by decide +kernel
theorem d1_76 : decode method_2_code 76 = .ok (.dup, 1) := by decide +kernel
theorem d1_77 : decode method_2_code 77 = .ok (.iconst 2, 1) := by decide +kernel
theorem d1_78 : decode method_2_code 78 = .ok (.newarray .char, 2) := by decide +kernel
theorem d1_80 : decode method_2_code 80 = .ok (.dup, 1) := by decide +kernel
theorem d1_81 : decode method_2_code 81 = .ok (.iconst 0, 1) := by decide +kernel
theorem d1_82 : decode method_2_code 82 = .ok (.iload_n 3, 1) := by decide +kernel
theorem d1_83 : decode method_2_code 83 = .ok (.castore, 1) := by decide +kernel
theorem d1_84 : decode method_2_code 84 = .ok (.dup, 1) := by decide +kernel
theorem d1_85 : decode method_2_code 85 = .ok (.iconst 1, 1) := by decide +kernel
theorem d1_86 : decode method_2_code 86 = .ok (.iload 4, 2) := by decide +kernel
theorem d1_88 : decode method_2_code 88 = .ok (.castore, 1) := by decide +kernel
theorem d1_89 : decode method_2_code 89 = .ok (.invokespecial 9, 3) := by decide +kernel
theorem d1_92 : decode method_2_code 92 = .ok (.areturn, 1) := by decide +kernel
theorem d1_93 : decode method_2_code 93 = .ok (.new 7, 3) := by decide +kernel
theorem d1_96 : decode method_2_code 96 = .ok (.dup, 1) := by decide +kernel
theorem d1_97 : decode method_2_code 97 = .ok (.iconst 3, 1) := by decide +kernel
theorem d1_98 : decode method_2_code 98 = .ok (.newarray .char, 2) := by decide +kernel
theorem d1_100 : decode method_2_code 100 = .ok (.dup, 1) := by decide +kernel
theorem d1_101 : decode method_2_code 101 = .ok (.iconst 0, 1) := by decide +kernel
theorem d1_102 : decode method_2_code 102 = .ok (.iload_n 3, 1) := by decide +kernel
theorem d1_103 : decode method_2_code 103 = .ok (.castore, 1) := by decide +kernel
theorem d1_104 : decode method_2_code 104 = .ok (.dup, 1) := by decide +kernel
theorem d1_105 : decode method_2_code 105 = .ok (.iconst 1, 1) := by decide +kernel
theorem d1_106 : decode method_2_code 106 = .ok (.iload 4, 2) := by decide +kernel
theorem d1_108 : decode method_2_code 108 = .ok (.castore, 1) := by decide +kernel
theorem d1_109 : decode method_2_code 109 = .ok (.dup, 1) := by decide +kernel
theorem d1_110 : decode method_2_code 110 = .ok (.iconst 2, 1) := by decide +kernel
theorem d1_111 : decode method_2_code 111 = .ok (.iload 5, 2) := by decide +kernel
theorem d1_113 : decode method_2_code 113 = .ok (.castore, 1) := by decide +kernel
theorem d1_114 : decode method_2_code 114 = .ok (.invokespecial 9, 3) := by decide +kernel
theorem d1_117 : decode method_2_code 117 = .ok (.areturn, 1) := by decide +kernel
theorem pf_1 : plainFor y1 = true := by first | exact plainFor_of_name (by first | (simp [plainName, overriddenIn]; done) | decide +kernel) | decide +kernel
theorem ef_dr (m : MethodId) (p0 : Int32) (p1 : Int32) : entryFrame m #[(.int p0), (.int p1)] 6 = mkF m 0 #[.val (.int p0), .val (.int p1), .unset, .unset, .unset, .unset] [] := by first | (simp [entryFrame, mkF, argsToLocals, Value.category]; done) | rfl
theorem pd_5 : parseMethodDescriptor "([C)V" = some ⟨[(.array .char)], none⟩ := by decide +kernel
set_option maxRecDepth 65536 in
set_option maxHeartbeats 40000000 in
theorem con_dr (l : Launch) (Z : State) (a0 : Array Value) (hw : ∀ d ∈ tables_1, d.before a0 Z = true) (h0 : Heap) (n0 : Nat) (p0 : Int32) (p1 : Int32) (cv : Int32) (S_C : Sta Z h0 "java/lang/String" "COMPACT_STRINGS" "Z" (.int cv)) (hcv : ¬ cv = 0) (Z0 : n0 ≤ h0.size) : ConW l Z y1 method_2_code 6 (some (.object "java/lang/String")) ({ frames := 4, cells := 6, slots := 12, locals := 66 } : Room) #[(.int p0), (.int p1)] h0 n0 (fun vm => CHv Z own_EL vm h0) (fun v h vm => ∃ a, v = some (.ref a) ∧ Ext h0 h ∧ CHv Z own_EL vm h) := by
  refine ConW.of pf_1 (fun m => ef_dr m p0 p1) ?_
  intro p e s m below meth c C PV hS
  have Hc := PV
  have K0 : Keep h0 h0 [] := Keep.refl _ _
  refine W.iloadN C d1_0 rfl ?_
  refine W.iconst C (3 : Int32) d1_1 rfl ?_
  refine W.iand C d1_2 ?_
  refine W.istoreN C #[.val (.int p0), .val (.int p1), .val (.int (p1 &&& (3 : Int32))), .unset, .unset, .unset] d1_3 rfl ?_
  refine W.iloadN C d1_4 rfl ?_
  refine W.sipush C (255 : Int32) d1_5 rfl ?_
  refine W.iand C d1_8 ?_
  refine W.i2c C d1_9 ?_
  refine W.istoreN C #[.val (.int p0), .val (.int p1), .val (.int (p1 &&& (3 : Int32))), .val (.int (((p0 &&& (255 : Int32))).toUInt32.toUInt16.toUInt32.toInt32)), .unset, .unset] d1_10 rfl ?_
  refine W.iloadN C d1_11 rfl ?_
  refine W.bipush C (8 : Int32) d1_12 rfl ?_
  refine W.iushr C d1_14 ?_
  refine W.sipush C (255 : Int32) d1_15 rfl ?_
  refine W.iand C d1_18 ?_
  refine W.i2c C d1_19 ?_
  refine W.istore C #[.val (.int p0), .val (.int p1), .val (.int (p1 &&& (3 : Int32))), .val (.int (((p0 &&& (255 : Int32))).toUInt32.toUInt16.toUInt32.toInt32)), .val (.int (((((p0).toUInt32 >>> ((8 : Int32) &&& 31).toUInt32).toInt32 &&& (255 : Int32))).toUInt32.toUInt16.toUInt32.toInt32)), .unset] d1_20 rfl ?_
  refine W.iloadN C d1_22 rfl ?_
  refine W.bipush C (16 : Int32) d1_23 rfl ?_
  refine W.iushr C d1_25 ?_
  refine W.sipush C (255 : Int32) d1_26 rfl ?_
  refine W.iand C d1_29 ?_
  refine W.i2c C d1_30 ?_
  refine W.istore C #[.val (.int p0), .val (.int p1), .val (.int (p1 &&& (3 : Int32))), .val (.int (((p0 &&& (255 : Int32))).toUInt32.toUInt16.toUInt32.toInt32)), .val (.int (((((p0).toUInt32 >>> ((8 : Int32) &&& 31).toUInt32).toInt32 &&& (255 : Int32))).toUInt32.toUInt16.toUInt32.toInt32)), .val (.int (((((p0).toUInt32 >>> ((16 : Int32) &&& 31).toUInt32).toInt32 &&& (255 : Int32))).toUInt32.toUInt16.toUInt32.toInt32))] d1_31 rfl ?_
  refine W.iloadN C d1_33 rfl ?_
  refine W.if_ne C 48 d1_34 rfl (fun bq1 => ?_) (fun bq1 => ?_)
  · skip
    refine W.iloadN C d1_48 rfl ?_
    refine W.iconst C (1 : Int32) d1_49 rfl ?_
    refine W.icmp_ne C 68 d1_50 rfl (fun bq2 => ?_) (fun bq2 => ?_)
    · skip
      refine W.iloadN C d1_68 rfl ?_
      refine W.iconst C (2 : Int32) d1_69 rfl ?_
      refine W.icmp_ne C 93 d1_70 rfl (fun bq3 => ?_) (fun bq3 => ?_)
      · skip
        refine W.new C d1_93 (tkw hw 4 rfl) (tkw hw 5 rfl) (tkw hw 6 rfl) 1 4 rfl rfl (by decide) (by decide) ?_
        intro ob1 hp2 hob1 Eob1 Aob1 Dob1
        have Sf_ob1 : Safe Z own_EL s.vm h0 ob1 := Safe.new (Nat.le_of_eq hob1.symm)
        have ge_ob1 : n0 ≤ ob1 := by rw [hob1]; exact Z0
        have sz_ob1 : h0.size ≤ ob1 := by rw [hob1]; exact K0.1
        replace Sf_ob1 := Safe.ext Eob1 Hc Sf_ob1
        replace Hc := CHv.ext Eob1 Hc
        replace S_C := S_C.ext Eob1
        replace hS := hS.le Eob1.1
        replace Z0 := Nat.le_trans Z0 Eob1.1
        replace K0 := K0.ext Eob1
        have Fob1_coder : Fld Z hp2 ob1 "java/lang/String" "coder" "B" (.int (0 : Int32)) := Dob1 (Or.inr (tkw hw 31 rfl)) (ty := .byte) (by decide)
        have Fob1_value : Fld Z hp2 ob1 "java/lang/String" "value" "[B" .null := Dob1 (Or.inr (tkw hw 33 rfl)) (ty := (.array .byte)) (by decide)
        refine W.dup C d1_96 rfl ?_
        refine W.iconst C (3 : Int32) d1_97 rfl ?_
        refine W.newP C 3 3 d1_98 (tkw hw 7 rfl) rfl (Nat.le_refl _) (by decide) 2 7 rfl rfl (by decide) (by decide) ?_
        intro ob3 hp4 hob3 Eob3 Lob3
        have Sf_ob3 : Safe Z own_EL s.vm hp2 ob3 := Safe.new (Nat.le_of_eq hob3.symm)
        have ne_ob1_ob3 : ob1 ≠ ob3 := Nat.ne_of_lt (by rw [hob3]; exact Aob1.lt)
        have ge_ob3 : n0 ≤ ob3 := by rw [hob3]; exact Z0
        have sz_ob3 : h0.size ≤ ob3 := by rw [hob3]; exact K0.1
        replace Sf_ob1 := Safe.ext Eob3 Hc Sf_ob1
        replace Sf_ob3 := Safe.ext Eob3 Hc Sf_ob3
        replace Hc := CHv.ext Eob3 Hc
        replace S_C := S_C.ext Eob3
        replace hS := hS.le Eob3.1
        replace Z0 := Nat.le_trans Z0 Eob3.1
        replace K0 := K0.ext Eob3
        replace Aob1 := Aob1.ext Eob3
        replace Fob1_coder := Fob1_coder.ext Eob3
        replace Fob1_value := Fob1_value.ext Eob3
        replace Lob3 : Al Z hp4 ob3 .char [(.int (0 : Int32)), (.int (0 : Int32)), (.int (0 : Int32))] := Lob3
        refine W.dup C d1_100 rfl ?_
        refine W.iconst C (0 : Int32) d1_101 rfl ?_
        refine W.iloadN C d1_102 rfl ?_
        refine W.castore C 0 d1_103 Lob3 rfl (show (0 : Nat) < 3 by decide) ge_ob3 ?_
        intro hp5 U6 Lob3_
        replace Sf_ob1 := Safe.wr U6 Sf_ob3 Hc Sf_ob1
        have Sf_new := Safe.wr U6 Sf_ob3 Hc Sf_ob3
        replace Hc := CHv.wr U6 Sf_ob3 Hc
        replace Sf_ob3 := Sf_new
        replace S_C := S_C.wr U6
        replace hS := hS.le (Nat.le_of_eq (U6.size).symm)
        replace Z0 := Nat.le_trans Z0 (Nat.le_of_eq (U6.size).symm)
        replace K0 := K0.wr U6 (Or.inr sz_ob3)
        replace Aob1 := Aob1.wr U6
        replace Fob1_coder := Fob1_coder.other U6 (Or.inl ne_ob1_ob3)
        replace Fob1_value := Fob1_value.other U6 (Or.inl ne_ob1_ob3)
        replace Lob3 : Al Z hp5 ob3 .char [(.int ((((p0 &&& (255 : Int32))).toUInt32.toUInt16.toUInt32.toInt32)).toUInt32.toUInt16.toUInt32.toInt32), (.int (0 : Int32)), (.int (0 : Int32))] := Lob3_
        refine W.dup C d1_104 rfl ?_
        refine W.iconst C (1 : Int32) d1_105 rfl ?_
        refine W.iload C d1_106 rfl ?_
        refine W.castore C 1 d1_108 Lob3 rfl (show (1 : Nat) < 3 by decide) ge_ob3 ?_
        intro hp7 U8 Lob3_
        replace Sf_ob1 := Safe.wr U8 Sf_ob3 Hc Sf_ob1
        have Sf_new := Safe.wr U8 Sf_ob3 Hc Sf_ob3
        replace Hc := CHv.wr U8 Sf_ob3 Hc
        replace Sf_ob3 := Sf_new
        replace S_C := S_C.wr U8
        replace hS := hS.le (Nat.le_of_eq (U8.size).symm)
        replace Z0 := Nat.le_trans Z0 (Nat.le_of_eq (U8.size).symm)
        replace K0 := K0.wr U8 (Or.inr sz_ob3)
        replace Aob1 := Aob1.wr U8
        replace Fob1_coder := Fob1_coder.other U8 (Or.inl ne_ob1_ob3)
        replace Fob1_value := Fob1_value.other U8 (Or.inl ne_ob1_ob3)
        replace Lob3 : Al Z hp7 ob3 .char [(.int ((((p0 &&& (255 : Int32))).toUInt32.toUInt16.toUInt32.toInt32)).toUInt32.toUInt16.toUInt32.toInt32), (.int ((((((p0).toUInt32 >>> ((8 : Int32) &&& 31).toUInt32).toInt32 &&& (255 : Int32))).toUInt32.toUInt16.toUInt32.toInt32)).toUInt32.toUInt16.toUInt32.toInt32), (.int (0 : Int32))] := Lob3_
        refine W.dup C d1_109 rfl ?_
        refine W.iconst C (2 : Int32) d1_110 rfl ?_
        refine W.iload C d1_111 rfl ?_
        refine W.castore C 2 d1_113 Lob3 rfl (show (2 : Nat) < 3 by decide) ge_ob3 ?_
        intro hp9 U10 Lob3_
        replace Sf_ob1 := Safe.wr U10 Sf_ob3 Hc Sf_ob1
        have Sf_new := Safe.wr U10 Sf_ob3 Hc Sf_ob3
        replace Hc := CHv.wr U10 Sf_ob3 Hc
        replace Sf_ob3 := Sf_new
        replace S_C := S_C.wr U10
        replace hS := hS.le (Nat.le_of_eq (U10.size).symm)
        replace Z0 := Nat.le_trans Z0 (Nat.le_of_eq (U10.size).symm)
        replace K0 := K0.wr U10 (Or.inr sz_ob3)
        replace Aob1 := Aob1.wr U10
        replace Fob1_coder := Fob1_coder.other U10 (Or.inl ne_ob1_ob3)
        replace Fob1_value := Fob1_value.other U10 (Or.inl ne_ob1_ob3)
        replace Lob3 : Al Z hp9 ob3 .char [(.int ((((p0 &&& (255 : Int32))).toUInt32.toUInt16.toUInt32.toInt32)).toUInt32.toUInt16.toUInt32.toInt32), (.int ((((((p0).toUInt32 >>> ((8 : Int32) &&& 31).toUInt32).toInt32 &&& (255 : Int32))).toUInt32.toUInt16.toUInt32.toInt32)).toUInt32.toUInt16.toUInt32.toInt32), (.int ((((((p0).toUInt32 >>> ((16 : Int32) &&& 31).toUInt32).toInt32 &&& (255 : Int32))).toUInt32.toUInt16.toUInt32.toInt32)).toUInt32.toUInt16.toUInt32.toInt32)] := Lob3_
        refine W.callI C (y' := y2) d1_114 rfl (tkw hw 8 rfl) (tkw hw 9 rfl) (tkw hw 6 rfl) (tkw hw 10 rfl) (by decide) (a := ob1) (argsL := [(.ref ob3)]) (rest := [(.ref ob1)]) rfl (lenOf pd_5 rfl) (con_i1_3 l Z a0 hw hp9 n0 ob1 ob3 (((((p0 &&& (255 : Int32))).toUInt32.toUInt16.toUInt32.toInt32)).toUInt32.toUInt16.toUInt32.toInt32) (((((((p0).toUInt32 >>> ((8 : Int32) &&& 31).toUInt32).toInt32 &&& (255 : Int32))).toUInt32.toUInt16.toUInt32.toInt32)).toUInt32.toUInt16.toUInt32.toInt32) (((((((p0).toUInt32 >>> ((16 : Int32) &&& 31).toUInt32).toInt32 &&& (255 : Int32))).toUInt32.toUInt16.toUInt32.toInt32)).toUInt32.toUInt16.toUInt32.toInt32) (own_ch _) (own_ch _) (own_ch _) _ _ cv ne_ob1_ob3 ge_ob1 Aob1 Fob1_value Fob1_coder Lob3 S_C hcv Z0) 1 3 10 rfl rfl rfl (by decide) (by decide) (by decide) (by decide) rfl ?_
        rintro _ hp11 ⟨rfl, Kc, -, -⟩
        have Sf_ob1_n := Safe.keep Kc (allS Sf_ob1 all0) Hc Sf_ob1
        have Sf_ob3_n := Safe.keep Kc (allS Sf_ob1 all0) Hc Sf_ob3
        replace Hc := CHv.keep Kc (allS Sf_ob1 all0) Hc
        replace Sf_ob1 := Sf_ob1_n
        replace Sf_ob3 := Sf_ob3_n
        replace hS := hS.le Kc.1
        replace Z0 := Nat.le_trans Z0 Kc.1
        replace K0 := K0.trans Kc (allS (Or.inr sz_ob1) all0)
        replace Lob3 := Lob3.keep Kc (ninS (Ne.symm ne_ob1_ob3) nin0)
        exact W.aret C d1_117 rfl rfl rfl (FW.ok hS (by decide) (by decide) (fun vm' hW' => ⟨ob1, rfl, ext0 K0, (chw C.2.1 hW' (own_ew hw) Hc).1⟩))
      · skip
        refine W.new C d1_73 (tkw hw 4 rfl) (tkw hw 5 rfl) (tkw hw 6 rfl) 1 4 rfl rfl (by decide) (by decide) ?_
        intro ob12 hp13 hob12 Eob12 Aob12 Dob12
        have Sf_ob12 : Safe Z own_EL s.vm h0 ob12 := Safe.new (Nat.le_of_eq hob12.symm)
        have ge_ob12 : n0 ≤ ob12 := by rw [hob12]; exact Z0
        have sz_ob12 : h0.size ≤ ob12 := by rw [hob12]; exact K0.1
        replace Sf_ob12 := Safe.ext Eob12 Hc Sf_ob12
        replace Hc := CHv.ext Eob12 Hc
        replace S_C := S_C.ext Eob12
        replace hS := hS.le Eob12.1
        replace Z0 := Nat.le_trans Z0 Eob12.1
        replace K0 := K0.ext Eob12
        have Fob12_coder : Fld Z hp13 ob12 "java/lang/String" "coder" "B" (.int (0 : Int32)) := Dob12 (Or.inr (tkw hw 31 rfl)) (ty := .byte) (by decide)
        have Fob12_value : Fld Z hp13 ob12 "java/lang/String" "value" "[B" .null := Dob12 (Or.inr (tkw hw 33 rfl)) (ty := (.array .byte)) (by decide)
        refine W.dup C d1_76 rfl ?_
        refine W.iconst C (2 : Int32) d1_77 rfl ?_
        refine W.newP C 2 2 d1_78 (tkw hw 7 rfl) rfl (Nat.le_refl _) (by decide) 2 6 rfl rfl (by decide) (by decide) ?_
        intro ob14 hp15 hob14 Eob14 Lob14
        have Sf_ob14 : Safe Z own_EL s.vm hp13 ob14 := Safe.new (Nat.le_of_eq hob14.symm)
        have ne_ob12_ob14 : ob12 ≠ ob14 := Nat.ne_of_lt (by rw [hob14]; exact Aob12.lt)
        have ge_ob14 : n0 ≤ ob14 := by rw [hob14]; exact Z0
        have sz_ob14 : h0.size ≤ ob14 := by rw [hob14]; exact K0.1
        replace Sf_ob12 := Safe.ext Eob14 Hc Sf_ob12
        replace Sf_ob14 := Safe.ext Eob14 Hc Sf_ob14
        replace Hc := CHv.ext Eob14 Hc
        replace S_C := S_C.ext Eob14
        replace hS := hS.le Eob14.1
        replace Z0 := Nat.le_trans Z0 Eob14.1
        replace K0 := K0.ext Eob14
        replace Aob12 := Aob12.ext Eob14
        replace Fob12_coder := Fob12_coder.ext Eob14
        replace Fob12_value := Fob12_value.ext Eob14
        replace Lob14 : Al Z hp15 ob14 .char [(.int (0 : Int32)), (.int (0 : Int32))] := Lob14
        refine W.dup C d1_80 rfl ?_
        refine W.iconst C (0 : Int32) d1_81 rfl ?_
        refine W.iloadN C d1_82 rfl ?_
        refine W.castore C 0 d1_83 Lob14 rfl (show (0 : Nat) < 2 by decide) ge_ob14 ?_
        intro hp16 U17 Lob14_
        replace Sf_ob12 := Safe.wr U17 Sf_ob14 Hc Sf_ob12
        have Sf_new := Safe.wr U17 Sf_ob14 Hc Sf_ob14
        replace Hc := CHv.wr U17 Sf_ob14 Hc
        replace Sf_ob14 := Sf_new
        replace S_C := S_C.wr U17
        replace hS := hS.le (Nat.le_of_eq (U17.size).symm)
        replace Z0 := Nat.le_trans Z0 (Nat.le_of_eq (U17.size).symm)
        replace K0 := K0.wr U17 (Or.inr sz_ob14)
        replace Aob12 := Aob12.wr U17
        replace Fob12_coder := Fob12_coder.other U17 (Or.inl ne_ob12_ob14)
        replace Fob12_value := Fob12_value.other U17 (Or.inl ne_ob12_ob14)
        replace Lob14 : Al Z hp16 ob14 .char [(.int ((((p0 &&& (255 : Int32))).toUInt32.toUInt16.toUInt32.toInt32)).toUInt32.toUInt16.toUInt32.toInt32), (.int (0 : Int32))] := Lob14_
        refine W.dup C d1_84 rfl ?_
        refine W.iconst C (1 : Int32) d1_85 rfl ?_
        refine W.iload C d1_86 rfl ?_
        refine W.castore C 1 d1_88 Lob14 rfl (show (1 : Nat) < 2 by decide) ge_ob14 ?_
        intro hp18 U19 Lob14_
        replace Sf_ob12 := Safe.wr U19 Sf_ob14 Hc Sf_ob12
        have Sf_new := Safe.wr U19 Sf_ob14 Hc Sf_ob14
        replace Hc := CHv.wr U19 Sf_ob14 Hc
        replace Sf_ob14 := Sf_new
        replace S_C := S_C.wr U19
        replace hS := hS.le (Nat.le_of_eq (U19.size).symm)
        replace Z0 := Nat.le_trans Z0 (Nat.le_of_eq (U19.size).symm)
        replace K0 := K0.wr U19 (Or.inr sz_ob14)
        replace Aob12 := Aob12.wr U19
        replace Fob12_coder := Fob12_coder.other U19 (Or.inl ne_ob12_ob14)
        replace Fob12_value := Fob12_value.other U19 (Or.inl ne_ob12_ob14)
        replace Lob14 : Al Z hp18 ob14 .char [(.int ((((p0 &&& (255 : Int32))).toUInt32.toUInt16.toUInt32.toInt32)).toUInt32.toUInt16.toUInt32.toInt32), (.int ((((((p0).toUInt32 >>> ((8 : Int32) &&& 31).toUInt32).toInt32 &&& (255 : Int32))).toUInt32.toUInt16.toUInt32.toInt32)).toUInt32.toUInt16.toUInt32.toInt32)] := Lob14_
        refine W.callI C (y' := y2) d1_89 rfl (tkw hw 8 rfl) (tkw hw 9 rfl) (tkw hw 6 rfl) (tkw hw 10 rfl) (by decide) (a := ob12) (argsL := [(.ref ob14)]) (rest := [(.ref ob12)]) rfl (lenOf pd_5 rfl) (con_i1_2 l Z a0 hw hp18 n0 ob12 ob14 (((((p0 &&& (255 : Int32))).toUInt32.toUInt16.toUInt32.toInt32)).toUInt32.toUInt16.toUInt32.toInt32) (((((((p0).toUInt32 >>> ((8 : Int32) &&& 31).toUInt32).toInt32 &&& (255 : Int32))).toUInt32.toUInt16.toUInt32.toInt32)).toUInt32.toUInt16.toUInt32.toInt32) (own_ch _) (own_ch _) _ _ cv ne_ob12_ob14 ge_ob12 Aob12 Fob12_value Fob12_coder Lob14 S_C hcv Z0) 1 3 8 rfl rfl rfl (by decide) (by decide) (by decide) (by decide) rfl ?_
        rintro _ hp20 ⟨rfl, Kc, -, -⟩
        have Sf_ob12_n := Safe.keep Kc (allS Sf_ob12 all0) Hc Sf_ob12
        have Sf_ob14_n := Safe.keep Kc (allS Sf_ob12 all0) Hc Sf_ob14
        replace Hc := CHv.keep Kc (allS Sf_ob12 all0) Hc
        replace Sf_ob12 := Sf_ob12_n
        replace Sf_ob14 := Sf_ob14_n
        replace hS := hS.le Kc.1
        replace Z0 := Nat.le_trans Z0 Kc.1
        replace K0 := K0.trans Kc (allS (Or.inr sz_ob12) all0)
        replace Lob14 := Lob14.keep Kc (ninS (Ne.symm ne_ob12_ob14) nin0)
        exact W.aret C d1_92 rfl rfl rfl (FW.ok hS (by decide) (by decide) (fun vm' hW' => ⟨ob12, rfl, ext0 K0, (chw C.2.1 hW' (own_ew hw) Hc).1⟩))
    · skip
      refine W.new C d1_53 (tkw hw 4 rfl) (tkw hw 5 rfl) (tkw hw 6 rfl) 1 4 rfl rfl (by decide) (by decide) ?_
      intro ob21 hp22 hob21 Eob21 Aob21 Dob21
      have Sf_ob21 : Safe Z own_EL s.vm h0 ob21 := Safe.new (Nat.le_of_eq hob21.symm)
      have ge_ob21 : n0 ≤ ob21 := by rw [hob21]; exact Z0
      have sz_ob21 : h0.size ≤ ob21 := by rw [hob21]; exact K0.1
      replace Sf_ob21 := Safe.ext Eob21 Hc Sf_ob21
      replace Hc := CHv.ext Eob21 Hc
      replace S_C := S_C.ext Eob21
      replace hS := hS.le Eob21.1
      replace Z0 := Nat.le_trans Z0 Eob21.1
      replace K0 := K0.ext Eob21
      have Fob21_coder : Fld Z hp22 ob21 "java/lang/String" "coder" "B" (.int (0 : Int32)) := Dob21 (Or.inr (tkw hw 31 rfl)) (ty := .byte) (by decide)
      have Fob21_value : Fld Z hp22 ob21 "java/lang/String" "value" "[B" .null := Dob21 (Or.inr (tkw hw 33 rfl)) (ty := (.array .byte)) (by decide)
      refine W.dup C d1_56 rfl ?_
      refine W.iconst C (1 : Int32) d1_57 rfl ?_
      refine W.newP C 1 1 d1_58 (tkw hw 7 rfl) rfl (Nat.le_refl _) (by decide) 2 5 rfl rfl (by decide) (by decide) ?_
      intro ob23 hp24 hob23 Eob23 Lob23
      have Sf_ob23 : Safe Z own_EL s.vm hp22 ob23 := Safe.new (Nat.le_of_eq hob23.symm)
      have ne_ob21_ob23 : ob21 ≠ ob23 := Nat.ne_of_lt (by rw [hob23]; exact Aob21.lt)
      have ge_ob23 : n0 ≤ ob23 := by rw [hob23]; exact Z0
      have sz_ob23 : h0.size ≤ ob23 := by rw [hob23]; exact K0.1
      replace Sf_ob21 := Safe.ext Eob23 Hc Sf_ob21
      replace Sf_ob23 := Safe.ext Eob23 Hc Sf_ob23
      replace Hc := CHv.ext Eob23 Hc
      replace S_C := S_C.ext Eob23
      replace hS := hS.le Eob23.1
      replace Z0 := Nat.le_trans Z0 Eob23.1
      replace K0 := K0.ext Eob23
      replace Aob21 := Aob21.ext Eob23
      replace Fob21_coder := Fob21_coder.ext Eob23
      replace Fob21_value := Fob21_value.ext Eob23
      replace Lob23 : Al Z hp24 ob23 .char [(.int (0 : Int32))] := Lob23
      refine W.dup C d1_60 rfl ?_
      refine W.iconst C (0 : Int32) d1_61 rfl ?_
      refine W.iloadN C d1_62 rfl ?_
      refine W.castore C 0 d1_63 Lob23 rfl (show (0 : Nat) < 1 by decide) ge_ob23 ?_
      intro hp25 U26 Lob23_
      replace Sf_ob21 := Safe.wr U26 Sf_ob23 Hc Sf_ob21
      have Sf_new := Safe.wr U26 Sf_ob23 Hc Sf_ob23
      replace Hc := CHv.wr U26 Sf_ob23 Hc
      replace Sf_ob23 := Sf_new
      replace S_C := S_C.wr U26
      replace hS := hS.le (Nat.le_of_eq (U26.size).symm)
      replace Z0 := Nat.le_trans Z0 (Nat.le_of_eq (U26.size).symm)
      replace K0 := K0.wr U26 (Or.inr sz_ob23)
      replace Aob21 := Aob21.wr U26
      replace Fob21_coder := Fob21_coder.other U26 (Or.inl ne_ob21_ob23)
      replace Fob21_value := Fob21_value.other U26 (Or.inl ne_ob21_ob23)
      replace Lob23 : Al Z hp25 ob23 .char [(.int ((((p0 &&& (255 : Int32))).toUInt32.toUInt16.toUInt32.toInt32)).toUInt32.toUInt16.toUInt32.toInt32)] := Lob23_
      refine W.callI C (y' := y2) d1_64 rfl (tkw hw 8 rfl) (tkw hw 9 rfl) (tkw hw 6 rfl) (tkw hw 10 rfl) (by decide) (a := ob21) (argsL := [(.ref ob23)]) (rest := [(.ref ob21)]) rfl (lenOf pd_5 rfl) (con_i1_1 l Z a0 hw hp25 n0 ob21 ob23 (((((p0 &&& (255 : Int32))).toUInt32.toUInt16.toUInt32.toInt32)).toUInt32.toUInt16.toUInt32.toInt32) (own_ch _) _ _ cv ne_ob21_ob23 ge_ob21 Aob21 Fob21_value Fob21_coder Lob23 S_C hcv Z0) 1 3 6 rfl rfl rfl (by decide) (by decide) (by decide) (by decide) rfl ?_
      rintro _ hp27 ⟨rfl, Kc, -, -⟩
      have Sf_ob21_n := Safe.keep Kc (allS Sf_ob21 all0) Hc Sf_ob21
      have Sf_ob23_n := Safe.keep Kc (allS Sf_ob21 all0) Hc Sf_ob23
      replace Hc := CHv.keep Kc (allS Sf_ob21 all0) Hc
      replace Sf_ob21 := Sf_ob21_n
      replace Sf_ob23 := Sf_ob23_n
      replace hS := hS.le Kc.1
      replace Z0 := Nat.le_trans Z0 Kc.1
      replace K0 := K0.trans Kc (allS (Or.inr sz_ob21) all0)
      replace Lob23 := Lob23.keep Kc (ninS (Ne.symm ne_ob21_ob23) nin0)
      exact W.aret C d1_67 rfl rfl rfl (FW.ok hS (by decide) (by decide) (fun vm' hW' => ⟨ob21, rfl, ext0 K0, (chw C.2.1 hW' (own_ew hw) Hc).1⟩))
  · skip
    refine W.new C d1_37 (tkw hw 4 rfl) (tkw hw 5 rfl) (tkw hw 6 rfl) 1 4 rfl rfl (by decide) (by decide) ?_
    intro ob28 hp29 hob28 Eob28 Aob28 Dob28
    have Sf_ob28 : Safe Z own_EL s.vm h0 ob28 := Safe.new (Nat.le_of_eq hob28.symm)
    have ge_ob28 : n0 ≤ ob28 := by rw [hob28]; exact Z0
    have sz_ob28 : h0.size ≤ ob28 := by rw [hob28]; exact K0.1
    replace Sf_ob28 := Safe.ext Eob28 Hc Sf_ob28
    replace Hc := CHv.ext Eob28 Hc
    replace S_C := S_C.ext Eob28
    replace hS := hS.le Eob28.1
    replace Z0 := Nat.le_trans Z0 Eob28.1
    replace K0 := K0.ext Eob28
    have Fob28_coder : Fld Z hp29 ob28 "java/lang/String" "coder" "B" (.int (0 : Int32)) := Dob28 (Or.inr (tkw hw 31 rfl)) (ty := .byte) (by decide)
    have Fob28_value : Fld Z hp29 ob28 "java/lang/String" "value" "[B" .null := Dob28 (Or.inr (tkw hw 33 rfl)) (ty := (.array .byte)) (by decide)
    refine W.dup C d1_40 rfl ?_
    refine W.iconst C (0 : Int32) d1_41 rfl ?_
    refine W.newP C 0 0 d1_42 (tkw hw 7 rfl) rfl (Nat.le_refl _) (by decide) 2 4 rfl rfl (by decide) (by decide) ?_
    intro ob30 hp31 hob30 Eob30 Lob30
    have Sf_ob30 : Safe Z own_EL s.vm hp29 ob30 := Safe.new (Nat.le_of_eq hob30.symm)
    have ne_ob28_ob30 : ob28 ≠ ob30 := Nat.ne_of_lt (by rw [hob30]; exact Aob28.lt)
    have ge_ob30 : n0 ≤ ob30 := by rw [hob30]; exact Z0
    have sz_ob30 : h0.size ≤ ob30 := by rw [hob30]; exact K0.1
    replace Sf_ob28 := Safe.ext Eob30 Hc Sf_ob28
    replace Sf_ob30 := Safe.ext Eob30 Hc Sf_ob30
    replace Hc := CHv.ext Eob30 Hc
    replace S_C := S_C.ext Eob30
    replace hS := hS.le Eob30.1
    replace Z0 := Nat.le_trans Z0 Eob30.1
    replace K0 := K0.ext Eob30
    replace Aob28 := Aob28.ext Eob30
    replace Fob28_coder := Fob28_coder.ext Eob30
    replace Fob28_value := Fob28_value.ext Eob30
    replace Lob30 : Al Z hp31 ob30 .char [] := Lob30
    refine W.callIW C hS (y' := y2) d1_44 rfl (tkw hw 8 rfl) (tkw hw 9 rfl) (tkw hw 6 rfl) (tkw hw 10 rfl) (by decide) (a := ob28) (argsL := [(.ref ob30)]) (rest := [(.ref ob28)]) rfl (lenOf pd_5 rfl) (con_i1_0 l Z a0 hw hp31 n0 ob28 ob30 _ _ ge_ob28 Aob28 Fob28_value Fob28_coder Lob30 Z0) (fun vm' hW' => ⟨(chw C.2.1 hW' (own_ew hw) Hc).1, (chw C.2.1 hW' (own_ew hw) Hc).safe Aob28.lt Sf_ob28⟩) 1 6 12 rfl rfl rfl (by decide) (by decide) (by decide) (by decide) rfl ?_
    rintro _ hp32 vm33 ⟨rfl, Kc, -, Hn, -⟩ _ C hSn
    replace Z0 := Nat.le_trans Z0 Kc.1
    replace K0 := K0.trans Kc (allS (Or.inr sz_ob28) all0)
    replace Lob30 := Lob30.keep Kc (ninS (Ne.symm ne_ob28_ob30) nin0)
    replace Hc := Hn
    replace hS := hSn
    exact W.aret C d1_47 rfl rfl rfl (FW.ok hS (by decide) (by decide) (fun vm' hW' => ⟨ob28, rfl, ext0 K0, (chw C.2.1 hW' (own_ew hw) Hc).1⟩))

abbrev y8 : MethodName := ⟨"com/example/holdfast/holdfast/cli/OptionTakesValuePinLaw", "occurrence", "(I)Lcom/example/holdfast/holdfast/cli/Option$Occurrence;"⟩
theorem d8_0 : decode method_3_code 0 = .ok (.iload_n 0, 1) := by decide +kernel
theorem d8_1 : decode method_3_code 1 = .ok (.ldc 12, 2) := by decide +kernel
theorem d8_3 : decode method_3_code 3 = .ok (.iand, 1) := by decide +kernel
theorem d8_4 : decode method_3_code 4 = .ok (.iconst 3, 1) := by decide +kernel
theorem d8_5 : decode method_3_code 5 = .ok (.irem, 1) := by decide +kernel
theorem d8_6 : decode method_3_code 6 = .ok (.istore_n 1, 1) := by decide +kernel
theorem d8_7 : decode method_3_code 7 = .ok (.iload_n 1, 1) := by decide +kernel
theorem d8_8 : decode method_3_code 8 = .ok (.ifCond .ne 7, 3) := by decide +kernel
theorem d8_11 : decode method_3_code 11 = .ok (.getstatic 13, 3) := by decide +kernel
theorem d8_14 : decode method_3_code 14 = .ok (.areturn, 1) := by decide +kernel
theorem d8_15 : decode method_3_code 15 = .ok (.iload_n 1, 1) := by decide +kernel
theorem d8_16 : decode method_3_code 16 = .ok (.iconst 1, 1) := by decide +kernel
theorem d8_17 : decode method_3_code 17 = .ok (.if_icmp .ne 7, 3) := by decide +kernel
theorem d8_20 : decode method_3_code 20 = .ok (.getstatic 19, 3) := by decide +kernel
theorem d8_23 : decode method_3_code 23 = .ok (.areturn, 1) := by decide +kernel
theorem d8_24 : decode method_3_code 24 = .ok (.getstatic 22, 3) := by decide +kernel
theorem d8_27 : decode method_3_code 27 = .ok (.areturn, 1) := by decide +kernel
theorem pf_8 : plainFor y8 = true := by first | exact plainFor_of_name (by first | (simp [plainName, overriddenIn]; done) | decide +kernel) | decide +kernel
theorem ef_oc (m : MethodId) (p0 : Int32) : entryFrame m #[(.int p0)] 2 = mkF m 0 #[.val (.int p0), .unset] [] := by first | (simp [entryFrame, mkF, argsToLocals, Value.category]; done) | rfl
set_option maxRecDepth 65536 in
set_option maxHeartbeats 40000000 in
theorem con_oc (l : Launch) (Z : State) (a0 : Array Value) (hw : ∀ d ∈ tables_1, d.before a0 Z = true) (h0 : Heap) (n0 : Nat) (p0 : Int32) (so sp sq : Addr) (S_so : Sta Z h0 "com/example/holdfast/holdfast/cli/Option$Occurrence" "OPTIONAL" "Lcom/example/holdfast/holdfast/cli/Option$Occurrence;" (.ref so)) (S_sp : Sta Z h0 "com/example/holdfast/holdfast/cli/Option$Occurrence" "REPEATABLE" "Lcom/example/holdfast/holdfast/cli/Option$Occurrence;" (.ref sp)) (S_sq : Sta Z h0 "com/example/holdfast/holdfast/cli/Option$Occurrence" "REQUIRED" "Lcom/example/holdfast/holdfast/cli/Option$Occurrence;" (.ref sq)) (Z0 : n0 ≤ h0.size) : Con l Z y8 method_3_code 2 (some (.object "com/example/holdfast/holdfast/cli/Option$Occurrence")) ({ frames := 0, cells := 0, slots := 0, locals := 0 } : Room) #[(.int p0)] h0 n0 (fun v h => h0 = h ∧ ∃ a, v = some (.ref a)) := by
  refine Con.of pf_8 (fun m => ef_oc m p0) ?_
  intro p e s m below meth c C
  refine W.iloadN C d8_0 rfl ?_
  refine W.ldcI C (v := (2147483647 : Int32)) d8_1 (tkw hw 37 rfl) ?_
  refine W.iand C d8_3 ?_
  refine W.iconst C (3 : Int32) d8_4 rfl ?_
  refine W.irem C d8_5 (by decide) ?_
  refine W.istoreN C #[.val (.int p0), .val (.int ((p0 &&& (2147483647 : Int32)) % (3 : Int32)))] d8_6 rfl ?_
  refine W.iloadN C d8_7 rfl ?_
  refine W.if_ne C 15 d8_8 rfl (fun bq1 => ?_) (fun bq1 => ?_)
  · skip
    refine W.iloadN C d8_15 rfl ?_
    refine W.iconst C (1 : Int32) d8_16 rfl ?_
    refine W.icmp_ne C 24 d8_17 rfl (fun bq2 => ?_) (fun bq2 => ?_)
    · skip
      refine W.getS C d8_24 (tkw hw 73 rfl) Via.refl S_sp ?_
      exact W.aret C d8_27 rfl rfl rfl (FN.ok (by decide) (by decide) ⟨rfl, _, rfl⟩)
    · skip
      refine W.getS C d8_20 (tkw hw 38 rfl) Via.refl S_so ?_
      exact W.aret C d8_23 rfl rfl rfl (FN.ok (by decide) (by decide) ⟨rfl, _, rfl⟩)
  · skip
    refine W.getS C d8_11 (tkw hw 75 rfl) Via.refl S_sq ?_
    exact W.aret C d8_14 rfl rfl rfl (FN.ok (by decide) (by decide) ⟨rfl, _, rfl⟩)

abbrev y10 : MethodName := ⟨"java/lang/Record", "<init>", "()V"⟩
theorem d10_0 : decode jdk_30_method_1_code 0 = .ok (.aload_n 0, 1) := by decide +kernel
theorem d10_1 : decode jdk_30_method_1_code 1 = .ok (.invokespecial 1, 3) := by decide +kernel
theorem d10_4 : decode jdk_30_method_1_code 4 = .ok (.return_, 1) := by decide +kernel
theorem pf_10 : plainFor y10 = true := by first | exact plainFor_of_name (by first | (simp [plainName, overriddenIn]; done) | decide +kernel) | decide +kernel
theorem ef_10 (m : MethodId) (a1 : Addr) : entryFrame m #[(.ref a1)] 1 = mkF m 0 #[.val (.ref a1)] [] := by first | (simp [entryFrame, mkF, argsToLocals, Value.category]; done) | rfl
set_option maxRecDepth 65536 in
set_option maxHeartbeats 40000000 in
theorem con_10 (l : Launch) (Z : State) (a0 : Array Value) (hw : ∀ d ∈ tables_1, d.before a0 Z = true) (h0 : Heap) (n0 : Nat) (a1 : Addr)  (Z0 : n0 ≤ h0.size) : Con l Z y10 jdk_30_method_1_code 1 none ({ frames := 1, cells := 0, slots := 0, locals := 12 } : Room) #[(.ref a1)] h0 n0 (Pu none h0) := by
  refine Con.of pf_10 (fun m => ef_10 m a1) ?_
  intro p e s m below meth c C
  refine W.aloadN C d10_0 rfl rfl ?_
  refine W.initO C d10_1 (tkw hw 52 rfl) (tkw hw 16 rfl) (tkw hw 17 rfl) 0 rfl (by decide) (by decide) rfl ?_
  exact W.retV C d10_4 (FN.ok (by decide) (by decide) ⟨rfl, rfl⟩)

abbrev y9 : MethodName := ⟨"com/example/holdfast/holdfast/cli/Option", "<init>", "(Ljava/lang/String;Ljava/lang/String;Lcom/example/holdfast/holdfast/cli/Option$Occurrence;)V"⟩
theorem d9_0 : decode prog_50_method_1_code 0 = .ok (.aload_n 0, 1) := by decide +kernel
theorem d9_1 : decode prog_50_method_1_code 1 = .ok (.invokespecial 1, 3) := by decide +kernel
theorem d9_4 : decode prog_50_method_1_code 4 = .ok (.aload_n 0, 1) := by decide +kernel
theorem d9_5 : decode prog_50_method_1_code 5 = .ok (.aload_n 1, 1) := by decide +kernel
theorem d9_6 : decode prog_50_method_1_code 6 = .ok (.putfield 7, 3) := by decide +kernel
theorem d9_9 : decode prog_50_method_1_code 9 = .ok (.aload_n 0, 1) := by decide +kernel
theorem d9_10 : decode prog_50_method_1_code 10 = .ok (.aload_n 2, 1) := by decide +kernel
theorem d9_11 : decode prog_50_method_1_code 11 = .ok (.putfield 13, 3) := by decide +kernel
theorem d9_14 : decode prog_50_method_1_code 14 = .ok (.aload_n 0, 1) := by decide +kernel
theorem d9_15 : decode prog_50_method_1_code 15 = .ok (.aload_n 3, 1) := by decide +kernel
theorem d9_16 : decode prog_50_method_1_code 16 = .ok (.putfield 16, 3) := by decide +kernel
theorem d9_19 : decode prog_50_method_1_code 19 = .ok (.return_, 1) := by decide +kernel
theorem pf_9 : plainFor y9 = true := by first | exact plainFor_of_name (by first | (simp [plainName, overriddenIn]; done) | decide +kernel) | decide +kernel
theorem ef_opa (m : MethodId) (a1 : Addr) (r0 : Addr) (r1 : Addr) (r2 : Addr) : entryFrame m #[(.ref a1), (.ref r0), (.ref r1), (.ref r2)] 4 = mkF m 0 #[.val (.ref a1), .val (.ref r0), .val (.ref r1), .val (.ref r2)] [] := by first | (simp [entryFrame, mkF, argsToLocals, Value.category]; done) | rfl
set_option maxRecDepth 65536 in
set_option maxHeartbeats 40000000 in
theorem con_opa (l : Launch) (Z : State) (a0 : Array Value) (hw : ∀ d ∈ tables_1, d.before a0 Z = true) (h0 : Heap) (n0 : Nat) (a1 : Addr) (r0 : Addr) (r1 : Addr) (r2 : Addr) (u0 u1 u2 : Value) (E_a1 : Exa Z h0 a1 "com/example/holdfast/holdfast/cli/Option") (g_a1 : n0 ≤ a1) (F0 : Fld Z h0 a1 "com/example/holdfast/holdfast/cli/Option" "name" "Ljava/lang/String;" u0) (F1 : Fld Z h0 a1 "com/example/holdfast/holdfast/cli/Option" "value" "Ljava/lang/String;" u1) (F2 : Fld Z h0 a1 "com/example/holdfast/holdfast/cli/Option" "occurrence" "Lcom/example/holdfast/holdfast/cli/Option$Occurrence;" u2) (Z0 : n0 ≤ h0.size) : Con l Z y9 prog_50_method_1_code 4 none ({ frames := 2, cells := 0, slots := 0, locals := 24 } : Room) #[(.ref a1), (.ref r0), (.ref r1), (.ref r2)] h0 n0 (fun v h => v = none ∧ Keep h0 h [a1] ∧ Exa Z h a1 "com/example/holdfast/holdfast/cli/Option" ∧ Fld Z h a1 "com/example/holdfast/holdfast/cli/Option" "value" "Ljava/lang/String;" (.ref r1)) := by
  refine Con.of pf_9 (fun m => ef_opa m a1 r0 r1 r2) ?_
  intro p e s m below meth c C
  have K0 : Keep h0 h0 [a1] := Keep.refl _ _
  refine W.aloadN C d9_0 rfl rfl ?_
  refine W.callI C (y' := y10) d9_1 rfl (tkw hw 47 rfl) (tkw hw 48 rfl) (tkw hw 50 rfl) (tkw hw 51 rfl) (by decide) (a := a1) (argsL := []) (rest := []) rfl (lenOf pd_1 rfl) (con_10 l Z a0 hw h0 n0 a1 Z0) 0 0 0 rfl rfl rfl (by decide) (by decide) (by decide) (by decide) rfl ?_
  rintro _ _ ⟨rfl, rfl⟩
  refine W.aloadN C d9_4 rfl rfl ?_
  refine W.aloadN C d9_5 rfl rfl ?_
  refine W.putF C d9_6 (tkw hw 53 rfl) Via.refl F0 E_a1 (Or.inr ⟨(tkw hw 54 rfl), rfl, rfl⟩) (tkw hw 42 rfl) (ty := (.object "java/lang/String")) (by decide) rfl rfl g_a1 ?_
  intro hp1 U2
  replace F0 := F0.same U2
  replace E_a1 := E_a1.wr U2
  replace F1 := F1.other U2 (Or.inr (slot_ne (Or.inr (tkw hw 56 rfl)) (Or.inr (tkw hw 54 rfl)) (by decide) (t := (.object "java/lang/String")) (t' := (.object "java/lang/String")) (by decide) (by decide)))
  replace F2 := F2.other U2 (Or.inr (slot_ne (Or.inr (tkw hw 58 rfl)) (Or.inr (tkw hw 54 rfl)) (by decide) (t := (.object "com/example/holdfast/holdfast/cli/Option$Occurrence")) (t' := (.object "java/lang/String")) (by decide) (by decide)))
  replace Z0 := Nat.le_trans Z0 (Nat.le_of_eq (U2.size).symm)
  replace K0 := K0.wr U2 (Or.inl (List.mem_of_getElem? (i := 0) rfl))
  refine W.aloadN C d9_9 rfl rfl ?_
  refine W.aloadN C d9_10 rfl rfl ?_
  refine W.putF C d9_11 (tkw hw 55 rfl) Via.refl F1 E_a1 (Or.inr ⟨(tkw hw 56 rfl), rfl, rfl⟩) (tkw hw 42 rfl) (ty := (.object "java/lang/String")) (by decide) rfl rfl g_a1 ?_
  intro hp3 U4
  replace F1 := F1.same U4
  replace E_a1 := E_a1.wr U4
  replace F0 := F0.other U4 (Or.inr (slot_ne (Or.inr (tkw hw 54 rfl)) (Or.inr (tkw hw 56 rfl)) (by decide) (t := (.object "java/lang/String")) (t' := (.object "java/lang/String")) (by decide) (by decide)))
  replace F2 := F2.other U4 (Or.inr (slot_ne (Or.inr (tkw hw 58 rfl)) (Or.inr (tkw hw 56 rfl)) (by decide) (t := (.object "com/example/holdfast/holdfast/cli/Option$Occurrence")) (t' := (.object "java/lang/String")) (by decide) (by decide)))
  replace Z0 := Nat.le_trans Z0 (Nat.le_of_eq (U4.size).symm)
  replace K0 := K0.wr U4 (Or.inl (List.mem_of_getElem? (i := 0) rfl))
  refine W.aloadN C d9_14 rfl rfl ?_
  refine W.aloadN C d9_15 rfl rfl ?_
  refine W.putF C d9_16 (tkw hw 57 rfl) Via.refl F2 E_a1 (Or.inr ⟨(tkw hw 58 rfl), rfl, rfl⟩) (tkw hw 42 rfl) (ty := (.object "com/example/holdfast/holdfast/cli/Option$Occurrence")) (by decide) rfl rfl g_a1 ?_
  intro hp5 U6
  replace F2 := F2.same U6
  replace E_a1 := E_a1.wr U6
  replace F0 := F0.other U6 (Or.inr (slot_ne (Or.inr (tkw hw 54 rfl)) (Or.inr (tkw hw 58 rfl)) (by decide) (t := (.object "java/lang/String")) (t' := (.object "com/example/holdfast/holdfast/cli/Option$Occurrence")) (by decide) (by decide)))
  replace F1 := F1.other U6 (Or.inr (slot_ne (Or.inr (tkw hw 56 rfl)) (Or.inr (tkw hw 58 rfl)) (by decide) (t := (.object "java/lang/String")) (t' := (.object "com/example/holdfast/holdfast/cli/Option$Occurrence")) (by decide) (by decide)))
  replace Z0 := Nat.le_trans Z0 (Nat.le_of_eq (U6.size).symm)
  replace K0 := K0.wr U6 (Or.inl (List.mem_of_getElem? (i := 0) rfl))
  exact W.retV C d9_19 (FN.ok (by decide) (by decide) ⟨rfl, K0, E_a1, F1⟩)

theorem ef_opn (m : MethodId) (a1 : Addr) (r0 : Addr) (r2 : Addr) : entryFrame m #[(.ref a1), (.ref r0), .null, (.ref r2)] 4 = mkF m 0 #[.val (.ref a1), .val (.ref r0), .val .null, .val (.ref r2)] [] := by first | (simp [entryFrame, mkF, argsToLocals, Value.category]; done) | rfl
set_option maxRecDepth 65536 in
set_option maxHeartbeats 40000000 in
theorem con_opn (l : Launch) (Z : State) (a0 : Array Value) (hw : ∀ d ∈ tables_1, d.before a0 Z = true) (h0 : Heap) (n0 : Nat) (a1 : Addr) (r0 : Addr) (r2 : Addr) (u0 u1 u2 : Value) (E_a1 : Exa Z h0 a1 "com/example/holdfast/holdfast/cli/Option") (g_a1 : n0 ≤ a1) (F0 : Fld Z h0 a1 "com/example/holdfast/holdfast/cli/Option" "name" "Ljava/lang/String;" u0) (F1 : Fld Z h0 a1 "com/example/holdfast/holdfast/cli/Option" "value" "Ljava/lang/String;" u1) (F2 : Fld Z h0 a1 "com/example/holdfast/holdfast/cli/Option" "occurrence" "Lcom/example/holdfast/holdfast/cli/Option$Occurrence;" u2) (Z0 : n0 ≤ h0.size) : Con l Z y9 prog_50_method_1_code 4 none ({ frames := 2, cells := 0, slots := 0, locals := 24 } : Room) #[(.ref a1), (.ref r0), .null, (.ref r2)] h0 n0 (fun v h => v = none ∧ Keep h0 h [a1] ∧ Exa Z h a1 "com/example/holdfast/holdfast/cli/Option" ∧ Fld Z h a1 "com/example/holdfast/holdfast/cli/Option" "value" "Ljava/lang/String;" .null) := by
  refine Con.of pf_9 (fun m => ef_opn m a1 r0 r2) ?_
  intro p e s m below meth c C
  have K0 : Keep h0 h0 [a1] := Keep.refl _ _
  refine W.aloadN C d9_0 rfl rfl ?_
  refine W.callI C (y' := y10) d9_1 rfl (tkw hw 47 rfl) (tkw hw 48 rfl) (tkw hw 50 rfl) (tkw hw 51 rfl) (by decide) (a := a1) (argsL := []) (rest := []) rfl (lenOf pd_1 rfl) (con_10 l Z a0 hw h0 n0 a1 Z0) 0 0 0 rfl rfl rfl (by decide) (by decide) (by decide) (by decide) rfl ?_
  rintro _ _ ⟨rfl, rfl⟩
  refine W.aloadN C d9_4 rfl rfl ?_
  refine W.aloadN C d9_5 rfl rfl ?_
  refine W.putF C d9_6 (tkw hw 53 rfl) Via.refl F0 E_a1 (Or.inr ⟨(tkw hw 54 rfl), rfl, rfl⟩) (tkw hw 42 rfl) (ty := (.object "java/lang/String")) (by decide) rfl rfl g_a1 ?_
  intro hp1 U2
  replace F0 := F0.same U2
  replace E_a1 := E_a1.wr U2
  replace F1 := F1.other U2 (Or.inr (slot_ne (Or.inr (tkw hw 56 rfl)) (Or.inr (tkw hw 54 rfl)) (by decide) (t := (.object "java/lang/String")) (t' := (.object "java/lang/String")) (by decide) (by decide)))
  replace F2 := F2.other U2 (Or.inr (slot_ne (Or.inr (tkw hw 58 rfl)) (Or.inr (tkw hw 54 rfl)) (by decide) (t := (.object "com/example/holdfast/holdfast/cli/Option$Occurrence")) (t' := (.object "java/lang/String")) (by decide) (by decide)))
  replace Z0 := Nat.le_trans Z0 (Nat.le_of_eq (U2.size).symm)
  replace K0 := K0.wr U2 (Or.inl (List.mem_of_getElem? (i := 0) rfl))
  refine W.aloadN C d9_9 rfl rfl ?_
  refine W.aloadN C d9_10 rfl rfl ?_
  refine W.putF C d9_11 (tkw hw 55 rfl) Via.refl F1 E_a1 (Or.inr ⟨(tkw hw 56 rfl), rfl, rfl⟩) (tkw hw 42 rfl) (ty := (.object "java/lang/String")) (by decide) rfl rfl g_a1 ?_
  intro hp3 U4
  replace F1 := F1.same U4
  replace E_a1 := E_a1.wr U4
  replace F0 := F0.other U4 (Or.inr (slot_ne (Or.inr (tkw hw 54 rfl)) (Or.inr (tkw hw 56 rfl)) (by decide) (t := (.object "java/lang/String")) (t' := (.object "java/lang/String")) (by decide) (by decide)))
  replace F2 := F2.other U4 (Or.inr (slot_ne (Or.inr (tkw hw 58 rfl)) (Or.inr (tkw hw 56 rfl)) (by decide) (t := (.object "com/example/holdfast/holdfast/cli/Option$Occurrence")) (t' := (.object "java/lang/String")) (by decide) (by decide)))
  replace Z0 := Nat.le_trans Z0 (Nat.le_of_eq (U4.size).symm)
  replace K0 := K0.wr U4 (Or.inl (List.mem_of_getElem? (i := 0) rfl))
  refine W.aloadN C d9_14 rfl rfl ?_
  refine W.aloadN C d9_15 rfl rfl ?_
  refine W.putF C d9_16 (tkw hw 57 rfl) Via.refl F2 E_a1 (Or.inr ⟨(tkw hw 58 rfl), rfl, rfl⟩) (tkw hw 42 rfl) (ty := (.object "com/example/holdfast/holdfast/cli/Option$Occurrence")) (by decide) rfl rfl g_a1 ?_
  intro hp5 U6
  replace F2 := F2.same U6
  replace E_a1 := E_a1.wr U6
  replace F0 := F0.other U6 (Or.inr (slot_ne (Or.inr (tkw hw 54 rfl)) (Or.inr (tkw hw 58 rfl)) (by decide) (t := (.object "java/lang/String")) (t' := (.object "com/example/holdfast/holdfast/cli/Option$Occurrence")) (by decide) (by decide)))
  replace F1 := F1.other U6 (Or.inr (slot_ne (Or.inr (tkw hw 56 rfl)) (Or.inr (tkw hw 58 rfl)) (by decide) (t := (.object "java/lang/String")) (t' := (.object "com/example/holdfast/holdfast/cli/Option$Occurrence")) (by decide) (by decide)))
  replace Z0 := Nat.le_trans Z0 (Nat.le_of_eq (U6.size).symm)
  replace K0 := K0.wr U6 (Or.inl (List.mem_of_getElem? (i := 0) rfl))
  exact W.retV C d9_19 (FN.ok (by decide) (by decide) ⟨rfl, K0, E_a1, F1⟩)

abbrev y11 : MethodName := ⟨"com/example/holdfast/holdfast/cli/Option", "flag", "(Ljava/lang/String;)Lcom/example/holdfast/holdfast/cli/Option;"⟩
theorem d11_0 : decode prog_50_method_8_code 0 = .ok (.new 8, 3) := by decide +kernel
theorem d11_3 : decode prog_50_method_8_code 3 = .ok (.dup, 1) := by decide +kernel
theorem d11_4 : decode prog_50_method_8_code 4 = .ok (.aload_n 0, 1) := by decide +kernel
theorem d11_5 : decode prog_50_method_8_code 5 = .ok (.aconst_null, 1) := by decide +kernel
theorem d11_6 : decode prog_50_method_8_code 6 = .ok (.getstatic 39, 3) := by decide +kernel
theorem d11_9 : decode prog_50_method_8_code 9 = .ok (.invokespecial 33, 3) := by decide +kernel
theorem d11_12 : decode prog_50_method_8_code 12 = .ok (.areturn, 1) := by decide +kernel
theorem pf_11 : plainFor y11 = true := by first | exact plainFor_of_name (by first | (simp [plainName, overriddenIn]; done) | decide +kernel) | decide +kernel
theorem ef_fl (m : MethodId) (r0 : Addr) : entryFrame m #[(.ref r0)] 1 = mkF m 0 #[.val (.ref r0)] [] := by first | (simp [entryFrame, mkF, argsToLocals, Value.category]; done) | rfl
theorem pd_6 : parseMethodDescriptor "(Ljava/lang/String;Ljava/lang/String;Lcom/example/holdfast/holdfast/cli/Option$Occurrence;)V" = some ⟨[(.object "java/lang/String"), (.object "java/lang/String"), (.object "com/example/holdfast/holdfast/cli/Option$Occurrence")], none⟩ := by decide +kernel
set_option maxRecDepth 65536 in
set_option maxHeartbeats 40000000 in
theorem con_fl (l : Launch) (Z : State) (a0 : Array Value) (hw : ∀ d ∈ tables_1, d.before a0 Z = true) (h0 : Heap) (n0 : Nat) (r0 : Addr) (so : Addr) (S_so : Sta Z h0 "com/example/holdfast/holdfast/cli/Option$Occurrence" "OPTIONAL" "Lcom/example/holdfast/holdfast/cli/Option$Occurrence;" (.ref so)) (Z0 : n0 ≤ h0.size) : Con l Z y11 prog_50_method_8_code 1 (some (.object "com/example/holdfast/holdfast/cli/Option")) ({ frames := 3, cells := 1, slots := 3, locals := 40 } : Room) #[(.ref r0)] h0 n0 (fun v h => ∃ a, v = some (.ref a) ∧ Ext h0 h ∧ Exa Z h a "com/example/holdfast/holdfast/cli/Option" ∧ Fld Z h a "com/example/holdfast/holdfast/cli/Option" "value" "Ljava/lang/String;" .null) := by
  refine Con.of pf_11 (fun m => ef_fl m r0) ?_
  intro p e s m below meth c C
  have K0 : Keep h0 h0 [] := Keep.refl _ _
  refine W.new C d11_0 (tkw hw 62 rfl) (tkw hw 42 rfl) (tkw hw 43 rfl) 1 3 rfl rfl (by decide) (by decide) ?_
  intro ob1 hp2 hob1 Eob1 Aob1 Dob1
  have ge_ob1 : n0 ≤ ob1 := by rw [hob1]; exact Z0
  have sz_ob1 : h0.size ≤ ob1 := by rw [hob1]; exact K0.1
  replace S_so := S_so.ext Eob1
  replace Z0 := Nat.le_trans Z0 Eob1.1
  replace K0 := K0.ext Eob1
  have Fob1_name : Fld Z hp2 ob1 "com/example/holdfast/holdfast/cli/Option" "name" "Ljava/lang/String;" .null := Dob1 (Or.inr (tkw hw 54 rfl)) (ty := (.object "java/lang/String")) (by decide)
  have Fob1_value : Fld Z hp2 ob1 "com/example/holdfast/holdfast/cli/Option" "value" "Ljava/lang/String;" .null := Dob1 (Or.inr (tkw hw 56 rfl)) (ty := (.object "java/lang/String")) (by decide)
  have Fob1_occurrence : Fld Z hp2 ob1 "com/example/holdfast/holdfast/cli/Option" "occurrence" "Lcom/example/holdfast/holdfast/cli/Option$Occurrence;" .null := Dob1 (Or.inr (tkw hw 58 rfl)) (ty := (.object "com/example/holdfast/holdfast/cli/Option$Occurrence")) (by decide)
  refine W.dup C d11_3 rfl ?_
  refine W.aloadN C d11_4 rfl rfl ?_
  refine W.aconstNull C d11_5 ?_
  refine W.getS C d11_6 (tkw hw 63 rfl) Via.refl S_so ?_
  refine W.callI C (y' := y9) d11_9 rfl (tkw hw 64 rfl) (tkw hw 45 rfl) (tkw hw 43 rfl) (tkw hw 46 rfl) (by decide) (a := ob1) (argsL := [(.ref r0), .null, (.ref so)]) (rest := [(.ref ob1)]) rfl (lenOf pd_6 rfl) (con_opn l Z a0 hw hp2 n0 ob1 r0 so _ _ _ Aob1 ge_ob1 Fob1_name Fob1_value Fob1_occurrence Z0) 1 1 3 rfl rfl rfl (by decide) (by decide) (by decide) (by decide) rfl ?_
  rintro _ hp3 ⟨rfl, Kc, A_n, F_n⟩
  replace Z0 := Nat.le_trans Z0 Kc.1
  replace K0 := K0.trans Kc (allS (Or.inr sz_ob1) all0)
  replace Aob1 := A_n
  replace Fob1_value := F_n
  exact W.aret C d11_12 rfl rfl rfl (FN.ok (by decide) (by decide) ⟨ob1, rfl, ext0 K0, Aob1, Fob1_value⟩)

abbrev y12 : MethodName := ⟨"com/example/holdfast/holdfast/cli/Option", "takesValue", "()Z"⟩
theorem d12_0 : decode prog_50_method_9_code 0 = .ok (.aload_n 0, 1) := by decide +kernel
theorem d12_1 : decode prog_50_method_9_code 1 = .ok (.getfield 13, 3) := by decide +kernel
theorem d12_4 : decode prog_50_method_9_code 4 = .ok (.ifnull 7, 3) := by decide +kernel
theorem d12_7 : decode prog_50_method_9_code 7 = .ok (.iconst 1, 1) := by decide +kernel
theorem d12_8 : decode prog_50_method_9_code 8 = .ok (.goto 4, 3) := by decide +kernel
theorem d12_11 : decode prog_50_method_9_code 11 = .ok (.iconst 0, 1) := by decide +kernel
theorem d12_12 : decode prog_50_method_9_code 12 = .ok (.ireturn, 1) := by decide +kernel
theorem pf_12 : plainFor y12 = true := by first | exact plainFor_of_name (by first | (simp [plainName, overriddenIn]; done) | decide +kernel) | decide +kernel
theorem ef_tva (m : MethodId) (a1 : Addr) : entryFrame m #[(.ref a1)] 1 = mkF m 0 #[.val (.ref a1)] [] := by first | (simp [entryFrame, mkF, argsToLocals, Value.category]; done) | rfl
set_option maxRecDepth 65536 in
set_option maxHeartbeats 40000000 in
theorem con_tva (l : Launch) (Z : State) (a0 : Array Value) (hw : ∀ d ∈ tables_1, d.before a0 Z = true) (h0 : Heap) (n0 : Nat) (a1 : Addr) (r1 : Addr) (F1 : Fld Z h0 a1 "com/example/holdfast/holdfast/cli/Option" "value" "Ljava/lang/String;" (.ref r1)) (Z0 : n0 ≤ h0.size) : Con l Z y12 prog_50_method_9_code 1 (some .boolean) ({ frames := 0, cells := 0, slots := 0, locals := 0 } : Room) #[(.ref a1)] h0 n0 (Pu (some (.int 1)) h0) := by
  refine Con.of pf_12 (fun m => ef_tva m a1) ?_
  intro p e s m below meth c C
  refine W.aloadN C d12_0 rfl rfl ?_
  refine W.getF C d12_1 (tkw hw 55 rfl) Via.refl F1 ?_
  refine W.ifnullNo C d12_4 ?_
  refine W.iconst C (1 : Int32) d12_7 rfl ?_
  refine W.goto C 12 d12_8 rfl ?_
  exact W.iret C d12_12 (by simp) rfl (FN.ok (by decide) (by decide) ⟨rfl, rfl⟩)

theorem ef_tvn (m : MethodId) (a1 : Addr) : entryFrame m #[(.ref a1)] 1 = mkF m 0 #[.val (.ref a1)] [] := by first | (simp [entryFrame, mkF, argsToLocals, Value.category]; done) | rfl
set_option maxRecDepth 65536 in
set_option maxHeartbeats 40000000 in
theorem con_tvn (l : Launch) (Z : State) (a0 : Array Value) (hw : ∀ d ∈ tables_1, d.before a0 Z = true) (h0 : Heap) (n0 : Nat) (a1 : Addr) (F1 : Fld Z h0 a1 "com/example/holdfast/holdfast/cli/Option" "value" "Ljava/lang/String;" .null) (Z0 : n0 ≤ h0.size) : Con l Z y12 prog_50_method_9_code 1 (some .boolean) ({ frames := 0, cells := 0, slots := 0, locals := 0 } : Room) #[(.ref a1)] h0 n0 (Pu (some (.int 0)) h0) := by
  refine Con.of pf_12 (fun m => ef_tvn m a1) ?_
  intro p e s m below meth c C
  refine W.aloadN C d12_0 rfl rfl ?_
  refine W.getF C d12_1 (tkw hw 55 rfl) Via.refl F1 ?_
  refine W.ifnullYes C 11 d12_4 rfl ?_
  refine W.iconst C (0 : Int32) d12_11 rfl ?_
  exact W.iret C d12_12 (by simp) rfl (FN.ok (by decide) (by decide) ⟨rfl, rfl⟩)

theorem pf_0 : plainFor x = true := by first | exact plainFor_of_name (by first | (simp [plainName, overriddenIn]; done) | decide +kernel) | decide +kernel
theorem ef_0 (m : MethodId) (p0 : Int32) (p1 : Int32) (p2 : Int32) (p3 : Int32) : entryFrame m #[(.int p0), (.int p1), (.int p2), (.int p3)] maxLocals = mkF m 0 #[.val (.int p0), .val (.int p1), .val (.int p2), .val (.int p3), .unset, .unset, .unset, .unset, .unset, .unset] [] := by first | (simp [entryFrame, mkF, argsToLocals, Value.category, maxLocals]; done) | rfl
theorem pd_7 : parseMethodDescriptor "(II)Ljava/lang/String;" = some ⟨[.int, .int], some (.object "java/lang/String")⟩ := by decide +kernel
theorem pd_8 : parseMethodDescriptor "(I)Lcom/example/holdfast/holdfast/cli/Option$Occurrence;" = some ⟨[.int], some (.object "com/example/holdfast/holdfast/cli/Option$Occurrence")⟩ := by decide +kernel
theorem pd_9 : parseMethodDescriptor "(Ljava/lang/String;)Lcom/example/holdfast/holdfast/cli/Option;" = some ⟨[(.object "java/lang/String")], some (.object "com/example/holdfast/holdfast/cli/Option")⟩ := by decide +kernel
theorem pd_10 : parseMethodDescriptor "()Z" = some ⟨[], some .boolean⟩ := by decide +kernel
set_option maxRecDepth 65536 in
set_option maxHeartbeats 40000000 in
theorem con_0 (l : Launch) (Z : State) (a0 : Array Value) (hw : ∀ d ∈ tables_1, d.before a0 Z = true) (h0 : Heap) (n0 : Nat) (p0 : Int32) (p1 : Int32) (p2 : Int32) (p3 : Int32) (cv : Int32) (S_C : Sta Z h0 "java/lang/String" "COMPACT_STRINGS" "Z" (.int cv)) (hcv : ¬ cv = 0) (so sp sq : Addr) (S_so : Sta Z h0 "com/example/holdfast/holdfast/cli/Option$Occurrence" "OPTIONAL" "Lcom/example/holdfast/holdfast/cli/Option$Occurrence;" (.ref so)) (S_sp : Sta Z h0 "com/example/holdfast/holdfast/cli/Option$Occurrence" "REPEATABLE" "Lcom/example/holdfast/holdfast/cli/Option$Occurrence;" (.ref sp)) (S_sq : Sta Z h0 "com/example/holdfast/holdfast/cli/Option$Occurrence" "REQUIRED" "Lcom/example/holdfast/holdfast/cli/Option$Occurrence;" (.ref sq)) (Z0 : n0 ≤ h0.size) : ConW l Z x code maxLocals ret room_1 #[(.int p0), (.int p1), (.int p2), (.int p3)] h0 n0 (fun vm => CHv Z own_EL vm h0) (fun v _ _ => v = some (.int 1)) := by
  refine ConW.of pf_0 (fun m => ef_0 m p0 p1 p2 p3) ?_
  intro p e s m below meth c C PV hS
  have Hc := PV
  refine W.iloadN C at_0 rfl ?_
  refine W.iloadN C at_1 rfl ?_
  refine W.callSW C hS (y' := y1) at_2 (tkw hw 0 rfl) (tkw hw 1 rfl) (tkw hw 2 rfl) (tkw hw 3 rfl) (by decide) (argsL := [(.int p0), (.int p2)]) (rest := []) rfl (lenOf pd_7 rfl) (con_dr l Z a0 hw h0 n0 p0 p2 cv S_C hcv Z0) (fun vm' hW' => (chw C.2.1 hW' (own_ew hw) Hc).1) 0 6 12 rfl rfl rfl (by decide) (by decide) (by decide) (by decide) rfl ?_
  rintro _ hp2 vm3 ⟨str1, rfl, Ed, Hn⟩ _ C hSn
  replace S_C := S_C.ext Ed
  replace S_so := S_so.ext Ed
  replace S_sp := S_sp.ext Ed
  replace S_sq := S_sq.ext Ed
  replace Z0 := Nat.le_trans Z0 Ed.1
  replace Hc := Hn
  replace hS := hSn
  refine W.astore C #[.val (.int p0), .val (.int p1), .val (.int p2), .val (.int p3), .val (.ref str1), .unset, .unset, .unset, .unset, .unset] at_5 rfl rfl ?_
  refine W.iloadN C at_7 rfl ?_
  refine W.iconst C (2 : Int32) at_8 rfl ?_
  refine W.iushr C at_9 ?_
  refine W.iconst C (1 : Int32) at_10 rfl ?_
  refine W.iand C at_11 ?_
  refine W.if_eq C 19 at_12 rfl (fun bq1 => ?_) (fun bq1 => ?_)
  · skip
    refine W.iconst C (0 : Int32) at_19 rfl ?_
    refine W.istore C #[.val (.int p0), .val (.int p1), .val (.int p2), .val (.int p3), .val (.ref str1), .val (.int (0 : Int32)), .unset, .unset, .unset, .unset] at_20 rfl ?_
    refine W.iload C at_22 rfl ?_
    refine W.if_eq C 37 at_24 rfl (fun _ => ?_) (fun b => absurd b (by decide))
    refine W.aconstNull C at_37 ?_
    refine W.astore C #[.val (.int p0), .val (.int p1), .val (.int p2), .val (.int p3), .val (.ref str1), .val (.int (0 : Int32)), .val .null, .unset, .unset, .unset] at_38 rfl rfl ?_
    refine W.iloadN C at_40 rfl ?_
    refine W.callS C (y' := y8) at_41 (tkw hw 34 rfl) (tkw hw 35 rfl) (tkw hw 2 rfl) (tkw hw 36 rfl) (by decide) (argsL := [(.int p3)]) (rest := []) rfl (lenOf pd_8 rfl) (con_oc l Z a0 hw hp2 n0 p3 so sp sq S_so S_sp S_sq Z0) 0 6 12 rfl rfl rfl (by decide) (by decide) (by decide) (by decide) rfl ?_
    rintro _ _ ⟨rfl, oc4, rfl⟩
    refine W.astore C #[.val (.int p0), .val (.int p1), .val (.int p2), .val (.int p3), .val (.ref str1), .val (.int (0 : Int32)), .val .null, .val (.ref oc4), .unset, .unset] at_44 rfl rfl ?_
    refine W.new C at_46 (tkw hw 41 rfl) (tkw hw 42 rfl) (tkw hw 43 rfl) 7 15 rfl rfl (by decide) (by decide) ?_
    intro ob6 hp7 hob6 Eob6 Aob6 Dob6
    have Sf_ob6 : Safe Z own_EL vm3 hp2 ob6 := Safe.new (Nat.le_of_eq hob6.symm)
    have ge_ob6 : n0 ≤ ob6 := by rw [hob6]; exact Z0
    replace Sf_ob6 := Safe.ext Eob6 Hc Sf_ob6
    replace Hc := CHv.ext Eob6 Hc
    replace S_C := S_C.ext Eob6
    replace S_so := S_so.ext Eob6
    replace S_sp := S_sp.ext Eob6
    replace S_sq := S_sq.ext Eob6
    replace Z0 := Nat.le_trans Z0 Eob6.1
    replace hS := hS.le Eob6.1
    have Fob6_name : Fld Z hp7 ob6 "com/example/holdfast/holdfast/cli/Option" "name" "Ljava/lang/String;" .null := Dob6 (Or.inr (tkw hw 54 rfl)) (ty := (.object "java/lang/String")) (by decide)
    have Fob6_value : Fld Z hp7 ob6 "com/example/holdfast/holdfast/cli/Option" "value" "Ljava/lang/String;" .null := Dob6 (Or.inr (tkw hw 56 rfl)) (ty := (.object "java/lang/String")) (by decide)
    have Fob6_occurrence : Fld Z hp7 ob6 "com/example/holdfast/holdfast/cli/Option" "occurrence" "Lcom/example/holdfast/holdfast/cli/Option$Occurrence;" .null := Dob6 (Or.inr (tkw hw 58 rfl)) (ty := (.object "com/example/holdfast/holdfast/cli/Option$Occurrence")) (by decide)
    refine W.dup C at_49 rfl ?_
    refine W.aload C at_50 rfl rfl ?_
    refine W.aload C at_52 rfl rfl ?_
    refine W.aload C at_54 rfl rfl ?_
    have S_old := S_so
    have X_old := Aob6
    refine W.callI C (y' := y9) at_56 rfl (tkw hw 44 rfl) (tkw hw 45 rfl) (tkw hw 43 rfl) (tkw hw 46 rfl) (by decide) (a := ob6) (argsL := [(.ref str1), .null, (.ref oc4)]) (rest := [(.ref ob6)]) rfl (lenOf pd_6 rfl) (con_opn l Z a0 hw hp7 n0 ob6 str1 oc4 _ _ _ Aob6 ge_ob6 Fob6_name Fob6_value Fob6_occurrence Z0) 1 7 15 rfl rfl rfl (by decide) (by decide) (by decide) (by decide) rfl ?_
    rintro _ hp8 ⟨rfl, Kc, A_n, F_n⟩
    have Sf_ob6_n := Safe.keep Kc (allS Sf_ob6 all0) Hc Sf_ob6
    replace Hc := CHv.keep Kc (allS Sf_ob6 all0) Hc
    replace Sf_ob6 := Sf_ob6_n
    replace Z0 := Nat.le_trans Z0 Kc.1
    replace hS := hS.le Kc.1
    replace Aob6 := A_n
    replace Fob6_value := F_n
    have S_so := own_sk S_old X_old Kc
    refine W.astore C #[.val (.int p0), .val (.int p1), .val (.int p2), .val (.int p3), .val (.ref str1), .val (.int (0 : Int32)), .val .null, .val (.ref oc4), .val (.ref ob6), .unset] at_59 rfl rfl ?_
    refine W.aload C at_61 rfl rfl ?_
    refine W.callS C (y' := y11) at_63 (tkw hw 59 rfl) (tkw hw 60 rfl) (tkw hw 43 rfl) (tkw hw 61 rfl) (by decide) (argsL := [(.ref str1)]) (rest := []) rfl (lenOf pd_9 rfl) (con_fl l Z a0 hw hp8 n0 str1 so S_so Z0) 0 8 18 rfl rfl rfl (by decide) (by decide) (by decide) (by decide) rfl ?_
    rintro _ hp10 ⟨fl9, rfl, Ef, Afl9, Ffl9_value⟩
    replace Sf_ob6 := Safe.ext Ef Hc Sf_ob6
    replace Hc := CHv.ext Ef Hc
    replace Z0 := Nat.le_trans Z0 Ef.1
    replace hS := hS.le Ef.1
    replace Aob6 := Aob6.ext Ef
    replace Fob6_value := Fob6_value.ext Ef
    replace S_so := S_so.ext Ef
    refine W.astore C #[.val (.int p0), .val (.int p1), .val (.int p2), .val (.int p3), .val (.ref str1), .val (.int (0 : Int32)), .val .null, .val (.ref oc4), .val (.ref ob6), .val (.ref fl9)] at_66 rfl rfl ?_
    refine W.aload C at_68 rfl rfl ?_
    refine W.callV C (y' := y12) at_70 (tkw hw 65 rfl) (tkw hw 66 rfl) (tkw hw 68 rfl) (tkw hw 67 rfl) (tkw hw 43 rfl) (tkw hw 69 rfl) (by decide) Aob6 (argsL := []) (rest := []) rfl (lenOf pd_10 rfl) (con_tvn l Z a0 hw hp10 n0 ob6 Fob6_value Z0) 0 8 18 rfl rfl rfl (by decide) (by decide) (by decide) (by decide) rfl ?_
    rintro _ _ ⟨rfl, rfl⟩
    refine W.iload C at_73 rfl ?_
    refine W.icmp_ne C 90 at_75 rfl (fun b => absurd b (by decide)) (fun _ => ?_)
    refine W.aload C at_78 rfl rfl ?_
    refine W.callV C (y' := y12) at_80 (tkw hw 65 rfl) (tkw hw 66 rfl) (tkw hw 68 rfl) (tkw hw 67 rfl) (tkw hw 43 rfl) (tkw hw 69 rfl) (by decide) Afl9 (argsL := []) (rest := []) rfl (lenOf pd_10 rfl) (con_tvn l Z a0 hw hp10 n0 fl9 Ffl9_value Z0) 0 8 18 rfl rfl rfl (by decide) (by decide) (by decide) (by decide) rfl ?_
    rintro _ _ ⟨rfl, rfl⟩
    refine W.if_ne C 90 at_83 rfl (fun b => absurd b (by decide)) (fun _ => ?_)
    refine W.iconst C (1 : Int32) at_86 rfl ?_
    refine W.goto C 91 at_87 rfl ?_
    exact W.iret C at_91 (by simp) rfl (FW.ok hS (by decide) (by decide) (fun vm' hW' => rfl))
  · skip
    refine W.iconst C (1 : Int32) at_15 rfl ?_
    refine W.goto C 20 at_16 rfl ?_
    refine W.istore C #[.val (.int p0), .val (.int p1), .val (.int p2), .val (.int p3), .val (.ref str1), .val (.int (1 : Int32)), .unset, .unset, .unset, .unset] at_20 rfl ?_
    refine W.iload C at_22 rfl ?_
    refine W.if_eq C 37 at_24 rfl (fun b => absurd b (by decide)) (fun _ => ?_)
    refine W.iloadN C at_27 rfl ?_
    refine W.iloadN C at_28 rfl ?_
    refine W.iconst C (3 : Int32) at_29 rfl ?_
    refine W.iushr C at_30 ?_
    refine W.callSW C hS (y' := y1) at_31 (tkw hw 0 rfl) (tkw hw 1 rfl) (tkw hw 2 rfl) (tkw hw 3 rfl) (by decide) (argsL := [(.int p1), (.int ((p2).toUInt32 >>> ((3 : Int32) &&& 31).toUInt32).toInt32)]) (rest := []) rfl (lenOf pd_7 rfl) (con_dr l Z a0 hw hp2 n0 p1 ((p2).toUInt32 >>> ((3 : Int32) &&& 31).toUInt32).toInt32 cv S_C hcv Z0) (fun vm' hW' => (chw C.2.1 hW' (own_ew hw) Hc).1) 0 12 24 rfl rfl rfl (by decide) (by decide) (by decide) (by decide) rfl ?_
    rintro _ hp12 vm13 ⟨str11, rfl, Ed, Hn⟩ _ C hSn
    replace S_C := S_C.ext Ed
    replace S_so := S_so.ext Ed
    replace S_sp := S_sp.ext Ed
    replace S_sq := S_sq.ext Ed
    replace Z0 := Nat.le_trans Z0 Ed.1
    replace Hc := Hn
    replace hS := hSn
    refine W.goto C 38 at_34 rfl ?_
    refine W.astore C #[.val (.int p0), .val (.int p1), .val (.int p2), .val (.int p3), .val (.ref str1), .val (.int (1 : Int32)), .val (.ref str11), .unset, .unset, .unset] at_38 rfl rfl ?_
    refine W.iloadN C at_40 rfl ?_
    refine W.callS C (y' := y8) at_41 (tkw hw 34 rfl) (tkw hw 35 rfl) (tkw hw 2 rfl) (tkw hw 36 rfl) (by decide) (argsL := [(.int p3)]) (rest := []) rfl (lenOf pd_8 rfl) (con_oc l Z a0 hw hp12 n0 p3 so sp sq S_so S_sp S_sq Z0) 0 12 24 rfl rfl rfl (by decide) (by decide) (by decide) (by decide) rfl ?_
    rintro _ _ ⟨rfl, oc14, rfl⟩
    refine W.astore C #[.val (.int p0), .val (.int p1), .val (.int p2), .val (.int p3), .val (.ref str1), .val (.int (1 : Int32)), .val (.ref str11), .val (.ref oc14), .unset, .unset] at_44 rfl rfl ?_
    refine W.new C at_46 (tkw hw 41 rfl) (tkw hw 42 rfl) (tkw hw 43 rfl) 13 27 rfl rfl (by decide) (by decide) ?_
    intro ob16 hp17 hob16 Eob16 Aob16 Dob16
    have Sf_ob16 : Safe Z own_EL vm13 hp12 ob16 := Safe.new (Nat.le_of_eq hob16.symm)
    have ge_ob16 : n0 ≤ ob16 := by rw [hob16]; exact Z0
    replace Sf_ob16 := Safe.ext Eob16 Hc Sf_ob16
    replace Hc := CHv.ext Eob16 Hc
    replace S_C := S_C.ext Eob16
    replace S_so := S_so.ext Eob16
    replace S_sp := S_sp.ext Eob16
    replace S_sq := S_sq.ext Eob16
    replace Z0 := Nat.le_trans Z0 Eob16.1
    replace hS := hS.le Eob16.1
    have Fob16_name : Fld Z hp17 ob16 "com/example/holdfast/holdfast/cli/Option" "name" "Ljava/lang/String;" .null := Dob16 (Or.inr (tkw hw 54 rfl)) (ty := (.object "java/lang/String")) (by decide)
    have Fob16_value : Fld Z hp17 ob16 "com/example/holdfast/holdfast/cli/Option" "value" "Ljava/lang/String;" .null := Dob16 (Or.inr (tkw hw 56 rfl)) (ty := (.object "java/lang/String")) (by decide)
    have Fob16_occurrence : Fld Z hp17 ob16 "com/example/holdfast/holdfast/cli/Option" "occurrence" "Lcom/example/holdfast/holdfast/cli/Option$Occurrence;" .null := Dob16 (Or.inr (tkw hw 58 rfl)) (ty := (.object "com/example/holdfast/holdfast/cli/Option$Occurrence")) (by decide)
    refine W.dup C at_49 rfl ?_
    refine W.aload C at_50 rfl rfl ?_
    refine W.aload C at_52 rfl rfl ?_
    refine W.aload C at_54 rfl rfl ?_
    have S_old := S_so
    have X_old := Aob16
    refine W.callI C (y' := y9) at_56 rfl (tkw hw 44 rfl) (tkw hw 45 rfl) (tkw hw 43 rfl) (tkw hw 46 rfl) (by decide) (a := ob16) (argsL := [(.ref str1), (.ref str11), (.ref oc14)]) (rest := [(.ref ob16)]) rfl (lenOf pd_6 rfl) (con_opa l Z a0 hw hp17 n0 ob16 str1 str11 oc14 _ _ _ Aob16 ge_ob16 Fob16_name Fob16_value Fob16_occurrence Z0) 1 13 27 rfl rfl rfl (by decide) (by decide) (by decide) (by decide) rfl ?_
    rintro _ hp18 ⟨rfl, Kc, A_n, F_n⟩
    have Sf_ob16_n := Safe.keep Kc (allS Sf_ob16 all0) Hc Sf_ob16
    replace Hc := CHv.keep Kc (allS Sf_ob16 all0) Hc
    replace Sf_ob16 := Sf_ob16_n
    replace Z0 := Nat.le_trans Z0 Kc.1
    replace hS := hS.le Kc.1
    replace Aob16 := A_n
    replace Fob16_value := F_n
    have S_so := own_sk S_old X_old Kc
    refine W.astore C #[.val (.int p0), .val (.int p1), .val (.int p2), .val (.int p3), .val (.ref str1), .val (.int (1 : Int32)), .val (.ref str11), .val (.ref oc14), .val (.ref ob16), .unset] at_59 rfl rfl ?_
    refine W.aload C at_61 rfl rfl ?_
    refine W.callS C (y' := y11) at_63 (tkw hw 59 rfl) (tkw hw 60 rfl) (tkw hw 43 rfl) (tkw hw 61 rfl) (by decide) (argsL := [(.ref str1)]) (rest := []) rfl (lenOf pd_9 rfl) (con_fl l Z a0 hw hp18 n0 str1 so S_so Z0) 0 14 30 rfl rfl rfl (by decide) (by decide) (by decide) (by decide) rfl ?_
    rintro _ hp20 ⟨fl19, rfl, Ef, Afl19, Ffl19_value⟩
    replace Sf_ob16 := Safe.ext Ef Hc Sf_ob16
    replace Hc := CHv.ext Ef Hc
    replace Z0 := Nat.le_trans Z0 Ef.1
    replace hS := hS.le Ef.1
    replace Aob16 := Aob16.ext Ef
    replace Fob16_value := Fob16_value.ext Ef
    replace S_so := S_so.ext Ef
    refine W.astore C #[.val (.int p0), .val (.int p1), .val (.int p2), .val (.int p3), .val (.ref str1), .val (.int (1 : Int32)), .val (.ref str11), .val (.ref oc14), .val (.ref ob16), .val (.ref fl19)] at_66 rfl rfl ?_
    refine W.aload C at_68 rfl rfl ?_
    refine W.callV C (y' := y12) at_70 (tkw hw 65 rfl) (tkw hw 66 rfl) (tkw hw 68 rfl) (tkw hw 67 rfl) (tkw hw 43 rfl) (tkw hw 69 rfl) (by decide) Aob16 (argsL := []) (rest := []) rfl (lenOf pd_10 rfl) (con_tva l Z a0 hw hp20 n0 ob16 str11 Fob16_value Z0) 0 14 30 rfl rfl rfl (by decide) (by decide) (by decide) (by decide) rfl ?_
    rintro _ _ ⟨rfl, rfl⟩
    refine W.iload C at_73 rfl ?_
    refine W.icmp_ne C 90 at_75 rfl (fun b => absurd b (by decide)) (fun _ => ?_)
    refine W.aload C at_78 rfl rfl ?_
    refine W.callV C (y' := y12) at_80 (tkw hw 65 rfl) (tkw hw 66 rfl) (tkw hw 68 rfl) (tkw hw 67 rfl) (tkw hw 43 rfl) (tkw hw 69 rfl) (by decide) Afl19 (argsL := []) (rest := []) rfl (lenOf pd_10 rfl) (con_tvn l Z a0 hw hp20 n0 fl19 Ffl19_value Z0) 0 14 30 rfl rfl rfl (by decide) (by decide) (by decide) (by decide) rfl ?_
    rintro _ _ ⟨rfl, rfl⟩
    refine W.if_ne C 90 at_83 rfl (fun b => absurd b (by decide)) (fun _ => ?_)
    refine W.iconst C (1 : Int32) at_86 rfl ?_
    refine W.goto C 91 at_87 rfl ?_
    exact W.iret C at_91 (by simp) rfl (FW.ok hS (by decide) (by decide) (fun vm' hW' => rfl))

set_option maxRecDepth 65536 in
set_option maxHeartbeats 40000000 in
theorem comes_1 {Post : Tables → Env → Array Value → State → Outcome → State → Prop} (hpost : ∀ tb e args s v u, (limb_1_1.after args s (.returned v) u = true ∧ limb_1_2.after args s (.returned v) u = true ∧ True) → ReturnedEndW s (.returned v) u (Jvm.fieldLocs frame_1_writes args s ++ Jvm.arrayLocs frame_1_arrays args s ++ Jvm.staticLocs frame_1_statics s) 32 1152 → Post tb e args s (.returned v) u) :
    ArmFor flags0 classFile x code maxLocals ret World_1 tables_1 room_1 Calls_1 rest_1 Pre_1 Post := by
  intro l hfl _ _ p e ha hc hk s m args below hf hA hF happ hP
  obtain ⟨hcalls, hrest, hpre⟩ := hP
  obtain ⟨-, -, -, hnamed, -, -, -, hat⟩ := (Spec.applies_iff hf).mp happ
  obtain ⟨hg, hn⟩ := and_e (Cond.before_iff.mp (show (Jvm.Cond.and given_1 narrow_1).before args s = true from hpre))
  obtain ⟨gc, g0⟩ := and_e hg
  obtain ⟨i0h, g1⟩ := and_e g0
  obtain ⟨i1h, g2⟩ := and_e g1
  obtain ⟨i2h, g3⟩ := and_e g2
  obtain ⟨w0, w1, w2, w3, rfl⟩ : ∃ w0 w1 w2 w3 : Value, args = #[w0, w1, w2, w3] := by
    have hs : args.size = 4 := by simpa [Cond.value, given_1] using gc
    obtain ⟨L⟩ := args
    match L, hs with
    | [w0, w1, w2, w3], _ => exact ⟨w0, w1, w2, w3, rfl⟩
  have hw := fun d (hd : d ∈ tables_1) => atoms_spec (ws := Jvm.Cond.code x code maxLocals ret :: tables_1) hat d (List.mem_cons_of_mem _ hd)
  have hfit : Fit s := fun {y c} hc i hi => by
    obtain ⟨ha, rfl⟩ := Array.getElem?_eq_some_iff.mp hc
    have q := List.all_eq_true.mp ((Array.all_eq_true_iff_forall_mem.mp hF) _ (Array.getElem_mem ha)) i (List.mem_range.mpr hi)
    simpa [Array.getElem?_eq_getElem hi] using q
  obtain ⟨i0, ei0⟩ := is_v i0h
  obtain rfl : w0 = (.int i0) := Option.some.inj ei0
  obtain ⟨i1, ei1⟩ := is_v i1h
  obtain rfl : w1 = (.int i1) := Option.some.inj ei1
  obtain ⟨i2, ei2⟩ := is_v i2h
  obtain rfl : w2 = (.int i2) := Option.some.inj ei2
  obtain ⟨i3, ei3⟩ := is_v g3
  obtain rfl : w3 = (.int i3) := Option.some.inj ei3
  obtain ⟨n1, hn⟩ := and_e hn
  obtain ⟨n2, n3⟩ := and_e hn
  obtain ⟨hsets, hown0⟩ := atoms_of _ (rest_1_c_eq ▸ (show rest_1_c.before _ s = true from hrest))
  have z3 := not_v (Cond.before_iff.mp (hsets _ (List.mem_of_getElem? (i := 2) rfl)))
  obtain ⟨cv, ecv⟩ := is_v (Cond.before_iff.mp (hsets _ (List.mem_of_getElem? (i := 1) rfl)))
  have S_C : Sta s s.heap "java/lang/String" "COMPACT_STRINGS" "Z" (.int cv) := Sta.start ecv (Or.inl (hsets _ (List.mem_of_getElem? (i := 0) rfl)))
  have hcv : ¬ cv = 0 := gotF (Cond.eq_ints ecv (Term.int_eval (0))) z3
  have Hc : CHv s own_EL s.vm s.heap := CHv.start (own_ew hw) (fun p hp => hcalls.1 p hp) (hsets _ (List.mem_of_getElem? (i := 2) rfl)) (tkw hw 23 rfl) (tkw hw 5 rfl)
  obtain ⟨so, e_so⟩ := exa_v n1
  have S_so := Sta.start e_so (Or.inr ⟨(tkw hw 39 rfl), (tkw hw 40 rfl)⟩)
  obtain ⟨sp, e_sp⟩ := exa_v n2
  have S_sp := Sta.start e_sp (Or.inr ⟨(tkw hw 39 rfl), (tkw hw 74 rfl)⟩)
  obtain ⟨sq, e_sq⟩ := exa_v n3
  have S_sq := Sta.start e_sq (Or.inr ⟨(tkw hw 39 rfl), (tkw hw 76 rfl)⟩)
  obtain ⟨n, o, h1, h2, h3, _, L, rfl, ⟨rfl, N⟩, hq⟩ := (con_0 l s _ hw s.heap s.heap.size i0 i1 i2 i3 cv S_C hcv so sp sq S_so S_sp S_sq (Nat.le_refl _)) tables_1 p e ha hc hk s m _ below hf ((Spec.applies_iff_loose hf).mp happ).1 ⟨rfl, State.Warmed39.refl s, rfl, Hc⟩ trivial
  refine ⟨n, _, h1, h2, h3, hpost _ _ _ _ _ _ ⟨Cond.after_iff.mpr rfl, Cond.after_iff.mpr (eq_i res_at (Term.int_eval (1)) rfl), trivial⟩ ⟨hq.1, hq.2.1, hq.2.2.1, (hq.2.2.2.sift fun y hy => Or.inr (N y hy)).mono (by decide) (by decide)⟩⟩
theorem main_1_1 : Claimed_1_1 := comes_1 fun _ _ _ _ _ _ h hF => ⟨h.1, hF⟩
theorem main_1_2 : Claimed_1_2 := comes_1 fun _ _ _ _ _ _ h hF => ⟨h.2.1, hF⟩
end Jvm.Pilot.@@N@@
namespace Jvm.Pilot.@@N@@
open Jvm Jvm.ClassFile Sem Op Lib Jvm.Free Jvm.Stand Jvm.Pilot.@@N@@.Jvm.D
/-! MADE BY PROGRAM (witnessworld.py) out of the Statement's table words and the real class files: 23 classes; the members and pool entries that the words name. The judged class is class 1, her method 3. -/
namespace start1
open Jvm.ClassFile
def u (s : String) : CpInfo := .utf8 (stringToUtf16 s)
/-- a pool by its gaps: so many unusable entries, then the entry; so many at the end -/
def gap : Nat → List CpInfo → List CpInfo
  | 0, r => r
  | n + 1, r => .unusable :: gap n r
def poolList (es : List (Nat × CpInfo)) (last : Nat) : List CpInfo := es.foldr (fun e r => gap e.1 (e.2 :: r)) (gap last [])
def pool (es : List (Nat × CpInfo)) (last : Nat) : Array CpInfo := ⟨poolList es last⟩
def fileOf (pool : Array CpInfo) (this : Nat) (attrs : Array Attribute := #[]) (ms : Array MethodInfo := #[]) (fl : Nat := 33) (sup : Nat := 0) (ifs : Array Nat := #[]) (fds : Array FieldInfo := #[]) : ClassFile where
  minorVersion := 0
  majorVersion := 65
  constantPool := pool
  accessFlags := fl
  thisClass := this
  superClass := sup
  interfaces := ifs
  fields := fds
  methods := ms
  attributes := attrs
def plain (name : String) (sup : Option ClassId) : Class where
  name := name
  kind := .ordinary
  loader := none
  accessFlags := 33
  super := sup
  interfaces := #[]
  cf := none
  fields := #[]
  methods := #[]
  instanceTypes := #[]
  staticTypes := #[]
  resolved := #[]
  callSites := []
  init := .initialized
  statics := none
  mirror := none

def pool0 : Array CpInfo := pool [(5, u "<init>"), (0, u "()V"), (1, .class_ 10), (1, u "java/lang/Object")] 113

def k0c0 : Code := { maxStack := 0, maxLocals := 1, code := object_method_1_code, exceptionTable := #[], attributes := #[] }
def k0m0 : Method := { name := "<init>", desc := "()V", sig := { parameters := [], returnType := none }, accessFlags := 1, code := some k0c0 }
/-- java/lang/Object -/
def k0 : Class := { plain "java/lang/Object" none with
  accessFlags := 33
  interfaces := #[]
  cf := some (fileOf pool0 8 #[] #[{ accessFlags := 1, nameIndex := 5, descriptorIndex := 6, attributes := #[] }] 33 0 #[] #[])
  fields := #[]
  methods := #[k0m0]
  instanceTypes := #[]
  staticTypes := #[]
  resolved := Array.replicate 124 none
  statics := none }

def pool1 : Array CpInfo := pool [(2, .class_ 4), (1, u "java/lang/Object"), (0, u "<init>"), (0, u "()V"), (0, .class_ 8), (0, u "java/lang/String"), (0, .methodref 7 10), (0, .nameAndType 5 11), (0, u "([C)V"), (0, .integer 2147483647), (0, .fieldref 14 15), (0, .class_ 16), (0, .nameAndType 17 18), (0, u "com/example/holdfast/holdfast/cli/Option$Occurrence"), (0, u "REQUIRED"), (0, u "Lcom/example/holdfast/holdfast/cli/Option$Occurrence;"), (0, .fieldref 14 20), (0, .nameAndType 21 18), (0, u "OPTIONAL"), (0, .fieldref 14 23), (0, .nameAndType 24 18), (0, u "REPEATABLE"), (0, .methodref 26 27), (0, .class_ 28), (0, .nameAndType 29 30), (0, u "com/example/holdfast/holdfast/cli/OptionTakesValuePinLaw"), (0, u "draw"), (0, u "(II)Ljava/lang/String;"), (0, .methodref 26 32), (0, .nameAndType 33 34), (0, u "occurrence"), (0, u "(I)Lcom/example/holdfast/holdfast/cli/Option$Occurrence;"), (0, .class_ 36), (0, u "com/example/holdfast/holdfast/cli/Option"), (0, .methodref 35 38), (0, .nameAndType 5 39), (0, u "(Ljava/lang/String;Ljava/lang/String;Lcom/example/holdfast/holdfast/cli/Option$Occurrence;)V"), (0, .methodref 35 41), (0, .nameAndType 42 43), (0, u "flag"), (0, u "(Ljava/lang/String;)Lcom/example/holdfast/holdfast/cli/Option;"), (0, .methodref 35 45), (0, .nameAndType 46 47), (0, u "takesValue"), (0, u "()Z"), (3, u "law"), (0, u "(IIII)Z")] 4

def k1m0 : Method := { name := "<init>", desc := "()V", sig := { parameters := [], returnType := none }, accessFlags := 1, code := none }
def k1c1 : Code := { maxStack := 6, maxLocals := 6, code := method_2_code, exceptionTable := #[], attributes := #[] }
def k1m1 : Method := { name := "draw", desc := "(II)Ljava/lang/String;", sig := { parameters := [.int, .int], returnType := some (.object "java/lang/String") }, accessFlags := 10, code := some k1c1 }
def k1c2 : Code := { maxStack := 2, maxLocals := 2, code := method_3_code, exceptionTable := #[], attributes := #[] }
def k1m2 : Method := { name := "occurrence", desc := "(I)Lcom/example/holdfast/holdfast/cli/Option$Occurrence;", sig := { parameters := [.int], returnType := some (.object "com/example/holdfast/holdfast/cli/Option$Occurrence") }, accessFlags := 10, code := some k1c2 }
def k1c3 : Code := { maxStack := 5, maxLocals := 10, code := code, exceptionTable := #[], attributes := #[] }
def k1m3 : Method := { name := "law", desc := "(IIII)Z", sig := { parameters := [.int, .int, .int, .int], returnType := some .boolean }, accessFlags := 9, code := some k1c3 }
/-- com/example/holdfast/holdfast/cli/OptionTakesValuePinLaw -/
def k1 : Class := { plain "com/example/holdfast/holdfast/cli/OptionTakesValuePinLaw" (some 0) with
  accessFlags := 49
  interfaces := #[]
  cf := some (fileOf pool1 26 #[] #[{ accessFlags := 1, nameIndex := 5, descriptorIndex := 6, attributes := #[] }, { accessFlags := 10, nameIndex := 29, descriptorIndex := 30, attributes := #[] }, { accessFlags := 10, nameIndex := 33, descriptorIndex := 34, attributes := #[] }, { accessFlags := 9, nameIndex := 51, descriptorIndex := 52, attributes := #[] }] 49 2 #[] #[])
  fields := #[]
  methods := #[k1m0, k1m1, k1m2, k1m3]
  instanceTypes := #[]
  staticTypes := #[]
  resolved := Array.replicate 57 none
  statics := none }

def pool2 : Array CpInfo := pool [(1, .class_ 2), (0, u "java/io/Serializable"), (0, .class_ 4), (0, u "java/lang/Object")] 2

/-- java/io/Serializable -/
def k2 : Class := { plain "java/io/Serializable" (some 0) with
  accessFlags := 1537
  interfaces := #[]
  cf := some (fileOf pool2 1 #[] #[] 1537 3 #[] #[])
  fields := #[]
  methods := #[]
  instanceTypes := #[]
  staticTypes := #[]
  resolved := Array.replicate 7 none
  statics := none }

def pool3 : Array CpInfo := pool [(1, .class_ 2), (0, u "java/lang/Comparable"), (0, .class_ 4), (0, u "java/lang/Object")] 7

/-- java/lang/Comparable -/
def k3 : Class := { plain "java/lang/Comparable" (some 0) with
  accessFlags := 1537
  interfaces := #[]
  cf := some (fileOf pool3 1 #[] #[] 1537 3 #[] #[])
  fields := #[]
  methods := #[]
  instanceTypes := #[]
  staticTypes := #[]
  resolved := Array.replicate 12 none
  statics := none }

def pool4 : Array CpInfo := pool [(2, .class_ 4), (1, u "java/lang/CharSequence"), (42, .class_ 48), (0, u "java/lang/CharSequence$1CodePointIterator"), (10, .class_ 60), (0, u "java/lang/CharSequence$1CharIterator"), (5, .class_ 67), (0, u "java/lang/Object")] 63

/-- java/lang/CharSequence -/
def k4 : Class := { plain "java/lang/CharSequence" (some 0) with
  accessFlags := 1537
  interfaces := #[]
  cf := some (fileOf pool4 2 #[.nestMembers #[47, 59]] #[] 1537 66 #[] #[])
  fields := #[]
  methods := #[]
  instanceTypes := #[]
  staticTypes := #[]
  resolved := Array.replicate 131 none
  statics := none }

def pool5 : Array CpInfo := pool [(1, .class_ 2), (0, u "java/lang/constant/Constable"), (0, .class_ 4), (0, u "java/lang/Object")] 6

/-- java/lang/constant/Constable -/
def k5 : Class := { plain "java/lang/constant/Constable" (some 0) with
  accessFlags := 1537
  interfaces := #[]
  cf := some (fileOf pool5 1 #[] #[] 1537 3 #[] #[])
  fields := #[]
  methods := #[]
  instanceTypes := #[]
  staticTypes := #[]
  resolved := Array.replicate 11 none
  statics := none }

def pool6 : Array CpInfo := pool [(1, .class_ 2), (0, u "java/lang/constant/ConstantDesc"), (0, .class_ 4), (0, u "java/lang/Object")] 32

/-- java/lang/constant/ConstantDesc -/
def k6 : Class := { plain "java/lang/constant/ConstantDesc" (some 0) with
  accessFlags := 1537
  interfaces := #[]
  cf := some (fileOf pool6 1 #[] #[] 1537 3 #[] #[])
  fields := #[]
  methods := #[]
  instanceTypes := #[]
  staticTypes := #[]
  resolved := Array.replicate 37 none
  statics := none }

def pool7 : Array CpInfo := pool [(1, .methodref 2 3), (0, .class_ 4), (0, .nameAndType 5 6), (0, u "java/lang/Object"), (0, u "<init>"), (0, u "()V"), (0, .string 8), (0, u ""), (0, .fieldref 10 11), (0, .class_ 12), (0, .nameAndType 13 14), (0, u "java/lang/String"), (0, u "value"), (0, u "[B"), (0, .fieldref 10 16), (0, .nameAndType 17 18), (0, u "coder"), (0, u "B"), (2, u "hash"), (0, u "I"), (2, u "hashIsZero"), (0, u "Z"), (0, .methodref 10 28), (0, .nameAndType 5 29), (0, u "([CIILjava/lang/Void;)V"), (8, .fieldref 10 39), (0, .nameAndType 40 26), (0, u "COMPACT_STRINGS"), (1, .class_ 44), (1, u "java/lang/StringUTF16"), (0, u "compress"), (1, .methodref 42 48), (0, .nameAndType 49 50), (0, u "coderFromArrayLen"), (0, u "([BI)B"), (126, .methodref 42 178), (0, .nameAndType 45 179), (0, u "([CII)[B"), (395, .class_ 576), (0, u "java/lang/CharSequence"), (22, u "CASE_INSENSITIVE_ORDER"), (0, u "Ljava/util/Comparator;"), (409, u "([C)V"), (90, u "serialPersistentFields"), (0, u "[Ljava/io/ObjectStreamField;"), (0, .class_ 1104), (0, u "java/lang/String$CaseInsensitiveComparator"), (1, .class_ 1107), (0, u "java/io/Serializable"), (0, .class_ 1109), (0, u "java/lang/Comparable"), (0, .class_ 1111), (0, u "java/lang/constant/Constable"), (0, .class_ 1113), (0, u "java/lang/constant/ConstantDesc"), (2, u "serialVersionUID"), (0, u "J"), (3, u "REPL"), (0, u "C"), (2, u "LATIN1"), (1, u "UTF16")] 323

def k7m0 : Method := { name := "<init>", desc := "()V", sig := { parameters := [], returnType := none }, accessFlags := 1, code := none }
def k7c1 : Code := { maxStack := 5, maxLocals := 2, code := jdk_42_method_3_code, exceptionTable := #[], attributes := #[] }
def k7m1 : Method := { name := "<init>", desc := "([C)V", sig := { parameters := [(.array .char)], returnType := none }, accessFlags := 1, code := some k7c1 }
def k7c2 : Code := { maxStack := 4, maxLocals := 6, code := jdk_42_method_149_code, exceptionTable := #[], attributes := #[] }
def k7m2 : Method := { name := "<init>", desc := "([CIILjava/lang/Void;)V", sig := { parameters := [(.array .char), .int, .int, (.object "java/lang/Void")], returnType := none }, accessFlags := 2, code := some k7c2 }
/-- java/lang/String -/
def k7 : Class := { plain "java/lang/String" (some 0) with
  accessFlags := 49
  interfaces := #[2, 3, 4, 5, 6]
  cf := some (fileOf pool7 10 #[.nestMembers #[1103]] #[{ accessFlags := 1, nameIndex := 5, descriptorIndex := 6, attributes := #[] }, { accessFlags := 1, nameIndex := 5, descriptorIndex := 1010, attributes := #[] }, { accessFlags := 2, nameIndex := 5, descriptorIndex := 29, attributes := #[] }] 49 2 #[1106, 1108, 575, 1110, 1112] #[{ accessFlags := 18, nameIndex := 13, descriptorIndex := 14, attributes := #[] }, { accessFlags := 18, nameIndex := 17, descriptorIndex := 18, attributes := #[] }, { accessFlags := 2, nameIndex := 21, descriptorIndex := 22, attributes := #[] }, { accessFlags := 2, nameIndex := 25, descriptorIndex := 26, attributes := #[] }, { accessFlags := 26, nameIndex := 1116, descriptorIndex := 1117, attributes := #[] }, { accessFlags := 24, nameIndex := 40, descriptorIndex := 26, attributes := #[] }, { accessFlags := 26, nameIndex := 1101, descriptorIndex := 1102, attributes := #[] }, { accessFlags := 26, nameIndex := 1121, descriptorIndex := 1122, attributes := #[] }, { accessFlags := 25, nameIndex := 599, descriptorIndex := 600, attributes := #[] }, { accessFlags := 24, nameIndex := 1125, descriptorIndex := 18, attributes := #[] }, { accessFlags := 24, nameIndex := 1127, descriptorIndex := 18, attributes := #[] }])
  fields := #[{ name := "value", type := (.array .byte), accessFlags := 18, slot := 0, constantValue := 0 }, { name := "coder", type := .byte, accessFlags := 18, slot := 1, constantValue := 0 }, { name := "hash", type := .int, accessFlags := 2, slot := 2, constantValue := 0 }, { name := "hashIsZero", type := .boolean, accessFlags := 2, slot := 3, constantValue := 0 }, { name := "serialVersionUID", type := .long, accessFlags := 26, slot := 0, constantValue := 0 }, { name := "COMPACT_STRINGS", type := .boolean, accessFlags := 24, slot := 1, constantValue := 0 }, { name := "serialPersistentFields", type := (.array (.object "java/io/ObjectStreamField")), accessFlags := 26, slot := 2, constantValue := 0 }, { name := "REPL", type := .char, accessFlags := 26, slot := 3, constantValue := 0 }, { name := "CASE_INSENSITIVE_ORDER", type := (.object "java/util/Comparator"), accessFlags := 25, slot := 4, constantValue := 0 }, { name := "LATIN1", type := .byte, accessFlags := 24, slot := 5, constantValue := 0 }, { name := "UTF16", type := .byte, accessFlags := 24, slot := 6, constantValue := 0 }]
  methods := #[k7m0, k7m1, k7m2]
  instanceTypes := #[(.array .byte), .byte, .int, .boolean]
  staticTypes := #[.long, .boolean, (.array (.object "java/io/ObjectStreamField")), .char, (.object "java/util/Comparator"), .byte, .byte]
  resolved := Array.replicate 1451 none
  statics := some 0 }

def pool8 : Array CpInfo := pool [(6, .class_ 8), (1, u "java/lang/Object"), (0, u "<init>"), (0, u "()V"), (1, .class_ 14), (1, u "java/lang/StringUTF16"), (31, u "$assertionsDisabled"), (0, u "Z"), (13, u "HI_BYTE_SHIFT"), (0, u "I"), (2, u "LO_BYTE_SHIFT"), (49, .methodref 12 116), (0, .nameAndType 117 118), (0, u "compress"), (0, u "([CI[BII)I"), (3, u "([CII)[B"), (138, u "coderFromArrayLen"), (0, u "([BI)B"), (106, .class_ 371), (1, u "java/lang/StringUTF16$LinesSpliterator"), (58, u "MAX_LENGTH"), (196, .class_ 628), (0, u "java/lang/StringUTF16$CodePointsSpliterator"), (0, .class_ 630), (0, u "java/lang/StringUTF16$CharsSpliterator")] 4

def k8m0 : Method := { name := "<init>", desc := "()V", sig := { parameters := [], returnType := none }, accessFlags := 0, code := none }
def k8c1 : Code := { maxStack := 2, maxLocals := 2, code := jdk_52_method_15_code, exceptionTable := #[], attributes := #[] }
def k8m1 : Method := { name := "coderFromArrayLen", desc := "([BI)B", sig := { parameters := [(.array .byte), .int], returnType := some .byte }, accessFlags := 8, code := some k8c1 }
def k8c2 : Code := { maxStack := 5, maxLocals := 6, code := jdk_52_method_16_code, exceptionTable := #[], attributes := #[] }
def k8m2 : Method := { name := "compress", desc := "([CII)[B", sig := { parameters := [(.array .char), .int, .int], returnType := some (.array .byte) }, accessFlags := 9, code := some k8c2 }
def k8c3 : Code := { maxStack := 3, maxLocals := 7, code := jdk_52_method_21_code, exceptionTable := #[], attributes := #[] }
def k8m3 : Method := { name := "compress", desc := "([CI[BII)I", sig := { parameters := [(.array .char), .int, (.array .byte), .int, .int], returnType := some .int }, accessFlags := 9, code := some k8c3 }
/-- java/lang/StringUTF16 -/
def k8 : Class := { plain "java/lang/StringUTF16" (some 0) with
  accessFlags := 48
  interfaces := #[]
  cf := some (fileOf pool8 12 #[.nestMembers #[627, 629, 369]] #[{ accessFlags := 0, nameIndex := 9, descriptorIndex := 10, attributes := #[] }, { accessFlags := 8, nameIndex := 261, descriptorIndex := 262, attributes := #[] }, { accessFlags := 9, nameIndex := 117, descriptorIndex := 122, attributes := #[] }, { accessFlags := 9, nameIndex := 117, descriptorIndex := 118, attributes := #[] }] 48 6 #[] #[{ accessFlags := 26, nameIndex := 61, descriptorIndex := 62, attributes := #[] }, { accessFlags := 26, nameIndex := 65, descriptorIndex := 62, attributes := #[] }, { accessFlags := 24, nameIndex := 430, descriptorIndex := 62, attributes := #[] }, { accessFlags := 4120, nameIndex := 46, descriptorIndex := 47, attributes := #[] }])
  fields := #[{ name := "HI_BYTE_SHIFT", type := .int, accessFlags := 26, slot := 0, constantValue := 0 }, { name := "LO_BYTE_SHIFT", type := .int, accessFlags := 26, slot := 1, constantValue := 0 }, { name := "MAX_LENGTH", type := .int, accessFlags := 24, slot := 2, constantValue := 0 }, { name := "$assertionsDisabled", type := .boolean, accessFlags := 4120, slot := 3, constantValue := 0 }]
  methods := #[k8m0, k8m1, k8m2, k8m3]
  instanceTypes := #[]
  staticTypes := #[.int, .int, .int, .boolean]
  resolved := Array.replicate 635 none
  statics := none }

def pool9 : Array CpInfo := pool [(2, .class_ 4), (1, u "java/lang/Enum"), (0, u "name"), (0, u "Ljava/lang/String;"), (2, u "ordinal"), (0, u "I"), (1, .class_ 14), (1, u "java/lang/Object"), (4, u "hash"), (86, .class_ 108), (1, u "java/lang/Enum$EnumDesc"), (2, .class_ 112), (0, u "java/lang/constant/Constable"), (0, .class_ 114), (0, u "java/lang/Comparable"), (0, .class_ 116), (0, u "java/io/Serializable")] 87

/-- java/lang/Enum -/
def k9 : Class := { plain "java/lang/Enum" (some 0) with
  accessFlags := 1057
  interfaces := #[5, 3, 2]
  cf := some (fileOf pool9 2 #[.nestMembers #[106]] #[] 1057 12 #[111, 113, 115] #[{ accessFlags := 18, nameIndex := 5, descriptorIndex := 6, attributes := #[] }, { accessFlags := 18, nameIndex := 9, descriptorIndex := 10, attributes := #[] }, { accessFlags := 2, nameIndex := 19, descriptorIndex := 10, attributes := #[] }])
  fields := #[{ name := "name", type := (.object "java/lang/String"), accessFlags := 18, slot := 0, constantValue := 0 }, { name := "ordinal", type := .int, accessFlags := 18, slot := 1, constantValue := 0 }, { name := "hash", type := .int, accessFlags := 2, slot := 2, constantValue := 0 }]
  methods := #[]
  instanceTypes := #[(.object "java/lang/String"), .int, .int]
  staticTypes := #[]
  resolved := Array.replicate 204 none
  statics := none }

def pool10 : Array CpInfo := pool [(1, .class_ 2), (0, u "com/example/holdfast/holdfast/cli/Option$Occurrence"), (2, u "REQUIRED"), (0, u "Lcom/example/holdfast/holdfast/cli/Option$Occurrence;"), (2, u "OPTIONAL"), (2, u "REPEATABLE"), (2, u "$VALUES"), (0, u "[Lcom/example/holdfast/holdfast/cli/Option$Occurrence;"), (6, .class_ 25), (1, u "java/lang/Enum"), (26, .class_ 53), (0, u "com/example/holdfast/holdfast/cli/Option")] 2

/-- com/example/holdfast/holdfast/cli/Option$Occurrence -/
def k10 : Class := { plain "com/example/holdfast/holdfast/cli/Option$Occurrence" (some 9) with
  accessFlags := 16432
  interfaces := #[]
  cf := some (fileOf pool10 1 #[.nestHost 52] #[] 16432 23 #[] #[{ accessFlags := 16409, nameIndex := 5, descriptorIndex := 6, attributes := #[] }, { accessFlags := 16409, nameIndex := 9, descriptorIndex := 6, attributes := #[] }, { accessFlags := 16409, nameIndex := 12, descriptorIndex := 6, attributes := #[] }, { accessFlags := 4122, nameIndex := 15, descriptorIndex := 16, attributes := #[] }])
  fields := #[{ name := "REQUIRED", type := (.object "com/example/holdfast/holdfast/cli/Option$Occurrence"), accessFlags := 16409, slot := 0, constantValue := 0 }, { name := "OPTIONAL", type := (.object "com/example/holdfast/holdfast/cli/Option$Occurrence"), accessFlags := 16409, slot := 1, constantValue := 0 }, { name := "REPEATABLE", type := (.object "com/example/holdfast/holdfast/cli/Option$Occurrence"), accessFlags := 16409, slot := 2, constantValue := 0 }, { name := "$VALUES", type := (.array (.object "com/example/holdfast/holdfast/cli/Option$Occurrence")), accessFlags := 4122, slot := 3, constantValue := 0 }]
  methods := #[]
  instanceTypes := #[(.object "java/lang/String"), .int, .int]
  staticTypes := #[(.object "com/example/holdfast/holdfast/cli/Option$Occurrence"), (.object "com/example/holdfast/holdfast/cli/Option$Occurrence"), (.object "com/example/holdfast/holdfast/cli/Option$Occurrence"), (.array (.object "com/example/holdfast/holdfast/cli/Option$Occurrence"))]
  resolved := Array.replicate 56 none
  statics := some 1 }

def pool11 : Array CpInfo := pool [(1, .methodref 2 3), (0, .class_ 4), (0, .nameAndType 5 6), (0, u "java/lang/Object"), (0, u "<init>"), (0, u "()V"), (0, .class_ 8), (0, u "java/lang/Record")] 13

def k11c0 : Code := { maxStack := 1, maxLocals := 1, code := jdk_30_method_1_code, exceptionTable := #[], attributes := #[] }
def k11m0 : Method := { name := "<init>", desc := "()V", sig := { parameters := [], returnType := none }, accessFlags := 4, code := some k11c0 }
/-- java/lang/Record -/
def k11 : Class := { plain "java/lang/Record" (some 0) with
  accessFlags := 1057
  interfaces := #[]
  cf := some (fileOf pool11 7 #[] #[{ accessFlags := 4, nameIndex := 5, descriptorIndex := 6, attributes := #[] }] 1057 2 #[] #[])
  fields := #[]
  methods := #[k11m0]
  instanceTypes := #[]
  staticTypes := #[]
  resolved := Array.replicate 22 none
  statics := none }

def pool12 : Array CpInfo := pool [(1, .methodref 2 3), (0, .class_ 4), (0, .nameAndType 5 6), (0, u "java/lang/Record"), (0, u "<init>"), (0, u "()V"), (0, .fieldref 8 9), (0, .class_ 10), (0, .nameAndType 11 12), (0, u "com/example/holdfast/holdfast/cli/Option"), (0, u "name"), (0, u "Ljava/lang/String;"), (0, .fieldref 8 14), (0, .nameAndType 15 12), (0, u "value"), (0, .fieldref 8 17), (0, .nameAndType 18 19), (0, u "occurrence"), (0, u "Lcom/example/holdfast/holdfast/cli/Option$Occurrence;"), (9, .class_ 31), (1, u "com/example/holdfast/holdfast/cli/Option$Occurrence"), (1, .methodref 8 34), (0, .nameAndType 5 35), (0, u "(Ljava/lang/String;Ljava/lang/String;Lcom/example/holdfast/holdfast/cli/Option$Occurrence;)V"), (3, .fieldref 29 40), (0, .nameAndType 41 19), (0, u "OPTIONAL"), (8, u "takesValue"), (0, u "()Z"), (47, u "(Ljava/lang/String;)Lcom/example/holdfast/holdfast/cli/Option;"), (0, u "flag")] 41

def k12c0 : Code := { maxStack := 2, maxLocals := 4, code := prog_50_method_1_code, exceptionTable := #[], attributes := #[] }
def k12m0 : Method := { name := "<init>", desc := "(Ljava/lang/String;Ljava/lang/String;Lcom/example/holdfast/holdfast/cli/Option$Occurrence;)V", sig := { parameters := [(.object "java/lang/String"), (.object "java/lang/String"), (.object "com/example/holdfast/holdfast/cli/Option$Occurrence")], returnType := none }, accessFlags := 0, code := some k12c0 }
def k12c1 : Code := { maxStack := 5, maxLocals := 1, code := prog_50_method_8_code, exceptionTable := #[], attributes := #[] }
def k12m1 : Method := { name := "flag", desc := "(Ljava/lang/String;)Lcom/example/holdfast/holdfast/cli/Option;", sig := { parameters := [(.object "java/lang/String")], returnType := some (.object "com/example/holdfast/holdfast/cli/Option") }, accessFlags := 8, code := some k12c1 }
def k12c2 : Code := { maxStack := 1, maxLocals := 1, code := prog_50_method_9_code, exceptionTable := #[], attributes := #[] }
def k12m2 : Method := { name := "takesValue", desc := "()Z", sig := { parameters := [], returnType := some .boolean }, accessFlags := 0, code := some k12c2 }
/-- com/example/holdfast/holdfast/cli/Option -/
def k12 : Class := { plain "com/example/holdfast/holdfast/cli/Option" (some 11) with
  accessFlags := 48
  interfaces := #[]
  cf := some (fileOf pool12 8 #[.nestMembers #[29]] #[{ accessFlags := 0, nameIndex := 5, descriptorIndex := 35, attributes := #[] }, { accessFlags := 8, nameIndex := 100, descriptorIndex := 99, attributes := #[] }, { accessFlags := 0, nameIndex := 50, descriptorIndex := 51, attributes := #[] }] 48 2 #[] #[{ accessFlags := 18, nameIndex := 11, descriptorIndex := 12, attributes := #[] }, { accessFlags := 18, nameIndex := 15, descriptorIndex := 12, attributes := #[] }, { accessFlags := 18, nameIndex := 18, descriptorIndex := 19, attributes := #[] }])
  fields := #[{ name := "name", type := (.object "java/lang/String"), accessFlags := 18, slot := 0, constantValue := 0 }, { name := "value", type := (.object "java/lang/String"), accessFlags := 18, slot := 1, constantValue := 0 }, { name := "occurrence", type := (.object "com/example/holdfast/holdfast/cli/Option$Occurrence"), accessFlags := 18, slot := 2, constantValue := 0 }]
  methods := #[k12m0, k12m1, k12m2]
  instanceTypes := #[(.object "java/lang/String"), (.object "java/lang/String"), (.object "com/example/holdfast/holdfast/cli/Option$Occurrence")]
  staticTypes := #[]
  resolved := Array.replicate 142 none
  statics := none }

def pool13 : Array CpInfo := pool [(4, .class_ 6), (1, u "java/lang/Object"), (0, u "<init>"), (0, u "()V"), (5, .class_ 16), (1, u "java/lang/StringLatin1"), (104, u "$assertionsDisabled"), (0, u "Z"), (98, .class_ 223), (1, u "java/lang/StringLatin1$LinesSpliterator"), (166, .class_ 391), (0, u "java/lang/StringLatin1$CharsSpliterator")] 3

def k13m0 : Method := { name := "<init>", desc := "()V", sig := { parameters := [], returnType := none }, accessFlags := 0, code := none }
/-- java/lang/StringLatin1 -/
def k13 : Class := { plain "java/lang/StringLatin1" (some 0) with
  accessFlags := 48
  interfaces := #[]
  cf := some (fileOf pool13 14 #[.nestMembers #[390, 221]] #[{ accessFlags := 0, nameIndex := 7, descriptorIndex := 8, attributes := #[] }] 48 4 #[] #[{ accessFlags := 4120, nameIndex := 121, descriptorIndex := 122, attributes := #[] }])
  fields := #[{ name := "$assertionsDisabled", type := .boolean, accessFlags := 4120, slot := 0, constantValue := 0 }]
  methods := #[k13m0]
  instanceTypes := #[]
  staticTypes := #[.boolean]
  resolved := Array.replicate 395 none
  statics := none }

def pool14 : Array CpInfo := pool [(2, .class_ 4), (1, u "java/lang/Object"), (0, u "<init>"), (0, u "()V"), (17, .class_ 26), (1, u "jdk/internal/util/Preconditions"), (28, .class_ 56), (0, u "jdk/internal/util/Preconditions$4"), (57, .class_ 115), (0, u "jdk/internal/util/Preconditions$1"), (7, u "SIOOBE_FORMATTER"), (0, u "Ljava/util/function/BiFunction;"), (0, .class_ 126), (0, u "jdk/internal/util/Preconditions$2"), (3, u "AIOOBE_FORMATTER"), (0, .class_ 132), (0, u "jdk/internal/util/Preconditions$3"), (3, u "IOOBE_FORMATTER")] 57

def k14m0 : Method := { name := "<init>", desc := "()V", sig := { parameters := [], returnType := none }, accessFlags := 1, code := none }
/-- jdk/internal/util/Preconditions -/
def k14 : Class := { plain "jdk/internal/util/Preconditions" (some 0) with
  accessFlags := 33
  interfaces := #[]
  cf := some (fileOf pool14 24 #[.nestMembers #[55, 131, 125, 114]] #[{ accessFlags := 1, nameIndex := 5, descriptorIndex := 6, attributes := #[] }] 33 2 #[] #[{ accessFlags := 25, nameIndex := 123, descriptorIndex := 124, attributes := #[] }, { accessFlags := 25, nameIndex := 130, descriptorIndex := 124, attributes := #[] }, { accessFlags := 25, nameIndex := 136, descriptorIndex := 124, attributes := #[] }])
  fields := #[{ name := "SIOOBE_FORMATTER", type := (.object "java/util/function/BiFunction"), accessFlags := 25, slot := 0, constantValue := 0 }, { name := "AIOOBE_FORMATTER", type := (.object "java/util/function/BiFunction"), accessFlags := 25, slot := 1, constantValue := 0 }, { name := "IOOBE_FORMATTER", type := (.object "java/util/function/BiFunction"), accessFlags := 25, slot := 2, constantValue := 0 }]
  methods := #[k14m0]
  instanceTypes := #[]
  staticTypes := #[(.object "java/util/function/BiFunction"), (.object "java/util/function/BiFunction"), (.object "java/util/function/BiFunction")]
  resolved := Array.replicate 194 none
  statics := some 2 }

def pool15 : Array CpInfo := pool [(9, u "<init>"), (6, .class_ 18), (1, u "java/lang/Object"), (0, u "()V"), (1, .class_ 23), (1, u "jdk/internal/util/ArraysSupport"), (0, u "LOG2_ARRAY_LONG_INDEX_SCALE"), (0, u "I"), (2, u "U"), (0, u "Ljdk/internal/misc/Unsafe;"), (8, u "BIG_ENDIAN"), (0, u "Z"), (8, u "LOG2_BYTE_BIT_SIZE"), (4, u "LOG2_ARRAY_INT_INDEX_SCALE"), (54, u "JLA"), (0, u "Ljdk/internal/access/JavaLangAccess;"), (11, u "LOG2_ARRAY_BOOLEAN_INDEX_SCALE"), (9, u "LOG2_ARRAY_BYTE_INDEX_SCALE"), (5, u "LOG2_ARRAY_CHAR_INDEX_SCALE"), (5, u "LOG2_ARRAY_SHORT_INDEX_SCALE"), (18, u "LOG2_ARRAY_FLOAT_INDEX_SCALE"), (24, u "LOG2_ARRAY_DOUBLE_INDEX_SCALE"), (89, u "T_BOOLEAN"), (2, u "T_CHAR"), (1, u "T_FLOAT"), (1, u "T_DOUBLE"), (1, u "T_BYTE"), (1, u "T_SHORT"), (1, u "T_INT"), (1, u "T_LONG"), (1, u "SOFT_MAX_ARRAY_LENGTH")] 83

def k15m0 : Method := { name := "<init>", desc := "()V", sig := { parameters := [], returnType := none }, accessFlags := 2, code := none }
/-- jdk/internal/util/ArraysSupport -/
def k15 : Class := { plain "jdk/internal/util/ArraysSupport" (some 0) with
  accessFlags := 33
  interfaces := #[]
  cf := some (fileOf pool15 21 #[] #[{ accessFlags := 2, nameIndex := 9, descriptorIndex := 19, attributes := #[] }] 33 16 #[] #[{ accessFlags := 24, nameIndex := 28, descriptorIndex := 29, attributes := #[] }, { accessFlags := 26, nameIndex := 38, descriptorIndex := 39, attributes := #[] }, { accessFlags := 25, nameIndex := 121, descriptorIndex := 25, attributes := #[] }, { accessFlags := 25, nameIndex := 131, descriptorIndex := 25, attributes := #[] }, { accessFlags := 25, nameIndex := 137, descriptorIndex := 25, attributes := #[] }, { accessFlags := 25, nameIndex := 143, descriptorIndex := 25, attributes := #[] }, { accessFlags := 25, nameIndex := 53, descriptorIndex := 25, attributes := #[] }, { accessFlags := 25, nameIndex := 24, descriptorIndex := 25, attributes := #[] }, { accessFlags := 25, nameIndex := 162, descriptorIndex := 25, attributes := #[] }, { accessFlags := 25, nameIndex := 187, descriptorIndex := 25, attributes := #[] }, { accessFlags := 26, nameIndex := 48, descriptorIndex := 25, attributes := #[] }, { accessFlags := 25, nameIndex := 277, descriptorIndex := 25, attributes := #[] }, { accessFlags := 25, nameIndex := 280, descriptorIndex := 25, attributes := #[] }, { accessFlags := 25, nameIndex := 282, descriptorIndex := 25, attributes := #[] }, { accessFlags := 25, nameIndex := 284, descriptorIndex := 25, attributes := #[] }, { accessFlags := 25, nameIndex := 286, descriptorIndex := 25, attributes := #[] }, { accessFlags := 25, nameIndex := 288, descriptorIndex := 25, attributes := #[] }, { accessFlags := 25, nameIndex := 290, descriptorIndex := 25, attributes := #[] }, { accessFlags := 25, nameIndex := 292, descriptorIndex := 25, attributes := #[] }, { accessFlags := 26, nameIndex := 108, descriptorIndex := 109, attributes := #[] }, { accessFlags := 25, nameIndex := 294, descriptorIndex := 25, attributes := #[] }])
  fields := #[{ name := "U", type := (.object "jdk/internal/misc/Unsafe"), accessFlags := 24, slot := 0, constantValue := 0 }, { name := "BIG_ENDIAN", type := .boolean, accessFlags := 26, slot := 1, constantValue := 0 }, { name := "LOG2_ARRAY_BOOLEAN_INDEX_SCALE", type := .int, accessFlags := 25, slot := 2, constantValue := 0 }, { name := "LOG2_ARRAY_BYTE_INDEX_SCALE", type := .int, accessFlags := 25, slot := 3, constantValue := 0 }, { name := "LOG2_ARRAY_CHAR_INDEX_SCALE", type := .int, accessFlags := 25, slot := 4, constantValue := 0 }, { name := "LOG2_ARRAY_SHORT_INDEX_SCALE", type := .int, accessFlags := 25, slot := 5, constantValue := 0 }, { name := "LOG2_ARRAY_INT_INDEX_SCALE", type := .int, accessFlags := 25, slot := 6, constantValue := 0 }, { name := "LOG2_ARRAY_LONG_INDEX_SCALE", type := .int, accessFlags := 25, slot := 7, constantValue := 0 }, { name := "LOG2_ARRAY_FLOAT_INDEX_SCALE", type := .int, accessFlags := 25, slot := 8, constantValue := 0 }, { name := "LOG2_ARRAY_DOUBLE_INDEX_SCALE", type := .int, accessFlags := 25, slot := 9, constantValue := 0 }, { name := "LOG2_BYTE_BIT_SIZE", type := .int, accessFlags := 26, slot := 10, constantValue := 0 }, { name := "T_BOOLEAN", type := .int, accessFlags := 25, slot := 11, constantValue := 0 }, { name := "T_CHAR", type := .int, accessFlags := 25, slot := 12, constantValue := 0 }, { name := "T_FLOAT", type := .int, accessFlags := 25, slot := 13, constantValue := 0 }, { name := "T_DOUBLE", type := .int, accessFlags := 25, slot := 14, constantValue := 0 }, { name := "T_BYTE", type := .int, accessFlags := 25, slot := 15, constantValue := 0 }, { name := "T_SHORT", type := .int, accessFlags := 25, slot := 16, constantValue := 0 }, { name := "T_INT", type := .int, accessFlags := 25, slot := 17, constantValue := 0 }, { name := "T_LONG", type := .int, accessFlags := 25, slot := 18, constantValue := 0 }, { name := "JLA", type := (.object "jdk/internal/access/JavaLangAccess"), accessFlags := 26, slot := 19, constantValue := 0 }, { name := "SOFT_MAX_ARRAY_LENGTH", type := .int, accessFlags := 25, slot := 20, constantValue := 0 }]
  methods := #[k15m0]
  instanceTypes := #[]
  staticTypes := #[(.object "jdk/internal/misc/Unsafe"), .boolean, .int, .int, .int, .int, .int, .int, .int, .int, .int, .int, .int, .int, .int, .int, .int, .int, .int, (.object "jdk/internal/access/JavaLangAccess"), .int]
  resolved := Array.replicate 378 none
  statics := none }

def pool16 : Array CpInfo := pool [(1, u "java/lang/Cloneable"), (0, .class_ 1), (0, u "java/lang/Object"), (0, .class_ 3)] 3

/-- java/lang/Cloneable -/
def k16 : Class := { plain "java/lang/Cloneable" (some 0) with
  accessFlags := 1537
  interfaces := #[]
  cf := some (fileOf pool16 2 #[] #[] 1537 4 #[] #[])
  fields := #[]
  methods := #[]
  instanceTypes := #[]
  staticTypes := #[]
  resolved := Array.replicate 8 none
  statics := none }

/-- the primitive byte -/
def k17 : Class := { plain "byte" none with kind := .primitive 'B', accessFlags := 0x411 }
/-- [B -/
def k18 : Class := { plain "[B" (some 0) with kind := .array 17 .byte, interfaces := #[16, 2], accessFlags := 1041 }

/-- the primitive char -/
def k19 : Class := { plain "char" none with kind := .primitive 'C', accessFlags := 0x411 }
/-- [C -/
def k20 : Class := { plain "[C" (some 0) with kind := .array 19 .char, interfaces := #[16, 2], accessFlags := 1041 }

/-- the primitive int -/
def k21 : Class := { plain "int" none with kind := .primitive 'I', accessFlags := 0x411 }
/-- [I -/
def k22 : Class := { plain "[I" (some 0) with kind := .array 21 .int, interfaces := #[16, 2], accessFlags := 1041 }

def heap : Heap := #[{ cls := 7, slots := #[.long 0, .int 1, .null, .int 0, .null, .int 0, .int 0], vm := .statics 7 },
  { cls := 10, slots := #[.ref 3, .ref 4, .ref 5, .null], vm := .statics 10 },
  { cls := 14, slots := #[.null, .null, .null], vm := .statics 14 },
  { cls := 10, slots := #[.null, .int 0, .int 0], vm := .none },
  { cls := 10, slots := #[.null, .int 1, .int 0], vm := .none },
  { cls := 10, slots := #[.null, .int 2, .int 0], vm := .none }]
def classes : Array Class := #[k0, k1, k2, k3, k4, k5, k6, k7, k8, k9, k10, k11, k12, k13, k14, k15, k16, k17, k18, k19, k20, k21, k22]
def interned : List (Array UInt16 × Addr) := []
def slotsUsed : Nat := 23
def theMethod : MethodId := ⟨1, 3⟩
def args0 : Array Value := #[.int 5, .int 3, .int 7, .int 1]
def aboutOver (below : List Frame) : State where
  vm := { classes := classes, interned := interned.toArray }
  heap := heap
  slotsUsed := slotsUsed
  threads := #[{ frames := .invoking theMethod args0 :: below }]
def below0 : List Frame := [.native { method := ⟨0, 0⟩, args := #[] }]
def about1 : State := aboutOver below0
def p0 : Program := .bare "" "" ""
def e0 : Env := launch0.env 0 0 0
theorem w_frames : about1.frames = Frame.invoking theMethod args0 :: below0 := rfl
set_option maxRecDepth 65536 in
theorem w_args : argsFit about1.vm theMethod args0 = true := by decide +kernel
set_option maxRecDepth 65536 in
theorem w_heap : heapFits about1 = true := by decide +kernel
set_option maxRecDepth 65536 in
theorem w_runnable : about1.curStatus? = some .runnable := by decide +kernel
set_option maxRecDepth 65536 in
theorem w_alone : about1.alone = true := by decide +kernel
set_option maxRecDepth 65536 in
theorem w_named : about1.methodNamed? x = some theMethod := by decide +kernel
set_option maxRecDepth 65536 in
theorem w_hears : about1.hears theMethod below0 = true := by decide +kernel
set_option maxRecDepth 65536 in
theorem w_ripe : about1.ripe theMethod args0 below0 = true := by decide +kernel
theorem w_running : about1.status = .running := rfl
set_option maxRecDepth 65536 in
theorem w_room : about1.hasRoom e0.platform room_1 = true :=
  launch0.hasRoom_least _ room_1 (by decide +kernel) (by decide +kernel) (by decide +kernel) (by decide +kernel) (by decide +kernel) (by decide +kernel)
theorem allAtoms_all (ts : List Jvm.Cond) (a : Array Jvm.Value) (st : Jvm.State) : (allAtoms ts).before a st = ts.all (fun c => c.before a st) := by
  induction ts with
  | nil => rfl
  | cons c t ih =>
    show (Jvm.Cond.and c (allAtoms t)).before a st = _
    rw [Jvm.Cond.before_and, ih, List.all_cons]
def words1 : List Jvm.Cond := Jvm.Cond.code x code maxLocals ret :: tables_1
/-- a 'code' word, met by the world's own term for the bytes: nothing is compared byte by byte -/
theorem code_word {y : MethodName} {bytes : ByteArray} {mx : Nat} {rt : Option FieldType} {a : Array Value} {s : State} {m : MethodId} {meth : Method} {c : Code} (h1 : s.methodNamed? y = some m) (h2 : s.vm.method? m = some meth) (h3 : meth.code = some c) (h4 : c.code = bytes)
    (h5 : (c.maxLocals == mx && c.exceptionTable.isEmpty && decide (c.maxStack ≤ mostOperands) && decide (meth.sig.returnType = rt) && !meth.locks && decide (parseMethodDescriptor y.desc = some meth.sig)) = true) : (Jvm.Cond.code y bytes mx rt).before a s = true := by
  simp only [Bool.and_eq_true, beq_iff_eq, Bool.not_eq_true', decide_eq_true_eq] at h5
  obtain ⟨⟨⟨⟨⟨g1, g2⟩, g3⟩, g4⟩, g5⟩, g6⟩ := h5
  simp [Cond.before, Cond.holds, Cond.value, h1, h2, h3, h4, g1, g2, g3, g4, g5, g6]
def isCode : Jvm.Cond → Bool
  | .code _ _ _ _ => true
  | _ => false
theorem all_split {L : List Jvm.Cond} {P : Jvm.Cond → Bool} (h1 : L.all (fun c => isCode c || P c) = true) (h2 : ∀ c ∈ L.filter isCode, P c = true) : L.all P = true := by
  refine List.all_eq_true.mpr fun c hc => ?_
  have h := List.all_eq_true.mp h1 c hc
  rcases Bool.eq_false_or_eq_true (isCode c) with hi | hi
  · exact h2 c (List.mem_filter.mpr ⟨hc, hi⟩)
  · simpa [hi] using h
set_option maxRecDepth 65536 in
theorem w_c0 : (Jvm.Cond.code x code maxLocals ret).before args0 about1 = true := code_word (m := ⟨1, 3⟩) (meth := k1m3) (c := k1c3) (by decide +kernel) rfl rfl rfl (by decide +kernel)
set_option maxRecDepth 65536 in
theorem w_c1 : (Jvm.Cond.code ({ cls := "com/example/holdfast/holdfast/cli/OptionTakesValuePinLaw", name := "draw", desc := "(II)Ljava/lang/String;" } : Jvm.MethodName) method_2_code (6 : Nat) (Option.some (Jvm.ClassFile.FieldType.object "java/lang/String"))).before args0 about1 = true := code_word (m := ⟨1, 1⟩) (meth := k1m1) (c := k1c1) (by decide +kernel) rfl rfl rfl (by decide +kernel)
set_option maxRecDepth 65536 in
theorem w_c2 : (Jvm.Cond.code ({ cls := "java/lang/String", name := "<init>", desc := "([C)V" } : Jvm.MethodName) jdk_42_method_3_code (2 : Nat) (Option.none : Option Jvm.ClassFile.FieldType)).before args0 about1 = true := code_word (m := ⟨7, 1⟩) (meth := k7m1) (c := k7c1) (by decide +kernel) rfl rfl rfl (by decide +kernel)
set_option maxRecDepth 65536 in
theorem w_c3 : (Jvm.Cond.code ({ cls := "java/lang/String", name := "<init>", desc := "([CIILjava/lang/Void;)V" } : Jvm.MethodName) jdk_42_method_149_code (6 : Nat) (Option.none : Option Jvm.ClassFile.FieldType)).before args0 about1 = true := code_word (m := ⟨7, 2⟩) (meth := k7m2) (c := k7c2) (by decide +kernel) rfl rfl rfl (by decide +kernel)
set_option maxRecDepth 65536 in
theorem w_c4 : (Jvm.Cond.code ({ cls := "java/lang/Object", name := "<init>", desc := "()V" } : Jvm.MethodName) object_method_1_code (1 : Nat) (Option.none : Option Jvm.ClassFile.FieldType)).before args0 about1 = true := code_word (m := ⟨0, 0⟩) (meth := k0m0) (c := k0c0) (by decide +kernel) rfl rfl rfl (by decide +kernel)
set_option maxRecDepth 65536 in
theorem w_c5 : (Jvm.Cond.code ({ cls := "java/lang/StringUTF16", name := "compress", desc := "([CII)[B" } : Jvm.MethodName) jdk_52_method_16_code (6 : Nat) (Option.some (Jvm.ClassFile.FieldType.array Jvm.ClassFile.FieldType.byte))).before args0 about1 = true := code_word (m := ⟨8, 2⟩) (meth := k8m2) (c := k8c2) (by decide +kernel) rfl rfl rfl (by decide +kernel)
set_option maxRecDepth 65536 in
theorem w_c6 : (Jvm.Cond.code ({ cls := "java/lang/StringUTF16", name := "compress", desc := "([CI[BII)I" } : Jvm.MethodName) jdk_52_method_21_code (7 : Nat) (Option.some Jvm.ClassFile.FieldType.int)).before args0 about1 = true := code_word (m := ⟨8, 3⟩) (meth := k8m3) (c := k8c3) (by decide +kernel) rfl rfl rfl (by decide +kernel)
set_option maxRecDepth 65536 in
theorem w_c7 : (Jvm.Cond.code ({ cls := "java/lang/StringUTF16", name := "coderFromArrayLen", desc := "([BI)B" } : Jvm.MethodName) jdk_52_method_15_code (2 : Nat) (Option.some Jvm.ClassFile.FieldType.byte)).before args0 about1 = true := code_word (m := ⟨8, 1⟩) (meth := k8m1) (c := k8c1) (by decide +kernel) rfl rfl rfl (by decide +kernel)
set_option maxRecDepth 65536 in
theorem w_c8 : (Jvm.Cond.code ({ cls := "com/example/holdfast/holdfast/cli/OptionTakesValuePinLaw", name := "occurrence", desc := "(I)Lcom/example/holdfast/holdfast/cli/Option$Occurrence;" } : Jvm.MethodName) method_3_code (2 : Nat) (Option.some (Jvm.ClassFile.FieldType.object "com/example/holdfast/holdfast/cli/Option$Occurrence"))).before args0 about1 = true := code_word (m := ⟨1, 2⟩) (meth := k1m2) (c := k1c2) (by decide +kernel) rfl rfl rfl (by decide +kernel)
set_option maxRecDepth 65536 in
theorem w_c9 : (Jvm.Cond.code ({ cls := "com/example/holdfast/holdfast/cli/Option", name := "<init>", desc := "(Ljava/lang/String;Ljava/lang/String;Lcom/example/holdfast/holdfast/cli/Option$Occurrence;)V" } : Jvm.MethodName) prog_50_method_1_code (4 : Nat) (Option.none : Option Jvm.ClassFile.FieldType)).before args0 about1 = true := code_word (m := ⟨12, 0⟩) (meth := k12m0) (c := k12c0) (by decide +kernel) rfl rfl rfl (by decide +kernel)
set_option maxRecDepth 65536 in
theorem w_c10 : (Jvm.Cond.code ({ cls := "java/lang/Record", name := "<init>", desc := "()V" } : Jvm.MethodName) jdk_30_method_1_code (1 : Nat) (Option.none : Option Jvm.ClassFile.FieldType)).before args0 about1 = true := code_word (m := ⟨11, 0⟩) (meth := k11m0) (c := k11c0) (by decide +kernel) rfl rfl rfl (by decide +kernel)
set_option maxRecDepth 65536 in
theorem w_c11 : (Jvm.Cond.code ({ cls := "com/example/holdfast/holdfast/cli/Option", name := "flag", desc := "(Ljava/lang/String;)Lcom/example/holdfast/holdfast/cli/Option;" } : Jvm.MethodName) prog_50_method_8_code (1 : Nat) (Option.some (Jvm.ClassFile.FieldType.object "com/example/holdfast/holdfast/cli/Option"))).before args0 about1 = true := code_word (m := ⟨12, 1⟩) (meth := k12m1) (c := k12c1) (by decide +kernel) rfl rfl rfl (by decide +kernel)
set_option maxRecDepth 65536 in
theorem w_c12 : (Jvm.Cond.code ({ cls := "com/example/holdfast/holdfast/cli/Option", name := "takesValue", desc := "()Z" } : Jvm.MethodName) prog_50_method_9_code (1 : Nat) (Option.some Jvm.ClassFile.FieldType.boolean)).before args0 about1 = true := code_word (m := ⟨12, 2⟩) (meth := k12m2) (c := k12c2) (by decide +kernel) rfl rfl rfl (by decide +kernel)
def codes1 : List Jvm.Cond := [Jvm.Cond.code x code maxLocals ret, Jvm.Cond.code ({ cls := "com/example/holdfast/holdfast/cli/OptionTakesValuePinLaw", name := "draw", desc := "(II)Ljava/lang/String;" } : Jvm.MethodName) method_2_code (6 : Nat) (Option.some (Jvm.ClassFile.FieldType.object "java/lang/String")), Jvm.Cond.code ({ cls := "java/lang/String", name := "<init>", desc := "([C)V" } : Jvm.MethodName) jdk_42_method_3_code (2 : Nat) (Option.none : Option Jvm.ClassFile.FieldType), Jvm.Cond.code ({ cls := "java/lang/String", name := "<init>", desc := "([CIILjava/lang/Void;)V" } : Jvm.MethodName) jdk_42_method_149_code (6 : Nat) (Option.none : Option Jvm.ClassFile.FieldType), Jvm.Cond.code ({ cls := "java/lang/Object", name := "<init>", desc := "()V" } : Jvm.MethodName) object_method_1_code (1 : Nat) (Option.none : Option Jvm.ClassFile.FieldType), Jvm.Cond.code ({ cls := "java/lang/StringUTF16", name := "compress", desc := "([CII)[B" } : Jvm.MethodName) jdk_52_method_16_code (6 : Nat) (Option.some (Jvm.ClassFile.FieldType.array Jvm.ClassFile.FieldType.byte)), Jvm.Cond.code ({ cls := "java/lang/StringUTF16", name := "compress", desc := "([CI[BII)I" } : Jvm.MethodName) jdk_52_method_21_code (7 : Nat) (Option.some Jvm.ClassFile.FieldType.int), Jvm.Cond.code ({ cls := "java/lang/StringUTF16", name := "coderFromArrayLen", desc := "([BI)B" } : Jvm.MethodName) jdk_52_method_15_code (2 : Nat) (Option.some Jvm.ClassFile.FieldType.byte), Jvm.Cond.code ({ cls := "com/example/holdfast/holdfast/cli/OptionTakesValuePinLaw", name := "occurrence", desc := "(I)Lcom/example/holdfast/holdfast/cli/Option$Occurrence;" } : Jvm.MethodName) method_3_code (2 : Nat) (Option.some (Jvm.ClassFile.FieldType.object "com/example/holdfast/holdfast/cli/Option$Occurrence")), Jvm.Cond.code ({ cls := "com/example/holdfast/holdfast/cli/Option", name := "<init>", desc := "(Ljava/lang/String;Ljava/lang/String;Lcom/example/holdfast/holdfast/cli/Option$Occurrence;)V" } : Jvm.MethodName) prog_50_method_1_code (4 : Nat) (Option.none : Option Jvm.ClassFile.FieldType), Jvm.Cond.code ({ cls := "java/lang/Record", name := "<init>", desc := "()V" } : Jvm.MethodName) jdk_30_method_1_code (1 : Nat) (Option.none : Option Jvm.ClassFile.FieldType), Jvm.Cond.code ({ cls := "com/example/holdfast/holdfast/cli/Option", name := "flag", desc := "(Ljava/lang/String;)Lcom/example/holdfast/holdfast/cli/Option;" } : Jvm.MethodName) prog_50_method_8_code (1 : Nat) (Option.some (Jvm.ClassFile.FieldType.object "com/example/holdfast/holdfast/cli/Option")), Jvm.Cond.code ({ cls := "com/example/holdfast/holdfast/cli/Option", name := "takesValue", desc := "()Z" } : Jvm.MethodName) prog_50_method_9_code (1 : Nat) (Option.some Jvm.ClassFile.FieldType.boolean)]
set_option maxRecDepth 65536 in
theorem codes_eq : words1.filter isCode = codes1 := rfl
theorem w_codes : ∀ c ∈ words1.filter isCode, c.before args0 about1 = true := by
  rw [codes_eq]
  intro c hc
  simp only [codes1, List.mem_cons, List.not_mem_nil, or_false] at hc
  rcases hc with rfl | rfl | rfl | rfl | rfl | rfl | rfl | rfl | rfl | rfl | rfl | rfl | rfl
  · exact w_c0
  · exact w_c1
  · exact w_c2
  · exact w_c3
  · exact w_c4
  · exact w_c5
  · exact w_c6
  · exact w_c7
  · exact w_c8
  · exact w_c9
  · exact w_c10
  · exact w_c11
  · exact w_c12
set_option maxRecDepth 65536 in
theorem w_t1 : (words1.take 24).all (fun c => isCode c || c.before args0 about1) = true := by decide +kernel
set_option maxRecDepth 65536 in
theorem w_t2 : ((words1.drop 24).take 24).all (fun c => isCode c || c.before args0 about1) = true := by decide +kernel
set_option maxRecDepth 65536 in
theorem w_t3 : (((words1.drop 24).drop 24).take 24).all (fun c => isCode c || c.before args0 about1) = true := by decide +kernel
set_option maxRecDepth 65536 in
theorem w_t4 : (((words1.drop 24).drop 24).drop 24).all (fun c => isCode c || c.before args0 about1) = true := by decide +kernel
theorem w_tables : (allAtoms (Jvm.Cond.code x code maxLocals ret :: tables_1)).before args0 about1 = true := by
  rw [allAtoms_all]
  show words1.all (fun c => c.before args0 about1) = true
  refine all_split ?_ w_codes
  rw [← List.take_append_drop 24 words1, List.all_append, w_t1, ← List.take_append_drop 24 (words1.drop 24), List.all_append, w_t2, ← List.take_append_drop 24 ((words1.drop 24).drop 24), List.all_append, w_t3, w_t4]
  rfl
set_option maxRecDepth 65536 in
theorem w_rest : rest_1_c.before args0 about1 = true := by decide +kernel
set_option maxRecDepth 65536 in
theorem w_case : (Jvm.Cond.and given_1 narrow_1).before args0 about1 = true := by decide +kernel
set_option maxRecDepth 65536 in
theorem w_consts : constsHeld consts_1 about1 := Jvm.Lit.constsHeldB_iff.mp (by decide +kernel)
theorem w_applies : (headSpec (Jvm.Cond.code x code maxLocals ret :: tables_1) room_1).applies x e0.platform about1 = true :=
  (Spec.applies_iff w_frames).mpr ⟨w_running, w_runnable, w_alone, w_named, w_hears, w_ripe, w_room, w_tables⟩
theorem atStart : AtStart classFile x code maxLocals ret World_1 tables_1 room_1 Calls_1 rest_1 Pre_1 launch0 p0 e0 about1 theMethod args0 below0 :=
  ⟨lists_1, trivial, launch0.admits_env _ _ _, launch0.least_env, fairChoices_fair.cas, fairChoices_fair.clock, w_frames, w_args, w_heap, w_applies, ⟨w_consts, trivial⟩, w_rest, w_case⟩
end start1
theorem witness_1 : WitnessClaimed_1 := ⟨start1.p0, start1.e0, start1.about1, start1.theMethod, start1.args0, start1.below0, start1.atStart⟩
end Jvm.Pilot.@@N@@
