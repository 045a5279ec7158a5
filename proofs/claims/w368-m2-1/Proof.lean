import JvmDerived
import JvmDerived.Pilot.@@N@@Statement
import JvmDerived.Pilot.@@N@@Code
set_option linter.unusedVariables false
set_option linter.unusedSimpArgs false
namespace Jvm.OwnKit
open Jvm Sem ClassFile Op Lib Jvm.Stand Jvm.Free Jvm.LawKit Jvm.RoadKit
/-- what a body's walk knows of its frame throughout -/
def Cx (p : Program) (s : State) (m : MethodId) (meth : Method) (c : Code) (Z : State) (y : MethodName) (bytes : ByteArray) (ml : Nat) (ret : Option FieldType) : Prop :=
  p.tables.exec = Jvm.exec ∧ Z.Warmed39 s.vm ∧ s.vm.findClass y.cls = some m.cls ∧ c.code = bytes ∧ c.maxLocals = ml ∧ meth.sig.returnType = ret ∧ meth.locks = false ∧ meth.name = y.name
/-- from the heap h, k cells and n slots made so far, the frame at pc with these locals and this stack comes to its end, and Q holds of the result and the last heap -/
def W (p : Program) (l : Launch) (e : Env) (R : Room) (s : State) (m : MethodId) (args : Array Value) (below : List Frame) (meth : Method) (c : Code) (n0 : Nat) (Q : Option Value → Heap → Prop) (kc ks : Nat)
    (k n : Nat) (h : Heap) (pc : Nat) (ls : Array Slot) (st : List Value) : Prop :=
  ∀ (T : State) (locs : List Loc), Stand p l e R s m args below meth c T locs k n → T.heap = h → Fr n0 locs →
    ∃ s₂ o, Steps p.tables e below (T.setTop (mkF m pc ls st)) s₂ ∧ s₂.status = .running ∧ Ended s₂ below o ∧ ∃ v L, o = .returned v ∧ (Q v s₂.heap ∧ Fr n0 L) ∧ FrameEnd s o s₂ L kc ks
/-- a body's contract -/
def Con (l : Launch) (Z : State) (y : MethodName) (bytes : ByteArray) (ml : Nat) (ret : Option FieldType) (rm : Room) (as' : Array Value) (h0 : Heap) (n0 : Nat) (Q : Option Value → Heap → Prop) : Prop :=
  ∀ ws : List Jvm.Cond, MetFree l y (head1 (Jvm.Cond.code y bytes ml ret :: ws) rm) (fun a U => a = as' ∧ Z.Warmed39 U.vm ∧ U.heap = h0) (fun _ _ _ _ _ => True) (fun _ U o U' => ∃ v L, o = .returned v ∧ (Q v U'.heap ∧ Fr n0 L) ∧ FrameEnd U o U' L rm.cells rm.slots)
/-- it returns v and leaves the heap -/
def Pu (v : Option Value) (h : Heap) : Option Value → Heap → Prop := fun v' h' => v' = v ∧ h = h'
section
variable {p : Program} {l : Launch} {e : Env} {R : Room} {s : State} {m : MethodId} {args : Array Value} {below : List Frame} {meth : Method} {c : Code} {Z : State} {y : MethodName} {bytes : ByteArray} {ml : Nat} {ret : Option FieldType} {n0 : Nat} {Q : Option Value → Heap → Prop} {kc ks k n : Nat} {h : Heap} {pc : Nat} {ls : Array Slot} {st : List Value} {a0 : Array Value}
theorem Cx.a (C : Cx p s m meth c Z y bytes ml ret) {pc : Nat} {r : Except ClassFile.DecodeError (ClassFile.Instr × Nat)} (h2 : ClassFile.decode bytes pc = r) : ClassFile.decode c.code pc = r := C.2.2.2.1 ▸ h2
theorem Con.of {rm : Room} {as' : Array Value} {h0 : Heap} (hpn : plainFor y = true) {ls : Array Slot} (hent : ∀ m, entryFrame m as' ml = mkF m 0 ls [])
    (hW : ∀ p e s m below meth c, Cx p s m meth c Z y bytes ml ret → W p l e rm s m as' below meth c n0 Q rm.cells rm.slots 0 0 h0 0 ls []) : Con l Z y bytes ml ret rm as' h0 n0 Q := by
  intro ws
  refine MetFree.of_bodySF hpn hisR ?_
  intro p e s m args below meth c s₁ Bd hml0 hP hK
  obtain ⟨rfl, hZ, hh⟩ := hP
  have X0 : Stand p l e rm s m _ below meth c s₁ [] 0 0 := Stand.of_body Bd
  have e0 : s₁.heap = h0 := by rw [← hh, Bd.state]; rfl
  obtain ⟨s₂, o, h1, h2⟩ := hW p e s m below meth c ⟨Bd.exec, hZ, findClass_of_methodNamed Bd.named, Bd.bytes, hml0, Bd.returns, Bd.notSynchronized, (name_of_methodNamed Bd.named Bd.method).1⟩ s₁ [] X0 e0 (Fr.nil n0)
  exact ⟨s₂, o, castTop (hent m) h1, h2⟩
theorem W.lift {pc' : Nat} {ls' : Array Slot} {st' : List Value} (f : ∀ T target, At T m c below → Steps p.tables e below (T.setTop (mkF m pc' ls' st')) target → Steps p.tables e below (T.setTop (mkF m pc ls st)) target) (K : W p l e R s m args below meth c n0 Q kc ks k n h pc' ls' st') : W p l e R s m args below meth c n0 Q kc ks k n h pc ls st := fun T locs X eT N => by
  obtain ⟨s₂, o, h1, h2⟩ := K T locs X eT N
  exact ⟨s₂, o, f T _ X.here h1, h2⟩
theorem W.heap {h' : Heap} (q : h = h') (K : W p l e R s m args below meth c n0 Q kc ks k n h' pc ls st) : W p l e R s m args below meth c n0 Q kc ks k n h pc ls st := q ▸ K
theorem W.room {k' n' : Nat} (hk : k ≤ k') (hn : n ≤ n') (K : W p l e R s m args below meth c n0 Q kc ks k' n' h pc ls st) : W p l e R s m args below meth c n0 Q kc ks k n h pc ls st := fun T locs X eT N => K T locs ⟨X.admits, X.cas, X.clock, X.frames, X.room, X.hears, X.method, X.code, X.here, X.tail, X.warmed, X.limits, X.bytes, X.same.mono hk hn⟩ eT N
theorem W.iaddV (C : Cx p s m meth c Z y bytes ml ret) {u v : Int32} (z : Int32) (d : decode bytes pc = .ok (.iadd, 1)) (hz : (u + v) = z) (K : W p l e R s m args below meth c n0 Q kc ks k n h (pc + 1) ls (.int z :: st)) : W p l e R s m args below meth c n0 Q kc ks k n h pc ls (.int v :: .int u :: st) :=
  W.lift (fun T t H S => XS.iadd H C.1 rfl (C.a d) rfl (by subst hz; exact S)) K
theorem W.iadd (C : Cx p s m meth c Z y bytes ml ret) {u v : Int32} (d : decode bytes pc = .ok (.iadd, 1)) (K : W p l e R s m args below meth c n0 Q kc ks k n h (pc + 1) ls (.int (u + v) :: st)) : W p l e R s m args below meth c n0 Q kc ks k n h pc ls (.int v :: .int u :: st) :=
  W.lift (fun T t H S => XS.iadd H C.1 rfl (C.a d) rfl S) K
theorem W.isubV (C : Cx p s m meth c Z y bytes ml ret) {u v : Int32} (z : Int32) (d : decode bytes pc = .ok (.isub, 1)) (hz : (u - v) = z) (K : W p l e R s m args below meth c n0 Q kc ks k n h (pc + 1) ls (.int z :: st)) : W p l e R s m args below meth c n0 Q kc ks k n h pc ls (.int v :: .int u :: st) :=
  W.lift (fun T t H S => XS.isub H C.1 rfl (C.a d) rfl (by subst hz; exact S)) K
theorem W.isub (C : Cx p s m meth c Z y bytes ml ret) {u v : Int32} (d : decode bytes pc = .ok (.isub, 1)) (K : W p l e R s m args below meth c n0 Q kc ks k n h (pc + 1) ls (.int (u - v) :: st)) : W p l e R s m args below meth c n0 Q kc ks k n h pc ls (.int v :: .int u :: st) :=
  W.lift (fun T t H S => XS.isub H C.1 rfl (C.a d) rfl S) K
theorem W.imulV (C : Cx p s m meth c Z y bytes ml ret) {u v : Int32} (z : Int32) (d : decode bytes pc = .ok (.imul, 1)) (hz : (u * v) = z) (K : W p l e R s m args below meth c n0 Q kc ks k n h (pc + 1) ls (.int z :: st)) : W p l e R s m args below meth c n0 Q kc ks k n h pc ls (.int v :: .int u :: st) :=
  W.lift (fun T t H S => XS.imul H C.1 rfl (C.a d) rfl (by subst hz; exact S)) K
theorem W.imul (C : Cx p s m meth c Z y bytes ml ret) {u v : Int32} (d : decode bytes pc = .ok (.imul, 1)) (K : W p l e R s m args below meth c n0 Q kc ks k n h (pc + 1) ls (.int (u * v) :: st)) : W p l e R s m args below meth c n0 Q kc ks k n h pc ls (.int v :: .int u :: st) :=
  W.lift (fun T t H S => XS.imul H C.1 rfl (C.a d) rfl S) K
theorem W.iandV (C : Cx p s m meth c Z y bytes ml ret) {u v : Int32} (z : Int32) (d : decode bytes pc = .ok (.iand, 1)) (hz : (u &&& v) = z) (K : W p l e R s m args below meth c n0 Q kc ks k n h (pc + 1) ls (.int z :: st)) : W p l e R s m args below meth c n0 Q kc ks k n h pc ls (.int v :: .int u :: st) :=
  W.lift (fun T t H S => XS.iand H C.1 rfl (C.a d) rfl (by subst hz; exact S)) K
theorem W.iand (C : Cx p s m meth c Z y bytes ml ret) {u v : Int32} (d : decode bytes pc = .ok (.iand, 1)) (K : W p l e R s m args below meth c n0 Q kc ks k n h (pc + 1) ls (.int (u &&& v) :: st)) : W p l e R s m args below meth c n0 Q kc ks k n h pc ls (.int v :: .int u :: st) :=
  W.lift (fun T t H S => XS.iand H C.1 rfl (C.a d) rfl S) K
theorem W.iorV (C : Cx p s m meth c Z y bytes ml ret) {u v : Int32} (z : Int32) (d : decode bytes pc = .ok (.ior, 1)) (hz : (u ||| v) = z) (K : W p l e R s m args below meth c n0 Q kc ks k n h (pc + 1) ls (.int z :: st)) : W p l e R s m args below meth c n0 Q kc ks k n h pc ls (.int v :: .int u :: st) :=
  W.lift (fun T t H S => XS.ior H C.1 rfl (C.a d) rfl (by subst hz; exact S)) K
theorem W.ior (C : Cx p s m meth c Z y bytes ml ret) {u v : Int32} (d : decode bytes pc = .ok (.ior, 1)) (K : W p l e R s m args below meth c n0 Q kc ks k n h (pc + 1) ls (.int (u ||| v) :: st)) : W p l e R s m args below meth c n0 Q kc ks k n h pc ls (.int v :: .int u :: st) :=
  W.lift (fun T t H S => XS.ior H C.1 rfl (C.a d) rfl S) K
theorem W.ixorV (C : Cx p s m meth c Z y bytes ml ret) {u v : Int32} (z : Int32) (d : decode bytes pc = .ok (.ixor, 1)) (hz : (u ^^^ v) = z) (K : W p l e R s m args below meth c n0 Q kc ks k n h (pc + 1) ls (.int z :: st)) : W p l e R s m args below meth c n0 Q kc ks k n h pc ls (.int v :: .int u :: st) :=
  W.lift (fun T t H S => XS.ixor H C.1 rfl (C.a d) rfl (by subst hz; exact S)) K
theorem W.ixor (C : Cx p s m meth c Z y bytes ml ret) {u v : Int32} (d : decode bytes pc = .ok (.ixor, 1)) (K : W p l e R s m args below meth c n0 Q kc ks k n h (pc + 1) ls (.int (u ^^^ v) :: st)) : W p l e R s m args below meth c n0 Q kc ks k n h pc ls (.int v :: .int u :: st) :=
  W.lift (fun T t H S => XS.ixor H C.1 rfl (C.a d) rfl S) K
theorem W.ishlV (C : Cx p s m meth c Z y bytes ml ret) {u v : Int32} (z : Int32) (d : decode bytes pc = .ok (.ishl, 1)) (hz : (u <<< (v &&& 31)) = z) (K : W p l e R s m args below meth c n0 Q kc ks k n h (pc + 1) ls (.int z :: st)) : W p l e R s m args below meth c n0 Q kc ks k n h pc ls (.int v :: .int u :: st) :=
  W.lift (fun T t H S => XS.ishl H C.1 rfl (C.a d) rfl (by subst hz; exact S)) K
theorem W.ishl (C : Cx p s m meth c Z y bytes ml ret) {u v : Int32} (d : decode bytes pc = .ok (.ishl, 1)) (K : W p l e R s m args below meth c n0 Q kc ks k n h (pc + 1) ls (.int (u <<< (v &&& 31)) :: st)) : W p l e R s m args below meth c n0 Q kc ks k n h pc ls (.int v :: .int u :: st) :=
  W.lift (fun T t H S => XS.ishl H C.1 rfl (C.a d) rfl S) K
theorem W.ishrV (C : Cx p s m meth c Z y bytes ml ret) {u v : Int32} (z : Int32) (d : decode bytes pc = .ok (.ishr, 1)) (hz : (u >>> (v &&& 31)) = z) (K : W p l e R s m args below meth c n0 Q kc ks k n h (pc + 1) ls (.int z :: st)) : W p l e R s m args below meth c n0 Q kc ks k n h pc ls (.int v :: .int u :: st) :=
  W.lift (fun T t H S => XS.ishr H C.1 rfl (C.a d) rfl (by subst hz; exact S)) K
theorem W.ishr (C : Cx p s m meth c Z y bytes ml ret) {u v : Int32} (d : decode bytes pc = .ok (.ishr, 1)) (K : W p l e R s m args below meth c n0 Q kc ks k n h (pc + 1) ls (.int (u >>> (v &&& 31)) :: st)) : W p l e R s m args below meth c n0 Q kc ks k n h pc ls (.int v :: .int u :: st) :=
  W.lift (fun T t H S => XS.ishr H C.1 rfl (C.a d) rfl S) K
theorem W.iushrV (C : Cx p s m meth c Z y bytes ml ret) {u v : Int32} (z : Int32) (d : decode bytes pc = .ok (.iushr, 1)) (hz : ((u.toUInt32 >>> (v &&& 31).toUInt32).toInt32) = z) (K : W p l e R s m args below meth c n0 Q kc ks k n h (pc + 1) ls (.int z :: st)) : W p l e R s m args below meth c n0 Q kc ks k n h pc ls (.int v :: .int u :: st) :=
  W.lift (fun T t H S => XS.iushr H C.1 rfl (C.a d) rfl (by subst hz; exact S)) K
theorem W.iushr (C : Cx p s m meth c Z y bytes ml ret) {u v : Int32} (d : decode bytes pc = .ok (.iushr, 1)) (K : W p l e R s m args below meth c n0 Q kc ks k n h (pc + 1) ls (.int ((u.toUInt32 >>> (v &&& 31).toUInt32).toInt32) :: st)) : W p l e R s m args below meth c n0 Q kc ks k n h pc ls (.int v :: .int u :: st) :=
  W.lift (fun T t H S => XS.iushr H C.1 rfl (C.a d) rfl S) K
theorem W.laddV (C : Cx p s m meth c Z y bytes ml ret) {u v : Int64} (z : Int64) (d : decode bytes pc = .ok (.ladd, 1)) (hz : (u + v) = z) (K : W p l e R s m args below meth c n0 Q kc ks k n h (pc + 1) ls (.long z :: st)) : W p l e R s m args below meth c n0 Q kc ks k n h pc ls (.long v :: .long u :: st) :=
  W.lift (fun T t H S => XS.ladd H C.1 rfl (C.a d) rfl (by subst hz; exact S)) K
theorem W.ladd (C : Cx p s m meth c Z y bytes ml ret) {u v : Int64} (d : decode bytes pc = .ok (.ladd, 1)) (K : W p l e R s m args below meth c n0 Q kc ks k n h (pc + 1) ls (.long (u + v) :: st)) : W p l e R s m args below meth c n0 Q kc ks k n h pc ls (.long v :: .long u :: st) :=
  W.lift (fun T t H S => XS.ladd H C.1 rfl (C.a d) rfl S) K
theorem W.lsubV (C : Cx p s m meth c Z y bytes ml ret) {u v : Int64} (z : Int64) (d : decode bytes pc = .ok (.lsub, 1)) (hz : (u - v) = z) (K : W p l e R s m args below meth c n0 Q kc ks k n h (pc + 1) ls (.long z :: st)) : W p l e R s m args below meth c n0 Q kc ks k n h pc ls (.long v :: .long u :: st) :=
  W.lift (fun T t H S => XS.lsub H C.1 rfl (C.a d) rfl (by subst hz; exact S)) K
theorem W.lsub (C : Cx p s m meth c Z y bytes ml ret) {u v : Int64} (d : decode bytes pc = .ok (.lsub, 1)) (K : W p l e R s m args below meth c n0 Q kc ks k n h (pc + 1) ls (.long (u - v) :: st)) : W p l e R s m args below meth c n0 Q kc ks k n h pc ls (.long v :: .long u :: st) :=
  W.lift (fun T t H S => XS.lsub H C.1 rfl (C.a d) rfl S) K
theorem W.lmulV (C : Cx p s m meth c Z y bytes ml ret) {u v : Int64} (z : Int64) (d : decode bytes pc = .ok (.lmul, 1)) (hz : (u * v) = z) (K : W p l e R s m args below meth c n0 Q kc ks k n h (pc + 1) ls (.long z :: st)) : W p l e R s m args below meth c n0 Q kc ks k n h pc ls (.long v :: .long u :: st) :=
  W.lift (fun T t H S => XS.lmul H C.1 rfl (C.a d) rfl (by subst hz; exact S)) K
theorem W.lmul (C : Cx p s m meth c Z y bytes ml ret) {u v : Int64} (d : decode bytes pc = .ok (.lmul, 1)) (K : W p l e R s m args below meth c n0 Q kc ks k n h (pc + 1) ls (.long (u * v) :: st)) : W p l e R s m args below meth c n0 Q kc ks k n h pc ls (.long v :: .long u :: st) :=
  W.lift (fun T t H S => XS.lmul H C.1 rfl (C.a d) rfl S) K
theorem W.landV (C : Cx p s m meth c Z y bytes ml ret) {u v : Int64} (z : Int64) (d : decode bytes pc = .ok (.land, 1)) (hz : (u &&& v) = z) (K : W p l e R s m args below meth c n0 Q kc ks k n h (pc + 1) ls (.long z :: st)) : W p l e R s m args below meth c n0 Q kc ks k n h pc ls (.long v :: .long u :: st) :=
  W.lift (fun T t H S => XS.land H C.1 rfl (C.a d) rfl (by subst hz; exact S)) K
theorem W.land (C : Cx p s m meth c Z y bytes ml ret) {u v : Int64} (d : decode bytes pc = .ok (.land, 1)) (K : W p l e R s m args below meth c n0 Q kc ks k n h (pc + 1) ls (.long (u &&& v) :: st)) : W p l e R s m args below meth c n0 Q kc ks k n h pc ls (.long v :: .long u :: st) :=
  W.lift (fun T t H S => XS.land H C.1 rfl (C.a d) rfl S) K
theorem W.lorV (C : Cx p s m meth c Z y bytes ml ret) {u v : Int64} (z : Int64) (d : decode bytes pc = .ok (.lor, 1)) (hz : (u ||| v) = z) (K : W p l e R s m args below meth c n0 Q kc ks k n h (pc + 1) ls (.long z :: st)) : W p l e R s m args below meth c n0 Q kc ks k n h pc ls (.long v :: .long u :: st) :=
  W.lift (fun T t H S => XS.lor H C.1 rfl (C.a d) rfl (by subst hz; exact S)) K
theorem W.lor (C : Cx p s m meth c Z y bytes ml ret) {u v : Int64} (d : decode bytes pc = .ok (.lor, 1)) (K : W p l e R s m args below meth c n0 Q kc ks k n h (pc + 1) ls (.long (u ||| v) :: st)) : W p l e R s m args below meth c n0 Q kc ks k n h pc ls (.long v :: .long u :: st) :=
  W.lift (fun T t H S => XS.lor H C.1 rfl (C.a d) rfl S) K
theorem W.lxorV (C : Cx p s m meth c Z y bytes ml ret) {u v : Int64} (z : Int64) (d : decode bytes pc = .ok (.lxor, 1)) (hz : (u ^^^ v) = z) (K : W p l e R s m args below meth c n0 Q kc ks k n h (pc + 1) ls (.long z :: st)) : W p l e R s m args below meth c n0 Q kc ks k n h pc ls (.long v :: .long u :: st) :=
  W.lift (fun T t H S => XS.lxor H C.1 rfl (C.a d) rfl (by subst hz; exact S)) K
theorem W.lxor (C : Cx p s m meth c Z y bytes ml ret) {u v : Int64} (d : decode bytes pc = .ok (.lxor, 1)) (K : W p l e R s m args below meth c n0 Q kc ks k n h (pc + 1) ls (.long (u ^^^ v) :: st)) : W p l e R s m args below meth c n0 Q kc ks k n h pc ls (.long v :: .long u :: st) :=
  W.lift (fun T t H S => XS.lxor H C.1 rfl (C.a d) rfl S) K
theorem W.lshlV (C : Cx p s m meth c Z y bytes ml ret) {u : Int64} {v : Int32} (z : Int64) (d : decode bytes pc = .ok (.lshl, 1)) (hz : (u <<< (v &&& 0x3f).toInt64) = z) (K : W p l e R s m args below meth c n0 Q kc ks k n h (pc + 1) ls (.long z :: st)) : W p l e R s m args below meth c n0 Q kc ks k n h pc ls (.int v :: .long u :: st) :=
  W.lift (fun T t H S => XS.lshl H C.1 rfl (C.a d) rfl (by subst hz; exact S)) K
theorem W.lshl (C : Cx p s m meth c Z y bytes ml ret) {u : Int64} {v : Int32} (d : decode bytes pc = .ok (.lshl, 1)) (K : W p l e R s m args below meth c n0 Q kc ks k n h (pc + 1) ls (.long (u <<< (v &&& 0x3f).toInt64) :: st)) : W p l e R s m args below meth c n0 Q kc ks k n h pc ls (.int v :: .long u :: st) :=
  W.lift (fun T t H S => XS.lshl H C.1 rfl (C.a d) rfl S) K
theorem W.lshrV (C : Cx p s m meth c Z y bytes ml ret) {u : Int64} {v : Int32} (z : Int64) (d : decode bytes pc = .ok (.lshr, 1)) (hz : (u >>> (v &&& 0x3f).toInt64) = z) (K : W p l e R s m args below meth c n0 Q kc ks k n h (pc + 1) ls (.long z :: st)) : W p l e R s m args below meth c n0 Q kc ks k n h pc ls (.int v :: .long u :: st) :=
  W.lift (fun T t H S => XS.lshr H C.1 rfl (C.a d) rfl (by subst hz; exact S)) K
theorem W.lshr (C : Cx p s m meth c Z y bytes ml ret) {u : Int64} {v : Int32} (d : decode bytes pc = .ok (.lshr, 1)) (K : W p l e R s m args below meth c n0 Q kc ks k n h (pc + 1) ls (.long (u >>> (v &&& 0x3f).toInt64) :: st)) : W p l e R s m args below meth c n0 Q kc ks k n h pc ls (.int v :: .long u :: st) :=
  W.lift (fun T t H S => XS.lshr H C.1 rfl (C.a d) rfl S) K
theorem W.lushrV (C : Cx p s m meth c Z y bytes ml ret) {u : Int64} {v : Int32} (z : Int64) (d : decode bytes pc = .ok (.lushr, 1)) (hz : ((u.toUInt64 >>> (v &&& 0x3f).toInt64.toUInt64).toInt64) = z) (K : W p l e R s m args below meth c n0 Q kc ks k n h (pc + 1) ls (.long z :: st)) : W p l e R s m args below meth c n0 Q kc ks k n h pc ls (.int v :: .long u :: st) :=
  W.lift (fun T t H S => XS.lushr H C.1 rfl (C.a d) rfl (by subst hz; exact S)) K
theorem W.lushr (C : Cx p s m meth c Z y bytes ml ret) {u : Int64} {v : Int32} (d : decode bytes pc = .ok (.lushr, 1)) (K : W p l e R s m args below meth c n0 Q kc ks k n h (pc + 1) ls (.long ((u.toUInt64 >>> (v &&& 0x3f).toInt64.toUInt64).toInt64) :: st)) : W p l e R s m args below meth c n0 Q kc ks k n h pc ls (.int v :: .long u :: st) :=
  W.lift (fun T t H S => XS.lushr H C.1 rfl (C.a d) rfl S) K
theorem W.idivV (C : Cx p s m meth c Z y bytes ml ret) {u v : Int32} (z : Int32) (d : decode bytes pc = .ok (.idiv, 1)) (hy : v ≠ 0) (hz : (u / v) = z) (K : W p l e R s m args below meth c n0 Q kc ks k n h (pc + 1) ls (.int z :: st)) : W p l e R s m args below meth c n0 Q kc ks k n h pc ls (.int v :: .int u :: st) :=
  W.lift (fun T t H S => XS.idiv H C.1 rfl (C.a d) rfl hy (by subst hz; exact S)) K
theorem W.idiv (C : Cx p s m meth c Z y bytes ml ret) {u v : Int32} (d : decode bytes pc = .ok (.idiv, 1)) (hy : v ≠ 0) (K : W p l e R s m args below meth c n0 Q kc ks k n h (pc + 1) ls (.int (u / v) :: st)) : W p l e R s m args below meth c n0 Q kc ks k n h pc ls (.int v :: .int u :: st) :=
  W.lift (fun T t H S => XS.idiv H C.1 rfl (C.a d) rfl hy S) K
theorem W.irem (C : Cx p s m meth c Z y bytes ml ret) {u v : Int32} (d : decode bytes pc = .ok (.irem, 1)) (hy : v ≠ 0) (K : W p l e R s m args below meth c n0 Q kc ks k n h (pc + 1) ls (.int (u % v) :: st)) : W p l e R s m args below meth c n0 Q kc ks k n h pc ls (.int v :: .int u :: st) :=
  W.lift (fun T t H S => XS.irem H C.1 rfl (C.a d) rfl hy (by rw [irem_eq_mod u v]; exact S)) K
theorem W.ldivV (C : Cx p s m meth c Z y bytes ml ret) {u v : Int64} (z : Int64) (d : decode bytes pc = .ok (.ldiv, 1)) (hy : v ≠ 0) (hz : (u / v) = z) (K : W p l e R s m args below meth c n0 Q kc ks k n h (pc + 1) ls (.long z :: st)) : W p l e R s m args below meth c n0 Q kc ks k n h pc ls (.long v :: .long u :: st) :=
  W.lift (fun T t H S => XS.ldiv H C.1 rfl (C.a d) rfl hy (by subst hz; exact S)) K
theorem W.ldiv (C : Cx p s m meth c Z y bytes ml ret) {u v : Int64} (d : decode bytes pc = .ok (.ldiv, 1)) (hy : v ≠ 0) (K : W p l e R s m args below meth c n0 Q kc ks k n h (pc + 1) ls (.long (u / v) :: st)) : W p l e R s m args below meth c n0 Q kc ks k n h pc ls (.long v :: .long u :: st) :=
  W.lift (fun T t H S => XS.ldiv H C.1 rfl (C.a d) rfl hy S) K
theorem W.lrem (C : Cx p s m meth c Z y bytes ml ret) {u v : Int64} (d : decode bytes pc = .ok (.lrem, 1)) (hy : v ≠ 0) (K : W p l e R s m args below meth c n0 Q kc ks k n h (pc + 1) ls (.long (u % v) :: st)) : W p l e R s m args below meth c n0 Q kc ks k n h pc ls (.long v :: .long u :: st) :=
  W.lift (fun T t H S => XS.lrem H C.1 rfl (C.a d) rfl hy (by rw [lrem_mod u v]; exact S)) K
theorem W.inegV (C : Cx p s m meth c Z y bytes ml ret) {u : Int32} (z : Int32) (d : decode bytes pc = .ok (.ineg, 1)) (hz : (-u) = z) (K : W p l e R s m args below meth c n0 Q kc ks k n h (pc + 1) ls (.int z :: st)) : W p l e R s m args below meth c n0 Q kc ks k n h pc ls (.int u :: st) :=
  W.lift (fun T t H S => XS.ineg H C.1 rfl (C.a d) rfl (by subst hz; exact S)) K
theorem W.ineg (C : Cx p s m meth c Z y bytes ml ret) {u : Int32} (d : decode bytes pc = .ok (.ineg, 1)) (K : W p l e R s m args below meth c n0 Q kc ks k n h (pc + 1) ls (.int (-u) :: st)) : W p l e R s m args below meth c n0 Q kc ks k n h pc ls (.int u :: st) :=
  W.lift (fun T t H S => XS.ineg H C.1 rfl (C.a d) rfl S) K
theorem W.i2bV (C : Cx p s m meth c Z y bytes ml ret) {u : Int32} (z : Int32) (d : decode bytes pc = .ok (.i2b, 1)) (hz : (u.toInt8.toInt32) = z) (K : W p l e R s m args below meth c n0 Q kc ks k n h (pc + 1) ls (.int z :: st)) : W p l e R s m args below meth c n0 Q kc ks k n h pc ls (.int u :: st) :=
  W.lift (fun T t H S => XS.i2b H C.1 rfl (C.a d) rfl (by subst hz; exact S)) K
theorem W.i2b (C : Cx p s m meth c Z y bytes ml ret) {u : Int32} (d : decode bytes pc = .ok (.i2b, 1)) (K : W p l e R s m args below meth c n0 Q kc ks k n h (pc + 1) ls (.int (u.toInt8.toInt32) :: st)) : W p l e R s m args below meth c n0 Q kc ks k n h pc ls (.int u :: st) :=
  W.lift (fun T t H S => XS.i2b H C.1 rfl (C.a d) rfl S) K
theorem W.i2cV (C : Cx p s m meth c Z y bytes ml ret) {u : Int32} (z : Int32) (d : decode bytes pc = .ok (.i2c, 1)) (hz : (u.toUInt32.toUInt16.toUInt32.toInt32) = z) (K : W p l e R s m args below meth c n0 Q kc ks k n h (pc + 1) ls (.int z :: st)) : W p l e R s m args below meth c n0 Q kc ks k n h pc ls (.int u :: st) :=
  W.lift (fun T t H S => XS.i2c H C.1 rfl (C.a d) rfl (by subst hz; exact S)) K
theorem W.i2c (C : Cx p s m meth c Z y bytes ml ret) {u : Int32} (d : decode bytes pc = .ok (.i2c, 1)) (K : W p l e R s m args below meth c n0 Q kc ks k n h (pc + 1) ls (.int (u.toUInt32.toUInt16.toUInt32.toInt32) :: st)) : W p l e R s m args below meth c n0 Q kc ks k n h pc ls (.int u :: st) :=
  W.lift (fun T t H S => XS.i2c H C.1 rfl (C.a d) rfl S) K
theorem W.i2sV (C : Cx p s m meth c Z y bytes ml ret) {u : Int32} (z : Int32) (d : decode bytes pc = .ok (.i2s, 1)) (hz : (u.toInt16.toInt32) = z) (K : W p l e R s m args below meth c n0 Q kc ks k n h (pc + 1) ls (.int z :: st)) : W p l e R s m args below meth c n0 Q kc ks k n h pc ls (.int u :: st) :=
  W.lift (fun T t H S => XS.i2s H C.1 rfl (C.a d) rfl (by subst hz; exact S)) K
theorem W.i2s (C : Cx p s m meth c Z y bytes ml ret) {u : Int32} (d : decode bytes pc = .ok (.i2s, 1)) (K : W p l e R s m args below meth c n0 Q kc ks k n h (pc + 1) ls (.int (u.toInt16.toInt32) :: st)) : W p l e R s m args below meth c n0 Q kc ks k n h pc ls (.int u :: st) :=
  W.lift (fun T t H S => XS.i2s H C.1 rfl (C.a d) rfl S) K
theorem W.i2lV (C : Cx p s m meth c Z y bytes ml ret) {u : Int32} (z : Int64) (d : decode bytes pc = .ok (.i2l, 1)) (hz : u.toInt64 = z) (K : W p l e R s m args below meth c n0 Q kc ks k n h (pc + 1) ls (.long z :: st)) : W p l e R s m args below meth c n0 Q kc ks k n h pc ls (.int u :: st) :=
  W.lift (fun T t H S => XS.i2l H C.1 rfl (C.a d) rfl (by subst hz; exact S)) K
theorem W.i2l (C : Cx p s m meth c Z y bytes ml ret) {u : Int32} (d : decode bytes pc = .ok (.i2l, 1)) (K : W p l e R s m args below meth c n0 Q kc ks k n h (pc + 1) ls (.long u.toInt64 :: st)) : W p l e R s m args below meth c n0 Q kc ks k n h pc ls (.int u :: st) :=
  W.lift (fun T t H S => XS.i2l H C.1 rfl (C.a d) rfl S) K
theorem W.l2iV (C : Cx p s m meth c Z y bytes ml ret) {u : Int64} (z : Int32) (d : decode bytes pc = .ok (.l2i, 1)) (hz : u.toInt32 = z) (K : W p l e R s m args below meth c n0 Q kc ks k n h (pc + 1) ls (.int z :: st)) : W p l e R s m args below meth c n0 Q kc ks k n h pc ls (.long u :: st) :=
  W.lift (fun T t H S => XS.l2i H C.1 rfl (C.a d) rfl (by subst hz; exact S)) K
theorem W.l2i (C : Cx p s m meth c Z y bytes ml ret) {u : Int64} (d : decode bytes pc = .ok (.l2i, 1)) (K : W p l e R s m args below meth c n0 Q kc ks k n h (pc + 1) ls (.int u.toInt32 :: st)) : W p l e R s m args below meth c n0 Q kc ks k n h pc ls (.long u :: st) :=
  W.lift (fun T t H S => XS.l2i H C.1 rfl (C.a d) rfl S) K
theorem W.lnegV (C : Cx p s m meth c Z y bytes ml ret) {u : Int64} (z : Int64) (d : decode bytes pc = .ok (.lneg, 1)) (hz : (-u) = z) (K : W p l e R s m args below meth c n0 Q kc ks k n h (pc + 1) ls (.long z :: st)) : W p l e R s m args below meth c n0 Q kc ks k n h pc ls (.long u :: st) :=
  W.lift (fun T t H S => XS.lneg H C.1 rfl (C.a d) rfl (by subst hz; exact S)) K
theorem W.lneg (C : Cx p s m meth c Z y bytes ml ret) {u : Int64} (d : decode bytes pc = .ok (.lneg, 1)) (K : W p l e R s m args below meth c n0 Q kc ks k n h (pc + 1) ls (.long (-u) :: st)) : W p l e R s m args below meth c n0 Q kc ks k n h pc ls (.long u :: st) :=
  W.lift (fun T t H S => XS.lneg H C.1 rfl (C.a d) rfl S) K
theorem W.lcmpV (C : Cx p s m meth c Z y bytes ml ret) {u v : Int64} (z : Int32) (d : decode bytes pc = .ok (.lcmp, 1)) (hz : (lcmpW u v) = z) (K : W p l e R s m args below meth c n0 Q kc ks k n h (pc + 1) ls (.int z :: st)) : W p l e R s m args below meth c n0 Q kc ks k n h pc ls (.long v :: .long u :: st) :=
  W.lift (fun T t H S => XS.lcmp H C.1 rfl (C.a d) rfl (by subst hz; exact S)) K
theorem W.lcmp (C : Cx p s m meth c Z y bytes ml ret) {u v : Int64} (d : decode bytes pc = .ok (.lcmp, 1)) (K : W p l e R s m args below meth c n0 Q kc ks k n h (pc + 1) ls (.int (lcmpW u v) :: st)) : W p l e R s m args below meth c n0 Q kc ks k n h pc ls (.long v :: .long u :: st) :=
  W.lift (fun T t H S => XS.lcmp H C.1 rfl (C.a d) rfl S) K
theorem W.pop (C : Cx p s m meth c Z y bytes ml ret) {u : Value} (d : decode bytes pc = .ok (.pop, 1)) (hc : u.category = 1) (K : W p l e R s m args below meth c n0 Q kc ks k n h (pc + 1) ls (st)) : W p l e R s m args below meth c n0 Q kc ks k n h pc ls (u :: st) :=
  W.lift (fun T t H S => XS.pop H C.1 rfl (C.a d) rfl hc S) K
theorem W.dup (C : Cx p s m meth c Z y bytes ml ret) {u : Value} (d : decode bytes pc = .ok (.dup, 1)) (hc : u.category = 1) (K : W p l e R s m args below meth c n0 Q kc ks k n h (pc + 1) ls (u :: u :: st)) : W p l e R s m args below meth c n0 Q kc ks k n h pc ls (u :: st) :=
  W.lift (fun T t H S => XS.dup H C.1 rfl (C.a d) rfl hc S) K
theorem W.dupX1 (C : Cx p s m meth c Z y bytes ml ret) {u v : Value} (d : decode bytes pc = .ok (.dup_x1, 1)) (hc : u.category = 1) (hc' : v.category = 1) (K : W p l e R s m args below meth c n0 Q kc ks k n h (pc + 1) ls (u :: v :: u :: st)) : W p l e R s m args below meth c n0 Q kc ks k n h pc ls (u :: v :: st) :=
  W.lift (fun T t H S => XT.dupX1 H C.1 rfl (C.a d) rfl hc hc' S) K
theorem W.dup2 (C : Cx p s m meth c Z y bytes ml ret) {u v : Value} (d : decode bytes pc = .ok (.dup2, 1)) (hc : u.category = 1) (hc' : v.category = 1) (K : W p l e R s m args below meth c n0 Q kc ks k n h (pc + 1) ls (u :: v :: u :: v :: st)) : W p l e R s m args below meth c n0 Q kc ks k n h pc ls (u :: v :: st) :=
  W.lift (fun T t H S => XT.dup2 H C.1 rfl (C.a d) rfl hc hc' S) K
theorem W.dup2L (C : Cx p s m meth c Z y bytes ml ret) {u : Int64} (d : decode bytes pc = .ok (.dup2, 1)) (K : W p l e R s m args below meth c n0 Q kc ks k n h (pc + 1) ls (.long u :: .long u :: st)) : W p l e R s m args below meth c n0 Q kc ks k n h pc ls (.long u :: st) :=
  W.lift (fun T t H S => XT.dup2L H C.1 rfl (C.a d) rfl S) K
theorem W.aconstNull (C : Cx p s m meth c Z y bytes ml ret)  (d : decode bytes pc = .ok (.aconst_null, 1)) (K : W p l e R s m args below meth c n0 Q kc ks k n h (pc + 1) ls (.null :: st)) : W p l e R s m args below meth c n0 Q kc ks k n h pc ls (st) :=
  W.lift (fun T t H S => XS.aconstNull H C.1 rfl (C.a d)  S) K
theorem W.iconst (C : Cx p s m meth c Z y bytes ml ret) {i : Int} (v : Int32) (d : decode bytes pc = .ok (.iconst i, 1)) (hv : Int32.ofInt i = v) (K : W p l e R s m args below meth c n0 Q kc ks k n h (pc + 1) ls (.int v :: st)) : W p l e R s m args below meth c n0 Q kc ks k n h pc ls st :=
  W.lift (fun T t H S => XS.iconst H C.1 rfl (C.a d) (by rw [hv]; exact S)) K
theorem W.bipush (C : Cx p s m meth c Z y bytes ml ret) {i : Int} (v : Int32) (d : decode bytes pc = .ok (.bipush i, 2)) (hv : (Int8.ofInt i).toInt32 = v) (K : W p l e R s m args below meth c n0 Q kc ks k n h (pc + 2) ls (.int v :: st)) : W p l e R s m args below meth c n0 Q kc ks k n h pc ls st :=
  W.lift (fun T t H S => XS.bipush H C.1 rfl (C.a d) (by rw [hv]; exact S)) K
theorem W.sipush (C : Cx p s m meth c Z y bytes ml ret) {i : Int} (v : Int32) (d : decode bytes pc = .ok (.sipush i, 3)) (hv : (Int16.ofInt i).toInt32 = v) (K : W p l e R s m args below meth c n0 Q kc ks k n h (pc + 3) ls (.int v :: st)) : W p l e R s m args below meth c n0 Q kc ks k n h pc ls st :=
  W.lift (fun T t H S => XS.sipush H C.1 rfl (C.a d) (by rw [hv]; exact S)) K
theorem W.lconst (C : Cx p s m meth c Z y bytes ml ret) {i : Fin 2} (v : Int64) (d : decode bytes pc = .ok (.lconst i, 1)) (hv : Int64.ofNat i = v) (K : W p l e R s m args below meth c n0 Q kc ks k n h (pc + 1) ls (.long v :: st)) : W p l e R s m args below meth c n0 Q kc ks k n h pc ls st :=
  W.lift (fun T t H S => XS.lconst H C.1 rfl (C.a d) (by rw [hv]; exact S)) K
theorem W.iloadN (C : Cx p s m meth c Z y bytes ml ret) {i : Fin 4} {v : Int32} (d : decode bytes pc = .ok (.iload_n i, 1)) (hl : ls[i.val]? = some (.val (.int v))) (K : W p l e R s m args below meth c n0 Q kc ks k n h (pc + 1) ls (.int v :: st)) : W p l e R s m args below meth c n0 Q kc ks k n h pc ls st :=
  W.lift (fun T t H S => XS.iloadN H C.1 rfl (C.a d) hl S) K
theorem W.iload (C : Cx p s m meth c Z y bytes ml ret) {i : Nat} {v : Int32} (d : decode bytes pc = .ok (.iload i, 2)) (hl : ls[i]? = some (.val (.int v))) (K : W p l e R s m args below meth c n0 Q kc ks k n h (pc + 2) ls (.int v :: st)) : W p l e R s m args below meth c n0 Q kc ks k n h pc ls st :=
  W.lift (fun T t H S => XS.iload H C.1 rfl (C.a d) hl S) K
theorem W.istoreN (C : Cx p s m meth c Z y bytes ml ret) {i : Fin 4} {v : Int32} (l' : Array Slot) (d : decode bytes pc = .ok (.istore_n i, 1)) (hl : storeLocals ls i.val (.int v) = some l') (K : W p l e R s m args below meth c n0 Q kc ks k n h (pc + 1) l' st) : W p l e R s m args below meth c n0 Q kc ks k n h pc ls (.int v :: st) :=
  W.lift (fun T t H S => XS.istoreN H C.1 rfl (C.a d) rfl hl S) K
theorem W.istore (C : Cx p s m meth c Z y bytes ml ret) {i : Nat} {v : Int32} (l' : Array Slot) (d : decode bytes pc = .ok (.istore i, 2)) (hl : storeLocals ls i (.int v) = some l') (K : W p l e R s m args below meth c n0 Q kc ks k n h (pc + 2) l' st) : W p l e R s m args below meth c n0 Q kc ks k n h pc ls (.int v :: st) :=
  W.lift (fun T t H S => XS.istore H C.1 rfl (C.a d) rfl hl S) K
theorem W.lloadN (C : Cx p s m meth c Z y bytes ml ret) {i : Fin 4} {v : Int64} (d : decode bytes pc = .ok (.lload_n i, 1)) (hl : ls[i.val]? = some (.val (.long v))) (K : W p l e R s m args below meth c n0 Q kc ks k n h (pc + 1) ls (.long v :: st)) : W p l e R s m args below meth c n0 Q kc ks k n h pc ls st :=
  W.lift (fun T t H S => XS.lloadN H C.1 rfl (C.a d) hl S) K
theorem W.lload (C : Cx p s m meth c Z y bytes ml ret) {i : Nat} {v : Int64} (d : decode bytes pc = .ok (.lload i, 2)) (hl : ls[i]? = some (.val (.long v))) (K : W p l e R s m args below meth c n0 Q kc ks k n h (pc + 2) ls (.long v :: st)) : W p l e R s m args below meth c n0 Q kc ks k n h pc ls st :=
  W.lift (fun T t H S => XS.lload H C.1 rfl (C.a d) hl S) K
theorem W.lstoreN (C : Cx p s m meth c Z y bytes ml ret) {i : Fin 4} {v : Int64} (l' : Array Slot) (d : decode bytes pc = .ok (.lstore_n i, 1)) (hl : storeLocals ls i.val (.long v) = some l') (K : W p l e R s m args below meth c n0 Q kc ks k n h (pc + 1) l' st) : W p l e R s m args below meth c n0 Q kc ks k n h pc ls (.long v :: st) :=
  W.lift (fun T t H S => XS.lstoreN H C.1 rfl (C.a d) rfl hl S) K
theorem W.lstore (C : Cx p s m meth c Z y bytes ml ret) {i : Nat} {v : Int64} (l' : Array Slot) (d : decode bytes pc = .ok (.lstore i, 2)) (hl : storeLocals ls i (.long v) = some l') (K : W p l e R s m args below meth c n0 Q kc ks k n h (pc + 2) l' st) : W p l e R s m args below meth c n0 Q kc ks k n h pc ls (.long v :: st) :=
  W.lift (fun T t H S => XS.lstore H C.1 rfl (C.a d) rfl hl S) K
theorem W.aloadN (C : Cx p s m meth c Z y bytes ml ret) {i : Fin 4} {v : Value} (d : decode bytes pc = .ok (.aload_n i, 1)) (hl : ls[i.val]? = some (.val v)) (hv : v.isRef = true) (K : W p l e R s m args below meth c n0 Q kc ks k n h (pc + 1) ls (v :: st)) : W p l e R s m args below meth c n0 Q kc ks k n h pc ls st :=
  W.lift (fun T t H S => XS.aloadN H C.1 rfl (C.a d) hl hv S) K
theorem W.aload (C : Cx p s m meth c Z y bytes ml ret) {i : Nat} {v : Value} (d : decode bytes pc = .ok (.aload i, 2)) (hl : ls[i]? = some (.val v)) (hv : v.isRef = true) (K : W p l e R s m args below meth c n0 Q kc ks k n h (pc + 2) ls (v :: st)) : W p l e R s m args below meth c n0 Q kc ks k n h pc ls st :=
  W.lift (fun T t H S => XS.aload H C.1 rfl (C.a d) hl hv S) K
theorem W.astoreN (C : Cx p s m meth c Z y bytes ml ret) {i : Fin 4} {v : Value} (l' : Array Slot) (d : decode bytes pc = .ok (.astore_n i, 1)) (hv : v.isRef = true) (hl : storeLocals ls i.val v = some l') (K : W p l e R s m args below meth c n0 Q kc ks k n h (pc + 1) l' st) : W p l e R s m args below meth c n0 Q kc ks k n h pc ls (v :: st) :=
  W.lift (fun T t H S => XS.astoreN H C.1 rfl (C.a d) rfl hv hl S) K
theorem W.astore (C : Cx p s m meth c Z y bytes ml ret) {i : Nat} {v : Value} (l' : Array Slot) (d : decode bytes pc = .ok (.astore i, 2)) (hv : v.isRef = true) (hl : storeLocals ls i v = some l') (K : W p l e R s m args below meth c n0 Q kc ks k n h (pc + 2) l' st) : W p l e R s m args below meth c n0 Q kc ks k n h pc ls (v :: st) :=
  W.lift (fun T t H S => XS.astore H C.1 rfl (C.a d) rfl hv hl S) K
theorem W.istoreO (C : Cx p s m meth c Z y bytes ml ret) {i : Nat} {v : Int32} {o : Slot} (l' : Array Slot) (d : decode bytes pc = .ok (.istore i, 2)) (hold : ls[i]? = some o) (ho : One o) (hl : ls.setIfInBounds i (.val (.int v)) = l') (K : W p l e R s m args below meth c n0 Q kc ks k n h (pc + 2) l' st) : W p l e R s m args below meth c n0 Q kc ks k n h pc ls (.int v :: st) :=
  W.lift (fun T t H S => XS.istoreS H C.1 rfl (C.a d) rfl hold ho (by rw [hl]; exact S)) K
theorem W.istoreNO (C : Cx p s m meth c Z y bytes ml ret) {i : Fin 4} {v : Int32} {o : Slot} (l' : Array Slot) (d : decode bytes pc = .ok (.istore_n i, 1)) (hold : ls[i.val]? = some o) (ho : One o) (hl : ls.setIfInBounds i.val (.val (.int v)) = l') (K : W p l e R s m args below meth c n0 Q kc ks k n h (pc + 1) l' st) : W p l e R s m args below meth c n0 Q kc ks k n h pc ls (.int v :: st) :=
  W.lift (fun T t H S => XS.istoreNS H C.1 rfl (C.a d) rfl hold ho (by rw [hl]; exact S)) K
theorem W.iinc (C : Cx p s m meth c Z y bytes ml ret) {i : Nat} {cst : Int} {u : Int32} (v : Int32) (l' : Array Slot) (d : decode bytes pc = .ok (.iinc i cst, 3)) (hl : ls[i]? = some (.val (.int u))) (hv : u + Int32.ofInt cst = v) (hl' : storeLocals ls i (.int v) = some l') (K : W p l e R s m args below meth c n0 Q kc ks k n h (pc + 3) l' st) : W p l e R s m args below meth c n0 Q kc ks k n h pc ls st :=
  W.lift (fun T t H S => XS.iinc H C.1 rfl (C.a d) hl (by rw [hv]; exact hl') S) K
theorem jmp {pc pc' : Nat} {o : Int} (hp : (pc : Int) + o = pc') : 0 ≤ (pc : Int) + o ∧ ((pc : Int) + o).toNat = pc' := by omega
theorem W.goto (C : Cx p s m meth c Z y bytes ml ret) {o : Int} (pc' : Nat) (d : decode bytes pc = .ok (.goto o, 3)) (hp : (pc : Int) + o = pc') (K : W p l e R s m args below meth c n0 Q kc ks k n h pc' ls st) : W p l e R s m args below meth c n0 Q kc ks k n h pc ls st :=
  W.lift (fun T t H S => XS.goto H C.1 rfl (pc0 := pc) (pc' := pc') rfl (C.a d) (jmp hp).1 (jmp hp).2 S) K
theorem W.icmp_eq (C : Cx p s m meth c Z y bytes ml ret) {u v : Int32} {o : Int} (pc' : Nat) (d : decode bytes pc = .ok (.if_icmp .eq o, 3)) (hp : (pc : Int) + o = pc') (yes : u = v → W p l e R s m args below meth c n0 Q kc ks k n h pc' ls st) (no : ¬ u = v → W p l e R s m args below meth c n0 Q kc ks k n h (pc + 3) ls st) : W p l e R s m args below meth c n0 Q kc ks k n h pc ls (.int v :: .int u :: st) := by
  by_cases b : u = v
  · exact W.lift (fun T t H S => XS.icmpYes H C.1 rfl (pc0 := pc) (pc' := pc') rfl (C.a d) rfl (XT.ii_eq_t b) (jmp hp).1 (jmp hp).2 S) (yes b)
  · exact W.lift (fun T t H S => XS.icmpNo H C.1 rfl (C.a d) rfl (XT.ii_eq_f b) S) (no b)
theorem W.if_eq (C : Cx p s m meth c Z y bytes ml ret) {u : Int32} {o : Int} (pc' : Nat) (d : decode bytes pc = .ok (.ifCond .eq o, 3)) (hp : (pc : Int) + o = pc') (yes : u = 0 → W p l e R s m args below meth c n0 Q kc ks k n h pc' ls st) (no : ¬ u = 0 → W p l e R s m args below meth c n0 Q kc ks k n h (pc + 3) ls st) : W p l e R s m args below meth c n0 Q kc ks k n h pc ls (.int u :: st) := by
  by_cases b : u = 0
  · exact W.lift (fun T t H S => XS.ifYes H C.1 rfl (pc0 := pc) (pc' := pc') rfl (C.a d) rfl (XT.i0_eq_t b) (jmp hp).1 (jmp hp).2 S) (yes b)
  · exact W.lift (fun T t H S => XS.ifNo H C.1 rfl (C.a d) rfl (XT.i0_eq_f b) S) (no b)
theorem ll_eq_t {u v : Int64} (b : u = v) : ifCond.holds .eq (lcmpW u v) = true := XT.ll_eq_t b
theorem ll_eq_f {u v : Int64} (b : ¬ u = v) : ifCond.holds .eq (lcmpW u v) = false := XT.ll_eq_f b
theorem W.lif_eq (C : Cx p s m meth c Z y bytes ml ret) {u v : Int64} {o : Int} (pc' : Nat) (d : decode bytes pc = .ok (.ifCond .eq o, 3)) (hp : (pc : Int) + o = pc') (yes : u = v → W p l e R s m args below meth c n0 Q kc ks k n h pc' ls st) (no : ¬ u = v → W p l e R s m args below meth c n0 Q kc ks k n h (pc + 3) ls st) : W p l e R s m args below meth c n0 Q kc ks k n h pc ls (.int (lcmpW u v) :: st) := by
  by_cases b : u = v
  · exact W.lift (fun T t H S => XS.ifYes H C.1 rfl (pc0 := pc) (pc' := pc') rfl (C.a d) rfl (ll_eq_t b) (jmp hp).1 (jmp hp).2 S) (yes b)
  · exact W.lift (fun T t H S => XS.ifNo H C.1 rfl (C.a d) rfl (ll_eq_f b) S) (no b)
theorem W.icmp_ne (C : Cx p s m meth c Z y bytes ml ret) {u v : Int32} {o : Int} (pc' : Nat) (d : decode bytes pc = .ok (.if_icmp .ne o, 3)) (hp : (pc : Int) + o = pc') (yes : ¬ u = v → W p l e R s m args below meth c n0 Q kc ks k n h pc' ls st) (no : u = v → W p l e R s m args below meth c n0 Q kc ks k n h (pc + 3) ls st) : W p l e R s m args below meth c n0 Q kc ks k n h pc ls (.int v :: .int u :: st) := by
  by_cases b : u = v
  · exact W.lift (fun T t H S => XS.icmpNo H C.1 rfl (C.a d) rfl (XT.ii_ne_f b) S) (no b)
  · exact W.lift (fun T t H S => XS.icmpYes H C.1 rfl (pc0 := pc) (pc' := pc') rfl (C.a d) rfl (XT.ii_ne_t b) (jmp hp).1 (jmp hp).2 S) (yes b)
theorem W.if_ne (C : Cx p s m meth c Z y bytes ml ret) {u : Int32} {o : Int} (pc' : Nat) (d : decode bytes pc = .ok (.ifCond .ne o, 3)) (hp : (pc : Int) + o = pc') (yes : ¬ u = 0 → W p l e R s m args below meth c n0 Q kc ks k n h pc' ls st) (no : u = 0 → W p l e R s m args below meth c n0 Q kc ks k n h (pc + 3) ls st) : W p l e R s m args below meth c n0 Q kc ks k n h pc ls (.int u :: st) := by
  by_cases b : u = 0
  · exact W.lift (fun T t H S => XS.ifNo H C.1 rfl (C.a d) rfl (XT.i0_ne_f b) S) (no b)
  · exact W.lift (fun T t H S => XS.ifYes H C.1 rfl (pc0 := pc) (pc' := pc') rfl (C.a d) rfl (XT.i0_ne_t b) (jmp hp).1 (jmp hp).2 S) (yes b)
theorem ll_ne_t {u v : Int64} (b : ¬ u = v) : ifCond.holds .ne (lcmpW u v) = true := XT.ll_ne_t b
theorem ll_ne_f {u v : Int64} (b : u = v) : ifCond.holds .ne (lcmpW u v) = false := XT.ll_ne_f b
theorem W.lif_ne (C : Cx p s m meth c Z y bytes ml ret) {u v : Int64} {o : Int} (pc' : Nat) (d : decode bytes pc = .ok (.ifCond .ne o, 3)) (hp : (pc : Int) + o = pc') (yes : ¬ u = v → W p l e R s m args below meth c n0 Q kc ks k n h pc' ls st) (no : u = v → W p l e R s m args below meth c n0 Q kc ks k n h (pc + 3) ls st) : W p l e R s m args below meth c n0 Q kc ks k n h pc ls (.int (lcmpW u v) :: st) := by
  by_cases b : u = v
  · exact W.lift (fun T t H S => XS.ifNo H C.1 rfl (C.a d) rfl (ll_ne_f b) S) (no b)
  · exact W.lift (fun T t H S => XS.ifYes H C.1 rfl (pc0 := pc) (pc' := pc') rfl (C.a d) rfl (ll_ne_t b) (jmp hp).1 (jmp hp).2 S) (yes b)
theorem W.icmp_lt (C : Cx p s m meth c Z y bytes ml ret) {u v : Int32} {o : Int} (pc' : Nat) (d : decode bytes pc = .ok (.if_icmp .lt o, 3)) (hp : (pc : Int) + o = pc') (yes : u < v → W p l e R s m args below meth c n0 Q kc ks k n h pc' ls st) (no : ¬ u < v → W p l e R s m args below meth c n0 Q kc ks k n h (pc + 3) ls st) : W p l e R s m args below meth c n0 Q kc ks k n h pc ls (.int v :: .int u :: st) := by
  by_cases b : u < v
  · exact W.lift (fun T t H S => XS.icmpYes H C.1 rfl (pc0 := pc) (pc' := pc') rfl (C.a d) rfl (XT.ii_lt_t b) (jmp hp).1 (jmp hp).2 S) (yes b)
  · exact W.lift (fun T t H S => XS.icmpNo H C.1 rfl (C.a d) rfl (XT.ii_lt_f b) S) (no b)
theorem W.if_lt (C : Cx p s m meth c Z y bytes ml ret) {u : Int32} {o : Int} (pc' : Nat) (d : decode bytes pc = .ok (.ifCond .lt o, 3)) (hp : (pc : Int) + o = pc') (yes : u < 0 → W p l e R s m args below meth c n0 Q kc ks k n h pc' ls st) (no : ¬ u < 0 → W p l e R s m args below meth c n0 Q kc ks k n h (pc + 3) ls st) : W p l e R s m args below meth c n0 Q kc ks k n h pc ls (.int u :: st) := by
  by_cases b : u < 0
  · exact W.lift (fun T t H S => XS.ifYes H C.1 rfl (pc0 := pc) (pc' := pc') rfl (C.a d) rfl (XT.i0_lt_t b) (jmp hp).1 (jmp hp).2 S) (yes b)
  · exact W.lift (fun T t H S => XS.ifNo H C.1 rfl (C.a d) rfl (XT.i0_lt_f b) S) (no b)
theorem ll_lt_t {u v : Int64} (b : u < v) : ifCond.holds .lt (lcmpW u v) = true := XT.ll_lt_t b
theorem ll_lt_f {u v : Int64} (b : ¬ u < v) : ifCond.holds .lt (lcmpW u v) = false := XT.ll_lt_f b
theorem W.lif_lt (C : Cx p s m meth c Z y bytes ml ret) {u v : Int64} {o : Int} (pc' : Nat) (d : decode bytes pc = .ok (.ifCond .lt o, 3)) (hp : (pc : Int) + o = pc') (yes : u < v → W p l e R s m args below meth c n0 Q kc ks k n h pc' ls st) (no : ¬ u < v → W p l e R s m args below meth c n0 Q kc ks k n h (pc + 3) ls st) : W p l e R s m args below meth c n0 Q kc ks k n h pc ls (.int (lcmpW u v) :: st) := by
  by_cases b : u < v
  · exact W.lift (fun T t H S => XS.ifYes H C.1 rfl (pc0 := pc) (pc' := pc') rfl (C.a d) rfl (ll_lt_t b) (jmp hp).1 (jmp hp).2 S) (yes b)
  · exact W.lift (fun T t H S => XS.ifNo H C.1 rfl (C.a d) rfl (ll_lt_f b) S) (no b)
theorem W.icmp_ge (C : Cx p s m meth c Z y bytes ml ret) {u v : Int32} {o : Int} (pc' : Nat) (d : decode bytes pc = .ok (.if_icmp .ge o, 3)) (hp : (pc : Int) + o = pc') (yes : ¬ u < v → W p l e R s m args below meth c n0 Q kc ks k n h pc' ls st) (no : u < v → W p l e R s m args below meth c n0 Q kc ks k n h (pc + 3) ls st) : W p l e R s m args below meth c n0 Q kc ks k n h pc ls (.int v :: .int u :: st) := by
  by_cases b : u < v
  · exact W.lift (fun T t H S => XS.icmpNo H C.1 rfl (C.a d) rfl (XT.ii_ge_f b) S) (no b)
  · exact W.lift (fun T t H S => XS.icmpYes H C.1 rfl (pc0 := pc) (pc' := pc') rfl (C.a d) rfl (XT.ii_ge_t b) (jmp hp).1 (jmp hp).2 S) (yes b)
theorem W.if_ge (C : Cx p s m meth c Z y bytes ml ret) {u : Int32} {o : Int} (pc' : Nat) (d : decode bytes pc = .ok (.ifCond .ge o, 3)) (hp : (pc : Int) + o = pc') (yes : ¬ u < 0 → W p l e R s m args below meth c n0 Q kc ks k n h pc' ls st) (no : u < 0 → W p l e R s m args below meth c n0 Q kc ks k n h (pc + 3) ls st) : W p l e R s m args below meth c n0 Q kc ks k n h pc ls (.int u :: st) := by
  by_cases b : u < 0
  · exact W.lift (fun T t H S => XS.ifNo H C.1 rfl (C.a d) rfl (XT.i0_ge_f b) S) (no b)
  · exact W.lift (fun T t H S => XS.ifYes H C.1 rfl (pc0 := pc) (pc' := pc') rfl (C.a d) rfl (XT.i0_ge_t b) (jmp hp).1 (jmp hp).2 S) (yes b)
theorem ll_ge_t {u v : Int64} (b : ¬ u < v) : ifCond.holds .ge (lcmpW u v) = true := XT.ll_ge_t b
theorem ll_ge_f {u v : Int64} (b : u < v) : ifCond.holds .ge (lcmpW u v) = false := XT.ll_ge_f b
theorem W.lif_ge (C : Cx p s m meth c Z y bytes ml ret) {u v : Int64} {o : Int} (pc' : Nat) (d : decode bytes pc = .ok (.ifCond .ge o, 3)) (hp : (pc : Int) + o = pc') (yes : ¬ u < v → W p l e R s m args below meth c n0 Q kc ks k n h pc' ls st) (no : u < v → W p l e R s m args below meth c n0 Q kc ks k n h (pc + 3) ls st) : W p l e R s m args below meth c n0 Q kc ks k n h pc ls (.int (lcmpW u v) :: st) := by
  by_cases b : u < v
  · exact W.lift (fun T t H S => XS.ifNo H C.1 rfl (C.a d) rfl (ll_ge_f b) S) (no b)
  · exact W.lift (fun T t H S => XS.ifYes H C.1 rfl (pc0 := pc) (pc' := pc') rfl (C.a d) rfl (ll_ge_t b) (jmp hp).1 (jmp hp).2 S) (yes b)
theorem W.icmp_gt (C : Cx p s m meth c Z y bytes ml ret) {u v : Int32} {o : Int} (pc' : Nat) (d : decode bytes pc = .ok (.if_icmp .gt o, 3)) (hp : (pc : Int) + o = pc') (yes : v < u → W p l e R s m args below meth c n0 Q kc ks k n h pc' ls st) (no : ¬ v < u → W p l e R s m args below meth c n0 Q kc ks k n h (pc + 3) ls st) : W p l e R s m args below meth c n0 Q kc ks k n h pc ls (.int v :: .int u :: st) := by
  by_cases b : v < u
  · exact W.lift (fun T t H S => XS.icmpYes H C.1 rfl (pc0 := pc) (pc' := pc') rfl (C.a d) rfl (XT.ii_gt_t b) (jmp hp).1 (jmp hp).2 S) (yes b)
  · exact W.lift (fun T t H S => XS.icmpNo H C.1 rfl (C.a d) rfl (XT.ii_gt_f b) S) (no b)
theorem W.if_gt (C : Cx p s m meth c Z y bytes ml ret) {u : Int32} {o : Int} (pc' : Nat) (d : decode bytes pc = .ok (.ifCond .gt o, 3)) (hp : (pc : Int) + o = pc') (yes : 0 < u → W p l e R s m args below meth c n0 Q kc ks k n h pc' ls st) (no : ¬ 0 < u → W p l e R s m args below meth c n0 Q kc ks k n h (pc + 3) ls st) : W p l e R s m args below meth c n0 Q kc ks k n h pc ls (.int u :: st) := by
  by_cases b : 0 < u
  · exact W.lift (fun T t H S => XS.ifYes H C.1 rfl (pc0 := pc) (pc' := pc') rfl (C.a d) rfl (XT.i0_gt_t b) (jmp hp).1 (jmp hp).2 S) (yes b)
  · exact W.lift (fun T t H S => XS.ifNo H C.1 rfl (C.a d) rfl (XT.i0_gt_f b) S) (no b)
theorem ll_gt_t {u v : Int64} (b : v < u) : ifCond.holds .gt (lcmpW u v) = true := XT.ll_gt_t b
theorem ll_gt_f {u v : Int64} (b : ¬ v < u) : ifCond.holds .gt (lcmpW u v) = false := XT.ll_gt_f b
theorem W.lif_gt (C : Cx p s m meth c Z y bytes ml ret) {u v : Int64} {o : Int} (pc' : Nat) (d : decode bytes pc = .ok (.ifCond .gt o, 3)) (hp : (pc : Int) + o = pc') (yes : v < u → W p l e R s m args below meth c n0 Q kc ks k n h pc' ls st) (no : ¬ v < u → W p l e R s m args below meth c n0 Q kc ks k n h (pc + 3) ls st) : W p l e R s m args below meth c n0 Q kc ks k n h pc ls (.int (lcmpW u v) :: st) := by
  by_cases b : v < u
  · exact W.lift (fun T t H S => XS.ifYes H C.1 rfl (pc0 := pc) (pc' := pc') rfl (C.a d) rfl (ll_gt_t b) (jmp hp).1 (jmp hp).2 S) (yes b)
  · exact W.lift (fun T t H S => XS.ifNo H C.1 rfl (C.a d) rfl (ll_gt_f b) S) (no b)
theorem W.icmp_le (C : Cx p s m meth c Z y bytes ml ret) {u v : Int32} {o : Int} (pc' : Nat) (d : decode bytes pc = .ok (.if_icmp .le o, 3)) (hp : (pc : Int) + o = pc') (yes : ¬ v < u → W p l e R s m args below meth c n0 Q kc ks k n h pc' ls st) (no : v < u → W p l e R s m args below meth c n0 Q kc ks k n h (pc + 3) ls st) : W p l e R s m args below meth c n0 Q kc ks k n h pc ls (.int v :: .int u :: st) := by
  by_cases b : v < u
  · exact W.lift (fun T t H S => XS.icmpNo H C.1 rfl (C.a d) rfl (XT.ii_le_f b) S) (no b)
  · exact W.lift (fun T t H S => XS.icmpYes H C.1 rfl (pc0 := pc) (pc' := pc') rfl (C.a d) rfl (XT.ii_le_t b) (jmp hp).1 (jmp hp).2 S) (yes b)
theorem W.if_le (C : Cx p s m meth c Z y bytes ml ret) {u : Int32} {o : Int} (pc' : Nat) (d : decode bytes pc = .ok (.ifCond .le o, 3)) (hp : (pc : Int) + o = pc') (yes : ¬ 0 < u → W p l e R s m args below meth c n0 Q kc ks k n h pc' ls st) (no : 0 < u → W p l e R s m args below meth c n0 Q kc ks k n h (pc + 3) ls st) : W p l e R s m args below meth c n0 Q kc ks k n h pc ls (.int u :: st) := by
  by_cases b : 0 < u
  · exact W.lift (fun T t H S => XS.ifNo H C.1 rfl (C.a d) rfl (XT.i0_le_f b) S) (no b)
  · exact W.lift (fun T t H S => XS.ifYes H C.1 rfl (pc0 := pc) (pc' := pc') rfl (C.a d) rfl (XT.i0_le_t b) (jmp hp).1 (jmp hp).2 S) (yes b)
theorem ll_le_t {u v : Int64} (b : ¬ v < u) : ifCond.holds .le (lcmpW u v) = true := XT.ll_le_t b
theorem ll_le_f {u v : Int64} (b : v < u) : ifCond.holds .le (lcmpW u v) = false := XT.ll_le_f b
theorem W.lif_le (C : Cx p s m meth c Z y bytes ml ret) {u v : Int64} {o : Int} (pc' : Nat) (d : decode bytes pc = .ok (.ifCond .le o, 3)) (hp : (pc : Int) + o = pc') (yes : ¬ v < u → W p l e R s m args below meth c n0 Q kc ks k n h pc' ls st) (no : v < u → W p l e R s m args below meth c n0 Q kc ks k n h (pc + 3) ls st) : W p l e R s m args below meth c n0 Q kc ks k n h pc ls (.int (lcmpW u v) :: st) := by
  by_cases b : v < u
  · exact W.lift (fun T t H S => XS.ifNo H C.1 rfl (C.a d) rfl (ll_le_f b) S) (no b)
  · exact W.lift (fun T t H S => XS.ifYes H C.1 rfl (pc0 := pc) (pc' := pc') rfl (C.a d) rfl (ll_le_t b) (jmp hp).1 (jmp hp).2 S) (yes b)
theorem W.ifnullNo (C : Cx p s m meth c Z y bytes ml ret) {b : Addr} {o : Int} (d : decode bytes pc = .ok (.ifnull o, 3)) (K : W p l e R s m args below meth c n0 Q kc ks k n h (pc + 3) ls st) : W p l e R s m args below meth c n0 Q kc ks k n h pc ls (.ref b :: st) :=
  W.lift (fun T t H S => XS.ifnullNo H C.1 rfl (C.a d) rfl S) K
theorem W.ifnullYes (C : Cx p s m meth c Z y bytes ml ret) {o : Int} (pc' : Nat) (d : decode bytes pc = .ok (.ifnull o, 3)) (hp : (pc : Int) + o = pc') (K : W p l e R s m args below meth c n0 Q kc ks k n h pc' ls st) : W p l e R s m args below meth c n0 Q kc ks k n h pc ls (.null :: st) :=
  W.lift (fun T t H S => XS.ifnullYes H C.1 rfl (pc0 := pc) (pc' := pc') rfl (C.a d) rfl (jmp hp).1 (jmp hp).2 S) K
theorem W.ifnonnullYes (C : Cx p s m meth c Z y bytes ml ret) {b : Addr} {o : Int} (pc' : Nat) (d : decode bytes pc = .ok (.ifnonnull o, 3)) (hp : (pc : Int) + o = pc') (K : W p l e R s m args below meth c n0 Q kc ks k n h pc' ls st) : W p l e R s m args below meth c n0 Q kc ks k n h pc ls (.ref b :: st) :=
  W.lift (fun T t H S => XT.ifnonnullYes H C.1 rfl (pc0 := pc) (pc' := pc') rfl (C.a d) rfl (jmp hp).1 (jmp hp).2 S) K
theorem W.ifnonnullNo (C : Cx p s m meth c Z y bytes ml ret) {o : Int} (d : decode bytes pc = .ok (.ifnonnull o, 3)) (K : W p l e R s m args below meth c n0 Q kc ks k n h (pc + 3) ls st) : W p l e R s m args below meth c n0 Q kc ks k n h pc ls (.null :: st) :=
  W.lift (fun T t H S => XT.ifnonnullNo H C.1 rfl (C.a d) rfl S) K
theorem W.acmp_eq (C : Cx p s m meth c Z y bytes ml ret) {u v : Value} {o : Int} (pc' : Nat) (d : decode bytes pc = .ok (.if_acmp .eq o, 3)) (hu : u.isRef = true) (hv : v.isRef = true) (hp : (pc : Int) + o = pc') (yes : u = v → W p l e R s m args below meth c n0 Q kc ks k n h pc' ls st) (no : ¬ u = v → W p l e R s m args below meth c n0 Q kc ks k n h (pc + 3) ls st) : W p l e R s m args below meth c n0 Q kc ks k n h pc ls (v :: u :: st) := by
  by_cases b : u = v
  · exact W.lift (fun T t H S => XT.acmpYes H C.1 rfl (pc0 := pc) (pc' := pc') rfl (C.a d) rfl hu hv (XT.aa_eq_t b) (jmp hp).1 (jmp hp).2 S) (yes b)
  · exact W.lift (fun T t H S => XT.acmpNo H C.1 rfl (C.a d) rfl hu hv (XT.aa_eq_f b) S) (no b)
theorem W.acmp_ne (C : Cx p s m meth c Z y bytes ml ret) {u v : Value} {o : Int} (pc' : Nat) (d : decode bytes pc = .ok (.if_acmp .ne o, 3)) (hu : u.isRef = true) (hv : v.isRef = true) (hp : (pc : Int) + o = pc') (yes : ¬ u = v → W p l e R s m args below meth c n0 Q kc ks k n h pc' ls st) (no : u = v → W p l e R s m args below meth c n0 Q kc ks k n h (pc + 3) ls st) : W p l e R s m args below meth c n0 Q kc ks k n h pc ls (v :: u :: st) := by
  by_cases b : u = v
  · exact W.lift (fun T t H S => XT.acmpNo H C.1 rfl (C.a d) rfl hu hv (XT.aa_ne_f b) S) (no b)
  · exact W.lift (fun T t H S => XT.acmpYes H C.1 rfl (pc0 := pc) (pc' := pc') rfl (C.a d) rfl hu hv (XT.aa_ne_t b) (jmp hp).1 (jmp hp).2 S) (yes b)
theorem W.ldcI (C : Cx p s m meth c Z y bytes ml ret) {i : Nat} {v : Int32} (d : decode bytes pc = .ok (.ldc i, 2)) (w : (Jvm.Cond.constant y.cls i v).before a0 Z = true) (K : W p l e R s m args below meth c n0 Q kc ks k n h (pc + 2) ls (.int v :: st)) : W p l e R s m args below meth c n0 Q kc ks k n h pc ls st := fun T locs X eT N => by
  obtain ⟨s₂, o, h1, h2⟩ := K T locs X eT N
  exact ⟨s₂, o, X.ldcI C.1 C.2.2.1 (mvT C.2.1 w) rfl (C.a d) h1, h2⟩
theorem W.ldcWI (C : Cx p s m meth c Z y bytes ml ret) {i : Nat} {v : Int32} (d : decode bytes pc = .ok (.ldc_w i, 3)) (w : (Jvm.Cond.constant y.cls i v).before a0 Z = true) (K : W p l e R s m args below meth c n0 Q kc ks k n h (pc + 3) ls (.int v :: st)) : W p l e R s m args below meth c n0 Q kc ks k n h pc ls st := fun T locs X eT N => by
  obtain ⟨s₂, o, h1, h2⟩ := K T locs X eT N
  exact ⟨s₂, o, X.ldcWI C.1 C.2.2.1 (mvT C.2.1 w) rfl (C.a d) h1, h2⟩
theorem W.ldc2J (C : Cx p s m meth c Z y bytes ml ret) {i : Nat} {v : Int64} (d : decode bytes pc = .ok (.ldc2_w i, 3)) (w : (Jvm.Cond.constantLong y.cls i v).before a0 Z = true) (K : W p l e R s m args below meth c n0 Q kc ks k n h (pc + 3) ls (.long v :: st)) : W p l e R s m args below meth c n0 Q kc ks k n h pc ls st := fun T locs X eT N => by
  obtain ⟨s₂, o, h1, h2⟩ := K T locs X eT N
  exact ⟨s₂, o, X.ldc2J C.1 C.2.2.1 (mvT C.2.1 w) rfl (C.a d) h1, h2⟩
theorem W.iret {t : FieldType} {z : Int32} (C : Cx p s m meth c Z y bytes ml (some t)) (d : decode bytes pc = .ok (.ireturn, 1)) (ht : t = .int ∨ t = .boolean ∨ t = .byte ∨ t = .char ∨ t = .short) (hn : narrow t (.int z) = .int z) (hk : k ≤ kc) (hs : n ≤ ks) (q : Q (some (.int z)) h) : W p l e R s m args below meth c n0 Q kc ks k n h pc ls (.int z :: st) := fun T locs X eT N => by
  obtain ⟨fs, hr, hrun, hended, hW, hsame⟩ := X.leave (v := some (.int z)) (fun q => by rw [C.2.2.2.2.2.1] at q; cases q) C.2.2.2.2.2.2.1
  exact ⟨_, _, retOut X C.1 C.2.2.2.2.2.1 hn (Or.inl ⟨rfl, ht, z, rfl⟩) (C.a d) hr, hrun, hended, _, _, rfl, ⟨by subst eT; exact q, N⟩, ⟨_, rfl⟩, hW, hsame.mono hk hs⟩
theorem W.lret {t : FieldType} {z : Int64} (C : Cx p s m meth c Z y bytes ml (some t)) (d : decode bytes pc = .ok (.lreturn, 1)) (ht : t = .long) (hn : narrow t (.long z) = .long z) (hk : k ≤ kc) (hs : n ≤ ks) (q : Q (some (.long z)) h) : W p l e R s m args below meth c n0 Q kc ks k n h pc ls (.long z :: st) := fun T locs X eT N => by
  obtain ⟨fs, hr, hrun, hended, hW, hsame⟩ := X.leave (v := some (.long z)) (fun q => by rw [C.2.2.2.2.2.1] at q; cases q) C.2.2.2.2.2.2.1
  exact ⟨_, _, retOut X C.1 C.2.2.2.2.2.1 hn (Or.inr (Or.inl ⟨rfl, ht, z, rfl⟩)) (C.a d) hr, hrun, hended, _, _, rfl, ⟨by subst eT; exact q, N⟩, ⟨_, rfl⟩, hW, hsame.mono hk hs⟩
theorem W.aret {t : FieldType} {z : Value} (C : Cx p s m meth c Z y bytes ml (some t)) (d : decode bytes pc = .ok (.areturn, 1)) (ht : t.isReference = true) (hz : z.isRef = true) (hn : narrow t (z) = z) (hk : k ≤ kc) (hs : n ≤ ks) (q : Q (some (z)) h) : W p l e R s m args below meth c n0 Q kc ks k n h pc ls (z :: st) := fun T locs X eT N => by
  obtain ⟨fs, hr, hrun, hended, hW, hsame⟩ := X.leave (v := some (z)) (fun q => by rw [C.2.2.2.2.2.1] at q; cases q) C.2.2.2.2.2.2.1
  exact ⟨_, _, retOut X C.1 C.2.2.2.2.2.1 hn (Or.inr (Or.inr (Or.inr (Or.inr ⟨rfl, ht, hz⟩)))) (C.a d) hr, hrun, hended, _, _, rfl, ⟨by subst eT; exact q, N⟩, ⟨_, rfl⟩, hW, hsame.mono hk hs⟩
theorem W.retV (C : Cx p s m meth c Z y bytes ml none) (d : decode bytes pc = .ok (.return_, 1)) (hk : k ≤ kc) (hs : n ≤ ks) (q : Q none h) : W p l e R s m args below meth c n0 Q kc ks k n h pc ls [] := fun T locs X eT N => by
  obtain ⟨fs, hr, hrun, hended, hW, hsame⟩ := X.leave (v := none) (fun _ => rfl) C.2.2.2.2.2.2.1
  exact ⟨_, _, X.returnOut C.1 C.2.2.2.2.2.1 (C.a d) hr, hrun, hended, _, _, rfl, ⟨by subst eT; exact q, N⟩, ⟨_, rfl⟩, hW, hsame.mono hk hs⟩
theorem W.callS (C : Cx p s m meth c Z y bytes ml ret) {y' : MethodName} {index : Nat} {bytes' : ByteArray} {ml' : Nat} {ret' : Option FieldType} {rm : Room} {Q' : Option Value → Heap → Prop} (d : decode bytes pc = .ok (.invokestatic index, 3)) (w1 : (Jvm.Cond.methodLink y.cls index y').before a0 Z = true) (w2 : (Jvm.Cond.static y').before a0 Z = true) (w3 : (Jvm.Cond.initialized y'.cls).before a0 Z = true) (w4 : (Jvm.Cond.code y' bytes' ml' ret').before a0 Z = true) (hy : y'.cls ≠ "java/lang/invoke/MethodHandle" ∧ y'.cls ≠ "java/lang/invoke/VarHandle")
    {argsL rest : List Value} (hst : st = argsL.reverse ++ rest) (hlen : ∀ sig, parseMethodDescriptor y'.desc = some sig → argsL.length = sig.parameters.length) (D : Con l Z y' bytes' ml' ret' rm argsL.toArray h n0 Q') (w k' n' : Nat) (hW : (rest.map fun v => v.category).sum = w) (hk : k + rm.cells = k') (hn : n + rm.slots = n') (hf : rm.frames + 1 ≤ R.frames) (hl : w + (ml' + 11) + rm.locals ≤ R.locals) (hc : k' ≤ R.cells) (hs : n' ≤ R.slots) (hsz : ls.size = ml)
    (K : ∀ v h', Q' v h' → W p l e R s m args below meth c n0 Q kc ks k' n' h' (pc + 3) ls (v.toList ++ rest)) : W p l e R s m args below meth c n0 Q kc ks k n h pc ls st := fun T locs X eT N => by
  obtain ⟨_, _, ⟨T1, L1, k1, n1⟩, -, X1, ⟨Lc1, hQ1, l1, y1, z1⟩, st1⟩ := Jvm.LawKit.callS X C.1 (y := y') C.2.2.1 (mvT C.2.1 w1) (mvT C.2.1 w2) (mvT C.2.1 w3) (mvT C.2.1 w4) hy (backOf (W := w) (Q := fun v h' L => Q' v h' ∧ Fr n0 L) (D []) C.2.1 w4 w3 hf hl) (g := mkF m pc ls st) rfl (hsz.trans C.2.2.2.2.1.symm) (argsL := argsL) (rest := rest) hlen hst (by show 2 * 0 + _ ≤ _; omega) (C.a d) (fun _ _ => ⟨rfl, eT, by rw [hk]; exact hc, by rw [hn]; exact hs⟩)
  dsimp only [Pt.U, Pt.locs, Pt.cells, Pt.slots] at X1 l1 y1 z1 st1 hQ1
  subst l1
  rw [hk] at y1
  rw [hn] at z1
  subst y1 z1
  obtain ⟨s₂, o, g1, g2⟩ := K _ _ hQ1.1 T1 _ X1 rfl (Fr.app N hQ1.2)
  exact ⟨s₂, o, st1 _ g1, g2⟩
theorem W.callI (C : Cx p s m meth c Z y bytes ml ret) {y' : MethodName} {index : Nat} {bytes' : ByteArray} {ml' : Nat} {rm : Room} {Q' : Option Value → Heap → Prop} (d : decode bytes pc = .ok (.invokespecial index, 3)) (hi : y'.name = "<init>") (w1 : (Jvm.Cond.methodLink y.cls index y').before a0 Z = true) (w2 : (Jvm.Cond.instanceMethod y').before a0 Z = true) (w3 : (Jvm.Cond.initialized y'.cls).before a0 Z = true) (w4 : (Jvm.Cond.code y' bytes' ml' none).before a0 Z = true) (hy : y'.cls ≠ "java/lang/invoke/MethodHandle" ∧ y'.cls ≠ "java/lang/invoke/VarHandle")
    {a : Addr} {argsL rest : List Value} (hst : st = argsL.reverse ++ .ref a :: rest) (hlen : ∀ sig, parseMethodDescriptor y'.desc = some sig → argsL.length = sig.parameters.length) (D : Con l Z y' bytes' ml' none rm (.ref a :: argsL).toArray h n0 Q') (w k' n' : Nat) (hW : (rest.map fun v => v.category).sum = w) (hk : k + rm.cells = k') (hn : n + rm.slots = n') (hf : rm.frames + 1 ≤ R.frames) (hl : w + (ml' + 11) + rm.locals ≤ R.locals) (hc : k' ≤ R.cells) (hs : n' ≤ R.slots) (hsz : ls.size = ml)
    (K : ∀ v h', Q' v h' → W p l e R s m args below meth c n0 Q kc ks k' n' h' (pc + 3) ls (v.toList ++ rest)) : W p l e R s m args below meth c n0 Q kc ks k n h pc ls st := fun T locs X eT N => by
  obtain ⟨_, _, ⟨T1, L1, k1, n1⟩, -, X1, ⟨Lc1, hQ1, l1, y1, z1⟩, st1⟩ := X.specialBack C.1 (y := y') hi C.2.2.1 (mvT C.2.1 w1) (mvT C.2.1 w2) (mvT C.2.1 w4) hy (backOf (W := w) (Q := fun v h' L => Q' v h' ∧ Fr n0 L) (D []) C.2.1 w4 w3 hf hl) (g := mkF m pc ls st) rfl (hsz.trans C.2.2.2.2.1.symm) (Steps.refl _) (a := a) (argsL := argsL) (rest := rest) hlen hst (by show 2 * 0 + _ ≤ _; omega) (C.a d) (fun _ _ => ⟨rfl, eT, by rw [hk]; exact hc, by rw [hn]; exact hs⟩)
  dsimp only [Pt.U, Pt.locs, Pt.cells, Pt.slots] at X1 l1 y1 z1 st1 hQ1
  subst l1
  rw [hk] at y1
  rw [hn] at z1
  subst y1 z1
  obtain ⟨s₂, o, g1, g2⟩ := K _ _ hQ1.1 T1 _ X1 rfl (Fr.app N hQ1.2)
  exact ⟨s₂, o, st1.trans g1, g2⟩
theorem W.callV (C : Cx p s m meth c Z y bytes ml ret) {y' : MethodName} {K0 : String} {index : Nat} {bytes' : ByteArray} {ml' : Nat} {ret' : Option FieldType} {rm : Room} {Q' : Option Value → Heap → Prop} (d : decode bytes pc = .ok (.invokevirtual index, 3)) (w1 : (Jvm.Cond.methodLink y.cls index y').before a0 Z = true) (w2 : (Jvm.Cond.declares y').before a0 Z = true) (w5 : (Jvm.Cond.selects K0 y' y').before a0 Z = true) (w6 : (Jvm.Cond.instanceMethod y').before a0 Z = true) (w3 : (Jvm.Cond.initialized y'.cls).before a0 Z = true) (w4 : (Jvm.Cond.code y' bytes' ml' ret').before a0 Z = true) (hy : y'.cls ≠ "java/lang/invoke/MethodHandle" ∧ y'.cls ≠ "java/lang/invoke/VarHandle")
    {a : Addr} (E : Exa Z h a K0) {argsL rest : List Value} (hst : st = argsL.reverse ++ .ref a :: rest) (hlen : ∀ sig, parseMethodDescriptor y'.desc = some sig → argsL.length = sig.parameters.length) (D : Con l Z y' bytes' ml' ret' rm (.ref a :: argsL).toArray h n0 Q') (w k' n' : Nat) (hW : (rest.map fun v => v.category).sum = w) (hk : k + rm.cells = k') (hn : n + rm.slots = n') (hf : rm.frames + 1 ≤ R.frames) (hl : w + (ml' + 11) + rm.locals ≤ R.locals) (hc : k' ≤ R.cells) (hs : n' ≤ R.slots) (hsz : ls.size = ml)
    (K : ∀ v h', Q' v h' → W p l e R s m args below meth c n0 Q kc ks k' n' h' (pc + 3) ls (v.toList ++ rest)) : W p l e R s m args below meth c n0 Q kc ks k n h pc ls st := fun T locs X eT N => by
  obtain ⟨cq, kq, qa, qb, qc⟩ := isOf C.2.1 eT E
  obtain ⟨_, _, ⟨T1, L1, k1, n1⟩, -, X1, ⟨Lc1, hQ1, l1, y1, z1⟩, st1⟩ := X.virtualBack C.1 (y := y') (z := y') C.2.2.1 (mvT C.2.1 w1) (mvT C.2.1 w2) (notFace_of_selects (args := #[]) (mvT C.2.1 w5)) (mvT C.2.1 w5) (mvT C.2.1 w6) hy (backOf (W := w) (Q := fun v h' L => Q' v h' ∧ Fr n0 L) (D []) C.2.1 w4 w3 hf hl) qa qc (g := mkF m pc ls st) rfl (hsz.trans C.2.2.2.2.1.symm) (Steps.refl _) (argsL := argsL) (rest := rest) hlen hst (by show 2 * 0 + _ ≤ _; omega) (C.a d) (fun _ _ => ⟨rfl, eT, by rw [hk]; exact hc, by rw [hn]; exact hs⟩)
  dsimp only [Pt.U, Pt.locs, Pt.cells, Pt.slots] at X1 l1 y1 z1 st1 hQ1
  subst l1
  rw [hk] at y1
  rw [hn] at z1
  subst y1 z1
  obtain ⟨s₂, o, g1, g2⟩ := K _ _ hQ1.1 T1 _ X1 rfl (Fr.app N hQ1.2)
  exact ⟨s₂, o, st1.trans g1, g2⟩
theorem W.initO (C : Cx p s m meth c Z y bytes ml ret) {index : Nat} (d : decode bytes pc = .ok (.invokespecial index, 3)) (w1 : (Jvm.Cond.methodLink y.cls index Lib.objectInit).before a0 Z = true) (w2 : (Jvm.Cond.instanceMethod Lib.objectInit).before a0 Z = true) (w3 : (Jvm.Cond.code Lib.objectInit ⟨#[0xb1]⟩ 1 none).before a0 Z = true)
    {a : Addr} (w : Nat) (hW : (st.map fun v => v.category).sum = w) (hf : 1 ≤ R.frames) (hl : w + 12 ≤ R.locals) (hsz : ls.size = ml) (K : W p l e R s m args below meth c n0 Q kc ks k n h (pc + 3) ls st) : W p l e R s m args below meth c n0 Q kc ks k n h pc ls (.ref a :: st) := fun T locs X eT N => by
  obtain ⟨T1, X1, e1, st1⟩ := Jvm.RoadKit.initO X C.1 C.2.1 C.2.2.1 w1 w2 w3 eT (g := mkF m pc ls (.ref a :: st)) rfl (hsz.trans C.2.2.2.2.1.symm) rfl (C.a d) hf (W := w) (by show 2 * 0 + _ ≤ _; omega) hl
  obtain ⟨s₂, o, g1, g2⟩ := K T1 _ X1 e1 N
  exact ⟨s₂, o, st1 _ g1, g2⟩
theorem W.new (C : Cx p s m meth c Z y bytes ml ret) {index sz : Nat} {K0 : String} (d : decode bytes pc = .ok (.new index, 3)) (w1 : (Jvm.Cond.classLink y.cls index K0).before a0 Z = true) (w2 : (Jvm.Cond.instantiable K0 sz).before a0 Z = true) (w3 : (Jvm.Cond.initialized K0).before a0 Z = true) (k' n' : Nat) (hk : k + 1 = k') (hn : n + sz = n') (hc : k' ≤ R.cells) (hs : n' ≤ R.slots)
    (K : ∀ a h', a = h.size → Ext h h' → Exa Z h' a K0 → (∀ {O nm d : String} {ty : FieldType}, Laid Z a0 K0 O nm d → parseFieldDescriptor d = some ty → Fld Z h' a O nm d (defaultValue ty)) → W p l e R s m args below meth c n0 Q kc ks k' n' h' (pc + 3) ls (.ref a :: st)) : W p l e R s m args below meth c n0 Q kc ks k n h pc ls st := fun T locs X eT N => by
  subst hk hn
  obtain ⟨T1, h1, X1, e1, E1, A1, D1, -, st1⟩ := newO X C.1 C.2.1 C.2.2.1 w1 w2 w3 eT (g := mkF m pc ls st) rfl (C.a d) hc hs
  obtain ⟨s₂, o, g1, g2⟩ := K _ h1 rfl E1 A1 D1 T1 _ X1 e1 N
  exact ⟨s₂, o, st1 _ g1, g2⟩
theorem W.getF (C : Cx p s m meth c Z y bytes ml ret) {index : Nat} {R0 O nm dd : String} (d : decode bytes pc = .ok (.getfield index, 3)) (w : (Jvm.Cond.fieldLink y.cls index R0 nm dd).before a0 Z = true) (via : Via Z R0 O nm dd) {a : Addr} {v : Value} (F : Fld Z h a O nm dd v) (K : W p l e R s m args below meth c n0 Q kc ks k n h (pc + 3) ls (v :: st)) : W p l e R s m args below meth c n0 Q kc ks k n h pc ls (.ref a :: st) := fun T locs X eT N => by
  obtain ⟨T1, X1, e1, st1⟩ := Jvm.RoadKit.getF X C.1 C.2.1 C.2.2.1 (host := "") (Or.inl w) via eT F (g := mkF m pc ls (.ref a :: st)) rfl rfl (C.a d)
  obtain ⟨s₂, o, g1, g2⟩ := K T1 _ X1 e1 N
  exact ⟨s₂, o, st1 _ g1, g2⟩
theorem W.getFN (C : Cx p s m meth c Z y bytes ml ret) {index : Nat} {R0 O nm dd host : String} (d : decode bytes pc = .ok (.getfield index, 3)) (w : (Jvm.Cond.fieldLinkNest y.cls index R0 nm dd host).before a0 Z = true) (via : Via Z R0 O nm dd) {a : Addr} {v : Value} (F : Fld Z h a O nm dd v) (K : W p l e R s m args below meth c n0 Q kc ks k n h (pc + 3) ls (v :: st)) : W p l e R s m args below meth c n0 Q kc ks k n h pc ls (.ref a :: st) := fun T locs X eT N => by
  obtain ⟨T1, X1, e1, st1⟩ := Jvm.RoadKit.getF X C.1 C.2.1 C.2.2.1 (host := host) (Or.inr w) via eT F (g := mkF m pc ls (.ref a :: st)) rfl rfl (C.a d)
  obtain ⟨s₂, o, g1, g2⟩ := K T1 _ X1 e1 N
  exact ⟨s₂, o, st1 _ g1, g2⟩
theorem W.getS (C : Cx p s m meth c Z y bytes ml ret) {index : Nat} {R0 O nm dd : String} (d : decode bytes pc = .ok (.getstatic index, 3)) (w : (Jvm.Cond.fieldLink y.cls index R0 nm dd).before a0 Z = true) (via : Via Z R0 O nm dd) {v : Value} (F : Sta Z h O nm dd v) (K : W p l e R s m args below meth c n0 Q kc ks k n h (pc + 3) ls (v :: st)) : W p l e R s m args below meth c n0 Q kc ks k n h pc ls st := fun T locs X eT N => by
  obtain ⟨T1, X1, e1, st1⟩ := Jvm.RoadKit.getS X C.1 C.2.1 (host := "") C.2.2.1 w via eT F (g := mkF m pc ls st) rfl (C.a d)
  obtain ⟨s₂, o, g1, g2⟩ := K T1 _ X1 e1 N
  exact ⟨s₂, o, st1 _ g1, g2⟩
theorem W.putF (C : Cx p s m meth c Z y bytes ml ret) {index kk : Nat} {R0 O nm dd K0 : String} {ty : FieldType} (d : decode bytes pc = .ok (.putfield index, 3)) (w : (Jvm.Cond.fieldLink y.cls index R0 nm dd).before a0 Z = true) (via : Via Z R0 O nm dd) {a : Addr} {v old : Value} (F : Fld Z h a O nm dd old) (E : Exa Z h a K0) (L : (Jvm.Cond.lays K0 O nm dd).before a0 Z = true ∨ ((Jvm.Cond.laysFinal K0 O nm dd).before a0 Z = true ∧ y.cls = O ∧ y.name = "<init>")) (wi : (Jvm.Cond.instantiable K0 kk).before a0 Z = true)
    (hty : parseFieldDescriptor dd = some ty) (hn : narrow ty v = v) (hf : fits ty v = true) (g : n0 ≤ a) (K : ∀ h', Wr h h' a (Jvm.RoadKit.slotOf Z O nm dd) v → W p l e R s m args below meth c n0 Q kc ks k n h' (pc + 3) ls st) : W p l e R s m args below meth c n0 Q kc ks k n h pc ls (v :: .ref a :: st) := fun T locs X eT N => by
  obtain ⟨T1, h1, X1, e1, W1, st1⟩ := Jvm.RoadKit.putF X C.1 C.2.1 C.2.2.1 (host := "") (Or.inl w) via eT F E (L.imp id fun q => ⟨q.1, q.2.1, C.2.2.2.2.2.2.2.trans q.2.2⟩) wi hty hn hf (g := mkF m pc ls (v :: .ref a :: st)) rfl rfl (C.a d)
  obtain ⟨s₂, o, g1, g2⟩ := K h1 W1 T1 _ X1 e1 (Fr.snoc X1 N g)
  exact ⟨s₂, o, st1 _ g1, g2⟩
/-- an array at a of component type ty that holds vs -/
def Al (Z : State) (h : Heap) (a : Addr) (ty : FieldType) (vs : List Value) : Prop := ∃ c : Cell, Arr Z h a c ty ∧ c.slots = vs.toArray
theorem Al.lt {a : Addr} {ty : FieldType} {vs : List Value} (F : Al Z h a ty vs) : a < h.size := by obtain ⟨c, A, -⟩ := F; exact A.lt
theorem Al.ext {a : Addr} {ty : FieldType} {vs : List Value} {h' : Heap} (F : Al Z h a ty vs) (E : Ext h h') : Al Z h' a ty vs := by obtain ⟨c, A, r⟩ := F; exact ⟨c, A.ext E, r⟩
theorem Al.other {a b : Addr} {ty : FieldType} {vs : List Value} {h' : Heap} {sl : Nat} {v : Value} (F : Al Z h b ty vs) (U : Wr h h' a sl v) (q : b ≠ a) : Al Z h' b ty vs := by obtain ⟨c, A, r⟩ := F; exact ⟨c, A.other U q, r⟩
theorem Al.keep {a : Addr} {ty : FieldType} {vs : List Value} {h' : Heap} {ws : List Addr} (F : Al Z h a ty vs) (K : Keep h h' ws) (q : a ∉ ws) : Al Z h' a ty vs := by obtain ⟨c, A, r⟩ := F; exact ⟨c, ⟨K.2.1 a c A.1 q, A.2⟩, r⟩
theorem Al.set {a : Addr} {ty : FieldType} {vs : List Value} {h' : Heap} {i : Nat} {v : Value} (F : Al Z h a ty vs) (U : Wr h h' a i v) : Al Z h' a ty (vs.set i v) := by
  obtain ⟨c, A, r⟩ := F
  refine ⟨_, A.same U, ?_⟩
  simp [Cell.setSlot, r]
theorem idx_of {j : Int32} {i : Nat} (hi : j.toInt = (i : Int)) : ¬ j < 0 ∧ j.toNatClampNeg = i := by
  refine ⟨fun q => ?_, ?_⟩
  · rw [Int32.lt_iff_toInt_lt] at q
    have : (0 : Int32).toInt = 0 := rfl
    omega
  · show j.toInt.toNat = i
    omega
theorem inb_of_idx {j : Int32} {i : Nat} {cl : Cell} {vs : List Value} (hi : j.toInt = (i : Int)) (r : cl.slots = vs.toArray) (hb : i < vs.length) : ¬ (j < 0 ∨ cl.slots.size ≤ j.toNatClampNeg) := by
  obtain ⟨q1, q2⟩ := idx_of hi
  rw [q2, r]
  simp only [List.size_toArray]
  rintro (z | z)
  · exact q1 z
  · omega
theorem W.arrlen (C : Cx p s m meth c Z y bytes ml ret) {a : Addr} {ty : FieldType} {vs : List Value} (z : Int32) (d : decode bytes pc = .ok (.arraylength, 1)) (A : Al Z h a ty vs) (hz : vs.length.toInt32 = z) (K : W p l e R s m args below meth c n0 Q kc ks k n h (pc + 1) ls (.int z :: st)) : W p l e R s m args below meth c n0 Q kc ks k n h pc ls (.ref a :: st) := fun T locs X eT N => by
  obtain ⟨cl, A, r⟩ := A
  obtain ⟨s₂, o, g1, g2⟩ := K T locs X eT N
  refine ⟨s₂, o, X.arraylength C.1 (by rw [eT]; exact A.1) (State.isArrayOf_alike C.2.1.alike A.2.1) (g := mkF m pc ls (.ref a :: st)) rfl rfl (C.a d) _ ?_, g2⟩
  have : cl.slots.size.toInt32 = z := by rw [r]; simpa using hz
  rw [this]; exact g1
theorem W.iaload (C : Cx p s m meth c Z y bytes ml ret) {a : Addr} {vs : List Value} {j : Int32} (i : Nat) {v : Value} (d : decode bytes pc = .ok (.iaload, 1)) (A : Al Z h a .int vs) (hi : j.toInt = (i : Int)) (hv : vs[i]? = some v) (K : W p l e R s m args below meth c n0 Q kc ks k n h (pc + 1) ls (v :: st)) : W p l e R s m args below meth c n0 Q kc ks k n h pc ls (.int j :: .ref a :: st) := fun T locs X eT N => by
  obtain ⟨cl, A, r⟩ := A
  obtain ⟨s₂, o, g1, g2⟩ := K T locs X eT N
  have hb : i < vs.length := (List.getElem?_eq_some_iff.mp hv).1
  exact ⟨s₂, o, X.iaload C.1 (j := j) (v := v) (by rw [eT]; exact A.1) (State.isArrayOf_alike C.2.1.alike A.2.1) A.2.2 (inb_of_idx hi r hb) (by rw [(idx_of hi).2, r]; simpa using hv) (g := mkF m pc ls (.int j :: .ref a :: st)) rfl rfl (C.a d) _ g1, g2⟩
theorem W.laload (C : Cx p s m meth c Z y bytes ml ret) {a : Addr} {vs : List Value} {j : Int32} (i : Nat) {v : Value} (d : decode bytes pc = .ok (.laload, 1)) (A : Al Z h a .long vs) (hi : j.toInt = (i : Int)) (hv : vs[i]? = some v) (K : W p l e R s m args below meth c n0 Q kc ks k n h (pc + 1) ls (v :: st)) : W p l e R s m args below meth c n0 Q kc ks k n h pc ls (.int j :: .ref a :: st) := fun T locs X eT N => by
  obtain ⟨cl, A, r⟩ := A
  obtain ⟨s₂, o, g1, g2⟩ := K T locs X eT N
  have hb : i < vs.length := (List.getElem?_eq_some_iff.mp hv).1
  exact ⟨s₂, o, X.laload C.1 (j := j) (v := v) (by rw [eT]; exact A.1) (State.isArrayOf_alike C.2.1.alike A.2.1) A.2.2 (inb_of_idx hi r hb) (by rw [(idx_of hi).2, r]; simpa using hv) (g := mkF m pc ls (.int j :: .ref a :: st)) rfl rfl (C.a d) _ g1, g2⟩
theorem W.baload (C : Cx p s m meth c Z y bytes ml ret) {a : Addr} {vs : List Value} {j : Int32} (i : Nat) {v : Value} (d : decode bytes pc = .ok (.baload, 1)) (A : Al Z h a .byte vs) (hi : j.toInt = (i : Int)) (hv : vs[i]? = some v) (K : W p l e R s m args below meth c n0 Q kc ks k n h (pc + 1) ls (v :: st)) : W p l e R s m args below meth c n0 Q kc ks k n h pc ls (.int j :: .ref a :: st) := fun T locs X eT N => by
  obtain ⟨cl, A, r⟩ := A
  obtain ⟨s₂, o, g1, g2⟩ := K T locs X eT N
  have hb : i < vs.length := (List.getElem?_eq_some_iff.mp hv).1
  exact ⟨s₂, o, X.baloadBytes C.1 (j := j) (v := v) (by rw [eT]; exact A.1) (State.isArrayOf_alike C.2.1.alike A.2.1) A.2.2 (inb_of_idx hi r hb) (by rw [(idx_of hi).2, r]; simpa using hv) (g := mkF m pc ls (.int j :: .ref a :: st)) rfl rfl (C.a d) _ g1, g2⟩
theorem W.caload (C : Cx p s m meth c Z y bytes ml ret) {a : Addr} {vs : List Value} {j : Int32} (i : Nat) {v : Value} (d : decode bytes pc = .ok (.caload, 1)) (A : Al Z h a .char vs) (hi : j.toInt = (i : Int)) (hv : vs[i]? = some v) (K : W p l e R s m args below meth c n0 Q kc ks k n h (pc + 1) ls (v :: st)) : W p l e R s m args below meth c n0 Q kc ks k n h pc ls (.int j :: .ref a :: st) := fun T locs X eT N => by
  obtain ⟨cl, A, r⟩ := A
  obtain ⟨s₂, o, g1, g2⟩ := K T locs X eT N
  have hb : i < vs.length := (List.getElem?_eq_some_iff.mp hv).1
  exact ⟨s₂, o, X.caload C.1 (j := j) (v := v) (by rw [eT]; exact A.1) (State.isArrayOf_alike C.2.1.alike A.2.1) A.2.2 (inb_of_idx hi r hb) (by rw [(idx_of hi).2, r]; simpa using hv) (g := mkF m pc ls (.int j :: .ref a :: st)) rfl rfl (C.a d) _ g1, g2⟩
theorem W.zaload (C : Cx p s m meth c Z y bytes ml ret) {a : Addr} {vs : List Value} {j : Int32} (i : Nat) {v : Value} (d : decode bytes pc = .ok (.baload, 1)) (A : Al Z h a .boolean vs) (hi : j.toInt = (i : Int)) (hv : vs[i]? = some v) (K : W p l e R s m args below meth c n0 Q kc ks k n h (pc + 1) ls (v :: st)) : W p l e R s m args below meth c n0 Q kc ks k n h pc ls (.int j :: .ref a :: st) := fun T locs X eT N => by
  obtain ⟨cl, A, r⟩ := A
  obtain ⟨s₂, o, g1, g2⟩ := K T locs X eT N
  have hb : i < vs.length := (List.getElem?_eq_some_iff.mp hv).1
  exact ⟨s₂, o, X.baloadBooleans C.1 (j := j) (v := v) (by rw [eT]; exact A.1) (State.isArrayOf_alike C.2.1.alike A.2.1) A.2.2 (inb_of_idx hi r hb) (by rw [(idx_of hi).2, r]; simpa using hv) (g := mkF m pc ls (.int j :: .ref a :: st)) rfl rfl (C.a d) _ g1, g2⟩
theorem W.aaload (C : Cx p s m meth c Z y bytes ml ret) {a : Addr} {ty : FieldType} {vs : List Value} {j : Int32} (i : Nat) {v : Value} (d : decode bytes pc = .ok (.aaload, 1)) (A : Al Z h a ty vs) (hty : ty.isReference = true) (hi : j.toInt = (i : Int)) (hv : vs[i]? = some v) (K : W p l e R s m args below meth c n0 Q kc ks k n h (pc + 1) ls (v :: st)) : W p l e R s m args below meth c n0 Q kc ks k n h pc ls (.int j :: .ref a :: st) := fun T locs X eT N => by
  obtain ⟨cl, A, r⟩ := A
  obtain ⟨s₂, o, g1, g2⟩ := K T locs X eT N
  have hb : i < vs.length := (List.getElem?_eq_some_iff.mp hv).1
  exact ⟨s₂, o, X.aaload C.1 (j := j) (v := v) (by rw [eT]; exact A.1) (State.isArrayOf_alike C.2.1.alike A.2.1) hty A.2.2 (inb_of_idx hi r hb) (by rw [(idx_of hi).2, r]; simpa using hv) (g := mkF m pc ls (.int j :: .ref a :: st)) rfl rfl (C.a d) _ g1, g2⟩
theorem W.iastore (C : Cx p s m meth c Z y bytes ml ret) {a : Addr} {vs : List Value} {j : Int32} {x : Int32} (i : Nat) (d : decode bytes pc = .ok (.iastore, 1)) (A : Al Z h a .int vs) (hi : j.toInt = (i : Int)) (hb : i < vs.length) (g : n0 ≤ a) (K : ∀ h', Wr h h' a i (.int x) → Al Z h' a .int (vs.set i (.int x)) → W p l e R s m args below meth c n0 Q kc ks k n h' (pc + 1) ls st) : W p l e R s m args below meth c n0 Q kc ks k n h pc ls (.int x :: .int j :: .ref a :: st) := fun T locs X eT N => by
  obtain ⟨cl, A, r⟩ := A
  obtain ⟨T1, h1, X1, e1, W1, st1⟩ := stI X C.1 C.2.1 eT A (j := j) (x := x) (inb_of_idx hi r hb) (g := mkF m pc ls (.int x :: .int j :: .ref a :: st)) rfl rfl (C.a d)
  have N1 := Fr.snoc X1 N g
  rw [(idx_of hi).2] at W1
  obtain ⟨s₂, o, g1, g2⟩ := K h1 W1 (Al.set ⟨cl, A, r⟩ W1) T1 _ X1 e1 N1
  exact ⟨s₂, o, st1 _ g1, g2⟩
theorem W.lastore (C : Cx p s m meth c Z y bytes ml ret) {a : Addr} {vs : List Value} {j : Int32} {x : Int64} (i : Nat) (d : decode bytes pc = .ok (.lastore, 1)) (A : Al Z h a .long vs) (hi : j.toInt = (i : Int)) (hb : i < vs.length) (g : n0 ≤ a) (K : ∀ h', Wr h h' a i (.long x) → Al Z h' a .long (vs.set i (.long x)) → W p l e R s m args below meth c n0 Q kc ks k n h' (pc + 1) ls st) : W p l e R s m args below meth c n0 Q kc ks k n h pc ls (.long x :: .int j :: .ref a :: st) := fun T locs X eT N => by
  obtain ⟨cl, A, r⟩ := A
  obtain ⟨T1, h1, X1, e1, W1, st1⟩ := stJ X C.1 C.2.1 eT A (j := j) (x := x) (inb_of_idx hi r hb) (g := mkF m pc ls (.long x :: .int j :: .ref a :: st)) rfl rfl (C.a d)
  have N1 := Fr.snoc X1 N g
  rw [(idx_of hi).2] at W1
  obtain ⟨s₂, o, g1, g2⟩ := K h1 W1 (Al.set ⟨cl, A, r⟩ W1) T1 _ X1 e1 N1
  exact ⟨s₂, o, st1 _ g1, g2⟩
theorem W.bastore (C : Cx p s m meth c Z y bytes ml ret) {a : Addr} {vs : List Value} {j : Int32} {x : Int32} (i : Nat) (d : decode bytes pc = .ok (.bastore, 1)) (A : Al Z h a .byte vs) (hi : j.toInt = (i : Int)) (hb : i < vs.length) (g : n0 ≤ a) (K : ∀ h', Wr h h' a i (.int x.toInt8.toInt32) → Al Z h' a .byte (vs.set i (.int x.toInt8.toInt32)) → W p l e R s m args below meth c n0 Q kc ks k n h' (pc + 1) ls st) : W p l e R s m args below meth c n0 Q kc ks k n h pc ls (.int x :: .int j :: .ref a :: st) := fun T locs X eT N => by
  obtain ⟨cl, A, r⟩ := A
  obtain ⟨T1, h1, X1, e1, W1, st1⟩ := stB X C.1 C.2.1 eT A (j := j) (x := x) (inb_of_idx hi r hb) (g := mkF m pc ls (.int x :: .int j :: .ref a :: st)) rfl rfl (C.a d)
  have N1 := Fr.snoc X1 N g
  rw [(idx_of hi).2] at W1
  obtain ⟨s₂, o, g1, g2⟩ := K h1 W1 (Al.set ⟨cl, A, r⟩ W1) T1 _ X1 e1 N1
  exact ⟨s₂, o, st1 _ g1, g2⟩
theorem W.castore (C : Cx p s m meth c Z y bytes ml ret) {a : Addr} {vs : List Value} {j : Int32} {x : Int32} (i : Nat) (d : decode bytes pc = .ok (.castore, 1)) (A : Al Z h a .char vs) (hi : j.toInt = (i : Int)) (hb : i < vs.length) (g : n0 ≤ a) (K : ∀ h', Wr h h' a i (.int x.toUInt32.toUInt16.toUInt32.toInt32) → Al Z h' a .char (vs.set i (.int x.toUInt32.toUInt16.toUInt32.toInt32)) → W p l e R s m args below meth c n0 Q kc ks k n h' (pc + 1) ls st) : W p l e R s m args below meth c n0 Q kc ks k n h pc ls (.int x :: .int j :: .ref a :: st) := fun T locs X eT N => by
  obtain ⟨cl, A, r⟩ := A
  obtain ⟨T1, h1, X1, e1, W1, st1⟩ := stC X C.1 C.2.1 eT A (j := j) (x := x) (inb_of_idx hi r hb) (g := mkF m pc ls (.int x :: .int j :: .ref a :: st)) rfl rfl (C.a d)
  have N1 := Fr.snoc X1 N g
  rw [(idx_of hi).2] at W1
  obtain ⟨s₂, o, g1, g2⟩ := K h1 W1 (Al.set ⟨cl, A, r⟩ W1) T1 _ X1 e1 N1
  exact ⟨s₂, o, st1 _ g1, g2⟩
theorem W.zastore (C : Cx p s m meth c Z y bytes ml ret) {a : Addr} {vs : List Value} {j : Int32} {x : Int32} (i : Nat) (d : decode bytes pc = .ok (.bastore, 1)) (A : Al Z h a .boolean vs) (hi : j.toInt = (i : Int)) (hb : i < vs.length) (g : n0 ≤ a) (K : ∀ h', Wr h h' a i (.int (x &&& 1)) → Al Z h' a .boolean (vs.set i (.int (x &&& 1))) → W p l e R s m args below meth c n0 Q kc ks k n h' (pc + 1) ls st) : W p l e R s m args below meth c n0 Q kc ks k n h pc ls (.int x :: .int j :: .ref a :: st) := fun T locs X eT N => by
  obtain ⟨cl, A, r⟩ := A
  obtain ⟨T1, h1, X1, e1, W1, st1⟩ := stZ X C.1 C.2.1 eT A (j := j) (x := x) (inb_of_idx hi r hb) (g := mkF m pc ls (.int x :: .int j :: .ref a :: st)) rfl rfl (C.a d)
  have N1 := Fr.snoc X1 N g
  rw [(idx_of hi).2] at W1
  obtain ⟨s₂, o, g1, g2⟩ := K h1 W1 (Al.set ⟨cl, A, r⟩ W1) T1 _ X1 e1 N1
  exact ⟨s₂, o, st1 _ g1, g2⟩
theorem i8_i8 (y : Int32) : y.toInt8.toInt32.toInt8.toInt32 = y.toInt8.toInt32 := by simp
theorem W.bastoreI (C : Cx p s m meth c Z y bytes ml ret) {a : Addr} {vs : List Value} {j : Int32} {x : Int32} (i : Nat) (d : decode bytes pc = .ok (.bastore, 1)) (A : Al Z h a .byte vs) (hi : j.toInt = (i : Int)) (hb : i < vs.length) (g : n0 ≤ a) (K : ∀ h', Wr h h' a i (.int x.toInt8.toInt32) → Al Z h' a .byte (vs.set i (.int x.toInt8.toInt32)) → W p l e R s m args below meth c n0 Q kc ks k n h' (pc + 1) ls st) : W p l e R s m args below meth c n0 Q kc ks k n h pc ls (.int x.toInt8.toInt32 :: .int j :: .ref a :: st) :=
  W.bastore C i d A hi hb g (by rw [i8_i8]; exact K)
theorem W.newP (C : Cx p s m meth c Z y bytes ml ret) {aty : ArrayType} {nn : Int32} (sz cap : Nat) (d : decode bytes pc = .ok (.newarray aty, 2)) (w : (Jvm.Cond.arrayClass (newarray.typeOf aty)).before a0 Z = true) (hn : nn.toInt = (sz : Int)) (hcap : sz ≤ cap) (hb : cap * 8 ≤ 536870912) (k' n' : Nat) (hk : k + 1 = k') (hn' : n + cap = n') (hc : k' ≤ R.cells) (hl : n' ≤ R.slots)
    (K : ∀ a h', a = h.size → Ext h h' → Al Z h' a (newarray.typeOf aty) (List.replicate sz (defaultValue (newarray.typeOf aty))) → W p l e R s m args below meth c n0 Q kc ks k' n' h' (pc + 2) ls (.ref a :: st)) : W p l e R s m args below meth c n0 Q kc ks k n h pc ls (.int nn :: st) := fun T locs X eT N => by
  subst hk hn'
  obtain ⟨T1, h1, cA, X1, e1, E1, A1, st1⟩ := Jvm.RoadKit.newP X C.1 C.2.1 w eT (g := mkF m pc ls (.int nn :: st)) rfl (C.a d) rfl (idx_of hn).1 (cap := cap) (by rw [(idx_of hn).2]; exact hcap) hb hc hl
  obtain ⟨s₂, o, g1, g2⟩ := K _ h1 rfl E1 ⟨_, A1, by simp [newA, (idx_of hn).2]⟩ T1 _ X1 e1 N
  exact ⟨s₂, o, st1 _ g1, g2⟩
theorem Al.arv {a : Addr} {ty : FieldType} {vs : List Value} {dv : Value} (F : Al Z h a ty vs) (hl : vs.length < 2147483648) (hf : ∀ v ∈ vs, fits ty v = true) : ∃ k, Arv Z h a k ty vs.length.toInt32 vs dv := by
  obtain ⟨c, A, r⟩ := F
  have hs : c.slots.size = vs.length := by rw [r]; simp
  have hz : (vs.length.toInt32).toInt = vs.length := len_toInt hl
  obtain ⟨q1, q2⟩ := idx_of hz
  refine ⟨c.cls, c, A, rfl, by rw [hs, q2], q1, fun i hi => ?_, fun i hi => ?_⟩
  · rw [hs] at hi
    rw [r]; simp [List.getD_eq_getElem?_getD, List.getElem?_eq_getElem hi]
  · rw [hs] at hi
    have : vs.getD i dv = vs[i] := by simp [List.getD_eq_getElem?_getD, List.getElem?_eq_getElem hi]
    rw [this]; exact hf _ (List.getElem_mem hi)
theorem Al.of_arv {a : Addr} {k : ClassId} {ty : FieldType} {z : Int32} {vs : List Value} {dv : Value} (F : Arv Z h a k ty z vs dv) (hl : z.toNatClampNeg = vs.length) : Al Z h a ty vs := by
  obtain ⟨c, A, -, r2, -, H, -⟩ := F
  refine ⟨c, A, ?_⟩
  have hs : c.slots.size = vs.length := r2.trans hl
  apply Array.ext_getElem?
  intro i
  by_cases hi : i < vs.length
  · rw [H i (by rw [hs]; exact hi)]; simp [List.getD_eq_getElem?_getD, List.getElem?_eq_getElem hi]
  · rw [Array.getElem?_eq_none (by rw [hs]; omega)]; simp; omega
theorem cut_map (va : List Value) (dv : Value) (i q : Nat) (h : i + q ≤ va.length) : (List.range q).map (fun t => va.getD (i + t) dv) = (va.drop i).take q := by
  apply List.ext_getElem?
  intro t
  by_cases ht : t < q
  · have h1 : i + t < va.length := by omega
    simp [List.getElem?_take, ht, List.getD_eq_getElem?_getD, List.getElem?_eq_getElem h1]
  · simp [List.getElem?_take, ht]
theorem W.arrcopy (C : Cx p s m meth c Z y bytes ml ret) {index : Nat} {a b : Addr} {ty : FieldType} {va vd : List Value} {sp dp nn : Int32} (i j q : Nat) (d : decode bytes pc = .ok (.invokestatic index, 3)) (w1 : (Jvm.Cond.methodLink y.cls index Jvm.Stand.acN).before a0 Z = true) (w2 : (Jvm.Cond.native Jvm.Stand.acN).before a0 Z = true) (w3 : (Jvm.Cond.static Jvm.Stand.acN).before a0 Z = true) (w4 : (Jvm.Cond.initialized "java/lang/System").before a0 Z = true)
    (A : Al Z h a ty va) (B : Al Z h b ty vd) (hty : refKind ty = false) (hfa : ∀ v ∈ va, fits ty v = true) (hfb : ∀ v ∈ vd, fits ty v = true) (hla : va.length < 2147483648) (hlb : vd.length < 2147483648) (hsp : sp.toInt = (i : Int)) (hdp : dp.toInt = (j : Int)) (hnn : nn.toInt = (q : Int)) (h4 : i + q ≤ va.length) (h5 : j + q ≤ vd.length) (ge : n0 ≤ b)
    (w : Nat) (hW : (st.map fun v => v.category).sum = w) (hf : 1 ≤ R.frames) (hlo : w + (nativeFrameWords "java/lang/System" "arraycopy" 5 + 11) ≤ R.locals) (hsz : ls.size = ml)
    (K : ∀ h', Keep h h' [b] → Al Z h' b ty (vd.take j ++ (va.drop i).take q ++ vd.drop (j + q)) → W p l e R s m args below meth c n0 Q kc ks k n h' (pc + 3) ls st) : W p l e R s m args below meth c n0 Q kc ks k n h pc ls (.int nn :: .int dp :: .ref b :: .int sp :: .ref a :: st) := fun T locs X eT N => by
  obtain ⟨ka, A⟩ := A.arv (dv := .null) hla hfa
  obtain ⟨kb, B⟩ := B.arv (dv := .null) hlb hfb
  obtain ⟨s1, s2⟩ := idx_of hsp
  obtain ⟨d1, d2⟩ := idx_of hdp
  obtain ⟨n1, n2⟩ := idx_of hnn
  have za := (idx_of (len_toInt hla)).2
  have zb := (idx_of (len_toInt hlb)).2
  obtain ⟨T1, h1, L1, X1, e1, N1, K1, B1, st1⟩ := cpA X C.1 C.2.1 C.2.2.1 w1 w2 w3 w4 eT A B (Or.inl ⟨rfl, hty⟩) s1 d1 n1 (by rw [s2, n2, za]; exact h4) (by rw [d2, n2, zb]; exact h5) rfl (by rw [d2, n2]; exact h5) N ge (g := mkF m pc ls (.int nn :: .int dp :: .ref b :: .int sp :: .ref a :: st)) rfl (hsz.trans C.2.2.2.2.1.symm) rfl (C.a d) hf (W := w) (by show 2 * 0 + _ ≤ _; omega) hlo
  rw [s2, d2, n2, cut_map va .null i q h4] at B1
  have B2 : Al Z h1 b ty (vd.take j ++ (va.drop i).take q ++ vd.drop (j + q)) := Al.of_arv B1 (by rw [zb]; simp; omega)
  obtain ⟨s₂, o, g1, g2⟩ := K h1 K1 B2 T1 _ X1 e1 N1
  exact ⟨s₂, o, st1 _ g1, g2⟩
theorem W.clone (C : Cx p s m meth c Z y bytes ml ret) {index : Nat} {ad : String} {a : Addr} {ty : FieldType} {vs : List Value} (cap : Nat) (d : decode bytes pc = .ok (.invokevirtual index, 3)) (w1 : (Jvm.Cond.methodLink y.cls index ⟨ad, "clone", "()Ljava/lang/Object;"⟩).before a0 Z = true) (w2 : (Jvm.Cond.sameMethod ad "java/lang/Object" "clone" "()Ljava/lang/Object;").before a0 Z = true) (w3 : (Jvm.Cond.native ⟨"java/lang/Object", "clone", "()Ljava/lang/Object;"⟩).before a0 Z = true)
    (w4 : (Jvm.Cond.instanceMethod ⟨"java/lang/Object", "clone", "()Ljava/lang/Object;"⟩).before a0 Z = true) (w5 : (Jvm.Cond.selects ad ⟨ad, "clone", "()Ljava/lang/Object;"⟩ ⟨"java/lang/Object", "clone", "()Ljava/lang/Object;"⟩).before a0 Z = true) (w6 : (Jvm.Cond.castable ad "java/lang/Cloneable").before a0 Z = true)
    (A : Al Z h a ty vs) (E : Exa Z h a ad) (hfa : ∀ v ∈ vs, fits ty v = true) (hla : vs.length < 2147483648) (w k' n' : Nat) (hW : (st.map fun v => v.category).sum = w) (hf : 1 ≤ R.frames) (hlo : w + 14 ≤ R.locals) (hcap : vs.length ≤ cap) (hk : k + 1 = k') (hn : n + cap = n') (hc : k' ≤ R.cells) (hs : n' ≤ R.slots) (hsz : ls.size = ml)
    (K : ∀ a' h', a' = h.size → Ext h h' → Al Z h' a' ty vs → Exa Z h' a' ad → W p l e R s m args below meth c n0 Q kc ks k' n' h' (pc + 3) ls (.ref a' :: st)) : W p l e R s m args below meth c n0 Q kc ks k n h pc ls (.ref a :: st) := fun T locs X eT N => by
  subst hk hn
  obtain ⟨ka, A⟩ := A.arv (dv := .null) hla hfa
  have za := (idx_of (len_toInt hla)).2
  obtain ⟨T1, h1, X1, e1, E1, B1, G1, st1⟩ := cloneH X C.1 C.2.1 C.2.2.1 w1 w2 w3 w4 w5 w6 eT A.arh E (g := mkF m pc ls (.ref a :: st)) rfl (hsz.trans C.2.2.2.2.1.symm) rfl (C.a d) hf (W := w) (cap := cap) (by show 2 * 0 + _ ≤ _; omega) hlo (by rw [za]; exact hcap) hc hs
  obtain ⟨s₂, o, g1, g2⟩ := K _ h1 rfl E1 (Al.of_arv (show Arv Z h1 h.size ka ty vs.length.toInt32 vs .null from B1) za) G1 T1 _ X1 e1 N
  exact ⟨s₂, o, st1 _ g1, g2⟩
theorem W.cast (C : Cx p s m meth c Z y bytes ml ret) {index : Nat} {K0 : String} {a : Addr} (d : decode bytes pc = .ok (.checkcast index, 3)) (w1 : (Jvm.Cond.classLink y.cls index K0).before a0 Z = true) (I : Ins Z h a K0 true) (K : W p l e R s m args below meth c n0 Q kc ks k n h (pc + 3) ls (.ref a :: st)) : W p l e R s m args below meth c n0 Q kc ks k n h pc ls (.ref a :: st) := fun T locs X eT N => by
  obtain ⟨T1, X1, e1, st1⟩ := castY X C.1 C.2.1 C.2.2.1 w1 eT I (g := mkF m pc ls (.ref a :: st)) rfl rfl (C.a d)
  obtain ⟨s₂, o, g1, g2⟩ := K T1 _ X1 e1 N
  exact ⟨s₂, o, st1 _ g1, g2⟩
/-- an array of references, of the class k0 -/
def Alr (Z : State) (h : Heap) (a : Addr) (k0 : ClassId) (ty : FieldType) (vs : List Value) : Prop := ∃ c : Cell, Arr Z h a c ty ∧ c.cls = k0 ∧ c.slots = vs.toArray
theorem Alr.al {a : Addr} {k0 : ClassId} {ty : FieldType} {vs : List Value} (F : Alr Z h a k0 ty vs) : Al Z h a ty vs := by obtain ⟨c, A, -, r⟩ := F; exact ⟨c, A, r⟩
theorem Alr.lt {a : Addr} {k0 : ClassId} {ty : FieldType} {vs : List Value} (F : Alr Z h a k0 ty vs) : a < h.size := F.al.lt
theorem Alr.ext {a : Addr} {k0 : ClassId} {ty : FieldType} {vs : List Value} {h' : Heap} (F : Alr Z h a k0 ty vs) (E : Ext h h') : Alr Z h' a k0 ty vs := by obtain ⟨c, A, r⟩ := F; exact ⟨c, A.ext E, r⟩
theorem Alr.other {a b : Addr} {k0 : ClassId} {ty : FieldType} {vs : List Value} {h' : Heap} {sl : Nat} {v : Value} (F : Alr Z h b k0 ty vs) (U : Wr h h' a sl v) (q : b ≠ a) : Alr Z h' b k0 ty vs := by obtain ⟨c, A, r⟩ := F; exact ⟨c, A.other U q, r⟩
theorem Alr.keep {a : Addr} {k0 : ClassId} {ty : FieldType} {vs : List Value} {h' : Heap} {ws : List Addr} (F : Alr Z h a k0 ty vs) (K : Keep h h' ws) (q : a ∉ ws) : Alr Z h' a k0 ty vs := by obtain ⟨c, A, r⟩ := F; exact ⟨c, ⟨K.2.1 a c A.1 q, A.2⟩, r⟩
theorem W.newRA (C : Cx p s m meth c Z y bytes ml ret) {index : Nat} {ty : FieldType} {K0 ad : String} {nn : Int32} (sz cap : Nat) (d : decode bytes pc = .ok (.anewarray index, 3)) (hC : (FieldType.array ty).toString = K0) (w1 : (Jvm.Cond.classLink y.cls index K0).before a0 Z = true) (w2 : (Jvm.Cond.arrayOver (.array ty)).before a0 Z = true) (had : "[" ++ K0 = ad) (hn : nn.toInt = (sz : Int)) (hcap : sz ≤ cap) (hb : cap * 8 ≤ 536870912) (k' n' : Nat) (hk : k + 1 = k') (hn' : n + cap = n') (hc : k' ≤ R.cells) (hl : n' ≤ R.slots)
    (K : ∀ a h' k0, a = h.size → Ext h h' → Alr Z h' a k0 (.array ty) (List.replicate sz .null) → OvrA Z k0 ty K0 → Exa Z h' a ad → W p l e R s m args below meth c n0 Q kc ks k' n' h' (pc + 3) ls (.ref a :: st)) : W p l e R s m args below meth c n0 Q kc ks k n h pc ls (.int nn :: st) := fun T locs X eT N => by
  subst hk hn'
  obtain ⟨T1, h1, cA, X1, e1, E1, A1, G1, O1, st1⟩ := Jvm.RoadKit.newRA X C.1 C.2.1 C.2.2.1 hC w1 w2 eT (g := mkF m pc ls (.int nn :: st)) rfl (C.a d) rfl (idx_of hn).1 (cap := cap) (by rw [(idx_of hn).2]; exact hcap) hb hc hl had
  obtain ⟨s₂, o, g1, g2⟩ := K _ h1 cA rfl E1 ⟨_, A1, rfl, by simp [newA, (idx_of hn).2, defaultValue]⟩ O1 G1 T1 _ X1 e1 N
  exact ⟨s₂, o, st1 _ g1, g2⟩
theorem W.newPE (C : Cx p s m meth c Z y bytes ml ret) {aty : ArrayType} {nn : Int32} {ad : String} (sz cap : Nat) (d : decode bytes pc = .ok (.newarray aty, 2)) (w : (Jvm.Cond.arrayClass (newarray.typeOf aty)).before a0 Z = true) (had : "[" ++ (newarray.typeOf aty).toString = ad) (hn : nn.toInt = (sz : Int)) (hcap : sz ≤ cap) (hb : cap * 8 ≤ 536870912) (k' n' : Nat) (hk : k + 1 = k') (hn' : n + cap = n') (hc : k' ≤ R.cells) (hl : n' ≤ R.slots)
    (K : ∀ a h', a = h.size → Ext h h' → Al Z h' a (newarray.typeOf aty) (List.replicate sz (defaultValue (newarray.typeOf aty))) → Exa Z h' a ad → W p l e R s m args below meth c n0 Q kc ks k' n' h' (pc + 2) ls (.ref a :: st)) : W p l e R s m args below meth c n0 Q kc ks k n h pc ls (.int nn :: st) := fun T locs X eT N => by
  subst hk hn'
  obtain ⟨T1, h1, cA, X1, e1, E1, A1, G1, st1⟩ := Jvm.RoadKit.newPE X C.1 C.2.1 w eT (g := mkF m pc ls (.int nn :: st)) rfl (C.a d) rfl (idx_of hn).1 (cap := cap) (by rw [(idx_of hn).2]; exact hcap) hb hc hl had
  obtain ⟨s₂, o, g1, g2⟩ := K _ h1 rfl E1 ⟨_, A1, by simp [newA, (idx_of hn).2]⟩ G1 T1 _ X1 e1 N
  exact ⟨s₂, o, st1 _ g1, g2⟩
theorem W.aastoreA (C : Cx p s m meth c Z y bytes ml ret) {a b : Addr} {k0 : ClassId} {ty : FieldType} {K0 : String} {vs : List Value} {j : Int32} (i : Nat) (d : decode bytes pc = .ok (.aastore, 1)) (A : Alr Z h a k0 (.array ty) vs) (O : OvrA Z k0 ty K0) (I : Ins Z h b K0 true) (hi : j.toInt = (i : Int)) (hb : i < vs.length) (g : n0 ≤ a) (K : ∀ h', Wr h h' a i (.ref b) → Alr Z h' a k0 (.array ty) (vs.set i (.ref b)) → W p l e R s m args below meth c n0 Q kc ks k n h' (pc + 1) ls st) : W p l e R s m args below meth c n0 Q kc ks k n h pc ls (.ref b :: .int j :: .ref a :: st) := fun T locs X eT N => by
  obtain ⟨cl, A, q0, r⟩ := A
  obtain ⟨T1, h1, X1, e1, W1, st1⟩ := stR X C.1 C.2.1 eT A (j := j) (inb_of_idx hi r hb) rfl (Sto.ofVA A q0 O I) (g := mkF m pc ls (.ref b :: .int j :: .ref a :: st)) rfl rfl (C.a d)
  have N1 := Fr.snoc X1 N g
  rw [(idx_of hi).2] at W1
  obtain ⟨s₂, o, g1, g2⟩ := K h1 W1 ⟨_, A.same W1, q0, by simp [Cell.setSlot, r]⟩ T1 _ X1 e1 N1
  exact ⟨s₂, o, st1 _ g1, g2⟩
end
theorem tkw {ts : List Jvm.Cond} {a0 : Array Value} {Z : State} (hw : ∀ d ∈ ts, d.before a0 Z = true) (i : Nat) {d : Jvm.Cond} (q : ts[i]? = some d) : d.before a0 Z = true := hw d (List.mem_of_getElem? q)
end Jvm.OwnKit
namespace Jvm.Pilot.@@N@@
open Jvm Jvm.ClassFile Sem Op Lib Jvm.Free Jvm.Stand Jvm.LawKit Jvm.RoadKit Bundle Jvm.OwnKit Jvm.Pilot.@@N@@.Jvm.D
abbrev y1 : MethodName := ⟨"com/example/tightwire/tightwire/OpCodeOfPinLaw", "base", "(I)I"⟩
theorem d1_0 : decode method_2_code 0 = .ok (.iload_n 0, 1) := by decide +kernel
theorem d1_1 : decode method_2_code 1 = .ok (.ifCond .ne 5, 3) := by decide +kernel
theorem d1_4 : decode method_2_code 4 = .ok (.iconst 1, 1) := by decide +kernel
theorem d1_5 : decode method_2_code 5 = .ok (.ireturn, 1) := by decide +kernel
theorem d1_6 : decode method_2_code 6 = .ok (.iload_n 0, 1) := by decide +kernel
theorem d1_7 : decode method_2_code 7 = .ok (.iconst 1, 1) := by decide +kernel
theorem d1_8 : decode method_2_code 8 = .ok (.if_icmp .ne 7, 3) := by decide +kernel
theorem d1_11 : decode method_2_code 11 = .ok (.sipush 2004, 3) := by decide +kernel
theorem d1_14 : decode method_2_code 14 = .ok (.ireturn, 1) := by decide +kernel
theorem d1_15 : decode method_2_code 15 = .ok (.iload_n 0, 1) := by decide +kernel
theorem d1_16 : decode method_2_code 16 = .ok (.iconst 2, 1) := by decide +kernel
theorem d1_17 : decode method_2_code 17 = .ok (.if_icmp .ne 7, 3) := by decide +kernel
theorem d1_20 : decode method_2_code 20 = .ok (.sipush 2012, 3) := by decide +kernel
theorem d1_23 : decode method_2_code 23 = .ok (.ireturn, 1) := by decide +kernel
theorem d1_24 : decode method_2_code 24 = .ok (.sipush 2013, 3) := by decide +kernel
theorem d1_27 : decode method_2_code 27 = .ok (.ireturn, 1) := by decide +kernel
theorem pf_1 : plainFor y1 = true := by first | exact plainFor_of_name (by first | (simp [plainName, overriddenIn]; done) | decide +kernel) | decide +kernel
theorem ef_1 (m : MethodId) (x : Int32) : entryFrame m #[(.int x)] 1 = mkF m 0 #[.val (.int x)] [] := by first | (simp [entryFrame, mkF, argsToLocals, Value.category]; done) | rfl
def own_base (x : Int32) : Int32 := if x = 0 then (1 : Int32) else if x = (1 : Int32) then (2004 : Int32) else if x = (2 : Int32) then (2012 : Int32) else (2013 : Int32)
set_option maxRecDepth 65536 in
set_option maxHeartbeats 40000000 in
theorem con_1 (l : Launch) (Z : State) (a0 : Array Value) (hw : ∀ d ∈ tables_1, d.before a0 Z = true) (h0 : Heap) (n0 : Nat) (x : Int32)   : Con l Z y1 method_2_code 1 (some .int) ({ frames := 0, cells := 0, slots := 0, locals := 0 } : Room) #[(.int x)] h0 n0 (Pu (some (.int (own_base x))) h0) := by
  refine Con.of pf_1 (fun m => ef_1 m x) ?_
  intro p e s m below meth c C
  refine W.iloadN C d1_0 rfl ?_
  refine W.if_ne C 6 d1_1 rfl (fun b1 => ?_) (fun b1 => ?_)
  · skip
    refine W.iloadN C d1_6 rfl ?_
    refine W.iconst C (1 : Int32) d1_7 rfl ?_
    refine W.icmp_ne C 15 d1_8 rfl (fun b2 => ?_) (fun b2 => ?_)
    · skip
      refine W.iloadN C d1_15 rfl ?_
      refine W.iconst C (2 : Int32) d1_16 rfl ?_
      refine W.icmp_ne C 24 d1_17 rfl (fun b3 => ?_) (fun b3 => ?_)
      · skip
        refine W.sipush C (2013 : Int32) d1_24 rfl ?_
        exact W.iret C d1_27 (by simp) rfl (by decide) (by decide) ⟨by show some _ = some _; rw [own_base, if_neg b1, if_neg b2, if_neg b3], rfl⟩
      · skip
        refine W.sipush C (2012 : Int32) d1_20 rfl ?_
        exact W.iret C d1_23 (by simp) rfl (by decide) (by decide) ⟨by show some _ = some _; rw [own_base, if_neg b1, if_neg b2, if_pos b3], rfl⟩
    · skip
      refine W.sipush C (2004 : Int32) d1_11 rfl ?_
      exact W.iret C d1_14 (by simp) rfl (by decide) (by decide) ⟨by show some _ = some _; rw [own_base, if_neg b1, if_pos b2], rfl⟩
  · skip
    refine W.iconst C (1 : Int32) d1_4 rfl ?_
    exact W.iret C d1_5 (by simp) rfl (by decide) (by decide) ⟨by show some _ = some _; rw [own_base, if_pos b1], rfl⟩

theorem own_fit (r0 r1 r2 r3 : Addr) : ∀ v ∈ ([(.ref r0), (.ref r1), (.ref r2), (.ref r3)] : List Value), fits (.object "com/example/tightwire/tightwire/OpCode") v = true := by
  intro v hv
  simp only [List.mem_cons, List.not_mem_nil, or_false] at hv
  rcases hv with rfl | rfl | rfl | rfl <;> rfl
abbrev y3 : MethodName := ⟨"com/example/tightwire/tightwire/OpCode", "values", "()[Lcom/example/tightwire/tightwire/OpCode;"⟩
theorem d3_0 : decode prog_8_method_1_code 0 = .ok (.getstatic 16, 3) := by decide +kernel
theorem d3_3 : decode prog_8_method_1_code 3 = .ok (.invokevirtual 20, 3) := by decide +kernel
theorem d3_6 : decode prog_8_method_1_code 6 = .ok (.checkcast 21, 3) := by decide +kernel
theorem d3_9 : decode prog_8_method_1_code 9 = .ok (.areturn, 1) := by decide +kernel
theorem pf_3 : plainFor y3 = true := by first | exact plainFor_of_name (by first | (simp [plainName, overriddenIn]; done) | decide +kernel) | decide +kernel
theorem ef_3 (m : MethodId)  : entryFrame m #[] 0 = mkF m 0 #[] [] := by first | (simp [entryFrame, mkF, argsToLocals, Value.category]; done) | rfl
theorem pd_0 : parseMethodDescriptor "()Ljava/lang/Object;" = some ⟨[], some (.object "java/lang/Object")⟩ := by decide +kernel
set_option maxRecDepth 65536 in
set_option maxHeartbeats 40000000 in
theorem con_3 (l : Launch) (Z : State) (a0 : Array Value) (hw : ∀ d ∈ tables_1, d.before a0 Z = true) (h0 : Heap) (n0 : Nat)  (av r0 r1 r2 r3 : Addr) (S_V : Sta Z h0 "com/example/tightwire/tightwire/OpCode" "$VALUES" "[Lcom/example/tightwire/tightwire/OpCode;" (.ref av)) (LV : Al Z h0 av (.object "com/example/tightwire/tightwire/OpCode") [(.ref r0), (.ref r1), (.ref r2), (.ref r3)]) (XV : Exa Z h0 av "[Lcom/example/tightwire/tightwire/OpCode;")  (Z0 : n0 ≤ h0.size) : Con l Z y3 prog_8_method_1_code 0 (some (.array (.object "com/example/tightwire/tightwire/OpCode"))) ({ frames := 1, cells := 1, slots := 4, locals := 14 } : Room) #[] h0 n0 (fun v h => ∃ a, v = some (.ref a) ∧ Ext h0 h ∧ Al Z h a (.object "com/example/tightwire/tightwire/OpCode") [(.ref r0), (.ref r1), (.ref r2), (.ref r3)]) := by
  refine Con.of pf_3 (fun m => ef_3 m ) ?_
  intro p e s m below meth c C
  have hfit := own_fit r0 r1 r2 r3
  refine W.getS C d3_0 (tkw hw 11 rfl) Via.refl S_V ?_
  refine W.clone C (ad := "[Lcom/example/tightwire/tightwire/OpCode;") 4 d3_3 (tkw hw 13 rfl) (tkw hw 14 rfl) (tkw hw 18 rfl) (tkw hw 16 rfl) (tkw hw 17 rfl) (tkw hw 19 rfl) LV XV hfit (show (4 : Nat) < 2147483648 by decide) 0 1 4 rfl (by decide) (by decide) (Nat.le_refl _) rfl rfl (by decide) (by decide) rfl ?_
  intro a1 h2 ha1 Ea1 La1 Xa1
  refine W.cast C d3_6 (tkw hw 25 rfl) (Ins.self Xa1) ?_
  exact W.aret C d3_9 rfl rfl rfl (by decide) (by decide) ⟨a1, rfl, Ea1, La1⟩

def own_oc (x : Int32) (r0 r1 r2 r3 : Addr) : Value := if (1 : Int32) = x then .ref r0 else if (2004 : Int32) = x then .ref r1 else if (2012 : Int32) = x then .ref r2 else if (2013 : Int32) = x then .ref r3 else .null
def own_ex (x : Int32) (r0 r1 r2 r3 : Addr) : Value := if x = (1 : Int32) then .ref r0 else if x = (2004 : Int32) then .ref r1 else if x = (2012 : Int32) then .ref r2 else if x = (2013 : Int32) then .ref r3 else .null
theorem own_key (x : Int32) (r0 r1 r2 r3 : Addr) : own_oc x r0 r1 r2 r3 = own_ex x r0 r1 r2 r3 := by
  unfold own_oc own_ex
  simp only [@eq_comm _ _ x]
theorem own_exr (x : Int32) (r0 r1 r2 r3 : Addr) : (own_ex x r0 r1 r2 r3).isRef = true := by
  unfold own_ex
  repeat' split
  all_goals rfl
abbrev y2 : MethodName := ⟨"com/example/tightwire/tightwire/OpCode", "of", "(I)Lcom/example/tightwire/tightwire/OpCode;"⟩
theorem d2_0 : decode prog_8_method_4_code 0 = .ok (.invokestatic 39, 3) := by decide +kernel
theorem d2_3 : decode prog_8_method_4_code 3 = .ok (.astore_n 1, 1) := by decide +kernel
theorem d2_4 : decode prog_8_method_4_code 4 = .ok (.aload_n 1, 1) := by decide +kernel
theorem d2_5 : decode prog_8_method_4_code 5 = .ok (.arraylength, 1) := by decide +kernel
theorem d2_6 : decode prog_8_method_4_code 6 = .ok (.istore_n 2, 1) := by decide +kernel
theorem d2_7 : decode prog_8_method_4_code 7 = .ok (.iconst 0, 1) := by decide +kernel
theorem d2_8 : decode prog_8_method_4_code 8 = .ok (.istore_n 3, 1) := by decide +kernel
theorem d2_9 : decode prog_8_method_4_code 9 = .ok (.iload_n 3, 1) := by decide +kernel
theorem d2_10 : decode prog_8_method_4_code 10 = .ok (.iload_n 2, 1) := by decide +kernel
theorem d2_11 : decode prog_8_method_4_code 11 = .ok (.if_icmp .ge 26, 3) := by decide +kernel
theorem d2_14 : decode prog_8_method_4_code 14 = .ok (.aload_n 1, 1) := by decide +kernel
theorem d2_15 : decode prog_8_method_4_code 15 = .ok (.iload_n 3, 1) := by decide +kernel
theorem d2_16 : decode prog_8_method_4_code 16 = .ok (.aaload, 1) := by decide +kernel
theorem d2_17 : decode prog_8_method_4_code 17 = .ok (.astore 4, 2) := by decide +kernel
theorem d2_19 : decode prog_8_method_4_code 19 = .ok (.aload 4, 2) := by decide +kernel
theorem d2_21 : decode prog_8_method_4_code 21 = .ok (.getfield 35, 3) := by decide +kernel
theorem d2_24 : decode prog_8_method_4_code 24 = .ok (.iload_n 0, 1) := by decide +kernel
theorem d2_25 : decode prog_8_method_4_code 25 = .ok (.if_icmp .ne 6, 3) := by decide +kernel
theorem d2_28 : decode prog_8_method_4_code 28 = .ok (.aload 4, 2) := by decide +kernel
theorem d2_30 : decode prog_8_method_4_code 30 = .ok (.areturn, 1) := by decide +kernel
theorem d2_31 : decode prog_8_method_4_code 31 = .ok (.iinc 3 1, 3) := by decide +kernel
theorem d2_34 : decode prog_8_method_4_code 34 = .ok (.goto (-25), 3) := by decide +kernel
theorem d2_37 : decode prog_8_method_4_code 37 = .ok (.aconst_null, 1) := by decide +kernel
theorem d2_38 : decode prog_8_method_4_code 38 = .ok (.areturn, 1) := by decide +kernel
theorem pf_2 : plainFor y2 = true := by first | exact plainFor_of_name (by first | (simp [plainName, overriddenIn]; done) | decide +kernel) | decide +kernel
theorem ef_2 (m : MethodId) (x : Int32) : entryFrame m #[(.int x)] 5 = mkF m 0 #[.val (.int x), .unset, .unset, .unset, .unset] [] := by first | (simp [entryFrame, mkF, argsToLocals, Value.category]; done) | rfl
theorem pd_1 : parseMethodDescriptor "()[Lcom/example/tightwire/tightwire/OpCode;" = some ⟨[], some (.array (.object "com/example/tightwire/tightwire/OpCode"))⟩ := by decide +kernel
set_option maxRecDepth 65536 in
set_option maxHeartbeats 40000000 in
theorem con_2 (l : Launch) (Z : State) (a0 : Array Value) (hw : ∀ d ∈ tables_1, d.before a0 Z = true) (h0 : Heap) (n0 : Nat) (x : Int32) (av r0 r1 r2 r3 : Addr) (S_V : Sta Z h0 "com/example/tightwire/tightwire/OpCode" "$VALUES" "[Lcom/example/tightwire/tightwire/OpCode;" (.ref av)) (LV : Al Z h0 av (.object "com/example/tightwire/tightwire/OpCode") [(.ref r0), (.ref r1), (.ref r2), (.ref r3)]) (XV : Exa Z h0 av "[Lcom/example/tightwire/tightwire/OpCode;") (F0 : Fld Z h0 r0 "com/example/tightwire/tightwire/OpCode" "code" "I" (.int 1)) (F1 : Fld Z h0 r1 "com/example/tightwire/tightwire/OpCode" "code" "I" (.int 2004)) (F2 : Fld Z h0 r2 "com/example/tightwire/tightwire/OpCode" "code" "I" (.int 2012)) (F3 : Fld Z h0 r3 "com/example/tightwire/tightwire/OpCode" "code" "I" (.int 2013)) (Z0 : n0 ≤ h0.size) : Con l Z y2 prog_8_method_4_code 5 (some (.object "com/example/tightwire/tightwire/OpCode")) ({ frames := 2, cells := 1, slots := 4, locals := 25 } : Room) #[(.int x)] h0 n0 (fun v h => v = some (own_oc x r0 r1 r2 r3) ∧ Ext h0 h) := by
  refine Con.of pf_2 (fun m => ef_2 m x) ?_
  intro p e s m below meth c C
  refine W.callS C (y' := y3) d2_0 (tkw hw 8 rfl) (tkw hw 9 rfl) (tkw hw 6 rfl) (tkw hw 10 rfl) (by decide) (argsL := []) (rest := []) rfl (lenOf pd_1 rfl) (con_3 l Z a0 hw h0 n0 av r0 r1 r2 r3 S_V LV XV Z0) 0 1 4 rfl rfl rfl (by decide) (by decide) (by decide) (by decide) rfl ?_
  rintro _ h1 ⟨aa, rfl, E1, La⟩
  replace F0 := F0.ext E1
  replace F1 := F1.ext E1
  replace F2 := F2.ext E1
  replace F3 := F3.ext E1
  refine W.astoreN C #[.val (.int x), .val (.ref aa), .unset, .unset, .unset] d2_3 rfl rfl ?_
  refine W.aloadN C d2_4 rfl rfl ?_
  refine W.arrlen C (4 : Int32) d2_5 La rfl ?_
  refine W.istoreN C #[.val (.int x), .val (.ref aa), .val (.int (4 : Int32)), .unset, .unset] d2_6 rfl ?_
  refine W.iconst C (0 : Int32) d2_7 rfl ?_
  refine W.istoreN C #[.val (.int x), .val (.ref aa), .val (.int (4 : Int32)), .val (.int (0 : Int32)), .unset] d2_8 rfl ?_
  refine W.iloadN C d2_9 rfl ?_
  refine W.iloadN C d2_10 rfl ?_
  refine W.icmp_ge C 37 d2_11 rfl (fun b => absurd b (by decide)) (fun _ => ?_)
  refine W.aloadN C d2_14 rfl rfl ?_
  refine W.iloadN C d2_15 rfl ?_
  refine W.aaload C 0 d2_16 La rfl rfl rfl ?_
  refine W.astore C #[.val (.int x), .val (.ref aa), .val (.int (4 : Int32)), .val (.int (0 : Int32)), .val (.ref r0)] d2_17 rfl rfl ?_
  refine W.aload C d2_19 rfl rfl ?_
  refine W.getF C d2_21 (tkw hw 27 rfl) Via.refl F0 ?_
  refine W.iloadN C d2_24 rfl ?_
  refine W.icmp_ne C 31 d2_25 rfl (fun b1 => ?_) (fun b1 => ?_)
  · skip
    refine W.iinc C (1 : Int32) #[.val (.int x), .val (.ref aa), .val (.int (4 : Int32)), .val (.int (1 : Int32)), .val (.ref r0)] d2_31 rfl rfl rfl ?_
    refine W.goto C 9 d2_34 rfl ?_
    refine W.iloadN C d2_9 rfl ?_
    refine W.iloadN C d2_10 rfl ?_
    refine W.icmp_ge C 37 d2_11 rfl (fun b => absurd b (by decide)) (fun _ => ?_)
    refine W.aloadN C d2_14 rfl rfl ?_
    refine W.iloadN C d2_15 rfl ?_
    refine W.aaload C 1 d2_16 La rfl rfl rfl ?_
    refine W.astore C #[.val (.int x), .val (.ref aa), .val (.int (4 : Int32)), .val (.int (1 : Int32)), .val (.ref r1)] d2_17 rfl rfl ?_
    refine W.aload C d2_19 rfl rfl ?_
    refine W.getF C d2_21 (tkw hw 27 rfl) Via.refl F1 ?_
    refine W.iloadN C d2_24 rfl ?_
    refine W.icmp_ne C 31 d2_25 rfl (fun b2 => ?_) (fun b2 => ?_)
    · skip
      refine W.iinc C (2 : Int32) #[.val (.int x), .val (.ref aa), .val (.int (4 : Int32)), .val (.int (2 : Int32)), .val (.ref r1)] d2_31 rfl rfl rfl ?_
      refine W.goto C 9 d2_34 rfl ?_
      refine W.iloadN C d2_9 rfl ?_
      refine W.iloadN C d2_10 rfl ?_
      refine W.icmp_ge C 37 d2_11 rfl (fun b => absurd b (by decide)) (fun _ => ?_)
      refine W.aloadN C d2_14 rfl rfl ?_
      refine W.iloadN C d2_15 rfl ?_
      refine W.aaload C 2 d2_16 La rfl rfl rfl ?_
      refine W.astore C #[.val (.int x), .val (.ref aa), .val (.int (4 : Int32)), .val (.int (2 : Int32)), .val (.ref r2)] d2_17 rfl rfl ?_
      refine W.aload C d2_19 rfl rfl ?_
      refine W.getF C d2_21 (tkw hw 27 rfl) Via.refl F2 ?_
      refine W.iloadN C d2_24 rfl ?_
      refine W.icmp_ne C 31 d2_25 rfl (fun b3 => ?_) (fun b3 => ?_)
      · skip
        refine W.iinc C (3 : Int32) #[.val (.int x), .val (.ref aa), .val (.int (4 : Int32)), .val (.int (3 : Int32)), .val (.ref r2)] d2_31 rfl rfl rfl ?_
        refine W.goto C 9 d2_34 rfl ?_
        refine W.iloadN C d2_9 rfl ?_
        refine W.iloadN C d2_10 rfl ?_
        refine W.icmp_ge C 37 d2_11 rfl (fun b => absurd b (by decide)) (fun _ => ?_)
        refine W.aloadN C d2_14 rfl rfl ?_
        refine W.iloadN C d2_15 rfl ?_
        refine W.aaload C 3 d2_16 La rfl rfl rfl ?_
        refine W.astore C #[.val (.int x), .val (.ref aa), .val (.int (4 : Int32)), .val (.int (3 : Int32)), .val (.ref r3)] d2_17 rfl rfl ?_
        refine W.aload C d2_19 rfl rfl ?_
        refine W.getF C d2_21 (tkw hw 27 rfl) Via.refl F3 ?_
        refine W.iloadN C d2_24 rfl ?_
        refine W.icmp_ne C 31 d2_25 rfl (fun b4 => ?_) (fun b4 => ?_)
        · skip
          refine W.iinc C (4 : Int32) #[.val (.int x), .val (.ref aa), .val (.int (4 : Int32)), .val (.int (4 : Int32)), .val (.ref r3)] d2_31 rfl rfl rfl ?_
          refine W.goto C 9 d2_34 rfl ?_
          refine W.iloadN C d2_9 rfl ?_
          refine W.iloadN C d2_10 rfl ?_
          refine W.icmp_ge C 37 d2_11 rfl (fun _ => ?_) (fun b => absurd b (by decide))
          refine W.aconstNull C d2_37 ?_
          exact W.aret C d2_38 rfl rfl rfl (by decide) (by decide) ⟨by show some _ = some _; rw [own_oc, if_neg b1, if_neg b2, if_neg b3, if_neg b4], E1⟩
        · skip
          refine W.aload C d2_28 rfl rfl ?_
          exact W.aret C d2_30 rfl rfl rfl (by decide) (by decide) ⟨by show some _ = some _; rw [own_oc, if_neg b1, if_neg b2, if_neg b3, if_pos b4], E1⟩
      · skip
        refine W.aload C d2_28 rfl rfl ?_
        exact W.aret C d2_30 rfl rfl rfl (by decide) (by decide) ⟨by show some _ = some _; rw [own_oc, if_neg b1, if_neg b2, if_pos b3], E1⟩
    · skip
      refine W.aload C d2_28 rfl rfl ?_
      exact W.aret C d2_30 rfl rfl rfl (by decide) (by decide) ⟨by show some _ = some _; rw [own_oc, if_neg b1, if_pos b2], E1⟩
  · skip
    refine W.aload C d2_28 rfl rfl ?_
    exact W.aret C d2_30 rfl rfl rfl (by decide) (by decide) ⟨by show some _ = some _; rw [own_oc, if_pos b1], E1⟩

abbrev y4 : MethodName := ⟨"com/example/tightwire/tightwire/OpCodeOfPinLaw", "expected", "(I)Lcom/example/tightwire/tightwire/OpCode;"⟩
theorem d4_0 : decode method_3_code 0 = .ok (.iload_n 0, 1) := by decide +kernel
theorem d4_1 : decode method_3_code 1 = .ok (.iconst 1, 1) := by decide +kernel
theorem d4_2 : decode method_3_code 2 = .ok (.if_icmp .ne 7, 3) := by decide +kernel
theorem d4_5 : decode method_3_code 5 = .ok (.getstatic 7, 3) := by decide +kernel
theorem d4_8 : decode method_3_code 8 = .ok (.areturn, 1) := by decide +kernel
theorem d4_9 : decode method_3_code 9 = .ok (.iload_n 0, 1) := by decide +kernel
theorem d4_10 : decode method_3_code 10 = .ok (.sipush 2004, 3) := by decide +kernel
theorem d4_13 : decode method_3_code 13 = .ok (.if_icmp .ne 7, 3) := by decide +kernel
theorem d4_16 : decode method_3_code 16 = .ok (.getstatic 13, 3) := by decide +kernel
theorem d4_19 : decode method_3_code 19 = .ok (.areturn, 1) := by decide +kernel
theorem d4_20 : decode method_3_code 20 = .ok (.iload_n 0, 1) := by decide +kernel
theorem d4_21 : decode method_3_code 21 = .ok (.sipush 2012, 3) := by decide +kernel
theorem d4_24 : decode method_3_code 24 = .ok (.if_icmp .ne 7, 3) := by decide +kernel
theorem d4_27 : decode method_3_code 27 = .ok (.getstatic 16, 3) := by decide +kernel
theorem d4_30 : decode method_3_code 30 = .ok (.areturn, 1) := by decide +kernel
theorem d4_31 : decode method_3_code 31 = .ok (.iload_n 0, 1) := by decide +kernel
theorem d4_32 : decode method_3_code 32 = .ok (.sipush 2013, 3) := by decide +kernel
theorem d4_35 : decode method_3_code 35 = .ok (.if_icmp .ne 7, 3) := by decide +kernel
theorem d4_38 : decode method_3_code 38 = .ok (.getstatic 19, 3) := by decide +kernel
theorem d4_41 : decode method_3_code 41 = .ok (.areturn, 1) := by decide +kernel
theorem d4_42 : decode method_3_code 42 = .ok (.aconst_null, 1) := by decide +kernel
theorem d4_43 : decode method_3_code 43 = .ok (.areturn, 1) := by decide +kernel
theorem pf_4 : plainFor y4 = true := by first | exact plainFor_of_name (by first | (simp [plainName, overriddenIn]; done) | decide +kernel) | decide +kernel
theorem ef_4 (m : MethodId) (x : Int32) : entryFrame m #[(.int x)] 1 = mkF m 0 #[.val (.int x)] [] := by first | (simp [entryFrame, mkF, argsToLocals, Value.category]; done) | rfl
set_option maxRecDepth 65536 in
set_option maxHeartbeats 40000000 in
theorem con_4 (l : Launch) (Z : State) (a0 : Array Value) (hw : ∀ d ∈ tables_1, d.before a0 Z = true) (h0 : Heap) (n0 : Nat) (x : Int32) (r0 r1 r2 r3 : Addr) (S0 : Sta Z h0 "com/example/tightwire/tightwire/OpCode" "OP_REPLY" "Lcom/example/tightwire/tightwire/OpCode;" (.ref r0)) (S1 : Sta Z h0 "com/example/tightwire/tightwire/OpCode" "OP_QUERY" "Lcom/example/tightwire/tightwire/OpCode;" (.ref r1)) (S2 : Sta Z h0 "com/example/tightwire/tightwire/OpCode" "OP_COMPRESSED" "Lcom/example/tightwire/tightwire/OpCode;" (.ref r2)) (S3 : Sta Z h0 "com/example/tightwire/tightwire/OpCode" "OP_MSG" "Lcom/example/tightwire/tightwire/OpCode;" (.ref r3)) (Z0 : n0 ≤ h0.size) : Con l Z y4 method_3_code 1 (some (.object "com/example/tightwire/tightwire/OpCode")) ({ frames := 0, cells := 0, slots := 0, locals := 0 } : Room) #[(.int x)] h0 n0 (Pu (some (own_ex x r0 r1 r2 r3)) h0) := by
  refine Con.of pf_4 (fun m => ef_4 m x) ?_
  intro p e s m below meth c C
  refine W.iloadN C d4_0 rfl ?_
  refine W.iconst C (1 : Int32) d4_1 rfl ?_
  refine W.icmp_ne C 9 d4_2 rfl (fun b1 => ?_) (fun b1 => ?_)
  · skip
    refine W.iloadN C d4_9 rfl ?_
    refine W.sipush C (2004 : Int32) d4_10 rfl ?_
    refine W.icmp_ne C 20 d4_13 rfl (fun b2 => ?_) (fun b2 => ?_)
    · skip
      refine W.iloadN C d4_20 rfl ?_
      refine W.sipush C (2012 : Int32) d4_21 rfl ?_
      refine W.icmp_ne C 31 d4_24 rfl (fun b3 => ?_) (fun b3 => ?_)
      · skip
        refine W.iloadN C d4_31 rfl ?_
        refine W.sipush C (2013 : Int32) d4_32 rfl ?_
        refine W.icmp_ne C 42 d4_35 rfl (fun b4 => ?_) (fun b4 => ?_)
        · skip
          refine W.aconstNull C d4_42 ?_
          exact W.aret C d4_43 rfl rfl rfl (by decide) (by decide) ⟨by show some _ = some _; rw [own_ex, if_neg b1, if_neg b2, if_neg b3, if_neg b4], rfl⟩
        · skip
          refine W.getS C d4_38 (tkw hw 33 rfl) Via.refl S3 ?_
          exact W.aret C d4_41 rfl rfl rfl (by decide) (by decide) ⟨by show some _ = some _; rw [own_ex, if_neg b1, if_neg b2, if_neg b3, if_pos b4], rfl⟩
      · skip
        refine W.getS C d4_27 (tkw hw 35 rfl) Via.refl S2 ?_
        exact W.aret C d4_30 rfl rfl rfl (by decide) (by decide) ⟨by show some _ = some _; rw [own_ex, if_neg b1, if_neg b2, if_pos b3], rfl⟩
    · skip
      refine W.getS C d4_16 (tkw hw 34 rfl) Via.refl S1 ?_
      exact W.aret C d4_19 rfl rfl rfl (by decide) (by decide) ⟨by show some _ = some _; rw [own_ex, if_neg b1, if_pos b2], rfl⟩
  · skip
    refine W.getS C d4_5 (tkw hw 32 rfl) Via.refl S0 ?_
    exact W.aret C d4_8 rfl rfl rfl (by decide) (by decide) ⟨by show some _ = some _; rw [own_ex, if_pos b1], rfl⟩

theorem pf_0 : plainFor x = true := by first | exact plainFor_of_name (by first | (simp [plainName, overriddenIn]; done) | decide +kernel) | decide +kernel
theorem ef_0 (m : MethodId) (p0 : Int32) (p1 : Int32) : entryFrame m #[(.int p0), (.int p1)] maxLocals = mkF m 0 #[.val (.int p0), .val (.int p1), .unset, .unset, .unset] [] := by first | (simp [entryFrame, mkF, argsToLocals, Value.category, maxLocals]; done) | rfl
theorem pd_2 : parseMethodDescriptor "(I)I" = some ⟨[.int], some .int⟩ := by decide +kernel
theorem pd_3 : parseMethodDescriptor "(I)Lcom/example/tightwire/tightwire/OpCode;" = some ⟨[.int], some (.object "com/example/tightwire/tightwire/OpCode")⟩ := by decide +kernel
set_option maxRecDepth 65536 in
set_option maxHeartbeats 40000000 in
theorem con_0 (l : Launch) (Z : State) (a0 : Array Value) (hw : ∀ d ∈ tables_1, d.before a0 Z = true) (h0 : Heap) (n0 : Nat) (p0 : Int32) (p1 : Int32) (av r0 r1 r2 r3 : Addr) (S_V : Sta Z h0 "com/example/tightwire/tightwire/OpCode" "$VALUES" "[Lcom/example/tightwire/tightwire/OpCode;" (.ref av)) (LV : Al Z h0 av (.object "com/example/tightwire/tightwire/OpCode") [(.ref r0), (.ref r1), (.ref r2), (.ref r3)]) (XV : Exa Z h0 av "[Lcom/example/tightwire/tightwire/OpCode;") (F0 : Fld Z h0 r0 "com/example/tightwire/tightwire/OpCode" "code" "I" (.int 1)) (F1 : Fld Z h0 r1 "com/example/tightwire/tightwire/OpCode" "code" "I" (.int 2004)) (F2 : Fld Z h0 r2 "com/example/tightwire/tightwire/OpCode" "code" "I" (.int 2012)) (F3 : Fld Z h0 r3 "com/example/tightwire/tightwire/OpCode" "code" "I" (.int 2013)) (S0 : Sta Z h0 "com/example/tightwire/tightwire/OpCode" "OP_REPLY" "Lcom/example/tightwire/tightwire/OpCode;" (.ref r0)) (S1 : Sta Z h0 "com/example/tightwire/tightwire/OpCode" "OP_QUERY" "Lcom/example/tightwire/tightwire/OpCode;" (.ref r1)) (S2 : Sta Z h0 "com/example/tightwire/tightwire/OpCode" "OP_COMPRESSED" "Lcom/example/tightwire/tightwire/OpCode;" (.ref r2)) (S3 : Sta Z h0 "com/example/tightwire/tightwire/OpCode" "OP_MSG" "Lcom/example/tightwire/tightwire/OpCode;" (.ref r3)) (Z0 : n0 ≤ h0.size) : Con l Z x code maxLocals ret room_1 #[(.int p0), (.int p1)] h0 n0 (fun v _ => v = some (.int 1)) := by
  refine Con.of pf_0 (fun m => ef_0 m p0 p1) ?_
  intro p e s m below meth c C
  refine W.iloadN C at_0 rfl ?_
  refine W.iconst C (3 : Int32) at_1 rfl ?_
  refine W.iand C at_2 ?_
  refine W.istoreN C #[.val (.int p0), .val (.int p1), .val (.int (p0 &&& (3 : Int32))), .unset, .unset] at_3 rfl ?_
  refine W.iloadN C at_4 rfl ?_
  refine W.iconst C (2 : Int32) at_5 rfl ?_
  refine W.iushr C at_6 ?_
  refine W.iconst C (3 : Int32) at_7 rfl ?_
  refine W.iand C at_8 ?_
  refine W.istoreN C #[.val (.int p0), .val (.int p1), .val (.int (p0 &&& (3 : Int32))), .val (.int (((p0).toUInt32 >>> ((2 : Int32) &&& 31).toUInt32).toInt32 &&& (3 : Int32))), .unset] at_9 rfl ?_
  refine W.iloadN C at_10 rfl ?_
  have J58 : ∀ (cc : Int32), W p l e room_1 s m #[(.int p0), (.int p1)] below meth c n0 (fun v _ => v = some (.int 1)) room_1.cells room_1.slots 0 0 h0 58 #[.val (.int p0), .val (.int p1), .val (.int (p0 &&& (3 : Int32))), .val (.int (((p0).toUInt32 >>> ((2 : Int32) &&& 31).toUInt32).toInt32 &&& (3 : Int32))), .val (.int cc)] [] := by
    intro cc
    refine W.iload C at_58 rfl ?_
    refine W.callS C (y' := y2) at_60 (tkw hw 4 rfl) (tkw hw 5 rfl) (tkw hw 6 rfl) (tkw hw 7 rfl) (by decide) (argsL := [(.int cc)]) (rest := []) rfl (lenOf pd_3 rfl) (con_2 l Z a0 hw h0 n0 cc av r0 r1 r2 r3 S_V LV XV F0 F1 F2 F3 Z0) 0 1 4 rfl rfl rfl (by decide) (by decide) (by decide) (by decide) rfl ?_
    rintro _ h1 ⟨rfl, E1⟩
    rw [own_key]
    replace S0 := S0.ext E1
    replace S1 := S1.ext E1
    replace S2 := S2.ext E1
    replace S3 := S3.ext E1
    replace Z0 := Nat.le_trans Z0 E1.1
    refine W.iload C at_63 rfl ?_
    refine W.callS C (y' := y4) at_65 (tkw hw 29 rfl) (tkw hw 30 rfl) (tkw hw 2 rfl) (tkw hw 31 rfl) (by decide) (argsL := [(.int cc)]) (rest := [(own_ex cc r0 r1 r2 r3)]) rfl (lenOf pd_3 rfl) (con_4 l Z a0 hw h1 n0 cc r0 r1 r2 r3 S0 S1 S2 S3 Z0) 1 1 4 (show (own_ex cc r0 r1 r2 r3).category + 0 = 1 by rw [XT.cat1 (own_exr _ _ _ _ _)]) rfl rfl (by decide) (by decide) (by decide) (by decide) rfl ?_
    rintro _ _ ⟨rfl, rfl⟩
    refine W.acmp_ne C 75 at_68 (own_exr _ _ _ _ _) (own_exr _ _ _ _ _) rfl (fun b1 => absurd rfl b1) (fun b1 => ?_)
    refine W.iconst C (1 : Int32) at_71 rfl ?_
    refine W.goto C 76 at_72 rfl ?_
    exact W.iret C at_76 (by simp) rfl (by decide) (by decide) rfl
  refine W.if_ne C 23 at_11 rfl (fun b2 => ?_) (fun b2 => ?_)
  · skip
    refine W.iloadN C at_23 rfl ?_
    refine W.iconst C (1 : Int32) at_24 rfl ?_
    refine W.icmp_ne C 39 at_25 rfl (fun b3 => ?_) (fun b3 => ?_)
    · skip
      refine W.iloadN C at_39 rfl ?_
      refine W.iconst C (2 : Int32) at_40 rfl ?_
      refine W.icmp_ne C 55 at_41 rfl (fun b4 => ?_) (fun b4 => ?_)
      · skip
        refine W.iloadN C at_55 rfl ?_
        refine W.istore C #[.val (.int p0), .val (.int p1), .val (.int (p0 &&& (3 : Int32))), .val (.int (((p0).toUInt32 >>> ((2 : Int32) &&& 31).toUInt32).toInt32 &&& (3 : Int32))), .val (.int p1)] at_56 rfl ?_
        exact J58 p1
      · skip
        refine W.iloadN C at_44 rfl ?_
        refine W.callS C (y' := y1) at_45 (tkw hw 0 rfl) (tkw hw 1 rfl) (tkw hw 2 rfl) (tkw hw 3 rfl) (by decide) (argsL := [(.int (p0 &&& (3 : Int32)))]) (rest := []) rfl (lenOf pd_2 rfl) (con_1 l Z a0 hw h0 n0 (p0 &&& (3 : Int32))) 0 0 0 rfl rfl rfl (by decide) (by decide) (by decide) (by decide) rfl ?_
        rintro _ _ ⟨rfl, rfl⟩
        refine W.iconst C (1 : Int32) at_48 rfl ?_
        refine W.isub C at_49 ?_
        refine W.istore C #[.val (.int p0), .val (.int p1), .val (.int (p0 &&& (3 : Int32))), .val (.int (((p0).toUInt32 >>> ((2 : Int32) &&& 31).toUInt32).toInt32 &&& (3 : Int32))), .val (.int ((own_base (p0 &&& (3 : Int32))) - (1 : Int32)))] at_50 rfl ?_
        refine W.goto C 58 at_52 rfl ?_
        exact J58 ((own_base (p0 &&& (3 : Int32))) - (1 : Int32))
    · skip
      refine W.iloadN C at_28 rfl ?_
      refine W.callS C (y' := y1) at_29 (tkw hw 0 rfl) (tkw hw 1 rfl) (tkw hw 2 rfl) (tkw hw 3 rfl) (by decide) (argsL := [(.int (p0 &&& (3 : Int32)))]) (rest := []) rfl (lenOf pd_2 rfl) (con_1 l Z a0 hw h0 n0 (p0 &&& (3 : Int32))) 0 0 0 rfl rfl rfl (by decide) (by decide) (by decide) (by decide) rfl ?_
      rintro _ _ ⟨rfl, rfl⟩
      refine W.iconst C (1 : Int32) at_32 rfl ?_
      refine W.iadd C at_33 ?_
      refine W.istore C #[.val (.int p0), .val (.int p1), .val (.int (p0 &&& (3 : Int32))), .val (.int (((p0).toUInt32 >>> ((2 : Int32) &&& 31).toUInt32).toInt32 &&& (3 : Int32))), .val (.int ((own_base (p0 &&& (3 : Int32))) + (1 : Int32)))] at_34 rfl ?_
      refine W.goto C 58 at_36 rfl ?_
      exact J58 ((own_base (p0 &&& (3 : Int32))) + (1 : Int32))
  · skip
    refine W.iloadN C at_14 rfl ?_
    refine W.callS C (y' := y1) at_15 (tkw hw 0 rfl) (tkw hw 1 rfl) (tkw hw 2 rfl) (tkw hw 3 rfl) (by decide) (argsL := [(.int (p0 &&& (3 : Int32)))]) (rest := []) rfl (lenOf pd_2 rfl) (con_1 l Z a0 hw h0 n0 (p0 &&& (3 : Int32))) 0 0 0 rfl rfl rfl (by decide) (by decide) (by decide) (by decide) rfl ?_
    rintro _ _ ⟨rfl, rfl⟩
    refine W.istore C #[.val (.int p0), .val (.int p1), .val (.int (p0 &&& (3 : Int32))), .val (.int (((p0).toUInt32 >>> ((2 : Int32) &&& 31).toUInt32).toInt32 &&& (3 : Int32))), .val (.int (own_base (p0 &&& (3 : Int32))))] at_18 rfl ?_
    refine W.goto C 58 at_20 rfl ?_
    exact J58 (own_base (p0 &&& (3 : Int32)))

theorem own_lenS {args : Array Value} {s : State} {t : Term} {v : Value} {a : Addr} {cell : Cell} (h : (Term.length t).eval args s none [] s = some v) (ht : t.eval args s none [] s = some (.ref a)) (ha : s.arrayAt? a = some cell) : cell.slots.size < 2147483648 ∧ v = .int cell.slots.size.toInt32 := by
  by_cases hn : cell.slots.size < 2147483648
  · simp [Term.eval, ht, ha, hn] at h
    exact ⟨hn, h.symm⟩
  · simp [Term.eval, ht, ha, hn] at h
theorem own_el {args : Array Value} {s : State} {t u : Term} {av r : Addr} {c : Cell} {k : Int32} (hc : s.heap[av]? = some c) (ht : t.eval args s none [] s = some (.ref av)) (hu : u.eval args s none [] s = some (.ref r)) (he : (Jvm.Cond.eq (.elem t (.int k)) u).value args s none s [] = some true) : c.slots[k.toNatClampNeg]? = some (.ref r) := by
  obtain ⟨x, y, ex, ey, kin⟩ := cmp_v (Or.inl he)
  cases hu.symm.trans ey
  have hx : x.isRef = true := by
    have := kin.2
    simp only [Kin] at this
    exact this.2
  have q := gotT (eq_R ex hu hx rfl) he
  subst q
  exact (elem_in ex ht (Term.int_eval k) hc).2
theorem own_fl {args : Array Value} {s : State} {t : Term} {r : Addr} {C n : String} {k : Int32} (ht : t.eval args s none [] s = some (.ref r)) (he : (Jvm.Cond.eq (.field t C n "I") (.int k)).value args s none s [] = some true) : Fld s s.heap r C n "I" (.int k) := by
  obtain ⟨x, y, ex, ey, kin⟩ := cmp_v (Or.inl he)
  have e2 : (Term.int k).eval args s none [] s = some (.int k) := Term.int_eval k
  cases e2.symm.trans ey
  obtain ⟨z, rfl⟩ := kin.2
  have := gotT (Cond.eq_ints ex e2) he
  subst this
  exact Fld.start ((fld_at ht).symm.trans ex)
theorem own_al {args : Array Value} {s : State} {t : Term} {av r0 r1 r2 r3 : Addr} {ty : FieldType} (ht : t.eval args s none [] s = some (.ref av)) (h1 : (Jvm.Cond.arrayOf t ty).value args s none s [] = some true) (h2 : (Jvm.Cond.eq (.length t) (.int 4)).value args s none s [] = some true)
    {u0 u1 u2 u3 : Term} (e0 : u0.eval args s none [] s = some (.ref r0)) (e1 : u1.eval args s none [] s = some (.ref r1)) (e2 : u2.eval args s none [] s = some (.ref r2)) (e3 : u3.eval args s none [] s = some (.ref r3))
    (q0 : (Jvm.Cond.eq (.elem t (.int 0)) u0).value args s none s [] = some true) (q1 : (Jvm.Cond.eq (.elem t (.int 1)) u1).value args s none s [] = some true) (q2 : (Jvm.Cond.eq (.elem t (.int 2)) u2).value args s none s [] = some true) (q3 : (Jvm.Cond.eq (.elem t (.int 3)) u3).value args s none s [] = some true) :
    Al s s.heap av ty [(.ref r0), (.ref r1), (.ref r2), (.ref r3)] := by
  obtain ⟨c, A⟩ := Arr.start ht h1
  have ha : s.arrayAt? av = some c := Arr.fin (Vm.Alike.refl _) A
  obtain ⟨x, y, ex, ey, kin⟩ := cmp_v (Or.inl h2)
  have e4 : (Term.int 4).eval args s none [] s = some (.int 4) := Term.int_eval 4
  cases e4.symm.trans ey
  obtain ⟨hs, rfl⟩ := own_lenS ex ht ha
  have h4 := gotT (Cond.eq_ints ex e4) h2
  have h5 : c.slots.size = 4 := by
    have := len_toInt hs
    rw [h4] at this
    have z4 : (4 : Int32).toInt = 4 := rfl
    omega
  refine ⟨c, A, ?_⟩
  have f0 := own_el A.1 ht e0 q0
  have f1 := own_el A.1 ht e1 q1
  have f2 := own_el A.1 ht e2 q2
  have f3 := own_el A.1 ht e3 q3
  have z0 : (0 : Int32).toNatClampNeg = 0 := rfl
  have z1 : (1 : Int32).toNatClampNeg = 1 := rfl
  have z2 : (2 : Int32).toNatClampNeg = 2 := rfl
  have z3 : (3 : Int32).toNatClampNeg = 3 := rfl
  rw [z0] at f0
  rw [z1] at f1
  rw [z2] at f2
  rw [z3] at f3
  apply Array.ext_getElem?
  intro i
  by_cases hi : i < 4
  · have hc : i = 0 ∨ i = 1 ∨ i = 2 ∨ i = 3 := by omega
    rcases hc with rfl | rfl | rfl | rfl
    · rw [f0]; rfl
    · rw [f1]; rfl
    · rw [f2]; rfl
    · rw [f3]; rfl
  · rw [Array.getElem?_eq_none (by omega), Array.getElem?_eq_none (by simp; omega)]
set_option maxRecDepth 65536 in
set_option maxHeartbeats 40000000 in
theorem comes_1 {Post : Tables → Env → Array Value → State → Outcome → State → Prop} (hpost : ∀ tb e args s v u, (limb_1_1.after args s (.returned v) u = true ∧ limb_1_2.after args s (.returned v) u = true ∧ True) → FrameEnd s (.returned v) u (Jvm.fieldLocs frame_1_writes args s ++ Jvm.arrayLocs frame_1_arrays args s ++ Jvm.staticLocs frame_1_statics s) 16 128 → Post tb e args s (.returned v) u) :
    ArmFor flags0 classFile x code maxLocals ret World_1 tables_1 room_1 Calls_1 rest_1 Pre_1 Post := by
  intro l hfl _ _ p e ha hc hk s m args below hf hA hF happ hP
  obtain ⟨hcalls, hrest, hpre⟩ := hP
  obtain ⟨-, -, -, hnamed, -, -, -, hat⟩ := (Spec.applies_iff hf).mp happ
  obtain ⟨hg, hn⟩ := and_e (Cond.before_iff.mp (show (Jvm.Cond.and given_1 narrow_1).before args s = true from hpre))
  obtain ⟨gc, g0⟩ := and_e hg
  obtain ⟨i0h, g1⟩ := and_e g0
  obtain ⟨w0, w1, rfl⟩ : ∃ w0 w1 : Value, args = #[w0, w1] := by
    have hs : args.size = 2 := by simpa [Cond.value, given_1] using gc
    obtain ⟨L⟩ := args
    match L, hs with
    | [w0, w1], _ => exact ⟨w0, w1, rfl⟩
  have hw := fun d (hd : d ∈ tables_1) => atoms_spec (ws := Jvm.Cond.code x code maxLocals ret :: tables_1) hat d (List.mem_cons_of_mem _ hd)
  have hfit : Fit s := fun {y c} hc i hi => by
    obtain ⟨ha, rfl⟩ := Array.getElem?_eq_some_iff.mp hc
    have q := List.all_eq_true.mp ((Array.all_eq_true_iff_forall_mem.mp hF) _ (Array.getElem_mem ha)) i (List.mem_range.mpr hi)
    simpa [Array.getElem?_eq_getElem hi] using q
  obtain ⟨i0, ei0⟩ := is_v i0h
  obtain rfl : w0 = (.int i0) := Option.some.inj ei0
  obtain ⟨i1, ei1⟩ := is_v g1
  obtain rfl : w1 = (.int i1) := Option.some.inj ei1
  obtain ⟨n1, hn⟩ := and_e hn
  obtain ⟨n2, hn⟩ := and_e hn
  obtain ⟨n3, hn⟩ := and_e hn
  obtain ⟨n4, hn⟩ := and_e hn
  obtain ⟨n5, hn⟩ := and_e hn
  obtain ⟨n6, hn⟩ := and_e hn
  obtain ⟨n7, hn⟩ := and_e hn
  obtain ⟨n8, hn⟩ := and_e hn
  obtain ⟨n9, hn⟩ := and_e hn
  obtain ⟨n10, hn⟩ := and_e hn
  obtain ⟨n11, hn⟩ := and_e hn
  obtain ⟨n12, hn⟩ := and_e hn
  obtain ⟨n13, hn⟩ := and_e hn
  obtain ⟨n14, hn⟩ := and_e hn
  obtain ⟨av, ev⟩ := exa_v n2
  obtain ⟨r0, e_r0⟩ := exa_v n4
  obtain ⟨r1, e_r1⟩ := exa_v n6
  obtain ⟨r2, e_r2⟩ := exa_v n8
  obtain ⟨r3, e_r3⟩ := exa_v n10
  have S_V := Sta.start ev (Or.inr ⟨(tkw hw 6 rfl), (tkw hw 12 rfl)⟩)
  have S0 := Sta.start e_r0 (Or.inr ⟨(tkw hw 6 rfl), (tkw hw 20 rfl)⟩)
  have S1 := Sta.start e_r1 (Or.inr ⟨(tkw hw 6 rfl), (tkw hw 21 rfl)⟩)
  have S2 := Sta.start e_r2 (Or.inr ⟨(tkw hw 6 rfl), (tkw hw 22 rfl)⟩)
  have S3 := Sta.start e_r3 (Or.inr ⟨(tkw hw 6 rfl), (tkw hw 23 rfl)⟩)
  have XV := Exa.start ev n2
  have LV := own_al ev n1 n3 e_r0 e_r1 e_r2 e_r3 n5 n7 n9 n11
  have F0 := own_fl e_r0 n12
  have F1 := own_fl e_r1 n13
  have F2 := own_fl e_r2 n14
  have F3 := own_fl e_r3 hn
  obtain ⟨n, o, h1, h2, h3, _, L, rfl, ⟨rfl, N⟩, hq⟩ := (con_0 l s _ hw s.heap s.heap.size i0 i1 av r0 r1 r2 r3 S_V LV XV F0 F1 F2 F3 S0 S1 S2 S3 (Nat.le_refl _)) tables_1 p e ha hc hk s m _ below hf ((Spec.applies_iff_loose hf).mp happ).1 ⟨rfl, State.Warmed39.refl s, rfl⟩ trivial
  refine ⟨n, _, h1, h2, h3, hpost _ _ _ _ _ _ ⟨Cond.after_iff.mpr rfl, Cond.after_iff.mpr (eq_i res_at (Term.int_eval (1)) rfl), trivial⟩ ⟨hq.1, hq.2.1, (hq.2.2.sift fun y hy => Or.inr (N y hy)).mono (by decide) (by decide)⟩⟩
theorem main_1_1 : Claimed_1_1 := comes_1 fun _ _ _ _ _ _ h hF => ⟨h.1, hF⟩
theorem main_1_2 : Claimed_1_2 := comes_1 fun _ _ _ _ _ _ h hF => ⟨h.2.1, hF⟩
end Jvm.Pilot.@@N@@
namespace Jvm.Pilot.@@N@@
open Jvm Jvm.ClassFile Sem Op Lib Jvm.Free Jvm.Stand Jvm.Pilot.@@N@@.Jvm.D
/-! MADE BY PROGRAM (witnessworld.py) out of the Statement's table words and the real class files: 13 classes; the members and pool entries that the words name. The judged class is class 1, her method 3. -/
namespace start1
open Jvm.ClassFile
def u (s : String) : CpInfo := .utf8 (stringToUtf16 s)
/-- a pool by its gaps: so many unusable entries, then the entry; so many at the end -/
def gap : Nat → List CpInfo → List CpInfo
  | 0, r => r
  | n + 1, r => .unusable :: gap n r
def poolList (es : List (Nat × CpInfo)) (last : Nat) : List CpInfo := es.foldr (fun e r => gap e.1 (e.2 :: r)) (gap last [])
def pool (es : List (Nat × CpInfo)) (last : Nat) : Array CpInfo := ⟨poolList es last⟩
def fileOf (pool : Array CpInfo) (this : Nat) (attrs : Array Attribute := #[]) (ms : Array MethodInfo := #[]) (fl : Nat := 33) (sup : Nat := 0) (ifs : Array Nat := #[]) (fds : Array FieldInfo := #[]) : ClassFile where
  minorVersion := 0
  majorVersion := 65
  constantPool := pool
  accessFlags := fl
  thisClass := this
  superClass := sup
  interfaces := ifs
  fields := fds
  methods := ms
  attributes := attrs
def plain (name : String) (sup : Option ClassId) : Class where
  name := name
  kind := .ordinary
  loader := none
  accessFlags := 33
  super := sup
  interfaces := #[]
  cf := none
  fields := #[]
  methods := #[]
  instanceTypes := #[]
  staticTypes := #[]
  resolved := #[]
  callSites := []
  init := .initialized
  statics := none
  mirror := none

def pool0 : Array CpInfo := pool [(5, u "<init>"), (0, u "()V"), (1, .class_ 10), (1, u "java/lang/Object"), (85, u "clone"), (0, u "()Ljava/lang/Object;")] 26

def k0m0 : Method := { name := "<init>", desc := "()V", sig := { parameters := [], returnType := none }, accessFlags := 1, code := none }
def k0m1 : Method := { name := "clone", desc := "()Ljava/lang/Object;", sig := { parameters := [], returnType := some (.object "java/lang/Object") }, accessFlags := 260, code := none }
/-- java/lang/Object -/
def k0 : Class := { plain "java/lang/Object" none with
  accessFlags := 33
  interfaces := #[]
  cf := some (fileOf pool0 8 #[] #[{ accessFlags := 1, nameIndex := 5, descriptorIndex := 6, attributes := #[] }, { accessFlags := 260, nameIndex := 96, descriptorIndex := 97, attributes := #[] }] 33 0 #[] #[])
  fields := #[]
  methods := #[k0m0, k0m1]
  instanceTypes := #[]
  staticTypes := #[]
  resolved := Array.replicate 124 none
  statics := none }

def pool1 : Array CpInfo := pool [(2, .class_ 4), (1, u "java/lang/Object"), (0, u "<init>"), (0, u "()V"), (0, .fieldref 8 9), (0, .class_ 10), (0, .nameAndType 11 12), (0, u "com/example/tightwire/tightwire/OpCode"), (0, u "OP_REPLY"), (0, u "Lcom/example/tightwire/tightwire/OpCode;"), (0, .fieldref 8 14), (0, .nameAndType 15 12), (0, u "OP_QUERY"), (0, .fieldref 8 17), (0, .nameAndType 18 12), (0, u "OP_COMPRESSED"), (0, .fieldref 8 20), (0, .nameAndType 21 12), (0, u "OP_MSG"), (0, .methodref 23 24), (0, .class_ 25), (0, .nameAndType 26 27), (0, u "com/example/tightwire/tightwire/OpCodeOfPinLaw"), (0, u "base"), (0, u "(I)I"), (0, .methodref 8 29), (0, .nameAndType 30 31), (0, u "of"), (0, u "(I)Lcom/example/tightwire/tightwire/OpCode;"), (0, .methodref 23 33), (0, .nameAndType 34 31), (0, u "expected"), (3, u "law"), (0, u "(II)Z")] 2

def k1m0 : Method := { name := "<init>", desc := "()V", sig := { parameters := [], returnType := none }, accessFlags := 1, code := none }
def k1c1 : Code := { maxStack := 2, maxLocals := 1, code := method_2_code, exceptionTable := #[], attributes := #[] }
def k1m1 : Method := { name := "base", desc := "(I)I", sig := { parameters := [.int], returnType := some .int }, accessFlags := 10, code := some k1c1 }
def k1c2 : Code := { maxStack := 2, maxLocals := 1, code := method_3_code, exceptionTable := #[], attributes := #[] }
def k1m2 : Method := { name := "expected", desc := "(I)Lcom/example/tightwire/tightwire/OpCode;", sig := { parameters := [.int], returnType := some (.object "com/example/tightwire/tightwire/OpCode") }, accessFlags := 10, code := some k1c2 }
def k1c3 : Code := { maxStack := 2, maxLocals := 5, code := code, exceptionTable := #[], attributes := #[] }
def k1m3 : Method := { name := "law", desc := "(II)Z", sig := { parameters := [.int, .int], returnType := some .boolean }, accessFlags := 9, code := some k1c3 }
/-- com/example/tightwire/tightwire/OpCodeOfPinLaw -/
def k1 : Class := { plain "com/example/tightwire/tightwire/OpCodeOfPinLaw" (some 0) with
  accessFlags := 49
  interfaces := #[]
  cf := some (fileOf pool1 23 #[] #[{ accessFlags := 1, nameIndex := 5, descriptorIndex := 6, attributes := #[] }, { accessFlags := 10, nameIndex := 26, descriptorIndex := 27, attributes := #[] }, { accessFlags := 10, nameIndex := 34, descriptorIndex := 31, attributes := #[] }, { accessFlags := 9, nameIndex := 38, descriptorIndex := 39, attributes := #[] }] 49 2 #[] #[])
  fields := #[]
  methods := #[k1m0, k1m1, k1m2, k1m3]
  instanceTypes := #[]
  staticTypes := #[]
  resolved := Array.replicate 42 none
  statics := none }

def pool2 : Array CpInfo := pool [(1, .class_ 2), (0, u "java/lang/constant/Constable"), (0, .class_ 4), (0, u "java/lang/Object")] 6

/-- java/lang/constant/Constable -/
def k2 : Class := { plain "java/lang/constant/Constable" (some 0) with
  accessFlags := 1537
  interfaces := #[]
  cf := some (fileOf pool2 1 #[] #[] 1537 3 #[] #[])
  fields := #[]
  methods := #[]
  instanceTypes := #[]
  staticTypes := #[]
  resolved := Array.replicate 11 none
  statics := none }

def pool3 : Array CpInfo := pool [(1, .class_ 2), (0, u "java/lang/Comparable"), (0, .class_ 4), (0, u "java/lang/Object")] 7

/-- java/lang/Comparable -/
def k3 : Class := { plain "java/lang/Comparable" (some 0) with
  accessFlags := 1537
  interfaces := #[]
  cf := some (fileOf pool3 1 #[] #[] 1537 3 #[] #[])
  fields := #[]
  methods := #[]
  instanceTypes := #[]
  staticTypes := #[]
  resolved := Array.replicate 12 none
  statics := none }

def pool4 : Array CpInfo := pool [(1, .class_ 2), (0, u "java/io/Serializable"), (0, .class_ 4), (0, u "java/lang/Object")] 2

/-- java/io/Serializable -/
def k4 : Class := { plain "java/io/Serializable" (some 0) with
  accessFlags := 1537
  interfaces := #[]
  cf := some (fileOf pool4 1 #[] #[] 1537 3 #[] #[])
  fields := #[]
  methods := #[]
  instanceTypes := #[]
  staticTypes := #[]
  resolved := Array.replicate 7 none
  statics := none }

def pool5 : Array CpInfo := pool [(2, .class_ 4), (1, u "java/lang/Enum"), (0, u "name"), (0, u "Ljava/lang/String;"), (2, u "ordinal"), (0, u "I"), (1, .class_ 14), (1, u "java/lang/Object"), (4, u "hash"), (86, .class_ 108), (1, u "java/lang/Enum$EnumDesc"), (2, .class_ 112), (0, u "java/lang/constant/Constable"), (0, .class_ 114), (0, u "java/lang/Comparable"), (0, .class_ 116), (0, u "java/io/Serializable")] 87

/-- java/lang/Enum -/
def k5 : Class := { plain "java/lang/Enum" (some 0) with
  accessFlags := 1057
  interfaces := #[2, 3, 4]
  cf := some (fileOf pool5 2 #[.nestMembers #[106]] #[] 1057 12 #[111, 113, 115] #[{ accessFlags := 18, nameIndex := 5, descriptorIndex := 6, attributes := #[] }, { accessFlags := 18, nameIndex := 9, descriptorIndex := 10, attributes := #[] }, { accessFlags := 2, nameIndex := 19, descriptorIndex := 10, attributes := #[] }])
  fields := #[{ name := "name", type := (.object "java/lang/String"), accessFlags := 18, slot := 0, constantValue := 0 }, { name := "ordinal", type := .int, accessFlags := 18, slot := 1, constantValue := 0 }, { name := "hash", type := .int, accessFlags := 2, slot := 2, constantValue := 0 }]
  methods := #[]
  instanceTypes := #[(.object "java/lang/String"), .int, .int]
  staticTypes := #[]
  resolved := Array.replicate 204 none
  statics := none }

def pool6 : Array CpInfo := pool [(1, .class_ 2), (0, u "com/example/tightwire/tightwire/OpCode"), (2, u "OP_REPLY"), (0, u "Lcom/example/tightwire/tightwire/OpCode;"), (2, u "OP_QUERY"), (2, u "OP_COMPRESSED"), (2, u "OP_MSG"), (0, .fieldref 1 17), (0, .nameAndType 18 19), (0, u "$VALUES"), (0, u "[Lcom/example/tightwire/tightwire/OpCode;"), (0, .methodref 21 22), (0, .class_ 19), (0, .nameAndType 23 24), (0, u "clone"), (0, u "()Ljava/lang/Object;"), (1, .class_ 28), (1, u "java/lang/Enum"), (6, .fieldref 1 36), (0, .nameAndType 37 38), (0, u "code"), (0, u "I"), (0, .methodref 1 40), (0, .nameAndType 41 42), (0, u "values"), (0, u "()[Lcom/example/tightwire/tightwire/OpCode;"), (16, u "of"), (0, u "(I)Lcom/example/tightwire/tightwire/OpCode;")] 7

def k6c0 : Code := { maxStack := 1, maxLocals := 0, code := prog_8_method_1_code, exceptionTable := #[], attributes := #[] }
def k6m0 : Method := { name := "values", desc := "()[Lcom/example/tightwire/tightwire/OpCode;", sig := { parameters := [], returnType := some (.array (.object "com/example/tightwire/tightwire/OpCode")) }, accessFlags := 9, code := some k6c0 }
def k6c1 : Code := { maxStack := 2, maxLocals := 5, code := prog_8_method_4_code, exceptionTable := #[], attributes := #[] }
def k6m1 : Method := { name := "of", desc := "(I)Lcom/example/tightwire/tightwire/OpCode;", sig := { parameters := [.int], returnType := some (.object "com/example/tightwire/tightwire/OpCode") }, accessFlags := 9, code := some k6c1 }
/-- com/example/tightwire/tightwire/OpCode -/
def k6 : Class := { plain "com/example/tightwire/tightwire/OpCode" (some 5) with
  accessFlags := 16433
  interfaces := #[]
  cf := some (fileOf pool6 1 #[] #[{ accessFlags := 9, nameIndex := 41, descriptorIndex := 42, attributes := #[] }, { accessFlags := 9, nameIndex := 59, descriptorIndex := 60, attributes := #[] }] 16433 26 #[] #[{ accessFlags := 16409, nameIndex := 5, descriptorIndex := 6, attributes := #[] }, { accessFlags := 16409, nameIndex := 9, descriptorIndex := 6, attributes := #[] }, { accessFlags := 16409, nameIndex := 12, descriptorIndex := 6, attributes := #[] }, { accessFlags := 16409, nameIndex := 15, descriptorIndex := 6, attributes := #[] }, { accessFlags := 18, nameIndex := 37, descriptorIndex := 38, attributes := #[] }, { accessFlags := 4122, nameIndex := 18, descriptorIndex := 19, attributes := #[] }])
  fields := #[{ name := "OP_REPLY", type := (.object "com/example/tightwire/tightwire/OpCode"), accessFlags := 16409, slot := 0, constantValue := 0 }, { name := "OP_QUERY", type := (.object "com/example/tightwire/tightwire/OpCode"), accessFlags := 16409, slot := 1, constantValue := 0 }, { name := "OP_COMPRESSED", type := (.object "com/example/tightwire/tightwire/OpCode"), accessFlags := 16409, slot := 2, constantValue := 0 }, { name := "OP_MSG", type := (.object "com/example/tightwire/tightwire/OpCode"), accessFlags := 16409, slot := 3, constantValue := 0 }, { name := "code", type := .int, accessFlags := 18, slot := 3, constantValue := 0 }, { name := "$VALUES", type := (.array (.object "com/example/tightwire/tightwire/OpCode")), accessFlags := 4122, slot := 4, constantValue := 0 }]
  methods := #[k6m0, k6m1]
  instanceTypes := #[(.object "java/lang/String"), .int, .int, .int]
  staticTypes := #[(.object "com/example/tightwire/tightwire/OpCode"), (.object "com/example/tightwire/tightwire/OpCode"), (.object "com/example/tightwire/tightwire/OpCode"), (.object "com/example/tightwire/tightwire/OpCode"), (.array (.object "com/example/tightwire/tightwire/OpCode"))]
  resolved := Array.replicate 68 none
  statics := some 0 }

def pool7 : Array CpInfo := pool [(1, .class_ 2), (0, u "java/lang/Cloneable"), (0, .class_ 4), (0, u "java/lang/Object")] 2

/-- java/lang/Cloneable -/
def k7 : Class := { plain "java/lang/Cloneable" (some 0) with
  accessFlags := 1537
  interfaces := #[]
  cf := some (fileOf pool7 1 #[] #[] 1537 3 #[] #[])
  fields := #[]
  methods := #[]
  instanceTypes := #[]
  staticTypes := #[]
  resolved := Array.replicate 7 none
  statics := none }

/-- the primitive byte -/
def k8 : Class := { plain "byte" none with kind := .primitive 'B', accessFlags := 0x411 }
/-- [B -/
def k9 : Class := { plain "[B" (some 0) with kind := .array 8 .byte, interfaces := #[7, 4], accessFlags := 1041 }

/-- the primitive int -/
def k10 : Class := { plain "int" none with kind := .primitive 'I', accessFlags := 0x411 }
/-- [I -/
def k11 : Class := { plain "[I" (some 0) with kind := .array 10 .int, interfaces := #[7, 4], accessFlags := 1041 }

/-- [Lcom/example/tightwire/tightwire/OpCode; -/
def k12 : Class := { plain "[Lcom/example/tightwire/tightwire/OpCode;" (some 0) with kind := .array 6 (.object "com/example/tightwire/tightwire/OpCode"), interfaces := #[7, 4], accessFlags := 1041 }

def heap : Heap := #[{ cls := 6, slots := #[.ref 2, .ref 3, .ref 4, .ref 5, .ref 1], vm := .statics 6 },
  { cls := 12, slots := #[.ref 2, .ref 3, .ref 4, .ref 5], vm := .none },
  { cls := 6, slots := #[.null, .int 0, .int 0, .int 1], vm := .none },
  { cls := 6, slots := #[.null, .int 1, .int 0, .int 2004], vm := .none },
  { cls := 6, slots := #[.null, .int 2, .int 0, .int 2012], vm := .none },
  { cls := 6, slots := #[.null, .int 3, .int 0, .int 2013], vm := .none }]
def classes : Array Class := #[k0, k1, k2, k3, k4, k5, k6, k7, k8, k9, k10, k11, k12]
def interned : List (Array UInt16 × Addr) := []
def slotsUsed : Nat := 25
def theMethod : MethodId := ⟨1, 3⟩
def args0 : Array Value := #[.int 5, .int 3]
def aboutOver (below : List Frame) : State where
  vm := { classes := classes, interned := interned.toArray }
  heap := heap
  slotsUsed := slotsUsed
  threads := #[{ frames := .invoking theMethod args0 :: below }]
def below0 : List Frame := [.native { method := ⟨0, 0⟩, args := #[] }]
def about1 : State := aboutOver below0
def p0 : Program := .bare "" "" ""
def e0 : Env := launch0.env 0 0 0
theorem w_frames : about1.frames = Frame.invoking theMethod args0 :: below0 := rfl
set_option maxRecDepth 65536 in
theorem w_args : argsFit about1.vm theMethod args0 = true := by decide +kernel
set_option maxRecDepth 65536 in
theorem w_heap : heapFits about1 = true := by decide +kernel
set_option maxRecDepth 65536 in
theorem w_runnable : about1.curStatus? = some .runnable := by decide +kernel
set_option maxRecDepth 65536 in
theorem w_alone : about1.alone = true := by decide +kernel
set_option maxRecDepth 65536 in
theorem w_named : about1.methodNamed? x = some theMethod := by decide +kernel
set_option maxRecDepth 65536 in
theorem w_hears : about1.hears theMethod below0 = true := by decide +kernel
set_option maxRecDepth 65536 in
theorem w_ripe : about1.ripe theMethod args0 below0 = true := by decide +kernel
theorem w_running : about1.status = .running := rfl
set_option maxRecDepth 65536 in
theorem w_room : about1.hasRoom e0.platform room_1 = true :=
  launch0.hasRoom_least _ room_1 (by decide +kernel) (by decide +kernel) (by decide +kernel) (by decide +kernel) (by decide +kernel) (by decide +kernel)
theorem allAtoms_all (ts : List Jvm.Cond) (a : Array Jvm.Value) (st : Jvm.State) : (allAtoms ts).before a st = ts.all (fun c => c.before a st) := by
  induction ts with
  | nil => rfl
  | cons c t ih =>
    show (Jvm.Cond.and c (allAtoms t)).before a st = _
    rw [Jvm.Cond.before_and, ih, List.all_cons]
def words1 : List Jvm.Cond := Jvm.Cond.code x code maxLocals ret :: tables_1
/-- a 'code' word, met by the world's own term for the bytes: nothing is compared byte by byte -/
theorem code_word {y : MethodName} {bytes : ByteArray} {mx : Nat} {rt : Option FieldType} {a : Array Value} {s : State} {m : MethodId} {meth : Method} {c : Code} (h1 : s.methodNamed? y = some m) (h2 : s.vm.method? m = some meth) (h3 : meth.code = some c) (h4 : c.code = bytes)
    (h5 : (c.maxLocals == mx && c.exceptionTable.isEmpty && decide (c.maxStack ≤ mostOperands) && decide (meth.sig.returnType = rt) && !meth.locks && decide (parseMethodDescriptor y.desc = some meth.sig)) = true) : (Jvm.Cond.code y bytes mx rt).before a s = true := by
  simp only [Bool.and_eq_true, beq_iff_eq, Bool.not_eq_true', decide_eq_true_eq] at h5
  obtain ⟨⟨⟨⟨⟨g1, g2⟩, g3⟩, g4⟩, g5⟩, g6⟩ := h5
  simp [Cond.before, Cond.holds, Cond.value, h1, h2, h3, h4, g1, g2, g3, g4, g5, g6]
def isCode : Jvm.Cond → Bool
  | .code _ _ _ _ => true
  | _ => false
theorem all_split {L : List Jvm.Cond} {P : Jvm.Cond → Bool} (h1 : L.all (fun c => isCode c || P c) = true) (h2 : ∀ c ∈ L.filter isCode, P c = true) : L.all P = true := by
  refine List.all_eq_true.mpr fun c hc => ?_
  have h := List.all_eq_true.mp h1 c hc
  rcases Bool.eq_false_or_eq_true (isCode c) with hi | hi
  · exact h2 c (List.mem_filter.mpr ⟨hc, hi⟩)
  · simpa [hi] using h
set_option maxRecDepth 65536 in
theorem w_c0 : (Jvm.Cond.code x code maxLocals ret).before args0 about1 = true := code_word (m := ⟨1, 3⟩) (meth := k1m3) (c := k1c3) (by decide +kernel) rfl rfl rfl (by decide +kernel)
set_option maxRecDepth 65536 in
theorem w_c1 : (Jvm.Cond.code ({ cls := "com/example/tightwire/tightwire/OpCodeOfPinLaw", name := "base", desc := "(I)I" } : Jvm.MethodName) method_2_code (1 : Nat) (Option.some Jvm.ClassFile.FieldType.int)).before args0 about1 = true := code_word (m := ⟨1, 1⟩) (meth := k1m1) (c := k1c1) (by decide +kernel) rfl rfl rfl (by decide +kernel)
set_option maxRecDepth 65536 in
theorem w_c2 : (Jvm.Cond.code ({ cls := "com/example/tightwire/tightwire/OpCode", name := "of", desc := "(I)Lcom/example/tightwire/tightwire/OpCode;" } : Jvm.MethodName) prog_8_method_4_code (5 : Nat) (Option.some (Jvm.ClassFile.FieldType.object "com/example/tightwire/tightwire/OpCode"))).before args0 about1 = true := code_word (m := ⟨6, 1⟩) (meth := k6m1) (c := k6c1) (by decide +kernel) rfl rfl rfl (by decide +kernel)
set_option maxRecDepth 65536 in
theorem w_c3 : (Jvm.Cond.code ({ cls := "com/example/tightwire/tightwire/OpCode", name := "values", desc := "()[Lcom/example/tightwire/tightwire/OpCode;" } : Jvm.MethodName) prog_8_method_1_code (0 : Nat) (Option.some (Jvm.ClassFile.FieldType.array (Jvm.ClassFile.FieldType.object "com/example/tightwire/tightwire/OpCode")))).before args0 about1 = true := code_word (m := ⟨6, 0⟩) (meth := k6m0) (c := k6c0) (by decide +kernel) rfl rfl rfl (by decide +kernel)
set_option maxRecDepth 65536 in
theorem w_c4 : (Jvm.Cond.code ({ cls := "com/example/tightwire/tightwire/OpCodeOfPinLaw", name := "expected", desc := "(I)Lcom/example/tightwire/tightwire/OpCode;" } : Jvm.MethodName) method_3_code (1 : Nat) (Option.some (Jvm.ClassFile.FieldType.object "com/example/tightwire/tightwire/OpCode"))).before args0 about1 = true := code_word (m := ⟨1, 2⟩) (meth := k1m2) (c := k1c2) (by decide +kernel) rfl rfl rfl (by decide +kernel)
def codes1 : List Jvm.Cond := [Jvm.Cond.code x code maxLocals ret, Jvm.Cond.code ({ cls := "com/example/tightwire/tightwire/OpCodeOfPinLaw", name := "base", desc := "(I)I" } : Jvm.MethodName) method_2_code (1 : Nat) (Option.some Jvm.ClassFile.FieldType.int), Jvm.Cond.code ({ cls := "com/example/tightwire/tightwire/OpCode", name := "of", desc := "(I)Lcom/example/tightwire/tightwire/OpCode;" } : Jvm.MethodName) prog_8_method_4_code (5 : Nat) (Option.some (Jvm.ClassFile.FieldType.object "com/example/tightwire/tightwire/OpCode")), Jvm.Cond.code ({ cls := "com/example/tightwire/tightwire/OpCode", name := "values", desc := "()[Lcom/example/tightwire/tightwire/OpCode;" } : Jvm.MethodName) prog_8_method_1_code (0 : Nat) (Option.some (Jvm.ClassFile.FieldType.array (Jvm.ClassFile.FieldType.object "com/example/tightwire/tightwire/OpCode"))), Jvm.Cond.code ({ cls := "com/example/tightwire/tightwire/OpCodeOfPinLaw", name := "expected", desc := "(I)Lcom/example/tightwire/tightwire/OpCode;" } : Jvm.MethodName) method_3_code (1 : Nat) (Option.some (Jvm.ClassFile.FieldType.object "com/example/tightwire/tightwire/OpCode"))]
set_option maxRecDepth 65536 in
theorem codes_eq : words1.filter isCode = codes1 := rfl
theorem w_codes : ∀ c ∈ words1.filter isCode, c.before args0 about1 = true := by
  rw [codes_eq]
  intro c hc
  simp only [codes1, List.mem_cons, List.not_mem_nil, or_false] at hc
  rcases hc with rfl | rfl | rfl | rfl | rfl
  · exact w_c0
  · exact w_c1
  · exact w_c2
  · exact w_c3
  · exact w_c4
set_option maxRecDepth 65536 in
theorem w_t1 : (words1.take 24).all (fun c => isCode c || c.before args0 about1) = true := by decide +kernel
set_option maxRecDepth 65536 in
theorem w_t2 : (words1.drop 24).all (fun c => isCode c || c.before args0 about1) = true := by decide +kernel
theorem w_tables : (allAtoms (Jvm.Cond.code x code maxLocals ret :: tables_1)).before args0 about1 = true := by
  rw [allAtoms_all]
  show words1.all (fun c => c.before args0 about1) = true
  refine all_split ?_ w_codes
  rw [← List.take_append_drop 24 words1, List.all_append, w_t1, w_t2]
  rfl
set_option maxRecDepth 65536 in
theorem w_case : (Jvm.Cond.and given_1 narrow_1).before args0 about1 = true := by decide +kernel
theorem w_applies : (headSpec (Jvm.Cond.code x code maxLocals ret :: tables_1) room_1).applies x e0.platform about1 = true :=
  (Spec.applies_iff w_frames).mpr ⟨w_running, w_runnable, w_alone, w_named, w_hears, w_ripe, w_room, w_tables⟩
theorem atStart : AtStart classFile x code maxLocals ret World_1 tables_1 room_1 Calls_1 rest_1 Pre_1 launch0 p0 e0 about1 theMethod args0 below0 :=
  ⟨lists_1, trivial, launch0.admits_env _ _ _, launch0.least_env, fairChoices_fair.cas, fairChoices_fair.clock, w_frames, w_args, w_heap, w_applies, trivial, trivial, w_case⟩
end start1
theorem witness_1 : WitnessClaimed_1 := ⟨start1.p0, start1.e0, start1.about1, start1.theMethod, start1.args0, start1.below0, start1.atStart⟩
end Jvm.Pilot.@@N@@
