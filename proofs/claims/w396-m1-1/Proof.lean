import JvmDerived
import JvmDerived.Pilot.@@N@@Statement
import JvmDerived.Pilot.@@N@@Code
set_option linter.unusedVariables false
set_option linter.unusedSimpArgs false
namespace Jvm.OwnKit
open Jvm Sem ClassFile Op Lib Jvm.Stand Jvm.Free Jvm.LawKit Jvm.RoadKit
/-- what a body's walk knows of its frame throughout -/
def Cx (p : Program) (s : State) (m : MethodId) (meth : Method) (c : Code) (Z : State) (y : MethodName) (bytes : ByteArray) (ml : Nat) (ret : Option FieldType) : Prop :=
  p.tables.exec = Jvm.exec ∧ Z.Warmed39 s.vm ∧ s.vm.findClass y.cls = some m.cls ∧ c.code = bytes ∧ c.maxLocals = ml ∧ meth.sig.returnType = ret ∧ meth.locks = false ∧ meth.name = y.name
/-- from the heap h, k cells and n slots made so far, the frame at pc with these locals and this stack comes to its end, and Q holds of the result and the last heap -/
def W (p : Program) (l : Launch) (e : Env) (R : Room) (s : State) (m : MethodId) (args : Array Value) (below : List Frame) (meth : Method) (c : Code) (n0 : Nat) (Q : Option Value → Heap → Prop) (kc ks : Nat)
    (k n : Nat) (h : Heap) (pc : Nat) (ls : Array Slot) (st : List Value) : Prop :=
  ∀ (T : State) (locs : List Loc), Stand p l e R s m args below meth c T locs k n → T.heap = h → Fr n0 locs →
    ∃ s₂ o, Steps p.tables e below (T.setTop (mkF m pc ls st)) s₂ ∧ s₂.status = .running ∧ Ended s₂ below o ∧ ∃ v L, o = .returned v ∧ (Q v s₂.heap ∧ Fr n0 L) ∧ FrameEnd s o s₂ L kc ks
/-- a body's contract -/
def Con (l : Launch) (Z : State) (y : MethodName) (bytes : ByteArray) (ml : Nat) (ret : Option FieldType) (rm : Room) (as' : Array Value) (h0 : Heap) (n0 : Nat) (Q : Option Value → Heap → Prop) : Prop :=
  ∀ ws : List Jvm.Cond, MetFree l y (head1 (Jvm.Cond.code y bytes ml ret :: ws) rm) (fun a U => a = as' ∧ Z.Warmed39 U.vm ∧ U.heap = h0) (fun _ _ _ _ _ => True) (fun _ U o U' => ∃ v L, o = .returned v ∧ (Q v U'.heap ∧ Fr n0 L) ∧ FrameEnd U o U' L rm.cells rm.slots)
/-- it returns v and leaves the heap -/
def Pu (v : Option Value) (h : Heap) : Option Value → Heap → Prop := fun v' h' => v' = v ∧ h = h'
section
variable {p : Program} {l : Launch} {e : Env} {R : Room} {s : State} {m : MethodId} {args : Array Value} {below : List Frame} {meth : Method} {c : Code} {Z : State} {y : MethodName} {bytes : ByteArray} {ml : Nat} {ret : Option FieldType} {n0 : Nat} {Q : Option Value → Heap → Prop} {kc ks k n : Nat} {h : Heap} {pc : Nat} {ls : Array Slot} {st : List Value} {a0 : Array Value}
theorem Cx.a (C : Cx p s m meth c Z y bytes ml ret) {pc : Nat} {r : Except ClassFile.DecodeError (ClassFile.Instr × Nat)} (h2 : ClassFile.decode bytes pc = r) : ClassFile.decode c.code pc = r := C.2.2.2.1 ▸ h2
theorem Con.of {rm : Room} {as' : Array Value} {h0 : Heap} (hpn : plainFor y = true) {ls : Array Slot} (hent : ∀ m, entryFrame m as' ml = mkF m 0 ls [])
    (hW : ∀ p e s m below meth c, Cx p s m meth c Z y bytes ml ret → W p l e rm s m as' below meth c n0 Q rm.cells rm.slots 0 0 h0 0 ls []) : Con l Z y bytes ml ret rm as' h0 n0 Q := by
  intro ws
  refine MetFree.of_bodySF hpn hisR ?_
  intro p e s m args below meth c s₁ Bd hml0 hP hK
  obtain ⟨rfl, hZ, hh⟩ := hP
  have X0 : Stand p l e rm s m _ below meth c s₁ [] 0 0 := Stand.of_body Bd
  have e0 : s₁.heap = h0 := by rw [← hh, Bd.state]; rfl
  obtain ⟨s₂, o, h1, h2⟩ := hW p e s m below meth c ⟨Bd.exec, hZ, findClass_of_methodNamed Bd.named, Bd.bytes, hml0, Bd.returns, Bd.notSynchronized, (name_of_methodNamed Bd.named Bd.method).1⟩ s₁ [] X0 e0 (Fr.nil n0)
  exact ⟨s₂, o, castTop (hent m) h1, h2⟩
theorem W.lift {pc' : Nat} {ls' : Array Slot} {st' : List Value} (f : ∀ T target, At T m c below → Steps p.tables e below (T.setTop (mkF m pc' ls' st')) target → Steps p.tables e below (T.setTop (mkF m pc ls st)) target) (K : W p l e R s m args below meth c n0 Q kc ks k n h pc' ls' st') : W p l e R s m args below meth c n0 Q kc ks k n h pc ls st := fun T locs X eT N => by
  obtain ⟨s₂, o, h1, h2⟩ := K T locs X eT N
  exact ⟨s₂, o, f T _ X.here h1, h2⟩
theorem W.heap {h' : Heap} (q : h = h') (K : W p l e R s m args below meth c n0 Q kc ks k n h' pc ls st) : W p l e R s m args below meth c n0 Q kc ks k n h pc ls st := q ▸ K
theorem W.room {k' n' : Nat} (hk : k ≤ k') (hn : n ≤ n') (K : W p l e R s m args below meth c n0 Q kc ks k' n' h pc ls st) : W p l e R s m args below meth c n0 Q kc ks k n h pc ls st := fun T locs X eT N => K T locs ⟨X.admits, X.cas, X.clock, X.frames, X.room, X.hears, X.method, X.code, X.here, X.tail, X.warmed, X.limits, X.bytes, X.same.mono hk hn⟩ eT N
theorem W.iaddV (C : Cx p s m meth c Z y bytes ml ret) {u v : Int32} (z : Int32) (d : decode bytes pc = .ok (.iadd, 1)) (hz : (u + v) = z) (K : W p l e R s m args below meth c n0 Q kc ks k n h (pc + 1) ls (.int z :: st)) : W p l e R s m args below meth c n0 Q kc ks k n h pc ls (.int v :: .int u :: st) :=
  W.lift (fun T t H S => XS.iadd H C.1 rfl (C.a d) rfl (by subst hz; exact S)) K
theorem W.iadd (C : Cx p s m meth c Z y bytes ml ret) {u v : Int32} (d : decode bytes pc = .ok (.iadd, 1)) (K : W p l e R s m args below meth c n0 Q kc ks k n h (pc + 1) ls (.int (u + v) :: st)) : W p l e R s m args below meth c n0 Q kc ks k n h pc ls (.int v :: .int u :: st) :=
  W.lift (fun T t H S => XS.iadd H C.1 rfl (C.a d) rfl S) K
theorem W.isubV (C : Cx p s m meth c Z y bytes ml ret) {u v : Int32} (z : Int32) (d : decode bytes pc = .ok (.isub, 1)) (hz : (u - v) = z) (K : W p l e R s m args below meth c n0 Q kc ks k n h (pc + 1) ls (.int z :: st)) : W p l e R s m args below meth c n0 Q kc ks k n h pc ls (.int v :: .int u :: st) :=
  W.lift (fun T t H S => XS.isub H C.1 rfl (C.a d) rfl (by subst hz; exact S)) K
theorem W.isub (C : Cx p s m meth c Z y bytes ml ret) {u v : Int32} (d : decode bytes pc = .ok (.isub, 1)) (K : W p l e R s m args below meth c n0 Q kc ks k n h (pc + 1) ls (.int (u - v) :: st)) : W p l e R s m args below meth c n0 Q kc ks k n h pc ls (.int v :: .int u :: st) :=
  W.lift (fun T t H S => XS.isub H C.1 rfl (C.a d) rfl S) K
theorem W.imulV (C : Cx p s m meth c Z y bytes ml ret) {u v : Int32} (z : Int32) (d : decode bytes pc = .ok (.imul, 1)) (hz : (u * v) = z) (K : W p l e R s m args below meth c n0 Q kc ks k n h (pc + 1) ls (.int z :: st)) : W p l e R s m args below meth c n0 Q kc ks k n h pc ls (.int v :: .int u :: st) :=
  W.lift (fun T t H S => XS.imul H C.1 rfl (C.a d) rfl (by subst hz; exact S)) K
theorem W.imul (C : Cx p s m meth c Z y bytes ml ret) {u v : Int32} (d : decode bytes pc = .ok (.imul, 1)) (K : W p l e R s m args below meth c n0 Q kc ks k n h (pc + 1) ls (.int (u * v) :: st)) : W p l e R s m args below meth c n0 Q kc ks k n h pc ls (.int v :: .int u :: st) :=
  W.lift (fun T t H S => XS.imul H C.1 rfl (C.a d) rfl S) K
theorem W.iandV (C : Cx p s m meth c Z y bytes ml ret) {u v : Int32} (z : Int32) (d : decode bytes pc = .ok (.iand, 1)) (hz : (u &&& v) = z) (K : W p l e R s m args below meth c n0 Q kc ks k n h (pc + 1) ls (.int z :: st)) : W p l e R s m args below meth c n0 Q kc ks k n h pc ls (.int v :: .int u :: st) :=
  W.lift (fun T t H S => XS.iand H C.1 rfl (C.a d) rfl (by subst hz; exact S)) K
theorem W.iand (C : Cx p s m meth c Z y bytes ml ret) {u v : Int32} (d : decode bytes pc = .ok (.iand, 1)) (K : W p l e R s m args below meth c n0 Q kc ks k n h (pc + 1) ls (.int (u &&& v) :: st)) : W p l e R s m args below meth c n0 Q kc ks k n h pc ls (.int v :: .int u :: st) :=
  W.lift (fun T t H S => XS.iand H C.1 rfl (C.a d) rfl S) K
theorem W.iorV (C : Cx p s m meth c Z y bytes ml ret) {u v : Int32} (z : Int32) (d : decode bytes pc = .ok (.ior, 1)) (hz : (u ||| v) = z) (K : W p l e R s m args below meth c n0 Q kc ks k n h (pc + 1) ls (.int z :: st)) : W p l e R s m args below meth c n0 Q kc ks k n h pc ls (.int v :: .int u :: st) :=
  W.lift (fun T t H S => XS.ior H C.1 rfl (C.a d) rfl (by subst hz; exact S)) K
theorem W.ior (C : Cx p s m meth c Z y bytes ml ret) {u v : Int32} (d : decode bytes pc = .ok (.ior, 1)) (K : W p l e R s m args below meth c n0 Q kc ks k n h (pc + 1) ls (.int (u ||| v) :: st)) : W p l e R s m args below meth c n0 Q kc ks k n h pc ls (.int v :: .int u :: st) :=
  W.lift (fun T t H S => XS.ior H C.1 rfl (C.a d) rfl S) K
theorem W.ixorV (C : Cx p s m meth c Z y bytes ml ret) {u v : Int32} (z : Int32) (d : decode bytes pc = .ok (.ixor, 1)) (hz : (u ^^^ v) = z) (K : W p l e R s m args below meth c n0 Q kc ks k n h (pc + 1) ls (.int z :: st)) : W p l e R s m args below meth c n0 Q kc ks k n h pc ls (.int v :: .int u :: st) :=
  W.lift (fun T t H S => XS.ixor H C.1 rfl (C.a d) rfl (by subst hz; exact S)) K
theorem W.ixor (C : Cx p s m meth c Z y bytes ml ret) {u v : Int32} (d : decode bytes pc = .ok (.ixor, 1)) (K : W p l e R s m args below meth c n0 Q kc ks k n h (pc + 1) ls (.int (u ^^^ v) :: st)) : W p l e R s m args below meth c n0 Q kc ks k n h pc ls (.int v :: .int u :: st) :=
  W.lift (fun T t H S => XS.ixor H C.1 rfl (C.a d) rfl S) K
theorem W.ishlV (C : Cx p s m meth c Z y bytes ml ret) {u v : Int32} (z : Int32) (d : decode bytes pc = .ok (.ishl, 1)) (hz : (u <<< (v &&& 31)) = z) (K : W p l e R s m args below meth c n0 Q kc ks k n h (pc + 1) ls (.int z :: st)) : W p l e R s m args below meth c n0 Q kc ks k n h pc ls (.int v :: .int u :: st) :=
  W.lift (fun T t H S => XS.ishl H C.1 rfl (C.a d) rfl (by subst hz; exact S)) K
theorem W.ishl (C : Cx p s m meth c Z y bytes ml ret) {u v : Int32} (d : decode bytes pc = .ok (.ishl, 1)) (K : W p l e R s m args below meth c n0 Q kc ks k n h (pc + 1) ls (.int (u <<< (v &&& 31)) :: st)) : W p l e R s m args below meth c n0 Q kc ks k n h pc ls (.int v :: .int u :: st) :=
  W.lift (fun T t H S => XS.ishl H C.1 rfl (C.a d) rfl S) K
theorem W.ishrV (C : Cx p s m meth c Z y bytes ml ret) {u v : Int32} (z : Int32) (d : decode bytes pc = .ok (.ishr, 1)) (hz : (u >>> (v &&& 31)) = z) (K : W p l e R s m args below meth c n0 Q kc ks k n h (pc + 1) ls (.int z :: st)) : W p l e R s m args below meth c n0 Q kc ks k n h pc ls (.int v :: .int u :: st) :=
  W.lift (fun T t H S => XS.ishr H C.1 rfl (C.a d) rfl (by subst hz; exact S)) K
theorem W.ishr (C : Cx p s m meth c Z y bytes ml ret) {u v : Int32} (d : decode bytes pc = .ok (.ishr, 1)) (K : W p l e R s m args below meth c n0 Q kc ks k n h (pc + 1) ls (.int (u >>> (v &&& 31)) :: st)) : W p l e R s m args below meth c n0 Q kc ks k n h pc ls (.int v :: .int u :: st) :=
  W.lift (fun T t H S => XS.ishr H C.1 rfl (C.a d) rfl S) K
theorem W.iushrV (C : Cx p s m meth c Z y bytes ml ret) {u v : Int32} (z : Int32) (d : decode bytes pc = .ok (.iushr, 1)) (hz : ((u.toUInt32 >>> (v &&& 31).toUInt32).toInt32) = z) (K : W p l e R s m args below meth c n0 Q kc ks k n h (pc + 1) ls (.int z :: st)) : W p l e R s m args below meth c n0 Q kc ks k n h pc ls (.int v :: .int u :: st) :=
  W.lift (fun T t H S => XS.iushr H C.1 rfl (C.a d) rfl (by subst hz; exact S)) K
theorem W.iushr (C : Cx p s m meth c Z y bytes ml ret) {u v : Int32} (d : decode bytes pc = .ok (.iushr, 1)) (K : W p l e R s m args below meth c n0 Q kc ks k n h (pc + 1) ls (.int ((u.toUInt32 >>> (v &&& 31).toUInt32).toInt32) :: st)) : W p l e R s m args below meth c n0 Q kc ks k n h pc ls (.int v :: .int u :: st) :=
  W.lift (fun T t H S => XS.iushr H C.1 rfl (C.a d) rfl S) K
theorem W.laddV (C : Cx p s m meth c Z y bytes ml ret) {u v : Int64} (z : Int64) (d : decode bytes pc = .ok (.ladd, 1)) (hz : (u + v) = z) (K : W p l e R s m args below meth c n0 Q kc ks k n h (pc + 1) ls (.long z :: st)) : W p l e R s m args below meth c n0 Q kc ks k n h pc ls (.long v :: .long u :: st) :=
  W.lift (fun T t H S => XS.ladd H C.1 rfl (C.a d) rfl (by subst hz; exact S)) K
theorem W.ladd (C : Cx p s m meth c Z y bytes ml ret) {u v : Int64} (d : decode bytes pc = .ok (.ladd, 1)) (K : W p l e R s m args below meth c n0 Q kc ks k n h (pc + 1) ls (.long (u + v) :: st)) : W p l e R s m args below meth c n0 Q kc ks k n h pc ls (.long v :: .long u :: st) :=
  W.lift (fun T t H S => XS.ladd H C.1 rfl (C.a d) rfl S) K
theorem W.lsubV (C : Cx p s m meth c Z y bytes ml ret) {u v : Int64} (z : Int64) (d : decode bytes pc = .ok (.lsub, 1)) (hz : (u - v) = z) (K : W p l e R s m args below meth c n0 Q kc ks k n h (pc + 1) ls (.long z :: st)) : W p l e R s m args below meth c n0 Q kc ks k n h pc ls (.long v :: .long u :: st) :=
  W.lift (fun T t H S => XS.lsub H C.1 rfl (C.a d) rfl (by subst hz; exact S)) K
theorem W.lsub (C : Cx p s m meth c Z y bytes ml ret) {u v : Int64} (d : decode bytes pc = .ok (.lsub, 1)) (K : W p l e R s m args below meth c n0 Q kc ks k n h (pc + 1) ls (.long (u - v) :: st)) : W p l e R s m args below meth c n0 Q kc ks k n h pc ls (.long v :: .long u :: st) :=
  W.lift (fun T t H S => XS.lsub H C.1 rfl (C.a d) rfl S) K
theorem W.lmulV (C : Cx p s m meth c Z y bytes ml ret) {u v : Int64} (z : Int64) (d : decode bytes pc = .ok (.lmul, 1)) (hz : (u * v) = z) (K : W p l e R s m args below meth c n0 Q kc ks k n h (pc + 1) ls (.long z :: st)) : W p l e R s m args below meth c n0 Q kc ks k n h pc ls (.long v :: .long u :: st) :=
  W.lift (fun T t H S => XS.lmul H C.1 rfl (C.a d) rfl (by subst hz; exact S)) K
theorem W.lmul (C : Cx p s m meth c Z y bytes ml ret) {u v : Int64} (d : decode bytes pc = .ok (.lmul, 1)) (K : W p l e R s m args below meth c n0 Q kc ks k n h (pc + 1) ls (.long (u * v) :: st)) : W p l e R s m args below meth c n0 Q kc ks k n h pc ls (.long v :: .long u :: st) :=
  W.lift (fun T t H S => XS.lmul H C.1 rfl (C.a d) rfl S) K
theorem W.landV (C : Cx p s m meth c Z y bytes ml ret) {u v : Int64} (z : Int64) (d : decode bytes pc = .ok (.land, 1)) (hz : (u &&& v) = z) (K : W p l e R s m args below meth c n0 Q kc ks k n h (pc + 1) ls (.long z :: st)) : W p l e R s m args below meth c n0 Q kc ks k n h pc ls (.long v :: .long u :: st) :=
  W.lift (fun T t H S => XS.land H C.1 rfl (C.a d) rfl (by subst hz; exact S)) K
theorem W.land (C : Cx p s m meth c Z y bytes ml ret) {u v : Int64} (d : decode bytes pc = .ok (.land, 1)) (K : W p l e R s m args below meth c n0 Q kc ks k n h (pc + 1) ls (.long (u &&& v) :: st)) : W p l e R s m args below meth c n0 Q kc ks k n h pc ls (.long v :: .long u :: st) :=
  W.lift (fun T t H S => XS.land H C.1 rfl (C.a d) rfl S) K
theorem W.lorV (C : Cx p s m meth c Z y bytes ml ret) {u v : Int64} (z : Int64) (d : decode bytes pc = .ok (.lor, 1)) (hz : (u ||| v) = z) (K : W p l e R s m args below meth c n0 Q kc ks k n h (pc + 1) ls (.long z :: st)) : W p l e R s m args below meth c n0 Q kc ks k n h pc ls (.long v :: .long u :: st) :=
  W.lift (fun T t H S => XS.lor H C.1 rfl (C.a d) rfl (by subst hz; exact S)) K
theorem W.lor (C : Cx p s m meth c Z y bytes ml ret) {u v : Int64} (d : decode bytes pc = .ok (.lor, 1)) (K : W p l e R s m args below meth c n0 Q kc ks k n h (pc + 1) ls (.long (u ||| v) :: st)) : W p l e R s m args below meth c n0 Q kc ks k n h pc ls (.long v :: .long u :: st) :=
  W.lift (fun T t H S => XS.lor H C.1 rfl (C.a d) rfl S) K
theorem W.lxorV (C : Cx p s m meth c Z y bytes ml ret) {u v : Int64} (z : Int64) (d : decode bytes pc = .ok (.lxor, 1)) (hz : (u ^^^ v) = z) (K : W p l e R s m args below meth c n0 Q kc ks k n h (pc + 1) ls (.long z :: st)) : W p l e R s m args below meth c n0 Q kc ks k n h pc ls (.long v :: .long u :: st) :=
  W.lift (fun T t H S => XS.lxor H C.1 rfl (C.a d) rfl (by subst hz; exact S)) K
theorem W.lxor (C : Cx p s m meth c Z y bytes ml ret) {u v : Int64} (d : decode bytes pc = .ok (.lxor, 1)) (K : W p l e R s m args below meth c n0 Q kc ks k n h (pc + 1) ls (.long (u ^^^ v) :: st)) : W p l e R s m args below meth c n0 Q kc ks k n h pc ls (.long v :: .long u :: st) :=
  W.lift (fun T t H S => XS.lxor H C.1 rfl (C.a d) rfl S) K
theorem W.lshlV (C : Cx p s m meth c Z y bytes ml ret) {u : Int64} {v : Int32} (z : Int64) (d : decode bytes pc = .ok (.lshl, 1)) (hz : (u <<< (v &&& 0x3f).toInt64) = z) (K : W p l e R s m args below meth c n0 Q kc ks k n h (pc + 1) ls (.long z :: st)) : W p l e R s m args below meth c n0 Q kc ks k n h pc ls (.int v :: .long u :: st) :=
  W.lift (fun T t H S => XS.lshl H C.1 rfl (C.a d) rfl (by subst hz; exact S)) K
theorem W.lshl (C : Cx p s m meth c Z y bytes ml ret) {u : Int64} {v : Int32} (d : decode bytes pc = .ok (.lshl, 1)) (K : W p l e R s m args below meth c n0 Q kc ks k n h (pc + 1) ls (.long (u <<< (v &&& 0x3f).toInt64) :: st)) : W p l e R s m args below meth c n0 Q kc ks k n h pc ls (.int v :: .long u :: st) :=
  W.lift (fun T t H S => XS.lshl H C.1 rfl (C.a d) rfl S) K
theorem W.lshrV (C : Cx p s m meth c Z y bytes ml ret) {u : Int64} {v : Int32} (z : Int64) (d : decode bytes pc = .ok (.lshr, 1)) (hz : (u >>> (v &&& 0x3f).toInt64) = z) (K : W p l e R s m args below meth c n0 Q kc ks k n h (pc + 1) ls (.long z :: st)) : W p l e R s m args below meth c n0 Q kc ks k n h pc ls (.int v :: .long u :: st) :=
  W.lift (fun T t H S => XS.lshr H C.1 rfl (C.a d) rfl (by subst hz; exact S)) K
theorem W.lshr (C : Cx p s m meth c Z y bytes ml ret) {u : Int64} {v : Int32} (d : decode bytes pc = .ok (.lshr, 1)) (K : W p l e R s m args below meth c n0 Q kc ks k n h (pc + 1) ls (.long (u >>> (v &&& 0x3f).toInt64) :: st)) : W p l e R s m args below meth c n0 Q kc ks k n h pc ls (.int v :: .long u :: st) :=
  W.lift (fun T t H S => XS.lshr H C.1 rfl (C.a d) rfl S) K
theorem W.lushrV (C : Cx p s m meth c Z y bytes ml ret) {u : Int64} {v : Int32} (z : Int64) (d : decode bytes pc = .ok (.lushr, 1)) (hz : ((u.toUInt64 >>> (v &&& 0x3f).toInt64.toUInt64).toInt64) = z) (K : W p l e R s m args below meth c n0 Q kc ks k n h (pc + 1) ls (.long z :: st)) : W p l e R s m args below meth c n0 Q kc ks k n h pc ls (.int v :: .long u :: st) :=
  W.lift (fun T t H S => XS.lushr H C.1 rfl (C.a d) rfl (by subst hz; exact S)) K
theorem W.lushr (C : Cx p s m meth c Z y bytes ml ret) {u : Int64} {v : Int32} (d : decode bytes pc = .ok (.lushr, 1)) (K : W p l e R s m args below meth c n0 Q kc ks k n h (pc + 1) ls (.long ((u.toUInt64 >>> (v &&& 0x3f).toInt64.toUInt64).toInt64) :: st)) : W p l e R s m args below meth c n0 Q kc ks k n h pc ls (.int v :: .long u :: st) :=
  W.lift (fun T t H S => XS.lushr H C.1 rfl (C.a d) rfl S) K
theorem W.idivV (C : Cx p s m meth c Z y bytes ml ret) {u v : Int32} (z : Int32) (d : decode bytes pc = .ok (.idiv, 1)) (hy : v ≠ 0) (hz : (u / v) = z) (K : W p l e R s m args below meth c n0 Q kc ks k n h (pc + 1) ls (.int z :: st)) : W p l e R s m args below meth c n0 Q kc ks k n h pc ls (.int v :: .int u :: st) :=
  W.lift (fun T t H S => XS.idiv H C.1 rfl (C.a d) rfl hy (by subst hz; exact S)) K
theorem W.idiv (C : Cx p s m meth c Z y bytes ml ret) {u v : Int32} (d : decode bytes pc = .ok (.idiv, 1)) (hy : v ≠ 0) (K : W p l e R s m args below meth c n0 Q kc ks k n h (pc + 1) ls (.int (u / v) :: st)) : W p l e R s m args below meth c n0 Q kc ks k n h pc ls (.int v :: .int u :: st) :=
  W.lift (fun T t H S => XS.idiv H C.1 rfl (C.a d) rfl hy S) K
theorem W.irem (C : Cx p s m meth c Z y bytes ml ret) {u v : Int32} (d : decode bytes pc = .ok (.irem, 1)) (hy : v ≠ 0) (K : W p l e R s m args below meth c n0 Q kc ks k n h (pc + 1) ls (.int (u % v) :: st)) : W p l e R s m args below meth c n0 Q kc ks k n h pc ls (.int v :: .int u :: st) :=
  W.lift (fun T t H S => XS.irem H C.1 rfl (C.a d) rfl hy (by rw [irem_eq_mod u v]; exact S)) K
theorem W.ldivV (C : Cx p s m meth c Z y bytes ml ret) {u v : Int64} (z : Int64) (d : decode bytes pc = .ok (.ldiv, 1)) (hy : v ≠ 0) (hz : (u / v) = z) (K : W p l e R s m args below meth c n0 Q kc ks k n h (pc + 1) ls (.long z :: st)) : W p l e R s m args below meth c n0 Q kc ks k n h pc ls (.long v :: .long u :: st) :=
  W.lift (fun T t H S => XS.ldiv H C.1 rfl (C.a d) rfl hy (by subst hz; exact S)) K
theorem W.ldiv (C : Cx p s m meth c Z y bytes ml ret) {u v : Int64} (d : decode bytes pc = .ok (.ldiv, 1)) (hy : v ≠ 0) (K : W p l e R s m args below meth c n0 Q kc ks k n h (pc + 1) ls (.long (u / v) :: st)) : W p l e R s m args below meth c n0 Q kc ks k n h pc ls (.long v :: .long u :: st) :=
  W.lift (fun T t H S => XS.ldiv H C.1 rfl (C.a d) rfl hy S) K
theorem W.lrem (C : Cx p s m meth c Z y bytes ml ret) {u v : Int64} (d : decode bytes pc = .ok (.lrem, 1)) (hy : v ≠ 0) (K : W p l e R s m args below meth c n0 Q kc ks k n h (pc + 1) ls (.long (u % v) :: st)) : W p l e R s m args below meth c n0 Q kc ks k n h pc ls (.long v :: .long u :: st) :=
  W.lift (fun T t H S => XS.lrem H C.1 rfl (C.a d) rfl hy (by rw [lrem_mod u v]; exact S)) K
theorem W.inegV (C : Cx p s m meth c Z y bytes ml ret) {u : Int32} (z : Int32) (d : decode bytes pc = .ok (.ineg, 1)) (hz : (-u) = z) (K : W p l e R s m args below meth c n0 Q kc ks k n h (pc + 1) ls (.int z :: st)) : W p l e R s m args below meth c n0 Q kc ks k n h pc ls (.int u :: st) :=
  W.lift (fun T t H S => XS.ineg H C.1 rfl (C.a d) rfl (by subst hz; exact S)) K
theorem W.ineg (C : Cx p s m meth c Z y bytes ml ret) {u : Int32} (d : decode bytes pc = .ok (.ineg, 1)) (K : W p l e R s m args below meth c n0 Q kc ks k n h (pc + 1) ls (.int (-u) :: st)) : W p l e R s m args below meth c n0 Q kc ks k n h pc ls (.int u :: st) :=
  W.lift (fun T t H S => XS.ineg H C.1 rfl (C.a d) rfl S) K
theorem W.i2bV (C : Cx p s m meth c Z y bytes ml ret) {u : Int32} (z : Int32) (d : decode bytes pc = .ok (.i2b, 1)) (hz : (u.toInt8.toInt32) = z) (K : W p l e R s m args below meth c n0 Q kc ks k n h (pc + 1) ls (.int z :: st)) : W p l e R s m args below meth c n0 Q kc ks k n h pc ls (.int u :: st) :=
  W.lift (fun T t H S => XS.i2b H C.1 rfl (C.a d) rfl (by subst hz; exact S)) K
theorem W.i2b (C : Cx p s m meth c Z y bytes ml ret) {u : Int32} (d : decode bytes pc = .ok (.i2b, 1)) (K : W p l e R s m args below meth c n0 Q kc ks k n h (pc + 1) ls (.int (u.toInt8.toInt32) :: st)) : W p l e R s m args below meth c n0 Q kc ks k n h pc ls (.int u :: st) :=
  W.lift (fun T t H S => XS.i2b H C.1 rfl (C.a d) rfl S) K
theorem W.i2cV (C : Cx p s m meth c Z y bytes ml ret) {u : Int32} (z : Int32) (d : decode bytes pc = .ok (.i2c, 1)) (hz : (u.toUInt32.toUInt16.toUInt32.toInt32) = z) (K : W p l e R s m args below meth c n0 Q kc ks k n h (pc + 1) ls (.int z :: st)) : W p l e R s m args below meth c n0 Q kc ks k n h pc ls (.int u :: st) :=
  W.lift (fun T t H S => XS.i2c H C.1 rfl (C.a d) rfl (by subst hz; exact S)) K
theorem W.i2c (C : Cx p s m meth c Z y bytes ml ret) {u : Int32} (d : decode bytes pc = .ok (.i2c, 1)) (K : W p l e R s m args below meth c n0 Q kc ks k n h (pc + 1) ls (.int (u.toUInt32.toUInt16.toUInt32.toInt32) :: st)) : W p l e R s m args below meth c n0 Q kc ks k n h pc ls (.int u :: st) :=
  W.lift (fun T t H S => XS.i2c H C.1 rfl (C.a d) rfl S) K
theorem W.i2sV (C : Cx p s m meth c Z y bytes ml ret) {u : Int32} (z : Int32) (d : decode bytes pc = .ok (.i2s, 1)) (hz : (u.toInt16.toInt32) = z) (K : W p l e R s m args below meth c n0 Q kc ks k n h (pc + 1) ls (.int z :: st)) : W p l e R s m args below meth c n0 Q kc ks k n h pc ls (.int u :: st) :=
  W.lift (fun T t H S => XS.i2s H C.1 rfl (C.a d) rfl (by subst hz; exact S)) K
theorem W.i2s (C : Cx p s m meth c Z y bytes ml ret) {u : Int32} (d : decode bytes pc = .ok (.i2s, 1)) (K : W p l e R s m args below meth c n0 Q kc ks k n h (pc + 1) ls (.int (u.toInt16.toInt32) :: st)) : W p l e R s m args below meth c n0 Q kc ks k n h pc ls (.int u :: st) :=
  W.lift (fun T t H S => XS.i2s H C.1 rfl (C.a d) rfl S) K
theorem W.i2lV (C : Cx p s m meth c Z y bytes ml ret) {u : Int32} (z : Int64) (d : decode bytes pc = .ok (.i2l, 1)) (hz : u.toInt64 = z) (K : W p l e R s m args below meth c n0 Q kc ks k n h (pc + 1) ls (.long z :: st)) : W p l e R s m args below meth c n0 Q kc ks k n h pc ls (.int u :: st) :=
  W.lift (fun T t H S => XS.i2l H C.1 rfl (C.a d) rfl (by subst hz; exact S)) K
theorem W.i2l (C : Cx p s m meth c Z y bytes ml ret) {u : Int32} (d : decode bytes pc = .ok (.i2l, 1)) (K : W p l e R s m args below meth c n0 Q kc ks k n h (pc + 1) ls (.long u.toInt64 :: st)) : W p l e R s m args below meth c n0 Q kc ks k n h pc ls (.int u :: st) :=
  W.lift (fun T t H S => XS.i2l H C.1 rfl (C.a d) rfl S) K
theorem W.l2iV (C : Cx p s m meth c Z y bytes ml ret) {u : Int64} (z : Int32) (d : decode bytes pc = .ok (.l2i, 1)) (hz : u.toInt32 = z) (K : W p l e R s m args below meth c n0 Q kc ks k n h (pc + 1) ls (.int z :: st)) : W p l e R s m args below meth c n0 Q kc ks k n h pc ls (.long u :: st) :=
  W.lift (fun T t H S => XS.l2i H C.1 rfl (C.a d) rfl (by subst hz; exact S)) K
theorem W.l2i (C : Cx p s m meth c Z y bytes ml ret) {u : Int64} (d : decode bytes pc = .ok (.l2i, 1)) (K : W p l e R s m args below meth c n0 Q kc ks k n h (pc + 1) ls (.int u.toInt32 :: st)) : W p l e R s m args below meth c n0 Q kc ks k n h pc ls (.long u :: st) :=
  W.lift (fun T t H S => XS.l2i H C.1 rfl (C.a d) rfl S) K
theorem W.lnegV (C : Cx p s m meth c Z y bytes ml ret) {u : Int64} (z : Int64) (d : decode bytes pc = .ok (.lneg, 1)) (hz : (-u) = z) (K : W p l e R s m args below meth c n0 Q kc ks k n h (pc + 1) ls (.long z :: st)) : W p l e R s m args below meth c n0 Q kc ks k n h pc ls (.long u :: st) :=
  W.lift (fun T t H S => XS.lneg H C.1 rfl (C.a d) rfl (by subst hz; exact S)) K
theorem W.lneg (C : Cx p s m meth c Z y bytes ml ret) {u : Int64} (d : decode bytes pc = .ok (.lneg, 1)) (K : W p l e R s m args below meth c n0 Q kc ks k n h (pc + 1) ls (.long (-u) :: st)) : W p l e R s m args below meth c n0 Q kc ks k n h pc ls (.long u :: st) :=
  W.lift (fun T t H S => XS.lneg H C.1 rfl (C.a d) rfl S) K
theorem W.lcmpV (C : Cx p s m meth c Z y bytes ml ret) {u v : Int64} (z : Int32) (d : decode bytes pc = .ok (.lcmp, 1)) (hz : (lcmpW u v) = z) (K : W p l e R s m args below meth c n0 Q kc ks k n h (pc + 1) ls (.int z :: st)) : W p l e R s m args below meth c n0 Q kc ks k n h pc ls (.long v :: .long u :: st) :=
  W.lift (fun T t H S => XS.lcmp H C.1 rfl (C.a d) rfl (by subst hz; exact S)) K
theorem W.lcmp (C : Cx p s m meth c Z y bytes ml ret) {u v : Int64} (d : decode bytes pc = .ok (.lcmp, 1)) (K : W p l e R s m args below meth c n0 Q kc ks k n h (pc + 1) ls (.int (lcmpW u v) :: st)) : W p l e R s m args below meth c n0 Q kc ks k n h pc ls (.long v :: .long u :: st) :=
  W.lift (fun T t H S => XS.lcmp H C.1 rfl (C.a d) rfl S) K
theorem W.pop (C : Cx p s m meth c Z y bytes ml ret) {u : Value} (d : decode bytes pc = .ok (.pop, 1)) (hc : u.category = 1) (K : W p l e R s m args below meth c n0 Q kc ks k n h (pc + 1) ls (st)) : W p l e R s m args below meth c n0 Q kc ks k n h pc ls (u :: st) :=
  W.lift (fun T t H S => XS.pop H C.1 rfl (C.a d) rfl hc S) K
theorem W.dup (C : Cx p s m meth c Z y bytes ml ret) {u : Value} (d : decode bytes pc = .ok (.dup, 1)) (hc : u.category = 1) (K : W p l e R s m args below meth c n0 Q kc ks k n h (pc + 1) ls (u :: u :: st)) : W p l e R s m args below meth c n0 Q kc ks k n h pc ls (u :: st) :=
  W.lift (fun T t H S => XS.dup H C.1 rfl (C.a d) rfl hc S) K
theorem W.dupX1 (C : Cx p s m meth c Z y bytes ml ret) {u v : Value} (d : decode bytes pc = .ok (.dup_x1, 1)) (hc : u.category = 1) (hc' : v.category = 1) (K : W p l e R s m args below meth c n0 Q kc ks k n h (pc + 1) ls (u :: v :: u :: st)) : W p l e R s m args below meth c n0 Q kc ks k n h pc ls (u :: v :: st) :=
  W.lift (fun T t H S => XT.dupX1 H C.1 rfl (C.a d) rfl hc hc' S) K
theorem W.dup2 (C : Cx p s m meth c Z y bytes ml ret) {u v : Value} (d : decode bytes pc = .ok (.dup2, 1)) (hc : u.category = 1) (hc' : v.category = 1) (K : W p l e R s m args below meth c n0 Q kc ks k n h (pc + 1) ls (u :: v :: u :: v :: st)) : W p l e R s m args below meth c n0 Q kc ks k n h pc ls (u :: v :: st) :=
  W.lift (fun T t H S => XT.dup2 H C.1 rfl (C.a d) rfl hc hc' S) K
theorem W.dup2L (C : Cx p s m meth c Z y bytes ml ret) {u : Int64} (d : decode bytes pc = .ok (.dup2, 1)) (K : W p l e R s m args below meth c n0 Q kc ks k n h (pc + 1) ls (.long u :: .long u :: st)) : W p l e R s m args below meth c n0 Q kc ks k n h pc ls (.long u :: st) :=
  W.lift (fun T t H S => XT.dup2L H C.1 rfl (C.a d) rfl S) K
theorem W.aconstNull (C : Cx p s m meth c Z y bytes ml ret)  (d : decode bytes pc = .ok (.aconst_null, 1)) (K : W p l e R s m args below meth c n0 Q kc ks k n h (pc + 1) ls (.null :: st)) : W p l e R s m args below meth c n0 Q kc ks k n h pc ls (st) :=
  W.lift (fun T t H S => XS.aconstNull H C.1 rfl (C.a d)  S) K
theorem W.iconst (C : Cx p s m meth c Z y bytes ml ret) {i : Int} (v : Int32) (d : decode bytes pc = .ok (.iconst i, 1)) (hv : Int32.ofInt i = v) (K : W p l e R s m args below meth c n0 Q kc ks k n h (pc + 1) ls (.int v :: st)) : W p l e R s m args below meth c n0 Q kc ks k n h pc ls st :=
  W.lift (fun T t H S => XS.iconst H C.1 rfl (C.a d) (by rw [hv]; exact S)) K
theorem W.bipush (C : Cx p s m meth c Z y bytes ml ret) {i : Int} (v : Int32) (d : decode bytes pc = .ok (.bipush i, 2)) (hv : (Int8.ofInt i).toInt32 = v) (K : W p l e R s m args below meth c n0 Q kc ks k n h (pc + 2) ls (.int v :: st)) : W p l e R s m args below meth c n0 Q kc ks k n h pc ls st :=
  W.lift (fun T t H S => XS.bipush H C.1 rfl (C.a d) (by rw [hv]; exact S)) K
theorem W.sipush (C : Cx p s m meth c Z y bytes ml ret) {i : Int} (v : Int32) (d : decode bytes pc = .ok (.sipush i, 3)) (hv : (Int16.ofInt i).toInt32 = v) (K : W p l e R s m args below meth c n0 Q kc ks k n h (pc + 3) ls (.int v :: st)) : W p l e R s m args below meth c n0 Q kc ks k n h pc ls st :=
  W.lift (fun T t H S => XS.sipush H C.1 rfl (C.a d) (by rw [hv]; exact S)) K
theorem W.lconst (C : Cx p s m meth c Z y bytes ml ret) {i : Fin 2} (v : Int64) (d : decode bytes pc = .ok (.lconst i, 1)) (hv : Int64.ofNat i = v) (K : W p l e R s m args below meth c n0 Q kc ks k n h (pc + 1) ls (.long v :: st)) : W p l e R s m args below meth c n0 Q kc ks k n h pc ls st :=
  W.lift (fun T t H S => XS.lconst H C.1 rfl (C.a d) (by rw [hv]; exact S)) K
theorem W.iloadN (C : Cx p s m meth c Z y bytes ml ret) {i : Fin 4} {v : Int32} (d : decode bytes pc = .ok (.iload_n i, 1)) (hl : ls[i.val]? = some (.val (.int v))) (K : W p l e R s m args below meth c n0 Q kc ks k n h (pc + 1) ls (.int v :: st)) : W p l e R s m args below meth c n0 Q kc ks k n h pc ls st :=
  W.lift (fun T t H S => XS.iloadN H C.1 rfl (C.a d) hl S) K
theorem W.iload (C : Cx p s m meth c Z y bytes ml ret) {i : Nat} {v : Int32} (d : decode bytes pc = .ok (.iload i, 2)) (hl : ls[i]? = some (.val (.int v))) (K : W p l e R s m args below meth c n0 Q kc ks k n h (pc + 2) ls (.int v :: st)) : W p l e R s m args below meth c n0 Q kc ks k n h pc ls st :=
  W.lift (fun T t H S => XS.iload H C.1 rfl (C.a d) hl S) K
theorem W.istoreN (C : Cx p s m meth c Z y bytes ml ret) {i : Fin 4} {v : Int32} (l' : Array Slot) (d : decode bytes pc = .ok (.istore_n i, 1)) (hl : storeLocals ls i.val (.int v) = some l') (K : W p l e R s m args below meth c n0 Q kc ks k n h (pc + 1) l' st) : W p l e R s m args below meth c n0 Q kc ks k n h pc ls (.int v :: st) :=
  W.lift (fun T t H S => XS.istoreN H C.1 rfl (C.a d) rfl hl S) K
theorem W.istore (C : Cx p s m meth c Z y bytes ml ret) {i : Nat} {v : Int32} (l' : Array Slot) (d : decode bytes pc = .ok (.istore i, 2)) (hl : storeLocals ls i (.int v) = some l') (K : W p l e R s m args below meth c n0 Q kc ks k n h (pc + 2) l' st) : W p l e R s m args below meth c n0 Q kc ks k n h pc ls (.int v :: st) :=
  W.lift (fun T t H S => XS.istore H C.1 rfl (C.a d) rfl hl S) K
theorem W.lloadN (C : Cx p s m meth c Z y bytes ml ret) {i : Fin 4} {v : Int64} (d : decode bytes pc = .ok (.lload_n i, 1)) (hl : ls[i.val]? = some (.val (.long v))) (K : W p l e R s m args below meth c n0 Q kc ks k n h (pc + 1) ls (.long v :: st)) : W p l e R s m args below meth c n0 Q kc ks k n h pc ls st :=
  W.lift (fun T t H S => XS.lloadN H C.1 rfl (C.a d) hl S) K
theorem W.lload (C : Cx p s m meth c Z y bytes ml ret) {i : Nat} {v : Int64} (d : decode bytes pc = .ok (.lload i, 2)) (hl : ls[i]? = some (.val (.long v))) (K : W p l e R s m args below meth c n0 Q kc ks k n h (pc + 2) ls (.long v :: st)) : W p l e R s m args below meth c n0 Q kc ks k n h pc ls st :=
  W.lift (fun T t H S => XS.lload H C.1 rfl (C.a d) hl S) K
theorem W.lstoreN (C : Cx p s m meth c Z y bytes ml ret) {i : Fin 4} {v : Int64} (l' : Array Slot) (d : decode bytes pc = .ok (.lstore_n i, 1)) (hl : storeLocals ls i.val (.long v) = some l') (K : W p l e R s m args below meth c n0 Q kc ks k n h (pc + 1) l' st) : W p l e R s m args below meth c n0 Q kc ks k n h pc ls (.long v :: st) :=
  W.lift (fun T t H S => XS.lstoreN H C.1 rfl (C.a d) rfl hl S) K
theorem W.lstore (C : Cx p s m meth c Z y bytes ml ret) {i : Nat} {v : Int64} (l' : Array Slot) (d : decode bytes pc = .ok (.lstore i, 2)) (hl : storeLocals ls i (.long v) = some l') (K : W p l e R s m args below meth c n0 Q kc ks k n h (pc + 2) l' st) : W p l e R s m args below meth c n0 Q kc ks k n h pc ls (.long v :: st) :=
  W.lift (fun T t H S => XS.lstore H C.1 rfl (C.a d) rfl hl S) K
theorem W.aloadN (C : Cx p s m meth c Z y bytes ml ret) {i : Fin 4} {v : Value} (d : decode bytes pc = .ok (.aload_n i, 1)) (hl : ls[i.val]? = some (.val v)) (hv : v.isRef = true) (K : W p l e R s m args below meth c n0 Q kc ks k n h (pc + 1) ls (v :: st)) : W p l e R s m args below meth c n0 Q kc ks k n h pc ls st :=
  W.lift (fun T t H S => XS.aloadN H C.1 rfl (C.a d) hl hv S) K
theorem W.aload (C : Cx p s m meth c Z y bytes ml ret) {i : Nat} {v : Value} (d : decode bytes pc = .ok (.aload i, 2)) (hl : ls[i]? = some (.val v)) (hv : v.isRef = true) (K : W p l e R s m args below meth c n0 Q kc ks k n h (pc + 2) ls (v :: st)) : W p l e R s m args below meth c n0 Q kc ks k n h pc ls st :=
  W.lift (fun T t H S => XS.aload H C.1 rfl (C.a d) hl hv S) K
theorem W.astoreN (C : Cx p s m meth c Z y bytes ml ret) {i : Fin 4} {v : Value} (l' : Array Slot) (d : decode bytes pc = .ok (.astore_n i, 1)) (hv : v.isRef = true) (hl : storeLocals ls i.val v = some l') (K : W p l e R s m args below meth c n0 Q kc ks k n h (pc + 1) l' st) : W p l e R s m args below meth c n0 Q kc ks k n h pc ls (v :: st) :=
  W.lift (fun T t H S => XS.astoreN H C.1 rfl (C.a d) rfl hv hl S) K
theorem W.astore (C : Cx p s m meth c Z y bytes ml ret) {i : Nat} {v : Value} (l' : Array Slot) (d : decode bytes pc = .ok (.astore i, 2)) (hv : v.isRef = true) (hl : storeLocals ls i v = some l') (K : W p l e R s m args below meth c n0 Q kc ks k n h (pc + 2) l' st) : W p l e R s m args below meth c n0 Q kc ks k n h pc ls (v :: st) :=
  W.lift (fun T t H S => XS.astore H C.1 rfl (C.a d) rfl hv hl S) K
theorem W.istoreO (C : Cx p s m meth c Z y bytes ml ret) {i : Nat} {v : Int32} {o : Slot} (l' : Array Slot) (d : decode bytes pc = .ok (.istore i, 2)) (hold : ls[i]? = some o) (ho : One o) (hl : ls.setIfInBounds i (.val (.int v)) = l') (K : W p l e R s m args below meth c n0 Q kc ks k n h (pc + 2) l' st) : W p l e R s m args below meth c n0 Q kc ks k n h pc ls (.int v :: st) :=
  W.lift (fun T t H S => XS.istoreS H C.1 rfl (C.a d) rfl hold ho (by rw [hl]; exact S)) K
theorem W.istoreNO (C : Cx p s m meth c Z y bytes ml ret) {i : Fin 4} {v : Int32} {o : Slot} (l' : Array Slot) (d : decode bytes pc = .ok (.istore_n i, 1)) (hold : ls[i.val]? = some o) (ho : One o) (hl : ls.setIfInBounds i.val (.val (.int v)) = l') (K : W p l e R s m args below meth c n0 Q kc ks k n h (pc + 1) l' st) : W p l e R s m args below meth c n0 Q kc ks k n h pc ls (.int v :: st) :=
  W.lift (fun T t H S => XS.istoreNS H C.1 rfl (C.a d) rfl hold ho (by rw [hl]; exact S)) K
theorem W.iinc (C : Cx p s m meth c Z y bytes ml ret) {i : Nat} {cst : Int} {u : Int32} (v : Int32) (l' : Array Slot) (d : decode bytes pc = .ok (.iinc i cst, 3)) (hl : ls[i]? = some (.val (.int u))) (hv : u + Int32.ofInt cst = v) (hl' : storeLocals ls i (.int v) = some l') (K : W p l e R s m args below meth c n0 Q kc ks k n h (pc + 3) l' st) : W p l e R s m args below meth c n0 Q kc ks k n h pc ls st :=
  W.lift (fun T t H S => XS.iinc H C.1 rfl (C.a d) hl (by rw [hv]; exact hl') S) K
theorem jmp {pc pc' : Nat} {o : Int} (hp : (pc : Int) + o = pc') : 0 ≤ (pc : Int) + o ∧ ((pc : Int) + o).toNat = pc' := by omega
theorem W.goto (C : Cx p s m meth c Z y bytes ml ret) {o : Int} (pc' : Nat) (d : decode bytes pc = .ok (.goto o, 3)) (hp : (pc : Int) + o = pc') (K : W p l e R s m args below meth c n0 Q kc ks k n h pc' ls st) : W p l e R s m args below meth c n0 Q kc ks k n h pc ls st :=
  W.lift (fun T t H S => XS.goto H C.1 rfl (pc0 := pc) (pc' := pc') rfl (C.a d) (jmp hp).1 (jmp hp).2 S) K
theorem W.icmp_eq (C : Cx p s m meth c Z y bytes ml ret) {u v : Int32} {o : Int} (pc' : Nat) (d : decode bytes pc = .ok (.if_icmp .eq o, 3)) (hp : (pc : Int) + o = pc') (yes : u = v → W p l e R s m args below meth c n0 Q kc ks k n h pc' ls st) (no : ¬ u = v → W p l e R s m args below meth c n0 Q kc ks k n h (pc + 3) ls st) : W p l e R s m args below meth c n0 Q kc ks k n h pc ls (.int v :: .int u :: st) := by
  by_cases b : u = v
  · exact W.lift (fun T t H S => XS.icmpYes H C.1 rfl (pc0 := pc) (pc' := pc') rfl (C.a d) rfl (XT.ii_eq_t b) (jmp hp).1 (jmp hp).2 S) (yes b)
  · exact W.lift (fun T t H S => XS.icmpNo H C.1 rfl (C.a d) rfl (XT.ii_eq_f b) S) (no b)
theorem W.if_eq (C : Cx p s m meth c Z y bytes ml ret) {u : Int32} {o : Int} (pc' : Nat) (d : decode bytes pc = .ok (.ifCond .eq o, 3)) (hp : (pc : Int) + o = pc') (yes : u = 0 → W p l e R s m args below meth c n0 Q kc ks k n h pc' ls st) (no : ¬ u = 0 → W p l e R s m args below meth c n0 Q kc ks k n h (pc + 3) ls st) : W p l e R s m args below meth c n0 Q kc ks k n h pc ls (.int u :: st) := by
  by_cases b : u = 0
  · exact W.lift (fun T t H S => XS.ifYes H C.1 rfl (pc0 := pc) (pc' := pc') rfl (C.a d) rfl (XT.i0_eq_t b) (jmp hp).1 (jmp hp).2 S) (yes b)
  · exact W.lift (fun T t H S => XS.ifNo H C.1 rfl (C.a d) rfl (XT.i0_eq_f b) S) (no b)
theorem ll_eq_t {u v : Int64} (b : u = v) : ifCond.holds .eq (lcmpW u v) = true := XT.ll_eq_t b
theorem ll_eq_f {u v : Int64} (b : ¬ u = v) : ifCond.holds .eq (lcmpW u v) = false := XT.ll_eq_f b
theorem W.lif_eq (C : Cx p s m meth c Z y bytes ml ret) {u v : Int64} {o : Int} (pc' : Nat) (d : decode bytes pc = .ok (.ifCond .eq o, 3)) (hp : (pc : Int) + o = pc') (yes : u = v → W p l e R s m args below meth c n0 Q kc ks k n h pc' ls st) (no : ¬ u = v → W p l e R s m args below meth c n0 Q kc ks k n h (pc + 3) ls st) : W p l e R s m args below meth c n0 Q kc ks k n h pc ls (.int (lcmpW u v) :: st) := by
  by_cases b : u = v
  · exact W.lift (fun T t H S => XS.ifYes H C.1 rfl (pc0 := pc) (pc' := pc') rfl (C.a d) rfl (ll_eq_t b) (jmp hp).1 (jmp hp).2 S) (yes b)
  · exact W.lift (fun T t H S => XS.ifNo H C.1 rfl (C.a d) rfl (ll_eq_f b) S) (no b)
theorem W.icmp_ne (C : Cx p s m meth c Z y bytes ml ret) {u v : Int32} {o : Int} (pc' : Nat) (d : decode bytes pc = .ok (.if_icmp .ne o, 3)) (hp : (pc : Int) + o = pc') (yes : ¬ u = v → W p l e R s m args below meth c n0 Q kc ks k n h pc' ls st) (no : u = v → W p l e R s m args below meth c n0 Q kc ks k n h (pc + 3) ls st) : W p l e R s m args below meth c n0 Q kc ks k n h pc ls (.int v :: .int u :: st) := by
  by_cases b : u = v
  · exact W.lift (fun T t H S => XS.icmpNo H C.1 rfl (C.a d) rfl (XT.ii_ne_f b) S) (no b)
  · exact W.lift (fun T t H S => XS.icmpYes H C.1 rfl (pc0 := pc) (pc' := pc') rfl (C.a d) rfl (XT.ii_ne_t b) (jmp hp).1 (jmp hp).2 S) (yes b)
theorem W.if_ne (C : Cx p s m meth c Z y bytes ml ret) {u : Int32} {o : Int} (pc' : Nat) (d : decode bytes pc = .ok (.ifCond .ne o, 3)) (hp : (pc : Int) + o = pc') (yes : ¬ u = 0 → W p l e R s m args below meth c n0 Q kc ks k n h pc' ls st) (no : u = 0 → W p l e R s m args below meth c n0 Q kc ks k n h (pc + 3) ls st) : W p l e R s m args below meth c n0 Q kc ks k n h pc ls (.int u :: st) := by
  by_cases b : u = 0
  · exact W.lift (fun T t H S => XS.ifNo H C.1 rfl (C.a d) rfl (XT.i0_ne_f b) S) (no b)
  · exact W.lift (fun T t H S => XS.ifYes H C.1 rfl (pc0 := pc) (pc' := pc') rfl (C.a d) rfl (XT.i0_ne_t b) (jmp hp).1 (jmp hp).2 S) (yes b)
theorem ll_ne_t {u v : Int64} (b : ¬ u = v) : ifCond.holds .ne (lcmpW u v) = true := XT.ll_ne_t b
theorem ll_ne_f {u v : Int64} (b : u = v) : ifCond.holds .ne (lcmpW u v) = false := XT.ll_ne_f b
theorem W.lif_ne (C : Cx p s m meth c Z y bytes ml ret) {u v : Int64} {o : Int} (pc' : Nat) (d : decode bytes pc = .ok (.ifCond .ne o, 3)) (hp : (pc : Int) + o = pc') (yes : ¬ u = v → W p l e R s m args below meth c n0 Q kc ks k n h pc' ls st) (no : u = v → W p l e R s m args below meth c n0 Q kc ks k n h (pc + 3) ls st) : W p l e R s m args below meth c n0 Q kc ks k n h pc ls (.int (lcmpW u v) :: st) := by
  by_cases b : u = v
  · exact W.lift (fun T t H S => XS.ifNo H C.1 rfl (C.a d) rfl (ll_ne_f b) S) (no b)
  · exact W.lift (fun T t H S => XS.ifYes H C.1 rfl (pc0 := pc) (pc' := pc') rfl (C.a d) rfl (ll_ne_t b) (jmp hp).1 (jmp hp).2 S) (yes b)
theorem W.icmp_lt (C : Cx p s m meth c Z y bytes ml ret) {u v : Int32} {o : Int} (pc' : Nat) (d : decode bytes pc = .ok (.if_icmp .lt o, 3)) (hp : (pc : Int) + o = pc') (yes : u < v → W p l e R s m args below meth c n0 Q kc ks k n h pc' ls st) (no : ¬ u < v → W p l e R s m args below meth c n0 Q kc ks k n h (pc + 3) ls st) : W p l e R s m args below meth c n0 Q kc ks k n h pc ls (.int v :: .int u :: st) := by
  by_cases b : u < v
  · exact W.lift (fun T t H S => XS.icmpYes H C.1 rfl (pc0 := pc) (pc' := pc') rfl (C.a d) rfl (XT.ii_lt_t b) (jmp hp).1 (jmp hp).2 S) (yes b)
  · exact W.lift (fun T t H S => XS.icmpNo H C.1 rfl (C.a d) rfl (XT.ii_lt_f b) S) (no b)
theorem W.if_lt (C : Cx p s m meth c Z y bytes ml ret) {u : Int32} {o : Int} (pc' : Nat) (d : decode bytes pc = .ok (.ifCond .lt o, 3)) (hp : (pc : Int) + o = pc') (yes : u < 0 → W p l e R s m args below meth c n0 Q kc ks k n h pc' ls st) (no : ¬ u < 0 → W p l e R s m args below meth c n0 Q kc ks k n h (pc + 3) ls st) : W p l e R s m args below meth c n0 Q kc ks k n h pc ls (.int u :: st) := by
  by_cases b : u < 0
  · exact W.lift (fun T t H S => XS.ifYes H C.1 rfl (pc0 := pc) (pc' := pc') rfl (C.a d) rfl (XT.i0_lt_t b) (jmp hp).1 (jmp hp).2 S) (yes b)
  · exact W.lift (fun T t H S => XS.ifNo H C.1 rfl (C.a d) rfl (XT.i0_lt_f b) S) (no b)
theorem ll_lt_t {u v : Int64} (b : u < v) : ifCond.holds .lt (lcmpW u v) = true := XT.ll_lt_t b
theorem ll_lt_f {u v : Int64} (b : ¬ u < v) : ifCond.holds .lt (lcmpW u v) = false := XT.ll_lt_f b
theorem W.lif_lt (C : Cx p s m meth c Z y bytes ml ret) {u v : Int64} {o : Int} (pc' : Nat) (d : decode bytes pc = .ok (.ifCond .lt o, 3)) (hp : (pc : Int) + o = pc') (yes : u < v → W p l e R s m args below meth c n0 Q kc ks k n h pc' ls st) (no : ¬ u < v → W p l e R s m args below meth c n0 Q kc ks k n h (pc + 3) ls st) : W p l e R s m args below meth c n0 Q kc ks k n h pc ls (.int (lcmpW u v) :: st) := by
  by_cases b : u < v
  · exact W.lift (fun T t H S => XS.ifYes H C.1 rfl (pc0 := pc) (pc' := pc') rfl (C.a d) rfl (ll_lt_t b) (jmp hp).1 (jmp hp).2 S) (yes b)
  · exact W.lift (fun T t H S => XS.ifNo H C.1 rfl (C.a d) rfl (ll_lt_f b) S) (no b)
theorem W.icmp_ge (C : Cx p s m meth c Z y bytes ml ret) {u v : Int32} {o : Int} (pc' : Nat) (d : decode bytes pc = .ok (.if_icmp .ge o, 3)) (hp : (pc : Int) + o = pc') (yes : ¬ u < v → W p l e R s m args below meth c n0 Q kc ks k n h pc' ls st) (no : u < v → W p l e R s m args below meth c n0 Q kc ks k n h (pc + 3) ls st) : W p l e R s m args below meth c n0 Q kc ks k n h pc ls (.int v :: .int u :: st) := by
  by_cases b : u < v
  · exact W.lift (fun T t H S => XS.icmpNo H C.1 rfl (C.a d) rfl (XT.ii_ge_f b) S) (no b)
  · exact W.lift (fun T t H S => XS.icmpYes H C.1 rfl (pc0 := pc) (pc' := pc') rfl (C.a d) rfl (XT.ii_ge_t b) (jmp hp).1 (jmp hp).2 S) (yes b)
theorem W.if_ge (C : Cx p s m meth c Z y bytes ml ret) {u : Int32} {o : Int} (pc' : Nat) (d : decode bytes pc = .ok (.ifCond .ge o, 3)) (hp : (pc : Int) + o = pc') (yes : ¬ u < 0 → W p l e R s m args below meth c n0 Q kc ks k n h pc' ls st) (no : u < 0 → W p l e R s m args below meth c n0 Q kc ks k n h (pc + 3) ls st) : W p l e R s m args below meth c n0 Q kc ks k n h pc ls (.int u :: st) := by
  by_cases b : u < 0
  · exact W.lift (fun T t H S => XS.ifNo H C.1 rfl (C.a d) rfl (XT.i0_ge_f b) S) (no b)
  · exact W.lift (fun T t H S => XS.ifYes H C.1 rfl (pc0 := pc) (pc' := pc') rfl (C.a d) rfl (XT.i0_ge_t b) (jmp hp).1 (jmp hp).2 S) (yes b)
theorem ll_ge_t {u v : Int64} (b : ¬ u < v) : ifCond.holds .ge (lcmpW u v) = true := XT.ll_ge_t b
theorem ll_ge_f {u v : Int64} (b : u < v) : ifCond.holds .ge (lcmpW u v) = false := XT.ll_ge_f b
theorem W.lif_ge (C : Cx p s m meth c Z y bytes ml ret) {u v : Int64} {o : Int} (pc' : Nat) (d : decode bytes pc = .ok (.ifCond .ge o, 3)) (hp : (pc : Int) + o = pc') (yes : ¬ u < v → W p l e R s m args below meth c n0 Q kc ks k n h pc' ls st) (no : u < v → W p l e R s m args below meth c n0 Q kc ks k n h (pc + 3) ls st) : W p l e R s m args below meth c n0 Q kc ks k n h pc ls (.int (lcmpW u v) :: st) := by
  by_cases b : u < v
  · exact W.lift (fun T t H S => XS.ifNo H C.1 rfl (C.a d) rfl (ll_ge_f b) S) (no b)
  · exact W.lift (fun T t H S => XS.ifYes H C.1 rfl (pc0 := pc) (pc' := pc') rfl (C.a d) rfl (ll_ge_t b) (jmp hp).1 (jmp hp).2 S) (yes b)
theorem W.icmp_gt (C : Cx p s m meth c Z y bytes ml ret) {u v : Int32} {o : Int} (pc' : Nat) (d : decode bytes pc = .ok (.if_icmp .gt o, 3)) (hp : (pc : Int) + o = pc') (yes : v < u → W p l e R s m args below meth c n0 Q kc ks k n h pc' ls st) (no : ¬ v < u → W p l e R s m args below meth c n0 Q kc ks k n h (pc + 3) ls st) : W p l e R s m args below meth c n0 Q kc ks k n h pc ls (.int v :: .int u :: st) := by
  by_cases b : v < u
  · exact W.lift (fun T t H S => XS.icmpYes H C.1 rfl (pc0 := pc) (pc' := pc') rfl (C.a d) rfl (XT.ii_gt_t b) (jmp hp).1 (jmp hp).2 S) (yes b)
  · exact W.lift (fun T t H S => XS.icmpNo H C.1 rfl (C.a d) rfl (XT.ii_gt_f b) S) (no b)
theorem W.if_gt (C : Cx p s m meth c Z y bytes ml ret) {u : Int32} {o : Int} (pc' : Nat) (d : decode bytes pc = .ok (.ifCond .gt o, 3)) (hp : (pc : Int) + o = pc') (yes : 0 < u → W p l e R s m args below meth c n0 Q kc ks k n h pc' ls st) (no : ¬ 0 < u → W p l e R s m args below meth c n0 Q kc ks k n h (pc + 3) ls st) : W p l e R s m args below meth c n0 Q kc ks k n h pc ls (.int u :: st) := by
  by_cases b : 0 < u
  · exact W.lift (fun T t H S => XS.ifYes H C.1 rfl (pc0 := pc) (pc' := pc') rfl (C.a d) rfl (XT.i0_gt_t b) (jmp hp).1 (jmp hp).2 S) (yes b)
  · exact W.lift (fun T t H S => XS.ifNo H C.1 rfl (C.a d) rfl (XT.i0_gt_f b) S) (no b)
theorem ll_gt_t {u v : Int64} (b : v < u) : ifCond.holds .gt (lcmpW u v) = true := XT.ll_gt_t b
theorem ll_gt_f {u v : Int64} (b : ¬ v < u) : ifCond.holds .gt (lcmpW u v) = false := XT.ll_gt_f b
theorem W.lif_gt (C : Cx p s m meth c Z y bytes ml ret) {u v : Int64} {o : Int} (pc' : Nat) (d : decode bytes pc = .ok (.ifCond .gt o, 3)) (hp : (pc : Int) + o = pc') (yes : v < u → W p l e R s m args below meth c n0 Q kc ks k n h pc' ls st) (no : ¬ v < u → W p l e R s m args below meth c n0 Q kc ks k n h (pc + 3) ls st) : W p l e R s m args below meth c n0 Q kc ks k n h pc ls (.int (lcmpW u v) :: st) := by
  by_cases b : v < u
  · exact W.lift (fun T t H S => XS.ifYes H C.1 rfl (pc0 := pc) (pc' := pc') rfl (C.a d) rfl (ll_gt_t b) (jmp hp).1 (jmp hp).2 S) (yes b)
  · exact W.lift (fun T t H S => XS.ifNo H C.1 rfl (C.a d) rfl (ll_gt_f b) S) (no b)
theorem W.icmp_le (C : Cx p s m meth c Z y bytes ml ret) {u v : Int32} {o : Int} (pc' : Nat) (d : decode bytes pc = .ok (.if_icmp .le o, 3)) (hp : (pc : Int) + o = pc') (yes : ¬ v < u → W p l e R s m args below meth c n0 Q kc ks k n h pc' ls st) (no : v < u → W p l e R s m args below meth c n0 Q kc ks k n h (pc + 3) ls st) : W p l e R s m args below meth c n0 Q kc ks k n h pc ls (.int v :: .int u :: st) := by
  by_cases b : v < u
  · exact W.lift (fun T t H S => XS.icmpNo H C.1 rfl (C.a d) rfl (XT.ii_le_f b) S) (no b)
  · exact W.lift (fun T t H S => XS.icmpYes H C.1 rfl (pc0 := pc) (pc' := pc') rfl (C.a d) rfl (XT.ii_le_t b) (jmp hp).1 (jmp hp).2 S) (yes b)
theorem W.if_le (C : Cx p s m meth c Z y bytes ml ret) {u : Int32} {o : Int} (pc' : Nat) (d : decode bytes pc = .ok (.ifCond .le o, 3)) (hp : (pc : Int) + o = pc') (yes : ¬ 0 < u → W p l e R s m args below meth c n0 Q kc ks k n h pc' ls st) (no : 0 < u → W p l e R s m args below meth c n0 Q kc ks k n h (pc + 3) ls st) : W p l e R s m args below meth c n0 Q kc ks k n h pc ls (.int u :: st) := by
  by_cases b : 0 < u
  · exact W.lift (fun T t H S => XS.ifNo H C.1 rfl (C.a d) rfl (XT.i0_le_f b) S) (no b)
  · exact W.lift (fun T t H S => XS.ifYes H C.1 rfl (pc0 := pc) (pc' := pc') rfl (C.a d) rfl (XT.i0_le_t b) (jmp hp).1 (jmp hp).2 S) (yes b)
theorem ll_le_t {u v : Int64} (b : ¬ v < u) : ifCond.holds .le (lcmpW u v) = true := XT.ll_le_t b
theorem ll_le_f {u v : Int64} (b : v < u) : ifCond.holds .le (lcmpW u v) = false := XT.ll_le_f b
theorem W.lif_le (C : Cx p s m meth c Z y bytes ml ret) {u v : Int64} {o : Int} (pc' : Nat) (d : decode bytes pc = .ok (.ifCond .le o, 3)) (hp : (pc : Int) + o = pc') (yes : ¬ v < u → W p l e R s m args below meth c n0 Q kc ks k n h pc' ls st) (no : v < u → W p l e R s m args below meth c n0 Q kc ks k n h (pc + 3) ls st) : W p l e R s m args below meth c n0 Q kc ks k n h pc ls (.int (lcmpW u v) :: st) := by
  by_cases b : v < u
  · exact W.lift (fun T t H S => XS.ifNo H C.1 rfl (C.a d) rfl (ll_le_f b) S) (no b)
  · exact W.lift (fun T t H S => XS.ifYes H C.1 rfl (pc0 := pc) (pc' := pc') rfl (C.a d) rfl (ll_le_t b) (jmp hp).1 (jmp hp).2 S) (yes b)
theorem W.ifnullNo (C : Cx p s m meth c Z y bytes ml ret) {b : Addr} {o : Int} (d : decode bytes pc = .ok (.ifnull o, 3)) (K : W p l e R s m args below meth c n0 Q kc ks k n h (pc + 3) ls st) : W p l e R s m args below meth c n0 Q kc ks k n h pc ls (.ref b :: st) :=
  W.lift (fun T t H S => XS.ifnullNo H C.1 rfl (C.a d) rfl S) K
theorem W.ifnullYes (C : Cx p s m meth c Z y bytes ml ret) {o : Int} (pc' : Nat) (d : decode bytes pc = .ok (.ifnull o, 3)) (hp : (pc : Int) + o = pc') (K : W p l e R s m args below meth c n0 Q kc ks k n h pc' ls st) : W p l e R s m args below meth c n0 Q kc ks k n h pc ls (.null :: st) :=
  W.lift (fun T t H S => XS.ifnullYes H C.1 rfl (pc0 := pc) (pc' := pc') rfl (C.a d) rfl (jmp hp).1 (jmp hp).2 S) K
theorem W.ifnonnullYes (C : Cx p s m meth c Z y bytes ml ret) {b : Addr} {o : Int} (pc' : Nat) (d : decode bytes pc = .ok (.ifnonnull o, 3)) (hp : (pc : Int) + o = pc') (K : W p l e R s m args below meth c n0 Q kc ks k n h pc' ls st) : W p l e R s m args below meth c n0 Q kc ks k n h pc ls (.ref b :: st) :=
  W.lift (fun T t H S => XT.ifnonnullYes H C.1 rfl (pc0 := pc) (pc' := pc') rfl (C.a d) rfl (jmp hp).1 (jmp hp).2 S) K
theorem W.ifnonnullNo (C : Cx p s m meth c Z y bytes ml ret) {o : Int} (d : decode bytes pc = .ok (.ifnonnull o, 3)) (K : W p l e R s m args below meth c n0 Q kc ks k n h (pc + 3) ls st) : W p l e R s m args below meth c n0 Q kc ks k n h pc ls (.null :: st) :=
  W.lift (fun T t H S => XT.ifnonnullNo H C.1 rfl (C.a d) rfl S) K
theorem W.acmp_eq (C : Cx p s m meth c Z y bytes ml ret) {u v : Value} {o : Int} (pc' : Nat) (d : decode bytes pc = .ok (.if_acmp .eq o, 3)) (hu : u.isRef = true) (hv : v.isRef = true) (hp : (pc : Int) + o = pc') (yes : u = v → W p l e R s m args below meth c n0 Q kc ks k n h pc' ls st) (no : ¬ u = v → W p l e R s m args below meth c n0 Q kc ks k n h (pc + 3) ls st) : W p l e R s m args below meth c n0 Q kc ks k n h pc ls (v :: u :: st) := by
  by_cases b : u = v
  · exact W.lift (fun T t H S => XT.acmpYes H C.1 rfl (pc0 := pc) (pc' := pc') rfl (C.a d) rfl hu hv (XT.aa_eq_t b) (jmp hp).1 (jmp hp).2 S) (yes b)
  · exact W.lift (fun T t H S => XT.acmpNo H C.1 rfl (C.a d) rfl hu hv (XT.aa_eq_f b) S) (no b)
theorem W.acmp_ne (C : Cx p s m meth c Z y bytes ml ret) {u v : Value} {o : Int} (pc' : Nat) (d : decode bytes pc = .ok (.if_acmp .ne o, 3)) (hu : u.isRef = true) (hv : v.isRef = true) (hp : (pc : Int) + o = pc') (yes : ¬ u = v → W p l e R s m args below meth c n0 Q kc ks k n h pc' ls st) (no : u = v → W p l e R s m args below meth c n0 Q kc ks k n h (pc + 3) ls st) : W p l e R s m args below meth c n0 Q kc ks k n h pc ls (v :: u :: st) := by
  by_cases b : u = v
  · exact W.lift (fun T t H S => XT.acmpNo H C.1 rfl (C.a d) rfl hu hv (XT.aa_ne_f b) S) (no b)
  · exact W.lift (fun T t H S => XT.acmpYes H C.1 rfl (pc0 := pc) (pc' := pc') rfl (C.a d) rfl hu hv (XT.aa_ne_t b) (jmp hp).1 (jmp hp).2 S) (yes b)
theorem W.ldcI (C : Cx p s m meth c Z y bytes ml ret) {i : Nat} {v : Int32} (d : decode bytes pc = .ok (.ldc i, 2)) (w : (Jvm.Cond.constant y.cls i v).before a0 Z = true) (K : W p l e R s m args below meth c n0 Q kc ks k n h (pc + 2) ls (.int v :: st)) : W p l e R s m args below meth c n0 Q kc ks k n h pc ls st := fun T locs X eT N => by
  obtain ⟨s₂, o, h1, h2⟩ := K T locs X eT N
  exact ⟨s₂, o, X.ldcI C.1 C.2.2.1 (mvT C.2.1 w) rfl (C.a d) h1, h2⟩
theorem W.ldcWI (C : Cx p s m meth c Z y bytes ml ret) {i : Nat} {v : Int32} (d : decode bytes pc = .ok (.ldc_w i, 3)) (w : (Jvm.Cond.constant y.cls i v).before a0 Z = true) (K : W p l e R s m args below meth c n0 Q kc ks k n h (pc + 3) ls (.int v :: st)) : W p l e R s m args below meth c n0 Q kc ks k n h pc ls st := fun T locs X eT N => by
  obtain ⟨s₂, o, h1, h2⟩ := K T locs X eT N
  exact ⟨s₂, o, X.ldcWI C.1 C.2.2.1 (mvT C.2.1 w) rfl (C.a d) h1, h2⟩
theorem W.ldc2J (C : Cx p s m meth c Z y bytes ml ret) {i : Nat} {v : Int64} (d : decode bytes pc = .ok (.ldc2_w i, 3)) (w : (Jvm.Cond.constantLong y.cls i v).before a0 Z = true) (K : W p l e R s m args below meth c n0 Q kc ks k n h (pc + 3) ls (.long v :: st)) : W p l e R s m args below meth c n0 Q kc ks k n h pc ls st := fun T locs X eT N => by
  obtain ⟨s₂, o, h1, h2⟩ := K T locs X eT N
  exact ⟨s₂, o, X.ldc2J C.1 C.2.2.1 (mvT C.2.1 w) rfl (C.a d) h1, h2⟩
theorem W.iret {t : FieldType} {z : Int32} (C : Cx p s m meth c Z y bytes ml (some t)) (d : decode bytes pc = .ok (.ireturn, 1)) (ht : t = .int ∨ t = .boolean ∨ t = .byte ∨ t = .char ∨ t = .short) (hn : narrow t (.int z) = .int z) (hk : k ≤ kc) (hs : n ≤ ks) (q : Q (some (.int z)) h) : W p l e R s m args below meth c n0 Q kc ks k n h pc ls (.int z :: st) := fun T locs X eT N => by
  obtain ⟨fs, hr, hrun, hended, hW, hsame⟩ := X.leave (v := some (.int z)) (fun q => by rw [C.2.2.2.2.2.1] at q; cases q) C.2.2.2.2.2.2.1
  exact ⟨_, _, retOut X C.1 C.2.2.2.2.2.1 hn (Or.inl ⟨rfl, ht, z, rfl⟩) (C.a d) hr, hrun, hended, _, _, rfl, ⟨by subst eT; exact q, N⟩, ⟨_, rfl⟩, hW, hsame.mono hk hs⟩
theorem W.lret {t : FieldType} {z : Int64} (C : Cx p s m meth c Z y bytes ml (some t)) (d : decode bytes pc = .ok (.lreturn, 1)) (ht : t = .long) (hn : narrow t (.long z) = .long z) (hk : k ≤ kc) (hs : n ≤ ks) (q : Q (some (.long z)) h) : W p l e R s m args below meth c n0 Q kc ks k n h pc ls (.long z :: st) := fun T locs X eT N => by
  obtain ⟨fs, hr, hrun, hended, hW, hsame⟩ := X.leave (v := some (.long z)) (fun q => by rw [C.2.2.2.2.2.1] at q; cases q) C.2.2.2.2.2.2.1
  exact ⟨_, _, retOut X C.1 C.2.2.2.2.2.1 hn (Or.inr (Or.inl ⟨rfl, ht, z, rfl⟩)) (C.a d) hr, hrun, hended, _, _, rfl, ⟨by subst eT; exact q, N⟩, ⟨_, rfl⟩, hW, hsame.mono hk hs⟩
theorem W.aret {t : FieldType} {z : Value} (C : Cx p s m meth c Z y bytes ml (some t)) (d : decode bytes pc = .ok (.areturn, 1)) (ht : t.isReference = true) (hz : z.isRef = true) (hn : narrow t (z) = z) (hk : k ≤ kc) (hs : n ≤ ks) (q : Q (some (z)) h) : W p l e R s m args below meth c n0 Q kc ks k n h pc ls (z :: st) := fun T locs X eT N => by
  obtain ⟨fs, hr, hrun, hended, hW, hsame⟩ := X.leave (v := some (z)) (fun q => by rw [C.2.2.2.2.2.1] at q; cases q) C.2.2.2.2.2.2.1
  exact ⟨_, _, retOut X C.1 C.2.2.2.2.2.1 hn (Or.inr (Or.inr (Or.inr (Or.inr ⟨rfl, ht, hz⟩)))) (C.a d) hr, hrun, hended, _, _, rfl, ⟨by subst eT; exact q, N⟩, ⟨_, rfl⟩, hW, hsame.mono hk hs⟩
theorem W.retV (C : Cx p s m meth c Z y bytes ml none) (d : decode bytes pc = .ok (.return_, 1)) (hk : k ≤ kc) (hs : n ≤ ks) (q : Q none h) : W p l e R s m args below meth c n0 Q kc ks k n h pc ls [] := fun T locs X eT N => by
  obtain ⟨fs, hr, hrun, hended, hW, hsame⟩ := X.leave (v := none) (fun _ => rfl) C.2.2.2.2.2.2.1
  exact ⟨_, _, X.returnOut C.1 C.2.2.2.2.2.1 (C.a d) hr, hrun, hended, _, _, rfl, ⟨by subst eT; exact q, N⟩, ⟨_, rfl⟩, hW, hsame.mono hk hs⟩
theorem W.callS (C : Cx p s m meth c Z y bytes ml ret) {y' : MethodName} {index : Nat} {bytes' : ByteArray} {ml' : Nat} {ret' : Option FieldType} {rm : Room} {Q' : Option Value → Heap → Prop} (d : decode bytes pc = .ok (.invokestatic index, 3)) (w1 : (Jvm.Cond.methodLink y.cls index y').before a0 Z = true) (w2 : (Jvm.Cond.static y').before a0 Z = true) (w3 : (Jvm.Cond.initialized y'.cls).before a0 Z = true) (w4 : (Jvm.Cond.code y' bytes' ml' ret').before a0 Z = true) (hy : y'.cls ≠ "java/lang/invoke/MethodHandle" ∧ y'.cls ≠ "java/lang/invoke/VarHandle")
    {argsL rest : List Value} (hst : st = argsL.reverse ++ rest) (hlen : ∀ sig, parseMethodDescriptor y'.desc = some sig → argsL.length = sig.parameters.length) (D : Con l Z y' bytes' ml' ret' rm argsL.toArray h n0 Q') (w k' n' : Nat) (hW : (rest.map fun v => v.category).sum = w) (hk : k + rm.cells = k') (hn : n + rm.slots = n') (hf : rm.frames + 1 ≤ R.frames) (hl : w + (ml' + 11) + rm.locals ≤ R.locals) (hc : k' ≤ R.cells) (hs : n' ≤ R.slots) (hsz : ls.size = ml)
    (K : ∀ v h', Q' v h' → W p l e R s m args below meth c n0 Q kc ks k' n' h' (pc + 3) ls (v.toList ++ rest)) : W p l e R s m args below meth c n0 Q kc ks k n h pc ls st := fun T locs X eT N => by
  obtain ⟨_, _, ⟨T1, L1, k1, n1⟩, -, X1, ⟨Lc1, hQ1, l1, y1, z1⟩, st1⟩ := Jvm.LawKit.callS X C.1 (y := y') C.2.2.1 (mvT C.2.1 w1) (mvT C.2.1 w2) (mvT C.2.1 w3) (mvT C.2.1 w4) hy (backOf (W := w) (Q := fun v h' L => Q' v h' ∧ Fr n0 L) (D []) C.2.1 w4 w3 hf hl) (g := mkF m pc ls st) rfl (hsz.trans C.2.2.2.2.1.symm) (argsL := argsL) (rest := rest) hlen hst (by show 2 * 0 + _ ≤ _; omega) (C.a d) (fun _ _ => ⟨rfl, eT, by rw [hk]; exact hc, by rw [hn]; exact hs⟩)
  dsimp only [Pt.U, Pt.locs, Pt.cells, Pt.slots] at X1 l1 y1 z1 st1 hQ1
  subst l1
  rw [hk] at y1
  rw [hn] at z1
  subst y1 z1
  obtain ⟨s₂, o, g1, g2⟩ := K _ _ hQ1.1 T1 _ X1 rfl (Fr.app N hQ1.2)
  exact ⟨s₂, o, st1 _ g1, g2⟩
theorem W.callI (C : Cx p s m meth c Z y bytes ml ret) {y' : MethodName} {index : Nat} {bytes' : ByteArray} {ml' : Nat} {rm : Room} {Q' : Option Value → Heap → Prop} (d : decode bytes pc = .ok (.invokespecial index, 3)) (hi : y'.name = "<init>") (w1 : (Jvm.Cond.methodLink y.cls index y').before a0 Z = true) (w2 : (Jvm.Cond.instanceMethod y').before a0 Z = true) (w3 : (Jvm.Cond.initialized y'.cls).before a0 Z = true) (w4 : (Jvm.Cond.code y' bytes' ml' none).before a0 Z = true) (hy : y'.cls ≠ "java/lang/invoke/MethodHandle" ∧ y'.cls ≠ "java/lang/invoke/VarHandle")
    {a : Addr} {argsL rest : List Value} (hst : st = argsL.reverse ++ .ref a :: rest) (hlen : ∀ sig, parseMethodDescriptor y'.desc = some sig → argsL.length = sig.parameters.length) (D : Con l Z y' bytes' ml' none rm (.ref a :: argsL).toArray h n0 Q') (w k' n' : Nat) (hW : (rest.map fun v => v.category).sum = w) (hk : k + rm.cells = k') (hn : n + rm.slots = n') (hf : rm.frames + 1 ≤ R.frames) (hl : w + (ml' + 11) + rm.locals ≤ R.locals) (hc : k' ≤ R.cells) (hs : n' ≤ R.slots) (hsz : ls.size = ml)
    (K : ∀ v h', Q' v h' → W p l e R s m args below meth c n0 Q kc ks k' n' h' (pc + 3) ls (v.toList ++ rest)) : W p l e R s m args below meth c n0 Q kc ks k n h pc ls st := fun T locs X eT N => by
  obtain ⟨_, _, ⟨T1, L1, k1, n1⟩, -, X1, ⟨Lc1, hQ1, l1, y1, z1⟩, st1⟩ := X.specialBack C.1 (y := y') hi C.2.2.1 (mvT C.2.1 w1) (mvT C.2.1 w2) (mvT C.2.1 w4) hy (backOf (W := w) (Q := fun v h' L => Q' v h' ∧ Fr n0 L) (D []) C.2.1 w4 w3 hf hl) (g := mkF m pc ls st) rfl (hsz.trans C.2.2.2.2.1.symm) (Steps.refl _) (a := a) (argsL := argsL) (rest := rest) hlen hst (by show 2 * 0 + _ ≤ _; omega) (C.a d) (fun _ _ => ⟨rfl, eT, by rw [hk]; exact hc, by rw [hn]; exact hs⟩)
  dsimp only [Pt.U, Pt.locs, Pt.cells, Pt.slots] at X1 l1 y1 z1 st1 hQ1
  subst l1
  rw [hk] at y1
  rw [hn] at z1
  subst y1 z1
  obtain ⟨s₂, o, g1, g2⟩ := K _ _ hQ1.1 T1 _ X1 rfl (Fr.app N hQ1.2)
  exact ⟨s₂, o, st1.trans g1, g2⟩
theorem W.callV (C : Cx p s m meth c Z y bytes ml ret) {y' : MethodName} {K0 : String} {index : Nat} {bytes' : ByteArray} {ml' : Nat} {ret' : Option FieldType} {rm : Room} {Q' : Option Value → Heap → Prop} (d : decode bytes pc = .ok (.invokevirtual index, 3)) (w1 : (Jvm.Cond.methodLink y.cls index y').before a0 Z = true) (w2 : (Jvm.Cond.declares y').before a0 Z = true) (w5 : (Jvm.Cond.selects K0 y' y').before a0 Z = true) (w6 : (Jvm.Cond.instanceMethod y').before a0 Z = true) (w3 : (Jvm.Cond.initialized y'.cls).before a0 Z = true) (w4 : (Jvm.Cond.code y' bytes' ml' ret').before a0 Z = true) (hy : y'.cls ≠ "java/lang/invoke/MethodHandle" ∧ y'.cls ≠ "java/lang/invoke/VarHandle")
    {a : Addr} (E : Exa Z h a K0) {argsL rest : List Value} (hst : st = argsL.reverse ++ .ref a :: rest) (hlen : ∀ sig, parseMethodDescriptor y'.desc = some sig → argsL.length = sig.parameters.length) (D : Con l Z y' bytes' ml' ret' rm (.ref a :: argsL).toArray h n0 Q') (w k' n' : Nat) (hW : (rest.map fun v => v.category).sum = w) (hk : k + rm.cells = k') (hn : n + rm.slots = n') (hf : rm.frames + 1 ≤ R.frames) (hl : w + (ml' + 11) + rm.locals ≤ R.locals) (hc : k' ≤ R.cells) (hs : n' ≤ R.slots) (hsz : ls.size = ml)
    (K : ∀ v h', Q' v h' → W p l e R s m args below meth c n0 Q kc ks k' n' h' (pc + 3) ls (v.toList ++ rest)) : W p l e R s m args below meth c n0 Q kc ks k n h pc ls st := fun T locs X eT N => by
  obtain ⟨cq, kq, qa, qb, qc⟩ := isOf C.2.1 eT E
  obtain ⟨_, _, ⟨T1, L1, k1, n1⟩, -, X1, ⟨Lc1, hQ1, l1, y1, z1⟩, st1⟩ := X.virtualBack C.1 (y := y') (z := y') C.2.2.1 (mvT C.2.1 w1) (mvT C.2.1 w2) (notFace_of_selects (args := #[]) (mvT C.2.1 w5)) (mvT C.2.1 w5) (mvT C.2.1 w6) hy (backOf (W := w) (Q := fun v h' L => Q' v h' ∧ Fr n0 L) (D []) C.2.1 w4 w3 hf hl) qa qc (g := mkF m pc ls st) rfl (hsz.trans C.2.2.2.2.1.symm) (Steps.refl _) (argsL := argsL) (rest := rest) hlen hst (by show 2 * 0 + _ ≤ _; omega) (C.a d) (fun _ _ => ⟨rfl, eT, by rw [hk]; exact hc, by rw [hn]; exact hs⟩)
  dsimp only [Pt.U, Pt.locs, Pt.cells, Pt.slots] at X1 l1 y1 z1 st1 hQ1
  subst l1
  rw [hk] at y1
  rw [hn] at z1
  subst y1 z1
  obtain ⟨s₂, o, g1, g2⟩ := K _ _ hQ1.1 T1 _ X1 rfl (Fr.app N hQ1.2)
  exact ⟨s₂, o, st1.trans g1, g2⟩
theorem W.initO (C : Cx p s m meth c Z y bytes ml ret) {index : Nat} (d : decode bytes pc = .ok (.invokespecial index, 3)) (w1 : (Jvm.Cond.methodLink y.cls index Lib.objectInit).before a0 Z = true) (w2 : (Jvm.Cond.instanceMethod Lib.objectInit).before a0 Z = true) (w3 : (Jvm.Cond.code Lib.objectInit ⟨#[0xb1]⟩ 1 none).before a0 Z = true)
    {a : Addr} (w : Nat) (hW : (st.map fun v => v.category).sum = w) (hf : 1 ≤ R.frames) (hl : w + 12 ≤ R.locals) (hsz : ls.size = ml) (K : W p l e R s m args below meth c n0 Q kc ks k n h (pc + 3) ls st) : W p l e R s m args below meth c n0 Q kc ks k n h pc ls (.ref a :: st) := fun T locs X eT N => by
  obtain ⟨T1, X1, e1, st1⟩ := Jvm.RoadKit.initO X C.1 C.2.1 C.2.2.1 w1 w2 w3 eT (g := mkF m pc ls (.ref a :: st)) rfl (hsz.trans C.2.2.2.2.1.symm) rfl (C.a d) hf (W := w) (by show 2 * 0 + _ ≤ _; omega) hl
  obtain ⟨s₂, o, g1, g2⟩ := K T1 _ X1 e1 N
  exact ⟨s₂, o, st1 _ g1, g2⟩
theorem W.new (C : Cx p s m meth c Z y bytes ml ret) {index sz : Nat} {K0 : String} (d : decode bytes pc = .ok (.new index, 3)) (w1 : (Jvm.Cond.classLink y.cls index K0).before a0 Z = true) (w2 : (Jvm.Cond.instantiable K0 sz).before a0 Z = true) (w3 : (Jvm.Cond.initialized K0).before a0 Z = true) (k' n' : Nat) (hk : k + 1 = k') (hn : n + sz = n') (hc : k' ≤ R.cells) (hs : n' ≤ R.slots)
    (K : ∀ a h', a = h.size → Ext h h' → Exa Z h' a K0 → (∀ {O nm d : String} {ty : FieldType}, Laid Z a0 K0 O nm d → parseFieldDescriptor d = some ty → Fld Z h' a O nm d (defaultValue ty)) → W p l e R s m args below meth c n0 Q kc ks k' n' h' (pc + 3) ls (.ref a :: st)) : W p l e R s m args below meth c n0 Q kc ks k n h pc ls st := fun T locs X eT N => by
  subst hk hn
  obtain ⟨T1, h1, X1, e1, E1, A1, D1, -, st1⟩ := newO X C.1 C.2.1 C.2.2.1 w1 w2 w3 eT (g := mkF m pc ls st) rfl (C.a d) hc hs
  obtain ⟨s₂, o, g1, g2⟩ := K _ h1 rfl E1 A1 D1 T1 _ X1 e1 N
  exact ⟨s₂, o, st1 _ g1, g2⟩
theorem W.getF (C : Cx p s m meth c Z y bytes ml ret) {index : Nat} {R0 O nm dd : String} (d : decode bytes pc = .ok (.getfield index, 3)) (w : (Jvm.Cond.fieldLink y.cls index R0 nm dd).before a0 Z = true) (via : Via Z R0 O nm dd) {a : Addr} {v : Value} (F : Fld Z h a O nm dd v) (K : W p l e R s m args below meth c n0 Q kc ks k n h (pc + 3) ls (v :: st)) : W p l e R s m args below meth c n0 Q kc ks k n h pc ls (.ref a :: st) := fun T locs X eT N => by
  obtain ⟨T1, X1, e1, st1⟩ := Jvm.RoadKit.getF X C.1 C.2.1 C.2.2.1 (host := "") (Or.inl w) via eT F (g := mkF m pc ls (.ref a :: st)) rfl rfl (C.a d)
  obtain ⟨s₂, o, g1, g2⟩ := K T1 _ X1 e1 N
  exact ⟨s₂, o, st1 _ g1, g2⟩
theorem W.getFN (C : Cx p s m meth c Z y bytes ml ret) {index : Nat} {R0 O nm dd host : String} (d : decode bytes pc = .ok (.getfield index, 3)) (w : (Jvm.Cond.fieldLinkNest y.cls index R0 nm dd host).before a0 Z = true) (via : Via Z R0 O nm dd) {a : Addr} {v : Value} (F : Fld Z h a O nm dd v) (K : W p l e R s m args below meth c n0 Q kc ks k n h (pc + 3) ls (v :: st)) : W p l e R s m args below meth c n0 Q kc ks k n h pc ls (.ref a :: st) := fun T locs X eT N => by
  obtain ⟨T1, X1, e1, st1⟩ := Jvm.RoadKit.getF X C.1 C.2.1 C.2.2.1 (host := host) (Or.inr w) via eT F (g := mkF m pc ls (.ref a :: st)) rfl rfl (C.a d)
  obtain ⟨s₂, o, g1, g2⟩ := K T1 _ X1 e1 N
  exact ⟨s₂, o, st1 _ g1, g2⟩
theorem W.getS (C : Cx p s m meth c Z y bytes ml ret) {index : Nat} {R0 O nm dd : String} (d : decode bytes pc = .ok (.getstatic index, 3)) (w : (Jvm.Cond.fieldLink y.cls index R0 nm dd).before a0 Z = true) (via : Via Z R0 O nm dd) {v : Value} (F : Sta Z h O nm dd v) (K : W p l e R s m args below meth c n0 Q kc ks k n h (pc + 3) ls (v :: st)) : W p l e R s m args below meth c n0 Q kc ks k n h pc ls st := fun T locs X eT N => by
  obtain ⟨T1, X1, e1, st1⟩ := Jvm.RoadKit.getS X C.1 C.2.1 (host := "") C.2.2.1 w via eT F (g := mkF m pc ls st) rfl (C.a d)
  obtain ⟨s₂, o, g1, g2⟩ := K T1 _ X1 e1 N
  exact ⟨s₂, o, st1 _ g1, g2⟩
theorem W.putF (C : Cx p s m meth c Z y bytes ml ret) {index kk : Nat} {R0 O nm dd K0 : String} {ty : FieldType} (d : decode bytes pc = .ok (.putfield index, 3)) (w : (Jvm.Cond.fieldLink y.cls index R0 nm dd).before a0 Z = true) (via : Via Z R0 O nm dd) {a : Addr} {v old : Value} (F : Fld Z h a O nm dd old) (E : Exa Z h a K0) (L : (Jvm.Cond.lays K0 O nm dd).before a0 Z = true ∨ ((Jvm.Cond.laysFinal K0 O nm dd).before a0 Z = true ∧ y.cls = O ∧ y.name = "<init>")) (wi : (Jvm.Cond.instantiable K0 kk).before a0 Z = true)
    (hty : parseFieldDescriptor dd = some ty) (hn : narrow ty v = v) (hf : fits ty v = true) (g : n0 ≤ a) (K : ∀ h', Wr h h' a (Jvm.RoadKit.slotOf Z O nm dd) v → W p l e R s m args below meth c n0 Q kc ks k n h' (pc + 3) ls st) : W p l e R s m args below meth c n0 Q kc ks k n h pc ls (v :: .ref a :: st) := fun T locs X eT N => by
  obtain ⟨T1, h1, X1, e1, W1, st1⟩ := Jvm.RoadKit.putF X C.1 C.2.1 C.2.2.1 (host := "") (Or.inl w) via eT F E (L.imp id fun q => ⟨q.1, q.2.1, C.2.2.2.2.2.2.2.trans q.2.2⟩) wi hty hn hf (g := mkF m pc ls (v :: .ref a :: st)) rfl rfl (C.a d)
  obtain ⟨s₂, o, g1, g2⟩ := K h1 W1 T1 _ X1 e1 (Fr.snoc X1 N g)
  exact ⟨s₂, o, st1 _ g1, g2⟩
/-- an array at a of component type ty that holds vs -/
def Al (Z : State) (h : Heap) (a : Addr) (ty : FieldType) (vs : List Value) : Prop := ∃ c : Cell, Arr Z h a c ty ∧ c.slots = vs.toArray
theorem Al.lt {a : Addr} {ty : FieldType} {vs : List Value} (F : Al Z h a ty vs) : a < h.size := by obtain ⟨c, A, -⟩ := F; exact A.lt
theorem Al.ext {a : Addr} {ty : FieldType} {vs : List Value} {h' : Heap} (F : Al Z h a ty vs) (E : Ext h h') : Al Z h' a ty vs := by obtain ⟨c, A, r⟩ := F; exact ⟨c, A.ext E, r⟩
theorem Al.other {a b : Addr} {ty : FieldType} {vs : List Value} {h' : Heap} {sl : Nat} {v : Value} (F : Al Z h b ty vs) (U : Wr h h' a sl v) (q : b ≠ a) : Al Z h' b ty vs := by obtain ⟨c, A, r⟩ := F; exact ⟨c, A.other U q, r⟩
theorem Al.keep {a : Addr} {ty : FieldType} {vs : List Value} {h' : Heap} {ws : List Addr} (F : Al Z h a ty vs) (K : Keep h h' ws) (q : a ∉ ws) : Al Z h' a ty vs := by obtain ⟨c, A, r⟩ := F; exact ⟨c, ⟨K.2.1 a c A.1 q, A.2⟩, r⟩
theorem Al.set {a : Addr} {ty : FieldType} {vs : List Value} {h' : Heap} {i : Nat} {v : Value} (F : Al Z h a ty vs) (U : Wr h h' a i v) : Al Z h' a ty (vs.set i v) := by
  obtain ⟨c, A, r⟩ := F
  refine ⟨_, A.same U, ?_⟩
  simp [Cell.setSlot, r]
theorem idx_of {j : Int32} {i : Nat} (hi : j.toInt = (i : Int)) : ¬ j < 0 ∧ j.toNatClampNeg = i := by
  refine ⟨fun q => ?_, ?_⟩
  · rw [Int32.lt_iff_toInt_lt] at q
    have : (0 : Int32).toInt = 0 := rfl
    omega
  · show j.toInt.toNat = i
    omega
theorem inb_of_idx {j : Int32} {i : Nat} {cl : Cell} {vs : List Value} (hi : j.toInt = (i : Int)) (r : cl.slots = vs.toArray) (hb : i < vs.length) : ¬ (j < 0 ∨ cl.slots.size ≤ j.toNatClampNeg) := by
  obtain ⟨q1, q2⟩ := idx_of hi
  rw [q2, r]
  simp only [List.size_toArray]
  rintro (z | z)
  · exact q1 z
  · omega
theorem W.arrlen (C : Cx p s m meth c Z y bytes ml ret) {a : Addr} {ty : FieldType} {vs : List Value} (z : Int32) (d : decode bytes pc = .ok (.arraylength, 1)) (A : Al Z h a ty vs) (hz : vs.length.toInt32 = z) (K : W p l e R s m args below meth c n0 Q kc ks k n h (pc + 1) ls (.int z :: st)) : W p l e R s m args below meth c n0 Q kc ks k n h pc ls (.ref a :: st) := fun T locs X eT N => by
  obtain ⟨cl, A, r⟩ := A
  obtain ⟨s₂, o, g1, g2⟩ := K T locs X eT N
  refine ⟨s₂, o, X.arraylength C.1 (by rw [eT]; exact A.1) (State.isArrayOf_alike C.2.1.alike A.2.1) (g := mkF m pc ls (.ref a :: st)) rfl rfl (C.a d) _ ?_, g2⟩
  have : cl.slots.size.toInt32 = z := by rw [r]; simpa using hz
  rw [this]; exact g1
theorem W.iaload (C : Cx p s m meth c Z y bytes ml ret) {a : Addr} {vs : List Value} {j : Int32} (i : Nat) {v : Value} (d : decode bytes pc = .ok (.iaload, 1)) (A : Al Z h a .int vs) (hi : j.toInt = (i : Int)) (hv : vs[i]? = some v) (K : W p l e R s m args below meth c n0 Q kc ks k n h (pc + 1) ls (v :: st)) : W p l e R s m args below meth c n0 Q kc ks k n h pc ls (.int j :: .ref a :: st) := fun T locs X eT N => by
  obtain ⟨cl, A, r⟩ := A
  obtain ⟨s₂, o, g1, g2⟩ := K T locs X eT N
  have hb : i < vs.length := (List.getElem?_eq_some_iff.mp hv).1
  exact ⟨s₂, o, X.iaload C.1 (j := j) (v := v) (by rw [eT]; exact A.1) (State.isArrayOf_alike C.2.1.alike A.2.1) A.2.2 (inb_of_idx hi r hb) (by rw [(idx_of hi).2, r]; simpa using hv) (g := mkF m pc ls (.int j :: .ref a :: st)) rfl rfl (C.a d) _ g1, g2⟩
theorem W.laload (C : Cx p s m meth c Z y bytes ml ret) {a : Addr} {vs : List Value} {j : Int32} (i : Nat) {v : Value} (d : decode bytes pc = .ok (.laload, 1)) (A : Al Z h a .long vs) (hi : j.toInt = (i : Int)) (hv : vs[i]? = some v) (K : W p l e R s m args below meth c n0 Q kc ks k n h (pc + 1) ls (v :: st)) : W p l e R s m args below meth c n0 Q kc ks k n h pc ls (.int j :: .ref a :: st) := fun T locs X eT N => by
  obtain ⟨cl, A, r⟩ := A
  obtain ⟨s₂, o, g1, g2⟩ := K T locs X eT N
  have hb : i < vs.length := (List.getElem?_eq_some_iff.mp hv).1
  exact ⟨s₂, o, X.laload C.1 (j := j) (v := v) (by rw [eT]; exact A.1) (State.isArrayOf_alike C.2.1.alike A.2.1) A.2.2 (inb_of_idx hi r hb) (by rw [(idx_of hi).2, r]; simpa using hv) (g := mkF m pc ls (.int j :: .ref a :: st)) rfl rfl (C.a d) _ g1, g2⟩
theorem W.baload (C : Cx p s m meth c Z y bytes ml ret) {a : Addr} {vs : List Value} {j : Int32} (i : Nat) {v : Value} (d : decode bytes pc = .ok (.baload, 1)) (A : Al Z h a .byte vs) (hi : j.toInt = (i : Int)) (hv : vs[i]? = some v) (K : W p l e R s m args below meth c n0 Q kc ks k n h (pc + 1) ls (v :: st)) : W p l e R s m args below meth c n0 Q kc ks k n h pc ls (.int j :: .ref a :: st) := fun T locs X eT N => by
  obtain ⟨cl, A, r⟩ := A
  obtain ⟨s₂, o, g1, g2⟩ := K T locs X eT N
  have hb : i < vs.length := (List.getElem?_eq_some_iff.mp hv).1
  exact ⟨s₂, o, X.baloadBytes C.1 (j := j) (v := v) (by rw [eT]; exact A.1) (State.isArrayOf_alike C.2.1.alike A.2.1) A.2.2 (inb_of_idx hi r hb) (by rw [(idx_of hi).2, r]; simpa using hv) (g := mkF m pc ls (.int j :: .ref a :: st)) rfl rfl (C.a d) _ g1, g2⟩
theorem W.caload (C : Cx p s m meth c Z y bytes ml ret) {a : Addr} {vs : List Value} {j : Int32} (i : Nat) {v : Value} (d : decode bytes pc = .ok (.caload, 1)) (A : Al Z h a .char vs) (hi : j.toInt = (i : Int)) (hv : vs[i]? = some v) (K : W p l e R s m args below meth c n0 Q kc ks k n h (pc + 1) ls (v :: st)) : W p l e R s m args below meth c n0 Q kc ks k n h pc ls (.int j :: .ref a :: st) := fun T locs X eT N => by
  obtain ⟨cl, A, r⟩ := A
  obtain ⟨s₂, o, g1, g2⟩ := K T locs X eT N
  have hb : i < vs.length := (List.getElem?_eq_some_iff.mp hv).1
  exact ⟨s₂, o, X.caload C.1 (j := j) (v := v) (by rw [eT]; exact A.1) (State.isArrayOf_alike C.2.1.alike A.2.1) A.2.2 (inb_of_idx hi r hb) (by rw [(idx_of hi).2, r]; simpa using hv) (g := mkF m pc ls (.int j :: .ref a :: st)) rfl rfl (C.a d) _ g1, g2⟩
theorem W.zaload (C : Cx p s m meth c Z y bytes ml ret) {a : Addr} {vs : List Value} {j : Int32} (i : Nat) {v : Value} (d : decode bytes pc = .ok (.baload, 1)) (A : Al Z h a .boolean vs) (hi : j.toInt = (i : Int)) (hv : vs[i]? = some v) (K : W p l e R s m args below meth c n0 Q kc ks k n h (pc + 1) ls (v :: st)) : W p l e R s m args below meth c n0 Q kc ks k n h pc ls (.int j :: .ref a :: st) := fun T locs X eT N => by
  obtain ⟨cl, A, r⟩ := A
  obtain ⟨s₂, o, g1, g2⟩ := K T locs X eT N
  have hb : i < vs.length := (List.getElem?_eq_some_iff.mp hv).1
  exact ⟨s₂, o, X.baloadBooleans C.1 (j := j) (v := v) (by rw [eT]; exact A.1) (State.isArrayOf_alike C.2.1.alike A.2.1) A.2.2 (inb_of_idx hi r hb) (by rw [(idx_of hi).2, r]; simpa using hv) (g := mkF m pc ls (.int j :: .ref a :: st)) rfl rfl (C.a d) _ g1, g2⟩
theorem W.aaload (C : Cx p s m meth c Z y bytes ml ret) {a : Addr} {ty : FieldType} {vs : List Value} {j : Int32} (i : Nat) {v : Value} (d : decode bytes pc = .ok (.aaload, 1)) (A : Al Z h a ty vs) (hty : ty.isReference = true) (hi : j.toInt = (i : Int)) (hv : vs[i]? = some v) (K : W p l e R s m args below meth c n0 Q kc ks k n h (pc + 1) ls (v :: st)) : W p l e R s m args below meth c n0 Q kc ks k n h pc ls (.int j :: .ref a :: st) := fun T locs X eT N => by
  obtain ⟨cl, A, r⟩ := A
  obtain ⟨s₂, o, g1, g2⟩ := K T locs X eT N
  have hb : i < vs.length := (List.getElem?_eq_some_iff.mp hv).1
  exact ⟨s₂, o, X.aaload C.1 (j := j) (v := v) (by rw [eT]; exact A.1) (State.isArrayOf_alike C.2.1.alike A.2.1) hty A.2.2 (inb_of_idx hi r hb) (by rw [(idx_of hi).2, r]; simpa using hv) (g := mkF m pc ls (.int j :: .ref a :: st)) rfl rfl (C.a d) _ g1, g2⟩
theorem W.iastore (C : Cx p s m meth c Z y bytes ml ret) {a : Addr} {vs : List Value} {j : Int32} {x : Int32} (i : Nat) (d : decode bytes pc = .ok (.iastore, 1)) (A : Al Z h a .int vs) (hi : j.toInt = (i : Int)) (hb : i < vs.length) (g : n0 ≤ a) (K : ∀ h', Wr h h' a i (.int x) → Al Z h' a .int (vs.set i (.int x)) → W p l e R s m args below meth c n0 Q kc ks k n h' (pc + 1) ls st) : W p l e R s m args below meth c n0 Q kc ks k n h pc ls (.int x :: .int j :: .ref a :: st) := fun T locs X eT N => by
  obtain ⟨cl, A, r⟩ := A
  obtain ⟨T1, h1, X1, e1, W1, st1⟩ := stI X C.1 C.2.1 eT A (j := j) (x := x) (inb_of_idx hi r hb) (g := mkF m pc ls (.int x :: .int j :: .ref a :: st)) rfl rfl (C.a d)
  have N1 := Fr.snoc X1 N g
  rw [(idx_of hi).2] at W1
  obtain ⟨s₂, o, g1, g2⟩ := K h1 W1 (Al.set ⟨cl, A, r⟩ W1) T1 _ X1 e1 N1
  exact ⟨s₂, o, st1 _ g1, g2⟩
theorem W.lastore (C : Cx p s m meth c Z y bytes ml ret) {a : Addr} {vs : List Value} {j : Int32} {x : Int64} (i : Nat) (d : decode bytes pc = .ok (.lastore, 1)) (A : Al Z h a .long vs) (hi : j.toInt = (i : Int)) (hb : i < vs.length) (g : n0 ≤ a) (K : ∀ h', Wr h h' a i (.long x) → Al Z h' a .long (vs.set i (.long x)) → W p l e R s m args below meth c n0 Q kc ks k n h' (pc + 1) ls st) : W p l e R s m args below meth c n0 Q kc ks k n h pc ls (.long x :: .int j :: .ref a :: st) := fun T locs X eT N => by
  obtain ⟨cl, A, r⟩ := A
  obtain ⟨T1, h1, X1, e1, W1, st1⟩ := stJ X C.1 C.2.1 eT A (j := j) (x := x) (inb_of_idx hi r hb) (g := mkF m pc ls (.long x :: .int j :: .ref a :: st)) rfl rfl (C.a d)
  have N1 := Fr.snoc X1 N g
  rw [(idx_of hi).2] at W1
  obtain ⟨s₂, o, g1, g2⟩ := K h1 W1 (Al.set ⟨cl, A, r⟩ W1) T1 _ X1 e1 N1
  exact ⟨s₂, o, st1 _ g1, g2⟩
theorem W.bastore (C : Cx p s m meth c Z y bytes ml ret) {a : Addr} {vs : List Value} {j : Int32} {x : Int32} (i : Nat) (d : decode bytes pc = .ok (.bastore, 1)) (A : Al Z h a .byte vs) (hi : j.toInt = (i : Int)) (hb : i < vs.length) (g : n0 ≤ a) (K : ∀ h', Wr h h' a i (.int x.toInt8.toInt32) → Al Z h' a .byte (vs.set i (.int x.toInt8.toInt32)) → W p l e R s m args below meth c n0 Q kc ks k n h' (pc + 1) ls st) : W p l e R s m args below meth c n0 Q kc ks k n h pc ls (.int x :: .int j :: .ref a :: st) := fun T locs X eT N => by
  obtain ⟨cl, A, r⟩ := A
  obtain ⟨T1, h1, X1, e1, W1, st1⟩ := stB X C.1 C.2.1 eT A (j := j) (x := x) (inb_of_idx hi r hb) (g := mkF m pc ls (.int x :: .int j :: .ref a :: st)) rfl rfl (C.a d)
  have N1 := Fr.snoc X1 N g
  rw [(idx_of hi).2] at W1
  obtain ⟨s₂, o, g1, g2⟩ := K h1 W1 (Al.set ⟨cl, A, r⟩ W1) T1 _ X1 e1 N1
  exact ⟨s₂, o, st1 _ g1, g2⟩
theorem W.castore (C : Cx p s m meth c Z y bytes ml ret) {a : Addr} {vs : List Value} {j : Int32} {x : Int32} (i : Nat) (d : decode bytes pc = .ok (.castore, 1)) (A : Al Z h a .char vs) (hi : j.toInt = (i : Int)) (hb : i < vs.length) (g : n0 ≤ a) (K : ∀ h', Wr h h' a i (.int x.toUInt32.toUInt16.toUInt32.toInt32) → Al Z h' a .char (vs.set i (.int x.toUInt32.toUInt16.toUInt32.toInt32)) → W p l e R s m args below meth c n0 Q kc ks k n h' (pc + 1) ls st) : W p l e R s m args below meth c n0 Q kc ks k n h pc ls (.int x :: .int j :: .ref a :: st) := fun T locs X eT N => by
  obtain ⟨cl, A, r⟩ := A
  obtain ⟨T1, h1, X1, e1, W1, st1⟩ := stC X C.1 C.2.1 eT A (j := j) (x := x) (inb_of_idx hi r hb) (g := mkF m pc ls (.int x :: .int j :: .ref a :: st)) rfl rfl (C.a d)
  have N1 := Fr.snoc X1 N g
  rw [(idx_of hi).2] at W1
  obtain ⟨s₂, o, g1, g2⟩ := K h1 W1 (Al.set ⟨cl, A, r⟩ W1) T1 _ X1 e1 N1
  exact ⟨s₂, o, st1 _ g1, g2⟩
theorem W.zastore (C : Cx p s m meth c Z y bytes ml ret) {a : Addr} {vs : List Value} {j : Int32} {x : Int32} (i : Nat) (d : decode bytes pc = .ok (.bastore, 1)) (A : Al Z h a .boolean vs) (hi : j.toInt = (i : Int)) (hb : i < vs.length) (g : n0 ≤ a) (K : ∀ h', Wr h h' a i (.int (x &&& 1)) → Al Z h' a .boolean (vs.set i (.int (x &&& 1))) → W p l e R s m args below meth c n0 Q kc ks k n h' (pc + 1) ls st) : W p l e R s m args below meth c n0 Q kc ks k n h pc ls (.int x :: .int j :: .ref a :: st) := fun T locs X eT N => by
  obtain ⟨cl, A, r⟩ := A
  obtain ⟨T1, h1, X1, e1, W1, st1⟩ := stZ X C.1 C.2.1 eT A (j := j) (x := x) (inb_of_idx hi r hb) (g := mkF m pc ls (.int x :: .int j :: .ref a :: st)) rfl rfl (C.a d)
  have N1 := Fr.snoc X1 N g
  rw [(idx_of hi).2] at W1
  obtain ⟨s₂, o, g1, g2⟩ := K h1 W1 (Al.set ⟨cl, A, r⟩ W1) T1 _ X1 e1 N1
  exact ⟨s₂, o, st1 _ g1, g2⟩
theorem i8_i8 (y : Int32) : y.toInt8.toInt32.toInt8.toInt32 = y.toInt8.toInt32 := by simp
theorem W.bastoreI (C : Cx p s m meth c Z y bytes ml ret) {a : Addr} {vs : List Value} {j : Int32} {x : Int32} (i : Nat) (d : decode bytes pc = .ok (.bastore, 1)) (A : Al Z h a .byte vs) (hi : j.toInt = (i : Int)) (hb : i < vs.length) (g : n0 ≤ a) (K : ∀ h', Wr h h' a i (.int x.toInt8.toInt32) → Al Z h' a .byte (vs.set i (.int x.toInt8.toInt32)) → W p l e R s m args below meth c n0 Q kc ks k n h' (pc + 1) ls st) : W p l e R s m args below meth c n0 Q kc ks k n h pc ls (.int x.toInt8.toInt32 :: .int j :: .ref a :: st) :=
  W.bastore C i d A hi hb g (by rw [i8_i8]; exact K)
theorem W.newP (C : Cx p s m meth c Z y bytes ml ret) {aty : ArrayType} {nn : Int32} (sz cap : Nat) (d : decode bytes pc = .ok (.newarray aty, 2)) (w : (Jvm.Cond.arrayClass (newarray.typeOf aty)).before a0 Z = true) (hn : nn.toInt = (sz : Int)) (hcap : sz ≤ cap) (hb : cap * 8 ≤ 536870912) (k' n' : Nat) (hk : k + 1 = k') (hn' : n + cap = n') (hc : k' ≤ R.cells) (hl : n' ≤ R.slots)
    (K : ∀ a h', a = h.size → Ext h h' → Al Z h' a (newarray.typeOf aty) (List.replicate sz (defaultValue (newarray.typeOf aty))) → W p l e R s m args below meth c n0 Q kc ks k' n' h' (pc + 2) ls (.ref a :: st)) : W p l e R s m args below meth c n0 Q kc ks k n h pc ls (.int nn :: st) := fun T locs X eT N => by
  subst hk hn'
  obtain ⟨T1, h1, cA, X1, e1, E1, A1, st1⟩ := Jvm.RoadKit.newP X C.1 C.2.1 w eT (g := mkF m pc ls (.int nn :: st)) rfl (C.a d) rfl (idx_of hn).1 (cap := cap) (by rw [(idx_of hn).2]; exact hcap) hb hc hl
  obtain ⟨s₂, o, g1, g2⟩ := K _ h1 rfl E1 ⟨_, A1, by simp [newA, (idx_of hn).2]⟩ T1 _ X1 e1 N
  exact ⟨s₂, o, st1 _ g1, g2⟩
theorem dupX2s {tb : Tables} [Ours tb] {T target : State} {g : JFrame} (H : At T m c below) (hx : tb.exec = Jvm.exec) (hg : g.method = m) {u v w : Value} {rest : List Value} (hd : decode c.code g.pc = .ok (.dup_x2, 1)) (hs : g.stack = u :: v :: w :: rest) (hc : u.category = 1) (hc' : v.category = 1) (hc2 : w.category = 1)
    (hr : Steps tb e below (T.setTop { g with pc := g.pc + 1, stack := u :: v :: w :: u :: rest }) target) : Steps tb e below (T.setTop g) target := by
  subst hg
  jvm_step H [H.top, hx, hd, hs, hc, hc', hc2]
  exact hr
theorem W.dupX2 (C : Cx p s m meth c Z y bytes ml ret) {u v w : Value} (d : decode bytes pc = .ok (.dup_x2, 1)) (hc : u.category = 1) (hc' : v.category = 1) (hc2 : w.category = 1) (K : W p l e R s m args below meth c n0 Q kc ks k n h (pc + 1) ls (u :: v :: w :: u :: st)) : W p l e R s m args below meth c n0 Q kc ks k n h pc ls (u :: v :: w :: st) :=
  W.lift (fun T t H S => dupX2s H C.1 rfl (C.a d) rfl hc hc' hc2 S) K
theorem Al.arv {a : Addr} {ty : FieldType} {vs : List Value} {dv : Value} (F : Al Z h a ty vs) (hl : vs.length < 2147483648) (hf : ∀ v ∈ vs, fits ty v = true) : ∃ k, Arv Z h a k ty vs.length.toInt32 vs dv := by
  obtain ⟨c, A, r⟩ := F
  have hs : c.slots.size = vs.length := by rw [r]; simp
  have hz : (vs.length.toInt32).toInt = vs.length := len_toInt hl
  obtain ⟨q1, q2⟩ := idx_of hz
  refine ⟨c.cls, c, A, rfl, by rw [hs, q2], q1, fun i hi => ?_, fun i hi => ?_⟩
  · rw [hs] at hi
    rw [r]; simp [List.getD_eq_getElem?_getD, List.getElem?_eq_getElem hi]
  · rw [hs] at hi
    have : vs.getD i dv = vs[i] := by simp [List.getD_eq_getElem?_getD, List.getElem?_eq_getElem hi]
    rw [this]; exact hf _ (List.getElem_mem hi)
theorem Al.of_arv {a : Addr} {k : ClassId} {ty : FieldType} {z : Int32} {vs : List Value} {dv : Value} (F : Arv Z h a k ty z vs dv) (hl : z.toNatClampNeg = vs.length) : Al Z h a ty vs := by
  obtain ⟨c, A, -, r2, -, H, -⟩ := F
  refine ⟨c, A, ?_⟩
  have hs : c.slots.size = vs.length := r2.trans hl
  apply Array.ext_getElem?
  intro i
  by_cases hi : i < vs.length
  · rw [H i (by rw [hs]; exact hi)]; simp [List.getD_eq_getElem?_getD, List.getElem?_eq_getElem hi]
  · rw [Array.getElem?_eq_none (by rw [hs]; omega)]; simp; omega
theorem cut_map (va : List Value) (dv : Value) (i q : Nat) (h : i + q ≤ va.length) : (List.range q).map (fun t => va.getD (i + t) dv) = (va.drop i).take q := by
  apply List.ext_getElem?
  intro t
  by_cases ht : t < q
  · have h1 : i + t < va.length := by omega
    simp [List.getElem?_take, ht, List.getD_eq_getElem?_getD, List.getElem?_eq_getElem h1]
  · simp [List.getElem?_take, ht]
theorem W.arrcopy (C : Cx p s m meth c Z y bytes ml ret) {index : Nat} {a b : Addr} {ty : FieldType} {va vd : List Value} {sp dp nn : Int32} (i j q : Nat) (d : decode bytes pc = .ok (.invokestatic index, 3)) (w1 : (Jvm.Cond.methodLink y.cls index Jvm.Stand.acN).before a0 Z = true) (w2 : (Jvm.Cond.native Jvm.Stand.acN).before a0 Z = true) (w3 : (Jvm.Cond.static Jvm.Stand.acN).before a0 Z = true) (w4 : (Jvm.Cond.initialized "java/lang/System").before a0 Z = true)
    (A : Al Z h a ty va) (B : Al Z h b ty vd) (hty : refKind ty = false) (hfa : ∀ v ∈ va, fits ty v = true) (hfb : ∀ v ∈ vd, fits ty v = true) (hla : va.length < 2147483648) (hlb : vd.length < 2147483648) (hsp : sp.toInt = (i : Int)) (hdp : dp.toInt = (j : Int)) (hnn : nn.toInt = (q : Int)) (h4 : i + q ≤ va.length) (h5 : j + q ≤ vd.length) (ge : n0 ≤ b)
    (w : Nat) (hW : (st.map fun v => v.category).sum = w) (hf : 1 ≤ R.frames) (hlo : w + (nativeFrameWords "java/lang/System" "arraycopy" 5 + 11) ≤ R.locals) (hsz : ls.size = ml)
    (K : ∀ h', Keep h h' [b] → Al Z h' b ty (vd.take j ++ (va.drop i).take q ++ vd.drop (j + q)) → W p l e R s m args below meth c n0 Q kc ks k n h' (pc + 3) ls st) : W p l e R s m args below meth c n0 Q kc ks k n h pc ls (.int nn :: .int dp :: .ref b :: .int sp :: .ref a :: st) := fun T locs X eT N => by
  obtain ⟨ka, A⟩ := A.arv (dv := .null) hla hfa
  obtain ⟨kb, B⟩ := B.arv (dv := .null) hlb hfb
  obtain ⟨s1, s2⟩ := idx_of hsp
  obtain ⟨d1, d2⟩ := idx_of hdp
  obtain ⟨n1, n2⟩ := idx_of hnn
  have za := (idx_of (len_toInt hla)).2
  have zb := (idx_of (len_toInt hlb)).2
  obtain ⟨T1, h1, L1, X1, e1, N1, K1, B1, st1⟩ := cpA X C.1 C.2.1 C.2.2.1 w1 w2 w3 w4 eT A B (Or.inl ⟨rfl, hty⟩) s1 d1 n1 (by rw [s2, n2, za]; exact h4) (by rw [d2, n2, zb]; exact h5) rfl (by rw [d2, n2]; exact h5) N ge (g := mkF m pc ls (.int nn :: .int dp :: .ref b :: .int sp :: .ref a :: st)) rfl (hsz.trans C.2.2.2.2.1.symm) rfl (C.a d) hf (W := w) (by show 2 * 0 + _ ≤ _; omega) hlo
  rw [s2, d2, n2, cut_map va .null i q h4] at B1
  have B2 : Al Z h1 b ty (vd.take j ++ (va.drop i).take q ++ vd.drop (j + q)) := Al.of_arv B1 (by rw [zb]; simp; omega)
  obtain ⟨s₂, o, g1, g2⟩ := K h1 K1 B2 T1 _ X1 e1 N1
  exact ⟨s₂, o, st1 _ g1, g2⟩
theorem W.clone (C : Cx p s m meth c Z y bytes ml ret) {index : Nat} {ad : String} {a : Addr} {ty : FieldType} {vs : List Value} (cap : Nat) (d : decode bytes pc = .ok (.invokevirtual index, 3)) (w1 : (Jvm.Cond.methodLink y.cls index ⟨ad, "clone", "()Ljava/lang/Object;"⟩).before a0 Z = true) (w2 : (Jvm.Cond.sameMethod ad "java/lang/Object" "clone" "()Ljava/lang/Object;").before a0 Z = true) (w3 : (Jvm.Cond.native ⟨"java/lang/Object", "clone", "()Ljava/lang/Object;"⟩).before a0 Z = true)
    (w4 : (Jvm.Cond.instanceMethod ⟨"java/lang/Object", "clone", "()Ljava/lang/Object;"⟩).before a0 Z = true) (w5 : (Jvm.Cond.selects ad ⟨ad, "clone", "()Ljava/lang/Object;"⟩ ⟨"java/lang/Object", "clone", "()Ljava/lang/Object;"⟩).before a0 Z = true) (w6 : (Jvm.Cond.castable ad "java/lang/Cloneable").before a0 Z = true)
    (A : Al Z h a ty vs) (E : Exa Z h a ad) (hfa : ∀ v ∈ vs, fits ty v = true) (hla : vs.length < 2147483648) (w k' n' : Nat) (hW : (st.map fun v => v.category).sum = w) (hf : 1 ≤ R.frames) (hlo : w + 14 ≤ R.locals) (hcap : vs.length ≤ cap) (hk : k + 1 = k') (hn : n + cap = n') (hc : k' ≤ R.cells) (hs : n' ≤ R.slots) (hsz : ls.size = ml)
    (K : ∀ a' h', a' = h.size → Ext h h' → Al Z h' a' ty vs → Exa Z h' a' ad → W p l e R s m args below meth c n0 Q kc ks k' n' h' (pc + 3) ls (.ref a' :: st)) : W p l e R s m args below meth c n0 Q kc ks k n h pc ls (.ref a :: st) := fun T locs X eT N => by
  subst hk hn
  obtain ⟨ka, A⟩ := A.arv (dv := .null) hla hfa
  have za := (idx_of (len_toInt hla)).2
  obtain ⟨T1, h1, X1, e1, E1, B1, G1, st1⟩ := cloneH X C.1 C.2.1 C.2.2.1 w1 w2 w3 w4 w5 w6 eT A.arh E (g := mkF m pc ls (.ref a :: st)) rfl (hsz.trans C.2.2.2.2.1.symm) rfl (C.a d) hf (W := w) (cap := cap) (by show 2 * 0 + _ ≤ _; omega) hlo (by rw [za]; exact hcap) hc hs
  obtain ⟨s₂, o, g1, g2⟩ := K _ h1 rfl E1 (Al.of_arv (show Arv Z h1 h.size ka ty vs.length.toInt32 vs .null from B1) za) G1 T1 _ X1 e1 N
  exact ⟨s₂, o, st1 _ g1, g2⟩
theorem W.cast (C : Cx p s m meth c Z y bytes ml ret) {index : Nat} {K0 : String} {a : Addr} (d : decode bytes pc = .ok (.checkcast index, 3)) (w1 : (Jvm.Cond.classLink y.cls index K0).before a0 Z = true) (I : Ins Z h a K0 true) (K : W p l e R s m args below meth c n0 Q kc ks k n h (pc + 3) ls (.ref a :: st)) : W p l e R s m args below meth c n0 Q kc ks k n h pc ls (.ref a :: st) := fun T locs X eT N => by
  obtain ⟨T1, X1, e1, st1⟩ := castY X C.1 C.2.1 C.2.2.1 w1 eT I (g := mkF m pc ls (.ref a :: st)) rfl rfl (C.a d)
  obtain ⟨s₂, o, g1, g2⟩ := K T1 _ X1 e1 N
  exact ⟨s₂, o, st1 _ g1, g2⟩
/-- an array of references, of the class k0 -/
def Alr (Z : State) (h : Heap) (a : Addr) (k0 : ClassId) (ty : FieldType) (vs : List Value) : Prop := ∃ c : Cell, Arr Z h a c ty ∧ c.cls = k0 ∧ c.slots = vs.toArray
theorem Alr.al {a : Addr} {k0 : ClassId} {ty : FieldType} {vs : List Value} (F : Alr Z h a k0 ty vs) : Al Z h a ty vs := by obtain ⟨c, A, -, r⟩ := F; exact ⟨c, A, r⟩
theorem Alr.lt {a : Addr} {k0 : ClassId} {ty : FieldType} {vs : List Value} (F : Alr Z h a k0 ty vs) : a < h.size := F.al.lt
theorem Alr.ext {a : Addr} {k0 : ClassId} {ty : FieldType} {vs : List Value} {h' : Heap} (F : Alr Z h a k0 ty vs) (E : Ext h h') : Alr Z h' a k0 ty vs := by obtain ⟨c, A, r⟩ := F; exact ⟨c, A.ext E, r⟩
theorem Alr.other {a b : Addr} {k0 : ClassId} {ty : FieldType} {vs : List Value} {h' : Heap} {sl : Nat} {v : Value} (F : Alr Z h b k0 ty vs) (U : Wr h h' a sl v) (q : b ≠ a) : Alr Z h' b k0 ty vs := by obtain ⟨c, A, r⟩ := F; exact ⟨c, A.other U q, r⟩
theorem Alr.keep {a : Addr} {k0 : ClassId} {ty : FieldType} {vs : List Value} {h' : Heap} {ws : List Addr} (F : Alr Z h a k0 ty vs) (K : Keep h h' ws) (q : a ∉ ws) : Alr Z h' a k0 ty vs := by obtain ⟨c, A, r⟩ := F; exact ⟨c, ⟨K.2.1 a c A.1 q, A.2⟩, r⟩
theorem W.newRA (C : Cx p s m meth c Z y bytes ml ret) {index : Nat} {ty : FieldType} {K0 ad : String} {nn : Int32} (sz cap : Nat) (d : decode bytes pc = .ok (.anewarray index, 3)) (hC : (FieldType.array ty).toString = K0) (w1 : (Jvm.Cond.classLink y.cls index K0).before a0 Z = true) (w2 : (Jvm.Cond.arrayOver (.array ty)).before a0 Z = true) (had : "[" ++ K0 = ad) (hn : nn.toInt = (sz : Int)) (hcap : sz ≤ cap) (hb : cap * 8 ≤ 536870912) (k' n' : Nat) (hk : k + 1 = k') (hn' : n + cap = n') (hc : k' ≤ R.cells) (hl : n' ≤ R.slots)
    (K : ∀ a h' k0, a = h.size → Ext h h' → Alr Z h' a k0 (.array ty) (List.replicate sz .null) → OvrA Z k0 ty K0 → Exa Z h' a ad → W p l e R s m args below meth c n0 Q kc ks k' n' h' (pc + 3) ls (.ref a :: st)) : W p l e R s m args below meth c n0 Q kc ks k n h pc ls (.int nn :: st) := fun T locs X eT N => by
  subst hk hn'
  obtain ⟨T1, h1, cA, X1, e1, E1, A1, G1, O1, st1⟩ := Jvm.RoadKit.newRA X C.1 C.2.1 C.2.2.1 hC w1 w2 eT (g := mkF m pc ls (.int nn :: st)) rfl (C.a d) rfl (idx_of hn).1 (cap := cap) (by rw [(idx_of hn).2]; exact hcap) hb hc hl had
  obtain ⟨s₂, o, g1, g2⟩ := K _ h1 cA rfl E1 ⟨_, A1, rfl, by simp [newA, (idx_of hn).2, defaultValue]⟩ O1 G1 T1 _ X1 e1 N
  exact ⟨s₂, o, st1 _ g1, g2⟩
theorem W.newPE (C : Cx p s m meth c Z y bytes ml ret) {aty : ArrayType} {nn : Int32} {ad : String} (sz cap : Nat) (d : decode bytes pc = .ok (.newarray aty, 2)) (w : (Jvm.Cond.arrayClass (newarray.typeOf aty)).before a0 Z = true) (had : "[" ++ (newarray.typeOf aty).toString = ad) (hn : nn.toInt = (sz : Int)) (hcap : sz ≤ cap) (hb : cap * 8 ≤ 536870912) (k' n' : Nat) (hk : k + 1 = k') (hn' : n + cap = n') (hc : k' ≤ R.cells) (hl : n' ≤ R.slots)
    (K : ∀ a h', a = h.size → Ext h h' → Al Z h' a (newarray.typeOf aty) (List.replicate sz (defaultValue (newarray.typeOf aty))) → Exa Z h' a ad → W p l e R s m args below meth c n0 Q kc ks k' n' h' (pc + 2) ls (.ref a :: st)) : W p l e R s m args below meth c n0 Q kc ks k n h pc ls (.int nn :: st) := fun T locs X eT N => by
  subst hk hn'
  obtain ⟨T1, h1, cA, X1, e1, E1, A1, G1, st1⟩ := Jvm.RoadKit.newPE X C.1 C.2.1 w eT (g := mkF m pc ls (.int nn :: st)) rfl (C.a d) rfl (idx_of hn).1 (cap := cap) (by rw [(idx_of hn).2]; exact hcap) hb hc hl had
  obtain ⟨s₂, o, g1, g2⟩ := K _ h1 rfl E1 ⟨_, A1, by simp [newA, (idx_of hn).2]⟩ G1 T1 _ X1 e1 N
  exact ⟨s₂, o, st1 _ g1, g2⟩
theorem W.aastoreA (C : Cx p s m meth c Z y bytes ml ret) {a b : Addr} {k0 : ClassId} {ty : FieldType} {K0 : String} {vs : List Value} {j : Int32} (i : Nat) (d : decode bytes pc = .ok (.aastore, 1)) (A : Alr Z h a k0 (.array ty) vs) (O : OvrA Z k0 ty K0) (I : Ins Z h b K0 true) (hi : j.toInt = (i : Int)) (hb : i < vs.length) (g : n0 ≤ a) (K : ∀ h', Wr h h' a i (.ref b) → Alr Z h' a k0 (.array ty) (vs.set i (.ref b)) → W p l e R s m args below meth c n0 Q kc ks k n h' (pc + 1) ls st) : W p l e R s m args below meth c n0 Q kc ks k n h pc ls (.ref b :: .int j :: .ref a :: st) := fun T locs X eT N => by
  obtain ⟨cl, A, q0, r⟩ := A
  obtain ⟨T1, h1, X1, e1, W1, st1⟩ := stR X C.1 C.2.1 eT A (j := j) (inb_of_idx hi r hb) rfl (Sto.ofVA A q0 O I) (g := mkF m pc ls (.ref b :: .int j :: .ref a :: st)) rfl rfl (C.a d)
  have N1 := Fr.snoc X1 N g
  rw [(idx_of hi).2] at W1
  obtain ⟨s₂, o, g1, g2⟩ := K h1 W1 ⟨_, A.same W1, q0, by simp [Cell.setSlot, r]⟩ T1 _ X1 e1 N1
  exact ⟨s₂, o, st1 _ g1, g2⟩
end
theorem tkw {ts : List Jvm.Cond} {a0 : Array Value} {Z : State} (hw : ∀ d ∈ ts, d.before a0 Z = true) (i : Nat) {d : Jvm.Cond} (q : ts[i]? = some d) : d.before a0 Z = true := hw d (List.mem_of_getElem? q)
end Jvm.OwnKit
namespace Jvm.Pilot.@@N@@
open Jvm Jvm.ClassFile Sem Op Lib Jvm.Free Jvm.Stand Jvm.LawKit Jvm.RoadKit Bundle Jvm.OwnKit Jvm.Pilot.@@N@@.Jvm.D
theorem own_at {bs : List Int32} {i : Nat} (h : i < bs.length) : (bs.map Value.int)[i]? = some (.int (bs.getD i 0)) := by
  simp [List.getElem?_map, List.getD_eq_getElem?_getD, List.getElem?_eq_getElem h]
theorem own_set {bs : List Int32} {i : Nat} {x : Int32} : (bs.map Value.int).set i (.int x) = (bs.set i x).map Value.int := by simp [List.map_set]
theorem own_get_set {bs : List Int32} {i j : Nat} {x : Int32} (h : i < bs.length) : (bs.set i x).getD j 0 = if i = j then x else bs.getD j 0 := by
  simp only [List.getD_eq_getElem?_getD, List.getElem?_set]
  split
  · subst_vars; simp [h]
  · rfl
def own_cnt (gs : List Int32) (i t : Nat) : Nat := (gs.take i).countP (fun g => decide (g.toInt = (t : Int)))
theorem own_cnt_0 (gs : List Int32) (t : Nat) : own_cnt gs 0 t = 0 := by simp [own_cnt]
theorem own_cnt_s {gs : List Int32} {i : Nat} (t : Nat) (h : i < gs.length) : own_cnt gs (i + 1) t = own_cnt gs i t + (if (gs.getD i 0).toInt = (t : Int) then 1 else 0) := by
  have e : gs.getD i 0 = gs[i] := by simp [List.getD_eq_getElem?_getD, List.getElem?_eq_getElem h]
  unfold own_cnt
  rw [List.take_add_one, List.getElem?_eq_getElem h, List.countP_append, e]
  simp [List.countP_cons]
theorem own_cnt_le (gs : List Int32) (i t : Nat) : own_cnt gs i t ≤ i := by
  unfold own_cnt
  exact Nat.le_trans List.countP_le_length (by simp; omega)
theorem own_cnt_m {gs : List Int32} {i j : Nat} (t : Nat) (hj : j ≤ gs.length) (h : i ≤ j) : own_cnt gs i t ≤ own_cnt gs j t := by
  obtain ⟨d, rfl⟩ := Nat.le.dest h
  induction d with
  | zero => exact Nat.le_refl _
  | succ d ih => exact Nat.le_trans (ih (by omega) (by omega)) (by rw [← Nat.add_assoc, own_cnt_s t (by omega)]; omega)
def own_ok (gs : List Int32) (G : Nat) : Prop := ∀ i < gs.length, (gs.getD i 0).toInt < 0 ∨ (0 ≤ (gs.getD i 0).toInt ∧ (gs.getD i 0).toInt < (G : Int))
theorem own_ls (rs : List Addr) (nb : Addr) (G : Nat) (h : rs.length < G) : (rs.map Value.ref ++ List.replicate (G - rs.length) Value.null).set rs.length (.ref nb) = (rs ++ [nb]).map Value.ref ++ List.replicate (G - (rs.length + 1)) Value.null := by
  have e : G - rs.length = (G - (rs.length + 1)) + 1 := by omega
  rw [e, List.replicate_succ, List.set_append, if_neg (by simp)]
  simp
theorem own_snoc (rs : List Addr) (nb : Addr) (t : Nat) (h : t < rs.length) : (rs ++ [nb]).getD t 0 = rs.getD t 0 := by
  simp [List.getD_eq_getElem?_getD, List.getElem?_append_left h]
theorem own_snoc1 (rs : List Addr) (nb : Addr) : (rs ++ [nb]).getD rs.length 0 = nb := by simp [List.getD_eq_getElem?_getD]
theorem own_rat {rs : List Addr} {G t : Nat} (hr : rs.length = G) (h : t < G) : (rs.map Value.ref ++ List.replicate (G - G) Value.null)[t]? = some (.ref (rs.getD t 0)) := by
  subst hr
  rw [List.getElem?_append_left (by simpa using h)]
  simp [List.getElem?_map, List.getD_eq_getElem?_getD, List.getElem?_eq_getElem h]
abbrev y2 : MethodName := ⟨"com/example/dido/dido/Dag", "grouped", "(I[I[I)[[I"⟩
theorem d2_0 : decode prog_17_method_16_code 0 = .ok (.iload_n 0, 1) := by decide +kernel
theorem d2_1 : decode prog_17_method_16_code 1 = .ok (.newarray .int, 2) := by decide +kernel
theorem d2_3 : decode prog_17_method_16_code 3 = .ok (.astore_n 3, 1) := by decide +kernel
theorem d2_4 : decode prog_17_method_16_code 4 = .ok (.aload_n 1, 1) := by decide +kernel
theorem d2_5 : decode prog_17_method_16_code 5 = .ok (.astore 4, 2) := by decide +kernel
theorem d2_7 : decode prog_17_method_16_code 7 = .ok (.aload 4, 2) := by decide +kernel
theorem d2_9 : decode prog_17_method_16_code 9 = .ok (.arraylength, 1) := by decide +kernel
theorem d2_10 : decode prog_17_method_16_code 10 = .ok (.istore 5, 2) := by decide +kernel
theorem d2_12 : decode prog_17_method_16_code 12 = .ok (.iconst 0, 1) := by decide +kernel
theorem d2_13 : decode prog_17_method_16_code 13 = .ok (.istore 6, 2) := by decide +kernel
theorem d2_15 : decode prog_17_method_16_code 15 = .ok (.iload 6, 2) := by decide +kernel
theorem d2_17 : decode prog_17_method_16_code 17 = .ok (.iload 5, 2) := by decide +kernel
theorem d2_19 : decode prog_17_method_16_code 19 = .ok (.if_icmp .ge 29, 3) := by decide +kernel
theorem d2_22 : decode prog_17_method_16_code 22 = .ok (.aload 4, 2) := by decide +kernel
theorem d2_24 : decode prog_17_method_16_code 24 = .ok (.iload 6, 2) := by decide +kernel
theorem d2_26 : decode prog_17_method_16_code 26 = .ok (.iaload, 1) := by decide +kernel
theorem d2_27 : decode prog_17_method_16_code 27 = .ok (.istore 7, 2) := by decide +kernel
theorem d2_29 : decode prog_17_method_16_code 29 = .ok (.iload 7, 2) := by decide +kernel
theorem d2_31 : decode prog_17_method_16_code 31 = .ok (.ifCond .lt 11, 3) := by decide +kernel
theorem d2_34 : decode prog_17_method_16_code 34 = .ok (.aload_n 3, 1) := by decide +kernel
theorem d2_35 : decode prog_17_method_16_code 35 = .ok (.iload 7, 2) := by decide +kernel
theorem d2_37 : decode prog_17_method_16_code 37 = .ok (.dup2, 1) := by decide +kernel
theorem d2_38 : decode prog_17_method_16_code 38 = .ok (.iaload, 1) := by decide +kernel
theorem d2_39 : decode prog_17_method_16_code 39 = .ok (.iconst 1, 1) := by decide +kernel
theorem d2_40 : decode prog_17_method_16_code 40 = .ok (.iadd, 1) := by decide +kernel
theorem d2_41 : decode prog_17_method_16_code 41 = .ok (.iastore, 1) := by decide +kernel
theorem d2_42 : decode prog_17_method_16_code 42 = .ok (.iinc 6 1, 3) := by decide +kernel
theorem d2_45 : decode prog_17_method_16_code 45 = .ok (.goto (-30), 3) := by decide +kernel
theorem d2_48 : decode prog_17_method_16_code 48 = .ok (.iload_n 0, 1) := by decide +kernel
theorem d2_49 : decode prog_17_method_16_code 49 = .ok (.anewarray 168, 3) := by decide +kernel
theorem d2_52 : decode prog_17_method_16_code 52 = .ok (.astore 4, 2) := by decide +kernel
theorem d2_54 : decode prog_17_method_16_code 54 = .ok (.iconst 0, 1) := by decide +kernel
theorem d2_55 : decode prog_17_method_16_code 55 = .ok (.istore 5, 2) := by decide +kernel
theorem d2_57 : decode prog_17_method_16_code 57 = .ok (.iload 5, 2) := by decide +kernel
theorem d2_59 : decode prog_17_method_16_code 59 = .ok (.iload_n 0, 1) := by decide +kernel
theorem d2_60 : decode prog_17_method_16_code 60 = .ok (.if_icmp .ge 20, 3) := by decide +kernel
theorem d2_63 : decode prog_17_method_16_code 63 = .ok (.aload 4, 2) := by decide +kernel
theorem d2_65 : decode prog_17_method_16_code 65 = .ok (.iload 5, 2) := by decide +kernel
theorem d2_67 : decode prog_17_method_16_code 67 = .ok (.aload_n 3, 1) := by decide +kernel
theorem d2_68 : decode prog_17_method_16_code 68 = .ok (.iload 5, 2) := by decide +kernel
theorem d2_70 : decode prog_17_method_16_code 70 = .ok (.iaload, 1) := by decide +kernel
theorem d2_71 : decode prog_17_method_16_code 71 = .ok (.newarray .int, 2) := by decide +kernel
theorem d2_73 : decode prog_17_method_16_code 73 = .ok (.aastore, 1) := by decide +kernel
theorem d2_74 : decode prog_17_method_16_code 74 = .ok (.iinc 5 1, 3) := by decide +kernel
theorem d2_77 : decode prog_17_method_16_code 77 = .ok (.goto (-20), 3) := by decide +kernel
theorem d2_80 : decode prog_17_method_16_code 80 = .ok (.iload_n 0, 1) := by decide +kernel
theorem d2_81 : decode prog_17_method_16_code 81 = .ok (.newarray .int, 2) := by decide +kernel
theorem d2_83 : decode prog_17_method_16_code 83 = .ok (.astore 5, 2) := by decide +kernel
theorem d2_85 : decode prog_17_method_16_code 85 = .ok (.iconst 0, 1) := by decide +kernel
theorem d2_86 : decode prog_17_method_16_code 86 = .ok (.istore 6, 2) := by decide +kernel
theorem d2_88 : decode prog_17_method_16_code 88 = .ok (.iload 6, 2) := by decide +kernel
theorem d2_90 : decode prog_17_method_16_code 90 = .ok (.aload_n 2, 1) := by decide +kernel
theorem d2_91 : decode prog_17_method_16_code 91 = .ok (.arraylength, 1) := by decide +kernel
theorem d2_92 : decode prog_17_method_16_code 92 = .ok (.if_icmp .ge 40, 3) := by decide +kernel
theorem d2_95 : decode prog_17_method_16_code 95 = .ok (.aload_n 1, 1) := by decide +kernel
theorem d2_96 : decode prog_17_method_16_code 96 = .ok (.iload 6, 2) := by decide +kernel
theorem d2_98 : decode prog_17_method_16_code 98 = .ok (.iaload, 1) := by decide +kernel
theorem d2_99 : decode prog_17_method_16_code 99 = .ok (.istore 7, 2) := by decide +kernel
theorem d2_101 : decode prog_17_method_16_code 101 = .ok (.iload 7, 2) := by decide +kernel
theorem d2_103 : decode prog_17_method_16_code 103 = .ok (.ifCond .lt 23, 3) := by decide +kernel
theorem d2_106 : decode prog_17_method_16_code 106 = .ok (.aload 4, 2) := by decide +kernel
theorem d2_108 : decode prog_17_method_16_code 108 = .ok (.iload 7, 2) := by decide +kernel
theorem d2_110 : decode prog_17_method_16_code 110 = .ok (.aaload, 1) := by decide +kernel
theorem d2_111 : decode prog_17_method_16_code 111 = .ok (.aload 5, 2) := by decide +kernel
theorem d2_113 : decode prog_17_method_16_code 113 = .ok (.iload 7, 2) := by decide +kernel
theorem d2_115 : decode prog_17_method_16_code 115 = .ok (.dup2, 1) := by decide +kernel
theorem d2_116 : decode prog_17_method_16_code 116 = .ok (.iaload, 1) := by decide +kernel
theorem d2_117 : decode prog_17_method_16_code 117 = .ok (.dup_x2, 1) := by decide +kernel
theorem d2_118 : decode prog_17_method_16_code 118 = .ok (.iconst 1, 1) := by decide +kernel
theorem d2_119 : decode prog_17_method_16_code 119 = .ok (.iadd, 1) := by decide +kernel
theorem d2_120 : decode prog_17_method_16_code 120 = .ok (.iastore, 1) := by decide +kernel
theorem d2_121 : decode prog_17_method_16_code 121 = .ok (.aload_n 2, 1) := by decide +kernel
theorem d2_122 : decode prog_17_method_16_code 122 = .ok (.iload 6, 2) := by decide +kernel
theorem d2_124 : decode prog_17_method_16_code 124 = .ok (.iaload, 1) := by decide +kernel
theorem d2_125 : decode prog_17_method_16_code 125 = .ok (.iastore, 1) := by decide +kernel
theorem d2_126 : decode prog_17_method_16_code 126 = .ok (.iinc 6 1, 3) := by decide +kernel
theorem d2_129 : decode prog_17_method_16_code 129 = .ok (.goto (-41), 3) := by decide +kernel
theorem d2_132 : decode prog_17_method_16_code 132 = .ok (.aload 4, 2) := by decide +kernel
theorem d2_134 : decode prog_17_method_16_code 134 = .ok (.areturn, 1) := by decide +kernel
theorem pf_2 : plainFor y2 = true := by first | exact plainFor_of_name (by first | (simp [plainName, overriddenIn]; done) | decide +kernel) | decide +kernel
theorem ef_2 (m : MethodId) (x0 : Int32) (a1 : Addr) (a2 : Addr) : entryFrame m #[(.int x0), (.ref a1), (.ref a2)] 8 = mkF m 0 #[.val (.int x0), .val (.ref a1), .val (.ref a2), .unset, .unset, .unset, .unset, .unset] [] := by first | (simp [entryFrame, mkF, argsToLocals, Value.category]; done) | rfl
set_option maxRecDepth 65536 in
set_option maxHeartbeats 40000000 in
theorem con_2 (l : Launch) (Z : State) (a0 : Array Value) (hw : ∀ d ∈ tables_1, d.before a0 Z = true) (h0 : Heap) (n0 : Nat) (x0 : Int32) (a1 : Addr) (a2 : Addr) (G : Nat) (gs vs : List Int32) (hG : x0.toInt = (G : Int)) (hG7 : G ≤ 7) (hgl : gs.length = 4) (hvl : vs.length = 4) (hok : own_ok gs G) (L1 : Al Z h0 a1 .int (gs.map Value.int)) (L2 : Al Z h0 a2 .int (vs.map Value.int)) (Z0 : n0 ≤ h0.size) : Con l Z y2 prog_17_method_16_code 8 (some (.array (.array .int))) ({ frames := 0, cells := 10, slots := 49, locals := 0 } : Room) #[(.int x0), (.ref a1), (.ref a2)] h0 n0 (fun v h => ∃ (a : Addr) (rs : List Addr) (cs : Nat → List Int32), v = some (.ref a) ∧ Keep h0 h [] ∧ n0 ≤ h.size ∧ Al Z h a (.array .int) (rs.map Value.ref) ∧ rs.length = G ∧ (∀ t < G, Al Z h (rs.getD t 0) .int ((cs t).map Value.int)) ∧ (∀ t < G, (cs t).length = own_cnt gs 4 t) ∧ ∀ t < G, ∀ k < 4, (gs.getD k 0).toInt = (t : Int) → (cs t).getD (own_cnt gs k t) 0 = vs.getD k 0) := by
  refine Con.of pf_2 (fun m => ef_2 m x0 a1 a2) ?_
  intro p e s m below meth c C
  have K0 : Keep h0 h0 [] := Keep.refl _ _
  refine W.iloadN C d2_0 rfl ?_
  refine W.newP C G 7 d2_1 (tkw hw 5 rfl) hG hG7 (by decide) 1 7 rfl rfl (by decide) (by decide) ?_
  intro ob1 hp2 hob1 Eob1 Lob1
  have ne_a1_ob1 : a1 ≠ ob1 := Nat.ne_of_lt (by rw [hob1]; exact L1.lt)
  have ne_a2_ob1 : a2 ≠ ob1 := Nat.ne_of_lt (by rw [hob1]; exact L2.lt)
  have ge_ob1 : n0 ≤ ob1 := by rw [hob1]; exact Z0
  have sz_ob1 : h0.size ≤ ob1 := by rw [hob1]; exact K0.1
  replace L1 := L1.ext Eob1
  replace L2 := L2.ext Eob1
  replace Z0 := Nat.le_trans Z0 Eob1.1
  replace K0 := K0.ext Eob1
  replace Lob1 : Al Z hp2 ob1 .int (List.replicate G (Value.int 0)) := Lob1
  refine W.astoreN C #[.val (.int x0), .val (.ref a1), .val (.ref a2), .val (.ref ob1), .unset, .unset, .unset, .unset] d2_3 rfl rfl ?_
  refine W.aloadN C d2_4 rfl rfl ?_
  refine W.astore C #[.val (.int x0), .val (.ref a1), .val (.ref a2), .val (.ref ob1), .val (.ref a1), .unset, .unset, .unset] d2_5 rfl rfl ?_
  refine W.aload C d2_7 rfl rfl ?_
  refine W.arrlen C (4 : Int32) d2_9 L1 (by rw [List.length_map, hgl]; rfl) ?_
  refine W.istore C #[.val (.int x0), .val (.ref a1), .val (.ref a2), .val (.ref ob1), .val (.ref a1), .val (.int (4 : Int32)), .unset, .unset] d2_10 rfl ?_
  refine W.iconst C (0 : Int32) d2_12 rfl ?_
  refine W.istore C #[.val (.int x0), .val (.ref a1), .val (.ref a2), .val (.ref ob1), .val (.ref a1), .val (.int (4 : Int32)), .val (.int (0 : Int32)), .unset] d2_13 rfl ?_
  replace Lob1 : Al Z hp2 ob1 .int ((List.replicate G (0 : Int32)).map Value.int) := by rw [List.map_replicate]; exact Lob1
  have loop1 : ∀ (mm i : Nat) (ii : Int32) (o7 : Slot) (ss : List Int32) (hh : Heap), One o7 → i + mm = 4 → ii.toInt = (i : Int) → ss.length = G → (∀ t < G, (ss.getD t 0).toInt = (own_cnt gs i t : Int)) → Al Z hh a1 .int (gs.map Value.int) → Al Z hh a2 .int (vs.map Value.int) → Al Z hh ob1 .int (ss.map Value.int) → n0 ≤ hh.size → Keep h0 hh [] → W p l e ({ frames := 0, cells := 10, slots := 49, locals := 0 } : Room) s m #[(.int x0), (.ref a1), (.ref a2)] below meth c n0 (fun v h => ∃ (a : Addr) (rs : List Addr) (cs : Nat → List Int32), v = some (.ref a) ∧ Keep h0 h [] ∧ n0 ≤ h.size ∧ Al Z h a (.array .int) (rs.map Value.ref) ∧ rs.length = G ∧ (∀ t < G, Al Z h (rs.getD t 0) .int ((cs t).map Value.int)) ∧ (∀ t < G, (cs t).length = own_cnt gs 4 t) ∧ ∀ t < G, ∀ k < 4, (gs.getD k 0).toInt = (t : Int) → (cs t).getD (own_cnt gs k t) 0 = vs.getD k 0) ({ frames := 0, cells := 10, slots := 49, locals := 0 } : Room).cells ({ frames := 0, cells := 10, slots := 49, locals := 0 } : Room).slots 1 7 hh 15 #[.val (.int x0), .val (.ref a1), .val (.ref a2), .val (.ref ob1), .val (.ref a1), .val (.int (4 : Int32)), .val (.int ii), o7] [] := by
    intro mm
    induction mm with
    | zero =>
      intro i ii o7 ss hh ho_o7 hn hi hr hq L1 L2 Lob1 Z0 K0
      refine W.iload C d2_15 rfl ?_
      refine W.iload C d2_17 rfl ?_
      refine W.icmp_ge C 48 d2_19 rfl (fun bq1 => ?_) (fun bq1 => absurd (show ¬ ii < 4 by rw [Int32.lt_iff_toInt_lt, hi, show (4 : Int32).toInt = 4 from rfl]; omega) (by simpa using bq1))
      obtain rfl : i = 4 := by omega
      refine W.iloadN C d2_48 rfl ?_
      refine W.newRA C (ad := "[[I") (ty := .int) G 7 d2_49 rfl (tkw hw 10 rfl) (tkw hw 11 rfl) rfl hG hG7 (by decide) 2 14 rfl rfl (by decide) (by decide) ?_
      intro ob hp3 k0 hob Eob Lob Oob Xob
      have ne_a1_ob : a1 ≠ ob := Nat.ne_of_lt (by rw [hob]; exact L1.lt)
      have ne_a2_ob : a2 ≠ ob := Nat.ne_of_lt (by rw [hob]; exact L2.lt)
      have ne_ob1_ob : ob1 ≠ ob := Nat.ne_of_lt (by rw [hob]; exact Lob1.lt)
      have ge_ob : n0 ≤ ob := by rw [hob]; exact Z0
      have sz_ob : h0.size ≤ ob := by rw [hob]; exact K0.1
      replace L1 := L1.ext Eob
      replace L2 := L2.ext Eob
      replace Lob1 := Lob1.ext Eob
      replace Z0 := Nat.le_trans Z0 Eob.1
      replace K0 := K0.ext Eob
      refine W.astore C #[.val (.int x0), .val (.ref a1), .val (.ref a2), .val (.ref ob1), .val (.ref ob), .val (.int (4 : Int32)), .val (.int ii), o7] d2_52 rfl rfl ?_
      refine W.iconst C (0 : Int32) d2_54 rfl ?_
      refine W.istore C #[.val (.int x0), .val (.ref a1), .val (.ref a2), .val (.ref ob1), .val (.ref ob), .val (.int (0 : Int32)), .val (.int ii), o7] d2_55 rfl ?_
      obtain ⟨bz, ebz⟩ : ∃ z : Nat, z = hp3.size := ⟨_, rfl⟩
      have n0bz : n0 ≤ bz := by rw [ebz]; exact Z0
      have h0bz : h0.size ≤ bz := by rw [ebz]; exact K0.1
      have lt_a1 : a1 < bz := by rw [ebz]; exact L1.lt
      have lt_a2 : a2 < bz := by rw [ebz]; exact L2.lt
      have lt_ob1 : ob1 < bz := by rw [ebz]; exact Lob1.lt
      have lt_ob : ob < bz := by rw [ebz]; exact Lob.lt
      have loop2 : ∀ (mm j : Nat) (jj : Int32) (rs : List Addr) (hj : Heap), j + mm = G → jj.toInt = (j : Int) → rs.length = j → (∀ t < j, Al Z hj (rs.getD t 0) .int (List.replicate (own_cnt gs 4 t) (Value.int 0))) → (∀ t < j, bz ≤ rs.getD t 0 ∧ rs.getD t 0 < hj.size) → (∀ t < j, ∀ u < t, rs.getD u 0 < rs.getD t 0) → bz ≤ hj.size → Al Z hj a1 .int (gs.map Value.int) → Al Z hj a2 .int (vs.map Value.int) → Al Z hj ob1 .int (ss.map Value.int) → Alr Z hj ob k0 (.array .int) (rs.map Value.ref ++ List.replicate (G - j) Value.null) → n0 ≤ hj.size → Keep h0 hj [] → W p l e ({ frames := 0, cells := 10, slots := 49, locals := 0 } : Room) s m #[(.int x0), (.ref a1), (.ref a2)] below meth c n0 (fun v h => ∃ (a : Addr) (rs : List Addr) (cs : Nat → List Int32), v = some (.ref a) ∧ Keep h0 h [] ∧ n0 ≤ h.size ∧ Al Z h a (.array .int) (rs.map Value.ref) ∧ rs.length = G ∧ (∀ t < G, Al Z h (rs.getD t 0) .int ((cs t).map Value.int)) ∧ (∀ t < G, (cs t).length = own_cnt gs 4 t) ∧ ∀ t < G, ∀ k < 4, (gs.getD k 0).toInt = (t : Int) → (cs t).getD (own_cnt gs k t) 0 = vs.getD k 0) ({ frames := 0, cells := 10, slots := 49, locals := 0 } : Room).cells ({ frames := 0, cells := 10, slots := 49, locals := 0 } : Room).slots (2 + j) (14 + 4 * j) hj 57 #[.val (.int x0), .val (.ref a1), .val (.ref a2), .val (.ref ob1), .val (.ref ob), .val (.int jj), .val (.int ii), o7] [] := by
        intro mm
        induction mm with
        | zero =>
          intro j jj rs hj hn2 hjj hrl hA hB hC hbz L1 L2 Lob1 Lob Z0 K0
          refine W.iload C d2_57 rfl ?_
          refine W.iloadN C d2_59 rfl ?_
          refine W.icmp_ge C 80 d2_60 rfl (fun bq2 => ?_) (fun bq2 => absurd (show ¬ jj < x0 by rw [Int32.lt_iff_toInt_lt, hjj, hG]; omega) (by simpa using bq2))
          have hjG : j = G := by omega
          refine W.room (k' := 9) (n' := 42) (by omega) (by omega) ?_
          replace hA : ∀ t < G, Al Z hj (rs.getD t 0) .int (List.replicate (own_cnt gs 4 t) (Value.int 0)) := fun t ht => hA t (by omega)
          replace hB : ∀ t < G, bz ≤ rs.getD t 0 ∧ rs.getD t 0 < hj.size := fun t ht => hB t (by omega)
          replace hC : ∀ t < G, ∀ u < t, rs.getD u 0 < rs.getD t 0 := fun t ht => hC t (by omega)
          rw [hjG] at Lob hrl
          refine W.iloadN C d2_80 rfl ?_
          refine W.newP C G 7 d2_81 (tkw hw 5 rfl) hG hG7 (by decide) 10 49 rfl rfl (by decide) (by decide) ?_
          intro ob4 hp5 hob4 Eob4 Lob4
          have ne_a1_ob4 : a1 ≠ ob4 := Nat.ne_of_lt (by rw [hob4]; exact L1.lt)
          have ne_a2_ob4 : a2 ≠ ob4 := Nat.ne_of_lt (by rw [hob4]; exact L2.lt)
          have ne_ob_ob4 : ob ≠ ob4 := Nat.ne_of_lt (by rw [hob4]; exact Lob.lt)
          have ge_ob4 : n0 ≤ ob4 := by rw [hob4]; exact Z0
          have sz_ob4 : h0.size ≤ ob4 := by rw [hob4]; exact K0.1
          replace L1 := L1.ext Eob4
          replace L2 := L2.ext Eob4
          replace Lob := Lob.ext Eob4
          replace Z0 := Nat.le_trans Z0 Eob4.1
          replace K0 := K0.ext Eob4
          replace Lob4 : Al Z hp5 ob4 .int (List.replicate G (Value.int 0)) := Lob4
          have lt5 : ∀ t < G, rs.getD t 0 < ob4 := fun t ht => by rw [hob4]; exact (hB t ht).2
          replace hA := fun t ht => (hA t ht).ext Eob4
          replace Lob4 : Al Z hp5 ob4 .int ((List.replicate G (0 : Int32)).map Value.int) := by rw [List.map_replicate]; exact Lob4
          refine W.astore C #[.val (.int x0), .val (.ref a1), .val (.ref a2), .val (.ref ob1), .val (.ref ob), .val (.ref ob4), .val (.int ii), o7] d2_83 rfl rfl ?_
          refine W.iconst C (0 : Int32) d2_85 rfl ?_
          refine W.istore C #[.val (.int x0), .val (.ref a1), .val (.ref a2), .val (.ref ob1), .val (.ref ob), .val (.ref ob4), .val (.int (0 : Int32)), o7] d2_86 rfl ?_
          have loop3 : ∀ (mm i : Nat) (i3 : Int32) (o8 : Slot) (fs : List Int32) (cs : Nat → List Int32) (hk : Heap), One o8 → i + mm = 4 → i3.toInt = (i : Int) → fs.length = G → (∀ t < G, (fs.getD t 0).toInt = (own_cnt gs i t : Int)) → (∀ t < G, Al Z hk (rs.getD t 0) .int ((cs t).map Value.int)) → (∀ t < G, (cs t).length = own_cnt gs 4 t) → (∀ t < G, ∀ k < i, (gs.getD k 0).toInt = (t : Int) → (cs t).getD (own_cnt gs k t) 0 = vs.getD k 0) → Al Z hk a1 .int (gs.map Value.int) → Al Z hk a2 .int (vs.map Value.int) → Alr Z hk ob k0 (.array .int) (rs.map Value.ref ++ List.replicate (G - G) Value.null) → Al Z hk ob4 .int (fs.map Value.int) → n0 ≤ hk.size → Keep h0 hk [] → W p l e ({ frames := 0, cells := 10, slots := 49, locals := 0 } : Room) s m #[(.int x0), (.ref a1), (.ref a2)] below meth c n0 (fun v h => ∃ (a : Addr) (rs : List Addr) (cs : Nat → List Int32), v = some (.ref a) ∧ Keep h0 h [] ∧ n0 ≤ h.size ∧ Al Z h a (.array .int) (rs.map Value.ref) ∧ rs.length = G ∧ (∀ t < G, Al Z h (rs.getD t 0) .int ((cs t).map Value.int)) ∧ (∀ t < G, (cs t).length = own_cnt gs 4 t) ∧ ∀ t < G, ∀ k < 4, (gs.getD k 0).toInt = (t : Int) → (cs t).getD (own_cnt gs k t) 0 = vs.getD k 0) ({ frames := 0, cells := 10, slots := 49, locals := 0 } : Room).cells ({ frames := 0, cells := 10, slots := 49, locals := 0 } : Room).slots 10 49 hk 88 #[.val (.int x0), .val (.ref a1), .val (.ref a2), .val (.ref ob1), .val (.ref ob), .val (.ref ob4), .val (.int i3), o8] [] := by
            skip
            intro mm
            induction mm with
            | zero =>
              intro i i3 o8 fs cs hk ho_o8 hn3 hi3 hfl hf hA hD hV L1 L2 Lob Lob4 Z0 K0
              refine W.iload C d2_88 rfl ?_
              refine W.aloadN C d2_90 rfl rfl ?_
              refine W.arrlen C (4 : Int32) d2_91 L2 (by rw [List.length_map, hvl]; rfl) ?_
              refine W.icmp_ge C 132 d2_92 rfl (fun bq3 => ?_) (fun bq3 => absurd (show ¬ i3 < 4 by rw [Int32.lt_iff_toInt_lt, hi3, show (4 : Int32).toInt = 4 from rfl]; omega) (by simpa using bq3))
              refine W.aload C d2_132 rfl rfl ?_
              exact W.aret C d2_134 rfl rfl rfl (by decide) (by decide) ⟨ob, rs, cs, rfl, K0, Z0, by simpa using Lob.al, hrl, hA, hD, fun t ht k hk2 => hV t ht k (by omega)⟩
            | succ mm ih =>
              intro i i3 o8 fs cs hk ho_o8 hn3 hi3 hfl hf hA hD hV L1 L2 Lob Lob4 Z0 K0
              refine W.iload C d2_88 rfl ?_
              refine W.aloadN C d2_90 rfl rfl ?_
              refine W.arrlen C (4 : Int32) d2_91 L2 (by rw [List.length_map, hvl]; rfl) ?_
              refine W.icmp_ge C 132 d2_92 rfl (fun bq4 => absurd (show i3 < 4 by rw [Int32.lt_iff_toInt_lt, hi3, show (4 : Int32).toInt = 4 from rfl]; omega) bq4) (fun bq4 => ?_)
              refine W.aloadN C d2_95 rfl rfl ?_
              refine W.iload C d2_96 rfl ?_
              refine W.iaload C i d2_98 L1 hi3 (own_at (by omega)) ?_
              refine W.istoreO C #[.val (.int x0), .val (.ref a1), .val (.ref a2), .val (.ref ob1), .val (.ref ob), .val (.ref ob4), .val (.int i3), .val (.int (gs.getD i 0))] d2_99 rfl ho_o8 rfl ?_
              refine W.iload C d2_101 rfl ?_
              refine W.if_lt C 126 d2_103 rfl (fun bq5 => ?_) (fun bq5 => ?_)
              · skip
                refine W.iinc C (i3 + 1) #[.val (.int x0), .val (.ref a1), .val (.ref a2), .val (.ref ob1), .val (.ref ob), .val (.ref ob4), .val (.int (i3 + 1)), .val (.int (gs.getD i 0))] d2_126 rfl rfl rfl ?_
                refine W.goto C 88 d2_129 rfl ?_
                have hneg : (gs.getD i 0).toInt < 0 := by rw [Int32.lt_iff_toInt_lt] at bq5; simpa using bq5
                refine ih (i + 1) _ _ fs cs _ (by first | exact One.val rfl | assumption) (by omega) (by have q := c_iadd i3 1; have r := rng32 (i3 + 1); have e1 : (1 : Int32).toInt = 1 := rfl; rw [hi3, e1] at q; show (i3 + 1).toInt = _; omega) hfl (fun t ht => ?_) hA hD (fun t ht k hk2 e => ?_) L1 L2 Lob Lob4 Z0 K0
                · rw [hf t ht, own_cnt_s t (by omega), if_neg (by omega)]; rfl
                · by_cases e2 : k = i
                  · rw [e2] at e; omega
                  · exact hV t ht k (by omega) e
              · skip
                have hg0 : 0 ≤ (gs.getD i 0).toInt ∧ (gs.getD i 0).toInt < (G : Int) := (hok i (by omega)).resolve_left (by rw [Int32.lt_iff_toInt_lt] at bq5; simpa using bq5)
                obtain ⟨t0, hg⟩ : ∃ t : Nat, (gs.getD i 0).toInt = (t : Int) := ⟨(gs.getD i 0).toInt.toNat, by omega⟩
                have ht0 : t0 < G := by omega
                have hlt : own_cnt gs i t0 < own_cnt gs 4 t0 := by have m1 := own_cnt_s (gs := gs) (i := i) t0 (by omega); rw [if_pos hg] at m1; have m2 := own_cnt_m (gs := gs) (i := i + 1) (j := 4) t0 (by omega) (by omega); omega
                refine W.aload C d2_106 rfl rfl ?_
                refine W.iload C d2_108 rfl ?_
                refine W.aaload C t0 d2_110 Lob.al rfl hg (own_rat hrl ht0) ?_
                refine W.aload C d2_111 rfl rfl ?_
                refine W.iload C d2_113 rfl ?_
                refine W.dup2 C d2_115 rfl rfl ?_
                refine W.iaload C t0 d2_116 Lob4 hg (own_at (by omega)) ?_
                refine W.dupX2 C d2_117 rfl rfl rfl ?_
                refine W.iconst C (1 : Int32) d2_118 rfl ?_
                refine W.iadd C d2_119 ?_
                refine W.iastore C t0 d2_120 Lob4 hg (by rw [List.length_map]; omega) ge_ob4 ?_
                intro hp6 U7 Lob4_
                replace L1 := L1.other U7 ne_a1_ob4
                replace L2 := L2.other U7 ne_a2_ob4
                replace Lob := Lob.other U7 ne_ob_ob4
                replace Z0 := Nat.le_trans Z0 (Nat.le_of_eq (U7.size).symm)
                replace K0 := K0.wr U7 (Or.inr sz_ob4)
                replace hA := fun t ht => (hA t ht).other U7 (Nat.ne_of_lt (lt5 t ht))
                replace Lob4 : Al Z hp6 ob4 .int ((fs.map Value.int).set t0 (Value.int ((fs.getD t0 0) + (1 : Int32)))) := Lob4_
                refine W.aloadN C d2_121 rfl rfl ?_
                refine W.iload C d2_122 rfl ?_
                refine W.iaload C i d2_124 L2 hi3 (own_at (by omega)) ?_
                refine W.iastore C (own_cnt gs i t0) d2_125 (hA t0 ht0) (hf t0 ht0) (by rw [List.length_map, hD t0 ht0]; exact hlt) (Nat.le_trans n0bz (hB t0 ht0).1) ?_
                intro hp8 U9 Ln
                replace L1 := L1.other U9 (Nat.ne_of_lt (Nat.lt_of_lt_of_le lt_a1 (hB t0 ht0).1))
                replace L2 := L2.other U9 (Nat.ne_of_lt (Nat.lt_of_lt_of_le lt_a2 (hB t0 ht0).1))
                replace Lob := Lob.other U9 (Nat.ne_of_lt (Nat.lt_of_lt_of_le lt_ob (hB t0 ht0).1))
                replace Lob4 := Lob4.other U9 (Nat.ne_of_gt (lt5 t0 ht0))
                replace Z0 := Nat.le_trans Z0 (Nat.le_of_eq (U9.size).symm)
                replace K0 := K0.wr U9 (Or.inr (Nat.le_trans h0bz (hB t0 ht0).1))
                have hA2 : ∀ t < G, t ≠ t0 → Al Z hp8 (rs.getD t 0) .int ((cs t).map Value.int) := fun t ht e => (hA t ht).other U9 (by rcases Nat.lt_or_gt_of_ne e with z | z; exact Nat.ne_of_lt (hC t0 ht0 t z); exact Nat.ne_of_gt (hC t ht t0 z))
                refine W.iinc C (i3 + 1) #[.val (.int x0), .val (.ref a1), .val (.ref a2), .val (.ref ob1), .val (.ref ob), .val (.ref ob4), .val (.int (i3 + 1)), .val (.int (gs.getD i 0))] d2_126 rfl rfl rfl ?_
                refine W.goto C 88 d2_129 rfl ?_
                rw [own_set] at Lob4
                refine ih (i + 1) _ _ _ (fun t => if t = t0 then (cs t0).set (own_cnt gs i t0) (vs.getD i 0) else cs t) _ (by first | exact One.val rfl | assumption) (by omega) (by have q := c_iadd i3 1; have r := rng32 (i3 + 1); have e1 : (1 : Int32).toInt = 1 := rfl; rw [hi3, e1] at q; show (i3 + 1).toInt = _; omega) (by simpa using hfl) (fun t ht => ?_) (fun t ht => ?_) (fun t ht => ?_) (fun t ht k hk2 e => ?_) L1 L2 Lob Lob4 Z0 K0
                · rw [own_get_set (by omega), own_cnt_s t (by omega)]
                  have hc := own_cnt_le gs i t
                  by_cases e : t0 = t
                  · rw [if_pos e, if_pos (by omega), e]; have q := c_iadd (fs.getD t 0) 1; have r := rng32 (fs.getD t 0 + 1); have e1 : (1 : Int32).toInt = 1 := rfl; have := hf t ht; omega
                  · rw [if_neg e, if_neg (by omega), hf t ht]; rfl
                · by_cases e : t = t0
                  · rw [if_pos e, ← own_set, e]; exact Ln
                  · rw [if_neg e]; exact hA2 t ht e
                · by_cases e : t = t0
                  · rw [if_pos e, List.length_set, e]; exact hD t0 ht0
                  · rw [if_neg e]; exact hD t ht
                · by_cases et : t = t0
                  · rw [if_pos et, own_get_set (by rw [hD t0 ht0]; exact hlt)]
                    subst et
                    by_cases e2 : k = i
                    · rw [e2, if_pos rfl]
                    · have m1 := own_cnt_s (gs := gs) (i := k) t (by omega)
                      rw [if_pos e] at m1
                      have m2 := own_cnt_m (gs := gs) (i := k + 1) (j := i) t (by omega) (by omega)
                      rw [if_neg (by omega)]; exact hV t ht k (by omega) e
                  · rw [if_neg et]; by_cases e2 : k = i
                    · rw [e2] at e; omega
                    · exact hV t ht k (by omega) e
          exact loop3 4 0 0 _ _ (fun t => List.replicate (own_cnt gs 4 t) 0) _ (by first | assumption | exact One.u | exact One.val rfl) rfl rfl (by simp) (fun t ht => by rw [own_cnt_0]; simp [List.getD_eq_getElem?_getD, List.getElem?_replicate, ht]) (fun t ht => by rw [List.map_replicate]; exact hA t ht) (fun t ht => by simp) (fun t ht k hk2 => absurd hk2 (Nat.not_lt_zero _)) L1 L2 Lob Lob4 Z0 K0
        | succ mm ih =>
          intro j jj rs hj hn2 hjj hrl hA hB hC hbz L1 L2 Lob1 Lob Z0 K0
          refine W.iload C d2_57 rfl ?_
          refine W.iloadN C d2_59 rfl ?_
          refine W.icmp_ge C 80 d2_60 rfl (fun bq6 => absurd (show jj < x0 by rw [Int32.lt_iff_toInt_lt, hjj, hG]; omega) bq6) (fun bq6 => ?_)
          refine W.aload C d2_63 rfl rfl ?_
          refine W.iload C d2_65 rfl ?_
          refine W.aloadN C d2_67 rfl rfl ?_
          refine W.iload C d2_68 rfl ?_
          refine W.iaload C j d2_70 Lob1 hjj (own_at (by omega)) ?_
          refine W.newPE C (ad := "[I") (own_cnt gs 4 j) 4 d2_71 (tkw hw 5 rfl) rfl (hq j (by omega)) (own_cnt_le gs 4 j) (by decide) (2 + (j + 1)) (14 + 4 * (j + 1)) (by omega) (by omega) (show 2 + (j + 1) ≤ 10 by omega) (show 14 + 4 * (j + 1) ≤ 49 by omega) ?_
          intro nb hp10 hnb Enb Lnb Xnb
          have ne_a1_nb : a1 ≠ nb := Nat.ne_of_lt (by rw [hnb]; exact L1.lt)
          have ne_a2_nb : a2 ≠ nb := Nat.ne_of_lt (by rw [hnb]; exact L2.lt)
          have ne_ob1_nb : ob1 ≠ nb := Nat.ne_of_lt (by rw [hnb]; exact Lob1.lt)
          have ne_ob_nb : ob ≠ nb := Nat.ne_of_lt (by rw [hnb]; exact Lob.lt)
          have ge_nb : n0 ≤ nb := by rw [hnb]; exact Z0
          have sz_nb : h0.size ≤ nb := by rw [hnb]; exact K0.1
          have hnb3 : ∀ u < j, rs.getD u 0 < nb := fun u hu => by rw [hnb]; exact (hB u hu).2
          have hnb1 : bz ≤ nb := by rw [hnb]; exact hbz
          replace L1 := L1.ext Enb
          replace L2 := L2.ext Enb
          replace Lob1 := Lob1.ext Enb
          replace Lob := Lob.ext Enb
          replace Z0 := Nat.le_trans Z0 Enb.1
          replace K0 := K0.ext Enb
          replace hA := fun t ht => (hA t ht).ext Enb
          replace hB : ∀ t < j, bz ≤ rs.getD t 0 ∧ rs.getD t 0 < hp10.size := fun t ht => ⟨(hB t ht).1, Nat.lt_of_lt_of_le (hB t ht).2 Enb.1⟩
          replace hbz := Nat.le_trans hbz Enb.1
          have hnb2 : bz ≤ nb ∧ nb < hp10.size := ⟨hnb1, Lnb.lt⟩
          replace Lnb : Al Z hp10 nb .int (List.replicate (own_cnt gs 4 j) (Value.int 0)) := Lnb
          refine W.aastoreA C j d2_73 Lob Oob (Ins.self Xnb) hjj (by simp [hrl]; omega) ge_ob ?_
          intro hp11 U12 Lob_
          replace L1 := L1.other U12 ne_a1_ob
          replace L2 := L2.other U12 ne_a2_ob
          replace Lob1 := Lob1.other U12 ne_ob1_ob
          replace Z0 := Nat.le_trans Z0 (Nat.le_of_eq (U12.size).symm)
          replace K0 := K0.wr U12 (Or.inr sz_ob)
          replace Lnb := Lnb.other U12 (Ne.symm ne_ob_nb)
          replace hA := fun t ht => (hA t ht).other U12 (Nat.ne_of_gt (Nat.lt_of_lt_of_le lt_ob (hB t ht).1))
          replace hB : ∀ t < j, bz ≤ rs.getD t 0 ∧ rs.getD t 0 < hp11.size := fun t ht => ⟨(hB t ht).1, by rw [U12.size]; exact (hB t ht).2⟩
          replace hbz : bz ≤ hp11.size := by rw [U12.size]; exact hbz
          replace hnb2 : bz ≤ nb ∧ nb < hp11.size := ⟨hnb2.1, Lnb.lt⟩
          replace Lob : Alr Z hp11 ob k0 (.array .int) ((rs ++ [nb]).map Value.ref ++ List.replicate (G - (j + 1)) Value.null) := by subst hrl; rw [← own_ls rs nb G (by omega)]; exact Lob_
          refine W.iinc C (jj + 1) #[.val (.int x0), .val (.ref a1), .val (.ref a2), .val (.ref ob1), .val (.ref ob), .val (.int (jj + 1)), .val (.int ii), o7] d2_74 rfl rfl rfl ?_
          refine W.goto C 57 d2_77 rfl ?_
          refine ih (j + 1) _ (rs ++ [nb]) _ (by omega) (by have q := c_iadd jj 1; have r := rng32 (jj + 1); have e1 : (1 : Int32).toInt = 1 := rfl; rw [hjj, e1] at q; show (jj + 1).toInt = _; omega) (by simp [hrl]) (fun t ht => ?_) (fun t ht => ?_) (fun t ht u hu => ?_) hbz L1 L2 Lob1 Lob Z0 K0
          · by_cases e : t < j
            · rw [own_snoc _ _ _ (by omega)]; exact hA t e
            · obtain rfl : t = rs.length := by omega
              rw [own_snoc1, hrl]; exact Lnb
          · by_cases e : t < j
            · rw [own_snoc _ _ _ (by omega)]; exact hB t e
            · obtain rfl : t = rs.length := by omega
              rw [own_snoc1]; exact hnb2
          · by_cases e : t < j
            · rw [own_snoc _ _ _ (by omega), own_snoc _ _ _ (by omega)]; exact hC t e u hu
            · obtain rfl : t = rs.length := by omega
              rw [own_snoc1, own_snoc _ _ _ (by omega)]; exact hnb3 u (by omega)
      exact loop2 G 0 0 [] _ (by omega) rfl rfl (fun t ht => absurd ht (Nat.not_lt_zero _)) (fun t ht => absurd ht (Nat.not_lt_zero _)) (fun t ht => absurd ht (Nat.not_lt_zero _)) (Nat.le_of_eq ebz) L1 L2 Lob1 Lob Z0 K0
    | succ mm ih =>
      intro i ii o7 ss hh ho_o7 hn hi hr hq L1 L2 Lob1 Z0 K0
      refine W.iload C d2_15 rfl ?_
      refine W.iload C d2_17 rfl ?_
      refine W.icmp_ge C 48 d2_19 rfl (fun bq7 => absurd (show ii < 4 by rw [Int32.lt_iff_toInt_lt, hi, show (4 : Int32).toInt = 4 from rfl]; omega) bq7) (fun bq7 => ?_)
      refine W.aload C d2_22 rfl rfl ?_
      refine W.iload C d2_24 rfl ?_
      refine W.iaload C i d2_26 L1 hi (own_at (by omega)) ?_
      refine W.istoreO C #[.val (.int x0), .val (.ref a1), .val (.ref a2), .val (.ref ob1), .val (.ref a1), .val (.int (4 : Int32)), .val (.int ii), .val (.int (gs.getD i 0))] d2_27 rfl ho_o7 rfl ?_
      refine W.iload C d2_29 rfl ?_
      refine W.if_lt C 42 d2_31 rfl (fun bq8 => ?_) (fun bq8 => ?_)
      · skip
        refine W.iinc C (ii + 1) #[.val (.int x0), .val (.ref a1), .val (.ref a2), .val (.ref ob1), .val (.ref a1), .val (.int (4 : Int32)), .val (.int (ii + 1)), .val (.int (gs.getD i 0))] d2_42 rfl rfl rfl ?_
        refine W.goto C 15 d2_45 rfl ?_
        refine ih (i + 1) _ _ ss _ (by first | exact One.val rfl | assumption) (by omega) (by have q := c_iadd ii 1; have r := rng32 (ii + 1); have e1 : (1 : Int32).toInt = 1 := rfl; rw [hi, e1] at q; show (ii + 1).toInt = _; omega) hr (fun t ht => ?_) L1 L2 Lob1 Z0 K0
        rw [hq t ht, own_cnt_s t (by omega), if_neg (by rw [Int32.lt_iff_toInt_lt] at bq8; have z0 : (0 : Int32).toInt = 0 := rfl; omega)]; rfl
      · skip
        refine W.aloadN C d2_34 rfl rfl ?_
        refine W.iload C d2_35 rfl ?_
        refine W.dup2 C d2_37 rfl rfl ?_
        have hg0 : 0 ≤ (gs.getD i 0).toInt ∧ (gs.getD i 0).toInt < (G : Int) := (hok i (by omega)).resolve_left (by rw [Int32.lt_iff_toInt_lt] at bq8; simpa using bq8)
        refine W.iaload C (gs.getD i 0).toInt.toNat d2_38 Lob1 (by omega) (own_at (by omega)) ?_
        refine W.iconst C (1 : Int32) d2_39 rfl ?_
        refine W.iadd C d2_40 ?_
        refine W.iastore C (gs.getD i 0).toInt.toNat d2_41 Lob1 (by omega) (by rw [List.length_map]; omega) ge_ob1 ?_
        intro hp13 U14 Lob1_
        replace L1 := L1.other U14 ne_a1_ob1
        replace L2 := L2.other U14 ne_a2_ob1
        replace Z0 := Nat.le_trans Z0 (Nat.le_of_eq (U14.size).symm)
        replace K0 := K0.wr U14 (Or.inr sz_ob1)
        replace Lob1 : Al Z hp13 ob1 .int ((ss.map Value.int).set (gs.getD i 0).toInt.toNat (Value.int ((ss.getD (gs.getD i 0).toInt.toNat 0) + (1 : Int32)))) := Lob1_
        refine W.iinc C (ii + 1) #[.val (.int x0), .val (.ref a1), .val (.ref a2), .val (.ref ob1), .val (.ref a1), .val (.int (4 : Int32)), .val (.int (ii + 1)), .val (.int (gs.getD i 0))] d2_42 rfl rfl rfl ?_
        refine W.goto C 15 d2_45 rfl ?_
        rw [own_set] at Lob1
        refine ih (i + 1) _ _ _ _ (by first | exact One.val rfl | assumption) (by omega) (by have q := c_iadd ii 1; have r := rng32 (ii + 1); have e1 : (1 : Int32).toInt = 1 := rfl; rw [hi, e1] at q; show (ii + 1).toInt = _; omega) (by simpa using hr) (fun t ht => ?_) L1 L2 Lob1 Z0 K0
        rw [own_get_set (by omega), own_cnt_s t (by omega)]
        have hc := own_cnt_le gs i t
        by_cases e : (gs.getD i 0).toInt.toNat = t
        · rw [if_pos e, if_pos (by omega), e]; have q := c_iadd (ss.getD t 0) 1; have r := rng32 (ss.getD t 0 + 1); have e1 : (1 : Int32).toInt = 1 := rfl; have := hq t ht; omega
        · rw [if_neg e, if_neg (by omega), hq t ht]; rfl
  exact loop1 4 0 0 _ _ _ (by first | exact One.u | exact One.val rfl) rfl rfl (by simp) (fun t ht => by rw [own_cnt_0]; simp [List.getD_eq_getElem?_getD, List.getElem?_replicate, ht]) L1 L2 Lob1 Z0 K0

abbrev y1 : MethodName := ⟨"com/example/dido/dido/DagGroupedPinLaw", "pick", "(JIII)I"⟩
theorem d1_0 : decode method_3_code 0 = .ok (.lload_n 0, 1) := by decide +kernel
theorem d1_1 : decode method_3_code 1 = .ok (.bipush 8, 2) := by decide +kernel
theorem d1_3 : decode method_3_code 3 = .ok (.iload_n 2, 1) := by decide +kernel
theorem d1_4 : decode method_3_code 4 = .ok (.imul, 1) := by decide +kernel
theorem d1_5 : decode method_3_code 5 = .ok (.lushr, 1) := by decide +kernel
theorem d1_6 : decode method_3_code 6 = .ok (.l2i, 1) := by decide +kernel
theorem d1_7 : decode method_3_code 7 = .ok (.sipush 255, 3) := by decide +kernel
theorem d1_10 : decode method_3_code 10 = .ok (.iand, 1) := by decide +kernel
theorem d1_11 : decode method_3_code 11 = .ok (.istore 5, 2) := by decide +kernel
theorem d1_13 : decode method_3_code 13 = .ok (.iload 5, 2) := by decide +kernel
theorem d1_15 : decode method_3_code 15 = .ok (.sipush 128, 3) := by decide +kernel
theorem d1_18 : decode method_3_code 18 = .ok (.iand, 1) := by decide +kernel
theorem d1_19 : decode method_3_code 19 = .ok (.ifCond .ne 7, 3) := by decide +kernel
theorem d1_22 : decode method_3_code 22 = .ok (.iload_n 3, 1) := by decide +kernel
theorem d1_23 : decode method_3_code 23 = .ok (.ifCond .ne 6, 3) := by decide +kernel
theorem d1_26 : decode method_3_code 26 = .ok (.iload 4, 2) := by decide +kernel
theorem d1_28 : decode method_3_code 28 = .ok (.ireturn, 1) := by decide +kernel
theorem d1_29 : decode method_3_code 29 = .ok (.iload 5, 2) := by decide +kernel
theorem d1_31 : decode method_3_code 31 = .ok (.bipush 127, 2) := by decide +kernel
theorem d1_33 : decode method_3_code 33 = .ok (.iand, 1) := by decide +kernel
theorem d1_34 : decode method_3_code 34 = .ok (.iload_n 3, 1) := by decide +kernel
theorem d1_35 : decode method_3_code 35 = .ok (.irem, 1) := by decide +kernel
theorem d1_36 : decode method_3_code 36 = .ok (.ireturn, 1) := by decide +kernel
theorem pf_1 : plainFor y1 = true := by first | exact plainFor_of_name (by first | (simp [plainName, overriddenIn]; done) | decide +kernel) | decide +kernel
theorem ef_1 (m : MethodId) (q : Int64) (kk : Int32) (gg : Int32) (nn : Int32) : entryFrame m #[(.long q), (.int kk), (.int gg), (.int nn)] 6 = mkF m 0 #[.val (.long q), .second, .val (.int kk), .val (.int gg), .val (.int nn), .unset] [] := by first | (simp [entryFrame, mkF, argsToLocals, Value.category]; done) | rfl
def own_pick (q : Int64) (kk : Int32) (gg : Int32) (nn : Int32) : Int32 := if ((((((q).toUInt64 >>> (((8 : Int32) * kk) &&& 0x3f).toInt64.toUInt64).toInt64).toInt32) &&& (255 : Int32)) &&& (128 : Int32)) = 0 then if gg = 0 then nn else (((((((q).toUInt64 >>> (((8 : Int32) * kk) &&& 0x3f).toInt64.toUInt64).toInt64).toInt32) &&& (255 : Int32)) &&& (127 : Int32)) % gg) else nn
set_option maxRecDepth 65536 in
set_option maxHeartbeats 40000000 in
theorem con_1 (l : Launch) (Z : State) (a0 : Array Value) (hw : ∀ d ∈ tables_1, d.before a0 Z = true) (h0 : Heap) (n0 : Nat) (q : Int64) (kk : Int32) (gg : Int32) (nn : Int32)   : Con l Z y1 method_3_code 6 (some .int) ({ frames := 0, cells := 0, slots := 0, locals := 0 } : Room) #[(.long q), (.int kk), (.int gg), (.int nn)] h0 n0 (Pu (some (.int (own_pick q kk gg nn))) h0) := by
  refine Con.of pf_1 (fun m => ef_1 m q kk gg nn) ?_
  intro p e s m below meth c C
  refine W.lloadN C d1_0 rfl ?_
  refine W.bipush C (8 : Int32) d1_1 rfl ?_
  refine W.iloadN C d1_3 rfl ?_
  refine W.imul C d1_4 ?_
  refine W.lushr C d1_5 ?_
  refine W.l2i C d1_6 ?_
  refine W.sipush C (255 : Int32) d1_7 rfl ?_
  refine W.iand C d1_10 ?_
  refine W.istore C #[.val (.long q), .second, .val (.int kk), .val (.int gg), .val (.int nn), .val (.int (((((q).toUInt64 >>> (((8 : Int32) * kk) &&& 0x3f).toInt64.toUInt64).toInt64).toInt32) &&& (255 : Int32)))] d1_11 rfl ?_
  refine W.iload C d1_13 rfl ?_
  refine W.sipush C (128 : Int32) d1_15 rfl ?_
  refine W.iand C d1_18 ?_
  refine W.if_ne C 26 d1_19 rfl (fun bq1 => ?_) (fun bq1 => ?_)
  · skip
    refine W.iload C d1_26 rfl ?_
    exact W.iret C d1_28 (by simp) rfl (by decide) (by decide) ⟨by show some _ = some _; rw [own_pick, if_neg bq1], rfl⟩
  · skip
    refine W.iloadN C d1_22 rfl ?_
    refine W.if_ne C 29 d1_23 rfl (fun bq2 => ?_) (fun bq2 => ?_)
    · skip
      refine W.iload C d1_29 rfl ?_
      refine W.bipush C (127 : Int32) d1_31 rfl ?_
      refine W.iand C d1_33 ?_
      refine W.iloadN C d1_34 rfl ?_
      refine W.irem C d1_35 bq2 ?_
      exact W.iret C d1_36 (by simp) rfl (by decide) (by decide) ⟨by show some _ = some _; rw [own_pick, if_pos bq1, if_neg bq2], rfl⟩
    · skip
      refine W.iload C d1_26 rfl ?_
      exact W.iret C d1_28 (by simp) rfl (by decide) (by decide) ⟨by show some _ = some _; rw [own_pick, if_pos bq1, if_pos bq2], rfl⟩

abbrev y3 : MethodName := ⟨"com/example/dido/dido/DagGroupedPinLaw", "eq", "(II)I"⟩
theorem d3_0 : decode method_4_code 0 = .ok (.iload_n 0, 1) := by decide +kernel
theorem d3_1 : decode method_4_code 1 = .ok (.ifCond .lt 12, 3) := by decide +kernel
theorem d3_4 : decode method_4_code 4 = .ok (.iload_n 0, 1) := by decide +kernel
theorem d3_5 : decode method_4_code 5 = .ok (.iload_n 1, 1) := by decide +kernel
theorem d3_6 : decode method_4_code 6 = .ok (.if_icmp .ne 7, 3) := by decide +kernel
theorem d3_9 : decode method_4_code 9 = .ok (.iconst 1, 1) := by decide +kernel
theorem d3_10 : decode method_4_code 10 = .ok (.goto 4, 3) := by decide +kernel
theorem d3_13 : decode method_4_code 13 = .ok (.iconst 0, 1) := by decide +kernel
theorem d3_14 : decode method_4_code 14 = .ok (.ireturn, 1) := by decide +kernel
theorem pf_3 : plainFor y3 = true := by first | exact plainFor_of_name (by first | (simp [plainName, overriddenIn]; done) | decide +kernel) | decide +kernel
theorem ef_3 (m : MethodId) (x : Int32) (y : Int32) : entryFrame m #[(.int x), (.int y)] 2 = mkF m 0 #[.val (.int x), .val (.int y)] [] := by first | (simp [entryFrame, mkF, argsToLocals, Value.category]; done) | rfl
def own_eq (x : Int32) (y : Int32) : Int32 := if x < 0 then (0 : Int32) else if x = y then (1 : Int32) else (0 : Int32)
set_option maxRecDepth 65536 in
set_option maxHeartbeats 40000000 in
theorem con_3 (l : Launch) (Z : State) (a0 : Array Value) (hw : ∀ d ∈ tables_1, d.before a0 Z = true) (h0 : Heap) (n0 : Nat) (x : Int32) (y : Int32)   : Con l Z y3 method_4_code 2 (some .int) ({ frames := 0, cells := 0, slots := 0, locals := 0 } : Room) #[(.int x), (.int y)] h0 n0 (Pu (some (.int (own_eq x y))) h0) := by
  refine Con.of pf_3 (fun m => ef_3 m x y) ?_
  intro p e s m below meth c C
  refine W.iloadN C d3_0 rfl ?_
  refine W.if_lt C 13 d3_1 rfl (fun bq1 => ?_) (fun bq1 => ?_)
  · skip
    refine W.iconst C (0 : Int32) d3_13 rfl ?_
    exact W.iret C d3_14 (by simp) rfl (by decide) (by decide) ⟨by show some _ = some _; rw [own_eq, if_pos bq1], rfl⟩
  · skip
    refine W.iloadN C d3_4 rfl ?_
    refine W.iloadN C d3_5 rfl ?_
    refine W.icmp_ne C 13 d3_6 rfl (fun bq2 => ?_) (fun bq2 => ?_)
    · skip
      refine W.iconst C (0 : Int32) d3_13 rfl ?_
      exact W.iret C d3_14 (by simp) rfl (by decide) (by decide) ⟨by show some _ = some _; rw [own_eq, if_neg bq1, if_neg bq2], rfl⟩
    · skip
      refine W.iconst C (1 : Int32) d3_9 rfl ?_
      refine W.goto C 14 d3_10 rfl ?_
      exact W.iret C d3_14 (by simp) rfl (by decide) (by decide) ⟨by show some _ = some _; rw [own_eq, if_neg bq1, if_pos bq2], rfl⟩

theorem own_pick_ok (q : Int64) (kk gg nn : Int32) {G : Nat} (hG : gg.toInt = (G : Int)) (hG7 : G ≤ 7) (hn : nn.toInt < 0) : (own_pick q kk gg nn).toInt < 0 ∨ (0 ≤ (own_pick q kk gg nn).toInt ∧ (own_pick q kk gg nn).toInt < (G : Int)) := by
  unfold own_pick
  repeat' split
  all_goals first | exact Or.inl hn | skip
  all_goals
    right
    rename_i h
    generalize ((((q).toUInt64 >>> (((8 : Int32) * kk) &&& 0x3f).toInt64.toUInt64).toInt64).toInt32 &&& (255 : Int32)) = y at *
    have e1 : (y &&& 127).toInt = y.toInt % (2 ^ 7 : Nat) := c_mask y 127 7 (by decide) (by decide)
    have z0 : (0 : Int32).toInt = 0 := rfl
    have hp : 0 < gg.toInt := by rw [← Int32.toInt_inj, z0] at h; omega
    have r := (c_iremV (y &&& 127) gg).1 (by omega) hp
    omega
theorem own_eqv (a b : Int32) : (own_eq a b).toInt = if 0 ≤ a.toInt ∧ a.toInt = b.toInt then 1 else 0 := by
  unfold own_eq
  have z0 : (0 : Int32).toInt = 0 := rfl
  simp only [Int32.lt_iff_toInt_lt, ← Int32.toInt_inj, z0]
  repeat' split
  all_goals first | rfl | (exfalso; omega)
theorem own_rat2 {rs : List Addr} {G t : Nat} (hr : rs.length = G) (h : t < G) : (rs.map Value.ref)[t]? = some (.ref (rs.getD t 0)) := by
  subst hr
  simp [List.getElem?_map, List.getD_eq_getElem?_getD, List.getElem?_eq_getElem h]
def own_len (G : Nat) (cs : Nat → List Int32) (j : Nat) : Int32 := if j < G then (cs j).length.toInt32 else 0
theorem own_rl {rs : List Addr} {G : Nat} (hr : rs.length = G) (h7 : G ≤ 7) : (rs.length.toInt32).toInt = (G : Int) := by rw [← hr]; exact len_toInt (by omega)
abbrev y4 : MethodName := ⟨"com/example/dido/dido/DagGroupedPinLaw", "len", "([[II)I"⟩
theorem d4_0 : decode method_5_code 0 = .ok (.iload_n 1, 1) := by decide +kernel
theorem d4_1 : decode method_5_code 1 = .ok (.aload_n 0, 1) := by decide +kernel
theorem d4_2 : decode method_5_code 2 = .ok (.arraylength, 1) := by decide +kernel
theorem d4_3 : decode method_5_code 3 = .ok (.if_icmp .lt 5, 3) := by decide +kernel
theorem d4_6 : decode method_5_code 6 = .ok (.iconst 0, 1) := by decide +kernel
theorem d4_7 : decode method_5_code 7 = .ok (.ireturn, 1) := by decide +kernel
theorem d4_8 : decode method_5_code 8 = .ok (.aload_n 0, 1) := by decide +kernel
theorem d4_9 : decode method_5_code 9 = .ok (.iload_n 1, 1) := by decide +kernel
theorem d4_10 : decode method_5_code 10 = .ok (.aaload, 1) := by decide +kernel
theorem d4_11 : decode method_5_code 11 = .ok (.ifnonnull 7, 3) := by decide +kernel
theorem d4_14 : decode method_5_code 14 = .ok (.sipush (-1000), 3) := by decide +kernel
theorem d4_17 : decode method_5_code 17 = .ok (.ireturn, 1) := by decide +kernel
theorem d4_18 : decode method_5_code 18 = .ok (.aload_n 0, 1) := by decide +kernel
theorem d4_19 : decode method_5_code 19 = .ok (.iload_n 1, 1) := by decide +kernel
theorem d4_20 : decode method_5_code 20 = .ok (.aaload, 1) := by decide +kernel
theorem d4_21 : decode method_5_code 21 = .ok (.arraylength, 1) := by decide +kernel
theorem d4_22 : decode method_5_code 22 = .ok (.ireturn, 1) := by decide +kernel
theorem pf_4 : plainFor y4 = true := by first | exact plainFor_of_name (by first | (simp [plainName, overriddenIn]; done) | decide +kernel) | decide +kernel
theorem ef_4 (m : MethodId) (a1 : Addr) (x1 : Int32) : entryFrame m #[(.ref a1), (.int x1)] 2 = mkF m 0 #[.val (.ref a1), .val (.int x1)] [] := by first | (simp [entryFrame, mkF, argsToLocals, Value.category]; done) | rfl
set_option maxRecDepth 65536 in
set_option maxHeartbeats 40000000 in
theorem con_4 (l : Launch) (Z : State) (a0 : Array Value) (hw : ∀ d ∈ tables_1, d.before a0 Z = true) (h0 : Heap) (n0 : Nat) (a1 : Addr) (x1 : Int32) (G : Nat) (rs : List Addr) (cs : Nat → List Int32) (hrl : rs.length = G) (hG7 : G ≤ 7) (L1 : Al Z h0 a1 (.array .int) (rs.map Value.ref)) (hA : ∀ t < G, Al Z h0 (rs.getD t 0) .int ((cs t).map Value.int)) (nj : Nat) (hj : x1.toInt = (nj : Int)) (Z0 : n0 ≤ h0.size) : Con l Z y4 method_5_code 2 (some .int) ({ frames := 0, cells := 0, slots := 0, locals := 0 } : Room) #[(.ref a1), (.int x1)] h0 n0 (Pu (some (.int (own_len G cs nj))) h0) := by
  refine Con.of pf_4 (fun m => ef_4 m a1 x1) ?_
  intro p e s m below meth c C
  refine W.iloadN C d4_0 rfl ?_
  refine W.aloadN C d4_1 rfl rfl ?_
  refine W.arrlen C rs.length.toInt32 d4_2 L1 (by simp) ?_
  refine W.icmp_lt C 8 d4_3 rfl (fun bq1 => ?_) (fun bq1 => ?_)
  · skip
    refine W.aloadN C d4_8 rfl rfl ?_
    refine W.iloadN C d4_9 rfl ?_
    have htG : nj < G := by rw [Int32.lt_iff_toInt_lt, own_rl hrl hG7] at bq1; omega
    have LA := hA nj htG
    refine W.aaload C nj d4_10 L1 rfl hj (own_rat2 hrl htG) ?_
    refine W.ifnonnullYes C 18 d4_11 rfl ?_
    refine W.aloadN C d4_18 rfl rfl ?_
    refine W.iloadN C d4_19 rfl ?_
    refine W.aaload C nj d4_20 L1 rfl hj (own_rat2 hrl htG) ?_
    refine W.arrlen C (cs nj).length.toInt32 d4_21 LA (by simp) ?_
    exact W.iret C d4_22 (by simp) rfl (by decide) (by decide) ⟨by rw [own_len, if_pos htG], rfl⟩
  · skip
    refine W.iconst C (0 : Int32) d4_6 rfl ?_
    exact W.iret C d4_7 (by simp) rfl (by decide) (by decide) ⟨by rw [own_len, if_neg (by rw [Int32.lt_iff_toInt_lt, own_rl hrl hG7] at bq1; omega)], rfl⟩

abbrev y5 : MethodName := ⟨"com/example/dido/dido/DagGroupedPinLaw", "check", "([[IIIII)Z"⟩
theorem d5_0 : decode method_6_code 0 = .ok (.iload_n 1, 1) := by decide +kernel
theorem d5_1 : decode method_6_code 1 = .ok (.ifCond .ge 5, 3) := by decide +kernel
theorem d5_4 : decode method_6_code 4 = .ok (.iconst 1, 1) := by decide +kernel
theorem d5_5 : decode method_6_code 5 = .ok (.ireturn, 1) := by decide +kernel
theorem d5_6 : decode method_6_code 6 = .ok (.iload_n 1, 1) := by decide +kernel
theorem d5_7 : decode method_6_code 7 = .ok (.aload_n 0, 1) := by decide +kernel
theorem d5_8 : decode method_6_code 8 = .ok (.arraylength, 1) := by decide +kernel
theorem d5_9 : decode method_6_code 9 = .ok (.if_icmp .ge 9, 3) := by decide +kernel
theorem d5_12 : decode method_6_code 12 = .ok (.aload_n 0, 1) := by decide +kernel
theorem d5_13 : decode method_6_code 13 = .ok (.iload_n 1, 1) := by decide +kernel
theorem d5_14 : decode method_6_code 14 = .ok (.aaload, 1) := by decide +kernel
theorem d5_15 : decode method_6_code 15 = .ok (.ifnonnull 5, 3) := by decide +kernel
theorem d5_18 : decode method_6_code 18 = .ok (.iconst 0, 1) := by decide +kernel
theorem d5_19 : decode method_6_code 19 = .ok (.ireturn, 1) := by decide +kernel
theorem d5_20 : decode method_6_code 20 = .ok (.aload_n 0, 1) := by decide +kernel
theorem d5_21 : decode method_6_code 21 = .ok (.iload_n 1, 1) := by decide +kernel
theorem d5_22 : decode method_6_code 22 = .ok (.aaload, 1) := by decide +kernel
theorem d5_23 : decode method_6_code 23 = .ok (.arraylength, 1) := by decide +kernel
theorem d5_24 : decode method_6_code 24 = .ok (.iload_n 3, 1) := by decide +kernel
theorem d5_25 : decode method_6_code 25 = .ok (.if_icmp .eq 5, 3) := by decide +kernel
theorem d5_28 : decode method_6_code 28 = .ok (.iconst 0, 1) := by decide +kernel
theorem d5_29 : decode method_6_code 29 = .ok (.ireturn, 1) := by decide +kernel
theorem d5_30 : decode method_6_code 30 = .ok (.aload_n 0, 1) := by decide +kernel
theorem d5_31 : decode method_6_code 31 = .ok (.iload_n 1, 1) := by decide +kernel
theorem d5_32 : decode method_6_code 32 = .ok (.aaload, 1) := by decide +kernel
theorem d5_33 : decode method_6_code 33 = .ok (.iload_n 2, 1) := by decide +kernel
theorem d5_34 : decode method_6_code 34 = .ok (.iaload, 1) := by decide +kernel
theorem d5_35 : decode method_6_code 35 = .ok (.iload 4, 2) := by decide +kernel
theorem d5_37 : decode method_6_code 37 = .ok (.if_icmp .ne 7, 3) := by decide +kernel
theorem d5_40 : decode method_6_code 40 = .ok (.iconst 1, 1) := by decide +kernel
theorem d5_41 : decode method_6_code 41 = .ok (.goto 4, 3) := by decide +kernel
theorem d5_44 : decode method_6_code 44 = .ok (.iconst 0, 1) := by decide +kernel
theorem d5_45 : decode method_6_code 45 = .ok (.ireturn, 1) := by decide +kernel
theorem pf_5 : plainFor y5 = true := by first | exact plainFor_of_name (by first | (simp [plainName, overriddenIn]; done) | decide +kernel) | decide +kernel
theorem ef_5 (m : MethodId) (a1 : Addr) (x1 : Int32) (x2 : Int32) (x3 : Int32) (x4 : Int32) : entryFrame m #[(.ref a1), (.int x1), (.int x2), (.int x3), (.int x4)] 5 = mkF m 0 #[.val (.ref a1), .val (.int x1), .val (.int x2), .val (.int x3), .val (.int x4)] [] := by first | (simp [entryFrame, mkF, argsToLocals, Value.category]; done) | rfl
set_option maxRecDepth 65536 in
set_option maxHeartbeats 40000000 in
theorem con_5 (l : Launch) (Z : State) (a0 : Array Value) (hw : ∀ d ∈ tables_1, d.before a0 Z = true) (h0 : Heap) (n0 : Nat) (a1 : Addr) (x1 : Int32) (x2 : Int32) (x3 : Int32) (x4 : Int32) (G : Nat) (rs : List Addr) (cs : Nat → List Int32) (hrl : rs.length = G) (hG7 : G ≤ 7) (L1 : Al Z h0 a1 (.array .int) (rs.map Value.ref)) (hA : ∀ t < G, Al Z h0 (rs.getD t 0) .int ((cs t).map Value.int)) (t r : Nat) (H : ¬ x1.toInt < 0 → x1.toInt = (t : Int) ∧ t < G ∧ x3.toInt = ((cs t).length : Int) ∧ x2.toInt = (r : Int) ∧ r < (cs t).length ∧ (cs t).getD r 0 = x4) (Z0 : n0 ≤ h0.size) : Con l Z y5 method_6_code 5 (some .boolean) ({ frames := 0, cells := 0, slots := 0, locals := 0 } : Room) #[(.ref a1), (.int x1), (.int x2), (.int x3), (.int x4)] h0 n0 (Pu (some (.int 1)) h0) := by
  refine Con.of pf_5 (fun m => ef_5 m a1 x1 x2 x3 x4) ?_
  intro p e s m below meth c C
  refine W.iloadN C d5_0 rfl ?_
  refine W.if_ge C 6 d5_1 rfl (fun bq1 => ?_) (fun bq1 => ?_)
  · skip
    obtain ⟨ht1, htG, h3, hr2, hr3, h4⟩ := H (by rw [Int32.lt_iff_toInt_lt] at bq1; simpa using bq1)
    refine W.iloadN C d5_6 rfl ?_
    refine W.aloadN C d5_7 rfl rfl ?_
    refine W.arrlen C rs.length.toInt32 d5_8 L1 (by simp) ?_
    refine W.icmp_ge C 18 d5_9 rfl (fun bq2 => absurd (show x1 < rs.length.toInt32 by rw [Int32.lt_iff_toInt_lt, own_rl hrl hG7]; omega) bq2) (fun bq2 => ?_)
    refine W.aloadN C d5_12 rfl rfl ?_
    refine W.iloadN C d5_13 rfl ?_
    have LA := hA t htG
    refine W.aaload C t d5_14 L1 rfl ht1 (own_rat2 hrl htG) ?_
    refine W.ifnonnullYes C 20 d5_15 rfl ?_
    refine W.aloadN C d5_20 rfl rfl ?_
    refine W.iloadN C d5_21 rfl ?_
    refine W.aaload C t d5_22 L1 rfl ht1 (own_rat2 hrl htG) ?_
    refine W.arrlen C (cs t).length.toInt32 d5_23 LA (by simp) ?_
    refine W.iloadN C d5_24 rfl ?_
    refine W.icmp_eq C 30 d5_25 rfl (fun bq3 => ?_) (fun bq3 => absurd (Int32.toInt_inj.mp (by have rx := rng32 x3; rw [len_toInt (by omega)]; omega)) bq3)
    refine W.aloadN C d5_30 rfl rfl ?_
    refine W.iloadN C d5_31 rfl ?_
    refine W.aaload C t d5_32 L1 rfl ht1 (own_rat2 hrl htG) ?_
    refine W.iloadN C d5_33 rfl ?_
    refine W.iaload C r d5_34 LA hr2 (own_at hr3) ?_
    refine W.iload C d5_35 rfl ?_
    refine W.icmp_ne C 44 d5_37 rfl (fun bq4 => absurd h4 bq4) (fun bq4 => ?_)
    refine W.iconst C (1 : Int32) d5_40 rfl ?_
    refine W.goto C 45 d5_41 rfl ?_
    exact W.iret C d5_45 (by simp) rfl (by decide) (by decide) ⟨rfl, rfl⟩
  · skip
    refine W.iconst C (1 : Int32) d5_4 rfl ?_
    exact W.iret C d5_5 (by simp) rfl (by decide) (by decide) ⟨rfl, rfl⟩

theorem own_neg (z : Int32) : (z ||| (-2147483648 : Int32)).toInt < 0 := (c_orS z (-2147483648)).2.2 (by decide)
theorem own_G (x : Int32) : ∃ G : Nat, (x &&& (7 : Int32)).toInt = (G : Int) ∧ G ≤ 7 := by
  have e1 : (x &&& 7).toInt = x.toInt % (2 ^ 3 : Nat) := c_mask x 7 3 (by decide) (by decide)
  exact ⟨(x.toInt % 8).toNat, by rw [e1]; omega, by omega⟩
theorem own_ck (g0 g1 g2 g3 : Int32) (t : Nat) :
    own_cnt [g0, g1, g2, g3] 0 t = 0 ∧ own_cnt [g0, g1, g2, g3] 1 t = (if g0.toInt = (t : Int) then 1 else 0) ∧ own_cnt [g0, g1, g2, g3] 2 t = (if g0.toInt = (t : Int) then 1 else 0) + (if g1.toInt = (t : Int) then 1 else 0) ∧ own_cnt [g0, g1, g2, g3] 3 t = (if g0.toInt = (t : Int) then 1 else 0) + (if g1.toInt = (t : Int) then 1 else 0) + (if g2.toInt = (t : Int) then 1 else 0) ∧ own_cnt [g0, g1, g2, g3] 4 t = (if g0.toInt = (t : Int) then 1 else 0) + (if g1.toInt = (t : Int) then 1 else 0) + (if g2.toInt = (t : Int) then 1 else 0) + (if g3.toInt = (t : Int) then 1 else 0) := by
  have e0 := own_cnt_0 [g0, g1, g2, g3] t
  have e1 := own_cnt_s (gs := [g0, g1, g2, g3]) (i := 0) t (by decide : (0 : Nat) < 4)
  have e2 := own_cnt_s (gs := [g0, g1, g2, g3]) (i := 1) t (by decide : (1 : Nat) < 4)
  have e3 := own_cnt_s (gs := [g0, g1, g2, g3]) (i := 2) t (by decide : (2 : Nat) < 4)
  have e4 := own_cnt_s (gs := [g0, g1, g2, g3]) (i := 3) t (by decide : (3 : Nat) < 4)
  simp only [List.getD_cons_zero, List.getD_cons_succ, Nat.zero_add, Nat.reduceAdd] at e1 e2 e3 e4
  refine ⟨e0, ?_, ?_, ?_, ?_⟩
  · rw [e1, e0, Nat.zero_add]
  · rw [e2, e1, e0, Nat.zero_add]
  · rw [e3, e2, e1, e0, Nat.zero_add]
  · rw [e4, e3, e2, e1, e0, Nat.zero_add]
theorem own_okl {g0 g1 g2 g3 : Int32} {G : Nat} (h0 : g0.toInt < 0 ∨ (0 ≤ g0.toInt ∧ g0.toInt < (G : Int))) (h1 : g1.toInt < 0 ∨ (0 ≤ g1.toInt ∧ g1.toInt < (G : Int))) (h2 : g2.toInt < 0 ∨ (0 ≤ g2.toInt ∧ g2.toInt < (G : Int))) (h3 : g3.toInt < 0 ∨ (0 ≤ g3.toInt ∧ g3.toInt < (G : Int))) : own_ok [g0, g1, g2, g3] G := fun i hi => by
  have hi' : i < 4 := hi
  have hc : i = 0 ∨ i = 1 ∨ i = 2 ∨ i = 3 := by omega
  rcases hc with rfl | rfl | rfl | rfl
  · exact h0
  · exact h1
  · exact h2
  · exact h3
def own_p (g : Int32) : Int := if 0 ≤ g.toInt then 1 else 0
theorem own_s8 (g : Int32) (h : g.toInt < 8) : ((if g.toInt = ((0 : Nat) : Int) then 1 else 0) + (if g.toInt = ((1 : Nat) : Int) then 1 else 0) + (if g.toInt = ((2 : Nat) : Int) then 1 else 0) + (if g.toInt = ((3 : Nat) : Int) then 1 else 0) + (if g.toInt = ((4 : Nat) : Int) then 1 else 0) + (if g.toInt = ((5 : Nat) : Int) then 1 else 0) + (if g.toInt = ((6 : Nat) : Int) then 1 else 0) + (if g.toInt = ((7 : Nat) : Int) then 1 else 0) : Int) = own_p g := by
  unfold own_p
  generalize g.toInt = n at *
  by_cases h0 : 0 ≤ n
  · rw [if_pos h0]
    have hc : n = 0 ∨ n = 1 ∨ n = 2 ∨ n = 3 ∨ n = 4 ∨ n = 5 ∨ n = 6 ∨ n = 7 := by omega
    rcases hc with rfl | rfl | rfl | rfl | rfl | rfl | rfl | rfl <;> decide
  · rw [if_neg h0, if_neg (by omega), if_neg (by omega), if_neg (by omega), if_neg (by omega), if_neg (by omega), if_neg (by omega), if_neg (by omega), if_neg (by omega)]; rfl
theorem own_lenv {gs : List Int32} {G : Nat} {cs : Nat → List Int32} (hD : ∀ t < G, (cs t).length = own_cnt gs 4 t) (hz : ∀ t, G ≤ t → own_cnt gs 4 t = 0) (j : Nat) : (own_len G cs j).toInt = (own_cnt gs 4 j : Int) := by
  unfold own_len
  by_cases h : j < G
  · rw [if_pos h, len_toInt (by rw [hD j h]; have := own_cnt_le gs 4 j; omega), hD j h]
  · rw [if_neg h, hz j (by omega)]; rfl
theorem own_sum8 {l0 l1 l2 l3 l4 l5 l6 l7 : Int32} (b0 : 0 ≤ l0.toInt ∧ l0.toInt ≤ 4) (b1 : 0 ≤ l1.toInt ∧ l1.toInt ≤ 4) (b2 : 0 ≤ l2.toInt ∧ l2.toInt ≤ 4) (b3 : 0 ≤ l3.toInt ∧ l3.toInt ≤ 4) (b4 : 0 ≤ l4.toInt ∧ l4.toInt ≤ 4) (b5 : 0 ≤ l5.toInt ∧ l5.toInt ≤ 4) (b6 : 0 ≤ l6.toInt ∧ l6.toInt ≤ 4) (b7 : 0 ≤ l7.toInt ∧ l7.toInt ≤ 4) :
    (l0 + l1 + l2 + l3 + l4 + l5 + l6 + l7).toInt = l0.toInt + l1.toInt + l2.toInt + l3.toInt + l4.toInt + l5.toInt + l6.toInt + l7.toInt := by
  have a1 := c_iadd l0 l1
  have r1 := rng32 (l0 + l1)
  have a2 := c_iadd (l0 + l1) l2
  have r2 := rng32 (l0 + l1 + l2)
  have a3 := c_iadd (l0 + l1 + l2) l3
  have r3 := rng32 (l0 + l1 + l2 + l3)
  have a4 := c_iadd (l0 + l1 + l2 + l3) l4
  have r4 := rng32 (l0 + l1 + l2 + l3 + l4)
  have a5 := c_iadd (l0 + l1 + l2 + l3 + l4) l5
  have r5 := rng32 (l0 + l1 + l2 + l3 + l4 + l5)
  have a6 := c_iadd (l0 + l1 + l2 + l3 + l4 + l5) l6
  have r6 := rng32 (l0 + l1 + l2 + l3 + l4 + l5 + l6)
  have a7 := c_iadd (l0 + l1 + l2 + l3 + l4 + l5 + l6) l7
  have r7 := rng32 (l0 + l1 + l2 + l3 + l4 + l5 + l6 + l7)
  have h1 : (l0 + l1).toInt = l0.toInt + l1.toInt := by clear a2 r2 a3 r3 a4 r4 a5 r5 a6 r6 a7 r7; omega
  have h2 : (l0 + l1 + l2).toInt = l0.toInt + l1.toInt + l2.toInt := by clear a1 r1 a3 r3 a4 r4 a5 r5 a6 r6 a7 r7; omega
  have h3 : (l0 + l1 + l2 + l3).toInt = l0.toInt + l1.toInt + l2.toInt + l3.toInt := by clear a1 r1 a2 r2 a4 r4 a5 r5 a6 r6 a7 r7; omega
  have h4 : (l0 + l1 + l2 + l3 + l4).toInt = l0.toInt + l1.toInt + l2.toInt + l3.toInt + l4.toInt := by clear a1 r1 a2 r2 a3 r3 a5 r5 a6 r6 a7 r7; omega
  have h5 : (l0 + l1 + l2 + l3 + l4 + l5).toInt = l0.toInt + l1.toInt + l2.toInt + l3.toInt + l4.toInt + l5.toInt := by clear a1 r1 a2 r2 a3 r3 a4 r4 a6 r6 a7 r7; omega
  have h6 : (l0 + l1 + l2 + l3 + l4 + l5 + l6).toInt = l0.toInt + l1.toInt + l2.toInt + l3.toInt + l4.toInt + l5.toInt + l6.toInt := by clear a1 r1 a2 r2 a3 r3 a4 r4 a5 r5 a7 r7; omega
  have h7 : (l0 + l1 + l2 + l3 + l4 + l5 + l6 + l7).toInt = l0.toInt + l1.toInt + l2.toInt + l3.toInt + l4.toInt + l5.toInt + l6.toInt + l7.toInt := by clear a1 r1 a2 r2 a3 r3 a4 r4 a5 r5 a6 r6; omega
  exact h7
theorem own_rr (a0 a1 a2 a3 a4 a5 a6 a7 b0 b1 b2 b3 b4 b5 b6 b7 c0 c1 c2 c3 c4 c5 c6 c7 d0 d1 d2 d3 d4 d5 d6 d7 : Int) :
    (a0 + b0 + c0 + d0) + (a1 + b1 + c1 + d1) + (a2 + b2 + c2 + d2) + (a3 + b3 + c3 + d3) + (a4 + b4 + c4 + d4) + (a5 + b5 + c5 + d5) + (a6 + b6 + c6 + d6) + (a7 + b7 + c7 + d7) = (a0 + a1 + a2 + a3 + a4 + a5 + a6 + a7) + (b0 + b1 + b2 + b3 + b4 + b5 + b6 + b7) + (c0 + c1 + c2 + c3 + c4 + c5 + c6 + c7) + (d0 + d1 + d2 + d3 + d4 + d5 + d6 + d7) := by omega
theorem own_tot {g0 g1 g2 g3 : Int32} {G : Nat} {cs : Nat → List Int32} (hG7 : G ≤ 7) (hok : own_ok [g0, g1, g2, g3] G) (hD : ∀ t < G, (cs t).length = own_cnt [g0, g1, g2, g3] 4 t) :
    (own_len G cs 0 + own_len G cs 1 + own_len G cs 2 + own_len G cs 3 + own_len G cs 4 + own_len G cs 5 + own_len G cs 6 + own_len G cs 7).toInt = own_p g0 + own_p g1 + own_p g2 + own_p g3 := by
  have k0 := hok 0 (by decide : (0 : Nat) < 4)
  have k1 := hok 1 (by decide : (1 : Nat) < 4)
  have k2 := hok 2 (by decide : (2 : Nat) < 4)
  have k3 := hok 3 (by decide : (3 : Nat) < 4)
  simp only [List.getD_cons_zero, List.getD_cons_succ] at k0 k1 k2 k3
  have hz : ∀ t, G ≤ t → own_cnt [g0, g1, g2, g3] 4 t = 0 := fun t ht => by
    rw [(own_ck g0 g1 g2 g3 t).2.2.2.2, if_neg (by omega), if_neg (by omega), if_neg (by omega), if_neg (by omega)]
  have v : ∀ j, (own_len G cs j).toInt = ((if g0.toInt = (j : Int) then 1 else 0) + (if g1.toInt = (j : Int) then 1 else 0) + (if g2.toInt = (j : Int) then 1 else 0) + (if g3.toInt = (j : Int) then 1 else 0) : Int) := fun j => by
    rw [own_lenv hD hz j, (own_ck g0 g1 g2 g3 j).2.2.2.2]
    repeat' split
    all_goals rfl
  have b : ∀ j, 0 ≤ (own_len G cs j).toInt ∧ (own_len G cs j).toInt ≤ 4 := fun j => by
    rw [own_lenv hD hz j]; have := own_cnt_le [g0, g1, g2, g3] 4 j; omega
  rw [own_sum8 (b 0) (b 1) (b 2) (b 3) (b 4) (b 5) (b 6) (b 7), v 0, v 1, v 2, v 3, v 4, v 5, v 6, v 7, ← own_s8 g0 (by omega), ← own_s8 g1 (by omega), ← own_s8 g2 (by omega), ← own_s8 g3 (by omega)]
  exact own_rr _ _ _ _ _ _ _ _ _ _ _ _ _ _ _ _ _ _ _ _ _ _ _ _ _ _ _ _ _ _ _ _
theorem own_eqt {g : Int32} (x : Int32) (hn : ¬ g.toInt < 0) : (own_eq x g).toInt = if x.toInt = (g.toInt.toNat : Int) then 1 else 0 := by
  rw [own_eqv]
  by_cases h : x.toInt = (g.toInt.toNat : Int)
  · rw [if_pos h, if_pos (by omega)]
  · rw [if_neg h, if_neg (by omega)]
theorem own_eqs {g : Int32} (x : Int32) (hn : ¬ g.toInt < 0) : (own_eq g x).toInt = if x.toInt = (g.toInt.toNat : Int) then 1 else 0 := by
  rw [own_eqv]
  by_cases h : x.toInt = (g.toInt.toNat : Int)
  · rw [if_pos h, if_pos (by omega)]
  · rw [if_neg h, if_neg (by omega)]
theorem own_eqb (x y : Int32) : 0 ≤ (own_eq x y).toInt ∧ (own_eq x y).toInt ≤ 1 := by
  rw [own_eqv]; split <;> omega
theorem own_add {a b : Int32} (ha : 0 ≤ a.toInt ∧ a.toInt ≤ 100) (hb : 0 ≤ b.toInt ∧ b.toInt ≤ 1) : (a + b).toInt = a.toInt + b.toInt := by
  have q := c_iadd a b
  have r := rng32 (a + b)
  omega
theorem own_H0 {g0 g1 g2 g3 p2 p3 p4 p5 : Int32} {G : Nat} {cs : Nat → List Int32} (hok : own_ok [g0, g1, g2, g3] G) (hD : ∀ t < G, (cs t).length = own_cnt [g0, g1, g2, g3] 4 t) (hV : ∀ t < G, ∀ k < 4, (([g0, g1, g2, g3] : List Int32).getD k 0).toInt = (t : Int) → (cs t).getD (own_cnt [g0, g1, g2, g3] k t) 0 = ([p2, p3, p4, p5] : List Int32).getD k 0) : ¬ g0.toInt < 0 → g0.toInt = ((g0.toInt.toNat : Nat) : Int) ∧ g0.toInt.toNat < G ∧ (((((1 : Int32) + (own_eq g1 g0)) + (own_eq g2 g0)) + (own_eq g3 g0))).toInt = ((cs (g0.toInt.toNat)).length : Int) ∧ ((0 : Int32)).toInt = ((own_cnt [g0, g1, g2, g3] 0 (g0.toInt.toNat) : Nat) : Int) ∧ own_cnt [g0, g1, g2, g3] 0 (g0.toInt.toNat) < (cs (g0.toInt.toNat)).length ∧ (cs (g0.toInt.toNat)).getD (own_cnt [g0, g1, g2, g3] 0 (g0.toInt.toNat)) 0 = p2 := by
  intro hn
  have kk := hok 0 (by decide : (0 : Nat) < 4)
  replace kk : g0.toInt < 0 ∨ (0 ≤ g0.toInt ∧ g0.toInt < (G : Int)) := kk
  have ht : g0.toInt = ((g0.toInt.toNat : Nat) : Int) := by omega
  have htG : g0.toInt.toNat < G := by omega
  have ck := own_ck g0 g1 g2 g3 (g0.toInt.toNat)
  have e1 := own_eqt g1 hn
  have s1 := own_eqs g1 hn
  have b1 := own_eqb g1 g0
  have w1 := own_eqb g0 g1
  have e2 := own_eqt g2 hn
  have s2 := own_eqs g2 hn
  have b2 := own_eqb g2 g0
  have w2 := own_eqb g0 g2
  have e3 := own_eqt g3 hn
  have s3 := own_eqs g3 hn
  have b3 := own_eqb g3 g0
  have w3 := own_eqb g0 g3
  have z1 : (1 : Int32).toInt = 1 := rfl
  have q1 := own_add (a := 1) (b := (own_eq g1 g0)) (by decide) b1
  have q2 := own_add (a := (1 + (own_eq g1 g0))) (b := (own_eq g2 g0)) (by omega) b2
  have q3 := own_add (a := ((1 + (own_eq g1 g0)) + (own_eq g2 g0))) (b := (own_eq g3 g0)) (by omega) b3
  refine ⟨ht, htG, ?_, ?_, ?_, hV _ htG 0 (by decide) ht⟩
  · rw [q3, q2, q1, z1, e1, e2, e3, hD _ htG, ck.2.2.2.2, if_pos ht]
    repeat' split
    all_goals rfl
  · rw [ck.1]; rfl
  · rw [hD _ htG]; have m1 := own_cnt_s (gs := [g0, g1, g2, g3]) (i := 0) (g0.toInt.toNat) (by decide : (0 : Nat) < 4); rw [if_pos (show (([g0, g1, g2, g3] : List Int32).getD 0 0).toInt = _ from ht)] at m1; have m2 := own_cnt_m (gs := [g0, g1, g2, g3]) (i := 1) (j := 4) (g0.toInt.toNat) (by decide : (4 : Nat) ≤ 4) (by decide); simp only [Nat.reduceAdd] at m1; omega
theorem own_H1 {g0 g1 g2 g3 p2 p3 p4 p5 : Int32} {G : Nat} {cs : Nat → List Int32} (hok : own_ok [g0, g1, g2, g3] G) (hD : ∀ t < G, (cs t).length = own_cnt [g0, g1, g2, g3] 4 t) (hV : ∀ t < G, ∀ k < 4, (([g0, g1, g2, g3] : List Int32).getD k 0).toInt = (t : Int) → (cs t).getD (own_cnt [g0, g1, g2, g3] k t) 0 = ([p2, p3, p4, p5] : List Int32).getD k 0) : ¬ g1.toInt < 0 → g1.toInt = ((g1.toInt.toNat : Nat) : Int) ∧ g1.toInt.toNat < G ∧ (((((1 : Int32) + (own_eq g0 g1)) + (own_eq g2 g1)) + (own_eq g3 g1))).toInt = ((cs (g1.toInt.toNat)).length : Int) ∧ ((own_eq g1 g0)).toInt = ((own_cnt [g0, g1, g2, g3] 1 (g1.toInt.toNat) : Nat) : Int) ∧ own_cnt [g0, g1, g2, g3] 1 (g1.toInt.toNat) < (cs (g1.toInt.toNat)).length ∧ (cs (g1.toInt.toNat)).getD (own_cnt [g0, g1, g2, g3] 1 (g1.toInt.toNat)) 0 = p3 := by
  intro hn
  have kk := hok 1 (by decide : (1 : Nat) < 4)
  replace kk : g1.toInt < 0 ∨ (0 ≤ g1.toInt ∧ g1.toInt < (G : Int)) := kk
  have ht : g1.toInt = ((g1.toInt.toNat : Nat) : Int) := by omega
  have htG : g1.toInt.toNat < G := by omega
  have ck := own_ck g0 g1 g2 g3 (g1.toInt.toNat)
  have e0 := own_eqt g0 hn
  have s0 := own_eqs g0 hn
  have b0 := own_eqb g0 g1
  have w0 := own_eqb g1 g0
  have e2 := own_eqt g2 hn
  have s2 := own_eqs g2 hn
  have b2 := own_eqb g2 g1
  have w2 := own_eqb g1 g2
  have e3 := own_eqt g3 hn
  have s3 := own_eqs g3 hn
  have b3 := own_eqb g3 g1
  have w3 := own_eqb g1 g3
  have z1 : (1 : Int32).toInt = 1 := rfl
  have q1 := own_add (a := 1) (b := (own_eq g0 g1)) (by decide) b0
  have q2 := own_add (a := (1 + (own_eq g0 g1))) (b := (own_eq g2 g1)) (by omega) b2
  have q3 := own_add (a := ((1 + (own_eq g0 g1)) + (own_eq g2 g1))) (b := (own_eq g3 g1)) (by omega) b3
  refine ⟨ht, htG, ?_, ?_, ?_, hV _ htG 1 (by decide) ht⟩
  · rw [q3, q2, q1, z1, e0, e2, e3, hD _ htG, ck.2.2.2.2, if_pos ht]
    repeat' split
    all_goals rfl
  · rw [s0, ck.2.1]; split <;> rfl
  · rw [hD _ htG]; have m1 := own_cnt_s (gs := [g0, g1, g2, g3]) (i := 1) (g1.toInt.toNat) (by decide : (1 : Nat) < 4); rw [if_pos (show (([g0, g1, g2, g3] : List Int32).getD 1 0).toInt = _ from ht)] at m1; have m2 := own_cnt_m (gs := [g0, g1, g2, g3]) (i := 2) (j := 4) (g1.toInt.toNat) (by decide : (4 : Nat) ≤ 4) (by decide); simp only [Nat.reduceAdd] at m1; omega
theorem own_H2 {g0 g1 g2 g3 p2 p3 p4 p5 : Int32} {G : Nat} {cs : Nat → List Int32} (hok : own_ok [g0, g1, g2, g3] G) (hD : ∀ t < G, (cs t).length = own_cnt [g0, g1, g2, g3] 4 t) (hV : ∀ t < G, ∀ k < 4, (([g0, g1, g2, g3] : List Int32).getD k 0).toInt = (t : Int) → (cs t).getD (own_cnt [g0, g1, g2, g3] k t) 0 = ([p2, p3, p4, p5] : List Int32).getD k 0) : ¬ g2.toInt < 0 → g2.toInt = ((g2.toInt.toNat : Nat) : Int) ∧ g2.toInt.toNat < G ∧ (((((1 : Int32) + (own_eq g0 g2)) + (own_eq g1 g2)) + (own_eq g3 g2))).toInt = ((cs (g2.toInt.toNat)).length : Int) ∧ (((own_eq g2 g0) + (own_eq g2 g1))).toInt = ((own_cnt [g0, g1, g2, g3] 2 (g2.toInt.toNat) : Nat) : Int) ∧ own_cnt [g0, g1, g2, g3] 2 (g2.toInt.toNat) < (cs (g2.toInt.toNat)).length ∧ (cs (g2.toInt.toNat)).getD (own_cnt [g0, g1, g2, g3] 2 (g2.toInt.toNat)) 0 = p4 := by
  intro hn
  have kk := hok 2 (by decide : (2 : Nat) < 4)
  replace kk : g2.toInt < 0 ∨ (0 ≤ g2.toInt ∧ g2.toInt < (G : Int)) := kk
  have ht : g2.toInt = ((g2.toInt.toNat : Nat) : Int) := by omega
  have htG : g2.toInt.toNat < G := by omega
  have ck := own_ck g0 g1 g2 g3 (g2.toInt.toNat)
  have e0 := own_eqt g0 hn
  have s0 := own_eqs g0 hn
  have b0 := own_eqb g0 g2
  have w0 := own_eqb g2 g0
  have e1 := own_eqt g1 hn
  have s1 := own_eqs g1 hn
  have b1 := own_eqb g1 g2
  have w1 := own_eqb g2 g1
  have e3 := own_eqt g3 hn
  have s3 := own_eqs g3 hn
  have b3 := own_eqb g3 g2
  have w3 := own_eqb g2 g3
  have z1 : (1 : Int32).toInt = 1 := rfl
  have q1 := own_add (a := 1) (b := (own_eq g0 g2)) (by decide) b0
  have q2 := own_add (a := (1 + (own_eq g0 g2))) (b := (own_eq g1 g2)) (by omega) b1
  have q3 := own_add (a := ((1 + (own_eq g0 g2)) + (own_eq g1 g2))) (b := (own_eq g3 g2)) (by omega) b3
  refine ⟨ht, htG, ?_, ?_, ?_, hV _ htG 2 (by decide) ht⟩
  · rw [q3, q2, q1, z1, e0, e1, e3, hD _ htG, ck.2.2.2.2, if_pos ht]
    repeat' split
    all_goals rfl
  · rw [own_add (by omega) w1, s0, s1, ck.2.2.1]
    repeat' split
    all_goals rfl
  · rw [hD _ htG]; have m1 := own_cnt_s (gs := [g0, g1, g2, g3]) (i := 2) (g2.toInt.toNat) (by decide : (2 : Nat) < 4); rw [if_pos (show (([g0, g1, g2, g3] : List Int32).getD 2 0).toInt = _ from ht)] at m1; have m2 := own_cnt_m (gs := [g0, g1, g2, g3]) (i := 3) (j := 4) (g2.toInt.toNat) (by decide : (4 : Nat) ≤ 4) (by decide); simp only [Nat.reduceAdd] at m1; omega
theorem own_H3 {g0 g1 g2 g3 p2 p3 p4 p5 : Int32} {G : Nat} {cs : Nat → List Int32} (hok : own_ok [g0, g1, g2, g3] G) (hD : ∀ t < G, (cs t).length = own_cnt [g0, g1, g2, g3] 4 t) (hV : ∀ t < G, ∀ k < 4, (([g0, g1, g2, g3] : List Int32).getD k 0).toInt = (t : Int) → (cs t).getD (own_cnt [g0, g1, g2, g3] k t) 0 = ([p2, p3, p4, p5] : List Int32).getD k 0) : ¬ g3.toInt < 0 → g3.toInt = ((g3.toInt.toNat : Nat) : Int) ∧ g3.toInt.toNat < G ∧ (((((1 : Int32) + (own_eq g0 g3)) + (own_eq g1 g3)) + (own_eq g2 g3))).toInt = ((cs (g3.toInt.toNat)).length : Int) ∧ ((((own_eq g3 g0) + (own_eq g3 g1)) + (own_eq g3 g2))).toInt = ((own_cnt [g0, g1, g2, g3] 3 (g3.toInt.toNat) : Nat) : Int) ∧ own_cnt [g0, g1, g2, g3] 3 (g3.toInt.toNat) < (cs (g3.toInt.toNat)).length ∧ (cs (g3.toInt.toNat)).getD (own_cnt [g0, g1, g2, g3] 3 (g3.toInt.toNat)) 0 = p5 := by
  intro hn
  have kk := hok 3 (by decide : (3 : Nat) < 4)
  replace kk : g3.toInt < 0 ∨ (0 ≤ g3.toInt ∧ g3.toInt < (G : Int)) := kk
  have ht : g3.toInt = ((g3.toInt.toNat : Nat) : Int) := by omega
  have htG : g3.toInt.toNat < G := by omega
  have ck := own_ck g0 g1 g2 g3 (g3.toInt.toNat)
  have e0 := own_eqt g0 hn
  have s0 := own_eqs g0 hn
  have b0 := own_eqb g0 g3
  have w0 := own_eqb g3 g0
  have e1 := own_eqt g1 hn
  have s1 := own_eqs g1 hn
  have b1 := own_eqb g1 g3
  have w1 := own_eqb g3 g1
  have e2 := own_eqt g2 hn
  have s2 := own_eqs g2 hn
  have b2 := own_eqb g2 g3
  have w2 := own_eqb g3 g2
  have z1 : (1 : Int32).toInt = 1 := rfl
  have q1 := own_add (a := 1) (b := (own_eq g0 g3)) (by decide) b0
  have q2 := own_add (a := (1 + (own_eq g0 g3))) (b := (own_eq g1 g3)) (by omega) b1
  have q3 := own_add (a := ((1 + (own_eq g0 g3)) + (own_eq g1 g3))) (b := (own_eq g2 g3)) (by omega) b2
  refine ⟨ht, htG, ?_, ?_, ?_, hV _ htG 3 (by decide) ht⟩
  · rw [q3, q2, q1, z1, e0, e1, e2, hD _ htG, ck.2.2.2.2, if_pos ht]
    repeat' split
    all_goals rfl
  · have u1 := own_add (a := (own_eq g3 g0)) (b := (own_eq g3 g1)) (by omega) w1
    rw [own_add (by omega) w2, u1, s0, s1, s2, ck.2.2.2.1]
    repeat' split
    all_goals rfl
  · rw [hD _ htG]; have m1 := own_cnt_s (gs := [g0, g1, g2, g3]) (i := 3) (g3.toInt.toNat) (by decide : (3 : Nat) < 4); rw [if_pos (show (([g0, g1, g2, g3] : List Int32).getD 3 0).toInt = _ from ht)] at m1; have m2 := own_cnt_m (gs := [g0, g1, g2, g3]) (i := 4) (j := 4) (g3.toInt.toNat) (by decide : (4 : Nat) ≤ 4) (by decide); simp only [Nat.reduceAdd] at m1; omega
theorem pf_0 : plainFor x = true := by first | exact plainFor_of_name (by first | (simp [plainName, overriddenIn]; done) | decide +kernel) | decide +kernel
theorem ef_0 (m : MethodId) (p0 : Int32) (p1 : Int64) (p2 : Int32) (p3 : Int32) (p4 : Int32) (p5 : Int32) : entryFrame m #[(.int p0), (.long p1), (.int p2), (.int p3), (.int p4), (.int p5)] maxLocals = mkF m 0 #[.val (.int p0), .val (.long p1), .second, .val (.int p2), .val (.int p3), .val (.int p4), .val (.int p5), .unset, .unset, .unset, .unset, .unset, .unset, .unset, .unset, .unset, .unset, .unset, .unset, .unset, .unset, .unset, .unset, .unset, .unset] [] := by first | (simp [entryFrame, mkF, argsToLocals, Value.category, maxLocals]; done) | rfl
theorem pd_0 : parseMethodDescriptor "(JIII)I" = some ⟨[.long, .int, .int, .int], some .int⟩ := by decide +kernel
theorem pd_1 : parseMethodDescriptor "(I[I[I)[[I" = some ⟨[.int, (.array .int), (.array .int)], some (.array (.array .int))⟩ := by decide +kernel
theorem pd_2 : parseMethodDescriptor "(II)I" = some ⟨[.int, .int], some .int⟩ := by decide +kernel
theorem pd_3 : parseMethodDescriptor "([[II)I" = some ⟨[(.array (.array .int)), .int], some .int⟩ := by decide +kernel
theorem pd_4 : parseMethodDescriptor "([[IIIII)Z" = some ⟨[(.array (.array .int)), .int, .int, .int, .int], some .boolean⟩ := by decide +kernel
set_option maxRecDepth 65536 in
set_option maxHeartbeats 40000000 in
theorem con_0 (l : Launch) (Z : State) (a0 : Array Value) (hw : ∀ d ∈ tables_1, d.before a0 Z = true) (h0 : Heap) (n0 : Nat) (p0 : Int32) (p1 : Int64) (p2 : Int32) (p3 : Int32) (p4 : Int32) (p5 : Int32)  (Z0 : n0 ≤ h0.size) : Con l Z x code maxLocals ret room_1 #[(.int p0), (.long p1), (.int p2), (.int p3), (.int p4), (.int p5)] h0 n0 (fun v _ => v = some (.int 1)) := by
  refine Con.of pf_0 (fun m => ef_0 m p0 p1 p2 p3 p4 p5) ?_
  intro p e s m below meth c C
  refine W.iloadN C at_0 rfl ?_
  refine W.bipush C (7 : Int32) at_1 rfl ?_
  refine W.iand C at_3 ?_
  obtain ⟨G, hG, hG7⟩ := own_G p0
  generalize (p0 &&& (7 : Int32)) = gg at hG ⊢
  refine W.istore C #[.val (.int p0), .val (.long p1), .second, .val (.int p2), .val (.int p3), .val (.int p4), .val (.int p5), .val (.int gg), .unset, .unset, .unset, .unset, .unset, .unset, .unset, .unset, .unset, .unset, .unset, .unset, .unset, .unset, .unset, .unset, .unset] at_4 rfl ?_
  refine W.lloadN C at_6 rfl ?_
  refine W.bipush C (32 : Int32) at_7 rfl ?_
  refine W.lushr C at_9 ?_
  refine W.l2i C at_10 ?_
  refine W.ldcI C (v := (-2147483648 : Int32)) at_11 (tkw hw 0 rfl) ?_
  refine W.ior C at_13 ?_
  have hn : ((((((p1).toUInt64 >>> ((32 : Int32) &&& 0x3f).toInt64.toUInt64).toInt64).toInt32) ||| (-2147483648 : Int32))).toInt < 0 := own_neg _
  generalize (((((p1).toUInt64 >>> ((32 : Int32) &&& 0x3f).toInt64.toUInt64).toInt64).toInt32) ||| (-2147483648 : Int32)) = nn at hn ⊢
  refine W.istore C #[.val (.int p0), .val (.long p1), .second, .val (.int p2), .val (.int p3), .val (.int p4), .val (.int p5), .val (.int gg), .val (.int nn), .unset, .unset, .unset, .unset, .unset, .unset, .unset, .unset, .unset, .unset, .unset, .unset, .unset, .unset, .unset, .unset] at_14 rfl ?_
  refine W.lloadN C at_16 rfl ?_
  refine W.iconst C (0 : Int32) at_17 rfl ?_
  refine W.iload C at_18 rfl ?_
  refine W.iload C at_20 rfl ?_
  refine W.callS C (y' := y1) at_22 (tkw hw 1 rfl) (tkw hw 2 rfl) (tkw hw 3 rfl) (tkw hw 4 rfl) (by decide) (argsL := [(.long p1), (.int (0 : Int32)), (.int gg), (.int nn)]) (rest := []) rfl (lenOf pd_0 rfl) (con_1 l Z a0 hw h0 n0 p1 (0 : Int32) gg nn) 0 0 0 rfl rfl rfl (by decide) (by decide) (by decide) (by decide) rfl ?_
  rintro _ _ ⟨rfl, rfl⟩
  have k0 := own_pick_ok p1 0 gg nn hG hG7 hn
  generalize (own_pick p1 (0 : Int32) gg nn) = g0 at k0 ⊢
  refine W.istore C #[.val (.int p0), .val (.long p1), .second, .val (.int p2), .val (.int p3), .val (.int p4), .val (.int p5), .val (.int gg), .val (.int nn), .val (.int g0), .unset, .unset, .unset, .unset, .unset, .unset, .unset, .unset, .unset, .unset, .unset, .unset, .unset, .unset, .unset] at_25 rfl ?_
  refine W.lloadN C at_27 rfl ?_
  refine W.iconst C (1 : Int32) at_28 rfl ?_
  refine W.iload C at_29 rfl ?_
  refine W.iload C at_31 rfl ?_
  refine W.callS C (y' := y1) at_33 (tkw hw 1 rfl) (tkw hw 2 rfl) (tkw hw 3 rfl) (tkw hw 4 rfl) (by decide) (argsL := [(.long p1), (.int (1 : Int32)), (.int gg), (.int nn)]) (rest := []) rfl (lenOf pd_0 rfl) (con_1 l Z a0 hw h0 n0 p1 (1 : Int32) gg nn) 0 0 0 rfl rfl rfl (by decide) (by decide) (by decide) (by decide) rfl ?_
  rintro _ _ ⟨rfl, rfl⟩
  have k1 := own_pick_ok p1 1 gg nn hG hG7 hn
  generalize (own_pick p1 (1 : Int32) gg nn) = g1 at k1 ⊢
  refine W.istore C #[.val (.int p0), .val (.long p1), .second, .val (.int p2), .val (.int p3), .val (.int p4), .val (.int p5), .val (.int gg), .val (.int nn), .val (.int g0), .val (.int g1), .unset, .unset, .unset, .unset, .unset, .unset, .unset, .unset, .unset, .unset, .unset, .unset, .unset, .unset] at_36 rfl ?_
  refine W.lloadN C at_38 rfl ?_
  refine W.iconst C (2 : Int32) at_39 rfl ?_
  refine W.iload C at_40 rfl ?_
  refine W.iload C at_42 rfl ?_
  refine W.callS C (y' := y1) at_44 (tkw hw 1 rfl) (tkw hw 2 rfl) (tkw hw 3 rfl) (tkw hw 4 rfl) (by decide) (argsL := [(.long p1), (.int (2 : Int32)), (.int gg), (.int nn)]) (rest := []) rfl (lenOf pd_0 rfl) (con_1 l Z a0 hw h0 n0 p1 (2 : Int32) gg nn) 0 0 0 rfl rfl rfl (by decide) (by decide) (by decide) (by decide) rfl ?_
  rintro _ _ ⟨rfl, rfl⟩
  have k2 := own_pick_ok p1 2 gg nn hG hG7 hn
  generalize (own_pick p1 (2 : Int32) gg nn) = g2 at k2 ⊢
  refine W.istore C #[.val (.int p0), .val (.long p1), .second, .val (.int p2), .val (.int p3), .val (.int p4), .val (.int p5), .val (.int gg), .val (.int nn), .val (.int g0), .val (.int g1), .val (.int g2), .unset, .unset, .unset, .unset, .unset, .unset, .unset, .unset, .unset, .unset, .unset, .unset, .unset] at_47 rfl ?_
  refine W.lloadN C at_49 rfl ?_
  refine W.iconst C (3 : Int32) at_50 rfl ?_
  refine W.iload C at_51 rfl ?_
  refine W.iload C at_53 rfl ?_
  refine W.callS C (y' := y1) at_55 (tkw hw 1 rfl) (tkw hw 2 rfl) (tkw hw 3 rfl) (tkw hw 4 rfl) (by decide) (argsL := [(.long p1), (.int (3 : Int32)), (.int gg), (.int nn)]) (rest := []) rfl (lenOf pd_0 rfl) (con_1 l Z a0 hw h0 n0 p1 (3 : Int32) gg nn) 0 0 0 rfl rfl rfl (by decide) (by decide) (by decide) (by decide) rfl ?_
  rintro _ _ ⟨rfl, rfl⟩
  have k3 := own_pick_ok p1 3 gg nn hG hG7 hn
  generalize (own_pick p1 (3 : Int32) gg nn) = g3 at k3 ⊢
  refine W.istore C #[.val (.int p0), .val (.long p1), .second, .val (.int p2), .val (.int p3), .val (.int p4), .val (.int p5), .val (.int gg), .val (.int nn), .val (.int g0), .val (.int g1), .val (.int g2), .val (.int g3), .unset, .unset, .unset, .unset, .unset, .unset, .unset, .unset, .unset, .unset, .unset, .unset] at_58 rfl ?_
  refine W.iconst C (4 : Int32) at_60 rfl ?_
  refine W.newP C 4 4 at_61 (tkw hw 5 rfl) rfl (Nat.le_refl _) (by decide) 1 4 rfl rfl (by decide) (by decide) ?_
  intro ob1 hp2 hob1 Eob1 Lob1
  have ge_ob1 : n0 ≤ ob1 := by rw [hob1]; exact Z0
  replace Z0 := Nat.le_trans Z0 Eob1.1
  replace Lob1 : Al Z hp2 ob1 .int [(.int (0 : Int32)), (.int (0 : Int32)), (.int (0 : Int32)), (.int (0 : Int32))] := Lob1
  refine W.dup C at_63 rfl ?_
  refine W.iconst C (0 : Int32) at_64 rfl ?_
  refine W.iload C at_65 rfl ?_
  refine W.iastore C 0 at_67 Lob1 rfl (show (0 : Nat) < 4 by decide) ge_ob1 ?_
  intro hp3 U4 Lob1_
  replace Z0 := Nat.le_trans Z0 (Nat.le_of_eq (U4.size).symm)
  replace Lob1 : Al Z hp3 ob1 .int [(.int g0), (.int (0 : Int32)), (.int (0 : Int32)), (.int (0 : Int32))] := Lob1_
  refine W.dup C at_68 rfl ?_
  refine W.iconst C (1 : Int32) at_69 rfl ?_
  refine W.iload C at_70 rfl ?_
  refine W.iastore C 1 at_72 Lob1 rfl (show (1 : Nat) < 4 by decide) ge_ob1 ?_
  intro hp5 U6 Lob1_
  replace Z0 := Nat.le_trans Z0 (Nat.le_of_eq (U6.size).symm)
  replace Lob1 : Al Z hp5 ob1 .int [(.int g0), (.int g1), (.int (0 : Int32)), (.int (0 : Int32))] := Lob1_
  refine W.dup C at_73 rfl ?_
  refine W.iconst C (2 : Int32) at_74 rfl ?_
  refine W.iload C at_75 rfl ?_
  refine W.iastore C 2 at_77 Lob1 rfl (show (2 : Nat) < 4 by decide) ge_ob1 ?_
  intro hp7 U8 Lob1_
  replace Z0 := Nat.le_trans Z0 (Nat.le_of_eq (U8.size).symm)
  replace Lob1 : Al Z hp7 ob1 .int [(.int g0), (.int g1), (.int g2), (.int (0 : Int32))] := Lob1_
  refine W.dup C at_78 rfl ?_
  refine W.iconst C (3 : Int32) at_79 rfl ?_
  refine W.iload C at_80 rfl ?_
  refine W.iastore C 3 at_82 Lob1 rfl (show (3 : Nat) < 4 by decide) ge_ob1 ?_
  intro hp9 U10 Lob1_
  replace Z0 := Nat.le_trans Z0 (Nat.le_of_eq (U10.size).symm)
  replace Lob1 : Al Z hp9 ob1 .int [(.int g0), (.int g1), (.int g2), (.int g3)] := Lob1_
  refine W.astore C #[.val (.int p0), .val (.long p1), .second, .val (.int p2), .val (.int p3), .val (.int p4), .val (.int p5), .val (.int gg), .val (.int nn), .val (.int g0), .val (.int g1), .val (.int g2), .val (.int g3), .val (.ref ob1), .unset, .unset, .unset, .unset, .unset, .unset, .unset, .unset, .unset, .unset, .unset] at_83 rfl rfl ?_
  refine W.iconst C (4 : Int32) at_85 rfl ?_
  refine W.newP C 4 4 at_86 (tkw hw 5 rfl) rfl (Nat.le_refl _) (by decide) 2 8 rfl rfl (by decide) (by decide) ?_
  intro ob11 hp12 hob11 Eob11 Lob11
  have ne_ob1_ob11 : ob1 ≠ ob11 := Nat.ne_of_lt (by rw [hob11]; exact Lob1.lt)
  have ge_ob11 : n0 ≤ ob11 := by rw [hob11]; exact Z0
  replace Z0 := Nat.le_trans Z0 Eob11.1
  replace Lob1 := Lob1.ext Eob11
  replace Lob11 : Al Z hp12 ob11 .int [(.int (0 : Int32)), (.int (0 : Int32)), (.int (0 : Int32)), (.int (0 : Int32))] := Lob11
  refine W.dup C at_88 rfl ?_
  refine W.iconst C (0 : Int32) at_89 rfl ?_
  refine W.iloadN C at_90 rfl ?_
  refine W.iastore C 0 at_91 Lob11 rfl (show (0 : Nat) < 4 by decide) ge_ob11 ?_
  intro hp13 U14 Lob11_
  replace Z0 := Nat.le_trans Z0 (Nat.le_of_eq (U14.size).symm)
  replace Lob1 := Lob1.other U14 ne_ob1_ob11
  replace Lob11 : Al Z hp13 ob11 .int [(.int p2), (.int (0 : Int32)), (.int (0 : Int32)), (.int (0 : Int32))] := Lob11_
  refine W.dup C at_92 rfl ?_
  refine W.iconst C (1 : Int32) at_93 rfl ?_
  refine W.iload C at_94 rfl ?_
  refine W.iastore C 1 at_96 Lob11 rfl (show (1 : Nat) < 4 by decide) ge_ob11 ?_
  intro hp15 U16 Lob11_
  replace Z0 := Nat.le_trans Z0 (Nat.le_of_eq (U16.size).symm)
  replace Lob1 := Lob1.other U16 ne_ob1_ob11
  replace Lob11 : Al Z hp15 ob11 .int [(.int p2), (.int p3), (.int (0 : Int32)), (.int (0 : Int32))] := Lob11_
  refine W.dup C at_97 rfl ?_
  refine W.iconst C (2 : Int32) at_98 rfl ?_
  refine W.iload C at_99 rfl ?_
  refine W.iastore C 2 at_101 Lob11 rfl (show (2 : Nat) < 4 by decide) ge_ob11 ?_
  intro hp17 U18 Lob11_
  replace Z0 := Nat.le_trans Z0 (Nat.le_of_eq (U18.size).symm)
  replace Lob1 := Lob1.other U18 ne_ob1_ob11
  replace Lob11 : Al Z hp17 ob11 .int [(.int p2), (.int p3), (.int p4), (.int (0 : Int32))] := Lob11_
  refine W.dup C at_102 rfl ?_
  refine W.iconst C (3 : Int32) at_103 rfl ?_
  refine W.iload C at_104 rfl ?_
  refine W.iastore C 3 at_106 Lob11 rfl (show (3 : Nat) < 4 by decide) ge_ob11 ?_
  intro hp19 U20 Lob11_
  replace Z0 := Nat.le_trans Z0 (Nat.le_of_eq (U20.size).symm)
  replace Lob1 := Lob1.other U20 ne_ob1_ob11
  replace Lob11 : Al Z hp19 ob11 .int [(.int p2), (.int p3), (.int p4), (.int p5)] := Lob11_
  refine W.astore C #[.val (.int p0), .val (.long p1), .second, .val (.int p2), .val (.int p3), .val (.int p4), .val (.int p5), .val (.int gg), .val (.int nn), .val (.int g0), .val (.int g1), .val (.int g2), .val (.int g3), .val (.ref ob1), .val (.ref ob11), .unset, .unset, .unset, .unset, .unset, .unset, .unset, .unset, .unset, .unset] at_107 rfl rfl ?_
  refine W.iload C at_109 rfl ?_
  refine W.aload C at_111 rfl rfl ?_
  refine W.aload C at_113 rfl rfl ?_
  have hok : own_ok [g0, g1, g2, g3] G := own_okl k0 k1 k2 k3
  refine W.callS C (y' := y2) at_115 (tkw hw 6 rfl) (tkw hw 7 rfl) (tkw hw 8 rfl) (tkw hw 9 rfl) (by decide) (argsL := [(.int gg), (.ref ob1), (.ref ob11)]) (rest := []) rfl (lenOf pd_1 rfl) (con_2 l Z a0 hw hp19 n0 gg ob1 ob11 G [g0, g1, g2, g3] [p2, p3, p4, p5] hG hG7 rfl rfl hok Lob1 Lob11 Z0) 0 12 57 rfl rfl rfl (by decide) (by decide) (by decide) (by decide) rfl ?_
  rintro _ hp21 ⟨ga, rs, cs, rfl, Kc, -, LG, hrl, hA, hD, hV⟩
  replace Z0 := Nat.le_trans Z0 Kc.1
  replace Lob1 := Lob1.keep Kc nin0
  replace Lob11 := Lob11.keep Kc nin0
  refine W.astore C #[.val (.int p0), .val (.long p1), .second, .val (.int p2), .val (.int p3), .val (.int p4), .val (.int p5), .val (.int gg), .val (.int nn), .val (.int g0), .val (.int g1), .val (.int g2), .val (.int g3), .val (.ref ob1), .val (.ref ob11), .val (.ref ga), .unset, .unset, .unset, .unset, .unset, .unset, .unset, .unset, .unset] at_118 rfl rfl ?_
  refine W.aload C at_120 rfl rfl ?_
  refine W.ifnullNo C at_122 ?_
  refine W.aload C at_125 rfl rfl ?_
  refine W.arrlen C rs.length.toInt32 at_127 LG (by simp) ?_
  refine W.iload C at_128 rfl ?_
  refine W.icmp_eq C 135 at_130 rfl (fun bq1 => ?_) (fun bq1 => absurd (Int32.toInt_inj.mp ((own_rl hrl hG7).trans hG.symm)) bq1)
  refine W.iload C at_135 rfl ?_
  refine W.iload C at_137 rfl ?_
  refine W.callS C (y' := y3) at_139 (tkw hw 12 rfl) (tkw hw 13 rfl) (tkw hw 3 rfl) (tkw hw 14 rfl) (by decide) (argsL := [(.int g1), (.int g0)]) (rest := []) rfl (lenOf pd_2 rfl) (con_3 l Z a0 hw hp21 n0 g1 g0) 0 12 57 rfl rfl rfl (by decide) (by decide) (by decide) (by decide) rfl ?_
  rintro _ _ ⟨rfl, rfl⟩
  refine W.istore C #[.val (.int p0), .val (.long p1), .second, .val (.int p2), .val (.int p3), .val (.int p4), .val (.int p5), .val (.int gg), .val (.int nn), .val (.int g0), .val (.int g1), .val (.int g2), .val (.int g3), .val (.ref ob1), .val (.ref ob11), .val (.ref ga), .val (.int (own_eq g1 g0)), .unset, .unset, .unset, .unset, .unset, .unset, .unset, .unset] at_142 rfl ?_
  refine W.iload C at_144 rfl ?_
  refine W.iload C at_146 rfl ?_
  refine W.callS C (y' := y3) at_148 (tkw hw 12 rfl) (tkw hw 13 rfl) (tkw hw 3 rfl) (tkw hw 14 rfl) (by decide) (argsL := [(.int g2), (.int g0)]) (rest := []) rfl (lenOf pd_2 rfl) (con_3 l Z a0 hw hp21 n0 g2 g0) 0 12 57 rfl rfl rfl (by decide) (by decide) (by decide) (by decide) rfl ?_
  rintro _ _ ⟨rfl, rfl⟩
  refine W.iload C at_151 rfl ?_
  refine W.iload C at_153 rfl ?_
  refine W.callS C (y' := y3) at_155 (tkw hw 12 rfl) (tkw hw 13 rfl) (tkw hw 3 rfl) (tkw hw 14 rfl) (by decide) (argsL := [(.int g2), (.int g1)]) (rest := [(.int (own_eq g2 g0))]) rfl (lenOf pd_2 rfl) (con_3 l Z a0 hw hp21 n0 g2 g1) 1 12 57 rfl rfl rfl (by decide) (by decide) (by decide) (by decide) rfl ?_
  rintro _ _ ⟨rfl, rfl⟩
  refine W.iadd C at_158 ?_
  refine W.istore C #[.val (.int p0), .val (.long p1), .second, .val (.int p2), .val (.int p3), .val (.int p4), .val (.int p5), .val (.int gg), .val (.int nn), .val (.int g0), .val (.int g1), .val (.int g2), .val (.int g3), .val (.ref ob1), .val (.ref ob11), .val (.ref ga), .val (.int (own_eq g1 g0)), .val (.int ((own_eq g2 g0) + (own_eq g2 g1))), .unset, .unset, .unset, .unset, .unset, .unset, .unset] at_159 rfl ?_
  refine W.iload C at_161 rfl ?_
  refine W.iload C at_163 rfl ?_
  refine W.callS C (y' := y3) at_165 (tkw hw 12 rfl) (tkw hw 13 rfl) (tkw hw 3 rfl) (tkw hw 14 rfl) (by decide) (argsL := [(.int g3), (.int g0)]) (rest := []) rfl (lenOf pd_2 rfl) (con_3 l Z a0 hw hp21 n0 g3 g0) 0 12 57 rfl rfl rfl (by decide) (by decide) (by decide) (by decide) rfl ?_
  rintro _ _ ⟨rfl, rfl⟩
  refine W.iload C at_168 rfl ?_
  refine W.iload C at_170 rfl ?_
  refine W.callS C (y' := y3) at_172 (tkw hw 12 rfl) (tkw hw 13 rfl) (tkw hw 3 rfl) (tkw hw 14 rfl) (by decide) (argsL := [(.int g3), (.int g1)]) (rest := [(.int (own_eq g3 g0))]) rfl (lenOf pd_2 rfl) (con_3 l Z a0 hw hp21 n0 g3 g1) 1 12 57 rfl rfl rfl (by decide) (by decide) (by decide) (by decide) rfl ?_
  rintro _ _ ⟨rfl, rfl⟩
  refine W.iadd C at_175 ?_
  refine W.iload C at_176 rfl ?_
  refine W.iload C at_178 rfl ?_
  refine W.callS C (y' := y3) at_180 (tkw hw 12 rfl) (tkw hw 13 rfl) (tkw hw 3 rfl) (tkw hw 14 rfl) (by decide) (argsL := [(.int g3), (.int g2)]) (rest := [(.int ((own_eq g3 g0) + (own_eq g3 g1)))]) rfl (lenOf pd_2 rfl) (con_3 l Z a0 hw hp21 n0 g3 g2) 1 12 57 rfl rfl rfl (by decide) (by decide) (by decide) (by decide) rfl ?_
  rintro _ _ ⟨rfl, rfl⟩
  refine W.iadd C at_183 ?_
  refine W.istore C #[.val (.int p0), .val (.long p1), .second, .val (.int p2), .val (.int p3), .val (.int p4), .val (.int p5), .val (.int gg), .val (.int nn), .val (.int g0), .val (.int g1), .val (.int g2), .val (.int g3), .val (.ref ob1), .val (.ref ob11), .val (.ref ga), .val (.int (own_eq g1 g0)), .val (.int ((own_eq g2 g0) + (own_eq g2 g1))), .val (.int (((own_eq g3 g0) + (own_eq g3 g1)) + (own_eq g3 g2))), .unset, .unset, .unset, .unset, .unset, .unset] at_184 rfl ?_
  refine W.iconst C (1 : Int32) at_186 rfl ?_
  refine W.iload C at_187 rfl ?_
  refine W.iload C at_189 rfl ?_
  refine W.callS C (y' := y3) at_191 (tkw hw 12 rfl) (tkw hw 13 rfl) (tkw hw 3 rfl) (tkw hw 14 rfl) (by decide) (argsL := [(.int g1), (.int g0)]) (rest := [(.int (1 : Int32))]) rfl (lenOf pd_2 rfl) (con_3 l Z a0 hw hp21 n0 g1 g0) 1 12 57 rfl rfl rfl (by decide) (by decide) (by decide) (by decide) rfl ?_
  rintro _ _ ⟨rfl, rfl⟩
  refine W.iadd C at_194 ?_
  refine W.iload C at_195 rfl ?_
  refine W.iload C at_197 rfl ?_
  refine W.callS C (y' := y3) at_199 (tkw hw 12 rfl) (tkw hw 13 rfl) (tkw hw 3 rfl) (tkw hw 14 rfl) (by decide) (argsL := [(.int g2), (.int g0)]) (rest := [(.int ((1 : Int32) + (own_eq g1 g0)))]) rfl (lenOf pd_2 rfl) (con_3 l Z a0 hw hp21 n0 g2 g0) 1 12 57 rfl rfl rfl (by decide) (by decide) (by decide) (by decide) rfl ?_
  rintro _ _ ⟨rfl, rfl⟩
  refine W.iadd C at_202 ?_
  refine W.iload C at_203 rfl ?_
  refine W.iload C at_205 rfl ?_
  refine W.callS C (y' := y3) at_207 (tkw hw 12 rfl) (tkw hw 13 rfl) (tkw hw 3 rfl) (tkw hw 14 rfl) (by decide) (argsL := [(.int g3), (.int g0)]) (rest := [(.int (((1 : Int32) + (own_eq g1 g0)) + (own_eq g2 g0)))]) rfl (lenOf pd_2 rfl) (con_3 l Z a0 hw hp21 n0 g3 g0) 1 12 57 rfl rfl rfl (by decide) (by decide) (by decide) (by decide) rfl ?_
  rintro _ _ ⟨rfl, rfl⟩
  refine W.iadd C at_210 ?_
  refine W.istore C #[.val (.int p0), .val (.long p1), .second, .val (.int p2), .val (.int p3), .val (.int p4), .val (.int p5), .val (.int gg), .val (.int nn), .val (.int g0), .val (.int g1), .val (.int g2), .val (.int g3), .val (.ref ob1), .val (.ref ob11), .val (.ref ga), .val (.int (own_eq g1 g0)), .val (.int ((own_eq g2 g0) + (own_eq g2 g1))), .val (.int (((own_eq g3 g0) + (own_eq g3 g1)) + (own_eq g3 g2))), .val (.int ((((1 : Int32) + (own_eq g1 g0)) + (own_eq g2 g0)) + (own_eq g3 g0))), .unset, .unset, .unset, .unset, .unset] at_211 rfl ?_
  refine W.iconst C (1 : Int32) at_213 rfl ?_
  refine W.iload C at_214 rfl ?_
  refine W.iload C at_216 rfl ?_
  refine W.callS C (y' := y3) at_218 (tkw hw 12 rfl) (tkw hw 13 rfl) (tkw hw 3 rfl) (tkw hw 14 rfl) (by decide) (argsL := [(.int g0), (.int g1)]) (rest := [(.int (1 : Int32))]) rfl (lenOf pd_2 rfl) (con_3 l Z a0 hw hp21 n0 g0 g1) 1 12 57 rfl rfl rfl (by decide) (by decide) (by decide) (by decide) rfl ?_
  rintro _ _ ⟨rfl, rfl⟩
  refine W.iadd C at_221 ?_
  refine W.iload C at_222 rfl ?_
  refine W.iload C at_224 rfl ?_
  refine W.callS C (y' := y3) at_226 (tkw hw 12 rfl) (tkw hw 13 rfl) (tkw hw 3 rfl) (tkw hw 14 rfl) (by decide) (argsL := [(.int g2), (.int g1)]) (rest := [(.int ((1 : Int32) + (own_eq g0 g1)))]) rfl (lenOf pd_2 rfl) (con_3 l Z a0 hw hp21 n0 g2 g1) 1 12 57 rfl rfl rfl (by decide) (by decide) (by decide) (by decide) rfl ?_
  rintro _ _ ⟨rfl, rfl⟩
  refine W.iadd C at_229 ?_
  refine W.iload C at_230 rfl ?_
  refine W.iload C at_232 rfl ?_
  refine W.callS C (y' := y3) at_234 (tkw hw 12 rfl) (tkw hw 13 rfl) (tkw hw 3 rfl) (tkw hw 14 rfl) (by decide) (argsL := [(.int g3), (.int g1)]) (rest := [(.int (((1 : Int32) + (own_eq g0 g1)) + (own_eq g2 g1)))]) rfl (lenOf pd_2 rfl) (con_3 l Z a0 hw hp21 n0 g3 g1) 1 12 57 rfl rfl rfl (by decide) (by decide) (by decide) (by decide) rfl ?_
  rintro _ _ ⟨rfl, rfl⟩
  refine W.iadd C at_237 ?_
  refine W.istore C #[.val (.int p0), .val (.long p1), .second, .val (.int p2), .val (.int p3), .val (.int p4), .val (.int p5), .val (.int gg), .val (.int nn), .val (.int g0), .val (.int g1), .val (.int g2), .val (.int g3), .val (.ref ob1), .val (.ref ob11), .val (.ref ga), .val (.int (own_eq g1 g0)), .val (.int ((own_eq g2 g0) + (own_eq g2 g1))), .val (.int (((own_eq g3 g0) + (own_eq g3 g1)) + (own_eq g3 g2))), .val (.int ((((1 : Int32) + (own_eq g1 g0)) + (own_eq g2 g0)) + (own_eq g3 g0))), .val (.int ((((1 : Int32) + (own_eq g0 g1)) + (own_eq g2 g1)) + (own_eq g3 g1))), .unset, .unset, .unset, .unset] at_238 rfl ?_
  refine W.iconst C (1 : Int32) at_240 rfl ?_
  refine W.iload C at_241 rfl ?_
  refine W.iload C at_243 rfl ?_
  refine W.callS C (y' := y3) at_245 (tkw hw 12 rfl) (tkw hw 13 rfl) (tkw hw 3 rfl) (tkw hw 14 rfl) (by decide) (argsL := [(.int g0), (.int g2)]) (rest := [(.int (1 : Int32))]) rfl (lenOf pd_2 rfl) (con_3 l Z a0 hw hp21 n0 g0 g2) 1 12 57 rfl rfl rfl (by decide) (by decide) (by decide) (by decide) rfl ?_
  rintro _ _ ⟨rfl, rfl⟩
  refine W.iadd C at_248 ?_
  refine W.iload C at_249 rfl ?_
  refine W.iload C at_251 rfl ?_
  refine W.callS C (y' := y3) at_253 (tkw hw 12 rfl) (tkw hw 13 rfl) (tkw hw 3 rfl) (tkw hw 14 rfl) (by decide) (argsL := [(.int g1), (.int g2)]) (rest := [(.int ((1 : Int32) + (own_eq g0 g2)))]) rfl (lenOf pd_2 rfl) (con_3 l Z a0 hw hp21 n0 g1 g2) 1 12 57 rfl rfl rfl (by decide) (by decide) (by decide) (by decide) rfl ?_
  rintro _ _ ⟨rfl, rfl⟩
  refine W.iadd C at_256 ?_
  refine W.iload C at_257 rfl ?_
  refine W.iload C at_259 rfl ?_
  refine W.callS C (y' := y3) at_261 (tkw hw 12 rfl) (tkw hw 13 rfl) (tkw hw 3 rfl) (tkw hw 14 rfl) (by decide) (argsL := [(.int g3), (.int g2)]) (rest := [(.int (((1 : Int32) + (own_eq g0 g2)) + (own_eq g1 g2)))]) rfl (lenOf pd_2 rfl) (con_3 l Z a0 hw hp21 n0 g3 g2) 1 12 57 rfl rfl rfl (by decide) (by decide) (by decide) (by decide) rfl ?_
  rintro _ _ ⟨rfl, rfl⟩
  refine W.iadd C at_264 ?_
  refine W.istore C #[.val (.int p0), .val (.long p1), .second, .val (.int p2), .val (.int p3), .val (.int p4), .val (.int p5), .val (.int gg), .val (.int nn), .val (.int g0), .val (.int g1), .val (.int g2), .val (.int g3), .val (.ref ob1), .val (.ref ob11), .val (.ref ga), .val (.int (own_eq g1 g0)), .val (.int ((own_eq g2 g0) + (own_eq g2 g1))), .val (.int (((own_eq g3 g0) + (own_eq g3 g1)) + (own_eq g3 g2))), .val (.int ((((1 : Int32) + (own_eq g1 g0)) + (own_eq g2 g0)) + (own_eq g3 g0))), .val (.int ((((1 : Int32) + (own_eq g0 g1)) + (own_eq g2 g1)) + (own_eq g3 g1))), .val (.int ((((1 : Int32) + (own_eq g0 g2)) + (own_eq g1 g2)) + (own_eq g3 g2))), .unset, .unset, .unset] at_265 rfl ?_
  refine W.iconst C (1 : Int32) at_267 rfl ?_
  refine W.iload C at_268 rfl ?_
  refine W.iload C at_270 rfl ?_
  refine W.callS C (y' := y3) at_272 (tkw hw 12 rfl) (tkw hw 13 rfl) (tkw hw 3 rfl) (tkw hw 14 rfl) (by decide) (argsL := [(.int g0), (.int g3)]) (rest := [(.int (1 : Int32))]) rfl (lenOf pd_2 rfl) (con_3 l Z a0 hw hp21 n0 g0 g3) 1 12 57 rfl rfl rfl (by decide) (by decide) (by decide) (by decide) rfl ?_
  rintro _ _ ⟨rfl, rfl⟩
  refine W.iadd C at_275 ?_
  refine W.iload C at_276 rfl ?_
  refine W.iload C at_278 rfl ?_
  refine W.callS C (y' := y3) at_280 (tkw hw 12 rfl) (tkw hw 13 rfl) (tkw hw 3 rfl) (tkw hw 14 rfl) (by decide) (argsL := [(.int g1), (.int g3)]) (rest := [(.int ((1 : Int32) + (own_eq g0 g3)))]) rfl (lenOf pd_2 rfl) (con_3 l Z a0 hw hp21 n0 g1 g3) 1 12 57 rfl rfl rfl (by decide) (by decide) (by decide) (by decide) rfl ?_
  rintro _ _ ⟨rfl, rfl⟩
  refine W.iadd C at_283 ?_
  refine W.iload C at_284 rfl ?_
  refine W.iload C at_286 rfl ?_
  refine W.callS C (y' := y3) at_288 (tkw hw 12 rfl) (tkw hw 13 rfl) (tkw hw 3 rfl) (tkw hw 14 rfl) (by decide) (argsL := [(.int g2), (.int g3)]) (rest := [(.int (((1 : Int32) + (own_eq g0 g3)) + (own_eq g1 g3)))]) rfl (lenOf pd_2 rfl) (con_3 l Z a0 hw hp21 n0 g2 g3) 1 12 57 rfl rfl rfl (by decide) (by decide) (by decide) (by decide) rfl ?_
  rintro _ _ ⟨rfl, rfl⟩
  refine W.iadd C at_291 ?_
  refine W.istore C #[.val (.int p0), .val (.long p1), .second, .val (.int p2), .val (.int p3), .val (.int p4), .val (.int p5), .val (.int gg), .val (.int nn), .val (.int g0), .val (.int g1), .val (.int g2), .val (.int g3), .val (.ref ob1), .val (.ref ob11), .val (.ref ga), .val (.int (own_eq g1 g0)), .val (.int ((own_eq g2 g0) + (own_eq g2 g1))), .val (.int (((own_eq g3 g0) + (own_eq g3 g1)) + (own_eq g3 g2))), .val (.int ((((1 : Int32) + (own_eq g1 g0)) + (own_eq g2 g0)) + (own_eq g3 g0))), .val (.int ((((1 : Int32) + (own_eq g0 g1)) + (own_eq g2 g1)) + (own_eq g3 g1))), .val (.int ((((1 : Int32) + (own_eq g0 g2)) + (own_eq g1 g2)) + (own_eq g3 g2))), .val (.int ((((1 : Int32) + (own_eq g0 g3)) + (own_eq g1 g3)) + (own_eq g2 g3))), .unset, .unset] at_292 rfl ?_
  have J339 : ∀ nv : Int32, nv.toInt = own_p g0 + own_p g1 + own_p g2 + own_p g3 → W p l e room_1 s m #[(.int p0), (.long p1), (.int p2), (.int p3), (.int p4), (.int p5)] below meth c n0 (fun v _ => v = some (.int 1)) room_1.cells room_1.slots 12 57 hp21 339 #[.val (.int p0), .val (.long p1), .second, .val (.int p2), .val (.int p3), .val (.int p4), .val (.int p5), .val (.int gg), .val (.int nn), .val (.int g0), .val (.int g1), .val (.int g2), .val (.int g3), .val (.ref ob1), .val (.ref ob11), .val (.ref ga), .val (.int (own_eq g1 g0)), .val (.int ((own_eq g2 g0) + (own_eq g2 g1))), .val (.int (((own_eq g3 g0) + (own_eq g3 g1)) + (own_eq g3 g2))), .val (.int ((((1 : Int32) + (own_eq g1 g0)) + (own_eq g2 g0)) + (own_eq g3 g0))), .val (.int ((((1 : Int32) + (own_eq g0 g1)) + (own_eq g2 g1)) + (own_eq g3 g1))), .val (.int ((((1 : Int32) + (own_eq g0 g2)) + (own_eq g1 g2)) + (own_eq g3 g2))), .val (.int ((((1 : Int32) + (own_eq g0 g3)) + (own_eq g1 g3)) + (own_eq g2 g3))), .val (.int nv), .unset] [] := by
    intro nv hnv
    refine W.aload C at_339 rfl rfl ?_
    refine W.iconst C (0 : Int32) at_341 rfl ?_
    refine W.callS C (y' := y4) at_342 (tkw hw 15 rfl) (tkw hw 16 rfl) (tkw hw 3 rfl) (tkw hw 17 rfl) (by decide) (argsL := [(.ref ga), (.int (0 : Int32))]) (rest := []) rfl (lenOf pd_3 rfl) (con_4 l Z a0 hw hp21 n0 ga (0 : Int32) G rs cs hrl hG7 LG hA 0 rfl Z0) 0 12 57 rfl rfl rfl (by decide) (by decide) (by decide) (by decide) rfl ?_
    rintro _ _ ⟨rfl, rfl⟩
    refine W.aload C at_345 rfl rfl ?_
    refine W.iconst C (1 : Int32) at_347 rfl ?_
    refine W.callS C (y' := y4) at_348 (tkw hw 15 rfl) (tkw hw 16 rfl) (tkw hw 3 rfl) (tkw hw 17 rfl) (by decide) (argsL := [(.ref ga), (.int (1 : Int32))]) (rest := [(.int (own_len G cs 0))]) rfl (lenOf pd_3 rfl) (con_4 l Z a0 hw hp21 n0 ga (1 : Int32) G rs cs hrl hG7 LG hA 1 rfl Z0) 1 12 57 rfl rfl rfl (by decide) (by decide) (by decide) (by decide) rfl ?_
    rintro _ _ ⟨rfl, rfl⟩
    refine W.iadd C at_351 ?_
    refine W.aload C at_352 rfl rfl ?_
    refine W.iconst C (2 : Int32) at_354 rfl ?_
    refine W.callS C (y' := y4) at_355 (tkw hw 15 rfl) (tkw hw 16 rfl) (tkw hw 3 rfl) (tkw hw 17 rfl) (by decide) (argsL := [(.ref ga), (.int (2 : Int32))]) (rest := [(.int ((own_len G cs 0) + (own_len G cs 1)))]) rfl (lenOf pd_3 rfl) (con_4 l Z a0 hw hp21 n0 ga (2 : Int32) G rs cs hrl hG7 LG hA 2 rfl Z0) 1 12 57 rfl rfl rfl (by decide) (by decide) (by decide) (by decide) rfl ?_
    rintro _ _ ⟨rfl, rfl⟩
    refine W.iadd C at_358 ?_
    refine W.aload C at_359 rfl rfl ?_
    refine W.iconst C (3 : Int32) at_361 rfl ?_
    refine W.callS C (y' := y4) at_362 (tkw hw 15 rfl) (tkw hw 16 rfl) (tkw hw 3 rfl) (tkw hw 17 rfl) (by decide) (argsL := [(.ref ga), (.int (3 : Int32))]) (rest := [(.int (((own_len G cs 0) + (own_len G cs 1)) + (own_len G cs 2)))]) rfl (lenOf pd_3 rfl) (con_4 l Z a0 hw hp21 n0 ga (3 : Int32) G rs cs hrl hG7 LG hA 3 rfl Z0) 1 12 57 rfl rfl rfl (by decide) (by decide) (by decide) (by decide) rfl ?_
    rintro _ _ ⟨rfl, rfl⟩
    refine W.iadd C at_365 ?_
    refine W.aload C at_366 rfl rfl ?_
    refine W.iconst C (4 : Int32) at_368 rfl ?_
    refine W.callS C (y' := y4) at_369 (tkw hw 15 rfl) (tkw hw 16 rfl) (tkw hw 3 rfl) (tkw hw 17 rfl) (by decide) (argsL := [(.ref ga), (.int (4 : Int32))]) (rest := [(.int ((((own_len G cs 0) + (own_len G cs 1)) + (own_len G cs 2)) + (own_len G cs 3)))]) rfl (lenOf pd_3 rfl) (con_4 l Z a0 hw hp21 n0 ga (4 : Int32) G rs cs hrl hG7 LG hA 4 rfl Z0) 1 12 57 rfl rfl rfl (by decide) (by decide) (by decide) (by decide) rfl ?_
    rintro _ _ ⟨rfl, rfl⟩
    refine W.iadd C at_372 ?_
    refine W.aload C at_373 rfl rfl ?_
    refine W.iconst C (5 : Int32) at_375 rfl ?_
    refine W.callS C (y' := y4) at_376 (tkw hw 15 rfl) (tkw hw 16 rfl) (tkw hw 3 rfl) (tkw hw 17 rfl) (by decide) (argsL := [(.ref ga), (.int (5 : Int32))]) (rest := [(.int (((((own_len G cs 0) + (own_len G cs 1)) + (own_len G cs 2)) + (own_len G cs 3)) + (own_len G cs 4)))]) rfl (lenOf pd_3 rfl) (con_4 l Z a0 hw hp21 n0 ga (5 : Int32) G rs cs hrl hG7 LG hA 5 rfl Z0) 1 12 57 rfl rfl rfl (by decide) (by decide) (by decide) (by decide) rfl ?_
    rintro _ _ ⟨rfl, rfl⟩
    refine W.iadd C at_379 ?_
    refine W.aload C at_380 rfl rfl ?_
    refine W.bipush C (6 : Int32) at_382 rfl ?_
    refine W.callS C (y' := y4) at_384 (tkw hw 15 rfl) (tkw hw 16 rfl) (tkw hw 3 rfl) (tkw hw 17 rfl) (by decide) (argsL := [(.ref ga), (.int (6 : Int32))]) (rest := [(.int ((((((own_len G cs 0) + (own_len G cs 1)) + (own_len G cs 2)) + (own_len G cs 3)) + (own_len G cs 4)) + (own_len G cs 5)))]) rfl (lenOf pd_3 rfl) (con_4 l Z a0 hw hp21 n0 ga (6 : Int32) G rs cs hrl hG7 LG hA 6 rfl Z0) 1 12 57 rfl rfl rfl (by decide) (by decide) (by decide) (by decide) rfl ?_
    rintro _ _ ⟨rfl, rfl⟩
    refine W.iadd C at_387 ?_
    refine W.aload C at_388 rfl rfl ?_
    refine W.bipush C (7 : Int32) at_390 rfl ?_
    refine W.callS C (y' := y4) at_392 (tkw hw 15 rfl) (tkw hw 16 rfl) (tkw hw 3 rfl) (tkw hw 17 rfl) (by decide) (argsL := [(.ref ga), (.int (7 : Int32))]) (rest := [(.int (((((((own_len G cs 0) + (own_len G cs 1)) + (own_len G cs 2)) + (own_len G cs 3)) + (own_len G cs 4)) + (own_len G cs 5)) + (own_len G cs 6)))]) rfl (lenOf pd_3 rfl) (con_4 l Z a0 hw hp21 n0 ga (7 : Int32) G rs cs hrl hG7 LG hA 7 rfl Z0) 1 12 57 rfl rfl rfl (by decide) (by decide) (by decide) (by decide) rfl ?_
    rintro _ _ ⟨rfl, rfl⟩
    refine W.iadd C at_395 ?_
    refine W.istore C #[.val (.int p0), .val (.long p1), .second, .val (.int p2), .val (.int p3), .val (.int p4), .val (.int p5), .val (.int gg), .val (.int nn), .val (.int g0), .val (.int g1), .val (.int g2), .val (.int g3), .val (.ref ob1), .val (.ref ob11), .val (.ref ga), .val (.int (own_eq g1 g0)), .val (.int ((own_eq g2 g0) + (own_eq g2 g1))), .val (.int (((own_eq g3 g0) + (own_eq g3 g1)) + (own_eq g3 g2))), .val (.int ((((1 : Int32) + (own_eq g1 g0)) + (own_eq g2 g0)) + (own_eq g3 g0))), .val (.int ((((1 : Int32) + (own_eq g0 g1)) + (own_eq g2 g1)) + (own_eq g3 g1))), .val (.int ((((1 : Int32) + (own_eq g0 g2)) + (own_eq g1 g2)) + (own_eq g3 g2))), .val (.int ((((1 : Int32) + (own_eq g0 g3)) + (own_eq g1 g3)) + (own_eq g2 g3))), .val (.int nv), .val (.int ((((((((own_len G cs 0) + (own_len G cs 1)) + (own_len G cs 2)) + (own_len G cs 3)) + (own_len G cs 4)) + (own_len G cs 5)) + (own_len G cs 6)) + (own_len G cs 7)))] at_396 rfl ?_
    refine W.iload C at_398 rfl ?_
    refine W.iload C at_400 rfl ?_
    refine W.icmp_ne C 471 at_402 rfl (fun bq2 => absurd (Int32.toInt_inj.mp ((own_tot hG7 hok hD).trans hnv.symm)) bq2) (fun bq2 => ?_)
    refine W.aload C at_405 rfl rfl ?_
    refine W.iload C at_407 rfl ?_
    refine W.iconst C (0 : Int32) at_409 rfl ?_
    refine W.iload C at_410 rfl ?_
    refine W.iloadN C at_412 rfl ?_
    refine W.callS C (y' := y5) at_413 (tkw hw 18 rfl) (tkw hw 19 rfl) (tkw hw 3 rfl) (tkw hw 20 rfl) (by decide) (argsL := [(.ref ga), (.int g0), (.int (0 : Int32)), (.int ((((1 : Int32) + (own_eq g1 g0)) + (own_eq g2 g0)) + (own_eq g3 g0))), (.int p2)]) (rest := []) rfl (lenOf pd_4 rfl) (con_5 l Z a0 hw hp21 n0 ga g0 (0 : Int32) ((((1 : Int32) + (own_eq g1 g0)) + (own_eq g2 g0)) + (own_eq g3 g0)) p2 G rs cs hrl hG7 LG hA (g0.toInt.toNat) (own_cnt [g0, g1, g2, g3] 0 (g0.toInt.toNat)) (own_H0 hok hD hV) Z0) 0 12 57 rfl rfl rfl (by decide) (by decide) (by decide) (by decide) rfl ?_
    rintro _ _ ⟨rfl, rfl⟩
    refine W.if_eq C 471 at_416 rfl (fun b => absurd b (by decide)) (fun _ => ?_)
    refine W.aload C at_419 rfl rfl ?_
    refine W.iload C at_421 rfl ?_
    refine W.iload C at_423 rfl ?_
    refine W.iload C at_425 rfl ?_
    refine W.iload C at_427 rfl ?_
    refine W.callS C (y' := y5) at_429 (tkw hw 18 rfl) (tkw hw 19 rfl) (tkw hw 3 rfl) (tkw hw 20 rfl) (by decide) (argsL := [(.ref ga), (.int g1), (.int (own_eq g1 g0)), (.int ((((1 : Int32) + (own_eq g0 g1)) + (own_eq g2 g1)) + (own_eq g3 g1))), (.int p3)]) (rest := []) rfl (lenOf pd_4 rfl) (con_5 l Z a0 hw hp21 n0 ga g1 (own_eq g1 g0) ((((1 : Int32) + (own_eq g0 g1)) + (own_eq g2 g1)) + (own_eq g3 g1)) p3 G rs cs hrl hG7 LG hA (g1.toInt.toNat) (own_cnt [g0, g1, g2, g3] 1 (g1.toInt.toNat)) (own_H1 hok hD hV) Z0) 0 12 57 rfl rfl rfl (by decide) (by decide) (by decide) (by decide) rfl ?_
    rintro _ _ ⟨rfl, rfl⟩
    refine W.if_eq C 471 at_432 rfl (fun b => absurd b (by decide)) (fun _ => ?_)
    refine W.aload C at_435 rfl rfl ?_
    refine W.iload C at_437 rfl ?_
    refine W.iload C at_439 rfl ?_
    refine W.iload C at_441 rfl ?_
    refine W.iload C at_443 rfl ?_
    refine W.callS C (y' := y5) at_445 (tkw hw 18 rfl) (tkw hw 19 rfl) (tkw hw 3 rfl) (tkw hw 20 rfl) (by decide) (argsL := [(.ref ga), (.int g2), (.int ((own_eq g2 g0) + (own_eq g2 g1))), (.int ((((1 : Int32) + (own_eq g0 g2)) + (own_eq g1 g2)) + (own_eq g3 g2))), (.int p4)]) (rest := []) rfl (lenOf pd_4 rfl) (con_5 l Z a0 hw hp21 n0 ga g2 ((own_eq g2 g0) + (own_eq g2 g1)) ((((1 : Int32) + (own_eq g0 g2)) + (own_eq g1 g2)) + (own_eq g3 g2)) p4 G rs cs hrl hG7 LG hA (g2.toInt.toNat) (own_cnt [g0, g1, g2, g3] 2 (g2.toInt.toNat)) (own_H2 hok hD hV) Z0) 0 12 57 rfl rfl rfl (by decide) (by decide) (by decide) (by decide) rfl ?_
    rintro _ _ ⟨rfl, rfl⟩
    refine W.if_eq C 471 at_448 rfl (fun b => absurd b (by decide)) (fun _ => ?_)
    refine W.aload C at_451 rfl rfl ?_
    refine W.iload C at_453 rfl ?_
    refine W.iload C at_455 rfl ?_
    refine W.iload C at_457 rfl ?_
    refine W.iload C at_459 rfl ?_
    refine W.callS C (y' := y5) at_461 (tkw hw 18 rfl) (tkw hw 19 rfl) (tkw hw 3 rfl) (tkw hw 20 rfl) (by decide) (argsL := [(.ref ga), (.int g3), (.int (((own_eq g3 g0) + (own_eq g3 g1)) + (own_eq g3 g2))), (.int ((((1 : Int32) + (own_eq g0 g3)) + (own_eq g1 g3)) + (own_eq g2 g3))), (.int p5)]) (rest := []) rfl (lenOf pd_4 rfl) (con_5 l Z a0 hw hp21 n0 ga g3 (((own_eq g3 g0) + (own_eq g3 g1)) + (own_eq g3 g2)) ((((1 : Int32) + (own_eq g0 g3)) + (own_eq g1 g3)) + (own_eq g2 g3)) p5 G rs cs hrl hG7 LG hA (g3.toInt.toNat) (own_cnt [g0, g1, g2, g3] 3 (g3.toInt.toNat)) (own_H3 hok hD hV) Z0) 0 12 57 rfl rfl rfl (by decide) (by decide) (by decide) (by decide) rfl ?_
    rintro _ _ ⟨rfl, rfl⟩
    refine W.if_eq C 471 at_464 rfl (fun b => absurd b (by decide)) (fun _ => ?_)
    refine W.iconst C (1 : Int32) at_467 rfl ?_
    refine W.goto C 472 at_468 rfl ?_
    exact W.iret C at_472 (by simp) rfl (by decide) (by decide) rfl
  refine W.iload C at_294 rfl ?_
  refine W.if_lt C 303 at_296 rfl (fun bq3 => ?_) (fun bq3 => ?_)
  · skip
    refine W.iconst C (0 : Int32) at_303 rfl ?_
    refine W.iload C at_304 rfl ?_
    refine W.if_lt C 313 at_306 rfl (fun bq4 => ?_) (fun bq4 => ?_)
    · skip
      refine W.iconst C (0 : Int32) at_313 rfl ?_
      refine W.iaddV C (0 : Int32) at_314 (by decide) ?_
      refine W.iload C at_315 rfl ?_
      refine W.if_lt C 324 at_317 rfl (fun bq5 => ?_) (fun bq5 => ?_)
      · skip
        refine W.iconst C (0 : Int32) at_324 rfl ?_
        refine W.iaddV C (0 : Int32) at_325 (by decide) ?_
        refine W.iload C at_326 rfl ?_
        refine W.if_lt C 335 at_328 rfl (fun bq6 => ?_) (fun bq6 => ?_)
        · skip
          refine W.iconst C (0 : Int32) at_335 rfl ?_
          refine W.iaddV C (0 : Int32) at_336 (by decide) ?_
          refine W.istore C #[.val (.int p0), .val (.long p1), .second, .val (.int p2), .val (.int p3), .val (.int p4), .val (.int p5), .val (.int gg), .val (.int nn), .val (.int g0), .val (.int g1), .val (.int g2), .val (.int g3), .val (.ref ob1), .val (.ref ob11), .val (.ref ga), .val (.int (own_eq g1 g0)), .val (.int ((own_eq g2 g0) + (own_eq g2 g1))), .val (.int (((own_eq g3 g0) + (own_eq g3 g1)) + (own_eq g3 g2))), .val (.int ((((1 : Int32) + (own_eq g1 g0)) + (own_eq g2 g0)) + (own_eq g3 g0))), .val (.int ((((1 : Int32) + (own_eq g0 g1)) + (own_eq g2 g1)) + (own_eq g3 g1))), .val (.int ((((1 : Int32) + (own_eq g0 g2)) + (own_eq g1 g2)) + (own_eq g3 g2))), .val (.int ((((1 : Int32) + (own_eq g0 g3)) + (own_eq g1 g3)) + (own_eq g2 g3))), .val (.int (0 : Int32)), .unset] at_337 rfl ?_
          refine J339 _ ?_
          unfold own_p
          rw [Int32.lt_iff_toInt_lt] at bq3 bq4 bq5 bq6
          have z0 : (0 : Int32).toInt = 0 := rfl
          rw [if_neg (by omega), if_neg (by omega), if_neg (by omega), if_neg (by omega)]; rfl
        · skip
          refine W.iconst C (1 : Int32) at_331 rfl ?_
          refine W.goto C 336 at_332 rfl ?_
          refine W.iaddV C (1 : Int32) at_336 (by decide) ?_
          refine W.istore C #[.val (.int p0), .val (.long p1), .second, .val (.int p2), .val (.int p3), .val (.int p4), .val (.int p5), .val (.int gg), .val (.int nn), .val (.int g0), .val (.int g1), .val (.int g2), .val (.int g3), .val (.ref ob1), .val (.ref ob11), .val (.ref ga), .val (.int (own_eq g1 g0)), .val (.int ((own_eq g2 g0) + (own_eq g2 g1))), .val (.int (((own_eq g3 g0) + (own_eq g3 g1)) + (own_eq g3 g2))), .val (.int ((((1 : Int32) + (own_eq g1 g0)) + (own_eq g2 g0)) + (own_eq g3 g0))), .val (.int ((((1 : Int32) + (own_eq g0 g1)) + (own_eq g2 g1)) + (own_eq g3 g1))), .val (.int ((((1 : Int32) + (own_eq g0 g2)) + (own_eq g1 g2)) + (own_eq g3 g2))), .val (.int ((((1 : Int32) + (own_eq g0 g3)) + (own_eq g1 g3)) + (own_eq g2 g3))), .val (.int (1 : Int32)), .unset] at_337 rfl ?_
          refine J339 _ ?_
          unfold own_p
          rw [Int32.lt_iff_toInt_lt] at bq3 bq4 bq5 bq6
          have z0 : (0 : Int32).toInt = 0 := rfl
          rw [if_neg (by omega), if_neg (by omega), if_neg (by omega), if_pos (by omega)]; rfl
      · skip
        refine W.iconst C (1 : Int32) at_320 rfl ?_
        refine W.goto C 325 at_321 rfl ?_
        refine W.iaddV C (1 : Int32) at_325 (by decide) ?_
        refine W.iload C at_326 rfl ?_
        refine W.if_lt C 335 at_328 rfl (fun bq7 => ?_) (fun bq7 => ?_)
        · skip
          refine W.iconst C (0 : Int32) at_335 rfl ?_
          refine W.iaddV C (1 : Int32) at_336 (by decide) ?_
          refine W.istore C #[.val (.int p0), .val (.long p1), .second, .val (.int p2), .val (.int p3), .val (.int p4), .val (.int p5), .val (.int gg), .val (.int nn), .val (.int g0), .val (.int g1), .val (.int g2), .val (.int g3), .val (.ref ob1), .val (.ref ob11), .val (.ref ga), .val (.int (own_eq g1 g0)), .val (.int ((own_eq g2 g0) + (own_eq g2 g1))), .val (.int (((own_eq g3 g0) + (own_eq g3 g1)) + (own_eq g3 g2))), .val (.int ((((1 : Int32) + (own_eq g1 g0)) + (own_eq g2 g0)) + (own_eq g3 g0))), .val (.int ((((1 : Int32) + (own_eq g0 g1)) + (own_eq g2 g1)) + (own_eq g3 g1))), .val (.int ((((1 : Int32) + (own_eq g0 g2)) + (own_eq g1 g2)) + (own_eq g3 g2))), .val (.int ((((1 : Int32) + (own_eq g0 g3)) + (own_eq g1 g3)) + (own_eq g2 g3))), .val (.int (1 : Int32)), .unset] at_337 rfl ?_
          refine J339 _ ?_
          unfold own_p
          rw [Int32.lt_iff_toInt_lt] at bq3 bq4 bq5 bq7
          have z0 : (0 : Int32).toInt = 0 := rfl
          rw [if_neg (by omega), if_neg (by omega), if_pos (by omega), if_neg (by omega)]; rfl
        · skip
          refine W.iconst C (1 : Int32) at_331 rfl ?_
          refine W.goto C 336 at_332 rfl ?_
          refine W.iaddV C (2 : Int32) at_336 (by decide) ?_
          refine W.istore C #[.val (.int p0), .val (.long p1), .second, .val (.int p2), .val (.int p3), .val (.int p4), .val (.int p5), .val (.int gg), .val (.int nn), .val (.int g0), .val (.int g1), .val (.int g2), .val (.int g3), .val (.ref ob1), .val (.ref ob11), .val (.ref ga), .val (.int (own_eq g1 g0)), .val (.int ((own_eq g2 g0) + (own_eq g2 g1))), .val (.int (((own_eq g3 g0) + (own_eq g3 g1)) + (own_eq g3 g2))), .val (.int ((((1 : Int32) + (own_eq g1 g0)) + (own_eq g2 g0)) + (own_eq g3 g0))), .val (.int ((((1 : Int32) + (own_eq g0 g1)) + (own_eq g2 g1)) + (own_eq g3 g1))), .val (.int ((((1 : Int32) + (own_eq g0 g2)) + (own_eq g1 g2)) + (own_eq g3 g2))), .val (.int ((((1 : Int32) + (own_eq g0 g3)) + (own_eq g1 g3)) + (own_eq g2 g3))), .val (.int (2 : Int32)), .unset] at_337 rfl ?_
          refine J339 _ ?_
          unfold own_p
          rw [Int32.lt_iff_toInt_lt] at bq3 bq4 bq5 bq7
          have z0 : (0 : Int32).toInt = 0 := rfl
          rw [if_neg (by omega), if_neg (by omega), if_pos (by omega), if_pos (by omega)]; rfl
    · skip
      refine W.iconst C (1 : Int32) at_309 rfl ?_
      refine W.goto C 314 at_310 rfl ?_
      refine W.iaddV C (1 : Int32) at_314 (by decide) ?_
      refine W.iload C at_315 rfl ?_
      refine W.if_lt C 324 at_317 rfl (fun bq8 => ?_) (fun bq8 => ?_)
      · skip
        refine W.iconst C (0 : Int32) at_324 rfl ?_
        refine W.iaddV C (1 : Int32) at_325 (by decide) ?_
        refine W.iload C at_326 rfl ?_
        refine W.if_lt C 335 at_328 rfl (fun bq9 => ?_) (fun bq9 => ?_)
        · skip
          refine W.iconst C (0 : Int32) at_335 rfl ?_
          refine W.iaddV C (1 : Int32) at_336 (by decide) ?_
          refine W.istore C #[.val (.int p0), .val (.long p1), .second, .val (.int p2), .val (.int p3), .val (.int p4), .val (.int p5), .val (.int gg), .val (.int nn), .val (.int g0), .val (.int g1), .val (.int g2), .val (.int g3), .val (.ref ob1), .val (.ref ob11), .val (.ref ga), .val (.int (own_eq g1 g0)), .val (.int ((own_eq g2 g0) + (own_eq g2 g1))), .val (.int (((own_eq g3 g0) + (own_eq g3 g1)) + (own_eq g3 g2))), .val (.int ((((1 : Int32) + (own_eq g1 g0)) + (own_eq g2 g0)) + (own_eq g3 g0))), .val (.int ((((1 : Int32) + (own_eq g0 g1)) + (own_eq g2 g1)) + (own_eq g3 g1))), .val (.int ((((1 : Int32) + (own_eq g0 g2)) + (own_eq g1 g2)) + (own_eq g3 g2))), .val (.int ((((1 : Int32) + (own_eq g0 g3)) + (own_eq g1 g3)) + (own_eq g2 g3))), .val (.int (1 : Int32)), .unset] at_337 rfl ?_
          refine J339 _ ?_
          unfold own_p
          rw [Int32.lt_iff_toInt_lt] at bq3 bq4 bq8 bq9
          have z0 : (0 : Int32).toInt = 0 := rfl
          rw [if_neg (by omega), if_pos (by omega), if_neg (by omega), if_neg (by omega)]; rfl
        · skip
          refine W.iconst C (1 : Int32) at_331 rfl ?_
          refine W.goto C 336 at_332 rfl ?_
          refine W.iaddV C (2 : Int32) at_336 (by decide) ?_
          refine W.istore C #[.val (.int p0), .val (.long p1), .second, .val (.int p2), .val (.int p3), .val (.int p4), .val (.int p5), .val (.int gg), .val (.int nn), .val (.int g0), .val (.int g1), .val (.int g2), .val (.int g3), .val (.ref ob1), .val (.ref ob11), .val (.ref ga), .val (.int (own_eq g1 g0)), .val (.int ((own_eq g2 g0) + (own_eq g2 g1))), .val (.int (((own_eq g3 g0) + (own_eq g3 g1)) + (own_eq g3 g2))), .val (.int ((((1 : Int32) + (own_eq g1 g0)) + (own_eq g2 g0)) + (own_eq g3 g0))), .val (.int ((((1 : Int32) + (own_eq g0 g1)) + (own_eq g2 g1)) + (own_eq g3 g1))), .val (.int ((((1 : Int32) + (own_eq g0 g2)) + (own_eq g1 g2)) + (own_eq g3 g2))), .val (.int ((((1 : Int32) + (own_eq g0 g3)) + (own_eq g1 g3)) + (own_eq g2 g3))), .val (.int (2 : Int32)), .unset] at_337 rfl ?_
          refine J339 _ ?_
          unfold own_p
          rw [Int32.lt_iff_toInt_lt] at bq3 bq4 bq8 bq9
          have z0 : (0 : Int32).toInt = 0 := rfl
          rw [if_neg (by omega), if_pos (by omega), if_neg (by omega), if_pos (by omega)]; rfl
      · skip
        refine W.iconst C (1 : Int32) at_320 rfl ?_
        refine W.goto C 325 at_321 rfl ?_
        refine W.iaddV C (2 : Int32) at_325 (by decide) ?_
        refine W.iload C at_326 rfl ?_
        refine W.if_lt C 335 at_328 rfl (fun bq10 => ?_) (fun bq10 => ?_)
        · skip
          refine W.iconst C (0 : Int32) at_335 rfl ?_
          refine W.iaddV C (2 : Int32) at_336 (by decide) ?_
          refine W.istore C #[.val (.int p0), .val (.long p1), .second, .val (.int p2), .val (.int p3), .val (.int p4), .val (.int p5), .val (.int gg), .val (.int nn), .val (.int g0), .val (.int g1), .val (.int g2), .val (.int g3), .val (.ref ob1), .val (.ref ob11), .val (.ref ga), .val (.int (own_eq g1 g0)), .val (.int ((own_eq g2 g0) + (own_eq g2 g1))), .val (.int (((own_eq g3 g0) + (own_eq g3 g1)) + (own_eq g3 g2))), .val (.int ((((1 : Int32) + (own_eq g1 g0)) + (own_eq g2 g0)) + (own_eq g3 g0))), .val (.int ((((1 : Int32) + (own_eq g0 g1)) + (own_eq g2 g1)) + (own_eq g3 g1))), .val (.int ((((1 : Int32) + (own_eq g0 g2)) + (own_eq g1 g2)) + (own_eq g3 g2))), .val (.int ((((1 : Int32) + (own_eq g0 g3)) + (own_eq g1 g3)) + (own_eq g2 g3))), .val (.int (2 : Int32)), .unset] at_337 rfl ?_
          refine J339 _ ?_
          unfold own_p
          rw [Int32.lt_iff_toInt_lt] at bq3 bq4 bq8 bq10
          have z0 : (0 : Int32).toInt = 0 := rfl
          rw [if_neg (by omega), if_pos (by omega), if_pos (by omega), if_neg (by omega)]; rfl
        · skip
          refine W.iconst C (1 : Int32) at_331 rfl ?_
          refine W.goto C 336 at_332 rfl ?_
          refine W.iaddV C (3 : Int32) at_336 (by decide) ?_
          refine W.istore C #[.val (.int p0), .val (.long p1), .second, .val (.int p2), .val (.int p3), .val (.int p4), .val (.int p5), .val (.int gg), .val (.int nn), .val (.int g0), .val (.int g1), .val (.int g2), .val (.int g3), .val (.ref ob1), .val (.ref ob11), .val (.ref ga), .val (.int (own_eq g1 g0)), .val (.int ((own_eq g2 g0) + (own_eq g2 g1))), .val (.int (((own_eq g3 g0) + (own_eq g3 g1)) + (own_eq g3 g2))), .val (.int ((((1 : Int32) + (own_eq g1 g0)) + (own_eq g2 g0)) + (own_eq g3 g0))), .val (.int ((((1 : Int32) + (own_eq g0 g1)) + (own_eq g2 g1)) + (own_eq g3 g1))), .val (.int ((((1 : Int32) + (own_eq g0 g2)) + (own_eq g1 g2)) + (own_eq g3 g2))), .val (.int ((((1 : Int32) + (own_eq g0 g3)) + (own_eq g1 g3)) + (own_eq g2 g3))), .val (.int (3 : Int32)), .unset] at_337 rfl ?_
          refine J339 _ ?_
          unfold own_p
          rw [Int32.lt_iff_toInt_lt] at bq3 bq4 bq8 bq10
          have z0 : (0 : Int32).toInt = 0 := rfl
          rw [if_neg (by omega), if_pos (by omega), if_pos (by omega), if_pos (by omega)]; rfl
  · skip
    refine W.iconst C (1 : Int32) at_299 rfl ?_
    refine W.goto C 304 at_300 rfl ?_
    refine W.iload C at_304 rfl ?_
    refine W.if_lt C 313 at_306 rfl (fun bq11 => ?_) (fun bq11 => ?_)
    · skip
      refine W.iconst C (0 : Int32) at_313 rfl ?_
      refine W.iaddV C (1 : Int32) at_314 (by decide) ?_
      refine W.iload C at_315 rfl ?_
      refine W.if_lt C 324 at_317 rfl (fun bq12 => ?_) (fun bq12 => ?_)
      · skip
        refine W.iconst C (0 : Int32) at_324 rfl ?_
        refine W.iaddV C (1 : Int32) at_325 (by decide) ?_
        refine W.iload C at_326 rfl ?_
        refine W.if_lt C 335 at_328 rfl (fun bq13 => ?_) (fun bq13 => ?_)
        · skip
          refine W.iconst C (0 : Int32) at_335 rfl ?_
          refine W.iaddV C (1 : Int32) at_336 (by decide) ?_
          refine W.istore C #[.val (.int p0), .val (.long p1), .second, .val (.int p2), .val (.int p3), .val (.int p4), .val (.int p5), .val (.int gg), .val (.int nn), .val (.int g0), .val (.int g1), .val (.int g2), .val (.int g3), .val (.ref ob1), .val (.ref ob11), .val (.ref ga), .val (.int (own_eq g1 g0)), .val (.int ((own_eq g2 g0) + (own_eq g2 g1))), .val (.int (((own_eq g3 g0) + (own_eq g3 g1)) + (own_eq g3 g2))), .val (.int ((((1 : Int32) + (own_eq g1 g0)) + (own_eq g2 g0)) + (own_eq g3 g0))), .val (.int ((((1 : Int32) + (own_eq g0 g1)) + (own_eq g2 g1)) + (own_eq g3 g1))), .val (.int ((((1 : Int32) + (own_eq g0 g2)) + (own_eq g1 g2)) + (own_eq g3 g2))), .val (.int ((((1 : Int32) + (own_eq g0 g3)) + (own_eq g1 g3)) + (own_eq g2 g3))), .val (.int (1 : Int32)), .unset] at_337 rfl ?_
          refine J339 _ ?_
          unfold own_p
          rw [Int32.lt_iff_toInt_lt] at bq3 bq11 bq12 bq13
          have z0 : (0 : Int32).toInt = 0 := rfl
          rw [if_pos (by omega), if_neg (by omega), if_neg (by omega), if_neg (by omega)]; rfl
        · skip
          refine W.iconst C (1 : Int32) at_331 rfl ?_
          refine W.goto C 336 at_332 rfl ?_
          refine W.iaddV C (2 : Int32) at_336 (by decide) ?_
          refine W.istore C #[.val (.int p0), .val (.long p1), .second, .val (.int p2), .val (.int p3), .val (.int p4), .val (.int p5), .val (.int gg), .val (.int nn), .val (.int g0), .val (.int g1), .val (.int g2), .val (.int g3), .val (.ref ob1), .val (.ref ob11), .val (.ref ga), .val (.int (own_eq g1 g0)), .val (.int ((own_eq g2 g0) + (own_eq g2 g1))), .val (.int (((own_eq g3 g0) + (own_eq g3 g1)) + (own_eq g3 g2))), .val (.int ((((1 : Int32) + (own_eq g1 g0)) + (own_eq g2 g0)) + (own_eq g3 g0))), .val (.int ((((1 : Int32) + (own_eq g0 g1)) + (own_eq g2 g1)) + (own_eq g3 g1))), .val (.int ((((1 : Int32) + (own_eq g0 g2)) + (own_eq g1 g2)) + (own_eq g3 g2))), .val (.int ((((1 : Int32) + (own_eq g0 g3)) + (own_eq g1 g3)) + (own_eq g2 g3))), .val (.int (2 : Int32)), .unset] at_337 rfl ?_
          refine J339 _ ?_
          unfold own_p
          rw [Int32.lt_iff_toInt_lt] at bq3 bq11 bq12 bq13
          have z0 : (0 : Int32).toInt = 0 := rfl
          rw [if_pos (by omega), if_neg (by omega), if_neg (by omega), if_pos (by omega)]; rfl
      · skip
        refine W.iconst C (1 : Int32) at_320 rfl ?_
        refine W.goto C 325 at_321 rfl ?_
        refine W.iaddV C (2 : Int32) at_325 (by decide) ?_
        refine W.iload C at_326 rfl ?_
        refine W.if_lt C 335 at_328 rfl (fun bq14 => ?_) (fun bq14 => ?_)
        · skip
          refine W.iconst C (0 : Int32) at_335 rfl ?_
          refine W.iaddV C (2 : Int32) at_336 (by decide) ?_
          refine W.istore C #[.val (.int p0), .val (.long p1), .second, .val (.int p2), .val (.int p3), .val (.int p4), .val (.int p5), .val (.int gg), .val (.int nn), .val (.int g0), .val (.int g1), .val (.int g2), .val (.int g3), .val (.ref ob1), .val (.ref ob11), .val (.ref ga), .val (.int (own_eq g1 g0)), .val (.int ((own_eq g2 g0) + (own_eq g2 g1))), .val (.int (((own_eq g3 g0) + (own_eq g3 g1)) + (own_eq g3 g2))), .val (.int ((((1 : Int32) + (own_eq g1 g0)) + (own_eq g2 g0)) + (own_eq g3 g0))), .val (.int ((((1 : Int32) + (own_eq g0 g1)) + (own_eq g2 g1)) + (own_eq g3 g1))), .val (.int ((((1 : Int32) + (own_eq g0 g2)) + (own_eq g1 g2)) + (own_eq g3 g2))), .val (.int ((((1 : Int32) + (own_eq g0 g3)) + (own_eq g1 g3)) + (own_eq g2 g3))), .val (.int (2 : Int32)), .unset] at_337 rfl ?_
          refine J339 _ ?_
          unfold own_p
          rw [Int32.lt_iff_toInt_lt] at bq3 bq11 bq12 bq14
          have z0 : (0 : Int32).toInt = 0 := rfl
          rw [if_pos (by omega), if_neg (by omega), if_pos (by omega), if_neg (by omega)]; rfl
        · skip
          refine W.iconst C (1 : Int32) at_331 rfl ?_
          refine W.goto C 336 at_332 rfl ?_
          refine W.iaddV C (3 : Int32) at_336 (by decide) ?_
          refine W.istore C #[.val (.int p0), .val (.long p1), .second, .val (.int p2), .val (.int p3), .val (.int p4), .val (.int p5), .val (.int gg), .val (.int nn), .val (.int g0), .val (.int g1), .val (.int g2), .val (.int g3), .val (.ref ob1), .val (.ref ob11), .val (.ref ga), .val (.int (own_eq g1 g0)), .val (.int ((own_eq g2 g0) + (own_eq g2 g1))), .val (.int (((own_eq g3 g0) + (own_eq g3 g1)) + (own_eq g3 g2))), .val (.int ((((1 : Int32) + (own_eq g1 g0)) + (own_eq g2 g0)) + (own_eq g3 g0))), .val (.int ((((1 : Int32) + (own_eq g0 g1)) + (own_eq g2 g1)) + (own_eq g3 g1))), .val (.int ((((1 : Int32) + (own_eq g0 g2)) + (own_eq g1 g2)) + (own_eq g3 g2))), .val (.int ((((1 : Int32) + (own_eq g0 g3)) + (own_eq g1 g3)) + (own_eq g2 g3))), .val (.int (3 : Int32)), .unset] at_337 rfl ?_
          refine J339 _ ?_
          unfold own_p
          rw [Int32.lt_iff_toInt_lt] at bq3 bq11 bq12 bq14
          have z0 : (0 : Int32).toInt = 0 := rfl
          rw [if_pos (by omega), if_neg (by omega), if_pos (by omega), if_pos (by omega)]; rfl
    · skip
      refine W.iconst C (1 : Int32) at_309 rfl ?_
      refine W.goto C 314 at_310 rfl ?_
      refine W.iaddV C (2 : Int32) at_314 (by decide) ?_
      refine W.iload C at_315 rfl ?_
      refine W.if_lt C 324 at_317 rfl (fun bq15 => ?_) (fun bq15 => ?_)
      · skip
        refine W.iconst C (0 : Int32) at_324 rfl ?_
        refine W.iaddV C (2 : Int32) at_325 (by decide) ?_
        refine W.iload C at_326 rfl ?_
        refine W.if_lt C 335 at_328 rfl (fun bq16 => ?_) (fun bq16 => ?_)
        · skip
          refine W.iconst C (0 : Int32) at_335 rfl ?_
          refine W.iaddV C (2 : Int32) at_336 (by decide) ?_
          refine W.istore C #[.val (.int p0), .val (.long p1), .second, .val (.int p2), .val (.int p3), .val (.int p4), .val (.int p5), .val (.int gg), .val (.int nn), .val (.int g0), .val (.int g1), .val (.int g2), .val (.int g3), .val (.ref ob1), .val (.ref ob11), .val (.ref ga), .val (.int (own_eq g1 g0)), .val (.int ((own_eq g2 g0) + (own_eq g2 g1))), .val (.int (((own_eq g3 g0) + (own_eq g3 g1)) + (own_eq g3 g2))), .val (.int ((((1 : Int32) + (own_eq g1 g0)) + (own_eq g2 g0)) + (own_eq g3 g0))), .val (.int ((((1 : Int32) + (own_eq g0 g1)) + (own_eq g2 g1)) + (own_eq g3 g1))), .val (.int ((((1 : Int32) + (own_eq g0 g2)) + (own_eq g1 g2)) + (own_eq g3 g2))), .val (.int ((((1 : Int32) + (own_eq g0 g3)) + (own_eq g1 g3)) + (own_eq g2 g3))), .val (.int (2 : Int32)), .unset] at_337 rfl ?_
          refine J339 _ ?_
          unfold own_p
          rw [Int32.lt_iff_toInt_lt] at bq3 bq11 bq15 bq16
          have z0 : (0 : Int32).toInt = 0 := rfl
          rw [if_pos (by omega), if_pos (by omega), if_neg (by omega), if_neg (by omega)]; rfl
        · skip
          refine W.iconst C (1 : Int32) at_331 rfl ?_
          refine W.goto C 336 at_332 rfl ?_
          refine W.iaddV C (3 : Int32) at_336 (by decide) ?_
          refine W.istore C #[.val (.int p0), .val (.long p1), .second, .val (.int p2), .val (.int p3), .val (.int p4), .val (.int p5), .val (.int gg), .val (.int nn), .val (.int g0), .val (.int g1), .val (.int g2), .val (.int g3), .val (.ref ob1), .val (.ref ob11), .val (.ref ga), .val (.int (own_eq g1 g0)), .val (.int ((own_eq g2 g0) + (own_eq g2 g1))), .val (.int (((own_eq g3 g0) + (own_eq g3 g1)) + (own_eq g3 g2))), .val (.int ((((1 : Int32) + (own_eq g1 g0)) + (own_eq g2 g0)) + (own_eq g3 g0))), .val (.int ((((1 : Int32) + (own_eq g0 g1)) + (own_eq g2 g1)) + (own_eq g3 g1))), .val (.int ((((1 : Int32) + (own_eq g0 g2)) + (own_eq g1 g2)) + (own_eq g3 g2))), .val (.int ((((1 : Int32) + (own_eq g0 g3)) + (own_eq g1 g3)) + (own_eq g2 g3))), .val (.int (3 : Int32)), .unset] at_337 rfl ?_
          refine J339 _ ?_
          unfold own_p
          rw [Int32.lt_iff_toInt_lt] at bq3 bq11 bq15 bq16
          have z0 : (0 : Int32).toInt = 0 := rfl
          rw [if_pos (by omega), if_pos (by omega), if_neg (by omega), if_pos (by omega)]; rfl
      · skip
        refine W.iconst C (1 : Int32) at_320 rfl ?_
        refine W.goto C 325 at_321 rfl ?_
        refine W.iaddV C (3 : Int32) at_325 (by decide) ?_
        refine W.iload C at_326 rfl ?_
        refine W.if_lt C 335 at_328 rfl (fun bq17 => ?_) (fun bq17 => ?_)
        · skip
          refine W.iconst C (0 : Int32) at_335 rfl ?_
          refine W.iaddV C (3 : Int32) at_336 (by decide) ?_
          refine W.istore C #[.val (.int p0), .val (.long p1), .second, .val (.int p2), .val (.int p3), .val (.int p4), .val (.int p5), .val (.int gg), .val (.int nn), .val (.int g0), .val (.int g1), .val (.int g2), .val (.int g3), .val (.ref ob1), .val (.ref ob11), .val (.ref ga), .val (.int (own_eq g1 g0)), .val (.int ((own_eq g2 g0) + (own_eq g2 g1))), .val (.int (((own_eq g3 g0) + (own_eq g3 g1)) + (own_eq g3 g2))), .val (.int ((((1 : Int32) + (own_eq g1 g0)) + (own_eq g2 g0)) + (own_eq g3 g0))), .val (.int ((((1 : Int32) + (own_eq g0 g1)) + (own_eq g2 g1)) + (own_eq g3 g1))), .val (.int ((((1 : Int32) + (own_eq g0 g2)) + (own_eq g1 g2)) + (own_eq g3 g2))), .val (.int ((((1 : Int32) + (own_eq g0 g3)) + (own_eq g1 g3)) + (own_eq g2 g3))), .val (.int (3 : Int32)), .unset] at_337 rfl ?_
          refine J339 _ ?_
          unfold own_p
          rw [Int32.lt_iff_toInt_lt] at bq3 bq11 bq15 bq17
          have z0 : (0 : Int32).toInt = 0 := rfl
          rw [if_pos (by omega), if_pos (by omega), if_pos (by omega), if_neg (by omega)]; rfl
        · skip
          refine W.iconst C (1 : Int32) at_331 rfl ?_
          refine W.goto C 336 at_332 rfl ?_
          refine W.iaddV C (4 : Int32) at_336 (by decide) ?_
          refine W.istore C #[.val (.int p0), .val (.long p1), .second, .val (.int p2), .val (.int p3), .val (.int p4), .val (.int p5), .val (.int gg), .val (.int nn), .val (.int g0), .val (.int g1), .val (.int g2), .val (.int g3), .val (.ref ob1), .val (.ref ob11), .val (.ref ga), .val (.int (own_eq g1 g0)), .val (.int ((own_eq g2 g0) + (own_eq g2 g1))), .val (.int (((own_eq g3 g0) + (own_eq g3 g1)) + (own_eq g3 g2))), .val (.int ((((1 : Int32) + (own_eq g1 g0)) + (own_eq g2 g0)) + (own_eq g3 g0))), .val (.int ((((1 : Int32) + (own_eq g0 g1)) + (own_eq g2 g1)) + (own_eq g3 g1))), .val (.int ((((1 : Int32) + (own_eq g0 g2)) + (own_eq g1 g2)) + (own_eq g3 g2))), .val (.int ((((1 : Int32) + (own_eq g0 g3)) + (own_eq g1 g3)) + (own_eq g2 g3))), .val (.int (4 : Int32)), .unset] at_337 rfl ?_
          refine J339 _ ?_
          unfold own_p
          rw [Int32.lt_iff_toInt_lt] at bq3 bq11 bq15 bq17
          have z0 : (0 : Int32).toInt = 0 := rfl
          rw [if_pos (by omega), if_pos (by omega), if_pos (by omega), if_pos (by omega)]; rfl

set_option maxRecDepth 65536 in
set_option maxHeartbeats 40000000 in
theorem comes_1 {Post : Tables → Env → Array Value → State → Outcome → State → Prop} (hpost : ∀ tb e args s v u, (limb_1_1.after args s (.returned v) u = true ∧ limb_1_2.after args s (.returned v) u = true ∧ True) → FrameEnd s (.returned v) u (Jvm.fieldLocs frame_1_writes args s ++ Jvm.arrayLocs frame_1_arrays args s ++ Jvm.staticLocs frame_1_statics s) 32 192 → Post tb e args s (.returned v) u) :
    ArmFor flags0 classFile x code maxLocals ret World_1 tables_1 room_1 Calls_1 rest_1 Pre_1 Post := by
  intro l hfl _ _ p e ha hc hk s m args below hf hA hF happ hP
  obtain ⟨hcalls, hrest, hpre⟩ := hP
  obtain ⟨-, -, -, hnamed, -, -, -, hat⟩ := (Spec.applies_iff hf).mp happ
  obtain ⟨hg, hn⟩ := and_e (Cond.before_iff.mp (show (Jvm.Cond.and given_1 narrow_1).before args s = true from hpre))
  obtain ⟨gc, g0⟩ := and_e hg
  obtain ⟨i0h, g1⟩ := and_e g0
  obtain ⟨i1h, g2⟩ := and_e g1
  obtain ⟨i2h, g3⟩ := and_e g2
  obtain ⟨i3h, g4⟩ := and_e g3
  obtain ⟨i4h, g5⟩ := and_e g4
  obtain ⟨w0, w1, w2, w3, w4, w5, rfl⟩ : ∃ w0 w1 w2 w3 w4 w5 : Value, args = #[w0, w1, w2, w3, w4, w5] := by
    have hs : args.size = 6 := by simpa [Cond.value, given_1] using gc
    obtain ⟨L⟩ := args
    match L, hs with
    | [w0, w1, w2, w3, w4, w5], _ => exact ⟨w0, w1, w2, w3, w4, w5, rfl⟩
  have hw := fun d (hd : d ∈ tables_1) => atoms_spec (ws := Jvm.Cond.code x code maxLocals ret :: tables_1) hat d (List.mem_cons_of_mem _ hd)
  have hfit : Fit s := fun {y c} hc i hi => by
    obtain ⟨ha, rfl⟩ := Array.getElem?_eq_some_iff.mp hc
    have q := List.all_eq_true.mp ((Array.all_eq_true_iff_forall_mem.mp hF) _ (Array.getElem_mem ha)) i (List.mem_range.mpr hi)
    simpa [Array.getElem?_eq_getElem hi] using q
  obtain ⟨i0, ei0⟩ := is_v i0h
  obtain rfl : w0 = (.int i0) := Option.some.inj ei0
  obtain ⟨i1, ei1⟩ := isL_v i1h
  obtain rfl : w1 = (.long i1) := Option.some.inj ei1
  obtain ⟨i2, ei2⟩ := is_v i2h
  obtain rfl : w2 = (.int i2) := Option.some.inj ei2
  obtain ⟨i3, ei3⟩ := is_v i3h
  obtain rfl : w3 = (.int i3) := Option.some.inj ei3
  obtain ⟨i4, ei4⟩ := is_v i4h
  obtain rfl : w4 = (.int i4) := Option.some.inj ei4
  obtain ⟨i5, ei5⟩ := is_v g5
  obtain rfl : w5 = (.int i5) := Option.some.inj ei5
  obtain ⟨n, o, h1, h2, h3, _, L, rfl, ⟨rfl, N⟩, hq⟩ := (con_0 l s _ hw s.heap s.heap.size i0 i1 i2 i3 i4 i5 (Nat.le_refl _)) tables_1 p e ha hc hk s m _ below hf ((Spec.applies_iff_loose hf).mp happ).1 ⟨rfl, State.Warmed39.refl s, rfl⟩ trivial
  refine ⟨n, _, h1, h2, h3, hpost _ _ _ _ _ _ ⟨Cond.after_iff.mpr rfl, Cond.after_iff.mpr (eq_i res_at (Term.int_eval (1)) rfl), trivial⟩ ⟨hq.1, hq.2.1, (hq.2.2.sift fun y hy => Or.inr (N y hy)).mono (by decide) (by decide)⟩⟩
theorem main_1_1 : Claimed_1_1 := comes_1 fun _ _ _ _ _ _ h hF => ⟨h.1, hF⟩
theorem main_1_2 : Claimed_1_2 := comes_1 fun _ _ _ _ _ _ h hF => ⟨h.2.1, hF⟩
end Jvm.Pilot.@@N@@
namespace Jvm.Pilot.@@N@@
open Jvm Jvm.ClassFile Sem Op Lib Jvm.Free Jvm.Stand Jvm.Pilot.@@N@@.Jvm.D
/-! MADE BY PROGRAM (witnessworld.py) out of the Statement's table words and the real class files: 10 classes; the members and pool entries that the words name. The judged class is class 1, her method 1. -/
namespace start1
open Jvm.ClassFile
def u (s : String) : CpInfo := .utf8 (stringToUtf16 s)
/-- a pool by its gaps: so many unusable entries, then the entry; so many at the end -/
def gap : Nat → List CpInfo → List CpInfo
  | 0, r => r
  | n + 1, r => .unusable :: gap n r
def poolList (es : List (Nat × CpInfo)) (last : Nat) : List CpInfo := es.foldr (fun e r => gap e.1 (e.2 :: r)) (gap last [])
def pool (es : List (Nat × CpInfo)) (last : Nat) : Array CpInfo := ⟨poolList es last⟩
def fileOf (pool : Array CpInfo) (this : Nat) (attrs : Array Attribute := #[]) (ms : Array MethodInfo := #[]) (fl : Nat := 33) (sup : Nat := 0) (ifs : Array Nat := #[]) (fds : Array FieldInfo := #[]) : ClassFile where
  minorVersion := 0
  majorVersion := 65
  constantPool := pool
  accessFlags := fl
  thisClass := this
  superClass := sup
  interfaces := ifs
  fields := fds
  methods := ms
  attributes := attrs
def plain (name : String) (sup : Option ClassId) : Class where
  name := name
  kind := .ordinary
  loader := none
  accessFlags := 33
  super := sup
  interfaces := #[]
  cf := none
  fields := #[]
  methods := #[]
  instanceTypes := #[]
  staticTypes := #[]
  resolved := #[]
  callSites := []
  init := .initialized
  statics := none
  mirror := none

def pool0 : Array CpInfo := pool [(5, u "<init>"), (0, u "()V"), (1, .class_ 10), (1, u "java/lang/Object")] 113

def k0m0 : Method := { name := "<init>", desc := "()V", sig := { parameters := [], returnType := none }, accessFlags := 1, code := none }
/-- java/lang/Object -/
def k0 : Class := { plain "java/lang/Object" none with
  accessFlags := 33
  interfaces := #[]
  cf := some (fileOf pool0 8 #[] #[{ accessFlags := 1, nameIndex := 5, descriptorIndex := 6, attributes := #[] }] 33 0 #[] #[])
  fields := #[]
  methods := #[k0m0]
  instanceTypes := #[]
  staticTypes := #[]
  resolved := Array.replicate 124 none
  statics := none }

def pool1 : Array CpInfo := pool [(2, .class_ 4), (1, u "java/lang/Object"), (0, u "<init>"), (0, u "()V"), (2, .integer 2147483648), (0, .methodref 11 12), (0, .class_ 13), (0, .nameAndType 14 15), (0, u "com/example/dido/dido/DagGroupedPinLaw"), (0, u "pick"), (0, u "(JIII)I"), (0, .methodref 17 18), (0, .class_ 19), (0, .nameAndType 20 21), (0, u "com/example/dido/dido/Dag"), (0, u "grouped"), (0, u "(I[I[I)[[I"), (0, .methodref 11 23), (0, .nameAndType 24 25), (0, u "eq"), (0, u "(II)I"), (0, .methodref 11 27), (0, .nameAndType 28 29), (0, u "len"), (0, u "([[II)I"), (0, .methodref 11 31), (0, .nameAndType 32 33), (0, u "check"), (0, u "([[IIIII)Z"), (2, u "law"), (0, u "(IJIIII)Z")] 7

def k1m0 : Method := { name := "<init>", desc := "()V", sig := { parameters := [], returnType := none }, accessFlags := 1, code := none }
def k1c1 : Code := { maxStack := 5, maxLocals := 25, code := code, exceptionTable := #[], attributes := #[] }
def k1m1 : Method := { name := "law", desc := "(IJIIII)Z", sig := { parameters := [.int, .long, .int, .int, .int, .int], returnType := some .boolean }, accessFlags := 9, code := some k1c1 }
def k1c2 : Code := { maxStack := 4, maxLocals := 6, code := method_3_code, exceptionTable := #[], attributes := #[] }
def k1m2 : Method := { name := "pick", desc := "(JIII)I", sig := { parameters := [.long, .int, .int, .int], returnType := some .int }, accessFlags := 10, code := some k1c2 }
def k1c3 : Code := { maxStack := 2, maxLocals := 2, code := method_4_code, exceptionTable := #[], attributes := #[] }
def k1m3 : Method := { name := "eq", desc := "(II)I", sig := { parameters := [.int, .int], returnType := some .int }, accessFlags := 10, code := some k1c3 }
def k1c4 : Code := { maxStack := 2, maxLocals := 2, code := method_5_code, exceptionTable := #[], attributes := #[] }
def k1m4 : Method := { name := "len", desc := "([[II)I", sig := { parameters := [(.array (.array .int)), .int], returnType := some .int }, accessFlags := 10, code := some k1c4 }
def k1c5 : Code := { maxStack := 2, maxLocals := 5, code := method_6_code, exceptionTable := #[], attributes := #[] }
def k1m5 : Method := { name := "check", desc := "([[IIIII)Z", sig := { parameters := [(.array (.array .int)), .int, .int, .int, .int], returnType := some .boolean }, accessFlags := 10, code := some k1c5 }
/-- com/example/dido/dido/DagGroupedPinLaw -/
def k1 : Class := { plain "com/example/dido/dido/DagGroupedPinLaw" (some 0) with
  accessFlags := 49
  interfaces := #[]
  cf := some (fileOf pool1 11 #[] #[{ accessFlags := 1, nameIndex := 5, descriptorIndex := 6, attributes := #[] }, { accessFlags := 9, nameIndex := 36, descriptorIndex := 37, attributes := #[] }, { accessFlags := 10, nameIndex := 14, descriptorIndex := 15, attributes := #[] }, { accessFlags := 10, nameIndex := 24, descriptorIndex := 25, attributes := #[] }, { accessFlags := 10, nameIndex := 28, descriptorIndex := 29, attributes := #[] }, { accessFlags := 10, nameIndex := 32, descriptorIndex := 33, attributes := #[] }] 49 2 #[] #[])
  fields := #[]
  methods := #[k1m0, k1m1, k1m2, k1m3, k1m4, k1m5]
  instanceTypes := #[]
  staticTypes := #[]
  resolved := Array.replicate 45 none
  statics := none }

def pool2 : Array CpInfo := pool [(2, .class_ 4), (1, u "java/lang/Object"), (3, .class_ 10), (1, u "com/example/dido/dido/Dag"), (0, u "indices"), (0, u "Ljava/util/Map;"), (2, u "sources"), (0, u "[I"), (2, u "targets"), (2, u "start"), (0, u "I"), (2, u "reversed"), (0, u "[Z"), (2, u "successors"), (0, u "[[I"), (2, u "predecessors"), (2, u "leadsTo"), (2, u "forwardTargets"), (2, u "reversedTargets"), (2, u "order"), (78, u "grouped"), (0, u "(I[I[I)[[I"), (41, .class_ 16)] 47

def k2c0 : Code := { maxStack := 6, maxLocals := 8, code := prog_17_method_16_code, exceptionTable := #[], attributes := #[] }
def k2m0 : Method := { name := "grouped", desc := "(I[I[I)[[I", sig := { parameters := [.int, (.array .int), (.array .int)], returnType := some (.array (.array .int)) }, accessFlags := 8, code := some k2c0 }
/-- com/example/dido/dido/Dag -/
def k2 : Class := { plain "com/example/dido/dido/Dag" (some 0) with
  accessFlags := 48
  interfaces := #[]
  cf := some (fileOf pool2 8 #[] #[{ accessFlags := 8, nameIndex := 125, descriptorIndex := 126, attributes := #[] }] 48 2 #[] #[{ accessFlags := 18, nameIndex := 11, descriptorIndex := 12, attributes := #[] }, { accessFlags := 18, nameIndex := 15, descriptorIndex := 16, attributes := #[] }, { accessFlags := 18, nameIndex := 19, descriptorIndex := 16, attributes := #[] }, { accessFlags := 18, nameIndex := 22, descriptorIndex := 23, attributes := #[] }, { accessFlags := 18, nameIndex := 26, descriptorIndex := 27, attributes := #[] }, { accessFlags := 18, nameIndex := 30, descriptorIndex := 31, attributes := #[] }, { accessFlags := 18, nameIndex := 34, descriptorIndex := 31, attributes := #[] }, { accessFlags := 18, nameIndex := 37, descriptorIndex := 31, attributes := #[] }, { accessFlags := 18, nameIndex := 40, descriptorIndex := 31, attributes := #[] }, { accessFlags := 18, nameIndex := 43, descriptorIndex := 31, attributes := #[] }, { accessFlags := 18, nameIndex := 46, descriptorIndex := 16, attributes := #[] }])
  fields := #[{ name := "indices", type := (.object "java/util/Map"), accessFlags := 18, slot := 0, constantValue := 0 }, { name := "sources", type := (.array .int), accessFlags := 18, slot := 1, constantValue := 0 }, { name := "targets", type := (.array .int), accessFlags := 18, slot := 2, constantValue := 0 }, { name := "start", type := .int, accessFlags := 18, slot := 3, constantValue := 0 }, { name := "reversed", type := (.array .boolean), accessFlags := 18, slot := 4, constantValue := 0 }, { name := "successors", type := (.array (.array .int)), accessFlags := 18, slot := 5, constantValue := 0 }, { name := "predecessors", type := (.array (.array .int)), accessFlags := 18, slot := 6, constantValue := 0 }, { name := "leadsTo", type := (.array (.array .int)), accessFlags := 18, slot := 7, constantValue := 0 }, { name := "forwardTargets", type := (.array (.array .int)), accessFlags := 18, slot := 8, constantValue := 0 }, { name := "reversedTargets", type := (.array (.array .int)), accessFlags := 18, slot := 9, constantValue := 0 }, { name := "order", type := (.array .int), accessFlags := 18, slot := 10, constantValue := 0 }]
  methods := #[k2m0]
  instanceTypes := #[(.object "java/util/Map"), (.array .int), (.array .int), .int, (.array .boolean), (.array (.array .int)), (.array (.array .int)), (.array (.array .int)), (.array (.array .int)), (.array (.array .int)), (.array .int)]
  staticTypes := #[]
  resolved := Array.replicate 216 none
  statics := none }

def pool3 : Array CpInfo := pool [(1, u "java/lang/Cloneable"), (0, .class_ 1), (0, u "java/lang/Object"), (0, .class_ 3)] 3

/-- java/lang/Cloneable -/
def k3 : Class := { plain "java/lang/Cloneable" (some 0) with
  accessFlags := 1537
  interfaces := #[]
  cf := some (fileOf pool3 2 #[] #[] 1537 4 #[] #[])
  fields := #[]
  methods := #[]
  instanceTypes := #[]
  staticTypes := #[]
  resolved := Array.replicate 8 none
  statics := none }

def pool4 : Array CpInfo := pool [(1, u "java/io/Serializable"), (0, .class_ 1), (0, u "java/lang/Object"), (0, .class_ 3)] 3

/-- java/io/Serializable -/
def k4 : Class := { plain "java/io/Serializable" (some 0) with
  accessFlags := 1537
  interfaces := #[]
  cf := some (fileOf pool4 2 #[] #[] 1537 4 #[] #[])
  fields := #[]
  methods := #[]
  instanceTypes := #[]
  staticTypes := #[]
  resolved := Array.replicate 8 none
  statics := none }

/-- the primitive byte -/
def k5 : Class := { plain "byte" none with kind := .primitive 'B', accessFlags := 0x411 }
/-- [B -/
def k6 : Class := { plain "[B" (some 0) with kind := .array 5 .byte, interfaces := #[3, 4], accessFlags := 1041 }

/-- the primitive int -/
def k7 : Class := { plain "int" none with kind := .primitive 'I', accessFlags := 0x411 }
/-- [I -/
def k8 : Class := { plain "[I" (some 0) with kind := .array 7 .int, interfaces := #[3, 4], accessFlags := 1041 }

/-- [[I -/
def k9 : Class := { plain "[[I" (some 0) with kind := .array 8 (.array .int), interfaces := #[3, 4], accessFlags := 1041 }

def heap : Heap := #[{ cls := 9, slots := #[.null], vm := .none }]
def classes : Array Class := #[k0, k1, k2, k3, k4, k5, k6, k7, k8, k9]
def interned : List (Array UInt16 × Addr) := []
def slotsUsed : Nat := 1
def theMethod : MethodId := ⟨1, 1⟩
def args0 : Array Value := #[.int 3, .long 66051, .int 1, .int 2, .int 3, .int 4]
def aboutOver (below : List Frame) : State where
  vm := { classes := classes, interned := interned.toArray }
  heap := heap
  slotsUsed := slotsUsed
  threads := #[{ frames := .invoking theMethod args0 :: below }]
def below0 : List Frame := [.native { method := ⟨0, 0⟩, args := #[] }]
def about1 : State := aboutOver below0
def p0 : Program := .bare "" "" ""
def e0 : Env := launch0.env 0 0 0
theorem w_frames : about1.frames = Frame.invoking theMethod args0 :: below0 := rfl
set_option maxRecDepth 65536 in
theorem w_args : argsFit about1.vm theMethod args0 = true := by decide +kernel
set_option maxRecDepth 65536 in
theorem w_heap : heapFits about1 = true := by decide +kernel
set_option maxRecDepth 65536 in
theorem w_runnable : about1.curStatus? = some .runnable := by decide +kernel
set_option maxRecDepth 65536 in
theorem w_alone : about1.alone = true := by decide +kernel
set_option maxRecDepth 65536 in
theorem w_named : about1.methodNamed? x = some theMethod := by decide +kernel
set_option maxRecDepth 65536 in
theorem w_hears : about1.hears theMethod below0 = true := by decide +kernel
set_option maxRecDepth 65536 in
theorem w_ripe : about1.ripe theMethod args0 below0 = true := by decide +kernel
theorem w_running : about1.status = .running := rfl
set_option maxRecDepth 65536 in
theorem w_room : about1.hasRoom e0.platform room_1 = true :=
  launch0.hasRoom_least _ room_1 (by decide +kernel) (by decide +kernel) (by decide +kernel) (by decide +kernel) (by decide +kernel) (by decide +kernel)
theorem allAtoms_all (ts : List Jvm.Cond) (a : Array Jvm.Value) (st : Jvm.State) : (allAtoms ts).before a st = ts.all (fun c => c.before a st) := by
  induction ts with
  | nil => rfl
  | cons c t ih =>
    show (Jvm.Cond.and c (allAtoms t)).before a st = _
    rw [Jvm.Cond.before_and, ih, List.all_cons]
def words1 : List Jvm.Cond := Jvm.Cond.code x code maxLocals ret :: tables_1
/-- a 'code' word, met by the world's own term for the bytes: nothing is compared byte by byte -/
theorem code_word {y : MethodName} {bytes : ByteArray} {mx : Nat} {rt : Option FieldType} {a : Array Value} {s : State} {m : MethodId} {meth : Method} {c : Code} (h1 : s.methodNamed? y = some m) (h2 : s.vm.method? m = some meth) (h3 : meth.code = some c) (h4 : c.code = bytes)
    (h5 : (c.maxLocals == mx && c.exceptionTable.isEmpty && decide (c.maxStack ≤ mostOperands) && decide (meth.sig.returnType = rt) && !meth.locks && decide (parseMethodDescriptor y.desc = some meth.sig)) = true) : (Jvm.Cond.code y bytes mx rt).before a s = true := by
  simp only [Bool.and_eq_true, beq_iff_eq, Bool.not_eq_true', decide_eq_true_eq] at h5
  obtain ⟨⟨⟨⟨⟨g1, g2⟩, g3⟩, g4⟩, g5⟩, g6⟩ := h5
  simp [Cond.before, Cond.holds, Cond.value, h1, h2, h3, h4, g1, g2, g3, g4, g5, g6]
def isCode : Jvm.Cond → Bool
  | .code _ _ _ _ => true
  | _ => false
theorem all_split {L : List Jvm.Cond} {P : Jvm.Cond → Bool} (h1 : L.all (fun c => isCode c || P c) = true) (h2 : ∀ c ∈ L.filter isCode, P c = true) : L.all P = true := by
  refine List.all_eq_true.mpr fun c hc => ?_
  have h := List.all_eq_true.mp h1 c hc
  rcases Bool.eq_false_or_eq_true (isCode c) with hi | hi
  · exact h2 c (List.mem_filter.mpr ⟨hc, hi⟩)
  · simpa [hi] using h
set_option maxRecDepth 65536 in
theorem w_c0 : (Jvm.Cond.code x code maxLocals ret).before args0 about1 = true := code_word (m := ⟨1, 1⟩) (meth := k1m1) (c := k1c1) (by decide +kernel) rfl rfl rfl (by decide +kernel)
set_option maxRecDepth 65536 in
theorem w_c1 : (Jvm.Cond.code ({ cls := "com/example/dido/dido/DagGroupedPinLaw", name := "pick", desc := "(JIII)I" } : Jvm.MethodName) method_3_code (6 : Nat) (Option.some Jvm.ClassFile.FieldType.int)).before args0 about1 = true := code_word (m := ⟨1, 2⟩) (meth := k1m2) (c := k1c2) (by decide +kernel) rfl rfl rfl (by decide +kernel)
set_option maxRecDepth 65536 in
theorem w_c2 : (Jvm.Cond.code ({ cls := "com/example/dido/dido/Dag", name := "grouped", desc := "(I[I[I)[[I" } : Jvm.MethodName) prog_17_method_16_code (8 : Nat) (Option.some (Jvm.ClassFile.FieldType.array (Jvm.ClassFile.FieldType.array Jvm.ClassFile.FieldType.int)))).before args0 about1 = true := code_word (m := ⟨2, 0⟩) (meth := k2m0) (c := k2c0) (by decide +kernel) rfl rfl rfl (by decide +kernel)
set_option maxRecDepth 65536 in
theorem w_c3 : (Jvm.Cond.code ({ cls := "com/example/dido/dido/DagGroupedPinLaw", name := "eq", desc := "(II)I" } : Jvm.MethodName) method_4_code (2 : Nat) (Option.some Jvm.ClassFile.FieldType.int)).before args0 about1 = true := code_word (m := ⟨1, 3⟩) (meth := k1m3) (c := k1c3) (by decide +kernel) rfl rfl rfl (by decide +kernel)
set_option maxRecDepth 65536 in
theorem w_c4 : (Jvm.Cond.code ({ cls := "com/example/dido/dido/DagGroupedPinLaw", name := "len", desc := "([[II)I" } : Jvm.MethodName) method_5_code (2 : Nat) (Option.some Jvm.ClassFile.FieldType.int)).before args0 about1 = true := code_word (m := ⟨1, 4⟩) (meth := k1m4) (c := k1c4) (by decide +kernel) rfl rfl rfl (by decide +kernel)
set_option maxRecDepth 65536 in
theorem w_c5 : (Jvm.Cond.code ({ cls := "com/example/dido/dido/DagGroupedPinLaw", name := "check", desc := "([[IIIII)Z" } : Jvm.MethodName) method_6_code (5 : Nat) (Option.some Jvm.ClassFile.FieldType.boolean)).before args0 about1 = true := code_word (m := ⟨1, 5⟩) (meth := k1m5) (c := k1c5) (by decide +kernel) rfl rfl rfl (by decide +kernel)
def codes1 : List Jvm.Cond := [Jvm.Cond.code x code maxLocals ret, Jvm.Cond.code ({ cls := "com/example/dido/dido/DagGroupedPinLaw", name := "pick", desc := "(JIII)I" } : Jvm.MethodName) method_3_code (6 : Nat) (Option.some Jvm.ClassFile.FieldType.int), Jvm.Cond.code ({ cls := "com/example/dido/dido/Dag", name := "grouped", desc := "(I[I[I)[[I" } : Jvm.MethodName) prog_17_method_16_code (8 : Nat) (Option.some (Jvm.ClassFile.FieldType.array (Jvm.ClassFile.FieldType.array Jvm.ClassFile.FieldType.int))), Jvm.Cond.code ({ cls := "com/example/dido/dido/DagGroupedPinLaw", name := "eq", desc := "(II)I" } : Jvm.MethodName) method_4_code (2 : Nat) (Option.some Jvm.ClassFile.FieldType.int), Jvm.Cond.code ({ cls := "com/example/dido/dido/DagGroupedPinLaw", name := "len", desc := "([[II)I" } : Jvm.MethodName) method_5_code (2 : Nat) (Option.some Jvm.ClassFile.FieldType.int), Jvm.Cond.code ({ cls := "com/example/dido/dido/DagGroupedPinLaw", name := "check", desc := "([[IIIII)Z" } : Jvm.MethodName) method_6_code (5 : Nat) (Option.some Jvm.ClassFile.FieldType.boolean)]
set_option maxRecDepth 65536 in
theorem codes_eq : words1.filter isCode = codes1 := rfl
theorem w_codes : ∀ c ∈ words1.filter isCode, c.before args0 about1 = true := by
  rw [codes_eq]
  intro c hc
  simp only [codes1, List.mem_cons, List.not_mem_nil, or_false] at hc
  rcases hc with rfl | rfl | rfl | rfl | rfl | rfl
  · exact w_c0
  · exact w_c1
  · exact w_c2
  · exact w_c3
  · exact w_c4
  · exact w_c5
set_option maxRecDepth 65536 in
theorem w_t1 : words1.all (fun c => isCode c || c.before args0 about1) = true := by decide +kernel
theorem w_tables : (allAtoms (Jvm.Cond.code x code maxLocals ret :: tables_1)).before args0 about1 = true := by
  rw [allAtoms_all]
  show words1.all (fun c => c.before args0 about1) = true
  refine all_split ?_ w_codes
  rw [w_t1]
set_option maxRecDepth 65536 in
theorem w_case : (Jvm.Cond.and given_1 narrow_1).before args0 about1 = true := by decide +kernel
theorem w_applies : (headSpec (Jvm.Cond.code x code maxLocals ret :: tables_1) room_1).applies x e0.platform about1 = true :=
  (Spec.applies_iff w_frames).mpr ⟨w_running, w_runnable, w_alone, w_named, w_hears, w_ripe, w_room, w_tables⟩
theorem atStart : AtStart classFile x code maxLocals ret World_1 tables_1 room_1 Calls_1 rest_1 Pre_1 launch0 p0 e0 about1 theMethod args0 below0 :=
  ⟨lists_1, trivial, launch0.admits_env _ _ _, launch0.least_env, fairChoices_fair.cas, fairChoices_fair.clock, w_frames, w_args, w_heap, w_applies, trivial, trivial, w_case⟩
end start1
theorem witness_1 : WitnessClaimed_1 := ⟨start1.p0, start1.e0, start1.about1, start1.theMethod, start1.args0, start1.below0, start1.atStart⟩
end Jvm.Pilot.@@N@@
