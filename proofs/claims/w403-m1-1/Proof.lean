import JvmDerived
import JvmDerived.Pilot.@@N@@Statement
import JvmDerived.Pilot.@@N@@Code
set_option linter.unusedVariables false
set_option linter.unusedSimpArgs false
namespace Jvm.OwnKit
open Jvm Sem ClassFile Op Lib Jvm.Stand Jvm.Free Jvm.LawKit Jvm.RoadKit
/-- what a body's walk knows of its frame throughout -/
def Cx (p : Program) (s : State) (m : MethodId) (meth : Method) (c : Code) (Z : State) (y : MethodName) (bytes : ByteArray) (ml : Nat) (ret : Option FieldType) : Prop :=
  p.tables.exec = Jvm.exec ∧ Z.Warmed39 s.vm ∧ s.vm.findClass y.cls = some m.cls ∧ c.code = bytes ∧ c.maxLocals = ml ∧ meth.sig.returnType = ret ∧ meth.locks = false ∧ meth.name = y.name
/-- from the heap h, k cells and n slots made so far, the frame at pc with these locals and this stack comes to its end, and Q holds of the result and the last heap -/
def W (p : Program) (l : Launch) (e : Env) (R : Room) (s : State) (m : MethodId) (args : Array Value) (below : List Frame) (meth : Method) (c : Code) (n0 : Nat) (Q : Option Value → Heap → Prop) (kc ks : Nat)
    (k n : Nat) (h : Heap) (pc : Nat) (ls : Array Slot) (st : List Value) : Prop :=
  ∀ (T : State) (locs : List Loc), Stand p l e R s m args below meth c T locs k n → T.heap = h → Fr n0 locs →
    ∃ s₂ o, Steps p.tables e below (T.setTop (mkF m pc ls st)) s₂ ∧ s₂.status = .running ∧ Ended s₂ below o ∧ ∃ v L, o = .returned v ∧ (Q v s₂.heap ∧ Fr n0 L) ∧ FrameEnd s o s₂ L kc ks
/-- a body's contract -/
def Con (l : Launch) (Z : State) (y : MethodName) (bytes : ByteArray) (ml : Nat) (ret : Option FieldType) (rm : Room) (as' : Array Value) (h0 : Heap) (n0 : Nat) (Q : Option Value → Heap → Prop) : Prop :=
  ∀ ws : List Jvm.Cond, MetFree l y (head1 (Jvm.Cond.code y bytes ml ret :: ws) rm) (fun a U => a = as' ∧ Z.Warmed39 U.vm ∧ U.heap = h0) (fun _ _ _ _ _ => True) (fun _ U o U' => ∃ v L, o = .returned v ∧ (Q v U'.heap ∧ Fr n0 L) ∧ FrameEnd U o U' L rm.cells rm.slots)
/-- it returns v and leaves the heap -/
def Pu (v : Option Value) (h : Heap) : Option Value → Heap → Prop := fun v' h' => v' = v ∧ h = h'
section
variable {p : Program} {l : Launch} {e : Env} {R : Room} {s : State} {m : MethodId} {args : Array Value} {below : List Frame} {meth : Method} {c : Code} {Z : State} {y : MethodName} {bytes : ByteArray} {ml : Nat} {ret : Option FieldType} {n0 : Nat} {Q : Option Value → Heap → Prop} {kc ks k n : Nat} {h : Heap} {pc : Nat} {ls : Array Slot} {st : List Value} {a0 : Array Value}
theorem Cx.a (C : Cx p s m meth c Z y bytes ml ret) {pc : Nat} {r : Except ClassFile.DecodeError (ClassFile.Instr × Nat)} (h2 : ClassFile.decode bytes pc = r) : ClassFile.decode c.code pc = r := C.2.2.2.1 ▸ h2
theorem Con.of {rm : Room} {as' : Array Value} {h0 : Heap} (hpn : plainFor y = true) {ls : Array Slot} (hent : ∀ m, entryFrame m as' ml = mkF m 0 ls [])
    (hW : ∀ p e s m below meth c, Cx p s m meth c Z y bytes ml ret → W p l e rm s m as' below meth c n0 Q rm.cells rm.slots 0 0 h0 0 ls []) : Con l Z y bytes ml ret rm as' h0 n0 Q := by
  intro ws
  refine MetFree.of_bodySF hpn hisR ?_
  intro p e s m args below meth c s₁ Bd hml0 hP hK
  obtain ⟨rfl, hZ, hh⟩ := hP
  have X0 : Stand p l e rm s m _ below meth c s₁ [] 0 0 := Stand.of_body Bd
  have e0 : s₁.heap = h0 := by rw [← hh, Bd.state]; rfl
  obtain ⟨s₂, o, h1, h2⟩ := hW p e s m below meth c ⟨Bd.exec, hZ, findClass_of_methodNamed Bd.named, Bd.bytes, hml0, Bd.returns, Bd.notSynchronized, (name_of_methodNamed Bd.named Bd.method).1⟩ s₁ [] X0 e0 (Fr.nil n0)
  exact ⟨s₂, o, castTop (hent m) h1, h2⟩
theorem W.lift {pc' : Nat} {ls' : Array Slot} {st' : List Value} (f : ∀ T target, At T m c below → Steps p.tables e below (T.setTop (mkF m pc' ls' st')) target → Steps p.tables e below (T.setTop (mkF m pc ls st)) target) (K : W p l e R s m args below meth c n0 Q kc ks k n h pc' ls' st') : W p l e R s m args below meth c n0 Q kc ks k n h pc ls st := fun T locs X eT N => by
  obtain ⟨s₂, o, h1, h2⟩ := K T locs X eT N
  exact ⟨s₂, o, f T _ X.here h1, h2⟩
theorem W.heap {h' : Heap} (q : h = h') (K : W p l e R s m args below meth c n0 Q kc ks k n h' pc ls st) : W p l e R s m args below meth c n0 Q kc ks k n h pc ls st := q ▸ K
theorem W.room {k' n' : Nat} (hk : k ≤ k') (hn : n ≤ n') (K : W p l e R s m args below meth c n0 Q kc ks k' n' h pc ls st) : W p l e R s m args below meth c n0 Q kc ks k n h pc ls st := fun T locs X eT N => K T locs ⟨X.admits, X.cas, X.clock, X.frames, X.room, X.hears, X.method, X.code, X.here, X.tail, X.warmed, X.limits, X.bytes, X.same.mono hk hn⟩ eT N
theorem W.iaddV (C : Cx p s m meth c Z y bytes ml ret) {u v : Int32} (z : Int32) (d : decode bytes pc = .ok (.iadd, 1)) (hz : (u + v) = z) (K : W p l e R s m args below meth c n0 Q kc ks k n h (pc + 1) ls (.int z :: st)) : W p l e R s m args below meth c n0 Q kc ks k n h pc ls (.int v :: .int u :: st) :=
  W.lift (fun T t H S => XS.iadd H C.1 rfl (C.a d) rfl (by subst hz; exact S)) K
theorem W.iadd (C : Cx p s m meth c Z y bytes ml ret) {u v : Int32} (d : decode bytes pc = .ok (.iadd, 1)) (K : W p l e R s m args below meth c n0 Q kc ks k n h (pc + 1) ls (.int (u + v) :: st)) : W p l e R s m args below meth c n0 Q kc ks k n h pc ls (.int v :: .int u :: st) :=
  W.lift (fun T t H S => XS.iadd H C.1 rfl (C.a d) rfl S) K
theorem W.isubV (C : Cx p s m meth c Z y bytes ml ret) {u v : Int32} (z : Int32) (d : decode bytes pc = .ok (.isub, 1)) (hz : (u - v) = z) (K : W p l e R s m args below meth c n0 Q kc ks k n h (pc + 1) ls (.int z :: st)) : W p l e R s m args below meth c n0 Q kc ks k n h pc ls (.int v :: .int u :: st) :=
  W.lift (fun T t H S => XS.isub H C.1 rfl (C.a d) rfl (by subst hz; exact S)) K
theorem W.isub (C : Cx p s m meth c Z y bytes ml ret) {u v : Int32} (d : decode bytes pc = .ok (.isub, 1)) (K : W p l e R s m args below meth c n0 Q kc ks k n h (pc + 1) ls (.int (u - v) :: st)) : W p l e R s m args below meth c n0 Q kc ks k n h pc ls (.int v :: .int u :: st) :=
  W.lift (fun T t H S => XS.isub H C.1 rfl (C.a d) rfl S) K
theorem W.imulV (C : Cx p s m meth c Z y bytes ml ret) {u v : Int32} (z : Int32) (d : decode bytes pc = .ok (.imul, 1)) (hz : (u * v) = z) (K : W p l e R s m args below meth c n0 Q kc ks k n h (pc + 1) ls (.int z :: st)) : W p l e R s m args below meth c n0 Q kc ks k n h pc ls (.int v :: .int u :: st) :=
  W.lift (fun T t H S => XS.imul H C.1 rfl (C.a d) rfl (by subst hz; exact S)) K
theorem W.imul (C : Cx p s m meth c Z y bytes ml ret) {u v : Int32} (d : decode bytes pc = .ok (.imul, 1)) (K : W p l e R s m args below meth c n0 Q kc ks k n h (pc + 1) ls (.int (u * v) :: st)) : W p l e R s m args below meth c n0 Q kc ks k n h pc ls (.int v :: .int u :: st) :=
  W.lift (fun T t H S => XS.imul H C.1 rfl (C.a d) rfl S) K
theorem W.iandV (C : Cx p s m meth c Z y bytes ml ret) {u v : Int32} (z : Int32) (d : decode bytes pc = .ok (.iand, 1)) (hz : (u &&& v) = z) (K : W p l e R s m args below meth c n0 Q kc ks k n h (pc + 1) ls (.int z :: st)) : W p l e R s m args below meth c n0 Q kc ks k n h pc ls (.int v :: .int u :: st) :=
  W.lift (fun T t H S => XS.iand H C.1 rfl (C.a d) rfl (by subst hz; exact S)) K
theorem W.iand (C : Cx p s m meth c Z y bytes ml ret) {u v : Int32} (d : decode bytes pc = .ok (.iand, 1)) (K : W p l e R s m args below meth c n0 Q kc ks k n h (pc + 1) ls (.int (u &&& v) :: st)) : W p l e R s m args below meth c n0 Q kc ks k n h pc ls (.int v :: .int u :: st) :=
  W.lift (fun T t H S => XS.iand H C.1 rfl (C.a d) rfl S) K
theorem W.iorV (C : Cx p s m meth c Z y bytes ml ret) {u v : Int32} (z : Int32) (d : decode bytes pc = .ok (.ior, 1)) (hz : (u ||| v) = z) (K : W p l e R s m args below meth c n0 Q kc ks k n h (pc + 1) ls (.int z :: st)) : W p l e R s m args below meth c n0 Q kc ks k n h pc ls (.int v :: .int u :: st) :=
  W.lift (fun T t H S => XS.ior H C.1 rfl (C.a d) rfl (by subst hz; exact S)) K
theorem W.ior (C : Cx p s m meth c Z y bytes ml ret) {u v : Int32} (d : decode bytes pc = .ok (.ior, 1)) (K : W p l e R s m args below meth c n0 Q kc ks k n h (pc + 1) ls (.int (u ||| v) :: st)) : W p l e R s m args below meth c n0 Q kc ks k n h pc ls (.int v :: .int u :: st) :=
  W.lift (fun T t H S => XS.ior H C.1 rfl (C.a d) rfl S) K
theorem W.ixorV (C : Cx p s m meth c Z y bytes ml ret) {u v : Int32} (z : Int32) (d : decode bytes pc = .ok (.ixor, 1)) (hz : (u ^^^ v) = z) (K : W p l e R s m args below meth c n0 Q kc ks k n h (pc + 1) ls (.int z :: st)) : W p l e R s m args below meth c n0 Q kc ks k n h pc ls (.int v :: .int u :: st) :=
  W.lift (fun T t H S => XS.ixor H C.1 rfl (C.a d) rfl (by subst hz; exact S)) K
theorem W.ixor (C : Cx p s m meth c Z y bytes ml ret) {u v : Int32} (d : decode bytes pc = .ok (.ixor, 1)) (K : W p l e R s m args below meth c n0 Q kc ks k n h (pc + 1) ls (.int (u ^^^ v) :: st)) : W p l e R s m args below meth c n0 Q kc ks k n h pc ls (.int v :: .int u :: st) :=
  W.lift (fun T t H S => XS.ixor H C.1 rfl (C.a d) rfl S) K
theorem W.ishlV (C : Cx p s m meth c Z y bytes ml ret) {u v : Int32} (z : Int32) (d : decode bytes pc = .ok (.ishl, 1)) (hz : (u <<< (v &&& 31)) = z) (K : W p l e R s m args below meth c n0 Q kc ks k n h (pc + 1) ls (.int z :: st)) : W p l e R s m args below meth c n0 Q kc ks k n h pc ls (.int v :: .int u :: st) :=
  W.lift (fun T t H S => XS.ishl H C.1 rfl (C.a d) rfl (by subst hz; exact S)) K
theorem W.ishl (C : Cx p s m meth c Z y bytes ml ret) {u v : Int32} (d : decode bytes pc = .ok (.ishl, 1)) (K : W p l e R s m args below meth c n0 Q kc ks k n h (pc + 1) ls (.int (u <<< (v &&& 31)) :: st)) : W p l e R s m args below meth c n0 Q kc ks k n h pc ls (.int v :: .int u :: st) :=
  W.lift (fun T t H S => XS.ishl H C.1 rfl (C.a d) rfl S) K
theorem W.ishrV (C : Cx p s m meth c Z y bytes ml ret) {u v : Int32} (z : Int32) (d : decode bytes pc = .ok (.ishr, 1)) (hz : (u >>> (v &&& 31)) = z) (K : W p l e R s m args below meth c n0 Q kc ks k n h (pc + 1) ls (.int z :: st)) : W p l e R s m args below meth c n0 Q kc ks k n h pc ls (.int v :: .int u :: st) :=
  W.lift (fun T t H S => XS.ishr H C.1 rfl (C.a d) rfl (by subst hz; exact S)) K
theorem W.ishr (C : Cx p s m meth c Z y bytes ml ret) {u v : Int32} (d : decode bytes pc = .ok (.ishr, 1)) (K : W p l e R s m args below meth c n0 Q kc ks k n h (pc + 1) ls (.int (u >>> (v &&& 31)) :: st)) : W p l e R s m args below meth c n0 Q kc ks k n h pc ls (.int v :: .int u :: st) :=
  W.lift (fun T t H S => XS.ishr H C.1 rfl (C.a d) rfl S) K
theorem W.iushrV (C : Cx p s m meth c Z y bytes ml ret) {u v : Int32} (z : Int32) (d : decode bytes pc = .ok (.iushr, 1)) (hz : ((u.toUInt32 >>> (v &&& 31).toUInt32).toInt32) = z) (K : W p l e R s m args below meth c n0 Q kc ks k n h (pc + 1) ls (.int z :: st)) : W p l e R s m args below meth c n0 Q kc ks k n h pc ls (.int v :: .int u :: st) :=
  W.lift (fun T t H S => XS.iushr H C.1 rfl (C.a d) rfl (by subst hz; exact S)) K
theorem W.iushr (C : Cx p s m meth c Z y bytes ml ret) {u v : Int32} (d : decode bytes pc = .ok (.iushr, 1)) (K : W p l e R s m args below meth c n0 Q kc ks k n h (pc + 1) ls (.int ((u.toUInt32 >>> (v &&& 31).toUInt32).toInt32) :: st)) : W p l e R s m args below meth c n0 Q kc ks k n h pc ls (.int v :: .int u :: st) :=
  W.lift (fun T t H S => XS.iushr H C.1 rfl (C.a d) rfl S) K
theorem W.laddV (C : Cx p s m meth c Z y bytes ml ret) {u v : Int64} (z : Int64) (d : decode bytes pc = .ok (.ladd, 1)) (hz : (u + v) = z) (K : W p l e R s m args below meth c n0 Q kc ks k n h (pc + 1) ls (.long z :: st)) : W p l e R s m args below meth c n0 Q kc ks k n h pc ls (.long v :: .long u :: st) :=
  W.lift (fun T t H S => XS.ladd H C.1 rfl (C.a d) rfl (by subst hz; exact S)) K
theorem W.ladd (C : Cx p s m meth c Z y bytes ml ret) {u v : Int64} (d : decode bytes pc = .ok (.ladd, 1)) (K : W p l e R s m args below meth c n0 Q kc ks k n h (pc + 1) ls (.long (u + v) :: st)) : W p l e R s m args below meth c n0 Q kc ks k n h pc ls (.long v :: .long u :: st) :=
  W.lift (fun T t H S => XS.ladd H C.1 rfl (C.a d) rfl S) K
theorem W.lsubV (C : Cx p s m meth c Z y bytes ml ret) {u v : Int64} (z : Int64) (d : decode bytes pc = .ok (.lsub, 1)) (hz : (u - v) = z) (K : W p l e R s m args below meth c n0 Q kc ks k n h (pc + 1) ls (.long z :: st)) : W p l e R s m args below meth c n0 Q kc ks k n h pc ls (.long v :: .long u :: st) :=
  W.lift (fun T t H S => XS.lsub H C.1 rfl (C.a d) rfl (by subst hz; exact S)) K
theorem W.lsub (C : Cx p s m meth c Z y bytes ml ret) {u v : Int64} (d : decode bytes pc = .ok (.lsub, 1)) (K : W p l e R s m args below meth c n0 Q kc ks k n h (pc + 1) ls (.long (u - v) :: st)) : W p l e R s m args below meth c n0 Q kc ks k n h pc ls (.long v :: .long u :: st) :=
  W.lift (fun T t H S => XS.lsub H C.1 rfl (C.a d) rfl S) K
theorem W.lmulV (C : Cx p s m meth c Z y bytes ml ret) {u v : Int64} (z : Int64) (d : decode bytes pc = .ok (.lmul, 1)) (hz : (u * v) = z) (K : W p l e R s m args below meth c n0 Q kc ks k n h (pc + 1) ls (.long z :: st)) : W p l e R s m args below meth c n0 Q kc ks k n h pc ls (.long v :: .long u :: st) :=
  W.lift (fun T t H S => XS.lmul H C.1 rfl (C.a d) rfl (by subst hz; exact S)) K
theorem W.lmul (C : Cx p s m meth c Z y bytes ml ret) {u v : Int64} (d : decode bytes pc = .ok (.lmul, 1)) (K : W p l e R s m args below meth c n0 Q kc ks k n h (pc + 1) ls (.long (u * v) :: st)) : W p l e R s m args below meth c n0 Q kc ks k n h pc ls (.long v :: .long u :: st) :=
  W.lift (fun T t H S => XS.lmul H C.1 rfl (C.a d) rfl S) K
theorem W.landV (C : Cx p s m meth c Z y bytes ml ret) {u v : Int64} (z : Int64) (d : decode bytes pc = .ok (.land, 1)) (hz : (u &&& v) = z) (K : W p l e R s m args below meth c n0 Q kc ks k n h (pc + 1) ls (.long z :: st)) : W p l e R s m args below meth c n0 Q kc ks k n h pc ls (.long v :: .long u :: st) :=
  W.lift (fun T t H S => XS.land H C.1 rfl (C.a d) rfl (by subst hz; exact S)) K
theorem W.land (C : Cx p s m meth c Z y bytes ml ret) {u v : Int64} (d : decode bytes pc = .ok (.land, 1)) (K : W p l e R s m args below meth c n0 Q kc ks k n h (pc + 1) ls (.long (u &&& v) :: st)) : W p l e R s m args below meth c n0 Q kc ks k n h pc ls (.long v :: .long u :: st) :=
  W.lift (fun T t H S => XS.land H C.1 rfl (C.a d) rfl S) K
theorem W.lorV (C : Cx p s m meth c Z y bytes ml ret) {u v : Int64} (z : Int64) (d : decode bytes pc = .ok (.lor, 1)) (hz : (u ||| v) = z) (K : W p l e R s m args below meth c n0 Q kc ks k n h (pc + 1) ls (.long z :: st)) : W p l e R s m args below meth c n0 Q kc ks k n h pc ls (.long v :: .long u :: st) :=
  W.lift (fun T t H S => XS.lor H C.1 rfl (C.a d) rfl (by subst hz; exact S)) K
theorem W.lor (C : Cx p s m meth c Z y bytes ml ret) {u v : Int64} (d : decode bytes pc = .ok (.lor, 1)) (K : W p l e R s m args below meth c n0 Q kc ks k n h (pc + 1) ls (.long (u ||| v) :: st)) : W p l e R s m args below meth c n0 Q kc ks k n h pc ls (.long v :: .long u :: st) :=
  W.lift (fun T t H S => XS.lor H C.1 rfl (C.a d) rfl S) K
theorem W.lxorV (C : Cx p s m meth c Z y bytes ml ret) {u v : Int64} (z : Int64) (d : decode bytes pc = .ok (.lxor, 1)) (hz : (u ^^^ v) = z) (K : W p l e R s m args below meth c n0 Q kc ks k n h (pc + 1) ls (.long z :: st)) : W p l e R s m args below meth c n0 Q kc ks k n h pc ls (.long v :: .long u :: st) :=
  W.lift (fun T t H S => XS.lxor H C.1 rfl (C.a d) rfl (by subst hz; exact S)) K
theorem W.lxor (C : Cx p s m meth c Z y bytes ml ret) {u v : Int64} (d : decode bytes pc = .ok (.lxor, 1)) (K : W p l e R s m args below meth c n0 Q kc ks k n h (pc + 1) ls (.long (u ^^^ v) :: st)) : W p l e R s m args below meth c n0 Q kc ks k n h pc ls (.long v :: .long u :: st) :=
  W.lift (fun T t H S => XS.lxor H C.1 rfl (C.a d) rfl S) K
theorem W.lshlV (C : Cx p s m meth c Z y bytes ml ret) {u : Int64} {v : Int32} (z : Int64) (d : decode bytes pc = .ok (.lshl, 1)) (hz : (u <<< (v &&& 0x3f).toInt64) = z) (K : W p l e R s m args below meth c n0 Q kc ks k n h (pc + 1) ls (.long z :: st)) : W p l e R s m args below meth c n0 Q kc ks k n h pc ls (.int v :: .long u :: st) :=
  W.lift (fun T t H S => XS.lshl H C.1 rfl (C.a d) rfl (by subst hz; exact S)) K
theorem W.lshl (C : Cx p s m meth c Z y bytes ml ret) {u : Int64} {v : Int32} (d : decode bytes pc = .ok (.lshl, 1)) (K : W p l e R s m args below meth c n0 Q kc ks k n h (pc + 1) ls (.long (u <<< (v &&& 0x3f).toInt64) :: st)) : W p l e R s m args below meth c n0 Q kc ks k n h pc ls (.int v :: .long u :: st) :=
  W.lift (fun T t H S => XS.lshl H C.1 rfl (C.a d) rfl S) K
theorem W.lshrV (C : Cx p s m meth c Z y bytes ml ret) {u : Int64} {v : Int32} (z : Int64) (d : decode bytes pc = .ok (.lshr, 1)) (hz : (u >>> (v &&& 0x3f).toInt64) = z) (K : W p l e R s m args below meth c n0 Q kc ks k n h (pc + 1) ls (.long z :: st)) : W p l e R s m args below meth c n0 Q kc ks k n h pc ls (.int v :: .long u :: st) :=
  W.lift (fun T t H S => XS.lshr H C.1 rfl (C.a d) rfl (by subst hz; exact S)) K
theorem W.lshr (C : Cx p s m meth c Z y bytes ml ret) {u : Int64} {v : Int32} (d : decode bytes pc = .ok (.lshr, 1)) (K : W p l e R s m args below meth c n0 Q kc ks k n h (pc + 1) ls (.long (u >>> (v &&& 0x3f).toInt64) :: st)) : W p l e R s m args below meth c n0 Q kc ks k n h pc ls (.int v :: .long u :: st) :=
  W.lift (fun T t H S => XS.lshr H C.1 rfl (C.a d) rfl S) K
theorem W.lushrV (C : Cx p s m meth c Z y bytes ml ret) {u : Int64} {v : Int32} (z : Int64) (d : decode bytes pc = .ok (.lushr, 1)) (hz : ((u.toUInt64 >>> (v &&& 0x3f).toInt64.toUInt64).toInt64) = z) (K : W p l e R s m args below meth c n0 Q kc ks k n h (pc + 1) ls (.long z :: st)) : W p l e R s m args below meth c n0 Q kc ks k n h pc ls (.int v :: .long u :: st) :=
  W.lift (fun T t H S => XS.lushr H C.1 rfl (C.a d) rfl (by subst hz; exact S)) K
theorem W.lushr (C : Cx p s m meth c Z y bytes ml ret) {u : Int64} {v : Int32} (d : decode bytes pc = .ok (.lushr, 1)) (K : W p l e R s m args below meth c n0 Q kc ks k n h (pc + 1) ls (.long ((u.toUInt64 >>> (v &&& 0x3f).toInt64.toUInt64).toInt64) :: st)) : W p l e R s m args below meth c n0 Q kc ks k n h pc ls (.int v :: .long u :: st) :=
  W.lift (fun T t H S => XS.lushr H C.1 rfl (C.a d) rfl S) K
theorem W.idivV (C : Cx p s m meth c Z y bytes ml ret) {u v : Int32} (z : Int32) (d : decode bytes pc = .ok (.idiv, 1)) (hy : v ≠ 0) (hz : (u / v) = z) (K : W p l e R s m args below meth c n0 Q kc ks k n h (pc + 1) ls (.int z :: st)) : W p l e R s m args below meth c n0 Q kc ks k n h pc ls (.int v :: .int u :: st) :=
  W.lift (fun T t H S => XS.idiv H C.1 rfl (C.a d) rfl hy (by subst hz; exact S)) K
theorem W.idiv (C : Cx p s m meth c Z y bytes ml ret) {u v : Int32} (d : decode bytes pc = .ok (.idiv, 1)) (hy : v ≠ 0) (K : W p l e R s m args below meth c n0 Q kc ks k n h (pc + 1) ls (.int (u / v) :: st)) : W p l e R s m args below meth c n0 Q kc ks k n h pc ls (.int v :: .int u :: st) :=
  W.lift (fun T t H S => XS.idiv H C.1 rfl (C.a d) rfl hy S) K
theorem W.irem (C : Cx p s m meth c Z y bytes ml ret) {u v : Int32} (d : decode bytes pc = .ok (.irem, 1)) (hy : v ≠ 0) (K : W p l e R s m args below meth c n0 Q kc ks k n h (pc + 1) ls (.int (u % v) :: st)) : W p l e R s m args below meth c n0 Q kc ks k n h pc ls (.int v :: .int u :: st) :=
  W.lift (fun T t H S => XS.irem H C.1 rfl (C.a d) rfl hy (by rw [irem_eq_mod u v]; exact S)) K
theorem W.ldivV (C : Cx p s m meth c Z y bytes ml ret) {u v : Int64} (z : Int64) (d : decode bytes pc = .ok (.ldiv, 1)) (hy : v ≠ 0) (hz : (u / v) = z) (K : W p l e R s m args below meth c n0 Q kc ks k n h (pc + 1) ls (.long z :: st)) : W p l e R s m args below meth c n0 Q kc ks k n h pc ls (.long v :: .long u :: st) :=
  W.lift (fun T t H S => XS.ldiv H C.1 rfl (C.a d) rfl hy (by subst hz; exact S)) K
theorem W.ldiv (C : Cx p s m meth c Z y bytes ml ret) {u v : Int64} (d : decode bytes pc = .ok (.ldiv, 1)) (hy : v ≠ 0) (K : W p l e R s m args below meth c n0 Q kc ks k n h (pc + 1) ls (.long (u / v) :: st)) : W p l e R s m args below meth c n0 Q kc ks k n h pc ls (.long v :: .long u :: st) :=
  W.lift (fun T t H S => XS.ldiv H C.1 rfl (C.a d) rfl hy S) K
theorem W.lrem (C : Cx p s m meth c Z y bytes ml ret) {u v : Int64} (d : decode bytes pc = .ok (.lrem, 1)) (hy : v ≠ 0) (K : W p l e R s m args below meth c n0 Q kc ks k n h (pc + 1) ls (.long (u % v) :: st)) : W p l e R s m args below meth c n0 Q kc ks k n h pc ls (.long v :: .long u :: st) :=
  W.lift (fun T t H S => XS.lrem H C.1 rfl (C.a d) rfl hy (by rw [lrem_mod u v]; exact S)) K
theorem W.inegV (C : Cx p s m meth c Z y bytes ml ret) {u : Int32} (z : Int32) (d : decode bytes pc = .ok (.ineg, 1)) (hz : (-u) = z) (K : W p l e R s m args below meth c n0 Q kc ks k n h (pc + 1) ls (.int z :: st)) : W p l e R s m args below meth c n0 Q kc ks k n h pc ls (.int u :: st) :=
  W.lift (fun T t H S => XS.ineg H C.1 rfl (C.a d) rfl (by subst hz; exact S)) K
theorem W.ineg (C : Cx p s m meth c Z y bytes ml ret) {u : Int32} (d : decode bytes pc = .ok (.ineg, 1)) (K : W p l e R s m args below meth c n0 Q kc ks k n h (pc + 1) ls (.int (-u) :: st)) : W p l e R s m args below meth c n0 Q kc ks k n h pc ls (.int u :: st) :=
  W.lift (fun T t H S => XS.ineg H C.1 rfl (C.a d) rfl S) K
theorem W.i2bV (C : Cx p s m meth c Z y bytes ml ret) {u : Int32} (z : Int32) (d : decode bytes pc = .ok (.i2b, 1)) (hz : (u.toInt8.toInt32) = z) (K : W p l e R s m args below meth c n0 Q kc ks k n h (pc + 1) ls (.int z :: st)) : W p l e R s m args below meth c n0 Q kc ks k n h pc ls (.int u :: st) :=
  W.lift (fun T t H S => XS.i2b H C.1 rfl (C.a d) rfl (by subst hz; exact S)) K
theorem W.i2b (C : Cx p s m meth c Z y bytes ml ret) {u : Int32} (d : decode bytes pc = .ok (.i2b, 1)) (K : W p l e R s m args below meth c n0 Q kc ks k n h (pc + 1) ls (.int (u.toInt8.toInt32) :: st)) : W p l e R s m args below meth c n0 Q kc ks k n h pc ls (.int u :: st) :=
  W.lift (fun T t H S => XS.i2b H C.1 rfl (C.a d) rfl S) K
theorem W.i2cV (C : Cx p s m meth c Z y bytes ml ret) {u : Int32} (z : Int32) (d : decode bytes pc = .ok (.i2c, 1)) (hz : (u.toUInt32.toUInt16.toUInt32.toInt32) = z) (K : W p l e R s m args below meth c n0 Q kc ks k n h (pc + 1) ls (.int z :: st)) : W p l e R s m args below meth c n0 Q kc ks k n h pc ls (.int u :: st) :=
  W.lift (fun T t H S => XS.i2c H C.1 rfl (C.a d) rfl (by subst hz; exact S)) K
theorem W.i2c (C : Cx p s m meth c Z y bytes ml ret) {u : Int32} (d : decode bytes pc = .ok (.i2c, 1)) (K : W p l e R s m args below meth c n0 Q kc ks k n h (pc + 1) ls (.int (u.toUInt32.toUInt16.toUInt32.toInt32) :: st)) : W p l e R s m args below meth c n0 Q kc ks k n h pc ls (.int u :: st) :=
  W.lift (fun T t H S => XS.i2c H C.1 rfl (C.a d) rfl S) K
theorem W.i2sV (C : Cx p s m meth c Z y bytes ml ret) {u : Int32} (z : Int32) (d : decode bytes pc = .ok (.i2s, 1)) (hz : (u.toInt16.toInt32) = z) (K : W p l e R s m args below meth c n0 Q kc ks k n h (pc + 1) ls (.int z :: st)) : W p l e R s m args below meth c n0 Q kc ks k n h pc ls (.int u :: st) :=
  W.lift (fun T t H S => XS.i2s H C.1 rfl (C.a d) rfl (by subst hz; exact S)) K
theorem W.i2s (C : Cx p s m meth c Z y bytes ml ret) {u : Int32} (d : decode bytes pc = .ok (.i2s, 1)) (K : W p l e R s m args below meth c n0 Q kc ks k n h (pc + 1) ls (.int (u.toInt16.toInt32) :: st)) : W p l e R s m args below meth c n0 Q kc ks k n h pc ls (.int u :: st) :=
  W.lift (fun T t H S => XS.i2s H C.1 rfl (C.a d) rfl S) K
theorem W.i2lV (C : Cx p s m meth c Z y bytes ml ret) {u : Int32} (z : Int64) (d : decode bytes pc = .ok (.i2l, 1)) (hz : u.toInt64 = z) (K : W p l e R s m args below meth c n0 Q kc ks k n h (pc + 1) ls (.long z :: st)) : W p l e R s m args below meth c n0 Q kc ks k n h pc ls (.int u :: st) :=
  W.lift (fun T t H S => XS.i2l H C.1 rfl (C.a d) rfl (by subst hz; exact S)) K
theorem W.i2l (C : Cx p s m meth c Z y bytes ml ret) {u : Int32} (d : decode bytes pc = .ok (.i2l, 1)) (K : W p l e R s m args below meth c n0 Q kc ks k n h (pc + 1) ls (.long u.toInt64 :: st)) : W p l e R s m args below meth c n0 Q kc ks k n h pc ls (.int u :: st) :=
  W.lift (fun T t H S => XS.i2l H C.1 rfl (C.a d) rfl S) K
theorem W.l2iV (C : Cx p s m meth c Z y bytes ml ret) {u : Int64} (z : Int32) (d : decode bytes pc = .ok (.l2i, 1)) (hz : u.toInt32 = z) (K : W p l e R s m args below meth c n0 Q kc ks k n h (pc + 1) ls (.int z :: st)) : W p l e R s m args below meth c n0 Q kc ks k n h pc ls (.long u :: st) :=
  W.lift (fun T t H S => XS.l2i H C.1 rfl (C.a d) rfl (by subst hz; exact S)) K
theorem W.l2i (C : Cx p s m meth c Z y bytes ml ret) {u : Int64} (d : decode bytes pc = .ok (.l2i, 1)) (K : W p l e R s m args below meth c n0 Q kc ks k n h (pc + 1) ls (.int u.toInt32 :: st)) : W p l e R s m args below meth c n0 Q kc ks k n h pc ls (.long u :: st) :=
  W.lift (fun T t H S => XS.l2i H C.1 rfl (C.a d) rfl S) K
theorem W.lnegV (C : Cx p s m meth c Z y bytes ml ret) {u : Int64} (z : Int64) (d : decode bytes pc = .ok (.lneg, 1)) (hz : (-u) = z) (K : W p l e R s m args below meth c n0 Q kc ks k n h (pc + 1) ls (.long z :: st)) : W p l e R s m args below meth c n0 Q kc ks k n h pc ls (.long u :: st) :=
  W.lift (fun T t H S => XS.lneg H C.1 rfl (C.a d) rfl (by subst hz; exact S)) K
theorem W.lneg (C : Cx p s m meth c Z y bytes ml ret) {u : Int64} (d : decode bytes pc = .ok (.lneg, 1)) (K : W p l e R s m args below meth c n0 Q kc ks k n h (pc + 1) ls (.long (-u) :: st)) : W p l e R s m args below meth c n0 Q kc ks k n h pc ls (.long u :: st) :=
  W.lift (fun T t H S => XS.lneg H C.1 rfl (C.a d) rfl S) K
theorem W.lcmpV (C : Cx p s m meth c Z y bytes ml ret) {u v : Int64} (z : Int32) (d : decode bytes pc = .ok (.lcmp, 1)) (hz : (lcmpW u v) = z) (K : W p l e R s m args below meth c n0 Q kc ks k n h (pc + 1) ls (.int z :: st)) : W p l e R s m args below meth c n0 Q kc ks k n h pc ls (.long v :: .long u :: st) :=
  W.lift (fun T t H S => XS.lcmp H C.1 rfl (C.a d) rfl (by subst hz; exact S)) K
theorem W.lcmp (C : Cx p s m meth c Z y bytes ml ret) {u v : Int64} (d : decode bytes pc = .ok (.lcmp, 1)) (K : W p l e R s m args below meth c n0 Q kc ks k n h (pc + 1) ls (.int (lcmpW u v) :: st)) : W p l e R s m args below meth c n0 Q kc ks k n h pc ls (.long v :: .long u :: st) :=
  W.lift (fun T t H S => XS.lcmp H C.1 rfl (C.a d) rfl S) K
theorem W.pop (C : Cx p s m meth c Z y bytes ml ret) {u : Value} (d : decode bytes pc = .ok (.pop, 1)) (hc : u.category = 1) (K : W p l e R s m args below meth c n0 Q kc ks k n h (pc + 1) ls (st)) : W p l e R s m args below meth c n0 Q kc ks k n h pc ls (u :: st) :=
  W.lift (fun T t H S => XS.pop H C.1 rfl (C.a d) rfl hc S) K
theorem W.dup (C : Cx p s m meth c Z y bytes ml ret) {u : Value} (d : decode bytes pc = .ok (.dup, 1)) (hc : u.category = 1) (K : W p l e R s m args below meth c n0 Q kc ks k n h (pc + 1) ls (u :: u :: st)) : W p l e R s m args below meth c n0 Q kc ks k n h pc ls (u :: st) :=
  W.lift (fun T t H S => XS.dup H C.1 rfl (C.a d) rfl hc S) K
theorem W.dupX1 (C : Cx p s m meth c Z y bytes ml ret) {u v : Value} (d : decode bytes pc = .ok (.dup_x1, 1)) (hc : u.category = 1) (hc' : v.category = 1) (K : W p l e R s m args below meth c n0 Q kc ks k n h (pc + 1) ls (u :: v :: u :: st)) : W p l e R s m args below meth c n0 Q kc ks k n h pc ls (u :: v :: st) :=
  W.lift (fun T t H S => XT.dupX1 H C.1 rfl (C.a d) rfl hc hc' S) K
theorem W.dup2 (C : Cx p s m meth c Z y bytes ml ret) {u v : Value} (d : decode bytes pc = .ok (.dup2, 1)) (hc : u.category = 1) (hc' : v.category = 1) (K : W p l e R s m args below meth c n0 Q kc ks k n h (pc + 1) ls (u :: v :: u :: v :: st)) : W p l e R s m args below meth c n0 Q kc ks k n h pc ls (u :: v :: st) :=
  W.lift (fun T t H S => XT.dup2 H C.1 rfl (C.a d) rfl hc hc' S) K
theorem W.dup2L (C : Cx p s m meth c Z y bytes ml ret) {u : Int64} (d : decode bytes pc = .ok (.dup2, 1)) (K : W p l e R s m args below meth c n0 Q kc ks k n h (pc + 1) ls (.long u :: .long u :: st)) : W p l e R s m args below meth c n0 Q kc ks k n h pc ls (.long u :: st) :=
  W.lift (fun T t H S => XT.dup2L H C.1 rfl (C.a d) rfl S) K
theorem W.aconstNull (C : Cx p s m meth c Z y bytes ml ret)  (d : decode bytes pc = .ok (.aconst_null, 1)) (K : W p l e R s m args below meth c n0 Q kc ks k n h (pc + 1) ls (.null :: st)) : W p l e R s m args below meth c n0 Q kc ks k n h pc ls (st) :=
  W.lift (fun T t H S => XS.aconstNull H C.1 rfl (C.a d)  S) K
theorem W.iconst (C : Cx p s m meth c Z y bytes ml ret) {i : Int} (v : Int32) (d : decode bytes pc = .ok (.iconst i, 1)) (hv : Int32.ofInt i = v) (K : W p l e R s m args below meth c n0 Q kc ks k n h (pc + 1) ls (.int v :: st)) : W p l e R s m args below meth c n0 Q kc ks k n h pc ls st :=
  W.lift (fun T t H S => XS.iconst H C.1 rfl (C.a d) (by rw [hv]; exact S)) K
theorem W.bipush (C : Cx p s m meth c Z y bytes ml ret) {i : Int} (v : Int32) (d : decode bytes pc = .ok (.bipush i, 2)) (hv : (Int8.ofInt i).toInt32 = v) (K : W p l e R s m args below meth c n0 Q kc ks k n h (pc + 2) ls (.int v :: st)) : W p l e R s m args below meth c n0 Q kc ks k n h pc ls st :=
  W.lift (fun T t H S => XS.bipush H C.1 rfl (C.a d) (by rw [hv]; exact S)) K
theorem W.sipush (C : Cx p s m meth c Z y bytes ml ret) {i : Int} (v : Int32) (d : decode bytes pc = .ok (.sipush i, 3)) (hv : (Int16.ofInt i).toInt32 = v) (K : W p l e R s m args below meth c n0 Q kc ks k n h (pc + 3) ls (.int v :: st)) : W p l e R s m args below meth c n0 Q kc ks k n h pc ls st :=
  W.lift (fun T t H S => XS.sipush H C.1 rfl (C.a d) (by rw [hv]; exact S)) K
theorem W.lconst (C : Cx p s m meth c Z y bytes ml ret) {i : Fin 2} (v : Int64) (d : decode bytes pc = .ok (.lconst i, 1)) (hv : Int64.ofNat i = v) (K : W p l e R s m args below meth c n0 Q kc ks k n h (pc + 1) ls (.long v :: st)) : W p l e R s m args below meth c n0 Q kc ks k n h pc ls st :=
  W.lift (fun T t H S => XS.lconst H C.1 rfl (C.a d) (by rw [hv]; exact S)) K
theorem W.iloadN (C : Cx p s m meth c Z y bytes ml ret) {i : Fin 4} {v : Int32} (d : decode bytes pc = .ok (.iload_n i, 1)) (hl : ls[i.val]? = some (.val (.int v))) (K : W p l e R s m args below meth c n0 Q kc ks k n h (pc + 1) ls (.int v :: st)) : W p l e R s m args below meth c n0 Q kc ks k n h pc ls st :=
  W.lift (fun T t H S => XS.iloadN H C.1 rfl (C.a d) hl S) K
theorem W.iload (C : Cx p s m meth c Z y bytes ml ret) {i : Nat} {v : Int32} (d : decode bytes pc = .ok (.iload i, 2)) (hl : ls[i]? = some (.val (.int v))) (K : W p l e R s m args below meth c n0 Q kc ks k n h (pc + 2) ls (.int v :: st)) : W p l e R s m args below meth c n0 Q kc ks k n h pc ls st :=
  W.lift (fun T t H S => XS.iload H C.1 rfl (C.a d) hl S) K
theorem W.istoreN (C : Cx p s m meth c Z y bytes ml ret) {i : Fin 4} {v : Int32} (l' : Array Slot) (d : decode bytes pc = .ok (.istore_n i, 1)) (hl : storeLocals ls i.val (.int v) = some l') (K : W p l e R s m args below meth c n0 Q kc ks k n h (pc + 1) l' st) : W p l e R s m args below meth c n0 Q kc ks k n h pc ls (.int v :: st) :=
  W.lift (fun T t H S => XS.istoreN H C.1 rfl (C.a d) rfl hl S) K
theorem W.istore (C : Cx p s m meth c Z y bytes ml ret) {i : Nat} {v : Int32} (l' : Array Slot) (d : decode bytes pc = .ok (.istore i, 2)) (hl : storeLocals ls i (.int v) = some l') (K : W p l e R s m args below meth c n0 Q kc ks k n h (pc + 2) l' st) : W p l e R s m args below meth c n0 Q kc ks k n h pc ls (.int v :: st) :=
  W.lift (fun T t H S => XS.istore H C.1 rfl (C.a d) rfl hl S) K
theorem W.lloadN (C : Cx p s m meth c Z y bytes ml ret) {i : Fin 4} {v : Int64} (d : decode bytes pc = .ok (.lload_n i, 1)) (hl : ls[i.val]? = some (.val (.long v))) (K : W p l e R s m args below meth c n0 Q kc ks k n h (pc + 1) ls (.long v :: st)) : W p l e R s m args below meth c n0 Q kc ks k n h pc ls st :=
  W.lift (fun T t H S => XS.lloadN H C.1 rfl (C.a d) hl S) K
theorem W.lload (C : Cx p s m meth c Z y bytes ml ret) {i : Nat} {v : Int64} (d : decode bytes pc = .ok (.lload i, 2)) (hl : ls[i]? = some (.val (.long v))) (K : W p l e R s m args below meth c n0 Q kc ks k n h (pc + 2) ls (.long v :: st)) : W p l e R s m args below meth c n0 Q kc ks k n h pc ls st :=
  W.lift (fun T t H S => XS.lload H C.1 rfl (C.a d) hl S) K
theorem W.lstoreN (C : Cx p s m meth c Z y bytes ml ret) {i : Fin 4} {v : Int64} (l' : Array Slot) (d : decode bytes pc = .ok (.lstore_n i, 1)) (hl : storeLocals ls i.val (.long v) = some l') (K : W p l e R s m args below meth c n0 Q kc ks k n h (pc + 1) l' st) : W p l e R s m args below meth c n0 Q kc ks k n h pc ls (.long v :: st) :=
  W.lift (fun T t H S => XS.lstoreN H C.1 rfl (C.a d) rfl hl S) K
theorem W.lstore (C : Cx p s m meth c Z y bytes ml ret) {i : Nat} {v : Int64} (l' : Array Slot) (d : decode bytes pc = .ok (.lstore i, 2)) (hl : storeLocals ls i (.long v) = some l') (K : W p l e R s m args below meth c n0 Q kc ks k n h (pc + 2) l' st) : W p l e R s m args below meth c n0 Q kc ks k n h pc ls (.long v :: st) :=
  W.lift (fun T t H S => XS.lstore H C.1 rfl (C.a d) rfl hl S) K
theorem W.aloadN (C : Cx p s m meth c Z y bytes ml ret) {i : Fin 4} {v : Value} (d : decode bytes pc = .ok (.aload_n i, 1)) (hl : ls[i.val]? = some (.val v)) (hv : v.isRef = true) (K : W p l e R s m args below meth c n0 Q kc ks k n h (pc + 1) ls (v :: st)) : W p l e R s m args below meth c n0 Q kc ks k n h pc ls st :=
  W.lift (fun T t H S => XS.aloadN H C.1 rfl (C.a d) hl hv S) K
theorem W.aload (C : Cx p s m meth c Z y bytes ml ret) {i : Nat} {v : Value} (d : decode bytes pc = .ok (.aload i, 2)) (hl : ls[i]? = some (.val v)) (hv : v.isRef = true) (K : W p l e R s m args below meth c n0 Q kc ks k n h (pc + 2) ls (v :: st)) : W p l e R s m args below meth c n0 Q kc ks k n h pc ls st :=
  W.lift (fun T t H S => XS.aload H C.1 rfl (C.a d) hl hv S) K
theorem W.astoreN (C : Cx p s m meth c Z y bytes ml ret) {i : Fin 4} {v : Value} (l' : Array Slot) (d : decode bytes pc = .ok (.astore_n i, 1)) (hv : v.isRef = true) (hl : storeLocals ls i.val v = some l') (K : W p l e R s m args below meth c n0 Q kc ks k n h (pc + 1) l' st) : W p l e R s m args below meth c n0 Q kc ks k n h pc ls (v :: st) :=
  W.lift (fun T t H S => XS.astoreN H C.1 rfl (C.a d) rfl hv hl S) K
theorem W.astore (C : Cx p s m meth c Z y bytes ml ret) {i : Nat} {v : Value} (l' : Array Slot) (d : decode bytes pc = .ok (.astore i, 2)) (hv : v.isRef = true) (hl : storeLocals ls i v = some l') (K : W p l e R s m args below meth c n0 Q kc ks k n h (pc + 2) l' st) : W p l e R s m args below meth c n0 Q kc ks k n h pc ls (v :: st) :=
  W.lift (fun T t H S => XS.astore H C.1 rfl (C.a d) rfl hv hl S) K
theorem W.istoreO (C : Cx p s m meth c Z y bytes ml ret) {i : Nat} {v : Int32} {o : Slot} (l' : Array Slot) (d : decode bytes pc = .ok (.istore i, 2)) (hold : ls[i]? = some o) (ho : One o) (hl : ls.setIfInBounds i (.val (.int v)) = l') (K : W p l e R s m args below meth c n0 Q kc ks k n h (pc + 2) l' st) : W p l e R s m args below meth c n0 Q kc ks k n h pc ls (.int v :: st) :=
  W.lift (fun T t H S => XS.istoreS H C.1 rfl (C.a d) rfl hold ho (by rw [hl]; exact S)) K
theorem W.istoreNO (C : Cx p s m meth c Z y bytes ml ret) {i : Fin 4} {v : Int32} {o : Slot} (l' : Array Slot) (d : decode bytes pc = .ok (.istore_n i, 1)) (hold : ls[i.val]? = some o) (ho : One o) (hl : ls.setIfInBounds i.val (.val (.int v)) = l') (K : W p l e R s m args below meth c n0 Q kc ks k n h (pc + 1) l' st) : W p l e R s m args below meth c n0 Q kc ks k n h pc ls (.int v :: st) :=
  W.lift (fun T t H S => XS.istoreNS H C.1 rfl (C.a d) rfl hold ho (by rw [hl]; exact S)) K
theorem W.iinc (C : Cx p s m meth c Z y bytes ml ret) {i : Nat} {cst : Int} {u : Int32} (v : Int32) (l' : Array Slot) (d : decode bytes pc = .ok (.iinc i cst, 3)) (hl : ls[i]? = some (.val (.int u))) (hv : u + Int32.ofInt cst = v) (hl' : storeLocals ls i (.int v) = some l') (K : W p l e R s m args below meth c n0 Q kc ks k n h (pc + 3) l' st) : W p l e R s m args below meth c n0 Q kc ks k n h pc ls st :=
  W.lift (fun T t H S => XS.iinc H C.1 rfl (C.a d) hl (by rw [hv]; exact hl') S) K
theorem jmp {pc pc' : Nat} {o : Int} (hp : (pc : Int) + o = pc') : 0 ≤ (pc : Int) + o ∧ ((pc : Int) + o).toNat = pc' := by omega
theorem W.goto (C : Cx p s m meth c Z y bytes ml ret) {o : Int} (pc' : Nat) (d : decode bytes pc = .ok (.goto o, 3)) (hp : (pc : Int) + o = pc') (K : W p l e R s m args below meth c n0 Q kc ks k n h pc' ls st) : W p l e R s m args below meth c n0 Q kc ks k n h pc ls st :=
  W.lift (fun T t H S => XS.goto H C.1 rfl (pc0 := pc) (pc' := pc') rfl (C.a d) (jmp hp).1 (jmp hp).2 S) K
theorem W.icmp_eq (C : Cx p s m meth c Z y bytes ml ret) {u v : Int32} {o : Int} (pc' : Nat) (d : decode bytes pc = .ok (.if_icmp .eq o, 3)) (hp : (pc : Int) + o = pc') (yes : u = v → W p l e R s m args below meth c n0 Q kc ks k n h pc' ls st) (no : ¬ u = v → W p l e R s m args below meth c n0 Q kc ks k n h (pc + 3) ls st) : W p l e R s m args below meth c n0 Q kc ks k n h pc ls (.int v :: .int u :: st) := by
  by_cases b : u = v
  · exact W.lift (fun T t H S => XS.icmpYes H C.1 rfl (pc0 := pc) (pc' := pc') rfl (C.a d) rfl (XT.ii_eq_t b) (jmp hp).1 (jmp hp).2 S) (yes b)
  · exact W.lift (fun T t H S => XS.icmpNo H C.1 rfl (C.a d) rfl (XT.ii_eq_f b) S) (no b)
theorem W.if_eq (C : Cx p s m meth c Z y bytes ml ret) {u : Int32} {o : Int} (pc' : Nat) (d : decode bytes pc = .ok (.ifCond .eq o, 3)) (hp : (pc : Int) + o = pc') (yes : u = 0 → W p l e R s m args below meth c n0 Q kc ks k n h pc' ls st) (no : ¬ u = 0 → W p l e R s m args below meth c n0 Q kc ks k n h (pc + 3) ls st) : W p l e R s m args below meth c n0 Q kc ks k n h pc ls (.int u :: st) := by
  by_cases b : u = 0
  · exact W.lift (fun T t H S => XS.ifYes H C.1 rfl (pc0 := pc) (pc' := pc') rfl (C.a d) rfl (XT.i0_eq_t b) (jmp hp).1 (jmp hp).2 S) (yes b)
  · exact W.lift (fun T t H S => XS.ifNo H C.1 rfl (C.a d) rfl (XT.i0_eq_f b) S) (no b)
theorem ll_eq_t {u v : Int64} (b : u = v) : ifCond.holds .eq (lcmpW u v) = true := XT.ll_eq_t b
theorem ll_eq_f {u v : Int64} (b : ¬ u = v) : ifCond.holds .eq (lcmpW u v) = false := XT.ll_eq_f b
theorem W.lif_eq (C : Cx p s m meth c Z y bytes ml ret) {u v : Int64} {o : Int} (pc' : Nat) (d : decode bytes pc = .ok (.ifCond .eq o, 3)) (hp : (pc : Int) + o = pc') (yes : u = v → W p l e R s m args below meth c n0 Q kc ks k n h pc' ls st) (no : ¬ u = v → W p l e R s m args below meth c n0 Q kc ks k n h (pc + 3) ls st) : W p l e R s m args below meth c n0 Q kc ks k n h pc ls (.int (lcmpW u v) :: st) := by
  by_cases b : u = v
  · exact W.lift (fun T t H S => XS.ifYes H C.1 rfl (pc0 := pc) (pc' := pc') rfl (C.a d) rfl (ll_eq_t b) (jmp hp).1 (jmp hp).2 S) (yes b)
  · exact W.lift (fun T t H S => XS.ifNo H C.1 rfl (C.a d) rfl (ll_eq_f b) S) (no b)
theorem W.icmp_ne (C : Cx p s m meth c Z y bytes ml ret) {u v : Int32} {o : Int} (pc' : Nat) (d : decode bytes pc = .ok (.if_icmp .ne o, 3)) (hp : (pc : Int) + o = pc') (yes : ¬ u = v → W p l e R s m args below meth c n0 Q kc ks k n h pc' ls st) (no : u = v → W p l e R s m args below meth c n0 Q kc ks k n h (pc + 3) ls st) : W p l e R s m args below meth c n0 Q kc ks k n h pc ls (.int v :: .int u :: st) := by
  by_cases b : u = v
  · exact W.lift (fun T t H S => XS.icmpNo H C.1 rfl (C.a d) rfl (XT.ii_ne_f b) S) (no b)
  · exact W.lift (fun T t H S => XS.icmpYes H C.1 rfl (pc0 := pc) (pc' := pc') rfl (C.a d) rfl (XT.ii_ne_t b) (jmp hp).1 (jmp hp).2 S) (yes b)
theorem W.if_ne (C : Cx p s m meth c Z y bytes ml ret) {u : Int32} {o : Int} (pc' : Nat) (d : decode bytes pc = .ok (.ifCond .ne o, 3)) (hp : (pc : Int) + o = pc') (yes : ¬ u = 0 → W p l e R s m args below meth c n0 Q kc ks k n h pc' ls st) (no : u = 0 → W p l e R s m args below meth c n0 Q kc ks k n h (pc + 3) ls st) : W p l e R s m args below meth c n0 Q kc ks k n h pc ls (.int u :: st) := by
  by_cases b : u = 0
  · exact W.lift (fun T t H S => XS.ifNo H C.1 rfl (C.a d) rfl (XT.i0_ne_f b) S) (no b)
  · exact W.lift (fun T t H S => XS.ifYes H C.1 rfl (pc0 := pc) (pc' := pc') rfl (C.a d) rfl (XT.i0_ne_t b) (jmp hp).1 (jmp hp).2 S) (yes b)
theorem ll_ne_t {u v : Int64} (b : ¬ u = v) : ifCond.holds .ne (lcmpW u v) = true := XT.ll_ne_t b
theorem ll_ne_f {u v : Int64} (b : u = v) : ifCond.holds .ne (lcmpW u v) = false := XT.ll_ne_f b
theorem W.lif_ne (C : Cx p s m meth c Z y bytes ml ret) {u v : Int64} {o : Int} (pc' : Nat) (d : decode bytes pc = .ok (.ifCond .ne o, 3)) (hp : (pc : Int) + o = pc') (yes : ¬ u = v → W p l e R s m args below meth c n0 Q kc ks k n h pc' ls st) (no : u = v → W p l e R s m args below meth c n0 Q kc ks k n h (pc + 3) ls st) : W p l e R s m args below meth c n0 Q kc ks k n h pc ls (.int (lcmpW u v) :: st) := by
  by_cases b : u = v
  · exact W.lift (fun T t H S => XS.ifNo H C.1 rfl (C.a d) rfl (ll_ne_f b) S) (no b)
  · exact W.lift (fun T t H S => XS.ifYes H C.1 rfl (pc0 := pc) (pc' := pc') rfl (C.a d) rfl (ll_ne_t b) (jmp hp).1 (jmp hp).2 S) (yes b)
theorem W.icmp_lt (C : Cx p s m meth c Z y bytes ml ret) {u v : Int32} {o : Int} (pc' : Nat) (d : decode bytes pc = .ok (.if_icmp .lt o, 3)) (hp : (pc : Int) + o = pc') (yes : u < v → W p l e R s m args below meth c n0 Q kc ks k n h pc' ls st) (no : ¬ u < v → W p l e R s m args below meth c n0 Q kc ks k n h (pc + 3) ls st) : W p l e R s m args below meth c n0 Q kc ks k n h pc ls (.int v :: .int u :: st) := by
  by_cases b : u < v
  · exact W.lift (fun T t H S => XS.icmpYes H C.1 rfl (pc0 := pc) (pc' := pc') rfl (C.a d) rfl (XT.ii_lt_t b) (jmp hp).1 (jmp hp).2 S) (yes b)
  · exact W.lift (fun T t H S => XS.icmpNo H C.1 rfl (C.a d) rfl (XT.ii_lt_f b) S) (no b)
theorem W.if_lt (C : Cx p s m meth c Z y bytes ml ret) {u : Int32} {o : Int} (pc' : Nat) (d : decode bytes pc = .ok (.ifCond .lt o, 3)) (hp : (pc : Int) + o = pc') (yes : u < 0 → W p l e R s m args below meth c n0 Q kc ks k n h pc' ls st) (no : ¬ u < 0 → W p l e R s m args below meth c n0 Q kc ks k n h (pc + 3) ls st) : W p l e R s m args below meth c n0 Q kc ks k n h pc ls (.int u :: st) := by
  by_cases b : u < 0
  · exact W.lift (fun T t H S => XS.ifYes H C.1 rfl (pc0 := pc) (pc' := pc') rfl (C.a d) rfl (XT.i0_lt_t b) (jmp hp).1 (jmp hp).2 S) (yes b)
  · exact W.lift (fun T t H S => XS.ifNo H C.1 rfl (C.a d) rfl (XT.i0_lt_f b) S) (no b)
theorem ll_lt_t {u v : Int64} (b : u < v) : ifCond.holds .lt (lcmpW u v) = true := XT.ll_lt_t b
theorem ll_lt_f {u v : Int64} (b : ¬ u < v) : ifCond.holds .lt (lcmpW u v) = false := XT.ll_lt_f b
theorem W.lif_lt (C : Cx p s m meth c Z y bytes ml ret) {u v : Int64} {o : Int} (pc' : Nat) (d : decode bytes pc = .ok (.ifCond .lt o, 3)) (hp : (pc : Int) + o = pc') (yes : u < v → W p l e R s m args below meth c n0 Q kc ks k n h pc' ls st) (no : ¬ u < v → W p l e R s m args below meth c n0 Q kc ks k n h (pc + 3) ls st) : W p l e R s m args below meth c n0 Q kc ks k n h pc ls (.int (lcmpW u v) :: st) := by
  by_cases b : u < v
  · exact W.lift (fun T t H S => XS.ifYes H C.1 rfl (pc0 := pc) (pc' := pc') rfl (C.a d) rfl (ll_lt_t b) (jmp hp).1 (jmp hp).2 S) (yes b)
  · exact W.lift (fun T t H S => XS.ifNo H C.1 rfl (C.a d) rfl (ll_lt_f b) S) (no b)
theorem W.icmp_ge (C : Cx p s m meth c Z y bytes ml ret) {u v : Int32} {o : Int} (pc' : Nat) (d : decode bytes pc = .ok (.if_icmp .ge o, 3)) (hp : (pc : Int) + o = pc') (yes : ¬ u < v → W p l e R s m args below meth c n0 Q kc ks k n h pc' ls st) (no : u < v → W p l e R s m args below meth c n0 Q kc ks k n h (pc + 3) ls st) : W p l e R s m args below meth c n0 Q kc ks k n h pc ls (.int v :: .int u :: st) := by
  by_cases b : u < v
  · exact W.lift (fun T t H S => XS.icmpNo H C.1 rfl (C.a d) rfl (XT.ii_ge_f b) S) (no b)
  · exact W.lift (fun T t H S => XS.icmpYes H C.1 rfl (pc0 := pc) (pc' := pc') rfl (C.a d) rfl (XT.ii_ge_t b) (jmp hp).1 (jmp hp).2 S) (yes b)
theorem W.if_ge (C : Cx p s m meth c Z y bytes ml ret) {u : Int32} {o : Int} (pc' : Nat) (d : decode bytes pc = .ok (.ifCond .ge o, 3)) (hp : (pc : Int) + o = pc') (yes : ¬ u < 0 → W p l e R s m args below meth c n0 Q kc ks k n h pc' ls st) (no : u < 0 → W p l e R s m args below meth c n0 Q kc ks k n h (pc + 3) ls st) : W p l e R s m args below meth c n0 Q kc ks k n h pc ls (.int u :: st) := by
  by_cases b : u < 0
  · exact W.lift (fun T t H S => XS.ifNo H C.1 rfl (C.a d) rfl (XT.i0_ge_f b) S) (no b)
  · exact W.lift (fun T t H S => XS.ifYes H C.1 rfl (pc0 := pc) (pc' := pc') rfl (C.a d) rfl (XT.i0_ge_t b) (jmp hp).1 (jmp hp).2 S) (yes b)
theorem ll_ge_t {u v : Int64} (b : ¬ u < v) : ifCond.holds .ge (lcmpW u v) = true := XT.ll_ge_t b
theorem ll_ge_f {u v : Int64} (b : u < v) : ifCond.holds .ge (lcmpW u v) = false := XT.ll_ge_f b
theorem W.lif_ge (C : Cx p s m meth c Z y bytes ml ret) {u v : Int64} {o : Int} (pc' : Nat) (d : decode bytes pc = .ok (.ifCond .ge o, 3)) (hp : (pc : Int) + o = pc') (yes : ¬ u < v → W p l e R s m args below meth c n0 Q kc ks k n h pc' ls st) (no : u < v → W p l e R s m args below meth c n0 Q kc ks k n h (pc + 3) ls st) : W p l e R s m args below meth c n0 Q kc ks k n h pc ls (.int (lcmpW u v) :: st) := by
  by_cases b : u < v
  · exact W.lift (fun T t H S => XS.ifNo H C.1 rfl (C.a d) rfl (ll_ge_f b) S) (no b)
  · exact W.lift (fun T t H S => XS.ifYes H C.1 rfl (pc0 := pc) (pc' := pc') rfl (C.a d) rfl (ll_ge_t b) (jmp hp).1 (jmp hp).2 S) (yes b)
theorem W.icmp_gt (C : Cx p s m meth c Z y bytes ml ret) {u v : Int32} {o : Int} (pc' : Nat) (d : decode bytes pc = .ok (.if_icmp .gt o, 3)) (hp : (pc : Int) + o = pc') (yes : v < u → W p l e R s m args below meth c n0 Q kc ks k n h pc' ls st) (no : ¬ v < u → W p l e R s m args below meth c n0 Q kc ks k n h (pc + 3) ls st) : W p l e R s m args below meth c n0 Q kc ks k n h pc ls (.int v :: .int u :: st) := by
  by_cases b : v < u
  · exact W.lift (fun T t H S => XS.icmpYes H C.1 rfl (pc0 := pc) (pc' := pc') rfl (C.a d) rfl (XT.ii_gt_t b) (jmp hp).1 (jmp hp).2 S) (yes b)
  · exact W.lift (fun T t H S => XS.icmpNo H C.1 rfl (C.a d) rfl (XT.ii_gt_f b) S) (no b)
theorem W.if_gt (C : Cx p s m meth c Z y bytes ml ret) {u : Int32} {o : Int} (pc' : Nat) (d : decode bytes pc = .ok (.ifCond .gt o, 3)) (hp : (pc : Int) + o = pc') (yes : 0 < u → W p l e R s m args below meth c n0 Q kc ks k n h pc' ls st) (no : ¬ 0 < u → W p l e R s m args below meth c n0 Q kc ks k n h (pc + 3) ls st) : W p l e R s m args below meth c n0 Q kc ks k n h pc ls (.int u :: st) := by
  by_cases b : 0 < u
  · exact W.lift (fun T t H S => XS.ifYes H C.1 rfl (pc0 := pc) (pc' := pc') rfl (C.a d) rfl (XT.i0_gt_t b) (jmp hp).1 (jmp hp).2 S) (yes b)
  · exact W.lift (fun T t H S => XS.ifNo H C.1 rfl (C.a d) rfl (XT.i0_gt_f b) S) (no b)
theorem ll_gt_t {u v : Int64} (b : v < u) : ifCond.holds .gt (lcmpW u v) = true := XT.ll_gt_t b
theorem ll_gt_f {u v : Int64} (b : ¬ v < u) : ifCond.holds .gt (lcmpW u v) = false := XT.ll_gt_f b
theorem W.lif_gt (C : Cx p s m meth c Z y bytes ml ret) {u v : Int64} {o : Int} (pc' : Nat) (d : decode bytes pc = .ok (.ifCond .gt o, 3)) (hp : (pc : Int) + o = pc') (yes : v < u → W p l e R s m args below meth c n0 Q kc ks k n h pc' ls st) (no : ¬ v < u → W p l e R s m args below meth c n0 Q kc ks k n h (pc + 3) ls st) : W p l e R s m args below meth c n0 Q kc ks k n h pc ls (.int (lcmpW u v) :: st) := by
  by_cases b : v < u
  · exact W.lift (fun T t H S => XS.ifYes H C.1 rfl (pc0 := pc) (pc' := pc') rfl (C.a d) rfl (ll_gt_t b) (jmp hp).1 (jmp hp).2 S) (yes b)
  · exact W.lift (fun T t H S => XS.ifNo H C.1 rfl (C.a d) rfl (ll_gt_f b) S) (no b)
theorem W.icmp_le (C : Cx p s m meth c Z y bytes ml ret) {u v : Int32} {o : Int} (pc' : Nat) (d : decode bytes pc = .ok (.if_icmp .le o, 3)) (hp : (pc : Int) + o = pc') (yes : ¬ v < u → W p l e R s m args below meth c n0 Q kc ks k n h pc' ls st) (no : v < u → W p l e R s m args below meth c n0 Q kc ks k n h (pc + 3) ls st) : W p l e R s m args below meth c n0 Q kc ks k n h pc ls (.int v :: .int u :: st) := by
  by_cases b : v < u
  · exact W.lift (fun T t H S => XS.icmpNo H C.1 rfl (C.a d) rfl (XT.ii_le_f b) S) (no b)
  · exact W.lift (fun T t H S => XS.icmpYes H C.1 rfl (pc0 := pc) (pc' := pc') rfl (C.a d) rfl (XT.ii_le_t b) (jmp hp).1 (jmp hp).2 S) (yes b)
theorem W.if_le (C : Cx p s m meth c Z y bytes ml ret) {u : Int32} {o : Int} (pc' : Nat) (d : decode bytes pc = .ok (.ifCond .le o, 3)) (hp : (pc : Int) + o = pc') (yes : ¬ 0 < u → W p l e R s m args below meth c n0 Q kc ks k n h pc' ls st) (no : 0 < u → W p l e R s m args below meth c n0 Q kc ks k n h (pc + 3) ls st) : W p l e R s m args below meth c n0 Q kc ks k n h pc ls (.int u :: st) := by
  by_cases b : 0 < u
  · exact W.lift (fun T t H S => XS.ifNo H C.1 rfl (C.a d) rfl (XT.i0_le_f b) S) (no b)
  · exact W.lift (fun T t H S => XS.ifYes H C.1 rfl (pc0 := pc) (pc' := pc') rfl (C.a d) rfl (XT.i0_le_t b) (jmp hp).1 (jmp hp).2 S) (yes b)
theorem ll_le_t {u v : Int64} (b : ¬ v < u) : ifCond.holds .le (lcmpW u v) = true := XT.ll_le_t b
theorem ll_le_f {u v : Int64} (b : v < u) : ifCond.holds .le (lcmpW u v) = false := XT.ll_le_f b
theorem W.lif_le (C : Cx p s m meth c Z y bytes ml ret) {u v : Int64} {o : Int} (pc' : Nat) (d : decode bytes pc = .ok (.ifCond .le o, 3)) (hp : (pc : Int) + o = pc') (yes : ¬ v < u → W p l e R s m args below meth c n0 Q kc ks k n h pc' ls st) (no : v < u → W p l e R s m args below meth c n0 Q kc ks k n h (pc + 3) ls st) : W p l e R s m args below meth c n0 Q kc ks k n h pc ls (.int (lcmpW u v) :: st) := by
  by_cases b : v < u
  · exact W.lift (fun T t H S => XS.ifNo H C.1 rfl (C.a d) rfl (ll_le_f b) S) (no b)
  · exact W.lift (fun T t H S => XS.ifYes H C.1 rfl (pc0 := pc) (pc' := pc') rfl (C.a d) rfl (ll_le_t b) (jmp hp).1 (jmp hp).2 S) (yes b)
theorem W.ifnullNo (C : Cx p s m meth c Z y bytes ml ret) {b : Addr} {o : Int} (d : decode bytes pc = .ok (.ifnull o, 3)) (K : W p l e R s m args below meth c n0 Q kc ks k n h (pc + 3) ls st) : W p l e R s m args below meth c n0 Q kc ks k n h pc ls (.ref b :: st) :=
  W.lift (fun T t H S => XS.ifnullNo H C.1 rfl (C.a d) rfl S) K
theorem W.ifnullYes (C : Cx p s m meth c Z y bytes ml ret) {o : Int} (pc' : Nat) (d : decode bytes pc = .ok (.ifnull o, 3)) (hp : (pc : Int) + o = pc') (K : W p l e R s m args below meth c n0 Q kc ks k n h pc' ls st) : W p l e R s m args below meth c n0 Q kc ks k n h pc ls (.null :: st) :=
  W.lift (fun T t H S => XS.ifnullYes H C.1 rfl (pc0 := pc) (pc' := pc') rfl (C.a d) rfl (jmp hp).1 (jmp hp).2 S) K
theorem W.ifnonnullYes (C : Cx p s m meth c Z y bytes ml ret) {b : Addr} {o : Int} (pc' : Nat) (d : decode bytes pc = .ok (.ifnonnull o, 3)) (hp : (pc : Int) + o = pc') (K : W p l e R s m args below meth c n0 Q kc ks k n h pc' ls st) : W p l e R s m args below meth c n0 Q kc ks k n h pc ls (.ref b :: st) :=
  W.lift (fun T t H S => XT.ifnonnullYes H C.1 rfl (pc0 := pc) (pc' := pc') rfl (C.a d) rfl (jmp hp).1 (jmp hp).2 S) K
theorem W.ifnonnullNo (C : Cx p s m meth c Z y bytes ml ret) {o : Int} (d : decode bytes pc = .ok (.ifnonnull o, 3)) (K : W p l e R s m args below meth c n0 Q kc ks k n h (pc + 3) ls st) : W p l e R s m args below meth c n0 Q kc ks k n h pc ls (.null :: st) :=
  W.lift (fun T t H S => XT.ifnonnullNo H C.1 rfl (C.a d) rfl S) K
theorem W.acmp_eq (C : Cx p s m meth c Z y bytes ml ret) {u v : Value} {o : Int} (pc' : Nat) (d : decode bytes pc = .ok (.if_acmp .eq o, 3)) (hu : u.isRef = true) (hv : v.isRef = true) (hp : (pc : Int) + o = pc') (yes : u = v → W p l e R s m args below meth c n0 Q kc ks k n h pc' ls st) (no : ¬ u = v → W p l e R s m args below meth c n0 Q kc ks k n h (pc + 3) ls st) : W p l e R s m args below meth c n0 Q kc ks k n h pc ls (v :: u :: st) := by
  by_cases b : u = v
  · exact W.lift (fun T t H S => XT.acmpYes H C.1 rfl (pc0 := pc) (pc' := pc') rfl (C.a d) rfl hu hv (XT.aa_eq_t b) (jmp hp).1 (jmp hp).2 S) (yes b)
  · exact W.lift (fun T t H S => XT.acmpNo H C.1 rfl (C.a d) rfl hu hv (XT.aa_eq_f b) S) (no b)
theorem W.acmp_ne (C : Cx p s m meth c Z y bytes ml ret) {u v : Value} {o : Int} (pc' : Nat) (d : decode bytes pc = .ok (.if_acmp .ne o, 3)) (hu : u.isRef = true) (hv : v.isRef = true) (hp : (pc : Int) + o = pc') (yes : ¬ u = v → W p l e R s m args below meth c n0 Q kc ks k n h pc' ls st) (no : u = v → W p l e R s m args below meth c n0 Q kc ks k n h (pc + 3) ls st) : W p l e R s m args below meth c n0 Q kc ks k n h pc ls (v :: u :: st) := by
  by_cases b : u = v
  · exact W.lift (fun T t H S => XT.acmpNo H C.1 rfl (C.a d) rfl hu hv (XT.aa_ne_f b) S) (no b)
  · exact W.lift (fun T t H S => XT.acmpYes H C.1 rfl (pc0 := pc) (pc' := pc') rfl (C.a d) rfl hu hv (XT.aa_ne_t b) (jmp hp).1 (jmp hp).2 S) (yes b)
theorem W.ldcI (C : Cx p s m meth c Z y bytes ml ret) {i : Nat} {v : Int32} (d : decode bytes pc = .ok (.ldc i, 2)) (w : (Jvm.Cond.constant y.cls i v).before a0 Z = true) (K : W p l e R s m args below meth c n0 Q kc ks k n h (pc + 2) ls (.int v :: st)) : W p l e R s m args below meth c n0 Q kc ks k n h pc ls st := fun T locs X eT N => by
  obtain ⟨s₂, o, h1, h2⟩ := K T locs X eT N
  exact ⟨s₂, o, X.ldcI C.1 C.2.2.1 (mvT C.2.1 w) rfl (C.a d) h1, h2⟩
theorem W.ldcWI (C : Cx p s m meth c Z y bytes ml ret) {i : Nat} {v : Int32} (d : decode bytes pc = .ok (.ldc_w i, 3)) (w : (Jvm.Cond.constant y.cls i v).before a0 Z = true) (K : W p l e R s m args below meth c n0 Q kc ks k n h (pc + 3) ls (.int v :: st)) : W p l e R s m args below meth c n0 Q kc ks k n h pc ls st := fun T locs X eT N => by
  obtain ⟨s₂, o, h1, h2⟩ := K T locs X eT N
  exact ⟨s₂, o, X.ldcWI C.1 C.2.2.1 (mvT C.2.1 w) rfl (C.a d) h1, h2⟩
theorem W.ldc2J (C : Cx p s m meth c Z y bytes ml ret) {i : Nat} {v : Int64} (d : decode bytes pc = .ok (.ldc2_w i, 3)) (w : (Jvm.Cond.constantLong y.cls i v).before a0 Z = true) (K : W p l e R s m args below meth c n0 Q kc ks k n h (pc + 3) ls (.long v :: st)) : W p l e R s m args below meth c n0 Q kc ks k n h pc ls st := fun T locs X eT N => by
  obtain ⟨s₂, o, h1, h2⟩ := K T locs X eT N
  exact ⟨s₂, o, X.ldc2J C.1 C.2.2.1 (mvT C.2.1 w) rfl (C.a d) h1, h2⟩
theorem W.iret {t : FieldType} {z : Int32} (C : Cx p s m meth c Z y bytes ml (some t)) (d : decode bytes pc = .ok (.ireturn, 1)) (ht : t = .int ∨ t = .boolean ∨ t = .byte ∨ t = .char ∨ t = .short) (hn : narrow t (.int z) = .int z) (hk : k ≤ kc) (hs : n ≤ ks) (q : Q (some (.int z)) h) : W p l e R s m args below meth c n0 Q kc ks k n h pc ls (.int z :: st) := fun T locs X eT N => by
  obtain ⟨fs, hr, hrun, hended, hW, hsame⟩ := X.leave (v := some (.int z)) (fun q => by rw [C.2.2.2.2.2.1] at q; cases q) C.2.2.2.2.2.2.1
  exact ⟨_, _, retOut X C.1 C.2.2.2.2.2.1 hn (Or.inl ⟨rfl, ht, z, rfl⟩) (C.a d) hr, hrun, hended, _, _, rfl, ⟨by subst eT; exact q, N⟩, ⟨_, rfl⟩, hW, hsame.mono hk hs⟩
theorem W.lret {t : FieldType} {z : Int64} (C : Cx p s m meth c Z y bytes ml (some t)) (d : decode bytes pc = .ok (.lreturn, 1)) (ht : t = .long) (hn : narrow t (.long z) = .long z) (hk : k ≤ kc) (hs : n ≤ ks) (q : Q (some (.long z)) h) : W p l e R s m args below meth c n0 Q kc ks k n h pc ls (.long z :: st) := fun T locs X eT N => by
  obtain ⟨fs, hr, hrun, hended, hW, hsame⟩ := X.leave (v := some (.long z)) (fun q => by rw [C.2.2.2.2.2.1] at q; cases q) C.2.2.2.2.2.2.1
  exact ⟨_, _, retOut X C.1 C.2.2.2.2.2.1 hn (Or.inr (Or.inl ⟨rfl, ht, z, rfl⟩)) (C.a d) hr, hrun, hended, _, _, rfl, ⟨by subst eT; exact q, N⟩, ⟨_, rfl⟩, hW, hsame.mono hk hs⟩
theorem W.aret {t : FieldType} {z : Value} (C : Cx p s m meth c Z y bytes ml (some t)) (d : decode bytes pc = .ok (.areturn, 1)) (ht : t.isReference = true) (hz : z.isRef = true) (hn : narrow t (z) = z) (hk : k ≤ kc) (hs : n ≤ ks) (q : Q (some (z)) h) : W p l e R s m args below meth c n0 Q kc ks k n h pc ls (z :: st) := fun T locs X eT N => by
  obtain ⟨fs, hr, hrun, hended, hW, hsame⟩ := X.leave (v := some (z)) (fun q => by rw [C.2.2.2.2.2.1] at q; cases q) C.2.2.2.2.2.2.1
  exact ⟨_, _, retOut X C.1 C.2.2.2.2.2.1 hn (Or.inr (Or.inr (Or.inr (Or.inr ⟨rfl, ht, hz⟩)))) (C.a d) hr, hrun, hended, _, _, rfl, ⟨by subst eT; exact q, N⟩, ⟨_, rfl⟩, hW, hsame.mono hk hs⟩
theorem W.retV (C : Cx p s m meth c Z y bytes ml none) (d : decode bytes pc = .ok (.return_, 1)) (hk : k ≤ kc) (hs : n ≤ ks) (q : Q none h) : W p l e R s m args below meth c n0 Q kc ks k n h pc ls [] := fun T locs X eT N => by
  obtain ⟨fs, hr, hrun, hended, hW, hsame⟩ := X.leave (v := none) (fun _ => rfl) C.2.2.2.2.2.2.1
  exact ⟨_, _, X.returnOut C.1 C.2.2.2.2.2.1 (C.a d) hr, hrun, hended, _, _, rfl, ⟨by subst eT; exact q, N⟩, ⟨_, rfl⟩, hW, hsame.mono hk hs⟩
theorem W.callS (C : Cx p s m meth c Z y bytes ml ret) {y' : MethodName} {index : Nat} {bytes' : ByteArray} {ml' : Nat} {ret' : Option FieldType} {rm : Room} {Q' : Option Value → Heap → Prop} (d : decode bytes pc = .ok (.invokestatic index, 3)) (w1 : (Jvm.Cond.methodLink y.cls index y').before a0 Z = true) (w2 : (Jvm.Cond.static y').before a0 Z = true) (w3 : (Jvm.Cond.initialized y'.cls).before a0 Z = true) (w4 : (Jvm.Cond.code y' bytes' ml' ret').before a0 Z = true) (hy : y'.cls ≠ "java/lang/invoke/MethodHandle" ∧ y'.cls ≠ "java/lang/invoke/VarHandle")
    {argsL rest : List Value} (hst : st = argsL.reverse ++ rest) (hlen : ∀ sig, parseMethodDescriptor y'.desc = some sig → argsL.length = sig.parameters.length) (D : Con l Z y' bytes' ml' ret' rm argsL.toArray h n0 Q') (w k' n' : Nat) (hW : (rest.map fun v => v.category).sum = w) (hk : k + rm.cells = k') (hn : n + rm.slots = n') (hf : rm.frames + 1 ≤ R.frames) (hl : w + (ml' + 11) + rm.locals ≤ R.locals) (hc : k' ≤ R.cells) (hs : n' ≤ R.slots) (hsz : ls.size = ml)
    (K : ∀ v h', Q' v h' → W p l e R s m args below meth c n0 Q kc ks k' n' h' (pc + 3) ls (v.toList ++ rest)) : W p l e R s m args below meth c n0 Q kc ks k n h pc ls st := fun T locs X eT N => by
  obtain ⟨_, _, ⟨T1, L1, k1, n1⟩, -, X1, ⟨Lc1, hQ1, l1, y1, z1⟩, st1⟩ := Jvm.LawKit.callS X C.1 (y := y') C.2.2.1 (mvT C.2.1 w1) (mvT C.2.1 w2) (mvT C.2.1 w3) (mvT C.2.1 w4) hy (backOf (W := w) (Q := fun v h' L => Q' v h' ∧ Fr n0 L) (D []) C.2.1 w4 w3 hf hl) (g := mkF m pc ls st) rfl (hsz.trans C.2.2.2.2.1.symm) (argsL := argsL) (rest := rest) hlen hst (by show 2 * 0 + _ ≤ _; omega) (C.a d) (fun _ _ => ⟨rfl, eT, by rw [hk]; exact hc, by rw [hn]; exact hs⟩)
  dsimp only [Pt.U, Pt.locs, Pt.cells, Pt.slots] at X1 l1 y1 z1 st1 hQ1
  subst l1
  rw [hk] at y1
  rw [hn] at z1
  subst y1 z1
  obtain ⟨s₂, o, g1, g2⟩ := K _ _ hQ1.1 T1 _ X1 rfl (Fr.app N hQ1.2)
  exact ⟨s₂, o, st1 _ g1, g2⟩
theorem W.callI (C : Cx p s m meth c Z y bytes ml ret) {y' : MethodName} {index : Nat} {bytes' : ByteArray} {ml' : Nat} {rm : Room} {Q' : Option Value → Heap → Prop} (d : decode bytes pc = .ok (.invokespecial index, 3)) (hi : y'.name = "<init>") (w1 : (Jvm.Cond.methodLink y.cls index y').before a0 Z = true) (w2 : (Jvm.Cond.instanceMethod y').before a0 Z = true) (w3 : (Jvm.Cond.initialized y'.cls).before a0 Z = true) (w4 : (Jvm.Cond.code y' bytes' ml' none).before a0 Z = true) (hy : y'.cls ≠ "java/lang/invoke/MethodHandle" ∧ y'.cls ≠ "java/lang/invoke/VarHandle")
    {a : Addr} {argsL rest : List Value} (hst : st = argsL.reverse ++ .ref a :: rest) (hlen : ∀ sig, parseMethodDescriptor y'.desc = some sig → argsL.length = sig.parameters.length) (D : Con l Z y' bytes' ml' none rm (.ref a :: argsL).toArray h n0 Q') (w k' n' : Nat) (hW : (rest.map fun v => v.category).sum = w) (hk : k + rm.cells = k') (hn : n + rm.slots = n') (hf : rm.frames + 1 ≤ R.frames) (hl : w + (ml' + 11) + rm.locals ≤ R.locals) (hc : k' ≤ R.cells) (hs : n' ≤ R.slots) (hsz : ls.size = ml)
    (K : ∀ v h', Q' v h' → W p l e R s m args below meth c n0 Q kc ks k' n' h' (pc + 3) ls (v.toList ++ rest)) : W p l e R s m args below meth c n0 Q kc ks k n h pc ls st := fun T locs X eT N => by
  obtain ⟨_, _, ⟨T1, L1, k1, n1⟩, -, X1, ⟨Lc1, hQ1, l1, y1, z1⟩, st1⟩ := X.specialBack C.1 (y := y') hi C.2.2.1 (mvT C.2.1 w1) (mvT C.2.1 w2) (mvT C.2.1 w4) hy (backOf (W := w) (Q := fun v h' L => Q' v h' ∧ Fr n0 L) (D []) C.2.1 w4 w3 hf hl) (g := mkF m pc ls st) rfl (hsz.trans C.2.2.2.2.1.symm) (Steps.refl _) (a := a) (argsL := argsL) (rest := rest) hlen hst (by show 2 * 0 + _ ≤ _; omega) (C.a d) (fun _ _ => ⟨rfl, eT, by rw [hk]; exact hc, by rw [hn]; exact hs⟩)
  dsimp only [Pt.U, Pt.locs, Pt.cells, Pt.slots] at X1 l1 y1 z1 st1 hQ1
  subst l1
  rw [hk] at y1
  rw [hn] at z1
  subst y1 z1
  obtain ⟨s₂, o, g1, g2⟩ := K _ _ hQ1.1 T1 _ X1 rfl (Fr.app N hQ1.2)
  exact ⟨s₂, o, st1.trans g1, g2⟩
theorem W.callV (C : Cx p s m meth c Z y bytes ml ret) {y' : MethodName} {K0 : String} {index : Nat} {bytes' : ByteArray} {ml' : Nat} {ret' : Option FieldType} {rm : Room} {Q' : Option Value → Heap → Prop} (d : decode bytes pc = .ok (.invokevirtual index, 3)) (w1 : (Jvm.Cond.methodLink y.cls index y').before a0 Z = true) (w2 : (Jvm.Cond.declares y').before a0 Z = true) (w5 : (Jvm.Cond.selects K0 y' y').before a0 Z = true) (w6 : (Jvm.Cond.instanceMethod y').before a0 Z = true) (w3 : (Jvm.Cond.initialized y'.cls).before a0 Z = true) (w4 : (Jvm.Cond.code y' bytes' ml' ret').before a0 Z = true) (hy : y'.cls ≠ "java/lang/invoke/MethodHandle" ∧ y'.cls ≠ "java/lang/invoke/VarHandle")
    {a : Addr} (E : Exa Z h a K0) {argsL rest : List Value} (hst : st = argsL.reverse ++ .ref a :: rest) (hlen : ∀ sig, parseMethodDescriptor y'.desc = some sig → argsL.length = sig.parameters.length) (D : Con l Z y' bytes' ml' ret' rm (.ref a :: argsL).toArray h n0 Q') (w k' n' : Nat) (hW : (rest.map fun v => v.category).sum = w) (hk : k + rm.cells = k') (hn : n + rm.slots = n') (hf : rm.frames + 1 ≤ R.frames) (hl : w + (ml' + 11) + rm.locals ≤ R.locals) (hc : k' ≤ R.cells) (hs : n' ≤ R.slots) (hsz : ls.size = ml)
    (K : ∀ v h', Q' v h' → W p l e R s m args below meth c n0 Q kc ks k' n' h' (pc + 3) ls (v.toList ++ rest)) : W p l e R s m args below meth c n0 Q kc ks k n h pc ls st := fun T locs X eT N => by
  obtain ⟨cq, kq, qa, qb, qc⟩ := isOf C.2.1 eT E
  obtain ⟨_, _, ⟨T1, L1, k1, n1⟩, -, X1, ⟨Lc1, hQ1, l1, y1, z1⟩, st1⟩ := X.virtualBack C.1 (y := y') (z := y') C.2.2.1 (mvT C.2.1 w1) (mvT C.2.1 w2) (notFace_of_selects (args := #[]) (mvT C.2.1 w5)) (mvT C.2.1 w5) (mvT C.2.1 w6) hy (backOf (W := w) (Q := fun v h' L => Q' v h' ∧ Fr n0 L) (D []) C.2.1 w4 w3 hf hl) qa qc (g := mkF m pc ls st) rfl (hsz.trans C.2.2.2.2.1.symm) (Steps.refl _) (argsL := argsL) (rest := rest) hlen hst (by show 2 * 0 + _ ≤ _; omega) (C.a d) (fun _ _ => ⟨rfl, eT, by rw [hk]; exact hc, by rw [hn]; exact hs⟩)
  dsimp only [Pt.U, Pt.locs, Pt.cells, Pt.slots] at X1 l1 y1 z1 st1 hQ1
  subst l1
  rw [hk] at y1
  rw [hn] at z1
  subst y1 z1
  obtain ⟨s₂, o, g1, g2⟩ := K _ _ hQ1.1 T1 _ X1 rfl (Fr.app N hQ1.2)
  exact ⟨s₂, o, st1.trans g1, g2⟩
theorem W.initO (C : Cx p s m meth c Z y bytes ml ret) {index : Nat} (d : decode bytes pc = .ok (.invokespecial index, 3)) (w1 : (Jvm.Cond.methodLink y.cls index Lib.objectInit).before a0 Z = true) (w2 : (Jvm.Cond.instanceMethod Lib.objectInit).before a0 Z = true) (w3 : (Jvm.Cond.code Lib.objectInit ⟨#[0xb1]⟩ 1 none).before a0 Z = true)
    {a : Addr} (w : Nat) (hW : (st.map fun v => v.category).sum = w) (hf : 1 ≤ R.frames) (hl : w + 12 ≤ R.locals) (hsz : ls.size = ml) (K : W p l e R s m args below meth c n0 Q kc ks k n h (pc + 3) ls st) : W p l e R s m args below meth c n0 Q kc ks k n h pc ls (.ref a :: st) := fun T locs X eT N => by
  obtain ⟨T1, X1, e1, st1⟩ := Jvm.RoadKit.initO X C.1 C.2.1 C.2.2.1 w1 w2 w3 eT (g := mkF m pc ls (.ref a :: st)) rfl (hsz.trans C.2.2.2.2.1.symm) rfl (C.a d) hf (W := w) (by show 2 * 0 + _ ≤ _; omega) hl
  obtain ⟨s₂, o, g1, g2⟩ := K T1 _ X1 e1 N
  exact ⟨s₂, o, st1 _ g1, g2⟩
theorem W.new (C : Cx p s m meth c Z y bytes ml ret) {index sz : Nat} {K0 : String} (d : decode bytes pc = .ok (.new index, 3)) (w1 : (Jvm.Cond.classLink y.cls index K0).before a0 Z = true) (w2 : (Jvm.Cond.instantiable K0 sz).before a0 Z = true) (w3 : (Jvm.Cond.initialized K0).before a0 Z = true) (k' n' : Nat) (hk : k + 1 = k') (hn : n + sz = n') (hc : k' ≤ R.cells) (hs : n' ≤ R.slots)
    (K : ∀ a h', a = h.size → Ext h h' → Exa Z h' a K0 → (∀ {O nm d : String} {ty : FieldType}, Laid Z a0 K0 O nm d → parseFieldDescriptor d = some ty → Fld Z h' a O nm d (defaultValue ty)) → W p l e R s m args below meth c n0 Q kc ks k' n' h' (pc + 3) ls (.ref a :: st)) : W p l e R s m args below meth c n0 Q kc ks k n h pc ls st := fun T locs X eT N => by
  subst hk hn
  obtain ⟨T1, h1, X1, e1, E1, A1, D1, -, st1⟩ := newO X C.1 C.2.1 C.2.2.1 w1 w2 w3 eT (g := mkF m pc ls st) rfl (C.a d) hc hs
  obtain ⟨s₂, o, g1, g2⟩ := K _ h1 rfl E1 A1 D1 T1 _ X1 e1 N
  exact ⟨s₂, o, st1 _ g1, g2⟩
theorem W.getF (C : Cx p s m meth c Z y bytes ml ret) {index : Nat} {R0 O nm dd : String} (d : decode bytes pc = .ok (.getfield index, 3)) (w : (Jvm.Cond.fieldLink y.cls index R0 nm dd).before a0 Z = true) (via : Via Z R0 O nm dd) {a : Addr} {v : Value} (F : Fld Z h a O nm dd v) (K : W p l e R s m args below meth c n0 Q kc ks k n h (pc + 3) ls (v :: st)) : W p l e R s m args below meth c n0 Q kc ks k n h pc ls (.ref a :: st) := fun T locs X eT N => by
  obtain ⟨T1, X1, e1, st1⟩ := Jvm.RoadKit.getF X C.1 C.2.1 C.2.2.1 (host := "") (Or.inl w) via eT F (g := mkF m pc ls (.ref a :: st)) rfl rfl (C.a d)
  obtain ⟨s₂, o, g1, g2⟩ := K T1 _ X1 e1 N
  exact ⟨s₂, o, st1 _ g1, g2⟩
theorem W.getFN (C : Cx p s m meth c Z y bytes ml ret) {index : Nat} {R0 O nm dd host : String} (d : decode bytes pc = .ok (.getfield index, 3)) (w : (Jvm.Cond.fieldLinkNest y.cls index R0 nm dd host).before a0 Z = true) (via : Via Z R0 O nm dd) {a : Addr} {v : Value} (F : Fld Z h a O nm dd v) (K : W p l e R s m args below meth c n0 Q kc ks k n h (pc + 3) ls (v :: st)) : W p l e R s m args below meth c n0 Q kc ks k n h pc ls (.ref a :: st) := fun T locs X eT N => by
  obtain ⟨T1, X1, e1, st1⟩ := Jvm.RoadKit.getF X C.1 C.2.1 C.2.2.1 (host := host) (Or.inr w) via eT F (g := mkF m pc ls (.ref a :: st)) rfl rfl (C.a d)
  obtain ⟨s₂, o, g1, g2⟩ := K T1 _ X1 e1 N
  exact ⟨s₂, o, st1 _ g1, g2⟩
theorem W.getS (C : Cx p s m meth c Z y bytes ml ret) {index : Nat} {R0 O nm dd : String} (d : decode bytes pc = .ok (.getstatic index, 3)) (w : (Jvm.Cond.fieldLink y.cls index R0 nm dd).before a0 Z = true) (via : Via Z R0 O nm dd) {v : Value} (F : Sta Z h O nm dd v) (K : W p l e R s m args below meth c n0 Q kc ks k n h (pc + 3) ls (v :: st)) : W p l e R s m args below meth c n0 Q kc ks k n h pc ls st := fun T locs X eT N => by
  obtain ⟨T1, X1, e1, st1⟩ := Jvm.RoadKit.getS X C.1 C.2.1 (host := "") C.2.2.1 w via eT F (g := mkF m pc ls st) rfl (C.a d)
  obtain ⟨s₂, o, g1, g2⟩ := K T1 _ X1 e1 N
  exact ⟨s₂, o, st1 _ g1, g2⟩
theorem W.putF (C : Cx p s m meth c Z y bytes ml ret) {index kk : Nat} {R0 O nm dd K0 : String} {ty : FieldType} (d : decode bytes pc = .ok (.putfield index, 3)) (w : (Jvm.Cond.fieldLink y.cls index R0 nm dd).before a0 Z = true) (via : Via Z R0 O nm dd) {a : Addr} {v old : Value} (F : Fld Z h a O nm dd old) (E : Exa Z h a K0) (L : (Jvm.Cond.lays K0 O nm dd).before a0 Z = true ∨ ((Jvm.Cond.laysFinal K0 O nm dd).before a0 Z = true ∧ y.cls = O ∧ y.name = "<init>")) (wi : (Jvm.Cond.instantiable K0 kk).before a0 Z = true)
    (hty : parseFieldDescriptor dd = some ty) (hn : narrow ty v = v) (hf : fits ty v = true) (g : n0 ≤ a) (K : ∀ h', Wr h h' a (Jvm.RoadKit.slotOf Z O nm dd) v → W p l e R s m args below meth c n0 Q kc ks k n h' (pc + 3) ls st) : W p l e R s m args below meth c n0 Q kc ks k n h pc ls (v :: .ref a :: st) := fun T locs X eT N => by
  obtain ⟨T1, h1, X1, e1, W1, st1⟩ := Jvm.RoadKit.putF X C.1 C.2.1 C.2.2.1 (host := "") (Or.inl w) via eT F E (L.imp id fun q => ⟨q.1, q.2.1, C.2.2.2.2.2.2.2.trans q.2.2⟩) wi hty hn hf (g := mkF m pc ls (v :: .ref a :: st)) rfl rfl (C.a d)
  obtain ⟨s₂, o, g1, g2⟩ := K h1 W1 T1 _ X1 e1 (Fr.snoc X1 N g)
  exact ⟨s₂, o, st1 _ g1, g2⟩
/-- an array at a of component type ty that holds vs -/
def Al (Z : State) (h : Heap) (a : Addr) (ty : FieldType) (vs : List Value) : Prop := ∃ c : Cell, Arr Z h a c ty ∧ c.slots = vs.toArray
theorem Al.lt {a : Addr} {ty : FieldType} {vs : List Value} (F : Al Z h a ty vs) : a < h.size := by obtain ⟨c, A, -⟩ := F; exact A.lt
theorem Al.ext {a : Addr} {ty : FieldType} {vs : List Value} {h' : Heap} (F : Al Z h a ty vs) (E : Ext h h') : Al Z h' a ty vs := by obtain ⟨c, A, r⟩ := F; exact ⟨c, A.ext E, r⟩
theorem Al.other {a b : Addr} {ty : FieldType} {vs : List Value} {h' : Heap} {sl : Nat} {v : Value} (F : Al Z h b ty vs) (U : Wr h h' a sl v) (q : b ≠ a) : Al Z h' b ty vs := by obtain ⟨c, A, r⟩ := F; exact ⟨c, A.other U q, r⟩
theorem Al.keep {a : Addr} {ty : FieldType} {vs : List Value} {h' : Heap} {ws : List Addr} (F : Al Z h a ty vs) (K : Keep h h' ws) (q : a ∉ ws) : Al Z h' a ty vs := by obtain ⟨c, A, r⟩ := F; exact ⟨c, ⟨K.2.1 a c A.1 q, A.2⟩, r⟩
theorem Al.set {a : Addr} {ty : FieldType} {vs : List Value} {h' : Heap} {i : Nat} {v : Value} (F : Al Z h a ty vs) (U : Wr h h' a i v) : Al Z h' a ty (vs.set i v) := by
  obtain ⟨c, A, r⟩ := F
  refine ⟨_, A.same U, ?_⟩
  simp [Cell.setSlot, r]
theorem idx_of {j : Int32} {i : Nat} (hi : j.toInt = (i : Int)) : ¬ j < 0 ∧ j.toNatClampNeg = i := by
  refine ⟨fun q => ?_, ?_⟩
  · rw [Int32.lt_iff_toInt_lt] at q
    have : (0 : Int32).toInt = 0 := rfl
    omega
  · show j.toInt.toNat = i
    omega
theorem inb_of_idx {j : Int32} {i : Nat} {cl : Cell} {vs : List Value} (hi : j.toInt = (i : Int)) (r : cl.slots = vs.toArray) (hb : i < vs.length) : ¬ (j < 0 ∨ cl.slots.size ≤ j.toNatClampNeg) := by
  obtain ⟨q1, q2⟩ := idx_of hi
  rw [q2, r]
  simp only [List.size_toArray]
  rintro (z | z)
  · exact q1 z
  · omega
theorem W.arrlen (C : Cx p s m meth c Z y bytes ml ret) {a : Addr} {ty : FieldType} {vs : List Value} (z : Int32) (d : decode bytes pc = .ok (.arraylength, 1)) (A : Al Z h a ty vs) (hz : vs.length.toInt32 = z) (K : W p l e R s m args below meth c n0 Q kc ks k n h (pc + 1) ls (.int z :: st)) : W p l e R s m args below meth c n0 Q kc ks k n h pc ls (.ref a :: st) := fun T locs X eT N => by
  obtain ⟨cl, A, r⟩ := A
  obtain ⟨s₂, o, g1, g2⟩ := K T locs X eT N
  refine ⟨s₂, o, X.arraylength C.1 (by rw [eT]; exact A.1) (State.isArrayOf_alike C.2.1.alike A.2.1) (g := mkF m pc ls (.ref a :: st)) rfl rfl (C.a d) _ ?_, g2⟩
  have : cl.slots.size.toInt32 = z := by rw [r]; simpa using hz
  rw [this]; exact g1
theorem W.iaload (C : Cx p s m meth c Z y bytes ml ret) {a : Addr} {vs : List Value} {j : Int32} (i : Nat) {v : Value} (d : decode bytes pc = .ok (.iaload, 1)) (A : Al Z h a .int vs) (hi : j.toInt = (i : Int)) (hv : vs[i]? = some v) (K : W p l e R s m args below meth c n0 Q kc ks k n h (pc + 1) ls (v :: st)) : W p l e R s m args below meth c n0 Q kc ks k n h pc ls (.int j :: .ref a :: st) := fun T locs X eT N => by
  obtain ⟨cl, A, r⟩ := A
  obtain ⟨s₂, o, g1, g2⟩ := K T locs X eT N
  have hb : i < vs.length := (List.getElem?_eq_some_iff.mp hv).1
  exact ⟨s₂, o, X.iaload C.1 (j := j) (v := v) (by rw [eT]; exact A.1) (State.isArrayOf_alike C.2.1.alike A.2.1) A.2.2 (inb_of_idx hi r hb) (by rw [(idx_of hi).2, r]; simpa using hv) (g := mkF m pc ls (.int j :: .ref a :: st)) rfl rfl (C.a d) _ g1, g2⟩
theorem W.laload (C : Cx p s m meth c Z y bytes ml ret) {a : Addr} {vs : List Value} {j : Int32} (i : Nat) {v : Value} (d : decode bytes pc = .ok (.laload, 1)) (A : Al Z h a .long vs) (hi : j.toInt = (i : Int)) (hv : vs[i]? = some v) (K : W p l e R s m args below meth c n0 Q kc ks k n h (pc + 1) ls (v :: st)) : W p l e R s m args below meth c n0 Q kc ks k n h pc ls (.int j :: .ref a :: st) := fun T locs X eT N => by
  obtain ⟨cl, A, r⟩ := A
  obtain ⟨s₂, o, g1, g2⟩ := K T locs X eT N
  have hb : i < vs.length := (List.getElem?_eq_some_iff.mp hv).1
  exact ⟨s₂, o, X.laload C.1 (j := j) (v := v) (by rw [eT]; exact A.1) (State.isArrayOf_alike C.2.1.alike A.2.1) A.2.2 (inb_of_idx hi r hb) (by rw [(idx_of hi).2, r]; simpa using hv) (g := mkF m pc ls (.int j :: .ref a :: st)) rfl rfl (C.a d) _ g1, g2⟩
theorem W.baload (C : Cx p s m meth c Z y bytes ml ret) {a : Addr} {vs : List Value} {j : Int32} (i : Nat) {v : Value} (d : decode bytes pc = .ok (.baload, 1)) (A : Al Z h a .byte vs) (hi : j.toInt = (i : Int)) (hv : vs[i]? = some v) (K : W p l e R s m args below meth c n0 Q kc ks k n h (pc + 1) ls (v :: st)) : W p l e R s m args below meth c n0 Q kc ks k n h pc ls (.int j :: .ref a :: st) := fun T locs X eT N => by
  obtain ⟨cl, A, r⟩ := A
  obtain ⟨s₂, o, g1, g2⟩ := K T locs X eT N
  have hb : i < vs.length := (List.getElem?_eq_some_iff.mp hv).1
  exact ⟨s₂, o, X.baloadBytes C.1 (j := j) (v := v) (by rw [eT]; exact A.1) (State.isArrayOf_alike C.2.1.alike A.2.1) A.2.2 (inb_of_idx hi r hb) (by rw [(idx_of hi).2, r]; simpa using hv) (g := mkF m pc ls (.int j :: .ref a :: st)) rfl rfl (C.a d) _ g1, g2⟩
theorem W.caload (C : Cx p s m meth c Z y bytes ml ret) {a : Addr} {vs : List Value} {j : Int32} (i : Nat) {v : Value} (d : decode bytes pc = .ok (.caload, 1)) (A : Al Z h a .char vs) (hi : j.toInt = (i : Int)) (hv : vs[i]? = some v) (K : W p l e R s m args below meth c n0 Q kc ks k n h (pc + 1) ls (v :: st)) : W p l e R s m args below meth c n0 Q kc ks k n h pc ls (.int j :: .ref a :: st) := fun T locs X eT N => by
  obtain ⟨cl, A, r⟩ := A
  obtain ⟨s₂, o, g1, g2⟩ := K T locs X eT N
  have hb : i < vs.length := (List.getElem?_eq_some_iff.mp hv).1
  exact ⟨s₂, o, X.caload C.1 (j := j) (v := v) (by rw [eT]; exact A.1) (State.isArrayOf_alike C.2.1.alike A.2.1) A.2.2 (inb_of_idx hi r hb) (by rw [(idx_of hi).2, r]; simpa using hv) (g := mkF m pc ls (.int j :: .ref a :: st)) rfl rfl (C.a d) _ g1, g2⟩
theorem W.zaload (C : Cx p s m meth c Z y bytes ml ret) {a : Addr} {vs : List Value} {j : Int32} (i : Nat) {v : Value} (d : decode bytes pc = .ok (.baload, 1)) (A : Al Z h a .boolean vs) (hi : j.toInt = (i : Int)) (hv : vs[i]? = some v) (K : W p l e R s m args below meth c n0 Q kc ks k n h (pc + 1) ls (v :: st)) : W p l e R s m args below meth c n0 Q kc ks k n h pc ls (.int j :: .ref a :: st) := fun T locs X eT N => by
  obtain ⟨cl, A, r⟩ := A
  obtain ⟨s₂, o, g1, g2⟩ := K T locs X eT N
  have hb : i < vs.length := (List.getElem?_eq_some_iff.mp hv).1
  exact ⟨s₂, o, X.baloadBooleans C.1 (j := j) (v := v) (by rw [eT]; exact A.1) (State.isArrayOf_alike C.2.1.alike A.2.1) A.2.2 (inb_of_idx hi r hb) (by rw [(idx_of hi).2, r]; simpa using hv) (g := mkF m pc ls (.int j :: .ref a :: st)) rfl rfl (C.a d) _ g1, g2⟩
theorem W.aaload (C : Cx p s m meth c Z y bytes ml ret) {a : Addr} {ty : FieldType} {vs : List Value} {j : Int32} (i : Nat) {v : Value} (d : decode bytes pc = .ok (.aaload, 1)) (A : Al Z h a ty vs) (hty : ty.isReference = true) (hi : j.toInt = (i : Int)) (hv : vs[i]? = some v) (K : W p l e R s m args below meth c n0 Q kc ks k n h (pc + 1) ls (v :: st)) : W p l e R s m args below meth c n0 Q kc ks k n h pc ls (.int j :: .ref a :: st) := fun T locs X eT N => by
  obtain ⟨cl, A, r⟩ := A
  obtain ⟨s₂, o, g1, g2⟩ := K T locs X eT N
  have hb : i < vs.length := (List.getElem?_eq_some_iff.mp hv).1
  exact ⟨s₂, o, X.aaload C.1 (j := j) (v := v) (by rw [eT]; exact A.1) (State.isArrayOf_alike C.2.1.alike A.2.1) hty A.2.2 (inb_of_idx hi r hb) (by rw [(idx_of hi).2, r]; simpa using hv) (g := mkF m pc ls (.int j :: .ref a :: st)) rfl rfl (C.a d) _ g1, g2⟩
theorem W.iastore (C : Cx p s m meth c Z y bytes ml ret) {a : Addr} {vs : List Value} {j : Int32} {x : Int32} (i : Nat) (d : decode bytes pc = .ok (.iastore, 1)) (A : Al Z h a .int vs) (hi : j.toInt = (i : Int)) (hb : i < vs.length) (g : n0 ≤ a) (K : ∀ h', Wr h h' a i (.int x) → Al Z h' a .int (vs.set i (.int x)) → W p l e R s m args below meth c n0 Q kc ks k n h' (pc + 1) ls st) : W p l e R s m args below meth c n0 Q kc ks k n h pc ls (.int x :: .int j :: .ref a :: st) := fun T locs X eT N => by
  obtain ⟨cl, A, r⟩ := A
  obtain ⟨T1, h1, X1, e1, W1, st1⟩ := stI X C.1 C.2.1 eT A (j := j) (x := x) (inb_of_idx hi r hb) (g := mkF m pc ls (.int x :: .int j :: .ref a :: st)) rfl rfl (C.a d)
  have N1 := Fr.snoc X1 N g
  rw [(idx_of hi).2] at W1
  obtain ⟨s₂, o, g1, g2⟩ := K h1 W1 (Al.set ⟨cl, A, r⟩ W1) T1 _ X1 e1 N1
  exact ⟨s₂, o, st1 _ g1, g2⟩
theorem W.lastore (C : Cx p s m meth c Z y bytes ml ret) {a : Addr} {vs : List Value} {j : Int32} {x : Int64} (i : Nat) (d : decode bytes pc = .ok (.lastore, 1)) (A : Al Z h a .long vs) (hi : j.toInt = (i : Int)) (hb : i < vs.length) (g : n0 ≤ a) (K : ∀ h', Wr h h' a i (.long x) → Al Z h' a .long (vs.set i (.long x)) → W p l e R s m args below meth c n0 Q kc ks k n h' (pc + 1) ls st) : W p l e R s m args below meth c n0 Q kc ks k n h pc ls (.long x :: .int j :: .ref a :: st) := fun T locs X eT N => by
  obtain ⟨cl, A, r⟩ := A
  obtain ⟨T1, h1, X1, e1, W1, st1⟩ := stJ X C.1 C.2.1 eT A (j := j) (x := x) (inb_of_idx hi r hb) (g := mkF m pc ls (.long x :: .int j :: .ref a :: st)) rfl rfl (C.a d)
  have N1 := Fr.snoc X1 N g
  rw [(idx_of hi).2] at W1
  obtain ⟨s₂, o, g1, g2⟩ := K h1 W1 (Al.set ⟨cl, A, r⟩ W1) T1 _ X1 e1 N1
  exact ⟨s₂, o, st1 _ g1, g2⟩
theorem W.bastore (C : Cx p s m meth c Z y bytes ml ret) {a : Addr} {vs : List Value} {j : Int32} {x : Int32} (i : Nat) (d : decode bytes pc = .ok (.bastore, 1)) (A : Al Z h a .byte vs) (hi : j.toInt = (i : Int)) (hb : i < vs.length) (g : n0 ≤ a) (K : ∀ h', Wr h h' a i (.int x.toInt8.toInt32) → Al Z h' a .byte (vs.set i (.int x.toInt8.toInt32)) → W p l e R s m args below meth c n0 Q kc ks k n h' (pc + 1) ls st) : W p l e R s m args below meth c n0 Q kc ks k n h pc ls (.int x :: .int j :: .ref a :: st) := fun T locs X eT N => by
  obtain ⟨cl, A, r⟩ := A
  obtain ⟨T1, h1, X1, e1, W1, st1⟩ := stB X C.1 C.2.1 eT A (j := j) (x := x) (inb_of_idx hi r hb) (g := mkF m pc ls (.int x :: .int j :: .ref a :: st)) rfl rfl (C.a d)
  have N1 := Fr.snoc X1 N g
  rw [(idx_of hi).2] at W1
  obtain ⟨s₂, o, g1, g2⟩ := K h1 W1 (Al.set ⟨cl, A, r⟩ W1) T1 _ X1 e1 N1
  exact ⟨s₂, o, st1 _ g1, g2⟩
theorem W.castore (C : Cx p s m meth c Z y bytes ml ret) {a : Addr} {vs : List Value} {j : Int32} {x : Int32} (i : Nat) (d : decode bytes pc = .ok (.castore, 1)) (A : Al Z h a .char vs) (hi : j.toInt = (i : Int)) (hb : i < vs.length) (g : n0 ≤ a) (K : ∀ h', Wr h h' a i (.int x.toUInt32.toUInt16.toUInt32.toInt32) → Al Z h' a .char (vs.set i (.int x.toUInt32.toUInt16.toUInt32.toInt32)) → W p l e R s m args below meth c n0 Q kc ks k n h' (pc + 1) ls st) : W p l e R s m args below meth c n0 Q kc ks k n h pc ls (.int x :: .int j :: .ref a :: st) := fun T locs X eT N => by
  obtain ⟨cl, A, r⟩ := A
  obtain ⟨T1, h1, X1, e1, W1, st1⟩ := stC X C.1 C.2.1 eT A (j := j) (x := x) (inb_of_idx hi r hb) (g := mkF m pc ls (.int x :: .int j :: .ref a :: st)) rfl rfl (C.a d)
  have N1 := Fr.snoc X1 N g
  rw [(idx_of hi).2] at W1
  obtain ⟨s₂, o, g1, g2⟩ := K h1 W1 (Al.set ⟨cl, A, r⟩ W1) T1 _ X1 e1 N1
  exact ⟨s₂, o, st1 _ g1, g2⟩
theorem W.zastore (C : Cx p s m meth c Z y bytes ml ret) {a : Addr} {vs : List Value} {j : Int32} {x : Int32} (i : Nat) (d : decode bytes pc = .ok (.bastore, 1)) (A : Al Z h a .boolean vs) (hi : j.toInt = (i : Int)) (hb : i < vs.length) (g : n0 ≤ a) (K : ∀ h', Wr h h' a i (.int (x &&& 1)) → Al Z h' a .boolean (vs.set i (.int (x &&& 1))) → W p l e R s m args below meth c n0 Q kc ks k n h' (pc + 1) ls st) : W p l e R s m args below meth c n0 Q kc ks k n h pc ls (.int x :: .int j :: .ref a :: st) := fun T locs X eT N => by
  obtain ⟨cl, A, r⟩ := A
  obtain ⟨T1, h1, X1, e1, W1, st1⟩ := stZ X C.1 C.2.1 eT A (j := j) (x := x) (inb_of_idx hi r hb) (g := mkF m pc ls (.int x :: .int j :: .ref a :: st)) rfl rfl (C.a d)
  have N1 := Fr.snoc X1 N g
  rw [(idx_of hi).2] at W1
  obtain ⟨s₂, o, g1, g2⟩ := K h1 W1 (Al.set ⟨cl, A, r⟩ W1) T1 _ X1 e1 N1
  exact ⟨s₂, o, st1 _ g1, g2⟩
theorem W.newP (C : Cx p s m meth c Z y bytes ml ret) {aty : ArrayType} {nn : Int32} (sz cap : Nat) (d : decode bytes pc = .ok (.newarray aty, 2)) (w : (Jvm.Cond.arrayClass (newarray.typeOf aty)).before a0 Z = true) (hn : nn.toInt = (sz : Int)) (hcap : sz ≤ cap) (hb : cap * 8 ≤ 536870912) (k' n' : Nat) (hk : k + 1 = k') (hn' : n + cap = n') (hc : k' ≤ R.cells) (hl : n' ≤ R.slots)
    (K : ∀ a h', a = h.size → Ext h h' → Al Z h' a (newarray.typeOf aty) (List.replicate sz (defaultValue (newarray.typeOf aty))) → W p l e R s m args below meth c n0 Q kc ks k' n' h' (pc + 2) ls (.ref a :: st)) : W p l e R s m args below meth c n0 Q kc ks k n h pc ls (.int nn :: st) := fun T locs X eT N => by
  subst hk hn'
  obtain ⟨T1, h1, cA, X1, e1, E1, A1, st1⟩ := Jvm.RoadKit.newP X C.1 C.2.1 w eT (g := mkF m pc ls (.int nn :: st)) rfl (C.a d) rfl (idx_of hn).1 (cap := cap) (by rw [(idx_of hn).2]; exact hcap) hb hc hl
  obtain ⟨s₂, o, g1, g2⟩ := K _ h1 rfl E1 ⟨_, A1, by simp [newA, (idx_of hn).2]⟩ T1 _ X1 e1 N
  exact ⟨s₂, o, st1 _ g1, g2⟩
end
theorem tkw {ts : List Jvm.Cond} {a0 : Array Value} {Z : State} (hw : ∀ d ∈ ts, d.before a0 Z = true) (i : Nat) {d : Jvm.Cond} (q : ts[i]? = some d) : d.before a0 Z = true := hw d (List.mem_of_getElem? q)
end Jvm.OwnKit
namespace Jvm.Pilot.@@N@@
open Jvm Jvm.ClassFile Sem Op Lib Jvm.Free Jvm.Stand Jvm.LawKit Jvm.RoadKit Bundle Jvm.OwnKit Jvm.Pilot.@@N@@.Jvm.D
abbrev y1 : MethodName := ⟨"com/example/trellis/trellis/util/XmlChars", "isNameStartChar", "(I)Z"⟩
theorem d1_0 : decode prog_174_method_2_code 0 = .ok (.iload_n 0, 1) := by decide +kernel
theorem d1_1 : decode prog_174_method_2_code 1 = .ok (.bipush 58, 2) := by decide +kernel
theorem d1_3 : decode prog_174_method_2_code 3 = .ok (.if_icmp .eq 194, 3) := by decide +kernel
theorem d1_6 : decode prog_174_method_2_code 6 = .ok (.iload_n 0, 1) := by decide +kernel
theorem d1_7 : decode prog_174_method_2_code 7 = .ok (.bipush 65, 2) := by decide +kernel
theorem d1_9 : decode prog_174_method_2_code 9 = .ok (.if_icmp .lt 9, 3) := by decide +kernel
theorem d1_12 : decode prog_174_method_2_code 12 = .ok (.iload_n 0, 1) := by decide +kernel
theorem d1_13 : decode prog_174_method_2_code 13 = .ok (.bipush 90, 2) := by decide +kernel
theorem d1_15 : decode prog_174_method_2_code 15 = .ok (.if_icmp .le 182, 3) := by decide +kernel
theorem d1_18 : decode prog_174_method_2_code 18 = .ok (.iload_n 0, 1) := by decide +kernel
theorem d1_19 : decode prog_174_method_2_code 19 = .ok (.bipush 95, 2) := by decide +kernel
theorem d1_21 : decode prog_174_method_2_code 21 = .ok (.if_icmp .eq 176, 3) := by decide +kernel
theorem d1_24 : decode prog_174_method_2_code 24 = .ok (.iload_n 0, 1) := by decide +kernel
theorem d1_25 : decode prog_174_method_2_code 25 = .ok (.bipush 97, 2) := by decide +kernel
theorem d1_27 : decode prog_174_method_2_code 27 = .ok (.if_icmp .lt 9, 3) := by decide +kernel
theorem d1_30 : decode prog_174_method_2_code 30 = .ok (.iload_n 0, 1) := by decide +kernel
theorem d1_31 : decode prog_174_method_2_code 31 = .ok (.bipush 122, 2) := by decide +kernel
theorem d1_33 : decode prog_174_method_2_code 33 = .ok (.if_icmp .le 164, 3) := by decide +kernel
theorem d1_36 : decode prog_174_method_2_code 36 = .ok (.iload_n 0, 1) := by decide +kernel
theorem d1_37 : decode prog_174_method_2_code 37 = .ok (.sipush 192, 3) := by decide +kernel
theorem d1_40 : decode prog_174_method_2_code 40 = .ok (.if_icmp .lt 10, 3) := by decide +kernel
theorem d1_43 : decode prog_174_method_2_code 43 = .ok (.iload_n 0, 1) := by decide +kernel
theorem d1_44 : decode prog_174_method_2_code 44 = .ok (.sipush 214, 3) := by decide +kernel
theorem d1_47 : decode prog_174_method_2_code 47 = .ok (.if_icmp .le 150, 3) := by decide +kernel
theorem d1_50 : decode prog_174_method_2_code 50 = .ok (.iload_n 0, 1) := by decide +kernel
theorem d1_51 : decode prog_174_method_2_code 51 = .ok (.sipush 216, 3) := by decide +kernel
theorem d1_54 : decode prog_174_method_2_code 54 = .ok (.if_icmp .lt 10, 3) := by decide +kernel
theorem d1_57 : decode prog_174_method_2_code 57 = .ok (.iload_n 0, 1) := by decide +kernel
theorem d1_58 : decode prog_174_method_2_code 58 = .ok (.sipush 246, 3) := by decide +kernel
theorem d1_61 : decode prog_174_method_2_code 61 = .ok (.if_icmp .le 136, 3) := by decide +kernel
theorem d1_64 : decode prog_174_method_2_code 64 = .ok (.iload_n 0, 1) := by decide +kernel
theorem d1_65 : decode prog_174_method_2_code 65 = .ok (.sipush 248, 3) := by decide +kernel
theorem d1_68 : decode prog_174_method_2_code 68 = .ok (.if_icmp .lt 10, 3) := by decide +kernel
theorem d1_71 : decode prog_174_method_2_code 71 = .ok (.iload_n 0, 1) := by decide +kernel
theorem d1_72 : decode prog_174_method_2_code 72 = .ok (.sipush 767, 3) := by decide +kernel
theorem d1_75 : decode prog_174_method_2_code 75 = .ok (.if_icmp .le 122, 3) := by decide +kernel
theorem d1_78 : decode prog_174_method_2_code 78 = .ok (.iload_n 0, 1) := by decide +kernel
theorem d1_79 : decode prog_174_method_2_code 79 = .ok (.sipush 880, 3) := by decide +kernel
theorem d1_82 : decode prog_174_method_2_code 82 = .ok (.if_icmp .lt 10, 3) := by decide +kernel
theorem d1_85 : decode prog_174_method_2_code 85 = .ok (.iload_n 0, 1) := by decide +kernel
theorem d1_86 : decode prog_174_method_2_code 86 = .ok (.sipush 893, 3) := by decide +kernel
theorem d1_89 : decode prog_174_method_2_code 89 = .ok (.if_icmp .le 108, 3) := by decide +kernel
theorem d1_92 : decode prog_174_method_2_code 92 = .ok (.iload_n 0, 1) := by decide +kernel
theorem d1_93 : decode prog_174_method_2_code 93 = .ok (.sipush 895, 3) := by decide +kernel
theorem d1_96 : decode prog_174_method_2_code 96 = .ok (.if_icmp .lt 10, 3) := by decide +kernel
theorem d1_99 : decode prog_174_method_2_code 99 = .ok (.iload_n 0, 1) := by decide +kernel
theorem d1_100 : decode prog_174_method_2_code 100 = .ok (.sipush 8191, 3) := by decide +kernel
theorem d1_103 : decode prog_174_method_2_code 103 = .ok (.if_icmp .le 94, 3) := by decide +kernel
theorem d1_106 : decode prog_174_method_2_code 106 = .ok (.iload_n 0, 1) := by decide +kernel
theorem d1_107 : decode prog_174_method_2_code 107 = .ok (.sipush 8204, 3) := by decide +kernel
theorem d1_110 : decode prog_174_method_2_code 110 = .ok (.if_icmp .lt 10, 3) := by decide +kernel
theorem d1_113 : decode prog_174_method_2_code 113 = .ok (.iload_n 0, 1) := by decide +kernel
theorem d1_114 : decode prog_174_method_2_code 114 = .ok (.sipush 8205, 3) := by decide +kernel
theorem d1_117 : decode prog_174_method_2_code 117 = .ok (.if_icmp .le 80, 3) := by decide +kernel
theorem d1_120 : decode prog_174_method_2_code 120 = .ok (.iload_n 0, 1) := by decide +kernel
theorem d1_121 : decode prog_174_method_2_code 121 = .ok (.sipush 8304, 3) := by decide +kernel
theorem d1_124 : decode prog_174_method_2_code 124 = .ok (.if_icmp .lt 10, 3) := by decide +kernel
theorem d1_127 : decode prog_174_method_2_code 127 = .ok (.iload_n 0, 1) := by decide +kernel
theorem d1_128 : decode prog_174_method_2_code 128 = .ok (.sipush 8591, 3) := by decide +kernel
theorem d1_131 : decode prog_174_method_2_code 131 = .ok (.if_icmp .le 66, 3) := by decide +kernel
theorem d1_134 : decode prog_174_method_2_code 134 = .ok (.iload_n 0, 1) := by decide +kernel
theorem d1_135 : decode prog_174_method_2_code 135 = .ok (.sipush 11264, 3) := by decide +kernel
theorem d1_138 : decode prog_174_method_2_code 138 = .ok (.if_icmp .lt 10, 3) := by decide +kernel
theorem d1_141 : decode prog_174_method_2_code 141 = .ok (.iload_n 0, 1) := by decide +kernel
theorem d1_142 : decode prog_174_method_2_code 142 = .ok (.sipush 12271, 3) := by decide +kernel
theorem d1_145 : decode prog_174_method_2_code 145 = .ok (.if_icmp .le 52, 3) := by decide +kernel
theorem d1_148 : decode prog_174_method_2_code 148 = .ok (.iload_n 0, 1) := by decide +kernel
theorem d1_149 : decode prog_174_method_2_code 149 = .ok (.sipush 12289, 3) := by decide +kernel
theorem d1_152 : decode prog_174_method_2_code 152 = .ok (.if_icmp .lt 9, 3) := by decide +kernel
theorem d1_155 : decode prog_174_method_2_code 155 = .ok (.iload_n 0, 1) := by decide +kernel
theorem d1_156 : decode prog_174_method_2_code 156 = .ok (.ldc 7, 2) := by decide +kernel
theorem d1_158 : decode prog_174_method_2_code 158 = .ok (.if_icmp .le 39, 3) := by decide +kernel
theorem d1_161 : decode prog_174_method_2_code 161 = .ok (.iload_n 0, 1) := by decide +kernel
theorem d1_162 : decode prog_174_method_2_code 162 = .ok (.ldc 8, 2) := by decide +kernel
theorem d1_164 : decode prog_174_method_2_code 164 = .ok (.if_icmp .lt 9, 3) := by decide +kernel
theorem d1_167 : decode prog_174_method_2_code 167 = .ok (.iload_n 0, 1) := by decide +kernel
theorem d1_168 : decode prog_174_method_2_code 168 = .ok (.ldc 9, 2) := by decide +kernel
theorem d1_170 : decode prog_174_method_2_code 170 = .ok (.if_icmp .le 27, 3) := by decide +kernel
theorem d1_173 : decode prog_174_method_2_code 173 = .ok (.iload_n 0, 1) := by decide +kernel
theorem d1_174 : decode prog_174_method_2_code 174 = .ok (.ldc 10, 2) := by decide +kernel
theorem d1_176 : decode prog_174_method_2_code 176 = .ok (.if_icmp .lt 9, 3) := by decide +kernel
theorem d1_179 : decode prog_174_method_2_code 179 = .ok (.iload_n 0, 1) := by decide +kernel
theorem d1_180 : decode prog_174_method_2_code 180 = .ok (.ldc 11, 2) := by decide +kernel
theorem d1_182 : decode prog_174_method_2_code 182 = .ok (.if_icmp .le 15, 3) := by decide +kernel
theorem d1_185 : decode prog_174_method_2_code 185 = .ok (.iload_n 0, 1) := by decide +kernel
theorem d1_186 : decode prog_174_method_2_code 186 = .ok (.ldc 12, 2) := by decide +kernel
theorem d1_188 : decode prog_174_method_2_code 188 = .ok (.if_icmp .lt 13, 3) := by decide +kernel
theorem d1_191 : decode prog_174_method_2_code 191 = .ok (.iload_n 0, 1) := by decide +kernel
theorem d1_192 : decode prog_174_method_2_code 192 = .ok (.ldc 13, 2) := by decide +kernel
theorem d1_194 : decode prog_174_method_2_code 194 = .ok (.if_icmp .gt 7, 3) := by decide +kernel
theorem d1_197 : decode prog_174_method_2_code 197 = .ok (.iconst 1, 1) := by decide +kernel
theorem d1_198 : decode prog_174_method_2_code 198 = .ok (.goto 4, 3) := by decide +kernel
theorem d1_201 : decode prog_174_method_2_code 201 = .ok (.iconst 0, 1) := by decide +kernel
theorem d1_202 : decode prog_174_method_2_code 202 = .ok (.ireturn, 1) := by decide +kernel
theorem pf_1 : plainFor y1 = true := by first | exact plainFor_of_name (by first | (simp [plainName, overriddenIn]; done) | decide +kernel) | decide +kernel
theorem ef_1 (m : MethodId) (x : Int32) : entryFrame m #[(.int x)] 1 = mkF m 0 #[.val (.int x)] [] := by first | (simp [entryFrame, mkF, argsToLocals, Value.category]; done) | rfl
def own_n_185 (x : Int32) : Int32 := if x < (65536 : Int32) then (0 : Int32) else if (983039 : Int32) < x then (0 : Int32) else (1 : Int32)
def own_n_173 (x : Int32) : Int32 := if x < (65008 : Int32) then own_n_185 x else if (65533 : Int32) < x then own_n_185 x else (1 : Int32)
def own_n_161 (x : Int32) : Int32 := if x < (63744 : Int32) then own_n_173 x else if (64975 : Int32) < x then own_n_173 x else (1 : Int32)
def own_n_148 (x : Int32) : Int32 := if x < (12289 : Int32) then own_n_161 x else if (55295 : Int32) < x then own_n_161 x else (1 : Int32)
def own_n_134 (x : Int32) : Int32 := if x < (11264 : Int32) then own_n_148 x else if (12271 : Int32) < x then own_n_148 x else (1 : Int32)
def own_n_120 (x : Int32) : Int32 := if x < (8304 : Int32) then own_n_134 x else if (8591 : Int32) < x then own_n_134 x else (1 : Int32)
def own_n_106 (x : Int32) : Int32 := if x < (8204 : Int32) then own_n_120 x else if (8205 : Int32) < x then own_n_120 x else (1 : Int32)
def own_n_92 (x : Int32) : Int32 := if x < (895 : Int32) then own_n_106 x else if (8191 : Int32) < x then own_n_106 x else (1 : Int32)
def own_n_78 (x : Int32) : Int32 := if x < (880 : Int32) then own_n_92 x else if (893 : Int32) < x then own_n_92 x else (1 : Int32)
def own_n_64 (x : Int32) : Int32 := if x < (248 : Int32) then own_n_78 x else if (767 : Int32) < x then own_n_78 x else (1 : Int32)
def own_n_50 (x : Int32) : Int32 := if x < (216 : Int32) then own_n_64 x else if (246 : Int32) < x then own_n_64 x else (1 : Int32)
def own_n_36 (x : Int32) : Int32 := if x < (192 : Int32) then own_n_50 x else if (214 : Int32) < x then own_n_50 x else (1 : Int32)
def own_n_18 (x : Int32) : Int32 := if x = (95 : Int32) then (1 : Int32) else if x < (97 : Int32) then own_n_36 x else if (122 : Int32) < x then own_n_36 x else (1 : Int32)
def own_n (x : Int32) : Int32 := if x = (58 : Int32) then (1 : Int32) else if x < (65 : Int32) then own_n_18 x else if (90 : Int32) < x then own_n_18 x else (1 : Int32)
set_option maxRecDepth 65536 in
set_option maxHeartbeats 40000000 in
theorem con_1 (l : Launch) (Z : State) (a0 : Array Value) (hw : ∀ d ∈ tables_1, d.before a0 Z = true) (h0 : Heap) (n0 : Nat) (x : Int32)   : Con l Z y1 prog_174_method_2_code 1 (some .boolean) ({ frames := 0, cells := 0, slots := 0, locals := 0 } : Room) #[(.int x)] h0 n0 (Pu (some (.int (own_n x))) h0) := by
  refine Con.of pf_1 (fun m => ef_1 m x) ?_
  intro p e s m below meth c C
  have J185 : own_n x = own_n_185 x → W p l e ({ frames := 0, cells := 0, slots := 0, locals := 0 } : Room) s m #[(.int x)] below meth c n0 (Pu (some (.int (own_n x))) h0) ({ frames := 0, cells := 0, slots := 0, locals := 0 } : Room).cells ({ frames := 0, cells := 0, slots := 0, locals := 0 } : Room).slots 0 0 h0 185 #[.val (.int x)] [] := by
    intro q185
    refine W.iloadN C d1_185 rfl ?_
    refine W.ldcI C (v := (65536 : Int32)) d1_186 (tkw hw 16 rfl) ?_
    refine W.icmp_lt C 201 d1_188 rfl (fun b1 => ?_) (fun b1 => ?_)
    · skip
      refine W.iconst C (0 : Int32) d1_201 rfl ?_
      exact W.iret C d1_202 (by simp) rfl (by decide) (by decide) ⟨by show some _ = some _; rw [q185, own_n_185, if_pos b1], rfl⟩
    · skip
      refine W.iloadN C d1_191 rfl ?_
      refine W.ldcI C (v := (983039 : Int32)) d1_192 (tkw hw 26 rfl) ?_
      refine W.icmp_gt C 201 d1_194 rfl (fun b2 => ?_) (fun b2 => ?_)
      · skip
        refine W.iconst C (0 : Int32) d1_201 rfl ?_
        exact W.iret C d1_202 (by simp) rfl (by decide) (by decide) ⟨by show some _ = some _; rw [q185, own_n_185, if_neg b1, if_pos b2], rfl⟩
      · skip
        refine W.iconst C (1 : Int32) d1_197 rfl ?_
        refine W.goto C 202 d1_198 rfl ?_
        exact W.iret C d1_202 (by simp) rfl (by decide) (by decide) ⟨by show some _ = some _; rw [q185, own_n_185, if_neg b1, if_neg b2], rfl⟩
  have J173 : own_n x = own_n_173 x → W p l e ({ frames := 0, cells := 0, slots := 0, locals := 0 } : Room) s m #[(.int x)] below meth c n0 (Pu (some (.int (own_n x))) h0) ({ frames := 0, cells := 0, slots := 0, locals := 0 } : Room).cells ({ frames := 0, cells := 0, slots := 0, locals := 0 } : Room).slots 0 0 h0 173 #[.val (.int x)] [] := by
    intro q173
    refine W.iloadN C d1_173 rfl ?_
    refine W.ldcI C (v := (65008 : Int32)) d1_174 (tkw hw 15 rfl) ?_
    refine W.icmp_lt C 185 d1_176 rfl (fun b3 => ?_) (fun b3 => ?_)
    · skip
      exact J185 (by rw [q173, own_n_173, if_pos b3])
    · skip
      refine W.iloadN C d1_179 rfl ?_
      refine W.ldcI C (v := (65533 : Int32)) d1_180 (tkw hw 25 rfl) ?_
      refine W.icmp_le C 197 d1_182 rfl (fun b4 => ?_) (fun b4 => ?_)
      · skip
        refine W.iconst C (1 : Int32) d1_197 rfl ?_
        refine W.goto C 202 d1_198 rfl ?_
        exact W.iret C d1_202 (by simp) rfl (by decide) (by decide) ⟨by show some _ = some _; rw [q173, own_n_173, if_neg b3, if_neg b4], rfl⟩
      · skip
        exact J185 (by rw [q173, own_n_173, if_neg b3, if_pos b4])
  have J161 : own_n x = own_n_161 x → W p l e ({ frames := 0, cells := 0, slots := 0, locals := 0 } : Room) s m #[(.int x)] below meth c n0 (Pu (some (.int (own_n x))) h0) ({ frames := 0, cells := 0, slots := 0, locals := 0 } : Room).cells ({ frames := 0, cells := 0, slots := 0, locals := 0 } : Room).slots 0 0 h0 161 #[.val (.int x)] [] := by
    intro q161
    refine W.iloadN C d1_161 rfl ?_
    refine W.ldcI C (v := (63744 : Int32)) d1_162 (tkw hw 14 rfl) ?_
    refine W.icmp_lt C 173 d1_164 rfl (fun b5 => ?_) (fun b5 => ?_)
    · skip
      exact J173 (by rw [q161, own_n_161, if_pos b5])
    · skip
      refine W.iloadN C d1_167 rfl ?_
      refine W.ldcI C (v := (64975 : Int32)) d1_168 (tkw hw 24 rfl) ?_
      refine W.icmp_le C 197 d1_170 rfl (fun b6 => ?_) (fun b6 => ?_)
      · skip
        refine W.iconst C (1 : Int32) d1_197 rfl ?_
        refine W.goto C 202 d1_198 rfl ?_
        exact W.iret C d1_202 (by simp) rfl (by decide) (by decide) ⟨by show some _ = some _; rw [q161, own_n_161, if_neg b5, if_neg b6], rfl⟩
      · skip
        exact J173 (by rw [q161, own_n_161, if_neg b5, if_pos b6])
  have J148 : own_n x = own_n_148 x → W p l e ({ frames := 0, cells := 0, slots := 0, locals := 0 } : Room) s m #[(.int x)] below meth c n0 (Pu (some (.int (own_n x))) h0) ({ frames := 0, cells := 0, slots := 0, locals := 0 } : Room).cells ({ frames := 0, cells := 0, slots := 0, locals := 0 } : Room).slots 0 0 h0 148 #[.val (.int x)] [] := by
    intro q148
    refine W.iloadN C d1_148 rfl ?_
    refine W.sipush C (12289 : Int32) d1_149 rfl ?_
    refine W.icmp_lt C 161 d1_152 rfl (fun b7 => ?_) (fun b7 => ?_)
    · skip
      exact J161 (by rw [q148, own_n_148, if_pos b7])
    · skip
      refine W.iloadN C d1_155 rfl ?_
      refine W.ldcI C (v := (55295 : Int32)) d1_156 (tkw hw 21 rfl) ?_
      refine W.icmp_le C 197 d1_158 rfl (fun b8 => ?_) (fun b8 => ?_)
      · skip
        refine W.iconst C (1 : Int32) d1_197 rfl ?_
        refine W.goto C 202 d1_198 rfl ?_
        exact W.iret C d1_202 (by simp) rfl (by decide) (by decide) ⟨by show some _ = some _; rw [q148, own_n_148, if_neg b7, if_neg b8], rfl⟩
      · skip
        exact J161 (by rw [q148, own_n_148, if_neg b7, if_pos b8])
  have J134 : own_n x = own_n_134 x → W p l e ({ frames := 0, cells := 0, slots := 0, locals := 0 } : Room) s m #[(.int x)] below meth c n0 (Pu (some (.int (own_n x))) h0) ({ frames := 0, cells := 0, slots := 0, locals := 0 } : Room).cells ({ frames := 0, cells := 0, slots := 0, locals := 0 } : Room).slots 0 0 h0 134 #[.val (.int x)] [] := by
    intro q134
    refine W.iloadN C d1_134 rfl ?_
    refine W.sipush C (11264 : Int32) d1_135 rfl ?_
    refine W.icmp_lt C 148 d1_138 rfl (fun b9 => ?_) (fun b9 => ?_)
    · skip
      exact J148 (by rw [q134, own_n_134, if_pos b9])
    · skip
      refine W.iloadN C d1_141 rfl ?_
      refine W.sipush C (12271 : Int32) d1_142 rfl ?_
      refine W.icmp_le C 197 d1_145 rfl (fun b10 => ?_) (fun b10 => ?_)
      · skip
        refine W.iconst C (1 : Int32) d1_197 rfl ?_
        refine W.goto C 202 d1_198 rfl ?_
        exact W.iret C d1_202 (by simp) rfl (by decide) (by decide) ⟨by show some _ = some _; rw [q134, own_n_134, if_neg b9, if_neg b10], rfl⟩
      · skip
        exact J148 (by rw [q134, own_n_134, if_neg b9, if_pos b10])
  have J120 : own_n x = own_n_120 x → W p l e ({ frames := 0, cells := 0, slots := 0, locals := 0 } : Room) s m #[(.int x)] below meth c n0 (Pu (some (.int (own_n x))) h0) ({ frames := 0, cells := 0, slots := 0, locals := 0 } : Room).cells ({ frames := 0, cells := 0, slots := 0, locals := 0 } : Room).slots 0 0 h0 120 #[.val (.int x)] [] := by
    intro q120
    refine W.iloadN C d1_120 rfl ?_
    refine W.sipush C (8304 : Int32) d1_121 rfl ?_
    refine W.icmp_lt C 134 d1_124 rfl (fun b11 => ?_) (fun b11 => ?_)
    · skip
      exact J134 (by rw [q120, own_n_120, if_pos b11])
    · skip
      refine W.iloadN C d1_127 rfl ?_
      refine W.sipush C (8591 : Int32) d1_128 rfl ?_
      refine W.icmp_le C 197 d1_131 rfl (fun b12 => ?_) (fun b12 => ?_)
      · skip
        refine W.iconst C (1 : Int32) d1_197 rfl ?_
        refine W.goto C 202 d1_198 rfl ?_
        exact W.iret C d1_202 (by simp) rfl (by decide) (by decide) ⟨by show some _ = some _; rw [q120, own_n_120, if_neg b11, if_neg b12], rfl⟩
      · skip
        exact J134 (by rw [q120, own_n_120, if_neg b11, if_pos b12])
  have J106 : own_n x = own_n_106 x → W p l e ({ frames := 0, cells := 0, slots := 0, locals := 0 } : Room) s m #[(.int x)] below meth c n0 (Pu (some (.int (own_n x))) h0) ({ frames := 0, cells := 0, slots := 0, locals := 0 } : Room).cells ({ frames := 0, cells := 0, slots := 0, locals := 0 } : Room).slots 0 0 h0 106 #[.val (.int x)] [] := by
    intro q106
    refine W.iloadN C d1_106 rfl ?_
    refine W.sipush C (8204 : Int32) d1_107 rfl ?_
    refine W.icmp_lt C 120 d1_110 rfl (fun b13 => ?_) (fun b13 => ?_)
    · skip
      exact J120 (by rw [q106, own_n_106, if_pos b13])
    · skip
      refine W.iloadN C d1_113 rfl ?_
      refine W.sipush C (8205 : Int32) d1_114 rfl ?_
      refine W.icmp_le C 197 d1_117 rfl (fun b14 => ?_) (fun b14 => ?_)
      · skip
        refine W.iconst C (1 : Int32) d1_197 rfl ?_
        refine W.goto C 202 d1_198 rfl ?_
        exact W.iret C d1_202 (by simp) rfl (by decide) (by decide) ⟨by show some _ = some _; rw [q106, own_n_106, if_neg b13, if_neg b14], rfl⟩
      · skip
        exact J120 (by rw [q106, own_n_106, if_neg b13, if_pos b14])
  have J92 : own_n x = own_n_92 x → W p l e ({ frames := 0, cells := 0, slots := 0, locals := 0 } : Room) s m #[(.int x)] below meth c n0 (Pu (some (.int (own_n x))) h0) ({ frames := 0, cells := 0, slots := 0, locals := 0 } : Room).cells ({ frames := 0, cells := 0, slots := 0, locals := 0 } : Room).slots 0 0 h0 92 #[.val (.int x)] [] := by
    intro q92
    refine W.iloadN C d1_92 rfl ?_
    refine W.sipush C (895 : Int32) d1_93 rfl ?_
    refine W.icmp_lt C 106 d1_96 rfl (fun b15 => ?_) (fun b15 => ?_)
    · skip
      exact J106 (by rw [q92, own_n_92, if_pos b15])
    · skip
      refine W.iloadN C d1_99 rfl ?_
      refine W.sipush C (8191 : Int32) d1_100 rfl ?_
      refine W.icmp_le C 197 d1_103 rfl (fun b16 => ?_) (fun b16 => ?_)
      · skip
        refine W.iconst C (1 : Int32) d1_197 rfl ?_
        refine W.goto C 202 d1_198 rfl ?_
        exact W.iret C d1_202 (by simp) rfl (by decide) (by decide) ⟨by show some _ = some _; rw [q92, own_n_92, if_neg b15, if_neg b16], rfl⟩
      · skip
        exact J106 (by rw [q92, own_n_92, if_neg b15, if_pos b16])
  have J78 : own_n x = own_n_78 x → W p l e ({ frames := 0, cells := 0, slots := 0, locals := 0 } : Room) s m #[(.int x)] below meth c n0 (Pu (some (.int (own_n x))) h0) ({ frames := 0, cells := 0, slots := 0, locals := 0 } : Room).cells ({ frames := 0, cells := 0, slots := 0, locals := 0 } : Room).slots 0 0 h0 78 #[.val (.int x)] [] := by
    intro q78
    refine W.iloadN C d1_78 rfl ?_
    refine W.sipush C (880 : Int32) d1_79 rfl ?_
    refine W.icmp_lt C 92 d1_82 rfl (fun b17 => ?_) (fun b17 => ?_)
    · skip
      exact J92 (by rw [q78, own_n_78, if_pos b17])
    · skip
      refine W.iloadN C d1_85 rfl ?_
      refine W.sipush C (893 : Int32) d1_86 rfl ?_
      refine W.icmp_le C 197 d1_89 rfl (fun b18 => ?_) (fun b18 => ?_)
      · skip
        refine W.iconst C (1 : Int32) d1_197 rfl ?_
        refine W.goto C 202 d1_198 rfl ?_
        exact W.iret C d1_202 (by simp) rfl (by decide) (by decide) ⟨by show some _ = some _; rw [q78, own_n_78, if_neg b17, if_neg b18], rfl⟩
      · skip
        exact J92 (by rw [q78, own_n_78, if_neg b17, if_pos b18])
  have J64 : own_n x = own_n_64 x → W p l e ({ frames := 0, cells := 0, slots := 0, locals := 0 } : Room) s m #[(.int x)] below meth c n0 (Pu (some (.int (own_n x))) h0) ({ frames := 0, cells := 0, slots := 0, locals := 0 } : Room).cells ({ frames := 0, cells := 0, slots := 0, locals := 0 } : Room).slots 0 0 h0 64 #[.val (.int x)] [] := by
    intro q64
    refine W.iloadN C d1_64 rfl ?_
    refine W.sipush C (248 : Int32) d1_65 rfl ?_
    refine W.icmp_lt C 78 d1_68 rfl (fun b19 => ?_) (fun b19 => ?_)
    · skip
      exact J78 (by rw [q64, own_n_64, if_pos b19])
    · skip
      refine W.iloadN C d1_71 rfl ?_
      refine W.sipush C (767 : Int32) d1_72 rfl ?_
      refine W.icmp_le C 197 d1_75 rfl (fun b20 => ?_) (fun b20 => ?_)
      · skip
        refine W.iconst C (1 : Int32) d1_197 rfl ?_
        refine W.goto C 202 d1_198 rfl ?_
        exact W.iret C d1_202 (by simp) rfl (by decide) (by decide) ⟨by show some _ = some _; rw [q64, own_n_64, if_neg b19, if_neg b20], rfl⟩
      · skip
        exact J78 (by rw [q64, own_n_64, if_neg b19, if_pos b20])
  have J50 : own_n x = own_n_50 x → W p l e ({ frames := 0, cells := 0, slots := 0, locals := 0 } : Room) s m #[(.int x)] below meth c n0 (Pu (some (.int (own_n x))) h0) ({ frames := 0, cells := 0, slots := 0, locals := 0 } : Room).cells ({ frames := 0, cells := 0, slots := 0, locals := 0 } : Room).slots 0 0 h0 50 #[.val (.int x)] [] := by
    intro q50
    refine W.iloadN C d1_50 rfl ?_
    refine W.sipush C (216 : Int32) d1_51 rfl ?_
    refine W.icmp_lt C 64 d1_54 rfl (fun b21 => ?_) (fun b21 => ?_)
    · skip
      exact J64 (by rw [q50, own_n_50, if_pos b21])
    · skip
      refine W.iloadN C d1_57 rfl ?_
      refine W.sipush C (246 : Int32) d1_58 rfl ?_
      refine W.icmp_le C 197 d1_61 rfl (fun b22 => ?_) (fun b22 => ?_)
      · skip
        refine W.iconst C (1 : Int32) d1_197 rfl ?_
        refine W.goto C 202 d1_198 rfl ?_
        exact W.iret C d1_202 (by simp) rfl (by decide) (by decide) ⟨by show some _ = some _; rw [q50, own_n_50, if_neg b21, if_neg b22], rfl⟩
      · skip
        exact J64 (by rw [q50, own_n_50, if_neg b21, if_pos b22])
  have J36 : own_n x = own_n_36 x → W p l e ({ frames := 0, cells := 0, slots := 0, locals := 0 } : Room) s m #[(.int x)] below meth c n0 (Pu (some (.int (own_n x))) h0) ({ frames := 0, cells := 0, slots := 0, locals := 0 } : Room).cells ({ frames := 0, cells := 0, slots := 0, locals := 0 } : Room).slots 0 0 h0 36 #[.val (.int x)] [] := by
    intro q36
    refine W.iloadN C d1_36 rfl ?_
    refine W.sipush C (192 : Int32) d1_37 rfl ?_
    refine W.icmp_lt C 50 d1_40 rfl (fun b23 => ?_) (fun b23 => ?_)
    · skip
      exact J50 (by rw [q36, own_n_36, if_pos b23])
    · skip
      refine W.iloadN C d1_43 rfl ?_
      refine W.sipush C (214 : Int32) d1_44 rfl ?_
      refine W.icmp_le C 197 d1_47 rfl (fun b24 => ?_) (fun b24 => ?_)
      · skip
        refine W.iconst C (1 : Int32) d1_197 rfl ?_
        refine W.goto C 202 d1_198 rfl ?_
        exact W.iret C d1_202 (by simp) rfl (by decide) (by decide) ⟨by show some _ = some _; rw [q36, own_n_36, if_neg b23, if_neg b24], rfl⟩
      · skip
        exact J50 (by rw [q36, own_n_36, if_neg b23, if_pos b24])
  have J18 : own_n x = own_n_18 x → W p l e ({ frames := 0, cells := 0, slots := 0, locals := 0 } : Room) s m #[(.int x)] below meth c n0 (Pu (some (.int (own_n x))) h0) ({ frames := 0, cells := 0, slots := 0, locals := 0 } : Room).cells ({ frames := 0, cells := 0, slots := 0, locals := 0 } : Room).slots 0 0 h0 18 #[.val (.int x)] [] := by
    intro q18
    refine W.iloadN C d1_18 rfl ?_
    refine W.bipush C (95 : Int32) d1_19 rfl ?_
    refine W.icmp_eq C 197 d1_21 rfl (fun b25 => ?_) (fun b25 => ?_)
    · skip
      refine W.iconst C (1 : Int32) d1_197 rfl ?_
      refine W.goto C 202 d1_198 rfl ?_
      exact W.iret C d1_202 (by simp) rfl (by decide) (by decide) ⟨by show some _ = some _; rw [q18, own_n_18, if_pos b25], rfl⟩
    · skip
      refine W.iloadN C d1_24 rfl ?_
      refine W.bipush C (97 : Int32) d1_25 rfl ?_
      refine W.icmp_lt C 36 d1_27 rfl (fun b26 => ?_) (fun b26 => ?_)
      · skip
        exact J36 (by rw [q18, own_n_18, if_neg b25, if_pos b26])
      · skip
        refine W.iloadN C d1_30 rfl ?_
        refine W.bipush C (122 : Int32) d1_31 rfl ?_
        refine W.icmp_le C 197 d1_33 rfl (fun b27 => ?_) (fun b27 => ?_)
        · skip
          refine W.iconst C (1 : Int32) d1_197 rfl ?_
          refine W.goto C 202 d1_198 rfl ?_
          exact W.iret C d1_202 (by simp) rfl (by decide) (by decide) ⟨by show some _ = some _; rw [q18, own_n_18, if_neg b25, if_neg b26, if_neg b27], rfl⟩
        · skip
          exact J36 (by rw [q18, own_n_18, if_neg b25, if_neg b26, if_pos b27])
  refine W.iloadN C d1_0 rfl ?_
  refine W.bipush C (58 : Int32) d1_1 rfl ?_
  refine W.icmp_eq C 197 d1_3 rfl (fun b28 => ?_) (fun b28 => ?_)
  · skip
    refine W.iconst C (1 : Int32) d1_197 rfl ?_
    refine W.goto C 202 d1_198 rfl ?_
    exact W.iret C d1_202 (by simp) rfl (by decide) (by decide) ⟨by show some _ = some _; rw [own_n, if_pos b28], rfl⟩
  · skip
    refine W.iloadN C d1_6 rfl ?_
    refine W.bipush C (65 : Int32) d1_7 rfl ?_
    refine W.icmp_lt C 18 d1_9 rfl (fun b29 => ?_) (fun b29 => ?_)
    · skip
      exact J18 (by rw [own_n, if_neg b28, if_pos b29])
    · skip
      refine W.iloadN C d1_12 rfl ?_
      refine W.bipush C (90 : Int32) d1_13 rfl ?_
      refine W.icmp_le C 197 d1_15 rfl (fun b30 => ?_) (fun b30 => ?_)
      · skip
        refine W.iconst C (1 : Int32) d1_197 rfl ?_
        refine W.goto C 202 d1_198 rfl ?_
        exact W.iret C d1_202 (by simp) rfl (by decide) (by decide) ⟨by show some _ = some _; rw [own_n, if_neg b28, if_neg b29, if_neg b30], rfl⟩
      · skip
        exact J18 (by rw [own_n, if_neg b28, if_neg b29, if_pos b30])

abbrev y2 : MethodName := ⟨"com/example/trellis/trellis/util/XmlCharsIsNameStartCharPinLaw", "ref", "(I)Z"⟩
theorem d2_0 : decode method_3_code 0 = .ok (.iload_n 0, 1) := by decide +kernel
theorem d2_1 : decode method_3_code 1 = .ok (.bipush 65, 2) := by decide +kernel
theorem d2_3 : decode method_3_code 3 = .ok (.if_icmp .ge 15, 3) := by decide +kernel
theorem d2_6 : decode method_3_code 6 = .ok (.iload_n 0, 1) := by decide +kernel
theorem d2_7 : decode method_3_code 7 = .ok (.bipush 58, 2) := by decide +kernel
theorem d2_9 : decode method_3_code 9 = .ok (.if_icmp .ne 7, 3) := by decide +kernel
theorem d2_12 : decode method_3_code 12 = .ok (.iconst 1, 1) := by decide +kernel
theorem d2_13 : decode method_3_code 13 = .ok (.goto 4, 3) := by decide +kernel
theorem d2_16 : decode method_3_code 16 = .ok (.iconst 0, 1) := by decide +kernel
theorem d2_17 : decode method_3_code 17 = .ok (.ireturn, 1) := by decide +kernel
theorem d2_18 : decode method_3_code 18 = .ok (.iload_n 0, 1) := by decide +kernel
theorem d2_19 : decode method_3_code 19 = .ok (.bipush 90, 2) := by decide +kernel
theorem d2_21 : decode method_3_code 21 = .ok (.if_icmp .gt 5, 3) := by decide +kernel
theorem d2_24 : decode method_3_code 24 = .ok (.iconst 1, 1) := by decide +kernel
theorem d2_25 : decode method_3_code 25 = .ok (.ireturn, 1) := by decide +kernel
theorem d2_26 : decode method_3_code 26 = .ok (.iload_n 0, 1) := by decide +kernel
theorem d2_27 : decode method_3_code 27 = .ok (.bipush 97, 2) := by decide +kernel
theorem d2_29 : decode method_3_code 29 = .ok (.if_icmp .ge 15, 3) := by decide +kernel
theorem d2_32 : decode method_3_code 32 = .ok (.iload_n 0, 1) := by decide +kernel
theorem d2_33 : decode method_3_code 33 = .ok (.bipush 95, 2) := by decide +kernel
theorem d2_35 : decode method_3_code 35 = .ok (.if_icmp .ne 7, 3) := by decide +kernel
theorem d2_38 : decode method_3_code 38 = .ok (.iconst 1, 1) := by decide +kernel
theorem d2_39 : decode method_3_code 39 = .ok (.goto 4, 3) := by decide +kernel
theorem d2_42 : decode method_3_code 42 = .ok (.iconst 0, 1) := by decide +kernel
theorem d2_43 : decode method_3_code 43 = .ok (.ireturn, 1) := by decide +kernel
theorem d2_44 : decode method_3_code 44 = .ok (.iload_n 0, 1) := by decide +kernel
theorem d2_45 : decode method_3_code 45 = .ok (.bipush 122, 2) := by decide +kernel
theorem d2_47 : decode method_3_code 47 = .ok (.if_icmp .gt 5, 3) := by decide +kernel
theorem d2_50 : decode method_3_code 50 = .ok (.iconst 1, 1) := by decide +kernel
theorem d2_51 : decode method_3_code 51 = .ok (.ireturn, 1) := by decide +kernel
theorem d2_52 : decode method_3_code 52 = .ok (.iload_n 0, 1) := by decide +kernel
theorem d2_53 : decode method_3_code 53 = .ok (.sipush 192, 3) := by decide +kernel
theorem d2_56 : decode method_3_code 56 = .ok (.if_icmp .ge 5, 3) := by decide +kernel
theorem d2_59 : decode method_3_code 59 = .ok (.iconst 0, 1) := by decide +kernel
theorem d2_60 : decode method_3_code 60 = .ok (.ireturn, 1) := by decide +kernel
theorem d2_61 : decode method_3_code 61 = .ok (.iload_n 0, 1) := by decide +kernel
theorem d2_62 : decode method_3_code 62 = .ok (.sipush 768, 3) := by decide +kernel
theorem d2_65 : decode method_3_code 65 = .ok (.if_icmp .ge 23, 3) := by decide +kernel
theorem d2_68 : decode method_3_code 68 = .ok (.iload_n 0, 1) := by decide +kernel
theorem d2_69 : decode method_3_code 69 = .ok (.sipush 215, 3) := by decide +kernel
theorem d2_72 : decode method_3_code 72 = .ok (.if_icmp .eq 14, 3) := by decide +kernel
theorem d2_75 : decode method_3_code 75 = .ok (.iload_n 0, 1) := by decide +kernel
theorem d2_76 : decode method_3_code 76 = .ok (.sipush 247, 3) := by decide +kernel
theorem d2_79 : decode method_3_code 79 = .ok (.if_icmp .eq 7, 3) := by decide +kernel
theorem d2_82 : decode method_3_code 82 = .ok (.iconst 1, 1) := by decide +kernel
theorem d2_83 : decode method_3_code 83 = .ok (.goto 4, 3) := by decide +kernel
theorem d2_86 : decode method_3_code 86 = .ok (.iconst 0, 1) := by decide +kernel
theorem d2_87 : decode method_3_code 87 = .ok (.ireturn, 1) := by decide +kernel
theorem d2_88 : decode method_3_code 88 = .ok (.iload_n 0, 1) := by decide +kernel
theorem d2_89 : decode method_3_code 89 = .ok (.sipush 880, 3) := by decide +kernel
theorem d2_92 : decode method_3_code 92 = .ok (.if_icmp .ge 5, 3) := by decide +kernel
theorem d2_95 : decode method_3_code 95 = .ok (.iconst 0, 1) := by decide +kernel
theorem d2_96 : decode method_3_code 96 = .ok (.ireturn, 1) := by decide +kernel
theorem d2_97 : decode method_3_code 97 = .ok (.iload_n 0, 1) := by decide +kernel
theorem d2_98 : decode method_3_code 98 = .ok (.sipush 8192, 3) := by decide +kernel
theorem d2_101 : decode method_3_code 101 = .ok (.if_icmp .ge 16, 3) := by decide +kernel
theorem d2_104 : decode method_3_code 104 = .ok (.iload_n 0, 1) := by decide +kernel
theorem d2_105 : decode method_3_code 105 = .ok (.sipush 894, 3) := by decide +kernel
theorem d2_108 : decode method_3_code 108 = .ok (.if_icmp .eq 7, 3) := by decide +kernel
theorem d2_111 : decode method_3_code 111 = .ok (.iconst 1, 1) := by decide +kernel
theorem d2_112 : decode method_3_code 112 = .ok (.goto 4, 3) := by decide +kernel
theorem d2_115 : decode method_3_code 115 = .ok (.iconst 0, 1) := by decide +kernel
theorem d2_116 : decode method_3_code 116 = .ok (.ireturn, 1) := by decide +kernel
theorem d2_117 : decode method_3_code 117 = .ok (.iload_n 0, 1) := by decide +kernel
theorem d2_118 : decode method_3_code 118 = .ok (.sipush 8304, 3) := by decide +kernel
theorem d2_121 : decode method_3_code 121 = .ok (.if_icmp .ge 23, 3) := by decide +kernel
theorem d2_124 : decode method_3_code 124 = .ok (.iload_n 0, 1) := by decide +kernel
theorem d2_125 : decode method_3_code 125 = .ok (.sipush 8204, 3) := by decide +kernel
theorem d2_128 : decode method_3_code 128 = .ok (.if_icmp .eq 10, 3) := by decide +kernel
theorem d2_131 : decode method_3_code 131 = .ok (.iload_n 0, 1) := by decide +kernel
theorem d2_132 : decode method_3_code 132 = .ok (.sipush 8205, 3) := by decide +kernel
theorem d2_135 : decode method_3_code 135 = .ok (.if_icmp .ne 7, 3) := by decide +kernel
theorem d2_138 : decode method_3_code 138 = .ok (.iconst 1, 1) := by decide +kernel
theorem d2_139 : decode method_3_code 139 = .ok (.goto 4, 3) := by decide +kernel
theorem d2_142 : decode method_3_code 142 = .ok (.iconst 0, 1) := by decide +kernel
theorem d2_143 : decode method_3_code 143 = .ok (.ireturn, 1) := by decide +kernel
theorem d2_144 : decode method_3_code 144 = .ok (.iload_n 0, 1) := by decide +kernel
theorem d2_145 : decode method_3_code 145 = .ok (.sipush 8592, 3) := by decide +kernel
theorem d2_148 : decode method_3_code 148 = .ok (.if_icmp .ge 5, 3) := by decide +kernel
theorem d2_151 : decode method_3_code 151 = .ok (.iconst 1, 1) := by decide +kernel
theorem d2_152 : decode method_3_code 152 = .ok (.ireturn, 1) := by decide +kernel
theorem d2_153 : decode method_3_code 153 = .ok (.iload_n 0, 1) := by decide +kernel
theorem d2_154 : decode method_3_code 154 = .ok (.sipush 11264, 3) := by decide +kernel
theorem d2_157 : decode method_3_code 157 = .ok (.if_icmp .ge 5, 3) := by decide +kernel
theorem d2_160 : decode method_3_code 160 = .ok (.iconst 0, 1) := by decide +kernel
theorem d2_161 : decode method_3_code 161 = .ok (.ireturn, 1) := by decide +kernel
theorem d2_162 : decode method_3_code 162 = .ok (.iload_n 0, 1) := by decide +kernel
theorem d2_163 : decode method_3_code 163 = .ok (.sipush 12272, 3) := by decide +kernel
theorem d2_166 : decode method_3_code 166 = .ok (.if_icmp .ge 5, 3) := by decide +kernel
theorem d2_169 : decode method_3_code 169 = .ok (.iconst 1, 1) := by decide +kernel
theorem d2_170 : decode method_3_code 170 = .ok (.ireturn, 1) := by decide +kernel
theorem d2_171 : decode method_3_code 171 = .ok (.iload_n 0, 1) := by decide +kernel
theorem d2_172 : decode method_3_code 172 = .ok (.sipush 12288, 3) := by decide +kernel
theorem d2_175 : decode method_3_code 175 = .ok (.if_icmp .gt 5, 3) := by decide +kernel
theorem d2_178 : decode method_3_code 178 = .ok (.iconst 0, 1) := by decide +kernel
theorem d2_179 : decode method_3_code 179 = .ok (.ireturn, 1) := by decide +kernel
theorem d2_180 : decode method_3_code 180 = .ok (.iload_n 0, 1) := by decide +kernel
theorem d2_181 : decode method_3_code 181 = .ok (.ldc 28, 2) := by decide +kernel
theorem d2_183 : decode method_3_code 183 = .ok (.if_icmp .ge 5, 3) := by decide +kernel
theorem d2_186 : decode method_3_code 186 = .ok (.iconst 1, 1) := by decide +kernel
theorem d2_187 : decode method_3_code 187 = .ok (.ireturn, 1) := by decide +kernel
theorem d2_188 : decode method_3_code 188 = .ok (.iload_n 0, 1) := by decide +kernel
theorem d2_189 : decode method_3_code 189 = .ok (.ldc 8, 2) := by decide +kernel
theorem d2_191 : decode method_3_code 191 = .ok (.if_icmp .ge 5, 3) := by decide +kernel
theorem d2_194 : decode method_3_code 194 = .ok (.iconst 0, 1) := by decide +kernel
theorem d2_195 : decode method_3_code 195 = .ok (.ireturn, 1) := by decide +kernel
theorem d2_196 : decode method_3_code 196 = .ok (.iload_n 0, 1) := by decide +kernel
theorem d2_197 : decode method_3_code 197 = .ok (.ldc 29, 2) := by decide +kernel
theorem d2_199 : decode method_3_code 199 = .ok (.if_icmp .ge 5, 3) := by decide +kernel
theorem d2_202 : decode method_3_code 202 = .ok (.iconst 1, 1) := by decide +kernel
theorem d2_203 : decode method_3_code 203 = .ok (.ireturn, 1) := by decide +kernel
theorem d2_204 : decode method_3_code 204 = .ok (.iload_n 0, 1) := by decide +kernel
theorem d2_205 : decode method_3_code 205 = .ok (.ldc 10, 2) := by decide +kernel
theorem d2_207 : decode method_3_code 207 = .ok (.if_icmp .ge 5, 3) := by decide +kernel
theorem d2_210 : decode method_3_code 210 = .ok (.iconst 0, 1) := by decide +kernel
theorem d2_211 : decode method_3_code 211 = .ok (.ireturn, 1) := by decide +kernel
theorem d2_212 : decode method_3_code 212 = .ok (.iload_n 0, 1) := by decide +kernel
theorem d2_213 : decode method_3_code 213 = .ok (.ldc 30, 2) := by decide +kernel
theorem d2_215 : decode method_3_code 215 = .ok (.if_icmp .ge 5, 3) := by decide +kernel
theorem d2_218 : decode method_3_code 218 = .ok (.iconst 1, 1) := by decide +kernel
theorem d2_219 : decode method_3_code 219 = .ok (.ireturn, 1) := by decide +kernel
theorem d2_220 : decode method_3_code 220 = .ok (.iload_n 0, 1) := by decide +kernel
theorem d2_221 : decode method_3_code 221 = .ok (.ldc 12, 2) := by decide +kernel
theorem d2_223 : decode method_3_code 223 = .ok (.if_icmp .ge 5, 3) := by decide +kernel
theorem d2_226 : decode method_3_code 226 = .ok (.iconst 0, 1) := by decide +kernel
theorem d2_227 : decode method_3_code 227 = .ok (.ireturn, 1) := by decide +kernel
theorem d2_228 : decode method_3_code 228 = .ok (.iload_n 0, 1) := by decide +kernel
theorem d2_229 : decode method_3_code 229 = .ok (.ldc 31, 2) := by decide +kernel
theorem d2_231 : decode method_3_code 231 = .ok (.if_icmp .ge 7, 3) := by decide +kernel
theorem d2_234 : decode method_3_code 234 = .ok (.iconst 1, 1) := by decide +kernel
theorem d2_235 : decode method_3_code 235 = .ok (.goto 4, 3) := by decide +kernel
theorem d2_238 : decode method_3_code 238 = .ok (.iconst 0, 1) := by decide +kernel
theorem d2_239 : decode method_3_code 239 = .ok (.ireturn, 1) := by decide +kernel
theorem pf_2 : plainFor y2 = true := by first | exact plainFor_of_name (by first | (simp [plainName, overriddenIn]; done) | decide +kernel) | decide +kernel
theorem ef_2 (m : MethodId) (x : Int32) : entryFrame m #[(.int x)] 1 = mkF m 0 #[.val (.int x)] [] := by first | (simp [entryFrame, mkF, argsToLocals, Value.category]; done) | rfl
def own_r (x : Int32) : Int32 := if x < (65 : Int32) then if x = (58 : Int32) then (1 : Int32) else (0 : Int32) else if (90 : Int32) < x then if x < (97 : Int32) then if x = (95 : Int32) then (1 : Int32) else (0 : Int32) else if (122 : Int32) < x then if x < (192 : Int32) then (0 : Int32) else if x < (768 : Int32) then if x = (215 : Int32) then (0 : Int32) else if x = (247 : Int32) then (0 : Int32) else (1 : Int32) else if x < (880 : Int32) then (0 : Int32) else if x < (8192 : Int32) then if x = (894 : Int32) then (0 : Int32) else (1 : Int32) else if x < (8304 : Int32) then if x = (8204 : Int32) then (1 : Int32) else if x = (8205 : Int32) then (1 : Int32) else (0 : Int32) else if x < (8592 : Int32) then (1 : Int32) else if x < (11264 : Int32) then (0 : Int32) else if x < (12272 : Int32) then (1 : Int32) else if (12288 : Int32) < x then if x < (55296 : Int32) then (1 : Int32) else if x < (63744 : Int32) then (0 : Int32) else if x < (64976 : Int32) then (1 : Int32) else if x < (65008 : Int32) then (0 : Int32) else if x < (65534 : Int32) then (1 : Int32) else if x < (65536 : Int32) then (0 : Int32) else if x < (983040 : Int32) then (1 : Int32) else (0 : Int32) else (0 : Int32) else (1 : Int32) else (1 : Int32)
set_option maxRecDepth 65536 in
set_option maxHeartbeats 40000000 in
theorem con_2 (l : Launch) (Z : State) (a0 : Array Value) (hw : ∀ d ∈ tables_1, d.before a0 Z = true) (h0 : Heap) (n0 : Nat) (x : Int32)   : Con l Z y2 method_3_code 1 (some .boolean) ({ frames := 0, cells := 0, slots := 0, locals := 0 } : Room) #[(.int x)] h0 n0 (Pu (some (.int (own_r x))) h0) := by
  refine Con.of pf_2 (fun m => ef_2 m x) ?_
  intro p e s m below meth c C
  refine W.iloadN C d2_0 rfl ?_
  refine W.bipush C (65 : Int32) d2_1 rfl ?_
  refine W.icmp_ge C 18 d2_3 rfl (fun b1 => ?_) (fun b1 => ?_)
  · skip
    refine W.iloadN C d2_18 rfl ?_
    refine W.bipush C (90 : Int32) d2_19 rfl ?_
    refine W.icmp_gt C 26 d2_21 rfl (fun b2 => ?_) (fun b2 => ?_)
    · skip
      refine W.iloadN C d2_26 rfl ?_
      refine W.bipush C (97 : Int32) d2_27 rfl ?_
      refine W.icmp_ge C 44 d2_29 rfl (fun b3 => ?_) (fun b3 => ?_)
      · skip
        refine W.iloadN C d2_44 rfl ?_
        refine W.bipush C (122 : Int32) d2_45 rfl ?_
        refine W.icmp_gt C 52 d2_47 rfl (fun b4 => ?_) (fun b4 => ?_)
        · skip
          refine W.iloadN C d2_52 rfl ?_
          refine W.sipush C (192 : Int32) d2_53 rfl ?_
          refine W.icmp_ge C 61 d2_56 rfl (fun b5 => ?_) (fun b5 => ?_)
          · skip
            refine W.iloadN C d2_61 rfl ?_
            refine W.sipush C (768 : Int32) d2_62 rfl ?_
            refine W.icmp_ge C 88 d2_65 rfl (fun b6 => ?_) (fun b6 => ?_)
            · skip
              refine W.iloadN C d2_88 rfl ?_
              refine W.sipush C (880 : Int32) d2_89 rfl ?_
              refine W.icmp_ge C 97 d2_92 rfl (fun b7 => ?_) (fun b7 => ?_)
              · skip
                refine W.iloadN C d2_97 rfl ?_
                refine W.sipush C (8192 : Int32) d2_98 rfl ?_
                refine W.icmp_ge C 117 d2_101 rfl (fun b8 => ?_) (fun b8 => ?_)
                · skip
                  refine W.iloadN C d2_117 rfl ?_
                  refine W.sipush C (8304 : Int32) d2_118 rfl ?_
                  refine W.icmp_ge C 144 d2_121 rfl (fun b9 => ?_) (fun b9 => ?_)
                  · skip
                    refine W.iloadN C d2_144 rfl ?_
                    refine W.sipush C (8592 : Int32) d2_145 rfl ?_
                    refine W.icmp_ge C 153 d2_148 rfl (fun b10 => ?_) (fun b10 => ?_)
                    · skip
                      refine W.iloadN C d2_153 rfl ?_
                      refine W.sipush C (11264 : Int32) d2_154 rfl ?_
                      refine W.icmp_ge C 162 d2_157 rfl (fun b11 => ?_) (fun b11 => ?_)
                      · skip
                        refine W.iloadN C d2_162 rfl ?_
                        refine W.sipush C (12272 : Int32) d2_163 rfl ?_
                        refine W.icmp_ge C 171 d2_166 rfl (fun b12 => ?_) (fun b12 => ?_)
                        · skip
                          refine W.iloadN C d2_171 rfl ?_
                          refine W.sipush C (12288 : Int32) d2_172 rfl ?_
                          refine W.icmp_gt C 180 d2_175 rfl (fun b13 => ?_) (fun b13 => ?_)
                          · skip
                            refine W.iloadN C d2_180 rfl ?_
                            refine W.ldcI C (v := (55296 : Int32)) d2_181 (tkw hw 22 rfl) ?_
                            refine W.icmp_ge C 188 d2_183 rfl (fun b14 => ?_) (fun b14 => ?_)
                            · skip
                              refine W.iloadN C d2_188 rfl ?_
                              refine W.ldcI C (v := (63744 : Int32)) d2_189 (tkw hw 2 rfl) ?_
                              refine W.icmp_ge C 196 d2_191 rfl (fun b15 => ?_) (fun b15 => ?_)
                              · skip
                                refine W.iloadN C d2_196 rfl ?_
                                refine W.ldcI C (v := (64976 : Int32)) d2_197 (tkw hw 27 rfl) ?_
                                refine W.icmp_ge C 204 d2_199 rfl (fun b16 => ?_) (fun b16 => ?_)
                                · skip
                                  refine W.iloadN C d2_204 rfl ?_
                                  refine W.ldcI C (v := (65008 : Int32)) d2_205 (tkw hw 4 rfl) ?_
                                  refine W.icmp_ge C 212 d2_207 rfl (fun b17 => ?_) (fun b17 => ?_)
                                  · skip
                                    refine W.iloadN C d2_212 rfl ?_
                                    refine W.ldcI C (v := (65534 : Int32)) d2_213 (tkw hw 28 rfl) ?_
                                    refine W.icmp_ge C 220 d2_215 rfl (fun b18 => ?_) (fun b18 => ?_)
                                    · skip
                                      refine W.iloadN C d2_220 rfl ?_
                                      refine W.ldcI C (v := (65536 : Int32)) d2_221 (tkw hw 6 rfl) ?_
                                      refine W.icmp_ge C 228 d2_223 rfl (fun b19 => ?_) (fun b19 => ?_)
                                      · skip
                                        refine W.iloadN C d2_228 rfl ?_
                                        refine W.ldcI C (v := (983040 : Int32)) d2_229 (tkw hw 29 rfl) ?_
                                        refine W.icmp_ge C 238 d2_231 rfl (fun b20 => ?_) (fun b20 => ?_)
                                        · skip
                                          refine W.iconst C (0 : Int32) d2_238 rfl ?_
                                          exact W.iret C d2_239 (by simp) rfl (by decide) (by decide) ⟨by show some _ = some _; rw [own_r, if_neg b1, if_pos b2, if_neg b3, if_pos b4, if_neg b5, if_neg b6, if_neg b7, if_neg b8, if_neg b9, if_neg b10, if_neg b11, if_neg b12, if_pos b13, if_neg b14, if_neg b15, if_neg b16, if_neg b17, if_neg b18, if_neg b19, if_neg b20], rfl⟩
                                        · skip
                                          refine W.iconst C (1 : Int32) d2_234 rfl ?_
                                          refine W.goto C 239 d2_235 rfl ?_
                                          exact W.iret C d2_239 (by simp) rfl (by decide) (by decide) ⟨by show some _ = some _; rw [own_r, if_neg b1, if_pos b2, if_neg b3, if_pos b4, if_neg b5, if_neg b6, if_neg b7, if_neg b8, if_neg b9, if_neg b10, if_neg b11, if_neg b12, if_pos b13, if_neg b14, if_neg b15, if_neg b16, if_neg b17, if_neg b18, if_neg b19, if_pos b20], rfl⟩
                                      · skip
                                        refine W.iconst C (0 : Int32) d2_226 rfl ?_
                                        exact W.iret C d2_227 (by simp) rfl (by decide) (by decide) ⟨by show some _ = some _; rw [own_r, if_neg b1, if_pos b2, if_neg b3, if_pos b4, if_neg b5, if_neg b6, if_neg b7, if_neg b8, if_neg b9, if_neg b10, if_neg b11, if_neg b12, if_pos b13, if_neg b14, if_neg b15, if_neg b16, if_neg b17, if_neg b18, if_pos b19], rfl⟩
                                    · skip
                                      refine W.iconst C (1 : Int32) d2_218 rfl ?_
                                      exact W.iret C d2_219 (by simp) rfl (by decide) (by decide) ⟨by show some _ = some _; rw [own_r, if_neg b1, if_pos b2, if_neg b3, if_pos b4, if_neg b5, if_neg b6, if_neg b7, if_neg b8, if_neg b9, if_neg b10, if_neg b11, if_neg b12, if_pos b13, if_neg b14, if_neg b15, if_neg b16, if_neg b17, if_pos b18], rfl⟩
                                  · skip
                                    refine W.iconst C (0 : Int32) d2_210 rfl ?_
                                    exact W.iret C d2_211 (by simp) rfl (by decide) (by decide) ⟨by show some _ = some _; rw [own_r, if_neg b1, if_pos b2, if_neg b3, if_pos b4, if_neg b5, if_neg b6, if_neg b7, if_neg b8, if_neg b9, if_neg b10, if_neg b11, if_neg b12, if_pos b13, if_neg b14, if_neg b15, if_neg b16, if_pos b17], rfl⟩
                                · skip
                                  refine W.iconst C (1 : Int32) d2_202 rfl ?_
                                  exact W.iret C d2_203 (by simp) rfl (by decide) (by decide) ⟨by show some _ = some _; rw [own_r, if_neg b1, if_pos b2, if_neg b3, if_pos b4, if_neg b5, if_neg b6, if_neg b7, if_neg b8, if_neg b9, if_neg b10, if_neg b11, if_neg b12, if_pos b13, if_neg b14, if_neg b15, if_pos b16], rfl⟩
                              · skip
                                refine W.iconst C (0 : Int32) d2_194 rfl ?_
                                exact W.iret C d2_195 (by simp) rfl (by decide) (by decide) ⟨by show some _ = some _; rw [own_r, if_neg b1, if_pos b2, if_neg b3, if_pos b4, if_neg b5, if_neg b6, if_neg b7, if_neg b8, if_neg b9, if_neg b10, if_neg b11, if_neg b12, if_pos b13, if_neg b14, if_pos b15], rfl⟩
                            · skip
                              refine W.iconst C (1 : Int32) d2_186 rfl ?_
                              exact W.iret C d2_187 (by simp) rfl (by decide) (by decide) ⟨by show some _ = some _; rw [own_r, if_neg b1, if_pos b2, if_neg b3, if_pos b4, if_neg b5, if_neg b6, if_neg b7, if_neg b8, if_neg b9, if_neg b10, if_neg b11, if_neg b12, if_pos b13, if_pos b14], rfl⟩
                          · skip
                            refine W.iconst C (0 : Int32) d2_178 rfl ?_
                            exact W.iret C d2_179 (by simp) rfl (by decide) (by decide) ⟨by show some _ = some _; rw [own_r, if_neg b1, if_pos b2, if_neg b3, if_pos b4, if_neg b5, if_neg b6, if_neg b7, if_neg b8, if_neg b9, if_neg b10, if_neg b11, if_neg b12, if_neg b13], rfl⟩
                        · skip
                          refine W.iconst C (1 : Int32) d2_169 rfl ?_
                          exact W.iret C d2_170 (by simp) rfl (by decide) (by decide) ⟨by show some _ = some _; rw [own_r, if_neg b1, if_pos b2, if_neg b3, if_pos b4, if_neg b5, if_neg b6, if_neg b7, if_neg b8, if_neg b9, if_neg b10, if_neg b11, if_pos b12], rfl⟩
                      · skip
                        refine W.iconst C (0 : Int32) d2_160 rfl ?_
                        exact W.iret C d2_161 (by simp) rfl (by decide) (by decide) ⟨by show some _ = some _; rw [own_r, if_neg b1, if_pos b2, if_neg b3, if_pos b4, if_neg b5, if_neg b6, if_neg b7, if_neg b8, if_neg b9, if_neg b10, if_pos b11], rfl⟩
                    · skip
                      refine W.iconst C (1 : Int32) d2_151 rfl ?_
                      exact W.iret C d2_152 (by simp) rfl (by decide) (by decide) ⟨by show some _ = some _; rw [own_r, if_neg b1, if_pos b2, if_neg b3, if_pos b4, if_neg b5, if_neg b6, if_neg b7, if_neg b8, if_neg b9, if_pos b10], rfl⟩
                  · skip
                    refine W.iloadN C d2_124 rfl ?_
                    refine W.sipush C (8204 : Int32) d2_125 rfl ?_
                    refine W.icmp_eq C 138 d2_128 rfl (fun b21 => ?_) (fun b21 => ?_)
                    · skip
                      refine W.iconst C (1 : Int32) d2_138 rfl ?_
                      refine W.goto C 143 d2_139 rfl ?_
                      exact W.iret C d2_143 (by simp) rfl (by decide) (by decide) ⟨by show some _ = some _; rw [own_r, if_neg b1, if_pos b2, if_neg b3, if_pos b4, if_neg b5, if_neg b6, if_neg b7, if_neg b8, if_pos b9, if_pos b21], rfl⟩
                    · skip
                      refine W.iloadN C d2_131 rfl ?_
                      refine W.sipush C (8205 : Int32) d2_132 rfl ?_
                      refine W.icmp_ne C 142 d2_135 rfl (fun b22 => ?_) (fun b22 => ?_)
                      · skip
                        refine W.iconst C (0 : Int32) d2_142 rfl ?_
                        exact W.iret C d2_143 (by simp) rfl (by decide) (by decide) ⟨by show some _ = some _; rw [own_r, if_neg b1, if_pos b2, if_neg b3, if_pos b4, if_neg b5, if_neg b6, if_neg b7, if_neg b8, if_pos b9, if_neg b21, if_neg b22], rfl⟩
                      · skip
                        refine W.iconst C (1 : Int32) d2_138 rfl ?_
                        refine W.goto C 143 d2_139 rfl ?_
                        exact W.iret C d2_143 (by simp) rfl (by decide) (by decide) ⟨by show some _ = some _; rw [own_r, if_neg b1, if_pos b2, if_neg b3, if_pos b4, if_neg b5, if_neg b6, if_neg b7, if_neg b8, if_pos b9, if_neg b21, if_pos b22], rfl⟩
                · skip
                  refine W.iloadN C d2_104 rfl ?_
                  refine W.sipush C (894 : Int32) d2_105 rfl ?_
                  refine W.icmp_eq C 115 d2_108 rfl (fun b23 => ?_) (fun b23 => ?_)
                  · skip
                    refine W.iconst C (0 : Int32) d2_115 rfl ?_
                    exact W.iret C d2_116 (by simp) rfl (by decide) (by decide) ⟨by show some _ = some _; rw [own_r, if_neg b1, if_pos b2, if_neg b3, if_pos b4, if_neg b5, if_neg b6, if_neg b7, if_pos b8, if_pos b23], rfl⟩
                  · skip
                    refine W.iconst C (1 : Int32) d2_111 rfl ?_
                    refine W.goto C 116 d2_112 rfl ?_
                    exact W.iret C d2_116 (by simp) rfl (by decide) (by decide) ⟨by show some _ = some _; rw [own_r, if_neg b1, if_pos b2, if_neg b3, if_pos b4, if_neg b5, if_neg b6, if_neg b7, if_pos b8, if_neg b23], rfl⟩
              · skip
                refine W.iconst C (0 : Int32) d2_95 rfl ?_
                exact W.iret C d2_96 (by simp) rfl (by decide) (by decide) ⟨by show some _ = some _; rw [own_r, if_neg b1, if_pos b2, if_neg b3, if_pos b4, if_neg b5, if_neg b6, if_pos b7], rfl⟩
            · skip
              refine W.iloadN C d2_68 rfl ?_
              refine W.sipush C (215 : Int32) d2_69 rfl ?_
              refine W.icmp_eq C 86 d2_72 rfl (fun b24 => ?_) (fun b24 => ?_)
              · skip
                refine W.iconst C (0 : Int32) d2_86 rfl ?_
                exact W.iret C d2_87 (by simp) rfl (by decide) (by decide) ⟨by show some _ = some _; rw [own_r, if_neg b1, if_pos b2, if_neg b3, if_pos b4, if_neg b5, if_pos b6, if_pos b24], rfl⟩
              · skip
                refine W.iloadN C d2_75 rfl ?_
                refine W.sipush C (247 : Int32) d2_76 rfl ?_
                refine W.icmp_eq C 86 d2_79 rfl (fun b25 => ?_) (fun b25 => ?_)
                · skip
                  refine W.iconst C (0 : Int32) d2_86 rfl ?_
                  exact W.iret C d2_87 (by simp) rfl (by decide) (by decide) ⟨by show some _ = some _; rw [own_r, if_neg b1, if_pos b2, if_neg b3, if_pos b4, if_neg b5, if_pos b6, if_neg b24, if_pos b25], rfl⟩
                · skip
                  refine W.iconst C (1 : Int32) d2_82 rfl ?_
                  refine W.goto C 87 d2_83 rfl ?_
                  exact W.iret C d2_87 (by simp) rfl (by decide) (by decide) ⟨by show some _ = some _; rw [own_r, if_neg b1, if_pos b2, if_neg b3, if_pos b4, if_neg b5, if_pos b6, if_neg b24, if_neg b25], rfl⟩
          · skip
            refine W.iconst C (0 : Int32) d2_59 rfl ?_
            exact W.iret C d2_60 (by simp) rfl (by decide) (by decide) ⟨by show some _ = some _; rw [own_r, if_neg b1, if_pos b2, if_neg b3, if_pos b4, if_pos b5], rfl⟩
        · skip
          refine W.iconst C (1 : Int32) d2_50 rfl ?_
          exact W.iret C d2_51 (by simp) rfl (by decide) (by decide) ⟨by show some _ = some _; rw [own_r, if_neg b1, if_pos b2, if_neg b3, if_neg b4], rfl⟩
      · skip
        refine W.iloadN C d2_32 rfl ?_
        refine W.bipush C (95 : Int32) d2_33 rfl ?_
        refine W.icmp_ne C 42 d2_35 rfl (fun b26 => ?_) (fun b26 => ?_)
        · skip
          refine W.iconst C (0 : Int32) d2_42 rfl ?_
          exact W.iret C d2_43 (by simp) rfl (by decide) (by decide) ⟨by show some _ = some _; rw [own_r, if_neg b1, if_pos b2, if_pos b3, if_neg b26], rfl⟩
        · skip
          refine W.iconst C (1 : Int32) d2_38 rfl ?_
          refine W.goto C 43 d2_39 rfl ?_
          exact W.iret C d2_43 (by simp) rfl (by decide) (by decide) ⟨by show some _ = some _; rw [own_r, if_neg b1, if_pos b2, if_pos b3, if_pos b26], rfl⟩
    · skip
      refine W.iconst C (1 : Int32) d2_24 rfl ?_
      exact W.iret C d2_25 (by simp) rfl (by decide) (by decide) ⟨by show some _ = some _; rw [own_r, if_neg b1, if_neg b2], rfl⟩
  · skip
    refine W.iloadN C d2_6 rfl ?_
    refine W.bipush C (58 : Int32) d2_7 rfl ?_
    refine W.icmp_ne C 16 d2_9 rfl (fun b27 => ?_) (fun b27 => ?_)
    · skip
      refine W.iconst C (0 : Int32) d2_16 rfl ?_
      exact W.iret C d2_17 (by simp) rfl (by decide) (by decide) ⟨by show some _ = some _; rw [own_r, if_pos b1, if_neg b27], rfl⟩
    · skip
      refine W.iconst C (1 : Int32) d2_12 rfl ?_
      refine W.goto C 17 d2_13 rfl ?_
      exact W.iret C d2_17 (by simp) rfl (by decide) (by decide) ⟨by show some _ = some _; rw [own_r, if_pos b1, if_pos b27], rfl⟩

theorem own_c0 : (0 : Int32).toInt = 0 := by decide
theorem own_c1 : (1 : Int32).toInt = 1 := by decide
theorem own_c58 : (58 : Int32).toInt = 58 := by decide
theorem own_c65 : (65 : Int32).toInt = 65 := by decide
theorem own_c90 : (90 : Int32).toInt = 90 := by decide
theorem own_c95 : (95 : Int32).toInt = 95 := by decide
theorem own_c97 : (97 : Int32).toInt = 97 := by decide
theorem own_c122 : (122 : Int32).toInt = 122 := by decide
theorem own_c192 : (192 : Int32).toInt = 192 := by decide
theorem own_c214 : (214 : Int32).toInt = 214 := by decide
theorem own_c215 : (215 : Int32).toInt = 215 := by decide
theorem own_c216 : (216 : Int32).toInt = 216 := by decide
theorem own_c246 : (246 : Int32).toInt = 246 := by decide
theorem own_c247 : (247 : Int32).toInt = 247 := by decide
theorem own_c248 : (248 : Int32).toInt = 248 := by decide
theorem own_c767 : (767 : Int32).toInt = 767 := by decide
theorem own_c768 : (768 : Int32).toInt = 768 := by decide
theorem own_c880 : (880 : Int32).toInt = 880 := by decide
theorem own_c893 : (893 : Int32).toInt = 893 := by decide
theorem own_c894 : (894 : Int32).toInt = 894 := by decide
theorem own_c895 : (895 : Int32).toInt = 895 := by decide
theorem own_c8191 : (8191 : Int32).toInt = 8191 := by decide
theorem own_c8192 : (8192 : Int32).toInt = 8192 := by decide
theorem own_c8204 : (8204 : Int32).toInt = 8204 := by decide
theorem own_c8205 : (8205 : Int32).toInt = 8205 := by decide
theorem own_c8304 : (8304 : Int32).toInt = 8304 := by decide
theorem own_c8591 : (8591 : Int32).toInt = 8591 := by decide
theorem own_c8592 : (8592 : Int32).toInt = 8592 := by decide
theorem own_c11264 : (11264 : Int32).toInt = 11264 := by decide
theorem own_c12271 : (12271 : Int32).toInt = 12271 := by decide
theorem own_c12272 : (12272 : Int32).toInt = 12272 := by decide
theorem own_c12288 : (12288 : Int32).toInt = 12288 := by decide
theorem own_c12289 : (12289 : Int32).toInt = 12289 := by decide
theorem own_c55295 : (55295 : Int32).toInt = 55295 := by decide
theorem own_c55296 : (55296 : Int32).toInt = 55296 := by decide
theorem own_c63744 : (63744 : Int32).toInt = 63744 := by decide
theorem own_c64975 : (64975 : Int32).toInt = 64975 := by decide
theorem own_c64976 : (64976 : Int32).toInt = 64976 := by decide
theorem own_c65008 : (65008 : Int32).toInt = 65008 := by decide
theorem own_c65533 : (65533 : Int32).toInt = 65533 := by decide
theorem own_c65534 : (65534 : Int32).toInt = 65534 := by decide
theorem own_c65536 : (65536 : Int32).toInt = 65536 := by decide
theorem own_c983039 : (983039 : Int32).toInt = 983039 := by decide
theorem own_c983040 : (983040 : Int32).toInt = 983040 := by decide
abbrev own_P185 (n : Int) : Prop := (65536 ≤ n ∧ n ≤ 983039)
theorem own_st185 (c : Int32) : own_n_185 c = if own_P185 c.toInt then 1 else 0 := by
  unfold own_n_185 own_P185
  simp only [Int32.lt_iff_toInt_lt, ← Int32.toInt_inj, own_c0, own_c1, own_c58, own_c65, own_c90, own_c95, own_c97, own_c122, own_c192, own_c214, own_c215, own_c216, own_c246, own_c247, own_c248, own_c767, own_c768, own_c880, own_c893, own_c894, own_c895, own_c8191, own_c8192, own_c8204, own_c8205, own_c8304, own_c8591, own_c8592, own_c11264, own_c12271, own_c12272, own_c12288, own_c12289, own_c55295, own_c55296, own_c63744, own_c64975, own_c64976, own_c65008, own_c65533, own_c65534, own_c65536, own_c983039, own_c983040]
  generalize c.toInt = n
  repeat' split
  all_goals first | rfl | omega | (exfalso; simp_all; omega)
abbrev own_P173 (n : Int) : Prop := (65008 ≤ n ∧ n ≤ 65533) ∨ own_P185 n
theorem own_st173 (c : Int32) : own_n_173 c = if own_P173 c.toInt then 1 else 0 := by
  unfold own_n_173 own_P173
  simp only [own_st185, Int32.lt_iff_toInt_lt, ← Int32.toInt_inj, own_c0, own_c1, own_c58, own_c65, own_c90, own_c95, own_c97, own_c122, own_c192, own_c214, own_c215, own_c216, own_c246, own_c247, own_c248, own_c767, own_c768, own_c880, own_c893, own_c894, own_c895, own_c8191, own_c8192, own_c8204, own_c8205, own_c8304, own_c8591, own_c8592, own_c11264, own_c12271, own_c12272, own_c12288, own_c12289, own_c55295, own_c55296, own_c63744, own_c64975, own_c64976, own_c65008, own_c65533, own_c65534, own_c65536, own_c983039, own_c983040]
  generalize c.toInt = n
  repeat' split
  all_goals first | rfl | omega | (exfalso; simp_all; omega)
abbrev own_P161 (n : Int) : Prop := (63744 ≤ n ∧ n ≤ 64975) ∨ own_P173 n
theorem own_st161 (c : Int32) : own_n_161 c = if own_P161 c.toInt then 1 else 0 := by
  unfold own_n_161 own_P161
  simp only [own_st173, Int32.lt_iff_toInt_lt, ← Int32.toInt_inj, own_c0, own_c1, own_c58, own_c65, own_c90, own_c95, own_c97, own_c122, own_c192, own_c214, own_c215, own_c216, own_c246, own_c247, own_c248, own_c767, own_c768, own_c880, own_c893, own_c894, own_c895, own_c8191, own_c8192, own_c8204, own_c8205, own_c8304, own_c8591, own_c8592, own_c11264, own_c12271, own_c12272, own_c12288, own_c12289, own_c55295, own_c55296, own_c63744, own_c64975, own_c64976, own_c65008, own_c65533, own_c65534, own_c65536, own_c983039, own_c983040]
  generalize c.toInt = n
  repeat' split
  all_goals first | rfl | omega | (exfalso; simp_all; omega)
abbrev own_P148 (n : Int) : Prop := (12289 ≤ n ∧ n ≤ 55295) ∨ own_P161 n
theorem own_st148 (c : Int32) : own_n_148 c = if own_P148 c.toInt then 1 else 0 := by
  unfold own_n_148 own_P148
  simp only [own_st161, Int32.lt_iff_toInt_lt, ← Int32.toInt_inj, own_c0, own_c1, own_c58, own_c65, own_c90, own_c95, own_c97, own_c122, own_c192, own_c214, own_c215, own_c216, own_c246, own_c247, own_c248, own_c767, own_c768, own_c880, own_c893, own_c894, own_c895, own_c8191, own_c8192, own_c8204, own_c8205, own_c8304, own_c8591, own_c8592, own_c11264, own_c12271, own_c12272, own_c12288, own_c12289, own_c55295, own_c55296, own_c63744, own_c64975, own_c64976, own_c65008, own_c65533, own_c65534, own_c65536, own_c983039, own_c983040]
  generalize c.toInt = n
  repeat' split
  all_goals first | rfl | omega | (exfalso; simp_all; omega)
abbrev own_P134 (n : Int) : Prop := (11264 ≤ n ∧ n ≤ 12271) ∨ own_P148 n
theorem own_st134 (c : Int32) : own_n_134 c = if own_P134 c.toInt then 1 else 0 := by
  unfold own_n_134 own_P134
  simp only [own_st148, Int32.lt_iff_toInt_lt, ← Int32.toInt_inj, own_c0, own_c1, own_c58, own_c65, own_c90, own_c95, own_c97, own_c122, own_c192, own_c214, own_c215, own_c216, own_c246, own_c247, own_c248, own_c767, own_c768, own_c880, own_c893, own_c894, own_c895, own_c8191, own_c8192, own_c8204, own_c8205, own_c8304, own_c8591, own_c8592, own_c11264, own_c12271, own_c12272, own_c12288, own_c12289, own_c55295, own_c55296, own_c63744, own_c64975, own_c64976, own_c65008, own_c65533, own_c65534, own_c65536, own_c983039, own_c983040]
  generalize c.toInt = n
  repeat' split
  all_goals first | rfl | omega | (exfalso; simp_all; omega)
abbrev own_P120 (n : Int) : Prop := (8304 ≤ n ∧ n ≤ 8591) ∨ own_P134 n
theorem own_st120 (c : Int32) : own_n_120 c = if own_P120 c.toInt then 1 else 0 := by
  unfold own_n_120 own_P120
  simp only [own_st134, Int32.lt_iff_toInt_lt, ← Int32.toInt_inj, own_c0, own_c1, own_c58, own_c65, own_c90, own_c95, own_c97, own_c122, own_c192, own_c214, own_c215, own_c216, own_c246, own_c247, own_c248, own_c767, own_c768, own_c880, own_c893, own_c894, own_c895, own_c8191, own_c8192, own_c8204, own_c8205, own_c8304, own_c8591, own_c8592, own_c11264, own_c12271, own_c12272, own_c12288, own_c12289, own_c55295, own_c55296, own_c63744, own_c64975, own_c64976, own_c65008, own_c65533, own_c65534, own_c65536, own_c983039, own_c983040]
  generalize c.toInt = n
  repeat' split
  all_goals first | rfl | omega | (exfalso; simp_all; omega)
abbrev own_P106 (n : Int) : Prop := (8204 ≤ n ∧ n ≤ 8205) ∨ own_P120 n
theorem own_st106 (c : Int32) : own_n_106 c = if own_P106 c.toInt then 1 else 0 := by
  unfold own_n_106 own_P106
  simp only [own_st120, Int32.lt_iff_toInt_lt, ← Int32.toInt_inj, own_c0, own_c1, own_c58, own_c65, own_c90, own_c95, own_c97, own_c122, own_c192, own_c214, own_c215, own_c216, own_c246, own_c247, own_c248, own_c767, own_c768, own_c880, own_c893, own_c894, own_c895, own_c8191, own_c8192, own_c8204, own_c8205, own_c8304, own_c8591, own_c8592, own_c11264, own_c12271, own_c12272, own_c12288, own_c12289, own_c55295, own_c55296, own_c63744, own_c64975, own_c64976, own_c65008, own_c65533, own_c65534, own_c65536, own_c983039, own_c983040]
  generalize c.toInt = n
  repeat' split
  all_goals first | rfl | omega | (exfalso; simp_all; omega)
abbrev own_P92 (n : Int) : Prop := (895 ≤ n ∧ n ≤ 8191) ∨ own_P106 n
theorem own_st92 (c : Int32) : own_n_92 c = if own_P92 c.toInt then 1 else 0 := by
  unfold own_n_92 own_P92
  simp only [own_st106, Int32.lt_iff_toInt_lt, ← Int32.toInt_inj, own_c0, own_c1, own_c58, own_c65, own_c90, own_c95, own_c97, own_c122, own_c192, own_c214, own_c215, own_c216, own_c246, own_c247, own_c248, own_c767, own_c768, own_c880, own_c893, own_c894, own_c895, own_c8191, own_c8192, own_c8204, own_c8205, own_c8304, own_c8591, own_c8592, own_c11264, own_c12271, own_c12272, own_c12288, own_c12289, own_c55295, own_c55296, own_c63744, own_c64975, own_c64976, own_c65008, own_c65533, own_c65534, own_c65536, own_c983039, own_c983040]
  generalize c.toInt = n
  repeat' split
  all_goals first | rfl | omega | (exfalso; simp_all; omega)
abbrev own_P78 (n : Int) : Prop := (880 ≤ n ∧ n ≤ 893) ∨ own_P92 n
theorem own_st78 (c : Int32) : own_n_78 c = if own_P78 c.toInt then 1 else 0 := by
  unfold own_n_78 own_P78
  simp only [own_st92, Int32.lt_iff_toInt_lt, ← Int32.toInt_inj, own_c0, own_c1, own_c58, own_c65, own_c90, own_c95, own_c97, own_c122, own_c192, own_c214, own_c215, own_c216, own_c246, own_c247, own_c248, own_c767, own_c768, own_c880, own_c893, own_c894, own_c895, own_c8191, own_c8192, own_c8204, own_c8205, own_c8304, own_c8591, own_c8592, own_c11264, own_c12271, own_c12272, own_c12288, own_c12289, own_c55295, own_c55296, own_c63744, own_c64975, own_c64976, own_c65008, own_c65533, own_c65534, own_c65536, own_c983039, own_c983040]
  generalize c.toInt = n
  repeat' split
  all_goals first | rfl | omega | (exfalso; simp_all; omega)
abbrev own_P64 (n : Int) : Prop := (248 ≤ n ∧ n ≤ 767) ∨ own_P78 n
theorem own_st64 (c : Int32) : own_n_64 c = if own_P64 c.toInt then 1 else 0 := by
  unfold own_n_64 own_P64
  simp only [own_st78, Int32.lt_iff_toInt_lt, ← Int32.toInt_inj, own_c0, own_c1, own_c58, own_c65, own_c90, own_c95, own_c97, own_c122, own_c192, own_c214, own_c215, own_c216, own_c246, own_c247, own_c248, own_c767, own_c768, own_c880, own_c893, own_c894, own_c895, own_c8191, own_c8192, own_c8204, own_c8205, own_c8304, own_c8591, own_c8592, own_c11264, own_c12271, own_c12272, own_c12288, own_c12289, own_c55295, own_c55296, own_c63744, own_c64975, own_c64976, own_c65008, own_c65533, own_c65534, own_c65536, own_c983039, own_c983040]
  generalize c.toInt = n
  repeat' split
  all_goals first | rfl | omega | (exfalso; simp_all; omega)
abbrev own_P50 (n : Int) : Prop := (216 ≤ n ∧ n ≤ 246) ∨ own_P64 n
theorem own_st50 (c : Int32) : own_n_50 c = if own_P50 c.toInt then 1 else 0 := by
  unfold own_n_50 own_P50
  simp only [own_st64, Int32.lt_iff_toInt_lt, ← Int32.toInt_inj, own_c0, own_c1, own_c58, own_c65, own_c90, own_c95, own_c97, own_c122, own_c192, own_c214, own_c215, own_c216, own_c246, own_c247, own_c248, own_c767, own_c768, own_c880, own_c893, own_c894, own_c895, own_c8191, own_c8192, own_c8204, own_c8205, own_c8304, own_c8591, own_c8592, own_c11264, own_c12271, own_c12272, own_c12288, own_c12289, own_c55295, own_c55296, own_c63744, own_c64975, own_c64976, own_c65008, own_c65533, own_c65534, own_c65536, own_c983039, own_c983040]
  generalize c.toInt = n
  repeat' split
  all_goals first | rfl | omega | (exfalso; simp_all; omega)
abbrev own_P36 (n : Int) : Prop := (192 ≤ n ∧ n ≤ 214) ∨ own_P50 n
theorem own_st36 (c : Int32) : own_n_36 c = if own_P36 c.toInt then 1 else 0 := by
  unfold own_n_36 own_P36
  simp only [own_st50, Int32.lt_iff_toInt_lt, ← Int32.toInt_inj, own_c0, own_c1, own_c58, own_c65, own_c90, own_c95, own_c97, own_c122, own_c192, own_c214, own_c215, own_c216, own_c246, own_c247, own_c248, own_c767, own_c768, own_c880, own_c893, own_c894, own_c895, own_c8191, own_c8192, own_c8204, own_c8205, own_c8304, own_c8591, own_c8592, own_c11264, own_c12271, own_c12272, own_c12288, own_c12289, own_c55295, own_c55296, own_c63744, own_c64975, own_c64976, own_c65008, own_c65533, own_c65534, own_c65536, own_c983039, own_c983040]
  generalize c.toInt = n
  repeat' split
  all_goals first | rfl | omega | (exfalso; simp_all; omega)
abbrev own_P18 (n : Int) : Prop := (n = 95) ∨ (97 ≤ n ∧ n ≤ 122) ∨ own_P36 n
theorem own_st18 (c : Int32) : own_n_18 c = if own_P18 c.toInt then 1 else 0 := by
  unfold own_n_18 own_P18
  simp only [own_st36, Int32.lt_iff_toInt_lt, ← Int32.toInt_inj, own_c0, own_c1, own_c58, own_c65, own_c90, own_c95, own_c97, own_c122, own_c192, own_c214, own_c215, own_c216, own_c246, own_c247, own_c248, own_c767, own_c768, own_c880, own_c893, own_c894, own_c895, own_c8191, own_c8192, own_c8204, own_c8205, own_c8304, own_c8591, own_c8592, own_c11264, own_c12271, own_c12272, own_c12288, own_c12289, own_c55295, own_c55296, own_c63744, own_c64975, own_c64976, own_c65008, own_c65533, own_c65534, own_c65536, own_c983039, own_c983040]
  generalize c.toInt = n
  repeat' split
  all_goals first | rfl | omega | (exfalso; simp_all; omega)
abbrev own_P0 (n : Int) : Prop := (n = 58) ∨ (65 ≤ n ∧ n ≤ 90) ∨ own_P18 n
theorem own_st0 (c : Int32) : own_n c = if own_P0 c.toInt then 1 else 0 := by
  unfold own_n own_P0
  simp only [own_st18, Int32.lt_iff_toInt_lt, ← Int32.toInt_inj, own_c0, own_c1, own_c58, own_c65, own_c90, own_c95, own_c97, own_c122, own_c192, own_c214, own_c215, own_c216, own_c246, own_c247, own_c248, own_c767, own_c768, own_c880, own_c893, own_c894, own_c895, own_c8191, own_c8192, own_c8204, own_c8205, own_c8304, own_c8591, own_c8592, own_c11264, own_c12271, own_c12272, own_c12288, own_c12289, own_c55295, own_c55296, own_c63744, own_c64975, own_c64976, own_c65008, own_c65533, own_c65534, own_c65536, own_c983039, own_c983040]
  generalize c.toInt = n
  repeat' split
  all_goals first | rfl | omega | (exfalso; simp_all; omega)
theorem own_ite {P : Prop} [Decidable P] {a b v : Int32} (h1 : P → a = v) (h2 : ¬ P → b = v) : (if P then a else b) = v := by
  by_cases h : P
  · rw [if_pos h]; exact h1 h
  · rw [if_neg h]; exact h2 h
set_option maxRecDepth 65536 in
set_option maxHeartbeats 4000000 in
theorem own_key (c : Int32) : own_n c = own_r c := by
  rw [own_st0]
  by_cases hP : own_P0 c.toInt
  · rw [if_pos hP]
    unfold own_P0 own_P18 own_P36 own_P50 own_P64 own_P78 own_P92 own_P106 own_P120 own_P134 own_P148 own_P161 own_P173 own_P185 at hP
    unfold own_r
    symm
    repeat' (refine own_ite (fun _ => ?_) (fun _ => ?_))
    all_goals first | rfl | (exfalso; simp only [Int32.lt_iff_toInt_lt, ← Int32.toInt_inj, own_c0, own_c1, own_c58, own_c65, own_c90, own_c95, own_c97, own_c122, own_c192, own_c214, own_c215, own_c216, own_c246, own_c247, own_c248, own_c767, own_c768, own_c880, own_c893, own_c894, own_c895, own_c8191, own_c8192, own_c8204, own_c8205, own_c8304, own_c8591, own_c8592, own_c11264, own_c12271, own_c12272, own_c12288, own_c12289, own_c55295, own_c55296, own_c63744, own_c64975, own_c64976, own_c65008, own_c65533, own_c65534, own_c65536, own_c983039, own_c983040] at *; omega)
  · rw [if_neg hP]
    unfold own_P0 own_P18 own_P36 own_P50 own_P64 own_P78 own_P92 own_P106 own_P120 own_P134 own_P148 own_P161 own_P173 own_P185 at hP
    unfold own_r
    symm
    repeat' (refine own_ite (fun _ => ?_) (fun _ => ?_))
    all_goals first | rfl | (exfalso; simp only [Int32.lt_iff_toInt_lt, ← Int32.toInt_inj, own_c0, own_c1, own_c58, own_c65, own_c90, own_c95, own_c97, own_c122, own_c192, own_c214, own_c215, own_c216, own_c246, own_c247, own_c248, own_c767, own_c768, own_c880, own_c893, own_c894, own_c895, own_c8191, own_c8192, own_c8204, own_c8205, own_c8304, own_c8591, own_c8592, own_c11264, own_c12271, own_c12272, own_c12288, own_c12289, own_c55295, own_c55296, own_c63744, own_c64975, own_c64976, own_c65008, own_c65533, own_c65534, own_c65536, own_c983039, own_c983040] at *; omega)
def own_tab : List Int32 := [58, 65, 90, 95, 97, 122, 192, 215, 247, 767, 880, 894, 8191, 8204, 8205, 8304, 8591, 11264, 12271, 12289, 55295, 63744, 64975, 65008, 65533, 65536, 983039, 0, 2147483647, -2147483648]
theorem own_at {i : Nat} (h : i < 30) : (own_tab.map Value.int)[i]? = some (.int (own_tab.getD i 0)) := by
  have h2 : i < own_tab.length := h
  simp [List.getElem?_map, List.getD_eq_getElem?_getD, List.getElem?_eq_getElem h2]
theorem own_ix (k : Int32) : ∃ i : Nat, (((k).toUInt32 >>> ((2 : Int32) &&& 31).toUInt32).toInt32 % (30 : Int32)).toInt = (i : Int) ∧ i < 30 := by
  have e1 := c_iushr k 2 2 (by decide) (by decide)
  have r := rng32 k
  generalize ((k).toUInt32 >>> ((2 : Int32) &&& 31).toUInt32).toInt32 = z at *
  have e2 := (c_irem z 30 30 rfl).1 (by omega)
  exact ⟨(z.toInt % 30).toNat, by rw [e2]; omega, by omega⟩
theorem pf_0 : plainFor x = true := by first | exact plainFor_of_name (by first | (simp [plainName, overriddenIn]; done) | decide +kernel) | decide +kernel
theorem ef_0 (m : MethodId) (p0 : Int32) (p1 : Int32) : entryFrame m #[(.int p0), (.int p1)] maxLocals = mkF m 0 #[.val (.int p0), .val (.int p1), .unset, .unset, .unset, .unset] [] := by first | (simp [entryFrame, mkF, argsToLocals, Value.category, maxLocals]; done) | rfl
theorem pd_0 : parseMethodDescriptor "(I)Z" = some ⟨[.int], some .boolean⟩ := by decide +kernel
set_option maxRecDepth 65536 in
set_option maxHeartbeats 40000000 in
theorem con_0 (l : Launch) (Z : State) (a0 : Array Value) (hw : ∀ d ∈ tables_1, d.before a0 Z = true) (h0 : Heap) (n0 : Nat) (p0 : Int32) (p1 : Int32)  (Z0 : n0 ≤ h0.size) : Con l Z x code maxLocals ret room_1 #[(.int p0), (.int p1)] h0 n0 (fun v _ => v = some (.int 1)) := by
  refine Con.of pf_0 (fun m => ef_0 m p0 p1) ?_
  intro p e s m below meth c C
  refine W.bipush C (30 : Int32) at_0 rfl ?_
  refine W.newP C 30 30 at_2 (tkw hw 0 rfl) rfl (Nat.le_refl _) (by decide) 1 30 rfl rfl (by decide) (by decide) ?_
  intro a1 h2 ha1 Ea1 La1
  have ge_a1 : n0 ≤ a1 := by rw [ha1]; exact Z0
  replace Z0 := Nat.le_trans Z0 Ea1.1
  replace La1 : Al Z h2 a1 .int [(.int (0 : Int32)), (.int (0 : Int32)), (.int (0 : Int32)), (.int (0 : Int32)), (.int (0 : Int32)), (.int (0 : Int32)), (.int (0 : Int32)), (.int (0 : Int32)), (.int (0 : Int32)), (.int (0 : Int32)), (.int (0 : Int32)), (.int (0 : Int32)), (.int (0 : Int32)), (.int (0 : Int32)), (.int (0 : Int32)), (.int (0 : Int32)), (.int (0 : Int32)), (.int (0 : Int32)), (.int (0 : Int32)), (.int (0 : Int32)), (.int (0 : Int32)), (.int (0 : Int32)), (.int (0 : Int32)), (.int (0 : Int32)), (.int (0 : Int32)), (.int (0 : Int32)), (.int (0 : Int32)), (.int (0 : Int32)), (.int (0 : Int32)), (.int (0 : Int32))] := La1
  refine W.dup C at_4 rfl ?_
  refine W.iconst C (0 : Int32) at_5 rfl ?_
  refine W.bipush C (58 : Int32) at_6 rfl ?_
  refine W.iastore C 0 at_8 La1 rfl (show (0 : Nat) < 30 by decide) ge_a1 ?_
  intro h3 U4 La1_
  replace Z0 := Nat.le_trans Z0 (Nat.le_of_eq (U4.size).symm)
  replace La1 : Al Z h3 a1 .int [(.int (58 : Int32)), (.int (0 : Int32)), (.int (0 : Int32)), (.int (0 : Int32)), (.int (0 : Int32)), (.int (0 : Int32)), (.int (0 : Int32)), (.int (0 : Int32)), (.int (0 : Int32)), (.int (0 : Int32)), (.int (0 : Int32)), (.int (0 : Int32)), (.int (0 : Int32)), (.int (0 : Int32)), (.int (0 : Int32)), (.int (0 : Int32)), (.int (0 : Int32)), (.int (0 : Int32)), (.int (0 : Int32)), (.int (0 : Int32)), (.int (0 : Int32)), (.int (0 : Int32)), (.int (0 : Int32)), (.int (0 : Int32)), (.int (0 : Int32)), (.int (0 : Int32)), (.int (0 : Int32)), (.int (0 : Int32)), (.int (0 : Int32)), (.int (0 : Int32))] := La1_
  refine W.dup C at_9 rfl ?_
  refine W.iconst C (1 : Int32) at_10 rfl ?_
  refine W.bipush C (65 : Int32) at_11 rfl ?_
  refine W.iastore C 1 at_13 La1 rfl (show (1 : Nat) < 30 by decide) ge_a1 ?_
  intro h5 U6 La1_
  replace Z0 := Nat.le_trans Z0 (Nat.le_of_eq (U6.size).symm)
  replace La1 : Al Z h5 a1 .int [(.int (58 : Int32)), (.int (65 : Int32)), (.int (0 : Int32)), (.int (0 : Int32)), (.int (0 : Int32)), (.int (0 : Int32)), (.int (0 : Int32)), (.int (0 : Int32)), (.int (0 : Int32)), (.int (0 : Int32)), (.int (0 : Int32)), (.int (0 : Int32)), (.int (0 : Int32)), (.int (0 : Int32)), (.int (0 : Int32)), (.int (0 : Int32)), (.int (0 : Int32)), (.int (0 : Int32)), (.int (0 : Int32)), (.int (0 : Int32)), (.int (0 : Int32)), (.int (0 : Int32)), (.int (0 : Int32)), (.int (0 : Int32)), (.int (0 : Int32)), (.int (0 : Int32)), (.int (0 : Int32)), (.int (0 : Int32)), (.int (0 : Int32)), (.int (0 : Int32))] := La1_
  refine W.dup C at_14 rfl ?_
  refine W.iconst C (2 : Int32) at_15 rfl ?_
  refine W.bipush C (90 : Int32) at_16 rfl ?_
  refine W.iastore C 2 at_18 La1 rfl (show (2 : Nat) < 30 by decide) ge_a1 ?_
  intro h7 U8 La1_
  replace Z0 := Nat.le_trans Z0 (Nat.le_of_eq (U8.size).symm)
  replace La1 : Al Z h7 a1 .int [(.int (58 : Int32)), (.int (65 : Int32)), (.int (90 : Int32)), (.int (0 : Int32)), (.int (0 : Int32)), (.int (0 : Int32)), (.int (0 : Int32)), (.int (0 : Int32)), (.int (0 : Int32)), (.int (0 : Int32)), (.int (0 : Int32)), (.int (0 : Int32)), (.int (0 : Int32)), (.int (0 : Int32)), (.int (0 : Int32)), (.int (0 : Int32)), (.int (0 : Int32)), (.int (0 : Int32)), (.int (0 : Int32)), (.int (0 : Int32)), (.int (0 : Int32)), (.int (0 : Int32)), (.int (0 : Int32)), (.int (0 : Int32)), (.int (0 : Int32)), (.int (0 : Int32)), (.int (0 : Int32)), (.int (0 : Int32)), (.int (0 : Int32)), (.int (0 : Int32))] := La1_
  refine W.dup C at_19 rfl ?_
  refine W.iconst C (3 : Int32) at_20 rfl ?_
  refine W.bipush C (95 : Int32) at_21 rfl ?_
  refine W.iastore C 3 at_23 La1 rfl (show (3 : Nat) < 30 by decide) ge_a1 ?_
  intro h9 U10 La1_
  replace Z0 := Nat.le_trans Z0 (Nat.le_of_eq (U10.size).symm)
  replace La1 : Al Z h9 a1 .int [(.int (58 : Int32)), (.int (65 : Int32)), (.int (90 : Int32)), (.int (95 : Int32)), (.int (0 : Int32)), (.int (0 : Int32)), (.int (0 : Int32)), (.int (0 : Int32)), (.int (0 : Int32)), (.int (0 : Int32)), (.int (0 : Int32)), (.int (0 : Int32)), (.int (0 : Int32)), (.int (0 : Int32)), (.int (0 : Int32)), (.int (0 : Int32)), (.int (0 : Int32)), (.int (0 : Int32)), (.int (0 : Int32)), (.int (0 : Int32)), (.int (0 : Int32)), (.int (0 : Int32)), (.int (0 : Int32)), (.int (0 : Int32)), (.int (0 : Int32)), (.int (0 : Int32)), (.int (0 : Int32)), (.int (0 : Int32)), (.int (0 : Int32)), (.int (0 : Int32))] := La1_
  refine W.dup C at_24 rfl ?_
  refine W.iconst C (4 : Int32) at_25 rfl ?_
  refine W.bipush C (97 : Int32) at_26 rfl ?_
  refine W.iastore C 4 at_28 La1 rfl (show (4 : Nat) < 30 by decide) ge_a1 ?_
  intro h11 U12 La1_
  replace Z0 := Nat.le_trans Z0 (Nat.le_of_eq (U12.size).symm)
  replace La1 : Al Z h11 a1 .int [(.int (58 : Int32)), (.int (65 : Int32)), (.int (90 : Int32)), (.int (95 : Int32)), (.int (97 : Int32)), (.int (0 : Int32)), (.int (0 : Int32)), (.int (0 : Int32)), (.int (0 : Int32)), (.int (0 : Int32)), (.int (0 : Int32)), (.int (0 : Int32)), (.int (0 : Int32)), (.int (0 : Int32)), (.int (0 : Int32)), (.int (0 : Int32)), (.int (0 : Int32)), (.int (0 : Int32)), (.int (0 : Int32)), (.int (0 : Int32)), (.int (0 : Int32)), (.int (0 : Int32)), (.int (0 : Int32)), (.int (0 : Int32)), (.int (0 : Int32)), (.int (0 : Int32)), (.int (0 : Int32)), (.int (0 : Int32)), (.int (0 : Int32)), (.int (0 : Int32))] := La1_
  refine W.dup C at_29 rfl ?_
  refine W.iconst C (5 : Int32) at_30 rfl ?_
  refine W.bipush C (122 : Int32) at_31 rfl ?_
  refine W.iastore C 5 at_33 La1 rfl (show (5 : Nat) < 30 by decide) ge_a1 ?_
  intro h13 U14 La1_
  replace Z0 := Nat.le_trans Z0 (Nat.le_of_eq (U14.size).symm)
  replace La1 : Al Z h13 a1 .int [(.int (58 : Int32)), (.int (65 : Int32)), (.int (90 : Int32)), (.int (95 : Int32)), (.int (97 : Int32)), (.int (122 : Int32)), (.int (0 : Int32)), (.int (0 : Int32)), (.int (0 : Int32)), (.int (0 : Int32)), (.int (0 : Int32)), (.int (0 : Int32)), (.int (0 : Int32)), (.int (0 : Int32)), (.int (0 : Int32)), (.int (0 : Int32)), (.int (0 : Int32)), (.int (0 : Int32)), (.int (0 : Int32)), (.int (0 : Int32)), (.int (0 : Int32)), (.int (0 : Int32)), (.int (0 : Int32)), (.int (0 : Int32)), (.int (0 : Int32)), (.int (0 : Int32)), (.int (0 : Int32)), (.int (0 : Int32)), (.int (0 : Int32)), (.int (0 : Int32))] := La1_
  refine W.dup C at_34 rfl ?_
  refine W.bipush C (6 : Int32) at_35 rfl ?_
  refine W.sipush C (192 : Int32) at_37 rfl ?_
  refine W.iastore C 6 at_40 La1 rfl (show (6 : Nat) < 30 by decide) ge_a1 ?_
  intro h15 U16 La1_
  replace Z0 := Nat.le_trans Z0 (Nat.le_of_eq (U16.size).symm)
  replace La1 : Al Z h15 a1 .int [(.int (58 : Int32)), (.int (65 : Int32)), (.int (90 : Int32)), (.int (95 : Int32)), (.int (97 : Int32)), (.int (122 : Int32)), (.int (192 : Int32)), (.int (0 : Int32)), (.int (0 : Int32)), (.int (0 : Int32)), (.int (0 : Int32)), (.int (0 : Int32)), (.int (0 : Int32)), (.int (0 : Int32)), (.int (0 : Int32)), (.int (0 : Int32)), (.int (0 : Int32)), (.int (0 : Int32)), (.int (0 : Int32)), (.int (0 : Int32)), (.int (0 : Int32)), (.int (0 : Int32)), (.int (0 : Int32)), (.int (0 : Int32)), (.int (0 : Int32)), (.int (0 : Int32)), (.int (0 : Int32)), (.int (0 : Int32)), (.int (0 : Int32)), (.int (0 : Int32))] := La1_
  refine W.dup C at_41 rfl ?_
  refine W.bipush C (7 : Int32) at_42 rfl ?_
  refine W.sipush C (215 : Int32) at_44 rfl ?_
  refine W.iastore C 7 at_47 La1 rfl (show (7 : Nat) < 30 by decide) ge_a1 ?_
  intro h17 U18 La1_
  replace Z0 := Nat.le_trans Z0 (Nat.le_of_eq (U18.size).symm)
  replace La1 : Al Z h17 a1 .int [(.int (58 : Int32)), (.int (65 : Int32)), (.int (90 : Int32)), (.int (95 : Int32)), (.int (97 : Int32)), (.int (122 : Int32)), (.int (192 : Int32)), (.int (215 : Int32)), (.int (0 : Int32)), (.int (0 : Int32)), (.int (0 : Int32)), (.int (0 : Int32)), (.int (0 : Int32)), (.int (0 : Int32)), (.int (0 : Int32)), (.int (0 : Int32)), (.int (0 : Int32)), (.int (0 : Int32)), (.int (0 : Int32)), (.int (0 : Int32)), (.int (0 : Int32)), (.int (0 : Int32)), (.int (0 : Int32)), (.int (0 : Int32)), (.int (0 : Int32)), (.int (0 : Int32)), (.int (0 : Int32)), (.int (0 : Int32)), (.int (0 : Int32)), (.int (0 : Int32))] := La1_
  refine W.dup C at_48 rfl ?_
  refine W.bipush C (8 : Int32) at_49 rfl ?_
  refine W.sipush C (247 : Int32) at_51 rfl ?_
  refine W.iastore C 8 at_54 La1 rfl (show (8 : Nat) < 30 by decide) ge_a1 ?_
  intro h19 U20 La1_
  replace Z0 := Nat.le_trans Z0 (Nat.le_of_eq (U20.size).symm)
  replace La1 : Al Z h19 a1 .int [(.int (58 : Int32)), (.int (65 : Int32)), (.int (90 : Int32)), (.int (95 : Int32)), (.int (97 : Int32)), (.int (122 : Int32)), (.int (192 : Int32)), (.int (215 : Int32)), (.int (247 : Int32)), (.int (0 : Int32)), (.int (0 : Int32)), (.int (0 : Int32)), (.int (0 : Int32)), (.int (0 : Int32)), (.int (0 : Int32)), (.int (0 : Int32)), (.int (0 : Int32)), (.int (0 : Int32)), (.int (0 : Int32)), (.int (0 : Int32)), (.int (0 : Int32)), (.int (0 : Int32)), (.int (0 : Int32)), (.int (0 : Int32)), (.int (0 : Int32)), (.int (0 : Int32)), (.int (0 : Int32)), (.int (0 : Int32)), (.int (0 : Int32)), (.int (0 : Int32))] := La1_
  refine W.dup C at_55 rfl ?_
  refine W.bipush C (9 : Int32) at_56 rfl ?_
  refine W.sipush C (767 : Int32) at_58 rfl ?_
  refine W.iastore C 9 at_61 La1 rfl (show (9 : Nat) < 30 by decide) ge_a1 ?_
  intro h21 U22 La1_
  replace Z0 := Nat.le_trans Z0 (Nat.le_of_eq (U22.size).symm)
  replace La1 : Al Z h21 a1 .int [(.int (58 : Int32)), (.int (65 : Int32)), (.int (90 : Int32)), (.int (95 : Int32)), (.int (97 : Int32)), (.int (122 : Int32)), (.int (192 : Int32)), (.int (215 : Int32)), (.int (247 : Int32)), (.int (767 : Int32)), (.int (0 : Int32)), (.int (0 : Int32)), (.int (0 : Int32)), (.int (0 : Int32)), (.int (0 : Int32)), (.int (0 : Int32)), (.int (0 : Int32)), (.int (0 : Int32)), (.int (0 : Int32)), (.int (0 : Int32)), (.int (0 : Int32)), (.int (0 : Int32)), (.int (0 : Int32)), (.int (0 : Int32)), (.int (0 : Int32)), (.int (0 : Int32)), (.int (0 : Int32)), (.int (0 : Int32)), (.int (0 : Int32)), (.int (0 : Int32))] := La1_
  refine W.dup C at_62 rfl ?_
  refine W.bipush C (10 : Int32) at_63 rfl ?_
  refine W.sipush C (880 : Int32) at_65 rfl ?_
  refine W.iastore C 10 at_68 La1 rfl (show (10 : Nat) < 30 by decide) ge_a1 ?_
  intro h23 U24 La1_
  replace Z0 := Nat.le_trans Z0 (Nat.le_of_eq (U24.size).symm)
  replace La1 : Al Z h23 a1 .int [(.int (58 : Int32)), (.int (65 : Int32)), (.int (90 : Int32)), (.int (95 : Int32)), (.int (97 : Int32)), (.int (122 : Int32)), (.int (192 : Int32)), (.int (215 : Int32)), (.int (247 : Int32)), (.int (767 : Int32)), (.int (880 : Int32)), (.int (0 : Int32)), (.int (0 : Int32)), (.int (0 : Int32)), (.int (0 : Int32)), (.int (0 : Int32)), (.int (0 : Int32)), (.int (0 : Int32)), (.int (0 : Int32)), (.int (0 : Int32)), (.int (0 : Int32)), (.int (0 : Int32)), (.int (0 : Int32)), (.int (0 : Int32)), (.int (0 : Int32)), (.int (0 : Int32)), (.int (0 : Int32)), (.int (0 : Int32)), (.int (0 : Int32)), (.int (0 : Int32))] := La1_
  refine W.dup C at_69 rfl ?_
  refine W.bipush C (11 : Int32) at_70 rfl ?_
  refine W.sipush C (894 : Int32) at_72 rfl ?_
  refine W.iastore C 11 at_75 La1 rfl (show (11 : Nat) < 30 by decide) ge_a1 ?_
  intro h25 U26 La1_
  replace Z0 := Nat.le_trans Z0 (Nat.le_of_eq (U26.size).symm)
  replace La1 : Al Z h25 a1 .int [(.int (58 : Int32)), (.int (65 : Int32)), (.int (90 : Int32)), (.int (95 : Int32)), (.int (97 : Int32)), (.int (122 : Int32)), (.int (192 : Int32)), (.int (215 : Int32)), (.int (247 : Int32)), (.int (767 : Int32)), (.int (880 : Int32)), (.int (894 : Int32)), (.int (0 : Int32)), (.int (0 : Int32)), (.int (0 : Int32)), (.int (0 : Int32)), (.int (0 : Int32)), (.int (0 : Int32)), (.int (0 : Int32)), (.int (0 : Int32)), (.int (0 : Int32)), (.int (0 : Int32)), (.int (0 : Int32)), (.int (0 : Int32)), (.int (0 : Int32)), (.int (0 : Int32)), (.int (0 : Int32)), (.int (0 : Int32)), (.int (0 : Int32)), (.int (0 : Int32))] := La1_
  refine W.dup C at_76 rfl ?_
  refine W.bipush C (12 : Int32) at_77 rfl ?_
  refine W.sipush C (8191 : Int32) at_79 rfl ?_
  refine W.iastore C 12 at_82 La1 rfl (show (12 : Nat) < 30 by decide) ge_a1 ?_
  intro h27 U28 La1_
  replace Z0 := Nat.le_trans Z0 (Nat.le_of_eq (U28.size).symm)
  replace La1 : Al Z h27 a1 .int [(.int (58 : Int32)), (.int (65 : Int32)), (.int (90 : Int32)), (.int (95 : Int32)), (.int (97 : Int32)), (.int (122 : Int32)), (.int (192 : Int32)), (.int (215 : Int32)), (.int (247 : Int32)), (.int (767 : Int32)), (.int (880 : Int32)), (.int (894 : Int32)), (.int (8191 : Int32)), (.int (0 : Int32)), (.int (0 : Int32)), (.int (0 : Int32)), (.int (0 : Int32)), (.int (0 : Int32)), (.int (0 : Int32)), (.int (0 : Int32)), (.int (0 : Int32)), (.int (0 : Int32)), (.int (0 : Int32)), (.int (0 : Int32)), (.int (0 : Int32)), (.int (0 : Int32)), (.int (0 : Int32)), (.int (0 : Int32)), (.int (0 : Int32)), (.int (0 : Int32))] := La1_
  refine W.dup C at_83 rfl ?_
  refine W.bipush C (13 : Int32) at_84 rfl ?_
  refine W.sipush C (8204 : Int32) at_86 rfl ?_
  refine W.iastore C 13 at_89 La1 rfl (show (13 : Nat) < 30 by decide) ge_a1 ?_
  intro h29 U30 La1_
  replace Z0 := Nat.le_trans Z0 (Nat.le_of_eq (U30.size).symm)
  replace La1 : Al Z h29 a1 .int [(.int (58 : Int32)), (.int (65 : Int32)), (.int (90 : Int32)), (.int (95 : Int32)), (.int (97 : Int32)), (.int (122 : Int32)), (.int (192 : Int32)), (.int (215 : Int32)), (.int (247 : Int32)), (.int (767 : Int32)), (.int (880 : Int32)), (.int (894 : Int32)), (.int (8191 : Int32)), (.int (8204 : Int32)), (.int (0 : Int32)), (.int (0 : Int32)), (.int (0 : Int32)), (.int (0 : Int32)), (.int (0 : Int32)), (.int (0 : Int32)), (.int (0 : Int32)), (.int (0 : Int32)), (.int (0 : Int32)), (.int (0 : Int32)), (.int (0 : Int32)), (.int (0 : Int32)), (.int (0 : Int32)), (.int (0 : Int32)), (.int (0 : Int32)), (.int (0 : Int32))] := La1_
  refine W.dup C at_90 rfl ?_
  refine W.bipush C (14 : Int32) at_91 rfl ?_
  refine W.sipush C (8205 : Int32) at_93 rfl ?_
  refine W.iastore C 14 at_96 La1 rfl (show (14 : Nat) < 30 by decide) ge_a1 ?_
  intro h31 U32 La1_
  replace Z0 := Nat.le_trans Z0 (Nat.le_of_eq (U32.size).symm)
  replace La1 : Al Z h31 a1 .int [(.int (58 : Int32)), (.int (65 : Int32)), (.int (90 : Int32)), (.int (95 : Int32)), (.int (97 : Int32)), (.int (122 : Int32)), (.int (192 : Int32)), (.int (215 : Int32)), (.int (247 : Int32)), (.int (767 : Int32)), (.int (880 : Int32)), (.int (894 : Int32)), (.int (8191 : Int32)), (.int (8204 : Int32)), (.int (8205 : Int32)), (.int (0 : Int32)), (.int (0 : Int32)), (.int (0 : Int32)), (.int (0 : Int32)), (.int (0 : Int32)), (.int (0 : Int32)), (.int (0 : Int32)), (.int (0 : Int32)), (.int (0 : Int32)), (.int (0 : Int32)), (.int (0 : Int32)), (.int (0 : Int32)), (.int (0 : Int32)), (.int (0 : Int32)), (.int (0 : Int32))] := La1_
  refine W.dup C at_97 rfl ?_
  refine W.bipush C (15 : Int32) at_98 rfl ?_
  refine W.sipush C (8304 : Int32) at_100 rfl ?_
  refine W.iastore C 15 at_103 La1 rfl (show (15 : Nat) < 30 by decide) ge_a1 ?_
  intro h33 U34 La1_
  replace Z0 := Nat.le_trans Z0 (Nat.le_of_eq (U34.size).symm)
  replace La1 : Al Z h33 a1 .int [(.int (58 : Int32)), (.int (65 : Int32)), (.int (90 : Int32)), (.int (95 : Int32)), (.int (97 : Int32)), (.int (122 : Int32)), (.int (192 : Int32)), (.int (215 : Int32)), (.int (247 : Int32)), (.int (767 : Int32)), (.int (880 : Int32)), (.int (894 : Int32)), (.int (8191 : Int32)), (.int (8204 : Int32)), (.int (8205 : Int32)), (.int (8304 : Int32)), (.int (0 : Int32)), (.int (0 : Int32)), (.int (0 : Int32)), (.int (0 : Int32)), (.int (0 : Int32)), (.int (0 : Int32)), (.int (0 : Int32)), (.int (0 : Int32)), (.int (0 : Int32)), (.int (0 : Int32)), (.int (0 : Int32)), (.int (0 : Int32)), (.int (0 : Int32)), (.int (0 : Int32))] := La1_
  refine W.dup C at_104 rfl ?_
  refine W.bipush C (16 : Int32) at_105 rfl ?_
  refine W.sipush C (8591 : Int32) at_107 rfl ?_
  refine W.iastore C 16 at_110 La1 rfl (show (16 : Nat) < 30 by decide) ge_a1 ?_
  intro h35 U36 La1_
  replace Z0 := Nat.le_trans Z0 (Nat.le_of_eq (U36.size).symm)
  replace La1 : Al Z h35 a1 .int [(.int (58 : Int32)), (.int (65 : Int32)), (.int (90 : Int32)), (.int (95 : Int32)), (.int (97 : Int32)), (.int (122 : Int32)), (.int (192 : Int32)), (.int (215 : Int32)), (.int (247 : Int32)), (.int (767 : Int32)), (.int (880 : Int32)), (.int (894 : Int32)), (.int (8191 : Int32)), (.int (8204 : Int32)), (.int (8205 : Int32)), (.int (8304 : Int32)), (.int (8591 : Int32)), (.int (0 : Int32)), (.int (0 : Int32)), (.int (0 : Int32)), (.int (0 : Int32)), (.int (0 : Int32)), (.int (0 : Int32)), (.int (0 : Int32)), (.int (0 : Int32)), (.int (0 : Int32)), (.int (0 : Int32)), (.int (0 : Int32)), (.int (0 : Int32)), (.int (0 : Int32))] := La1_
  refine W.dup C at_111 rfl ?_
  refine W.bipush C (17 : Int32) at_112 rfl ?_
  refine W.sipush C (11264 : Int32) at_114 rfl ?_
  refine W.iastore C 17 at_117 La1 rfl (show (17 : Nat) < 30 by decide) ge_a1 ?_
  intro h37 U38 La1_
  replace Z0 := Nat.le_trans Z0 (Nat.le_of_eq (U38.size).symm)
  replace La1 : Al Z h37 a1 .int [(.int (58 : Int32)), (.int (65 : Int32)), (.int (90 : Int32)), (.int (95 : Int32)), (.int (97 : Int32)), (.int (122 : Int32)), (.int (192 : Int32)), (.int (215 : Int32)), (.int (247 : Int32)), (.int (767 : Int32)), (.int (880 : Int32)), (.int (894 : Int32)), (.int (8191 : Int32)), (.int (8204 : Int32)), (.int (8205 : Int32)), (.int (8304 : Int32)), (.int (8591 : Int32)), (.int (11264 : Int32)), (.int (0 : Int32)), (.int (0 : Int32)), (.int (0 : Int32)), (.int (0 : Int32)), (.int (0 : Int32)), (.int (0 : Int32)), (.int (0 : Int32)), (.int (0 : Int32)), (.int (0 : Int32)), (.int (0 : Int32)), (.int (0 : Int32)), (.int (0 : Int32))] := La1_
  refine W.dup C at_118 rfl ?_
  refine W.bipush C (18 : Int32) at_119 rfl ?_
  refine W.sipush C (12271 : Int32) at_121 rfl ?_
  refine W.iastore C 18 at_124 La1 rfl (show (18 : Nat) < 30 by decide) ge_a1 ?_
  intro h39 U40 La1_
  replace Z0 := Nat.le_trans Z0 (Nat.le_of_eq (U40.size).symm)
  replace La1 : Al Z h39 a1 .int [(.int (58 : Int32)), (.int (65 : Int32)), (.int (90 : Int32)), (.int (95 : Int32)), (.int (97 : Int32)), (.int (122 : Int32)), (.int (192 : Int32)), (.int (215 : Int32)), (.int (247 : Int32)), (.int (767 : Int32)), (.int (880 : Int32)), (.int (894 : Int32)), (.int (8191 : Int32)), (.int (8204 : Int32)), (.int (8205 : Int32)), (.int (8304 : Int32)), (.int (8591 : Int32)), (.int (11264 : Int32)), (.int (12271 : Int32)), (.int (0 : Int32)), (.int (0 : Int32)), (.int (0 : Int32)), (.int (0 : Int32)), (.int (0 : Int32)), (.int (0 : Int32)), (.int (0 : Int32)), (.int (0 : Int32)), (.int (0 : Int32)), (.int (0 : Int32)), (.int (0 : Int32))] := La1_
  refine W.dup C at_125 rfl ?_
  refine W.bipush C (19 : Int32) at_126 rfl ?_
  refine W.sipush C (12289 : Int32) at_128 rfl ?_
  refine W.iastore C 19 at_131 La1 rfl (show (19 : Nat) < 30 by decide) ge_a1 ?_
  intro h41 U42 La1_
  replace Z0 := Nat.le_trans Z0 (Nat.le_of_eq (U42.size).symm)
  replace La1 : Al Z h41 a1 .int [(.int (58 : Int32)), (.int (65 : Int32)), (.int (90 : Int32)), (.int (95 : Int32)), (.int (97 : Int32)), (.int (122 : Int32)), (.int (192 : Int32)), (.int (215 : Int32)), (.int (247 : Int32)), (.int (767 : Int32)), (.int (880 : Int32)), (.int (894 : Int32)), (.int (8191 : Int32)), (.int (8204 : Int32)), (.int (8205 : Int32)), (.int (8304 : Int32)), (.int (8591 : Int32)), (.int (11264 : Int32)), (.int (12271 : Int32)), (.int (12289 : Int32)), (.int (0 : Int32)), (.int (0 : Int32)), (.int (0 : Int32)), (.int (0 : Int32)), (.int (0 : Int32)), (.int (0 : Int32)), (.int (0 : Int32)), (.int (0 : Int32)), (.int (0 : Int32)), (.int (0 : Int32))] := La1_
  refine W.dup C at_132 rfl ?_
  refine W.bipush C (20 : Int32) at_133 rfl ?_
  refine W.ldcI C (v := (55295 : Int32)) at_135 (tkw hw 1 rfl) ?_
  refine W.iastore C 20 at_137 La1 rfl (show (20 : Nat) < 30 by decide) ge_a1 ?_
  intro h43 U44 La1_
  replace Z0 := Nat.le_trans Z0 (Nat.le_of_eq (U44.size).symm)
  replace La1 : Al Z h43 a1 .int [(.int (58 : Int32)), (.int (65 : Int32)), (.int (90 : Int32)), (.int (95 : Int32)), (.int (97 : Int32)), (.int (122 : Int32)), (.int (192 : Int32)), (.int (215 : Int32)), (.int (247 : Int32)), (.int (767 : Int32)), (.int (880 : Int32)), (.int (894 : Int32)), (.int (8191 : Int32)), (.int (8204 : Int32)), (.int (8205 : Int32)), (.int (8304 : Int32)), (.int (8591 : Int32)), (.int (11264 : Int32)), (.int (12271 : Int32)), (.int (12289 : Int32)), (.int (55295 : Int32)), (.int (0 : Int32)), (.int (0 : Int32)), (.int (0 : Int32)), (.int (0 : Int32)), (.int (0 : Int32)), (.int (0 : Int32)), (.int (0 : Int32)), (.int (0 : Int32)), (.int (0 : Int32))] := La1_
  refine W.dup C at_138 rfl ?_
  refine W.bipush C (21 : Int32) at_139 rfl ?_
  refine W.ldcI C (v := (63744 : Int32)) at_141 (tkw hw 2 rfl) ?_
  refine W.iastore C 21 at_143 La1 rfl (show (21 : Nat) < 30 by decide) ge_a1 ?_
  intro h45 U46 La1_
  replace Z0 := Nat.le_trans Z0 (Nat.le_of_eq (U46.size).symm)
  replace La1 : Al Z h45 a1 .int [(.int (58 : Int32)), (.int (65 : Int32)), (.int (90 : Int32)), (.int (95 : Int32)), (.int (97 : Int32)), (.int (122 : Int32)), (.int (192 : Int32)), (.int (215 : Int32)), (.int (247 : Int32)), (.int (767 : Int32)), (.int (880 : Int32)), (.int (894 : Int32)), (.int (8191 : Int32)), (.int (8204 : Int32)), (.int (8205 : Int32)), (.int (8304 : Int32)), (.int (8591 : Int32)), (.int (11264 : Int32)), (.int (12271 : Int32)), (.int (12289 : Int32)), (.int (55295 : Int32)), (.int (63744 : Int32)), (.int (0 : Int32)), (.int (0 : Int32)), (.int (0 : Int32)), (.int (0 : Int32)), (.int (0 : Int32)), (.int (0 : Int32)), (.int (0 : Int32)), (.int (0 : Int32))] := La1_
  refine W.dup C at_144 rfl ?_
  refine W.bipush C (22 : Int32) at_145 rfl ?_
  refine W.ldcI C (v := (64975 : Int32)) at_147 (tkw hw 3 rfl) ?_
  refine W.iastore C 22 at_149 La1 rfl (show (22 : Nat) < 30 by decide) ge_a1 ?_
  intro h47 U48 La1_
  replace Z0 := Nat.le_trans Z0 (Nat.le_of_eq (U48.size).symm)
  replace La1 : Al Z h47 a1 .int [(.int (58 : Int32)), (.int (65 : Int32)), (.int (90 : Int32)), (.int (95 : Int32)), (.int (97 : Int32)), (.int (122 : Int32)), (.int (192 : Int32)), (.int (215 : Int32)), (.int (247 : Int32)), (.int (767 : Int32)), (.int (880 : Int32)), (.int (894 : Int32)), (.int (8191 : Int32)), (.int (8204 : Int32)), (.int (8205 : Int32)), (.int (8304 : Int32)), (.int (8591 : Int32)), (.int (11264 : Int32)), (.int (12271 : Int32)), (.int (12289 : Int32)), (.int (55295 : Int32)), (.int (63744 : Int32)), (.int (64975 : Int32)), (.int (0 : Int32)), (.int (0 : Int32)), (.int (0 : Int32)), (.int (0 : Int32)), (.int (0 : Int32)), (.int (0 : Int32)), (.int (0 : Int32))] := La1_
  refine W.dup C at_150 rfl ?_
  refine W.bipush C (23 : Int32) at_151 rfl ?_
  refine W.ldcI C (v := (65008 : Int32)) at_153 (tkw hw 4 rfl) ?_
  refine W.iastore C 23 at_155 La1 rfl (show (23 : Nat) < 30 by decide) ge_a1 ?_
  intro h49 U50 La1_
  replace Z0 := Nat.le_trans Z0 (Nat.le_of_eq (U50.size).symm)
  replace La1 : Al Z h49 a1 .int [(.int (58 : Int32)), (.int (65 : Int32)), (.int (90 : Int32)), (.int (95 : Int32)), (.int (97 : Int32)), (.int (122 : Int32)), (.int (192 : Int32)), (.int (215 : Int32)), (.int (247 : Int32)), (.int (767 : Int32)), (.int (880 : Int32)), (.int (894 : Int32)), (.int (8191 : Int32)), (.int (8204 : Int32)), (.int (8205 : Int32)), (.int (8304 : Int32)), (.int (8591 : Int32)), (.int (11264 : Int32)), (.int (12271 : Int32)), (.int (12289 : Int32)), (.int (55295 : Int32)), (.int (63744 : Int32)), (.int (64975 : Int32)), (.int (65008 : Int32)), (.int (0 : Int32)), (.int (0 : Int32)), (.int (0 : Int32)), (.int (0 : Int32)), (.int (0 : Int32)), (.int (0 : Int32))] := La1_
  refine W.dup C at_156 rfl ?_
  refine W.bipush C (24 : Int32) at_157 rfl ?_
  refine W.ldcI C (v := (65533 : Int32)) at_159 (tkw hw 5 rfl) ?_
  refine W.iastore C 24 at_161 La1 rfl (show (24 : Nat) < 30 by decide) ge_a1 ?_
  intro h51 U52 La1_
  replace Z0 := Nat.le_trans Z0 (Nat.le_of_eq (U52.size).symm)
  replace La1 : Al Z h51 a1 .int [(.int (58 : Int32)), (.int (65 : Int32)), (.int (90 : Int32)), (.int (95 : Int32)), (.int (97 : Int32)), (.int (122 : Int32)), (.int (192 : Int32)), (.int (215 : Int32)), (.int (247 : Int32)), (.int (767 : Int32)), (.int (880 : Int32)), (.int (894 : Int32)), (.int (8191 : Int32)), (.int (8204 : Int32)), (.int (8205 : Int32)), (.int (8304 : Int32)), (.int (8591 : Int32)), (.int (11264 : Int32)), (.int (12271 : Int32)), (.int (12289 : Int32)), (.int (55295 : Int32)), (.int (63744 : Int32)), (.int (64975 : Int32)), (.int (65008 : Int32)), (.int (65533 : Int32)), (.int (0 : Int32)), (.int (0 : Int32)), (.int (0 : Int32)), (.int (0 : Int32)), (.int (0 : Int32))] := La1_
  refine W.dup C at_162 rfl ?_
  refine W.bipush C (25 : Int32) at_163 rfl ?_
  refine W.ldcI C (v := (65536 : Int32)) at_165 (tkw hw 6 rfl) ?_
  refine W.iastore C 25 at_167 La1 rfl (show (25 : Nat) < 30 by decide) ge_a1 ?_
  intro h53 U54 La1_
  replace Z0 := Nat.le_trans Z0 (Nat.le_of_eq (U54.size).symm)
  replace La1 : Al Z h53 a1 .int [(.int (58 : Int32)), (.int (65 : Int32)), (.int (90 : Int32)), (.int (95 : Int32)), (.int (97 : Int32)), (.int (122 : Int32)), (.int (192 : Int32)), (.int (215 : Int32)), (.int (247 : Int32)), (.int (767 : Int32)), (.int (880 : Int32)), (.int (894 : Int32)), (.int (8191 : Int32)), (.int (8204 : Int32)), (.int (8205 : Int32)), (.int (8304 : Int32)), (.int (8591 : Int32)), (.int (11264 : Int32)), (.int (12271 : Int32)), (.int (12289 : Int32)), (.int (55295 : Int32)), (.int (63744 : Int32)), (.int (64975 : Int32)), (.int (65008 : Int32)), (.int (65533 : Int32)), (.int (65536 : Int32)), (.int (0 : Int32)), (.int (0 : Int32)), (.int (0 : Int32)), (.int (0 : Int32))] := La1_
  refine W.dup C at_168 rfl ?_
  refine W.bipush C (26 : Int32) at_169 rfl ?_
  refine W.ldcI C (v := (983039 : Int32)) at_171 (tkw hw 7 rfl) ?_
  refine W.iastore C 26 at_173 La1 rfl (show (26 : Nat) < 30 by decide) ge_a1 ?_
  intro h55 U56 La1_
  replace Z0 := Nat.le_trans Z0 (Nat.le_of_eq (U56.size).symm)
  replace La1 : Al Z h55 a1 .int [(.int (58 : Int32)), (.int (65 : Int32)), (.int (90 : Int32)), (.int (95 : Int32)), (.int (97 : Int32)), (.int (122 : Int32)), (.int (192 : Int32)), (.int (215 : Int32)), (.int (247 : Int32)), (.int (767 : Int32)), (.int (880 : Int32)), (.int (894 : Int32)), (.int (8191 : Int32)), (.int (8204 : Int32)), (.int (8205 : Int32)), (.int (8304 : Int32)), (.int (8591 : Int32)), (.int (11264 : Int32)), (.int (12271 : Int32)), (.int (12289 : Int32)), (.int (55295 : Int32)), (.int (63744 : Int32)), (.int (64975 : Int32)), (.int (65008 : Int32)), (.int (65533 : Int32)), (.int (65536 : Int32)), (.int (983039 : Int32)), (.int (0 : Int32)), (.int (0 : Int32)), (.int (0 : Int32))] := La1_
  refine W.dup C at_174 rfl ?_
  refine W.bipush C (27 : Int32) at_175 rfl ?_
  refine W.iconst C (0 : Int32) at_177 rfl ?_
  refine W.iastore C 27 at_178 La1 rfl (show (27 : Nat) < 30 by decide) ge_a1 ?_
  intro h57 U58 La1_
  replace Z0 := Nat.le_trans Z0 (Nat.le_of_eq (U58.size).symm)
  replace La1 : Al Z h57 a1 .int [(.int (58 : Int32)), (.int (65 : Int32)), (.int (90 : Int32)), (.int (95 : Int32)), (.int (97 : Int32)), (.int (122 : Int32)), (.int (192 : Int32)), (.int (215 : Int32)), (.int (247 : Int32)), (.int (767 : Int32)), (.int (880 : Int32)), (.int (894 : Int32)), (.int (8191 : Int32)), (.int (8204 : Int32)), (.int (8205 : Int32)), (.int (8304 : Int32)), (.int (8591 : Int32)), (.int (11264 : Int32)), (.int (12271 : Int32)), (.int (12289 : Int32)), (.int (55295 : Int32)), (.int (63744 : Int32)), (.int (64975 : Int32)), (.int (65008 : Int32)), (.int (65533 : Int32)), (.int (65536 : Int32)), (.int (983039 : Int32)), (.int (0 : Int32)), (.int (0 : Int32)), (.int (0 : Int32))] := La1_
  refine W.dup C at_179 rfl ?_
  refine W.bipush C (28 : Int32) at_180 rfl ?_
  refine W.ldcI C (v := (2147483647 : Int32)) at_182 (tkw hw 8 rfl) ?_
  refine W.iastore C 28 at_184 La1 rfl (show (28 : Nat) < 30 by decide) ge_a1 ?_
  intro h59 U60 La1_
  replace Z0 := Nat.le_trans Z0 (Nat.le_of_eq (U60.size).symm)
  replace La1 : Al Z h59 a1 .int [(.int (58 : Int32)), (.int (65 : Int32)), (.int (90 : Int32)), (.int (95 : Int32)), (.int (97 : Int32)), (.int (122 : Int32)), (.int (192 : Int32)), (.int (215 : Int32)), (.int (247 : Int32)), (.int (767 : Int32)), (.int (880 : Int32)), (.int (894 : Int32)), (.int (8191 : Int32)), (.int (8204 : Int32)), (.int (8205 : Int32)), (.int (8304 : Int32)), (.int (8591 : Int32)), (.int (11264 : Int32)), (.int (12271 : Int32)), (.int (12289 : Int32)), (.int (55295 : Int32)), (.int (63744 : Int32)), (.int (64975 : Int32)), (.int (65008 : Int32)), (.int (65533 : Int32)), (.int (65536 : Int32)), (.int (983039 : Int32)), (.int (0 : Int32)), (.int (2147483647 : Int32)), (.int (0 : Int32))] := La1_
  refine W.dup C at_185 rfl ?_
  refine W.bipush C (29 : Int32) at_186 rfl ?_
  refine W.ldcI C (v := (-2147483648 : Int32)) at_188 (tkw hw 9 rfl) ?_
  refine W.iastore C 29 at_190 La1 rfl (show (29 : Nat) < 30 by decide) ge_a1 ?_
  intro h61 U62 La1_
  replace Z0 := Nat.le_trans Z0 (Nat.le_of_eq (U62.size).symm)
  replace La1 : Al Z h61 a1 .int [(.int (58 : Int32)), (.int (65 : Int32)), (.int (90 : Int32)), (.int (95 : Int32)), (.int (97 : Int32)), (.int (122 : Int32)), (.int (192 : Int32)), (.int (215 : Int32)), (.int (247 : Int32)), (.int (767 : Int32)), (.int (880 : Int32)), (.int (894 : Int32)), (.int (8191 : Int32)), (.int (8204 : Int32)), (.int (8205 : Int32)), (.int (8304 : Int32)), (.int (8591 : Int32)), (.int (11264 : Int32)), (.int (12271 : Int32)), (.int (12289 : Int32)), (.int (55295 : Int32)), (.int (63744 : Int32)), (.int (64975 : Int32)), (.int (65008 : Int32)), (.int (65533 : Int32)), (.int (65536 : Int32)), (.int (983039 : Int32)), (.int (0 : Int32)), (.int (2147483647 : Int32)), (.int (-2147483648 : Int32))] := La1_
  refine W.astoreN C #[.val (.int p0), .val (.int p1), .val (.ref a1), .unset, .unset, .unset] at_191 rfl rfl ?_
  refine W.iloadN C at_192 rfl ?_
  refine W.iconst C (3 : Int32) at_193 rfl ?_
  refine W.iand C at_194 ?_
  refine W.istoreN C #[.val (.int p0), .val (.int p1), .val (.ref a1), .val (.int (p1 &&& (3 : Int32))), .unset, .unset] at_195 rfl ?_
  refine W.iloadN C at_196 rfl ?_
  have J256 : ∀ (cc : Int32) (o5 : Slot) (ho_o5 : One o5), W p l e room_1 s m #[(.int p0), (.int p1)] below meth c n0 (fun v _ => v = some (.int 1)) room_1.cells room_1.slots 1 30 h61 256 #[.val (.int p0), .val (.int p1), .val (.ref a1), .val (.int (p1 &&& (3 : Int32))), .val (.int cc), o5] [] := by
    intro cc o5 ho_o5
    refine W.iload C at_256 rfl ?_
    refine W.callS C (y' := y1) at_258 (tkw hw 10 rfl) (tkw hw 11 rfl) (tkw hw 12 rfl) (tkw hw 13 rfl) (by decide) (argsL := [(.int cc)]) (rest := []) rfl (lenOf pd_0 rfl) (con_1 l Z a0 hw h61 n0 cc) 0 1 30 rfl rfl rfl (by decide) (by decide) (by decide) (by decide) rfl ?_
    rintro _ _ ⟨rfl, rfl⟩
    refine W.iload C at_261 rfl ?_
    refine W.callS C (y' := y2) at_263 (tkw hw 17 rfl) (tkw hw 18 rfl) (tkw hw 19 rfl) (tkw hw 20 rfl) (by decide) (argsL := [(.int cc)]) (rest := [(.int (own_n cc))]) rfl (lenOf pd_0 rfl) (con_2 l Z a0 hw h61 n0 cc) 1 1 30 rfl rfl rfl (by decide) (by decide) (by decide) (by decide) rfl ?_
    rintro _ _ ⟨rfl, rfl⟩
    refine W.icmp_ne C 273 at_266 rfl (fun b1 => absurd (own_key _) b1) (fun b1 => ?_)
    refine W.iconst C (1 : Int32) at_269 rfl ?_
    refine W.goto C 274 at_270 rfl ?_
    exact W.iret C at_274 (by simp) rfl (by decide) (by decide) rfl
  refine W.if_ne C 206 at_197 rfl (fun b2 => ?_) (fun b2 => ?_)
  · skip
    refine W.iloadN C at_206 rfl ?_
    refine W.iconst C (1 : Int32) at_207 rfl ?_
    refine W.icmp_ne C 221 at_208 rfl (fun b3 => ?_) (fun b3 => ?_)
    · skip
      refine W.iloadN C at_221 rfl ?_
      refine W.iconst C (2 : Int32) at_222 rfl ?_
      refine W.icmp_ne C 235 at_223 rfl (fun b4 => ?_) (fun b4 => ?_)
      · skip
        refine W.iloadN C at_235 rfl ?_
        refine W.iconst C (2 : Int32) at_236 rfl ?_
        refine W.iushr C at_237 ?_
        refine W.aloadN C at_238 rfl rfl ?_
        refine W.arrlen C (30 : Int32) at_239 La1 rfl ?_
        refine W.irem C at_240 (by decide) ?_
        refine W.istore C #[.val (.int p0), .val (.int p1), .val (.ref a1), .val (.int (p1 &&& (3 : Int32))), .unset, .val (.int (((p1).toUInt32 >>> ((2 : Int32) &&& 31).toUInt32).toInt32 % (30 : Int32)))] at_241 rfl ?_
        refine W.aloadN C at_243 rfl rfl ?_
        refine W.iload C at_244 rfl ?_
        obtain ⟨ix, hix, hib⟩ := own_ix p1
        refine W.iaload C ix at_246 La1 hix (own_at hib) ?_
        refine W.iloadN C at_247 rfl ?_
        refine W.bipush C (7 : Int32) at_248 rfl ?_
        refine W.iand C at_250 ?_
        refine W.iconst C (4 : Int32) at_251 rfl ?_
        refine W.isub C at_252 ?_
        refine W.iadd C at_253 ?_
        refine W.istore C #[.val (.int p0), .val (.int p1), .val (.ref a1), .val (.int (p1 &&& (3 : Int32))), .val (.int ((own_tab.getD ix 0) + ((p0 &&& (7 : Int32)) - (4 : Int32)))), .val (.int (((p1).toUInt32 >>> ((2 : Int32) &&& 31).toUInt32).toInt32 % (30 : Int32)))] at_254 rfl ?_
        exact J256 ((own_tab.getD ix 0) + ((p0 &&& (7 : Int32)) - (4 : Int32))) (.val (.int (((p1).toUInt32 >>> ((2 : Int32) &&& 31).toUInt32).toInt32 % (30 : Int32)))) (by first | exact One.u | exact One.val rfl | assumption)
      · skip
        refine W.iloadN C at_226 rfl ?_
        refine W.ldcI C (v := (2097151 : Int32)) at_227 (tkw hw 23 rfl) ?_
        refine W.iand C at_229 ?_
        refine W.istore C #[.val (.int p0), .val (.int p1), .val (.ref a1), .val (.int (p1 &&& (3 : Int32))), .val (.int (p0 &&& (2097151 : Int32))), .unset] at_230 rfl ?_
        refine W.goto C 256 at_232 rfl ?_
        exact J256 (p0 &&& (2097151 : Int32)) (.unset) (by first | exact One.u | exact One.val rfl | assumption)
    · skip
      refine W.iloadN C at_211 rfl ?_
      refine W.sipush C (16383 : Int32) at_212 rfl ?_
      refine W.iand C at_215 ?_
      refine W.istore C #[.val (.int p0), .val (.int p1), .val (.ref a1), .val (.int (p1 &&& (3 : Int32))), .val (.int (p0 &&& (16383 : Int32))), .unset] at_216 rfl ?_
      refine W.goto C 256 at_218 rfl ?_
      exact J256 (p0 &&& (16383 : Int32)) (.unset) (by first | exact One.u | exact One.val rfl | assumption)
  · skip
    refine W.iloadN C at_200 rfl ?_
    refine W.istore C #[.val (.int p0), .val (.int p1), .val (.ref a1), .val (.int (p1 &&& (3 : Int32))), .val (.int p0), .unset] at_201 rfl ?_
    refine W.goto C 256 at_203 rfl ?_
    exact J256 p0 (.unset) (by first | exact One.u | exact One.val rfl | assumption)

set_option maxRecDepth 65536 in
set_option maxHeartbeats 40000000 in
theorem comes_1 {Post : Tables → Env → Array Value → State → Outcome → State → Prop} (hpost : ∀ tb e args s v u, (limb_1_1.after args s (.returned v) u = true ∧ limb_1_2.after args s (.returned v) u = true ∧ True) → FrameEnd s (.returned v) u (Jvm.fieldLocs frame_1_writes args s ++ Jvm.arrayLocs frame_1_arrays args s ++ Jvm.staticLocs frame_1_statics s) 16 128 → Post tb e args s (.returned v) u) :
    ArmFor flags0 classFile x code maxLocals ret World_1 tables_1 room_1 Calls_1 rest_1 Pre_1 Post := by
  intro l hfl _ _ p e ha hc hk s m args below hf hA hF happ hP
  obtain ⟨hcalls, hrest, hpre⟩ := hP
  obtain ⟨-, -, -, hnamed, -, -, -, hat⟩ := (Spec.applies_iff hf).mp happ
  obtain ⟨hg, hn⟩ := and_e (Cond.before_iff.mp (show (Jvm.Cond.and given_1 narrow_1).before args s = true from hpre))
  obtain ⟨gc, g0⟩ := and_e hg
  obtain ⟨i0h, g1⟩ := and_e g0
  obtain ⟨w0, w1, rfl⟩ : ∃ w0 w1 : Value, args = #[w0, w1] := by
    have hs : args.size = 2 := by simpa [Cond.value, given_1] using gc
    obtain ⟨L⟩ := args
    match L, hs with
    | [w0, w1], _ => exact ⟨w0, w1, rfl⟩
  have hw := fun d (hd : d ∈ tables_1) => atoms_spec (ws := Jvm.Cond.code x code maxLocals ret :: tables_1) hat d (List.mem_cons_of_mem _ hd)
  have hfit : Fit s := fun {y c} hc i hi => by
    obtain ⟨ha, rfl⟩ := Array.getElem?_eq_some_iff.mp hc
    have q := List.all_eq_true.mp ((Array.all_eq_true_iff_forall_mem.mp hF) _ (Array.getElem_mem ha)) i (List.mem_range.mpr hi)
    simpa [Array.getElem?_eq_getElem hi] using q
  obtain ⟨i0, ei0⟩ := is_v i0h
  obtain rfl : w0 = (.int i0) := Option.some.inj ei0
  obtain ⟨i1, ei1⟩ := is_v g1
  obtain rfl : w1 = (.int i1) := Option.some.inj ei1
  obtain ⟨n, o, h1, h2, h3, _, L, rfl, ⟨rfl, N⟩, hq⟩ := (con_0 l s _ hw s.heap s.heap.size i0 i1 (Nat.le_refl _)) tables_1 p e ha hc hk s m _ below hf ((Spec.applies_iff_loose hf).mp happ).1 ⟨rfl, State.Warmed39.refl s, rfl⟩ trivial
  refine ⟨n, _, h1, h2, h3, hpost _ _ _ _ _ _ ⟨Cond.after_iff.mpr rfl, Cond.after_iff.mpr (eq_i res_at (Term.int_eval (1)) rfl), trivial⟩ ⟨hq.1, hq.2.1, (hq.2.2.sift fun y hy => Or.inr (N y hy)).mono (by decide) (by decide)⟩⟩
theorem main_1_1 : Claimed_1_1 := comes_1 fun _ _ _ _ _ _ h hF => ⟨h.1, hF⟩
theorem main_1_2 : Claimed_1_2 := comes_1 fun _ _ _ _ _ _ h hF => ⟨h.2.1, hF⟩
end Jvm.Pilot.@@N@@
namespace Jvm.Pilot.@@N@@
open Jvm Jvm.ClassFile Sem Op Lib Jvm.Free Jvm.Stand Jvm.Pilot.@@N@@.Jvm.D
/-! MADE BY PROGRAM (witnessworld.py) out of the Statement's table words and the real class files: 9 classes; the members and pool entries that the words name. The judged class is class 1, her method 1. -/
namespace start1
open Jvm.ClassFile
def u (s : String) : CpInfo := .utf8 (stringToUtf16 s)
/-- a pool by its gaps: so many unusable entries, then the entry; so many at the end -/
def gap : Nat → List CpInfo → List CpInfo
  | 0, r => r
  | n + 1, r => .unusable :: gap n r
def poolList (es : List (Nat × CpInfo)) (last : Nat) : List CpInfo := es.foldr (fun e r => gap e.1 (e.2 :: r)) (gap last [])
def pool (es : List (Nat × CpInfo)) (last : Nat) : Array CpInfo := ⟨poolList es last⟩
def fileOf (pool : Array CpInfo) (this : Nat) (attrs : Array Attribute := #[]) (ms : Array MethodInfo := #[]) (fl : Nat := 33) (sup : Nat := 0) (ifs : Array Nat := #[]) (fds : Array FieldInfo := #[]) : ClassFile where
  minorVersion := 0
  majorVersion := 65
  constantPool := pool
  accessFlags := fl
  thisClass := this
  superClass := sup
  interfaces := ifs
  fields := fds
  methods := ms
  attributes := attrs
def plain (name : String) (sup : Option ClassId) : Class where
  name := name
  kind := .ordinary
  loader := none
  accessFlags := 33
  super := sup
  interfaces := #[]
  cf := none
  fields := #[]
  methods := #[]
  instanceTypes := #[]
  staticTypes := #[]
  resolved := #[]
  callSites := []
  init := .initialized
  statics := none
  mirror := none

def pool0 : Array CpInfo := pool [(5, u "<init>"), (0, u "()V"), (1, .class_ 10), (1, u "java/lang/Object")] 113

def k0m0 : Method := { name := "<init>", desc := "()V", sig := { parameters := [], returnType := none }, accessFlags := 1, code := none }
/-- java/lang/Object -/
def k0 : Class := { plain "java/lang/Object" none with
  accessFlags := 33
  interfaces := #[]
  cf := some (fileOf pool0 8 #[] #[{ accessFlags := 1, nameIndex := 5, descriptorIndex := 6, attributes := #[] }] 33 0 #[] #[])
  fields := #[]
  methods := #[k0m0]
  instanceTypes := #[]
  staticTypes := #[]
  resolved := Array.replicate 124 none
  statics := none }

def pool1 : Array CpInfo := pool [(2, .class_ 4), (1, u "java/lang/Object"), (0, u "<init>"), (0, u "()V"), (0, .integer 55295), (0, .integer 63744), (0, .integer 64975), (0, .integer 65008), (0, .integer 65533), (0, .integer 65536), (0, .integer 983039), (0, .integer 2147483647), (0, .integer 2147483648), (0, .integer 2097151), (0, .methodref 18 19), (0, .class_ 20), (0, .nameAndType 21 22), (0, u "com/example/trellis/trellis/util/XmlChars"), (0, u "isNameStartChar"), (0, u "(I)Z"), (0, .methodref 24 25), (0, .class_ 26), (0, .nameAndType 27 22), (0, u "com/example/trellis/trellis/util/XmlCharsIsNameStartCharPinLaw"), (0, u "ref"), (0, .integer 55296), (0, .integer 64976), (0, .integer 65534), (0, .integer 983040), (2, u "law"), (0, u "(II)Z")] 5

def k1m0 : Method := { name := "<init>", desc := "()V", sig := { parameters := [], returnType := none }, accessFlags := 2, code := none }
def k1c1 : Code := { maxStack := 4, maxLocals := 6, code := code, exceptionTable := #[], attributes := #[] }
def k1m1 : Method := { name := "law", desc := "(II)Z", sig := { parameters := [.int, .int], returnType := some .boolean }, accessFlags := 9, code := some k1c1 }
def k1c2 : Code := { maxStack := 2, maxLocals := 1, code := method_3_code, exceptionTable := #[], attributes := #[] }
def k1m2 : Method := { name := "ref", desc := "(I)Z", sig := { parameters := [.int], returnType := some .boolean }, accessFlags := 10, code := some k1c2 }
/-- com/example/trellis/trellis/util/XmlCharsIsNameStartCharPinLaw -/
def k1 : Class := { plain "com/example/trellis/trellis/util/XmlCharsIsNameStartCharPinLaw" (some 0) with
  accessFlags := 49
  interfaces := #[]
  cf := some (fileOf pool1 24 #[] #[{ accessFlags := 2, nameIndex := 5, descriptorIndex := 6, attributes := #[] }, { accessFlags := 9, nameIndex := 34, descriptorIndex := 35, attributes := #[] }, { accessFlags := 10, nameIndex := 27, descriptorIndex := 22, attributes := #[] }] 49 2 #[] #[])
  fields := #[]
  methods := #[k1m0, k1m1, k1m2]
  instanceTypes := #[]
  staticTypes := #[]
  resolved := Array.replicate 41 none
  statics := none }

def pool2 : Array CpInfo := pool [(2, .class_ 4), (1, u "java/lang/Object"), (0, u "<init>"), (0, u "()V"), (0, .integer 55295), (0, .integer 63744), (0, .integer 64975), (0, .integer 65008), (0, .integer 65533), (0, .integer 65536), (0, .integer 983039), (1, .class_ 17), (1, u "com/example/trellis/trellis/util/XmlChars"), (0, u "isNameStartChar"), (0, u "(I)Z")] 6

def k2m0 : Method := { name := "<init>", desc := "()V", sig := { parameters := [], returnType := none }, accessFlags := 2, code := none }
def k2c1 : Code := { maxStack := 2, maxLocals := 1, code := prog_174_method_2_code, exceptionTable := #[], attributes := #[] }
def k2m1 : Method := { name := "isNameStartChar", desc := "(I)Z", sig := { parameters := [.int], returnType := some .boolean }, accessFlags := 9, code := some k2c1 }
/-- com/example/trellis/trellis/util/XmlChars -/
def k2 : Class := { plain "com/example/trellis/trellis/util/XmlChars" (some 0) with
  accessFlags := 49
  interfaces := #[]
  cf := some (fileOf pool2 15 #[] #[{ accessFlags := 2, nameIndex := 5, descriptorIndex := 6, attributes := #[] }, { accessFlags := 9, nameIndex := 18, descriptorIndex := 19, attributes := #[] }] 49 2 #[] #[])
  fields := #[]
  methods := #[k2m0, k2m1]
  instanceTypes := #[]
  staticTypes := #[]
  resolved := Array.replicate 26 none
  statics := none }

def pool3 : Array CpInfo := pool [(1, u "java/lang/Cloneable"), (0, .class_ 1), (0, u "java/lang/Object"), (0, .class_ 3)] 3

/-- java/lang/Cloneable -/
def k3 : Class := { plain "java/lang/Cloneable" (some 0) with
  accessFlags := 1537
  interfaces := #[]
  cf := some (fileOf pool3 2 #[] #[] 1537 4 #[] #[])
  fields := #[]
  methods := #[]
  instanceTypes := #[]
  staticTypes := #[]
  resolved := Array.replicate 8 none
  statics := none }

def pool4 : Array CpInfo := pool [(1, u "java/io/Serializable"), (0, .class_ 1), (0, u "java/lang/Object"), (0, .class_ 3)] 3

/-- java/io/Serializable -/
def k4 : Class := { plain "java/io/Serializable" (some 0) with
  accessFlags := 1537
  interfaces := #[]
  cf := some (fileOf pool4 2 #[] #[] 1537 4 #[] #[])
  fields := #[]
  methods := #[]
  instanceTypes := #[]
  staticTypes := #[]
  resolved := Array.replicate 8 none
  statics := none }

/-- the primitive byte -/
def k5 : Class := { plain "byte" none with kind := .primitive 'B', accessFlags := 0x411 }
/-- [B -/
def k6 : Class := { plain "[B" (some 0) with kind := .array 5 .byte, interfaces := #[3, 4], accessFlags := 1041 }

/-- the primitive int -/
def k7 : Class := { plain "int" none with kind := .primitive 'I', accessFlags := 0x411 }
/-- [I -/
def k8 : Class := { plain "[I" (some 0) with kind := .array 7 .int, interfaces := #[3, 4], accessFlags := 1041 }

def heap : Heap := #[]
def classes : Array Class := #[k0, k1, k2, k3, k4, k5, k6, k7, k8]
def interned : List (Array UInt16 × Addr) := []
def slotsUsed : Nat := 0
def theMethod : MethodId := ⟨1, 1⟩
def args0 : Array Value := #[.int 5, .int 70000]
def aboutOver (below : List Frame) : State where
  vm := { classes := classes, interned := interned.toArray }
  heap := heap
  slotsUsed := slotsUsed
  threads := #[{ frames := .invoking theMethod args0 :: below }]
def below0 : List Frame := [.native { method := ⟨0, 0⟩, args := #[] }]
def about1 : State := aboutOver below0
def p0 : Program := .bare "" "" ""
def e0 : Env := launch0.env 0 0 0
theorem w_frames : about1.frames = Frame.invoking theMethod args0 :: below0 := rfl
set_option maxRecDepth 65536 in
theorem w_args : argsFit about1.vm theMethod args0 = true := by decide +kernel
set_option maxRecDepth 65536 in
theorem w_heap : heapFits about1 = true := by decide +kernel
set_option maxRecDepth 65536 in
theorem w_runnable : about1.curStatus? = some .runnable := by decide +kernel
set_option maxRecDepth 65536 in
theorem w_alone : about1.alone = true := by decide +kernel
set_option maxRecDepth 65536 in
theorem w_named : about1.methodNamed? x = some theMethod := by decide +kernel
set_option maxRecDepth 65536 in
theorem w_hears : about1.hears theMethod below0 = true := by decide +kernel
set_option maxRecDepth 65536 in
theorem w_ripe : about1.ripe theMethod args0 below0 = true := by decide +kernel
theorem w_running : about1.status = .running := rfl
set_option maxRecDepth 65536 in
theorem w_room : about1.hasRoom e0.platform room_1 = true :=
  launch0.hasRoom_least _ room_1 (by decide +kernel) (by decide +kernel) (by decide +kernel) (by decide +kernel) (by decide +kernel) (by decide +kernel)
theorem allAtoms_all (ts : List Jvm.Cond) (a : Array Jvm.Value) (st : Jvm.State) : (allAtoms ts).before a st = ts.all (fun c => c.before a st) := by
  induction ts with
  | nil => rfl
  | cons c t ih =>
    show (Jvm.Cond.and c (allAtoms t)).before a st = _
    rw [Jvm.Cond.before_and, ih, List.all_cons]
def words1 : List Jvm.Cond := Jvm.Cond.code x code maxLocals ret :: tables_1
/-- a 'code' word, met by the world's own term for the bytes: nothing is compared byte by byte -/
theorem code_word {y : MethodName} {bytes : ByteArray} {mx : Nat} {rt : Option FieldType} {a : Array Value} {s : State} {m : MethodId} {meth : Method} {c : Code} (h1 : s.methodNamed? y = some m) (h2 : s.vm.method? m = some meth) (h3 : meth.code = some c) (h4 : c.code = bytes)
    (h5 : (c.maxLocals == mx && c.exceptionTable.isEmpty && decide (c.maxStack ≤ mostOperands) && decide (meth.sig.returnType = rt) && !meth.locks && decide (parseMethodDescriptor y.desc = some meth.sig)) = true) : (Jvm.Cond.code y bytes mx rt).before a s = true := by
  simp only [Bool.and_eq_true, beq_iff_eq, Bool.not_eq_true', decide_eq_true_eq] at h5
  obtain ⟨⟨⟨⟨⟨g1, g2⟩, g3⟩, g4⟩, g5⟩, g6⟩ := h5
  simp [Cond.before, Cond.holds, Cond.value, h1, h2, h3, h4, g1, g2, g3, g4, g5, g6]
def isCode : Jvm.Cond → Bool
  | .code _ _ _ _ => true
  | _ => false
theorem all_split {L : List Jvm.Cond} {P : Jvm.Cond → Bool} (h1 : L.all (fun c => isCode c || P c) = true) (h2 : ∀ c ∈ L.filter isCode, P c = true) : L.all P = true := by
  refine List.all_eq_true.mpr fun c hc => ?_
  have h := List.all_eq_true.mp h1 c hc
  rcases Bool.eq_false_or_eq_true (isCode c) with hi | hi
  · exact h2 c (List.mem_filter.mpr ⟨hc, hi⟩)
  · simpa [hi] using h
set_option maxRecDepth 65536 in
theorem w_c0 : (Jvm.Cond.code x code maxLocals ret).before args0 about1 = true := code_word (m := ⟨1, 1⟩) (meth := k1m1) (c := k1c1) (by decide +kernel) rfl rfl rfl (by decide +kernel)
set_option maxRecDepth 65536 in
theorem w_c1 : (Jvm.Cond.code ({ cls := "com/example/trellis/trellis/util/XmlChars", name := "isNameStartChar", desc := "(I)Z" } : Jvm.MethodName) prog_174_method_2_code (1 : Nat) (Option.some Jvm.ClassFile.FieldType.boolean)).before args0 about1 = true := code_word (m := ⟨2, 1⟩) (meth := k2m1) (c := k2c1) (by decide +kernel) rfl rfl rfl (by decide +kernel)
set_option maxRecDepth 65536 in
theorem w_c2 : (Jvm.Cond.code ({ cls := "com/example/trellis/trellis/util/XmlCharsIsNameStartCharPinLaw", name := "ref", desc := "(I)Z" } : Jvm.MethodName) method_3_code (1 : Nat) (Option.some Jvm.ClassFile.FieldType.boolean)).before args0 about1 = true := code_word (m := ⟨1, 2⟩) (meth := k1m2) (c := k1c2) (by decide +kernel) rfl rfl rfl (by decide +kernel)
def codes1 : List Jvm.Cond := [Jvm.Cond.code x code maxLocals ret, Jvm.Cond.code ({ cls := "com/example/trellis/trellis/util/XmlChars", name := "isNameStartChar", desc := "(I)Z" } : Jvm.MethodName) prog_174_method_2_code (1 : Nat) (Option.some Jvm.ClassFile.FieldType.boolean), Jvm.Cond.code ({ cls := "com/example/trellis/trellis/util/XmlCharsIsNameStartCharPinLaw", name := "ref", desc := "(I)Z" } : Jvm.MethodName) method_3_code (1 : Nat) (Option.some Jvm.ClassFile.FieldType.boolean)]
set_option maxRecDepth 65536 in
theorem codes_eq : words1.filter isCode = codes1 := rfl
theorem w_codes : ∀ c ∈ words1.filter isCode, c.before args0 about1 = true := by
  rw [codes_eq]
  intro c hc
  simp only [codes1, List.mem_cons, List.not_mem_nil, or_false] at hc
  rcases hc with rfl | rfl | rfl
  · exact w_c0
  · exact w_c1
  · exact w_c2
set_option maxRecDepth 65536 in
theorem w_t1 : (words1.take 24).all (fun c => isCode c || c.before args0 about1) = true := by decide +kernel
set_option maxRecDepth 65536 in
theorem w_t2 : (words1.drop 24).all (fun c => isCode c || c.before args0 about1) = true := by decide +kernel
theorem w_tables : (allAtoms (Jvm.Cond.code x code maxLocals ret :: tables_1)).before args0 about1 = true := by
  rw [allAtoms_all]
  show words1.all (fun c => c.before args0 about1) = true
  refine all_split ?_ w_codes
  rw [← List.take_append_drop 24 words1, List.all_append, w_t1, w_t2]
  rfl
set_option maxRecDepth 65536 in
theorem w_case : (Jvm.Cond.and given_1 narrow_1).before args0 about1 = true := by decide +kernel
theorem w_applies : (headSpec (Jvm.Cond.code x code maxLocals ret :: tables_1) room_1).applies x e0.platform about1 = true :=
  (Spec.applies_iff w_frames).mpr ⟨w_running, w_runnable, w_alone, w_named, w_hears, w_ripe, w_room, w_tables⟩
theorem atStart : AtStart classFile x code maxLocals ret World_1 tables_1 room_1 Calls_1 rest_1 Pre_1 launch0 p0 e0 about1 theMethod args0 below0 :=
  ⟨lists_1, trivial, launch0.admits_env _ _ _, launch0.least_env, fairChoices_fair.cas, fairChoices_fair.clock, w_frames, w_args, w_heap, w_applies, trivial, trivial, w_case⟩
end start1
theorem witness_1 : WitnessClaimed_1 := ⟨start1.p0, start1.e0, start1.about1, start1.theMethod, start1.args0, start1.below0, start1.atStart⟩
end Jvm.Pilot.@@N@@
