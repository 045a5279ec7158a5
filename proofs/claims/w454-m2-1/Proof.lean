import JvmDerived
import JvmDerived.Pilot.@@N@@Statement
import JvmDerived.Pilot.@@N@@Code
set_option linter.unusedVariables false
set_option linter.unusedSimpArgs false
namespace Jvm.OwnKit
open Jvm Sem ClassFile Op Lib Jvm.Stand Jvm.Free Jvm.LawKit Jvm.RoadKit
/-- what a body's walk knows of its frame throughout -/
def Cx (p : Program) (s : State) (m : MethodId) (meth : Method) (c : Code) (Z : State) (y : MethodName) (bytes : ByteArray) (ml : Nat) (ret : Option FieldType) : Prop :=
  p.tables.exec = Jvm.exec ∧ Z.Warmed39 s.vm ∧ s.vm.findClass y.cls = some m.cls ∧ c.code = bytes ∧ c.maxLocals = ml ∧ meth.sig.returnType = ret ∧ meth.locks = false ∧ meth.name = y.name
/-- from the heap h, k cells and n slots made so far, the frame at pc with these locals and this stack comes to its end, and Q holds of the result and the last heap -/
def W (p : Program) (l : Launch) (e : Env) (R : Room) (s : State) (m : MethodId) (args : Array Value) (below : List Frame) (meth : Method) (c : Code) (n0 : Nat) (Q : Option Value → Heap → Prop) (kc ks : Nat)
    (k n : Nat) (h : Heap) (pc : Nat) (ls : Array Slot) (st : List Value) : Prop :=
  ∀ (T : State) (locs : List Loc), Stand p l e R s m args below meth c T locs k n → T.heap = h → Fr n0 locs →
    ∃ s₂ o, Steps p.tables e below (T.setTop (mkF m pc ls st)) s₂ ∧ s₂.status = .running ∧ Ended s₂ below o ∧ ∃ v L, o = .returned v ∧ (Q v s₂.heap ∧ Fr n0 L) ∧ FrameEnd s o s₂ L kc ks
/-- a body's contract -/
def Con (l : Launch) (Z : State) (y : MethodName) (bytes : ByteArray) (ml : Nat) (ret : Option FieldType) (rm : Room) (as' : Array Value) (h0 : Heap) (n0 : Nat) (Q : Option Value → Heap → Prop) : Prop :=
  ∀ ws : List Jvm.Cond, MetFree l y (head1 (Jvm.Cond.code y bytes ml ret :: ws) rm) (fun a U => a = as' ∧ Z.Warmed39 U.vm ∧ U.heap = h0) (fun _ _ _ _ _ => True) (fun _ U o U' => ∃ v L, o = .returned v ∧ (Q v U'.heap ∧ Fr n0 L) ∧ FrameEnd U o U' L rm.cells rm.slots)
/-- it returns v and leaves the heap -/
def Pu (v : Option Value) (h : Heap) : Option Value → Heap → Prop := fun v' h' => v' = v ∧ h = h'
section
variable {p : Program} {l : Launch} {e : Env} {R : Room} {s : State} {m : MethodId} {args : Array Value} {below : List Frame} {meth : Method} {c : Code} {Z : State} {y : MethodName} {bytes : ByteArray} {ml : Nat} {ret : Option FieldType} {n0 : Nat} {Q : Option Value → Heap → Prop} {kc ks k n : Nat} {h : Heap} {pc : Nat} {ls : Array Slot} {st : List Value} {a0 : Array Value}
theorem Cx.a (C : Cx p s m meth c Z y bytes ml ret) {pc : Nat} {r : Except ClassFile.DecodeError (ClassFile.Instr × Nat)} (h2 : ClassFile.decode bytes pc = r) : ClassFile.decode c.code pc = r := C.2.2.2.1 ▸ h2
theorem Con.of {rm : Room} {as' : Array Value} {h0 : Heap} (hpn : plainFor y = true) {ls : Array Slot} (hent : ∀ m, entryFrame m as' ml = mkF m 0 ls [])
    (hW : ∀ p e s m below meth c, Cx p s m meth c Z y bytes ml ret → W p l e rm s m as' below meth c n0 Q rm.cells rm.slots 0 0 h0 0 ls []) : Con l Z y bytes ml ret rm as' h0 n0 Q := by
  intro ws
  refine MetFree.of_bodySF hpn hisR ?_
  intro p e s m args below meth c s₁ Bd hml0 hP hK
  obtain ⟨rfl, hZ, hh⟩ := hP
  have X0 : Stand p l e rm s m _ below meth c s₁ [] 0 0 := Stand.of_body Bd
  have e0 : s₁.heap = h0 := by rw [← hh, Bd.state]; rfl
  obtain ⟨s₂, o, h1, h2⟩ := hW p e s m below meth c ⟨Bd.exec, hZ, findClass_of_methodNamed Bd.named, Bd.bytes, hml0, Bd.returns, Bd.notSynchronized, (name_of_methodNamed Bd.named Bd.method).1⟩ s₁ [] X0 e0 (Fr.nil n0)
  exact ⟨s₂, o, castTop (hent m) h1, h2⟩
theorem W.lift {pc' : Nat} {ls' : Array Slot} {st' : List Value} (f : ∀ T target, At T m c below → Steps p.tables e below (T.setTop (mkF m pc' ls' st')) target → Steps p.tables e below (T.setTop (mkF m pc ls st)) target) (K : W p l e R s m args below meth c n0 Q kc ks k n h pc' ls' st') : W p l e R s m args below meth c n0 Q kc ks k n h pc ls st := fun T locs X eT N => by
  obtain ⟨s₂, o, h1, h2⟩ := K T locs X eT N
  exact ⟨s₂, o, f T _ X.here h1, h2⟩
theorem W.heap {h' : Heap} (q : h = h') (K : W p l e R s m args below meth c n0 Q kc ks k n h' pc ls st) : W p l e R s m args below meth c n0 Q kc ks k n h pc ls st := q ▸ K
theorem W.room {k' n' : Nat} (hk : k ≤ k') (hn : n ≤ n') (K : W p l e R s m args below meth c n0 Q kc ks k' n' h pc ls st) : W p l e R s m args below meth c n0 Q kc ks k n h pc ls st := fun T locs X eT N => K T locs ⟨X.admits, X.cas, X.clock, X.frames, X.room, X.hears, X.method, X.code, X.here, X.tail, X.warmed, X.limits, X.bytes, X.same.mono hk hn⟩ eT N
theorem W.iaddV (C : Cx p s m meth c Z y bytes ml ret) {u v : Int32} (z : Int32) (d : decode bytes pc = .ok (.iadd, 1)) (hz : (u + v) = z) (K : W p l e R s m args below meth c n0 Q kc ks k n h (pc + 1) ls (.int z :: st)) : W p l e R s m args below meth c n0 Q kc ks k n h pc ls (.int v :: .int u :: st) :=
  W.lift (fun T t H S => XS.iadd H C.1 rfl (C.a d) rfl (by subst hz; exact S)) K
theorem W.iadd (C : Cx p s m meth c Z y bytes ml ret) {u v : Int32} (d : decode bytes pc = .ok (.iadd, 1)) (K : W p l e R s m args below meth c n0 Q kc ks k n h (pc + 1) ls (.int (u + v) :: st)) : W p l e R s m args below meth c n0 Q kc ks k n h pc ls (.int v :: .int u :: st) :=
  W.lift (fun T t H S => XS.iadd H C.1 rfl (C.a d) rfl S) K
theorem W.isubV (C : Cx p s m meth c Z y bytes ml ret) {u v : Int32} (z : Int32) (d : decode bytes pc = .ok (.isub, 1)) (hz : (u - v) = z) (K : W p l e R s m args below meth c n0 Q kc ks k n h (pc + 1) ls (.int z :: st)) : W p l e R s m args below meth c n0 Q kc ks k n h pc ls (.int v :: .int u :: st) :=
  W.lift (fun T t H S => XS.isub H C.1 rfl (C.a d) rfl (by subst hz; exact S)) K
theorem W.isub (C : Cx p s m meth c Z y bytes ml ret) {u v : Int32} (d : decode bytes pc = .ok (.isub, 1)) (K : W p l e R s m args below meth c n0 Q kc ks k n h (pc + 1) ls (.int (u - v) :: st)) : W p l e R s m args below meth c n0 Q kc ks k n h pc ls (.int v :: .int u :: st) :=
  W.lift (fun T t H S => XS.isub H C.1 rfl (C.a d) rfl S) K
theorem W.imulV (C : Cx p s m meth c Z y bytes ml ret) {u v : Int32} (z : Int32) (d : decode bytes pc = .ok (.imul, 1)) (hz : (u * v) = z) (K : W p l e R s m args below meth c n0 Q kc ks k n h (pc + 1) ls (.int z :: st)) : W p l e R s m args below meth c n0 Q kc ks k n h pc ls (.int v :: .int u :: st) :=
  W.lift (fun T t H S => XS.imul H C.1 rfl (C.a d) rfl (by subst hz; exact S)) K
theorem W.imul (C : Cx p s m meth c Z y bytes ml ret) {u v : Int32} (d : decode bytes pc = .ok (.imul, 1)) (K : W p l e R s m args below meth c n0 Q kc ks k n h (pc + 1) ls (.int (u * v) :: st)) : W p l e R s m args below meth c n0 Q kc ks k n h pc ls (.int v :: .int u :: st) :=
  W.lift (fun T t H S => XS.imul H C.1 rfl (C.a d) rfl S) K
theorem W.iandV (C : Cx p s m meth c Z y bytes ml ret) {u v : Int32} (z : Int32) (d : decode bytes pc = .ok (.iand, 1)) (hz : (u &&& v) = z) (K : W p l e R s m args below meth c n0 Q kc ks k n h (pc + 1) ls (.int z :: st)) : W p l e R s m args below meth c n0 Q kc ks k n h pc ls (.int v :: .int u :: st) :=
  W.lift (fun T t H S => XS.iand H C.1 rfl (C.a d) rfl (by subst hz; exact S)) K
theorem W.iand (C : Cx p s m meth c Z y bytes ml ret) {u v : Int32} (d : decode bytes pc = .ok (.iand, 1)) (K : W p l e R s m args below meth c n0 Q kc ks k n h (pc + 1) ls (.int (u &&& v) :: st)) : W p l e R s m args below meth c n0 Q kc ks k n h pc ls (.int v :: .int u :: st) :=
  W.lift (fun T t H S => XS.iand H C.1 rfl (C.a d) rfl S) K
theorem W.iorV (C : Cx p s m meth c Z y bytes ml ret) {u v : Int32} (z : Int32) (d : decode bytes pc = .ok (.ior, 1)) (hz : (u ||| v) = z) (K : W p l e R s m args below meth c n0 Q kc ks k n h (pc + 1) ls (.int z :: st)) : W p l e R s m args below meth c n0 Q kc ks k n h pc ls (.int v :: .int u :: st) :=
  W.lift (fun T t H S => XS.ior H C.1 rfl (C.a d) rfl (by subst hz; exact S)) K
theorem W.ior (C : Cx p s m meth c Z y bytes ml ret) {u v : Int32} (d : decode bytes pc = .ok (.ior, 1)) (K : W p l e R s m args below meth c n0 Q kc ks k n h (pc + 1) ls (.int (u ||| v) :: st)) : W p l e R s m args below meth c n0 Q kc ks k n h pc ls (.int v :: .int u :: st) :=
  W.lift (fun T t H S => XS.ior H C.1 rfl (C.a d) rfl S) K
theorem W.ixorV (C : Cx p s m meth c Z y bytes ml ret) {u v : Int32} (z : Int32) (d : decode bytes pc = .ok (.ixor, 1)) (hz : (u ^^^ v) = z) (K : W p l e R s m args below meth c n0 Q kc ks k n h (pc + 1) ls (.int z :: st)) : W p l e R s m args below meth c n0 Q kc ks k n h pc ls (.int v :: .int u :: st) :=
  W.lift (fun T t H S => XS.ixor H C.1 rfl (C.a d) rfl (by subst hz; exact S)) K
theorem W.ixor (C : Cx p s m meth c Z y bytes ml ret) {u v : Int32} (d : decode bytes pc = .ok (.ixor, 1)) (K : W p l e R s m args below meth c n0 Q kc ks k n h (pc + 1) ls (.int (u ^^^ v) :: st)) : W p l e R s m args below meth c n0 Q kc ks k n h pc ls (.int v :: .int u :: st) :=
  W.lift (fun T t H S => XS.ixor H C.1 rfl (C.a d) rfl S) K
theorem W.ishlV (C : Cx p s m meth c Z y bytes ml ret) {u v : Int32} (z : Int32) (d : decode bytes pc = .ok (.ishl, 1)) (hz : (u <<< (v &&& 31)) = z) (K : W p l e R s m args below meth c n0 Q kc ks k n h (pc + 1) ls (.int z :: st)) : W p l e R s m args below meth c n0 Q kc ks k n h pc ls (.int v :: .int u :: st) :=
  W.lift (fun T t H S => XS.ishl H C.1 rfl (C.a d) rfl (by subst hz; exact S)) K
theorem W.ishl (C : Cx p s m meth c Z y bytes ml ret) {u v : Int32} (d : decode bytes pc = .ok (.ishl, 1)) (K : W p l e R s m args below meth c n0 Q kc ks k n h (pc + 1) ls (.int (u <<< (v &&& 31)) :: st)) : W p l e R s m args below meth c n0 Q kc ks k n h pc ls (.int v :: .int u :: st) :=
  W.lift (fun T t H S => XS.ishl H C.1 rfl (C.a d) rfl S) K
theorem W.ishrV (C : Cx p s m meth c Z y bytes ml ret) {u v : Int32} (z : Int32) (d : decode bytes pc = .ok (.ishr, 1)) (hz : (u >>> (v &&& 31)) = z) (K : W p l e R s m args below meth c n0 Q kc ks k n h (pc + 1) ls (.int z :: st)) : W p l e R s m args below meth c n0 Q kc ks k n h pc ls (.int v :: .int u :: st) :=
  W.lift (fun T t H S => XS.ishr H C.1 rfl (C.a d) rfl (by subst hz; exact S)) K
theorem W.ishr (C : Cx p s m meth c Z y bytes ml ret) {u v : Int32} (d : decode bytes pc = .ok (.ishr, 1)) (K : W p l e R s m args below meth c n0 Q kc ks k n h (pc + 1) ls (.int (u >>> (v &&& 31)) :: st)) : W p l e R s m args below meth c n0 Q kc ks k n h pc ls (.int v :: .int u :: st) :=
  W.lift (fun T t H S => XS.ishr H C.1 rfl (C.a d) rfl S) K
theorem W.iushrV (C : Cx p s m meth c Z y bytes ml ret) {u v : Int32} (z : Int32) (d : decode bytes pc = .ok (.iushr, 1)) (hz : ((u.toUInt32 >>> (v &&& 31).toUInt32).toInt32) = z) (K : W p l e R s m args below meth c n0 Q kc ks k n h (pc + 1) ls (.int z :: st)) : W p l e R s m args below meth c n0 Q kc ks k n h pc ls (.int v :: .int u :: st) :=
  W.lift (fun T t H S => XS.iushr H C.1 rfl (C.a d) rfl (by subst hz; exact S)) K
theorem W.iushr (C : Cx p s m meth c Z y bytes ml ret) {u v : Int32} (d : decode bytes pc = .ok (.iushr, 1)) (K : W p l e R s m args below meth c n0 Q kc ks k n h (pc + 1) ls (.int ((u.toUInt32 >>> (v &&& 31).toUInt32).toInt32) :: st)) : W p l e R s m args below meth c n0 Q kc ks k n h pc ls (.int v :: .int u :: st) :=
  W.lift (fun T t H S => XS.iushr H C.1 rfl (C.a d) rfl S) K
theorem W.laddV (C : Cx p s m meth c Z y bytes ml ret) {u v : Int64} (z : Int64) (d : decode bytes pc = .ok (.ladd, 1)) (hz : (u + v) = z) (K : W p l e R s m args below meth c n0 Q kc ks k n h (pc + 1) ls (.long z :: st)) : W p l e R s m args below meth c n0 Q kc ks k n h pc ls (.long v :: .long u :: st) :=
  W.lift (fun T t H S => XS.ladd H C.1 rfl (C.a d) rfl (by subst hz; exact S)) K
theorem W.ladd (C : Cx p s m meth c Z y bytes ml ret) {u v : Int64} (d : decode bytes pc = .ok (.ladd, 1)) (K : W p l e R s m args below meth c n0 Q kc ks k n h (pc + 1) ls (.long (u + v) :: st)) : W p l e R s m args below meth c n0 Q kc ks k n h pc ls (.long v :: .long u :: st) :=
  W.lift (fun T t H S => XS.ladd H C.1 rfl (C.a d) rfl S) K
theorem W.lsubV (C : Cx p s m meth c Z y bytes ml ret) {u v : Int64} (z : Int64) (d : decode bytes pc = .ok (.lsub, 1)) (hz : (u - v) = z) (K : W p l e R s m args below meth c n0 Q kc ks k n h (pc + 1) ls (.long z :: st)) : W p l e R s m args below meth c n0 Q kc ks k n h pc ls (.long v :: .long u :: st) :=
  W.lift (fun T t H S => XS.lsub H C.1 rfl (C.a d) rfl (by subst hz; exact S)) K
theorem W.lsub (C : Cx p s m meth c Z y bytes ml ret) {u v : Int64} (d : decode bytes pc = .ok (.lsub, 1)) (K : W p l e R s m args below meth c n0 Q kc ks k n h (pc + 1) ls (.long (u - v) :: st)) : W p l e R s m args below meth c n0 Q kc ks k n h pc ls (.long v :: .long u :: st) :=
  W.lift (fun T t H S => XS.lsub H C.1 rfl (C.a d) rfl S) K
theorem W.lmulV (C : Cx p s m meth c Z y bytes ml ret) {u v : Int64} (z : Int64) (d : decode bytes pc = .ok (.lmul, 1)) (hz : (u * v) = z) (K : W p l e R s m args below meth c n0 Q kc ks k n h (pc + 1) ls (.long z :: st)) : W p l e R s m args below meth c n0 Q kc ks k n h pc ls (.long v :: .long u :: st) :=
  W.lift (fun T t H S => XS.lmul H C.1 rfl (C.a d) rfl (by subst hz; exact S)) K
theorem W.lmul (C : Cx p s m meth c Z y bytes ml ret) {u v : Int64} (d : decode bytes pc = .ok (.lmul, 1)) (K : W p l e R s m args below meth c n0 Q kc ks k n h (pc + 1) ls (.long (u * v) :: st)) : W p l e R s m args below meth c n0 Q kc ks k n h pc ls (.long v :: .long u :: st) :=
  W.lift (fun T t H S => XS.lmul H C.1 rfl (C.a d) rfl S) K
theorem W.landV (C : Cx p s m meth c Z y bytes ml ret) {u v : Int64} (z : Int64) (d : decode bytes pc = .ok (.land, 1)) (hz : (u &&& v) = z) (K : W p l e R s m args below meth c n0 Q kc ks k n h (pc + 1) ls (.long z :: st)) : W p l e R s m args below meth c n0 Q kc ks k n h pc ls (.long v :: .long u :: st) :=
  W.lift (fun T t H S => XS.land H C.1 rfl (C.a d) rfl (by subst hz; exact S)) K
theorem W.land (C : Cx p s m meth c Z y bytes ml ret) {u v : Int64} (d : decode bytes pc = .ok (.land, 1)) (K : W p l e R s m args below meth c n0 Q kc ks k n h (pc + 1) ls (.long (u &&& v) :: st)) : W p l e R s m args below meth c n0 Q kc ks k n h pc ls (.long v :: .long u :: st) :=
  W.lift (fun T t H S => XS.land H C.1 rfl (C.a d) rfl S) K
theorem W.lorV (C : Cx p s m meth c Z y bytes ml ret) {u v : Int64} (z : Int64) (d : decode bytes pc = .ok (.lor, 1)) (hz : (u ||| v) = z) (K : W p l e R s m args below meth c n0 Q kc ks k n h (pc + 1) ls (.long z :: st)) : W p l e R s m args below meth c n0 Q kc ks k n h pc ls (.long v :: .long u :: st) :=
  W.lift (fun T t H S => XS.lor H C.1 rfl (C.a d) rfl (by subst hz; exact S)) K
theorem W.lor (C : Cx p s m meth c Z y bytes ml ret) {u v : Int64} (d : decode bytes pc = .ok (.lor, 1)) (K : W p l e R s m args below meth c n0 Q kc ks k n h (pc + 1) ls (.long (u ||| v) :: st)) : W p l e R s m args below meth c n0 Q kc ks k n h pc ls (.long v :: .long u :: st) :=
  W.lift (fun T t H S => XS.lor H C.1 rfl (C.a d) rfl S) K
theorem W.lxorV (C : Cx p s m meth c Z y bytes ml ret) {u v : Int64} (z : Int64) (d : decode bytes pc = .ok (.lxor, 1)) (hz : (u ^^^ v) = z) (K : W p l e R s m args below meth c n0 Q kc ks k n h (pc + 1) ls (.long z :: st)) : W p l e R s m args below meth c n0 Q kc ks k n h pc ls (.long v :: .long u :: st) :=
  W.lift (fun T t H S => XS.lxor H C.1 rfl (C.a d) rfl (by subst hz; exact S)) K
theorem W.lxor (C : Cx p s m meth c Z y bytes ml ret) {u v : Int64} (d : decode bytes pc = .ok (.lxor, 1)) (K : W p l e R s m args below meth c n0 Q kc ks k n h (pc + 1) ls (.long (u ^^^ v) :: st)) : W p l e R s m args below meth c n0 Q kc ks k n h pc ls (.long v :: .long u :: st) :=
  W.lift (fun T t H S => XS.lxor H C.1 rfl (C.a d) rfl S) K
theorem W.lshlV (C : Cx p s m meth c Z y bytes ml ret) {u : Int64} {v : Int32} (z : Int64) (d : decode bytes pc = .ok (.lshl, 1)) (hz : (u <<< (v &&& 0x3f).toInt64) = z) (K : W p l e R s m args below meth c n0 Q kc ks k n h (pc + 1) ls (.long z :: st)) : W p l e R s m args below meth c n0 Q kc ks k n h pc ls (.int v :: .long u :: st) :=
  W.lift (fun T t H S => XS.lshl H C.1 rfl (C.a d) rfl (by subst hz; exact S)) K
theorem W.lshl (C : Cx p s m meth c Z y bytes ml ret) {u : Int64} {v : Int32} (d : decode bytes pc = .ok (.lshl, 1)) (K : W p l e R s m args below meth c n0 Q kc ks k n h (pc + 1) ls (.long (u <<< (v &&& 0x3f).toInt64) :: st)) : W p l e R s m args below meth c n0 Q kc ks k n h pc ls (.int v :: .long u :: st) :=
  W.lift (fun T t H S => XS.lshl H C.1 rfl (C.a d) rfl S) K
theorem W.lshrV (C : Cx p s m meth c Z y bytes ml ret) {u : Int64} {v : Int32} (z : Int64) (d : decode bytes pc = .ok (.lshr, 1)) (hz : (u >>> (v &&& 0x3f).toInt64) = z) (K : W p l e R s m args below meth c n0 Q kc ks k n h (pc + 1) ls (.long z :: st)) : W p l e R s m args below meth c n0 Q kc ks k n h pc ls (.int v :: .long u :: st) :=
  W.lift (fun T t H S => XS.lshr H C.1 rfl (C.a d) rfl (by subst hz; exact S)) K
theorem W.lshr (C : Cx p s m meth c Z y bytes ml ret) {u : Int64} {v : Int32} (d : decode bytes pc = .ok (.lshr, 1)) (K : W p l e R s m args below meth c n0 Q kc ks k n h (pc + 1) ls (.long (u >>> (v &&& 0x3f).toInt64) :: st)) : W p l e R s m args below meth c n0 Q kc ks k n h pc ls (.int v :: .long u :: st) :=
  W.lift (fun T t H S => XS.lshr H C.1 rfl (C.a d) rfl S) K
theorem W.lushrV (C : Cx p s m meth c Z y bytes ml ret) {u : Int64} {v : Int32} (z : Int64) (d : decode bytes pc = .ok (.lushr, 1)) (hz : ((u.toUInt64 >>> (v &&& 0x3f).toInt64.toUInt64).toInt64) = z) (K : W p l e R s m args below meth c n0 Q kc ks k n h (pc + 1) ls (.long z :: st)) : W p l e R s m args below meth c n0 Q kc ks k n h pc ls (.int v :: .long u :: st) :=
  W.lift (fun T t H S => XS.lushr H C.1 rfl (C.a d) rfl (by subst hz; exact S)) K
theorem W.lushr (C : Cx p s m meth c Z y bytes ml ret) {u : Int64} {v : Int32} (d : decode bytes pc = .ok (.lushr, 1)) (K : W p l e R s m args below meth c n0 Q kc ks k n h (pc + 1) ls (.long ((u.toUInt64 >>> (v &&& 0x3f).toInt64.toUInt64).toInt64) :: st)) : W p l e R s m args below meth c n0 Q kc ks k n h pc ls (.int v :: .long u :: st) :=
  W.lift (fun T t H S => XS.lushr H C.1 rfl (C.a d) rfl S) K
theorem W.idivV (C : Cx p s m meth c Z y bytes ml ret) {u v : Int32} (z : Int32) (d : decode bytes pc = .ok (.idiv, 1)) (hy : v ≠ 0) (hz : (u / v) = z) (K : W p l e R s m args below meth c n0 Q kc ks k n h (pc + 1) ls (.int z :: st)) : W p l e R s m args below meth c n0 Q kc ks k n h pc ls (.int v :: .int u :: st) :=
  W.lift (fun T t H S => XS.idiv H C.1 rfl (C.a d) rfl hy (by subst hz; exact S)) K
theorem W.idiv (C : Cx p s m meth c Z y bytes ml ret) {u v : Int32} (d : decode bytes pc = .ok (.idiv, 1)) (hy : v ≠ 0) (K : W p l e R s m args below meth c n0 Q kc ks k n h (pc + 1) ls (.int (u / v) :: st)) : W p l e R s m args below meth c n0 Q kc ks k n h pc ls (.int v :: .int u :: st) :=
  W.lift (fun T t H S => XS.idiv H C.1 rfl (C.a d) rfl hy S) K
theorem W.irem (C : Cx p s m meth c Z y bytes ml ret) {u v : Int32} (d : decode bytes pc = .ok (.irem, 1)) (hy : v ≠ 0) (K : W p l e R s m args below meth c n0 Q kc ks k n h (pc + 1) ls (.int (u % v) :: st)) : W p l e R s m args below meth c n0 Q kc ks k n h pc ls (.int v :: .int u :: st) :=
  W.lift (fun T t H S => XS.irem H C.1 rfl (C.a d) rfl hy (by rw [irem_eq_mod u v]; exact S)) K
theorem W.ldivV (C : Cx p s m meth c Z y bytes ml ret) {u v : Int64} (z : Int64) (d : decode bytes pc = .ok (.ldiv, 1)) (hy : v ≠ 0) (hz : (u / v) = z) (K : W p l e R s m args below meth c n0 Q kc ks k n h (pc + 1) ls (.long z :: st)) : W p l e R s m args below meth c n0 Q kc ks k n h pc ls (.long v :: .long u :: st) :=
  W.lift (fun T t H S => XS.ldiv H C.1 rfl (C.a d) rfl hy (by subst hz; exact S)) K
theorem W.ldiv (C : Cx p s m meth c Z y bytes ml ret) {u v : Int64} (d : decode bytes pc = .ok (.ldiv, 1)) (hy : v ≠ 0) (K : W p l e R s m args below meth c n0 Q kc ks k n h (pc + 1) ls (.long (u / v) :: st)) : W p l e R s m args below meth c n0 Q kc ks k n h pc ls (.long v :: .long u :: st) :=
  W.lift (fun T t H S => XS.ldiv H C.1 rfl (C.a d) rfl hy S) K
theorem W.lrem (C : Cx p s m meth c Z y bytes ml ret) {u v : Int64} (d : decode bytes pc = .ok (.lrem, 1)) (hy : v ≠ 0) (K : W p l e R s m args below meth c n0 Q kc ks k n h (pc + 1) ls (.long (u % v) :: st)) : W p l e R s m args below meth c n0 Q kc ks k n h pc ls (.long v :: .long u :: st) :=
  W.lift (fun T t H S => XS.lrem H C.1 rfl (C.a d) rfl hy (by rw [lrem_mod u v]; exact S)) K
theorem W.inegV (C : Cx p s m meth c Z y bytes ml ret) {u : Int32} (z : Int32) (d : decode bytes pc = .ok (.ineg, 1)) (hz : (-u) = z) (K : W p l e R s m args below meth c n0 Q kc ks k n h (pc + 1) ls (.int z :: st)) : W p l e R s m args below meth c n0 Q kc ks k n h pc ls (.int u :: st) :=
  W.lift (fun T t H S => XS.ineg H C.1 rfl (C.a d) rfl (by subst hz; exact S)) K
theorem W.ineg (C : Cx p s m meth c Z y bytes ml ret) {u : Int32} (d : decode bytes pc = .ok (.ineg, 1)) (K : W p l e R s m args below meth c n0 Q kc ks k n h (pc + 1) ls (.int (-u) :: st)) : W p l e R s m args below meth c n0 Q kc ks k n h pc ls (.int u :: st) :=
  W.lift (fun T t H S => XS.ineg H C.1 rfl (C.a d) rfl S) K
theorem W.i2bV (C : Cx p s m meth c Z y bytes ml ret) {u : Int32} (z : Int32) (d : decode bytes pc = .ok (.i2b, 1)) (hz : (u.toInt8.toInt32) = z) (K : W p l e R s m args below meth c n0 Q kc ks k n h (pc + 1) ls (.int z :: st)) : W p l e R s m args below meth c n0 Q kc ks k n h pc ls (.int u :: st) :=
  W.lift (fun T t H S => XS.i2b H C.1 rfl (C.a d) rfl (by subst hz; exact S)) K
theorem W.i2b (C : Cx p s m meth c Z y bytes ml ret) {u : Int32} (d : decode bytes pc = .ok (.i2b, 1)) (K : W p l e R s m args below meth c n0 Q kc ks k n h (pc + 1) ls (.int (u.toInt8.toInt32) :: st)) : W p l e R s m args below meth c n0 Q kc ks k n h pc ls (.int u :: st) :=
  W.lift (fun T t H S => XS.i2b H C.1 rfl (C.a d) rfl S) K
theorem W.i2cV (C : Cx p s m meth c Z y bytes ml ret) {u : Int32} (z : Int32) (d : decode bytes pc = .ok (.i2c, 1)) (hz : (u.toUInt32.toUInt16.toUInt32.toInt32) = z) (K : W p l e R s m args below meth c n0 Q kc ks k n h (pc + 1) ls (.int z :: st)) : W p l e R s m args below meth c n0 Q kc ks k n h pc ls (.int u :: st) :=
  W.lift (fun T t H S => XS.i2c H C.1 rfl (C.a d) rfl (by subst hz; exact S)) K
theorem W.i2c (C : Cx p s m meth c Z y bytes ml ret) {u : Int32} (d : decode bytes pc = .ok (.i2c, 1)) (K : W p l e R s m args below meth c n0 Q kc ks k n h (pc + 1) ls (.int (u.toUInt32.toUInt16.toUInt32.toInt32) :: st)) : W p l e R s m args below meth c n0 Q kc ks k n h pc ls (.int u :: st) :=
  W.lift (fun T t H S => XS.i2c H C.1 rfl (C.a d) rfl S) K
theorem W.i2sV (C : Cx p s m meth c Z y bytes ml ret) {u : Int32} (z : Int32) (d : decode bytes pc = .ok (.i2s, 1)) (hz : (u.toInt16.toInt32) = z) (K : W p l e R s m args below meth c n0 Q kc ks k n h (pc + 1) ls (.int z :: st)) : W p l e R s m args below meth c n0 Q kc ks k n h pc ls (.int u :: st) :=
  W.lift (fun T t H S => XS.i2s H C.1 rfl (C.a d) rfl (by subst hz; exact S)) K
theorem W.i2s (C : Cx p s m meth c Z y bytes ml ret) {u : Int32} (d : decode bytes pc = .ok (.i2s, 1)) (K : W p l e R s m args below meth c n0 Q kc ks k n h (pc + 1) ls (.int (u.toInt16.toInt32) :: st)) : W p l e R s m args below meth c n0 Q kc ks k n h pc ls (.int u :: st) :=
  W.lift (fun T t H S => XS.i2s H C.1 rfl (C.a d) rfl S) K
theorem W.i2lV (C : Cx p s m meth c Z y bytes ml ret) {u : Int32} (z : Int64) (d : decode bytes pc = .ok (.i2l, 1)) (hz : u.toInt64 = z) (K : W p l e R s m args below meth c n0 Q kc ks k n h (pc + 1) ls (.long z :: st)) : W p l e R s m args below meth c n0 Q kc ks k n h pc ls (.int u :: st) :=
  W.lift (fun T t H S => XS.i2l H C.1 rfl (C.a d) rfl (by subst hz; exact S)) K
theorem W.i2l (C : Cx p s m meth c Z y bytes ml ret) {u : Int32} (d : decode bytes pc = .ok (.i2l, 1)) (K : W p l e R s m args below meth c n0 Q kc ks k n h (pc + 1) ls (.long u.toInt64 :: st)) : W p l e R s m args below meth c n0 Q kc ks k n h pc ls (.int u :: st) :=
  W.lift (fun T t H S => XS.i2l H C.1 rfl (C.a d) rfl S) K
theorem W.l2iV (C : Cx p s m meth c Z y bytes ml ret) {u : Int64} (z : Int32) (d : decode bytes pc = .ok (.l2i, 1)) (hz : u.toInt32 = z) (K : W p l e R s m args below meth c n0 Q kc ks k n h (pc + 1) ls (.int z :: st)) : W p l e R s m args below meth c n0 Q kc ks k n h pc ls (.long u :: st) :=
  W.lift (fun T t H S => XS.l2i H C.1 rfl (C.a d) rfl (by subst hz; exact S)) K
theorem W.l2i (C : Cx p s m meth c Z y bytes ml ret) {u : Int64} (d : decode bytes pc = .ok (.l2i, 1)) (K : W p l e R s m args below meth c n0 Q kc ks k n h (pc + 1) ls (.int u.toInt32 :: st)) : W p l e R s m args below meth c n0 Q kc ks k n h pc ls (.long u :: st) :=
  W.lift (fun T t H S => XS.l2i H C.1 rfl (C.a d) rfl S) K
theorem W.lnegV (C : Cx p s m meth c Z y bytes ml ret) {u : Int64} (z : Int64) (d : decode bytes pc = .ok (.lneg, 1)) (hz : (-u) = z) (K : W p l e R s m args below meth c n0 Q kc ks k n h (pc + 1) ls (.long z :: st)) : W p l e R s m args below meth c n0 Q kc ks k n h pc ls (.long u :: st) :=
  W.lift (fun T t H S => XS.lneg H C.1 rfl (C.a d) rfl (by subst hz; exact S)) K
theorem W.lneg (C : Cx p s m meth c Z y bytes ml ret) {u : Int64} (d : decode bytes pc = .ok (.lneg, 1)) (K : W p l e R s m args below meth c n0 Q kc ks k n h (pc + 1) ls (.long (-u) :: st)) : W p l e R s m args below meth c n0 Q kc ks k n h pc ls (.long u :: st) :=
  W.lift (fun T t H S => XS.lneg H C.1 rfl (C.a d) rfl S) K
theorem W.lcmpV (C : Cx p s m meth c Z y bytes ml ret) {u v : Int64} (z : Int32) (d : decode bytes pc = .ok (.lcmp, 1)) (hz : (lcmpW u v) = z) (K : W p l e R s m args below meth c n0 Q kc ks k n h (pc + 1) ls (.int z :: st)) : W p l e R s m args below meth c n0 Q kc ks k n h pc ls (.long v :: .long u :: st) :=
  W.lift (fun T t H S => XS.lcmp H C.1 rfl (C.a d) rfl (by subst hz; exact S)) K
theorem W.lcmp (C : Cx p s m meth c Z y bytes ml ret) {u v : Int64} (d : decode bytes pc = .ok (.lcmp, 1)) (K : W p l e R s m args below meth c n0 Q kc ks k n h (pc + 1) ls (.int (lcmpW u v) :: st)) : W p l e R s m args below meth c n0 Q kc ks k n h pc ls (.long v :: .long u :: st) :=
  W.lift (fun T t H S => XS.lcmp H C.1 rfl (C.a d) rfl S) K
theorem W.pop (C : Cx p s m meth c Z y bytes ml ret) {u : Value} (d : decode bytes pc = .ok (.pop, 1)) (hc : u.category = 1) (K : W p l e R s m args below meth c n0 Q kc ks k n h (pc + 1) ls (st)) : W p l e R s m args below meth c n0 Q kc ks k n h pc ls (u :: st) :=
  W.lift (fun T t H S => XS.pop H C.1 rfl (C.a d) rfl hc S) K
theorem W.dup (C : Cx p s m meth c Z y bytes ml ret) {u : Value} (d : decode bytes pc = .ok (.dup, 1)) (hc : u.category = 1) (K : W p l e R s m args below meth c n0 Q kc ks k n h (pc + 1) ls (u :: u :: st)) : W p l e R s m args below meth c n0 Q kc ks k n h pc ls (u :: st) :=
  W.lift (fun T t H S => XS.dup H C.1 rfl (C.a d) rfl hc S) K
theorem W.dupX1 (C : Cx p s m meth c Z y bytes ml ret) {u v : Value} (d : decode bytes pc = .ok (.dup_x1, 1)) (hc : u.category = 1) (hc' : v.category = 1) (K : W p l e R s m args below meth c n0 Q kc ks k n h (pc + 1) ls (u :: v :: u :: st)) : W p l e R s m args below meth c n0 Q kc ks k n h pc ls (u :: v :: st) :=
  W.lift (fun T t H S => XT.dupX1 H C.1 rfl (C.a d) rfl hc hc' S) K
theorem W.dup2 (C : Cx p s m meth c Z y bytes ml ret) {u v : Value} (d : decode bytes pc = .ok (.dup2, 1)) (hc : u.category = 1) (hc' : v.category = 1) (K : W p l e R s m args below meth c n0 Q kc ks k n h (pc + 1) ls (u :: v :: u :: v :: st)) : W p l e R s m args below meth c n0 Q kc ks k n h pc ls (u :: v :: st) :=
  W.lift (fun T t H S => XT.dup2 H C.1 rfl (C.a d) rfl hc hc' S) K
theorem W.dup2L (C : Cx p s m meth c Z y bytes ml ret) {u : Int64} (d : decode bytes pc = .ok (.dup2, 1)) (K : W p l e R s m args below meth c n0 Q kc ks k n h (pc + 1) ls (.long u :: .long u :: st)) : W p l e R s m args below meth c n0 Q kc ks k n h pc ls (.long u :: st) :=
  W.lift (fun T t H S => XT.dup2L H C.1 rfl (C.a d) rfl S) K
theorem W.aconstNull (C : Cx p s m meth c Z y bytes ml ret)  (d : decode bytes pc = .ok (.aconst_null, 1)) (K : W p l e R s m args below meth c n0 Q kc ks k n h (pc + 1) ls (.null :: st)) : W p l e R s m args below meth c n0 Q kc ks k n h pc ls (st) :=
  W.lift (fun T t H S => XS.aconstNull H C.1 rfl (C.a d)  S) K
theorem W.iconst (C : Cx p s m meth c Z y bytes ml ret) {i : Int} (v : Int32) (d : decode bytes pc = .ok (.iconst i, 1)) (hv : Int32.ofInt i = v) (K : W p l e R s m args below meth c n0 Q kc ks k n h (pc + 1) ls (.int v :: st)) : W p l e R s m args below meth c n0 Q kc ks k n h pc ls st :=
  W.lift (fun T t H S => XS.iconst H C.1 rfl (C.a d) (by rw [hv]; exact S)) K
theorem W.bipush (C : Cx p s m meth c Z y bytes ml ret) {i : Int} (v : Int32) (d : decode bytes pc = .ok (.bipush i, 2)) (hv : (Int8.ofInt i).toInt32 = v) (K : W p l e R s m args below meth c n0 Q kc ks k n h (pc + 2) ls (.int v :: st)) : W p l e R s m args below meth c n0 Q kc ks k n h pc ls st :=
  W.lift (fun T t H S => XS.bipush H C.1 rfl (C.a d) (by rw [hv]; exact S)) K
theorem W.sipush (C : Cx p s m meth c Z y bytes ml ret) {i : Int} (v : Int32) (d : decode bytes pc = .ok (.sipush i, 3)) (hv : (Int16.ofInt i).toInt32 = v) (K : W p l e R s m args below meth c n0 Q kc ks k n h (pc + 3) ls (.int v :: st)) : W p l e R s m args below meth c n0 Q kc ks k n h pc ls st :=
  W.lift (fun T t H S => XS.sipush H C.1 rfl (C.a d) (by rw [hv]; exact S)) K
theorem W.lconst (C : Cx p s m meth c Z y bytes ml ret) {i : Fin 2} (v : Int64) (d : decode bytes pc = .ok (.lconst i, 1)) (hv : Int64.ofNat i = v) (K : W p l e R s m args below meth c n0 Q kc ks k n h (pc + 1) ls (.long v :: st)) : W p l e R s m args below meth c n0 Q kc ks k n h pc ls st :=
  W.lift (fun T t H S => XS.lconst H C.1 rfl (C.a d) (by rw [hv]; exact S)) K
theorem W.iloadN (C : Cx p s m meth c Z y bytes ml ret) {i : Fin 4} {v : Int32} (d : decode bytes pc = .ok (.iload_n i, 1)) (hl : ls[i.val]? = some (.val (.int v))) (K : W p l e R s m args below meth c n0 Q kc ks k n h (pc + 1) ls (.int v :: st)) : W p l e R s m args below meth c n0 Q kc ks k n h pc ls st :=
  W.lift (fun T t H S => XS.iloadN H C.1 rfl (C.a d) hl S) K
theorem W.iload (C : Cx p s m meth c Z y bytes ml ret) {i : Nat} {v : Int32} (d : decode bytes pc = .ok (.iload i, 2)) (hl : ls[i]? = some (.val (.int v))) (K : W p l e R s m args below meth c n0 Q kc ks k n h (pc + 2) ls (.int v :: st)) : W p l e R s m args below meth c n0 Q kc ks k n h pc ls st :=
  W.lift (fun T t H S => XS.iload H C.1 rfl (C.a d) hl S) K
theorem W.istoreN (C : Cx p s m meth c Z y bytes ml ret) {i : Fin 4} {v : Int32} (l' : Array Slot) (d : decode bytes pc = .ok (.istore_n i, 1)) (hl : storeLocals ls i.val (.int v) = some l') (K : W p l e R s m args below meth c n0 Q kc ks k n h (pc + 1) l' st) : W p l e R s m args below meth c n0 Q kc ks k n h pc ls (.int v :: st) :=
  W.lift (fun T t H S => XS.istoreN H C.1 rfl (C.a d) rfl hl S) K
theorem W.istore (C : Cx p s m meth c Z y bytes ml ret) {i : Nat} {v : Int32} (l' : Array Slot) (d : decode bytes pc = .ok (.istore i, 2)) (hl : storeLocals ls i (.int v) = some l') (K : W p l e R s m args below meth c n0 Q kc ks k n h (pc + 2) l' st) : W p l e R s m args below meth c n0 Q kc ks k n h pc ls (.int v :: st) :=
  W.lift (fun T t H S => XS.istore H C.1 rfl (C.a d) rfl hl S) K
theorem W.lloadN (C : Cx p s m meth c Z y bytes ml ret) {i : Fin 4} {v : Int64} (d : decode bytes pc = .ok (.lload_n i, 1)) (hl : ls[i.val]? = some (.val (.long v))) (K : W p l e R s m args below meth c n0 Q kc ks k n h (pc + 1) ls (.long v :: st)) : W p l e R s m args below meth c n0 Q kc ks k n h pc ls st :=
  W.lift (fun T t H S => XS.lloadN H C.1 rfl (C.a d) hl S) K
theorem W.lload (C : Cx p s m meth c Z y bytes ml ret) {i : Nat} {v : Int64} (d : decode bytes pc = .ok (.lload i, 2)) (hl : ls[i]? = some (.val (.long v))) (K : W p l e R s m args below meth c n0 Q kc ks k n h (pc + 2) ls (.long v :: st)) : W p l e R s m args below meth c n0 Q kc ks k n h pc ls st :=
  W.lift (fun T t H S => XS.lload H C.1 rfl (C.a d) hl S) K
theorem W.lstoreN (C : Cx p s m meth c Z y bytes ml ret) {i : Fin 4} {v : Int64} (l' : Array Slot) (d : decode bytes pc = .ok (.lstore_n i, 1)) (hl : storeLocals ls i.val (.long v) = some l') (K : W p l e R s m args below meth c n0 Q kc ks k n h (pc + 1) l' st) : W p l e R s m args below meth c n0 Q kc ks k n h pc ls (.long v :: st) :=
  W.lift (fun T t H S => XS.lstoreN H C.1 rfl (C.a d) rfl hl S) K
theorem W.lstore (C : Cx p s m meth c Z y bytes ml ret) {i : Nat} {v : Int64} (l' : Array Slot) (d : decode bytes pc = .ok (.lstore i, 2)) (hl : storeLocals ls i (.long v) = some l') (K : W p l e R s m args below meth c n0 Q kc ks k n h (pc + 2) l' st) : W p l e R s m args below meth c n0 Q kc ks k n h pc ls (.long v :: st) :=
  W.lift (fun T t H S => XS.lstore H C.1 rfl (C.a d) rfl hl S) K
theorem W.aloadN (C : Cx p s m meth c Z y bytes ml ret) {i : Fin 4} {v : Value} (d : decode bytes pc = .ok (.aload_n i, 1)) (hl : ls[i.val]? = some (.val v)) (hv : v.isRef = true) (K : W p l e R s m args below meth c n0 Q kc ks k n h (pc + 1) ls (v :: st)) : W p l e R s m args below meth c n0 Q kc ks k n h pc ls st :=
  W.lift (fun T t H S => XS.aloadN H C.1 rfl (C.a d) hl hv S) K
theorem W.aload (C : Cx p s m meth c Z y bytes ml ret) {i : Nat} {v : Value} (d : decode bytes pc = .ok (.aload i, 2)) (hl : ls[i]? = some (.val v)) (hv : v.isRef = true) (K : W p l e R s m args below meth c n0 Q kc ks k n h (pc + 2) ls (v :: st)) : W p l e R s m args below meth c n0 Q kc ks k n h pc ls st :=
  W.lift (fun T t H S => XS.aload H C.1 rfl (C.a d) hl hv S) K
theorem W.astoreN (C : Cx p s m meth c Z y bytes ml ret) {i : Fin 4} {v : Value} (l' : Array Slot) (d : decode bytes pc = .ok (.astore_n i, 1)) (hv : v.isRef = true) (hl : storeLocals ls i.val v = some l') (K : W p l e R s m args below meth c n0 Q kc ks k n h (pc + 1) l' st) : W p l e R s m args below meth c n0 Q kc ks k n h pc ls (v :: st) :=
  W.lift (fun T t H S => XS.astoreN H C.1 rfl (C.a d) rfl hv hl S) K
theorem W.astore (C : Cx p s m meth c Z y bytes ml ret) {i : Nat} {v : Value} (l' : Array Slot) (d : decode bytes pc = .ok (.astore i, 2)) (hv : v.isRef = true) (hl : storeLocals ls i v = some l') (K : W p l e R s m args below meth c n0 Q kc ks k n h (pc + 2) l' st) : W p l e R s m args below meth c n0 Q kc ks k n h pc ls (v :: st) :=
  W.lift (fun T t H S => XS.astore H C.1 rfl (C.a d) rfl hv hl S) K
theorem W.istoreO (C : Cx p s m meth c Z y bytes ml ret) {i : Nat} {v : Int32} {o : Slot} (l' : Array Slot) (d : decode bytes pc = .ok (.istore i, 2)) (hold : ls[i]? = some o) (ho : One o) (hl : ls.setIfInBounds i (.val (.int v)) = l') (K : W p l e R s m args below meth c n0 Q kc ks k n h (pc + 2) l' st) : W p l e R s m args below meth c n0 Q kc ks k n h pc ls (.int v :: st) :=
  W.lift (fun T t H S => XS.istoreS H C.1 rfl (C.a d) rfl hold ho (by rw [hl]; exact S)) K
theorem W.istoreNO (C : Cx p s m meth c Z y bytes ml ret) {i : Fin 4} {v : Int32} {o : Slot} (l' : Array Slot) (d : decode bytes pc = .ok (.istore_n i, 1)) (hold : ls[i.val]? = some o) (ho : One o) (hl : ls.setIfInBounds i.val (.val (.int v)) = l') (K : W p l e R s m args below meth c n0 Q kc ks k n h (pc + 1) l' st) : W p l e R s m args below meth c n0 Q kc ks k n h pc ls (.int v :: st) :=
  W.lift (fun T t H S => XS.istoreNS H C.1 rfl (C.a d) rfl hold ho (by rw [hl]; exact S)) K
theorem W.iinc (C : Cx p s m meth c Z y bytes ml ret) {i : Nat} {cst : Int} {u : Int32} (v : Int32) (l' : Array Slot) (d : decode bytes pc = .ok (.iinc i cst, 3)) (hl : ls[i]? = some (.val (.int u))) (hv : u + Int32.ofInt cst = v) (hl' : storeLocals ls i (.int v) = some l') (K : W p l e R s m args below meth c n0 Q kc ks k n h (pc + 3) l' st) : W p l e R s m args below meth c n0 Q kc ks k n h pc ls st :=
  W.lift (fun T t H S => XS.iinc H C.1 rfl (C.a d) hl (by rw [hv]; exact hl') S) K
theorem jmp {pc pc' : Nat} {o : Int} (hp : (pc : Int) + o = pc') : 0 ≤ (pc : Int) + o ∧ ((pc : Int) + o).toNat = pc' := by omega
theorem W.goto (C : Cx p s m meth c Z y bytes ml ret) {o : Int} (pc' : Nat) (d : decode bytes pc = .ok (.goto o, 3)) (hp : (pc : Int) + o = pc') (K : W p l e R s m args below meth c n0 Q kc ks k n h pc' ls st) : W p l e R s m args below meth c n0 Q kc ks k n h pc ls st :=
  W.lift (fun T t H S => XS.goto H C.1 rfl (pc0 := pc) (pc' := pc') rfl (C.a d) (jmp hp).1 (jmp hp).2 S) K
theorem W.icmp_eq (C : Cx p s m meth c Z y bytes ml ret) {u v : Int32} {o : Int} (pc' : Nat) (d : decode bytes pc = .ok (.if_icmp .eq o, 3)) (hp : (pc : Int) + o = pc') (yes : u = v → W p l e R s m args below meth c n0 Q kc ks k n h pc' ls st) (no : ¬ u = v → W p l e R s m args below meth c n0 Q kc ks k n h (pc + 3) ls st) : W p l e R s m args below meth c n0 Q kc ks k n h pc ls (.int v :: .int u :: st) := by
  by_cases b : u = v
  · exact W.lift (fun T t H S => XS.icmpYes H C.1 rfl (pc0 := pc) (pc' := pc') rfl (C.a d) rfl (XT.ii_eq_t b) (jmp hp).1 (jmp hp).2 S) (yes b)
  · exact W.lift (fun T t H S => XS.icmpNo H C.1 rfl (C.a d) rfl (XT.ii_eq_f b) S) (no b)
theorem W.if_eq (C : Cx p s m meth c Z y bytes ml ret) {u : Int32} {o : Int} (pc' : Nat) (d : decode bytes pc = .ok (.ifCond .eq o, 3)) (hp : (pc : Int) + o = pc') (yes : u = 0 → W p l e R s m args below meth c n0 Q kc ks k n h pc' ls st) (no : ¬ u = 0 → W p l e R s m args below meth c n0 Q kc ks k n h (pc + 3) ls st) : W p l e R s m args below meth c n0 Q kc ks k n h pc ls (.int u :: st) := by
  by_cases b : u = 0
  · exact W.lift (fun T t H S => XS.ifYes H C.1 rfl (pc0 := pc) (pc' := pc') rfl (C.a d) rfl (XT.i0_eq_t b) (jmp hp).1 (jmp hp).2 S) (yes b)
  · exact W.lift (fun T t H S => XS.ifNo H C.1 rfl (C.a d) rfl (XT.i0_eq_f b) S) (no b)
theorem ll_eq_t {u v : Int64} (b : u = v) : ifCond.holds .eq (lcmpW u v) = true := XT.ll_eq_t b
theorem ll_eq_f {u v : Int64} (b : ¬ u = v) : ifCond.holds .eq (lcmpW u v) = false := XT.ll_eq_f b
theorem W.lif_eq (C : Cx p s m meth c Z y bytes ml ret) {u v : Int64} {o : Int} (pc' : Nat) (d : decode bytes pc = .ok (.ifCond .eq o, 3)) (hp : (pc : Int) + o = pc') (yes : u = v → W p l e R s m args below meth c n0 Q kc ks k n h pc' ls st) (no : ¬ u = v → W p l e R s m args below meth c n0 Q kc ks k n h (pc + 3) ls st) : W p l e R s m args below meth c n0 Q kc ks k n h pc ls (.int (lcmpW u v) :: st) := by
  by_cases b : u = v
  · exact W.lift (fun T t H S => XS.ifYes H C.1 rfl (pc0 := pc) (pc' := pc') rfl (C.a d) rfl (ll_eq_t b) (jmp hp).1 (jmp hp).2 S) (yes b)
  · exact W.lift (fun T t H S => XS.ifNo H C.1 rfl (C.a d) rfl (ll_eq_f b) S) (no b)
theorem W.icmp_ne (C : Cx p s m meth c Z y bytes ml ret) {u v : Int32} {o : Int} (pc' : Nat) (d : decode bytes pc = .ok (.if_icmp .ne o, 3)) (hp : (pc : Int) + o = pc') (yes : ¬ u = v → W p l e R s m args below meth c n0 Q kc ks k n h pc' ls st) (no : u = v → W p l e R s m args below meth c n0 Q kc ks k n h (pc + 3) ls st) : W p l e R s m args below meth c n0 Q kc ks k n h pc ls (.int v :: .int u :: st) := by
  by_cases b : u = v
  · exact W.lift (fun T t H S => XS.icmpNo H C.1 rfl (C.a d) rfl (XT.ii_ne_f b) S) (no b)
  · exact W.lift (fun T t H S => XS.icmpYes H C.1 rfl (pc0 := pc) (pc' := pc') rfl (C.a d) rfl (XT.ii_ne_t b) (jmp hp).1 (jmp hp).2 S) (yes b)
theorem W.if_ne (C : Cx p s m meth c Z y bytes ml ret) {u : Int32} {o : Int} (pc' : Nat) (d : decode bytes pc = .ok (.ifCond .ne o, 3)) (hp : (pc : Int) + o = pc') (yes : ¬ u = 0 → W p l e R s m args below meth c n0 Q kc ks k n h pc' ls st) (no : u = 0 → W p l e R s m args below meth c n0 Q kc ks k n h (pc + 3) ls st) : W p l e R s m args below meth c n0 Q kc ks k n h pc ls (.int u :: st) := by
  by_cases b : u = 0
  · exact W.lift (fun T t H S => XS.ifNo H C.1 rfl (C.a d) rfl (XT.i0_ne_f b) S) (no b)
  · exact W.lift (fun T t H S => XS.ifYes H C.1 rfl (pc0 := pc) (pc' := pc') rfl (C.a d) rfl (XT.i0_ne_t b) (jmp hp).1 (jmp hp).2 S) (yes b)
theorem ll_ne_t {u v : Int64} (b : ¬ u = v) : ifCond.holds .ne (lcmpW u v) = true := XT.ll_ne_t b
theorem ll_ne_f {u v : Int64} (b : u = v) : ifCond.holds .ne (lcmpW u v) = false := XT.ll_ne_f b
theorem W.lif_ne (C : Cx p s m meth c Z y bytes ml ret) {u v : Int64} {o : Int} (pc' : Nat) (d : decode bytes pc = .ok (.ifCond .ne o, 3)) (hp : (pc : Int) + o = pc') (yes : ¬ u = v → W p l e R s m args below meth c n0 Q kc ks k n h pc' ls st) (no : u = v → W p l e R s m args below meth c n0 Q kc ks k n h (pc + 3) ls st) : W p l e R s m args below meth c n0 Q kc ks k n h pc ls (.int (lcmpW u v) :: st) := by
  by_cases b : u = v
  · exact W.lift (fun T t H S => XS.ifNo H C.1 rfl (C.a d) rfl (ll_ne_f b) S) (no b)
  · exact W.lift (fun T t H S => XS.ifYes H C.1 rfl (pc0 := pc) (pc' := pc') rfl (C.a d) rfl (ll_ne_t b) (jmp hp).1 (jmp hp).2 S) (yes b)
theorem W.icmp_lt (C : Cx p s m meth c Z y bytes ml ret) {u v : Int32} {o : Int} (pc' : Nat) (d : decode bytes pc = .ok (.if_icmp .lt o, 3)) (hp : (pc : Int) + o = pc') (yes : u < v → W p l e R s m args below meth c n0 Q kc ks k n h pc' ls st) (no : ¬ u < v → W p l e R s m args below meth c n0 Q kc ks k n h (pc + 3) ls st) : W p l e R s m args below meth c n0 Q kc ks k n h pc ls (.int v :: .int u :: st) := by
  by_cases b : u < v
  · exact W.lift (fun T t H S => XS.icmpYes H C.1 rfl (pc0 := pc) (pc' := pc') rfl (C.a d) rfl (XT.ii_lt_t b) (jmp hp).1 (jmp hp).2 S) (yes b)
  · exact W.lift (fun T t H S => XS.icmpNo H C.1 rfl (C.a d) rfl (XT.ii_lt_f b) S) (no b)
theorem W.if_lt (C : Cx p s m meth c Z y bytes ml ret) {u : Int32} {o : Int} (pc' : Nat) (d : decode bytes pc = .ok (.ifCond .lt o, 3)) (hp : (pc : Int) + o = pc') (yes : u < 0 → W p l e R s m args below meth c n0 Q kc ks k n h pc' ls st) (no : ¬ u < 0 → W p l e R s m args below meth c n0 Q kc ks k n h (pc + 3) ls st) : W p l e R s m args below meth c n0 Q kc ks k n h pc ls (.int u :: st) := by
  by_cases b : u < 0
  · exact W.lift (fun T t H S => XS.ifYes H C.1 rfl (pc0 := pc) (pc' := pc') rfl (C.a d) rfl (XT.i0_lt_t b) (jmp hp).1 (jmp hp).2 S) (yes b)
  · exact W.lift (fun T t H S => XS.ifNo H C.1 rfl (C.a d) rfl (XT.i0_lt_f b) S) (no b)
theorem ll_lt_t {u v : Int64} (b : u < v) : ifCond.holds .lt (lcmpW u v) = true := XT.ll_lt_t b
theorem ll_lt_f {u v : Int64} (b : ¬ u < v) : ifCond.holds .lt (lcmpW u v) = false := XT.ll_lt_f b
theorem W.lif_lt (C : Cx p s m meth c Z y bytes ml ret) {u v : Int64} {o : Int} (pc' : Nat) (d : decode bytes pc = .ok (.ifCond .lt o, 3)) (hp : (pc : Int) + o = pc') (yes : u < v → W p l e R s m args below meth c n0 Q kc ks k n h pc' ls st) (no : ¬ u < v → W p l e R s m args below meth c n0 Q kc ks k n h (pc + 3) ls st) : W p l e R s m args below meth c n0 Q kc ks k n h pc ls (.int (lcmpW u v) :: st) := by
  by_cases b : u < v
  · exact W.lift (fun T t H S => XS.ifYes H C.1 rfl (pc0 := pc) (pc' := pc') rfl (C.a d) rfl (ll_lt_t b) (jmp hp).1 (jmp hp).2 S) (yes b)
  · exact W.lift (fun T t H S => XS.ifNo H C.1 rfl (C.a d) rfl (ll_lt_f b) S) (no b)
theorem W.icmp_ge (C : Cx p s m meth c Z y bytes ml ret) {u v : Int32} {o : Int} (pc' : Nat) (d : decode bytes pc = .ok (.if_icmp .ge o, 3)) (hp : (pc : Int) + o = pc') (yes : ¬ u < v → W p l e R s m args below meth c n0 Q kc ks k n h pc' ls st) (no : u < v → W p l e R s m args below meth c n0 Q kc ks k n h (pc + 3) ls st) : W p l e R s m args below meth c n0 Q kc ks k n h pc ls (.int v :: .int u :: st) := by
  by_cases b : u < v
  · exact W.lift (fun T t H S => XS.icmpNo H C.1 rfl (C.a d) rfl (XT.ii_ge_f b) S) (no b)
  · exact W.lift (fun T t H S => XS.icmpYes H C.1 rfl (pc0 := pc) (pc' := pc') rfl (C.a d) rfl (XT.ii_ge_t b) (jmp hp).1 (jmp hp).2 S) (yes b)
theorem W.if_ge (C : Cx p s m meth c Z y bytes ml ret) {u : Int32} {o : Int} (pc' : Nat) (d : decode bytes pc = .ok (.ifCond .ge o, 3)) (hp : (pc : Int) + o = pc') (yes : ¬ u < 0 → W p l e R s m args below meth c n0 Q kc ks k n h pc' ls st) (no : u < 0 → W p l e R s m args below meth c n0 Q kc ks k n h (pc + 3) ls st) : W p l e R s m args below meth c n0 Q kc ks k n h pc ls (.int u :: st) := by
  by_cases b : u < 0
  · exact W.lift (fun T t H S => XS.ifNo H C.1 rfl (C.a d) rfl (XT.i0_ge_f b) S) (no b)
  · exact W.lift (fun T t H S => XS.ifYes H C.1 rfl (pc0 := pc) (pc' := pc') rfl (C.a d) rfl (XT.i0_ge_t b) (jmp hp).1 (jmp hp).2 S) (yes b)
theorem ll_ge_t {u v : Int64} (b : ¬ u < v) : ifCond.holds .ge (lcmpW u v) = true := XT.ll_ge_t b
theorem ll_ge_f {u v : Int64} (b : u < v) : ifCond.holds .ge (lcmpW u v) = false := XT.ll_ge_f b
theorem W.lif_ge (C : Cx p s m meth c Z y bytes ml ret) {u v : Int64} {o : Int} (pc' : Nat) (d : decode bytes pc = .ok (.ifCond .ge o, 3)) (hp : (pc : Int) + o = pc') (yes : ¬ u < v → W p l e R s m args below meth c n0 Q kc ks k n h pc' ls st) (no : u < v → W p l e R s m args below meth c n0 Q kc ks k n h (pc + 3) ls st) : W p l e R s m args below meth c n0 Q kc ks k n h pc ls (.int (lcmpW u v) :: st) := by
  by_cases b : u < v
  · exact W.lift (fun T t H S => XS.ifNo H C.1 rfl (C.a d) rfl (ll_ge_f b) S) (no b)
  · exact W.lift (fun T t H S => XS.ifYes H C.1 rfl (pc0 := pc) (pc' := pc') rfl (C.a d) rfl (ll_ge_t b) (jmp hp).1 (jmp hp).2 S) (yes b)
theorem W.icmp_gt (C : Cx p s m meth c Z y bytes ml ret) {u v : Int32} {o : Int} (pc' : Nat) (d : decode bytes pc = .ok (.if_icmp .gt o, 3)) (hp : (pc : Int) + o = pc') (yes : v < u → W p l e R s m args below meth c n0 Q kc ks k n h pc' ls st) (no : ¬ v < u → W p l e R s m args below meth c n0 Q kc ks k n h (pc + 3) ls st) : W p l e R s m args below meth c n0 Q kc ks k n h pc ls (.int v :: .int u :: st) := by
  by_cases b : v < u
  · exact W.lift (fun T t H S => XS.icmpYes H C.1 rfl (pc0 := pc) (pc' := pc') rfl (C.a d) rfl (XT.ii_gt_t b) (jmp hp).1 (jmp hp).2 S) (yes b)
  · exact W.lift (fun T t H S => XS.icmpNo H C.1 rfl (C.a d) rfl (XT.ii_gt_f b) S) (no b)
theorem W.if_gt (C : Cx p s m meth c Z y bytes ml ret) {u : Int32} {o : Int} (pc' : Nat) (d : decode bytes pc = .ok (.ifCond .gt o, 3)) (hp : (pc : Int) + o = pc') (yes : 0 < u → W p l e R s m args below meth c n0 Q kc ks k n h pc' ls st) (no : ¬ 0 < u → W p l e R s m args below meth c n0 Q kc ks k n h (pc + 3) ls st) : W p l e R s m args below meth c n0 Q kc ks k n h pc ls (.int u :: st) := by
  by_cases b : 0 < u
  · exact W.lift (fun T t H S => XS.ifYes H C.1 rfl (pc0 := pc) (pc' := pc') rfl (C.a d) rfl (XT.i0_gt_t b) (jmp hp).1 (jmp hp).2 S) (yes b)
  · exact W.lift (fun T t H S => XS.ifNo H C.1 rfl (C.a d) rfl (XT.i0_gt_f b) S) (no b)
theorem ll_gt_t {u v : Int64} (b : v < u) : ifCond.holds .gt (lcmpW u v) = true := XT.ll_gt_t b
theorem ll_gt_f {u v : Int64} (b : ¬ v < u) : ifCond.holds .gt (lcmpW u v) = false := XT.ll_gt_f b
theorem W.lif_gt (C : Cx p s m meth c Z y bytes ml ret) {u v : Int64} {o : Int} (pc' : Nat) (d : decode bytes pc = .ok (.ifCond .gt o, 3)) (hp : (pc : Int) + o = pc') (yes : v < u → W p l e R s m args below meth c n0 Q kc ks k n h pc' ls st) (no : ¬ v < u → W p l e R s m args below meth c n0 Q kc ks k n h (pc + 3) ls st) : W p l e R s m args below meth c n0 Q kc ks k n h pc ls (.int (lcmpW u v) :: st) := by
  by_cases b : v < u
  · exact W.lift (fun T t H S => XS.ifYes H C.1 rfl (pc0 := pc) (pc' := pc') rfl (C.a d) rfl (ll_gt_t b) (jmp hp).1 (jmp hp).2 S) (yes b)
  · exact W.lift (fun T t H S => XS.ifNo H C.1 rfl (C.a d) rfl (ll_gt_f b) S) (no b)
theorem W.icmp_le (C : Cx p s m meth c Z y bytes ml ret) {u v : Int32} {o : Int} (pc' : Nat) (d : decode bytes pc = .ok (.if_icmp .le o, 3)) (hp : (pc : Int) + o = pc') (yes : ¬ v < u → W p l e R s m args below meth c n0 Q kc ks k n h pc' ls st) (no : v < u → W p l e R s m args below meth c n0 Q kc ks k n h (pc + 3) ls st) : W p l e R s m args below meth c n0 Q kc ks k n h pc ls (.int v :: .int u :: st) := by
  by_cases b : v < u
  · exact W.lift (fun T t H S => XS.icmpNo H C.1 rfl (C.a d) rfl (XT.ii_le_f b) S) (no b)
  · exact W.lift (fun T t H S => XS.icmpYes H C.1 rfl (pc0 := pc) (pc' := pc') rfl (C.a d) rfl (XT.ii_le_t b) (jmp hp).1 (jmp hp).2 S) (yes b)
theorem W.if_le (C : Cx p s m meth c Z y bytes ml ret) {u : Int32} {o : Int} (pc' : Nat) (d : decode bytes pc = .ok (.ifCond .le o, 3)) (hp : (pc : Int) + o = pc') (yes : ¬ 0 < u → W p l e R s m args below meth c n0 Q kc ks k n h pc' ls st) (no : 0 < u → W p l e R s m args below meth c n0 Q kc ks k n h (pc + 3) ls st) : W p l e R s m args below meth c n0 Q kc ks k n h pc ls (.int u :: st) := by
  by_cases b : 0 < u
  · exact W.lift (fun T t H S => XS.ifNo H C.1 rfl (C.a d) rfl (XT.i0_le_f b) S) (no b)
  · exact W.lift (fun T t H S => XS.ifYes H C.1 rfl (pc0 := pc) (pc' := pc') rfl (C.a d) rfl (XT.i0_le_t b) (jmp hp).1 (jmp hp).2 S) (yes b)
theorem ll_le_t {u v : Int64} (b : ¬ v < u) : ifCond.holds .le (lcmpW u v) = true := XT.ll_le_t b
theorem ll_le_f {u v : Int64} (b : v < u) : ifCond.holds .le (lcmpW u v) = false := XT.ll_le_f b
theorem W.lif_le (C : Cx p s m meth c Z y bytes ml ret) {u v : Int64} {o : Int} (pc' : Nat) (d : decode bytes pc = .ok (.ifCond .le o, 3)) (hp : (pc : Int) + o = pc') (yes : ¬ v < u → W p l e R s m args below meth c n0 Q kc ks k n h pc' ls st) (no : v < u → W p l e R s m args below meth c n0 Q kc ks k n h (pc + 3) ls st) : W p l e R s m args below meth c n0 Q kc ks k n h pc ls (.int (lcmpW u v) :: st) := by
  by_cases b : v < u
  · exact W.lift (fun T t H S => XS.ifNo H C.1 rfl (C.a d) rfl (ll_le_f b) S) (no b)
  · exact W.lift (fun T t H S => XS.ifYes H C.1 rfl (pc0 := pc) (pc' := pc') rfl (C.a d) rfl (ll_le_t b) (jmp hp).1 (jmp hp).2 S) (yes b)
theorem W.ifnullNo (C : Cx p s m meth c Z y bytes ml ret) {b : Addr} {o : Int} (d : decode bytes pc = .ok (.ifnull o, 3)) (K : W p l e R s m args below meth c n0 Q kc ks k n h (pc + 3) ls st) : W p l e R s m args below meth c n0 Q kc ks k n h pc ls (.ref b :: st) :=
  W.lift (fun T t H S => XS.ifnullNo H C.1 rfl (C.a d) rfl S) K
theorem W.ifnullYes (C : Cx p s m meth c Z y bytes ml ret) {o : Int} (pc' : Nat) (d : decode bytes pc = .ok (.ifnull o, 3)) (hp : (pc : Int) + o = pc') (K : W p l e R s m args below meth c n0 Q kc ks k n h pc' ls st) : W p l e R s m args below meth c n0 Q kc ks k n h pc ls (.null :: st) :=
  W.lift (fun T t H S => XS.ifnullYes H C.1 rfl (pc0 := pc) (pc' := pc') rfl (C.a d) rfl (jmp hp).1 (jmp hp).2 S) K
theorem W.ifnonnullYes (C : Cx p s m meth c Z y bytes ml ret) {b : Addr} {o : Int} (pc' : Nat) (d : decode bytes pc = .ok (.ifnonnull o, 3)) (hp : (pc : Int) + o = pc') (K : W p l e R s m args below meth c n0 Q kc ks k n h pc' ls st) : W p l e R s m args below meth c n0 Q kc ks k n h pc ls (.ref b :: st) :=
  W.lift (fun T t H S => XT.ifnonnullYes H C.1 rfl (pc0 := pc) (pc' := pc') rfl (C.a d) rfl (jmp hp).1 (jmp hp).2 S) K
theorem W.ifnonnullNo (C : Cx p s m meth c Z y bytes ml ret) {o : Int} (d : decode bytes pc = .ok (.ifnonnull o, 3)) (K : W p l e R s m args below meth c n0 Q kc ks k n h (pc + 3) ls st) : W p l e R s m args below meth c n0 Q kc ks k n h pc ls (.null :: st) :=
  W.lift (fun T t H S => XT.ifnonnullNo H C.1 rfl (C.a d) rfl S) K
theorem W.acmp_eq (C : Cx p s m meth c Z y bytes ml ret) {u v : Value} {o : Int} (pc' : Nat) (d : decode bytes pc = .ok (.if_acmp .eq o, 3)) (hu : u.isRef = true) (hv : v.isRef = true) (hp : (pc : Int) + o = pc') (yes : u = v → W p l e R s m args below meth c n0 Q kc ks k n h pc' ls st) (no : ¬ u = v → W p l e R s m args below meth c n0 Q kc ks k n h (pc + 3) ls st) : W p l e R s m args below meth c n0 Q kc ks k n h pc ls (v :: u :: st) := by
  by_cases b : u = v
  · exact W.lift (fun T t H S => XT.acmpYes H C.1 rfl (pc0 := pc) (pc' := pc') rfl (C.a d) rfl hu hv (XT.aa_eq_t b) (jmp hp).1 (jmp hp).2 S) (yes b)
  · exact W.lift (fun T t H S => XT.acmpNo H C.1 rfl (C.a d) rfl hu hv (XT.aa_eq_f b) S) (no b)
theorem W.acmp_ne (C : Cx p s m meth c Z y bytes ml ret) {u v : Value} {o : Int} (pc' : Nat) (d : decode bytes pc = .ok (.if_acmp .ne o, 3)) (hu : u.isRef = true) (hv : v.isRef = true) (hp : (pc : Int) + o = pc') (yes : ¬ u = v → W p l e R s m args below meth c n0 Q kc ks k n h pc' ls st) (no : u = v → W p l e R s m args below meth c n0 Q kc ks k n h (pc + 3) ls st) : W p l e R s m args below meth c n0 Q kc ks k n h pc ls (v :: u :: st) := by
  by_cases b : u = v
  · exact W.lift (fun T t H S => XT.acmpNo H C.1 rfl (C.a d) rfl hu hv (XT.aa_ne_f b) S) (no b)
  · exact W.lift (fun T t H S => XT.acmpYes H C.1 rfl (pc0 := pc) (pc' := pc') rfl (C.a d) rfl hu hv (XT.aa_ne_t b) (jmp hp).1 (jmp hp).2 S) (yes b)
theorem W.ldcI (C : Cx p s m meth c Z y bytes ml ret) {i : Nat} {v : Int32} (d : decode bytes pc = .ok (.ldc i, 2)) (w : (Jvm.Cond.constant y.cls i v).before a0 Z = true) (K : W p l e R s m args below meth c n0 Q kc ks k n h (pc + 2) ls (.int v :: st)) : W p l e R s m args below meth c n0 Q kc ks k n h pc ls st := fun T locs X eT N => by
  obtain ⟨s₂, o, h1, h2⟩ := K T locs X eT N
  exact ⟨s₂, o, X.ldcI C.1 C.2.2.1 (mvT C.2.1 w) rfl (C.a d) h1, h2⟩
theorem W.ldcWI (C : Cx p s m meth c Z y bytes ml ret) {i : Nat} {v : Int32} (d : decode bytes pc = .ok (.ldc_w i, 3)) (w : (Jvm.Cond.constant y.cls i v).before a0 Z = true) (K : W p l e R s m args below meth c n0 Q kc ks k n h (pc + 3) ls (.int v :: st)) : W p l e R s m args below meth c n0 Q kc ks k n h pc ls st := fun T locs X eT N => by
  obtain ⟨s₂, o, h1, h2⟩ := K T locs X eT N
  exact ⟨s₂, o, X.ldcWI C.1 C.2.2.1 (mvT C.2.1 w) rfl (C.a d) h1, h2⟩
theorem W.ldc2J (C : Cx p s m meth c Z y bytes ml ret) {i : Nat} {v : Int64} (d : decode bytes pc = .ok (.ldc2_w i, 3)) (w : (Jvm.Cond.constantLong y.cls i v).before a0 Z = true) (K : W p l e R s m args below meth c n0 Q kc ks k n h (pc + 3) ls (.long v :: st)) : W p l e R s m args below meth c n0 Q kc ks k n h pc ls st := fun T locs X eT N => by
  obtain ⟨s₂, o, h1, h2⟩ := K T locs X eT N
  exact ⟨s₂, o, X.ldc2J C.1 C.2.2.1 (mvT C.2.1 w) rfl (C.a d) h1, h2⟩
theorem W.iret {t : FieldType} {z : Int32} (C : Cx p s m meth c Z y bytes ml (some t)) (d : decode bytes pc = .ok (.ireturn, 1)) (ht : t = .int ∨ t = .boolean ∨ t = .byte ∨ t = .char ∨ t = .short) (hn : narrow t (.int z) = .int z) (hk : k ≤ kc) (hs : n ≤ ks) (q : Q (some (.int z)) h) : W p l e R s m args below meth c n0 Q kc ks k n h pc ls (.int z :: st) := fun T locs X eT N => by
  obtain ⟨fs, hr, hrun, hended, hW, hsame⟩ := X.leave (v := some (.int z)) (fun q => by rw [C.2.2.2.2.2.1] at q; cases q) C.2.2.2.2.2.2.1
  exact ⟨_, _, retOut X C.1 C.2.2.2.2.2.1 hn (Or.inl ⟨rfl, ht, z, rfl⟩) (C.a d) hr, hrun, hended, _, _, rfl, ⟨by subst eT; exact q, N⟩, ⟨_, rfl⟩, hW, hsame.mono hk hs⟩
theorem W.lret {t : FieldType} {z : Int64} (C : Cx p s m meth c Z y bytes ml (some t)) (d : decode bytes pc = .ok (.lreturn, 1)) (ht : t = .long) (hn : narrow t (.long z) = .long z) (hk : k ≤ kc) (hs : n ≤ ks) (q : Q (some (.long z)) h) : W p l e R s m args below meth c n0 Q kc ks k n h pc ls (.long z :: st) := fun T locs X eT N => by
  obtain ⟨fs, hr, hrun, hended, hW, hsame⟩ := X.leave (v := some (.long z)) (fun q => by rw [C.2.2.2.2.2.1] at q; cases q) C.2.2.2.2.2.2.1
  exact ⟨_, _, retOut X C.1 C.2.2.2.2.2.1 hn (Or.inr (Or.inl ⟨rfl, ht, z, rfl⟩)) (C.a d) hr, hrun, hended, _, _, rfl, ⟨by subst eT; exact q, N⟩, ⟨_, rfl⟩, hW, hsame.mono hk hs⟩
theorem W.aret {t : FieldType} {z : Value} (C : Cx p s m meth c Z y bytes ml (some t)) (d : decode bytes pc = .ok (.areturn, 1)) (ht : t.isReference = true) (hz : z.isRef = true) (hn : narrow t (z) = z) (hk : k ≤ kc) (hs : n ≤ ks) (q : Q (some (z)) h) : W p l e R s m args below meth c n0 Q kc ks k n h pc ls (z :: st) := fun T locs X eT N => by
  obtain ⟨fs, hr, hrun, hended, hW, hsame⟩ := X.leave (v := some (z)) (fun q => by rw [C.2.2.2.2.2.1] at q; cases q) C.2.2.2.2.2.2.1
  exact ⟨_, _, retOut X C.1 C.2.2.2.2.2.1 hn (Or.inr (Or.inr (Or.inr (Or.inr ⟨rfl, ht, hz⟩)))) (C.a d) hr, hrun, hended, _, _, rfl, ⟨by subst eT; exact q, N⟩, ⟨_, rfl⟩, hW, hsame.mono hk hs⟩
theorem W.retV (C : Cx p s m meth c Z y bytes ml none) (d : decode bytes pc = .ok (.return_, 1)) (hk : k ≤ kc) (hs : n ≤ ks) (q : Q none h) : W p l e R s m args below meth c n0 Q kc ks k n h pc ls [] := fun T locs X eT N => by
  obtain ⟨fs, hr, hrun, hended, hW, hsame⟩ := X.leave (v := none) (fun _ => rfl) C.2.2.2.2.2.2.1
  exact ⟨_, _, X.returnOut C.1 C.2.2.2.2.2.1 (C.a d) hr, hrun, hended, _, _, rfl, ⟨by subst eT; exact q, N⟩, ⟨_, rfl⟩, hW, hsame.mono hk hs⟩
theorem W.callS (C : Cx p s m meth c Z y bytes ml ret) {y' : MethodName} {index : Nat} {bytes' : ByteArray} {ml' : Nat} {ret' : Option FieldType} {rm : Room} {Q' : Option Value → Heap → Prop} (d : decode bytes pc = .ok (.invokestatic index, 3)) (w1 : (Jvm.Cond.methodLink y.cls index y').before a0 Z = true) (w2 : (Jvm.Cond.static y').before a0 Z = true) (w3 : (Jvm.Cond.initialized y'.cls).before a0 Z = true) (w4 : (Jvm.Cond.code y' bytes' ml' ret').before a0 Z = true) (hy : y'.cls ≠ "java/lang/invoke/MethodHandle" ∧ y'.cls ≠ "java/lang/invoke/VarHandle")
    {argsL rest : List Value} (hst : st = argsL.reverse ++ rest) (hlen : ∀ sig, parseMethodDescriptor y'.desc = some sig → argsL.length = sig.parameters.length) (D : Con l Z y' bytes' ml' ret' rm argsL.toArray h n0 Q') (w k' n' : Nat) (hW : (rest.map fun v => v.category).sum = w) (hk : k + rm.cells = k') (hn : n + rm.slots = n') (hf : rm.frames + 1 ≤ R.frames) (hl : w + (ml' + 11) + rm.locals ≤ R.locals) (hc : k' ≤ R.cells) (hs : n' ≤ R.slots) (hsz : ls.size = ml)
    (K : ∀ v h', Q' v h' → W p l e R s m args below meth c n0 Q kc ks k' n' h' (pc + 3) ls (v.toList ++ rest)) : W p l e R s m args below meth c n0 Q kc ks k n h pc ls st := fun T locs X eT N => by
  obtain ⟨_, _, ⟨T1, L1, k1, n1⟩, -, X1, ⟨Lc1, hQ1, l1, y1, z1⟩, st1⟩ := Jvm.LawKit.callS X C.1 (y := y') C.2.2.1 (mvT C.2.1 w1) (mvT C.2.1 w2) (mvT C.2.1 w3) (mvT C.2.1 w4) hy (backOf (W := w) (Q := fun v h' L => Q' v h' ∧ Fr n0 L) (D []) C.2.1 w4 w3 hf hl) (g := mkF m pc ls st) rfl (hsz.trans C.2.2.2.2.1.symm) (argsL := argsL) (rest := rest) hlen hst (by show 2 * 0 + _ ≤ _; omega) (C.a d) (fun _ _ => ⟨rfl, eT, by rw [hk]; exact hc, by rw [hn]; exact hs⟩)
  dsimp only [Pt.U, Pt.locs, Pt.cells, Pt.slots] at X1 l1 y1 z1 st1 hQ1
  subst l1
  rw [hk] at y1
  rw [hn] at z1
  subst y1 z1
  obtain ⟨s₂, o, g1, g2⟩ := K _ _ hQ1.1 T1 _ X1 rfl (Fr.app N hQ1.2)
  exact ⟨s₂, o, st1 _ g1, g2⟩
theorem W.callI (C : Cx p s m meth c Z y bytes ml ret) {y' : MethodName} {index : Nat} {bytes' : ByteArray} {ml' : Nat} {rm : Room} {Q' : Option Value → Heap → Prop} (d : decode bytes pc = .ok (.invokespecial index, 3)) (hi : y'.name = "<init>") (w1 : (Jvm.Cond.methodLink y.cls index y').before a0 Z = true) (w2 : (Jvm.Cond.instanceMethod y').before a0 Z = true) (w3 : (Jvm.Cond.initialized y'.cls).before a0 Z = true) (w4 : (Jvm.Cond.code y' bytes' ml' none).before a0 Z = true) (hy : y'.cls ≠ "java/lang/invoke/MethodHandle" ∧ y'.cls ≠ "java/lang/invoke/VarHandle")
    {a : Addr} {argsL rest : List Value} (hst : st = argsL.reverse ++ .ref a :: rest) (hlen : ∀ sig, parseMethodDescriptor y'.desc = some sig → argsL.length = sig.parameters.length) (D : Con l Z y' bytes' ml' none rm (.ref a :: argsL).toArray h n0 Q') (w k' n' : Nat) (hW : (rest.map fun v => v.category).sum = w) (hk : k + rm.cells = k') (hn : n + rm.slots = n') (hf : rm.frames + 1 ≤ R.frames) (hl : w + (ml' + 11) + rm.locals ≤ R.locals) (hc : k' ≤ R.cells) (hs : n' ≤ R.slots) (hsz : ls.size = ml)
    (K : ∀ v h', Q' v h' → W p l e R s m args below meth c n0 Q kc ks k' n' h' (pc + 3) ls (v.toList ++ rest)) : W p l e R s m args below meth c n0 Q kc ks k n h pc ls st := fun T locs X eT N => by
  obtain ⟨_, _, ⟨T1, L1, k1, n1⟩, -, X1, ⟨Lc1, hQ1, l1, y1, z1⟩, st1⟩ := X.specialBack C.1 (y := y') hi C.2.2.1 (mvT C.2.1 w1) (mvT C.2.1 w2) (mvT C.2.1 w4) hy (backOf (W := w) (Q := fun v h' L => Q' v h' ∧ Fr n0 L) (D []) C.2.1 w4 w3 hf hl) (g := mkF m pc ls st) rfl (hsz.trans C.2.2.2.2.1.symm) (Steps.refl _) (a := a) (argsL := argsL) (rest := rest) hlen hst (by show 2 * 0 + _ ≤ _; omega) (C.a d) (fun _ _ => ⟨rfl, eT, by rw [hk]; exact hc, by rw [hn]; exact hs⟩)
  dsimp only [Pt.U, Pt.locs, Pt.cells, Pt.slots] at X1 l1 y1 z1 st1 hQ1
  subst l1
  rw [hk] at y1
  rw [hn] at z1
  subst y1 z1
  obtain ⟨s₂, o, g1, g2⟩ := K _ _ hQ1.1 T1 _ X1 rfl (Fr.app N hQ1.2)
  exact ⟨s₂, o, st1.trans g1, g2⟩
theorem W.callV (C : Cx p s m meth c Z y bytes ml ret) {y' : MethodName} {K0 : String} {index : Nat} {bytes' : ByteArray} {ml' : Nat} {ret' : Option FieldType} {rm : Room} {Q' : Option Value → Heap → Prop} (d : decode bytes pc = .ok (.invokevirtual index, 3)) (w1 : (Jvm.Cond.methodLink y.cls index y').before a0 Z = true) (w2 : (Jvm.Cond.declares y').before a0 Z = true) (w5 : (Jvm.Cond.selects K0 y' y').before a0 Z = true) (w6 : (Jvm.Cond.instanceMethod y').before a0 Z = true) (w3 : (Jvm.Cond.initialized y'.cls).before a0 Z = true) (w4 : (Jvm.Cond.code y' bytes' ml' ret').before a0 Z = true) (hy : y'.cls ≠ "java/lang/invoke/MethodHandle" ∧ y'.cls ≠ "java/lang/invoke/VarHandle")
    {a : Addr} (E : Exa Z h a K0) {argsL rest : List Value} (hst : st = argsL.reverse ++ .ref a :: rest) (hlen : ∀ sig, parseMethodDescriptor y'.desc = some sig → argsL.length = sig.parameters.length) (D : Con l Z y' bytes' ml' ret' rm (.ref a :: argsL).toArray h n0 Q') (w k' n' : Nat) (hW : (rest.map fun v => v.category).sum = w) (hk : k + rm.cells = k') (hn : n + rm.slots = n') (hf : rm.frames + 1 ≤ R.frames) (hl : w + (ml' + 11) + rm.locals ≤ R.locals) (hc : k' ≤ R.cells) (hs : n' ≤ R.slots) (hsz : ls.size = ml)
    (K : ∀ v h', Q' v h' → W p l e R s m args below meth c n0 Q kc ks k' n' h' (pc + 3) ls (v.toList ++ rest)) : W p l e R s m args below meth c n0 Q kc ks k n h pc ls st := fun T locs X eT N => by
  obtain ⟨cq, kq, qa, qb, qc⟩ := isOf C.2.1 eT E
  obtain ⟨_, _, ⟨T1, L1, k1, n1⟩, -, X1, ⟨Lc1, hQ1, l1, y1, z1⟩, st1⟩ := X.virtualBack C.1 (y := y') (z := y') C.2.2.1 (mvT C.2.1 w1) (mvT C.2.1 w2) (notFace_of_selects (args := #[]) (mvT C.2.1 w5)) (mvT C.2.1 w5) (mvT C.2.1 w6) hy (backOf (W := w) (Q := fun v h' L => Q' v h' ∧ Fr n0 L) (D []) C.2.1 w4 w3 hf hl) qa qc (g := mkF m pc ls st) rfl (hsz.trans C.2.2.2.2.1.symm) (Steps.refl _) (argsL := argsL) (rest := rest) hlen hst (by show 2 * 0 + _ ≤ _; omega) (C.a d) (fun _ _ => ⟨rfl, eT, by rw [hk]; exact hc, by rw [hn]; exact hs⟩)
  dsimp only [Pt.U, Pt.locs, Pt.cells, Pt.slots] at X1 l1 y1 z1 st1 hQ1
  subst l1
  rw [hk] at y1
  rw [hn] at z1
  subst y1 z1
  obtain ⟨s₂, o, g1, g2⟩ := K _ _ hQ1.1 T1 _ X1 rfl (Fr.app N hQ1.2)
  exact ⟨s₂, o, st1.trans g1, g2⟩
theorem W.initO (C : Cx p s m meth c Z y bytes ml ret) {index : Nat} (d : decode bytes pc = .ok (.invokespecial index, 3)) (w1 : (Jvm.Cond.methodLink y.cls index Lib.objectInit).before a0 Z = true) (w2 : (Jvm.Cond.instanceMethod Lib.objectInit).before a0 Z = true) (w3 : (Jvm.Cond.code Lib.objectInit ⟨#[0xb1]⟩ 1 none).before a0 Z = true)
    {a : Addr} (w : Nat) (hW : (st.map fun v => v.category).sum = w) (hf : 1 ≤ R.frames) (hl : w + 12 ≤ R.locals) (hsz : ls.size = ml) (K : W p l e R s m args below meth c n0 Q kc ks k n h (pc + 3) ls st) : W p l e R s m args below meth c n0 Q kc ks k n h pc ls (.ref a :: st) := fun T locs X eT N => by
  obtain ⟨T1, X1, e1, st1⟩ := Jvm.RoadKit.initO X C.1 C.2.1 C.2.2.1 w1 w2 w3 eT (g := mkF m pc ls (.ref a :: st)) rfl (hsz.trans C.2.2.2.2.1.symm) rfl (C.a d) hf (W := w) (by show 2 * 0 + _ ≤ _; omega) hl
  obtain ⟨s₂, o, g1, g2⟩ := K T1 _ X1 e1 N
  exact ⟨s₂, o, st1 _ g1, g2⟩
theorem W.new (C : Cx p s m meth c Z y bytes ml ret) {index sz : Nat} {K0 : String} (d : decode bytes pc = .ok (.new index, 3)) (w1 : (Jvm.Cond.classLink y.cls index K0).before a0 Z = true) (w2 : (Jvm.Cond.instantiable K0 sz).before a0 Z = true) (w3 : (Jvm.Cond.initialized K0).before a0 Z = true) (k' n' : Nat) (hk : k + 1 = k') (hn : n + sz = n') (hc : k' ≤ R.cells) (hs : n' ≤ R.slots)
    (K : ∀ a h', a = h.size → Ext h h' → Exa Z h' a K0 → (∀ {O nm d : String} {ty : FieldType}, Laid Z a0 K0 O nm d → parseFieldDescriptor d = some ty → Fld Z h' a O nm d (defaultValue ty)) → W p l e R s m args below meth c n0 Q kc ks k' n' h' (pc + 3) ls (.ref a :: st)) : W p l e R s m args below meth c n0 Q kc ks k n h pc ls st := fun T locs X eT N => by
  subst hk hn
  obtain ⟨T1, h1, X1, e1, E1, A1, D1, -, st1⟩ := newO X C.1 C.2.1 C.2.2.1 w1 w2 w3 eT (g := mkF m pc ls st) rfl (C.a d) hc hs
  obtain ⟨s₂, o, g1, g2⟩ := K _ h1 rfl E1 A1 D1 T1 _ X1 e1 N
  exact ⟨s₂, o, st1 _ g1, g2⟩
theorem W.getF (C : Cx p s m meth c Z y bytes ml ret) {index : Nat} {R0 O nm dd : String} (d : decode bytes pc = .ok (.getfield index, 3)) (w : (Jvm.Cond.fieldLink y.cls index R0 nm dd).before a0 Z = true) (via : Via Z R0 O nm dd) {a : Addr} {v : Value} (F : Fld Z h a O nm dd v) (K : W p l e R s m args below meth c n0 Q kc ks k n h (pc + 3) ls (v :: st)) : W p l e R s m args below meth c n0 Q kc ks k n h pc ls (.ref a :: st) := fun T locs X eT N => by
  obtain ⟨T1, X1, e1, st1⟩ := Jvm.RoadKit.getF X C.1 C.2.1 C.2.2.1 (host := "") (Or.inl w) via eT F (g := mkF m pc ls (.ref a :: st)) rfl rfl (C.a d)
  obtain ⟨s₂, o, g1, g2⟩ := K T1 _ X1 e1 N
  exact ⟨s₂, o, st1 _ g1, g2⟩
theorem W.getFN (C : Cx p s m meth c Z y bytes ml ret) {index : Nat} {R0 O nm dd host : String} (d : decode bytes pc = .ok (.getfield index, 3)) (w : (Jvm.Cond.fieldLinkNest y.cls index R0 nm dd host).before a0 Z = true) (via : Via Z R0 O nm dd) {a : Addr} {v : Value} (F : Fld Z h a O nm dd v) (K : W p l e R s m args below meth c n0 Q kc ks k n h (pc + 3) ls (v :: st)) : W p l e R s m args below meth c n0 Q kc ks k n h pc ls (.ref a :: st) := fun T locs X eT N => by
  obtain ⟨T1, X1, e1, st1⟩ := Jvm.RoadKit.getF X C.1 C.2.1 C.2.2.1 (host := host) (Or.inr w) via eT F (g := mkF m pc ls (.ref a :: st)) rfl rfl (C.a d)
  obtain ⟨s₂, o, g1, g2⟩ := K T1 _ X1 e1 N
  exact ⟨s₂, o, st1 _ g1, g2⟩
theorem W.getS (C : Cx p s m meth c Z y bytes ml ret) {index : Nat} {R0 O nm dd : String} (d : decode bytes pc = .ok (.getstatic index, 3)) (w : (Jvm.Cond.fieldLink y.cls index R0 nm dd).before a0 Z = true) (via : Via Z R0 O nm dd) {v : Value} (F : Sta Z h O nm dd v) (K : W p l e R s m args below meth c n0 Q kc ks k n h (pc + 3) ls (v :: st)) : W p l e R s m args below meth c n0 Q kc ks k n h pc ls st := fun T locs X eT N => by
  obtain ⟨T1, X1, e1, st1⟩ := Jvm.RoadKit.getS X C.1 C.2.1 (host := "") C.2.2.1 w via eT F (g := mkF m pc ls st) rfl (C.a d)
  obtain ⟨s₂, o, g1, g2⟩ := K T1 _ X1 e1 N
  exact ⟨s₂, o, st1 _ g1, g2⟩
theorem W.putF (C : Cx p s m meth c Z y bytes ml ret) {index kk : Nat} {R0 O nm dd K0 : String} {ty : FieldType} (d : decode bytes pc = .ok (.putfield index, 3)) (w : (Jvm.Cond.fieldLink y.cls index R0 nm dd).before a0 Z = true) (via : Via Z R0 O nm dd) {a : Addr} {v old : Value} (F : Fld Z h a O nm dd old) (E : Exa Z h a K0) (L : (Jvm.Cond.lays K0 O nm dd).before a0 Z = true ∨ ((Jvm.Cond.laysFinal K0 O nm dd).before a0 Z = true ∧ y.cls = O ∧ y.name = "<init>")) (wi : (Jvm.Cond.instantiable K0 kk).before a0 Z = true)
    (hty : parseFieldDescriptor dd = some ty) (hn : narrow ty v = v) (hf : fits ty v = true) (g : n0 ≤ a) (K : ∀ h', Wr h h' a (Jvm.RoadKit.slotOf Z O nm dd) v → W p l e R s m args below meth c n0 Q kc ks k n h' (pc + 3) ls st) : W p l e R s m args below meth c n0 Q kc ks k n h pc ls (v :: .ref a :: st) := fun T locs X eT N => by
  obtain ⟨T1, h1, X1, e1, W1, st1⟩ := Jvm.RoadKit.putF X C.1 C.2.1 C.2.2.1 (host := "") (Or.inl w) via eT F E (L.imp id fun q => ⟨q.1, q.2.1, C.2.2.2.2.2.2.2.trans q.2.2⟩) wi hty hn hf (g := mkF m pc ls (v :: .ref a :: st)) rfl rfl (C.a d)
  obtain ⟨s₂, o, g1, g2⟩ := K h1 W1 T1 _ X1 e1 (Fr.snoc X1 N g)
  exact ⟨s₂, o, st1 _ g1, g2⟩
/-- an array at a of component type ty that holds vs -/
def Al (Z : State) (h : Heap) (a : Addr) (ty : FieldType) (vs : List Value) : Prop := ∃ c : Cell, Arr Z h a c ty ∧ c.slots = vs.toArray
theorem Al.lt {a : Addr} {ty : FieldType} {vs : List Value} (F : Al Z h a ty vs) : a < h.size := by obtain ⟨c, A, -⟩ := F; exact A.lt
theorem Al.ext {a : Addr} {ty : FieldType} {vs : List Value} {h' : Heap} (F : Al Z h a ty vs) (E : Ext h h') : Al Z h' a ty vs := by obtain ⟨c, A, r⟩ := F; exact ⟨c, A.ext E, r⟩
theorem Al.other {a b : Addr} {ty : FieldType} {vs : List Value} {h' : Heap} {sl : Nat} {v : Value} (F : Al Z h b ty vs) (U : Wr h h' a sl v) (q : b ≠ a) : Al Z h' b ty vs := by obtain ⟨c, A, r⟩ := F; exact ⟨c, A.other U q, r⟩
theorem Al.keep {a : Addr} {ty : FieldType} {vs : List Value} {h' : Heap} {ws : List Addr} (F : Al Z h a ty vs) (K : Keep h h' ws) (q : a ∉ ws) : Al Z h' a ty vs := by obtain ⟨c, A, r⟩ := F; exact ⟨c, ⟨K.2.1 a c A.1 q, A.2⟩, r⟩
theorem Al.set {a : Addr} {ty : FieldType} {vs : List Value} {h' : Heap} {i : Nat} {v : Value} (F : Al Z h a ty vs) (U : Wr h h' a i v) : Al Z h' a ty (vs.set i v) := by
  obtain ⟨c, A, r⟩ := F
  refine ⟨_, A.same U, ?_⟩
  simp [Cell.setSlot, r]
theorem idx_of {j : Int32} {i : Nat} (hi : j.toInt = (i : Int)) : ¬ j < 0 ∧ j.toNatClampNeg = i := by
  refine ⟨fun q => ?_, ?_⟩
  · rw [Int32.lt_iff_toInt_lt] at q
    have : (0 : Int32).toInt = 0 := rfl
    omega
  · show j.toInt.toNat = i
    omega
theorem inb_of_idx {j : Int32} {i : Nat} {cl : Cell} {vs : List Value} (hi : j.toInt = (i : Int)) (r : cl.slots = vs.toArray) (hb : i < vs.length) : ¬ (j < 0 ∨ cl.slots.size ≤ j.toNatClampNeg) := by
  obtain ⟨q1, q2⟩ := idx_of hi
  rw [q2, r]
  simp only [List.size_toArray]
  rintro (z | z)
  · exact q1 z
  · omega
theorem W.arrlen (C : Cx p s m meth c Z y bytes ml ret) {a : Addr} {ty : FieldType} {vs : List Value} (z : Int32) (d : decode bytes pc = .ok (.arraylength, 1)) (A : Al Z h a ty vs) (hz : vs.length.toInt32 = z) (K : W p l e R s m args below meth c n0 Q kc ks k n h (pc + 1) ls (.int z :: st)) : W p l e R s m args below meth c n0 Q kc ks k n h pc ls (.ref a :: st) := fun T locs X eT N => by
  obtain ⟨cl, A, r⟩ := A
  obtain ⟨s₂, o, g1, g2⟩ := K T locs X eT N
  refine ⟨s₂, o, X.arraylength C.1 (by rw [eT]; exact A.1) (State.isArrayOf_alike C.2.1.alike A.2.1) (g := mkF m pc ls (.ref a :: st)) rfl rfl (C.a d) _ ?_, g2⟩
  have : cl.slots.size.toInt32 = z := by rw [r]; simpa using hz
  rw [this]; exact g1
theorem W.iaload (C : Cx p s m meth c Z y bytes ml ret) {a : Addr} {vs : List Value} {j : Int32} (i : Nat) {v : Value} (d : decode bytes pc = .ok (.iaload, 1)) (A : Al Z h a .int vs) (hi : j.toInt = (i : Int)) (hv : vs[i]? = some v) (K : W p l e R s m args below meth c n0 Q kc ks k n h (pc + 1) ls (v :: st)) : W p l e R s m args below meth c n0 Q kc ks k n h pc ls (.int j :: .ref a :: st) := fun T locs X eT N => by
  obtain ⟨cl, A, r⟩ := A
  obtain ⟨s₂, o, g1, g2⟩ := K T locs X eT N
  have hb : i < vs.length := (List.getElem?_eq_some_iff.mp hv).1
  exact ⟨s₂, o, X.iaload C.1 (j := j) (v := v) (by rw [eT]; exact A.1) (State.isArrayOf_alike C.2.1.alike A.2.1) A.2.2 (inb_of_idx hi r hb) (by rw [(idx_of hi).2, r]; simpa using hv) (g := mkF m pc ls (.int j :: .ref a :: st)) rfl rfl (C.a d) _ g1, g2⟩
theorem W.laload (C : Cx p s m meth c Z y bytes ml ret) {a : Addr} {vs : List Value} {j : Int32} (i : Nat) {v : Value} (d : decode bytes pc = .ok (.laload, 1)) (A : Al Z h a .long vs) (hi : j.toInt = (i : Int)) (hv : vs[i]? = some v) (K : W p l e R s m args below meth c n0 Q kc ks k n h (pc + 1) ls (v :: st)) : W p l e R s m args below meth c n0 Q kc ks k n h pc ls (.int j :: .ref a :: st) := fun T locs X eT N => by
  obtain ⟨cl, A, r⟩ := A
  obtain ⟨s₂, o, g1, g2⟩ := K T locs X eT N
  have hb : i < vs.length := (List.getElem?_eq_some_iff.mp hv).1
  exact ⟨s₂, o, X.laload C.1 (j := j) (v := v) (by rw [eT]; exact A.1) (State.isArrayOf_alike C.2.1.alike A.2.1) A.2.2 (inb_of_idx hi r hb) (by rw [(idx_of hi).2, r]; simpa using hv) (g := mkF m pc ls (.int j :: .ref a :: st)) rfl rfl (C.a d) _ g1, g2⟩
theorem W.baload (C : Cx p s m meth c Z y bytes ml ret) {a : Addr} {vs : List Value} {j : Int32} (i : Nat) {v : Value} (d : decode bytes pc = .ok (.baload, 1)) (A : Al Z h a .byte vs) (hi : j.toInt = (i : Int)) (hv : vs[i]? = some v) (K : W p l e R s m args below meth c n0 Q kc ks k n h (pc + 1) ls (v :: st)) : W p l e R s m args below meth c n0 Q kc ks k n h pc ls (.int j :: .ref a :: st) := fun T locs X eT N => by
  obtain ⟨cl, A, r⟩ := A
  obtain ⟨s₂, o, g1, g2⟩ := K T locs X eT N
  have hb : i < vs.length := (List.getElem?_eq_some_iff.mp hv).1
  exact ⟨s₂, o, X.baloadBytes C.1 (j := j) (v := v) (by rw [eT]; exact A.1) (State.isArrayOf_alike C.2.1.alike A.2.1) A.2.2 (inb_of_idx hi r hb) (by rw [(idx_of hi).2, r]; simpa using hv) (g := mkF m pc ls (.int j :: .ref a :: st)) rfl rfl (C.a d) _ g1, g2⟩
theorem W.caload (C : Cx p s m meth c Z y bytes ml ret) {a : Addr} {vs : List Value} {j : Int32} (i : Nat) {v : Value} (d : decode bytes pc = .ok (.caload, 1)) (A : Al Z h a .char vs) (hi : j.toInt = (i : Int)) (hv : vs[i]? = some v) (K : W p l e R s m args below meth c n0 Q kc ks k n h (pc + 1) ls (v :: st)) : W p l e R s m args below meth c n0 Q kc ks k n h pc ls (.int j :: .ref a :: st) := fun T locs X eT N => by
  obtain ⟨cl, A, r⟩ := A
  obtain ⟨s₂, o, g1, g2⟩ := K T locs X eT N
  have hb : i < vs.length := (List.getElem?_eq_some_iff.mp hv).1
  exact ⟨s₂, o, X.caload C.1 (j := j) (v := v) (by rw [eT]; exact A.1) (State.isArrayOf_alike C.2.1.alike A.2.1) A.2.2 (inb_of_idx hi r hb) (by rw [(idx_of hi).2, r]; simpa using hv) (g := mkF m pc ls (.int j :: .ref a :: st)) rfl rfl (C.a d) _ g1, g2⟩
theorem W.zaload (C : Cx p s m meth c Z y bytes ml ret) {a : Addr} {vs : List Value} {j : Int32} (i : Nat) {v : Value} (d : decode bytes pc = .ok (.baload, 1)) (A : Al Z h a .boolean vs) (hi : j.toInt = (i : Int)) (hv : vs[i]? = some v) (K : W p l e R s m args below meth c n0 Q kc ks k n h (pc + 1) ls (v :: st)) : W p l e R s m args below meth c n0 Q kc ks k n h pc ls (.int j :: .ref a :: st) := fun T locs X eT N => by
  obtain ⟨cl, A, r⟩ := A
  obtain ⟨s₂, o, g1, g2⟩ := K T locs X eT N
  have hb : i < vs.length := (List.getElem?_eq_some_iff.mp hv).1
  exact ⟨s₂, o, X.baloadBooleans C.1 (j := j) (v := v) (by rw [eT]; exact A.1) (State.isArrayOf_alike C.2.1.alike A.2.1) A.2.2 (inb_of_idx hi r hb) (by rw [(idx_of hi).2, r]; simpa using hv) (g := mkF m pc ls (.int j :: .ref a :: st)) rfl rfl (C.a d) _ g1, g2⟩
theorem W.aaload (C : Cx p s m meth c Z y bytes ml ret) {a : Addr} {ty : FieldType} {vs : List Value} {j : Int32} (i : Nat) {v : Value} (d : decode bytes pc = .ok (.aaload, 1)) (A : Al Z h a ty vs) (hty : ty.isReference = true) (hi : j.toInt = (i : Int)) (hv : vs[i]? = some v) (K : W p l e R s m args below meth c n0 Q kc ks k n h (pc + 1) ls (v :: st)) : W p l e R s m args below meth c n0 Q kc ks k n h pc ls (.int j :: .ref a :: st) := fun T locs X eT N => by
  obtain ⟨cl, A, r⟩ := A
  obtain ⟨s₂, o, g1, g2⟩ := K T locs X eT N
  have hb : i < vs.length := (List.getElem?_eq_some_iff.mp hv).1
  exact ⟨s₂, o, X.aaload C.1 (j := j) (v := v) (by rw [eT]; exact A.1) (State.isArrayOf_alike C.2.1.alike A.2.1) hty A.2.2 (inb_of_idx hi r hb) (by rw [(idx_of hi).2, r]; simpa using hv) (g := mkF m pc ls (.int j :: .ref a :: st)) rfl rfl (C.a d) _ g1, g2⟩
theorem W.iastore (C : Cx p s m meth c Z y bytes ml ret) {a : Addr} {vs : List Value} {j : Int32} {x : Int32} (i : Nat) (d : decode bytes pc = .ok (.iastore, 1)) (A : Al Z h a .int vs) (hi : j.toInt = (i : Int)) (hb : i < vs.length) (g : n0 ≤ a) (K : ∀ h', Wr h h' a i (.int x) → Al Z h' a .int (vs.set i (.int x)) → W p l e R s m args below meth c n0 Q kc ks k n h' (pc + 1) ls st) : W p l e R s m args below meth c n0 Q kc ks k n h pc ls (.int x :: .int j :: .ref a :: st) := fun T locs X eT N => by
  obtain ⟨cl, A, r⟩ := A
  obtain ⟨T1, h1, X1, e1, W1, st1⟩ := stI X C.1 C.2.1 eT A (j := j) (x := x) (inb_of_idx hi r hb) (g := mkF m pc ls (.int x :: .int j :: .ref a :: st)) rfl rfl (C.a d)
  have N1 := Fr.snoc X1 N g
  rw [(idx_of hi).2] at W1
  obtain ⟨s₂, o, g1, g2⟩ := K h1 W1 (Al.set ⟨cl, A, r⟩ W1) T1 _ X1 e1 N1
  exact ⟨s₂, o, st1 _ g1, g2⟩
theorem W.lastore (C : Cx p s m meth c Z y bytes ml ret) {a : Addr} {vs : List Value} {j : Int32} {x : Int64} (i : Nat) (d : decode bytes pc = .ok (.lastore, 1)) (A : Al Z h a .long vs) (hi : j.toInt = (i : Int)) (hb : i < vs.length) (g : n0 ≤ a) (K : ∀ h', Wr h h' a i (.long x) → Al Z h' a .long (vs.set i (.long x)) → W p l e R s m args below meth c n0 Q kc ks k n h' (pc + 1) ls st) : W p l e R s m args below meth c n0 Q kc ks k n h pc ls (.long x :: .int j :: .ref a :: st) := fun T locs X eT N => by
  obtain ⟨cl, A, r⟩ := A
  obtain ⟨T1, h1, X1, e1, W1, st1⟩ := stJ X C.1 C.2.1 eT A (j := j) (x := x) (inb_of_idx hi r hb) (g := mkF m pc ls (.long x :: .int j :: .ref a :: st)) rfl rfl (C.a d)
  have N1 := Fr.snoc X1 N g
  rw [(idx_of hi).2] at W1
  obtain ⟨s₂, o, g1, g2⟩ := K h1 W1 (Al.set ⟨cl, A, r⟩ W1) T1 _ X1 e1 N1
  exact ⟨s₂, o, st1 _ g1, g2⟩
theorem W.bastore (C : Cx p s m meth c Z y bytes ml ret) {a : Addr} {vs : List Value} {j : Int32} {x : Int32} (i : Nat) (d : decode bytes pc = .ok (.bastore, 1)) (A : Al Z h a .byte vs) (hi : j.toInt = (i : Int)) (hb : i < vs.length) (g : n0 ≤ a) (K : ∀ h', Wr h h' a i (.int x.toInt8.toInt32) → Al Z h' a .byte (vs.set i (.int x.toInt8.toInt32)) → W p l e R s m args below meth c n0 Q kc ks k n h' (pc + 1) ls st) : W p l e R s m args below meth c n0 Q kc ks k n h pc ls (.int x :: .int j :: .ref a :: st) := fun T locs X eT N => by
  obtain ⟨cl, A, r⟩ := A
  obtain ⟨T1, h1, X1, e1, W1, st1⟩ := stB X C.1 C.2.1 eT A (j := j) (x := x) (inb_of_idx hi r hb) (g := mkF m pc ls (.int x :: .int j :: .ref a :: st)) rfl rfl (C.a d)
  have N1 := Fr.snoc X1 N g
  rw [(idx_of hi).2] at W1
  obtain ⟨s₂, o, g1, g2⟩ := K h1 W1 (Al.set ⟨cl, A, r⟩ W1) T1 _ X1 e1 N1
  exact ⟨s₂, o, st1 _ g1, g2⟩
theorem W.castore (C : Cx p s m meth c Z y bytes ml ret) {a : Addr} {vs : List Value} {j : Int32} {x : Int32} (i : Nat) (d : decode bytes pc = .ok (.castore, 1)) (A : Al Z h a .char vs) (hi : j.toInt = (i : Int)) (hb : i < vs.length) (g : n0 ≤ a) (K : ∀ h', Wr h h' a i (.int x.toUInt32.toUInt16.toUInt32.toInt32) → Al Z h' a .char (vs.set i (.int x.toUInt32.toUInt16.toUInt32.toInt32)) → W p l e R s m args below meth c n0 Q kc ks k n h' (pc + 1) ls st) : W p l e R s m args below meth c n0 Q kc ks k n h pc ls (.int x :: .int j :: .ref a :: st) := fun T locs X eT N => by
  obtain ⟨cl, A, r⟩ := A
  obtain ⟨T1, h1, X1, e1, W1, st1⟩ := stC X C.1 C.2.1 eT A (j := j) (x := x) (inb_of_idx hi r hb) (g := mkF m pc ls (.int x :: .int j :: .ref a :: st)) rfl rfl (C.a d)
  have N1 := Fr.snoc X1 N g
  rw [(idx_of hi).2] at W1
  obtain ⟨s₂, o, g1, g2⟩ := K h1 W1 (Al.set ⟨cl, A, r⟩ W1) T1 _ X1 e1 N1
  exact ⟨s₂, o, st1 _ g1, g2⟩
theorem W.zastore (C : Cx p s m meth c Z y bytes ml ret) {a : Addr} {vs : List Value} {j : Int32} {x : Int32} (i : Nat) (d : decode bytes pc = .ok (.bastore, 1)) (A : Al Z h a .boolean vs) (hi : j.toInt = (i : Int)) (hb : i < vs.length) (g : n0 ≤ a) (K : ∀ h', Wr h h' a i (.int (x &&& 1)) → Al Z h' a .boolean (vs.set i (.int (x &&& 1))) → W p l e R s m args below meth c n0 Q kc ks k n h' (pc + 1) ls st) : W p l e R s m args below meth c n0 Q kc ks k n h pc ls (.int x :: .int j :: .ref a :: st) := fun T locs X eT N => by
  obtain ⟨cl, A, r⟩ := A
  obtain ⟨T1, h1, X1, e1, W1, st1⟩ := stZ X C.1 C.2.1 eT A (j := j) (x := x) (inb_of_idx hi r hb) (g := mkF m pc ls (.int x :: .int j :: .ref a :: st)) rfl rfl (C.a d)
  have N1 := Fr.snoc X1 N g
  rw [(idx_of hi).2] at W1
  obtain ⟨s₂, o, g1, g2⟩ := K h1 W1 (Al.set ⟨cl, A, r⟩ W1) T1 _ X1 e1 N1
  exact ⟨s₂, o, st1 _ g1, g2⟩
theorem W.newP (C : Cx p s m meth c Z y bytes ml ret) {aty : ArrayType} {nn : Int32} (sz cap : Nat) (d : decode bytes pc = .ok (.newarray aty, 2)) (w : (Jvm.Cond.arrayClass (newarray.typeOf aty)).before a0 Z = true) (hn : nn.toInt = (sz : Int)) (hcap : sz ≤ cap) (hb : cap * 8 ≤ 536870912) (k' n' : Nat) (hk : k + 1 = k') (hn' : n + cap = n') (hc : k' ≤ R.cells) (hl : n' ≤ R.slots)
    (K : ∀ a h', a = h.size → Ext h h' → Al Z h' a (newarray.typeOf aty) (List.replicate sz (defaultValue (newarray.typeOf aty))) → W p l e R s m args below meth c n0 Q kc ks k' n' h' (pc + 2) ls (.ref a :: st)) : W p l e R s m args below meth c n0 Q kc ks k n h pc ls (.int nn :: st) := fun T locs X eT N => by
  subst hk hn'
  obtain ⟨T1, h1, cA, X1, e1, E1, A1, st1⟩ := Jvm.RoadKit.newP X C.1 C.2.1 w eT (g := mkF m pc ls (.int nn :: st)) rfl (C.a d) rfl (idx_of hn).1 (cap := cap) (by rw [(idx_of hn).2]; exact hcap) hb hc hl
  obtain ⟨s₂, o, g1, g2⟩ := K _ h1 rfl E1 ⟨_, A1, by simp [newA, (idx_of hn).2]⟩ T1 _ X1 e1 N
  exact ⟨s₂, o, st1 _ g1, g2⟩
end
theorem tkw {ts : List Jvm.Cond} {a0 : Array Value} {Z : State} (hw : ∀ d ∈ ts, d.before a0 Z = true) (i : Nat) {d : Jvm.Cond} (q : ts[i]? = some d) : d.before a0 Z = true := hw d (List.mem_of_getElem? q)
end Jvm.OwnKit
namespace Jvm.Pilot.@@N@@
open Jvm Jvm.ClassFile Sem Op Lib Jvm.Free Jvm.Stand Jvm.LawKit Jvm.RoadKit Bundle Jvm.OwnKit Jvm.Pilot.@@N@@.Jvm.D
theorem own_len {bs : List Int32} (h : bs.length ≤ 8) : (bs.length.toInt32).toInt = bs.length := len_toInt (by omega)
theorem own_at {bs : List Int32} {i : Nat} (h : i < bs.length) : (bs.map Value.int)[i]? = some (.int (bs.getD i 0)) := by
  simp [List.getElem?_map, List.getD_eq_getElem?_getD, List.getElem?_eq_getElem h]
theorem own_i8 (x : Int32) : x.toInt8.toInt32.toInt8.toInt32 = x.toInt8.toInt32 := by simp
def own_b (p : Int64) (x : Int32) : Int32 := (((p).toUInt64 >>> (((56 : Int32) - ((8 : Int32) * x)) &&& 0x3f).toInt64.toUInt64).toInt64).toInt32.toInt8.toInt32
theorem own_set {bs : List Int32} {i : Nat} {x : Int32} : (bs.map Value.int).set i (.int x) = (bs.set i x).map Value.int := by simp [List.map_set]
def own_lp : Nat → Nat → Int64 → List Int32 → Int64
  | 0, _, w, _ => w
  | n + 1, i, w, bs => own_lp n (i + 1) ((w <<< ((8 : Int32) &&& 0x3f).toInt64) ||| (if i < bs.length then (bs.getD i 0 &&& 255) else 0).toInt64) bs
theorem own_lp_s (n i : Nat) (w : Int64) (bs : List Int32) : own_lp (n + 1) i w bs = own_lp n (i + 1) ((w <<< ((8 : Int32) &&& 0x3f).toInt64) ||| (if i < bs.length then (bs.getD i 0 &&& 255) else 0).toInt64) bs := rfl
abbrev y1 : MethodName := ⟨"rollfind/WordOfPinLaw", "put", "([BIJ)V"⟩
theorem d1_0 : decode method_3_code 0 = .ok (.iload_n 1, 1) := by decide +kernel
theorem d1_1 : decode method_3_code 1 = .ok (.aload_n 0, 1) := by decide +kernel
theorem d1_2 : decode method_3_code 2 = .ok (.arraylength, 1) := by decide +kernel
theorem d1_3 : decode method_3_code 3 = .ok (.if_icmp .ge 17, 3) := by decide +kernel
theorem d1_6 : decode method_3_code 6 = .ok (.aload_n 0, 1) := by decide +kernel
theorem d1_7 : decode method_3_code 7 = .ok (.iload_n 1, 1) := by decide +kernel
theorem d1_8 : decode method_3_code 8 = .ok (.lload_n 2, 1) := by decide +kernel
theorem d1_9 : decode method_3_code 9 = .ok (.bipush 56, 2) := by decide +kernel
theorem d1_11 : decode method_3_code 11 = .ok (.bipush 8, 2) := by decide +kernel
theorem d1_13 : decode method_3_code 13 = .ok (.iload_n 1, 1) := by decide +kernel
theorem d1_14 : decode method_3_code 14 = .ok (.imul, 1) := by decide +kernel
theorem d1_15 : decode method_3_code 15 = .ok (.isub, 1) := by decide +kernel
theorem d1_16 : decode method_3_code 16 = .ok (.lushr, 1) := by decide +kernel
theorem d1_17 : decode method_3_code 17 = .ok (.l2i, 1) := by decide +kernel
theorem d1_18 : decode method_3_code 18 = .ok (.i2b, 1) := by decide +kernel
theorem d1_19 : decode method_3_code 19 = .ok (.bastore, 1) := by decide +kernel
theorem d1_20 : decode method_3_code 20 = .ok (.return_, 1) := by decide +kernel
theorem pf_1 : plainFor y1 = true := by first | exact plainFor_of_name (by first | (simp [plainName, overriddenIn]; done) | decide +kernel) | decide +kernel
theorem ef_1 (m : MethodId) (a1 : Addr) (x1 : Int32) (q2 : Int64) : entryFrame m #[(.ref a1), (.int x1), (.long q2)] 4 = mkF m 0 #[.val (.ref a1), .val (.int x1), .val (.long q2), .second] [] := by first | (simp [entryFrame, mkF, argsToLocals, Value.category]; done) | rfl
set_option maxRecDepth 65536 in
set_option maxHeartbeats 40000000 in
theorem con_1 (l : Launch) (Z : State) (a0 : Array Value) (hw : ∀ d ∈ tables_1, d.before a0 Z = true) (h0 : Heap) (n0 : Nat) (a1 : Addr) (x1 : Int32) (q2 : Int64) (bs : List Int32) (i : Nat) (hlen : bs.length ≤ 8) (hi : x1.toInt = (i : Int)) (ge_a1 : n0 ≤ a1) (L1 : Al Z h0 a1 .byte (bs.map Value.int)) (Z0 : n0 ≤ h0.size) : Con l Z y1 method_3_code 4 none ({ frames := 0, cells := 0, slots := 0, locals := 0 } : Room) #[(.ref a1), (.int x1), (.long q2)] h0 n0 (fun v h => v = none ∧ Keep h0 h [a1] ∧ Al Z h a1 .byte ((bs.set i (own_b q2 x1)).map Value.int)) := by
  refine Con.of pf_1 (fun m => ef_1 m a1 x1 q2) ?_
  intro p e s m below meth c C
  have K0 : Keep h0 h0 [a1] := Keep.refl _ _
  refine W.iloadN C d1_0 rfl ?_
  refine W.aloadN C d1_1 rfl rfl ?_
  refine W.arrlen C bs.length.toInt32 d1_2 L1 (by simp) ?_
  refine W.icmp_ge C 20 d1_3 rfl (fun b1 => ?_) (fun b1 => ?_)
  · skip
    exact W.retV C d1_20 (by decide) (by decide) ⟨rfl, K0, by rw [List.set_eq_of_length_le (by rw [Int32.lt_iff_toInt_lt, own_len hlen, hi] at b1; omega)]; exact L1⟩
  · skip
    refine W.aloadN C d1_6 rfl rfl ?_
    refine W.iloadN C d1_7 rfl ?_
    refine W.lloadN C d1_8 rfl ?_
    refine W.bipush C (56 : Int32) d1_9 rfl ?_
    refine W.bipush C (8 : Int32) d1_11 rfl ?_
    refine W.iloadN C d1_13 rfl ?_
    refine W.imul C d1_14 ?_
    refine W.isub C d1_15 ?_
    refine W.lushr C d1_16 ?_
    refine W.l2i C d1_17 ?_
    refine W.i2b C d1_18 ?_
    refine W.bastore C i d1_19 L1 hi (by rw [Int32.lt_iff_toInt_lt, own_len hlen, hi] at b1; simp; omega) ge_a1 ?_
    intro h1 U2 L1_
    replace Z0 := Nat.le_trans Z0 (Nat.le_of_eq (U2.size).symm)
    replace K0 := K0.wr U2 (Or.inl (List.mem_of_getElem? (i := 0) rfl))
    replace L1 : Al Z h1 a1 .byte ((bs.map Value.int).set i (Value.int ((((((((q2).toUInt64 >>> (((56 : Int32) - ((8 : Int32) * x1)) &&& 0x3f).toInt64.toUInt64).toInt64).toInt32)).toInt8.toInt32)).toInt8.toInt32))) := L1_
    exact W.retV C d1_20 (by decide) (by decide) ⟨rfl, K0, by rw [own_set, own_i8] at L1; exact L1⟩

abbrev y2 : MethodName := ⟨"rollfind/Word", "of", "([B)J"⟩
theorem d2_0 : decode prog_32_method_4_code 0 = .ok (.lconst 0, 1) := by decide +kernel
theorem d2_1 : decode prog_32_method_4_code 1 = .ok (.lstore_n 1, 1) := by decide +kernel
theorem d2_2 : decode prog_32_method_4_code 2 = .ok (.iconst 0, 1) := by decide +kernel
theorem d2_3 : decode prog_32_method_4_code 3 = .ok (.istore_n 3, 1) := by decide +kernel
theorem d2_4 : decode prog_32_method_4_code 4 = .ok (.iload_n 3, 1) := by decide +kernel
theorem d2_5 : decode prog_32_method_4_code 5 = .ok (.bipush 8, 2) := by decide +kernel
theorem d2_7 : decode prog_32_method_4_code 7 = .ok (.if_icmp .ge 33, 3) := by decide +kernel
theorem d2_10 : decode prog_32_method_4_code 10 = .ok (.lload_n 1, 1) := by decide +kernel
theorem d2_11 : decode prog_32_method_4_code 11 = .ok (.bipush 8, 2) := by decide +kernel
theorem d2_13 : decode prog_32_method_4_code 13 = .ok (.lshl, 1) := by decide +kernel
theorem d2_14 : decode prog_32_method_4_code 14 = .ok (.iload_n 3, 1) := by decide +kernel
theorem d2_15 : decode prog_32_method_4_code 15 = .ok (.aload_n 0, 1) := by decide +kernel
theorem d2_16 : decode prog_32_method_4_code 16 = .ok (.arraylength, 1) := by decide +kernel
theorem d2_17 : decode prog_32_method_4_code 17 = .ok (.if_icmp .ge 13, 3) := by decide +kernel
theorem d2_20 : decode prog_32_method_4_code 20 = .ok (.aload_n 0, 1) := by decide +kernel
theorem d2_21 : decode prog_32_method_4_code 21 = .ok (.iload_n 3, 1) := by decide +kernel
theorem d2_22 : decode prog_32_method_4_code 22 = .ok (.baload, 1) := by decide +kernel
theorem d2_23 : decode prog_32_method_4_code 23 = .ok (.sipush 255, 3) := by decide +kernel
theorem d2_26 : decode prog_32_method_4_code 26 = .ok (.iand, 1) := by decide +kernel
theorem d2_27 : decode prog_32_method_4_code 27 = .ok (.goto 4, 3) := by decide +kernel
theorem d2_30 : decode prog_32_method_4_code 30 = .ok (.iconst 0, 1) := by decide +kernel
theorem d2_31 : decode prog_32_method_4_code 31 = .ok (.i2l, 1) := by decide +kernel
theorem d2_32 : decode prog_32_method_4_code 32 = .ok (.lor, 1) := by decide +kernel
theorem d2_33 : decode prog_32_method_4_code 33 = .ok (.lstore_n 1, 1) := by decide +kernel
theorem d2_34 : decode prog_32_method_4_code 34 = .ok (.iinc 3 1, 3) := by decide +kernel
theorem d2_37 : decode prog_32_method_4_code 37 = .ok (.goto (-33), 3) := by decide +kernel
theorem d2_40 : decode prog_32_method_4_code 40 = .ok (.lload_n 1, 1) := by decide +kernel
theorem d2_41 : decode prog_32_method_4_code 41 = .ok (.lreturn, 1) := by decide +kernel
theorem pf_2 : plainFor y2 = true := by first | exact plainFor_of_name (by first | (simp [plainName, overriddenIn]; done) | decide +kernel) | decide +kernel
theorem ef_2 (m : MethodId) (a1 : Addr) : entryFrame m #[(.ref a1)] 4 = mkF m 0 #[.val (.ref a1), .unset, .unset, .unset] [] := by first | (simp [entryFrame, mkF, argsToLocals, Value.category]; done) | rfl
set_option maxRecDepth 65536 in
set_option maxHeartbeats 40000000 in
theorem con_2 (l : Launch) (Z : State) (a0 : Array Value) (hw : ∀ d ∈ tables_1, d.before a0 Z = true) (h0 : Heap) (n0 : Nat) (a1 : Addr) (bs : List Int32) (hlen : bs.length ≤ 8) (L1 : Al Z h0 a1 .byte (bs.map Value.int)) (Z0 : n0 ≤ h0.size) : Con l Z y2 prog_32_method_4_code 4 (some .long) ({ frames := 0, cells := 0, slots := 0, locals := 0 } : Room) #[(.ref a1)] h0 n0 (Pu (some (.long (own_lp 8 0 0 bs))) h0) := by
  refine Con.of pf_2 (fun m => ef_2 m a1) ?_
  intro p e s m below meth c C
  refine W.lconst C (0 : Int64) d2_0 rfl ?_
  refine W.lstoreN C #[.val (.ref a1), .val (.long (0 : Int64)), .second, .unset] d2_1 rfl ?_
  refine W.iconst C (0 : Int32) d2_2 rfl ?_
  refine W.istoreN C #[.val (.ref a1), .val (.long (0 : Int64)), .second, .val (.int (0 : Int32))] d2_3 rfl ?_
  have loop : ∀ (n i : Nat) (w : Int64) (ii : Int32), i + n = 8 → ii.toInt = (i : Int) → own_lp 8 0 0 bs = own_lp n i w bs → W p l e ({ frames := 0, cells := 0, slots := 0, locals := 0 } : Room) s m #[(.ref a1)] below meth c n0 (Pu (some (.long (own_lp 8 0 0 bs))) h0) ({ frames := 0, cells := 0, slots := 0, locals := 0 } : Room).cells ({ frames := 0, cells := 0, slots := 0, locals := 0 } : Room).slots 0 0 h0 4 #[.val (.ref a1), .val (.long w), .second, .val (.int ii)] [] := by
    intro n
    induction n with
    | zero =>
      intro i w ii hn hi hq
      refine W.iloadN C d2_4 rfl ?_
      refine W.bipush C (8 : Int32) d2_5 rfl ?_
      refine W.icmp_ge C 40 d2_7 rfl (fun b1 => ?_) (fun b1 => absurd (show ¬ ii < 8 by rw [Int32.lt_iff_toInt_lt, hi, show (8 : Int32).toInt = 8 from rfl]; omega) (by simpa using b1))
      refine W.lloadN C d2_40 rfl ?_
      exact W.lret C d2_41 rfl rfl (by decide) (by decide) ⟨by show some _ = some _; rw [hq]; rfl, rfl⟩
    | succ n ih =>
      intro i w ii hn hi hq
      refine W.iloadN C d2_4 rfl ?_
      refine W.bipush C (8 : Int32) d2_5 rfl ?_
      refine W.icmp_ge C 40 d2_7 rfl (fun b2 => absurd (show ii < 8 by rw [Int32.lt_iff_toInt_lt, hi, show (8 : Int32).toInt = 8 from rfl]; omega) b2) (fun b2 => ?_)
      refine W.lloadN C d2_10 rfl ?_
      refine W.bipush C (8 : Int32) d2_11 rfl ?_
      refine W.lshl C d2_13 ?_
      refine W.iloadN C d2_14 rfl ?_
      refine W.aloadN C d2_15 rfl rfl ?_
      refine W.arrlen C bs.length.toInt32 d2_16 L1 (by simp) ?_
      refine W.icmp_ge C 30 d2_17 rfl (fun b3 => ?_) (fun b3 => ?_)
      · skip
        refine W.iconst C (0 : Int32) d2_30 rfl ?_
        refine W.i2l C d2_31 ?_
        refine W.lor C d2_32 ?_
        refine W.lstoreN C #[.val (.ref a1), .val (.long ((w <<< ((8 : Int32) &&& 0x3f).toInt64) ||| (((0 : Int32)).toInt64))), .second, .val (.int ii)] d2_33 rfl ?_
        refine W.iinc C (ii + 1) #[.val (.ref a1), .val (.long ((w <<< ((8 : Int32) &&& 0x3f).toInt64) ||| (((0 : Int32)).toInt64))), .second, .val (.int (ii + 1))] d2_34 rfl rfl rfl ?_
        refine W.goto C 4 d2_37 rfl ?_
        exact ih (i + 1) _ _ (by omega) (by have q := c_iadd ii 1; have r := rng32 (ii + 1); have e1 : (1 : Int32).toInt = 1 := rfl; rw [hi, e1] at q; show (ii + 1).toInt = _; omega) (by rw [hq, own_lp_s, if_neg (by rw [Int32.lt_iff_toInt_lt, own_len hlen, hi] at b3; omega)])
      · skip
        refine W.aloadN C d2_20 rfl rfl ?_
        refine W.iloadN C d2_21 rfl ?_
        refine W.baload C i d2_22 L1 hi (own_at (by rw [Int32.lt_iff_toInt_lt, own_len hlen, hi] at b3; omega)) ?_
        refine W.sipush C (255 : Int32) d2_23 rfl ?_
        refine W.iand C d2_26 ?_
        refine W.goto C 31 d2_27 rfl ?_
        refine W.i2l C d2_31 ?_
        refine W.lor C d2_32 ?_
        refine W.lstoreN C #[.val (.ref a1), .val (.long ((w <<< ((8 : Int32) &&& 0x3f).toInt64) ||| ((((bs.getD i 0) &&& (255 : Int32))).toInt64))), .second, .val (.int ii)] d2_33 rfl ?_
        refine W.iinc C (ii + 1) #[.val (.ref a1), .val (.long ((w <<< ((8 : Int32) &&& 0x3f).toInt64) ||| ((((bs.getD i 0) &&& (255 : Int32))).toInt64))), .second, .val (.int (ii + 1))] d2_34 rfl rfl rfl ?_
        refine W.goto C 4 d2_37 rfl ?_
        exact ih (i + 1) _ _ (by omega) (by have q := c_iadd ii 1; have r := rng32 (ii + 1); have e1 : (1 : Int32).toInt = 1 := rfl; rw [hi, e1] at q; show (ii + 1).toInt = _; omega) (by rw [hq, own_lp_s, if_pos (by rw [Int32.lt_iff_toInt_lt, own_len hlen, hi] at b3; omega)])
  exact loop 8 0 0 0 rfl rfl rfl

theorem own_N (w : Int64) : w.toInt % 18446744073709551616 = (w.toBitVec.toNat : Int) := by
  show w.toBitVec.toInt % _ = _
  rw [BitVec.toInt_eq_toNat_cond]
  have := w.toBitVec.isLt
  split <;> omega
theorem own_step (w : Int64) (b : Int32) (h0 : 0 ≤ b.toInt) (h1 : b.toInt < 256) : (((w <<< ((8 : Int32) &&& 0x3f).toInt64) ||| b.toInt64).toInt - (w.toInt * 256 + b.toInt)) % 18446744073709551616 = 0 := by
  have q := c_lshl w 8 8 (by decide)
  have r := rng64 (w <<< ((8 : Int32) &&& 0x3f).toInt64)
  have s := c_orL (w <<< ((8 : Int32) &&& 0x3f).toInt64) b.toInt64 8 (by decide) 256 (by decide) (by omega) (by rw [c_i2l]; exact h0) (by rw [c_i2l]; exact h1)
  rw [c_i2l] at s
  omega
theorem own_sh (p : Int64) (q : Int32) (k : Nat) (hk : q.toBitVec.toNat % 64 = k) : (((p).toUInt64 >>> (q &&& 0x3f).toInt64.toUInt64).toInt64).toInt % 18446744073709551616 = (p.toBitVec.toNat / 2 ^ k : Nat) := by
  have hN := own_N p
  by_cases h0 : 0 < k
  · rw [c_lushr p q k hk h0, hN]
    have := p.toBitVec.isLt
    have h3 : p.toBitVec.toNat / 2 ^ k < 2 ^ 64 := Nat.lt_of_le_of_lt (Nat.div_le_self _ _) this
    have h4 : ((p.toBitVec.toNat : Int) / ((2 ^ k : Nat) : Int)) = ((p.toBitVec.toNat / 2 ^ k : Nat) : Int) := by norm_cast
    rw [h4]
    generalize p.toBitVec.toNat / 2 ^ k = u at h3 ⊢
    omega
  · have hz : k = 0 := by omega
    subst hz
    have e : (q &&& 0x3f).toInt64.toUInt64 = 0 := by
      have := (sm64 q 0 hk).1
      rw [← UInt64.toBitVec_inj]
      exact this
    rw [e]
    simp [hN]
theorem own_byte (p : Int64) (x : Int32) (k : Nat) (hk : (((56 : Int32) - ((8 : Int32) * x))).toBitVec.toNat % 64 = k) : (own_b p x &&& 255).toInt = ((p.toBitVec.toNat / 2 ^ k % 256 : Nat) : Int) := by
  have e1 : (own_b p x &&& 255).toInt = (own_b p x).toInt % (2 ^ 8 : Nat) := c_mask _ 255 8 (by decide) (by decide)
  rw [e1]
  unfold own_b
  have hs := own_sh p _ k hk
  generalize (((p).toUInt64 >>> (((56 : Int32) - ((8 : Int32) * x)) &&& 0x3f).toInt64.toUInt64).toInt64) = z at *
  have a1 := c_l2i z
  have a2 := c_i2b z.toInt32
  generalize p.toBitVec.toNat / 2 ^ k = u at *
  omega
theorem own_mask (p : Int64) (q : Int32) (k : Nat) (hk : q.toBitVec.toNat % 64 = k) : (p &&& ((-1 : Int64) <<< (q &&& 0x3f).toInt64)).toInt % 18446744073709551616 = ((p.toBitVec.toNat / 2 ^ k * 2 ^ k : Nat) : Int) := by
  rw [own_N]
  have h64 : k < 64 := by omega
  have e : ((-1 : Int64) <<< (q &&& 0x3f).toInt64).toBitVec = (BitVec.allOnes 64) <<< k := by
    have s := sm64 q k hk
    rw [Int64.toBitVec_shiftLeft, s.1, BitVec.shiftLeft_eq', smod64 k s.2]
    rfl
  rw [Int64.toBitVec_and, e]
  congr 1
  rw [BitVec.toNat_and]
  apply Nat.eq_of_testBit_eq
  intro i
  have hlt := p.toBitVec.isLt
  rw [Nat.testBit_and, Nat.testBit_mul_two_pow, ← BitVec.getLsbD, ← BitVec.getLsbD, BitVec.getLsbD_shiftLeft, BitVec.getLsbD_allOnes]
  by_cases hi : i < 64
  · by_cases hik : k ≤ i
    · rw [Nat.testBit_div_two_pow]
      have : i - k + k = i := by omega
      simp [hik, hi, this, BitVec.getLsbD]
      try omega
    · simp [hik, hi]
      try omega
  · have : p.toBitVec.getLsbD i = false := BitVec.getLsbD_of_ge _ _ (by omega)
    rw [this]
    by_cases hik : k ≤ i
    · rw [Nat.testBit_div_two_pow]
      have : i - k + k = i := by omega
      simp [hik, this]
      exact this ▸ Nat.testBit_lt_two_pow (Nat.lt_of_lt_of_le hlt (Nat.pow_le_pow_right (by decide) (by omega)))
    · simp [hik]
def own_fill (p : Int64) (i : Nat) : List Int32 := ((((((((List.replicate i (0 : Int32)).set 0 (own_b p 0)).set 1 (own_b p 1)).set 2 (own_b p 2)).set 3 (own_b p 3)).set 4 (own_b p 4)).set 5 (own_b p 5)).set 6 (own_b p 6)).set 7 (own_b p 7)
def own_S (w : Int64) (b : Int32) : Int64 := (w <<< ((8 : Int32) &&& 0x3f).toInt64) ||| b.toInt64
theorem own_Ss (w : Int64) (b : Int32) (n : Int) (hw : (w.toInt - n) % 18446744073709551616 = 0) (h : 0 ≤ b.toInt ∧ b.toInt < 256) : ((own_S w b).toInt - (n * 256 + b.toInt)) % 18446744073709551616 = 0 := by
  have := own_step w b h.1 h.2
  unfold own_S
  omega
theorem own_S8 (x0 x1 x2 x3 x4 x5 x6 x7 : Int32) (h0 : 0 ≤ x0.toInt ∧ x0.toInt < 256) (h1 : 0 ≤ x1.toInt ∧ x1.toInt < 256) (h2 : 0 ≤ x2.toInt ∧ x2.toInt < 256) (h3 : 0 ≤ x3.toInt ∧ x3.toInt < 256) (h4 : 0 ≤ x4.toInt ∧ x4.toInt < 256) (h5 : 0 ≤ x5.toInt ∧ x5.toInt < 256) (h6 : 0 ≤ x6.toInt ∧ x6.toInt < 256) (h7 : 0 ≤ x7.toInt ∧ x7.toInt < 256) :
    ((own_S (own_S (own_S (own_S (own_S (own_S (own_S (own_S 0 x0) x1) x2) x3) x4) x5) x6) x7).toInt - (((((((x0.toInt * 256 + x1.toInt) * 256 + x2.toInt) * 256 + x3.toInt) * 256 + x4.toInt) * 256 + x5.toInt) * 256 + x6.toInt) * 256 + x7.toInt)) % 18446744073709551616 = 0 := by
  have a0 := own_Ss 0 x0 0 (by decide) h0
  rw [Int.zero_mul, Int.zero_add] at a0
  exact own_Ss _ _ _ (own_Ss _ _ _ (own_Ss _ _ _ (own_Ss _ _ _ (own_Ss _ _ _ (own_Ss _ _ _ (own_Ss _ _ _ a0 h1) h2) h3) h4) h5) h6) h7
theorem own_k1 (p : Int64) : own_lp 8 0 0 [own_b p 0] = p &&& ((-1 : Int64) <<< (((64 : Int32) - ((8 : Int32) * 1)) &&& 0x3f).toInt64) := by
  have e : own_lp 8 0 0 [own_b p 0] = (own_S (own_S (own_S (own_S (own_S (own_S (own_S (own_S 0 (own_b p 0 &&& 255)) 0) 0) 0) 0) 0) 0) 0) := rfl
  have y0 := own_byte p 0 56 (by decide)
  have m := own_mask p ((64 : Int32) - ((8 : Int32) * 1)) 56 (by decide)
  have mr := rng64 (p &&& ((-1 : Int64) <<< (((64 : Int32) - ((8 : Int32) * 1)) &&& 0x3f).toInt64))
  have hP := p.toBitVec.isLt
  rw [e, ← Int64.toInt_inj]
  have r := rng64 (own_S (own_S (own_S (own_S (own_S (own_S (own_S (own_S 0 (own_b p 0 &&& 255)) 0) 0) 0) 0) 0) 0) 0)
  have z0 : (0 : Int32).toInt = 0 := rfl
  have q := own_S8 (own_b p 0 &&& 255) 0 0 0 0 0 0 0 (by rw [y0]; omega) (by decide) (by decide) (by decide) (by decide) (by decide) (by decide) (by decide)
  rw [y0, z0] at q
  generalize (own_S (own_S (own_S (own_S (own_S (own_S (own_S (own_S 0 (own_b p 0 &&& 255)) 0) 0) 0) 0) 0) 0) 0) = V at *
  generalize (p &&& ((-1 : Int64) <<< (((64 : Int32) - ((8 : Int32) * 1)) &&& 0x3f).toInt64)) = U at *
  clear y0 e
  generalize p.toBitVec.toNat = P at *
  have d0 : P / 2 ^ 56 = P / 2 ^ 48 / 256 := by rw [Nat.div_div_eq_div_mul]
  have f0 := Nat.div_add_mod (P / 2 ^ 56) 256
  omega
theorem own_k2 (p : Int64) : own_lp 8 0 0 [own_b p 0, own_b p 1] = p &&& ((-1 : Int64) <<< (((64 : Int32) - ((8 : Int32) * 2)) &&& 0x3f).toInt64) := by
  have e : own_lp 8 0 0 [own_b p 0, own_b p 1] = (own_S (own_S (own_S (own_S (own_S (own_S (own_S (own_S 0 (own_b p 0 &&& 255)) (own_b p 1 &&& 255)) 0) 0) 0) 0) 0) 0) := rfl
  have y0 := own_byte p 0 56 (by decide)
  have y1 := own_byte p 1 48 (by decide)
  have m := own_mask p ((64 : Int32) - ((8 : Int32) * 2)) 48 (by decide)
  have mr := rng64 (p &&& ((-1 : Int64) <<< (((64 : Int32) - ((8 : Int32) * 2)) &&& 0x3f).toInt64))
  have hP := p.toBitVec.isLt
  rw [e, ← Int64.toInt_inj]
  have r := rng64 (own_S (own_S (own_S (own_S (own_S (own_S (own_S (own_S 0 (own_b p 0 &&& 255)) (own_b p 1 &&& 255)) 0) 0) 0) 0) 0) 0)
  have z0 : (0 : Int32).toInt = 0 := rfl
  have q := own_S8 (own_b p 0 &&& 255) (own_b p 1 &&& 255) 0 0 0 0 0 0 (by rw [y0]; omega) (by rw [y1]; omega) (by decide) (by decide) (by decide) (by decide) (by decide) (by decide)
  rw [y0, y1, z0] at q
  generalize (own_S (own_S (own_S (own_S (own_S (own_S (own_S (own_S 0 (own_b p 0 &&& 255)) (own_b p 1 &&& 255)) 0) 0) 0) 0) 0) 0) = V at *
  generalize (p &&& ((-1 : Int64) <<< (((64 : Int32) - ((8 : Int32) * 2)) &&& 0x3f).toInt64)) = U at *
  clear y0 y1 e
  generalize p.toBitVec.toNat = P at *
  have d0 : P / 2 ^ 56 = P / 2 ^ 48 / 256 := by rw [Nat.div_div_eq_div_mul]
  have d1 : P / 2 ^ 48 = P / 2 ^ 40 / 256 := by rw [Nat.div_div_eq_div_mul]
  have f0 := Nat.div_add_mod (P / 2 ^ 56) 256
  have f1 := Nat.div_add_mod (P / 2 ^ 48) 256
  omega
theorem own_k3 (p : Int64) : own_lp 8 0 0 [own_b p 0, own_b p 1, own_b p 2] = p &&& ((-1 : Int64) <<< (((64 : Int32) - ((8 : Int32) * 3)) &&& 0x3f).toInt64) := by
  have e : own_lp 8 0 0 [own_b p 0, own_b p 1, own_b p 2] = (own_S (own_S (own_S (own_S (own_S (own_S (own_S (own_S 0 (own_b p 0 &&& 255)) (own_b p 1 &&& 255)) (own_b p 2 &&& 255)) 0) 0) 0) 0) 0) := rfl
  have y0 := own_byte p 0 56 (by decide)
  have y1 := own_byte p 1 48 (by decide)
  have y2 := own_byte p 2 40 (by decide)
  have m := own_mask p ((64 : Int32) - ((8 : Int32) * 3)) 40 (by decide)
  have mr := rng64 (p &&& ((-1 : Int64) <<< (((64 : Int32) - ((8 : Int32) * 3)) &&& 0x3f).toInt64))
  have hP := p.toBitVec.isLt
  rw [e, ← Int64.toInt_inj]
  have r := rng64 (own_S (own_S (own_S (own_S (own_S (own_S (own_S (own_S 0 (own_b p 0 &&& 255)) (own_b p 1 &&& 255)) (own_b p 2 &&& 255)) 0) 0) 0) 0) 0)
  have z0 : (0 : Int32).toInt = 0 := rfl
  have q := own_S8 (own_b p 0 &&& 255) (own_b p 1 &&& 255) (own_b p 2 &&& 255) 0 0 0 0 0 (by rw [y0]; omega) (by rw [y1]; omega) (by rw [y2]; omega) (by decide) (by decide) (by decide) (by decide) (by decide)
  rw [y0, y1, y2, z0] at q
  generalize (own_S (own_S (own_S (own_S (own_S (own_S (own_S (own_S 0 (own_b p 0 &&& 255)) (own_b p 1 &&& 255)) (own_b p 2 &&& 255)) 0) 0) 0) 0) 0) = V at *
  generalize (p &&& ((-1 : Int64) <<< (((64 : Int32) - ((8 : Int32) * 3)) &&& 0x3f).toInt64)) = U at *
  clear y0 y1 y2 e
  generalize p.toBitVec.toNat = P at *
  have d0 : P / 2 ^ 56 = P / 2 ^ 48 / 256 := by rw [Nat.div_div_eq_div_mul]
  have d1 : P / 2 ^ 48 = P / 2 ^ 40 / 256 := by rw [Nat.div_div_eq_div_mul]
  have d2 : P / 2 ^ 40 = P / 2 ^ 32 / 256 := by rw [Nat.div_div_eq_div_mul]
  have f0 := Nat.div_add_mod (P / 2 ^ 56) 256
  have f1 := Nat.div_add_mod (P / 2 ^ 48) 256
  have f2 := Nat.div_add_mod (P / 2 ^ 40) 256
  omega
theorem own_k4 (p : Int64) : own_lp 8 0 0 [own_b p 0, own_b p 1, own_b p 2, own_b p 3] = p &&& ((-1 : Int64) <<< (((64 : Int32) - ((8 : Int32) * 4)) &&& 0x3f).toInt64) := by
  have e : own_lp 8 0 0 [own_b p 0, own_b p 1, own_b p 2, own_b p 3] = (own_S (own_S (own_S (own_S (own_S (own_S (own_S (own_S 0 (own_b p 0 &&& 255)) (own_b p 1 &&& 255)) (own_b p 2 &&& 255)) (own_b p 3 &&& 255)) 0) 0) 0) 0) := rfl
  have y0 := own_byte p 0 56 (by decide)
  have y1 := own_byte p 1 48 (by decide)
  have y2 := own_byte p 2 40 (by decide)
  have y3 := own_byte p 3 32 (by decide)
  have m := own_mask p ((64 : Int32) - ((8 : Int32) * 4)) 32 (by decide)
  have mr := rng64 (p &&& ((-1 : Int64) <<< (((64 : Int32) - ((8 : Int32) * 4)) &&& 0x3f).toInt64))
  have hP := p.toBitVec.isLt
  rw [e, ← Int64.toInt_inj]
  have r := rng64 (own_S (own_S (own_S (own_S (own_S (own_S (own_S (own_S 0 (own_b p 0 &&& 255)) (own_b p 1 &&& 255)) (own_b p 2 &&& 255)) (own_b p 3 &&& 255)) 0) 0) 0) 0)
  have z0 : (0 : Int32).toInt = 0 := rfl
  have q := own_S8 (own_b p 0 &&& 255) (own_b p 1 &&& 255) (own_b p 2 &&& 255) (own_b p 3 &&& 255) 0 0 0 0 (by rw [y0]; omega) (by rw [y1]; omega) (by rw [y2]; omega) (by rw [y3]; omega) (by decide) (by decide) (by decide) (by decide)
  rw [y0, y1, y2, y3, z0] at q
  generalize (own_S (own_S (own_S (own_S (own_S (own_S (own_S (own_S 0 (own_b p 0 &&& 255)) (own_b p 1 &&& 255)) (own_b p 2 &&& 255)) (own_b p 3 &&& 255)) 0) 0) 0) 0) = V at *
  generalize (p &&& ((-1 : Int64) <<< (((64 : Int32) - ((8 : Int32) * 4)) &&& 0x3f).toInt64)) = U at *
  clear y0 y1 y2 y3 e
  generalize p.toBitVec.toNat = P at *
  have d0 : P / 2 ^ 56 = P / 2 ^ 48 / 256 := by rw [Nat.div_div_eq_div_mul]
  have d1 : P / 2 ^ 48 = P / 2 ^ 40 / 256 := by rw [Nat.div_div_eq_div_mul]
  have d2 : P / 2 ^ 40 = P / 2 ^ 32 / 256 := by rw [Nat.div_div_eq_div_mul]
  have d3 : P / 2 ^ 32 = P / 2 ^ 24 / 256 := by rw [Nat.div_div_eq_div_mul]
  have f0 := Nat.div_add_mod (P / 2 ^ 56) 256
  have f1 := Nat.div_add_mod (P / 2 ^ 48) 256
  have f2 := Nat.div_add_mod (P / 2 ^ 40) 256
  have f3 := Nat.div_add_mod (P / 2 ^ 32) 256
  omega
theorem own_k5 (p : Int64) : own_lp 8 0 0 [own_b p 0, own_b p 1, own_b p 2, own_b p 3, own_b p 4] = p &&& ((-1 : Int64) <<< (((64 : Int32) - ((8 : Int32) * 5)) &&& 0x3f).toInt64) := by
  have e : own_lp 8 0 0 [own_b p 0, own_b p 1, own_b p 2, own_b p 3, own_b p 4] = (own_S (own_S (own_S (own_S (own_S (own_S (own_S (own_S 0 (own_b p 0 &&& 255)) (own_b p 1 &&& 255)) (own_b p 2 &&& 255)) (own_b p 3 &&& 255)) (own_b p 4 &&& 255)) 0) 0) 0) := rfl
  have y0 := own_byte p 0 56 (by decide)
  have y1 := own_byte p 1 48 (by decide)
  have y2 := own_byte p 2 40 (by decide)
  have y3 := own_byte p 3 32 (by decide)
  have y4 := own_byte p 4 24 (by decide)
  have m := own_mask p ((64 : Int32) - ((8 : Int32) * 5)) 24 (by decide)
  have mr := rng64 (p &&& ((-1 : Int64) <<< (((64 : Int32) - ((8 : Int32) * 5)) &&& 0x3f).toInt64))
  have hP := p.toBitVec.isLt
  rw [e, ← Int64.toInt_inj]
  have r := rng64 (own_S (own_S (own_S (own_S (own_S (own_S (own_S (own_S 0 (own_b p 0 &&& 255)) (own_b p 1 &&& 255)) (own_b p 2 &&& 255)) (own_b p 3 &&& 255)) (own_b p 4 &&& 255)) 0) 0) 0)
  have z0 : (0 : Int32).toInt = 0 := rfl
  have q := own_S8 (own_b p 0 &&& 255) (own_b p 1 &&& 255) (own_b p 2 &&& 255) (own_b p 3 &&& 255) (own_b p 4 &&& 255) 0 0 0 (by rw [y0]; omega) (by rw [y1]; omega) (by rw [y2]; omega) (by rw [y3]; omega) (by rw [y4]; omega) (by decide) (by decide) (by decide)
  rw [y0, y1, y2, y3, y4, z0] at q
  generalize (own_S (own_S (own_S (own_S (own_S (own_S (own_S (own_S 0 (own_b p 0 &&& 255)) (own_b p 1 &&& 255)) (own_b p 2 &&& 255)) (own_b p 3 &&& 255)) (own_b p 4 &&& 255)) 0) 0) 0) = V at *
  generalize (p &&& ((-1 : Int64) <<< (((64 : Int32) - ((8 : Int32) * 5)) &&& 0x3f).toInt64)) = U at *
  clear y0 y1 y2 y3 y4 e
  generalize p.toBitVec.toNat = P at *
  have d0 : P / 2 ^ 56 = P / 2 ^ 48 / 256 := by rw [Nat.div_div_eq_div_mul]
  have d1 : P / 2 ^ 48 = P / 2 ^ 40 / 256 := by rw [Nat.div_div_eq_div_mul]
  have d2 : P / 2 ^ 40 = P / 2 ^ 32 / 256 := by rw [Nat.div_div_eq_div_mul]
  have d3 : P / 2 ^ 32 = P / 2 ^ 24 / 256 := by rw [Nat.div_div_eq_div_mul]
  have d4 : P / 2 ^ 24 = P / 2 ^ 16 / 256 := by rw [Nat.div_div_eq_div_mul]
  have f0 := Nat.div_add_mod (P / 2 ^ 56) 256
  have f1 := Nat.div_add_mod (P / 2 ^ 48) 256
  have f2 := Nat.div_add_mod (P / 2 ^ 40) 256
  have f3 := Nat.div_add_mod (P / 2 ^ 32) 256
  have f4 := Nat.div_add_mod (P / 2 ^ 24) 256
  omega
theorem own_k6 (p : Int64) : own_lp 8 0 0 [own_b p 0, own_b p 1, own_b p 2, own_b p 3, own_b p 4, own_b p 5] = p &&& ((-1 : Int64) <<< (((64 : Int32) - ((8 : Int32) * 6)) &&& 0x3f).toInt64) := by
  have e : own_lp 8 0 0 [own_b p 0, own_b p 1, own_b p 2, own_b p 3, own_b p 4, own_b p 5] = (own_S (own_S (own_S (own_S (own_S (own_S (own_S (own_S 0 (own_b p 0 &&& 255)) (own_b p 1 &&& 255)) (own_b p 2 &&& 255)) (own_b p 3 &&& 255)) (own_b p 4 &&& 255)) (own_b p 5 &&& 255)) 0) 0) := rfl
  have y0 := own_byte p 0 56 (by decide)
  have y1 := own_byte p 1 48 (by decide)
  have y2 := own_byte p 2 40 (by decide)
  have y3 := own_byte p 3 32 (by decide)
  have y4 := own_byte p 4 24 (by decide)
  have y5 := own_byte p 5 16 (by decide)
  have m := own_mask p ((64 : Int32) - ((8 : Int32) * 6)) 16 (by decide)
  have mr := rng64 (p &&& ((-1 : Int64) <<< (((64 : Int32) - ((8 : Int32) * 6)) &&& 0x3f).toInt64))
  have hP := p.toBitVec.isLt
  rw [e, ← Int64.toInt_inj]
  have r := rng64 (own_S (own_S (own_S (own_S (own_S (own_S (own_S (own_S 0 (own_b p 0 &&& 255)) (own_b p 1 &&& 255)) (own_b p 2 &&& 255)) (own_b p 3 &&& 255)) (own_b p 4 &&& 255)) (own_b p 5 &&& 255)) 0) 0)
  have z0 : (0 : Int32).toInt = 0 := rfl
  have q := own_S8 (own_b p 0 &&& 255) (own_b p 1 &&& 255) (own_b p 2 &&& 255) (own_b p 3 &&& 255) (own_b p 4 &&& 255) (own_b p 5 &&& 255) 0 0 (by rw [y0]; omega) (by rw [y1]; omega) (by rw [y2]; omega) (by rw [y3]; omega) (by rw [y4]; omega) (by rw [y5]; omega) (by decide) (by decide)
  rw [y0, y1, y2, y3, y4, y5, z0] at q
  generalize (own_S (own_S (own_S (own_S (own_S (own_S (own_S (own_S 0 (own_b p 0 &&& 255)) (own_b p 1 &&& 255)) (own_b p 2 &&& 255)) (own_b p 3 &&& 255)) (own_b p 4 &&& 255)) (own_b p 5 &&& 255)) 0) 0) = V at *
  generalize (p &&& ((-1 : Int64) <<< (((64 : Int32) - ((8 : Int32) * 6)) &&& 0x3f).toInt64)) = U at *
  clear y0 y1 y2 y3 y4 y5 e
  generalize p.toBitVec.toNat = P at *
  have d0 : P / 2 ^ 56 = P / 2 ^ 48 / 256 := by rw [Nat.div_div_eq_div_mul]
  have d1 : P / 2 ^ 48 = P / 2 ^ 40 / 256 := by rw [Nat.div_div_eq_div_mul]
  have d2 : P / 2 ^ 40 = P / 2 ^ 32 / 256 := by rw [Nat.div_div_eq_div_mul]
  have d3 : P / 2 ^ 32 = P / 2 ^ 24 / 256 := by rw [Nat.div_div_eq_div_mul]
  have d4 : P / 2 ^ 24 = P / 2 ^ 16 / 256 := by rw [Nat.div_div_eq_div_mul]
  have d5 : P / 2 ^ 16 = P / 2 ^ 8 / 256 := by rw [Nat.div_div_eq_div_mul]
  have f0 := Nat.div_add_mod (P / 2 ^ 56) 256
  have f1 := Nat.div_add_mod (P / 2 ^ 48) 256
  have f2 := Nat.div_add_mod (P / 2 ^ 40) 256
  have f3 := Nat.div_add_mod (P / 2 ^ 32) 256
  have f4 := Nat.div_add_mod (P / 2 ^ 24) 256
  have f5 := Nat.div_add_mod (P / 2 ^ 16) 256
  omega
theorem own_k7 (p : Int64) : own_lp 8 0 0 [own_b p 0, own_b p 1, own_b p 2, own_b p 3, own_b p 4, own_b p 5, own_b p 6] = p &&& ((-1 : Int64) <<< (((64 : Int32) - ((8 : Int32) * 7)) &&& 0x3f).toInt64) := by
  have e : own_lp 8 0 0 [own_b p 0, own_b p 1, own_b p 2, own_b p 3, own_b p 4, own_b p 5, own_b p 6] = (own_S (own_S (own_S (own_S (own_S (own_S (own_S (own_S 0 (own_b p 0 &&& 255)) (own_b p 1 &&& 255)) (own_b p 2 &&& 255)) (own_b p 3 &&& 255)) (own_b p 4 &&& 255)) (own_b p 5 &&& 255)) (own_b p 6 &&& 255)) 0) := rfl
  have y0 := own_byte p 0 56 (by decide)
  have y1 := own_byte p 1 48 (by decide)
  have y2 := own_byte p 2 40 (by decide)
  have y3 := own_byte p 3 32 (by decide)
  have y4 := own_byte p 4 24 (by decide)
  have y5 := own_byte p 5 16 (by decide)
  have y6 := own_byte p 6 8 (by decide)
  have m := own_mask p ((64 : Int32) - ((8 : Int32) * 7)) 8 (by decide)
  have mr := rng64 (p &&& ((-1 : Int64) <<< (((64 : Int32) - ((8 : Int32) * 7)) &&& 0x3f).toInt64))
  have hP := p.toBitVec.isLt
  rw [e, ← Int64.toInt_inj]
  have r := rng64 (own_S (own_S (own_S (own_S (own_S (own_S (own_S (own_S 0 (own_b p 0 &&& 255)) (own_b p 1 &&& 255)) (own_b p 2 &&& 255)) (own_b p 3 &&& 255)) (own_b p 4 &&& 255)) (own_b p 5 &&& 255)) (own_b p 6 &&& 255)) 0)
  have z0 : (0 : Int32).toInt = 0 := rfl
  have q := own_S8 (own_b p 0 &&& 255) (own_b p 1 &&& 255) (own_b p 2 &&& 255) (own_b p 3 &&& 255) (own_b p 4 &&& 255) (own_b p 5 &&& 255) (own_b p 6 &&& 255) 0 (by rw [y0]; omega) (by rw [y1]; omega) (by rw [y2]; omega) (by rw [y3]; omega) (by rw [y4]; omega) (by rw [y5]; omega) (by rw [y6]; omega) (by decide)
  rw [y0, y1, y2, y3, y4, y5, y6, z0] at q
  generalize (own_S (own_S (own_S (own_S (own_S (own_S (own_S (own_S 0 (own_b p 0 &&& 255)) (own_b p 1 &&& 255)) (own_b p 2 &&& 255)) (own_b p 3 &&& 255)) (own_b p 4 &&& 255)) (own_b p 5 &&& 255)) (own_b p 6 &&& 255)) 0) = V at *
  generalize (p &&& ((-1 : Int64) <<< (((64 : Int32) - ((8 : Int32) * 7)) &&& 0x3f).toInt64)) = U at *
  clear y0 y1 y2 y3 y4 y5 y6 e
  generalize p.toBitVec.toNat = P at *
  have d0 : P / 2 ^ 56 = P / 2 ^ 48 / 256 := by rw [Nat.div_div_eq_div_mul]
  have d1 : P / 2 ^ 48 = P / 2 ^ 40 / 256 := by rw [Nat.div_div_eq_div_mul]
  have d2 : P / 2 ^ 40 = P / 2 ^ 32 / 256 := by rw [Nat.div_div_eq_div_mul]
  have d3 : P / 2 ^ 32 = P / 2 ^ 24 / 256 := by rw [Nat.div_div_eq_div_mul]
  have d4 : P / 2 ^ 24 = P / 2 ^ 16 / 256 := by rw [Nat.div_div_eq_div_mul]
  have d5 : P / 2 ^ 16 = P / 2 ^ 8 / 256 := by rw [Nat.div_div_eq_div_mul]
  have d6 : P / 2 ^ 8 = P / 2 ^ 0 / 256 := by rw [Nat.div_div_eq_div_mul]
  have f0 := Nat.div_add_mod (P / 2 ^ 56) 256
  have f1 := Nat.div_add_mod (P / 2 ^ 48) 256
  have f2 := Nat.div_add_mod (P / 2 ^ 40) 256
  have f3 := Nat.div_add_mod (P / 2 ^ 32) 256
  have f4 := Nat.div_add_mod (P / 2 ^ 24) 256
  have f5 := Nat.div_add_mod (P / 2 ^ 16) 256
  have f6 := Nat.div_add_mod (P / 2 ^ 8) 256
  omega
theorem own_k8 (p : Int64) : own_lp 8 0 0 [own_b p 0, own_b p 1, own_b p 2, own_b p 3, own_b p 4, own_b p 5, own_b p 6, own_b p 7] = p &&& ((-1 : Int64) <<< (((64 : Int32) - ((8 : Int32) * 8)) &&& 0x3f).toInt64) := by
  have e : own_lp 8 0 0 [own_b p 0, own_b p 1, own_b p 2, own_b p 3, own_b p 4, own_b p 5, own_b p 6, own_b p 7] = (own_S (own_S (own_S (own_S (own_S (own_S (own_S (own_S 0 (own_b p 0 &&& 255)) (own_b p 1 &&& 255)) (own_b p 2 &&& 255)) (own_b p 3 &&& 255)) (own_b p 4 &&& 255)) (own_b p 5 &&& 255)) (own_b p 6 &&& 255)) (own_b p 7 &&& 255)) := rfl
  have y0 := own_byte p 0 56 (by decide)
  have y1 := own_byte p 1 48 (by decide)
  have y2 := own_byte p 2 40 (by decide)
  have y3 := own_byte p 3 32 (by decide)
  have y4 := own_byte p 4 24 (by decide)
  have y5 := own_byte p 5 16 (by decide)
  have y6 := own_byte p 6 8 (by decide)
  have y7 := own_byte p 7 0 (by decide)
  have m := own_mask p ((64 : Int32) - ((8 : Int32) * 8)) 0 (by decide)
  have mr := rng64 (p &&& ((-1 : Int64) <<< (((64 : Int32) - ((8 : Int32) * 8)) &&& 0x3f).toInt64))
  have hP := p.toBitVec.isLt
  rw [e, ← Int64.toInt_inj]
  have r := rng64 (own_S (own_S (own_S (own_S (own_S (own_S (own_S (own_S 0 (own_b p 0 &&& 255)) (own_b p 1 &&& 255)) (own_b p 2 &&& 255)) (own_b p 3 &&& 255)) (own_b p 4 &&& 255)) (own_b p 5 &&& 255)) (own_b p 6 &&& 255)) (own_b p 7 &&& 255))
  have z0 : (0 : Int32).toInt = 0 := rfl
  have q := own_S8 (own_b p 0 &&& 255) (own_b p 1 &&& 255) (own_b p 2 &&& 255) (own_b p 3 &&& 255) (own_b p 4 &&& 255) (own_b p 5 &&& 255) (own_b p 6 &&& 255) (own_b p 7 &&& 255) (by rw [y0]; omega) (by rw [y1]; omega) (by rw [y2]; omega) (by rw [y3]; omega) (by rw [y4]; omega) (by rw [y5]; omega) (by rw [y6]; omega) (by rw [y7]; omega)
  rw [y0, y1, y2, y3, y4, y5, y6, y7] at q
  generalize (own_S (own_S (own_S (own_S (own_S (own_S (own_S (own_S 0 (own_b p 0 &&& 255)) (own_b p 1 &&& 255)) (own_b p 2 &&& 255)) (own_b p 3 &&& 255)) (own_b p 4 &&& 255)) (own_b p 5 &&& 255)) (own_b p 6 &&& 255)) (own_b p 7 &&& 255)) = V at *
  generalize (p &&& ((-1 : Int64) <<< (((64 : Int32) - ((8 : Int32) * 8)) &&& 0x3f).toInt64)) = U at *
  clear y0 y1 y2 y3 y4 y5 y6 y7 e
  generalize p.toBitVec.toNat = P at *
  have d0 : P / 2 ^ 56 = P / 2 ^ 48 / 256 := by rw [Nat.div_div_eq_div_mul]
  have d1 : P / 2 ^ 48 = P / 2 ^ 40 / 256 := by rw [Nat.div_div_eq_div_mul]
  have d2 : P / 2 ^ 40 = P / 2 ^ 32 / 256 := by rw [Nat.div_div_eq_div_mul]
  have d3 : P / 2 ^ 32 = P / 2 ^ 24 / 256 := by rw [Nat.div_div_eq_div_mul]
  have d4 : P / 2 ^ 24 = P / 2 ^ 16 / 256 := by rw [Nat.div_div_eq_div_mul]
  have d5 : P / 2 ^ 16 = P / 2 ^ 8 / 256 := by rw [Nat.div_div_eq_div_mul]
  have d6 : P / 2 ^ 8 = P / 2 ^ 0 / 256 := by rw [Nat.div_div_eq_div_mul]
  have f0 := Nat.div_add_mod (P / 2 ^ 56) 256
  have f1 := Nat.div_add_mod (P / 2 ^ 48) 256
  have f2 := Nat.div_add_mod (P / 2 ^ 40) 256
  have f3 := Nat.div_add_mod (P / 2 ^ 32) 256
  have f4 := Nat.div_add_mod (P / 2 ^ 24) 256
  have f5 := Nat.div_add_mod (P / 2 ^ 16) 256
  have f6 := Nat.div_add_mod (P / 2 ^ 8) 256
  have f7 := Nat.div_add_mod (P / 2 ^ 0) 256
  omega
theorem own_ix (x : Int32) : ∃ i : Nat, ((x &&& (2147483647 : Int32)) % (9 : Int32)).toInt = (i : Int) ∧ i < 9 := by
  have e1 : (x &&& 2147483647).toInt = x.toInt % (2 ^ 31 : Nat) := c_mask x 2147483647 31 (by decide) (by decide)
  generalize (x &&& 2147483647) = z at *
  have e2 := (c_irem z 9 9 rfl).1 (by omega)
  exact ⟨(z.toInt % 9).toNat, by rw [e2]; omega, by omega⟩
theorem own_key0 (p : Int64) : own_lp 8 0 0 (own_fill p 0) = 0 := by
  show own_lp 8 0 0 [] = 0
  decide
theorem own_key (p : Int64) (z : Int32) (i : Nat) (hi : z.toInt = (i : Int)) (h9 : i < 9) (hz : ¬ z = 0) : own_lp 8 0 0 (own_fill p i) = p &&& ((-1 : Int64) <<< (((64 : Int32) - ((8 : Int32) * z)) &&& 0x3f).toInt64) := by
  have hc : i = 0 ∨ i = 1 ∨ i = 2 ∨ i = 3 ∨ i = 4 ∨ i = 5 ∨ i = 6 ∨ i = 7 ∨ i = 8 := by omega
  rcases hc with rfl | rfl | rfl | rfl | rfl | rfl | rfl | rfl | rfl
  · exact absurd (Int32.toInt_inj.mp (by rw [hi]; rfl)) hz
  · obtain rfl : z = 1 := Int32.toInt_inj.mp (by rw [hi]; rfl)
    exact own_k1 p
  · obtain rfl : z = 2 := Int32.toInt_inj.mp (by rw [hi]; rfl)
    exact own_k2 p
  · obtain rfl : z = 3 := Int32.toInt_inj.mp (by rw [hi]; rfl)
    exact own_k3 p
  · obtain rfl : z = 4 := Int32.toInt_inj.mp (by rw [hi]; rfl)
    exact own_k4 p
  · obtain rfl : z = 5 := Int32.toInt_inj.mp (by rw [hi]; rfl)
    exact own_k5 p
  · obtain rfl : z = 6 := Int32.toInt_inj.mp (by rw [hi]; rfl)
    exact own_k6 p
  · obtain rfl : z = 7 := Int32.toInt_inj.mp (by rw [hi]; rfl)
    exact own_k7 p
  · obtain rfl : z = 8 := Int32.toInt_inj.mp (by rw [hi]; rfl)
    exact own_k8 p
theorem pf_0 : plainFor x = true := by first | exact plainFor_of_name (by first | (simp [plainName, overriddenIn]; done) | decide +kernel) | decide +kernel
theorem ef_0 (m : MethodId) (p0 : Int64) (p1 : Int32) : entryFrame m #[(.long p0), (.int p1)] maxLocals = mkF m 0 #[.val (.long p0), .second, .val (.int p1), .unset, .unset, .unset, .unset] [] := by first | (simp [entryFrame, mkF, argsToLocals, Value.category, maxLocals]; done) | rfl
theorem pd_0 : parseMethodDescriptor "([BIJ)V" = some ⟨[(.array .byte), .int, .long], none⟩ := by decide +kernel
theorem pd_1 : parseMethodDescriptor "([B)J" = some ⟨[(.array .byte)], some .long⟩ := by decide +kernel
set_option maxRecDepth 65536 in
set_option maxHeartbeats 40000000 in
theorem con_0 (l : Launch) (Z : State) (a0 : Array Value) (hw : ∀ d ∈ tables_1, d.before a0 Z = true) (h0 : Heap) (n0 : Nat) (p0 : Int64) (p1 : Int32)  (Z0 : n0 ≤ h0.size) : Con l Z x code maxLocals ret room_1 #[(.long p0), (.int p1)] h0 n0 (fun v _ => v = some (.int 1)) := by
  refine Con.of pf_0 (fun m => ef_0 m p0 p1) ?_
  intro p e s m below meth c C
  refine W.iloadN C at_0 rfl ?_
  refine W.ldcI C (v := (2147483647 : Int32)) at_1 (tkw hw 0 rfl) ?_
  refine W.iand C at_3 ?_
  refine W.bipush C (9 : Int32) at_4 rfl ?_
  refine W.irem C at_6 (by decide) ?_
  refine W.istoreN C #[.val (.long p0), .second, .val (.int p1), .val (.int ((p1 &&& (2147483647 : Int32)) % (9 : Int32))), .unset, .unset, .unset] at_7 rfl ?_
  refine W.iloadN C at_8 rfl ?_
  obtain ⟨i, hi, hi9⟩ := own_ix p1
  refine W.newP C i 8 at_9 (tkw hw 1 rfl) hi (by omega) (by decide) 1 8 rfl rfl (by decide) (by decide) ?_
  intro a1 h2 ha1 Ea1 La1
  have ge_a1 : n0 ≤ a1 := by rw [ha1]; exact Z0
  replace Z0 := Nat.le_trans Z0 Ea1.1
  replace La1 : Al Z h2 a1 .byte (List.replicate i (Value.int 0)) := La1
  obtain ⟨bs, ebs⟩ : ∃ b : List Int32, b = List.replicate i 0 := ⟨_, rfl⟩
  replace La1 : Al Z h2 a1 .byte (bs.map Value.int) := by rw [ebs, List.map_replicate]; exact La1
  have hlen : bs.length ≤ 8 := by rw [ebs]; simp; omega
  refine W.astore C #[.val (.long p0), .second, .val (.int p1), .val (.int ((p1 &&& (2147483647 : Int32)) % (9 : Int32))), .val (.ref a1), .unset, .unset] at_11 rfl rfl ?_
  refine W.aload C at_13 rfl rfl ?_
  refine W.iconst C (0 : Int32) at_15 rfl ?_
  refine W.lloadN C at_16 rfl ?_
  refine W.callS C (y' := y1) at_17 (tkw hw 2 rfl) (tkw hw 3 rfl) (tkw hw 4 rfl) (tkw hw 5 rfl) (by decide) (argsL := [(.ref a1), (.int (0 : Int32)), (.long p0)]) (rest := []) rfl (lenOf pd_0 rfl) (con_1 l Z a0 hw h2 n0 a1 (0 : Int32) p0 bs 0 hlen rfl ge_a1 La1 Z0) 0 1 8 rfl rfl rfl (by decide) (by decide) (by decide) (by decide) rfl ?_
  rintro _ h3 ⟨rfl, Kc, L⟩
  replace Z0 := Nat.le_trans Z0 Kc.1
  obtain ⟨bt, ebt⟩ : ∃ b : List Int32, b = bs.set 0 (own_b p0 (0 : Int32)) := ⟨_, rfl⟩
  rw [← ebt] at L
  replace hlen : bt.length ≤ 8 := by rw [ebt]; simpa using hlen
  rw [ebs] at ebt
  clear La1 ebs
  skip
  obtain ⟨bs, ebs, La1, hlen⟩ : ∃ b : List Int32, b = (List.replicate i (0 : Int32)).set 0 (own_b p0 0) ∧ Al Z h3 a1 .byte (b.map Value.int) ∧ b.length ≤ 8 := ⟨bt, ebt, L, hlen⟩
  clear L ebt
  refine W.aload C at_20 rfl rfl ?_
  refine W.iconst C (1 : Int32) at_22 rfl ?_
  refine W.lloadN C at_23 rfl ?_
  refine W.callS C (y' := y1) at_24 (tkw hw 2 rfl) (tkw hw 3 rfl) (tkw hw 4 rfl) (tkw hw 5 rfl) (by decide) (argsL := [(.ref a1), (.int (1 : Int32)), (.long p0)]) (rest := []) rfl (lenOf pd_0 rfl) (con_1 l Z a0 hw h3 n0 a1 (1 : Int32) p0 bs 1 hlen rfl ge_a1 La1 Z0) 0 1 8 rfl rfl rfl (by decide) (by decide) (by decide) (by decide) rfl ?_
  rintro _ h4 ⟨rfl, Kc, L⟩
  replace Z0 := Nat.le_trans Z0 Kc.1
  obtain ⟨bt, ebt⟩ : ∃ b : List Int32, b = bs.set 1 (own_b p0 (1 : Int32)) := ⟨_, rfl⟩
  rw [← ebt] at L
  replace hlen : bt.length ≤ 8 := by rw [ebt]; simpa using hlen
  rw [ebs] at ebt
  clear La1 ebs
  skip
  obtain ⟨bs, ebs, La1, hlen⟩ : ∃ b : List Int32, b = ((List.replicate i (0 : Int32)).set 0 (own_b p0 0)).set 1 (own_b p0 1) ∧ Al Z h4 a1 .byte (b.map Value.int) ∧ b.length ≤ 8 := ⟨bt, ebt, L, hlen⟩
  clear L ebt
  refine W.aload C at_27 rfl rfl ?_
  refine W.iconst C (2 : Int32) at_29 rfl ?_
  refine W.lloadN C at_30 rfl ?_
  refine W.callS C (y' := y1) at_31 (tkw hw 2 rfl) (tkw hw 3 rfl) (tkw hw 4 rfl) (tkw hw 5 rfl) (by decide) (argsL := [(.ref a1), (.int (2 : Int32)), (.long p0)]) (rest := []) rfl (lenOf pd_0 rfl) (con_1 l Z a0 hw h4 n0 a1 (2 : Int32) p0 bs 2 hlen rfl ge_a1 La1 Z0) 0 1 8 rfl rfl rfl (by decide) (by decide) (by decide) (by decide) rfl ?_
  rintro _ h5 ⟨rfl, Kc, L⟩
  replace Z0 := Nat.le_trans Z0 Kc.1
  obtain ⟨bt, ebt⟩ : ∃ b : List Int32, b = bs.set 2 (own_b p0 (2 : Int32)) := ⟨_, rfl⟩
  rw [← ebt] at L
  replace hlen : bt.length ≤ 8 := by rw [ebt]; simpa using hlen
  rw [ebs] at ebt
  clear La1 ebs
  skip
  obtain ⟨bs, ebs, La1, hlen⟩ : ∃ b : List Int32, b = (((List.replicate i (0 : Int32)).set 0 (own_b p0 0)).set 1 (own_b p0 1)).set 2 (own_b p0 2) ∧ Al Z h5 a1 .byte (b.map Value.int) ∧ b.length ≤ 8 := ⟨bt, ebt, L, hlen⟩
  clear L ebt
  refine W.aload C at_34 rfl rfl ?_
  refine W.iconst C (3 : Int32) at_36 rfl ?_
  refine W.lloadN C at_37 rfl ?_
  refine W.callS C (y' := y1) at_38 (tkw hw 2 rfl) (tkw hw 3 rfl) (tkw hw 4 rfl) (tkw hw 5 rfl) (by decide) (argsL := [(.ref a1), (.int (3 : Int32)), (.long p0)]) (rest := []) rfl (lenOf pd_0 rfl) (con_1 l Z a0 hw h5 n0 a1 (3 : Int32) p0 bs 3 hlen rfl ge_a1 La1 Z0) 0 1 8 rfl rfl rfl (by decide) (by decide) (by decide) (by decide) rfl ?_
  rintro _ h6 ⟨rfl, Kc, L⟩
  replace Z0 := Nat.le_trans Z0 Kc.1
  obtain ⟨bt, ebt⟩ : ∃ b : List Int32, b = bs.set 3 (own_b p0 (3 : Int32)) := ⟨_, rfl⟩
  rw [← ebt] at L
  replace hlen : bt.length ≤ 8 := by rw [ebt]; simpa using hlen
  rw [ebs] at ebt
  clear La1 ebs
  skip
  obtain ⟨bs, ebs, La1, hlen⟩ : ∃ b : List Int32, b = ((((List.replicate i (0 : Int32)).set 0 (own_b p0 0)).set 1 (own_b p0 1)).set 2 (own_b p0 2)).set 3 (own_b p0 3) ∧ Al Z h6 a1 .byte (b.map Value.int) ∧ b.length ≤ 8 := ⟨bt, ebt, L, hlen⟩
  clear L ebt
  refine W.aload C at_41 rfl rfl ?_
  refine W.iconst C (4 : Int32) at_43 rfl ?_
  refine W.lloadN C at_44 rfl ?_
  refine W.callS C (y' := y1) at_45 (tkw hw 2 rfl) (tkw hw 3 rfl) (tkw hw 4 rfl) (tkw hw 5 rfl) (by decide) (argsL := [(.ref a1), (.int (4 : Int32)), (.long p0)]) (rest := []) rfl (lenOf pd_0 rfl) (con_1 l Z a0 hw h6 n0 a1 (4 : Int32) p0 bs 4 hlen rfl ge_a1 La1 Z0) 0 1 8 rfl rfl rfl (by decide) (by decide) (by decide) (by decide) rfl ?_
  rintro _ h7 ⟨rfl, Kc, L⟩
  replace Z0 := Nat.le_trans Z0 Kc.1
  obtain ⟨bt, ebt⟩ : ∃ b : List Int32, b = bs.set 4 (own_b p0 (4 : Int32)) := ⟨_, rfl⟩
  rw [← ebt] at L
  replace hlen : bt.length ≤ 8 := by rw [ebt]; simpa using hlen
  rw [ebs] at ebt
  clear La1 ebs
  skip
  obtain ⟨bs, ebs, La1, hlen⟩ : ∃ b : List Int32, b = (((((List.replicate i (0 : Int32)).set 0 (own_b p0 0)).set 1 (own_b p0 1)).set 2 (own_b p0 2)).set 3 (own_b p0 3)).set 4 (own_b p0 4) ∧ Al Z h7 a1 .byte (b.map Value.int) ∧ b.length ≤ 8 := ⟨bt, ebt, L, hlen⟩
  clear L ebt
  refine W.aload C at_48 rfl rfl ?_
  refine W.iconst C (5 : Int32) at_50 rfl ?_
  refine W.lloadN C at_51 rfl ?_
  refine W.callS C (y' := y1) at_52 (tkw hw 2 rfl) (tkw hw 3 rfl) (tkw hw 4 rfl) (tkw hw 5 rfl) (by decide) (argsL := [(.ref a1), (.int (5 : Int32)), (.long p0)]) (rest := []) rfl (lenOf pd_0 rfl) (con_1 l Z a0 hw h7 n0 a1 (5 : Int32) p0 bs 5 hlen rfl ge_a1 La1 Z0) 0 1 8 rfl rfl rfl (by decide) (by decide) (by decide) (by decide) rfl ?_
  rintro _ h8 ⟨rfl, Kc, L⟩
  replace Z0 := Nat.le_trans Z0 Kc.1
  obtain ⟨bt, ebt⟩ : ∃ b : List Int32, b = bs.set 5 (own_b p0 (5 : Int32)) := ⟨_, rfl⟩
  rw [← ebt] at L
  replace hlen : bt.length ≤ 8 := by rw [ebt]; simpa using hlen
  rw [ebs] at ebt
  clear La1 ebs
  skip
  obtain ⟨bs, ebs, La1, hlen⟩ : ∃ b : List Int32, b = ((((((List.replicate i (0 : Int32)).set 0 (own_b p0 0)).set 1 (own_b p0 1)).set 2 (own_b p0 2)).set 3 (own_b p0 3)).set 4 (own_b p0 4)).set 5 (own_b p0 5) ∧ Al Z h8 a1 .byte (b.map Value.int) ∧ b.length ≤ 8 := ⟨bt, ebt, L, hlen⟩
  clear L ebt
  refine W.aload C at_55 rfl rfl ?_
  refine W.bipush C (6 : Int32) at_57 rfl ?_
  refine W.lloadN C at_59 rfl ?_
  refine W.callS C (y' := y1) at_60 (tkw hw 2 rfl) (tkw hw 3 rfl) (tkw hw 4 rfl) (tkw hw 5 rfl) (by decide) (argsL := [(.ref a1), (.int (6 : Int32)), (.long p0)]) (rest := []) rfl (lenOf pd_0 rfl) (con_1 l Z a0 hw h8 n0 a1 (6 : Int32) p0 bs 6 hlen rfl ge_a1 La1 Z0) 0 1 8 rfl rfl rfl (by decide) (by decide) (by decide) (by decide) rfl ?_
  rintro _ h9 ⟨rfl, Kc, L⟩
  replace Z0 := Nat.le_trans Z0 Kc.1
  obtain ⟨bt, ebt⟩ : ∃ b : List Int32, b = bs.set 6 (own_b p0 (6 : Int32)) := ⟨_, rfl⟩
  rw [← ebt] at L
  replace hlen : bt.length ≤ 8 := by rw [ebt]; simpa using hlen
  rw [ebs] at ebt
  clear La1 ebs
  skip
  obtain ⟨bs, ebs, La1, hlen⟩ : ∃ b : List Int32, b = (((((((List.replicate i (0 : Int32)).set 0 (own_b p0 0)).set 1 (own_b p0 1)).set 2 (own_b p0 2)).set 3 (own_b p0 3)).set 4 (own_b p0 4)).set 5 (own_b p0 5)).set 6 (own_b p0 6) ∧ Al Z h9 a1 .byte (b.map Value.int) ∧ b.length ≤ 8 := ⟨bt, ebt, L, hlen⟩
  clear L ebt
  refine W.aload C at_63 rfl rfl ?_
  refine W.bipush C (7 : Int32) at_65 rfl ?_
  refine W.lloadN C at_67 rfl ?_
  refine W.callS C (y' := y1) at_68 (tkw hw 2 rfl) (tkw hw 3 rfl) (tkw hw 4 rfl) (tkw hw 5 rfl) (by decide) (argsL := [(.ref a1), (.int (7 : Int32)), (.long p0)]) (rest := []) rfl (lenOf pd_0 rfl) (con_1 l Z a0 hw h9 n0 a1 (7 : Int32) p0 bs 7 hlen rfl ge_a1 La1 Z0) 0 1 8 rfl rfl rfl (by decide) (by decide) (by decide) (by decide) rfl ?_
  rintro _ h10 ⟨rfl, Kc, L⟩
  replace Z0 := Nat.le_trans Z0 Kc.1
  obtain ⟨bt, ebt⟩ : ∃ b : List Int32, b = bs.set 7 (own_b p0 (7 : Int32)) := ⟨_, rfl⟩
  rw [← ebt] at L
  replace hlen : bt.length ≤ 8 := by rw [ebt]; simpa using hlen
  rw [ebs] at ebt
  clear La1 ebs
  skip
  obtain ⟨bs, ebs, La1, hlen⟩ : ∃ b : List Int32, b = ((((((((List.replicate i (0 : Int32)).set 0 (own_b p0 0)).set 1 (own_b p0 1)).set 2 (own_b p0 2)).set 3 (own_b p0 3)).set 4 (own_b p0 4)).set 5 (own_b p0 5)).set 6 (own_b p0 6)).set 7 (own_b p0 7) ∧ Al Z h10 a1 .byte (b.map Value.int) ∧ b.length ≤ 8 := ⟨bt, ebt, L, hlen⟩
  clear L ebt
  refine W.iloadN C at_71 rfl ?_
  refine W.if_ne C 81 at_72 rfl (fun b1 => ?_) (fun b1 => ?_)
  · skip
    refine W.lloadN C at_81 rfl ?_
    refine W.ldc2J C (v := (-1 : Int64)) at_82 (tkw hw 6 rfl) ?_
    refine W.bipush C (64 : Int32) at_85 rfl ?_
    refine W.bipush C (8 : Int32) at_87 rfl ?_
    refine W.iloadN C at_89 rfl ?_
    refine W.imul C at_90 ?_
    refine W.isub C at_91 ?_
    refine W.lshl C at_92 ?_
    refine W.land C at_93 ?_
    refine W.lstore C #[.val (.long p0), .second, .val (.int p1), .val (.int ((p1 &&& (2147483647 : Int32)) % (9 : Int32))), .val (.ref a1), .val (.long (p0 &&& ((-1 : Int64) <<< (((64 : Int32) - ((8 : Int32) * ((p1 &&& (2147483647 : Int32)) % (9 : Int32)))) &&& 0x3f).toInt64))), .second] at_94 rfl ?_
    refine W.aload C at_96 rfl rfl ?_
    refine W.callS C (y' := y2) at_98 (tkw hw 7 rfl) (tkw hw 8 rfl) (tkw hw 9 rfl) (tkw hw 10 rfl) (by decide) (argsL := [(.ref a1)]) (rest := []) rfl (lenOf pd_1 rfl) (con_2 l Z a0 hw h10 n0 a1 bs hlen La1 Z0) 0 1 8 rfl rfl rfl (by decide) (by decide) (by decide) (by decide) rfl ?_
    rintro _ _ ⟨rfl, rfl⟩
    refine W.lload C at_101 rfl ?_
    refine W.lcmp C at_103 ?_
    refine W.lif_ne C 111 at_104 rfl (fun b2 => absurd (by rw [ebs]; exact own_key p0 _ i hi hi9 b1) b2) (fun b2 => ?_)
    refine W.iconst C (1 : Int32) at_107 rfl ?_
    refine W.goto C 112 at_108 rfl ?_
    exact W.iret C at_112 (by simp) rfl (by decide) (by decide) rfl
  · skip
    refine W.lconst C (0 : Int64) at_75 rfl ?_
    refine W.lstore C #[.val (.long p0), .second, .val (.int p1), .val (.int ((p1 &&& (2147483647 : Int32)) % (9 : Int32))), .val (.ref a1), .val (.long (0 : Int64)), .second] at_76 rfl ?_
    refine W.goto C 96 at_78 rfl ?_
    refine W.aload C at_96 rfl rfl ?_
    refine W.callS C (y' := y2) at_98 (tkw hw 7 rfl) (tkw hw 8 rfl) (tkw hw 9 rfl) (tkw hw 10 rfl) (by decide) (argsL := [(.ref a1)]) (rest := []) rfl (lenOf pd_1 rfl) (con_2 l Z a0 hw h10 n0 a1 bs hlen La1 Z0) 0 1 8 rfl rfl rfl (by decide) (by decide) (by decide) (by decide) rfl ?_
    rintro _ _ ⟨rfl, rfl⟩
    refine W.lload C at_101 rfl ?_
    refine W.lcmp C at_103 ?_
    refine W.lif_ne C 111 at_104 rfl (fun b3 => absurd (by rw [ebs]; have q : i = 0 := (by have := hi; rw [b1] at this; have z0 : (0 : Int32).toInt = 0 := rfl; omega); subst q; exact own_key0 p0) b3) (fun b3 => ?_)
    refine W.iconst C (1 : Int32) at_107 rfl ?_
    refine W.goto C 112 at_108 rfl ?_
    exact W.iret C at_112 (by simp) rfl (by decide) (by decide) rfl

set_option maxRecDepth 65536 in
set_option maxHeartbeats 40000000 in
theorem comes_1 {Post : Tables → Env → Array Value → State → Outcome → State → Prop} (hpost : ∀ tb e args s v u, (limb_1_1.after args s (.returned v) u = true ∧ limb_1_2.after args s (.returned v) u = true ∧ True) → FrameEnd s (.returned v) u (Jvm.fieldLocs frame_1_writes args s ++ Jvm.arrayLocs frame_1_arrays args s ++ Jvm.staticLocs frame_1_statics s) 16 128 → Post tb e args s (.returned v) u) :
    ArmFor flags0 classFile x code maxLocals ret World_1 tables_1 room_1 Calls_1 rest_1 Pre_1 Post := by
  intro l hfl _ _ p e ha hc hk s m args below hf hA hF happ hP
  obtain ⟨hcalls, hrest, hpre⟩ := hP
  obtain ⟨-, -, -, hnamed, -, -, -, hat⟩ := (Spec.applies_iff hf).mp happ
  obtain ⟨hg, hn⟩ := and_e (Cond.before_iff.mp (show (Jvm.Cond.and given_1 narrow_1).before args s = true from hpre))
  obtain ⟨gc, g0⟩ := and_e hg
  obtain ⟨i0h, g1⟩ := and_e g0
  obtain ⟨w0, w1, rfl⟩ : ∃ w0 w1 : Value, args = #[w0, w1] := by
    have hs : args.size = 2 := by simpa [Cond.value, given_1] using gc
    obtain ⟨L⟩ := args
    match L, hs with
    | [w0, w1], _ => exact ⟨w0, w1, rfl⟩
  have hw := fun d (hd : d ∈ tables_1) => atoms_spec (ws := Jvm.Cond.code x code maxLocals ret :: tables_1) hat d (List.mem_cons_of_mem _ hd)
  have hfit : Fit s := fun {y c} hc i hi => by
    obtain ⟨ha, rfl⟩ := Array.getElem?_eq_some_iff.mp hc
    have q := List.all_eq_true.mp ((Array.all_eq_true_iff_forall_mem.mp hF) _ (Array.getElem_mem ha)) i (List.mem_range.mpr hi)
    simpa [Array.getElem?_eq_getElem hi] using q
  obtain ⟨i0, ei0⟩ := isL_v i0h
  obtain rfl : w0 = (.long i0) := Option.some.inj ei0
  obtain ⟨i1, ei1⟩ := is_v g1
  obtain rfl : w1 = (.int i1) := Option.some.inj ei1
  obtain ⟨n, o, h1, h2, h3, _, L, rfl, ⟨rfl, N⟩, hq⟩ := (con_0 l s _ hw s.heap s.heap.size i0 i1 (Nat.le_refl _)) tables_1 p e ha hc hk s m _ below hf ((Spec.applies_iff_loose hf).mp happ).1 ⟨rfl, State.Warmed39.refl s, rfl⟩ trivial
  refine ⟨n, _, h1, h2, h3, hpost _ _ _ _ _ _ ⟨Cond.after_iff.mpr rfl, Cond.after_iff.mpr (eq_i res_at (Term.int_eval (1)) rfl), trivial⟩ ⟨hq.1, hq.2.1, (hq.2.2.sift fun y hy => Or.inr (N y hy)).mono (by decide) (by decide)⟩⟩
theorem main_1_1 : Claimed_1_1 := comes_1 fun _ _ _ _ _ _ h hF => ⟨h.1, hF⟩
theorem main_1_2 : Claimed_1_2 := comes_1 fun _ _ _ _ _ _ h hF => ⟨h.2.1, hF⟩
end Jvm.Pilot.@@N@@
namespace Jvm.Pilot.@@N@@
open Jvm Jvm.ClassFile Sem Op Lib Jvm.Free Jvm.Stand Jvm.Pilot.@@N@@.Jvm.D
/-! MADE BY PROGRAM (witnessworld.py) out of the Statement's table words and the real class files: 9 classes; the members and pool entries that the words name. The judged class is class 1, her method 1. -/
namespace start1
open Jvm.ClassFile
def u (s : String) : CpInfo := .utf8 (stringToUtf16 s)
/-- a pool by its gaps: so many unusable entries, then the entry; so many at the end -/
def gap : Nat → List CpInfo → List CpInfo
  | 0, r => r
  | n + 1, r => .unusable :: gap n r
def poolList (es : List (Nat × CpInfo)) (last : Nat) : List CpInfo := es.foldr (fun e r => gap e.1 (e.2 :: r)) (gap last [])
def pool (es : List (Nat × CpInfo)) (last : Nat) : Array CpInfo := ⟨poolList es last⟩
def fileOf (pool : Array CpInfo) (this : Nat) (attrs : Array Attribute := #[]) (ms : Array MethodInfo := #[]) (fl : Nat := 33) (sup : Nat := 0) (ifs : Array Nat := #[]) (fds : Array FieldInfo := #[]) : ClassFile where
  minorVersion := 0
  majorVersion := 65
  constantPool := pool
  accessFlags := fl
  thisClass := this
  superClass := sup
  interfaces := ifs
  fields := fds
  methods := ms
  attributes := attrs
def plain (name : String) (sup : Option ClassId) : Class where
  name := name
  kind := .ordinary
  loader := none
  accessFlags := 33
  super := sup
  interfaces := #[]
  cf := none
  fields := #[]
  methods := #[]
  instanceTypes := #[]
  staticTypes := #[]
  resolved := #[]
  callSites := []
  init := .initialized
  statics := none
  mirror := none

def pool0 : Array CpInfo := pool [(5, u "<init>"), (0, u "()V"), (1, .class_ 10), (1, u "java/lang/Object")] 113

def k0m0 : Method := { name := "<init>", desc := "()V", sig := { parameters := [], returnType := none }, accessFlags := 1, code := none }
/-- java/lang/Object -/
def k0 : Class := { plain "java/lang/Object" none with
  accessFlags := 33
  interfaces := #[]
  cf := some (fileOf pool0 8 #[] #[{ accessFlags := 1, nameIndex := 5, descriptorIndex := 6, attributes := #[] }] 33 0 #[] #[])
  fields := #[]
  methods := #[k0m0]
  instanceTypes := #[]
  staticTypes := #[]
  resolved := Array.replicate 124 none
  statics := none }

def pool1 : Array CpInfo := pool [(2, .class_ 4), (1, u "java/lang/Object"), (0, u "<init>"), (0, u "()V"), (0, .integer 2147483647), (0, .methodref 9 10), (0, .class_ 11), (0, .nameAndType 12 13), (0, u "rollfind/WordOfPinLaw"), (0, u "put"), (0, u "([BIJ)V"), (0, .long 18446744073709551615), (1, .methodref 17 18), (0, .class_ 19), (0, .nameAndType 20 21), (0, u "rollfind/Word"), (0, u "of"), (0, u "([B)J"), (2, u "law"), (0, u "(JI)Z")] 5

def k1m0 : Method := { name := "<init>", desc := "()V", sig := { parameters := [], returnType := none }, accessFlags := 1, code := none }
def k1c1 : Code := { maxStack := 7, maxLocals := 7, code := code, exceptionTable := #[], attributes := #[] }
def k1m1 : Method := { name := "law", desc := "(JI)Z", sig := { parameters := [.long, .int], returnType := some .boolean }, accessFlags := 9, code := some k1c1 }
def k1c2 : Code := { maxStack := 7, maxLocals := 4, code := method_3_code, exceptionTable := #[], attributes := #[] }
def k1m2 : Method := { name := "put", desc := "([BIJ)V", sig := { parameters := [(.array .byte), .int, .long], returnType := none }, accessFlags := 10, code := some k1c2 }
/-- rollfind/WordOfPinLaw -/
def k1 : Class := { plain "rollfind/WordOfPinLaw" (some 0) with
  accessFlags := 49
  interfaces := #[]
  cf := some (fileOf pool1 9 #[] #[{ accessFlags := 1, nameIndex := 5, descriptorIndex := 6, attributes := #[] }, { accessFlags := 9, nameIndex := 24, descriptorIndex := 25, attributes := #[] }, { accessFlags := 10, nameIndex := 12, descriptorIndex := 13, attributes := #[] }] 49 2 #[] #[])
  fields := #[]
  methods := #[k1m0, k1m1, k1m2]
  instanceTypes := #[]
  staticTypes := #[]
  resolved := Array.replicate 31 none
  statics := none }

def pool2 : Array CpInfo := pool [(2, .class_ 4), (1, u "java/lang/Object"), (0, u "<init>"), (0, u "()V"), (1, .class_ 10), (1, u "rollfind/Word"), (0, u "AT"), (0, u "Ljava/lang/invoke/VarHandle;"), (36, u "of"), (0, u "([B)J")] 8

def k2m0 : Method := { name := "<init>", desc := "()V", sig := { parameters := [], returnType := none }, accessFlags := 2, code := none }
def k2c1 : Code := { maxStack := 4, maxLocals := 4, code := prog_32_method_4_code, exceptionTable := #[], attributes := #[] }
def k2m1 : Method := { name := "of", desc := "([B)J", sig := { parameters := [(.array .byte)], returnType := some .long }, accessFlags := 8, code := some k2c1 }
/-- rollfind/Word -/
def k2 : Class := { plain "rollfind/Word" (some 0) with
  accessFlags := 48
  interfaces := #[]
  cf := some (fileOf pool2 8 #[] #[{ accessFlags := 2, nameIndex := 5, descriptorIndex := 6, attributes := #[] }, { accessFlags := 8, nameIndex := 49, descriptorIndex := 50, attributes := #[] }] 48 2 #[] #[{ accessFlags := 26, nameIndex := 11, descriptorIndex := 12, attributes := #[] }])
  fields := #[{ name := "AT", type := (.object "java/lang/invoke/VarHandle"), accessFlags := 26, slot := 0, constantValue := 0 }]
  methods := #[k2m0, k2m1]
  instanceTypes := #[]
  staticTypes := #[(.object "java/lang/invoke/VarHandle")]
  resolved := Array.replicate 59 none
  statics := none }

def pool3 : Array CpInfo := pool [(1, u "java/lang/Cloneable"), (0, .class_ 1), (0, u "java/lang/Object"), (0, .class_ 3)] 3

/-- java/lang/Cloneable -/
def k3 : Class := { plain "java/lang/Cloneable" (some 0) with
  accessFlags := 1537
  interfaces := #[]
  cf := some (fileOf pool3 2 #[] #[] 1537 4 #[] #[])
  fields := #[]
  methods := #[]
  instanceTypes := #[]
  staticTypes := #[]
  resolved := Array.replicate 8 none
  statics := none }

def pool4 : Array CpInfo := pool [(1, u "java/io/Serializable"), (0, .class_ 1), (0, u "java/lang/Object"), (0, .class_ 3)] 3

/-- java/io/Serializable -/
def k4 : Class := { plain "java/io/Serializable" (some 0) with
  accessFlags := 1537
  interfaces := #[]
  cf := some (fileOf pool4 2 #[] #[] 1537 4 #[] #[])
  fields := #[]
  methods := #[]
  instanceTypes := #[]
  staticTypes := #[]
  resolved := Array.replicate 8 none
  statics := none }

/-- the primitive byte -/
def k5 : Class := { plain "byte" none with kind := .primitive 'B', accessFlags := 0x411 }
/-- [B -/
def k6 : Class := { plain "[B" (some 0) with kind := .array 5 .byte, interfaces := #[3, 4], accessFlags := 1041 }

/-- the primitive int -/
def k7 : Class := { plain "int" none with kind := .primitive 'I', accessFlags := 0x411 }
/-- [I -/
def k8 : Class := { plain "[I" (some 0) with kind := .array 7 .int, interfaces := #[3, 4], accessFlags := 1041 }

def heap : Heap := #[]
def classes : Array Class := #[k0, k1, k2, k3, k4, k5, k6, k7, k8]
def interned : List (Array UInt16 × Addr) := []
def slotsUsed : Nat := 0
def theMethod : MethodId := ⟨1, 1⟩
def args0 : Array Value := #[.long 5, .int 70000]
def aboutOver (below : List Frame) : State where
  vm := { classes := classes, interned := interned.toArray }
  heap := heap
  slotsUsed := slotsUsed
  threads := #[{ frames := .invoking theMethod args0 :: below }]
def below0 : List Frame := [.native { method := ⟨0, 0⟩, args := #[] }]
def about1 : State := aboutOver below0
def p0 : Program := .bare "" "" ""
def e0 : Env := launch0.env 0 0 0
theorem w_frames : about1.frames = Frame.invoking theMethod args0 :: below0 := rfl
set_option maxRecDepth 65536 in
theorem w_args : argsFit about1.vm theMethod args0 = true := by decide +kernel
set_option maxRecDepth 65536 in
theorem w_heap : heapFits about1 = true := by decide +kernel
set_option maxRecDepth 65536 in
theorem w_runnable : about1.curStatus? = some .runnable := by decide +kernel
set_option maxRecDepth 65536 in
theorem w_alone : about1.alone = true := by decide +kernel
set_option maxRecDepth 65536 in
theorem w_named : about1.methodNamed? x = some theMethod := by decide +kernel
set_option maxRecDepth 65536 in
theorem w_hears : about1.hears theMethod below0 = true := by decide +kernel
set_option maxRecDepth 65536 in
theorem w_ripe : about1.ripe theMethod args0 below0 = true := by decide +kernel
theorem w_running : about1.status = .running := rfl
set_option maxRecDepth 65536 in
theorem w_room : about1.hasRoom e0.platform room_1 = true :=
  launch0.hasRoom_least _ room_1 (by decide +kernel) (by decide +kernel) (by decide +kernel) (by decide +kernel) (by decide +kernel) (by decide +kernel)
theorem allAtoms_all (ts : List Jvm.Cond) (a : Array Jvm.Value) (st : Jvm.State) : (allAtoms ts).before a st = ts.all (fun c => c.before a st) := by
  induction ts with
  | nil => rfl
  | cons c t ih =>
    show (Jvm.Cond.and c (allAtoms t)).before a st = _
    rw [Jvm.Cond.before_and, ih, List.all_cons]
def words1 : List Jvm.Cond := Jvm.Cond.code x code maxLocals ret :: tables_1
/-- a 'code' word, met by the world's own term for the bytes: nothing is compared byte by byte -/
theorem code_word {y : MethodName} {bytes : ByteArray} {mx : Nat} {rt : Option FieldType} {a : Array Value} {s : State} {m : MethodId} {meth : Method} {c : Code} (h1 : s.methodNamed? y = some m) (h2 : s.vm.method? m = some meth) (h3 : meth.code = some c) (h4 : c.code = bytes)
    (h5 : (c.maxLocals == mx && c.exceptionTable.isEmpty && decide (c.maxStack ≤ mostOperands) && decide (meth.sig.returnType = rt) && !meth.locks && decide (parseMethodDescriptor y.desc = some meth.sig)) = true) : (Jvm.Cond.code y bytes mx rt).before a s = true := by
  simp only [Bool.and_eq_true, beq_iff_eq, Bool.not_eq_true', decide_eq_true_eq] at h5
  obtain ⟨⟨⟨⟨⟨g1, g2⟩, g3⟩, g4⟩, g5⟩, g6⟩ := h5
  simp [Cond.before, Cond.holds, Cond.value, h1, h2, h3, h4, g1, g2, g3, g4, g5, g6]
def isCode : Jvm.Cond → Bool
  | .code _ _ _ _ => true
  | _ => false
theorem all_split {L : List Jvm.Cond} {P : Jvm.Cond → Bool} (h1 : L.all (fun c => isCode c || P c) = true) (h2 : ∀ c ∈ L.filter isCode, P c = true) : L.all P = true := by
  refine List.all_eq_true.mpr fun c hc => ?_
  have h := List.all_eq_true.mp h1 c hc
  rcases Bool.eq_false_or_eq_true (isCode c) with hi | hi
  · exact h2 c (List.mem_filter.mpr ⟨hc, hi⟩)
  · simpa [hi] using h
set_option maxRecDepth 65536 in
theorem w_c0 : (Jvm.Cond.code x code maxLocals ret).before args0 about1 = true := code_word (m := ⟨1, 1⟩) (meth := k1m1) (c := k1c1) (by decide +kernel) rfl rfl rfl (by decide +kernel)
set_option maxRecDepth 65536 in
theorem w_c1 : (Jvm.Cond.code ({ cls := "rollfind/WordOfPinLaw", name := "put", desc := "([BIJ)V" } : Jvm.MethodName) method_3_code (4 : Nat) (Option.none : Option Jvm.ClassFile.FieldType)).before args0 about1 = true := code_word (m := ⟨1, 2⟩) (meth := k1m2) (c := k1c2) (by decide +kernel) rfl rfl rfl (by decide +kernel)
set_option maxRecDepth 65536 in
theorem w_c2 : (Jvm.Cond.code ({ cls := "rollfind/Word", name := "of", desc := "([B)J" } : Jvm.MethodName) prog_32_method_4_code (4 : Nat) (Option.some Jvm.ClassFile.FieldType.long)).before args0 about1 = true := code_word (m := ⟨2, 1⟩) (meth := k2m1) (c := k2c1) (by decide +kernel) rfl rfl rfl (by decide +kernel)
def codes1 : List Jvm.Cond := [Jvm.Cond.code x code maxLocals ret, Jvm.Cond.code ({ cls := "rollfind/WordOfPinLaw", name := "put", desc := "([BIJ)V" } : Jvm.MethodName) method_3_code (4 : Nat) (Option.none : Option Jvm.ClassFile.FieldType), Jvm.Cond.code ({ cls := "rollfind/Word", name := "of", desc := "([B)J" } : Jvm.MethodName) prog_32_method_4_code (4 : Nat) (Option.some Jvm.ClassFile.FieldType.long)]
set_option maxRecDepth 65536 in
theorem codes_eq : words1.filter isCode = codes1 := rfl
theorem w_codes : ∀ c ∈ words1.filter isCode, c.before args0 about1 = true := by
  rw [codes_eq]
  intro c hc
  simp only [codes1, List.mem_cons, List.not_mem_nil, or_false] at hc
  rcases hc with rfl | rfl | rfl
  · exact w_c0
  · exact w_c1
  · exact w_c2
set_option maxRecDepth 65536 in
theorem w_t1 : words1.all (fun c => isCode c || c.before args0 about1) = true := by decide +kernel
theorem w_tables : (allAtoms (Jvm.Cond.code x code maxLocals ret :: tables_1)).before args0 about1 = true := by
  rw [allAtoms_all]
  show words1.all (fun c => c.before args0 about1) = true
  refine all_split ?_ w_codes
  rw [w_t1]
set_option maxRecDepth 65536 in
theorem w_case : (Jvm.Cond.and given_1 narrow_1).before args0 about1 = true := by decide +kernel
theorem w_applies : (headSpec (Jvm.Cond.code x code maxLocals ret :: tables_1) room_1).applies x e0.platform about1 = true :=
  (Spec.applies_iff w_frames).mpr ⟨w_running, w_runnable, w_alone, w_named, w_hears, w_ripe, w_room, w_tables⟩
theorem atStart : AtStart classFile x code maxLocals ret World_1 tables_1 room_1 Calls_1 rest_1 Pre_1 launch0 p0 e0 about1 theMethod args0 below0 :=
  ⟨lists_1, trivial, launch0.admits_env _ _ _, launch0.least_env, fairChoices_fair.cas, fairChoices_fair.clock, w_frames, w_args, w_heap, w_applies, trivial, trivial, w_case⟩
end start1
theorem witness_1 : WitnessClaimed_1 := ⟨start1.p0, start1.e0, start1.about1, start1.theMethod, start1.args0, start1.below0, start1.atStart⟩
end Jvm.Pilot.@@N@@
