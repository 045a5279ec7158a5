import JvmDerived
import JvmDerived.Pilot.@@N@@Statement
import JvmDerived.Pilot.@@N@@Code
set_option linter.unusedVariables false
set_option linter.unusedSimpArgs false
namespace Jvm.OwnKit
open Jvm Sem ClassFile Op Lib Jvm.Stand Jvm.Free Jvm.LawKit Jvm.RoadKit
/-- what a body's walk knows of its frame throughout -/
def Cx (p : Program) (s : State) (m : MethodId) (meth : Method) (c : Code) (Z : State) (y : MethodName) (bytes : ByteArray) (ml : Nat) (ret : Option FieldType) : Prop :=
  p.tables.exec = Jvm.exec ∧ Z.Warmed39 s.vm ∧ s.vm.findClass y.cls = some m.cls ∧ c.code = bytes ∧ c.maxLocals = ml ∧ meth.sig.returnType = ret ∧ meth.locks = false ∧ meth.name = y.name
/-- from the heap h, k cells and n slots made so far, the frame at pc with these locals and this stack comes to its end, and Q holds of the result and the last heap -/
def W (p : Program) (l : Launch) (e : Env) (R : Room) (s : State) (m : MethodId) (args : Array Value) (below : List Frame) (meth : Method) (c : Code) (n0 : Nat) (Q : Option Value → Heap → Prop) (kc ks : Nat)
    (k n : Nat) (h : Heap) (pc : Nat) (ls : Array Slot) (st : List Value) : Prop :=
  ∀ (T : State) (locs : List Loc), Stand p l e R s m args below meth c T locs k n → T.heap = h → Fr n0 locs →
    ∃ s₂ o, Steps p.tables e below (T.setTop (mkF m pc ls st)) s₂ ∧ s₂.status = .running ∧ Ended s₂ below o ∧ ∃ v L, o = .returned v ∧ (Q v s₂.heap ∧ Fr n0 L) ∧ FrameEnd s o s₂ L kc ks
/-- a body's contract -/
def Con (l : Launch) (Z : State) (y : MethodName) (bytes : ByteArray) (ml : Nat) (ret : Option FieldType) (rm : Room) (as' : Array Value) (h0 : Heap) (n0 : Nat) (Q : Option Value → Heap → Prop) : Prop :=
  ∀ ws : List Jvm.Cond, MetFree l y (head1 (Jvm.Cond.code y bytes ml ret :: ws) rm) (fun a U => a = as' ∧ Z.Warmed39 U.vm ∧ U.heap = h0) (fun _ _ _ _ _ => True) (fun _ U o U' => ∃ v L, o = .returned v ∧ (Q v U'.heap ∧ Fr n0 L) ∧ FrameEnd U o U' L rm.cells rm.slots)
/-- it returns v and leaves the heap -/
def Pu (v : Option Value) (h : Heap) : Option Value → Heap → Prop := fun v' h' => v' = v ∧ h = h'
section
variable {p : Program} {l : Launch} {e : Env} {R : Room} {s : State} {m : MethodId} {args : Array Value} {below : List Frame} {meth : Method} {c : Code} {Z : State} {y : MethodName} {bytes : ByteArray} {ml : Nat} {ret : Option FieldType} {n0 : Nat} {Q : Option Value → Heap → Prop} {kc ks k n : Nat} {h : Heap} {pc : Nat} {ls : Array Slot} {st : List Value} {a0 : Array Value}
theorem Cx.a (C : Cx p s m meth c Z y bytes ml ret) {pc : Nat} {r : Except ClassFile.DecodeError (ClassFile.Instr × Nat)} (h2 : ClassFile.decode bytes pc = r) : ClassFile.decode c.code pc = r := C.2.2.2.1 ▸ h2
theorem Con.of {rm : Room} {as' : Array Value} {h0 : Heap} (hpn : plainFor y = true) {ls : Array Slot} (hent : ∀ m, entryFrame m as' ml = mkF m 0 ls [])
    (hW : ∀ p e s m below meth c, Cx p s m meth c Z y bytes ml ret → W p l e rm s m as' below meth c n0 Q rm.cells rm.slots 0 0 h0 0 ls []) : Con l Z y bytes ml ret rm as' h0 n0 Q := by
  intro ws
  refine MetFree.of_bodySF hpn hisR ?_
  intro p e s m args below meth c s₁ Bd hml0 hP hK
  obtain ⟨rfl, hZ, hh⟩ := hP
  have X0 : Stand p l e rm s m _ below meth c s₁ [] 0 0 := Stand.of_body Bd
  have e0 : s₁.heap = h0 := by rw [← hh, Bd.state]; rfl
  obtain ⟨s₂, o, h1, h2⟩ := hW p e s m below meth c ⟨Bd.exec, hZ, findClass_of_methodNamed Bd.named, Bd.bytes, hml0, Bd.returns, Bd.notSynchronized, (name_of_methodNamed Bd.named Bd.method).1⟩ s₁ [] X0 e0 (Fr.nil n0)
  exact ⟨s₂, o, castTop (hent m) h1, h2⟩
theorem W.lift {pc' : Nat} {ls' : Array Slot} {st' : List Value} (f : ∀ T target, At T m c below → Steps p.tables e below (T.setTop (mkF m pc' ls' st')) target → Steps p.tables e below (T.setTop (mkF m pc ls st)) target) (K : W p l e R s m args below meth c n0 Q kc ks k n h pc' ls' st') : W p l e R s m args below meth c n0 Q kc ks k n h pc ls st := fun T locs X eT N => by
  obtain ⟨s₂, o, h1, h2⟩ := K T locs X eT N
  exact ⟨s₂, o, f T _ X.here h1, h2⟩
theorem W.heap {h' : Heap} (q : h = h') (K : W p l e R s m args below meth c n0 Q kc ks k n h' pc ls st) : W p l e R s m args below meth c n0 Q kc ks k n h pc ls st := q ▸ K
theorem W.room {k' n' : Nat} (hk : k ≤ k') (hn : n ≤ n') (K : W p l e R s m args below meth c n0 Q kc ks k' n' h pc ls st) : W p l e R s m args below meth c n0 Q kc ks k n h pc ls st := fun T locs X eT N => K T locs ⟨X.admits, X.cas, X.clock, X.frames, X.room, X.hears, X.method, X.code, X.here, X.tail, X.warmed, X.limits, X.bytes, X.same.mono hk hn⟩ eT N
theorem W.iaddV (C : Cx p s m meth c Z y bytes ml ret) {u v : Int32} (z : Int32) (d : decode bytes pc = .ok (.iadd, 1)) (hz : (u + v) = z) (K : W p l e R s m args below meth c n0 Q kc ks k n h (pc + 1) ls (.int z :: st)) : W p l e R s m args below meth c n0 Q kc ks k n h pc ls (.int v :: .int u :: st) :=
  W.lift (fun T t H S => XS.iadd H C.1 rfl (C.a d) rfl (by subst hz; exact S)) K
theorem W.iadd (C : Cx p s m meth c Z y bytes ml ret) {u v : Int32} (d : decode bytes pc = .ok (.iadd, 1)) (K : W p l e R s m args below meth c n0 Q kc ks k n h (pc + 1) ls (.int (u + v) :: st)) : W p l e R s m args below meth c n0 Q kc ks k n h pc ls (.int v :: .int u :: st) :=
  W.lift (fun T t H S => XS.iadd H C.1 rfl (C.a d) rfl S) K
theorem W.isubV (C : Cx p s m meth c Z y bytes ml ret) {u v : Int32} (z : Int32) (d : decode bytes pc = .ok (.isub, 1)) (hz : (u - v) = z) (K : W p l e R s m args below meth c n0 Q kc ks k n h (pc + 1) ls (.int z :: st)) : W p l e R s m args below meth c n0 Q kc ks k n h pc ls (.int v :: .int u :: st) :=
  W.lift (fun T t H S => XS.isub H C.1 rfl (C.a d) rfl (by subst hz; exact S)) K
theorem W.isub (C : Cx p s m meth c Z y bytes ml ret) {u v : Int32} (d : decode bytes pc = .ok (.isub, 1)) (K : W p l e R s m args below meth c n0 Q kc ks k n h (pc + 1) ls (.int (u - v) :: st)) : W p l e R s m args below meth c n0 Q kc ks k n h pc ls (.int v :: .int u :: st) :=
  W.lift (fun T t H S => XS.isub H C.1 rfl (C.a d) rfl S) K
theorem W.imulV (C : Cx p s m meth c Z y bytes ml ret) {u v : Int32} (z : Int32) (d : decode bytes pc = .ok (.imul, 1)) (hz : (u * v) = z) (K : W p l e R s m args below meth c n0 Q kc ks k n h (pc + 1) ls (.int z :: st)) : W p l e R s m args below meth c n0 Q kc ks k n h pc ls (.int v :: .int u :: st) :=
  W.lift (fun T t H S => XS.imul H C.1 rfl (C.a d) rfl (by subst hz; exact S)) K
theorem W.imul (C : Cx p s m meth c Z y bytes ml ret) {u v : Int32} (d : decode bytes pc = .ok (.imul, 1)) (K : W p l e R s m args below meth c n0 Q kc ks k n h (pc + 1) ls (.int (u * v) :: st)) : W p l e R s m args below meth c n0 Q kc ks k n h pc ls (.int v :: .int u :: st) :=
  W.lift (fun T t H S => XS.imul H C.1 rfl (C.a d) rfl S) K
theorem W.iandV (C : Cx p s m meth c Z y bytes ml ret) {u v : Int32} (z : Int32) (d : decode bytes pc = .ok (.iand, 1)) (hz : (u &&& v) = z) (K : W p l e R s m args below meth c n0 Q kc ks k n h (pc + 1) ls (.int z :: st)) : W p l e R s m args below meth c n0 Q kc ks k n h pc ls (.int v :: .int u :: st) :=
  W.lift (fun T t H S => XS.iand H C.1 rfl (C.a d) rfl (by subst hz; exact S)) K
theorem W.iand (C : Cx p s m meth c Z y bytes ml ret) {u v : Int32} (d : decode bytes pc = .ok (.iand, 1)) (K : W p l e R s m args below meth c n0 Q kc ks k n h (pc + 1) ls (.int (u &&& v) :: st)) : W p l e R s m args below meth c n0 Q kc ks k n h pc ls (.int v :: .int u :: st) :=
  W.lift (fun T t H S => XS.iand H C.1 rfl (C.a d) rfl S) K
theorem W.iorV (C : Cx p s m meth c Z y bytes ml ret) {u v : Int32} (z : Int32) (d : decode bytes pc = .ok (.ior, 1)) (hz : (u ||| v) = z) (K : W p l e R s m args below meth c n0 Q kc ks k n h (pc + 1) ls (.int z :: st)) : W p l e R s m args below meth c n0 Q kc ks k n h pc ls (.int v :: .int u :: st) :=
  W.lift (fun T t H S => XS.ior H C.1 rfl (C.a d) rfl (by subst hz; exact S)) K
theorem W.ior (C : Cx p s m meth c Z y bytes ml ret) {u v : Int32} (d : decode bytes pc = .ok (.ior, 1)) (K : W p l e R s m args below meth c n0 Q kc ks k n h (pc + 1) ls (.int (u ||| v) :: st)) : W p l e R s m args below meth c n0 Q kc ks k n h pc ls (.int v :: .int u :: st) :=
  W.lift (fun T t H S => XS.ior H C.1 rfl (C.a d) rfl S) K
theorem W.ixorV (C : Cx p s m meth c Z y bytes ml ret) {u v : Int32} (z : Int32) (d : decode bytes pc = .ok (.ixor, 1)) (hz : (u ^^^ v) = z) (K : W p l e R s m args below meth c n0 Q kc ks k n h (pc + 1) ls (.int z :: st)) : W p l e R s m args below meth c n0 Q kc ks k n h pc ls (.int v :: .int u :: st) :=
  W.lift (fun T t H S => XS.ixor H C.1 rfl (C.a d) rfl (by subst hz; exact S)) K
theorem W.ixor (C : Cx p s m meth c Z y bytes ml ret) {u v : Int32} (d : decode bytes pc = .ok (.ixor, 1)) (K : W p l e R s m args below meth c n0 Q kc ks k n h (pc + 1) ls (.int (u ^^^ v) :: st)) : W p l e R s m args below meth c n0 Q kc ks k n h pc ls (.int v :: .int u :: st) :=
  W.lift (fun T t H S => XS.ixor H C.1 rfl (C.a d) rfl S) K
theorem W.ishlV (C : Cx p s m meth c Z y bytes ml ret) {u v : Int32} (z : Int32) (d : decode bytes pc = .ok (.ishl, 1)) (hz : (u <<< (v &&& 31)) = z) (K : W p l e R s m args below meth c n0 Q kc ks k n h (pc + 1) ls (.int z :: st)) : W p l e R s m args below meth c n0 Q kc ks k n h pc ls (.int v :: .int u :: st) :=
  W.lift (fun T t H S => XS.ishl H C.1 rfl (C.a d) rfl (by subst hz; exact S)) K
theorem W.ishl (C : Cx p s m meth c Z y bytes ml ret) {u v : Int32} (d : decode bytes pc = .ok (.ishl, 1)) (K : W p l e R s m args below meth c n0 Q kc ks k n h (pc + 1) ls (.int (u <<< (v &&& 31)) :: st)) : W p l e R s m args below meth c n0 Q kc ks k n h pc ls (.int v :: .int u :: st) :=
  W.lift (fun T t H S => XS.ishl H C.1 rfl (C.a d) rfl S) K
theorem W.ishrV (C : Cx p s m meth c Z y bytes ml ret) {u v : Int32} (z : Int32) (d : decode bytes pc = .ok (.ishr, 1)) (hz : (u >>> (v &&& 31)) = z) (K : W p l e R s m args below meth c n0 Q kc ks k n h (pc + 1) ls (.int z :: st)) : W p l e R s m args below meth c n0 Q kc ks k n h pc ls (.int v :: .int u :: st) :=
  W.lift (fun T t H S => XS.ishr H C.1 rfl (C.a d) rfl (by subst hz; exact S)) K
theorem W.ishr (C : Cx p s m meth c Z y bytes ml ret) {u v : Int32} (d : decode bytes pc = .ok (.ishr, 1)) (K : W p l e R s m args below meth c n0 Q kc ks k n h (pc + 1) ls (.int (u >>> (v &&& 31)) :: st)) : W p l e R s m args below meth c n0 Q kc ks k n h pc ls (.int v :: .int u :: st) :=
  W.lift (fun T t H S => XS.ishr H C.1 rfl (C.a d) rfl S) K
theorem W.iushrV (C : Cx p s m meth c Z y bytes ml ret) {u v : Int32} (z : Int32) (d : decode bytes pc = .ok (.iushr, 1)) (hz : ((u.toUInt32 >>> (v &&& 31).toUInt32).toInt32) = z) (K : W p l e R s m args below meth c n0 Q kc ks k n h (pc + 1) ls (.int z :: st)) : W p l e R s m args below meth c n0 Q kc ks k n h pc ls (.int v :: .int u :: st) :=
  W.lift (fun T t H S => XS.iushr H C.1 rfl (C.a d) rfl (by subst hz; exact S)) K
theorem W.iushr (C : Cx p s m meth c Z y bytes ml ret) {u v : Int32} (d : decode bytes pc = .ok (.iushr, 1)) (K : W p l e R s m args below meth c n0 Q kc ks k n h (pc + 1) ls (.int ((u.toUInt32 >>> (v &&& 31).toUInt32).toInt32) :: st)) : W p l e R s m args below meth c n0 Q kc ks k n h pc ls (.int v :: .int u :: st) :=
  W.lift (fun T t H S => XS.iushr H C.1 rfl (C.a d) rfl S) K
theorem W.laddV (C : Cx p s m meth c Z y bytes ml ret) {u v : Int64} (z : Int64) (d : decode bytes pc = .ok (.ladd, 1)) (hz : (u + v) = z) (K : W p l e R s m args below meth c n0 Q kc ks k n h (pc + 1) ls (.long z :: st)) : W p l e R s m args below meth c n0 Q kc ks k n h pc ls (.long v :: .long u :: st) :=
  W.lift (fun T t H S => XS.ladd H C.1 rfl (C.a d) rfl (by subst hz; exact S)) K
theorem W.ladd (C : Cx p s m meth c Z y bytes ml ret) {u v : Int64} (d : decode bytes pc = .ok (.ladd, 1)) (K : W p l e R s m args below meth c n0 Q kc ks k n h (pc + 1) ls (.long (u + v) :: st)) : W p l e R s m args below meth c n0 Q kc ks k n h pc ls (.long v :: .long u :: st) :=
  W.lift (fun T t H S => XS.ladd H C.1 rfl (C.a d) rfl S) K
theorem W.lsubV (C : Cx p s m meth c Z y bytes ml ret) {u v : Int64} (z : Int64) (d : decode bytes pc = .ok (.lsub, 1)) (hz : (u - v) = z) (K : W p l e R s m args below meth c n0 Q kc ks k n h (pc + 1) ls (.long z :: st)) : W p l e R s m args below meth c n0 Q kc ks k n h pc ls (.long v :: .long u :: st) :=
  W.lift (fun T t H S => XS.lsub H C.1 rfl (C.a d) rfl (by subst hz; exact S)) K
theorem W.lsub (C : Cx p s m meth c Z y bytes ml ret) {u v : Int64} (d : decode bytes pc = .ok (.lsub, 1)) (K : W p l e R s m args below meth c n0 Q kc ks k n h (pc + 1) ls (.long (u - v) :: st)) : W p l e R s m args below meth c n0 Q kc ks k n h pc ls (.long v :: .long u :: st) :=
  W.lift (fun T t H S => XS.lsub H C.1 rfl (C.a d) rfl S) K
theorem W.lmulV (C : Cx p s m meth c Z y bytes ml ret) {u v : Int64} (z : Int64) (d : decode bytes pc = .ok (.lmul, 1)) (hz : (u * v) = z) (K : W p l e R s m args below meth c n0 Q kc ks k n h (pc + 1) ls (.long z :: st)) : W p l e R s m args below meth c n0 Q kc ks k n h pc ls (.long v :: .long u :: st) :=
  W.lift (fun T t H S => XS.lmul H C.1 rfl (C.a d) rfl (by subst hz; exact S)) K
theorem W.lmul (C : Cx p s m meth c Z y bytes ml ret) {u v : Int64} (d : decode bytes pc = .ok (.lmul, 1)) (K : W p l e R s m args below meth c n0 Q kc ks k n h (pc + 1) ls (.long (u * v) :: st)) : W p l e R s m args below meth c n0 Q kc ks k n h pc ls (.long v :: .long u :: st) :=
  W.lift (fun T t H S => XS.lmul H C.1 rfl (C.a d) rfl S) K
theorem W.landV (C : Cx p s m meth c Z y bytes ml ret) {u v : Int64} (z : Int64) (d : decode bytes pc = .ok (.land, 1)) (hz : (u &&& v) = z) (K : W p l e R s m args below meth c n0 Q kc ks k n h (pc + 1) ls (.long z :: st)) : W p l e R s m args below meth c n0 Q kc ks k n h pc ls (.long v :: .long u :: st) :=
  W.lift (fun T t H S => XS.land H C.1 rfl (C.a d) rfl (by subst hz; exact S)) K
theorem W.land (C : Cx p s m meth c Z y bytes ml ret) {u v : Int64} (d : decode bytes pc = .ok (.land, 1)) (K : W p l e R s m args below meth c n0 Q kc ks k n h (pc + 1) ls (.long (u &&& v) :: st)) : W p l e R s m args below meth c n0 Q kc ks k n h pc ls (.long v :: .long u :: st) :=
  W.lift (fun T t H S => XS.land H C.1 rfl (C.a d) rfl S) K
theorem W.lorV (C : Cx p s m meth c Z y bytes ml ret) {u v : Int64} (z : Int64) (d : decode bytes pc = .ok (.lor, 1)) (hz : (u ||| v) = z) (K : W p l e R s m args below meth c n0 Q kc ks k n h (pc + 1) ls (.long z :: st)) : W p l e R s m args below meth c n0 Q kc ks k n h pc ls (.long v :: .long u :: st) :=
  W.lift (fun T t H S => XS.lor H C.1 rfl (C.a d) rfl (by subst hz; exact S)) K
theorem W.lor (C : Cx p s m meth c Z y bytes ml ret) {u v : Int64} (d : decode bytes pc = .ok (.lor, 1)) (K : W p l e R s m args below meth c n0 Q kc ks k n h (pc + 1) ls (.long (u ||| v) :: st)) : W p l e R s m args below meth c n0 Q kc ks k n h pc ls (.long v :: .long u :: st) :=
  W.lift (fun T t H S => XS.lor H C.1 rfl (C.a d) rfl S) K
theorem W.lxorV (C : Cx p s m meth c Z y bytes ml ret) {u v : Int64} (z : Int64) (d : decode bytes pc = .ok (.lxor, 1)) (hz : (u ^^^ v) = z) (K : W p l e R s m args below meth c n0 Q kc ks k n h (pc + 1) ls (.long z :: st)) : W p l e R s m args below meth c n0 Q kc ks k n h pc ls (.long v :: .long u :: st) :=
  W.lift (fun T t H S => XS.lxor H C.1 rfl (C.a d) rfl (by subst hz; exact S)) K
theorem W.lxor (C : Cx p s m meth c Z y bytes ml ret) {u v : Int64} (d : decode bytes pc = .ok (.lxor, 1)) (K : W p l e R s m args below meth c n0 Q kc ks k n h (pc + 1) ls (.long (u ^^^ v) :: st)) : W p l e R s m args below meth c n0 Q kc ks k n h pc ls (.long v :: .long u :: st) :=
  W.lift (fun T t H S => XS.lxor H C.1 rfl (C.a d) rfl S) K
theorem W.lshlV (C : Cx p s m meth c Z y bytes ml ret) {u : Int64} {v : Int32} (z : Int64) (d : decode bytes pc = .ok (.lshl, 1)) (hz : (u <<< (v &&& 0x3f).toInt64) = z) (K : W p l e R s m args below meth c n0 Q kc ks k n h (pc + 1) ls (.long z :: st)) : W p l e R s m args below meth c n0 Q kc ks k n h pc ls (.int v :: .long u :: st) :=
  W.lift (fun T t H S => XS.lshl H C.1 rfl (C.a d) rfl (by subst hz; exact S)) K
theorem W.lshl (C : Cx p s m meth c Z y bytes ml ret) {u : Int64} {v : Int32} (d : decode bytes pc = .ok (.lshl, 1)) (K : W p l e R s m args below meth c n0 Q kc ks k n h (pc + 1) ls (.long (u <<< (v &&& 0x3f).toInt64) :: st)) : W p l e R s m args below meth c n0 Q kc ks k n h pc ls (.int v :: .long u :: st) :=
  W.lift (fun T t H S => XS.lshl H C.1 rfl (C.a d) rfl S) K
theorem W.lshrV (C : Cx p s m meth c Z y bytes ml ret) {u : Int64} {v : Int32} (z : Int64) (d : decode bytes pc = .ok (.lshr, 1)) (hz : (u >>> (v &&& 0x3f).toInt64) = z) (K : W p l e R s m args below meth c n0 Q kc ks k n h (pc + 1) ls (.long z :: st)) : W p l e R s m args below meth c n0 Q kc ks k n h pc ls (.int v :: .long u :: st) :=
  W.lift (fun T t H S => XS.lshr H C.1 rfl (C.a d) rfl (by subst hz; exact S)) K
theorem W.lshr (C : Cx p s m meth c Z y bytes ml ret) {u : Int64} {v : Int32} (d : decode bytes pc = .ok (.lshr, 1)) (K : W p l e R s m args below meth c n0 Q kc ks k n h (pc + 1) ls (.long (u >>> (v &&& 0x3f).toInt64) :: st)) : W p l e R s m args below meth c n0 Q kc ks k n h pc ls (.int v :: .long u :: st) :=
  W.lift (fun T t H S => XS.lshr H C.1 rfl (C.a d) rfl S) K
theorem W.lushrV (C : Cx p s m meth c Z y bytes ml ret) {u : Int64} {v : Int32} (z : Int64) (d : decode bytes pc = .ok (.lushr, 1)) (hz : ((u.toUInt64 >>> (v &&& 0x3f).toInt64.toUInt64).toInt64) = z) (K : W p l e R s m args below meth c n0 Q kc ks k n h (pc + 1) ls (.long z :: st)) : W p l e R s m args below meth c n0 Q kc ks k n h pc ls (.int v :: .long u :: st) :=
  W.lift (fun T t H S => XS.lushr H C.1 rfl (C.a d) rfl (by subst hz; exact S)) K
theorem W.lushr (C : Cx p s m meth c Z y bytes ml ret) {u : Int64} {v : Int32} (d : decode bytes pc = .ok (.lushr, 1)) (K : W p l e R s m args below meth c n0 Q kc ks k n h (pc + 1) ls (.long ((u.toUInt64 >>> (v &&& 0x3f).toInt64.toUInt64).toInt64) :: st)) : W p l e R s m args below meth c n0 Q kc ks k n h pc ls (.int v :: .long u :: st) :=
  W.lift (fun T t H S => XS.lushr H C.1 rfl (C.a d) rfl S) K
theorem W.idivV (C : Cx p s m meth c Z y bytes ml ret) {u v : Int32} (z : Int32) (d : decode bytes pc = .ok (.idiv, 1)) (hy : v ≠ 0) (hz : (u / v) = z) (K : W p l e R s m args below meth c n0 Q kc ks k n h (pc + 1) ls (.int z :: st)) : W p l e R s m args below meth c n0 Q kc ks k n h pc ls (.int v :: .int u :: st) :=
  W.lift (fun T t H S => XS.idiv H C.1 rfl (C.a d) rfl hy (by subst hz; exact S)) K
theorem W.idiv (C : Cx p s m meth c Z y bytes ml ret) {u v : Int32} (d : decode bytes pc = .ok (.idiv, 1)) (hy : v ≠ 0) (K : W p l e R s m args below meth c n0 Q kc ks k n h (pc + 1) ls (.int (u / v) :: st)) : W p l e R s m args below meth c n0 Q kc ks k n h pc ls (.int v :: .int u :: st) :=
  W.lift (fun T t H S => XS.idiv H C.1 rfl (C.a d) rfl hy S) K
theorem W.irem (C : Cx p s m meth c Z y bytes ml ret) {u v : Int32} (d : decode bytes pc = .ok (.irem, 1)) (hy : v ≠ 0) (K : W p l e R s m args below meth c n0 Q kc ks k n h (pc + 1) ls (.int (u % v) :: st)) : W p l e R s m args below meth c n0 Q kc ks k n h pc ls (.int v :: .int u :: st) :=
  W.lift (fun T t H S => XS.irem H C.1 rfl (C.a d) rfl hy (by rw [irem_eq_mod u v]; exact S)) K
theorem W.ldivV (C : Cx p s m meth c Z y bytes ml ret) {u v : Int64} (z : Int64) (d : decode bytes pc = .ok (.ldiv, 1)) (hy : v ≠ 0) (hz : (u / v) = z) (K : W p l e R s m args below meth c n0 Q kc ks k n h (pc + 1) ls (.long z :: st)) : W p l e R s m args below meth c n0 Q kc ks k n h pc ls (.long v :: .long u :: st) :=
  W.lift (fun T t H S => XS.ldiv H C.1 rfl (C.a d) rfl hy (by subst hz; exact S)) K
theorem W.ldiv (C : Cx p s m meth c Z y bytes ml ret) {u v : Int64} (d : decode bytes pc = .ok (.ldiv, 1)) (hy : v ≠ 0) (K : W p l e R s m args below meth c n0 Q kc ks k n h (pc + 1) ls (.long (u / v) :: st)) : W p l e R s m args below meth c n0 Q kc ks k n h pc ls (.long v :: .long u :: st) :=
  W.lift (fun T t H S => XS.ldiv H C.1 rfl (C.a d) rfl hy S) K
theorem W.lrem (C : Cx p s m meth c Z y bytes ml ret) {u v : Int64} (d : decode bytes pc = .ok (.lrem, 1)) (hy : v ≠ 0) (K : W p l e R s m args below meth c n0 Q kc ks k n h (pc + 1) ls (.long (u % v) :: st)) : W p l e R s m args below meth c n0 Q kc ks k n h pc ls (.long v :: .long u :: st) :=
  W.lift (fun T t H S => XS.lrem H C.1 rfl (C.a d) rfl hy (by rw [lrem_mod u v]; exact S)) K
theorem W.inegV (C : Cx p s m meth c Z y bytes ml ret) {u : Int32} (z : Int32) (d : decode bytes pc = .ok (.ineg, 1)) (hz : (-u) = z) (K : W p l e R s m args below meth c n0 Q kc ks k n h (pc + 1) ls (.int z :: st)) : W p l e R s m args below meth c n0 Q kc ks k n h pc ls (.int u :: st) :=
  W.lift (fun T t H S => XS.ineg H C.1 rfl (C.a d) rfl (by subst hz; exact S)) K
theorem W.ineg (C : Cx p s m meth c Z y bytes ml ret) {u : Int32} (d : decode bytes pc = .ok (.ineg, 1)) (K : W p l e R s m args below meth c n0 Q kc ks k n h (pc + 1) ls (.int (-u) :: st)) : W p l e R s m args below meth c n0 Q kc ks k n h pc ls (.int u :: st) :=
  W.lift (fun T t H S => XS.ineg H C.1 rfl (C.a d) rfl S) K
theorem W.i2bV (C : Cx p s m meth c Z y bytes ml ret) {u : Int32} (z : Int32) (d : decode bytes pc = .ok (.i2b, 1)) (hz : (u.toInt8.toInt32) = z) (K : W p l e R s m args below meth c n0 Q kc ks k n h (pc + 1) ls (.int z :: st)) : W p l e R s m args below meth c n0 Q kc ks k n h pc ls (.int u :: st) :=
  W.lift (fun T t H S => XS.i2b H C.1 rfl (C.a d) rfl (by subst hz; exact S)) K
theorem W.i2b (C : Cx p s m meth c Z y bytes ml ret) {u : Int32} (d : decode bytes pc = .ok (.i2b, 1)) (K : W p l e R s m args below meth c n0 Q kc ks k n h (pc + 1) ls (.int (u.toInt8.toInt32) :: st)) : W p l e R s m args below meth c n0 Q kc ks k n h pc ls (.int u :: st) :=
  W.lift (fun T t H S => XS.i2b H C.1 rfl (C.a d) rfl S) K
theorem W.i2cV (C : Cx p s m meth c Z y bytes ml ret) {u : Int32} (z : Int32) (d : decode bytes pc = .ok (.i2c, 1)) (hz : (u.toUInt32.toUInt16.toUInt32.toInt32) = z) (K : W p l e R s m args below meth c n0 Q kc ks k n h (pc + 1) ls (.int z :: st)) : W p l e R s m args below meth c n0 Q kc ks k n h pc ls (.int u :: st) :=
  W.lift (fun T t H S => XS.i2c H C.1 rfl (C.a d) rfl (by subst hz; exact S)) K
theorem W.i2c (C : Cx p s m meth c Z y bytes ml ret) {u : Int32} (d : decode bytes pc = .ok (.i2c, 1)) (K : W p l e R s m args below meth c n0 Q kc ks k n h (pc + 1) ls (.int (u.toUInt32.toUInt16.toUInt32.toInt32) :: st)) : W p l e R s m args below meth c n0 Q kc ks k n h pc ls (.int u :: st) :=
  W.lift (fun T t H S => XS.i2c H C.1 rfl (C.a d) rfl S) K
theorem W.i2sV (C : Cx p s m meth c Z y bytes ml ret) {u : Int32} (z : Int32) (d : decode bytes pc = .ok (.i2s, 1)) (hz : (u.toInt16.toInt32) = z) (K : W p l e R s m args below meth c n0 Q kc ks k n h (pc + 1) ls (.int z :: st)) : W p l e R s m args below meth c n0 Q kc ks k n h pc ls (.int u :: st) :=
  W.lift (fun T t H S => XS.i2s H C.1 rfl (C.a d) rfl (by subst hz; exact S)) K
theorem W.i2s (C : Cx p s m meth c Z y bytes ml ret) {u : Int32} (d : decode bytes pc = .ok (.i2s, 1)) (K : W p l e R s m args below meth c n0 Q kc ks k n h (pc + 1) ls (.int (u.toInt16.toInt32) :: st)) : W p l e R s m args below meth c n0 Q kc ks k n h pc ls (.int u :: st) :=
  W.lift (fun T t H S => XS.i2s H C.1 rfl (C.a d) rfl S) K
theorem W.i2lV (C : Cx p s m meth c Z y bytes ml ret) {u : Int32} (z : Int64) (d : decode bytes pc = .ok (.i2l, 1)) (hz : u.toInt64 = z) (K : W p l e R s m args below meth c n0 Q kc ks k n h (pc + 1) ls (.long z :: st)) : W p l e R s m args below meth c n0 Q kc ks k n h pc ls (.int u :: st) :=
  W.lift (fun T t H S => XS.i2l H C.1 rfl (C.a d) rfl (by subst hz; exact S)) K
theorem W.i2l (C : Cx p s m meth c Z y bytes ml ret) {u : Int32} (d : decode bytes pc = .ok (.i2l, 1)) (K : W p l e R s m args below meth c n0 Q kc ks k n h (pc + 1) ls (.long u.toInt64 :: st)) : W p l e R s m args below meth c n0 Q kc ks k n h pc ls (.int u :: st) :=
  W.lift (fun T t H S => XS.i2l H C.1 rfl (C.a d) rfl S) K
theorem W.l2iV (C : Cx p s m meth c Z y bytes ml ret) {u : Int64} (z : Int32) (d : decode bytes pc = .ok (.l2i, 1)) (hz : u.toInt32 = z) (K : W p l e R s m args below meth c n0 Q kc ks k n h (pc + 1) ls (.int z :: st)) : W p l e R s m args below meth c n0 Q kc ks k n h pc ls (.long u :: st) :=
  W.lift (fun T t H S => XS.l2i H C.1 rfl (C.a d) rfl (by subst hz; exact S)) K
theorem W.l2i (C : Cx p s m meth c Z y bytes ml ret) {u : Int64} (d : decode bytes pc = .ok (.l2i, 1)) (K : W p l e R s m args below meth c n0 Q kc ks k n h (pc + 1) ls (.int u.toInt32 :: st)) : W p l e R s m args below meth c n0 Q kc ks k n h pc ls (.long u :: st) :=
  W.lift (fun T t H S => XS.l2i H C.1 rfl (C.a d) rfl S) K
theorem W.lnegV (C : Cx p s m meth c Z y bytes ml ret) {u : Int64} (z : Int64) (d : decode bytes pc = .ok (.lneg, 1)) (hz : (-u) = z) (K : W p l e R s m args below meth c n0 Q kc ks k n h (pc + 1) ls (.long z :: st)) : W p l e R s m args below meth c n0 Q kc ks k n h pc ls (.long u :: st) :=
  W.lift (fun T t H S => XS.lneg H C.1 rfl (C.a d) rfl (by subst hz; exact S)) K
theorem W.lneg (C : Cx p s m meth c Z y bytes ml ret) {u : Int64} (d : decode bytes pc = .ok (.lneg, 1)) (K : W p l e R s m args below meth c n0 Q kc ks k n h (pc + 1) ls (.long (-u) :: st)) : W p l e R s m args below meth c n0 Q kc ks k n h pc ls (.long u :: st) :=
  W.lift (fun T t H S => XS.lneg H C.1 rfl (C.a d) rfl S) K
theorem W.lcmpV (C : Cx p s m meth c Z y bytes ml ret) {u v : Int64} (z : Int32) (d : decode bytes pc = .ok (.lcmp, 1)) (hz : (lcmpW u v) = z) (K : W p l e R s m args below meth c n0 Q kc ks k n h (pc + 1) ls (.int z :: st)) : W p l e R s m args below meth c n0 Q kc ks k n h pc ls (.long v :: .long u :: st) :=
  W.lift (fun T t H S => XS.lcmp H C.1 rfl (C.a d) rfl (by subst hz; exact S)) K
theorem W.lcmp (C : Cx p s m meth c Z y bytes ml ret) {u v : Int64} (d : decode bytes pc = .ok (.lcmp, 1)) (K : W p l e R s m args below meth c n0 Q kc ks k n h (pc + 1) ls (.int (lcmpW u v) :: st)) : W p l e R s m args below meth c n0 Q kc ks k n h pc ls (.long v :: .long u :: st) :=
  W.lift (fun T t H S => XS.lcmp H C.1 rfl (C.a d) rfl S) K
theorem W.pop (C : Cx p s m meth c Z y bytes ml ret) {u : Value} (d : decode bytes pc = .ok (.pop, 1)) (hc : u.category = 1) (K : W p l e R s m args below meth c n0 Q kc ks k n h (pc + 1) ls (st)) : W p l e R s m args below meth c n0 Q kc ks k n h pc ls (u :: st) :=
  W.lift (fun T t H S => XS.pop H C.1 rfl (C.a d) rfl hc S) K
theorem W.dup (C : Cx p s m meth c Z y bytes ml ret) {u : Value} (d : decode bytes pc = .ok (.dup, 1)) (hc : u.category = 1) (K : W p l e R s m args below meth c n0 Q kc ks k n h (pc + 1) ls (u :: u :: st)) : W p l e R s m args below meth c n0 Q kc ks k n h pc ls (u :: st) :=
  W.lift (fun T t H S => XS.dup H C.1 rfl (C.a d) rfl hc S) K
theorem W.dupX1 (C : Cx p s m meth c Z y bytes ml ret) {u v : Value} (d : decode bytes pc = .ok (.dup_x1, 1)) (hc : u.category = 1) (hc' : v.category = 1) (K : W p l e R s m args below meth c n0 Q kc ks k n h (pc + 1) ls (u :: v :: u :: st)) : W p l e R s m args below meth c n0 Q kc ks k n h pc ls (u :: v :: st) :=
  W.lift (fun T t H S => XT.dupX1 H C.1 rfl (C.a d) rfl hc hc' S) K
theorem W.dup2 (C : Cx p s m meth c Z y bytes ml ret) {u v : Value} (d : decode bytes pc = .ok (.dup2, 1)) (hc : u.category = 1) (hc' : v.category = 1) (K : W p l e R s m args below meth c n0 Q kc ks k n h (pc + 1) ls (u :: v :: u :: v :: st)) : W p l e R s m args below meth c n0 Q kc ks k n h pc ls (u :: v :: st) :=
  W.lift (fun T t H S => XT.dup2 H C.1 rfl (C.a d) rfl hc hc' S) K
theorem W.dup2L (C : Cx p s m meth c Z y bytes ml ret) {u : Int64} (d : decode bytes pc = .ok (.dup2, 1)) (K : W p l e R s m args below meth c n0 Q kc ks k n h (pc + 1) ls (.long u :: .long u :: st)) : W p l e R s m args below meth c n0 Q kc ks k n h pc ls (.long u :: st) :=
  W.lift (fun T t H S => XT.dup2L H C.1 rfl (C.a d) rfl S) K
theorem W.aconstNull (C : Cx p s m meth c Z y bytes ml ret)  (d : decode bytes pc = .ok (.aconst_null, 1)) (K : W p l e R s m args below meth c n0 Q kc ks k n h (pc + 1) ls (.null :: st)) : W p l e R s m args below meth c n0 Q kc ks k n h pc ls (st) :=
  W.lift (fun T t H S => XS.aconstNull H C.1 rfl (C.a d)  S) K
theorem W.iconst (C : Cx p s m meth c Z y bytes ml ret) {i : Int} (v : Int32) (d : decode bytes pc = .ok (.iconst i, 1)) (hv : Int32.ofInt i = v) (K : W p l e R s m args below meth c n0 Q kc ks k n h (pc + 1) ls (.int v :: st)) : W p l e R s m args below meth c n0 Q kc ks k n h pc ls st :=
  W.lift (fun T t H S => XS.iconst H C.1 rfl (C.a d) (by rw [hv]; exact S)) K
theorem W.bipush (C : Cx p s m meth c Z y bytes ml ret) {i : Int} (v : Int32) (d : decode bytes pc = .ok (.bipush i, 2)) (hv : (Int8.ofInt i).toInt32 = v) (K : W p l e R s m args below meth c n0 Q kc ks k n h (pc + 2) ls (.int v :: st)) : W p l e R s m args below meth c n0 Q kc ks k n h pc ls st :=
  W.lift (fun T t H S => XS.bipush H C.1 rfl (C.a d) (by rw [hv]; exact S)) K
theorem W.sipush (C : Cx p s m meth c Z y bytes ml ret) {i : Int} (v : Int32) (d : decode bytes pc = .ok (.sipush i, 3)) (hv : (Int16.ofInt i).toInt32 = v) (K : W p l e R s m args below meth c n0 Q kc ks k n h (pc + 3) ls (.int v :: st)) : W p l e R s m args below meth c n0 Q kc ks k n h pc ls st :=
  W.lift (fun T t H S => XS.sipush H C.1 rfl (C.a d) (by rw [hv]; exact S)) K
theorem W.lconst (C : Cx p s m meth c Z y bytes ml ret) {i : Fin 2} (v : Int64) (d : decode bytes pc = .ok (.lconst i, 1)) (hv : Int64.ofNat i = v) (K : W p l e R s m args below meth c n0 Q kc ks k n h (pc + 1) ls (.long v :: st)) : W p l e R s m args below meth c n0 Q kc ks k n h pc ls st :=
  W.lift (fun T t H S => XS.lconst H C.1 rfl (C.a d) (by rw [hv]; exact S)) K
theorem W.iloadN (C : Cx p s m meth c Z y bytes ml ret) {i : Fin 4} {v : Int32} (d : decode bytes pc = .ok (.iload_n i, 1)) (hl : ls[i.val]? = some (.val (.int v))) (K : W p l e R s m args below meth c n0 Q kc ks k n h (pc + 1) ls (.int v :: st)) : W p l e R s m args below meth c n0 Q kc ks k n h pc ls st :=
  W.lift (fun T t H S => XS.iloadN H C.1 rfl (C.a d) hl S) K
theorem W.iload (C : Cx p s m meth c Z y bytes ml ret) {i : Nat} {v : Int32} (d : decode bytes pc = .ok (.iload i, 2)) (hl : ls[i]? = some (.val (.int v))) (K : W p l e R s m args below meth c n0 Q kc ks k n h (pc + 2) ls (.int v :: st)) : W p l e R s m args below meth c n0 Q kc ks k n h pc ls st :=
  W.lift (fun T t H S => XS.iload H C.1 rfl (C.a d) hl S) K
theorem W.istoreN (C : Cx p s m meth c Z y bytes ml ret) {i : Fin 4} {v : Int32} (l' : Array Slot) (d : decode bytes pc = .ok (.istore_n i, 1)) (hl : storeLocals ls i.val (.int v) = some l') (K : W p l e R s m args below meth c n0 Q kc ks k n h (pc + 1) l' st) : W p l e R s m args below meth c n0 Q kc ks k n h pc ls (.int v :: st) :=
  W.lift (fun T t H S => XS.istoreN H C.1 rfl (C.a d) rfl hl S) K
theorem W.istore (C : Cx p s m meth c Z y bytes ml ret) {i : Nat} {v : Int32} (l' : Array Slot) (d : decode bytes pc = .ok (.istore i, 2)) (hl : storeLocals ls i (.int v) = some l') (K : W p l e R s m args below meth c n0 Q kc ks k n h (pc + 2) l' st) : W p l e R s m args below meth c n0 Q kc ks k n h pc ls (.int v :: st) :=
  W.lift (fun T t H S => XS.istore H C.1 rfl (C.a d) rfl hl S) K
theorem W.lloadN (C : Cx p s m meth c Z y bytes ml ret) {i : Fin 4} {v : Int64} (d : decode bytes pc = .ok (.lload_n i, 1)) (hl : ls[i.val]? = some (.val (.long v))) (K : W p l e R s m args below meth c n0 Q kc ks k n h (pc + 1) ls (.long v :: st)) : W p l e R s m args below meth c n0 Q kc ks k n h pc ls st :=
  W.lift (fun T t H S => XS.lloadN H C.1 rfl (C.a d) hl S) K
theorem W.lload (C : Cx p s m meth c Z y bytes ml ret) {i : Nat} {v : Int64} (d : decode bytes pc = .ok (.lload i, 2)) (hl : ls[i]? = some (.val (.long v))) (K : W p l e R s m args below meth c n0 Q kc ks k n h (pc + 2) ls (.long v :: st)) : W p l e R s m args below meth c n0 Q kc ks k n h pc ls st :=
  W.lift (fun T t H S => XS.lload H C.1 rfl (C.a d) hl S) K
theorem W.lstoreN (C : Cx p s m meth c Z y bytes ml ret) {i : Fin 4} {v : Int64} (l' : Array Slot) (d : decode bytes pc = .ok (.lstore_n i, 1)) (hl : storeLocals ls i.val (.long v) = some l') (K : W p l e R s m args below meth c n0 Q kc ks k n h (pc + 1) l' st) : W p l e R s m args below meth c n0 Q kc ks k n h pc ls (.long v :: st) :=
  W.lift (fun T t H S => XS.lstoreN H C.1 rfl (C.a d) rfl hl S) K
theorem W.lstore (C : Cx p s m meth c Z y bytes ml ret) {i : Nat} {v : Int64} (l' : Array Slot) (d : decode bytes pc = .ok (.lstore i, 2)) (hl : storeLocals ls i (.long v) = some l') (K : W p l e R s m args below meth c n0 Q kc ks k n h (pc + 2) l' st) : W p l e R s m args below meth c n0 Q kc ks k n h pc ls (.long v :: st) :=
  W.lift (fun T t H S => XS.lstore H C.1 rfl (C.a d) rfl hl S) K
theorem W.aloadN (C : Cx p s m meth c Z y bytes ml ret) {i : Fin 4} {v : Value} (d : decode bytes pc = .ok (.aload_n i, 1)) (hl : ls[i.val]? = some (.val v)) (hv : v.isRef = true) (K : W p l e R s m args below meth c n0 Q kc ks k n h (pc + 1) ls (v :: st)) : W p l e R s m args below meth c n0 Q kc ks k n h pc ls st :=
  W.lift (fun T t H S => XS.aloadN H C.1 rfl (C.a d) hl hv S) K
theorem W.aload (C : Cx p s m meth c Z y bytes ml ret) {i : Nat} {v : Value} (d : decode bytes pc = .ok (.aload i, 2)) (hl : ls[i]? = some (.val v)) (hv : v.isRef = true) (K : W p l e R s m args below meth c n0 Q kc ks k n h (pc + 2) ls (v :: st)) : W p l e R s m args below meth c n0 Q kc ks k n h pc ls st :=
  W.lift (fun T t H S => XS.aload H C.1 rfl (C.a d) hl hv S) K
theorem W.astoreN (C : Cx p s m meth c Z y bytes ml ret) {i : Fin 4} {v : Value} (l' : Array Slot) (d : decode bytes pc = .ok (.astore_n i, 1)) (hv : v.isRef = true) (hl : storeLocals ls i.val v = some l') (K : W p l e R s m args below meth c n0 Q kc ks k n h (pc + 1) l' st) : W p l e R s m args below meth c n0 Q kc ks k n h pc ls (v :: st) :=
  W.lift (fun T t H S => XS.astoreN H C.1 rfl (C.a d) rfl hv hl S) K
theorem W.astore (C : Cx p s m meth c Z y bytes ml ret) {i : Nat} {v : Value} (l' : Array Slot) (d : decode bytes pc = .ok (.astore i, 2)) (hv : v.isRef = true) (hl : storeLocals ls i v = some l') (K : W p l e R s m args below meth c n0 Q kc ks k n h (pc + 2) l' st) : W p l e R s m args below meth c n0 Q kc ks k n h pc ls (v :: st) :=
  W.lift (fun T t H S => XS.astore H C.1 rfl (C.a d) rfl hv hl S) K
theorem W.istoreO (C : Cx p s m meth c Z y bytes ml ret) {i : Nat} {v : Int32} {o : Slot} (l' : Array Slot) (d : decode bytes pc = .ok (.istore i, 2)) (hold : ls[i]? = some o) (ho : One o) (hl : ls.setIfInBounds i (.val (.int v)) = l') (K : W p l e R s m args below meth c n0 Q kc ks k n h (pc + 2) l' st) : W p l e R s m args below meth c n0 Q kc ks k n h pc ls (.int v :: st) :=
  W.lift (fun T t H S => XS.istoreS H C.1 rfl (C.a d) rfl hold ho (by rw [hl]; exact S)) K
theorem W.istoreNO (C : Cx p s m meth c Z y bytes ml ret) {i : Fin 4} {v : Int32} {o : Slot} (l' : Array Slot) (d : decode bytes pc = .ok (.istore_n i, 1)) (hold : ls[i.val]? = some o) (ho : One o) (hl : ls.setIfInBounds i.val (.val (.int v)) = l') (K : W p l e R s m args below meth c n0 Q kc ks k n h (pc + 1) l' st) : W p l e R s m args below meth c n0 Q kc ks k n h pc ls (.int v :: st) :=
  W.lift (fun T t H S => XS.istoreNS H C.1 rfl (C.a d) rfl hold ho (by rw [hl]; exact S)) K
theorem W.iinc (C : Cx p s m meth c Z y bytes ml ret) {i : Nat} {cst : Int} {u : Int32} (v : Int32) (l' : Array Slot) (d : decode bytes pc = .ok (.iinc i cst, 3)) (hl : ls[i]? = some (.val (.int u))) (hv : u + Int32.ofInt cst = v) (hl' : storeLocals ls i (.int v) = some l') (K : W p l e R s m args below meth c n0 Q kc ks k n h (pc + 3) l' st) : W p l e R s m args below meth c n0 Q kc ks k n h pc ls st :=
  W.lift (fun T t H S => XS.iinc H C.1 rfl (C.a d) hl (by rw [hv]; exact hl') S) K
theorem jmp {pc pc' : Nat} {o : Int} (hp : (pc : Int) + o = pc') : 0 ≤ (pc : Int) + o ∧ ((pc : Int) + o).toNat = pc' := by omega
theorem W.goto (C : Cx p s m meth c Z y bytes ml ret) {o : Int} (pc' : Nat) (d : decode bytes pc = .ok (.goto o, 3)) (hp : (pc : Int) + o = pc') (K : W p l e R s m args below meth c n0 Q kc ks k n h pc' ls st) : W p l e R s m args below meth c n0 Q kc ks k n h pc ls st :=
  W.lift (fun T t H S => XS.goto H C.1 rfl (pc0 := pc) (pc' := pc') rfl (C.a d) (jmp hp).1 (jmp hp).2 S) K
theorem W.icmp_eq (C : Cx p s m meth c Z y bytes ml ret) {u v : Int32} {o : Int} (pc' : Nat) (d : decode bytes pc = .ok (.if_icmp .eq o, 3)) (hp : (pc : Int) + o = pc') (yes : u = v → W p l e R s m args below meth c n0 Q kc ks k n h pc' ls st) (no : ¬ u = v → W p l e R s m args below meth c n0 Q kc ks k n h (pc + 3) ls st) : W p l e R s m args below meth c n0 Q kc ks k n h pc ls (.int v :: .int u :: st) := by
  by_cases b : u = v
  · exact W.lift (fun T t H S => XS.icmpYes H C.1 rfl (pc0 := pc) (pc' := pc') rfl (C.a d) rfl (XT.ii_eq_t b) (jmp hp).1 (jmp hp).2 S) (yes b)
  · exact W.lift (fun T t H S => XS.icmpNo H C.1 rfl (C.a d) rfl (XT.ii_eq_f b) S) (no b)
theorem W.if_eq (C : Cx p s m meth c Z y bytes ml ret) {u : Int32} {o : Int} (pc' : Nat) (d : decode bytes pc = .ok (.ifCond .eq o, 3)) (hp : (pc : Int) + o = pc') (yes : u = 0 → W p l e R s m args below meth c n0 Q kc ks k n h pc' ls st) (no : ¬ u = 0 → W p l e R s m args below meth c n0 Q kc ks k n h (pc + 3) ls st) : W p l e R s m args below meth c n0 Q kc ks k n h pc ls (.int u :: st) := by
  by_cases b : u = 0
  · exact W.lift (fun T t H S => XS.ifYes H C.1 rfl (pc0 := pc) (pc' := pc') rfl (C.a d) rfl (XT.i0_eq_t b) (jmp hp).1 (jmp hp).2 S) (yes b)
  · exact W.lift (fun T t H S => XS.ifNo H C.1 rfl (C.a d) rfl (XT.i0_eq_f b) S) (no b)
theorem ll_eq_t {u v : Int64} (b : u = v) : ifCond.holds .eq (lcmpW u v) = true := XT.ll_eq_t b
theorem ll_eq_f {u v : Int64} (b : ¬ u = v) : ifCond.holds .eq (lcmpW u v) = false := XT.ll_eq_f b
theorem W.lif_eq (C : Cx p s m meth c Z y bytes ml ret) {u v : Int64} {o : Int} (pc' : Nat) (d : decode bytes pc = .ok (.ifCond .eq o, 3)) (hp : (pc : Int) + o = pc') (yes : u = v → W p l e R s m args below meth c n0 Q kc ks k n h pc' ls st) (no : ¬ u = v → W p l e R s m args below meth c n0 Q kc ks k n h (pc + 3) ls st) : W p l e R s m args below meth c n0 Q kc ks k n h pc ls (.int (lcmpW u v) :: st) := by
  by_cases b : u = v
  · exact W.lift (fun T t H S => XS.ifYes H C.1 rfl (pc0 := pc) (pc' := pc') rfl (C.a d) rfl (ll_eq_t b) (jmp hp).1 (jmp hp).2 S) (yes b)
  · exact W.lift (fun T t H S => XS.ifNo H C.1 rfl (C.a d) rfl (ll_eq_f b) S) (no b)
theorem W.icmp_ne (C : Cx p s m meth c Z y bytes ml ret) {u v : Int32} {o : Int} (pc' : Nat) (d : decode bytes pc = .ok (.if_icmp .ne o, 3)) (hp : (pc : Int) + o = pc') (yes : ¬ u = v → W p l e R s m args below meth c n0 Q kc ks k n h pc' ls st) (no : u = v → W p l e R s m args below meth c n0 Q kc ks k n h (pc + 3) ls st) : W p l e R s m args below meth c n0 Q kc ks k n h pc ls (.int v :: .int u :: st) := by
  by_cases b : u = v
  · exact W.lift (fun T t H S => XS.icmpNo H C.1 rfl (C.a d) rfl (XT.ii_ne_f b) S) (no b)
  · exact W.lift (fun T t H S => XS.icmpYes H C.1 rfl (pc0 := pc) (pc' := pc') rfl (C.a d) rfl (XT.ii_ne_t b) (jmp hp).1 (jmp hp).2 S) (yes b)
theorem W.if_ne (C : Cx p s m meth c Z y bytes ml ret) {u : Int32} {o : Int} (pc' : Nat) (d : decode bytes pc = .ok (.ifCond .ne o, 3)) (hp : (pc : Int) + o = pc') (yes : ¬ u = 0 → W p l e R s m args below meth c n0 Q kc ks k n h pc' ls st) (no : u = 0 → W p l e R s m args below meth c n0 Q kc ks k n h (pc + 3) ls st) : W p l e R s m args below meth c n0 Q kc ks k n h pc ls (.int u :: st) := by
  by_cases b : u = 0
  · exact W.lift (fun T t H S => XS.ifNo H C.1 rfl (C.a d) rfl (XT.i0_ne_f b) S) (no b)
  · exact W.lift (fun T t H S => XS.ifYes H C.1 rfl (pc0 := pc) (pc' := pc') rfl (C.a d) rfl (XT.i0_ne_t b) (jmp hp).1 (jmp hp).2 S) (yes b)
theorem ll_ne_t {u v : Int64} (b : ¬ u = v) : ifCond.holds .ne (lcmpW u v) = true := XT.ll_ne_t b
theorem ll_ne_f {u v : Int64} (b : u = v) : ifCond.holds .ne (lcmpW u v) = false := XT.ll_ne_f b
theorem W.lif_ne (C : Cx p s m meth c Z y bytes ml ret) {u v : Int64} {o : Int} (pc' : Nat) (d : decode bytes pc = .ok (.ifCond .ne o, 3)) (hp : (pc : Int) + o = pc') (yes : ¬ u = v → W p l e R s m args below meth c n0 Q kc ks k n h pc' ls st) (no : u = v → W p l e R s m args below meth c n0 Q kc ks k n h (pc + 3) ls st) : W p l e R s m args below meth c n0 Q kc ks k n h pc ls (.int (lcmpW u v) :: st) := by
  by_cases b : u = v
  · exact W.lift (fun T t H S => XS.ifNo H C.1 rfl (C.a d) rfl (ll_ne_f b) S) (no b)
  · exact W.lift (fun T t H S => XS.ifYes H C.1 rfl (pc0 := pc) (pc' := pc') rfl (C.a d) rfl (ll_ne_t b) (jmp hp).1 (jmp hp).2 S) (yes b)
theorem W.icmp_lt (C : Cx p s m meth c Z y bytes ml ret) {u v : Int32} {o : Int} (pc' : Nat) (d : decode bytes pc = .ok (.if_icmp .lt o, 3)) (hp : (pc : Int) + o = pc') (yes : u < v → W p l e R s m args below meth c n0 Q kc ks k n h pc' ls st) (no : ¬ u < v → W p l e R s m args below meth c n0 Q kc ks k n h (pc + 3) ls st) : W p l e R s m args below meth c n0 Q kc ks k n h pc ls (.int v :: .int u :: st) := by
  by_cases b : u < v
  · exact W.lift (fun T t H S => XS.icmpYes H C.1 rfl (pc0 := pc) (pc' := pc') rfl (C.a d) rfl (XT.ii_lt_t b) (jmp hp).1 (jmp hp).2 S) (yes b)
  · exact W.lift (fun T t H S => XS.icmpNo H C.1 rfl (C.a d) rfl (XT.ii_lt_f b) S) (no b)
theorem W.if_lt (C : Cx p s m meth c Z y bytes ml ret) {u : Int32} {o : Int} (pc' : Nat) (d : decode bytes pc = .ok (.ifCond .lt o, 3)) (hp : (pc : Int) + o = pc') (yes : u < 0 → W p l e R s m args below meth c n0 Q kc ks k n h pc' ls st) (no : ¬ u < 0 → W p l e R s m args below meth c n0 Q kc ks k n h (pc + 3) ls st) : W p l e R s m args below meth c n0 Q kc ks k n h pc ls (.int u :: st) := by
  by_cases b : u < 0
  · exact W.lift (fun T t H S => XS.ifYes H C.1 rfl (pc0 := pc) (pc' := pc') rfl (C.a d) rfl (XT.i0_lt_t b) (jmp hp).1 (jmp hp).2 S) (yes b)
  · exact W.lift (fun T t H S => XS.ifNo H C.1 rfl (C.a d) rfl (XT.i0_lt_f b) S) (no b)
theorem ll_lt_t {u v : Int64} (b : u < v) : ifCond.holds .lt (lcmpW u v) = true := XT.ll_lt_t b
theorem ll_lt_f {u v : Int64} (b : ¬ u < v) : ifCond.holds .lt (lcmpW u v) = false := XT.ll_lt_f b
theorem W.lif_lt (C : Cx p s m meth c Z y bytes ml ret) {u v : Int64} {o : Int} (pc' : Nat) (d : decode bytes pc = .ok (.ifCond .lt o, 3)) (hp : (pc : Int) + o = pc') (yes : u < v → W p l e R s m args below meth c n0 Q kc ks k n h pc' ls st) (no : ¬ u < v → W p l e R s m args below meth c n0 Q kc ks k n h (pc + 3) ls st) : W p l e R s m args below meth c n0 Q kc ks k n h pc ls (.int (lcmpW u v) :: st) := by
  by_cases b : u < v
  · exact W.lift (fun T t H S => XS.ifYes H C.1 rfl (pc0 := pc) (pc' := pc') rfl (C.a d) rfl (ll_lt_t b) (jmp hp).1 (jmp hp).2 S) (yes b)
  · exact W.lift (fun T t H S => XS.ifNo H C.1 rfl (C.a d) rfl (ll_lt_f b) S) (no b)
theorem W.icmp_ge (C : Cx p s m meth c Z y bytes ml ret) {u v : Int32} {o : Int} (pc' : Nat) (d : decode bytes pc = .ok (.if_icmp .ge o, 3)) (hp : (pc : Int) + o = pc') (yes : ¬ u < v → W p l e R s m args below meth c n0 Q kc ks k n h pc' ls st) (no : u < v → W p l e R s m args below meth c n0 Q kc ks k n h (pc + 3) ls st) : W p l e R s m args below meth c n0 Q kc ks k n h pc ls (.int v :: .int u :: st) := by
  by_cases b : u < v
  · exact W.lift (fun T t H S => XS.icmpNo H C.1 rfl (C.a d) rfl (XT.ii_ge_f b) S) (no b)
  · exact W.lift (fun T t H S => XS.icmpYes H C.1 rfl (pc0 := pc) (pc' := pc') rfl (C.a d) rfl (XT.ii_ge_t b) (jmp hp).1 (jmp hp).2 S) (yes b)
theorem W.if_ge (C : Cx p s m meth c Z y bytes ml ret) {u : Int32} {o : Int} (pc' : Nat) (d : decode bytes pc = .ok (.ifCond .ge o, 3)) (hp : (pc : Int) + o = pc') (yes : ¬ u < 0 → W p l e R s m args below meth c n0 Q kc ks k n h pc' ls st) (no : u < 0 → W p l e R s m args below meth c n0 Q kc ks k n h (pc + 3) ls st) : W p l e R s m args below meth c n0 Q kc ks k n h pc ls (.int u :: st) := by
  by_cases b : u < 0
  · exact W.lift (fun T t H S => XS.ifNo H C.1 rfl (C.a d) rfl (XT.i0_ge_f b) S) (no b)
  · exact W.lift (fun T t H S => XS.ifYes H C.1 rfl (pc0 := pc) (pc' := pc') rfl (C.a d) rfl (XT.i0_ge_t b) (jmp hp).1 (jmp hp).2 S) (yes b)
theorem ll_ge_t {u v : Int64} (b : ¬ u < v) : ifCond.holds .ge (lcmpW u v) = true := XT.ll_ge_t b
theorem ll_ge_f {u v : Int64} (b : u < v) : ifCond.holds .ge (lcmpW u v) = false := XT.ll_ge_f b
theorem W.lif_ge (C : Cx p s m meth c Z y bytes ml ret) {u v : Int64} {o : Int} (pc' : Nat) (d : decode bytes pc = .ok (.ifCond .ge o, 3)) (hp : (pc : Int) + o = pc') (yes : ¬ u < v → W p l e R s m args below meth c n0 Q kc ks k n h pc' ls st) (no : u < v → W p l e R s m args below meth c n0 Q kc ks k n h (pc + 3) ls st) : W p l e R s m args below meth c n0 Q kc ks k n h pc ls (.int (lcmpW u v) :: st) := by
  by_cases b : u < v
  · exact W.lift (fun T t H S => XS.ifNo H C.1 rfl (C.a d) rfl (ll_ge_f b) S) (no b)
  · exact W.lift (fun T t H S => XS.ifYes H C.1 rfl (pc0 := pc) (pc' := pc') rfl (C.a d) rfl (ll_ge_t b) (jmp hp).1 (jmp hp).2 S) (yes b)
theorem W.icmp_gt (C : Cx p s m meth c Z y bytes ml ret) {u v : Int32} {o : Int} (pc' : Nat) (d : decode bytes pc = .ok (.if_icmp .gt o, 3)) (hp : (pc : Int) + o = pc') (yes : v < u → W p l e R s m args below meth c n0 Q kc ks k n h pc' ls st) (no : ¬ v < u → W p l e R s m args below meth c n0 Q kc ks k n h (pc + 3) ls st) : W p l e R s m args below meth c n0 Q kc ks k n h pc ls (.int v :: .int u :: st) := by
  by_cases b : v < u
  · exact W.lift (fun T t H S => XS.icmpYes H C.1 rfl (pc0 := pc) (pc' := pc') rfl (C.a d) rfl (XT.ii_gt_t b) (jmp hp).1 (jmp hp).2 S) (yes b)
  · exact W.lift (fun T t H S => XS.icmpNo H C.1 rfl (C.a d) rfl (XT.ii_gt_f b) S) (no b)
theorem W.if_gt (C : Cx p s m meth c Z y bytes ml ret) {u : Int32} {o : Int} (pc' : Nat) (d : decode bytes pc = .ok (.ifCond .gt o, 3)) (hp : (pc : Int) + o = pc') (yes : 0 < u → W p l e R s m args below meth c n0 Q kc ks k n h pc' ls st) (no : ¬ 0 < u → W p l e R s m args below meth c n0 Q kc ks k n h (pc + 3) ls st) : W p l e R s m args below meth c n0 Q kc ks k n h pc ls (.int u :: st) := by
  by_cases b : 0 < u
  · exact W.lift (fun T t H S => XS.ifYes H C.1 rfl (pc0 := pc) (pc' := pc') rfl (C.a d) rfl (XT.i0_gt_t b) (jmp hp).1 (jmp hp).2 S) (yes b)
  · exact W.lift (fun T t H S => XS.ifNo H C.1 rfl (C.a d) rfl (XT.i0_gt_f b) S) (no b)
theorem ll_gt_t {u v : Int64} (b : v < u) : ifCond.holds .gt (lcmpW u v) = true := XT.ll_gt_t b
theorem ll_gt_f {u v : Int64} (b : ¬ v < u) : ifCond.holds .gt (lcmpW u v) = false := XT.ll_gt_f b
theorem W.lif_gt (C : Cx p s m meth c Z y bytes ml ret) {u v : Int64} {o : Int} (pc' : Nat) (d : decode bytes pc = .ok (.ifCond .gt o, 3)) (hp : (pc : Int) + o = pc') (yes : v < u → W p l e R s m args below meth c n0 Q kc ks k n h pc' ls st) (no : ¬ v < u → W p l e R s m args below meth c n0 Q kc ks k n h (pc + 3) ls st) : W p l e R s m args below meth c n0 Q kc ks k n h pc ls (.int (lcmpW u v) :: st) := by
  by_cases b : v < u
  · exact W.lift (fun T t H S => XS.ifYes H C.1 rfl (pc0 := pc) (pc' := pc') rfl (C.a d) rfl (ll_gt_t b) (jmp hp).1 (jmp hp).2 S) (yes b)
  · exact W.lift (fun T t H S => XS.ifNo H C.1 rfl (C.a d) rfl (ll_gt_f b) S) (no b)
theorem W.icmp_le (C : Cx p s m meth c Z y bytes ml ret) {u v : Int32} {o : Int} (pc' : Nat) (d : decode bytes pc = .ok (.if_icmp .le o, 3)) (hp : (pc : Int) + o = pc') (yes : ¬ v < u → W p l e R s m args below meth c n0 Q kc ks k n h pc' ls st) (no : v < u → W p l e R s m args below meth c n0 Q kc ks k n h (pc + 3) ls st) : W p l e R s m args below meth c n0 Q kc ks k n h pc ls (.int v :: .int u :: st) := by
  by_cases b : v < u
  · exact W.lift (fun T t H S => XS.icmpNo H C.1 rfl (C.a d) rfl (XT.ii_le_f b) S) (no b)
  · exact W.lift (fun T t H S => XS.icmpYes H C.1 rfl (pc0 := pc) (pc' := pc') rfl (C.a d) rfl (XT.ii_le_t b) (jmp hp).1 (jmp hp).2 S) (yes b)
theorem W.if_le (C : Cx p s m meth c Z y bytes ml ret) {u : Int32} {o : Int} (pc' : Nat) (d : decode bytes pc = .ok (.ifCond .le o, 3)) (hp : (pc : Int) + o = pc') (yes : ¬ 0 < u → W p l e R s m args below meth c n0 Q kc ks k n h pc' ls st) (no : 0 < u → W p l e R s m args below meth c n0 Q kc ks k n h (pc + 3) ls st) : W p l e R s m args below meth c n0 Q kc ks k n h pc ls (.int u :: st) := by
  by_cases b : 0 < u
  · exact W.lift (fun T t H S => XS.ifNo H C.1 rfl (C.a d) rfl (XT.i0_le_f b) S) (no b)
  · exact W.lift (fun T t H S => XS.ifYes H C.1 rfl (pc0 := pc) (pc' := pc') rfl (C.a d) rfl (XT.i0_le_t b) (jmp hp).1 (jmp hp).2 S) (yes b)
theorem ll_le_t {u v : Int64} (b : ¬ v < u) : ifCond.holds .le (lcmpW u v) = true := XT.ll_le_t b
theorem ll_le_f {u v : Int64} (b : v < u) : ifCond.holds .le (lcmpW u v) = false := XT.ll_le_f b
theorem W.lif_le (C : Cx p s m meth c Z y bytes ml ret) {u v : Int64} {o : Int} (pc' : Nat) (d : decode bytes pc = .ok (.ifCond .le o, 3)) (hp : (pc : Int) + o = pc') (yes : ¬ v < u → W p l e R s m args below meth c n0 Q kc ks k n h pc' ls st) (no : v < u → W p l e R s m args below meth c n0 Q kc ks k n h (pc + 3) ls st) : W p l e R s m args below meth c n0 Q kc ks k n h pc ls (.int (lcmpW u v) :: st) := by
  by_cases b : v < u
  · exact W.lift (fun T t H S => XS.ifNo H C.1 rfl (C.a d) rfl (ll_le_f b) S) (no b)
  · exact W.lift (fun T t H S => XS.ifYes H C.1 rfl (pc0 := pc) (pc' := pc') rfl (C.a d) rfl (ll_le_t b) (jmp hp).1 (jmp hp).2 S) (yes b)
theorem W.ifnullNo (C : Cx p s m meth c Z y bytes ml ret) {b : Addr} {o : Int} (d : decode bytes pc = .ok (.ifnull o, 3)) (K : W p l e R s m args below meth c n0 Q kc ks k n h (pc + 3) ls st) : W p l e R s m args below meth c n0 Q kc ks k n h pc ls (.ref b :: st) :=
  W.lift (fun T t H S => XS.ifnullNo H C.1 rfl (C.a d) rfl S) K
theorem W.ifnullYes (C : Cx p s m meth c Z y bytes ml ret) {o : Int} (pc' : Nat) (d : decode bytes pc = .ok (.ifnull o, 3)) (hp : (pc : Int) + o = pc') (K : W p l e R s m args below meth c n0 Q kc ks k n h pc' ls st) : W p l e R s m args below meth c n0 Q kc ks k n h pc ls (.null :: st) :=
  W.lift (fun T t H S => XS.ifnullYes H C.1 rfl (pc0 := pc) (pc' := pc') rfl (C.a d) rfl (jmp hp).1 (jmp hp).2 S) K
theorem W.ifnonnullYes (C : Cx p s m meth c Z y bytes ml ret) {b : Addr} {o : Int} (pc' : Nat) (d : decode bytes pc = .ok (.ifnonnull o, 3)) (hp : (pc : Int) + o = pc') (K : W p l e R s m args below meth c n0 Q kc ks k n h pc' ls st) : W p l e R s m args below meth c n0 Q kc ks k n h pc ls (.ref b :: st) :=
  W.lift (fun T t H S => XT.ifnonnullYes H C.1 rfl (pc0 := pc) (pc' := pc') rfl (C.a d) rfl (jmp hp).1 (jmp hp).2 S) K
theorem W.ifnonnullNo (C : Cx p s m meth c Z y bytes ml ret) {o : Int} (d : decode bytes pc = .ok (.ifnonnull o, 3)) (K : W p l e R s m args below meth c n0 Q kc ks k n h (pc + 3) ls st) : W p l e R s m args below meth c n0 Q kc ks k n h pc ls (.null :: st) :=
  W.lift (fun T t H S => XT.ifnonnullNo H C.1 rfl (C.a d) rfl S) K
theorem W.acmp_eq (C : Cx p s m meth c Z y bytes ml ret) {u v : Value} {o : Int} (pc' : Nat) (d : decode bytes pc = .ok (.if_acmp .eq o, 3)) (hu : u.isRef = true) (hv : v.isRef = true) (hp : (pc : Int) + o = pc') (yes : u = v → W p l e R s m args below meth c n0 Q kc ks k n h pc' ls st) (no : ¬ u = v → W p l e R s m args below meth c n0 Q kc ks k n h (pc + 3) ls st) : W p l e R s m args below meth c n0 Q kc ks k n h pc ls (v :: u :: st) := by
  by_cases b : u = v
  · exact W.lift (fun T t H S => XT.acmpYes H C.1 rfl (pc0 := pc) (pc' := pc') rfl (C.a d) rfl hu hv (XT.aa_eq_t b) (jmp hp).1 (jmp hp).2 S) (yes b)
  · exact W.lift (fun T t H S => XT.acmpNo H C.1 rfl (C.a d) rfl hu hv (XT.aa_eq_f b) S) (no b)
theorem W.acmp_ne (C : Cx p s m meth c Z y bytes ml ret) {u v : Value} {o : Int} (pc' : Nat) (d : decode bytes pc = .ok (.if_acmp .ne o, 3)) (hu : u.isRef = true) (hv : v.isRef = true) (hp : (pc : Int) + o = pc') (yes : ¬ u = v → W p l e R s m args below meth c n0 Q kc ks k n h pc' ls st) (no : u = v → W p l e R s m args below meth c n0 Q kc ks k n h (pc + 3) ls st) : W p l e R s m args below meth c n0 Q kc ks k n h pc ls (v :: u :: st) := by
  by_cases b : u = v
  · exact W.lift (fun T t H S => XT.acmpNo H C.1 rfl (C.a d) rfl hu hv (XT.aa_ne_f b) S) (no b)
  · exact W.lift (fun T t H S => XT.acmpYes H C.1 rfl (pc0 := pc) (pc' := pc') rfl (C.a d) rfl hu hv (XT.aa_ne_t b) (jmp hp).1 (jmp hp).2 S) (yes b)
theorem W.ldcI (C : Cx p s m meth c Z y bytes ml ret) {i : Nat} {v : Int32} (d : decode bytes pc = .ok (.ldc i, 2)) (w : (Jvm.Cond.constant y.cls i v).before a0 Z = true) (K : W p l e R s m args below meth c n0 Q kc ks k n h (pc + 2) ls (.int v :: st)) : W p l e R s m args below meth c n0 Q kc ks k n h pc ls st := fun T locs X eT N => by
  obtain ⟨s₂, o, h1, h2⟩ := K T locs X eT N
  exact ⟨s₂, o, X.ldcI C.1 C.2.2.1 (mvT C.2.1 w) rfl (C.a d) h1, h2⟩
theorem W.ldcWI (C : Cx p s m meth c Z y bytes ml ret) {i : Nat} {v : Int32} (d : decode bytes pc = .ok (.ldc_w i, 3)) (w : (Jvm.Cond.constant y.cls i v).before a0 Z = true) (K : W p l e R s m args below meth c n0 Q kc ks k n h (pc + 3) ls (.int v :: st)) : W p l e R s m args below meth c n0 Q kc ks k n h pc ls st := fun T locs X eT N => by
  obtain ⟨s₂, o, h1, h2⟩ := K T locs X eT N
  exact ⟨s₂, o, X.ldcWI C.1 C.2.2.1 (mvT C.2.1 w) rfl (C.a d) h1, h2⟩
theorem W.ldc2J (C : Cx p s m meth c Z y bytes ml ret) {i : Nat} {v : Int64} (d : decode bytes pc = .ok (.ldc2_w i, 3)) (w : (Jvm.Cond.constantLong y.cls i v).before a0 Z = true) (K : W p l e R s m args below meth c n0 Q kc ks k n h (pc + 3) ls (.long v :: st)) : W p l e R s m args below meth c n0 Q kc ks k n h pc ls st := fun T locs X eT N => by
  obtain ⟨s₂, o, h1, h2⟩ := K T locs X eT N
  exact ⟨s₂, o, X.ldc2J C.1 C.2.2.1 (mvT C.2.1 w) rfl (C.a d) h1, h2⟩
theorem W.iret {t : FieldType} {z : Int32} (C : Cx p s m meth c Z y bytes ml (some t)) (d : decode bytes pc = .ok (.ireturn, 1)) (ht : t = .int ∨ t = .boolean ∨ t = .byte ∨ t = .char ∨ t = .short) (hn : narrow t (.int z) = .int z) (hk : k ≤ kc) (hs : n ≤ ks) (q : Q (some (.int z)) h) : W p l e R s m args below meth c n0 Q kc ks k n h pc ls (.int z :: st) := fun T locs X eT N => by
  obtain ⟨fs, hr, hrun, hended, hW, hsame⟩ := X.leave (v := some (.int z)) (fun q => by rw [C.2.2.2.2.2.1] at q; cases q) C.2.2.2.2.2.2.1
  exact ⟨_, _, retOut X C.1 C.2.2.2.2.2.1 hn (Or.inl ⟨rfl, ht, z, rfl⟩) (C.a d) hr, hrun, hended, _, _, rfl, ⟨by subst eT; exact q, N⟩, ⟨_, rfl⟩, hW, hsame.mono hk hs⟩
theorem W.lret {t : FieldType} {z : Int64} (C : Cx p s m meth c Z y bytes ml (some t)) (d : decode bytes pc = .ok (.lreturn, 1)) (ht : t = .long) (hn : narrow t (.long z) = .long z) (hk : k ≤ kc) (hs : n ≤ ks) (q : Q (some (.long z)) h) : W p l e R s m args below meth c n0 Q kc ks k n h pc ls (.long z :: st) := fun T locs X eT N => by
  obtain ⟨fs, hr, hrun, hended, hW, hsame⟩ := X.leave (v := some (.long z)) (fun q => by rw [C.2.2.2.2.2.1] at q; cases q) C.2.2.2.2.2.2.1
  exact ⟨_, _, retOut X C.1 C.2.2.2.2.2.1 hn (Or.inr (Or.inl ⟨rfl, ht, z, rfl⟩)) (C.a d) hr, hrun, hended, _, _, rfl, ⟨by subst eT; exact q, N⟩, ⟨_, rfl⟩, hW, hsame.mono hk hs⟩
theorem W.aret {t : FieldType} {z : Value} (C : Cx p s m meth c Z y bytes ml (some t)) (d : decode bytes pc = .ok (.areturn, 1)) (ht : t.isReference = true) (hz : z.isRef = true) (hn : narrow t (z) = z) (hk : k ≤ kc) (hs : n ≤ ks) (q : Q (some (z)) h) : W p l e R s m args below meth c n0 Q kc ks k n h pc ls (z :: st) := fun T locs X eT N => by
  obtain ⟨fs, hr, hrun, hended, hW, hsame⟩ := X.leave (v := some (z)) (fun q => by rw [C.2.2.2.2.2.1] at q; cases q) C.2.2.2.2.2.2.1
  exact ⟨_, _, retOut X C.1 C.2.2.2.2.2.1 hn (Or.inr (Or.inr (Or.inr (Or.inr ⟨rfl, ht, hz⟩)))) (C.a d) hr, hrun, hended, _, _, rfl, ⟨by subst eT; exact q, N⟩, ⟨_, rfl⟩, hW, hsame.mono hk hs⟩
theorem W.retV (C : Cx p s m meth c Z y bytes ml none) (d : decode bytes pc = .ok (.return_, 1)) (hk : k ≤ kc) (hs : n ≤ ks) (q : Q none h) : W p l e R s m args below meth c n0 Q kc ks k n h pc ls [] := fun T locs X eT N => by
  obtain ⟨fs, hr, hrun, hended, hW, hsame⟩ := X.leave (v := none) (fun _ => rfl) C.2.2.2.2.2.2.1
  exact ⟨_, _, X.returnOut C.1 C.2.2.2.2.2.1 (C.a d) hr, hrun, hended, _, _, rfl, ⟨by subst eT; exact q, N⟩, ⟨_, rfl⟩, hW, hsame.mono hk hs⟩
theorem W.callS (C : Cx p s m meth c Z y bytes ml ret) {y' : MethodName} {index : Nat} {bytes' : ByteArray} {ml' : Nat} {ret' : Option FieldType} {rm : Room} {Q' : Option Value → Heap → Prop} (d : decode bytes pc = .ok (.invokestatic index, 3)) (w1 : (Jvm.Cond.methodLink y.cls index y').before a0 Z = true) (w2 : (Jvm.Cond.static y').before a0 Z = true) (w3 : (Jvm.Cond.initialized y'.cls).before a0 Z = true) (w4 : (Jvm.Cond.code y' bytes' ml' ret').before a0 Z = true) (hy : y'.cls ≠ "java/lang/invoke/MethodHandle" ∧ y'.cls ≠ "java/lang/invoke/VarHandle")
    {argsL rest : List Value} (hst : st = argsL.reverse ++ rest) (hlen : ∀ sig, parseMethodDescriptor y'.desc = some sig → argsL.length = sig.parameters.length) (D : Con l Z y' bytes' ml' ret' rm argsL.toArray h n0 Q') (w k' n' : Nat) (hW : (rest.map fun v => v.category).sum = w) (hk : k + rm.cells = k') (hn : n + rm.slots = n') (hf : rm.frames + 1 ≤ R.frames) (hl : w + (ml' + 11) + rm.locals ≤ R.locals) (hc : k' ≤ R.cells) (hs : n' ≤ R.slots) (hsz : ls.size = ml)
    (K : ∀ v h', Q' v h' → W p l e R s m args below meth c n0 Q kc ks k' n' h' (pc + 3) ls (v.toList ++ rest)) : W p l e R s m args below meth c n0 Q kc ks k n h pc ls st := fun T locs X eT N => by
  obtain ⟨_, _, ⟨T1, L1, k1, n1⟩, -, X1, ⟨Lc1, hQ1, l1, y1, z1⟩, st1⟩ := Jvm.LawKit.callS X C.1 (y := y') C.2.2.1 (mvT C.2.1 w1) (mvT C.2.1 w2) (mvT C.2.1 w3) (mvT C.2.1 w4) hy (backOf (W := w) (Q := fun v h' L => Q' v h' ∧ Fr n0 L) (D []) C.2.1 w4 w3 hf hl) (g := mkF m pc ls st) rfl (hsz.trans C.2.2.2.2.1.symm) (argsL := argsL) (rest := rest) hlen hst (by show 2 * 0 + _ ≤ _; omega) (C.a d) (fun _ _ => ⟨rfl, eT, by rw [hk]; exact hc, by rw [hn]; exact hs⟩)
  dsimp only [Pt.U, Pt.locs, Pt.cells, Pt.slots] at X1 l1 y1 z1 st1 hQ1
  subst l1
  rw [hk] at y1
  rw [hn] at z1
  subst y1 z1
  obtain ⟨s₂, o, g1, g2⟩ := K _ _ hQ1.1 T1 _ X1 rfl (Fr.app N hQ1.2)
  exact ⟨s₂, o, st1 _ g1, g2⟩
theorem W.callI (C : Cx p s m meth c Z y bytes ml ret) {y' : MethodName} {index : Nat} {bytes' : ByteArray} {ml' : Nat} {rm : Room} {Q' : Option Value → Heap → Prop} (d : decode bytes pc = .ok (.invokespecial index, 3)) (hi : y'.name = "<init>") (w1 : (Jvm.Cond.methodLink y.cls index y').before a0 Z = true) (w2 : (Jvm.Cond.instanceMethod y').before a0 Z = true) (w3 : (Jvm.Cond.initialized y'.cls).before a0 Z = true) (w4 : (Jvm.Cond.code y' bytes' ml' none).before a0 Z = true) (hy : y'.cls ≠ "java/lang/invoke/MethodHandle" ∧ y'.cls ≠ "java/lang/invoke/VarHandle")
    {a : Addr} {argsL rest : List Value} (hst : st = argsL.reverse ++ .ref a :: rest) (hlen : ∀ sig, parseMethodDescriptor y'.desc = some sig → argsL.length = sig.parameters.length) (D : Con l Z y' bytes' ml' none rm (.ref a :: argsL).toArray h n0 Q') (w k' n' : Nat) (hW : (rest.map fun v => v.category).sum = w) (hk : k + rm.cells = k') (hn : n + rm.slots = n') (hf : rm.frames + 1 ≤ R.frames) (hl : w + (ml' + 11) + rm.locals ≤ R.locals) (hc : k' ≤ R.cells) (hs : n' ≤ R.slots) (hsz : ls.size = ml)
    (K : ∀ v h', Q' v h' → W p l e R s m args below meth c n0 Q kc ks k' n' h' (pc + 3) ls (v.toList ++ rest)) : W p l e R s m args below meth c n0 Q kc ks k n h pc ls st := fun T locs X eT N => by
  obtain ⟨_, _, ⟨T1, L1, k1, n1⟩, -, X1, ⟨Lc1, hQ1, l1, y1, z1⟩, st1⟩ := X.specialBack C.1 (y := y') hi C.2.2.1 (mvT C.2.1 w1) (mvT C.2.1 w2) (mvT C.2.1 w4) hy (backOf (W := w) (Q := fun v h' L => Q' v h' ∧ Fr n0 L) (D []) C.2.1 w4 w3 hf hl) (g := mkF m pc ls st) rfl (hsz.trans C.2.2.2.2.1.symm) (Steps.refl _) (a := a) (argsL := argsL) (rest := rest) hlen hst (by show 2 * 0 + _ ≤ _; omega) (C.a d) (fun _ _ => ⟨rfl, eT, by rw [hk]; exact hc, by rw [hn]; exact hs⟩)
  dsimp only [Pt.U, Pt.locs, Pt.cells, Pt.slots] at X1 l1 y1 z1 st1 hQ1
  subst l1
  rw [hk] at y1
  rw [hn] at z1
  subst y1 z1
  obtain ⟨s₂, o, g1, g2⟩ := K _ _ hQ1.1 T1 _ X1 rfl (Fr.app N hQ1.2)
  exact ⟨s₂, o, st1.trans g1, g2⟩
theorem W.callV (C : Cx p s m meth c Z y bytes ml ret) {y' : MethodName} {K0 : String} {index : Nat} {bytes' : ByteArray} {ml' : Nat} {ret' : Option FieldType} {rm : Room} {Q' : Option Value → Heap → Prop} (d : decode bytes pc = .ok (.invokevirtual index, 3)) (w1 : (Jvm.Cond.methodLink y.cls index y').before a0 Z = true) (w2 : (Jvm.Cond.declares y').before a0 Z = true) (w5 : (Jvm.Cond.selects K0 y' y').before a0 Z = true) (w6 : (Jvm.Cond.instanceMethod y').before a0 Z = true) (w3 : (Jvm.Cond.initialized y'.cls).before a0 Z = true) (w4 : (Jvm.Cond.code y' bytes' ml' ret').before a0 Z = true) (hy : y'.cls ≠ "java/lang/invoke/MethodHandle" ∧ y'.cls ≠ "java/lang/invoke/VarHandle")
    {a : Addr} (E : Exa Z h a K0) {argsL rest : List Value} (hst : st = argsL.reverse ++ .ref a :: rest) (hlen : ∀ sig, parseMethodDescriptor y'.desc = some sig → argsL.length = sig.parameters.length) (D : Con l Z y' bytes' ml' ret' rm (.ref a :: argsL).toArray h n0 Q') (w k' n' : Nat) (hW : (rest.map fun v => v.category).sum = w) (hk : k + rm.cells = k') (hn : n + rm.slots = n') (hf : rm.frames + 1 ≤ R.frames) (hl : w + (ml' + 11) + rm.locals ≤ R.locals) (hc : k' ≤ R.cells) (hs : n' ≤ R.slots) (hsz : ls.size = ml)
    (K : ∀ v h', Q' v h' → W p l e R s m args below meth c n0 Q kc ks k' n' h' (pc + 3) ls (v.toList ++ rest)) : W p l e R s m args below meth c n0 Q kc ks k n h pc ls st := fun T locs X eT N => by
  obtain ⟨cq, kq, qa, qb, qc⟩ := isOf C.2.1 eT E
  obtain ⟨_, _, ⟨T1, L1, k1, n1⟩, -, X1, ⟨Lc1, hQ1, l1, y1, z1⟩, st1⟩ := X.virtualBack C.1 (y := y') (z := y') C.2.2.1 (mvT C.2.1 w1) (mvT C.2.1 w2) (notFace_of_selects (args := #[]) (mvT C.2.1 w5)) (mvT C.2.1 w5) (mvT C.2.1 w6) hy (backOf (W := w) (Q := fun v h' L => Q' v h' ∧ Fr n0 L) (D []) C.2.1 w4 w3 hf hl) qa qc (g := mkF m pc ls st) rfl (hsz.trans C.2.2.2.2.1.symm) (Steps.refl _) (argsL := argsL) (rest := rest) hlen hst (by show 2 * 0 + _ ≤ _; omega) (C.a d) (fun _ _ => ⟨rfl, eT, by rw [hk]; exact hc, by rw [hn]; exact hs⟩)
  dsimp only [Pt.U, Pt.locs, Pt.cells, Pt.slots] at X1 l1 y1 z1 st1 hQ1
  subst l1
  rw [hk] at y1
  rw [hn] at z1
  subst y1 z1
  obtain ⟨s₂, o, g1, g2⟩ := K _ _ hQ1.1 T1 _ X1 rfl (Fr.app N hQ1.2)
  exact ⟨s₂, o, st1.trans g1, g2⟩
theorem W.initO (C : Cx p s m meth c Z y bytes ml ret) {index : Nat} (d : decode bytes pc = .ok (.invokespecial index, 3)) (w1 : (Jvm.Cond.methodLink y.cls index Lib.objectInit).before a0 Z = true) (w2 : (Jvm.Cond.instanceMethod Lib.objectInit).before a0 Z = true) (w3 : (Jvm.Cond.code Lib.objectInit ⟨#[0xb1]⟩ 1 none).before a0 Z = true)
    {a : Addr} (w : Nat) (hW : (st.map fun v => v.category).sum = w) (hf : 1 ≤ R.frames) (hl : w + 12 ≤ R.locals) (hsz : ls.size = ml) (K : W p l e R s m args below meth c n0 Q kc ks k n h (pc + 3) ls st) : W p l e R s m args below meth c n0 Q kc ks k n h pc ls (.ref a :: st) := fun T locs X eT N => by
  obtain ⟨T1, X1, e1, st1⟩ := Jvm.RoadKit.initO X C.1 C.2.1 C.2.2.1 w1 w2 w3 eT (g := mkF m pc ls (.ref a :: st)) rfl (hsz.trans C.2.2.2.2.1.symm) rfl (C.a d) hf (W := w) (by show 2 * 0 + _ ≤ _; omega) hl
  obtain ⟨s₂, o, g1, g2⟩ := K T1 _ X1 e1 N
  exact ⟨s₂, o, st1 _ g1, g2⟩
theorem W.new (C : Cx p s m meth c Z y bytes ml ret) {index sz : Nat} {K0 : String} (d : decode bytes pc = .ok (.new index, 3)) (w1 : (Jvm.Cond.classLink y.cls index K0).before a0 Z = true) (w2 : (Jvm.Cond.instantiable K0 sz).before a0 Z = true) (w3 : (Jvm.Cond.initialized K0).before a0 Z = true) (k' n' : Nat) (hk : k + 1 = k') (hn : n + sz = n') (hc : k' ≤ R.cells) (hs : n' ≤ R.slots)
    (K : ∀ a h', a = h.size → Ext h h' → Exa Z h' a K0 → (∀ {O nm d : String} {ty : FieldType}, Laid Z a0 K0 O nm d → parseFieldDescriptor d = some ty → Fld Z h' a O nm d (defaultValue ty)) → W p l e R s m args below meth c n0 Q kc ks k' n' h' (pc + 3) ls (.ref a :: st)) : W p l e R s m args below meth c n0 Q kc ks k n h pc ls st := fun T locs X eT N => by
  subst hk hn
  obtain ⟨T1, h1, X1, e1, E1, A1, D1, -, st1⟩ := newO X C.1 C.2.1 C.2.2.1 w1 w2 w3 eT (g := mkF m pc ls st) rfl (C.a d) hc hs
  obtain ⟨s₂, o, g1, g2⟩ := K _ h1 rfl E1 A1 D1 T1 _ X1 e1 N
  exact ⟨s₂, o, st1 _ g1, g2⟩
theorem W.getF (C : Cx p s m meth c Z y bytes ml ret) {index : Nat} {R0 O nm dd : String} (d : decode bytes pc = .ok (.getfield index, 3)) (w : (Jvm.Cond.fieldLink y.cls index R0 nm dd).before a0 Z = true) (via : Via Z R0 O nm dd) {a : Addr} {v : Value} (F : Fld Z h a O nm dd v) (K : W p l e R s m args below meth c n0 Q kc ks k n h (pc + 3) ls (v :: st)) : W p l e R s m args below meth c n0 Q kc ks k n h pc ls (.ref a :: st) := fun T locs X eT N => by
  obtain ⟨T1, X1, e1, st1⟩ := Jvm.RoadKit.getF X C.1 C.2.1 C.2.2.1 (host := "") (Or.inl w) via eT F (g := mkF m pc ls (.ref a :: st)) rfl rfl (C.a d)
  obtain ⟨s₂, o, g1, g2⟩ := K T1 _ X1 e1 N
  exact ⟨s₂, o, st1 _ g1, g2⟩
theorem W.getFN (C : Cx p s m meth c Z y bytes ml ret) {index : Nat} {R0 O nm dd host : String} (d : decode bytes pc = .ok (.getfield index, 3)) (w : (Jvm.Cond.fieldLinkNest y.cls index R0 nm dd host).before a0 Z = true) (via : Via Z R0 O nm dd) {a : Addr} {v : Value} (F : Fld Z h a O nm dd v) (K : W p l e R s m args below meth c n0 Q kc ks k n h (pc + 3) ls (v :: st)) : W p l e R s m args below meth c n0 Q kc ks k n h pc ls (.ref a :: st) := fun T locs X eT N => by
  obtain ⟨T1, X1, e1, st1⟩ := Jvm.RoadKit.getF X C.1 C.2.1 C.2.2.1 (host := host) (Or.inr w) via eT F (g := mkF m pc ls (.ref a :: st)) rfl rfl (C.a d)
  obtain ⟨s₂, o, g1, g2⟩ := K T1 _ X1 e1 N
  exact ⟨s₂, o, st1 _ g1, g2⟩
theorem W.getS (C : Cx p s m meth c Z y bytes ml ret) {index : Nat} {R0 O nm dd : String} (d : decode bytes pc = .ok (.getstatic index, 3)) (w : (Jvm.Cond.fieldLink y.cls index R0 nm dd).before a0 Z = true) (via : Via Z R0 O nm dd) {v : Value} (F : Sta Z h O nm dd v) (K : W p l e R s m args below meth c n0 Q kc ks k n h (pc + 3) ls (v :: st)) : W p l e R s m args below meth c n0 Q kc ks k n h pc ls st := fun T locs X eT N => by
  obtain ⟨T1, X1, e1, st1⟩ := Jvm.RoadKit.getS X C.1 C.2.1 (host := "") C.2.2.1 w via eT F (g := mkF m pc ls st) rfl (C.a d)
  obtain ⟨s₂, o, g1, g2⟩ := K T1 _ X1 e1 N
  exact ⟨s₂, o, st1 _ g1, g2⟩
theorem W.putF (C : Cx p s m meth c Z y bytes ml ret) {index kk : Nat} {R0 O nm dd K0 : String} {ty : FieldType} (d : decode bytes pc = .ok (.putfield index, 3)) (w : (Jvm.Cond.fieldLink y.cls index R0 nm dd).before a0 Z = true) (via : Via Z R0 O nm dd) {a : Addr} {v old : Value} (F : Fld Z h a O nm dd old) (E : Exa Z h a K0) (L : (Jvm.Cond.lays K0 O nm dd).before a0 Z = true ∨ ((Jvm.Cond.laysFinal K0 O nm dd).before a0 Z = true ∧ y.cls = O ∧ y.name = "<init>")) (wi : (Jvm.Cond.instantiable K0 kk).before a0 Z = true)
    (hty : parseFieldDescriptor dd = some ty) (hn : narrow ty v = v) (hf : fits ty v = true) (g : n0 ≤ a) (K : ∀ h', Wr h h' a (Jvm.RoadKit.slotOf Z O nm dd) v → W p l e R s m args below meth c n0 Q kc ks k n h' (pc + 3) ls st) : W p l e R s m args below meth c n0 Q kc ks k n h pc ls (v :: .ref a :: st) := fun T locs X eT N => by
  obtain ⟨T1, h1, X1, e1, W1, st1⟩ := Jvm.RoadKit.putF X C.1 C.2.1 C.2.2.1 (host := "") (Or.inl w) via eT F E (L.imp id fun q => ⟨q.1, q.2.1, C.2.2.2.2.2.2.2.trans q.2.2⟩) wi hty hn hf (g := mkF m pc ls (v :: .ref a :: st)) rfl rfl (C.a d)
  obtain ⟨s₂, o, g1, g2⟩ := K h1 W1 T1 _ X1 e1 (Fr.snoc X1 N g)
  exact ⟨s₂, o, st1 _ g1, g2⟩
/-- an array at a of component type ty that holds vs -/
def Al (Z : State) (h : Heap) (a : Addr) (ty : FieldType) (vs : List Value) : Prop := ∃ c : Cell, Arr Z h a c ty ∧ c.slots = vs.toArray
theorem Al.lt {a : Addr} {ty : FieldType} {vs : List Value} (F : Al Z h a ty vs) : a < h.size := by obtain ⟨c, A, -⟩ := F; exact A.lt
theorem Al.ext {a : Addr} {ty : FieldType} {vs : List Value} {h' : Heap} (F : Al Z h a ty vs) (E : Ext h h') : Al Z h' a ty vs := by obtain ⟨c, A, r⟩ := F; exact ⟨c, A.ext E, r⟩
theorem Al.other {a b : Addr} {ty : FieldType} {vs : List Value} {h' : Heap} {sl : Nat} {v : Value} (F : Al Z h b ty vs) (U : Wr h h' a sl v) (q : b ≠ a) : Al Z h' b ty vs := by obtain ⟨c, A, r⟩ := F; exact ⟨c, A.other U q, r⟩
theorem Al.keep {a : Addr} {ty : FieldType} {vs : List Value} {h' : Heap} {ws : List Addr} (F : Al Z h a ty vs) (K : Keep h h' ws) (q : a ∉ ws) : Al Z h' a ty vs := by obtain ⟨c, A, r⟩ := F; exact ⟨c, ⟨K.2.1 a c A.1 q, A.2⟩, r⟩
theorem Al.set {a : Addr} {ty : FieldType} {vs : List Value} {h' : Heap} {i : Nat} {v : Value} (F : Al Z h a ty vs) (U : Wr h h' a i v) : Al Z h' a ty (vs.set i v) := by
  obtain ⟨c, A, r⟩ := F
  refine ⟨_, A.same U, ?_⟩
  simp [Cell.setSlot, r]
theorem idx_of {j : Int32} {i : Nat} (hi : j.toInt = (i : Int)) : ¬ j < 0 ∧ j.toNatClampNeg = i := by
  refine ⟨fun q => ?_, ?_⟩
  · rw [Int32.lt_iff_toInt_lt] at q
    have : (0 : Int32).toInt = 0 := rfl
    omega
  · show j.toInt.toNat = i
    omega
theorem inb_of_idx {j : Int32} {i : Nat} {cl : Cell} {vs : List Value} (hi : j.toInt = (i : Int)) (r : cl.slots = vs.toArray) (hb : i < vs.length) : ¬ (j < 0 ∨ cl.slots.size ≤ j.toNatClampNeg) := by
  obtain ⟨q1, q2⟩ := idx_of hi
  rw [q2, r]
  simp only [List.size_toArray]
  rintro (z | z)
  · exact q1 z
  · omega
theorem W.arrlen (C : Cx p s m meth c Z y bytes ml ret) {a : Addr} {ty : FieldType} {vs : List Value} (z : Int32) (d : decode bytes pc = .ok (.arraylength, 1)) (A : Al Z h a ty vs) (hz : vs.length.toInt32 = z) (K : W p l e R s m args below meth c n0 Q kc ks k n h (pc + 1) ls (.int z :: st)) : W p l e R s m args below meth c n0 Q kc ks k n h pc ls (.ref a :: st) := fun T locs X eT N => by
  obtain ⟨cl, A, r⟩ := A
  obtain ⟨s₂, o, g1, g2⟩ := K T locs X eT N
  refine ⟨s₂, o, X.arraylength C.1 (by rw [eT]; exact A.1) (State.isArrayOf_alike C.2.1.alike A.2.1) (g := mkF m pc ls (.ref a :: st)) rfl rfl (C.a d) _ ?_, g2⟩
  have : cl.slots.size.toInt32 = z := by rw [r]; simpa using hz
  rw [this]; exact g1
theorem W.iaload (C : Cx p s m meth c Z y bytes ml ret) {a : Addr} {vs : List Value} {j : Int32} (i : Nat) {v : Value} (d : decode bytes pc = .ok (.iaload, 1)) (A : Al Z h a .int vs) (hi : j.toInt = (i : Int)) (hv : vs[i]? = some v) (K : W p l e R s m args below meth c n0 Q kc ks k n h (pc + 1) ls (v :: st)) : W p l e R s m args below meth c n0 Q kc ks k n h pc ls (.int j :: .ref a :: st) := fun T locs X eT N => by
  obtain ⟨cl, A, r⟩ := A
  obtain ⟨s₂, o, g1, g2⟩ := K T locs X eT N
  have hb : i < vs.length := (List.getElem?_eq_some_iff.mp hv).1
  exact ⟨s₂, o, X.iaload C.1 (j := j) (v := v) (by rw [eT]; exact A.1) (State.isArrayOf_alike C.2.1.alike A.2.1) A.2.2 (inb_of_idx hi r hb) (by rw [(idx_of hi).2, r]; simpa using hv) (g := mkF m pc ls (.int j :: .ref a :: st)) rfl rfl (C.a d) _ g1, g2⟩
theorem W.laload (C : Cx p s m meth c Z y bytes ml ret) {a : Addr} {vs : List Value} {j : Int32} (i : Nat) {v : Value} (d : decode bytes pc = .ok (.laload, 1)) (A : Al Z h a .long vs) (hi : j.toInt = (i : Int)) (hv : vs[i]? = some v) (K : W p l e R s m args below meth c n0 Q kc ks k n h (pc + 1) ls (v :: st)) : W p l e R s m args below meth c n0 Q kc ks k n h pc ls (.int j :: .ref a :: st) := fun T locs X eT N => by
  obtain ⟨cl, A, r⟩ := A
  obtain ⟨s₂, o, g1, g2⟩ := K T locs X eT N
  have hb : i < vs.length := (List.getElem?_eq_some_iff.mp hv).1
  exact ⟨s₂, o, X.laload C.1 (j := j) (v := v) (by rw [eT]; exact A.1) (State.isArrayOf_alike C.2.1.alike A.2.1) A.2.2 (inb_of_idx hi r hb) (by rw [(idx_of hi).2, r]; simpa using hv) (g := mkF m pc ls (.int j :: .ref a :: st)) rfl rfl (C.a d) _ g1, g2⟩
theorem W.baload (C : Cx p s m meth c Z y bytes ml ret) {a : Addr} {vs : List Value} {j : Int32} (i : Nat) {v : Value} (d : decode bytes pc = .ok (.baload, 1)) (A : Al Z h a .byte vs) (hi : j.toInt = (i : Int)) (hv : vs[i]? = some v) (K : W p l e R s m args below meth c n0 Q kc ks k n h (pc + 1) ls (v :: st)) : W p l e R s m args below meth c n0 Q kc ks k n h pc ls (.int j :: .ref a :: st) := fun T locs X eT N => by
  obtain ⟨cl, A, r⟩ := A
  obtain ⟨s₂, o, g1, g2⟩ := K T locs X eT N
  have hb : i < vs.length := (List.getElem?_eq_some_iff.mp hv).1
  exact ⟨s₂, o, X.baloadBytes C.1 (j := j) (v := v) (by rw [eT]; exact A.1) (State.isArrayOf_alike C.2.1.alike A.2.1) A.2.2 (inb_of_idx hi r hb) (by rw [(idx_of hi).2, r]; simpa using hv) (g := mkF m pc ls (.int j :: .ref a :: st)) rfl rfl (C.a d) _ g1, g2⟩
theorem W.caload (C : Cx p s m meth c Z y bytes ml ret) {a : Addr} {vs : List Value} {j : Int32} (i : Nat) {v : Value} (d : decode bytes pc = .ok (.caload, 1)) (A : Al Z h a .char vs) (hi : j.toInt = (i : Int)) (hv : vs[i]? = some v) (K : W p l e R s m args below meth c n0 Q kc ks k n h (pc + 1) ls (v :: st)) : W p l e R s m args below meth c n0 Q kc ks k n h pc ls (.int j :: .ref a :: st) := fun T locs X eT N => by
  obtain ⟨cl, A, r⟩ := A
  obtain ⟨s₂, o, g1, g2⟩ := K T locs X eT N
  have hb : i < vs.length := (List.getElem?_eq_some_iff.mp hv).1
  exact ⟨s₂, o, X.caload C.1 (j := j) (v := v) (by rw [eT]; exact A.1) (State.isArrayOf_alike C.2.1.alike A.2.1) A.2.2 (inb_of_idx hi r hb) (by rw [(idx_of hi).2, r]; simpa using hv) (g := mkF m pc ls (.int j :: .ref a :: st)) rfl rfl (C.a d) _ g1, g2⟩
theorem W.zaload (C : Cx p s m meth c Z y bytes ml ret) {a : Addr} {vs : List Value} {j : Int32} (i : Nat) {v : Value} (d : decode bytes pc = .ok (.baload, 1)) (A : Al Z h a .boolean vs) (hi : j.toInt = (i : Int)) (hv : vs[i]? = some v) (K : W p l e R s m args below meth c n0 Q kc ks k n h (pc + 1) ls (v :: st)) : W p l e R s m args below meth c n0 Q kc ks k n h pc ls (.int j :: .ref a :: st) := fun T locs X eT N => by
  obtain ⟨cl, A, r⟩ := A
  obtain ⟨s₂, o, g1, g2⟩ := K T locs X eT N
  have hb : i < vs.length := (List.getElem?_eq_some_iff.mp hv).1
  exact ⟨s₂, o, X.baloadBooleans C.1 (j := j) (v := v) (by rw [eT]; exact A.1) (State.isArrayOf_alike C.2.1.alike A.2.1) A.2.2 (inb_of_idx hi r hb) (by rw [(idx_of hi).2, r]; simpa using hv) (g := mkF m pc ls (.int j :: .ref a :: st)) rfl rfl (C.a d) _ g1, g2⟩
theorem W.aaload (C : Cx p s m meth c Z y bytes ml ret) {a : Addr} {ty : FieldType} {vs : List Value} {j : Int32} (i : Nat) {v : Value} (d : decode bytes pc = .ok (.aaload, 1)) (A : Al Z h a ty vs) (hty : ty.isReference = true) (hi : j.toInt = (i : Int)) (hv : vs[i]? = some v) (K : W p l e R s m args below meth c n0 Q kc ks k n h (pc + 1) ls (v :: st)) : W p l e R s m args below meth c n0 Q kc ks k n h pc ls (.int j :: .ref a :: st) := fun T locs X eT N => by
  obtain ⟨cl, A, r⟩ := A
  obtain ⟨s₂, o, g1, g2⟩ := K T locs X eT N
  have hb : i < vs.length := (List.getElem?_eq_some_iff.mp hv).1
  exact ⟨s₂, o, X.aaload C.1 (j := j) (v := v) (by rw [eT]; exact A.1) (State.isArrayOf_alike C.2.1.alike A.2.1) hty A.2.2 (inb_of_idx hi r hb) (by rw [(idx_of hi).2, r]; simpa using hv) (g := mkF m pc ls (.int j :: .ref a :: st)) rfl rfl (C.a d) _ g1, g2⟩
theorem W.iastore (C : Cx p s m meth c Z y bytes ml ret) {a : Addr} {vs : List Value} {j : Int32} {x : Int32} (i : Nat) (d : decode bytes pc = .ok (.iastore, 1)) (A : Al Z h a .int vs) (hi : j.toInt = (i : Int)) (hb : i < vs.length) (g : n0 ≤ a) (K : ∀ h', Wr h h' a i (.int x) → Al Z h' a .int (vs.set i (.int x)) → W p l e R s m args below meth c n0 Q kc ks k n h' (pc + 1) ls st) : W p l e R s m args below meth c n0 Q kc ks k n h pc ls (.int x :: .int j :: .ref a :: st) := fun T locs X eT N => by
  obtain ⟨cl, A, r⟩ := A
  obtain ⟨T1, h1, X1, e1, W1, st1⟩ := stI X C.1 C.2.1 eT A (j := j) (x := x) (inb_of_idx hi r hb) (g := mkF m pc ls (.int x :: .int j :: .ref a :: st)) rfl rfl (C.a d)
  have N1 := Fr.snoc X1 N g
  rw [(idx_of hi).2] at W1
  obtain ⟨s₂, o, g1, g2⟩ := K h1 W1 (Al.set ⟨cl, A, r⟩ W1) T1 _ X1 e1 N1
  exact ⟨s₂, o, st1 _ g1, g2⟩
theorem W.lastore (C : Cx p s m meth c Z y bytes ml ret) {a : Addr} {vs : List Value} {j : Int32} {x : Int64} (i : Nat) (d : decode bytes pc = .ok (.lastore, 1)) (A : Al Z h a .long vs) (hi : j.toInt = (i : Int)) (hb : i < vs.length) (g : n0 ≤ a) (K : ∀ h', Wr h h' a i (.long x) → Al Z h' a .long (vs.set i (.long x)) → W p l e R s m args below meth c n0 Q kc ks k n h' (pc + 1) ls st) : W p l e R s m args below meth c n0 Q kc ks k n h pc ls (.long x :: .int j :: .ref a :: st) := fun T locs X eT N => by
  obtain ⟨cl, A, r⟩ := A
  obtain ⟨T1, h1, X1, e1, W1, st1⟩ := stJ X C.1 C.2.1 eT A (j := j) (x := x) (inb_of_idx hi r hb) (g := mkF m pc ls (.long x :: .int j :: .ref a :: st)) rfl rfl (C.a d)
  have N1 := Fr.snoc X1 N g
  rw [(idx_of hi).2] at W1
  obtain ⟨s₂, o, g1, g2⟩ := K h1 W1 (Al.set ⟨cl, A, r⟩ W1) T1 _ X1 e1 N1
  exact ⟨s₂, o, st1 _ g1, g2⟩
theorem W.bastore (C : Cx p s m meth c Z y bytes ml ret) {a : Addr} {vs : List Value} {j : Int32} {x : Int32} (i : Nat) (d : decode bytes pc = .ok (.bastore, 1)) (A : Al Z h a .byte vs) (hi : j.toInt = (i : Int)) (hb : i < vs.length) (g : n0 ≤ a) (K : ∀ h', Wr h h' a i (.int x.toInt8.toInt32) → Al Z h' a .byte (vs.set i (.int x.toInt8.toInt32)) → W p l e R s m args below meth c n0 Q kc ks k n h' (pc + 1) ls st) : W p l e R s m args below meth c n0 Q kc ks k n h pc ls (.int x :: .int j :: .ref a :: st) := fun T locs X eT N => by
  obtain ⟨cl, A, r⟩ := A
  obtain ⟨T1, h1, X1, e1, W1, st1⟩ := stB X C.1 C.2.1 eT A (j := j) (x := x) (inb_of_idx hi r hb) (g := mkF m pc ls (.int x :: .int j :: .ref a :: st)) rfl rfl (C.a d)
  have N1 := Fr.snoc X1 N g
  rw [(idx_of hi).2] at W1
  obtain ⟨s₂, o, g1, g2⟩ := K h1 W1 (Al.set ⟨cl, A, r⟩ W1) T1 _ X1 e1 N1
  exact ⟨s₂, o, st1 _ g1, g2⟩
theorem W.castore (C : Cx p s m meth c Z y bytes ml ret) {a : Addr} {vs : List Value} {j : Int32} {x : Int32} (i : Nat) (d : decode bytes pc = .ok (.castore, 1)) (A : Al Z h a .char vs) (hi : j.toInt = (i : Int)) (hb : i < vs.length) (g : n0 ≤ a) (K : ∀ h', Wr h h' a i (.int x.toUInt32.toUInt16.toUInt32.toInt32) → Al Z h' a .char (vs.set i (.int x.toUInt32.toUInt16.toUInt32.toInt32)) → W p l e R s m args below meth c n0 Q kc ks k n h' (pc + 1) ls st) : W p l e R s m args below meth c n0 Q kc ks k n h pc ls (.int x :: .int j :: .ref a :: st) := fun T locs X eT N => by
  obtain ⟨cl, A, r⟩ := A
  obtain ⟨T1, h1, X1, e1, W1, st1⟩ := stC X C.1 C.2.1 eT A (j := j) (x := x) (inb_of_idx hi r hb) (g := mkF m pc ls (.int x :: .int j :: .ref a :: st)) rfl rfl (C.a d)
  have N1 := Fr.snoc X1 N g
  rw [(idx_of hi).2] at W1
  obtain ⟨s₂, o, g1, g2⟩ := K h1 W1 (Al.set ⟨cl, A, r⟩ W1) T1 _ X1 e1 N1
  exact ⟨s₂, o, st1 _ g1, g2⟩
theorem W.zastore (C : Cx p s m meth c Z y bytes ml ret) {a : Addr} {vs : List Value} {j : Int32} {x : Int32} (i : Nat) (d : decode bytes pc = .ok (.bastore, 1)) (A : Al Z h a .boolean vs) (hi : j.toInt = (i : Int)) (hb : i < vs.length) (g : n0 ≤ a) (K : ∀ h', Wr h h' a i (.int (x &&& 1)) → Al Z h' a .boolean (vs.set i (.int (x &&& 1))) → W p l e R s m args below meth c n0 Q kc ks k n h' (pc + 1) ls st) : W p l e R s m args below meth c n0 Q kc ks k n h pc ls (.int x :: .int j :: .ref a :: st) := fun T locs X eT N => by
  obtain ⟨cl, A, r⟩ := A
  obtain ⟨T1, h1, X1, e1, W1, st1⟩ := stZ X C.1 C.2.1 eT A (j := j) (x := x) (inb_of_idx hi r hb) (g := mkF m pc ls (.int x :: .int j :: .ref a :: st)) rfl rfl (C.a d)
  have N1 := Fr.snoc X1 N g
  rw [(idx_of hi).2] at W1
  obtain ⟨s₂, o, g1, g2⟩ := K h1 W1 (Al.set ⟨cl, A, r⟩ W1) T1 _ X1 e1 N1
  exact ⟨s₂, o, st1 _ g1, g2⟩
theorem W.newP (C : Cx p s m meth c Z y bytes ml ret) {aty : ArrayType} {nn : Int32} (sz cap : Nat) (d : decode bytes pc = .ok (.newarray aty, 2)) (w : (Jvm.Cond.arrayClass (newarray.typeOf aty)).before a0 Z = true) (hn : nn.toInt = (sz : Int)) (hcap : sz ≤ cap) (hb : cap * 8 ≤ 536870912) (k' n' : Nat) (hk : k + 1 = k') (hn' : n + cap = n') (hc : k' ≤ R.cells) (hl : n' ≤ R.slots)
    (K : ∀ a h', a = h.size → Ext h h' → Al Z h' a (newarray.typeOf aty) (List.replicate sz (defaultValue (newarray.typeOf aty))) → W p l e R s m args below meth c n0 Q kc ks k' n' h' (pc + 2) ls (.ref a :: st)) : W p l e R s m args below meth c n0 Q kc ks k n h pc ls (.int nn :: st) := fun T locs X eT N => by
  subst hk hn'
  obtain ⟨T1, h1, cA, X1, e1, E1, A1, st1⟩ := Jvm.RoadKit.newP X C.1 C.2.1 w eT (g := mkF m pc ls (.int nn :: st)) rfl (C.a d) rfl (idx_of hn).1 (cap := cap) (by rw [(idx_of hn).2]; exact hcap) hb hc hl
  obtain ⟨s₂, o, g1, g2⟩ := K _ h1 rfl E1 ⟨_, A1, by simp [newA, (idx_of hn).2]⟩ T1 _ X1 e1 N
  exact ⟨s₂, o, st1 _ g1, g2⟩
end
theorem tkw {ts : List Jvm.Cond} {a0 : Array Value} {Z : State} (hw : ∀ d ∈ ts, d.before a0 Z = true) (i : Nat) {d : Jvm.Cond} (q : ts[i]? = some d) : d.before a0 Z = true := hw d (List.mem_of_getElem? q)
end Jvm.OwnKit
namespace Jvm.Pilot.@@N@@
open Jvm Jvm.ClassFile Sem Op Lib Jvm.Free Jvm.Stand Jvm.LawKit Jvm.RoadKit Bundle Jvm.OwnKit Jvm.Pilot.@@N@@.Jvm.D
abbrev y5 : MethodName := ⟨"java/lang/Integer", "numberOfTrailingZeros", "(I)I"⟩
theorem d5_0 : decode jdk_33_method_48_code 0 = .ok (.iload_n 0, 1) := by decide +kernel
theorem d5_1 : decode jdk_33_method_48_code 1 = .ok (.iconst (-1), 1) := by decide +kernel
theorem d5_2 : decode jdk_33_method_48_code 2 = .ok (.ixor, 1) := by decide +kernel
theorem d5_3 : decode jdk_33_method_48_code 3 = .ok (.iload_n 0, 1) := by decide +kernel
theorem d5_4 : decode jdk_33_method_48_code 4 = .ok (.iconst 1, 1) := by decide +kernel
theorem d5_5 : decode jdk_33_method_48_code 5 = .ok (.isub, 1) := by decide +kernel
theorem d5_6 : decode jdk_33_method_48_code 6 = .ok (.iand, 1) := by decide +kernel
theorem d5_7 : decode jdk_33_method_48_code 7 = .ok (.istore_n 0, 1) := by decide +kernel
theorem d5_8 : decode jdk_33_method_48_code 8 = .ok (.iload_n 0, 1) := by decide +kernel
theorem d5_9 : decode jdk_33_method_48_code 9 = .ok (.ifCond .gt 8, 3) := by decide +kernel
theorem d5_12 : decode jdk_33_method_48_code 12 = .ok (.iload_n 0, 1) := by decide +kernel
theorem d5_13 : decode jdk_33_method_48_code 13 = .ok (.bipush 32, 2) := by decide +kernel
theorem d5_15 : decode jdk_33_method_48_code 15 = .ok (.iand, 1) := by decide +kernel
theorem d5_16 : decode jdk_33_method_48_code 16 = .ok (.ireturn, 1) := by decide +kernel
theorem d5_17 : decode jdk_33_method_48_code 17 = .ok (.iconst 1, 1) := by decide +kernel
theorem d5_18 : decode jdk_33_method_48_code 18 = .ok (.istore_n 1, 1) := by decide +kernel
theorem d5_19 : decode jdk_33_method_48_code 19 = .ok (.iload_n 0, 1) := by decide +kernel
theorem d5_20 : decode jdk_33_method_48_code 20 = .ok (.ldc_w 264, 3) := by decide +kernel
theorem d5_23 : decode jdk_33_method_48_code 23 = .ok (.if_icmp .le 11, 3) := by decide +kernel
theorem d5_26 : decode jdk_33_method_48_code 26 = .ok (.iinc 1 16, 3) := by decide +kernel
theorem d5_29 : decode jdk_33_method_48_code 29 = .ok (.iload_n 0, 1) := by decide +kernel
theorem d5_30 : decode jdk_33_method_48_code 30 = .ok (.bipush 16, 2) := by decide +kernel
theorem d5_32 : decode jdk_33_method_48_code 32 = .ok (.iushr, 1) := by decide +kernel
theorem d5_33 : decode jdk_33_method_48_code 33 = .ok (.istore_n 0, 1) := by decide +kernel
theorem d5_34 : decode jdk_33_method_48_code 34 = .ok (.iload_n 0, 1) := by decide +kernel
theorem d5_35 : decode jdk_33_method_48_code 35 = .ok (.sipush 256, 3) := by decide +kernel
theorem d5_38 : decode jdk_33_method_48_code 38 = .ok (.if_icmp .le 11, 3) := by decide +kernel
theorem d5_41 : decode jdk_33_method_48_code 41 = .ok (.iinc 1 8, 3) := by decide +kernel
theorem d5_44 : decode jdk_33_method_48_code 44 = .ok (.iload_n 0, 1) := by decide +kernel
theorem d5_45 : decode jdk_33_method_48_code 45 = .ok (.bipush 8, 2) := by decide +kernel
theorem d5_47 : decode jdk_33_method_48_code 47 = .ok (.iushr, 1) := by decide +kernel
theorem d5_48 : decode jdk_33_method_48_code 48 = .ok (.istore_n 0, 1) := by decide +kernel
theorem d5_49 : decode jdk_33_method_48_code 49 = .ok (.iload_n 0, 1) := by decide +kernel
theorem d5_50 : decode jdk_33_method_48_code 50 = .ok (.bipush 16, 2) := by decide +kernel
theorem d5_52 : decode jdk_33_method_48_code 52 = .ok (.if_icmp .le 10, 3) := by decide +kernel
theorem d5_55 : decode jdk_33_method_48_code 55 = .ok (.iinc 1 4, 3) := by decide +kernel
theorem d5_58 : decode jdk_33_method_48_code 58 = .ok (.iload_n 0, 1) := by decide +kernel
theorem d5_59 : decode jdk_33_method_48_code 59 = .ok (.iconst 4, 1) := by decide +kernel
theorem d5_60 : decode jdk_33_method_48_code 60 = .ok (.iushr, 1) := by decide +kernel
theorem d5_61 : decode jdk_33_method_48_code 61 = .ok (.istore_n 0, 1) := by decide +kernel
theorem d5_62 : decode jdk_33_method_48_code 62 = .ok (.iload_n 0, 1) := by decide +kernel
theorem d5_63 : decode jdk_33_method_48_code 63 = .ok (.iconst 4, 1) := by decide +kernel
theorem d5_64 : decode jdk_33_method_48_code 64 = .ok (.if_icmp .le 10, 3) := by decide +kernel
theorem d5_67 : decode jdk_33_method_48_code 67 = .ok (.iinc 1 2, 3) := by decide +kernel
theorem d5_70 : decode jdk_33_method_48_code 70 = .ok (.iload_n 0, 1) := by decide +kernel
theorem d5_71 : decode jdk_33_method_48_code 71 = .ok (.iconst 2, 1) := by decide +kernel
theorem d5_72 : decode jdk_33_method_48_code 72 = .ok (.iushr, 1) := by decide +kernel
theorem d5_73 : decode jdk_33_method_48_code 73 = .ok (.istore_n 0, 1) := by decide +kernel
theorem d5_74 : decode jdk_33_method_48_code 74 = .ok (.iload_n 1, 1) := by decide +kernel
theorem d5_75 : decode jdk_33_method_48_code 75 = .ok (.iload_n 0, 1) := by decide +kernel
theorem d5_76 : decode jdk_33_method_48_code 76 = .ok (.iconst 1, 1) := by decide +kernel
theorem d5_77 : decode jdk_33_method_48_code 77 = .ok (.iushr, 1) := by decide +kernel
theorem d5_78 : decode jdk_33_method_48_code 78 = .ok (.iadd, 1) := by decide +kernel
theorem d5_79 : decode jdk_33_method_48_code 79 = .ok (.ireturn, 1) := by decide +kernel
theorem pf_5 : plainFor y5 = true := by first | exact plainFor_of_name (by first | (simp [plainName, overriddenIn]; done) | decide +kernel) | decide +kernel
theorem ef_5 (m : MethodId) (x : Int32) : entryFrame m #[(.int x)] 2 = mkF m 0 #[.val (.int x), .unset] [] := by first | (simp [entryFrame, mkF, argsToLocals, Value.category]; done) | rfl
def own_nti (x : Int32) : Int32 := if 0 < ((x ^^^ (-1 : Int32)) &&& (x - (1 : Int32))) then if (65536 : Int32) < ((x ^^^ (-1 : Int32)) &&& (x - (1 : Int32))) then if (256 : Int32) < ((((x ^^^ (-1 : Int32)) &&& (x - (1 : Int32)))).toUInt32 >>> ((16 : Int32) &&& 31).toUInt32).toInt32 then if (16 : Int32) < ((((((x ^^^ (-1 : Int32)) &&& (x - (1 : Int32)))).toUInt32 >>> ((16 : Int32) &&& 31).toUInt32).toInt32).toUInt32 >>> ((8 : Int32) &&& 31).toUInt32).toInt32 then if (4 : Int32) < ((((((((x ^^^ (-1 : Int32)) &&& (x - (1 : Int32)))).toUInt32 >>> ((16 : Int32) &&& 31).toUInt32).toInt32).toUInt32 >>> ((8 : Int32) &&& 31).toUInt32).toInt32).toUInt32 >>> ((4 : Int32) &&& 31).toUInt32).toInt32 then ((31 : Int32) + ((((((((((((x ^^^ (-1 : Int32)) &&& (x - (1 : Int32)))).toUInt32 >>> ((16 : Int32) &&& 31).toUInt32).toInt32).toUInt32 >>> ((8 : Int32) &&& 31).toUInt32).toInt32).toUInt32 >>> ((4 : Int32) &&& 31).toUInt32).toInt32).toUInt32 >>> ((2 : Int32) &&& 31).toUInt32).toInt32).toUInt32 >>> ((1 : Int32) &&& 31).toUInt32).toInt32) else ((29 : Int32) + ((((((((((x ^^^ (-1 : Int32)) &&& (x - (1 : Int32)))).toUInt32 >>> ((16 : Int32) &&& 31).toUInt32).toInt32).toUInt32 >>> ((8 : Int32) &&& 31).toUInt32).toInt32).toUInt32 >>> ((4 : Int32) &&& 31).toUInt32).toInt32).toUInt32 >>> ((1 : Int32) &&& 31).toUInt32).toInt32) else if (4 : Int32) < ((((((x ^^^ (-1 : Int32)) &&& (x - (1 : Int32)))).toUInt32 >>> ((16 : Int32) &&& 31).toUInt32).toInt32).toUInt32 >>> ((8 : Int32) &&& 31).toUInt32).toInt32 then ((27 : Int32) + ((((((((((x ^^^ (-1 : Int32)) &&& (x - (1 : Int32)))).toUInt32 >>> ((16 : Int32) &&& 31).toUInt32).toInt32).toUInt32 >>> ((8 : Int32) &&& 31).toUInt32).toInt32).toUInt32 >>> ((2 : Int32) &&& 31).toUInt32).toInt32).toUInt32 >>> ((1 : Int32) &&& 31).toUInt32).toInt32) else ((25 : Int32) + ((((((((x ^^^ (-1 : Int32)) &&& (x - (1 : Int32)))).toUInt32 >>> ((16 : Int32) &&& 31).toUInt32).toInt32).toUInt32 >>> ((8 : Int32) &&& 31).toUInt32).toInt32).toUInt32 >>> ((1 : Int32) &&& 31).toUInt32).toInt32) else if (16 : Int32) < ((((x ^^^ (-1 : Int32)) &&& (x - (1 : Int32)))).toUInt32 >>> ((16 : Int32) &&& 31).toUInt32).toInt32 then if (4 : Int32) < ((((((x ^^^ (-1 : Int32)) &&& (x - (1 : Int32)))).toUInt32 >>> ((16 : Int32) &&& 31).toUInt32).toInt32).toUInt32 >>> ((4 : Int32) &&& 31).toUInt32).toInt32 then ((23 : Int32) + ((((((((((x ^^^ (-1 : Int32)) &&& (x - (1 : Int32)))).toUInt32 >>> ((16 : Int32) &&& 31).toUInt32).toInt32).toUInt32 >>> ((4 : Int32) &&& 31).toUInt32).toInt32).toUInt32 >>> ((2 : Int32) &&& 31).toUInt32).toInt32).toUInt32 >>> ((1 : Int32) &&& 31).toUInt32).toInt32) else ((21 : Int32) + ((((((((x ^^^ (-1 : Int32)) &&& (x - (1 : Int32)))).toUInt32 >>> ((16 : Int32) &&& 31).toUInt32).toInt32).toUInt32 >>> ((4 : Int32) &&& 31).toUInt32).toInt32).toUInt32 >>> ((1 : Int32) &&& 31).toUInt32).toInt32) else if (4 : Int32) < ((((x ^^^ (-1 : Int32)) &&& (x - (1 : Int32)))).toUInt32 >>> ((16 : Int32) &&& 31).toUInt32).toInt32 then ((19 : Int32) + ((((((((x ^^^ (-1 : Int32)) &&& (x - (1 : Int32)))).toUInt32 >>> ((16 : Int32) &&& 31).toUInt32).toInt32).toUInt32 >>> ((2 : Int32) &&& 31).toUInt32).toInt32).toUInt32 >>> ((1 : Int32) &&& 31).toUInt32).toInt32) else ((17 : Int32) + ((((((x ^^^ (-1 : Int32)) &&& (x - (1 : Int32)))).toUInt32 >>> ((16 : Int32) &&& 31).toUInt32).toInt32).toUInt32 >>> ((1 : Int32) &&& 31).toUInt32).toInt32) else if (256 : Int32) < ((x ^^^ (-1 : Int32)) &&& (x - (1 : Int32))) then if (16 : Int32) < ((((x ^^^ (-1 : Int32)) &&& (x - (1 : Int32)))).toUInt32 >>> ((8 : Int32) &&& 31).toUInt32).toInt32 then if (4 : Int32) < ((((((x ^^^ (-1 : Int32)) &&& (x - (1 : Int32)))).toUInt32 >>> ((8 : Int32) &&& 31).toUInt32).toInt32).toUInt32 >>> ((4 : Int32) &&& 31).toUInt32).toInt32 then ((15 : Int32) + ((((((((((x ^^^ (-1 : Int32)) &&& (x - (1 : Int32)))).toUInt32 >>> ((8 : Int32) &&& 31).toUInt32).toInt32).toUInt32 >>> ((4 : Int32) &&& 31).toUInt32).toInt32).toUInt32 >>> ((2 : Int32) &&& 31).toUInt32).toInt32).toUInt32 >>> ((1 : Int32) &&& 31).toUInt32).toInt32) else ((13 : Int32) + ((((((((x ^^^ (-1 : Int32)) &&& (x - (1 : Int32)))).toUInt32 >>> ((8 : Int32) &&& 31).toUInt32).toInt32).toUInt32 >>> ((4 : Int32) &&& 31).toUInt32).toInt32).toUInt32 >>> ((1 : Int32) &&& 31).toUInt32).toInt32) else if (4 : Int32) < ((((x ^^^ (-1 : Int32)) &&& (x - (1 : Int32)))).toUInt32 >>> ((8 : Int32) &&& 31).toUInt32).toInt32 then ((11 : Int32) + ((((((((x ^^^ (-1 : Int32)) &&& (x - (1 : Int32)))).toUInt32 >>> ((8 : Int32) &&& 31).toUInt32).toInt32).toUInt32 >>> ((2 : Int32) &&& 31).toUInt32).toInt32).toUInt32 >>> ((1 : Int32) &&& 31).toUInt32).toInt32) else ((9 : Int32) + ((((((x ^^^ (-1 : Int32)) &&& (x - (1 : Int32)))).toUInt32 >>> ((8 : Int32) &&& 31).toUInt32).toInt32).toUInt32 >>> ((1 : Int32) &&& 31).toUInt32).toInt32) else if (16 : Int32) < ((x ^^^ (-1 : Int32)) &&& (x - (1 : Int32))) then if (4 : Int32) < ((((x ^^^ (-1 : Int32)) &&& (x - (1 : Int32)))).toUInt32 >>> ((4 : Int32) &&& 31).toUInt32).toInt32 then ((7 : Int32) + ((((((((x ^^^ (-1 : Int32)) &&& (x - (1 : Int32)))).toUInt32 >>> ((4 : Int32) &&& 31).toUInt32).toInt32).toUInt32 >>> ((2 : Int32) &&& 31).toUInt32).toInt32).toUInt32 >>> ((1 : Int32) &&& 31).toUInt32).toInt32) else ((5 : Int32) + ((((((x ^^^ (-1 : Int32)) &&& (x - (1 : Int32)))).toUInt32 >>> ((4 : Int32) &&& 31).toUInt32).toInt32).toUInt32 >>> ((1 : Int32) &&& 31).toUInt32).toInt32) else if (4 : Int32) < ((x ^^^ (-1 : Int32)) &&& (x - (1 : Int32))) then ((3 : Int32) + ((((((x ^^^ (-1 : Int32)) &&& (x - (1 : Int32)))).toUInt32 >>> ((2 : Int32) &&& 31).toUInt32).toInt32).toUInt32 >>> ((1 : Int32) &&& 31).toUInt32).toInt32) else ((1 : Int32) + ((((x ^^^ (-1 : Int32)) &&& (x - (1 : Int32)))).toUInt32 >>> ((1 : Int32) &&& 31).toUInt32).toInt32) else (((x ^^^ (-1 : Int32)) &&& (x - (1 : Int32))) &&& (32 : Int32))
set_option maxRecDepth 65536 in
set_option maxHeartbeats 40000000 in
theorem con_5 (l : Launch) (Z : State) (a0 : Array Value) (hw : ∀ d ∈ tables_1, d.before a0 Z = true) (h0 : Heap) (n0 : Nat) (x : Int32)   : Con l Z y5 jdk_33_method_48_code 2 (some .int) ({ frames := 0, cells := 0, slots := 0, locals := 0 } : Room) #[(.int x)] h0 n0 (Pu (some (.int (own_nti x))) h0) := by
  refine Con.of pf_5 (fun m => ef_5 m x) ?_
  intro p e s m below meth c C
  refine W.iloadN C d5_0 rfl ?_
  refine W.iconst C (-1 : Int32) d5_1 rfl ?_
  refine W.ixor C d5_2 ?_
  refine W.iloadN C d5_3 rfl ?_
  refine W.iconst C (1 : Int32) d5_4 rfl ?_
  refine W.isub C d5_5 ?_
  refine W.iand C d5_6 ?_
  refine W.istoreN C #[.val (.int ((x ^^^ (-1 : Int32)) &&& (x - (1 : Int32)))), .unset] d5_7 rfl ?_
  refine W.iloadN C d5_8 rfl ?_
  refine W.if_gt C 17 d5_9 rfl (fun b1 => ?_) (fun b1 => ?_)
  · skip
    refine W.iconst C (1 : Int32) d5_17 rfl ?_
    refine W.istoreN C #[.val (.int ((x ^^^ (-1 : Int32)) &&& (x - (1 : Int32)))), .val (.int (1 : Int32))] d5_18 rfl ?_
    refine W.iloadN C d5_19 rfl ?_
    refine W.ldcWI C (v := (65536 : Int32)) d5_20 (tkw hw 25 rfl) ?_
    refine W.icmp_le C 34 d5_23 rfl (fun b2 => ?_) (fun b2 => ?_)
    · skip
      refine W.iloadN C d5_34 rfl ?_
      refine W.sipush C (256 : Int32) d5_35 rfl ?_
      refine W.icmp_le C 49 d5_38 rfl (fun b3 => ?_) (fun b3 => ?_)
      · skip
        refine W.iloadN C d5_49 rfl ?_
        refine W.bipush C (16 : Int32) d5_50 rfl ?_
        refine W.icmp_le C 62 d5_52 rfl (fun b4 => ?_) (fun b4 => ?_)
        · skip
          refine W.iloadN C d5_62 rfl ?_
          refine W.iconst C (4 : Int32) d5_63 rfl ?_
          refine W.icmp_le C 74 d5_64 rfl (fun b5 => ?_) (fun b5 => ?_)
          · skip
            refine W.iloadN C d5_74 rfl ?_
            refine W.iloadN C d5_75 rfl ?_
            refine W.iconst C (1 : Int32) d5_76 rfl ?_
            refine W.iushr C d5_77 ?_
            refine W.iadd C d5_78 ?_
            exact W.iret C d5_79 (by simp) rfl (by decide) (by decide) ⟨by show some _ = some _; rw [own_nti, if_pos b1, if_neg b2, if_neg b3, if_neg b4, if_neg b5], rfl⟩
          · skip
            refine W.iinc C (3 : Int32) #[.val (.int ((x ^^^ (-1 : Int32)) &&& (x - (1 : Int32)))), .val (.int (3 : Int32))] d5_67 rfl rfl rfl ?_
            refine W.iloadN C d5_70 rfl ?_
            refine W.iconst C (2 : Int32) d5_71 rfl ?_
            refine W.iushr C d5_72 ?_
            refine W.istoreN C #[.val (.int ((((x ^^^ (-1 : Int32)) &&& (x - (1 : Int32)))).toUInt32 >>> ((2 : Int32) &&& 31).toUInt32).toInt32), .val (.int (3 : Int32))] d5_73 rfl ?_
            refine W.iloadN C d5_74 rfl ?_
            refine W.iloadN C d5_75 rfl ?_
            refine W.iconst C (1 : Int32) d5_76 rfl ?_
            refine W.iushr C d5_77 ?_
            refine W.iadd C d5_78 ?_
            exact W.iret C d5_79 (by simp) rfl (by decide) (by decide) ⟨by show some _ = some _; rw [own_nti, if_pos b1, if_neg b2, if_neg b3, if_neg b4, if_pos b5], rfl⟩
        · skip
          refine W.iinc C (5 : Int32) #[.val (.int ((x ^^^ (-1 : Int32)) &&& (x - (1 : Int32)))), .val (.int (5 : Int32))] d5_55 rfl rfl rfl ?_
          refine W.iloadN C d5_58 rfl ?_
          refine W.iconst C (4 : Int32) d5_59 rfl ?_
          refine W.iushr C d5_60 ?_
          refine W.istoreN C #[.val (.int ((((x ^^^ (-1 : Int32)) &&& (x - (1 : Int32)))).toUInt32 >>> ((4 : Int32) &&& 31).toUInt32).toInt32), .val (.int (5 : Int32))] d5_61 rfl ?_
          refine W.iloadN C d5_62 rfl ?_
          refine W.iconst C (4 : Int32) d5_63 rfl ?_
          refine W.icmp_le C 74 d5_64 rfl (fun b6 => ?_) (fun b6 => ?_)
          · skip
            refine W.iloadN C d5_74 rfl ?_
            refine W.iloadN C d5_75 rfl ?_
            refine W.iconst C (1 : Int32) d5_76 rfl ?_
            refine W.iushr C d5_77 ?_
            refine W.iadd C d5_78 ?_
            exact W.iret C d5_79 (by simp) rfl (by decide) (by decide) ⟨by show some _ = some _; rw [own_nti, if_pos b1, if_neg b2, if_neg b3, if_pos b4, if_neg b6], rfl⟩
          · skip
            refine W.iinc C (7 : Int32) #[.val (.int ((((x ^^^ (-1 : Int32)) &&& (x - (1 : Int32)))).toUInt32 >>> ((4 : Int32) &&& 31).toUInt32).toInt32), .val (.int (7 : Int32))] d5_67 rfl rfl rfl ?_
            refine W.iloadN C d5_70 rfl ?_
            refine W.iconst C (2 : Int32) d5_71 rfl ?_
            refine W.iushr C d5_72 ?_
            refine W.istoreN C #[.val (.int ((((((x ^^^ (-1 : Int32)) &&& (x - (1 : Int32)))).toUInt32 >>> ((4 : Int32) &&& 31).toUInt32).toInt32).toUInt32 >>> ((2 : Int32) &&& 31).toUInt32).toInt32), .val (.int (7 : Int32))] d5_73 rfl ?_
            refine W.iloadN C d5_74 rfl ?_
            refine W.iloadN C d5_75 rfl ?_
            refine W.iconst C (1 : Int32) d5_76 rfl ?_
            refine W.iushr C d5_77 ?_
            refine W.iadd C d5_78 ?_
            exact W.iret C d5_79 (by simp) rfl (by decide) (by decide) ⟨by show some _ = some _; rw [own_nti, if_pos b1, if_neg b2, if_neg b3, if_pos b4, if_pos b6], rfl⟩
      · skip
        refine W.iinc C (9 : Int32) #[.val (.int ((x ^^^ (-1 : Int32)) &&& (x - (1 : Int32)))), .val (.int (9 : Int32))] d5_41 rfl rfl rfl ?_
        refine W.iloadN C d5_44 rfl ?_
        refine W.bipush C (8 : Int32) d5_45 rfl ?_
        refine W.iushr C d5_47 ?_
        refine W.istoreN C #[.val (.int ((((x ^^^ (-1 : Int32)) &&& (x - (1 : Int32)))).toUInt32 >>> ((8 : Int32) &&& 31).toUInt32).toInt32), .val (.int (9 : Int32))] d5_48 rfl ?_
        refine W.iloadN C d5_49 rfl ?_
        refine W.bipush C (16 : Int32) d5_50 rfl ?_
        refine W.icmp_le C 62 d5_52 rfl (fun b7 => ?_) (fun b7 => ?_)
        · skip
          refine W.iloadN C d5_62 rfl ?_
          refine W.iconst C (4 : Int32) d5_63 rfl ?_
          refine W.icmp_le C 74 d5_64 rfl (fun b8 => ?_) (fun b8 => ?_)
          · skip
            refine W.iloadN C d5_74 rfl ?_
            refine W.iloadN C d5_75 rfl ?_
            refine W.iconst C (1 : Int32) d5_76 rfl ?_
            refine W.iushr C d5_77 ?_
            refine W.iadd C d5_78 ?_
            exact W.iret C d5_79 (by simp) rfl (by decide) (by decide) ⟨by show some _ = some _; rw [own_nti, if_pos b1, if_neg b2, if_pos b3, if_neg b7, if_neg b8], rfl⟩
          · skip
            refine W.iinc C (11 : Int32) #[.val (.int ((((x ^^^ (-1 : Int32)) &&& (x - (1 : Int32)))).toUInt32 >>> ((8 : Int32) &&& 31).toUInt32).toInt32), .val (.int (11 : Int32))] d5_67 rfl rfl rfl ?_
            refine W.iloadN C d5_70 rfl ?_
            refine W.iconst C (2 : Int32) d5_71 rfl ?_
            refine W.iushr C d5_72 ?_
            refine W.istoreN C #[.val (.int ((((((x ^^^ (-1 : Int32)) &&& (x - (1 : Int32)))).toUInt32 >>> ((8 : Int32) &&& 31).toUInt32).toInt32).toUInt32 >>> ((2 : Int32) &&& 31).toUInt32).toInt32), .val (.int (11 : Int32))] d5_73 rfl ?_
            refine W.iloadN C d5_74 rfl ?_
            refine W.iloadN C d5_75 rfl ?_
            refine W.iconst C (1 : Int32) d5_76 rfl ?_
            refine W.iushr C d5_77 ?_
            refine W.iadd C d5_78 ?_
            exact W.iret C d5_79 (by simp) rfl (by decide) (by decide) ⟨by show some _ = some _; rw [own_nti, if_pos b1, if_neg b2, if_pos b3, if_neg b7, if_pos b8], rfl⟩
        · skip
          refine W.iinc C (13 : Int32) #[.val (.int ((((x ^^^ (-1 : Int32)) &&& (x - (1 : Int32)))).toUInt32 >>> ((8 : Int32) &&& 31).toUInt32).toInt32), .val (.int (13 : Int32))] d5_55 rfl rfl rfl ?_
          refine W.iloadN C d5_58 rfl ?_
          refine W.iconst C (4 : Int32) d5_59 rfl ?_
          refine W.iushr C d5_60 ?_
          refine W.istoreN C #[.val (.int ((((((x ^^^ (-1 : Int32)) &&& (x - (1 : Int32)))).toUInt32 >>> ((8 : Int32) &&& 31).toUInt32).toInt32).toUInt32 >>> ((4 : Int32) &&& 31).toUInt32).toInt32), .val (.int (13 : Int32))] d5_61 rfl ?_
          refine W.iloadN C d5_62 rfl ?_
          refine W.iconst C (4 : Int32) d5_63 rfl ?_
          refine W.icmp_le C 74 d5_64 rfl (fun b9 => ?_) (fun b9 => ?_)
          · skip
            refine W.iloadN C d5_74 rfl ?_
            refine W.iloadN C d5_75 rfl ?_
            refine W.iconst C (1 : Int32) d5_76 rfl ?_
            refine W.iushr C d5_77 ?_
            refine W.iadd C d5_78 ?_
            exact W.iret C d5_79 (by simp) rfl (by decide) (by decide) ⟨by show some _ = some _; rw [own_nti, if_pos b1, if_neg b2, if_pos b3, if_pos b7, if_neg b9], rfl⟩
          · skip
            refine W.iinc C (15 : Int32) #[.val (.int ((((((x ^^^ (-1 : Int32)) &&& (x - (1 : Int32)))).toUInt32 >>> ((8 : Int32) &&& 31).toUInt32).toInt32).toUInt32 >>> ((4 : Int32) &&& 31).toUInt32).toInt32), .val (.int (15 : Int32))] d5_67 rfl rfl rfl ?_
            refine W.iloadN C d5_70 rfl ?_
            refine W.iconst C (2 : Int32) d5_71 rfl ?_
            refine W.iushr C d5_72 ?_
            refine W.istoreN C #[.val (.int ((((((((x ^^^ (-1 : Int32)) &&& (x - (1 : Int32)))).toUInt32 >>> ((8 : Int32) &&& 31).toUInt32).toInt32).toUInt32 >>> ((4 : Int32) &&& 31).toUInt32).toInt32).toUInt32 >>> ((2 : Int32) &&& 31).toUInt32).toInt32), .val (.int (15 : Int32))] d5_73 rfl ?_
            refine W.iloadN C d5_74 rfl ?_
            refine W.iloadN C d5_75 rfl ?_
            refine W.iconst C (1 : Int32) d5_76 rfl ?_
            refine W.iushr C d5_77 ?_
            refine W.iadd C d5_78 ?_
            exact W.iret C d5_79 (by simp) rfl (by decide) (by decide) ⟨by show some _ = some _; rw [own_nti, if_pos b1, if_neg b2, if_pos b3, if_pos b7, if_pos b9], rfl⟩
    · skip
      refine W.iinc C (17 : Int32) #[.val (.int ((x ^^^ (-1 : Int32)) &&& (x - (1 : Int32)))), .val (.int (17 : Int32))] d5_26 rfl rfl rfl ?_
      refine W.iloadN C d5_29 rfl ?_
      refine W.bipush C (16 : Int32) d5_30 rfl ?_
      refine W.iushr C d5_32 ?_
      refine W.istoreN C #[.val (.int ((((x ^^^ (-1 : Int32)) &&& (x - (1 : Int32)))).toUInt32 >>> ((16 : Int32) &&& 31).toUInt32).toInt32), .val (.int (17 : Int32))] d5_33 rfl ?_
      refine W.iloadN C d5_34 rfl ?_
      refine W.sipush C (256 : Int32) d5_35 rfl ?_
      refine W.icmp_le C 49 d5_38 rfl (fun b10 => ?_) (fun b10 => ?_)
      · skip
        refine W.iloadN C d5_49 rfl ?_
        refine W.bipush C (16 : Int32) d5_50 rfl ?_
        refine W.icmp_le C 62 d5_52 rfl (fun b11 => ?_) (fun b11 => ?_)
        · skip
          refine W.iloadN C d5_62 rfl ?_
          refine W.iconst C (4 : Int32) d5_63 rfl ?_
          refine W.icmp_le C 74 d5_64 rfl (fun b12 => ?_) (fun b12 => ?_)
          · skip
            refine W.iloadN C d5_74 rfl ?_
            refine W.iloadN C d5_75 rfl ?_
            refine W.iconst C (1 : Int32) d5_76 rfl ?_
            refine W.iushr C d5_77 ?_
            refine W.iadd C d5_78 ?_
            exact W.iret C d5_79 (by simp) rfl (by decide) (by decide) ⟨by show some _ = some _; rw [own_nti, if_pos b1, if_pos b2, if_neg b10, if_neg b11, if_neg b12], rfl⟩
          · skip
            refine W.iinc C (19 : Int32) #[.val (.int ((((x ^^^ (-1 : Int32)) &&& (x - (1 : Int32)))).toUInt32 >>> ((16 : Int32) &&& 31).toUInt32).toInt32), .val (.int (19 : Int32))] d5_67 rfl rfl rfl ?_
            refine W.iloadN C d5_70 rfl ?_
            refine W.iconst C (2 : Int32) d5_71 rfl ?_
            refine W.iushr C d5_72 ?_
            refine W.istoreN C #[.val (.int ((((((x ^^^ (-1 : Int32)) &&& (x - (1 : Int32)))).toUInt32 >>> ((16 : Int32) &&& 31).toUInt32).toInt32).toUInt32 >>> ((2 : Int32) &&& 31).toUInt32).toInt32), .val (.int (19 : Int32))] d5_73 rfl ?_
            refine W.iloadN C d5_74 rfl ?_
            refine W.iloadN C d5_75 rfl ?_
            refine W.iconst C (1 : Int32) d5_76 rfl ?_
            refine W.iushr C d5_77 ?_
            refine W.iadd C d5_78 ?_
            exact W.iret C d5_79 (by simp) rfl (by decide) (by decide) ⟨by show some _ = some _; rw [own_nti, if_pos b1, if_pos b2, if_neg b10, if_neg b11, if_pos b12], rfl⟩
        · skip
          refine W.iinc C (21 : Int32) #[.val (.int ((((x ^^^ (-1 : Int32)) &&& (x - (1 : Int32)))).toUInt32 >>> ((16 : Int32) &&& 31).toUInt32).toInt32), .val (.int (21 : Int32))] d5_55 rfl rfl rfl ?_
          refine W.iloadN C d5_58 rfl ?_
          refine W.iconst C (4 : Int32) d5_59 rfl ?_
          refine W.iushr C d5_60 ?_
          refine W.istoreN C #[.val (.int ((((((x ^^^ (-1 : Int32)) &&& (x - (1 : Int32)))).toUInt32 >>> ((16 : Int32) &&& 31).toUInt32).toInt32).toUInt32 >>> ((4 : Int32) &&& 31).toUInt32).toInt32), .val (.int (21 : Int32))] d5_61 rfl ?_
          refine W.iloadN C d5_62 rfl ?_
          refine W.iconst C (4 : Int32) d5_63 rfl ?_
          refine W.icmp_le C 74 d5_64 rfl (fun b13 => ?_) (fun b13 => ?_)
          · skip
            refine W.iloadN C d5_74 rfl ?_
            refine W.iloadN C d5_75 rfl ?_
            refine W.iconst C (1 : Int32) d5_76 rfl ?_
            refine W.iushr C d5_77 ?_
            refine W.iadd C d5_78 ?_
            exact W.iret C d5_79 (by simp) rfl (by decide) (by decide) ⟨by show some _ = some _; rw [own_nti, if_pos b1, if_pos b2, if_neg b10, if_pos b11, if_neg b13], rfl⟩
          · skip
            refine W.iinc C (23 : Int32) #[.val (.int ((((((x ^^^ (-1 : Int32)) &&& (x - (1 : Int32)))).toUInt32 >>> ((16 : Int32) &&& 31).toUInt32).toInt32).toUInt32 >>> ((4 : Int32) &&& 31).toUInt32).toInt32), .val (.int (23 : Int32))] d5_67 rfl rfl rfl ?_
            refine W.iloadN C d5_70 rfl ?_
            refine W.iconst C (2 : Int32) d5_71 rfl ?_
            refine W.iushr C d5_72 ?_
            refine W.istoreN C #[.val (.int ((((((((x ^^^ (-1 : Int32)) &&& (x - (1 : Int32)))).toUInt32 >>> ((16 : Int32) &&& 31).toUInt32).toInt32).toUInt32 >>> ((4 : Int32) &&& 31).toUInt32).toInt32).toUInt32 >>> ((2 : Int32) &&& 31).toUInt32).toInt32), .val (.int (23 : Int32))] d5_73 rfl ?_
            refine W.iloadN C d5_74 rfl ?_
            refine W.iloadN C d5_75 rfl ?_
            refine W.iconst C (1 : Int32) d5_76 rfl ?_
            refine W.iushr C d5_77 ?_
            refine W.iadd C d5_78 ?_
            exact W.iret C d5_79 (by simp) rfl (by decide) (by decide) ⟨by show some _ = some _; rw [own_nti, if_pos b1, if_pos b2, if_neg b10, if_pos b11, if_pos b13], rfl⟩
      · skip
        refine W.iinc C (25 : Int32) #[.val (.int ((((x ^^^ (-1 : Int32)) &&& (x - (1 : Int32)))).toUInt32 >>> ((16 : Int32) &&& 31).toUInt32).toInt32), .val (.int (25 : Int32))] d5_41 rfl rfl rfl ?_
        refine W.iloadN C d5_44 rfl ?_
        refine W.bipush C (8 : Int32) d5_45 rfl ?_
        refine W.iushr C d5_47 ?_
        refine W.istoreN C #[.val (.int ((((((x ^^^ (-1 : Int32)) &&& (x - (1 : Int32)))).toUInt32 >>> ((16 : Int32) &&& 31).toUInt32).toInt32).toUInt32 >>> ((8 : Int32) &&& 31).toUInt32).toInt32), .val (.int (25 : Int32))] d5_48 rfl ?_
        refine W.iloadN C d5_49 rfl ?_
        refine W.bipush C (16 : Int32) d5_50 rfl ?_
        refine W.icmp_le C 62 d5_52 rfl (fun b14 => ?_) (fun b14 => ?_)
        · skip
          refine W.iloadN C d5_62 rfl ?_
          refine W.iconst C (4 : Int32) d5_63 rfl ?_
          refine W.icmp_le C 74 d5_64 rfl (fun b15 => ?_) (fun b15 => ?_)
          · skip
            refine W.iloadN C d5_74 rfl ?_
            refine W.iloadN C d5_75 rfl ?_
            refine W.iconst C (1 : Int32) d5_76 rfl ?_
            refine W.iushr C d5_77 ?_
            refine W.iadd C d5_78 ?_
            exact W.iret C d5_79 (by simp) rfl (by decide) (by decide) ⟨by show some _ = some _; rw [own_nti, if_pos b1, if_pos b2, if_pos b10, if_neg b14, if_neg b15], rfl⟩
          · skip
            refine W.iinc C (27 : Int32) #[.val (.int ((((((x ^^^ (-1 : Int32)) &&& (x - (1 : Int32)))).toUInt32 >>> ((16 : Int32) &&& 31).toUInt32).toInt32).toUInt32 >>> ((8 : Int32) &&& 31).toUInt32).toInt32), .val (.int (27 : Int32))] d5_67 rfl rfl rfl ?_
            refine W.iloadN C d5_70 rfl ?_
            refine W.iconst C (2 : Int32) d5_71 rfl ?_
            refine W.iushr C d5_72 ?_
            refine W.istoreN C #[.val (.int ((((((((x ^^^ (-1 : Int32)) &&& (x - (1 : Int32)))).toUInt32 >>> ((16 : Int32) &&& 31).toUInt32).toInt32).toUInt32 >>> ((8 : Int32) &&& 31).toUInt32).toInt32).toUInt32 >>> ((2 : Int32) &&& 31).toUInt32).toInt32), .val (.int (27 : Int32))] d5_73 rfl ?_
            refine W.iloadN C d5_74 rfl ?_
            refine W.iloadN C d5_75 rfl ?_
            refine W.iconst C (1 : Int32) d5_76 rfl ?_
            refine W.iushr C d5_77 ?_
            refine W.iadd C d5_78 ?_
            exact W.iret C d5_79 (by simp) rfl (by decide) (by decide) ⟨by show some _ = some _; rw [own_nti, if_pos b1, if_pos b2, if_pos b10, if_neg b14, if_pos b15], rfl⟩
        · skip
          refine W.iinc C (29 : Int32) #[.val (.int ((((((x ^^^ (-1 : Int32)) &&& (x - (1 : Int32)))).toUInt32 >>> ((16 : Int32) &&& 31).toUInt32).toInt32).toUInt32 >>> ((8 : Int32) &&& 31).toUInt32).toInt32), .val (.int (29 : Int32))] d5_55 rfl rfl rfl ?_
          refine W.iloadN C d5_58 rfl ?_
          refine W.iconst C (4 : Int32) d5_59 rfl ?_
          refine W.iushr C d5_60 ?_
          refine W.istoreN C #[.val (.int ((((((((x ^^^ (-1 : Int32)) &&& (x - (1 : Int32)))).toUInt32 >>> ((16 : Int32) &&& 31).toUInt32).toInt32).toUInt32 >>> ((8 : Int32) &&& 31).toUInt32).toInt32).toUInt32 >>> ((4 : Int32) &&& 31).toUInt32).toInt32), .val (.int (29 : Int32))] d5_61 rfl ?_
          refine W.iloadN C d5_62 rfl ?_
          refine W.iconst C (4 : Int32) d5_63 rfl ?_
          refine W.icmp_le C 74 d5_64 rfl (fun b16 => ?_) (fun b16 => ?_)
          · skip
            refine W.iloadN C d5_74 rfl ?_
            refine W.iloadN C d5_75 rfl ?_
            refine W.iconst C (1 : Int32) d5_76 rfl ?_
            refine W.iushr C d5_77 ?_
            refine W.iadd C d5_78 ?_
            exact W.iret C d5_79 (by simp) rfl (by decide) (by decide) ⟨by show some _ = some _; rw [own_nti, if_pos b1, if_pos b2, if_pos b10, if_pos b14, if_neg b16], rfl⟩
          · skip
            refine W.iinc C (31 : Int32) #[.val (.int ((((((((x ^^^ (-1 : Int32)) &&& (x - (1 : Int32)))).toUInt32 >>> ((16 : Int32) &&& 31).toUInt32).toInt32).toUInt32 >>> ((8 : Int32) &&& 31).toUInt32).toInt32).toUInt32 >>> ((4 : Int32) &&& 31).toUInt32).toInt32), .val (.int (31 : Int32))] d5_67 rfl rfl rfl ?_
            refine W.iloadN C d5_70 rfl ?_
            refine W.iconst C (2 : Int32) d5_71 rfl ?_
            refine W.iushr C d5_72 ?_
            refine W.istoreN C #[.val (.int ((((((((((x ^^^ (-1 : Int32)) &&& (x - (1 : Int32)))).toUInt32 >>> ((16 : Int32) &&& 31).toUInt32).toInt32).toUInt32 >>> ((8 : Int32) &&& 31).toUInt32).toInt32).toUInt32 >>> ((4 : Int32) &&& 31).toUInt32).toInt32).toUInt32 >>> ((2 : Int32) &&& 31).toUInt32).toInt32), .val (.int (31 : Int32))] d5_73 rfl ?_
            refine W.iloadN C d5_74 rfl ?_
            refine W.iloadN C d5_75 rfl ?_
            refine W.iconst C (1 : Int32) d5_76 rfl ?_
            refine W.iushr C d5_77 ?_
            refine W.iadd C d5_78 ?_
            exact W.iret C d5_79 (by simp) rfl (by decide) (by decide) ⟨by show some _ = some _; rw [own_nti, if_pos b1, if_pos b2, if_pos b10, if_pos b14, if_pos b16], rfl⟩
  · skip
    refine W.iloadN C d5_12 rfl ?_
    refine W.bipush C (32 : Int32) d5_13 rfl ?_
    refine W.iand C d5_15 ?_
    exact W.iret C d5_16 (by simp) rfl (by decide) (by decide) ⟨by show some _ = some _; rw [own_nti, if_neg b1], rfl⟩

abbrev y4 : MethodName := ⟨"java/lang/Long", "numberOfTrailingZeros", "(J)I"⟩
theorem d4_0 : decode jdk_35_method_49_code 0 = .ok (.lload_n 0, 1) := by decide +kernel
theorem d4_1 : decode jdk_35_method_49_code 1 = .ok (.l2i, 1) := by decide +kernel
theorem d4_2 : decode jdk_35_method_49_code 2 = .ok (.istore_n 2, 1) := by decide +kernel
theorem d4_3 : decode jdk_35_method_49_code 3 = .ok (.iload_n 2, 1) := by decide +kernel
theorem d4_4 : decode jdk_35_method_49_code 4 = .ok (.ifCond .ne 17, 3) := by decide +kernel
theorem d4_7 : decode jdk_35_method_49_code 7 = .ok (.bipush 32, 2) := by decide +kernel
theorem d4_9 : decode jdk_35_method_49_code 9 = .ok (.lload_n 0, 1) := by decide +kernel
theorem d4_10 : decode jdk_35_method_49_code 10 = .ok (.bipush 32, 2) := by decide +kernel
theorem d4_12 : decode jdk_35_method_49_code 12 = .ok (.lushr, 1) := by decide +kernel
theorem d4_13 : decode jdk_35_method_49_code 13 = .ok (.l2i, 1) := by decide +kernel
theorem d4_14 : decode jdk_35_method_49_code 14 = .ok (.invokestatic 311, 3) := by decide +kernel
theorem d4_17 : decode jdk_35_method_49_code 17 = .ok (.iadd, 1) := by decide +kernel
theorem d4_18 : decode jdk_35_method_49_code 18 = .ok (.goto 7, 3) := by decide +kernel
theorem d4_21 : decode jdk_35_method_49_code 21 = .ok (.iload_n 2, 1) := by decide +kernel
theorem d4_22 : decode jdk_35_method_49_code 22 = .ok (.invokestatic 311, 3) := by decide +kernel
theorem d4_25 : decode jdk_35_method_49_code 25 = .ok (.ireturn, 1) := by decide +kernel
theorem pf_4 : plainFor y4 = true := by first | exact plainFor_of_name (by first | (simp [plainName, overriddenIn]; done) | decide +kernel) | decide +kernel
theorem ef_4 (m : MethodId) (w : Int64) : entryFrame m #[(.long w)] 3 = mkF m 0 #[.val (.long w), .second, .unset] [] := by first | (simp [entryFrame, mkF, argsToLocals, Value.category]; done) | rfl
theorem pd_0 : parseMethodDescriptor "(I)I" = some ⟨[.int], some .int⟩ := by decide +kernel
def own_ntl (w : Int64) : Int32 := if ((w).toInt32) = 0 then ((32 : Int32) + (own_nti ((((w).toUInt64 >>> ((32 : Int32) &&& 0x3f).toInt64.toUInt64).toInt64).toInt32))) else (own_nti ((w).toInt32))
set_option maxRecDepth 65536 in
set_option maxHeartbeats 40000000 in
theorem con_4 (l : Launch) (Z : State) (a0 : Array Value) (hw : ∀ d ∈ tables_1, d.before a0 Z = true) (h0 : Heap) (n0 : Nat) (w : Int64)   : Con l Z y4 jdk_35_method_49_code 3 (some .int) ({ frames := 1, cells := 0, slots := 0, locals := 14 } : Room) #[(.long w)] h0 n0 (Pu (some (.int (own_ntl w))) h0) := by
  refine Con.of pf_4 (fun m => ef_4 m w) ?_
  intro p e s m below meth c C
  refine W.lloadN C d4_0 rfl ?_
  refine W.l2i C d4_1 ?_
  refine W.istoreN C #[.val (.long w), .second, .val (.int ((w).toInt32))] d4_2 rfl ?_
  refine W.iloadN C d4_3 rfl ?_
  refine W.if_ne C 21 d4_4 rfl (fun b1 => ?_) (fun b1 => ?_)
  · skip
    refine W.iloadN C d4_21 rfl ?_
    refine W.callS C (y' := y5) d4_22 (tkw hw 21 rfl) (tkw hw 22 rfl) (tkw hw 23 rfl) (tkw hw 24 rfl) (by decide) (argsL := [(.int ((w).toInt32))]) (rest := []) rfl (lenOf pd_0 rfl) (con_5 l Z a0 hw h0 n0 ((w).toInt32)) 0 0 0 rfl rfl rfl (by decide) (by decide) (by decide) (by decide) rfl ?_
    rintro _ _ ⟨rfl, rfl⟩
    exact W.iret C d4_25 (by simp) rfl (by decide) (by decide) ⟨by show some _ = some _; rw [own_ntl, if_neg b1], rfl⟩
  · skip
    refine W.bipush C (32 : Int32) d4_7 rfl ?_
    refine W.lloadN C d4_9 rfl ?_
    refine W.bipush C (32 : Int32) d4_10 rfl ?_
    refine W.lushr C d4_12 ?_
    refine W.l2i C d4_13 ?_
    refine W.callS C (y' := y5) d4_14 (tkw hw 21 rfl) (tkw hw 22 rfl) (tkw hw 23 rfl) (tkw hw 24 rfl) (by decide) (argsL := [(.int ((((w).toUInt64 >>> ((32 : Int32) &&& 0x3f).toInt64.toUInt64).toInt64).toInt32))]) (rest := [(.int (32 : Int32))]) rfl (lenOf pd_0 rfl) (con_5 l Z a0 hw h0 n0 ((((w).toUInt64 >>> ((32 : Int32) &&& 0x3f).toInt64.toUInt64).toInt64).toInt32)) 1 0 0 rfl rfl rfl (by decide) (by decide) (by decide) (by decide) rfl ?_
    rintro _ _ ⟨rfl, rfl⟩
    refine W.iadd C d4_17 ?_
    refine W.goto C 25 d4_18 rfl ?_
    exact W.iret C d4_25 (by simp) rfl (by decide) (by decide) ⟨by show some _ = some _; rw [own_ntl, if_pos b1], rfl⟩

abbrev y1 : MethodName := ⟨"com/example/occhio/occhio/events/Words", "firstByte", "(JB)I"⟩
theorem d1_0 : decode prog_23_method_4_code 0 = .ok (.lload_n 0, 1) := by decide +kernel
theorem d1_1 : decode prog_23_method_4_code 1 = .ok (.iload_n 2, 1) := by decide +kernel
theorem d1_2 : decode prog_23_method_4_code 2 = .ok (.i2l, 1) := by decide +kernel
theorem d1_3 : decode prog_23_method_4_code 3 = .ok (.ldc2_w 21, 3) := by decide +kernel
theorem d1_6 : decode prog_23_method_4_code 6 = .ok (.land, 1) := by decide +kernel
theorem d1_7 : decode prog_23_method_4_code 7 = .ok (.ldc2_w 23, 3) := by decide +kernel
theorem d1_10 : decode prog_23_method_4_code 10 = .ok (.lmul, 1) := by decide +kernel
theorem d1_11 : decode prog_23_method_4_code 11 = .ok (.lxor, 1) := by decide +kernel
theorem d1_12 : decode prog_23_method_4_code 12 = .ok (.lstore_n 3, 1) := by decide +kernel
theorem d1_13 : decode prog_23_method_4_code 13 = .ok (.lload_n 3, 1) := by decide +kernel
theorem d1_14 : decode prog_23_method_4_code 14 = .ok (.ldc2_w 23, 3) := by decide +kernel
theorem d1_17 : decode prog_23_method_4_code 17 = .ok (.lsub, 1) := by decide +kernel
theorem d1_18 : decode prog_23_method_4_code 18 = .ok (.lload_n 3, 1) := by decide +kernel
theorem d1_19 : decode prog_23_method_4_code 19 = .ok (.ldc2_w 25, 3) := by decide +kernel
theorem d1_22 : decode prog_23_method_4_code 22 = .ok (.lxor, 1) := by decide +kernel
theorem d1_23 : decode prog_23_method_4_code 23 = .ok (.land, 1) := by decide +kernel
theorem d1_24 : decode prog_23_method_4_code 24 = .ok (.ldc2_w 19, 3) := by decide +kernel
theorem d1_27 : decode prog_23_method_4_code 27 = .ok (.land, 1) := by decide +kernel
theorem d1_28 : decode prog_23_method_4_code 28 = .ok (.lstore 5, 2) := by decide +kernel
theorem d1_30 : decode prog_23_method_4_code 30 = .ok (.lload 5, 2) := by decide +kernel
theorem d1_32 : decode prog_23_method_4_code 32 = .ok (.lconst 0, 1) := by decide +kernel
theorem d1_33 : decode prog_23_method_4_code 33 = .ok (.lcmp, 1) := by decide +kernel
theorem d1_34 : decode prog_23_method_4_code 34 = .ok (.ifCond .ne 7, 3) := by decide +kernel
theorem d1_37 : decode prog_23_method_4_code 37 = .ok (.iconst (-1), 1) := by decide +kernel
theorem d1_38 : decode prog_23_method_4_code 38 = .ok (.goto 10, 3) := by decide +kernel
theorem d1_41 : decode prog_23_method_4_code 41 = .ok (.lload 5, 2) := by decide +kernel
theorem d1_43 : decode prog_23_method_4_code 43 = .ok (.invokestatic 27, 3) := by decide +kernel
theorem d1_46 : decode prog_23_method_4_code 46 = .ok (.iconst 3, 1) := by decide +kernel
theorem d1_47 : decode prog_23_method_4_code 47 = .ok (.iushr, 1) := by decide +kernel
theorem d1_48 : decode prog_23_method_4_code 48 = .ok (.ireturn, 1) := by decide +kernel
theorem pf_1 : plainFor y1 = true := by first | exact plainFor_of_name (by first | (simp [plainName, overriddenIn]; done) | decide +kernel) | decide +kernel
theorem ef_1 (m : MethodId) (w : Int64) (b : Int32) : entryFrame m #[(.long w), (.int b)] 7 = mkF m 0 #[.val (.long w), .second, .val (.int b), .unset, .unset, .unset, .unset] [] := by first | (simp [entryFrame, mkF, argsToLocals, Value.category]; done) | rfl
theorem pd_1 : parseMethodDescriptor "(J)I" = some ⟨[.long], some .int⟩ := by decide +kernel
def own_fb (w : Int64) (b : Int32) : Int32 := if ((((w ^^^ ((((b).toInt64) &&& (255 : Int64)) * (72340172838076673 : Int64))) - (72340172838076673 : Int64)) &&& ((w ^^^ ((((b).toInt64) &&& (255 : Int64)) * (72340172838076673 : Int64))) ^^^ (-1 : Int64))) &&& (-9187201950435737472 : Int64)) = (0 : Int64) then (-1 : Int32) else (((own_ntl ((((w ^^^ ((((b).toInt64) &&& (255 : Int64)) * (72340172838076673 : Int64))) - (72340172838076673 : Int64)) &&& ((w ^^^ ((((b).toInt64) &&& (255 : Int64)) * (72340172838076673 : Int64))) ^^^ (-1 : Int64))) &&& (-9187201950435737472 : Int64)))).toUInt32 >>> ((3 : Int32) &&& 31).toUInt32).toInt32
set_option maxRecDepth 65536 in
set_option maxHeartbeats 40000000 in
theorem con_1 (l : Launch) (Z : State) (a0 : Array Value) (hw : ∀ d ∈ tables_1, d.before a0 Z = true) (h0 : Heap) (n0 : Nat) (w : Int64) (b : Int32)   : Con l Z y1 prog_23_method_4_code 7 (some .int) ({ frames := 2, cells := 0, slots := 0, locals := 28 } : Room) #[(.long w), (.int b)] h0 n0 (Pu (some (.int (own_fb w b))) h0) := by
  refine Con.of pf_1 (fun m => ef_1 m w b) ?_
  intro p e s m below meth c C
  refine W.lloadN C d1_0 rfl ?_
  refine W.iloadN C d1_1 rfl ?_
  refine W.i2l C d1_2 ?_
  refine W.ldc2J C (v := (255 : Int64)) d1_3 (tkw hw 4 rfl) ?_
  refine W.land C d1_6 ?_
  refine W.ldc2J C (v := (72340172838076673 : Int64)) d1_7 (tkw hw 5 rfl) ?_
  refine W.lmul C d1_10 ?_
  refine W.lxor C d1_11 ?_
  refine W.lstoreN C #[.val (.long w), .second, .val (.int b), .val (.long (w ^^^ ((((b).toInt64) &&& (255 : Int64)) * (72340172838076673 : Int64)))), .second, .unset, .unset] d1_12 rfl ?_
  refine W.lloadN C d1_13 rfl ?_
  refine W.ldc2J C (v := (72340172838076673 : Int64)) d1_14 (tkw hw 5 rfl) ?_
  refine W.lsub C d1_17 ?_
  refine W.lloadN C d1_18 rfl ?_
  refine W.ldc2J C (v := (-1 : Int64)) d1_19 (tkw hw 6 rfl) ?_
  refine W.lxor C d1_22 ?_
  refine W.land C d1_23 ?_
  refine W.ldc2J C (v := (-9187201950435737472 : Int64)) d1_24 (tkw hw 7 rfl) ?_
  refine W.land C d1_27 ?_
  refine W.lstore C #[.val (.long w), .second, .val (.int b), .val (.long (w ^^^ ((((b).toInt64) &&& (255 : Int64)) * (72340172838076673 : Int64)))), .second, .val (.long ((((w ^^^ ((((b).toInt64) &&& (255 : Int64)) * (72340172838076673 : Int64))) - (72340172838076673 : Int64)) &&& ((w ^^^ ((((b).toInt64) &&& (255 : Int64)) * (72340172838076673 : Int64))) ^^^ (-1 : Int64))) &&& (-9187201950435737472 : Int64))), .second] d1_28 rfl ?_
  refine W.lload C d1_30 rfl ?_
  refine W.lconst C (0 : Int64) d1_32 rfl ?_
  refine W.lcmp C d1_33 ?_
  refine W.lif_ne C 41 d1_34 rfl (fun b1 => ?_) (fun b1 => ?_)
  · skip
    refine W.lload C d1_41 rfl ?_
    refine W.callS C (y' := y4) d1_43 (tkw hw 17 rfl) (tkw hw 18 rfl) (tkw hw 19 rfl) (tkw hw 20 rfl) (by decide) (argsL := [(.long ((((w ^^^ ((((b).toInt64) &&& (255 : Int64)) * (72340172838076673 : Int64))) - (72340172838076673 : Int64)) &&& ((w ^^^ ((((b).toInt64) &&& (255 : Int64)) * (72340172838076673 : Int64))) ^^^ (-1 : Int64))) &&& (-9187201950435737472 : Int64)))]) (rest := []) rfl (lenOf pd_1 rfl) (con_4 l Z a0 hw h0 n0 ((((w ^^^ ((((b).toInt64) &&& (255 : Int64)) * (72340172838076673 : Int64))) - (72340172838076673 : Int64)) &&& ((w ^^^ ((((b).toInt64) &&& (255 : Int64)) * (72340172838076673 : Int64))) ^^^ (-1 : Int64))) &&& (-9187201950435737472 : Int64))) 0 0 0 rfl rfl rfl (by decide) (by decide) (by decide) (by decide) rfl ?_
    rintro _ _ ⟨rfl, rfl⟩
    refine W.iconst C (3 : Int32) d1_46 rfl ?_
    refine W.iushr C d1_47 ?_
    exact W.iret C d1_48 (by simp) rfl (by decide) (by decide) ⟨by show some _ = some _; rw [own_fb, if_neg b1], rfl⟩
  · skip
    refine W.iconst C (-1 : Int32) d1_37 rfl ?_
    refine W.goto C 48 d1_38 rfl ?_
    exact W.iret C d1_48 (by simp) rfl (by decide) (by decide) ⟨by show some _ = some _; rw [own_fb, if_pos b1], rfl⟩

abbrev y3 : MethodName := ⟨"com/example/occhio/occhio/events/WordsFirstBytePinLaw", "byteAt", "(JI)I"⟩
theorem d3_0 : decode method_2_code 0 = .ok (.lload_n 0, 1) := by decide +kernel
theorem d3_1 : decode method_2_code 1 = .ok (.bipush 8, 2) := by decide +kernel
theorem d3_3 : decode method_2_code 3 = .ok (.iload_n 2, 1) := by decide +kernel
theorem d3_4 : decode method_2_code 4 = .ok (.imul, 1) := by decide +kernel
theorem d3_5 : decode method_2_code 5 = .ok (.lushr, 1) := by decide +kernel
theorem d3_6 : decode method_2_code 6 = .ok (.ldc2_w 7, 3) := by decide +kernel
theorem d3_9 : decode method_2_code 9 = .ok (.land, 1) := by decide +kernel
theorem d3_10 : decode method_2_code 10 = .ok (.l2i, 1) := by decide +kernel
theorem d3_11 : decode method_2_code 11 = .ok (.ireturn, 1) := by decide +kernel
theorem pf_3 : plainFor y3 = true := by first | exact plainFor_of_name (by first | (simp [plainName, overriddenIn]; done) | decide +kernel) | decide +kernel
theorem ef_3 (m : MethodId) (w : Int64) (i : Int32) : entryFrame m #[(.long w), (.int i)] 3 = mkF m 0 #[.val (.long w), .second, .val (.int i)] [] := by first | (simp [entryFrame, mkF, argsToLocals, Value.category]; done) | rfl
def own_ba (w : Int64) (i : Int32) : Int32 := (((((w).toUInt64 >>> (((8 : Int32) * i) &&& 0x3f).toInt64.toUInt64).toInt64 &&& (255 : Int64))).toInt32)
set_option maxRecDepth 65536 in
set_option maxHeartbeats 40000000 in
theorem con_3 (l : Launch) (Z : State) (a0 : Array Value) (hw : ∀ d ∈ tables_1, d.before a0 Z = true) (h0 : Heap) (n0 : Nat) (w : Int64) (i : Int32)   : Con l Z y3 method_2_code 3 (some .int) ({ frames := 0, cells := 0, slots := 0, locals := 0 } : Room) #[(.long w), (.int i)] h0 n0 (Pu (some (.int (own_ba w i))) h0) := by
  refine Con.of pf_3 (fun m => ef_3 m w i) ?_
  intro p e s m below meth c C
  refine W.lloadN C d3_0 rfl ?_
  refine W.bipush C (8 : Int32) d3_1 rfl ?_
  refine W.iloadN C d3_3 rfl ?_
  refine W.imul C d3_4 ?_
  refine W.lushr C d3_5 ?_
  refine W.ldc2J C (v := (255 : Int64)) d3_6 (tkw hw 15 rfl) ?_
  refine W.land C d3_9 ?_
  refine W.l2i C d3_10 ?_
  exact W.iret C d3_11 (by simp) rfl (by decide) (by decide) ⟨by show some _ = some _; rw [own_ba], rfl⟩

abbrev y2 : MethodName := ⟨"com/example/occhio/occhio/events/WordsFirstBytePinLaw", "ref", "(JI)I"⟩
theorem d2_0 : decode method_3_code 0 = .ok (.lload_n 0, 1) := by decide +kernel
theorem d2_1 : decode method_3_code 1 = .ok (.iconst 0, 1) := by decide +kernel
theorem d2_2 : decode method_3_code 2 = .ok (.invokestatic 9, 3) := by decide +kernel
theorem d2_5 : decode method_3_code 5 = .ok (.iload_n 2, 1) := by decide +kernel
theorem d2_6 : decode method_3_code 6 = .ok (.if_icmp .ne 5, 3) := by decide +kernel
theorem d2_9 : decode method_3_code 9 = .ok (.iconst 0, 1) := by decide +kernel
theorem d2_10 : decode method_3_code 10 = .ok (.ireturn, 1) := by decide +kernel
theorem d2_11 : decode method_3_code 11 = .ok (.lload_n 0, 1) := by decide +kernel
theorem d2_12 : decode method_3_code 12 = .ok (.iconst 1, 1) := by decide +kernel
theorem d2_13 : decode method_3_code 13 = .ok (.invokestatic 9, 3) := by decide +kernel
theorem d2_16 : decode method_3_code 16 = .ok (.iload_n 2, 1) := by decide +kernel
theorem d2_17 : decode method_3_code 17 = .ok (.if_icmp .ne 5, 3) := by decide +kernel
theorem d2_20 : decode method_3_code 20 = .ok (.iconst 1, 1) := by decide +kernel
theorem d2_21 : decode method_3_code 21 = .ok (.ireturn, 1) := by decide +kernel
theorem d2_22 : decode method_3_code 22 = .ok (.lload_n 0, 1) := by decide +kernel
theorem d2_23 : decode method_3_code 23 = .ok (.iconst 2, 1) := by decide +kernel
theorem d2_24 : decode method_3_code 24 = .ok (.invokestatic 9, 3) := by decide +kernel
theorem d2_27 : decode method_3_code 27 = .ok (.iload_n 2, 1) := by decide +kernel
theorem d2_28 : decode method_3_code 28 = .ok (.if_icmp .ne 5, 3) := by decide +kernel
theorem d2_31 : decode method_3_code 31 = .ok (.iconst 2, 1) := by decide +kernel
theorem d2_32 : decode method_3_code 32 = .ok (.ireturn, 1) := by decide +kernel
theorem d2_33 : decode method_3_code 33 = .ok (.lload_n 0, 1) := by decide +kernel
theorem d2_34 : decode method_3_code 34 = .ok (.iconst 3, 1) := by decide +kernel
theorem d2_35 : decode method_3_code 35 = .ok (.invokestatic 9, 3) := by decide +kernel
theorem d2_38 : decode method_3_code 38 = .ok (.iload_n 2, 1) := by decide +kernel
theorem d2_39 : decode method_3_code 39 = .ok (.if_icmp .ne 5, 3) := by decide +kernel
theorem d2_42 : decode method_3_code 42 = .ok (.iconst 3, 1) := by decide +kernel
theorem d2_43 : decode method_3_code 43 = .ok (.ireturn, 1) := by decide +kernel
theorem d2_44 : decode method_3_code 44 = .ok (.lload_n 0, 1) := by decide +kernel
theorem d2_45 : decode method_3_code 45 = .ok (.iconst 4, 1) := by decide +kernel
theorem d2_46 : decode method_3_code 46 = .ok (.invokestatic 9, 3) := by decide +kernel
theorem d2_49 : decode method_3_code 49 = .ok (.iload_n 2, 1) := by decide +kernel
theorem d2_50 : decode method_3_code 50 = .ok (.if_icmp .ne 5, 3) := by decide +kernel
theorem d2_53 : decode method_3_code 53 = .ok (.iconst 4, 1) := by decide +kernel
theorem d2_54 : decode method_3_code 54 = .ok (.ireturn, 1) := by decide +kernel
theorem d2_55 : decode method_3_code 55 = .ok (.lload_n 0, 1) := by decide +kernel
theorem d2_56 : decode method_3_code 56 = .ok (.iconst 5, 1) := by decide +kernel
theorem d2_57 : decode method_3_code 57 = .ok (.invokestatic 9, 3) := by decide +kernel
theorem d2_60 : decode method_3_code 60 = .ok (.iload_n 2, 1) := by decide +kernel
theorem d2_61 : decode method_3_code 61 = .ok (.if_icmp .ne 5, 3) := by decide +kernel
theorem d2_64 : decode method_3_code 64 = .ok (.iconst 5, 1) := by decide +kernel
theorem d2_65 : decode method_3_code 65 = .ok (.ireturn, 1) := by decide +kernel
theorem d2_66 : decode method_3_code 66 = .ok (.lload_n 0, 1) := by decide +kernel
theorem d2_67 : decode method_3_code 67 = .ok (.bipush 6, 2) := by decide +kernel
theorem d2_69 : decode method_3_code 69 = .ok (.invokestatic 9, 3) := by decide +kernel
theorem d2_72 : decode method_3_code 72 = .ok (.iload_n 2, 1) := by decide +kernel
theorem d2_73 : decode method_3_code 73 = .ok (.if_icmp .ne 6, 3) := by decide +kernel
theorem d2_76 : decode method_3_code 76 = .ok (.bipush 6, 2) := by decide +kernel
theorem d2_78 : decode method_3_code 78 = .ok (.ireturn, 1) := by decide +kernel
theorem d2_79 : decode method_3_code 79 = .ok (.lload_n 0, 1) := by decide +kernel
theorem d2_80 : decode method_3_code 80 = .ok (.bipush 7, 2) := by decide +kernel
theorem d2_82 : decode method_3_code 82 = .ok (.invokestatic 9, 3) := by decide +kernel
theorem d2_85 : decode method_3_code 85 = .ok (.iload_n 2, 1) := by decide +kernel
theorem d2_86 : decode method_3_code 86 = .ok (.if_icmp .ne 6, 3) := by decide +kernel
theorem d2_89 : decode method_3_code 89 = .ok (.bipush 7, 2) := by decide +kernel
theorem d2_91 : decode method_3_code 91 = .ok (.ireturn, 1) := by decide +kernel
theorem d2_92 : decode method_3_code 92 = .ok (.iconst (-1), 1) := by decide +kernel
theorem d2_93 : decode method_3_code 93 = .ok (.ireturn, 1) := by decide +kernel
theorem pf_2 : plainFor y2 = true := by first | exact plainFor_of_name (by first | (simp [plainName, overriddenIn]; done) | decide +kernel) | decide +kernel
theorem ef_2 (m : MethodId) (w : Int64) (b : Int32) : entryFrame m #[(.long w), (.int b)] 3 = mkF m 0 #[.val (.long w), .second, .val (.int b)] [] := by first | (simp [entryFrame, mkF, argsToLocals, Value.category]; done) | rfl
theorem pd_2 : parseMethodDescriptor "(JI)I" = some ⟨[.long, .int], some .int⟩ := by decide +kernel
def own_ref (w : Int64) (b : Int32) : Int32 := if (own_ba w (0 : Int32)) = b then (0 : Int32) else if (own_ba w (1 : Int32)) = b then (1 : Int32) else if (own_ba w (2 : Int32)) = b then (2 : Int32) else if (own_ba w (3 : Int32)) = b then (3 : Int32) else if (own_ba w (4 : Int32)) = b then (4 : Int32) else if (own_ba w (5 : Int32)) = b then (5 : Int32) else if (own_ba w (6 : Int32)) = b then (6 : Int32) else if (own_ba w (7 : Int32)) = b then (7 : Int32) else (-1 : Int32)
set_option maxRecDepth 65536 in
set_option maxHeartbeats 40000000 in
theorem con_2 (l : Launch) (Z : State) (a0 : Array Value) (hw : ∀ d ∈ tables_1, d.before a0 Z = true) (h0 : Heap) (n0 : Nat) (w : Int64) (b : Int32)   : Con l Z y2 method_3_code 3 (some .int) ({ frames := 1, cells := 0, slots := 0, locals := 14 } : Room) #[(.long w), (.int b)] h0 n0 (Pu (some (.int (own_ref w b))) h0) := by
  refine Con.of pf_2 (fun m => ef_2 m w b) ?_
  intro p e s m below meth c C
  refine W.lloadN C d2_0 rfl ?_
  refine W.iconst C (0 : Int32) d2_1 rfl ?_
  refine W.callS C (y' := y3) d2_2 (tkw hw 12 rfl) (tkw hw 13 rfl) (tkw hw 10 rfl) (tkw hw 14 rfl) (by decide) (argsL := [(.long w), (.int (0 : Int32))]) (rest := []) rfl (lenOf pd_2 rfl) (con_3 l Z a0 hw h0 n0 w (0 : Int32)) 0 0 0 rfl rfl rfl (by decide) (by decide) (by decide) (by decide) rfl ?_
  rintro _ _ ⟨rfl, rfl⟩
  refine W.iloadN C d2_5 rfl ?_
  refine W.icmp_ne C 11 d2_6 rfl (fun b1 => ?_) (fun b1 => ?_)
  · skip
    refine W.lloadN C d2_11 rfl ?_
    refine W.iconst C (1 : Int32) d2_12 rfl ?_
    refine W.callS C (y' := y3) d2_13 (tkw hw 12 rfl) (tkw hw 13 rfl) (tkw hw 10 rfl) (tkw hw 14 rfl) (by decide) (argsL := [(.long w), (.int (1 : Int32))]) (rest := []) rfl (lenOf pd_2 rfl) (con_3 l Z a0 hw h0 n0 w (1 : Int32)) 0 0 0 rfl rfl rfl (by decide) (by decide) (by decide) (by decide) rfl ?_
    rintro _ _ ⟨rfl, rfl⟩
    refine W.iloadN C d2_16 rfl ?_
    refine W.icmp_ne C 22 d2_17 rfl (fun b2 => ?_) (fun b2 => ?_)
    · skip
      refine W.lloadN C d2_22 rfl ?_
      refine W.iconst C (2 : Int32) d2_23 rfl ?_
      refine W.callS C (y' := y3) d2_24 (tkw hw 12 rfl) (tkw hw 13 rfl) (tkw hw 10 rfl) (tkw hw 14 rfl) (by decide) (argsL := [(.long w), (.int (2 : Int32))]) (rest := []) rfl (lenOf pd_2 rfl) (con_3 l Z a0 hw h0 n0 w (2 : Int32)) 0 0 0 rfl rfl rfl (by decide) (by decide) (by decide) (by decide) rfl ?_
      rintro _ _ ⟨rfl, rfl⟩
      refine W.iloadN C d2_27 rfl ?_
      refine W.icmp_ne C 33 d2_28 rfl (fun b3 => ?_) (fun b3 => ?_)
      · skip
        refine W.lloadN C d2_33 rfl ?_
        refine W.iconst C (3 : Int32) d2_34 rfl ?_
        refine W.callS C (y' := y3) d2_35 (tkw hw 12 rfl) (tkw hw 13 rfl) (tkw hw 10 rfl) (tkw hw 14 rfl) (by decide) (argsL := [(.long w), (.int (3 : Int32))]) (rest := []) rfl (lenOf pd_2 rfl) (con_3 l Z a0 hw h0 n0 w (3 : Int32)) 0 0 0 rfl rfl rfl (by decide) (by decide) (by decide) (by decide) rfl ?_
        rintro _ _ ⟨rfl, rfl⟩
        refine W.iloadN C d2_38 rfl ?_
        refine W.icmp_ne C 44 d2_39 rfl (fun b4 => ?_) (fun b4 => ?_)
        · skip
          refine W.lloadN C d2_44 rfl ?_
          refine W.iconst C (4 : Int32) d2_45 rfl ?_
          refine W.callS C (y' := y3) d2_46 (tkw hw 12 rfl) (tkw hw 13 rfl) (tkw hw 10 rfl) (tkw hw 14 rfl) (by decide) (argsL := [(.long w), (.int (4 : Int32))]) (rest := []) rfl (lenOf pd_2 rfl) (con_3 l Z a0 hw h0 n0 w (4 : Int32)) 0 0 0 rfl rfl rfl (by decide) (by decide) (by decide) (by decide) rfl ?_
          rintro _ _ ⟨rfl, rfl⟩
          refine W.iloadN C d2_49 rfl ?_
          refine W.icmp_ne C 55 d2_50 rfl (fun b5 => ?_) (fun b5 => ?_)
          · skip
            refine W.lloadN C d2_55 rfl ?_
            refine W.iconst C (5 : Int32) d2_56 rfl ?_
            refine W.callS C (y' := y3) d2_57 (tkw hw 12 rfl) (tkw hw 13 rfl) (tkw hw 10 rfl) (tkw hw 14 rfl) (by decide) (argsL := [(.long w), (.int (5 : Int32))]) (rest := []) rfl (lenOf pd_2 rfl) (con_3 l Z a0 hw h0 n0 w (5 : Int32)) 0 0 0 rfl rfl rfl (by decide) (by decide) (by decide) (by decide) rfl ?_
            rintro _ _ ⟨rfl, rfl⟩
            refine W.iloadN C d2_60 rfl ?_
            refine W.icmp_ne C 66 d2_61 rfl (fun b6 => ?_) (fun b6 => ?_)
            · skip
              refine W.lloadN C d2_66 rfl ?_
              refine W.bipush C (6 : Int32) d2_67 rfl ?_
              refine W.callS C (y' := y3) d2_69 (tkw hw 12 rfl) (tkw hw 13 rfl) (tkw hw 10 rfl) (tkw hw 14 rfl) (by decide) (argsL := [(.long w), (.int (6 : Int32))]) (rest := []) rfl (lenOf pd_2 rfl) (con_3 l Z a0 hw h0 n0 w (6 : Int32)) 0 0 0 rfl rfl rfl (by decide) (by decide) (by decide) (by decide) rfl ?_
              rintro _ _ ⟨rfl, rfl⟩
              refine W.iloadN C d2_72 rfl ?_
              refine W.icmp_ne C 79 d2_73 rfl (fun b7 => ?_) (fun b7 => ?_)
              · skip
                refine W.lloadN C d2_79 rfl ?_
                refine W.bipush C (7 : Int32) d2_80 rfl ?_
                refine W.callS C (y' := y3) d2_82 (tkw hw 12 rfl) (tkw hw 13 rfl) (tkw hw 10 rfl) (tkw hw 14 rfl) (by decide) (argsL := [(.long w), (.int (7 : Int32))]) (rest := []) rfl (lenOf pd_2 rfl) (con_3 l Z a0 hw h0 n0 w (7 : Int32)) 0 0 0 rfl rfl rfl (by decide) (by decide) (by decide) (by decide) rfl ?_
                rintro _ _ ⟨rfl, rfl⟩
                refine W.iloadN C d2_85 rfl ?_
                refine W.icmp_ne C 92 d2_86 rfl (fun b8 => ?_) (fun b8 => ?_)
                · skip
                  refine W.iconst C (-1 : Int32) d2_92 rfl ?_
                  exact W.iret C d2_93 (by simp) rfl (by decide) (by decide) ⟨by show some _ = some _; rw [own_ref, if_neg b1, if_neg b2, if_neg b3, if_neg b4, if_neg b5, if_neg b6, if_neg b7, if_neg b8], rfl⟩
                · skip
                  refine W.bipush C (7 : Int32) d2_89 rfl ?_
                  exact W.iret C d2_91 (by simp) rfl (by decide) (by decide) ⟨by show some _ = some _; rw [own_ref, if_neg b1, if_neg b2, if_neg b3, if_neg b4, if_neg b5, if_neg b6, if_neg b7, if_pos b8], rfl⟩
              · skip
                refine W.bipush C (6 : Int32) d2_76 rfl ?_
                exact W.iret C d2_78 (by simp) rfl (by decide) (by decide) ⟨by show some _ = some _; rw [own_ref, if_neg b1, if_neg b2, if_neg b3, if_neg b4, if_neg b5, if_neg b6, if_pos b7], rfl⟩
            · skip
              refine W.iconst C (5 : Int32) d2_64 rfl ?_
              exact W.iret C d2_65 (by simp) rfl (by decide) (by decide) ⟨by show some _ = some _; rw [own_ref, if_neg b1, if_neg b2, if_neg b3, if_neg b4, if_neg b5, if_pos b6], rfl⟩
          · skip
            refine W.iconst C (4 : Int32) d2_53 rfl ?_
            exact W.iret C d2_54 (by simp) rfl (by decide) (by decide) ⟨by show some _ = some _; rw [own_ref, if_neg b1, if_neg b2, if_neg b3, if_neg b4, if_pos b5], rfl⟩
        · skip
          refine W.iconst C (3 : Int32) d2_42 rfl ?_
          exact W.iret C d2_43 (by simp) rfl (by decide) (by decide) ⟨by show some _ = some _; rw [own_ref, if_neg b1, if_neg b2, if_neg b3, if_pos b4], rfl⟩
      · skip
        refine W.iconst C (2 : Int32) d2_31 rfl ?_
        exact W.iret C d2_32 (by simp) rfl (by decide) (by decide) ⟨by show some _ = some _; rw [own_ref, if_neg b1, if_neg b2, if_pos b3], rfl⟩
    · skip
      refine W.iconst C (1 : Int32) d2_20 rfl ?_
      exact W.iret C d2_21 (by simp) rfl (by decide) (by decide) ⟨by show some _ = some _; rw [own_ref, if_neg b1, if_pos b2], rfl⟩
  · skip
    refine W.iconst C (0 : Int32) d2_9 rfl ?_
    exact W.iret C d2_10 (by simp) rfl (by decide) (by decide) ⟨by show some _ = some _; rw [own_ref, if_pos b1], rfl⟩

theorem own_N (w : Int64) : w.toInt % 18446744073709551616 = (w.toBitVec.toNat : Int) := by
  show w.toBitVec.toInt % _ = _
  rw [BitVec.toInt_eq_toNat_cond]
  have := w.toBitVec.isLt
  split <;> omega
theorem own_sh (p : Int64) (q : Int32) (k : Nat) (hk : q.toBitVec.toNat % 64 = k) : (((p).toUInt64 >>> (q &&& 0x3f).toInt64.toUInt64).toInt64).toInt % 18446744073709551616 = (p.toBitVec.toNat / 2 ^ k : Nat) := by
  have hN := own_N p
  by_cases h0 : 0 < k
  · rw [c_lushr p q k hk h0, hN]
    have := p.toBitVec.isLt
    have h3 : p.toBitVec.toNat / 2 ^ k < 2 ^ 64 := Nat.lt_of_le_of_lt (Nat.div_le_self _ _) this
    have h4 : ((p.toBitVec.toNat : Int) / ((2 ^ k : Nat) : Int)) = ((p.toBitVec.toNat / 2 ^ k : Nat) : Int) := by norm_cast
    rw [h4]
    generalize p.toBitVec.toNat / 2 ^ k = u at h3 ⊢
    omega
  · have hz : k = 0 := by omega
    subst hz
    have e : (q &&& 0x3f).toInt64.toUInt64 = 0 := by
      have := (sm64 q 0 hk).1
      rw [← UInt64.toBitVec_inj]
      exact this
    rw [e]
    simp [hN]
theorem own_bav (w : Int64) (i : Int32) (k : Nat) (hk : ((8 : Int32) * i).toBitVec.toNat % 64 = k) : (own_ba w i).toInt = ((w.toBitVec.toNat / 2 ^ k % 256 : Nat) : Int) := by
  unfold own_ba
  have hs := own_sh w _ k hk
  generalize (((w).toUInt64 >>> (((8 : Int32) * i) &&& 0x3f).toInt64.toUInt64).toInt64) = z at *
  have e1 : (z &&& 255).toInt = z.toInt % (2 ^ 8 : Nat) := c_maskL z 255 8 (by decide) (by decide)
  have a1 := c_l2i (z &&& 255)
  have r := rng32 (z &&& 255).toInt32
  generalize w.toBitVec.toNat / 2 ^ k = u at *
  omega
theorem own_low (x : Int32) (k : Nat) (hk : k < 32) (h0 : ∀ t < k, x.toBitVec.getLsbD t = false) (h1 : x.toBitVec.getLsbD k = true) : ((x ^^^ (-1 : Int32)) &&& (x - (1 : Int32))).toBitVec = BitVec.ofNat 32 (2 ^ k - 1) := by
  have hx : ∃ q, x.toBitVec.toNat = 2 ^ (k + 1) * q + 2 ^ k := by
    refine ⟨x.toBitVec.toNat / 2 ^ (k + 1), ?_⟩
    apply Nat.eq_of_testBit_eq
    intro j
    have hp : 2 ^ k < 2 ^ (k + 1) := Nat.pow_lt_pow_right (by decide) (by omega)
    rw [Nat.testBit_two_pow_mul_add _ hp]
    by_cases hj : j < k + 1
    · rw [if_pos hj, Nat.testBit_two_pow]
      by_cases hjk : j = k
      · subst hjk; simpa [BitVec.getLsbD] using h1
      · have := h0 j (by omega)
        have hne : ¬ k = j := fun e => hjk e.symm
        simpa [BitVec.getLsbD, hne] using this
    · rw [if_neg hj, Nat.testBit_div_two_pow]
      congr 1; omega
  obtain ⟨q, hq⟩ := hx
  have hlt := x.toBitVec.isLt
  have hpk : 0 < 2 ^ k := Nat.two_pow_pos k
  have hs : (x - (1 : Int32)).toBitVec.toNat = 2 ^ (k + 1) * q + (2 ^ k - 1) := by
    rw [Int32.toBitVec_sub, BitVec.toNat_sub]
    have e1 : (1 : Int32).toBitVec.toNat = 1 := by decide
    rw [e1, hq]
    omega
  apply BitVec.eq_of_getLsbD_eq
  intro j hj
  rw [Int32.toBitVec_and, Int32.toBitVec_xor, BitVec.getLsbD_and, BitVec.getLsbD_xor]
  have e2 : (-1 : Int32).toBitVec.getLsbD j = true := by
    have : (-1 : Int32).toBitVec = BitVec.allOnes 32 := by decide
    rw [this, BitVec.getLsbD_allOnes]; simpa using hj
  rw [e2]
  have hp1 : 2 ^ k - 1 < 2 ^ (k + 1) := by have : 2 ^ (k + 1) = 2 * 2 ^ k := by rw [Nat.pow_succ]; omega
                                           omega
  have hp2 : 2 ^ k < 2 ^ (k + 1) := Nat.pow_lt_pow_right (by decide) (by omega)
  have a : x.toBitVec.getLsbD j = (2 ^ (k + 1) * q + 2 ^ k).testBit j := by rw [BitVec.getLsbD, hq]
  have b : (x - (1 : Int32)).toBitVec.getLsbD j = (2 ^ (k + 1) * q + (2 ^ k - 1)).testBit j := by rw [BitVec.getLsbD, hs]
  rw [a, b, Nat.testBit_two_pow_mul_add _ hp2, Nat.testBit_two_pow_mul_add _ hp1, BitVec.getLsbD_ofNat, Nat.testBit_two_pow_sub_one, Nat.testBit_two_pow]
  by_cases hjk : j < k + 1
  · simp only [if_pos hjk]
    by_cases hjk2 : j < k
    · have : ¬ k = j := by omega
      simp [hjk2, this, hj]
    · have : k = j := by omega
      simp [hjk2, this]
  · have : ¬ j < k := by omega
    simp [hjk, this]
theorem own_nti_v (x : Int32) (k : Nat) (hk : k = 7 ∨ k = 15 ∨ k = 23 ∨ k = 31) (h0 : ∀ t < k, x.toBitVec.getLsbD t = false) (h1 : x.toBitVec.getLsbD k = true) : (own_nti x).toInt = (k : Int) := by
  have e := own_low x k (by omega) h0 h1
  unfold own_nti
  rcases hk with rfl | rfl | rfl | rfl
  · have e' : ((x ^^^ (-1 : Int32)) &&& (x - (1 : Int32))) = 127 := Int32.toBitVec_inj.mp e
    rw [e']; decide
  · have e' : ((x ^^^ (-1 : Int32)) &&& (x - (1 : Int32))) = 32767 := Int32.toBitVec_inj.mp e
    rw [e']; decide
  · have e' : ((x ^^^ (-1 : Int32)) &&& (x - (1 : Int32))) = 8388607 := Int32.toBitVec_inj.mp e
    rw [e']; decide
  · have e' : ((x ^^^ (-1 : Int32)) &&& (x - (1 : Int32))) = 2147483647 := Int32.toBitVec_inj.mp e
    rw [e']; decide
theorem own_l2i_bit (z : Int64) (t : Nat) (ht : t < 32) : z.toInt32.toBitVec.getLsbD t = z.toBitVec.getLsbD t := by
  have : z.toInt32.toBitVec = z.toBitVec.signExtend 32 := rfl
  rw [this, BitVec.getLsbD_signExtend]
  have h2 : t < 64 := by omega
  simp [ht, h2]
theorem own_hi_bit (z : Int64) (t : Nat) (ht : t < 32) : (((z).toUInt64 >>> ((32 : Int32) &&& 0x3f).toInt64.toUInt64).toInt64).toInt32.toBitVec.getLsbD t = z.toBitVec.getLsbD (t + 32) := by
  rw [own_l2i_bit _ t ht]
  have h := own_sh z 32 32 (by decide)
  rw [own_N] at h
  have h' : (((z).toUInt64 >>> ((32 : Int32) &&& 0x3f).toInt64.toUInt64).toInt64).toBitVec.toNat = z.toBitVec.toNat / 2 ^ 32 := by exact_mod_cast h
  rw [BitVec.getLsbD, h', Nat.testBit_div_two_pow]
  rfl
theorem own_ntl_v (z : Int64) (j : Nat) (hj : j < 8) (h0 : ∀ t < 8 * j + 7, z.toBitVec.getLsbD t = false) (h1 : z.toBitVec.getLsbD (8 * j + 7) = true) : ((own_ntl z).toUInt32 >>> ((3 : Int32) &&& 31).toUInt32).toInt32.toInt = (j : Int) := by
  have key : (own_ntl z).toInt = ((8 * j + 7 : Nat) : Int) := by
    unfold own_ntl
    by_cases h4 : j < 4
    · have hne : ¬ z.toInt32 = 0 := fun q => by
        have := own_l2i_bit z (8 * j + 7) (by omega)
        rw [q, h1] at this
        simp at this
      rw [if_neg hne]
      exact own_nti_v _ (8 * j + 7) (by omega) (fun t ht => by rw [own_l2i_bit z t (by omega)]; exact h0 t ht) (by rw [own_l2i_bit z _ (by omega)]; exact h1)
    · have heq : z.toInt32 = 0 := Int32.toBitVec_inj.mp (BitVec.eq_of_getLsbD_eq fun t ht => by
        rw [own_l2i_bit z t ht, h0 t (by omega)]; simp)
      rw [if_pos heq]
      have hx : 8 * j + 7 - 32 + 32 = 8 * j + 7 := by omega
      have e := own_nti_v ((((z).toUInt64 >>> ((32 : Int32) &&& 0x3f).toInt64.toUInt64).toInt64).toInt32) (8 * j + 7 - 32) (by omega) (fun t ht => by rw [own_hi_bit z t (by omega)]; exact h0 _ (by omega)) (by rw [own_hi_bit z _ (by omega), hx]; exact h1)
      have a := c_iadd 32 (own_nti ((((z).toUInt64 >>> ((32 : Int32) &&& 0x3f).toInt64.toUInt64).toInt64).toInt32))
      have e32 : (32 : Int32).toInt = 32 := rfl
      have r := rng32 ((32 : Int32) + own_nti ((((z).toUInt64 >>> ((32 : Int32) &&& 0x3f).toInt64.toUInt64).toInt64).toInt32))
      omega
  have s := c_iushr (own_ntl z) 3 3 (by decide) (by decide)
  rw [key] at s
  omega
theorem own_om0 (Zn M : Nat) (hz : Zn < 18446744073709551616) (hM : M = (18446744073709551616 - 72340172838076673 + Zn) % 18446744073709551616)  : (M / 2 ^ 7 % 2 = 1 ∧ ¬ Zn / 2 ^ 7 % 2 = 1) ↔ Zn / 2 ^ 0 % 256 = 0 := by
  omega
theorem own_om1 (Zn M : Nat) (hz : Zn < 18446744073709551616) (hM : M = (18446744073709551616 - 72340172838076673 + Zn) % 18446744073709551616) (h0 : Zn / 2 ^ 0 % 256 ≠ 0) : (M / 2 ^ 15 % 2 = 1 ∧ ¬ Zn / 2 ^ 15 % 2 = 1) ↔ Zn / 2 ^ 8 % 256 = 0 := by
  omega
theorem own_om2 (Zn M : Nat) (hz : Zn < 18446744073709551616) (hM : M = (18446744073709551616 - 72340172838076673 + Zn) % 18446744073709551616) (h0 : Zn / 2 ^ 0 % 256 ≠ 0) (h1 : Zn / 2 ^ 8 % 256 ≠ 0) : (M / 2 ^ 23 % 2 = 1 ∧ ¬ Zn / 2 ^ 23 % 2 = 1) ↔ Zn / 2 ^ 16 % 256 = 0 := by
  omega
theorem own_om3 (Zn M : Nat) (hz : Zn < 18446744073709551616) (hM : M = (18446744073709551616 - 72340172838076673 + Zn) % 18446744073709551616) (h0 : Zn / 2 ^ 0 % 256 ≠ 0) (h1 : Zn / 2 ^ 8 % 256 ≠ 0) (h2 : Zn / 2 ^ 16 % 256 ≠ 0) : (M / 2 ^ 31 % 2 = 1 ∧ ¬ Zn / 2 ^ 31 % 2 = 1) ↔ Zn / 2 ^ 24 % 256 = 0 := by
  omega
theorem own_om4 (Zn M : Nat) (hz : Zn < 18446744073709551616) (hM : M = (18446744073709551616 - 72340172838076673 + Zn) % 18446744073709551616) (h0 : Zn / 2 ^ 0 % 256 ≠ 0) (h1 : Zn / 2 ^ 8 % 256 ≠ 0) (h2 : Zn / 2 ^ 16 % 256 ≠ 0) (h3 : Zn / 2 ^ 24 % 256 ≠ 0) : (M / 2 ^ 39 % 2 = 1 ∧ ¬ Zn / 2 ^ 39 % 2 = 1) ↔ Zn / 2 ^ 32 % 256 = 0 := by
  omega
theorem own_om5 (Zn M : Nat) (hz : Zn < 18446744073709551616) (hM : M = (18446744073709551616 - 72340172838076673 + Zn) % 18446744073709551616) (h0 : Zn / 2 ^ 0 % 256 ≠ 0) (h1 : Zn / 2 ^ 8 % 256 ≠ 0) (h2 : Zn / 2 ^ 16 % 256 ≠ 0) (h3 : Zn / 2 ^ 24 % 256 ≠ 0) (h4 : Zn / 2 ^ 32 % 256 ≠ 0) : (M / 2 ^ 47 % 2 = 1 ∧ ¬ Zn / 2 ^ 47 % 2 = 1) ↔ Zn / 2 ^ 40 % 256 = 0 := by
  omega
theorem own_om6 (Zn M : Nat) (hz : Zn < 18446744073709551616) (hM : M = (18446744073709551616 - 72340172838076673 + Zn) % 18446744073709551616) (h0 : Zn / 2 ^ 0 % 256 ≠ 0) (h1 : Zn / 2 ^ 8 % 256 ≠ 0) (h2 : Zn / 2 ^ 16 % 256 ≠ 0) (h3 : Zn / 2 ^ 24 % 256 ≠ 0) (h4 : Zn / 2 ^ 32 % 256 ≠ 0) (h5 : Zn / 2 ^ 40 % 256 ≠ 0) : (M / 2 ^ 55 % 2 = 1 ∧ ¬ Zn / 2 ^ 55 % 2 = 1) ↔ Zn / 2 ^ 48 % 256 = 0 := by
  omega
theorem own_om7 (Zn M : Nat) (hz : Zn < 18446744073709551616) (hM : M = (18446744073709551616 - 72340172838076673 + Zn) % 18446744073709551616) (h0 : Zn / 2 ^ 0 % 256 ≠ 0) (h1 : Zn / 2 ^ 8 % 256 ≠ 0) (h2 : Zn / 2 ^ 16 % 256 ≠ 0) (h3 : Zn / 2 ^ 24 % 256 ≠ 0) (h4 : Zn / 2 ^ 32 % 256 ≠ 0) (h5 : Zn / 2 ^ 40 % 256 ≠ 0) (h6 : Zn / 2 ^ 48 % 256 ≠ 0) : (M / 2 ^ 63 % 2 = 1 ∧ ¬ Zn / 2 ^ 63 % 2 = 1) ↔ Zn / 2 ^ 56 % 256 = 0 := by
  omega
theorem own_x (a b : Nat) (k : Nat) : (a ^^^ b) / 2 ^ k % 256 = (a / 2 ^ k % 256) ^^^ (b / 2 ^ k % 256) := by
  rw [Nat.xor_div_two_pow, show 256 = 2 ^ 8 from rfl, Nat.xor_mod_two_pow]
theorem own_x0 (a b : Nat) : a ^^^ b = 0 ↔ a = b := by
  refine ⟨fun h => ?_, fun h => by rw [h, Nat.xor_self]⟩
  have : (a ^^^ b) ^^^ b = 0 ^^^ b := by rw [h]
  rwa [Nat.xor_assoc, Nat.xor_self, Nat.xor_zero, Nat.zero_xor] at this
def own_z (w : Int64) (b : Int32) : Int64 := w ^^^ ((b.toInt64 &&& (255 : Int64)) * (72340172838076673 : Int64))
def own_m (z : Int64) : Int64 := ((z - (72340172838076673 : Int64)) &&& (z ^^^ (-1 : Int64))) &&& (-9187201950435737472 : Int64)
theorem own_fb_eq (w : Int64) (b : Int32) : own_fb w b = if own_m (own_z w b) = 0 then -1 else ((own_ntl (own_m (own_z w b))).toUInt32 >>> ((3 : Int32) &&& 31).toUInt32).toInt32 := rfl
theorem own_zb (w : Int64) (v : Int32) (k : Nat) (hk : k = 0 ∨ k = 8 ∨ k = 16 ∨ k = 24 ∨ k = 32 ∨ k = 40 ∨ k = 48 ∨ k = 56) : (own_z w v.toInt8.toInt32).toBitVec.toNat / 2 ^ k % 256 = 0 ↔ ((w.toBitVec.toNat / 2 ^ k % 256 : Nat) : Int) = (v &&& 255).toInt := by
  have e1 : (v &&& 255).toInt = v.toInt % (2 ^ 8 : Nat) := c_mask v 255 8 (by decide) (by decide)
  have e2 : (v.toInt8.toInt32.toInt64 &&& 255).toInt = v.toInt8.toInt32.toInt64.toInt % (2 ^ 8 : Nat) := c_maskL _ 255 8 (by decide) (by decide)
  rw [c_i2l] at e2
  have e3 := c_i2b v
  have e4 := c_lmul (v.toInt8.toInt32.toInt64 &&& (255 : Int64)) (72340172838076673 : Int64)
  have e5 : (72340172838076673 : Int64).toInt = 72340172838076673 := by decide
  have e6 := own_N ((v.toInt8.toInt32.toInt64 &&& (255 : Int64)) * (72340172838076673 : Int64))
  rw [e5] at e4
  unfold own_z
  rw [Int64.toBitVec_xor, BitVec.toNat_xor, own_x, own_x0]
  generalize ((v.toInt8.toInt32.toInt64 &&& (255 : Int64)) * (72340172838076673 : Int64)) = c at *
  generalize (v.toInt8.toInt32.toInt64 &&& (255 : Int64)) = x at *
  generalize w.toBitVec.toNat / 2 ^ k % 256 = u at *
  rw [e1]
  have hx : x.toInt = v.toInt % 256 := by omega
  obtain ⟨V, hV⟩ : ∃ V : Nat, v.toInt % 256 = (V : Int) := ⟨(v.toInt % 256).toNat, by omega⟩
  have hV2 : V < 256 := by omega
  rw [hx, hV] at e4
  have hg : v.toInt % (2 ^ 8 : Nat) = (V : Int) := by rw [← hV]; rfl
  rw [hg]
  clear e1 e2 e3 hx hV hg e5
  generalize c.toBitVec.toNat = y at *
  have hy : y = V * 72340172838076673 := by omega
  clear e4 e6
  subst hy
  have hf : V * 72340172838076673 / 2 ^ k % 256 = V := by
    have hd : ∀ v : Fin 256, ∀ j : Fin 8, v.val * 72340172838076673 / 2 ^ (8 * j.val) % 256 = v.val := by decide +kernel
    obtain ⟨j, rfl⟩ : ∃ j : Fin 8, k = 8 * j.val := ⟨⟨k / 8, by omega⟩, by show k = 8 * (k / 8); omega⟩
    exact hd ⟨V, hV2⟩ j
  rw [hf]
  omega
theorem own_mbit (z : Int64) (k : Nat) : (own_m z).toBitVec.getLsbD k = (decide ((z - (72340172838076673 : Int64)).toBitVec.toNat / 2 ^ k % 2 = 1 ∧ ¬ z.toBitVec.toNat / 2 ^ k % 2 = 1) && (0x8080808080808080#64).getLsbD k) := by
  unfold own_m
  have H : (-9187201950435737472 : Int64).toBitVec = 0x8080808080808080#64 := by decide
  have O : (-1 : Int64).toBitVec = BitVec.allOnes 64 := by decide
  rw [Int64.toBitVec_and, Int64.toBitVec_and, Int64.toBitVec_xor, H, O, BitVec.getLsbD_and, BitVec.getLsbD_and, BitVec.getLsbD_xor, BitVec.getLsbD_allOnes]
  by_cases hk : k < 64
  · rw [BitVec.getLsbD, BitVec.getLsbD, Nat.testBit_eq_decide_div_mod_eq, Nat.testBit_eq_decide_div_mod_eq]
    generalize (z - (72340172838076673 : Int64)).toBitVec.toNat / 2 ^ k % 2 = A
    generalize z.toBitVec.toNat / 2 ^ k % 2 = B
    by_cases a : A = 1 <;> by_cases b : B = 1 <;> simp [a, b, hk]
  · have : (0x8080808080808080#64).getLsbD k = false := BitVec.getLsbD_of_ge _ _ (by omega)
    rw [this]; simp
theorem own_hb : ∀ k : Fin 64, (0x8080808080808080#64).getLsbD k.val = decide (k.val % 8 = 7) := by decide
theorem own_sub (z : Int64) : (z - (72340172838076673 : Int64)).toBitVec.toNat = (18446744073709551616 - 72340172838076673 + z.toBitVec.toNat) % 18446744073709551616 := by
  rw [Int64.toBitVec_sub, BitVec.toNat_sub]
  rfl
theorem own_m7 (z : Int64) (i : Nat) (hi : i < 8) (hz : ∀ t < i, z.toBitVec.toNat / 2 ^ (8 * t) % 256 ≠ 0) : (own_m z).toBitVec.getLsbD (8 * i + 7) = decide (z.toBitVec.toNat / 2 ^ (8 * i) % 256 = 0) := by
  rw [own_mbit]
  have hb := own_hb ⟨8 * i + 7, by omega⟩
  have hb' : (0x8080808080808080#64).getLsbD (8 * i + 7) = true := by
    rw [show (0x8080808080808080#64).getLsbD (8 * i + 7) = _ from hb]; exact decide_eq_true (show (8 * i + 7) % 8 = 7 by omega)
  rw [hb', Bool.and_true]
  have hlt : z.toBitVec.toNat < 18446744073709551616 := z.toBitVec.isLt
  have hs := own_sub z
  generalize (z - (72340172838076673 : Int64)).toBitVec.toNat = M at *
  generalize z.toBitVec.toNat = Zn at *
  have hc : i = 0 ∨ i = 1 ∨ i = 2 ∨ i = 3 ∨ i = 4 ∨ i = 5 ∨ i = 6 ∨ i = 7 := by omega
  rcases hc with rfl | rfl | rfl | rfl | rfl | rfl | rfl | rfl
  · exact decide_eq_decide.mpr (own_om0 Zn M hlt hs )
  · exact decide_eq_decide.mpr (own_om1 Zn M hlt hs (hz 0 (by decide)))
  · exact decide_eq_decide.mpr (own_om2 Zn M hlt hs (hz 0 (by decide)) (hz 1 (by decide)))
  · exact decide_eq_decide.mpr (own_om3 Zn M hlt hs (hz 0 (by decide)) (hz 1 (by decide)) (hz 2 (by decide)))
  · exact decide_eq_decide.mpr (own_om4 Zn M hlt hs (hz 0 (by decide)) (hz 1 (by decide)) (hz 2 (by decide)) (hz 3 (by decide)))
  · exact decide_eq_decide.mpr (own_om5 Zn M hlt hs (hz 0 (by decide)) (hz 1 (by decide)) (hz 2 (by decide)) (hz 3 (by decide)) (hz 4 (by decide)))
  · exact decide_eq_decide.mpr (own_om6 Zn M hlt hs (hz 0 (by decide)) (hz 1 (by decide)) (hz 2 (by decide)) (hz 3 (by decide)) (hz 4 (by decide)) (hz 5 (by decide)))
  · exact decide_eq_decide.mpr (own_om7 Zn M hlt hs (hz 0 (by decide)) (hz 1 (by decide)) (hz 2 (by decide)) (hz 3 (by decide)) (hz 4 (by decide)) (hz 5 (by decide)) (hz 6 (by decide)))
theorem own_m_low (z : Int64) (i : Nat) (hi : i ≤ 8) (hz : ∀ t < i, z.toBitVec.toNat / 2 ^ (8 * t) % 256 ≠ 0) (k : Nat) (hk : k < 8 * i + 7) (hk2 : k < 64) : (own_m z).toBitVec.getLsbD k = false := by
  by_cases h7 : k % 8 = 7
  · have hk3 : k = 8 * (k / 8) + 7 := by omega
    rw [hk3, own_m7 z (k / 8) (by omega) (fun t ht => hz t (by omega))]
    exact decide_eq_false (hz _ (by omega))
  · rw [own_mbit]
    have hb := own_hb ⟨k, hk2⟩
    rw [show (0x8080808080808080#64).getLsbD k = _ from hb]
    simp [h7]
theorem own_none (w : Int64) (b : Int32) (hz : ∀ t < 8, (own_z w b).toBitVec.toNat / 2 ^ (8 * t) % 256 ≠ 0) : own_fb w b = -1 := by
  rw [own_fb_eq, if_pos]
  apply Int64.toBitVec_inj.mp
  apply BitVec.eq_of_getLsbD_eq
  intro k hk
  rw [own_m_low _ 8 (by decide) hz k (by omega) hk]
  simp
theorem own_some (w : Int64) (b : Int32) (i : Nat) (hi : i < 8) (hz : ∀ t < i, (own_z w b).toBitVec.toNat / 2 ^ (8 * t) % 256 ≠ 0) (h0 : (own_z w b).toBitVec.toNat / 2 ^ (8 * i) % 256 = 0) : (own_fb w b).toInt = (i : Int) := by
  have h1 : (own_m (own_z w b)).toBitVec.getLsbD (8 * i + 7) = true := by rw [own_m7 _ i hi hz]; exact decide_eq_true h0
  rw [own_fb_eq, if_neg]
  · exact own_ntl_v _ i hi (fun t ht => own_m_low _ i (by omega) hz t ht (by omega)) h1
  · intro q
    rw [q] at h1
    simp at h1
theorem own_key (w : Int64) (v : Int32) : own_fb w v.toInt8.toInt32 = own_ref w (v &&& 255) := by
  have e : ∀ i : Nat, i < 8 → ∀ x : Int32, ((8 : Int32) * x).toBitVec.toNat % 64 = 8 * i → ((own_z w v.toInt8.toInt32).toBitVec.toNat / 2 ^ (8 * i) % 256 = 0 ↔ own_ba w x = (v &&& 255)) := fun i hi x hx => by
    rw [own_zb w v (8 * i) (by omega), ← Int32.toInt_inj, own_bav w x (8 * i) hx]
  have e0 := e 0 (by decide) 0 (by decide)
  have e1 := e 1 (by decide) 1 (by decide)
  have e2 := e 2 (by decide) 2 (by decide)
  have e3 := e 3 (by decide) 3 (by decide)
  have e4 := e 4 (by decide) 4 (by decide)
  have e5 := e 5 (by decide) 5 (by decide)
  have e6 := e 6 (by decide) 6 (by decide)
  have e7 := e 7 (by decide) 7 (by decide)
  unfold own_ref
  by_cases c0 : own_ba w 0 = (v &&& 255)
  · rw [if_pos c0]
    have hz : ∀ t < 0, (own_z w v.toInt8.toInt32).toBitVec.toNat / 2 ^ (8 * t) % 256 ≠ 0 := by
      intro t ht
      have hc : False := by omega
      exact hc.elim
    exact Int32.toInt_inj.mp (own_some w _ 0 (by decide) hz (e0.mpr c0))
  rw [if_neg c0]
  by_cases c1 : own_ba w 1 = (v &&& 255)
  · rw [if_pos c1]
    have hz : ∀ t < 1, (own_z w v.toInt8.toInt32).toBitVec.toNat / 2 ^ (8 * t) % 256 ≠ 0 := by
      intro t ht
      have hc : t = 0 := by omega
      rcases hc with rfl
      · exact fun q => c0 (e0.mp q)
    exact Int32.toInt_inj.mp (own_some w _ 1 (by decide) hz (e1.mpr c1))
  rw [if_neg c1]
  by_cases c2 : own_ba w 2 = (v &&& 255)
  · rw [if_pos c2]
    have hz : ∀ t < 2, (own_z w v.toInt8.toInt32).toBitVec.toNat / 2 ^ (8 * t) % 256 ≠ 0 := by
      intro t ht
      have hc : t = 0 ∨ t = 1 := by omega
      rcases hc with rfl | rfl
      · exact fun q => c0 (e0.mp q)
      · exact fun q => c1 (e1.mp q)
    exact Int32.toInt_inj.mp (own_some w _ 2 (by decide) hz (e2.mpr c2))
  rw [if_neg c2]
  by_cases c3 : own_ba w 3 = (v &&& 255)
  · rw [if_pos c3]
    have hz : ∀ t < 3, (own_z w v.toInt8.toInt32).toBitVec.toNat / 2 ^ (8 * t) % 256 ≠ 0 := by
      intro t ht
      have hc : t = 0 ∨ t = 1 ∨ t = 2 := by omega
      rcases hc with rfl | rfl | rfl
      · exact fun q => c0 (e0.mp q)
      · exact fun q => c1 (e1.mp q)
      · exact fun q => c2 (e2.mp q)
    exact Int32.toInt_inj.mp (own_some w _ 3 (by decide) hz (e3.mpr c3))
  rw [if_neg c3]
  by_cases c4 : own_ba w 4 = (v &&& 255)
  · rw [if_pos c4]
    have hz : ∀ t < 4, (own_z w v.toInt8.toInt32).toBitVec.toNat / 2 ^ (8 * t) % 256 ≠ 0 := by
      intro t ht
      have hc : t = 0 ∨ t = 1 ∨ t = 2 ∨ t = 3 := by omega
      rcases hc with rfl | rfl | rfl | rfl
      · exact fun q => c0 (e0.mp q)
      · exact fun q => c1 (e1.mp q)
      · exact fun q => c2 (e2.mp q)
      · exact fun q => c3 (e3.mp q)
    exact Int32.toInt_inj.mp (own_some w _ 4 (by decide) hz (e4.mpr c4))
  rw [if_neg c4]
  by_cases c5 : own_ba w 5 = (v &&& 255)
  · rw [if_pos c5]
    have hz : ∀ t < 5, (own_z w v.toInt8.toInt32).toBitVec.toNat / 2 ^ (8 * t) % 256 ≠ 0 := by
      intro t ht
      have hc : t = 0 ∨ t = 1 ∨ t = 2 ∨ t = 3 ∨ t = 4 := by omega
      rcases hc with rfl | rfl | rfl | rfl | rfl
      · exact fun q => c0 (e0.mp q)
      · exact fun q => c1 (e1.mp q)
      · exact fun q => c2 (e2.mp q)
      · exact fun q => c3 (e3.mp q)
      · exact fun q => c4 (e4.mp q)
    exact Int32.toInt_inj.mp (own_some w _ 5 (by decide) hz (e5.mpr c5))
  rw [if_neg c5]
  by_cases c6 : own_ba w 6 = (v &&& 255)
  · rw [if_pos c6]
    have hz : ∀ t < 6, (own_z w v.toInt8.toInt32).toBitVec.toNat / 2 ^ (8 * t) % 256 ≠ 0 := by
      intro t ht
      have hc : t = 0 ∨ t = 1 ∨ t = 2 ∨ t = 3 ∨ t = 4 ∨ t = 5 := by omega
      rcases hc with rfl | rfl | rfl | rfl | rfl | rfl
      · exact fun q => c0 (e0.mp q)
      · exact fun q => c1 (e1.mp q)
      · exact fun q => c2 (e2.mp q)
      · exact fun q => c3 (e3.mp q)
      · exact fun q => c4 (e4.mp q)
      · exact fun q => c5 (e5.mp q)
    exact Int32.toInt_inj.mp (own_some w _ 6 (by decide) hz (e6.mpr c6))
  rw [if_neg c6]
  by_cases c7 : own_ba w 7 = (v &&& 255)
  · rw [if_pos c7]
    have hz : ∀ t < 7, (own_z w v.toInt8.toInt32).toBitVec.toNat / 2 ^ (8 * t) % 256 ≠ 0 := by
      intro t ht
      have hc : t = 0 ∨ t = 1 ∨ t = 2 ∨ t = 3 ∨ t = 4 ∨ t = 5 ∨ t = 6 := by omega
      rcases hc with rfl | rfl | rfl | rfl | rfl | rfl | rfl
      · exact fun q => c0 (e0.mp q)
      · exact fun q => c1 (e1.mp q)
      · exact fun q => c2 (e2.mp q)
      · exact fun q => c3 (e3.mp q)
      · exact fun q => c4 (e4.mp q)
      · exact fun q => c5 (e5.mp q)
      · exact fun q => c6 (e6.mp q)
    exact Int32.toInt_inj.mp (own_some w _ 7 (by decide) hz (e7.mpr c7))
  rw [if_neg c7]
  refine own_none w _ fun t ht => ?_
  have hc : t = 0 ∨ t = 1 ∨ t = 2 ∨ t = 3 ∨ t = 4 ∨ t = 5 ∨ t = 6 ∨ t = 7 := by omega
  rcases hc with rfl | rfl | rfl | rfl | rfl | rfl | rfl | rfl
  · exact fun q => c0 (e0.mp q)
  · exact fun q => c1 (e1.mp q)
  · exact fun q => c2 (e2.mp q)
  · exact fun q => c3 (e3.mp q)
  · exact fun q => c4 (e4.mp q)
  · exact fun q => c5 (e5.mp q)
  · exact fun q => c6 (e6.mp q)
  · exact fun q => c7 (e7.mp q)
theorem pf_0 : plainFor x = true := by first | exact plainFor_of_name (by first | (simp [plainName, overriddenIn]; done) | decide +kernel) | decide +kernel
theorem ef_0 (m : MethodId) (p0 : Int64) (p1 : Int32) (p2 : Int32) : entryFrame m #[(.long p0), (.int p1), (.int p2)] maxLocals = mkF m 0 #[.val (.long p0), .second, .val (.int p1), .val (.int p2), .unset, .unset, .unset, .unset, .unset] [] := by first | (simp [entryFrame, mkF, argsToLocals, Value.category, maxLocals]; done) | rfl
theorem pd_3 : parseMethodDescriptor "(JB)I" = some ⟨[.long, .byte], some .int⟩ := by decide +kernel
set_option maxRecDepth 65536 in
set_option maxHeartbeats 40000000 in
theorem con_0 (l : Launch) (Z : State) (a0 : Array Value) (hw : ∀ d ∈ tables_1, d.before a0 Z = true) (h0 : Heap) (n0 : Nat) (p0 : Int64) (p1 : Int32) (p2 : Int32)  (Z0 : n0 ≤ h0.size) : Con l Z x code maxLocals ret room_1 #[(.long p0), (.int p1), (.int p2)] h0 n0 (fun v _ => v = some (.int 1)) := by
  refine Con.of pf_0 (fun m => ef_0 m p0 p1 p2) ?_
  intro p e s m below meth c C
  refine W.lloadN C at_0 rfl ?_
  refine W.lstore C #[.val (.long p0), .second, .val (.int p1), .val (.int p2), .val (.long p0), .second, .unset, .unset, .unset] at_1 rfl ?_
  refine W.iloadN C at_3 rfl ?_
  refine W.bipush C (7 : Int32) at_4 rfl ?_
  refine W.iand C at_6 ?_
  refine W.bipush C (8 : Int32) at_7 rfl ?_
  refine W.imul C at_9 ?_
  refine W.istore C #[.val (.long p0), .second, .val (.int p1), .val (.int p2), .val (.long p0), .second, .val (.int ((p2 &&& (7 : Int32)) * (8 : Int32))), .unset, .unset] at_10 rfl ?_
  refine W.iloadN C at_12 rfl ?_
  refine W.bipush C (8 : Int32) at_13 rfl ?_
  refine W.iand C at_15 ?_
  have J90 : ∀ (w : Int64), W p l e room_1 s m #[(.long p0), (.int p1), (.int p2)] below meth c n0 (fun v _ => v = some (.int 1)) room_1.cells room_1.slots 0 0 h0 90 #[.val (.long p0), .second, .val (.int p1), .val (.int p2), .val (.long w), .second, .val (.int ((p2 &&& (7 : Int32)) * (8 : Int32))), .val (.int ((((p2).toUInt32 >>> ((4 : Int32) &&& 31).toUInt32).toInt32 &&& (7 : Int32)) * (8 : Int32))), .unset] [] := by
    intro w
    refine W.iloadN C at_90 rfl ?_
    refine W.i2b C at_91 ?_
    refine W.istore C #[.val (.long p0), .second, .val (.int p1), .val (.int p2), .val (.long w), .second, .val (.int ((p2 &&& (7 : Int32)) * (8 : Int32))), .val (.int ((((p2).toUInt32 >>> ((4 : Int32) &&& 31).toUInt32).toInt32 &&& (7 : Int32)) * (8 : Int32))), .val (.int ((p1).toInt8.toInt32))] at_92 rfl ?_
    refine W.lload C at_94 rfl ?_
    refine W.iload C at_96 rfl ?_
    refine W.callS C (y' := y1) at_98 (tkw hw 0 rfl) (tkw hw 1 rfl) (tkw hw 2 rfl) (tkw hw 3 rfl) (by decide) (argsL := [(.long w), (.int ((p1).toInt8.toInt32))]) (rest := []) rfl (lenOf pd_3 rfl) (con_1 l Z a0 hw h0 n0 w ((p1).toInt8.toInt32)) 0 0 0 rfl rfl rfl (by decide) (by decide) (by decide) (by decide) rfl ?_
    rintro _ _ ⟨rfl, rfl⟩
    refine W.lload C at_101 rfl ?_
    refine W.iloadN C at_103 rfl ?_
    refine W.sipush C (255 : Int32) at_104 rfl ?_
    refine W.iand C at_107 ?_
    refine W.callS C (y' := y2) at_108 (tkw hw 8 rfl) (tkw hw 9 rfl) (tkw hw 10 rfl) (tkw hw 11 rfl) (by decide) (argsL := [(.long w), (.int (p1 &&& (255 : Int32)))]) (rest := [(.int (own_fb w ((p1).toInt8.toInt32)))]) rfl (lenOf pd_2 rfl) (con_2 l Z a0 hw h0 n0 w (p1 &&& (255 : Int32))) 1 0 0 rfl rfl rfl (by decide) (by decide) (by decide) (by decide) rfl ?_
    rintro _ _ ⟨rfl, rfl⟩
    refine W.icmp_ne C 118 at_111 rfl (fun b1 => absurd (own_key _ _) b1) (fun b1 => ?_)
    refine W.iconst C (1 : Int32) at_114 rfl ?_
    refine W.goto C 119 at_115 rfl ?_
    exact W.iret C at_119 (by simp) rfl (by decide) (by decide) rfl
  have J44 : ∀ (w : Int64), W p l e room_1 s m #[(.long p0), (.int p1), (.int p2)] below meth c n0 (fun v _ => v = some (.int 1)) room_1.cells room_1.slots 0 0 h0 44 #[.val (.long p0), .second, .val (.int p1), .val (.int p2), .val (.long w), .second, .val (.int ((p2 &&& (7 : Int32)) * (8 : Int32))), .unset, .unset] [] := by
    intro w
    refine W.iloadN C at_44 rfl ?_
    refine W.iconst C (4 : Int32) at_45 rfl ?_
    refine W.iushr C at_46 ?_
    refine W.bipush C (7 : Int32) at_47 rfl ?_
    refine W.iand C at_49 ?_
    refine W.bipush C (8 : Int32) at_50 rfl ?_
    refine W.imul C at_52 ?_
    refine W.istore C #[.val (.long p0), .second, .val (.int p1), .val (.int p2), .val (.long w), .second, .val (.int ((p2 &&& (7 : Int32)) * (8 : Int32))), .val (.int ((((p2).toUInt32 >>> ((4 : Int32) &&& 31).toUInt32).toInt32 &&& (7 : Int32)) * (8 : Int32))), .unset] at_53 rfl ?_
    refine W.iloadN C at_55 rfl ?_
    refine W.sipush C (128 : Int32) at_56 rfl ?_
    refine W.iand C at_59 ?_
    refine W.if_eq C 90 at_60 rfl (fun b2 => ?_) (fun b2 => ?_)
    · skip
      exact J90 w
    · skip
      refine W.lload C at_63 rfl ?_
      refine W.ldc2J C (v := (255 : Int64)) at_65 (tkw hw 15 rfl) ?_
      refine W.iload C at_68 rfl ?_
      refine W.lshl C at_70 ?_
      refine W.ldc2J C (v := (-1 : Int64)) at_71 (tkw hw 16 rfl) ?_
      refine W.lxor C at_74 ?_
      refine W.land C at_75 ?_
      refine W.iloadN C at_76 rfl ?_
      refine W.iconst C (1 : Int32) at_77 rfl ?_
      refine W.ixor C at_78 ?_
      refine W.i2l C at_79 ?_
      refine W.ldc2J C (v := (255 : Int64)) at_80 (tkw hw 15 rfl) ?_
      refine W.land C at_83 ?_
      refine W.iload C at_84 rfl ?_
      refine W.lshl C at_86 ?_
      refine W.lor C at_87 ?_
      refine W.lstore C #[.val (.long p0), .second, .val (.int p1), .val (.int p2), .val (.long ((w &&& (((255 : Int64) <<< (((((p2).toUInt32 >>> ((4 : Int32) &&& 31).toUInt32).toInt32 &&& (7 : Int32)) * (8 : Int32)) &&& 0x3f).toInt64) ^^^ (-1 : Int64))) ||| (((((p1 ^^^ (1 : Int32))).toInt64) &&& (255 : Int64)) <<< (((((p2).toUInt32 >>> ((4 : Int32) &&& 31).toUInt32).toInt32 &&& (7 : Int32)) * (8 : Int32)) &&& 0x3f).toInt64))), .second, .val (.int ((p2 &&& (7 : Int32)) * (8 : Int32))), .val (.int ((((p2).toUInt32 >>> ((4 : Int32) &&& 31).toUInt32).toInt32 &&& (7 : Int32)) * (8 : Int32))), .unset] at_88 rfl ?_
      exact J90 ((w &&& (((255 : Int64) <<< (((((p2).toUInt32 >>> ((4 : Int32) &&& 31).toUInt32).toInt32 &&& (7 : Int32)) * (8 : Int32)) &&& 0x3f).toInt64) ^^^ (-1 : Int64))) ||| (((((p1 ^^^ (1 : Int32))).toInt64) &&& (255 : Int64)) <<< (((((p2).toUInt32 >>> ((4 : Int32) &&& 31).toUInt32).toInt32 &&& (7 : Int32)) * (8 : Int32)) &&& 0x3f).toInt64))
  refine W.if_eq C 44 at_16 rfl (fun b3 => ?_) (fun b3 => ?_)
  · skip
    exact J44 p0
  · skip
    refine W.lload C at_19 rfl ?_
    refine W.ldc2J C (v := (255 : Int64)) at_21 (tkw hw 15 rfl) ?_
    refine W.iload C at_24 rfl ?_
    refine W.lshl C at_26 ?_
    refine W.ldc2J C (v := (-1 : Int64)) at_27 (tkw hw 16 rfl) ?_
    refine W.lxor C at_30 ?_
    refine W.land C at_31 ?_
    refine W.iloadN C at_32 rfl ?_
    refine W.i2l C at_33 ?_
    refine W.ldc2J C (v := (255 : Int64)) at_34 (tkw hw 15 rfl) ?_
    refine W.land C at_37 ?_
    refine W.iload C at_38 rfl ?_
    refine W.lshl C at_40 ?_
    refine W.lor C at_41 ?_
    refine W.lstore C #[.val (.long p0), .second, .val (.int p1), .val (.int p2), .val (.long ((p0 &&& (((255 : Int64) <<< (((p2 &&& (7 : Int32)) * (8 : Int32)) &&& 0x3f).toInt64) ^^^ (-1 : Int64))) ||| ((((p1).toInt64) &&& (255 : Int64)) <<< (((p2 &&& (7 : Int32)) * (8 : Int32)) &&& 0x3f).toInt64))), .second, .val (.int ((p2 &&& (7 : Int32)) * (8 : Int32))), .unset, .unset] at_42 rfl ?_
    exact J44 ((p0 &&& (((255 : Int64) <<< (((p2 &&& (7 : Int32)) * (8 : Int32)) &&& 0x3f).toInt64) ^^^ (-1 : Int64))) ||| ((((p1).toInt64) &&& (255 : Int64)) <<< (((p2 &&& (7 : Int32)) * (8 : Int32)) &&& 0x3f).toInt64))

set_option maxRecDepth 65536 in
set_option maxHeartbeats 40000000 in
theorem comes_1 {Post : Tables → Env → Array Value → State → Outcome → State → Prop} (hpost : ∀ tb e args s v u, (limb_1_1.after args s (.returned v) u = true ∧ limb_1_2.after args s (.returned v) u = true ∧ True) → FrameEnd s (.returned v) u (Jvm.fieldLocs frame_1_writes args s ++ Jvm.arrayLocs frame_1_arrays args s ++ Jvm.staticLocs frame_1_statics s) 0 0 → Post tb e args s (.returned v) u) :
    ArmFor flags0 classFile x code maxLocals ret World_1 tables_1 room_1 Calls_1 rest_1 Pre_1 Post := by
  intro l hfl _ _ p e ha hc hk s m args below hf hA hF happ hP
  obtain ⟨hcalls, hrest, hpre⟩ := hP
  obtain ⟨-, -, -, hnamed, -, -, -, hat⟩ := (Spec.applies_iff hf).mp happ
  obtain ⟨hg, hn⟩ := and_e (Cond.before_iff.mp (show (Jvm.Cond.and given_1 narrow_1).before args s = true from hpre))
  obtain ⟨gc, g0⟩ := and_e hg
  obtain ⟨i0h, g1⟩ := and_e g0
  obtain ⟨i1h, g2⟩ := and_e g1
  obtain ⟨w0, w1, w2, rfl⟩ : ∃ w0 w1 w2 : Value, args = #[w0, w1, w2] := by
    have hs : args.size = 3 := by simpa [Cond.value, given_1] using gc
    obtain ⟨L⟩ := args
    match L, hs with
    | [w0, w1, w2], _ => exact ⟨w0, w1, w2, rfl⟩
  have hw := fun d (hd : d ∈ tables_1) => atoms_spec (ws := Jvm.Cond.code x code maxLocals ret :: tables_1) hat d (List.mem_cons_of_mem _ hd)
  have hfit : Fit s := fun {y c} hc i hi => by
    obtain ⟨ha, rfl⟩ := Array.getElem?_eq_some_iff.mp hc
    have q := List.all_eq_true.mp ((Array.all_eq_true_iff_forall_mem.mp hF) _ (Array.getElem_mem ha)) i (List.mem_range.mpr hi)
    simpa [Array.getElem?_eq_getElem hi] using q
  obtain ⟨i0, ei0⟩ := isL_v i0h
  obtain rfl : w0 = (.long i0) := Option.some.inj ei0
  obtain ⟨i1, ei1⟩ := is_v i1h
  obtain rfl : w1 = (.int i1) := Option.some.inj ei1
  obtain ⟨i2, ei2⟩ := is_v g2
  obtain rfl : w2 = (.int i2) := Option.some.inj ei2
  obtain ⟨n, o, h1, h2, h3, _, L, rfl, ⟨rfl, N⟩, hq⟩ := (con_0 l s _ hw s.heap s.heap.size i0 i1 i2 (Nat.le_refl _)) tables_1 p e ha hc hk s m _ below hf ((Spec.applies_iff_loose hf).mp happ).1 ⟨rfl, State.Warmed39.refl s, rfl⟩ trivial
  refine ⟨n, _, h1, h2, h3, hpost _ _ _ _ _ _ ⟨Cond.after_iff.mpr rfl, Cond.after_iff.mpr (eq_i res_at (Term.int_eval (1)) rfl), trivial⟩ ⟨hq.1, hq.2.1, (hq.2.2.sift fun y hy => Or.inr (N y hy)).mono (by decide) (by decide)⟩⟩
theorem main_1_1 : Claimed_1_1 := comes_1 fun _ _ _ _ _ _ h hF => ⟨h.1, hF⟩
theorem main_1_2 : Claimed_1_2 := comes_1 fun _ _ _ _ _ _ h hF => ⟨h.2.1, hF⟩
end Jvm.Pilot.@@N@@
namespace Jvm.Pilot.@@N@@
open Jvm Jvm.ClassFile Sem Op Lib Jvm.Free Jvm.Stand Jvm.Pilot.@@N@@.Jvm.D
/-! MADE BY PROGRAM (witnessworld.py) out of the Statement's table words and the real class files: 15 classes; the members and pool entries that the words name. The judged class is class 1, her method 3. -/
namespace start1
open Jvm.ClassFile
def u (s : String) : CpInfo := .utf8 (stringToUtf16 s)
/-- a pool by its gaps: so many unusable entries, then the entry; so many at the end -/
def gap : Nat → List CpInfo → List CpInfo
  | 0, r => r
  | n + 1, r => .unusable :: gap n r
def poolList (es : List (Nat × CpInfo)) (last : Nat) : List CpInfo := es.foldr (fun e r => gap e.1 (e.2 :: r)) (gap last [])
def pool (es : List (Nat × CpInfo)) (last : Nat) : Array CpInfo := ⟨poolList es last⟩
def fileOf (pool : Array CpInfo) (this : Nat) (attrs : Array Attribute := #[]) (ms : Array MethodInfo := #[]) (fl : Nat := 33) (sup : Nat := 0) (ifs : Array Nat := #[]) (fds : Array FieldInfo := #[]) : ClassFile where
  minorVersion := 0
  majorVersion := 65
  constantPool := pool
  accessFlags := fl
  thisClass := this
  superClass := sup
  interfaces := ifs
  fields := fds
  methods := ms
  attributes := attrs
def plain (name : String) (sup : Option ClassId) : Class where
  name := name
  kind := .ordinary
  loader := none
  accessFlags := 33
  super := sup
  interfaces := #[]
  cf := none
  fields := #[]
  methods := #[]
  instanceTypes := #[]
  staticTypes := #[]
  resolved := #[]
  callSites := []
  init := .initialized
  statics := none
  mirror := none

def pool0 : Array CpInfo := pool [(5, u "<init>"), (0, u "()V"), (1, .class_ 10), (1, u "java/lang/Object")] 113

def k0m0 : Method := { name := "<init>", desc := "()V", sig := { parameters := [], returnType := none }, accessFlags := 1, code := none }
/-- java/lang/Object -/
def k0 : Class := { plain "java/lang/Object" none with
  accessFlags := 33
  interfaces := #[]
  cf := some (fileOf pool0 8 #[] #[{ accessFlags := 1, nameIndex := 5, descriptorIndex := 6, attributes := #[] }] 33 0 #[] #[])
  fields := #[]
  methods := #[k0m0]
  instanceTypes := #[]
  staticTypes := #[]
  resolved := Array.replicate 124 none
  statics := none }

def pool1 : Array CpInfo := pool [(2, .class_ 4), (1, u "java/lang/Object"), (0, u "<init>"), (0, u "()V"), (0, .long 255), (1, .methodref 10 11), (0, .class_ 12), (0, .nameAndType 13 14), (0, u "com/example/occhio/occhio/events/WordsFirstBytePinLaw"), (0, u "byteAt"), (0, u "(JI)I"), (0, .long 18446744073709551615), (1, .methodref 18 19), (0, .class_ 20), (0, .nameAndType 21 22), (0, u "com/example/occhio/occhio/events/Words"), (0, u "firstByte"), (0, u "(JB)I"), (0, .methodref 10 24), (0, .nameAndType 25 14), (0, u "ref"), (3, u "law"), (0, u "(JII)Z")] 2

def k1m0 : Method := { name := "<init>", desc := "()V", sig := { parameters := [], returnType := none }, accessFlags := 1, code := none }
def k1c1 : Code := { maxStack := 4, maxLocals := 3, code := method_2_code, exceptionTable := #[], attributes := #[] }
def k1m1 : Method := { name := "byteAt", desc := "(JI)I", sig := { parameters := [.long, .int], returnType := some .int }, accessFlags := 10, code := some k1c1 }
def k1c2 : Code := { maxStack := 3, maxLocals := 3, code := method_3_code, exceptionTable := #[], attributes := #[] }
def k1m2 : Method := { name := "ref", desc := "(JI)I", sig := { parameters := [.long, .int], returnType := some .int }, accessFlags := 10, code := some k1c2 }
def k1c3 : Code := { maxStack := 6, maxLocals := 9, code := code, exceptionTable := #[], attributes := #[] }
def k1m3 : Method := { name := "law", desc := "(JII)Z", sig := { parameters := [.long, .int, .int], returnType := some .boolean }, accessFlags := 9, code := some k1c3 }
/-- com/example/occhio/occhio/events/WordsFirstBytePinLaw -/
def k1 : Class := { plain "com/example/occhio/occhio/events/WordsFirstBytePinLaw" (some 0) with
  accessFlags := 49
  interfaces := #[]
  cf := some (fileOf pool1 10 #[] #[{ accessFlags := 1, nameIndex := 5, descriptorIndex := 6, attributes := #[] }, { accessFlags := 10, nameIndex := 13, descriptorIndex := 14, attributes := #[] }, { accessFlags := 10, nameIndex := 25, descriptorIndex := 14, attributes := #[] }, { accessFlags := 9, nameIndex := 29, descriptorIndex := 30, attributes := #[] }] 49 2 #[] #[])
  fields := #[]
  methods := #[k1m0, k1m1, k1m2, k1m3]
  instanceTypes := #[]
  staticTypes := #[]
  resolved := Array.replicate 33 none
  statics := none }

def pool2 : Array CpInfo := pool [(2, .class_ 4), (1, u "java/lang/Object"), (0, u "<init>"), (0, u "()V"), (1, .class_ 10), (1, u "com/example/occhio/occhio/events/Words"), (0, u "LONGS"), (0, u "Ljava/lang/invoke/VarHandle;"), (6, .long 9259542123273814144), (1, .long 255), (1, .long 72340172838076673), (1, .long 18446744073709551615), (1, .methodref 28 29), (0, .class_ 30), (0, .nameAndType 31 32), (0, u "java/lang/Long"), (0, u "numberOfTrailingZeros"), (0, u "(J)I"), (14, u "ONES"), (0, u "J"), (1, u "HIGH_BITS"), (5, u "firstByte"), (0, u "(JB)I")] 3

def k2m0 : Method := { name := "<init>", desc := "()V", sig := { parameters := [], returnType := none }, accessFlags := 2, code := none }
def k2c1 : Code := { maxStack := 6, maxLocals := 7, code := prog_23_method_4_code, exceptionTable := #[], attributes := #[] }
def k2m1 : Method := { name := "firstByte", desc := "(JB)I", sig := { parameters := [.long, .byte], returnType := some .int }, accessFlags := 8, code := some k2c1 }
/-- com/example/occhio/occhio/events/Words -/
def k2 : Class := { plain "com/example/occhio/occhio/events/Words" (some 0) with
  accessFlags := 32
  interfaces := #[]
  cf := some (fileOf pool2 8 #[] #[{ accessFlags := 2, nameIndex := 5, descriptorIndex := 6, attributes := #[] }, { accessFlags := 8, nameIndex := 56, descriptorIndex := 57, attributes := #[] }] 32 2 #[] #[{ accessFlags := 26, nameIndex := 11, descriptorIndex := 12, attributes := #[] }, { accessFlags := 26, nameIndex := 47, descriptorIndex := 48, attributes := #[] }, { accessFlags := 26, nameIndex := 50, descriptorIndex := 48, attributes := #[] }])
  fields := #[{ name := "LONGS", type := (.object "java/lang/invoke/VarHandle"), accessFlags := 26, slot := 0, constantValue := 0 }, { name := "ONES", type := .long, accessFlags := 26, slot := 1, constantValue := 0 }, { name := "HIGH_BITS", type := .long, accessFlags := 26, slot := 2, constantValue := 0 }]
  methods := #[k2m0, k2m1]
  instanceTypes := #[]
  staticTypes := #[(.object "java/lang/invoke/VarHandle"), .long, .long]
  resolved := Array.replicate 61 none
  statics := none }

def pool3 : Array CpInfo := pool [(1, .class_ 2), (0, u "java/io/Serializable"), (0, .class_ 4), (0, u "java/lang/Object")] 2

/-- java/io/Serializable -/
def k3 : Class := { plain "java/io/Serializable" (some 0) with
  accessFlags := 1537
  interfaces := #[]
  cf := some (fileOf pool3 1 #[] #[] 1537 3 #[] #[])
  fields := #[]
  methods := #[]
  instanceTypes := #[]
  staticTypes := #[]
  resolved := Array.replicate 7 none
  statics := none }

def pool4 : Array CpInfo := pool [(2, .class_ 4), (1, u "java/lang/Object"), (0, u "<init>"), (0, u "()V"), (1, .class_ 10), (1, u "java/lang/Number"), (2, .class_ 14), (0, u "java/io/Serializable"), (0, u "serialVersionUID"), (0, u "J")] 20

def k4m0 : Method := { name := "<init>", desc := "()V", sig := { parameters := [], returnType := none }, accessFlags := 1, code := none }
/-- java/lang/Number -/
def k4 : Class := { plain "java/lang/Number" (some 0) with
  accessFlags := 1057
  interfaces := #[3]
  cf := some (fileOf pool4 8 #[] #[{ accessFlags := 1, nameIndex := 5, descriptorIndex := 6, attributes := #[] }] 1057 2 #[13] #[{ accessFlags := 26, nameIndex := 15, descriptorIndex := 16, attributes := #[] }])
  fields := #[{ name := "serialVersionUID", type := .long, accessFlags := 26, slot := 0, constantValue := 0 }]
  methods := #[k4m0]
  instanceTypes := #[]
  staticTypes := #[.long]
  resolved := Array.replicate 37 none
  statics := none }

def pool5 : Array CpInfo := pool [(1, .class_ 2), (0, u "java/lang/Comparable"), (0, .class_ 4), (0, u "java/lang/Object")] 7

/-- java/lang/Comparable -/
def k5 : Class := { plain "java/lang/Comparable" (some 0) with
  accessFlags := 1537
  interfaces := #[]
  cf := some (fileOf pool5 1 #[] #[] 1537 3 #[] #[])
  fields := #[]
  methods := #[]
  instanceTypes := #[]
  staticTypes := #[]
  resolved := Array.replicate 12 none
  statics := none }

def pool6 : Array CpInfo := pool [(1, .class_ 2), (0, u "java/lang/constant/Constable"), (0, .class_ 4), (0, u "java/lang/Object")] 6

/-- java/lang/constant/Constable -/
def k6 : Class := { plain "java/lang/constant/Constable" (some 0) with
  accessFlags := 1537
  interfaces := #[]
  cf := some (fileOf pool6 1 #[] #[] 1537 3 #[] #[])
  fields := #[]
  methods := #[]
  instanceTypes := #[]
  staticTypes := #[]
  resolved := Array.replicate 11 none
  statics := none }

def pool7 : Array CpInfo := pool [(1, .class_ 2), (0, u "java/lang/constant/ConstantDesc"), (0, .class_ 4), (0, u "java/lang/Object")] 32

/-- java/lang/constant/ConstantDesc -/
def k7 : Class := { plain "java/lang/constant/ConstantDesc" (some 0) with
  accessFlags := 1537
  interfaces := #[]
  cf := some (fileOf pool7 1 #[] #[] 1537 3 #[] #[])
  fields := #[]
  methods := #[]
  instanceTypes := #[]
  staticTypes := #[]
  resolved := Array.replicate 37 none
  statics := none }

def pool8 : Array CpInfo := pool [(1, .class_ 2), (0, u "java/lang/Long"), (15, .class_ 20), (1, u "java/lang/Integer"), (80, u "(J)I"), (133, .class_ 237), (1, u "java/lang/Long$LongCache"), (33, .class_ 272), (0, u "java/lang/Number"), (2, u "value"), (0, u "J"), (33, u "(I)I"), (0, .methodref 18 312), (0, .nameAndType 313 310), (0, u "numberOfTrailingZeros"), (47, u "TYPE"), (0, u "Ljava/lang/Class;"), (0, .class_ 364), (0, u "java/lang/Comparable"), (0, .class_ 366), (0, u "java/lang/constant/Constable"), (0, .class_ 368), (0, u "java/lang/constant/ConstantDesc"), (0, u "MIN_VALUE"), (1, u "MAX_VALUE"), (4, u "SIZE"), (0, u "I"), (1, u "BYTES"), (1, u "serialVersionUID")] 142

def k8c0 : Code := { maxStack := 4, maxLocals := 3, code := jdk_35_method_49_code, exceptionTable := #[], attributes := #[] }
def k8m0 : Method := { name := "numberOfTrailingZeros", desc := "(J)I", sig := { parameters := [.long], returnType := some .int }, accessFlags := 9, code := some k8c0 }
/-- java/lang/Long -/
def k8 : Class := { plain "java/lang/Long" (some 4) with
  accessFlags := 49
  interfaces := #[5, 6, 7]
  cf := some (fileOf pool8 1 #[.nestMembers #[235]] #[{ accessFlags := 9, nameIndex := 313, descriptorIndex := 101, attributes := #[] }] 49 271 #[363, 365, 367] #[{ accessFlags := 25, nameIndex := 369, descriptorIndex := 276, attributes := #[] }, { accessFlags := 25, nameIndex := 371, descriptorIndex := 276, attributes := #[] }, { accessFlags := 25, nameIndex := 361, descriptorIndex := 362, attributes := #[] }, { accessFlags := 18, nameIndex := 275, descriptorIndex := 276, attributes := #[] }, { accessFlags := 25, nameIndex := 376, descriptorIndex := 377, attributes := #[] }, { accessFlags := 25, nameIndex := 379, descriptorIndex := 377, attributes := #[] }, { accessFlags := 26, nameIndex := 381, descriptorIndex := 276, attributes := #[] }])
  fields := #[{ name := "MIN_VALUE", type := .long, accessFlags := 25, slot := 0, constantValue := 0 }, { name := "MAX_VALUE", type := .long, accessFlags := 25, slot := 1, constantValue := 0 }, { name := "TYPE", type := (.object "java/lang/Class"), accessFlags := 25, slot := 2, constantValue := 0 }, { name := "value", type := .long, accessFlags := 18, slot := 0, constantValue := 0 }, { name := "SIZE", type := .int, accessFlags := 25, slot := 3, constantValue := 0 }, { name := "BYTES", type := .int, accessFlags := 25, slot := 4, constantValue := 0 }, { name := "serialVersionUID", type := .long, accessFlags := 26, slot := 5, constantValue := 0 }]
  methods := #[k8m0]
  instanceTypes := #[.long]
  staticTypes := #[.long, .long, (.object "java/lang/Class"), .int, .int, .long]
  resolved := Array.replicate 524 none
  statics := none }

def pool9 : Array CpInfo := pool [(1, .class_ 2), (0, u "java/lang/Integer"), (16, u "digits"), (0, u "[C"), (33, u "(I)I"), (30, u "DigitOnes"), (0, u "[B"), (2, u "DigitTens"), (99, .class_ 190), (0, u "java/lang/Integer$IntegerCache"), (3, u "I"), (8, .class_ 204), (0, u "java/lang/Number"), (2, u "value"), (56, .integer 65536), (37, u "TYPE"), (0, u "Ljava/lang/Class;"), (0, .class_ 305), (0, u "java/lang/Comparable"), (0, .class_ 307), (0, u "java/lang/constant/Constable"), (0, .class_ 309), (0, u "java/lang/constant/ConstantDesc"), (0, u "MIN_VALUE"), (1, u "MAX_VALUE"), (3, u "SIZE"), (1, u "BYTES"), (1, u "serialVersionUID"), (0, u "J"), (84, u "numberOfTrailingZeros")] 46

def k9c0 : Code := { maxStack := 3, maxLocals := 2, code := jdk_33_method_48_code, exceptionTable := #[], attributes := #[] }
def k9m0 : Method := { name := "numberOfTrailingZeros", desc := "(I)I", sig := { parameters := [.int], returnType := some .int }, accessFlags := 9, code := some k9c0 }
/-- java/lang/Integer -/
def k9 : Class := { plain "java/lang/Integer" (some 4) with
  accessFlags := 49
  interfaces := #[5, 6, 7]
  cf := some (fileOf pool9 1 #[.nestMembers #[189]] #[{ accessFlags := 9, nameIndex := 406, descriptorIndex := 54, attributes := #[] }] 49 203 #[304, 306, 308] #[{ accessFlags := 25, nameIndex := 310, descriptorIndex := 194, attributes := #[] }, { accessFlags := 25, nameIndex := 312, descriptorIndex := 194, attributes := #[] }, { accessFlags := 25, nameIndex := 302, descriptorIndex := 303, attributes := #[] }, { accessFlags := 24, nameIndex := 19, descriptorIndex := 20, attributes := #[] }, { accessFlags := 24, nameIndex := 89, descriptorIndex := 86, attributes := #[] }, { accessFlags := 24, nameIndex := 85, descriptorIndex := 86, attributes := #[] }, { accessFlags := 18, nameIndex := 207, descriptorIndex := 194, attributes := #[] }, { accessFlags := 25, nameIndex := 316, descriptorIndex := 194, attributes := #[] }, { accessFlags := 25, nameIndex := 318, descriptorIndex := 194, attributes := #[] }, { accessFlags := 26, nameIndex := 320, descriptorIndex := 321, attributes := #[] }])
  fields := #[{ name := "MIN_VALUE", type := .int, accessFlags := 25, slot := 0, constantValue := 0 }, { name := "MAX_VALUE", type := .int, accessFlags := 25, slot := 1, constantValue := 0 }, { name := "TYPE", type := (.object "java/lang/Class"), accessFlags := 25, slot := 2, constantValue := 0 }, { name := "digits", type := (.array .char), accessFlags := 24, slot := 3, constantValue := 0 }, { name := "DigitTens", type := (.array .byte), accessFlags := 24, slot := 4, constantValue := 0 }, { name := "DigitOnes", type := (.array .byte), accessFlags := 24, slot := 5, constantValue := 0 }, { name := "value", type := .int, accessFlags := 18, slot := 0, constantValue := 0 }, { name := "SIZE", type := .int, accessFlags := 25, slot := 6, constantValue := 0 }, { name := "BYTES", type := .int, accessFlags := 25, slot := 7, constantValue := 0 }, { name := "serialVersionUID", type := .long, accessFlags := 26, slot := 8, constantValue := 0 }]
  methods := #[k9m0]
  instanceTypes := #[.int]
  staticTypes := #[.int, .int, (.object "java/lang/Class"), (.array .char), (.array .byte), (.array .byte), .int, .int, .long]
  resolved := Array.replicate 453 none
  statics := none }

def pool10 : Array CpInfo := pool [(1, u "java/lang/Cloneable"), (0, .class_ 1), (0, u "java/lang/Object"), (0, .class_ 3)] 3

/-- java/lang/Cloneable -/
def k10 : Class := { plain "java/lang/Cloneable" (some 0) with
  accessFlags := 1537
  interfaces := #[]
  cf := some (fileOf pool10 2 #[] #[] 1537 4 #[] #[])
  fields := #[]
  methods := #[]
  instanceTypes := #[]
  staticTypes := #[]
  resolved := Array.replicate 8 none
  statics := none }

/-- the primitive byte -/
def k11 : Class := { plain "byte" none with kind := .primitive 'B', accessFlags := 0x411 }
/-- [B -/
def k12 : Class := { plain "[B" (some 0) with kind := .array 11 .byte, interfaces := #[10, 3], accessFlags := 1041 }

/-- the primitive int -/
def k13 : Class := { plain "int" none with kind := .primitive 'I', accessFlags := 0x411 }
/-- [I -/
def k14 : Class := { plain "[I" (some 0) with kind := .array 13 .int, interfaces := #[10, 3], accessFlags := 1041 }

def heap : Heap := #[]
def classes : Array Class := #[k0, k1, k2, k3, k4, k5, k6, k7, k8, k9, k10, k11, k12, k13, k14]
def interned : List (Array UInt16 × Addr) := []
def slotsUsed : Nat := 0
def theMethod : MethodId := ⟨1, 3⟩
def args0 : Array Value := #[.long 5, .int 70000, .int 12]
def aboutOver (below : List Frame) : State where
  vm := { classes := classes, interned := interned.toArray }
  heap := heap
  slotsUsed := slotsUsed
  threads := #[{ frames := .invoking theMethod args0 :: below }]
def below0 : List Frame := [.native { method := ⟨0, 0⟩, args := #[] }]
def about1 : State := aboutOver below0
def p0 : Program := .bare "" "" ""
def e0 : Env := launch0.env 0 0 0
theorem w_frames : about1.frames = Frame.invoking theMethod args0 :: below0 := rfl
set_option maxRecDepth 65536 in
theorem w_args : argsFit about1.vm theMethod args0 = true := by decide +kernel
set_option maxRecDepth 65536 in
theorem w_heap : heapFits about1 = true := by decide +kernel
set_option maxRecDepth 65536 in
theorem w_runnable : about1.curStatus? = some .runnable := by decide +kernel
set_option maxRecDepth 65536 in
theorem w_alone : about1.alone = true := by decide +kernel
set_option maxRecDepth 65536 in
theorem w_named : about1.methodNamed? x = some theMethod := by decide +kernel
set_option maxRecDepth 65536 in
theorem w_hears : about1.hears theMethod below0 = true := by decide +kernel
set_option maxRecDepth 65536 in
theorem w_ripe : about1.ripe theMethod args0 below0 = true := by decide +kernel
theorem w_running : about1.status = .running := rfl
set_option maxRecDepth 65536 in
theorem w_room : about1.hasRoom e0.platform room_1 = true :=
  launch0.hasRoom_least _ room_1 (by decide +kernel) (by decide +kernel) (by decide +kernel) (by decide +kernel) (by decide +kernel) (by decide +kernel)
theorem allAtoms_all (ts : List Jvm.Cond) (a : Array Jvm.Value) (st : Jvm.State) : (allAtoms ts).before a st = ts.all (fun c => c.before a st) := by
  induction ts with
  | nil => rfl
  | cons c t ih =>
    show (Jvm.Cond.and c (allAtoms t)).before a st = _
    rw [Jvm.Cond.before_and, ih, List.all_cons]
def words1 : List Jvm.Cond := Jvm.Cond.code x code maxLocals ret :: tables_1
/-- a 'code' word, met by the world's own term for the bytes: nothing is compared byte by byte -/
theorem code_word {y : MethodName} {bytes : ByteArray} {mx : Nat} {rt : Option FieldType} {a : Array Value} {s : State} {m : MethodId} {meth : Method} {c : Code} (h1 : s.methodNamed? y = some m) (h2 : s.vm.method? m = some meth) (h3 : meth.code = some c) (h4 : c.code = bytes)
    (h5 : (c.maxLocals == mx && c.exceptionTable.isEmpty && decide (c.maxStack ≤ mostOperands) && decide (meth.sig.returnType = rt) && !meth.locks && decide (parseMethodDescriptor y.desc = some meth.sig)) = true) : (Jvm.Cond.code y bytes mx rt).before a s = true := by
  simp only [Bool.and_eq_true, beq_iff_eq, Bool.not_eq_true', decide_eq_true_eq] at h5
  obtain ⟨⟨⟨⟨⟨g1, g2⟩, g3⟩, g4⟩, g5⟩, g6⟩ := h5
  simp [Cond.before, Cond.holds, Cond.value, h1, h2, h3, h4, g1, g2, g3, g4, g5, g6]
def isCode : Jvm.Cond → Bool
  | .code _ _ _ _ => true
  | _ => false
theorem all_split {L : List Jvm.Cond} {P : Jvm.Cond → Bool} (h1 : L.all (fun c => isCode c || P c) = true) (h2 : ∀ c ∈ L.filter isCode, P c = true) : L.all P = true := by
  refine List.all_eq_true.mpr fun c hc => ?_
  have h := List.all_eq_true.mp h1 c hc
  rcases Bool.eq_false_or_eq_true (isCode c) with hi | hi
  · exact h2 c (List.mem_filter.mpr ⟨hc, hi⟩)
  · simpa [hi] using h
set_option maxRecDepth 65536 in
theorem w_c0 : (Jvm.Cond.code x code maxLocals ret).before args0 about1 = true := code_word (m := ⟨1, 3⟩) (meth := k1m3) (c := k1c3) (by decide +kernel) rfl rfl rfl (by decide +kernel)
set_option maxRecDepth 65536 in
theorem w_c1 : (Jvm.Cond.code ({ cls := "com/example/occhio/occhio/events/Words", name := "firstByte", desc := "(JB)I" } : Jvm.MethodName) prog_23_method_4_code (7 : Nat) (Option.some Jvm.ClassFile.FieldType.int)).before args0 about1 = true := code_word (m := ⟨2, 1⟩) (meth := k2m1) (c := k2c1) (by decide +kernel) rfl rfl rfl (by decide +kernel)
set_option maxRecDepth 65536 in
theorem w_c2 : (Jvm.Cond.code ({ cls := "com/example/occhio/occhio/events/WordsFirstBytePinLaw", name := "ref", desc := "(JI)I" } : Jvm.MethodName) method_3_code (3 : Nat) (Option.some Jvm.ClassFile.FieldType.int)).before args0 about1 = true := code_word (m := ⟨1, 2⟩) (meth := k1m2) (c := k1c2) (by decide +kernel) rfl rfl rfl (by decide +kernel)
set_option maxRecDepth 65536 in
theorem w_c3 : (Jvm.Cond.code ({ cls := "com/example/occhio/occhio/events/WordsFirstBytePinLaw", name := "byteAt", desc := "(JI)I" } : Jvm.MethodName) method_2_code (3 : Nat) (Option.some Jvm.ClassFile.FieldType.int)).before args0 about1 = true := code_word (m := ⟨1, 1⟩) (meth := k1m1) (c := k1c1) (by decide +kernel) rfl rfl rfl (by decide +kernel)
set_option maxRecDepth 65536 in
theorem w_c4 : (Jvm.Cond.code ({ cls := "java/lang/Long", name := "numberOfTrailingZeros", desc := "(J)I" } : Jvm.MethodName) jdk_35_method_49_code (3 : Nat) (Option.some Jvm.ClassFile.FieldType.int)).before args0 about1 = true := code_word (m := ⟨8, 0⟩) (meth := k8m0) (c := k8c0) (by decide +kernel) rfl rfl rfl (by decide +kernel)
set_option maxRecDepth 65536 in
theorem w_c5 : (Jvm.Cond.code ({ cls := "java/lang/Integer", name := "numberOfTrailingZeros", desc := "(I)I" } : Jvm.MethodName) jdk_33_method_48_code (2 : Nat) (Option.some Jvm.ClassFile.FieldType.int)).before args0 about1 = true := code_word (m := ⟨9, 0⟩) (meth := k9m0) (c := k9c0) (by decide +kernel) rfl rfl rfl (by decide +kernel)
def codes1 : List Jvm.Cond := [Jvm.Cond.code x code maxLocals ret, Jvm.Cond.code ({ cls := "com/example/occhio/occhio/events/Words", name := "firstByte", desc := "(JB)I" } : Jvm.MethodName) prog_23_method_4_code (7 : Nat) (Option.some Jvm.ClassFile.FieldType.int), Jvm.Cond.code ({ cls := "com/example/occhio/occhio/events/WordsFirstBytePinLaw", name := "ref", desc := "(JI)I" } : Jvm.MethodName) method_3_code (3 : Nat) (Option.some Jvm.ClassFile.FieldType.int), Jvm.Cond.code ({ cls := "com/example/occhio/occhio/events/WordsFirstBytePinLaw", name := "byteAt", desc := "(JI)I" } : Jvm.MethodName) method_2_code (3 : Nat) (Option.some Jvm.ClassFile.FieldType.int), Jvm.Cond.code ({ cls := "java/lang/Long", name := "numberOfTrailingZeros", desc := "(J)I" } : Jvm.MethodName) jdk_35_method_49_code (3 : Nat) (Option.some Jvm.ClassFile.FieldType.int), Jvm.Cond.code ({ cls := "java/lang/Integer", name := "numberOfTrailingZeros", desc := "(I)I" } : Jvm.MethodName) jdk_33_method_48_code (2 : Nat) (Option.some Jvm.ClassFile.FieldType.int)]
set_option maxRecDepth 65536 in
theorem codes_eq : words1.filter isCode = codes1 := rfl
theorem w_codes : ∀ c ∈ words1.filter isCode, c.before args0 about1 = true := by
  rw [codes_eq]
  intro c hc
  simp only [codes1, List.mem_cons, List.not_mem_nil, or_false] at hc
  rcases hc with rfl | rfl | rfl | rfl | rfl | rfl
  · exact w_c0
  · exact w_c1
  · exact w_c2
  · exact w_c3
  · exact w_c4
  · exact w_c5
set_option maxRecDepth 65536 in
theorem w_t1 : (words1.take 24).all (fun c => isCode c || c.before args0 about1) = true := by decide +kernel
set_option maxRecDepth 65536 in
theorem w_t2 : (words1.drop 24).all (fun c => isCode c || c.before args0 about1) = true := by decide +kernel
theorem w_tables : (allAtoms (Jvm.Cond.code x code maxLocals ret :: tables_1)).before args0 about1 = true := by
  rw [allAtoms_all]
  show words1.all (fun c => c.before args0 about1) = true
  refine all_split ?_ w_codes
  rw [← List.take_append_drop 24 words1, List.all_append, w_t1, w_t2]
  rfl
set_option maxRecDepth 65536 in
theorem w_case : (Jvm.Cond.and given_1 narrow_1).before args0 about1 = true := by decide +kernel
theorem w_applies : (headSpec (Jvm.Cond.code x code maxLocals ret :: tables_1) room_1).applies x e0.platform about1 = true :=
  (Spec.applies_iff w_frames).mpr ⟨w_running, w_runnable, w_alone, w_named, w_hears, w_ripe, w_room, w_tables⟩
theorem atStart : AtStart classFile x code maxLocals ret World_1 tables_1 room_1 Calls_1 rest_1 Pre_1 launch0 p0 e0 about1 theMethod args0 below0 :=
  ⟨lists_1, trivial, launch0.admits_env _ _ _, launch0.least_env, fairChoices_fair.cas, fairChoices_fair.clock, w_frames, w_args, w_heap, w_applies, trivial, trivial, w_case⟩
end start1
theorem witness_1 : WitnessClaimed_1 := ⟨start1.p0, start1.e0, start1.about1, start1.theMethod, start1.args0, start1.below0, start1.atStart⟩
end Jvm.Pilot.@@N@@
