import JvmDerived
import JvmDerived.Pilot.@@N@@Statement
import JvmDerived.Pilot.@@N@@Code
set_option linter.unusedVariables false
set_option linter.unusedSimpArgs false
namespace Jvm.OwnKit
open Sem ClassFile Op Lib Jvm.Stand Jvm.Free Jvm.LawKit Jvm.RoadKit
section OwnKit
set_option maxHeartbeats 4000000
variable {p : Program} {l : Launch} {e : Env} {R : Room} {s : State} {m : MethodId} {args : Array Value} {below : List Frame} {meth : Method} {c : Code} {Z : State} {own : String} {bytes : ByteArray} {maxL : Nat} {ret : Option FieldType} {n0 : Nat} {s₀ : State} {h : Heap} {k j pc : Nat} {L : Array Slot} {S : List Value} {a0 : Array Value}
/-- where a walk stands -/
def Go (p : Program) (l : Launch) (e : Env) (R : Room) (s : State) (m : MethodId) (args : Array Value) (below : List Frame) (meth : Method) (c : Code) (Z : State) (own : String) (bytes : ByteArray) (maxL : Nat) (ret : Option FieldType) (n0 : Nat) (s₀ : State) (h : Heap) (k j pc : Nat) (L : Array Slot) (S : List Value) : Prop :=
  (p.tables.exec = Jvm.exec ∧ c.code = bytes ∧ c.maxLocals = maxL ∧ Z.Warmed39 s.vm ∧ s.vm.findClass own = some m.cls ∧ meth.sig.returnType = ret ∧ meth.locks = false ∧ n0 ≤ s.heap.size) ∧
  ∃ (T : State) (locs : List Loc), Stand p l e R s m args below meth c T locs k j ∧ T.heap = h ∧ Fr n0 locs ∧ ∀ t, Steps p.tables e below (T.setTop (mkF m pc L S)) t → Steps p.tables e below s₀ t
/-- how a walk ends -/
def Fini (p : Program) (e : Env) (below : List Frame) (s s₀ : State) (n0 kc js : Nat) (Q : Option Value → Heap → Prop) : Prop :=
  ∃ s₂ o, Steps p.tables e below s₀ s₂ ∧ s₂.status = .running ∧ Ended s₂ below o ∧ ∃ v L, o = .returned v ∧ (Q v s₂.heap ∧ Fr n0 L) ∧ FrameEnd s o s₂ L kc js
/-- a body's contract at one heap and these arguments -/
def Con (l : Launch) (y : MethodName) (bytes : ByteArray) (maxL : Nat) (ret : Option FieldType) (ws : List Cond) (rm : Room) (kc js : Nat) (Z : State) (as' : Array Value) (h0 : Heap) (n0 : Nat) (Q : Option Value → Heap → Prop) : Prop :=
  MetFree l y (head1 (Cond.code y bytes maxL ret :: ws) rm) (fun a U => a = as' ∧ Z.Warmed39 U.vm ∧ U.heap = h0) (fun _ _ _ _ _ => True) (fun _ U o U' => ∃ v L, o = .returned v ∧ (Q v U'.heap ∧ Fr n0 L) ∧ FrameEnd U o U' L kc js)
theorem Con.of {y : MethodName} {ws : List Cond} {rm : Room} {kc js : Nat} {as' : Array Value} {h0 : Heap} {L0 : Array Slot} {Q : Option Value → Heap → Prop} (hpl : plainFor y = true) (hn : n0 ≤ h0.size) (hef : ∀ m, entryFrame m as' maxL = mkF m 0 L0 [])
    (body : ∀ (p : Program) (e : Env) (s : State) (m : MethodId) (below : List Frame) (meth : Method) (c : Code) (s₀ : State), meth.name = y.name → Go p l e rm s m as' below meth c Z y.cls bytes maxL ret n0 s₀ h0 0 0 0 L0 [] → Fini p e below s s₀ n0 kc js Q) : Con l y bytes maxL ret ws rm kc js Z as' h0 n0 Q := by
  refine MetFree.of_bodySF hpl hisR ?_
  intro p e s m args below meth c s₁ Bd hml0 hP hK
  obtain ⟨rfl, hZ, hh⟩ := hP
  have hx := Bd.exec
  have X0 : Stand p l e rm s m args below meth c s₁ [] 0 0 := Stand.of_body Bd
  exact body p e s m below meth c _ (name_of_methodNamed Bd.named Bd.method).1 ⟨⟨hx, Bd.bytes, hml0, hZ, findClass_of_methodNamed Bd.named, Bd.returns, Bd.notSynchronized, by rw [hh]; exact hn⟩, s₁, [], X0, by rw [← hh, Bd.state]; rfl, Fr.nil n0, fun t k => castTop (hef m) k⟩
/-- the same contract with a weaker word -/
theorem Fini.mono {kc js : Nat} {Q Q' : Option Value → Heap → Prop} (F : Fini p e below s s₀ n0 kc js Q) (hq : ∀ v h, Q v h → Q' v h) : Fini p e below s s₀ n0 kc js Q' := by
  obtain ⟨s₂, o, a1, a2, a3, v, L, a4, ⟨a5, a6⟩, a7⟩ := F
  exact ⟨s₂, o, a1, a2, a3, v, L, a4, ⟨hq _ _ a5, a6⟩, a7⟩
theorem Go.step {pc' : Nat} {L' : Array Slot} {S' : List Value} (G : Go p l e R s m args below meth c Z own bytes maxL ret n0 s₀ h k j pc L S) (f : ∀ T locs, Stand p l e R s m args below meth c T locs k j → T.heap = h → p.tables.exec = Jvm.exec → c.code = bytes → ∀ t, Steps p.tables e below (T.setTop (mkF m pc' L' S')) t → Steps p.tables e below (T.setTop (mkF m pc L S)) t) : Go p l e R s m args below meth c Z own bytes maxL ret n0 s₀ h k j pc' L' S' := by
  obtain ⟨⟨hx, hb, r⟩, T, locs, X, eT, N, st⟩ := G
  exact ⟨⟨hx, hb, r⟩, T, locs, X, eT, N, fun t q => st t (f T locs X eT hx hb t q)⟩
theorem Go.size (G : Go p l e R s m args below meth c Z own bytes maxL ret n0 s₀ h k j pc L S) : n0 ≤ h.size := by
  obtain ⟨⟨_, _, _, _, _, _, _, hn⟩, T, locs, X, eT, N, st⟩ := G
  have q : s.heap.size ≤ T.heap.size := X.same.2.1
  rw [← eT]; exact Nat.le_trans hn q
theorem Go.iadd {x y : Int32} (G : Go p l e R s m args below meth c Z own bytes maxL ret n0 s₀ h k j pc L (.int y :: .int x :: S)) (hd : decode bytes pc = .ok (.iadd, 1))  {pc' : Nat} (hp : pc + 1 = pc' := by rfl) : Go p l e R s m args below meth c Z own bytes maxL ret n0 s₀ h k j pc' L (.int (x + y) :: S) := by
  subst hp; exact G.step fun T locs X eT hx hb t q => XS.iadd X.here hx rfl (Jvm.hb hb hd) rfl  q
theorem Go.isub {x y : Int32} (G : Go p l e R s m args below meth c Z own bytes maxL ret n0 s₀ h k j pc L (.int y :: .int x :: S)) (hd : decode bytes pc = .ok (.isub, 1))  {pc' : Nat} (hp : pc + 1 = pc' := by rfl) : Go p l e R s m args below meth c Z own bytes maxL ret n0 s₀ h k j pc' L (.int (x - y) :: S) := by
  subst hp; exact G.step fun T locs X eT hx hb t q => XS.isub X.here hx rfl (Jvm.hb hb hd) rfl  q
theorem Go.imul {x y : Int32} (G : Go p l e R s m args below meth c Z own bytes maxL ret n0 s₀ h k j pc L (.int y :: .int x :: S)) (hd : decode bytes pc = .ok (.imul, 1))  {pc' : Nat} (hp : pc + 1 = pc' := by rfl) : Go p l e R s m args below meth c Z own bytes maxL ret n0 s₀ h k j pc' L (.int (x * y) :: S) := by
  subst hp; exact G.step fun T locs X eT hx hb t q => XS.imul X.here hx rfl (Jvm.hb hb hd) rfl  q
theorem Go.iand {x y : Int32} (G : Go p l e R s m args below meth c Z own bytes maxL ret n0 s₀ h k j pc L (.int y :: .int x :: S)) (hd : decode bytes pc = .ok (.iand, 1))  {pc' : Nat} (hp : pc + 1 = pc' := by rfl) : Go p l e R s m args below meth c Z own bytes maxL ret n0 s₀ h k j pc' L (.int (x &&& y) :: S) := by
  subst hp; exact G.step fun T locs X eT hx hb t q => XS.iand X.here hx rfl (Jvm.hb hb hd) rfl  q
theorem Go.ior {x y : Int32} (G : Go p l e R s m args below meth c Z own bytes maxL ret n0 s₀ h k j pc L (.int y :: .int x :: S)) (hd : decode bytes pc = .ok (.ior, 1))  {pc' : Nat} (hp : pc + 1 = pc' := by rfl) : Go p l e R s m args below meth c Z own bytes maxL ret n0 s₀ h k j pc' L (.int (x ||| y) :: S) := by
  subst hp; exact G.step fun T locs X eT hx hb t q => XS.ior X.here hx rfl (Jvm.hb hb hd) rfl  q
theorem Go.ixor {x y : Int32} (G : Go p l e R s m args below meth c Z own bytes maxL ret n0 s₀ h k j pc L (.int y :: .int x :: S)) (hd : decode bytes pc = .ok (.ixor, 1))  {pc' : Nat} (hp : pc + 1 = pc' := by rfl) : Go p l e R s m args below meth c Z own bytes maxL ret n0 s₀ h k j pc' L (.int (x ^^^ y) :: S) := by
  subst hp; exact G.step fun T locs X eT hx hb t q => XS.ixor X.here hx rfl (Jvm.hb hb hd) rfl  q
theorem Go.ishl {x y : Int32} (G : Go p l e R s m args below meth c Z own bytes maxL ret n0 s₀ h k j pc L (.int y :: .int x :: S)) (hd : decode bytes pc = .ok (.ishl, 1))  {pc' : Nat} (hp : pc + 1 = pc' := by rfl) : Go p l e R s m args below meth c Z own bytes maxL ret n0 s₀ h k j pc' L (.int (x <<< (y &&& 31)) :: S) := by
  subst hp; exact G.step fun T locs X eT hx hb t q => XS.ishl X.here hx rfl (Jvm.hb hb hd) rfl  q
theorem Go.ishr {x y : Int32} (G : Go p l e R s m args below meth c Z own bytes maxL ret n0 s₀ h k j pc L (.int y :: .int x :: S)) (hd : decode bytes pc = .ok (.ishr, 1))  {pc' : Nat} (hp : pc + 1 = pc' := by rfl) : Go p l e R s m args below meth c Z own bytes maxL ret n0 s₀ h k j pc' L (.int (x >>> (y &&& 31)) :: S) := by
  subst hp; exact G.step fun T locs X eT hx hb t q => XS.ishr X.here hx rfl (Jvm.hb hb hd) rfl  q
theorem Go.iushr {x y : Int32} (G : Go p l e R s m args below meth c Z own bytes maxL ret n0 s₀ h k j pc L (.int y :: .int x :: S)) (hd : decode bytes pc = .ok (.iushr, 1))  {pc' : Nat} (hp : pc + 1 = pc' := by rfl) : Go p l e R s m args below meth c Z own bytes maxL ret n0 s₀ h k j pc' L (.int ((x.toUInt32 >>> (y &&& 31).toUInt32).toInt32) :: S) := by
  subst hp; exact G.step fun T locs X eT hx hb t q => XS.iushr X.here hx rfl (Jvm.hb hb hd) rfl  q
theorem Go.ladd {x y : Int64} (G : Go p l e R s m args below meth c Z own bytes maxL ret n0 s₀ h k j pc L (.long y :: .long x :: S)) (hd : decode bytes pc = .ok (.ladd, 1))  {pc' : Nat} (hp : pc + 1 = pc' := by rfl) : Go p l e R s m args below meth c Z own bytes maxL ret n0 s₀ h k j pc' L (.long (x + y) :: S) := by
  subst hp; exact G.step fun T locs X eT hx hb t q => XS.ladd X.here hx rfl (Jvm.hb hb hd) rfl  q
theorem Go.lsub {x y : Int64} (G : Go p l e R s m args below meth c Z own bytes maxL ret n0 s₀ h k j pc L (.long y :: .long x :: S)) (hd : decode bytes pc = .ok (.lsub, 1))  {pc' : Nat} (hp : pc + 1 = pc' := by rfl) : Go p l e R s m args below meth c Z own bytes maxL ret n0 s₀ h k j pc' L (.long (x - y) :: S) := by
  subst hp; exact G.step fun T locs X eT hx hb t q => XS.lsub X.here hx rfl (Jvm.hb hb hd) rfl  q
theorem Go.lmul {x y : Int64} (G : Go p l e R s m args below meth c Z own bytes maxL ret n0 s₀ h k j pc L (.long y :: .long x :: S)) (hd : decode bytes pc = .ok (.lmul, 1))  {pc' : Nat} (hp : pc + 1 = pc' := by rfl) : Go p l e R s m args below meth c Z own bytes maxL ret n0 s₀ h k j pc' L (.long (x * y) :: S) := by
  subst hp; exact G.step fun T locs X eT hx hb t q => XS.lmul X.here hx rfl (Jvm.hb hb hd) rfl  q
theorem Go.land {x y : Int64} (G : Go p l e R s m args below meth c Z own bytes maxL ret n0 s₀ h k j pc L (.long y :: .long x :: S)) (hd : decode bytes pc = .ok (.land, 1))  {pc' : Nat} (hp : pc + 1 = pc' := by rfl) : Go p l e R s m args below meth c Z own bytes maxL ret n0 s₀ h k j pc' L (.long (x &&& y) :: S) := by
  subst hp; exact G.step fun T locs X eT hx hb t q => XS.land X.here hx rfl (Jvm.hb hb hd) rfl  q
theorem Go.lor {x y : Int64} (G : Go p l e R s m args below meth c Z own bytes maxL ret n0 s₀ h k j pc L (.long y :: .long x :: S)) (hd : decode bytes pc = .ok (.lor, 1))  {pc' : Nat} (hp : pc + 1 = pc' := by rfl) : Go p l e R s m args below meth c Z own bytes maxL ret n0 s₀ h k j pc' L (.long (x ||| y) :: S) := by
  subst hp; exact G.step fun T locs X eT hx hb t q => XS.lor X.here hx rfl (Jvm.hb hb hd) rfl  q
theorem Go.lxor {x y : Int64} (G : Go p l e R s m args below meth c Z own bytes maxL ret n0 s₀ h k j pc L (.long y :: .long x :: S)) (hd : decode bytes pc = .ok (.lxor, 1))  {pc' : Nat} (hp : pc + 1 = pc' := by rfl) : Go p l e R s m args below meth c Z own bytes maxL ret n0 s₀ h k j pc' L (.long (x ^^^ y) :: S) := by
  subst hp; exact G.step fun T locs X eT hx hb t q => XS.lxor X.here hx rfl (Jvm.hb hb hd) rfl  q
theorem Go.lshl {x : Int64} {y : Int32} (G : Go p l e R s m args below meth c Z own bytes maxL ret n0 s₀ h k j pc L (.int y :: .long x :: S)) (hd : decode bytes pc = .ok (.lshl, 1))  {pc' : Nat} (hp : pc + 1 = pc' := by rfl) : Go p l e R s m args below meth c Z own bytes maxL ret n0 s₀ h k j pc' L (.long (x <<< (y &&& 0x3f).toInt64) :: S) := by
  subst hp; exact G.step fun T locs X eT hx hb t q => XS.lshl X.here hx rfl (Jvm.hb hb hd) rfl  q
theorem Go.lshr {x : Int64} {y : Int32} (G : Go p l e R s m args below meth c Z own bytes maxL ret n0 s₀ h k j pc L (.int y :: .long x :: S)) (hd : decode bytes pc = .ok (.lshr, 1))  {pc' : Nat} (hp : pc + 1 = pc' := by rfl) : Go p l e R s m args below meth c Z own bytes maxL ret n0 s₀ h k j pc' L (.long (x >>> (y &&& 0x3f).toInt64) :: S) := by
  subst hp; exact G.step fun T locs X eT hx hb t q => XS.lshr X.here hx rfl (Jvm.hb hb hd) rfl  q
theorem Go.lushr {x : Int64} {y : Int32} (G : Go p l e R s m args below meth c Z own bytes maxL ret n0 s₀ h k j pc L (.int y :: .long x :: S)) (hd : decode bytes pc = .ok (.lushr, 1))  {pc' : Nat} (hp : pc + 1 = pc' := by rfl) : Go p l e R s m args below meth c Z own bytes maxL ret n0 s₀ h k j pc' L (.long ((x.toUInt64 >>> (y &&& 0x3f).toInt64.toUInt64).toInt64) :: S) := by
  subst hp; exact G.step fun T locs X eT hx hb t q => XS.lushr X.here hx rfl (Jvm.hb hb hd) rfl  q
theorem Go.ineg {x : Int32} (G : Go p l e R s m args below meth c Z own bytes maxL ret n0 s₀ h k j pc L (.int x :: S)) (hd : decode bytes pc = .ok (.ineg, 1))  {pc' : Nat} (hp : pc + 1 = pc' := by rfl) : Go p l e R s m args below meth c Z own bytes maxL ret n0 s₀ h k j pc' L (.int (-x) :: S) := by
  subst hp; exact G.step fun T locs X eT hx hb t q => XS.ineg X.here hx rfl (Jvm.hb hb hd) rfl  q
theorem Go.lneg {x : Int64} (G : Go p l e R s m args below meth c Z own bytes maxL ret n0 s₀ h k j pc L (.long x :: S)) (hd : decode bytes pc = .ok (.lneg, 1))  {pc' : Nat} (hp : pc + 1 = pc' := by rfl) : Go p l e R s m args below meth c Z own bytes maxL ret n0 s₀ h k j pc' L (.long (-x) :: S) := by
  subst hp; exact G.step fun T locs X eT hx hb t q => XS.lneg X.here hx rfl (Jvm.hb hb hd) rfl  q
theorem Go.i2l {x : Int32} (G : Go p l e R s m args below meth c Z own bytes maxL ret n0 s₀ h k j pc L (.int x :: S)) (hd : decode bytes pc = .ok (.i2l, 1))  {pc' : Nat} (hp : pc + 1 = pc' := by rfl) : Go p l e R s m args below meth c Z own bytes maxL ret n0 s₀ h k j pc' L (.long (x.toInt64) :: S) := by
  subst hp; exact G.step fun T locs X eT hx hb t q => XS.i2l X.here hx rfl (Jvm.hb hb hd) rfl  q
theorem Go.l2i {x : Int64} (G : Go p l e R s m args below meth c Z own bytes maxL ret n0 s₀ h k j pc L (.long x :: S)) (hd : decode bytes pc = .ok (.l2i, 1))  {pc' : Nat} (hp : pc + 1 = pc' := by rfl) : Go p l e R s m args below meth c Z own bytes maxL ret n0 s₀ h k j pc' L (.int (x.toInt32) :: S) := by
  subst hp; exact G.step fun T locs X eT hx hb t q => XS.l2i X.here hx rfl (Jvm.hb hb hd) rfl  q
theorem Go.i2b {x : Int32} (G : Go p l e R s m args below meth c Z own bytes maxL ret n0 s₀ h k j pc L (.int x :: S)) (hd : decode bytes pc = .ok (.i2b, 1))  {pc' : Nat} (hp : pc + 1 = pc' := by rfl) : Go p l e R s m args below meth c Z own bytes maxL ret n0 s₀ h k j pc' L (.int (x.toInt8.toInt32) :: S) := by
  subst hp; exact G.step fun T locs X eT hx hb t q => XS.i2b X.here hx rfl (Jvm.hb hb hd) rfl  q
theorem Go.i2s {x : Int32} (G : Go p l e R s m args below meth c Z own bytes maxL ret n0 s₀ h k j pc L (.int x :: S)) (hd : decode bytes pc = .ok (.i2s, 1))  {pc' : Nat} (hp : pc + 1 = pc' := by rfl) : Go p l e R s m args below meth c Z own bytes maxL ret n0 s₀ h k j pc' L (.int (x.toInt16.toInt32) :: S) := by
  subst hp; exact G.step fun T locs X eT hx hb t q => XS.i2s X.here hx rfl (Jvm.hb hb hd) rfl  q
theorem Go.i2c {x : Int32} (G : Go p l e R s m args below meth c Z own bytes maxL ret n0 s₀ h k j pc L (.int x :: S)) (hd : decode bytes pc = .ok (.i2c, 1))  {pc' : Nat} (hp : pc + 1 = pc' := by rfl) : Go p l e R s m args below meth c Z own bytes maxL ret n0 s₀ h k j pc' L (.int (x.toUInt32.toUInt16.toUInt32.toInt32) :: S) := by
  subst hp; exact G.step fun T locs X eT hx hb t q => XS.i2c X.here hx rfl (Jvm.hb hb hd) rfl  q
theorem Go.lcmp {x y : Int64} (G : Go p l e R s m args below meth c Z own bytes maxL ret n0 s₀ h k j pc L (.long y :: .long x :: S)) (hd : decode bytes pc = .ok (.lcmp, 1))  {pc' : Nat} (hp : pc + 1 = pc' := by rfl) : Go p l e R s m args below meth c Z own bytes maxL ret n0 s₀ h k j pc' L (.int (Jvm.Free.XT.cmpL x y) :: S) := by
  subst hp; exact G.step fun T locs X eT hx hb t q => Jvm.Free.XT.lcmp X.here hx rfl (Jvm.hb hb hd) rfl  q
theorem Go.idiv {x y : Int32} (G : Go p l e R s m args below meth c Z own bytes maxL ret n0 s₀ h k j pc L (.int y :: .int x :: S)) (hd : decode bytes pc = .ok (.idiv, 1)) (hy : y ≠ 0) {pc' : Nat} (hp : pc + 1 = pc' := by rfl) : Go p l e R s m args below meth c Z own bytes maxL ret n0 s₀ h k j pc' L (.int (x / y) :: S) := by
  subst hp; exact G.step fun T locs X eT hx hb t q => XS.idiv X.here hx rfl (Jvm.hb hb hd) rfl hy q
theorem Go.irem {x y : Int32} (G : Go p l e R s m args below meth c Z own bytes maxL ret n0 s₀ h k j pc L (.int y :: .int x :: S)) (hd : decode bytes pc = .ok (.irem, 1)) (hy : y ≠ 0) {pc' : Nat} (hp : pc + 1 = pc' := by rfl) : Go p l e R s m args below meth c Z own bytes maxL ret n0 s₀ h k j pc' L (.int (x % y) :: S) := by
  subst hp; exact G.step fun T locs X eT hx hb t q => iremM X hx rfl (Jvm.hb hb hd) rfl hy q
theorem Go.lrem {x y : Int64} (G : Go p l e R s m args below meth c Z own bytes maxL ret n0 s₀ h k j pc L (.long y :: .long x :: S)) (hd : decode bytes pc = .ok (.lrem, 1)) (hy : y ≠ 0) {pc' : Nat} (hp : pc + 1 = pc' := by rfl) : Go p l e R s m args below meth c Z own bytes maxL ret n0 s₀ h k j pc' L (.long (x % y) :: S) := by
  subst hp; exact G.step fun T locs X eT hx hb t q => XS.lrem X.here hx rfl (Jvm.hb hb hd) rfl hy (by rw [lrem_mod]; exact q)
theorem Go.iconst {i : Int} (v : Int32) (G : Go p l e R s m args below meth c Z own bytes maxL ret n0 s₀ h k j pc L S) (hd : decode bytes pc = .ok (.iconst i, 1)) (hv : Int32.ofInt i = v := by decide) {pc' : Nat} (hp : pc + 1 = pc' := by rfl) : Go p l e R s m args below meth c Z own bytes maxL ret n0 s₀ h k j pc' L (.int v :: S) := by
  subst hp; exact G.step fun T locs X eT hx hb t q => Jvm.Free.XT.iconstV X.here hx rfl v (Jvm.hb hb hd) hv q
theorem Go.bipush {i : Int} (v : Int32) (G : Go p l e R s m args below meth c Z own bytes maxL ret n0 s₀ h k j pc L S) (hd : decode bytes pc = .ok (.bipush i, 2)) (hv : (Int8.ofInt i).toInt32 = v := by decide) {pc' : Nat} (hp : pc + 2 = pc' := by rfl) : Go p l e R s m args below meth c Z own bytes maxL ret n0 s₀ h k j pc' L (.int v :: S) := by
  subst hp; exact G.step fun T locs X eT hx hb t q => Jvm.Free.XT.bipushV X.here hx rfl v (Jvm.hb hb hd) hv q
theorem Go.sipush {i : Int} (v : Int32) (G : Go p l e R s m args below meth c Z own bytes maxL ret n0 s₀ h k j pc L S) (hd : decode bytes pc = .ok (.sipush i, 3)) (hv : (Int16.ofInt i).toInt32 = v := by decide) {pc' : Nat} (hp : pc + 3 = pc' := by rfl) : Go p l e R s m args below meth c Z own bytes maxL ret n0 s₀ h k j pc' L (.int v :: S) := by
  subst hp; exact G.step fun T locs X eT hx hb t q => Jvm.Free.XT.sipushV X.here hx rfl v (Jvm.hb hb hd) hv q
theorem Go.lconst {i : Fin 2} (v : Int64) (G : Go p l e R s m args below meth c Z own bytes maxL ret n0 s₀ h k j pc L S) (hd : decode bytes pc = .ok (.lconst i, 1)) (hv : Int64.ofNat i = v := by decide) {pc' : Nat} (hp : pc + 1 = pc' := by rfl) : Go p l e R s m args below meth c Z own bytes maxL ret n0 s₀ h k j pc' L (.long v :: S) := by
  subst hp; exact G.step fun T locs X eT hx hb t q => Jvm.Free.XT.lconstV X.here hx rfl v (Jvm.hb hb hd) hv q
theorem Go.aconstNull (G : Go p l e R s m args below meth c Z own bytes maxL ret n0 s₀ h k j pc L S) (hd : decode bytes pc = .ok (.aconst_null, 1)) {pc' : Nat} (hp : pc + 1 = pc' := by rfl) : Go p l e R s m args below meth c Z own bytes maxL ret n0 s₀ h k j pc' L (.null :: S) := by
  subst hp; exact G.step fun T locs X eT hx hb t q => XS.aconstNull X.here hx rfl (Jvm.hb hb hd) q
theorem Go.ldc {i : Nat} {v : Int32} (G : Go p l e R s m args below meth c Z own bytes maxL ret n0 s₀ h k j pc L S) (w : (Cond.constant own i v).before a0 Z = true) (hd : decode bytes pc = .ok (.ldc i, 2)) {pc' : Nat} (hp : pc + 2 = pc' := by rfl) : Go p l e R s m args below meth c Z own bytes maxL ret n0 s₀ h k j pc' L (.int v :: S) := by
  subst hp
  obtain ⟨⟨hx, hb, hm, hZ, ho, r⟩, T, locs, X, eT, N, st⟩ := G
  exact ⟨⟨hx, hb, hm, hZ, ho, r⟩, T, locs, X, eT, N, fun t q => st t (X.ldcInt hx ho (mvT hZ w) (g := mkF m pc L S) rfl (Jvm.hb hb hd) t q)⟩
theorem Go.ldc2 {i : Nat} {v : Int64} (G : Go p l e R s m args below meth c Z own bytes maxL ret n0 s₀ h k j pc L S) (w : (Cond.constantLong own i v).before a0 Z = true) (hd : decode bytes pc = .ok (.ldc2_w i, 3)) {pc' : Nat} (hp : pc + 3 = pc' := by rfl) : Go p l e R s m args below meth c Z own bytes maxL ret n0 s₀ h k j pc' L (.long v :: S) := by
  subst hp
  obtain ⟨⟨hx, hb, hm, hZ, ho, r⟩, T, locs, X, eT, N, st⟩ := G
  exact ⟨⟨hx, hb, hm, hZ, ho, r⟩, T, locs, X, eT, N, fun t q => st t (X.ldc2Long hx ho (mvT hZ w) (g := mkF m pc L S) rfl (Jvm.hb hb hd) t q)⟩
theorem Go.iloadN {i : Fin 4} {v : Int32} (G : Go p l e R s m args below meth c Z own bytes maxL ret n0 s₀ h k j pc L S) (hd : decode bytes pc = .ok (.iload_n i, 1)) (hl : L[i.val]? = some (.val (.int v))) {pc' : Nat} (hp : pc + 1 = pc' := by rfl) : Go p l e R s m args below meth c Z own bytes maxL ret n0 s₀ h k j pc' L (.int v :: S) := by
  subst hp; exact G.step fun T locs X eT hx hb t q => XS.iloadN X.here hx rfl (Jvm.hb hb hd) hl q
theorem Go.iload {i : Nat} {v : Int32} (G : Go p l e R s m args below meth c Z own bytes maxL ret n0 s₀ h k j pc L S) (hd : decode bytes pc = .ok (.iload i, 2)) (hl : L[i]? = some (.val (.int v))) {pc' : Nat} (hp : pc + 2 = pc' := by rfl) : Go p l e R s m args below meth c Z own bytes maxL ret n0 s₀ h k j pc' L (.int v :: S) := by
  subst hp; exact G.step fun T locs X eT hx hb t q => XS.iload X.here hx rfl (Jvm.hb hb hd) hl q
theorem Go.lloadN {i : Fin 4} {v : Int64} (G : Go p l e R s m args below meth c Z own bytes maxL ret n0 s₀ h k j pc L S) (hd : decode bytes pc = .ok (.lload_n i, 1)) (hl : L[i.val]? = some (.val (.long v))) {pc' : Nat} (hp : pc + 1 = pc' := by rfl) : Go p l e R s m args below meth c Z own bytes maxL ret n0 s₀ h k j pc' L (.long v :: S) := by
  subst hp; exact G.step fun T locs X eT hx hb t q => XS.lloadN X.here hx rfl (Jvm.hb hb hd) hl q
theorem Go.lload {i : Nat} {v : Int64} (G : Go p l e R s m args below meth c Z own bytes maxL ret n0 s₀ h k j pc L S) (hd : decode bytes pc = .ok (.lload i, 2)) (hl : L[i]? = some (.val (.long v))) {pc' : Nat} (hp : pc + 2 = pc' := by rfl) : Go p l e R s m args below meth c Z own bytes maxL ret n0 s₀ h k j pc' L (.long v :: S) := by
  subst hp; exact G.step fun T locs X eT hx hb t q => XS.lload X.here hx rfl (Jvm.hb hb hd) hl q
theorem Go.aloadN {i : Fin 4} {v : Value} (G : Go p l e R s m args below meth c Z own bytes maxL ret n0 s₀ h k j pc L S) (hd : decode bytes pc = .ok (.aload_n i, 1)) (hl : L[i.val]? = some (.val v)) (hv : v.isRef = true := by rfl) {pc' : Nat} (hp : pc + 1 = pc' := by rfl) : Go p l e R s m args below meth c Z own bytes maxL ret n0 s₀ h k j pc' L (v :: S) := by
  subst hp; exact G.step fun T locs X eT hx hb t q => XS.aloadN X.here hx rfl (Jvm.hb hb hd) hl hv q
theorem Go.aload {i : Nat} {v : Value} (G : Go p l e R s m args below meth c Z own bytes maxL ret n0 s₀ h k j pc L S) (hd : decode bytes pc = .ok (.aload i, 2)) (hl : L[i]? = some (.val v)) (hv : v.isRef = true := by rfl) {pc' : Nat} (hp : pc + 2 = pc' := by rfl) : Go p l e R s m args below meth c Z own bytes maxL ret n0 s₀ h k j pc' L (v :: S) := by
  subst hp; exact G.step fun T locs X eT hx hb t q => XS.aload X.here hx rfl (Jvm.hb hb hd) hl hv q
theorem Go.istoreN {i : Fin 4} {x : Int32} {L' : Array Slot} (G : Go p l e R s m args below meth c Z own bytes maxL ret n0 s₀ h k j pc L (.int x :: S)) (hd : decode bytes pc = .ok (.istore_n i, 1)) (hl : storeLocals L i.val (.int x) = some L') {pc' : Nat} (hp : pc + 1 = pc' := by rfl) : Go p l e R s m args below meth c Z own bytes maxL ret n0 s₀ h k j pc' L' S := by
  subst hp; exact G.step fun T locs X eT hx hb t q => XS.istoreN X.here hx rfl (Jvm.hb hb hd) rfl hl q
theorem Go.istore {i : Nat} {x : Int32} {L' : Array Slot} (G : Go p l e R s m args below meth c Z own bytes maxL ret n0 s₀ h k j pc L (.int x :: S)) (hd : decode bytes pc = .ok (.istore i, 2)) (hl : storeLocals L i (.int x) = some L') {pc' : Nat} (hp : pc + 2 = pc' := by rfl) : Go p l e R s m args below meth c Z own bytes maxL ret n0 s₀ h k j pc' L' S := by
  subst hp; exact G.step fun T locs X eT hx hb t q => XS.istore X.here hx rfl (Jvm.hb hb hd) rfl hl q
theorem Go.lstoreN {i : Fin 4} {x : Int64} {L' : Array Slot} (G : Go p l e R s m args below meth c Z own bytes maxL ret n0 s₀ h k j pc L (.long x :: S)) (hd : decode bytes pc = .ok (.lstore_n i, 1)) (hl : storeLocals L i.val (.long x) = some L') {pc' : Nat} (hp : pc + 1 = pc' := by rfl) : Go p l e R s m args below meth c Z own bytes maxL ret n0 s₀ h k j pc' L' S := by
  subst hp; exact G.step fun T locs X eT hx hb t q => XS.lstoreN X.here hx rfl (Jvm.hb hb hd) rfl hl q
theorem Go.lstore {i : Nat} {x : Int64} {L' : Array Slot} (G : Go p l e R s m args below meth c Z own bytes maxL ret n0 s₀ h k j pc L (.long x :: S)) (hd : decode bytes pc = .ok (.lstore i, 2)) (hl : storeLocals L i (.long x) = some L') {pc' : Nat} (hp : pc + 2 = pc' := by rfl) : Go p l e R s m args below meth c Z own bytes maxL ret n0 s₀ h k j pc' L' S := by
  subst hp; exact G.step fun T locs X eT hx hb t q => XS.lstore X.here hx rfl (Jvm.hb hb hd) rfl hl q
theorem Go.astoreN {i : Fin 4} {x : Value} {L' : Array Slot} (G : Go p l e R s m args below meth c Z own bytes maxL ret n0 s₀ h k j pc L (x :: S)) (hd : decode bytes pc = .ok (.astore_n i, 1)) (hl : storeLocals L i.val x = some L') (hv : x.isRef = true := by rfl) {pc' : Nat} (hp : pc + 1 = pc' := by rfl) : Go p l e R s m args below meth c Z own bytes maxL ret n0 s₀ h k j pc' L' S := by
  subst hp; exact G.step fun T locs X eT hx hb t q => XS.astoreN X.here hx rfl (Jvm.hb hb hd) rfl hv hl q
theorem Go.astore {i : Nat} {x : Value} {L' : Array Slot} (G : Go p l e R s m args below meth c Z own bytes maxL ret n0 s₀ h k j pc L (x :: S)) (hd : decode bytes pc = .ok (.astore i, 2)) (hl : storeLocals L i x = some L') (hv : x.isRef = true := by rfl) {pc' : Nat} (hp : pc + 2 = pc' := by rfl) : Go p l e R s m args below meth c Z own bytes maxL ret n0 s₀ h k j pc' L' S := by
  subst hp; exact G.step fun T locs X eT hx hb t q => XS.astore X.here hx rfl (Jvm.hb hb hd) rfl hv hl q
theorem Go.iinc {i : Nat} {cst : Int} {x : Int32} {L' : Array Slot} (v : Int32) (G : Go p l e R s m args below meth c Z own bytes maxL ret n0 s₀ h k j pc L S) (hd : decode bytes pc = .ok (.iinc i cst, 3)) (hl : L[i]? = some (.val (.int x))) (hl' : storeLocals L i (.int (x + v)) = some L') (hv : Int32.ofInt cst = v := by decide) {pc' : Nat} (hp : pc + 3 = pc' := by rfl) : Go p l e R s m args below meth c Z own bytes maxL ret n0 s₀ h k j pc' L' S := by
  subst hp; exact G.step fun T locs X eT hx hb t q => Jvm.Free.XT.iincV X.here hx rfl v (Jvm.hb hb hd) hv hl hl' q
theorem Go.dup {x : Value} (G : Go p l e R s m args below meth c Z own bytes maxL ret n0 s₀ h k j pc L (x :: S)) (hd : decode bytes pc = .ok (.dup, 1)) (hc : x.category = 1 := by rfl) {pc' : Nat} (hp : pc + 1 = pc' := by rfl) : Go p l e R s m args below meth c Z own bytes maxL ret n0 s₀ h k j pc' L (x :: x :: S) := by
  subst hp; exact G.step fun T locs X eT hx hb t q => XS.dup X.here hx rfl (Jvm.hb hb hd) rfl hc q
theorem Go.pop {x : Value} (G : Go p l e R s m args below meth c Z own bytes maxL ret n0 s₀ h k j pc L (x :: S)) (hd : decode bytes pc = .ok (.pop, 1)) (hc : x.category = 1 := by rfl) {pc' : Nat} (hp : pc + 1 = pc' := by rfl) : Go p l e R s m args below meth c Z own bytes maxL ret n0 s₀ h k j pc' L S := by
  subst hp; exact G.step fun T locs X eT hx hb t q => XS.pop X.here hx rfl (Jvm.hb hb hd) rfl hc q
theorem Go.dupX1 {x y : Value} (G : Go p l e R s m args below meth c Z own bytes maxL ret n0 s₀ h k j pc L (x :: y :: S)) (hd : decode bytes pc = .ok (.dup_x1, 1)) (hc : x.category = 1 := by rfl) (hc2 : y.category = 1 := by rfl) {pc' : Nat} (hp : pc + 1 = pc' := by rfl) : Go p l e R s m args below meth c Z own bytes maxL ret n0 s₀ h k j pc' L (x :: y :: x :: S) := by
  subst hp; exact G.step fun T locs X eT hx hb t q => XS.dupX1 X.here hx rfl (Jvm.hb hb hd) rfl hc hc2 q
theorem Go.dup2 {x y : Value} (G : Go p l e R s m args below meth c Z own bytes maxL ret n0 s₀ h k j pc L (x :: y :: S)) (hd : decode bytes pc = .ok (.dup2, 1)) (hc : x.category = 1 := by rfl) (hc2 : y.category = 1 := by rfl) {pc' : Nat} (hp : pc + 1 = pc' := by rfl) : Go p l e R s m args below meth c Z own bytes maxL ret n0 s₀ h k j pc' L (x :: y :: x :: y :: S) := by
  subst hp; exact G.step fun T locs X eT hx hb t q => Jvm.Free.XT.dup2 X.here hx rfl (Jvm.hb hb hd) rfl hc hc2 q
theorem Go.goto {o : Int} (G : Go p l e R s m args below meth c Z own bytes maxL ret n0 s₀ h k j pc L S) (hd : decode bytes pc = .ok (.goto o, 3)) (pc' : Nat) (ho : 0 ≤ (pc : Int) + o := by decide) (hp : ((pc : Int) + o).toNat = pc' := by decide) : Go p l e R s m args below meth c Z own bytes maxL ret n0 s₀ h k j pc' L S := by
  exact G.step fun T locs X eT hx hb t q => XS.goto X.here hx rfl (pc0 := pc) (pc' := pc') rfl (Jvm.hb hb hd) ho hp q
theorem Go.ifY {cd : ClassFile.Cond} {o : Int} {x : Int32} (G : Go p l e R s m args below meth c Z own bytes maxL ret n0 s₀ h k j pc L (.int x :: S)) (hd : decode bytes pc = .ok (.ifCond cd o, 3)) (pc' : Nat) (hc : ifCond.holds cd x = true) (ho : 0 ≤ (pc : Int) + o := by decide) (hp : ((pc : Int) + o).toNat = pc' := by decide) : Go p l e R s m args below meth c Z own bytes maxL ret n0 s₀ h k j pc' L S := by
  exact G.step fun T locs X eT hx hb t q => XS.ifYes X.here hx rfl (pc0 := pc) (pc' := pc') rfl (Jvm.hb hb hd) rfl hc ho hp q
theorem Go.ifN {cd : ClassFile.Cond} {o : Int} {x : Int32} (G : Go p l e R s m args below meth c Z own bytes maxL ret n0 s₀ h k j pc L (.int x :: S)) (hd : decode bytes pc = .ok (.ifCond cd o, 3)) (pc' : Nat) (hc : ifCond.holds cd x = false) (hp : pc + 3 = pc' := by rfl) : Go p l e R s m args below meth c Z own bytes maxL ret n0 s₀ h k j pc' L S := by
  subst hp; exact G.step fun T locs X eT hx hb t q => XS.ifNo X.here hx rfl (Jvm.hb hb hd) rfl hc q
theorem Go.icmpY {cd : ClassFile.Cond} {o : Int} {x y : Int32} (G : Go p l e R s m args below meth c Z own bytes maxL ret n0 s₀ h k j pc L (.int y :: .int x :: S)) (hd : decode bytes pc = .ok (.if_icmp cd o, 3)) (pc' : Nat) (hc : if_icmp.holds cd x y = true) (ho : 0 ≤ (pc : Int) + o := by decide) (hp : ((pc : Int) + o).toNat = pc' := by decide) : Go p l e R s m args below meth c Z own bytes maxL ret n0 s₀ h k j pc' L S := by
  exact G.step fun T locs X eT hx hb t q => XS.icmpYes X.here hx rfl (pc0 := pc) (pc' := pc') rfl (Jvm.hb hb hd) rfl hc ho hp q
theorem Go.icmpN {cd : ClassFile.Cond} {o : Int} {x y : Int32} (G : Go p l e R s m args below meth c Z own bytes maxL ret n0 s₀ h k j pc L (.int y :: .int x :: S)) (hd : decode bytes pc = .ok (.if_icmp cd o, 3)) (pc' : Nat) (hc : if_icmp.holds cd x y = false) (hp : pc + 3 = pc' := by rfl) : Go p l e R s m args below meth c Z own bytes maxL ret n0 s₀ h k j pc' L S := by
  subst hp; exact G.step fun T locs X eT hx hb t q => XS.icmpNo X.here hx rfl (Jvm.hb hb hd) rfl hc q
theorem Go.ifnullY {o : Int} (G : Go p l e R s m args below meth c Z own bytes maxL ret n0 s₀ h k j pc L (.null :: S)) (hd : decode bytes pc = .ok (.ifnull o, 3)) (pc' : Nat) (ho : 0 ≤ (pc : Int) + o := by decide) (hp : ((pc : Int) + o).toNat = pc' := by decide) : Go p l e R s m args below meth c Z own bytes maxL ret n0 s₀ h k j pc' L S := by
  exact G.step fun T locs X eT hx hb t q => XS.ifnullYes X.here hx rfl (pc0 := pc) (pc' := pc') rfl (Jvm.hb hb hd) rfl ho hp q
theorem Go.ifnullN {o : Int} {b : Addr} (G : Go p l e R s m args below meth c Z own bytes maxL ret n0 s₀ h k j pc L (.ref b :: S)) (hd : decode bytes pc = .ok (.ifnull o, 3)) (pc' : Nat) (hp : pc + 3 = pc' := by rfl) : Go p l e R s m args below meth c Z own bytes maxL ret n0 s₀ h k j pc' L S := by
  subst hp; exact G.step fun T locs X eT hx hb t q => XS.ifnullNo X.here hx rfl (Jvm.hb hb hd) rfl q
theorem Go.ifnonnullY {o : Int} {b : Addr} (G : Go p l e R s m args below meth c Z own bytes maxL ret n0 s₀ h k j pc L (.ref b :: S)) (hd : decode bytes pc = .ok (.ifnonnull o, 3)) (pc' : Nat) (ho : 0 ≤ (pc : Int) + o := by decide) (hp : ((pc : Int) + o).toNat = pc' := by decide) : Go p l e R s m args below meth c Z own bytes maxL ret n0 s₀ h k j pc' L S := by
  exact G.step fun T locs X eT hx hb t q => XS.ifnonnullYes X.here hx rfl (pc0 := pc) (pc' := pc') rfl (Jvm.hb hb hd) rfl ho hp q
theorem Go.ifnonnullN {o : Int} (G : Go p l e R s m args below meth c Z own bytes maxL ret n0 s₀ h k j pc L (.null :: S)) (hd : decode bytes pc = .ok (.ifnonnull o, 3)) (pc' : Nat) (hp : pc + 3 = pc' := by rfl) : Go p l e R s m args below meth c Z own bytes maxL ret n0 s₀ h k j pc' L S := by
  subst hp; exact G.step fun T locs X eT hx hb t q => XS.ifnonnullNo X.here hx rfl (Jvm.hb hb hd) rfl q
theorem Go.out {w : Value} {t : FieldType} {i : Instr} {kc js : Nat} {Q : Option Value → Heap → Prop} (G : Go p l e R s m args below meth c Z own bytes maxL ret n0 s₀ h k j pc L (w :: S)) (hr : ret = some t) (hn : narrow t w = w)
    (hi : (i = .ireturn ∧ (t = .int ∨ t = .boolean ∨ t = .byte ∨ t = .char ∨ t = .short) ∧ ∃ z, w = .int z) ∨ (i = .lreturn ∧ t = .long ∧ ∃ z, w = .long z) ∨ (i = .dreturn ∧ t = .double ∧ ∃ z, w = .double z) ∨ (i = .freturn ∧ t = .float ∧ ∃ z, w = .float z) ∨ (i = .areturn ∧ t.isReference = true ∧ w.isRef = true))
    (hd : decode bytes pc = .ok (i, 1)) (hQ : Q (some w) h) (hk : k ≤ kc) (hj : j ≤ js) : Fini p e below s s₀ n0 kc js Q := by
  obtain ⟨⟨hx, hb, hm, hZ, ho, hret, hlk, hn0⟩, T, locs, X, eT, N, st⟩ := G
  subst hr
  obtain ⟨fs, hr, hrun, hended, hW, hsame⟩ := X.leave (v := some w) (fun h => by rw [hret] at h; cases h) hlk
  exact ⟨_, _, st _ (retOut X hx hret hn hi (Jvm.hb hb hd) hr), hrun, hended, _, _, rfl, ⟨by show Q _ T.heap; rw [eT]; exact hQ, N⟩, ⟨_, rfl⟩, hW, hsame.mono hk hj⟩
theorem Go.retI {z : Int32} {kc js : Nat} {Q : Option Value → Heap → Prop} (G : Go p l e R s m args below meth c Z own bytes maxL ret n0 s₀ h k j pc L (.int z :: S)) (hd : decode bytes pc = .ok (.ireturn, 1)) (hr : ret = some .int) (hQ : Q (some (.int z)) h) (hk : k ≤ kc := by decide) (hj : j ≤ js := by decide) : Fini p e below s s₀ n0 kc js Q :=
  G.out hr rfl (Or.inl ⟨rfl, Or.inl rfl, z, rfl⟩) hd hQ hk hj
theorem Go.retS {z : Int32} {t : FieldType} {kc js : Nat} {Q : Option Value → Heap → Prop} (G : Go p l e R s m args below meth c Z own bytes maxL ret n0 s₀ h k j pc L (.int z :: S)) (hd : decode bytes pc = .ok (.ireturn, 1)) (hr : ret = some t) (ht : t = .int ∨ t = .boolean ∨ t = .byte ∨ t = .char ∨ t = .short) (hn : narrow t (.int z) = .int z) (hQ : Q (some (.int z)) h) (hk : k ≤ kc := by decide) (hj : j ≤ js := by decide) : Fini p e below s s₀ n0 kc js Q :=
  G.out hr hn (Or.inl ⟨rfl, ht, z, rfl⟩) hd hQ hk hj
theorem Go.retZ {z : Int32} {kc js : Nat} {Q : Option Value → Heap → Prop} (G : Go p l e R s m args below meth c Z own bytes maxL ret n0 s₀ h k j pc L (.int z :: S)) (hd : decode bytes pc = .ok (.ireturn, 1)) (hr : ret = some .boolean) (hn : z = 0 ∨ z = 1) (hQ : Q (some (.int z)) h) (hk : k ≤ kc := by decide) (hj : j ≤ js := by decide) : Fini p e below s s₀ n0 kc js Q :=
  G.out hr (by rcases hn with rfl | rfl <;> rfl) (Or.inl ⟨rfl, Or.inr (Or.inl rfl), z, rfl⟩) hd hQ hk hj
theorem Go.retJ {z : Int64} {kc js : Nat} {Q : Option Value → Heap → Prop} (G : Go p l e R s m args below meth c Z own bytes maxL ret n0 s₀ h k j pc L (.long z :: S)) (hd : decode bytes pc = .ok (.lreturn, 1)) (hr : ret = some .long) (hQ : Q (some (.long z)) h) (hk : k ≤ kc := by decide) (hj : j ≤ js := by decide) : Fini p e below s s₀ n0 kc js Q :=
  G.out hr rfl (Or.inr (Or.inl ⟨rfl, rfl, z, rfl⟩)) hd hQ hk hj
theorem Go.retA {a : Addr} {t : FieldType} {kc js : Nat} {Q : Option Value → Heap → Prop} (G : Go p l e R s m args below meth c Z own bytes maxL ret n0 s₀ h k j pc L (.ref a :: S)) (hd : decode bytes pc = .ok (.areturn, 1)) (hr : ret = some t) (ht : t.isReference = true) (hn : narrow t (.ref a) = .ref a) (hQ : Q (some (.ref a)) h) (hk : k ≤ kc := by decide) (hj : j ≤ js := by decide) : Fini p e below s s₀ n0 kc js Q :=
  G.out hr hn (Or.inr (Or.inr (Or.inr (Or.inr ⟨rfl, ht, rfl⟩)))) hd hQ hk hj
theorem Go.retV {kc js : Nat} {Q : Option Value → Heap → Prop} (G : Go p l e R s m args below meth c Z own bytes maxL ret n0 s₀ h k j pc L []) (hd : decode bytes pc = .ok (.return_, 1)) (hr : ret = none) (hQ : Q none h) (hk : k ≤ kc := by decide) (hj : j ≤ js := by decide) : Fini p e below s s₀ n0 kc js Q := by
  obtain ⟨⟨hx, hb, hm, hZ, ho, hret, hlk, hn0⟩, T, locs, X, eT, N, st⟩ := G
  subst hr
  obtain ⟨fs, hr, hrun, hended, hW, hsame⟩ := X.leave (v := none) (fun _ => rfl) hlk
  exact ⟨_, _, st _ (X.returnOut hx hret (Jvm.hb hb hd) hr), hrun, hended, _, _, rfl, ⟨by show Q _ T.heap; rw [eT]; exact hQ, N⟩, ⟨_, rfl⟩, hW, hsame.mono hk hj⟩
theorem Go.callS {S0 argsL rest : List Value} {y : MethodName} {bytes' : ByteArray} {maxL' : Nat} {ret' r : Option FieldType} {ps : List FieldType} {rm : Room} {index : Nat} {Q : Option Value → Heap → Prop} (G : Go p l e R s m args below meth c Z own bytes maxL ret n0 s₀ h k j pc L S0) (C : Con l y bytes' maxL' ret' [] rm rm.cells rm.slots Z argsL.toArray h n0 Q) (hS : S0 = argsL.reverse ++ rest)
    (w1 : (Cond.methodLink own index y).before a0 Z = true) (w2 : (Cond.static y).before a0 Z = true) (w3 : (Cond.initialized y.cls).before a0 Z = true) (w4 : (Cond.code y bytes' maxL' ret').before a0 Z = true) (hy : y.cls ≠ "java/lang/invoke/MethodHandle" ∧ y.cls ≠ "java/lang/invoke/VarHandle")
    (hd : decode bytes pc = .ok (.invokestatic index, 3)) (hpd : parseMethodDescriptor y.desc = some ⟨ps, r⟩) (hl : argsL.length = ps.length) {W : Nat} (hW : (rest.map fun v => v.category).sum = W) (hL : L.size = maxL) (hf : rm.frames + 1 ≤ R.frames) (hlo : W + (maxL' + 11) + rm.locals ≤ R.locals) (hc : k + rm.cells ≤ R.cells) (hs : j + rm.slots ≤ R.slots) {pc' k' j' : Nat} (hp : pc + 3 = pc') (hk' : k + rm.cells = k') (hj' : j + rm.slots = j') :
    ∃ v h', Q v h' ∧ ∀ S', v.toList ++ rest = S' → Go p l e R s m args below meth c Z own bytes maxL ret n0 s₀ h' k' j' pc' L S' := by
  subst hp hk' hj' hS
  obtain ⟨⟨hx, hb, hm, hZ, ho, hret, hlk, hn0⟩, T, locs, X, eT, N, st⟩ := G
  obtain ⟨v, _, ⟨T', L', k', n'⟩, -, X', ⟨Lc, hQ, l', y', z'⟩, st'⟩ := Jvm.LawKit.callS X hx (y := y) ho (mvT hZ w1) (mvT hZ w2) (mvT hZ w3) (mvT hZ w4) hy (backOf (W := W) (R := R) (rm := rm) (Q := fun v h L => Q v h ∧ Fr n0 L) C hZ w4 w3 hf hlo) (g := mkF m pc L (argsL.reverse ++ rest)) rfl (by rw [hm]; exact hL) (argsL := argsL) (rest := rest) (lenOf hpd hl) rfl (by show 2 * 0 + _ ≤ _; omega) (Jvm.hb hb hd) (fun _ _ => ⟨rfl, eT, hc, hs⟩)
  dsimp only [Pt.U, Pt.locs, Pt.cells, Pt.slots] at X' l' y' z' st' hQ
  subst l' y' z'
  refine ⟨v, T'.heap, hQ.1, fun S' e => ?_⟩
  subst e
  exact ⟨⟨hx, hb, hm, hZ, ho, hret, hlk, hn0⟩, T', _, X', rfl, Fr.app N hQ.2, fun t q => st t (st' t q)⟩
theorem Go.callI {S0 argsL rest : List Value} {y : MethodName} {bytes' : ByteArray} {maxL' : Nat} {r : Option FieldType} {ps : List FieldType} {rm : Room} {index : Nat} {Q : Option Value → Heap → Prop} {a : Addr} (G : Go p l e R s m args below meth c Z own bytes maxL ret n0 s₀ h k j pc L S0) (C : Con l y bytes' maxL' none [] rm rm.cells rm.slots Z (.ref a :: argsL).toArray h n0 Q) (hS : S0 = argsL.reverse ++ .ref a :: rest) (hyn : y.name = "<init>")
    (w1 : (Cond.methodLink own index y).before a0 Z = true) (w2 : (Cond.instanceMethod y).before a0 Z = true) (w3 : (Cond.initialized y.cls).before a0 Z = true) (w4 : (Cond.code y bytes' maxL' none).before a0 Z = true) (hy : y.cls ≠ "java/lang/invoke/MethodHandle" ∧ y.cls ≠ "java/lang/invoke/VarHandle")
    (hd : decode bytes pc = .ok (.invokespecial index, 3)) (hpd : parseMethodDescriptor y.desc = some ⟨ps, r⟩) (hl : argsL.length = ps.length) {W : Nat} (hW : (rest.map fun v => v.category).sum = W) (hL : L.size = maxL) (hf : rm.frames + 1 ≤ R.frames) (hlo : W + (maxL' + 11) + rm.locals ≤ R.locals) (hc : k + rm.cells ≤ R.cells) (hs : j + rm.slots ≤ R.slots) {pc' k' j' : Nat} (hp : pc + 3 = pc') (hk' : k + rm.cells = k') (hj' : j + rm.slots = j') :
    ∃ v h', Q v h' ∧ ∀ S', v.toList ++ rest = S' → Go p l e R s m args below meth c Z own bytes maxL ret n0 s₀ h' k' j' pc' L S' := by
  subst hp hk' hj' hS
  obtain ⟨⟨hx, hb, hm, hZ, ho, hret, hlk, hn0⟩, T, locs, X, eT, N, st⟩ := G
  obtain ⟨v, _, ⟨T', L', k', n'⟩, -, X', ⟨Lc, hQ, l', y', z'⟩, st'⟩ := X.specialBack hx (y := y) hyn ho (mvT hZ w1) (mvT hZ w2) (mvT hZ w4) hy (backOf (W := W) (R := R) (rm := rm) (Q := fun v h L => Q v h ∧ Fr n0 L) C hZ w4 w3 hf hlo) (g := mkF m pc L (argsL.reverse ++ .ref a :: rest)) rfl (by rw [hm]; exact hL) (Steps.refl _) (a := a) (argsL := argsL) (rest := rest) (lenOf hpd hl) rfl (by show 2 * 0 + _ ≤ _; omega) (Jvm.hb hb hd) (fun _ _ => ⟨rfl, eT, hc, hs⟩)
  dsimp only [Pt.U, Pt.locs, Pt.cells, Pt.slots] at X' l' y' z' st' hQ
  subst l' y' z'
  refine ⟨v, T'.heap, hQ.1, fun S' e => ?_⟩
  subst e
  exact ⟨⟨hx, hb, hm, hZ, ho, hret, hlk, hn0⟩, T', _, X', rfl, Fr.app N hQ.2, fun t q => st t (st'.trans q)⟩
theorem Go.callV {S0 argsL rest : List Value} {y : MethodName} {bytes' : ByteArray} {maxL' : Nat} {ret' r : Option FieldType} {ps : List FieldType} {rm : Room} {index : Nat} {Q : Option Value → Heap → Prop} {a : Addr} {K : String} (G : Go p l e R s m args below meth c Z own bytes maxL ret n0 s₀ h k j pc L S0) (C : Con l y bytes' maxL' ret' [] rm rm.cells rm.slots Z (.ref a :: argsL).toArray h n0 Q) (hS : S0 = argsL.reverse ++ .ref a :: rest) (E : Exa Z h a K)
    (w1 : (Cond.methodLink own index y).before a0 Z = true) (w1' : (Cond.declares y).before a0 Z = true) (w1'' : (Cond.selects K y y).before a0 Z = true) (w2 : (Cond.instanceMethod y).before a0 Z = true) (w3 : (Cond.initialized y.cls).before a0 Z = true) (w4 : (Cond.code y bytes' maxL' ret').before a0 Z = true) (hy : y.cls ≠ "java/lang/invoke/MethodHandle" ∧ y.cls ≠ "java/lang/invoke/VarHandle")
    (hd : decode bytes pc = .ok (.invokevirtual index, 3)) (hpd : parseMethodDescriptor y.desc = some ⟨ps, r⟩) (hl : argsL.length = ps.length) {W : Nat} (hW : (rest.map fun v => v.category).sum = W) (hL : L.size = maxL) (hf : rm.frames + 1 ≤ R.frames) (hlo : W + (maxL' + 11) + rm.locals ≤ R.locals) (hc : k + rm.cells ≤ R.cells) (hs : j + rm.slots ≤ R.slots) {pc' k' j' : Nat} (hp : pc + 3 = pc') (hk' : k + rm.cells = k') (hj' : j + rm.slots = j') :
    ∃ v h', Q v h' ∧ ∀ S', v.toList ++ rest = S' → Go p l e R s m args below meth c Z own bytes maxL ret n0 s₀ h' k' j' pc' L S' := by
  subst hp hk' hj' hS
  obtain ⟨⟨hx, hb, hm, hZ, ho, hret, hlk, hn0⟩, T, locs, X, eT, N, st⟩ := G
  obtain ⟨cq, kq, q1, q2, q3⟩ := isOf hZ eT E
  obtain ⟨v, _, ⟨T', L', k', n'⟩, -, X', ⟨Lc, hQ, l', y', z'⟩, st'⟩ := X.virtualBack hx (y := y) (z := y) ho (mvT hZ w1) (mvT hZ w1') (notFace_of_selects (args := #[]) (mvT hZ w1'')) (mvT hZ w1'') (mvT hZ w2) hy (backOf (W := W) (R := R) (rm := rm) (Q := fun v h L => Q v h ∧ Fr n0 L) C hZ w4 w3 hf hlo) q1 q3 (g := mkF m pc L (argsL.reverse ++ .ref a :: rest)) rfl (by rw [hm]; exact hL) (Steps.refl _) (argsL := argsL) (rest := rest) (lenOf hpd hl) rfl (by show 2 * 0 + _ ≤ _; omega) (Jvm.hb hb hd) (fun _ _ => ⟨rfl, eT, hc, hs⟩)
  dsimp only [Pt.U, Pt.locs, Pt.cells, Pt.slots] at X' l' y' z' st' hQ
  subst l' y' z'
  refine ⟨v, T'.heap, hQ.1, fun S' e => ?_⟩
  subst e
  exact ⟨⟨hx, hb, hm, hZ, ho, hret, hlk, hn0⟩, T', _, X', rfl, Fr.app N hQ.2, fun t q => st t (st'.trans q)⟩
theorem Go.initO {a : Addr} {index : Nat} (G : Go p l e R s m args below meth c Z own bytes maxL ret n0 s₀ h k j pc L (.ref a :: S)) (w1 : (Cond.methodLink own index Lib.objectInit).before a0 Z = true) (w2 : (Cond.instanceMethod Lib.objectInit).before a0 Z = true) (w3 : (Cond.code Lib.objectInit Jvm.LibCode.Object.Init0.code 1 none).before a0 Z = true) (hd : decode bytes pc = .ok (.invokespecial index, 3)) {W : Nat} (hW : (S.map fun v => v.category).sum = W) (hL : L.size = maxL) (hf : 1 ≤ R.frames) (hlo : W + 12 ≤ R.locals) {pc' : Nat} (hp : pc + 3 = pc' := by rfl) : Go p l e R s m args below meth c Z own bytes maxL ret n0 s₀ h k j pc' L S := by
  subst hp
  obtain ⟨⟨hx, hb, hm, hZ, ho, r⟩, T, locs, X, eT, N, st⟩ := G
  obtain ⟨T', X', e', st'⟩ := Jvm.RoadKit.initO X hx hZ ho w1 w2 w3 eT (g := mkF m pc L (.ref a :: S)) rfl (by rw [hm]; exact hL) rfl (Jvm.hb hb hd) hf (W := W) (by show 2 * 0 + _ ≤ _; omega) hlo
  exact ⟨⟨hx, hb, hm, hZ, ho, r⟩, T', locs, X', e', N, fun t q => st t (st' t q)⟩
theorem Go.newO {C : String} {index n : Nat} (G : Go p l e R s m args below meth c Z own bytes maxL ret n0 s₀ h k j pc L S) (w1 : (Cond.classLink own index C).before a0 Z = true) (w2 : (Cond.instantiable C n).before a0 Z = true) (w3 : (Cond.initialized C).before a0 Z = true) (hd : decode bytes pc = .ok (.new index, 3)) {pc' k' j' : Nat} (hp : pc + 3 = pc') (hk : k + 1 = k') (hj : j + n = j') (hc : k' ≤ R.cells) (hl : j' ≤ R.slots) :
    ∃ a h', a = h.size ∧ n0 ≤ a ∧ Ext h h' ∧ Exa Z h' a C ∧ (∀ {O nm d : String} {ty : FieldType}, Laid Z a0 C O nm d → parseFieldDescriptor d = some ty → Fld Z h' a O nm d (defaultValue ty)) ∧ Go p l e R s m args below meth c Z own bytes maxL ret n0 s₀ h' k' j' pc' L (.ref a :: S) := by
  have hsz := G.size
  subst hp hk hj
  obtain ⟨⟨hx, hb, hm, hZ, ho, r⟩, T, locs, X, eT, N, st⟩ := G
  obtain ⟨T2, h2, X2, e2, E2, A2, D2, -, st2⟩ := Jvm.RoadKit.newO X hx hZ ho w1 w2 w3 eT (g := mkF m pc L S) rfl (Jvm.hb hb hd) hc hl
  exact ⟨h.size, h2, rfl, hsz, E2, A2, D2, ⟨hx, hb, hm, hZ, ho, r⟩, T2, locs, X2, e2, N, fun t q => st t (st2 t q)⟩
theorem Go.getF {a : Addr} {R0 O n d host : String} {index : Nat} {v : Value} (G : Go p l e R s m args below meth c Z own bytes maxL ret n0 s₀ h k j pc L (.ref a :: S)) (w : (Cond.fieldLink own index R0 n d).before a0 Z = true ∨ (Cond.fieldLinkNest own index R0 n d host).before a0 Z = true) (via : Via Z R0 O n d) (F : Fld Z h a O n d v) (hd : decode bytes pc = .ok (.getfield index, 3)) {pc' : Nat} (hp : pc + 3 = pc' := by rfl) : Go p l e R s m args below meth c Z own bytes maxL ret n0 s₀ h k j pc' L (v :: S) := by
  subst hp
  obtain ⟨⟨hx, hb, hm, hZ, ho, r⟩, T, locs, X, eT, N, st⟩ := G
  obtain ⟨T', X', e', st'⟩ := Jvm.RoadKit.getF X hx hZ ho w via eT F (g := mkF m pc L (.ref a :: S)) rfl rfl (Jvm.hb hb hd)
  exact ⟨⟨hx, hb, hm, hZ, ho, r⟩, T', locs, X', e', N, fun t q => st t (st' t q)⟩
theorem Go.putF {a : Addr} {R0 O n d host C : String} {index kk : Nat} {ty : FieldType} {v old : Value} (G : Go p l e R s m args below meth c Z own bytes maxL ret n0 s₀ h k j pc L (v :: .ref a :: S)) (w : (Cond.fieldLink own index R0 n d).before a0 Z = true ∨ (Cond.fieldLinkNest own index R0 n d host).before a0 Z = true) (via : Via Z R0 O n d) (F : Fld Z h a O n d old) (E : Exa Z h a C) (ha : n0 ≤ a) (Ly : (Cond.lays C O n d).before a0 Z = true ∨ ((Cond.laysFinal C O n d).before a0 Z = true ∧ own = O ∧ meth.name = "<init>")) (wi : (Cond.instantiable C kk).before a0 Z = true) (hty : parseFieldDescriptor d = some ty) (hn : narrow ty v = v) (hf : fits ty v = true) (hd : decode bytes pc = .ok (.putfield index, 3)) {pc' : Nat} (hp : pc + 3 = pc' := by rfl) :
    ∃ h', Wr h h' a (Jvm.RoadKit.slotOf Z O n d) v ∧ Go p l e R s m args below meth c Z own bytes maxL ret n0 s₀ h' k j pc' L S := by
  subst hp
  obtain ⟨⟨hx, hb, hm, hZ, ho, r⟩, T, locs, X, eT, N, st⟩ := G
  obtain ⟨T', h', X', e', W', st'⟩ := Jvm.RoadKit.putF X hx hZ ho w via eT F E Ly wi hty hn hf (g := mkF m pc L (v :: .ref a :: S)) rfl rfl (Jvm.hb hb hd)
  exact ⟨h', W', ⟨hx, hb, hm, hZ, ho, r⟩, T', _, X', e', Fr.snoc X' N ha, fun t q => st t (st' t q)⟩
/-- an array of that kind whose places hold these values -/
def Av (Z : State) (h : Heap) (a : Addr) (ty : FieldType) (vs : List Value) : Prop := ∃ c : Cell, Arr Z h a c ty ∧ c.slots.toList = vs ∧ vs.length < 2 ^ 31 ∧ ∀ v ∈ vs, fits ty v = true
theorem Av.lt {a : Addr} {ty : FieldType} {vs : List Value} (A : Av Z h a ty vs) : a < h.size := by obtain ⟨c, A, -⟩ := A; exact A.lt
theorem Av.len {a : Addr} {ty : FieldType} {vs : List Value} (A : Av Z h a ty vs) : vs.length < 2 ^ 31 := by obtain ⟨c, _, _, q, _⟩ := A; exact q
theorem Av.fit {a : Addr} {ty : FieldType} {vs : List Value} (A : Av Z h a ty vs) : ∀ v ∈ vs, fits ty v = true := by obtain ⟨c, _, _, _, q⟩ := A; exact q
theorem Av.ext {h' : Heap} {a : Addr} {ty : FieldType} {vs : List Value} (A : Av Z h a ty vs) (E : Ext h h') : Av Z h' a ty vs := by obtain ⟨c, A, q⟩ := A; exact ⟨c, A.ext E, q⟩
theorem Av.other {h' : Heap} {a b : Addr} {sl : Nat} {v : Value} {ty : FieldType} {vs : List Value} (A : Av Z h b ty vs) (W : Wr h h' a sl v) (q : b ≠ a) : Av Z h' b ty vs := by obtain ⟨c, A, r⟩ := A; exact ⟨c, A.other W q, r⟩
theorem Av.keep {h' : Heap} {a : Addr} {ws : List Addr} {ty : FieldType} {vs : List Value} (A : Av Z h a ty vs) (K : Keep h h' ws) (q : a ∉ ws) : Av Z h' a ty vs := by obtain ⟨c, A, r⟩ := A; exact ⟨c, ⟨K.2.1 a c A.1 q, A.2⟩, r⟩
theorem Av.set {h' : Heap} {a : Addr} {i : Nat} {v : Value} {ty : FieldType} {vs : List Value} (A : Av Z h a ty vs) (W : Wr h h' a i v) (hf : fits ty v = true) : Av Z h' a ty (vs.set i v) := by
  obtain ⟨c, A, rfl, r, f⟩ := A
  exact ⟨c.setSlot i v, A.same W, by simp [Cell.setSlot], by simpa using r, fun x hx => (List.mem_or_eq_of_mem_set hx).elim (f x) fun q => q ▸ hf⟩
theorem idx_of {x : Int32} {i n : Nat} (hx : x.toInt = (i : Int)) (hi : i < n) : ¬ (x < 0 ∨ n ≤ x.toNatClampNeg) ∧ x.toNatClampNeg = i := by
  have e : x.toNatClampNeg = i := by show x.toInt.toNat = i; omega
  refine ⟨?_, e⟩
  rw [e, Int32.lt_iff_toInt_lt, hx]
  show ¬ (((i : Nat) : Int) < 0 ∨ n ≤ i)
  omega
theorem Go.newA {n : Int32} {aty : ArrayType} {ty : FieldType} {dv : Value} {N cap : Nat} (G : Go p l e R s m args below meth c Z own bytes maxL ret n0 s₀ h k j pc L (.int n :: S)) (w : (Cond.arrayClass ty).before a0 Z = true) (hd : decode bytes pc = .ok (.newarray aty, 2)) (hty : newarray.typeOf aty = ty) (hdv : defaultValue ty = dv) (hn : n.toInt = (N : Int)) (hN : N ≤ cap) (hb : cap * 8 ≤ 536870912) {pc' k' j' : Nat} (hp : pc + 2 = pc') (hk : k + 1 = k') (hj : j + cap = j') (hc : k' ≤ R.cells) (hl : j' ≤ R.slots) :
    ∃ a h', a = h.size ∧ n0 ≤ a ∧ Ext h h' ∧ Av Z h' a ty (List.replicate N dv) ∧ Go p l e R s m args below meth c Z own bytes maxL ret n0 s₀ h' k' j' pc' L (.ref a :: S) := by
  have hsz := G.size
  have e1 : n.toNatClampNeg = N := by show n.toInt.toNat = N; omega
  have e2 := n.toInt_lt
  subst hp hk hj hty hdv
  obtain ⟨⟨hx, hb', hm, hZ, ho, r⟩, T, locs, X, eT, N', st⟩ := G
  obtain ⟨T2, h2, cA, X2, e3, E2, A2, st2⟩ := Jvm.RoadKit.newP X hx hZ w eT (g := mkF m pc L (.int n :: S)) rfl (Jvm.hb hb' hd) rfl (by rw [Int32.lt_iff_toInt_lt, hn]; show ¬ ((N : Nat) : Int) < 0; omega) (cap := cap) (by rw [e1]; exact hN) hb hc hl
  exact ⟨h.size, h2, rfl, hsz, E2, ⟨_, A2, by rw [Jvm.RoadKit.newA, e1]; simp, by rw [List.length_replicate]; omega, fun v hv => by rw [List.eq_of_mem_replicate hv]; cases aty <;> rfl⟩, ⟨hx, hb', hm, hZ, ho, r⟩, T2, locs, X2, e3, N', fun t q => st t (st2 t q)⟩
theorem Go.stI {a : Addr} {x : Int32} {y : Int32} {i : Nat} {vs : List Value} (G : Go p l e R s m args below meth c Z own bytes maxL ret n0 s₀ h k j pc L (.int x :: .int y :: .ref a :: S)) (A : Av Z h a .int vs) (ha : n0 ≤ a) (hy : y.toInt = (i : Int)) (hi : i < vs.length) (hd : decode bytes pc = .ok (.iastore, 1)) {pc' : Nat} (hp : pc + 1 = pc' := by rfl) :
    ∃ h', Wr h h' a i (.int x) ∧ Av Z h' a .int (vs.set i (.int x)) ∧ Go p l e R s m args below meth c Z own bytes maxL ret n0 s₀ h' k j pc' L S := by
  have A0 := A
  obtain ⟨cl, Ar, rfl, hlen, -⟩ := A
  rw [Array.length_toList] at hi
  have ⟨i1, i2⟩ := idx_of hy hi
  subst hp
  obtain ⟨⟨hx, hb, hm, hZ, ho, r⟩, T, locs, X, eT, N, st⟩ := G
  obtain ⟨T', h', X', e', W', st'⟩ := Jvm.RoadKit.stI X hx hZ eT Ar i1 (g := mkF m pc L (.int x :: .int y :: .ref a :: S)) rfl rfl (Jvm.hb hb hd)
  have N' := Fr.snoc X' N ha
  rw [i2] at W'
  exact ⟨h', W', A0.set W' rfl, ⟨hx, hb, hm, hZ, ho, r⟩, T', _, X', e', N', fun t q => st t (st' t q)⟩
theorem Go.stJ {a : Addr} {x : Int64} {y : Int32} {i : Nat} {vs : List Value} (G : Go p l e R s m args below meth c Z own bytes maxL ret n0 s₀ h k j pc L (.long x :: .int y :: .ref a :: S)) (A : Av Z h a .long vs) (ha : n0 ≤ a) (hy : y.toInt = (i : Int)) (hi : i < vs.length) (hd : decode bytes pc = .ok (.lastore, 1)) {pc' : Nat} (hp : pc + 1 = pc' := by rfl) :
    ∃ h', Wr h h' a i (.long x) ∧ Av Z h' a .long (vs.set i (.long x)) ∧ Go p l e R s m args below meth c Z own bytes maxL ret n0 s₀ h' k j pc' L S := by
  have A0 := A
  obtain ⟨cl, Ar, rfl, hlen, -⟩ := A
  rw [Array.length_toList] at hi
  have ⟨i1, i2⟩ := idx_of hy hi
  subst hp
  obtain ⟨⟨hx, hb, hm, hZ, ho, r⟩, T, locs, X, eT, N, st⟩ := G
  obtain ⟨T', h', X', e', W', st'⟩ := Jvm.RoadKit.stJ X hx hZ eT Ar i1 (g := mkF m pc L (.long x :: .int y :: .ref a :: S)) rfl rfl (Jvm.hb hb hd)
  have N' := Fr.snoc X' N ha
  rw [i2] at W'
  exact ⟨h', W', A0.set W' rfl, ⟨hx, hb, hm, hZ, ho, r⟩, T', _, X', e', N', fun t q => st t (st' t q)⟩
theorem Go.stB {a : Addr} {x : Int32} {y : Int32} {i : Nat} {vs : List Value} (G : Go p l e R s m args below meth c Z own bytes maxL ret n0 s₀ h k j pc L (.int x :: .int y :: .ref a :: S)) (A : Av Z h a .byte vs) (ha : n0 ≤ a) (hy : y.toInt = (i : Int)) (hi : i < vs.length) (hd : decode bytes pc = .ok (.bastore, 1)) {pc' : Nat} (hp : pc + 1 = pc' := by rfl) :
    ∃ h', Wr h h' a i (.int (nar .byte x)) ∧ Av Z h' a .byte (vs.set i (.int (nar .byte x))) ∧ Go p l e R s m args below meth c Z own bytes maxL ret n0 s₀ h' k j pc' L S := by
  have A0 := A
  obtain ⟨cl, Ar, rfl, hlen, -⟩ := A
  rw [Array.length_toList] at hi
  have ⟨i1, i2⟩ := idx_of hy hi
  subst hp
  obtain ⟨⟨hx, hb, hm, hZ, ho, r⟩, T, locs, X, eT, N, st⟩ := G
  obtain ⟨T', h', X', e', W', st'⟩ := Jvm.RoadKit.stB X hx hZ eT Ar i1 (g := mkF m pc L (.int x :: .int y :: .ref a :: S)) rfl rfl (Jvm.hb hb hd)
  have N' := Fr.snoc X' N ha
  rw [i2] at W'
  exact ⟨h', W', A0.set W' (fits_nar_byte x), ⟨hx, hb, hm, hZ, ho, r⟩, T', _, X', e', N', fun t q => st t (st' t q)⟩
theorem Go.ldI {a : Addr} {v : Value} {y : Int32} {i : Nat} {vs : List Value} (G : Go p l e R s m args below meth c Z own bytes maxL ret n0 s₀ h k j pc L (.int y :: .ref a :: S)) (A : Av Z h a .int vs) (hy : y.toInt = (i : Int)) (hv : vs[i]? = some v) (hd : decode bytes pc = .ok (.iaload, 1)) {pc' : Nat} (hp : pc + 1 = pc' := by rfl) : Go p l e R s m args below meth c Z own bytes maxL ret n0 s₀ h k j pc' L (v :: S) := by
  obtain ⟨cl, Ar, rfl, hlen, -⟩ := A
  have hi : i < cl.slots.size := by rw [← Array.length_toList]; exact (List.getElem?_eq_some_iff.mp hv).1
  have ⟨i1, i2⟩ := idx_of hy hi
  rw [Array.getElem?_toList] at hv
  subst hp
  obtain ⟨⟨hx, hb, hm, hZ, ho, r⟩, T, locs, X, eT, N, st⟩ := G
  exact ⟨⟨hx, hb, hm, hZ, ho, r⟩, T, locs, X, eT, N, fun t q => st t (X.iaload hx (j := y) (v := v) (by rw [eT]; exact Ar.1) (State.isArrayOf_alike hZ.alike Ar.2.1) Ar.2.2 i1 (by rw [i2]; exact hv) (g := mkF m pc L (.int y :: .ref a :: S)) rfl rfl (Jvm.hb hb hd) t q)⟩
theorem Go.ldJ {a : Addr} {v : Value} {y : Int32} {i : Nat} {vs : List Value} (G : Go p l e R s m args below meth c Z own bytes maxL ret n0 s₀ h k j pc L (.int y :: .ref a :: S)) (A : Av Z h a .long vs) (hy : y.toInt = (i : Int)) (hv : vs[i]? = some v) (hd : decode bytes pc = .ok (.laload, 1)) {pc' : Nat} (hp : pc + 1 = pc' := by rfl) : Go p l e R s m args below meth c Z own bytes maxL ret n0 s₀ h k j pc' L (v :: S) := by
  obtain ⟨cl, Ar, rfl, hlen, -⟩ := A
  have hi : i < cl.slots.size := by rw [← Array.length_toList]; exact (List.getElem?_eq_some_iff.mp hv).1
  have ⟨i1, i2⟩ := idx_of hy hi
  rw [Array.getElem?_toList] at hv
  subst hp
  obtain ⟨⟨hx, hb, hm, hZ, ho, r⟩, T, locs, X, eT, N, st⟩ := G
  exact ⟨⟨hx, hb, hm, hZ, ho, r⟩, T, locs, X, eT, N, fun t q => st t (X.laload hx (j := y) (v := v) (by rw [eT]; exact Ar.1) (State.isArrayOf_alike hZ.alike Ar.2.1) Ar.2.2 i1 (by rw [i2]; exact hv) (g := mkF m pc L (.int y :: .ref a :: S)) rfl rfl (Jvm.hb hb hd) t q)⟩
theorem Go.ldB {a : Addr} {v : Value} {y : Int32} {i : Nat} {vs : List Value} (G : Go p l e R s m args below meth c Z own bytes maxL ret n0 s₀ h k j pc L (.int y :: .ref a :: S)) (A : Av Z h a .byte vs) (hy : y.toInt = (i : Int)) (hv : vs[i]? = some v) (hd : decode bytes pc = .ok (.baload, 1)) {pc' : Nat} (hp : pc + 1 = pc' := by rfl) : Go p l e R s m args below meth c Z own bytes maxL ret n0 s₀ h k j pc' L (v :: S) := by
  obtain ⟨cl, Ar, rfl, hlen, -⟩ := A
  have hi : i < cl.slots.size := by rw [← Array.length_toList]; exact (List.getElem?_eq_some_iff.mp hv).1
  have ⟨i1, i2⟩ := idx_of hy hi
  rw [Array.getElem?_toList] at hv
  subst hp
  obtain ⟨⟨hx, hb, hm, hZ, ho, r⟩, T, locs, X, eT, N, st⟩ := G
  exact ⟨⟨hx, hb, hm, hZ, ho, r⟩, T, locs, X, eT, N, fun t q => st t (X.baloadBytes hx (j := y) (v := v) (by rw [eT]; exact Ar.1) (State.isArrayOf_alike hZ.alike Ar.2.1) Ar.2.2 i1 (by rw [i2]; exact hv) (g := mkF m pc L (.int y :: .ref a :: S)) rfl rfl (Jvm.hb hb hd) t q)⟩
theorem Go.arrlen {a : Addr} {ty : FieldType} {vs : List Value} (v : Int32) (G : Go p l e R s m args below meth c Z own bytes maxL ret n0 s₀ h k j pc L (.ref a :: S)) (A : Av Z h a ty vs) (hv : v.toInt = (vs.length : Int)) (hd : decode bytes pc = .ok (.arraylength, 1)) {pc' : Nat} (hp : pc + 1 = pc' := by rfl) : Go p l e R s m args below meth c Z own bytes maxL ret n0 s₀ h k j pc' L (.int v :: S) := by
  obtain ⟨cl, Ar, rfl, hlen, -⟩ := A
  have e1 : cl.slots.size.toInt32 = v := by
    rw [Array.length_toList] at hlen hv
    apply Int32.toInt_inj.mp
    rw [hv]
    exact Int32.toInt_ofNat_of_lt (by omega)
  subst hp e1
  obtain ⟨⟨hx, hb, hm, hZ, ho, r⟩, T, locs, X, eT, N, st⟩ := G
  exact ⟨⟨hx, hb, hm, hZ, ho, r⟩, T, locs, X, eT, N, fun t q => st t (X.arraylength hx (by rw [eT]; exact Ar.1) (State.isArrayOf_alike hZ.alike Ar.2.1) (g := mkF m pc L (.ref a :: S)) rfl rfl (Jvm.hb hb hd) t q)⟩
end OwnKit
end Jvm.OwnKit
namespace Jvm.Pilot.@@N@@
open Jvm Jvm.ClassFile Sem Op Lib Jvm.Free Jvm.Stand Jvm.LawKit Jvm.RoadKit Bundle Jvm.OwnKit Jvm.Pilot.@@N@@.Jvm.D
theorem d1_0 : decode method_2_code 0 = .ok (.iload_n 0, 1) := by decide +kernel
theorem d1_1 : decode method_2_code 1 = .ok (.ldc 7, 2) := by decide +kernel
theorem d1_3 : decode method_2_code 3 = .ok (.iand, 1) := by decide +kernel
theorem d1_4 : decode method_2_code 4 = .ok (.ifCond .eq 7, 3) := by decide +kernel
theorem d1_7 : decode method_2_code 7 = .ok (.iconst 0, 1) := by decide +kernel
theorem d1_8 : decode method_2_code 8 = .ok (.goto 7, 3) := by decide +kernel
theorem d1_11 : decode method_2_code 11 = .ok (.iload_n 0, 1) := by decide +kernel
theorem d1_12 : decode method_2_code 12 = .ok (.ldc 8, 2) := by decide +kernel
theorem d1_14 : decode method_2_code 14 = .ok (.iand, 1) := by decide +kernel
theorem d1_15 : decode method_2_code 15 = .ok (.ireturn, 1) := by decide +kernel
theorem pn0 : plainName "com/example/borrar/borrar/minidump/FieldListLastAtMostPinLaw" = true := by first | (simp [plainName, overriddenIn]; done) | decide +kernel
theorem ef1 (m : MethodId) (x0 : Int32) : entryFrame m #[(.int x0)] 1 = mkF m 0 #[.val (.int x0)] [] := by first | (simp [entryFrame, mkF, argsToLocals, Value.category]; done) | rfl
def fGap (x0 : Int32) : Int32 := (if (x0 &&& (536870912 : Int32)) = (0 : Int32) then (x0 &&& (536870911 : Int32)) else (0 : Int32))
def rm1 : Room := { frames := 0, cells := 0, slots := 0, locals := 0 }
set_option maxRecDepth 65536 in
set_option maxHeartbeats 40000000 in
theorem cn1 (l : Launch) (Z : State) (a0 : Array Value) (hw : ∀ d ∈ tables_1, d.before a0 Z = true) (x0 : Int32) (h0 : Heap) (n0 : Nat) (hn : n0 ≤ h0.size) :
    Con l (⟨"com/example/borrar/borrar/minidump/FieldListLastAtMostPinLaw", "gap", "(I)I"⟩ : MethodName) method_2_code 1 (some .int) [] rm1 rm1.cells rm1.slots Z #[(.int x0)] h0 n0 (fun v h => v = some (.int (fGap x0)) ∧ h = h0) := by
  refine Con.of (plainFor_of_name pn0) hn (fun m => ef1 m x0) ?_
  intro p e s m below meth c s₀ hnm G0
  have G1 := G0.iloadN (v := x0) (pc' := 1) d1_0 rfl
  have G2 := G1.ldc (v := (536870912 : Int32)) (pc' := 3) (hw _ (List.mem_of_getElem? (i := 4) rfl)) d1_1
  have G3 := G2.iand (pc' := 4) d1_3
  by_cases c4_3 : (x0 &&& (536870912 : Int32)) = (0 : Int32)
  · have G4 := G3.ifY d1_4 11 (Jvm.Free.XT.i0_eq_t c4_3)
    have G5 := G4.iloadN (v := x0) (pc' := 12) d1_11 rfl
    have G6 := G5.ldc (v := (536870911 : Int32)) (pc' := 14) (hw _ (List.mem_of_getElem? (i := 5) rfl)) d1_12
    have G7 := G6.iand (pc' := 15) d1_14
    exact G7.retI d1_15 rfl ⟨congrArg (fun z => some (Value.int z)) (by rw [fGap, if_pos c4_3]), rfl⟩
  · have G8 := G3.ifN d1_4 7 (Jvm.Free.XT.i0_eq_f c4_3)
    have G9 := G8.iconst (v := (0 : Int32)) (pc' := 8) d1_7
    have G10 := G9.goto d1_8 15
    exact G10.retI d1_15 rfl ⟨congrArg (fun z => some (Value.int z)) (by rw [fGap, if_neg c4_3]), rfl⟩
theorem d2_0 : decode prog_49_method_16_code 0 = .ok (.iconst 0, 1) := by decide +kernel
theorem d2_1 : decode prog_49_method_16_code 1 = .ok (.istore_n 3, 1) := by decide +kernel
theorem d2_2 : decode prog_49_method_16_code 2 = .ok (.iload_n 1, 1) := by decide +kernel
theorem d2_3 : decode prog_49_method_16_code 3 = .ok (.iconst 1, 1) := by decide +kernel
theorem d2_4 : decode prog_49_method_16_code 4 = .ok (.isub, 1) := by decide +kernel
theorem d2_5 : decode prog_49_method_16_code 5 = .ok (.istore 4, 2) := by decide +kernel
theorem d2_7 : decode prog_49_method_16_code 7 = .ok (.iload_n 3, 1) := by decide +kernel
theorem d2_8 : decode prog_49_method_16_code 8 = .ok (.iload 4, 2) := by decide +kernel
theorem d2_10 : decode prog_49_method_16_code 10 = .ok (.if_icmp .ge 36, 3) := by decide +kernel
theorem d2_13 : decode prog_49_method_16_code 13 = .ok (.iload_n 3, 1) := by decide +kernel
theorem d2_14 : decode prog_49_method_16_code 14 = .ok (.iload 4, 2) := by decide +kernel
theorem d2_16 : decode prog_49_method_16_code 16 = .ok (.iadd, 1) := by decide +kernel
theorem d2_17 : decode prog_49_method_16_code 17 = .ok (.iconst 1, 1) := by decide +kernel
theorem d2_18 : decode prog_49_method_16_code 18 = .ok (.iadd, 1) := by decide +kernel
theorem d2_19 : decode prog_49_method_16_code 19 = .ok (.iconst 1, 1) := by decide +kernel
theorem d2_20 : decode prog_49_method_16_code 20 = .ok (.iushr, 1) := by decide +kernel
theorem d2_21 : decode prog_49_method_16_code 21 = .ok (.istore 5, 2) := by decide +kernel
theorem d2_23 : decode prog_49_method_16_code 23 = .ok (.aload_n 0, 1) := by decide +kernel
theorem d2_24 : decode prog_49_method_16_code 24 = .ok (.iload 5, 2) := by decide +kernel
theorem d2_26 : decode prog_49_method_16_code 26 = .ok (.iaload, 1) := by decide +kernel
theorem d2_27 : decode prog_49_method_16_code 27 = .ok (.iload_n 2, 1) := by decide +kernel
theorem d2_28 : decode prog_49_method_16_code 28 = .ok (.if_icmp .gt 9, 3) := by decide +kernel
theorem d2_31 : decode prog_49_method_16_code 31 = .ok (.iload 5, 2) := by decide +kernel
theorem d2_33 : decode prog_49_method_16_code 33 = .ok (.istore_n 3, 1) := by decide +kernel
theorem d2_34 : decode prog_49_method_16_code 34 = .ok (.goto 9, 3) := by decide +kernel
theorem d2_37 : decode prog_49_method_16_code 37 = .ok (.iload 5, 2) := by decide +kernel
theorem d2_39 : decode prog_49_method_16_code 39 = .ok (.iconst 1, 1) := by decide +kernel
theorem d2_40 : decode prog_49_method_16_code 40 = .ok (.isub, 1) := by decide +kernel
theorem d2_41 : decode prog_49_method_16_code 41 = .ok (.istore 4, 2) := by decide +kernel
theorem d2_43 : decode prog_49_method_16_code 43 = .ok (.goto (-36), 3) := by decide +kernel
theorem d2_46 : decode prog_49_method_16_code 46 = .ok (.iload_n 3, 1) := by decide +kernel
theorem d2_47 : decode prog_49_method_16_code 47 = .ok (.ireturn, 1) := by decide +kernel
theorem own_i (k : Nat) (h : k < 1000) : (Int32.ofNat k).toInt = (k : Int) := Int32.toInt_ofNat_of_lt (by omega)
theorem own_mid (lo hi : Nat) (h1 : lo < 100) (h2 : hi < 100) : (((Int32.ofNat lo + Int32.ofNat hi) + (1 : Int32)).toUInt32 >>> ((1 : Int32) &&& 31).toUInt32).toInt32 = Int32.ofNat ((lo + hi + 1) / 2) := by
  apply Int32.toInt_inj.mp
  rw [c_iushr _ 1 1 (by decide) (by decide), own_i _ (by omega)]
  have e1 := c_iadd (Int32.ofNat lo) (Int32.ofNat hi)
  have e2 := c_iadd (Int32.ofNat lo + Int32.ofNat hi) 1
  rw [own_i lo (by omega), own_i hi (by omega)] at e1
  have r1 := rng32 (Int32.ofNat lo + Int32.ofNat hi)
  have r2 := rng32 (Int32.ofNat lo + Int32.ofNat hi + 1)
  have k : (1 : Int32).toInt = 1 := rfl
  rw [k] at e2
  omega
theorem own_dec (k : Nat) (h : 0 < k) (h2 : k < 100) : Int32.ofNat k - (1 : Int32) = Int32.ofNat (k - 1) := by
  apply Int32.toInt_inj.mp
  rw [own_i _ (by omega)]
  have e1 := c_isub (Int32.ofNat k) 1
  have r1 := rng32 (Int32.ofNat k - 1)
  have e := own_i k (by omega)
  have k1 : (1 : Int32).toInt = 1 := rfl
  rw [k1] at e1
  omega
theorem own_ltn (a c : Nat) (h1 : a < 100) (h2 : c < 100) : Int32.ofNat a < Int32.ofNat c ↔ a < c := by
  rw [Int32.lt_iff_toInt_lt, own_i a (by omega), own_i c (by omega)]
  omega
set_option maxRecDepth 65536 in
set_option maxHeartbeats 40000000 in
theorem own_loop (p : Program) (l : Launch) (e : Env) (R : Room) (s : State) (m : MethodId) (args : Array Value) (below : List Frame) (meth : Method) (c : Code) (Z : State) (a0 : Array Value) (hw : ∀ d ∈ tables_1, d.before a0 Z = true) (n0 : Nat) (s₀ : State) (h : Heap) (k j : Nat) (a : Addr) (cnt val : Int32) (vs : List Value) (V0 : Av Z h a .int vs) (f : Nat → Int32) (N : Nat) (hN : N < 100) (hf : ∀ i, i < N → vs[i]? = some (.int (f i))) : ∀ (d lo hi : Nat) (o : Slot), hi - lo < d → lo ≤ hi → hi < N → (lo = 0 ∨ ¬ val < f lo) → (hi + 1 = N ∨ val < f (hi + 1)) → (o = .unset ∨ ∃ z, o = .val (.int z)) →
    Go p l e R s m args below meth c Z "com/example/borrar/borrar/minidump/FieldList" prog_49_method_16_code 6 (some .int) n0 s₀ h k j 7 #[.val (.ref a), .val (.int cnt), .val (.int val), .val (.int (Int32.ofNat lo)), .val (.int (Int32.ofNat hi)), o] [] →
    ∃ (r : Nat) (o1 o2 : Slot), r < N ∧ (r = 0 ∨ ¬ val < f r) ∧ (r + 1 = N ∨ val < f (r + 1)) ∧ Go p l e R s m args below meth c Z "com/example/borrar/borrar/minidump/FieldList" prog_49_method_16_code 6 (some .int) n0 s₀ h k j 46 #[.val (.ref a), .val (.int cnt), .val (.int val), .val (.int (Int32.ofNat r)), o1, o2] [] := by
  intro d
  induction d with
  | zero => intro lo hi o hd; omega
  | succ d ih =>
    intro lo hi o hd hle hn hlo hhi ho G0
    rcases ho with rfl | ⟨z, rfl⟩
    · have G1 := G0.iloadN (v := (Int32.ofNat lo)) (pc' := 8) d2_7 rfl
      have G2 := G1.iload (v := (Int32.ofNat hi)) (pc' := 10) d2_8 rfl
      by_cases c10 : Int32.ofNat lo < Int32.ofNat hi
      · have G3 := G2.icmpN d2_10 13 (Jvm.Free.XT.ii_ge_f c10)
        have l1 := (own_ltn lo hi (by omega) (by omega)).mp c10
        have G4 := G3.iloadN (v := (Int32.ofNat lo)) (pc' := 14) d2_13 rfl
        have G5 := G4.iload (v := (Int32.ofNat hi)) (pc' := 16) d2_14 rfl
        have G6 := G5.iadd (pc' := 17) d2_16
        have G7 := G6.iconst (v := (1 : Int32)) (pc' := 18) d2_17
        have G8 := G7.iadd (pc' := 19) d2_18
        have G9 := G8.iconst (v := (1 : Int32)) (pc' := 20) d2_19
        have G10 := G9.iushr (pc' := 21) d2_20
        rw [own_mid lo hi (by omega) (by omega)] at G10
        have G11 := G10.istore (L' := #[.val (.ref a), .val (.int cnt), .val (.int val), .val (.int (Int32.ofNat lo)), .val (.int (Int32.ofNat hi)), .val (.int (Int32.ofNat ((lo + hi + 1) / 2)))]) (pc' := 23) d2_21 rfl
        have G12 := G11.aloadN (v := (.ref a)) (pc' := 24) d2_23 rfl
        have G13 := G12.iload (v := (Int32.ofNat ((lo + hi + 1) / 2))) (pc' := 26) d2_24 rfl
        have G14 := G13.ldI (i := ((lo + hi + 1) / 2)) (v := (.int (f ((lo + hi + 1) / 2)))) (pc' := 27) V0 (own_i _ (by omega)) (hf _ (by omega)) d2_26
        have G15 := G14.iloadN (v := val) (pc' := 28) d2_27 rfl
        by_cases c28 : val < f ((lo + hi + 1) / 2)
        · have G16 := G15.icmpY d2_28 37 (Jvm.Free.XT.ii_gt_t c28)
          have G17 := G16.iload (v := (Int32.ofNat ((lo + hi + 1) / 2))) (pc' := 39) d2_37 rfl
          have G18 := G17.iconst (v := (1 : Int32)) (pc' := 40) d2_39
          have G19 := G18.isub (pc' := 41) d2_40
          rw [own_dec _ (by omega) (by omega)] at G19
          have G20 := G19.istore (L' := #[.val (.ref a), .val (.int cnt), .val (.int val), .val (.int (Int32.ofNat lo)), .val (.int (Int32.ofNat ((lo + hi + 1) / 2 - 1))), .val (.int (Int32.ofNat ((lo + hi + 1) / 2)))]) (pc' := 43) d2_41 rfl
          have G21 := G20.goto d2_43 7
          exact ih lo _ _ (by omega) (by omega) (by omega) hlo (Or.inr (by rw [Nat.sub_add_cancel (by omega)]; exact c28)) (Or.inr ⟨_, rfl⟩) G21
        · have G22 := G15.icmpN d2_28 31 (Jvm.Free.XT.ii_gt_f c28)
          have G23 := G22.iload (v := (Int32.ofNat ((lo + hi + 1) / 2))) (pc' := 33) d2_31 rfl
          have G24 := G23.istoreN (L' := #[.val (.ref a), .val (.int cnt), .val (.int val), .val (.int (Int32.ofNat ((lo + hi + 1) / 2))), .val (.int (Int32.ofNat hi)), .val (.int (Int32.ofNat ((lo + hi + 1) / 2)))]) (pc' := 34) d2_33 rfl
          have G25 := G24.goto d2_34 43
          have G26 := G25.goto d2_43 7
          exact ih _ hi _ (by omega) (by omega) hn (Or.inr c28) hhi (Or.inr ⟨_, rfl⟩) G26
      · have G27 := G2.icmpY d2_10 46 (Jvm.Free.XT.ii_ge_t c10)
        have l1 : ¬ lo < hi := fun q => c10 ((own_ltn lo hi (by omega) (by omega)).mpr q)
        obtain rfl : lo = hi := by omega
        exact ⟨lo, _, _, hn, hlo, hhi, G27⟩
    · have G1 := G0.iloadN (v := (Int32.ofNat lo)) (pc' := 8) d2_7 rfl
      have G2 := G1.iload (v := (Int32.ofNat hi)) (pc' := 10) d2_8 rfl
      by_cases c10 : Int32.ofNat lo < Int32.ofNat hi
      · have G3 := G2.icmpN d2_10 13 (Jvm.Free.XT.ii_ge_f c10)
        have l1 := (own_ltn lo hi (by omega) (by omega)).mp c10
        have G4 := G3.iloadN (v := (Int32.ofNat lo)) (pc' := 14) d2_13 rfl
        have G5 := G4.iload (v := (Int32.ofNat hi)) (pc' := 16) d2_14 rfl
        have G6 := G5.iadd (pc' := 17) d2_16
        have G7 := G6.iconst (v := (1 : Int32)) (pc' := 18) d2_17
        have G8 := G7.iadd (pc' := 19) d2_18
        have G9 := G8.iconst (v := (1 : Int32)) (pc' := 20) d2_19
        have G10 := G9.iushr (pc' := 21) d2_20
        rw [own_mid lo hi (by omega) (by omega)] at G10
        have G11 := G10.istore (L' := #[.val (.ref a), .val (.int cnt), .val (.int val), .val (.int (Int32.ofNat lo)), .val (.int (Int32.ofNat hi)), .val (.int (Int32.ofNat ((lo + hi + 1) / 2)))]) (pc' := 23) d2_21 rfl
        have G12 := G11.aloadN (v := (.ref a)) (pc' := 24) d2_23 rfl
        have G13 := G12.iload (v := (Int32.ofNat ((lo + hi + 1) / 2))) (pc' := 26) d2_24 rfl
        have G14 := G13.ldI (i := ((lo + hi + 1) / 2)) (v := (.int (f ((lo + hi + 1) / 2)))) (pc' := 27) V0 (own_i _ (by omega)) (hf _ (by omega)) d2_26
        have G15 := G14.iloadN (v := val) (pc' := 28) d2_27 rfl
        by_cases c28 : val < f ((lo + hi + 1) / 2)
        · have G16 := G15.icmpY d2_28 37 (Jvm.Free.XT.ii_gt_t c28)
          have G17 := G16.iload (v := (Int32.ofNat ((lo + hi + 1) / 2))) (pc' := 39) d2_37 rfl
          have G18 := G17.iconst (v := (1 : Int32)) (pc' := 40) d2_39
          have G19 := G18.isub (pc' := 41) d2_40
          rw [own_dec _ (by omega) (by omega)] at G19
          have G20 := G19.istore (L' := #[.val (.ref a), .val (.int cnt), .val (.int val), .val (.int (Int32.ofNat lo)), .val (.int (Int32.ofNat ((lo + hi + 1) / 2 - 1))), .val (.int (Int32.ofNat ((lo + hi + 1) / 2)))]) (pc' := 43) d2_41 rfl
          have G21 := G20.goto d2_43 7
          exact ih lo _ _ (by omega) (by omega) (by omega) hlo (Or.inr (by rw [Nat.sub_add_cancel (by omega)]; exact c28)) (Or.inr ⟨_, rfl⟩) G21
        · have G22 := G15.icmpN d2_28 31 (Jvm.Free.XT.ii_gt_f c28)
          have G23 := G22.iload (v := (Int32.ofNat ((lo + hi + 1) / 2))) (pc' := 33) d2_31 rfl
          have G24 := G23.istoreN (L' := #[.val (.ref a), .val (.int cnt), .val (.int val), .val (.int (Int32.ofNat ((lo + hi + 1) / 2))), .val (.int (Int32.ofNat hi)), .val (.int (Int32.ofNat ((lo + hi + 1) / 2)))]) (pc' := 34) d2_33 rfl
          have G25 := G24.goto d2_34 43
          have G26 := G25.goto d2_43 7
          exact ih _ hi _ (by omega) (by omega) hn (Or.inr c28) hhi (Or.inr ⟨_, rfl⟩) G26
      · have G27 := G2.icmpY d2_10 46 (Jvm.Free.XT.ii_ge_t c10)
        have l1 : ¬ lo < hi := fun q => c10 ((own_ltn lo hi (by omega) (by omega)).mpr q)
        obtain rfl : lo = hi := by omega
        exact ⟨lo, _, _, hn, hlo, hhi, G27⟩
theorem pn1 : plainName "com/example/borrar/borrar/minidump/FieldList" = true := by first | (simp [plainName, overriddenIn]; done) | decide +kernel
theorem ef2 (m : MethodId) (a : Addr) (x1 : Int32) (x2 : Int32) : entryFrame m #[(.ref a), (.int x1), (.int x2)] 6 = mkF m 0 #[.val (.ref a), .val (.int x1), .val (.int x2), .unset, .unset, .unset] [] := by first | (simp [entryFrame, mkF, argsToLocals, Value.category]; done) | rfl
def rm2 : Room := { frames := 0, cells := 0, slots := 0, locals := 0 }
set_option maxRecDepth 65536 in
set_option maxHeartbeats 40000000 in
theorem cn2 (l : Launch) (Z : State) (a0 : Array Value) (hw : ∀ d ∈ tables_1, d.before a0 Z = true) (a : Addr) (x1 : Int32) (x2 : Int32) (h0 : Heap) (n0 : Nat) (hn : n0 ≤ h0.size) (vs : List Value) (V0 : Av Z h0 a .int vs) (f : Nat → Int32) (N : Nat) (hN : N < 100) (hN0 : 0 < N) (hf : ∀ i, i < N → vs[i]? = some (.int (f i))) (hc : x1 - (1 : Int32) = Int32.ofNat (N - 1)) :
    Con l (⟨"com/example/borrar/borrar/minidump/FieldList", "lastAtMost", "([III)I"⟩ : MethodName) prog_49_method_16_code 6 (some .int) [] rm2 rm2.cells rm2.slots Z #[(.ref a), (.int x1), (.int x2)] h0 n0 (fun v h => ∃ r : Nat, v = some (.int (Int32.ofNat r)) ∧ h = h0 ∧ r < N ∧ (r = 0 ∨ ¬ x2 < f r) ∧ (r + 1 = N ∨ x2 < f (r + 1))) := by
  refine Con.of (plainFor_of_name pn1) hn (fun m => ef2 m a x1 x2) ?_
  intro p e s m below meth c s₀ hnm G0
  have G1 := G0.iconst (v := (0 : Int32)) (pc' := 1) d2_0
  have G2 := G1.istoreN (L' := #[.val (.ref a), .val (.int x1), .val (.int x2), .val (.int (0 : Int32)), .unset, .unset]) (pc' := 2) d2_1 rfl
  have G3 := G2.iloadN (v := x1) (pc' := 3) d2_2 rfl
  have G4 := G3.iconst (v := (1 : Int32)) (pc' := 4) d2_3
  have G5 := G4.isub (pc' := 5) d2_4
  rw [hc] at G5
  have G6 := G5.istore (L' := #[.val (.ref a), .val (.int x1), .val (.int x2), .val (.int (0 : Int32)), .val (.int (Int32.ofNat (N - 1))), .unset]) (pc' := 7) d2_5 rfl
  obtain ⟨r, o1, o2, r1, r2, r3, GL⟩ := own_loop p l e rm2 s m _ below meth c Z a0 hw n0 s₀ h0 0 0 a x1 x2 vs V0 f N hN hf _ 0 (N - 1) .unset (Nat.lt_succ_self _) (by omega) (by omega) (Or.inl rfl) (Or.inl (by omega)) (Or.inl rfl) G6
  have GM := GL.iloadN (v := Int32.ofNat r) (pc' := 47) d2_46 rfl
  exact GM.retI d2_47 rfl ⟨r, rfl, rfl, r1, r2, r3⟩
def own_f (v0 v1 v2 v3 v4 : Int32) : Nat → Int32
  | 0 => v0
  | 1 => v1
  | 2 => v2
  | 3 => v3
  | _ => v4
def own_cnt (x : Int64) : Int32 := (((((x.toUInt64 >>> ((32 : Int32) &&& 0x3f).toInt64.toUInt64).toInt64) &&& (2147483647 : Int64)) % (5 : Int64)).toInt32 + (1 : Int32))
theorem own_c (x : Int64) : 1 ≤ (own_cnt x).toInt ∧ (own_cnt x).toInt ≤ 5 := by
  unfold own_cnt
  generalize (x.toUInt64 >>> ((32 : Int32) &&& 0x3f).toInt64.toUInt64).toInt64 = y
  have m := c_maskL y 2147483647 31 (by decide) (by decide)
  have e0 : ((y &&& (2147483647 : Int64)) % (5 : Int64)).toInt = (y &&& (2147483647 : Int64)).toInt % 5 := by
    rw [Int64.toInt_mod]; exact Int.tmod_eq_emod_of_nonneg (by omega)
  have e1 := c_l2i ((y &&& (2147483647 : Int64)) % (5 : Int64))
  have e2 := c_iadd ((y &&& (2147483647 : Int64)) % (5 : Int64)).toInt32 1
  have r1 := rng32 ((y &&& (2147483647 : Int64)) % (5 : Int64)).toInt32
  have r2 := rng32 (((y &&& (2147483647 : Int64)) % (5 : Int64)).toInt32 + 1)
  have k : (1 : Int32).toInt = 1 := rfl
  rw [k] at e2
  omega
theorem own_cm (c : Int32) (h : 1 ≤ c.toInt ∧ c.toInt ≤ 5) : c - (1 : Int32) = Int32.ofNat (c.toInt.toNat - 1) := by
  apply Int32.toInt_inj.mp
  rw [own_i _ (by omega)]
  have e := c_isub c 1
  have r := rng32 (c - 1)
  have k : (1 : Int32).toInt = 1 := rfl
  rw [k] at e
  omega
theorem own_fn (v0 v1 v2 v3 v4 v5 : Int32) (N : Nat) (hN : N ≤ 5) : ∀ i, i < N → ([.int v0, .int v1, .int v2, .int v3, .int v4, .int v5] : List Value)[i]? = some (.int (own_f v0 v1 v2 v3 v4 i))
  | 0, _ => rfl
  | 1, _ => rfl
  | 2, _ => rfl
  | 3, _ => rfl
  | 4, _ => rfl
  | n + 5, h => absurd h (by omega)
theorem own_g (g : Int32) : 0 ≤ (fGap g).toInt ∧ (fGap g).toInt ≤ 536870911 := by
  unfold fGap
  have m := c_mask g 536870911 29 (by decide) (by decide)
  split
  · omega
  · decide
theorem own_A (b z : Int32) (h : z = (if (0 : Int32) < b then (-b) else b)) : -2147483648 ≤ z.toInt ∧ z.toInt ≤ 0 := by
  have r := rng32 b
  have e := c_ineg b
  have r2 := rng32 (-b)
  have k : (0 : Int32).toInt = 0 := rfl
  subst h
  split
  · rename_i q; rw [Int32.lt_iff_toInt_lt, k] at q; omega
  · rename_i q; rw [Int32.lt_iff_toInt_lt, k] at q; omega
theorem own_fin (A g1 g2 g3 g4 C V v1 v2 v3 v4 e1 e2 e3 e4 : Int32) (r : Nat) (hA : -2147483648 ≤ A.toInt ∧ A.toInt ≤ 0) (h1 : 0 ≤ g1.toInt ∧ g1.toInt ≤ 536870911) (h2 : 0 ≤ g2.toInt ∧ g2.toInt ≤ 536870911) (h3 : 0 ≤ g3.toInt ∧ g3.toInt ≤ 536870911) (h4 : 0 ≤ g4.toInt ∧ g4.toInt ≤ 536870911) (hC : 1 ≤ C.toInt ∧ C.toInt ≤ 5)
    (hv1 : v1 = if (1 : Int32) < C then A + g1 else (-2147483648 : Int32)) (hv2 : v2 = if (2 : Int32) < C then A + g1 + g2 else (-2147483648 : Int32)) (hv3 : v3 = if (3 : Int32) < C then A + g1 + g2 + g3 else (-2147483648 : Int32)) (hv4 : v4 = if (4 : Int32) < C then A + g1 + g2 + g3 + g4 else (-2147483648 : Int32))
    (he1 : e1 = if (1 : Int32) < C then (if V < A + g1 then (0 : Int32) else (1 : Int32)) else (0 : Int32)) (he2 : e2 = if (2 : Int32) < C then (if V < A + g1 + g2 then e1 else (2 : Int32)) else e1) (he3 : e3 = if (3 : Int32) < C then (if V < A + g1 + g2 + g3 then e2 else (3 : Int32)) else e2) (he4 : e4 = if (4 : Int32) < C then (if V < A + g1 + g2 + g3 + g4 then e3 else (4 : Int32)) else e3)
    (r1 : r < C.toInt.toNat) (r2 : r = 0 ∨ ¬ V < own_f A v1 v2 v3 v4 r) (r3 : r + 1 = C.toInt.toNat ∨ V < own_f A v1 v2 v3 v4 (r + 1)) : Int32.ofNat r = e4 := by
  have s1 := c_iadd A g1
  have s2 := c_iadd (A + g1) g2
  have s3 := c_iadd (A + g1 + g2) g3
  have s4 := c_iadd (A + g1 + g2 + g3) g4
  have q1 := rng32 (A + g1)
  have q2 := rng32 (A + g1 + g2)
  have q3 := rng32 (A + g1 + g2 + g3)
  have q4 := rng32 (A + g1 + g2 + g3 + g4)
  have k1 : (1 : Int32).toInt = 1 := rfl
  have k2 : (2 : Int32).toInt = 2 := rfl
  have k3 : (3 : Int32).toInt = 3 := rfl
  have k4 : (4 : Int32).toInt = 4 := rfl
  generalize A + g1 = a1 at *
  generalize a1 + g2 = a2 at *
  generalize a2 + g3 = a3 at *
  generalize a3 + g4 = a4 at *
  have a12 : a1.toInt ≤ a2.toInt := by omega
  have a23 : a2.toInt ≤ a3.toInt := by omega
  have a34 : a3.toInt ≤ a4.toInt := by omega
  clear s1 s2 s3 s4 q1 q2 q3 q4 h1 h2 h3 h4 hA
  have cc : C.toInt = 1 ∨ C.toInt = 2 ∨ C.toInt = 3 ∨ C.toInt = 4 ∨ C.toInt = 5 := by omega
  rcases cc with cc | cc | cc | cc | cc
  · have c1 : ¬ (1 : Int32) < C := by rw [Int32.lt_iff_toInt_lt, k1]; omega
    rw [if_neg c1] at hv1 he1
    have c2 : ¬ (2 : Int32) < C := by rw [Int32.lt_iff_toInt_lt, k2]; omega
    rw [if_neg c2] at hv2 he2
    have c3 : ¬ (3 : Int32) < C := by rw [Int32.lt_iff_toInt_lt, k3]; omega
    rw [if_neg c3] at hv3 he3
    have c4 : ¬ (4 : Int32) < C := by rw [Int32.lt_iff_toInt_lt, k4]; omega
    rw [if_neg c4] at hv4 he4
    rw [cc] at r1 r3
    have rr : r = 0 := by simp at r1; omega
    rcases rr with rfl
    rw [he4, he3, he2, he1]
    rfl
  · have c1 : (1 : Int32) < C := by rw [Int32.lt_iff_toInt_lt, k1]; omega
    rw [if_pos c1] at hv1 he1
    have c2 : ¬ (2 : Int32) < C := by rw [Int32.lt_iff_toInt_lt, k2]; omega
    rw [if_neg c2] at hv2 he2
    have c3 : ¬ (3 : Int32) < C := by rw [Int32.lt_iff_toInt_lt, k3]; omega
    rw [if_neg c3] at hv3 he3
    have c4 : ¬ (4 : Int32) < C := by rw [Int32.lt_iff_toInt_lt, k4]; omega
    rw [if_neg c4] at hv4 he4
    rw [cc] at r1 r3
    have rr : r = 0 ∨ r = 1 := by simp at r1; omega
    rcases rr with rfl | rfl
    · replace r3 : V < v1 := r3.resolve_left (by decide)
      rw [hv1, Int32.lt_iff_toInt_lt] at r3
      rw [if_pos (show V < a1 by rw [Int32.lt_iff_toInt_lt]; omega)] at he1
      rw [he4, he3, he2, he1]
      rfl
    · replace r2 : ¬ V < v1 := r2.resolve_left (by decide)
      rw [hv1, Int32.lt_iff_toInt_lt] at r2
      rw [if_neg (show ¬ V < a1 by rw [Int32.lt_iff_toInt_lt]; omega)] at he1
      rw [he4, he3, he2, he1]
      rfl
  · have c1 : (1 : Int32) < C := by rw [Int32.lt_iff_toInt_lt, k1]; omega
    rw [if_pos c1] at hv1 he1
    have c2 : (2 : Int32) < C := by rw [Int32.lt_iff_toInt_lt, k2]; omega
    rw [if_pos c2] at hv2 he2
    have c3 : ¬ (3 : Int32) < C := by rw [Int32.lt_iff_toInt_lt, k3]; omega
    rw [if_neg c3] at hv3 he3
    have c4 : ¬ (4 : Int32) < C := by rw [Int32.lt_iff_toInt_lt, k4]; omega
    rw [if_neg c4] at hv4 he4
    rw [cc] at r1 r3
    have rr : r = 0 ∨ r = 1 ∨ r = 2 := by simp at r1; omega
    rcases rr with rfl | rfl | rfl
    · replace r3 : V < v1 := r3.resolve_left (by decide)
      rw [hv1, Int32.lt_iff_toInt_lt] at r3
      rw [if_pos (show V < a1 by rw [Int32.lt_iff_toInt_lt]; omega)] at he1
      rw [if_pos (show V < a2 by rw [Int32.lt_iff_toInt_lt]; omega)] at he2
      rw [he4, he3, he2, he1]
      rfl
    · replace r2 : ¬ V < v1 := r2.resolve_left (by decide)
      rw [hv1, Int32.lt_iff_toInt_lt] at r2
      replace r3 : V < v2 := r3.resolve_left (by decide)
      rw [hv2, Int32.lt_iff_toInt_lt] at r3
      rw [if_neg (show ¬ V < a1 by rw [Int32.lt_iff_toInt_lt]; omega)] at he1
      rw [if_pos (show V < a2 by rw [Int32.lt_iff_toInt_lt]; omega)] at he2
      rw [he4, he3, he2, he1]
      rfl
    · replace r2 : ¬ V < v2 := r2.resolve_left (by decide)
      rw [hv2, Int32.lt_iff_toInt_lt] at r2
      rw [if_neg (show ¬ V < a1 by rw [Int32.lt_iff_toInt_lt]; omega)] at he1
      rw [if_neg (show ¬ V < a2 by rw [Int32.lt_iff_toInt_lt]; omega)] at he2
      rw [he4, he3, he2]
      rfl
  · have c1 : (1 : Int32) < C := by rw [Int32.lt_iff_toInt_lt, k1]; omega
    rw [if_pos c1] at hv1 he1
    have c2 : (2 : Int32) < C := by rw [Int32.lt_iff_toInt_lt, k2]; omega
    rw [if_pos c2] at hv2 he2
    have c3 : (3 : Int32) < C := by rw [Int32.lt_iff_toInt_lt, k3]; omega
    rw [if_pos c3] at hv3 he3
    have c4 : ¬ (4 : Int32) < C := by rw [Int32.lt_iff_toInt_lt, k4]; omega
    rw [if_neg c4] at hv4 he4
    rw [cc] at r1 r3
    have rr : r = 0 ∨ r = 1 ∨ r = 2 ∨ r = 3 := by simp at r1; omega
    rcases rr with rfl | rfl | rfl | rfl
    · replace r3 : V < v1 := r3.resolve_left (by decide)
      rw [hv1, Int32.lt_iff_toInt_lt] at r3
      rw [if_pos (show V < a1 by rw [Int32.lt_iff_toInt_lt]; omega)] at he1
      rw [if_pos (show V < a2 by rw [Int32.lt_iff_toInt_lt]; omega)] at he2
      rw [if_pos (show V < a3 by rw [Int32.lt_iff_toInt_lt]; omega)] at he3
      rw [he4, he3, he2, he1]
      rfl
    · replace r2 : ¬ V < v1 := r2.resolve_left (by decide)
      rw [hv1, Int32.lt_iff_toInt_lt] at r2
      replace r3 : V < v2 := r3.resolve_left (by decide)
      rw [hv2, Int32.lt_iff_toInt_lt] at r3
      rw [if_neg (show ¬ V < a1 by rw [Int32.lt_iff_toInt_lt]; omega)] at he1
      rw [if_pos (show V < a2 by rw [Int32.lt_iff_toInt_lt]; omega)] at he2
      rw [if_pos (show V < a3 by rw [Int32.lt_iff_toInt_lt]; omega)] at he3
      rw [he4, he3, he2, he1]
      rfl
    · replace r2 : ¬ V < v2 := r2.resolve_left (by decide)
      rw [hv2, Int32.lt_iff_toInt_lt] at r2
      replace r3 : V < v3 := r3.resolve_left (by decide)
      rw [hv3, Int32.lt_iff_toInt_lt] at r3
      rw [if_neg (show ¬ V < a1 by rw [Int32.lt_iff_toInt_lt]; omega)] at he1
      rw [if_neg (show ¬ V < a2 by rw [Int32.lt_iff_toInt_lt]; omega)] at he2
      rw [if_pos (show V < a3 by rw [Int32.lt_iff_toInt_lt]; omega)] at he3
      rw [he4, he3, he2]
      rfl
    · replace r2 : ¬ V < v3 := r2.resolve_left (by decide)
      rw [hv3, Int32.lt_iff_toInt_lt] at r2
      rw [if_neg (show ¬ V < a1 by rw [Int32.lt_iff_toInt_lt]; omega)] at he1
      rw [if_neg (show ¬ V < a2 by rw [Int32.lt_iff_toInt_lt]; omega)] at he2
      rw [if_neg (show ¬ V < a3 by rw [Int32.lt_iff_toInt_lt]; omega)] at he3
      rw [he4, he3]
      rfl
  · have c1 : (1 : Int32) < C := by rw [Int32.lt_iff_toInt_lt, k1]; omega
    rw [if_pos c1] at hv1 he1
    have c2 : (2 : Int32) < C := by rw [Int32.lt_iff_toInt_lt, k2]; omega
    rw [if_pos c2] at hv2 he2
    have c3 : (3 : Int32) < C := by rw [Int32.lt_iff_toInt_lt, k3]; omega
    rw [if_pos c3] at hv3 he3
    have c4 : (4 : Int32) < C := by rw [Int32.lt_iff_toInt_lt, k4]; omega
    rw [if_pos c4] at hv4 he4
    rw [cc] at r1 r3
    have rr : r = 0 ∨ r = 1 ∨ r = 2 ∨ r = 3 ∨ r = 4 := by simp at r1; omega
    rcases rr with rfl | rfl | rfl | rfl | rfl
    · replace r3 : V < v1 := r3.resolve_left (by decide)
      rw [hv1, Int32.lt_iff_toInt_lt] at r3
      rw [if_pos (show V < a1 by rw [Int32.lt_iff_toInt_lt]; omega)] at he1
      rw [if_pos (show V < a2 by rw [Int32.lt_iff_toInt_lt]; omega)] at he2
      rw [if_pos (show V < a3 by rw [Int32.lt_iff_toInt_lt]; omega)] at he3
      rw [if_pos (show V < a4 by rw [Int32.lt_iff_toInt_lt]; omega)] at he4
      rw [he4, he3, he2, he1]
      rfl
    · replace r2 : ¬ V < v1 := r2.resolve_left (by decide)
      rw [hv1, Int32.lt_iff_toInt_lt] at r2
      replace r3 : V < v2 := r3.resolve_left (by decide)
      rw [hv2, Int32.lt_iff_toInt_lt] at r3
      rw [if_neg (show ¬ V < a1 by rw [Int32.lt_iff_toInt_lt]; omega)] at he1
      rw [if_pos (show V < a2 by rw [Int32.lt_iff_toInt_lt]; omega)] at he2
      rw [if_pos (show V < a3 by rw [Int32.lt_iff_toInt_lt]; omega)] at he3
      rw [if_pos (show V < a4 by rw [Int32.lt_iff_toInt_lt]; omega)] at he4
      rw [he4, he3, he2, he1]
      rfl
    · replace r2 : ¬ V < v2 := r2.resolve_left (by decide)
      rw [hv2, Int32.lt_iff_toInt_lt] at r2
      replace r3 : V < v3 := r3.resolve_left (by decide)
      rw [hv3, Int32.lt_iff_toInt_lt] at r3
      rw [if_neg (show ¬ V < a1 by rw [Int32.lt_iff_toInt_lt]; omega)] at he1
      rw [if_neg (show ¬ V < a2 by rw [Int32.lt_iff_toInt_lt]; omega)] at he2
      rw [if_pos (show V < a3 by rw [Int32.lt_iff_toInt_lt]; omega)] at he3
      rw [if_pos (show V < a4 by rw [Int32.lt_iff_toInt_lt]; omega)] at he4
      rw [he4, he3, he2]
      rfl
    · replace r2 : ¬ V < v3 := r2.resolve_left (by decide)
      rw [hv3, Int32.lt_iff_toInt_lt] at r2
      replace r3 : V < v4 := r3.resolve_left (by decide)
      rw [hv4, Int32.lt_iff_toInt_lt] at r3
      rw [if_neg (show ¬ V < a1 by rw [Int32.lt_iff_toInt_lt]; omega)] at he1
      rw [if_neg (show ¬ V < a2 by rw [Int32.lt_iff_toInt_lt]; omega)] at he2
      rw [if_neg (show ¬ V < a3 by rw [Int32.lt_iff_toInt_lt]; omega)] at he3
      rw [if_pos (show V < a4 by rw [Int32.lt_iff_toInt_lt]; omega)] at he4
      rw [he4, he3]
      rfl
    · replace r2 : ¬ V < v4 := r2.resolve_left (by decide)
      rw [hv4, Int32.lt_iff_toInt_lt] at r2
      rw [if_neg (show ¬ V < a1 by rw [Int32.lt_iff_toInt_lt]; omega)] at he1
      rw [if_neg (show ¬ V < a2 by rw [Int32.lt_iff_toInt_lt]; omega)] at he2
      rw [if_neg (show ¬ V < a3 by rw [Int32.lt_iff_toInt_lt]; omega)] at he3
      rw [if_neg (show ¬ V < a4 by rw [Int32.lt_iff_toInt_lt]; omega)] at he4
      rw [he4]
      rfl
theorem ef0 (m : MethodId) (x0 : Int32) (x1 : Int32) (x2 : Int32) (x3 : Int32) (x4 : Int32) (x5 : Int64) : entryFrame m #[(.int x0), (.int x1), (.int x2), (.int x3), (.int x4), (.long x5)] maxLocals = mkF m 0 #[.val (.int x0), .val (.int x1), .val (.int x2), .val (.int x3), .val (.int x4), .val (.long x5), .second, .unset, .unset, .unset, .unset, .unset, .unset, .unset, .unset, .unset] [] := by first | (simp [entryFrame, mkF, argsToLocals, Value.category, maxLocals]; done) | rfl
theorem pd0 : parseMethodDescriptor "(I)I" = some ⟨[.int], some .int⟩ := by decide +kernel
theorem pd1 : parseMethodDescriptor "([III)I" = some ⟨[(.array .int), .int, .int], some .int⟩ := by decide +kernel
set_option maxRecDepth 65536 in
set_option maxHeartbeats 40000000 in
theorem lawc (l : Launch) (Z : State) (a0 : Array Value) (hw : ∀ d ∈ tables_1, d.before a0 Z = true) (x0 : Int32) (x1 : Int32) (x2 : Int32) (x3 : Int32) (x4 : Int32) (x5 : Int64) (h0 : Heap) (n0 : Nat) (hn : n0 ≤ h0.size) :
    Con l x code maxLocals ret tables_1 room_1 16 128 Z #[(.int x0), (.int x1), (.int x2), (.int x3), (.int x4), (.long x5)] h0 n0 (fun v _ => v = some (.int 1)) := by
  refine Con.of (plainFor_of_name pn0) hn (fun m => ef0 m x0 x1 x2 x3 x4 x5) ?_
  intro p e s m below meth c s₀ hnm G0
  have G1 := G0.iloadN (v := x0) (pc' := 1) at_0 rfl
  obtain ⟨zA, e_zA, G8⟩ : ∃ zA : Int32, zA = (if (0 : Int32) < x0 then (-x0) else x0) ∧ Go p l e room_1 s m #[(.int x0), (.int x1), (.int x2), (.int x3), (.int x4), (.long x5)] below meth c Z x.cls code maxLocals ret n0 s₀ h0 0 0 10 #[.val (.int x0), .val (.int x1), .val (.int x2), .val (.int x3), .val (.int x4), .val (.long x5), .second, .unset, .unset, .unset, .unset, .unset, .unset, .unset, .unset, .unset] [(.int zA)] := by
    by_cases c1_1 : (0 : Int32) < x0
    · have G2 := G1.ifN at_1 4 (Jvm.Free.XT.i0_le_f c1_1)
      have G3 := G2.iloadN (v := x0) (pc' := 5) at_4 rfl
      have G4 := G3.ineg (pc' := 6) at_5
      have G5 := G4.goto at_6 10
      exact ⟨(-x0), by rw [if_pos c1_1], G5⟩
    · have G6 := G1.ifY at_1 9 (Jvm.Free.XT.i0_le_t c1_1)
      have G7 := G6.iloadN (v := x0) (pc' := 10) at_9 rfl
      exact ⟨x0, by rw [if_neg c1_1], G7⟩
  have G9 := G8.istore (L' := #[.val (.int x0), .val (.int x1), .val (.int x2), .val (.int x3), .val (.int x4), .val (.long x5), .second, .val (.int zA), .unset, .unset, .unset, .unset, .unset, .unset, .unset, .unset]) (pc' := 12) at_10 rfl
  have G10 := G9.iload (v := zA) (pc' := 14) at_12 rfl
  have G11 := G10.iloadN (v := x1) (pc' := 15) at_14 rfl
  obtain ⟨v12, h12, ⟨ev12, eh12⟩, g12⟩ := G11.callS (argsL := [(.int x1)]) (rest := [(.int zA)]) (pc' := 18) (k' := 0) (j' := 0) (cn1 l Z a0 hw x1 h0 n0 G11.size) rfl (hw _ (List.mem_of_getElem? (i := 0) rfl)) (hw _ (List.mem_of_getElem? (i := 1) rfl)) (hw _ (List.mem_of_getElem? (i := 2) rfl)) (hw _ (List.mem_of_getElem? (i := 3) rfl)) (by decide) at_15 pd0 rfl (W := 1) rfl rfl (by decide) (by decide) (by decide) (by decide) rfl rfl rfl
  subst ev12
  rw [eh12] at g12
  have G12 := g12 [(.int (fGap x1)), (.int zA)] rfl
  have G13 := G12.iadd (pc' := 19) at_18
  have G14 := G13.istore (L' := #[.val (.int x0), .val (.int x1), .val (.int x2), .val (.int x3), .val (.int x4), .val (.long x5), .second, .val (.int zA), .val (.int (zA + (fGap x1))), .unset, .unset, .unset, .unset, .unset, .unset, .unset]) (pc' := 21) at_19 rfl
  have G15 := G14.iload (v := (zA + (fGap x1))) (pc' := 23) at_21 rfl
  have G16 := G15.iloadN (v := x2) (pc' := 24) at_23 rfl
  obtain ⟨v17, h17, ⟨ev17, eh17⟩, g17⟩ := G16.callS (argsL := [(.int x2)]) (rest := [(.int (zA + (fGap x1)))]) (pc' := 27) (k' := 0) (j' := 0) (cn1 l Z a0 hw x2 h0 n0 G16.size) rfl (hw _ (List.mem_of_getElem? (i := 0) rfl)) (hw _ (List.mem_of_getElem? (i := 1) rfl)) (hw _ (List.mem_of_getElem? (i := 2) rfl)) (hw _ (List.mem_of_getElem? (i := 3) rfl)) (by decide) at_24 pd0 rfl (W := 1) rfl rfl (by decide) (by decide) (by decide) (by decide) rfl rfl rfl
  subst ev17
  rw [eh17] at g17
  have G17 := g17 [(.int (fGap x2)), (.int (zA + (fGap x1)))] rfl
  have G18 := G17.iadd (pc' := 28) at_27
  have G19 := G18.istore (L' := #[.val (.int x0), .val (.int x1), .val (.int x2), .val (.int x3), .val (.int x4), .val (.long x5), .second, .val (.int zA), .val (.int (zA + (fGap x1))), .val (.int ((zA + (fGap x1)) + (fGap x2))), .unset, .unset, .unset, .unset, .unset, .unset]) (pc' := 30) at_28 rfl
  have G20 := G19.iload (v := ((zA + (fGap x1)) + (fGap x2))) (pc' := 32) at_30 rfl
  have G21 := G20.iloadN (v := x3) (pc' := 33) at_32 rfl
  obtain ⟨v22, h22, ⟨ev22, eh22⟩, g22⟩ := G21.callS (argsL := [(.int x3)]) (rest := [(.int ((zA + (fGap x1)) + (fGap x2)))]) (pc' := 36) (k' := 0) (j' := 0) (cn1 l Z a0 hw x3 h0 n0 G21.size) rfl (hw _ (List.mem_of_getElem? (i := 0) rfl)) (hw _ (List.mem_of_getElem? (i := 1) rfl)) (hw _ (List.mem_of_getElem? (i := 2) rfl)) (hw _ (List.mem_of_getElem? (i := 3) rfl)) (by decide) at_33 pd0 rfl (W := 1) rfl rfl (by decide) (by decide) (by decide) (by decide) rfl rfl rfl
  subst ev22
  rw [eh22] at g22
  have G22 := g22 [(.int (fGap x3)), (.int ((zA + (fGap x1)) + (fGap x2)))] rfl
  have G23 := G22.iadd (pc' := 37) at_36
  have G24 := G23.istore (L' := #[.val (.int x0), .val (.int x1), .val (.int x2), .val (.int x3), .val (.int x4), .val (.long x5), .second, .val (.int zA), .val (.int (zA + (fGap x1))), .val (.int ((zA + (fGap x1)) + (fGap x2))), .val (.int (((zA + (fGap x1)) + (fGap x2)) + (fGap x3))), .unset, .unset, .unset, .unset, .unset]) (pc' := 39) at_37 rfl
  have G25 := G24.iload (v := (((zA + (fGap x1)) + (fGap x2)) + (fGap x3))) (pc' := 41) at_39 rfl
  have G26 := G25.iload (v := x4) (pc' := 43) at_41 rfl
  obtain ⟨v27, h27, ⟨ev27, eh27⟩, g27⟩ := G26.callS (argsL := [(.int x4)]) (rest := [(.int (((zA + (fGap x1)) + (fGap x2)) + (fGap x3)))]) (pc' := 46) (k' := 0) (j' := 0) (cn1 l Z a0 hw x4 h0 n0 G26.size) rfl (hw _ (List.mem_of_getElem? (i := 0) rfl)) (hw _ (List.mem_of_getElem? (i := 1) rfl)) (hw _ (List.mem_of_getElem? (i := 2) rfl)) (hw _ (List.mem_of_getElem? (i := 3) rfl)) (by decide) at_43 pd0 rfl (W := 1) rfl rfl (by decide) (by decide) (by decide) (by decide) rfl rfl rfl
  subst ev27
  rw [eh27] at g27
  have G27 := g27 [(.int (fGap x4)), (.int (((zA + (fGap x1)) + (fGap x2)) + (fGap x3)))] rfl
  have G28 := G27.iadd (pc' := 47) at_46
  have G29 := G28.istore (L' := #[.val (.int x0), .val (.int x1), .val (.int x2), .val (.int x3), .val (.int x4), .val (.long x5), .second, .val (.int zA), .val (.int (zA + (fGap x1))), .val (.int ((zA + (fGap x1)) + (fGap x2))), .val (.int (((zA + (fGap x1)) + (fGap x2)) + (fGap x3))), .val (.int ((((zA + (fGap x1)) + (fGap x2)) + (fGap x3)) + (fGap x4))), .unset, .unset, .unset, .unset]) (pc' := 49) at_47 rfl
  have G30 := G29.lload (v := x5) (pc' := 51) at_49 rfl
  have G31 := G30.bipush (v := (32 : Int32)) (pc' := 53) at_51
  have G32 := G31.lushr (pc' := 54) at_53
  have G33 := G32.ldc2 (v := (2147483647 : Int64)) (pc' := 57) (hw _ (List.mem_of_getElem? (i := 6) rfl)) at_54
  have G34 := G33.land (pc' := 58) at_57
  have G35 := G34.ldc2 (v := (5 : Int64)) (pc' := 61) (hw _ (List.mem_of_getElem? (i := 7) rfl)) at_58
  have G36 := G35.lrem (pc' := 62) at_61 (by decide)
  have G37 := G36.l2i (pc' := 63) at_62
  have G38 := G37.iconst (v := (1 : Int32)) (pc' := 64) at_63
  have G39 := G38.iadd (pc' := 65) at_64
  have G40 := G39.istore (L' := #[.val (.int x0), .val (.int x1), .val (.int x2), .val (.int x3), .val (.int x4), .val (.long x5), .second, .val (.int zA), .val (.int (zA + (fGap x1))), .val (.int ((zA + (fGap x1)) + (fGap x2))), .val (.int (((zA + (fGap x1)) + (fGap x2)) + (fGap x3))), .val (.int ((((zA + (fGap x1)) + (fGap x2)) + (fGap x3)) + (fGap x4))), .val (.int (((((x5.toUInt64 >>> ((32 : Int32) &&& 0x3f).toInt64.toUInt64).toInt64) &&& (2147483647 : Int64)) % (5 : Int64)).toInt32 + (1 : Int32))), .unset, .unset, .unset]) (pc' := 67) at_65 rfl
  have G41 := G40.lload (v := x5) (pc' := 69) at_67 rfl
  have G42 := G41.l2i (pc' := 70) at_69
  have G43 := G42.istore (L' := #[.val (.int x0), .val (.int x1), .val (.int x2), .val (.int x3), .val (.int x4), .val (.long x5), .second, .val (.int zA), .val (.int (zA + (fGap x1))), .val (.int ((zA + (fGap x1)) + (fGap x2))), .val (.int (((zA + (fGap x1)) + (fGap x2)) + (fGap x3))), .val (.int ((((zA + (fGap x1)) + (fGap x2)) + (fGap x3)) + (fGap x4))), .val (.int (((((x5.toUInt64 >>> ((32 : Int32) &&& 0x3f).toInt64.toUInt64).toInt64) &&& (2147483647 : Int64)) % (5 : Int64)).toInt32 + (1 : Int32))), .val (.int x5.toInt32), .unset, .unset]) (pc' := 72) at_70 rfl
  have G44 := G43.bipush (v := (6 : Int32)) (pc' := 74) at_72
  obtain ⟨a45, h45, ea45, g_a45, X45, V45, G45⟩ := G44.newA (ty := .int) (dv := (.int (0 : Int32))) (N := 6) (cap := 6) (pc' := 76) (k' := 1) (j' := 6) (hw _ (List.mem_of_getElem? (i := 8) rfl)) at_74 rfl rfl (by decide) (by decide) (by decide) rfl rfl rfl (by decide) (by decide)
  have V46 : Av Z h45 a45 .int [(.int (0 : Int32)), (.int (0 : Int32)), (.int (0 : Int32)), (.int (0 : Int32)), (.int (0 : Int32)), (.int (0 : Int32))] := V45
  have G47 := G45.astore (L' := #[.val (.int x0), .val (.int x1), .val (.int x2), .val (.int x3), .val (.int x4), .val (.long x5), .second, .val (.int zA), .val (.int (zA + (fGap x1))), .val (.int ((zA + (fGap x1)) + (fGap x2))), .val (.int (((zA + (fGap x1)) + (fGap x2)) + (fGap x3))), .val (.int ((((zA + (fGap x1)) + (fGap x2)) + (fGap x3)) + (fGap x4))), .val (.int (((((x5.toUInt64 >>> ((32 : Int32) &&& 0x3f).toInt64.toUInt64).toInt64) &&& (2147483647 : Int64)) % (5 : Int64)).toInt32 + (1 : Int32))), .val (.int x5.toInt32), .val (.ref a45), .unset]) (pc' := 78) at_76 rfl
  have G48 := G47.aload (v := (.ref a45)) (pc' := 80) at_78 rfl
  have G49 := G48.iconst (v := (0 : Int32)) (pc' := 81) at_80
  have G50 := G49.iload (v := zA) (pc' := 83) at_81 rfl
  obtain ⟨h51, W51, V51, G51⟩ := G50.stI (i := 0) (pc' := 84) V46 g_a45 (by decide) (by show 0 < 6; decide) at_83
  have V52 : Av Z h51 a45 .int [(.int zA), (.int (0 : Int32)), (.int (0 : Int32)), (.int (0 : Int32)), (.int (0 : Int32)), (.int (0 : Int32))] := V51
  have G53 := G51.aload (v := (.ref a45)) (pc' := 86) at_84 rfl
  have G54 := G53.iconst (v := (1 : Int32)) (pc' := 87) at_86
  have G55 := G54.iload (v := (((((x5.toUInt64 >>> ((32 : Int32) &&& 0x3f).toInt64.toUInt64).toInt64) &&& (2147483647 : Int64)) % (5 : Int64)).toInt32 + (1 : Int32))) (pc' := 89) at_87 rfl
  have G56 := G55.iconst (v := (1 : Int32)) (pc' := 90) at_89
  obtain ⟨zv1, e_zv1, G62⟩ : ∃ zv1 : Int32, zv1 = (if (1 : Int32) < (((((x5.toUInt64 >>> ((32 : Int32) &&& 0x3f).toInt64.toUInt64).toInt64) &&& (2147483647 : Int64)) % (5 : Int64)).toInt32 + (1 : Int32)) then (zA + (fGap x1)) else (-2147483648 : Int32)) ∧ Go p l e room_1 s m #[(.int x0), (.int x1), (.int x2), (.int x3), (.int x4), (.long x5)] below meth c Z x.cls code maxLocals ret n0 s₀ h51 1 6 100 #[.val (.int x0), .val (.int x1), .val (.int x2), .val (.int x3), .val (.int x4), .val (.long x5), .second, .val (.int zA), .val (.int (zA + (fGap x1))), .val (.int ((zA + (fGap x1)) + (fGap x2))), .val (.int (((zA + (fGap x1)) + (fGap x2)) + (fGap x3))), .val (.int ((((zA + (fGap x1)) + (fGap x2)) + (fGap x3)) + (fGap x4))), .val (.int (((((x5.toUInt64 >>> ((32 : Int32) &&& 0x3f).toInt64.toUInt64).toInt64) &&& (2147483647 : Int64)) % (5 : Int64)).toInt32 + (1 : Int32))), .val (.int x5.toInt32), .val (.ref a45), .unset] [(.int zv1), (.int (1 : Int32)), (.ref a45)] := by
    by_cases c90_56 : (1 : Int32) < (((((x5.toUInt64 >>> ((32 : Int32) &&& 0x3f).toInt64.toUInt64).toInt64) &&& (2147483647 : Int64)) % (5 : Int64)).toInt32 + (1 : Int32))
    · have G57 := G56.icmpN at_90 93 (Jvm.Free.XT.ii_le_f c90_56)
      have G58 := G57.iload (v := (zA + (fGap x1))) (pc' := 95) at_93 rfl
      have G59 := G58.goto at_95 100
      exact ⟨(zA + (fGap x1)), by rw [if_pos c90_56], G59⟩
    · have G60 := G56.icmpY at_90 98 (Jvm.Free.XT.ii_le_t c90_56)
      have G61 := G60.ldc (v := (-2147483648 : Int32)) (pc' := 100) (hw _ (List.mem_of_getElem? (i := 9) rfl)) at_98
      exact ⟨(-2147483648 : Int32), by rw [if_neg c90_56], G61⟩
  obtain ⟨h63, W63, V63, G63⟩ := G62.stI (i := 1) (pc' := 101) V52 g_a45 (by decide) (by show 1 < 6; decide) at_100
  have V64 : Av Z h63 a45 .int [(.int zA), (.int zv1), (.int (0 : Int32)), (.int (0 : Int32)), (.int (0 : Int32)), (.int (0 : Int32))] := V63
  have G65 := G63.aload (v := (.ref a45)) (pc' := 103) at_101 rfl
  have G66 := G65.iconst (v := (2 : Int32)) (pc' := 104) at_103
  have G67 := G66.iload (v := (((((x5.toUInt64 >>> ((32 : Int32) &&& 0x3f).toInt64.toUInt64).toInt64) &&& (2147483647 : Int64)) % (5 : Int64)).toInt32 + (1 : Int32))) (pc' := 106) at_104 rfl
  have G68 := G67.iconst (v := (2 : Int32)) (pc' := 107) at_106
  obtain ⟨zv2, e_zv2, G74⟩ : ∃ zv2 : Int32, zv2 = (if (2 : Int32) < (((((x5.toUInt64 >>> ((32 : Int32) &&& 0x3f).toInt64.toUInt64).toInt64) &&& (2147483647 : Int64)) % (5 : Int64)).toInt32 + (1 : Int32)) then ((zA + (fGap x1)) + (fGap x2)) else (-2147483648 : Int32)) ∧ Go p l e room_1 s m #[(.int x0), (.int x1), (.int x2), (.int x3), (.int x4), (.long x5)] below meth c Z x.cls code maxLocals ret n0 s₀ h63 1 6 117 #[.val (.int x0), .val (.int x1), .val (.int x2), .val (.int x3), .val (.int x4), .val (.long x5), .second, .val (.int zA), .val (.int (zA + (fGap x1))), .val (.int ((zA + (fGap x1)) + (fGap x2))), .val (.int (((zA + (fGap x1)) + (fGap x2)) + (fGap x3))), .val (.int ((((zA + (fGap x1)) + (fGap x2)) + (fGap x3)) + (fGap x4))), .val (.int (((((x5.toUInt64 >>> ((32 : Int32) &&& 0x3f).toInt64.toUInt64).toInt64) &&& (2147483647 : Int64)) % (5 : Int64)).toInt32 + (1 : Int32))), .val (.int x5.toInt32), .val (.ref a45), .unset] [(.int zv2), (.int (2 : Int32)), (.ref a45)] := by
    by_cases c107_68 : (2 : Int32) < (((((x5.toUInt64 >>> ((32 : Int32) &&& 0x3f).toInt64.toUInt64).toInt64) &&& (2147483647 : Int64)) % (5 : Int64)).toInt32 + (1 : Int32))
    · have G69 := G68.icmpN at_107 110 (Jvm.Free.XT.ii_le_f c107_68)
      have G70 := G69.iload (v := ((zA + (fGap x1)) + (fGap x2))) (pc' := 112) at_110 rfl
      have G71 := G70.goto at_112 117
      exact ⟨((zA + (fGap x1)) + (fGap x2)), by rw [if_pos c107_68], G71⟩
    · have G72 := G68.icmpY at_107 115 (Jvm.Free.XT.ii_le_t c107_68)
      have G73 := G72.ldc (v := (-2147483648 : Int32)) (pc' := 117) (hw _ (List.mem_of_getElem? (i := 9) rfl)) at_115
      exact ⟨(-2147483648 : Int32), by rw [if_neg c107_68], G73⟩
  obtain ⟨h75, W75, V75, G75⟩ := G74.stI (i := 2) (pc' := 118) V64 g_a45 (by decide) (by show 2 < 6; decide) at_117
  have V76 : Av Z h75 a45 .int [(.int zA), (.int zv1), (.int zv2), (.int (0 : Int32)), (.int (0 : Int32)), (.int (0 : Int32))] := V75
  have G77 := G75.aload (v := (.ref a45)) (pc' := 120) at_118 rfl
  have G78 := G77.iconst (v := (3 : Int32)) (pc' := 121) at_120
  have G79 := G78.iload (v := (((((x5.toUInt64 >>> ((32 : Int32) &&& 0x3f).toInt64.toUInt64).toInt64) &&& (2147483647 : Int64)) % (5 : Int64)).toInt32 + (1 : Int32))) (pc' := 123) at_121 rfl
  have G80 := G79.iconst (v := (3 : Int32)) (pc' := 124) at_123
  obtain ⟨zv3, e_zv3, G86⟩ : ∃ zv3 : Int32, zv3 = (if (3 : Int32) < (((((x5.toUInt64 >>> ((32 : Int32) &&& 0x3f).toInt64.toUInt64).toInt64) &&& (2147483647 : Int64)) % (5 : Int64)).toInt32 + (1 : Int32)) then (((zA + (fGap x1)) + (fGap x2)) + (fGap x3)) else (-2147483648 : Int32)) ∧ Go p l e room_1 s m #[(.int x0), (.int x1), (.int x2), (.int x3), (.int x4), (.long x5)] below meth c Z x.cls code maxLocals ret n0 s₀ h75 1 6 134 #[.val (.int x0), .val (.int x1), .val (.int x2), .val (.int x3), .val (.int x4), .val (.long x5), .second, .val (.int zA), .val (.int (zA + (fGap x1))), .val (.int ((zA + (fGap x1)) + (fGap x2))), .val (.int (((zA + (fGap x1)) + (fGap x2)) + (fGap x3))), .val (.int ((((zA + (fGap x1)) + (fGap x2)) + (fGap x3)) + (fGap x4))), .val (.int (((((x5.toUInt64 >>> ((32 : Int32) &&& 0x3f).toInt64.toUInt64).toInt64) &&& (2147483647 : Int64)) % (5 : Int64)).toInt32 + (1 : Int32))), .val (.int x5.toInt32), .val (.ref a45), .unset] [(.int zv3), (.int (3 : Int32)), (.ref a45)] := by
    by_cases c124_80 : (3 : Int32) < (((((x5.toUInt64 >>> ((32 : Int32) &&& 0x3f).toInt64.toUInt64).toInt64) &&& (2147483647 : Int64)) % (5 : Int64)).toInt32 + (1 : Int32))
    · have G81 := G80.icmpN at_124 127 (Jvm.Free.XT.ii_le_f c124_80)
      have G82 := G81.iload (v := (((zA + (fGap x1)) + (fGap x2)) + (fGap x3))) (pc' := 129) at_127 rfl
      have G83 := G82.goto at_129 134
      exact ⟨(((zA + (fGap x1)) + (fGap x2)) + (fGap x3)), by rw [if_pos c124_80], G83⟩
    · have G84 := G80.icmpY at_124 132 (Jvm.Free.XT.ii_le_t c124_80)
      have G85 := G84.ldc (v := (-2147483648 : Int32)) (pc' := 134) (hw _ (List.mem_of_getElem? (i := 9) rfl)) at_132
      exact ⟨(-2147483648 : Int32), by rw [if_neg c124_80], G85⟩
  obtain ⟨h87, W87, V87, G87⟩ := G86.stI (i := 3) (pc' := 135) V76 g_a45 (by decide) (by show 3 < 6; decide) at_134
  have V88 : Av Z h87 a45 .int [(.int zA), (.int zv1), (.int zv2), (.int zv3), (.int (0 : Int32)), (.int (0 : Int32))] := V87
  have G89 := G87.aload (v := (.ref a45)) (pc' := 137) at_135 rfl
  have G90 := G89.iconst (v := (4 : Int32)) (pc' := 138) at_137
  have G91 := G90.iload (v := (((((x5.toUInt64 >>> ((32 : Int32) &&& 0x3f).toInt64.toUInt64).toInt64) &&& (2147483647 : Int64)) % (5 : Int64)).toInt32 + (1 : Int32))) (pc' := 140) at_138 rfl
  have G92 := G91.iconst (v := (4 : Int32)) (pc' := 141) at_140
  obtain ⟨zv4, e_zv4, G98⟩ : ∃ zv4 : Int32, zv4 = (if (4 : Int32) < (((((x5.toUInt64 >>> ((32 : Int32) &&& 0x3f).toInt64.toUInt64).toInt64) &&& (2147483647 : Int64)) % (5 : Int64)).toInt32 + (1 : Int32)) then ((((zA + (fGap x1)) + (fGap x2)) + (fGap x3)) + (fGap x4)) else (-2147483648 : Int32)) ∧ Go p l e room_1 s m #[(.int x0), (.int x1), (.int x2), (.int x3), (.int x4), (.long x5)] below meth c Z x.cls code maxLocals ret n0 s₀ h87 1 6 151 #[.val (.int x0), .val (.int x1), .val (.int x2), .val (.int x3), .val (.int x4), .val (.long x5), .second, .val (.int zA), .val (.int (zA + (fGap x1))), .val (.int ((zA + (fGap x1)) + (fGap x2))), .val (.int (((zA + (fGap x1)) + (fGap x2)) + (fGap x3))), .val (.int ((((zA + (fGap x1)) + (fGap x2)) + (fGap x3)) + (fGap x4))), .val (.int (((((x5.toUInt64 >>> ((32 : Int32) &&& 0x3f).toInt64.toUInt64).toInt64) &&& (2147483647 : Int64)) % (5 : Int64)).toInt32 + (1 : Int32))), .val (.int x5.toInt32), .val (.ref a45), .unset] [(.int zv4), (.int (4 : Int32)), (.ref a45)] := by
    by_cases c141_92 : (4 : Int32) < (((((x5.toUInt64 >>> ((32 : Int32) &&& 0x3f).toInt64.toUInt64).toInt64) &&& (2147483647 : Int64)) % (5 : Int64)).toInt32 + (1 : Int32))
    · have G93 := G92.icmpN at_141 144 (Jvm.Free.XT.ii_le_f c141_92)
      have G94 := G93.iload (v := ((((zA + (fGap x1)) + (fGap x2)) + (fGap x3)) + (fGap x4))) (pc' := 146) at_144 rfl
      have G95 := G94.goto at_146 151
      exact ⟨((((zA + (fGap x1)) + (fGap x2)) + (fGap x3)) + (fGap x4)), by rw [if_pos c141_92], G95⟩
    · have G96 := G92.icmpY at_141 149 (Jvm.Free.XT.ii_le_t c141_92)
      have G97 := G96.ldc (v := (-2147483648 : Int32)) (pc' := 151) (hw _ (List.mem_of_getElem? (i := 9) rfl)) at_149
      exact ⟨(-2147483648 : Int32), by rw [if_neg c141_92], G97⟩
  obtain ⟨h99, W99, V99, G99⟩ := G98.stI (i := 4) (pc' := 152) V88 g_a45 (by decide) (by show 4 < 6; decide) at_151
  have V100 : Av Z h99 a45 .int [(.int zA), (.int zv1), (.int zv2), (.int zv3), (.int zv4), (.int (0 : Int32))] := V99
  have G101 := G99.aload (v := (.ref a45)) (pc' := 154) at_152 rfl
  have G102 := G101.iconst (v := (5 : Int32)) (pc' := 155) at_154
  have G103 := G102.ldc (v := (-2147483648 : Int32)) (pc' := 157) (hw _ (List.mem_of_getElem? (i := 9) rfl)) at_155
  obtain ⟨h104, W104, V104, G104⟩ := G103.stI (i := 5) (pc' := 158) V100 g_a45 (by decide) (by show 5 < 6; decide) at_157
  have V105 : Av Z h104 a45 .int [(.int zA), (.int zv1), (.int zv2), (.int zv3), (.int zv4), (.int (-2147483648 : Int32))] := V104
  have G106 := G104.iconst (v := (0 : Int32)) (pc' := 159) at_158
  have G107 := G106.istore (L' := #[.val (.int x0), .val (.int x1), .val (.int x2), .val (.int x3), .val (.int x4), .val (.long x5), .second, .val (.int zA), .val (.int (zA + (fGap x1))), .val (.int ((zA + (fGap x1)) + (fGap x2))), .val (.int (((zA + (fGap x1)) + (fGap x2)) + (fGap x3))), .val (.int ((((zA + (fGap x1)) + (fGap x2)) + (fGap x3)) + (fGap x4))), .val (.int (((((x5.toUInt64 >>> ((32 : Int32) &&& 0x3f).toInt64.toUInt64).toInt64) &&& (2147483647 : Int64)) % (5 : Int64)).toInt32 + (1 : Int32))), .val (.int x5.toInt32), .val (.ref a45), .val (.int (0 : Int32))]) (pc' := 161) at_159 rfl
  have G108 := G107.iload (v := (((((x5.toUInt64 >>> ((32 : Int32) &&& 0x3f).toInt64.toUInt64).toInt64) &&& (2147483647 : Int64)) % (5 : Int64)).toInt32 + (1 : Int32))) (pc' := 163) at_161 rfl
  have G109 := G108.iconst (v := (1 : Int32)) (pc' := 164) at_163
  obtain ⟨ze1, e_ze1, G118⟩ : ∃ ze1 : Int32, ze1 = (if (1 : Int32) < (((((x5.toUInt64 >>> ((32 : Int32) &&& 0x3f).toInt64.toUInt64).toInt64) &&& (2147483647 : Int64)) % (5 : Int64)).toInt32 + (1 : Int32)) then (if x5.toInt32 < (zA + (fGap x1)) then (0 : Int32) else (1 : Int32)) else (0 : Int32)) ∧ Go p l e room_1 s m #[(.int x0), (.int x1), (.int x2), (.int x3), (.int x4), (.long x5)] below meth c Z x.cls code maxLocals ret n0 s₀ h104 1 6 177 #[.val (.int x0), .val (.int x1), .val (.int x2), .val (.int x3), .val (.int x4), .val (.long x5), .second, .val (.int zA), .val (.int (zA + (fGap x1))), .val (.int ((zA + (fGap x1)) + (fGap x2))), .val (.int (((zA + (fGap x1)) + (fGap x2)) + (fGap x3))), .val (.int ((((zA + (fGap x1)) + (fGap x2)) + (fGap x3)) + (fGap x4))), .val (.int (((((x5.toUInt64 >>> ((32 : Int32) &&& 0x3f).toInt64.toUInt64).toInt64) &&& (2147483647 : Int64)) % (5 : Int64)).toInt32 + (1 : Int32))), .val (.int x5.toInt32), .val (.ref a45), .val (.int ze1)] [] := by
    by_cases c164_109 : (1 : Int32) < (((((x5.toUInt64 >>> ((32 : Int32) &&& 0x3f).toInt64.toUInt64).toInt64) &&& (2147483647 : Int64)) % (5 : Int64)).toInt32 + (1 : Int32))
    · have G110 := G109.icmpN at_164 167 (Jvm.Free.XT.ii_le_f c164_109)
      have G111 := G110.iload (v := (zA + (fGap x1))) (pc' := 169) at_167 rfl
      have G112 := G111.iload (v := x5.toInt32) (pc' := 171) at_169 rfl
      by_cases c171_112 : x5.toInt32 < (zA + (fGap x1))
      · have G113 := G112.icmpY at_171 177 (Jvm.Free.XT.ii_gt_t c171_112)
        exact ⟨(0 : Int32), by rw [if_pos c164_109, if_pos c171_112], G113⟩
      · have G114 := G112.icmpN at_171 174 (Jvm.Free.XT.ii_gt_f c171_112)
        have G115 := G114.iconst (v := (1 : Int32)) (pc' := 175) at_174
        have G116 := G115.istore (L' := #[.val (.int x0), .val (.int x1), .val (.int x2), .val (.int x3), .val (.int x4), .val (.long x5), .second, .val (.int zA), .val (.int (zA + (fGap x1))), .val (.int ((zA + (fGap x1)) + (fGap x2))), .val (.int (((zA + (fGap x1)) + (fGap x2)) + (fGap x3))), .val (.int ((((zA + (fGap x1)) + (fGap x2)) + (fGap x3)) + (fGap x4))), .val (.int (((((x5.toUInt64 >>> ((32 : Int32) &&& 0x3f).toInt64.toUInt64).toInt64) &&& (2147483647 : Int64)) % (5 : Int64)).toInt32 + (1 : Int32))), .val (.int x5.toInt32), .val (.ref a45), .val (.int (1 : Int32))]) (pc' := 177) at_175 rfl
        exact ⟨(1 : Int32), by rw [if_pos c164_109, if_neg c171_112], G116⟩
    · have G117 := G109.icmpY at_164 177 (Jvm.Free.XT.ii_le_t c164_109)
      exact ⟨(0 : Int32), by rw [if_neg c164_109], G117⟩
  have G119 := G118.iload (v := (((((x5.toUInt64 >>> ((32 : Int32) &&& 0x3f).toInt64.toUInt64).toInt64) &&& (2147483647 : Int64)) % (5 : Int64)).toInt32 + (1 : Int32))) (pc' := 179) at_177 rfl
  have G120 := G119.iconst (v := (2 : Int32)) (pc' := 180) at_179
  obtain ⟨ze2, e_ze2, G129⟩ : ∃ ze2 : Int32, ze2 = (if (2 : Int32) < (((((x5.toUInt64 >>> ((32 : Int32) &&& 0x3f).toInt64.toUInt64).toInt64) &&& (2147483647 : Int64)) % (5 : Int64)).toInt32 + (1 : Int32)) then (if x5.toInt32 < ((zA + (fGap x1)) + (fGap x2)) then ze1 else (2 : Int32)) else ze1) ∧ Go p l e room_1 s m #[(.int x0), (.int x1), (.int x2), (.int x3), (.int x4), (.long x5)] below meth c Z x.cls code maxLocals ret n0 s₀ h104 1 6 193 #[.val (.int x0), .val (.int x1), .val (.int x2), .val (.int x3), .val (.int x4), .val (.long x5), .second, .val (.int zA), .val (.int (zA + (fGap x1))), .val (.int ((zA + (fGap x1)) + (fGap x2))), .val (.int (((zA + (fGap x1)) + (fGap x2)) + (fGap x3))), .val (.int ((((zA + (fGap x1)) + (fGap x2)) + (fGap x3)) + (fGap x4))), .val (.int (((((x5.toUInt64 >>> ((32 : Int32) &&& 0x3f).toInt64.toUInt64).toInt64) &&& (2147483647 : Int64)) % (5 : Int64)).toInt32 + (1 : Int32))), .val (.int x5.toInt32), .val (.ref a45), .val (.int ze2)] [] := by
    by_cases c180_120 : (2 : Int32) < (((((x5.toUInt64 >>> ((32 : Int32) &&& 0x3f).toInt64.toUInt64).toInt64) &&& (2147483647 : Int64)) % (5 : Int64)).toInt32 + (1 : Int32))
    · have G121 := G120.icmpN at_180 183 (Jvm.Free.XT.ii_le_f c180_120)
      have G122 := G121.iload (v := ((zA + (fGap x1)) + (fGap x2))) (pc' := 185) at_183 rfl
      have G123 := G122.iload (v := x5.toInt32) (pc' := 187) at_185 rfl
      by_cases c187_123 : x5.toInt32 < ((zA + (fGap x1)) + (fGap x2))
      · have G124 := G123.icmpY at_187 193 (Jvm.Free.XT.ii_gt_t c187_123)
        exact ⟨ze1, by rw [if_pos c180_120, if_pos c187_123], G124⟩
      · have G125 := G123.icmpN at_187 190 (Jvm.Free.XT.ii_gt_f c187_123)
        have G126 := G125.iconst (v := (2 : Int32)) (pc' := 191) at_190
        have G127 := G126.istore (L' := #[.val (.int x0), .val (.int x1), .val (.int x2), .val (.int x3), .val (.int x4), .val (.long x5), .second, .val (.int zA), .val (.int (zA + (fGap x1))), .val (.int ((zA + (fGap x1)) + (fGap x2))), .val (.int (((zA + (fGap x1)) + (fGap x2)) + (fGap x3))), .val (.int ((((zA + (fGap x1)) + (fGap x2)) + (fGap x3)) + (fGap x4))), .val (.int (((((x5.toUInt64 >>> ((32 : Int32) &&& 0x3f).toInt64.toUInt64).toInt64) &&& (2147483647 : Int64)) % (5 : Int64)).toInt32 + (1 : Int32))), .val (.int x5.toInt32), .val (.ref a45), .val (.int (2 : Int32))]) (pc' := 193) at_191 rfl
        exact ⟨(2 : Int32), by rw [if_pos c180_120, if_neg c187_123], G127⟩
    · have G128 := G120.icmpY at_180 193 (Jvm.Free.XT.ii_le_t c180_120)
      exact ⟨ze1, by rw [if_neg c180_120], G128⟩
  have G130 := G129.iload (v := (((((x5.toUInt64 >>> ((32 : Int32) &&& 0x3f).toInt64.toUInt64).toInt64) &&& (2147483647 : Int64)) % (5 : Int64)).toInt32 + (1 : Int32))) (pc' := 195) at_193 rfl
  have G131 := G130.iconst (v := (3 : Int32)) (pc' := 196) at_195
  obtain ⟨ze3, e_ze3, G140⟩ : ∃ ze3 : Int32, ze3 = (if (3 : Int32) < (((((x5.toUInt64 >>> ((32 : Int32) &&& 0x3f).toInt64.toUInt64).toInt64) &&& (2147483647 : Int64)) % (5 : Int64)).toInt32 + (1 : Int32)) then (if x5.toInt32 < (((zA + (fGap x1)) + (fGap x2)) + (fGap x3)) then ze2 else (3 : Int32)) else ze2) ∧ Go p l e room_1 s m #[(.int x0), (.int x1), (.int x2), (.int x3), (.int x4), (.long x5)] below meth c Z x.cls code maxLocals ret n0 s₀ h104 1 6 209 #[.val (.int x0), .val (.int x1), .val (.int x2), .val (.int x3), .val (.int x4), .val (.long x5), .second, .val (.int zA), .val (.int (zA + (fGap x1))), .val (.int ((zA + (fGap x1)) + (fGap x2))), .val (.int (((zA + (fGap x1)) + (fGap x2)) + (fGap x3))), .val (.int ((((zA + (fGap x1)) + (fGap x2)) + (fGap x3)) + (fGap x4))), .val (.int (((((x5.toUInt64 >>> ((32 : Int32) &&& 0x3f).toInt64.toUInt64).toInt64) &&& (2147483647 : Int64)) % (5 : Int64)).toInt32 + (1 : Int32))), .val (.int x5.toInt32), .val (.ref a45), .val (.int ze3)] [] := by
    by_cases c196_131 : (3 : Int32) < (((((x5.toUInt64 >>> ((32 : Int32) &&& 0x3f).toInt64.toUInt64).toInt64) &&& (2147483647 : Int64)) % (5 : Int64)).toInt32 + (1 : Int32))
    · have G132 := G131.icmpN at_196 199 (Jvm.Free.XT.ii_le_f c196_131)
      have G133 := G132.iload (v := (((zA + (fGap x1)) + (fGap x2)) + (fGap x3))) (pc' := 201) at_199 rfl
      have G134 := G133.iload (v := x5.toInt32) (pc' := 203) at_201 rfl
      by_cases c203_134 : x5.toInt32 < (((zA + (fGap x1)) + (fGap x2)) + (fGap x3))
      · have G135 := G134.icmpY at_203 209 (Jvm.Free.XT.ii_gt_t c203_134)
        exact ⟨ze2, by rw [if_pos c196_131, if_pos c203_134], G135⟩
      · have G136 := G134.icmpN at_203 206 (Jvm.Free.XT.ii_gt_f c203_134)
        have G137 := G136.iconst (v := (3 : Int32)) (pc' := 207) at_206
        have G138 := G137.istore (L' := #[.val (.int x0), .val (.int x1), .val (.int x2), .val (.int x3), .val (.int x4), .val (.long x5), .second, .val (.int zA), .val (.int (zA + (fGap x1))), .val (.int ((zA + (fGap x1)) + (fGap x2))), .val (.int (((zA + (fGap x1)) + (fGap x2)) + (fGap x3))), .val (.int ((((zA + (fGap x1)) + (fGap x2)) + (fGap x3)) + (fGap x4))), .val (.int (((((x5.toUInt64 >>> ((32 : Int32) &&& 0x3f).toInt64.toUInt64).toInt64) &&& (2147483647 : Int64)) % (5 : Int64)).toInt32 + (1 : Int32))), .val (.int x5.toInt32), .val (.ref a45), .val (.int (3 : Int32))]) (pc' := 209) at_207 rfl
        exact ⟨(3 : Int32), by rw [if_pos c196_131, if_neg c203_134], G138⟩
    · have G139 := G131.icmpY at_196 209 (Jvm.Free.XT.ii_le_t c196_131)
      exact ⟨ze2, by rw [if_neg c196_131], G139⟩
  have G141 := G140.iload (v := (((((x5.toUInt64 >>> ((32 : Int32) &&& 0x3f).toInt64.toUInt64).toInt64) &&& (2147483647 : Int64)) % (5 : Int64)).toInt32 + (1 : Int32))) (pc' := 211) at_209 rfl
  have G142 := G141.iconst (v := (4 : Int32)) (pc' := 212) at_211
  obtain ⟨ze4, e_ze4, G151⟩ : ∃ ze4 : Int32, ze4 = (if (4 : Int32) < (((((x5.toUInt64 >>> ((32 : Int32) &&& 0x3f).toInt64.toUInt64).toInt64) &&& (2147483647 : Int64)) % (5 : Int64)).toInt32 + (1 : Int32)) then (if x5.toInt32 < ((((zA + (fGap x1)) + (fGap x2)) + (fGap x3)) + (fGap x4)) then ze3 else (4 : Int32)) else ze3) ∧ Go p l e room_1 s m #[(.int x0), (.int x1), (.int x2), (.int x3), (.int x4), (.long x5)] below meth c Z x.cls code maxLocals ret n0 s₀ h104 1 6 225 #[.val (.int x0), .val (.int x1), .val (.int x2), .val (.int x3), .val (.int x4), .val (.long x5), .second, .val (.int zA), .val (.int (zA + (fGap x1))), .val (.int ((zA + (fGap x1)) + (fGap x2))), .val (.int (((zA + (fGap x1)) + (fGap x2)) + (fGap x3))), .val (.int ((((zA + (fGap x1)) + (fGap x2)) + (fGap x3)) + (fGap x4))), .val (.int (((((x5.toUInt64 >>> ((32 : Int32) &&& 0x3f).toInt64.toUInt64).toInt64) &&& (2147483647 : Int64)) % (5 : Int64)).toInt32 + (1 : Int32))), .val (.int x5.toInt32), .val (.ref a45), .val (.int ze4)] [] := by
    by_cases c212_142 : (4 : Int32) < (((((x5.toUInt64 >>> ((32 : Int32) &&& 0x3f).toInt64.toUInt64).toInt64) &&& (2147483647 : Int64)) % (5 : Int64)).toInt32 + (1 : Int32))
    · have G143 := G142.icmpN at_212 215 (Jvm.Free.XT.ii_le_f c212_142)
      have G144 := G143.iload (v := ((((zA + (fGap x1)) + (fGap x2)) + (fGap x3)) + (fGap x4))) (pc' := 217) at_215 rfl
      have G145 := G144.iload (v := x5.toInt32) (pc' := 219) at_217 rfl
      by_cases c219_145 : x5.toInt32 < ((((zA + (fGap x1)) + (fGap x2)) + (fGap x3)) + (fGap x4))
      · have G146 := G145.icmpY at_219 225 (Jvm.Free.XT.ii_gt_t c219_145)
        exact ⟨ze3, by rw [if_pos c212_142, if_pos c219_145], G146⟩
      · have G147 := G145.icmpN at_219 222 (Jvm.Free.XT.ii_gt_f c219_145)
        have G148 := G147.iconst (v := (4 : Int32)) (pc' := 223) at_222
        have G149 := G148.istore (L' := #[.val (.int x0), .val (.int x1), .val (.int x2), .val (.int x3), .val (.int x4), .val (.long x5), .second, .val (.int zA), .val (.int (zA + (fGap x1))), .val (.int ((zA + (fGap x1)) + (fGap x2))), .val (.int (((zA + (fGap x1)) + (fGap x2)) + (fGap x3))), .val (.int ((((zA + (fGap x1)) + (fGap x2)) + (fGap x3)) + (fGap x4))), .val (.int (((((x5.toUInt64 >>> ((32 : Int32) &&& 0x3f).toInt64.toUInt64).toInt64) &&& (2147483647 : Int64)) % (5 : Int64)).toInt32 + (1 : Int32))), .val (.int x5.toInt32), .val (.ref a45), .val (.int (4 : Int32))]) (pc' := 225) at_223 rfl
        exact ⟨(4 : Int32), by rw [if_pos c212_142, if_neg c219_145], G149⟩
    · have G150 := G142.icmpY at_212 225 (Jvm.Free.XT.ii_le_t c212_142)
      exact ⟨ze3, by rw [if_neg c212_142], G150⟩
  have G152 := G151.aload (v := (.ref a45)) (pc' := 227) at_225 rfl
  have G153 := G152.iload (v := (((((x5.toUInt64 >>> ((32 : Int32) &&& 0x3f).toInt64.toUInt64).toInt64) &&& (2147483647 : Int64)) % (5 : Int64)).toInt32 + (1 : Int32))) (pc' := 229) at_227 rfl
  have G154 := G153.iload (v := x5.toInt32) (pc' := 231) at_229 rfl
  obtain ⟨v155, h155, ⟨r, ev155, eh155, r1, r2, r3⟩, g155⟩ := G154.callS (argsL := [(.ref a45), (.int (((((x5.toUInt64 >>> ((32 : Int32) &&& 0x3f).toInt64.toUInt64).toInt64) &&& (2147483647 : Int64)) % (5 : Int64)).toInt32 + (1 : Int32))), (.int x5.toInt32)]) (rest := []) (pc' := 234) (k' := 1) (j' := 6) (cn2 l Z a0 hw a45 (((((x5.toUInt64 >>> ((32 : Int32) &&& 0x3f).toInt64.toUInt64).toInt64) &&& (2147483647 : Int64)) % (5 : Int64)).toInt32 + (1 : Int32)) x5.toInt32 h104 n0 G154.size [(.int zA), (.int zv1), (.int zv2), (.int zv3), (.int zv4), (.int (-2147483648 : Int32))] V105 (own_f zA zv1 zv2 zv3 zv4) ((own_cnt x5).toInt.toNat) (by have := own_c x5; omega) (by have := own_c x5; omega) (own_fn zA zv1 zv2 zv3 zv4 (-2147483648 : Int32) _ (by have := own_c x5; omega)) (own_cm _ (own_c x5))) rfl (hw _ (List.mem_of_getElem? (i := 10) rfl)) (hw _ (List.mem_of_getElem? (i := 11) rfl)) (hw _ (List.mem_of_getElem? (i := 12) rfl)) (hw _ (List.mem_of_getElem? (i := 13) rfl)) (by decide) at_231 pd1 rfl (W := 0) rfl rfl (by decide) (by decide) (by decide) (by decide) rfl rfl rfl
  subst ev155
  rw [eh155] at g155
  have G155 := g155 [(.int (Int32.ofNat r))] rfl
  have G156 := G155.iload (v := ze4) (pc' := 236) at_234 rfl
  have G157 := G156.icmpN at_236 239 (Jvm.Free.XT.ii_ne_f (own_fin zA (fGap x1) (fGap x2) (fGap x3) (fGap x4) (own_cnt x5) x5.toInt32 zv1 zv2 zv3 zv4 ze1 ze2 ze3 ze4 r (own_A _ _ e_zA) (own_g _) (own_g _) (own_g _) (own_g _) (own_c x5) e_zv1 e_zv2 e_zv3 e_zv4 e_ze1 e_ze2 e_ze3 e_ze4 r1 r2 r3))
  have G158 := G157.iconst (v := (1 : Int32)) (pc' := 240) at_239
  have G159 := G158.goto at_240 244
  exact G159.retZ at_244 rfl (Or.inr rfl) rfl
set_option maxRecDepth 65536 in
set_option maxHeartbeats 40000000 in
theorem comes_1 {Post : Tables → Env → Array Value → State → Outcome → State → Prop} (hpost : ∀ tb e args s v u, (limb_1_1.after args s (.returned v) u = true ∧ limb_1_2.after args s (.returned v) u = true) → FrameEnd s (.returned v) u (Jvm.fieldLocs frame_1_writes args s ++ Jvm.arrayLocs frame_1_arrays args s ++ Jvm.staticLocs frame_1_statics s) 16 128 → Post tb e args s (.returned v) u) :
    ArmFor flags0 classFile x code maxLocals ret World_1 tables_1 room_1 Calls_1 rest_1 Pre_1 Post := by
  intro l hfl _ _ p e ha hc hk s m args below hf hA hF happ hP
  obtain ⟨hcalls, hrest, hpre⟩ := hP
  obtain ⟨-, -, -, hnamed, -, -, -, hat⟩ := (Spec.applies_iff hf).mp happ
  obtain ⟨hg, hn⟩ := and_e (Cond.before_iff.mp (show (Jvm.Cond.and given_1 narrow_1).before args s = true from hpre))
  obtain ⟨hcount, hg0⟩ := and_e hg
  obtain ⟨ga0, hg1⟩ := and_e hg0
  obtain ⟨ga1, hg2⟩ := and_e hg1
  obtain ⟨ga2, hg3⟩ := and_e hg2
  obtain ⟨ga3, hg4⟩ := and_e hg3
  obtain ⟨ga4, hg5⟩ := and_e hg4
  have ga5 := hg5
  obtain ⟨w0, w1, w2, w3, w4, w5, rfl⟩ : ∃ w0 w1 w2 w3 w4 w5 : Value, args = #[w0, w1, w2, w3, w4, w5] := by
    have hs : args.size = 6 := by simpa [Cond.value, given_1] using hcount
    obtain ⟨L⟩ := args
    match L, hs with
    | [w0, w1, w2, w3, w4, w5], _ => exact ⟨w0, w1, w2, w3, w4, w5, rfl⟩
  have hw := fun d (hd : d ∈ tables_1) => atoms_spec (ws := Jvm.Cond.code x code maxLocals ret :: tables_1) hat d (List.mem_cons_of_mem _ hd)
  obtain ⟨i0, ei0⟩ := is_v ga0
  obtain rfl : w0 = (.int i0) := Option.some.inj ei0
  obtain ⟨i1, ei1⟩ := is_v ga1
  obtain rfl : w1 = (.int i1) := Option.some.inj ei1
  obtain ⟨i2, ei2⟩ := is_v ga2
  obtain rfl : w2 = (.int i2) := Option.some.inj ei2
  obtain ⟨i3, ei3⟩ := is_v ga3
  obtain rfl : w3 = (.int i3) := Option.some.inj ei3
  obtain ⟨i4, ei4⟩ := is_v ga4
  obtain rfl : w4 = (.int i4) := Option.some.inj ei4
  obtain ⟨i5, ei5⟩ := isL_v ga5
  obtain rfl : w5 = (.long i5) := Option.some.inj ei5
  obtain ⟨n, o, h1, h2, h3, _, L, rfl, ⟨rfl, N⟩, hq⟩ := lawc l s _ hw i0 i1 i2 i3 i4 i5 s.heap s.heap.size (Nat.le_refl _) p e ha hc hk s m _ below hf ((Spec.applies_iff_loose hf).mp happ).1 ⟨rfl, State.Warmed39.refl s, rfl⟩ trivial
  refine ⟨n, _, h1, h2, h3, hpost _ _ _ _ _ _ ⟨Cond.after_iff.mpr rfl, Cond.after_iff.mpr (eq_i res_at (Term.int_eval (1)) rfl)⟩ ⟨hq.1, hq.2.1, (hq.2.2.sift fun y hy => Or.inr (N y hy)).mono (by decide) (by decide)⟩⟩
theorem main_1_1 : Claimed_1_1 := comes_1 fun _ _ _ _ _ _ h hF => ⟨h.1, hF⟩
theorem main_1_2 : Claimed_1_2 := comes_1 fun _ _ _ _ _ _ h hF => ⟨h.2, hF⟩
end Jvm.Pilot.@@N@@
namespace Jvm.Pilot.@@N@@
open Jvm Jvm.ClassFile Sem Op Lib Jvm.Free Jvm.Stand Jvm.Pilot.@@N@@.Jvm.D
/-! MADE BY PROGRAM (witnessworld.py) out of the Statement's table words and the real class files: 16 classes; the members and pool entries that the words name. The judged class is class 1, her method 2. -/
namespace start1
open Jvm.ClassFile
def u (s : String) : CpInfo := .utf8 (stringToUtf16 s)
/-- a pool by its gaps: so many unusable entries, then the entry; so many at the end -/
def gap : Nat → List CpInfo → List CpInfo
  | 0, r => r
  | n + 1, r => .unusable :: gap n r
def poolList (es : List (Nat × CpInfo)) (last : Nat) : List CpInfo := es.foldr (fun e r => gap e.1 (e.2 :: r)) (gap last [])
def pool (es : List (Nat × CpInfo)) (last : Nat) : Array CpInfo := ⟨poolList es last⟩
def fileOf (pool : Array CpInfo) (this : Nat) (attrs : Array Attribute := #[]) (ms : Array MethodInfo := #[]) (fl : Nat := 33) (sup : Nat := 0) (ifs : Array Nat := #[]) (fds : Array FieldInfo := #[]) : ClassFile where
  minorVersion := 0
  majorVersion := 65
  constantPool := pool
  accessFlags := fl
  thisClass := this
  superClass := sup
  interfaces := ifs
  fields := fds
  methods := ms
  attributes := attrs
def plain (name : String) (sup : Option ClassId) : Class where
  name := name
  kind := .ordinary
  loader := none
  accessFlags := 33
  super := sup
  interfaces := #[]
  cf := none
  fields := #[]
  methods := #[]
  instanceTypes := #[]
  staticTypes := #[]
  resolved := #[]
  callSites := []
  init := .initialized
  statics := none
  mirror := none

def pool0 : Array CpInfo := pool [(5, u "<init>"), (0, u "()V"), (1, .class_ 10), (1, u "java/lang/Object")] 113

def k0m0 : Method := { name := "<init>", desc := "()V", sig := { parameters := [], returnType := none }, accessFlags := 1, code := none }
/-- java/lang/Object -/
def k0 : Class := { plain "java/lang/Object" none with
  accessFlags := 33
  interfaces := #[]
  cf := some (fileOf pool0 8 #[] #[{ accessFlags := 1, nameIndex := 5, descriptorIndex := 6, attributes := #[] }] 33 0 #[] #[])
  fields := #[]
  methods := #[k0m0]
  instanceTypes := #[]
  staticTypes := #[]
  resolved := Array.replicate 124 none
  statics := none }

def pool1 : Array CpInfo := pool [(2, .class_ 4), (1, u "java/lang/Object"), (0, u "<init>"), (0, u "()V"), (0, .integer 536870912), (0, .integer 536870911), (0, .methodref 10 11), (0, .class_ 12), (0, .nameAndType 13 14), (0, u "com/example/borrar/borrar/minidump/FieldListLastAtMostPinLaw"), (0, u "gap"), (0, u "(I)I"), (0, .long 2147483647), (1, .long 5), (3, .integer 2147483648), (0, .methodref 23 24), (0, .class_ 25), (0, .nameAndType 26 27), (0, u "com/example/borrar/borrar/minidump/FieldList"), (0, u "lastAtMost"), (0, u "([III)I"), (3, u "law"), (0, u "(IIIIIJ)Z")] 4

def k1m0 : Method := { name := "<init>", desc := "()V", sig := { parameters := [], returnType := none }, accessFlags := 1, code := none }
def k1c1 : Code := { maxStack := 2, maxLocals := 1, code := method_2_code, exceptionTable := #[], attributes := #[] }
def k1m1 : Method := { name := "gap", desc := "(I)I", sig := { parameters := [.int], returnType := some .int }, accessFlags := 10, code := some k1c1 }
def k1c2 : Code := { maxStack := 4, maxLocals := 16, code := code, exceptionTable := #[], attributes := #[] }
def k1m2 : Method := { name := "law", desc := "(IIIIIJ)Z", sig := { parameters := [.int, .int, .int, .int, .int, .long], returnType := some .boolean }, accessFlags := 9, code := some k1c2 }
/-- com/example/borrar/borrar/minidump/FieldListLastAtMostPinLaw -/
def k1 : Class := { plain "com/example/borrar/borrar/minidump/FieldListLastAtMostPinLaw" (some 0) with
  accessFlags := 49
  interfaces := #[]
  cf := some (fileOf pool1 10 #[] #[{ accessFlags := 1, nameIndex := 5, descriptorIndex := 6, attributes := #[] }, { accessFlags := 10, nameIndex := 13, descriptorIndex := 14, attributes := #[] }, { accessFlags := 9, nameIndex := 31, descriptorIndex := 32, attributes := #[] }] 49 2 #[] #[])
  fields := #[]
  methods := #[k1m0, k1m1, k1m2]
  instanceTypes := #[]
  staticTypes := #[]
  resolved := Array.replicate 37 none
  statics := none }

def pool2 : Array CpInfo := pool [(8, .class_ 10), (1, u "java/lang/Iterable"), (24, .class_ 36), (0, u "java/lang/Object")] 25

/-- java/lang/Iterable -/
def k2 : Class := { plain "java/lang/Iterable" (some 0) with
  accessFlags := 1537
  interfaces := #[]
  cf := some (fileOf pool2 8 #[] #[] 1537 35 #[] #[])
  fields := #[]
  methods := #[]
  instanceTypes := #[]
  staticTypes := #[]
  resolved := Array.replicate 62 none
  statics := none }

def pool3 : Array CpInfo := pool [(10, .class_ 12), (1, u "java/util/Collection"), (47, .class_ 61), (0, u "java/lang/Object"), (0, .class_ 63), (0, u "java/lang/Iterable")] 51

/-- java/util/Collection -/
def k3 : Class := { plain "java/util/Collection" (some 0) with
  accessFlags := 1537
  interfaces := #[2]
  cf := some (fileOf pool3 10 #[] #[] 1537 60 #[62] #[])
  fields := #[]
  methods := #[]
  instanceTypes := #[]
  staticTypes := #[]
  resolved := Array.replicate 115 none
  statics := none }

def pool4 : Array CpInfo := pool [(2, .class_ 4), (1, u "java/lang/Object"), (0, u "<init>"), (0, u "()V"), (1, .class_ 10), (1, u "java/util/AbstractCollection"), (66, .class_ 78), (0, u "java/util/Collection")] 81

def k4m0 : Method := { name := "<init>", desc := "()V", sig := { parameters := [], returnType := none }, accessFlags := 4, code := none }
/-- java/util/AbstractCollection -/
def k4 : Class := { plain "java/util/AbstractCollection" (some 0) with
  accessFlags := 1057
  interfaces := #[3]
  cf := some (fileOf pool4 8 #[] #[{ accessFlags := 4, nameIndex := 5, descriptorIndex := 6, attributes := #[] }] 1057 2 #[77] #[])
  fields := #[]
  methods := #[k4m0]
  instanceTypes := #[]
  staticTypes := #[]
  resolved := Array.replicate 160 none
  statics := none }

def pool5 : Array CpInfo := pool [(8, .class_ 10), (1, u "java/util/SequencedCollection"), (15, .class_ 27), (0, u "java/lang/Object"), (0, .class_ 29), (0, u "java/util/Collection")] 27

/-- java/util/SequencedCollection -/
def k5 : Class := { plain "java/util/SequencedCollection" (some 0) with
  accessFlags := 1537
  interfaces := #[3]
  cf := some (fileOf pool5 8 #[] #[] 1537 26 #[28] #[])
  fields := #[]
  methods := #[]
  instanceTypes := #[]
  staticTypes := #[]
  resolved := Array.replicate 57 none
  statics := none }

def pool6 : Array CpInfo := pool [(8, .class_ 10), (1, u "java/util/List"), (92, .class_ 104), (0, u "java/lang/Object"), (15, .class_ 121), (0, u "java/util/SequencedCollection")] 129

/-- java/util/List -/
def k6 : Class := { plain "java/util/List" (some 0) with
  accessFlags := 1537
  interfaces := #[5]
  cf := some (fileOf pool6 8 #[] #[] 1537 103 #[120] #[])
  fields := #[]
  methods := #[]
  instanceTypes := #[]
  staticTypes := #[]
  resolved := Array.replicate 251 none
  statics := none }

def pool7 : Array CpInfo := pool [(2, .class_ 4), (1, u "java/util/AbstractCollection"), (0, u "<init>"), (0, u "()V"), (1, .class_ 10), (1, u "java/util/AbstractList"), (0, u "modCount"), (0, u "I"), (64, .class_ 78), (0, u "java/util/AbstractList$Itr"), (3, .class_ 83), (0, u "java/util/AbstractList$ListItr"), (9, .class_ 94), (0, u "java/util/AbstractList$RandomAccessSubList"), (3, .class_ 99), (0, u "java/util/AbstractList$SubList"), (33, .class_ 134), (0, u "java/util/List"), (73, .class_ 209), (0, u "java/util/AbstractList$SubList$1"), (0, .class_ 211), (0, u "java/util/AbstractList$RandomAccessSpliterator")] 6

def k7m0 : Method := { name := "<init>", desc := "()V", sig := { parameters := [], returnType := none }, accessFlags := 4, code := none }
/-- java/util/AbstractList -/
def k7 : Class := { plain "java/util/AbstractList" (some 4) with
  accessFlags := 1057
  interfaces := #[6]
  cf := some (fileOf pool7 8 #[.nestMembers #[93, 98, 208, 210, 82, 77]] #[{ accessFlags := 4, nameIndex := 5, descriptorIndex := 6, attributes := #[] }] 1057 2 #[133] #[{ accessFlags := 132, nameIndex := 11, descriptorIndex := 12, attributes := #[] }])
  fields := #[{ name := "modCount", type := .int, accessFlags := 132, slot := 0, constantValue := 0 }]
  methods := #[k7m0]
  instanceTypes := #[.int]
  staticTypes := #[]
  resolved := Array.replicate 218 none
  statics := none }

def pool8 : Array CpInfo := pool [(1, .class_ 2), (0, u "java/util/RandomAccess"), (0, .class_ 4), (0, u "java/lang/Object")] 2

/-- java/util/RandomAccess -/
def k8 : Class := { plain "java/util/RandomAccess" (some 0) with
  accessFlags := 1537
  interfaces := #[]
  cf := some (fileOf pool8 1 #[] #[] 1537 3 #[] #[])
  fields := #[]
  methods := #[]
  instanceTypes := #[]
  staticTypes := #[]
  resolved := Array.replicate 7 none
  statics := none }

def pool9 : Array CpInfo := pool [(1, .class_ 2), (0, u "com/example/borrar/borrar/minidump/FieldList"), (3, .class_ 8), (1, u "java/util/AbstractList"), (4, u "pages"), (0, u "Lcom/example/borrar/borrar/minidump/FieldPages;"), (2, u "orders"), (0, u "Lcom/example/borrar/borrar/minidump/FieldList$Orders;"), (2, u "from"), (0, u "I"), (2, u "to"), (0, .class_ 27), (0, u "com/example/borrar/borrar/minidump/FieldList$Orders"), (50, .class_ 79), (0, u "com/example/borrar/borrar/minidump/FieldList$1"), (32, u "byOrder"), (76, u "KINDS"), (0, u "[Lcom/example/borrar/borrar/minidump/MinidumpField$Kind;"), (20, .class_ 212), (0, u "java/util/RandomAccess"), (0, u "ORDER_BITS"), (2, u "MOST_FIELDS"), (0, u "J"), (2, u "OFFSET_LIMIT"), (0, u "EVERY"), (16, u "lastAtMost"), (0, u "([III)I")] 30

def k9c0 : Code := { maxStack := 2, maxLocals := 6, code := prog_49_method_16_code, exceptionTable := #[], attributes := #[] }
def k9m0 : Method := { name := "lastAtMost", desc := "([III)I", sig := { parameters := [(.array .int), .int, .int], returnType := some .int }, accessFlags := 8, code := some k9c0 }
/-- com/example/borrar/borrar/minidump/FieldList -/
def k9 : Class := { plain "com/example/borrar/borrar/minidump/FieldList" (some 7) with
  accessFlags := 32
  interfaces := #[8]
  cf := some (fileOf pool9 1 #[.nestMembers #[26, 78]] #[{ accessFlags := 8, nameIndex := 238, descriptorIndex := 239, attributes := #[] }] 32 6 #[211] #[{ accessFlags := 26, nameIndex := 213, descriptorIndex := 22, attributes := #[] }, { accessFlags := 24, nameIndex := 216, descriptorIndex := 217, attributes := #[] }, { accessFlags := 24, nameIndex := 220, descriptorIndex := 217, attributes := #[] }, { accessFlags := 26, nameIndex := 189, descriptorIndex := 190, attributes := #[] }, { accessFlags := 26, nameIndex := 221, descriptorIndex := 22, attributes := #[] }, { accessFlags := 18, nameIndex := 13, descriptorIndex := 14, attributes := #[] }, { accessFlags := 18, nameIndex := 17, descriptorIndex := 18, attributes := #[] }, { accessFlags := 18, nameIndex := 21, descriptorIndex := 22, attributes := #[] }, { accessFlags := 18, nameIndex := 25, descriptorIndex := 22, attributes := #[] }, { accessFlags := 66, nameIndex := 112, descriptorIndex := 14, attributes := #[] }])
  fields := #[{ name := "ORDER_BITS", type := .int, accessFlags := 26, slot := 0, constantValue := 0 }, { name := "MOST_FIELDS", type := .long, accessFlags := 24, slot := 1, constantValue := 0 }, { name := "OFFSET_LIMIT", type := .long, accessFlags := 24, slot := 2, constantValue := 0 }, { name := "KINDS", type := (.array (.object "com/example/borrar/borrar/minidump/MinidumpField$Kind")), accessFlags := 26, slot := 3, constantValue := 0 }, { name := "EVERY", type := .int, accessFlags := 26, slot := 4, constantValue := 0 }, { name := "pages", type := (.object "com/example/borrar/borrar/minidump/FieldPages"), accessFlags := 18, slot := 1, constantValue := 0 }, { name := "orders", type := (.object "com/example/borrar/borrar/minidump/FieldList$Orders"), accessFlags := 18, slot := 2, constantValue := 0 }, { name := "from", type := .int, accessFlags := 18, slot := 3, constantValue := 0 }, { name := "to", type := .int, accessFlags := 18, slot := 4, constantValue := 0 }, { name := "byOrder", type := (.object "com/example/borrar/borrar/minidump/FieldPages"), accessFlags := 66, slot := 5, constantValue := 0 }]
  methods := #[k9m0]
  instanceTypes := #[.int, (.object "com/example/borrar/borrar/minidump/FieldPages"), (.object "com/example/borrar/borrar/minidump/FieldList$Orders"), .int, .int, (.object "com/example/borrar/borrar/minidump/FieldPages")]
  staticTypes := #[.int, .long, .long, (.array (.object "com/example/borrar/borrar/minidump/MinidumpField$Kind")), .int]
  resolved := Array.replicate 270 none
  statics := none }

def pool10 : Array CpInfo := pool [(1, u "java/lang/Cloneable"), (0, .class_ 1), (0, u "java/lang/Object"), (0, .class_ 3)] 3

/-- java/lang/Cloneable -/
def k10 : Class := { plain "java/lang/Cloneable" (some 0) with
  accessFlags := 1537
  interfaces := #[]
  cf := some (fileOf pool10 2 #[] #[] 1537 4 #[] #[])
  fields := #[]
  methods := #[]
  instanceTypes := #[]
  staticTypes := #[]
  resolved := Array.replicate 8 none
  statics := none }

def pool11 : Array CpInfo := pool [(1, u "java/io/Serializable"), (0, .class_ 1), (0, u "java/lang/Object"), (0, .class_ 3)] 3

/-- java/io/Serializable -/
def k11 : Class := { plain "java/io/Serializable" (some 0) with
  accessFlags := 1537
  interfaces := #[]
  cf := some (fileOf pool11 2 #[] #[] 1537 4 #[] #[])
  fields := #[]
  methods := #[]
  instanceTypes := #[]
  staticTypes := #[]
  resolved := Array.replicate 8 none
  statics := none }

/-- the primitive byte -/
def k12 : Class := { plain "byte" none with kind := .primitive 'B', accessFlags := 0x411 }
/-- [B -/
def k13 : Class := { plain "[B" (some 0) with kind := .array 12 .byte, interfaces := #[10, 11], accessFlags := 1041 }

/-- the primitive int -/
def k14 : Class := { plain "int" none with kind := .primitive 'I', accessFlags := 0x411 }
/-- [I -/
def k15 : Class := { plain "[I" (some 0) with kind := .array 14 .int, interfaces := #[10, 11], accessFlags := 1041 }

def heap : Heap := #[]
def classes : Array Class := #[k0, k1, k2, k3, k4, k5, k6, k7, k8, k9, k10, k11, k12, k13, k14, k15]
def interned : List (Array UInt16 × Addr) := []
def slotsUsed : Nat := 0
def theMethod : MethodId := ⟨1, 2⟩
def args0 : Array Value := #[.int 5, .int 6, .int 7, .int 8, .int 9, .long 10]
def aboutOver (below : List Frame) : State where
  vm := { classes := classes, interned := interned.toArray }
  heap := heap
  slotsUsed := slotsUsed
  threads := #[{ frames := .invoking theMethod args0 :: below }]
def below0 : List Frame := [.native { method := ⟨0, 0⟩, args := #[] }]
def about1 : State := aboutOver below0
def p0 : Program := .bare "" "" ""
def e0 : Env := launch0.env 0 0 0
theorem w_frames : about1.frames = Frame.invoking theMethod args0 :: below0 := rfl
set_option maxRecDepth 65536 in
theorem w_args : argsFit about1.vm theMethod args0 = true := by decide +kernel
set_option maxRecDepth 65536 in
theorem w_heap : heapFits about1 = true := by decide +kernel
set_option maxRecDepth 65536 in
theorem w_runnable : about1.curStatus? = some .runnable := by decide +kernel
set_option maxRecDepth 65536 in
theorem w_alone : about1.alone = true := by decide +kernel
set_option maxRecDepth 65536 in
theorem w_named : about1.methodNamed? x = some theMethod := by decide +kernel
set_option maxRecDepth 65536 in
theorem w_hears : about1.hears theMethod below0 = true := by decide +kernel
set_option maxRecDepth 65536 in
theorem w_ripe : about1.ripe theMethod args0 below0 = true := by decide +kernel
theorem w_running : about1.status = .running := rfl
set_option maxRecDepth 65536 in
theorem w_room : about1.hasRoom e0.platform room_1 = true :=
  launch0.hasRoom_least _ room_1 (by decide +kernel) (by decide +kernel) (by decide +kernel) (by decide +kernel) (by decide +kernel) (by decide +kernel)
theorem allAtoms_all (ts : List Jvm.Cond) (a : Array Jvm.Value) (st : Jvm.State) : (allAtoms ts).before a st = ts.all (fun c => c.before a st) := by
  induction ts with
  | nil => rfl
  | cons c t ih =>
    show (Jvm.Cond.and c (allAtoms t)).before a st = _
    rw [Jvm.Cond.before_and, ih, List.all_cons]
def words1 : List Jvm.Cond := Jvm.Cond.code x code maxLocals ret :: tables_1
/-- a 'code' word, met by the world's own term for the bytes: nothing is compared byte by byte -/
theorem code_word {y : MethodName} {bytes : ByteArray} {mx : Nat} {rt : Option FieldType} {a : Array Value} {s : State} {m : MethodId} {meth : Method} {c : Code} (h1 : s.methodNamed? y = some m) (h2 : s.vm.method? m = some meth) (h3 : meth.code = some c) (h4 : c.code = bytes)
    (h5 : (c.maxLocals == mx && c.exceptionTable.isEmpty && decide (c.maxStack ≤ mostOperands) && decide (meth.sig.returnType = rt) && !meth.locks && decide (parseMethodDescriptor y.desc = some meth.sig)) = true) : (Jvm.Cond.code y bytes mx rt).before a s = true := by
  simp only [Bool.and_eq_true, beq_iff_eq, Bool.not_eq_true', decide_eq_true_eq] at h5
  obtain ⟨⟨⟨⟨⟨g1, g2⟩, g3⟩, g4⟩, g5⟩, g6⟩ := h5
  simp [Cond.before, Cond.holds, Cond.value, h1, h2, h3, h4, g1, g2, g3, g4, g5, g6]
def isCode : Jvm.Cond → Bool
  | .code _ _ _ _ => true
  | _ => false
theorem all_split {L : List Jvm.Cond} {P : Jvm.Cond → Bool} (h1 : L.all (fun c => isCode c || P c) = true) (h2 : ∀ c ∈ L.filter isCode, P c = true) : L.all P = true := by
  refine List.all_eq_true.mpr fun c hc => ?_
  have h := List.all_eq_true.mp h1 c hc
  rcases Bool.eq_false_or_eq_true (isCode c) with hi | hi
  · exact h2 c (List.mem_filter.mpr ⟨hc, hi⟩)
  · simpa [hi] using h
set_option maxRecDepth 65536 in
theorem w_c0 : (Jvm.Cond.code x code maxLocals ret).before args0 about1 = true := code_word (m := ⟨1, 2⟩) (meth := k1m2) (c := k1c2) (by decide +kernel) rfl rfl rfl (by decide +kernel)
set_option maxRecDepth 65536 in
theorem w_c1 : (Jvm.Cond.code ({ cls := "com/example/borrar/borrar/minidump/FieldListLastAtMostPinLaw", name := "gap", desc := "(I)I" } : Jvm.MethodName) method_2_code (1 : Nat) (Option.some Jvm.ClassFile.FieldType.int)).before args0 about1 = true := code_word (m := ⟨1, 1⟩) (meth := k1m1) (c := k1c1) (by decide +kernel) rfl rfl rfl (by decide +kernel)
set_option maxRecDepth 65536 in
theorem w_c2 : (Jvm.Cond.code ({ cls := "com/example/borrar/borrar/minidump/FieldList", name := "lastAtMost", desc := "([III)I" } : Jvm.MethodName) prog_49_method_16_code (6 : Nat) (Option.some Jvm.ClassFile.FieldType.int)).before args0 about1 = true := code_word (m := ⟨9, 0⟩) (meth := k9m0) (c := k9c0) (by decide +kernel) rfl rfl rfl (by decide +kernel)
def codes1 : List Jvm.Cond := [Jvm.Cond.code x code maxLocals ret, Jvm.Cond.code ({ cls := "com/example/borrar/borrar/minidump/FieldListLastAtMostPinLaw", name := "gap", desc := "(I)I" } : Jvm.MethodName) method_2_code (1 : Nat) (Option.some Jvm.ClassFile.FieldType.int), Jvm.Cond.code ({ cls := "com/example/borrar/borrar/minidump/FieldList", name := "lastAtMost", desc := "([III)I" } : Jvm.MethodName) prog_49_method_16_code (6 : Nat) (Option.some Jvm.ClassFile.FieldType.int)]
set_option maxRecDepth 65536 in
theorem codes_eq : words1.filter isCode = codes1 := rfl
theorem w_codes : ∀ c ∈ words1.filter isCode, c.before args0 about1 = true := by
  rw [codes_eq]
  intro c hc
  simp only [codes1, List.mem_cons, List.not_mem_nil, or_false] at hc
  rcases hc with rfl | rfl | rfl
  · exact w_c0
  · exact w_c1
  · exact w_c2
set_option maxRecDepth 65536 in
theorem w_t1 : words1.all (fun c => isCode c || c.before args0 about1) = true := by decide +kernel
theorem w_tables : (allAtoms (Jvm.Cond.code x code maxLocals ret :: tables_1)).before args0 about1 = true := by
  rw [allAtoms_all]
  show words1.all (fun c => c.before args0 about1) = true
  refine all_split ?_ w_codes
  rw [w_t1]
set_option maxRecDepth 65536 in
theorem w_case : (Jvm.Cond.and given_1 narrow_1).before args0 about1 = true := by decide +kernel
theorem w_applies : (headSpec (Jvm.Cond.code x code maxLocals ret :: tables_1) room_1).applies x e0.platform about1 = true :=
  (Spec.applies_iff w_frames).mpr ⟨w_running, w_runnable, w_alone, w_named, w_hears, w_ripe, w_room, w_tables⟩
theorem atStart : AtStart classFile x code maxLocals ret World_1 tables_1 room_1 Calls_1 rest_1 Pre_1 launch0 p0 e0 about1 theMethod args0 below0 :=
  ⟨lists_1, trivial, launch0.admits_env _ _ _, launch0.least_env, fairChoices_fair.cas, fairChoices_fair.clock, w_frames, w_args, w_heap, w_applies, trivial, trivial, w_case⟩
end start1
theorem witness_1 : WitnessClaimed_1 := ⟨start1.p0, start1.e0, start1.about1, start1.theMethod, start1.args0, start1.below0, start1.atStart⟩
end Jvm.Pilot.@@N@@
