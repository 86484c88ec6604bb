import JvmDerived
import JvmDerived.Pilot.@@N@@Statement
import JvmDerived.Pilot.@@N@@Code
set_option linter.unusedVariables false
set_option linter.unusedSimpArgs false
namespace Jvm.OwnKit
open Sem ClassFile Op Lib Jvm.Stand Jvm.Free Jvm.LawKit Jvm.RoadKit
section OwnKit
set_option maxHeartbeats 4000000
variable {p : Program} {l : Launch} {e : Env} {R : Room} {s : State} {m : MethodId} {args : Array Value} {below : List Frame} {meth : Method} {c : Code} {Z : State} {own : String} {bytes : ByteArray} {maxL : Nat} {ret : Option FieldType} {n0 : Nat} {s₀ : State} {h : Heap} {k j pc : Nat} {L : Array Slot} {S : List Value} {a0 : Array Value}
/-- where a walk stands -/
def Go (p : Program) (l : Launch) (e : Env) (R : Room) (s : State) (m : MethodId) (args : Array Value) (below : List Frame) (meth : Method) (c : Code) (Z : State) (own : String) (bytes : ByteArray) (maxL : Nat) (ret : Option FieldType) (n0 : Nat) (s₀ : State) (h : Heap) (k j pc : Nat) (L : Array Slot) (S : List Value) : Prop :=
  (p.tables.exec = Jvm.exec ∧ c.code = bytes ∧ c.maxLocals = maxL ∧ Z.Warmed39 s.vm ∧ s.vm.findClass own = some m.cls ∧ meth.sig.returnType = ret ∧ meth.locks = false ∧ n0 ≤ s.heap.size) ∧
  ∃ (T : State) (locs : List Loc), Stand p l e R s m args below meth c T locs k j ∧ T.heap = h ∧ Fr n0 locs ∧ ∀ t, Steps p.tables e below (T.setTop (mkF m pc L S)) t → Steps p.tables e below s₀ t
/-- how a walk ends -/
def Fini (p : Program) (e : Env) (below : List Frame) (s s₀ : State) (n0 kc js : Nat) (Q : Option Value → Heap → Prop) : Prop :=
  ∃ s₂ o, Steps p.tables e below s₀ s₂ ∧ s₂.status = .running ∧ Ended s₂ below o ∧ ∃ v L, o = .returned v ∧ (Q v s₂.heap ∧ Fr n0 L) ∧ FrameEnd s o s₂ L kc js
/-- a body's contract at one heap and these arguments -/
def Con (l : Launch) (y : MethodName) (bytes : ByteArray) (maxL : Nat) (ret : Option FieldType) (ws : List Cond) (rm : Room) (kc js : Nat) (Z : State) (as' : Array Value) (h0 : Heap) (n0 : Nat) (Q : Option Value → Heap → Prop) : Prop :=
  MetFree l y (head1 (Cond.code y bytes maxL ret :: ws) rm) (fun a U => a = as' ∧ Z.Warmed39 U.vm ∧ U.heap = h0) (fun _ _ _ _ _ => True) (fun _ U o U' => ∃ v L, o = .returned v ∧ (Q v U'.heap ∧ Fr n0 L) ∧ FrameEnd U o U' L kc js)
theorem Con.of {y : MethodName} {ws : List Cond} {rm : Room} {kc js : Nat} {as' : Array Value} {h0 : Heap} {L0 : Array Slot} {Q : Option Value → Heap → Prop} (hpl : plainFor y = true) (hn : n0 ≤ h0.size) (hef : ∀ m, entryFrame m as' maxL = mkF m 0 L0 [])
    (body : ∀ (p : Program) (e : Env) (s : State) (m : MethodId) (below : List Frame) (meth : Method) (c : Code) (s₀ : State), meth.name = y.name → Go p l e rm s m as' below meth c Z y.cls bytes maxL ret n0 s₀ h0 0 0 0 L0 [] → Fini p e below s s₀ n0 kc js Q) : Con l y bytes maxL ret ws rm kc js Z as' h0 n0 Q := by
  refine MetFree.of_bodySF hpl hisR ?_
  intro p e s m args below meth c s₁ Bd hml0 hP hK
  obtain ⟨rfl, hZ, hh⟩ := hP
  have hx := Bd.exec
  have X0 : Stand p l e rm s m args below meth c s₁ [] 0 0 := Stand.of_body Bd
  exact body p e s m below meth c _ (name_of_methodNamed Bd.named Bd.method).1 ⟨⟨hx, Bd.bytes, hml0, hZ, findClass_of_methodNamed Bd.named, Bd.returns, Bd.notSynchronized, by rw [hh]; exact hn⟩, s₁, [], X0, by rw [← hh, Bd.state]; rfl, Fr.nil n0, fun t k => castTop (hef m) k⟩
/-- the same contract with a weaker word -/
theorem Fini.mono {kc js : Nat} {Q Q' : Option Value → Heap → Prop} (F : Fini p e below s s₀ n0 kc js Q) (hq : ∀ v h, Q v h → Q' v h) : Fini p e below s s₀ n0 kc js Q' := by
  obtain ⟨s₂, o, a1, a2, a3, v, L, a4, ⟨a5, a6⟩, a7⟩ := F
  exact ⟨s₂, o, a1, a2, a3, v, L, a4, ⟨hq _ _ a5, a6⟩, a7⟩
theorem Go.step {pc' : Nat} {L' : Array Slot} {S' : List Value} (G : Go p l e R s m args below meth c Z own bytes maxL ret n0 s₀ h k j pc L S) (f : ∀ T locs, Stand p l e R s m args below meth c T locs k j → T.heap = h → p.tables.exec = Jvm.exec → c.code = bytes → ∀ t, Steps p.tables e below (T.setTop (mkF m pc' L' S')) t → Steps p.tables e below (T.setTop (mkF m pc L S)) t) : Go p l e R s m args below meth c Z own bytes maxL ret n0 s₀ h k j pc' L' S' := by
  obtain ⟨⟨hx, hb, r⟩, T, locs, X, eT, N, st⟩ := G
  exact ⟨⟨hx, hb, r⟩, T, locs, X, eT, N, fun t q => st t (f T locs X eT hx hb t q)⟩
theorem Go.size (G : Go p l e R s m args below meth c Z own bytes maxL ret n0 s₀ h k j pc L S) : n0 ≤ h.size := by
  obtain ⟨⟨_, _, _, _, _, _, _, hn⟩, T, locs, X, eT, N, st⟩ := G
  have q : s.heap.size ≤ T.heap.size := X.same.2.1
  rw [← eT]; exact Nat.le_trans hn q
theorem Go.iadd {x y : Int32} (G : Go p l e R s m args below meth c Z own bytes maxL ret n0 s₀ h k j pc L (.int y :: .int x :: S)) (hd : decode bytes pc = .ok (.iadd, 1))  {pc' : Nat} (hp : pc + 1 = pc' := by rfl) : Go p l e R s m args below meth c Z own bytes maxL ret n0 s₀ h k j pc' L (.int (x + y) :: S) := by
  subst hp; exact G.step fun T locs X eT hx hb t q => XS.iadd X.here hx rfl (Jvm.hb hb hd) rfl  q
theorem Go.isub {x y : Int32} (G : Go p l e R s m args below meth c Z own bytes maxL ret n0 s₀ h k j pc L (.int y :: .int x :: S)) (hd : decode bytes pc = .ok (.isub, 1))  {pc' : Nat} (hp : pc + 1 = pc' := by rfl) : Go p l e R s m args below meth c Z own bytes maxL ret n0 s₀ h k j pc' L (.int (x - y) :: S) := by
  subst hp; exact G.step fun T locs X eT hx hb t q => XS.isub X.here hx rfl (Jvm.hb hb hd) rfl  q
theorem Go.imul {x y : Int32} (G : Go p l e R s m args below meth c Z own bytes maxL ret n0 s₀ h k j pc L (.int y :: .int x :: S)) (hd : decode bytes pc = .ok (.imul, 1))  {pc' : Nat} (hp : pc + 1 = pc' := by rfl) : Go p l e R s m args below meth c Z own bytes maxL ret n0 s₀ h k j pc' L (.int (x * y) :: S) := by
  subst hp; exact G.step fun T locs X eT hx hb t q => XS.imul X.here hx rfl (Jvm.hb hb hd) rfl  q
theorem Go.iand {x y : Int32} (G : Go p l e R s m args below meth c Z own bytes maxL ret n0 s₀ h k j pc L (.int y :: .int x :: S)) (hd : decode bytes pc = .ok (.iand, 1))  {pc' : Nat} (hp : pc + 1 = pc' := by rfl) : Go p l e R s m args below meth c Z own bytes maxL ret n0 s₀ h k j pc' L (.int (x &&& y) :: S) := by
  subst hp; exact G.step fun T locs X eT hx hb t q => XS.iand X.here hx rfl (Jvm.hb hb hd) rfl  q
theorem Go.ior {x y : Int32} (G : Go p l e R s m args below meth c Z own bytes maxL ret n0 s₀ h k j pc L (.int y :: .int x :: S)) (hd : decode bytes pc = .ok (.ior, 1))  {pc' : Nat} (hp : pc + 1 = pc' := by rfl) : Go p l e R s m args below meth c Z own bytes maxL ret n0 s₀ h k j pc' L (.int (x ||| y) :: S) := by
  subst hp; exact G.step fun T locs X eT hx hb t q => XS.ior X.here hx rfl (Jvm.hb hb hd) rfl  q
theorem Go.ixor {x y : Int32} (G : Go p l e R s m args below meth c Z own bytes maxL ret n0 s₀ h k j pc L (.int y :: .int x :: S)) (hd : decode bytes pc = .ok (.ixor, 1))  {pc' : Nat} (hp : pc + 1 = pc' := by rfl) : Go p l e R s m args below meth c Z own bytes maxL ret n0 s₀ h k j pc' L (.int (x ^^^ y) :: S) := by
  subst hp; exact G.step fun T locs X eT hx hb t q => XS.ixor X.here hx rfl (Jvm.hb hb hd) rfl  q
theorem Go.ishl {x y : Int32} (G : Go p l e R s m args below meth c Z own bytes maxL ret n0 s₀ h k j pc L (.int y :: .int x :: S)) (hd : decode bytes pc = .ok (.ishl, 1))  {pc' : Nat} (hp : pc + 1 = pc' := by rfl) : Go p l e R s m args below meth c Z own bytes maxL ret n0 s₀ h k j pc' L (.int (x <<< (y &&& 31)) :: S) := by
  subst hp; exact G.step fun T locs X eT hx hb t q => XS.ishl X.here hx rfl (Jvm.hb hb hd) rfl  q
theorem Go.ishr {x y : Int32} (G : Go p l e R s m args below meth c Z own bytes maxL ret n0 s₀ h k j pc L (.int y :: .int x :: S)) (hd : decode bytes pc = .ok (.ishr, 1))  {pc' : Nat} (hp : pc + 1 = pc' := by rfl) : Go p l e R s m args below meth c Z own bytes maxL ret n0 s₀ h k j pc' L (.int (x >>> (y &&& 31)) :: S) := by
  subst hp; exact G.step fun T locs X eT hx hb t q => XS.ishr X.here hx rfl (Jvm.hb hb hd) rfl  q
theorem Go.iushr {x y : Int32} (G : Go p l e R s m args below meth c Z own bytes maxL ret n0 s₀ h k j pc L (.int y :: .int x :: S)) (hd : decode bytes pc = .ok (.iushr, 1))  {pc' : Nat} (hp : pc + 1 = pc' := by rfl) : Go p l e R s m args below meth c Z own bytes maxL ret n0 s₀ h k j pc' L (.int ((x.toUInt32 >>> (y &&& 31).toUInt32).toInt32) :: S) := by
  subst hp; exact G.step fun T locs X eT hx hb t q => XS.iushr X.here hx rfl (Jvm.hb hb hd) rfl  q
theorem Go.ladd {x y : Int64} (G : Go p l e R s m args below meth c Z own bytes maxL ret n0 s₀ h k j pc L (.long y :: .long x :: S)) (hd : decode bytes pc = .ok (.ladd, 1))  {pc' : Nat} (hp : pc + 1 = pc' := by rfl) : Go p l e R s m args below meth c Z own bytes maxL ret n0 s₀ h k j pc' L (.long (x + y) :: S) := by
  subst hp; exact G.step fun T locs X eT hx hb t q => XS.ladd X.here hx rfl (Jvm.hb hb hd) rfl  q
theorem Go.lsub {x y : Int64} (G : Go p l e R s m args below meth c Z own bytes maxL ret n0 s₀ h k j pc L (.long y :: .long x :: S)) (hd : decode bytes pc = .ok (.lsub, 1))  {pc' : Nat} (hp : pc + 1 = pc' := by rfl) : Go p l e R s m args below meth c Z own bytes maxL ret n0 s₀ h k j pc' L (.long (x - y) :: S) := by
  subst hp; exact G.step fun T locs X eT hx hb t q => XS.lsub X.here hx rfl (Jvm.hb hb hd) rfl  q
theorem Go.lmul {x y : Int64} (G : Go p l e R s m args below meth c Z own bytes maxL ret n0 s₀ h k j pc L (.long y :: .long x :: S)) (hd : decode bytes pc = .ok (.lmul, 1))  {pc' : Nat} (hp : pc + 1 = pc' := by rfl) : Go p l e R s m args below meth c Z own bytes maxL ret n0 s₀ h k j pc' L (.long (x * y) :: S) := by
  subst hp; exact G.step fun T locs X eT hx hb t q => XS.lmul X.here hx rfl (Jvm.hb hb hd) rfl  q
theorem Go.land {x y : Int64} (G : Go p l e R s m args below meth c Z own bytes maxL ret n0 s₀ h k j pc L (.long y :: .long x :: S)) (hd : decode bytes pc = .ok (.land, 1))  {pc' : Nat} (hp : pc + 1 = pc' := by rfl) : Go p l e R s m args below meth c Z own bytes maxL ret n0 s₀ h k j pc' L (.long (x &&& y) :: S) := by
  subst hp; exact G.step fun T locs X eT hx hb t q => XS.land X.here hx rfl (Jvm.hb hb hd) rfl  q
theorem Go.lor {x y : Int64} (G : Go p l e R s m args below meth c Z own bytes maxL ret n0 s₀ h k j pc L (.long y :: .long x :: S)) (hd : decode bytes pc = .ok (.lor, 1))  {pc' : Nat} (hp : pc + 1 = pc' := by rfl) : Go p l e R s m args below meth c Z own bytes maxL ret n0 s₀ h k j pc' L (.long (x ||| y) :: S) := by
  subst hp; exact G.step fun T locs X eT hx hb t q => XS.lor X.here hx rfl (Jvm.hb hb hd) rfl  q
theorem Go.lxor {x y : Int64} (G : Go p l e R s m args below meth c Z own bytes maxL ret n0 s₀ h k j pc L (.long y :: .long x :: S)) (hd : decode bytes pc = .ok (.lxor, 1))  {pc' : Nat} (hp : pc + 1 = pc' := by rfl) : Go p l e R s m args below meth c Z own bytes maxL ret n0 s₀ h k j pc' L (.long (x ^^^ y) :: S) := by
  subst hp; exact G.step fun T locs X eT hx hb t q => XS.lxor X.here hx rfl (Jvm.hb hb hd) rfl  q
theorem Go.lshl {x : Int64} {y : Int32} (G : Go p l e R s m args below meth c Z own bytes maxL ret n0 s₀ h k j pc L (.int y :: .long x :: S)) (hd : decode bytes pc = .ok (.lshl, 1))  {pc' : Nat} (hp : pc + 1 = pc' := by rfl) : Go p l e R s m args below meth c Z own bytes maxL ret n0 s₀ h k j pc' L (.long (x <<< (y &&& 0x3f).toInt64) :: S) := by
  subst hp; exact G.step fun T locs X eT hx hb t q => XS.lshl X.here hx rfl (Jvm.hb hb hd) rfl  q
theorem Go.lshr {x : Int64} {y : Int32} (G : Go p l e R s m args below meth c Z own bytes maxL ret n0 s₀ h k j pc L (.int y :: .long x :: S)) (hd : decode bytes pc = .ok (.lshr, 1))  {pc' : Nat} (hp : pc + 1 = pc' := by rfl) : Go p l e R s m args below meth c Z own bytes maxL ret n0 s₀ h k j pc' L (.long (x >>> (y &&& 0x3f).toInt64) :: S) := by
  subst hp; exact G.step fun T locs X eT hx hb t q => XS.lshr X.here hx rfl (Jvm.hb hb hd) rfl  q
theorem Go.lushr {x : Int64} {y : Int32} (G : Go p l e R s m args below meth c Z own bytes maxL ret n0 s₀ h k j pc L (.int y :: .long x :: S)) (hd : decode bytes pc = .ok (.lushr, 1))  {pc' : Nat} (hp : pc + 1 = pc' := by rfl) : Go p l e R s m args below meth c Z own bytes maxL ret n0 s₀ h k j pc' L (.long ((x.toUInt64 >>> (y &&& 0x3f).toInt64.toUInt64).toInt64) :: S) := by
  subst hp; exact G.step fun T locs X eT hx hb t q => XS.lushr X.here hx rfl (Jvm.hb hb hd) rfl  q
theorem Go.ineg {x : Int32} (G : Go p l e R s m args below meth c Z own bytes maxL ret n0 s₀ h k j pc L (.int x :: S)) (hd : decode bytes pc = .ok (.ineg, 1))  {pc' : Nat} (hp : pc + 1 = pc' := by rfl) : Go p l e R s m args below meth c Z own bytes maxL ret n0 s₀ h k j pc' L (.int (-x) :: S) := by
  subst hp; exact G.step fun T locs X eT hx hb t q => XS.ineg X.here hx rfl (Jvm.hb hb hd) rfl  q
theorem Go.lneg {x : Int64} (G : Go p l e R s m args below meth c Z own bytes maxL ret n0 s₀ h k j pc L (.long x :: S)) (hd : decode bytes pc = .ok (.lneg, 1))  {pc' : Nat} (hp : pc + 1 = pc' := by rfl) : Go p l e R s m args below meth c Z own bytes maxL ret n0 s₀ h k j pc' L (.long (-x) :: S) := by
  subst hp; exact G.step fun T locs X eT hx hb t q => XS.lneg X.here hx rfl (Jvm.hb hb hd) rfl  q
theorem Go.i2l {x : Int32} (G : Go p l e R s m args below meth c Z own bytes maxL ret n0 s₀ h k j pc L (.int x :: S)) (hd : decode bytes pc = .ok (.i2l, 1))  {pc' : Nat} (hp : pc + 1 = pc' := by rfl) : Go p l e R s m args below meth c Z own bytes maxL ret n0 s₀ h k j pc' L (.long (x.toInt64) :: S) := by
  subst hp; exact G.step fun T locs X eT hx hb t q => XS.i2l X.here hx rfl (Jvm.hb hb hd) rfl  q
theorem Go.l2i {x : Int64} (G : Go p l e R s m args below meth c Z own bytes maxL ret n0 s₀ h k j pc L (.long x :: S)) (hd : decode bytes pc = .ok (.l2i, 1))  {pc' : Nat} (hp : pc + 1 = pc' := by rfl) : Go p l e R s m args below meth c Z own bytes maxL ret n0 s₀ h k j pc' L (.int (x.toInt32) :: S) := by
  subst hp; exact G.step fun T locs X eT hx hb t q => XS.l2i X.here hx rfl (Jvm.hb hb hd) rfl  q
theorem Go.i2b {x : Int32} (G : Go p l e R s m args below meth c Z own bytes maxL ret n0 s₀ h k j pc L (.int x :: S)) (hd : decode bytes pc = .ok (.i2b, 1))  {pc' : Nat} (hp : pc + 1 = pc' := by rfl) : Go p l e R s m args below meth c Z own bytes maxL ret n0 s₀ h k j pc' L (.int (x.toInt8.toInt32) :: S) := by
  subst hp; exact G.step fun T locs X eT hx hb t q => XS.i2b X.here hx rfl (Jvm.hb hb hd) rfl  q
theorem Go.i2s {x : Int32} (G : Go p l e R s m args below meth c Z own bytes maxL ret n0 s₀ h k j pc L (.int x :: S)) (hd : decode bytes pc = .ok (.i2s, 1))  {pc' : Nat} (hp : pc + 1 = pc' := by rfl) : Go p l e R s m args below meth c Z own bytes maxL ret n0 s₀ h k j pc' L (.int (x.toInt16.toInt32) :: S) := by
  subst hp; exact G.step fun T locs X eT hx hb t q => XS.i2s X.here hx rfl (Jvm.hb hb hd) rfl  q
theorem Go.i2c {x : Int32} (G : Go p l e R s m args below meth c Z own bytes maxL ret n0 s₀ h k j pc L (.int x :: S)) (hd : decode bytes pc = .ok (.i2c, 1))  {pc' : Nat} (hp : pc + 1 = pc' := by rfl) : Go p l e R s m args below meth c Z own bytes maxL ret n0 s₀ h k j pc' L (.int (x.toUInt32.toUInt16.toUInt32.toInt32) :: S) := by
  subst hp; exact G.step fun T locs X eT hx hb t q => XS.i2c X.here hx rfl (Jvm.hb hb hd) rfl  q
theorem Go.lcmp {x y : Int64} (G : Go p l e R s m args below meth c Z own bytes maxL ret n0 s₀ h k j pc L (.long y :: .long x :: S)) (hd : decode bytes pc = .ok (.lcmp, 1))  {pc' : Nat} (hp : pc + 1 = pc' := by rfl) : Go p l e R s m args below meth c Z own bytes maxL ret n0 s₀ h k j pc' L (.int (Jvm.Free.XT.cmpL x y) :: S) := by
  subst hp; exact G.step fun T locs X eT hx hb t q => Jvm.Free.XT.lcmp X.here hx rfl (Jvm.hb hb hd) rfl  q
theorem Go.idiv {x y : Int32} (G : Go p l e R s m args below meth c Z own bytes maxL ret n0 s₀ h k j pc L (.int y :: .int x :: S)) (hd : decode bytes pc = .ok (.idiv, 1)) (hy : y ≠ 0) {pc' : Nat} (hp : pc + 1 = pc' := by rfl) : Go p l e R s m args below meth c Z own bytes maxL ret n0 s₀ h k j pc' L (.int (x / y) :: S) := by
  subst hp; exact G.step fun T locs X eT hx hb t q => XS.idiv X.here hx rfl (Jvm.hb hb hd) rfl hy q
theorem Go.irem {x y : Int32} (G : Go p l e R s m args below meth c Z own bytes maxL ret n0 s₀ h k j pc L (.int y :: .int x :: S)) (hd : decode bytes pc = .ok (.irem, 1)) (hy : y ≠ 0) {pc' : Nat} (hp : pc + 1 = pc' := by rfl) : Go p l e R s m args below meth c Z own bytes maxL ret n0 s₀ h k j pc' L (.int (x % y) :: S) := by
  subst hp; exact G.step fun T locs X eT hx hb t q => iremM X hx rfl (Jvm.hb hb hd) rfl hy q
theorem Go.lrem {x y : Int64} (G : Go p l e R s m args below meth c Z own bytes maxL ret n0 s₀ h k j pc L (.long y :: .long x :: S)) (hd : decode bytes pc = .ok (.lrem, 1)) (hy : y ≠ 0) {pc' : Nat} (hp : pc + 1 = pc' := by rfl) : Go p l e R s m args below meth c Z own bytes maxL ret n0 s₀ h k j pc' L (.long (x % y) :: S) := by
  subst hp; exact G.step fun T locs X eT hx hb t q => XS.lrem X.here hx rfl (Jvm.hb hb hd) rfl hy (by rw [lrem_mod]; exact q)
theorem Go.iconst {i : Int} (v : Int32) (G : Go p l e R s m args below meth c Z own bytes maxL ret n0 s₀ h k j pc L S) (hd : decode bytes pc = .ok (.iconst i, 1)) (hv : Int32.ofInt i = v := by decide) {pc' : Nat} (hp : pc + 1 = pc' := by rfl) : Go p l e R s m args below meth c Z own bytes maxL ret n0 s₀ h k j pc' L (.int v :: S) := by
  subst hp; exact G.step fun T locs X eT hx hb t q => Jvm.Free.XT.iconstV X.here hx rfl v (Jvm.hb hb hd) hv q
theorem Go.bipush {i : Int} (v : Int32) (G : Go p l e R s m args below meth c Z own bytes maxL ret n0 s₀ h k j pc L S) (hd : decode bytes pc = .ok (.bipush i, 2)) (hv : (Int8.ofInt i).toInt32 = v := by decide) {pc' : Nat} (hp : pc + 2 = pc' := by rfl) : Go p l e R s m args below meth c Z own bytes maxL ret n0 s₀ h k j pc' L (.int v :: S) := by
  subst hp; exact G.step fun T locs X eT hx hb t q => Jvm.Free.XT.bipushV X.here hx rfl v (Jvm.hb hb hd) hv q
theorem Go.sipush {i : Int} (v : Int32) (G : Go p l e R s m args below meth c Z own bytes maxL ret n0 s₀ h k j pc L S) (hd : decode bytes pc = .ok (.sipush i, 3)) (hv : (Int16.ofInt i).toInt32 = v := by decide) {pc' : Nat} (hp : pc + 3 = pc' := by rfl) : Go p l e R s m args below meth c Z own bytes maxL ret n0 s₀ h k j pc' L (.int v :: S) := by
  subst hp; exact G.step fun T locs X eT hx hb t q => Jvm.Free.XT.sipushV X.here hx rfl v (Jvm.hb hb hd) hv q
theorem Go.lconst {i : Fin 2} (v : Int64) (G : Go p l e R s m args below meth c Z own bytes maxL ret n0 s₀ h k j pc L S) (hd : decode bytes pc = .ok (.lconst i, 1)) (hv : Int64.ofNat i = v := by decide) {pc' : Nat} (hp : pc + 1 = pc' := by rfl) : Go p l e R s m args below meth c Z own bytes maxL ret n0 s₀ h k j pc' L (.long v :: S) := by
  subst hp; exact G.step fun T locs X eT hx hb t q => Jvm.Free.XT.lconstV X.here hx rfl v (Jvm.hb hb hd) hv q
theorem Go.aconstNull (G : Go p l e R s m args below meth c Z own bytes maxL ret n0 s₀ h k j pc L S) (hd : decode bytes pc = .ok (.aconst_null, 1)) {pc' : Nat} (hp : pc + 1 = pc' := by rfl) : Go p l e R s m args below meth c Z own bytes maxL ret n0 s₀ h k j pc' L (.null :: S) := by
  subst hp; exact G.step fun T locs X eT hx hb t q => XS.aconstNull X.here hx rfl (Jvm.hb hb hd) q
theorem Go.ldc {i : Nat} {v : Int32} (G : Go p l e R s m args below meth c Z own bytes maxL ret n0 s₀ h k j pc L S) (w : (Cond.constant own i v).before a0 Z = true) (hd : decode bytes pc = .ok (.ldc i, 2)) {pc' : Nat} (hp : pc + 2 = pc' := by rfl) : Go p l e R s m args below meth c Z own bytes maxL ret n0 s₀ h k j pc' L (.int v :: S) := by
  subst hp
  obtain ⟨⟨hx, hb, hm, hZ, ho, r⟩, T, locs, X, eT, N, st⟩ := G
  exact ⟨⟨hx, hb, hm, hZ, ho, r⟩, T, locs, X, eT, N, fun t q => st t (X.ldcInt hx ho (mvT hZ w) (g := mkF m pc L S) rfl (Jvm.hb hb hd) t q)⟩
theorem Go.ldc2 {i : Nat} {v : Int64} (G : Go p l e R s m args below meth c Z own bytes maxL ret n0 s₀ h k j pc L S) (w : (Cond.constantLong own i v).before a0 Z = true) (hd : decode bytes pc = .ok (.ldc2_w i, 3)) {pc' : Nat} (hp : pc + 3 = pc' := by rfl) : Go p l e R s m args below meth c Z own bytes maxL ret n0 s₀ h k j pc' L (.long v :: S) := by
  subst hp
  obtain ⟨⟨hx, hb, hm, hZ, ho, r⟩, T, locs, X, eT, N, st⟩ := G
  exact ⟨⟨hx, hb, hm, hZ, ho, r⟩, T, locs, X, eT, N, fun t q => st t (X.ldc2Long hx ho (mvT hZ w) (g := mkF m pc L S) rfl (Jvm.hb hb hd) t q)⟩
theorem Go.iloadN {i : Fin 4} {v : Int32} (G : Go p l e R s m args below meth c Z own bytes maxL ret n0 s₀ h k j pc L S) (hd : decode bytes pc = .ok (.iload_n i, 1)) (hl : L[i.val]? = some (.val (.int v))) {pc' : Nat} (hp : pc + 1 = pc' := by rfl) : Go p l e R s m args below meth c Z own bytes maxL ret n0 s₀ h k j pc' L (.int v :: S) := by
  subst hp; exact G.step fun T locs X eT hx hb t q => XS.iloadN X.here hx rfl (Jvm.hb hb hd) hl q
theorem Go.iload {i : Nat} {v : Int32} (G : Go p l e R s m args below meth c Z own bytes maxL ret n0 s₀ h k j pc L S) (hd : decode bytes pc = .ok (.iload i, 2)) (hl : L[i]? = some (.val (.int v))) {pc' : Nat} (hp : pc + 2 = pc' := by rfl) : Go p l e R s m args below meth c Z own bytes maxL ret n0 s₀ h k j pc' L (.int v :: S) := by
  subst hp; exact G.step fun T locs X eT hx hb t q => XS.iload X.here hx rfl (Jvm.hb hb hd) hl q
theorem Go.lloadN {i : Fin 4} {v : Int64} (G : Go p l e R s m args below meth c Z own bytes maxL ret n0 s₀ h k j pc L S) (hd : decode bytes pc = .ok (.lload_n i, 1)) (hl : L[i.val]? = some (.val (.long v))) {pc' : Nat} (hp : pc + 1 = pc' := by rfl) : Go p l e R s m args below meth c Z own bytes maxL ret n0 s₀ h k j pc' L (.long v :: S) := by
  subst hp; exact G.step fun T locs X eT hx hb t q => XS.lloadN X.here hx rfl (Jvm.hb hb hd) hl q
theorem Go.lload {i : Nat} {v : Int64} (G : Go p l e R s m args below meth c Z own bytes maxL ret n0 s₀ h k j pc L S) (hd : decode bytes pc = .ok (.lload i, 2)) (hl : L[i]? = some (.val (.long v))) {pc' : Nat} (hp : pc + 2 = pc' := by rfl) : Go p l e R s m args below meth c Z own bytes maxL ret n0 s₀ h k j pc' L (.long v :: S) := by
  subst hp; exact G.step fun T locs X eT hx hb t q => XS.lload X.here hx rfl (Jvm.hb hb hd) hl q
theorem Go.aloadN {i : Fin 4} {v : Value} (G : Go p l e R s m args below meth c Z own bytes maxL ret n0 s₀ h k j pc L S) (hd : decode bytes pc = .ok (.aload_n i, 1)) (hl : L[i.val]? = some (.val v)) (hv : v.isRef = true := by rfl) {pc' : Nat} (hp : pc + 1 = pc' := by rfl) : Go p l e R s m args below meth c Z own bytes maxL ret n0 s₀ h k j pc' L (v :: S) := by
  subst hp; exact G.step fun T locs X eT hx hb t q => XS.aloadN X.here hx rfl (Jvm.hb hb hd) hl hv q
theorem Go.aload {i : Nat} {v : Value} (G : Go p l e R s m args below meth c Z own bytes maxL ret n0 s₀ h k j pc L S) (hd : decode bytes pc = .ok (.aload i, 2)) (hl : L[i]? = some (.val v)) (hv : v.isRef = true := by rfl) {pc' : Nat} (hp : pc + 2 = pc' := by rfl) : Go p l e R s m args below meth c Z own bytes maxL ret n0 s₀ h k j pc' L (v :: S) := by
  subst hp; exact G.step fun T locs X eT hx hb t q => XS.aload X.here hx rfl (Jvm.hb hb hd) hl hv q
theorem Go.istoreN {i : Fin 4} {x : Int32} {L' : Array Slot} (G : Go p l e R s m args below meth c Z own bytes maxL ret n0 s₀ h k j pc L (.int x :: S)) (hd : decode bytes pc = .ok (.istore_n i, 1)) (hl : storeLocals L i.val (.int x) = some L') {pc' : Nat} (hp : pc + 1 = pc' := by rfl) : Go p l e R s m args below meth c Z own bytes maxL ret n0 s₀ h k j pc' L' S := by
  subst hp; exact G.step fun T locs X eT hx hb t q => XS.istoreN X.here hx rfl (Jvm.hb hb hd) rfl hl q
theorem Go.istore {i : Nat} {x : Int32} {L' : Array Slot} (G : Go p l e R s m args below meth c Z own bytes maxL ret n0 s₀ h k j pc L (.int x :: S)) (hd : decode bytes pc = .ok (.istore i, 2)) (hl : storeLocals L i (.int x) = some L') {pc' : Nat} (hp : pc + 2 = pc' := by rfl) : Go p l e R s m args below meth c Z own bytes maxL ret n0 s₀ h k j pc' L' S := by
  subst hp; exact G.step fun T locs X eT hx hb t q => XS.istore X.here hx rfl (Jvm.hb hb hd) rfl hl q
theorem Go.lstoreN {i : Fin 4} {x : Int64} {L' : Array Slot} (G : Go p l e R s m args below meth c Z own bytes maxL ret n0 s₀ h k j pc L (.long x :: S)) (hd : decode bytes pc = .ok (.lstore_n i, 1)) (hl : storeLocals L i.val (.long x) = some L') {pc' : Nat} (hp : pc + 1 = pc' := by rfl) : Go p l e R s m args below meth c Z own bytes maxL ret n0 s₀ h k j pc' L' S := by
  subst hp; exact G.step fun T locs X eT hx hb t q => XS.lstoreN X.here hx rfl (Jvm.hb hb hd) rfl hl q
theorem Go.lstore {i : Nat} {x : Int64} {L' : Array Slot} (G : Go p l e R s m args below meth c Z own bytes maxL ret n0 s₀ h k j pc L (.long x :: S)) (hd : decode bytes pc = .ok (.lstore i, 2)) (hl : storeLocals L i (.long x) = some L') {pc' : Nat} (hp : pc + 2 = pc' := by rfl) : Go p l e R s m args below meth c Z own bytes maxL ret n0 s₀ h k j pc' L' S := by
  subst hp; exact G.step fun T locs X eT hx hb t q => XS.lstore X.here hx rfl (Jvm.hb hb hd) rfl hl q
theorem Go.astoreN {i : Fin 4} {x : Value} {L' : Array Slot} (G : Go p l e R s m args below meth c Z own bytes maxL ret n0 s₀ h k j pc L (x :: S)) (hd : decode bytes pc = .ok (.astore_n i, 1)) (hl : storeLocals L i.val x = some L') (hv : x.isRef = true := by rfl) {pc' : Nat} (hp : pc + 1 = pc' := by rfl) : Go p l e R s m args below meth c Z own bytes maxL ret n0 s₀ h k j pc' L' S := by
  subst hp; exact G.step fun T locs X eT hx hb t q => XS.astoreN X.here hx rfl (Jvm.hb hb hd) rfl hv hl q
theorem Go.astore {i : Nat} {x : Value} {L' : Array Slot} (G : Go p l e R s m args below meth c Z own bytes maxL ret n0 s₀ h k j pc L (x :: S)) (hd : decode bytes pc = .ok (.astore i, 2)) (hl : storeLocals L i x = some L') (hv : x.isRef = true := by rfl) {pc' : Nat} (hp : pc + 2 = pc' := by rfl) : Go p l e R s m args below meth c Z own bytes maxL ret n0 s₀ h k j pc' L' S := by
  subst hp; exact G.step fun T locs X eT hx hb t q => XS.astore X.here hx rfl (Jvm.hb hb hd) rfl hv hl q
theorem Go.iinc {i : Nat} {cst : Int} {x : Int32} {L' : Array Slot} (v : Int32) (G : Go p l e R s m args below meth c Z own bytes maxL ret n0 s₀ h k j pc L S) (hd : decode bytes pc = .ok (.iinc i cst, 3)) (hl : L[i]? = some (.val (.int x))) (hl' : storeLocals L i (.int (x + v)) = some L') (hv : Int32.ofInt cst = v := by decide) {pc' : Nat} (hp : pc + 3 = pc' := by rfl) : Go p l e R s m args below meth c Z own bytes maxL ret n0 s₀ h k j pc' L' S := by
  subst hp; exact G.step fun T locs X eT hx hb t q => Jvm.Free.XT.iincV X.here hx rfl v (Jvm.hb hb hd) hv hl hl' q
theorem Go.dup {x : Value} (G : Go p l e R s m args below meth c Z own bytes maxL ret n0 s₀ h k j pc L (x :: S)) (hd : decode bytes pc = .ok (.dup, 1)) (hc : x.category = 1 := by rfl) {pc' : Nat} (hp : pc + 1 = pc' := by rfl) : Go p l e R s m args below meth c Z own bytes maxL ret n0 s₀ h k j pc' L (x :: x :: S) := by
  subst hp; exact G.step fun T locs X eT hx hb t q => XS.dup X.here hx rfl (Jvm.hb hb hd) rfl hc q
theorem Go.pop {x : Value} (G : Go p l e R s m args below meth c Z own bytes maxL ret n0 s₀ h k j pc L (x :: S)) (hd : decode bytes pc = .ok (.pop, 1)) (hc : x.category = 1 := by rfl) {pc' : Nat} (hp : pc + 1 = pc' := by rfl) : Go p l e R s m args below meth c Z own bytes maxL ret n0 s₀ h k j pc' L S := by
  subst hp; exact G.step fun T locs X eT hx hb t q => XS.pop X.here hx rfl (Jvm.hb hb hd) rfl hc q
theorem Go.dupX1 {x y : Value} (G : Go p l e R s m args below meth c Z own bytes maxL ret n0 s₀ h k j pc L (x :: y :: S)) (hd : decode bytes pc = .ok (.dup_x1, 1)) (hc : x.category = 1 := by rfl) (hc2 : y.category = 1 := by rfl) {pc' : Nat} (hp : pc + 1 = pc' := by rfl) : Go p l e R s m args below meth c Z own bytes maxL ret n0 s₀ h k j pc' L (x :: y :: x :: S) := by
  subst hp; exact G.step fun T locs X eT hx hb t q => XS.dupX1 X.here hx rfl (Jvm.hb hb hd) rfl hc hc2 q
theorem Go.dup2 {x y : Value} (G : Go p l e R s m args below meth c Z own bytes maxL ret n0 s₀ h k j pc L (x :: y :: S)) (hd : decode bytes pc = .ok (.dup2, 1)) (hc : x.category = 1 := by rfl) (hc2 : y.category = 1 := by rfl) {pc' : Nat} (hp : pc + 1 = pc' := by rfl) : Go p l e R s m args below meth c Z own bytes maxL ret n0 s₀ h k j pc' L (x :: y :: x :: y :: S) := by
  subst hp; exact G.step fun T locs X eT hx hb t q => Jvm.Free.XT.dup2 X.here hx rfl (Jvm.hb hb hd) rfl hc hc2 q
theorem Go.goto {o : Int} (G : Go p l e R s m args below meth c Z own bytes maxL ret n0 s₀ h k j pc L S) (hd : decode bytes pc = .ok (.goto o, 3)) (pc' : Nat) (ho : 0 ≤ (pc : Int) + o := by decide) (hp : ((pc : Int) + o).toNat = pc' := by decide) : Go p l e R s m args below meth c Z own bytes maxL ret n0 s₀ h k j pc' L S := by
  exact G.step fun T locs X eT hx hb t q => XS.goto X.here hx rfl (pc0 := pc) (pc' := pc') rfl (Jvm.hb hb hd) ho hp q
theorem Go.ifY {cd : ClassFile.Cond} {o : Int} {x : Int32} (G : Go p l e R s m args below meth c Z own bytes maxL ret n0 s₀ h k j pc L (.int x :: S)) (hd : decode bytes pc = .ok (.ifCond cd o, 3)) (pc' : Nat) (hc : ifCond.holds cd x = true) (ho : 0 ≤ (pc : Int) + o := by decide) (hp : ((pc : Int) + o).toNat = pc' := by decide) : Go p l e R s m args below meth c Z own bytes maxL ret n0 s₀ h k j pc' L S := by
  exact G.step fun T locs X eT hx hb t q => XS.ifYes X.here hx rfl (pc0 := pc) (pc' := pc') rfl (Jvm.hb hb hd) rfl hc ho hp q
theorem Go.ifN {cd : ClassFile.Cond} {o : Int} {x : Int32} (G : Go p l e R s m args below meth c Z own bytes maxL ret n0 s₀ h k j pc L (.int x :: S)) (hd : decode bytes pc = .ok (.ifCond cd o, 3)) (pc' : Nat) (hc : ifCond.holds cd x = false) (hp : pc + 3 = pc' := by rfl) : Go p l e R s m args below meth c Z own bytes maxL ret n0 s₀ h k j pc' L S := by
  subst hp; exact G.step fun T locs X eT hx hb t q => XS.ifNo X.here hx rfl (Jvm.hb hb hd) rfl hc q
theorem Go.icmpY {cd : ClassFile.Cond} {o : Int} {x y : Int32} (G : Go p l e R s m args below meth c Z own bytes maxL ret n0 s₀ h k j pc L (.int y :: .int x :: S)) (hd : decode bytes pc = .ok (.if_icmp cd o, 3)) (pc' : Nat) (hc : if_icmp.holds cd x y = true) (ho : 0 ≤ (pc : Int) + o := by decide) (hp : ((pc : Int) + o).toNat = pc' := by decide) : Go p l e R s m args below meth c Z own bytes maxL ret n0 s₀ h k j pc' L S := by
  exact G.step fun T locs X eT hx hb t q => XS.icmpYes X.here hx rfl (pc0 := pc) (pc' := pc') rfl (Jvm.hb hb hd) rfl hc ho hp q
theorem Go.icmpN {cd : ClassFile.Cond} {o : Int} {x y : Int32} (G : Go p l e R s m args below meth c Z own bytes maxL ret n0 s₀ h k j pc L (.int y :: .int x :: S)) (hd : decode bytes pc = .ok (.if_icmp cd o, 3)) (pc' : Nat) (hc : if_icmp.holds cd x y = false) (hp : pc + 3 = pc' := by rfl) : Go p l e R s m args below meth c Z own bytes maxL ret n0 s₀ h k j pc' L S := by
  subst hp; exact G.step fun T locs X eT hx hb t q => XS.icmpNo X.here hx rfl (Jvm.hb hb hd) rfl hc q
theorem Go.ifnullY {o : Int} (G : Go p l e R s m args below meth c Z own bytes maxL ret n0 s₀ h k j pc L (.null :: S)) (hd : decode bytes pc = .ok (.ifnull o, 3)) (pc' : Nat) (ho : 0 ≤ (pc : Int) + o := by decide) (hp : ((pc : Int) + o).toNat = pc' := by decide) : Go p l e R s m args below meth c Z own bytes maxL ret n0 s₀ h k j pc' L S := by
  exact G.step fun T locs X eT hx hb t q => XS.ifnullYes X.here hx rfl (pc0 := pc) (pc' := pc') rfl (Jvm.hb hb hd) rfl ho hp q
theorem Go.ifnullN {o : Int} {b : Addr} (G : Go p l e R s m args below meth c Z own bytes maxL ret n0 s₀ h k j pc L (.ref b :: S)) (hd : decode bytes pc = .ok (.ifnull o, 3)) (pc' : Nat) (hp : pc + 3 = pc' := by rfl) : Go p l e R s m args below meth c Z own bytes maxL ret n0 s₀ h k j pc' L S := by
  subst hp; exact G.step fun T locs X eT hx hb t q => XS.ifnullNo X.here hx rfl (Jvm.hb hb hd) rfl q
theorem Go.ifnonnullY {o : Int} {b : Addr} (G : Go p l e R s m args below meth c Z own bytes maxL ret n0 s₀ h k j pc L (.ref b :: S)) (hd : decode bytes pc = .ok (.ifnonnull o, 3)) (pc' : Nat) (ho : 0 ≤ (pc : Int) + o := by decide) (hp : ((pc : Int) + o).toNat = pc' := by decide) : Go p l e R s m args below meth c Z own bytes maxL ret n0 s₀ h k j pc' L S := by
  exact G.step fun T locs X eT hx hb t q => XS.ifnonnullYes X.here hx rfl (pc0 := pc) (pc' := pc') rfl (Jvm.hb hb hd) rfl ho hp q
theorem Go.ifnonnullN {o : Int} (G : Go p l e R s m args below meth c Z own bytes maxL ret n0 s₀ h k j pc L (.null :: S)) (hd : decode bytes pc = .ok (.ifnonnull o, 3)) (pc' : Nat) (hp : pc + 3 = pc' := by rfl) : Go p l e R s m args below meth c Z own bytes maxL ret n0 s₀ h k j pc' L S := by
  subst hp; exact G.step fun T locs X eT hx hb t q => XS.ifnonnullNo X.here hx rfl (Jvm.hb hb hd) rfl q
theorem Go.out {w : Value} {t : FieldType} {i : Instr} {kc js : Nat} {Q : Option Value → Heap → Prop} (G : Go p l e R s m args below meth c Z own bytes maxL ret n0 s₀ h k j pc L (w :: S)) (hr : ret = some t) (hn : narrow t w = w)
    (hi : (i = .ireturn ∧ (t = .int ∨ t = .boolean ∨ t = .byte ∨ t = .char ∨ t = .short) ∧ ∃ z, w = .int z) ∨ (i = .lreturn ∧ t = .long ∧ ∃ z, w = .long z) ∨ (i = .dreturn ∧ t = .double ∧ ∃ z, w = .double z) ∨ (i = .freturn ∧ t = .float ∧ ∃ z, w = .float z) ∨ (i = .areturn ∧ t.isReference = true ∧ w.isRef = true))
    (hd : decode bytes pc = .ok (i, 1)) (hQ : Q (some w) h) (hk : k ≤ kc) (hj : j ≤ js) : Fini p e below s s₀ n0 kc js Q := by
  obtain ⟨⟨hx, hb, hm, hZ, ho, hret, hlk, hn0⟩, T, locs, X, eT, N, st⟩ := G
  subst hr
  obtain ⟨fs, hr, hrun, hended, hW, hsame⟩ := X.leave (v := some w) (fun h => by rw [hret] at h; cases h) hlk
  exact ⟨_, _, st _ (retOut X hx hret hn hi (Jvm.hb hb hd) hr), hrun, hended, _, _, rfl, ⟨by show Q _ T.heap; rw [eT]; exact hQ, N⟩, ⟨_, rfl⟩, hW, hsame.mono hk hj⟩
theorem Go.retI {z : Int32} {kc js : Nat} {Q : Option Value → Heap → Prop} (G : Go p l e R s m args below meth c Z own bytes maxL ret n0 s₀ h k j pc L (.int z :: S)) (hd : decode bytes pc = .ok (.ireturn, 1)) (hr : ret = some .int) (hQ : Q (some (.int z)) h) (hk : k ≤ kc := by decide) (hj : j ≤ js := by decide) : Fini p e below s s₀ n0 kc js Q :=
  G.out hr rfl (Or.inl ⟨rfl, Or.inl rfl, z, rfl⟩) hd hQ hk hj
theorem Go.retS {z : Int32} {t : FieldType} {kc js : Nat} {Q : Option Value → Heap → Prop} (G : Go p l e R s m args below meth c Z own bytes maxL ret n0 s₀ h k j pc L (.int z :: S)) (hd : decode bytes pc = .ok (.ireturn, 1)) (hr : ret = some t) (ht : t = .int ∨ t = .boolean ∨ t = .byte ∨ t = .char ∨ t = .short) (hn : narrow t (.int z) = .int z) (hQ : Q (some (.int z)) h) (hk : k ≤ kc := by decide) (hj : j ≤ js := by decide) : Fini p e below s s₀ n0 kc js Q :=
  G.out hr hn (Or.inl ⟨rfl, ht, z, rfl⟩) hd hQ hk hj
theorem Go.retZ {z : Int32} {kc js : Nat} {Q : Option Value → Heap → Prop} (G : Go p l e R s m args below meth c Z own bytes maxL ret n0 s₀ h k j pc L (.int z :: S)) (hd : decode bytes pc = .ok (.ireturn, 1)) (hr : ret = some .boolean) (hn : z = 0 ∨ z = 1) (hQ : Q (some (.int z)) h) (hk : k ≤ kc := by decide) (hj : j ≤ js := by decide) : Fini p e below s s₀ n0 kc js Q :=
  G.out hr (by rcases hn with rfl | rfl <;> rfl) (Or.inl ⟨rfl, Or.inr (Or.inl rfl), z, rfl⟩) hd hQ hk hj
theorem Go.retJ {z : Int64} {kc js : Nat} {Q : Option Value → Heap → Prop} (G : Go p l e R s m args below meth c Z own bytes maxL ret n0 s₀ h k j pc L (.long z :: S)) (hd : decode bytes pc = .ok (.lreturn, 1)) (hr : ret = some .long) (hQ : Q (some (.long z)) h) (hk : k ≤ kc := by decide) (hj : j ≤ js := by decide) : Fini p e below s s₀ n0 kc js Q :=
  G.out hr rfl (Or.inr (Or.inl ⟨rfl, rfl, z, rfl⟩)) hd hQ hk hj
theorem Go.retA {a : Addr} {t : FieldType} {kc js : Nat} {Q : Option Value → Heap → Prop} (G : Go p l e R s m args below meth c Z own bytes maxL ret n0 s₀ h k j pc L (.ref a :: S)) (hd : decode bytes pc = .ok (.areturn, 1)) (hr : ret = some t) (ht : t.isReference = true) (hn : narrow t (.ref a) = .ref a) (hQ : Q (some (.ref a)) h) (hk : k ≤ kc := by decide) (hj : j ≤ js := by decide) : Fini p e below s s₀ n0 kc js Q :=
  G.out hr hn (Or.inr (Or.inr (Or.inr (Or.inr ⟨rfl, ht, rfl⟩)))) hd hQ hk hj
theorem Go.retV {kc js : Nat} {Q : Option Value → Heap → Prop} (G : Go p l e R s m args below meth c Z own bytes maxL ret n0 s₀ h k j pc L []) (hd : decode bytes pc = .ok (.return_, 1)) (hr : ret = none) (hQ : Q none h) (hk : k ≤ kc := by decide) (hj : j ≤ js := by decide) : Fini p e below s s₀ n0 kc js Q := by
  obtain ⟨⟨hx, hb, hm, hZ, ho, hret, hlk, hn0⟩, T, locs, X, eT, N, st⟩ := G
  subst hr
  obtain ⟨fs, hr, hrun, hended, hW, hsame⟩ := X.leave (v := none) (fun _ => rfl) hlk
  exact ⟨_, _, st _ (X.returnOut hx hret (Jvm.hb hb hd) hr), hrun, hended, _, _, rfl, ⟨by show Q _ T.heap; rw [eT]; exact hQ, N⟩, ⟨_, rfl⟩, hW, hsame.mono hk hj⟩
theorem Go.callS {S0 argsL rest : List Value} {y : MethodName} {bytes' : ByteArray} {maxL' : Nat} {ret' r : Option FieldType} {ps : List FieldType} {rm : Room} {index : Nat} {Q : Option Value → Heap → Prop} (G : Go p l e R s m args below meth c Z own bytes maxL ret n0 s₀ h k j pc L S0) (C : Con l y bytes' maxL' ret' [] rm rm.cells rm.slots Z argsL.toArray h n0 Q) (hS : S0 = argsL.reverse ++ rest)
    (w1 : (Cond.methodLink own index y).before a0 Z = true) (w2 : (Cond.static y).before a0 Z = true) (w3 : (Cond.initialized y.cls).before a0 Z = true) (w4 : (Cond.code y bytes' maxL' ret').before a0 Z = true) (hy : y.cls ≠ "java/lang/invoke/MethodHandle" ∧ y.cls ≠ "java/lang/invoke/VarHandle")
    (hd : decode bytes pc = .ok (.invokestatic index, 3)) (hpd : parseMethodDescriptor y.desc = some ⟨ps, r⟩) (hl : argsL.length = ps.length) {W : Nat} (hW : (rest.map fun v => v.category).sum = W) (hL : L.size = maxL) (hf : rm.frames + 1 ≤ R.frames) (hlo : W + (maxL' + 11) + rm.locals ≤ R.locals) (hc : k + rm.cells ≤ R.cells) (hs : j + rm.slots ≤ R.slots) {pc' k' j' : Nat} (hp : pc + 3 = pc') (hk' : k + rm.cells = k') (hj' : j + rm.slots = j') :
    ∃ v h', Q v h' ∧ ∀ S', v.toList ++ rest = S' → Go p l e R s m args below meth c Z own bytes maxL ret n0 s₀ h' k' j' pc' L S' := by
  subst hp hk' hj' hS
  obtain ⟨⟨hx, hb, hm, hZ, ho, hret, hlk, hn0⟩, T, locs, X, eT, N, st⟩ := G
  obtain ⟨v, _, ⟨T', L', k', n'⟩, -, X', ⟨Lc, hQ, l', y', z'⟩, st'⟩ := Jvm.LawKit.callS X hx (y := y) ho (mvT hZ w1) (mvT hZ w2) (mvT hZ w3) (mvT hZ w4) hy (backOf (W := W) (R := R) (rm := rm) (Q := fun v h L => Q v h ∧ Fr n0 L) C hZ w4 w3 hf hlo) (g := mkF m pc L (argsL.reverse ++ rest)) rfl (by rw [hm]; exact hL) (argsL := argsL) (rest := rest) (lenOf hpd hl) rfl (by show 2 * 0 + _ ≤ _; omega) (Jvm.hb hb hd) (fun _ _ => ⟨rfl, eT, hc, hs⟩)
  dsimp only [Pt.U, Pt.locs, Pt.cells, Pt.slots] at X' l' y' z' st' hQ
  subst l' y' z'
  refine ⟨v, T'.heap, hQ.1, fun S' e => ?_⟩
  subst e
  exact ⟨⟨hx, hb, hm, hZ, ho, hret, hlk, hn0⟩, T', _, X', rfl, Fr.app N hQ.2, fun t q => st t (st' t q)⟩
theorem Go.callI {S0 argsL rest : List Value} {y : MethodName} {bytes' : ByteArray} {maxL' : Nat} {r : Option FieldType} {ps : List FieldType} {rm : Room} {index : Nat} {Q : Option Value → Heap → Prop} {a : Addr} (G : Go p l e R s m args below meth c Z own bytes maxL ret n0 s₀ h k j pc L S0) (C : Con l y bytes' maxL' none [] rm rm.cells rm.slots Z (.ref a :: argsL).toArray h n0 Q) (hS : S0 = argsL.reverse ++ .ref a :: rest) (hyn : y.name = "<init>")
    (w1 : (Cond.methodLink own index y).before a0 Z = true) (w2 : (Cond.instanceMethod y).before a0 Z = true) (w3 : (Cond.initialized y.cls).before a0 Z = true) (w4 : (Cond.code y bytes' maxL' none).before a0 Z = true) (hy : y.cls ≠ "java/lang/invoke/MethodHandle" ∧ y.cls ≠ "java/lang/invoke/VarHandle")
    (hd : decode bytes pc = .ok (.invokespecial index, 3)) (hpd : parseMethodDescriptor y.desc = some ⟨ps, r⟩) (hl : argsL.length = ps.length) {W : Nat} (hW : (rest.map fun v => v.category).sum = W) (hL : L.size = maxL) (hf : rm.frames + 1 ≤ R.frames) (hlo : W + (maxL' + 11) + rm.locals ≤ R.locals) (hc : k + rm.cells ≤ R.cells) (hs : j + rm.slots ≤ R.slots) {pc' k' j' : Nat} (hp : pc + 3 = pc') (hk' : k + rm.cells = k') (hj' : j + rm.slots = j') :
    ∃ v h', Q v h' ∧ ∀ S', v.toList ++ rest = S' → Go p l e R s m args below meth c Z own bytes maxL ret n0 s₀ h' k' j' pc' L S' := by
  subst hp hk' hj' hS
  obtain ⟨⟨hx, hb, hm, hZ, ho, hret, hlk, hn0⟩, T, locs, X, eT, N, st⟩ := G
  obtain ⟨v, _, ⟨T', L', k', n'⟩, -, X', ⟨Lc, hQ, l', y', z'⟩, st'⟩ := X.specialBack hx (y := y) hyn ho (mvT hZ w1) (mvT hZ w2) (mvT hZ w4) hy (backOf (W := W) (R := R) (rm := rm) (Q := fun v h L => Q v h ∧ Fr n0 L) C hZ w4 w3 hf hlo) (g := mkF m pc L (argsL.reverse ++ .ref a :: rest)) rfl (by rw [hm]; exact hL) (Steps.refl _) (a := a) (argsL := argsL) (rest := rest) (lenOf hpd hl) rfl (by show 2 * 0 + _ ≤ _; omega) (Jvm.hb hb hd) (fun _ _ => ⟨rfl, eT, hc, hs⟩)
  dsimp only [Pt.U, Pt.locs, Pt.cells, Pt.slots] at X' l' y' z' st' hQ
  subst l' y' z'
  refine ⟨v, T'.heap, hQ.1, fun S' e => ?_⟩
  subst e
  exact ⟨⟨hx, hb, hm, hZ, ho, hret, hlk, hn0⟩, T', _, X', rfl, Fr.app N hQ.2, fun t q => st t (st'.trans q)⟩
theorem Go.callV {S0 argsL rest : List Value} {y : MethodName} {bytes' : ByteArray} {maxL' : Nat} {ret' r : Option FieldType} {ps : List FieldType} {rm : Room} {index : Nat} {Q : Option Value → Heap → Prop} {a : Addr} {K : String} (G : Go p l e R s m args below meth c Z own bytes maxL ret n0 s₀ h k j pc L S0) (C : Con l y bytes' maxL' ret' [] rm rm.cells rm.slots Z (.ref a :: argsL).toArray h n0 Q) (hS : S0 = argsL.reverse ++ .ref a :: rest) (E : Exa Z h a K)
    (w1 : (Cond.methodLink own index y).before a0 Z = true) (w1' : (Cond.declares y).before a0 Z = true) (w1'' : (Cond.selects K y y).before a0 Z = true) (w2 : (Cond.instanceMethod y).before a0 Z = true) (w3 : (Cond.initialized y.cls).before a0 Z = true) (w4 : (Cond.code y bytes' maxL' ret').before a0 Z = true) (hy : y.cls ≠ "java/lang/invoke/MethodHandle" ∧ y.cls ≠ "java/lang/invoke/VarHandle")
    (hd : decode bytes pc = .ok (.invokevirtual index, 3)) (hpd : parseMethodDescriptor y.desc = some ⟨ps, r⟩) (hl : argsL.length = ps.length) {W : Nat} (hW : (rest.map fun v => v.category).sum = W) (hL : L.size = maxL) (hf : rm.frames + 1 ≤ R.frames) (hlo : W + (maxL' + 11) + rm.locals ≤ R.locals) (hc : k + rm.cells ≤ R.cells) (hs : j + rm.slots ≤ R.slots) {pc' k' j' : Nat} (hp : pc + 3 = pc') (hk' : k + rm.cells = k') (hj' : j + rm.slots = j') :
    ∃ v h', Q v h' ∧ ∀ S', v.toList ++ rest = S' → Go p l e R s m args below meth c Z own bytes maxL ret n0 s₀ h' k' j' pc' L S' := by
  subst hp hk' hj' hS
  obtain ⟨⟨hx, hb, hm, hZ, ho, hret, hlk, hn0⟩, T, locs, X, eT, N, st⟩ := G
  obtain ⟨cq, kq, q1, q2, q3⟩ := isOf hZ eT E
  obtain ⟨v, _, ⟨T', L', k', n'⟩, -, X', ⟨Lc, hQ, l', y', z'⟩, st'⟩ := X.virtualBack hx (y := y) (z := y) ho (mvT hZ w1) (mvT hZ w1') (notFace_of_selects (args := #[]) (mvT hZ w1'')) (mvT hZ w1'') (mvT hZ w2) hy (backOf (W := W) (R := R) (rm := rm) (Q := fun v h L => Q v h ∧ Fr n0 L) C hZ w4 w3 hf hlo) q1 q3 (g := mkF m pc L (argsL.reverse ++ .ref a :: rest)) rfl (by rw [hm]; exact hL) (Steps.refl _) (argsL := argsL) (rest := rest) (lenOf hpd hl) rfl (by show 2 * 0 + _ ≤ _; omega) (Jvm.hb hb hd) (fun _ _ => ⟨rfl, eT, hc, hs⟩)
  dsimp only [Pt.U, Pt.locs, Pt.cells, Pt.slots] at X' l' y' z' st' hQ
  subst l' y' z'
  refine ⟨v, T'.heap, hQ.1, fun S' e => ?_⟩
  subst e
  exact ⟨⟨hx, hb, hm, hZ, ho, hret, hlk, hn0⟩, T', _, X', rfl, Fr.app N hQ.2, fun t q => st t (st'.trans q)⟩
theorem Go.initO {a : Addr} {index : Nat} (G : Go p l e R s m args below meth c Z own bytes maxL ret n0 s₀ h k j pc L (.ref a :: S)) (w1 : (Cond.methodLink own index Lib.objectInit).before a0 Z = true) (w2 : (Cond.instanceMethod Lib.objectInit).before a0 Z = true) (w3 : (Cond.code Lib.objectInit Jvm.LibCode.Object.Init0.code 1 none).before a0 Z = true) (hd : decode bytes pc = .ok (.invokespecial index, 3)) {W : Nat} (hW : (S.map fun v => v.category).sum = W) (hL : L.size = maxL) (hf : 1 ≤ R.frames) (hlo : W + 12 ≤ R.locals) {pc' : Nat} (hp : pc + 3 = pc' := by rfl) : Go p l e R s m args below meth c Z own bytes maxL ret n0 s₀ h k j pc' L S := by
  subst hp
  obtain ⟨⟨hx, hb, hm, hZ, ho, r⟩, T, locs, X, eT, N, st⟩ := G
  obtain ⟨T', X', e', st'⟩ := Jvm.RoadKit.initO X hx hZ ho w1 w2 w3 eT (g := mkF m pc L (.ref a :: S)) rfl (by rw [hm]; exact hL) rfl (Jvm.hb hb hd) hf (W := W) (by show 2 * 0 + _ ≤ _; omega) hlo
  exact ⟨⟨hx, hb, hm, hZ, ho, r⟩, T', locs, X', e', N, fun t q => st t (st' t q)⟩
theorem Go.newO {C : String} {index n : Nat} (G : Go p l e R s m args below meth c Z own bytes maxL ret n0 s₀ h k j pc L S) (w1 : (Cond.classLink own index C).before a0 Z = true) (w2 : (Cond.instantiable C n).before a0 Z = true) (w3 : (Cond.initialized C).before a0 Z = true) (hd : decode bytes pc = .ok (.new index, 3)) {pc' k' j' : Nat} (hp : pc + 3 = pc') (hk : k + 1 = k') (hj : j + n = j') (hc : k' ≤ R.cells) (hl : j' ≤ R.slots) :
    ∃ a h', a = h.size ∧ n0 ≤ a ∧ Ext h h' ∧ Exa Z h' a C ∧ (∀ {O nm d : String} {ty : FieldType}, Laid Z a0 C O nm d → parseFieldDescriptor d = some ty → Fld Z h' a O nm d (defaultValue ty)) ∧ Go p l e R s m args below meth c Z own bytes maxL ret n0 s₀ h' k' j' pc' L (.ref a :: S) := by
  have hsz := G.size
  subst hp hk hj
  obtain ⟨⟨hx, hb, hm, hZ, ho, r⟩, T, locs, X, eT, N, st⟩ := G
  obtain ⟨T2, h2, X2, e2, E2, A2, D2, -, st2⟩ := Jvm.RoadKit.newO X hx hZ ho w1 w2 w3 eT (g := mkF m pc L S) rfl (Jvm.hb hb hd) hc hl
  exact ⟨h.size, h2, rfl, hsz, E2, A2, D2, ⟨hx, hb, hm, hZ, ho, r⟩, T2, locs, X2, e2, N, fun t q => st t (st2 t q)⟩
theorem Go.getF {a : Addr} {R0 O n d host : String} {index : Nat} {v : Value} (G : Go p l e R s m args below meth c Z own bytes maxL ret n0 s₀ h k j pc L (.ref a :: S)) (w : (Cond.fieldLink own index R0 n d).before a0 Z = true ∨ (Cond.fieldLinkNest own index R0 n d host).before a0 Z = true) (via : Via Z R0 O n d) (F : Fld Z h a O n d v) (hd : decode bytes pc = .ok (.getfield index, 3)) {pc' : Nat} (hp : pc + 3 = pc' := by rfl) : Go p l e R s m args below meth c Z own bytes maxL ret n0 s₀ h k j pc' L (v :: S) := by
  subst hp
  obtain ⟨⟨hx, hb, hm, hZ, ho, r⟩, T, locs, X, eT, N, st⟩ := G
  obtain ⟨T', X', e', st'⟩ := Jvm.RoadKit.getF X hx hZ ho w via eT F (g := mkF m pc L (.ref a :: S)) rfl rfl (Jvm.hb hb hd)
  exact ⟨⟨hx, hb, hm, hZ, ho, r⟩, T', locs, X', e', N, fun t q => st t (st' t q)⟩
theorem Go.putF {a : Addr} {R0 O n d host C : String} {index kk : Nat} {ty : FieldType} {v old : Value} (G : Go p l e R s m args below meth c Z own bytes maxL ret n0 s₀ h k j pc L (v :: .ref a :: S)) (w : (Cond.fieldLink own index R0 n d).before a0 Z = true ∨ (Cond.fieldLinkNest own index R0 n d host).before a0 Z = true) (via : Via Z R0 O n d) (F : Fld Z h a O n d old) (E : Exa Z h a C) (ha : n0 ≤ a) (Ly : (Cond.lays C O n d).before a0 Z = true ∨ ((Cond.laysFinal C O n d).before a0 Z = true ∧ own = O ∧ meth.name = "<init>")) (wi : (Cond.instantiable C kk).before a0 Z = true) (hty : parseFieldDescriptor d = some ty) (hn : narrow ty v = v) (hf : fits ty v = true) (hd : decode bytes pc = .ok (.putfield index, 3)) {pc' : Nat} (hp : pc + 3 = pc' := by rfl) :
    ∃ h', Wr h h' a (Jvm.RoadKit.slotOf Z O n d) v ∧ Go p l e R s m args below meth c Z own bytes maxL ret n0 s₀ h' k j pc' L S := by
  subst hp
  obtain ⟨⟨hx, hb, hm, hZ, ho, r⟩, T, locs, X, eT, N, st⟩ := G
  obtain ⟨T', h', X', e', W', st'⟩ := Jvm.RoadKit.putF X hx hZ ho w via eT F E Ly wi hty hn hf (g := mkF m pc L (v :: .ref a :: S)) rfl rfl (Jvm.hb hb hd)
  exact ⟨h', W', ⟨hx, hb, hm, hZ, ho, r⟩, T', _, X', e', Fr.snoc X' N ha, fun t q => st t (st' t q)⟩
/-- an array of that kind whose places hold these values -/
def Av (Z : State) (h : Heap) (a : Addr) (ty : FieldType) (vs : List Value) : Prop := ∃ c : Cell, Arr Z h a c ty ∧ c.slots.toList = vs ∧ vs.length < 2 ^ 31 ∧ ∀ v ∈ vs, fits ty v = true
theorem Av.lt {a : Addr} {ty : FieldType} {vs : List Value} (A : Av Z h a ty vs) : a < h.size := by obtain ⟨c, A, -⟩ := A; exact A.lt
theorem Av.len {a : Addr} {ty : FieldType} {vs : List Value} (A : Av Z h a ty vs) : vs.length < 2 ^ 31 := by obtain ⟨c, _, _, q, _⟩ := A; exact q
theorem Av.fit {a : Addr} {ty : FieldType} {vs : List Value} (A : Av Z h a ty vs) : ∀ v ∈ vs, fits ty v = true := by obtain ⟨c, _, _, _, q⟩ := A; exact q
theorem Av.ext {h' : Heap} {a : Addr} {ty : FieldType} {vs : List Value} (A : Av Z h a ty vs) (E : Ext h h') : Av Z h' a ty vs := by obtain ⟨c, A, q⟩ := A; exact ⟨c, A.ext E, q⟩
theorem Av.other {h' : Heap} {a b : Addr} {sl : Nat} {v : Value} {ty : FieldType} {vs : List Value} (A : Av Z h b ty vs) (W : Wr h h' a sl v) (q : b ≠ a) : Av Z h' b ty vs := by obtain ⟨c, A, r⟩ := A; exact ⟨c, A.other W q, r⟩
theorem Av.keep {h' : Heap} {a : Addr} {ws : List Addr} {ty : FieldType} {vs : List Value} (A : Av Z h a ty vs) (K : Keep h h' ws) (q : a ∉ ws) : Av Z h' a ty vs := by obtain ⟨c, A, r⟩ := A; exact ⟨c, ⟨K.2.1 a c A.1 q, A.2⟩, r⟩
theorem Av.set {h' : Heap} {a : Addr} {i : Nat} {v : Value} {ty : FieldType} {vs : List Value} (A : Av Z h a ty vs) (W : Wr h h' a i v) (hf : fits ty v = true) : Av Z h' a ty (vs.set i v) := by
  obtain ⟨c, A, rfl, r, f⟩ := A
  exact ⟨c.setSlot i v, A.same W, by simp [Cell.setSlot], by simpa using r, fun x hx => (List.mem_or_eq_of_mem_set hx).elim (f x) fun q => q ▸ hf⟩
theorem idx_of {x : Int32} {i n : Nat} (hx : x.toInt = (i : Int)) (hi : i < n) : ¬ (x < 0 ∨ n ≤ x.toNatClampNeg) ∧ x.toNatClampNeg = i := by
  have e : x.toNatClampNeg = i := by show x.toInt.toNat = i; omega
  refine ⟨?_, e⟩
  rw [e, Int32.lt_iff_toInt_lt, hx]
  show ¬ (((i : Nat) : Int) < 0 ∨ n ≤ i)
  omega
theorem Go.newA {n : Int32} {aty : ArrayType} {ty : FieldType} {dv : Value} {N cap : Nat} (G : Go p l e R s m args below meth c Z own bytes maxL ret n0 s₀ h k j pc L (.int n :: S)) (w : (Cond.arrayClass ty).before a0 Z = true) (hd : decode bytes pc = .ok (.newarray aty, 2)) (hty : newarray.typeOf aty = ty) (hdv : defaultValue ty = dv) (hn : n.toInt = (N : Int)) (hN : N ≤ cap) (hb : cap * 8 ≤ 536870912) {pc' k' j' : Nat} (hp : pc + 2 = pc') (hk : k + 1 = k') (hj : j + cap = j') (hc : k' ≤ R.cells) (hl : j' ≤ R.slots) :
    ∃ a h', a = h.size ∧ n0 ≤ a ∧ Ext h h' ∧ Av Z h' a ty (List.replicate N dv) ∧ Go p l e R s m args below meth c Z own bytes maxL ret n0 s₀ h' k' j' pc' L (.ref a :: S) := by
  have hsz := G.size
  have e1 : n.toNatClampNeg = N := by show n.toInt.toNat = N; omega
  have e2 := n.toInt_lt
  subst hp hk hj hty hdv
  obtain ⟨⟨hx, hb', hm, hZ, ho, r⟩, T, locs, X, eT, N', st⟩ := G
  obtain ⟨T2, h2, cA, X2, e3, E2, A2, st2⟩ := Jvm.RoadKit.newP X hx hZ w eT (g := mkF m pc L (.int n :: S)) rfl (Jvm.hb hb' hd) rfl (by rw [Int32.lt_iff_toInt_lt, hn]; show ¬ ((N : Nat) : Int) < 0; omega) (cap := cap) (by rw [e1]; exact hN) hb hc hl
  exact ⟨h.size, h2, rfl, hsz, E2, ⟨_, A2, by rw [Jvm.RoadKit.newA, e1]; simp, by rw [List.length_replicate]; omega, fun v hv => by rw [List.eq_of_mem_replicate hv]; cases aty <;> rfl⟩, ⟨hx, hb', hm, hZ, ho, r⟩, T2, locs, X2, e3, N', fun t q => st t (st2 t q)⟩
theorem Go.stI {a : Addr} {x : Int32} {y : Int32} {i : Nat} {vs : List Value} (G : Go p l e R s m args below meth c Z own bytes maxL ret n0 s₀ h k j pc L (.int x :: .int y :: .ref a :: S)) (A : Av Z h a .int vs) (ha : n0 ≤ a) (hy : y.toInt = (i : Int)) (hi : i < vs.length) (hd : decode bytes pc = .ok (.iastore, 1)) {pc' : Nat} (hp : pc + 1 = pc' := by rfl) :
    ∃ h', Wr h h' a i (.int x) ∧ Av Z h' a .int (vs.set i (.int x)) ∧ Go p l e R s m args below meth c Z own bytes maxL ret n0 s₀ h' k j pc' L S := by
  have A0 := A
  obtain ⟨cl, Ar, rfl, hlen, -⟩ := A
  rw [Array.length_toList] at hi
  have ⟨i1, i2⟩ := idx_of hy hi
  subst hp
  obtain ⟨⟨hx, hb, hm, hZ, ho, r⟩, T, locs, X, eT, N, st⟩ := G
  obtain ⟨T', h', X', e', W', st'⟩ := Jvm.RoadKit.stI X hx hZ eT Ar i1 (g := mkF m pc L (.int x :: .int y :: .ref a :: S)) rfl rfl (Jvm.hb hb hd)
  have N' := Fr.snoc X' N ha
  rw [i2] at W'
  exact ⟨h', W', A0.set W' rfl, ⟨hx, hb, hm, hZ, ho, r⟩, T', _, X', e', N', fun t q => st t (st' t q)⟩
theorem Go.stJ {a : Addr} {x : Int64} {y : Int32} {i : Nat} {vs : List Value} (G : Go p l e R s m args below meth c Z own bytes maxL ret n0 s₀ h k j pc L (.long x :: .int y :: .ref a :: S)) (A : Av Z h a .long vs) (ha : n0 ≤ a) (hy : y.toInt = (i : Int)) (hi : i < vs.length) (hd : decode bytes pc = .ok (.lastore, 1)) {pc' : Nat} (hp : pc + 1 = pc' := by rfl) :
    ∃ h', Wr h h' a i (.long x) ∧ Av Z h' a .long (vs.set i (.long x)) ∧ Go p l e R s m args below meth c Z own bytes maxL ret n0 s₀ h' k j pc' L S := by
  have A0 := A
  obtain ⟨cl, Ar, rfl, hlen, -⟩ := A
  rw [Array.length_toList] at hi
  have ⟨i1, i2⟩ := idx_of hy hi
  subst hp
  obtain ⟨⟨hx, hb, hm, hZ, ho, r⟩, T, locs, X, eT, N, st⟩ := G
  obtain ⟨T', h', X', e', W', st'⟩ := Jvm.RoadKit.stJ X hx hZ eT Ar i1 (g := mkF m pc L (.long x :: .int y :: .ref a :: S)) rfl rfl (Jvm.hb hb hd)
  have N' := Fr.snoc X' N ha
  rw [i2] at W'
  exact ⟨h', W', A0.set W' rfl, ⟨hx, hb, hm, hZ, ho, r⟩, T', _, X', e', N', fun t q => st t (st' t q)⟩
theorem Go.stB {a : Addr} {x : Int32} {y : Int32} {i : Nat} {vs : List Value} (G : Go p l e R s m args below meth c Z own bytes maxL ret n0 s₀ h k j pc L (.int x :: .int y :: .ref a :: S)) (A : Av Z h a .byte vs) (ha : n0 ≤ a) (hy : y.toInt = (i : Int)) (hi : i < vs.length) (hd : decode bytes pc = .ok (.bastore, 1)) {pc' : Nat} (hp : pc + 1 = pc' := by rfl) :
    ∃ h', Wr h h' a i (.int (nar .byte x)) ∧ Av Z h' a .byte (vs.set i (.int (nar .byte x))) ∧ Go p l e R s m args below meth c Z own bytes maxL ret n0 s₀ h' k j pc' L S := by
  have A0 := A
  obtain ⟨cl, Ar, rfl, hlen, -⟩ := A
  rw [Array.length_toList] at hi
  have ⟨i1, i2⟩ := idx_of hy hi
  subst hp
  obtain ⟨⟨hx, hb, hm, hZ, ho, r⟩, T, locs, X, eT, N, st⟩ := G
  obtain ⟨T', h', X', e', W', st'⟩ := Jvm.RoadKit.stB X hx hZ eT Ar i1 (g := mkF m pc L (.int x :: .int y :: .ref a :: S)) rfl rfl (Jvm.hb hb hd)
  have N' := Fr.snoc X' N ha
  rw [i2] at W'
  exact ⟨h', W', A0.set W' (fits_nar_byte x), ⟨hx, hb, hm, hZ, ho, r⟩, T', _, X', e', N', fun t q => st t (st' t q)⟩
theorem Go.ldI {a : Addr} {v : Value} {y : Int32} {i : Nat} {vs : List Value} (G : Go p l e R s m args below meth c Z own bytes maxL ret n0 s₀ h k j pc L (.int y :: .ref a :: S)) (A : Av Z h a .int vs) (hy : y.toInt = (i : Int)) (hv : vs[i]? = some v) (hd : decode bytes pc = .ok (.iaload, 1)) {pc' : Nat} (hp : pc + 1 = pc' := by rfl) : Go p l e R s m args below meth c Z own bytes maxL ret n0 s₀ h k j pc' L (v :: S) := by
  obtain ⟨cl, Ar, rfl, hlen, -⟩ := A
  have hi : i < cl.slots.size := by rw [← Array.length_toList]; exact (List.getElem?_eq_some_iff.mp hv).1
  have ⟨i1, i2⟩ := idx_of hy hi
  rw [Array.getElem?_toList] at hv
  subst hp
  obtain ⟨⟨hx, hb, hm, hZ, ho, r⟩, T, locs, X, eT, N, st⟩ := G
  exact ⟨⟨hx, hb, hm, hZ, ho, r⟩, T, locs, X, eT, N, fun t q => st t (X.iaload hx (j := y) (v := v) (by rw [eT]; exact Ar.1) (State.isArrayOf_alike hZ.alike Ar.2.1) Ar.2.2 i1 (by rw [i2]; exact hv) (g := mkF m pc L (.int y :: .ref a :: S)) rfl rfl (Jvm.hb hb hd) t q)⟩
theorem Go.ldJ {a : Addr} {v : Value} {y : Int32} {i : Nat} {vs : List Value} (G : Go p l e R s m args below meth c Z own bytes maxL ret n0 s₀ h k j pc L (.int y :: .ref a :: S)) (A : Av Z h a .long vs) (hy : y.toInt = (i : Int)) (hv : vs[i]? = some v) (hd : decode bytes pc = .ok (.laload, 1)) {pc' : Nat} (hp : pc + 1 = pc' := by rfl) : Go p l e R s m args below meth c Z own bytes maxL ret n0 s₀ h k j pc' L (v :: S) := by
  obtain ⟨cl, Ar, rfl, hlen, -⟩ := A
  have hi : i < cl.slots.size := by rw [← Array.length_toList]; exact (List.getElem?_eq_some_iff.mp hv).1
  have ⟨i1, i2⟩ := idx_of hy hi
  rw [Array.getElem?_toList] at hv
  subst hp
  obtain ⟨⟨hx, hb, hm, hZ, ho, r⟩, T, locs, X, eT, N, st⟩ := G
  exact ⟨⟨hx, hb, hm, hZ, ho, r⟩, T, locs, X, eT, N, fun t q => st t (X.laload hx (j := y) (v := v) (by rw [eT]; exact Ar.1) (State.isArrayOf_alike hZ.alike Ar.2.1) Ar.2.2 i1 (by rw [i2]; exact hv) (g := mkF m pc L (.int y :: .ref a :: S)) rfl rfl (Jvm.hb hb hd) t q)⟩
theorem Go.ldB {a : Addr} {v : Value} {y : Int32} {i : Nat} {vs : List Value} (G : Go p l e R s m args below meth c Z own bytes maxL ret n0 s₀ h k j pc L (.int y :: .ref a :: S)) (A : Av Z h a .byte vs) (hy : y.toInt = (i : Int)) (hv : vs[i]? = some v) (hd : decode bytes pc = .ok (.baload, 1)) {pc' : Nat} (hp : pc + 1 = pc' := by rfl) : Go p l e R s m args below meth c Z own bytes maxL ret n0 s₀ h k j pc' L (v :: S) := by
  obtain ⟨cl, Ar, rfl, hlen, -⟩ := A
  have hi : i < cl.slots.size := by rw [← Array.length_toList]; exact (List.getElem?_eq_some_iff.mp hv).1
  have ⟨i1, i2⟩ := idx_of hy hi
  rw [Array.getElem?_toList] at hv
  subst hp
  obtain ⟨⟨hx, hb, hm, hZ, ho, r⟩, T, locs, X, eT, N, st⟩ := G
  exact ⟨⟨hx, hb, hm, hZ, ho, r⟩, T, locs, X, eT, N, fun t q => st t (X.baloadBytes hx (j := y) (v := v) (by rw [eT]; exact Ar.1) (State.isArrayOf_alike hZ.alike Ar.2.1) Ar.2.2 i1 (by rw [i2]; exact hv) (g := mkF m pc L (.int y :: .ref a :: S)) rfl rfl (Jvm.hb hb hd) t q)⟩
theorem Go.arrlen {a : Addr} {ty : FieldType} {vs : List Value} (v : Int32) (G : Go p l e R s m args below meth c Z own bytes maxL ret n0 s₀ h k j pc L (.ref a :: S)) (A : Av Z h a ty vs) (hv : v.toInt = (vs.length : Int)) (hd : decode bytes pc = .ok (.arraylength, 1)) {pc' : Nat} (hp : pc + 1 = pc' := by rfl) : Go p l e R s m args below meth c Z own bytes maxL ret n0 s₀ h k j pc' L (.int v :: S) := by
  obtain ⟨cl, Ar, rfl, hlen, -⟩ := A
  have e1 : cl.slots.size.toInt32 = v := by
    rw [Array.length_toList] at hlen hv
    apply Int32.toInt_inj.mp
    rw [hv]
    exact Int32.toInt_ofNat_of_lt (by omega)
  subst hp e1
  obtain ⟨⟨hx, hb, hm, hZ, ho, r⟩, T, locs, X, eT, N, st⟩ := G
  exact ⟨⟨hx, hb, hm, hZ, ho, r⟩, T, locs, X, eT, N, fun t q => st t (X.arraylength hx (by rw [eT]; exact Ar.1) (State.isArrayOf_alike hZ.alike Ar.2.1) (g := mkF m pc L (.ref a :: S)) rfl rfl (Jvm.hb hb hd) t q)⟩
end OwnKit
end Jvm.OwnKit
namespace Jvm.Pilot.@@N@@
open Jvm Jvm.ClassFile Sem Op Lib Jvm.Free Jvm.Stand Jvm.LawKit Jvm.RoadKit Bundle Jvm.OwnKit Jvm.Pilot.@@N@@.Jvm.D
theorem d1_0 : decode prog_89_method_4_code 0 = .ok (.iload_n 1, 1) := by decide +kernel
theorem d1_1 : decode prog_89_method_4_code 1 = .ok (.ifCond .eq 14, 3) := by decide +kernel
theorem d1_4 : decode prog_89_method_4_code 4 = .ok (.iload_n 0, 1) := by decide +kernel
theorem d1_5 : decode prog_89_method_4_code 5 = .ok (.iload_n 1, 1) := by decide +kernel
theorem d1_6 : decode prog_89_method_4_code 6 = .ok (.irem, 1) := by decide +kernel
theorem d1_7 : decode prog_89_method_4_code 7 = .ok (.istore_n 2, 1) := by decide +kernel
theorem d1_8 : decode prog_89_method_4_code 8 = .ok (.iload_n 1, 1) := by decide +kernel
theorem d1_9 : decode prog_89_method_4_code 9 = .ok (.istore_n 0, 1) := by decide +kernel
theorem d1_10 : decode prog_89_method_4_code 10 = .ok (.iload_n 2, 1) := by decide +kernel
theorem d1_11 : decode prog_89_method_4_code 11 = .ok (.istore_n 1, 1) := by decide +kernel
theorem d1_12 : decode prog_89_method_4_code 12 = .ok (.goto (-12), 3) := by decide +kernel
theorem d1_15 : decode prog_89_method_4_code 15 = .ok (.iload_n 0, 1) := by decide +kernel
theorem d1_16 : decode prog_89_method_4_code 16 = .ok (.ireturn, 1) := by decide +kernel
def fG (x y : Int32) : Int32 := Int32.ofNat (Nat.gcd x.toInt.toNat y.toInt.toNat)
theorem own_gle (a b n : Nat) (ha : a < n) (hb : b < n) : Nat.gcd a b < n := by
  by_cases h : a = 0
  · subst h; rw [Nat.gcd_zero_left]; exact hb
  · exact Nat.lt_of_le_of_lt (Nat.gcd_le_left b (Nat.pos_of_ne_zero h)) ha
theorem own_gi (x y : Int32) (hx : 0 ≤ x.toInt) (hy : 0 ≤ y.toInt) : (fG x y).toInt = ((Nat.gcd x.toInt.toNat y.toInt.toNat : Nat) : Int) := by
  have r1 := x.toInt_lt
  have r2 := y.toInt_lt
  exact Int32.toInt_ofNat_of_lt (own_gle _ _ _ (by omega) (by omega))
theorem own_g0 (x : Int32) (hx : 0 ≤ x.toInt) : fG x 0 = x := by
  apply Int32.toInt_inj.mp
  rw [own_gi x 0 hx (by decide)]
  show ((Nat.gcd x.toInt.toNat 0 : Nat) : Int) = _
  rw [Nat.gcd_zero_right]; omega
theorem own_rem (x y : Int32) (hx : 0 ≤ x.toInt) : (x % y).toInt = x.toInt % y.toInt := by
  rw [Int32.toInt_mod]; exact Int.tmod_eq_emod_of_nonneg hx
theorem own_gd (x y : Nat) : Nat.gcd y (x % y) = Nat.gcd x y := by
  rw [Nat.gcd_comm y, ← Nat.gcd_rec, Nat.gcd_comm]
theorem own_td (a : Int) (n : Nat) (h : 0 ≤ a) : (a / (n : Int)).toNat = a.toNat / n := by
  obtain ⟨k, rfl⟩ := Int.eq_ofNat_of_zero_le h
  rw [← Int.natCast_ediv, Int.toNat_natCast, Int.toNat_natCast]
theorem own_gs (x y : Int32) (hx : 0 ≤ x.toInt) (hy : 0 ≤ y.toInt) : fG y (x % y) = fG x y := by
  have e := own_rem x y hx
  unfold fG
  rw [e, Int.toNat_emod hx hy, own_gd]
set_option maxRecDepth 65536 in
set_option maxHeartbeats 40000000 in
theorem own_loop (p : Program) (l : Launch) (e : Env) (R : Room) (s : State) (m : MethodId) (args : Array Value) (below : List Frame) (meth : Method) (c : Code) (Z : State) (a0 : Array Value) (hw : ∀ d ∈ tables_1, d.before a0 Z = true) (n0 : Nat) (s₀ : State) (h : Heap) (k j : Nat) : ∀ (N : Nat) (x y : Int32) (o : Slot), y.toInt.toNat < N → 0 ≤ x.toInt → 0 ≤ y.toInt → (o = .unset ∨ ∃ z, o = .val (.int z)) → Go p l e R s m args below meth c Z "com/example/reachway/reachway/StrongParts" prog_89_method_4_code 3 (some .int) n0 s₀ h k j 0 #[.val (.int x), .val (.int y), o] [] → ∃ o', Go p l e R s m args below meth c Z "com/example/reachway/reachway/StrongParts" prog_89_method_4_code 3 (some .int) n0 s₀ h k j 15 #[.val (.int (fG x y)), .val (.int (0 : Int32)), o'] [] := by
  intro N
  induction N with
  | zero => intro x y o hN; omega
  | succ N ih =>
    intro x y o hN hx hy ho G0
    rcases ho with rfl | ⟨z, rfl⟩
    · have G1 := G0.iloadN (v := y) (pc' := 1) d1_0 rfl
      by_cases c1 : y = (0 : Int32)
      · have G2 := G1.ifY d1_1 15 (Jvm.Free.XT.i0_eq_t c1)
        subst c1
        rw [own_g0 x hx]
        exact ⟨_, G2⟩
      · have G3 := G1.ifN d1_1 4 (Jvm.Free.XT.i0_eq_f c1)
        have G4 := G3.iloadN (v := x) (pc' := 5) d1_4 rfl
        have G5 := G4.iloadN (v := y) (pc' := 6) d1_5 rfl
        have G6 := G5.irem (pc' := 7) d1_6 c1
        have G7 := G6.istoreN (L' := #[.val (.int x), .val (.int y), .val (.int (x % y))]) (pc' := 8) d1_7 rfl
        have G8 := G7.iloadN (v := y) (pc' := 9) d1_8 rfl
        have G9 := G8.istoreN (L' := #[.val (.int y), .val (.int y), .val (.int (x % y))]) (pc' := 10) d1_9 rfl
        have G10 := G9.iloadN (v := (x % y)) (pc' := 11) d1_10 rfl
        have G11 := G10.istoreN (L' := #[.val (.int y), .val (.int (x % y)), .val (.int (x % y))]) (pc' := 12) d1_11 rfl
        have G12 := G11.goto d1_12 0
        have hy1 : 0 < y.toInt := by
          have : ¬ y.toInt = 0 := fun q => c1 (Int32.toInt_inj.mp q)
          omega
        have e := own_rem x y hx
        have e1 := Int.emod_nonneg x.toInt (Int.ne_of_gt hy1)
        have e2 := Int.emod_lt_of_pos x.toInt hy1
        rw [← own_gs x y hx hy]
        exact ih y (x % y) _ (by omega) hy (by omega) (Or.inr ⟨_, rfl⟩) G12
    · have G1 := G0.iloadN (v := y) (pc' := 1) d1_0 rfl
      by_cases c1 : y = (0 : Int32)
      · have G2 := G1.ifY d1_1 15 (Jvm.Free.XT.i0_eq_t c1)
        subst c1
        rw [own_g0 x hx]
        exact ⟨_, G2⟩
      · have G3 := G1.ifN d1_1 4 (Jvm.Free.XT.i0_eq_f c1)
        have G4 := G3.iloadN (v := x) (pc' := 5) d1_4 rfl
        have G5 := G4.iloadN (v := y) (pc' := 6) d1_5 rfl
        have G6 := G5.irem (pc' := 7) d1_6 c1
        have G7 := G6.istoreN (L' := #[.val (.int x), .val (.int y), .val (.int (x % y))]) (pc' := 8) d1_7 rfl
        have G8 := G7.iloadN (v := y) (pc' := 9) d1_8 rfl
        have G9 := G8.istoreN (L' := #[.val (.int y), .val (.int y), .val (.int (x % y))]) (pc' := 10) d1_9 rfl
        have G10 := G9.iloadN (v := (x % y)) (pc' := 11) d1_10 rfl
        have G11 := G10.istoreN (L' := #[.val (.int y), .val (.int (x % y)), .val (.int (x % y))]) (pc' := 12) d1_11 rfl
        have G12 := G11.goto d1_12 0
        have hy1 : 0 < y.toInt := by
          have : ¬ y.toInt = 0 := fun q => c1 (Int32.toInt_inj.mp q)
          omega
        have e := own_rem x y hx
        have e1 := Int.emod_nonneg x.toInt (Int.ne_of_gt hy1)
        have e2 := Int.emod_lt_of_pos x.toInt hy1
        rw [← own_gs x y hx hy]
        exact ih y (x % y) _ (by omega) hy (by omega) (Or.inr ⟨_, rfl⟩) G12
theorem pn0 : plainName "com/example/reachway/reachway/StrongParts" = true := by first | (simp [plainName, overriddenIn]; done) | decide +kernel
theorem ef1 (m : MethodId) (x0 : Int32) (x1 : Int32) : entryFrame m #[(.int x0), (.int x1)] 3 = mkF m 0 #[.val (.int x0), .val (.int x1), .unset] [] := by first | (simp [entryFrame, mkF, argsToLocals, Value.category]; done) | rfl
def rm1 : Room := { frames := 0, cells := 0, slots := 0, locals := 0 }
set_option maxRecDepth 65536 in
set_option maxHeartbeats 40000000 in
theorem cn1 (l : Launch) (Z : State) (a0 : Array Value) (hw : ∀ d ∈ tables_1, d.before a0 Z = true) (x0 : Int32) (x1 : Int32) (h0 : Heap) (n0 : Nat) (hn : n0 ≤ h0.size) (hx : 0 ≤ x0.toInt) (hy : 0 ≤ x1.toInt) :
    Con l (⟨"com/example/reachway/reachway/StrongParts", "gcd", "(II)I"⟩ : MethodName) prog_89_method_4_code 3 (some .int) [] rm1 rm1.cells rm1.slots Z #[(.int x0), (.int x1)] h0 n0 (fun v h => v = some (.int (fG x0 x1)) ∧ h = h0) := by
  refine Con.of (plainFor_of_name pn0) hn (fun m => ef1 m x0 x1) ?_
  intro p e s m below meth c s₀ hnm G0
  obtain ⟨o', G1⟩ := own_loop p l e rm1 s m _ below meth c Z a0 hw n0 s₀ h0 0 0 _ x0 x1 .unset (Nat.lt_succ_self _) hx hy (Or.inl rfl) G0
  have G2 := G1.iloadN (v := fG x0 x1) (pc' := 16) d1_15 rfl
  exact G2.retI d1_16 rfl ⟨rfl, rfl⟩
theorem own_nn (x : Int32) : 0 ≤ (x &&& (2147483647 : Int32)).toInt := (c_and x 2147483647 (by decide)).1
theorem own_gz (x y : Int32) (h1 : x = 0) (h2 : y = 0) : fG x y = 0 := by subst h1 h2; decide
theorem own_pos (x y : Int32) (hx : 0 ≤ x.toInt) (hy : 0 ≤ y.toInt) (h : ¬ (x = 0 ∧ y = 0)) : 0 < (fG x y).toInt := by
  rw [own_gi x y hx hy]
  have : Nat.gcd x.toInt.toNat y.toInt.toNat ≠ 0 := fun q => by
    have q1 := Nat.eq_zero_of_gcd_eq_zero_left q
    have q2 := Nat.eq_zero_of_gcd_eq_zero_right q
    exact h ⟨Int32.toInt_inj.mp (by show x.toInt = 0; omega), Int32.toInt_inj.mp (by show y.toInt = 0; omega)⟩
  omega
theorem own_pos' (x y : Int32) (hx : 0 ≤ x.toInt) (hy : 0 ≤ y.toInt) (h : ¬ (x = 0 ∧ y = 0)) : (0 : Int32) < fG x y := by
  rw [Int32.lt_iff_toInt_lt]; exact own_pos x y hx hy h
theorem own_ne (x y : Int32) (hx : 0 ≤ x.toInt) (hy : 0 ≤ y.toInt) (h : ¬ (x = 0 ∧ y = 0)) : fG x y ≠ 0 := fun q => by
  have := own_pos x y hx hy h
  rw [q] at this; exact absurd this (by decide)
theorem own_ra (x y : Int32) (hx : 0 ≤ x.toInt) (hy : 0 ≤ y.toInt) : x % fG x y = 0 := by
  apply Int32.toInt_inj.mp
  rw [own_rem x _ hx, own_gi x y hx hy]
  show _ = (0 : Int)
  exact Int.emod_eq_zero_of_dvd (by have := Int.natCast_dvd_natCast.mpr (Nat.gcd_dvd_left x.toInt.toNat y.toInt.toNat); rwa [Int.toNat_of_nonneg hx] at this)
theorem own_rb (x y : Int32) (hx : 0 ≤ x.toInt) (hy : 0 ≤ y.toInt) : y % fG x y = 0 := by
  apply Int32.toInt_inj.mp
  rw [own_rem y _ hy, own_gi x y hx hy]
  show _ = (0 : Int)
  exact Int.emod_eq_zero_of_dvd (by have := Int.natCast_dvd_natCast.mpr (Nat.gcd_dvd_right x.toInt.toNat y.toInt.toNat); rwa [Int.toNat_of_nonneg hy] at this)
theorem own_div (x g : Int32) (hx : 0 ≤ x.toInt) (hg : 0 ≤ g.toInt) : (x / g).toInt = x.toInt / g.toInt := by
  rw [Int32.toInt_div_of_ne_right x g (fun q => by rw [q] at hg; exact absurd hg (by decide))]
  exact Int.tdiv_eq_ediv_of_nonneg hx
theorem own_dn (x y : Int32) (hx : 0 ≤ x.toInt) (hy : 0 ≤ y.toInt) : 0 ≤ (x / fG x y).toInt := by
  have e := own_gi x y hx hy
  rw [own_div x _ hx (by omega)]; exact Int.ediv_nonneg hx (by omega)
theorem own_dn' (x y : Int32) (hx : 0 ≤ x.toInt) (hy : 0 ≤ y.toInt) : 0 ≤ (y / fG x y).toInt := by
  have e := own_gi x y hx hy
  rw [own_div y _ hy (by omega)]; exact Int.ediv_nonneg hy (by omega)
theorem own_one (x y : Int32) (hx : 0 ≤ x.toInt) (hy : 0 ≤ y.toInt) (h : ¬ (x = 0 ∧ y = 0)) : fG (x / fG x y) (y / fG x y) = 1 := by
  have e := own_gi x y hx hy
  have ps := own_pos x y hx hy h
  apply Int32.toInt_inj.mp
  rw [own_gi _ _ (own_dn x y hx hy) (own_dn' x y hx hy), own_div x _ hx (by omega), own_div y _ hy (by omega), e, own_td _ _ hx, own_td _ _ hy]
  show _ = (1 : Int)
  rw [Nat.gcd_div (Nat.gcd_dvd_left _ _) (Nat.gcd_dvd_right _ _), Nat.div_self (by omega)]
  rfl
theorem own_kl (K a : Int32) : (K.toInt64 * a.toInt64).toInt = K.toInt * a.toInt := Jvm.Free.XT.wideMul K a
theorem own_kn (K a : Int32) (hK : 0 ≤ K.toInt) (ha : 0 ≤ a.toInt) (h : ¬ (2147483647 : Int64) < K.toInt64 * a.toInt64) : 0 ≤ (K.toInt64 * a.toInt64).toInt32.toInt ∧ (K.toInt64 * a.toInt64).toInt32.toInt = K.toInt * a.toInt := by
  rw [Int64.lt_iff_toInt_lt, own_kl] at h
  have k : (2147483647 : Int64).toInt = 2147483647 := rfl
  rw [k] at h
  have p := Int.mul_nonneg hK ha
  have e := Jvm.Free.XT.narrowInt (x := K.toInt64 * a.toInt64) (by rw [own_kl]; exact ⟨by omega, by omega⟩)
  rw [e, own_kl]
  exact ⟨p, rfl⟩
theorem own_last (K a b : Int32) (hK : 0 ≤ K.toInt) (ha : 0 ≤ a.toInt) (hb : 0 ≤ b.toInt) (h1 : ¬ (2147483647 : Int64) < K.toInt64 * a.toInt64) (h2 : ¬ (2147483647 : Int64) < K.toInt64 * b.toInt64) :
    (fG (K.toInt64 * a.toInt64).toInt32 (K.toInt64 * b.toInt64).toInt32).toInt64 = K.toInt64 * (fG a b).toInt64 := by
  have k1 := own_kn K a hK ha h1
  have k2 := own_kn K b hK hb h2
  apply Int64.toInt_inj.mp
  rw [own_kl, Int32.toInt_toInt64, own_gi _ _ k1.1 k2.1, own_gi a b ha hb, k1.2, k2.2, Int.toNat_mul hK ha, Int.toNat_mul hK hb, Nat.gcd_mul_left]
  rw [Int.natCast_mul, Int.toNat_of_nonneg hK]
theorem pn1 : plainName "com/example/reachway/reachway/StrongPartsGcdPinLaw" = true := by first | (simp [plainName, overriddenIn]; done) | decide +kernel
theorem ef0 (m : MethodId) (x0 : Int32) (x1 : Int32) (x2 : Int32) : entryFrame m #[(.int x0), (.int x1), (.int x2)] maxLocals = mkF m 0 #[.val (.int x0), .val (.int x1), .val (.int x2), .unset, .unset, .unset, .unset, .unset, .unset, .unset, .unset, .unset, .unset, .unset] [] := by first | (simp [entryFrame, mkF, argsToLocals, Value.category, maxLocals]; done) | rfl
theorem pd0 : parseMethodDescriptor "(II)I" = some ⟨[.int, .int], some .int⟩ := by decide +kernel
set_option maxRecDepth 65536 in
set_option maxHeartbeats 40000000 in
theorem lawc (l : Launch) (Z : State) (a0 : Array Value) (hw : ∀ d ∈ tables_1, d.before a0 Z = true) (x0 : Int32) (x1 : Int32) (x2 : Int32) (h0 : Heap) (n0 : Nat) (hn : n0 ≤ h0.size) :
    Con l x code maxLocals ret tables_1 room_1 0 0 Z #[(.int x0), (.int x1), (.int x2)] h0 n0 (fun v _ => v = some (.int 1)) := by
  refine Con.of (plainFor_of_name pn1) hn (fun m => ef0 m x0 x1 x2) ?_
  intro p e s m below meth c s₀ hnm G0
  have G1 := G0.iloadN (v := x0) (pc' := 1) at_0 rfl
  have G2 := G1.ldc (v := (2147483647 : Int32)) (pc' := 3) (hw _ (List.mem_of_getElem? (i := 0) rfl)) at_1
  have G3 := G2.iand (pc' := 4) at_3
  have G4 := G3.istoreN (L' := #[.val (.int x0), .val (.int x1), .val (.int x2), .val (.int (x0 &&& (2147483647 : Int32))), .unset, .unset, .unset, .unset, .unset, .unset, .unset, .unset, .unset, .unset]) (pc' := 5) at_4 rfl
  have G5 := G4.iloadN (v := x1) (pc' := 6) at_5 rfl
  have G6 := G5.ldc (v := (2147483647 : Int32)) (pc' := 8) (hw _ (List.mem_of_getElem? (i := 0) rfl)) at_6
  have G7 := G6.iand (pc' := 9) at_8
  have G8 := G7.istore (L' := #[.val (.int x0), .val (.int x1), .val (.int x2), .val (.int (x0 &&& (2147483647 : Int32))), .val (.int (x1 &&& (2147483647 : Int32))), .unset, .unset, .unset, .unset, .unset, .unset, .unset, .unset, .unset]) (pc' := 11) at_9 rfl
  have G9 := G8.iloadN (v := x2) (pc' := 12) at_11 rfl
  have G10 := G9.ldc (v := (2147483647 : Int32)) (pc' := 14) (hw _ (List.mem_of_getElem? (i := 0) rfl)) at_12
  have G11 := G10.iand (pc' := 15) at_14
  have G12 := G11.istore (L' := #[.val (.int x0), .val (.int x1), .val (.int x2), .val (.int (x0 &&& (2147483647 : Int32))), .val (.int (x1 &&& (2147483647 : Int32))), .val (.int (x2 &&& (2147483647 : Int32))), .unset, .unset, .unset, .unset, .unset, .unset, .unset, .unset]) (pc' := 17) at_15 rfl
  have G13 := G12.iloadN (v := (x0 &&& (2147483647 : Int32))) (pc' := 18) at_17 rfl
  have G14 := G13.iload (v := (x1 &&& (2147483647 : Int32))) (pc' := 20) at_18 rfl
  obtain ⟨v15, h15, ⟨ev15, eh15⟩, g15⟩ := G14.callS (argsL := [(.int (x0 &&& (2147483647 : Int32))), (.int (x1 &&& (2147483647 : Int32)))]) (rest := []) (pc' := 23) (k' := 0) (j' := 0) (cn1 l Z a0 hw (x0 &&& (2147483647 : Int32)) (x1 &&& (2147483647 : Int32)) h0 n0 G14.size (own_nn x0) (own_nn x1)) rfl (hw _ (List.mem_of_getElem? (i := 1) rfl)) (hw _ (List.mem_of_getElem? (i := 2) rfl)) (hw _ (List.mem_of_getElem? (i := 3) rfl)) (hw _ (List.mem_of_getElem? (i := 4) rfl)) (by decide) at_20 pd0 rfl (W := 0) rfl rfl (by decide) (by decide) (by decide) (by decide) rfl rfl rfl
  subst ev15
  rw [eh15] at g15
  have G15 := g15 [(.int (fG (x0 &&& (2147483647 : Int32)) (x1 &&& (2147483647 : Int32))))] rfl
  have G16 := G15.istore (L' := #[.val (.int x0), .val (.int x1), .val (.int x2), .val (.int (x0 &&& (2147483647 : Int32))), .val (.int (x1 &&& (2147483647 : Int32))), .val (.int (x2 &&& (2147483647 : Int32))), .val (.int (fG (x0 &&& (2147483647 : Int32)) (x1 &&& (2147483647 : Int32)))), .unset, .unset, .unset, .unset, .unset, .unset, .unset]) (pc' := 25) at_23 rfl
  have G17 := G16.iloadN (v := (x0 &&& (2147483647 : Int32))) (pc' := 26) at_25 rfl
  by_cases c26_17 : (x0 &&& (2147483647 : Int32)) = (0 : Int32)
  · have G18 := G17.ifN at_26 29 (Jvm.Free.XT.i0_ne_f c26_17)
    have G19 := G18.iload (v := (x1 &&& (2147483647 : Int32))) (pc' := 31) at_29 rfl
    by_cases c31_19 : (x1 &&& (2147483647 : Int32)) = (0 : Int32)
    · have G20 := G19.ifN at_31 34 (Jvm.Free.XT.i0_ne_f c31_19)
      have G21 := G20.iload (v := (fG (x0 &&& (2147483647 : Int32)) (x1 &&& (2147483647 : Int32)))) (pc' := 36) at_34 rfl
      have G22 := G21.ifN at_36 39 (Jvm.Free.XT.i0_ne_f (own_gz _ _ c26_17 c31_19))
      have G23 := G22.iconst (v := (1 : Int32)) (pc' := 40) at_39
      have G24 := G23.goto at_40 44
      have G25 := G24.istore (L' := #[.val (.int x0), .val (.int x1), .val (.int x2), .val (.int (x0 &&& (2147483647 : Int32))), .val (.int (x1 &&& (2147483647 : Int32))), .val (.int (x2 &&& (2147483647 : Int32))), .val (.int (fG (x0 &&& (2147483647 : Int32)) (x1 &&& (2147483647 : Int32)))), .val (.int (1 : Int32)), .unset, .unset, .unset, .unset, .unset, .unset]) (pc' := 46) at_44 rfl
      have G26 := G25.goto at_46 92
      have G27 := G26.iload (v := (1 : Int32)) (pc' := 94) at_92 rfl
      have G28 := G27.ifY at_94 99 (Jvm.Free.XT.i0_ne_t (by decide))
      have G29 := G28.iload (v := (x2 &&& (2147483647 : Int32))) (pc' := 101) at_99 rfl
      have G30 := G29.i2l (pc' := 102) at_101
      have G31 := G30.iloadN (v := (x0 &&& (2147483647 : Int32))) (pc' := 103) at_102 rfl
      have G32 := G31.i2l (pc' := 104) at_103
      have G33 := G32.lmul (pc' := 105) at_104
      have G34 := G33.lstore (L' := #[.val (.int x0), .val (.int x1), .val (.int x2), .val (.int (x0 &&& (2147483647 : Int32))), .val (.int (x1 &&& (2147483647 : Int32))), .val (.int (x2 &&& (2147483647 : Int32))), .val (.int (fG (x0 &&& (2147483647 : Int32)) (x1 &&& (2147483647 : Int32)))), .val (.int (1 : Int32)), .val (.long ((x2 &&& (2147483647 : Int32)).toInt64 * (x0 &&& (2147483647 : Int32)).toInt64)), .second, .unset, .unset, .unset, .unset]) (pc' := 107) at_105 rfl
      have G35 := G34.iload (v := (x2 &&& (2147483647 : Int32))) (pc' := 109) at_107 rfl
      have G36 := G35.i2l (pc' := 110) at_109
      have G37 := G36.iload (v := (x1 &&& (2147483647 : Int32))) (pc' := 112) at_110 rfl
      have G38 := G37.i2l (pc' := 113) at_112
      have G39 := G38.lmul (pc' := 114) at_113
      have G40 := G39.lstore (L' := #[.val (.int x0), .val (.int x1), .val (.int x2), .val (.int (x0 &&& (2147483647 : Int32))), .val (.int (x1 &&& (2147483647 : Int32))), .val (.int (x2 &&& (2147483647 : Int32))), .val (.int (fG (x0 &&& (2147483647 : Int32)) (x1 &&& (2147483647 : Int32)))), .val (.int (1 : Int32)), .val (.long ((x2 &&& (2147483647 : Int32)).toInt64 * (x0 &&& (2147483647 : Int32)).toInt64)), .second, .val (.long ((x2 &&& (2147483647 : Int32)).toInt64 * (x1 &&& (2147483647 : Int32)).toInt64)), .second, .unset, .unset]) (pc' := 116) at_114 rfl
      have G41 := G40.lload (v := ((x2 &&& (2147483647 : Int32)).toInt64 * (x0 &&& (2147483647 : Int32)).toInt64)) (pc' := 118) at_116 rfl
      have G42 := G41.ldc2 (v := (2147483647 : Int64)) (pc' := 121) (hw _ (List.mem_of_getElem? (i := 5) rfl)) at_118
      have G43 := G42.lcmp (pc' := 122) at_121
      by_cases c122_43 : (2147483647 : Int64) < ((x2 &&& (2147483647 : Int32)).toInt64 * (x0 &&& (2147483647 : Int32)).toInt64)
      · have G44 := G43.ifY at_122 165 (Jvm.Free.XT.ll_gt_t c122_43)
        have G45 := G44.iconst (v := (1 : Int32)) (pc' := 166) at_165
        exact G45.retZ at_166 rfl (Or.inr rfl) rfl
      · have G46 := G43.ifN at_122 125 (Jvm.Free.XT.ll_gt_f c122_43)
        have G47 := G46.lload (v := ((x2 &&& (2147483647 : Int32)).toInt64 * (x1 &&& (2147483647 : Int32)).toInt64)) (pc' := 127) at_125 rfl
        have G48 := G47.ldc2 (v := (2147483647 : Int64)) (pc' := 130) (hw _ (List.mem_of_getElem? (i := 5) rfl)) at_127
        have G49 := G48.lcmp (pc' := 131) at_130
        by_cases c131_49 : (2147483647 : Int64) < ((x2 &&& (2147483647 : Int32)).toInt64 * (x1 &&& (2147483647 : Int32)).toInt64)
        · have G50 := G49.ifY at_131 165 (Jvm.Free.XT.ll_gt_t c131_49)
          have G51 := G50.iconst (v := (1 : Int32)) (pc' := 166) at_165
          exact G51.retZ at_166 rfl (Or.inr rfl) rfl
        · have G52 := G49.ifN at_131 134 (Jvm.Free.XT.ll_gt_f c131_49)
          have G53 := G52.lload (v := ((x2 &&& (2147483647 : Int32)).toInt64 * (x0 &&& (2147483647 : Int32)).toInt64)) (pc' := 136) at_134 rfl
          have G54 := G53.l2i (pc' := 137) at_136
          have G55 := G54.lload (v := ((x2 &&& (2147483647 : Int32)).toInt64 * (x1 &&& (2147483647 : Int32)).toInt64)) (pc' := 139) at_137 rfl
          have G56 := G55.l2i (pc' := 140) at_139
          obtain ⟨v57, h57, ⟨ev57, eh57⟩, g57⟩ := G56.callS (argsL := [(.int ((x2 &&& (2147483647 : Int32)).toInt64 * (x0 &&& (2147483647 : Int32)).toInt64).toInt32), (.int ((x2 &&& (2147483647 : Int32)).toInt64 * (x1 &&& (2147483647 : Int32)).toInt64).toInt32)]) (rest := []) (pc' := 143) (k' := 0) (j' := 0) (cn1 l Z a0 hw ((x2 &&& (2147483647 : Int32)).toInt64 * (x0 &&& (2147483647 : Int32)).toInt64).toInt32 ((x2 &&& (2147483647 : Int32)).toInt64 * (x1 &&& (2147483647 : Int32)).toInt64).toInt32 h0 n0 G56.size (own_kn _ _ (own_nn x2) (own_nn x0) c122_43).1 (own_kn _ _ (own_nn x2) (own_nn x1) c131_49).1) rfl (hw _ (List.mem_of_getElem? (i := 1) rfl)) (hw _ (List.mem_of_getElem? (i := 2) rfl)) (hw _ (List.mem_of_getElem? (i := 3) rfl)) (hw _ (List.mem_of_getElem? (i := 4) rfl)) (by decide) at_140 pd0 rfl (W := 0) rfl rfl (by decide) (by decide) (by decide) (by decide) rfl rfl rfl
          subst ev57
          rw [eh57] at g57
          have G57 := g57 [(.int (fG ((x2 &&& (2147483647 : Int32)).toInt64 * (x0 &&& (2147483647 : Int32)).toInt64).toInt32 ((x2 &&& (2147483647 : Int32)).toInt64 * (x1 &&& (2147483647 : Int32)).toInt64).toInt32))] rfl
          have G58 := G57.i2l (pc' := 144) at_143
          have G59 := G58.lstore (L' := #[.val (.int x0), .val (.int x1), .val (.int x2), .val (.int (x0 &&& (2147483647 : Int32))), .val (.int (x1 &&& (2147483647 : Int32))), .val (.int (x2 &&& (2147483647 : Int32))), .val (.int (fG (x0 &&& (2147483647 : Int32)) (x1 &&& (2147483647 : Int32)))), .val (.int (1 : Int32)), .val (.long ((x2 &&& (2147483647 : Int32)).toInt64 * (x0 &&& (2147483647 : Int32)).toInt64)), .second, .val (.long ((x2 &&& (2147483647 : Int32)).toInt64 * (x1 &&& (2147483647 : Int32)).toInt64)), .second, .val (.long (fG ((x2 &&& (2147483647 : Int32)).toInt64 * (x0 &&& (2147483647 : Int32)).toInt64).toInt32 ((x2 &&& (2147483647 : Int32)).toInt64 * (x1 &&& (2147483647 : Int32)).toInt64).toInt32).toInt64), .second]) (pc' := 146) at_144 rfl
          have G60 := G59.lload (v := (fG ((x2 &&& (2147483647 : Int32)).toInt64 * (x0 &&& (2147483647 : Int32)).toInt64).toInt32 ((x2 &&& (2147483647 : Int32)).toInt64 * (x1 &&& (2147483647 : Int32)).toInt64).toInt32).toInt64) (pc' := 148) at_146 rfl
          have G61 := G60.iload (v := (x2 &&& (2147483647 : Int32))) (pc' := 150) at_148 rfl
          have G62 := G61.i2l (pc' := 151) at_150
          have G63 := G62.iload (v := (fG (x0 &&& (2147483647 : Int32)) (x1 &&& (2147483647 : Int32)))) (pc' := 153) at_151 rfl
          have G64 := G63.i2l (pc' := 154) at_153
          have G65 := G64.lmul (pc' := 155) at_154
          have G66 := G65.lcmp (pc' := 156) at_155
          have G67 := G66.ifN at_156 159 (Jvm.Free.XT.ll_ne_f (own_last _ _ _ (own_nn x2) (own_nn x0) (own_nn x1) c122_43 c131_49))
          have G68 := G67.iconst (v := (1 : Int32)) (pc' := 160) at_159
          have G69 := G68.goto at_160 164
          exact G69.retZ at_164 rfl (Or.inr rfl) rfl
    · have G70 := G19.ifY at_31 49 (Jvm.Free.XT.i0_ne_t c31_19)
      have G71 := G70.iload (v := (fG (x0 &&& (2147483647 : Int32)) (x1 &&& (2147483647 : Int32)))) (pc' := 51) at_49 rfl
      have G72 := G71.ifN at_51 54 (Jvm.Free.XT.i0_le_f (own_pos' _ _ (own_nn x0) (own_nn x1) (fun q => c31_19 q.2)))
      have G73 := G72.iloadN (v := (x0 &&& (2147483647 : Int32))) (pc' := 55) at_54 rfl
      have G74 := G73.iload (v := (fG (x0 &&& (2147483647 : Int32)) (x1 &&& (2147483647 : Int32)))) (pc' := 57) at_55 rfl
      have G75 := G74.irem (pc' := 58) at_57 (own_ne _ _ (own_nn x0) (own_nn x1) (fun q => c31_19 q.2))
      have G76 := G75.ifN at_58 61 (Jvm.Free.XT.i0_ne_f (own_ra _ _ (own_nn x0) (own_nn x1)))
      have G77 := G76.iload (v := (x1 &&& (2147483647 : Int32))) (pc' := 63) at_61 rfl
      have G78 := G77.iload (v := (fG (x0 &&& (2147483647 : Int32)) (x1 &&& (2147483647 : Int32)))) (pc' := 65) at_63 rfl
      have G79 := G78.irem (pc' := 66) at_65 (own_ne _ _ (own_nn x0) (own_nn x1) (fun q => c31_19 q.2))
      have G80 := G79.ifN at_66 69 (Jvm.Free.XT.i0_ne_f (own_rb _ _ (own_nn x0) (own_nn x1)))
      have G81 := G80.iloadN (v := (x0 &&& (2147483647 : Int32))) (pc' := 70) at_69 rfl
      have G82 := G81.iload (v := (fG (x0 &&& (2147483647 : Int32)) (x1 &&& (2147483647 : Int32)))) (pc' := 72) at_70 rfl
      have G83 := G82.idiv (pc' := 73) at_72 (own_ne _ _ (own_nn x0) (own_nn x1) (fun q => c31_19 q.2))
      have G84 := G83.iload (v := (x1 &&& (2147483647 : Int32))) (pc' := 75) at_73 rfl
      have G85 := G84.iload (v := (fG (x0 &&& (2147483647 : Int32)) (x1 &&& (2147483647 : Int32)))) (pc' := 77) at_75 rfl
      have G86 := G85.idiv (pc' := 78) at_77 (own_ne _ _ (own_nn x0) (own_nn x1) (fun q => c31_19 q.2))
      obtain ⟨v87, h87, ⟨ev87, eh87⟩, g87⟩ := G86.callS (argsL := [(.int ((x0 &&& (2147483647 : Int32)) / (fG (x0 &&& (2147483647 : Int32)) (x1 &&& (2147483647 : Int32))))), (.int ((x1 &&& (2147483647 : Int32)) / (fG (x0 &&& (2147483647 : Int32)) (x1 &&& (2147483647 : Int32)))))]) (rest := []) (pc' := 81) (k' := 0) (j' := 0) (cn1 l Z a0 hw ((x0 &&& (2147483647 : Int32)) / (fG (x0 &&& (2147483647 : Int32)) (x1 &&& (2147483647 : Int32)))) ((x1 &&& (2147483647 : Int32)) / (fG (x0 &&& (2147483647 : Int32)) (x1 &&& (2147483647 : Int32)))) h0 n0 G86.size (own_dn _ _ (own_nn x0) (own_nn x1)) (own_dn' _ _ (own_nn x0) (own_nn x1))) rfl (hw _ (List.mem_of_getElem? (i := 1) rfl)) (hw _ (List.mem_of_getElem? (i := 2) rfl)) (hw _ (List.mem_of_getElem? (i := 3) rfl)) (hw _ (List.mem_of_getElem? (i := 4) rfl)) (by decide) at_78 pd0 rfl (W := 0) rfl rfl (by decide) (by decide) (by decide) (by decide) rfl rfl rfl
      subst ev87
      rw [eh87] at g87
      have G87 := g87 [(.int (fG ((x0 &&& (2147483647 : Int32)) / (fG (x0 &&& (2147483647 : Int32)) (x1 &&& (2147483647 : Int32)))) ((x1 &&& (2147483647 : Int32)) / (fG (x0 &&& (2147483647 : Int32)) (x1 &&& (2147483647 : Int32))))))] rfl
      have G88 := G87.iconst (v := (1 : Int32)) (pc' := 82) at_81
      have G89 := G88.icmpN at_82 85 (Jvm.Free.XT.ii_ne_f (own_one _ _ (own_nn x0) (own_nn x1) (fun q => c31_19 q.2)))
      have G90 := G89.iconst (v := (1 : Int32)) (pc' := 86) at_85
      have G91 := G90.goto at_86 90
      have G92 := G91.istore (L' := #[.val (.int x0), .val (.int x1), .val (.int x2), .val (.int (x0 &&& (2147483647 : Int32))), .val (.int (x1 &&& (2147483647 : Int32))), .val (.int (x2 &&& (2147483647 : Int32))), .val (.int (fG (x0 &&& (2147483647 : Int32)) (x1 &&& (2147483647 : Int32)))), .val (.int (1 : Int32)), .unset, .unset, .unset, .unset, .unset, .unset]) (pc' := 92) at_90 rfl
      have G93 := G92.iload (v := (1 : Int32)) (pc' := 94) at_92 rfl
      have G94 := G93.ifY at_94 99 (Jvm.Free.XT.i0_ne_t (by decide))
      have G95 := G94.iload (v := (x2 &&& (2147483647 : Int32))) (pc' := 101) at_99 rfl
      have G96 := G95.i2l (pc' := 102) at_101
      have G97 := G96.iloadN (v := (x0 &&& (2147483647 : Int32))) (pc' := 103) at_102 rfl
      have G98 := G97.i2l (pc' := 104) at_103
      have G99 := G98.lmul (pc' := 105) at_104
      have G100 := G99.lstore (L' := #[.val (.int x0), .val (.int x1), .val (.int x2), .val (.int (x0 &&& (2147483647 : Int32))), .val (.int (x1 &&& (2147483647 : Int32))), .val (.int (x2 &&& (2147483647 : Int32))), .val (.int (fG (x0 &&& (2147483647 : Int32)) (x1 &&& (2147483647 : Int32)))), .val (.int (1 : Int32)), .val (.long ((x2 &&& (2147483647 : Int32)).toInt64 * (x0 &&& (2147483647 : Int32)).toInt64)), .second, .unset, .unset, .unset, .unset]) (pc' := 107) at_105 rfl
      have G101 := G100.iload (v := (x2 &&& (2147483647 : Int32))) (pc' := 109) at_107 rfl
      have G102 := G101.i2l (pc' := 110) at_109
      have G103 := G102.iload (v := (x1 &&& (2147483647 : Int32))) (pc' := 112) at_110 rfl
      have G104 := G103.i2l (pc' := 113) at_112
      have G105 := G104.lmul (pc' := 114) at_113
      have G106 := G105.lstore (L' := #[.val (.int x0), .val (.int x1), .val (.int x2), .val (.int (x0 &&& (2147483647 : Int32))), .val (.int (x1 &&& (2147483647 : Int32))), .val (.int (x2 &&& (2147483647 : Int32))), .val (.int (fG (x0 &&& (2147483647 : Int32)) (x1 &&& (2147483647 : Int32)))), .val (.int (1 : Int32)), .val (.long ((x2 &&& (2147483647 : Int32)).toInt64 * (x0 &&& (2147483647 : Int32)).toInt64)), .second, .val (.long ((x2 &&& (2147483647 : Int32)).toInt64 * (x1 &&& (2147483647 : Int32)).toInt64)), .second, .unset, .unset]) (pc' := 116) at_114 rfl
      have G107 := G106.lload (v := ((x2 &&& (2147483647 : Int32)).toInt64 * (x0 &&& (2147483647 : Int32)).toInt64)) (pc' := 118) at_116 rfl
      have G108 := G107.ldc2 (v := (2147483647 : Int64)) (pc' := 121) (hw _ (List.mem_of_getElem? (i := 5) rfl)) at_118
      have G109 := G108.lcmp (pc' := 122) at_121
      by_cases c122_109 : (2147483647 : Int64) < ((x2 &&& (2147483647 : Int32)).toInt64 * (x0 &&& (2147483647 : Int32)).toInt64)
      · have G110 := G109.ifY at_122 165 (Jvm.Free.XT.ll_gt_t c122_109)
        have G111 := G110.iconst (v := (1 : Int32)) (pc' := 166) at_165
        exact G111.retZ at_166 rfl (Or.inr rfl) rfl
      · have G112 := G109.ifN at_122 125 (Jvm.Free.XT.ll_gt_f c122_109)
        have G113 := G112.lload (v := ((x2 &&& (2147483647 : Int32)).toInt64 * (x1 &&& (2147483647 : Int32)).toInt64)) (pc' := 127) at_125 rfl
        have G114 := G113.ldc2 (v := (2147483647 : Int64)) (pc' := 130) (hw _ (List.mem_of_getElem? (i := 5) rfl)) at_127
        have G115 := G114.lcmp (pc' := 131) at_130
        by_cases c131_115 : (2147483647 : Int64) < ((x2 &&& (2147483647 : Int32)).toInt64 * (x1 &&& (2147483647 : Int32)).toInt64)
        · have G116 := G115.ifY at_131 165 (Jvm.Free.XT.ll_gt_t c131_115)
          have G117 := G116.iconst (v := (1 : Int32)) (pc' := 166) at_165
          exact G117.retZ at_166 rfl (Or.inr rfl) rfl
        · have G118 := G115.ifN at_131 134 (Jvm.Free.XT.ll_gt_f c131_115)
          have G119 := G118.lload (v := ((x2 &&& (2147483647 : Int32)).toInt64 * (x0 &&& (2147483647 : Int32)).toInt64)) (pc' := 136) at_134 rfl
          have G120 := G119.l2i (pc' := 137) at_136
          have G121 := G120.lload (v := ((x2 &&& (2147483647 : Int32)).toInt64 * (x1 &&& (2147483647 : Int32)).toInt64)) (pc' := 139) at_137 rfl
          have G122 := G121.l2i (pc' := 140) at_139
          obtain ⟨v123, h123, ⟨ev123, eh123⟩, g123⟩ := G122.callS (argsL := [(.int ((x2 &&& (2147483647 : Int32)).toInt64 * (x0 &&& (2147483647 : Int32)).toInt64).toInt32), (.int ((x2 &&& (2147483647 : Int32)).toInt64 * (x1 &&& (2147483647 : Int32)).toInt64).toInt32)]) (rest := []) (pc' := 143) (k' := 0) (j' := 0) (cn1 l Z a0 hw ((x2 &&& (2147483647 : Int32)).toInt64 * (x0 &&& (2147483647 : Int32)).toInt64).toInt32 ((x2 &&& (2147483647 : Int32)).toInt64 * (x1 &&& (2147483647 : Int32)).toInt64).toInt32 h0 n0 G122.size (own_kn _ _ (own_nn x2) (own_nn x0) c122_109).1 (own_kn _ _ (own_nn x2) (own_nn x1) c131_115).1) rfl (hw _ (List.mem_of_getElem? (i := 1) rfl)) (hw _ (List.mem_of_getElem? (i := 2) rfl)) (hw _ (List.mem_of_getElem? (i := 3) rfl)) (hw _ (List.mem_of_getElem? (i := 4) rfl)) (by decide) at_140 pd0 rfl (W := 0) rfl rfl (by decide) (by decide) (by decide) (by decide) rfl rfl rfl
          subst ev123
          rw [eh123] at g123
          have G123 := g123 [(.int (fG ((x2 &&& (2147483647 : Int32)).toInt64 * (x0 &&& (2147483647 : Int32)).toInt64).toInt32 ((x2 &&& (2147483647 : Int32)).toInt64 * (x1 &&& (2147483647 : Int32)).toInt64).toInt32))] rfl
          have G124 := G123.i2l (pc' := 144) at_143
          have G125 := G124.lstore (L' := #[.val (.int x0), .val (.int x1), .val (.int x2), .val (.int (x0 &&& (2147483647 : Int32))), .val (.int (x1 &&& (2147483647 : Int32))), .val (.int (x2 &&& (2147483647 : Int32))), .val (.int (fG (x0 &&& (2147483647 : Int32)) (x1 &&& (2147483647 : Int32)))), .val (.int (1 : Int32)), .val (.long ((x2 &&& (2147483647 : Int32)).toInt64 * (x0 &&& (2147483647 : Int32)).toInt64)), .second, .val (.long ((x2 &&& (2147483647 : Int32)).toInt64 * (x1 &&& (2147483647 : Int32)).toInt64)), .second, .val (.long (fG ((x2 &&& (2147483647 : Int32)).toInt64 * (x0 &&& (2147483647 : Int32)).toInt64).toInt32 ((x2 &&& (2147483647 : Int32)).toInt64 * (x1 &&& (2147483647 : Int32)).toInt64).toInt32).toInt64), .second]) (pc' := 146) at_144 rfl
          have G126 := G125.lload (v := (fG ((x2 &&& (2147483647 : Int32)).toInt64 * (x0 &&& (2147483647 : Int32)).toInt64).toInt32 ((x2 &&& (2147483647 : Int32)).toInt64 * (x1 &&& (2147483647 : Int32)).toInt64).toInt32).toInt64) (pc' := 148) at_146 rfl
          have G127 := G126.iload (v := (x2 &&& (2147483647 : Int32))) (pc' := 150) at_148 rfl
          have G128 := G127.i2l (pc' := 151) at_150
          have G129 := G128.iload (v := (fG (x0 &&& (2147483647 : Int32)) (x1 &&& (2147483647 : Int32)))) (pc' := 153) at_151 rfl
          have G130 := G129.i2l (pc' := 154) at_153
          have G131 := G130.lmul (pc' := 155) at_154
          have G132 := G131.lcmp (pc' := 156) at_155
          have G133 := G132.ifN at_156 159 (Jvm.Free.XT.ll_ne_f (own_last _ _ _ (own_nn x2) (own_nn x0) (own_nn x1) c122_109 c131_115))
          have G134 := G133.iconst (v := (1 : Int32)) (pc' := 160) at_159
          have G135 := G134.goto at_160 164
          exact G135.retZ at_164 rfl (Or.inr rfl) rfl
  · have G136 := G17.ifY at_26 49 (Jvm.Free.XT.i0_ne_t c26_17)
    have G137 := G136.iload (v := (fG (x0 &&& (2147483647 : Int32)) (x1 &&& (2147483647 : Int32)))) (pc' := 51) at_49 rfl
    have G138 := G137.ifN at_51 54 (Jvm.Free.XT.i0_le_f (own_pos' _ _ (own_nn x0) (own_nn x1) (fun q => c26_17 q.1)))
    have G139 := G138.iloadN (v := (x0 &&& (2147483647 : Int32))) (pc' := 55) at_54 rfl
    have G140 := G139.iload (v := (fG (x0 &&& (2147483647 : Int32)) (x1 &&& (2147483647 : Int32)))) (pc' := 57) at_55 rfl
    have G141 := G140.irem (pc' := 58) at_57 (own_ne _ _ (own_nn x0) (own_nn x1) (fun q => c26_17 q.1))
    have G142 := G141.ifN at_58 61 (Jvm.Free.XT.i0_ne_f (own_ra _ _ (own_nn x0) (own_nn x1)))
    have G143 := G142.iload (v := (x1 &&& (2147483647 : Int32))) (pc' := 63) at_61 rfl
    have G144 := G143.iload (v := (fG (x0 &&& (2147483647 : Int32)) (x1 &&& (2147483647 : Int32)))) (pc' := 65) at_63 rfl
    have G145 := G144.irem (pc' := 66) at_65 (own_ne _ _ (own_nn x0) (own_nn x1) (fun q => c26_17 q.1))
    have G146 := G145.ifN at_66 69 (Jvm.Free.XT.i0_ne_f (own_rb _ _ (own_nn x0) (own_nn x1)))
    have G147 := G146.iloadN (v := (x0 &&& (2147483647 : Int32))) (pc' := 70) at_69 rfl
    have G148 := G147.iload (v := (fG (x0 &&& (2147483647 : Int32)) (x1 &&& (2147483647 : Int32)))) (pc' := 72) at_70 rfl
    have G149 := G148.idiv (pc' := 73) at_72 (own_ne _ _ (own_nn x0) (own_nn x1) (fun q => c26_17 q.1))
    have G150 := G149.iload (v := (x1 &&& (2147483647 : Int32))) (pc' := 75) at_73 rfl
    have G151 := G150.iload (v := (fG (x0 &&& (2147483647 : Int32)) (x1 &&& (2147483647 : Int32)))) (pc' := 77) at_75 rfl
    have G152 := G151.idiv (pc' := 78) at_77 (own_ne _ _ (own_nn x0) (own_nn x1) (fun q => c26_17 q.1))
    obtain ⟨v153, h153, ⟨ev153, eh153⟩, g153⟩ := G152.callS (argsL := [(.int ((x0 &&& (2147483647 : Int32)) / (fG (x0 &&& (2147483647 : Int32)) (x1 &&& (2147483647 : Int32))))), (.int ((x1 &&& (2147483647 : Int32)) / (fG (x0 &&& (2147483647 : Int32)) (x1 &&& (2147483647 : Int32)))))]) (rest := []) (pc' := 81) (k' := 0) (j' := 0) (cn1 l Z a0 hw ((x0 &&& (2147483647 : Int32)) / (fG (x0 &&& (2147483647 : Int32)) (x1 &&& (2147483647 : Int32)))) ((x1 &&& (2147483647 : Int32)) / (fG (x0 &&& (2147483647 : Int32)) (x1 &&& (2147483647 : Int32)))) h0 n0 G152.size (own_dn _ _ (own_nn x0) (own_nn x1)) (own_dn' _ _ (own_nn x0) (own_nn x1))) rfl (hw _ (List.mem_of_getElem? (i := 1) rfl)) (hw _ (List.mem_of_getElem? (i := 2) rfl)) (hw _ (List.mem_of_getElem? (i := 3) rfl)) (hw _ (List.mem_of_getElem? (i := 4) rfl)) (by decide) at_78 pd0 rfl (W := 0) rfl rfl (by decide) (by decide) (by decide) (by decide) rfl rfl rfl
    subst ev153
    rw [eh153] at g153
    have G153 := g153 [(.int (fG ((x0 &&& (2147483647 : Int32)) / (fG (x0 &&& (2147483647 : Int32)) (x1 &&& (2147483647 : Int32)))) ((x1 &&& (2147483647 : Int32)) / (fG (x0 &&& (2147483647 : Int32)) (x1 &&& (2147483647 : Int32))))))] rfl
    have G154 := G153.iconst (v := (1 : Int32)) (pc' := 82) at_81
    have G155 := G154.icmpN at_82 85 (Jvm.Free.XT.ii_ne_f (own_one _ _ (own_nn x0) (own_nn x1) (fun q => c26_17 q.1)))
    have G156 := G155.iconst (v := (1 : Int32)) (pc' := 86) at_85
    have G157 := G156.goto at_86 90
    have G158 := G157.istore (L' := #[.val (.int x0), .val (.int x1), .val (.int x2), .val (.int (x0 &&& (2147483647 : Int32))), .val (.int (x1 &&& (2147483647 : Int32))), .val (.int (x2 &&& (2147483647 : Int32))), .val (.int (fG (x0 &&& (2147483647 : Int32)) (x1 &&& (2147483647 : Int32)))), .val (.int (1 : Int32)), .unset, .unset, .unset, .unset, .unset, .unset]) (pc' := 92) at_90 rfl
    have G159 := G158.iload (v := (1 : Int32)) (pc' := 94) at_92 rfl
    have G160 := G159.ifY at_94 99 (Jvm.Free.XT.i0_ne_t (by decide))
    have G161 := G160.iload (v := (x2 &&& (2147483647 : Int32))) (pc' := 101) at_99 rfl
    have G162 := G161.i2l (pc' := 102) at_101
    have G163 := G162.iloadN (v := (x0 &&& (2147483647 : Int32))) (pc' := 103) at_102 rfl
    have G164 := G163.i2l (pc' := 104) at_103
    have G165 := G164.lmul (pc' := 105) at_104
    have G166 := G165.lstore (L' := #[.val (.int x0), .val (.int x1), .val (.int x2), .val (.int (x0 &&& (2147483647 : Int32))), .val (.int (x1 &&& (2147483647 : Int32))), .val (.int (x2 &&& (2147483647 : Int32))), .val (.int (fG (x0 &&& (2147483647 : Int32)) (x1 &&& (2147483647 : Int32)))), .val (.int (1 : Int32)), .val (.long ((x2 &&& (2147483647 : Int32)).toInt64 * (x0 &&& (2147483647 : Int32)).toInt64)), .second, .unset, .unset, .unset, .unset]) (pc' := 107) at_105 rfl
    have G167 := G166.iload (v := (x2 &&& (2147483647 : Int32))) (pc' := 109) at_107 rfl
    have G168 := G167.i2l (pc' := 110) at_109
    have G169 := G168.iload (v := (x1 &&& (2147483647 : Int32))) (pc' := 112) at_110 rfl
    have G170 := G169.i2l (pc' := 113) at_112
    have G171 := G170.lmul (pc' := 114) at_113
    have G172 := G171.lstore (L' := #[.val (.int x0), .val (.int x1), .val (.int x2), .val (.int (x0 &&& (2147483647 : Int32))), .val (.int (x1 &&& (2147483647 : Int32))), .val (.int (x2 &&& (2147483647 : Int32))), .val (.int (fG (x0 &&& (2147483647 : Int32)) (x1 &&& (2147483647 : Int32)))), .val (.int (1 : Int32)), .val (.long ((x2 &&& (2147483647 : Int32)).toInt64 * (x0 &&& (2147483647 : Int32)).toInt64)), .second, .val (.long ((x2 &&& (2147483647 : Int32)).toInt64 * (x1 &&& (2147483647 : Int32)).toInt64)), .second, .unset, .unset]) (pc' := 116) at_114 rfl
    have G173 := G172.lload (v := ((x2 &&& (2147483647 : Int32)).toInt64 * (x0 &&& (2147483647 : Int32)).toInt64)) (pc' := 118) at_116 rfl
    have G174 := G173.ldc2 (v := (2147483647 : Int64)) (pc' := 121) (hw _ (List.mem_of_getElem? (i := 5) rfl)) at_118
    have G175 := G174.lcmp (pc' := 122) at_121
    by_cases c122_175 : (2147483647 : Int64) < ((x2 &&& (2147483647 : Int32)).toInt64 * (x0 &&& (2147483647 : Int32)).toInt64)
    · have G176 := G175.ifY at_122 165 (Jvm.Free.XT.ll_gt_t c122_175)
      have G177 := G176.iconst (v := (1 : Int32)) (pc' := 166) at_165
      exact G177.retZ at_166 rfl (Or.inr rfl) rfl
    · have G178 := G175.ifN at_122 125 (Jvm.Free.XT.ll_gt_f c122_175)
      have G179 := G178.lload (v := ((x2 &&& (2147483647 : Int32)).toInt64 * (x1 &&& (2147483647 : Int32)).toInt64)) (pc' := 127) at_125 rfl
      have G180 := G179.ldc2 (v := (2147483647 : Int64)) (pc' := 130) (hw _ (List.mem_of_getElem? (i := 5) rfl)) at_127
      have G181 := G180.lcmp (pc' := 131) at_130
      by_cases c131_181 : (2147483647 : Int64) < ((x2 &&& (2147483647 : Int32)).toInt64 * (x1 &&& (2147483647 : Int32)).toInt64)
      · have G182 := G181.ifY at_131 165 (Jvm.Free.XT.ll_gt_t c131_181)
        have G183 := G182.iconst (v := (1 : Int32)) (pc' := 166) at_165
        exact G183.retZ at_166 rfl (Or.inr rfl) rfl
      · have G184 := G181.ifN at_131 134 (Jvm.Free.XT.ll_gt_f c131_181)
        have G185 := G184.lload (v := ((x2 &&& (2147483647 : Int32)).toInt64 * (x0 &&& (2147483647 : Int32)).toInt64)) (pc' := 136) at_134 rfl
        have G186 := G185.l2i (pc' := 137) at_136
        have G187 := G186.lload (v := ((x2 &&& (2147483647 : Int32)).toInt64 * (x1 &&& (2147483647 : Int32)).toInt64)) (pc' := 139) at_137 rfl
        have G188 := G187.l2i (pc' := 140) at_139
        obtain ⟨v189, h189, ⟨ev189, eh189⟩, g189⟩ := G188.callS (argsL := [(.int ((x2 &&& (2147483647 : Int32)).toInt64 * (x0 &&& (2147483647 : Int32)).toInt64).toInt32), (.int ((x2 &&& (2147483647 : Int32)).toInt64 * (x1 &&& (2147483647 : Int32)).toInt64).toInt32)]) (rest := []) (pc' := 143) (k' := 0) (j' := 0) (cn1 l Z a0 hw ((x2 &&& (2147483647 : Int32)).toInt64 * (x0 &&& (2147483647 : Int32)).toInt64).toInt32 ((x2 &&& (2147483647 : Int32)).toInt64 * (x1 &&& (2147483647 : Int32)).toInt64).toInt32 h0 n0 G188.size (own_kn _ _ (own_nn x2) (own_nn x0) c122_175).1 (own_kn _ _ (own_nn x2) (own_nn x1) c131_181).1) rfl (hw _ (List.mem_of_getElem? (i := 1) rfl)) (hw _ (List.mem_of_getElem? (i := 2) rfl)) (hw _ (List.mem_of_getElem? (i := 3) rfl)) (hw _ (List.mem_of_getElem? (i := 4) rfl)) (by decide) at_140 pd0 rfl (W := 0) rfl rfl (by decide) (by decide) (by decide) (by decide) rfl rfl rfl
        subst ev189
        rw [eh189] at g189
        have G189 := g189 [(.int (fG ((x2 &&& (2147483647 : Int32)).toInt64 * (x0 &&& (2147483647 : Int32)).toInt64).toInt32 ((x2 &&& (2147483647 : Int32)).toInt64 * (x1 &&& (2147483647 : Int32)).toInt64).toInt32))] rfl
        have G190 := G189.i2l (pc' := 144) at_143
        have G191 := G190.lstore (L' := #[.val (.int x0), .val (.int x1), .val (.int x2), .val (.int (x0 &&& (2147483647 : Int32))), .val (.int (x1 &&& (2147483647 : Int32))), .val (.int (x2 &&& (2147483647 : Int32))), .val (.int (fG (x0 &&& (2147483647 : Int32)) (x1 &&& (2147483647 : Int32)))), .val (.int (1 : Int32)), .val (.long ((x2 &&& (2147483647 : Int32)).toInt64 * (x0 &&& (2147483647 : Int32)).toInt64)), .second, .val (.long ((x2 &&& (2147483647 : Int32)).toInt64 * (x1 &&& (2147483647 : Int32)).toInt64)), .second, .val (.long (fG ((x2 &&& (2147483647 : Int32)).toInt64 * (x0 &&& (2147483647 : Int32)).toInt64).toInt32 ((x2 &&& (2147483647 : Int32)).toInt64 * (x1 &&& (2147483647 : Int32)).toInt64).toInt32).toInt64), .second]) (pc' := 146) at_144 rfl
        have G192 := G191.lload (v := (fG ((x2 &&& (2147483647 : Int32)).toInt64 * (x0 &&& (2147483647 : Int32)).toInt64).toInt32 ((x2 &&& (2147483647 : Int32)).toInt64 * (x1 &&& (2147483647 : Int32)).toInt64).toInt32).toInt64) (pc' := 148) at_146 rfl
        have G193 := G192.iload (v := (x2 &&& (2147483647 : Int32))) (pc' := 150) at_148 rfl
        have G194 := G193.i2l (pc' := 151) at_150
        have G195 := G194.iload (v := (fG (x0 &&& (2147483647 : Int32)) (x1 &&& (2147483647 : Int32)))) (pc' := 153) at_151 rfl
        have G196 := G195.i2l (pc' := 154) at_153
        have G197 := G196.lmul (pc' := 155) at_154
        have G198 := G197.lcmp (pc' := 156) at_155
        have G199 := G198.ifN at_156 159 (Jvm.Free.XT.ll_ne_f (own_last _ _ _ (own_nn x2) (own_nn x0) (own_nn x1) c122_175 c131_181))
        have G200 := G199.iconst (v := (1 : Int32)) (pc' := 160) at_159
        have G201 := G200.goto at_160 164
        exact G201.retZ at_164 rfl (Or.inr rfl) rfl
set_option maxRecDepth 65536 in
set_option maxHeartbeats 40000000 in
theorem comes_1 {Post : Tables → Env → Array Value → State → Outcome → State → Prop} (hpost : ∀ tb e args s v u, (limb_1_1.after args s (.returned v) u = true ∧ limb_1_2.after args s (.returned v) u = true) → FrameEnd s (.returned v) u (Jvm.fieldLocs frame_1_writes args s ++ Jvm.arrayLocs frame_1_arrays args s ++ Jvm.staticLocs frame_1_statics s) 0 0 → Post tb e args s (.returned v) u) :
    ArmFor flags0 classFile x code maxLocals ret World_1 tables_1 room_1 Calls_1 rest_1 Pre_1 Post := by
  intro l hfl _ _ p e ha hc hk s m args below hf hA hF happ hP
  obtain ⟨hcalls, hrest, hpre⟩ := hP
  obtain ⟨-, -, -, hnamed, -, -, -, hat⟩ := (Spec.applies_iff hf).mp happ
  obtain ⟨hg, hn⟩ := and_e (Cond.before_iff.mp (show (Jvm.Cond.and given_1 narrow_1).before args s = true from hpre))
  obtain ⟨hcount, hg0⟩ := and_e hg
  obtain ⟨ga0, hg1⟩ := and_e hg0
  obtain ⟨ga1, hg2⟩ := and_e hg1
  have ga2 := hg2
  obtain ⟨w0, w1, w2, rfl⟩ : ∃ w0 w1 w2 : Value, args = #[w0, w1, w2] := by
    have hs : args.size = 3 := by simpa [Cond.value, given_1] using hcount
    obtain ⟨L⟩ := args
    match L, hs with
    | [w0, w1, w2], _ => exact ⟨w0, w1, w2, rfl⟩
  have hw := fun d (hd : d ∈ tables_1) => atoms_spec (ws := Jvm.Cond.code x code maxLocals ret :: tables_1) hat d (List.mem_cons_of_mem _ hd)
  obtain ⟨i0, ei0⟩ := is_v ga0
  obtain rfl : w0 = (.int i0) := Option.some.inj ei0
  obtain ⟨i1, ei1⟩ := is_v ga1
  obtain rfl : w1 = (.int i1) := Option.some.inj ei1
  obtain ⟨i2, ei2⟩ := is_v ga2
  obtain rfl : w2 = (.int i2) := Option.some.inj ei2
  obtain ⟨n, o, h1, h2, h3, _, L, rfl, ⟨rfl, N⟩, hq⟩ := lawc l s _ hw i0 i1 i2 s.heap s.heap.size (Nat.le_refl _) p e ha hc hk s m _ below hf ((Spec.applies_iff_loose hf).mp happ).1 ⟨rfl, State.Warmed39.refl s, rfl⟩ trivial
  refine ⟨n, _, h1, h2, h3, hpost _ _ _ _ _ _ ⟨Cond.after_iff.mpr rfl, Cond.after_iff.mpr (eq_i res_at (Term.int_eval (1)) rfl)⟩ ⟨hq.1, hq.2.1, (hq.2.2.sift fun y hy => Or.inr (N y hy)).mono (by decide) (by decide)⟩⟩
theorem main_1_1 : Claimed_1_1 := comes_1 fun _ _ _ _ _ _ h hF => ⟨h.1, hF⟩
theorem main_1_2 : Claimed_1_2 := comes_1 fun _ _ _ _ _ _ h hF => ⟨h.2, hF⟩
end Jvm.Pilot.@@N@@
namespace Jvm.Pilot.@@N@@
open Jvm Jvm.ClassFile Sem Op Lib Jvm.Free Jvm.Stand Jvm.Pilot.@@N@@.Jvm.D
/-! MADE BY PROGRAM (witnessworld.py) out of the Statement's table words and the real class files: 9 classes; the members and pool entries that the words name. The judged class is class 1, her method 1. -/
namespace start1
open Jvm.ClassFile
def u (s : String) : CpInfo := .utf8 (stringToUtf16 s)
/-- a pool by its gaps: so many unusable entries, then the entry; so many at the end -/
def gap : Nat → List CpInfo → List CpInfo
  | 0, r => r
  | n + 1, r => .unusable :: gap n r
def poolList (es : List (Nat × CpInfo)) (last : Nat) : List CpInfo := es.foldr (fun e r => gap e.1 (e.2 :: r)) (gap last [])
def pool (es : List (Nat × CpInfo)) (last : Nat) : Array CpInfo := ⟨poolList es last⟩
def fileOf (pool : Array CpInfo) (this : Nat) (attrs : Array Attribute := #[]) (ms : Array MethodInfo := #[]) (fl : Nat := 33) (sup : Nat := 0) (ifs : Array Nat := #[]) (fds : Array FieldInfo := #[]) : ClassFile where
  minorVersion := 0
  majorVersion := 65
  constantPool := pool
  accessFlags := fl
  thisClass := this
  superClass := sup
  interfaces := ifs
  fields := fds
  methods := ms
  attributes := attrs
def plain (name : String) (sup : Option ClassId) : Class where
  name := name
  kind := .ordinary
  loader := none
  accessFlags := 33
  super := sup
  interfaces := #[]
  cf := none
  fields := #[]
  methods := #[]
  instanceTypes := #[]
  staticTypes := #[]
  resolved := #[]
  callSites := []
  init := .initialized
  statics := none
  mirror := none

def pool0 : Array CpInfo := pool [(5, u "<init>"), (0, u "()V"), (1, .class_ 10), (1, u "java/lang/Object")] 113

def k0m0 : Method := { name := "<init>", desc := "()V", sig := { parameters := [], returnType := none }, accessFlags := 1, code := none }
/-- java/lang/Object -/
def k0 : Class := { plain "java/lang/Object" none with
  accessFlags := 33
  interfaces := #[]
  cf := some (fileOf pool0 8 #[] #[{ accessFlags := 1, nameIndex := 5, descriptorIndex := 6, attributes := #[] }] 33 0 #[] #[])
  fields := #[]
  methods := #[k0m0]
  instanceTypes := #[]
  staticTypes := #[]
  resolved := Array.replicate 124 none
  statics := none }

def pool1 : Array CpInfo := pool [(2, .class_ 4), (1, u "java/lang/Object"), (0, u "<init>"), (0, u "()V"), (0, .integer 2147483647), (0, .methodref 9 10), (0, .class_ 11), (0, .nameAndType 12 13), (0, u "com/example/reachway/reachway/StrongParts"), (0, u "gcd"), (0, u "(II)I"), (2, .long 2147483647), (1, .class_ 19), (0, u "com/example/reachway/reachway/StrongPartsGcdPinLaw"), (2, u "law"), (0, u "(III)Z")] 3

def k1m0 : Method := { name := "<init>", desc := "()V", sig := { parameters := [], returnType := none }, accessFlags := 1, code := none }
def k1c1 : Code := { maxStack := 6, maxLocals := 14, code := code, exceptionTable := #[], attributes := #[] }
def k1m1 : Method := { name := "law", desc := "(III)Z", sig := { parameters := [.int, .int, .int], returnType := some .boolean }, accessFlags := 9, code := some k1c1 }
/-- com/example/reachway/reachway/StrongPartsGcdPinLaw -/
def k1 : Class := { plain "com/example/reachway/reachway/StrongPartsGcdPinLaw" (some 0) with
  accessFlags := 49
  interfaces := #[]
  cf := some (fileOf pool1 18 #[] #[{ accessFlags := 1, nameIndex := 5, descriptorIndex := 6, attributes := #[] }, { accessFlags := 9, nameIndex := 22, descriptorIndex := 23, attributes := #[] }] 49 2 #[] #[])
  fields := #[]
  methods := #[k1m0, k1m1]
  instanceTypes := #[]
  staticTypes := #[]
  resolved := Array.replicate 27 none
  statics := none }

def pool2 : Array CpInfo := pool [(2, .class_ 4), (1, u "java/lang/Object"), (3, .class_ 10), (1, u "com/example/reachway/reachway/StrongParts"), (0, u "part"), (0, u "[I"), (6, u "count"), (0, u "I"), (2, u "firstMember"), (2, u "members"), (19, u "(II)I"), (9, u "gcd")] 2

def k2c0 : Code := { maxStack := 2, maxLocals := 3, code := prog_89_method_4_code, exceptionTable := #[], attributes := #[] }
def k2m0 : Method := { name := "gcd", desc := "(II)I", sig := { parameters := [.int, .int], returnType := some .int }, accessFlags := 8, code := some k2c0 }
/-- com/example/reachway/reachway/StrongParts -/
def k2 : Class := { plain "com/example/reachway/reachway/StrongParts" (some 0) with
  accessFlags := 48
  interfaces := #[]
  cf := some (fileOf pool2 8 #[] #[{ accessFlags := 8, nameIndex := 56, descriptorIndex := 46, attributes := #[] }] 48 2 #[] #[{ accessFlags := 16, nameIndex := 11, descriptorIndex := 12, attributes := #[] }, { accessFlags := 16, nameIndex := 19, descriptorIndex := 20, attributes := #[] }, { accessFlags := 16, nameIndex := 26, descriptorIndex := 12, attributes := #[] }, { accessFlags := 16, nameIndex := 23, descriptorIndex := 12, attributes := #[] }])
  fields := #[{ name := "part", type := (.array .int), accessFlags := 16, slot := 0, constantValue := 0 }, { name := "count", type := .int, accessFlags := 16, slot := 1, constantValue := 0 }, { name := "members", type := (.array .int), accessFlags := 16, slot := 2, constantValue := 0 }, { name := "firstMember", type := (.array .int), accessFlags := 16, slot := 3, constantValue := 0 }]
  methods := #[k2m0]
  instanceTypes := #[(.array .int), .int, (.array .int), (.array .int)]
  staticTypes := #[]
  resolved := Array.replicate 59 none
  statics := none }

def pool3 : Array CpInfo := pool [(1, u "java/lang/Cloneable"), (0, .class_ 1), (0, u "java/lang/Object"), (0, .class_ 3)] 3

/-- java/lang/Cloneable -/
def k3 : Class := { plain "java/lang/Cloneable" (some 0) with
  accessFlags := 1537
  interfaces := #[]
  cf := some (fileOf pool3 2 #[] #[] 1537 4 #[] #[])
  fields := #[]
  methods := #[]
  instanceTypes := #[]
  staticTypes := #[]
  resolved := Array.replicate 8 none
  statics := none }

def pool4 : Array CpInfo := pool [(1, u "java/io/Serializable"), (0, .class_ 1), (0, u "java/lang/Object"), (0, .class_ 3)] 3

/-- java/io/Serializable -/
def k4 : Class := { plain "java/io/Serializable" (some 0) with
  accessFlags := 1537
  interfaces := #[]
  cf := some (fileOf pool4 2 #[] #[] 1537 4 #[] #[])
  fields := #[]
  methods := #[]
  instanceTypes := #[]
  staticTypes := #[]
  resolved := Array.replicate 8 none
  statics := none }

/-- the primitive byte -/
def k5 : Class := { plain "byte" none with kind := .primitive 'B', accessFlags := 0x411 }
/-- [B -/
def k6 : Class := { plain "[B" (some 0) with kind := .array 5 .byte, interfaces := #[3, 4], accessFlags := 1041 }

/-- the primitive int -/
def k7 : Class := { plain "int" none with kind := .primitive 'I', accessFlags := 0x411 }
/-- [I -/
def k8 : Class := { plain "[I" (some 0) with kind := .array 7 .int, interfaces := #[3, 4], accessFlags := 1041 }

def heap : Heap := #[]
def classes : Array Class := #[k0, k1, k2, k3, k4, k5, k6, k7, k8]
def interned : List (Array UInt16 × Addr) := []
def slotsUsed : Nat := 0
def theMethod : MethodId := ⟨1, 1⟩
def args0 : Array Value := #[.int 12, .int 18, .int 2]
def aboutOver (below : List Frame) : State where
  vm := { classes := classes, interned := interned.toArray }
  heap := heap
  slotsUsed := slotsUsed
  threads := #[{ frames := .invoking theMethod args0 :: below }]
def below0 : List Frame := [.native { method := ⟨0, 0⟩, args := #[] }]
def about1 : State := aboutOver below0
def p0 : Program := .bare "" "" ""
def e0 : Env := launch0.env 0 0 0
theorem w_frames : about1.frames = Frame.invoking theMethod args0 :: below0 := rfl
set_option maxRecDepth 65536 in
theorem w_args : argsFit about1.vm theMethod args0 = true := by decide +kernel
set_option maxRecDepth 65536 in
theorem w_heap : heapFits about1 = true := by decide +kernel
set_option maxRecDepth 65536 in
theorem w_runnable : about1.curStatus? = some .runnable := by decide +kernel
set_option maxRecDepth 65536 in
theorem w_alone : about1.alone = true := by decide +kernel
set_option maxRecDepth 65536 in
theorem w_named : about1.methodNamed? x = some theMethod := by decide +kernel
set_option maxRecDepth 65536 in
theorem w_hears : about1.hears theMethod below0 = true := by decide +kernel
set_option maxRecDepth 65536 in
theorem w_ripe : about1.ripe theMethod args0 below0 = true := by decide +kernel
theorem w_running : about1.status = .running := rfl
set_option maxRecDepth 65536 in
theorem w_room : about1.hasRoom e0.platform room_1 = true :=
  launch0.hasRoom_least _ room_1 (by decide +kernel) (by decide +kernel) (by decide +kernel) (by decide +kernel) (by decide +kernel) (by decide +kernel)
theorem allAtoms_all (ts : List Jvm.Cond) (a : Array Jvm.Value) (st : Jvm.State) : (allAtoms ts).before a st = ts.all (fun c => c.before a st) := by
  induction ts with
  | nil => rfl
  | cons c t ih =>
    show (Jvm.Cond.and c (allAtoms t)).before a st = _
    rw [Jvm.Cond.before_and, ih, List.all_cons]
def words1 : List Jvm.Cond := Jvm.Cond.code x code maxLocals ret :: tables_1
/-- a 'code' word, met by the world's own term for the bytes: nothing is compared byte by byte -/
theorem code_word {y : MethodName} {bytes : ByteArray} {mx : Nat} {rt : Option FieldType} {a : Array Value} {s : State} {m : MethodId} {meth : Method} {c : Code} (h1 : s.methodNamed? y = some m) (h2 : s.vm.method? m = some meth) (h3 : meth.code = some c) (h4 : c.code = bytes)
    (h5 : (c.maxLocals == mx && c.exceptionTable.isEmpty && decide (c.maxStack ≤ mostOperands) && decide (meth.sig.returnType = rt) && !meth.locks && decide (parseMethodDescriptor y.desc = some meth.sig)) = true) : (Jvm.Cond.code y bytes mx rt).before a s = true := by
  simp only [Bool.and_eq_true, beq_iff_eq, Bool.not_eq_true', decide_eq_true_eq] at h5
  obtain ⟨⟨⟨⟨⟨g1, g2⟩, g3⟩, g4⟩, g5⟩, g6⟩ := h5
  simp [Cond.before, Cond.holds, Cond.value, h1, h2, h3, h4, g1, g2, g3, g4, g5, g6]
def isCode : Jvm.Cond → Bool
  | .code _ _ _ _ => true
  | _ => false
theorem all_split {L : List Jvm.Cond} {P : Jvm.Cond → Bool} (h1 : L.all (fun c => isCode c || P c) = true) (h2 : ∀ c ∈ L.filter isCode, P c = true) : L.all P = true := by
  refine List.all_eq_true.mpr fun c hc => ?_
  have h := List.all_eq_true.mp h1 c hc
  rcases Bool.eq_false_or_eq_true (isCode c) with hi | hi
  · exact h2 c (List.mem_filter.mpr ⟨hc, hi⟩)
  · simpa [hi] using h
set_option maxRecDepth 65536 in
theorem w_c0 : (Jvm.Cond.code x code maxLocals ret).before args0 about1 = true := code_word (m := ⟨1, 1⟩) (meth := k1m1) (c := k1c1) (by decide +kernel) rfl rfl rfl (by decide +kernel)
set_option maxRecDepth 65536 in
theorem w_c1 : (Jvm.Cond.code ({ cls := "com/example/reachway/reachway/StrongParts", name := "gcd", desc := "(II)I" } : Jvm.MethodName) prog_89_method_4_code (3 : Nat) (Option.some Jvm.ClassFile.FieldType.int)).before args0 about1 = true := code_word (m := ⟨2, 0⟩) (meth := k2m0) (c := k2c0) (by decide +kernel) rfl rfl rfl (by decide +kernel)
def codes1 : List Jvm.Cond := [Jvm.Cond.code x code maxLocals ret, Jvm.Cond.code ({ cls := "com/example/reachway/reachway/StrongParts", name := "gcd", desc := "(II)I" } : Jvm.MethodName) prog_89_method_4_code (3 : Nat) (Option.some Jvm.ClassFile.FieldType.int)]
set_option maxRecDepth 65536 in
theorem codes_eq : words1.filter isCode = codes1 := rfl
theorem w_codes : ∀ c ∈ words1.filter isCode, c.before args0 about1 = true := by
  rw [codes_eq]
  intro c hc
  simp only [codes1, List.mem_cons, List.not_mem_nil, or_false] at hc
  rcases hc with rfl | rfl
  · exact w_c0
  · exact w_c1
set_option maxRecDepth 65536 in
theorem w_t1 : words1.all (fun c => isCode c || c.before args0 about1) = true := by decide +kernel
theorem w_tables : (allAtoms (Jvm.Cond.code x code maxLocals ret :: tables_1)).before args0 about1 = true := by
  rw [allAtoms_all]
  show words1.all (fun c => c.before args0 about1) = true
  refine all_split ?_ w_codes
  rw [w_t1]
set_option maxRecDepth 65536 in
theorem w_case : (Jvm.Cond.and given_1 narrow_1).before args0 about1 = true := by decide +kernel
theorem w_applies : (headSpec (Jvm.Cond.code x code maxLocals ret :: tables_1) room_1).applies x e0.platform about1 = true :=
  (Spec.applies_iff w_frames).mpr ⟨w_running, w_runnable, w_alone, w_named, w_hears, w_ripe, w_room, w_tables⟩
theorem atStart : AtStart classFile x code maxLocals ret World_1 tables_1 room_1 Calls_1 rest_1 Pre_1 launch0 p0 e0 about1 theMethod args0 below0 :=
  ⟨lists_1, trivial, launch0.admits_env _ _ _, launch0.least_env, fairChoices_fair.cas, fairChoices_fair.clock, w_frames, w_args, w_heap, w_applies, trivial, trivial, w_case⟩
end start1
theorem witness_1 : WitnessClaimed_1 := ⟨start1.p0, start1.e0, start1.about1, start1.theMethod, start1.args0, start1.below0, start1.atStart⟩
end Jvm.Pilot.@@N@@
