import JvmDerived
import JvmDerived.Pilot.@@N@@Statement
import JvmDerived.Pilot.@@N@@Code
set_option linter.unusedVariables false
set_option linter.unusedSimpArgs false
namespace Jvm.OwnKit
open Sem ClassFile Op Lib Jvm.Stand Jvm.Free Jvm.LawKit Jvm.RoadKit
section OwnKit
set_option maxHeartbeats 4000000
variable {p : Program} {l : Launch} {e : Env} {R : Room} {s : State} {m : MethodId} {args : Array Value} {below : List Frame} {meth : Method} {c : Code} {Z : State} {own : String} {bytes : ByteArray} {maxL : Nat} {ret : Option FieldType} {n0 : Nat} {s₀ : State} {h : Heap} {k j pc : Nat} {L : Array Slot} {S : List Value} {a0 : Array Value}
/-- where a walk stands -/
def Go (p : Program) (l : Launch) (e : Env) (R : Room) (s : State) (m : MethodId) (args : Array Value) (below : List Frame) (meth : Method) (c : Code) (Z : State) (own : String) (bytes : ByteArray) (maxL : Nat) (ret : Option FieldType) (n0 : Nat) (s₀ : State) (h : Heap) (k j pc : Nat) (L : Array Slot) (S : List Value) : Prop :=
  (p.tables.exec = Jvm.exec ∧ c.code = bytes ∧ c.maxLocals = maxL ∧ Z.Warmed39 s.vm ∧ s.vm.findClass own = some m.cls ∧ meth.sig.returnType = ret ∧ meth.locks = false ∧ n0 ≤ s.heap.size) ∧
  ∃ (T : State) (locs : List Loc), Stand p l e R s m args below meth c T locs k j ∧ T.heap = h ∧ Fr n0 locs ∧ ∀ t, Steps p.tables e below (T.setTop (mkF m pc L S)) t → Steps p.tables e below s₀ t
/-- how a walk ends -/
def Fini (p : Program) (e : Env) (below : List Frame) (s s₀ : State) (n0 kc js : Nat) (Q : Option Value → Heap → Prop) : Prop :=
  ∃ s₂ o, Steps p.tables e below s₀ s₂ ∧ s₂.status = .running ∧ Ended s₂ below o ∧ ∃ v L, o = .returned v ∧ (Q v s₂.heap ∧ Fr n0 L) ∧ FrameEnd s o s₂ L kc js
/-- a body's contract at one heap and these arguments -/
def Con (l : Launch) (y : MethodName) (bytes : ByteArray) (maxL : Nat) (ret : Option FieldType) (ws : List Cond) (rm : Room) (kc js : Nat) (Z : State) (as' : Array Value) (h0 : Heap) (n0 : Nat) (Q : Option Value → Heap → Prop) : Prop :=
  MetFree l y (head1 (Cond.code y bytes maxL ret :: ws) rm) (fun a U => a = as' ∧ Z.Warmed39 U.vm ∧ U.heap = h0) (fun _ _ _ _ _ => True) (fun _ U o U' => ∃ v L, o = .returned v ∧ (Q v U'.heap ∧ Fr n0 L) ∧ FrameEnd U o U' L kc js)
theorem Con.of {y : MethodName} {ws : List Cond} {rm : Room} {kc js : Nat} {as' : Array Value} {h0 : Heap} {L0 : Array Slot} {Q : Option Value → Heap → Prop} (hpl : plainFor y = true) (hn : n0 ≤ h0.size) (hef : ∀ m, entryFrame m as' maxL = mkF m 0 L0 [])
    (body : ∀ (p : Program) (e : Env) (s : State) (m : MethodId) (below : List Frame) (meth : Method) (c : Code) (s₀ : State), meth.name = y.name → Go p l e rm s m as' below meth c Z y.cls bytes maxL ret n0 s₀ h0 0 0 0 L0 [] → Fini p e below s s₀ n0 kc js Q) : Con l y bytes maxL ret ws rm kc js Z as' h0 n0 Q := by
  refine MetFree.of_bodySF hpl hisR ?_
  intro p e s m args below meth c s₁ Bd hml0 hP hK
  obtain ⟨rfl, hZ, hh⟩ := hP
  have hx := Bd.exec
  have X0 : Stand p l e rm s m args below meth c s₁ [] 0 0 := Stand.of_body Bd
  exact body p e s m below meth c _ (name_of_methodNamed Bd.named Bd.method).1 ⟨⟨hx, Bd.bytes, hml0, hZ, findClass_of_methodNamed Bd.named, Bd.returns, Bd.notSynchronized, by rw [hh]; exact hn⟩, s₁, [], X0, by rw [← hh, Bd.state]; rfl, Fr.nil n0, fun t k => castTop (hef m) k⟩
/-- the same contract with a weaker word -/
theorem Fini.mono {kc js : Nat} {Q Q' : Option Value → Heap → Prop} (F : Fini p e below s s₀ n0 kc js Q) (hq : ∀ v h, Q v h → Q' v h) : Fini p e below s s₀ n0 kc js Q' := by
  obtain ⟨s₂, o, a1, a2, a3, v, L, a4, ⟨a5, a6⟩, a7⟩ := F
  exact ⟨s₂, o, a1, a2, a3, v, L, a4, ⟨hq _ _ a5, a6⟩, a7⟩
theorem Go.step {pc' : Nat} {L' : Array Slot} {S' : List Value} (G : Go p l e R s m args below meth c Z own bytes maxL ret n0 s₀ h k j pc L S) (f : ∀ T locs, Stand p l e R s m args below meth c T locs k j → T.heap = h → p.tables.exec = Jvm.exec → c.code = bytes → ∀ t, Steps p.tables e below (T.setTop (mkF m pc' L' S')) t → Steps p.tables e below (T.setTop (mkF m pc L S)) t) : Go p l e R s m args below meth c Z own bytes maxL ret n0 s₀ h k j pc' L' S' := by
  obtain ⟨⟨hx, hb, r⟩, T, locs, X, eT, N, st⟩ := G
  exact ⟨⟨hx, hb, r⟩, T, locs, X, eT, N, fun t q => st t (f T locs X eT hx hb t q)⟩
theorem Go.size (G : Go p l e R s m args below meth c Z own bytes maxL ret n0 s₀ h k j pc L S) : n0 ≤ h.size := by
  obtain ⟨⟨_, _, _, _, _, _, _, hn⟩, T, locs, X, eT, N, st⟩ := G
  have q : s.heap.size ≤ T.heap.size := X.same.2.1
  rw [← eT]; exact Nat.le_trans hn q
theorem Go.iadd {x y : Int32} (G : Go p l e R s m args below meth c Z own bytes maxL ret n0 s₀ h k j pc L (.int y :: .int x :: S)) (hd : decode bytes pc = .ok (.iadd, 1))  {pc' : Nat} (hp : pc + 1 = pc' := by rfl) : Go p l e R s m args below meth c Z own bytes maxL ret n0 s₀ h k j pc' L (.int (x + y) :: S) := by
  subst hp; exact G.step fun T locs X eT hx hb t q => XS.iadd X.here hx rfl (Jvm.hb hb hd) rfl  q
theorem Go.isub {x y : Int32} (G : Go p l e R s m args below meth c Z own bytes maxL ret n0 s₀ h k j pc L (.int y :: .int x :: S)) (hd : decode bytes pc = .ok (.isub, 1))  {pc' : Nat} (hp : pc + 1 = pc' := by rfl) : Go p l e R s m args below meth c Z own bytes maxL ret n0 s₀ h k j pc' L (.int (x - y) :: S) := by
  subst hp; exact G.step fun T locs X eT hx hb t q => XS.isub X.here hx rfl (Jvm.hb hb hd) rfl  q
theorem Go.imul {x y : Int32} (G : Go p l e R s m args below meth c Z own bytes maxL ret n0 s₀ h k j pc L (.int y :: .int x :: S)) (hd : decode bytes pc = .ok (.imul, 1))  {pc' : Nat} (hp : pc + 1 = pc' := by rfl) : Go p l e R s m args below meth c Z own bytes maxL ret n0 s₀ h k j pc' L (.int (x * y) :: S) := by
  subst hp; exact G.step fun T locs X eT hx hb t q => XS.imul X.here hx rfl (Jvm.hb hb hd) rfl  q
theorem Go.iand {x y : Int32} (G : Go p l e R s m args below meth c Z own bytes maxL ret n0 s₀ h k j pc L (.int y :: .int x :: S)) (hd : decode bytes pc = .ok (.iand, 1))  {pc' : Nat} (hp : pc + 1 = pc' := by rfl) : Go p l e R s m args below meth c Z own bytes maxL ret n0 s₀ h k j pc' L (.int (x &&& y) :: S) := by
  subst hp; exact G.step fun T locs X eT hx hb t q => XS.iand X.here hx rfl (Jvm.hb hb hd) rfl  q
theorem Go.ior {x y : Int32} (G : Go p l e R s m args below meth c Z own bytes maxL ret n0 s₀ h k j pc L (.int y :: .int x :: S)) (hd : decode bytes pc = .ok (.ior, 1))  {pc' : Nat} (hp : pc + 1 = pc' := by rfl) : Go p l e R s m args below meth c Z own bytes maxL ret n0 s₀ h k j pc' L (.int (x ||| y) :: S) := by
  subst hp; exact G.step fun T locs X eT hx hb t q => XS.ior X.here hx rfl (Jvm.hb hb hd) rfl  q
theorem Go.ixor {x y : Int32} (G : Go p l e R s m args below meth c Z own bytes maxL ret n0 s₀ h k j pc L (.int y :: .int x :: S)) (hd : decode bytes pc = .ok (.ixor, 1))  {pc' : Nat} (hp : pc + 1 = pc' := by rfl) : Go p l e R s m args below meth c Z own bytes maxL ret n0 s₀ h k j pc' L (.int (x ^^^ y) :: S) := by
  subst hp; exact G.step fun T locs X eT hx hb t q => XS.ixor X.here hx rfl (Jvm.hb hb hd) rfl  q
theorem Go.ishl {x y : Int32} (G : Go p l e R s m args below meth c Z own bytes maxL ret n0 s₀ h k j pc L (.int y :: .int x :: S)) (hd : decode bytes pc = .ok (.ishl, 1))  {pc' : Nat} (hp : pc + 1 = pc' := by rfl) : Go p l e R s m args below meth c Z own bytes maxL ret n0 s₀ h k j pc' L (.int (x <<< (y &&& 31)) :: S) := by
  subst hp; exact G.step fun T locs X eT hx hb t q => XS.ishl X.here hx rfl (Jvm.hb hb hd) rfl  q
theorem Go.ishr {x y : Int32} (G : Go p l e R s m args below meth c Z own bytes maxL ret n0 s₀ h k j pc L (.int y :: .int x :: S)) (hd : decode bytes pc = .ok (.ishr, 1))  {pc' : Nat} (hp : pc + 1 = pc' := by rfl) : Go p l e R s m args below meth c Z own bytes maxL ret n0 s₀ h k j pc' L (.int (x >>> (y &&& 31)) :: S) := by
  subst hp; exact G.step fun T locs X eT hx hb t q => XS.ishr X.here hx rfl (Jvm.hb hb hd) rfl  q
theorem Go.iushr {x y : Int32} (G : Go p l e R s m args below meth c Z own bytes maxL ret n0 s₀ h k j pc L (.int y :: .int x :: S)) (hd : decode bytes pc = .ok (.iushr, 1))  {pc' : Nat} (hp : pc + 1 = pc' := by rfl) : Go p l e R s m args below meth c Z own bytes maxL ret n0 s₀ h k j pc' L (.int ((x.toUInt32 >>> (y &&& 31).toUInt32).toInt32) :: S) := by
  subst hp; exact G.step fun T locs X eT hx hb t q => XS.iushr X.here hx rfl (Jvm.hb hb hd) rfl  q
theorem Go.ladd {x y : Int64} (G : Go p l e R s m args below meth c Z own bytes maxL ret n0 s₀ h k j pc L (.long y :: .long x :: S)) (hd : decode bytes pc = .ok (.ladd, 1))  {pc' : Nat} (hp : pc + 1 = pc' := by rfl) : Go p l e R s m args below meth c Z own bytes maxL ret n0 s₀ h k j pc' L (.long (x + y) :: S) := by
  subst hp; exact G.step fun T locs X eT hx hb t q => XS.ladd X.here hx rfl (Jvm.hb hb hd) rfl  q
theorem Go.lsub {x y : Int64} (G : Go p l e R s m args below meth c Z own bytes maxL ret n0 s₀ h k j pc L (.long y :: .long x :: S)) (hd : decode bytes pc = .ok (.lsub, 1))  {pc' : Nat} (hp : pc + 1 = pc' := by rfl) : Go p l e R s m args below meth c Z own bytes maxL ret n0 s₀ h k j pc' L (.long (x - y) :: S) := by
  subst hp; exact G.step fun T locs X eT hx hb t q => XS.lsub X.here hx rfl (Jvm.hb hb hd) rfl  q
theorem Go.lmul {x y : Int64} (G : Go p l e R s m args below meth c Z own bytes maxL ret n0 s₀ h k j pc L (.long y :: .long x :: S)) (hd : decode bytes pc = .ok (.lmul, 1))  {pc' : Nat} (hp : pc + 1 = pc' := by rfl) : Go p l e R s m args below meth c Z own bytes maxL ret n0 s₀ h k j pc' L (.long (x * y) :: S) := by
  subst hp; exact G.step fun T locs X eT hx hb t q => XS.lmul X.here hx rfl (Jvm.hb hb hd) rfl  q
theorem Go.land {x y : Int64} (G : Go p l e R s m args below meth c Z own bytes maxL ret n0 s₀ h k j pc L (.long y :: .long x :: S)) (hd : decode bytes pc = .ok (.land, 1))  {pc' : Nat} (hp : pc + 1 = pc' := by rfl) : Go p l e R s m args below meth c Z own bytes maxL ret n0 s₀ h k j pc' L (.long (x &&& y) :: S) := by
  subst hp; exact G.step fun T locs X eT hx hb t q => XS.land X.here hx rfl (Jvm.hb hb hd) rfl  q
theorem Go.lor {x y : Int64} (G : Go p l e R s m args below meth c Z own bytes maxL ret n0 s₀ h k j pc L (.long y :: .long x :: S)) (hd : decode bytes pc = .ok (.lor, 1))  {pc' : Nat} (hp : pc + 1 = pc' := by rfl) : Go p l e R s m args below meth c Z own bytes maxL ret n0 s₀ h k j pc' L (.long (x ||| y) :: S) := by
  subst hp; exact G.step fun T locs X eT hx hb t q => XS.lor X.here hx rfl (Jvm.hb hb hd) rfl  q
theorem Go.lxor {x y : Int64} (G : Go p l e R s m args below meth c Z own bytes maxL ret n0 s₀ h k j pc L (.long y :: .long x :: S)) (hd : decode bytes pc = .ok (.lxor, 1))  {pc' : Nat} (hp : pc + 1 = pc' := by rfl) : Go p l e R s m args below meth c Z own bytes maxL ret n0 s₀ h k j pc' L (.long (x ^^^ y) :: S) := by
  subst hp; exact G.step fun T locs X eT hx hb t q => XS.lxor X.here hx rfl (Jvm.hb hb hd) rfl  q
theorem Go.lshl {x : Int64} {y : Int32} (G : Go p l e R s m args below meth c Z own bytes maxL ret n0 s₀ h k j pc L (.int y :: .long x :: S)) (hd : decode bytes pc = .ok (.lshl, 1))  {pc' : Nat} (hp : pc + 1 = pc' := by rfl) : Go p l e R s m args below meth c Z own bytes maxL ret n0 s₀ h k j pc' L (.long (x <<< (y &&& 0x3f).toInt64) :: S) := by
  subst hp; exact G.step fun T locs X eT hx hb t q => XS.lshl X.here hx rfl (Jvm.hb hb hd) rfl  q
theorem Go.lshr {x : Int64} {y : Int32} (G : Go p l e R s m args below meth c Z own bytes maxL ret n0 s₀ h k j pc L (.int y :: .long x :: S)) (hd : decode bytes pc = .ok (.lshr, 1))  {pc' : Nat} (hp : pc + 1 = pc' := by rfl) : Go p l e R s m args below meth c Z own bytes maxL ret n0 s₀ h k j pc' L (.long (x >>> (y &&& 0x3f).toInt64) :: S) := by
  subst hp; exact G.step fun T locs X eT hx hb t q => XS.lshr X.here hx rfl (Jvm.hb hb hd) rfl  q
theorem Go.lushr {x : Int64} {y : Int32} (G : Go p l e R s m args below meth c Z own bytes maxL ret n0 s₀ h k j pc L (.int y :: .long x :: S)) (hd : decode bytes pc = .ok (.lushr, 1))  {pc' : Nat} (hp : pc + 1 = pc' := by rfl) : Go p l e R s m args below meth c Z own bytes maxL ret n0 s₀ h k j pc' L (.long ((x.toUInt64 >>> (y &&& 0x3f).toInt64.toUInt64).toInt64) :: S) := by
  subst hp; exact G.step fun T locs X eT hx hb t q => XS.lushr X.here hx rfl (Jvm.hb hb hd) rfl  q
theorem Go.ineg {x : Int32} (G : Go p l e R s m args below meth c Z own bytes maxL ret n0 s₀ h k j pc L (.int x :: S)) (hd : decode bytes pc = .ok (.ineg, 1))  {pc' : Nat} (hp : pc + 1 = pc' := by rfl) : Go p l e R s m args below meth c Z own bytes maxL ret n0 s₀ h k j pc' L (.int (-x) :: S) := by
  subst hp; exact G.step fun T locs X eT hx hb t q => XS.ineg X.here hx rfl (Jvm.hb hb hd) rfl  q
theorem Go.lneg {x : Int64} (G : Go p l e R s m args below meth c Z own bytes maxL ret n0 s₀ h k j pc L (.long x :: S)) (hd : decode bytes pc = .ok (.lneg, 1))  {pc' : Nat} (hp : pc + 1 = pc' := by rfl) : Go p l e R s m args below meth c Z own bytes maxL ret n0 s₀ h k j pc' L (.long (-x) :: S) := by
  subst hp; exact G.step fun T locs X eT hx hb t q => XS.lneg X.here hx rfl (Jvm.hb hb hd) rfl  q
theorem Go.i2l {x : Int32} (G : Go p l e R s m args below meth c Z own bytes maxL ret n0 s₀ h k j pc L (.int x :: S)) (hd : decode bytes pc = .ok (.i2l, 1))  {pc' : Nat} (hp : pc + 1 = pc' := by rfl) : Go p l e R s m args below meth c Z own bytes maxL ret n0 s₀ h k j pc' L (.long (x.toInt64) :: S) := by
  subst hp; exact G.step fun T locs X eT hx hb t q => XS.i2l X.here hx rfl (Jvm.hb hb hd) rfl  q
theorem Go.l2i {x : Int64} (G : Go p l e R s m args below meth c Z own bytes maxL ret n0 s₀ h k j pc L (.long x :: S)) (hd : decode bytes pc = .ok (.l2i, 1))  {pc' : Nat} (hp : pc + 1 = pc' := by rfl) : Go p l e R s m args below meth c Z own bytes maxL ret n0 s₀ h k j pc' L (.int (x.toInt32) :: S) := by
  subst hp; exact G.step fun T locs X eT hx hb t q => XS.l2i X.here hx rfl (Jvm.hb hb hd) rfl  q
theorem Go.i2b {x : Int32} (G : Go p l e R s m args below meth c Z own bytes maxL ret n0 s₀ h k j pc L (.int x :: S)) (hd : decode bytes pc = .ok (.i2b, 1))  {pc' : Nat} (hp : pc + 1 = pc' := by rfl) : Go p l e R s m args below meth c Z own bytes maxL ret n0 s₀ h k j pc' L (.int (x.toInt8.toInt32) :: S) := by
  subst hp; exact G.step fun T locs X eT hx hb t q => XS.i2b X.here hx rfl (Jvm.hb hb hd) rfl  q
theorem Go.i2s {x : Int32} (G : Go p l e R s m args below meth c Z own bytes maxL ret n0 s₀ h k j pc L (.int x :: S)) (hd : decode bytes pc = .ok (.i2s, 1))  {pc' : Nat} (hp : pc + 1 = pc' := by rfl) : Go p l e R s m args below meth c Z own bytes maxL ret n0 s₀ h k j pc' L (.int (x.toInt16.toInt32) :: S) := by
  subst hp; exact G.step fun T locs X eT hx hb t q => XS.i2s X.here hx rfl (Jvm.hb hb hd) rfl  q
theorem Go.i2c {x : Int32} (G : Go p l e R s m args below meth c Z own bytes maxL ret n0 s₀ h k j pc L (.int x :: S)) (hd : decode bytes pc = .ok (.i2c, 1))  {pc' : Nat} (hp : pc + 1 = pc' := by rfl) : Go p l e R s m args below meth c Z own bytes maxL ret n0 s₀ h k j pc' L (.int (x.toUInt32.toUInt16.toUInt32.toInt32) :: S) := by
  subst hp; exact G.step fun T locs X eT hx hb t q => XS.i2c X.here hx rfl (Jvm.hb hb hd) rfl  q
theorem Go.lcmp {x y : Int64} (G : Go p l e R s m args below meth c Z own bytes maxL ret n0 s₀ h k j pc L (.long y :: .long x :: S)) (hd : decode bytes pc = .ok (.lcmp, 1))  {pc' : Nat} (hp : pc + 1 = pc' := by rfl) : Go p l e R s m args below meth c Z own bytes maxL ret n0 s₀ h k j pc' L (.int (Jvm.Free.XT.cmpL x y) :: S) := by
  subst hp; exact G.step fun T locs X eT hx hb t q => Jvm.Free.XT.lcmp X.here hx rfl (Jvm.hb hb hd) rfl  q
theorem Go.idiv {x y : Int32} (G : Go p l e R s m args below meth c Z own bytes maxL ret n0 s₀ h k j pc L (.int y :: .int x :: S)) (hd : decode bytes pc = .ok (.idiv, 1)) (hy : y ≠ 0) {pc' : Nat} (hp : pc + 1 = pc' := by rfl) : Go p l e R s m args below meth c Z own bytes maxL ret n0 s₀ h k j pc' L (.int (x / y) :: S) := by
  subst hp; exact G.step fun T locs X eT hx hb t q => XS.idiv X.here hx rfl (Jvm.hb hb hd) rfl hy q
theorem Go.irem {x y : Int32} (G : Go p l e R s m args below meth c Z own bytes maxL ret n0 s₀ h k j pc L (.int y :: .int x :: S)) (hd : decode bytes pc = .ok (.irem, 1)) (hy : y ≠ 0) {pc' : Nat} (hp : pc + 1 = pc' := by rfl) : Go p l e R s m args below meth c Z own bytes maxL ret n0 s₀ h k j pc' L (.int (x % y) :: S) := by
  subst hp; exact G.step fun T locs X eT hx hb t q => iremM X hx rfl (Jvm.hb hb hd) rfl hy q
theorem Go.lrem {x y : Int64} (G : Go p l e R s m args below meth c Z own bytes maxL ret n0 s₀ h k j pc L (.long y :: .long x :: S)) (hd : decode bytes pc = .ok (.lrem, 1)) (hy : y ≠ 0) {pc' : Nat} (hp : pc + 1 = pc' := by rfl) : Go p l e R s m args below meth c Z own bytes maxL ret n0 s₀ h k j pc' L (.long (x % y) :: S) := by
  subst hp; exact G.step fun T locs X eT hx hb t q => XS.lrem X.here hx rfl (Jvm.hb hb hd) rfl hy (by rw [lrem_mod]; exact q)
theorem Go.iconst {i : Int} (v : Int32) (G : Go p l e R s m args below meth c Z own bytes maxL ret n0 s₀ h k j pc L S) (hd : decode bytes pc = .ok (.iconst i, 1)) (hv : Int32.ofInt i = v := by decide) {pc' : Nat} (hp : pc + 1 = pc' := by rfl) : Go p l e R s m args below meth c Z own bytes maxL ret n0 s₀ h k j pc' L (.int v :: S) := by
  subst hp; exact G.step fun T locs X eT hx hb t q => Jvm.Free.XT.iconstV X.here hx rfl v (Jvm.hb hb hd) hv q
theorem Go.bipush {i : Int} (v : Int32) (G : Go p l e R s m args below meth c Z own bytes maxL ret n0 s₀ h k j pc L S) (hd : decode bytes pc = .ok (.bipush i, 2)) (hv : (Int8.ofInt i).toInt32 = v := by decide) {pc' : Nat} (hp : pc + 2 = pc' := by rfl) : Go p l e R s m args below meth c Z own bytes maxL ret n0 s₀ h k j pc' L (.int v :: S) := by
  subst hp; exact G.step fun T locs X eT hx hb t q => Jvm.Free.XT.bipushV X.here hx rfl v (Jvm.hb hb hd) hv q
theorem Go.sipush {i : Int} (v : Int32) (G : Go p l e R s m args below meth c Z own bytes maxL ret n0 s₀ h k j pc L S) (hd : decode bytes pc = .ok (.sipush i, 3)) (hv : (Int16.ofInt i).toInt32 = v := by decide) {pc' : Nat} (hp : pc + 3 = pc' := by rfl) : Go p l e R s m args below meth c Z own bytes maxL ret n0 s₀ h k j pc' L (.int v :: S) := by
  subst hp; exact G.step fun T locs X eT hx hb t q => Jvm.Free.XT.sipushV X.here hx rfl v (Jvm.hb hb hd) hv q
theorem Go.lconst {i : Fin 2} (v : Int64) (G : Go p l e R s m args below meth c Z own bytes maxL ret n0 s₀ h k j pc L S) (hd : decode bytes pc = .ok (.lconst i, 1)) (hv : Int64.ofNat i = v := by decide) {pc' : Nat} (hp : pc + 1 = pc' := by rfl) : Go p l e R s m args below meth c Z own bytes maxL ret n0 s₀ h k j pc' L (.long v :: S) := by
  subst hp; exact G.step fun T locs X eT hx hb t q => Jvm.Free.XT.lconstV X.here hx rfl v (Jvm.hb hb hd) hv q
theorem Go.aconstNull (G : Go p l e R s m args below meth c Z own bytes maxL ret n0 s₀ h k j pc L S) (hd : decode bytes pc = .ok (.aconst_null, 1)) {pc' : Nat} (hp : pc + 1 = pc' := by rfl) : Go p l e R s m args below meth c Z own bytes maxL ret n0 s₀ h k j pc' L (.null :: S) := by
  subst hp; exact G.step fun T locs X eT hx hb t q => XS.aconstNull X.here hx rfl (Jvm.hb hb hd) q
theorem Go.ldc {i : Nat} {v : Int32} (G : Go p l e R s m args below meth c Z own bytes maxL ret n0 s₀ h k j pc L S) (w : (Cond.constant own i v).before a0 Z = true) (hd : decode bytes pc = .ok (.ldc i, 2)) {pc' : Nat} (hp : pc + 2 = pc' := by rfl) : Go p l e R s m args below meth c Z own bytes maxL ret n0 s₀ h k j pc' L (.int v :: S) := by
  subst hp
  obtain ⟨⟨hx, hb, hm, hZ, ho, r⟩, T, locs, X, eT, N, st⟩ := G
  exact ⟨⟨hx, hb, hm, hZ, ho, r⟩, T, locs, X, eT, N, fun t q => st t (X.ldcInt hx ho (mvT hZ w) (g := mkF m pc L S) rfl (Jvm.hb hb hd) t q)⟩
theorem Go.ldc2 {i : Nat} {v : Int64} (G : Go p l e R s m args below meth c Z own bytes maxL ret n0 s₀ h k j pc L S) (w : (Cond.constantLong own i v).before a0 Z = true) (hd : decode bytes pc = .ok (.ldc2_w i, 3)) {pc' : Nat} (hp : pc + 3 = pc' := by rfl) : Go p l e R s m args below meth c Z own bytes maxL ret n0 s₀ h k j pc' L (.long v :: S) := by
  subst hp
  obtain ⟨⟨hx, hb, hm, hZ, ho, r⟩, T, locs, X, eT, N, st⟩ := G
  exact ⟨⟨hx, hb, hm, hZ, ho, r⟩, T, locs, X, eT, N, fun t q => st t (X.ldc2Long hx ho (mvT hZ w) (g := mkF m pc L S) rfl (Jvm.hb hb hd) t q)⟩
theorem Go.iloadN {i : Fin 4} {v : Int32} (G : Go p l e R s m args below meth c Z own bytes maxL ret n0 s₀ h k j pc L S) (hd : decode bytes pc = .ok (.iload_n i, 1)) (hl : L[i.val]? = some (.val (.int v))) {pc' : Nat} (hp : pc + 1 = pc' := by rfl) : Go p l e R s m args below meth c Z own bytes maxL ret n0 s₀ h k j pc' L (.int v :: S) := by
  subst hp; exact G.step fun T locs X eT hx hb t q => XS.iloadN X.here hx rfl (Jvm.hb hb hd) hl q
theorem Go.iload {i : Nat} {v : Int32} (G : Go p l e R s m args below meth c Z own bytes maxL ret n0 s₀ h k j pc L S) (hd : decode bytes pc = .ok (.iload i, 2)) (hl : L[i]? = some (.val (.int v))) {pc' : Nat} (hp : pc + 2 = pc' := by rfl) : Go p l e R s m args below meth c Z own bytes maxL ret n0 s₀ h k j pc' L (.int v :: S) := by
  subst hp; exact G.step fun T locs X eT hx hb t q => XS.iload X.here hx rfl (Jvm.hb hb hd) hl q
theorem Go.lloadN {i : Fin 4} {v : Int64} (G : Go p l e R s m args below meth c Z own bytes maxL ret n0 s₀ h k j pc L S) (hd : decode bytes pc = .ok (.lload_n i, 1)) (hl : L[i.val]? = some (.val (.long v))) {pc' : Nat} (hp : pc + 1 = pc' := by rfl) : Go p l e R s m args below meth c Z own bytes maxL ret n0 s₀ h k j pc' L (.long v :: S) := by
  subst hp; exact G.step fun T locs X eT hx hb t q => XS.lloadN X.here hx rfl (Jvm.hb hb hd) hl q
theorem Go.lload {i : Nat} {v : Int64} (G : Go p l e R s m args below meth c Z own bytes maxL ret n0 s₀ h k j pc L S) (hd : decode bytes pc = .ok (.lload i, 2)) (hl : L[i]? = some (.val (.long v))) {pc' : Nat} (hp : pc + 2 = pc' := by rfl) : Go p l e R s m args below meth c Z own bytes maxL ret n0 s₀ h k j pc' L (.long v :: S) := by
  subst hp; exact G.step fun T locs X eT hx hb t q => XS.lload X.here hx rfl (Jvm.hb hb hd) hl q
theorem Go.aloadN {i : Fin 4} {v : Value} (G : Go p l e R s m args below meth c Z own bytes maxL ret n0 s₀ h k j pc L S) (hd : decode bytes pc = .ok (.aload_n i, 1)) (hl : L[i.val]? = some (.val v)) (hv : v.isRef = true := by rfl) {pc' : Nat} (hp : pc + 1 = pc' := by rfl) : Go p l e R s m args below meth c Z own bytes maxL ret n0 s₀ h k j pc' L (v :: S) := by
  subst hp; exact G.step fun T locs X eT hx hb t q => XS.aloadN X.here hx rfl (Jvm.hb hb hd) hl hv q
theorem Go.aload {i : Nat} {v : Value} (G : Go p l e R s m args below meth c Z own bytes maxL ret n0 s₀ h k j pc L S) (hd : decode bytes pc = .ok (.aload i, 2)) (hl : L[i]? = some (.val v)) (hv : v.isRef = true := by rfl) {pc' : Nat} (hp : pc + 2 = pc' := by rfl) : Go p l e R s m args below meth c Z own bytes maxL ret n0 s₀ h k j pc' L (v :: S) := by
  subst hp; exact G.step fun T locs X eT hx hb t q => XS.aload X.here hx rfl (Jvm.hb hb hd) hl hv q
theorem Go.istoreN {i : Fin 4} {x : Int32} {L' : Array Slot} (G : Go p l e R s m args below meth c Z own bytes maxL ret n0 s₀ h k j pc L (.int x :: S)) (hd : decode bytes pc = .ok (.istore_n i, 1)) (hl : storeLocals L i.val (.int x) = some L') {pc' : Nat} (hp : pc + 1 = pc' := by rfl) : Go p l e R s m args below meth c Z own bytes maxL ret n0 s₀ h k j pc' L' S := by
  subst hp; exact G.step fun T locs X eT hx hb t q => XS.istoreN X.here hx rfl (Jvm.hb hb hd) rfl hl q
theorem Go.istore {i : Nat} {x : Int32} {L' : Array Slot} (G : Go p l e R s m args below meth c Z own bytes maxL ret n0 s₀ h k j pc L (.int x :: S)) (hd : decode bytes pc = .ok (.istore i, 2)) (hl : storeLocals L i (.int x) = some L') {pc' : Nat} (hp : pc + 2 = pc' := by rfl) : Go p l e R s m args below meth c Z own bytes maxL ret n0 s₀ h k j pc' L' S := by
  subst hp; exact G.step fun T locs X eT hx hb t q => XS.istore X.here hx rfl (Jvm.hb hb hd) rfl hl q
theorem Go.lstoreN {i : Fin 4} {x : Int64} {L' : Array Slot} (G : Go p l e R s m args below meth c Z own bytes maxL ret n0 s₀ h k j pc L (.long x :: S)) (hd : decode bytes pc = .ok (.lstore_n i, 1)) (hl : storeLocals L i.val (.long x) = some L') {pc' : Nat} (hp : pc + 1 = pc' := by rfl) : Go p l e R s m args below meth c Z own bytes maxL ret n0 s₀ h k j pc' L' S := by
  subst hp; exact G.step fun T locs X eT hx hb t q => XS.lstoreN X.here hx rfl (Jvm.hb hb hd) rfl hl q
theorem Go.lstore {i : Nat} {x : Int64} {L' : Array Slot} (G : Go p l e R s m args below meth c Z own bytes maxL ret n0 s₀ h k j pc L (.long x :: S)) (hd : decode bytes pc = .ok (.lstore i, 2)) (hl : storeLocals L i (.long x) = some L') {pc' : Nat} (hp : pc + 2 = pc' := by rfl) : Go p l e R s m args below meth c Z own bytes maxL ret n0 s₀ h k j pc' L' S := by
  subst hp; exact G.step fun T locs X eT hx hb t q => XS.lstore X.here hx rfl (Jvm.hb hb hd) rfl hl q
theorem Go.astoreN {i : Fin 4} {x : Value} {L' : Array Slot} (G : Go p l e R s m args below meth c Z own bytes maxL ret n0 s₀ h k j pc L (x :: S)) (hd : decode bytes pc = .ok (.astore_n i, 1)) (hl : storeLocals L i.val x = some L') (hv : x.isRef = true := by rfl) {pc' : Nat} (hp : pc + 1 = pc' := by rfl) : Go p l e R s m args below meth c Z own bytes maxL ret n0 s₀ h k j pc' L' S := by
  subst hp; exact G.step fun T locs X eT hx hb t q => XS.astoreN X.here hx rfl (Jvm.hb hb hd) rfl hv hl q
theorem Go.astore {i : Nat} {x : Value} {L' : Array Slot} (G : Go p l e R s m args below meth c Z own bytes maxL ret n0 s₀ h k j pc L (x :: S)) (hd : decode bytes pc = .ok (.astore i, 2)) (hl : storeLocals L i x = some L') (hv : x.isRef = true := by rfl) {pc' : Nat} (hp : pc + 2 = pc' := by rfl) : Go p l e R s m args below meth c Z own bytes maxL ret n0 s₀ h k j pc' L' S := by
  subst hp; exact G.step fun T locs X eT hx hb t q => XS.astore X.here hx rfl (Jvm.hb hb hd) rfl hv hl q
theorem Go.iinc {i : Nat} {cst : Int} {x : Int32} {L' : Array Slot} (v : Int32) (G : Go p l e R s m args below meth c Z own bytes maxL ret n0 s₀ h k j pc L S) (hd : decode bytes pc = .ok (.iinc i cst, 3)) (hl : L[i]? = some (.val (.int x))) (hl' : storeLocals L i (.int (x + v)) = some L') (hv : Int32.ofInt cst = v := by decide) {pc' : Nat} (hp : pc + 3 = pc' := by rfl) : Go p l e R s m args below meth c Z own bytes maxL ret n0 s₀ h k j pc' L' S := by
  subst hp; exact G.step fun T locs X eT hx hb t q => Jvm.Free.XT.iincV X.here hx rfl v (Jvm.hb hb hd) hv hl hl' q
theorem Go.dup {x : Value} (G : Go p l e R s m args below meth c Z own bytes maxL ret n0 s₀ h k j pc L (x :: S)) (hd : decode bytes pc = .ok (.dup, 1)) (hc : x.category = 1 := by rfl) {pc' : Nat} (hp : pc + 1 = pc' := by rfl) : Go p l e R s m args below meth c Z own bytes maxL ret n0 s₀ h k j pc' L (x :: x :: S) := by
  subst hp; exact G.step fun T locs X eT hx hb t q => XS.dup X.here hx rfl (Jvm.hb hb hd) rfl hc q
theorem Go.pop {x : Value} (G : Go p l e R s m args below meth c Z own bytes maxL ret n0 s₀ h k j pc L (x :: S)) (hd : decode bytes pc = .ok (.pop, 1)) (hc : x.category = 1 := by rfl) {pc' : Nat} (hp : pc + 1 = pc' := by rfl) : Go p l e R s m args below meth c Z own bytes maxL ret n0 s₀ h k j pc' L S := by
  subst hp; exact G.step fun T locs X eT hx hb t q => XS.pop X.here hx rfl (Jvm.hb hb hd) rfl hc q
theorem Go.dupX1 {x y : Value} (G : Go p l e R s m args below meth c Z own bytes maxL ret n0 s₀ h k j pc L (x :: y :: S)) (hd : decode bytes pc = .ok (.dup_x1, 1)) (hc : x.category = 1 := by rfl) (hc2 : y.category = 1 := by rfl) {pc' : Nat} (hp : pc + 1 = pc' := by rfl) : Go p l e R s m args below meth c Z own bytes maxL ret n0 s₀ h k j pc' L (x :: y :: x :: S) := by
  subst hp; exact G.step fun T locs X eT hx hb t q => XS.dupX1 X.here hx rfl (Jvm.hb hb hd) rfl hc hc2 q
theorem Go.dup2 {x y : Value} (G : Go p l e R s m args below meth c Z own bytes maxL ret n0 s₀ h k j pc L (x :: y :: S)) (hd : decode bytes pc = .ok (.dup2, 1)) (hc : x.category = 1 := by rfl) (hc2 : y.category = 1 := by rfl) {pc' : Nat} (hp : pc + 1 = pc' := by rfl) : Go p l e R s m args below meth c Z own bytes maxL ret n0 s₀ h k j pc' L (x :: y :: x :: y :: S) := by
  subst hp; exact G.step fun T locs X eT hx hb t q => Jvm.Free.XT.dup2 X.here hx rfl (Jvm.hb hb hd) rfl hc hc2 q
theorem Go.goto {o : Int} (G : Go p l e R s m args below meth c Z own bytes maxL ret n0 s₀ h k j pc L S) (hd : decode bytes pc = .ok (.goto o, 3)) (pc' : Nat) (ho : 0 ≤ (pc : Int) + o := by decide) (hp : ((pc : Int) + o).toNat = pc' := by decide) : Go p l e R s m args below meth c Z own bytes maxL ret n0 s₀ h k j pc' L S := by
  exact G.step fun T locs X eT hx hb t q => XS.goto X.here hx rfl (pc0 := pc) (pc' := pc') rfl (Jvm.hb hb hd) ho hp q
theorem Go.ifY {cd : ClassFile.Cond} {o : Int} {x : Int32} (G : Go p l e R s m args below meth c Z own bytes maxL ret n0 s₀ h k j pc L (.int x :: S)) (hd : decode bytes pc = .ok (.ifCond cd o, 3)) (pc' : Nat) (hc : ifCond.holds cd x = true) (ho : 0 ≤ (pc : Int) + o := by decide) (hp : ((pc : Int) + o).toNat = pc' := by decide) : Go p l e R s m args below meth c Z own bytes maxL ret n0 s₀ h k j pc' L S := by
  exact G.step fun T locs X eT hx hb t q => XS.ifYes X.here hx rfl (pc0 := pc) (pc' := pc') rfl (Jvm.hb hb hd) rfl hc ho hp q
theorem Go.ifN {cd : ClassFile.Cond} {o : Int} {x : Int32} (G : Go p l e R s m args below meth c Z own bytes maxL ret n0 s₀ h k j pc L (.int x :: S)) (hd : decode bytes pc = .ok (.ifCond cd o, 3)) (pc' : Nat) (hc : ifCond.holds cd x = false) (hp : pc + 3 = pc' := by rfl) : Go p l e R s m args below meth c Z own bytes maxL ret n0 s₀ h k j pc' L S := by
  subst hp; exact G.step fun T locs X eT hx hb t q => XS.ifNo X.here hx rfl (Jvm.hb hb hd) rfl hc q
theorem Go.icmpY {cd : ClassFile.Cond} {o : Int} {x y : Int32} (G : Go p l e R s m args below meth c Z own bytes maxL ret n0 s₀ h k j pc L (.int y :: .int x :: S)) (hd : decode bytes pc = .ok (.if_icmp cd o, 3)) (pc' : Nat) (hc : if_icmp.holds cd x y = true) (ho : 0 ≤ (pc : Int) + o := by decide) (hp : ((pc : Int) + o).toNat = pc' := by decide) : Go p l e R s m args below meth c Z own bytes maxL ret n0 s₀ h k j pc' L S := by
  exact G.step fun T locs X eT hx hb t q => XS.icmpYes X.here hx rfl (pc0 := pc) (pc' := pc') rfl (Jvm.hb hb hd) rfl hc ho hp q
theorem Go.icmpN {cd : ClassFile.Cond} {o : Int} {x y : Int32} (G : Go p l e R s m args below meth c Z own bytes maxL ret n0 s₀ h k j pc L (.int y :: .int x :: S)) (hd : decode bytes pc = .ok (.if_icmp cd o, 3)) (pc' : Nat) (hc : if_icmp.holds cd x y = false) (hp : pc + 3 = pc' := by rfl) : Go p l e R s m args below meth c Z own bytes maxL ret n0 s₀ h k j pc' L S := by
  subst hp; exact G.step fun T locs X eT hx hb t q => XS.icmpNo X.here hx rfl (Jvm.hb hb hd) rfl hc q
theorem Go.ifnullY {o : Int} (G : Go p l e R s m args below meth c Z own bytes maxL ret n0 s₀ h k j pc L (.null :: S)) (hd : decode bytes pc = .ok (.ifnull o, 3)) (pc' : Nat) (ho : 0 ≤ (pc : Int) + o := by decide) (hp : ((pc : Int) + o).toNat = pc' := by decide) : Go p l e R s m args below meth c Z own bytes maxL ret n0 s₀ h k j pc' L S := by
  exact G.step fun T locs X eT hx hb t q => XS.ifnullYes X.here hx rfl (pc0 := pc) (pc' := pc') rfl (Jvm.hb hb hd) rfl ho hp q
theorem Go.ifnullN {o : Int} {b : Addr} (G : Go p l e R s m args below meth c Z own bytes maxL ret n0 s₀ h k j pc L (.ref b :: S)) (hd : decode bytes pc = .ok (.ifnull o, 3)) (pc' : Nat) (hp : pc + 3 = pc' := by rfl) : Go p l e R s m args below meth c Z own bytes maxL ret n0 s₀ h k j pc' L S := by
  subst hp; exact G.step fun T locs X eT hx hb t q => XS.ifnullNo X.here hx rfl (Jvm.hb hb hd) rfl q
theorem Go.ifnonnullY {o : Int} {b : Addr} (G : Go p l e R s m args below meth c Z own bytes maxL ret n0 s₀ h k j pc L (.ref b :: S)) (hd : decode bytes pc = .ok (.ifnonnull o, 3)) (pc' : Nat) (ho : 0 ≤ (pc : Int) + o := by decide) (hp : ((pc : Int) + o).toNat = pc' := by decide) : Go p l e R s m args below meth c Z own bytes maxL ret n0 s₀ h k j pc' L S := by
  exact G.step fun T locs X eT hx hb t q => XS.ifnonnullYes X.here hx rfl (pc0 := pc) (pc' := pc') rfl (Jvm.hb hb hd) rfl ho hp q
theorem Go.ifnonnullN {o : Int} (G : Go p l e R s m args below meth c Z own bytes maxL ret n0 s₀ h k j pc L (.null :: S)) (hd : decode bytes pc = .ok (.ifnonnull o, 3)) (pc' : Nat) (hp : pc + 3 = pc' := by rfl) : Go p l e R s m args below meth c Z own bytes maxL ret n0 s₀ h k j pc' L S := by
  subst hp; exact G.step fun T locs X eT hx hb t q => XS.ifnonnullNo X.here hx rfl (Jvm.hb hb hd) rfl q
theorem Go.out {w : Value} {t : FieldType} {i : Instr} {kc js : Nat} {Q : Option Value → Heap → Prop} (G : Go p l e R s m args below meth c Z own bytes maxL ret n0 s₀ h k j pc L (w :: S)) (hr : ret = some t) (hn : narrow t w = w)
    (hi : (i = .ireturn ∧ (t = .int ∨ t = .boolean ∨ t = .byte ∨ t = .char ∨ t = .short) ∧ ∃ z, w = .int z) ∨ (i = .lreturn ∧ t = .long ∧ ∃ z, w = .long z) ∨ (i = .dreturn ∧ t = .double ∧ ∃ z, w = .double z) ∨ (i = .freturn ∧ t = .float ∧ ∃ z, w = .float z) ∨ (i = .areturn ∧ t.isReference = true ∧ w.isRef = true))
    (hd : decode bytes pc = .ok (i, 1)) (hQ : Q (some w) h) (hk : k ≤ kc) (hj : j ≤ js) : Fini p e below s s₀ n0 kc js Q := by
  obtain ⟨⟨hx, hb, hm, hZ, ho, hret, hlk, hn0⟩, T, locs, X, eT, N, st⟩ := G
  subst hr
  obtain ⟨fs, hr, hrun, hended, hW, hsame⟩ := X.leave (v := some w) (fun h => by rw [hret] at h; cases h) hlk
  exact ⟨_, _, st _ (retOut X hx hret hn hi (Jvm.hb hb hd) hr), hrun, hended, _, _, rfl, ⟨by show Q _ T.heap; rw [eT]; exact hQ, N⟩, ⟨_, rfl⟩, hW, hsame.mono hk hj⟩
theorem Go.retI {z : Int32} {kc js : Nat} {Q : Option Value → Heap → Prop} (G : Go p l e R s m args below meth c Z own bytes maxL ret n0 s₀ h k j pc L (.int z :: S)) (hd : decode bytes pc = .ok (.ireturn, 1)) (hr : ret = some .int) (hQ : Q (some (.int z)) h) (hk : k ≤ kc := by decide) (hj : j ≤ js := by decide) : Fini p e below s s₀ n0 kc js Q :=
  G.out hr rfl (Or.inl ⟨rfl, Or.inl rfl, z, rfl⟩) hd hQ hk hj
theorem Go.retS {z : Int32} {t : FieldType} {kc js : Nat} {Q : Option Value → Heap → Prop} (G : Go p l e R s m args below meth c Z own bytes maxL ret n0 s₀ h k j pc L (.int z :: S)) (hd : decode bytes pc = .ok (.ireturn, 1)) (hr : ret = some t) (ht : t = .int ∨ t = .boolean ∨ t = .byte ∨ t = .char ∨ t = .short) (hn : narrow t (.int z) = .int z) (hQ : Q (some (.int z)) h) (hk : k ≤ kc := by decide) (hj : j ≤ js := by decide) : Fini p e below s s₀ n0 kc js Q :=
  G.out hr hn (Or.inl ⟨rfl, ht, z, rfl⟩) hd hQ hk hj
theorem Go.retZ {z : Int32} {kc js : Nat} {Q : Option Value → Heap → Prop} (G : Go p l e R s m args below meth c Z own bytes maxL ret n0 s₀ h k j pc L (.int z :: S)) (hd : decode bytes pc = .ok (.ireturn, 1)) (hr : ret = some .boolean) (hn : z = 0 ∨ z = 1) (hQ : Q (some (.int z)) h) (hk : k ≤ kc := by decide) (hj : j ≤ js := by decide) : Fini p e below s s₀ n0 kc js Q :=
  G.out hr (by rcases hn with rfl | rfl <;> rfl) (Or.inl ⟨rfl, Or.inr (Or.inl rfl), z, rfl⟩) hd hQ hk hj
theorem Go.retJ {z : Int64} {kc js : Nat} {Q : Option Value → Heap → Prop} (G : Go p l e R s m args below meth c Z own bytes maxL ret n0 s₀ h k j pc L (.long z :: S)) (hd : decode bytes pc = .ok (.lreturn, 1)) (hr : ret = some .long) (hQ : Q (some (.long z)) h) (hk : k ≤ kc := by decide) (hj : j ≤ js := by decide) : Fini p e below s s₀ n0 kc js Q :=
  G.out hr rfl (Or.inr (Or.inl ⟨rfl, rfl, z, rfl⟩)) hd hQ hk hj
theorem Go.retA {a : Addr} {t : FieldType} {kc js : Nat} {Q : Option Value → Heap → Prop} (G : Go p l e R s m args below meth c Z own bytes maxL ret n0 s₀ h k j pc L (.ref a :: S)) (hd : decode bytes pc = .ok (.areturn, 1)) (hr : ret = some t) (ht : t.isReference = true) (hn : narrow t (.ref a) = .ref a) (hQ : Q (some (.ref a)) h) (hk : k ≤ kc := by decide) (hj : j ≤ js := by decide) : Fini p e below s s₀ n0 kc js Q :=
  G.out hr hn (Or.inr (Or.inr (Or.inr (Or.inr ⟨rfl, ht, rfl⟩)))) hd hQ hk hj
theorem Go.retV {kc js : Nat} {Q : Option Value → Heap → Prop} (G : Go p l e R s m args below meth c Z own bytes maxL ret n0 s₀ h k j pc L []) (hd : decode bytes pc = .ok (.return_, 1)) (hr : ret = none) (hQ : Q none h) (hk : k ≤ kc := by decide) (hj : j ≤ js := by decide) : Fini p e below s s₀ n0 kc js Q := by
  obtain ⟨⟨hx, hb, hm, hZ, ho, hret, hlk, hn0⟩, T, locs, X, eT, N, st⟩ := G
  subst hr
  obtain ⟨fs, hr, hrun, hended, hW, hsame⟩ := X.leave (v := none) (fun _ => rfl) hlk
  exact ⟨_, _, st _ (X.returnOut hx hret (Jvm.hb hb hd) hr), hrun, hended, _, _, rfl, ⟨by show Q _ T.heap; rw [eT]; exact hQ, N⟩, ⟨_, rfl⟩, hW, hsame.mono hk hj⟩
theorem Go.callS {S0 argsL rest : List Value} {y : MethodName} {bytes' : ByteArray} {maxL' : Nat} {ret' r : Option FieldType} {ps : List FieldType} {rm : Room} {index : Nat} {Q : Option Value → Heap → Prop} (G : Go p l e R s m args below meth c Z own bytes maxL ret n0 s₀ h k j pc L S0) (C : Con l y bytes' maxL' ret' [] rm rm.cells rm.slots Z argsL.toArray h n0 Q) (hS : S0 = argsL.reverse ++ rest)
    (w1 : (Cond.methodLink own index y).before a0 Z = true) (w2 : (Cond.static y).before a0 Z = true) (w3 : (Cond.initialized y.cls).before a0 Z = true) (w4 : (Cond.code y bytes' maxL' ret').before a0 Z = true) (hy : y.cls ≠ "java/lang/invoke/MethodHandle" ∧ y.cls ≠ "java/lang/invoke/VarHandle")
    (hd : decode bytes pc = .ok (.invokestatic index, 3)) (hpd : parseMethodDescriptor y.desc = some ⟨ps, r⟩) (hl : argsL.length = ps.length) {W : Nat} (hW : (rest.map fun v => v.category).sum = W) (hL : L.size = maxL) (hf : rm.frames + 1 ≤ R.frames) (hlo : W + (maxL' + 11) + rm.locals ≤ R.locals) (hc : k + rm.cells ≤ R.cells) (hs : j + rm.slots ≤ R.slots) {pc' k' j' : Nat} (hp : pc + 3 = pc') (hk' : k + rm.cells = k') (hj' : j + rm.slots = j') :
    ∃ v h', Q v h' ∧ ∀ S', v.toList ++ rest = S' → Go p l e R s m args below meth c Z own bytes maxL ret n0 s₀ h' k' j' pc' L S' := by
  subst hp hk' hj' hS
  obtain ⟨⟨hx, hb, hm, hZ, ho, hret, hlk, hn0⟩, T, locs, X, eT, N, st⟩ := G
  obtain ⟨v, _, ⟨T', L', k', n'⟩, -, X', ⟨Lc, hQ, l', y', z'⟩, st'⟩ := Jvm.LawKit.callS X hx (y := y) ho (mvT hZ w1) (mvT hZ w2) (mvT hZ w3) (mvT hZ w4) hy (backOf (W := W) (R := R) (rm := rm) (Q := fun v h L => Q v h ∧ Fr n0 L) C hZ w4 w3 hf hlo) (g := mkF m pc L (argsL.reverse ++ rest)) rfl (by rw [hm]; exact hL) (argsL := argsL) (rest := rest) (lenOf hpd hl) rfl (by show 2 * 0 + _ ≤ _; omega) (Jvm.hb hb hd) (fun _ _ => ⟨rfl, eT, hc, hs⟩)
  dsimp only [Pt.U, Pt.locs, Pt.cells, Pt.slots] at X' l' y' z' st' hQ
  subst l' y' z'
  refine ⟨v, T'.heap, hQ.1, fun S' e => ?_⟩
  subst e
  exact ⟨⟨hx, hb, hm, hZ, ho, hret, hlk, hn0⟩, T', _, X', rfl, Fr.app N hQ.2, fun t q => st t (st' t q)⟩
theorem Go.callI {S0 argsL rest : List Value} {y : MethodName} {bytes' : ByteArray} {maxL' : Nat} {r : Option FieldType} {ps : List FieldType} {rm : Room} {index : Nat} {Q : Option Value → Heap → Prop} {a : Addr} (G : Go p l e R s m args below meth c Z own bytes maxL ret n0 s₀ h k j pc L S0) (C : Con l y bytes' maxL' none [] rm rm.cells rm.slots Z (.ref a :: argsL).toArray h n0 Q) (hS : S0 = argsL.reverse ++ .ref a :: rest) (hyn : y.name = "<init>")
    (w1 : (Cond.methodLink own index y).before a0 Z = true) (w2 : (Cond.instanceMethod y).before a0 Z = true) (w3 : (Cond.initialized y.cls).before a0 Z = true) (w4 : (Cond.code y bytes' maxL' none).before a0 Z = true) (hy : y.cls ≠ "java/lang/invoke/MethodHandle" ∧ y.cls ≠ "java/lang/invoke/VarHandle")
    (hd : decode bytes pc = .ok (.invokespecial index, 3)) (hpd : parseMethodDescriptor y.desc = some ⟨ps, r⟩) (hl : argsL.length = ps.length) {W : Nat} (hW : (rest.map fun v => v.category).sum = W) (hL : L.size = maxL) (hf : rm.frames + 1 ≤ R.frames) (hlo : W + (maxL' + 11) + rm.locals ≤ R.locals) (hc : k + rm.cells ≤ R.cells) (hs : j + rm.slots ≤ R.slots) {pc' k' j' : Nat} (hp : pc + 3 = pc') (hk' : k + rm.cells = k') (hj' : j + rm.slots = j') :
    ∃ v h', Q v h' ∧ ∀ S', v.toList ++ rest = S' → Go p l e R s m args below meth c Z own bytes maxL ret n0 s₀ h' k' j' pc' L S' := by
  subst hp hk' hj' hS
  obtain ⟨⟨hx, hb, hm, hZ, ho, hret, hlk, hn0⟩, T, locs, X, eT, N, st⟩ := G
  obtain ⟨v, _, ⟨T', L', k', n'⟩, -, X', ⟨Lc, hQ, l', y', z'⟩, st'⟩ := X.specialBack hx (y := y) hyn ho (mvT hZ w1) (mvT hZ w2) (mvT hZ w4) hy (backOf (W := W) (R := R) (rm := rm) (Q := fun v h L => Q v h ∧ Fr n0 L) C hZ w4 w3 hf hlo) (g := mkF m pc L (argsL.reverse ++ .ref a :: rest)) rfl (by rw [hm]; exact hL) (Steps.refl _) (a := a) (argsL := argsL) (rest := rest) (lenOf hpd hl) rfl (by show 2 * 0 + _ ≤ _; omega) (Jvm.hb hb hd) (fun _ _ => ⟨rfl, eT, hc, hs⟩)
  dsimp only [Pt.U, Pt.locs, Pt.cells, Pt.slots] at X' l' y' z' st' hQ
  subst l' y' z'
  refine ⟨v, T'.heap, hQ.1, fun S' e => ?_⟩
  subst e
  exact ⟨⟨hx, hb, hm, hZ, ho, hret, hlk, hn0⟩, T', _, X', rfl, Fr.app N hQ.2, fun t q => st t (st'.trans q)⟩
theorem Go.callV {S0 argsL rest : List Value} {y : MethodName} {bytes' : ByteArray} {maxL' : Nat} {ret' r : Option FieldType} {ps : List FieldType} {rm : Room} {index : Nat} {Q : Option Value → Heap → Prop} {a : Addr} {K : String} (G : Go p l e R s m args below meth c Z own bytes maxL ret n0 s₀ h k j pc L S0) (C : Con l y bytes' maxL' ret' [] rm rm.cells rm.slots Z (.ref a :: argsL).toArray h n0 Q) (hS : S0 = argsL.reverse ++ .ref a :: rest) (E : Exa Z h a K)
    (w1 : (Cond.methodLink own index y).before a0 Z = true) (w1' : (Cond.declares y).before a0 Z = true) (w1'' : (Cond.selects K y y).before a0 Z = true) (w2 : (Cond.instanceMethod y).before a0 Z = true) (w3 : (Cond.initialized y.cls).before a0 Z = true) (w4 : (Cond.code y bytes' maxL' ret').before a0 Z = true) (hy : y.cls ≠ "java/lang/invoke/MethodHandle" ∧ y.cls ≠ "java/lang/invoke/VarHandle")
    (hd : decode bytes pc = .ok (.invokevirtual index, 3)) (hpd : parseMethodDescriptor y.desc = some ⟨ps, r⟩) (hl : argsL.length = ps.length) {W : Nat} (hW : (rest.map fun v => v.category).sum = W) (hL : L.size = maxL) (hf : rm.frames + 1 ≤ R.frames) (hlo : W + (maxL' + 11) + rm.locals ≤ R.locals) (hc : k + rm.cells ≤ R.cells) (hs : j + rm.slots ≤ R.slots) {pc' k' j' : Nat} (hp : pc + 3 = pc') (hk' : k + rm.cells = k') (hj' : j + rm.slots = j') :
    ∃ v h', Q v h' ∧ ∀ S', v.toList ++ rest = S' → Go p l e R s m args below meth c Z own bytes maxL ret n0 s₀ h' k' j' pc' L S' := by
  subst hp hk' hj' hS
  obtain ⟨⟨hx, hb, hm, hZ, ho, hret, hlk, hn0⟩, T, locs, X, eT, N, st⟩ := G
  obtain ⟨cq, kq, q1, q2, q3⟩ := isOf hZ eT E
  obtain ⟨v, _, ⟨T', L', k', n'⟩, -, X', ⟨Lc, hQ, l', y', z'⟩, st'⟩ := X.virtualBack hx (y := y) (z := y) ho (mvT hZ w1) (mvT hZ w1') (notFace_of_selects (args := #[]) (mvT hZ w1'')) (mvT hZ w1'') (mvT hZ w2) hy (backOf (W := W) (R := R) (rm := rm) (Q := fun v h L => Q v h ∧ Fr n0 L) C hZ w4 w3 hf hlo) q1 q3 (g := mkF m pc L (argsL.reverse ++ .ref a :: rest)) rfl (by rw [hm]; exact hL) (Steps.refl _) (argsL := argsL) (rest := rest) (lenOf hpd hl) rfl (by show 2 * 0 + _ ≤ _; omega) (Jvm.hb hb hd) (fun _ _ => ⟨rfl, eT, hc, hs⟩)
  dsimp only [Pt.U, Pt.locs, Pt.cells, Pt.slots] at X' l' y' z' st' hQ
  subst l' y' z'
  refine ⟨v, T'.heap, hQ.1, fun S' e => ?_⟩
  subst e
  exact ⟨⟨hx, hb, hm, hZ, ho, hret, hlk, hn0⟩, T', _, X', rfl, Fr.app N hQ.2, fun t q => st t (st'.trans q)⟩
theorem Go.initO {a : Addr} {index : Nat} (G : Go p l e R s m args below meth c Z own bytes maxL ret n0 s₀ h k j pc L (.ref a :: S)) (w1 : (Cond.methodLink own index Lib.objectInit).before a0 Z = true) (w2 : (Cond.instanceMethod Lib.objectInit).before a0 Z = true) (w3 : (Cond.code Lib.objectInit Jvm.LibCode.Object.Init0.code 1 none).before a0 Z = true) (hd : decode bytes pc = .ok (.invokespecial index, 3)) {W : Nat} (hW : (S.map fun v => v.category).sum = W) (hL : L.size = maxL) (hf : 1 ≤ R.frames) (hlo : W + 12 ≤ R.locals) {pc' : Nat} (hp : pc + 3 = pc' := by rfl) : Go p l e R s m args below meth c Z own bytes maxL ret n0 s₀ h k j pc' L S := by
  subst hp
  obtain ⟨⟨hx, hb, hm, hZ, ho, r⟩, T, locs, X, eT, N, st⟩ := G
  obtain ⟨T', X', e', st'⟩ := Jvm.RoadKit.initO X hx hZ ho w1 w2 w3 eT (g := mkF m pc L (.ref a :: S)) rfl (by rw [hm]; exact hL) rfl (Jvm.hb hb hd) hf (W := W) (by show 2 * 0 + _ ≤ _; omega) hlo
  exact ⟨⟨hx, hb, hm, hZ, ho, r⟩, T', locs, X', e', N, fun t q => st t (st' t q)⟩
theorem Go.newO {C : String} {index n : Nat} (G : Go p l e R s m args below meth c Z own bytes maxL ret n0 s₀ h k j pc L S) (w1 : (Cond.classLink own index C).before a0 Z = true) (w2 : (Cond.instantiable C n).before a0 Z = true) (w3 : (Cond.initialized C).before a0 Z = true) (hd : decode bytes pc = .ok (.new index, 3)) {pc' k' j' : Nat} (hp : pc + 3 = pc') (hk : k + 1 = k') (hj : j + n = j') (hc : k' ≤ R.cells) (hl : j' ≤ R.slots) :
    ∃ a h', a = h.size ∧ n0 ≤ a ∧ Ext h h' ∧ Exa Z h' a C ∧ (∀ {O nm d : String} {ty : FieldType}, Laid Z a0 C O nm d → parseFieldDescriptor d = some ty → Fld Z h' a O nm d (defaultValue ty)) ∧ Go p l e R s m args below meth c Z own bytes maxL ret n0 s₀ h' k' j' pc' L (.ref a :: S) := by
  have hsz := G.size
  subst hp hk hj
  obtain ⟨⟨hx, hb, hm, hZ, ho, r⟩, T, locs, X, eT, N, st⟩ := G
  obtain ⟨T2, h2, X2, e2, E2, A2, D2, -, st2⟩ := Jvm.RoadKit.newO X hx hZ ho w1 w2 w3 eT (g := mkF m pc L S) rfl (Jvm.hb hb hd) hc hl
  exact ⟨h.size, h2, rfl, hsz, E2, A2, D2, ⟨hx, hb, hm, hZ, ho, r⟩, T2, locs, X2, e2, N, fun t q => st t (st2 t q)⟩
theorem Go.getF {a : Addr} {R0 O n d host : String} {index : Nat} {v : Value} (G : Go p l e R s m args below meth c Z own bytes maxL ret n0 s₀ h k j pc L (.ref a :: S)) (w : (Cond.fieldLink own index R0 n d).before a0 Z = true ∨ (Cond.fieldLinkNest own index R0 n d host).before a0 Z = true) (via : Via Z R0 O n d) (F : Fld Z h a O n d v) (hd : decode bytes pc = .ok (.getfield index, 3)) {pc' : Nat} (hp : pc + 3 = pc' := by rfl) : Go p l e R s m args below meth c Z own bytes maxL ret n0 s₀ h k j pc' L (v :: S) := by
  subst hp
  obtain ⟨⟨hx, hb, hm, hZ, ho, r⟩, T, locs, X, eT, N, st⟩ := G
  obtain ⟨T', X', e', st'⟩ := Jvm.RoadKit.getF X hx hZ ho w via eT F (g := mkF m pc L (.ref a :: S)) rfl rfl (Jvm.hb hb hd)
  exact ⟨⟨hx, hb, hm, hZ, ho, r⟩, T', locs, X', e', N, fun t q => st t (st' t q)⟩
theorem Go.putF {a : Addr} {R0 O n d host C : String} {index kk : Nat} {ty : FieldType} {v old : Value} (G : Go p l e R s m args below meth c Z own bytes maxL ret n0 s₀ h k j pc L (v :: .ref a :: S)) (w : (Cond.fieldLink own index R0 n d).before a0 Z = true ∨ (Cond.fieldLinkNest own index R0 n d host).before a0 Z = true) (via : Via Z R0 O n d) (F : Fld Z h a O n d old) (E : Exa Z h a C) (ha : n0 ≤ a) (Ly : (Cond.lays C O n d).before a0 Z = true ∨ ((Cond.laysFinal C O n d).before a0 Z = true ∧ own = O ∧ meth.name = "<init>")) (wi : (Cond.instantiable C kk).before a0 Z = true) (hty : parseFieldDescriptor d = some ty) (hn : narrow ty v = v) (hf : fits ty v = true) (hd : decode bytes pc = .ok (.putfield index, 3)) {pc' : Nat} (hp : pc + 3 = pc' := by rfl) :
    ∃ h', Wr h h' a (Jvm.RoadKit.slotOf Z O n d) v ∧ Go p l e R s m args below meth c Z own bytes maxL ret n0 s₀ h' k j pc' L S := by
  subst hp
  obtain ⟨⟨hx, hb, hm, hZ, ho, r⟩, T, locs, X, eT, N, st⟩ := G
  obtain ⟨T', h', X', e', W', st'⟩ := Jvm.RoadKit.putF X hx hZ ho w via eT F E Ly wi hty hn hf (g := mkF m pc L (v :: .ref a :: S)) rfl rfl (Jvm.hb hb hd)
  exact ⟨h', W', ⟨hx, hb, hm, hZ, ho, r⟩, T', _, X', e', Fr.snoc X' N ha, fun t q => st t (st' t q)⟩
/-- an array of that kind whose places hold these values -/
def Av (Z : State) (h : Heap) (a : Addr) (ty : FieldType) (vs : List Value) : Prop := ∃ c : Cell, Arr Z h a c ty ∧ c.slots.toList = vs ∧ vs.length < 2 ^ 31 ∧ ∀ v ∈ vs, fits ty v = true
theorem Av.lt {a : Addr} {ty : FieldType} {vs : List Value} (A : Av Z h a ty vs) : a < h.size := by obtain ⟨c, A, -⟩ := A; exact A.lt
theorem Av.len {a : Addr} {ty : FieldType} {vs : List Value} (A : Av Z h a ty vs) : vs.length < 2 ^ 31 := by obtain ⟨c, _, _, q, _⟩ := A; exact q
theorem Av.fit {a : Addr} {ty : FieldType} {vs : List Value} (A : Av Z h a ty vs) : ∀ v ∈ vs, fits ty v = true := by obtain ⟨c, _, _, _, q⟩ := A; exact q
theorem Av.ext {h' : Heap} {a : Addr} {ty : FieldType} {vs : List Value} (A : Av Z h a ty vs) (E : Ext h h') : Av Z h' a ty vs := by obtain ⟨c, A, q⟩ := A; exact ⟨c, A.ext E, q⟩
theorem Av.other {h' : Heap} {a b : Addr} {sl : Nat} {v : Value} {ty : FieldType} {vs : List Value} (A : Av Z h b ty vs) (W : Wr h h' a sl v) (q : b ≠ a) : Av Z h' b ty vs := by obtain ⟨c, A, r⟩ := A; exact ⟨c, A.other W q, r⟩
theorem Av.keep {h' : Heap} {a : Addr} {ws : List Addr} {ty : FieldType} {vs : List Value} (A : Av Z h a ty vs) (K : Keep h h' ws) (q : a ∉ ws) : Av Z h' a ty vs := by obtain ⟨c, A, r⟩ := A; exact ⟨c, ⟨K.2.1 a c A.1 q, A.2⟩, r⟩
theorem Av.set {h' : Heap} {a : Addr} {i : Nat} {v : Value} {ty : FieldType} {vs : List Value} (A : Av Z h a ty vs) (W : Wr h h' a i v) (hf : fits ty v = true) : Av Z h' a ty (vs.set i v) := by
  obtain ⟨c, A, rfl, r, f⟩ := A
  exact ⟨c.setSlot i v, A.same W, by simp [Cell.setSlot], by simpa using r, fun x hx => (List.mem_or_eq_of_mem_set hx).elim (f x) fun q => q ▸ hf⟩
theorem idx_of {x : Int32} {i n : Nat} (hx : x.toInt = (i : Int)) (hi : i < n) : ¬ (x < 0 ∨ n ≤ x.toNatClampNeg) ∧ x.toNatClampNeg = i := by
  have e : x.toNatClampNeg = i := by show x.toInt.toNat = i; omega
  refine ⟨?_, e⟩
  rw [e, Int32.lt_iff_toInt_lt, hx]
  show ¬ (((i : Nat) : Int) < 0 ∨ n ≤ i)
  omega
theorem Go.newA {n : Int32} {aty : ArrayType} {ty : FieldType} {dv : Value} {N cap : Nat} (G : Go p l e R s m args below meth c Z own bytes maxL ret n0 s₀ h k j pc L (.int n :: S)) (w : (Cond.arrayClass ty).before a0 Z = true) (hd : decode bytes pc = .ok (.newarray aty, 2)) (hty : newarray.typeOf aty = ty) (hdv : defaultValue ty = dv) (hn : n.toInt = (N : Int)) (hN : N ≤ cap) (hb : cap * 8 ≤ 536870912) {pc' k' j' : Nat} (hp : pc + 2 = pc') (hk : k + 1 = k') (hj : j + cap = j') (hc : k' ≤ R.cells) (hl : j' ≤ R.slots) :
    ∃ a h', a = h.size ∧ n0 ≤ a ∧ Ext h h' ∧ Av Z h' a ty (List.replicate N dv) ∧ Go p l e R s m args below meth c Z own bytes maxL ret n0 s₀ h' k' j' pc' L (.ref a :: S) := by
  have hsz := G.size
  have e1 : n.toNatClampNeg = N := by show n.toInt.toNat = N; omega
  have e2 := n.toInt_lt
  subst hp hk hj hty hdv
  obtain ⟨⟨hx, hb', hm, hZ, ho, r⟩, T, locs, X, eT, N', st⟩ := G
  obtain ⟨T2, h2, cA, X2, e3, E2, A2, st2⟩ := Jvm.RoadKit.newP X hx hZ w eT (g := mkF m pc L (.int n :: S)) rfl (Jvm.hb hb' hd) rfl (by rw [Int32.lt_iff_toInt_lt, hn]; show ¬ ((N : Nat) : Int) < 0; omega) (cap := cap) (by rw [e1]; exact hN) hb hc hl
  exact ⟨h.size, h2, rfl, hsz, E2, ⟨_, A2, by rw [Jvm.RoadKit.newA, e1]; simp, by rw [List.length_replicate]; omega, fun v hv => by rw [List.eq_of_mem_replicate hv]; cases aty <;> rfl⟩, ⟨hx, hb', hm, hZ, ho, r⟩, T2, locs, X2, e3, N', fun t q => st t (st2 t q)⟩
theorem Go.stI {a : Addr} {x : Int32} {y : Int32} {i : Nat} {vs : List Value} (G : Go p l e R s m args below meth c Z own bytes maxL ret n0 s₀ h k j pc L (.int x :: .int y :: .ref a :: S)) (A : Av Z h a .int vs) (ha : n0 ≤ a) (hy : y.toInt = (i : Int)) (hi : i < vs.length) (hd : decode bytes pc = .ok (.iastore, 1)) {pc' : Nat} (hp : pc + 1 = pc' := by rfl) :
    ∃ h', Wr h h' a i (.int x) ∧ Av Z h' a .int (vs.set i (.int x)) ∧ Go p l e R s m args below meth c Z own bytes maxL ret n0 s₀ h' k j pc' L S := by
  have A0 := A
  obtain ⟨cl, Ar, rfl, hlen, -⟩ := A
  rw [Array.length_toList] at hi
  have ⟨i1, i2⟩ := idx_of hy hi
  subst hp
  obtain ⟨⟨hx, hb, hm, hZ, ho, r⟩, T, locs, X, eT, N, st⟩ := G
  obtain ⟨T', h', X', e', W', st'⟩ := Jvm.RoadKit.stI X hx hZ eT Ar i1 (g := mkF m pc L (.int x :: .int y :: .ref a :: S)) rfl rfl (Jvm.hb hb hd)
  have N' := Fr.snoc X' N ha
  rw [i2] at W'
  exact ⟨h', W', A0.set W' rfl, ⟨hx, hb, hm, hZ, ho, r⟩, T', _, X', e', N', fun t q => st t (st' t q)⟩
theorem Go.stJ {a : Addr} {x : Int64} {y : Int32} {i : Nat} {vs : List Value} (G : Go p l e R s m args below meth c Z own bytes maxL ret n0 s₀ h k j pc L (.long x :: .int y :: .ref a :: S)) (A : Av Z h a .long vs) (ha : n0 ≤ a) (hy : y.toInt = (i : Int)) (hi : i < vs.length) (hd : decode bytes pc = .ok (.lastore, 1)) {pc' : Nat} (hp : pc + 1 = pc' := by rfl) :
    ∃ h', Wr h h' a i (.long x) ∧ Av Z h' a .long (vs.set i (.long x)) ∧ Go p l e R s m args below meth c Z own bytes maxL ret n0 s₀ h' k j pc' L S := by
  have A0 := A
  obtain ⟨cl, Ar, rfl, hlen, -⟩ := A
  rw [Array.length_toList] at hi
  have ⟨i1, i2⟩ := idx_of hy hi
  subst hp
  obtain ⟨⟨hx, hb, hm, hZ, ho, r⟩, T, locs, X, eT, N, st⟩ := G
  obtain ⟨T', h', X', e', W', st'⟩ := Jvm.RoadKit.stJ X hx hZ eT Ar i1 (g := mkF m pc L (.long x :: .int y :: .ref a :: S)) rfl rfl (Jvm.hb hb hd)
  have N' := Fr.snoc X' N ha
  rw [i2] at W'
  exact ⟨h', W', A0.set W' rfl, ⟨hx, hb, hm, hZ, ho, r⟩, T', _, X', e', N', fun t q => st t (st' t q)⟩
theorem Go.stB {a : Addr} {x : Int32} {y : Int32} {i : Nat} {vs : List Value} (G : Go p l e R s m args below meth c Z own bytes maxL ret n0 s₀ h k j pc L (.int x :: .int y :: .ref a :: S)) (A : Av Z h a .byte vs) (ha : n0 ≤ a) (hy : y.toInt = (i : Int)) (hi : i < vs.length) (hd : decode bytes pc = .ok (.bastore, 1)) {pc' : Nat} (hp : pc + 1 = pc' := by rfl) :
    ∃ h', Wr h h' a i (.int (nar .byte x)) ∧ Av Z h' a .byte (vs.set i (.int (nar .byte x))) ∧ Go p l e R s m args below meth c Z own bytes maxL ret n0 s₀ h' k j pc' L S := by
  have A0 := A
  obtain ⟨cl, Ar, rfl, hlen, -⟩ := A
  rw [Array.length_toList] at hi
  have ⟨i1, i2⟩ := idx_of hy hi
  subst hp
  obtain ⟨⟨hx, hb, hm, hZ, ho, r⟩, T, locs, X, eT, N, st⟩ := G
  obtain ⟨T', h', X', e', W', st'⟩ := Jvm.RoadKit.stB X hx hZ eT Ar i1 (g := mkF m pc L (.int x :: .int y :: .ref a :: S)) rfl rfl (Jvm.hb hb hd)
  have N' := Fr.snoc X' N ha
  rw [i2] at W'
  exact ⟨h', W', A0.set W' (fits_nar_byte x), ⟨hx, hb, hm, hZ, ho, r⟩, T', _, X', e', N', fun t q => st t (st' t q)⟩
theorem Go.ldI {a : Addr} {v : Value} {y : Int32} {i : Nat} {vs : List Value} (G : Go p l e R s m args below meth c Z own bytes maxL ret n0 s₀ h k j pc L (.int y :: .ref a :: S)) (A : Av Z h a .int vs) (hy : y.toInt = (i : Int)) (hv : vs[i]? = some v) (hd : decode bytes pc = .ok (.iaload, 1)) {pc' : Nat} (hp : pc + 1 = pc' := by rfl) : Go p l e R s m args below meth c Z own bytes maxL ret n0 s₀ h k j pc' L (v :: S) := by
  obtain ⟨cl, Ar, rfl, hlen, -⟩ := A
  have hi : i < cl.slots.size := by rw [← Array.length_toList]; exact (List.getElem?_eq_some_iff.mp hv).1
  have ⟨i1, i2⟩ := idx_of hy hi
  rw [Array.getElem?_toList] at hv
  subst hp
  obtain ⟨⟨hx, hb, hm, hZ, ho, r⟩, T, locs, X, eT, N, st⟩ := G
  exact ⟨⟨hx, hb, hm, hZ, ho, r⟩, T, locs, X, eT, N, fun t q => st t (X.iaload hx (j := y) (v := v) (by rw [eT]; exact Ar.1) (State.isArrayOf_alike hZ.alike Ar.2.1) Ar.2.2 i1 (by rw [i2]; exact hv) (g := mkF m pc L (.int y :: .ref a :: S)) rfl rfl (Jvm.hb hb hd) t q)⟩
theorem Go.ldJ {a : Addr} {v : Value} {y : Int32} {i : Nat} {vs : List Value} (G : Go p l e R s m args below meth c Z own bytes maxL ret n0 s₀ h k j pc L (.int y :: .ref a :: S)) (A : Av Z h a .long vs) (hy : y.toInt = (i : Int)) (hv : vs[i]? = some v) (hd : decode bytes pc = .ok (.laload, 1)) {pc' : Nat} (hp : pc + 1 = pc' := by rfl) : Go p l e R s m args below meth c Z own bytes maxL ret n0 s₀ h k j pc' L (v :: S) := by
  obtain ⟨cl, Ar, rfl, hlen, -⟩ := A
  have hi : i < cl.slots.size := by rw [← Array.length_toList]; exact (List.getElem?_eq_some_iff.mp hv).1
  have ⟨i1, i2⟩ := idx_of hy hi
  rw [Array.getElem?_toList] at hv
  subst hp
  obtain ⟨⟨hx, hb, hm, hZ, ho, r⟩, T, locs, X, eT, N, st⟩ := G
  exact ⟨⟨hx, hb, hm, hZ, ho, r⟩, T, locs, X, eT, N, fun t q => st t (X.laload hx (j := y) (v := v) (by rw [eT]; exact Ar.1) (State.isArrayOf_alike hZ.alike Ar.2.1) Ar.2.2 i1 (by rw [i2]; exact hv) (g := mkF m pc L (.int y :: .ref a :: S)) rfl rfl (Jvm.hb hb hd) t q)⟩
theorem Go.ldB {a : Addr} {v : Value} {y : Int32} {i : Nat} {vs : List Value} (G : Go p l e R s m args below meth c Z own bytes maxL ret n0 s₀ h k j pc L (.int y :: .ref a :: S)) (A : Av Z h a .byte vs) (hy : y.toInt = (i : Int)) (hv : vs[i]? = some v) (hd : decode bytes pc = .ok (.baload, 1)) {pc' : Nat} (hp : pc + 1 = pc' := by rfl) : Go p l e R s m args below meth c Z own bytes maxL ret n0 s₀ h k j pc' L (v :: S) := by
  obtain ⟨cl, Ar, rfl, hlen, -⟩ := A
  have hi : i < cl.slots.size := by rw [← Array.length_toList]; exact (List.getElem?_eq_some_iff.mp hv).1
  have ⟨i1, i2⟩ := idx_of hy hi
  rw [Array.getElem?_toList] at hv
  subst hp
  obtain ⟨⟨hx, hb, hm, hZ, ho, r⟩, T, locs, X, eT, N, st⟩ := G
  exact ⟨⟨hx, hb, hm, hZ, ho, r⟩, T, locs, X, eT, N, fun t q => st t (X.baloadBytes hx (j := y) (v := v) (by rw [eT]; exact Ar.1) (State.isArrayOf_alike hZ.alike Ar.2.1) Ar.2.2 i1 (by rw [i2]; exact hv) (g := mkF m pc L (.int y :: .ref a :: S)) rfl rfl (Jvm.hb hb hd) t q)⟩
theorem Go.arrlen {a : Addr} {ty : FieldType} {vs : List Value} (v : Int32) (G : Go p l e R s m args below meth c Z own bytes maxL ret n0 s₀ h k j pc L (.ref a :: S)) (A : Av Z h a ty vs) (hv : v.toInt = (vs.length : Int)) (hd : decode bytes pc = .ok (.arraylength, 1)) {pc' : Nat} (hp : pc + 1 = pc' := by rfl) : Go p l e R s m args below meth c Z own bytes maxL ret n0 s₀ h k j pc' L (.int v :: S) := by
  obtain ⟨cl, Ar, rfl, hlen, -⟩ := A
  have e1 : cl.slots.size.toInt32 = v := by
    rw [Array.length_toList] at hlen hv
    apply Int32.toInt_inj.mp
    rw [hv]
    exact Int32.toInt_ofNat_of_lt (by omega)
  subst hp e1
  obtain ⟨⟨hx, hb, hm, hZ, ho, r⟩, T, locs, X, eT, N, st⟩ := G
  exact ⟨⟨hx, hb, hm, hZ, ho, r⟩, T, locs, X, eT, N, fun t q => st t (X.arraylength hx (by rw [eT]; exact Ar.1) (State.isArrayOf_alike hZ.alike Ar.2.1) (g := mkF m pc L (.ref a :: S)) rfl rfl (Jvm.hb hb hd) t q)⟩
theorem Go.getSt {R0 O n d : String} {index : Nat} {v : Value} (G : Go p l e R s m args below meth c Z own bytes maxL ret n0 s₀ h k j pc L S) (w : (Cond.fieldLink own index R0 n d).before a0 Z = true) (via : Via Z R0 O n d) (F : Sta Z h O n d v) (hd : decode bytes pc = .ok (.getstatic index, 3)) {pc' : Nat} (hp : pc + 3 = pc' := by rfl) : Go p l e R s m args below meth c Z own bytes maxL ret n0 s₀ h k j pc' L (v :: S) := by
  subst hp
  obtain ⟨⟨hx, hb, hm, hZ, ho, r⟩, T, locs, X, eT, N, st⟩ := G
  obtain ⟨T', X', e', st'⟩ := Jvm.RoadKit.getS (host := "") X hx hZ ho w via eT F (g := mkF m pc L S) rfl (Jvm.hb hb hd)
  exact ⟨⟨hx, hb, hm, hZ, ho, r⟩, T', locs, X', e', N, fun t q => st t (st' t q)⟩
theorem Av.of_arv {a : Addr} {kk : ClassId} {ty : FieldType} {z : Int32} {vs : List Value} {dv : Value} (A : Arv Z h a kk ty z vs dv) (hl : z.toNatClampNeg = vs.length) (hlen : vs.length < 2 ^ 31) : Av Z h a ty vs := by
  obtain ⟨cl, Ar, -, hs, -, hH, hfit⟩ := A
  rw [hl] at hs
  have e : cl.slots.toList = vs := by
    apply List.ext_getElem?
    intro i
    rw [Array.getElem?_toList]
    rcases Nat.lt_or_ge i cl.slots.size with hi | hi
    · rw [hH i hi, List.getD_eq_getElem?_getD, List.getElem?_eq_getElem (by omega)]; rfl
    · rw [Array.getElem?_eq_none hi, List.getElem?_eq_none (by omega)]
  refine ⟨cl, Ar, e, hlen, fun v hv => ?_⟩
  obtain ⟨i, hi, rfl⟩ := List.getElem_of_mem hv
  have q := hfit i (by omega)
  rw [List.getD_eq_getElem?_getD, List.getElem?_eq_getElem hi] at q
  exact q
theorem Go.ldcStr {vm0 : Vm} {k0 : Nat} {Ts : List String} {text : String} {index n : Nat} {vs : List Value} {z : Int32}
    (G : Go p l e R (Z.setVm vm0) m args below meth c Z own bytes maxL ret Z.heap.size s₀ h k j pc L S) (hS : Z.Since vm0 k0) (hk0 : k0 ≤ h.size) (I : IB Z vm0 Ts) (hnot : text ∉ Ts)
    (w : (Cond.stringLink own index text).before a0 Z = true) (wS : ∀ a ∈ Bundle.stringAtoms, a.before a0 Z = true) (hh : Jvm.Lit.constHeld Z own index) (hcw : Jvm.Lit.compactW.before a0 Z = true)
    (ht : (∀ c ∈ text.toList, c.toNat < 256) ∧ text.toList.map (fun c => Value.int (Jvm.Lit.byteI c.toNat.toUInt16)) = vs) (hz : ¬ z < 0) (hl : z.toNatClampNeg = vs.length) (hlen : vs.length < 2 ^ 31)
    (hd : decode bytes pc = .ok (.ldc index, 2)) (hn : 4 * text.toList.length ≤ n) (hbig : n ≤ 536870912) {pc' k' j' : Nat} (hp : pc + 2 = pc') (hk : k + 2 = k') (hj : j + (n + 4) = j') (hc : k' ≤ R.cells) (hl' : j' ≤ R.slots) :
    ∃ (a b : Addr) (vm1 : Vm) (k1 : Nat) (h' : Heap), Z.Since vm1 k1 ∧ k1 ≤ h'.size ∧ Ext h h' ∧ IB Z vm1 (text :: Ts) ∧ Exa Z h' a "java/lang/String" ∧ Fld Z h' a "java/lang/String" "coder" "B" (.int 0) ∧ Fld Z h' a "java/lang/String" "value" "[B" (.ref b) ∧ Av Z h' b .byte vs ∧
      Go p l e R (Z.setVm vm1) m args below meth c Z own bytes maxL ret Z.heap.size s₀ h' k' j' pc' L (.ref a :: S) := by
  subst hp hk hj
  obtain ⟨⟨hx, hb, hm, hZ, ho, hret, hlk, hn0⟩, T, locs, X, eT, N, st⟩ := G
  obtain ⟨a, T', h', k1, b, kk, r1, r2, r3, r4, r5, r6, r7, r8, r9, r10, r11, -, -, r14, -, -, r17⟩ := Jvm.RoadKit.ldcSVd (s := Z) (vm0 := vm0) X hx hZ ho w wS eT hS hk0 N (fun _ _ q => q) I hnot hh hcw ht hz hl (g := mkF m pc L S) rfl (Jvm.hb hb hd) hn hbig hc hl'
  exact ⟨a, b, T'.vm, k1, h', r4, r5, r3, r14, r8, r9, r10, Av.of_arv r11 hl hlen, ⟨hx, hb, hm, r6, r7, hret, hlk, Nat.le_refl _⟩, T', locs, r1, r2, N, fun t q => st t (r17 t q)⟩
def FiniW (p : Program) (e : Env) (below : List Frame) (s s₀ : State) (n0 kc js : Nat) (Q : Option Value → Heap → Prop) : Prop :=
  ∃ s₂ o, Steps p.tables e below s₀ s₂ ∧ s₂.status = .running ∧ Ended s₂ below o ∧ ∃ v L, o = .returned v ∧ (Q v s₂.heap ∧ Fr n0 L) ∧ ReturnedEndW s o s₂ L kc js
def ConW (l : Launch) (y : MethodName) (bytes : ByteArray) (maxL : Nat) (ret : Option FieldType) (ws : List Cond) (rm : Room) (kc js : Nat) (Z : State) (as' : Array Value) (Q : Option Value → Heap → Prop) : Prop :=
  MetFree l y (head1 (Cond.code y bytes maxL ret :: ws) rm) (fun a U => a = as' ∧ U = Z) (fun _ _ _ _ _ => True) (fun _ U o U' => ∃ v L, o = .returned v ∧ (Q v U'.heap ∧ Fr Z.heap.size L) ∧ ReturnedEndW U o U' L kc js)
theorem ConW.of {y : MethodName} {ws : List Cond} {rm : Room} {kc js : Nat} {as' : Array Value} {L0 : Array Slot} {Q : Option Value → Heap → Prop} (hpl : plainFor y = true) (hef : ∀ m, entryFrame m as' maxL = mkF m 0 L0 [])
    (body : ∀ (p : Program) (e : Env) (m : MethodId) (below : List Frame) (meth : Method) (c : Code) (s₀ : State), meth.name = y.name → Go p l e rm (Z.setVm Z.vm) m as' below meth c Z y.cls bytes maxL ret Z.heap.size s₀ Z.heap 0 0 0 L0 [] → FiniW p e below Z s₀ Z.heap.size kc js Q) : ConW l y bytes maxL ret ws rm kc js Z as' Q := by
  refine MetFree.of_bodySF hpl hisR ?_
  intro p e s m args below meth c s₁ Bd hml0 hP hK
  obtain ⟨rfl, rfl⟩ := hP
  have hx := Bd.exec
  have X0 : Stand p l e rm s m args below meth c s₁ [] 0 0 := Stand.of_body Bd
  exact body p e m below meth c _ (name_of_methodNamed Bd.named Bd.method).1 ⟨⟨hx, Bd.bytes, hml0, State.Warmed39.refl _, findClass_of_methodNamed Bd.named, Bd.returns, Bd.notSynchronized, Nat.le_refl _⟩, s₁, [], X0, by rw [Bd.state]; rfl, Fr.nil _, fun t k => castTop (hef m) k⟩
theorem Go.retZW {vm0 : Vm} {k0 : Nat} {z : Int32} {kc js : Nat} {Q : Option Value → Heap → Prop} (G : Go p l e R (Z.setVm vm0) m args below meth c Z own bytes maxL ret Z.heap.size s₀ h k j pc L (.int z :: S)) (hS : Z.Since vm0 k0) (hk0 : k0 ≤ h.size) (hd : decode bytes pc = .ok (.ireturn, 1)) (hr : ret = some .boolean) (hn : z = 0 ∨ z = 1) (hQ : Q (some (.int z)) h) (hk : k ≤ kc := by decide) (hj : j ≤ js := by decide) : FiniW p e below Z s₀ Z.heap.size kc js Q := by
  obtain ⟨⟨hx, hb, hm, hZ, ho, hret, hlk, hn0⟩, T, locs, X, eT, N, st⟩ := G
  subst hr
  obtain ⟨fs, hr, hrun, hended, hE⟩ := X.leaveW hS (by rw [eT]; exact hk0) (v := some (.int z)) (fun h => by rw [hret] at h; cases h) hlk
  exact ⟨_, _, st _ (retOut X hx hret (by rcases hn with rfl | rfl <;> rfl) (Or.inl ⟨rfl, Or.inr (Or.inl rfl), z, rfl⟩) (Jvm.hb hb hd) hr), hrun, hended, _, _, rfl, ⟨by show Q _ T.heap; rw [eT]; exact hQ, N⟩, hE.1, hE.2.1, hE.2.2.1, hE.2.2.2.mono hk hj⟩
end OwnKit
end Jvm.OwnKit
namespace Jvm.Pilot.@@N@@
open Jvm Jvm.ClassFile Sem Op Lib Jvm.Free Jvm.Stand Jvm.LawKit Jvm.RoadKit Bundle Jvm.OwnKit Jvm.Pilot.@@N@@.Jvm.D
def own_ch (y : Int32) : Int32 := (y &&& (255 : Int32)).toUInt32.toUInt16.toUInt32.toInt32
theorem own_efP (m : MethodId) (x0 x1 : Int32) (fm : Value) (hf : fm.isRef = true) : entryFrame m #[.int x0, .int x1, fm] 3 = mkF m 0 #[.val (.int x0), .val (.int x1), .val fm] [] := by
  cases fm <;> first | rfl | (simp [Value.isRef] at hf)
theorem own_nn (x : Int32) (i : Nat) (h : x.toInt = (i : Int)) : ¬ x < (0 : Int32) := by
  rw [Int32.lt_iff_toInt_lt, h]; show ¬ ((i : Nat) : Int) < 0; omega
theorem own_lt16 (x : Int32) (i : Nat) (h : x.toInt = (i : Int)) (hi : i < 16) : x < (16 : Int32) := by
  rw [Int32.lt_iff_toInt_lt, h]; show ((i : Nat) : Int) < 16; omega
theorem own_n15 (x : Int32) (i : Nat) (h : x.toInt = (i : Int)) (hi : i < 16) : ¬ (15 : Int32) < x := by
  rw [Int32.lt_iff_toInt_lt, h]; show ¬ (15 : Int) < ((i : Nat) : Int); omega
theorem own_of : ∀ i : Nat, i < 16 → (Int32.ofNat i).toInt = (i : Int) := by decide +kernel
theorem d5_0 : decode jdk_41_method_11_code 0 = .ok (.iload_n 0, 1) := by decide +kernel
theorem d5_1 : decode jdk_41_method_11_code 1 = .ok (.ifCond .lt 8, 3) := by decide +kernel
theorem d5_4 : decode jdk_41_method_11_code 4 = .ok (.iload_n 0, 1) := by decide +kernel
theorem d5_5 : decode jdk_41_method_11_code 5 = .ok (.iload_n 1, 1) := by decide +kernel
theorem d5_6 : decode jdk_41_method_11_code 6 = .ok (.if_icmp .lt 10, 3) := by decide +kernel
theorem d5_9 : decode jdk_41_method_11_code 9 = .ok (.aload_n 2, 1) := by decide +kernel
theorem d5_10 : decode jdk_41_method_11_code 10 = .ok (.iload_n 0, 1) := by decide +kernel
theorem d5_11 : decode jdk_41_method_11_code 11 = .ok (.iload_n 1, 1) := by decide +kernel
theorem d5_12 : decode jdk_41_method_11_code 12 = .ok (.invokestatic 95, 3) := by decide +kernel
theorem d5_15 : decode jdk_41_method_11_code 15 = .ok (.athrow, 1) := by decide +kernel
theorem d5_16 : decode jdk_41_method_11_code 16 = .ok (.iload_n 0, 1) := by decide +kernel
theorem d5_17 : decode jdk_41_method_11_code 17 = .ok (.ireturn, 1) := by decide +kernel
theorem pn0 : plainName "jdk/internal/util/Preconditions" = true := by first | (simp [plainName, overriddenIn]; done) | decide +kernel
def rm5 : Room := { frames := 0, cells := 0, slots := 0, locals := 0 }
set_option maxRecDepth 65536 in
set_option maxHeartbeats 40000000 in
theorem cn5 (l : Launch) (Z : State) (a0 : Array Value) (hw : ∀ d ∈ tables_1, d.before a0 Z = true) (x0 : Int32) (x1 : Int32) (fm : Value) (h0 : Heap) (n0 : Nat) (hn : n0 ≤ h0.size) (hf : fm.isRef = true) (q1 : ¬ x0 < (0 : Int32)) (q2 : x0 < x1) :
    Con l (⟨"jdk/internal/util/Preconditions", "checkIndex", "(IILjava/util/function/BiFunction;)I"⟩ : MethodName) jdk_41_method_11_code 3 (some .int) [] rm5 rm5.cells rm5.slots Z #[(.int x0), (.int x1), fm] h0 n0 (fun v h => v = some (.int x0) ∧ h = h0) := by
  refine Con.of (plainFor_of_name pn0) hn (fun m => own_efP m x0 x1 fm hf) ?_
  intro p e s m below meth c s₀ hnm G0
  have G1 := G0.iloadN (v := x0) (pc' := 1) d5_0 rfl
  have G2 := G1.ifN d5_1 4 (Jvm.Free.XT.i0_lt_f q1)
  have G3 := G2.iloadN (v := x0) (pc' := 5) d5_4 rfl
  have G4 := G3.iloadN (v := x1) (pc' := 6) d5_5 rfl
  have G5 := G4.icmpY d5_6 16 (Jvm.Free.XT.ii_lt_t q2)
  have G6 := G5.iloadN (v := x0) (pc' := 17) d5_16 rfl
  exact G6.retI d5_17 rfl ⟨rfl, rfl⟩
theorem d4_0 : decode jdk_42_method_155_code 0 = .ok (.iload_n 0, 1) := by decide +kernel
theorem d4_1 : decode jdk_42_method_155_code 1 = .ok (.iload_n 1, 1) := by decide +kernel
theorem d4_2 : decode jdk_42_method_155_code 2 = .ok (.getstatic 1053, 3) := by decide +kernel
theorem d4_5 : decode jdk_42_method_155_code 5 = .ok (.invokestatic 1059, 3) := by decide +kernel
theorem d4_8 : decode jdk_42_method_155_code 8 = .ok (.pop, 1) := by decide +kernel
theorem d4_9 : decode jdk_42_method_155_code 9 = .ok (.return_, 1) := by decide +kernel
theorem pn1 : plainName "java/lang/String" = true := by first | (simp [plainName, overriddenIn]; done) | decide +kernel
theorem ef4 (m : MethodId) (x0 : Int32) (x1 : Int32) : entryFrame m #[(.int x0), (.int x1)] 2 = mkF m 0 #[.val (.int x0), .val (.int x1)] [] := by first | (simp [entryFrame, mkF, argsToLocals, Value.category]; done) | rfl
theorem pd0 : parseMethodDescriptor "(IILjava/util/function/BiFunction;)I" = some ⟨[.int, .int, (.object "java/util/function/BiFunction")], some .int⟩ := by decide +kernel
def rm4 : Room := { frames := 1, cells := 0, slots := 0, locals := 14 }
set_option maxRecDepth 65536 in
set_option maxHeartbeats 40000000 in
theorem cn4 (l : Launch) (Z : State) (a0 : Array Value) (hw : ∀ d ∈ tables_1, d.before a0 Z = true) (x0 : Int32) (x1 : Int32) (h0 : Heap) (n0 : Nat) (hn : n0 ≤ h0.size) (fm : Value) (hf : fm.isRef = true) (T4 : Sta Z h0 "jdk/internal/util/Preconditions" "SIOOBE_FORMATTER" "Ljava/util/function/BiFunction;" fm) (q1 : ¬ x0 < (0 : Int32)) (q2 : x0 < x1) :
    Con l (⟨"java/lang/String", "checkIndex", "(II)V"⟩ : MethodName) jdk_42_method_155_code 2 none [] rm4 rm4.cells rm4.slots Z #[(.int x0), (.int x1)] h0 n0 (fun v h => v = none ∧ h = h0) := by
  refine Con.of (plainFor_of_name pn1) hn (fun m => ef4 m x0 x1) ?_
  intro p e s m below meth c s₀ hnm G0
  have G1 := G0.iloadN (v := x0) (pc' := 1) d4_0 rfl
  have G2 := G1.iloadN (v := x1) (pc' := 2) d4_1 rfl
  have G3 := G2.getSt (v := fm) (pc' := 5) (hw _ (List.mem_of_getElem? (i := 29) rfl)) Via.refl T4 d4_2
  obtain ⟨v4, h4, ⟨ev4, eh4⟩, g4⟩ := G3.callS (argsL := [(.int x0), (.int x1), fm]) (rest := []) (pc' := 8) (k' := 0) (j' := 0) (cn5 l Z a0 hw x0 x1 fm h0 n0 G3.size hf q1 q2) rfl (hw _ (List.mem_of_getElem? (i := 31) rfl)) (hw _ (List.mem_of_getElem? (i := 32) rfl)) (hw _ (List.mem_of_getElem? (i := 30) rfl)) (hw _ (List.mem_of_getElem? (i := 33) rfl)) (by decide) d4_5 pd0 rfl (W := 0) rfl rfl (by decide) (by decide) (by decide) (by decide) rfl rfl rfl
  subst ev4
  rw [eh4] at g4
  have G4 := g4 [(.int x0)] rfl
  have G5 := G4.pop (pc' := 9) d4_8
  exact G5.retV d4_9 rfl ⟨rfl, rfl⟩
theorem d3_0 : decode jdk_43_method_2_code 0 = .ok (.iload_n 1, 1) := by decide +kernel
theorem d3_1 : decode jdk_43_method_2_code 1 = .ok (.aload_n 0, 1) := by decide +kernel
theorem d3_2 : decode jdk_43_method_2_code 2 = .ok (.arraylength, 1) := by decide +kernel
theorem d3_3 : decode jdk_43_method_2_code 3 = .ok (.invokestatic 9, 3) := by decide +kernel
theorem d3_6 : decode jdk_43_method_2_code 6 = .ok (.aload_n 0, 1) := by decide +kernel
theorem d3_7 : decode jdk_43_method_2_code 7 = .ok (.iload_n 1, 1) := by decide +kernel
theorem d3_8 : decode jdk_43_method_2_code 8 = .ok (.baload, 1) := by decide +kernel
theorem d3_9 : decode jdk_43_method_2_code 9 = .ok (.sipush 255, 3) := by decide +kernel
theorem d3_12 : decode jdk_43_method_2_code 12 = .ok (.iand, 1) := by decide +kernel
theorem d3_13 : decode jdk_43_method_2_code 13 = .ok (.i2c, 1) := by decide +kernel
theorem d3_14 : decode jdk_43_method_2_code 14 = .ok (.ireturn, 1) := by decide +kernel
theorem pn2 : plainName "java/lang/StringLatin1" = true := by first | (simp [plainName, overriddenIn]; done) | decide +kernel
theorem ef3 (m : MethodId) (a : Addr) (x0 : Int32) : entryFrame m #[(.ref a), (.int x0)] 2 = mkF m 0 #[.val (.ref a), .val (.int x0)] [] := by first | (simp [entryFrame, mkF, argsToLocals, Value.category]; done) | rfl
theorem pd1 : parseMethodDescriptor "(II)V" = some ⟨[.int, .int], none⟩ := by decide +kernel
def rm3 : Room := { frames := 2, cells := 0, slots := 0, locals := 27 }
set_option maxRecDepth 65536 in
set_option maxHeartbeats 40000000 in
theorem cn3 (l : Launch) (Z : State) (a0 : Array Value) (hw : ∀ d ∈ tables_1, d.before a0 Z = true) (a : Addr) (x0 : Int32) (h0 : Heap) (n0 : Nat) (hn : n0 ≤ h0.size) (fm : Value) (hf : fm.isRef = true) (T4 : Sta Z h0 "jdk/internal/util/Preconditions" "SIOOBE_FORMATTER" "Ljava/util/function/BiFunction;" fm) (vs : List Value) (i : Nat) (y : Int32) (hl : vs.length = 16) (hx : x0.toInt = (i : Int)) (hi : i < 16) (hv : vs[i]? = some (.int y)) (V0 : Av Z h0 a .byte vs) :
    Con l (⟨"java/lang/StringLatin1", "charAt", "([BI)C"⟩ : MethodName) jdk_43_method_2_code 2 (some .char) [] rm3 rm3.cells rm3.slots Z #[(.ref a), (.int x0)] h0 n0 (fun v h => v = some (.int (own_ch y)) ∧ h = h0) := by
  refine Con.of (plainFor_of_name pn2) hn (fun m => ef3 m a x0) ?_
  intro p e s m below meth c s₀ hnm G0
  have G1 := G0.iloadN (v := x0) (pc' := 1) d3_0 rfl
  have G2 := G1.aloadN (v := (.ref a)) (pc' := 2) d3_1 rfl
  have G3 := G2.arrlen (pc' := 3) (v := (16 : Int32)) V0 (by rw [hl]; decide) d3_2
  obtain ⟨v4, h4, ⟨ev4, eh4⟩, g4⟩ := G3.callS (argsL := [(.int x0), (.int (16 : Int32))]) (rest := []) (pc' := 6) (k' := 0) (j' := 0) (cn4 l Z a0 hw x0 (16 : Int32) h0 n0 G3.size fm hf T4 (own_nn x0 i hx) (own_lt16 x0 i hx hi)) rfl (hw _ (List.mem_of_getElem? (i := 26) rfl)) (hw _ (List.mem_of_getElem? (i := 27) rfl)) (hw _ (List.mem_of_getElem? (i := 1) rfl)) (hw _ (List.mem_of_getElem? (i := 28) rfl)) (by decide) d3_3 pd1 rfl (W := 0) rfl rfl (by decide) (by decide) (by decide) (by decide) rfl rfl rfl
  subst ev4
  rw [eh4] at g4
  have G4 := g4 [] rfl
  have G5 := G4.aloadN (v := (.ref a)) (pc' := 7) d3_6 rfl
  have G6 := G5.iloadN (v := x0) (pc' := 8) d3_7 rfl
  have G7 := G6.ldB (i := i) (v := (.int y)) (pc' := 9) V0 hx hv d3_8
  have G8 := G7.sipush (v := (255 : Int32)) (pc' := 12) d3_9
  have G9 := G8.iand (pc' := 13) d3_12
  have G10 := G9.i2c (pc' := 14) d3_13
  exact G10.retS d3_14 rfl (by decide) (Jvm.Free.XT.narrow_c _) ⟨rfl, rfl⟩
theorem d2_0 : decode jdk_42_method_154_code 0 = .ok (.getstatic 38, 3) := by decide +kernel
theorem d2_3 : decode jdk_42_method_154_code 3 = .ok (.ifCond .eq 14, 3) := by decide +kernel
theorem d2_6 : decode jdk_42_method_154_code 6 = .ok (.aload_n 0, 1) := by decide +kernel
theorem d2_7 : decode jdk_42_method_154_code 7 = .ok (.getfield 15, 3) := by decide +kernel
theorem d2_10 : decode jdk_42_method_154_code 10 = .ok (.ifCond .ne 7, 3) := by decide +kernel
theorem d2_13 : decode jdk_42_method_154_code 13 = .ok (.iconst 1, 1) := by decide +kernel
theorem d2_14 : decode jdk_42_method_154_code 14 = .ok (.goto 4, 3) := by decide +kernel
theorem d2_17 : decode jdk_42_method_154_code 17 = .ok (.iconst 0, 1) := by decide +kernel
theorem d2_18 : decode jdk_42_method_154_code 18 = .ok (.ireturn, 1) := by decide +kernel
theorem ef2 (m : MethodId) (a : Addr) : entryFrame m #[(.ref a)] 1 = mkF m 0 #[.val (.ref a)] [] := by first | (simp [entryFrame, mkF, argsToLocals, Value.category]; done) | rfl
def rm2 : Room := { frames := 0, cells := 0, slots := 0, locals := 0 }
set_option maxRecDepth 65536 in
set_option maxHeartbeats 40000000 in
theorem cn2 (l : Launch) (Z : State) (a0 : Array Value) (hw : ∀ d ∈ tables_1, d.before a0 Z = true) (a : Addr) (h0 : Heap) (n0 : Nat) (hn : n0 ≤ h0.size) (z : Int32) (hz : ¬ z = (0 : Int32)) (T2 : Sta Z h0 "java/lang/String" "COMPACT_STRINGS" "Z" (.int z)) (C0 : Fld Z h0 a "java/lang/String" "coder" "B" (.int (0 : Int32))) :
    Con l (⟨"java/lang/String", "isLatin1", "()Z"⟩ : MethodName) jdk_42_method_154_code 1 (some .boolean) [] rm2 rm2.cells rm2.slots Z #[(.ref a)] h0 n0 (fun v h => v = some (.int (1 : Int32)) ∧ h = h0) := by
  refine Con.of (plainFor_of_name pn1) hn (fun m => ef2 m a) ?_
  intro p e s m below meth c s₀ hnm G0
  have G1 := G0.getSt (v := (.int z)) (pc' := 3) (hw _ (List.mem_of_getElem? (i := 19) rfl)) Via.refl T2 d2_0
  have G2 := G1.ifN d2_3 6 (Jvm.Free.XT.i0_eq_f hz)
  have G3 := G2.aloadN (v := (.ref a)) (pc' := 7) d2_6 rfl
  have G4 := G3.getF (pc' := 10) (v := (.int (0 : Int32))) (host := "") (Or.inl (hw _ (List.mem_of_getElem? (i := 20) rfl))) Via.refl C0 d2_7
  have G5 := G4.ifN d2_10 13 (Jvm.Free.XT.i0_ne_f (by decide))
  have G6 := G5.iconst (v := (1 : Int32)) (pc' := 14) d2_13
  have G7 := G6.goto d2_14 18
  exact G7.retZ d2_18 rfl (Or.inr rfl) ⟨rfl, rfl⟩
theorem d1_0 : decode jdk_42_method_56_code 0 = .ok (.aload_n 0, 1) := by decide +kernel
theorem d1_1 : decode jdk_42_method_56_code 1 = .ok (.invokevirtual 492, 3) := by decide +kernel
theorem d1_4 : decode jdk_42_method_56_code 4 = .ok (.ifCond .eq 12, 3) := by decide +kernel
theorem d1_7 : decode jdk_42_method_56_code 7 = .ok (.aload_n 0, 1) := by decide +kernel
theorem d1_8 : decode jdk_42_method_56_code 8 = .ok (.getfield 9, 3) := by decide +kernel
theorem d1_11 : decode jdk_42_method_56_code 11 = .ok (.iload_n 1, 1) := by decide +kernel
theorem d1_12 : decode jdk_42_method_56_code 12 = .ok (.invokestatic 495, 3) := by decide +kernel
theorem d1_15 : decode jdk_42_method_56_code 15 = .ok (.ireturn, 1) := by decide +kernel
theorem d1_16 : decode jdk_42_method_56_code 16 = .ok (.aload_n 0, 1) := by decide +kernel
theorem d1_17 : decode jdk_42_method_56_code 17 = .ok (.getfield 9, 3) := by decide +kernel
theorem d1_20 : decode jdk_42_method_56_code 20 = .ok (.iload_n 1, 1) := by decide +kernel
theorem d1_21 : decode jdk_42_method_56_code 21 = .ok (.invokestatic 498, 3) := by decide +kernel
theorem d1_24 : decode jdk_42_method_56_code 24 = .ok (.ireturn, 1) := by decide +kernel
theorem ef1 (m : MethodId) (a : Addr) (x0 : Int32) : entryFrame m #[(.ref a), (.int x0)] 2 = mkF m 0 #[.val (.ref a), .val (.int x0)] [] := by first | (simp [entryFrame, mkF, argsToLocals, Value.category]; done) | rfl
theorem pd2 : parseMethodDescriptor "()Z" = some ⟨[], some .boolean⟩ := by decide +kernel
theorem pd3 : parseMethodDescriptor "([BI)C" = some ⟨[(.array .byte), .int], some .char⟩ := by decide +kernel
def rm1 : Room := { frames := 3, cells := 0, slots := 0, locals := 40 }
set_option maxRecDepth 65536 in
set_option maxHeartbeats 40000000 in
theorem cn1 (l : Launch) (Z : State) (a0 : Array Value) (hw : ∀ d ∈ tables_1, d.before a0 Z = true) (a : Addr) (x0 : Int32) (h0 : Heap) (n0 : Nat) (hn : n0 ≤ h0.size) (fm : Value) (hf : fm.isRef = true) (T4 : Sta Z h0 "jdk/internal/util/Preconditions" "SIOOBE_FORMATTER" "Ljava/util/function/BiFunction;" fm) (z : Int32) (hz : ¬ z = (0 : Int32)) (T2 : Sta Z h0 "java/lang/String" "COMPACT_STRINGS" "Z" (.int z)) (E0 : Exa Z h0 a "java/lang/String") (C0 : Fld Z h0 a "java/lang/String" "coder" "B" (.int (0 : Int32))) (b : Addr) (F0 : Fld Z h0 a "java/lang/String" "value" "[B" (.ref b)) (vs : List Value) (i : Nat) (y : Int32) (hl : vs.length = 16) (hx : x0.toInt = (i : Int)) (hi : i < 16) (hv : vs[i]? = some (.int y)) (V0 : Av Z h0 b .byte vs) :
    Con l (⟨"java/lang/String", "charAt", "(I)C"⟩ : MethodName) jdk_42_method_56_code 2 (some .char) [] rm1 rm1.cells rm1.slots Z #[(.ref a), (.int x0)] h0 n0 (fun v h => v = some (.int (own_ch y)) ∧ h = h0) := by
  refine Con.of (plainFor_of_name pn1) hn (fun m => ef1 m a x0) ?_
  intro p e s m below meth c s₀ hnm G0
  have G1 := G0.aloadN (v := (.ref a)) (pc' := 1) d1_0 rfl
  obtain ⟨v2, h2, ⟨ev2, eh2⟩, g2⟩ := G1.callV (argsL := []) (rest := []) (pc' := 4) (k' := 0) (j' := 0) (cn2 l Z a0 hw a h0 n0 G1.size z hz T2 C0) rfl E0 (hw _ (List.mem_of_getElem? (i := 14) rfl)) (hw _ (List.mem_of_getElem? (i := 15) rfl)) (hw _ (List.mem_of_getElem? (i := 17) rfl)) (hw _ (List.mem_of_getElem? (i := 16) rfl)) (hw _ (List.mem_of_getElem? (i := 1) rfl)) (hw _ (List.mem_of_getElem? (i := 18) rfl)) (by decide) d1_1 pd2 rfl (W := 0) rfl rfl (by decide) (by decide) (by decide) (by decide) rfl rfl rfl
  subst ev2
  rw [eh2] at g2
  have G2 := g2 [(.int (1 : Int32))] rfl
  have G3 := G2.ifN d1_4 7 (Jvm.Free.XT.i0_eq_f (by decide))
  have G4 := G3.aloadN (v := (.ref a)) (pc' := 8) d1_7 rfl
  have G5 := G4.getF (pc' := 11) (v := (.ref b)) (host := "") (Or.inl (hw _ (List.mem_of_getElem? (i := 21) rfl))) Via.refl F0 d1_8
  have G6 := G5.iloadN (v := x0) (pc' := 12) d1_11 rfl
  obtain ⟨v7, h7, ⟨ev7, eh7⟩, g7⟩ := G6.callS (argsL := [(.ref b), (.int x0)]) (rest := []) (pc' := 15) (k' := 0) (j' := 0) (cn3 l Z a0 hw b x0 h0 n0 G6.size fm hf T4 vs i y hl hx hi hv V0) rfl (hw _ (List.mem_of_getElem? (i := 22) rfl)) (hw _ (List.mem_of_getElem? (i := 23) rfl)) (hw _ (List.mem_of_getElem? (i := 24) rfl)) (hw _ (List.mem_of_getElem? (i := 25) rfl)) (by decide) d1_12 pd3 rfl (W := 0) rfl rfl (by decide) (by decide) (by decide) (by decide) rfl rfl rfl
  subst ev7
  rw [eh7] at g7
  have G7 := g7 [(.int (own_ch y))] rfl
  exact G7.retS d1_15 rfl (by decide) (Jvm.Free.XT.narrow_c _) ⟨rfl, rfl⟩
theorem d6_0 : decode prog_192_method_3_code 0 = .ok (.iload_n 0, 1) := by decide +kernel
theorem d6_1 : decode prog_192_method_3_code 1 = .ok (.bipush 48, 2) := by decide +kernel
theorem d6_3 : decode prog_192_method_3_code 3 = .ok (.if_icmp .lt 17, 3) := by decide +kernel
theorem d6_6 : decode prog_192_method_3_code 6 = .ok (.iload_n 0, 1) := by decide +kernel
theorem d6_7 : decode prog_192_method_3_code 7 = .ok (.bipush 57, 2) := by decide +kernel
theorem d6_9 : decode prog_192_method_3_code 9 = .ok (.if_icmp .gt 11, 3) := by decide +kernel
theorem d6_12 : decode prog_192_method_3_code 12 = .ok (.iload_n 0, 1) := by decide +kernel
theorem d6_13 : decode prog_192_method_3_code 13 = .ok (.bipush 48, 2) := by decide +kernel
theorem d6_15 : decode prog_192_method_3_code 15 = .ok (.isub, 1) := by decide +kernel
theorem d6_16 : decode prog_192_method_3_code 16 = .ok (.istore_n 1, 1) := by decide +kernel
theorem d6_17 : decode prog_192_method_3_code 17 = .ok (.goto 51, 3) := by decide +kernel
theorem d6_20 : decode prog_192_method_3_code 20 = .ok (.iload_n 0, 1) := by decide +kernel
theorem d6_21 : decode prog_192_method_3_code 21 = .ok (.bipush 97, 2) := by decide +kernel
theorem d6_23 : decode prog_192_method_3_code 23 = .ok (.if_icmp .lt 20, 3) := by decide +kernel
theorem d6_26 : decode prog_192_method_3_code 26 = .ok (.iload_n 0, 1) := by decide +kernel
theorem d6_27 : decode prog_192_method_3_code 27 = .ok (.bipush 102, 2) := by decide +kernel
theorem d6_29 : decode prog_192_method_3_code 29 = .ok (.if_icmp .gt 14, 3) := by decide +kernel
theorem d6_32 : decode prog_192_method_3_code 32 = .ok (.iload_n 0, 1) := by decide +kernel
theorem d6_33 : decode prog_192_method_3_code 33 = .ok (.bipush 97, 2) := by decide +kernel
theorem d6_35 : decode prog_192_method_3_code 35 = .ok (.isub, 1) := by decide +kernel
theorem d6_36 : decode prog_192_method_3_code 36 = .ok (.bipush 10, 2) := by decide +kernel
theorem d6_38 : decode prog_192_method_3_code 38 = .ok (.iadd, 1) := by decide +kernel
theorem d6_39 : decode prog_192_method_3_code 39 = .ok (.istore_n 1, 1) := by decide +kernel
theorem d6_40 : decode prog_192_method_3_code 40 = .ok (.goto 28, 3) := by decide +kernel
theorem d6_43 : decode prog_192_method_3_code 43 = .ok (.iload_n 0, 1) := by decide +kernel
theorem d6_44 : decode prog_192_method_3_code 44 = .ok (.bipush 65, 2) := by decide +kernel
theorem d6_46 : decode prog_192_method_3_code 46 = .ok (.if_icmp .lt 20, 3) := by decide +kernel
theorem d6_49 : decode prog_192_method_3_code 49 = .ok (.iload_n 0, 1) := by decide +kernel
theorem d6_50 : decode prog_192_method_3_code 50 = .ok (.bipush 70, 2) := by decide +kernel
theorem d6_52 : decode prog_192_method_3_code 52 = .ok (.if_icmp .gt 14, 3) := by decide +kernel
theorem d6_55 : decode prog_192_method_3_code 55 = .ok (.iload_n 0, 1) := by decide +kernel
theorem d6_56 : decode prog_192_method_3_code 56 = .ok (.bipush 65, 2) := by decide +kernel
theorem d6_58 : decode prog_192_method_3_code 58 = .ok (.isub, 1) := by decide +kernel
theorem d6_59 : decode prog_192_method_3_code 59 = .ok (.bipush 10, 2) := by decide +kernel
theorem d6_61 : decode prog_192_method_3_code 61 = .ok (.iadd, 1) := by decide +kernel
theorem d6_62 : decode prog_192_method_3_code 62 = .ok (.istore_n 1, 1) := by decide +kernel
theorem d6_63 : decode prog_192_method_3_code 63 = .ok (.goto 5, 3) := by decide +kernel
theorem d6_66 : decode prog_192_method_3_code 66 = .ok (.iconst (-1), 1) := by decide +kernel
theorem d6_67 : decode prog_192_method_3_code 67 = .ok (.istore_n 1, 1) := by decide +kernel
theorem d6_68 : decode prog_192_method_3_code 68 = .ok (.iload_n 1, 1) := by decide +kernel
theorem d6_69 : decode prog_192_method_3_code 69 = .ok (.ireturn, 1) := by decide +kernel
theorem pn3 : plainName "com/example/polyfield/polyfield/text/CodePoints" = true := by first | (simp [plainName, overriddenIn]; done) | decide +kernel
theorem ef6 (m : MethodId) (x0 : Int32) : entryFrame m #[(.int x0)] 2 = mkF m 0 #[.val (.int x0), .unset] [] := by first | (simp [entryFrame, mkF, argsToLocals, Value.category]; done) | rfl
def fH (x0 : Int32) : Int32 := (if x0 < (48 : Int32) then (if x0 < (97 : Int32) then (if x0 < (65 : Int32) then (-1 : Int32) else (if (70 : Int32) < x0 then (-1 : Int32) else ((x0 - (65 : Int32)) + (10 : Int32)))) else (if (102 : Int32) < x0 then (if x0 < (65 : Int32) then (-1 : Int32) else (if (70 : Int32) < x0 then (-1 : Int32) else ((x0 - (65 : Int32)) + (10 : Int32)))) else ((x0 - (97 : Int32)) + (10 : Int32)))) else (if (57 : Int32) < x0 then (if x0 < (97 : Int32) then (if x0 < (65 : Int32) then (-1 : Int32) else (if (70 : Int32) < x0 then (-1 : Int32) else ((x0 - (65 : Int32)) + (10 : Int32)))) else (if (102 : Int32) < x0 then (if x0 < (65 : Int32) then (-1 : Int32) else (if (70 : Int32) < x0 then (-1 : Int32) else ((x0 - (65 : Int32)) + (10 : Int32)))) else ((x0 - (97 : Int32)) + (10 : Int32)))) else (x0 - (48 : Int32))))
def rm6 : Room := { frames := 0, cells := 0, slots := 0, locals := 0 }
set_option maxRecDepth 65536 in
set_option maxHeartbeats 40000000 in
theorem cn6 (l : Launch) (Z : State) (a0 : Array Value) (hw : ∀ d ∈ tables_1, d.before a0 Z = true) (x0 : Int32) (h0 : Heap) (n0 : Nat) (hn : n0 ≤ h0.size) :
    Con l (⟨"com/example/polyfield/polyfield/text/CodePoints", "hexValue", "(I)I"⟩ : MethodName) prog_192_method_3_code 2 (some .int) [] rm6 rm6.cells rm6.slots Z #[(.int x0)] h0 n0 (fun v h => v = some (.int (fH x0)) ∧ h = h0) := by
  refine Con.of (plainFor_of_name pn3) hn (fun m => ef6 m x0) ?_
  intro p e s m below meth c s₀ hnm G0
  have G1 := G0.iloadN (v := x0) (pc' := 1) d6_0 rfl
  have G2 := G1.bipush (v := (48 : Int32)) (pc' := 3) d6_1
  by_cases c3_2 : x0 < (48 : Int32)
  · have G3 := G2.icmpY d6_3 20 (Jvm.Free.XT.ii_lt_t c3_2)
    have G4 := G3.iloadN (v := x0) (pc' := 21) d6_20 rfl
    have G5 := G4.bipush (v := (97 : Int32)) (pc' := 23) d6_21
    by_cases c23_5 : x0 < (97 : Int32)
    · have G6 := G5.icmpY d6_23 43 (Jvm.Free.XT.ii_lt_t c23_5)
      have G7 := G6.iloadN (v := x0) (pc' := 44) d6_43 rfl
      have G8 := G7.bipush (v := (65 : Int32)) (pc' := 46) d6_44
      by_cases c46_8 : x0 < (65 : Int32)
      · have G9 := G8.icmpY d6_46 66 (Jvm.Free.XT.ii_lt_t c46_8)
        have G10 := G9.iconst (v := (-1 : Int32)) (pc' := 67) d6_66
        have G11 := G10.istoreN (L' := #[.val (.int x0), .val (.int (-1 : Int32))]) (pc' := 68) d6_67 rfl
        have G12 := G11.iloadN (v := (-1 : Int32)) (pc' := 69) d6_68 rfl
        exact G12.retI d6_69 rfl ⟨congrArg (fun z => some (Value.int z)) (by rw [fH, if_pos c3_2, if_pos c23_5, if_pos c46_8]), rfl⟩
      · have G13 := G8.icmpN d6_46 49 (Jvm.Free.XT.ii_lt_f c46_8)
        have G14 := G13.iloadN (v := x0) (pc' := 50) d6_49 rfl
        have G15 := G14.bipush (v := (70 : Int32)) (pc' := 52) d6_50
        by_cases c52_15 : (70 : Int32) < x0
        · have G16 := G15.icmpY d6_52 66 (Jvm.Free.XT.ii_gt_t c52_15)
          have G17 := G16.iconst (v := (-1 : Int32)) (pc' := 67) d6_66
          have G18 := G17.istoreN (L' := #[.val (.int x0), .val (.int (-1 : Int32))]) (pc' := 68) d6_67 rfl
          have G19 := G18.iloadN (v := (-1 : Int32)) (pc' := 69) d6_68 rfl
          exact G19.retI d6_69 rfl ⟨congrArg (fun z => some (Value.int z)) (by rw [fH, if_pos c3_2, if_pos c23_5, if_neg c46_8, if_pos c52_15]), rfl⟩
        · have G20 := G15.icmpN d6_52 55 (Jvm.Free.XT.ii_gt_f c52_15)
          have G21 := G20.iloadN (v := x0) (pc' := 56) d6_55 rfl
          have G22 := G21.bipush (v := (65 : Int32)) (pc' := 58) d6_56
          have G23 := G22.isub (pc' := 59) d6_58
          have G24 := G23.bipush (v := (10 : Int32)) (pc' := 61) d6_59
          have G25 := G24.iadd (pc' := 62) d6_61
          have G26 := G25.istoreN (L' := #[.val (.int x0), .val (.int ((x0 - (65 : Int32)) + (10 : Int32)))]) (pc' := 63) d6_62 rfl
          have G27 := G26.goto d6_63 68
          have G28 := G27.iloadN (v := ((x0 - (65 : Int32)) + (10 : Int32))) (pc' := 69) d6_68 rfl
          exact G28.retI d6_69 rfl ⟨congrArg (fun z => some (Value.int z)) (by rw [fH, if_pos c3_2, if_pos c23_5, if_neg c46_8, if_neg c52_15]), rfl⟩
    · have G29 := G5.icmpN d6_23 26 (Jvm.Free.XT.ii_lt_f c23_5)
      have G30 := G29.iloadN (v := x0) (pc' := 27) d6_26 rfl
      have G31 := G30.bipush (v := (102 : Int32)) (pc' := 29) d6_27
      by_cases c29_31 : (102 : Int32) < x0
      · have G32 := G31.icmpY d6_29 43 (Jvm.Free.XT.ii_gt_t c29_31)
        have G33 := G32.iloadN (v := x0) (pc' := 44) d6_43 rfl
        have G34 := G33.bipush (v := (65 : Int32)) (pc' := 46) d6_44
        by_cases c46_34 : x0 < (65 : Int32)
        · have G35 := G34.icmpY d6_46 66 (Jvm.Free.XT.ii_lt_t c46_34)
          have G36 := G35.iconst (v := (-1 : Int32)) (pc' := 67) d6_66
          have G37 := G36.istoreN (L' := #[.val (.int x0), .val (.int (-1 : Int32))]) (pc' := 68) d6_67 rfl
          have G38 := G37.iloadN (v := (-1 : Int32)) (pc' := 69) d6_68 rfl
          exact G38.retI d6_69 rfl ⟨congrArg (fun z => some (Value.int z)) (by rw [fH, if_pos c3_2, if_neg c23_5, if_pos c29_31, if_pos c46_34]), rfl⟩
        · have G39 := G34.icmpN d6_46 49 (Jvm.Free.XT.ii_lt_f c46_34)
          have G40 := G39.iloadN (v := x0) (pc' := 50) d6_49 rfl
          have G41 := G40.bipush (v := (70 : Int32)) (pc' := 52) d6_50
          by_cases c52_41 : (70 : Int32) < x0
          · have G42 := G41.icmpY d6_52 66 (Jvm.Free.XT.ii_gt_t c52_41)
            have G43 := G42.iconst (v := (-1 : Int32)) (pc' := 67) d6_66
            have G44 := G43.istoreN (L' := #[.val (.int x0), .val (.int (-1 : Int32))]) (pc' := 68) d6_67 rfl
            have G45 := G44.iloadN (v := (-1 : Int32)) (pc' := 69) d6_68 rfl
            exact G45.retI d6_69 rfl ⟨congrArg (fun z => some (Value.int z)) (by rw [fH, if_pos c3_2, if_neg c23_5, if_pos c29_31, if_neg c46_34, if_pos c52_41]), rfl⟩
          · have G46 := G41.icmpN d6_52 55 (Jvm.Free.XT.ii_gt_f c52_41)
            have G47 := G46.iloadN (v := x0) (pc' := 56) d6_55 rfl
            have G48 := G47.bipush (v := (65 : Int32)) (pc' := 58) d6_56
            have G49 := G48.isub (pc' := 59) d6_58
            have G50 := G49.bipush (v := (10 : Int32)) (pc' := 61) d6_59
            have G51 := G50.iadd (pc' := 62) d6_61
            have G52 := G51.istoreN (L' := #[.val (.int x0), .val (.int ((x0 - (65 : Int32)) + (10 : Int32)))]) (pc' := 63) d6_62 rfl
            have G53 := G52.goto d6_63 68
            have G54 := G53.iloadN (v := ((x0 - (65 : Int32)) + (10 : Int32))) (pc' := 69) d6_68 rfl
            exact G54.retI d6_69 rfl ⟨congrArg (fun z => some (Value.int z)) (by rw [fH, if_pos c3_2, if_neg c23_5, if_pos c29_31, if_neg c46_34, if_neg c52_41]), rfl⟩
      · have G55 := G31.icmpN d6_29 32 (Jvm.Free.XT.ii_gt_f c29_31)
        have G56 := G55.iloadN (v := x0) (pc' := 33) d6_32 rfl
        have G57 := G56.bipush (v := (97 : Int32)) (pc' := 35) d6_33
        have G58 := G57.isub (pc' := 36) d6_35
        have G59 := G58.bipush (v := (10 : Int32)) (pc' := 38) d6_36
        have G60 := G59.iadd (pc' := 39) d6_38
        have G61 := G60.istoreN (L' := #[.val (.int x0), .val (.int ((x0 - (97 : Int32)) + (10 : Int32)))]) (pc' := 40) d6_39 rfl
        have G62 := G61.goto d6_40 68
        have G63 := G62.iloadN (v := ((x0 - (97 : Int32)) + (10 : Int32))) (pc' := 69) d6_68 rfl
        exact G63.retI d6_69 rfl ⟨congrArg (fun z => some (Value.int z)) (by rw [fH, if_pos c3_2, if_neg c23_5, if_neg c29_31]), rfl⟩
  · have G64 := G2.icmpN d6_3 6 (Jvm.Free.XT.ii_lt_f c3_2)
    have G65 := G64.iloadN (v := x0) (pc' := 7) d6_6 rfl
    have G66 := G65.bipush (v := (57 : Int32)) (pc' := 9) d6_7
    by_cases c9_66 : (57 : Int32) < x0
    · have G67 := G66.icmpY d6_9 20 (Jvm.Free.XT.ii_gt_t c9_66)
      have G68 := G67.iloadN (v := x0) (pc' := 21) d6_20 rfl
      have G69 := G68.bipush (v := (97 : Int32)) (pc' := 23) d6_21
      by_cases c23_69 : x0 < (97 : Int32)
      · have G70 := G69.icmpY d6_23 43 (Jvm.Free.XT.ii_lt_t c23_69)
        have G71 := G70.iloadN (v := x0) (pc' := 44) d6_43 rfl
        have G72 := G71.bipush (v := (65 : Int32)) (pc' := 46) d6_44
        by_cases c46_72 : x0 < (65 : Int32)
        · have G73 := G72.icmpY d6_46 66 (Jvm.Free.XT.ii_lt_t c46_72)
          have G74 := G73.iconst (v := (-1 : Int32)) (pc' := 67) d6_66
          have G75 := G74.istoreN (L' := #[.val (.int x0), .val (.int (-1 : Int32))]) (pc' := 68) d6_67 rfl
          have G76 := G75.iloadN (v := (-1 : Int32)) (pc' := 69) d6_68 rfl
          exact G76.retI d6_69 rfl ⟨congrArg (fun z => some (Value.int z)) (by rw [fH, if_neg c3_2, if_pos c9_66, if_pos c23_69, if_pos c46_72]), rfl⟩
        · have G77 := G72.icmpN d6_46 49 (Jvm.Free.XT.ii_lt_f c46_72)
          have G78 := G77.iloadN (v := x0) (pc' := 50) d6_49 rfl
          have G79 := G78.bipush (v := (70 : Int32)) (pc' := 52) d6_50
          by_cases c52_79 : (70 : Int32) < x0
          · have G80 := G79.icmpY d6_52 66 (Jvm.Free.XT.ii_gt_t c52_79)
            have G81 := G80.iconst (v := (-1 : Int32)) (pc' := 67) d6_66
            have G82 := G81.istoreN (L' := #[.val (.int x0), .val (.int (-1 : Int32))]) (pc' := 68) d6_67 rfl
            have G83 := G82.iloadN (v := (-1 : Int32)) (pc' := 69) d6_68 rfl
            exact G83.retI d6_69 rfl ⟨congrArg (fun z => some (Value.int z)) (by rw [fH, if_neg c3_2, if_pos c9_66, if_pos c23_69, if_neg c46_72, if_pos c52_79]), rfl⟩
          · have G84 := G79.icmpN d6_52 55 (Jvm.Free.XT.ii_gt_f c52_79)
            have G85 := G84.iloadN (v := x0) (pc' := 56) d6_55 rfl
            have G86 := G85.bipush (v := (65 : Int32)) (pc' := 58) d6_56
            have G87 := G86.isub (pc' := 59) d6_58
            have G88 := G87.bipush (v := (10 : Int32)) (pc' := 61) d6_59
            have G89 := G88.iadd (pc' := 62) d6_61
            have G90 := G89.istoreN (L' := #[.val (.int x0), .val (.int ((x0 - (65 : Int32)) + (10 : Int32)))]) (pc' := 63) d6_62 rfl
            have G91 := G90.goto d6_63 68
            have G92 := G91.iloadN (v := ((x0 - (65 : Int32)) + (10 : Int32))) (pc' := 69) d6_68 rfl
            exact G92.retI d6_69 rfl ⟨congrArg (fun z => some (Value.int z)) (by rw [fH, if_neg c3_2, if_pos c9_66, if_pos c23_69, if_neg c46_72, if_neg c52_79]), rfl⟩
      · have G93 := G69.icmpN d6_23 26 (Jvm.Free.XT.ii_lt_f c23_69)
        have G94 := G93.iloadN (v := x0) (pc' := 27) d6_26 rfl
        have G95 := G94.bipush (v := (102 : Int32)) (pc' := 29) d6_27
        by_cases c29_95 : (102 : Int32) < x0
        · have G96 := G95.icmpY d6_29 43 (Jvm.Free.XT.ii_gt_t c29_95)
          have G97 := G96.iloadN (v := x0) (pc' := 44) d6_43 rfl
          have G98 := G97.bipush (v := (65 : Int32)) (pc' := 46) d6_44
          by_cases c46_98 : x0 < (65 : Int32)
          · have G99 := G98.icmpY d6_46 66 (Jvm.Free.XT.ii_lt_t c46_98)
            have G100 := G99.iconst (v := (-1 : Int32)) (pc' := 67) d6_66
            have G101 := G100.istoreN (L' := #[.val (.int x0), .val (.int (-1 : Int32))]) (pc' := 68) d6_67 rfl
            have G102 := G101.iloadN (v := (-1 : Int32)) (pc' := 69) d6_68 rfl
            exact G102.retI d6_69 rfl ⟨congrArg (fun z => some (Value.int z)) (by rw [fH, if_neg c3_2, if_pos c9_66, if_neg c23_69, if_pos c29_95, if_pos c46_98]), rfl⟩
          · have G103 := G98.icmpN d6_46 49 (Jvm.Free.XT.ii_lt_f c46_98)
            have G104 := G103.iloadN (v := x0) (pc' := 50) d6_49 rfl
            have G105 := G104.bipush (v := (70 : Int32)) (pc' := 52) d6_50
            by_cases c52_105 : (70 : Int32) < x0
            · have G106 := G105.icmpY d6_52 66 (Jvm.Free.XT.ii_gt_t c52_105)
              have G107 := G106.iconst (v := (-1 : Int32)) (pc' := 67) d6_66
              have G108 := G107.istoreN (L' := #[.val (.int x0), .val (.int (-1 : Int32))]) (pc' := 68) d6_67 rfl
              have G109 := G108.iloadN (v := (-1 : Int32)) (pc' := 69) d6_68 rfl
              exact G109.retI d6_69 rfl ⟨congrArg (fun z => some (Value.int z)) (by rw [fH, if_neg c3_2, if_pos c9_66, if_neg c23_69, if_pos c29_95, if_neg c46_98, if_pos c52_105]), rfl⟩
            · have G110 := G105.icmpN d6_52 55 (Jvm.Free.XT.ii_gt_f c52_105)
              have G111 := G110.iloadN (v := x0) (pc' := 56) d6_55 rfl
              have G112 := G111.bipush (v := (65 : Int32)) (pc' := 58) d6_56
              have G113 := G112.isub (pc' := 59) d6_58
              have G114 := G113.bipush (v := (10 : Int32)) (pc' := 61) d6_59
              have G115 := G114.iadd (pc' := 62) d6_61
              have G116 := G115.istoreN (L' := #[.val (.int x0), .val (.int ((x0 - (65 : Int32)) + (10 : Int32)))]) (pc' := 63) d6_62 rfl
              have G117 := G116.goto d6_63 68
              have G118 := G117.iloadN (v := ((x0 - (65 : Int32)) + (10 : Int32))) (pc' := 69) d6_68 rfl
              exact G118.retI d6_69 rfl ⟨congrArg (fun z => some (Value.int z)) (by rw [fH, if_neg c3_2, if_pos c9_66, if_neg c23_69, if_pos c29_95, if_neg c46_98, if_neg c52_105]), rfl⟩
        · have G119 := G95.icmpN d6_29 32 (Jvm.Free.XT.ii_gt_f c29_95)
          have G120 := G119.iloadN (v := x0) (pc' := 33) d6_32 rfl
          have G121 := G120.bipush (v := (97 : Int32)) (pc' := 35) d6_33
          have G122 := G121.isub (pc' := 36) d6_35
          have G123 := G122.bipush (v := (10 : Int32)) (pc' := 38) d6_36
          have G124 := G123.iadd (pc' := 39) d6_38
          have G125 := G124.istoreN (L' := #[.val (.int x0), .val (.int ((x0 - (97 : Int32)) + (10 : Int32)))]) (pc' := 40) d6_39 rfl
          have G126 := G125.goto d6_40 68
          have G127 := G126.iloadN (v := ((x0 - (97 : Int32)) + (10 : Int32))) (pc' := 69) d6_68 rfl
          exact G127.retI d6_69 rfl ⟨congrArg (fun z => some (Value.int z)) (by rw [fH, if_neg c3_2, if_pos c9_66, if_neg c23_69, if_neg c29_95]), rfl⟩
    · have G128 := G66.icmpN d6_9 12 (Jvm.Free.XT.ii_gt_f c9_66)
      have G129 := G128.iloadN (v := x0) (pc' := 13) d6_12 rfl
      have G130 := G129.bipush (v := (48 : Int32)) (pc' := 15) d6_13
      have G131 := G130.isub (pc' := 16) d6_15
      have G132 := G131.istoreN (L' := #[.val (.int x0), .val (.int (x0 - (48 : Int32)))]) (pc' := 17) d6_16 rfl
      have G133 := G132.goto d6_17 68
      have G134 := G133.iloadN (v := (x0 - (48 : Int32))) (pc' := 69) d6_68 rfl
      exact G134.retI d6_69 rfl ⟨congrArg (fun z => some (Value.int z)) (by rw [fH, if_neg c3_2, if_neg c9_66]), rfl⟩
def own_lo : Nat → Int32
  | 0 => 48
  | 1 => 49
  | 2 => 50
  | 3 => 51
  | 4 => 52
  | 5 => 53
  | 6 => 54
  | 7 => 55
  | 8 => 56
  | 9 => 57
  | 10 => 97
  | 11 => 98
  | 12 => 99
  | 13 => 100
  | 14 => 101
  | 15 => 102
  | _ => 0
def own_up : Nat → Int32
  | 0 => 48
  | 1 => 49
  | 2 => 50
  | 3 => 51
  | 4 => 52
  | 5 => 53
  | 6 => 54
  | 7 => 55
  | 8 => 56
  | 9 => 57
  | 10 => 65
  | 11 => 66
  | 12 => 67
  | 13 => 68
  | 14 => 69
  | 15 => 70
  | _ => 0
theorem own_glo : ∀ i, i < 16 → ([.int (48 : Int32), .int (49 : Int32), .int (50 : Int32), .int (51 : Int32), .int (52 : Int32), .int (53 : Int32), .int (54 : Int32), .int (55 : Int32), .int (56 : Int32), .int (57 : Int32), .int (97 : Int32), .int (98 : Int32), .int (99 : Int32), .int (100 : Int32), .int (101 : Int32), .int (102 : Int32)] : List Value)[i]? = some (.int (own_lo i))
  | 0, _ => rfl
  | 1, _ => rfl
  | 2, _ => rfl
  | 3, _ => rfl
  | 4, _ => rfl
  | 5, _ => rfl
  | 6, _ => rfl
  | 7, _ => rfl
  | 8, _ => rfl
  | 9, _ => rfl
  | 10, _ => rfl
  | 11, _ => rfl
  | 12, _ => rfl
  | 13, _ => rfl
  | 14, _ => rfl
  | 15, _ => rfl
  | n + 16, h => absurd h (by omega)
theorem own_hlo : ∀ i : Nat, i < 16 → fH (own_ch (own_lo i)) = Int32.ofNat i := by decide +kernel
theorem own_gup : ∀ i, i < 16 → ([.int (48 : Int32), .int (49 : Int32), .int (50 : Int32), .int (51 : Int32), .int (52 : Int32), .int (53 : Int32), .int (54 : Int32), .int (55 : Int32), .int (56 : Int32), .int (57 : Int32), .int (65 : Int32), .int (66 : Int32), .int (67 : Int32), .int (68 : Int32), .int (69 : Int32), .int (70 : Int32)] : List Value)[i]? = some (.int (own_up i))
  | 0, _ => rfl
  | 1, _ => rfl
  | 2, _ => rfl
  | 3, _ => rfl
  | 4, _ => rfl
  | 5, _ => rfl
  | 6, _ => rfl
  | 7, _ => rfl
  | 8, _ => rfl
  | 9, _ => rfl
  | 10, _ => rfl
  | 11, _ => rfl
  | 12, _ => rfl
  | 13, _ => rfl
  | 14, _ => rfl
  | 15, _ => rfl
  | n + 16, h => absurd h (by omega)
theorem own_hup : ∀ i : Nat, i < 16 → fH (own_ch (own_up i)) = Int32.ofNat i := by decide +kernel
theorem own_and (x : Int32) : ∃ i : Nat, i < 16 ∧ (x &&& (15 : Int32)).toInt = (i : Int) ∧ Int32.ofNat i = (x &&& (15 : Int32)) := by
  have n := c_and x 15 (by decide)
  have k : (15 : Int32).toInt = 15 := rfl
  simp only [k] at n
  refine ⟨(x &&& (15 : Int32)).toInt.toNat, by omega, by omega, Int32.toInt_inj.mp ?_⟩
  rw [own_of _ (by omega)]; omega
theorem own_snd (x : Int32) (h : ¬ fH x = (-1 : Int32)) : ∃ i : Nat, i < 16 ∧ fH x = Int32.ofNat i ∧ (x = own_ch (own_lo i) ∨ x = own_ch (own_up i)) := by
  have k48 : (48 : Int32).toInt = 48 := rfl
  have k57 : (57 : Int32).toInt = 57 := rfl
  have k65 : (65 : Int32).toInt = 65 := rfl
  have k70 : (70 : Int32).toInt = 70 := rfl
  have k97 : (97 : Int32).toInt = 97 := rfl
  have k102 : (102 : Int32).toInt = 102 := rfl
  by_cases hr : (48 ≤ x.toInt ∧ x.toInt ≤ 57) ∨ (65 ≤ x.toInt ∧ x.toInt ≤ 70) ∨ (97 ≤ x.toInt ∧ x.toInt ≤ 102)
  · have hc : x.toInt = 48 ∨ x.toInt = 49 ∨ x.toInt = 50 ∨ x.toInt = 51 ∨ x.toInt = 52 ∨ x.toInt = 53 ∨ x.toInt = 54 ∨ x.toInt = 55 ∨ x.toInt = 56 ∨ x.toInt = 57 ∨ x.toInt = 65 ∨ x.toInt = 66 ∨ x.toInt = 67 ∨ x.toInt = 68 ∨ x.toInt = 69 ∨ x.toInt = 70 ∨ x.toInt = 97 ∨ x.toInt = 98 ∨ x.toInt = 99 ∨ x.toInt = 100 ∨ x.toInt = 101 ∨ x.toInt = 102 := by omega
    rcases hc with q | q | q | q | q | q | q | q | q | q | q | q | q | q | q | q | q | q | q | q | q | q
    · obtain rfl : x = (48 : Int32) := Int32.toInt_inj.mp q
      exact ⟨0, by decide, by decide +kernel, Or.inl (by decide +kernel)⟩
    · obtain rfl : x = (49 : Int32) := Int32.toInt_inj.mp q
      exact ⟨1, by decide, by decide +kernel, Or.inl (by decide +kernel)⟩
    · obtain rfl : x = (50 : Int32) := Int32.toInt_inj.mp q
      exact ⟨2, by decide, by decide +kernel, Or.inl (by decide +kernel)⟩
    · obtain rfl : x = (51 : Int32) := Int32.toInt_inj.mp q
      exact ⟨3, by decide, by decide +kernel, Or.inl (by decide +kernel)⟩
    · obtain rfl : x = (52 : Int32) := Int32.toInt_inj.mp q
      exact ⟨4, by decide, by decide +kernel, Or.inl (by decide +kernel)⟩
    · obtain rfl : x = (53 : Int32) := Int32.toInt_inj.mp q
      exact ⟨5, by decide, by decide +kernel, Or.inl (by decide +kernel)⟩
    · obtain rfl : x = (54 : Int32) := Int32.toInt_inj.mp q
      exact ⟨6, by decide, by decide +kernel, Or.inl (by decide +kernel)⟩
    · obtain rfl : x = (55 : Int32) := Int32.toInt_inj.mp q
      exact ⟨7, by decide, by decide +kernel, Or.inl (by decide +kernel)⟩
    · obtain rfl : x = (56 : Int32) := Int32.toInt_inj.mp q
      exact ⟨8, by decide, by decide +kernel, Or.inl (by decide +kernel)⟩
    · obtain rfl : x = (57 : Int32) := Int32.toInt_inj.mp q
      exact ⟨9, by decide, by decide +kernel, Or.inl (by decide +kernel)⟩
    · obtain rfl : x = (65 : Int32) := Int32.toInt_inj.mp q
      exact ⟨10, by decide, by decide +kernel, Or.inr (by decide +kernel)⟩
    · obtain rfl : x = (66 : Int32) := Int32.toInt_inj.mp q
      exact ⟨11, by decide, by decide +kernel, Or.inr (by decide +kernel)⟩
    · obtain rfl : x = (67 : Int32) := Int32.toInt_inj.mp q
      exact ⟨12, by decide, by decide +kernel, Or.inr (by decide +kernel)⟩
    · obtain rfl : x = (68 : Int32) := Int32.toInt_inj.mp q
      exact ⟨13, by decide, by decide +kernel, Or.inr (by decide +kernel)⟩
    · obtain rfl : x = (69 : Int32) := Int32.toInt_inj.mp q
      exact ⟨14, by decide, by decide +kernel, Or.inr (by decide +kernel)⟩
    · obtain rfl : x = (70 : Int32) := Int32.toInt_inj.mp q
      exact ⟨15, by decide, by decide +kernel, Or.inr (by decide +kernel)⟩
    · obtain rfl : x = (97 : Int32) := Int32.toInt_inj.mp q
      exact ⟨10, by decide, by decide +kernel, Or.inl (by decide +kernel)⟩
    · obtain rfl : x = (98 : Int32) := Int32.toInt_inj.mp q
      exact ⟨11, by decide, by decide +kernel, Or.inl (by decide +kernel)⟩
    · obtain rfl : x = (99 : Int32) := Int32.toInt_inj.mp q
      exact ⟨12, by decide, by decide +kernel, Or.inl (by decide +kernel)⟩
    · obtain rfl : x = (100 : Int32) := Int32.toInt_inj.mp q
      exact ⟨13, by decide, by decide +kernel, Or.inl (by decide +kernel)⟩
    · obtain rfl : x = (101 : Int32) := Int32.toInt_inj.mp q
      exact ⟨14, by decide, by decide +kernel, Or.inl (by decide +kernel)⟩
    · obtain rfl : x = (102 : Int32) := Int32.toInt_inj.mp q
      exact ⟨15, by decide, by decide +kernel, Or.inl (by decide +kernel)⟩
  · refine absurd ?_ h
    unfold fH
    simp only [Int32.lt_iff_toInt_lt, k48, k57, k65, k70, k97, k102]
    repeat' split
    all_goals first | rfl | (exfalso; omega)
theorem pn4 : plainName "com/example/polyfield/polyfield/text/CodePointsHexValuePinLaw" = true := by first | (simp [plainName, overriddenIn]; done) | decide +kernel
theorem ef0 (m : MethodId) (x0 : Int32) (x1 : Int32) : entryFrame m #[(.int x0), (.int x1)] maxLocals = mkF m 0 #[.val (.int x0), .val (.int x1), .unset, .unset, .unset, .unset, .unset, .unset] [] := by first | (simp [entryFrame, mkF, argsToLocals, Value.category, maxLocals]; done) | rfl
theorem pd4 : parseMethodDescriptor "(I)C" = some ⟨[.int], some .char⟩ := by decide +kernel
theorem pd5 : parseMethodDescriptor "(I)I" = some ⟨[.int], some .int⟩ := by decide +kernel
set_option maxRecDepth 65536 in
set_option maxHeartbeats 40000000 in
theorem lawc (l : Launch) (Z : State) (a0 : Array Value) (hw : ∀ d ∈ tables_1, d.before a0 Z = true) (x0 x1 : Int32) (fm : Value) (hf : fm.isRef = true) (T4 : Sta Z Z.heap "jdk/internal/util/Preconditions" "SIOOBE_FORMATTER" "Ljava/util/function/BiFunction;" fm) (z : Int32) (hz : ¬ z = (0 : Int32)) (T2 : Sta Z Z.heap "java/lang/String" "COMPACT_STRINGS" "Z" (.int z)) (hcw : Jvm.Lit.compactW.before a0 Z = true) (hh7 : Jvm.Lit.constHeld Z "com/example/polyfield/polyfield/text/CodePointsHexValuePinLaw" 7) (hh9 : Jvm.Lit.constHeld Z "com/example/polyfield/polyfield/text/CodePointsHexValuePinLaw" 9) :
    ConW l x code maxLocals ret tables_1 room_1 8 2112 Z #[.int x0, .int x1] (fun v _ => v = some (.int 1)) := by
  have own_wS : ∀ a ∈ Bundle.stringAtoms, a.before a0 Z = true := fun d hd => by
    simp only [Bundle.stringAtoms, List.mem_cons, List.not_mem_nil, or_false] at hd
    rcases hd with rfl | rfl | rfl | rfl | rfl | rfl | rfl
    · exact (hw _ (List.mem_of_getElem? (i := 1) rfl))
    · exact (hw _ (List.mem_of_getElem? (i := 2) rfl))
    · exact (hw _ (List.mem_of_getElem? (i := 3) rfl))
    · exact (hw _ (List.mem_of_getElem? (i := 4) rfl))
    · exact (hw _ (List.mem_of_getElem? (i := 5) rfl))
    · exact (hw _ (List.mem_of_getElem? (i := 6) rfl))
    · exact (hw _ (List.mem_of_getElem? (i := 7) rfl))
  have own_S0 : Z.Since Z.vm Z.heap.size := State.WarmedH.since (State.WarmedH.refl Z) _
  refine ConW.of (plainFor_of_name pn4) (fun m => ef0 m x0 x1) ?_
  intro p e m below meth c s₀ hnm G0
  obtain ⟨a901, b901, vm901, k901, h901, S901, q901, X901, I901, E901, C901, F901, V901, G901⟩ := G0.ldcStr (n := 64) (vm0 := Z.vm) (k0 := Z.heap.size) (pc' := 2) (k' := 2) (j' := 68) (vs := [.int (48 : Int32), .int (49 : Int32), .int (50 : Int32), .int (51 : Int32), .int (52 : Int32), .int (53 : Int32), .int (54 : Int32), .int (55 : Int32), .int (56 : Int32), .int (57 : Int32), .int (97 : Int32), .int (98 : Int32), .int (99 : Int32), .int (100 : Int32), .int (101 : Int32), .int (102 : Int32)]) (z := 16) own_S0 (Nat.le_refl _) IB.start (by decide) (hw _ (List.mem_of_getElem? (i := 0) rfl)) own_wS hh7 hcw ⟨by decide, by decide +kernel⟩ (by decide) rfl (by decide) at_0 (by decide) (by decide) rfl rfl rfl (by decide) (by decide)
  have T2_901 := Sta.ext X901 T2
  have T4_901 := Sta.ext X901 T4
  have G1 := G901.astoreN (L' := #[.val (.int x0), .val (.int x1), .val (.ref a901), .unset, .unset, .unset, .unset, .unset]) (pc' := 3) at_2 rfl
  obtain ⟨a902, b902, vm902, k902, h902, S902, q902, X902, I902, E902, C902, F902, V902, G902⟩ := G1.ldcStr (n := 64) (vm0 := vm901) (k0 := k901) (pc' := 5) (k' := 4) (j' := 136) (vs := [.int (48 : Int32), .int (49 : Int32), .int (50 : Int32), .int (51 : Int32), .int (52 : Int32), .int (53 : Int32), .int (54 : Int32), .int (55 : Int32), .int (56 : Int32), .int (57 : Int32), .int (65 : Int32), .int (66 : Int32), .int (67 : Int32), .int (68 : Int32), .int (69 : Int32), .int (70 : Int32)]) (z := 16) S901 q901 I901 (by decide) (hw _ (List.mem_of_getElem? (i := 8) rfl)) own_wS hh9 hcw ⟨by decide, by decide +kernel⟩ (by decide) rfl (by decide) at_3 (by decide) (by decide) rfl rfl rfl (by decide) (by decide)
  have Ex2 : Exa Z h902 a901 "java/lang/String" := E901.ext X902
  have Fx3 : Fld Z h902 a901 "java/lang/String" "coder" "B" (.int (0 : Int32)) := C901.ext X902
  have Fx4 : Fld Z h902 a901 "java/lang/String" "value" "[B" (.ref b901) := F901.ext X902
  have Vx5 : Av Z h902 b901 .byte [.int (48 : Int32), .int (49 : Int32), .int (50 : Int32), .int (51 : Int32), .int (52 : Int32), .int (53 : Int32), .int (54 : Int32), .int (55 : Int32), .int (56 : Int32), .int (57 : Int32), .int (97 : Int32), .int (98 : Int32), .int (99 : Int32), .int (100 : Int32), .int (101 : Int32), .int (102 : Int32)] := V901.ext X902
  have T2_902 := Sta.ext X902 T2_901
  have T4_902 := Sta.ext X902 T4_901
  have G6 := G902.astoreN (L' := #[.val (.int x0), .val (.int x1), .val (.ref a901), .val (.ref a902), .unset, .unset, .unset, .unset]) (pc' := 6) at_5 rfl
  obtain ⟨i0, hi0, hx0, hv0⟩ := own_and x1
  have G7 := G6.iloadN (v := x1) (pc' := 7) at_6 rfl
  have G8 := G7.bipush (v := (15 : Int32)) (pc' := 9) at_7
  have G9 := G8.iand (pc' := 10) at_9
  have G10 := G9.istore (L' := #[.val (.int x0), .val (.int x1), .val (.ref a901), .val (.ref a902), .val (.int (x1 &&& (15 : Int32))), .unset, .unset, .unset]) (pc' := 12) at_10 rfl
  have G11 := G10.aloadN (v := (.ref a901)) (pc' := 13) at_12 rfl
  have G12 := G11.iload (v := (x1 &&& (15 : Int32))) (pc' := 15) at_13 rfl
  obtain ⟨v13, h13, ⟨ev13, eh13⟩, g13⟩ := G12.callV (argsL := [(.int (x1 &&& (15 : Int32)))]) (rest := []) (pc' := 18) (k' := 4) (j' := 136) (cn1 l Z a0 hw a901 (x1 &&& (15 : Int32)) h902 Z.heap.size G12.size fm hf T4_902 z hz T2_902 Ex2 Fx3 b901 Fx4 _ i0 (own_lo i0) rfl hx0 hi0 (own_glo i0 hi0) Vx5) rfl Ex2 (hw _ (List.mem_of_getElem? (i := 9) rfl)) (hw _ (List.mem_of_getElem? (i := 10) rfl)) (hw _ (List.mem_of_getElem? (i := 12) rfl)) (hw _ (List.mem_of_getElem? (i := 11) rfl)) (hw _ (List.mem_of_getElem? (i := 1) rfl)) (hw _ (List.mem_of_getElem? (i := 13) rfl)) (by decide) at_15 pd4 rfl (W := 0) rfl rfl (by decide) (by decide) (by decide) (by decide) rfl rfl rfl
  subst ev13
  rw [eh13] at g13
  have G13 := g13 [(.int (own_ch (own_lo i0)))] rfl
  obtain ⟨v14, h14, ⟨ev14, eh14⟩, g14⟩ := G13.callS (argsL := [(.int (own_ch (own_lo i0)))]) (rest := []) (pc' := 21) (k' := 4) (j' := 136) (cn6 l Z a0 hw (own_ch (own_lo i0)) h902 Z.heap.size G13.size) rfl (hw _ (List.mem_of_getElem? (i := 34) rfl)) (hw _ (List.mem_of_getElem? (i := 35) rfl)) (hw _ (List.mem_of_getElem? (i := 36) rfl)) (hw _ (List.mem_of_getElem? (i := 37) rfl)) (by decide) at_18 pd5 rfl (W := 0) rfl rfl (by decide) (by decide) (by decide) (by decide) rfl rfl rfl
  subst ev14
  rw [eh14] at g14
  have G14 := g14 [(.int (fH (own_ch (own_lo i0))))] rfl
  have G15 := G14.iload (v := (x1 &&& (15 : Int32))) (pc' := 23) at_21 rfl
  have G16 := G15.icmpN at_23 26 (Jvm.Free.XT.ii_ne_f ((own_hlo i0 hi0).trans hv0))
  have G17 := G16.aloadN (v := (.ref a902)) (pc' := 27) at_26 rfl
  have G18 := G17.iload (v := (x1 &&& (15 : Int32))) (pc' := 29) at_27 rfl
  obtain ⟨v19, h19, ⟨ev19, eh19⟩, g19⟩ := G18.callV (argsL := [(.int (x1 &&& (15 : Int32)))]) (rest := []) (pc' := 32) (k' := 4) (j' := 136) (cn1 l Z a0 hw a902 (x1 &&& (15 : Int32)) h902 Z.heap.size G18.size fm hf T4_902 z hz T2_902 E902 C902 b902 F902 _ i0 (own_up i0) rfl hx0 hi0 (own_gup i0 hi0) V902) rfl E902 (hw _ (List.mem_of_getElem? (i := 9) rfl)) (hw _ (List.mem_of_getElem? (i := 10) rfl)) (hw _ (List.mem_of_getElem? (i := 12) rfl)) (hw _ (List.mem_of_getElem? (i := 11) rfl)) (hw _ (List.mem_of_getElem? (i := 1) rfl)) (hw _ (List.mem_of_getElem? (i := 13) rfl)) (by decide) at_29 pd4 rfl (W := 0) rfl rfl (by decide) (by decide) (by decide) (by decide) rfl rfl rfl
  subst ev19
  rw [eh19] at g19
  have G19 := g19 [(.int (own_ch (own_up i0)))] rfl
  obtain ⟨v20, h20, ⟨ev20, eh20⟩, g20⟩ := G19.callS (argsL := [(.int (own_ch (own_up i0)))]) (rest := []) (pc' := 35) (k' := 4) (j' := 136) (cn6 l Z a0 hw (own_ch (own_up i0)) h902 Z.heap.size G19.size) rfl (hw _ (List.mem_of_getElem? (i := 34) rfl)) (hw _ (List.mem_of_getElem? (i := 35) rfl)) (hw _ (List.mem_of_getElem? (i := 36) rfl)) (hw _ (List.mem_of_getElem? (i := 37) rfl)) (by decide) at_32 pd5 rfl (W := 0) rfl rfl (by decide) (by decide) (by decide) (by decide) rfl rfl rfl
  subst ev20
  rw [eh20] at g20
  have G20 := g20 [(.int (fH (own_ch (own_up i0))))] rfl
  have G21 := G20.iload (v := (x1 &&& (15 : Int32))) (pc' := 37) at_35 rfl
  have G22 := G21.icmpN at_37 40 (Jvm.Free.XT.ii_ne_f ((own_hup i0 hi0).trans hv0))
  have G23 := G22.iconst (v := (1 : Int32)) (pc' := 41) at_40
  have G24 := G23.goto at_41 45
  have G25 := G24.istore (L' := #[.val (.int x0), .val (.int x1), .val (.ref a901), .val (.ref a902), .val (.int (x1 &&& (15 : Int32))), .val (.int (1 : Int32)), .unset, .unset]) (pc' := 47) at_45 rfl
  have G26 := G25.iloadN (v := x0) (pc' := 48) at_47 rfl
  obtain ⟨v27, h27, ⟨ev27, eh27⟩, g27⟩ := G26.callS (argsL := [(.int x0)]) (rest := []) (pc' := 51) (k' := 4) (j' := 136) (cn6 l Z a0 hw x0 h902 Z.heap.size G26.size) rfl (hw _ (List.mem_of_getElem? (i := 34) rfl)) (hw _ (List.mem_of_getElem? (i := 35) rfl)) (hw _ (List.mem_of_getElem? (i := 36) rfl)) (hw _ (List.mem_of_getElem? (i := 37) rfl)) (by decide) at_48 pd5 rfl (W := 0) rfl rfl (by decide) (by decide) (by decide) (by decide) rfl rfl rfl
  subst ev27
  rw [eh27] at g27
  have G27 := g27 [(.int (fH x0))] rfl
  have G28 := G27.istore (L' := #[.val (.int x0), .val (.int x1), .val (.ref a901), .val (.ref a902), .val (.int (x1 &&& (15 : Int32))), .val (.int (1 : Int32)), .val (.int (fH x0)), .unset]) (pc' := 53) at_51 rfl
  have G29 := G28.iload (v := (fH x0)) (pc' := 55) at_53 rfl
  have G30 := G29.iconst (v := (-1 : Int32)) (pc' := 56) at_55
  by_cases c56_30 : (fH x0) = (-1 : Int32)
  · have G31 := G30.icmpN at_56 59 (Jvm.Free.XT.ii_ne_f c56_30)
    have G32 := G31.iconst (v := (1 : Int32)) (pc' := 60) at_59
    have G33 := G32.istore (L' := #[.val (.int x0), .val (.int x1), .val (.ref a901), .val (.ref a902), .val (.int (x1 &&& (15 : Int32))), .val (.int (1 : Int32)), .val (.int (fH x0)), .val (.int (1 : Int32))]) (pc' := 62) at_60 rfl
    have G34 := G33.goto at_62 110
    have G35 := G34.iload (v := (1 : Int32)) (pc' := 112) at_110 rfl
    have G36 := G35.ifN at_112 115 (Jvm.Free.XT.i0_eq_f (by decide))
    have G37 := G36.iload (v := (1 : Int32)) (pc' := 117) at_115 rfl
    have G38 := G37.ifN at_117 120 (Jvm.Free.XT.i0_eq_f (by decide))
    have G39 := G38.iconst (v := (1 : Int32)) (pc' := 121) at_120
    have G40 := G39.goto at_121 125
    exact G40.retZW S902 q902 at_125 rfl (Or.inr rfl) rfl
  · have G41 := G30.icmpY at_56 65 (Jvm.Free.XT.ii_ne_t c56_30)
    obtain ⟨i1, hi1, er1, ex1⟩ := own_snd x0 c56_30
    have hx1 : (fH x0).toInt = (i1 : Int) := by rw [er1]; exact own_of i1 hi1
    have G42 := G41.iload (v := (fH x0)) (pc' := 67) at_65 rfl
    have G43 := G42.ifN at_67 70 (Jvm.Free.XT.i0_lt_f (own_nn _ i1 hx1))
    have G44 := G43.iload (v := (fH x0)) (pc' := 72) at_70 rfl
    have G45 := G44.bipush (v := (15 : Int32)) (pc' := 74) at_72
    have G46 := G45.icmpN at_74 77 (Jvm.Free.XT.ii_gt_f (own_n15 _ i1 hx1 hi1))
    have G47 := G46.iloadN (v := x0) (pc' := 78) at_77 rfl
    have G48 := G47.aloadN (v := (.ref a901)) (pc' := 79) at_78 rfl
    have G49 := G48.iload (v := (fH x0)) (pc' := 81) at_79 rfl
    obtain ⟨v50, h50, ⟨ev50, eh50⟩, g50⟩ := G49.callV (argsL := [(.int (fH x0))]) (rest := [(.int x0)]) (pc' := 84) (k' := 4) (j' := 136) (cn1 l Z a0 hw a901 (fH x0) h902 Z.heap.size G49.size fm hf T4_902 z hz T2_902 Ex2 Fx3 b901 Fx4 _ i1 (own_lo i1) rfl hx1 hi1 (own_glo i1 hi1) Vx5) rfl Ex2 (hw _ (List.mem_of_getElem? (i := 9) rfl)) (hw _ (List.mem_of_getElem? (i := 10) rfl)) (hw _ (List.mem_of_getElem? (i := 12) rfl)) (hw _ (List.mem_of_getElem? (i := 11) rfl)) (hw _ (List.mem_of_getElem? (i := 1) rfl)) (hw _ (List.mem_of_getElem? (i := 13) rfl)) (by decide) at_81 pd4 rfl (W := 1) rfl rfl (by decide) (by decide) (by decide) (by decide) rfl rfl rfl
    subst ev50
    rw [eh50] at g50
    have G50 := g50 [(.int (own_ch (own_lo i1))), (.int x0)] rfl
    by_cases c84_50 : x0 = (own_ch (own_lo i1))
    · have G51 := G50.icmpY at_84 97 (Jvm.Free.XT.ii_eq_t c84_50)
      have G52 := G51.iconst (v := (1 : Int32)) (pc' := 98) at_97
      have G53 := G52.goto at_98 102
      have G54 := G53.istore (L' := #[.val (.int x0), .val (.int x1), .val (.ref a901), .val (.ref a902), .val (.int (x1 &&& (15 : Int32))), .val (.int (1 : Int32)), .val (.int (fH x0)), .val (.int (1 : Int32))]) (pc' := 104) at_102 rfl
      have G55 := G54.goto at_104 110
      have G56 := G55.iload (v := (1 : Int32)) (pc' := 112) at_110 rfl
      have G57 := G56.ifN at_112 115 (Jvm.Free.XT.i0_eq_f (by decide))
      have G58 := G57.iload (v := (1 : Int32)) (pc' := 117) at_115 rfl
      have G59 := G58.ifN at_117 120 (Jvm.Free.XT.i0_eq_f (by decide))
      have G60 := G59.iconst (v := (1 : Int32)) (pc' := 121) at_120
      have G61 := G60.goto at_121 125
      exact G61.retZW S902 q902 at_125 rfl (Or.inr rfl) rfl
    · have G62 := G50.icmpN at_84 87 (Jvm.Free.XT.ii_eq_f c84_50)
      have G63 := G62.iloadN (v := x0) (pc' := 88) at_87 rfl
      have G64 := G63.aloadN (v := (.ref a902)) (pc' := 89) at_88 rfl
      have G65 := G64.iload (v := (fH x0)) (pc' := 91) at_89 rfl
      obtain ⟨v66, h66, ⟨ev66, eh66⟩, g66⟩ := G65.callV (argsL := [(.int (fH x0))]) (rest := [(.int x0)]) (pc' := 94) (k' := 4) (j' := 136) (cn1 l Z a0 hw a902 (fH x0) h902 Z.heap.size G65.size fm hf T4_902 z hz T2_902 E902 C902 b902 F902 _ i1 (own_up i1) rfl hx1 hi1 (own_gup i1 hi1) V902) rfl E902 (hw _ (List.mem_of_getElem? (i := 9) rfl)) (hw _ (List.mem_of_getElem? (i := 10) rfl)) (hw _ (List.mem_of_getElem? (i := 12) rfl)) (hw _ (List.mem_of_getElem? (i := 11) rfl)) (hw _ (List.mem_of_getElem? (i := 1) rfl)) (hw _ (List.mem_of_getElem? (i := 13) rfl)) (by decide) at_91 pd4 rfl (W := 1) rfl rfl (by decide) (by decide) (by decide) (by decide) rfl rfl rfl
      subst ev66
      rw [eh66] at g66
      have G66 := g66 [(.int (own_ch (own_up i1))), (.int x0)] rfl
      have G67 := G66.icmpN at_94 97 (Jvm.Free.XT.ii_ne_f (ex1.resolve_left c84_50))
      have G68 := G67.iconst (v := (1 : Int32)) (pc' := 98) at_97
      have G69 := G68.goto at_98 102
      have G70 := G69.istore (L' := #[.val (.int x0), .val (.int x1), .val (.ref a901), .val (.ref a902), .val (.int (x1 &&& (15 : Int32))), .val (.int (1 : Int32)), .val (.int (fH x0)), .val (.int (1 : Int32))]) (pc' := 104) at_102 rfl
      have G71 := G70.goto at_104 110
      have G72 := G71.iload (v := (1 : Int32)) (pc' := 112) at_110 rfl
      have G73 := G72.ifN at_112 115 (Jvm.Free.XT.i0_eq_f (by decide))
      have G74 := G73.iload (v := (1 : Int32)) (pc' := 117) at_115 rfl
      have G75 := G74.ifN at_117 120 (Jvm.Free.XT.i0_eq_f (by decide))
      have G76 := G75.iconst (v := (1 : Int32)) (pc' := 121) at_120
      have G77 := G76.goto at_121 125
      exact G77.retZW S902 q902 at_125 rfl (Or.inr rfl) rfl
set_option maxRecDepth 65536 in
set_option maxHeartbeats 40000000 in
theorem comes_1 {Post : Tables → Env → Array Value → State → Outcome → State → Prop} (hpost : ∀ tb e args s v u, (limb_1_1.after args s (.returned v) u = true ∧ limb_1_2.after args s (.returned v) u = true) → ReturnedEndW s (.returned v) u (Jvm.fieldLocs frame_1_writes args s ++ Jvm.arrayLocs frame_1_arrays args s ++ Jvm.staticLocs frame_1_statics s) 8 2112 → Post tb e args s (.returned v) u) :
    ArmFor flags0 classFile x code maxLocals ret World_1 tables_1 room_1 Calls_1 rest_1 Pre_1 Post := by
  intro l hfl _ _ p e ha hc hk s m args below hf hA hF happ hP
  obtain ⟨hcalls, hrest, hpre⟩ := hP
  obtain ⟨-, -, -, hnamed, -, -, -, hat⟩ := (Spec.applies_iff hf).mp happ
  obtain ⟨hg, hn⟩ := and_e (Cond.before_iff.mp (show (Jvm.Cond.and given_1 narrow_1).before args s = true from hpre))
  obtain ⟨hcount, hg0⟩ := and_e hg
  obtain ⟨ga0, ga1⟩ := and_e hg0
  obtain ⟨w0, w1, rfl⟩ : ∃ w0 w1 : Value, args = #[w0, w1] := by
    have hs : args.size = 2 := by simpa [Cond.value, given_1] using hcount
    obtain ⟨L⟩ := args
    match L, hs with
    | [w0, w1], _ => exact ⟨w0, w1, rfl⟩
  have hw := fun d (hd : d ∈ tables_1) => atoms_spec (ws := Jvm.Cond.code x code maxLocals ret :: tables_1) hat d (List.mem_cons_of_mem _ hd)
  obtain ⟨hsets, hown0⟩ := atoms_of _ (rest_1_c_eq ▸ (show rest_1_c.before _ s = true from hrest))
  have n5 := not_v (Cond.before_iff.mp (hsets _ (List.mem_of_getElem? (i := 2) rfl)))
  obtain ⟨i0, ei0⟩ := is_v ga0
  obtain rfl : w0 = (.int i0) := Option.some.inj ei0
  obtain ⟨i1, ei1⟩ := is_v ga1
  obtain rfl : w1 = (.int i1) := Option.some.inj ei1
  obtain ⟨z, ez⟩ := is_v (Cond.before_iff.mp (hsets _ (List.mem_of_getElem? (i := 1) rfl)))
  have T2 : Sta s s.heap "java/lang/String" "COMPACT_STRINGS" "Z" (.int z) := Sta.start ez (Or.inl (hsets _ (List.mem_of_getElem? (i := 0) rfl)))
  obtain ⟨fm, em, rm⟩ := isR_v (Cond.before_iff.mp (hsets _ (List.mem_of_getElem? (i := 8) rfl)))
  have T4 : Sta s s.heap "jdk/internal/util/Preconditions" "SIOOBE_FORMATTER" "Ljava/util/function/BiFunction;" fm := Sta.start em (Or.inl (hsets _ (List.mem_of_getElem? (i := 7) rfl)))
  have hz : ¬ (z = (0 : Int32)) := gotF (Cond.eq_ints ez (Term.int_eval (0))) n5
  obtain ⟨n, o, h1, h2, h3, _, L, rfl, ⟨rfl, N⟩, hq⟩ := lawc l s _ hw i0 i1 fm rm T4 z hz T2 (hsets _ (List.mem_of_getElem? (i := 2) rfl)) (hcalls.1 _ (List.mem_of_getElem? (i := 0) rfl)) (hcalls.1 _ (List.mem_of_getElem? (i := 1) rfl)) p e ha hc hk s m _ below hf ((Spec.applies_iff_loose hf).mp happ).1 ⟨rfl, rfl⟩ trivial
  exact ⟨n, _, h1, h2, h3, hpost _ _ _ _ _ _ ⟨Cond.after_iff.mpr rfl, Cond.after_iff.mpr (eq_i res_at (Term.int_eval (1)) rfl)⟩ ⟨hq.1, hq.2.1, hq.2.2.1, (hq.2.2.2.sift fun y hy => Or.inr (N y hy)).mono (by decide) (by decide)⟩⟩
theorem main_1_1 : Claimed_1_1 := comes_1 fun _ _ _ _ _ _ h hF => ⟨h.1, hF⟩
theorem main_1_2 : Claimed_1_2 := comes_1 fun _ _ _ _ _ _ h hF => ⟨h.2, hF⟩
end Jvm.Pilot.@@N@@
namespace Jvm.Pilot.@@N@@
open Jvm Jvm.ClassFile Sem Op Lib Jvm.Free Jvm.Stand Jvm.Pilot.@@N@@.Jvm.D
/-! MADE BY PROGRAM (witnessworld.py) out of the Statement's table words and the real class files: 17 classes; the members and pool entries that the words name. The judged class is class 1, her method 1. -/
namespace start1
open Jvm.ClassFile
def u (s : String) : CpInfo := .utf8 (stringToUtf16 s)
/-- a pool by its gaps: so many unusable entries, then the entry; so many at the end -/
def gap : Nat → List CpInfo → List CpInfo
  | 0, r => r
  | n + 1, r => .unusable :: gap n r
def poolList (es : List (Nat × CpInfo)) (last : Nat) : List CpInfo := es.foldr (fun e r => gap e.1 (e.2 :: r)) (gap last [])
def pool (es : List (Nat × CpInfo)) (last : Nat) : Array CpInfo := ⟨poolList es last⟩
def fileOf (pool : Array CpInfo) (this : Nat) (attrs : Array Attribute := #[]) (ms : Array MethodInfo := #[]) (fl : Nat := 33) (sup : Nat := 0) (ifs : Array Nat := #[]) (fds : Array FieldInfo := #[]) : ClassFile where
  minorVersion := 0
  majorVersion := 65
  constantPool := pool
  accessFlags := fl
  thisClass := this
  superClass := sup
  interfaces := ifs
  fields := fds
  methods := ms
  attributes := attrs
def plain (name : String) (sup : Option ClassId) : Class where
  name := name
  kind := .ordinary
  loader := none
  accessFlags := 33
  super := sup
  interfaces := #[]
  cf := none
  fields := #[]
  methods := #[]
  instanceTypes := #[]
  staticTypes := #[]
  resolved := #[]
  callSites := []
  init := .initialized
  statics := none
  mirror := none

def pool0 : Array CpInfo := pool [(5, u "<init>"), (0, u "()V"), (1, .class_ 10), (1, u "java/lang/Object")] 113

def k0m0 : Method := { name := "<init>", desc := "()V", sig := { parameters := [], returnType := none }, accessFlags := 1, code := none }
/-- java/lang/Object -/
def k0 : Class := { plain "java/lang/Object" none with
  accessFlags := 33
  interfaces := #[]
  cf := some (fileOf pool0 8 #[] #[{ accessFlags := 1, nameIndex := 5, descriptorIndex := 6, attributes := #[] }] 33 0 #[] #[])
  fields := #[]
  methods := #[k0m0]
  instanceTypes := #[]
  staticTypes := #[]
  resolved := Array.replicate 124 none
  statics := none }

def pool1 : Array CpInfo := pool [(2, .class_ 4), (1, u "java/lang/Object"), (0, u "<init>"), (0, u "()V"), (0, .string 8), (0, u "0123456789abcdef"), (0, .string 10), (0, u "0123456789ABCDEF"), (0, .methodref 12 13), (0, .class_ 14), (0, .nameAndType 15 16), (0, u "java/lang/String"), (0, u "charAt"), (0, u "(I)C"), (0, .methodref 18 19), (0, .class_ 20), (0, .nameAndType 21 22), (0, u "com/example/polyfield/polyfield/text/CodePoints"), (0, u "hexValue"), (0, u "(I)I"), (0, .class_ 24), (0, u "com/example/polyfield/polyfield/text/CodePointsHexValuePinLaw"), (2, u "law"), (0, u "(II)Z")] 3

def k1m0 : Method := { name := "<init>", desc := "()V", sig := { parameters := [], returnType := none }, accessFlags := 1, code := none }
def k1c1 : Code := { maxStack := 3, maxLocals := 8, code := code, exceptionTable := #[], attributes := #[] }
def k1m1 : Method := { name := "law", desc := "(II)Z", sig := { parameters := [.int, .int], returnType := some .boolean }, accessFlags := 9, code := some k1c1 }
/-- com/example/polyfield/polyfield/text/CodePointsHexValuePinLaw -/
def k1 : Class := { plain "com/example/polyfield/polyfield/text/CodePointsHexValuePinLaw" (some 0) with
  accessFlags := 49
  interfaces := #[]
  cf := some (fileOf pool1 23 #[] #[{ accessFlags := 1, nameIndex := 5, descriptorIndex := 6, attributes := #[] }, { accessFlags := 9, nameIndex := 27, descriptorIndex := 28, attributes := #[] }] 49 2 #[] #[])
  fields := #[]
  methods := #[k1m0, k1m1]
  instanceTypes := #[]
  staticTypes := #[]
  resolved := Array.replicate 32 none
  statics := none }

def pool2 : Array CpInfo := pool [(1, .class_ 2), (0, u "java/io/Serializable"), (0, .class_ 4), (0, u "java/lang/Object")] 2

/-- java/io/Serializable -/
def k2 : Class := { plain "java/io/Serializable" (some 0) with
  accessFlags := 1537
  interfaces := #[]
  cf := some (fileOf pool2 1 #[] #[] 1537 3 #[] #[])
  fields := #[]
  methods := #[]
  instanceTypes := #[]
  staticTypes := #[]
  resolved := Array.replicate 7 none
  statics := none }

def pool3 : Array CpInfo := pool [(1, .class_ 2), (0, u "java/lang/Comparable"), (0, .class_ 4), (0, u "java/lang/Object")] 7

/-- java/lang/Comparable -/
def k3 : Class := { plain "java/lang/Comparable" (some 0) with
  accessFlags := 1537
  interfaces := #[]
  cf := some (fileOf pool3 1 #[] #[] 1537 3 #[] #[])
  fields := #[]
  methods := #[]
  instanceTypes := #[]
  staticTypes := #[]
  resolved := Array.replicate 12 none
  statics := none }

def pool4 : Array CpInfo := pool [(2, .class_ 4), (1, u "java/lang/CharSequence"), (42, .class_ 48), (0, u "java/lang/CharSequence$1CodePointIterator"), (10, .class_ 60), (0, u "java/lang/CharSequence$1CharIterator"), (5, .class_ 67), (0, u "java/lang/Object")] 63

/-- java/lang/CharSequence -/
def k4 : Class := { plain "java/lang/CharSequence" (some 0) with
  accessFlags := 1537
  interfaces := #[]
  cf := some (fileOf pool4 2 #[.nestMembers #[47, 59]] #[] 1537 66 #[] #[])
  fields := #[]
  methods := #[]
  instanceTypes := #[]
  staticTypes := #[]
  resolved := Array.replicate 131 none
  statics := none }

def pool5 : Array CpInfo := pool [(1, .class_ 2), (0, u "java/lang/constant/Constable"), (0, .class_ 4), (0, u "java/lang/Object")] 6

/-- java/lang/constant/Constable -/
def k5 : Class := { plain "java/lang/constant/Constable" (some 0) with
  accessFlags := 1537
  interfaces := #[]
  cf := some (fileOf pool5 1 #[] #[] 1537 3 #[] #[])
  fields := #[]
  methods := #[]
  instanceTypes := #[]
  staticTypes := #[]
  resolved := Array.replicate 11 none
  statics := none }

def pool6 : Array CpInfo := pool [(1, .class_ 2), (0, u "java/lang/constant/ConstantDesc"), (0, .class_ 4), (0, u "java/lang/Object")] 32

/-- java/lang/constant/ConstantDesc -/
def k6 : Class := { plain "java/lang/constant/ConstantDesc" (some 0) with
  accessFlags := 1537
  interfaces := #[]
  cf := some (fileOf pool6 1 #[] #[] 1537 3 #[] #[])
  fields := #[]
  methods := #[]
  instanceTypes := #[]
  staticTypes := #[]
  resolved := Array.replicate 37 none
  statics := none }

def pool7 : Array CpInfo := pool [(2, .class_ 4), (1, u "java/lang/Object"), (0, u "<init>"), (0, u "()V"), (2, .fieldref 10 11), (0, .class_ 12), (0, .nameAndType 13 14), (0, u "java/lang/String"), (0, u "value"), (0, u "[B"), (0, .fieldref 10 16), (0, .nameAndType 17 18), (0, u "coder"), (0, u "B"), (2, u "hash"), (0, u "I"), (2, u "hashIsZero"), (0, u "Z"), (11, .fieldref 10 39), (0, .nameAndType 40 26), (0, u "COMPACT_STRINGS"), (66, .class_ 109), (1, u "java/lang/StringLatin1"), (32, u "()Z"), (220, u "([BI)C"), (27, u "(II)V"), (35, u "(I)C"), (64, .methodref 10 493), (0, .nameAndType 494 142), (0, u "isLatin1"), (0, .methodref 107 496), (0, .nameAndType 497 363), (0, u "charAt"), (3, u "checkIndex"), (73, .class_ 576), (0, u "java/lang/CharSequence"), (22, u "CASE_INSENSITIVE_ORDER"), (0, u "Ljava/util/Comparator;"), (452, .fieldref 1054 1055), (0, .class_ 1056), (0, .nameAndType 1057 1058), (0, u "jdk/internal/util/Preconditions"), (0, u "SIOOBE_FORMATTER"), (0, u "Ljava/util/function/BiFunction;"), (0, .methodref 1054 1060), (0, .nameAndType 501 1061), (0, u "(IILjava/util/function/BiFunction;)I"), (39, u "serialPersistentFields"), (0, u "[Ljava/io/ObjectStreamField;"), (0, .class_ 1104), (0, u "java/lang/String$CaseInsensitiveComparator"), (1, .class_ 1107), (0, u "java/io/Serializable"), (0, .class_ 1109), (0, u "java/lang/Comparable"), (0, .class_ 1111), (0, u "java/lang/constant/Constable"), (0, .class_ 1113), (0, u "java/lang/constant/ConstantDesc"), (2, u "serialVersionUID"), (0, u "J"), (3, u "REPL"), (0, u "C"), (2, u "LATIN1"), (1, u "UTF16")] 323

def k7m0 : Method := { name := "<init>", desc := "()V", sig := { parameters := [], returnType := none }, accessFlags := 1, code := none }
def k7c1 : Code := { maxStack := 2, maxLocals := 2, code := jdk_42_method_56_code, exceptionTable := #[], attributes := #[] }
def k7m1 : Method := { name := "charAt", desc := "(I)C", sig := { parameters := [.int], returnType := some .char }, accessFlags := 1, code := some k7c1 }
def k7c2 : Code := { maxStack := 1, maxLocals := 1, code := jdk_42_method_154_code, exceptionTable := #[], attributes := #[] }
def k7m2 : Method := { name := "isLatin1", desc := "()Z", sig := { parameters := [], returnType := some .boolean }, accessFlags := 0, code := some k7c2 }
def k7c3 : Code := { maxStack := 3, maxLocals := 2, code := jdk_42_method_155_code, exceptionTable := #[], attributes := #[] }
def k7m3 : Method := { name := "checkIndex", desc := "(II)V", sig := { parameters := [.int, .int], returnType := none }, accessFlags := 8, code := some k7c3 }
/-- java/lang/String -/
def k7 : Class := { plain "java/lang/String" (some 0) with
  accessFlags := 49
  interfaces := #[2, 3, 4, 5, 6]
  cf := some (fileOf pool7 10 #[.nestMembers #[1103]] #[{ accessFlags := 1, nameIndex := 5, descriptorIndex := 6, attributes := #[] }, { accessFlags := 1, nameIndex := 497, descriptorIndex := 427, attributes := #[] }, { accessFlags := 0, nameIndex := 494, descriptorIndex := 142, attributes := #[] }, { accessFlags := 8, nameIndex := 501, descriptorIndex := 391, attributes := #[] }] 49 2 #[1106, 1108, 575, 1110, 1112] #[{ accessFlags := 18, nameIndex := 13, descriptorIndex := 14, attributes := #[] }, { accessFlags := 18, nameIndex := 17, descriptorIndex := 18, attributes := #[] }, { accessFlags := 2, nameIndex := 21, descriptorIndex := 22, attributes := #[] }, { accessFlags := 2, nameIndex := 25, descriptorIndex := 26, attributes := #[] }, { accessFlags := 26, nameIndex := 1116, descriptorIndex := 1117, attributes := #[] }, { accessFlags := 24, nameIndex := 40, descriptorIndex := 26, attributes := #[] }, { accessFlags := 26, nameIndex := 1101, descriptorIndex := 1102, attributes := #[] }, { accessFlags := 26, nameIndex := 1121, descriptorIndex := 1122, attributes := #[] }, { accessFlags := 25, nameIndex := 599, descriptorIndex := 600, attributes := #[] }, { accessFlags := 24, nameIndex := 1125, descriptorIndex := 18, attributes := #[] }, { accessFlags := 24, nameIndex := 1127, descriptorIndex := 18, attributes := #[] }])
  fields := #[{ name := "value", type := (.array .byte), accessFlags := 18, slot := 0, constantValue := 0 }, { name := "coder", type := .byte, accessFlags := 18, slot := 1, constantValue := 0 }, { name := "hash", type := .int, accessFlags := 2, slot := 2, constantValue := 0 }, { name := "hashIsZero", type := .boolean, accessFlags := 2, slot := 3, constantValue := 0 }, { name := "serialVersionUID", type := .long, accessFlags := 26, slot := 0, constantValue := 0 }, { name := "COMPACT_STRINGS", type := .boolean, accessFlags := 24, slot := 1, constantValue := 0 }, { name := "serialPersistentFields", type := (.array (.object "java/io/ObjectStreamField")), accessFlags := 26, slot := 2, constantValue := 0 }, { name := "REPL", type := .char, accessFlags := 26, slot := 3, constantValue := 0 }, { name := "CASE_INSENSITIVE_ORDER", type := (.object "java/util/Comparator"), accessFlags := 25, slot := 4, constantValue := 0 }, { name := "LATIN1", type := .byte, accessFlags := 24, slot := 5, constantValue := 0 }, { name := "UTF16", type := .byte, accessFlags := 24, slot := 6, constantValue := 0 }]
  methods := #[k7m0, k7m1, k7m2, k7m3]
  instanceTypes := #[(.array .byte), .byte, .int, .boolean]
  staticTypes := #[.long, .boolean, (.array (.object "java/io/ObjectStreamField")), .char, (.object "java/util/Comparator"), .byte, .byte]
  resolved := Array.replicate 1451 none
  statics := some 0 }

def pool8 : Array CpInfo := pool [(1, .class_ 2), (0, u "java/lang/String"), (1, .class_ 6), (1, u "java/lang/Object"), (0, u "<init>"), (0, u "()V"), (0, .methodref 1 10), (0, .nameAndType 11 12), (0, u "checkIndex"), (0, u "(II)V"), (1, .class_ 16), (1, u "java/lang/StringLatin1"), (36, u "([BI)C"), (67, u "$assertionsDisabled"), (0, u "Z"), (98, .class_ 223), (1, u "java/lang/StringLatin1$LinesSpliterator"), (28, u "charAt"), (137, .class_ 391), (0, u "java/lang/StringLatin1$CharsSpliterator")] 3

def k8m0 : Method := { name := "<init>", desc := "()V", sig := { parameters := [], returnType := none }, accessFlags := 0, code := none }
def k8c1 : Code := { maxStack := 2, maxLocals := 2, code := jdk_43_method_2_code, exceptionTable := #[], attributes := #[] }
def k8m1 : Method := { name := "charAt", desc := "([BI)C", sig := { parameters := [(.array .byte), .int], returnType := some .char }, accessFlags := 9, code := some k8c1 }
/-- java/lang/StringLatin1 -/
def k8 : Class := { plain "java/lang/StringLatin1" (some 0) with
  accessFlags := 48
  interfaces := #[]
  cf := some (fileOf pool8 14 #[.nestMembers #[390, 221]] #[{ accessFlags := 0, nameIndex := 7, descriptorIndex := 8, attributes := #[] }, { accessFlags := 9, nameIndex := 252, descriptorIndex := 53, attributes := #[] }] 48 4 #[] #[{ accessFlags := 4120, nameIndex := 121, descriptorIndex := 122, attributes := #[] }])
  fields := #[{ name := "$assertionsDisabled", type := .boolean, accessFlags := 4120, slot := 0, constantValue := 0 }]
  methods := #[k8m0, k8m1]
  instanceTypes := #[]
  staticTypes := #[.boolean]
  resolved := Array.replicate 395 none
  statics := none }

def pool9 : Array CpInfo := pool [(2, .class_ 4), (1, u "java/lang/Object"), (0, u "<init>"), (0, u "()V"), (17, .class_ 26), (1, u "jdk/internal/util/Preconditions"), (6, u "checkIndex"), (21, .class_ 56), (0, u "jdk/internal/util/Preconditions$4"), (57, .class_ 115), (0, u "jdk/internal/util/Preconditions$1"), (7, u "SIOOBE_FORMATTER"), (0, u "Ljava/util/function/BiFunction;"), (0, .class_ 126), (0, u "jdk/internal/util/Preconditions$2"), (3, u "AIOOBE_FORMATTER"), (0, .class_ 132), (0, u "jdk/internal/util/Preconditions$3"), (3, u "IOOBE_FORMATTER"), (41, u "(IILjava/util/function/BiFunction;)I")] 15

def k9m0 : Method := { name := "<init>", desc := "()V", sig := { parameters := [], returnType := none }, accessFlags := 1, code := none }
def k9c1 : Code := { maxStack := 3, maxLocals := 3, code := jdk_41_method_11_code, exceptionTable := #[], attributes := #[] }
def k9m1 : Method := { name := "checkIndex", desc := "(IILjava/util/function/BiFunction;)I", sig := { parameters := [.int, .int, (.object "java/util/function/BiFunction")], returnType := some .int }, accessFlags := 9, code := some k9c1 }
/-- jdk/internal/util/Preconditions -/
def k9 : Class := { plain "jdk/internal/util/Preconditions" (some 0) with
  accessFlags := 33
  interfaces := #[]
  cf := some (fileOf pool9 24 #[.nestMembers #[55, 131, 125, 114]] #[{ accessFlags := 1, nameIndex := 5, descriptorIndex := 6, attributes := #[] }, { accessFlags := 9, nameIndex := 33, descriptorIndex := 178, attributes := #[] }] 33 2 #[] #[{ accessFlags := 25, nameIndex := 123, descriptorIndex := 124, attributes := #[] }, { accessFlags := 25, nameIndex := 130, descriptorIndex := 124, attributes := #[] }, { accessFlags := 25, nameIndex := 136, descriptorIndex := 124, attributes := #[] }])
  fields := #[{ name := "SIOOBE_FORMATTER", type := (.object "java/util/function/BiFunction"), accessFlags := 25, slot := 0, constantValue := 0 }, { name := "AIOOBE_FORMATTER", type := (.object "java/util/function/BiFunction"), accessFlags := 25, slot := 1, constantValue := 0 }, { name := "IOOBE_FORMATTER", type := (.object "java/util/function/BiFunction"), accessFlags := 25, slot := 2, constantValue := 0 }]
  methods := #[k9m0, k9m1]
  instanceTypes := #[]
  staticTypes := #[(.object "java/util/function/BiFunction"), (.object "java/util/function/BiFunction"), (.object "java/util/function/BiFunction")]
  resolved := Array.replicate 194 none
  statics := some 1 }

def pool10 : Array CpInfo := pool [(2, .class_ 4), (1, u "java/lang/Object"), (0, u "<init>"), (0, u "()V"), (9, u "(I)I"), (11, .class_ 29), (0, u "com/example/polyfield/polyfield/text/CodePoints"), (4, u "hexValue")] 2

def k10m0 : Method := { name := "<init>", desc := "()V", sig := { parameters := [], returnType := none }, accessFlags := 2, code := none }
def k10c1 : Code := { maxStack := 2, maxLocals := 2, code := prog_192_method_3_code, exceptionTable := #[], attributes := #[] }
def k10m1 : Method := { name := "hexValue", desc := "(I)I", sig := { parameters := [.int], returnType := some .int }, accessFlags := 9, code := some k10c1 }
/-- com/example/polyfield/polyfield/text/CodePoints -/
def k10 : Class := { plain "com/example/polyfield/polyfield/text/CodePoints" (some 0) with
  accessFlags := 49
  interfaces := #[]
  cf := some (fileOf pool10 28 #[] #[{ accessFlags := 2, nameIndex := 5, descriptorIndex := 6, attributes := #[] }, { accessFlags := 9, nameIndex := 34, descriptorIndex := 16, attributes := #[] }] 49 2 #[] #[])
  fields := #[]
  methods := #[k10m0, k10m1]
  instanceTypes := #[]
  staticTypes := #[]
  resolved := Array.replicate 37 none
  statics := none }

def pool11 : Array CpInfo := pool [(9, u "<init>"), (6, .class_ 18), (1, u "java/lang/Object"), (0, u "()V"), (1, .class_ 23), (1, u "jdk/internal/util/ArraysSupport"), (0, u "LOG2_ARRAY_LONG_INDEX_SCALE"), (0, u "I"), (2, u "U"), (0, u "Ljdk/internal/misc/Unsafe;"), (8, u "BIG_ENDIAN"), (0, u "Z"), (8, u "LOG2_BYTE_BIT_SIZE"), (4, u "LOG2_ARRAY_INT_INDEX_SCALE"), (54, u "JLA"), (0, u "Ljdk/internal/access/JavaLangAccess;"), (11, u "LOG2_ARRAY_BOOLEAN_INDEX_SCALE"), (9, u "LOG2_ARRAY_BYTE_INDEX_SCALE"), (5, u "LOG2_ARRAY_CHAR_INDEX_SCALE"), (5, u "LOG2_ARRAY_SHORT_INDEX_SCALE"), (18, u "LOG2_ARRAY_FLOAT_INDEX_SCALE"), (24, u "LOG2_ARRAY_DOUBLE_INDEX_SCALE"), (89, u "T_BOOLEAN"), (2, u "T_CHAR"), (1, u "T_FLOAT"), (1, u "T_DOUBLE"), (1, u "T_BYTE"), (1, u "T_SHORT"), (1, u "T_INT"), (1, u "T_LONG"), (1, u "SOFT_MAX_ARRAY_LENGTH")] 83

def k11m0 : Method := { name := "<init>", desc := "()V", sig := { parameters := [], returnType := none }, accessFlags := 2, code := none }
/-- jdk/internal/util/ArraysSupport -/
def k11 : Class := { plain "jdk/internal/util/ArraysSupport" (some 0) with
  accessFlags := 33
  interfaces := #[]
  cf := some (fileOf pool11 21 #[] #[{ accessFlags := 2, nameIndex := 9, descriptorIndex := 19, attributes := #[] }] 33 16 #[] #[{ accessFlags := 24, nameIndex := 28, descriptorIndex := 29, attributes := #[] }, { accessFlags := 26, nameIndex := 38, descriptorIndex := 39, attributes := #[] }, { accessFlags := 25, nameIndex := 121, descriptorIndex := 25, attributes := #[] }, { accessFlags := 25, nameIndex := 131, descriptorIndex := 25, attributes := #[] }, { accessFlags := 25, nameIndex := 137, descriptorIndex := 25, attributes := #[] }, { accessFlags := 25, nameIndex := 143, descriptorIndex := 25, attributes := #[] }, { accessFlags := 25, nameIndex := 53, descriptorIndex := 25, attributes := #[] }, { accessFlags := 25, nameIndex := 24, descriptorIndex := 25, attributes := #[] }, { accessFlags := 25, nameIndex := 162, descriptorIndex := 25, attributes := #[] }, { accessFlags := 25, nameIndex := 187, descriptorIndex := 25, attributes := #[] }, { accessFlags := 26, nameIndex := 48, descriptorIndex := 25, attributes := #[] }, { accessFlags := 25, nameIndex := 277, descriptorIndex := 25, attributes := #[] }, { accessFlags := 25, nameIndex := 280, descriptorIndex := 25, attributes := #[] }, { accessFlags := 25, nameIndex := 282, descriptorIndex := 25, attributes := #[] }, { accessFlags := 25, nameIndex := 284, descriptorIndex := 25, attributes := #[] }, { accessFlags := 25, nameIndex := 286, descriptorIndex := 25, attributes := #[] }, { accessFlags := 25, nameIndex := 288, descriptorIndex := 25, attributes := #[] }, { accessFlags := 25, nameIndex := 290, descriptorIndex := 25, attributes := #[] }, { accessFlags := 25, nameIndex := 292, descriptorIndex := 25, attributes := #[] }, { accessFlags := 26, nameIndex := 108, descriptorIndex := 109, attributes := #[] }, { accessFlags := 25, nameIndex := 294, descriptorIndex := 25, attributes := #[] }])
  fields := #[{ name := "U", type := (.object "jdk/internal/misc/Unsafe"), accessFlags := 24, slot := 0, constantValue := 0 }, { name := "BIG_ENDIAN", type := .boolean, accessFlags := 26, slot := 1, constantValue := 0 }, { name := "LOG2_ARRAY_BOOLEAN_INDEX_SCALE", type := .int, accessFlags := 25, slot := 2, constantValue := 0 }, { name := "LOG2_ARRAY_BYTE_INDEX_SCALE", type := .int, accessFlags := 25, slot := 3, constantValue := 0 }, { name := "LOG2_ARRAY_CHAR_INDEX_SCALE", type := .int, accessFlags := 25, slot := 4, constantValue := 0 }, { name := "LOG2_ARRAY_SHORT_INDEX_SCALE", type := .int, accessFlags := 25, slot := 5, constantValue := 0 }, { name := "LOG2_ARRAY_INT_INDEX_SCALE", type := .int, accessFlags := 25, slot := 6, constantValue := 0 }, { name := "LOG2_ARRAY_LONG_INDEX_SCALE", type := .int, accessFlags := 25, slot := 7, constantValue := 0 }, { name := "LOG2_ARRAY_FLOAT_INDEX_SCALE", type := .int, accessFlags := 25, slot := 8, constantValue := 0 }, { name := "LOG2_ARRAY_DOUBLE_INDEX_SCALE", type := .int, accessFlags := 25, slot := 9, constantValue := 0 }, { name := "LOG2_BYTE_BIT_SIZE", type := .int, accessFlags := 26, slot := 10, constantValue := 0 }, { name := "T_BOOLEAN", type := .int, accessFlags := 25, slot := 11, constantValue := 0 }, { name := "T_CHAR", type := .int, accessFlags := 25, slot := 12, constantValue := 0 }, { name := "T_FLOAT", type := .int, accessFlags := 25, slot := 13, constantValue := 0 }, { name := "T_DOUBLE", type := .int, accessFlags := 25, slot := 14, constantValue := 0 }, { name := "T_BYTE", type := .int, accessFlags := 25, slot := 15, constantValue := 0 }, { name := "T_SHORT", type := .int, accessFlags := 25, slot := 16, constantValue := 0 }, { name := "T_INT", type := .int, accessFlags := 25, slot := 17, constantValue := 0 }, { name := "T_LONG", type := .int, accessFlags := 25, slot := 18, constantValue := 0 }, { name := "JLA", type := (.object "jdk/internal/access/JavaLangAccess"), accessFlags := 26, slot := 19, constantValue := 0 }, { name := "SOFT_MAX_ARRAY_LENGTH", type := .int, accessFlags := 25, slot := 20, constantValue := 0 }]
  methods := #[k11m0]
  instanceTypes := #[]
  staticTypes := #[(.object "jdk/internal/misc/Unsafe"), .boolean, .int, .int, .int, .int, .int, .int, .int, .int, .int, .int, .int, .int, .int, .int, .int, .int, .int, (.object "jdk/internal/access/JavaLangAccess"), .int]
  resolved := Array.replicate 378 none
  statics := none }

def pool12 : Array CpInfo := pool [(1, u "java/lang/Cloneable"), (0, .class_ 1), (0, u "java/lang/Object"), (0, .class_ 3)] 3

/-- java/lang/Cloneable -/
def k12 : Class := { plain "java/lang/Cloneable" (some 0) with
  accessFlags := 1537
  interfaces := #[]
  cf := some (fileOf pool12 2 #[] #[] 1537 4 #[] #[])
  fields := #[]
  methods := #[]
  instanceTypes := #[]
  staticTypes := #[]
  resolved := Array.replicate 8 none
  statics := none }

/-- the primitive byte -/
def k13 : Class := { plain "byte" none with kind := .primitive 'B', accessFlags := 0x411 }
/-- [B -/
def k14 : Class := { plain "[B" (some 0) with kind := .array 13 .byte, interfaces := #[12, 2], accessFlags := 1041 }

/-- the primitive int -/
def k15 : Class := { plain "int" none with kind := .primitive 'I', accessFlags := 0x411 }
/-- [I -/
def k16 : Class := { plain "[I" (some 0) with kind := .array 15 .int, interfaces := #[12, 2], accessFlags := 1041 }

def heap : Heap := #[{ cls := 7, slots := #[.long 0, .int 1, .null, .int 0, .null, .int 0, .int 0], vm := .statics 7 },
  { cls := 9, slots := #[.null, .null, .null], vm := .statics 9 }]
def classes : Array Class := #[k0, k1, k2, k3, k4, k5, k6, k7, k8, k9, k10, k11, k12, k13, k14, k15, k16]
def interned : List (Array UInt16 × Addr) := []
def slotsUsed : Nat := 10
def theMethod : MethodId := ⟨1, 1⟩
def args0 : Array Value := #[.int 65, .int 3]
def aboutOver (below : List Frame) : State where
  vm := { classes := classes, interned := interned.toArray }
  heap := heap
  slotsUsed := slotsUsed
  threads := #[{ frames := .invoking theMethod args0 :: below }]
def below0 : List Frame := [.native { method := ⟨0, 0⟩, args := #[] }]
def about1 : State := aboutOver below0
def p0 : Program := .bare "" "" ""
def e0 : Env := launch0.env 0 0 0
theorem w_frames : about1.frames = Frame.invoking theMethod args0 :: below0 := rfl
set_option maxRecDepth 65536 in
theorem w_args : argsFit about1.vm theMethod args0 = true := by decide +kernel
set_option maxRecDepth 65536 in
theorem w_heap : heapFits about1 = true := by decide +kernel
set_option maxRecDepth 65536 in
theorem w_runnable : about1.curStatus? = some .runnable := by decide +kernel
set_option maxRecDepth 65536 in
theorem w_alone : about1.alone = true := by decide +kernel
set_option maxRecDepth 65536 in
theorem w_named : about1.methodNamed? x = some theMethod := by decide +kernel
set_option maxRecDepth 65536 in
theorem w_hears : about1.hears theMethod below0 = true := by decide +kernel
set_option maxRecDepth 65536 in
theorem w_ripe : about1.ripe theMethod args0 below0 = true := by decide +kernel
theorem w_running : about1.status = .running := rfl
set_option maxRecDepth 65536 in
theorem w_room : about1.hasRoom e0.platform room_1 = true :=
  launch0.hasRoom_least _ room_1 (by decide +kernel) (by decide +kernel) (by decide +kernel) (by decide +kernel) (by decide +kernel) (by decide +kernel)
theorem allAtoms_all (ts : List Jvm.Cond) (a : Array Jvm.Value) (st : Jvm.State) : (allAtoms ts).before a st = ts.all (fun c => c.before a st) := by
  induction ts with
  | nil => rfl
  | cons c t ih =>
    show (Jvm.Cond.and c (allAtoms t)).before a st = _
    rw [Jvm.Cond.before_and, ih, List.all_cons]
def words1 : List Jvm.Cond := Jvm.Cond.code x code maxLocals ret :: tables_1
/-- a 'code' word, met by the world's own term for the bytes: nothing is compared byte by byte -/
theorem code_word {y : MethodName} {bytes : ByteArray} {mx : Nat} {rt : Option FieldType} {a : Array Value} {s : State} {m : MethodId} {meth : Method} {c : Code} (h1 : s.methodNamed? y = some m) (h2 : s.vm.method? m = some meth) (h3 : meth.code = some c) (h4 : c.code = bytes)
    (h5 : (c.maxLocals == mx && c.exceptionTable.isEmpty && decide (c.maxStack ≤ mostOperands) && decide (meth.sig.returnType = rt) && !meth.locks && decide (parseMethodDescriptor y.desc = some meth.sig)) = true) : (Jvm.Cond.code y bytes mx rt).before a s = true := by
  simp only [Bool.and_eq_true, beq_iff_eq, Bool.not_eq_true', decide_eq_true_eq] at h5
  obtain ⟨⟨⟨⟨⟨g1, g2⟩, g3⟩, g4⟩, g5⟩, g6⟩ := h5
  simp [Cond.before, Cond.holds, Cond.value, h1, h2, h3, h4, g1, g2, g3, g4, g5, g6]
def isCode : Jvm.Cond → Bool
  | .code _ _ _ _ => true
  | _ => false
theorem all_split {L : List Jvm.Cond} {P : Jvm.Cond → Bool} (h1 : L.all (fun c => isCode c || P c) = true) (h2 : ∀ c ∈ L.filter isCode, P c = true) : L.all P = true := by
  refine List.all_eq_true.mpr fun c hc => ?_
  have h := List.all_eq_true.mp h1 c hc
  rcases Bool.eq_false_or_eq_true (isCode c) with hi | hi
  · exact h2 c (List.mem_filter.mpr ⟨hc, hi⟩)
  · simpa [hi] using h
set_option maxRecDepth 65536 in
theorem w_c0 : (Jvm.Cond.code x code maxLocals ret).before args0 about1 = true := code_word (m := ⟨1, 1⟩) (meth := k1m1) (c := k1c1) (by decide +kernel) rfl rfl rfl (by decide +kernel)
set_option maxRecDepth 65536 in
theorem w_c1 : (Jvm.Cond.code ({ cls := "java/lang/String", name := "charAt", desc := "(I)C" } : Jvm.MethodName) jdk_42_method_56_code (2 : Nat) (Option.some Jvm.ClassFile.FieldType.char)).before args0 about1 = true := code_word (m := ⟨7, 1⟩) (meth := k7m1) (c := k7c1) (by decide +kernel) rfl rfl rfl (by decide +kernel)
set_option maxRecDepth 65536 in
theorem w_c2 : (Jvm.Cond.code ({ cls := "java/lang/String", name := "isLatin1", desc := "()Z" } : Jvm.MethodName) jdk_42_method_154_code (1 : Nat) (Option.some Jvm.ClassFile.FieldType.boolean)).before args0 about1 = true := code_word (m := ⟨7, 2⟩) (meth := k7m2) (c := k7c2) (by decide +kernel) rfl rfl rfl (by decide +kernel)
set_option maxRecDepth 65536 in
theorem w_c3 : (Jvm.Cond.code ({ cls := "java/lang/StringLatin1", name := "charAt", desc := "([BI)C" } : Jvm.MethodName) jdk_43_method_2_code (2 : Nat) (Option.some Jvm.ClassFile.FieldType.char)).before args0 about1 = true := code_word (m := ⟨8, 1⟩) (meth := k8m1) (c := k8c1) (by decide +kernel) rfl rfl rfl (by decide +kernel)
set_option maxRecDepth 65536 in
theorem w_c4 : (Jvm.Cond.code ({ cls := "java/lang/String", name := "checkIndex", desc := "(II)V" } : Jvm.MethodName) jdk_42_method_155_code (2 : Nat) (Option.none : Option Jvm.ClassFile.FieldType)).before args0 about1 = true := code_word (m := ⟨7, 3⟩) (meth := k7m3) (c := k7c3) (by decide +kernel) rfl rfl rfl (by decide +kernel)
set_option maxRecDepth 65536 in
theorem w_c5 : (Jvm.Cond.code ({ cls := "jdk/internal/util/Preconditions", name := "checkIndex", desc := "(IILjava/util/function/BiFunction;)I" } : Jvm.MethodName) jdk_41_method_11_code (3 : Nat) (Option.some Jvm.ClassFile.FieldType.int)).before args0 about1 = true := code_word (m := ⟨9, 1⟩) (meth := k9m1) (c := k9c1) (by decide +kernel) rfl rfl rfl (by decide +kernel)
set_option maxRecDepth 65536 in
theorem w_c6 : (Jvm.Cond.code ({ cls := "com/example/polyfield/polyfield/text/CodePoints", name := "hexValue", desc := "(I)I" } : Jvm.MethodName) prog_192_method_3_code (2 : Nat) (Option.some Jvm.ClassFile.FieldType.int)).before args0 about1 = true := code_word (m := ⟨10, 1⟩) (meth := k10m1) (c := k10c1) (by decide +kernel) rfl rfl rfl (by decide +kernel)
def codes1 : List Jvm.Cond := [Jvm.Cond.code x code maxLocals ret, Jvm.Cond.code ({ cls := "java/lang/String", name := "charAt", desc := "(I)C" } : Jvm.MethodName) jdk_42_method_56_code (2 : Nat) (Option.some Jvm.ClassFile.FieldType.char), Jvm.Cond.code ({ cls := "java/lang/String", name := "isLatin1", desc := "()Z" } : Jvm.MethodName) jdk_42_method_154_code (1 : Nat) (Option.some Jvm.ClassFile.FieldType.boolean), Jvm.Cond.code ({ cls := "java/lang/StringLatin1", name := "charAt", desc := "([BI)C" } : Jvm.MethodName) jdk_43_method_2_code (2 : Nat) (Option.some Jvm.ClassFile.FieldType.char), Jvm.Cond.code ({ cls := "java/lang/String", name := "checkIndex", desc := "(II)V" } : Jvm.MethodName) jdk_42_method_155_code (2 : Nat) (Option.none : Option Jvm.ClassFile.FieldType), Jvm.Cond.code ({ cls := "jdk/internal/util/Preconditions", name := "checkIndex", desc := "(IILjava/util/function/BiFunction;)I" } : Jvm.MethodName) jdk_41_method_11_code (3 : Nat) (Option.some Jvm.ClassFile.FieldType.int), Jvm.Cond.code ({ cls := "com/example/polyfield/polyfield/text/CodePoints", name := "hexValue", desc := "(I)I" } : Jvm.MethodName) prog_192_method_3_code (2 : Nat) (Option.some Jvm.ClassFile.FieldType.int)]
set_option maxRecDepth 65536 in
theorem codes_eq : words1.filter isCode = codes1 := rfl
theorem w_codes : ∀ c ∈ words1.filter isCode, c.before args0 about1 = true := by
  rw [codes_eq]
  intro c hc
  simp only [codes1, List.mem_cons, List.not_mem_nil, or_false] at hc
  rcases hc with rfl | rfl | rfl | rfl | rfl | rfl | rfl
  · exact w_c0
  · exact w_c1
  · exact w_c2
  · exact w_c3
  · exact w_c4
  · exact w_c5
  · exact w_c6
set_option maxRecDepth 65536 in
theorem w_t1 : (words1.take 24).all (fun c => isCode c || c.before args0 about1) = true := by decide +kernel
set_option maxRecDepth 65536 in
theorem w_t2 : (words1.drop 24).all (fun c => isCode c || c.before args0 about1) = true := by decide +kernel
theorem w_tables : (allAtoms (Jvm.Cond.code x code maxLocals ret :: tables_1)).before args0 about1 = true := by
  rw [allAtoms_all]
  show words1.all (fun c => c.before args0 about1) = true
  refine all_split ?_ w_codes
  rw [← List.take_append_drop 24 words1, List.all_append, w_t1, w_t2]
  rfl
set_option maxRecDepth 65536 in
theorem w_rest : rest_1_c.before args0 about1 = true := by decide +kernel
set_option maxRecDepth 65536 in
theorem w_case : (Jvm.Cond.and given_1 narrow_1).before args0 about1 = true := by decide +kernel
set_option maxRecDepth 65536 in
theorem w_consts : constsHeld consts_1 about1 := Jvm.Lit.constsHeldB_iff.mp (by decide +kernel)
theorem w_applies : (headSpec (Jvm.Cond.code x code maxLocals ret :: tables_1) room_1).applies x e0.platform about1 = true :=
  (Spec.applies_iff w_frames).mpr ⟨w_running, w_runnable, w_alone, w_named, w_hears, w_ripe, w_room, w_tables⟩
theorem atStart : AtStart classFile x code maxLocals ret World_1 tables_1 room_1 Calls_1 rest_1 Pre_1 launch0 p0 e0 about1 theMethod args0 below0 :=
  ⟨lists_1, trivial, launch0.admits_env _ _ _, launch0.least_env, fairChoices_fair.cas, fairChoices_fair.clock, w_frames, w_args, w_heap, w_applies, ⟨w_consts, trivial⟩, w_rest, w_case⟩
end start1
theorem witness_1 : WitnessClaimed_1 := ⟨start1.p0, start1.e0, start1.about1, start1.theMethod, start1.args0, start1.below0, start1.atStart⟩
end Jvm.Pilot.@@N@@
