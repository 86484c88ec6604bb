import JvmDerived
import JvmDerived.Pilot.@@N@@Statement
import JvmDerived.Pilot.@@N@@Code
set_option linter.unusedVariables false
set_option linter.unusedSimpArgs false
namespace Jvm.OwnKit
open Sem ClassFile Op Lib Jvm.Stand Jvm.Free Jvm.LawKit Jvm.RoadKit
section OwnKit
set_option maxHeartbeats 4000000
variable {p : Program} {l : Launch} {e : Env} {R : Room} {s : State} {m : MethodId} {args : Array Value} {below : List Frame} {meth : Method} {c : Code} {Z : State} {own : String} {bytes : ByteArray} {maxL : Nat} {ret : Option FieldType} {n0 : Nat} {s₀ : State} {h : Heap} {k j pc : Nat} {L : Array Slot} {S : List Value} {a0 : Array Value}
/-- where a walk stands -/
def Go (p : Program) (l : Launch) (e : Env) (R : Room) (s : State) (m : MethodId) (args : Array Value) (below : List Frame) (meth : Method) (c : Code) (Z : State) (own : String) (bytes : ByteArray) (maxL : Nat) (ret : Option FieldType) (n0 : Nat) (s₀ : State) (h : Heap) (k j pc : Nat) (L : Array Slot) (S : List Value) : Prop :=
  (p.tables.exec = Jvm.exec ∧ c.code = bytes ∧ c.maxLocals = maxL ∧ Z.Warmed39 s.vm ∧ s.vm.findClass own = some m.cls ∧ meth.sig.returnType = ret ∧ meth.locks = false ∧ n0 ≤ s.heap.size) ∧
  ∃ (T : State) (locs : List Loc), Stand p l e R s m args below meth c T locs k j ∧ T.heap = h ∧ Fr n0 locs ∧ ∀ t, Steps p.tables e below (T.setTop (mkF m pc L S)) t → Steps p.tables e below s₀ t
/-- how a walk ends -/
def Fini (p : Program) (e : Env) (below : List Frame) (s s₀ : State) (n0 kc js : Nat) (Q : Option Value → Heap → Prop) : Prop :=
  ∃ s₂ o, Steps p.tables e below s₀ s₂ ∧ s₂.status = .running ∧ Ended s₂ below o ∧ ∃ v L, o = .returned v ∧ (Q v s₂.heap ∧ Fr n0 L) ∧ FrameEnd s o s₂ L kc js
/-- a body's contract at one heap and these arguments -/
def Con (l : Launch) (y : MethodName) (bytes : ByteArray) (maxL : Nat) (ret : Option FieldType) (ws : List Cond) (rm : Room) (kc js : Nat) (Z : State) (as' : Array Value) (h0 : Heap) (n0 : Nat) (Q : Option Value → Heap → Prop) : Prop :=
  MetFree l y (head1 (Cond.code y bytes maxL ret :: ws) rm) (fun a U => a = as' ∧ Z.Warmed39 U.vm ∧ U.heap = h0) (fun _ _ _ _ _ => True) (fun _ U o U' => ∃ v L, o = .returned v ∧ (Q v U'.heap ∧ Fr n0 L) ∧ FrameEnd U o U' L kc js)
theorem Con.of {y : MethodName} {ws : List Cond} {rm : Room} {kc js : Nat} {as' : Array Value} {h0 : Heap} {L0 : Array Slot} {Q : Option Value → Heap → Prop} (hpl : plainFor y = true) (hn : n0 ≤ h0.size) (hef : ∀ m, entryFrame m as' maxL = mkF m 0 L0 [])
    (body : ∀ (p : Program) (e : Env) (s : State) (m : MethodId) (below : List Frame) (meth : Method) (c : Code) (s₀ : State), meth.name = y.name → Go p l e rm s m as' below meth c Z y.cls bytes maxL ret n0 s₀ h0 0 0 0 L0 [] → Fini p e below s s₀ n0 kc js Q) : Con l y bytes maxL ret ws rm kc js Z as' h0 n0 Q := by
  refine MetFree.of_bodySF hpl hisR ?_
  intro p e s m args below meth c s₁ Bd hml0 hP hK
  obtain ⟨rfl, hZ, hh⟩ := hP
  have hx := Bd.exec
  have X0 : Stand p l e rm s m args below meth c s₁ [] 0 0 := Stand.of_body Bd
  exact body p e s m below meth c _ (name_of_methodNamed Bd.named Bd.method).1 ⟨⟨hx, Bd.bytes, hml0, hZ, findClass_of_methodNamed Bd.named, Bd.returns, Bd.notSynchronized, by rw [hh]; exact hn⟩, s₁, [], X0, by rw [← hh, Bd.state]; rfl, Fr.nil n0, fun t k => castTop (hef m) k⟩
/-- the same contract with a weaker word -/
theorem Fini.mono {kc js : Nat} {Q Q' : Option Value → Heap → Prop} (F : Fini p e below s s₀ n0 kc js Q) (hq : ∀ v h, Q v h → Q' v h) : Fini p e below s s₀ n0 kc js Q' := by
  obtain ⟨s₂, o, a1, a2, a3, v, L, a4, ⟨a5, a6⟩, a7⟩ := F
  exact ⟨s₂, o, a1, a2, a3, v, L, a4, ⟨hq _ _ a5, a6⟩, a7⟩
theorem Go.step {pc' : Nat} {L' : Array Slot} {S' : List Value} (G : Go p l e R s m args below meth c Z own bytes maxL ret n0 s₀ h k j pc L S) (f : ∀ T locs, Stand p l e R s m args below meth c T locs k j → T.heap = h → p.tables.exec = Jvm.exec → c.code = bytes → ∀ t, Steps p.tables e below (T.setTop (mkF m pc' L' S')) t → Steps p.tables e below (T.setTop (mkF m pc L S)) t) : Go p l e R s m args below meth c Z own bytes maxL ret n0 s₀ h k j pc' L' S' := by
  obtain ⟨⟨hx, hb, r⟩, T, locs, X, eT, N, st⟩ := G
  exact ⟨⟨hx, hb, r⟩, T, locs, X, eT, N, fun t q => st t (f T locs X eT hx hb t q)⟩
theorem Go.size (G : Go p l e R s m args below meth c Z own bytes maxL ret n0 s₀ h k j pc L S) : n0 ≤ h.size := by
  obtain ⟨⟨_, _, _, _, _, _, _, hn⟩, T, locs, X, eT, N, st⟩ := G
  have q : s.heap.size ≤ T.heap.size := X.same.2.1
  rw [← eT]; exact Nat.le_trans hn q
theorem Go.iadd {x y : Int32} (G : Go p l e R s m args below meth c Z own bytes maxL ret n0 s₀ h k j pc L (.int y :: .int x :: S)) (hd : decode bytes pc = .ok (.iadd, 1))  {pc' : Nat} (hp : pc + 1 = pc' := by rfl) : Go p l e R s m args below meth c Z own bytes maxL ret n0 s₀ h k j pc' L (.int (x + y) :: S) := by
  subst hp; exact G.step fun T locs X eT hx hb t q => XS.iadd X.here hx rfl (Jvm.hb hb hd) rfl  q
theorem Go.isub {x y : Int32} (G : Go p l e R s m args below meth c Z own bytes maxL ret n0 s₀ h k j pc L (.int y :: .int x :: S)) (hd : decode bytes pc = .ok (.isub, 1))  {pc' : Nat} (hp : pc + 1 = pc' := by rfl) : Go p l e R s m args below meth c Z own bytes maxL ret n0 s₀ h k j pc' L (.int (x - y) :: S) := by
  subst hp; exact G.step fun T locs X eT hx hb t q => XS.isub X.here hx rfl (Jvm.hb hb hd) rfl  q
theorem Go.imul {x y : Int32} (G : Go p l e R s m args below meth c Z own bytes maxL ret n0 s₀ h k j pc L (.int y :: .int x :: S)) (hd : decode bytes pc = .ok (.imul, 1))  {pc' : Nat} (hp : pc + 1 = pc' := by rfl) : Go p l e R s m args below meth c Z own bytes maxL ret n0 s₀ h k j pc' L (.int (x * y) :: S) := by
  subst hp; exact G.step fun T locs X eT hx hb t q => XS.imul X.here hx rfl (Jvm.hb hb hd) rfl  q
theorem Go.iand {x y : Int32} (G : Go p l e R s m args below meth c Z own bytes maxL ret n0 s₀ h k j pc L (.int y :: .int x :: S)) (hd : decode bytes pc = .ok (.iand, 1))  {pc' : Nat} (hp : pc + 1 = pc' := by rfl) : Go p l e R s m args below meth c Z own bytes maxL ret n0 s₀ h k j pc' L (.int (x &&& y) :: S) := by
  subst hp; exact G.step fun T locs X eT hx hb t q => XS.iand X.here hx rfl (Jvm.hb hb hd) rfl  q
theorem Go.ior {x y : Int32} (G : Go p l e R s m args below meth c Z own bytes maxL ret n0 s₀ h k j pc L (.int y :: .int x :: S)) (hd : decode bytes pc = .ok (.ior, 1))  {pc' : Nat} (hp : pc + 1 = pc' := by rfl) : Go p l e R s m args below meth c Z own bytes maxL ret n0 s₀ h k j pc' L (.int (x ||| y) :: S) := by
  subst hp; exact G.step fun T locs X eT hx hb t q => XS.ior X.here hx rfl (Jvm.hb hb hd) rfl  q
theorem Go.ixor {x y : Int32} (G : Go p l e R s m args below meth c Z own bytes maxL ret n0 s₀ h k j pc L (.int y :: .int x :: S)) (hd : decode bytes pc = .ok (.ixor, 1))  {pc' : Nat} (hp : pc + 1 = pc' := by rfl) : Go p l e R s m args below meth c Z own bytes maxL ret n0 s₀ h k j pc' L (.int (x ^^^ y) :: S) := by
  subst hp; exact G.step fun T locs X eT hx hb t q => XS.ixor X.here hx rfl (Jvm.hb hb hd) rfl  q
theorem Go.ishl {x y : Int32} (G : Go p l e R s m args below meth c Z own bytes maxL ret n0 s₀ h k j pc L (.int y :: .int x :: S)) (hd : decode bytes pc = .ok (.ishl, 1))  {pc' : Nat} (hp : pc + 1 = pc' := by rfl) : Go p l e R s m args below meth c Z own bytes maxL ret n0 s₀ h k j pc' L (.int (x <<< (y &&& 31)) :: S) := by
  subst hp; exact G.step fun T locs X eT hx hb t q => XS.ishl X.here hx rfl (Jvm.hb hb hd) rfl  q
theorem Go.ishr {x y : Int32} (G : Go p l e R s m args below meth c Z own bytes maxL ret n0 s₀ h k j pc L (.int y :: .int x :: S)) (hd : decode bytes pc = .ok (.ishr, 1))  {pc' : Nat} (hp : pc + 1 = pc' := by rfl) : Go p l e R s m args below meth c Z own bytes maxL ret n0 s₀ h k j pc' L (.int (x >>> (y &&& 31)) :: S) := by
  subst hp; exact G.step fun T locs X eT hx hb t q => XS.ishr X.here hx rfl (Jvm.hb hb hd) rfl  q
theorem Go.iushr {x y : Int32} (G : Go p l e R s m args below meth c Z own bytes maxL ret n0 s₀ h k j pc L (.int y :: .int x :: S)) (hd : decode bytes pc = .ok (.iushr, 1))  {pc' : Nat} (hp : pc + 1 = pc' := by rfl) : Go p l e R s m args below meth c Z own bytes maxL ret n0 s₀ h k j pc' L (.int ((x.toUInt32 >>> (y &&& 31).toUInt32).toInt32) :: S) := by
  subst hp; exact G.step fun T locs X eT hx hb t q => XS.iushr X.here hx rfl (Jvm.hb hb hd) rfl  q
theorem Go.ladd {x y : Int64} (G : Go p l e R s m args below meth c Z own bytes maxL ret n0 s₀ h k j pc L (.long y :: .long x :: S)) (hd : decode bytes pc = .ok (.ladd, 1))  {pc' : Nat} (hp : pc + 1 = pc' := by rfl) : Go p l e R s m args below meth c Z own bytes maxL ret n0 s₀ h k j pc' L (.long (x + y) :: S) := by
  subst hp; exact G.step fun T locs X eT hx hb t q => XS.ladd X.here hx rfl (Jvm.hb hb hd) rfl  q
theorem Go.lsub {x y : Int64} (G : Go p l e R s m args below meth c Z own bytes maxL ret n0 s₀ h k j pc L (.long y :: .long x :: S)) (hd : decode bytes pc = .ok (.lsub, 1))  {pc' : Nat} (hp : pc + 1 = pc' := by rfl) : Go p l e R s m args below meth c Z own bytes maxL ret n0 s₀ h k j pc' L (.long (x - y) :: S) := by
  subst hp; exact G.step fun T locs X eT hx hb t q => XS.lsub X.here hx rfl (Jvm.hb hb hd) rfl  q
theorem Go.lmul {x y : Int64} (G : Go p l e R s m args below meth c Z own bytes maxL ret n0 s₀ h k j pc L (.long y :: .long x :: S)) (hd : decode bytes pc = .ok (.lmul, 1))  {pc' : Nat} (hp : pc + 1 = pc' := by rfl) : Go p l e R s m args below meth c Z own bytes maxL ret n0 s₀ h k j pc' L (.long (x * y) :: S) := by
  subst hp; exact G.step fun T locs X eT hx hb t q => XS.lmul X.here hx rfl (Jvm.hb hb hd) rfl  q
theorem Go.land {x y : Int64} (G : Go p l e R s m args below meth c Z own bytes maxL ret n0 s₀ h k j pc L (.long y :: .long x :: S)) (hd : decode bytes pc = .ok (.land, 1))  {pc' : Nat} (hp : pc + 1 = pc' := by rfl) : Go p l e R s m args below meth c Z own bytes maxL ret n0 s₀ h k j pc' L (.long (x &&& y) :: S) := by
  subst hp; exact G.step fun T locs X eT hx hb t q => XS.land X.here hx rfl (Jvm.hb hb hd) rfl  q
theorem Go.lor {x y : Int64} (G : Go p l e R s m args below meth c Z own bytes maxL ret n0 s₀ h k j pc L (.long y :: .long x :: S)) (hd : decode bytes pc = .ok (.lor, 1))  {pc' : Nat} (hp : pc + 1 = pc' := by rfl) : Go p l e R s m args below meth c Z own bytes maxL ret n0 s₀ h k j pc' L (.long (x ||| y) :: S) := by
  subst hp; exact G.step fun T locs X eT hx hb t q => XS.lor X.here hx rfl (Jvm.hb hb hd) rfl  q
theorem Go.lxor {x y : Int64} (G : Go p l e R s m args below meth c Z own bytes maxL ret n0 s₀ h k j pc L (.long y :: .long x :: S)) (hd : decode bytes pc = .ok (.lxor, 1))  {pc' : Nat} (hp : pc + 1 = pc' := by rfl) : Go p l e R s m args below meth c Z own bytes maxL ret n0 s₀ h k j pc' L (.long (x ^^^ y) :: S) := by
  subst hp; exact G.step fun T locs X eT hx hb t q => XS.lxor X.here hx rfl (Jvm.hb hb hd) rfl  q
theorem Go.lshl {x : Int64} {y : Int32} (G : Go p l e R s m args below meth c Z own bytes maxL ret n0 s₀ h k j pc L (.int y :: .long x :: S)) (hd : decode bytes pc = .ok (.lshl, 1))  {pc' : Nat} (hp : pc + 1 = pc' := by rfl) : Go p l e R s m args below meth c Z own bytes maxL ret n0 s₀ h k j pc' L (.long (x <<< (y &&& 0x3f).toInt64) :: S) := by
  subst hp; exact G.step fun T locs X eT hx hb t q => XS.lshl X.here hx rfl (Jvm.hb hb hd) rfl  q
theorem Go.lshr {x : Int64} {y : Int32} (G : Go p l e R s m args below meth c Z own bytes maxL ret n0 s₀ h k j pc L (.int y :: .long x :: S)) (hd : decode bytes pc = .ok (.lshr, 1))  {pc' : Nat} (hp : pc + 1 = pc' := by rfl) : Go p l e R s m args below meth c Z own bytes maxL ret n0 s₀ h k j pc' L (.long (x >>> (y &&& 0x3f).toInt64) :: S) := by
  subst hp; exact G.step fun T locs X eT hx hb t q => XS.lshr X.here hx rfl (Jvm.hb hb hd) rfl  q
theorem Go.lushr {x : Int64} {y : Int32} (G : Go p l e R s m args below meth c Z own bytes maxL ret n0 s₀ h k j pc L (.int y :: .long x :: S)) (hd : decode bytes pc = .ok (.lushr, 1))  {pc' : Nat} (hp : pc + 1 = pc' := by rfl) : Go p l e R s m args below meth c Z own bytes maxL ret n0 s₀ h k j pc' L (.long ((x.toUInt64 >>> (y &&& 0x3f).toInt64.toUInt64).toInt64) :: S) := by
  subst hp; exact G.step fun T locs X eT hx hb t q => XS.lushr X.here hx rfl (Jvm.hb hb hd) rfl  q
theorem Go.ineg {x : Int32} (G : Go p l e R s m args below meth c Z own bytes maxL ret n0 s₀ h k j pc L (.int x :: S)) (hd : decode bytes pc = .ok (.ineg, 1))  {pc' : Nat} (hp : pc + 1 = pc' := by rfl) : Go p l e R s m args below meth c Z own bytes maxL ret n0 s₀ h k j pc' L (.int (-x) :: S) := by
  subst hp; exact G.step fun T locs X eT hx hb t q => XS.ineg X.here hx rfl (Jvm.hb hb hd) rfl  q
theorem Go.lneg {x : Int64} (G : Go p l e R s m args below meth c Z own bytes maxL ret n0 s₀ h k j pc L (.long x :: S)) (hd : decode bytes pc = .ok (.lneg, 1))  {pc' : Nat} (hp : pc + 1 = pc' := by rfl) : Go p l e R s m args below meth c Z own bytes maxL ret n0 s₀ h k j pc' L (.long (-x) :: S) := by
  subst hp; exact G.step fun T locs X eT hx hb t q => XS.lneg X.here hx rfl (Jvm.hb hb hd) rfl  q
theorem Go.i2l {x : Int32} (G : Go p l e R s m args below meth c Z own bytes maxL ret n0 s₀ h k j pc L (.int x :: S)) (hd : decode bytes pc = .ok (.i2l, 1))  {pc' : Nat} (hp : pc + 1 = pc' := by rfl) : Go p l e R s m args below meth c Z own bytes maxL ret n0 s₀ h k j pc' L (.long (x.toInt64) :: S) := by
  subst hp; exact G.step fun T locs X eT hx hb t q => XS.i2l X.here hx rfl (Jvm.hb hb hd) rfl  q
theorem Go.l2i {x : Int64} (G : Go p l e R s m args below meth c Z own bytes maxL ret n0 s₀ h k j pc L (.long x :: S)) (hd : decode bytes pc = .ok (.l2i, 1))  {pc' : Nat} (hp : pc + 1 = pc' := by rfl) : Go p l e R s m args below meth c Z own bytes maxL ret n0 s₀ h k j pc' L (.int (x.toInt32) :: S) := by
  subst hp; exact G.step fun T locs X eT hx hb t q => XS.l2i X.here hx rfl (Jvm.hb hb hd) rfl  q
theorem Go.i2b {x : Int32} (G : Go p l e R s m args below meth c Z own bytes maxL ret n0 s₀ h k j pc L (.int x :: S)) (hd : decode bytes pc = .ok (.i2b, 1))  {pc' : Nat} (hp : pc + 1 = pc' := by rfl) : Go p l e R s m args below meth c Z own bytes maxL ret n0 s₀ h k j pc' L (.int (x.toInt8.toInt32) :: S) := by
  subst hp; exact G.step fun T locs X eT hx hb t q => XS.i2b X.here hx rfl (Jvm.hb hb hd) rfl  q
theorem Go.i2s {x : Int32} (G : Go p l e R s m args below meth c Z own bytes maxL ret n0 s₀ h k j pc L (.int x :: S)) (hd : decode bytes pc = .ok (.i2s, 1))  {pc' : Nat} (hp : pc + 1 = pc' := by rfl) : Go p l e R s m args below meth c Z own bytes maxL ret n0 s₀ h k j pc' L (.int (x.toInt16.toInt32) :: S) := by
  subst hp; exact G.step fun T locs X eT hx hb t q => XS.i2s X.here hx rfl (Jvm.hb hb hd) rfl  q
theorem Go.i2c {x : Int32} (G : Go p l e R s m args below meth c Z own bytes maxL ret n0 s₀ h k j pc L (.int x :: S)) (hd : decode bytes pc = .ok (.i2c, 1))  {pc' : Nat} (hp : pc + 1 = pc' := by rfl) : Go p l e R s m args below meth c Z own bytes maxL ret n0 s₀ h k j pc' L (.int (x.toUInt32.toUInt16.toUInt32.toInt32) :: S) := by
  subst hp; exact G.step fun T locs X eT hx hb t q => XS.i2c X.here hx rfl (Jvm.hb hb hd) rfl  q
theorem Go.lcmp {x y : Int64} (G : Go p l e R s m args below meth c Z own bytes maxL ret n0 s₀ h k j pc L (.long y :: .long x :: S)) (hd : decode bytes pc = .ok (.lcmp, 1))  {pc' : Nat} (hp : pc + 1 = pc' := by rfl) : Go p l e R s m args below meth c Z own bytes maxL ret n0 s₀ h k j pc' L (.int (Jvm.Free.XT.cmpL x y) :: S) := by
  subst hp; exact G.step fun T locs X eT hx hb t q => Jvm.Free.XT.lcmp X.here hx rfl (Jvm.hb hb hd) rfl  q
theorem Go.idiv {x y : Int32} (G : Go p l e R s m args below meth c Z own bytes maxL ret n0 s₀ h k j pc L (.int y :: .int x :: S)) (hd : decode bytes pc = .ok (.idiv, 1)) (hy : y ≠ 0) {pc' : Nat} (hp : pc + 1 = pc' := by rfl) : Go p l e R s m args below meth c Z own bytes maxL ret n0 s₀ h k j pc' L (.int (x / y) :: S) := by
  subst hp; exact G.step fun T locs X eT hx hb t q => XS.idiv X.here hx rfl (Jvm.hb hb hd) rfl hy q
theorem Go.irem {x y : Int32} (G : Go p l e R s m args below meth c Z own bytes maxL ret n0 s₀ h k j pc L (.int y :: .int x :: S)) (hd : decode bytes pc = .ok (.irem, 1)) (hy : y ≠ 0) {pc' : Nat} (hp : pc + 1 = pc' := by rfl) : Go p l e R s m args below meth c Z own bytes maxL ret n0 s₀ h k j pc' L (.int (x % y) :: S) := by
  subst hp; exact G.step fun T locs X eT hx hb t q => iremM X hx rfl (Jvm.hb hb hd) rfl hy q
theorem Go.lrem {x y : Int64} (G : Go p l e R s m args below meth c Z own bytes maxL ret n0 s₀ h k j pc L (.long y :: .long x :: S)) (hd : decode bytes pc = .ok (.lrem, 1)) (hy : y ≠ 0) {pc' : Nat} (hp : pc + 1 = pc' := by rfl) : Go p l e R s m args below meth c Z own bytes maxL ret n0 s₀ h k j pc' L (.long (x % y) :: S) := by
  subst hp; exact G.step fun T locs X eT hx hb t q => XS.lrem X.here hx rfl (Jvm.hb hb hd) rfl hy (by rw [lrem_mod]; exact q)
theorem Go.iconst {i : Int} (v : Int32) (G : Go p l e R s m args below meth c Z own bytes maxL ret n0 s₀ h k j pc L S) (hd : decode bytes pc = .ok (.iconst i, 1)) (hv : Int32.ofInt i = v := by decide) {pc' : Nat} (hp : pc + 1 = pc' := by rfl) : Go p l e R s m args below meth c Z own bytes maxL ret n0 s₀ h k j pc' L (.int v :: S) := by
  subst hp; exact G.step fun T locs X eT hx hb t q => Jvm.Free.XT.iconstV X.here hx rfl v (Jvm.hb hb hd) hv q
theorem Go.bipush {i : Int} (v : Int32) (G : Go p l e R s m args below meth c Z own bytes maxL ret n0 s₀ h k j pc L S) (hd : decode bytes pc = .ok (.bipush i, 2)) (hv : (Int8.ofInt i).toInt32 = v := by decide) {pc' : Nat} (hp : pc + 2 = pc' := by rfl) : Go p l e R s m args below meth c Z own bytes maxL ret n0 s₀ h k j pc' L (.int v :: S) := by
  subst hp; exact G.step fun T locs X eT hx hb t q => Jvm.Free.XT.bipushV X.here hx rfl v (Jvm.hb hb hd) hv q
theorem Go.sipush {i : Int} (v : Int32) (G : Go p l e R s m args below meth c Z own bytes maxL ret n0 s₀ h k j pc L S) (hd : decode bytes pc = .ok (.sipush i, 3)) (hv : (Int16.ofInt i).toInt32 = v := by decide) {pc' : Nat} (hp : pc + 3 = pc' := by rfl) : Go p l e R s m args below meth c Z own bytes maxL ret n0 s₀ h k j pc' L (.int v :: S) := by
  subst hp; exact G.step fun T locs X eT hx hb t q => Jvm.Free.XT.sipushV X.here hx rfl v (Jvm.hb hb hd) hv q
theorem Go.lconst {i : Fin 2} (v : Int64) (G : Go p l e R s m args below meth c Z own bytes maxL ret n0 s₀ h k j pc L S) (hd : decode bytes pc = .ok (.lconst i, 1)) (hv : Int64.ofNat i = v := by decide) {pc' : Nat} (hp : pc + 1 = pc' := by rfl) : Go p l e R s m args below meth c Z own bytes maxL ret n0 s₀ h k j pc' L (.long v :: S) := by
  subst hp; exact G.step fun T locs X eT hx hb t q => Jvm.Free.XT.lconstV X.here hx rfl v (Jvm.hb hb hd) hv q
theorem Go.aconstNull (G : Go p l e R s m args below meth c Z own bytes maxL ret n0 s₀ h k j pc L S) (hd : decode bytes pc = .ok (.aconst_null, 1)) {pc' : Nat} (hp : pc + 1 = pc' := by rfl) : Go p l e R s m args below meth c Z own bytes maxL ret n0 s₀ h k j pc' L (.null :: S) := by
  subst hp; exact G.step fun T locs X eT hx hb t q => XS.aconstNull X.here hx rfl (Jvm.hb hb hd) q
theorem Go.ldc {i : Nat} {v : Int32} (G : Go p l e R s m args below meth c Z own bytes maxL ret n0 s₀ h k j pc L S) (w : (Cond.constant own i v).before a0 Z = true) (hd : decode bytes pc = .ok (.ldc i, 2)) {pc' : Nat} (hp : pc + 2 = pc' := by rfl) : Go p l e R s m args below meth c Z own bytes maxL ret n0 s₀ h k j pc' L (.int v :: S) := by
  subst hp
  obtain ⟨⟨hx, hb, hm, hZ, ho, r⟩, T, locs, X, eT, N, st⟩ := G
  exact ⟨⟨hx, hb, hm, hZ, ho, r⟩, T, locs, X, eT, N, fun t q => st t (X.ldcInt hx ho (mvT hZ w) (g := mkF m pc L S) rfl (Jvm.hb hb hd) t q)⟩
theorem Go.ldc2 {i : Nat} {v : Int64} (G : Go p l e R s m args below meth c Z own bytes maxL ret n0 s₀ h k j pc L S) (w : (Cond.constantLong own i v).before a0 Z = true) (hd : decode bytes pc = .ok (.ldc2_w i, 3)) {pc' : Nat} (hp : pc + 3 = pc' := by rfl) : Go p l e R s m args below meth c Z own bytes maxL ret n0 s₀ h k j pc' L (.long v :: S) := by
  subst hp
  obtain ⟨⟨hx, hb, hm, hZ, ho, r⟩, T, locs, X, eT, N, st⟩ := G
  exact ⟨⟨hx, hb, hm, hZ, ho, r⟩, T, locs, X, eT, N, fun t q => st t (X.ldc2Long hx ho (mvT hZ w) (g := mkF m pc L S) rfl (Jvm.hb hb hd) t q)⟩
theorem Go.iloadN {i : Fin 4} {v : Int32} (G : Go p l e R s m args below meth c Z own bytes maxL ret n0 s₀ h k j pc L S) (hd : decode bytes pc = .ok (.iload_n i, 1)) (hl : L[i.val]? = some (.val (.int v))) {pc' : Nat} (hp : pc + 1 = pc' := by rfl) : Go p l e R s m args below meth c Z own bytes maxL ret n0 s₀ h k j pc' L (.int v :: S) := by
  subst hp; exact G.step fun T locs X eT hx hb t q => XS.iloadN X.here hx rfl (Jvm.hb hb hd) hl q
theorem Go.iload {i : Nat} {v : Int32} (G : Go p l e R s m args below meth c Z own bytes maxL ret n0 s₀ h k j pc L S) (hd : decode bytes pc = .ok (.iload i, 2)) (hl : L[i]? = some (.val (.int v))) {pc' : Nat} (hp : pc + 2 = pc' := by rfl) : Go p l e R s m args below meth c Z own bytes maxL ret n0 s₀ h k j pc' L (.int v :: S) := by
  subst hp; exact G.step fun T locs X eT hx hb t q => XS.iload X.here hx rfl (Jvm.hb hb hd) hl q
theorem Go.lloadN {i : Fin 4} {v : Int64} (G : Go p l e R s m args below meth c Z own bytes maxL ret n0 s₀ h k j pc L S) (hd : decode bytes pc = .ok (.lload_n i, 1)) (hl : L[i.val]? = some (.val (.long v))) {pc' : Nat} (hp : pc + 1 = pc' := by rfl) : Go p l e R s m args below meth c Z own bytes maxL ret n0 s₀ h k j pc' L (.long v :: S) := by
  subst hp; exact G.step fun T locs X eT hx hb t q => XS.lloadN X.here hx rfl (Jvm.hb hb hd) hl q
theorem Go.lload {i : Nat} {v : Int64} (G : Go p l e R s m args below meth c Z own bytes maxL ret n0 s₀ h k j pc L S) (hd : decode bytes pc = .ok (.lload i, 2)) (hl : L[i]? = some (.val (.long v))) {pc' : Nat} (hp : pc + 2 = pc' := by rfl) : Go p l e R s m args below meth c Z own bytes maxL ret n0 s₀ h k j pc' L (.long v :: S) := by
  subst hp; exact G.step fun T locs X eT hx hb t q => XS.lload X.here hx rfl (Jvm.hb hb hd) hl q
theorem Go.aloadN {i : Fin 4} {v : Value} (G : Go p l e R s m args below meth c Z own bytes maxL ret n0 s₀ h k j pc L S) (hd : decode bytes pc = .ok (.aload_n i, 1)) (hl : L[i.val]? = some (.val v)) (hv : v.isRef = true := by rfl) {pc' : Nat} (hp : pc + 1 = pc' := by rfl) : Go p l e R s m args below meth c Z own bytes maxL ret n0 s₀ h k j pc' L (v :: S) := by
  subst hp; exact G.step fun T locs X eT hx hb t q => XS.aloadN X.here hx rfl (Jvm.hb hb hd) hl hv q
theorem Go.aload {i : Nat} {v : Value} (G : Go p l e R s m args below meth c Z own bytes maxL ret n0 s₀ h k j pc L S) (hd : decode bytes pc = .ok (.aload i, 2)) (hl : L[i]? = some (.val v)) (hv : v.isRef = true := by rfl) {pc' : Nat} (hp : pc + 2 = pc' := by rfl) : Go p l e R s m args below meth c Z own bytes maxL ret n0 s₀ h k j pc' L (v :: S) := by
  subst hp; exact G.step fun T locs X eT hx hb t q => XS.aload X.here hx rfl (Jvm.hb hb hd) hl hv q
theorem Go.istoreN {i : Fin 4} {x : Int32} {L' : Array Slot} (G : Go p l e R s m args below meth c Z own bytes maxL ret n0 s₀ h k j pc L (.int x :: S)) (hd : decode bytes pc = .ok (.istore_n i, 1)) (hl : storeLocals L i.val (.int x) = some L') {pc' : Nat} (hp : pc + 1 = pc' := by rfl) : Go p l e R s m args below meth c Z own bytes maxL ret n0 s₀ h k j pc' L' S := by
  subst hp; exact G.step fun T locs X eT hx hb t q => XS.istoreN X.here hx rfl (Jvm.hb hb hd) rfl hl q
theorem Go.istore {i : Nat} {x : Int32} {L' : Array Slot} (G : Go p l e R s m args below meth c Z own bytes maxL ret n0 s₀ h k j pc L (.int x :: S)) (hd : decode bytes pc = .ok (.istore i, 2)) (hl : storeLocals L i (.int x) = some L') {pc' : Nat} (hp : pc + 2 = pc' := by rfl) : Go p l e R s m args below meth c Z own bytes maxL ret n0 s₀ h k j pc' L' S := by
  subst hp; exact G.step fun T locs X eT hx hb t q => XS.istore X.here hx rfl (Jvm.hb hb hd) rfl hl q
theorem Go.lstoreN {i : Fin 4} {x : Int64} {L' : Array Slot} (G : Go p l e R s m args below meth c Z own bytes maxL ret n0 s₀ h k j pc L (.long x :: S)) (hd : decode bytes pc = .ok (.lstore_n i, 1)) (hl : storeLocals L i.val (.long x) = some L') {pc' : Nat} (hp : pc + 1 = pc' := by rfl) : Go p l e R s m args below meth c Z own bytes maxL ret n0 s₀ h k j pc' L' S := by
  subst hp; exact G.step fun T locs X eT hx hb t q => XS.lstoreN X.here hx rfl (Jvm.hb hb hd) rfl hl q
theorem Go.lstore {i : Nat} {x : Int64} {L' : Array Slot} (G : Go p l e R s m args below meth c Z own bytes maxL ret n0 s₀ h k j pc L (.long x :: S)) (hd : decode bytes pc = .ok (.lstore i, 2)) (hl : storeLocals L i (.long x) = some L') {pc' : Nat} (hp : pc + 2 = pc' := by rfl) : Go p l e R s m args below meth c Z own bytes maxL ret n0 s₀ h k j pc' L' S := by
  subst hp; exact G.step fun T locs X eT hx hb t q => XS.lstore X.here hx rfl (Jvm.hb hb hd) rfl hl q
theorem Go.astoreN {i : Fin 4} {x : Value} {L' : Array Slot} (G : Go p l e R s m args below meth c Z own bytes maxL ret n0 s₀ h k j pc L (x :: S)) (hd : decode bytes pc = .ok (.astore_n i, 1)) (hl : storeLocals L i.val x = some L') (hv : x.isRef = true := by rfl) {pc' : Nat} (hp : pc + 1 = pc' := by rfl) : Go p l e R s m args below meth c Z own bytes maxL ret n0 s₀ h k j pc' L' S := by
  subst hp; exact G.step fun T locs X eT hx hb t q => XS.astoreN X.here hx rfl (Jvm.hb hb hd) rfl hv hl q
theorem Go.astore {i : Nat} {x : Value} {L' : Array Slot} (G : Go p l e R s m args below meth c Z own bytes maxL ret n0 s₀ h k j pc L (x :: S)) (hd : decode bytes pc = .ok (.astore i, 2)) (hl : storeLocals L i x = some L') (hv : x.isRef = true := by rfl) {pc' : Nat} (hp : pc + 2 = pc' := by rfl) : Go p l e R s m args below meth c Z own bytes maxL ret n0 s₀ h k j pc' L' S := by
  subst hp; exact G.step fun T locs X eT hx hb t q => XS.astore X.here hx rfl (Jvm.hb hb hd) rfl hv hl q
theorem Go.iinc {i : Nat} {cst : Int} {x : Int32} {L' : Array Slot} (v : Int32) (G : Go p l e R s m args below meth c Z own bytes maxL ret n0 s₀ h k j pc L S) (hd : decode bytes pc = .ok (.iinc i cst, 3)) (hl : L[i]? = some (.val (.int x))) (hl' : storeLocals L i (.int (x + v)) = some L') (hv : Int32.ofInt cst = v := by decide) {pc' : Nat} (hp : pc + 3 = pc' := by rfl) : Go p l e R s m args below meth c Z own bytes maxL ret n0 s₀ h k j pc' L' S := by
  subst hp; exact G.step fun T locs X eT hx hb t q => Jvm.Free.XT.iincV X.here hx rfl v (Jvm.hb hb hd) hv hl hl' q
theorem Go.dup {x : Value} (G : Go p l e R s m args below meth c Z own bytes maxL ret n0 s₀ h k j pc L (x :: S)) (hd : decode bytes pc = .ok (.dup, 1)) (hc : x.category = 1 := by rfl) {pc' : Nat} (hp : pc + 1 = pc' := by rfl) : Go p l e R s m args below meth c Z own bytes maxL ret n0 s₀ h k j pc' L (x :: x :: S) := by
  subst hp; exact G.step fun T locs X eT hx hb t q => XS.dup X.here hx rfl (Jvm.hb hb hd) rfl hc q
theorem Go.pop {x : Value} (G : Go p l e R s m args below meth c Z own bytes maxL ret n0 s₀ h k j pc L (x :: S)) (hd : decode bytes pc = .ok (.pop, 1)) (hc : x.category = 1 := by rfl) {pc' : Nat} (hp : pc + 1 = pc' := by rfl) : Go p l e R s m args below meth c Z own bytes maxL ret n0 s₀ h k j pc' L S := by
  subst hp; exact G.step fun T locs X eT hx hb t q => XS.pop X.here hx rfl (Jvm.hb hb hd) rfl hc q
theorem Go.dupX1 {x y : Value} (G : Go p l e R s m args below meth c Z own bytes maxL ret n0 s₀ h k j pc L (x :: y :: S)) (hd : decode bytes pc = .ok (.dup_x1, 1)) (hc : x.category = 1 := by rfl) (hc2 : y.category = 1 := by rfl) {pc' : Nat} (hp : pc + 1 = pc' := by rfl) : Go p l e R s m args below meth c Z own bytes maxL ret n0 s₀ h k j pc' L (x :: y :: x :: S) := by
  subst hp; exact G.step fun T locs X eT hx hb t q => XS.dupX1 X.here hx rfl (Jvm.hb hb hd) rfl hc hc2 q
theorem Go.dup2 {x y : Value} (G : Go p l e R s m args below meth c Z own bytes maxL ret n0 s₀ h k j pc L (x :: y :: S)) (hd : decode bytes pc = .ok (.dup2, 1)) (hc : x.category = 1 := by rfl) (hc2 : y.category = 1 := by rfl) {pc' : Nat} (hp : pc + 1 = pc' := by rfl) : Go p l e R s m args below meth c Z own bytes maxL ret n0 s₀ h k j pc' L (x :: y :: x :: y :: S) := by
  subst hp; exact G.step fun T locs X eT hx hb t q => Jvm.Free.XT.dup2 X.here hx rfl (Jvm.hb hb hd) rfl hc hc2 q
theorem Go.goto {o : Int} (G : Go p l e R s m args below meth c Z own bytes maxL ret n0 s₀ h k j pc L S) (hd : decode bytes pc = .ok (.goto o, 3)) (pc' : Nat) (ho : 0 ≤ (pc : Int) + o := by decide) (hp : ((pc : Int) + o).toNat = pc' := by decide) : Go p l e R s m args below meth c Z own bytes maxL ret n0 s₀ h k j pc' L S := by
  exact G.step fun T locs X eT hx hb t q => XS.goto X.here hx rfl (pc0 := pc) (pc' := pc') rfl (Jvm.hb hb hd) ho hp q
theorem Go.ifY {cd : ClassFile.Cond} {o : Int} {x : Int32} (G : Go p l e R s m args below meth c Z own bytes maxL ret n0 s₀ h k j pc L (.int x :: S)) (hd : decode bytes pc = .ok (.ifCond cd o, 3)) (pc' : Nat) (hc : ifCond.holds cd x = true) (ho : 0 ≤ (pc : Int) + o := by decide) (hp : ((pc : Int) + o).toNat = pc' := by decide) : Go p l e R s m args below meth c Z own bytes maxL ret n0 s₀ h k j pc' L S := by
  exact G.step fun T locs X eT hx hb t q => XS.ifYes X.here hx rfl (pc0 := pc) (pc' := pc') rfl (Jvm.hb hb hd) rfl hc ho hp q
theorem Go.ifN {cd : ClassFile.Cond} {o : Int} {x : Int32} (G : Go p l e R s m args below meth c Z own bytes maxL ret n0 s₀ h k j pc L (.int x :: S)) (hd : decode bytes pc = .ok (.ifCond cd o, 3)) (pc' : Nat) (hc : ifCond.holds cd x = false) (hp : pc + 3 = pc' := by rfl) : Go p l e R s m args below meth c Z own bytes maxL ret n0 s₀ h k j pc' L S := by
  subst hp; exact G.step fun T locs X eT hx hb t q => XS.ifNo X.here hx rfl (Jvm.hb hb hd) rfl hc q
theorem Go.icmpY {cd : ClassFile.Cond} {o : Int} {x y : Int32} (G : Go p l e R s m args below meth c Z own bytes maxL ret n0 s₀ h k j pc L (.int y :: .int x :: S)) (hd : decode bytes pc = .ok (.if_icmp cd o, 3)) (pc' : Nat) (hc : if_icmp.holds cd x y = true) (ho : 0 ≤ (pc : Int) + o := by decide) (hp : ((pc : Int) + o).toNat = pc' := by decide) : Go p l e R s m args below meth c Z own bytes maxL ret n0 s₀ h k j pc' L S := by
  exact G.step fun T locs X eT hx hb t q => XS.icmpYes X.here hx rfl (pc0 := pc) (pc' := pc') rfl (Jvm.hb hb hd) rfl hc ho hp q
theorem Go.icmpN {cd : ClassFile.Cond} {o : Int} {x y : Int32} (G : Go p l e R s m args below meth c Z own bytes maxL ret n0 s₀ h k j pc L (.int y :: .int x :: S)) (hd : decode bytes pc = .ok (.if_icmp cd o, 3)) (pc' : Nat) (hc : if_icmp.holds cd x y = false) (hp : pc + 3 = pc' := by rfl) : Go p l e R s m args below meth c Z own bytes maxL ret n0 s₀ h k j pc' L S := by
  subst hp; exact G.step fun T locs X eT hx hb t q => XS.icmpNo X.here hx rfl (Jvm.hb hb hd) rfl hc q
theorem Go.ifnullY {o : Int} (G : Go p l e R s m args below meth c Z own bytes maxL ret n0 s₀ h k j pc L (.null :: S)) (hd : decode bytes pc = .ok (.ifnull o, 3)) (pc' : Nat) (ho : 0 ≤ (pc : Int) + o := by decide) (hp : ((pc : Int) + o).toNat = pc' := by decide) : Go p l e R s m args below meth c Z own bytes maxL ret n0 s₀ h k j pc' L S := by
  exact G.step fun T locs X eT hx hb t q => XS.ifnullYes X.here hx rfl (pc0 := pc) (pc' := pc') rfl (Jvm.hb hb hd) rfl ho hp q
theorem Go.ifnullN {o : Int} {b : Addr} (G : Go p l e R s m args below meth c Z own bytes maxL ret n0 s₀ h k j pc L (.ref b :: S)) (hd : decode bytes pc = .ok (.ifnull o, 3)) (pc' : Nat) (hp : pc + 3 = pc' := by rfl) : Go p l e R s m args below meth c Z own bytes maxL ret n0 s₀ h k j pc' L S := by
  subst hp; exact G.step fun T locs X eT hx hb t q => XS.ifnullNo X.here hx rfl (Jvm.hb hb hd) rfl q
theorem Go.ifnonnullY {o : Int} {b : Addr} (G : Go p l e R s m args below meth c Z own bytes maxL ret n0 s₀ h k j pc L (.ref b :: S)) (hd : decode bytes pc = .ok (.ifnonnull o, 3)) (pc' : Nat) (ho : 0 ≤ (pc : Int) + o := by decide) (hp : ((pc : Int) + o).toNat = pc' := by decide) : Go p l e R s m args below meth c Z own bytes maxL ret n0 s₀ h k j pc' L S := by
  exact G.step fun T locs X eT hx hb t q => XS.ifnonnullYes X.here hx rfl (pc0 := pc) (pc' := pc') rfl (Jvm.hb hb hd) rfl ho hp q
theorem Go.ifnonnullN {o : Int} (G : Go p l e R s m args below meth c Z own bytes maxL ret n0 s₀ h k j pc L (.null :: S)) (hd : decode bytes pc = .ok (.ifnonnull o, 3)) (pc' : Nat) (hp : pc + 3 = pc' := by rfl) : Go p l e R s m args below meth c Z own bytes maxL ret n0 s₀ h k j pc' L S := by
  subst hp; exact G.step fun T locs X eT hx hb t q => XS.ifnonnullNo X.here hx rfl (Jvm.hb hb hd) rfl q
theorem Go.out {w : Value} {t : FieldType} {i : Instr} {kc js : Nat} {Q : Option Value → Heap → Prop} (G : Go p l e R s m args below meth c Z own bytes maxL ret n0 s₀ h k j pc L (w :: S)) (hr : ret = some t) (hn : narrow t w = w)
    (hi : (i = .ireturn ∧ (t = .int ∨ t = .boolean ∨ t = .byte ∨ t = .char ∨ t = .short) ∧ ∃ z, w = .int z) ∨ (i = .lreturn ∧ t = .long ∧ ∃ z, w = .long z) ∨ (i = .dreturn ∧ t = .double ∧ ∃ z, w = .double z) ∨ (i = .freturn ∧ t = .float ∧ ∃ z, w = .float z) ∨ (i = .areturn ∧ t.isReference = true ∧ w.isRef = true))
    (hd : decode bytes pc = .ok (i, 1)) (hQ : Q (some w) h) (hk : k ≤ kc) (hj : j ≤ js) : Fini p e below s s₀ n0 kc js Q := by
  obtain ⟨⟨hx, hb, hm, hZ, ho, hret, hlk, hn0⟩, T, locs, X, eT, N, st⟩ := G
  subst hr
  obtain ⟨fs, hr, hrun, hended, hW, hsame⟩ := X.leave (v := some w) (fun h => by rw [hret] at h; cases h) hlk
  exact ⟨_, _, st _ (retOut X hx hret hn hi (Jvm.hb hb hd) hr), hrun, hended, _, _, rfl, ⟨by show Q _ T.heap; rw [eT]; exact hQ, N⟩, ⟨_, rfl⟩, hW, hsame.mono hk hj⟩
theorem Go.retI {z : Int32} {kc js : Nat} {Q : Option Value → Heap → Prop} (G : Go p l e R s m args below meth c Z own bytes maxL ret n0 s₀ h k j pc L (.int z :: S)) (hd : decode bytes pc = .ok (.ireturn, 1)) (hr : ret = some .int) (hQ : Q (some (.int z)) h) (hk : k ≤ kc := by decide) (hj : j ≤ js := by decide) : Fini p e below s s₀ n0 kc js Q :=
  G.out hr rfl (Or.inl ⟨rfl, Or.inl rfl, z, rfl⟩) hd hQ hk hj
theorem Go.retS {z : Int32} {t : FieldType} {kc js : Nat} {Q : Option Value → Heap → Prop} (G : Go p l e R s m args below meth c Z own bytes maxL ret n0 s₀ h k j pc L (.int z :: S)) (hd : decode bytes pc = .ok (.ireturn, 1)) (hr : ret = some t) (ht : t = .int ∨ t = .boolean ∨ t = .byte ∨ t = .char ∨ t = .short) (hn : narrow t (.int z) = .int z) (hQ : Q (some (.int z)) h) (hk : k ≤ kc := by decide) (hj : j ≤ js := by decide) : Fini p e below s s₀ n0 kc js Q :=
  G.out hr hn (Or.inl ⟨rfl, ht, z, rfl⟩) hd hQ hk hj
theorem Go.retZ {z : Int32} {kc js : Nat} {Q : Option Value → Heap → Prop} (G : Go p l e R s m args below meth c Z own bytes maxL ret n0 s₀ h k j pc L (.int z :: S)) (hd : decode bytes pc = .ok (.ireturn, 1)) (hr : ret = some .boolean) (hn : z = 0 ∨ z = 1) (hQ : Q (some (.int z)) h) (hk : k ≤ kc := by decide) (hj : j ≤ js := by decide) : Fini p e below s s₀ n0 kc js Q :=
  G.out hr (by rcases hn with rfl | rfl <;> rfl) (Or.inl ⟨rfl, Or.inr (Or.inl rfl), z, rfl⟩) hd hQ hk hj
theorem Go.retJ {z : Int64} {kc js : Nat} {Q : Option Value → Heap → Prop} (G : Go p l e R s m args below meth c Z own bytes maxL ret n0 s₀ h k j pc L (.long z :: S)) (hd : decode bytes pc = .ok (.lreturn, 1)) (hr : ret = some .long) (hQ : Q (some (.long z)) h) (hk : k ≤ kc := by decide) (hj : j ≤ js := by decide) : Fini p e below s s₀ n0 kc js Q :=
  G.out hr rfl (Or.inr (Or.inl ⟨rfl, rfl, z, rfl⟩)) hd hQ hk hj
theorem Go.retA {a : Addr} {t : FieldType} {kc js : Nat} {Q : Option Value → Heap → Prop} (G : Go p l e R s m args below meth c Z own bytes maxL ret n0 s₀ h k j pc L (.ref a :: S)) (hd : decode bytes pc = .ok (.areturn, 1)) (hr : ret = some t) (ht : t.isReference = true) (hn : narrow t (.ref a) = .ref a) (hQ : Q (some (.ref a)) h) (hk : k ≤ kc := by decide) (hj : j ≤ js := by decide) : Fini p e below s s₀ n0 kc js Q :=
  G.out hr hn (Or.inr (Or.inr (Or.inr (Or.inr ⟨rfl, ht, rfl⟩)))) hd hQ hk hj
theorem Go.retV {kc js : Nat} {Q : Option Value → Heap → Prop} (G : Go p l e R s m args below meth c Z own bytes maxL ret n0 s₀ h k j pc L []) (hd : decode bytes pc = .ok (.return_, 1)) (hr : ret = none) (hQ : Q none h) (hk : k ≤ kc := by decide) (hj : j ≤ js := by decide) : Fini p e below s s₀ n0 kc js Q := by
  obtain ⟨⟨hx, hb, hm, hZ, ho, hret, hlk, hn0⟩, T, locs, X, eT, N, st⟩ := G
  subst hr
  obtain ⟨fs, hr, hrun, hended, hW, hsame⟩ := X.leave (v := none) (fun _ => rfl) hlk
  exact ⟨_, _, st _ (X.returnOut hx hret (Jvm.hb hb hd) hr), hrun, hended, _, _, rfl, ⟨by show Q _ T.heap; rw [eT]; exact hQ, N⟩, ⟨_, rfl⟩, hW, hsame.mono hk hj⟩
theorem Go.callS {S0 argsL rest : List Value} {y : MethodName} {bytes' : ByteArray} {maxL' : Nat} {ret' r : Option FieldType} {ps : List FieldType} {rm : Room} {index : Nat} {Q : Option Value → Heap → Prop} (G : Go p l e R s m args below meth c Z own bytes maxL ret n0 s₀ h k j pc L S0) (C : Con l y bytes' maxL' ret' [] rm rm.cells rm.slots Z argsL.toArray h n0 Q) (hS : S0 = argsL.reverse ++ rest)
    (w1 : (Cond.methodLink own index y).before a0 Z = true) (w2 : (Cond.static y).before a0 Z = true) (w3 : (Cond.initialized y.cls).before a0 Z = true) (w4 : (Cond.code y bytes' maxL' ret').before a0 Z = true) (hy : y.cls ≠ "java/lang/invoke/MethodHandle" ∧ y.cls ≠ "java/lang/invoke/VarHandle")
    (hd : decode bytes pc = .ok (.invokestatic index, 3)) (hpd : parseMethodDescriptor y.desc = some ⟨ps, r⟩) (hl : argsL.length = ps.length) {W : Nat} (hW : (rest.map fun v => v.category).sum = W) (hL : L.size = maxL) (hf : rm.frames + 1 ≤ R.frames) (hlo : W + (maxL' + 11) + rm.locals ≤ R.locals) (hc : k + rm.cells ≤ R.cells) (hs : j + rm.slots ≤ R.slots) {pc' k' j' : Nat} (hp : pc + 3 = pc') (hk' : k + rm.cells = k') (hj' : j + rm.slots = j') :
    ∃ v h', Q v h' ∧ ∀ S', v.toList ++ rest = S' → Go p l e R s m args below meth c Z own bytes maxL ret n0 s₀ h' k' j' pc' L S' := by
  subst hp hk' hj' hS
  obtain ⟨⟨hx, hb, hm, hZ, ho, hret, hlk, hn0⟩, T, locs, X, eT, N, st⟩ := G
  obtain ⟨v, _, ⟨T', L', k', n'⟩, -, X', ⟨Lc, hQ, l', y', z'⟩, st'⟩ := Jvm.LawKit.callS X hx (y := y) ho (mvT hZ w1) (mvT hZ w2) (mvT hZ w3) (mvT hZ w4) hy (backOf (W := W) (R := R) (rm := rm) (Q := fun v h L => Q v h ∧ Fr n0 L) C hZ w4 w3 hf hlo) (g := mkF m pc L (argsL.reverse ++ rest)) rfl (by rw [hm]; exact hL) (argsL := argsL) (rest := rest) (lenOf hpd hl) rfl (by show 2 * 0 + _ ≤ _; omega) (Jvm.hb hb hd) (fun _ _ => ⟨rfl, eT, hc, hs⟩)
  dsimp only [Pt.U, Pt.locs, Pt.cells, Pt.slots] at X' l' y' z' st' hQ
  subst l' y' z'
  refine ⟨v, T'.heap, hQ.1, fun S' e => ?_⟩
  subst e
  exact ⟨⟨hx, hb, hm, hZ, ho, hret, hlk, hn0⟩, T', _, X', rfl, Fr.app N hQ.2, fun t q => st t (st' t q)⟩
theorem Go.callI {S0 argsL rest : List Value} {y : MethodName} {bytes' : ByteArray} {maxL' : Nat} {r : Option FieldType} {ps : List FieldType} {rm : Room} {index : Nat} {Q : Option Value → Heap → Prop} {a : Addr} (G : Go p l e R s m args below meth c Z own bytes maxL ret n0 s₀ h k j pc L S0) (C : Con l y bytes' maxL' none [] rm rm.cells rm.slots Z (.ref a :: argsL).toArray h n0 Q) (hS : S0 = argsL.reverse ++ .ref a :: rest) (hyn : y.name = "<init>")
    (w1 : (Cond.methodLink own index y).before a0 Z = true) (w2 : (Cond.instanceMethod y).before a0 Z = true) (w3 : (Cond.initialized y.cls).before a0 Z = true) (w4 : (Cond.code y bytes' maxL' none).before a0 Z = true) (hy : y.cls ≠ "java/lang/invoke/MethodHandle" ∧ y.cls ≠ "java/lang/invoke/VarHandle")
    (hd : decode bytes pc = .ok (.invokespecial index, 3)) (hpd : parseMethodDescriptor y.desc = some ⟨ps, r⟩) (hl : argsL.length = ps.length) {W : Nat} (hW : (rest.map fun v => v.category).sum = W) (hL : L.size = maxL) (hf : rm.frames + 1 ≤ R.frames) (hlo : W + (maxL' + 11) + rm.locals ≤ R.locals) (hc : k + rm.cells ≤ R.cells) (hs : j + rm.slots ≤ R.slots) {pc' k' j' : Nat} (hp : pc + 3 = pc') (hk' : k + rm.cells = k') (hj' : j + rm.slots = j') :
    ∃ v h', Q v h' ∧ ∀ S', v.toList ++ rest = S' → Go p l e R s m args below meth c Z own bytes maxL ret n0 s₀ h' k' j' pc' L S' := by
  subst hp hk' hj' hS
  obtain ⟨⟨hx, hb, hm, hZ, ho, hret, hlk, hn0⟩, T, locs, X, eT, N, st⟩ := G
  obtain ⟨v, _, ⟨T', L', k', n'⟩, -, X', ⟨Lc, hQ, l', y', z'⟩, st'⟩ := X.specialBack hx (y := y) hyn ho (mvT hZ w1) (mvT hZ w2) (mvT hZ w4) hy (backOf (W := W) (R := R) (rm := rm) (Q := fun v h L => Q v h ∧ Fr n0 L) C hZ w4 w3 hf hlo) (g := mkF m pc L (argsL.reverse ++ .ref a :: rest)) rfl (by rw [hm]; exact hL) (Steps.refl _) (a := a) (argsL := argsL) (rest := rest) (lenOf hpd hl) rfl (by show 2 * 0 + _ ≤ _; omega) (Jvm.hb hb hd) (fun _ _ => ⟨rfl, eT, hc, hs⟩)
  dsimp only [Pt.U, Pt.locs, Pt.cells, Pt.slots] at X' l' y' z' st' hQ
  subst l' y' z'
  refine ⟨v, T'.heap, hQ.1, fun S' e => ?_⟩
  subst e
  exact ⟨⟨hx, hb, hm, hZ, ho, hret, hlk, hn0⟩, T', _, X', rfl, Fr.app N hQ.2, fun t q => st t (st'.trans q)⟩
theorem Go.callV {S0 argsL rest : List Value} {y : MethodName} {bytes' : ByteArray} {maxL' : Nat} {ret' r : Option FieldType} {ps : List FieldType} {rm : Room} {index : Nat} {Q : Option Value → Heap → Prop} {a : Addr} {K : String} (G : Go p l e R s m args below meth c Z own bytes maxL ret n0 s₀ h k j pc L S0) (C : Con l y bytes' maxL' ret' [] rm rm.cells rm.slots Z (.ref a :: argsL).toArray h n0 Q) (hS : S0 = argsL.reverse ++ .ref a :: rest) (E : Exa Z h a K)
    (w1 : (Cond.methodLink own index y).before a0 Z = true) (w1' : (Cond.declares y).before a0 Z = true) (w1'' : (Cond.selects K y y).before a0 Z = true) (w2 : (Cond.instanceMethod y).before a0 Z = true) (w3 : (Cond.initialized y.cls).before a0 Z = true) (w4 : (Cond.code y bytes' maxL' ret').before a0 Z = true) (hy : y.cls ≠ "java/lang/invoke/MethodHandle" ∧ y.cls ≠ "java/lang/invoke/VarHandle")
    (hd : decode bytes pc = .ok (.invokevirtual index, 3)) (hpd : parseMethodDescriptor y.desc = some ⟨ps, r⟩) (hl : argsL.length = ps.length) {W : Nat} (hW : (rest.map fun v => v.category).sum = W) (hL : L.size = maxL) (hf : rm.frames + 1 ≤ R.frames) (hlo : W + (maxL' + 11) + rm.locals ≤ R.locals) (hc : k + rm.cells ≤ R.cells) (hs : j + rm.slots ≤ R.slots) {pc' k' j' : Nat} (hp : pc + 3 = pc') (hk' : k + rm.cells = k') (hj' : j + rm.slots = j') :
    ∃ v h', Q v h' ∧ ∀ S', v.toList ++ rest = S' → Go p l e R s m args below meth c Z own bytes maxL ret n0 s₀ h' k' j' pc' L S' := by
  subst hp hk' hj' hS
  obtain ⟨⟨hx, hb, hm, hZ, ho, hret, hlk, hn0⟩, T, locs, X, eT, N, st⟩ := G
  obtain ⟨cq, kq, q1, q2, q3⟩ := isOf hZ eT E
  obtain ⟨v, _, ⟨T', L', k', n'⟩, -, X', ⟨Lc, hQ, l', y', z'⟩, st'⟩ := X.virtualBack hx (y := y) (z := y) ho (mvT hZ w1) (mvT hZ w1') (notFace_of_selects (args := #[]) (mvT hZ w1'')) (mvT hZ w1'') (mvT hZ w2) hy (backOf (W := W) (R := R) (rm := rm) (Q := fun v h L => Q v h ∧ Fr n0 L) C hZ w4 w3 hf hlo) q1 q3 (g := mkF m pc L (argsL.reverse ++ .ref a :: rest)) rfl (by rw [hm]; exact hL) (Steps.refl _) (argsL := argsL) (rest := rest) (lenOf hpd hl) rfl (by show 2 * 0 + _ ≤ _; omega) (Jvm.hb hb hd) (fun _ _ => ⟨rfl, eT, hc, hs⟩)
  dsimp only [Pt.U, Pt.locs, Pt.cells, Pt.slots] at X' l' y' z' st' hQ
  subst l' y' z'
  refine ⟨v, T'.heap, hQ.1, fun S' e => ?_⟩
  subst e
  exact ⟨⟨hx, hb, hm, hZ, ho, hret, hlk, hn0⟩, T', _, X', rfl, Fr.app N hQ.2, fun t q => st t (st'.trans q)⟩
theorem Go.initO {a : Addr} {index : Nat} (G : Go p l e R s m args below meth c Z own bytes maxL ret n0 s₀ h k j pc L (.ref a :: S)) (w1 : (Cond.methodLink own index Lib.objectInit).before a0 Z = true) (w2 : (Cond.instanceMethod Lib.objectInit).before a0 Z = true) (w3 : (Cond.code Lib.objectInit Jvm.LibCode.Object.Init0.code 1 none).before a0 Z = true) (hd : decode bytes pc = .ok (.invokespecial index, 3)) {W : Nat} (hW : (S.map fun v => v.category).sum = W) (hL : L.size = maxL) (hf : 1 ≤ R.frames) (hlo : W + 12 ≤ R.locals) {pc' : Nat} (hp : pc + 3 = pc' := by rfl) : Go p l e R s m args below meth c Z own bytes maxL ret n0 s₀ h k j pc' L S := by
  subst hp
  obtain ⟨⟨hx, hb, hm, hZ, ho, r⟩, T, locs, X, eT, N, st⟩ := G
  obtain ⟨T', X', e', st'⟩ := Jvm.RoadKit.initO X hx hZ ho w1 w2 w3 eT (g := mkF m pc L (.ref a :: S)) rfl (by rw [hm]; exact hL) rfl (Jvm.hb hb hd) hf (W := W) (by show 2 * 0 + _ ≤ _; omega) hlo
  exact ⟨⟨hx, hb, hm, hZ, ho, r⟩, T', locs, X', e', N, fun t q => st t (st' t q)⟩
theorem Go.newO {C : String} {index n : Nat} (G : Go p l e R s m args below meth c Z own bytes maxL ret n0 s₀ h k j pc L S) (w1 : (Cond.classLink own index C).before a0 Z = true) (w2 : (Cond.instantiable C n).before a0 Z = true) (w3 : (Cond.initialized C).before a0 Z = true) (hd : decode bytes pc = .ok (.new index, 3)) {pc' k' j' : Nat} (hp : pc + 3 = pc') (hk : k + 1 = k') (hj : j + n = j') (hc : k' ≤ R.cells) (hl : j' ≤ R.slots) :
    ∃ a h', a = h.size ∧ n0 ≤ a ∧ Ext h h' ∧ Exa Z h' a C ∧ (∀ {O nm d : String} {ty : FieldType}, Laid Z a0 C O nm d → parseFieldDescriptor d = some ty → Fld Z h' a O nm d (defaultValue ty)) ∧ Go p l e R s m args below meth c Z own bytes maxL ret n0 s₀ h' k' j' pc' L (.ref a :: S) := by
  have hsz := G.size
  subst hp hk hj
  obtain ⟨⟨hx, hb, hm, hZ, ho, r⟩, T, locs, X, eT, N, st⟩ := G
  obtain ⟨T2, h2, X2, e2, E2, A2, D2, -, st2⟩ := Jvm.RoadKit.newO X hx hZ ho w1 w2 w3 eT (g := mkF m pc L S) rfl (Jvm.hb hb hd) hc hl
  exact ⟨h.size, h2, rfl, hsz, E2, A2, D2, ⟨hx, hb, hm, hZ, ho, r⟩, T2, locs, X2, e2, N, fun t q => st t (st2 t q)⟩
theorem Go.getF {a : Addr} {R0 O n d host : String} {index : Nat} {v : Value} (G : Go p l e R s m args below meth c Z own bytes maxL ret n0 s₀ h k j pc L (.ref a :: S)) (w : (Cond.fieldLink own index R0 n d).before a0 Z = true ∨ (Cond.fieldLinkNest own index R0 n d host).before a0 Z = true) (via : Via Z R0 O n d) (F : Fld Z h a O n d v) (hd : decode bytes pc = .ok (.getfield index, 3)) {pc' : Nat} (hp : pc + 3 = pc' := by rfl) : Go p l e R s m args below meth c Z own bytes maxL ret n0 s₀ h k j pc' L (v :: S) := by
  subst hp
  obtain ⟨⟨hx, hb, hm, hZ, ho, r⟩, T, locs, X, eT, N, st⟩ := G
  obtain ⟨T', X', e', st'⟩ := Jvm.RoadKit.getF X hx hZ ho w via eT F (g := mkF m pc L (.ref a :: S)) rfl rfl (Jvm.hb hb hd)
  exact ⟨⟨hx, hb, hm, hZ, ho, r⟩, T', locs, X', e', N, fun t q => st t (st' t q)⟩
theorem Go.putF {a : Addr} {R0 O n d host C : String} {index kk : Nat} {ty : FieldType} {v old : Value} (G : Go p l e R s m args below meth c Z own bytes maxL ret n0 s₀ h k j pc L (v :: .ref a :: S)) (w : (Cond.fieldLink own index R0 n d).before a0 Z = true ∨ (Cond.fieldLinkNest own index R0 n d host).before a0 Z = true) (via : Via Z R0 O n d) (F : Fld Z h a O n d old) (E : Exa Z h a C) (ha : n0 ≤ a) (Ly : (Cond.lays C O n d).before a0 Z = true ∨ ((Cond.laysFinal C O n d).before a0 Z = true ∧ own = O ∧ meth.name = "<init>")) (wi : (Cond.instantiable C kk).before a0 Z = true) (hty : parseFieldDescriptor d = some ty) (hn : narrow ty v = v) (hf : fits ty v = true) (hd : decode bytes pc = .ok (.putfield index, 3)) {pc' : Nat} (hp : pc + 3 = pc' := by rfl) :
    ∃ h', Wr h h' a (Jvm.RoadKit.slotOf Z O n d) v ∧ Go p l e R s m args below meth c Z own bytes maxL ret n0 s₀ h' k j pc' L S := by
  subst hp
  obtain ⟨⟨hx, hb, hm, hZ, ho, r⟩, T, locs, X, eT, N, st⟩ := G
  obtain ⟨T', h', X', e', W', st'⟩ := Jvm.RoadKit.putF X hx hZ ho w via eT F E Ly wi hty hn hf (g := mkF m pc L (v :: .ref a :: S)) rfl rfl (Jvm.hb hb hd)
  exact ⟨h', W', ⟨hx, hb, hm, hZ, ho, r⟩, T', _, X', e', Fr.snoc X' N ha, fun t q => st t (st' t q)⟩
/-- an array of that kind whose places hold these values -/
def Av (Z : State) (h : Heap) (a : Addr) (ty : FieldType) (vs : List Value) : Prop := ∃ c : Cell, Arr Z h a c ty ∧ c.slots.toList = vs ∧ vs.length < 2 ^ 31 ∧ ∀ v ∈ vs, fits ty v = true
theorem Av.lt {a : Addr} {ty : FieldType} {vs : List Value} (A : Av Z h a ty vs) : a < h.size := by obtain ⟨c, A, -⟩ := A; exact A.lt
theorem Av.len {a : Addr} {ty : FieldType} {vs : List Value} (A : Av Z h a ty vs) : vs.length < 2 ^ 31 := by obtain ⟨c, _, _, q, _⟩ := A; exact q
theorem Av.fit {a : Addr} {ty : FieldType} {vs : List Value} (A : Av Z h a ty vs) : ∀ v ∈ vs, fits ty v = true := by obtain ⟨c, _, _, _, q⟩ := A; exact q
theorem Av.ext {h' : Heap} {a : Addr} {ty : FieldType} {vs : List Value} (A : Av Z h a ty vs) (E : Ext h h') : Av Z h' a ty vs := by obtain ⟨c, A, q⟩ := A; exact ⟨c, A.ext E, q⟩
theorem Av.other {h' : Heap} {a b : Addr} {sl : Nat} {v : Value} {ty : FieldType} {vs : List Value} (A : Av Z h b ty vs) (W : Wr h h' a sl v) (q : b ≠ a) : Av Z h' b ty vs := by obtain ⟨c, A, r⟩ := A; exact ⟨c, A.other W q, r⟩
theorem Av.keep {h' : Heap} {a : Addr} {ws : List Addr} {ty : FieldType} {vs : List Value} (A : Av Z h a ty vs) (K : Keep h h' ws) (q : a ∉ ws) : Av Z h' a ty vs := by obtain ⟨c, A, r⟩ := A; exact ⟨c, ⟨K.2.1 a c A.1 q, A.2⟩, r⟩
theorem Av.set {h' : Heap} {a : Addr} {i : Nat} {v : Value} {ty : FieldType} {vs : List Value} (A : Av Z h a ty vs) (W : Wr h h' a i v) (hf : fits ty v = true) : Av Z h' a ty (vs.set i v) := by
  obtain ⟨c, A, rfl, r, f⟩ := A
  exact ⟨c.setSlot i v, A.same W, by simp [Cell.setSlot], by simpa using r, fun x hx => (List.mem_or_eq_of_mem_set hx).elim (f x) fun q => q ▸ hf⟩
theorem idx_of {x : Int32} {i n : Nat} (hx : x.toInt = (i : Int)) (hi : i < n) : ¬ (x < 0 ∨ n ≤ x.toNatClampNeg) ∧ x.toNatClampNeg = i := by
  have e : x.toNatClampNeg = i := by show x.toInt.toNat = i; omega
  refine ⟨?_, e⟩
  rw [e, Int32.lt_iff_toInt_lt, hx]
  show ¬ (((i : Nat) : Int) < 0 ∨ n ≤ i)
  omega
theorem Go.newA {n : Int32} {aty : ArrayType} {ty : FieldType} {dv : Value} {N cap : Nat} (G : Go p l e R s m args below meth c Z own bytes maxL ret n0 s₀ h k j pc L (.int n :: S)) (w : (Cond.arrayClass ty).before a0 Z = true) (hd : decode bytes pc = .ok (.newarray aty, 2)) (hty : newarray.typeOf aty = ty) (hdv : defaultValue ty = dv) (hn : n.toInt = (N : Int)) (hN : N ≤ cap) (hb : cap * 8 ≤ 536870912) {pc' k' j' : Nat} (hp : pc + 2 = pc') (hk : k + 1 = k') (hj : j + cap = j') (hc : k' ≤ R.cells) (hl : j' ≤ R.slots) :
    ∃ a h', a = h.size ∧ n0 ≤ a ∧ Ext h h' ∧ Av Z h' a ty (List.replicate N dv) ∧ Go p l e R s m args below meth c Z own bytes maxL ret n0 s₀ h' k' j' pc' L (.ref a :: S) := by
  have hsz := G.size
  have e1 : n.toNatClampNeg = N := by show n.toInt.toNat = N; omega
  have e2 := n.toInt_lt
  subst hp hk hj hty hdv
  obtain ⟨⟨hx, hb', hm, hZ, ho, r⟩, T, locs, X, eT, N', st⟩ := G
  obtain ⟨T2, h2, cA, X2, e3, E2, A2, st2⟩ := Jvm.RoadKit.newP X hx hZ w eT (g := mkF m pc L (.int n :: S)) rfl (Jvm.hb hb' hd) rfl (by rw [Int32.lt_iff_toInt_lt, hn]; show ¬ ((N : Nat) : Int) < 0; omega) (cap := cap) (by rw [e1]; exact hN) hb hc hl
  exact ⟨h.size, h2, rfl, hsz, E2, ⟨_, A2, by rw [Jvm.RoadKit.newA, e1]; simp, by rw [List.length_replicate]; omega, fun v hv => by rw [List.eq_of_mem_replicate hv]; cases aty <;> rfl⟩, ⟨hx, hb', hm, hZ, ho, r⟩, T2, locs, X2, e3, N', fun t q => st t (st2 t q)⟩
theorem Go.stI {a : Addr} {x : Int32} {y : Int32} {i : Nat} {vs : List Value} (G : Go p l e R s m args below meth c Z own bytes maxL ret n0 s₀ h k j pc L (.int x :: .int y :: .ref a :: S)) (A : Av Z h a .int vs) (ha : n0 ≤ a) (hy : y.toInt = (i : Int)) (hi : i < vs.length) (hd : decode bytes pc = .ok (.iastore, 1)) {pc' : Nat} (hp : pc + 1 = pc' := by rfl) :
    ∃ h', Wr h h' a i (.int x) ∧ Av Z h' a .int (vs.set i (.int x)) ∧ Go p l e R s m args below meth c Z own bytes maxL ret n0 s₀ h' k j pc' L S := by
  have A0 := A
  obtain ⟨cl, Ar, rfl, hlen, -⟩ := A
  rw [Array.length_toList] at hi
  have ⟨i1, i2⟩ := idx_of hy hi
  subst hp
  obtain ⟨⟨hx, hb, hm, hZ, ho, r⟩, T, locs, X, eT, N, st⟩ := G
  obtain ⟨T', h', X', e', W', st'⟩ := Jvm.RoadKit.stI X hx hZ eT Ar i1 (g := mkF m pc L (.int x :: .int y :: .ref a :: S)) rfl rfl (Jvm.hb hb hd)
  have N' := Fr.snoc X' N ha
  rw [i2] at W'
  exact ⟨h', W', A0.set W' rfl, ⟨hx, hb, hm, hZ, ho, r⟩, T', _, X', e', N', fun t q => st t (st' t q)⟩
theorem Go.stJ {a : Addr} {x : Int64} {y : Int32} {i : Nat} {vs : List Value} (G : Go p l e R s m args below meth c Z own bytes maxL ret n0 s₀ h k j pc L (.long x :: .int y :: .ref a :: S)) (A : Av Z h a .long vs) (ha : n0 ≤ a) (hy : y.toInt = (i : Int)) (hi : i < vs.length) (hd : decode bytes pc = .ok (.lastore, 1)) {pc' : Nat} (hp : pc + 1 = pc' := by rfl) :
    ∃ h', Wr h h' a i (.long x) ∧ Av Z h' a .long (vs.set i (.long x)) ∧ Go p l e R s m args below meth c Z own bytes maxL ret n0 s₀ h' k j pc' L S := by
  have A0 := A
  obtain ⟨cl, Ar, rfl, hlen, -⟩ := A
  rw [Array.length_toList] at hi
  have ⟨i1, i2⟩ := idx_of hy hi
  subst hp
  obtain ⟨⟨hx, hb, hm, hZ, ho, r⟩, T, locs, X, eT, N, st⟩ := G
  obtain ⟨T', h', X', e', W', st'⟩ := Jvm.RoadKit.stJ X hx hZ eT Ar i1 (g := mkF m pc L (.long x :: .int y :: .ref a :: S)) rfl rfl (Jvm.hb hb hd)
  have N' := Fr.snoc X' N ha
  rw [i2] at W'
  exact ⟨h', W', A0.set W' rfl, ⟨hx, hb, hm, hZ, ho, r⟩, T', _, X', e', N', fun t q => st t (st' t q)⟩
theorem Go.stB {a : Addr} {x : Int32} {y : Int32} {i : Nat} {vs : List Value} (G : Go p l e R s m args below meth c Z own bytes maxL ret n0 s₀ h k j pc L (.int x :: .int y :: .ref a :: S)) (A : Av Z h a .byte vs) (ha : n0 ≤ a) (hy : y.toInt = (i : Int)) (hi : i < vs.length) (hd : decode bytes pc = .ok (.bastore, 1)) {pc' : Nat} (hp : pc + 1 = pc' := by rfl) :
    ∃ h', Wr h h' a i (.int (nar .byte x)) ∧ Av Z h' a .byte (vs.set i (.int (nar .byte x))) ∧ Go p l e R s m args below meth c Z own bytes maxL ret n0 s₀ h' k j pc' L S := by
  have A0 := A
  obtain ⟨cl, Ar, rfl, hlen, -⟩ := A
  rw [Array.length_toList] at hi
  have ⟨i1, i2⟩ := idx_of hy hi
  subst hp
  obtain ⟨⟨hx, hb, hm, hZ, ho, r⟩, T, locs, X, eT, N, st⟩ := G
  obtain ⟨T', h', X', e', W', st'⟩ := Jvm.RoadKit.stB X hx hZ eT Ar i1 (g := mkF m pc L (.int x :: .int y :: .ref a :: S)) rfl rfl (Jvm.hb hb hd)
  have N' := Fr.snoc X' N ha
  rw [i2] at W'
  exact ⟨h', W', A0.set W' (fits_nar_byte x), ⟨hx, hb, hm, hZ, ho, r⟩, T', _, X', e', N', fun t q => st t (st' t q)⟩
theorem Go.ldI {a : Addr} {v : Value} {y : Int32} {i : Nat} {vs : List Value} (G : Go p l e R s m args below meth c Z own bytes maxL ret n0 s₀ h k j pc L (.int y :: .ref a :: S)) (A : Av Z h a .int vs) (hy : y.toInt = (i : Int)) (hv : vs[i]? = some v) (hd : decode bytes pc = .ok (.iaload, 1)) {pc' : Nat} (hp : pc + 1 = pc' := by rfl) : Go p l e R s m args below meth c Z own bytes maxL ret n0 s₀ h k j pc' L (v :: S) := by
  obtain ⟨cl, Ar, rfl, hlen, -⟩ := A
  have hi : i < cl.slots.size := by rw [← Array.length_toList]; exact (List.getElem?_eq_some_iff.mp hv).1
  have ⟨i1, i2⟩ := idx_of hy hi
  rw [Array.getElem?_toList] at hv
  subst hp
  obtain ⟨⟨hx, hb, hm, hZ, ho, r⟩, T, locs, X, eT, N, st⟩ := G
  exact ⟨⟨hx, hb, hm, hZ, ho, r⟩, T, locs, X, eT, N, fun t q => st t (X.iaload hx (j := y) (v := v) (by rw [eT]; exact Ar.1) (State.isArrayOf_alike hZ.alike Ar.2.1) Ar.2.2 i1 (by rw [i2]; exact hv) (g := mkF m pc L (.int y :: .ref a :: S)) rfl rfl (Jvm.hb hb hd) t q)⟩
theorem Go.ldJ {a : Addr} {v : Value} {y : Int32} {i : Nat} {vs : List Value} (G : Go p l e R s m args below meth c Z own bytes maxL ret n0 s₀ h k j pc L (.int y :: .ref a :: S)) (A : Av Z h a .long vs) (hy : y.toInt = (i : Int)) (hv : vs[i]? = some v) (hd : decode bytes pc = .ok (.laload, 1)) {pc' : Nat} (hp : pc + 1 = pc' := by rfl) : Go p l e R s m args below meth c Z own bytes maxL ret n0 s₀ h k j pc' L (v :: S) := by
  obtain ⟨cl, Ar, rfl, hlen, -⟩ := A
  have hi : i < cl.slots.size := by rw [← Array.length_toList]; exact (List.getElem?_eq_some_iff.mp hv).1
  have ⟨i1, i2⟩ := idx_of hy hi
  rw [Array.getElem?_toList] at hv
  subst hp
  obtain ⟨⟨hx, hb, hm, hZ, ho, r⟩, T, locs, X, eT, N, st⟩ := G
  exact ⟨⟨hx, hb, hm, hZ, ho, r⟩, T, locs, X, eT, N, fun t q => st t (X.laload hx (j := y) (v := v) (by rw [eT]; exact Ar.1) (State.isArrayOf_alike hZ.alike Ar.2.1) Ar.2.2 i1 (by rw [i2]; exact hv) (g := mkF m pc L (.int y :: .ref a :: S)) rfl rfl (Jvm.hb hb hd) t q)⟩
theorem Go.ldB {a : Addr} {v : Value} {y : Int32} {i : Nat} {vs : List Value} (G : Go p l e R s m args below meth c Z own bytes maxL ret n0 s₀ h k j pc L (.int y :: .ref a :: S)) (A : Av Z h a .byte vs) (hy : y.toInt = (i : Int)) (hv : vs[i]? = some v) (hd : decode bytes pc = .ok (.baload, 1)) {pc' : Nat} (hp : pc + 1 = pc' := by rfl) : Go p l e R s m args below meth c Z own bytes maxL ret n0 s₀ h k j pc' L (v :: S) := by
  obtain ⟨cl, Ar, rfl, hlen, -⟩ := A
  have hi : i < cl.slots.size := by rw [← Array.length_toList]; exact (List.getElem?_eq_some_iff.mp hv).1
  have ⟨i1, i2⟩ := idx_of hy hi
  rw [Array.getElem?_toList] at hv
  subst hp
  obtain ⟨⟨hx, hb, hm, hZ, ho, r⟩, T, locs, X, eT, N, st⟩ := G
  exact ⟨⟨hx, hb, hm, hZ, ho, r⟩, T, locs, X, eT, N, fun t q => st t (X.baloadBytes hx (j := y) (v := v) (by rw [eT]; exact Ar.1) (State.isArrayOf_alike hZ.alike Ar.2.1) Ar.2.2 i1 (by rw [i2]; exact hv) (g := mkF m pc L (.int y :: .ref a :: S)) rfl rfl (Jvm.hb hb hd) t q)⟩
theorem Go.arrlen {a : Addr} {ty : FieldType} {vs : List Value} (v : Int32) (G : Go p l e R s m args below meth c Z own bytes maxL ret n0 s₀ h k j pc L (.ref a :: S)) (A : Av Z h a ty vs) (hv : v.toInt = (vs.length : Int)) (hd : decode bytes pc = .ok (.arraylength, 1)) {pc' : Nat} (hp : pc + 1 = pc' := by rfl) : Go p l e R s m args below meth c Z own bytes maxL ret n0 s₀ h k j pc' L (.int v :: S) := by
  obtain ⟨cl, Ar, rfl, hlen, -⟩ := A
  have e1 : cl.slots.size.toInt32 = v := by
    rw [Array.length_toList] at hlen hv
    apply Int32.toInt_inj.mp
    rw [hv]
    exact Int32.toInt_ofNat_of_lt (by omega)
  subst hp e1
  obtain ⟨⟨hx, hb, hm, hZ, ho, r⟩, T, locs, X, eT, N, st⟩ := G
  exact ⟨⟨hx, hb, hm, hZ, ho, r⟩, T, locs, X, eT, N, fun t q => st t (X.arraylength hx (by rw [eT]; exact Ar.1) (State.isArrayOf_alike hZ.alike Ar.2.1) (g := mkF m pc L (.ref a :: S)) rfl rfl (Jvm.hb hb hd) t q)⟩
theorem Av.arv {a : Addr} {ty : FieldType} {vs : List Value} (A : Av Z h a ty vs) (dv : Value) : ∃ kk, Arv Z h a kk ty (Int32.ofNat vs.length) vs dv := by
  obtain ⟨cl, Ar, rfl, hlen, hfit⟩ := A
  have e1 : (Int32.ofNat cl.slots.toList.length).toInt = ((cl.slots.toList.length : Nat) : Int) := Int32.toInt_ofNat_of_lt hlen
  have e2 : (Int32.ofNat cl.slots.toList.length).toNatClampNeg = cl.slots.size := by
    show (Int32.ofNat cl.slots.toList.length).toInt.toNat = _
    rw [e1, Array.length_toList]; rfl
  have e3 : ∀ i, i < cl.slots.size → cl.slots[i]? = some (cl.slots.toList.getD i dv) := fun i hi => by
    rw [List.getD_eq_getElem?_getD, Array.getElem?_toList, Array.getElem?_eq_getElem hi]; rfl
  refine ⟨cl.cls, cl, Ar, rfl, e2.symm, ?_, e3, fun i hi => hfit _ ?_⟩
  · rw [Int32.lt_iff_toInt_lt, e1]; show ¬ _ < (0 : Int); omega
  · have q := e3 i hi
    rw [← Array.getElem?_toList] at q
    exact List.mem_of_getElem? q
theorem av_of_arv {a : Addr} {kk : ClassId} {ty : FieldType} {z : Int32} {vs : List Value} {dv : Value} (A : Arv Z h a kk ty z vs dv) (hz : z.toNatClampNeg = vs.length) (hl : vs.length < 2 ^ 31) : Av Z h a ty vs := by
  obtain ⟨cl, Ar, -, S, -, H, F⟩ := A
  have e : cl.slots.toList = vs := by
    apply List.ext_getElem?
    intro i
    rw [Array.getElem?_toList]
    by_cases hi : i < cl.slots.size
    · rw [H i hi, List.getD_eq_getElem?_getD, List.getElem?_eq_getElem (by omega)]; rfl
    · rw [Array.getElem?_eq_none (by omega), List.getElem?_eq_none (by omega)]
  refine ⟨cl, Ar, e, hl, fun v hv => ?_⟩
  obtain ⟨i, hi, rfl⟩ := List.getElem_of_mem hv
  have q := F i (by rw [S, hz]; exact hi)
  rwa [List.getD_eq_getElem?_getD, List.getElem?_eq_getElem hi] at q
theorem us_of (vs : List Value) (sp n : Nat) (dv : Value) (hh : sp + n ≤ vs.length) : ((List.range n).map fun i => vs.getD (sp + i) dv) = (vs.drop sp).take n := by
  apply List.ext_getElem?
  intro i
  by_cases hi : i < n
  · rw [List.getElem?_map, List.getElem?_range hi, List.getElem?_take_of_lt hi, List.getElem?_drop, List.getElem?_eq_getElem (by omega)]
    simp [List.getD_eq_getElem?_getD, List.getElem?_eq_getElem (show sp + i < vs.length by omega)]
  · rw [List.getElem?_eq_none (by simp; omega), List.getElem?_eq_none (by simp; omega)]
theorem Go.newAE {n : Int32} {aty : ArrayType} {ty : FieldType} {dv : Value} {N cap : Nat} {ad : String} (G : Go p l e R s m args below meth c Z own bytes maxL ret n0 s₀ h k j pc L (.int n :: S)) (w : (Cond.arrayClass ty).before a0 Z = true) (hd : decode bytes pc = .ok (.newarray aty, 2)) (hty : newarray.typeOf aty = ty) (hdv : defaultValue ty = dv) (hn : n.toInt = (N : Int)) (hN : N ≤ cap) (hb : cap * 8 ≤ 536870912) (had : "[" ++ ty.toString = ad) {pc' k' j' : Nat} (hp : pc + 2 = pc') (hk : k + 1 = k') (hj : j + cap = j') (hc : k' ≤ R.cells) (hl : j' ≤ R.slots) :
    ∃ a h', a = h.size ∧ n0 ≤ a ∧ Ext h h' ∧ Av Z h' a ty (List.replicate N dv) ∧ Exa Z h' a ad ∧ Go p l e R s m args below meth c Z own bytes maxL ret n0 s₀ h' k' j' pc' L (.ref a :: S) := by
  have hsz := G.size
  have e1 : n.toNatClampNeg = N := by show n.toInt.toNat = N; omega
  have e2 := n.toInt_lt
  subst hp hk hj hty hdv
  obtain ⟨⟨hx, hb', hm, hZ, ho, r⟩, T, locs, X, eT, N', st⟩ := G
  obtain ⟨T2, h2, cA, X2, e3, E2, A2, EE, st2⟩ := Jvm.RoadKit.newPE X hx hZ w eT (g := mkF m pc L (.int n :: S)) rfl (Jvm.hb hb' hd) rfl (by rw [Int32.lt_iff_toInt_lt, hn]; show ¬ ((N : Nat) : Int) < 0; omega) (cap := cap) (by rw [e1]; exact hN) hb hc hl had
  exact ⟨h.size, h2, rfl, hsz, E2, ⟨_, A2, by rw [Jvm.RoadKit.newA, e1]; simp, by rw [List.length_replicate]; omega, fun v hv => by rw [List.eq_of_mem_replicate hv]; cases aty <;> rfl⟩, EE, ⟨hx, hb', hm, hZ, ho, r⟩, T2, locs, X2, e3, N', fun t q => st t (st2 t q)⟩
theorem Go.clone {a : Addr} {ty : FieldType} {vs : List Value} {ad : String} {index cap : Nat} (G : Go p l e R s m args below meth c Z own bytes maxL ret n0 s₀ h k j pc L (.ref a :: S)) (A : Av Z h a ty vs) (E : Exa Z h a ad)
    (w1 : (Cond.methodLink own index ⟨ad, "clone", "()Ljava/lang/Object;"⟩).before a0 Z = true) (w2 : (Cond.sameMethod ad "java/lang/Object" "clone" "()Ljava/lang/Object;").before a0 Z = true) (w3 : (Cond.native ⟨"java/lang/Object", "clone", "()Ljava/lang/Object;"⟩).before a0 Z = true)
    (w4 : (Cond.instanceMethod ⟨"java/lang/Object", "clone", "()Ljava/lang/Object;"⟩).before a0 Z = true) (w5 : (Cond.selects ad ⟨ad, "clone", "()Ljava/lang/Object;"⟩ ⟨"java/lang/Object", "clone", "()Ljava/lang/Object;"⟩).before a0 Z = true) (w6 : (Cond.castable ad "java/lang/Cloneable").before a0 Z = true)
    (hd : decode bytes pc = .ok (.invokevirtual index, 3)) {W : Nat} (hW : (S.map fun v => v.category).sum = W) (hL : L.size = maxL) (hf : 1 ≤ R.frames) (hlo : W + 14 ≤ R.locals) (hcap : vs.length ≤ cap) {pc' k' j' : Nat} (hp : pc + 3 = pc') (hk : k + 1 = k') (hj : j + cap = j') (hc : k' ≤ R.cells) (hl : j' ≤ R.slots) :
    ∃ b h', b = h.size ∧ n0 ≤ b ∧ Ext h h' ∧ Av Z h' b ty vs ∧ Exa Z h' b ad ∧ Go p l e R s m args below meth c Z own bytes maxL ret n0 s₀ h' k' j' pc' L (.ref b :: S) := by
  have hsz := G.size
  obtain ⟨cl, Ar, rfl, hlen, hfit⟩ := A
  have FC : FitC Z cl := fitC_of Ar fun i hi v hv => hfit v (by rw [← Array.getElem?_toList] at hv; exact List.mem_of_getElem? hv)
  subst hp hk hj
  obtain ⟨⟨hx, hb', hm, hZ, ho, r⟩, T, locs, X, eT, N', st⟩ := G
  obtain ⟨T2, h2, X2, e3, E2, A2, EE, st2⟩ := Jvm.RoadKit.cloneA X hx hZ ho w1 w2 w3 w4 w5 w6 eT Ar E FC (g := mkF m pc L (.ref a :: S)) rfl (by rw [hm]; exact hL) rfl (Jvm.hb hb' hd) hf (W := W) (by show 2 * 0 + _ ≤ _; omega) hlo (cap := cap) (by rw [← Array.length_toList]; exact hcap) hc hl
  exact ⟨h.size, h2, rfl, hsz, E2, ⟨_, A2, rfl, hlen, hfit⟩, EE, ⟨hx, hb', hm, hZ, ho, r⟩, T2, locs, X2, e3, N', fun t q => st t (st2 t q)⟩
theorem Go.cast {a : Addr} {K : String} {index : Nat} (G : Go p l e R s m args below meth c Z own bytes maxL ret n0 s₀ h k j pc L (.ref a :: S)) (w : (Cond.classLink own index K).before a0 Z = true) (F : Ins Z h a K true) (hd : decode bytes pc = .ok (.checkcast index, 3)) {pc' : Nat} (hp : pc + 3 = pc' := by rfl) : Go p l e R s m args below meth c Z own bytes maxL ret n0 s₀ h k j pc' L (.ref a :: S) := by
  subst hp
  obtain ⟨⟨hx, hb, hm, hZ, ho, r⟩, T, locs, X, eT, N, st⟩ := G
  obtain ⟨T', X', e', st'⟩ := Jvm.RoadKit.castY X hx hZ ho w eT F (g := mkF m pc L (.ref a :: S)) rfl rfl (Jvm.hb hb hd)
  exact ⟨⟨hx, hb, hm, hZ, ho, r⟩, T', locs, X', e', N, fun t q => st t (st' t q)⟩
theorem Go.cp {a b : Addr} {ty : FieldType} {vs vd : List Value} {sp dp nn : Int32} {s' d' n' index : Nat} (G : Go p l e R s m args below meth c Z own bytes maxL ret n0 s₀ h k j pc L (.int nn :: .int dp :: .ref b :: .int sp :: .ref a :: S)) (A : Av Z h a ty vs) (B : Av Z h b ty vd) (hty : refKind ty = false) (hb : n0 ≤ b)
    (w1 : (Cond.methodLink own index Jvm.Stand.acN).before a0 Z = true) (w2 : (Cond.native Jvm.Stand.acN).before a0 Z = true) (w3 : (Cond.static Jvm.Stand.acN).before a0 Z = true) (w4 : (Cond.initialized "java/lang/System").before a0 Z = true)
    (hs : sp.toInt = (s' : Int)) (hd' : dp.toInt = (d' : Int)) (hn : nn.toInt = (n' : Int)) (h4 : s' + n' ≤ vs.length) (h5 : d' + n' ≤ vd.length) (hd : decode bytes pc = .ok (.invokestatic index, 3)) {W : Nat} (hW : (S.map fun v => v.category).sum = W) (hL : L.size = maxL) (hf : 1 ≤ R.frames) (hlo : W + (nativeFrameWords "java/lang/System" "arraycopy" 5 + 11) ≤ R.locals) {pc' : Nat} (hp : pc + 3 = pc' := by rfl) :
    ∃ h', Keep h h' [b] ∧ Av Z h' b ty (vd.take d' ++ (vs.drop s').take n' ++ vd.drop (d' + n')) ∧ Go p l e R s m args below meth c Z own bytes maxL ret n0 s₀ h' k j pc' L S := by
  subst hp
  have lA := A.len
  have lB := B.len
  obtain ⟨kA, VA⟩ := A.arv .null
  obtain ⟨kB, VB⟩ := B.arv .null
  have nn0 : ∀ {x : Int32} {y : Nat}, x.toInt = (y : Int) → ¬ x < 0 ∧ x.toNatClampNeg = y := fun {x y} q => ⟨by rw [Int32.lt_iff_toInt_lt, q]; show ¬ _ < (0 : Int); omega, by show x.toInt.toNat = y; omega⟩
  have zl : ∀ (us : List Value), us.length < 2 ^ 31 → (Int32.ofNat us.length).toNatClampNeg = us.length := fun us q => (nn0 (Int32.toInt_ofNat_of_lt q)).2
  obtain ⟨⟨hx, hby, hm, hZ, ho, r⟩, T, locs, X, eT, N, st⟩ := G
  obtain ⟨T', h', Lc, X', e', N', Kp, V', st'⟩ := Jvm.RoadKit.cpA X hx hZ ho w1 w2 w3 w4 eT VA VB (us := (vs.drop s').take n') (Or.inl ⟨rfl, hty⟩) (nn0 hs).1 (nn0 hd').1 (nn0 hn).1 (by rw [(nn0 hs).2, (nn0 hn).2, zl _ lA]; exact h4) (by rw [(nn0 hd').2, (nn0 hn).2, zl _ lB]; exact h5) (by rw [(nn0 hs).2, (nn0 hn).2, us_of _ _ _ _ h4]) (by rw [(nn0 hd').2, (nn0 hn).2]; exact h5) N hb (g := mkF m pc L (.int nn :: .int dp :: .ref b :: .int sp :: .ref a :: S)) rfl (by rw [hm]; exact hL) rfl (Jvm.hb hby hd) hf (W := W) (by show 2 * 0 + _ ≤ _; omega) hlo
  rw [(nn0 hd').2, (nn0 hn).2] at V'
  have ll : (vd.take d' ++ (vs.drop s').take n' ++ vd.drop (d' + n')).length = vd.length := by simp; omega
  exact ⟨h', Kp, av_of_arv V' (by rw [ll]; exact zl _ lB) (by rw [ll]; exact lB), ⟨hx, hby, hm, hZ, ho, r⟩, T', Lc, X', e', N', fun t q => st t (st' t q)⟩
theorem Go.callP {S0 argsL rest : List Value} {y : MethodName} {bytes' : ByteArray} {maxL' nI : Nat} {ret' r : Option FieldType} {ps : List FieldType} {rm : Room} {index : Nat} {Q : Option Value → Heap → Prop} {a : Addr} {K : String} (G : Go p l e R s m args below meth c Z own bytes maxL ret n0 s₀ h k j pc L S0) (C : Con l y bytes' maxL' ret' [] rm rm.cells rm.slots Z (.ref a :: argsL).toArray h n0 Q) (hS : S0 = argsL.reverse ++ .ref a :: rest) (E : Exa Z h a K)
    (w1 : (Cond.methodLink own index y).before a0 Z = true) (w2 : (Cond.instanceMethod y).before a0 Z = true) (wp : (Cond.privateMethod y).before a0 Z = true) (wi : (Cond.instantiable y.cls nI).before a0 Z = true) (w3 : (Cond.initialized y.cls).before a0 Z = true) (w4 : (Cond.code y bytes' maxL' ret').before a0 Z = true) (hy : y.cls ≠ "java/lang/invoke/MethodHandle" ∧ y.cls ≠ "java/lang/invoke/VarHandle")
    (hd : decode bytes pc = .ok (.invokevirtual index, 3)) (hpd : parseMethodDescriptor y.desc = some ⟨ps, r⟩) (hl : argsL.length = ps.length) {W : Nat} (hW : (rest.map fun v => v.category).sum = W) (hL : L.size = maxL) (hf : rm.frames + 1 ≤ R.frames) (hlo : W + (maxL' + 11) + rm.locals ≤ R.locals) (hc : k + rm.cells ≤ R.cells) (hs : j + rm.slots ≤ R.slots) {pc' k' j' : Nat} (hp : pc + 3 = pc') (hk' : k + rm.cells = k') (hj' : j + rm.slots = j') :
    ∃ v h', Q v h' ∧ ∀ S', v.toList ++ rest = S' → Go p l e R s m args below meth c Z own bytes maxL ret n0 s₀ h' k' j' pc' L S' := by
  subst hp hk' hj' hS
  obtain ⟨⟨hx, hb, hm, hZ, ho, hret, hlk, hn0⟩, T, locs, X, eT, N, st⟩ := G
  obtain ⟨cell, q1, q2⟩ := E.cell
  have hpriv : s.PrivateAt y := Cond.privateMethod_at (mvP hZ wp (args := #[]))
  obtain ⟨cI, kI, i1, i2, i3, i4, -⟩ := Cond.instantiable_spec (mv (args := #[]) hZ wi)
  have hsel : (Cond.selects y.cls y y).before args s = true := Jvm.Stand.selects_self_of_private i1 i2 (by simpa using (by simpa using i4 : _ ∧ _).1) hpriv (mvT hZ w2) hy
  obtain ⟨v, _, ⟨T', L', k', n'⟩, -, X', ⟨Lc, hQ, l', y', z'⟩, st'⟩ := X.privateBack hx (y := y) ho (mvT hZ w1) (mvT hZ w2) hsel hpriv (mvT hZ w4) hy (backOf (W := W) (R := R) (rm := rm) (Q := fun v h L => Q v h ∧ Fr n0 L) C hZ w4 w3 hf hlo) (g := mkF m pc L (argsL.reverse ++ .ref a :: rest)) rfl (by rw [hm]; exact hL) (Steps.refl _) (a := a) (by rw [eT]; exact q1) q2 (argsL := argsL) (rest := rest) (lenOf hpd hl) rfl (by show 2 * 0 + _ ≤ _; omega) (Jvm.hb hb hd) (fun _ _ => ⟨rfl, eT, hc, hs⟩)
  dsimp only [Pt.U, Pt.locs, Pt.cells, Pt.slots] at X' l' y' z' st' hQ
  subst l' y' z'
  refine ⟨v, T'.heap, hQ.1, fun S' e => ?_⟩
  subst e
  exact ⟨⟨hx, hb, hm, hZ, ho, hret, hlk, hn0⟩, T', _, X', rfl, Fr.app N hQ.2, fun t q => st t (st'.trans q)⟩
theorem Go.dupX2 {x : Int32} {i : Int32} {a : Addr} (G : Go p l e R s m args below meth c Z own bytes maxL ret n0 s₀ h k j pc L (.int x :: .int i :: .ref a :: S)) (hd : decode bytes pc = .ok (.dup_x2, 1)) {pc' : Nat} (hp : pc + 1 = pc' := by rfl) : Go p l e R s m args below meth c Z own bytes maxL ret n0 s₀ h k j pc' L (.int x :: .int i :: .ref a :: .int x :: S) := by
  subst hp
  refine G.step fun T locs X eT hx hb t q => ?_
  show Steps p.tables e below (T.setTop { method := m, pc := pc, locals := L, stack := .int x :: .int i :: .ref a :: S, locked := none }) _
  jvm_step X.here [X.here.top, hx, Jvm.hb hb hd, Value.category]
  exact q
end OwnKit
end Jvm.OwnKit
namespace Jvm.Pilot.@@N@@
open Jvm Jvm.ClassFile Sem Op Lib Jvm.Free Jvm.Stand Jvm.LawKit Jvm.RoadKit Bundle Jvm.OwnKit Jvm.Pilot.@@N@@.Jvm.D
theorem own_i (k : Nat) (h : k < 1000) : (Int32.ofNat k).toInt = (k : Int) := Int32.toInt_ofNat_of_lt (by omega)
theorem own_ad (a b : Nat) : Int32.ofNat a + Int32.ofNat b = Int32.ofNat (a + b) := (Int32.ofNat_add a b).symm
theorem own_a1 (a : Nat) : Int32.ofNat a + (1 : Int32) = Int32.ofNat (a + 1) := own_ad a 1
theorem own_sb (a b : Nat) (h : b ≤ a) (ha : a < 1000) : Int32.ofNat a - Int32.ofNat b = Int32.ofNat (a - b) := by
  apply Int32.toInt_inj.mp
  have e := c_isub (Int32.ofNat a) (Int32.ofNat b)
  have r := rng32 (Int32.ofNat a - Int32.ofNat b)
  rw [own_i a ha, own_i b (by omega)] at e
  rw [own_i _ (by omega)]
  omega
theorem own_s1 (a : Nat) (h : 0 < a) (ha : a < 1000) : Int32.ofNat a - (1 : Int32) = Int32.ofNat (a - 1) := own_sb a 1 h ha
theorem own_lt (a b : Nat) (ha : a < 1000) (hb : b < 1000) : Int32.ofNat a < Int32.ofNat b ↔ a < b := by
  rw [Int32.lt_iff_toInt_lt, own_i a ha, own_i b hb]; omega
theorem own_l0 (a : Nat) (ha : a < 1000) : ¬ Int32.ofNat a < (0 : Int32) := by
  rw [Int32.lt_iff_toInt_lt, own_i a ha]; show ¬ _ < (0 : Int); omega
theorem own_eq (a b : Nat) (ha : a < 1000) (hb : b < 1000) : Int32.ofNat a = Int32.ofNat b ↔ a = b := by
  rw [← Int32.toInt_inj, own_i a ha, own_i b hb]; omega
def own_A (vs : List Value) (n : Nat) (f : Nat → Nat) : Prop := vs.length = n ∧ ∀ i, i < n → vs[i]? = some (.int (Int32.ofNat (f i)))
theorem own_As {vs : List Value} {n i : Nat} {f : Nat → Nat} {x : Nat} (A : own_A vs n f) (hi : i < n) : own_A (vs.set i (.int (Int32.ofNat x))) n (fun j => if j = i then x else f j) := by
  refine ⟨by rw [List.length_set]; exact A.1, fun j hj => ?_⟩
  by_cases h : j = i
  · rw [h, List.getElem?_set_self (by rw [A.1]; exact hi)]
    show _ = some (Value.int (Int32.ofNat (if i = i then x else f i)))
    rw [if_pos rfl]
  · rw [List.getElem?_set_ne (fun q => h q.symm), A.2 j hj]
    show _ = some (Value.int (Int32.ofNat (if j = i then x else f j)))
    rw [if_neg h]
theorem own_Ac {vs : List Value} {n : Nat} {f g : Nat → Nat} (A : own_A vs n f) (e : ∀ i, i < n → f i = g i) : own_A vs n g := ⟨A.1, fun i hi => by rw [← e i hi]; exact A.2 i hi⟩
theorem own_A0 (n : Nat) : own_A (List.replicate n (.int (0 : Int32))) n (fun _ => 0) := ⟨List.length_replicate, fun i hi => by rw [List.getElem?_replicate, if_pos hi]; rfl⟩
def own_H (tc n M : Nat) (S I : Nat → Nat) : Prop := (tc ≤ 4 ∧ n ≤ 6 ∧ M ≤ 20 ∧ S 0 = 0 ∧ S n = M) ∧ (∀ i, i < n → S i ≤ S (i + 1)) ∧ ∀ i, i < n → ∀ p, S i ≤ p → p < S (i + 1) → I p < tc ∧ (p = S i ∨ I (p - 1) < I p)
theorem own_Hm {tc n M : Nat} {S I : Nat → Nat} (H : own_H tc n M S I) : ∀ d i, i + d = n → S i ≤ M := by
  intro d
  induction d with
  | zero => intro i hi; obtain rfl : i = n := by omega
            rw [H.1.2.2.2.2]; exact Nat.le_refl _
  | succ d ih => intro i hi; exact Nat.le_trans (H.2.1 i (by omega)) (ih (i + 1) (by omega))
theorem own_Hl {tc n M : Nat} {S I : Nat → Nat} (H : own_H tc n M S I) {i : Nat} (hi : i ≤ n) : S i ≤ M := own_Hm H (n - i) i (by omega)
theorem own_Hd {tc n M : Nat} {S I : Nat → Nat} (H : own_H tc n M S I) : ∀ i, i ≤ n → ∀ p, p < S i → I p < tc := by
  intro i
  induction i with
  | zero => intro _ p hp; rw [H.1.2.2.2.1] at hp; omega
  | succ i ih =>
    intro hi p hp
    by_cases h : p < S i
    · exact ih (by omega) p h
    · exact (H.2.2 i (by omega) p (by omega) hp).1
theorem own_Hi {tc n M : Nat} {S I : Nat → Nat} (H : own_H tc n M S I) {p : Nat} (hp : p < M) : I p < tc := own_Hd H n (Nat.le_refl _) p (by rw [H.1.2.2.2.2]; exact hp)
def own_cn (I : Nat → Nat) : Nat → Nat → Nat
  | 0, _ => 0
  | p + 1, t => own_cn I p t + if I p = t then 1 else 0
def own_ps (I : Nat → Nat) : Nat → Nat → Nat
  | 0, _ => 0
  | p + 1, t => own_ps I p t + if I p < t then 1 else 0
theorem own_ps0 (I : Nat → Nat) : ∀ p, own_ps I p 0 = 0
  | 0 => rfl
  | p + 1 => by rw [own_ps, own_ps0 I p, if_neg (by omega)]
theorem own_pss (I : Nat → Nat) (t : Nat) : ∀ p, own_ps I p (t + 1) = own_ps I p t + own_cn I p t
  | 0 => rfl
  | p + 1 => by
    rw [own_ps, own_ps, own_cn, own_pss I t p]
    by_cases h : I p < t
    · rw [if_pos (by omega), if_pos h, if_neg (by omega)]; omega
    · by_cases h2 : I p = t
      · rw [if_pos (by omega), if_neg h, if_pos h2]; omega
      · rw [if_neg (by omega), if_neg h, if_neg h2]; omega
theorem own_psl (I : Nat → Nat) (t : Nat) : ∀ p, own_ps I p t ≤ p
  | 0 => Nat.le_refl _
  | p + 1 => by
    have := own_psl I t p
    rw [own_ps]
    split <;> omega
theorem own_cnl (I : Nat → Nat) (t : Nat) : ∀ p, own_cn I p t ≤ p
  | 0 => Nat.le_refl _
  | p + 1 => by
    have := own_cnl I t p
    rw [own_cn]
    split <;> omega
theorem own_cnm (I : Nat → Nat) (t p : Nat) : ∀ d, own_cn I p t ≤ own_cn I (p + d) t
  | 0 => Nat.le_refl _
  | d + 1 => by
    have := own_cnm I t p d
    rw [← Nat.add_assoc, own_cn]
    omega
theorem own_cnx (I : Nat → Nat) (p M : Nat) (h : p < M) : own_cn I p (I p) + 1 ≤ own_cn I M (I p) := by
  have q := own_cnm I (I p) (p + 1) (M - (p + 1))
  rw [show p + 1 + (M - (p + 1)) = M by omega, own_cn, if_pos rfl] at q
  exact q
theorem own_nxb (I : Nat → Nat) (p M : Nat) (h : p < M) : own_ps I M (I p) + own_cn I p (I p) < M := by
  have q := own_cnx I p M h
  have r := own_pss I (I p) M
  have s := own_psl I (I p + 1) M
  omega
theorem d6_0 : decode prog_15_method_2_code 0 = .ok (.aload_n 1, 1) := by decide +kernel
theorem d6_1 : decode prog_15_method_2_code 1 = .ok (.arraylength, 1) := by decide +kernel
theorem d6_2 : decode prog_15_method_2_code 2 = .ok (.ifCond .eq 20, 3) := by decide +kernel
theorem d6_5 : decode prog_15_method_2_code 5 = .ok (.aload_n 1, 1) := by decide +kernel
theorem d6_6 : decode prog_15_method_2_code 6 = .ok (.iconst 0, 1) := by decide +kernel
theorem d6_7 : decode prog_15_method_2_code 7 = .ok (.iaload, 1) := by decide +kernel
theorem d6_8 : decode prog_15_method_2_code 8 = .ok (.ifCond .ne 14, 3) := by decide +kernel
theorem d6_11 : decode prog_15_method_2_code 11 = .ok (.aload_n 1, 1) := by decide +kernel
theorem d6_12 : decode prog_15_method_2_code 12 = .ok (.aload_n 1, 1) := by decide +kernel
theorem d6_13 : decode prog_15_method_2_code 13 = .ok (.arraylength, 1) := by decide +kernel
theorem d6_14 : decode prog_15_method_2_code 14 = .ok (.iconst 1, 1) := by decide +kernel
theorem d6_15 : decode prog_15_method_2_code 15 = .ok (.isub, 1) := by decide +kernel
theorem d6_16 : decode prog_15_method_2_code 16 = .ok (.iaload, 1) := by decide +kernel
theorem d6_17 : decode prog_15_method_2_code 17 = .ok (.aload_n 2, 1) := by decide +kernel
theorem d6_18 : decode prog_15_method_2_code 18 = .ok (.arraylength, 1) := by decide +kernel
theorem d6_19 : decode prog_15_method_2_code 19 = .ok (.if_icmp .eq 18, 3) := by decide +kernel
theorem d6_22 : decode prog_15_method_2_code 22 = .ok (.new 33, 3) := by decide +kernel
theorem d6_25 : decode prog_15_method_2_code 25 = .ok (.dup, 1) := by decide +kernel
theorem d6_26 : decode prog_15_method_2_code 26 = .ok (.aload_n 2, 1) := by decide +kernel
theorem d6_27 : decode prog_15_method_2_code 27 = .ok (.arraylength, 1) := by decide +kernel
theorem d6_28 : decode prog_15_method_2_code 28 = .ok (.invokedynamic 35, 5) := by decide +kernel
theorem d6_33 : decode prog_15_method_2_code 33 = .ok (.invokespecial 39, 3) := by decide +kernel
theorem d6_36 : decode prog_15_method_2_code 36 = .ok (.athrow, 1) := by decide +kernel
theorem d6_37 : decode prog_15_method_2_code 37 = .ok (.iconst 0, 1) := by decide +kernel
theorem d6_38 : decode prog_15_method_2_code 38 = .ok (.istore_n 3, 1) := by decide +kernel
theorem d6_39 : decode prog_15_method_2_code 39 = .ok (.iload_n 3, 1) := by decide +kernel
theorem d6_40 : decode prog_15_method_2_code 40 = .ok (.iconst 1, 1) := by decide +kernel
theorem d6_41 : decode prog_15_method_2_code 41 = .ok (.iadd, 1) := by decide +kernel
theorem d6_42 : decode prog_15_method_2_code 42 = .ok (.aload_n 1, 1) := by decide +kernel
theorem d6_43 : decode prog_15_method_2_code 43 = .ok (.arraylength, 1) := by decide +kernel
theorem d6_44 : decode prog_15_method_2_code 44 = .ok (.if_icmp .ge 118, 3) := by decide +kernel
theorem d6_47 : decode prog_15_method_2_code 47 = .ok (.aload_n 1, 1) := by decide +kernel
theorem d6_48 : decode prog_15_method_2_code 48 = .ok (.iload_n 3, 1) := by decide +kernel
theorem d6_49 : decode prog_15_method_2_code 49 = .ok (.iaload, 1) := by decide +kernel
theorem d6_50 : decode prog_15_method_2_code 50 = .ok (.aload_n 1, 1) := by decide +kernel
theorem d6_51 : decode prog_15_method_2_code 51 = .ok (.iload_n 3, 1) := by decide +kernel
theorem d6_52 : decode prog_15_method_2_code 52 = .ok (.iconst 1, 1) := by decide +kernel
theorem d6_53 : decode prog_15_method_2_code 53 = .ok (.iadd, 1) := by decide +kernel
theorem d6_54 : decode prog_15_method_2_code 54 = .ok (.iaload, 1) := by decide +kernel
theorem d6_55 : decode prog_15_method_2_code 55 = .ok (.if_icmp .le 17, 3) := by decide +kernel
theorem d6_58 : decode prog_15_method_2_code 58 = .ok (.new 33, 3) := by decide +kernel
theorem d6_61 : decode prog_15_method_2_code 61 = .ok (.dup, 1) := by decide +kernel
theorem d6_62 : decode prog_15_method_2_code 62 = .ok (.iload_n 3, 1) := by decide +kernel
theorem d6_63 : decode prog_15_method_2_code 63 = .ok (.invokedynamic 42, 5) := by decide +kernel
theorem d6_68 : decode prog_15_method_2_code 68 = .ok (.invokespecial 39, 3) := by decide +kernel
theorem d6_71 : decode prog_15_method_2_code 71 = .ok (.athrow, 1) := by decide +kernel
theorem d6_72 : decode prog_15_method_2_code 72 = .ok (.aload_n 1, 1) := by decide +kernel
theorem d6_73 : decode prog_15_method_2_code 73 = .ok (.iload_n 3, 1) := by decide +kernel
theorem d6_74 : decode prog_15_method_2_code 74 = .ok (.iaload, 1) := by decide +kernel
theorem d6_75 : decode prog_15_method_2_code 75 = .ok (.istore 4, 2) := by decide +kernel
theorem d6_77 : decode prog_15_method_2_code 77 = .ok (.iload 4, 2) := by decide +kernel
theorem d6_79 : decode prog_15_method_2_code 79 = .ok (.aload_n 1, 1) := by decide +kernel
theorem d6_80 : decode prog_15_method_2_code 80 = .ok (.iload_n 3, 1) := by decide +kernel
theorem d6_81 : decode prog_15_method_2_code 81 = .ok (.iconst 1, 1) := by decide +kernel
theorem d6_82 : decode prog_15_method_2_code 82 = .ok (.iadd, 1) := by decide +kernel
theorem d6_83 : decode prog_15_method_2_code 83 = .ok (.iaload, 1) := by decide +kernel
theorem d6_84 : decode prog_15_method_2_code 84 = .ok (.if_icmp .ge 72, 3) := by decide +kernel
theorem d6_87 : decode prog_15_method_2_code 87 = .ok (.iload 4, 2) := by decide +kernel
theorem d6_89 : decode prog_15_method_2_code 89 = .ok (.aload_n 1, 1) := by decide +kernel
theorem d6_90 : decode prog_15_method_2_code 90 = .ok (.iload_n 3, 1) := by decide +kernel
theorem d6_91 : decode prog_15_method_2_code 91 = .ok (.iaload, 1) := by decide +kernel
theorem d6_92 : decode prog_15_method_2_code 92 = .ok (.if_icmp .eq 16, 3) := by decide +kernel
theorem d6_95 : decode prog_15_method_2_code 95 = .ok (.aload_n 2, 1) := by decide +kernel
theorem d6_96 : decode prog_15_method_2_code 96 = .ok (.iload 4, 2) := by decide +kernel
theorem d6_98 : decode prog_15_method_2_code 98 = .ok (.iconst 1, 1) := by decide +kernel
theorem d6_99 : decode prog_15_method_2_code 99 = .ok (.isub, 1) := by decide +kernel
theorem d6_100 : decode prog_15_method_2_code 100 = .ok (.iaload, 1) := by decide +kernel
theorem d6_101 : decode prog_15_method_2_code 101 = .ok (.aload_n 2, 1) := by decide +kernel
theorem d6_102 : decode prog_15_method_2_code 102 = .ok (.iload 4, 2) := by decide +kernel
theorem d6_104 : decode prog_15_method_2_code 104 = .ok (.iaload, 1) := by decide +kernel
theorem d6_105 : decode prog_15_method_2_code 105 = .ok (.if_icmp .ge 7, 3) := by decide +kernel
theorem d6_108 : decode prog_15_method_2_code 108 = .ok (.iconst 1, 1) := by decide +kernel
theorem d6_109 : decode prog_15_method_2_code 109 = .ok (.goto 4, 3) := by decide +kernel
theorem d6_112 : decode prog_15_method_2_code 112 = .ok (.iconst 0, 1) := by decide +kernel
theorem d6_113 : decode prog_15_method_2_code 113 = .ok (.istore 5, 2) := by decide +kernel
theorem d6_115 : decode prog_15_method_2_code 115 = .ok (.aload_n 2, 1) := by decide +kernel
theorem d6_116 : decode prog_15_method_2_code 116 = .ok (.iload 4, 2) := by decide +kernel
theorem d6_118 : decode prog_15_method_2_code 118 = .ok (.iaload, 1) := by decide +kernel
theorem d6_119 : decode prog_15_method_2_code 119 = .ok (.ifCond .lt 16, 3) := by decide +kernel
theorem d6_122 : decode prog_15_method_2_code 122 = .ok (.aload_n 2, 1) := by decide +kernel
theorem d6_123 : decode prog_15_method_2_code 123 = .ok (.iload 4, 2) := by decide +kernel
theorem d6_125 : decode prog_15_method_2_code 125 = .ok (.iaload, 1) := by decide +kernel
theorem d6_126 : decode prog_15_method_2_code 126 = .ok (.iload_n 0, 1) := by decide +kernel
theorem d6_127 : decode prog_15_method_2_code 127 = .ok (.if_icmp .ge 8, 3) := by decide +kernel
theorem d6_130 : decode prog_15_method_2_code 130 = .ok (.iload 5, 2) := by decide +kernel
theorem d6_132 : decode prog_15_method_2_code 132 = .ok (.ifCond .ne 18, 3) := by decide +kernel
theorem d6_135 : decode prog_15_method_2_code 135 = .ok (.new 33, 3) := by decide +kernel
theorem d6_138 : decode prog_15_method_2_code 138 = .ok (.dup, 1) := by decide +kernel
theorem d6_139 : decode prog_15_method_2_code 139 = .ok (.iload_n 3, 1) := by decide +kernel
theorem d6_140 : decode prog_15_method_2_code 140 = .ok (.iload_n 0, 1) := by decide +kernel
theorem d6_141 : decode prog_15_method_2_code 141 = .ok (.invokedynamic 43, 5) := by decide +kernel
theorem d6_146 : decode prog_15_method_2_code 146 = .ok (.invokespecial 39, 3) := by decide +kernel
theorem d6_149 : decode prog_15_method_2_code 149 = .ok (.athrow, 1) := by decide +kernel
theorem d6_150 : decode prog_15_method_2_code 150 = .ok (.iinc 4 1, 3) := by decide +kernel
theorem d6_153 : decode prog_15_method_2_code 153 = .ok (.goto (-76), 3) := by decide +kernel
theorem d6_156 : decode prog_15_method_2_code 156 = .ok (.iinc 3 1, 3) := by decide +kernel
theorem d6_159 : decode prog_15_method_2_code 159 = .ok (.goto (-120), 3) := by decide +kernel
theorem d6_162 : decode prog_15_method_2_code 162 = .ok (.return_, 1) := by decide +kernel
set_option maxRecDepth 65536 in
set_option maxHeartbeats 40000000 in
theorem own_chI (p : Program) (l : Launch) (e : Env) (R : Room) (s : State) (m : MethodId) (args : Array Value) (below : List Frame) (meth : Method) (c : Code) (Z : State) (a0 : Array Value) (hw : ∀ d ∈ tables_1, d.before a0 Z = true) (n0 : Nat) (s₀ : State) (h : Heap) (k j : Nat) (tc N M : Nat) (S I : Nat → Nat) (H : own_H tc N M S I) (sa da : Addr) (vS vI : List Value) (VS : Av Z h sa .int vS) (VI : Av Z h da .int vI) (AS : own_A vS (N + 1) S) (AI : own_A vI M I) (i : Nat) (hi : i < N) : ∀ (q u : Nat) (o : Slot), u + q = S (i + 1) → S i ≤ u → One o → Go p l e R s m args below meth c Z "com/example/rhumb/rhumb/InstanceTags" prog_15_method_2_code 6 none n0 s₀ h k j 77 #[.val (.int (Int32.ofNat tc)), .val (.ref sa), .val (.ref da), .val (.int (Int32.ofNat i)), .val (.int (Int32.ofNat u)), o] [] → ∃ o', One o' ∧ Go p l e R s m args below meth c Z "com/example/rhumb/rhumb/InstanceTags" prog_15_method_2_code 6 none n0 s₀ h k j 156 #[.val (.int (Int32.ofNat tc)), .val (.ref sa), .val (.ref da), .val (.int (Int32.ofNat i)), .val (.int (Int32.ofNat (S (i + 1)))), o'] [] := by
  intro q
  induction q with
  | zero =>
    intro u o hq hp ho G0
    have hM := H.1.2.2.1
    have hN := H.1.2.1
    have htc := H.1.1
    have hS0 := own_Hl H (show i ≤ N by omega)
    have hS1 := own_Hl H (show i + 1 ≤ N by omega)
    have G1 := G0.iload (v := (Int32.ofNat u)) (pc' := 79) d6_77 rfl
    have G2 := G1.aloadN (v := (.ref sa)) (pc' := 80) d6_79 rfl
    have G3 := G2.iloadN (v := (Int32.ofNat i)) (pc' := 81) d6_80 rfl
    have G4 := G3.iconst (v := (1 : Int32)) (pc' := 82) d6_81
    have G5 := G4.iadd (pc' := 83) d6_82
    rw [own_a1] at G5
    have G6 := G5.ldI (i := (i + 1)) (v := (.int (Int32.ofNat (S (i + 1))))) (pc' := 84) VS (own_i _ (by omega)) (AS.2 _ (by omega)) d6_83
    have G7 := G6.icmpY d6_84 156 (Jvm.Free.XT.ii_ge_t (fun q => by have := (own_lt _ _ (by omega) (by omega)).mp q; omega))
    obtain rfl : u = S (i + 1) := by omega
    exact ⟨_, ho, G7⟩
  | succ q ih =>
    intro u o hq hp ho G0
    have hM := H.1.2.2.1
    have hN := H.1.2.1
    have htc := H.1.1
    have hS0 := own_Hl H (show i ≤ N by omega)
    have hS1 := own_Hl H (show i + 1 ≤ N by omega)
    have G1 := G0.iload (v := (Int32.ofNat u)) (pc' := 79) d6_77 rfl
    have G2 := G1.aloadN (v := (.ref sa)) (pc' := 80) d6_79 rfl
    have G3 := G2.iloadN (v := (Int32.ofNat i)) (pc' := 81) d6_80 rfl
    have G4 := G3.iconst (v := (1 : Int32)) (pc' := 82) d6_81
    have G5 := G4.iadd (pc' := 83) d6_82
    rw [own_a1] at G5
    have G6 := G5.ldI (i := (i + 1)) (v := (.int (Int32.ofNat (S (i + 1))))) (pc' := 84) VS (own_i _ (by omega)) (AS.2 _ (by omega)) d6_83
    have G8 := G6.icmpN d6_84 87 (Jvm.Free.XT.ii_ge_f ((own_lt _ _ (by omega) (by omega)).mpr (by omega)))
    have hpM : u < M := by omega
    have hp2 := H.2.2 i hi u hp (by omega)
    have hI0 := own_Hi H hpM
    have G9 := G8.iload (v := (Int32.ofNat u)) (pc' := 89) d6_87 rfl
    have G10 := G9.aloadN (v := (.ref sa)) (pc' := 90) d6_89 rfl
    have G11 := G10.iloadN (v := (Int32.ofNat i)) (pc' := 91) d6_90 rfl
    have G12 := G11.ldI (i := i) (v := (.int (Int32.ofNat (S i)))) (pc' := 92) VS (own_i _ (by omega)) (AS.2 _ (by omega)) d6_91
    by_cases h3 : u = S i
    · have G13 := G12.icmpY d6_92 108 (Jvm.Free.XT.ii_eq_t (by rw [h3]))
      skip
      have G14 := G13.iconst (v := (1 : Int32)) (pc' := 109) d6_108
      have G15 := G14.goto d6_109 113
      have G16 := G15.istore (L' := #[.val (.int (Int32.ofNat tc)), .val (.ref sa), .val (.ref da), .val (.int (Int32.ofNat i)), .val (.int (Int32.ofNat u)), .val (.int (1 : Int32))]) (pc' := 115) d6_113 (XS.store1 (o := o) rfl ho rfl)
      have G17 := G16.aloadN (v := (.ref da)) (pc' := 116) d6_115 rfl
      have G18 := G17.iload (v := (Int32.ofNat u)) (pc' := 118) d6_116 rfl
      have G19 := G18.ldI (i := u) (v := (.int (Int32.ofNat (I u)))) (pc' := 119) VI (own_i _ (by omega)) (AI.2 _ (by omega)) d6_118
      have G20 := G19.ifN d6_119 122 (Jvm.Free.XT.i0_lt_f (own_l0 _ (by omega)))
      have G21 := G20.aloadN (v := (.ref da)) (pc' := 123) d6_122 rfl
      have G22 := G21.iload (v := (Int32.ofNat u)) (pc' := 125) d6_123 rfl
      have G23 := G22.ldI (i := u) (v := (.int (Int32.ofNat (I u)))) (pc' := 126) VI (own_i _ (by omega)) (AI.2 _ (by omega)) d6_125
      have G24 := G23.iloadN (v := (Int32.ofNat tc)) (pc' := 127) d6_126 rfl
      have G25 := G24.icmpN d6_127 130 (Jvm.Free.XT.ii_ge_f ((own_lt _ _ (by omega) (by omega)).mpr hp2.1))
      have G26 := G25.iload (v := (1 : Int32)) (pc' := 132) d6_130 rfl
      have G27 := G26.ifY d6_132 150 (Jvm.Free.XT.i0_ne_t (by decide))
      have G28 := G27.iinc (v := (1 : Int32)) (x := (Int32.ofNat u)) (L' := #[.val (.int (Int32.ofNat tc)), .val (.ref sa), .val (.ref da), .val (.int (Int32.ofNat i)), .val (.int ((Int32.ofNat u) + (1 : Int32))), .val (.int (1 : Int32))]) (pc' := 153) d6_150 rfl rfl
      have G29 := G28.goto d6_153 77
      rw [own_a1] at G29
      exact ih (u + 1) _ (by omega) (by omega) (One.val (w := (.int (1 : Int32))) rfl) G29
    · have G30 := G12.icmpN d6_92 95 (Jvm.Free.XT.ii_eq_f (fun q => h3 ((own_eq _ _ (by omega) (by omega)).mp q)))
      have hI1 := own_Hi H (show u - 1 < M by omega)
      have G31 := G30.aloadN (v := (.ref da)) (pc' := 96) d6_95 rfl
      have G32 := G31.iload (v := (Int32.ofNat u)) (pc' := 98) d6_96 rfl
      have G33 := G32.iconst (v := (1 : Int32)) (pc' := 99) d6_98
      have G34 := G33.isub (pc' := 100) d6_99
      rw [own_s1 u (by omega) (by omega)] at G34
      have G35 := G34.ldI (i := (u - 1)) (v := (.int (Int32.ofNat (I (u - 1))))) (pc' := 101) VI (own_i _ (by omega)) (AI.2 _ (by omega)) d6_100
      have G36 := G35.aloadN (v := (.ref da)) (pc' := 102) d6_101 rfl
      have G37 := G36.iload (v := (Int32.ofNat u)) (pc' := 104) d6_102 rfl
      have G38 := G37.ldI (i := u) (v := (.int (Int32.ofNat (I u)))) (pc' := 105) VI (own_i _ (by omega)) (AI.2 _ (by omega)) d6_104
      have G39 := G38.icmpN d6_105 108 (Jvm.Free.XT.ii_ge_f ((own_lt _ _ (by omega) (by omega)).mpr (hp2.2.resolve_left h3)))
      have G40 := G39.iconst (v := (1 : Int32)) (pc' := 109) d6_108
      have G41 := G40.goto d6_109 113
      have G42 := G41.istore (L' := #[.val (.int (Int32.ofNat tc)), .val (.ref sa), .val (.ref da), .val (.int (Int32.ofNat i)), .val (.int (Int32.ofNat u)), .val (.int (1 : Int32))]) (pc' := 115) d6_113 (XS.store1 (o := o) rfl ho rfl)
      have G43 := G42.aloadN (v := (.ref da)) (pc' := 116) d6_115 rfl
      have G44 := G43.iload (v := (Int32.ofNat u)) (pc' := 118) d6_116 rfl
      have G45 := G44.ldI (i := u) (v := (.int (Int32.ofNat (I u)))) (pc' := 119) VI (own_i _ (by omega)) (AI.2 _ (by omega)) d6_118
      have G46 := G45.ifN d6_119 122 (Jvm.Free.XT.i0_lt_f (own_l0 _ (by omega)))
      have G47 := G46.aloadN (v := (.ref da)) (pc' := 123) d6_122 rfl
      have G48 := G47.iload (v := (Int32.ofNat u)) (pc' := 125) d6_123 rfl
      have G49 := G48.ldI (i := u) (v := (.int (Int32.ofNat (I u)))) (pc' := 126) VI (own_i _ (by omega)) (AI.2 _ (by omega)) d6_125
      have G50 := G49.iloadN (v := (Int32.ofNat tc)) (pc' := 127) d6_126 rfl
      have G51 := G50.icmpN d6_127 130 (Jvm.Free.XT.ii_ge_f ((own_lt _ _ (by omega) (by omega)).mpr hp2.1))
      have G52 := G51.iload (v := (1 : Int32)) (pc' := 132) d6_130 rfl
      have G53 := G52.ifY d6_132 150 (Jvm.Free.XT.i0_ne_t (by decide))
      have G54 := G53.iinc (v := (1 : Int32)) (x := (Int32.ofNat u)) (L' := #[.val (.int (Int32.ofNat tc)), .val (.ref sa), .val (.ref da), .val (.int (Int32.ofNat i)), .val (.int ((Int32.ofNat u) + (1 : Int32))), .val (.int (1 : Int32))]) (pc' := 153) d6_150 rfl rfl
      have G55 := G54.goto d6_153 77
      rw [own_a1] at G55
      exact ih (u + 1) _ (by omega) (by omega) (One.val (w := (.int (1 : Int32))) rfl) G55
set_option maxRecDepth 65536 in
set_option maxHeartbeats 40000000 in
theorem own_chO (p : Program) (l : Launch) (e : Env) (R : Room) (s : State) (m : MethodId) (args : Array Value) (below : List Frame) (meth : Method) (c : Code) (Z : State) (a0 : Array Value) (hw : ∀ d ∈ tables_1, d.before a0 Z = true) (n0 : Nat) (s₀ : State) (h : Heap) (k j : Nat) (tc N M : Nat) (S I : Nat → Nat) (H : own_H tc N M S I) (sa da : Addr) (vS vI : List Value) (VS : Av Z h sa .int vS) (VI : Av Z h da .int vI) (AS : own_A vS (N + 1) S) (AI : own_A vI M I) : ∀ (q i : Nat) (o o2 : Slot), i + q = N → One o → One o2 → Go p l e R s m args below meth c Z "com/example/rhumb/rhumb/InstanceTags" prog_15_method_2_code 6 none n0 s₀ h k j 39 #[.val (.int (Int32.ofNat tc)), .val (.ref sa), .val (.ref da), .val (.int (Int32.ofNat i)), o, o2] [] → ∃ o3 o4 o5, Go p l e R s m args below meth c Z "com/example/rhumb/rhumb/InstanceTags" prog_15_method_2_code 6 none n0 s₀ h k j 162 #[.val (.int (Int32.ofNat tc)), .val (.ref sa), .val (.ref da), o3, o4, o5] [] := by
  intro q
  induction q with
  | zero =>
    intro i o o2 hq ho ho2 G0
    have hM := H.1.2.2.1
    have hN := H.1.2.1
    have htc := H.1.1
    have G1 := G0.iloadN (v := (Int32.ofNat i)) (pc' := 40) d6_39 rfl
    have G2 := G1.iconst (v := (1 : Int32)) (pc' := 41) d6_40
    have G3 := G2.iadd (pc' := 42) d6_41
    rw [own_a1] at G3
    have G4 := G3.aloadN (v := (.ref sa)) (pc' := 43) d6_42 rfl
    have G5 := G4.arrlen (pc' := 44) (v := (Int32.ofNat (N + 1))) VS (by rw [AS.1]; exact own_i _ (by omega)) d6_43
    have G6 := G5.icmpY d6_44 162 (Jvm.Free.XT.ii_ge_t (fun q => by have := (own_lt _ _ (by omega) (by omega)).mp q; omega))
    exact ⟨_, _, _, G6⟩
  | succ q ih =>
    intro i o o2 hq ho ho2 G0
    have hM := H.1.2.2.1
    have hN := H.1.2.1
    have htc := H.1.1
    have G1 := G0.iloadN (v := (Int32.ofNat i)) (pc' := 40) d6_39 rfl
    have G2 := G1.iconst (v := (1 : Int32)) (pc' := 41) d6_40
    have G3 := G2.iadd (pc' := 42) d6_41
    rw [own_a1] at G3
    have G4 := G3.aloadN (v := (.ref sa)) (pc' := 43) d6_42 rfl
    have G5 := G4.arrlen (pc' := 44) (v := (Int32.ofNat (N + 1))) VS (by rw [AS.1]; exact own_i _ (by omega)) d6_43
    have G7 := G5.icmpN d6_44 47 (Jvm.Free.XT.ii_ge_f ((own_lt _ _ (by omega) (by omega)).mpr (by omega)))
    have hi : i < N := by omega
    have hS0 := own_Hl H (show i ≤ N by omega)
    have hS1 := own_Hl H (show i + 1 ≤ N by omega)
    have hS2 := H.2.1 i hi
    have G8 := G7.aloadN (v := (.ref sa)) (pc' := 48) d6_47 rfl
    have G9 := G8.iloadN (v := (Int32.ofNat i)) (pc' := 49) d6_48 rfl
    have G10 := G9.ldI (i := i) (v := (.int (Int32.ofNat (S i)))) (pc' := 50) VS (own_i _ (by omega)) (AS.2 _ (by omega)) d6_49
    have G11 := G10.aloadN (v := (.ref sa)) (pc' := 51) d6_50 rfl
    have G12 := G11.iloadN (v := (Int32.ofNat i)) (pc' := 52) d6_51 rfl
    have G13 := G12.iconst (v := (1 : Int32)) (pc' := 53) d6_52
    have G14 := G13.iadd (pc' := 54) d6_53
    rw [own_a1] at G14
    have G15 := G14.ldI (i := (i + 1)) (v := (.int (Int32.ofNat (S (i + 1))))) (pc' := 55) VS (own_i _ (by omega)) (AS.2 _ (by omega)) d6_54
    have G16 := G15.icmpY d6_55 72 (Jvm.Free.XT.ii_le_t (fun q => by have := (own_lt _ _ (by omega) (by omega)).mp q; omega))
    have G17 := G16.aloadN (v := (.ref sa)) (pc' := 73) d6_72 rfl
    have G18 := G17.iloadN (v := (Int32.ofNat i)) (pc' := 74) d6_73 rfl
    have G19 := G18.ldI (i := i) (v := (.int (Int32.ofNat (S i)))) (pc' := 75) VS (own_i _ (by omega)) (AS.2 _ (by omega)) d6_74
    have G20 := G19.istore (L' := #[.val (.int (Int32.ofNat tc)), .val (.ref sa), .val (.ref da), .val (.int (Int32.ofNat i)), .val (.int (Int32.ofNat (S i))), o2]) (pc' := 77) d6_75 (XS.store1 (o := o) rfl ho rfl)
    obtain ⟨o6, ho6, GX⟩ := own_chI p l e R s m args below meth c Z a0 hw n0 s₀ h k j tc N M S I H sa da vS vI VS VI AS AI i hi (S (i + 1) - S i) (S i) _ (by omega) (Nat.le_refl _) ho2 G20
    have G21 := GX.iinc (v := (1 : Int32)) (x := (Int32.ofNat i)) (L' := #[.val (.int (Int32.ofNat tc)), .val (.ref sa), .val (.ref da), .val (.int ((Int32.ofNat i) + (1 : Int32))), .val (.int (Int32.ofNat (S (i + 1)))), o6]) (pc' := 159) d6_156 rfl rfl
    have G22 := G21.goto d6_159 39
    rw [own_a1] at G22
    exact ih (i + 1) _ _ (by omega) (One.val (w := (.int (Int32.ofNat (S (i + 1))))) rfl) ho6 G22
theorem pn0 : plainName "com/example/rhumb/rhumb/InstanceTags" = true := by first | (simp [plainName, overriddenIn]; done) | decide +kernel
theorem ef6 (m : MethodId) (tc : Nat) (sa : Addr) (da : Addr) : entryFrame m #[(.int (Int32.ofNat tc)), (.ref sa), (.ref da)] 6 = mkF m 0 #[.val (.int (Int32.ofNat tc)), .val (.ref sa), .val (.ref da), .unset, .unset, .unset] [] := by first | (simp [entryFrame, mkF, argsToLocals, Value.category]; done) | rfl
def rm6 : Room := { frames := 0, cells := 0, slots := 0, locals := 0 }
set_option maxRecDepth 65536 in
set_option maxHeartbeats 40000000 in
theorem cn6 (l : Launch) (Z : State) (a0 : Array Value) (hw : ∀ d ∈ tables_1, d.before a0 Z = true) (tc : Nat) (sa : Addr) (da : Addr) (h0 : Heap) (n0 : Nat) (hn : n0 ≤ h0.size) (N M : Nat) (S I : Nat → Nat) (H : own_H tc N M S I) (vS vI : List Value) (VS : Av Z h0 sa .int vS) (VI : Av Z h0 da .int vI) (AS : own_A vS (N + 1) S) (AI : own_A vI M I) :
    Con l (⟨"com/example/rhumb/rhumb/InstanceTags", "checkTagsOfInstances", "(I[I[I)V"⟩ : MethodName) prog_15_method_2_code 6 none [] rm6 rm6.cells rm6.slots Z #[(.int (Int32.ofNat tc)), (.ref sa), (.ref da)] h0 n0 (fun v h => v = none ∧ h = h0) := by
  refine Con.of (plainFor_of_name pn0) hn (fun m => ef6 m tc sa da) ?_
  intro p e s m below meth c s₀ hnm G0
  have hM := H.1.2.2.1
  have hN := H.1.2.1
  have htc := H.1.1
  have hS0 := H.1.2.2.2.1
  have hSN := H.1.2.2.2.2
  have G1 := G0.aloadN (v := (.ref sa)) (pc' := 1) d6_0 rfl
  have G2 := G1.arrlen (pc' := 2) (v := (Int32.ofNat (N + 1))) VS (by rw [AS.1]; exact own_i _ (by omega)) d6_1
  have G3 := G2.ifN d6_2 5 (Jvm.Free.XT.i0_eq_f (fun q => by have := (own_eq (N + 1) 0 (by omega) (by omega)).mp q; omega))
  have G4 := G3.aloadN (v := (.ref sa)) (pc' := 6) d6_5 rfl
  have G5 := G4.iconst (v := (0 : Int32)) (pc' := 7) d6_6
  have G6 := G5.ldI (i := 0) (v := (.int (Int32.ofNat (S 0)))) (pc' := 8) VS (by decide) (AS.2 0 (by omega)) d6_7
  have G7 := G6.ifN d6_8 11 (Jvm.Free.XT.i0_ne_f (by rw [hS0]; rfl))
  have G8 := G7.aloadN (v := (.ref sa)) (pc' := 12) d6_11 rfl
  have G9 := G8.aloadN (v := (.ref sa)) (pc' := 13) d6_12 rfl
  have G10 := G9.arrlen (pc' := 14) (v := (Int32.ofNat (N + 1))) VS (by rw [AS.1]; exact own_i _ (by omega)) d6_13
  have G11 := G10.iconst (v := (1 : Int32)) (pc' := 15) d6_14
  have G12 := G11.isub (pc' := 16) d6_15
  rw [own_s1 (N + 1) (by omega) (by omega)] at G12
  have GQ : Go p l e rm6 s m #[(.int (Int32.ofNat tc)), (.ref sa), (.ref da)] below meth c Z "com/example/rhumb/rhumb/InstanceTags" prog_15_method_2_code 6 none n0 s₀ h0 0 0 16 #[.val (.int (Int32.ofNat tc)), .val (.ref sa), .val (.ref da), .unset, .unset, .unset] [(.int (Int32.ofNat N)), (.ref sa)] := G12
  have G13 := GQ.ldI (i := N) (v := (.int (Int32.ofNat (S N)))) (pc' := 17) VS (own_i _ (by omega)) (AS.2 _ (by omega)) d6_16
  have G14 := G13.aloadN (v := (.ref da)) (pc' := 18) d6_17 rfl
  have G15 := G14.arrlen (pc' := 19) (v := (Int32.ofNat M)) VI (by rw [AI.1]; exact own_i _ (by omega)) d6_18
  have G16 := G15.icmpY d6_19 37 (Jvm.Free.XT.ii_eq_t (by rw [hSN]))
  have G17 := G16.iconst (v := (0 : Int32)) (pc' := 38) d6_37
  have G18 := G17.istoreN (L' := #[.val (.int (Int32.ofNat tc)), .val (.ref sa), .val (.ref da), .val (.int (0 : Int32)), .unset, .unset]) (pc' := 39) d6_38 rfl
  obtain ⟨o3, o4, o5, GX⟩ := own_chO p l e rm6 s m _ below meth c Z a0 hw n0 s₀ h0 0 0 tc N M S I H sa da vS vI VS VI AS AI N 0 _ _ (by omega) One.u One.u G18
  exact GX.retV d6_162 rfl ⟨rfl, rfl⟩
theorem d7_0 : decode prog_15_method_3_code 0 = .ok (.aload_n 0, 1) := by decide +kernel
theorem d7_1 : decode prog_15_method_3_code 1 = .ok (.getfield 21, 3) := by decide +kernel
theorem d7_4 : decode prog_15_method_3_code 4 = .ok (.astore_n 1, 1) := by decide +kernel
theorem d7_5 : decode prog_15_method_3_code 5 = .ok (.aload_n 1, 1) := by decide +kernel
theorem d7_6 : decode prog_15_method_3_code 6 = .ok (.arraylength, 1) := by decide +kernel
theorem d7_7 : decode prog_15_method_3_code 7 = .ok (.istore_n 2, 1) := by decide +kernel
theorem d7_8 : decode prog_15_method_3_code 8 = .ok (.iconst 0, 1) := by decide +kernel
theorem d7_9 : decode prog_15_method_3_code 9 = .ok (.istore_n 3, 1) := by decide +kernel
theorem d7_10 : decode prog_15_method_3_code 10 = .ok (.iload_n 3, 1) := by decide +kernel
theorem d7_11 : decode prog_15_method_3_code 11 = .ok (.iload_n 2, 1) := by decide +kernel
theorem d7_12 : decode prog_15_method_3_code 12 = .ok (.if_icmp .ge 27, 3) := by decide +kernel
theorem d7_15 : decode prog_15_method_3_code 15 = .ok (.aload_n 1, 1) := by decide +kernel
theorem d7_16 : decode prog_15_method_3_code 16 = .ok (.iload_n 3, 1) := by decide +kernel
theorem d7_17 : decode prog_15_method_3_code 17 = .ok (.iaload, 1) := by decide +kernel
theorem d7_18 : decode prog_15_method_3_code 18 = .ok (.istore 4, 2) := by decide +kernel
theorem d7_20 : decode prog_15_method_3_code 20 = .ok (.aload_n 0, 1) := by decide +kernel
theorem d7_21 : decode prog_15_method_3_code 21 = .ok (.getfield 24, 3) := by decide +kernel
theorem d7_24 : decode prog_15_method_3_code 24 = .ok (.iload 4, 2) := by decide +kernel
theorem d7_26 : decode prog_15_method_3_code 26 = .ok (.iconst 1, 1) := by decide +kernel
theorem d7_27 : decode prog_15_method_3_code 27 = .ok (.iadd, 1) := by decide +kernel
theorem d7_28 : decode prog_15_method_3_code 28 = .ok (.dup2, 1) := by decide +kernel
theorem d7_29 : decode prog_15_method_3_code 29 = .ok (.iaload, 1) := by decide +kernel
theorem d7_30 : decode prog_15_method_3_code 30 = .ok (.iconst 1, 1) := by decide +kernel
theorem d7_31 : decode prog_15_method_3_code 31 = .ok (.iadd, 1) := by decide +kernel
theorem d7_32 : decode prog_15_method_3_code 32 = .ok (.iastore, 1) := by decide +kernel
theorem d7_33 : decode prog_15_method_3_code 33 = .ok (.iinc 3 1, 3) := by decide +kernel
theorem d7_36 : decode prog_15_method_3_code 36 = .ok (.goto (-26), 3) := by decide +kernel
theorem d7_39 : decode prog_15_method_3_code 39 = .ok (.iconst 0, 1) := by decide +kernel
theorem d7_40 : decode prog_15_method_3_code 40 = .ok (.istore_n 1, 1) := by decide +kernel
theorem d7_41 : decode prog_15_method_3_code 41 = .ok (.iload_n 1, 1) := by decide +kernel
theorem d7_42 : decode prog_15_method_3_code 42 = .ok (.aload_n 0, 1) := by decide +kernel
theorem d7_43 : decode prog_15_method_3_code 43 = .ok (.getfield 13, 3) := by decide +kernel
theorem d7_46 : decode prog_15_method_3_code 46 = .ok (.if_icmp .ge 26, 3) := by decide +kernel
theorem d7_49 : decode prog_15_method_3_code 49 = .ok (.aload_n 0, 1) := by decide +kernel
theorem d7_50 : decode prog_15_method_3_code 50 = .ok (.getfield 24, 3) := by decide +kernel
theorem d7_53 : decode prog_15_method_3_code 53 = .ok (.iload_n 1, 1) := by decide +kernel
theorem d7_54 : decode prog_15_method_3_code 54 = .ok (.iconst 1, 1) := by decide +kernel
theorem d7_55 : decode prog_15_method_3_code 55 = .ok (.iadd, 1) := by decide +kernel
theorem d7_56 : decode prog_15_method_3_code 56 = .ok (.dup2, 1) := by decide +kernel
theorem d7_57 : decode prog_15_method_3_code 57 = .ok (.iaload, 1) := by decide +kernel
theorem d7_58 : decode prog_15_method_3_code 58 = .ok (.aload_n 0, 1) := by decide +kernel
theorem d7_59 : decode prog_15_method_3_code 59 = .ok (.getfield 24, 3) := by decide +kernel
theorem d7_62 : decode prog_15_method_3_code 62 = .ok (.iload_n 1, 1) := by decide +kernel
theorem d7_63 : decode prog_15_method_3_code 63 = .ok (.iaload, 1) := by decide +kernel
theorem d7_64 : decode prog_15_method_3_code 64 = .ok (.iadd, 1) := by decide +kernel
theorem d7_65 : decode prog_15_method_3_code 65 = .ok (.iastore, 1) := by decide +kernel
theorem d7_66 : decode prog_15_method_3_code 66 = .ok (.iinc 1 1, 3) := by decide +kernel
theorem d7_69 : decode prog_15_method_3_code 69 = .ok (.goto (-28), 3) := by decide +kernel
theorem d7_72 : decode prog_15_method_3_code 72 = .ok (.aload_n 0, 1) := by decide +kernel
theorem d7_73 : decode prog_15_method_3_code 73 = .ok (.getfield 24, 3) := by decide +kernel
theorem d7_76 : decode prog_15_method_3_code 76 = .ok (.aload_n 0, 1) := by decide +kernel
theorem d7_77 : decode prog_15_method_3_code 77 = .ok (.getfield 13, 3) := by decide +kernel
theorem d7_80 : decode prog_15_method_3_code 80 = .ok (.invokestatic 46, 3) := by decide +kernel
theorem d7_83 : decode prog_15_method_3_code 83 = .ok (.astore_n 1, 1) := by decide +kernel
theorem d7_84 : decode prog_15_method_3_code 84 = .ok (.iconst 0, 1) := by decide +kernel
theorem d7_85 : decode prog_15_method_3_code 85 = .ok (.istore_n 2, 1) := by decide +kernel
theorem d7_86 : decode prog_15_method_3_code 86 = .ok (.iload_n 2, 1) := by decide +kernel
theorem d7_87 : decode prog_15_method_3_code 87 = .ok (.aload_n 0, 1) := by decide +kernel
theorem d7_88 : decode prog_15_method_3_code 88 = .ok (.invokevirtual 52, 3) := by decide +kernel
theorem d7_91 : decode prog_15_method_3_code 91 = .ok (.if_icmp .ge 53, 3) := by decide +kernel
theorem d7_94 : decode prog_15_method_3_code 94 = .ok (.aload_n 0, 1) := by decide +kernel
theorem d7_95 : decode prog_15_method_3_code 95 = .ok (.getfield 17, 3) := by decide +kernel
theorem d7_98 : decode prog_15_method_3_code 98 = .ok (.iload_n 2, 1) := by decide +kernel
theorem d7_99 : decode prog_15_method_3_code 99 = .ok (.iaload, 1) := by decide +kernel
theorem d7_100 : decode prog_15_method_3_code 100 = .ok (.istore_n 3, 1) := by decide +kernel
theorem d7_101 : decode prog_15_method_3_code 101 = .ok (.iload_n 3, 1) := by decide +kernel
theorem d7_102 : decode prog_15_method_3_code 102 = .ok (.aload_n 0, 1) := by decide +kernel
theorem d7_103 : decode prog_15_method_3_code 103 = .ok (.getfield 17, 3) := by decide +kernel
theorem d7_106 : decode prog_15_method_3_code 106 = .ok (.iload_n 2, 1) := by decide +kernel
theorem d7_107 : decode prog_15_method_3_code 107 = .ok (.iconst 1, 1) := by decide +kernel
theorem d7_108 : decode prog_15_method_3_code 108 = .ok (.iadd, 1) := by decide +kernel
theorem d7_109 : decode prog_15_method_3_code 109 = .ok (.iaload, 1) := by decide +kernel
theorem d7_110 : decode prog_15_method_3_code 110 = .ok (.if_icmp .ge 28, 3) := by decide +kernel
theorem d7_113 : decode prog_15_method_3_code 113 = .ok (.aload_n 0, 1) := by decide +kernel
theorem d7_114 : decode prog_15_method_3_code 114 = .ok (.getfield 27, 3) := by decide +kernel
theorem d7_117 : decode prog_15_method_3_code 117 = .ok (.aload_n 1, 1) := by decide +kernel
theorem d7_118 : decode prog_15_method_3_code 118 = .ok (.aload_n 0, 1) := by decide +kernel
theorem d7_119 : decode prog_15_method_3_code 119 = .ok (.getfield 21, 3) := by decide +kernel
theorem d7_122 : decode prog_15_method_3_code 122 = .ok (.iload_n 3, 1) := by decide +kernel
theorem d7_123 : decode prog_15_method_3_code 123 = .ok (.iaload, 1) := by decide +kernel
theorem d7_124 : decode prog_15_method_3_code 124 = .ok (.dup2, 1) := by decide +kernel
theorem d7_125 : decode prog_15_method_3_code 125 = .ok (.iaload, 1) := by decide +kernel
theorem d7_126 : decode prog_15_method_3_code 126 = .ok (.dup_x2, 1) := by decide +kernel
theorem d7_127 : decode prog_15_method_3_code 127 = .ok (.iconst 1, 1) := by decide +kernel
theorem d7_128 : decode prog_15_method_3_code 128 = .ok (.iadd, 1) := by decide +kernel
theorem d7_129 : decode prog_15_method_3_code 129 = .ok (.iastore, 1) := by decide +kernel
theorem d7_130 : decode prog_15_method_3_code 130 = .ok (.iload_n 2, 1) := by decide +kernel
theorem d7_131 : decode prog_15_method_3_code 131 = .ok (.iastore, 1) := by decide +kernel
theorem d7_132 : decode prog_15_method_3_code 132 = .ok (.iinc 3 1, 3) := by decide +kernel
theorem d7_135 : decode prog_15_method_3_code 135 = .ok (.goto (-34), 3) := by decide +kernel
theorem d7_138 : decode prog_15_method_3_code 138 = .ok (.iinc 2 1, 3) := by decide +kernel
theorem d7_141 : decode prog_15_method_3_code 141 = .ok (.goto (-55), 3) := by decide +kernel
theorem d7_144 : decode prog_15_method_3_code 144 = .ok (.return_, 1) := by decide +kernel
def own_gA (I : Nat → Nat) (i t : Nat) : Nat := if t = 0 then 0 else own_cn I i (t - 1)
theorem own_gAs (I : Nat → Nat) (i t : Nat) : (if t = I i + 1 then own_gA I i (I i + 1) + 1 else own_gA I i t) = own_gA I (i + 1) t := by
  unfold own_gA
  rw [own_cn]
  by_cases h : t = 0
  · subst h; rw [if_neg (by omega), if_pos rfl, if_pos rfl]
  · rw [if_neg (show ¬ I i + 1 = 0 by omega), if_neg h, if_neg h, Nat.add_sub_cancel]
    by_cases q : t = I i + 1
    · subst q; rw [if_pos rfl, Nat.add_sub_cancel, if_pos rfl]
    · rw [if_neg q, if_neg (by omega)]; omega
theorem own_gAl (I : Nat → Nat) (i t : Nat) : own_gA I i t ≤ i := by
  unfold own_gA
  split
  · omega
  · exact own_cnl _ _ _
def own_gB (I : Nat → Nat) (M i t : Nat) : Nat := if t ≤ i then own_ps I M t else own_gA I M t
theorem own_gB0 (I : Nat → Nat) (M t : Nat) : own_gA I M t = own_gB I M 0 t := by
  unfold own_gB own_gA
  by_cases h : t = 0
  · subst h; rw [if_pos rfl, if_pos (Nat.le_refl _), own_ps0]
  · rw [if_neg h, if_neg (by omega)]
theorem own_gBs (I : Nat → Nat) (M i t : Nat) : (if t = i + 1 then own_gB I M i (i + 1) + own_gB I M i i else own_gB I M i t) = own_gB I M (i + 1) t := by
  unfold own_gB
  by_cases q : t = i + 1
  · subst q
    rw [if_pos rfl, if_neg (by omega), if_pos (Nat.le_refl _), if_pos (Nat.le_refl _), own_pss]
    unfold own_gA
    rw [if_neg (by omega), Nat.add_sub_cancel]; omega
  · rw [if_neg q]
    by_cases r : t ≤ i
    · rw [if_pos r, if_pos (by omega)]
    · rw [if_neg r, if_neg (by omega)]
theorem own_gBl (I : Nat → Nat) (M i t : Nat) : own_gB I M i t ≤ M := by
  unfold own_gB
  split
  · exact own_psl _ _ _
  · exact own_gAl _ _ _
def own_gC (I : Nat → Nat) (M p t : Nat) : Nat := own_ps I M t + own_cn I p t
theorem own_gCs (I : Nat → Nat) (M p t : Nat) : (if t = I p then own_gC I M p (I p) + 1 else own_gC I M p t) = own_gC I M (p + 1) t := by
  unfold own_gC
  rw [own_cn]
  by_cases q : t = I p
  · subst q; rw [if_pos rfl, if_pos rfl]; omega
  · rw [if_neg q, if_neg (fun z => q z.symm)]; omega
set_option maxRecDepth 65536 in
set_option maxHeartbeats 40000000 in
theorem own_ivA (p : Program) (l : Launch) (e : Env) (R : Room) (s : State) (m : MethodId) (args : Array Value) (below : List Frame) (meth : Method) (c : Code) (Z : State) (a0 : Array Value) (hw : ∀ d ∈ tables_1, d.before a0 Z = true) (n0 : Nat) (s₀ : State) (h0 : Heap) (k j : Nat) (tc N M : Nat) (S I : Nat → Nat) (H : own_H tc N M S I) (a da ca : Addr) (vI : List Value) (F0 : Fld Z h0 a "com/example/rhumb/rhumb/InstanceTags" "instanceStart" "[I" (.ref ca)) (VI : Av Z h0 da .int vI) (AI : own_A vI M I) (g_c : n0 ≤ ca) (ne_ac : a ≠ ca) (ne_dc : da ≠ ca) : ∀ (q i : Nat) (hh : Heap) (vs : List Value) (o : Slot), i + q = M → Keep h0 hh [ca] → Av Z hh ca .int vs → own_A vs (tc + 1) (own_gA I i) → One o → Go p l e R s m args below meth c Z "com/example/rhumb/rhumb/InstanceTags" prog_15_method_3_code 5 none n0 s₀ hh k j 10 #[.val (.ref a), .val (.ref da), .val (.int (Int32.ofNat M)), .val (.int (Int32.ofNat i)), o] [] → ∃ hh' vs' o', Keep h0 hh' [ca] ∧ Av Z hh' ca .int vs' ∧ own_A vs' (tc + 1) (own_gA I M) ∧ One o' ∧ Go p l e R s m args below meth c Z "com/example/rhumb/rhumb/InstanceTags" prog_15_method_3_code 5 none n0 s₀ hh' k j 39 #[.val (.ref a), .val (.ref da), .val (.int (Int32.ofNat M)), .val (.int (Int32.ofNat M)), o'] [] := by
  intro q
  induction q with
  | zero =>
    intro i hh vs o hq Kp VC AC ho G0
    have hM := H.1.2.2.1
    have hN := H.1.2.1
    have htc := H.1.1
    have B1 : Fld Z hh a "com/example/rhumb/rhumb/InstanceTags" "instanceStart" "[I" (.ref ca) := F0.keep Kp (ninS ne_ac nin0)
    have B2 : Av Z hh da .int vI := VI.keep Kp (ninS ne_dc nin0)
    have G3 := G0.iloadN (v := (Int32.ofNat i)) (pc' := 11) d7_10 rfl
    have G4 := G3.iloadN (v := (Int32.ofNat M)) (pc' := 12) d7_11 rfl
    have G5 := G4.icmpY d7_12 39 (Jvm.Free.XT.ii_ge_t (fun q => by have := (own_lt _ _ (by omega) (by omega)).mp q; omega))
    obtain rfl : i = M := by omega
    exact ⟨_, _, _, Kp, VC, AC, ho, G5⟩
  | succ q ih =>
    intro i hh vs o hq Kp VC AC ho G0
    have hM := H.1.2.2.1
    have hN := H.1.2.1
    have htc := H.1.1
    have B1 : Fld Z hh a "com/example/rhumb/rhumb/InstanceTags" "instanceStart" "[I" (.ref ca) := F0.keep Kp (ninS ne_ac nin0)
    have B2 : Av Z hh da .int vI := VI.keep Kp (ninS ne_dc nin0)
    have G3 := G0.iloadN (v := (Int32.ofNat i)) (pc' := 11) d7_10 rfl
    have G4 := G3.iloadN (v := (Int32.ofNat M)) (pc' := 12) d7_11 rfl
    have G6 := G4.icmpN d7_12 15 (Jvm.Free.XT.ii_ge_f ((own_lt _ _ (by omega) (by omega)).mpr (by omega)))
    have hI0 := own_Hi H (show i < M by omega)
    have hg := own_gAl I i (I i + 1)
    have G7 := G6.aloadN (v := (.ref da)) (pc' := 16) d7_15 rfl
    have G8 := G7.iloadN (v := (Int32.ofNat i)) (pc' := 17) d7_16 rfl
    have G9 := G8.ldI (i := i) (v := (.int (Int32.ofNat (I i)))) (pc' := 18) B2 (own_i _ (by omega)) (AI.2 _ (by omega)) d7_17
    have G10 := G9.istore (L' := #[.val (.ref a), .val (.ref da), .val (.int (Int32.ofNat M)), .val (.int (Int32.ofNat i)), .val (.int (Int32.ofNat (I i)))]) (pc' := 20) d7_18 (XS.store1 (o := o) rfl ho rfl)
    have G11 := G10.aloadN (v := (.ref a)) (pc' := 21) d7_20 rfl
    have G12 := G11.getF (pc' := 24) (v := (.ref ca)) (host := "") (Or.inl (hw _ (List.mem_of_getElem? (i := 30) rfl))) Via.refl B1 d7_21
    have G13 := G12.iload (v := (Int32.ofNat (I i))) (pc' := 26) d7_24 rfl
    have G14 := G13.iconst (v := (1 : Int32)) (pc' := 27) d7_26
    have G15 := G14.iadd (pc' := 28) d7_27
    rw [own_a1] at G15
    have G16 := G15.dup2 (pc' := 29) d7_28
    have G17 := G16.ldI (i := (I i + 1)) (v := (.int (Int32.ofNat (own_gA I i (I i + 1))))) (pc' := 30) VC (own_i _ (by omega)) (AC.2 _ (by omega)) d7_29
    have G18 := G17.iconst (v := (1 : Int32)) (pc' := 31) d7_30
    have G19 := G18.iadd (pc' := 32) d7_31
    rw [own_a1] at G19
    obtain ⟨h20, W20, V20, G20⟩ := G19.stI (i := (I i + 1)) (pc' := 33) VC g_c (own_i _ (by omega)) (by rw [AC.1]; omega) d7_32
    have K21 : Keep h0 h20 [ca] := Kp.wr W20 (Or.inl (List.mem_of_getElem? (i := 0) rfl))
    have F22 : Fld Z h20 a "com/example/rhumb/rhumb/InstanceTags" "instanceStart" "[I" (.ref ca) := B1.other W20 (Or.inl ne_ac)
    have V23 : Av Z h20 da .int vI := B2.other W20 ne_dc
    have G24 := G20.iinc (v := (1 : Int32)) (x := (Int32.ofNat i)) (L' := #[.val (.ref a), .val (.ref da), .val (.int (Int32.ofNat M)), .val (.int ((Int32.ofNat i) + (1 : Int32))), .val (.int (Int32.ofNat (I i)))]) (pc' := 36) d7_33 rfl rfl
    have G25 := G24.goto d7_36 10
    rw [own_a1] at G25
    exact ih (i + 1) _ _ _ (by omega) K21 V20 (own_Ac (own_As AC (by omega)) (fun t _ => own_gAs I i t)) (One.val (w := (.int (Int32.ofNat (I i)))) rfl) G25
set_option maxRecDepth 65536 in
set_option maxHeartbeats 40000000 in
theorem own_ivB (p : Program) (l : Launch) (e : Env) (R : Room) (s : State) (m : MethodId) (args : Array Value) (below : List Frame) (meth : Method) (c : Code) (Z : State) (a0 : Array Value) (hw : ∀ d ∈ tables_1, d.before a0 Z = true) (n0 : Nat) (s₀ : State) (h0 : Heap) (k j : Nat) (tc N M : Nat) (S I : Nat → Nat) (H : own_H tc N M S I) (a ca : Addr) (F0 : Fld Z h0 a "com/example/rhumb/rhumb/InstanceTags" "instanceStart" "[I" (.ref ca)) (F1 : Fld Z h0 a "com/example/rhumb/rhumb/InstanceTags" "tagCount" "I" (.int (Int32.ofNat tc))) (g_c : n0 ≤ ca) (ne_ac : a ≠ ca) (o2 o3 o4 : Slot) : ∀ (q i : Nat) (hh : Heap) (vs : List Value), i + q = tc → Keep h0 hh [ca] → Av Z hh ca .int vs → own_A vs (tc + 1) (own_gB I M i) → Go p l e R s m args below meth c Z "com/example/rhumb/rhumb/InstanceTags" prog_15_method_3_code 5 none n0 s₀ hh k j 41 #[.val (.ref a), .val (.int (Int32.ofNat i)), o2, o3, o4] [] → ∃ hh' vs', Keep h0 hh' [ca] ∧ Av Z hh' ca .int vs' ∧ own_A vs' (tc + 1) (own_gB I M tc) ∧ Go p l e R s m args below meth c Z "com/example/rhumb/rhumb/InstanceTags" prog_15_method_3_code 5 none n0 s₀ hh' k j 72 #[.val (.ref a), .val (.int (Int32.ofNat tc)), o2, o3, o4] [] := by
  intro q
  induction q with
  | zero =>
    intro i hh vs hq Kp VC AC G0
    have hM := H.1.2.2.1
    have hN := H.1.2.1
    have htc := H.1.1
    have B1 : Fld Z hh a "com/example/rhumb/rhumb/InstanceTags" "instanceStart" "[I" (.ref ca) := F0.keep Kp (ninS ne_ac nin0)
    have B2 : Fld Z hh a "com/example/rhumb/rhumb/InstanceTags" "tagCount" "I" (.int (Int32.ofNat tc)) := F1.keep Kp (ninS ne_ac nin0)
    have G3 := G0.iloadN (v := (Int32.ofNat i)) (pc' := 42) d7_41 rfl
    have G4 := G3.aloadN (v := (.ref a)) (pc' := 43) d7_42 rfl
    have G5 := G4.getF (pc' := 46) (v := (.int (Int32.ofNat tc))) (host := "") (Or.inl (hw _ (List.mem_of_getElem? (i := 24) rfl))) Via.refl B2 d7_43
    have G6 := G5.icmpY d7_46 72 (Jvm.Free.XT.ii_ge_t (fun q => by have := (own_lt _ _ (by omega) (by omega)).mp q; omega))
    obtain rfl : i = tc := by omega
    exact ⟨_, _, Kp, VC, AC, G6⟩
  | succ q ih =>
    intro i hh vs hq Kp VC AC G0
    have hM := H.1.2.2.1
    have hN := H.1.2.1
    have htc := H.1.1
    have B1 : Fld Z hh a "com/example/rhumb/rhumb/InstanceTags" "instanceStart" "[I" (.ref ca) := F0.keep Kp (ninS ne_ac nin0)
    have B2 : Fld Z hh a "com/example/rhumb/rhumb/InstanceTags" "tagCount" "I" (.int (Int32.ofNat tc)) := F1.keep Kp (ninS ne_ac nin0)
    have G3 := G0.iloadN (v := (Int32.ofNat i)) (pc' := 42) d7_41 rfl
    have G4 := G3.aloadN (v := (.ref a)) (pc' := 43) d7_42 rfl
    have G5 := G4.getF (pc' := 46) (v := (.int (Int32.ofNat tc))) (host := "") (Or.inl (hw _ (List.mem_of_getElem? (i := 24) rfl))) Via.refl B2 d7_43
    have G7 := G5.icmpN d7_46 49 (Jvm.Free.XT.ii_ge_f ((own_lt _ _ (by omega) (by omega)).mpr (by omega)))
    have hg1 := own_gBl I M i (i + 1)
    have hg2 := own_gBl I M i i
    have G8 := G7.aloadN (v := (.ref a)) (pc' := 50) d7_49 rfl
    have G9 := G8.getF (pc' := 53) (v := (.ref ca)) (host := "") (Or.inl (hw _ (List.mem_of_getElem? (i := 30) rfl))) Via.refl B1 d7_50
    have G10 := G9.iloadN (v := (Int32.ofNat i)) (pc' := 54) d7_53 rfl
    have G11 := G10.iconst (v := (1 : Int32)) (pc' := 55) d7_54
    have G12 := G11.iadd (pc' := 56) d7_55
    rw [own_a1] at G12
    have G13 := G12.dup2 (pc' := 57) d7_56
    have G14 := G13.ldI (i := (i + 1)) (v := (.int (Int32.ofNat (own_gB I M i (i + 1))))) (pc' := 58) VC (own_i _ (by omega)) (AC.2 _ (by omega)) d7_57
    have G15 := G14.aloadN (v := (.ref a)) (pc' := 59) d7_58 rfl
    have G16 := G15.getF (pc' := 62) (v := (.ref ca)) (host := "") (Or.inl (hw _ (List.mem_of_getElem? (i := 30) rfl))) Via.refl B1 d7_59
    have G17 := G16.iloadN (v := (Int32.ofNat i)) (pc' := 63) d7_62 rfl
    have G18 := G17.ldI (i := i) (v := (.int (Int32.ofNat (own_gB I M i i)))) (pc' := 64) VC (own_i _ (by omega)) (AC.2 _ (by omega)) d7_63
    have G19 := G18.iadd (pc' := 65) d7_64
    rw [own_ad] at G19
    obtain ⟨h20, W20, V20, G20⟩ := G19.stI (i := (i + 1)) (pc' := 66) VC g_c (own_i _ (by omega)) (by rw [AC.1]; omega) d7_65
    have K21 : Keep h0 h20 [ca] := Kp.wr W20 (Or.inl (List.mem_of_getElem? (i := 0) rfl))
    have F22 : Fld Z h20 a "com/example/rhumb/rhumb/InstanceTags" "instanceStart" "[I" (.ref ca) := B1.other W20 (Or.inl ne_ac)
    have F23 : Fld Z h20 a "com/example/rhumb/rhumb/InstanceTags" "tagCount" "I" (.int (Int32.ofNat tc)) := B2.other W20 (Or.inl ne_ac)
    have G24 := G20.iinc (v := (1 : Int32)) (x := (Int32.ofNat i)) (L' := #[.val (.ref a), .val (.int ((Int32.ofNat i) + (1 : Int32))), o2, o3, o4]) (pc' := 69) d7_66 rfl rfl
    have G25 := G24.goto d7_69 41
    rw [own_a1] at G25
    exact ih (i + 1) _ _ (by omega) K21 V20 (own_Ac (own_As AC (by omega)) (fun t _ => own_gBs I M i t)) G25
theorem d9_0 : decode jdk_29_method_69_code 0 = .ok (.iload_n 0, 1) := by decide +kernel
theorem d9_1 : decode jdk_29_method_69_code 1 = .ok (.iload_n 1, 1) := by decide +kernel
theorem d9_2 : decode jdk_29_method_69_code 2 = .ok (.if_icmp .gt 7, 3) := by decide +kernel
theorem d9_5 : decode jdk_29_method_69_code 5 = .ok (.iload_n 0, 1) := by decide +kernel
theorem d9_6 : decode jdk_29_method_69_code 6 = .ok (.goto 4, 3) := by decide +kernel
theorem d9_9 : decode jdk_29_method_69_code 9 = .ok (.iload_n 1, 1) := by decide +kernel
theorem d9_10 : decode jdk_29_method_69_code 10 = .ok (.ireturn, 1) := by decide +kernel
theorem ef9 (m : MethodId) (x0 : Int32) (x1 : Int32) : entryFrame m #[(.int x0), (.int x1)] 2 = mkF m 0 #[.val (.int x0), .val (.int x1)] [] := by first | (simp [entryFrame, mkF, argsToLocals, Value.category]; done) | rfl
def fMin (x0 : Int32) (x1 : Int32) : Int32 := (if x1 < x0 then x1 else x0)
def rm9 : Room := { frames := 0, cells := 0, slots := 0, locals := 0 }
set_option maxRecDepth 65536 in
set_option maxHeartbeats 40000000 in
theorem cn9 (l : Launch) (Z : State) (a0 : Array Value) (hw : ∀ d ∈ tables_1, d.before a0 Z = true) (x0 : Int32) (x1 : Int32) (h0 : Heap) (n0 : Nat) (hn : n0 ≤ h0.size) :
    Con l (⟨"java/lang/Math", "min", "(II)I"⟩ : MethodName) jdk_29_method_69_code 2 (some .int) [] rm9 rm9.cells rm9.slots Z #[(.int x0), (.int x1)] h0 n0 (fun v h => v = some (.int (fMin x0 x1)) ∧ h = h0) := by
  refine Con.of (Jvm.Free.JP.mathPlain rfl (by decide +kernel)) hn (fun m => ef9 m x0 x1) ?_
  intro p e s m below meth c s₀ hnm G0
  have G1 := G0.iloadN (v := x0) (pc' := 1) d9_0 rfl
  have G2 := G1.iloadN (v := x1) (pc' := 2) d9_1 rfl
  by_cases c2_2 : x1 < x0
  · have G3 := G2.icmpY d9_2 9 (Jvm.Free.XT.ii_gt_t c2_2)
    have G4 := G3.iloadN (v := x1) (pc' := 10) d9_9 rfl
    exact G4.retI d9_10 rfl ⟨congrArg (fun z => some (Value.int z)) (by rw [fMin, if_pos c2_2]), rfl⟩
  · have G5 := G2.icmpN d9_2 5 (Jvm.Free.XT.ii_gt_f c2_2)
    have G6 := G5.iloadN (v := x0) (pc' := 6) d9_5 rfl
    have G7 := G6.goto d9_6 10
    exact G7.retI d9_10 rfl ⟨congrArg (fun z => some (Value.int z)) (by rw [fMin, if_neg c2_2]), rfl⟩
theorem own_min (t : Nat) (h : t ≤ 4) : fMin (Int32.ofNat (t + 1)) (Int32.ofNat t) = Int32.ofNat t := by
  unfold fMin
  rw [if_pos ((own_lt _ _ (by omega) (by omega)).mpr (by omega))]
theorem d8_0 : decode jdk_65_method_123_code 0 = .ok (.iload_n 1, 1) := by decide +kernel
theorem d8_1 : decode jdk_65_method_123_code 1 = .ok (.aload_n 0, 1) := by decide +kernel
theorem d8_2 : decode jdk_65_method_123_code 2 = .ok (.arraylength, 1) := by decide +kernel
theorem d8_3 : decode jdk_65_method_123_code 3 = .ok (.if_icmp .ne 11, 3) := by decide +kernel
theorem d8_6 : decode jdk_65_method_123_code 6 = .ok (.aload_n 0, 1) := by decide +kernel
theorem d8_7 : decode jdk_65_method_123_code 7 = .ok (.invokevirtual 316, 3) := by decide +kernel
theorem d8_10 : decode jdk_65_method_123_code 10 = .ok (.checkcast 317, 3) := by decide +kernel
theorem d8_13 : decode jdk_65_method_123_code 13 = .ok (.areturn, 1) := by decide +kernel
theorem d8_14 : decode jdk_65_method_123_code 14 = .ok (.iload_n 1, 1) := by decide +kernel
theorem d8_15 : decode jdk_65_method_123_code 15 = .ok (.newarray .int, 2) := by decide +kernel
theorem d8_17 : decode jdk_65_method_123_code 17 = .ok (.astore_n 2, 1) := by decide +kernel
theorem d8_18 : decode jdk_65_method_123_code 18 = .ok (.aload_n 0, 1) := by decide +kernel
theorem d8_19 : decode jdk_65_method_123_code 19 = .ok (.iconst 0, 1) := by decide +kernel
theorem d8_20 : decode jdk_65_method_123_code 20 = .ok (.aload_n 2, 1) := by decide +kernel
theorem d8_21 : decode jdk_65_method_123_code 21 = .ok (.iconst 0, 1) := by decide +kernel
theorem d8_22 : decode jdk_65_method_123_code 22 = .ok (.aload_n 0, 1) := by decide +kernel
theorem d8_23 : decode jdk_65_method_123_code 23 = .ok (.arraylength, 1) := by decide +kernel
theorem d8_24 : decode jdk_65_method_123_code 24 = .ok (.iload_n 1, 1) := by decide +kernel
theorem d8_25 : decode jdk_65_method_123_code 25 = .ok (.invokestatic 304, 3) := by decide +kernel
theorem d8_28 : decode jdk_65_method_123_code 28 = .ok (.invokestatic 150, 3) := by decide +kernel
theorem d8_31 : decode jdk_65_method_123_code 31 = .ok (.aload_n 2, 1) := by decide +kernel
theorem d8_32 : decode jdk_65_method_123_code 32 = .ok (.areturn, 1) := by decide +kernel
theorem pd0 : parseMethodDescriptor "(II)I" = some ⟨[.int, .int], some .int⟩ := by decide +kernel
theorem own_cpA (tc : Nat) (vs : List Value) (f : Nat → Nat) (A : own_A vs (tc + 1) f) : own_A (List.take 0 (List.replicate tc (Value.int (0 : Int32))) ++ List.take tc (List.drop 0 vs) ++ List.drop (0 + tc) (List.replicate tc (Value.int (0 : Int32)))) tc f := by
  have e : (List.take 0 (List.replicate tc (Value.int (0 : Int32))) ++ List.take tc (List.drop 0 vs) ++ List.drop (0 + tc) (List.replicate tc (Value.int (0 : Int32)))) = List.take tc vs := by simp
  rw [e]
  refine ⟨by rw [List.length_take, A.1]; omega, fun i hi => ?_⟩
  rw [List.getElem?_take_of_lt hi]
  exact A.2 i (by omega)
theorem pn1 : plainName "java/util/Arrays" = true := by first | (simp [plainName, overriddenIn]; done) | decide +kernel
theorem ef8 (m : MethodId) (tc : Nat) (ca : Addr) : entryFrame m #[(.ref ca), (.int (Int32.ofNat tc))] 3 = mkF m 0 #[.val (.ref ca), .val (.int (Int32.ofNat tc)), .unset] [] := by first | (simp [entryFrame, mkF, argsToLocals, Value.category]; done) | rfl
def rm8 : Room := { frames := 1, cells := 1, slots := 4, locals := 18 }
set_option maxRecDepth 65536 in
set_option maxHeartbeats 40000000 in
theorem cn8 (l : Launch) (Z : State) (a0 : Array Value) (hw : ∀ d ∈ tables_1, d.before a0 Z = true) (tc : Nat) (ca : Addr) (h0 : Heap) (n0 : Nat) (hn : n0 ≤ h0.size) (vs : List Value) (VC : Av Z h0 ca .int vs) (f : Nat → Nat) (AC : own_A vs (tc + 1) f) (htc : tc ≤ 4) :
    Con l (⟨"java/util/Arrays", "copyOf", "([II)[I"⟩ : MethodName) jdk_65_method_123_code 3 (some (.array .int)) [] rm8 rm8.cells rm8.slots Z #[(.ref ca), (.int (Int32.ofNat tc))] h0 n0 (fun v h => ∃ (x : Addr) (vs' : List Value), v = some (.ref x) ∧ Keep h0 h [] ∧ h0.size ≤ x ∧ Av Z h x .int vs' ∧ own_A vs' tc f) := by
  refine Con.of (plainFor_of_name pn1) hn (fun m => ef8 m tc ca) ?_
  intro p e s m below meth c s₀ hnm G0
  have K0 : Keep h0 h0 [] := Keep.refl _ _
  have G1 := G0.iloadN (v := (Int32.ofNat tc)) (pc' := 1) d8_0 rfl
  have G2 := G1.aloadN (v := (.ref ca)) (pc' := 2) d8_1 rfl
  have G3 := G2.arrlen (pc' := 3) (v := (Int32.ofNat (tc + 1))) VC (by rw [AC.1]; exact own_i _ (by omega)) d8_2
  have G4 := G3.icmpY d8_3 14 (Jvm.Free.XT.ii_ne_t (fun q => by have := (own_eq _ _ (by omega) (by omega)).mp q; omega))
  have G5 := G4.iloadN (v := (Int32.ofNat tc)) (pc' := 15) d8_14 rfl
  obtain ⟨a6, h6, ea6, g_a6, X6, V6, G6⟩ := G5.newA (ty := .int) (dv := (.int (0 : Int32))) (N := tc) (cap := 4) (pc' := 17) (k' := 1) (j' := 4) (hw _ (List.mem_of_getElem? (i := 8) rfl)) d8_15 rfl rfl (own_i _ (by omega)) htc (by decide) rfl rfl rfl (by decide) (by decide)
  have ne7 : ca ≠ a6 := by rw [ea6]; exact Nat.ne_of_lt VC.lt
  have sz6 : h0.size ≤ a6 := by rw [ea6]; exact K0.1
  have V8 : Av Z h6 ca .int vs := VC.ext X6
  have K9 : Keep h0 h6 [] := K0.ext X6
  have G10 := G6.astoreN (L' := #[.val (.ref ca), .val (.int (Int32.ofNat tc)), .val (.ref a6)]) (pc' := 18) d8_17 rfl
  have G11 := G10.aloadN (v := (.ref ca)) (pc' := 19) d8_18 rfl
  have G12 := G11.iconst (v := (0 : Int32)) (pc' := 20) d8_19
  have G13 := G12.aloadN (v := (.ref a6)) (pc' := 21) d8_20 rfl
  have G14 := G13.iconst (v := (0 : Int32)) (pc' := 22) d8_21
  have G15 := G14.aloadN (v := (.ref ca)) (pc' := 23) d8_22 rfl
  have G16 := G15.arrlen (pc' := 24) (v := (Int32.ofNat (tc + 1))) V8 (by rw [AC.1]; exact own_i _ (by omega)) d8_23
  have G17 := G16.iloadN (v := (Int32.ofNat tc)) (pc' := 25) d8_24 rfl
  obtain ⟨v18, h18, ⟨ev18, eh18⟩, g18⟩ := G17.callS (argsL := [(.int (Int32.ofNat (tc + 1))), (.int (Int32.ofNat tc))]) (rest := [(.int (0 : Int32)), (.ref a6), (.int (0 : Int32)), (.ref ca)]) (pc' := 28) (k' := 1) (j' := 4) (cn9 l Z a0 hw (Int32.ofNat (tc + 1)) (Int32.ofNat tc) h6 n0 G17.size) rfl (hw _ (List.mem_of_getElem? (i := 42) rfl)) (hw _ (List.mem_of_getElem? (i := 43) rfl)) (hw _ (List.mem_of_getElem? (i := 44) rfl)) (hw _ (List.mem_of_getElem? (i := 45) rfl)) (by decide) d8_25 pd0 rfl (W := 4) rfl rfl (by decide) (by decide) (by decide) (by decide) rfl rfl rfl
  subst ev18
  rw [eh18] at g18
  have G18 := g18 [(.int (fMin (Int32.ofNat (tc + 1)) (Int32.ofNat tc))), (.int (0 : Int32)), (.ref a6), (.int (0 : Int32)), (.ref ca)] rfl
  rw [own_min tc htc] at G18
  obtain ⟨h19, K19, V19, G19⟩ := G18.cp (s' := 0) (d' := 0) (n' := tc) (pc' := 31) V8 V6 rfl g_a6 (hw _ (List.mem_of_getElem? (i := 46) rfl)) (hw _ (List.mem_of_getElem? (i := 49) rfl)) (hw _ (List.mem_of_getElem? (i := 47) rfl)) (hw _ (List.mem_of_getElem? (i := 48) rfl)) (by decide) (by decide) (own_i _ (by omega)) (by rw [AC.1]; omega) (by rw [List.length_replicate]; omega) d8_28 (W := 0) rfl rfl (by decide) (by decide)
  have V20 : Av Z h19 ca .int vs := V8.keep K19 (ninS ne7 nin0)
  have K21 : Keep h0 h19 [] := K9.trans K19 (allS (Or.inr sz6) all0)
  have G22 := G19.aloadN (v := (.ref a6)) (pc' := 32) d8_31 rfl
  exact G22.retA d8_32 rfl rfl rfl ⟨a6, _, rfl, K21, sz6, V19, own_cpA tc vs f AC⟩
theorem d10_0 : decode prog_15_method_4_code 0 = .ok (.aload_n 0, 1) := by decide +kernel
theorem d10_1 : decode prog_15_method_4_code 1 = .ok (.getfield 17, 3) := by decide +kernel
theorem d10_4 : decode prog_15_method_4_code 4 = .ok (.arraylength, 1) := by decide +kernel
theorem d10_5 : decode prog_15_method_4_code 5 = .ok (.iconst 1, 1) := by decide +kernel
theorem d10_6 : decode prog_15_method_4_code 6 = .ok (.isub, 1) := by decide +kernel
theorem d10_7 : decode prog_15_method_4_code 7 = .ok (.ireturn, 1) := by decide +kernel
theorem ef10 (m : MethodId) (a : Addr) : entryFrame m #[(.ref a)] 1 = mkF m 0 #[.val (.ref a)] [] := by first | (simp [entryFrame, mkF, argsToLocals, Value.category]; done) | rfl
def rm10 : Room := { frames := 0, cells := 0, slots := 0, locals := 0 }
set_option maxRecDepth 65536 in
set_option maxHeartbeats 40000000 in
theorem cn10 (l : Launch) (Z : State) (a0 : Array Value) (hw : ∀ d ∈ tables_1, d.before a0 Z = true) (a : Addr) (h0 : Heap) (n0 : Nat) (hn : n0 ≤ h0.size) (sa : Addr) (vS : List Value) (N : Nat) (S : Nat → Nat) (hN : N ≤ 6) (F0 : Fld Z h0 a "com/example/rhumb/rhumb/InstanceTags" "tagStart" "[I" (.ref sa)) (VS : Av Z h0 sa .int vS) (AS : own_A vS (N + 1) S) :
    Con l (⟨"com/example/rhumb/rhumb/InstanceTags", "instanceCount", "()I"⟩ : MethodName) prog_15_method_4_code 1 (some .int) [] rm10 rm10.cells rm10.slots Z #[(.ref a)] h0 n0 (fun v h => v = some (.int (Int32.ofNat N)) ∧ h = h0) := by
  refine Con.of (plainFor_of_name pn0) hn (fun m => ef10 m a) ?_
  intro p e s m below meth c s₀ hnm G0
  have G1 := G0.aloadN (v := (.ref a)) (pc' := 1) d10_0 rfl
  have G2 := G1.getF (pc' := 4) (v := (.ref sa)) (host := "") (Or.inl (hw _ (List.mem_of_getElem? (i := 26) rfl))) Via.refl F0 d10_1
  have G3 := G2.arrlen (pc' := 5) (v := (Int32.ofNat (N + 1))) VS (by rw [AS.1]; exact own_i _ (by omega)) d10_4
  have G4 := G3.iconst (v := (1 : Int32)) (pc' := 6) d10_5
  have G5 := G4.isub (pc' := 7) d10_6
  rw [own_s1 (N + 1) (by omega) (by omega)] at G5
  exact G5.retI d10_7 rfl ⟨rfl, rfl⟩
set_option maxRecDepth 65536 in
set_option maxHeartbeats 40000000 in
theorem own_ivC (p : Program) (l : Launch) (e : Env) (R : Room) (s : State) (m : MethodId) (args : Array Value) (below : List Frame) (meth : Method) (c : Code) (Z : State) (a0 : Array Value) (hw : ∀ d ∈ tables_1, d.before a0 Z = true) (n0 : Nat) (s₀ : State) (h0 : Heap) (k j : Nat) (tc N M : Nat) (S I : Nat → Nat) (H : own_H tc N M S I) (a xa sa da ea : Addr) (vS vI : List Value) (Fs : Fld Z h0 a "com/example/rhumb/rhumb/InstanceTags" "tagStart" "[I" (.ref sa)) (Fd : Fld Z h0 a "com/example/rhumb/rhumb/InstanceTags" "tagIds" "[I" (.ref da)) (Fe : Fld Z h0 a "com/example/rhumb/rhumb/InstanceTags" "instanceIds" "[I" (.ref ea)) (VS : Av Z h0 sa .int vS) (AS : own_A vS (N + 1) S) (VI : Av Z h0 da .int vI) (AI : own_A vI M I) (g_x : n0 ≤ xa) (g_e : n0 ≤ ea) (ne_ax : a ≠ xa) (ne_ae : a ≠ ea) (ne_sx : sa ≠ xa) (ne_se : sa ≠ ea) (ne_dx : da ≠ xa) (ne_de : da ≠ ea) (ne_xe : xa ≠ ea) (i : Nat) (hi : i < N) (o : Slot) : ∀ (q u : Nat) (hh : Heap) (vx ve : List Value), u + q = S (i + 1) → S i ≤ u → Keep h0 hh [xa, ea] → Av Z hh xa .int vx → own_A vx tc (own_gC I M u) → Av Z hh ea .int ve → ve.length = M → Go p l e R s m args below meth c Z "com/example/rhumb/rhumb/InstanceTags" prog_15_method_3_code 5 none n0 s₀ hh k j 101 #[.val (.ref a), .val (.ref xa), .val (.int (Int32.ofNat i)), .val (.int (Int32.ofNat u)), o] [] → ∃ hh' vx' ve', Keep h0 hh' [xa, ea] ∧ Av Z hh' xa .int vx' ∧ own_A vx' tc (own_gC I M (S (i + 1))) ∧ Av Z hh' ea .int ve' ∧ ve'.length = M ∧ Go p l e R s m args below meth c Z "com/example/rhumb/rhumb/InstanceTags" prog_15_method_3_code 5 none n0 s₀ hh' k j 138 #[.val (.ref a), .val (.ref xa), .val (.int (Int32.ofNat i)), .val (.int (Int32.ofNat (S (i + 1)))), o] [] := by
  intro q
  induction q with
  | zero =>
    intro u hh vx ve hq hu Kp VX AX VE hve G0
    have hM := H.1.2.2.1
    have hN := H.1.2.1
    have htc := H.1.1
    have hS0 := own_Hl H (show i ≤ N by omega)
    have hS1 := own_Hl H (show i + 1 ≤ N by omega)
    have B1 : Fld Z hh a "com/example/rhumb/rhumb/InstanceTags" "tagStart" "[I" (.ref sa) := Fs.keep Kp (ninS ne_ax (ninS ne_ae nin0))
    have B2 : Fld Z hh a "com/example/rhumb/rhumb/InstanceTags" "tagIds" "[I" (.ref da) := Fd.keep Kp (ninS ne_ax (ninS ne_ae nin0))
    have B3 : Fld Z hh a "com/example/rhumb/rhumb/InstanceTags" "instanceIds" "[I" (.ref ea) := Fe.keep Kp (ninS ne_ax (ninS ne_ae nin0))
    have B4 : Av Z hh sa .int vS := VS.keep Kp (ninS ne_sx (ninS ne_se nin0))
    have B5 : Av Z hh da .int vI := VI.keep Kp (ninS ne_dx (ninS ne_de nin0))
    have G6 := G0.iloadN (v := (Int32.ofNat u)) (pc' := 102) d7_101 rfl
    have G7 := G6.aloadN (v := (.ref a)) (pc' := 103) d7_102 rfl
    have G8 := G7.getF (pc' := 106) (v := (.ref sa)) (host := "") (Or.inl (hw _ (List.mem_of_getElem? (i := 26) rfl))) Via.refl B1 d7_103
    have G9 := G8.iloadN (v := (Int32.ofNat i)) (pc' := 107) d7_106 rfl
    have G10 := G9.iconst (v := (1 : Int32)) (pc' := 108) d7_107
    have G11 := G10.iadd (pc' := 109) d7_108
    rw [own_a1] at G11
    have G12 := G11.ldI (i := (i + 1)) (v := (.int (Int32.ofNat (S (i + 1))))) (pc' := 110) B4 (own_i _ (by omega)) (AS.2 _ (by omega)) d7_109
    have G13 := G12.icmpY d7_110 138 (Jvm.Free.XT.ii_ge_t (fun q => by have := (own_lt _ _ (by omega) (by omega)).mp q; omega))
    obtain rfl : u = S (i + 1) := by omega
    exact ⟨_, _, _, Kp, VX, AX, VE, hve, G13⟩
  | succ q ih =>
    intro u hh vx ve hq hu Kp VX AX VE hve G0
    have hM := H.1.2.2.1
    have hN := H.1.2.1
    have htc := H.1.1
    have hS0 := own_Hl H (show i ≤ N by omega)
    have hS1 := own_Hl H (show i + 1 ≤ N by omega)
    have B1 : Fld Z hh a "com/example/rhumb/rhumb/InstanceTags" "tagStart" "[I" (.ref sa) := Fs.keep Kp (ninS ne_ax (ninS ne_ae nin0))
    have B2 : Fld Z hh a "com/example/rhumb/rhumb/InstanceTags" "tagIds" "[I" (.ref da) := Fd.keep Kp (ninS ne_ax (ninS ne_ae nin0))
    have B3 : Fld Z hh a "com/example/rhumb/rhumb/InstanceTags" "instanceIds" "[I" (.ref ea) := Fe.keep Kp (ninS ne_ax (ninS ne_ae nin0))
    have B4 : Av Z hh sa .int vS := VS.keep Kp (ninS ne_sx (ninS ne_se nin0))
    have B5 : Av Z hh da .int vI := VI.keep Kp (ninS ne_dx (ninS ne_de nin0))
    have G6 := G0.iloadN (v := (Int32.ofNat u)) (pc' := 102) d7_101 rfl
    have G7 := G6.aloadN (v := (.ref a)) (pc' := 103) d7_102 rfl
    have G8 := G7.getF (pc' := 106) (v := (.ref sa)) (host := "") (Or.inl (hw _ (List.mem_of_getElem? (i := 26) rfl))) Via.refl B1 d7_103
    have G9 := G8.iloadN (v := (Int32.ofNat i)) (pc' := 107) d7_106 rfl
    have G10 := G9.iconst (v := (1 : Int32)) (pc' := 108) d7_107
    have G11 := G10.iadd (pc' := 109) d7_108
    rw [own_a1] at G11
    have G12 := G11.ldI (i := (i + 1)) (v := (.int (Int32.ofNat (S (i + 1))))) (pc' := 110) B4 (own_i _ (by omega)) (AS.2 _ (by omega)) d7_109
    have G14 := G12.icmpN d7_110 113 (Jvm.Free.XT.ii_ge_f ((own_lt _ _ (by omega) (by omega)).mpr (by omega)))
    have huM : u < M := by omega
    have hI0 := own_Hi H huM
    have hnx : own_gC I M u (I u) < M := own_nxb I u M huM
    have G15 := G14.aloadN (v := (.ref a)) (pc' := 114) d7_113 rfl
    have G16 := G15.getF (pc' := 117) (v := (.ref ea)) (host := "") (Or.inl (hw _ (List.mem_of_getElem? (i := 32) rfl))) Via.refl B3 d7_114
    have G17 := G16.aloadN (v := (.ref xa)) (pc' := 118) d7_117 rfl
    have G18 := G17.aloadN (v := (.ref a)) (pc' := 119) d7_118 rfl
    have G19 := G18.getF (pc' := 122) (v := (.ref da)) (host := "") (Or.inl (hw _ (List.mem_of_getElem? (i := 28) rfl))) Via.refl B2 d7_119
    have G20 := G19.iloadN (v := (Int32.ofNat u)) (pc' := 123) d7_122 rfl
    have G21 := G20.ldI (i := u) (v := (.int (Int32.ofNat (I u)))) (pc' := 124) B5 (own_i _ (by omega)) (AI.2 _ (by omega)) d7_123
    have G22 := G21.dup2 (pc' := 125) d7_124
    have G23 := G22.ldI (i := (I u)) (v := (.int (Int32.ofNat (own_gC I M u (I u))))) (pc' := 126) VX (own_i _ (by omega)) (AX.2 _ (by omega)) d7_125
    have G24 := G23.dupX2 (pc' := 127) d7_126
    have G25 := G24.iconst (v := (1 : Int32)) (pc' := 128) d7_127
    have G26 := G25.iadd (pc' := 129) d7_128
    rw [own_a1] at G26
    obtain ⟨h27, W27, V27, G27⟩ := G26.stI (i := (I u)) (pc' := 130) VX g_x (own_i _ (by omega)) (by rw [AX.1]; omega) d7_129
    have V28 : Av Z h27 ea .int ve := VE.other W27 (Ne.symm ne_xe)
    have K29 : Keep h0 h27 [xa, ea] := Kp.wr W27 (Or.inl (List.mem_of_getElem? (i := 0) rfl))
    have F30 : Fld Z h27 a "com/example/rhumb/rhumb/InstanceTags" "tagStart" "[I" (.ref sa) := B1.other W27 (Or.inl ne_ax)
    have F31 : Fld Z h27 a "com/example/rhumb/rhumb/InstanceTags" "tagIds" "[I" (.ref da) := B2.other W27 (Or.inl ne_ax)
    have F32 : Fld Z h27 a "com/example/rhumb/rhumb/InstanceTags" "instanceIds" "[I" (.ref ea) := B3.other W27 (Or.inl ne_ax)
    have V33 : Av Z h27 sa .int vS := B4.other W27 ne_sx
    have V34 : Av Z h27 da .int vI := B5.other W27 ne_dx
    have G35 := G27.iloadN (v := (Int32.ofNat i)) (pc' := 131) d7_130 rfl
    obtain ⟨h36, W36, V36, G36⟩ := G35.stI (i := (own_gC I M u (I u))) (pc' := 132) V28 g_e (own_i _ (by omega)) (by rw [hve]; omega) d7_131
    have V37 : Av Z h36 xa .int (List.set vx ((I u)) (.int (Int32.ofNat (own_gC I M u (I u) + 1)))) := V27.other W36 ne_xe
    have K38 : Keep h0 h36 [xa, ea] := K29.wr W36 (Or.inl (List.mem_of_getElem? (i := 1) rfl))
    have F39 : Fld Z h36 a "com/example/rhumb/rhumb/InstanceTags" "tagStart" "[I" (.ref sa) := F30.other W36 (Or.inl ne_ae)
    have F40 : Fld Z h36 a "com/example/rhumb/rhumb/InstanceTags" "tagIds" "[I" (.ref da) := F31.other W36 (Or.inl ne_ae)
    have F41 : Fld Z h36 a "com/example/rhumb/rhumb/InstanceTags" "instanceIds" "[I" (.ref ea) := F32.other W36 (Or.inl ne_ae)
    have V42 : Av Z h36 sa .int vS := V33.other W36 ne_se
    have V43 : Av Z h36 da .int vI := V34.other W36 ne_de
    have G44 := G36.iinc (v := (1 : Int32)) (x := (Int32.ofNat u)) (L' := #[.val (.ref a), .val (.ref xa), .val (.int (Int32.ofNat i)), .val (.int ((Int32.ofNat u) + (1 : Int32))), o]) (pc' := 135) d7_132 rfl rfl
    have G45 := G44.goto d7_135 101
    rw [own_a1] at G45
    exact ih (u + 1) _ _ _ (by omega) (by omega) K38 V37 (own_Ac (own_As AX (by omega)) (fun t _ => own_gCs I M u t)) V36 (by rw [List.length_set]; exact hve) G45
theorem pd1 : parseMethodDescriptor "()I" = some ⟨[], some .int⟩ := by decide +kernel
set_option maxRecDepth 65536 in
set_option maxHeartbeats 40000000 in
theorem own_ivD (p : Program) (l : Launch) (e : Env) (R : Room) (s : State) (m : MethodId) (args : Array Value) (below : List Frame) (meth : Method) (c : Code) (Z : State) (a0 : Array Value) (hw : ∀ d ∈ tables_1, d.before a0 Z = true) (n0 : Nat) (s₀ : State) (h0 : Heap) (k j : Nat) (tc N M : Nat) (S I : Nat → Nat) (H : own_H tc N M S I) (a xa sa da ea : Addr) (vS vI : List Value) (Fs : Fld Z h0 a "com/example/rhumb/rhumb/InstanceTags" "tagStart" "[I" (.ref sa)) (Fd : Fld Z h0 a "com/example/rhumb/rhumb/InstanceTags" "tagIds" "[I" (.ref da)) (Fe : Fld Z h0 a "com/example/rhumb/rhumb/InstanceTags" "instanceIds" "[I" (.ref ea)) (VS : Av Z h0 sa .int vS) (AS : own_A vS (N + 1) S) (VI : Av Z h0 da .int vI) (AI : own_A vI M I) (g_x : n0 ≤ xa) (g_e : n0 ≤ ea) (ne_ax : a ≠ xa) (ne_ae : a ≠ ea) (ne_sx : sa ≠ xa) (ne_se : sa ≠ ea) (ne_dx : da ≠ xa) (ne_de : da ≠ ea) (ne_xe : xa ≠ ea) (E0 : Exa Z h0 a "com/example/rhumb/rhumb/InstanceTags") (o : Slot) (hRf : 1 ≤ R.frames) (hRl : 13 ≤ R.locals) (hkR : k ≤ R.cells) (hjR : j ≤ R.slots) : ∀ (q i : Nat) (hh : Heap) (vx ve : List Value) (o3 : Slot), i + q = N → Keep h0 hh [xa, ea] → Av Z hh xa .int vx → own_A vx tc (own_gC I M (S i)) → Av Z hh ea .int ve → ve.length = M → One o3 → Go p l e R s m args below meth c Z "com/example/rhumb/rhumb/InstanceTags" prog_15_method_3_code 5 none n0 s₀ hh k j 86 #[.val (.ref a), .val (.ref xa), .val (.int (Int32.ofNat i)), o3, o] [] → ∃ hh' o4 o5, Keep h0 hh' [xa, ea] ∧ Go p l e R s m args below meth c Z "com/example/rhumb/rhumb/InstanceTags" prog_15_method_3_code 5 none n0 s₀ hh' k j 144 #[.val (.ref a), .val (.ref xa), o4, o5, o] [] := by
  intro q
  induction q with
  | zero =>
    intro i hh vx ve o3 hq Kp VX AX VE hve ho3 G0
    have hM := H.1.2.2.1
    have hN := H.1.2.1
    have htc := H.1.1
    have B1 : Fld Z hh a "com/example/rhumb/rhumb/InstanceTags" "tagStart" "[I" (.ref sa) := Fs.keep Kp (ninS ne_ax (ninS ne_ae nin0))
    have B2 : Fld Z hh a "com/example/rhumb/rhumb/InstanceTags" "tagIds" "[I" (.ref da) := Fd.keep Kp (ninS ne_ax (ninS ne_ae nin0))
    have B3 : Fld Z hh a "com/example/rhumb/rhumb/InstanceTags" "instanceIds" "[I" (.ref ea) := Fe.keep Kp (ninS ne_ax (ninS ne_ae nin0))
    have B4 : Av Z hh sa .int vS := VS.keep Kp (ninS ne_sx (ninS ne_se nin0))
    have B5 : Av Z hh da .int vI := VI.keep Kp (ninS ne_dx (ninS ne_de nin0))
    have B6 : Exa Z hh a "com/example/rhumb/rhumb/InstanceTags" := E0.keep Kp
    have G7 := G0.iloadN (v := (Int32.ofNat i)) (pc' := 87) d7_86 rfl
    have G8 := G7.aloadN (v := (.ref a)) (pc' := 88) d7_87 rfl
    obtain ⟨v9, h9, ⟨ev9, eh9⟩, g9⟩ := G8.callV (argsL := []) (rest := [(.int (Int32.ofNat i))]) (pc' := 91) (k' := k) (j' := j) (cn10 l Z a0 hw a hh n0 G8.size sa vS N S hN B1 B4 AS) rfl B6 (hw _ (List.mem_of_getElem? (i := 50) rfl)) (hw _ (List.mem_of_getElem? (i := 51) rfl)) (hw _ (List.mem_of_getElem? (i := 53) rfl)) (hw _ (List.mem_of_getElem? (i := 52) rfl)) (hw _ (List.mem_of_getElem? (i := 14) rfl)) (hw _ (List.mem_of_getElem? (i := 54) rfl)) (by decide) d7_88 pd1 rfl (W := 1) rfl rfl hRf hRl hkR hjR rfl rfl rfl
    subst ev9
    rw [eh9] at g9
    have G9 := g9 [(.int (Int32.ofNat N)), (.int (Int32.ofNat i))] rfl
    have G10 := G9.icmpY d7_91 144 (Jvm.Free.XT.ii_ge_t (fun q => by have := (own_lt _ _ (by omega) (by omega)).mp q; omega))
    obtain rfl : i = N := by omega
    exact ⟨_, _, _, Kp, G10⟩
  | succ q ih =>
    intro i hh vx ve o3 hq Kp VX AX VE hve ho3 G0
    have hM := H.1.2.2.1
    have hN := H.1.2.1
    have htc := H.1.1
    have B1 : Fld Z hh a "com/example/rhumb/rhumb/InstanceTags" "tagStart" "[I" (.ref sa) := Fs.keep Kp (ninS ne_ax (ninS ne_ae nin0))
    have B2 : Fld Z hh a "com/example/rhumb/rhumb/InstanceTags" "tagIds" "[I" (.ref da) := Fd.keep Kp (ninS ne_ax (ninS ne_ae nin0))
    have B3 : Fld Z hh a "com/example/rhumb/rhumb/InstanceTags" "instanceIds" "[I" (.ref ea) := Fe.keep Kp (ninS ne_ax (ninS ne_ae nin0))
    have B4 : Av Z hh sa .int vS := VS.keep Kp (ninS ne_sx (ninS ne_se nin0))
    have B5 : Av Z hh da .int vI := VI.keep Kp (ninS ne_dx (ninS ne_de nin0))
    have B6 : Exa Z hh a "com/example/rhumb/rhumb/InstanceTags" := E0.keep Kp
    have G7 := G0.iloadN (v := (Int32.ofNat i)) (pc' := 87) d7_86 rfl
    have G8 := G7.aloadN (v := (.ref a)) (pc' := 88) d7_87 rfl
    obtain ⟨v9, h9, ⟨ev9, eh9⟩, g9⟩ := G8.callV (argsL := []) (rest := [(.int (Int32.ofNat i))]) (pc' := 91) (k' := k) (j' := j) (cn10 l Z a0 hw a hh n0 G8.size sa vS N S hN B1 B4 AS) rfl B6 (hw _ (List.mem_of_getElem? (i := 50) rfl)) (hw _ (List.mem_of_getElem? (i := 51) rfl)) (hw _ (List.mem_of_getElem? (i := 53) rfl)) (hw _ (List.mem_of_getElem? (i := 52) rfl)) (hw _ (List.mem_of_getElem? (i := 14) rfl)) (hw _ (List.mem_of_getElem? (i := 54) rfl)) (by decide) d7_88 pd1 rfl (W := 1) rfl rfl hRf hRl hkR hjR rfl rfl rfl
    subst ev9
    rw [eh9] at g9
    have G9 := g9 [(.int (Int32.ofNat N)), (.int (Int32.ofNat i))] rfl
    have G11 := G9.icmpN d7_91 94 (Jvm.Free.XT.ii_ge_f ((own_lt _ _ (by omega) (by omega)).mpr (by omega)))
    have hi : i < N := by omega
    have hS0 := own_Hl H (show i ≤ N by omega)
    have hS1 := own_Hl H (show i + 1 ≤ N by omega)
    have hS2 := H.2.1 i hi
    have G12 := G11.aloadN (v := (.ref a)) (pc' := 95) d7_94 rfl
    have G13 := G12.getF (pc' := 98) (v := (.ref sa)) (host := "") (Or.inl (hw _ (List.mem_of_getElem? (i := 26) rfl))) Via.refl B1 d7_95
    have G14 := G13.iloadN (v := (Int32.ofNat i)) (pc' := 99) d7_98 rfl
    have G15 := G14.ldI (i := i) (v := (.int (Int32.ofNat (S i)))) (pc' := 100) B4 (own_i _ (by omega)) (AS.2 _ (by omega)) d7_99
    have G16 := G15.istoreN (L' := #[.val (.ref a), .val (.ref xa), .val (.int (Int32.ofNat i)), .val (.int (Int32.ofNat (S i))), o]) (pc' := 101) d7_100 (XS.store1 (o := o3) rfl ho3 rfl)
    obtain ⟨h9, vx9, ve9, K9, VX9, AX9, VE9, hve9, G9⟩ := own_ivC p l e R s m args below meth c Z a0 hw n0 s₀ h0 k j tc N M S I H a xa sa da ea vS vI Fs Fd Fe VS AS VI AI g_x g_e ne_ax ne_ae ne_sx ne_se ne_dx ne_de ne_xe i hi _ (S (i + 1) - S i) (S i) _ _ _ (by omega) (Nat.le_refl _) Kp VX AX VE hve G16
    have G17 := G9.iinc (v := (1 : Int32)) (x := (Int32.ofNat i)) (L' := #[.val (.ref a), .val (.ref xa), .val (.int ((Int32.ofNat i) + (1 : Int32))), .val (.int (Int32.ofNat (S (i + 1)))), o]) (pc' := 141) d7_138 rfl rfl
    have G18 := G17.goto d7_141 86
    rw [own_a1] at G18
    exact ih (i + 1) _ _ _ _ (by omega) K9 VX9 AX9 VE9 hve9 (One.val (w := (.int (Int32.ofNat (S (i + 1))))) rfl) G18
theorem pd2 : parseMethodDescriptor "([II)[I" = some ⟨[(.array .int), .int], some (.array .int)⟩ := by decide +kernel
theorem ef7 (m : MethodId) (a : Addr) : entryFrame m #[(.ref a)] 5 = mkF m 0 #[.val (.ref a), .unset, .unset, .unset, .unset] [] := by first | (simp [entryFrame, mkF, argsToLocals, Value.category]; done) | rfl
def rm7 : Room := { frames := 2, cells := 1, slots := 4, locals := 32 }
set_option maxRecDepth 65536 in
set_option maxHeartbeats 40000000 in
theorem cn7 (l : Launch) (Z : State) (a0 : Array Value) (hw : ∀ d ∈ tables_1, d.before a0 Z = true) (a : Addr) (h0 : Heap) (n0 : Nat) (hn : n0 ≤ h0.size) (tc N M : Nat) (S I : Nat → Nat) (H : own_H tc N M S I) (sa da ca ea : Addr) (vS vI vC vE : List Value) (E0 : Exa Z h0 a "com/example/rhumb/rhumb/InstanceTags") (F1 : Fld Z h0 a "com/example/rhumb/rhumb/InstanceTags" "tagCount" "I" (.int (Int32.ofNat tc))) (Fs : Fld Z h0 a "com/example/rhumb/rhumb/InstanceTags" "tagStart" "[I" (.ref sa)) (Fd : Fld Z h0 a "com/example/rhumb/rhumb/InstanceTags" "tagIds" "[I" (.ref da)) (F0 : Fld Z h0 a "com/example/rhumb/rhumb/InstanceTags" "instanceStart" "[I" (.ref ca)) (Fe : Fld Z h0 a "com/example/rhumb/rhumb/InstanceTags" "instanceIds" "[I" (.ref ea)) (VS : Av Z h0 sa .int vS) (AS : own_A vS (N + 1) S) (VI : Av Z h0 da .int vI) (AI : own_A vI M I) (VC : Av Z h0 ca .int vC) (AC : own_A vC (tc + 1) (fun _ => 0)) (VE : Av Z h0 ea .int vE) (hve : vE.length = M) (g_c : n0 ≤ ca) (g_e : n0 ≤ ea) (ne_ac : a ≠ ca) (ne_ae : a ≠ ea) (ne_sc : sa ≠ ca) (ne_se : sa ≠ ea) (ne_dc : da ≠ ca) (ne_de : da ≠ ea) (ne_ce : ca ≠ ea) :
    Con l (⟨"com/example/rhumb/rhumb/InstanceTags", "invert", "()V"⟩ : MethodName) prog_15_method_3_code 5 none [] rm7 rm7.cells rm7.slots Z #[(.ref a)] h0 n0 (fun v h => ∃ vC' : List Value, v = none ∧ Keep h0 h [ca, ea] ∧ Av Z h ca .int vC' ∧ own_A vC' (tc + 1) (own_ps I M)) := by
  refine Con.of (plainFor_of_name pn0) hn (fun m => ef7 m a) ?_
  intro p e s m below meth c s₀ hnm G0
  have hM := H.1.2.2.1
  have hN := H.1.2.1
  have htc := H.1.1
  have hS0 := H.1.2.2.2.1
  have G1 := G0.aloadN (v := (.ref a)) (pc' := 1) d7_0 rfl
  have G2 := G1.getF (pc' := 4) (v := (.ref da)) (host := "") (Or.inl (hw _ (List.mem_of_getElem? (i := 28) rfl))) Via.refl Fd d7_1
  have G3 := G2.astoreN (L' := #[.val (.ref a), .val (.ref da), .unset, .unset, .unset]) (pc' := 5) d7_4 rfl
  have G4 := G3.aloadN (v := (.ref da)) (pc' := 6) d7_5 rfl
  have G5 := G4.arrlen (pc' := 7) (v := (Int32.ofNat M)) VI (by rw [AI.1]; exact own_i _ (by omega)) d7_6
  have G6 := G5.istoreN (L' := #[.val (.ref a), .val (.ref da), .val (.int (Int32.ofNat M)), .unset, .unset]) (pc' := 8) d7_7 rfl
  have G7 := G6.iconst (v := (0 : Int32)) (pc' := 9) d7_8
  have G8 := G7.istoreN (L' := #[.val (.ref a), .val (.ref da), .val (.int (Int32.ofNat M)), .val (.int (0 : Int32)), .unset]) (pc' := 10) d7_9 rfl
  obtain ⟨hA, vA, oA, KA, VCA, ACA, hoA, GA⟩ := own_ivA p l e rm7 s m _ below meth c Z a0 hw n0 s₀ h0 0 0 tc N M S I H a da ca vI F0 VI AI g_c ne_ac ne_dc M 0 h0 vC .unset (by omega) (Keep.refl _ _) VC (own_Ac AC (fun t _ => by unfold own_gA; split <;> rfl)) One.u G8
  have G9 := GA.iconst (v := (0 : Int32)) (pc' := 40) d7_39
  have G10 := G9.istoreN (L' := #[.val (.ref a), .val (.int (0 : Int32)), .val (.int (Int32.ofNat M)), .val (.int (Int32.ofNat M)), oA]) (pc' := 41) d7_40 rfl
  obtain ⟨hB, vB, KB, VCB, ACB, GB⟩ := own_ivB p l e rm7 s m _ below meth c Z a0 hw n0 s₀ h0 0 0 tc N M S I H a ca F0 F1 g_c ne_ac _ _ _ tc 0 hA vA (by omega) KA VCA (own_Ac ACA (fun t _ => own_gB0 I M t)) G10
  have KB2 : Keep h0 hB [ca, ea] := (Keep.refl h0 [ca, ea]).trans KB (allS (Or.inl (List.mem_of_getElem? (i := 0) rfl)) all0)
  have VEB : Av Z hB ea .int vE := VE.keep KB (ninS (Ne.symm ne_ce) nin0)
  replace AC := ACB
  have B11 : Exa Z hB a "com/example/rhumb/rhumb/InstanceTags" := E0.keep KB2
  have B12 : Fld Z hB a "com/example/rhumb/rhumb/InstanceTags" "tagCount" "I" (.int (Int32.ofNat tc)) := F1.keep KB2 (ninS ne_ac (ninS ne_ae nin0))
  have B13 : Fld Z hB a "com/example/rhumb/rhumb/InstanceTags" "tagStart" "[I" (.ref sa) := Fs.keep KB2 (ninS ne_ac (ninS ne_ae nin0))
  have B14 : Fld Z hB a "com/example/rhumb/rhumb/InstanceTags" "tagIds" "[I" (.ref da) := Fd.keep KB2 (ninS ne_ac (ninS ne_ae nin0))
  have B15 : Fld Z hB a "com/example/rhumb/rhumb/InstanceTags" "instanceStart" "[I" (.ref ca) := F0.keep KB2 (ninS ne_ac (ninS ne_ae nin0))
  have B16 : Fld Z hB a "com/example/rhumb/rhumb/InstanceTags" "instanceIds" "[I" (.ref ea) := Fe.keep KB2 (ninS ne_ac (ninS ne_ae nin0))
  have B17 : Av Z hB sa .int vS := VS.keep KB2 (ninS ne_sc (ninS ne_se nin0))
  have B18 : Av Z hB da .int vI := VI.keep KB2 (ninS ne_dc (ninS ne_de nin0))
  have G19 := GB.aloadN (v := (.ref a)) (pc' := 73) d7_72 rfl
  have G20 := G19.getF (pc' := 76) (v := (.ref ca)) (host := "") (Or.inl (hw _ (List.mem_of_getElem? (i := 30) rfl))) Via.refl B15 d7_73
  have G21 := G20.aloadN (v := (.ref a)) (pc' := 77) d7_76 rfl
  have G22 := G21.getF (pc' := 80) (v := (.int (Int32.ofNat tc))) (host := "") (Or.inl (hw _ (List.mem_of_getElem? (i := 24) rfl))) Via.refl B12 d7_77
  obtain ⟨v23, h23, ⟨xa, vx, ev23, K23, szx, VX, AX⟩, g23⟩ := G22.callS (argsL := [(.ref ca), (.int (Int32.ofNat tc))]) (rest := []) (pc' := 83) (k' := 1) (j' := 4) (cn8 l Z a0 hw tc ca hB n0 G22.size vB VCB _ AC htc) rfl (hw _ (List.mem_of_getElem? (i := 38) rfl)) (hw _ (List.mem_of_getElem? (i := 39) rfl)) (hw _ (List.mem_of_getElem? (i := 40) rfl)) (hw _ (List.mem_of_getElem? (i := 41) rfl)) (by decide) d7_80 pd2 rfl (W := 0) rfl rfl (by decide) (by decide) (by decide) (by decide) rfl rfl rfl
  subst ev23
  have G23 := g23 [(.ref xa)] rfl
  have g_xa : n0 ≤ xa := Nat.le_trans G22.size szx
  have ne24 : a ≠ xa := Nat.ne_of_lt (Nat.lt_of_lt_of_le B11.lt szx)
  have ne25 : sa ≠ xa := Nat.ne_of_lt (Nat.lt_of_lt_of_le B17.lt szx)
  have ne26 : da ≠ xa := Nat.ne_of_lt (Nat.lt_of_lt_of_le B18.lt szx)
  have ne27 : ca ≠ xa := Nat.ne_of_lt (Nat.lt_of_lt_of_le VCB.lt szx)
  have ne28 : ea ≠ xa := Nat.ne_of_lt (Nat.lt_of_lt_of_le VEB.lt szx)
  have sz_xa : h0.size ≤ xa := Nat.le_trans KB2.1 szx
  have K29 : Keep h0 h23 [ca, ea] := KB2.trans K23 all0
  have E30 : Exa Z h23 a "com/example/rhumb/rhumb/InstanceTags" := B11.keep K23
  have F31 : Fld Z h23 a "com/example/rhumb/rhumb/InstanceTags" "tagCount" "I" (.int (Int32.ofNat tc)) := B12.keep K23 nin0
  have F32 : Fld Z h23 a "com/example/rhumb/rhumb/InstanceTags" "tagStart" "[I" (.ref sa) := B13.keep K23 nin0
  have F33 : Fld Z h23 a "com/example/rhumb/rhumb/InstanceTags" "tagIds" "[I" (.ref da) := B14.keep K23 nin0
  have F34 : Fld Z h23 a "com/example/rhumb/rhumb/InstanceTags" "instanceStart" "[I" (.ref ca) := B15.keep K23 nin0
  have F35 : Fld Z h23 a "com/example/rhumb/rhumb/InstanceTags" "instanceIds" "[I" (.ref ea) := B16.keep K23 nin0
  have V36 : Av Z h23 sa .int vS := B17.keep K23 nin0
  have V37 : Av Z h23 da .int vI := B18.keep K23 nin0
  have V38 : Av Z h23 ca .int vB := VCB.keep K23 nin0
  have V39 : Av Z h23 ea .int vE := VEB.keep K23 nin0
  have G40 := G23.astoreN (L' := #[.val (.ref a), .val (.ref xa), .val (.int (Int32.ofNat M)), .val (.int (Int32.ofNat M)), oA]) (pc' := 84) d7_83 rfl
  have G41 := G40.iconst (v := (0 : Int32)) (pc' := 85) d7_84
  have G42 := G41.istoreN (L' := #[.val (.ref a), .val (.ref xa), .val (.int (0 : Int32)), .val (.int (Int32.ofNat M)), oA]) (pc' := 86) d7_85 rfl
  have AX2 : own_A vx tc (own_gC I M (S 0)) := own_Ac AX (fun t ht => by unfold own_gB own_gC; rw [if_pos (by omega), hS0]; rfl)
  obtain ⟨hD, o4, o5, KD, GD⟩ := own_ivD p l e rm7 s m _ below meth c Z a0 hw n0 s₀ h23 1 4 tc N M S I H a xa sa da ea vS vI F32 F33 F35 V36 AS V37 AI g_xa g_e ne24 ne_ae ne25 ne_se ne26 ne_de (Ne.symm ne28) E30 _ (by decide) (by decide) (by decide) (by decide) N 0 h23 vx vE _ (by omega) (Keep.refl _ _) VX AX2 V39 hve (One.val (w := (.int (Int32.ofNat M))) rfl) G42
  have KF : Keep h0 hD [ca, ea] := K29.trans KD (allS (Or.inr sz_xa) (allS (Or.inl (List.mem_of_getElem? (i := 1) rfl)) all0))
  have VF : Av Z hD ca .int vB := V38.keep KD (ninS ne27 (ninS ne_ce nin0))
  exact GD.retV d7_144 rfl ⟨vB, rfl, KF, VF, own_Ac ACB (fun t ht => by unfold own_gB; rw [if_pos (by omega)])⟩
theorem d4_0 : decode prog_15_method_1_code 0 = .ok (.aload_n 0, 1) := by decide +kernel
theorem d4_1 : decode prog_15_method_1_code 1 = .ok (.invokespecial 1, 3) := by decide +kernel
theorem d4_4 : decode prog_15_method_1_code 4 = .ok (.iload_n 1, 1) := by decide +kernel
theorem d4_5 : decode prog_15_method_1_code 5 = .ok (.aload_n 2, 1) := by decide +kernel
theorem d4_6 : decode prog_15_method_1_code 6 = .ok (.aload_n 3, 1) := by decide +kernel
theorem d4_7 : decode prog_15_method_1_code 7 = .ok (.invokestatic 7, 3) := by decide +kernel
theorem d4_10 : decode prog_15_method_1_code 10 = .ok (.aload_n 0, 1) := by decide +kernel
theorem d4_11 : decode prog_15_method_1_code 11 = .ok (.iload_n 1, 1) := by decide +kernel
theorem d4_12 : decode prog_15_method_1_code 12 = .ok (.putfield 13, 3) := by decide +kernel
theorem d4_15 : decode prog_15_method_1_code 15 = .ok (.aload_n 0, 1) := by decide +kernel
theorem d4_16 : decode prog_15_method_1_code 16 = .ok (.aload_n 2, 1) := by decide +kernel
theorem d4_17 : decode prog_15_method_1_code 17 = .ok (.putfield 17, 3) := by decide +kernel
theorem d4_20 : decode prog_15_method_1_code 20 = .ok (.aload_n 0, 1) := by decide +kernel
theorem d4_21 : decode prog_15_method_1_code 21 = .ok (.aload_n 3, 1) := by decide +kernel
theorem d4_22 : decode prog_15_method_1_code 22 = .ok (.putfield 21, 3) := by decide +kernel
theorem d4_25 : decode prog_15_method_1_code 25 = .ok (.aload_n 0, 1) := by decide +kernel
theorem d4_26 : decode prog_15_method_1_code 26 = .ok (.iload_n 1, 1) := by decide +kernel
theorem d4_27 : decode prog_15_method_1_code 27 = .ok (.iconst 1, 1) := by decide +kernel
theorem d4_28 : decode prog_15_method_1_code 28 = .ok (.iadd, 1) := by decide +kernel
theorem d4_29 : decode prog_15_method_1_code 29 = .ok (.newarray .int, 2) := by decide +kernel
theorem d4_31 : decode prog_15_method_1_code 31 = .ok (.putfield 24, 3) := by decide +kernel
theorem d4_34 : decode prog_15_method_1_code 34 = .ok (.aload_n 0, 1) := by decide +kernel
theorem d4_35 : decode prog_15_method_1_code 35 = .ok (.aload_n 3, 1) := by decide +kernel
theorem d4_36 : decode prog_15_method_1_code 36 = .ok (.arraylength, 1) := by decide +kernel
theorem d4_37 : decode prog_15_method_1_code 37 = .ok (.newarray .int, 2) := by decide +kernel
theorem d4_39 : decode prog_15_method_1_code 39 = .ok (.putfield 27, 3) := by decide +kernel
theorem d4_42 : decode prog_15_method_1_code 42 = .ok (.aload_n 0, 1) := by decide +kernel
theorem d4_43 : decode prog_15_method_1_code 43 = .ok (.invokevirtual 30, 3) := by decide +kernel
theorem d4_46 : decode prog_15_method_1_code 46 = .ok (.return_, 1) := by decide +kernel
theorem pd3 : parseMethodDescriptor "(I[I[I)V" = some ⟨[.int, (.array .int), (.array .int)], none⟩ := by decide +kernel
theorem pd4 : parseMethodDescriptor "()V" = some ⟨[], none⟩ := by decide +kernel
theorem ef4 (m : MethodId) (tc : Nat) (a : Addr) (sa : Addr) (da : Addr) : entryFrame m #[(.ref a), (.int (Int32.ofNat tc)), (.ref sa), (.ref da)] 4 = mkF m 0 #[.val (.ref a), .val (.int (Int32.ofNat tc)), .val (.ref sa), .val (.ref da)] [] := by first | (simp [entryFrame, mkF, argsToLocals, Value.category]; done) | rfl
def rm4 : Room := { frames := 3, cells := 3, slots := 29, locals := 48 }
set_option maxRecDepth 65536 in
set_option maxHeartbeats 40000000 in
theorem cn4 (l : Launch) (Z : State) (a0 : Array Value) (hw : ∀ d ∈ tables_1, d.before a0 Z = true) (tc : Nat) (a : Addr) (sa : Addr) (da : Addr) (h0 : Heap) (n0 : Nat) (hn : n0 ≤ h0.size) (N M : Nat) (S I : Nat → Nat) (H : own_H tc N M S I) (vS vI : List Value) (E0 : Exa Z h0 a "com/example/rhumb/rhumb/InstanceTags") (F0 : Fld Z h0 a "com/example/rhumb/rhumb/InstanceTags" "tagCount" "I" (.int (0 : Int32))) (F1 : Fld Z h0 a "com/example/rhumb/rhumb/InstanceTags" "tagStart" "[I" .null) (F2 : Fld Z h0 a "com/example/rhumb/rhumb/InstanceTags" "tagIds" "[I" .null) (F3 : Fld Z h0 a "com/example/rhumb/rhumb/InstanceTags" "instanceStart" "[I" .null) (F4 : Fld Z h0 a "com/example/rhumb/rhumb/InstanceTags" "instanceIds" "[I" .null) (VS : Av Z h0 sa .int vS) (AS : own_A vS (N + 1) S) (VI : Av Z h0 da .int vI) (AI : own_A vI M I) (g_a : n0 ≤ a) (ne_sa : sa ≠ a) (ne_da : da ≠ a) :
    Con l (⟨"com/example/rhumb/rhumb/InstanceTags", "<init>", "(I[I[I)V"⟩ : MethodName) prog_15_method_1_code 4 none [] rm4 rm4.cells rm4.slots Z #[(.ref a), (.int (Int32.ofNat tc)), (.ref sa), (.ref da)] h0 n0 (fun v h => ∃ (ca : Addr) (vC : List Value), v = none ∧ Keep h0 h [a] ∧ h0.size ≤ ca ∧ Exa Z h a "com/example/rhumb/rhumb/InstanceTags" ∧ Fld Z h a "com/example/rhumb/rhumb/InstanceTags" "tagCount" "I" (.int (Int32.ofNat tc)) ∧ Fld Z h a "com/example/rhumb/rhumb/InstanceTags" "tagStart" "[I" (.ref sa) ∧ Fld Z h a "com/example/rhumb/rhumb/InstanceTags" "tagIds" "[I" (.ref da) ∧ Fld Z h a "com/example/rhumb/rhumb/InstanceTags" "instanceStart" "[I" (.ref ca) ∧ Av Z h ca .int vC ∧ own_A vC (tc + 1) (own_ps I M)) := by
  refine Con.of (plainFor_of_name pn0) hn (fun m => ef4 m tc a sa da) ?_
  intro p e s m below meth c s₀ hnm G0
  have hM := H.1.2.2.1
  have hN := H.1.2.1
  have htc := H.1.1
  have K0 : Keep h0 h0 [a] := Keep.refl _ _
  have G1 := G0.aloadN (v := (.ref a)) (pc' := 1) d4_0 rfl
  have G2 := G1.initO (pc' := 4) (hw _ (List.mem_of_getElem? (i := 18) rfl)) (hw _ (List.mem_of_getElem? (i := 19) rfl)) (hw _ (List.mem_of_getElem? (i := 20) rfl)) d4_1 (W := 0) rfl rfl (by decide) (by decide)
  have G3 := G2.iloadN (v := (Int32.ofNat tc)) (pc' := 5) d4_4 rfl
  have G4 := G3.aloadN (v := (.ref sa)) (pc' := 6) d4_5 rfl
  have G5 := G4.aloadN (v := (.ref da)) (pc' := 7) d4_6 rfl
  obtain ⟨v6, h6, ⟨ev6, eh6⟩, g6⟩ := G5.callS (argsL := [(.int (Int32.ofNat tc)), (.ref sa), (.ref da)]) (rest := []) (pc' := 10) (k' := 0) (j' := 0) (cn6 l Z a0 hw tc sa da h0 n0 G5.size N M S I H vS vI VS VI AS AI) rfl (hw _ (List.mem_of_getElem? (i := 21) rfl)) (hw _ (List.mem_of_getElem? (i := 22) rfl)) (hw _ (List.mem_of_getElem? (i := 14) rfl)) (hw _ (List.mem_of_getElem? (i := 23) rfl)) (by decide) d4_7 pd3 rfl (W := 0) rfl rfl (by decide) (by decide) (by decide) (by decide) rfl rfl rfl
  subst ev6
  rw [eh6] at g6
  have G6 := g6 [] rfl
  have G7 := G6.aloadN (v := (.ref a)) (pc' := 11) d4_10 rfl
  have G8 := G7.iloadN (v := (Int32.ofNat tc)) (pc' := 12) d4_11 rfl
  obtain ⟨h9, W9, G9⟩ := G8.putF (v := (.int (Int32.ofNat tc))) (pc' := 15) (host := "") (Or.inl (hw _ (List.mem_of_getElem? (i := 24) rfl))) Via.refl F0 E0 g_a (Or.inr ⟨(hw _ (List.mem_of_getElem? (i := 25) rfl)), rfl, hnm⟩) (hw _ (List.mem_of_getElem? (i := 13) rfl)) (ty := .int) (by decide) rfl rfl d4_12
  have E10 : Exa Z h9 a "com/example/rhumb/rhumb/InstanceTags" := E0.wr W9
  have V11 : Av Z h9 sa .int vS := VS.other W9 ne_sa
  have V12 : Av Z h9 da .int vI := VI.other W9 ne_da
  have K13 : Keep h0 h9 [a] := K0.wr W9 (Or.inl (List.mem_of_getElem? (i := 0) rfl))
  have F14 : Fld Z h9 a "com/example/rhumb/rhumb/InstanceTags" "tagCount" "I" (.int (Int32.ofNat tc)) := F0.same W9
  have F15 : Fld Z h9 a "com/example/rhumb/rhumb/InstanceTags" "tagStart" "[I" .null := F1.other W9 (Or.inr (slot_ne (Or.inr (hw _ (List.mem_of_getElem? (i := 27) rfl))) (Or.inr (hw _ (List.mem_of_getElem? (i := 25) rfl))) (by decide) (t := (.array .int)) (t' := .int) (by decide) (by decide)))
  have F16 : Fld Z h9 a "com/example/rhumb/rhumb/InstanceTags" "tagIds" "[I" .null := F2.other W9 (Or.inr (slot_ne (Or.inr (hw _ (List.mem_of_getElem? (i := 29) rfl))) (Or.inr (hw _ (List.mem_of_getElem? (i := 25) rfl))) (by decide) (t := (.array .int)) (t' := .int) (by decide) (by decide)))
  have F17 : Fld Z h9 a "com/example/rhumb/rhumb/InstanceTags" "instanceStart" "[I" .null := F3.other W9 (Or.inr (slot_ne (Or.inr (hw _ (List.mem_of_getElem? (i := 31) rfl))) (Or.inr (hw _ (List.mem_of_getElem? (i := 25) rfl))) (by decide) (t := (.array .int)) (t' := .int) (by decide) (by decide)))
  have F18 : Fld Z h9 a "com/example/rhumb/rhumb/InstanceTags" "instanceIds" "[I" .null := F4.other W9 (Or.inr (slot_ne (Or.inr (hw _ (List.mem_of_getElem? (i := 33) rfl))) (Or.inr (hw _ (List.mem_of_getElem? (i := 25) rfl))) (by decide) (t := (.array .int)) (t' := .int) (by decide) (by decide)))
  have G19 := G9.aloadN (v := (.ref a)) (pc' := 16) d4_15 rfl
  have G20 := G19.aloadN (v := (.ref sa)) (pc' := 17) d4_16 rfl
  obtain ⟨h21, W21, G21⟩ := G20.putF (v := (.ref sa)) (pc' := 20) (host := "") (Or.inl (hw _ (List.mem_of_getElem? (i := 26) rfl))) Via.refl F15 E10 g_a (Or.inr ⟨(hw _ (List.mem_of_getElem? (i := 27) rfl)), rfl, hnm⟩) (hw _ (List.mem_of_getElem? (i := 13) rfl)) (ty := (.array .int)) (by decide) rfl rfl d4_17
  have E22 : Exa Z h21 a "com/example/rhumb/rhumb/InstanceTags" := E10.wr W21
  have V23 : Av Z h21 sa .int vS := V11.other W21 ne_sa
  have V24 : Av Z h21 da .int vI := V12.other W21 ne_da
  have K25 : Keep h0 h21 [a] := K13.wr W21 (Or.inl (List.mem_of_getElem? (i := 0) rfl))
  have F26 : Fld Z h21 a "com/example/rhumb/rhumb/InstanceTags" "tagCount" "I" (.int (Int32.ofNat tc)) := F14.other W21 (Or.inr (slot_ne (Or.inr (hw _ (List.mem_of_getElem? (i := 25) rfl))) (Or.inr (hw _ (List.mem_of_getElem? (i := 27) rfl))) (by decide) (t := .int) (t' := (.array .int)) (by decide) (by decide)))
  have F27 : Fld Z h21 a "com/example/rhumb/rhumb/InstanceTags" "tagStart" "[I" (.ref sa) := F15.same W21
  have F28 : Fld Z h21 a "com/example/rhumb/rhumb/InstanceTags" "tagIds" "[I" .null := F16.other W21 (Or.inr (slot_ne (Or.inr (hw _ (List.mem_of_getElem? (i := 29) rfl))) (Or.inr (hw _ (List.mem_of_getElem? (i := 27) rfl))) (by decide) (t := (.array .int)) (t' := (.array .int)) (by decide) (by decide)))
  have F29 : Fld Z h21 a "com/example/rhumb/rhumb/InstanceTags" "instanceStart" "[I" .null := F17.other W21 (Or.inr (slot_ne (Or.inr (hw _ (List.mem_of_getElem? (i := 31) rfl))) (Or.inr (hw _ (List.mem_of_getElem? (i := 27) rfl))) (by decide) (t := (.array .int)) (t' := (.array .int)) (by decide) (by decide)))
  have F30 : Fld Z h21 a "com/example/rhumb/rhumb/InstanceTags" "instanceIds" "[I" .null := F18.other W21 (Or.inr (slot_ne (Or.inr (hw _ (List.mem_of_getElem? (i := 33) rfl))) (Or.inr (hw _ (List.mem_of_getElem? (i := 27) rfl))) (by decide) (t := (.array .int)) (t' := (.array .int)) (by decide) (by decide)))
  have G31 := G21.aloadN (v := (.ref a)) (pc' := 21) d4_20 rfl
  have G32 := G31.aloadN (v := (.ref da)) (pc' := 22) d4_21 rfl
  obtain ⟨h33, W33, G33⟩ := G32.putF (v := (.ref da)) (pc' := 25) (host := "") (Or.inl (hw _ (List.mem_of_getElem? (i := 28) rfl))) Via.refl F28 E22 g_a (Or.inr ⟨(hw _ (List.mem_of_getElem? (i := 29) rfl)), rfl, hnm⟩) (hw _ (List.mem_of_getElem? (i := 13) rfl)) (ty := (.array .int)) (by decide) rfl rfl d4_22
  have E34 : Exa Z h33 a "com/example/rhumb/rhumb/InstanceTags" := E22.wr W33
  have V35 : Av Z h33 sa .int vS := V23.other W33 ne_sa
  have V36 : Av Z h33 da .int vI := V24.other W33 ne_da
  have K37 : Keep h0 h33 [a] := K25.wr W33 (Or.inl (List.mem_of_getElem? (i := 0) rfl))
  have F38 : Fld Z h33 a "com/example/rhumb/rhumb/InstanceTags" "tagCount" "I" (.int (Int32.ofNat tc)) := F26.other W33 (Or.inr (slot_ne (Or.inr (hw _ (List.mem_of_getElem? (i := 25) rfl))) (Or.inr (hw _ (List.mem_of_getElem? (i := 29) rfl))) (by decide) (t := .int) (t' := (.array .int)) (by decide) (by decide)))
  have F39 : Fld Z h33 a "com/example/rhumb/rhumb/InstanceTags" "tagStart" "[I" (.ref sa) := F27.other W33 (Or.inr (slot_ne (Or.inr (hw _ (List.mem_of_getElem? (i := 27) rfl))) (Or.inr (hw _ (List.mem_of_getElem? (i := 29) rfl))) (by decide) (t := (.array .int)) (t' := (.array .int)) (by decide) (by decide)))
  have F40 : Fld Z h33 a "com/example/rhumb/rhumb/InstanceTags" "tagIds" "[I" (.ref da) := F28.same W33
  have F41 : Fld Z h33 a "com/example/rhumb/rhumb/InstanceTags" "instanceStart" "[I" .null := F29.other W33 (Or.inr (slot_ne (Or.inr (hw _ (List.mem_of_getElem? (i := 31) rfl))) (Or.inr (hw _ (List.mem_of_getElem? (i := 29) rfl))) (by decide) (t := (.array .int)) (t' := (.array .int)) (by decide) (by decide)))
  have F42 : Fld Z h33 a "com/example/rhumb/rhumb/InstanceTags" "instanceIds" "[I" .null := F30.other W33 (Or.inr (slot_ne (Or.inr (hw _ (List.mem_of_getElem? (i := 33) rfl))) (Or.inr (hw _ (List.mem_of_getElem? (i := 29) rfl))) (by decide) (t := (.array .int)) (t' := (.array .int)) (by decide) (by decide)))
  have G43 := G33.aloadN (v := (.ref a)) (pc' := 26) d4_25 rfl
  have G44 := G43.iloadN (v := (Int32.ofNat tc)) (pc' := 27) d4_26 rfl
  have G45 := G44.iconst (v := (1 : Int32)) (pc' := 28) d4_27
  have G46 := G45.iadd (pc' := 29) d4_28
  rw [own_a1] at G46
  obtain ⟨a47, h47, ea47, g_a47, X47, V47, G47⟩ := G46.newA (ty := .int) (dv := (.int (0 : Int32))) (N := (tc + 1)) (cap := 5) (pc' := 31) (k' := 1) (j' := 5) (hw _ (List.mem_of_getElem? (i := 8) rfl)) d4_29 rfl rfl (own_i _ (by omega)) (by omega) (by decide) rfl rfl rfl (by decide) (by decide)
  have ne48 : a ≠ a47 := by rw [ea47]; exact Nat.ne_of_lt E34.lt
  have ne49 : sa ≠ a47 := by rw [ea47]; exact Nat.ne_of_lt V35.lt
  have ne50 : da ≠ a47 := by rw [ea47]; exact Nat.ne_of_lt V36.lt
  have sz47 : h0.size ≤ a47 := by rw [ea47]; exact K37.1
  have E51 : Exa Z h47 a "com/example/rhumb/rhumb/InstanceTags" := E34.ext X47
  have V52 : Av Z h47 sa .int vS := V35.ext X47
  have V53 : Av Z h47 da .int vI := V36.ext X47
  have K54 : Keep h0 h47 [a] := K37.ext X47
  have F55 : Fld Z h47 a "com/example/rhumb/rhumb/InstanceTags" "tagCount" "I" (.int (Int32.ofNat tc)) := F38.ext X47
  have F56 : Fld Z h47 a "com/example/rhumb/rhumb/InstanceTags" "tagStart" "[I" (.ref sa) := F39.ext X47
  have F57 : Fld Z h47 a "com/example/rhumb/rhumb/InstanceTags" "tagIds" "[I" (.ref da) := F40.ext X47
  have F58 : Fld Z h47 a "com/example/rhumb/rhumb/InstanceTags" "instanceStart" "[I" .null := F41.ext X47
  have F59 : Fld Z h47 a "com/example/rhumb/rhumb/InstanceTags" "instanceIds" "[I" .null := F42.ext X47
  obtain ⟨h60, W60, G60⟩ := G47.putF (v := (.ref a47)) (pc' := 34) (host := "") (Or.inl (hw _ (List.mem_of_getElem? (i := 30) rfl))) Via.refl F58 E51 g_a (Or.inr ⟨(hw _ (List.mem_of_getElem? (i := 31) rfl)), rfl, hnm⟩) (hw _ (List.mem_of_getElem? (i := 13) rfl)) (ty := (.array .int)) (by decide) rfl rfl d4_31
  have E61 : Exa Z h60 a "com/example/rhumb/rhumb/InstanceTags" := E51.wr W60
  have V62 : Av Z h60 sa .int vS := V52.other W60 ne_sa
  have V63 : Av Z h60 da .int vI := V53.other W60 ne_da
  have K64 : Keep h0 h60 [a] := K54.wr W60 (Or.inl (List.mem_of_getElem? (i := 0) rfl))
  have F65 : Fld Z h60 a "com/example/rhumb/rhumb/InstanceTags" "tagCount" "I" (.int (Int32.ofNat tc)) := F55.other W60 (Or.inr (slot_ne (Or.inr (hw _ (List.mem_of_getElem? (i := 25) rfl))) (Or.inr (hw _ (List.mem_of_getElem? (i := 31) rfl))) (by decide) (t := .int) (t' := (.array .int)) (by decide) (by decide)))
  have F66 : Fld Z h60 a "com/example/rhumb/rhumb/InstanceTags" "tagStart" "[I" (.ref sa) := F56.other W60 (Or.inr (slot_ne (Or.inr (hw _ (List.mem_of_getElem? (i := 27) rfl))) (Or.inr (hw _ (List.mem_of_getElem? (i := 31) rfl))) (by decide) (t := (.array .int)) (t' := (.array .int)) (by decide) (by decide)))
  have F67 : Fld Z h60 a "com/example/rhumb/rhumb/InstanceTags" "tagIds" "[I" (.ref da) := F57.other W60 (Or.inr (slot_ne (Or.inr (hw _ (List.mem_of_getElem? (i := 29) rfl))) (Or.inr (hw _ (List.mem_of_getElem? (i := 31) rfl))) (by decide) (t := (.array .int)) (t' := (.array .int)) (by decide) (by decide)))
  have F68 : Fld Z h60 a "com/example/rhumb/rhumb/InstanceTags" "instanceStart" "[I" (.ref a47) := F58.same W60
  have F69 : Fld Z h60 a "com/example/rhumb/rhumb/InstanceTags" "instanceIds" "[I" .null := F59.other W60 (Or.inr (slot_ne (Or.inr (hw _ (List.mem_of_getElem? (i := 33) rfl))) (Or.inr (hw _ (List.mem_of_getElem? (i := 31) rfl))) (by decide) (t := (.array .int)) (t' := (.array .int)) (by decide) (by decide)))
  have V70 : Av Z h60 a47 .int (List.replicate ((tc + 1)) (.int (0 : Int32))) := V47.other W60 (Ne.symm ne48)
  have G71 := G60.aloadN (v := (.ref a)) (pc' := 35) d4_34 rfl
  have G72 := G71.aloadN (v := (.ref da)) (pc' := 36) d4_35 rfl
  have G73 := G72.arrlen (pc' := 37) (v := (Int32.ofNat M)) V63 (by rw [AI.1]; exact own_i _ (by omega)) d4_36
  obtain ⟨a74, h74, ea74, g_a74, X74, V74, G74⟩ := G73.newA (ty := .int) (dv := (.int (0 : Int32))) (N := M) (cap := 20) (pc' := 39) (k' := 2) (j' := 25) (hw _ (List.mem_of_getElem? (i := 8) rfl)) d4_37 rfl rfl (own_i _ (by omega)) hM (by decide) rfl rfl rfl (by decide) (by decide)
  have ne75 : a ≠ a74 := by rw [ea74]; exact Nat.ne_of_lt E61.lt
  have ne76 : sa ≠ a74 := by rw [ea74]; exact Nat.ne_of_lt V62.lt
  have ne77 : da ≠ a74 := by rw [ea74]; exact Nat.ne_of_lt V63.lt
  have ne78 : a47 ≠ a74 := by rw [ea74]; exact Nat.ne_of_lt V70.lt
  have sz74 : h0.size ≤ a74 := by rw [ea74]; exact K64.1
  have E79 : Exa Z h74 a "com/example/rhumb/rhumb/InstanceTags" := E61.ext X74
  have V80 : Av Z h74 sa .int vS := V62.ext X74
  have V81 : Av Z h74 da .int vI := V63.ext X74
  have K82 : Keep h0 h74 [a] := K64.ext X74
  have F83 : Fld Z h74 a "com/example/rhumb/rhumb/InstanceTags" "tagCount" "I" (.int (Int32.ofNat tc)) := F65.ext X74
  have F84 : Fld Z h74 a "com/example/rhumb/rhumb/InstanceTags" "tagStart" "[I" (.ref sa) := F66.ext X74
  have F85 : Fld Z h74 a "com/example/rhumb/rhumb/InstanceTags" "tagIds" "[I" (.ref da) := F67.ext X74
  have F86 : Fld Z h74 a "com/example/rhumb/rhumb/InstanceTags" "instanceStart" "[I" (.ref a47) := F68.ext X74
  have F87 : Fld Z h74 a "com/example/rhumb/rhumb/InstanceTags" "instanceIds" "[I" .null := F69.ext X74
  have V88 : Av Z h74 a47 .int (List.replicate ((tc + 1)) (.int (0 : Int32))) := V70.ext X74
  obtain ⟨h89, W89, G89⟩ := G74.putF (v := (.ref a74)) (pc' := 42) (host := "") (Or.inl (hw _ (List.mem_of_getElem? (i := 32) rfl))) Via.refl F87 E79 g_a (Or.inr ⟨(hw _ (List.mem_of_getElem? (i := 33) rfl)), rfl, hnm⟩) (hw _ (List.mem_of_getElem? (i := 13) rfl)) (ty := (.array .int)) (by decide) rfl rfl d4_39
  have E90 : Exa Z h89 a "com/example/rhumb/rhumb/InstanceTags" := E79.wr W89
  have V91 : Av Z h89 sa .int vS := V80.other W89 ne_sa
  have V92 : Av Z h89 da .int vI := V81.other W89 ne_da
  have K93 : Keep h0 h89 [a] := K82.wr W89 (Or.inl (List.mem_of_getElem? (i := 0) rfl))
  have F94 : Fld Z h89 a "com/example/rhumb/rhumb/InstanceTags" "tagCount" "I" (.int (Int32.ofNat tc)) := F83.other W89 (Or.inr (slot_ne (Or.inr (hw _ (List.mem_of_getElem? (i := 25) rfl))) (Or.inr (hw _ (List.mem_of_getElem? (i := 33) rfl))) (by decide) (t := .int) (t' := (.array .int)) (by decide) (by decide)))
  have F95 : Fld Z h89 a "com/example/rhumb/rhumb/InstanceTags" "tagStart" "[I" (.ref sa) := F84.other W89 (Or.inr (slot_ne (Or.inr (hw _ (List.mem_of_getElem? (i := 27) rfl))) (Or.inr (hw _ (List.mem_of_getElem? (i := 33) rfl))) (by decide) (t := (.array .int)) (t' := (.array .int)) (by decide) (by decide)))
  have F96 : Fld Z h89 a "com/example/rhumb/rhumb/InstanceTags" "tagIds" "[I" (.ref da) := F85.other W89 (Or.inr (slot_ne (Or.inr (hw _ (List.mem_of_getElem? (i := 29) rfl))) (Or.inr (hw _ (List.mem_of_getElem? (i := 33) rfl))) (by decide) (t := (.array .int)) (t' := (.array .int)) (by decide) (by decide)))
  have F97 : Fld Z h89 a "com/example/rhumb/rhumb/InstanceTags" "instanceStart" "[I" (.ref a47) := F86.other W89 (Or.inr (slot_ne (Or.inr (hw _ (List.mem_of_getElem? (i := 31) rfl))) (Or.inr (hw _ (List.mem_of_getElem? (i := 33) rfl))) (by decide) (t := (.array .int)) (t' := (.array .int)) (by decide) (by decide)))
  have F98 : Fld Z h89 a "com/example/rhumb/rhumb/InstanceTags" "instanceIds" "[I" (.ref a74) := F87.same W89
  have V99 : Av Z h89 a47 .int (List.replicate ((tc + 1)) (.int (0 : Int32))) := V88.other W89 (Ne.symm ne48)
  have V100 : Av Z h89 a74 .int (List.replicate M (.int (0 : Int32))) := V74.other W89 (Ne.symm ne75)
  have G101 := G89.aloadN (v := (.ref a)) (pc' := 43) d4_42 rfl
  obtain ⟨v102, h102, ⟨vC9, ev102, K102, V9, A9⟩, g102⟩ := G101.callP (argsL := []) (rest := []) (pc' := 46) (k' := 3) (j' := 29) (cn7 l Z a0 hw a h89 n0 G101.size tc N M S I H sa da a47 a74 vS vI (List.replicate ((tc + 1)) (.int (0 : Int32))) (List.replicate M (.int (0 : Int32))) E90 F94 F95 F96 F97 F98 V91 AS V92 AI V99 (own_A0 _) V100 (by rw [List.length_replicate]) g_a47 g_a74 ne48 ne75 ne49 ne76 ne50 ne77 ne78) rfl E90 (hw _ (List.mem_of_getElem? (i := 34) rfl)) (hw _ (List.mem_of_getElem? (i := 35) rfl)) (hw _ (List.mem_of_getElem? (i := 36) rfl)) (hw _ (List.mem_of_getElem? (i := 13) rfl)) (hw _ (List.mem_of_getElem? (i := 14) rfl)) (hw _ (List.mem_of_getElem? (i := 37) rfl)) (by decide) d4_43 pd4 rfl (W := 0) rfl rfl (by decide) (by decide) (by decide) (by decide) rfl rfl rfl
  subst ev102
  have G102 := g102 [] rfl
  have E103 : Exa Z h102 a "com/example/rhumb/rhumb/InstanceTags" := E90.keep K102
  have V104 : Av Z h102 sa .int vS := V91.keep K102 (ninS ne49 (ninS ne76 nin0))
  have V105 : Av Z h102 da .int vI := V92.keep K102 (ninS ne50 (ninS ne77 nin0))
  have K106 : Keep h0 h102 [a] := K93.trans K102 (allS (Or.inr sz47) (allS (Or.inr sz74) all0))
  have F107 : Fld Z h102 a "com/example/rhumb/rhumb/InstanceTags" "tagCount" "I" (.int (Int32.ofNat tc)) := F94.keep K102 (ninS ne48 (ninS ne75 nin0))
  have F108 : Fld Z h102 a "com/example/rhumb/rhumb/InstanceTags" "tagStart" "[I" (.ref sa) := F95.keep K102 (ninS ne48 (ninS ne75 nin0))
  have F109 : Fld Z h102 a "com/example/rhumb/rhumb/InstanceTags" "tagIds" "[I" (.ref da) := F96.keep K102 (ninS ne48 (ninS ne75 nin0))
  have F110 : Fld Z h102 a "com/example/rhumb/rhumb/InstanceTags" "instanceStart" "[I" (.ref a47) := F97.keep K102 (ninS ne48 (ninS ne75 nin0))
  have F111 : Fld Z h102 a "com/example/rhumb/rhumb/InstanceTags" "instanceIds" "[I" (.ref a74) := F98.keep K102 (ninS ne48 (ninS ne75 nin0))
  exact G102.retV d4_46 rfl ⟨a47, vC9, rfl, K106, sz47, E103, F107, F108, F109, F110, V9, A9⟩
def own_pre (vs : List Value) (len : Nat) (P : List Nat) : Prop := vs.length = len ∧ ∀ i, i < P.length → vs[i]? = some (.int (Int32.ofNat (P.getD i 0)))
theorem own_preS {vs : List Value} {len : Nat} {P : List Nat} (v : Nat) (A : own_pre vs len P) (h : P.length < len) : own_pre (vs.set P.length (.int (Int32.ofNat v))) len (P ++ [v]) := by
  refine ⟨by rw [List.length_set]; exact A.1, fun i hi => ?_⟩
  rw [List.length_append, List.length_singleton] at hi
  by_cases q : i = P.length
  · rw [q, List.getElem?_set_self (by rw [A.1]; exact h)]
    simp [List.getD_eq_getElem?_getD]
  · rw [List.getElem?_set_ne (fun z => q z.symm), A.2 i (by omega), List.getD_eq_getElem?_getD, List.getD_eq_getElem?_getD, List.getElem?_append_left (by omega)]
theorem own_pre0 (n : Nat) : own_pre (List.replicate n (.int (0 : Int32))) n [] := ⟨List.length_replicate, fun i hi => absurd hi (Nat.not_lt_zero i)⟩
theorem own_preA {vs : List Value} {L : List Nat} (A : own_pre vs L.length L) : own_A vs L.length (fun i => L.getD i 0) := A
def own_asc (l : List Nat) (tc : Nat) : Prop := ∀ i, i < l.length → l.getD i 0 < tc ∧ (i = 0 ∨ l.getD (i - 1) 0 < l.getD i 0)
theorem own_gl (A B : List Nat) (i : Nat) (h : i < A.length) : (A ++ B).getD i 0 = A.getD i 0 := by
  rw [List.getD_eq_getElem?_getD, List.getD_eq_getElem?_getD, List.getElem?_append_left h]
theorem own_gr (A B : List Nat) (i : Nat) (h : A.length ≤ i) : (A ++ B).getD i 0 = B.getD (i - A.length) 0 := by
  rw [List.getD_eq_getElem?_getD, List.getD_eq_getElem?_getD, List.getElem?_append_right h]
theorem own_sg (A l B : List Nat) (tc : Nat) (h : own_asc l tc) (p : Nat) (h1 : A.length ≤ p) (h2 : p < A.length + l.length) : ((A ++ l) ++ B).getD p 0 < tc ∧ (p = A.length ∨ ((A ++ l) ++ B).getD (p - 1) 0 < ((A ++ l) ++ B).getD p 0) := by
  have e1 : ((A ++ l) ++ B).getD p 0 = l.getD (p - A.length) 0 := by
    rw [own_gl _ _ _ (by rw [List.length_append]; omega), own_gr _ _ _ h1]
  rw [e1]
  have q := h (p - A.length) (by omega)
  refine ⟨q.1, ?_⟩
  by_cases z : p = A.length
  · exact Or.inl z
  · right
    have e2 : ((A ++ l) ++ B).getD (p - 1) 0 = l.getD (p - A.length - 1) 0 := by
      rw [own_gl _ _ _ (by rw [List.length_append]; omega), own_gr _ _ _ (by omega)]
      congr 1; omega
    rw [e2]
    rcases q.2 with q2 | q2
    · omega
    · exact q2
theorem own_cnL (L : List Nat) (t : Nat) : ∀ p, p ≤ L.length → own_cn (fun i => L.getD i 0) p t = (L.take p).count t
  | 0, _ => rfl
  | p + 1, h => by
    have hp : p < L.length := by omega
    rw [own_cn, own_cnL L t p (by omega), List.take_add_one, List.count_append, List.getElem?_eq_getElem hp]
    have e : L.getD p 0 = L[p] := by rw [List.getD_eq_getElem?_getD, List.getElem?_eq_getElem hp]; rfl
    rw [e]
    by_cases z : L[p] = t
    · rw [if_pos z]; simp [z]
    · rw [if_neg z]; simp [List.count_cons, z]

theorem d2_0 : decode method_2_code 0 = .ok (.iload_n 0, 1) := by decide +kernel
theorem d2_1 : decode method_2_code 1 = .ok (.iload_n 1, 1) := by decide +kernel
theorem d2_2 : decode method_2_code 2 = .ok (.ishr, 1) := by decide +kernel
theorem d2_3 : decode method_2_code 3 = .ok (.iconst 1, 1) := by decide +kernel
theorem d2_4 : decode method_2_code 4 = .ok (.iand, 1) := by decide +kernel
theorem d2_5 : decode method_2_code 5 = .ok (.ireturn, 1) := by decide +kernel
theorem pn2 : plainName "com/example/rhumb/rhumb/InstanceTagsTagCounts103PinLaw" = true := by first | (simp [plainName, overriddenIn]; done) | decide +kernel
theorem ef2 (m : MethodId) (x0 : Int32) (x1 : Int32) : entryFrame m #[(.int x0), (.int x1)] 2 = mkF m 0 #[.val (.int x0), .val (.int x1)] [] := by first | (simp [entryFrame, mkF, argsToLocals, Value.category]; done) | rfl
def fBit (x0 : Int32) (x1 : Int32) : Int32 := ((x0 >>> (x1 &&& 31)) &&& (1 : Int32))
def rm2 : Room := { frames := 0, cells := 0, slots := 0, locals := 0 }
set_option maxRecDepth 65536 in
set_option maxHeartbeats 40000000 in
theorem cn2 (l : Launch) (Z : State) (a0 : Array Value) (hw : ∀ d ∈ tables_1, d.before a0 Z = true) (x0 : Int32) (x1 : Int32) (h0 : Heap) (n0 : Nat) (hn : n0 ≤ h0.size) :
    Con l (⟨"com/example/rhumb/rhumb/InstanceTagsTagCounts103PinLaw", "bit", "(II)I"⟩ : MethodName) method_2_code 2 (some .int) [] rm2 rm2.cells rm2.slots Z #[(.int x0), (.int x1)] h0 n0 (fun v h => v = some (.int (fBit x0 x1)) ∧ h = h0) := by
  refine Con.of (plainFor_of_name pn2) hn (fun m => ef2 m x0 x1) ?_
  intro p e s m below meth c s₀ hnm G0
  have G1 := G0.iloadN (v := x0) (pc' := 1) d2_0 rfl
  have G2 := G1.iloadN (v := x1) (pc' := 2) d2_1 rfl
  have G3 := G2.ishr (pc' := 3) d2_2
  have G4 := G3.iconst (v := (1 : Int32)) (pc' := 4) d2_3
  have G5 := G4.iand (pc' := 5) d2_4
  exact G5.retI d2_5 rfl ⟨congrArg (fun z => some (Value.int z)) (by rw [fBit]), rfl⟩
theorem d1_0 : decode method_3_code 0 = .ok (.iload_n 0, 1) := by decide +kernel
theorem d1_1 : decode method_3_code 1 = .ok (.iconst 0, 1) := by decide +kernel
theorem d1_2 : decode method_3_code 2 = .ok (.invokestatic 7, 3) := by decide +kernel
theorem d1_5 : decode method_3_code 5 = .ok (.iload_n 0, 1) := by decide +kernel
theorem d1_6 : decode method_3_code 6 = .ok (.iconst 1, 1) := by decide +kernel
theorem d1_7 : decode method_3_code 7 = .ok (.invokestatic 7, 3) := by decide +kernel
theorem d1_10 : decode method_3_code 10 = .ok (.iadd, 1) := by decide +kernel
theorem d1_11 : decode method_3_code 11 = .ok (.iload_n 0, 1) := by decide +kernel
theorem d1_12 : decode method_3_code 12 = .ok (.iconst 2, 1) := by decide +kernel
theorem d1_13 : decode method_3_code 13 = .ok (.invokestatic 7, 3) := by decide +kernel
theorem d1_16 : decode method_3_code 16 = .ok (.iadd, 1) := by decide +kernel
theorem d1_17 : decode method_3_code 17 = .ok (.iload_n 0, 1) := by decide +kernel
theorem d1_18 : decode method_3_code 18 = .ok (.iconst 3, 1) := by decide +kernel
theorem d1_19 : decode method_3_code 19 = .ok (.invokestatic 7, 3) := by decide +kernel
theorem d1_22 : decode method_3_code 22 = .ok (.iadd, 1) := by decide +kernel
theorem d1_23 : decode method_3_code 23 = .ok (.ireturn, 1) := by decide +kernel
theorem ef1 (m : MethodId) (x0 : Int32) : entryFrame m #[(.int x0)] 1 = mkF m 0 #[.val (.int x0)] [] := by first | (simp [entryFrame, mkF, argsToLocals, Value.category]; done) | rfl
def fPop (x0 : Int32) : Int32 := ((((fBit x0 (0 : Int32)) + (fBit x0 (1 : Int32))) + (fBit x0 (2 : Int32))) + (fBit x0 (3 : Int32)))
def rm1 : Room := { frames := 1, cells := 0, slots := 0, locals := 14 }
set_option maxRecDepth 65536 in
set_option maxHeartbeats 40000000 in
theorem cn1 (l : Launch) (Z : State) (a0 : Array Value) (hw : ∀ d ∈ tables_1, d.before a0 Z = true) (x0 : Int32) (h0 : Heap) (n0 : Nat) (hn : n0 ≤ h0.size) :
    Con l (⟨"com/example/rhumb/rhumb/InstanceTagsTagCounts103PinLaw", "pop", "(I)I"⟩ : MethodName) method_3_code 1 (some .int) [] rm1 rm1.cells rm1.slots Z #[(.int x0)] h0 n0 (fun v h => v = some (.int (fPop x0)) ∧ h = h0) := by
  refine Con.of (plainFor_of_name pn2) hn (fun m => ef1 m x0) ?_
  intro p e s m below meth c s₀ hnm G0
  have G1 := G0.iloadN (v := x0) (pc' := 1) d1_0 rfl
  have G2 := G1.iconst (v := (0 : Int32)) (pc' := 2) d1_1
  obtain ⟨v3, h3, ⟨ev3, eh3⟩, g3⟩ := G2.callS (argsL := [(.int x0), (.int (0 : Int32))]) (rest := []) (pc' := 5) (k' := 0) (j' := 0) (cn2 l Z a0 hw x0 (0 : Int32) h0 n0 G2.size) rfl (hw _ (List.mem_of_getElem? (i := 5) rfl)) (hw _ (List.mem_of_getElem? (i := 6) rfl)) (hw _ (List.mem_of_getElem? (i := 3) rfl)) (hw _ (List.mem_of_getElem? (i := 7) rfl)) (by decide) d1_2 pd0 rfl (W := 0) rfl rfl (by decide) (by decide) (by decide) (by decide) rfl rfl rfl
  subst ev3
  rw [eh3] at g3
  have G3 := g3 [(.int (fBit x0 (0 : Int32)))] rfl
  have G4 := G3.iloadN (v := x0) (pc' := 6) d1_5 rfl
  have G5 := G4.iconst (v := (1 : Int32)) (pc' := 7) d1_6
  obtain ⟨v6, h6, ⟨ev6, eh6⟩, g6⟩ := G5.callS (argsL := [(.int x0), (.int (1 : Int32))]) (rest := [(.int (fBit x0 (0 : Int32)))]) (pc' := 10) (k' := 0) (j' := 0) (cn2 l Z a0 hw x0 (1 : Int32) h0 n0 G5.size) rfl (hw _ (List.mem_of_getElem? (i := 5) rfl)) (hw _ (List.mem_of_getElem? (i := 6) rfl)) (hw _ (List.mem_of_getElem? (i := 3) rfl)) (hw _ (List.mem_of_getElem? (i := 7) rfl)) (by decide) d1_7 pd0 rfl (W := 1) rfl rfl (by decide) (by decide) (by decide) (by decide) rfl rfl rfl
  subst ev6
  rw [eh6] at g6
  have G6 := g6 [(.int (fBit x0 (1 : Int32))), (.int (fBit x0 (0 : Int32)))] rfl
  have G7 := G6.iadd (pc' := 11) d1_10
  have G8 := G7.iloadN (v := x0) (pc' := 12) d1_11 rfl
  have G9 := G8.iconst (v := (2 : Int32)) (pc' := 13) d1_12
  obtain ⟨v10, h10, ⟨ev10, eh10⟩, g10⟩ := G9.callS (argsL := [(.int x0), (.int (2 : Int32))]) (rest := [(.int ((fBit x0 (0 : Int32)) + (fBit x0 (1 : Int32))))]) (pc' := 16) (k' := 0) (j' := 0) (cn2 l Z a0 hw x0 (2 : Int32) h0 n0 G9.size) rfl (hw _ (List.mem_of_getElem? (i := 5) rfl)) (hw _ (List.mem_of_getElem? (i := 6) rfl)) (hw _ (List.mem_of_getElem? (i := 3) rfl)) (hw _ (List.mem_of_getElem? (i := 7) rfl)) (by decide) d1_13 pd0 rfl (W := 1) rfl rfl (by decide) (by decide) (by decide) (by decide) rfl rfl rfl
  subst ev10
  rw [eh10] at g10
  have G10 := g10 [(.int (fBit x0 (2 : Int32))), (.int ((fBit x0 (0 : Int32)) + (fBit x0 (1 : Int32))))] rfl
  have G11 := G10.iadd (pc' := 17) d1_16
  have G12 := G11.iloadN (v := x0) (pc' := 18) d1_17 rfl
  have G13 := G12.iconst (v := (3 : Int32)) (pc' := 19) d1_18
  obtain ⟨v14, h14, ⟨ev14, eh14⟩, g14⟩ := G13.callS (argsL := [(.int x0), (.int (3 : Int32))]) (rest := [(.int (((fBit x0 (0 : Int32)) + (fBit x0 (1 : Int32))) + (fBit x0 (2 : Int32))))]) (pc' := 22) (k' := 0) (j' := 0) (cn2 l Z a0 hw x0 (3 : Int32) h0 n0 G13.size) rfl (hw _ (List.mem_of_getElem? (i := 5) rfl)) (hw _ (List.mem_of_getElem? (i := 6) rfl)) (hw _ (List.mem_of_getElem? (i := 3) rfl)) (hw _ (List.mem_of_getElem? (i := 7) rfl)) (by decide) d1_19 pd0 rfl (W := 1) rfl rfl (by decide) (by decide) (by decide) (by decide) rfl rfl rfl
  subst ev14
  rw [eh14] at g14
  have G14 := g14 [(.int (fBit x0 (3 : Int32))), (.int (((fBit x0 (0 : Int32)) + (fBit x0 (1 : Int32))) + (fBit x0 (2 : Int32))))] rfl
  have G15 := G14.iadd (pc' := 23) d1_22
  exact G15.retI d1_23 rfl ⟨congrArg (fun z => some (Value.int z)) (by rw [fPop]), rfl⟩
theorem d3_0 : decode method_4_code 0 = .ok (.iload_n 1, 1) := by decide +kernel
theorem d3_1 : decode method_4_code 1 = .ok (.istore_n 3, 1) := by decide +kernel
theorem d3_2 : decode method_4_code 2 = .ok (.iload_n 2, 1) := by decide +kernel
theorem d3_3 : decode method_4_code 3 = .ok (.iconst 1, 1) := by decide +kernel
theorem d3_4 : decode method_4_code 4 = .ok (.iand, 1) := by decide +kernel
theorem d3_5 : decode method_4_code 5 = .ok (.ifCond .eq 10, 3) := by decide +kernel
theorem d3_8 : decode method_4_code 8 = .ok (.aload_n 0, 1) := by decide +kernel
theorem d3_9 : decode method_4_code 9 = .ok (.iload_n 3, 1) := by decide +kernel
theorem d3_10 : decode method_4_code 10 = .ok (.iconst 0, 1) := by decide +kernel
theorem d3_11 : decode method_4_code 11 = .ok (.iastore, 1) := by decide +kernel
theorem d3_12 : decode method_4_code 12 = .ok (.iinc 3 1, 3) := by decide +kernel
theorem d3_15 : decode method_4_code 15 = .ok (.iload_n 2, 1) := by decide +kernel
theorem d3_16 : decode method_4_code 16 = .ok (.iconst 2, 1) := by decide +kernel
theorem d3_17 : decode method_4_code 17 = .ok (.iand, 1) := by decide +kernel
theorem d3_18 : decode method_4_code 18 = .ok (.ifCond .eq 10, 3) := by decide +kernel
theorem d3_21 : decode method_4_code 21 = .ok (.aload_n 0, 1) := by decide +kernel
theorem d3_22 : decode method_4_code 22 = .ok (.iload_n 3, 1) := by decide +kernel
theorem d3_23 : decode method_4_code 23 = .ok (.iconst 1, 1) := by decide +kernel
theorem d3_24 : decode method_4_code 24 = .ok (.iastore, 1) := by decide +kernel
theorem d3_25 : decode method_4_code 25 = .ok (.iinc 3 1, 3) := by decide +kernel
theorem d3_28 : decode method_4_code 28 = .ok (.iload_n 2, 1) := by decide +kernel
theorem d3_29 : decode method_4_code 29 = .ok (.iconst 4, 1) := by decide +kernel
theorem d3_30 : decode method_4_code 30 = .ok (.iand, 1) := by decide +kernel
theorem d3_31 : decode method_4_code 31 = .ok (.ifCond .eq 10, 3) := by decide +kernel
theorem d3_34 : decode method_4_code 34 = .ok (.aload_n 0, 1) := by decide +kernel
theorem d3_35 : decode method_4_code 35 = .ok (.iload_n 3, 1) := by decide +kernel
theorem d3_36 : decode method_4_code 36 = .ok (.iconst 2, 1) := by decide +kernel
theorem d3_37 : decode method_4_code 37 = .ok (.iastore, 1) := by decide +kernel
theorem d3_38 : decode method_4_code 38 = .ok (.iinc 3 1, 3) := by decide +kernel
theorem d3_41 : decode method_4_code 41 = .ok (.iload_n 2, 1) := by decide +kernel
theorem d3_42 : decode method_4_code 42 = .ok (.bipush 8, 2) := by decide +kernel
theorem d3_44 : decode method_4_code 44 = .ok (.iand, 1) := by decide +kernel
theorem d3_45 : decode method_4_code 45 = .ok (.ifCond .eq 10, 3) := by decide +kernel
theorem d3_48 : decode method_4_code 48 = .ok (.aload_n 0, 1) := by decide +kernel
theorem d3_49 : decode method_4_code 49 = .ok (.iload_n 3, 1) := by decide +kernel
theorem d3_50 : decode method_4_code 50 = .ok (.iconst 3, 1) := by decide +kernel
theorem d3_51 : decode method_4_code 51 = .ok (.iastore, 1) := by decide +kernel
theorem d3_52 : decode method_4_code 52 = .ok (.iinc 3 1, 3) := by decide +kernel
theorem d3_55 : decode method_4_code 55 = .ok (.iload_n 3, 1) := by decide +kernel
theorem d3_56 : decode method_4_code 56 = .ok (.ireturn, 1) := by decide +kernel
def own_bits (x : Int32) : List Nat := (if (x &&& (1 : Int32)) = (0 : Int32) then [] else [0]) ++ (if (x &&& (2 : Int32)) = (0 : Int32) then [] else [1]) ++ (if (x &&& (4 : Int32)) = (0 : Int32) then [] else [2]) ++ (if (x &&& (8 : Int32)) = (0 : Int32) then [] else [3])
theorem ef3 (m : MethodId) (P : List Nat) (ia : Addr) (x2 : Int32) : entryFrame m #[(.ref ia), (.int (Int32.ofNat P.length)), (.int x2)] 4 = mkF m 0 #[.val (.ref ia), .val (.int (Int32.ofNat P.length)), .val (.int x2), .unset] [] := by first | (simp [entryFrame, mkF, argsToLocals, Value.category]; done) | rfl
def rm3 : Room := { frames := 0, cells := 0, slots := 0, locals := 0 }
set_option maxRecDepth 65536 in
set_option maxHeartbeats 40000000 in
theorem cn3 (l : Launch) (Z : State) (a0 : Array Value) (hw : ∀ d ∈ tables_1, d.before a0 Z = true) (P : List Nat) (ia : Addr) (x2 : Int32) (h0 : Heap) (n0 : Nat) (hn : n0 ≤ h0.size) (vs : List Value) (len : Nat) (hlen : len ≤ 20) (V0 : Av Z h0 ia .int vs) (PR0 : own_pre vs len P) (hle : P.length + (own_bits x2).length ≤ len) (g_i : n0 ≤ ia) :
    Con l (⟨"com/example/rhumb/rhumb/InstanceTagsTagCounts103PinLaw", "put", "([III)I"⟩ : MethodName) method_4_code 4 (some .int) [] rm3 rm3.cells rm3.slots Z #[(.ref ia), (.int (Int32.ofNat P.length)), (.int x2)] h0 n0 (fun v h => ∃ vs' : List Value, v = some (.int (Int32.ofNat (P ++ own_bits x2).length)) ∧ Keep h0 h [ia] ∧ Av Z h ia .int vs' ∧ own_pre vs' len (P ++ own_bits x2)) := by
  refine Con.of (plainFor_of_name pn2) hn (fun m => ef3 m P ia x2) ?_
  intro p e s m below meth c s₀ hnm G0
  have K0 : Keep h0 h0 [ia] := Keep.refl _ _
  have hl := hle
  unfold own_bits at hl
  simp only [List.length_append] at hl
  have G1 := G0.iloadN (v := (Int32.ofNat P.length)) (pc' := 1) d3_0 rfl
  have G2 := G1.istoreN (L' := #[.val (.ref ia), .val (.int (Int32.ofNat P.length)), .val (.int x2), .val (.int (Int32.ofNat P.length))]) (pc' := 2) d3_1 rfl
  have G3 := G2.iloadN (v := x2) (pc' := 3) d3_2 rfl
  have G4 := G3.iconst (v := (1 : Int32)) (pc' := 4) d3_3
  have G5 := G4.iand (pc' := 5) d3_4
  by_cases c5_5 : (x2 &&& (1 : Int32)) = (0 : Int32)
  · have G6 := G5.ifY d3_5 15 (Jvm.Free.XT.i0_eq_t c5_5)
    have G7 := G6.iloadN (v := x2) (pc' := 16) d3_15 rfl
    have G8 := G7.iconst (v := (2 : Int32)) (pc' := 17) d3_16
    have G9 := G8.iand (pc' := 18) d3_17
    by_cases c18_9 : (x2 &&& (2 : Int32)) = (0 : Int32)
    · have G10 := G9.ifY d3_18 28 (Jvm.Free.XT.i0_eq_t c18_9)
      have G11 := G10.iloadN (v := x2) (pc' := 29) d3_28 rfl
      have G12 := G11.iconst (v := (4 : Int32)) (pc' := 30) d3_29
      have G13 := G12.iand (pc' := 31) d3_30
      by_cases c31_13 : (x2 &&& (4 : Int32)) = (0 : Int32)
      · have G14 := G13.ifY d3_31 41 (Jvm.Free.XT.i0_eq_t c31_13)
        have G15 := G14.iloadN (v := x2) (pc' := 42) d3_41 rfl
        have G16 := G15.bipush (v := (8 : Int32)) (pc' := 44) d3_42
        have G17 := G16.iand (pc' := 45) d3_44
        by_cases c45_17 : (x2 &&& (8 : Int32)) = (0 : Int32)
        · have G18 := G17.ifY d3_45 55 (Jvm.Free.XT.i0_eq_t c45_17)
          have G19 := G18.iloadN (v := (Int32.ofNat P.length)) (pc' := 56) d3_55 rfl
          have eb : own_bits x2 = [] := by unfold own_bits; rw [if_pos c5_5, if_pos c18_9, if_pos c31_13, if_pos c45_17]; rfl
          exact G19.retI d3_56 rfl ⟨_, by rw [eb, List.length_append]; rfl, K0, V0, by rw [eb]; simpa using PR0⟩
        · have G20 := G17.ifN d3_45 48 (Jvm.Free.XT.i0_eq_f c45_17)
          have G21 := G20.aloadN (v := (.ref ia)) (pc' := 49) d3_48 rfl
          have G22 := G21.iloadN (v := (Int32.ofNat P.length)) (pc' := 50) d3_49 rfl
          have G23 := G22.iconst (v := (3 : Int32)) (pc' := 51) d3_50
          have hq23 : P.length < len := by
            rw [if_pos c5_5] at hl; rw [if_pos c18_9] at hl; rw [if_pos c31_13] at hl; rw [if_neg c45_17] at hl; simp only [List.length_cons, List.length_nil] at hl; omega
          obtain ⟨h24, W24, V24, G24⟩ := G23.stI (i := P.length) (pc' := 52) V0 g_i (own_i _ (by omega)) (by rw [PR0.1]; exact hq23) d3_51
          have K25 : Keep h0 h24 [ia] := K0.wr W24 (Or.inl (List.mem_of_getElem? (i := 0) rfl))
          have PR25 : own_pre (List.set vs (P.length) (.int (3 : Int32))) len (P ++ [3]) := own_preS 3 PR0 hq23
          have G26 := G24.iinc (v := (1 : Int32)) (x := (Int32.ofNat P.length)) (L' := #[.val (.ref ia), .val (.int (Int32.ofNat P.length)), .val (.int x2), .val (.int ((Int32.ofNat P.length) + (1 : Int32)))]) (pc' := 55) d3_52 rfl rfl
          rw [own_a1] at G26
          have G27 := G26.iloadN (v := (Int32.ofNat (P.length + 1))) (pc' := 56) d3_55 rfl
          have eb : own_bits x2 = [3] := by unfold own_bits; rw [if_pos c5_5, if_pos c18_9, if_pos c31_13, if_neg c45_17]; rfl
          exact G27.retI d3_56 rfl ⟨_, by rw [eb, List.length_append]; rfl, K25, V24, by rw [eb]; simpa using PR25⟩
      · have G28 := G13.ifN d3_31 34 (Jvm.Free.XT.i0_eq_f c31_13)
        have G29 := G28.aloadN (v := (.ref ia)) (pc' := 35) d3_34 rfl
        have G30 := G29.iloadN (v := (Int32.ofNat P.length)) (pc' := 36) d3_35 rfl
        have G31 := G30.iconst (v := (2 : Int32)) (pc' := 37) d3_36
        have hq31 : P.length < len := by
          rw [if_pos c5_5] at hl; rw [if_pos c18_9] at hl; rw [if_neg c31_13] at hl; simp only [List.length_cons, List.length_nil] at hl; omega
        obtain ⟨h32, W32, V32, G32⟩ := G31.stI (i := P.length) (pc' := 38) V0 g_i (own_i _ (by omega)) (by rw [PR0.1]; exact hq31) d3_37
        have K33 : Keep h0 h32 [ia] := K0.wr W32 (Or.inl (List.mem_of_getElem? (i := 0) rfl))
        have PR33 : own_pre (List.set vs (P.length) (.int (2 : Int32))) len (P ++ [2]) := own_preS 2 PR0 hq31
        have G34 := G32.iinc (v := (1 : Int32)) (x := (Int32.ofNat P.length)) (L' := #[.val (.ref ia), .val (.int (Int32.ofNat P.length)), .val (.int x2), .val (.int ((Int32.ofNat P.length) + (1 : Int32)))]) (pc' := 41) d3_38 rfl rfl
        rw [own_a1] at G34
        have G35 := G34.iloadN (v := x2) (pc' := 42) d3_41 rfl
        have G36 := G35.bipush (v := (8 : Int32)) (pc' := 44) d3_42
        have G37 := G36.iand (pc' := 45) d3_44
        by_cases c45_37 : (x2 &&& (8 : Int32)) = (0 : Int32)
        · have G38 := G37.ifY d3_45 55 (Jvm.Free.XT.i0_eq_t c45_37)
          have G39 := G38.iloadN (v := (Int32.ofNat (P.length + 1))) (pc' := 56) d3_55 rfl
          have eb : own_bits x2 = [2] := by unfold own_bits; rw [if_pos c5_5, if_pos c18_9, if_neg c31_13, if_pos c45_37]; rfl
          exact G39.retI d3_56 rfl ⟨_, by rw [eb, List.length_append]; rfl, K33, V32, by rw [eb]; simpa using PR33⟩
        · have G40 := G37.ifN d3_45 48 (Jvm.Free.XT.i0_eq_f c45_37)
          have G41 := G40.aloadN (v := (.ref ia)) (pc' := 49) d3_48 rfl
          have G42 := G41.iloadN (v := (Int32.ofNat (P.length + 1))) (pc' := 50) d3_49 rfl
          have G43 := G42.iconst (v := (3 : Int32)) (pc' := 51) d3_50
          have hq43 : (P.length + 1) < len := by
            rw [if_pos c5_5] at hl; rw [if_pos c18_9] at hl; rw [if_neg c31_13] at hl; rw [if_neg c45_37] at hl; simp only [List.length_cons, List.length_nil] at hl; omega
          obtain ⟨h44, W44, V44, G44⟩ := G43.stI (i := (P.length + 1)) (pc' := 52) V32 g_i (own_i _ (by omega)) (by rw [PR33.1]; exact hq43) d3_51
          have K45 : Keep h0 h44 [ia] := K33.wr W44 (Or.inl (List.mem_of_getElem? (i := 0) rfl))
          have PR45 : own_pre (List.set (List.set vs (P.length) (.int (2 : Int32))) ((P.length + 1)) (.int (3 : Int32))) len ((P ++ [2]) ++ [3]) := by
            have z := own_preS 3 PR33 (by rw [show List.length ((P ++ [2]) : List Nat) = P.length + 1 by simp]; exact hq43)
            rw [show List.length ((P ++ [2]) : List Nat) = P.length + 1 by simp] at z
            exact z
          have G46 := G44.iinc (v := (1 : Int32)) (x := (Int32.ofNat (P.length + 1))) (L' := #[.val (.ref ia), .val (.int (Int32.ofNat P.length)), .val (.int x2), .val (.int ((Int32.ofNat (P.length + 1)) + (1 : Int32)))]) (pc' := 55) d3_52 rfl rfl
          rw [own_a1] at G46
          have G47 := G46.iloadN (v := (Int32.ofNat ((P.length + 1) + 1))) (pc' := 56) d3_55 rfl
          have eb : own_bits x2 = [2, 3] := by unfold own_bits; rw [if_pos c5_5, if_pos c18_9, if_neg c31_13, if_neg c45_37]; rfl
          exact G47.retI d3_56 rfl ⟨_, by rw [eb, List.length_append]; rfl, K45, V44, by rw [eb]; simpa using PR45⟩
    · have G48 := G9.ifN d3_18 21 (Jvm.Free.XT.i0_eq_f c18_9)
      have G49 := G48.aloadN (v := (.ref ia)) (pc' := 22) d3_21 rfl
      have G50 := G49.iloadN (v := (Int32.ofNat P.length)) (pc' := 23) d3_22 rfl
      have G51 := G50.iconst (v := (1 : Int32)) (pc' := 24) d3_23
      have hq51 : P.length < len := by
        rw [if_pos c5_5] at hl; rw [if_neg c18_9] at hl; simp only [List.length_cons, List.length_nil] at hl; omega
      obtain ⟨h52, W52, V52, G52⟩ := G51.stI (i := P.length) (pc' := 25) V0 g_i (own_i _ (by omega)) (by rw [PR0.1]; exact hq51) d3_24
      have K53 : Keep h0 h52 [ia] := K0.wr W52 (Or.inl (List.mem_of_getElem? (i := 0) rfl))
      have PR53 : own_pre (List.set vs (P.length) (.int (1 : Int32))) len (P ++ [1]) := own_preS 1 PR0 hq51
      have G54 := G52.iinc (v := (1 : Int32)) (x := (Int32.ofNat P.length)) (L' := #[.val (.ref ia), .val (.int (Int32.ofNat P.length)), .val (.int x2), .val (.int ((Int32.ofNat P.length) + (1 : Int32)))]) (pc' := 28) d3_25 rfl rfl
      rw [own_a1] at G54
      have G55 := G54.iloadN (v := x2) (pc' := 29) d3_28 rfl
      have G56 := G55.iconst (v := (4 : Int32)) (pc' := 30) d3_29
      have G57 := G56.iand (pc' := 31) d3_30
      by_cases c31_57 : (x2 &&& (4 : Int32)) = (0 : Int32)
      · have G58 := G57.ifY d3_31 41 (Jvm.Free.XT.i0_eq_t c31_57)
        have G59 := G58.iloadN (v := x2) (pc' := 42) d3_41 rfl
        have G60 := G59.bipush (v := (8 : Int32)) (pc' := 44) d3_42
        have G61 := G60.iand (pc' := 45) d3_44
        by_cases c45_61 : (x2 &&& (8 : Int32)) = (0 : Int32)
        · have G62 := G61.ifY d3_45 55 (Jvm.Free.XT.i0_eq_t c45_61)
          have G63 := G62.iloadN (v := (Int32.ofNat (P.length + 1))) (pc' := 56) d3_55 rfl
          have eb : own_bits x2 = [1] := by unfold own_bits; rw [if_pos c5_5, if_neg c18_9, if_pos c31_57, if_pos c45_61]; rfl
          exact G63.retI d3_56 rfl ⟨_, by rw [eb, List.length_append]; rfl, K53, V52, by rw [eb]; simpa using PR53⟩
        · have G64 := G61.ifN d3_45 48 (Jvm.Free.XT.i0_eq_f c45_61)
          have G65 := G64.aloadN (v := (.ref ia)) (pc' := 49) d3_48 rfl
          have G66 := G65.iloadN (v := (Int32.ofNat (P.length + 1))) (pc' := 50) d3_49 rfl
          have G67 := G66.iconst (v := (3 : Int32)) (pc' := 51) d3_50
          have hq67 : (P.length + 1) < len := by
            rw [if_pos c5_5] at hl; rw [if_neg c18_9] at hl; rw [if_pos c31_57] at hl; rw [if_neg c45_61] at hl; simp only [List.length_cons, List.length_nil] at hl; omega
          obtain ⟨h68, W68, V68, G68⟩ := G67.stI (i := (P.length + 1)) (pc' := 52) V52 g_i (own_i _ (by omega)) (by rw [PR53.1]; exact hq67) d3_51
          have K69 : Keep h0 h68 [ia] := K53.wr W68 (Or.inl (List.mem_of_getElem? (i := 0) rfl))
          have PR69 : own_pre (List.set (List.set vs (P.length) (.int (1 : Int32))) ((P.length + 1)) (.int (3 : Int32))) len ((P ++ [1]) ++ [3]) := by
            have z := own_preS 3 PR53 (by rw [show List.length ((P ++ [1]) : List Nat) = P.length + 1 by simp]; exact hq67)
            rw [show List.length ((P ++ [1]) : List Nat) = P.length + 1 by simp] at z
            exact z
          have G70 := G68.iinc (v := (1 : Int32)) (x := (Int32.ofNat (P.length + 1))) (L' := #[.val (.ref ia), .val (.int (Int32.ofNat P.length)), .val (.int x2), .val (.int ((Int32.ofNat (P.length + 1)) + (1 : Int32)))]) (pc' := 55) d3_52 rfl rfl
          rw [own_a1] at G70
          have G71 := G70.iloadN (v := (Int32.ofNat ((P.length + 1) + 1))) (pc' := 56) d3_55 rfl
          have eb : own_bits x2 = [1, 3] := by unfold own_bits; rw [if_pos c5_5, if_neg c18_9, if_pos c31_57, if_neg c45_61]; rfl
          exact G71.retI d3_56 rfl ⟨_, by rw [eb, List.length_append]; rfl, K69, V68, by rw [eb]; simpa using PR69⟩
      · have G72 := G57.ifN d3_31 34 (Jvm.Free.XT.i0_eq_f c31_57)
        have G73 := G72.aloadN (v := (.ref ia)) (pc' := 35) d3_34 rfl
        have G74 := G73.iloadN (v := (Int32.ofNat (P.length + 1))) (pc' := 36) d3_35 rfl
        have G75 := G74.iconst (v := (2 : Int32)) (pc' := 37) d3_36
        have hq75 : (P.length + 1) < len := by
          rw [if_pos c5_5] at hl; rw [if_neg c18_9] at hl; rw [if_neg c31_57] at hl; simp only [List.length_cons, List.length_nil] at hl; omega
        obtain ⟨h76, W76, V76, G76⟩ := G75.stI (i := (P.length + 1)) (pc' := 38) V52 g_i (own_i _ (by omega)) (by rw [PR53.1]; exact hq75) d3_37
        have K77 : Keep h0 h76 [ia] := K53.wr W76 (Or.inl (List.mem_of_getElem? (i := 0) rfl))
        have PR77 : own_pre (List.set (List.set vs (P.length) (.int (1 : Int32))) ((P.length + 1)) (.int (2 : Int32))) len ((P ++ [1]) ++ [2]) := by
          have z := own_preS 2 PR53 (by rw [show List.length ((P ++ [1]) : List Nat) = P.length + 1 by simp]; exact hq75)
          rw [show List.length ((P ++ [1]) : List Nat) = P.length + 1 by simp] at z
          exact z
        have G78 := G76.iinc (v := (1 : Int32)) (x := (Int32.ofNat (P.length + 1))) (L' := #[.val (.ref ia), .val (.int (Int32.ofNat P.length)), .val (.int x2), .val (.int ((Int32.ofNat (P.length + 1)) + (1 : Int32)))]) (pc' := 41) d3_38 rfl rfl
        rw [own_a1] at G78
        have G79 := G78.iloadN (v := x2) (pc' := 42) d3_41 rfl
        have G80 := G79.bipush (v := (8 : Int32)) (pc' := 44) d3_42
        have G81 := G80.iand (pc' := 45) d3_44
        by_cases c45_81 : (x2 &&& (8 : Int32)) = (0 : Int32)
        · have G82 := G81.ifY d3_45 55 (Jvm.Free.XT.i0_eq_t c45_81)
          have G83 := G82.iloadN (v := (Int32.ofNat ((P.length + 1) + 1))) (pc' := 56) d3_55 rfl
          have eb : own_bits x2 = [1, 2] := by unfold own_bits; rw [if_pos c5_5, if_neg c18_9, if_neg c31_57, if_pos c45_81]; rfl
          exact G83.retI d3_56 rfl ⟨_, by rw [eb, List.length_append]; rfl, K77, V76, by rw [eb]; simpa using PR77⟩
        · have G84 := G81.ifN d3_45 48 (Jvm.Free.XT.i0_eq_f c45_81)
          have G85 := G84.aloadN (v := (.ref ia)) (pc' := 49) d3_48 rfl
          have G86 := G85.iloadN (v := (Int32.ofNat ((P.length + 1) + 1))) (pc' := 50) d3_49 rfl
          have G87 := G86.iconst (v := (3 : Int32)) (pc' := 51) d3_50
          have hq87 : ((P.length + 1) + 1) < len := by
            rw [if_pos c5_5] at hl; rw [if_neg c18_9] at hl; rw [if_neg c31_57] at hl; rw [if_neg c45_81] at hl; simp only [List.length_cons, List.length_nil] at hl; omega
          obtain ⟨h88, W88, V88, G88⟩ := G87.stI (i := ((P.length + 1) + 1)) (pc' := 52) V76 g_i (own_i _ (by omega)) (by rw [PR77.1]; exact hq87) d3_51
          have K89 : Keep h0 h88 [ia] := K77.wr W88 (Or.inl (List.mem_of_getElem? (i := 0) rfl))
          have PR89 : own_pre (List.set (List.set (List.set vs (P.length) (.int (1 : Int32))) ((P.length + 1)) (.int (2 : Int32))) (((P.length + 1) + 1)) (.int (3 : Int32))) len (((P ++ [1]) ++ [2]) ++ [3]) := by
            have z := own_preS 3 PR77 (by rw [show List.length (((P ++ [1]) ++ [2]) : List Nat) = P.length + 1 + 1 by simp]; exact hq87)
            rw [show List.length (((P ++ [1]) ++ [2]) : List Nat) = P.length + 1 + 1 by simp] at z
            exact z
          have G90 := G88.iinc (v := (1 : Int32)) (x := (Int32.ofNat ((P.length + 1) + 1))) (L' := #[.val (.ref ia), .val (.int (Int32.ofNat P.length)), .val (.int x2), .val (.int ((Int32.ofNat ((P.length + 1) + 1)) + (1 : Int32)))]) (pc' := 55) d3_52 rfl rfl
          rw [own_a1] at G90
          have G91 := G90.iloadN (v := (Int32.ofNat (((P.length + 1) + 1) + 1))) (pc' := 56) d3_55 rfl
          have eb : own_bits x2 = [1, 2, 3] := by unfold own_bits; rw [if_pos c5_5, if_neg c18_9, if_neg c31_57, if_neg c45_81]; rfl
          exact G91.retI d3_56 rfl ⟨_, by rw [eb, List.length_append]; rfl, K89, V88, by rw [eb]; simpa using PR89⟩
  · have G92 := G5.ifN d3_5 8 (Jvm.Free.XT.i0_eq_f c5_5)
    have G93 := G92.aloadN (v := (.ref ia)) (pc' := 9) d3_8 rfl
    have G94 := G93.iloadN (v := (Int32.ofNat P.length)) (pc' := 10) d3_9 rfl
    have G95 := G94.iconst (v := (0 : Int32)) (pc' := 11) d3_10
    have hq95 : P.length < len := by
      rw [if_neg c5_5] at hl; simp only [List.length_cons, List.length_nil] at hl; omega
    obtain ⟨h96, W96, V96, G96⟩ := G95.stI (i := P.length) (pc' := 12) V0 g_i (own_i _ (by omega)) (by rw [PR0.1]; exact hq95) d3_11
    have K97 : Keep h0 h96 [ia] := K0.wr W96 (Or.inl (List.mem_of_getElem? (i := 0) rfl))
    have PR97 : own_pre (List.set vs (P.length) (.int (0 : Int32))) len (P ++ [0]) := own_preS 0 PR0 hq95
    have G98 := G96.iinc (v := (1 : Int32)) (x := (Int32.ofNat P.length)) (L' := #[.val (.ref ia), .val (.int (Int32.ofNat P.length)), .val (.int x2), .val (.int ((Int32.ofNat P.length) + (1 : Int32)))]) (pc' := 15) d3_12 rfl rfl
    rw [own_a1] at G98
    have G99 := G98.iloadN (v := x2) (pc' := 16) d3_15 rfl
    have G100 := G99.iconst (v := (2 : Int32)) (pc' := 17) d3_16
    have G101 := G100.iand (pc' := 18) d3_17
    by_cases c18_101 : (x2 &&& (2 : Int32)) = (0 : Int32)
    · have G102 := G101.ifY d3_18 28 (Jvm.Free.XT.i0_eq_t c18_101)
      have G103 := G102.iloadN (v := x2) (pc' := 29) d3_28 rfl
      have G104 := G103.iconst (v := (4 : Int32)) (pc' := 30) d3_29
      have G105 := G104.iand (pc' := 31) d3_30
      by_cases c31_105 : (x2 &&& (4 : Int32)) = (0 : Int32)
      · have G106 := G105.ifY d3_31 41 (Jvm.Free.XT.i0_eq_t c31_105)
        have G107 := G106.iloadN (v := x2) (pc' := 42) d3_41 rfl
        have G108 := G107.bipush (v := (8 : Int32)) (pc' := 44) d3_42
        have G109 := G108.iand (pc' := 45) d3_44
        by_cases c45_109 : (x2 &&& (8 : Int32)) = (0 : Int32)
        · have G110 := G109.ifY d3_45 55 (Jvm.Free.XT.i0_eq_t c45_109)
          have G111 := G110.iloadN (v := (Int32.ofNat (P.length + 1))) (pc' := 56) d3_55 rfl
          have eb : own_bits x2 = [0] := by unfold own_bits; rw [if_neg c5_5, if_pos c18_101, if_pos c31_105, if_pos c45_109]; rfl
          exact G111.retI d3_56 rfl ⟨_, by rw [eb, List.length_append]; rfl, K97, V96, by rw [eb]; simpa using PR97⟩
        · have G112 := G109.ifN d3_45 48 (Jvm.Free.XT.i0_eq_f c45_109)
          have G113 := G112.aloadN (v := (.ref ia)) (pc' := 49) d3_48 rfl
          have G114 := G113.iloadN (v := (Int32.ofNat (P.length + 1))) (pc' := 50) d3_49 rfl
          have G115 := G114.iconst (v := (3 : Int32)) (pc' := 51) d3_50
          have hq115 : (P.length + 1) < len := by
            rw [if_neg c5_5] at hl; rw [if_pos c18_101] at hl; rw [if_pos c31_105] at hl; rw [if_neg c45_109] at hl; simp only [List.length_cons, List.length_nil] at hl; omega
          obtain ⟨h116, W116, V116, G116⟩ := G115.stI (i := (P.length + 1)) (pc' := 52) V96 g_i (own_i _ (by omega)) (by rw [PR97.1]; exact hq115) d3_51
          have K117 : Keep h0 h116 [ia] := K97.wr W116 (Or.inl (List.mem_of_getElem? (i := 0) rfl))
          have PR117 : own_pre (List.set (List.set vs (P.length) (.int (0 : Int32))) ((P.length + 1)) (.int (3 : Int32))) len ((P ++ [0]) ++ [3]) := by
            have z := own_preS 3 PR97 (by rw [show List.length ((P ++ [0]) : List Nat) = P.length + 1 by simp]; exact hq115)
            rw [show List.length ((P ++ [0]) : List Nat) = P.length + 1 by simp] at z
            exact z
          have G118 := G116.iinc (v := (1 : Int32)) (x := (Int32.ofNat (P.length + 1))) (L' := #[.val (.ref ia), .val (.int (Int32.ofNat P.length)), .val (.int x2), .val (.int ((Int32.ofNat (P.length + 1)) + (1 : Int32)))]) (pc' := 55) d3_52 rfl rfl
          rw [own_a1] at G118
          have G119 := G118.iloadN (v := (Int32.ofNat ((P.length + 1) + 1))) (pc' := 56) d3_55 rfl
          have eb : own_bits x2 = [0, 3] := by unfold own_bits; rw [if_neg c5_5, if_pos c18_101, if_pos c31_105, if_neg c45_109]; rfl
          exact G119.retI d3_56 rfl ⟨_, by rw [eb, List.length_append]; rfl, K117, V116, by rw [eb]; simpa using PR117⟩
      · have G120 := G105.ifN d3_31 34 (Jvm.Free.XT.i0_eq_f c31_105)
        have G121 := G120.aloadN (v := (.ref ia)) (pc' := 35) d3_34 rfl
        have G122 := G121.iloadN (v := (Int32.ofNat (P.length + 1))) (pc' := 36) d3_35 rfl
        have G123 := G122.iconst (v := (2 : Int32)) (pc' := 37) d3_36
        have hq123 : (P.length + 1) < len := by
          rw [if_neg c5_5] at hl; rw [if_pos c18_101] at hl; rw [if_neg c31_105] at hl; simp only [List.length_cons, List.length_nil] at hl; omega
        obtain ⟨h124, W124, V124, G124⟩ := G123.stI (i := (P.length + 1)) (pc' := 38) V96 g_i (own_i _ (by omega)) (by rw [PR97.1]; exact hq123) d3_37
        have K125 : Keep h0 h124 [ia] := K97.wr W124 (Or.inl (List.mem_of_getElem? (i := 0) rfl))
        have PR125 : own_pre (List.set (List.set vs (P.length) (.int (0 : Int32))) ((P.length + 1)) (.int (2 : Int32))) len ((P ++ [0]) ++ [2]) := by
          have z := own_preS 2 PR97 (by rw [show List.length ((P ++ [0]) : List Nat) = P.length + 1 by simp]; exact hq123)
          rw [show List.length ((P ++ [0]) : List Nat) = P.length + 1 by simp] at z
          exact z
        have G126 := G124.iinc (v := (1 : Int32)) (x := (Int32.ofNat (P.length + 1))) (L' := #[.val (.ref ia), .val (.int (Int32.ofNat P.length)), .val (.int x2), .val (.int ((Int32.ofNat (P.length + 1)) + (1 : Int32)))]) (pc' := 41) d3_38 rfl rfl
        rw [own_a1] at G126
        have G127 := G126.iloadN (v := x2) (pc' := 42) d3_41 rfl
        have G128 := G127.bipush (v := (8 : Int32)) (pc' := 44) d3_42
        have G129 := G128.iand (pc' := 45) d3_44
        by_cases c45_129 : (x2 &&& (8 : Int32)) = (0 : Int32)
        · have G130 := G129.ifY d3_45 55 (Jvm.Free.XT.i0_eq_t c45_129)
          have G131 := G130.iloadN (v := (Int32.ofNat ((P.length + 1) + 1))) (pc' := 56) d3_55 rfl
          have eb : own_bits x2 = [0, 2] := by unfold own_bits; rw [if_neg c5_5, if_pos c18_101, if_neg c31_105, if_pos c45_129]; rfl
          exact G131.retI d3_56 rfl ⟨_, by rw [eb, List.length_append]; rfl, K125, V124, by rw [eb]; simpa using PR125⟩
        · have G132 := G129.ifN d3_45 48 (Jvm.Free.XT.i0_eq_f c45_129)
          have G133 := G132.aloadN (v := (.ref ia)) (pc' := 49) d3_48 rfl
          have G134 := G133.iloadN (v := (Int32.ofNat ((P.length + 1) + 1))) (pc' := 50) d3_49 rfl
          have G135 := G134.iconst (v := (3 : Int32)) (pc' := 51) d3_50
          have hq135 : ((P.length + 1) + 1) < len := by
            rw [if_neg c5_5] at hl; rw [if_pos c18_101] at hl; rw [if_neg c31_105] at hl; rw [if_neg c45_129] at hl; simp only [List.length_cons, List.length_nil] at hl; omega
          obtain ⟨h136, W136, V136, G136⟩ := G135.stI (i := ((P.length + 1) + 1)) (pc' := 52) V124 g_i (own_i _ (by omega)) (by rw [PR125.1]; exact hq135) d3_51
          have K137 : Keep h0 h136 [ia] := K125.wr W136 (Or.inl (List.mem_of_getElem? (i := 0) rfl))
          have PR137 : own_pre (List.set (List.set (List.set vs (P.length) (.int (0 : Int32))) ((P.length + 1)) (.int (2 : Int32))) (((P.length + 1) + 1)) (.int (3 : Int32))) len (((P ++ [0]) ++ [2]) ++ [3]) := by
            have z := own_preS 3 PR125 (by rw [show List.length (((P ++ [0]) ++ [2]) : List Nat) = P.length + 1 + 1 by simp]; exact hq135)
            rw [show List.length (((P ++ [0]) ++ [2]) : List Nat) = P.length + 1 + 1 by simp] at z
            exact z
          have G138 := G136.iinc (v := (1 : Int32)) (x := (Int32.ofNat ((P.length + 1) + 1))) (L' := #[.val (.ref ia), .val (.int (Int32.ofNat P.length)), .val (.int x2), .val (.int ((Int32.ofNat ((P.length + 1) + 1)) + (1 : Int32)))]) (pc' := 55) d3_52 rfl rfl
          rw [own_a1] at G138
          have G139 := G138.iloadN (v := (Int32.ofNat (((P.length + 1) + 1) + 1))) (pc' := 56) d3_55 rfl
          have eb : own_bits x2 = [0, 2, 3] := by unfold own_bits; rw [if_neg c5_5, if_pos c18_101, if_neg c31_105, if_neg c45_129]; rfl
          exact G139.retI d3_56 rfl ⟨_, by rw [eb, List.length_append]; rfl, K137, V136, by rw [eb]; simpa using PR137⟩
    · have G140 := G101.ifN d3_18 21 (Jvm.Free.XT.i0_eq_f c18_101)
      have G141 := G140.aloadN (v := (.ref ia)) (pc' := 22) d3_21 rfl
      have G142 := G141.iloadN (v := (Int32.ofNat (P.length + 1))) (pc' := 23) d3_22 rfl
      have G143 := G142.iconst (v := (1 : Int32)) (pc' := 24) d3_23
      have hq143 : (P.length + 1) < len := by
        rw [if_neg c5_5] at hl; rw [if_neg c18_101] at hl; simp only [List.length_cons, List.length_nil] at hl; omega
      obtain ⟨h144, W144, V144, G144⟩ := G143.stI (i := (P.length + 1)) (pc' := 25) V96 g_i (own_i _ (by omega)) (by rw [PR97.1]; exact hq143) d3_24
      have K145 : Keep h0 h144 [ia] := K97.wr W144 (Or.inl (List.mem_of_getElem? (i := 0) rfl))
      have PR145 : own_pre (List.set (List.set vs (P.length) (.int (0 : Int32))) ((P.length + 1)) (.int (1 : Int32))) len ((P ++ [0]) ++ [1]) := by
        have z := own_preS 1 PR97 (by rw [show List.length ((P ++ [0]) : List Nat) = P.length + 1 by simp]; exact hq143)
        rw [show List.length ((P ++ [0]) : List Nat) = P.length + 1 by simp] at z
        exact z
      have G146 := G144.iinc (v := (1 : Int32)) (x := (Int32.ofNat (P.length + 1))) (L' := #[.val (.ref ia), .val (.int (Int32.ofNat P.length)), .val (.int x2), .val (.int ((Int32.ofNat (P.length + 1)) + (1 : Int32)))]) (pc' := 28) d3_25 rfl rfl
      rw [own_a1] at G146
      have G147 := G146.iloadN (v := x2) (pc' := 29) d3_28 rfl
      have G148 := G147.iconst (v := (4 : Int32)) (pc' := 30) d3_29
      have G149 := G148.iand (pc' := 31) d3_30
      by_cases c31_149 : (x2 &&& (4 : Int32)) = (0 : Int32)
      · have G150 := G149.ifY d3_31 41 (Jvm.Free.XT.i0_eq_t c31_149)
        have G151 := G150.iloadN (v := x2) (pc' := 42) d3_41 rfl
        have G152 := G151.bipush (v := (8 : Int32)) (pc' := 44) d3_42
        have G153 := G152.iand (pc' := 45) d3_44
        by_cases c45_153 : (x2 &&& (8 : Int32)) = (0 : Int32)
        · have G154 := G153.ifY d3_45 55 (Jvm.Free.XT.i0_eq_t c45_153)
          have G155 := G154.iloadN (v := (Int32.ofNat ((P.length + 1) + 1))) (pc' := 56) d3_55 rfl
          have eb : own_bits x2 = [0, 1] := by unfold own_bits; rw [if_neg c5_5, if_neg c18_101, if_pos c31_149, if_pos c45_153]; rfl
          exact G155.retI d3_56 rfl ⟨_, by rw [eb, List.length_append]; rfl, K145, V144, by rw [eb]; simpa using PR145⟩
        · have G156 := G153.ifN d3_45 48 (Jvm.Free.XT.i0_eq_f c45_153)
          have G157 := G156.aloadN (v := (.ref ia)) (pc' := 49) d3_48 rfl
          have G158 := G157.iloadN (v := (Int32.ofNat ((P.length + 1) + 1))) (pc' := 50) d3_49 rfl
          have G159 := G158.iconst (v := (3 : Int32)) (pc' := 51) d3_50
          have hq159 : ((P.length + 1) + 1) < len := by
            rw [if_neg c5_5] at hl; rw [if_neg c18_101] at hl; rw [if_pos c31_149] at hl; rw [if_neg c45_153] at hl; simp only [List.length_cons, List.length_nil] at hl; omega
          obtain ⟨h160, W160, V160, G160⟩ := G159.stI (i := ((P.length + 1) + 1)) (pc' := 52) V144 g_i (own_i _ (by omega)) (by rw [PR145.1]; exact hq159) d3_51
          have K161 : Keep h0 h160 [ia] := K145.wr W160 (Or.inl (List.mem_of_getElem? (i := 0) rfl))
          have PR161 : own_pre (List.set (List.set (List.set vs (P.length) (.int (0 : Int32))) ((P.length + 1)) (.int (1 : Int32))) (((P.length + 1) + 1)) (.int (3 : Int32))) len (((P ++ [0]) ++ [1]) ++ [3]) := by
            have z := own_preS 3 PR145 (by rw [show List.length (((P ++ [0]) ++ [1]) : List Nat) = P.length + 1 + 1 by simp]; exact hq159)
            rw [show List.length (((P ++ [0]) ++ [1]) : List Nat) = P.length + 1 + 1 by simp] at z
            exact z
          have G162 := G160.iinc (v := (1 : Int32)) (x := (Int32.ofNat ((P.length + 1) + 1))) (L' := #[.val (.ref ia), .val (.int (Int32.ofNat P.length)), .val (.int x2), .val (.int ((Int32.ofNat ((P.length + 1) + 1)) + (1 : Int32)))]) (pc' := 55) d3_52 rfl rfl
          rw [own_a1] at G162
          have G163 := G162.iloadN (v := (Int32.ofNat (((P.length + 1) + 1) + 1))) (pc' := 56) d3_55 rfl
          have eb : own_bits x2 = [0, 1, 3] := by unfold own_bits; rw [if_neg c5_5, if_neg c18_101, if_pos c31_149, if_neg c45_153]; rfl
          exact G163.retI d3_56 rfl ⟨_, by rw [eb, List.length_append]; rfl, K161, V160, by rw [eb]; simpa using PR161⟩
      · have G164 := G149.ifN d3_31 34 (Jvm.Free.XT.i0_eq_f c31_149)
        have G165 := G164.aloadN (v := (.ref ia)) (pc' := 35) d3_34 rfl
        have G166 := G165.iloadN (v := (Int32.ofNat ((P.length + 1) + 1))) (pc' := 36) d3_35 rfl
        have G167 := G166.iconst (v := (2 : Int32)) (pc' := 37) d3_36
        have hq167 : ((P.length + 1) + 1) < len := by
          rw [if_neg c5_5] at hl; rw [if_neg c18_101] at hl; rw [if_neg c31_149] at hl; simp only [List.length_cons, List.length_nil] at hl; omega
        obtain ⟨h168, W168, V168, G168⟩ := G167.stI (i := ((P.length + 1) + 1)) (pc' := 38) V144 g_i (own_i _ (by omega)) (by rw [PR145.1]; exact hq167) d3_37
        have K169 : Keep h0 h168 [ia] := K145.wr W168 (Or.inl (List.mem_of_getElem? (i := 0) rfl))
        have PR169 : own_pre (List.set (List.set (List.set vs (P.length) (.int (0 : Int32))) ((P.length + 1)) (.int (1 : Int32))) (((P.length + 1) + 1)) (.int (2 : Int32))) len (((P ++ [0]) ++ [1]) ++ [2]) := by
          have z := own_preS 2 PR145 (by rw [show List.length (((P ++ [0]) ++ [1]) : List Nat) = P.length + 1 + 1 by simp]; exact hq167)
          rw [show List.length (((P ++ [0]) ++ [1]) : List Nat) = P.length + 1 + 1 by simp] at z
          exact z
        have G170 := G168.iinc (v := (1 : Int32)) (x := (Int32.ofNat ((P.length + 1) + 1))) (L' := #[.val (.ref ia), .val (.int (Int32.ofNat P.length)), .val (.int x2), .val (.int ((Int32.ofNat ((P.length + 1) + 1)) + (1 : Int32)))]) (pc' := 41) d3_38 rfl rfl
        rw [own_a1] at G170
        have G171 := G170.iloadN (v := x2) (pc' := 42) d3_41 rfl
        have G172 := G171.bipush (v := (8 : Int32)) (pc' := 44) d3_42
        have G173 := G172.iand (pc' := 45) d3_44
        by_cases c45_173 : (x2 &&& (8 : Int32)) = (0 : Int32)
        · have G174 := G173.ifY d3_45 55 (Jvm.Free.XT.i0_eq_t c45_173)
          have G175 := G174.iloadN (v := (Int32.ofNat (((P.length + 1) + 1) + 1))) (pc' := 56) d3_55 rfl
          have eb : own_bits x2 = [0, 1, 2] := by unfold own_bits; rw [if_neg c5_5, if_neg c18_101, if_neg c31_149, if_pos c45_173]; rfl
          exact G175.retI d3_56 rfl ⟨_, by rw [eb, List.length_append]; rfl, K169, V168, by rw [eb]; simpa using PR169⟩
        · have G176 := G173.ifN d3_45 48 (Jvm.Free.XT.i0_eq_f c45_173)
          have G177 := G176.aloadN (v := (.ref ia)) (pc' := 49) d3_48 rfl
          have G178 := G177.iloadN (v := (Int32.ofNat (((P.length + 1) + 1) + 1))) (pc' := 50) d3_49 rfl
          have G179 := G178.iconst (v := (3 : Int32)) (pc' := 51) d3_50
          have hq179 : (((P.length + 1) + 1) + 1) < len := by
            rw [if_neg c5_5] at hl; rw [if_neg c18_101] at hl; rw [if_neg c31_149] at hl; rw [if_neg c45_173] at hl; simp only [List.length_cons, List.length_nil] at hl; omega
          obtain ⟨h180, W180, V180, G180⟩ := G179.stI (i := (((P.length + 1) + 1) + 1)) (pc' := 52) V168 g_i (own_i _ (by omega)) (by rw [PR169.1]; exact hq179) d3_51
          have K181 : Keep h0 h180 [ia] := K169.wr W180 (Or.inl (List.mem_of_getElem? (i := 0) rfl))
          have PR181 : own_pre (List.set (List.set (List.set (List.set vs (P.length) (.int (0 : Int32))) ((P.length + 1)) (.int (1 : Int32))) (((P.length + 1) + 1)) (.int (2 : Int32))) ((((P.length + 1) + 1) + 1)) (.int (3 : Int32))) len ((((P ++ [0]) ++ [1]) ++ [2]) ++ [3]) := by
            have z := own_preS 3 PR169 (by rw [show List.length ((((P ++ [0]) ++ [1]) ++ [2]) : List Nat) = P.length + 1 + 1 + 1 by simp]; exact hq179)
            rw [show List.length ((((P ++ [0]) ++ [1]) ++ [2]) : List Nat) = P.length + 1 + 1 + 1 by simp] at z
            exact z
          have G182 := G180.iinc (v := (1 : Int32)) (x := (Int32.ofNat (((P.length + 1) + 1) + 1))) (L' := #[.val (.ref ia), .val (.int (Int32.ofNat P.length)), .val (.int x2), .val (.int ((Int32.ofNat (((P.length + 1) + 1) + 1)) + (1 : Int32)))]) (pc' := 55) d3_52 rfl rfl
          rw [own_a1] at G182
          have G183 := G182.iloadN (v := (Int32.ofNat ((((P.length + 1) + 1) + 1) + 1))) (pc' := 56) d3_55 rfl
          have eb : own_bits x2 = [0, 1, 2, 3] := by unfold own_bits; rw [if_neg c5_5, if_neg c18_101, if_neg c31_149, if_neg c45_173]; rfl
          exact G183.retI d3_56 rfl ⟨_, by rw [eb, List.length_append]; rfl, K181, V180, by rw [eb]; simpa using PR181⟩
theorem d13_0 : decode prog_15_method_11_code 0 = .ok (.aload_n 0, 1) := by decide +kernel
theorem d13_1 : decode prog_15_method_11_code 1 = .ok (.getfield 24, 3) := by decide +kernel
theorem d13_4 : decode prog_15_method_11_code 4 = .ok (.iload_n 1, 1) := by decide +kernel
theorem d13_5 : decode prog_15_method_11_code 5 = .ok (.iconst 1, 1) := by decide +kernel
theorem d13_6 : decode prog_15_method_11_code 6 = .ok (.iadd, 1) := by decide +kernel
theorem d13_7 : decode prog_15_method_11_code 7 = .ok (.iaload, 1) := by decide +kernel
theorem d13_8 : decode prog_15_method_11_code 8 = .ok (.aload_n 0, 1) := by decide +kernel
theorem d13_9 : decode prog_15_method_11_code 9 = .ok (.getfield 24, 3) := by decide +kernel
theorem d13_12 : decode prog_15_method_11_code 12 = .ok (.iload_n 1, 1) := by decide +kernel
theorem d13_13 : decode prog_15_method_11_code 13 = .ok (.iaload, 1) := by decide +kernel
theorem d13_14 : decode prog_15_method_11_code 14 = .ok (.isub, 1) := by decide +kernel
theorem d13_15 : decode prog_15_method_11_code 15 = .ok (.ireturn, 1) := by decide +kernel
theorem own_it (I : Nat → Nat) (M t : Nat) (hM : M ≤ 20) : Int32.ofNat (own_ps I M (t + 1)) - Int32.ofNat (own_ps I M t) = Int32.ofNat (own_cn I M t) := by
  have e := own_pss I t M
  have l := own_psl I (t + 1) M
  rw [own_sb _ _ (by omega) (by omega), e, Nat.add_sub_cancel_left]
def own_gT (I : Nat → Nat) (M i t : Nat) : Nat := if t < i then own_cn I M t else 0
theorem own_gTs (I : Nat → Nat) (M i t : Nat) : (if t = i then own_cn I M i else own_gT I M i t) = own_gT I M (i + 1) t := by
  unfold own_gT
  by_cases q : t = i
  · subst q; rw [if_pos rfl, if_pos (by omega)]
  · rw [if_neg q]
    by_cases r : t < i
    · rw [if_pos r, if_pos (by omega)]
    · rw [if_neg r, if_neg (by omega)]
theorem ef13 (m : MethodId) (t : Nat) (a : Addr) : entryFrame m #[(.ref a), (.int (Int32.ofNat t))] 2 = mkF m 0 #[.val (.ref a), .val (.int (Int32.ofNat t))] [] := by first | (simp [entryFrame, mkF, argsToLocals, Value.category]; done) | rfl
def rm13 : Room := { frames := 0, cells := 0, slots := 0, locals := 0 }
set_option maxRecDepth 65536 in
set_option maxHeartbeats 40000000 in
theorem cn13 (l : Launch) (Z : State) (a0 : Array Value) (hw : ∀ d ∈ tables_1, d.before a0 Z = true) (t : Nat) (a : Addr) (h0 : Heap) (n0 : Nat) (hn : n0 ≤ h0.size) (ca : Addr) (vC : List Value) (tc M : Nat) (I : Nat → Nat) (F0 : Fld Z h0 a "com/example/rhumb/rhumb/InstanceTags" "instanceStart" "[I" (.ref ca)) (VC : Av Z h0 ca .int vC) (AC : own_A vC (tc + 1) (own_ps I M)) (htc : tc ≤ 4) (hM : M ≤ 20) (ht : t < tc) :
    Con l (⟨"com/example/rhumb/rhumb/InstanceTags", "instancesOfTag", "(I)I"⟩ : MethodName) prog_15_method_11_code 2 (some .int) [] rm13 rm13.cells rm13.slots Z #[(.ref a), (.int (Int32.ofNat t))] h0 n0 (fun v h => v = some (.int (Int32.ofNat (own_cn I M t))) ∧ h = h0) := by
  refine Con.of (plainFor_of_name pn0) hn (fun m => ef13 m t a) ?_
  intro p e s m below meth c s₀ hnm G0
  have G1 := G0.aloadN (v := (.ref a)) (pc' := 1) d13_0 rfl
  have G2 := G1.getF (pc' := 4) (v := (.ref ca)) (host := "") (Or.inl (hw _ (List.mem_of_getElem? (i := 30) rfl))) Via.refl F0 d13_1
  have G3 := G2.iloadN (v := (Int32.ofNat t)) (pc' := 5) d13_4 rfl
  have G4 := G3.iconst (v := (1 : Int32)) (pc' := 6) d13_5
  have G5 := G4.iadd (pc' := 7) d13_6
  rw [own_a1] at G5
  have G6 := G5.ldI (i := (t + 1)) (v := (.int (Int32.ofNat (own_ps I M (t + 1))))) (pc' := 8) VC (own_i _ (by omega)) (AC.2 _ (by omega)) d13_7
  have G7 := G6.aloadN (v := (.ref a)) (pc' := 9) d13_8 rfl
  have G8 := G7.getF (pc' := 12) (v := (.ref ca)) (host := "") (Or.inl (hw _ (List.mem_of_getElem? (i := 30) rfl))) Via.refl F0 d13_9
  have G9 := G8.iloadN (v := (Int32.ofNat t)) (pc' := 13) d13_12 rfl
  have G10 := G9.ldI (i := t) (v := (.int (Int32.ofNat (own_ps I M t)))) (pc' := 14) VC (own_i _ (by omega)) (AC.2 _ (by omega)) d13_13
  have G11 := G10.isub (pc' := 15) d13_14
  rw [own_it I M t hM] at G11
  exact G11.retI d13_15 rfl ⟨rfl, rfl⟩
theorem d11_0 : decode prog_15_method_8_code 0 = .ok (.aload_n 0, 1) := by decide +kernel
theorem d11_1 : decode prog_15_method_8_code 1 = .ok (.getfield 13, 3) := by decide +kernel
theorem d11_4 : decode prog_15_method_8_code 4 = .ok (.newarray .int, 2) := by decide +kernel
theorem d11_6 : decode prog_15_method_8_code 6 = .ok (.astore_n 1, 1) := by decide +kernel
theorem d11_7 : decode prog_15_method_8_code 7 = .ok (.iconst 0, 1) := by decide +kernel
theorem d11_8 : decode prog_15_method_8_code 8 = .ok (.istore_n 2, 1) := by decide +kernel
theorem d11_9 : decode prog_15_method_8_code 9 = .ok (.iload_n 2, 1) := by decide +kernel
theorem d11_10 : decode prog_15_method_8_code 10 = .ok (.aload_n 0, 1) := by decide +kernel
theorem d11_11 : decode prog_15_method_8_code 11 = .ok (.getfield 13, 3) := by decide +kernel
theorem d11_14 : decode prog_15_method_8_code 14 = .ok (.if_icmp .ge 17, 3) := by decide +kernel
theorem d11_17 : decode prog_15_method_8_code 17 = .ok (.aload_n 1, 1) := by decide +kernel
theorem d11_18 : decode prog_15_method_8_code 18 = .ok (.iload_n 2, 1) := by decide +kernel
theorem d11_19 : decode prog_15_method_8_code 19 = .ok (.aload_n 0, 1) := by decide +kernel
theorem d11_20 : decode prog_15_method_8_code 20 = .ok (.iload_n 2, 1) := by decide +kernel
theorem d11_21 : decode prog_15_method_8_code 21 = .ok (.invokevirtual 72, 3) := by decide +kernel
theorem d11_24 : decode prog_15_method_8_code 24 = .ok (.iastore, 1) := by decide +kernel
theorem d11_25 : decode prog_15_method_8_code 25 = .ok (.iinc 2 1, 3) := by decide +kernel
theorem d11_28 : decode prog_15_method_8_code 28 = .ok (.goto (-19), 3) := by decide +kernel
theorem d11_31 : decode prog_15_method_8_code 31 = .ok (.aload_n 1, 1) := by decide +kernel
theorem d11_32 : decode prog_15_method_8_code 32 = .ok (.areturn, 1) := by decide +kernel
theorem pd5 : parseMethodDescriptor "(I)I" = some ⟨[.int], some .int⟩ := by decide +kernel
set_option maxRecDepth 65536 in
set_option maxHeartbeats 40000000 in
theorem own_tcL (p : Program) (l : Launch) (e : Env) (R : Room) (s : State) (m : MethodId) (args : Array Value) (below : List Frame) (meth : Method) (c : Code) (Z : State) (a0 : Array Value) (hw : ∀ d ∈ tables_1, d.before a0 Z = true) (n0 : Nat) (s₀ : State) (h0 : Heap) (k j : Nat) (tc M : Nat) (I : Nat → Nat) (htc : tc ≤ 4) (hM : M ≤ 20) (a ca ra : Addr) (vC : List Value) (E0 : Exa Z h0 a "com/example/rhumb/rhumb/InstanceTags") (F1 : Fld Z h0 a "com/example/rhumb/rhumb/InstanceTags" "tagCount" "I" (.int (Int32.ofNat tc))) (F0 : Fld Z h0 a "com/example/rhumb/rhumb/InstanceTags" "instanceStart" "[I" (.ref ca)) (VC : Av Z h0 ca .int vC) (AC : own_A vC (tc + 1) (own_ps I M)) (g_r : n0 ≤ ra) (ne_ar : a ≠ ra) (ne_cr : ca ≠ ra) (hRf : 1 ≤ R.frames) (hRl : 15 ≤ R.locals) (hkR : k ≤ R.cells) (hjR : j ≤ R.slots) : ∀ (q i : Nat) (hh : Heap) (vr : List Value), i + q = tc → Keep h0 hh [ra] → Av Z hh ra .int vr → own_A vr tc (own_gT I M i) → Go p l e R s m args below meth c Z "com/example/rhumb/rhumb/InstanceTags" prog_15_method_8_code 3 (some (.array .int)) n0 s₀ hh k j 9 #[.val (.ref a), .val (.ref ra), .val (.int (Int32.ofNat i))] [] → ∃ hh' vr', Keep h0 hh' [ra] ∧ Av Z hh' ra .int vr' ∧ own_A vr' tc (own_gT I M tc) ∧ Go p l e R s m args below meth c Z "com/example/rhumb/rhumb/InstanceTags" prog_15_method_8_code 3 (some (.array .int)) n0 s₀ hh' k j 31 #[.val (.ref a), .val (.ref ra), .val (.int (Int32.ofNat tc))] [] := by
  intro q
  induction q with
  | zero =>
    intro i hh vr hq Kp VR AR G0
    have B1 : Exa Z hh a "com/example/rhumb/rhumb/InstanceTags" := E0.keep Kp
    have B2 : Fld Z hh a "com/example/rhumb/rhumb/InstanceTags" "tagCount" "I" (.int (Int32.ofNat tc)) := F1.keep Kp (ninS ne_ar nin0)
    have B3 : Fld Z hh a "com/example/rhumb/rhumb/InstanceTags" "instanceStart" "[I" (.ref ca) := F0.keep Kp (ninS ne_ar nin0)
    have B4 : Av Z hh ca .int vC := VC.keep Kp (ninS ne_cr nin0)
    have G5 := G0.iloadN (v := (Int32.ofNat i)) (pc' := 10) d11_9 rfl
    have G6 := G5.aloadN (v := (.ref a)) (pc' := 11) d11_10 rfl
    have G7 := G6.getF (pc' := 14) (v := (.int (Int32.ofNat tc))) (host := "") (Or.inl (hw _ (List.mem_of_getElem? (i := 24) rfl))) Via.refl B2 d11_11
    have G8 := G7.icmpY d11_14 31 (Jvm.Free.XT.ii_ge_t (fun q => by have := (own_lt _ _ (by omega) (by omega)).mp q; omega))
    obtain rfl : i = tc := by omega
    exact ⟨_, _, Kp, VR, AR, G8⟩
  | succ q ih =>
    intro i hh vr hq Kp VR AR G0
    have B1 : Exa Z hh a "com/example/rhumb/rhumb/InstanceTags" := E0.keep Kp
    have B2 : Fld Z hh a "com/example/rhumb/rhumb/InstanceTags" "tagCount" "I" (.int (Int32.ofNat tc)) := F1.keep Kp (ninS ne_ar nin0)
    have B3 : Fld Z hh a "com/example/rhumb/rhumb/InstanceTags" "instanceStart" "[I" (.ref ca) := F0.keep Kp (ninS ne_ar nin0)
    have B4 : Av Z hh ca .int vC := VC.keep Kp (ninS ne_cr nin0)
    have G5 := G0.iloadN (v := (Int32.ofNat i)) (pc' := 10) d11_9 rfl
    have G6 := G5.aloadN (v := (.ref a)) (pc' := 11) d11_10 rfl
    have G7 := G6.getF (pc' := 14) (v := (.int (Int32.ofNat tc))) (host := "") (Or.inl (hw _ (List.mem_of_getElem? (i := 24) rfl))) Via.refl B2 d11_11
    have G9 := G7.icmpN d11_14 17 (Jvm.Free.XT.ii_ge_f ((own_lt _ _ (by omega) (by omega)).mpr (by omega)))
    have G10 := G9.aloadN (v := (.ref ra)) (pc' := 18) d11_17 rfl
    have G11 := G10.iloadN (v := (Int32.ofNat i)) (pc' := 19) d11_18 rfl
    have G12 := G11.aloadN (v := (.ref a)) (pc' := 20) d11_19 rfl
    have G13 := G12.iloadN (v := (Int32.ofNat i)) (pc' := 21) d11_20 rfl
    obtain ⟨v14, h14, ⟨ev14, eh14⟩, g14⟩ := G13.callP (argsL := [(.int (Int32.ofNat i))]) (rest := [(.int (Int32.ofNat i)), (.ref ra)]) (pc' := 24) (k' := k) (j' := j) (cn13 l Z a0 hw i a hh n0 G13.size ca vC tc M I B3 B4 AC htc hM (by omega)) rfl B1 (hw _ (List.mem_of_getElem? (i := 63) rfl)) (hw _ (List.mem_of_getElem? (i := 64) rfl)) (hw _ (List.mem_of_getElem? (i := 65) rfl)) (hw _ (List.mem_of_getElem? (i := 13) rfl)) (hw _ (List.mem_of_getElem? (i := 14) rfl)) (hw _ (List.mem_of_getElem? (i := 66) rfl)) (by decide) d11_21 pd5 rfl (W := 2) rfl rfl hRf hRl hkR hjR rfl rfl rfl
    subst ev14
    rw [eh14] at g14
    have G14 := g14 [(.int (Int32.ofNat (own_cn I M i))), (.int (Int32.ofNat i)), (.ref ra)] rfl
    obtain ⟨h15, W15, V15, G15⟩ := G14.stI (i := i) (pc' := 25) VR g_r (own_i _ (by omega)) (by rw [AR.1]; omega) d11_24
    have K16 : Keep h0 h15 [ra] := Kp.wr W15 (Or.inl (List.mem_of_getElem? (i := 0) rfl))
    have E17 : Exa Z h15 a "com/example/rhumb/rhumb/InstanceTags" := B1.wr W15
    have F18 : Fld Z h15 a "com/example/rhumb/rhumb/InstanceTags" "tagCount" "I" (.int (Int32.ofNat tc)) := B2.other W15 (Or.inl ne_ar)
    have F19 : Fld Z h15 a "com/example/rhumb/rhumb/InstanceTags" "instanceStart" "[I" (.ref ca) := B3.other W15 (Or.inl ne_ar)
    have V20 : Av Z h15 ca .int vC := B4.other W15 ne_cr
    have G21 := G15.iinc (v := (1 : Int32)) (x := (Int32.ofNat i)) (L' := #[.val (.ref a), .val (.ref ra), .val (.int ((Int32.ofNat i) + (1 : Int32)))]) (pc' := 28) d11_25 rfl rfl
    have G22 := G21.goto d11_28 9
    rw [own_a1] at G22
    exact ih (i + 1) _ _ (by omega) K16 V15 (own_Ac (own_As AR (by omega)) (fun t _ => own_gTs I M i t)) G22
theorem ef11 (m : MethodId) (a : Addr) : entryFrame m #[(.ref a)] 3 = mkF m 0 #[.val (.ref a), .unset, .unset] [] := by first | (simp [entryFrame, mkF, argsToLocals, Value.category]; done) | rfl
def rm11 : Room := { frames := 1, cells := 1, slots := 4, locals := 15 }
set_option maxRecDepth 65536 in
set_option maxHeartbeats 40000000 in
theorem cn11 (l : Launch) (Z : State) (a0 : Array Value) (hw : ∀ d ∈ tables_1, d.before a0 Z = true) (a : Addr) (h0 : Heap) (n0 : Nat) (hn : n0 ≤ h0.size) (tc M : Nat) (I : Nat → Nat) (htc : tc ≤ 4) (hM : M ≤ 20) (ca : Addr) (vC : List Value) (E0 : Exa Z h0 a "com/example/rhumb/rhumb/InstanceTags") (F1 : Fld Z h0 a "com/example/rhumb/rhumb/InstanceTags" "tagCount" "I" (.int (Int32.ofNat tc))) (F0 : Fld Z h0 a "com/example/rhumb/rhumb/InstanceTags" "instanceStart" "[I" (.ref ca)) (VC : Av Z h0 ca .int vC) (AC : own_A vC (tc + 1) (own_ps I M)) :
    Con l (⟨"com/example/rhumb/rhumb/InstanceTags", "tagCounts", "()[I"⟩ : MethodName) prog_15_method_8_code 3 (some (.array .int)) [] rm11 rm11.cells rm11.slots Z #[(.ref a)] h0 n0 (fun v h => ∃ (ra : Addr) (vr : List Value), v = some (.ref ra) ∧ Keep h0 h [] ∧ h0.size ≤ ra ∧ Av Z h ra .int vr ∧ own_A vr tc (own_cn I M)) := by
  refine Con.of (plainFor_of_name pn0) hn (fun m => ef11 m a) ?_
  intro p e s m below meth c s₀ hnm G0
  have K0 : Keep h0 h0 [] := Keep.refl _ _
  have G1 := G0.aloadN (v := (.ref a)) (pc' := 1) d11_0 rfl
  have G2 := G1.getF (pc' := 4) (v := (.int (Int32.ofNat tc))) (host := "") (Or.inl (hw _ (List.mem_of_getElem? (i := 24) rfl))) Via.refl F1 d11_1
  obtain ⟨a3, h3, ea3, g_a3, X3, V3, G3⟩ := G2.newA (ty := .int) (dv := (.int (0 : Int32))) (N := tc) (cap := 4) (pc' := 6) (k' := 1) (j' := 4) (hw _ (List.mem_of_getElem? (i := 8) rfl)) d11_4 rfl rfl (own_i _ (by omega)) htc (by decide) rfl rfl rfl (by decide) (by decide)
  have ne4 : a ≠ a3 := by rw [ea3]; exact Nat.ne_of_lt E0.lt
  have ne5 : ca ≠ a3 := by rw [ea3]; exact Nat.ne_of_lt VC.lt
  have sz3 : h0.size ≤ a3 := by rw [ea3]; exact K0.1
  have E6 : Exa Z h3 a "com/example/rhumb/rhumb/InstanceTags" := E0.ext X3
  have F7 : Fld Z h3 a "com/example/rhumb/rhumb/InstanceTags" "tagCount" "I" (.int (Int32.ofNat tc)) := F1.ext X3
  have F8 : Fld Z h3 a "com/example/rhumb/rhumb/InstanceTags" "instanceStart" "[I" (.ref ca) := F0.ext X3
  have V9 : Av Z h3 ca .int vC := VC.ext X3
  have K10 : Keep h0 h3 [] := K0.ext X3
  have G11 := G3.astoreN (L' := #[.val (.ref a), .val (.ref a3), .unset]) (pc' := 7) d11_6 rfl
  have G12 := G11.iconst (v := (0 : Int32)) (pc' := 8) d11_7
  have G13 := G12.istoreN (L' := #[.val (.ref a), .val (.ref a3), .val (.int (0 : Int32))]) (pc' := 9) d11_8 rfl
  obtain ⟨h9, vr9, K9, V9, A9, G9⟩ := own_tcL p l e rm11 s m _ below meth c Z a0 hw n0 s₀ h3 1 4 tc M I htc hM a ca a3 vC E6 F7 F8 V9 AC g_a3 ne4 ne5 (by decide) (by decide) (by decide) (by decide) tc 0 _ _ (by omega) (Keep.refl _ _) V3 (own_Ac (own_A0 tc) (fun t _ => by unfold own_gT; rw [if_neg (by omega)])) G13
  have GA := G9.aloadN (v := (.ref a3)) (pc' := 32) d11_31 rfl
  exact GA.retA d11_32 rfl rfl rfl ⟨a3, vr9, rfl, K10.trans K9 (allS (Or.inr sz3) all0), sz3, V9, own_Ac A9 (fun t ht => by unfold own_gT; rw [if_pos ht])⟩
theorem d12_0 : decode method_5_code 0 = .ok (.iload_n 2, 1) := by decide +kernel
theorem d12_1 : decode method_5_code 1 = .ok (.iload_n 1, 1) := by decide +kernel
theorem d12_2 : decode method_5_code 2 = .ok (.if_icmp .lt 5, 3) := by decide +kernel
theorem d12_5 : decode method_5_code 5 = .ok (.iconst 1, 1) := by decide +kernel
theorem d12_6 : decode method_5_code 6 = .ok (.ireturn, 1) := by decide +kernel
theorem d12_7 : decode method_5_code 7 = .ok (.aload_n 0, 1) := by decide +kernel
theorem d12_8 : decode method_5_code 8 = .ok (.iload_n 2, 1) := by decide +kernel
theorem d12_9 : decode method_5_code 9 = .ok (.iaload, 1) := by decide +kernel
theorem d12_10 : decode method_5_code 10 = .ok (.iload_n 3, 1) := by decide +kernel
theorem d12_11 : decode method_5_code 11 = .ok (.iload_n 2, 1) := by decide +kernel
theorem d12_12 : decode method_5_code 12 = .ok (.invokestatic 7, 3) := by decide +kernel
theorem d12_15 : decode method_5_code 15 = .ok (.iload 4, 2) := by decide +kernel
theorem d12_17 : decode method_5_code 17 = .ok (.iload_n 2, 1) := by decide +kernel
theorem d12_18 : decode method_5_code 18 = .ok (.invokestatic 7, 3) := by decide +kernel
theorem d12_21 : decode method_5_code 21 = .ok (.iadd, 1) := by decide +kernel
theorem d12_22 : decode method_5_code 22 = .ok (.iload 5, 2) := by decide +kernel
theorem d12_24 : decode method_5_code 24 = .ok (.iload_n 2, 1) := by decide +kernel
theorem d12_25 : decode method_5_code 25 = .ok (.invokestatic 7, 3) := by decide +kernel
theorem d12_28 : decode method_5_code 28 = .ok (.iadd, 1) := by decide +kernel
theorem d12_29 : decode method_5_code 29 = .ok (.if_icmp .ne 7, 3) := by decide +kernel
theorem d12_32 : decode method_5_code 32 = .ok (.iconst 1, 1) := by decide +kernel
theorem d12_33 : decode method_5_code 33 = .ok (.goto 4, 3) := by decide +kernel
theorem d12_36 : decode method_5_code 36 = .ok (.iconst 0, 1) := by decide +kernel
theorem d12_37 : decode method_5_code 37 = .ok (.ireturn, 1) := by decide +kernel
theorem ef12 (m : MethodId) (tc t : Nat) (ra : Addr) (x3 : Int32) (x4 : Int32) (x5 : Int32) : entryFrame m #[(.ref ra), (.int (Int32.ofNat tc)), (.int (Int32.ofNat t)), (.int x3), (.int x4), (.int x5)] 6 = mkF m 0 #[.val (.ref ra), .val (.int (Int32.ofNat tc)), .val (.int (Int32.ofNat t)), .val (.int x3), .val (.int x4), .val (.int x5)] [] := by first | (simp [entryFrame, mkF, argsToLocals, Value.category]; done) | rfl
def rm12 : Room := { frames := 1, cells := 0, slots := 0, locals := 15 }
set_option maxRecDepth 65536 in
set_option maxHeartbeats 40000000 in
theorem cn12 (l : Launch) (Z : State) (a0 : Array Value) (hw : ∀ d ∈ tables_1, d.before a0 Z = true) (tc t : Nat) (ra : Addr) (x3 : Int32) (x4 : Int32) (x5 : Int32) (h0 : Heap) (n0 : Nat) (hn : n0 ≤ h0.size) (vr : List Value) (VR : Av Z h0 ra .int vr) (f : Nat → Nat) (AR : own_A vr tc f) (htc : tc ≤ 4) (ht3 : t ≤ 3) (hq : t < tc → Int32.ofNat (f t) = ((fBit x3 (Int32.ofNat t)) + (fBit x4 (Int32.ofNat t))) + (fBit x5 (Int32.ofNat t))) :
    Con l (⟨"com/example/rhumb/rhumb/InstanceTagsTagCounts103PinLaw", "ok", "([IIIIII)Z"⟩ : MethodName) method_5_code 6 (some .boolean) [] rm12 rm12.cells rm12.slots Z #[(.ref ra), (.int (Int32.ofNat tc)), (.int (Int32.ofNat t)), (.int x3), (.int x4), (.int x5)] h0 n0 (fun v h => v = some (.int (1 : Int32)) ∧ h = h0) := by
  refine Con.of (plainFor_of_name pn2) hn (fun m => ef12 m tc t ra x3 x4 x5) ?_
  intro p e s m below meth c s₀ hnm G0
  have G1 := G0.iloadN (v := (Int32.ofNat t)) (pc' := 1) d12_0 rfl
  have G2 := G1.iloadN (v := (Int32.ofNat tc)) (pc' := 2) d12_1 rfl
  by_cases ht : t < tc
  · have G3 := G2.icmpY d12_2 7 (Jvm.Free.XT.ii_lt_t ((own_lt _ _ (by omega) (by omega)).mpr ht))
    have G4 := G3.aloadN (v := (.ref ra)) (pc' := 8) d12_7 rfl
    have G5 := G4.iloadN (v := (Int32.ofNat t)) (pc' := 9) d12_8 rfl
    have G6 := G5.ldI (i := t) (v := (.int (Int32.ofNat (f t)))) (pc' := 10) VR (own_i _ (by omega)) (AR.2 _ ht) d12_9
    have G7 := G6.iloadN (v := x3) (pc' := 11) d12_10 rfl
    have G8 := G7.iloadN (v := (Int32.ofNat t)) (pc' := 12) d12_11 rfl
    obtain ⟨v9, h9, ⟨ev9, eh9⟩, g9⟩ := G8.callS (argsL := [(.int x3), (.int (Int32.ofNat t))]) (rest := [(.int (Int32.ofNat (f t)))]) (pc' := 15) (k' := 0) (j' := 0) (cn2 l Z a0 hw x3 (Int32.ofNat t) h0 n0 G8.size) rfl (hw _ (List.mem_of_getElem? (i := 5) rfl)) (hw _ (List.mem_of_getElem? (i := 6) rfl)) (hw _ (List.mem_of_getElem? (i := 3) rfl)) (hw _ (List.mem_of_getElem? (i := 7) rfl)) (by decide) d12_12 pd0 rfl (W := 1) rfl rfl (by decide) (by decide) (by decide) (by decide) rfl rfl rfl
    subst ev9
    rw [eh9] at g9
    have G9 := g9 [(.int (fBit x3 (Int32.ofNat t))), (.int (Int32.ofNat (f t)))] rfl
    have G10 := G9.iload (v := x4) (pc' := 17) d12_15 rfl
    have G11 := G10.iloadN (v := (Int32.ofNat t)) (pc' := 18) d12_17 rfl
    obtain ⟨v12, h12, ⟨ev12, eh12⟩, g12⟩ := G11.callS (argsL := [(.int x4), (.int (Int32.ofNat t))]) (rest := [(.int (fBit x3 (Int32.ofNat t))), (.int (Int32.ofNat (f t)))]) (pc' := 21) (k' := 0) (j' := 0) (cn2 l Z a0 hw x4 (Int32.ofNat t) h0 n0 G11.size) rfl (hw _ (List.mem_of_getElem? (i := 5) rfl)) (hw _ (List.mem_of_getElem? (i := 6) rfl)) (hw _ (List.mem_of_getElem? (i := 3) rfl)) (hw _ (List.mem_of_getElem? (i := 7) rfl)) (by decide) d12_18 pd0 rfl (W := 2) rfl rfl (by decide) (by decide) (by decide) (by decide) rfl rfl rfl
    subst ev12
    rw [eh12] at g12
    have G12 := g12 [(.int (fBit x4 (Int32.ofNat t))), (.int (fBit x3 (Int32.ofNat t))), (.int (Int32.ofNat (f t)))] rfl
    have G13 := G12.iadd (pc' := 22) d12_21
    have G14 := G13.iload (v := x5) (pc' := 24) d12_22 rfl
    have G15 := G14.iloadN (v := (Int32.ofNat t)) (pc' := 25) d12_24 rfl
    obtain ⟨v16, h16, ⟨ev16, eh16⟩, g16⟩ := G15.callS (argsL := [(.int x5), (.int (Int32.ofNat t))]) (rest := [(.int ((fBit x3 (Int32.ofNat t)) + (fBit x4 (Int32.ofNat t)))), (.int (Int32.ofNat (f t)))]) (pc' := 28) (k' := 0) (j' := 0) (cn2 l Z a0 hw x5 (Int32.ofNat t) h0 n0 G15.size) rfl (hw _ (List.mem_of_getElem? (i := 5) rfl)) (hw _ (List.mem_of_getElem? (i := 6) rfl)) (hw _ (List.mem_of_getElem? (i := 3) rfl)) (hw _ (List.mem_of_getElem? (i := 7) rfl)) (by decide) d12_25 pd0 rfl (W := 2) rfl rfl (by decide) (by decide) (by decide) (by decide) rfl rfl rfl
    subst ev16
    rw [eh16] at g16
    have G16 := g16 [(.int (fBit x5 (Int32.ofNat t))), (.int ((fBit x3 (Int32.ofNat t)) + (fBit x4 (Int32.ofNat t)))), (.int (Int32.ofNat (f t)))] rfl
    have G17 := G16.iadd (pc' := 29) d12_28
    have G18 := G17.icmpN d12_29 32 (Jvm.Free.XT.ii_ne_f (hq ht))
    have G19 := G18.iconst (v := (1 : Int32)) (pc' := 33) d12_32
    have G20 := G19.goto d12_33 37
    exact G20.retZ d12_37 rfl (Or.inr rfl) ⟨rfl, rfl⟩
  · have G21 := G2.icmpN d12_2 5 (Jvm.Free.XT.ii_lt_f (fun q => ht ((own_lt _ _ (by omega) (by omega)).mp q)))
    have G22 := G21.iconst (v := (1 : Int32)) (pc' := 6) d12_5
    exact G22.retZ d12_6 rfl (Or.inr rfl) ⟨rfl, rfl⟩
theorem own_b16 : ∀ k : Fin 16, fPop (Int32.ofNat k.val) = Int32.ofNat (own_bits (Int32.ofNat k.val)).length ∧ (own_bits (Int32.ofNat k.val)).length ≤ 4 := by decide +kernel
theorem own_bb : ∀ t : Fin 4, ∀ k : Fin 16, fBit (Int32.ofNat k.val) (Int32.ofNat t.val) = Int32.ofNat ((own_bits (Int32.ofNat k.val)).count t.val) := by decide +kernel
theorem own_ba : ∀ t : Fin 5, ∀ k : Fin 16, k.val < 2 ^ t.val → ∀ i : Fin 4, i.val < (own_bits (Int32.ofNat k.val)).length → (own_bits (Int32.ofNat k.val)).getD i.val 0 < t.val ∧ (i.val = 0 ∨ (own_bits (Int32.ofNat k.val)).getD (i.val - 1) 0 < (own_bits (Int32.ofNat k.val)).getD i.val 0) := by decide +kernel
theorem own_p2 (tc : Nat) (h : tc ≤ 4) : 2 ^ tc ≤ 16 := by
  have : tc = 0 ∨ tc = 1 ∨ tc = 2 ∨ tc = 3 ∨ tc = 4 := by omega
  rcases this with rfl | rfl | rfl | rfl | rfl <;> decide
theorem own_bas (tc A : Nat) (h : tc ≤ 4) (hA : A < 2 ^ tc) : own_asc (own_bits (Int32.ofNat A)) tc := fun i hi => by
  have q := own_p2 tc h
  have l := (own_b16 ⟨A, by omega⟩).2
  exact own_ba ⟨tc, by omega⟩ ⟨A, by omega⟩ hA ⟨i, by show i < 4; exact Nat.lt_of_lt_of_le hi l⟩ hi
def own_L (A B D : Nat) : List Nat := ((([] : List Nat) ++ (own_bits (Int32.ofNat A))) ++ (own_bits (Int32.ofNat B))) ++ (own_bits (Int32.ofNat D))
def own_S (A B D : Nat) : Nat → Nat
  | 0 => 0
  | 1 => (([] : List Nat) ++ (own_bits (Int32.ofNat A))).length
  | 2 => ((([] : List Nat) ++ (own_bits (Int32.ofNat A))) ++ (own_bits (Int32.ofNat B))).length
  | _ => (((([] : List Nat) ++ (own_bits (Int32.ofNat A))) ++ (own_bits (Int32.ofNat B))) ++ (own_bits (Int32.ofNat D))).length
theorem own_HH (tc A B D : Nat) (h : tc ≤ 4) (hA : A < 2 ^ tc) (hB : B < 2 ^ tc) (hD : D < 2 ^ tc) : own_H tc 3 (own_L A B D).length (own_S A B D) (fun i => (own_L A B D).getD i 0) := by
  have q := own_p2 tc h
  have l1 := (own_b16 ⟨A, by omega⟩).2
  have l2 := (own_b16 ⟨B, by omega⟩).2
  have l3 := (own_b16 ⟨D, by omega⟩).2
  have a1 := own_bas tc A h hA
  have a2 := own_bas tc B h hB
  have a3 := own_bas tc D h hD
  dsimp only at l1 l2 l3
  refine ⟨⟨h, by decide, ?_, rfl, rfl⟩, fun i hi => ?_, fun i hi p h1 h2 => ?_⟩
  · unfold own_L; simp only [List.length_append, List.length_nil]; omega
  · have : i = 0 ∨ i = 1 ∨ i = 2 := by omega
    rcases this with rfl | rfl | rfl <;> (simp only [own_S, List.length_append, List.length_nil]; omega)
  · have : i = 0 ∨ i = 1 ∨ i = 2 := by omega
    rcases this with rfl | rfl | rfl
    · have z := own_sg [] (own_bits (Int32.ofNat A)) ((own_bits (Int32.ofNat B)) ++ (own_bits (Int32.ofNat D))) tc a1 p (by exact Nat.zero_le _) (by simp only [own_S, List.length_append] at h2; exact h2)
      rw [← List.append_assoc] at z
      exact z
    · have z := own_sg (([] : List Nat) ++ (own_bits (Int32.ofNat A))) (own_bits (Int32.ofNat B)) (own_bits (Int32.ofNat D)) tc a2 p h1 (by simp only [own_S, List.length_append] at h2 ⊢; exact h2)
      exact z
    · have z := own_sg ((([] : List Nat) ++ (own_bits (Int32.ofNat A))) ++ (own_bits (Int32.ofNat B))) (own_bits (Int32.ofNat D)) [] tc a3 p h1 (by simp only [own_S, List.length_append] at h2 ⊢; exact h2)
      rw [List.append_nil] at z
      exact z
theorem own_AS (A B D : Nat) : own_A [.int (0 : Int32), .int (Int32.ofNat (([] : List Nat) ++ (own_bits (Int32.ofNat A))).length), .int (Int32.ofNat ((([] : List Nat) ++ (own_bits (Int32.ofNat A))) ++ (own_bits (Int32.ofNat B))).length), .int (Int32.ofNat (((([] : List Nat) ++ (own_bits (Int32.ofNat A))) ++ (own_bits (Int32.ofNat B))) ++ (own_bits (Int32.ofNat D))).length)] (3 + 1) (own_S A B D) := ⟨rfl, fun i hi => by
  have : i = 0 ∨ i = 1 ∨ i = 2 ∨ i = 3 := by omega
  rcases this with rfl | rfl | rfl | rfl <;> rfl⟩
theorem own_fin (tc A B D : Nat) (h : tc ≤ 4) (hA : A < 2 ^ tc) (hB : B < 2 ^ tc) (hD : D < 2 ^ tc) (t : Nat) (ht : t < tc) : Int32.ofNat (own_cn (fun i => (own_L A B D).getD i 0) (own_L A B D).length t) = ((fBit (Int32.ofNat A) (Int32.ofNat t)) + (fBit (Int32.ofNat B) (Int32.ofNat t))) + (fBit (Int32.ofNat D) (Int32.ofNat t)) := by
  have q := own_p2 tc h
  have b1 := own_bb ⟨t, by omega⟩ ⟨A, by omega⟩
  have b2 := own_bb ⟨t, by omega⟩ ⟨B, by omega⟩
  have b3 := own_bb ⟨t, by omega⟩ ⟨D, by omega⟩
  dsimp only at b1 b2 b3
  rw [own_cnL _ _ _ (Nat.le_refl _), List.take_length, b1, b2, b3, own_ad, own_ad]
  unfold own_L
  simp only [List.count_append, List.count_nil, Nat.zero_add]
theorem own_tc (x : Int32) : ∃ t : Nat, t ≤ 4 ∧ ((x &&& (2147483647 : Int32)) % (5 : Int32)) = Int32.ofNat t := by
  have n := (c_and x 2147483647 (by decide)).1
  have e := (c_irem (x &&& (2147483647 : Int32)) 5 5 rfl).1 n
  refine ⟨((x &&& (2147483647 : Int32)) % (5 : Int32)).toInt.toNat, by omega, ?_⟩
  apply Int32.toInt_inj.mp
  rw [own_i _ (by omega)]
  omega
theorem own_mk (x : Int32) (tc : Nat) (h : tc ≤ 4) : ∃ A : Nat, A < 2 ^ tc ∧ (x &&& (((1 : Int32) <<< ((Int32.ofNat tc) &&& 31)) - (1 : Int32))) = Int32.ofNat A := by
  have m : (x &&& (((1 : Int32) <<< ((Int32.ofNat tc) &&& 31)) - (1 : Int32))).toInt = x.toInt % ((2 ^ tc : Nat) : Int) := by
    have : tc = 0 ∨ tc = 1 ∨ tc = 2 ∨ tc = 3 ∨ tc = 4 := by omega
    rcases this with rfl | rfl | rfl | rfl | rfl
    · exact c_mask x _ 0 (by decide) (by decide)
    · exact c_mask x _ 1 (by decide) (by decide)
    · exact c_mask x _ 2 (by decide) (by decide)
    · exact c_mask x _ 3 (by decide) (by decide)
    · exact c_mask x _ 4 (by decide) (by decide)
  have q := own_p2 tc h
  have hp : (0 : Int) < ((2 ^ tc : Nat) : Int) := by have := Nat.two_pow_pos tc; omega
  have f1 := Int.emod_nonneg x.toInt (show ((2 ^ tc : Nat) : Int) ≠ 0 by omega)
  have f2 := Int.emod_lt_of_pos x.toInt hp
  refine ⟨(x &&& (((1 : Int32) <<< ((Int32.ofNat tc) &&& 31)) - (1 : Int32))).toInt.toNat, by omega, ?_⟩
  apply Int32.toInt_inj.mp
  rw [own_i _ (by omega)]
  omega
theorem ef0 (m : MethodId) (x0 : Int32) (x1 : Int32) (x2 : Int32) (x3 : Int32) : entryFrame m #[(.int x0), (.int x1), (.int x2), (.int x3)] maxLocals = mkF m 0 #[.val (.int x0), .val (.int x1), .val (.int x2), .val (.int x3), .unset, .unset, .unset, .unset, .unset, .unset, .unset, .unset, .unset, .unset, .unset, .unset, .unset] [] := by first | (simp [entryFrame, mkF, argsToLocals, Value.category, maxLocals]; done) | rfl
theorem pd6 : parseMethodDescriptor "([III)I" = some ⟨[(.array .int), .int, .int], some .int⟩ := by decide +kernel
theorem pd7 : parseMethodDescriptor "()[I" = some ⟨[], some (.array .int)⟩ := by decide +kernel
theorem pd8 : parseMethodDescriptor "([IIIIII)Z" = some ⟨[(.array .int), .int, .int, .int, .int, .int], some .boolean⟩ := by decide +kernel
set_option maxRecDepth 65536 in
set_option maxHeartbeats 40000000 in
theorem lawc (l : Launch) (Z : State) (a0 : Array Value) (hw : ∀ d ∈ tables_1, d.before a0 Z = true) (x0 : Int32) (x1 : Int32) (x2 : Int32) (x3 : Int32) (h0 : Heap) (n0 : Nat) (hn : n0 ≤ h0.size) :
    Con l x code maxLocals ret tables_1 room_1 24 192 Z #[(.int x0), (.int x1), (.int x2), (.int x3)] h0 n0 (fun v _ => v = some (.int 1)) := by
  refine Con.of (plainFor_of_name pn2) hn (fun m => ef0 m x0 x1 x2 x3) ?_
  intro p e s m below meth c s₀ hnm G0
  have G1 := G0.iloadN (v := x0) (pc' := 1) at_0 rfl
  have G2 := G1.ldc (v := (2147483647 : Int32)) (pc' := 3) (hw _ (List.mem_of_getElem? (i := 0) rfl)) at_1
  have G3 := G2.iand (pc' := 4) at_3
  have G4 := G3.iconst (v := (5 : Int32)) (pc' := 5) at_4
  have G5 := G4.irem (pc' := 6) at_5 (by decide)
  obtain ⟨tc, htc, e_tc⟩ := own_tc x0
  rw [e_tc] at G5
  have G6 := G5.istore (L' := #[.val (.int x0), .val (.int x1), .val (.int x2), .val (.int x3), .val (.int (Int32.ofNat tc)), .unset, .unset, .unset, .unset, .unset, .unset, .unset, .unset, .unset, .unset, .unset, .unset]) (pc' := 8) at_6 rfl
  have G7 := G6.iconst (v := (1 : Int32)) (pc' := 9) at_8
  have G8 := G7.iload (v := (Int32.ofNat tc)) (pc' := 11) at_9 rfl
  have G9 := G8.ishl (pc' := 12) at_11
  have G10 := G9.iconst (v := (1 : Int32)) (pc' := 13) at_12
  have G11 := G10.isub (pc' := 14) at_13
  have G12 := G11.istore (L' := #[.val (.int x0), .val (.int x1), .val (.int x2), .val (.int x3), .val (.int (Int32.ofNat tc)), .val (.int (((1 : Int32) <<< ((Int32.ofNat tc) &&& 31)) - (1 : Int32))), .unset, .unset, .unset, .unset, .unset, .unset, .unset, .unset, .unset, .unset, .unset]) (pc' := 16) at_14 rfl
  have G13 := G12.iloadN (v := x1) (pc' := 17) at_16 rfl
  have G14 := G13.iload (v := (((1 : Int32) <<< ((Int32.ofNat tc) &&& 31)) - (1 : Int32))) (pc' := 19) at_17 rfl
  have G15 := G14.iand (pc' := 20) at_19
  obtain ⟨A, hA, e_A⟩ := own_mk x1 tc htc
  rw [e_A] at G15
  have G16 := G15.istore (L' := #[.val (.int x0), .val (.int x1), .val (.int x2), .val (.int x3), .val (.int (Int32.ofNat tc)), .val (.int (((1 : Int32) <<< ((Int32.ofNat tc) &&& 31)) - (1 : Int32))), .val (.int (Int32.ofNat A)), .unset, .unset, .unset, .unset, .unset, .unset, .unset, .unset, .unset, .unset]) (pc' := 22) at_20 rfl
  have G17 := G16.iloadN (v := x2) (pc' := 23) at_22 rfl
  have G18 := G17.iload (v := (((1 : Int32) <<< ((Int32.ofNat tc) &&& 31)) - (1 : Int32))) (pc' := 25) at_23 rfl
  have G19 := G18.iand (pc' := 26) at_25
  obtain ⟨B, hB, e_B⟩ := own_mk x2 tc htc
  rw [e_B] at G19
  have G20 := G19.istore (L' := #[.val (.int x0), .val (.int x1), .val (.int x2), .val (.int x3), .val (.int (Int32.ofNat tc)), .val (.int (((1 : Int32) <<< ((Int32.ofNat tc) &&& 31)) - (1 : Int32))), .val (.int (Int32.ofNat A)), .val (.int (Int32.ofNat B)), .unset, .unset, .unset, .unset, .unset, .unset, .unset, .unset, .unset]) (pc' := 28) at_26 rfl
  have G21 := G20.iloadN (v := x3) (pc' := 29) at_28 rfl
  have G22 := G21.iload (v := (((1 : Int32) <<< ((Int32.ofNat tc) &&& 31)) - (1 : Int32))) (pc' := 31) at_29 rfl
  have G23 := G22.iand (pc' := 32) at_31
  obtain ⟨D, hD, e_D⟩ := own_mk x3 tc htc
  rw [e_D] at G23
  have G24 := G23.istore (L' := #[.val (.int x0), .val (.int x1), .val (.int x2), .val (.int x3), .val (.int (Int32.ofNat tc)), .val (.int (((1 : Int32) <<< ((Int32.ofNat tc) &&& 31)) - (1 : Int32))), .val (.int (Int32.ofNat A)), .val (.int (Int32.ofNat B)), .val (.int (Int32.ofNat D)), .unset, .unset, .unset, .unset, .unset, .unset, .unset, .unset]) (pc' := 34) at_32 rfl
  have G25 := G24.iload (v := (Int32.ofNat A)) (pc' := 36) at_34 rfl
  obtain ⟨v26, h26, ⟨ev26, eh26⟩, g26⟩ := G25.callS (argsL := [(.int (Int32.ofNat A))]) (rest := []) (pc' := 39) (k' := 0) (j' := 0) (cn1 l Z a0 hw (Int32.ofNat A) h0 n0 G25.size) rfl (hw _ (List.mem_of_getElem? (i := 1) rfl)) (hw _ (List.mem_of_getElem? (i := 2) rfl)) (hw _ (List.mem_of_getElem? (i := 3) rfl)) (hw _ (List.mem_of_getElem? (i := 4) rfl)) (by decide) at_36 pd5 rfl (W := 0) rfl rfl (by decide) (by decide) (by decide) (by decide) rfl rfl rfl
  subst ev26
  rw [eh26] at g26
  have G26 := g26 [(.int (fPop (Int32.ofNat A)))] rfl
  have G27 := G26.iload (v := (Int32.ofNat B)) (pc' := 41) at_39 rfl
  obtain ⟨v28, h28, ⟨ev28, eh28⟩, g28⟩ := G27.callS (argsL := [(.int (Int32.ofNat B))]) (rest := [(.int (fPop (Int32.ofNat A)))]) (pc' := 44) (k' := 0) (j' := 0) (cn1 l Z a0 hw (Int32.ofNat B) h0 n0 G27.size) rfl (hw _ (List.mem_of_getElem? (i := 1) rfl)) (hw _ (List.mem_of_getElem? (i := 2) rfl)) (hw _ (List.mem_of_getElem? (i := 3) rfl)) (hw _ (List.mem_of_getElem? (i := 4) rfl)) (by decide) at_41 pd5 rfl (W := 1) rfl rfl (by decide) (by decide) (by decide) (by decide) rfl rfl rfl
  subst ev28
  rw [eh28] at g28
  have G28 := g28 [(.int (fPop (Int32.ofNat B))), (.int (fPop (Int32.ofNat A)))] rfl
  have G29 := G28.iadd (pc' := 45) at_44
  have G30 := G29.iload (v := (Int32.ofNat D)) (pc' := 47) at_45 rfl
  obtain ⟨v31, h31, ⟨ev31, eh31⟩, g31⟩ := G30.callS (argsL := [(.int (Int32.ofNat D))]) (rest := [(.int ((fPop (Int32.ofNat A)) + (fPop (Int32.ofNat B))))]) (pc' := 50) (k' := 0) (j' := 0) (cn1 l Z a0 hw (Int32.ofNat D) h0 n0 G30.size) rfl (hw _ (List.mem_of_getElem? (i := 1) rfl)) (hw _ (List.mem_of_getElem? (i := 2) rfl)) (hw _ (List.mem_of_getElem? (i := 3) rfl)) (hw _ (List.mem_of_getElem? (i := 4) rfl)) (by decide) at_47 pd5 rfl (W := 1) rfl rfl (by decide) (by decide) (by decide) (by decide) rfl rfl rfl
  subst ev31
  rw [eh31] at g31
  have G31 := g31 [(.int (fPop (Int32.ofNat D))), (.int ((fPop (Int32.ofNat A)) + (fPop (Int32.ofNat B))))] rfl
  have G32 := G31.iadd (pc' := 51) at_50
  have q16 := own_p2 tc htc
  have l1 := own_b16 ⟨A, by omega⟩
  have l2 := own_b16 ⟨B, by omega⟩
  have l3 := own_b16 ⟨D, by omega⟩
  dsimp only at l1 l2 l3
  have hl1 := l1.2
  have hl2 := l2.2
  have hl3 := l3.2
  rw [l1.1, l2.1, l3.1, own_ad, own_ad] at G32
  have G33 := G32.istore (L' := #[.val (.int x0), .val (.int x1), .val (.int x2), .val (.int x3), .val (.int (Int32.ofNat tc)), .val (.int (((1 : Int32) <<< ((Int32.ofNat tc) &&& 31)) - (1 : Int32))), .val (.int (Int32.ofNat A)), .val (.int (Int32.ofNat B)), .val (.int (Int32.ofNat D)), .val (.int (Int32.ofNat ((own_bits (Int32.ofNat A)).length + (own_bits (Int32.ofNat B)).length + (own_bits (Int32.ofNat D)).length))), .unset, .unset, .unset, .unset, .unset, .unset, .unset]) (pc' := 53) at_51 rfl
  have G34 := G33.iload (v := (Int32.ofNat ((own_bits (Int32.ofNat A)).length + (own_bits (Int32.ofNat B)).length + (own_bits (Int32.ofNat D)).length))) (pc' := 55) at_53 rfl
  obtain ⟨a35, h35, ea35, g_a35, X35, V35, G35⟩ := G34.newA (ty := .int) (dv := (.int (0 : Int32))) (N := ((own_bits (Int32.ofNat A)).length + (own_bits (Int32.ofNat B)).length + (own_bits (Int32.ofNat D)).length)) (cap := 12) (pc' := 57) (k' := 1) (j' := 12) (hw _ (List.mem_of_getElem? (i := 8) rfl)) at_55 rfl rfl (own_i _ (by omega)) (by omega) (by decide) rfl rfl rfl (by decide) (by decide)
  have G36 := G35.astore (L' := #[.val (.int x0), .val (.int x1), .val (.int x2), .val (.int x3), .val (.int (Int32.ofNat tc)), .val (.int (((1 : Int32) <<< ((Int32.ofNat tc) &&& 31)) - (1 : Int32))), .val (.int (Int32.ofNat A)), .val (.int (Int32.ofNat B)), .val (.int (Int32.ofNat D)), .val (.int (Int32.ofNat ((own_bits (Int32.ofNat A)).length + (own_bits (Int32.ofNat B)).length + (own_bits (Int32.ofNat D)).length))), .val (.ref a35), .unset, .unset, .unset, .unset, .unset, .unset]) (pc' := 59) at_57 rfl
  have G37 := G36.aload (v := (.ref a35)) (pc' := 61) at_59 rfl
  have G38 := G37.iconst (v := (0 : Int32)) (pc' := 62) at_61
  have G39 := G38.iload (v := (Int32.ofNat A)) (pc' := 64) at_62 rfl
  obtain ⟨v40, h40, ⟨vs40, ev40, K40, V40, PR40⟩, g40⟩ := G39.callS (argsL := [(.ref a35), (.int (0 : Int32)), (.int (Int32.ofNat A))]) (rest := []) (pc' := 67) (k' := 1) (j' := 12) (cn3 l Z a0 hw ([] : List Nat) a35 (Int32.ofNat A) h35 n0 G39.size (List.replicate (((own_bits (Int32.ofNat A)).length + (own_bits (Int32.ofNat B)).length + (own_bits (Int32.ofNat D)).length)) (.int (0 : Int32))) ((own_bits (Int32.ofNat A)).length + (own_bits (Int32.ofNat B)).length + (own_bits (Int32.ofNat D)).length) (by omega) V35 (own_pre0 _) (by simp only [List.length_append, List.length_nil]; omega) g_a35) rfl (hw _ (List.mem_of_getElem? (i := 9) rfl)) (hw _ (List.mem_of_getElem? (i := 10) rfl)) (hw _ (List.mem_of_getElem? (i := 3) rfl)) (hw _ (List.mem_of_getElem? (i := 11) rfl)) (by decide) at_64 pd6 rfl (W := 0) rfl rfl (by decide) (by decide) (by decide) (by decide) rfl rfl rfl
  subst ev40
  have G40 := g40 [(.int (Int32.ofNat (([] : List Nat) ++ own_bits (Int32.ofNat A)).length))] rfl
  have G41 := G40.istore (L' := #[.val (.int x0), .val (.int x1), .val (.int x2), .val (.int x3), .val (.int (Int32.ofNat tc)), .val (.int (((1 : Int32) <<< ((Int32.ofNat tc) &&& 31)) - (1 : Int32))), .val (.int (Int32.ofNat A)), .val (.int (Int32.ofNat B)), .val (.int (Int32.ofNat D)), .val (.int (Int32.ofNat ((own_bits (Int32.ofNat A)).length + (own_bits (Int32.ofNat B)).length + (own_bits (Int32.ofNat D)).length))), .val (.ref a35), .val (.int (Int32.ofNat (([] : List Nat) ++ own_bits (Int32.ofNat A)).length)), .unset, .unset, .unset, .unset, .unset]) (pc' := 69) at_67 rfl
  have G42 := G41.aload (v := (.ref a35)) (pc' := 71) at_69 rfl
  have G43 := G42.iload (v := (Int32.ofNat (([] : List Nat) ++ own_bits (Int32.ofNat A)).length)) (pc' := 73) at_71 rfl
  have G44 := G43.iload (v := (Int32.ofNat B)) (pc' := 75) at_73 rfl
  obtain ⟨v45, h45, ⟨vs45, ev45, K45, V45, PR45⟩, g45⟩ := G44.callS (argsL := [(.ref a35), (.int (Int32.ofNat (([] : List Nat) ++ own_bits (Int32.ofNat A)).length)), (.int (Int32.ofNat B))]) (rest := []) (pc' := 78) (k' := 1) (j' := 12) (cn3 l Z a0 hw (([] : List Nat) ++ own_bits (Int32.ofNat A)) a35 (Int32.ofNat B) h40 n0 G44.size vs40 ((own_bits (Int32.ofNat A)).length + (own_bits (Int32.ofNat B)).length + (own_bits (Int32.ofNat D)).length) (by omega) V40 PR40 (by simp only [List.length_append, List.length_nil]; omega) g_a35) rfl (hw _ (List.mem_of_getElem? (i := 9) rfl)) (hw _ (List.mem_of_getElem? (i := 10) rfl)) (hw _ (List.mem_of_getElem? (i := 3) rfl)) (hw _ (List.mem_of_getElem? (i := 11) rfl)) (by decide) at_75 pd6 rfl (W := 0) rfl rfl (by decide) (by decide) (by decide) (by decide) rfl rfl rfl
  subst ev45
  have G45 := g45 [(.int (Int32.ofNat ((([] : List Nat) ++ own_bits (Int32.ofNat A)) ++ own_bits (Int32.ofNat B)).length))] rfl
  have G46 := G45.istore (L' := #[.val (.int x0), .val (.int x1), .val (.int x2), .val (.int x3), .val (.int (Int32.ofNat tc)), .val (.int (((1 : Int32) <<< ((Int32.ofNat tc) &&& 31)) - (1 : Int32))), .val (.int (Int32.ofNat A)), .val (.int (Int32.ofNat B)), .val (.int (Int32.ofNat D)), .val (.int (Int32.ofNat ((own_bits (Int32.ofNat A)).length + (own_bits (Int32.ofNat B)).length + (own_bits (Int32.ofNat D)).length))), .val (.ref a35), .val (.int (Int32.ofNat (([] : List Nat) ++ own_bits (Int32.ofNat A)).length)), .val (.int (Int32.ofNat ((([] : List Nat) ++ own_bits (Int32.ofNat A)) ++ own_bits (Int32.ofNat B)).length)), .unset, .unset, .unset, .unset]) (pc' := 80) at_78 rfl
  have G47 := G46.aload (v := (.ref a35)) (pc' := 82) at_80 rfl
  have G48 := G47.iload (v := (Int32.ofNat ((([] : List Nat) ++ own_bits (Int32.ofNat A)) ++ own_bits (Int32.ofNat B)).length)) (pc' := 84) at_82 rfl
  have G49 := G48.iload (v := (Int32.ofNat D)) (pc' := 86) at_84 rfl
  obtain ⟨v50, h50, ⟨vs50, ev50, K50, V50, PR50⟩, g50⟩ := G49.callS (argsL := [(.ref a35), (.int (Int32.ofNat ((([] : List Nat) ++ own_bits (Int32.ofNat A)) ++ own_bits (Int32.ofNat B)).length)), (.int (Int32.ofNat D))]) (rest := []) (pc' := 89) (k' := 1) (j' := 12) (cn3 l Z a0 hw ((([] : List Nat) ++ own_bits (Int32.ofNat A)) ++ own_bits (Int32.ofNat B)) a35 (Int32.ofNat D) h45 n0 G49.size vs45 ((own_bits (Int32.ofNat A)).length + (own_bits (Int32.ofNat B)).length + (own_bits (Int32.ofNat D)).length) (by omega) V45 PR45 (by simp only [List.length_append, List.length_nil]; omega) g_a35) rfl (hw _ (List.mem_of_getElem? (i := 9) rfl)) (hw _ (List.mem_of_getElem? (i := 10) rfl)) (hw _ (List.mem_of_getElem? (i := 3) rfl)) (hw _ (List.mem_of_getElem? (i := 11) rfl)) (by decide) at_86 pd6 rfl (W := 0) rfl rfl (by decide) (by decide) (by decide) (by decide) rfl rfl rfl
  subst ev50
  have G50 := g50 [(.int (Int32.ofNat (((([] : List Nat) ++ own_bits (Int32.ofNat A)) ++ own_bits (Int32.ofNat B)) ++ own_bits (Int32.ofNat D)).length))] rfl
  have G51 := G50.istore (L' := #[.val (.int x0), .val (.int x1), .val (.int x2), .val (.int x3), .val (.int (Int32.ofNat tc)), .val (.int (((1 : Int32) <<< ((Int32.ofNat tc) &&& 31)) - (1 : Int32))), .val (.int (Int32.ofNat A)), .val (.int (Int32.ofNat B)), .val (.int (Int32.ofNat D)), .val (.int (Int32.ofNat ((own_bits (Int32.ofNat A)).length + (own_bits (Int32.ofNat B)).length + (own_bits (Int32.ofNat D)).length))), .val (.ref a35), .val (.int (Int32.ofNat (([] : List Nat) ++ own_bits (Int32.ofNat A)).length)), .val (.int (Int32.ofNat ((([] : List Nat) ++ own_bits (Int32.ofNat A)) ++ own_bits (Int32.ofNat B)).length)), .val (.int (Int32.ofNat (((([] : List Nat) ++ own_bits (Int32.ofNat A)) ++ own_bits (Int32.ofNat B)) ++ own_bits (Int32.ofNat D)).length)), .unset, .unset, .unset]) (pc' := 91) at_89 rfl
  have G52 := G51.iconst (v := (4 : Int32)) (pc' := 92) at_91
  obtain ⟨a53, h53, ea53, g_a53, X53, V53, G53⟩ := G52.newA (ty := .int) (dv := (.int (0 : Int32))) (N := 4) (cap := 4) (pc' := 94) (k' := 2) (j' := 16) (hw _ (List.mem_of_getElem? (i := 8) rfl)) at_92 rfl rfl (by decide) (by decide) (by decide) rfl rfl rfl (by decide) (by decide)
  have ne54 : a35 ≠ a53 := by rw [ea53]; exact Nat.ne_of_lt V50.lt
  have V55 : Av Z h53 a35 .int vs50 := V50.ext X53
  have V56 : Av Z h53 a53 .int [(.int (0 : Int32)), (.int (0 : Int32)), (.int (0 : Int32)), (.int (0 : Int32))] := V53
  have G57 := G53.dup (pc' := 95) at_94
  have G58 := G57.iconst (v := (0 : Int32)) (pc' := 96) at_95
  have G59 := G58.iconst (v := (0 : Int32)) (pc' := 97) at_96
  obtain ⟨h60, W60, V60, G60⟩ := G59.stI (i := 0) (pc' := 98) V56 g_a53 (by decide) (by show 0 < 4; decide) at_97
  have V61 : Av Z h60 a35 .int vs50 := V55.other W60 ne54
  have V62 : Av Z h60 a53 .int [(.int (0 : Int32)), (.int (0 : Int32)), (.int (0 : Int32)), (.int (0 : Int32))] := V60
  have G63 := G60.dup (pc' := 99) at_98
  have G64 := G63.iconst (v := (1 : Int32)) (pc' := 100) at_99
  have G65 := G64.iload (v := (Int32.ofNat (([] : List Nat) ++ own_bits (Int32.ofNat A)).length)) (pc' := 102) at_100 rfl
  obtain ⟨h66, W66, V66, G66⟩ := G65.stI (i := 1) (pc' := 103) V62 g_a53 (by decide) (by show 1 < 4; decide) at_102
  have V67 : Av Z h66 a35 .int vs50 := V61.other W66 ne54
  have V68 : Av Z h66 a53 .int [(.int (0 : Int32)), (.int (Int32.ofNat (([] : List Nat) ++ own_bits (Int32.ofNat A)).length)), (.int (0 : Int32)), (.int (0 : Int32))] := V66
  have G69 := G66.dup (pc' := 104) at_103
  have G70 := G69.iconst (v := (2 : Int32)) (pc' := 105) at_104
  have G71 := G70.iload (v := (Int32.ofNat ((([] : List Nat) ++ own_bits (Int32.ofNat A)) ++ own_bits (Int32.ofNat B)).length)) (pc' := 107) at_105 rfl
  obtain ⟨h72, W72, V72, G72⟩ := G71.stI (i := 2) (pc' := 108) V68 g_a53 (by decide) (by show 2 < 4; decide) at_107
  have V73 : Av Z h72 a35 .int vs50 := V67.other W72 ne54
  have V74 : Av Z h72 a53 .int [(.int (0 : Int32)), (.int (Int32.ofNat (([] : List Nat) ++ own_bits (Int32.ofNat A)).length)), (.int (Int32.ofNat ((([] : List Nat) ++ own_bits (Int32.ofNat A)) ++ own_bits (Int32.ofNat B)).length)), (.int (0 : Int32))] := V72
  have G75 := G72.dup (pc' := 109) at_108
  have G76 := G75.iconst (v := (3 : Int32)) (pc' := 110) at_109
  have G77 := G76.iload (v := (Int32.ofNat (((([] : List Nat) ++ own_bits (Int32.ofNat A)) ++ own_bits (Int32.ofNat B)) ++ own_bits (Int32.ofNat D)).length)) (pc' := 112) at_110 rfl
  obtain ⟨h78, W78, V78, G78⟩ := G77.stI (i := 3) (pc' := 113) V74 g_a53 (by decide) (by show 3 < 4; decide) at_112
  have V79 : Av Z h78 a35 .int vs50 := V73.other W78 ne54
  have V80 : Av Z h78 a53 .int [(.int (0 : Int32)), (.int (Int32.ofNat (([] : List Nat) ++ own_bits (Int32.ofNat A)).length)), (.int (Int32.ofNat ((([] : List Nat) ++ own_bits (Int32.ofNat A)) ++ own_bits (Int32.ofNat B)).length)), (.int (Int32.ofNat (((([] : List Nat) ++ own_bits (Int32.ofNat A)) ++ own_bits (Int32.ofNat B)) ++ own_bits (Int32.ofNat D)).length))] := V78
  have G81 := G78.astore (L' := #[.val (.int x0), .val (.int x1), .val (.int x2), .val (.int x3), .val (.int (Int32.ofNat tc)), .val (.int (((1 : Int32) <<< ((Int32.ofNat tc) &&& 31)) - (1 : Int32))), .val (.int (Int32.ofNat A)), .val (.int (Int32.ofNat B)), .val (.int (Int32.ofNat D)), .val (.int (Int32.ofNat ((own_bits (Int32.ofNat A)).length + (own_bits (Int32.ofNat B)).length + (own_bits (Int32.ofNat D)).length))), .val (.ref a35), .val (.int (Int32.ofNat (([] : List Nat) ++ own_bits (Int32.ofNat A)).length)), .val (.int (Int32.ofNat ((([] : List Nat) ++ own_bits (Int32.ofNat A)) ++ own_bits (Int32.ofNat B)).length)), .val (.int (Int32.ofNat (((([] : List Nat) ++ own_bits (Int32.ofNat A)) ++ own_bits (Int32.ofNat B)) ++ own_bits (Int32.ofNat D)).length)), .val (.ref a53), .unset, .unset]) (pc' := 115) at_113 rfl
  obtain ⟨a82, h82, ea82, g_a82, X82, E82, D82, G82⟩ := G81.newO (pc' := 118) (k' := 3) (j' := 21) (hw _ (List.mem_of_getElem? (i := 12) rfl)) (hw _ (List.mem_of_getElem? (i := 13) rfl)) (hw _ (List.mem_of_getElem? (i := 14) rfl)) at_115 rfl rfl rfl (by decide) (by decide)
  have ne83 : a35 ≠ a82 := by rw [ea82]; exact Nat.ne_of_lt V79.lt
  have ne84 : a53 ≠ a82 := by rw [ea82]; exact Nat.ne_of_lt V80.lt
  have V85 : Av Z h82 a35 .int vs50 := V79.ext X82
  have V86 : Av Z h82 a53 .int [(.int (0 : Int32)), (.int (Int32.ofNat (([] : List Nat) ++ own_bits (Int32.ofNat A)).length)), (.int (Int32.ofNat ((([] : List Nat) ++ own_bits (Int32.ofNat A)) ++ own_bits (Int32.ofNat B)).length)), (.int (Int32.ofNat (((([] : List Nat) ++ own_bits (Int32.ofNat A)) ++ own_bits (Int32.ofNat B)) ++ own_bits (Int32.ofNat D)).length))] := V80.ext X82
  have F87 : Fld Z h82 a82 "com/example/rhumb/rhumb/InstanceTags" "tagCount" "I" (.int (0 : Int32)) := D82 (Or.inr (hw _ (List.mem_of_getElem? (i := 25) rfl))) (ty := .int) (by decide)
  have F88 : Fld Z h82 a82 "com/example/rhumb/rhumb/InstanceTags" "tagStart" "[I" .null := D82 (Or.inr (hw _ (List.mem_of_getElem? (i := 27) rfl))) (ty := (.array .int)) (by decide)
  have F89 : Fld Z h82 a82 "com/example/rhumb/rhumb/InstanceTags" "tagIds" "[I" .null := D82 (Or.inr (hw _ (List.mem_of_getElem? (i := 29) rfl))) (ty := (.array .int)) (by decide)
  have F90 : Fld Z h82 a82 "com/example/rhumb/rhumb/InstanceTags" "instanceStart" "[I" .null := D82 (Or.inr (hw _ (List.mem_of_getElem? (i := 31) rfl))) (ty := (.array .int)) (by decide)
  have F91 : Fld Z h82 a82 "com/example/rhumb/rhumb/InstanceTags" "instanceIds" "[I" .null := D82 (Or.inr (hw _ (List.mem_of_getElem? (i := 33) rfl))) (ty := (.array .int)) (by decide)
  have G92 := G82.dup (pc' := 119) at_118
  have G93 := G92.iload (v := (Int32.ofNat tc)) (pc' := 121) at_119 rfl
  have G94 := G93.aload (v := (.ref a53)) (pc' := 123) at_121 rfl
  have G95 := G94.aload (v := (.ref a35)) (pc' := 125) at_123 rfl
  obtain ⟨v96, h96, ⟨ca, vC, ev96, K96, szc, EN, FN1, FN2, FN3, FN4, VCN, ACN⟩, g96⟩ := G95.callI (argsL := [(.int (Int32.ofNat tc)), (.ref a53), (.ref a35)]) (rest := [(.ref a82)]) (pc' := 128) (k' := 6) (j' := 50) (cn4 l Z a0 hw tc a82 a53 a35 h82 n0 G95.size 3 (own_L A B D).length (own_S A B D) (fun i => (own_L A B D).getD i 0) (own_HH tc A B D htc hA hB hD) [(.int (0 : Int32)), (.int (Int32.ofNat (([] : List Nat) ++ own_bits (Int32.ofNat A)).length)), (.int (Int32.ofNat ((([] : List Nat) ++ own_bits (Int32.ofNat A)) ++ own_bits (Int32.ofNat B)).length)), (.int (Int32.ofNat (((([] : List Nat) ++ own_bits (Int32.ofNat A)) ++ own_bits (Int32.ofNat B)) ++ own_bits (Int32.ofNat D)).length))] vs50 E82 F87 F88 F89 F90 F91 V86 (own_AS A B D) V85 (own_preA (L := own_L A B D) (by have z := PR50; rw [show ((own_bits (Int32.ofNat A)).length + (own_bits (Int32.ofNat B)).length + (own_bits (Int32.ofNat D)).length) = (own_L A B D).length by unfold own_L; simp only [List.length_append, List.length_nil]; omega] at z; exact z)) g_a82 ne84 ne83   ) rfl rfl (hw _ (List.mem_of_getElem? (i := 15) rfl)) (hw _ (List.mem_of_getElem? (i := 16) rfl)) (hw _ (List.mem_of_getElem? (i := 14) rfl)) (hw _ (List.mem_of_getElem? (i := 17) rfl)) (by decide) at_125 pd3 rfl (W := 1) rfl rfl (by decide) (by decide) (by decide) (by decide) rfl rfl rfl
  subst ev96
  have G96 := g96 [(.ref a82)] rfl
  have g_ca : n0 ≤ ca := Nat.le_trans G95.size szc
  have ne97 : a35 ≠ ca := Nat.ne_of_lt (Nat.lt_of_lt_of_le V85.lt szc)
  have ne98 : a53 ≠ ca := Nat.ne_of_lt (Nat.lt_of_lt_of_le V86.lt szc)
  have ne99 : a82 ≠ ca := Nat.ne_of_lt (Nat.lt_of_lt_of_le E82.lt szc)
  have V100 : Av Z h96 a35 .int vs50 := V85.keep K96 (ninS ne83 nin0)
  have V101 : Av Z h96 a53 .int [(.int (0 : Int32)), (.int (Int32.ofNat (([] : List Nat) ++ own_bits (Int32.ofNat A)).length)), (.int (Int32.ofNat ((([] : List Nat) ++ own_bits (Int32.ofNat A)) ++ own_bits (Int32.ofNat B)).length)), (.int (Int32.ofNat (((([] : List Nat) ++ own_bits (Int32.ofNat A)) ++ own_bits (Int32.ofNat B)) ++ own_bits (Int32.ofNat D)).length))] := V86.keep K96 (ninS ne84 nin0)
  have E102 : Exa Z h96 a82 "com/example/rhumb/rhumb/InstanceTags" := E82.keep K96
  have G103 := G96.astore (L' := #[.val (.int x0), .val (.int x1), .val (.int x2), .val (.int x3), .val (.int (Int32.ofNat tc)), .val (.int (((1 : Int32) <<< ((Int32.ofNat tc) &&& 31)) - (1 : Int32))), .val (.int (Int32.ofNat A)), .val (.int (Int32.ofNat B)), .val (.int (Int32.ofNat D)), .val (.int (Int32.ofNat ((own_bits (Int32.ofNat A)).length + (own_bits (Int32.ofNat B)).length + (own_bits (Int32.ofNat D)).length))), .val (.ref a35), .val (.int (Int32.ofNat (([] : List Nat) ++ own_bits (Int32.ofNat A)).length)), .val (.int (Int32.ofNat ((([] : List Nat) ++ own_bits (Int32.ofNat A)) ++ own_bits (Int32.ofNat B)).length)), .val (.int (Int32.ofNat (((([] : List Nat) ++ own_bits (Int32.ofNat A)) ++ own_bits (Int32.ofNat B)) ++ own_bits (Int32.ofNat D)).length)), .val (.ref a53), .val (.ref a82), .unset]) (pc' := 130) at_128 rfl
  have G104 := G103.aload (v := (.ref a82)) (pc' := 132) at_130 rfl
  obtain ⟨v105, h105, ⟨ra, vr, ev105, K105, szr, VR, AR⟩, g105⟩ := G104.callV (argsL := []) (rest := []) (pc' := 135) (k' := 7) (j' := 54) (cn11 l Z a0 hw a82 h96 n0 G104.size tc (own_L A B D).length (fun i => (own_L A B D).getD i 0) ((own_HH tc A B D htc hA hB hD)).1.1 ((own_HH tc A B D htc hA hB hD)).1.2.2.1 ca vC EN FN1 FN4 VCN ACN) rfl EN (hw _ (List.mem_of_getElem? (i := 55) rfl)) (hw _ (List.mem_of_getElem? (i := 56) rfl)) (hw _ (List.mem_of_getElem? (i := 58) rfl)) (hw _ (List.mem_of_getElem? (i := 57) rfl)) (hw _ (List.mem_of_getElem? (i := 14) rfl)) (hw _ (List.mem_of_getElem? (i := 59) rfl)) (by decide) at_132 pd7 rfl (W := 0) rfl rfl (by decide) (by decide) (by decide) (by decide) rfl rfl rfl
  subst ev105
  have G105 := g105 [(.ref ra)] rfl
  have ne106 : a35 ≠ ra := Nat.ne_of_lt (Nat.lt_of_lt_of_le V100.lt szr)
  have ne107 : a53 ≠ ra := Nat.ne_of_lt (Nat.lt_of_lt_of_le V101.lt szr)
  have ne108 : a82 ≠ ra := Nat.ne_of_lt (Nat.lt_of_lt_of_le EN.lt szr)
  have ne109 : ca ≠ ra := Nat.ne_of_lt (Nat.lt_of_lt_of_le VCN.lt szr)
  have V110 : Av Z h105 a35 .int vs50 := V100.keep K105 nin0
  have V111 : Av Z h105 a53 .int [(.int (0 : Int32)), (.int (Int32.ofNat (([] : List Nat) ++ own_bits (Int32.ofNat A)).length)), (.int (Int32.ofNat ((([] : List Nat) ++ own_bits (Int32.ofNat A)) ++ own_bits (Int32.ofNat B)).length)), (.int (Int32.ofNat (((([] : List Nat) ++ own_bits (Int32.ofNat A)) ++ own_bits (Int32.ofNat B)) ++ own_bits (Int32.ofNat D)).length))] := V101.keep K105 nin0
  have E112 : Exa Z h105 a82 "com/example/rhumb/rhumb/InstanceTags" := EN.keep K105
  have F113 : Fld Z h105 a82 "com/example/rhumb/rhumb/InstanceTags" "tagCount" "I" (.int (Int32.ofNat tc)) := FN1.keep K105 nin0
  have F114 : Fld Z h105 a82 "com/example/rhumb/rhumb/InstanceTags" "tagStart" "[I" (.ref a53) := FN2.keep K105 nin0
  have F115 : Fld Z h105 a82 "com/example/rhumb/rhumb/InstanceTags" "tagIds" "[I" (.ref a35) := FN3.keep K105 nin0
  have F116 : Fld Z h105 a82 "com/example/rhumb/rhumb/InstanceTags" "instanceStart" "[I" (.ref ca) := FN4.keep K105 nin0
  have V117 : Av Z h105 ca .int vC := VCN.keep K105 nin0
  have G118 := G105.astore (L' := #[.val (.int x0), .val (.int x1), .val (.int x2), .val (.int x3), .val (.int (Int32.ofNat tc)), .val (.int (((1 : Int32) <<< ((Int32.ofNat tc) &&& 31)) - (1 : Int32))), .val (.int (Int32.ofNat A)), .val (.int (Int32.ofNat B)), .val (.int (Int32.ofNat D)), .val (.int (Int32.ofNat ((own_bits (Int32.ofNat A)).length + (own_bits (Int32.ofNat B)).length + (own_bits (Int32.ofNat D)).length))), .val (.ref a35), .val (.int (Int32.ofNat (([] : List Nat) ++ own_bits (Int32.ofNat A)).length)), .val (.int (Int32.ofNat ((([] : List Nat) ++ own_bits (Int32.ofNat A)) ++ own_bits (Int32.ofNat B)).length)), .val (.int (Int32.ofNat (((([] : List Nat) ++ own_bits (Int32.ofNat A)) ++ own_bits (Int32.ofNat B)) ++ own_bits (Int32.ofNat D)).length)), .val (.ref a53), .val (.ref a82), .val (.ref ra)]) (pc' := 137) at_135 rfl
  have G119 := G118.aload (v := (.ref ra)) (pc' := 139) at_137 rfl
  have G120 := G119.arrlen (pc' := 140) (v := (Int32.ofNat tc)) VR (by rw [AR.1]; exact own_i _ (by omega)) at_139
  have G121 := G120.iload (v := (Int32.ofNat tc)) (pc' := 142) at_140 rfl
  have G122 := G121.icmpY at_142 147 (Jvm.Free.XT.ii_eq_t rfl)
  have G123 := G122.aload (v := (.ref ra)) (pc' := 149) at_147 rfl
  have G124 := G123.iload (v := (Int32.ofNat tc)) (pc' := 151) at_149 rfl
  have G125 := G124.iconst (v := (0 : Int32)) (pc' := 152) at_151
  have G126 := G125.iload (v := (Int32.ofNat A)) (pc' := 154) at_152 rfl
  have G127 := G126.iload (v := (Int32.ofNat B)) (pc' := 156) at_154 rfl
  have G128 := G127.iload (v := (Int32.ofNat D)) (pc' := 158) at_156 rfl
  obtain ⟨v129, h129, ⟨ev129, eh129⟩, g129⟩ := G128.callS (argsL := [(.ref ra), (.int (Int32.ofNat tc)), (.int (0 : Int32)), (.int (Int32.ofNat A)), (.int (Int32.ofNat B)), (.int (Int32.ofNat D))]) (rest := []) (pc' := 161) (k' := 7) (j' := 54) (cn12 l Z a0 hw tc 0 ra (Int32.ofNat A) (Int32.ofNat B) (Int32.ofNat D) h105 n0 G128.size vr VR _ AR htc (by decide) (own_fin tc A B D htc hA hB hD 0)) rfl (hw _ (List.mem_of_getElem? (i := 60) rfl)) (hw _ (List.mem_of_getElem? (i := 61) rfl)) (hw _ (List.mem_of_getElem? (i := 3) rfl)) (hw _ (List.mem_of_getElem? (i := 62) rfl)) (by decide) at_158 pd8 rfl (W := 0) rfl rfl (by decide) (by decide) (by decide) (by decide) rfl rfl rfl
  subst ev129
  rw [eh129] at g129
  have G129 := g129 [(.int (1 : Int32))] rfl
  have G130 := G129.ifN at_161 164 (Jvm.Free.XT.i0_eq_f (by decide))
  have G131 := G130.aload (v := (.ref ra)) (pc' := 166) at_164 rfl
  have G132 := G131.iload (v := (Int32.ofNat tc)) (pc' := 168) at_166 rfl
  have G133 := G132.iconst (v := (1 : Int32)) (pc' := 169) at_168
  have G134 := G133.iload (v := (Int32.ofNat A)) (pc' := 171) at_169 rfl
  have G135 := G134.iload (v := (Int32.ofNat B)) (pc' := 173) at_171 rfl
  have G136 := G135.iload (v := (Int32.ofNat D)) (pc' := 175) at_173 rfl
  obtain ⟨v137, h137, ⟨ev137, eh137⟩, g137⟩ := G136.callS (argsL := [(.ref ra), (.int (Int32.ofNat tc)), (.int (1 : Int32)), (.int (Int32.ofNat A)), (.int (Int32.ofNat B)), (.int (Int32.ofNat D))]) (rest := []) (pc' := 178) (k' := 7) (j' := 54) (cn12 l Z a0 hw tc 1 ra (Int32.ofNat A) (Int32.ofNat B) (Int32.ofNat D) h105 n0 G136.size vr VR _ AR htc (by decide) (own_fin tc A B D htc hA hB hD 1)) rfl (hw _ (List.mem_of_getElem? (i := 60) rfl)) (hw _ (List.mem_of_getElem? (i := 61) rfl)) (hw _ (List.mem_of_getElem? (i := 3) rfl)) (hw _ (List.mem_of_getElem? (i := 62) rfl)) (by decide) at_175 pd8 rfl (W := 0) rfl rfl (by decide) (by decide) (by decide) (by decide) rfl rfl rfl
  subst ev137
  rw [eh137] at g137
  have G137 := g137 [(.int (1 : Int32))] rfl
  have G138 := G137.ifN at_178 181 (Jvm.Free.XT.i0_eq_f (by decide))
  have G139 := G138.aload (v := (.ref ra)) (pc' := 183) at_181 rfl
  have G140 := G139.iload (v := (Int32.ofNat tc)) (pc' := 185) at_183 rfl
  have G141 := G140.iconst (v := (2 : Int32)) (pc' := 186) at_185
  have G142 := G141.iload (v := (Int32.ofNat A)) (pc' := 188) at_186 rfl
  have G143 := G142.iload (v := (Int32.ofNat B)) (pc' := 190) at_188 rfl
  have G144 := G143.iload (v := (Int32.ofNat D)) (pc' := 192) at_190 rfl
  obtain ⟨v145, h145, ⟨ev145, eh145⟩, g145⟩ := G144.callS (argsL := [(.ref ra), (.int (Int32.ofNat tc)), (.int (2 : Int32)), (.int (Int32.ofNat A)), (.int (Int32.ofNat B)), (.int (Int32.ofNat D))]) (rest := []) (pc' := 195) (k' := 7) (j' := 54) (cn12 l Z a0 hw tc 2 ra (Int32.ofNat A) (Int32.ofNat B) (Int32.ofNat D) h105 n0 G144.size vr VR _ AR htc (by decide) (own_fin tc A B D htc hA hB hD 2)) rfl (hw _ (List.mem_of_getElem? (i := 60) rfl)) (hw _ (List.mem_of_getElem? (i := 61) rfl)) (hw _ (List.mem_of_getElem? (i := 3) rfl)) (hw _ (List.mem_of_getElem? (i := 62) rfl)) (by decide) at_192 pd8 rfl (W := 0) rfl rfl (by decide) (by decide) (by decide) (by decide) rfl rfl rfl
  subst ev145
  rw [eh145] at g145
  have G145 := g145 [(.int (1 : Int32))] rfl
  have G146 := G145.ifN at_195 198 (Jvm.Free.XT.i0_eq_f (by decide))
  have G147 := G146.aload (v := (.ref ra)) (pc' := 200) at_198 rfl
  have G148 := G147.iload (v := (Int32.ofNat tc)) (pc' := 202) at_200 rfl
  have G149 := G148.iconst (v := (3 : Int32)) (pc' := 203) at_202
  have G150 := G149.iload (v := (Int32.ofNat A)) (pc' := 205) at_203 rfl
  have G151 := G150.iload (v := (Int32.ofNat B)) (pc' := 207) at_205 rfl
  have G152 := G151.iload (v := (Int32.ofNat D)) (pc' := 209) at_207 rfl
  obtain ⟨v153, h153, ⟨ev153, eh153⟩, g153⟩ := G152.callS (argsL := [(.ref ra), (.int (Int32.ofNat tc)), (.int (3 : Int32)), (.int (Int32.ofNat A)), (.int (Int32.ofNat B)), (.int (Int32.ofNat D))]) (rest := []) (pc' := 212) (k' := 7) (j' := 54) (cn12 l Z a0 hw tc 3 ra (Int32.ofNat A) (Int32.ofNat B) (Int32.ofNat D) h105 n0 G152.size vr VR _ AR htc (by decide) (own_fin tc A B D htc hA hB hD 3)) rfl (hw _ (List.mem_of_getElem? (i := 60) rfl)) (hw _ (List.mem_of_getElem? (i := 61) rfl)) (hw _ (List.mem_of_getElem? (i := 3) rfl)) (hw _ (List.mem_of_getElem? (i := 62) rfl)) (by decide) at_209 pd8 rfl (W := 0) rfl rfl (by decide) (by decide) (by decide) (by decide) rfl rfl rfl
  subst ev153
  rw [eh153] at g153
  have G153 := g153 [(.int (1 : Int32))] rfl
  have G154 := G153.ifN at_212 215 (Jvm.Free.XT.i0_eq_f (by decide))
  have G155 := G154.iconst (v := (1 : Int32)) (pc' := 216) at_215
  have G156 := G155.goto at_216 220
  exact G156.retZ at_220 rfl (Or.inr rfl) rfl
set_option maxRecDepth 65536 in
set_option maxHeartbeats 40000000 in
theorem comes_1 {Post : Tables → Env → Array Value → State → Outcome → State → Prop} (hpost : ∀ tb e args s v u, (limb_1_1.after args s (.returned v) u = true ∧ limb_1_2.after args s (.returned v) u = true) → FrameEnd s (.returned v) u (Jvm.fieldLocs frame_1_writes args s ++ Jvm.arrayLocs frame_1_arrays args s ++ Jvm.staticLocs frame_1_statics s) 24 192 → Post tb e args s (.returned v) u) :
    ArmFor flags0 classFile x code maxLocals ret World_1 tables_1 room_1 Calls_1 rest_1 Pre_1 Post := by
  intro l hfl _ _ p e ha hc hk s m args below hf hA hF happ hP
  obtain ⟨hcalls, hrest, hpre⟩ := hP
  obtain ⟨-, -, -, hnamed, -, -, -, hat⟩ := (Spec.applies_iff hf).mp happ
  obtain ⟨hg, hn⟩ := and_e (Cond.before_iff.mp (show (Jvm.Cond.and given_1 narrow_1).before args s = true from hpre))
  obtain ⟨hcount, hg0⟩ := and_e hg
  obtain ⟨ga0, hg1⟩ := and_e hg0
  obtain ⟨ga1, hg2⟩ := and_e hg1
  obtain ⟨ga2, hg3⟩ := and_e hg2
  have ga3 := hg3
  obtain ⟨w0, w1, w2, w3, rfl⟩ : ∃ w0 w1 w2 w3 : Value, args = #[w0, w1, w2, w3] := by
    have hs : args.size = 4 := by simpa [Cond.value, given_1] using hcount
    obtain ⟨L⟩ := args
    match L, hs with
    | [w0, w1, w2, w3], _ => exact ⟨w0, w1, w2, w3, rfl⟩
  have hw := fun d (hd : d ∈ tables_1) => atoms_spec (ws := Jvm.Cond.code x code maxLocals ret :: tables_1) hat d (List.mem_cons_of_mem _ hd)
  obtain ⟨i0, ei0⟩ := is_v ga0
  obtain rfl : w0 = (.int i0) := Option.some.inj ei0
  obtain ⟨i1, ei1⟩ := is_v ga1
  obtain rfl : w1 = (.int i1) := Option.some.inj ei1
  obtain ⟨i2, ei2⟩ := is_v ga2
  obtain rfl : w2 = (.int i2) := Option.some.inj ei2
  obtain ⟨i3, ei3⟩ := is_v ga3
  obtain rfl : w3 = (.int i3) := Option.some.inj ei3
  obtain ⟨n, o, h1, h2, h3, _, L, rfl, ⟨rfl, N⟩, hq⟩ := lawc l s _ hw i0 i1 i2 i3 s.heap s.heap.size (Nat.le_refl _) p e ha hc hk s m _ below hf ((Spec.applies_iff_loose hf).mp happ).1 ⟨rfl, State.Warmed39.refl s, rfl⟩ trivial
  refine ⟨n, _, h1, h2, h3, hpost _ _ _ _ _ _ ⟨Cond.after_iff.mpr rfl, Cond.after_iff.mpr (eq_i res_at (Term.int_eval (1)) rfl)⟩ ⟨hq.1, hq.2.1, (hq.2.2.sift fun y hy => Or.inr (N y hy)).mono (by decide) (by decide)⟩⟩
theorem main_1_1 : Claimed_1_1 := comes_1 fun _ _ _ _ _ _ h hF => ⟨h.1, hF⟩
theorem main_1_2 : Claimed_1_2 := comes_1 fun _ _ _ _ _ _ h hF => ⟨h.2, hF⟩
end Jvm.Pilot.@@N@@
namespace Jvm.Pilot.@@N@@
open Jvm Jvm.ClassFile Sem Op Lib Jvm.Free Jvm.Stand Jvm.Pilot.@@N@@.Jvm.D
/-! MADE BY PROGRAM (witnessworld.py) out of the Statement's table words and the real class files: 12 classes; the members and pool entries that the words name. The judged class is class 1, her method 5. -/
namespace start1
open Jvm.ClassFile
def u (s : String) : CpInfo := .utf8 (stringToUtf16 s)
/-- a pool by its gaps: so many unusable entries, then the entry; so many at the end -/
def gap : Nat → List CpInfo → List CpInfo
  | 0, r => r
  | n + 1, r => .unusable :: gap n r
def poolList (es : List (Nat × CpInfo)) (last : Nat) : List CpInfo := es.foldr (fun e r => gap e.1 (e.2 :: r)) (gap last [])
def pool (es : List (Nat × CpInfo)) (last : Nat) : Array CpInfo := ⟨poolList es last⟩
def fileOf (pool : Array CpInfo) (this : Nat) (attrs : Array Attribute := #[]) (ms : Array MethodInfo := #[]) (fl : Nat := 33) (sup : Nat := 0) (ifs : Array Nat := #[]) (fds : Array FieldInfo := #[]) : ClassFile where
  minorVersion := 0
  majorVersion := 65
  constantPool := pool
  accessFlags := fl
  thisClass := this
  superClass := sup
  interfaces := ifs
  fields := fds
  methods := ms
  attributes := attrs
def plain (name : String) (sup : Option ClassId) : Class where
  name := name
  kind := .ordinary
  loader := none
  accessFlags := 33
  super := sup
  interfaces := #[]
  cf := none
  fields := #[]
  methods := #[]
  instanceTypes := #[]
  staticTypes := #[]
  resolved := #[]
  callSites := []
  init := .initialized
  statics := none
  mirror := none

def pool0 : Array CpInfo := pool [(5, u "<init>"), (0, u "()V"), (1, .class_ 10), (1, u "java/lang/Object")] 113

def k0c0 : Code := { maxStack := 0, maxLocals := 1, code := object_method_1_code, exceptionTable := #[], attributes := #[] }
def k0m0 : Method := { name := "<init>", desc := "()V", sig := { parameters := [], returnType := none }, accessFlags := 1, code := some k0c0 }
/-- java/lang/Object -/
def k0 : Class := { plain "java/lang/Object" none with
  accessFlags := 33
  interfaces := #[]
  cf := some (fileOf pool0 8 #[] #[{ accessFlags := 1, nameIndex := 5, descriptorIndex := 6, attributes := #[] }] 33 0 #[] #[])
  fields := #[]
  methods := #[k0m0]
  instanceTypes := #[]
  staticTypes := #[]
  resolved := Array.replicate 124 none
  statics := none }

def pool1 : Array CpInfo := pool [(2, .class_ 4), (1, u "java/lang/Object"), (0, u "<init>"), (0, u "()V"), (0, .methodref 8 9), (0, .class_ 10), (0, .nameAndType 11 12), (0, u "com/example/rhumb/rhumb/InstanceTagsTagCounts103PinLaw"), (0, u "bit"), (0, u "(II)I"), (0, .integer 2147483647), (0, .methodref 8 15), (0, .nameAndType 16 17), (0, u "pop"), (0, u "(I)I"), (0, .methodref 8 19), (0, .nameAndType 20 21), (0, u "put"), (0, u "([III)I"), (0, .class_ 23), (0, u "com/example/rhumb/rhumb/InstanceTags"), (0, .methodref 22 25), (0, .nameAndType 5 26), (0, u "(I[I[I)V"), (0, .methodref 22 28), (0, .nameAndType 29 30), (0, u "tagCounts"), (0, u "()[I"), (0, .methodref 8 32), (0, .nameAndType 33 34), (0, u "ok"), (0, u "([IIIIII)Z"), (3, u "law"), (0, u "(IIII)Z")] 4

def k1m0 : Method := { name := "<init>", desc := "()V", sig := { parameters := [], returnType := none }, accessFlags := 1, code := none }
def k1c1 : Code := { maxStack := 2, maxLocals := 2, code := method_2_code, exceptionTable := #[], attributes := #[] }
def k1m1 : Method := { name := "bit", desc := "(II)I", sig := { parameters := [.int, .int], returnType := some .int }, accessFlags := 10, code := some k1c1 }
def k1c2 : Code := { maxStack := 3, maxLocals := 1, code := method_3_code, exceptionTable := #[], attributes := #[] }
def k1m2 : Method := { name := "pop", desc := "(I)I", sig := { parameters := [.int], returnType := some .int }, accessFlags := 10, code := some k1c2 }
def k1c3 : Code := { maxStack := 3, maxLocals := 4, code := method_4_code, exceptionTable := #[], attributes := #[] }
def k1m3 : Method := { name := "put", desc := "([III)I", sig := { parameters := [(.array .int), .int, .int], returnType := some .int }, accessFlags := 10, code := some k1c3 }
def k1c4 : Code := { maxStack := 4, maxLocals := 6, code := method_5_code, exceptionTable := #[], attributes := #[] }
def k1m4 : Method := { name := "ok", desc := "([IIIIII)Z", sig := { parameters := [(.array .int), .int, .int, .int, .int, .int], returnType := some .boolean }, accessFlags := 10, code := some k1c4 }
def k1c5 : Code := { maxStack := 6, maxLocals := 17, code := code, exceptionTable := #[], attributes := #[] }
def k1m5 : Method := { name := "law", desc := "(IIII)Z", sig := { parameters := [.int, .int, .int, .int], returnType := some .boolean }, accessFlags := 9, code := some k1c5 }
/-- com/example/rhumb/rhumb/InstanceTagsTagCounts103PinLaw -/
def k1 : Class := { plain "com/example/rhumb/rhumb/InstanceTagsTagCounts103PinLaw" (some 0) with
  accessFlags := 49
  interfaces := #[]
  cf := some (fileOf pool1 8 #[] #[{ accessFlags := 1, nameIndex := 5, descriptorIndex := 6, attributes := #[] }, { accessFlags := 10, nameIndex := 11, descriptorIndex := 12, attributes := #[] }, { accessFlags := 10, nameIndex := 16, descriptorIndex := 17, attributes := #[] }, { accessFlags := 10, nameIndex := 20, descriptorIndex := 21, attributes := #[] }, { accessFlags := 10, nameIndex := 33, descriptorIndex := 34, attributes := #[] }, { accessFlags := 9, nameIndex := 38, descriptorIndex := 39, attributes := #[] }] 49 2 #[] #[])
  fields := #[]
  methods := #[k1m0, k1m1, k1m2, k1m3, k1m4, k1m5]
  instanceTypes := #[]
  staticTypes := #[]
  resolved := Array.replicate 44 none
  statics := none }

def pool2 : Array CpInfo := pool [(1, .methodref 2 3), (0, .class_ 4), (0, .nameAndType 5 6), (0, u "java/lang/Object"), (0, u "<init>"), (0, u "()V"), (0, .methodref 8 9), (0, .class_ 10), (0, .nameAndType 11 12), (0, u "com/example/rhumb/rhumb/InstanceTags"), (0, u "checkTagsOfInstances"), (0, u "(I[I[I)V"), (0, .fieldref 8 14), (0, .nameAndType 15 16), (0, u "tagCount"), (0, u "I"), (0, .fieldref 8 18), (0, .nameAndType 19 20), (0, u "tagStart"), (0, u "[I"), (0, .fieldref 8 22), (0, .nameAndType 23 20), (0, u "tagIds"), (0, .fieldref 8 25), (0, .nameAndType 26 20), (0, u "instanceStart"), (0, .fieldref 8 28), (0, .nameAndType 29 20), (0, u "instanceIds"), (0, .methodref 8 31), (0, .nameAndType 32 6), (0, u "invert"), (13, .methodref 47 48), (0, .class_ 49), (0, .nameAndType 50 51), (0, u "java/util/Arrays"), (0, u "copyOf"), (0, u "([II)[I"), (0, .methodref 8 53), (0, .nameAndType 54 55), (0, u "instanceCount"), (0, u "()I"), (16, .methodref 8 73), (0, .nameAndType 74 75), (0, u "instancesOfTag"), (0, u "(I)I"), (58, u "()[I"), (4, u "tagCounts")] 38

def k2c0 : Code := { maxStack := 3, maxLocals := 4, code := prog_15_method_1_code, exceptionTable := #[], attributes := #[] }
def k2m0 : Method := { name := "<init>", desc := "(I[I[I)V", sig := { parameters := [.int, (.array .int), (.array .int)], returnType := none }, accessFlags := 0, code := some k2c0 }
def k2c1 : Code := { maxStack := 4, maxLocals := 6, code := prog_15_method_2_code, exceptionTable := #[], attributes := #[] }
def k2m1 : Method := { name := "checkTagsOfInstances", desc := "(I[I[I)V", sig := { parameters := [.int, (.array .int), (.array .int)], returnType := none }, accessFlags := 10, code := some k2c1 }
def k2c2 : Code := { maxStack := 6, maxLocals := 5, code := prog_15_method_3_code, exceptionTable := #[], attributes := #[] }
def k2m2 : Method := { name := "invert", desc := "()V", sig := { parameters := [], returnType := none }, accessFlags := 2, code := some k2c2 }
def k2c3 : Code := { maxStack := 2, maxLocals := 1, code := prog_15_method_4_code, exceptionTable := #[], attributes := #[] }
def k2m3 : Method := { name := "instanceCount", desc := "()I", sig := { parameters := [], returnType := some .int }, accessFlags := 0, code := some k2c3 }
def k2c4 : Code := { maxStack := 4, maxLocals := 3, code := prog_15_method_8_code, exceptionTable := #[], attributes := #[] }
def k2m4 : Method := { name := "tagCounts", desc := "()[I", sig := { parameters := [], returnType := some (.array .int) }, accessFlags := 0, code := some k2c4 }
def k2c5 : Code := { maxStack := 3, maxLocals := 2, code := prog_15_method_11_code, exceptionTable := #[], attributes := #[] }
def k2m5 : Method := { name := "instancesOfTag", desc := "(I)I", sig := { parameters := [.int], returnType := some .int }, accessFlags := 2, code := some k2c5 }
/-- com/example/rhumb/rhumb/InstanceTags -/
def k2 : Class := { plain "com/example/rhumb/rhumb/InstanceTags" (some 0) with
  accessFlags := 48
  interfaces := #[]
  cf := some (fileOf pool2 8 #[] #[{ accessFlags := 0, nameIndex := 5, descriptorIndex := 12, attributes := #[] }, { accessFlags := 10, nameIndex := 11, descriptorIndex := 12, attributes := #[] }, { accessFlags := 2, nameIndex := 32, descriptorIndex := 6, attributes := #[] }, { accessFlags := 0, nameIndex := 54, descriptorIndex := 55, attributes := #[] }, { accessFlags := 0, nameIndex := 139, descriptorIndex := 134, attributes := #[] }, { accessFlags := 2, nameIndex := 74, descriptorIndex := 75, attributes := #[] }] 48 2 #[] #[{ accessFlags := 18, nameIndex := 15, descriptorIndex := 16, attributes := #[] }, { accessFlags := 18, nameIndex := 19, descriptorIndex := 20, attributes := #[] }, { accessFlags := 18, nameIndex := 23, descriptorIndex := 20, attributes := #[] }, { accessFlags := 18, nameIndex := 26, descriptorIndex := 20, attributes := #[] }, { accessFlags := 18, nameIndex := 29, descriptorIndex := 20, attributes := #[] }])
  fields := #[{ name := "tagCount", type := .int, accessFlags := 18, slot := 0, constantValue := 0 }, { name := "tagStart", type := (.array .int), accessFlags := 18, slot := 1, constantValue := 0 }, { name := "tagIds", type := (.array .int), accessFlags := 18, slot := 2, constantValue := 0 }, { name := "instanceStart", type := (.array .int), accessFlags := 18, slot := 3, constantValue := 0 }, { name := "instanceIds", type := (.array .int), accessFlags := 18, slot := 4, constantValue := 0 }]
  methods := #[k2m0, k2m1, k2m2, k2m3, k2m4, k2m5]
  instanceTypes := #[.int, (.array .int), (.array .int), (.array .int), (.array .int)]
  staticTypes := #[]
  resolved := Array.replicate 178 none
  statics := none }

def pool3 : Array CpInfo := pool [(2, .class_ 4), (1, u "java/lang/Object"), (0, u "<init>"), (0, u "()V"), (7, .class_ 16), (1, u "java/util/Arrays"), (57, .class_ 76), (1, u "java/util/Arrays$NaturalOrder"), (36, .class_ 115), (1, u "java/util/Arrays$LegacyMergeSort"), (1, u "Z"), (32, .methodref 151 152), (0, .class_ 153), (0, .nameAndType 154 155), (0, u "java/lang/System"), (0, u "arraycopy"), (0, u "(Ljava/lang/Object;ILjava/lang/Object;II)V"), (146, u "copyOf"), (1, .methodref 305 306), (0, .class_ 307), (0, .nameAndType 308 309), (0, u "java/lang/Math"), (0, u "min"), (0, u "(II)I"), (65, .class_ 376), (0, u "java/util/Arrays$ArrayList"), (68, u "$assertionsDisabled"), (269, u "MIN_ARRAY_SORT_GRAN"), (0, u "I"), (2, u "INSERTIONSORT_THRESHOLD"), (151, u "([II)[I"), (103, .class_ 976), (0, u "java/util/Arrays$ArrayItr")] 52

def k3m0 : Method := { name := "<init>", desc := "()V", sig := { parameters := [], returnType := none }, accessFlags := 2, code := none }
def k3c1 : Code := { maxStack := 6, maxLocals := 3, code := jdk_65_method_123_code, exceptionTable := #[], attributes := #[] }
def k3m1 : Method := { name := "copyOf", desc := "([II)[I", sig := { parameters := [(.array .int), .int], returnType := some (.array .int) }, accessFlags := 9, code := some k3c1 }
/-- java/util/Arrays -/
def k3 : Class := { plain "java/util/Arrays" (some 0) with
  accessFlags := 49
  interfaces := #[]
  cf := some (fileOf pool3 14 #[.nestMembers #[975, 375, 113, 74]] #[{ accessFlags := 2, nameIndex := 5, descriptorIndex := 6, attributes := #[] }, { accessFlags := 9, nameIndex := 302, descriptorIndex := 871, attributes := #[] }] 49 2 #[] #[{ accessFlags := 26, nameIndex := 715, descriptorIndex := 716, attributes := #[] }, { accessFlags := 26, nameIndex := 719, descriptorIndex := 716, attributes := #[] }, { accessFlags := 4120, nameIndex := 445, descriptorIndex := 117, attributes := #[] }])
  fields := #[{ name := "MIN_ARRAY_SORT_GRAN", type := .int, accessFlags := 26, slot := 0, constantValue := 0 }, { name := "INSERTIONSORT_THRESHOLD", type := .int, accessFlags := 26, slot := 1, constantValue := 0 }, { name := "$assertionsDisabled", type := .boolean, accessFlags := 4120, slot := 2, constantValue := 0 }]
  methods := #[k3m0, k3m1]
  instanceTypes := #[]
  staticTypes := #[.int, .int, .boolean]
  resolved := Array.replicate 1029 none
  statics := none }

def pool4 : Array CpInfo := pool [(1, .class_ 2), (0, u "java/lang/Math"), (1, .class_ 6), (1, u "java/lang/Object"), (0, u "<init>"), (0, u "()V"), (89, .class_ 100), (1, u "java/lang/Math$RandomNumberGeneratorHolder"), (71, u "negativeZeroFloatBits"), (0, u "J"), (2, u "negativeZeroDoubleBits"), (24, u "min"), (43, u "$assertionsDisabled"), (0, u "Z"), (88, u "(II)I"), (2, u "twoToTheDoubleScaleDown"), (0, u "D"), (4, u "twoToTheDoubleScaleUp"), (9, u "E"), (3, u "PI"), (2, u "TAU"), (2, u "DEGREES_TO_RADIANS"), (0, u "RADIANS_TO_DEGREES")] 94

def k4m0 : Method := { name := "<init>", desc := "()V", sig := { parameters := [], returnType := none }, accessFlags := 2, code := none }
def k4c1 : Code := { maxStack := 2, maxLocals := 2, code := jdk_29_method_69_code, exceptionTable := #[], attributes := #[] }
def k4m1 : Method := { name := "min", desc := "(II)I", sig := { parameters := [.int, .int], returnType := some .int }, accessFlags := 9, code := some k4c1 }
/-- java/lang/Math -/
def k4 : Class := { plain "java/lang/Math" (some 0) with
  accessFlags := 49
  interfaces := #[]
  cf := some (fileOf pool4 1 #[.nestMembers #[98]] #[{ accessFlags := 2, nameIndex := 7, descriptorIndex := 8, attributes := #[] }, { accessFlags := 9, nameIndex := 201, descriptorIndex := 335, attributes := #[] }] 49 4 #[] #[{ accessFlags := 25, nameIndex := 354, descriptorIndex := 339, attributes := #[] }, { accessFlags := 25, nameIndex := 358, descriptorIndex := 339, attributes := #[] }, { accessFlags := 25, nameIndex := 361, descriptorIndex := 339, attributes := #[] }, { accessFlags := 26, nameIndex := 364, descriptorIndex := 339, attributes := #[] }, { accessFlags := 26, nameIndex := 365, descriptorIndex := 339, attributes := #[] }, { accessFlags := 26, nameIndex := 172, descriptorIndex := 173, attributes := #[] }, { accessFlags := 26, nameIndex := 176, descriptorIndex := 173, attributes := #[] }, { accessFlags := 8, nameIndex := 344, descriptorIndex := 339, attributes := #[] }, { accessFlags := 8, nameIndex := 338, descriptorIndex := 339, attributes := #[] }, { accessFlags := 4120, nameIndex := 245, descriptorIndex := 246, attributes := #[] }])
  fields := #[{ name := "E", type := .double, accessFlags := 25, slot := 0, constantValue := 0 }, { name := "PI", type := .double, accessFlags := 25, slot := 1, constantValue := 0 }, { name := "TAU", type := .double, accessFlags := 25, slot := 2, constantValue := 0 }, { name := "DEGREES_TO_RADIANS", type := .double, accessFlags := 26, slot := 3, constantValue := 0 }, { name := "RADIANS_TO_DEGREES", type := .double, accessFlags := 26, slot := 4, constantValue := 0 }, { name := "negativeZeroFloatBits", type := .long, accessFlags := 26, slot := 5, constantValue := 0 }, { name := "negativeZeroDoubleBits", type := .long, accessFlags := 26, slot := 6, constantValue := 0 }, { name := "twoToTheDoubleScaleUp", type := .double, accessFlags := 8, slot := 7, constantValue := 0 }, { name := "twoToTheDoubleScaleDown", type := .double, accessFlags := 8, slot := 8, constantValue := 0 }, { name := "$assertionsDisabled", type := .boolean, accessFlags := 4120, slot := 9, constantValue := 0 }]
  methods := #[k4m0, k4m1]
  instanceTypes := #[]
  staticTypes := #[.double, .double, .double, .double, .double, .long, .long, .double, .double, .boolean]
  resolved := Array.replicate 460 none
  statics := none }

def pool5 : Array CpInfo := pool [(2, .class_ 4), (1, u "java/lang/Object"), (0, u "<init>"), (0, u "()V"), (1, .class_ 10), (1, u "java/lang/System"), (0, u "allowSecurityManager"), (0, u "I"), (16, u "cons"), (0, u "Ljava/io/Console;"), (77, .class_ 110), (1, u "java/lang/System$CallersHolder"), (43, u "initialErrStream"), (0, u "Ljava/io/PrintStream;"), (19, u "security"), (0, u "Ljava/lang/SecurityManager;"), (31, .class_ 209), (0, u "java/lang/System$1"), (7, u "props"), (0, u "Ljava/util/Properties;"), (2, u "lineSeparator"), (0, u "Ljava/lang/String;"), (96, .class_ 321), (1, u "java/lang/System$LoggerFinder"), (5, .class_ 328), (0, u "java/lang/System$Logger"), (67, u "err"), (2, u "out"), (91, u "notSupportedJnuEncoding"), (15, u "in"), (17, u "initialIn"), (0, u "Ljava/io/InputStream;"), (35, u "bootLayer"), (0, u "Ljava/lang/ModuleLayer;"), (99, .class_ 664), (0, u "java/lang/System$2"), (9, u "NEVER"), (2, u "MAYBE"), (49, u "arraycopy"), (0, u "(Ljava/lang/Object;ILjava/lang/Object;II)V"), (72, .class_ 802), (0, u "java/lang/System$Logger$Level")] 31

def k5m0 : Method := { name := "<init>", desc := "()V", sig := { parameters := [], returnType := none }, accessFlags := 2, code := none }
def k5m1 : Method := { name := "arraycopy", desc := "(Ljava/lang/Object;ILjava/lang/Object;II)V", sig := { parameters := [(.object "java/lang/Object"), .int, (.object "java/lang/Object"), .int, .int], returnType := none }, accessFlags := 265, code := none }
/-- java/lang/System -/
def k5 : Class := { plain "java/lang/System" (some 0) with
  accessFlags := 49
  interfaces := #[]
  cf := some (fileOf pool5 8 #[.nestMembers #[319, 327, 801, 108, 663, 208]] #[{ accessFlags := 2, nameIndex := 5, descriptorIndex := 6, attributes := #[] }, { accessFlags := 265, nameIndex := 727, descriptorIndex := 728, attributes := #[] }] 49 2 #[] #[{ accessFlags := 25, nameIndex := 507, descriptorIndex := 526, attributes := #[] }, { accessFlags := 25, nameIndex := 399, descriptorIndex := 155, attributes := #[] }, { accessFlags := 25, nameIndex := 396, descriptorIndex := 155, attributes := #[] }, { accessFlags := 10, nameIndex := 525, descriptorIndex := 526, attributes := #[] }, { accessFlags := 26, nameIndex := 674, descriptorIndex := 12, attributes := #[] }, { accessFlags := 26, nameIndex := 677, descriptorIndex := 12, attributes := #[] }, { accessFlags := 10, nameIndex := 11, descriptorIndex := 12, attributes := #[] }, { accessFlags := 74, nameIndex := 175, descriptorIndex := 176, attributes := #[] }, { accessFlags := 10, nameIndex := 491, descriptorIndex := 222, attributes := #[] }, { accessFlags := 74, nameIndex := 29, descriptorIndex := 30, attributes := #[] }, { accessFlags := 74, nameIndex := 154, descriptorIndex := 155, attributes := #[] }, { accessFlags := 10, nameIndex := 217, descriptorIndex := 218, attributes := #[] }, { accessFlags := 10, nameIndex := 221, descriptorIndex := 222, attributes := #[] }, { accessFlags := 8, nameIndex := 562, descriptorIndex := 563, attributes := #[] }])
  fields := #[{ name := "in", type := (.object "java/io/InputStream"), accessFlags := 25, slot := 0, constantValue := 0 }, { name := "out", type := (.object "java/io/PrintStream"), accessFlags := 25, slot := 1, constantValue := 0 }, { name := "err", type := (.object "java/io/PrintStream"), accessFlags := 25, slot := 2, constantValue := 0 }, { name := "initialIn", type := (.object "java/io/InputStream"), accessFlags := 10, slot := 3, constantValue := 0 }, { name := "NEVER", type := .int, accessFlags := 26, slot := 4, constantValue := 0 }, { name := "MAYBE", type := .int, accessFlags := 26, slot := 5, constantValue := 0 }, { name := "allowSecurityManager", type := .int, accessFlags := 10, slot := 6, constantValue := 0 }, { name := "security", type := (.object "java/lang/SecurityManager"), accessFlags := 74, slot := 7, constantValue := 0 }, { name := "notSupportedJnuEncoding", type := (.object "java/lang/String"), accessFlags := 10, slot := 8, constantValue := 0 }, { name := "cons", type := (.object "java/io/Console"), accessFlags := 74, slot := 9, constantValue := 0 }, { name := "initialErrStream", type := (.object "java/io/PrintStream"), accessFlags := 74, slot := 10, constantValue := 0 }, { name := "props", type := (.object "java/util/Properties"), accessFlags := 10, slot := 11, constantValue := 0 }, { name := "lineSeparator", type := (.object "java/lang/String"), accessFlags := 10, slot := 12, constantValue := 0 }, { name := "bootLayer", type := (.object "java/lang/ModuleLayer"), accessFlags := 8, slot := 13, constantValue := 0 }]
  methods := #[k5m0, k5m1]
  instanceTypes := #[]
  staticTypes := #[(.object "java/io/InputStream"), (.object "java/io/PrintStream"), (.object "java/io/PrintStream"), (.object "java/io/InputStream"), .int, .int, .int, (.object "java/lang/SecurityManager"), (.object "java/lang/String"), (.object "java/io/Console"), (.object "java/io/PrintStream"), (.object "java/util/Properties"), (.object "java/lang/String"), (.object "java/lang/ModuleLayer")]
  resolved := Array.replicate 834 none
  statics := none }

def pool6 : Array CpInfo := pool [(1, u "java/lang/Cloneable"), (0, .class_ 1), (0, u "java/lang/Object"), (0, .class_ 3)] 3

/-- java/lang/Cloneable -/
def k6 : Class := { plain "java/lang/Cloneable" (some 0) with
  accessFlags := 1537
  interfaces := #[]
  cf := some (fileOf pool6 2 #[] #[] 1537 4 #[] #[])
  fields := #[]
  methods := #[]
  instanceTypes := #[]
  staticTypes := #[]
  resolved := Array.replicate 8 none
  statics := none }

def pool7 : Array CpInfo := pool [(1, u "java/io/Serializable"), (0, .class_ 1), (0, u "java/lang/Object"), (0, .class_ 3)] 3

/-- java/io/Serializable -/
def k7 : Class := { plain "java/io/Serializable" (some 0) with
  accessFlags := 1537
  interfaces := #[]
  cf := some (fileOf pool7 2 #[] #[] 1537 4 #[] #[])
  fields := #[]
  methods := #[]
  instanceTypes := #[]
  staticTypes := #[]
  resolved := Array.replicate 8 none
  statics := none }

/-- the primitive byte -/
def k8 : Class := { plain "byte" none with kind := .primitive 'B', accessFlags := 0x411 }
/-- [B -/
def k9 : Class := { plain "[B" (some 0) with kind := .array 8 .byte, interfaces := #[6, 7], accessFlags := 1041 }

/-- the primitive int -/
def k10 : Class := { plain "int" none with kind := .primitive 'I', accessFlags := 0x411 }
/-- [I -/
def k11 : Class := { plain "[I" (some 0) with kind := .array 10 .int, interfaces := #[6, 7], accessFlags := 1041 }

def heap : Heap := #[]
def classes : Array Class := #[k0, k1, k2, k3, k4, k5, k6, k7, k8, k9, k10, k11]
def interned : List (Array UInt16 × Addr) := []
def slotsUsed : Nat := 0
def theMethod : MethodId := ⟨1, 5⟩
def args0 : Array Value := #[.int 3, .int 5, .int 6, .int 7]
def aboutOver (below : List Frame) : State where
  vm := { classes := classes, interned := interned.toArray }
  heap := heap
  slotsUsed := slotsUsed
  threads := #[{ frames := .invoking theMethod args0 :: below }]
def below0 : List Frame := [.native { method := ⟨0, 0⟩, args := #[] }]
def about1 : State := aboutOver below0
def p0 : Program := .bare "" "" ""
def e0 : Env := launch0.env 0 0 0
theorem w_frames : about1.frames = Frame.invoking theMethod args0 :: below0 := rfl
set_option maxRecDepth 65536 in
theorem w_args : argsFit about1.vm theMethod args0 = true := by decide +kernel
set_option maxRecDepth 65536 in
theorem w_heap : heapFits about1 = true := by decide +kernel
set_option maxRecDepth 65536 in
theorem w_runnable : about1.curStatus? = some .runnable := by decide +kernel
set_option maxRecDepth 65536 in
theorem w_alone : about1.alone = true := by decide +kernel
set_option maxRecDepth 65536 in
theorem w_named : about1.methodNamed? x = some theMethod := by decide +kernel
set_option maxRecDepth 65536 in
theorem w_hears : about1.hears theMethod below0 = true := by decide +kernel
set_option maxRecDepth 65536 in
theorem w_ripe : about1.ripe theMethod args0 below0 = true := by decide +kernel
theorem w_running : about1.status = .running := rfl
set_option maxRecDepth 65536 in
theorem w_room : about1.hasRoom e0.platform room_1 = true :=
  launch0.hasRoom_least _ room_1 (by decide +kernel) (by decide +kernel) (by decide +kernel) (by decide +kernel) (by decide +kernel) (by decide +kernel)
theorem allAtoms_all (ts : List Jvm.Cond) (a : Array Jvm.Value) (st : Jvm.State) : (allAtoms ts).before a st = ts.all (fun c => c.before a st) := by
  induction ts with
  | nil => rfl
  | cons c t ih =>
    show (Jvm.Cond.and c (allAtoms t)).before a st = _
    rw [Jvm.Cond.before_and, ih, List.all_cons]
def words1 : List Jvm.Cond := Jvm.Cond.code x code maxLocals ret :: tables_1
/-- a 'code' word, met by the world's own term for the bytes: nothing is compared byte by byte -/
theorem code_word {y : MethodName} {bytes : ByteArray} {mx : Nat} {rt : Option FieldType} {a : Array Value} {s : State} {m : MethodId} {meth : Method} {c : Code} (h1 : s.methodNamed? y = some m) (h2 : s.vm.method? m = some meth) (h3 : meth.code = some c) (h4 : c.code = bytes)
    (h5 : (c.maxLocals == mx && c.exceptionTable.isEmpty && decide (c.maxStack ≤ mostOperands) && decide (meth.sig.returnType = rt) && !meth.locks && decide (parseMethodDescriptor y.desc = some meth.sig)) = true) : (Jvm.Cond.code y bytes mx rt).before a s = true := by
  simp only [Bool.and_eq_true, beq_iff_eq, Bool.not_eq_true', decide_eq_true_eq] at h5
  obtain ⟨⟨⟨⟨⟨g1, g2⟩, g3⟩, g4⟩, g5⟩, g6⟩ := h5
  simp [Cond.before, Cond.holds, Cond.value, h1, h2, h3, h4, g1, g2, g3, g4, g5, g6]
def isCode : Jvm.Cond → Bool
  | .code _ _ _ _ => true
  | _ => false
theorem all_split {L : List Jvm.Cond} {P : Jvm.Cond → Bool} (h1 : L.all (fun c => isCode c || P c) = true) (h2 : ∀ c ∈ L.filter isCode, P c = true) : L.all P = true := by
  refine List.all_eq_true.mpr fun c hc => ?_
  have h := List.all_eq_true.mp h1 c hc
  rcases Bool.eq_false_or_eq_true (isCode c) with hi | hi
  · exact h2 c (List.mem_filter.mpr ⟨hc, hi⟩)
  · simpa [hi] using h
set_option maxRecDepth 65536 in
theorem w_c0 : (Jvm.Cond.code x code maxLocals ret).before args0 about1 = true := code_word (m := ⟨1, 5⟩) (meth := k1m5) (c := k1c5) (by decide +kernel) rfl rfl rfl (by decide +kernel)
set_option maxRecDepth 65536 in
theorem w_c1 : (Jvm.Cond.code ({ cls := "com/example/rhumb/rhumb/InstanceTagsTagCounts103PinLaw", name := "pop", desc := "(I)I" } : Jvm.MethodName) method_3_code (1 : Nat) (Option.some Jvm.ClassFile.FieldType.int)).before args0 about1 = true := code_word (m := ⟨1, 2⟩) (meth := k1m2) (c := k1c2) (by decide +kernel) rfl rfl rfl (by decide +kernel)
set_option maxRecDepth 65536 in
theorem w_c2 : (Jvm.Cond.code ({ cls := "com/example/rhumb/rhumb/InstanceTagsTagCounts103PinLaw", name := "bit", desc := "(II)I" } : Jvm.MethodName) method_2_code (2 : Nat) (Option.some Jvm.ClassFile.FieldType.int)).before args0 about1 = true := code_word (m := ⟨1, 1⟩) (meth := k1m1) (c := k1c1) (by decide +kernel) rfl rfl rfl (by decide +kernel)
set_option maxRecDepth 65536 in
theorem w_c3 : (Jvm.Cond.code ({ cls := "com/example/rhumb/rhumb/InstanceTagsTagCounts103PinLaw", name := "put", desc := "([III)I" } : Jvm.MethodName) method_4_code (4 : Nat) (Option.some Jvm.ClassFile.FieldType.int)).before args0 about1 = true := code_word (m := ⟨1, 3⟩) (meth := k1m3) (c := k1c3) (by decide +kernel) rfl rfl rfl (by decide +kernel)
set_option maxRecDepth 65536 in
theorem w_c4 : (Jvm.Cond.code ({ cls := "com/example/rhumb/rhumb/InstanceTags", name := "<init>", desc := "(I[I[I)V" } : Jvm.MethodName) prog_15_method_1_code (4 : Nat) (Option.none : Option Jvm.ClassFile.FieldType)).before args0 about1 = true := code_word (m := ⟨2, 0⟩) (meth := k2m0) (c := k2c0) (by decide +kernel) rfl rfl rfl (by decide +kernel)
set_option maxRecDepth 65536 in
theorem w_c5 : (Jvm.Cond.code ({ cls := "java/lang/Object", name := "<init>", desc := "()V" } : Jvm.MethodName) object_method_1_code (1 : Nat) (Option.none : Option Jvm.ClassFile.FieldType)).before args0 about1 = true := code_word (m := ⟨0, 0⟩) (meth := k0m0) (c := k0c0) (by decide +kernel) rfl rfl rfl (by decide +kernel)
set_option maxRecDepth 65536 in
theorem w_c6 : (Jvm.Cond.code ({ cls := "com/example/rhumb/rhumb/InstanceTags", name := "checkTagsOfInstances", desc := "(I[I[I)V" } : Jvm.MethodName) prog_15_method_2_code (6 : Nat) (Option.none : Option Jvm.ClassFile.FieldType)).before args0 about1 = true := code_word (m := ⟨2, 1⟩) (meth := k2m1) (c := k2c1) (by decide +kernel) rfl rfl rfl (by decide +kernel)
set_option maxRecDepth 65536 in
theorem w_c7 : (Jvm.Cond.code ({ cls := "com/example/rhumb/rhumb/InstanceTags", name := "invert", desc := "()V" } : Jvm.MethodName) prog_15_method_3_code (5 : Nat) (Option.none : Option Jvm.ClassFile.FieldType)).before args0 about1 = true := code_word (m := ⟨2, 2⟩) (meth := k2m2) (c := k2c2) (by decide +kernel) rfl rfl rfl (by decide +kernel)
set_option maxRecDepth 65536 in
theorem w_c8 : (Jvm.Cond.code ({ cls := "java/util/Arrays", name := "copyOf", desc := "([II)[I" } : Jvm.MethodName) jdk_65_method_123_code (3 : Nat) (Option.some (Jvm.ClassFile.FieldType.array Jvm.ClassFile.FieldType.int))).before args0 about1 = true := code_word (m := ⟨3, 1⟩) (meth := k3m1) (c := k3c1) (by decide +kernel) rfl rfl rfl (by decide +kernel)
set_option maxRecDepth 65536 in
theorem w_c9 : (Jvm.Cond.code ({ cls := "java/lang/Math", name := "min", desc := "(II)I" } : Jvm.MethodName) jdk_29_method_69_code (2 : Nat) (Option.some Jvm.ClassFile.FieldType.int)).before args0 about1 = true := code_word (m := ⟨4, 1⟩) (meth := k4m1) (c := k4c1) (by decide +kernel) rfl rfl rfl (by decide +kernel)
set_option maxRecDepth 65536 in
theorem w_c10 : (Jvm.Cond.code ({ cls := "com/example/rhumb/rhumb/InstanceTags", name := "instanceCount", desc := "()I" } : Jvm.MethodName) prog_15_method_4_code (1 : Nat) (Option.some Jvm.ClassFile.FieldType.int)).before args0 about1 = true := code_word (m := ⟨2, 3⟩) (meth := k2m3) (c := k2c3) (by decide +kernel) rfl rfl rfl (by decide +kernel)
set_option maxRecDepth 65536 in
theorem w_c11 : (Jvm.Cond.code ({ cls := "com/example/rhumb/rhumb/InstanceTags", name := "tagCounts", desc := "()[I" } : Jvm.MethodName) prog_15_method_8_code (3 : Nat) (Option.some (Jvm.ClassFile.FieldType.array Jvm.ClassFile.FieldType.int))).before args0 about1 = true := code_word (m := ⟨2, 4⟩) (meth := k2m4) (c := k2c4) (by decide +kernel) rfl rfl rfl (by decide +kernel)
set_option maxRecDepth 65536 in
theorem w_c12 : (Jvm.Cond.code ({ cls := "com/example/rhumb/rhumb/InstanceTagsTagCounts103PinLaw", name := "ok", desc := "([IIIIII)Z" } : Jvm.MethodName) method_5_code (6 : Nat) (Option.some Jvm.ClassFile.FieldType.boolean)).before args0 about1 = true := code_word (m := ⟨1, 4⟩) (meth := k1m4) (c := k1c4) (by decide +kernel) rfl rfl rfl (by decide +kernel)
set_option maxRecDepth 65536 in
theorem w_c13 : (Jvm.Cond.code ({ cls := "com/example/rhumb/rhumb/InstanceTags", name := "instancesOfTag", desc := "(I)I" } : Jvm.MethodName) prog_15_method_11_code (2 : Nat) (Option.some Jvm.ClassFile.FieldType.int)).before args0 about1 = true := code_word (m := ⟨2, 5⟩) (meth := k2m5) (c := k2c5) (by decide +kernel) rfl rfl rfl (by decide +kernel)
def codes1 : List Jvm.Cond := [Jvm.Cond.code x code maxLocals ret, Jvm.Cond.code ({ cls := "com/example/rhumb/rhumb/InstanceTagsTagCounts103PinLaw", name := "pop", desc := "(I)I" } : Jvm.MethodName) method_3_code (1 : Nat) (Option.some Jvm.ClassFile.FieldType.int), Jvm.Cond.code ({ cls := "com/example/rhumb/rhumb/InstanceTagsTagCounts103PinLaw", name := "bit", desc := "(II)I" } : Jvm.MethodName) method_2_code (2 : Nat) (Option.some Jvm.ClassFile.FieldType.int), Jvm.Cond.code ({ cls := "com/example/rhumb/rhumb/InstanceTagsTagCounts103PinLaw", name := "put", desc := "([III)I" } : Jvm.MethodName) method_4_code (4 : Nat) (Option.some Jvm.ClassFile.FieldType.int), Jvm.Cond.code ({ cls := "com/example/rhumb/rhumb/InstanceTags", name := "<init>", desc := "(I[I[I)V" } : Jvm.MethodName) prog_15_method_1_code (4 : Nat) (Option.none : Option Jvm.ClassFile.FieldType), Jvm.Cond.code ({ cls := "java/lang/Object", name := "<init>", desc := "()V" } : Jvm.MethodName) object_method_1_code (1 : Nat) (Option.none : Option Jvm.ClassFile.FieldType), Jvm.Cond.code ({ cls := "com/example/rhumb/rhumb/InstanceTags", name := "checkTagsOfInstances", desc := "(I[I[I)V" } : Jvm.MethodName) prog_15_method_2_code (6 : Nat) (Option.none : Option Jvm.ClassFile.FieldType), Jvm.Cond.code ({ cls := "com/example/rhumb/rhumb/InstanceTags", name := "invert", desc := "()V" } : Jvm.MethodName) prog_15_method_3_code (5 : Nat) (Option.none : Option Jvm.ClassFile.FieldType), Jvm.Cond.code ({ cls := "java/util/Arrays", name := "copyOf", desc := "([II)[I" } : Jvm.MethodName) jdk_65_method_123_code (3 : Nat) (Option.some (Jvm.ClassFile.FieldType.array Jvm.ClassFile.FieldType.int)), Jvm.Cond.code ({ cls := "java/lang/Math", name := "min", desc := "(II)I" } : Jvm.MethodName) jdk_29_method_69_code (2 : Nat) (Option.some Jvm.ClassFile.FieldType.int), Jvm.Cond.code ({ cls := "com/example/rhumb/rhumb/InstanceTags", name := "instanceCount", desc := "()I" } : Jvm.MethodName) prog_15_method_4_code (1 : Nat) (Option.some Jvm.ClassFile.FieldType.int), Jvm.Cond.code ({ cls := "com/example/rhumb/rhumb/InstanceTags", name := "tagCounts", desc := "()[I" } : Jvm.MethodName) prog_15_method_8_code (3 : Nat) (Option.some (Jvm.ClassFile.FieldType.array Jvm.ClassFile.FieldType.int)), Jvm.Cond.code ({ cls := "com/example/rhumb/rhumb/InstanceTagsTagCounts103PinLaw", name := "ok", desc := "([IIIIII)Z" } : Jvm.MethodName) method_5_code (6 : Nat) (Option.some Jvm.ClassFile.FieldType.boolean), Jvm.Cond.code ({ cls := "com/example/rhumb/rhumb/InstanceTags", name := "instancesOfTag", desc := "(I)I" } : Jvm.MethodName) prog_15_method_11_code (2 : Nat) (Option.some Jvm.ClassFile.FieldType.int)]
set_option maxRecDepth 65536 in
theorem codes_eq : words1.filter isCode = codes1 := rfl
theorem w_codes : ∀ c ∈ words1.filter isCode, c.before args0 about1 = true := by
  rw [codes_eq]
  intro c hc
  simp only [codes1, List.mem_cons, List.not_mem_nil, or_false] at hc
  rcases hc with rfl | rfl | rfl | rfl | rfl | rfl | rfl | rfl | rfl | rfl | rfl | rfl | rfl | rfl
  · exact w_c0
  · exact w_c1
  · exact w_c2
  · exact w_c3
  · exact w_c4
  · exact w_c5
  · exact w_c6
  · exact w_c7
  · exact w_c8
  · exact w_c9
  · exact w_c10
  · exact w_c11
  · exact w_c12
  · exact w_c13
set_option maxRecDepth 65536 in
theorem w_t1 : (words1.take 24).all (fun c => isCode c || c.before args0 about1) = true := by decide +kernel
set_option maxRecDepth 65536 in
theorem w_t2 : ((words1.drop 24).take 24).all (fun c => isCode c || c.before args0 about1) = true := by decide +kernel
set_option maxRecDepth 65536 in
theorem w_t3 : ((words1.drop 24).drop 24).all (fun c => isCode c || c.before args0 about1) = true := by decide +kernel
theorem w_tables : (allAtoms (Jvm.Cond.code x code maxLocals ret :: tables_1)).before args0 about1 = true := by
  rw [allAtoms_all]
  show words1.all (fun c => c.before args0 about1) = true
  refine all_split ?_ w_codes
  rw [← List.take_append_drop 24 words1, List.all_append, w_t1, ← List.take_append_drop 24 (words1.drop 24), List.all_append, w_t2, w_t3]
  rfl
set_option maxRecDepth 65536 in
theorem w_case : (Jvm.Cond.and given_1 narrow_1).before args0 about1 = true := by decide +kernel
theorem w_applies : (headSpec (Jvm.Cond.code x code maxLocals ret :: tables_1) room_1).applies x e0.platform about1 = true :=
  (Spec.applies_iff w_frames).mpr ⟨w_running, w_runnable, w_alone, w_named, w_hears, w_ripe, w_room, w_tables⟩
theorem atStart : AtStart classFile x code maxLocals ret World_1 tables_1 room_1 Calls_1 rest_1 Pre_1 launch0 p0 e0 about1 theMethod args0 below0 :=
  ⟨lists_1, trivial, launch0.admits_env _ _ _, launch0.least_env, fairChoices_fair.cas, fairChoices_fair.clock, w_frames, w_args, w_heap, w_applies, trivial, trivial, w_case⟩
end start1
theorem witness_1 : WitnessClaimed_1 := ⟨start1.p0, start1.e0, start1.about1, start1.theMethod, start1.args0, start1.below0, start1.atStart⟩
end Jvm.Pilot.@@N@@
