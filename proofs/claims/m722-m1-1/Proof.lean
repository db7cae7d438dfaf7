import JvmDerived
import JvmDerived.Pilot.@@N@@Statement
import JvmDerived.Pilot.@@N@@Code
set_option linter.unusedVariables false
set_option linter.unusedSimpArgs false
namespace Jvm.Pilot.@@N@@
open Jvm Jvm.ClassFile Sem Op Lib Jvm.Free Jvm.Stand Jvm.LawKit Jvm.RoadKit Bundle Jvm.Pilot.@@N@@.Jvm.D
section OwnKit
variable {p : Program} {l : Launch} {e : Env} {R : Room} {s : State} {m : MethodId} {args : Array Value} {below : List Frame} {meth : Method} {c : Code} {T : State} {locs : List Loc} {cells slots : Nat} {P : State → Outcome → Prop} {Z : State} {a0 : Array Value} {h : Heap} {pc : Nat} {Ls : Array Slot} {st : List Value}
def Goes (p : Program) (e : Env) (below : List Frame) (S : State) (P : State → Outcome → Prop) : Prop := ∃ (U : State) (o : Outcome), Steps p.tables e below S U ∧ U.status = .running ∧ Ended U below o ∧ P U o
def Endz (s : State) (kc ks : Nat) (Q : Option Value → Heap → List Loc → Prop) (U : State) (o : Outcome) : Prop := ∃ v L, o = .returned v ∧ Q v U.heap L ∧ FrameEnd s o U L kc ks
theorem go {S S' : State} (hs : ∀ t, Steps p.tables e below S' t → Steps p.tables e below S t) (k : Goes p e below S' P) : Goes p e below S P := by
  obtain ⟨U, o, k1, k2⟩ := k
  exact ⟨U, o, hs U k1, k2⟩
theorem goT {S S' : State} (hs : Steps p.tables e below S S') (k : Goes p e below S' P) : Goes p e below S P := by
  obtain ⟨U, o, k1, k2⟩ := k
  exact ⟨U, o, hs.trans k1, k2⟩
theorem own_cast {g g' : JFrame} (q : g = g') (k : Goes p e below (T.setTop g') P) : Goes p e below (T.setTop g) P := q ▸ k
abbrev OwnMet (l : Launch) (Z : State) (y : MethodName) (bytes : ByteArray) (maxL : Nat) (ret : Option FieldType) (ws : List Jvm.Cond) (rm : Room) (as' : Array Value) (h : Heap) (Q : Option Value → Heap → List Loc → Prop) : Prop := MetFree l y (head1 (Jvm.Cond.code y bytes maxL ret :: ws) rm) (fun a U => a = as' ∧ Z.Warmed39 U.vm ∧ U.heap = h) (fun _ _ _ _ _ => True) (fun _ U o U' => ∃ v L, o = .returned v ∧ Q v U'.heap L ∧ FrameEnd U o U' L rm.cells rm.slots)
theorem own_body {y : MethodName} {bytes : ByteArray} {maxL : Nat} {ret : Option FieldType} {ws : List Jvm.Cond} {rm : Room} {as' : Array Value} {Q : Option Value → Heap → List Loc → Prop} (hpn : plainFor y = true)
    (B : ∀ (p : Program) (e : Env) (s : State) (m : MethodId) (below : List Frame) (meth : Method) (c : Code) (s₁ : State), p.tables.exec = Jvm.exec → c.code = bytes → c.maxLocals = maxL → s.vm.findClass y.cls = some m.cls → meth.name = y.name → meth.sig.returnType = ret → meth.locks = false → Z.Warmed39 s.vm → Stand p l e rm s m as' below meth c s₁ [] 0 0 → s₁.heap = h → Goes p e below (s₁.setTop (entryFrame m as' maxL)) (Endz s rm.cells rm.slots Q)) : OwnMet l Z y bytes maxL ret ws rm as' h Q := by
  refine MetFree.of_bodySF hpn hisR ?_
  intro p e s m args below meth c s₁ Bd hml0 hP hK
  obtain ⟨rfl, hZ, hh⟩ := hP
  exact B p e s m below meth c s₁ Bd.exec Bd.bytes hml0 (findClass_of_methodNamed Bd.named) (name_of_methodNamed Bd.named Bd.method).1 Bd.returns (BodyLoose.notSynchronized Bd) hZ (Stand.of_body Bd) (by rw [← hh, Bd.state]; rfl)
theorem g_ret {w : Value} {t : FieldType} {i : Instr} {kc ks : Nat} {Q : Option Value → Heap → List Loc → Prop} (X : Stand p l e R s m args below meth c T locs cells slots) (hx : p.tables.exec = Jvm.exec) (hret : meth.sig.returnType = some t) (hlk : meth.locks = false) (hn : narrow t w = w)
    (hi : (i = .ireturn ∧ (t = .int ∨ t = .boolean ∨ t = .byte ∨ t = .char ∨ t = .short) ∧ ∃ z, w = .int z) ∨ (i = .lreturn ∧ t = .long ∧ ∃ z, w = .long z) ∨ (i = .dreturn ∧ t = .double ∧ ∃ z, w = .double z) ∨ (i = .freturn ∧ t = .float ∧ ∃ z, w = .float z) ∨ (i = .areturn ∧ t.isReference = true ∧ w.isRef = true))
    (hd : decode c.code pc = .ok (i, 1)) (hQ : Q (some w) T.heap locs) (hc : cells ≤ kc) (hs : slots ≤ ks) : Goes p e below (T.setTop (mkF m pc Ls (w :: st))) (Endz s kc ks Q) := by
  obtain ⟨fs, hr, hrun, hended, hW, hsame⟩ := X.leave (v := some w) (fun h => by rw [hret] at h; cases h) hlk
  exact ⟨_, _, retOut X hx hret hn hi hd hr, hrun, hended, _, _, rfl, hQ, ⟨_, rfl⟩, hW, hsame.mono hc hs⟩
theorem g_retI {z : Int32} {kc ks : Nat} {Q : Option Value → Heap → List Loc → Prop} (X : Stand p l e R s m args below meth c T locs cells slots) (hx : p.tables.exec = Jvm.exec) (hret : meth.sig.returnType = some .int) (hlk : meth.locks = false) (hd : decode c.code pc = .ok (.ireturn, 1)) (hQ : Q (some (.int z)) T.heap locs) (hc : cells ≤ kc) (hs : slots ≤ ks) : Goes p e below (T.setTop (mkF m pc Ls (.int z :: st))) (Endz s kc ks Q) :=
  g_ret X hx hret hlk rfl (Or.inl ⟨rfl, Or.inl rfl, z, rfl⟩) hd hQ hc hs
theorem g_retZ {z : Int32} {kc ks : Nat} {Q : Option Value → Heap → List Loc → Prop} (X : Stand p l e R s m args below meth c T locs cells slots) (hx : p.tables.exec = Jvm.exec) (hret : meth.sig.returnType = some .boolean) (hlk : meth.locks = false) (hn : narrow .boolean (.int z) = .int z) (hd : decode c.code pc = .ok (.ireturn, 1)) (hQ : Q (some (.int z)) T.heap locs) (hc : cells ≤ kc) (hs : slots ≤ ks) : Goes p e below (T.setTop (mkF m pc Ls (.int z :: st))) (Endz s kc ks Q) :=
  g_ret X hx hret hlk hn (Or.inl ⟨rfl, Or.inr (Or.inl rfl), z, rfl⟩) hd hQ hc hs
theorem g_retJ {z : Int64} {kc ks : Nat} {Q : Option Value → Heap → List Loc → Prop} (X : Stand p l e R s m args below meth c T locs cells slots) (hx : p.tables.exec = Jvm.exec) (hret : meth.sig.returnType = some .long) (hlk : meth.locks = false) (hd : decode c.code pc = .ok (.lreturn, 1)) (hQ : Q (some (.long z)) T.heap locs) (hc : cells ≤ kc) (hs : slots ≤ ks) : Goes p e below (T.setTop (mkF m pc Ls (.long z :: st))) (Endz s kc ks Q) :=
  g_ret X hx hret hlk rfl (Or.inr (Or.inl ⟨rfl, rfl, z, rfl⟩)) hd hQ hc hs
theorem g_retA {w : Value} {t : FieldType} {kc ks : Nat} {Q : Option Value → Heap → List Loc → Prop} (X : Stand p l e R s m args below meth c T locs cells slots) (hx : p.tables.exec = Jvm.exec) (hret : meth.sig.returnType = some t) (hlk : meth.locks = false) (hn : narrow t w = w) (ht : t.isReference = true) (hw : w.isRef = true) (hd : decode c.code pc = .ok (.areturn, 1)) (hQ : Q (some w) T.heap locs) (hc : cells ≤ kc) (hs : slots ≤ ks) : Goes p e below (T.setTop (mkF m pc Ls (w :: st))) (Endz s kc ks Q) :=
  g_ret X hx hret hlk hn (Or.inr (Or.inr (Or.inr (Or.inr ⟨rfl, ht, hw⟩)))) hd hQ hc hs
theorem g_ret0 {kc ks : Nat} {Q : Option Value → Heap → List Loc → Prop} (X : Stand p l e R s m args below meth c T locs cells slots) (hx : p.tables.exec = Jvm.exec) (hret : meth.sig.returnType = none) (hlk : meth.locks = false) (hd : decode c.code pc = .ok (.return_, 1)) (hQ : Q none T.heap locs) (hc : cells ≤ kc) (hs : slots ≤ ks) : Goes p e below (T.setTop (mkF m pc Ls [])) (Endz s kc ks Q) := by
  obtain ⟨fs, hr, hrun, hended, hW, hsame⟩ := X.leave (v := none) (fun _ => rfl) hlk
  exact ⟨_, _, X.returnOut hx hret hd hr, hrun, hended, _, _, rfl, hQ, ⟨_, rfl⟩, hW, hsame.mono hc hs⟩
theorem g_iadd (X : Stand p l e R s m args below meth c T locs cells slots) (hx : p.tables.exec = Jvm.exec) (pc' : Nat) (hpc : pc + 1 = pc') {x y : Int32} (hd : decode c.code pc = .ok (.iadd, 1))  (K : Goes p e below (T.setTop (mkF m pc' Ls (.int (x + y) :: st))) P) : Goes p e below (T.setTop (mkF m pc Ls (.int y :: .int x :: st))) P := by
  subst hpc; exact go (fun _ q => XS.iadd X.here hx rfl hd rfl q) K
theorem g_isub (X : Stand p l e R s m args below meth c T locs cells slots) (hx : p.tables.exec = Jvm.exec) (pc' : Nat) (hpc : pc + 1 = pc') {x y : Int32} (hd : decode c.code pc = .ok (.isub, 1))  (K : Goes p e below (T.setTop (mkF m pc' Ls (.int (x - y) :: st))) P) : Goes p e below (T.setTop (mkF m pc Ls (.int y :: .int x :: st))) P := by
  subst hpc; exact go (fun _ q => XS.isub X.here hx rfl hd rfl q) K
theorem g_imul (X : Stand p l e R s m args below meth c T locs cells slots) (hx : p.tables.exec = Jvm.exec) (pc' : Nat) (hpc : pc + 1 = pc') {x y : Int32} (hd : decode c.code pc = .ok (.imul, 1))  (K : Goes p e below (T.setTop (mkF m pc' Ls (.int (x * y) :: st))) P) : Goes p e below (T.setTop (mkF m pc Ls (.int y :: .int x :: st))) P := by
  subst hpc; exact go (fun _ q => XS.imul X.here hx rfl hd rfl q) K
theorem g_iand (X : Stand p l e R s m args below meth c T locs cells slots) (hx : p.tables.exec = Jvm.exec) (pc' : Nat) (hpc : pc + 1 = pc') {x y : Int32} (hd : decode c.code pc = .ok (.iand, 1))  (K : Goes p e below (T.setTop (mkF m pc' Ls (.int (x &&& y) :: st))) P) : Goes p e below (T.setTop (mkF m pc Ls (.int y :: .int x :: st))) P := by
  subst hpc; exact go (fun _ q => XS.iand X.here hx rfl hd rfl q) K
theorem g_ior (X : Stand p l e R s m args below meth c T locs cells slots) (hx : p.tables.exec = Jvm.exec) (pc' : Nat) (hpc : pc + 1 = pc') {x y : Int32} (hd : decode c.code pc = .ok (.ior, 1))  (K : Goes p e below (T.setTop (mkF m pc' Ls (.int (x ||| y) :: st))) P) : Goes p e below (T.setTop (mkF m pc Ls (.int y :: .int x :: st))) P := by
  subst hpc; exact go (fun _ q => XT.ior X.here hx rfl hd rfl q) K
theorem g_ixor (X : Stand p l e R s m args below meth c T locs cells slots) (hx : p.tables.exec = Jvm.exec) (pc' : Nat) (hpc : pc + 1 = pc') {x y : Int32} (hd : decode c.code pc = .ok (.ixor, 1))  (K : Goes p e below (T.setTop (mkF m pc' Ls (.int (x ^^^ y) :: st))) P) : Goes p e below (T.setTop (mkF m pc Ls (.int y :: .int x :: st))) P := by
  subst hpc; exact go (fun _ q => XT.ixor X.here hx rfl hd rfl q) K
theorem g_ishl (X : Stand p l e R s m args below meth c T locs cells slots) (hx : p.tables.exec = Jvm.exec) (pc' : Nat) (hpc : pc + 1 = pc') {x y : Int32} (hd : decode c.code pc = .ok (.ishl, 1))  (K : Goes p e below (T.setTop (mkF m pc' Ls (.int (x <<< (y &&& 31)) :: st))) P) : Goes p e below (T.setTop (mkF m pc Ls (.int y :: .int x :: st))) P := by
  subst hpc; exact go (fun _ q => XT.ishl X.here hx rfl hd rfl q) K
theorem g_ishr (X : Stand p l e R s m args below meth c T locs cells slots) (hx : p.tables.exec = Jvm.exec) (pc' : Nat) (hpc : pc + 1 = pc') {x y : Int32} (hd : decode c.code pc = .ok (.ishr, 1))  (K : Goes p e below (T.setTop (mkF m pc' Ls (.int (x >>> (y &&& 31)) :: st))) P) : Goes p e below (T.setTop (mkF m pc Ls (.int y :: .int x :: st))) P := by
  subst hpc; exact go (fun _ q => XT.ishr X.here hx rfl hd rfl q) K
theorem g_iushr (X : Stand p l e R s m args below meth c T locs cells slots) (hx : p.tables.exec = Jvm.exec) (pc' : Nat) (hpc : pc + 1 = pc') {x y : Int32} (hd : decode c.code pc = .ok (.iushr, 1))  (K : Goes p e below (T.setTop (mkF m pc' Ls (.int (XT.ushr x y) :: st))) P) : Goes p e below (T.setTop (mkF m pc Ls (.int y :: .int x :: st))) P := by
  subst hpc; exact go (fun _ q => XT.iushr X.here hx rfl hd rfl q) K
theorem g_idiv (X : Stand p l e R s m args below meth c T locs cells slots) (hx : p.tables.exec = Jvm.exec) (pc' : Nat) (hpc : pc + 1 = pc') {x y : Int32} (hd : decode c.code pc = .ok (.idiv, 1)) (hy : y ≠ 0) (K : Goes p e below (T.setTop (mkF m pc' Ls (.int (x / y) :: st))) P) : Goes p e below (T.setTop (mkF m pc Ls (.int y :: .int x :: st))) P := by
  subst hpc; exact go (fun _ q => XS.idiv X.here hx rfl hd rfl hy q) K
theorem g_irem (X : Stand p l e R s m args below meth c T locs cells slots) (hx : p.tables.exec = Jvm.exec) (pc' : Nat) (hpc : pc + 1 = pc') {x y : Int32} (hd : decode c.code pc = .ok (.irem, 1)) (hy : y ≠ 0) (K : Goes p e below (T.setTop (mkF m pc' Ls (.int (x % y) :: st))) P) : Goes p e below (T.setTop (mkF m pc Ls (.int y :: .int x :: st))) P := by
  subst hpc; exact go (fun _ q => iremM X hx rfl hd rfl hy q) K
theorem g_ineg (X : Stand p l e R s m args below meth c T locs cells slots) (hx : p.tables.exec = Jvm.exec) (pc' : Nat) (hpc : pc + 1 = pc') {x : Int32} (hd : decode c.code pc = .ok (.ineg, 1))  (K : Goes p e below (T.setTop (mkF m pc' Ls (.int (-x) :: st))) P) : Goes p e below (T.setTop (mkF m pc Ls (.int x :: st))) P := by
  subst hpc; exact go (fun _ q => XS.ineg X.here hx rfl hd rfl q) K
theorem g_ladd (X : Stand p l e R s m args below meth c T locs cells slots) (hx : p.tables.exec = Jvm.exec) (pc' : Nat) (hpc : pc + 1 = pc') {x y : Int64} (hd : decode c.code pc = .ok (.ladd, 1))  (K : Goes p e below (T.setTop (mkF m pc' Ls (.long (x + y) :: st))) P) : Goes p e below (T.setTop (mkF m pc Ls (.long y :: .long x :: st))) P := by
  subst hpc; exact go (fun _ q => XT.ladd X.here hx rfl hd rfl q) K
theorem g_lsub (X : Stand p l e R s m args below meth c T locs cells slots) (hx : p.tables.exec = Jvm.exec) (pc' : Nat) (hpc : pc + 1 = pc') {x y : Int64} (hd : decode c.code pc = .ok (.lsub, 1))  (K : Goes p e below (T.setTop (mkF m pc' Ls (.long (x - y) :: st))) P) : Goes p e below (T.setTop (mkF m pc Ls (.long y :: .long x :: st))) P := by
  subst hpc; exact go (fun _ q => XT.lsub X.here hx rfl hd rfl q) K
theorem g_lmul (X : Stand p l e R s m args below meth c T locs cells slots) (hx : p.tables.exec = Jvm.exec) (pc' : Nat) (hpc : pc + 1 = pc') {x y : Int64} (hd : decode c.code pc = .ok (.lmul, 1))  (K : Goes p e below (T.setTop (mkF m pc' Ls (.long (x * y) :: st))) P) : Goes p e below (T.setTop (mkF m pc Ls (.long y :: .long x :: st))) P := by
  subst hpc; exact go (fun _ q => XT.lmul X.here hx rfl hd rfl q) K
theorem g_land (X : Stand p l e R s m args below meth c T locs cells slots) (hx : p.tables.exec = Jvm.exec) (pc' : Nat) (hpc : pc + 1 = pc') {x y : Int64} (hd : decode c.code pc = .ok (.land, 1))  (K : Goes p e below (T.setTop (mkF m pc' Ls (.long (x &&& y) :: st))) P) : Goes p e below (T.setTop (mkF m pc Ls (.long y :: .long x :: st))) P := by
  subst hpc; exact go (fun _ q => XT.land X.here hx rfl hd rfl q) K
theorem g_lor (X : Stand p l e R s m args below meth c T locs cells slots) (hx : p.tables.exec = Jvm.exec) (pc' : Nat) (hpc : pc + 1 = pc') {x y : Int64} (hd : decode c.code pc = .ok (.lor, 1))  (K : Goes p e below (T.setTop (mkF m pc' Ls (.long (x ||| y) :: st))) P) : Goes p e below (T.setTop (mkF m pc Ls (.long y :: .long x :: st))) P := by
  subst hpc; exact go (fun _ q => XT.lor X.here hx rfl hd rfl q) K
theorem g_lxor (X : Stand p l e R s m args below meth c T locs cells slots) (hx : p.tables.exec = Jvm.exec) (pc' : Nat) (hpc : pc + 1 = pc') {x y : Int64} (hd : decode c.code pc = .ok (.lxor, 1))  (K : Goes p e below (T.setTop (mkF m pc' Ls (.long (x ^^^ y) :: st))) P) : Goes p e below (T.setTop (mkF m pc Ls (.long y :: .long x :: st))) P := by
  subst hpc; exact go (fun _ q => XT.lxor X.here hx rfl hd rfl q) K
theorem g_lshl (X : Stand p l e R s m args below meth c T locs cells slots) (hx : p.tables.exec = Jvm.exec) (pc' : Nat) (hpc : pc + 1 = pc') {x : Int64} {y : Int32} (hd : decode c.code pc = .ok (.lshl, 1))  (K : Goes p e below (T.setTop (mkF m pc' Ls (.long (x <<< (y.toInt64 &&& 63)) :: st))) P) : Goes p e below (T.setTop (mkF m pc Ls (.int y :: .long x :: st))) P := by
  subst hpc; exact go (fun _ q => XT.lshl X.here hx rfl hd rfl q) K
theorem g_lshr (X : Stand p l e R s m args below meth c T locs cells slots) (hx : p.tables.exec = Jvm.exec) (pc' : Nat) (hpc : pc + 1 = pc') {x : Int64} {y : Int32} (hd : decode c.code pc = .ok (.lshr, 1))  (K : Goes p e below (T.setTop (mkF m pc' Ls (.long (x >>> (y.toInt64 &&& 63)) :: st))) P) : Goes p e below (T.setTop (mkF m pc Ls (.int y :: .long x :: st))) P := by
  subst hpc; exact go (fun _ q => XT.lshr X.here hx rfl hd rfl q) K
theorem g_lushr (X : Stand p l e R s m args below meth c T locs cells slots) (hx : p.tables.exec = Jvm.exec) (pc' : Nat) (hpc : pc + 1 = pc') {x : Int64} {y : Int32} (hd : decode c.code pc = .ok (.lushr, 1))  (K : Goes p e below (T.setTop (mkF m pc' Ls (.long (XT.ushrL x y) :: st))) P) : Goes p e below (T.setTop (mkF m pc Ls (.int y :: .long x :: st))) P := by
  subst hpc; exact go (fun _ q => XT.lushr X.here hx rfl hd rfl q) K
theorem g_ldiv (X : Stand p l e R s m args below meth c T locs cells slots) (hx : p.tables.exec = Jvm.exec) (pc' : Nat) (hpc : pc + 1 = pc') {x y : Int64} (hd : decode c.code pc = .ok (.ldiv, 1)) (hy : y ≠ 0) (K : Goes p e below (T.setTop (mkF m pc' Ls (.long (x / y) :: st))) P) : Goes p e below (T.setTop (mkF m pc Ls (.long y :: .long x :: st))) P := by
  subst hpc; exact go (fun _ q => XT.ldiv X.here hx rfl hd rfl hy q) K
theorem g_lrem (X : Stand p l e R s m args below meth c T locs cells slots) (hx : p.tables.exec = Jvm.exec) (pc' : Nat) (hpc : pc + 1 = pc') {x y : Int64} (hd : decode c.code pc = .ok (.lrem, 1)) (hy : y ≠ 0) (K : Goes p e below (T.setTop (mkF m pc' Ls (.long (x % y) :: st))) P) : Goes p e below (T.setTop (mkF m pc Ls (.long y :: .long x :: st))) P := by
  subst hpc; exact go (fun _ q => XT.lrem X.here hx rfl hd rfl hy (by rw [lrem_mod]; exact q)) K
theorem g_lneg (X : Stand p l e R s m args below meth c T locs cells slots) (hx : p.tables.exec = Jvm.exec) (pc' : Nat) (hpc : pc + 1 = pc') {x : Int64} (hd : decode c.code pc = .ok (.lneg, 1))  (K : Goes p e below (T.setTop (mkF m pc' Ls (.long (-x) :: st))) P) : Goes p e below (T.setTop (mkF m pc Ls (.long x :: st))) P := by
  subst hpc; exact go (fun _ q => XT.lneg X.here hx rfl hd rfl q) K
theorem g_i2l (X : Stand p l e R s m args below meth c T locs cells slots) (hx : p.tables.exec = Jvm.exec) (pc' : Nat) (hpc : pc + 1 = pc') {x : Int32} (hd : decode c.code pc = .ok (.i2l, 1))  (K : Goes p e below (T.setTop (mkF m pc' Ls (.long x.toInt64 :: st))) P) : Goes p e below (T.setTop (mkF m pc Ls (.int x :: st))) P := by
  subst hpc; exact go (fun _ q => XT.i2l X.here hx rfl hd rfl q) K
theorem g_l2i (X : Stand p l e R s m args below meth c T locs cells slots) (hx : p.tables.exec = Jvm.exec) (pc' : Nat) (hpc : pc + 1 = pc') {x : Int64} (hd : decode c.code pc = .ok (.l2i, 1))  (K : Goes p e below (T.setTop (mkF m pc' Ls (.int x.toInt32 :: st))) P) : Goes p e below (T.setTop (mkF m pc Ls (.long x :: st))) P := by
  subst hpc; exact go (fun _ q => XT.l2i X.here hx rfl hd rfl q) K
theorem g_i2b (X : Stand p l e R s m args below meth c T locs cells slots) (hx : p.tables.exec = Jvm.exec) (pc' : Nat) (hpc : pc + 1 = pc') {x : Int32} (hd : decode c.code pc = .ok (.i2b, 1))  (K : Goes p e below (T.setTop (mkF m pc' Ls (.int x.toInt8.toInt32 :: st))) P) : Goes p e below (T.setTop (mkF m pc Ls (.int x :: st))) P := by
  subst hpc; exact go (fun _ q => XT.i2b X.here hx rfl hd rfl q) K
theorem g_i2c (X : Stand p l e R s m args below meth c T locs cells slots) (hx : p.tables.exec = Jvm.exec) (pc' : Nat) (hpc : pc + 1 = pc') {x : Int32} (hd : decode c.code pc = .ok (.i2c, 1))  (K : Goes p e below (T.setTop (mkF m pc' Ls (.int x.toUInt32.toUInt16.toUInt32.toInt32 :: st))) P) : Goes p e below (T.setTop (mkF m pc Ls (.int x :: st))) P := by
  subst hpc; exact go (fun _ q => XT.i2c X.here hx rfl hd rfl q) K
theorem g_i2s (X : Stand p l e R s m args below meth c T locs cells slots) (hx : p.tables.exec = Jvm.exec) (pc' : Nat) (hpc : pc + 1 = pc') {x : Int32} (hd : decode c.code pc = .ok (.i2s, 1))  (K : Goes p e below (T.setTop (mkF m pc' Ls (.int x.toInt16.toInt32 :: st))) P) : Goes p e below (T.setTop (mkF m pc Ls (.int x :: st))) P := by
  subst hpc; exact go (fun _ q => XT.i2s X.here hx rfl hd rfl q) K
theorem g_lcmp (X : Stand p l e R s m args below meth c T locs cells slots) (hx : p.tables.exec = Jvm.exec) (pc' : Nat) (hpc : pc + 1 = pc') {x y : Int64} (hd : decode c.code pc = .ok (.lcmp, 1))  (K : Goes p e below (T.setTop (mkF m pc' Ls (.int (XT.cmpL x y) :: st))) P) : Goes p e below (T.setTop (mkF m pc Ls (.long y :: .long x :: st))) P := by
  subst hpc; exact go (fun _ q => XT.lcmp X.here hx rfl hd rfl q) K
theorem g_dup (X : Stand p l e R s m args below meth c T locs cells slots) (hx : p.tables.exec = Jvm.exec) (pc' : Nat) (hpc : pc + 1 = pc') {x : Value} (hd : decode c.code pc = .ok (.dup, 1)) (hc : x.category = 1) (K : Goes p e below (T.setTop (mkF m pc' Ls (x :: x :: st))) P) : Goes p e below (T.setTop (mkF m pc Ls (x :: st))) P := by
  subst hpc; exact go (fun _ q => XS.dup X.here hx rfl hd rfl hc q) K
theorem g_pop (X : Stand p l e R s m args below meth c T locs cells slots) (hx : p.tables.exec = Jvm.exec) (pc' : Nat) (hpc : pc + 1 = pc') {x : Value} (hd : decode c.code pc = .ok (.pop, 1)) (hc : x.category = 1) (K : Goes p e below (T.setTop (mkF m pc' Ls (st))) P) : Goes p e below (T.setTop (mkF m pc Ls (x :: st))) P := by
  subst hpc; exact go (fun _ q => XT.pop X.here hx rfl hd rfl hc q) K
theorem g_dup_x1 (X : Stand p l e R s m args below meth c T locs cells slots) (hx : p.tables.exec = Jvm.exec) (pc' : Nat) (hpc : pc + 1 = pc') {x y : Value} (hd : decode c.code pc = .ok (.dup_x1, 1)) (hc : x.category = 1) (hc' : y.category = 1) (K : Goes p e below (T.setTop (mkF m pc' Ls (x :: y :: x :: st))) P) : Goes p e below (T.setTop (mkF m pc Ls (x :: y :: st))) P := by
  subst hpc; exact go (fun _ q => XT.dupX1 X.here hx rfl hd rfl hc hc' q) K
theorem g_dup2 (X : Stand p l e R s m args below meth c T locs cells slots) (hx : p.tables.exec = Jvm.exec) (pc' : Nat) (hpc : pc + 1 = pc') {x y : Value} (hd : decode c.code pc = .ok (.dup2, 1)) (hc : x.category = 1) (hc' : y.category = 1) (K : Goes p e below (T.setTop (mkF m pc' Ls (x :: y :: x :: y :: st))) P) : Goes p e below (T.setTop (mkF m pc Ls (x :: y :: st))) P := by
  subst hpc; exact go (fun _ q => XT.dup2 X.here hx rfl hd rfl hc hc' q) K
theorem g_dup2L (X : Stand p l e R s m args below meth c T locs cells slots) (hx : p.tables.exec = Jvm.exec) (pc' : Nat) (hpc : pc + 1 = pc') {x : Int64} (hd : decode c.code pc = .ok (.dup2, 1))  (K : Goes p e below (T.setTop (mkF m pc' Ls (.long x :: .long x :: st))) P) : Goes p e below (T.setTop (mkF m pc Ls (.long x :: st))) P := by
  subst hpc; exact go (fun _ q => XT.dup2L X.here hx rfl hd rfl q) K
theorem g_iconst (X : Stand p l e R s m args below meth c T locs cells slots) (hx : p.tables.exec = Jvm.exec) (pc' : Nat) (hpc : pc + 1 = pc') {i : Int} (v : Int32) (hv : Int32.ofInt i = v) (hd : decode c.code pc = .ok (.iconst i, 1))  (K : Goes p e below (T.setTop (mkF m pc' Ls (.int v :: st))) P) : Goes p e below (T.setTop (mkF m pc Ls (st))) P := by
  subst hpc; exact go (fun _ q => XS.iconst X.here hx rfl hd (by rw [hv]; exact q)) K
theorem g_bipush (X : Stand p l e R s m args below meth c T locs cells slots) (hx : p.tables.exec = Jvm.exec) (pc' : Nat) (hpc : pc + 2 = pc') {i : Int} (v : Int32) (hv : (Int8.ofInt i).toInt32 = v) (hd : decode c.code pc = .ok (.bipush i, 2))  (K : Goes p e below (T.setTop (mkF m pc' Ls (.int v :: st))) P) : Goes p e below (T.setTop (mkF m pc Ls (st))) P := by
  subst hpc; exact go (fun _ q => XS.bipush X.here hx rfl hd (by rw [hv]; exact q)) K
theorem g_sipush (X : Stand p l e R s m args below meth c T locs cells slots) (hx : p.tables.exec = Jvm.exec) (pc' : Nat) (hpc : pc + 3 = pc') {i : Int} (v : Int32) (hv : (Int16.ofInt i).toInt32 = v) (hd : decode c.code pc = .ok (.sipush i, 3))  (K : Goes p e below (T.setTop (mkF m pc' Ls (.int v :: st))) P) : Goes p e below (T.setTop (mkF m pc Ls (st))) P := by
  subst hpc; exact go (fun _ q => XS.sipush X.here hx rfl hd (by rw [hv]; exact q)) K
theorem g_lconst (X : Stand p l e R s m args below meth c T locs cells slots) (hx : p.tables.exec = Jvm.exec) (pc' : Nat) (hpc : pc + 1 = pc') {k : Fin 2} (v : Int64) (hv : Int64.ofNat k = v) (hd : decode c.code pc = .ok (.lconst k, 1))  (K : Goes p e below (T.setTop (mkF m pc' Ls (.long v :: st))) P) : Goes p e below (T.setTop (mkF m pc Ls (st))) P := by
  subst hpc; exact go (fun _ q => XT.lconst X.here hx rfl hd (by rw [hv]; exact q)) K
theorem g_aconst_null (X : Stand p l e R s m args below meth c T locs cells slots) (hx : p.tables.exec = Jvm.exec) (pc' : Nat) (hpc : pc + 1 = pc')  (hd : decode c.code pc = .ok (.aconst_null, 1))  (K : Goes p e below (T.setTop (mkF m pc' Ls (.null :: st))) P) : Goes p e below (T.setTop (mkF m pc Ls (st))) P := by
  subst hpc; exact go (fun _ q => XS.aconstNull X.here hx rfl hd q) K
theorem g_ldcI (X : Stand p l e R s m args below meth c T locs cells slots) (hx : p.tables.exec = Jvm.exec) (pc' : Nat) (hpc : pc + 2 = pc') {own : String} {index : Nat} {v : Int32} (hown : s.vm.findClass own = some m.cls) (hZ : Z.Warmed39 s.vm) (w : (Jvm.Cond.constant own index v).before a0 Z = true) (hd : decode c.code pc = .ok (.ldc index, 2))  (K : Goes p e below (T.setTop (mkF m pc' Ls (.int v :: st))) P) : Goes p e below (T.setTop (mkF m pc Ls (st))) P := by
  subst hpc; exact go (fun _ q => X.ldcInt hx hown (mvT hZ w) (g := mkF m pc Ls st) rfl hd _ q) K
theorem g_ldcJ (X : Stand p l e R s m args below meth c T locs cells slots) (hx : p.tables.exec = Jvm.exec) (pc' : Nat) (hpc : pc + 3 = pc') {own : String} {index : Nat} {v : Int64} (hown : s.vm.findClass own = some m.cls) (hZ : Z.Warmed39 s.vm) (w : (Jvm.Cond.constantLong own index v).before a0 Z = true) (hd : decode c.code pc = .ok (.ldc2_w index, 3))  (K : Goes p e below (T.setTop (mkF m pc' Ls (.long v :: st))) P) : Goes p e below (T.setTop (mkF m pc Ls (st))) P := by
  subst hpc; exact go (fun _ q => X.ldc2Long hx hown (mvT hZ w) (g := mkF m pc Ls st) rfl hd _ q) K
theorem g_iload_n (X : Stand p l e R s m args below meth c T locs cells slots) (hx : p.tables.exec = Jvm.exec) (pc' : Nat) (hpc : pc + 1 = pc') {k : Fin 4} {v : Int32} (hd : decode c.code pc = .ok (.iload_n k, 1)) (hl : Ls[k.val]? = some (.val (.int v))) (K : Goes p e below (T.setTop (mkF m pc' Ls (.int v :: st))) P) : Goes p e below (T.setTop (mkF m pc Ls (st))) P := by
  subst hpc; exact go (fun _ q => XS.iloadN X.here hx rfl hd hl q) K
theorem g_iload (X : Stand p l e R s m args below meth c T locs cells slots) (hx : p.tables.exec = Jvm.exec) (pc' : Nat) (hpc : pc + 2 = pc') {k : Nat} {v : Int32} (hd : decode c.code pc = .ok (.iload k, 2)) (hl : Ls[k]? = some (.val (.int v))) (K : Goes p e below (T.setTop (mkF m pc' Ls (.int v :: st))) P) : Goes p e below (T.setTop (mkF m pc Ls (st))) P := by
  subst hpc; exact go (fun _ q => XS.iload X.here hx rfl hd hl q) K
theorem g_lload_n (X : Stand p l e R s m args below meth c T locs cells slots) (hx : p.tables.exec = Jvm.exec) (pc' : Nat) (hpc : pc + 1 = pc') {k : Fin 4} {v : Int64} (hd : decode c.code pc = .ok (.lload_n k, 1)) (hl : Ls[k.val]? = some (.val (.long v))) (K : Goes p e below (T.setTop (mkF m pc' Ls (.long v :: st))) P) : Goes p e below (T.setTop (mkF m pc Ls (st))) P := by
  subst hpc; exact go (fun _ q => XT.lloadN X.here hx rfl hd hl q) K
theorem g_lload (X : Stand p l e R s m args below meth c T locs cells slots) (hx : p.tables.exec = Jvm.exec) (pc' : Nat) (hpc : pc + 2 = pc') {k : Nat} {v : Int64} (hd : decode c.code pc = .ok (.lload k, 2)) (hl : Ls[k]? = some (.val (.long v))) (K : Goes p e below (T.setTop (mkF m pc' Ls (.long v :: st))) P) : Goes p e below (T.setTop (mkF m pc Ls (st))) P := by
  subst hpc; exact go (fun _ q => XT.lload X.here hx rfl hd hl q) K
theorem g_aload_n (X : Stand p l e R s m args below meth c T locs cells slots) (hx : p.tables.exec = Jvm.exec) (pc' : Nat) (hpc : pc + 1 = pc') {k : Fin 4} {v : Value} (hd : decode c.code pc = .ok (.aload_n k, 1)) (hl : Ls[k.val]? = some (.val v)) (hv : v.isRef = true) (K : Goes p e below (T.setTop (mkF m pc' Ls (v :: st))) P) : Goes p e below (T.setTop (mkF m pc Ls (st))) P := by
  subst hpc; exact go (fun _ q => XS.aloadN X.here hx rfl hd hl hv q) K
theorem g_aload (X : Stand p l e R s m args below meth c T locs cells slots) (hx : p.tables.exec = Jvm.exec) (pc' : Nat) (hpc : pc + 2 = pc') {k : Nat} {v : Value} (hd : decode c.code pc = .ok (.aload k, 2)) (hl : Ls[k]? = some (.val v)) (hv : v.isRef = true) (K : Goes p e below (T.setTop (mkF m pc' Ls (v :: st))) P) : Goes p e below (T.setTop (mkF m pc Ls (st))) P := by
  subst hpc; exact go (fun _ q => XS.aload X.here hx rfl hd hl hv q) K
theorem g_istore_n (X : Stand p l e R s m args below meth c T locs cells slots) (hx : p.tables.exec = Jvm.exec) (pc' : Nat) (hpc : pc + 1 = pc') {k : Fin 4} {x : Int32} (hd : decode c.code pc = .ok (.istore_n k, 1))  (l' : Array Slot) (hl : storeLocals Ls k.val (.int x) = some l') (K : Goes p e below (T.setTop (mkF m pc' l' st)) P) : Goes p e below (T.setTop (mkF m pc Ls (.int x :: st))) P := by
  subst hpc; exact go (fun _ q => XS.istoreN X.here hx rfl hd rfl hl q) K
theorem g_istore (X : Stand p l e R s m args below meth c T locs cells slots) (hx : p.tables.exec = Jvm.exec) (pc' : Nat) (hpc : pc + 2 = pc') {k : Nat} {x : Int32} (hd : decode c.code pc = .ok (.istore k, 2))  (l' : Array Slot) (hl : storeLocals Ls k (.int x) = some l') (K : Goes p e below (T.setTop (mkF m pc' l' st)) P) : Goes p e below (T.setTop (mkF m pc Ls (.int x :: st))) P := by
  subst hpc; exact go (fun _ q => XS.istore X.here hx rfl hd rfl hl q) K
theorem g_lstore_n (X : Stand p l e R s m args below meth c T locs cells slots) (hx : p.tables.exec = Jvm.exec) (pc' : Nat) (hpc : pc + 1 = pc') {k : Fin 4} {x : Int64} (hd : decode c.code pc = .ok (.lstore_n k, 1))  (l' : Array Slot) (hl : storeLocals Ls k.val (.long x) = some l') (K : Goes p e below (T.setTop (mkF m pc' l' st)) P) : Goes p e below (T.setTop (mkF m pc Ls (.long x :: st))) P := by
  subst hpc; exact go (fun _ q => XT.lstoreN X.here hx rfl hd rfl hl q) K
theorem g_lstore (X : Stand p l e R s m args below meth c T locs cells slots) (hx : p.tables.exec = Jvm.exec) (pc' : Nat) (hpc : pc + 2 = pc') {k : Nat} {x : Int64} (hd : decode c.code pc = .ok (.lstore k, 2))  (l' : Array Slot) (hl : storeLocals Ls k (.long x) = some l') (K : Goes p e below (T.setTop (mkF m pc' l' st)) P) : Goes p e below (T.setTop (mkF m pc Ls (.long x :: st))) P := by
  subst hpc; exact go (fun _ q => XT.lstore X.here hx rfl hd rfl hl q) K
theorem g_astore_n (X : Stand p l e R s m args below meth c T locs cells slots) (hx : p.tables.exec = Jvm.exec) (pc' : Nat) (hpc : pc + 1 = pc') {k : Fin 4} {x : Value} (hd : decode c.code pc = .ok (.astore_n k, 1)) (hv : x.isRef = true) (l' : Array Slot) (hl : storeLocals Ls k.val x = some l') (K : Goes p e below (T.setTop (mkF m pc' l' st)) P) : Goes p e below (T.setTop (mkF m pc Ls (x :: st))) P := by
  subst hpc; exact go (fun _ q => XS.astoreN X.here hx rfl hd rfl hv hl q) K
theorem g_astore (X : Stand p l e R s m args below meth c T locs cells slots) (hx : p.tables.exec = Jvm.exec) (pc' : Nat) (hpc : pc + 2 = pc') {k : Nat} {x : Value} (hd : decode c.code pc = .ok (.astore k, 2)) (hv : x.isRef = true) (l' : Array Slot) (hl : storeLocals Ls k x = some l') (K : Goes p e below (T.setTop (mkF m pc' l' st)) P) : Goes p e below (T.setTop (mkF m pc Ls (x :: st))) P := by
  subst hpc; exact go (fun _ q => XS.astore X.here hx rfl hd rfl hv hl q) K
theorem g_iinc (X : Stand p l e R s m args below meth c T locs cells slots) (hx : p.tables.exec = Jvm.exec) (pc' : Nat) (hpc : pc + 3 = pc') {k : Nat} {cst : Int} {x : Int32} (hd : decode c.code pc = .ok (.iinc k cst, 3)) (v : Int32) (hv : x + Int32.ofInt cst = v) (hl : Ls[k]? = some (.val (.int x))) (l' : Array Slot) (hl' : storeLocals Ls k (.int v) = some l') (K : Goes p e below (T.setTop (mkF m pc' l' st)) P) : Goes p e below (T.setTop (mkF m pc Ls st)) P := by
  subst hpc; subst hv; exact go (fun _ q => XS.iinc X.here hx rfl hd hl hl' q) K
theorem g_goto (X : Stand p l e R s m args below meth c T locs cells slots) (hx : p.tables.exec = Jvm.exec) (pc' : Nat) {o : Int} (hd : decode c.code pc = .ok (.goto o, 3)) (ho : 0 ≤ (pc : Int) + o) (hp : ((pc : Int) + o).toNat = pc') (K : Goes p e below (T.setTop (mkF m pc' Ls st)) P) : Goes p e below (T.setTop (mkF m pc Ls st)) P :=
  go (fun _ q => XS.goto X.here hx rfl rfl hd ho hp q) K
theorem g_ifY (X : Stand p l e R s m args below meth c T locs cells slots) (hx : p.tables.exec = Jvm.exec) (pc' : Nat) {o : Int} {cd : ClassFile.Cond} {x : Int32} (hd : decode c.code pc = .ok (.ifCond cd o, 3)) (hc : ifCond.holds cd x = true) (ho : 0 ≤ (pc : Int) + o) (hp : ((pc : Int) + o).toNat = pc') (K : Goes p e below (T.setTop (mkF m pc' Ls st)) P) : Goes p e below (T.setTop (mkF m pc Ls (.int x :: st))) P :=
  go (fun _ q => XS.ifYes X.here hx rfl rfl hd rfl hc ho hp q) K
theorem g_ifN (X : Stand p l e R s m args below meth c T locs cells slots) (hx : p.tables.exec = Jvm.exec) (pc' : Nat) (hpc : pc + 3 = pc') {o : Int} {cd : ClassFile.Cond} {x : Int32} (hd : decode c.code pc = .ok (.ifCond cd o, 3)) (hc : ifCond.holds cd x = false) (K : Goes p e below (T.setTop (mkF m pc' Ls st)) P) : Goes p e below (T.setTop (mkF m pc Ls (.int x :: st))) P := by
  subst hpc; exact go (fun _ q => XS.ifNo X.here hx rfl hd rfl hc q) K
theorem g_icmpY (X : Stand p l e R s m args below meth c T locs cells slots) (hx : p.tables.exec = Jvm.exec) (pc' : Nat) {o : Int} {cd : ClassFile.Cond} {x y : Int32} (hd : decode c.code pc = .ok (.if_icmp cd o, 3)) (hc : if_icmp.holds cd x y = true) (ho : 0 ≤ (pc : Int) + o) (hp : ((pc : Int) + o).toNat = pc') (K : Goes p e below (T.setTop (mkF m pc' Ls st)) P) : Goes p e below (T.setTop (mkF m pc Ls (.int y :: .int x :: st))) P :=
  go (fun _ q => XS.icmpYes X.here hx rfl rfl hd rfl hc ho hp q) K
theorem g_icmpN (X : Stand p l e R s m args below meth c T locs cells slots) (hx : p.tables.exec = Jvm.exec) (pc' : Nat) (hpc : pc + 3 = pc') {o : Int} {cd : ClassFile.Cond} {x y : Int32} (hd : decode c.code pc = .ok (.if_icmp cd o, 3)) (hc : if_icmp.holds cd x y = false) (K : Goes p e below (T.setTop (mkF m pc' Ls st)) P) : Goes p e below (T.setTop (mkF m pc Ls (.int y :: .int x :: st))) P := by
  subst hpc; exact go (fun _ q => XS.icmpNo X.here hx rfl hd rfl hc q) K
theorem g_acmpY (X : Stand p l e R s m args below meth c T locs cells slots) (hx : p.tables.exec = Jvm.exec) (pc' : Nat) {o : Int} {cd : ClassFile.ACond} {x y : Value} (hd : decode c.code pc = .ok (.if_acmp cd o, 3)) (h1 : x.isRef = true) (h2 : y.isRef = true) (hc : XT.acmp cd x y = true) (ho : 0 ≤ (pc : Int) + o) (hp : ((pc : Int) + o).toNat = pc') (K : Goes p e below (T.setTop (mkF m pc' Ls st)) P) : Goes p e below (T.setTop (mkF m pc Ls (y :: x :: st))) P :=
  go (fun _ q => XT.acmpYes X.here hx rfl rfl hd rfl h1 h2 hc ho hp q) K
theorem g_acmpN (X : Stand p l e R s m args below meth c T locs cells slots) (hx : p.tables.exec = Jvm.exec) (pc' : Nat) (hpc : pc + 3 = pc') {o : Int} {cd : ClassFile.ACond} {x y : Value} (hd : decode c.code pc = .ok (.if_acmp cd o, 3)) (h1 : x.isRef = true) (h2 : y.isRef = true) (hc : XT.acmp cd x y = false) (K : Goes p e below (T.setTop (mkF m pc' Ls st)) P) : Goes p e below (T.setTop (mkF m pc Ls (y :: x :: st))) P := by
  subst hpc; exact go (fun _ q => XT.acmpNo X.here hx rfl hd rfl h1 h2 hc q) K
theorem g_ifnonnullY (X : Stand p l e R s m args below meth c T locs cells slots) (hx : p.tables.exec = Jvm.exec) (pc' : Nat) {o : Int} {b : Addr} (hd : decode c.code pc = .ok (.ifnonnull o, 3)) (ho : 0 ≤ (pc : Int) + o) (hp : ((pc : Int) + o).toNat = pc') (K : Goes p e below (T.setTop (mkF m pc' Ls st)) P) : Goes p e below (T.setTop (mkF m pc Ls (.ref b :: st))) P :=
  go (fun _ q => XT.ifnonnullYes X.here hx rfl rfl hd rfl ho hp q) K
theorem g_ifnonnullN (X : Stand p l e R s m args below meth c T locs cells slots) (hx : p.tables.exec = Jvm.exec) (pc' : Nat) (hpc : pc + 3 = pc') {o : Int} (hd : decode c.code pc = .ok (.ifnonnull o, 3)) (K : Goes p e below (T.setTop (mkF m pc' Ls st)) P) : Goes p e below (T.setTop (mkF m pc Ls (.null :: st))) P := by
  subst hpc; exact go (fun _ q => XT.ifnonnullNo X.here hx rfl hd rfl q) K
def b2i (b : Bool) : Int32 := if b then 1 else 0
theorem b2i_nar (b : Bool) : narrow .boolean (.int (b2i b)) = .int (b2i b) := by cases b <;> rfl
theorem bb_eq_t {b : Bool} (q : ¬ b = true) : ifCond.holds .eq (b2i b) = true := by cases b <;> first | rfl | exact absurd rfl q
theorem bb_eq_f {b : Bool} (q : b = true) : ifCond.holds .eq (b2i b) = false := by subst q; rfl
theorem bb_ne_t {b : Bool} (q : b = true) : ifCond.holds .ne (b2i b) = true := by subst q; rfl
theorem bb_ne_f {b : Bool} (q : ¬ b = true) : ifCond.holds .ne (b2i b) = false := by cases b <;> first | rfl | exact absurd rfl q
theorem b2_eq_t {a b : Bool} (q : a = b) : if_icmp.holds .eq (b2i a) (b2i b) = true := by subst q; cases a <;> rfl
theorem b2_eq_f {a b : Bool} (q : ¬ a = b) : if_icmp.holds .eq (b2i a) (b2i b) = false := by cases a <;> cases b <;> first | rfl | exact absurd rfl q
theorem b2_ne_t {a b : Bool} (q : ¬ a = b) : if_icmp.holds .ne (b2i a) (b2i b) = true := by cases a <;> cases b <;> first | rfl | exact absurd rfl q
theorem b2_ne_f {a b : Bool} (q : a = b) : if_icmp.holds .ne (b2i a) (b2i b) = false := by subst q; cases a <;> rfl
theorem g_getF (X : Stand p l e R s m args below meth c T locs cells slots) (hx : p.tables.exec = Jvm.exec) (hZ : Z.Warmed39 s.vm) (pc' : Nat) (hpc : pc + 3 = pc') {own O n d : String} {index : Nat} (hown : s.vm.findClass own = some m.cls) (w : (Jvm.Cond.fieldLink own index O n d).before a0 Z = true) (eT : T.heap = h) {a : Addr} {v : Value} (F : Fld Z h a O n d v) (hd : decode c.code pc = .ok (.getfield index, 3)) (K : ∀ T', Stand p l e R s m args below meth c T' locs cells slots → T'.heap = h → Goes p e below (T'.setTop (mkF m pc' Ls (v :: st))) P) : Goes p e below (T.setTop (mkF m pc Ls (.ref a :: st))) P := by
  subst hpc
  obtain ⟨T', X', e', st'⟩ := getF X hx hZ hown (host := "") (Or.inl w) Via.refl eT F (g := mkF m pc Ls (.ref a :: st)) rfl rfl hd
  exact go st' (K T' X' e')
theorem g_putF (X : Stand p l e R s m args below meth c T locs cells slots) (hx : p.tables.exec = Jvm.exec) (hZ : Z.Warmed39 s.vm) (pc' : Nat) (hpc : pc + 3 = pc') {own O n d C : String} {index kk : Nat} {ty : FieldType} (hown : s.vm.findClass own = some m.cls) (w : (Jvm.Cond.fieldLink own index O n d).before a0 Z = true) (eT : T.heap = h) {a : Addr} {v old : Value} (F : Fld Z h a O n d old) (E : Exa Z h a C) (L : (Jvm.Cond.lays C O n d).before a0 Z = true ∨ ((Jvm.Cond.laysFinal C O n d).before a0 Z = true ∧ own = O ∧ meth.name = "<init>")) (wi : (Jvm.Cond.instantiable C kk).before a0 Z = true) (hty : parseFieldDescriptor d = some ty) (hn : narrow ty v = v) (hf : fits ty v = true) (hd : decode c.code pc = .ok (.putfield index, 3)) (K : ∀ T' h', Stand p l e R s m args below meth c T' (locs ++ [⟨a, Jvm.RoadKit.slotOf Z O n d⟩]) cells slots → T'.heap = h' → Wr h h' a (Jvm.RoadKit.slotOf Z O n d) v → Goes p e below (T'.setTop (mkF m pc' Ls st)) P) : Goes p e below (T.setTop (mkF m pc Ls (v :: .ref a :: st))) P := by
  subst hpc
  obtain ⟨T', h', X', e', W', st'⟩ := putF X hx hZ hown (host := "") (Or.inl w) Via.refl eT F E L wi hty hn hf (g := mkF m pc Ls (v :: .ref a :: st)) rfl rfl hd
  exact go st' (K T' h' X' e' W')
theorem g_getS (X : Stand p l e R s m args below meth c T locs cells slots) (hx : p.tables.exec = Jvm.exec) (hZ : Z.Warmed39 s.vm) (pc' : Nat) (hpc : pc + 3 = pc') {own O n d : String} {index : Nat} (hown : s.vm.findClass own = some m.cls) (w : (Jvm.Cond.fieldLink own index O n d).before a0 Z = true) (eT : T.heap = h) {v : Value} (F : Sta Z h O n d v) (hd : decode c.code pc = .ok (.getstatic index, 3)) (K : ∀ T', Stand p l e R s m args below meth c T' locs cells slots → T'.heap = h → Goes p e below (T'.setTop (mkF m pc' Ls (v :: st))) P) : Goes p e below (T.setTop (mkF m pc Ls st)) P := by
  subst hpc
  obtain ⟨T', X', e', st'⟩ := getS (host := "") X hx hZ hown w Via.refl eT F (g := mkF m pc Ls st) rfl hd
  exact go st' (K T' X' e')
theorem g_new (X : Stand p l e R s m args below meth c T locs cells slots) (hx : p.tables.exec = Jvm.exec) (hZ : Z.Warmed39 s.vm) (pc' : Nat) (hpc : pc + 3 = pc') {own C : String} {index n : Nat} (hown : s.vm.findClass own = some m.cls) (w : (Jvm.Cond.classLink own index C).before a0 Z = true) (wi : (Jvm.Cond.instantiable C n).before a0 Z = true) (wz : (Jvm.Cond.initialized C).before a0 Z = true) (eT : T.heap = h) (hd : decode c.code pc = .ok (.new index, 3)) (hc : cells + 1 ≤ R.cells) (hl : slots + n ≤ R.slots) (K : ∀ T' h' a, a = h.size → Stand p l e R s m args below meth c T' locs (cells + 1) (slots + n) → T'.heap = h' → Ext h h' → Exa Z h' a C → (∀ {O nm d : String} {ty : FieldType}, Laid Z a0 C O nm d → parseFieldDescriptor d = some ty → Fld Z h' a O nm d (defaultValue ty)) → Goes p e below (T'.setTop (mkF m pc' Ls (.ref a :: st))) P) : Goes p e below (T.setTop (mkF m pc Ls st)) P := by
  subst hpc
  obtain ⟨T', h', X', e', E', A', D', -, st'⟩ := newO X hx hZ hown w wi wz eT (g := mkF m pc Ls st) rfl hd hc hl
  exact go st' (K T' h' _ rfl X' e' E' A' D')
theorem g_initO (X : Stand p l e R s m args below meth c T locs cells slots) (hx : p.tables.exec = Jvm.exec) (hZ : Z.Warmed39 s.vm) (pc' : Nat) (hpc : pc + 3 = pc') {own : String} {idx : Nat} (hown : s.vm.findClass own = some m.cls) (w1 : (Jvm.Cond.methodLink own idx Lib.objectInit).before a0 Z = true) (w2 : (Jvm.Cond.instanceMethod Lib.objectInit).before a0 Z = true) (w3 : (Jvm.Cond.code Lib.objectInit ⟨#[0xb1]⟩ 1 none).before a0 Z = true) (eT : T.heap = h) (hsize : Ls.size = c.maxLocals) {a : Addr} (hd : decode c.code pc = .ok (.invokespecial idx, 3)) (hf : 1 ≤ R.frames) (W : Nat) (hW : 2 * 0 + (st.map fun v => v.category).sum ≤ W) (hl : W + 12 ≤ R.locals) (K : ∀ T', Stand p l e R s m args below meth c T' locs cells slots → T'.heap = h → Goes p e below (T'.setTop (mkF m pc' Ls st)) P) : Goes p e below (T.setTop (mkF m pc Ls (.ref a :: st))) P := by
  subst hpc
  obtain ⟨T', X', e', st'⟩ := initO X hx hZ hown w1 w2 w3 eT (g := mkF m pc Ls (.ref a :: st)) rfl hsize rfl hd hf hW hl
  exact go st' (K T' X' e')
theorem g_callS (X : Stand p l e R s m args below meth c T locs cells slots) (hx : p.tables.exec = Jvm.exec) (hZ : Z.Warmed39 s.vm) (pc' : Nat) (hpc : pc + 3 = pc') {own : String} {index : Nat} {y : MethodName} {bytes : ByteArray} {maxL : Nat} {ret : Option FieldType} {rm : Room} {Q : Option Value → Heap → List Loc → Prop} (hown : s.vm.findClass own = some m.cls) (w1 : (Jvm.Cond.methodLink own index y).before a0 Z = true) (w2 : (Jvm.Cond.static y).before a0 Z = true) (w3 : (Jvm.Cond.initialized y.cls).before a0 Z = true) (w4 : (Jvm.Cond.code y bytes maxL ret).before a0 Z = true) (hy : y.cls ≠ "java/lang/invoke/MethodHandle" ∧ y.cls ≠ "java/lang/invoke/VarHandle") (argsL rest : List Value) (hM : OwnMet l Z y bytes maxL ret [] rm argsL.toArray h Q) (eT : T.heap = h) (hlen : ∀ sig, parseMethodDescriptor y.desc = some sig → argsL.length = sig.parameters.length) (hst : st = argsL.reverse ++ rest) (hsize : Ls.size = c.maxLocals) (hd : decode c.code pc = .ok (.invokestatic index, 3)) (hf : rm.frames + 1 ≤ R.frames) (W : Nat) (hW : 2 * 0 + (rest.map fun v => v.category).sum ≤ W) (hl : W + (maxL + 11) + rm.locals ≤ R.locals) (hc : cells + rm.cells ≤ R.cells) (hs : slots + rm.slots ≤ R.slots) (K : ∀ v T' L', Stand p l e R s m args below meth c T' (locs ++ L') (cells + rm.cells) (slots + rm.slots) → Q v T'.heap L' → Goes p e below (T'.setTop (mkF m pc' Ls (v.toList ++ rest))) P) : Goes p e below (T.setTop (mkF m pc Ls st)) P := by
  subst hpc; subst hst
  obtain ⟨v, _, ⟨T', L', k', n'⟩, -, X', ⟨Lc, hQ, e1, e2, e3⟩, st'⟩ := Jvm.LawKit.callS X hx (y := y) hown (mvT hZ w1) (mvT hZ w2) (mvT hZ w3) (mvT hZ w4) hy (backOf (W := W) hM hZ w4 w3 hf hl) (g := mkF m pc Ls (argsL.reverse ++ rest)) rfl hsize (argsL := argsL) (rest := rest) hlen rfl hW hd (fun _ _ => ⟨rfl, eT, hc, hs⟩)
  dsimp only [Pt.U, Pt.locs, Pt.cells, Pt.slots] at X' e1 e2 e3 st' hQ
  subst e1 e2 e3
  exact go st' (K v T' Lc X' hQ)
theorem g_callI (X : Stand p l e R s m args below meth c T locs cells slots) (hx : p.tables.exec = Jvm.exec) (hZ : Z.Warmed39 s.vm) (pc' : Nat) (hpc : pc + 3 = pc') {own : String} {index : Nat} {y : MethodName} {bytes : ByteArray} {maxL : Nat} {rm : Room} {Q : Option Value → Heap → List Loc → Prop} (hy1 : y.name = "<init>") (hown : s.vm.findClass own = some m.cls) (w1 : (Jvm.Cond.methodLink own index y).before a0 Z = true) (w2 : (Jvm.Cond.instanceMethod y).before a0 Z = true) (w3 : (Jvm.Cond.initialized y.cls).before a0 Z = true) (w4 : (Jvm.Cond.code y bytes maxL none).before a0 Z = true) (hy : y.cls ≠ "java/lang/invoke/MethodHandle" ∧ y.cls ≠ "java/lang/invoke/VarHandle") (a : Addr) (argsL rest : List Value) (hM : OwnMet l Z y bytes maxL none [] rm (.ref a :: argsL).toArray h Q) (eT : T.heap = h) (hlen : ∀ sig, parseMethodDescriptor y.desc = some sig → argsL.length = sig.parameters.length) (hst : st = argsL.reverse ++ .ref a :: rest) (hsize : Ls.size = c.maxLocals) (hd : decode c.code pc = .ok (.invokespecial index, 3)) (hf : rm.frames + 1 ≤ R.frames) (W : Nat) (hW : 2 * 0 + (rest.map fun v => v.category).sum ≤ W) (hl : W + (maxL + 11) + rm.locals ≤ R.locals) (hc : cells + rm.cells ≤ R.cells) (hs : slots + rm.slots ≤ R.slots) (K : ∀ v T' L', Stand p l e R s m args below meth c T' (locs ++ L') (cells + rm.cells) (slots + rm.slots) → Q v T'.heap L' → Goes p e below (T'.setTop (mkF m pc' Ls (v.toList ++ rest))) P) : Goes p e below (T.setTop (mkF m pc Ls st)) P := by
  subst hpc; subst hst
  obtain ⟨v, _, ⟨T', L', k', n'⟩, -, X', ⟨Lc, hQ, e1, e2, e3⟩, st'⟩ := X.specialBack hx (y := y) hy1 hown (mvT hZ w1) (mvT hZ w2) (mvT hZ w4) hy (backOf (W := W) hM hZ w4 w3 hf hl) (g := mkF m pc Ls (argsL.reverse ++ .ref a :: rest)) rfl hsize (Steps.refl _) (a := a) (argsL := argsL) (rest := rest) hlen rfl hW hd (fun _ _ => ⟨rfl, eT, hc, hs⟩)
  dsimp only [Pt.U, Pt.locs, Pt.cells, Pt.slots] at X' e1 e2 e3 st' hQ
  subst e1 e2 e3
  exact goT st' (K v T' Lc X' hQ)
theorem g_callV (X : Stand p l e R s m args below meth c T locs cells slots) (hx : p.tables.exec = Jvm.exec) (hZ : Z.Warmed39 s.vm) (pc' : Nat) (hpc : pc + 3 = pc') {own C : String} {index : Nat} {y : MethodName} {bytes : ByteArray} {maxL : Nat} {ret : Option FieldType} {rm : Room} {Q : Option Value → Heap → List Loc → Prop} (hown : s.vm.findClass own = some m.cls) (w1 : (Jvm.Cond.methodLink own index y).before a0 Z = true) (w2 : (Jvm.Cond.declares y).before a0 Z = true) (w5 : (Jvm.Cond.selects C y y).before a0 Z = true) (w6 : (Jvm.Cond.instanceMethod y).before a0 Z = true) (w3 : (Jvm.Cond.initialized y.cls).before a0 Z = true) (w4 : (Jvm.Cond.code y bytes maxL ret).before a0 Z = true) (hy : y.cls ≠ "java/lang/invoke/MethodHandle" ∧ y.cls ≠ "java/lang/invoke/VarHandle") (a : Addr) (argsL rest : List Value) (hM : OwnMet l Z y bytes maxL ret [] rm (.ref a :: argsL).toArray h Q) (eT : T.heap = h) (Ex : Exa Z h a C) (hlen : ∀ sig, parseMethodDescriptor y.desc = some sig → argsL.length = sig.parameters.length) (hst : st = argsL.reverse ++ .ref a :: rest) (hsize : Ls.size = c.maxLocals) (hd : decode c.code pc = .ok (.invokevirtual index, 3)) (hf : rm.frames + 1 ≤ R.frames) (W : Nat) (hW : 2 * 0 + (rest.map fun v => v.category).sum ≤ W) (hl : W + (maxL + 11) + rm.locals ≤ R.locals) (hc : cells + rm.cells ≤ R.cells) (hs : slots + rm.slots ≤ R.slots) (K : ∀ v T' L', Stand p l e R s m args below meth c T' (locs ++ L') (cells + rm.cells) (slots + rm.slots) → Q v T'.heap L' → Goes p e below (T'.setTop (mkF m pc' Ls (v.toList ++ rest))) P) : Goes p e below (T.setTop (mkF m pc Ls st)) P := by
  subst hpc; subst hst
  obtain ⟨cq, kq, qa, qb, qc⟩ := isOf hZ eT Ex
  obtain ⟨v, _, ⟨T', L', k', n'⟩, -, X', ⟨Lc, hQ, e1, e2, e3⟩, st'⟩ := X.virtualBack hx (y := y) (z := y) hown (mvT hZ w1) (mvT hZ w2) (notFace_of_selects (args := #[]) (mvT hZ w5)) (mvT hZ w5) (mvT hZ w6) hy (backOf (W := W) hM hZ w4 w3 hf hl) qa qc (g := mkF m pc Ls (argsL.reverse ++ .ref a :: rest)) rfl hsize (Steps.refl _) (argsL := argsL) (rest := rest) hlen rfl hW hd (fun _ _ => ⟨rfl, eT, hc, hs⟩)
  dsimp only [Pt.U, Pt.locs, Pt.cells, Pt.slots] at X' e1 e2 e3 st' hQ
  subst e1 e2 e3
  exact goT st' (K v T' Lc X' hQ)
def Al (Z : State) (h : Heap) (a : Addr) (ty : FieldType) (vs : List Value) : Prop := ∃ c : Cell, Arr Z h a c ty ∧ c.slots.toList = vs ∧ vs.length < 2147483648
theorem Al.lt {a : Addr} {ty : FieldType} {vs : List Value} (F : Al Z h a ty vs) : a < h.size := by obtain ⟨c, A, -⟩ := F; exact A.lt
theorem Al.ext {h' : Heap} {a : Addr} {ty : FieldType} {vs : List Value} (F : Al Z h a ty vs) (E : Ext h h') : Al Z h' a ty vs := by obtain ⟨c, A, r⟩ := F; exact ⟨c, A.ext E, r⟩
theorem Al.other {h' : Heap} {a b : Addr} {sl : Nat} {v : Value} {ty : FieldType} {vs : List Value} (F : Al Z h b ty vs) (W : Wr h h' a sl v) (q : b ≠ a) : Al Z h' b ty vs := by obtain ⟨c, A, r⟩ := F; exact ⟨c, A.other W q, r⟩
theorem Al.keep {h' : Heap} {a : Addr} {ws : List Addr} {ty : FieldType} {vs : List Value} (F : Al Z h a ty vs) (K : Keep h h' ws) (q : a ∉ ws) : Al Z h' a ty vs := by obtain ⟨c, A, r⟩ := F; exact ⟨c, ⟨K.2.1 a c A.1 q, A.2⟩, r⟩
theorem Al.same {h' : Heap} {a : Addr} {i : Nat} {v : Value} {ty : FieldType} {vs : List Value} (F : Al Z h a ty vs) (W : Wr h h' a i v) : Al Z h' a ty (vs.set i v) := by
  obtain ⟨c, A, r1, r2⟩ := F
  exact ⟨_, A.same W, by rw [← r1]; simp [Cell.setSlot], by rw [List.length_set]; exact r2⟩
theorem own_ix {j : Int32} {i : Nat} (hj : j.toInt = (i : Int)) : j.toNatClampNeg = i ∧ ¬ j < 0 := by
  refine ⟨by simp only [Int32.toNatClampNeg]; omega, fun q => ?_⟩
  rw [Int32.lt_iff_toInt_lt] at q; simp only [Int32.reduceToInt] at q; omega
theorem Al.cell {a : Addr} {ty : FieldType} {vs : List Value} (F : Al Z h a ty vs) {j : Int32} {i : Nat} (hj : j.toInt = (i : Int)) (hi : i < vs.length) : ∃ c : Cell, Arr Z h a c ty ∧ c.slots.toList = vs ∧ ¬ (j < 0 ∨ c.slots.size ≤ j.toNatClampNeg) ∧ c.slots[j.toNatClampNeg]? = vs[i]? := by
  obtain ⟨c, A, r1, r2⟩ := F
  obtain ⟨q1, q2⟩ := own_ix hj
  have hs : c.slots.size = vs.length := by rw [← r1]; simp
  exact ⟨c, A, r1, fun q => q.elim q2 (by rw [q1, hs]; omega), by rw [q1, ← r1, Array.getElem?_toList]⟩
theorem g_alen (X : Stand p l e R s m args below meth c T locs cells slots) (hx : p.tables.exec = Jvm.exec) (hZ : Z.Warmed39 s.vm) (pc' : Nat) (hpc : pc + 1 = pc') (hd : decode c.code pc = .ok (.arraylength, 1)) (eT : T.heap = h) {a : Addr} {ty : FieldType} {vs : List Value} (A : Al Z h a ty vs) (n : Int32) (hn : Int32.ofNat vs.length = n) (K : Goes p e below (T.setTop (mkF m pc' Ls (.int n :: st))) P) : Goes p e below (T.setTop (mkF m pc Ls (.ref a :: st))) P := by
  subst hpc
  obtain ⟨c, A, r1, r2⟩ := A
  have hs : c.slots.size.toInt32 = n := by rw [← hn, ← r1]; simp
  exact go (fun _ q => X.arraylength hx (by rw [eT]; exact A.1) (State.isArrayOf_alike hZ.alike A.2.1) (g := mkF m pc Ls (.ref a :: st)) rfl rfl hd _ (by rw [hs]; exact q)) K
theorem g_iaload (X : Stand p l e R s m args below meth c T locs cells slots) (hx : p.tables.exec = Jvm.exec) (hZ : Z.Warmed39 s.vm) (pc' : Nat) (hpc : pc + 1 = pc') (hd : decode c.code pc = .ok (.iaload, 1)) (eT : T.heap = h) {a : Addr} {vs : List Value} (A : Al Z h a .int vs) {j : Int32} (i : Nat) (hj : j.toInt = (i : Int)) (v : Value) (hv : vs[i]? = some v) (K : Goes p e below (T.setTop (mkF m pc' Ls (v :: st))) P) : Goes p e below (T.setTop (mkF m pc Ls (.int j :: .ref a :: st))) P := by
  subst hpc
  obtain ⟨c, A, r1, r2, r3⟩ := A.cell hj (List.getElem?_eq_some_iff.mp hv).1
  exact go (fun _ q => X.iaload hx (by rw [eT]; exact A.1) (State.isArrayOf_alike hZ.alike A.2.1) A.2.2 r2 (r3.trans hv) (g := mkF m pc Ls (.int j :: .ref a :: st)) rfl rfl hd _ q) K
theorem g_laload (X : Stand p l e R s m args below meth c T locs cells slots) (hx : p.tables.exec = Jvm.exec) (hZ : Z.Warmed39 s.vm) (pc' : Nat) (hpc : pc + 1 = pc') (hd : decode c.code pc = .ok (.laload, 1)) (eT : T.heap = h) {a : Addr} {vs : List Value} (A : Al Z h a .long vs) {j : Int32} (i : Nat) (hj : j.toInt = (i : Int)) (v : Value) (hv : vs[i]? = some v) (K : Goes p e below (T.setTop (mkF m pc' Ls (v :: st))) P) : Goes p e below (T.setTop (mkF m pc Ls (.int j :: .ref a :: st))) P := by
  subst hpc
  obtain ⟨c, A, r1, r2, r3⟩ := A.cell hj (List.getElem?_eq_some_iff.mp hv).1
  exact go (fun _ q => X.laload hx (by rw [eT]; exact A.1) (State.isArrayOf_alike hZ.alike A.2.1) A.2.2 r2 (r3.trans hv) (g := mkF m pc Ls (.int j :: .ref a :: st)) rfl rfl hd _ q) K
theorem g_baload (X : Stand p l e R s m args below meth c T locs cells slots) (hx : p.tables.exec = Jvm.exec) (hZ : Z.Warmed39 s.vm) (pc' : Nat) (hpc : pc + 1 = pc') (hd : decode c.code pc = .ok (.baload, 1)) (eT : T.heap = h) {a : Addr} {vs : List Value} (A : Al Z h a .byte vs) {j : Int32} (i : Nat) (hj : j.toInt = (i : Int)) (v : Value) (hv : vs[i]? = some v) (K : Goes p e below (T.setTop (mkF m pc' Ls (v :: st))) P) : Goes p e below (T.setTop (mkF m pc Ls (.int j :: .ref a :: st))) P := by
  subst hpc
  obtain ⟨c, A, r1, r2, r3⟩ := A.cell hj (List.getElem?_eq_some_iff.mp hv).1
  exact go (fun _ q => X.baloadBytes hx (by rw [eT]; exact A.1) (State.isArrayOf_alike hZ.alike A.2.1) A.2.2 r2 (r3.trans hv) (g := mkF m pc Ls (.int j :: .ref a :: st)) rfl rfl hd _ q) K
theorem g_caload (X : Stand p l e R s m args below meth c T locs cells slots) (hx : p.tables.exec = Jvm.exec) (hZ : Z.Warmed39 s.vm) (pc' : Nat) (hpc : pc + 1 = pc') (hd : decode c.code pc = .ok (.caload, 1)) (eT : T.heap = h) {a : Addr} {vs : List Value} (A : Al Z h a .char vs) {j : Int32} (i : Nat) (hj : j.toInt = (i : Int)) (v : Value) (hv : vs[i]? = some v) (K : Goes p e below (T.setTop (mkF m pc' Ls (v :: st))) P) : Goes p e below (T.setTop (mkF m pc Ls (.int j :: .ref a :: st))) P := by
  subst hpc
  obtain ⟨c, A, r1, r2, r3⟩ := A.cell hj (List.getElem?_eq_some_iff.mp hv).1
  exact go (fun _ q => X.caload hx (by rw [eT]; exact A.1) (State.isArrayOf_alike hZ.alike A.2.1) A.2.2 r2 (r3.trans hv) (g := mkF m pc Ls (.int j :: .ref a :: st)) rfl rfl hd _ q) K
theorem g_iastore (X : Stand p l e R s m args below meth c T locs cells slots) (hx : p.tables.exec = Jvm.exec) (hZ : Z.Warmed39 s.vm) (pc' : Nat) (hpc : pc + 1 = pc') (hd : decode c.code pc = .ok (.iastore, 1)) (eT : T.heap = h) {a : Addr} {vs : List Value} (A : Al Z h a .int vs) {j : Int32} {x : Int32} (i : Nat) (hj : j.toInt = (i : Int)) (hi : i < vs.length) (K : ∀ T' h', Stand p l e R s m args below meth c T' (locs ++ [⟨a, i⟩]) cells slots → T'.heap = h' → Wr h h' a i (.int x) → Al Z h' a .int (vs.set i (.int x)) → Goes p e below (T'.setTop (mkF m pc' Ls st)) P) : Goes p e below (T.setTop (mkF m pc Ls (.int x :: .int j :: .ref a :: st))) P := by
  subst hpc
  obtain ⟨c, Ar, r1, r2, r3⟩ := A.cell hj hi
  obtain ⟨T', h', X', e', W', st'⟩ := stI X hx hZ eT Ar r2 (g := mkF m pc Ls (.int x :: .int j :: .ref a :: st)) rfl rfl hd
  rw [(own_ix hj).1] at X' W'
  exact go st' (K T' h' X' e' W' (A.same W'))
theorem g_lastore (X : Stand p l e R s m args below meth c T locs cells slots) (hx : p.tables.exec = Jvm.exec) (hZ : Z.Warmed39 s.vm) (pc' : Nat) (hpc : pc + 1 = pc') (hd : decode c.code pc = .ok (.lastore, 1)) (eT : T.heap = h) {a : Addr} {vs : List Value} (A : Al Z h a .long vs) {j : Int32} {x : Int64} (i : Nat) (hj : j.toInt = (i : Int)) (hi : i < vs.length) (K : ∀ T' h', Stand p l e R s m args below meth c T' (locs ++ [⟨a, i⟩]) cells slots → T'.heap = h' → Wr h h' a i (.long x) → Al Z h' a .long (vs.set i (.long x)) → Goes p e below (T'.setTop (mkF m pc' Ls st)) P) : Goes p e below (T.setTop (mkF m pc Ls (.long x :: .int j :: .ref a :: st))) P := by
  subst hpc
  obtain ⟨c, Ar, r1, r2, r3⟩ := A.cell hj hi
  obtain ⟨T', h', X', e', W', st'⟩ := stJ X hx hZ eT Ar r2 (g := mkF m pc Ls (.long x :: .int j :: .ref a :: st)) rfl rfl hd
  rw [(own_ix hj).1] at X' W'
  exact go st' (K T' h' X' e' W' (A.same W'))
theorem g_bastore (X : Stand p l e R s m args below meth c T locs cells slots) (hx : p.tables.exec = Jvm.exec) (hZ : Z.Warmed39 s.vm) (pc' : Nat) (hpc : pc + 1 = pc') (hd : decode c.code pc = .ok (.bastore, 1)) (eT : T.heap = h) {a : Addr} {vs : List Value} (A : Al Z h a .byte vs) {j : Int32} {x : Int32} (i : Nat) (hj : j.toInt = (i : Int)) (hi : i < vs.length) (K : ∀ T' h', Stand p l e R s m args below meth c T' (locs ++ [⟨a, i⟩]) cells slots → T'.heap = h' → Wr h h' a i (.int (nar .byte x)) → Al Z h' a .byte (vs.set i (.int (nar .byte x))) → Goes p e below (T'.setTop (mkF m pc' Ls st)) P) : Goes p e below (T.setTop (mkF m pc Ls (.int x :: .int j :: .ref a :: st))) P := by
  subst hpc
  obtain ⟨c, Ar, r1, r2, r3⟩ := A.cell hj hi
  obtain ⟨T', h', X', e', W', st'⟩ := stB X hx hZ eT Ar r2 (g := mkF m pc Ls (.int x :: .int j :: .ref a :: st)) rfl rfl hd
  rw [(own_ix hj).1] at X' W'
  exact go st' (K T' h' X' e' W' (A.same W'))
theorem g_castore (X : Stand p l e R s m args below meth c T locs cells slots) (hx : p.tables.exec = Jvm.exec) (hZ : Z.Warmed39 s.vm) (pc' : Nat) (hpc : pc + 1 = pc') (hd : decode c.code pc = .ok (.castore, 1)) (eT : T.heap = h) {a : Addr} {vs : List Value} (A : Al Z h a .char vs) {j : Int32} {x : Int32} (i : Nat) (hj : j.toInt = (i : Int)) (hi : i < vs.length) (K : ∀ T' h', Stand p l e R s m args below meth c T' (locs ++ [⟨a, i⟩]) cells slots → T'.heap = h' → Wr h h' a i (.int (nar .char x)) → Al Z h' a .char (vs.set i (.int (nar .char x))) → Goes p e below (T'.setTop (mkF m pc' Ls st)) P) : Goes p e below (T.setTop (mkF m pc Ls (.int x :: .int j :: .ref a :: st))) P := by
  subst hpc
  obtain ⟨c, Ar, r1, r2, r3⟩ := A.cell hj hi
  obtain ⟨T', h', X', e', W', st'⟩ := stC X hx hZ eT Ar r2 (g := mkF m pc Ls (.int x :: .int j :: .ref a :: st)) rfl rfl hd
  rw [(own_ix hj).1] at X' W'
  exact go st' (K T' h' X' e' W' (A.same W'))
theorem g_newarr (X : Stand p l e R s m args below meth c T locs cells slots) (hx : p.tables.exec = Jvm.exec) (hZ : Z.Warmed39 s.vm) (pc' : Nat) (hpc : pc + 2 = pc') {aty : ArrayType} (w : (Jvm.Cond.arrayClass (newarray.typeOf aty)).before a0 Z = true) (eT : T.heap = h) (hd : decode c.code pc = .ok (.newarray aty, 2)) {n : Int32} (k : Nat) (hn : n.toInt = (k : Int)) (cap : Nat) (hcap : k ≤ cap) (hb : cap * 8 ≤ 536870912) (hc : cells + 1 ≤ R.cells) (hl : slots + cap ≤ R.slots) (ad : String) (had : "[" ++ (newarray.typeOf aty).toString = ad) (K : ∀ T' h' a, a = h.size → Stand p l e R s m args below meth c T' locs (cells + 1) (slots + cap) → T'.heap = h' → Ext h h' → Al Z h' a (newarray.typeOf aty) (List.replicate k (defaultValue (newarray.typeOf aty))) → Exa Z h' a ad → Goes p e below (T'.setTop (mkF m pc' Ls (.ref a :: st))) P) : Goes p e below (T.setTop (mkF m pc Ls (.int n :: st))) P := by
  subst hpc
  obtain ⟨q1, q2⟩ := own_ix hn
  obtain ⟨T', h', cA, X', e', E', A', Ex', st'⟩ := newPE X hx hZ w eT (g := mkF m pc Ls (.int n :: st)) rfl hd rfl q2 (cap := cap) (by rw [q1]; exact hcap) hb hc hl had
  refine go st' (K T' h' _ rfl X' e' E' ⟨_, A', by simp [newA, q1], ?_⟩ Ex')
  rw [List.length_replicate]
  have := Int32.toInt_lt n
  omega
theorem own_narb (x : Int32) : nar .byte x.toInt8.toInt32 = x.toInt8.toInt32 := by show x.toInt8.toInt32.toInt8.toInt32 = _; simp
theorem g_cast (X : Stand p l e R s m args below meth c T locs cells slots) (hx : p.tables.exec = Jvm.exec) (hZ : Z.Warmed39 s.vm) (pc' : Nat) (hpc : pc + 3 = pc') {own K : String} {index : Nat} (hown : s.vm.findClass own = some m.cls) (w : (Jvm.Cond.classLink own index K).before a0 Z = true) (eT : T.heap = h) {a : Addr} (F : Ins Z h a K true) (hd : decode c.code pc = .ok (.checkcast index, 3)) (K2 : ∀ T', Stand p l e R s m args below meth c T' locs cells slots → T'.heap = h → Goes p e below (T'.setTop (mkF m pc' Ls (.ref a :: st))) P) : Goes p e below (T.setTop (mkF m pc Ls (.ref a :: st))) P := by
  subst hpc
  obtain ⟨T', X', e', st'⟩ := castY X hx hZ hown w eT F (g := mkF m pc Ls (.ref a :: st)) rfl rfl hd
  exact go st' (K2 T' X' e')
theorem own_fitc {a : Addr} {ty : FieldType} {vs : List Value} {c : Cell} (A : Arr Z h a c ty) (r : c.slots.toList = vs) (hfit : ∀ v ∈ vs, fits ty v = true) : FitC Z c := fitC_of A fun i hi v hv => hfit v (by rw [← r]; rw [← Array.getElem?_toList] at hv; exact List.mem_of_getElem? hv)
theorem g_clone (X : Stand p l e R s m args below meth c T locs cells slots) (hx : p.tables.exec = Jvm.exec) (hZ : Z.Warmed39 s.vm) (pc' : Nat) (hpc : pc + 3 = pc') {own ad : String} {index : Nat} (hown : s.vm.findClass own = some m.cls) (w1 : (Jvm.Cond.methodLink own index ⟨ad, "clone", "()Ljava/lang/Object;"⟩).before a0 Z = true) (w2 : (Jvm.Cond.sameMethod ad "java/lang/Object" "clone" "()Ljava/lang/Object;").before a0 Z = true) (w3 : (Jvm.Cond.native ⟨"java/lang/Object", "clone", "()Ljava/lang/Object;"⟩).before a0 Z = true) (w4 : (Jvm.Cond.instanceMethod ⟨"java/lang/Object", "clone", "()Ljava/lang/Object;"⟩).before a0 Z = true) (w5 : (Jvm.Cond.selects ad ⟨ad, "clone", "()Ljava/lang/Object;"⟩ ⟨"java/lang/Object", "clone", "()Ljava/lang/Object;"⟩).before a0 Z = true) (w6 : (Jvm.Cond.castable ad "java/lang/Cloneable").before a0 Z = true) (eT : T.heap = h) {a : Addr} {ty : FieldType} {vs : List Value} (A : Al Z h a ty vs) (Ex : Exa Z h a ad) (hfit : ∀ v ∈ vs, fits ty v = true) (hd : decode c.code pc = .ok (.invokevirtual index, 3)) (hsize : Ls.size = c.maxLocals) (hf : 1 ≤ R.frames) (W : Nat) (hW : 2 * 0 + (st.map fun v => v.category).sum ≤ W) (hl : W + 14 ≤ R.locals) (cap : Nat) (hcap : vs.length ≤ cap) (hc : cells + 1 ≤ R.cells) (hs : slots + cap ≤ R.slots) (K : ∀ T' h' b, b = h.size → Stand p l e R s m args below meth c T' locs (cells + 1) (slots + cap) → T'.heap = h' → Ext h h' → Al Z h' b ty vs → Exa Z h' b ad → Goes p e below (T'.setTop (mkF m pc' Ls (.ref b :: st))) P) : Goes p e below (T.setTop (mkF m pc Ls (.ref a :: st))) P := by
  subst hpc
  obtain ⟨c, Ar, r1, r2⟩ := A
  obtain ⟨T', h', X', e', E', A', Ex', st'⟩ := cloneA X hx hZ hown w1 w2 w3 w4 w5 w6 eT Ar Ex (own_fitc Ar r1 hfit) (g := mkF m pc Ls (.ref a :: st)) rfl hsize rfl hd hf hW hl (by rw [← r1] at hcap; simpa using hcap) hc hs
  exact go st' (K T' h' _ rfl X' e' E' ⟨_, A', r1, r2⟩ Ex')
theorem own_arv {a : Addr} {ty : FieldType} {vs : List Value} (d : Value) (A : Al Z h a ty vs) (hfit : ∀ v ∈ vs, fits ty v = true) : ∃ k, Arv Z h a k ty (Int32.ofNat vs.length) vs d := by
  obtain ⟨c, Ar, r1, r2⟩ := A
  have hs : c.slots.size = vs.length := by rw [← r1]; simp
  have h1 : (Int32.ofNat vs.length).toInt = (vs.length : Int) := Int32.toInt_ofNat_of_lt r2
  obtain ⟨q1, q2⟩ := own_ix h1
  have hv : ∀ i, i < c.slots.size → c.slots[i]? = some (vs.getD i d) := fun i hi => by
    rw [← Array.getElem?_toList, r1, List.getD_eq_getElem?_getD, List.getElem?_eq_getElem (by omega)]; rfl
  refine ⟨c.cls, c, Ar, rfl, by rw [hs, q1], q2, hv, fun i hi => hfit _ ?_⟩
  have := hv i hi
  rw [← Array.getElem?_toList, r1] at this
  exact List.mem_of_getElem? this
theorem own_al {a : Addr} {k : ClassId} {ty : FieldType} {z : Int32} {vs : List Value} {d : Value} (A : Arv Z h a k ty z vs d) (hl : vs.length = z.toNatClampNeg) : Al Z h a ty vs := by
  obtain ⟨c, Ar, -, S, M, H, -⟩ := A
  refine ⟨c, Ar, ?_, ?_⟩
  · apply List.ext_getElem?
    intro i
    rw [Array.getElem?_toList]
    by_cases hi : i < c.slots.size
    · rw [H i hi, List.getD_eq_getElem?_getD, List.getElem?_eq_getElem (by omega)]; rfl
    · rw [Array.getElem?_eq_none (by omega), List.getElem?_eq_none (by omega)]
  · have := (back32 M).2; omega
theorem g_acopy (X : Stand p l e R s m args below meth c T locs cells slots) (hx : p.tables.exec = Jvm.exec) (hZ : Z.Warmed39 s.vm) (pc' : Nat) (hpc : pc + 3 = pc') {own : String} {index : Nat} (hown : s.vm.findClass own = some m.cls) (w1 : (Jvm.Cond.methodLink own index Jvm.Stand.acN).before a0 Z = true) (w2 : (Jvm.Cond.native Jvm.Stand.acN).before a0 Z = true) (w3 : (Jvm.Cond.static Jvm.Stand.acN).before a0 Z = true) (w4 : (Jvm.Cond.initialized "java/lang/System").before a0 Z = true) (eT : T.heap = h) {a b : Addr} {ty : FieldType} {vs vd : List Value} (A : Al Z h a ty vs) (B : Al Z h b ty vd) (hp : refKind ty = false) (hfit : ∀ v ∈ vs, fits ty v = true) (hfit2 : ∀ v ∈ vd, fits ty v = true) {nn : Int32} (n : Nat) (hn : nn.toInt = (n : Int)) (h1 : n ≤ vs.length) (h2 : n ≤ vd.length) {n0 : Nat} (N : Fr n0 locs) (ge : n0 ≤ b) (hd : decode c.code pc = .ok (.invokestatic index, 3)) (hsize : Ls.size = c.maxLocals) (hf : 1 ≤ R.frames) (W : Nat) (hW : 2 * 0 + (st.map fun v => v.category).sum ≤ W) (hlo : W + (nativeFrameWords "java/lang/System" "arraycopy" 5 + 11) ≤ R.locals) (K : ∀ T' h' L, Stand p l e R s m args below meth c T' L cells slots → T'.heap = h' → Fr n0 L → Keep h h' [b] → Al Z h' b ty (vs.take n ++ vd.drop n) → Goes p e below (T'.setTop (mkF m pc' Ls st)) P) : Goes p e below (T.setTop (mkF m pc Ls (.int nn :: .int 0 :: .ref b :: .int 0 :: .ref a :: st))) P := by
  subst hpc
  obtain ⟨ka, Aa⟩ := own_arv (.int 0) A hfit
  obtain ⟨kb, Ab⟩ := own_arv (.int 0) B hfit2
  obtain ⟨q1, q2⟩ := own_ix hn
  have l1 : (Int32.ofNat vs.length).toNatClampNeg = vs.length := (own_ix (Int32.toInt_ofNat_of_lt A.choose_spec.2.2)).1
  have l2 : (Int32.ofNat vd.length).toNatClampNeg = vd.length := (own_ix (Int32.toInt_ofNat_of_lt B.choose_spec.2.2)).1
  have z0 : (0 : Int32).toNatClampNeg = 0 := rfl
  obtain ⟨T', h', L, X', e', N', K', A', st'⟩ := cpA X hx hZ hown w1 w2 w3 w4 eT Aa Ab (us := (List.range nn.toNatClampNeg).map fun i => vs.getD ((0 : Int32).toNatClampNeg + i) (.int 0)) (Or.inl ⟨rfl, hp⟩) (sp := 0) (dp := 0) (nn := nn) (by decide) (by decide) q2 (by rw [q1, l1, z0]; omega) (by rw [q1, l2, z0]; omega) rfl (by rw [q1, z0]; omega) N ge (g := mkF m pc Ls (.int nn :: .int 0 :: .ref b :: .int 0 :: .ref a :: st)) rfl hsize rfl hd hf hW hlo
  have hu : vd.take (0 : Int32).toNatClampNeg ++ ((List.range nn.toNatClampNeg).map fun i => vs.getD ((0 : Int32).toNatClampNeg + i) (.int 0)) ++ vd.drop ((0 : Int32).toNatClampNeg + nn.toNatClampNeg) = vs.take n ++ vd.drop n := by
    rw [z0, q1, List.take_zero, List.nil_append, Nat.zero_add]
    congr 1
    apply List.ext_getElem?
    intro i
    by_cases hi : i < n
    · rw [List.getElem?_take_of_lt hi, List.getElem?_map, List.getElem?_range hi, Option.map_some, Nat.zero_add, List.getD_eq_getElem?_getD, List.getElem?_eq_getElem (by omega)]; rfl
    · rw [List.getElem?_eq_none (by simp; omega), List.getElem?_eq_none (by simp; omega)]
  rw [hu] at A'
  exact go st' (K T' h' L X' e' N' K' (own_al A' (by rw [l2]; simp; omega)))
theorem own_eqI {args : Array Value} {first s : State} {o : Option Outcome} {idx : List Nat} {a : Term} {k : Int32} (q : (Jvm.Cond.eq a (Jvm.Term.int k)).value args first o s idx = some true) : a.eval args first o idx s = some (.int k) := by
  obtain ⟨x, y, h1, h2, h3, h4⟩ := cmp_v (Or.inl q)
  have h5 : y = .int k := (Option.some.inj ((Term.int_eval k).symm.trans h2)).symm
  subst h5
  obtain ⟨z, rfl⟩ := h4
  have h6 : z = k := gotT (Cond.eq_ints h1 h2) q
  rw [h1, h6]
theorem own_nar_ref {v : Value} {C : String} (q : v.isRef = true) : narrow (.object C) v = v := by cases v <;> simp [Value.isRef] at q <;> rfl
theorem own_fit_ref {v : Value} {C : String} (q : v.isRef = true) : fits (.object C) v = true := by cases v <;> simp [Value.isRef] at q <;> rfl
theorem own_sixteen (x : Int32) : (x.toBitVec.toNat < 2147483648 ∧ x.toInt = (x.toBitVec.toNat : Int)) ∨ (2147483648 ≤ x.toBitVec.toNat ∧ x.toInt = (x.toBitVec.toNat : Int) - 4294967296) := by
  have h1 : x.toInt = x.toBitVec.toInt := rfl
  have h2 := x.toBitVec.isLt
  rw [h1, BitVec.toInt_eq_toNat_cond]; split <;> omega
end OwnKit

def own_bit (p : Nat) : Int64 := (1 : Int64) <<< ((Int32.ofNat p).toInt64 &&& 63)
def own_word : List Nat → Nat → Int64
  | [], _ => 0
  | p :: S, i => if p / 64 = i then own_word S i ||| own_bit p else own_word S i
def own_ws (S : List Nat) : List Value := (List.range 128).map fun i => .long (own_word S i)
theorem own_ofi (k : Nat) (hk : k < 2147483648) : (Int32.ofNat k).toInt = (k : Int) := Int32.toInt_ofNat_of_lt hk
theorem own_ofNat (x : Int32) (k : Nat) (h : x.toInt = (k : Int)) : x = Int32.ofNat k := by
  have h3 := rng32 x
  apply Int32.toInt_inj.mp
  rw [Int32.toInt_ofNat_of_lt (by omega)]; exact h
theorem own_ws_len (S : List Nat) : (own_ws S).length = 128 := by simp [own_ws]
theorem own_ws_get (S : List Nat) (i : Nat) (hi : i < 128) : (own_ws S)[i]? = some (.long (own_word S i)) := by
  unfold own_ws; rw [List.getElem?_map, List.getElem?_range hi]; rfl
theorem own_ws_nil : own_ws [] = List.replicate 128 (.long 0) := by
  apply List.ext_getElem?
  intro i
  by_cases hi : i < 128
  · rw [own_ws_get _ _ hi, List.getElem?_replicate, if_pos hi]; rfl
  · rw [List.getElem?_eq_none (by rw [own_ws_len]; omega), List.getElem?_eq_none (by simp; omega)]
theorem own_ws_set (S : List Nat) (p : Nat) (hp : p < 8192) : (own_ws S).set (p / 64) (.long (own_word S (p / 64) ||| own_bit p)) = own_ws (p :: S) := by
  apply List.ext_getElem?
  intro i
  by_cases hi : i < 128
  · rw [own_ws_get _ _ hi]
    by_cases q : p / 64 = i
    · subst q; rw [List.getElem?_set_self (by rw [own_ws_len]; exact hi)]; rw [own_word, if_pos rfl]
    · rw [List.getElem?_set_ne q, own_ws_get _ _ hi]; rw [own_word, if_neg q]
  · rw [List.getElem?_eq_none (by rw [List.length_set, own_ws_len]; omega), List.getElem?_eq_none (by rw [own_ws_len]; omega)]
theorem own_idx (p : Nat) (hp : p < 8192) : (XT.ushr (Int32.ofNat p) (6 : Int32)).toInt = ((p / 64 : Nat) : Int) := by
  have h : (XT.ushr (Int32.ofNat p) (6 : Int32)).toInt = ((Int32.ofNat p).toInt % 4294967296) / (2 ^ 6 : Nat) := c_iushr _ 6 6 (by decide) (by decide)
  rw [h, own_ofi p (by omega)]; omega
theorem own_sh (p : Nat) (hp : p < 8192) : ((Int32.ofNat p).toInt64 &&& 63).toBitVec = BitVec.ofNat 64 (p % 64) := by
  rw [← BitVec.toNat_inj]
  show ((Int32.ofNat p).toInt64.toBitVec &&& 63#64).toNat = _
  have e : (Int32.ofNat p).toInt64 = Int64.ofNat p := by
    apply Int64.toInt_inj.mp
    rw [Int32.toInt_toInt64, own_ofi p (by omega), Int64.toInt_ofNat_of_lt (by omega)]
  rw [e]
  have e2 : (Int64.ofNat p).toBitVec.toNat = p := by
    show (BitVec.ofNat 64 p).toNat = p
    rw [BitVec.toNat_ofNat]; omega
  rw [BitVec.toNat_and, e2, show (63#64).toNat = 2 ^ 6 - 1 from rfl, Nat.and_two_pow_sub_one_eq_mod, BitVec.toNat_ofNat]
  omega
theorem own_shl (x : Int64) (p : Nat) (hp : p < 8192) : (x <<< ((Int32.ofNat p).toInt64 &&& 63)).toBitVec = x.toBitVec <<< (p % 64) := by
  have h : (x <<< ((Int32.ofNat p).toInt64 &&& 63)).toBitVec = x.toBitVec <<< (((Int32.ofNat p).toInt64 &&& 63).toBitVec.smod 64#64) := rfl
  rw [h, own_sh p hp, BitVec.shiftLeft_eq']
  exact congrArg (fun k => x.toBitVec <<< k) (smod64 _ (by omega))
theorem own_bit_get (p : Nat) (hp : p < 8192) (j : Nat) (hj : j < 64) : (own_bit p).toBitVec.getLsbD j = decide (j = p % 64) := by
  unfold own_bit
  rw [own_shl _ _ hp, BitVec.getLsbD_shiftLeft]
  show (decide (j < 64) && !decide (j < p % 64) && (1#64).getLsbD (j - p % 64)) = _
  by_cases q : j = p % 64
  · subst q; simp [hj]
  · by_cases q2 : j < p % 64
    · simp [q2, q]
    · have : (1#64).getLsbD (j - p % 64) = false := by
        rw [BitVec.getLsbD_one]; simp; omega
      simp [this, q]
theorem own_word_get : ∀ (S : List Nat) (_ : ∀ p ∈ S, p < 8192) (i j : Nat), j < 64 → ((own_word S i).toBitVec.getLsbD j = true ↔ 64 * i + j ∈ S) := by
  intro S
  induction S with
  | nil => intro _ i j _; simp [own_word]
  | cons p S ih =>
    intro hS i j hj
    have hp := hS p (List.mem_cons_self ..)
    have ih' := ih (fun q hq => hS q (List.mem_cons_of_mem _ hq)) i j hj
    rw [List.mem_cons, own_word]
    by_cases q : p / 64 = i
    · rw [if_pos q, Int64.toBitVec_or, BitVec.getLsbD_or, Bool.or_eq_true, ih', own_bit_get p hp j hj, decide_eq_true_iff]
      constructor
      · rintro (h | h)
        · exact Or.inr h
        · exact Or.inl (by omega)
      · rintro (h | h)
        · exact Or.inr (by omega)
        · exact Or.inl h
    · rw [if_neg q, ih']
      constructor
      · exact Or.inr
      · rintro (h | h)
        · omega
        · exact h
theorem own_nz (x : Int64) : ¬ x = 0 ↔ ∃ j, j < 64 ∧ x.toBitVec.getLsbD j = true := by
  constructor
  · intro h
    apply Classical.byContradiction
    intro q
    apply h
    apply Int64.toBitVec_inj.mp
    apply BitVec.eq_of_getLsbD_eq
    intro j hj
    show _ = (0#64).getLsbD j
    rw [BitVec.getLsbD_zero]
    cases e : x.toBitVec.getLsbD j with
    | false => rfl
    | true => exact absurd ⟨j, hj, e⟩ q
  · rintro ⟨j, hj, h⟩ q
    rw [q] at h
    have : (0#64).getLsbD j = true := h
    rw [BitVec.getLsbD_zero] at this
    cases this

def own_any (S : List Nat) (f t : Nat) : Bool := S.any fun p => decide (f ≤ p ∧ p < t)
theorem own_any_iff (S : List Nat) (f t : Nat) : own_any S f t = true ↔ ∃ p, p ∈ S ∧ f ≤ p ∧ p < t := by
  unfold own_any; rw [List.any_eq_true]; constructor
  · rintro ⟨p, h1, h2⟩; exact ⟨p, h1, of_decide_eq_true h2⟩
  · rintro ⟨p, h1, h2⟩; exact ⟨p, h1, decide_eq_true h2⟩
theorem own_fm (f : Nat) (hf : f < 8192) (j : Nat) (hj : j < 64) : ((-1 : Int64) <<< ((Int32.ofNat f).toInt64 &&& 63)).toBitVec.getLsbD j = decide (f % 64 ≤ j) := by
  rw [own_shl _ _ hf, BitVec.getLsbD_shiftLeft]
  have e : ∀ k, k < 64 → ((-1 : Int64).toBitVec).getLsbD k = true := by decide
  by_cases q : f % 64 ≤ j
  · rw [e _ (by omega)]; simp [hj, q]
  · simp [q]
theorem own_lsh (t : Nat) (ht : t < 8192) : ((63 : Int32) - (Int32.ofNat t &&& (63 : Int32))) = Int32.ofNat (63 - t % 64) := by
  have h1 := c_mask (Int32.ofNat t) 63 6 (by decide) (by decide)
  have h2 := c_isub 63 (Int32.ofNat t &&& 63)
  have h3 := rng32 ((63 : Int32) - (Int32.ofNat t &&& 63))
  have h4 : (63 : Int32).toInt = 63 := rfl
  rw [own_ofi t (by omega)] at h1
  apply Int32.toInt_inj.mp
  rw [own_ofi _ (by omega)]
  omega
theorem own_lm (t : Nat) (ht : t < 8192) (j : Nat) (hj : j < 64) : (XT.ushrL (-1 : Int64) ((63 : Int32) - (Int32.ofNat t &&& (63 : Int32)))).toBitVec.getLsbD j = decide (j ≤ t % 64) := by
  rw [own_lsh t ht]
  have h : ∀ k : Fin 64, ∀ j : Fin 64, (XT.ushrL (-1 : Int64) (Int32.ofNat (63 - k.val))).toBitVec.getLsbD j.val = decide (j.val ≤ k.val) := by decide +kernel
  exact h ⟨t % 64, by omega⟩ ⟨j, hj⟩
/-- one word under a mask -/
theorem own_part (S : List Nat) (hS : ∀ p ∈ S, p < 8192) (i : Nat) (m : Int64) : ¬ (own_word S i &&& m) = 0 ↔ ∃ j, j < 64 ∧ 64 * i + j ∈ S ∧ m.toBitVec.getLsbD j = true := by
  rw [own_nz]
  constructor
  · rintro ⟨j, hj, h⟩
    rw [Int64.toBitVec_and, BitVec.getLsbD_and, Bool.and_eq_true, own_word_get S hS i j hj] at h
    exact ⟨j, hj, h.1, h.2⟩
  · rintro ⟨j, hj, h1, h2⟩
    refine ⟨j, hj, ?_⟩
    rw [Int64.toBitVec_and, BitVec.getLsbD_and, Bool.and_eq_true, own_word_get S hS i j hj]
    exact ⟨h1, h2⟩
theorem own_whole (S : List Nat) (hS : ∀ p ∈ S, p < 8192) (i : Nat) : ¬ own_word S i = 0 ↔ ∃ j, j < 64 ∧ 64 * i + j ∈ S := by
  rw [own_nz]
  constructor
  · rintro ⟨j, hj, h⟩; exact ⟨j, hj, (own_word_get S hS i j hj).mp h⟩
  · rintro ⟨j, hj, h⟩; exact ⟨j, hj, (own_word_get S hS i j hj).mpr h⟩
abbrev own_F (f : Nat) : Int64 := (-1 : Int64) <<< ((Int32.ofNat f).toInt64 &&& 63)
abbrev own_L (t : Nat) : Int64 := XT.ushrL (-1 : Int64) ((63 : Int32) - (Int32.ofNat t &&& (63 : Int32)))
/-- t is the last place (to - 1) -/
theorem own_one (S : List Nat) (hS : ∀ p ∈ S, p < 8192) (f t : Nat) (hf : f ≤ t) (ht : t < 8192) (he : f / 64 = t / 64) : ¬ ((own_word S (f / 64) &&& own_F f) &&& own_L t) = 0 ↔ own_any S f (t + 1) = true := by
  rw [own_any_iff, Int64.and_assoc, own_part S hS]
  constructor
  · rintro ⟨j, hj, h1, h2⟩
    rw [Int64.toBitVec_and, BitVec.getLsbD_and, Bool.and_eq_true, own_fm f (by omega) j hj, own_lm t ht j hj, decide_eq_true_iff, decide_eq_true_iff] at h2
    exact ⟨_, h1, by omega, by omega⟩
  · rintro ⟨p, h1, h2, h3⟩
    refine ⟨p % 64, by omega, ?_, ?_⟩
    · rw [show 64 * (f / 64) + p % 64 = p by omega]; exact h1
    · rw [Int64.toBitVec_and, BitVec.getLsbD_and, Bool.and_eq_true, own_fm f (by omega) _ (by omega), own_lm t ht _ (by omega), decide_eq_true_iff, decide_eq_true_iff]
      omega
theorem own_first (S : List Nat) (hS : ∀ p ∈ S, p < 8192) (f t : Nat) (ht : t < 8192) (he : f / 64 < t / 64) (h : ¬ (own_word S (f / 64) &&& own_F f) = 0) : own_any S f (t + 1) = true := by
  rw [own_any_iff]
  rw [own_part S hS] at h
  obtain ⟨j, hj, h1, h2⟩ := h
  rw [own_fm f (by omega) j hj, decide_eq_true_iff] at h2
  exact ⟨_, h1, by omega, by omega⟩
theorem own_lastw (S : List Nat) (hS : ∀ p ∈ S, p < 8192) (f t : Nat) (ht : t < 8192) (he : f / 64 < t / 64) (h : ¬ (own_word S (t / 64) &&& own_L t) = 0) : own_any S f (t + 1) = true := by
  rw [own_any_iff]
  rw [own_part S hS] at h
  obtain ⟨j, hj, h1, h2⟩ := h
  rw [own_lm t ht j hj, decide_eq_true_iff] at h2
  exact ⟨_, h1, by omega, by omega⟩
theorem own_midw (S : List Nat) (hS : ∀ p ∈ S, p < 8192) (f t i : Nat) (h1 : f / 64 < i) (h2 : i < t / 64) (h : ¬ own_word S i = 0) : own_any S f (t + 1) = true := by
  rw [own_any_iff]
  rw [own_whole S hS] at h
  obtain ⟨j, hj, h3⟩ := h
  exact ⟨_, h3, by omega, by omega⟩
theorem own_none (S : List Nat) (hS : ∀ p ∈ S, p < 8192) (f t : Nat) (ht : t < 8192) (he : f / 64 < t / 64) (h1 : own_word S (f / 64) &&& own_F f = 0) (h2 : own_word S (t / 64) &&& own_L t = 0) (h3 : ∀ i, f / 64 < i → i < t / 64 → own_word S i = 0) : own_any S f (t + 1) = false := by
  cases e : own_any S f (t + 1) with
  | false => rfl
  | true =>
    exfalso
    rw [own_any_iff] at e
    obtain ⟨p, q1, q2, q3⟩ := e
    rcases Nat.lt_trichotomy (p / 64) (t / 64) with z | z | z
    · rcases Nat.lt_or_ge (f / 64) (p / 64) with y | y
      · exact (own_whole S hS (p / 64)).mpr ⟨p % 64, by omega, by rw [show 64 * (p / 64) + p % 64 = p by omega]; exact q1⟩ (h3 _ y z)
      · refine (own_part S hS (f / 64) (own_F f)).mpr ⟨p % 64, by omega, ?_, ?_⟩ h1
        · rw [show 64 * (f / 64) + p % 64 = p by omega]; exact q1
        · rw [own_fm f (by omega) _ (by omega), decide_eq_true_iff]; omega
    · refine (own_part S hS (t / 64) (own_L t)).mpr ⟨p % 64, by omega, ?_, ?_⟩ h2
      · rw [← z, show 64 * (p / 64) + p % 64 = p by omega]; exact q1
      · rw [own_lm t ht _ (by omega), decide_eq_true_iff]; omega
    · omega
def own_min (x y : Int32) : Int32 := if y < x then y else x
def own_max (x y : Int32) : Int32 := if x < y then y else x
theorem own_min_i (x y : Int32) : (own_min x y).toInt = min x.toInt y.toInt := by
  unfold own_min
  by_cases q : y < x
  · rw [if_pos q]; rw [Int32.lt_iff_toInt_lt] at q; omega
  · rw [if_neg q]; rw [Int32.lt_iff_toInt_lt] at q; omega
theorem own_max_i (x y : Int32) : (own_max x y).toInt = max x.toInt y.toInt := by
  unfold own_max
  by_cases q : x < y
  · rw [if_pos q]; rw [Int32.lt_iff_toInt_lt] at q; omega
  · rw [if_neg q]; rw [Int32.lt_iff_toInt_lt] at q; omega

theorem d1_0 : decode jdk_29_method_69_code 0 = .ok (.iload_n 0, 1) := by decide +kernel
theorem d1_1 : decode jdk_29_method_69_code 1 = .ok (.iload_n 1, 1) := by decide +kernel
theorem d1_2 : decode jdk_29_method_69_code 2 = .ok (.if_icmp .gt 7, 3) := by decide +kernel
theorem d1_5 : decode jdk_29_method_69_code 5 = .ok (.iload_n 0, 1) := by decide +kernel
theorem d1_6 : decode jdk_29_method_69_code 6 = .ok (.goto 4, 3) := by decide +kernel
theorem d1_9 : decode jdk_29_method_69_code 9 = .ok (.iload_n 1, 1) := by decide +kernel
theorem d1_10 : decode jdk_29_method_69_code 10 = .ok (.ireturn, 1) := by decide +kernel
theorem pf_0 : plainFor (⟨"java/lang/Math", "min", "(II)I"⟩ : MethodName) = true := by first | exact plainFor_of_name (by first | (simp [plainName, overriddenIn]; done) | decide +kernel) | decide +kernel
theorem ef_1_rmMin (m : MethodId) (p1 : Int32) (p2 : Int32)  : entryFrame m #[(.int p1), (.int p2)] 2 = mkF m 0 #[.val (.int p1), .val (.int p2)] [] := by first | (simp [entryFrame, mkF, argsToLocals, Value.category, maxLocals]; done) | rfl
def Q_rmMin (Z : State) (p1 : Int32) (p2 : Int32) (h0 : Heap) (n0 : Nat) (v : Option Value) (h : Heap) (L : List Loc) : Prop := v = some (.int (own_min p1 p2)) ∧ Fr n0 L ∧ h = h0
set_option maxRecDepth 65536 in
set_option maxHeartbeats 40000000 in
theorem rmMin (l : Launch) (Z : State) (a0 : Array Value) (hw : ∀ d ∈ tables_1, d.before a0 Z = true) (ws : List Jvm.Cond) (p1 : Int32) (p2 : Int32) (h0 : Heap) (n0 : Nat) (Z0 : n0 ≤ h0.size)  :
    OwnMet l Z (⟨"java/lang/Math", "min", "(II)I"⟩ : MethodName) jdk_29_method_69_code 2 (some .int) ws ({ frames := 0, cells := 0, slots := 0, locals := 0 } : Room) #[(.int p1), (.int p2)] h0 (Q_rmMin Z p1 p2 h0 n0) := by
  refine own_body pf_0 ?_
  intro p e s m below meth c s₁ hx hby hml hown hnm hret hlk hZ X0 e0
  have N0 := Fr.nil n0
  refine own_cast (ef_1_rmMin m p1 p2 ) ?_
  refine g_iload_n X0 hx 1 rfl (hb hby d1_0) rfl ?_
  refine g_iload_n X0 hx 2 rfl (hb hby d1_1) rfl ?_
  by_cases c2 : p2 < p1
  · refine g_icmpY X0 hx 9 (hb hby d1_2) (XT.ii_gt_t c2) (by decide) (by decide) ?_
    refine g_iload_n X0 hx 10 rfl (hb hby d1_9) rfl ?_
    exact g_retI X0 hx hret hlk (hb hby d1_10) ⟨by unfold own_min; rw [if_pos c2], N0, e0⟩ (by decide) (by decide)
  · refine g_icmpN X0 hx 5 rfl (hb hby d1_2) (XT.ii_gt_f c2) ?_
    refine g_iload_n X0 hx 6 rfl (hb hby d1_5) rfl ?_
    refine g_goto X0 hx 10 (hb hby d1_6) (by decide) (by decide) ?_
    exact g_retI X0 hx hret hlk (hb hby d1_10) ⟨by unfold own_min; rw [if_neg c2], N0, e0⟩ (by decide) (by decide)
theorem d2_0 : decode jdk_29_method_65_code 0 = .ok (.iload_n 0, 1) := by decide +kernel
theorem d2_1 : decode jdk_29_method_65_code 1 = .ok (.iload_n 1, 1) := by decide +kernel
theorem d2_2 : decode jdk_29_method_65_code 2 = .ok (.if_icmp .lt 7, 3) := by decide +kernel
theorem d2_5 : decode jdk_29_method_65_code 5 = .ok (.iload_n 0, 1) := by decide +kernel
theorem d2_6 : decode jdk_29_method_65_code 6 = .ok (.goto 4, 3) := by decide +kernel
theorem d2_9 : decode jdk_29_method_65_code 9 = .ok (.iload_n 1, 1) := by decide +kernel
theorem d2_10 : decode jdk_29_method_65_code 10 = .ok (.ireturn, 1) := by decide +kernel
theorem pf_1 : plainFor (⟨"java/lang/Math", "max", "(II)I"⟩ : MethodName) = true := by first | exact plainFor_of_name (by first | (simp [plainName, overriddenIn]; done) | decide +kernel) | decide +kernel
theorem ef_2_rmMax (m : MethodId) (p1 : Int32) (p2 : Int32)  : entryFrame m #[(.int p1), (.int p2)] 2 = mkF m 0 #[.val (.int p1), .val (.int p2)] [] := by first | (simp [entryFrame, mkF, argsToLocals, Value.category, maxLocals]; done) | rfl
def Q_rmMax (Z : State) (p1 : Int32) (p2 : Int32) (h0 : Heap) (n0 : Nat) (v : Option Value) (h : Heap) (L : List Loc) : Prop := v = some (.int (own_max p1 p2)) ∧ Fr n0 L ∧ h = h0
set_option maxRecDepth 65536 in
set_option maxHeartbeats 40000000 in
theorem rmMax (l : Launch) (Z : State) (a0 : Array Value) (hw : ∀ d ∈ tables_1, d.before a0 Z = true) (ws : List Jvm.Cond) (p1 : Int32) (p2 : Int32) (h0 : Heap) (n0 : Nat) (Z0 : n0 ≤ h0.size)  :
    OwnMet l Z (⟨"java/lang/Math", "max", "(II)I"⟩ : MethodName) jdk_29_method_65_code 2 (some .int) ws ({ frames := 0, cells := 0, slots := 0, locals := 0 } : Room) #[(.int p1), (.int p2)] h0 (Q_rmMax Z p1 p2 h0 n0) := by
  refine own_body pf_1 ?_
  intro p e s m below meth c s₁ hx hby hml hown hnm hret hlk hZ X0 e0
  have N0 := Fr.nil n0
  refine own_cast (ef_2_rmMax m p1 p2 ) ?_
  refine g_iload_n X0 hx 1 rfl (hb hby d2_0) rfl ?_
  refine g_iload_n X0 hx 2 rfl (hb hby d2_1) rfl ?_
  by_cases c2 : p1 < p2
  · refine g_icmpY X0 hx 9 (hb hby d2_2) (XT.ii_lt_t c2) (by decide) (by decide) ?_
    refine g_iload_n X0 hx 10 rfl (hb hby d2_9) rfl ?_
    exact g_retI X0 hx hret hlk (hb hby d2_10) ⟨by unfold own_max; rw [if_pos c2], N0, e0⟩ (by decide) (by decide)
  · refine g_icmpN X0 hx 5 rfl (hb hby d2_2) (XT.ii_lt_f c2) ?_
    refine g_iload_n X0 hx 6 rfl (hb hby d2_5) rfl ?_
    refine g_goto X0 hx 10 (hb hby d2_6) (by decide) (by decide) ?_
    exact g_retI X0 hx hret hlk (hb hby d2_10) ⟨by unfold own_max; rw [if_neg c2], N0, e0⟩ (by decide) (by decide)
theorem d3_0 : decode prog_174_method_1_code 0 = .ok (.aload_n 0, 1) := by decide +kernel
theorem d3_1 : decode prog_174_method_1_code 1 = .ok (.invokespecial 1, 3) := by decide +kernel
theorem d3_4 : decode prog_174_method_1_code 4 = .ok (.aload_n 0, 1) := by decide +kernel
theorem d3_5 : decode prog_174_method_1_code 5 = .ok (.sipush 8192, 3) := by decide +kernel
theorem d3_8 : decode prog_174_method_1_code 8 = .ok (.newarray .double, 2) := by decide +kernel
theorem d3_10 : decode prog_174_method_1_code 10 = .ok (.putfield 9, 3) := by decide +kernel
theorem d3_13 : decode prog_174_method_1_code 13 = .ok (.aload_n 0, 1) := by decide +kernel
theorem d3_14 : decode prog_174_method_1_code 14 = .ok (.sipush 128, 3) := by decide +kernel
theorem d3_17 : decode prog_174_method_1_code 17 = .ok (.newarray .long, 2) := by decide +kernel
theorem d3_19 : decode prog_174_method_1_code 19 = .ok (.putfield 15, 3) := by decide +kernel
theorem d3_22 : decode prog_174_method_1_code 22 = .ok (.aload_n 0, 1) := by decide +kernel
theorem d3_23 : decode prog_174_method_1_code 23 = .ok (.iconst 0, 1) := by decide +kernel
theorem d3_24 : decode prog_174_method_1_code 24 = .ok (.newarray .int, 2) := by decide +kernel
theorem d3_26 : decode prog_174_method_1_code 26 = .ok (.putfield 19, 3) := by decide +kernel
theorem d3_29 : decode prog_174_method_1_code 29 = .ok (.aload_n 0, 1) := by decide +kernel
theorem d3_30 : decode prog_174_method_1_code 30 = .ok (.iconst 0, 1) := by decide +kernel
theorem d3_31 : decode prog_174_method_1_code 31 = .ok (.newarray .double, 2) := by decide +kernel
theorem d3_33 : decode prog_174_method_1_code 33 = .ok (.putfield 23, 3) := by decide +kernel
theorem d3_36 : decode prog_174_method_1_code 36 = .ok (.return_, 1) := by decide +kernel
theorem pf_2 : plainFor (⟨"com/example/tallyrank/tallyrank/search/ScoreWindows", "<init>", "()V"⟩ : MethodName) = true := by first | exact plainFor_of_name (by first | (simp [plainName, overriddenIn]; done) | decide +kernel) | decide +kernel
theorem pd_0 : parseMethodDescriptor "()V" = some ⟨[], none⟩ := by decide +kernel
theorem ef_3_rmI (m : MethodId) (a1 : Addr) (u_scores : Value) (u_scored : Value) (u_foundPlaces : Value) (u_foundContributions : Value)  : entryFrame m #[(.ref a1)] 1 = mkF m 0 #[.val (.ref a1)] [] := by first | (simp [entryFrame, mkF, argsToLocals, Value.category, maxLocals]; done) | rfl
def Q_rmI (Z : State) (a1 : Addr) (u_scores : Value) (u_scored : Value) (u_foundPlaces : Value) (u_foundContributions : Value) (h0 : Heap) (n0 : Nat) (v : Option Value) (h : Heap) (L : List Loc) : Prop := v = none ∧ Fr n0 L ∧ Keep h0 h [a1] ∧ Exa Z h a1 "com/example/tallyrank/tallyrank/search/ScoreWindows" ∧ ∃ sd sc, Fld Z h a1 "com/example/tallyrank/tallyrank/search/ScoreWindows" "scored" "[J" (.ref sd) ∧ Fld Z h a1 "com/example/tallyrank/tallyrank/search/ScoreWindows" "scores" "[D" (.ref sc) ∧ Al Z h sd .long (List.replicate 128 (.long 0)) ∧ Al Z h sc .double (List.replicate 8192 (defaultValue .double)) ∧ h0.size ≤ sd ∧ n0 ≤ sd ∧ h0.size ≤ sc ∧ n0 ≤ sc ∧ sd ≠ sc
set_option maxRecDepth 65536 in
set_option maxHeartbeats 40000000 in
theorem rmI (l : Launch) (Z : State) (a0 : Array Value) (hw : ∀ d ∈ tables_1, d.before a0 Z = true) (ws : List Jvm.Cond) (a1 : Addr) (u_scores : Value) (u_scored : Value) (u_foundPlaces : Value) (u_foundContributions : Value) (h0 : Heap) (n0 : Nat) (Z0 : n0 ≤ h0.size) (E1 : Exa Z h0 a1 "com/example/tallyrank/tallyrank/search/ScoreWindows") (g1 : n0 ≤ a1) (F_scores : Fld Z h0 a1 "com/example/tallyrank/tallyrank/search/ScoreWindows" "scores" "[D" u_scores) (F_scored : Fld Z h0 a1 "com/example/tallyrank/tallyrank/search/ScoreWindows" "scored" "[J" u_scored) (F_foundPlaces : Fld Z h0 a1 "com/example/tallyrank/tallyrank/search/ScoreWindows" "foundPlaces" "[I" u_foundPlaces) (F_foundContributions : Fld Z h0 a1 "com/example/tallyrank/tallyrank/search/ScoreWindows" "foundContributions" "[D" u_foundContributions) :
    OwnMet l Z (⟨"com/example/tallyrank/tallyrank/search/ScoreWindows", "<init>", "()V"⟩ : MethodName) prog_174_method_1_code 1 none ws ({ frames := 1, cells := 4, slots := 8320, locals := 12 } : Room) #[(.ref a1)] h0 (Q_rmI Z a1 u_scores u_scored u_foundPlaces u_foundContributions h0 n0) := by
  refine own_body pf_2 ?_
  intro p e s m below meth c s₁ hx hby hml hown hnm hret hlk hZ X0 e0
  have N0 := Fr.nil n0
  refine own_cast (ef_3_rmI m a1 u_scores u_scored u_foundPlaces u_foundContributions ) ?_
  refine g_aload_n X0 hx 1 rfl (hb hby d3_0) rfl rfl ?_
  refine g_initO X0 hx hZ 4 rfl hown (hw _ (List.mem_of_getElem? (i := 15) rfl)) (hw _ (List.mem_of_getElem? (i := 16) rfl)) (hw _ (List.mem_of_getElem? (i := 17) rfl)) e0 (by rw [hml]; rfl) (hb hby d3_1) (by decide) 0 (Nat.le_of_eq rfl) (by decide) ?_
  intro T1 X1 e1
  refine g_aload_n X1 hx 5 rfl (hb hby d3_4) rfl rfl ?_
  refine g_sipush X1 hx 8 rfl (8192 : Int32) rfl (hb hby d3_5) ?_
  refine g_newarr X1 hx hZ 10 rfl (hw _ (List.mem_of_getElem? (i := 18) rfl)) e1 (hb hby d3_8) 8192 rfl 8192 (Nat.le_refl _) (by decide) (by decide) (by decide) "[D" (by decide) ?_
  intro T2 h2 o2 g2 X2 e2 E2 A2 Ex2
  have ne_a1_o2 : a1 ≠ o2 := Nat.ne_of_lt (Nat.lt_of_lt_of_eq E1.lt g2.symm)
  have ge_o2 : n0 ≤ o2 := Nat.le_trans Z0 (Nat.le_of_eq g2.symm)
  have hz_o2 : h0.size ≤ o2 := Nat.le_trans (Keep.refl h0 [a1]).1 (Nat.le_of_eq g2.symm)
  have Fld3 := (F_scores.ext E2)
  have Exa4 := (E1.ext E2)
  refine g_putF X2 hx hZ 13 rfl hown (hw _ (List.mem_of_getElem? (i := 19) rfl)) e2 Fld3 Exa4 (Or.inr ⟨(hw _ (List.mem_of_getElem? (i := 20) rfl)), rfl, hnm⟩) (hw _ (List.mem_of_getElem? (i := 10) rfl)) (ty := .array .double) (by decide) rfl rfl (hb hby d3_10) ?_
  intro T5 h5 X5 e5 W5
  have Fw5 := Fld3.same W5
  have N5 := Fr.snoc X5 N0 g1
  refine g_aload_n X5 hx 14 rfl (hb hby d3_13) rfl rfl ?_
  refine g_sipush X5 hx 17 rfl (128 : Int32) rfl (hb hby d3_14) ?_
  refine g_newarr X5 hx hZ 19 rfl (hw _ (List.mem_of_getElem? (i := 21) rfl)) e5 (hb hby d3_17) 128 rfl 128 (Nat.le_refl _) (by decide) (by decide) (by decide) "[J" (by decide) ?_
  intro T6 h6 o6 g6 X6 e6 E6 A6 Ex6
  have Exa7 := (Exa4.wr W5)
  have ne_a1_o6 : a1 ≠ o6 := Nat.ne_of_lt (Nat.lt_of_lt_of_eq Exa7.lt g6.symm)
  have Exa8 := (Ex2.wr W5)
  have ne_o2_o6 : o2 ≠ o6 := Nat.ne_of_lt (Nat.lt_of_lt_of_eq Exa8.lt g6.symm)
  have Zl9 : n0 ≤ h5.size := (Nat.le_trans (Nat.le_trans Z0 E2.1) (Nat.le_of_eq W5.size.symm))
  have ge_o6 : n0 ≤ o6 := Nat.le_trans Zl9 (Nat.le_of_eq g6.symm)
  have hz_o6 : h0.size ≤ o6 := Nat.le_trans (((Keep.refl h0 [a1]).ext E2).wr W5 (Or.inl (List.mem_of_getElem? (i := 0) rfl))).1 (Nat.le_of_eq g6.symm)
  have Fld10 := (((F_scored.ext E2).other W5 (Or.inr (slot_ne (Or.inr (hw _ (List.mem_of_getElem? (i := 23) rfl))) (Or.inr (hw _ (List.mem_of_getElem? (i := 20) rfl))) (by decide) (t := .array .long) (t' := .array .double) (by decide) (by decide)))).ext E6)
  have Exa11 := (Exa7.ext E6)
  refine g_putF X6 hx hZ 22 rfl hown (hw _ (List.mem_of_getElem? (i := 22) rfl)) e6 Fld10 Exa11 (Or.inr ⟨(hw _ (List.mem_of_getElem? (i := 23) rfl)), rfl, hnm⟩) (hw _ (List.mem_of_getElem? (i := 10) rfl)) (ty := .array .long) (by decide) rfl rfl (hb hby d3_19) ?_
  intro T12 h12 X12 e12 W12
  have Fw12 := Fld10.same W12
  have N12 := Fr.snoc X12 N5 g1
  refine g_aload_n X12 hx 23 rfl (hb hby d3_22) rfl rfl ?_
  refine g_iconst X12 hx 24 rfl (0 : Int32) rfl (hb hby d3_23) ?_
  refine g_newarr X12 hx hZ 26 rfl (hw _ (List.mem_of_getElem? (i := 8) rfl)) e12 (hb hby d3_24) 0 rfl 0 (Nat.le_refl _) (by decide) (by decide) (by decide) "[I" (by decide) ?_
  intro T13 h13 o13 g13 X13 e13 E13 A13 Ex13
  have Exa14 := (Exa11.wr W12)
  have ne_a1_o13 : a1 ≠ o13 := Nat.ne_of_lt (Nat.lt_of_lt_of_eq Exa14.lt g13.symm)
  have Exa15 := ((Exa8.ext E6).wr W12)
  have ne_o2_o13 : o2 ≠ o13 := Nat.ne_of_lt (Nat.lt_of_lt_of_eq Exa15.lt g13.symm)
  have Exa16 := (Ex6.wr W12)
  have ne_o6_o13 : o6 ≠ o13 := Nat.ne_of_lt (Nat.lt_of_lt_of_eq Exa16.lt g13.symm)
  have Zl17 : n0 ≤ h12.size := (Nat.le_trans (Nat.le_trans Zl9 E6.1) (Nat.le_of_eq W12.size.symm))
  have ge_o13 : n0 ≤ o13 := Nat.le_trans Zl17 (Nat.le_of_eq g13.symm)
  have hz_o13 : h0.size ≤ o13 := Nat.le_trans (((((Keep.refl h0 [a1]).ext E2).wr W5 (Or.inl (List.mem_of_getElem? (i := 0) rfl))).ext E6).wr W12 (Or.inl (List.mem_of_getElem? (i := 0) rfl))).1 (Nat.le_of_eq g13.symm)
  have Al13 : Al Z h13 o13 .int [] := A13
  have Fld18 := (((((F_foundPlaces.ext E2).other W5 (Or.inr (slot_ne (Or.inl (hw _ (List.mem_of_getElem? (i := 25) rfl))) (Or.inr (hw _ (List.mem_of_getElem? (i := 20) rfl))) (by decide) (t := .array .int) (t' := .array .double) (by decide) (by decide)))).ext E6).other W12 (Or.inr (slot_ne (Or.inl (hw _ (List.mem_of_getElem? (i := 25) rfl))) (Or.inr (hw _ (List.mem_of_getElem? (i := 23) rfl))) (by decide) (t := .array .int) (t' := .array .long) (by decide) (by decide)))).ext E13)
  have Exa19 := (Exa14.ext E13)
  refine g_putF X13 hx hZ 29 rfl hown (hw _ (List.mem_of_getElem? (i := 24) rfl)) e13 Fld18 Exa19 (Or.inl (hw _ (List.mem_of_getElem? (i := 25) rfl))) (hw _ (List.mem_of_getElem? (i := 10) rfl)) (ty := .array .int) (by decide) rfl rfl (hb hby d3_26) ?_
  intro T20 h20 X20 e20 W20
  have Fw20 := Fld18.same W20
  have N20 := Fr.snoc X20 N12 g1
  refine g_aload_n X20 hx 30 rfl (hb hby d3_29) rfl rfl ?_
  refine g_iconst X20 hx 31 rfl (0 : Int32) rfl (hb hby d3_30) ?_
  refine g_newarr X20 hx hZ 33 rfl (hw _ (List.mem_of_getElem? (i := 18) rfl)) e20 (hb hby d3_31) 0 rfl 0 (Nat.le_refl _) (by decide) (by decide) (by decide) "[D" (by decide) ?_
  intro T21 h21 o21 g21 X21 e21 E21 A21 Ex21
  have Exa22 := (Exa19.wr W20)
  have ne_a1_o21 : a1 ≠ o21 := Nat.ne_of_lt (Nat.lt_of_lt_of_eq Exa22.lt g21.symm)
  have Exa23 := ((Exa15.ext E13).wr W20)
  have ne_o2_o21 : o2 ≠ o21 := Nat.ne_of_lt (Nat.lt_of_lt_of_eq Exa23.lt g21.symm)
  have Exa24 := ((Exa16.ext E13).wr W20)
  have ne_o6_o21 : o6 ≠ o21 := Nat.ne_of_lt (Nat.lt_of_lt_of_eq Exa24.lt g21.symm)
  have Exa25 := (Ex13.wr W20)
  have ne_o13_o21 : o13 ≠ o21 := Nat.ne_of_lt (Nat.lt_of_lt_of_eq Exa25.lt g21.symm)
  have Zl26 : n0 ≤ h20.size := (Nat.le_trans (Nat.le_trans Zl17 E13.1) (Nat.le_of_eq W20.size.symm))
  have ge_o21 : n0 ≤ o21 := Nat.le_trans Zl26 (Nat.le_of_eq g21.symm)
  have hz_o21 : h0.size ≤ o21 := Nat.le_trans (((((((Keep.refl h0 [a1]).ext E2).wr W5 (Or.inl (List.mem_of_getElem? (i := 0) rfl))).ext E6).wr W12 (Or.inl (List.mem_of_getElem? (i := 0) rfl))).ext E13).wr W20 (Or.inl (List.mem_of_getElem? (i := 0) rfl))).1 (Nat.le_of_eq g21.symm)
  have Al21 : Al Z h21 o21 .double [] := A21
  have Fld27 := (((((((F_foundContributions.ext E2).other W5 (Or.inr (slot_ne (Or.inl (hw _ (List.mem_of_getElem? (i := 27) rfl))) (Or.inr (hw _ (List.mem_of_getElem? (i := 20) rfl))) (by decide) (t := .array .double) (t' := .array .double) (by decide) (by decide)))).ext E6).other W12 (Or.inr (slot_ne (Or.inl (hw _ (List.mem_of_getElem? (i := 27) rfl))) (Or.inr (hw _ (List.mem_of_getElem? (i := 23) rfl))) (by decide) (t := .array .double) (t' := .array .long) (by decide) (by decide)))).ext E13).other W20 (Or.inr (slot_ne (Or.inl (hw _ (List.mem_of_getElem? (i := 27) rfl))) (Or.inl (hw _ (List.mem_of_getElem? (i := 25) rfl))) (by decide) (t := .array .double) (t' := .array .int) (by decide) (by decide)))).ext E21)
  have Exa28 := (Exa22.ext E21)
  refine g_putF X21 hx hZ 36 rfl hown (hw _ (List.mem_of_getElem? (i := 26) rfl)) e21 Fld27 Exa28 (Or.inl (hw _ (List.mem_of_getElem? (i := 27) rfl))) (hw _ (List.mem_of_getElem? (i := 10) rfl)) (ty := .array .double) (by decide) rfl rfl (hb hby d3_33) ?_
  intro T29 h29 X29 e29 W29
  have Fw29 := Fld27.same W29
  have N29 := Fr.snoc X29 N20 g1
  have Exa30 := (Exa28.wr W29)
  have Fld31 := ((((Fw12.ext E13).other W20 (Or.inr (slot_ne (Or.inr (hw _ (List.mem_of_getElem? (i := 23) rfl))) (Or.inl (hw _ (List.mem_of_getElem? (i := 25) rfl))) (by decide) (t := .array .long) (t' := .array .int) (by decide) (by decide)))).ext E21).other W29 (Or.inr (slot_ne (Or.inr (hw _ (List.mem_of_getElem? (i := 23) rfl))) (Or.inl (hw _ (List.mem_of_getElem? (i := 27) rfl))) (by decide) (t := .array .long) (t' := .array .double) (by decide) (by decide))))
  have Fld32 := ((((((Fw5.ext E6).other W12 (Or.inr (slot_ne (Or.inr (hw _ (List.mem_of_getElem? (i := 20) rfl))) (Or.inr (hw _ (List.mem_of_getElem? (i := 23) rfl))) (by decide) (t := .array .double) (t' := .array .long) (by decide) (by decide)))).ext E13).other W20 (Or.inr (slot_ne (Or.inr (hw _ (List.mem_of_getElem? (i := 20) rfl))) (Or.inl (hw _ (List.mem_of_getElem? (i := 25) rfl))) (by decide) (t := .array .double) (t' := .array .int) (by decide) (by decide)))).ext E21).other W29 (Or.inr (slot_ne (Or.inr (hw _ (List.mem_of_getElem? (i := 20) rfl))) (Or.inl (hw _ (List.mem_of_getElem? (i := 27) rfl))) (by decide) (t := .array .double) (t' := .array .double) (by decide) (by decide))))
  have Al33 := (((((A6.other W12 (Ne.symm ne_a1_o6)).ext E13).other W20 (Ne.symm ne_a1_o6)).ext E21).other W29 (Ne.symm ne_a1_o6))
  have Al34 := (((((((A2.other W5 (Ne.symm ne_a1_o2)).ext E6).other W12 (Ne.symm ne_a1_o2)).ext E13).other W20 (Ne.symm ne_a1_o2)).ext E21).other W29 (Ne.symm ne_a1_o2))
  exact g_ret0 X29 hx hret hlk (hb hby d3_36) (by rw [e29]; exact ⟨rfl, N29, (((((((((Keep.refl h0 [a1]).ext E2).wr W5 (Or.inl (List.mem_of_getElem? (i := 0) rfl))).ext E6).wr W12 (Or.inl (List.mem_of_getElem? (i := 0) rfl))).ext E13).wr W20 (Or.inl (List.mem_of_getElem? (i := 0) rfl))).ext E21).wr W29 (Or.inl (List.mem_of_getElem? (i := 0) rfl))), Exa30, o6, o2, Fld31, Fld32, Al33, Al34, hz_o6, ge_o6, hz_o2, ge_o2, (Ne.symm ne_o2_o6)⟩) (by decide) (by decide)
theorem d5_0 : decode prog_174_method_22_code 0 = .ok (.iload_n 2, 1) := by decide +kernel
theorem d5_1 : decode prog_174_method_22_code 1 = .ok (.istore 6, 2) := by decide +kernel
theorem d5_3 : decode prog_174_method_22_code 3 = .ok (.iload 6, 2) := by decide +kernel
theorem d5_5 : decode prog_174_method_22_code 5 = .ok (.iload_n 3, 1) := by decide +kernel
theorem d5_6 : decode prog_174_method_22_code 6 = .ok (.if_icmp .ge 44, 3) := by decide +kernel
theorem d5_9 : decode prog_174_method_22_code 9 = .ok (.aload_n 1, 1) := by decide +kernel
theorem d5_10 : decode prog_174_method_22_code 10 = .ok (.iload 6, 2) := by decide +kernel
theorem d5_12 : decode prog_174_method_22_code 12 = .ok (.iaload, 1) := by decide +kernel
theorem d5_13 : decode prog_174_method_22_code 13 = .ok (.iload 5, 2) := by decide +kernel
theorem d5_15 : decode prog_174_method_22_code 15 = .ok (.if_icmp .ge 35, 3) := by decide +kernel
theorem d5_18 : decode prog_174_method_22_code 18 = .ok (.aload_n 1, 1) := by decide +kernel
theorem d5_19 : decode prog_174_method_22_code 19 = .ok (.iload 6, 2) := by decide +kernel
theorem d5_21 : decode prog_174_method_22_code 21 = .ok (.iinc 6 1, 3) := by decide +kernel
theorem d5_24 : decode prog_174_method_22_code 24 = .ok (.iaload, 1) := by decide +kernel
theorem d5_25 : decode prog_174_method_22_code 25 = .ok (.iload 4, 2) := by decide +kernel
theorem d5_27 : decode prog_174_method_22_code 27 = .ok (.isub, 1) := by decide +kernel
theorem d5_28 : decode prog_174_method_22_code 28 = .ok (.istore 7, 2) := by decide +kernel
theorem d5_30 : decode prog_174_method_22_code 30 = .ok (.aload_n 0, 1) := by decide +kernel
theorem d5_31 : decode prog_174_method_22_code 31 = .ok (.getfield 15, 3) := by decide +kernel
theorem d5_34 : decode prog_174_method_22_code 34 = .ok (.iload 7, 2) := by decide +kernel
theorem d5_36 : decode prog_174_method_22_code 36 = .ok (.bipush 6, 2) := by decide +kernel
theorem d5_38 : decode prog_174_method_22_code 38 = .ok (.iushr, 1) := by decide +kernel
theorem d5_39 : decode prog_174_method_22_code 39 = .ok (.dup2, 1) := by decide +kernel
theorem d5_40 : decode prog_174_method_22_code 40 = .ok (.laload, 1) := by decide +kernel
theorem d5_41 : decode prog_174_method_22_code 41 = .ok (.lconst 1, 1) := by decide +kernel
theorem d5_42 : decode prog_174_method_22_code 42 = .ok (.iload 7, 2) := by decide +kernel
theorem d5_44 : decode prog_174_method_22_code 44 = .ok (.lshl, 1) := by decide +kernel
theorem d5_45 : decode prog_174_method_22_code 45 = .ok (.lor, 1) := by decide +kernel
theorem d5_46 : decode prog_174_method_22_code 46 = .ok (.lastore, 1) := by decide +kernel
theorem d5_47 : decode prog_174_method_22_code 47 = .ok (.goto (-44), 3) := by decide +kernel
theorem d5_50 : decode prog_174_method_22_code 50 = .ok (.iload 6, 2) := by decide +kernel
theorem d5_52 : decode prog_174_method_22_code 52 = .ok (.ireturn, 1) := by decide +kernel
theorem pf_3 : plainFor (⟨"com/example/tallyrank/tallyrank/search/ScoreWindows", "markScored", "([IIIII)I"⟩ : MethodName) = true := by first | exact plainFor_of_name (by first | (simp [plainName, overriddenIn]; done) | decide +kernel) | decide +kernel
theorem ef_5_rmK (m : MethodId) (a1 : Addr) (d : Addr) (sd : Addr) (da : Nat) (db : Nat) (dc : Nat) (n : Nat)  : entryFrame m #[(.ref a1), (.ref d), (.int (0 : Int32)), (.int (Int32.ofNat n)), (.int (0 : Int32)), (.int (8192 : Int32))] 8 = mkF m 0 #[.val (.ref a1), .val (.ref d), .val (.int (0 : Int32)), .val (.int (Int32.ofNat n)), .val (.int (0 : Int32)), .val (.int (8192 : Int32)), .unset, .unset] [] := by first | (simp [entryFrame, mkF, argsToLocals, Value.category, maxLocals]; done) | rfl
def Q_rmK (Z : State) (a1 : Addr) (d : Addr) (sd : Addr) (da : Nat) (db : Nat) (dc : Nat) (n : Nat) (h0 : Heap) (n0 : Nat) (v : Option Value) (h : Heap) (L : List Loc) : Prop := (∃ r : Int32, v = some (.int r)) ∧ Fr n0 L ∧ Keep h0 h [sd] ∧ Al Z h sd .long (own_ws ((([da, db, dc] : List Nat).take n).reverse))
set_option maxRecDepth 65536 in
set_option maxHeartbeats 40000000 in
theorem rmK (l : Launch) (Z : State) (a0 : Array Value) (hw : ∀ d ∈ tables_1, d.before a0 Z = true) (ws : List Jvm.Cond) (a1 : Addr) (d : Addr) (sd : Addr) (da : Nat) (db : Nat) (dc : Nat) (n : Nat) (h0 : Heap) (n0 : Nat) (Z0 : n0 ≤ h0.size) (F1 : Fld Z h0 a1 "com/example/tallyrank/tallyrank/search/ScoreWindows" "scored" "[J" (.ref sd)) (Ad : Al Z h0 d .int [.int (Int32.ofNat da), .int (Int32.ofNat db), .int (Int32.ofNat dc)]) (As : Al Z h0 sd .long (own_ws [])) (gs : n0 ≤ sd) (nd : d ≠ sd) (na : a1 ≠ sd) (ha : da < 8192) (hb8 : db < 8192) (hc8 : dc < 8192) (hn : n ≤ 3) :
    OwnMet l Z (⟨"com/example/tallyrank/tallyrank/search/ScoreWindows", "markScored", "([IIIII)I"⟩ : MethodName) prog_174_method_22_code 8 (some .int) ws ({ frames := 0, cells := 0, slots := 0, locals := 0 } : Room) #[(.ref a1), (.ref d), (.int (0 : Int32)), (.int (Int32.ofNat n)), (.int (0 : Int32)), (.int (8192 : Int32))] h0 (Q_rmK Z a1 d sd da db dc n h0 n0) := by
  refine own_body pf_3 ?_
  intro p e s m below meth c s₁ hx hby hml hown hnm hret hlk hZ X0 e0
  have N0 := Fr.nil n0
  refine own_cast (ef_5_rmK m a1 d sd da db dc n ) ?_
  have hnI := own_ofi n (by omega)
  refine g_iload_n X0 hx 1 rfl (hb hby d5_0) rfl ?_
  refine g_istore X0 hx 3 rfl (hb hby d5_1) #[.val (.ref a1), .val (.ref d), .val (.int (0 : Int32)), .val (.int (Int32.ofNat n)), .val (.int (0 : Int32)), .val (.int (8192 : Int32)), .val (.int (0 : Int32)), .unset] rfl ?_
  refine g_iload X0 hx 5 rfl (hb hby d5_3) rfl ?_
  refine g_iload_n X0 hx 6 rfl (hb hby d5_5) rfl ?_
  by_cases c0 : (0 : Int32) < (Int32.ofNat n)
  · refine g_icmpN X0 hx 9 rfl (hb hby d5_6) (XT.ii_ge_f c0) ?_
    refine g_aload_n X0 hx 10 rfl (hb hby d5_9) rfl rfl ?_
    refine g_iload X0 hx 12 rfl (hb hby d5_10) rfl ?_
    refine g_iaload X0 hx hZ 13 rfl (hb hby d5_12) e0 Ad 0 rfl (.int (Int32.ofNat da)) rfl ?_
    refine g_iload X0 hx 15 rfl (hb hby d5_13) rfl ?_
    refine g_icmpN X0 hx 18 rfl (hb hby d5_15) (XT.ii_ge_f (by rw [Int32.lt_iff_toInt_lt, own_ofi da (by omega)]; have z : (8192 : Int32).toInt = 8192 := rfl; omega)) ?_
    refine g_aload_n X0 hx 19 rfl (hb hby d5_18) rfl rfl ?_
    refine g_iload X0 hx 21 rfl (hb hby d5_19) rfl ?_
    refine g_iinc X0 hx 24 rfl (hb hby d5_21) (1 : Int32) rfl rfl #[.val (.ref a1), .val (.ref d), .val (.int (0 : Int32)), .val (.int (Int32.ofNat n)), .val (.int (0 : Int32)), .val (.int (8192 : Int32)), .val (.int (1 : Int32)), .unset] rfl ?_
    refine g_iaload X0 hx hZ 25 rfl (hb hby d5_24) e0 Ad 0 rfl (.int (Int32.ofNat da)) rfl ?_
    refine g_iload X0 hx 27 rfl (hb hby d5_25) rfl ?_
    refine g_isub X0 hx 28 rfl (hb hby d5_27) ?_
    rw [show (Int32.ofNat da) - (0 : Int32) = Int32.ofNat da from Int32.sub_zero _]
    refine g_istore X0 hx 30 rfl (hb hby d5_28) #[.val (.ref a1), .val (.ref d), .val (.int (0 : Int32)), .val (.int (Int32.ofNat n)), .val (.int (0 : Int32)), .val (.int (8192 : Int32)), .val (.int (1 : Int32)), .val (.int (Int32.ofNat da))] rfl ?_
    refine g_aload_n X0 hx 31 rfl (hb hby d5_30) rfl rfl ?_
    refine g_getF X0 hx hZ 34 rfl hown (hw _ (List.mem_of_getElem? (i := 22) rfl)) e0 F1 (hb hby d5_31) ?_
    intro T1 X1 e1
    refine g_iload X1 hx 36 rfl (hb hby d5_34) rfl ?_
    refine g_bipush X1 hx 38 rfl (6 : Int32) rfl (hb hby d5_36) ?_
    refine g_iushr X1 hx 39 rfl (hb hby d5_38) ?_
    refine g_dup2 X1 hx 40 rfl (hb hby d5_39) rfl rfl ?_
    refine g_laload X1 hx hZ 41 rfl (hb hby d5_40) e1 As (da / 64) (own_idx da ha) (.long (own_word [] (da / 64))) (own_ws_get _ _ (by omega)) ?_
    refine g_lconst X1 hx 42 rfl (1 : Int64) rfl (hb hby d5_41) ?_
    refine g_iload X1 hx 44 rfl (hb hby d5_42) rfl ?_
    refine g_lshl X1 hx 45 rfl (hb hby d5_44) ?_
    refine g_lor X1 hx 46 rfl (hb hby d5_45) ?_
    refine g_lastore X1 hx hZ 47 rfl (hb hby d5_46) e1 As (da / 64) (own_idx da ha) (by rw [own_ws_len]; omega) ?_
    intro T2 h2 X2 e2 W2 B2
    have N2 := Fr.snoc X2 N0 gs
    have Aw3 : Al Z h2 sd .long (own_ws (da :: [])) := own_ws_set [] da ha ▸ B2
    refine g_goto X2 hx 3 (hb hby d5_47) (by decide) (by decide) ?_
    refine g_iload X2 hx 5 rfl (hb hby d5_3) rfl ?_
    refine g_iload_n X2 hx 6 rfl (hb hby d5_5) rfl ?_
    by_cases c1 : (1 : Int32) < (Int32.ofNat n)
    · refine g_icmpN X2 hx 9 rfl (hb hby d5_6) (XT.ii_ge_f c1) ?_
      refine g_aload_n X2 hx 10 rfl (hb hby d5_9) rfl rfl ?_
      refine g_iload X2 hx 12 rfl (hb hby d5_10) rfl ?_
      have Al4 := (Ad.other W2 nd)
      refine g_iaload X2 hx hZ 13 rfl (hb hby d5_12) e2 Al4 1 rfl (.int (Int32.ofNat db)) rfl ?_
      refine g_iload X2 hx 15 rfl (hb hby d5_13) rfl ?_
      refine g_icmpN X2 hx 18 rfl (hb hby d5_15) (XT.ii_ge_f (by rw [Int32.lt_iff_toInt_lt, own_ofi db (by omega)]; have z : (8192 : Int32).toInt = 8192 := rfl; omega)) ?_
      refine g_aload_n X2 hx 19 rfl (hb hby d5_18) rfl rfl ?_
      refine g_iload X2 hx 21 rfl (hb hby d5_19) rfl ?_
      refine g_iinc X2 hx 24 rfl (hb hby d5_21) (2 : Int32) rfl rfl #[.val (.ref a1), .val (.ref d), .val (.int (0 : Int32)), .val (.int (Int32.ofNat n)), .val (.int (0 : Int32)), .val (.int (8192 : Int32)), .val (.int (2 : Int32)), .val (.int (Int32.ofNat da))] rfl ?_
      refine g_iaload X2 hx hZ 25 rfl (hb hby d5_24) e2 Al4 1 rfl (.int (Int32.ofNat db)) rfl ?_
      refine g_iload X2 hx 27 rfl (hb hby d5_25) rfl ?_
      refine g_isub X2 hx 28 rfl (hb hby d5_27) ?_
      rw [show (Int32.ofNat db) - (0 : Int32) = Int32.ofNat db from Int32.sub_zero _]
      refine g_istore X2 hx 30 rfl (hb hby d5_28) #[.val (.ref a1), .val (.ref d), .val (.int (0 : Int32)), .val (.int (Int32.ofNat n)), .val (.int (0 : Int32)), .val (.int (8192 : Int32)), .val (.int (2 : Int32)), .val (.int (Int32.ofNat db))] rfl ?_
      refine g_aload_n X2 hx 31 rfl (hb hby d5_30) rfl rfl ?_
      have Fld5 := (F1.other W2 (Or.inl na))
      refine g_getF X2 hx hZ 34 rfl hown (hw _ (List.mem_of_getElem? (i := 22) rfl)) e2 Fld5 (hb hby d5_31) ?_
      intro T6 X6 e6
      refine g_iload X6 hx 36 rfl (hb hby d5_34) rfl ?_
      refine g_bipush X6 hx 38 rfl (6 : Int32) rfl (hb hby d5_36) ?_
      refine g_iushr X6 hx 39 rfl (hb hby d5_38) ?_
      refine g_dup2 X6 hx 40 rfl (hb hby d5_39) rfl rfl ?_
      refine g_laload X6 hx hZ 41 rfl (hb hby d5_40) e6 Aw3 (db / 64) (own_idx db hb8) (.long (own_word (da :: []) (db / 64))) (own_ws_get _ _ (by omega)) ?_
      refine g_lconst X6 hx 42 rfl (1 : Int64) rfl (hb hby d5_41) ?_
      refine g_iload X6 hx 44 rfl (hb hby d5_42) rfl ?_
      refine g_lshl X6 hx 45 rfl (hb hby d5_44) ?_
      refine g_lor X6 hx 46 rfl (hb hby d5_45) ?_
      refine g_lastore X6 hx hZ 47 rfl (hb hby d5_46) e6 Aw3 (db / 64) (own_idx db hb8) (by rw [own_ws_len]; omega) ?_
      intro T7 h7 X7 e7 W7 B7
      have N7 := Fr.snoc X7 N2 gs
      have Aw8 : Al Z h7 sd .long (own_ws (db :: (da :: []))) := own_ws_set (da :: []) db hb8 ▸ B7
      refine g_goto X7 hx 3 (hb hby d5_47) (by decide) (by decide) ?_
      refine g_iload X7 hx 5 rfl (hb hby d5_3) rfl ?_
      refine g_iload_n X7 hx 6 rfl (hb hby d5_5) rfl ?_
      by_cases c2 : (2 : Int32) < (Int32.ofNat n)
      · refine g_icmpN X7 hx 9 rfl (hb hby d5_6) (XT.ii_ge_f c2) ?_
        refine g_aload_n X7 hx 10 rfl (hb hby d5_9) rfl rfl ?_
        refine g_iload X7 hx 12 rfl (hb hby d5_10) rfl ?_
        have Al9 := (Al4.other W7 nd)
        refine g_iaload X7 hx hZ 13 rfl (hb hby d5_12) e7 Al9 2 rfl (.int (Int32.ofNat dc)) rfl ?_
        refine g_iload X7 hx 15 rfl (hb hby d5_13) rfl ?_
        refine g_icmpN X7 hx 18 rfl (hb hby d5_15) (XT.ii_ge_f (by rw [Int32.lt_iff_toInt_lt, own_ofi dc (by omega)]; have z : (8192 : Int32).toInt = 8192 := rfl; omega)) ?_
        refine g_aload_n X7 hx 19 rfl (hb hby d5_18) rfl rfl ?_
        refine g_iload X7 hx 21 rfl (hb hby d5_19) rfl ?_
        refine g_iinc X7 hx 24 rfl (hb hby d5_21) (3 : Int32) rfl rfl #[.val (.ref a1), .val (.ref d), .val (.int (0 : Int32)), .val (.int (Int32.ofNat n)), .val (.int (0 : Int32)), .val (.int (8192 : Int32)), .val (.int (3 : Int32)), .val (.int (Int32.ofNat db))] rfl ?_
        refine g_iaload X7 hx hZ 25 rfl (hb hby d5_24) e7 Al9 2 rfl (.int (Int32.ofNat dc)) rfl ?_
        refine g_iload X7 hx 27 rfl (hb hby d5_25) rfl ?_
        refine g_isub X7 hx 28 rfl (hb hby d5_27) ?_
        rw [show (Int32.ofNat dc) - (0 : Int32) = Int32.ofNat dc from Int32.sub_zero _]
        refine g_istore X7 hx 30 rfl (hb hby d5_28) #[.val (.ref a1), .val (.ref d), .val (.int (0 : Int32)), .val (.int (Int32.ofNat n)), .val (.int (0 : Int32)), .val (.int (8192 : Int32)), .val (.int (3 : Int32)), .val (.int (Int32.ofNat dc))] rfl ?_
        refine g_aload_n X7 hx 31 rfl (hb hby d5_30) rfl rfl ?_
        have Fld10 := (Fld5.other W7 (Or.inl na))
        refine g_getF X7 hx hZ 34 rfl hown (hw _ (List.mem_of_getElem? (i := 22) rfl)) e7 Fld10 (hb hby d5_31) ?_
        intro T11 X11 e11
        refine g_iload X11 hx 36 rfl (hb hby d5_34) rfl ?_
        refine g_bipush X11 hx 38 rfl (6 : Int32) rfl (hb hby d5_36) ?_
        refine g_iushr X11 hx 39 rfl (hb hby d5_38) ?_
        refine g_dup2 X11 hx 40 rfl (hb hby d5_39) rfl rfl ?_
        refine g_laload X11 hx hZ 41 rfl (hb hby d5_40) e11 Aw8 (dc / 64) (own_idx dc hc8) (.long (own_word (db :: (da :: [])) (dc / 64))) (own_ws_get _ _ (by omega)) ?_
        refine g_lconst X11 hx 42 rfl (1 : Int64) rfl (hb hby d5_41) ?_
        refine g_iload X11 hx 44 rfl (hb hby d5_42) rfl ?_
        refine g_lshl X11 hx 45 rfl (hb hby d5_44) ?_
        refine g_lor X11 hx 46 rfl (hb hby d5_45) ?_
        refine g_lastore X11 hx hZ 47 rfl (hb hby d5_46) e11 Aw8 (dc / 64) (own_idx dc hc8) (by rw [own_ws_len]; omega) ?_
        intro T12 h12 X12 e12 W12 B12
        have N12 := Fr.snoc X12 N7 gs
        have Aw13 : Al Z h12 sd .long (own_ws (dc :: (db :: (da :: [])))) := own_ws_set (db :: (da :: [])) dc hc8 ▸ B12
        refine g_goto X12 hx 3 (hb hby d5_47) (by decide) (by decide) ?_
        refine g_iload X12 hx 5 rfl (hb hby d5_3) rfl ?_
        refine g_iload_n X12 hx 6 rfl (hb hby d5_5) rfl ?_
        have c3 : ¬ ((3 : Int32) < Int32.ofNat n) := by rw [Int32.lt_iff_toInt_lt, hnI]; have z3 : (3 : Int32).toInt = 3 := rfl; omega
        refine g_icmpY X12 hx 50 (hb hby d5_6) (XT.ii_ge_t c3) (by decide) (by decide) ?_
        have hnk : n = 3 := by
          have q0 := Int32.lt_iff_toInt_lt.mp c0; have z0 : (0 : Int32).toInt = 0 := rfl
          have q1 := Int32.lt_iff_toInt_lt.mp c1; have z1 : (1 : Int32).toInt = 1 := rfl
          have q2 := Int32.lt_iff_toInt_lt.mp c2; have z2 : (2 : Int32).toInt = 2 := rfl
          omega
        refine g_iload X12 hx 52 rfl (hb hby d5_50) rfl ?_
        subst hnk
        exact g_retI X12 hx hret hlk (hb hby d5_52) (by rw [e12]; exact ⟨⟨_, rfl⟩, N12, ((((Keep.refl h0 [sd]).wr W2 (Or.inl (List.mem_of_getElem? (i := 0) rfl))).wr W7 (Or.inl (List.mem_of_getElem? (i := 0) rfl))).wr W12 (Or.inl (List.mem_of_getElem? (i := 0) rfl))), Aw13⟩) (by decide) (by decide)
      · refine g_icmpY X7 hx 50 (hb hby d5_6) (XT.ii_ge_t c2) (by decide) (by decide) ?_
        have hnk : n = 2 := by
          have q2 : ¬ ((2 : Int32).toInt < (Int32.ofNat n).toInt) := fun z => c2 (Int32.lt_iff_toInt_lt.mpr z)
          have q0 := Int32.lt_iff_toInt_lt.mp c0; have z0 : (0 : Int32).toInt = 0 := rfl
          have q1 := Int32.lt_iff_toInt_lt.mp c1; have z1 : (1 : Int32).toInt = 1 := rfl
          have z2 : (2 : Int32).toInt = 2 := rfl
          omega
        refine g_iload X7 hx 52 rfl (hb hby d5_50) rfl ?_
        subst hnk
        exact g_retI X7 hx hret hlk (hb hby d5_52) (by rw [e7]; exact ⟨⟨_, rfl⟩, N7, (((Keep.refl h0 [sd]).wr W2 (Or.inl (List.mem_of_getElem? (i := 0) rfl))).wr W7 (Or.inl (List.mem_of_getElem? (i := 0) rfl))), Aw8⟩) (by decide) (by decide)
    · refine g_icmpY X2 hx 50 (hb hby d5_6) (XT.ii_ge_t c1) (by decide) (by decide) ?_
      have hnk : n = 1 := by
        have q1 : ¬ ((1 : Int32).toInt < (Int32.ofNat n).toInt) := fun z => c1 (Int32.lt_iff_toInt_lt.mpr z)
        have q0 := Int32.lt_iff_toInt_lt.mp c0; have z0 : (0 : Int32).toInt = 0 := rfl
        have z1 : (1 : Int32).toInt = 1 := rfl
        omega
      refine g_iload X2 hx 52 rfl (hb hby d5_50) rfl ?_
      subst hnk
      exact g_retI X2 hx hret hlk (hb hby d5_52) (by rw [e2]; exact ⟨⟨_, rfl⟩, N2, ((Keep.refl h0 [sd]).wr W2 (Or.inl (List.mem_of_getElem? (i := 0) rfl))), Aw3⟩) (by decide) (by decide)
  · refine g_icmpY X0 hx 50 (hb hby d5_6) (XT.ii_ge_t c0) (by decide) (by decide) ?_
    have hnk : n = 0 := by
      have q0 : ¬ ((0 : Int32).toInt < (Int32.ofNat n).toInt) := fun z => c0 (Int32.lt_iff_toInt_lt.mpr z)
      have z0 : (0 : Int32).toInt = 0 := rfl
      omega
    refine g_iload X0 hx 52 rfl (hb hby d5_50) rfl ?_
    subst hnk
    exact g_retI X0 hx hret hlk (hb hby d5_52) (by rw [e0]; exact ⟨⟨_, rfl⟩, N0, (Keep.refl h0 [sd]), As⟩) (by decide) (by decide)
theorem d6_0 : decode method_2_code 0 = .ok (.iload_n 0, 1) := by decide +kernel
theorem d6_1 : decode method_2_code 1 = .ok (.iload_n 1, 1) := by decide +kernel
theorem d6_2 : decode method_2_code 2 = .ok (.if_icmp .lt 12, 3) := by decide +kernel
theorem d6_5 : decode method_2_code 5 = .ok (.iload_n 0, 1) := by decide +kernel
theorem d6_6 : decode method_2_code 6 = .ok (.iload_n 2, 1) := by decide +kernel
theorem d6_7 : decode method_2_code 7 = .ok (.if_icmp .ge 7, 3) := by decide +kernel
theorem d6_10 : decode method_2_code 10 = .ok (.iconst 1, 1) := by decide +kernel
theorem d6_11 : decode method_2_code 11 = .ok (.goto 4, 3) := by decide +kernel
theorem d6_14 : decode method_2_code 14 = .ok (.iconst 0, 1) := by decide +kernel
theorem d6_15 : decode method_2_code 15 = .ok (.ireturn, 1) := by decide +kernel
theorem pf_4 : plainFor (⟨"com/example/tallyrank/tallyrank/search/ScoreWindowsAnyScoredPinLaw", "in", "(III)Z"⟩ : MethodName) = true := by first | exact plainFor_of_name (by first | (simp [plainName, overriddenIn]; done) | decide +kernel) | decide +kernel
theorem ef_6_rmN (m : MethodId) (p1 : Int32) (p2 : Int32) (p3 : Int32)  : entryFrame m #[(.int p1), (.int p2), (.int p3)] 3 = mkF m 0 #[.val (.int p1), .val (.int p2), .val (.int p3)] [] := by first | (simp [entryFrame, mkF, argsToLocals, Value.category, maxLocals]; done) | rfl
def Q_rmN (Z : State) (p1 : Int32) (p2 : Int32) (p3 : Int32) (h0 : Heap) (n0 : Nat) (v : Option Value) (h : Heap) (L : List Loc) : Prop := v = some (.int (b2i (decide (¬ p1 < p2 ∧ p1 < p3)))) ∧ Fr n0 L ∧ h = h0
set_option maxRecDepth 65536 in
set_option maxHeartbeats 40000000 in
theorem rmN (l : Launch) (Z : State) (a0 : Array Value) (hw : ∀ d ∈ tables_1, d.before a0 Z = true) (ws : List Jvm.Cond) (p1 : Int32) (p2 : Int32) (p3 : Int32) (h0 : Heap) (n0 : Nat) (Z0 : n0 ≤ h0.size)  :
    OwnMet l Z (⟨"com/example/tallyrank/tallyrank/search/ScoreWindowsAnyScoredPinLaw", "in", "(III)Z"⟩ : MethodName) method_2_code 3 (some .boolean) ws ({ frames := 0, cells := 0, slots := 0, locals := 0 } : Room) #[(.int p1), (.int p2), (.int p3)] h0 (Q_rmN Z p1 p2 p3 h0 n0) := by
  refine own_body pf_4 ?_
  intro p e s m below meth c s₁ hx hby hml hown hnm hret hlk hZ X0 e0
  have N0 := Fr.nil n0
  refine own_cast (ef_6_rmN m p1 p2 p3 ) ?_
  refine g_iload_n X0 hx 1 rfl (hb hby d6_0) rfl ?_
  refine g_iload_n X0 hx 2 rfl (hb hby d6_1) rfl ?_
  by_cases c2 : p1 < p2
  · refine g_icmpY X0 hx 14 (hb hby d6_2) (XT.ii_lt_t c2) (by decide) (by decide) ?_
    refine g_iconst X0 hx 15 rfl (0 : Int32) rfl (hb hby d6_14) ?_
    exact g_retZ X0 hx hret hlk rfl (hb hby d6_15) ⟨by simp [b2i, c2], N0, e0⟩ (by decide) (by decide)
  · refine g_icmpN X0 hx 5 rfl (hb hby d6_2) (XT.ii_lt_f c2) ?_
    refine g_iload_n X0 hx 6 rfl (hb hby d6_5) rfl ?_
    refine g_iload_n X0 hx 7 rfl (hb hby d6_6) rfl ?_
    by_cases c7 : p1 < p3
    · refine g_icmpN X0 hx 10 rfl (hb hby d6_7) (XT.ii_ge_f c7) ?_
      refine g_iconst X0 hx 11 rfl (1 : Int32) rfl (hb hby d6_10) ?_
      refine g_goto X0 hx 15 (hb hby d6_11) (by decide) (by decide) ?_
      exact g_retZ X0 hx hret hlk rfl (hb hby d6_15) ⟨by simp [b2i, c2, c7], N0, e0⟩ (by decide) (by decide)
    · refine g_icmpY X0 hx 14 (hb hby d6_7) (XT.ii_ge_t c7) (by decide) (by decide) ?_
      refine g_iconst X0 hx 15 rfl (0 : Int32) rfl (hb hby d6_14) ?_
      exact g_retZ X0 hx hret hlk rfl (hb hby d6_15) ⟨by simp [b2i, c7], N0, e0⟩ (by decide) (by decide)
theorem d7_0 : decode prog_174_method_20_code 0 = .ok (.iload_n 1, 1) := by decide +kernel
theorem d7_1 : decode prog_174_method_20_code 1 = .ok (.bipush 6, 2) := by decide +kernel
theorem d7_3 : decode prog_174_method_20_code 3 = .ok (.iushr, 1) := by decide +kernel
theorem d7_4 : decode prog_174_method_20_code 4 = .ok (.istore_n 3, 1) := by decide +kernel
theorem d7_5 : decode prog_174_method_20_code 5 = .ok (.iload_n 2, 1) := by decide +kernel
theorem d7_6 : decode prog_174_method_20_code 6 = .ok (.iconst 1, 1) := by decide +kernel
theorem d7_7 : decode prog_174_method_20_code 7 = .ok (.isub, 1) := by decide +kernel
theorem d7_8 : decode prog_174_method_20_code 8 = .ok (.bipush 6, 2) := by decide +kernel
theorem d7_10 : decode prog_174_method_20_code 10 = .ok (.iushr, 1) := by decide +kernel
theorem d7_11 : decode prog_174_method_20_code 11 = .ok (.istore 4, 2) := by decide +kernel
theorem d7_13 : decode prog_174_method_20_code 13 = .ok (.ldc2_w 168, 3) := by decide +kernel
theorem d7_16 : decode prog_174_method_20_code 16 = .ok (.iload_n 1, 1) := by decide +kernel
theorem d7_17 : decode prog_174_method_20_code 17 = .ok (.lshl, 1) := by decide +kernel
theorem d7_18 : decode prog_174_method_20_code 18 = .ok (.lstore 5, 2) := by decide +kernel
theorem d7_20 : decode prog_174_method_20_code 20 = .ok (.ldc2_w 168, 3) := by decide +kernel
theorem d7_23 : decode prog_174_method_20_code 23 = .ok (.bipush 63, 2) := by decide +kernel
theorem d7_25 : decode prog_174_method_20_code 25 = .ok (.iload_n 2, 1) := by decide +kernel
theorem d7_26 : decode prog_174_method_20_code 26 = .ok (.iconst 1, 1) := by decide +kernel
theorem d7_27 : decode prog_174_method_20_code 27 = .ok (.isub, 1) := by decide +kernel
theorem d7_28 : decode prog_174_method_20_code 28 = .ok (.bipush 63, 2) := by decide +kernel
theorem d7_30 : decode prog_174_method_20_code 30 = .ok (.iand, 1) := by decide +kernel
theorem d7_31 : decode prog_174_method_20_code 31 = .ok (.isub, 1) := by decide +kernel
theorem d7_32 : decode prog_174_method_20_code 32 = .ok (.lushr, 1) := by decide +kernel
theorem d7_33 : decode prog_174_method_20_code 33 = .ok (.lstore 7, 2) := by decide +kernel
theorem d7_35 : decode prog_174_method_20_code 35 = .ok (.iload_n 3, 1) := by decide +kernel
theorem d7_36 : decode prog_174_method_20_code 36 = .ok (.iload 4, 2) := by decide +kernel
theorem d7_38 : decode prog_174_method_20_code 38 = .ok (.if_icmp .ne 30, 3) := by decide +kernel
theorem d7_41 : decode prog_174_method_20_code 41 = .ok (.aload_n 0, 1) := by decide +kernel
theorem d7_42 : decode prog_174_method_20_code 42 = .ok (.getfield 15, 3) := by decide +kernel
theorem d7_45 : decode prog_174_method_20_code 45 = .ok (.iload_n 3, 1) := by decide +kernel
theorem d7_46 : decode prog_174_method_20_code 46 = .ok (.laload, 1) := by decide +kernel
theorem d7_47 : decode prog_174_method_20_code 47 = .ok (.lload 5, 2) := by decide +kernel
theorem d7_49 : decode prog_174_method_20_code 49 = .ok (.land, 1) := by decide +kernel
theorem d7_50 : decode prog_174_method_20_code 50 = .ok (.lload 7, 2) := by decide +kernel
theorem d7_52 : decode prog_174_method_20_code 52 = .ok (.land, 1) := by decide +kernel
theorem d7_53 : decode prog_174_method_20_code 53 = .ok (.lconst 0, 1) := by decide +kernel
theorem d7_54 : decode prog_174_method_20_code 54 = .ok (.lcmp, 1) := by decide +kernel
theorem d7_55 : decode prog_174_method_20_code 55 = .ok (.ifCond .eq 7, 3) := by decide +kernel
theorem d7_58 : decode prog_174_method_20_code 58 = .ok (.iconst 1, 1) := by decide +kernel
theorem d7_59 : decode prog_174_method_20_code 59 = .ok (.goto 4, 3) := by decide +kernel
theorem d7_62 : decode prog_174_method_20_code 62 = .ok (.iconst 0, 1) := by decide +kernel
theorem d7_63 : decode prog_174_method_20_code 63 = .ok (.istore 9, 2) := by decide +kernel
theorem d7_65 : decode prog_174_method_20_code 65 = .ok (.goto 81, 3) := by decide +kernel
theorem d7_68 : decode prog_174_method_20_code 68 = .ok (.aload_n 0, 1) := by decide +kernel
theorem d7_69 : decode prog_174_method_20_code 69 = .ok (.getfield 15, 3) := by decide +kernel
theorem d7_72 : decode prog_174_method_20_code 72 = .ok (.iload_n 3, 1) := by decide +kernel
theorem d7_73 : decode prog_174_method_20_code 73 = .ok (.laload, 1) := by decide +kernel
theorem d7_74 : decode prog_174_method_20_code 74 = .ok (.lload 5, 2) := by decide +kernel
theorem d7_76 : decode prog_174_method_20_code 76 = .ok (.land, 1) := by decide +kernel
theorem d7_77 : decode prog_174_method_20_code 77 = .ok (.lconst 0, 1) := by decide +kernel
theorem d7_78 : decode prog_174_method_20_code 78 = .ok (.lcmp, 1) := by decide +kernel
theorem d7_79 : decode prog_174_method_20_code 79 = .ok (.ifCond .ne 18, 3) := by decide +kernel
theorem d7_82 : decode prog_174_method_20_code 82 = .ok (.aload_n 0, 1) := by decide +kernel
theorem d7_83 : decode prog_174_method_20_code 83 = .ok (.getfield 15, 3) := by decide +kernel
theorem d7_86 : decode prog_174_method_20_code 86 = .ok (.iload 4, 2) := by decide +kernel
theorem d7_88 : decode prog_174_method_20_code 88 = .ok (.laload, 1) := by decide +kernel
theorem d7_89 : decode prog_174_method_20_code 89 = .ok (.lload 7, 2) := by decide +kernel
theorem d7_91 : decode prog_174_method_20_code 91 = .ok (.land, 1) := by decide +kernel
theorem d7_92 : decode prog_174_method_20_code 92 = .ok (.lconst 0, 1) := by decide +kernel
theorem d7_93 : decode prog_174_method_20_code 93 = .ok (.lcmp, 1) := by decide +kernel
theorem d7_94 : decode prog_174_method_20_code 94 = .ok (.ifCond .eq 7, 3) := by decide +kernel
theorem d7_97 : decode prog_174_method_20_code 97 = .ok (.iconst 1, 1) := by decide +kernel
theorem d7_98 : decode prog_174_method_20_code 98 = .ok (.goto 4, 3) := by decide +kernel
theorem d7_101 : decode prog_174_method_20_code 101 = .ok (.iconst 0, 1) := by decide +kernel
theorem d7_102 : decode prog_174_method_20_code 102 = .ok (.istore 9, 2) := by decide +kernel
theorem d7_104 : decode prog_174_method_20_code 104 = .ok (.iload_n 3, 1) := by decide +kernel
theorem d7_105 : decode prog_174_method_20_code 105 = .ok (.iconst 1, 1) := by decide +kernel
theorem d7_106 : decode prog_174_method_20_code 106 = .ok (.iadd, 1) := by decide +kernel
theorem d7_107 : decode prog_174_method_20_code 107 = .ok (.istore 10, 2) := by decide +kernel
theorem d7_109 : decode prog_174_method_20_code 109 = .ok (.iload 10, 2) := by decide +kernel
theorem d7_111 : decode prog_174_method_20_code 111 = .ok (.iload 4, 2) := by decide +kernel
theorem d7_113 : decode prog_174_method_20_code 113 = .ok (.if_icmp .ge 33, 3) := by decide +kernel
theorem d7_116 : decode prog_174_method_20_code 116 = .ok (.iload 9, 2) := by decide +kernel
theorem d7_118 : decode prog_174_method_20_code 118 = .ok (.ifCond .ne 28, 3) := by decide +kernel
theorem d7_121 : decode prog_174_method_20_code 121 = .ok (.aload_n 0, 1) := by decide +kernel
theorem d7_122 : decode prog_174_method_20_code 122 = .ok (.getfield 15, 3) := by decide +kernel
theorem d7_125 : decode prog_174_method_20_code 125 = .ok (.iload 10, 2) := by decide +kernel
theorem d7_127 : decode prog_174_method_20_code 127 = .ok (.laload, 1) := by decide +kernel
theorem d7_128 : decode prog_174_method_20_code 128 = .ok (.lconst 0, 1) := by decide +kernel
theorem d7_129 : decode prog_174_method_20_code 129 = .ok (.lcmp, 1) := by decide +kernel
theorem d7_130 : decode prog_174_method_20_code 130 = .ok (.ifCond .eq 7, 3) := by decide +kernel
theorem d7_133 : decode prog_174_method_20_code 133 = .ok (.iconst 1, 1) := by decide +kernel
theorem d7_134 : decode prog_174_method_20_code 134 = .ok (.goto 4, 3) := by decide +kernel
theorem d7_137 : decode prog_174_method_20_code 137 = .ok (.iconst 0, 1) := by decide +kernel
theorem d7_138 : decode prog_174_method_20_code 138 = .ok (.istore 9, 2) := by decide +kernel
theorem d7_140 : decode prog_174_method_20_code 140 = .ok (.iinc 10 1, 3) := by decide +kernel
theorem d7_143 : decode prog_174_method_20_code 143 = .ok (.goto (-34), 3) := by decide +kernel
theorem d7_146 : decode prog_174_method_20_code 146 = .ok (.iload 9, 2) := by decide +kernel
theorem d7_148 : decode prog_174_method_20_code 148 = .ok (.ireturn, 1) := by decide +kernel
theorem pf_5 : plainFor (⟨"com/example/tallyrank/tallyrank/search/ScoreWindows", "anyScored", "(II)Z"⟩ : MethodName) = true := by first | exact plainFor_of_name (by first | (simp [plainName, overriddenIn]; done) | decide +kernel) | decide +kernel
theorem ef_7_rmY (m : MethodId) (a1 : Addr) (sd : Addr) (S : List Nat) (f : Nat) (t : Nat)  : entryFrame m #[(.ref a1), (.int (Int32.ofNat f)), (.int (Int32.ofNat (t + 1)))] 11 = mkF m 0 #[.val (.ref a1), .val (.int (Int32.ofNat f)), .val (.int (Int32.ofNat (t + 1))), .unset, .unset, .unset, .unset, .unset, .unset, .unset, .unset] [] := by first | (simp [entryFrame, mkF, argsToLocals, Value.category, maxLocals]; done) | rfl
def Q_rmY (Z : State) (a1 : Addr) (sd : Addr) (S : List Nat) (f : Nat) (t : Nat) (h0 : Heap) (n0 : Nat) (v : Option Value) (h : Heap) (L : List Loc) : Prop := v = some (.int (b2i (own_any S f (t + 1)))) ∧ Fr n0 L ∧ h = h0
set_option maxRecDepth 65536 in
set_option maxHeartbeats 40000000 in
theorem rmY (l : Launch) (Z : State) (a0 : Array Value) (hw : ∀ d ∈ tables_1, d.before a0 Z = true) (ws : List Jvm.Cond) (a1 : Addr) (sd : Addr) (S : List Nat) (f : Nat) (t : Nat) (h0 : Heap) (n0 : Nat) (Z0 : n0 ≤ h0.size) (F1 : Fld Z h0 a1 "com/example/tallyrank/tallyrank/search/ScoreWindows" "scored" "[J" (.ref sd)) (As : Al Z h0 sd .long (own_ws S)) (hS : ∀ p ∈ S, p < 8192) (hft : f ≤ t) (ht : t < 8192) :
    OwnMet l Z (⟨"com/example/tallyrank/tallyrank/search/ScoreWindows", "anyScored", "(II)Z"⟩ : MethodName) prog_174_method_20_code 11 (some .boolean) ws ({ frames := 0, cells := 0, slots := 0, locals := 0 } : Room) #[(.ref a1), (.int (Int32.ofNat f)), (.int (Int32.ofNat (t + 1)))] h0 (Q_rmY Z a1 sd S f t h0 n0) := by
  refine own_body pf_5 ?_
  intro p e s m below meth c s₁ hx hby hml hown hnm hret hlk hZ X0 e0
  have N0 := Fr.nil n0
  refine own_cast (ef_7_rmY m a1 sd S f t ) ?_
  refine g_iload_n X0 hx 1 rfl (hb hby d7_0) rfl ?_
  refine g_bipush X0 hx 3 rfl (6 : Int32) rfl (hb hby d7_1) ?_
  refine g_iushr X0 hx 4 rfl (hb hby d7_3) ?_
  rw [show XT.ushr (Int32.ofNat f) (6 : Int32) = Int32.ofNat (f / 64) from own_ofNat _ _ (own_idx f (by omega))]
  refine g_istore_n X0 hx 5 rfl (hb hby d7_4) #[.val (.ref a1), .val (.int (Int32.ofNat f)), .val (.int (Int32.ofNat (t + 1))), .val (.int (Int32.ofNat (f / 64))), .unset, .unset, .unset, .unset, .unset, .unset, .unset] rfl ?_
  refine g_iload_n X0 hx 6 rfl (hb hby d7_5) rfl ?_
  refine g_iconst X0 hx 7 rfl (1 : Int32) rfl (hb hby d7_6) ?_
  refine g_isub X0 hx 8 rfl (hb hby d7_7) ?_
  have ht1 : Int32.ofNat (t + 1) - (1 : Int32) = Int32.ofNat t := by
    have h1 := c_isub (Int32.ofNat (t + 1)) 1; have h2 := rng32 (Int32.ofNat (t + 1) - 1); have h3 := own_ofi (t + 1) (by omega); have h4 : (1 : Int32).toInt = 1 := rfl
    apply Int32.toInt_inj.mp; rw [own_ofi t (by omega)]; omega
  rw [ht1]
  refine g_bipush X0 hx 10 rfl (6 : Int32) rfl (hb hby d7_8) ?_
  refine g_iushr X0 hx 11 rfl (hb hby d7_10) ?_
  rw [show XT.ushr (Int32.ofNat t) (6 : Int32) = Int32.ofNat (t / 64) from own_ofNat _ _ (own_idx t ht)]
  refine g_istore X0 hx 13 rfl (hb hby d7_11) #[.val (.ref a1), .val (.int (Int32.ofNat f)), .val (.int (Int32.ofNat (t + 1))), .val (.int (Int32.ofNat (f / 64))), .val (.int (Int32.ofNat (t / 64))), .unset, .unset, .unset, .unset, .unset, .unset] rfl ?_
  refine g_ldcJ X0 hx 16 rfl hown hZ (hw _ (List.mem_of_getElem? (i := 42) rfl)) (hb hby d7_13) ?_
  refine g_iload_n X0 hx 17 rfl (hb hby d7_16) rfl ?_
  refine g_lshl X0 hx 18 rfl (hb hby d7_17) ?_
  refine g_lstore X0 hx 20 rfl (hb hby d7_18) #[.val (.ref a1), .val (.int (Int32.ofNat f)), .val (.int (Int32.ofNat (t + 1))), .val (.int (Int32.ofNat (f / 64))), .val (.int (Int32.ofNat (t / 64))), .val (.long ((-1 : Int64) <<< ((Int32.ofNat f).toInt64 &&& 63))), .second, .unset, .unset, .unset, .unset] rfl ?_
  refine g_ldcJ X0 hx 23 rfl hown hZ (hw _ (List.mem_of_getElem? (i := 42) rfl)) (hb hby d7_20) ?_
  refine g_bipush X0 hx 25 rfl (63 : Int32) rfl (hb hby d7_23) ?_
  refine g_iload_n X0 hx 26 rfl (hb hby d7_25) rfl ?_
  refine g_iconst X0 hx 27 rfl (1 : Int32) rfl (hb hby d7_26) ?_
  refine g_isub X0 hx 28 rfl (hb hby d7_27) ?_
  rw [ht1]
  refine g_bipush X0 hx 30 rfl (63 : Int32) rfl (hb hby d7_28) ?_
  refine g_iand X0 hx 31 rfl (hb hby d7_30) ?_
  refine g_isub X0 hx 32 rfl (hb hby d7_31) ?_
  refine g_lushr X0 hx 33 rfl (hb hby d7_32) ?_
  refine g_lstore X0 hx 35 rfl (hb hby d7_33) #[.val (.ref a1), .val (.int (Int32.ofNat f)), .val (.int (Int32.ofNat (t + 1))), .val (.int (Int32.ofNat (f / 64))), .val (.int (Int32.ofNat (t / 64))), .val (.long ((-1 : Int64) <<< ((Int32.ofNat f).toInt64 &&& 63))), .second, .val (.long (XT.ushrL (-1 : Int64) ((63 : Int32) - ((Int32.ofNat t) &&& (63 : Int32))))), .second, .unset, .unset] rfl ?_
  refine g_iload_n X0 hx 36 rfl (hb hby d7_35) rfl ?_
  refine g_iload X0 hx 38 rfl (hb hby d7_36) rfl ?_
  have hfI := own_ofi (f / 64) (by omega)
  have htI := own_ofi (t / 64) (by omega)
  change Goes p e below (s₁.setTop (mkF m 38 #[.val (.ref a1), .val (.int (Int32.ofNat f)), .val (.int (Int32.ofNat (t + 1))), .val (.int (Int32.ofNat (f / 64))), .val (.int (Int32.ofNat (t / 64))), .val (.long (own_F f)), .second, .val (.long (own_L t)), .second, .unset, .unset] [.int (Int32.ofNat (t / 64)), .int (Int32.ofNat (f / 64))])) _
  by_cases c38 : (Int32.ofNat (f / 64)) = (Int32.ofNat (t / 64))
  · refine g_icmpN X0 hx 41 rfl (hb hby d7_38) (XT.ii_ne_f c38) ?_
    have he : f / 64 = t / 64 := by have q := congrArg Int32.toInt c38; omega
    refine g_aload_n X0 hx 42 rfl (hb hby d7_41) rfl rfl ?_
    refine g_getF X0 hx hZ 45 rfl hown (hw _ (List.mem_of_getElem? (i := 22) rfl)) e0 F1 (hb hby d7_42) ?_
    intro T1 X1 e1
    refine g_iload_n X1 hx 46 rfl (hb hby d7_45) rfl ?_
    refine g_laload X1 hx hZ 47 rfl (hb hby d7_46) e1 As (f / 64) hfI (.long (own_word S (f / 64))) (own_ws_get _ _ (by omega)) ?_
    refine g_lload X1 hx 49 rfl (hb hby d7_47) rfl ?_
    refine g_land X1 hx 50 rfl (hb hby d7_49) ?_
    refine g_lload X1 hx 52 rfl (hb hby d7_50) rfl ?_
    refine g_land X1 hx 53 rfl (hb hby d7_52) ?_
    refine g_lconst X1 hx 54 rfl (0 : Int64) rfl (hb hby d7_53) ?_
    refine g_lcmp X1 hx 55 rfl (hb hby d7_54) ?_
    have key := own_one S hS f t hft ht he
    by_cases c55 : (((own_word S (f / 64)) &&& (own_F f)) &&& (own_L t)) = (0 : Int64)
    · refine g_ifY X1 hx 62 (hb hby d7_55) (XT.ll_eq_t c55) (by decide) (by decide) ?_
      refine g_iconst X1 hx 63 rfl (0 : Int32) rfl (hb hby d7_62) ?_
      refine g_istore X1 hx 65 rfl (hb hby d7_63) #[.val (.ref a1), .val (.int (Int32.ofNat f)), .val (.int (Int32.ofNat (t + 1))), .val (.int (Int32.ofNat (f / 64))), .val (.int (Int32.ofNat (t / 64))), .val (.long (own_F f)), .second, .val (.long (own_L t)), .second, .val (.int (0 : Int32)), .unset] rfl ?_
      refine g_goto X1 hx 146 (hb hby d7_65) (by decide) (by decide) ?_
      refine g_iload X1 hx 148 rfl (hb hby d7_146) rfl ?_
      exact g_retZ X1 hx hret hlk rfl (hb hby d7_148) ⟨by rw [show own_any S f (t + 1) = false from by cases q : own_any S f (t + 1) with | false => rfl | true => exact absurd c55 (key.mpr q)]; rfl, N0, e1⟩ (by decide) (by decide)
    · refine g_ifN X1 hx 58 rfl (hb hby d7_55) (XT.ll_eq_f c55) ?_
      refine g_iconst X1 hx 59 rfl (1 : Int32) rfl (hb hby d7_58) ?_
      refine g_goto X1 hx 63 (hb hby d7_59) (by decide) (by decide) ?_
      refine g_istore X1 hx 65 rfl (hb hby d7_63) #[.val (.ref a1), .val (.int (Int32.ofNat f)), .val (.int (Int32.ofNat (t + 1))), .val (.int (Int32.ofNat (f / 64))), .val (.int (Int32.ofNat (t / 64))), .val (.long (own_F f)), .second, .val (.long (own_L t)), .second, .val (.int (1 : Int32)), .unset] rfl ?_
      refine g_goto X1 hx 146 (hb hby d7_65) (by decide) (by decide) ?_
      refine g_iload X1 hx 148 rfl (hb hby d7_146) rfl ?_
      exact g_retZ X1 hx hret hlk rfl (hb hby d7_148) ⟨by rw [key.mp c55]; rfl, N0, e1⟩ (by decide) (by decide)
  · refine g_icmpY X0 hx 68 (hb hby d7_38) (XT.ii_ne_t c38) (by decide) (by decide) ?_
    have he : f / 64 < t / 64 := by
      have q : f / 64 ≠ t / 64 := fun z => c38 (by rw [z])
      omega
    have done : ∀ (i : Int32) (T : State) (locs : List Loc), own_any S f (t + 1) = true → Stand p l e ({ frames := 0, cells := 0, slots := 0, locals := 0 } : Room) s m #[(.ref a1), (.int (Int32.ofNat f)), (.int (Int32.ofNat (t + 1)))] below meth c T locs 0 0 → T.heap = h0 → Fr n0 locs → Goes p e below (T.setTop (mkF m 109 #[.val (.ref a1), .val (.int (Int32.ofNat f)), .val (.int (Int32.ofNat (t + 1))), .val (.int (Int32.ofNat (f / 64))), .val (.int (Int32.ofNat (t / 64))), .val (.long (own_F f)), .second, .val (.long (own_L t)), .second, .val (.int (1 : Int32)), .val (.int i)] [])) (Endz s ({ frames := 0, cells := 0, slots := 0, locals := 0 } : Room).cells ({ frames := 0, cells := 0, slots := 0, locals := 0 } : Room).slots (Q_rmY Z a1 sd S f t h0 n0)) := by
      intro i T locs hany X eT N
      refine g_iload X hx 111 rfl (hb hby d7_109) rfl ?_
      refine g_iload X hx 113 rfl (hb hby d7_111) rfl ?_
      by_cases c113 : i < (Int32.ofNat (t / 64))
      · refine g_icmpN X hx 116 rfl (hb hby d7_113) (XT.ii_ge_f c113) ?_
        refine g_iload X hx 118 rfl (hb hby d7_116) rfl ?_
        refine g_ifY X hx 146 (hb hby d7_118) (XT.i0_ne_t (by decide)) (by decide) (by decide) ?_
        refine g_iload X hx 148 rfl (hb hby d7_146) rfl ?_
        exact g_retZ X hx hret hlk rfl (hb hby d7_148) ⟨by rw [hany]; rfl, N, eT⟩ (by decide) (by decide)
      · refine g_icmpY X hx 146 (hb hby d7_113) (XT.ii_ge_t c113) (by decide) (by decide) ?_
        refine g_iload X hx 148 rfl (hb hby d7_146) rfl ?_
        exact g_retZ X hx hret hlk rfl (hb hby d7_148) ⟨by rw [hany]; rfl, N, eT⟩ (by decide) (by decide)
    have loop : ∀ (d i : Nat) (T : State) (locs : List Loc), i + d = t / 64 → f / 64 < i → own_word S (f / 64) &&& own_F f = 0 → own_word S (t / 64) &&& own_L t = 0 → (∀ k, f / 64 < k → k < i → own_word S k = 0) → Stand p l e ({ frames := 0, cells := 0, slots := 0, locals := 0 } : Room) s m #[(.ref a1), (.int (Int32.ofNat f)), (.int (Int32.ofNat (t + 1)))] below meth c T locs 0 0 → T.heap = h0 → Fr n0 locs → Goes p e below (T.setTop (mkF m 109 #[.val (.ref a1), .val (.int (Int32.ofNat f)), .val (.int (Int32.ofNat (t + 1))), .val (.int (Int32.ofNat (f / 64))), .val (.int (Int32.ofNat (t / 64))), .val (.long (own_F f)), .second, .val (.long (own_L t)), .second, .val (.int (0 : Int32)), .val (.int (Int32.ofNat i))] [])) (Endz s ({ frames := 0, cells := 0, slots := 0, locals := 0 } : Room).cells ({ frames := 0, cells := 0, slots := 0, locals := 0 } : Room).slots (Q_rmY Z a1 sd S f t h0 n0)) := by
      intro d
      induction d with
      | zero =>
        intro i T locs hi hfi z1 z2 hz X eT N
        refine g_iload X hx 111 rfl (hb hby d7_109) rfl ?_
        refine g_iload X hx 113 rfl (hb hby d7_111) rfl ?_
        refine g_icmpY X hx 146 (hb hby d7_113) (XT.ii_ge_t (by rw [Int32.lt_iff_toInt_lt, htI, own_ofi i (by omega)]; omega)) (by decide) (by decide) ?_
        refine g_iload X hx 148 rfl (hb hby d7_146) rfl ?_
        exact g_retZ X hx hret hlk rfl (hb hby d7_148) ⟨by rw [own_none S hS f t ht he z1 z2 (fun k h1 h2 => hz k h1 (by omega))]; rfl, N, eT⟩ (by decide) (by decide)
      | succ d ih =>
        intro i T locs hi hfi z1 z2 hz X eT N
        refine g_iload X hx 111 rfl (hb hby d7_109) rfl ?_
        refine g_iload X hx 113 rfl (hb hby d7_111) rfl ?_
        refine g_icmpN X hx 116 rfl (hb hby d7_113) (XT.ii_ge_f (by rw [Int32.lt_iff_toInt_lt, htI, own_ofi i (by omega)]; omega)) ?_
        refine g_iload X hx 118 rfl (hb hby d7_116) rfl ?_
        refine g_ifN X hx 121 rfl (hb hby d7_118) (XT.i0_ne_f rfl) ?_
        refine g_aload_n X hx 122 rfl (hb hby d7_121) rfl rfl ?_
        refine g_getF X hx hZ 125 rfl hown (hw _ (List.mem_of_getElem? (i := 22) rfl)) eT F1 (hb hby d7_122) ?_
        intro T2 X2 e2
        refine g_iload X2 hx 127 rfl (hb hby d7_125) rfl ?_
        refine g_laload X2 hx hZ 128 rfl (hb hby d7_127) e2 As i (own_ofi i (by omega)) (.long (own_word S i)) (own_ws_get _ _ (by omega)) ?_
        refine g_lconst X2 hx 129 rfl (0 : Int64) rfl (hb hby d7_128) ?_
        refine g_lcmp X2 hx 130 rfl (hb hby d7_129) ?_
        have hi1 : Int32.ofNat i + Int32.ofInt 1 = Int32.ofNat (i + 1) := by
          have h1 := c_iadd (Int32.ofNat i) (Int32.ofInt 1); have h2 := rng32 (Int32.ofNat i + Int32.ofInt 1); have h3 := own_ofi i (by omega); have h4 : (Int32.ofInt 1).toInt = 1 := rfl
          apply Int32.toInt_inj.mp; rw [own_ofi (i + 1) (by omega)]; omega
        by_cases c130 : (own_word S i) = (0 : Int64)
        · refine g_ifY X2 hx 137 (hb hby d7_130) (XT.ll_eq_t c130) (by decide) (by decide) ?_
          refine g_iconst X2 hx 138 rfl (0 : Int32) rfl (hb hby d7_137) ?_
          refine g_istore X2 hx 140 rfl (hb hby d7_138) #[.val (.ref a1), .val (.int (Int32.ofNat f)), .val (.int (Int32.ofNat (t + 1))), .val (.int (Int32.ofNat (f / 64))), .val (.int (Int32.ofNat (t / 64))), .val (.long (own_F f)), .second, .val (.long (own_L t)), .second, .val (.int (0 : Int32)), .val (.int (Int32.ofNat i))] rfl ?_
          refine g_iinc X2 hx 143 rfl (hb hby d7_140) (Int32.ofNat (i + 1)) hi1 rfl #[.val (.ref a1), .val (.int (Int32.ofNat f)), .val (.int (Int32.ofNat (t + 1))), .val (.int (Int32.ofNat (f / 64))), .val (.int (Int32.ofNat (t / 64))), .val (.long (own_F f)), .second, .val (.long (own_L t)), .second, .val (.int (0 : Int32)), .val (.int (Int32.ofNat (i + 1)))] rfl ?_
          refine g_goto X2 hx 109 (hb hby d7_143) (by decide) (by decide) ?_
          exact ih (i + 1) _ _ (by omega) (by omega) z1 z2 (fun k h1 h2 => (Nat.lt_succ_iff_lt_or_eq.mp h2).elim (hz k h1) (fun q => by rw [q]; exact c130)) X2 e2 N
        · refine g_ifN X2 hx 133 rfl (hb hby d7_130) (XT.ll_eq_f c130) ?_
          refine g_iconst X2 hx 134 rfl (1 : Int32) rfl (hb hby d7_133) ?_
          refine g_goto X2 hx 138 (hb hby d7_134) (by decide) (by decide) ?_
          refine g_istore X2 hx 140 rfl (hb hby d7_138) #[.val (.ref a1), .val (.int (Int32.ofNat f)), .val (.int (Int32.ofNat (t + 1))), .val (.int (Int32.ofNat (f / 64))), .val (.int (Int32.ofNat (t / 64))), .val (.long (own_F f)), .second, .val (.long (own_L t)), .second, .val (.int (1 : Int32)), .val (.int (Int32.ofNat i))] rfl ?_
          refine g_iinc X2 hx 143 rfl (hb hby d7_140) (Int32.ofNat (i + 1)) hi1 rfl #[.val (.ref a1), .val (.int (Int32.ofNat f)), .val (.int (Int32.ofNat (t + 1))), .val (.int (Int32.ofNat (f / 64))), .val (.int (Int32.ofNat (t / 64))), .val (.long (own_F f)), .second, .val (.long (own_L t)), .second, .val (.int (1 : Int32)), .val (.int (Int32.ofNat (i + 1)))] rfl ?_
          refine g_goto X2 hx 109 (hb hby d7_143) (by decide) (by decide) ?_
          exact done _ _ _ (own_midw S hS f t i hfi (by omega) c130) X2 e2 N
    refine g_aload_n X0 hx 69 rfl (hb hby d7_68) rfl rfl ?_
    refine g_getF X0 hx hZ 72 rfl hown (hw _ (List.mem_of_getElem? (i := 22) rfl)) e0 F1 (hb hby d7_69) ?_
    intro T3 X3 e3
    refine g_iload_n X3 hx 73 rfl (hb hby d7_72) rfl ?_
    refine g_laload X3 hx hZ 74 rfl (hb hby d7_73) e3 As (f / 64) hfI (.long (own_word S (f / 64))) (own_ws_get _ _ (by omega)) ?_
    refine g_lload X3 hx 76 rfl (hb hby d7_74) rfl ?_
    refine g_land X3 hx 77 rfl (hb hby d7_76) ?_
    refine g_lconst X3 hx 78 rfl (0 : Int64) rfl (hb hby d7_77) ?_
    refine g_lcmp X3 hx 79 rfl (hb hby d7_78) ?_
    have hi1 : Int32.ofNat (f / 64) + (1 : Int32) = Int32.ofNat (f / 64 + 1) := by
      have h1 := c_iadd (Int32.ofNat (f / 64)) 1; have h2 := rng32 (Int32.ofNat (f / 64) + 1); have h4 : (1 : Int32).toInt = 1 := rfl
      apply Int32.toInt_inj.mp; rw [own_ofi (f / 64 + 1) (by omega)]; omega
    by_cases c79 : ((own_word S (f / 64)) &&& (own_F f)) = (0 : Int64)
    · refine g_ifN X3 hx 82 rfl (hb hby d7_79) (XT.ll_ne_f c79) ?_
      refine g_aload_n X3 hx 83 rfl (hb hby d7_82) rfl rfl ?_
      refine g_getF X3 hx hZ 86 rfl hown (hw _ (List.mem_of_getElem? (i := 22) rfl)) e3 F1 (hb hby d7_83) ?_
      intro T4 X4 e4
      refine g_iload X4 hx 88 rfl (hb hby d7_86) rfl ?_
      refine g_laload X4 hx hZ 89 rfl (hb hby d7_88) e4 As (t / 64) htI (.long (own_word S (t / 64))) (own_ws_get _ _ (by omega)) ?_
      refine g_lload X4 hx 91 rfl (hb hby d7_89) rfl ?_
      refine g_land X4 hx 92 rfl (hb hby d7_91) ?_
      refine g_lconst X4 hx 93 rfl (0 : Int64) rfl (hb hby d7_92) ?_
      refine g_lcmp X4 hx 94 rfl (hb hby d7_93) ?_
      by_cases c94 : ((own_word S (t / 64)) &&& (own_L t)) = (0 : Int64)
      · refine g_ifY X4 hx 101 (hb hby d7_94) (XT.ll_eq_t c94) (by decide) (by decide) ?_
        refine g_iconst X4 hx 102 rfl (0 : Int32) rfl (hb hby d7_101) ?_
        refine g_istore X4 hx 104 rfl (hb hby d7_102) #[.val (.ref a1), .val (.int (Int32.ofNat f)), .val (.int (Int32.ofNat (t + 1))), .val (.int (Int32.ofNat (f / 64))), .val (.int (Int32.ofNat (t / 64))), .val (.long (own_F f)), .second, .val (.long (own_L t)), .second, .val (.int (0 : Int32)), .unset] rfl ?_
        refine g_iload_n X4 hx 105 rfl (hb hby d7_104) rfl ?_
        refine g_iconst X4 hx 106 rfl (1 : Int32) rfl (hb hby d7_105) ?_
        refine g_iadd X4 hx 107 rfl (hb hby d7_106) ?_
        rw [hi1]
        refine g_istore X4 hx 109 rfl (hb hby d7_107) #[.val (.ref a1), .val (.int (Int32.ofNat f)), .val (.int (Int32.ofNat (t + 1))), .val (.int (Int32.ofNat (f / 64))), .val (.int (Int32.ofNat (t / 64))), .val (.long (own_F f)), .second, .val (.long (own_L t)), .second, .val (.int (0 : Int32)), .val (.int (Int32.ofNat (f / 64 + 1)))] rfl ?_
        exact loop (t / 64 - (f / 64 + 1)) _ _ _ (by omega) (by omega) c79 c94 (fun k h1 h2 => by omega) X4 e4 N0
      · refine g_ifN X4 hx 97 rfl (hb hby d7_94) (XT.ll_eq_f c94) ?_
        refine g_iconst X4 hx 98 rfl (1 : Int32) rfl (hb hby d7_97) ?_
        refine g_goto X4 hx 102 (hb hby d7_98) (by decide) (by decide) ?_
        refine g_istore X4 hx 104 rfl (hb hby d7_102) #[.val (.ref a1), .val (.int (Int32.ofNat f)), .val (.int (Int32.ofNat (t + 1))), .val (.int (Int32.ofNat (f / 64))), .val (.int (Int32.ofNat (t / 64))), .val (.long (own_F f)), .second, .val (.long (own_L t)), .second, .val (.int (1 : Int32)), .unset] rfl ?_
        refine g_iload_n X4 hx 105 rfl (hb hby d7_104) rfl ?_
        refine g_iconst X4 hx 106 rfl (1 : Int32) rfl (hb hby d7_105) ?_
        refine g_iadd X4 hx 107 rfl (hb hby d7_106) ?_
        refine g_istore X4 hx 109 rfl (hb hby d7_107) #[.val (.ref a1), .val (.int (Int32.ofNat f)), .val (.int (Int32.ofNat (t + 1))), .val (.int (Int32.ofNat (f / 64))), .val (.int (Int32.ofNat (t / 64))), .val (.long (own_F f)), .second, .val (.long (own_L t)), .second, .val (.int (1 : Int32)), .val (.int ((Int32.ofNat (f / 64)) + (1 : Int32)))] rfl ?_
        exact done _ _ _ (own_lastw S hS f t ht he c94) X4 e4 N0
    · refine g_ifY X3 hx 97 (hb hby d7_79) (XT.ll_ne_t c79) (by decide) (by decide) ?_
      refine g_iconst X3 hx 98 rfl (1 : Int32) rfl (hb hby d7_97) ?_
      refine g_goto X3 hx 102 (hb hby d7_98) (by decide) (by decide) ?_
      refine g_istore X3 hx 104 rfl (hb hby d7_102) #[.val (.ref a1), .val (.int (Int32.ofNat f)), .val (.int (Int32.ofNat (t + 1))), .val (.int (Int32.ofNat (f / 64))), .val (.int (Int32.ofNat (t / 64))), .val (.long (own_F f)), .second, .val (.long (own_L t)), .second, .val (.int (1 : Int32)), .unset] rfl ?_
      refine g_iload_n X3 hx 105 rfl (hb hby d7_104) rfl ?_
      refine g_iconst X3 hx 106 rfl (1 : Int32) rfl (hb hby d7_105) ?_
      refine g_iadd X3 hx 107 rfl (hb hby d7_106) ?_
      refine g_istore X3 hx 109 rfl (hb hby d7_107) #[.val (.ref a1), .val (.int (Int32.ofNat f)), .val (.int (Int32.ofNat (t + 1))), .val (.int (Int32.ofNat (f / 64))), .val (.int (Int32.ofNat (t / 64))), .val (.long (own_F f)), .second, .val (.long (own_L t)), .second, .val (.int (1 : Int32)), .val (.int ((Int32.ofNat (f / 64)) + (1 : Int32)))] rfl ?_
      exact done _ _ _ (own_first S hS f t ht he c79) X3 e3 N0
theorem pf_6 : plainFor (⟨"com/example/tallyrank/tallyrank/search/ScoreWindowsAnyScoredPinLaw", "law", "(IIIIII)Z"⟩ : MethodName) = true := by first | exact plainFor_of_name (by first | (simp [plainName, overriddenIn]; done) | decide +kernel) | decide +kernel
theorem pd_1 : parseMethodDescriptor "(II)I" = some ⟨[.int, .int], some .int⟩ := by decide +kernel
theorem pd_2 : parseMethodDescriptor "([IIIII)I" = some ⟨[.array .int, .int, .int, .int, .int], some .int⟩ := by decide +kernel
theorem pd_3 : parseMethodDescriptor "(III)Z" = some ⟨[.int, .int, .int], some .boolean⟩ := by decide +kernel
theorem pd_4 : parseMethodDescriptor "(II)Z" = some ⟨[.int, .int], some .boolean⟩ := by decide +kernel
theorem ef_0_rm0 (m : MethodId) (p1 : Int32) (p2 : Int32) (p3 : Int32) (p4 : Int32) (p5 : Int32) (p6 : Int32)  : entryFrame m #[(.int p1), (.int p2), (.int p3), (.int p4), (.int p5), (.int p6)] maxLocals = mkF m 0 #[.val (.int p1), .val (.int p2), .val (.int p3), .val (.int p4), .val (.int p5), .val (.int p6), .unset, .unset, .unset, .unset, .unset, .unset, .unset, .unset, .unset, .unset, .unset, .unset, .unset] [] := by first | (simp [entryFrame, mkF, argsToLocals, Value.category, maxLocals]; done) | rfl
def Q_rm0 (Z : State) (p1 : Int32) (p2 : Int32) (p3 : Int32) (p4 : Int32) (p5 : Int32) (p6 : Int32) (h0 : Heap) (n0 : Nat) (v : Option Value) (h : Heap) (L : List Loc) : Prop := v = some (.int 1) ∧ Fr n0 L
set_option maxRecDepth 65536 in
set_option maxHeartbeats 40000000 in
theorem rm0 (l : Launch) (Z : State) (a0 : Array Value) (hw : ∀ d ∈ tables_1, d.before a0 Z = true) (ws : List Jvm.Cond) (p1 : Int32) (p2 : Int32) (p3 : Int32) (p4 : Int32) (p5 : Int32) (p6 : Int32) (h0 : Heap) (n0 : Nat) (Z0 : n0 ≤ h0.size)  :
    OwnMet l Z x code maxLocals ret ws room_1 #[(.int p1), (.int p2), (.int p3), (.int p4), (.int p5), (.int p6)] h0 (Q_rm0 Z p1 p2 p3 p4 p5 p6 h0 n0) := by
  refine own_body pf_6 ?_
  intro p e s m below meth c s₁ hx hby hml hown hnm hret hlk hZ X0 e0
  have N0 := Fr.nil n0
  refine own_cast (ef_0_rm0 m p1 p2 p3 p4 p5 p6 ) ?_
  refine g_sipush X0 hx 3 rfl (8192 : Int32) rfl (hb hby at_0) ?_
  refine g_istore X0 hx 5 rfl (hb hby at_3) #[.val (.int p1), .val (.int p2), .val (.int p3), .val (.int p4), .val (.int p5), .val (.int p6), .val (.int (8192 : Int32)), .unset, .unset, .unset, .unset, .unset, .unset, .unset, .unset, .unset, .unset, .unset, .unset] rfl ?_
  refine g_iload_n X0 hx 6 rfl (hb hby at_5) rfl ?_
  refine g_iload X0 hx 8 rfl (hb hby at_6) rfl ?_
  refine g_iconst X0 hx 9 rfl (1 : Int32) rfl (hb hby at_8) ?_
  refine g_isub X0 hx 10 rfl (hb hby at_9) ?_
  show Goes p e below (s₁.setTop (mkF m 10 #[.val (.int p1), .val (.int p2), .val (.int p3), .val (.int p4), .val (.int p5), .val (.int p6), .val (.int (8192 : Int32)), .unset, .unset, .unset, .unset, .unset, .unset, .unset, .unset, .unset, .unset, .unset, .unset] [.int (8191 : Int32), .int p1])) _
  refine g_iand X0 hx 11 rfl (hb hby at_10) ?_
  refine g_istore X0 hx 13 rfl (hb hby at_11) #[.val (.int p1), .val (.int p2), .val (.int p3), .val (.int p4), .val (.int p5), .val (.int p6), .val (.int (8192 : Int32)), .val (.int (p1 &&& (8191 : Int32))), .unset, .unset, .unset, .unset, .unset, .unset, .unset, .unset, .unset, .unset, .unset] rfl ?_
  have mx1 := c_mask p1 8191 13 (by decide) (by decide)
  have rx1 : 0 ≤ (p1 &&& (8191 : Int32)).toInt ∧ (p1 &&& (8191 : Int32)).toInt < 8192 := by rw [mx1]; omega
  clear mx1
  generalize hvx1 : p1 &&& (8191 : Int32) = x1 at rx1 ⊢
  refine g_iload_n X0 hx 14 rfl (hb hby at_13) rfl ?_
  refine g_iload X0 hx 16 rfl (hb hby at_14) rfl ?_
  refine g_iconst X0 hx 17 rfl (1 : Int32) rfl (hb hby at_16) ?_
  refine g_isub X0 hx 18 rfl (hb hby at_17) ?_
  show Goes p e below (s₁.setTop (mkF m 18 #[.val (.int p1), .val (.int p2), .val (.int p3), .val (.int p4), .val (.int p5), .val (.int p6), .val (.int (8192 : Int32)), .val (.int x1), .unset, .unset, .unset, .unset, .unset, .unset, .unset, .unset, .unset, .unset, .unset] [.int (8191 : Int32), .int p2])) _
  refine g_iand X0 hx 19 rfl (hb hby at_18) ?_
  refine g_istore X0 hx 21 rfl (hb hby at_19) #[.val (.int p1), .val (.int p2), .val (.int p3), .val (.int p4), .val (.int p5), .val (.int p6), .val (.int (8192 : Int32)), .val (.int x1), .val (.int (p2 &&& (8191 : Int32))), .unset, .unset, .unset, .unset, .unset, .unset, .unset, .unset, .unset, .unset] rfl ?_
  have mx2 := c_mask p2 8191 13 (by decide) (by decide)
  have rx2 : 0 ≤ (p2 &&& (8191 : Int32)).toInt ∧ (p2 &&& (8191 : Int32)).toInt < 8192 := by rw [mx2]; omega
  clear mx2
  generalize hvx2 : p2 &&& (8191 : Int32) = x2 at rx2 ⊢
  refine g_iload_n X0 hx 22 rfl (hb hby at_21) rfl ?_
  refine g_iload X0 hx 24 rfl (hb hby at_22) rfl ?_
  refine g_iconst X0 hx 25 rfl (1 : Int32) rfl (hb hby at_24) ?_
  refine g_isub X0 hx 26 rfl (hb hby at_25) ?_
  show Goes p e below (s₁.setTop (mkF m 26 #[.val (.int p1), .val (.int p2), .val (.int p3), .val (.int p4), .val (.int p5), .val (.int p6), .val (.int (8192 : Int32)), .val (.int x1), .val (.int x2), .unset, .unset, .unset, .unset, .unset, .unset, .unset, .unset, .unset, .unset] [.int (8191 : Int32), .int p3])) _
  refine g_iand X0 hx 27 rfl (hb hby at_26) ?_
  refine g_istore X0 hx 29 rfl (hb hby at_27) #[.val (.int p1), .val (.int p2), .val (.int p3), .val (.int p4), .val (.int p5), .val (.int p6), .val (.int (8192 : Int32)), .val (.int x1), .val (.int x2), .val (.int (p3 &&& (8191 : Int32))), .unset, .unset, .unset, .unset, .unset, .unset, .unset, .unset, .unset] rfl ?_
  have mx3 := c_mask p3 8191 13 (by decide) (by decide)
  have rx3 : 0 ≤ (p3 &&& (8191 : Int32)).toInt ∧ (p3 &&& (8191 : Int32)).toInt < 8192 := by rw [mx3]; omega
  clear mx3
  generalize hvx3 : p3 &&& (8191 : Int32) = x3 at rx3 ⊢
  refine g_iload X0 hx 31 rfl (hb hby at_29) rfl ?_
  refine g_iload X0 hx 33 rfl (hb hby at_31) rfl ?_
  refine g_callS X0 hx hZ 36 rfl (y := (⟨"java/lang/Math", "min", "(II)I"⟩ : MethodName)) hown (hw _ (List.mem_of_getElem? (i := 0) rfl)) (hw _ (List.mem_of_getElem? (i := 1) rfl)) (hw _ (List.mem_of_getElem? (i := 2) rfl)) (hw _ (List.mem_of_getElem? (i := 3) rfl)) (by decide) [.int x1, .int x2] [] (rmMin l Z a0 hw [] x1 x2 h0 n0 Z0 ) e0 (lenOf pd_1 rfl) rfl (by rw [hml]; rfl) (hb hby at_33) (by decide) 0 (Nat.le_of_eq rfl) (by decide) (by decide) (by decide) ?_
  rintro _ T1 L1 X1 ⟨rfl, N1q, e1⟩
  have N1 := Fr.app N0 N1q
  show Goes p e below (T1.setTop (mkF m 36 #[.val (.int p1), .val (.int p2), .val (.int p3), .val (.int p4), .val (.int p5), .val (.int p6), .val (.int (8192 : Int32)), .val (.int x1), .val (.int x2), .val (.int x3), .unset, .unset, .unset, .unset, .unset, .unset, .unset, .unset, .unset] [.int (own_min x1 x2)])) _
  refine g_iload X1 hx 38 rfl (hb hby at_36) rfl ?_
  refine g_callS X1 hx hZ 41 rfl (y := (⟨"java/lang/Math", "min", "(II)I"⟩ : MethodName)) hown (hw _ (List.mem_of_getElem? (i := 0) rfl)) (hw _ (List.mem_of_getElem? (i := 1) rfl)) (hw _ (List.mem_of_getElem? (i := 2) rfl)) (hw _ (List.mem_of_getElem? (i := 3) rfl)) (by decide) [.int (own_min x1 x2), .int x3] [] (rmMin l Z a0 hw [] (own_min x1 x2) x3 h0 n0 Z0 ) e1 (lenOf pd_1 rfl) rfl (by rw [hml]; rfl) (hb hby at_38) (by decide) 0 (Nat.le_of_eq rfl) (by decide) (by decide) (by decide) ?_
  rintro _ T2 L2 X2 ⟨rfl, N2q, e2⟩
  have N2 := Fr.app N1 N2q
  show Goes p e below (T2.setTop (mkF m 41 #[.val (.int p1), .val (.int p2), .val (.int p3), .val (.int p4), .val (.int p5), .val (.int p6), .val (.int (8192 : Int32)), .val (.int x1), .val (.int x2), .val (.int x3), .unset, .unset, .unset, .unset, .unset, .unset, .unset, .unset, .unset] [.int (own_min (own_min x1 x2) x3)])) _
  refine g_istore X2 hx 43 rfl (hb hby at_41) #[.val (.int p1), .val (.int p2), .val (.int p3), .val (.int p4), .val (.int p5), .val (.int p6), .val (.int (8192 : Int32)), .val (.int x1), .val (.int x2), .val (.int x3), .val (.int (own_min (own_min x1 x2) x3)), .unset, .unset, .unset, .unset, .unset, .unset, .unset, .unset] rfl ?_
  refine g_iload X2 hx 45 rfl (hb hby at_43) rfl ?_
  refine g_iload X2 hx 47 rfl (hb hby at_45) rfl ?_
  refine g_callS X2 hx hZ 50 rfl (y := (⟨"java/lang/Math", "max", "(II)I"⟩ : MethodName)) hown (hw _ (List.mem_of_getElem? (i := 4) rfl)) (hw _ (List.mem_of_getElem? (i := 5) rfl)) (hw _ (List.mem_of_getElem? (i := 2) rfl)) (hw _ (List.mem_of_getElem? (i := 6) rfl)) (by decide) [.int x1, .int x2] [] (rmMax l Z a0 hw [] x1 x2 h0 n0 Z0 ) e2 (lenOf pd_1 rfl) rfl (by rw [hml]; rfl) (hb hby at_47) (by decide) 0 (Nat.le_of_eq rfl) (by decide) (by decide) (by decide) ?_
  rintro _ T3 L3 X3 ⟨rfl, N3q, e3⟩
  have N3 := Fr.app N2 N3q
  show Goes p e below (T3.setTop (mkF m 50 #[.val (.int p1), .val (.int p2), .val (.int p3), .val (.int p4), .val (.int p5), .val (.int p6), .val (.int (8192 : Int32)), .val (.int x1), .val (.int x2), .val (.int x3), .val (.int (own_min (own_min x1 x2) x3)), .unset, .unset, .unset, .unset, .unset, .unset, .unset, .unset] [.int (own_max x1 x2)])) _
  refine g_iload X3 hx 52 rfl (hb hby at_50) rfl ?_
  refine g_callS X3 hx hZ 55 rfl (y := (⟨"java/lang/Math", "max", "(II)I"⟩ : MethodName)) hown (hw _ (List.mem_of_getElem? (i := 4) rfl)) (hw _ (List.mem_of_getElem? (i := 5) rfl)) (hw _ (List.mem_of_getElem? (i := 2) rfl)) (hw _ (List.mem_of_getElem? (i := 6) rfl)) (by decide) [.int (own_max x1 x2), .int x3] [] (rmMax l Z a0 hw [] (own_max x1 x2) x3 h0 n0 Z0 ) e3 (lenOf pd_1 rfl) rfl (by rw [hml]; rfl) (hb hby at_52) (by decide) 0 (Nat.le_of_eq rfl) (by decide) (by decide) (by decide) ?_
  rintro _ T4 L4 X4 ⟨rfl, N4q, e4⟩
  have N4 := Fr.app N3 N4q
  show Goes p e below (T4.setTop (mkF m 55 #[.val (.int p1), .val (.int p2), .val (.int p3), .val (.int p4), .val (.int p5), .val (.int p6), .val (.int (8192 : Int32)), .val (.int x1), .val (.int x2), .val (.int x3), .val (.int (own_min (own_min x1 x2) x3)), .unset, .unset, .unset, .unset, .unset, .unset, .unset, .unset] [.int (own_max (own_max x1 x2) x3)])) _
  refine g_istore X4 hx 57 rfl (hb hby at_55) #[.val (.int p1), .val (.int p2), .val (.int p3), .val (.int p4), .val (.int p5), .val (.int p6), .val (.int (8192 : Int32)), .val (.int x1), .val (.int x2), .val (.int x3), .val (.int (own_min (own_min x1 x2) x3)), .val (.int (own_max (own_max x1 x2) x3)), .unset, .unset, .unset, .unset, .unset, .unset, .unset] rfl ?_
  refine g_iload X4 hx 59 rfl (hb hby at_57) rfl ?_
  refine g_iload X4 hx 61 rfl (hb hby at_59) rfl ?_
  refine g_iadd X4 hx 62 rfl (hb hby at_61) ?_
  refine g_iload X4 hx 64 rfl (hb hby at_62) rfl ?_
  refine g_iadd X4 hx 65 rfl (hb hby at_64) ?_
  refine g_iload X4 hx 67 rfl (hb hby at_65) rfl ?_
  refine g_isub X4 hx 68 rfl (hb hby at_67) ?_
  refine g_iload X4 hx 70 rfl (hb hby at_68) rfl ?_
  refine g_isub X4 hx 71 rfl (hb hby at_70) ?_
  refine g_istore X4 hx 73 rfl (hb hby at_71) #[.val (.int p1), .val (.int p2), .val (.int p3), .val (.int p4), .val (.int p5), .val (.int p6), .val (.int (8192 : Int32)), .val (.int x1), .val (.int x2), .val (.int x3), .val (.int (own_min (own_min x1 x2) x3)), .val (.int (own_max (own_max x1 x2) x3)), .val (.int ((((x1 + x2) + x3) - (own_min (own_min x1 x2) x3)) - (own_max (own_max x1 x2) x3))), .unset, .unset, .unset, .unset, .unset, .unset] rfl ?_
  have ia : (own_min (own_min x1 x2) x3).toInt = min (min x1.toInt x2.toInt) x3.toInt := by rw [own_min_i, own_min_i]
  have ic : (own_max (own_max x1 x2) x3).toInt = max (max x1.toInt x2.toInt) x3.toInt := by rw [own_max_i, own_max_i]
  generalize hva : own_min (own_min x1 x2) x3 = va at ia ⊢
  generalize hvc : own_max (own_max x1 x2) x3 = vc at ic ⊢
  have ib : (x1 + x2 + x3 - va - vc).toInt = x1.toInt + x2.toInt + x3.toInt - va.toInt - vc.toInt := by
    have h1 := c_iadd x1 x2; have h2 := c_iadd (x1 + x2) x3; have h3 := c_isub (x1 + x2 + x3) va; have h4 := c_isub (x1 + x2 + x3 - va) vc
    have g1 := rng32 (x1 + x2); have g2 := rng32 (x1 + x2 + x3); have g3 := rng32 (x1 + x2 + x3 - va); have g4 := rng32 (x1 + x2 + x3 - va - vc)
    omega
  generalize hvb : (((x1 + x2) + x3) - va) - vc = vb at ib ⊢
  obtain ⟨da, ha1, ha2⟩ : ∃ k : Nat, va = Int32.ofNat k ∧ k < 8192 := ⟨va.toInt.toNat, own_ofNat _ _ (by omega), by omega⟩
  subst ha1
  obtain ⟨db, hb1, hb2⟩ : ∃ k : Nat, vb = Int32.ofNat k ∧ k < 8192 := ⟨vb.toInt.toNat, own_ofNat _ _ (by omega), by omega⟩
  subst hb1
  obtain ⟨dc, hc1, hc2⟩ : ∃ k : Nat, vc = Int32.ofNat k ∧ k < 8192 := ⟨vc.toInt.toNat, own_ofNat _ _ (by omega), by omega⟩
  subst hc1
  refine g_iload_n X4 hx 74 rfl (hb hby at_73) rfl ?_
  refine g_iconst X4 hx 75 rfl (3 : Int32) rfl (hb hby at_74) ?_
  refine g_iand X4 hx 76 rfl (hb hby at_75) ?_
  refine g_istore X4 hx 78 rfl (hb hby at_76) #[.val (.int p1), .val (.int p2), .val (.int p3), .val (.int p4), .val (.int p5), .val (.int p6), .val (.int (8192 : Int32)), .val (.int x1), .val (.int x2), .val (.int x3), .val (.int (Int32.ofNat da)), .val (.int (Int32.ofNat dc)), .val (.int (Int32.ofNat db)), .val (.int (p4 &&& (3 : Int32))), .unset, .unset, .unset, .unset, .unset] rfl ?_
  have mk := c_mask p4 3 2 (by decide) (by decide)
  obtain ⟨n, hn1, hn2⟩ : ∃ k : Nat, p4 &&& (3 : Int32) = Int32.ofNat k ∧ k ≤ 3 := ⟨(p4 &&& (3 : Int32)).toInt.toNat, own_ofNat _ _ (by omega), by omega⟩
  rw [hn1]
  have hnI := own_ofi n (by omega)
  refine g_iload X4 hx 80 rfl (hb hby at_78) rfl ?_
  refine g_iconst X4 hx 81 rfl (3 : Int32) rfl (hb hby at_80) ?_
  refine g_icmpY X4 hx 87 (hb hby at_81) (XT.ii_le_t (by rw [Int32.lt_iff_toInt_lt, hnI]; have z3 : (3 : Int32).toInt = 3 := rfl; omega)) (by decide) (by decide) ?_
  refine g_iload X4 hx 89 rfl (hb hby at_87) rfl ?_
  refine g_iload X4 hx 91 rfl (hb hby at_89) rfl ?_
  refine g_iconst X4 hx 92 rfl (1 : Int32) rfl (hb hby at_91) ?_
  refine g_isub X4 hx 93 rfl (hb hby at_92) ?_
  show Goes p e below (T4.setTop (mkF m 93 #[.val (.int p1), .val (.int p2), .val (.int p3), .val (.int p4), .val (.int p5), .val (.int p6), .val (.int (8192 : Int32)), .val (.int x1), .val (.int x2), .val (.int x3), .val (.int (Int32.ofNat da)), .val (.int (Int32.ofNat dc)), .val (.int (Int32.ofNat db)), .val (.int (Int32.ofNat n)), .unset, .unset, .unset, .unset, .unset] [.int (8191 : Int32), .int p5])) _
  refine g_iand X4 hx 94 rfl (hb hby at_93) ?_
  refine g_istore X4 hx 96 rfl (hb hby at_94) #[.val (.int p1), .val (.int p2), .val (.int p3), .val (.int p4), .val (.int p5), .val (.int p6), .val (.int (8192 : Int32)), .val (.int x1), .val (.int x2), .val (.int x3), .val (.int (Int32.ofNat da)), .val (.int (Int32.ofNat dc)), .val (.int (Int32.ofNat db)), .val (.int (Int32.ofNat n)), .val (.int (p5 &&& (8191 : Int32))), .unset, .unset, .unset, .unset] rfl ?_
  have mfr := c_mask p5 8191 13 (by decide) (by decide)
  have rfr : 0 ≤ (p5 &&& (8191 : Int32)).toInt ∧ (p5 &&& (8191 : Int32)).toInt < 8192 := by rw [mfr]; omega
  clear mfr
  generalize hvfr : p5 &&& (8191 : Int32) = fr at rfr ⊢
  obtain ⟨f, hf1, hf2⟩ : ∃ k : Nat, fr = Int32.ofNat k ∧ k < 8192 := ⟨fr.toInt.toNat, own_ofNat _ _ (by omega), by omega⟩
  subst hf1
  have hfI := own_ofi f (by omega)
  refine g_iload X4 hx 98 rfl (hb hby at_96) rfl ?_
  refine g_iconst X4 hx 99 rfl (1 : Int32) rfl (hb hby at_98) ?_
  refine g_iadd X4 hx 100 rfl (hb hby at_99) ?_
  refine g_iload X4 hx 102 rfl (hb hby at_100) rfl ?_
  refine g_ldcI X4 hx 104 rfl hown hZ (hw _ (List.mem_of_getElem? (i := 7) rfl)) (hb hby at_102) ?_
  refine g_iand X4 hx 105 rfl (hb hby at_104) ?_
  refine g_iload X4 hx 107 rfl (hb hby at_105) rfl ?_
  refine g_iload X4 hx 109 rfl (hb hby at_107) rfl ?_
  refine g_isub X4 hx 110 rfl (hb hby at_109) ?_
  have hsf : ((8192 : Int32) - Int32.ofNat f).toInt = 8192 - (f : Int) := by have h1 := c_isub 8192 (Int32.ofNat f); have h2 := rng32 ((8192 : Int32) - Int32.ofNat f); have h3 : (8192 : Int32).toInt = 8192 := rfl; omega
  have hsz : (8192 : Int32) - Int32.ofNat f ≠ 0 := fun q => by rw [q] at hsf; have z0 : (0 : Int32).toInt = 0 := rfl; omega
  refine g_irem X4 hx 111 rfl (hb hby at_110) hsz ?_
  refine g_iadd X4 hx 112 rfl (hb hby at_111) ?_
  refine g_istore X4 hx 114 rfl (hb hby at_112) #[.val (.int p1), .val (.int p2), .val (.int p3), .val (.int p4), .val (.int p5), .val (.int p6), .val (.int (8192 : Int32)), .val (.int x1), .val (.int x2), .val (.int x3), .val (.int (Int32.ofNat da)), .val (.int (Int32.ofNat dc)), .val (.int (Int32.ofNat db)), .val (.int (Int32.ofNat n)), .val (.int (Int32.ofNat f)), .val (.int (((Int32.ofNat f) + (1 : Int32)) + ((p6 &&& (2147483647 : Int32)) % ((8192 : Int32) - (Int32.ofNat f))))), .unset, .unset, .unset] rfl ?_
  obtain ⟨t, ht1, ht2, ht3⟩ : ∃ k : Nat, ((Int32.ofNat f) + (1 : Int32)) + ((p6 &&& (2147483647 : Int32)) % ((8192 : Int32) - (Int32.ofNat f))) = Int32.ofNat (k + 1) ∧ f ≤ k ∧ k < 8192 := by
    have h1 := c_mask p6 2147483647 31 (by decide) (by decide)
    have h2 := (c_iremV (p6 &&& (2147483647 : Int32)) ((8192 : Int32) - Int32.ofNat f)).1 (by omega) (by omega)
    have h3 := c_iadd (Int32.ofNat f) 1; have h4 := rng32 (Int32.ofNat f + 1); have h5 : (1 : Int32).toInt = 1 := rfl
    have h6 := c_iadd (Int32.ofNat f + 1) ((p6 &&& (2147483647 : Int32)) % ((8192 : Int32) - Int32.ofNat f)); have h7 := rng32 (Int32.ofNat f + 1 + (p6 &&& (2147483647 : Int32)) % ((8192 : Int32) - Int32.ofNat f))
    generalize (p6 &&& (2147483647 : Int32)) % ((8192 : Int32) - Int32.ofNat f) = r at *
    exact ⟨(f + r.toInt.toNat), own_ofNat _ _ (by omega), by omega, by omega⟩
  rw [ht1]
  refine g_iconst X4 hx 115 rfl (3 : Int32) rfl (hb hby at_114) ?_
  refine g_newarr X4 hx hZ 117 rfl (hw _ (List.mem_of_getElem? (i := 8) rfl)) e4 (hb hby at_115) 3 rfl 3 (Nat.le_refl _) (by decide) (by decide) (by decide) "[I" (by decide) ?_
  intro T5 h5 o5 g5 X5 e5 E5 A5 Ex5
  have ge_o5 : n0 ≤ o5 := Nat.le_trans Z0 (Nat.le_of_eq g5.symm)
  have Al5 : Al Z h5 o5 .int [.int (0 : Int32), .int (0 : Int32), .int (0 : Int32)] := A5
  refine g_astore X5 hx 119 rfl (hb hby at_117) rfl #[.val (.int p1), .val (.int p2), .val (.int p3), .val (.int p4), .val (.int p5), .val (.int p6), .val (.int (8192 : Int32)), .val (.int x1), .val (.int x2), .val (.int x3), .val (.int (Int32.ofNat da)), .val (.int (Int32.ofNat dc)), .val (.int (Int32.ofNat db)), .val (.int (Int32.ofNat n)), .val (.int (Int32.ofNat f)), .val (.int (Int32.ofNat (t + 1))), .val (.ref o5), .unset, .unset] rfl ?_
  refine g_aload X5 hx 121 rfl (hb hby at_119) rfl rfl ?_
  refine g_iconst X5 hx 122 rfl (0 : Int32) rfl (hb hby at_121) ?_
  refine g_iload X5 hx 124 rfl (hb hby at_122) rfl ?_
  refine g_iastore X5 hx hZ 125 rfl (hb hby at_124) e5 Al5 0 rfl (show 0 < 3 by decide) ?_
  intro T6 h6 X6 e6 W6 B6
  have N6 := Fr.snoc X6 N4 ge_o5
  have Al6 : Al Z h6 o5 .int [.int (Int32.ofNat da), .int (0 : Int32), .int (0 : Int32)] := B6
  refine g_aload X6 hx 127 rfl (hb hby at_125) rfl rfl ?_
  refine g_iconst X6 hx 128 rfl (1 : Int32) rfl (hb hby at_127) ?_
  refine g_iload X6 hx 130 rfl (hb hby at_128) rfl ?_
  refine g_iastore X6 hx hZ 131 rfl (hb hby at_130) e6 Al6 1 rfl (show 1 < 3 by decide) ?_
  intro T7 h7 X7 e7 W7 B7
  have N7 := Fr.snoc X7 N6 ge_o5
  have Al7 : Al Z h7 o5 .int [.int (Int32.ofNat da), .int (Int32.ofNat db), .int (0 : Int32)] := B7
  refine g_aload X7 hx 133 rfl (hb hby at_131) rfl rfl ?_
  refine g_iconst X7 hx 134 rfl (2 : Int32) rfl (hb hby at_133) ?_
  refine g_iload X7 hx 136 rfl (hb hby at_134) rfl ?_
  refine g_iastore X7 hx hZ 137 rfl (hb hby at_136) e7 Al7 2 rfl (show 2 < 3 by decide) ?_
  intro T8 h8 X8 e8 W8 B8
  have N8 := Fr.snoc X8 N7 ge_o5
  have Al8 : Al Z h8 o5 .int [.int (Int32.ofNat da), .int (Int32.ofNat db), .int (Int32.ofNat dc)] := B8
  refine g_new X8 hx hZ 140 rfl hown (hw _ (List.mem_of_getElem? (i := 9) rfl)) (hw _ (List.mem_of_getElem? (i := 10) rfl)) (hw _ (List.mem_of_getElem? (i := 11) rfl)) e8 (hb hby at_137) (by decide) (by decide) ?_
  intro T9 h9 o9 g9 X9 e9 E9 A9 D9
  have Exa10 := (((Ex5.wr W6).wr W7).wr W8)
  have ne_o5_o9 : o5 ≠ o9 := Nat.ne_of_lt (Nat.lt_of_lt_of_eq Exa10.lt g9.symm)
  have Zl11 : n0 ≤ h8.size := (Nat.le_trans (Nat.le_trans (Nat.le_trans (Nat.le_trans Z0 E5.1) (Nat.le_of_eq W6.size.symm)) (Nat.le_of_eq W7.size.symm)) (Nat.le_of_eq W8.size.symm))
  have ge_o9 : n0 ≤ o9 := Nat.le_trans Zl11 (Nat.le_of_eq g9.symm)
  refine g_dup X9 hx 141 rfl (hb hby at_140) rfl ?_
  have Al12 := (Al8.ext E9)
  have ltd : o5 < h9.size := Al12.lt
  have lta : o9 < h9.size := A9.lt
  have Zl14 : n0 ≤ h9.size := (Nat.le_trans Zl11 E9.1)
  refine g_callI X9 hx hZ 144 rfl (y := (⟨"com/example/tallyrank/tallyrank/search/ScoreWindows", "<init>", "()V"⟩ : MethodName)) rfl hown (hw _ (List.mem_of_getElem? (i := 12) rfl)) (hw _ (List.mem_of_getElem? (i := 13) rfl)) (hw _ (List.mem_of_getElem? (i := 11) rfl)) (hw _ (List.mem_of_getElem? (i := 14) rfl)) (by decide) o9 [] [.ref o9] (rmI l Z a0 hw [] o9 _ _ _ _ h9 n0 Zl14 A9 ge_o9 (D9 (Or.inr (hw _ (List.mem_of_getElem? (i := 20) rfl))) (ty := .array .double) (by decide)) (D9 (Or.inr (hw _ (List.mem_of_getElem? (i := 23) rfl))) (ty := .array .long) (by decide)) (D9 (Or.inl (hw _ (List.mem_of_getElem? (i := 25) rfl))) (ty := .array .int) (by decide)) (D9 (Or.inl (hw _ (List.mem_of_getElem? (i := 27) rfl))) (ty := .array .double) (by decide))) e9 (lenOf pd_0 rfl) rfl (by rw [hml]; rfl) (hb hby at_141) (by decide) 1 (Nat.le_of_eq rfl) (by decide) (by decide) (by decide) ?_
  rintro _ T13 L13 X13 ⟨rfl, N13q, K13, E13, sd, sc, F13, G13, S13, D13, hs13, gs13, hc13, gc13, nsc13⟩
  have N13 := Fr.app N8 N13q
  show Goes p e below (T13.setTop (mkF m 144 #[.val (.int p1), .val (.int p2), .val (.int p3), .val (.int p4), .val (.int p5), .val (.int p6), .val (.int (8192 : Int32)), .val (.int x1), .val (.int x2), .val (.int x3), .val (.int (Int32.ofNat da)), .val (.int (Int32.ofNat dc)), .val (.int (Int32.ofNat db)), .val (.int (Int32.ofNat n)), .val (.int (Int32.ofNat f)), .val (.int (Int32.ofNat (t + 1))), .val (.ref o5), .unset, .unset] [.ref o9])) _
  refine g_astore X13 hx 146 rfl (hb hby at_144) rfl #[.val (.int p1), .val (.int p2), .val (.int p3), .val (.int p4), .val (.int p5), .val (.int p6), .val (.int (8192 : Int32)), .val (.int x1), .val (.int x2), .val (.int x3), .val (.int (Int32.ofNat da)), .val (.int (Int32.ofNat dc)), .val (.int (Int32.ofNat db)), .val (.int (Int32.ofNat n)), .val (.int (Int32.ofNat f)), .val (.int (Int32.ofNat (t + 1))), .val (.ref o5), .val (.ref o9), .unset] rfl ?_
  refine g_aload X13 hx 148 rfl (hb hby at_146) rfl rfl ?_
  refine g_aload X13 hx 150 rfl (hb hby at_148) rfl rfl ?_
  refine g_iconst X13 hx 151 rfl (0 : Int32) rfl (hb hby at_150) ?_
  refine g_iload X13 hx 153 rfl (hb hby at_151) rfl ?_
  refine g_iconst X13 hx 154 rfl (0 : Int32) rfl (hb hby at_153) ?_
  refine g_iload X13 hx 156 rfl (hb hby at_154) rfl ?_
  have nd : o5 ≠ sd := Nat.ne_of_lt (Nat.lt_of_lt_of_le ltd hs13)
  have na : o9 ≠ sd := Nat.ne_of_lt (Nat.lt_of_lt_of_le lta hs13)
  have As0 : Al Z T13.heap sd .long (own_ws []) := own_ws_nil ▸ S13
  have Al15 := (Al12.keep K13 (ninS ne_o5_o9 nin0))
  have Zl17 : n0 ≤ T13.heap.size := (Nat.le_trans Zl14 K13.1)
  refine g_callV X13 hx hZ 159 rfl (y := (⟨"com/example/tallyrank/tallyrank/search/ScoreWindows", "markScored", "([IIIII)I"⟩ : MethodName)) hown (hw _ (List.mem_of_getElem? (i := 28) rfl)) (hw _ (List.mem_of_getElem? (i := 29) rfl)) (hw _ (List.mem_of_getElem? (i := 31) rfl)) (hw _ (List.mem_of_getElem? (i := 30) rfl)) (hw _ (List.mem_of_getElem? (i := 11) rfl)) (hw _ (List.mem_of_getElem? (i := 32) rfl)) (by decide) o9 [.ref o5, .int (0 : Int32), .int (Int32.ofNat n), .int (0 : Int32), .int (8192 : Int32)] [] (rmK l Z a0 hw [] o9 o5 sd da db dc n T13.heap n0 Zl17 F13 Al15 As0 gs13 nd na ha2 hb2 hc2 hn2) rfl E13 (lenOf pd_2 rfl) rfl (by rw [hml]; rfl) (hb hby at_156) (by decide) 0 (Nat.le_of_eq rfl) (by decide) (by decide) (by decide) ?_
  rintro _ T16 L16 X16 ⟨⟨r16, rfl⟩, N16q, K16, B16⟩
  have N16 := Fr.app N13 N16q
  show Goes p e below (T16.setTop (mkF m 159 #[.val (.int p1), .val (.int p2), .val (.int p3), .val (.int p4), .val (.int p5), .val (.int p6), .val (.int (8192 : Int32)), .val (.int x1), .val (.int x2), .val (.int x3), .val (.int (Int32.ofNat da)), .val (.int (Int32.ofNat dc)), .val (.int (Int32.ofNat db)), .val (.int (Int32.ofNat n)), .val (.int (Int32.ofNat f)), .val (.int (Int32.ofNat (t + 1))), .val (.ref o5), .val (.ref o9), .unset] [.int r16])) _
  refine g_pop X16 hx 160 rfl (hb hby at_159) rfl ?_
  refine g_iload X16 hx 162 rfl (hb hby at_160) rfl ?_
  have hS : ∀ p ∈ (([da, db, dc] : List Nat).take n).reverse, p < 8192 := by
    intro p hp
    rw [List.mem_reverse] at hp
    have hp2 := List.mem_of_mem_take hp
    simp only [List.mem_cons, List.not_mem_nil, or_false] at hp2
    rcases hp2 with rfl | rfl | rfl <;> assumption
  have iaI := own_ofi da (by omega)
  have ibI := own_ofi db (by omega)
  have icI := own_ofi dc (by omega)
  have htI := own_ofi (t + 1) (by omega)
  by_cases k0 : 0 < (Int32.ofNat n)
  · refine g_ifN X16 hx 165 rfl (hb hby at_162) (XT.i0_le_f k0) ?_
    refine g_iload X16 hx 167 rfl (hb hby at_165) rfl ?_
    refine g_iload X16 hx 169 rfl (hb hby at_167) rfl ?_
    refine g_iload X16 hx 171 rfl (hb hby at_169) rfl ?_
    have Zl19 : n0 ≤ T16.heap.size := (Nat.le_trans Zl17 K16.1)
    refine g_callS X16 hx hZ 174 rfl (y := (⟨"com/example/tallyrank/tallyrank/search/ScoreWindowsAnyScoredPinLaw", "in", "(III)Z"⟩ : MethodName)) hown (hw _ (List.mem_of_getElem? (i := 33) rfl)) (hw _ (List.mem_of_getElem? (i := 34) rfl)) (hw _ (List.mem_of_getElem? (i := 35) rfl)) (hw _ (List.mem_of_getElem? (i := 36) rfl)) (by decide) [.int (Int32.ofNat da), .int (Int32.ofNat f), .int (Int32.ofNat (t + 1))] [] (rmN l Z a0 hw [] (Int32.ofNat da) (Int32.ofNat f) (Int32.ofNat (t + 1)) T16.heap n0 Zl19 ) rfl (lenOf pd_3 rfl) rfl (by rw [hml]; rfl) (hb hby at_171) (by decide) 0 (Nat.le_of_eq rfl) (by decide) (by decide) (by decide) ?_
    rintro _ T18 L18 X18 ⟨rfl, N18q, e18⟩
    have N18 := Fr.app N16 N18q
    show Goes p e below (T18.setTop (mkF m 174 #[.val (.int p1), .val (.int p2), .val (.int p3), .val (.int p4), .val (.int p5), .val (.int p6), .val (.int (8192 : Int32)), .val (.int x1), .val (.int x2), .val (.int x3), .val (.int (Int32.ofNat da)), .val (.int (Int32.ofNat dc)), .val (.int (Int32.ofNat db)), .val (.int (Int32.ofNat n)), .val (.int (Int32.ofNat f)), .val (.int (Int32.ofNat (t + 1))), .val (.ref o5), .val (.ref o9), .unset] [.int (b2i (decide (¬ (Int32.ofNat da) < (Int32.ofNat f) ∧ (Int32.ofNat da) < (Int32.ofNat (t + 1)))))])) _
    by_cases ia : (decide (¬ (Int32.ofNat da) < (Int32.ofNat f) ∧ (Int32.ofNat da) < (Int32.ofNat (t + 1)))) = true
    · refine g_ifY X18 hx 213 (hb hby at_174) (bb_ne_t ia) (by decide) (by decide) ?_
      have hni : 0 < n := by have q := Int32.lt_iff_toInt_lt.mp k0; rw [hnI] at q; have zz : (0 : Int32).toInt = 0 := rfl; omega
      refine g_iconst X18 hx 214 rfl (1 : Int32) rfl (hb hby at_213) ?_
      refine g_goto X18 hx 218 (hb hby at_214) (by decide) (by decide) ?_
      refine g_istore X18 hx 220 rfl (hb hby at_218) #[.val (.int p1), .val (.int p2), .val (.int p3), .val (.int p4), .val (.int p5), .val (.int p6), .val (.int (8192 : Int32)), .val (.int x1), .val (.int x2), .val (.int x3), .val (.int (Int32.ofNat da)), .val (.int (Int32.ofNat dc)), .val (.int (Int32.ofNat db)), .val (.int (Int32.ofNat n)), .val (.int (Int32.ofNat f)), .val (.int (Int32.ofNat (t + 1))), .val (.ref o5), .val (.ref o9), .val (.int (1 : Int32))] rfl ?_
      refine g_aload X18 hx 222 rfl (hb hby at_220) rfl rfl ?_
      refine g_iload X18 hx 224 rfl (hb hby at_222) rfl ?_
      refine g_iload X18 hx 226 rfl (hb hby at_224) rfl ?_
      have Fld20 := (F13.keep K16 (ninS na nin0))
      have Exa22 := (E13.keep K16)
      refine g_callV X18 hx hZ 229 rfl (y := (⟨"com/example/tallyrank/tallyrank/search/ScoreWindows", "anyScored", "(II)Z"⟩ : MethodName)) hown (hw _ (List.mem_of_getElem? (i := 37) rfl)) (hw _ (List.mem_of_getElem? (i := 38) rfl)) (hw _ (List.mem_of_getElem? (i := 40) rfl)) (hw _ (List.mem_of_getElem? (i := 39) rfl)) (hw _ (List.mem_of_getElem? (i := 11) rfl)) (hw _ (List.mem_of_getElem? (i := 41) rfl)) (by decide) o9 [.int (Int32.ofNat f), .int (Int32.ofNat (t + 1))] [] (rmY l Z a0 hw [] o9 sd _ f t T16.heap n0 Zl19 Fld20 B16 hS ht2 ht3) e18 Exa22 (lenOf pd_4 rfl) rfl (by rw [hml]; rfl) (hb hby at_226) (by decide) 0 (Nat.le_of_eq rfl) (by decide) (by decide) (by decide) ?_
      rintro _ T21 L21 X21 ⟨rfl, N21q, e21⟩
      have N21 := Fr.app N18 N21q
      show Goes p e below (T21.setTop (mkF m 229 #[.val (.int p1), .val (.int p2), .val (.int p3), .val (.int p4), .val (.int p5), .val (.int p6), .val (.int (8192 : Int32)), .val (.int x1), .val (.int x2), .val (.int x3), .val (.int (Int32.ofNat da)), .val (.int (Int32.ofNat dc)), .val (.int (Int32.ofNat db)), .val (.int (Int32.ofNat n)), .val (.int (Int32.ofNat f)), .val (.int (Int32.ofNat (t + 1))), .val (.ref o5), .val (.ref o9), .val (.int (1 : Int32))] [.int (b2i (own_any (([da, db, dc] : List Nat).take n).reverse f (t + 1)))])) _
      refine g_iload X21 hx 231 rfl (hb hby at_229) rfl ?_
      have hans : own_any (([da, db, dc] : List Nat).take n).reverse f (t + 1) = true := by
        rw [own_any_iff]
        refine ⟨da, ?_, ?_⟩
        · rw [List.mem_reverse, List.mem_take_iff_getElem]; exact ⟨0, by simp; omega, rfl⟩
        · have q := of_decide_eq_true ia; rw [Int32.lt_iff_toInt_lt, Int32.lt_iff_toInt_lt, iaI, hfI, htI] at q; omega
      refine g_icmpN X21 hx 234 rfl (hb hby at_231) (XT.ii_ne_f (by rw [hans]; rfl)) ?_
      refine g_iconst X21 hx 235 rfl (1 : Int32) rfl (hb hby at_234) ?_
      refine g_goto X21 hx 239 (hb hby at_235) (by decide) (by decide) ?_
      exact g_retZ X21 hx hret hlk rfl (hb hby at_239) ⟨rfl, N21⟩ (by decide) (by decide)
    · refine g_ifN X18 hx 177 rfl (hb hby at_174) (bb_ne_f ia) ?_
      refine g_iload X18 hx 179 rfl (hb hby at_177) rfl ?_
      refine g_iconst X18 hx 180 rfl (1 : Int32) rfl (hb hby at_179) ?_
      by_cases k1 : (1 : Int32) < (Int32.ofNat n)
      · refine g_icmpN X18 hx 183 rfl (hb hby at_180) (XT.ii_le_f k1) ?_
        refine g_iload X18 hx 185 rfl (hb hby at_183) rfl ?_
        refine g_iload X18 hx 187 rfl (hb hby at_185) rfl ?_
        refine g_iload X18 hx 189 rfl (hb hby at_187) rfl ?_
        refine g_callS X18 hx hZ 192 rfl (y := (⟨"com/example/tallyrank/tallyrank/search/ScoreWindowsAnyScoredPinLaw", "in", "(III)Z"⟩ : MethodName)) hown (hw _ (List.mem_of_getElem? (i := 33) rfl)) (hw _ (List.mem_of_getElem? (i := 34) rfl)) (hw _ (List.mem_of_getElem? (i := 35) rfl)) (hw _ (List.mem_of_getElem? (i := 36) rfl)) (by decide) [.int (Int32.ofNat db), .int (Int32.ofNat f), .int (Int32.ofNat (t + 1))] [] (rmN l Z a0 hw [] (Int32.ofNat db) (Int32.ofNat f) (Int32.ofNat (t + 1)) T16.heap n0 Zl19 ) e18 (lenOf pd_3 rfl) rfl (by rw [hml]; rfl) (hb hby at_189) (by decide) 0 (Nat.le_of_eq rfl) (by decide) (by decide) (by decide) ?_
        rintro _ T23 L23 X23 ⟨rfl, N23q, e23⟩
        have N23 := Fr.app N18 N23q
        show Goes p e below (T23.setTop (mkF m 192 #[.val (.int p1), .val (.int p2), .val (.int p3), .val (.int p4), .val (.int p5), .val (.int p6), .val (.int (8192 : Int32)), .val (.int x1), .val (.int x2), .val (.int x3), .val (.int (Int32.ofNat da)), .val (.int (Int32.ofNat dc)), .val (.int (Int32.ofNat db)), .val (.int (Int32.ofNat n)), .val (.int (Int32.ofNat f)), .val (.int (Int32.ofNat (t + 1))), .val (.ref o5), .val (.ref o9), .unset] [.int (b2i (decide (¬ (Int32.ofNat db) < (Int32.ofNat f) ∧ (Int32.ofNat db) < (Int32.ofNat (t + 1)))))])) _
        by_cases ib : (decide (¬ (Int32.ofNat db) < (Int32.ofNat f) ∧ (Int32.ofNat db) < (Int32.ofNat (t + 1)))) = true
        · refine g_ifY X23 hx 213 (hb hby at_192) (bb_ne_t ib) (by decide) (by decide) ?_
          have hni : 1 < n := by have q := Int32.lt_iff_toInt_lt.mp k1; rw [hnI] at q; have zz : (1 : Int32).toInt = 1 := rfl; omega
          refine g_iconst X23 hx 214 rfl (1 : Int32) rfl (hb hby at_213) ?_
          refine g_goto X23 hx 218 (hb hby at_214) (by decide) (by decide) ?_
          refine g_istore X23 hx 220 rfl (hb hby at_218) #[.val (.int p1), .val (.int p2), .val (.int p3), .val (.int p4), .val (.int p5), .val (.int p6), .val (.int (8192 : Int32)), .val (.int x1), .val (.int x2), .val (.int x3), .val (.int (Int32.ofNat da)), .val (.int (Int32.ofNat dc)), .val (.int (Int32.ofNat db)), .val (.int (Int32.ofNat n)), .val (.int (Int32.ofNat f)), .val (.int (Int32.ofNat (t + 1))), .val (.ref o5), .val (.ref o9), .val (.int (1 : Int32))] rfl ?_
          refine g_aload X23 hx 222 rfl (hb hby at_220) rfl rfl ?_
          refine g_iload X23 hx 224 rfl (hb hby at_222) rfl ?_
          refine g_iload X23 hx 226 rfl (hb hby at_224) rfl ?_
          have Fld24 := (F13.keep K16 (ninS na nin0))
          have Exa26 := (E13.keep K16)
          refine g_callV X23 hx hZ 229 rfl (y := (⟨"com/example/tallyrank/tallyrank/search/ScoreWindows", "anyScored", "(II)Z"⟩ : MethodName)) hown (hw _ (List.mem_of_getElem? (i := 37) rfl)) (hw _ (List.mem_of_getElem? (i := 38) rfl)) (hw _ (List.mem_of_getElem? (i := 40) rfl)) (hw _ (List.mem_of_getElem? (i := 39) rfl)) (hw _ (List.mem_of_getElem? (i := 11) rfl)) (hw _ (List.mem_of_getElem? (i := 41) rfl)) (by decide) o9 [.int (Int32.ofNat f), .int (Int32.ofNat (t + 1))] [] (rmY l Z a0 hw [] o9 sd _ f t T16.heap n0 Zl19 Fld24 B16 hS ht2 ht3) e23 Exa26 (lenOf pd_4 rfl) rfl (by rw [hml]; rfl) (hb hby at_226) (by decide) 0 (Nat.le_of_eq rfl) (by decide) (by decide) (by decide) ?_
          rintro _ T25 L25 X25 ⟨rfl, N25q, e25⟩
          have N25 := Fr.app N23 N25q
          show Goes p e below (T25.setTop (mkF m 229 #[.val (.int p1), .val (.int p2), .val (.int p3), .val (.int p4), .val (.int p5), .val (.int p6), .val (.int (8192 : Int32)), .val (.int x1), .val (.int x2), .val (.int x3), .val (.int (Int32.ofNat da)), .val (.int (Int32.ofNat dc)), .val (.int (Int32.ofNat db)), .val (.int (Int32.ofNat n)), .val (.int (Int32.ofNat f)), .val (.int (Int32.ofNat (t + 1))), .val (.ref o5), .val (.ref o9), .val (.int (1 : Int32))] [.int (b2i (own_any (([da, db, dc] : List Nat).take n).reverse f (t + 1)))])) _
          refine g_iload X25 hx 231 rfl (hb hby at_229) rfl ?_
          have hans : own_any (([da, db, dc] : List Nat).take n).reverse f (t + 1) = true := by
            rw [own_any_iff]
            refine ⟨db, ?_, ?_⟩
            · rw [List.mem_reverse, List.mem_take_iff_getElem]; exact ⟨1, by simp; omega, rfl⟩
            · have q := of_decide_eq_true ib; rw [Int32.lt_iff_toInt_lt, Int32.lt_iff_toInt_lt, ibI, hfI, htI] at q; omega
          refine g_icmpN X25 hx 234 rfl (hb hby at_231) (XT.ii_ne_f (by rw [hans]; rfl)) ?_
          refine g_iconst X25 hx 235 rfl (1 : Int32) rfl (hb hby at_234) ?_
          refine g_goto X25 hx 239 (hb hby at_235) (by decide) (by decide) ?_
          exact g_retZ X25 hx hret hlk rfl (hb hby at_239) ⟨rfl, N25⟩ (by decide) (by decide)
        · refine g_ifN X23 hx 195 rfl (hb hby at_192) (bb_ne_f ib) ?_
          refine g_iload X23 hx 197 rfl (hb hby at_195) rfl ?_
          refine g_iconst X23 hx 198 rfl (2 : Int32) rfl (hb hby at_197) ?_
          by_cases k2 : (2 : Int32) < (Int32.ofNat n)
          · refine g_icmpN X23 hx 201 rfl (hb hby at_198) (XT.ii_le_f k2) ?_
            refine g_iload X23 hx 203 rfl (hb hby at_201) rfl ?_
            refine g_iload X23 hx 205 rfl (hb hby at_203) rfl ?_
            refine g_iload X23 hx 207 rfl (hb hby at_205) rfl ?_
            refine g_callS X23 hx hZ 210 rfl (y := (⟨"com/example/tallyrank/tallyrank/search/ScoreWindowsAnyScoredPinLaw", "in", "(III)Z"⟩ : MethodName)) hown (hw _ (List.mem_of_getElem? (i := 33) rfl)) (hw _ (List.mem_of_getElem? (i := 34) rfl)) (hw _ (List.mem_of_getElem? (i := 35) rfl)) (hw _ (List.mem_of_getElem? (i := 36) rfl)) (by decide) [.int (Int32.ofNat dc), .int (Int32.ofNat f), .int (Int32.ofNat (t + 1))] [] (rmN l Z a0 hw [] (Int32.ofNat dc) (Int32.ofNat f) (Int32.ofNat (t + 1)) T16.heap n0 Zl19 ) e23 (lenOf pd_3 rfl) rfl (by rw [hml]; rfl) (hb hby at_207) (by decide) 0 (Nat.le_of_eq rfl) (by decide) (by decide) (by decide) ?_
            rintro _ T27 L27 X27 ⟨rfl, N27q, e27⟩
            have N27 := Fr.app N23 N27q
            show Goes p e below (T27.setTop (mkF m 210 #[.val (.int p1), .val (.int p2), .val (.int p3), .val (.int p4), .val (.int p5), .val (.int p6), .val (.int (8192 : Int32)), .val (.int x1), .val (.int x2), .val (.int x3), .val (.int (Int32.ofNat da)), .val (.int (Int32.ofNat dc)), .val (.int (Int32.ofNat db)), .val (.int (Int32.ofNat n)), .val (.int (Int32.ofNat f)), .val (.int (Int32.ofNat (t + 1))), .val (.ref o5), .val (.ref o9), .unset] [.int (b2i (decide (¬ (Int32.ofNat dc) < (Int32.ofNat f) ∧ (Int32.ofNat dc) < (Int32.ofNat (t + 1)))))])) _
            by_cases ic : (decide (¬ (Int32.ofNat dc) < (Int32.ofNat f) ∧ (Int32.ofNat dc) < (Int32.ofNat (t + 1)))) = true
            · refine g_ifN X27 hx 213 rfl (hb hby at_210) (bb_eq_f ic) ?_
              have hni : 2 < n := by have q := Int32.lt_iff_toInt_lt.mp k2; rw [hnI] at q; have zz : (2 : Int32).toInt = 2 := rfl; omega
              refine g_iconst X27 hx 214 rfl (1 : Int32) rfl (hb hby at_213) ?_
              refine g_goto X27 hx 218 (hb hby at_214) (by decide) (by decide) ?_
              refine g_istore X27 hx 220 rfl (hb hby at_218) #[.val (.int p1), .val (.int p2), .val (.int p3), .val (.int p4), .val (.int p5), .val (.int p6), .val (.int (8192 : Int32)), .val (.int x1), .val (.int x2), .val (.int x3), .val (.int (Int32.ofNat da)), .val (.int (Int32.ofNat dc)), .val (.int (Int32.ofNat db)), .val (.int (Int32.ofNat n)), .val (.int (Int32.ofNat f)), .val (.int (Int32.ofNat (t + 1))), .val (.ref o5), .val (.ref o9), .val (.int (1 : Int32))] rfl ?_
              refine g_aload X27 hx 222 rfl (hb hby at_220) rfl rfl ?_
              refine g_iload X27 hx 224 rfl (hb hby at_222) rfl ?_
              refine g_iload X27 hx 226 rfl (hb hby at_224) rfl ?_
              have Fld28 := (F13.keep K16 (ninS na nin0))
              have Exa30 := (E13.keep K16)
              refine g_callV X27 hx hZ 229 rfl (y := (⟨"com/example/tallyrank/tallyrank/search/ScoreWindows", "anyScored", "(II)Z"⟩ : MethodName)) hown (hw _ (List.mem_of_getElem? (i := 37) rfl)) (hw _ (List.mem_of_getElem? (i := 38) rfl)) (hw _ (List.mem_of_getElem? (i := 40) rfl)) (hw _ (List.mem_of_getElem? (i := 39) rfl)) (hw _ (List.mem_of_getElem? (i := 11) rfl)) (hw _ (List.mem_of_getElem? (i := 41) rfl)) (by decide) o9 [.int (Int32.ofNat f), .int (Int32.ofNat (t + 1))] [] (rmY l Z a0 hw [] o9 sd _ f t T16.heap n0 Zl19 Fld28 B16 hS ht2 ht3) e27 Exa30 (lenOf pd_4 rfl) rfl (by rw [hml]; rfl) (hb hby at_226) (by decide) 0 (Nat.le_of_eq rfl) (by decide) (by decide) (by decide) ?_
              rintro _ T29 L29 X29 ⟨rfl, N29q, e29⟩
              have N29 := Fr.app N27 N29q
              show Goes p e below (T29.setTop (mkF m 229 #[.val (.int p1), .val (.int p2), .val (.int p3), .val (.int p4), .val (.int p5), .val (.int p6), .val (.int (8192 : Int32)), .val (.int x1), .val (.int x2), .val (.int x3), .val (.int (Int32.ofNat da)), .val (.int (Int32.ofNat dc)), .val (.int (Int32.ofNat db)), .val (.int (Int32.ofNat n)), .val (.int (Int32.ofNat f)), .val (.int (Int32.ofNat (t + 1))), .val (.ref o5), .val (.ref o9), .val (.int (1 : Int32))] [.int (b2i (own_any (([da, db, dc] : List Nat).take n).reverse f (t + 1)))])) _
              refine g_iload X29 hx 231 rfl (hb hby at_229) rfl ?_
              have hans : own_any (([da, db, dc] : List Nat).take n).reverse f (t + 1) = true := by
                rw [own_any_iff]
                refine ⟨dc, ?_, ?_⟩
                · rw [List.mem_reverse, List.mem_take_iff_getElem]; exact ⟨2, by simp; omega, rfl⟩
                · have q := of_decide_eq_true ic; rw [Int32.lt_iff_toInt_lt, Int32.lt_iff_toInt_lt, icI, hfI, htI] at q; omega
              refine g_icmpN X29 hx 234 rfl (hb hby at_231) (XT.ii_ne_f (by rw [hans]; rfl)) ?_
              refine g_iconst X29 hx 235 rfl (1 : Int32) rfl (hb hby at_234) ?_
              refine g_goto X29 hx 239 (hb hby at_235) (by decide) (by decide) ?_
              exact g_retZ X29 hx hret hlk rfl (hb hby at_239) ⟨rfl, N29⟩ (by decide) (by decide)
            · refine g_ifY X27 hx 217 (hb hby at_210) (bb_eq_t ic) (by decide) (by decide) ?_
              refine g_iconst X27 hx 218 rfl (0 : Int32) rfl (hb hby at_217) ?_
              refine g_istore X27 hx 220 rfl (hb hby at_218) #[.val (.int p1), .val (.int p2), .val (.int p3), .val (.int p4), .val (.int p5), .val (.int p6), .val (.int (8192 : Int32)), .val (.int x1), .val (.int x2), .val (.int x3), .val (.int (Int32.ofNat da)), .val (.int (Int32.ofNat dc)), .val (.int (Int32.ofNat db)), .val (.int (Int32.ofNat n)), .val (.int (Int32.ofNat f)), .val (.int (Int32.ofNat (t + 1))), .val (.ref o5), .val (.ref o9), .val (.int (0 : Int32))] rfl ?_
              refine g_aload X27 hx 222 rfl (hb hby at_220) rfl rfl ?_
              refine g_iload X27 hx 224 rfl (hb hby at_222) rfl ?_
              refine g_iload X27 hx 226 rfl (hb hby at_224) rfl ?_
              have Fld31 := (F13.keep K16 (ninS na nin0))
              have Exa33 := (E13.keep K16)
              refine g_callV X27 hx hZ 229 rfl (y := (⟨"com/example/tallyrank/tallyrank/search/ScoreWindows", "anyScored", "(II)Z"⟩ : MethodName)) hown (hw _ (List.mem_of_getElem? (i := 37) rfl)) (hw _ (List.mem_of_getElem? (i := 38) rfl)) (hw _ (List.mem_of_getElem? (i := 40) rfl)) (hw _ (List.mem_of_getElem? (i := 39) rfl)) (hw _ (List.mem_of_getElem? (i := 11) rfl)) (hw _ (List.mem_of_getElem? (i := 41) rfl)) (by decide) o9 [.int (Int32.ofNat f), .int (Int32.ofNat (t + 1))] [] (rmY l Z a0 hw [] o9 sd _ f t T16.heap n0 Zl19 Fld31 B16 hS ht2 ht3) e27 Exa33 (lenOf pd_4 rfl) rfl (by rw [hml]; rfl) (hb hby at_226) (by decide) 0 (Nat.le_of_eq rfl) (by decide) (by decide) (by decide) ?_
              rintro _ T32 L32 X32 ⟨rfl, N32q, e32⟩
              have N32 := Fr.app N27 N32q
              show Goes p e below (T32.setTop (mkF m 229 #[.val (.int p1), .val (.int p2), .val (.int p3), .val (.int p4), .val (.int p5), .val (.int p6), .val (.int (8192 : Int32)), .val (.int x1), .val (.int x2), .val (.int x3), .val (.int (Int32.ofNat da)), .val (.int (Int32.ofNat dc)), .val (.int (Int32.ofNat db)), .val (.int (Int32.ofNat n)), .val (.int (Int32.ofNat f)), .val (.int (Int32.ofNat (t + 1))), .val (.ref o5), .val (.ref o9), .val (.int (0 : Int32))] [.int (b2i (own_any (([da, db, dc] : List Nat).take n).reverse f (t + 1)))])) _
              refine g_iload X32 hx 231 rfl (hb hby at_229) rfl ?_
              have hans : own_any (([da, db, dc] : List Nat).take n).reverse f (t + 1) = false := by
                cases q : own_any (([da, db, dc] : List Nat).take n).reverse f (t + 1) with
                | false => rfl
                | true =>
                  exfalso
                  rw [own_any_iff] at q
                  obtain ⟨p, q1, q2, q3⟩ := q
                  rw [List.mem_reverse, List.mem_take_iff_getElem] at q1
                  obtain ⟨i, q4, q5⟩ := q1
                  simp only [List.length_cons, List.length_nil] at q4
                  have ya : ¬ (f ≤ da ∧ da < t + 1) := fun y => ia (decide_eq_true (by rw [Int32.lt_iff_toInt_lt, Int32.lt_iff_toInt_lt, iaI, hfI, htI]; omega))
                  have yb : ¬ (f ≤ db ∧ db < t + 1) := fun y => ib (decide_eq_true (by rw [Int32.lt_iff_toInt_lt, Int32.lt_iff_toInt_lt, ibI, hfI, htI]; omega))
                  have yc : ¬ (f ≤ dc ∧ dc < t + 1) := fun y => ic (decide_eq_true (by rw [Int32.lt_iff_toInt_lt, Int32.lt_iff_toInt_lt, icI, hfI, htI]; omega))
                  match i, q4, q5 with
                  | 0, q4, q5 => have q6 : da = p := q5; omega
                  | 1, q4, q5 => have q6 : db = p := q5; omega
                  | 2, q4, q5 => have q6 : dc = p := q5; omega
                  | (k + 3), q4, q5 => omega
              refine g_icmpN X32 hx 234 rfl (hb hby at_231) (XT.ii_ne_f (by rw [hans]; rfl)) ?_
              refine g_iconst X32 hx 235 rfl (1 : Int32) rfl (hb hby at_234) ?_
              refine g_goto X32 hx 239 (hb hby at_235) (by decide) (by decide) ?_
              exact g_retZ X32 hx hret hlk rfl (hb hby at_239) ⟨rfl, N32⟩ (by decide) (by decide)
          · refine g_icmpY X23 hx 217 (hb hby at_198) (XT.ii_le_t k2) (by decide) (by decide) ?_
            have hnn : n ≤ 2 := by rw [Int32.lt_iff_toInt_lt, hnI] at k2; have zz : (2 : Int32).toInt = 2 := rfl; omega
            refine g_iconst X23 hx 218 rfl (0 : Int32) rfl (hb hby at_217) ?_
            refine g_istore X23 hx 220 rfl (hb hby at_218) #[.val (.int p1), .val (.int p2), .val (.int p3), .val (.int p4), .val (.int p5), .val (.int p6), .val (.int (8192 : Int32)), .val (.int x1), .val (.int x2), .val (.int x3), .val (.int (Int32.ofNat da)), .val (.int (Int32.ofNat dc)), .val (.int (Int32.ofNat db)), .val (.int (Int32.ofNat n)), .val (.int (Int32.ofNat f)), .val (.int (Int32.ofNat (t + 1))), .val (.ref o5), .val (.ref o9), .val (.int (0 : Int32))] rfl ?_
            refine g_aload X23 hx 222 rfl (hb hby at_220) rfl rfl ?_
            refine g_iload X23 hx 224 rfl (hb hby at_222) rfl ?_
            refine g_iload X23 hx 226 rfl (hb hby at_224) rfl ?_
            have Fld34 := (F13.keep K16 (ninS na nin0))
            have Exa36 := (E13.keep K16)
            refine g_callV X23 hx hZ 229 rfl (y := (⟨"com/example/tallyrank/tallyrank/search/ScoreWindows", "anyScored", "(II)Z"⟩ : MethodName)) hown (hw _ (List.mem_of_getElem? (i := 37) rfl)) (hw _ (List.mem_of_getElem? (i := 38) rfl)) (hw _ (List.mem_of_getElem? (i := 40) rfl)) (hw _ (List.mem_of_getElem? (i := 39) rfl)) (hw _ (List.mem_of_getElem? (i := 11) rfl)) (hw _ (List.mem_of_getElem? (i := 41) rfl)) (by decide) o9 [.int (Int32.ofNat f), .int (Int32.ofNat (t + 1))] [] (rmY l Z a0 hw [] o9 sd _ f t T16.heap n0 Zl19 Fld34 B16 hS ht2 ht3) e23 Exa36 (lenOf pd_4 rfl) rfl (by rw [hml]; rfl) (hb hby at_226) (by decide) 0 (Nat.le_of_eq rfl) (by decide) (by decide) (by decide) ?_
            rintro _ T35 L35 X35 ⟨rfl, N35q, e35⟩
            have N35 := Fr.app N23 N35q
            show Goes p e below (T35.setTop (mkF m 229 #[.val (.int p1), .val (.int p2), .val (.int p3), .val (.int p4), .val (.int p5), .val (.int p6), .val (.int (8192 : Int32)), .val (.int x1), .val (.int x2), .val (.int x3), .val (.int (Int32.ofNat da)), .val (.int (Int32.ofNat dc)), .val (.int (Int32.ofNat db)), .val (.int (Int32.ofNat n)), .val (.int (Int32.ofNat f)), .val (.int (Int32.ofNat (t + 1))), .val (.ref o5), .val (.ref o9), .val (.int (0 : Int32))] [.int (b2i (own_any (([da, db, dc] : List Nat).take n).reverse f (t + 1)))])) _
            refine g_iload X35 hx 231 rfl (hb hby at_229) rfl ?_
            have hans : own_any (([da, db, dc] : List Nat).take n).reverse f (t + 1) = false := by
              cases q : own_any (([da, db, dc] : List Nat).take n).reverse f (t + 1) with
              | false => rfl
              | true =>
                exfalso
                rw [own_any_iff] at q
                obtain ⟨p, q1, q2, q3⟩ := q
                rw [List.mem_reverse, List.mem_take_iff_getElem] at q1
                obtain ⟨i, q4, q5⟩ := q1
                simp only [List.length_cons, List.length_nil] at q4
                have ya : ¬ (f ≤ da ∧ da < t + 1) := fun y => ia (decide_eq_true (by rw [Int32.lt_iff_toInt_lt, Int32.lt_iff_toInt_lt, iaI, hfI, htI]; omega))
                have yb : ¬ (f ≤ db ∧ db < t + 1) := fun y => ib (decide_eq_true (by rw [Int32.lt_iff_toInt_lt, Int32.lt_iff_toInt_lt, ibI, hfI, htI]; omega))
                match i, q4, q5 with
                | 0, q4, q5 => have q6 : da = p := q5; omega
                | 1, q4, q5 => have q6 : db = p := q5; omega
                | 2, q4, q5 => have q6 : dc = p := q5; omega
                | (k + 3), q4, q5 => omega
            refine g_icmpN X35 hx 234 rfl (hb hby at_231) (XT.ii_ne_f (by rw [hans]; rfl)) ?_
            refine g_iconst X35 hx 235 rfl (1 : Int32) rfl (hb hby at_234) ?_
            refine g_goto X35 hx 239 (hb hby at_235) (by decide) (by decide) ?_
            exact g_retZ X35 hx hret hlk rfl (hb hby at_239) ⟨rfl, N35⟩ (by decide) (by decide)
      · refine g_icmpY X18 hx 195 (hb hby at_180) (XT.ii_le_t k1) (by decide) (by decide) ?_
        have hnn : n ≤ 1 := by rw [Int32.lt_iff_toInt_lt, hnI] at k1; have zz : (1 : Int32).toInt = 1 := rfl; omega
        refine g_iload X18 hx 197 rfl (hb hby at_195) rfl ?_
        refine g_iconst X18 hx 198 rfl (2 : Int32) rfl (hb hby at_197) ?_
        refine g_icmpY X18 hx 217 (hb hby at_198) (XT.ii_le_t (by rw [Int32.lt_iff_toInt_lt, hnI]; have zz : (2 : Int32).toInt = 2 := rfl; omega)) (by decide) (by decide) ?_
        refine g_iconst X18 hx 218 rfl (0 : Int32) rfl (hb hby at_217) ?_
        refine g_istore X18 hx 220 rfl (hb hby at_218) #[.val (.int p1), .val (.int p2), .val (.int p3), .val (.int p4), .val (.int p5), .val (.int p6), .val (.int (8192 : Int32)), .val (.int x1), .val (.int x2), .val (.int x3), .val (.int (Int32.ofNat da)), .val (.int (Int32.ofNat dc)), .val (.int (Int32.ofNat db)), .val (.int (Int32.ofNat n)), .val (.int (Int32.ofNat f)), .val (.int (Int32.ofNat (t + 1))), .val (.ref o5), .val (.ref o9), .val (.int (0 : Int32))] rfl ?_
        refine g_aload X18 hx 222 rfl (hb hby at_220) rfl rfl ?_
        refine g_iload X18 hx 224 rfl (hb hby at_222) rfl ?_
        refine g_iload X18 hx 226 rfl (hb hby at_224) rfl ?_
        have Fld37 := (F13.keep K16 (ninS na nin0))
        have Exa39 := (E13.keep K16)
        refine g_callV X18 hx hZ 229 rfl (y := (⟨"com/example/tallyrank/tallyrank/search/ScoreWindows", "anyScored", "(II)Z"⟩ : MethodName)) hown (hw _ (List.mem_of_getElem? (i := 37) rfl)) (hw _ (List.mem_of_getElem? (i := 38) rfl)) (hw _ (List.mem_of_getElem? (i := 40) rfl)) (hw _ (List.mem_of_getElem? (i := 39) rfl)) (hw _ (List.mem_of_getElem? (i := 11) rfl)) (hw _ (List.mem_of_getElem? (i := 41) rfl)) (by decide) o9 [.int (Int32.ofNat f), .int (Int32.ofNat (t + 1))] [] (rmY l Z a0 hw [] o9 sd _ f t T16.heap n0 Zl19 Fld37 B16 hS ht2 ht3) e18 Exa39 (lenOf pd_4 rfl) rfl (by rw [hml]; rfl) (hb hby at_226) (by decide) 0 (Nat.le_of_eq rfl) (by decide) (by decide) (by decide) ?_
        rintro _ T38 L38 X38 ⟨rfl, N38q, e38⟩
        have N38 := Fr.app N18 N38q
        show Goes p e below (T38.setTop (mkF m 229 #[.val (.int p1), .val (.int p2), .val (.int p3), .val (.int p4), .val (.int p5), .val (.int p6), .val (.int (8192 : Int32)), .val (.int x1), .val (.int x2), .val (.int x3), .val (.int (Int32.ofNat da)), .val (.int (Int32.ofNat dc)), .val (.int (Int32.ofNat db)), .val (.int (Int32.ofNat n)), .val (.int (Int32.ofNat f)), .val (.int (Int32.ofNat (t + 1))), .val (.ref o5), .val (.ref o9), .val (.int (0 : Int32))] [.int (b2i (own_any (([da, db, dc] : List Nat).take n).reverse f (t + 1)))])) _
        refine g_iload X38 hx 231 rfl (hb hby at_229) rfl ?_
        have hans : own_any (([da, db, dc] : List Nat).take n).reverse f (t + 1) = false := by
          cases q : own_any (([da, db, dc] : List Nat).take n).reverse f (t + 1) with
          | false => rfl
          | true =>
            exfalso
            rw [own_any_iff] at q
            obtain ⟨p, q1, q2, q3⟩ := q
            rw [List.mem_reverse, List.mem_take_iff_getElem] at q1
            obtain ⟨i, q4, q5⟩ := q1
            simp only [List.length_cons, List.length_nil] at q4
            have ya : ¬ (f ≤ da ∧ da < t + 1) := fun y => ia (decide_eq_true (by rw [Int32.lt_iff_toInt_lt, Int32.lt_iff_toInt_lt, iaI, hfI, htI]; omega))
            match i, q4, q5 with
            | 0, q4, q5 => have q6 : da = p := q5; omega
            | 1, q4, q5 => have q6 : db = p := q5; omega
            | 2, q4, q5 => have q6 : dc = p := q5; omega
            | (k + 3), q4, q5 => omega
        refine g_icmpN X38 hx 234 rfl (hb hby at_231) (XT.ii_ne_f (by rw [hans]; rfl)) ?_
        refine g_iconst X38 hx 235 rfl (1 : Int32) rfl (hb hby at_234) ?_
        refine g_goto X38 hx 239 (hb hby at_235) (by decide) (by decide) ?_
        exact g_retZ X38 hx hret hlk rfl (hb hby at_239) ⟨rfl, N38⟩ (by decide) (by decide)
  · refine g_ifY X16 hx 177 (hb hby at_162) (XT.i0_le_t k0) (by decide) (by decide) ?_
    have hnn : n ≤ 0 := by rw [Int32.lt_iff_toInt_lt, hnI] at k0; have zz : (0 : Int32).toInt = 0 := rfl; omega
    refine g_iload X16 hx 179 rfl (hb hby at_177) rfl ?_
    refine g_iconst X16 hx 180 rfl (1 : Int32) rfl (hb hby at_179) ?_
    refine g_icmpY X16 hx 195 (hb hby at_180) (XT.ii_le_t (by rw [Int32.lt_iff_toInt_lt, hnI]; have zz : (1 : Int32).toInt = 1 := rfl; omega)) (by decide) (by decide) ?_
    refine g_iload X16 hx 197 rfl (hb hby at_195) rfl ?_
    refine g_iconst X16 hx 198 rfl (2 : Int32) rfl (hb hby at_197) ?_
    refine g_icmpY X16 hx 217 (hb hby at_198) (XT.ii_le_t (by rw [Int32.lt_iff_toInt_lt, hnI]; have zz : (2 : Int32).toInt = 2 := rfl; omega)) (by decide) (by decide) ?_
    refine g_iconst X16 hx 218 rfl (0 : Int32) rfl (hb hby at_217) ?_
    refine g_istore X16 hx 220 rfl (hb hby at_218) #[.val (.int p1), .val (.int p2), .val (.int p3), .val (.int p4), .val (.int p5), .val (.int p6), .val (.int (8192 : Int32)), .val (.int x1), .val (.int x2), .val (.int x3), .val (.int (Int32.ofNat da)), .val (.int (Int32.ofNat dc)), .val (.int (Int32.ofNat db)), .val (.int (Int32.ofNat n)), .val (.int (Int32.ofNat f)), .val (.int (Int32.ofNat (t + 1))), .val (.ref o5), .val (.ref o9), .val (.int (0 : Int32))] rfl ?_
    refine g_aload X16 hx 222 rfl (hb hby at_220) rfl rfl ?_
    refine g_iload X16 hx 224 rfl (hb hby at_222) rfl ?_
    refine g_iload X16 hx 226 rfl (hb hby at_224) rfl ?_
    have Fld40 := (F13.keep K16 (ninS na nin0))
    have Zl42 : n0 ≤ T16.heap.size := (Nat.le_trans Zl17 K16.1)
    have Exa43 := (E13.keep K16)
    refine g_callV X16 hx hZ 229 rfl (y := (⟨"com/example/tallyrank/tallyrank/search/ScoreWindows", "anyScored", "(II)Z"⟩ : MethodName)) hown (hw _ (List.mem_of_getElem? (i := 37) rfl)) (hw _ (List.mem_of_getElem? (i := 38) rfl)) (hw _ (List.mem_of_getElem? (i := 40) rfl)) (hw _ (List.mem_of_getElem? (i := 39) rfl)) (hw _ (List.mem_of_getElem? (i := 11) rfl)) (hw _ (List.mem_of_getElem? (i := 41) rfl)) (by decide) o9 [.int (Int32.ofNat f), .int (Int32.ofNat (t + 1))] [] (rmY l Z a0 hw [] o9 sd _ f t T16.heap n0 Zl42 Fld40 B16 hS ht2 ht3) rfl Exa43 (lenOf pd_4 rfl) rfl (by rw [hml]; rfl) (hb hby at_226) (by decide) 0 (Nat.le_of_eq rfl) (by decide) (by decide) (by decide) ?_
    rintro _ T41 L41 X41 ⟨rfl, N41q, e41⟩
    have N41 := Fr.app N16 N41q
    show Goes p e below (T41.setTop (mkF m 229 #[.val (.int p1), .val (.int p2), .val (.int p3), .val (.int p4), .val (.int p5), .val (.int p6), .val (.int (8192 : Int32)), .val (.int x1), .val (.int x2), .val (.int x3), .val (.int (Int32.ofNat da)), .val (.int (Int32.ofNat dc)), .val (.int (Int32.ofNat db)), .val (.int (Int32.ofNat n)), .val (.int (Int32.ofNat f)), .val (.int (Int32.ofNat (t + 1))), .val (.ref o5), .val (.ref o9), .val (.int (0 : Int32))] [.int (b2i (own_any (([da, db, dc] : List Nat).take n).reverse f (t + 1)))])) _
    refine g_iload X41 hx 231 rfl (hb hby at_229) rfl ?_
    have hans : own_any (([da, db, dc] : List Nat).take n).reverse f (t + 1) = false := by
      cases q : own_any (([da, db, dc] : List Nat).take n).reverse f (t + 1) with
      | false => rfl
      | true =>
        exfalso
        rw [own_any_iff] at q
        obtain ⟨p, q1, q2, q3⟩ := q
        rw [List.mem_reverse, List.mem_take_iff_getElem] at q1
        obtain ⟨i, q4, q5⟩ := q1
        simp only [List.length_cons, List.length_nil] at q4
        match i, q4, q5 with
        | 0, q4, q5 => have q6 : da = p := q5; omega
        | 1, q4, q5 => have q6 : db = p := q5; omega
        | 2, q4, q5 => have q6 : dc = p := q5; omega
        | (k + 3), q4, q5 => omega
    refine g_icmpN X41 hx 234 rfl (hb hby at_231) (XT.ii_ne_f (by rw [hans]; rfl)) ?_
    refine g_iconst X41 hx 235 rfl (1 : Int32) rfl (hb hby at_234) ?_
    refine g_goto X41 hx 239 (hb hby at_235) (by decide) (by decide) ?_
    exact g_retZ X41 hx hret hlk rfl (hb hby at_239) ⟨rfl, N41⟩ (by decide) (by decide)
set_option maxRecDepth 65536 in
set_option maxHeartbeats 40000000 in
theorem comes_1 {Post : Tables → Env → Array Value → State → Outcome → State → Prop} (hpost : ∀ tb e args s v u, (limb_1_1.after args s (.returned v) u = true ∧ limb_1_2.after args s (.returned v) u = true ∧ True) → FrameEnd s (.returned v) u (Jvm.fieldLocs frame_1_writes args s ++ Jvm.arrayLocs frame_1_arrays args s ++ Jvm.staticLocs frame_1_statics s) 24 16768 → Post tb e args s (.returned v) u) :
    ArmFor flags0 classFile x code maxLocals ret World_1 tables_1 room_1 Calls_1 rest_1 Pre_1 Post := by
  intro l hfl _ _ p e ha hc hk s m args below hf hA hF happ hP
  obtain ⟨hcalls, hrest, hpre⟩ := hP
  obtain ⟨-, -, -, hnamed, -, -, -, hat⟩ := (Spec.applies_iff hf).mp happ
  obtain ⟨hg, hn⟩ := and_e (Cond.before_iff.mp (show (Jvm.Cond.and given_1 narrow_1).before args s = true from hpre))
  obtain ⟨h1, hr1⟩ := and_e hg
  obtain ⟨hk1, hr2⟩ := and_e hr1
  obtain ⟨hk2, hr3⟩ := and_e hr2
  obtain ⟨hk3, hr4⟩ := and_e hr3
  obtain ⟨hk4, hr5⟩ := and_e hr4
  obtain ⟨hk5, hr6⟩ := and_e hr5
  obtain ⟨w0, w1, w2, w3, w4, w5, rfl⟩ : ∃ w0 w1 w2 w3 w4 w5 : Value, args = #[w0, w1, w2, w3, w4, w5] := by
    have hs : args.size = 6 := by simpa [Cond.value, given_1] using h1
    obtain ⟨L⟩ := args
    match L, hs with
    | [w0, w1, w2, w3, w4, w5], _ => exact ⟨w0, w1, w2, w3, w4, w5, rfl⟩
  have hw := fun d (hd : d ∈ tables_1) => atoms_spec (ws := Jvm.Cond.code x code maxLocals ret :: tables_1) hat d (List.mem_cons_of_mem _ hd)
  have hfit : Fit s := fun {y c} hc i hi => by
    obtain ⟨ha, rfl⟩ := Array.getElem?_eq_some_iff.mp hc
    have q := List.all_eq_true.mp ((Array.all_eq_true_iff_forall_mem.mp hF) _ (Array.getElem_mem ha)) i (List.mem_range.mpr hi)
    simpa [Array.getElem?_eq_getElem hi] using q
  obtain ⟨i0, e0⟩ := is_v hk1
  obtain rfl : w0 = (.int i0) := Option.some.inj e0
  obtain ⟨i1, e1⟩ := is_v hk2
  obtain rfl : w1 = (.int i1) := Option.some.inj e1
  obtain ⟨i2, e2⟩ := is_v hk3
  obtain rfl : w2 = (.int i2) := Option.some.inj e2
  obtain ⟨i3, e3⟩ := is_v hk4
  obtain rfl : w3 = (.int i3) := Option.some.inj e3
  obtain ⟨i4, e4⟩ := is_v hk5
  obtain rfl : w4 = (.int i4) := Option.some.inj e4
  obtain ⟨i5, e5⟩ := is_v hr6
  obtain rfl : w5 = (.int i5) := Option.some.inj e5
  obtain ⟨n, o, h1, h2, h3, _, L, rfl, ⟨rfl, N⟩, hq⟩ := rm0 l s _ hw tables_1 i0 i1 i2 i3 i4 i5  s.heap s.heap.size (Nat.le_refl _)  p e ha hc hk s m _ below hf ((Spec.applies_iff_loose hf).mp happ).1 ⟨rfl, State.Warmed39.refl s, rfl⟩ trivial
  refine ⟨n, _, h1, h2, h3, hpost _ _ _ _ _ _ ⟨Cond.after_iff.mpr rfl, Cond.after_iff.mpr (eq_i res_at (Term.int_eval (1)) rfl), trivial⟩ ⟨hq.1, hq.2.1, (hq.2.2.sift fun y hy => Or.inr (N y hy)).mono (by decide) (by decide)⟩⟩
theorem main_1_1 : Claimed_1_1 := comes_1 fun _ _ _ _ _ _ h hF => ⟨h.1, hF⟩
theorem main_1_2 : Claimed_1_2 := comes_1 fun _ _ _ _ _ _ h hF => ⟨h.2.1, hF⟩
end Jvm.Pilot.@@N@@
namespace Jvm.Pilot.@@N@@
open Jvm Jvm.ClassFile Sem Op Lib Jvm.Free Jvm.Stand Jvm.Pilot.@@N@@.Jvm.D
/-! MADE BY PROGRAM (witnessworld.py) out of the Statement's table words and the real class files: 12 classes; the members and pool entries that the words name. The judged class is class 1, her method 2. -/
namespace start1
open Jvm.ClassFile
def u (s : String) : CpInfo := .utf8 (stringToUtf16 s)
/-- a pool by its gaps: so many unusable entries, then the entry; so many at the end -/
def gap : Nat → List CpInfo → List CpInfo
  | 0, r => r
  | n + 1, r => .unusable :: gap n r
def poolList (es : List (Nat × CpInfo)) (last : Nat) : List CpInfo := es.foldr (fun e r => gap e.1 (e.2 :: r)) (gap last [])
def pool (es : List (Nat × CpInfo)) (last : Nat) : Array CpInfo := ⟨poolList es last⟩
def fileOf (pool : Array CpInfo) (this : Nat) (attrs : Array Attribute := #[]) (ms : Array MethodInfo := #[]) (fl : Nat := 33) (sup : Nat := 0) (ifs : Array Nat := #[]) (fds : Array FieldInfo := #[]) : ClassFile where
  minorVersion := 0
  majorVersion := 65
  constantPool := pool
  accessFlags := fl
  thisClass := this
  superClass := sup
  interfaces := ifs
  fields := fds
  methods := ms
  attributes := attrs
def plain (name : String) (sup : Option ClassId) : Class where
  name := name
  kind := .ordinary
  loader := none
  accessFlags := 33
  super := sup
  interfaces := #[]
  cf := none
  fields := #[]
  methods := #[]
  instanceTypes := #[]
  staticTypes := #[]
  resolved := #[]
  callSites := []
  init := .initialized
  statics := none
  mirror := none

def pool0 : Array CpInfo := pool [(5, u "<init>"), (0, u "()V"), (1, .class_ 10), (1, u "java/lang/Object")] 113

def k0c0 : Code := { maxStack := 0, maxLocals := 1, code := object_method_1_code, exceptionTable := #[], attributes := #[] }
def k0m0 : Method := { name := "<init>", desc := "()V", sig := { parameters := [], returnType := none }, accessFlags := 1, code := some k0c0 }
/-- java/lang/Object -/
def k0 : Class := { plain "java/lang/Object" none with
  accessFlags := 33
  interfaces := #[]
  cf := some (fileOf pool0 8 #[] #[{ accessFlags := 1, nameIndex := 5, descriptorIndex := 6, attributes := #[] }] 33 0 #[] #[])
  fields := #[]
  methods := #[k0m0]
  instanceTypes := #[]
  staticTypes := #[]
  resolved := Array.replicate 124 none
  statics := none }

def pool1 : Array CpInfo := pool [(2, .class_ 4), (0, .nameAndType 5 6), (0, u "java/lang/Object"), (0, u "<init>"), (0, u "()V"), (0, .class_ 8), (0, u "com/example/tallyrank/tallyrank/search/ScoreWindows"), (0, .methodref 10 11), (0, .class_ 12), (0, .nameAndType 13 14), (0, u "java/lang/Math"), (0, u "min"), (0, u "(II)I"), (0, .methodref 10 16), (0, .nameAndType 17 14), (0, u "max"), (0, .integer 2147483647), (0, .methodref 7 3), (0, .methodref 7 21), (0, .nameAndType 22 23), (0, u "markScored"), (0, u "([IIIII)I"), (0, .methodref 25 26), (0, .class_ 27), (0, .nameAndType 28 29), (0, u "com/example/tallyrank/tallyrank/search/ScoreWindowsAnyScoredPinLaw"), (0, u "in"), (0, u "(III)Z"), (0, .methodref 7 31), (0, .nameAndType 32 33), (0, u "anyScored"), (0, u "(II)Z"), (3, u "law"), (0, u "(IIIIII)Z")] 4

def k1m0 : Method := { name := "<init>", desc := "()V", sig := { parameters := [], returnType := none }, accessFlags := 1, code := none }
def k1c1 : Code := { maxStack := 2, maxLocals := 3, code := method_2_code, exceptionTable := #[], attributes := #[] }
def k1m1 : Method := { name := "in", desc := "(III)Z", sig := { parameters := [.int, .int, .int], returnType := some .boolean }, accessFlags := 10, code := some k1c1 }
def k1c2 : Code := { maxStack := 6, maxLocals := 19, code := code, exceptionTable := #[], attributes := #[] }
def k1m2 : Method := { name := "law", desc := "(IIIIII)Z", sig := { parameters := [.int, .int, .int, .int, .int, .int], returnType := some .boolean }, accessFlags := 9, code := some k1c2 }
/-- com/example/tallyrank/tallyrank/search/ScoreWindowsAnyScoredPinLaw -/
def k1 : Class := { plain "com/example/tallyrank/tallyrank/search/ScoreWindowsAnyScoredPinLaw" (some 0) with
  accessFlags := 49
  interfaces := #[]
  cf := some (fileOf pool1 25 #[] #[{ accessFlags := 1, nameIndex := 5, descriptorIndex := 6, attributes := #[] }, { accessFlags := 10, nameIndex := 28, descriptorIndex := 29, attributes := #[] }, { accessFlags := 9, nameIndex := 37, descriptorIndex := 38, attributes := #[] }] 49 2 #[] #[])
  fields := #[]
  methods := #[k1m0, k1m1, k1m2]
  instanceTypes := #[]
  staticTypes := #[]
  resolved := Array.replicate 43 none
  statics := none }

def pool2 : Array CpInfo := pool [(1, .class_ 2), (0, u "java/lang/Math"), (1, .class_ 6), (1, u "java/lang/Object"), (0, u "<init>"), (0, u "()V"), (89, .class_ 100), (1, u "java/lang/Math$RandomNumberGeneratorHolder"), (71, u "negativeZeroFloatBits"), (0, u "J"), (2, u "negativeZeroDoubleBits"), (21, u "max"), (2, u "min"), (43, u "$assertionsDisabled"), (0, u "Z"), (88, u "(II)I"), (2, u "twoToTheDoubleScaleDown"), (0, u "D"), (4, u "twoToTheDoubleScaleUp"), (9, u "E"), (3, u "PI"), (2, u "TAU"), (2, u "DEGREES_TO_RADIANS"), (0, u "RADIANS_TO_DEGREES")] 94

def k2m0 : Method := { name := "<init>", desc := "()V", sig := { parameters := [], returnType := none }, accessFlags := 2, code := none }
def k2c1 : Code := { maxStack := 2, maxLocals := 2, code := jdk_29_method_65_code, exceptionTable := #[], attributes := #[] }
def k2m1 : Method := { name := "max", desc := "(II)I", sig := { parameters := [.int, .int], returnType := some .int }, accessFlags := 9, code := some k2c1 }
def k2c2 : Code := { maxStack := 2, maxLocals := 2, code := jdk_29_method_69_code, exceptionTable := #[], attributes := #[] }
def k2m2 : Method := { name := "min", desc := "(II)I", sig := { parameters := [.int, .int], returnType := some .int }, accessFlags := 9, code := some k2c2 }
/-- java/lang/Math -/
def k2 : Class := { plain "java/lang/Math" (some 0) with
  accessFlags := 49
  interfaces := #[]
  cf := some (fileOf pool2 1 #[.nestMembers #[98]] #[{ accessFlags := 2, nameIndex := 7, descriptorIndex := 8, attributes := #[] }, { accessFlags := 9, nameIndex := 198, descriptorIndex := 335, attributes := #[] }, { accessFlags := 9, nameIndex := 201, descriptorIndex := 335, attributes := #[] }] 49 4 #[] #[{ accessFlags := 25, nameIndex := 354, descriptorIndex := 339, attributes := #[] }, { accessFlags := 25, nameIndex := 358, descriptorIndex := 339, attributes := #[] }, { accessFlags := 25, nameIndex := 361, descriptorIndex := 339, attributes := #[] }, { accessFlags := 26, nameIndex := 364, descriptorIndex := 339, attributes := #[] }, { accessFlags := 26, nameIndex := 365, descriptorIndex := 339, attributes := #[] }, { accessFlags := 26, nameIndex := 172, descriptorIndex := 173, attributes := #[] }, { accessFlags := 26, nameIndex := 176, descriptorIndex := 173, attributes := #[] }, { accessFlags := 8, nameIndex := 344, descriptorIndex := 339, attributes := #[] }, { accessFlags := 8, nameIndex := 338, descriptorIndex := 339, attributes := #[] }, { accessFlags := 4120, nameIndex := 245, descriptorIndex := 246, attributes := #[] }])
  fields := #[{ name := "E", type := .double, accessFlags := 25, slot := 0, constantValue := 0 }, { name := "PI", type := .double, accessFlags := 25, slot := 1, constantValue := 0 }, { name := "TAU", type := .double, accessFlags := 25, slot := 2, constantValue := 0 }, { name := "DEGREES_TO_RADIANS", type := .double, accessFlags := 26, slot := 3, constantValue := 0 }, { name := "RADIANS_TO_DEGREES", type := .double, accessFlags := 26, slot := 4, constantValue := 0 }, { name := "negativeZeroFloatBits", type := .long, accessFlags := 26, slot := 5, constantValue := 0 }, { name := "negativeZeroDoubleBits", type := .long, accessFlags := 26, slot := 6, constantValue := 0 }, { name := "twoToTheDoubleScaleUp", type := .double, accessFlags := 8, slot := 7, constantValue := 0 }, { name := "twoToTheDoubleScaleDown", type := .double, accessFlags := 8, slot := 8, constantValue := 0 }, { name := "$assertionsDisabled", type := .boolean, accessFlags := 4120, slot := 9, constantValue := 0 }]
  methods := #[k2m0, k2m1, k2m2]
  instanceTypes := #[]
  staticTypes := #[.double, .double, .double, .double, .double, .long, .long, .double, .double, .boolean]
  resolved := Array.replicate 460 none
  statics := none }

def pool3 : Array CpInfo := pool [(1, .methodref 2 3), (0, .class_ 4), (0, .nameAndType 5 6), (0, u "java/lang/Object"), (0, u "<init>"), (0, u "()V"), (0, .class_ 8), (0, u "com/example/tallyrank/tallyrank/search/ScoreWindows"), (0, .fieldref 7 10), (0, .nameAndType 11 12), (0, u "scores"), (0, u "[D"), (2, .fieldref 7 16), (0, .nameAndType 17 18), (0, u "scored"), (0, u "[J"), (0, .fieldref 7 20), (0, .nameAndType 21 22), (0, u "foundPlaces"), (0, u "[I"), (0, .fieldref 7 24), (0, .nameAndType 25 12), (0, u "foundContributions"), (80, u "postingsRead"), (0, u "J"), (27, u "found"), (0, u "I"), (31, .long 18446744073709551615), (3, u "discarded"), (34, u "SIZE"), (2, u "KEPT_FOUND"), (1, u "POSTINGS_FOR_EACH_SOUGHT"), (24, u "anyScored"), (0, u "(II)Z"), (1, u "markScored"), (0, u "([IIIII)I")] 15

def k3c0 : Code := { maxStack := 2, maxLocals := 1, code := prog_174_method_1_code, exceptionTable := #[], attributes := #[] }
def k3m0 : Method := { name := "<init>", desc := "()V", sig := { parameters := [], returnType := none }, accessFlags := 0, code := some k3c0 }
def k3c1 : Code := { maxStack := 5, maxLocals := 11, code := prog_174_method_20_code, exceptionTable := #[], attributes := #[] }
def k3m1 : Method := { name := "anyScored", desc := "(II)Z", sig := { parameters := [.int, .int], returnType := some .boolean }, accessFlags := 0, code := some k3c1 }
def k3c2 : Code := { maxStack := 7, maxLocals := 8, code := prog_174_method_22_code, exceptionTable := #[], attributes := #[] }
def k3m2 : Method := { name := "markScored", desc := "([IIIII)I", sig := { parameters := [(.array .int), .int, .int, .int, .int], returnType := some .int }, accessFlags := 0, code := some k3c2 }
/-- com/example/tallyrank/tallyrank/search/ScoreWindows -/
def k3 : Class := { plain "com/example/tallyrank/tallyrank/search/ScoreWindows" (some 0) with
  accessFlags := 48
  interfaces := #[]
  cf := some (fileOf pool3 7 #[] #[{ accessFlags := 0, nameIndex := 5, descriptorIndex := 6, attributes := #[] }, { accessFlags := 0, nameIndex := 237, descriptorIndex := 238, attributes := #[] }, { accessFlags := 0, nameIndex := 240, descriptorIndex := 241, attributes := #[] }] 48 2 #[] #[{ accessFlags := 24, nameIndex := 207, descriptorIndex := 136, attributes := #[] }, { accessFlags := 24, nameIndex := 210, descriptorIndex := 136, attributes := #[] }, { accessFlags := 24, nameIndex := 212, descriptorIndex := 136, attributes := #[] }, { accessFlags := 18, nameIndex := 11, descriptorIndex := 12, attributes := #[] }, { accessFlags := 18, nameIndex := 17, descriptorIndex := 18, attributes := #[] }, { accessFlags := 2, nameIndex := 21, descriptorIndex := 22, attributes := #[] }, { accessFlags := 2, nameIndex := 25, descriptorIndex := 12, attributes := #[] }, { accessFlags := 2, nameIndex := 135, descriptorIndex := 136, attributes := #[] }, { accessFlags := 2, nameIndex := 106, descriptorIndex := 107, attributes := #[] }, { accessFlags := 2, nameIndex := 172, descriptorIndex := 107, attributes := #[] }])
  fields := #[{ name := "SIZE", type := .int, accessFlags := 24, slot := 0, constantValue := 0 }, { name := "KEPT_FOUND", type := .int, accessFlags := 24, slot := 1, constantValue := 0 }, { name := "POSTINGS_FOR_EACH_SOUGHT", type := .int, accessFlags := 24, slot := 2, constantValue := 0 }, { name := "scores", type := (.array .double), accessFlags := 18, slot := 0, constantValue := 0 }, { name := "scored", type := (.array .long), accessFlags := 18, slot := 1, constantValue := 0 }, { name := "foundPlaces", type := (.array .int), accessFlags := 2, slot := 2, constantValue := 0 }, { name := "foundContributions", type := (.array .double), accessFlags := 2, slot := 3, constantValue := 0 }, { name := "found", type := .int, accessFlags := 2, slot := 4, constantValue := 0 }, { name := "postingsRead", type := .long, accessFlags := 2, slot := 5, constantValue := 0 }, { name := "discarded", type := .long, accessFlags := 2, slot := 6, constantValue := 0 }]
  methods := #[k3m0, k3m1, k3m2]
  instanceTypes := #[(.array .double), (.array .long), (.array .int), (.array .double), .int, .long, .long]
  staticTypes := #[.int, .int, .int]
  resolved := Array.replicate 257 none
  statics := none }

def pool4 : Array CpInfo := pool [(1, u "java/lang/Cloneable"), (0, .class_ 1), (0, u "java/lang/Object"), (0, .class_ 3)] 3

/-- java/lang/Cloneable -/
def k4 : Class := { plain "java/lang/Cloneable" (some 0) with
  accessFlags := 1537
  interfaces := #[]
  cf := some (fileOf pool4 2 #[] #[] 1537 4 #[] #[])
  fields := #[]
  methods := #[]
  instanceTypes := #[]
  staticTypes := #[]
  resolved := Array.replicate 8 none
  statics := none }

def pool5 : Array CpInfo := pool [(1, u "java/io/Serializable"), (0, .class_ 1), (0, u "java/lang/Object"), (0, .class_ 3)] 3

/-- java/io/Serializable -/
def k5 : Class := { plain "java/io/Serializable" (some 0) with
  accessFlags := 1537
  interfaces := #[]
  cf := some (fileOf pool5 2 #[] #[] 1537 4 #[] #[])
  fields := #[]
  methods := #[]
  instanceTypes := #[]
  staticTypes := #[]
  resolved := Array.replicate 8 none
  statics := none }

/-- the primitive byte -/
def k6 : Class := { plain "byte" none with kind := .primitive 'B', accessFlags := 0x411 }
/-- [B -/
def k7 : Class := { plain "[B" (some 0) with kind := .array 6 .byte, interfaces := #[4, 5], accessFlags := 1041 }

/-- the primitive int -/
def k8 : Class := { plain "int" none with kind := .primitive 'I', accessFlags := 0x411 }
/-- [I -/
def k9 : Class := { plain "[I" (some 0) with kind := .array 8 .int, interfaces := #[4, 5], accessFlags := 1041 }

/-- the primitive long -/
def k10 : Class := { plain "long" none with kind := .primitive 'J', accessFlags := 0x411 }
/-- [J -/
def k11 : Class := { plain "[J" (some 0) with kind := .array 10 .long, interfaces := #[4, 5], accessFlags := 1041 }

/-- the primitive double -/
def k12 : Class := { plain "double" none with kind := .primitive 'D', accessFlags := 0x411 }
/-- [D -/
def k13 : Class := { plain "[D" (some 0) with kind := .array 12 .double, interfaces := #[4, 5], accessFlags := 1041 }

def heap : Heap := #[]
def classes : Array Class := #[k0, k1, k2, k3, k4, k5, k6, k7, k8, k9, k10, k11, k12, k13]
def interned : List (Array UInt16 × Addr) := []
def slotsUsed : Nat := 0
def theMethod : MethodId := ⟨1, 2⟩
def args0 : Array Value := #[.int 5, .int 7, .int 100, .int 3, .int 4, .int 9]
def aboutOver (below : List Frame) : State where
  vm := { classes := classes, interned := interned.toArray }
  heap := heap
  slotsUsed := slotsUsed
  threads := #[{ frames := .invoking theMethod args0 :: below }]
def below0 : List Frame := [.native { method := ⟨0, 0⟩, args := #[] }]
def about1 : State := aboutOver below0
def p0 : Program := .bare "" "" ""
def e0 : Env := launch0.env 0 0 0
theorem w_frames : about1.frames = Frame.invoking theMethod args0 :: below0 := rfl
set_option maxRecDepth 65536 in
theorem w_args : argsFit about1.vm theMethod args0 = true := by decide +kernel
set_option maxRecDepth 65536 in
theorem w_heap : heapFits about1 = true := by decide +kernel
set_option maxRecDepth 65536 in
theorem w_runnable : about1.curStatus? = some .runnable := by decide +kernel
set_option maxRecDepth 65536 in
theorem w_alone : about1.alone = true := by decide +kernel
set_option maxRecDepth 65536 in
theorem w_named : about1.methodNamed? x = some theMethod := by decide +kernel
set_option maxRecDepth 65536 in
theorem w_hears : about1.hears theMethod below0 = true := by decide +kernel
set_option maxRecDepth 65536 in
theorem w_ripe : about1.ripe theMethod args0 below0 = true := by decide +kernel
theorem w_running : about1.status = .running := rfl
set_option maxRecDepth 65536 in
theorem w_room : about1.hasRoom e0.platform room_1 = true :=
  launch0.hasRoom_least _ room_1 (by decide +kernel) (by decide +kernel) (by decide +kernel) (by decide +kernel) (by decide +kernel) (by decide +kernel)
theorem allAtoms_all (ts : List Jvm.Cond) (a : Array Jvm.Value) (st : Jvm.State) : (allAtoms ts).before a st = ts.all (fun c => c.before a st) := by
  induction ts with
  | nil => rfl
  | cons c t ih =>
    show (Jvm.Cond.and c (allAtoms t)).before a st = _
    rw [Jvm.Cond.before_and, ih, List.all_cons]
def words1 : List Jvm.Cond := Jvm.Cond.code x code maxLocals ret :: tables_1
/-- a 'code' word, met by the world's own term for the bytes: nothing is compared byte by byte -/
theorem code_word {y : MethodName} {bytes : ByteArray} {mx : Nat} {rt : Option FieldType} {a : Array Value} {s : State} {m : MethodId} {meth : Method} {c : Code} (h1 : s.methodNamed? y = some m) (h2 : s.vm.method? m = some meth) (h3 : meth.code = some c) (h4 : c.code = bytes)
    (h5 : (c.maxLocals == mx && c.exceptionTable.isEmpty && decide (c.maxStack ≤ mostOperands) && decide (meth.sig.returnType = rt) && !meth.locks && decide (parseMethodDescriptor y.desc = some meth.sig)) = true) : (Jvm.Cond.code y bytes mx rt).before a s = true := by
  simp only [Bool.and_eq_true, beq_iff_eq, Bool.not_eq_true', decide_eq_true_eq] at h5
  obtain ⟨⟨⟨⟨⟨g1, g2⟩, g3⟩, g4⟩, g5⟩, g6⟩ := h5
  simp [Cond.before, Cond.holds, Cond.value, h1, h2, h3, h4, g1, g2, g3, g4, g5, g6]
def isCode : Jvm.Cond → Bool
  | .code _ _ _ _ => true
  | _ => false
theorem all_split {L : List Jvm.Cond} {P : Jvm.Cond → Bool} (h1 : L.all (fun c => isCode c || P c) = true) (h2 : ∀ c ∈ L.filter isCode, P c = true) : L.all P = true := by
  refine List.all_eq_true.mpr fun c hc => ?_
  have h := List.all_eq_true.mp h1 c hc
  rcases Bool.eq_false_or_eq_true (isCode c) with hi | hi
  · exact h2 c (List.mem_filter.mpr ⟨hc, hi⟩)
  · simpa [hi] using h
set_option maxRecDepth 65536 in
theorem w_c0 : (Jvm.Cond.code x code maxLocals ret).before args0 about1 = true := code_word (m := ⟨1, 2⟩) (meth := k1m2) (c := k1c2) (by decide +kernel) rfl rfl rfl (by decide +kernel)
set_option maxRecDepth 65536 in
theorem w_c1 : (Jvm.Cond.code ({ cls := "java/lang/Math", name := "min", desc := "(II)I" } : Jvm.MethodName) jdk_29_method_69_code (2 : Nat) (Option.some Jvm.ClassFile.FieldType.int)).before args0 about1 = true := code_word (m := ⟨2, 2⟩) (meth := k2m2) (c := k2c2) (by decide +kernel) rfl rfl rfl (by decide +kernel)
set_option maxRecDepth 65536 in
theorem w_c2 : (Jvm.Cond.code ({ cls := "java/lang/Math", name := "max", desc := "(II)I" } : Jvm.MethodName) jdk_29_method_65_code (2 : Nat) (Option.some Jvm.ClassFile.FieldType.int)).before args0 about1 = true := code_word (m := ⟨2, 1⟩) (meth := k2m1) (c := k2c1) (by decide +kernel) rfl rfl rfl (by decide +kernel)
set_option maxRecDepth 65536 in
theorem w_c3 : (Jvm.Cond.code ({ cls := "com/example/tallyrank/tallyrank/search/ScoreWindows", name := "<init>", desc := "()V" } : Jvm.MethodName) prog_174_method_1_code (1 : Nat) (Option.none : Option Jvm.ClassFile.FieldType)).before args0 about1 = true := code_word (m := ⟨3, 0⟩) (meth := k3m0) (c := k3c0) (by decide +kernel) rfl rfl rfl (by decide +kernel)
set_option maxRecDepth 65536 in
theorem w_c4 : (Jvm.Cond.code ({ cls := "java/lang/Object", name := "<init>", desc := "()V" } : Jvm.MethodName) object_method_1_code (1 : Nat) (Option.none : Option Jvm.ClassFile.FieldType)).before args0 about1 = true := code_word (m := ⟨0, 0⟩) (meth := k0m0) (c := k0c0) (by decide +kernel) rfl rfl rfl (by decide +kernel)
set_option maxRecDepth 65536 in
theorem w_c5 : (Jvm.Cond.code ({ cls := "com/example/tallyrank/tallyrank/search/ScoreWindows", name := "markScored", desc := "([IIIII)I" } : Jvm.MethodName) prog_174_method_22_code (8 : Nat) (Option.some Jvm.ClassFile.FieldType.int)).before args0 about1 = true := code_word (m := ⟨3, 2⟩) (meth := k3m2) (c := k3c2) (by decide +kernel) rfl rfl rfl (by decide +kernel)
set_option maxRecDepth 65536 in
theorem w_c6 : (Jvm.Cond.code ({ cls := "com/example/tallyrank/tallyrank/search/ScoreWindowsAnyScoredPinLaw", name := "in", desc := "(III)Z" } : Jvm.MethodName) method_2_code (3 : Nat) (Option.some Jvm.ClassFile.FieldType.boolean)).before args0 about1 = true := code_word (m := ⟨1, 1⟩) (meth := k1m1) (c := k1c1) (by decide +kernel) rfl rfl rfl (by decide +kernel)
set_option maxRecDepth 65536 in
theorem w_c7 : (Jvm.Cond.code ({ cls := "com/example/tallyrank/tallyrank/search/ScoreWindows", name := "anyScored", desc := "(II)Z" } : Jvm.MethodName) prog_174_method_20_code (11 : Nat) (Option.some Jvm.ClassFile.FieldType.boolean)).before args0 about1 = true := code_word (m := ⟨3, 1⟩) (meth := k3m1) (c := k3c1) (by decide +kernel) rfl rfl rfl (by decide +kernel)
def codes1 : List Jvm.Cond := [Jvm.Cond.code x code maxLocals ret, Jvm.Cond.code ({ cls := "java/lang/Math", name := "min", desc := "(II)I" } : Jvm.MethodName) jdk_29_method_69_code (2 : Nat) (Option.some Jvm.ClassFile.FieldType.int), Jvm.Cond.code ({ cls := "java/lang/Math", name := "max", desc := "(II)I" } : Jvm.MethodName) jdk_29_method_65_code (2 : Nat) (Option.some Jvm.ClassFile.FieldType.int), Jvm.Cond.code ({ cls := "com/example/tallyrank/tallyrank/search/ScoreWindows", name := "<init>", desc := "()V" } : Jvm.MethodName) prog_174_method_1_code (1 : Nat) (Option.none : Option Jvm.ClassFile.FieldType), Jvm.Cond.code ({ cls := "java/lang/Object", name := "<init>", desc := "()V" } : Jvm.MethodName) object_method_1_code (1 : Nat) (Option.none : Option Jvm.ClassFile.FieldType), Jvm.Cond.code ({ cls := "com/example/tallyrank/tallyrank/search/ScoreWindows", name := "markScored", desc := "([IIIII)I" } : Jvm.MethodName) prog_174_method_22_code (8 : Nat) (Option.some Jvm.ClassFile.FieldType.int), Jvm.Cond.code ({ cls := "com/example/tallyrank/tallyrank/search/ScoreWindowsAnyScoredPinLaw", name := "in", desc := "(III)Z" } : Jvm.MethodName) method_2_code (3 : Nat) (Option.some Jvm.ClassFile.FieldType.boolean), Jvm.Cond.code ({ cls := "com/example/tallyrank/tallyrank/search/ScoreWindows", name := "anyScored", desc := "(II)Z" } : Jvm.MethodName) prog_174_method_20_code (11 : Nat) (Option.some Jvm.ClassFile.FieldType.boolean)]
set_option maxRecDepth 65536 in
theorem codes_eq : words1.filter isCode = codes1 := rfl
theorem w_codes : ∀ c ∈ words1.filter isCode, c.before args0 about1 = true := by
  rw [codes_eq]
  intro c hc
  simp only [codes1, List.mem_cons, List.not_mem_nil, or_false] at hc
  rcases hc with rfl | rfl | rfl | rfl | rfl | rfl | rfl | rfl
  · exact w_c0
  · exact w_c1
  · exact w_c2
  · exact w_c3
  · exact w_c4
  · exact w_c5
  · exact w_c6
  · exact w_c7
set_option maxRecDepth 65536 in
theorem w_t1 : (words1.take 24).all (fun c => isCode c || c.before args0 about1) = true := by decide +kernel
set_option maxRecDepth 65536 in
theorem w_t2 : (words1.drop 24).all (fun c => isCode c || c.before args0 about1) = true := by decide +kernel
theorem w_tables : (allAtoms (Jvm.Cond.code x code maxLocals ret :: tables_1)).before args0 about1 = true := by
  rw [allAtoms_all]
  show words1.all (fun c => c.before args0 about1) = true
  refine all_split ?_ w_codes
  rw [← List.take_append_drop 24 words1, List.all_append, w_t1, w_t2]
  rfl
set_option maxRecDepth 65536 in
theorem w_case : (Jvm.Cond.and given_1 narrow_1).before args0 about1 = true := by decide +kernel
theorem w_applies : (headSpec (Jvm.Cond.code x code maxLocals ret :: tables_1) room_1).applies x e0.platform about1 = true :=
  (Spec.applies_iff w_frames).mpr ⟨w_running, w_runnable, w_alone, w_named, w_hears, w_ripe, w_room, w_tables⟩
theorem atStart : AtStart classFile x code maxLocals ret World_1 tables_1 room_1 Calls_1 rest_1 Pre_1 launch0 p0 e0 about1 theMethod args0 below0 :=
  ⟨lists_1, trivial, launch0.admits_env _ _ _, launch0.least_env, fairChoices_fair.cas, fairChoices_fair.clock, w_frames, w_args, w_heap, w_applies, trivial, trivial, w_case⟩
end start1
theorem witness_1 : WitnessClaimed_1 := ⟨start1.p0, start1.e0, start1.about1, start1.theMethod, start1.args0, start1.below0, start1.atStart⟩
end Jvm.Pilot.@@N@@
