import JvmDerived
import JvmDerived.Pilot.@@N@@Statement
import JvmDerived.Pilot.@@N@@Code
set_option linter.unusedVariables false
set_option linter.unusedSimpArgs false
namespace Jvm.Pilot.@@N@@
open Jvm Jvm.ClassFile Sem Op Lib Jvm.Free Jvm.Stand Jvm.LawKit Jvm.RoadKit Bundle Jvm.Pilot.@@N@@.Jvm.D
section OwnKit
variable {p : Program} {l : Launch} {e : Env} {R : Room} {s : State} {m : MethodId} {args : Array Value} {below : List Frame} {meth : Method} {c : Code} {T : State} {locs : List Loc} {cells slots : Nat} {P : State → Outcome → Prop} {Z : State} {a0 : Array Value} {h : Heap} {pc : Nat} {Ls : Array Slot} {st : List Value}
def Goes (p : Program) (e : Env) (below : List Frame) (S : State) (P : State → Outcome → Prop) : Prop := ∃ (U : State) (o : Outcome), Steps p.tables e below S U ∧ U.status = .running ∧ Ended U below o ∧ P U o
def Endz (s : State) (kc ks : Nat) (Q : Option Value → Heap → List Loc → Prop) (U : State) (o : Outcome) : Prop := ∃ v L, o = .returned v ∧ Q v U.heap L ∧ FrameEnd s o U L kc ks
theorem go {S S' : State} (hs : ∀ t, Steps p.tables e below S' t → Steps p.tables e below S t) (k : Goes p e below S' P) : Goes p e below S P := by
  obtain ⟨U, o, k1, k2⟩ := k
  exact ⟨U, o, hs U k1, k2⟩
theorem goT {S S' : State} (hs : Steps p.tables e below S S') (k : Goes p e below S' P) : Goes p e below S P := by
  obtain ⟨U, o, k1, k2⟩ := k
  exact ⟨U, o, hs.trans k1, k2⟩
theorem own_cast {g g' : JFrame} (q : g = g') (k : Goes p e below (T.setTop g') P) : Goes p e below (T.setTop g) P := q ▸ k
abbrev OwnMet (l : Launch) (Z : State) (y : MethodName) (bytes : ByteArray) (maxL : Nat) (ret : Option FieldType) (ws : List Jvm.Cond) (rm : Room) (as' : Array Value) (h : Heap) (Q : Option Value → Heap → List Loc → Prop) : Prop := MetFree l y (head1 (Jvm.Cond.code y bytes maxL ret :: ws) rm) (fun a U => a = as' ∧ Z.Warmed39 U.vm ∧ U.heap = h) (fun _ _ _ _ _ => True) (fun _ U o U' => ∃ v L, o = .returned v ∧ Q v U'.heap L ∧ FrameEnd U o U' L rm.cells rm.slots)
theorem own_body {y : MethodName} {bytes : ByteArray} {maxL : Nat} {ret : Option FieldType} {ws : List Jvm.Cond} {rm : Room} {as' : Array Value} {Q : Option Value → Heap → List Loc → Prop} (hpn : plainFor y = true)
    (B : ∀ (p : Program) (e : Env) (s : State) (m : MethodId) (below : List Frame) (meth : Method) (c : Code) (s₁ : State), p.tables.exec = Jvm.exec → c.code = bytes → c.maxLocals = maxL → s.vm.findClass y.cls = some m.cls → meth.name = y.name → meth.sig.returnType = ret → meth.locks = false → Z.Warmed39 s.vm → Stand p l e rm s m as' below meth c s₁ [] 0 0 → s₁.heap = h → Goes p e below (s₁.setTop (entryFrame m as' maxL)) (Endz s rm.cells rm.slots Q)) : OwnMet l Z y bytes maxL ret ws rm as' h Q := by
  refine MetFree.of_bodySF hpn hisR ?_
  intro p e s m args below meth c s₁ Bd hml0 hP hK
  obtain ⟨rfl, hZ, hh⟩ := hP
  exact B p e s m below meth c s₁ Bd.exec Bd.bytes hml0 (findClass_of_methodNamed Bd.named) (name_of_methodNamed Bd.named Bd.method).1 Bd.returns (BodyLoose.notSynchronized Bd) hZ (Stand.of_body Bd) (by rw [← hh, Bd.state]; rfl)
theorem g_ret {w : Value} {t : FieldType} {i : Instr} {kc ks : Nat} {Q : Option Value → Heap → List Loc → Prop} (X : Stand p l e R s m args below meth c T locs cells slots) (hx : p.tables.exec = Jvm.exec) (hret : meth.sig.returnType = some t) (hlk : meth.locks = false) (hn : narrow t w = w)
    (hi : (i = .ireturn ∧ (t = .int ∨ t = .boolean ∨ t = .byte ∨ t = .char ∨ t = .short) ∧ ∃ z, w = .int z) ∨ (i = .lreturn ∧ t = .long ∧ ∃ z, w = .long z) ∨ (i = .dreturn ∧ t = .double ∧ ∃ z, w = .double z) ∨ (i = .freturn ∧ t = .float ∧ ∃ z, w = .float z) ∨ (i = .areturn ∧ t.isReference = true ∧ w.isRef = true))
    (hd : decode c.code pc = .ok (i, 1)) (hQ : Q (some w) T.heap locs) (hc : cells ≤ kc) (hs : slots ≤ ks) : Goes p e below (T.setTop (mkF m pc Ls (w :: st))) (Endz s kc ks Q) := by
  obtain ⟨fs, hr, hrun, hended, hW, hsame⟩ := X.leave (v := some w) (fun h => by rw [hret] at h; cases h) hlk
  exact ⟨_, _, retOut X hx hret hn hi hd hr, hrun, hended, _, _, rfl, hQ, ⟨_, rfl⟩, hW, hsame.mono hc hs⟩
theorem g_retI {z : Int32} {kc ks : Nat} {Q : Option Value → Heap → List Loc → Prop} (X : Stand p l e R s m args below meth c T locs cells slots) (hx : p.tables.exec = Jvm.exec) (hret : meth.sig.returnType = some .int) (hlk : meth.locks = false) (hd : decode c.code pc = .ok (.ireturn, 1)) (hQ : Q (some (.int z)) T.heap locs) (hc : cells ≤ kc) (hs : slots ≤ ks) : Goes p e below (T.setTop (mkF m pc Ls (.int z :: st))) (Endz s kc ks Q) :=
  g_ret X hx hret hlk rfl (Or.inl ⟨rfl, Or.inl rfl, z, rfl⟩) hd hQ hc hs
theorem g_retZ {z : Int32} {kc ks : Nat} {Q : Option Value → Heap → List Loc → Prop} (X : Stand p l e R s m args below meth c T locs cells slots) (hx : p.tables.exec = Jvm.exec) (hret : meth.sig.returnType = some .boolean) (hlk : meth.locks = false) (hn : narrow .boolean (.int z) = .int z) (hd : decode c.code pc = .ok (.ireturn, 1)) (hQ : Q (some (.int z)) T.heap locs) (hc : cells ≤ kc) (hs : slots ≤ ks) : Goes p e below (T.setTop (mkF m pc Ls (.int z :: st))) (Endz s kc ks Q) :=
  g_ret X hx hret hlk hn (Or.inl ⟨rfl, Or.inr (Or.inl rfl), z, rfl⟩) hd hQ hc hs
theorem g_retJ {z : Int64} {kc ks : Nat} {Q : Option Value → Heap → List Loc → Prop} (X : Stand p l e R s m args below meth c T locs cells slots) (hx : p.tables.exec = Jvm.exec) (hret : meth.sig.returnType = some .long) (hlk : meth.locks = false) (hd : decode c.code pc = .ok (.lreturn, 1)) (hQ : Q (some (.long z)) T.heap locs) (hc : cells ≤ kc) (hs : slots ≤ ks) : Goes p e below (T.setTop (mkF m pc Ls (.long z :: st))) (Endz s kc ks Q) :=
  g_ret X hx hret hlk rfl (Or.inr (Or.inl ⟨rfl, rfl, z, rfl⟩)) hd hQ hc hs
theorem g_retA {w : Value} {t : FieldType} {kc ks : Nat} {Q : Option Value → Heap → List Loc → Prop} (X : Stand p l e R s m args below meth c T locs cells slots) (hx : p.tables.exec = Jvm.exec) (hret : meth.sig.returnType = some t) (hlk : meth.locks = false) (hn : narrow t w = w) (ht : t.isReference = true) (hw : w.isRef = true) (hd : decode c.code pc = .ok (.areturn, 1)) (hQ : Q (some w) T.heap locs) (hc : cells ≤ kc) (hs : slots ≤ ks) : Goes p e below (T.setTop (mkF m pc Ls (w :: st))) (Endz s kc ks Q) :=
  g_ret X hx hret hlk hn (Or.inr (Or.inr (Or.inr (Or.inr ⟨rfl, ht, hw⟩)))) hd hQ hc hs
theorem g_ret0 {kc ks : Nat} {Q : Option Value → Heap → List Loc → Prop} (X : Stand p l e R s m args below meth c T locs cells slots) (hx : p.tables.exec = Jvm.exec) (hret : meth.sig.returnType = none) (hlk : meth.locks = false) (hd : decode c.code pc = .ok (.return_, 1)) (hQ : Q none T.heap locs) (hc : cells ≤ kc) (hs : slots ≤ ks) : Goes p e below (T.setTop (mkF m pc Ls [])) (Endz s kc ks Q) := by
  obtain ⟨fs, hr, hrun, hended, hW, hsame⟩ := X.leave (v := none) (fun _ => rfl) hlk
  exact ⟨_, _, X.returnOut hx hret hd hr, hrun, hended, _, _, rfl, hQ, ⟨_, rfl⟩, hW, hsame.mono hc hs⟩
theorem g_iadd (X : Stand p l e R s m args below meth c T locs cells slots) (hx : p.tables.exec = Jvm.exec) (pc' : Nat) (hpc : pc + 1 = pc') {x y : Int32} (hd : decode c.code pc = .ok (.iadd, 1))  (K : Goes p e below (T.setTop (mkF m pc' Ls (.int (x + y) :: st))) P) : Goes p e below (T.setTop (mkF m pc Ls (.int y :: .int x :: st))) P := by
  subst hpc; exact go (fun _ q => XS.iadd X.here hx rfl hd rfl q) K
theorem g_isub (X : Stand p l e R s m args below meth c T locs cells slots) (hx : p.tables.exec = Jvm.exec) (pc' : Nat) (hpc : pc + 1 = pc') {x y : Int32} (hd : decode c.code pc = .ok (.isub, 1))  (K : Goes p e below (T.setTop (mkF m pc' Ls (.int (x - y) :: st))) P) : Goes p e below (T.setTop (mkF m pc Ls (.int y :: .int x :: st))) P := by
  subst hpc; exact go (fun _ q => XS.isub X.here hx rfl hd rfl q) K
theorem g_imul (X : Stand p l e R s m args below meth c T locs cells slots) (hx : p.tables.exec = Jvm.exec) (pc' : Nat) (hpc : pc + 1 = pc') {x y : Int32} (hd : decode c.code pc = .ok (.imul, 1))  (K : Goes p e below (T.setTop (mkF m pc' Ls (.int (x * y) :: st))) P) : Goes p e below (T.setTop (mkF m pc Ls (.int y :: .int x :: st))) P := by
  subst hpc; exact go (fun _ q => XS.imul X.here hx rfl hd rfl q) K
theorem g_iand (X : Stand p l e R s m args below meth c T locs cells slots) (hx : p.tables.exec = Jvm.exec) (pc' : Nat) (hpc : pc + 1 = pc') {x y : Int32} (hd : decode c.code pc = .ok (.iand, 1))  (K : Goes p e below (T.setTop (mkF m pc' Ls (.int (x &&& y) :: st))) P) : Goes p e below (T.setTop (mkF m pc Ls (.int y :: .int x :: st))) P := by
  subst hpc; exact go (fun _ q => XS.iand X.here hx rfl hd rfl q) K
theorem g_ior (X : Stand p l e R s m args below meth c T locs cells slots) (hx : p.tables.exec = Jvm.exec) (pc' : Nat) (hpc : pc + 1 = pc') {x y : Int32} (hd : decode c.code pc = .ok (.ior, 1))  (K : Goes p e below (T.setTop (mkF m pc' Ls (.int (x ||| y) :: st))) P) : Goes p e below (T.setTop (mkF m pc Ls (.int y :: .int x :: st))) P := by
  subst hpc; exact go (fun _ q => XT.ior X.here hx rfl hd rfl q) K
theorem g_ixor (X : Stand p l e R s m args below meth c T locs cells slots) (hx : p.tables.exec = Jvm.exec) (pc' : Nat) (hpc : pc + 1 = pc') {x y : Int32} (hd : decode c.code pc = .ok (.ixor, 1))  (K : Goes p e below (T.setTop (mkF m pc' Ls (.int (x ^^^ y) :: st))) P) : Goes p e below (T.setTop (mkF m pc Ls (.int y :: .int x :: st))) P := by
  subst hpc; exact go (fun _ q => XT.ixor X.here hx rfl hd rfl q) K
theorem g_ishl (X : Stand p l e R s m args below meth c T locs cells slots) (hx : p.tables.exec = Jvm.exec) (pc' : Nat) (hpc : pc + 1 = pc') {x y : Int32} (hd : decode c.code pc = .ok (.ishl, 1))  (K : Goes p e below (T.setTop (mkF m pc' Ls (.int (x <<< (y &&& 31)) :: st))) P) : Goes p e below (T.setTop (mkF m pc Ls (.int y :: .int x :: st))) P := by
  subst hpc; exact go (fun _ q => XT.ishl X.here hx rfl hd rfl q) K
theorem g_ishr (X : Stand p l e R s m args below meth c T locs cells slots) (hx : p.tables.exec = Jvm.exec) (pc' : Nat) (hpc : pc + 1 = pc') {x y : Int32} (hd : decode c.code pc = .ok (.ishr, 1))  (K : Goes p e below (T.setTop (mkF m pc' Ls (.int (x >>> (y &&& 31)) :: st))) P) : Goes p e below (T.setTop (mkF m pc Ls (.int y :: .int x :: st))) P := by
  subst hpc; exact go (fun _ q => XT.ishr X.here hx rfl hd rfl q) K
theorem g_iushr (X : Stand p l e R s m args below meth c T locs cells slots) (hx : p.tables.exec = Jvm.exec) (pc' : Nat) (hpc : pc + 1 = pc') {x y : Int32} (hd : decode c.code pc = .ok (.iushr, 1))  (K : Goes p e below (T.setTop (mkF m pc' Ls (.int (XT.ushr x y) :: st))) P) : Goes p e below (T.setTop (mkF m pc Ls (.int y :: .int x :: st))) P := by
  subst hpc; exact go (fun _ q => XT.iushr X.here hx rfl hd rfl q) K
theorem g_idiv (X : Stand p l e R s m args below meth c T locs cells slots) (hx : p.tables.exec = Jvm.exec) (pc' : Nat) (hpc : pc + 1 = pc') {x y : Int32} (hd : decode c.code pc = .ok (.idiv, 1)) (hy : y ≠ 0) (K : Goes p e below (T.setTop (mkF m pc' Ls (.int (x / y) :: st))) P) : Goes p e below (T.setTop (mkF m pc Ls (.int y :: .int x :: st))) P := by
  subst hpc; exact go (fun _ q => XS.idiv X.here hx rfl hd rfl hy q) K
theorem g_irem (X : Stand p l e R s m args below meth c T locs cells slots) (hx : p.tables.exec = Jvm.exec) (pc' : Nat) (hpc : pc + 1 = pc') {x y : Int32} (hd : decode c.code pc = .ok (.irem, 1)) (hy : y ≠ 0) (K : Goes p e below (T.setTop (mkF m pc' Ls (.int (x % y) :: st))) P) : Goes p e below (T.setTop (mkF m pc Ls (.int y :: .int x :: st))) P := by
  subst hpc; exact go (fun _ q => iremM X hx rfl hd rfl hy q) K
theorem g_ineg (X : Stand p l e R s m args below meth c T locs cells slots) (hx : p.tables.exec = Jvm.exec) (pc' : Nat) (hpc : pc + 1 = pc') {x : Int32} (hd : decode c.code pc = .ok (.ineg, 1))  (K : Goes p e below (T.setTop (mkF m pc' Ls (.int (-x) :: st))) P) : Goes p e below (T.setTop (mkF m pc Ls (.int x :: st))) P := by
  subst hpc; exact go (fun _ q => XS.ineg X.here hx rfl hd rfl q) K
theorem g_ladd (X : Stand p l e R s m args below meth c T locs cells slots) (hx : p.tables.exec = Jvm.exec) (pc' : Nat) (hpc : pc + 1 = pc') {x y : Int64} (hd : decode c.code pc = .ok (.ladd, 1))  (K : Goes p e below (T.setTop (mkF m pc' Ls (.long (x + y) :: st))) P) : Goes p e below (T.setTop (mkF m pc Ls (.long y :: .long x :: st))) P := by
  subst hpc; exact go (fun _ q => XT.ladd X.here hx rfl hd rfl q) K
theorem g_lsub (X : Stand p l e R s m args below meth c T locs cells slots) (hx : p.tables.exec = Jvm.exec) (pc' : Nat) (hpc : pc + 1 = pc') {x y : Int64} (hd : decode c.code pc = .ok (.lsub, 1))  (K : Goes p e below (T.setTop (mkF m pc' Ls (.long (x - y) :: st))) P) : Goes p e below (T.setTop (mkF m pc Ls (.long y :: .long x :: st))) P := by
  subst hpc; exact go (fun _ q => XT.lsub X.here hx rfl hd rfl q) K
theorem g_lmul (X : Stand p l e R s m args below meth c T locs cells slots) (hx : p.tables.exec = Jvm.exec) (pc' : Nat) (hpc : pc + 1 = pc') {x y : Int64} (hd : decode c.code pc = .ok (.lmul, 1))  (K : Goes p e below (T.setTop (mkF m pc' Ls (.long (x * y) :: st))) P) : Goes p e below (T.setTop (mkF m pc Ls (.long y :: .long x :: st))) P := by
  subst hpc; exact go (fun _ q => XT.lmul X.here hx rfl hd rfl q) K
theorem g_land (X : Stand p l e R s m args below meth c T locs cells slots) (hx : p.tables.exec = Jvm.exec) (pc' : Nat) (hpc : pc + 1 = pc') {x y : Int64} (hd : decode c.code pc = .ok (.land, 1))  (K : Goes p e below (T.setTop (mkF m pc' Ls (.long (x &&& y) :: st))) P) : Goes p e below (T.setTop (mkF m pc Ls (.long y :: .long x :: st))) P := by
  subst hpc; exact go (fun _ q => XT.land X.here hx rfl hd rfl q) K
theorem g_lor (X : Stand p l e R s m args below meth c T locs cells slots) (hx : p.tables.exec = Jvm.exec) (pc' : Nat) (hpc : pc + 1 = pc') {x y : Int64} (hd : decode c.code pc = .ok (.lor, 1))  (K : Goes p e below (T.setTop (mkF m pc' Ls (.long (x ||| y) :: st))) P) : Goes p e below (T.setTop (mkF m pc Ls (.long y :: .long x :: st))) P := by
  subst hpc; exact go (fun _ q => XT.lor X.here hx rfl hd rfl q) K
theorem g_lxor (X : Stand p l e R s m args below meth c T locs cells slots) (hx : p.tables.exec = Jvm.exec) (pc' : Nat) (hpc : pc + 1 = pc') {x y : Int64} (hd : decode c.code pc = .ok (.lxor, 1))  (K : Goes p e below (T.setTop (mkF m pc' Ls (.long (x ^^^ y) :: st))) P) : Goes p e below (T.setTop (mkF m pc Ls (.long y :: .long x :: st))) P := by
  subst hpc; exact go (fun _ q => XT.lxor X.here hx rfl hd rfl q) K
theorem g_lshl (X : Stand p l e R s m args below meth c T locs cells slots) (hx : p.tables.exec = Jvm.exec) (pc' : Nat) (hpc : pc + 1 = pc') {x : Int64} {y : Int32} (hd : decode c.code pc = .ok (.lshl, 1))  (K : Goes p e below (T.setTop (mkF m pc' Ls (.long (x <<< (y.toInt64 &&& 63)) :: st))) P) : Goes p e below (T.setTop (mkF m pc Ls (.int y :: .long x :: st))) P := by
  subst hpc; exact go (fun _ q => XT.lshl X.here hx rfl hd rfl q) K
theorem g_lshr (X : Stand p l e R s m args below meth c T locs cells slots) (hx : p.tables.exec = Jvm.exec) (pc' : Nat) (hpc : pc + 1 = pc') {x : Int64} {y : Int32} (hd : decode c.code pc = .ok (.lshr, 1))  (K : Goes p e below (T.setTop (mkF m pc' Ls (.long (x >>> (y.toInt64 &&& 63)) :: st))) P) : Goes p e below (T.setTop (mkF m pc Ls (.int y :: .long x :: st))) P := by
  subst hpc; exact go (fun _ q => XT.lshr X.here hx rfl hd rfl q) K
theorem g_lushr (X : Stand p l e R s m args below meth c T locs cells slots) (hx : p.tables.exec = Jvm.exec) (pc' : Nat) (hpc : pc + 1 = pc') {x : Int64} {y : Int32} (hd : decode c.code pc = .ok (.lushr, 1))  (K : Goes p e below (T.setTop (mkF m pc' Ls (.long (XT.ushrL x y) :: st))) P) : Goes p e below (T.setTop (mkF m pc Ls (.int y :: .long x :: st))) P := by
  subst hpc; exact go (fun _ q => XT.lushr X.here hx rfl hd rfl q) K
theorem g_ldiv (X : Stand p l e R s m args below meth c T locs cells slots) (hx : p.tables.exec = Jvm.exec) (pc' : Nat) (hpc : pc + 1 = pc') {x y : Int64} (hd : decode c.code pc = .ok (.ldiv, 1)) (hy : y ≠ 0) (K : Goes p e below (T.setTop (mkF m pc' Ls (.long (x / y) :: st))) P) : Goes p e below (T.setTop (mkF m pc Ls (.long y :: .long x :: st))) P := by
  subst hpc; exact go (fun _ q => XT.ldiv X.here hx rfl hd rfl hy q) K
theorem g_lrem (X : Stand p l e R s m args below meth c T locs cells slots) (hx : p.tables.exec = Jvm.exec) (pc' : Nat) (hpc : pc + 1 = pc') {x y : Int64} (hd : decode c.code pc = .ok (.lrem, 1)) (hy : y ≠ 0) (K : Goes p e below (T.setTop (mkF m pc' Ls (.long (x % y) :: st))) P) : Goes p e below (T.setTop (mkF m pc Ls (.long y :: .long x :: st))) P := by
  subst hpc; exact go (fun _ q => XT.lrem X.here hx rfl hd rfl hy (by rw [lrem_mod]; exact q)) K
theorem g_lneg (X : Stand p l e R s m args below meth c T locs cells slots) (hx : p.tables.exec = Jvm.exec) (pc' : Nat) (hpc : pc + 1 = pc') {x : Int64} (hd : decode c.code pc = .ok (.lneg, 1))  (K : Goes p e below (T.setTop (mkF m pc' Ls (.long (-x) :: st))) P) : Goes p e below (T.setTop (mkF m pc Ls (.long x :: st))) P := by
  subst hpc; exact go (fun _ q => XT.lneg X.here hx rfl hd rfl q) K
theorem g_i2l (X : Stand p l e R s m args below meth c T locs cells slots) (hx : p.tables.exec = Jvm.exec) (pc' : Nat) (hpc : pc + 1 = pc') {x : Int32} (hd : decode c.code pc = .ok (.i2l, 1))  (K : Goes p e below (T.setTop (mkF m pc' Ls (.long x.toInt64 :: st))) P) : Goes p e below (T.setTop (mkF m pc Ls (.int x :: st))) P := by
  subst hpc; exact go (fun _ q => XT.i2l X.here hx rfl hd rfl q) K
theorem g_l2i (X : Stand p l e R s m args below meth c T locs cells slots) (hx : p.tables.exec = Jvm.exec) (pc' : Nat) (hpc : pc + 1 = pc') {x : Int64} (hd : decode c.code pc = .ok (.l2i, 1))  (K : Goes p e below (T.setTop (mkF m pc' Ls (.int x.toInt32 :: st))) P) : Goes p e below (T.setTop (mkF m pc Ls (.long x :: st))) P := by
  subst hpc; exact go (fun _ q => XT.l2i X.here hx rfl hd rfl q) K
theorem g_i2b (X : Stand p l e R s m args below meth c T locs cells slots) (hx : p.tables.exec = Jvm.exec) (pc' : Nat) (hpc : pc + 1 = pc') {x : Int32} (hd : decode c.code pc = .ok (.i2b, 1))  (K : Goes p e below (T.setTop (mkF m pc' Ls (.int x.toInt8.toInt32 :: st))) P) : Goes p e below (T.setTop (mkF m pc Ls (.int x :: st))) P := by
  subst hpc; exact go (fun _ q => XT.i2b X.here hx rfl hd rfl q) K
theorem g_i2c (X : Stand p l e R s m args below meth c T locs cells slots) (hx : p.tables.exec = Jvm.exec) (pc' : Nat) (hpc : pc + 1 = pc') {x : Int32} (hd : decode c.code pc = .ok (.i2c, 1))  (K : Goes p e below (T.setTop (mkF m pc' Ls (.int x.toUInt32.toUInt16.toUInt32.toInt32 :: st))) P) : Goes p e below (T.setTop (mkF m pc Ls (.int x :: st))) P := by
  subst hpc; exact go (fun _ q => XT.i2c X.here hx rfl hd rfl q) K
theorem g_i2s (X : Stand p l e R s m args below meth c T locs cells slots) (hx : p.tables.exec = Jvm.exec) (pc' : Nat) (hpc : pc + 1 = pc') {x : Int32} (hd : decode c.code pc = .ok (.i2s, 1))  (K : Goes p e below (T.setTop (mkF m pc' Ls (.int x.toInt16.toInt32 :: st))) P) : Goes p e below (T.setTop (mkF m pc Ls (.int x :: st))) P := by
  subst hpc; exact go (fun _ q => XT.i2s X.here hx rfl hd rfl q) K
theorem g_lcmp (X : Stand p l e R s m args below meth c T locs cells slots) (hx : p.tables.exec = Jvm.exec) (pc' : Nat) (hpc : pc + 1 = pc') {x y : Int64} (hd : decode c.code pc = .ok (.lcmp, 1))  (K : Goes p e below (T.setTop (mkF m pc' Ls (.int (XT.cmpL x y) :: st))) P) : Goes p e below (T.setTop (mkF m pc Ls (.long y :: .long x :: st))) P := by
  subst hpc; exact go (fun _ q => XT.lcmp X.here hx rfl hd rfl q) K
theorem g_dup (X : Stand p l e R s m args below meth c T locs cells slots) (hx : p.tables.exec = Jvm.exec) (pc' : Nat) (hpc : pc + 1 = pc') {x : Value} (hd : decode c.code pc = .ok (.dup, 1)) (hc : x.category = 1) (K : Goes p e below (T.setTop (mkF m pc' Ls (x :: x :: st))) P) : Goes p e below (T.setTop (mkF m pc Ls (x :: st))) P := by
  subst hpc; exact go (fun _ q => XS.dup X.here hx rfl hd rfl hc q) K
theorem g_pop (X : Stand p l e R s m args below meth c T locs cells slots) (hx : p.tables.exec = Jvm.exec) (pc' : Nat) (hpc : pc + 1 = pc') {x : Value} (hd : decode c.code pc = .ok (.pop, 1)) (hc : x.category = 1) (K : Goes p e below (T.setTop (mkF m pc' Ls (st))) P) : Goes p e below (T.setTop (mkF m pc Ls (x :: st))) P := by
  subst hpc; exact go (fun _ q => XT.pop X.here hx rfl hd rfl hc q) K
theorem g_dup_x1 (X : Stand p l e R s m args below meth c T locs cells slots) (hx : p.tables.exec = Jvm.exec) (pc' : Nat) (hpc : pc + 1 = pc') {x y : Value} (hd : decode c.code pc = .ok (.dup_x1, 1)) (hc : x.category = 1) (hc' : y.category = 1) (K : Goes p e below (T.setTop (mkF m pc' Ls (x :: y :: x :: st))) P) : Goes p e below (T.setTop (mkF m pc Ls (x :: y :: st))) P := by
  subst hpc; exact go (fun _ q => XT.dupX1 X.here hx rfl hd rfl hc hc' q) K
theorem g_dup2 (X : Stand p l e R s m args below meth c T locs cells slots) (hx : p.tables.exec = Jvm.exec) (pc' : Nat) (hpc : pc + 1 = pc') {x y : Value} (hd : decode c.code pc = .ok (.dup2, 1)) (hc : x.category = 1) (hc' : y.category = 1) (K : Goes p e below (T.setTop (mkF m pc' Ls (x :: y :: x :: y :: st))) P) : Goes p e below (T.setTop (mkF m pc Ls (x :: y :: st))) P := by
  subst hpc; exact go (fun _ q => XT.dup2 X.here hx rfl hd rfl hc hc' q) K
theorem g_dup2L (X : Stand p l e R s m args below meth c T locs cells slots) (hx : p.tables.exec = Jvm.exec) (pc' : Nat) (hpc : pc + 1 = pc') {x : Int64} (hd : decode c.code pc = .ok (.dup2, 1))  (K : Goes p e below (T.setTop (mkF m pc' Ls (.long x :: .long x :: st))) P) : Goes p e below (T.setTop (mkF m pc Ls (.long x :: st))) P := by
  subst hpc; exact go (fun _ q => XT.dup2L X.here hx rfl hd rfl q) K
theorem g_iconst (X : Stand p l e R s m args below meth c T locs cells slots) (hx : p.tables.exec = Jvm.exec) (pc' : Nat) (hpc : pc + 1 = pc') {i : Int} (v : Int32) (hv : Int32.ofInt i = v) (hd : decode c.code pc = .ok (.iconst i, 1))  (K : Goes p e below (T.setTop (mkF m pc' Ls (.int v :: st))) P) : Goes p e below (T.setTop (mkF m pc Ls (st))) P := by
  subst hpc; exact go (fun _ q => XS.iconst X.here hx rfl hd (by rw [hv]; exact q)) K
theorem g_bipush (X : Stand p l e R s m args below meth c T locs cells slots) (hx : p.tables.exec = Jvm.exec) (pc' : Nat) (hpc : pc + 2 = pc') {i : Int} (v : Int32) (hv : (Int8.ofInt i).toInt32 = v) (hd : decode c.code pc = .ok (.bipush i, 2))  (K : Goes p e below (T.setTop (mkF m pc' Ls (.int v :: st))) P) : Goes p e below (T.setTop (mkF m pc Ls (st))) P := by
  subst hpc; exact go (fun _ q => XS.bipush X.here hx rfl hd (by rw [hv]; exact q)) K
theorem g_sipush (X : Stand p l e R s m args below meth c T locs cells slots) (hx : p.tables.exec = Jvm.exec) (pc' : Nat) (hpc : pc + 3 = pc') {i : Int} (v : Int32) (hv : (Int16.ofInt i).toInt32 = v) (hd : decode c.code pc = .ok (.sipush i, 3))  (K : Goes p e below (T.setTop (mkF m pc' Ls (.int v :: st))) P) : Goes p e below (T.setTop (mkF m pc Ls (st))) P := by
  subst hpc; exact go (fun _ q => XS.sipush X.here hx rfl hd (by rw [hv]; exact q)) K
theorem g_lconst (X : Stand p l e R s m args below meth c T locs cells slots) (hx : p.tables.exec = Jvm.exec) (pc' : Nat) (hpc : pc + 1 = pc') {k : Fin 2} (v : Int64) (hv : Int64.ofNat k = v) (hd : decode c.code pc = .ok (.lconst k, 1))  (K : Goes p e below (T.setTop (mkF m pc' Ls (.long v :: st))) P) : Goes p e below (T.setTop (mkF m pc Ls (st))) P := by
  subst hpc; exact go (fun _ q => XT.lconst X.here hx rfl hd (by rw [hv]; exact q)) K
theorem g_aconst_null (X : Stand p l e R s m args below meth c T locs cells slots) (hx : p.tables.exec = Jvm.exec) (pc' : Nat) (hpc : pc + 1 = pc')  (hd : decode c.code pc = .ok (.aconst_null, 1))  (K : Goes p e below (T.setTop (mkF m pc' Ls (.null :: st))) P) : Goes p e below (T.setTop (mkF m pc Ls (st))) P := by
  subst hpc; exact go (fun _ q => XS.aconstNull X.here hx rfl hd q) K
theorem g_ldcI (X : Stand p l e R s m args below meth c T locs cells slots) (hx : p.tables.exec = Jvm.exec) (pc' : Nat) (hpc : pc + 2 = pc') {own : String} {index : Nat} {v : Int32} (hown : s.vm.findClass own = some m.cls) (hZ : Z.Warmed39 s.vm) (w : (Jvm.Cond.constant own index v).before a0 Z = true) (hd : decode c.code pc = .ok (.ldc index, 2))  (K : Goes p e below (T.setTop (mkF m pc' Ls (.int v :: st))) P) : Goes p e below (T.setTop (mkF m pc Ls (st))) P := by
  subst hpc; exact go (fun _ q => X.ldcInt hx hown (mvT hZ w) (g := mkF m pc Ls st) rfl hd _ q) K
theorem g_ldcJ (X : Stand p l e R s m args below meth c T locs cells slots) (hx : p.tables.exec = Jvm.exec) (pc' : Nat) (hpc : pc + 3 = pc') {own : String} {index : Nat} {v : Int64} (hown : s.vm.findClass own = some m.cls) (hZ : Z.Warmed39 s.vm) (w : (Jvm.Cond.constantLong own index v).before a0 Z = true) (hd : decode c.code pc = .ok (.ldc2_w index, 3))  (K : Goes p e below (T.setTop (mkF m pc' Ls (.long v :: st))) P) : Goes p e below (T.setTop (mkF m pc Ls (st))) P := by
  subst hpc; exact go (fun _ q => X.ldc2Long hx hown (mvT hZ w) (g := mkF m pc Ls st) rfl hd _ q) K
theorem g_iload_n (X : Stand p l e R s m args below meth c T locs cells slots) (hx : p.tables.exec = Jvm.exec) (pc' : Nat) (hpc : pc + 1 = pc') {k : Fin 4} {v : Int32} (hd : decode c.code pc = .ok (.iload_n k, 1)) (hl : Ls[k.val]? = some (.val (.int v))) (K : Goes p e below (T.setTop (mkF m pc' Ls (.int v :: st))) P) : Goes p e below (T.setTop (mkF m pc Ls (st))) P := by
  subst hpc; exact go (fun _ q => XS.iloadN X.here hx rfl hd hl q) K
theorem g_iload (X : Stand p l e R s m args below meth c T locs cells slots) (hx : p.tables.exec = Jvm.exec) (pc' : Nat) (hpc : pc + 2 = pc') {k : Nat} {v : Int32} (hd : decode c.code pc = .ok (.iload k, 2)) (hl : Ls[k]? = some (.val (.int v))) (K : Goes p e below (T.setTop (mkF m pc' Ls (.int v :: st))) P) : Goes p e below (T.setTop (mkF m pc Ls (st))) P := by
  subst hpc; exact go (fun _ q => XS.iload X.here hx rfl hd hl q) K
theorem g_lload_n (X : Stand p l e R s m args below meth c T locs cells slots) (hx : p.tables.exec = Jvm.exec) (pc' : Nat) (hpc : pc + 1 = pc') {k : Fin 4} {v : Int64} (hd : decode c.code pc = .ok (.lload_n k, 1)) (hl : Ls[k.val]? = some (.val (.long v))) (K : Goes p e below (T.setTop (mkF m pc' Ls (.long v :: st))) P) : Goes p e below (T.setTop (mkF m pc Ls (st))) P := by
  subst hpc; exact go (fun _ q => XT.lloadN X.here hx rfl hd hl q) K
theorem g_lload (X : Stand p l e R s m args below meth c T locs cells slots) (hx : p.tables.exec = Jvm.exec) (pc' : Nat) (hpc : pc + 2 = pc') {k : Nat} {v : Int64} (hd : decode c.code pc = .ok (.lload k, 2)) (hl : Ls[k]? = some (.val (.long v))) (K : Goes p e below (T.setTop (mkF m pc' Ls (.long v :: st))) P) : Goes p e below (T.setTop (mkF m pc Ls (st))) P := by
  subst hpc; exact go (fun _ q => XT.lload X.here hx rfl hd hl q) K
theorem g_aload_n (X : Stand p l e R s m args below meth c T locs cells slots) (hx : p.tables.exec = Jvm.exec) (pc' : Nat) (hpc : pc + 1 = pc') {k : Fin 4} {v : Value} (hd : decode c.code pc = .ok (.aload_n k, 1)) (hl : Ls[k.val]? = some (.val v)) (hv : v.isRef = true) (K : Goes p e below (T.setTop (mkF m pc' Ls (v :: st))) P) : Goes p e below (T.setTop (mkF m pc Ls (st))) P := by
  subst hpc; exact go (fun _ q => XS.aloadN X.here hx rfl hd hl hv q) K
theorem g_aload (X : Stand p l e R s m args below meth c T locs cells slots) (hx : p.tables.exec = Jvm.exec) (pc' : Nat) (hpc : pc + 2 = pc') {k : Nat} {v : Value} (hd : decode c.code pc = .ok (.aload k, 2)) (hl : Ls[k]? = some (.val v)) (hv : v.isRef = true) (K : Goes p e below (T.setTop (mkF m pc' Ls (v :: st))) P) : Goes p e below (T.setTop (mkF m pc Ls (st))) P := by
  subst hpc; exact go (fun _ q => XS.aload X.here hx rfl hd hl hv q) K
theorem g_istore_n (X : Stand p l e R s m args below meth c T locs cells slots) (hx : p.tables.exec = Jvm.exec) (pc' : Nat) (hpc : pc + 1 = pc') {k : Fin 4} {x : Int32} (hd : decode c.code pc = .ok (.istore_n k, 1))  (l' : Array Slot) (hl : storeLocals Ls k.val (.int x) = some l') (K : Goes p e below (T.setTop (mkF m pc' l' st)) P) : Goes p e below (T.setTop (mkF m pc Ls (.int x :: st))) P := by
  subst hpc; exact go (fun _ q => XS.istoreN X.here hx rfl hd rfl hl q) K
theorem g_istore (X : Stand p l e R s m args below meth c T locs cells slots) (hx : p.tables.exec = Jvm.exec) (pc' : Nat) (hpc : pc + 2 = pc') {k : Nat} {x : Int32} (hd : decode c.code pc = .ok (.istore k, 2))  (l' : Array Slot) (hl : storeLocals Ls k (.int x) = some l') (K : Goes p e below (T.setTop (mkF m pc' l' st)) P) : Goes p e below (T.setTop (mkF m pc Ls (.int x :: st))) P := by
  subst hpc; exact go (fun _ q => XS.istore X.here hx rfl hd rfl hl q) K
theorem g_lstore_n (X : Stand p l e R s m args below meth c T locs cells slots) (hx : p.tables.exec = Jvm.exec) (pc' : Nat) (hpc : pc + 1 = pc') {k : Fin 4} {x : Int64} (hd : decode c.code pc = .ok (.lstore_n k, 1))  (l' : Array Slot) (hl : storeLocals Ls k.val (.long x) = some l') (K : Goes p e below (T.setTop (mkF m pc' l' st)) P) : Goes p e below (T.setTop (mkF m pc Ls (.long x :: st))) P := by
  subst hpc; exact go (fun _ q => XT.lstoreN X.here hx rfl hd rfl hl q) K
theorem g_lstore (X : Stand p l e R s m args below meth c T locs cells slots) (hx : p.tables.exec = Jvm.exec) (pc' : Nat) (hpc : pc + 2 = pc') {k : Nat} {x : Int64} (hd : decode c.code pc = .ok (.lstore k, 2))  (l' : Array Slot) (hl : storeLocals Ls k (.long x) = some l') (K : Goes p e below (T.setTop (mkF m pc' l' st)) P) : Goes p e below (T.setTop (mkF m pc Ls (.long x :: st))) P := by
  subst hpc; exact go (fun _ q => XT.lstore X.here hx rfl hd rfl hl q) K
theorem g_astore_n (X : Stand p l e R s m args below meth c T locs cells slots) (hx : p.tables.exec = Jvm.exec) (pc' : Nat) (hpc : pc + 1 = pc') {k : Fin 4} {x : Value} (hd : decode c.code pc = .ok (.astore_n k, 1)) (hv : x.isRef = true) (l' : Array Slot) (hl : storeLocals Ls k.val x = some l') (K : Goes p e below (T.setTop (mkF m pc' l' st)) P) : Goes p e below (T.setTop (mkF m pc Ls (x :: st))) P := by
  subst hpc; exact go (fun _ q => XS.astoreN X.here hx rfl hd rfl hv hl q) K
theorem g_astore (X : Stand p l e R s m args below meth c T locs cells slots) (hx : p.tables.exec = Jvm.exec) (pc' : Nat) (hpc : pc + 2 = pc') {k : Nat} {x : Value} (hd : decode c.code pc = .ok (.astore k, 2)) (hv : x.isRef = true) (l' : Array Slot) (hl : storeLocals Ls k x = some l') (K : Goes p e below (T.setTop (mkF m pc' l' st)) P) : Goes p e below (T.setTop (mkF m pc Ls (x :: st))) P := by
  subst hpc; exact go (fun _ q => XS.astore X.here hx rfl hd rfl hv hl q) K
theorem g_iinc (X : Stand p l e R s m args below meth c T locs cells slots) (hx : p.tables.exec = Jvm.exec) (pc' : Nat) (hpc : pc + 3 = pc') {k : Nat} {cst : Int} {x : Int32} (hd : decode c.code pc = .ok (.iinc k cst, 3)) (v : Int32) (hv : x + Int32.ofInt cst = v) (hl : Ls[k]? = some (.val (.int x))) (l' : Array Slot) (hl' : storeLocals Ls k (.int v) = some l') (K : Goes p e below (T.setTop (mkF m pc' l' st)) P) : Goes p e below (T.setTop (mkF m pc Ls st)) P := by
  subst hpc; subst hv; exact go (fun _ q => XS.iinc X.here hx rfl hd hl hl' q) K
theorem g_goto (X : Stand p l e R s m args below meth c T locs cells slots) (hx : p.tables.exec = Jvm.exec) (pc' : Nat) {o : Int} (hd : decode c.code pc = .ok (.goto o, 3)) (ho : 0 ≤ (pc : Int) + o) (hp : ((pc : Int) + o).toNat = pc') (K : Goes p e below (T.setTop (mkF m pc' Ls st)) P) : Goes p e below (T.setTop (mkF m pc Ls st)) P :=
  go (fun _ q => XS.goto X.here hx rfl rfl hd ho hp q) K
theorem g_ifY (X : Stand p l e R s m args below meth c T locs cells slots) (hx : p.tables.exec = Jvm.exec) (pc' : Nat) {o : Int} {cd : ClassFile.Cond} {x : Int32} (hd : decode c.code pc = .ok (.ifCond cd o, 3)) (hc : ifCond.holds cd x = true) (ho : 0 ≤ (pc : Int) + o) (hp : ((pc : Int) + o).toNat = pc') (K : Goes p e below (T.setTop (mkF m pc' Ls st)) P) : Goes p e below (T.setTop (mkF m pc Ls (.int x :: st))) P :=
  go (fun _ q => XS.ifYes X.here hx rfl rfl hd rfl hc ho hp q) K
theorem g_ifN (X : Stand p l e R s m args below meth c T locs cells slots) (hx : p.tables.exec = Jvm.exec) (pc' : Nat) (hpc : pc + 3 = pc') {o : Int} {cd : ClassFile.Cond} {x : Int32} (hd : decode c.code pc = .ok (.ifCond cd o, 3)) (hc : ifCond.holds cd x = false) (K : Goes p e below (T.setTop (mkF m pc' Ls st)) P) : Goes p e below (T.setTop (mkF m pc Ls (.int x :: st))) P := by
  subst hpc; exact go (fun _ q => XS.ifNo X.here hx rfl hd rfl hc q) K
theorem g_icmpY (X : Stand p l e R s m args below meth c T locs cells slots) (hx : p.tables.exec = Jvm.exec) (pc' : Nat) {o : Int} {cd : ClassFile.Cond} {x y : Int32} (hd : decode c.code pc = .ok (.if_icmp cd o, 3)) (hc : if_icmp.holds cd x y = true) (ho : 0 ≤ (pc : Int) + o) (hp : ((pc : Int) + o).toNat = pc') (K : Goes p e below (T.setTop (mkF m pc' Ls st)) P) : Goes p e below (T.setTop (mkF m pc Ls (.int y :: .int x :: st))) P :=
  go (fun _ q => XS.icmpYes X.here hx rfl rfl hd rfl hc ho hp q) K
theorem g_icmpN (X : Stand p l e R s m args below meth c T locs cells slots) (hx : p.tables.exec = Jvm.exec) (pc' : Nat) (hpc : pc + 3 = pc') {o : Int} {cd : ClassFile.Cond} {x y : Int32} (hd : decode c.code pc = .ok (.if_icmp cd o, 3)) (hc : if_icmp.holds cd x y = false) (K : Goes p e below (T.setTop (mkF m pc' Ls st)) P) : Goes p e below (T.setTop (mkF m pc Ls (.int y :: .int x :: st))) P := by
  subst hpc; exact go (fun _ q => XS.icmpNo X.here hx rfl hd rfl hc q) K
theorem g_acmpY (X : Stand p l e R s m args below meth c T locs cells slots) (hx : p.tables.exec = Jvm.exec) (pc' : Nat) {o : Int} {cd : ClassFile.ACond} {x y : Value} (hd : decode c.code pc = .ok (.if_acmp cd o, 3)) (h1 : x.isRef = true) (h2 : y.isRef = true) (hc : XT.acmp cd x y = true) (ho : 0 ≤ (pc : Int) + o) (hp : ((pc : Int) + o).toNat = pc') (K : Goes p e below (T.setTop (mkF m pc' Ls st)) P) : Goes p e below (T.setTop (mkF m pc Ls (y :: x :: st))) P :=
  go (fun _ q => XT.acmpYes X.here hx rfl rfl hd rfl h1 h2 hc ho hp q) K
theorem g_acmpN (X : Stand p l e R s m args below meth c T locs cells slots) (hx : p.tables.exec = Jvm.exec) (pc' : Nat) (hpc : pc + 3 = pc') {o : Int} {cd : ClassFile.ACond} {x y : Value} (hd : decode c.code pc = .ok (.if_acmp cd o, 3)) (h1 : x.isRef = true) (h2 : y.isRef = true) (hc : XT.acmp cd x y = false) (K : Goes p e below (T.setTop (mkF m pc' Ls st)) P) : Goes p e below (T.setTop (mkF m pc Ls (y :: x :: st))) P := by
  subst hpc; exact go (fun _ q => XT.acmpNo X.here hx rfl hd rfl h1 h2 hc q) K
theorem g_ifnonnullY (X : Stand p l e R s m args below meth c T locs cells slots) (hx : p.tables.exec = Jvm.exec) (pc' : Nat) {o : Int} {b : Addr} (hd : decode c.code pc = .ok (.ifnonnull o, 3)) (ho : 0 ≤ (pc : Int) + o) (hp : ((pc : Int) + o).toNat = pc') (K : Goes p e below (T.setTop (mkF m pc' Ls st)) P) : Goes p e below (T.setTop (mkF m pc Ls (.ref b :: st))) P :=
  go (fun _ q => XT.ifnonnullYes X.here hx rfl rfl hd rfl ho hp q) K
theorem g_ifnonnullN (X : Stand p l e R s m args below meth c T locs cells slots) (hx : p.tables.exec = Jvm.exec) (pc' : Nat) (hpc : pc + 3 = pc') {o : Int} (hd : decode c.code pc = .ok (.ifnonnull o, 3)) (K : Goes p e below (T.setTop (mkF m pc' Ls st)) P) : Goes p e below (T.setTop (mkF m pc Ls (.null :: st))) P := by
  subst hpc; exact go (fun _ q => XT.ifnonnullNo X.here hx rfl hd rfl q) K
def b2i (b : Bool) : Int32 := if b then 1 else 0
theorem b2i_nar (b : Bool) : narrow .boolean (.int (b2i b)) = .int (b2i b) := by cases b <;> rfl
theorem bb_eq_t {b : Bool} (q : ¬ b = true) : ifCond.holds .eq (b2i b) = true := by cases b <;> first | rfl | exact absurd rfl q
theorem bb_eq_f {b : Bool} (q : b = true) : ifCond.holds .eq (b2i b) = false := by subst q; rfl
theorem bb_ne_t {b : Bool} (q : b = true) : ifCond.holds .ne (b2i b) = true := by subst q; rfl
theorem bb_ne_f {b : Bool} (q : ¬ b = true) : ifCond.holds .ne (b2i b) = false := by cases b <;> first | rfl | exact absurd rfl q
theorem b2_eq_t {a b : Bool} (q : a = b) : if_icmp.holds .eq (b2i a) (b2i b) = true := by subst q; cases a <;> rfl
theorem b2_eq_f {a b : Bool} (q : ¬ a = b) : if_icmp.holds .eq (b2i a) (b2i b) = false := by cases a <;> cases b <;> first | rfl | exact absurd rfl q
theorem b2_ne_t {a b : Bool} (q : ¬ a = b) : if_icmp.holds .ne (b2i a) (b2i b) = true := by cases a <;> cases b <;> first | rfl | exact absurd rfl q
theorem b2_ne_f {a b : Bool} (q : a = b) : if_icmp.holds .ne (b2i a) (b2i b) = false := by subst q; cases a <;> rfl
theorem g_getF (X : Stand p l e R s m args below meth c T locs cells slots) (hx : p.tables.exec = Jvm.exec) (hZ : Z.Warmed39 s.vm) (pc' : Nat) (hpc : pc + 3 = pc') {own O n d : String} {index : Nat} (hown : s.vm.findClass own = some m.cls) (w : (Jvm.Cond.fieldLink own index O n d).before a0 Z = true) (eT : T.heap = h) {a : Addr} {v : Value} (F : Fld Z h a O n d v) (hd : decode c.code pc = .ok (.getfield index, 3)) (K : ∀ T', Stand p l e R s m args below meth c T' locs cells slots → T'.heap = h → Goes p e below (T'.setTop (mkF m pc' Ls (v :: st))) P) : Goes p e below (T.setTop (mkF m pc Ls (.ref a :: st))) P := by
  subst hpc
  obtain ⟨T', X', e', st'⟩ := getF X hx hZ hown (host := "") (Or.inl w) Via.refl eT F (g := mkF m pc Ls (.ref a :: st)) rfl rfl hd
  exact go st' (K T' X' e')
theorem g_putF (X : Stand p l e R s m args below meth c T locs cells slots) (hx : p.tables.exec = Jvm.exec) (hZ : Z.Warmed39 s.vm) (pc' : Nat) (hpc : pc + 3 = pc') {own O n d C : String} {index kk : Nat} {ty : FieldType} (hown : s.vm.findClass own = some m.cls) (w : (Jvm.Cond.fieldLink own index O n d).before a0 Z = true) (eT : T.heap = h) {a : Addr} {v old : Value} (F : Fld Z h a O n d old) (E : Exa Z h a C) (L : (Jvm.Cond.lays C O n d).before a0 Z = true ∨ ((Jvm.Cond.laysFinal C O n d).before a0 Z = true ∧ own = O ∧ meth.name = "<init>")) (wi : (Jvm.Cond.instantiable C kk).before a0 Z = true) (hty : parseFieldDescriptor d = some ty) (hn : narrow ty v = v) (hf : fits ty v = true) (hd : decode c.code pc = .ok (.putfield index, 3)) (K : ∀ T' h', Stand p l e R s m args below meth c T' (locs ++ [⟨a, Jvm.RoadKit.slotOf Z O n d⟩]) cells slots → T'.heap = h' → Wr h h' a (Jvm.RoadKit.slotOf Z O n d) v → Goes p e below (T'.setTop (mkF m pc' Ls st)) P) : Goes p e below (T.setTop (mkF m pc Ls (v :: .ref a :: st))) P := by
  subst hpc
  obtain ⟨T', h', X', e', W', st'⟩ := putF X hx hZ hown (host := "") (Or.inl w) Via.refl eT F E L wi hty hn hf (g := mkF m pc Ls (v :: .ref a :: st)) rfl rfl hd
  exact go st' (K T' h' X' e' W')
theorem g_getS (X : Stand p l e R s m args below meth c T locs cells slots) (hx : p.tables.exec = Jvm.exec) (hZ : Z.Warmed39 s.vm) (pc' : Nat) (hpc : pc + 3 = pc') {own O n d : String} {index : Nat} (hown : s.vm.findClass own = some m.cls) (w : (Jvm.Cond.fieldLink own index O n d).before a0 Z = true) (eT : T.heap = h) {v : Value} (F : Sta Z h O n d v) (hd : decode c.code pc = .ok (.getstatic index, 3)) (K : ∀ T', Stand p l e R s m args below meth c T' locs cells slots → T'.heap = h → Goes p e below (T'.setTop (mkF m pc' Ls (v :: st))) P) : Goes p e below (T.setTop (mkF m pc Ls st)) P := by
  subst hpc
  obtain ⟨T', X', e', st'⟩ := getS (host := "") X hx hZ hown w Via.refl eT F (g := mkF m pc Ls st) rfl hd
  exact go st' (K T' X' e')
theorem g_new (X : Stand p l e R s m args below meth c T locs cells slots) (hx : p.tables.exec = Jvm.exec) (hZ : Z.Warmed39 s.vm) (pc' : Nat) (hpc : pc + 3 = pc') {own C : String} {index n : Nat} (hown : s.vm.findClass own = some m.cls) (w : (Jvm.Cond.classLink own index C).before a0 Z = true) (wi : (Jvm.Cond.instantiable C n).before a0 Z = true) (wz : (Jvm.Cond.initialized C).before a0 Z = true) (eT : T.heap = h) (hd : decode c.code pc = .ok (.new index, 3)) (hc : cells + 1 ≤ R.cells) (hl : slots + n ≤ R.slots) (K : ∀ T' h' a, a = h.size → Stand p l e R s m args below meth c T' locs (cells + 1) (slots + n) → T'.heap = h' → Ext h h' → Exa Z h' a C → (∀ {O nm d : String} {ty : FieldType}, Laid Z a0 C O nm d → parseFieldDescriptor d = some ty → Fld Z h' a O nm d (defaultValue ty)) → Goes p e below (T'.setTop (mkF m pc' Ls (.ref a :: st))) P) : Goes p e below (T.setTop (mkF m pc Ls st)) P := by
  subst hpc
  obtain ⟨T', h', X', e', E', A', D', -, st'⟩ := newO X hx hZ hown w wi wz eT (g := mkF m pc Ls st) rfl hd hc hl
  exact go st' (K T' h' _ rfl X' e' E' A' D')
theorem g_initO (X : Stand p l e R s m args below meth c T locs cells slots) (hx : p.tables.exec = Jvm.exec) (hZ : Z.Warmed39 s.vm) (pc' : Nat) (hpc : pc + 3 = pc') {own : String} {idx : Nat} (hown : s.vm.findClass own = some m.cls) (w1 : (Jvm.Cond.methodLink own idx Lib.objectInit).before a0 Z = true) (w2 : (Jvm.Cond.instanceMethod Lib.objectInit).before a0 Z = true) (w3 : (Jvm.Cond.code Lib.objectInit ⟨#[0xb1]⟩ 1 none).before a0 Z = true) (eT : T.heap = h) (hsize : Ls.size = c.maxLocals) {a : Addr} (hd : decode c.code pc = .ok (.invokespecial idx, 3)) (hf : 1 ≤ R.frames) (W : Nat) (hW : 2 * 0 + (st.map fun v => v.category).sum ≤ W) (hl : W + 12 ≤ R.locals) (K : ∀ T', Stand p l e R s m args below meth c T' locs cells slots → T'.heap = h → Goes p e below (T'.setTop (mkF m pc' Ls st)) P) : Goes p e below (T.setTop (mkF m pc Ls (.ref a :: st))) P := by
  subst hpc
  obtain ⟨T', X', e', st'⟩ := initO X hx hZ hown w1 w2 w3 eT (g := mkF m pc Ls (.ref a :: st)) rfl hsize rfl hd hf hW hl
  exact go st' (K T' X' e')
theorem g_callS (X : Stand p l e R s m args below meth c T locs cells slots) (hx : p.tables.exec = Jvm.exec) (hZ : Z.Warmed39 s.vm) (pc' : Nat) (hpc : pc + 3 = pc') {own : String} {index : Nat} {y : MethodName} {bytes : ByteArray} {maxL : Nat} {ret : Option FieldType} {rm : Room} {Q : Option Value → Heap → List Loc → Prop} (hown : s.vm.findClass own = some m.cls) (w1 : (Jvm.Cond.methodLink own index y).before a0 Z = true) (w2 : (Jvm.Cond.static y).before a0 Z = true) (w3 : (Jvm.Cond.initialized y.cls).before a0 Z = true) (w4 : (Jvm.Cond.code y bytes maxL ret).before a0 Z = true) (hy : y.cls ≠ "java/lang/invoke/MethodHandle" ∧ y.cls ≠ "java/lang/invoke/VarHandle") (argsL rest : List Value) (hM : OwnMet l Z y bytes maxL ret [] rm argsL.toArray h Q) (eT : T.heap = h) (hlen : ∀ sig, parseMethodDescriptor y.desc = some sig → argsL.length = sig.parameters.length) (hst : st = argsL.reverse ++ rest) (hsize : Ls.size = c.maxLocals) (hd : decode c.code pc = .ok (.invokestatic index, 3)) (hf : rm.frames + 1 ≤ R.frames) (W : Nat) (hW : 2 * 0 + (rest.map fun v => v.category).sum ≤ W) (hl : W + (maxL + 11) + rm.locals ≤ R.locals) (hc : cells + rm.cells ≤ R.cells) (hs : slots + rm.slots ≤ R.slots) (K : ∀ v T' L', Stand p l e R s m args below meth c T' (locs ++ L') (cells + rm.cells) (slots + rm.slots) → Q v T'.heap L' → Goes p e below (T'.setTop (mkF m pc' Ls (v.toList ++ rest))) P) : Goes p e below (T.setTop (mkF m pc Ls st)) P := by
  subst hpc; subst hst
  obtain ⟨v, _, ⟨T', L', k', n'⟩, -, X', ⟨Lc, hQ, e1, e2, e3⟩, st'⟩ := Jvm.LawKit.callS X hx (y := y) hown (mvT hZ w1) (mvT hZ w2) (mvT hZ w3) (mvT hZ w4) hy (backOf (W := W) hM hZ w4 w3 hf hl) (g := mkF m pc Ls (argsL.reverse ++ rest)) rfl hsize (argsL := argsL) (rest := rest) hlen rfl hW hd (fun _ _ => ⟨rfl, eT, hc, hs⟩)
  dsimp only [Pt.U, Pt.locs, Pt.cells, Pt.slots] at X' e1 e2 e3 st' hQ
  subst e1 e2 e3
  exact go st' (K v T' Lc X' hQ)
theorem g_callI (X : Stand p l e R s m args below meth c T locs cells slots) (hx : p.tables.exec = Jvm.exec) (hZ : Z.Warmed39 s.vm) (pc' : Nat) (hpc : pc + 3 = pc') {own : String} {index : Nat} {y : MethodName} {bytes : ByteArray} {maxL : Nat} {rm : Room} {Q : Option Value → Heap → List Loc → Prop} (hy1 : y.name = "<init>") (hown : s.vm.findClass own = some m.cls) (w1 : (Jvm.Cond.methodLink own index y).before a0 Z = true) (w2 : (Jvm.Cond.instanceMethod y).before a0 Z = true) (w3 : (Jvm.Cond.initialized y.cls).before a0 Z = true) (w4 : (Jvm.Cond.code y bytes maxL none).before a0 Z = true) (hy : y.cls ≠ "java/lang/invoke/MethodHandle" ∧ y.cls ≠ "java/lang/invoke/VarHandle") (a : Addr) (argsL rest : List Value) (hM : OwnMet l Z y bytes maxL none [] rm (.ref a :: argsL).toArray h Q) (eT : T.heap = h) (hlen : ∀ sig, parseMethodDescriptor y.desc = some sig → argsL.length = sig.parameters.length) (hst : st = argsL.reverse ++ .ref a :: rest) (hsize : Ls.size = c.maxLocals) (hd : decode c.code pc = .ok (.invokespecial index, 3)) (hf : rm.frames + 1 ≤ R.frames) (W : Nat) (hW : 2 * 0 + (rest.map fun v => v.category).sum ≤ W) (hl : W + (maxL + 11) + rm.locals ≤ R.locals) (hc : cells + rm.cells ≤ R.cells) (hs : slots + rm.slots ≤ R.slots) (K : ∀ v T' L', Stand p l e R s m args below meth c T' (locs ++ L') (cells + rm.cells) (slots + rm.slots) → Q v T'.heap L' → Goes p e below (T'.setTop (mkF m pc' Ls (v.toList ++ rest))) P) : Goes p e below (T.setTop (mkF m pc Ls st)) P := by
  subst hpc; subst hst
  obtain ⟨v, _, ⟨T', L', k', n'⟩, -, X', ⟨Lc, hQ, e1, e2, e3⟩, st'⟩ := X.specialBack hx (y := y) hy1 hown (mvT hZ w1) (mvT hZ w2) (mvT hZ w4) hy (backOf (W := W) hM hZ w4 w3 hf hl) (g := mkF m pc Ls (argsL.reverse ++ .ref a :: rest)) rfl hsize (Steps.refl _) (a := a) (argsL := argsL) (rest := rest) hlen rfl hW hd (fun _ _ => ⟨rfl, eT, hc, hs⟩)
  dsimp only [Pt.U, Pt.locs, Pt.cells, Pt.slots] at X' e1 e2 e3 st' hQ
  subst e1 e2 e3
  exact goT st' (K v T' Lc X' hQ)
theorem g_callV (X : Stand p l e R s m args below meth c T locs cells slots) (hx : p.tables.exec = Jvm.exec) (hZ : Z.Warmed39 s.vm) (pc' : Nat) (hpc : pc + 3 = pc') {own C : String} {index : Nat} {y : MethodName} {bytes : ByteArray} {maxL : Nat} {ret : Option FieldType} {rm : Room} {Q : Option Value → Heap → List Loc → Prop} (hown : s.vm.findClass own = some m.cls) (w1 : (Jvm.Cond.methodLink own index y).before a0 Z = true) (w2 : (Jvm.Cond.declares y).before a0 Z = true) (w5 : (Jvm.Cond.selects C y y).before a0 Z = true) (w6 : (Jvm.Cond.instanceMethod y).before a0 Z = true) (w3 : (Jvm.Cond.initialized y.cls).before a0 Z = true) (w4 : (Jvm.Cond.code y bytes maxL ret).before a0 Z = true) (hy : y.cls ≠ "java/lang/invoke/MethodHandle" ∧ y.cls ≠ "java/lang/invoke/VarHandle") (a : Addr) (argsL rest : List Value) (hM : OwnMet l Z y bytes maxL ret [] rm (.ref a :: argsL).toArray h Q) (eT : T.heap = h) (Ex : Exa Z h a C) (hlen : ∀ sig, parseMethodDescriptor y.desc = some sig → argsL.length = sig.parameters.length) (hst : st = argsL.reverse ++ .ref a :: rest) (hsize : Ls.size = c.maxLocals) (hd : decode c.code pc = .ok (.invokevirtual index, 3)) (hf : rm.frames + 1 ≤ R.frames) (W : Nat) (hW : 2 * 0 + (rest.map fun v => v.category).sum ≤ W) (hl : W + (maxL + 11) + rm.locals ≤ R.locals) (hc : cells + rm.cells ≤ R.cells) (hs : slots + rm.slots ≤ R.slots) (K : ∀ v T' L', Stand p l e R s m args below meth c T' (locs ++ L') (cells + rm.cells) (slots + rm.slots) → Q v T'.heap L' → Goes p e below (T'.setTop (mkF m pc' Ls (v.toList ++ rest))) P) : Goes p e below (T.setTop (mkF m pc Ls st)) P := by
  subst hpc; subst hst
  obtain ⟨cq, kq, qa, qb, qc⟩ := isOf hZ eT Ex
  obtain ⟨v, _, ⟨T', L', k', n'⟩, -, X', ⟨Lc, hQ, e1, e2, e3⟩, st'⟩ := X.virtualBack hx (y := y) (z := y) hown (mvT hZ w1) (mvT hZ w2) (notFace_of_selects (args := #[]) (mvT hZ w5)) (mvT hZ w5) (mvT hZ w6) hy (backOf (W := W) hM hZ w4 w3 hf hl) qa qc (g := mkF m pc Ls (argsL.reverse ++ .ref a :: rest)) rfl hsize (Steps.refl _) (argsL := argsL) (rest := rest) hlen rfl hW hd (fun _ _ => ⟨rfl, eT, hc, hs⟩)
  dsimp only [Pt.U, Pt.locs, Pt.cells, Pt.slots] at X' e1 e2 e3 st' hQ
  subst e1 e2 e3
  exact goT st' (K v T' Lc X' hQ)
def Al (Z : State) (h : Heap) (a : Addr) (ty : FieldType) (vs : List Value) : Prop := ∃ c : Cell, Arr Z h a c ty ∧ c.slots.toList = vs ∧ vs.length < 2147483648
theorem Al.lt {a : Addr} {ty : FieldType} {vs : List Value} (F : Al Z h a ty vs) : a < h.size := by obtain ⟨c, A, -⟩ := F; exact A.lt
theorem Al.ext {h' : Heap} {a : Addr} {ty : FieldType} {vs : List Value} (F : Al Z h a ty vs) (E : Ext h h') : Al Z h' a ty vs := by obtain ⟨c, A, r⟩ := F; exact ⟨c, A.ext E, r⟩
theorem Al.other {h' : Heap} {a b : Addr} {sl : Nat} {v : Value} {ty : FieldType} {vs : List Value} (F : Al Z h b ty vs) (W : Wr h h' a sl v) (q : b ≠ a) : Al Z h' b ty vs := by obtain ⟨c, A, r⟩ := F; exact ⟨c, A.other W q, r⟩
theorem Al.keep {h' : Heap} {a : Addr} {ws : List Addr} {ty : FieldType} {vs : List Value} (F : Al Z h a ty vs) (K : Keep h h' ws) (q : a ∉ ws) : Al Z h' a ty vs := by obtain ⟨c, A, r⟩ := F; exact ⟨c, ⟨K.2.1 a c A.1 q, A.2⟩, r⟩
theorem Al.same {h' : Heap} {a : Addr} {i : Nat} {v : Value} {ty : FieldType} {vs : List Value} (F : Al Z h a ty vs) (W : Wr h h' a i v) : Al Z h' a ty (vs.set i v) := by
  obtain ⟨c, A, r1, r2⟩ := F
  exact ⟨_, A.same W, by rw [← r1]; simp [Cell.setSlot], by rw [List.length_set]; exact r2⟩
theorem own_ix {j : Int32} {i : Nat} (hj : j.toInt = (i : Int)) : j.toNatClampNeg = i ∧ ¬ j < 0 := by
  refine ⟨by simp only [Int32.toNatClampNeg]; omega, fun q => ?_⟩
  rw [Int32.lt_iff_toInt_lt] at q; simp only [Int32.reduceToInt] at q; omega
theorem Al.cell {a : Addr} {ty : FieldType} {vs : List Value} (F : Al Z h a ty vs) {j : Int32} {i : Nat} (hj : j.toInt = (i : Int)) (hi : i < vs.length) : ∃ c : Cell, Arr Z h a c ty ∧ c.slots.toList = vs ∧ ¬ (j < 0 ∨ c.slots.size ≤ j.toNatClampNeg) ∧ c.slots[j.toNatClampNeg]? = vs[i]? := by
  obtain ⟨c, A, r1, r2⟩ := F
  obtain ⟨q1, q2⟩ := own_ix hj
  have hs : c.slots.size = vs.length := by rw [← r1]; simp
  exact ⟨c, A, r1, fun q => q.elim q2 (by rw [q1, hs]; omega), by rw [q1, ← r1, Array.getElem?_toList]⟩
theorem g_alen (X : Stand p l e R s m args below meth c T locs cells slots) (hx : p.tables.exec = Jvm.exec) (hZ : Z.Warmed39 s.vm) (pc' : Nat) (hpc : pc + 1 = pc') (hd : decode c.code pc = .ok (.arraylength, 1)) (eT : T.heap = h) {a : Addr} {ty : FieldType} {vs : List Value} (A : Al Z h a ty vs) (n : Int32) (hn : Int32.ofNat vs.length = n) (K : Goes p e below (T.setTop (mkF m pc' Ls (.int n :: st))) P) : Goes p e below (T.setTop (mkF m pc Ls (.ref a :: st))) P := by
  subst hpc
  obtain ⟨c, A, r1, r2⟩ := A
  have hs : c.slots.size.toInt32 = n := by rw [← hn, ← r1]; simp
  exact go (fun _ q => X.arraylength hx (by rw [eT]; exact A.1) (State.isArrayOf_alike hZ.alike A.2.1) (g := mkF m pc Ls (.ref a :: st)) rfl rfl hd _ (by rw [hs]; exact q)) K
theorem g_iaload (X : Stand p l e R s m args below meth c T locs cells slots) (hx : p.tables.exec = Jvm.exec) (hZ : Z.Warmed39 s.vm) (pc' : Nat) (hpc : pc + 1 = pc') (hd : decode c.code pc = .ok (.iaload, 1)) (eT : T.heap = h) {a : Addr} {vs : List Value} (A : Al Z h a .int vs) {j : Int32} (i : Nat) (hj : j.toInt = (i : Int)) (v : Value) (hv : vs[i]? = some v) (K : Goes p e below (T.setTop (mkF m pc' Ls (v :: st))) P) : Goes p e below (T.setTop (mkF m pc Ls (.int j :: .ref a :: st))) P := by
  subst hpc
  obtain ⟨c, A, r1, r2, r3⟩ := A.cell hj (List.getElem?_eq_some_iff.mp hv).1
  exact go (fun _ q => X.iaload hx (by rw [eT]; exact A.1) (State.isArrayOf_alike hZ.alike A.2.1) A.2.2 r2 (r3.trans hv) (g := mkF m pc Ls (.int j :: .ref a :: st)) rfl rfl hd _ q) K
theorem g_laload (X : Stand p l e R s m args below meth c T locs cells slots) (hx : p.tables.exec = Jvm.exec) (hZ : Z.Warmed39 s.vm) (pc' : Nat) (hpc : pc + 1 = pc') (hd : decode c.code pc = .ok (.laload, 1)) (eT : T.heap = h) {a : Addr} {vs : List Value} (A : Al Z h a .long vs) {j : Int32} (i : Nat) (hj : j.toInt = (i : Int)) (v : Value) (hv : vs[i]? = some v) (K : Goes p e below (T.setTop (mkF m pc' Ls (v :: st))) P) : Goes p e below (T.setTop (mkF m pc Ls (.int j :: .ref a :: st))) P := by
  subst hpc
  obtain ⟨c, A, r1, r2, r3⟩ := A.cell hj (List.getElem?_eq_some_iff.mp hv).1
  exact go (fun _ q => X.laload hx (by rw [eT]; exact A.1) (State.isArrayOf_alike hZ.alike A.2.1) A.2.2 r2 (r3.trans hv) (g := mkF m pc Ls (.int j :: .ref a :: st)) rfl rfl hd _ q) K
theorem g_baload (X : Stand p l e R s m args below meth c T locs cells slots) (hx : p.tables.exec = Jvm.exec) (hZ : Z.Warmed39 s.vm) (pc' : Nat) (hpc : pc + 1 = pc') (hd : decode c.code pc = .ok (.baload, 1)) (eT : T.heap = h) {a : Addr} {vs : List Value} (A : Al Z h a .byte vs) {j : Int32} (i : Nat) (hj : j.toInt = (i : Int)) (v : Value) (hv : vs[i]? = some v) (K : Goes p e below (T.setTop (mkF m pc' Ls (v :: st))) P) : Goes p e below (T.setTop (mkF m pc Ls (.int j :: .ref a :: st))) P := by
  subst hpc
  obtain ⟨c, A, r1, r2, r3⟩ := A.cell hj (List.getElem?_eq_some_iff.mp hv).1
  exact go (fun _ q => X.baloadBytes hx (by rw [eT]; exact A.1) (State.isArrayOf_alike hZ.alike A.2.1) A.2.2 r2 (r3.trans hv) (g := mkF m pc Ls (.int j :: .ref a :: st)) rfl rfl hd _ q) K
theorem g_caload (X : Stand p l e R s m args below meth c T locs cells slots) (hx : p.tables.exec = Jvm.exec) (hZ : Z.Warmed39 s.vm) (pc' : Nat) (hpc : pc + 1 = pc') (hd : decode c.code pc = .ok (.caload, 1)) (eT : T.heap = h) {a : Addr} {vs : List Value} (A : Al Z h a .char vs) {j : Int32} (i : Nat) (hj : j.toInt = (i : Int)) (v : Value) (hv : vs[i]? = some v) (K : Goes p e below (T.setTop (mkF m pc' Ls (v :: st))) P) : Goes p e below (T.setTop (mkF m pc Ls (.int j :: .ref a :: st))) P := by
  subst hpc
  obtain ⟨c, A, r1, r2, r3⟩ := A.cell hj (List.getElem?_eq_some_iff.mp hv).1
  exact go (fun _ q => X.caload hx (by rw [eT]; exact A.1) (State.isArrayOf_alike hZ.alike A.2.1) A.2.2 r2 (r3.trans hv) (g := mkF m pc Ls (.int j :: .ref a :: st)) rfl rfl hd _ q) K
theorem g_iastore (X : Stand p l e R s m args below meth c T locs cells slots) (hx : p.tables.exec = Jvm.exec) (hZ : Z.Warmed39 s.vm) (pc' : Nat) (hpc : pc + 1 = pc') (hd : decode c.code pc = .ok (.iastore, 1)) (eT : T.heap = h) {a : Addr} {vs : List Value} (A : Al Z h a .int vs) {j : Int32} {x : Int32} (i : Nat) (hj : j.toInt = (i : Int)) (hi : i < vs.length) (K : ∀ T' h', Stand p l e R s m args below meth c T' (locs ++ [⟨a, i⟩]) cells slots → T'.heap = h' → Wr h h' a i (.int x) → Al Z h' a .int (vs.set i (.int x)) → Goes p e below (T'.setTop (mkF m pc' Ls st)) P) : Goes p e below (T.setTop (mkF m pc Ls (.int x :: .int j :: .ref a :: st))) P := by
  subst hpc
  obtain ⟨c, Ar, r1, r2, r3⟩ := A.cell hj hi
  obtain ⟨T', h', X', e', W', st'⟩ := stI X hx hZ eT Ar r2 (g := mkF m pc Ls (.int x :: .int j :: .ref a :: st)) rfl rfl hd
  rw [(own_ix hj).1] at X' W'
  exact go st' (K T' h' X' e' W' (A.same W'))
theorem g_lastore (X : Stand p l e R s m args below meth c T locs cells slots) (hx : p.tables.exec = Jvm.exec) (hZ : Z.Warmed39 s.vm) (pc' : Nat) (hpc : pc + 1 = pc') (hd : decode c.code pc = .ok (.lastore, 1)) (eT : T.heap = h) {a : Addr} {vs : List Value} (A : Al Z h a .long vs) {j : Int32} {x : Int64} (i : Nat) (hj : j.toInt = (i : Int)) (hi : i < vs.length) (K : ∀ T' h', Stand p l e R s m args below meth c T' (locs ++ [⟨a, i⟩]) cells slots → T'.heap = h' → Wr h h' a i (.long x) → Al Z h' a .long (vs.set i (.long x)) → Goes p e below (T'.setTop (mkF m pc' Ls st)) P) : Goes p e below (T.setTop (mkF m pc Ls (.long x :: .int j :: .ref a :: st))) P := by
  subst hpc
  obtain ⟨c, Ar, r1, r2, r3⟩ := A.cell hj hi
  obtain ⟨T', h', X', e', W', st'⟩ := stJ X hx hZ eT Ar r2 (g := mkF m pc Ls (.long x :: .int j :: .ref a :: st)) rfl rfl hd
  rw [(own_ix hj).1] at X' W'
  exact go st' (K T' h' X' e' W' (A.same W'))
theorem g_bastore (X : Stand p l e R s m args below meth c T locs cells slots) (hx : p.tables.exec = Jvm.exec) (hZ : Z.Warmed39 s.vm) (pc' : Nat) (hpc : pc + 1 = pc') (hd : decode c.code pc = .ok (.bastore, 1)) (eT : T.heap = h) {a : Addr} {vs : List Value} (A : Al Z h a .byte vs) {j : Int32} {x : Int32} (i : Nat) (hj : j.toInt = (i : Int)) (hi : i < vs.length) (K : ∀ T' h', Stand p l e R s m args below meth c T' (locs ++ [⟨a, i⟩]) cells slots → T'.heap = h' → Wr h h' a i (.int (nar .byte x)) → Al Z h' a .byte (vs.set i (.int (nar .byte x))) → Goes p e below (T'.setTop (mkF m pc' Ls st)) P) : Goes p e below (T.setTop (mkF m pc Ls (.int x :: .int j :: .ref a :: st))) P := by
  subst hpc
  obtain ⟨c, Ar, r1, r2, r3⟩ := A.cell hj hi
  obtain ⟨T', h', X', e', W', st'⟩ := stB X hx hZ eT Ar r2 (g := mkF m pc Ls (.int x :: .int j :: .ref a :: st)) rfl rfl hd
  rw [(own_ix hj).1] at X' W'
  exact go st' (K T' h' X' e' W' (A.same W'))
theorem g_castore (X : Stand p l e R s m args below meth c T locs cells slots) (hx : p.tables.exec = Jvm.exec) (hZ : Z.Warmed39 s.vm) (pc' : Nat) (hpc : pc + 1 = pc') (hd : decode c.code pc = .ok (.castore, 1)) (eT : T.heap = h) {a : Addr} {vs : List Value} (A : Al Z h a .char vs) {j : Int32} {x : Int32} (i : Nat) (hj : j.toInt = (i : Int)) (hi : i < vs.length) (K : ∀ T' h', Stand p l e R s m args below meth c T' (locs ++ [⟨a, i⟩]) cells slots → T'.heap = h' → Wr h h' a i (.int (nar .char x)) → Al Z h' a .char (vs.set i (.int (nar .char x))) → Goes p e below (T'.setTop (mkF m pc' Ls st)) P) : Goes p e below (T.setTop (mkF m pc Ls (.int x :: .int j :: .ref a :: st))) P := by
  subst hpc
  obtain ⟨c, Ar, r1, r2, r3⟩ := A.cell hj hi
  obtain ⟨T', h', X', e', W', st'⟩ := stC X hx hZ eT Ar r2 (g := mkF m pc Ls (.int x :: .int j :: .ref a :: st)) rfl rfl hd
  rw [(own_ix hj).1] at X' W'
  exact go st' (K T' h' X' e' W' (A.same W'))
theorem g_newarr (X : Stand p l e R s m args below meth c T locs cells slots) (hx : p.tables.exec = Jvm.exec) (hZ : Z.Warmed39 s.vm) (pc' : Nat) (hpc : pc + 2 = pc') {aty : ArrayType} (w : (Jvm.Cond.arrayClass (newarray.typeOf aty)).before a0 Z = true) (eT : T.heap = h) (hd : decode c.code pc = .ok (.newarray aty, 2)) {n : Int32} (k : Nat) (hn : n.toInt = (k : Int)) (cap : Nat) (hcap : k ≤ cap) (hb : cap * 8 ≤ 536870912) (hc : cells + 1 ≤ R.cells) (hl : slots + cap ≤ R.slots) (ad : String) (had : "[" ++ (newarray.typeOf aty).toString = ad) (K : ∀ T' h' a, a = h.size → Stand p l e R s m args below meth c T' locs (cells + 1) (slots + cap) → T'.heap = h' → Ext h h' → Al Z h' a (newarray.typeOf aty) (List.replicate k (defaultValue (newarray.typeOf aty))) → Exa Z h' a ad → Goes p e below (T'.setTop (mkF m pc' Ls (.ref a :: st))) P) : Goes p e below (T.setTop (mkF m pc Ls (.int n :: st))) P := by
  subst hpc
  obtain ⟨q1, q2⟩ := own_ix hn
  obtain ⟨T', h', cA, X', e', E', A', Ex', st'⟩ := newPE X hx hZ w eT (g := mkF m pc Ls (.int n :: st)) rfl hd rfl q2 (cap := cap) (by rw [q1]; exact hcap) hb hc hl had
  refine go st' (K T' h' _ rfl X' e' E' ⟨_, A', by simp [newA, q1], ?_⟩ Ex')
  rw [List.length_replicate]
  have := Int32.toInt_lt n
  omega
theorem own_narb (x : Int32) : nar .byte x.toInt8.toInt32 = x.toInt8.toInt32 := by show x.toInt8.toInt32.toInt8.toInt32 = _; simp
theorem g_cast (X : Stand p l e R s m args below meth c T locs cells slots) (hx : p.tables.exec = Jvm.exec) (hZ : Z.Warmed39 s.vm) (pc' : Nat) (hpc : pc + 3 = pc') {own K : String} {index : Nat} (hown : s.vm.findClass own = some m.cls) (w : (Jvm.Cond.classLink own index K).before a0 Z = true) (eT : T.heap = h) {a : Addr} (F : Ins Z h a K true) (hd : decode c.code pc = .ok (.checkcast index, 3)) (K2 : ∀ T', Stand p l e R s m args below meth c T' locs cells slots → T'.heap = h → Goes p e below (T'.setTop (mkF m pc' Ls (.ref a :: st))) P) : Goes p e below (T.setTop (mkF m pc Ls (.ref a :: st))) P := by
  subst hpc
  obtain ⟨T', X', e', st'⟩ := castY X hx hZ hown w eT F (g := mkF m pc Ls (.ref a :: st)) rfl rfl hd
  exact go st' (K2 T' X' e')
theorem own_fitc {a : Addr} {ty : FieldType} {vs : List Value} {c : Cell} (A : Arr Z h a c ty) (r : c.slots.toList = vs) (hfit : ∀ v ∈ vs, fits ty v = true) : FitC Z c := fitC_of A fun i hi v hv => hfit v (by rw [← r]; rw [← Array.getElem?_toList] at hv; exact List.mem_of_getElem? hv)
theorem g_clone (X : Stand p l e R s m args below meth c T locs cells slots) (hx : p.tables.exec = Jvm.exec) (hZ : Z.Warmed39 s.vm) (pc' : Nat) (hpc : pc + 3 = pc') {own ad : String} {index : Nat} (hown : s.vm.findClass own = some m.cls) (w1 : (Jvm.Cond.methodLink own index ⟨ad, "clone", "()Ljava/lang/Object;"⟩).before a0 Z = true) (w2 : (Jvm.Cond.sameMethod ad "java/lang/Object" "clone" "()Ljava/lang/Object;").before a0 Z = true) (w3 : (Jvm.Cond.native ⟨"java/lang/Object", "clone", "()Ljava/lang/Object;"⟩).before a0 Z = true) (w4 : (Jvm.Cond.instanceMethod ⟨"java/lang/Object", "clone", "()Ljava/lang/Object;"⟩).before a0 Z = true) (w5 : (Jvm.Cond.selects ad ⟨ad, "clone", "()Ljava/lang/Object;"⟩ ⟨"java/lang/Object", "clone", "()Ljava/lang/Object;"⟩).before a0 Z = true) (w6 : (Jvm.Cond.castable ad "java/lang/Cloneable").before a0 Z = true) (eT : T.heap = h) {a : Addr} {ty : FieldType} {vs : List Value} (A : Al Z h a ty vs) (Ex : Exa Z h a ad) (hfit : ∀ v ∈ vs, fits ty v = true) (hd : decode c.code pc = .ok (.invokevirtual index, 3)) (hsize : Ls.size = c.maxLocals) (hf : 1 ≤ R.frames) (W : Nat) (hW : 2 * 0 + (st.map fun v => v.category).sum ≤ W) (hl : W + 14 ≤ R.locals) (cap : Nat) (hcap : vs.length ≤ cap) (hc : cells + 1 ≤ R.cells) (hs : slots + cap ≤ R.slots) (K : ∀ T' h' b, b = h.size → Stand p l e R s m args below meth c T' locs (cells + 1) (slots + cap) → T'.heap = h' → Ext h h' → Al Z h' b ty vs → Exa Z h' b ad → Goes p e below (T'.setTop (mkF m pc' Ls (.ref b :: st))) P) : Goes p e below (T.setTop (mkF m pc Ls (.ref a :: st))) P := by
  subst hpc
  obtain ⟨c, Ar, r1, r2⟩ := A
  obtain ⟨T', h', X', e', E', A', Ex', st'⟩ := cloneA X hx hZ hown w1 w2 w3 w4 w5 w6 eT Ar Ex (own_fitc Ar r1 hfit) (g := mkF m pc Ls (.ref a :: st)) rfl hsize rfl hd hf hW hl (by rw [← r1] at hcap; simpa using hcap) hc hs
  exact go st' (K T' h' _ rfl X' e' E' ⟨_, A', r1, r2⟩ Ex')
theorem own_arv {a : Addr} {ty : FieldType} {vs : List Value} (d : Value) (A : Al Z h a ty vs) (hfit : ∀ v ∈ vs, fits ty v = true) : ∃ k, Arv Z h a k ty (Int32.ofNat vs.length) vs d := by
  obtain ⟨c, Ar, r1, r2⟩ := A
  have hs : c.slots.size = vs.length := by rw [← r1]; simp
  have h1 : (Int32.ofNat vs.length).toInt = (vs.length : Int) := Int32.toInt_ofNat_of_lt r2
  obtain ⟨q1, q2⟩ := own_ix h1
  have hv : ∀ i, i < c.slots.size → c.slots[i]? = some (vs.getD i d) := fun i hi => by
    rw [← Array.getElem?_toList, r1, List.getD_eq_getElem?_getD, List.getElem?_eq_getElem (by omega)]; rfl
  refine ⟨c.cls, c, Ar, rfl, by rw [hs, q1], q2, hv, fun i hi => hfit _ ?_⟩
  have := hv i hi
  rw [← Array.getElem?_toList, r1] at this
  exact List.mem_of_getElem? this
theorem own_al {a : Addr} {k : ClassId} {ty : FieldType} {z : Int32} {vs : List Value} {d : Value} (A : Arv Z h a k ty z vs d) (hl : vs.length = z.toNatClampNeg) : Al Z h a ty vs := by
  obtain ⟨c, Ar, -, S, M, H, -⟩ := A
  refine ⟨c, Ar, ?_, ?_⟩
  · apply List.ext_getElem?
    intro i
    rw [Array.getElem?_toList]
    by_cases hi : i < c.slots.size
    · rw [H i hi, List.getD_eq_getElem?_getD, List.getElem?_eq_getElem (by omega)]; rfl
    · rw [Array.getElem?_eq_none (by omega), List.getElem?_eq_none (by omega)]
  · have := (back32 M).2; omega
theorem g_acopy (X : Stand p l e R s m args below meth c T locs cells slots) (hx : p.tables.exec = Jvm.exec) (hZ : Z.Warmed39 s.vm) (pc' : Nat) (hpc : pc + 3 = pc') {own : String} {index : Nat} (hown : s.vm.findClass own = some m.cls) (w1 : (Jvm.Cond.methodLink own index Jvm.Stand.acN).before a0 Z = true) (w2 : (Jvm.Cond.native Jvm.Stand.acN).before a0 Z = true) (w3 : (Jvm.Cond.static Jvm.Stand.acN).before a0 Z = true) (w4 : (Jvm.Cond.initialized "java/lang/System").before a0 Z = true) (eT : T.heap = h) {a b : Addr} {ty : FieldType} {vs vd : List Value} (A : Al Z h a ty vs) (B : Al Z h b ty vd) (hp : refKind ty = false) (hfit : ∀ v ∈ vs, fits ty v = true) (hfit2 : ∀ v ∈ vd, fits ty v = true) {nn : Int32} (n : Nat) (hn : nn.toInt = (n : Int)) (h1 : n ≤ vs.length) (h2 : n ≤ vd.length) {n0 : Nat} (N : Fr n0 locs) (ge : n0 ≤ b) (hd : decode c.code pc = .ok (.invokestatic index, 3)) (hsize : Ls.size = c.maxLocals) (hf : 1 ≤ R.frames) (W : Nat) (hW : 2 * 0 + (st.map fun v => v.category).sum ≤ W) (hlo : W + (nativeFrameWords "java/lang/System" "arraycopy" 5 + 11) ≤ R.locals) (K : ∀ T' h' L, Stand p l e R s m args below meth c T' L cells slots → T'.heap = h' → Fr n0 L → Keep h h' [b] → Al Z h' b ty (vs.take n ++ vd.drop n) → Goes p e below (T'.setTop (mkF m pc' Ls st)) P) : Goes p e below (T.setTop (mkF m pc Ls (.int nn :: .int 0 :: .ref b :: .int 0 :: .ref a :: st))) P := by
  subst hpc
  obtain ⟨ka, Aa⟩ := own_arv (.int 0) A hfit
  obtain ⟨kb, Ab⟩ := own_arv (.int 0) B hfit2
  obtain ⟨q1, q2⟩ := own_ix hn
  have l1 : (Int32.ofNat vs.length).toNatClampNeg = vs.length := (own_ix (Int32.toInt_ofNat_of_lt A.choose_spec.2.2)).1
  have l2 : (Int32.ofNat vd.length).toNatClampNeg = vd.length := (own_ix (Int32.toInt_ofNat_of_lt B.choose_spec.2.2)).1
  have z0 : (0 : Int32).toNatClampNeg = 0 := rfl
  obtain ⟨T', h', L, X', e', N', K', A', st'⟩ := cpA X hx hZ hown w1 w2 w3 w4 eT Aa Ab (us := (List.range nn.toNatClampNeg).map fun i => vs.getD ((0 : Int32).toNatClampNeg + i) (.int 0)) (Or.inl ⟨rfl, hp⟩) (sp := 0) (dp := 0) (nn := nn) (by decide) (by decide) q2 (by rw [q1, l1, z0]; omega) (by rw [q1, l2, z0]; omega) rfl (by rw [q1, z0]; omega) N ge (g := mkF m pc Ls (.int nn :: .int 0 :: .ref b :: .int 0 :: .ref a :: st)) rfl hsize rfl hd hf hW hlo
  have hu : vd.take (0 : Int32).toNatClampNeg ++ ((List.range nn.toNatClampNeg).map fun i => vs.getD ((0 : Int32).toNatClampNeg + i) (.int 0)) ++ vd.drop ((0 : Int32).toNatClampNeg + nn.toNatClampNeg) = vs.take n ++ vd.drop n := by
    rw [z0, q1, List.take_zero, List.nil_append, Nat.zero_add]
    congr 1
    apply List.ext_getElem?
    intro i
    by_cases hi : i < n
    · rw [List.getElem?_take_of_lt hi, List.getElem?_map, List.getElem?_range hi, Option.map_some, Nat.zero_add, List.getD_eq_getElem?_getD, List.getElem?_eq_getElem (by omega)]; rfl
    · rw [List.getElem?_eq_none (by simp; omega), List.getElem?_eq_none (by simp; omega)]
  rw [hu] at A'
  exact go st' (K T' h' L X' e' N' K' (own_al A' (by rw [l2]; simp; omega)))
theorem own_eqI {args : Array Value} {first s : State} {o : Option Outcome} {idx : List Nat} {a : Term} {k : Int32} (q : (Jvm.Cond.eq a (Jvm.Term.int k)).value args first o s idx = some true) : a.eval args first o idx s = some (.int k) := by
  obtain ⟨x, y, h1, h2, h3, h4⟩ := cmp_v (Or.inl q)
  have h5 : y = .int k := (Option.some.inj ((Term.int_eval k).symm.trans h2)).symm
  subst h5
  obtain ⟨z, rfl⟩ := h4
  have h6 : z = k := gotT (Cond.eq_ints h1 h2) q
  rw [h1, h6]
theorem own_nar_ref {v : Value} {C : String} (q : v.isRef = true) : narrow (.object C) v = v := by cases v <;> simp [Value.isRef] at q <;> rfl
theorem own_fit_ref {v : Value} {C : String} (q : v.isRef = true) : fits (.object C) v = true := by cases v <;> simp [Value.isRef] at q <;> rfl
theorem own_sixteen (x : Int32) : (x.toBitVec.toNat < 2147483648 ∧ x.toInt = (x.toBitVec.toNat : Int)) ∨ (2147483648 ≤ x.toBitVec.toNat ∧ x.toInt = (x.toBitVec.toNat : Int) - 4294967296) := by
  have h1 : x.toInt = x.toBitVec.toInt := rfl
  have h2 := x.toBitVec.isLt
  rw [h1, BitVec.toInt_eq_toNat_cond]; split <;> omega
end OwnKit

def own_mid (v : Int64) : Int32 := ((v &&& (127 : Int64)) ||| (128 : Int64)).toInt32.toInt8.toInt32
def own_last (v : Int64) : Int32 := v.toInt32.toInt8.toInt32
def own_fill : Nat → List Value → Nat → Int64 → List Value
  | 0, vs, i, v => vs.set i (.int (own_last v))
  | L + 1, vs, i, v => own_fill L (vs.set i (.int (own_mid v))) (i + 1) (XT.ushrL v (7 : Int32))
def own_it : Nat → Int64 → Int64
  | 0, v => v
  | k + 1, v => own_it k (XT.ushrL v (7 : Int32))
theorem own_fill_get : ∀ (L : Nat) (vs : List Value) (i : Nat) (v : Int64) (j : Nat), i + L < vs.length →
    (own_fill L vs i v)[j]? = if j < i then vs[j]? else if j < i + L then some (.int (own_mid (own_it (j - i) v))) else if j = i + L then some (.int (own_last (own_it L v))) else vs[j]? := by
  intro L
  induction L with
  | zero =>
    intro vs i v j h
    unfold own_fill own_it
    by_cases q1 : j < i
    · rw [if_pos q1, List.getElem?_set_ne (by omega)]
    · rw [if_neg q1, if_neg (by omega)]
      by_cases q2 : j = i
      · subst q2; rw [if_pos (by omega), List.getElem?_set_self (by omega)]
      · rw [if_neg (by omega), List.getElem?_set_ne (by omega)]
  | succ L ih =>
    intro vs i v j h
    unfold own_fill
    rw [ih _ _ _ _ (by rw [List.length_set]; omega)]
    by_cases q1 : j < i
    · rw [if_pos (show j < i + 1 by omega), if_pos q1, List.getElem?_set_ne (by omega)]
    · rw [if_neg q1]
      by_cases q2 : j = i
      · subst q2
        rw [if_pos (show j < j + 1 by omega), if_pos (show j < j + (L + 1) by omega), List.getElem?_set_self (by omega), Nat.sub_self]
        rfl
      · rw [if_neg (show ¬ j < i + 1 by omega)]
        by_cases q3 : j < i + 1 + L
        · rw [if_pos q3, if_pos (show j < i + (L + 1) by omega)]
          obtain ⟨d, hd⟩ : ∃ d, j - i = d + 1 := ⟨j - i - 1, by omega⟩
          rw [hd, show j - (i + 1) = d by omega]
          rfl
        · rw [if_neg q3, if_neg (show ¬ j < i + (L + 1) by omega)]
          by_cases q4 : j = i + 1 + L
          · rw [if_pos q4, if_pos (show j = i + (L + 1) by omega)]; rfl
          · rw [if_neg q4, if_neg (show ¬ j = i + (L + 1) by omega), List.getElem?_set_ne (by omega)]
theorem own_it_bv : ∀ (k : Nat) (v : Int64), (own_it k v).toBitVec = v.toBitVec >>> (7 * k) := by
  intro k
  induction k with
  | zero => intro v; unfold own_it; simp
  | succ k ih =>
    intro v
    unfold own_it
    rw [ih]
    have e : (XT.ushrL v (7 : Int32)).toBitVec = v.toBitVec >>> 7 := rfl
    rw [e, ← BitVec.shiftRight_add]
    congr 1; omega
theorem own_shk (v : Int64) (k : Nat) (hk : k ≤ 8) : XT.ushrL v ((7 : Int32) * Int32.ofNat k) = own_it k v := by
  apply Int64.toBitVec_inj.mp
  rw [own_it_bv]
  match k, hk with
  | 0, _ => rfl
  | 1, _ => rfl
  | 2, _ => rfl
  | 3, _ => rfl
  | 4, _ => rfl
  | 5, _ => rfl
  | 6, _ => rfl
  | 7, _ => rfl
  | 8, _ => rfl
theorem own_hi (b : BitVec 64) : b &&& 0xffffffffffffff80#64 = (b >>> 7) <<< 7 := by
  have hm : ∀ i : Fin 64, (0xffffffffffffff80#64).getLsbD i.val = decide (7 ≤ i.val) := by decide
  apply BitVec.eq_of_getLsbD_eq
  intro i hi
  have := hm ⟨i, hi⟩
  simp only at this
  rw [BitVec.getLsbD_and, this, BitVec.getLsbD_shiftLeft, BitVec.getLsbD_ushiftRight]
  by_cases q : 7 ≤ i
  · have e1 : 7 + (i - 7) = i := by omega
    simp [q, hi, e1, Nat.not_lt.mpr q]
  · simp [q, Nat.lt_of_not_le q]
theorem own_small (v : Int64) : v &&& (-128 : Int64) = 0 ↔ v.toBitVec.toNat < 128 := by
  have h1 : v &&& (-128 : Int64) = 0 ↔ v.toBitVec &&& 0xffffffffffffff80#64 = 0#64 := by
    rw [← Int64.toBitVec_inj]; rfl
  rw [h1, own_hi, ← BitVec.toNat_inj]
  have h3 := v.toBitVec.isLt
  simp only [BitVec.toNat_shiftLeft, BitVec.toNat_ushiftRight, Nat.shiftRight_eq_div_pow, Nat.shiftLeft_eq, BitVec.toNat_ofNat, Nat.reducePow, Nat.reduceMod]
  omega
theorem own_low (v : Int64) (h : v.toBitVec.toNat < 128) : v &&& (127 : Int64) = v := by
  apply Int64.toBitVec_inj.mp
  rw [← BitVec.toNat_inj]
  show (v.toBitVec &&& 127#64).toNat = _
  rw [BitVec.toNat_and, show (127#64).toNat = 2 ^ 7 - 1 from rfl, Nat.and_two_pow_sub_one_eq_mod]
  omega
theorem own_val (v : Int64) (k : Int32) : (XT.ushrL (v &&& (9223372036854775807 : Int64)) k).toBitVec.toNat < 2 ^ 63 := by
  have h : (v &&& (9223372036854775807 : Int64)).toBitVec.toNat < 2 ^ 63 := by
    show (v.toBitVec &&& 9223372036854775807#64).toNat < _
    rw [BitVec.toNat_and, show (9223372036854775807#64).toNat = 2 ^ 63 - 1 from rfl, Nat.and_two_pow_sub_one_eq_mod]
    omega
  generalize v &&& (9223372036854775807 : Int64) = y at *
  obtain ⟨n, hn⟩ : ∃ n : Nat, (XT.ushrL y k).toBitVec = y.toBitVec >>> n := ⟨_, rfl⟩
  rw [hn, BitVec.toNat_ushiftRight, Nat.shiftRight_eq_div_pow]
  exact Nat.lt_of_le_of_lt (Nat.div_le_self _ _) h
theorem own_toInt (v : Int64) (h : v.toBitVec.toNat < 2 ^ 63) : v.toInt = (v.toBitVec.toNat : Int) := by
  show v.toBitVec.toInt = _
  rw [BitVec.toInt_eq_toNat_cond]; split <;> omega
def own_i (x c : Int64) (r : Int32) : Int32 := if x < c then r else r + (1 : Int32)
def own_len (x : Int64) : Int32 := (own_i x (72057594037927936 : Int64) (own_i x (562949953421312 : Int64) (own_i x (4398046511104 : Int64) (own_i x (34359738368 : Int64) (own_i x (268435456 : Int64) (own_i x (2097152 : Int64) (own_i x (16384 : Int64) (own_i x (128 : Int64) (1 : Int32)))))))))
theorem own_lens (x : Int64) (h : x.toBitVec.toNat < 2 ^ 63) : ∃ L : Nat, L ≤ 8 ∧ own_len x = Int32.ofNat (L + 1) ∧ (∀ k, k < L → ¬ (own_it k x).toBitVec.toNat < 128) ∧ (own_it L x).toBitVec.toNat < 128 := by
  have ht := own_toInt x h
  have hit : ∀ k, (own_it k x).toBitVec.toNat = x.toBitVec.toNat / 2 ^ (7 * k) := fun k => by rw [own_it_bv, BitVec.toNat_ushiftRight, Nat.shiftRight_eq_div_pow]
  have hlt : ∀ c : Int64, (x < c) = ((x.toBitVec.toNat : Int) < c.toInt) := fun c => by rw [Int64.lt_iff_toInt_lt, ht]
  unfold own_len own_i
  simp only [hit, hlt]
  have e1 : (128 : Int64).toInt = 128 := rfl
  have e2 : (16384 : Int64).toInt = 16384 := rfl
  have e3 : (2097152 : Int64).toInt = 2097152 := rfl
  have e4 : (268435456 : Int64).toInt = 268435456 := rfl
  have e5 : (34359738368 : Int64).toInt = 34359738368 := rfl
  have e6 : (4398046511104 : Int64).toInt = 4398046511104 := rfl
  have e7 : (562949953421312 : Int64).toInt = 562949953421312 := rfl
  have e8 : (72057594037927936 : Int64).toInt = 72057594037927936 := rfl
  simp only [e1, e2, e3, e4, e5, e6, e7, e8]
  generalize x.toBitVec.toNat = N at *
  clear hit hlt ht
  have pk : ∀ L k : Nat, k < L → L ≤ 8 → 2 ^ (7 * L) ≤ N → ¬ N / 2 ^ (7 * k) < 128 := by
    intro L k hk hL hN q
    rw [Nat.div_lt_iff_lt_mul (Nat.two_pow_pos _)] at q
    have : 128 * 2 ^ (7 * k) ≤ 2 ^ (7 * L) := by
      rw [show 128 = 2 ^ 7 from rfl, ← Nat.pow_add]
      exact Nat.pow_le_pow_right (by decide) (by omega)
    omega
  rcases Nat.lt_or_ge N 128 with q0 | q0
  · refine ⟨0, by omega, by rw [if_pos (show (N : Int) < 72057594037927936 by omega), if_pos (show (N : Int) < 562949953421312 by omega), if_pos (show (N : Int) < 4398046511104 by omega), if_pos (show (N : Int) < 34359738368 by omega), if_pos (show (N : Int) < 268435456 by omega), if_pos (show (N : Int) < 2097152 by omega), if_pos (show (N : Int) < 16384 by omega), if_pos (show (N : Int) < 128 by omega)]; rfl, fun k hk => by omega, by omega⟩
  rcases Nat.lt_or_ge N 16384 with q1 | q1
  · refine ⟨1, by omega, by rw [if_pos (show (N : Int) < 72057594037927936 by omega), if_pos (show (N : Int) < 562949953421312 by omega), if_pos (show (N : Int) < 4398046511104 by omega), if_pos (show (N : Int) < 34359738368 by omega), if_pos (show (N : Int) < 268435456 by omega), if_pos (show (N : Int) < 2097152 by omega), if_pos (show (N : Int) < 16384 by omega), if_neg (show ¬ ((N : Int) < 128) by omega)]; rfl, fun k hk => pk 1 k hk (by omega) (by omega), by omega⟩
  rcases Nat.lt_or_ge N 2097152 with q2 | q2
  · refine ⟨2, by omega, by rw [if_pos (show (N : Int) < 72057594037927936 by omega), if_pos (show (N : Int) < 562949953421312 by omega), if_pos (show (N : Int) < 4398046511104 by omega), if_pos (show (N : Int) < 34359738368 by omega), if_pos (show (N : Int) < 268435456 by omega), if_pos (show (N : Int) < 2097152 by omega), if_neg (show ¬ ((N : Int) < 16384) by omega), if_neg (show ¬ ((N : Int) < 128) by omega)]; rfl, fun k hk => pk 2 k hk (by omega) (by omega), by omega⟩
  rcases Nat.lt_or_ge N 268435456 with q3 | q3
  · refine ⟨3, by omega, by rw [if_pos (show (N : Int) < 72057594037927936 by omega), if_pos (show (N : Int) < 562949953421312 by omega), if_pos (show (N : Int) < 4398046511104 by omega), if_pos (show (N : Int) < 34359738368 by omega), if_pos (show (N : Int) < 268435456 by omega), if_neg (show ¬ ((N : Int) < 2097152) by omega), if_neg (show ¬ ((N : Int) < 16384) by omega), if_neg (show ¬ ((N : Int) < 128) by omega)]; rfl, fun k hk => pk 3 k hk (by omega) (by omega), by omega⟩
  rcases Nat.lt_or_ge N 34359738368 with q4 | q4
  · refine ⟨4, by omega, by rw [if_pos (show (N : Int) < 72057594037927936 by omega), if_pos (show (N : Int) < 562949953421312 by omega), if_pos (show (N : Int) < 4398046511104 by omega), if_pos (show (N : Int) < 34359738368 by omega), if_neg (show ¬ ((N : Int) < 268435456) by omega), if_neg (show ¬ ((N : Int) < 2097152) by omega), if_neg (show ¬ ((N : Int) < 16384) by omega), if_neg (show ¬ ((N : Int) < 128) by omega)]; rfl, fun k hk => pk 4 k hk (by omega) (by omega), by omega⟩
  rcases Nat.lt_or_ge N 4398046511104 with q5 | q5
  · refine ⟨5, by omega, by rw [if_pos (show (N : Int) < 72057594037927936 by omega), if_pos (show (N : Int) < 562949953421312 by omega), if_pos (show (N : Int) < 4398046511104 by omega), if_neg (show ¬ ((N : Int) < 34359738368) by omega), if_neg (show ¬ ((N : Int) < 268435456) by omega), if_neg (show ¬ ((N : Int) < 2097152) by omega), if_neg (show ¬ ((N : Int) < 16384) by omega), if_neg (show ¬ ((N : Int) < 128) by omega)]; rfl, fun k hk => pk 5 k hk (by omega) (by omega), by omega⟩
  rcases Nat.lt_or_ge N 562949953421312 with q6 | q6
  · refine ⟨6, by omega, by rw [if_pos (show (N : Int) < 72057594037927936 by omega), if_pos (show (N : Int) < 562949953421312 by omega), if_neg (show ¬ ((N : Int) < 4398046511104) by omega), if_neg (show ¬ ((N : Int) < 34359738368) by omega), if_neg (show ¬ ((N : Int) < 268435456) by omega), if_neg (show ¬ ((N : Int) < 2097152) by omega), if_neg (show ¬ ((N : Int) < 16384) by omega), if_neg (show ¬ ((N : Int) < 128) by omega)]; rfl, fun k hk => pk 6 k hk (by omega) (by omega), by omega⟩
  rcases Nat.lt_or_ge N 72057594037927936 with q7 | q7
  · refine ⟨7, by omega, by rw [if_pos (show (N : Int) < 72057594037927936 by omega), if_neg (show ¬ ((N : Int) < 562949953421312) by omega), if_neg (show ¬ ((N : Int) < 4398046511104) by omega), if_neg (show ¬ ((N : Int) < 34359738368) by omega), if_neg (show ¬ ((N : Int) < 268435456) by omega), if_neg (show ¬ ((N : Int) < 2097152) by omega), if_neg (show ¬ ((N : Int) < 16384) by omega), if_neg (show ¬ ((N : Int) < 128) by omega)]; rfl, fun k hk => pk 7 k hk (by omega) (by omega), by omega⟩
  refine ⟨8, by omega, by rw [if_neg (show ¬ ((N : Int) < 72057594037927936) by omega), if_neg (show ¬ ((N : Int) < 562949953421312) by omega), if_neg (show ¬ ((N : Int) < 4398046511104) by omega), if_neg (show ¬ ((N : Int) < 34359738368) by omega), if_neg (show ¬ ((N : Int) < 268435456) by omega), if_neg (show ¬ ((N : Int) < 2097152) by omega), if_neg (show ¬ ((N : Int) < 16384) by omega), if_neg (show ¬ ((N : Int) < 128) by omega)]; rfl, fun k hk => pk 8 k hk (by omega) (by omega), by omega⟩
theorem own_ofi (k : Nat) (hk : k < 2147483648) : (Int32.ofNat k).toInt = (k : Int) := Int32.toInt_ofNat_of_lt hk
def own_part (v : Int64) (k len : Int32) : Int64 := if k < len - (1 : Int32) then ((XT.ushrL v ((7 : Int32) * k)) &&& (127 : Int64)) ||| (128 : Int64) else (XT.ushrL v ((7 : Int32) * k)) &&& (127 : Int64)
def own_exp (v : Int64) (i a len fill : Int32) : Int32 := if (i - a) < 0 ∨ ¬ (i - a) < len then fill else (own_part v (i - a) len).toInt32.toInt8.toInt32
theorem own_okp (v : Int64) (hv : v.toBitVec.toNat < 2 ^ 63) (a fill : Int32) (ai : Nat) (ha : a.toInt = (ai : Int)) (ha3 : ai ≤ 3) (L : Nat) (hL : L ≤ 8) (hlast : (own_it L v).toBitVec.toNat < 128) (i : Nat) (hi : i < 13) :
    (own_fill L (List.replicate 13 (.int fill)) ai v)[i]? = some (.int (own_exp v (Int32.ofNat i) a (Int32.ofNat (L + 1)) fill)) := by
  rw [own_fill_get _ _ _ _ _ (by rw [List.length_replicate]; omega)]
  have h1 := own_ofi i (by omega)
  have h2 := own_ofi (L + 1) (by omega)
  have h3 := c_isub (Int32.ofNat i) a
  have h4 := rng32 (Int32.ofNat i - a)
  have h5 : (Int32.ofNat i - a).toInt = (i : Int) - ai := by omega
  have e0 : (0 : Int32).toInt = 0 := rfl
  have rep : (List.replicate 13 (Value.int fill))[i]? = some (.int fill) := by rw [List.getElem?_replicate, if_pos hi]
  unfold own_exp
  simp only [Int32.lt_iff_toInt_lt, h5, h2, e0]
  by_cases q1 : i < ai
  · rw [if_pos q1, rep, if_pos (Or.inl (by omega))]
  · rw [if_neg q1]
    obtain ⟨k, hk⟩ : ∃ k, i = ai + k := ⟨i - ai, by omega⟩
    have hki : Int32.ofNat i - a = Int32.ofNat k := by
      apply Int32.toInt_inj.mp; rw [h5, own_ofi k (by omega)]; omega
    have hl1 : (Int32.ofNat (L + 1) - (1 : Int32)).toInt = (L : Int) := by
      have q := c_isub (Int32.ofNat (L + 1)) 1
      have q2 := rng32 (Int32.ofNat (L + 1) - 1)
      have q3 : (1 : Int32).toInt = 1 := rfl
      omega
    by_cases q2 : i < ai + L
    · rw [if_pos q2, if_neg (by omega), hki]
      unfold own_part
      rw [if_pos (by rw [Int32.lt_iff_toInt_lt, hl1, own_ofi k (by omega)]; omega), own_shk v k (by omega), show i - ai = k by omega]
      rfl
    · rw [if_neg q2]
      by_cases q3 : i = ai + L
      · rw [if_pos q3, if_neg (by omega), hki]
        unfold own_part
        rw [if_neg (by rw [Int32.lt_iff_toInt_lt, hl1, own_ofi k (by omega)]; omega), own_shk v k (by omega), show k = L by omega, own_low _ hlast]
        rfl
      · rw [if_neg q3, rep, if_pos (Or.inr (by omega))]

theorem d1_0 : decode prog_72_method_14_code 0 = .ok (.iload_n 1, 1) := by decide +kernel
theorem d1_1 : decode prog_72_method_14_code 1 = .ok (.istore 4, 2) := by decide +kernel
theorem d1_3 : decode prog_72_method_14_code 3 = .ok (.lload_n 2, 1) := by decide +kernel
theorem d1_4 : decode prog_72_method_14_code 4 = .ok (.lstore 5, 2) := by decide +kernel
theorem d1_6 : decode prog_72_method_14_code 6 = .ok (.lload 5, 2) := by decide +kernel
theorem d1_8 : decode prog_72_method_14_code 8 = .ok (.ldc2_w 128, 3) := by decide +kernel
theorem d1_11 : decode prog_72_method_14_code 11 = .ok (.land, 1) := by decide +kernel
theorem d1_12 : decode prog_72_method_14_code 12 = .ok (.lconst 0, 1) := by decide +kernel
theorem d1_13 : decode prog_72_method_14_code 13 = .ok (.lcmp, 1) := by decide +kernel
theorem d1_14 : decode prog_72_method_14_code 14 = .ok (.ifCond .eq 32, 3) := by decide +kernel
theorem d1_17 : decode prog_72_method_14_code 17 = .ok (.aload_n 0, 1) := by decide +kernel
theorem d1_18 : decode prog_72_method_14_code 18 = .ok (.iload 4, 2) := by decide +kernel
theorem d1_20 : decode prog_72_method_14_code 20 = .ok (.iinc 4 1, 3) := by decide +kernel
theorem d1_23 : decode prog_72_method_14_code 23 = .ok (.lload 5, 2) := by decide +kernel
theorem d1_25 : decode prog_72_method_14_code 25 = .ok (.ldc2_w 130, 3) := by decide +kernel
theorem d1_28 : decode prog_72_method_14_code 28 = .ok (.land, 1) := by decide +kernel
theorem d1_29 : decode prog_72_method_14_code 29 = .ok (.ldc2_w 132, 3) := by decide +kernel
theorem d1_32 : decode prog_72_method_14_code 32 = .ok (.lor, 1) := by decide +kernel
theorem d1_33 : decode prog_72_method_14_code 33 = .ok (.l2i, 1) := by decide +kernel
theorem d1_34 : decode prog_72_method_14_code 34 = .ok (.i2b, 1) := by decide +kernel
theorem d1_35 : decode prog_72_method_14_code 35 = .ok (.bastore, 1) := by decide +kernel
theorem d1_36 : decode prog_72_method_14_code 36 = .ok (.lload 5, 2) := by decide +kernel
theorem d1_38 : decode prog_72_method_14_code 38 = .ok (.bipush 7, 2) := by decide +kernel
theorem d1_40 : decode prog_72_method_14_code 40 = .ok (.lushr, 1) := by decide +kernel
theorem d1_41 : decode prog_72_method_14_code 41 = .ok (.lstore 5, 2) := by decide +kernel
theorem d1_43 : decode prog_72_method_14_code 43 = .ok (.goto (-37), 3) := by decide +kernel
theorem d1_46 : decode prog_72_method_14_code 46 = .ok (.aload_n 0, 1) := by decide +kernel
theorem d1_47 : decode prog_72_method_14_code 47 = .ok (.iload 4, 2) := by decide +kernel
theorem d1_49 : decode prog_72_method_14_code 49 = .ok (.iinc 4 1, 3) := by decide +kernel
theorem d1_52 : decode prog_72_method_14_code 52 = .ok (.lload 5, 2) := by decide +kernel
theorem d1_54 : decode prog_72_method_14_code 54 = .ok (.l2i, 1) := by decide +kernel
theorem d1_55 : decode prog_72_method_14_code 55 = .ok (.i2b, 1) := by decide +kernel
theorem d1_56 : decode prog_72_method_14_code 56 = .ok (.bastore, 1) := by decide +kernel
theorem d1_57 : decode prog_72_method_14_code 57 = .ok (.iload 4, 2) := by decide +kernel
theorem d1_59 : decode prog_72_method_14_code 59 = .ok (.ireturn, 1) := by decide +kernel
theorem pf_0 : plainFor (⟨"com/example/tallyrank/tallyrank/index/Output", "putVariable", "([BIJ)I"⟩ : MethodName) = true := by first | exact plainFor_of_name (by first | (simp [plainName, overriddenIn]; done) | decide +kernel) | decide +kernel
theorem ef_1_rmP (m : MethodId) (a : Addr) (p2 : Int32) (q3 : Int64) (vs0 : List Value) (i0 : Nat) (L0 : Nat)  : entryFrame m #[(.ref a), (.int p2), (.long q3)] 7 = mkF m 0 #[.val (.ref a), .val (.int p2), .val (.long q3), .second, .unset, .unset, .unset] [] := by first | (simp [entryFrame, mkF, argsToLocals, Value.category, maxLocals]; done) | rfl
def Q_rmP (Z : State) (a : Addr) (p2 : Int32) (q3 : Int64) (vs0 : List Value) (i0 : Nat) (L0 : Nat) (h0 : Heap) (n0 : Nat) (v : Option Value) (h : Heap) (L : List Loc) : Prop := v = some (.int (Int32.ofNat (i0 + L0 + 1))) ∧ Fr n0 L ∧ Keep h0 h [a] ∧ Al Z h a .byte (own_fill L0 vs0 i0 q3)
set_option maxRecDepth 65536 in
set_option maxHeartbeats 40000000 in
theorem rmP (l : Launch) (Z : State) (a0 : Array Value) (hw : ∀ d ∈ tables_1, d.before a0 Z = true) (ws : List Jvm.Cond) (a : Addr) (p2 : Int32) (q3 : Int64) (vs0 : List Value) (i0 : Nat) (L0 : Nat) (h0 : Heap) (n0 : Nat) (Z0 : n0 ≤ h0.size) (Aa : Al Z h0 a .byte vs0) (ga : n0 ≤ a) (hi0 : p2.toInt = (i0 : Int)) (hin : i0 + L0 < vs0.length) (hbig : vs0.length ≤ 13) (hgo : ∀ k, k < L0 → ¬ (own_it k q3).toBitVec.toNat < 128) (hst : (own_it L0 q3).toBitVec.toNat < 128) :
    OwnMet l Z (⟨"com/example/tallyrank/tallyrank/index/Output", "putVariable", "([BIJ)I"⟩ : MethodName) prog_72_method_14_code 7 (some .int) ws ({ frames := 0, cells := 0, slots := 0, locals := 0 } : Room) #[(.ref a), (.int p2), (.long q3)] h0 (Q_rmP Z a p2 q3 vs0 i0 L0 h0 n0) := by
  refine own_body pf_0 ?_
  intro p e s m below meth c s₁ hx hby hml hown hnm hret hlk hZ X0 e0
  have N0 := Fr.nil n0
  refine own_cast (ef_1_rmP m a p2 q3 vs0 i0 L0 ) ?_
  refine g_iload_n X0 hx 1 rfl (hb hby d1_0) rfl ?_
  refine g_istore X0 hx 3 rfl (hb hby d1_1) #[.val (.ref a), .val (.int p2), .val (.long q3), .second, .val (.int p2), .unset, .unset] rfl ?_
  refine g_lload_n X0 hx 4 rfl (hb hby d1_3) rfl ?_
  refine g_lstore X0 hx 6 rfl (hb hby d1_4) #[.val (.ref a), .val (.int p2), .val (.long q3), .second, .val (.int p2), .val (.long q3), .second] rfl ?_
  have loop : ∀ (L : Nat) (vs : List Value) (i : Nat) (ii : Int32) (v : Int64) (T : State) (h : Heap) (locs : List Loc), Stand p l e ({ frames := 0, cells := 0, slots := 0, locals := 0 } : Room) s m #[(.ref a), (.int p2), (.long q3)] below meth c T locs 0 0 → T.heap = h → Fr n0 locs → Al Z h a .byte vs → Keep h0 h [a] → ii.toInt = (i : Int) → own_fill L vs i v = own_fill L0 vs0 i0 q3 → i + L + 1 = i0 + L0 + 1 → i + L < vs.length → vs.length ≤ 13 → (∀ k, k < L → ¬ (own_it k v).toBitVec.toNat < 128) → (own_it L v).toBitVec.toNat < 128 → Goes p e below (T.setTop (mkF m 6 #[.val (.ref a), .val (.int p2), .val (.long q3), .second, .val (.int ii), .val (.long v), .second] [])) (Endz s ({ frames := 0, cells := 0, slots := 0, locals := 0 } : Room).cells ({ frames := 0, cells := 0, slots := 0, locals := 0 } : Room).slots (Q_rmP Z a p2 q3 vs0 i0 L0 h0 n0)) := by
    intro L
    induction L with
    | zero =>
      intro vs i ii v T h locs X eT N A Kp hii hf hE hlt hbd hgo hst
      refine g_lload X hx 8 rfl (hb hby d1_6) rfl ?_
      refine g_ldcJ X hx 11 rfl hown hZ (hw _ (List.mem_of_getElem? (i := 7) rfl)) (hb hby d1_8) ?_
      refine g_land X hx 12 rfl (hb hby d1_11) ?_
      refine g_lconst X hx 13 rfl (0 : Int64) rfl (hb hby d1_12) ?_
      refine g_lcmp X hx 14 rfl (hb hby d1_13) ?_
      refine g_ifY X hx 46 (hb hby d1_14) (XT.ll_eq_t ((own_small v).mpr hst)) (by decide) (by decide) ?_
      refine g_aload_n X hx 47 rfl (hb hby d1_46) rfl rfl ?_
      refine g_iload X hx 49 rfl (hb hby d1_47) rfl ?_
      refine g_iinc X hx 52 rfl (hb hby d1_49) (ii + (1 : Int32)) rfl rfl #[.val (.ref a), .val (.int p2), .val (.long q3), .second, .val (.int (ii + (1 : Int32))), .val (.long v), .second] rfl ?_
      refine g_lload X hx 54 rfl (hb hby d1_52) rfl ?_
      refine g_l2i X hx 55 rfl (hb hby d1_54) ?_
      refine g_i2b X hx 56 rfl (hb hby d1_55) ?_
      refine g_bastore X hx hZ 57 rfl (hb hby d1_56) eT A i hii (by omega) ?_
      intro T1 h1 X1 e1 W1 B1
      rw [show nar .byte v.toInt32.toInt8.toInt32 = v.toInt32.toInt8.toInt32 from (own_narb _)] at B1
      have N1 := Fr.snoc X1 N ga
      refine g_iload X1 hx 59 rfl (hb hby d1_57) rfl ?_
      have hr : ii + (1 : Int32) = Int32.ofNat (i0 + L0 + 1) := by
        have h1 := c_iadd ii 1; have h2 := rng32 (ii + 1); have h3 := own_ofi (i0 + L0 + 1) (by omega); have h4 : (1 : Int32).toInt = 1 := rfl
        apply Int32.toInt_inj.mp; omega
      have hAl := B1
      have hAl2 : Al Z h1 a .byte (own_fill L0 vs0 i0 q3) := hf ▸ hAl
      exact g_retI X1 hx hret hlk (hb hby d1_59) (by rw [e1]; exact ⟨congrArg (fun z => some (Value.int z)) hr, N1, (Kp.wr W1 (Or.inl (List.mem_of_getElem? (i := 0) rfl))), hAl2⟩) (by decide) (by decide)
    | succ L ih =>
      intro vs i ii v T h locs X eT N A Kp hii hf hE hlt hbd hgo hst
      refine g_lload X hx 8 rfl (hb hby d1_6) rfl ?_
      refine g_ldcJ X hx 11 rfl hown hZ (hw _ (List.mem_of_getElem? (i := 7) rfl)) (hb hby d1_8) ?_
      refine g_land X hx 12 rfl (hb hby d1_11) ?_
      refine g_lconst X hx 13 rfl (0 : Int64) rfl (hb hby d1_12) ?_
      refine g_lcmp X hx 14 rfl (hb hby d1_13) ?_
      refine g_ifN X hx 17 rfl (hb hby d1_14) (XT.ll_eq_f (fun q => hgo 0 (by omega) ((own_small v).mp q))) ?_
      refine g_aload_n X hx 18 rfl (hb hby d1_17) rfl rfl ?_
      refine g_iload X hx 20 rfl (hb hby d1_18) rfl ?_
      refine g_iinc X hx 23 rfl (hb hby d1_20) (ii + (1 : Int32)) rfl rfl #[.val (.ref a), .val (.int p2), .val (.long q3), .second, .val (.int (ii + (1 : Int32))), .val (.long v), .second] rfl ?_
      refine g_lload X hx 25 rfl (hb hby d1_23) rfl ?_
      refine g_ldcJ X hx 28 rfl hown hZ (hw _ (List.mem_of_getElem? (i := 24) rfl)) (hb hby d1_25) ?_
      refine g_land X hx 29 rfl (hb hby d1_28) ?_
      refine g_ldcJ X hx 32 rfl hown hZ (hw _ (List.mem_of_getElem? (i := 25) rfl)) (hb hby d1_29) ?_
      refine g_lor X hx 33 rfl (hb hby d1_32) ?_
      refine g_l2i X hx 34 rfl (hb hby d1_33) ?_
      refine g_i2b X hx 35 rfl (hb hby d1_34) ?_
      refine g_bastore X hx hZ 36 rfl (hb hby d1_35) eT A i hii (by omega) ?_
      intro T2 h2 X2 e2 W2 B2
      rw [show nar .byte ((((v &&& (127 : Int64)) ||| (128 : Int64)).toInt32).toInt8.toInt32) = ((((v &&& (127 : Int64)) ||| (128 : Int64)).toInt32).toInt8.toInt32) from (own_narb _)] at B2
      have N2 := Fr.snoc X2 N ga
      refine g_lload X2 hx 38 rfl (hb hby d1_36) rfl ?_
      refine g_bipush X2 hx 40 rfl (7 : Int32) rfl (hb hby d1_38) ?_
      refine g_lushr X2 hx 41 rfl (hb hby d1_40) ?_
      refine g_lstore X2 hx 43 rfl (hb hby d1_41) #[.val (.ref a), .val (.int p2), .val (.long q3), .second, .val (.int (ii + (1 : Int32))), .val (.long (XT.ushrL v (7 : Int32))), .second] rfl ?_
      refine g_goto X2 hx 6 (hb hby d1_43) (by decide) (by decide) ?_
      exact ih (vs.set i (.int (own_mid v))) (i + 1) _ _ _ _ _ X2 e2 N2 B2 (Kp.wr W2 (Or.inl (List.mem_of_getElem? (i := 0) rfl))) (by have h1 := c_iadd ii 1; have h2 := rng32 (ii + 1); have h4 : (1 : Int32).toInt = 1 := rfl; omega) hf (by omega) (by rw [List.length_set]; omega) (by rw [List.length_set]; omega) (fun k hk => hgo (k + 1) (by omega)) hst
  exact loop L0 vs0 i0 p2 q3 s₁ h0 [] X0 e0 N0 Aa (Keep.refl _ _) hi0 rfl rfl hin hbig hgo hst
theorem d2_0 : decode method_3_code 0 = .ok (.iconst 1, 1) := by decide +kernel
theorem d2_1 : decode method_3_code 1 = .ok (.istore_n 2, 1) := by decide +kernel
theorem d2_2 : decode method_3_code 2 = .ok (.lload_n 0, 1) := by decide +kernel
theorem d2_3 : decode method_3_code 3 = .ok (.ldc2_w 28, 3) := by decide +kernel
theorem d2_6 : decode method_3_code 6 = .ok (.lcmp, 1) := by decide +kernel
theorem d2_7 : decode method_3_code 7 = .ok (.ifCond .lt 7, 3) := by decide +kernel
theorem d2_10 : decode method_3_code 10 = .ok (.iload_n 2, 1) := by decide +kernel
theorem d2_11 : decode method_3_code 11 = .ok (.iconst 1, 1) := by decide +kernel
theorem d2_12 : decode method_3_code 12 = .ok (.iadd, 1) := by decide +kernel
theorem d2_13 : decode method_3_code 13 = .ok (.istore_n 2, 1) := by decide +kernel
theorem d2_14 : decode method_3_code 14 = .ok (.lload_n 0, 1) := by decide +kernel
theorem d2_15 : decode method_3_code 15 = .ok (.ldc2_w 30, 3) := by decide +kernel
theorem d2_18 : decode method_3_code 18 = .ok (.lcmp, 1) := by decide +kernel
theorem d2_19 : decode method_3_code 19 = .ok (.ifCond .lt 7, 3) := by decide +kernel
theorem d2_22 : decode method_3_code 22 = .ok (.iload_n 2, 1) := by decide +kernel
theorem d2_23 : decode method_3_code 23 = .ok (.iconst 1, 1) := by decide +kernel
theorem d2_24 : decode method_3_code 24 = .ok (.iadd, 1) := by decide +kernel
theorem d2_25 : decode method_3_code 25 = .ok (.istore_n 2, 1) := by decide +kernel
theorem d2_26 : decode method_3_code 26 = .ok (.lload_n 0, 1) := by decide +kernel
theorem d2_27 : decode method_3_code 27 = .ok (.ldc2_w 32, 3) := by decide +kernel
theorem d2_30 : decode method_3_code 30 = .ok (.lcmp, 1) := by decide +kernel
theorem d2_31 : decode method_3_code 31 = .ok (.ifCond .lt 7, 3) := by decide +kernel
theorem d2_34 : decode method_3_code 34 = .ok (.iload_n 2, 1) := by decide +kernel
theorem d2_35 : decode method_3_code 35 = .ok (.iconst 1, 1) := by decide +kernel
theorem d2_36 : decode method_3_code 36 = .ok (.iadd, 1) := by decide +kernel
theorem d2_37 : decode method_3_code 37 = .ok (.istore_n 2, 1) := by decide +kernel
theorem d2_38 : decode method_3_code 38 = .ok (.lload_n 0, 1) := by decide +kernel
theorem d2_39 : decode method_3_code 39 = .ok (.ldc2_w 34, 3) := by decide +kernel
theorem d2_42 : decode method_3_code 42 = .ok (.lcmp, 1) := by decide +kernel
theorem d2_43 : decode method_3_code 43 = .ok (.ifCond .lt 7, 3) := by decide +kernel
theorem d2_46 : decode method_3_code 46 = .ok (.iload_n 2, 1) := by decide +kernel
theorem d2_47 : decode method_3_code 47 = .ok (.iconst 1, 1) := by decide +kernel
theorem d2_48 : decode method_3_code 48 = .ok (.iadd, 1) := by decide +kernel
theorem d2_49 : decode method_3_code 49 = .ok (.istore_n 2, 1) := by decide +kernel
theorem d2_50 : decode method_3_code 50 = .ok (.lload_n 0, 1) := by decide +kernel
theorem d2_51 : decode method_3_code 51 = .ok (.ldc2_w 36, 3) := by decide +kernel
theorem d2_54 : decode method_3_code 54 = .ok (.lcmp, 1) := by decide +kernel
theorem d2_55 : decode method_3_code 55 = .ok (.ifCond .lt 7, 3) := by decide +kernel
theorem d2_58 : decode method_3_code 58 = .ok (.iload_n 2, 1) := by decide +kernel
theorem d2_59 : decode method_3_code 59 = .ok (.iconst 1, 1) := by decide +kernel
theorem d2_60 : decode method_3_code 60 = .ok (.iadd, 1) := by decide +kernel
theorem d2_61 : decode method_3_code 61 = .ok (.istore_n 2, 1) := by decide +kernel
theorem d2_62 : decode method_3_code 62 = .ok (.lload_n 0, 1) := by decide +kernel
theorem d2_63 : decode method_3_code 63 = .ok (.ldc2_w 38, 3) := by decide +kernel
theorem d2_66 : decode method_3_code 66 = .ok (.lcmp, 1) := by decide +kernel
theorem d2_67 : decode method_3_code 67 = .ok (.ifCond .lt 7, 3) := by decide +kernel
theorem d2_70 : decode method_3_code 70 = .ok (.iload_n 2, 1) := by decide +kernel
theorem d2_71 : decode method_3_code 71 = .ok (.iconst 1, 1) := by decide +kernel
theorem d2_72 : decode method_3_code 72 = .ok (.iadd, 1) := by decide +kernel
theorem d2_73 : decode method_3_code 73 = .ok (.istore_n 2, 1) := by decide +kernel
theorem d2_74 : decode method_3_code 74 = .ok (.lload_n 0, 1) := by decide +kernel
theorem d2_75 : decode method_3_code 75 = .ok (.ldc2_w 40, 3) := by decide +kernel
theorem d2_78 : decode method_3_code 78 = .ok (.lcmp, 1) := by decide +kernel
theorem d2_79 : decode method_3_code 79 = .ok (.ifCond .lt 7, 3) := by decide +kernel
theorem d2_82 : decode method_3_code 82 = .ok (.iload_n 2, 1) := by decide +kernel
theorem d2_83 : decode method_3_code 83 = .ok (.iconst 1, 1) := by decide +kernel
theorem d2_84 : decode method_3_code 84 = .ok (.iadd, 1) := by decide +kernel
theorem d2_85 : decode method_3_code 85 = .ok (.istore_n 2, 1) := by decide +kernel
theorem d2_86 : decode method_3_code 86 = .ok (.lload_n 0, 1) := by decide +kernel
theorem d2_87 : decode method_3_code 87 = .ok (.ldc2_w 42, 3) := by decide +kernel
theorem d2_90 : decode method_3_code 90 = .ok (.lcmp, 1) := by decide +kernel
theorem d2_91 : decode method_3_code 91 = .ok (.ifCond .lt 7, 3) := by decide +kernel
theorem d2_94 : decode method_3_code 94 = .ok (.iload_n 2, 1) := by decide +kernel
theorem d2_95 : decode method_3_code 95 = .ok (.iconst 1, 1) := by decide +kernel
theorem d2_96 : decode method_3_code 96 = .ok (.iadd, 1) := by decide +kernel
theorem d2_97 : decode method_3_code 97 = .ok (.istore_n 2, 1) := by decide +kernel
theorem d2_98 : decode method_3_code 98 = .ok (.iload_n 2, 1) := by decide +kernel
theorem d2_99 : decode method_3_code 99 = .ok (.ireturn, 1) := by decide +kernel
theorem pf_1 : plainFor (⟨"com/example/tallyrank/tallyrank/index/OutputPutVariablePinLaw", "length", "(J)I"⟩ : MethodName) = true := by first | exact plainFor_of_name (by first | (simp [plainName, overriddenIn]; done) | decide +kernel) | decide +kernel
theorem ef_2_rmL (m : MethodId) (q1 : Int64)  : entryFrame m #[(.long q1)] 3 = mkF m 0 #[.val (.long q1), .second, .unset] [] := by first | (simp [entryFrame, mkF, argsToLocals, Value.category, maxLocals]; done) | rfl
def Q_rmL (Z : State) (q1 : Int64) (h0 : Heap) (n0 : Nat) (v : Option Value) (h : Heap) (L : List Loc) : Prop := v = some (.int (own_len q1)) ∧ Fr n0 L ∧ h = h0
set_option maxRecDepth 65536 in
set_option maxHeartbeats 40000000 in
theorem rmL (l : Launch) (Z : State) (a0 : Array Value) (hw : ∀ d ∈ tables_1, d.before a0 Z = true) (ws : List Jvm.Cond) (q1 : Int64) (h0 : Heap) (n0 : Nat) (Z0 : n0 ≤ h0.size)  :
    OwnMet l Z (⟨"com/example/tallyrank/tallyrank/index/OutputPutVariablePinLaw", "length", "(J)I"⟩ : MethodName) method_3_code 3 (some .int) ws ({ frames := 0, cells := 0, slots := 0, locals := 0 } : Room) #[(.long q1)] h0 (Q_rmL Z q1 h0 n0) := by
  refine own_body pf_1 ?_
  intro p e s m below meth c s₁ hx hby hml hown hnm hret hlk hZ X0 e0
  have N0 := Fr.nil n0
  refine own_cast (ef_2_rmL m q1 ) ?_
  have seg0 : ∀ (P : State → Outcome → Prop) (r : Int32), Goes p e below (s₁.setTop (mkF m 14 #[.val (.long q1), .second, .val (.int (own_i q1 (128 : Int64) r))] [])) P → Goes p e below (s₁.setTop (mkF m 2 #[.val (.long q1), .second, .val (.int r)] [])) P := by
    intro P r  K
    unfold own_i at K
    refine g_lload_n X0 hx 3 rfl (hb hby d2_2) rfl ?_
    refine g_ldcJ X0 hx 6 rfl hown hZ (hw _ (List.mem_of_getElem? (i := 12) rfl)) (hb hby d2_3) ?_
    refine g_lcmp X0 hx 7 rfl (hb hby d2_6) ?_
    by_cases c : q1 < (128 : Int64)
    · refine g_ifY X0 hx 14 (hb hby d2_7) (XT.ll_lt_t c) (by decide) (by decide) ?_
      rw [if_pos c] at K
      exact K
    · refine g_ifN X0 hx 10 rfl (hb hby d2_7) (XT.ll_lt_f c) ?_
      rw [if_neg c] at K
      refine g_iload_n X0 hx 11 rfl (hb hby d2_10) rfl ?_
      refine g_iconst X0 hx 12 rfl (1 : Int32) rfl (hb hby d2_11) ?_
      refine g_iadd X0 hx 13 rfl (hb hby d2_12) ?_
      refine g_istore_n X0 hx 14 rfl (hb hby d2_13) #[.val (.long q1), .second, .val (.int (r + (1 : Int32)))] rfl ?_
      exact K
  have seg1 : ∀ (P : State → Outcome → Prop) (r : Int32), Goes p e below (s₁.setTop (mkF m 26 #[.val (.long q1), .second, .val (.int (own_i q1 (16384 : Int64) r))] [])) P → Goes p e below (s₁.setTop (mkF m 14 #[.val (.long q1), .second, .val (.int r)] [])) P := by
    intro P r  K
    unfold own_i at K
    refine g_lload_n X0 hx 15 rfl (hb hby d2_14) rfl ?_
    refine g_ldcJ X0 hx 18 rfl hown hZ (hw _ (List.mem_of_getElem? (i := 13) rfl)) (hb hby d2_15) ?_
    refine g_lcmp X0 hx 19 rfl (hb hby d2_18) ?_
    by_cases c : q1 < (16384 : Int64)
    · refine g_ifY X0 hx 26 (hb hby d2_19) (XT.ll_lt_t c) (by decide) (by decide) ?_
      rw [if_pos c] at K
      exact K
    · refine g_ifN X0 hx 22 rfl (hb hby d2_19) (XT.ll_lt_f c) ?_
      rw [if_neg c] at K
      refine g_iload_n X0 hx 23 rfl (hb hby d2_22) rfl ?_
      refine g_iconst X0 hx 24 rfl (1 : Int32) rfl (hb hby d2_23) ?_
      refine g_iadd X0 hx 25 rfl (hb hby d2_24) ?_
      refine g_istore_n X0 hx 26 rfl (hb hby d2_25) #[.val (.long q1), .second, .val (.int (r + (1 : Int32)))] rfl ?_
      exact K
  have seg2 : ∀ (P : State → Outcome → Prop) (r : Int32), Goes p e below (s₁.setTop (mkF m 38 #[.val (.long q1), .second, .val (.int (own_i q1 (2097152 : Int64) r))] [])) P → Goes p e below (s₁.setTop (mkF m 26 #[.val (.long q1), .second, .val (.int r)] [])) P := by
    intro P r  K
    unfold own_i at K
    refine g_lload_n X0 hx 27 rfl (hb hby d2_26) rfl ?_
    refine g_ldcJ X0 hx 30 rfl hown hZ (hw _ (List.mem_of_getElem? (i := 14) rfl)) (hb hby d2_27) ?_
    refine g_lcmp X0 hx 31 rfl (hb hby d2_30) ?_
    by_cases c : q1 < (2097152 : Int64)
    · refine g_ifY X0 hx 38 (hb hby d2_31) (XT.ll_lt_t c) (by decide) (by decide) ?_
      rw [if_pos c] at K
      exact K
    · refine g_ifN X0 hx 34 rfl (hb hby d2_31) (XT.ll_lt_f c) ?_
      rw [if_neg c] at K
      refine g_iload_n X0 hx 35 rfl (hb hby d2_34) rfl ?_
      refine g_iconst X0 hx 36 rfl (1 : Int32) rfl (hb hby d2_35) ?_
      refine g_iadd X0 hx 37 rfl (hb hby d2_36) ?_
      refine g_istore_n X0 hx 38 rfl (hb hby d2_37) #[.val (.long q1), .second, .val (.int (r + (1 : Int32)))] rfl ?_
      exact K
  have seg3 : ∀ (P : State → Outcome → Prop) (r : Int32), Goes p e below (s₁.setTop (mkF m 50 #[.val (.long q1), .second, .val (.int (own_i q1 (268435456 : Int64) r))] [])) P → Goes p e below (s₁.setTop (mkF m 38 #[.val (.long q1), .second, .val (.int r)] [])) P := by
    intro P r  K
    unfold own_i at K
    refine g_lload_n X0 hx 39 rfl (hb hby d2_38) rfl ?_
    refine g_ldcJ X0 hx 42 rfl hown hZ (hw _ (List.mem_of_getElem? (i := 15) rfl)) (hb hby d2_39) ?_
    refine g_lcmp X0 hx 43 rfl (hb hby d2_42) ?_
    by_cases c : q1 < (268435456 : Int64)
    · refine g_ifY X0 hx 50 (hb hby d2_43) (XT.ll_lt_t c) (by decide) (by decide) ?_
      rw [if_pos c] at K
      exact K
    · refine g_ifN X0 hx 46 rfl (hb hby d2_43) (XT.ll_lt_f c) ?_
      rw [if_neg c] at K
      refine g_iload_n X0 hx 47 rfl (hb hby d2_46) rfl ?_
      refine g_iconst X0 hx 48 rfl (1 : Int32) rfl (hb hby d2_47) ?_
      refine g_iadd X0 hx 49 rfl (hb hby d2_48) ?_
      refine g_istore_n X0 hx 50 rfl (hb hby d2_49) #[.val (.long q1), .second, .val (.int (r + (1 : Int32)))] rfl ?_
      exact K
  have seg4 : ∀ (P : State → Outcome → Prop) (r : Int32), Goes p e below (s₁.setTop (mkF m 62 #[.val (.long q1), .second, .val (.int (own_i q1 (34359738368 : Int64) r))] [])) P → Goes p e below (s₁.setTop (mkF m 50 #[.val (.long q1), .second, .val (.int r)] [])) P := by
    intro P r  K
    unfold own_i at K
    refine g_lload_n X0 hx 51 rfl (hb hby d2_50) rfl ?_
    refine g_ldcJ X0 hx 54 rfl hown hZ (hw _ (List.mem_of_getElem? (i := 16) rfl)) (hb hby d2_51) ?_
    refine g_lcmp X0 hx 55 rfl (hb hby d2_54) ?_
    by_cases c : q1 < (34359738368 : Int64)
    · refine g_ifY X0 hx 62 (hb hby d2_55) (XT.ll_lt_t c) (by decide) (by decide) ?_
      rw [if_pos c] at K
      exact K
    · refine g_ifN X0 hx 58 rfl (hb hby d2_55) (XT.ll_lt_f c) ?_
      rw [if_neg c] at K
      refine g_iload_n X0 hx 59 rfl (hb hby d2_58) rfl ?_
      refine g_iconst X0 hx 60 rfl (1 : Int32) rfl (hb hby d2_59) ?_
      refine g_iadd X0 hx 61 rfl (hb hby d2_60) ?_
      refine g_istore_n X0 hx 62 rfl (hb hby d2_61) #[.val (.long q1), .second, .val (.int (r + (1 : Int32)))] rfl ?_
      exact K
  have seg5 : ∀ (P : State → Outcome → Prop) (r : Int32), Goes p e below (s₁.setTop (mkF m 74 #[.val (.long q1), .second, .val (.int (own_i q1 (4398046511104 : Int64) r))] [])) P → Goes p e below (s₁.setTop (mkF m 62 #[.val (.long q1), .second, .val (.int r)] [])) P := by
    intro P r  K
    unfold own_i at K
    refine g_lload_n X0 hx 63 rfl (hb hby d2_62) rfl ?_
    refine g_ldcJ X0 hx 66 rfl hown hZ (hw _ (List.mem_of_getElem? (i := 17) rfl)) (hb hby d2_63) ?_
    refine g_lcmp X0 hx 67 rfl (hb hby d2_66) ?_
    by_cases c : q1 < (4398046511104 : Int64)
    · refine g_ifY X0 hx 74 (hb hby d2_67) (XT.ll_lt_t c) (by decide) (by decide) ?_
      rw [if_pos c] at K
      exact K
    · refine g_ifN X0 hx 70 rfl (hb hby d2_67) (XT.ll_lt_f c) ?_
      rw [if_neg c] at K
      refine g_iload_n X0 hx 71 rfl (hb hby d2_70) rfl ?_
      refine g_iconst X0 hx 72 rfl (1 : Int32) rfl (hb hby d2_71) ?_
      refine g_iadd X0 hx 73 rfl (hb hby d2_72) ?_
      refine g_istore_n X0 hx 74 rfl (hb hby d2_73) #[.val (.long q1), .second, .val (.int (r + (1 : Int32)))] rfl ?_
      exact K
  have seg6 : ∀ (P : State → Outcome → Prop) (r : Int32), Goes p e below (s₁.setTop (mkF m 86 #[.val (.long q1), .second, .val (.int (own_i q1 (562949953421312 : Int64) r))] [])) P → Goes p e below (s₁.setTop (mkF m 74 #[.val (.long q1), .second, .val (.int r)] [])) P := by
    intro P r  K
    unfold own_i at K
    refine g_lload_n X0 hx 75 rfl (hb hby d2_74) rfl ?_
    refine g_ldcJ X0 hx 78 rfl hown hZ (hw _ (List.mem_of_getElem? (i := 18) rfl)) (hb hby d2_75) ?_
    refine g_lcmp X0 hx 79 rfl (hb hby d2_78) ?_
    by_cases c : q1 < (562949953421312 : Int64)
    · refine g_ifY X0 hx 86 (hb hby d2_79) (XT.ll_lt_t c) (by decide) (by decide) ?_
      rw [if_pos c] at K
      exact K
    · refine g_ifN X0 hx 82 rfl (hb hby d2_79) (XT.ll_lt_f c) ?_
      rw [if_neg c] at K
      refine g_iload_n X0 hx 83 rfl (hb hby d2_82) rfl ?_
      refine g_iconst X0 hx 84 rfl (1 : Int32) rfl (hb hby d2_83) ?_
      refine g_iadd X0 hx 85 rfl (hb hby d2_84) ?_
      refine g_istore_n X0 hx 86 rfl (hb hby d2_85) #[.val (.long q1), .second, .val (.int (r + (1 : Int32)))] rfl ?_
      exact K
  have seg7 : ∀ (P : State → Outcome → Prop) (r : Int32), Goes p e below (s₁.setTop (mkF m 98 #[.val (.long q1), .second, .val (.int (own_i q1 (72057594037927936 : Int64) r))] [])) P → Goes p e below (s₁.setTop (mkF m 86 #[.val (.long q1), .second, .val (.int r)] [])) P := by
    intro P r  K
    unfold own_i at K
    refine g_lload_n X0 hx 87 rfl (hb hby d2_86) rfl ?_
    refine g_ldcJ X0 hx 90 rfl hown hZ (hw _ (List.mem_of_getElem? (i := 19) rfl)) (hb hby d2_87) ?_
    refine g_lcmp X0 hx 91 rfl (hb hby d2_90) ?_
    by_cases c : q1 < (72057594037927936 : Int64)
    · refine g_ifY X0 hx 98 (hb hby d2_91) (XT.ll_lt_t c) (by decide) (by decide) ?_
      rw [if_pos c] at K
      exact K
    · refine g_ifN X0 hx 94 rfl (hb hby d2_91) (XT.ll_lt_f c) ?_
      rw [if_neg c] at K
      refine g_iload_n X0 hx 95 rfl (hb hby d2_94) rfl ?_
      refine g_iconst X0 hx 96 rfl (1 : Int32) rfl (hb hby d2_95) ?_
      refine g_iadd X0 hx 97 rfl (hb hby d2_96) ?_
      refine g_istore_n X0 hx 98 rfl (hb hby d2_97) #[.val (.long q1), .second, .val (.int (r + (1 : Int32)))] rfl ?_
      exact K
  refine g_iconst X0 hx 1 rfl (1 : Int32) rfl (hb hby d2_0) ?_
  refine g_istore_n X0 hx 2 rfl (hb hby d2_1) #[.val (.long q1), .second, .val (.int (1 : Int32))] rfl ?_
  refine seg0 _ (1 : Int32) ?_
  refine seg1 _ (own_i q1 (128 : Int64) (1 : Int32)) ?_
  refine seg2 _ (own_i q1 (16384 : Int64) (own_i q1 (128 : Int64) (1 : Int32))) ?_
  refine seg3 _ (own_i q1 (2097152 : Int64) (own_i q1 (16384 : Int64) (own_i q1 (128 : Int64) (1 : Int32)))) ?_
  refine seg4 _ (own_i q1 (268435456 : Int64) (own_i q1 (2097152 : Int64) (own_i q1 (16384 : Int64) (own_i q1 (128 : Int64) (1 : Int32))))) ?_
  refine seg5 _ (own_i q1 (34359738368 : Int64) (own_i q1 (268435456 : Int64) (own_i q1 (2097152 : Int64) (own_i q1 (16384 : Int64) (own_i q1 (128 : Int64) (1 : Int32)))))) ?_
  refine seg6 _ (own_i q1 (4398046511104 : Int64) (own_i q1 (34359738368 : Int64) (own_i q1 (268435456 : Int64) (own_i q1 (2097152 : Int64) (own_i q1 (16384 : Int64) (own_i q1 (128 : Int64) (1 : Int32))))))) ?_
  refine seg7 _ (own_i q1 (562949953421312 : Int64) (own_i q1 (4398046511104 : Int64) (own_i q1 (34359738368 : Int64) (own_i q1 (268435456 : Int64) (own_i q1 (2097152 : Int64) (own_i q1 (16384 : Int64) (own_i q1 (128 : Int64) (1 : Int32)))))))) ?_
  refine g_iload_n X0 hx 99 rfl (hb hby d2_98) rfl ?_
  exact g_retI X0 hx hret hlk (hb hby d2_99) ⟨rfl, N0, e0⟩ (by decide) (by decide)
theorem d3_0 : decode method_4_code 0 = .ok (.iload_n 1, 1) := by decide +kernel
theorem d3_1 : decode method_4_code 1 = .ok (.iload_n 2, 1) := by decide +kernel
theorem d3_2 : decode method_4_code 2 = .ok (.isub, 1) := by decide +kernel
theorem d3_3 : decode method_4_code 3 = .ok (.istore 7, 2) := by decide +kernel
theorem d3_5 : decode method_4_code 5 = .ok (.iload 7, 2) := by decide +kernel
theorem d3_7 : decode method_4_code 7 = .ok (.ifCond .lt 9, 3) := by decide +kernel
theorem d3_10 : decode method_4_code 10 = .ok (.iload 7, 2) := by decide +kernel
theorem d3_12 : decode method_4_code 12 = .ok (.iload_n 3, 1) := by decide +kernel
theorem d3_13 : decode method_4_code 13 = .ok (.if_icmp .lt 17, 3) := by decide +kernel
theorem d3_16 : decode method_4_code 16 = .ok (.aload_n 0, 1) := by decide +kernel
theorem d3_17 : decode method_4_code 17 = .ok (.iload_n 1, 1) := by decide +kernel
theorem d3_18 : decode method_4_code 18 = .ok (.baload, 1) := by decide +kernel
theorem d3_19 : decode method_4_code 19 = .ok (.iload 6, 2) := by decide +kernel
theorem d3_21 : decode method_4_code 21 = .ok (.if_icmp .ne 7, 3) := by decide +kernel
theorem d3_24 : decode method_4_code 24 = .ok (.iconst 1, 1) := by decide +kernel
theorem d3_25 : decode method_4_code 25 = .ok (.goto 4, 3) := by decide +kernel
theorem d3_28 : decode method_4_code 28 = .ok (.iconst 0, 1) := by decide +kernel
theorem d3_29 : decode method_4_code 29 = .ok (.ireturn, 1) := by decide +kernel
theorem d3_30 : decode method_4_code 30 = .ok (.lload 4, 2) := by decide +kernel
theorem d3_32 : decode method_4_code 32 = .ok (.bipush 7, 2) := by decide +kernel
theorem d3_34 : decode method_4_code 34 = .ok (.iload 7, 2) := by decide +kernel
theorem d3_36 : decode method_4_code 36 = .ok (.imul, 1) := by decide +kernel
theorem d3_37 : decode method_4_code 37 = .ok (.lushr, 1) := by decide +kernel
theorem d3_38 : decode method_4_code 38 = .ok (.ldc2_w 44, 3) := by decide +kernel
theorem d3_41 : decode method_4_code 41 = .ok (.land, 1) := by decide +kernel
theorem d3_42 : decode method_4_code 42 = .ok (.lstore 8, 2) := by decide +kernel
theorem d3_44 : decode method_4_code 44 = .ok (.iload 7, 2) := by decide +kernel
theorem d3_46 : decode method_4_code 46 = .ok (.iload_n 3, 1) := by decide +kernel
theorem d3_47 : decode method_4_code 47 = .ok (.iconst 1, 1) := by decide +kernel
theorem d3_48 : decode method_4_code 48 = .ok (.isub, 1) := by decide +kernel
theorem d3_49 : decode method_4_code 49 = .ok (.if_icmp .ge 11, 3) := by decide +kernel
theorem d3_52 : decode method_4_code 52 = .ok (.lload 8, 2) := by decide +kernel
theorem d3_54 : decode method_4_code 54 = .ok (.ldc2_w 28, 3) := by decide +kernel
theorem d3_57 : decode method_4_code 57 = .ok (.lor, 1) := by decide +kernel
theorem d3_58 : decode method_4_code 58 = .ok (.lstore 8, 2) := by decide +kernel
theorem d3_60 : decode method_4_code 60 = .ok (.aload_n 0, 1) := by decide +kernel
theorem d3_61 : decode method_4_code 61 = .ok (.iload_n 1, 1) := by decide +kernel
theorem d3_62 : decode method_4_code 62 = .ok (.baload, 1) := by decide +kernel
theorem d3_63 : decode method_4_code 63 = .ok (.lload 8, 2) := by decide +kernel
theorem d3_65 : decode method_4_code 65 = .ok (.l2i, 1) := by decide +kernel
theorem d3_66 : decode method_4_code 66 = .ok (.i2b, 1) := by decide +kernel
theorem d3_67 : decode method_4_code 67 = .ok (.if_icmp .ne 7, 3) := by decide +kernel
theorem d3_70 : decode method_4_code 70 = .ok (.iconst 1, 1) := by decide +kernel
theorem d3_71 : decode method_4_code 71 = .ok (.goto 4, 3) := by decide +kernel
theorem d3_74 : decode method_4_code 74 = .ok (.iconst 0, 1) := by decide +kernel
theorem d3_75 : decode method_4_code 75 = .ok (.ireturn, 1) := by decide +kernel
theorem pf_2 : plainFor (⟨"com/example/tallyrank/tallyrank/index/OutputPutVariablePinLaw", "ok", "([BIIIJB)Z"⟩ : MethodName) = true := by first | exact plainFor_of_name (by first | (simp [plainName, overriddenIn]; done) | decide +kernel) | decide +kernel
theorem ef_3_rmO (m : MethodId) (a : Addr) (p2 : Int32) (p3 : Int32) (p4 : Int32) (q5 : Int64) (p6 : Int32) (vs : List Value) (i : Nat)  : entryFrame m #[(.ref a), (.int p2), (.int p3), (.int p4), (.long q5), (.int p6)] 10 = mkF m 0 #[.val (.ref a), .val (.int p2), .val (.int p3), .val (.int p4), .val (.long q5), .second, .val (.int p6), .unset, .unset, .unset] [] := by first | (simp [entryFrame, mkF, argsToLocals, Value.category, maxLocals]; done) | rfl
def Q_rmO (Z : State) (a : Addr) (p2 : Int32) (p3 : Int32) (p4 : Int32) (q5 : Int64) (p6 : Int32) (vs : List Value) (i : Nat) (h0 : Heap) (n0 : Nat) (v : Option Value) (h : Heap) (L : List Loc) : Prop := v = some (.int 1) ∧ Fr n0 L ∧ h = h0
set_option maxRecDepth 65536 in
set_option maxHeartbeats 40000000 in
theorem rmO (l : Launch) (Z : State) (a0 : Array Value) (hw : ∀ d ∈ tables_1, d.before a0 Z = true) (ws : List Jvm.Cond) (a : Addr) (p2 : Int32) (p3 : Int32) (p4 : Int32) (q5 : Int64) (p6 : Int32) (vs : List Value) (i : Nat) (h0 : Heap) (n0 : Nat) (Z0 : n0 ≤ h0.size) (Aa : Al Z h0 a .byte vs) (hi : p2.toInt = (i : Int)) (hv : vs[i]? = some (.int (own_exp q5 p2 p3 p4 p6))) :
    OwnMet l Z (⟨"com/example/tallyrank/tallyrank/index/OutputPutVariablePinLaw", "ok", "([BIIIJB)Z"⟩ : MethodName) method_4_code 10 (some .boolean) ws ({ frames := 0, cells := 0, slots := 0, locals := 0 } : Room) #[(.ref a), (.int p2), (.int p3), (.int p4), (.long q5), (.int p6)] h0 (Q_rmO Z a p2 p3 p4 q5 p6 vs i h0 n0) := by
  refine own_body pf_2 ?_
  intro p e s m below meth c s₁ hx hby hml hown hnm hret hlk hZ X0 e0
  have N0 := Fr.nil n0
  refine own_cast (ef_3_rmO m a p2 p3 p4 q5 p6 vs i ) ?_
  unfold own_exp at hv
  refine g_iload_n X0 hx 1 rfl (hb hby d3_0) rfl ?_
  refine g_iload_n X0 hx 2 rfl (hb hby d3_1) rfl ?_
  refine g_isub X0 hx 3 rfl (hb hby d3_2) ?_
  refine g_istore X0 hx 5 rfl (hb hby d3_3) #[.val (.ref a), .val (.int p2), .val (.int p3), .val (.int p4), .val (.long q5), .second, .val (.int p6), .val (.int (p2 - p3)), .unset, .unset] rfl ?_
  refine g_iload X0 hx 7 rfl (hb hby d3_5) rfl ?_
  by_cases c7 : (p2 - p3) < 0
  · refine g_ifY X0 hx 16 (hb hby d3_7) (XT.i0_lt_t c7) (by decide) (by decide) ?_
    rw [if_pos (Or.inl c7)] at hv
    refine g_aload_n X0 hx 17 rfl (hb hby d3_16) rfl rfl ?_
    refine g_iload_n X0 hx 18 rfl (hb hby d3_17) rfl ?_
    refine g_baload X0 hx hZ 19 rfl (hb hby d3_18) e0 Aa i hi (.int p6) hv ?_
    refine g_iload X0 hx 21 rfl (hb hby d3_19) rfl ?_
    refine g_icmpN X0 hx 24 rfl (hb hby d3_21) (XT.ii_ne_f rfl) ?_
    refine g_iconst X0 hx 25 rfl (1 : Int32) rfl (hb hby d3_24) ?_
    refine g_goto X0 hx 29 (hb hby d3_25) (by decide) (by decide) ?_
    exact g_retZ X0 hx hret hlk rfl (hb hby d3_29) ⟨rfl, N0, e0⟩ (by decide) (by decide)
  · refine g_ifN X0 hx 10 rfl (hb hby d3_7) (XT.i0_lt_f c7) ?_
    refine g_iload X0 hx 12 rfl (hb hby d3_10) rfl ?_
    refine g_iload_n X0 hx 13 rfl (hb hby d3_12) rfl ?_
    by_cases c13 : (p2 - p3) < p4
    · refine g_icmpY X0 hx 30 (hb hby d3_13) (XT.ii_lt_t c13) (by decide) (by decide) ?_
      rw [if_neg (fun q => q.elim c7 (fun z => z c13))] at hv
      unfold own_part at hv
      refine g_lload X0 hx 32 rfl (hb hby d3_30) rfl ?_
      refine g_bipush X0 hx 34 rfl (7 : Int32) rfl (hb hby d3_32) ?_
      refine g_iload X0 hx 36 rfl (hb hby d3_34) rfl ?_
      refine g_imul X0 hx 37 rfl (hb hby d3_36) ?_
      refine g_lushr X0 hx 38 rfl (hb hby d3_37) ?_
      refine g_ldcJ X0 hx 41 rfl hown hZ (hw _ (List.mem_of_getElem? (i := 23) rfl)) (hb hby d3_38) ?_
      refine g_land X0 hx 42 rfl (hb hby d3_41) ?_
      refine g_lstore X0 hx 44 rfl (hb hby d3_42) #[.val (.ref a), .val (.int p2), .val (.int p3), .val (.int p4), .val (.long q5), .second, .val (.int p6), .val (.int (p2 - p3)), .val (.long ((XT.ushrL q5 ((7 : Int32) * (p2 - p3))) &&& (127 : Int64))), .second] rfl ?_
      refine g_iload X0 hx 46 rfl (hb hby d3_44) rfl ?_
      refine g_iload_n X0 hx 47 rfl (hb hby d3_46) rfl ?_
      refine g_iconst X0 hx 48 rfl (1 : Int32) rfl (hb hby d3_47) ?_
      refine g_isub X0 hx 49 rfl (hb hby d3_48) ?_
      by_cases c49 : (p2 - p3) < (p4 - (1 : Int32))
      · refine g_icmpN X0 hx 52 rfl (hb hby d3_49) (XT.ii_ge_f c49) ?_
        rw [if_pos c49] at hv
        refine g_lload X0 hx 54 rfl (hb hby d3_52) rfl ?_
        refine g_ldcJ X0 hx 57 rfl hown hZ (hw _ (List.mem_of_getElem? (i := 12) rfl)) (hb hby d3_54) ?_
        refine g_lor X0 hx 58 rfl (hb hby d3_57) ?_
        refine g_lstore X0 hx 60 rfl (hb hby d3_58) #[.val (.ref a), .val (.int p2), .val (.int p3), .val (.int p4), .val (.long q5), .second, .val (.int p6), .val (.int (p2 - p3)), .val (.long (((XT.ushrL q5 ((7 : Int32) * (p2 - p3))) &&& (127 : Int64)) ||| (128 : Int64))), .second] rfl ?_
        refine g_aload_n X0 hx 61 rfl (hb hby d3_60) rfl rfl ?_
        refine g_iload_n X0 hx 62 rfl (hb hby d3_61) rfl ?_
        refine g_baload X0 hx hZ 63 rfl (hb hby d3_62) e0 Aa i hi (.int ((((XT.ushrL q5 ((7 : Int32) * (p2 - p3))) &&& (127 : Int64)) ||| (128 : Int64)).toInt32.toInt8.toInt32)) hv ?_
        refine g_lload X0 hx 65 rfl (hb hby d3_63) rfl ?_
        refine g_l2i X0 hx 66 rfl (hb hby d3_65) ?_
        refine g_i2b X0 hx 67 rfl (hb hby d3_66) ?_
        refine g_icmpN X0 hx 70 rfl (hb hby d3_67) (XT.ii_ne_f rfl) ?_
        refine g_iconst X0 hx 71 rfl (1 : Int32) rfl (hb hby d3_70) ?_
        refine g_goto X0 hx 75 (hb hby d3_71) (by decide) (by decide) ?_
        exact g_retZ X0 hx hret hlk rfl (hb hby d3_75) ⟨rfl, N0, e0⟩ (by decide) (by decide)
      · refine g_icmpY X0 hx 60 (hb hby d3_49) (XT.ii_ge_t c49) (by decide) (by decide) ?_
        rw [if_neg c49] at hv
        refine g_aload_n X0 hx 61 rfl (hb hby d3_60) rfl rfl ?_
        refine g_iload_n X0 hx 62 rfl (hb hby d3_61) rfl ?_
        refine g_baload X0 hx hZ 63 rfl (hb hby d3_62) e0 Aa i hi (.int (((XT.ushrL q5 ((7 : Int32) * (p2 - p3))) &&& (127 : Int64)).toInt32.toInt8.toInt32)) hv ?_
        refine g_lload X0 hx 65 rfl (hb hby d3_63) rfl ?_
        refine g_l2i X0 hx 66 rfl (hb hby d3_65) ?_
        refine g_i2b X0 hx 67 rfl (hb hby d3_66) ?_
        refine g_icmpN X0 hx 70 rfl (hb hby d3_67) (XT.ii_ne_f rfl) ?_
        refine g_iconst X0 hx 71 rfl (1 : Int32) rfl (hb hby d3_70) ?_
        refine g_goto X0 hx 75 (hb hby d3_71) (by decide) (by decide) ?_
        exact g_retZ X0 hx hret hlk rfl (hb hby d3_75) ⟨rfl, N0, e0⟩ (by decide) (by decide)
    · refine g_icmpN X0 hx 16 rfl (hb hby d3_13) (XT.ii_lt_f c13) ?_
      rw [if_pos (Or.inr c13)] at hv
      refine g_aload_n X0 hx 17 rfl (hb hby d3_16) rfl rfl ?_
      refine g_iload_n X0 hx 18 rfl (hb hby d3_17) rfl ?_
      refine g_baload X0 hx hZ 19 rfl (hb hby d3_18) e0 Aa i hi (.int p6) hv ?_
      refine g_iload X0 hx 21 rfl (hb hby d3_19) rfl ?_
      refine g_icmpN X0 hx 24 rfl (hb hby d3_21) (XT.ii_ne_f rfl) ?_
      refine g_iconst X0 hx 25 rfl (1 : Int32) rfl (hb hby d3_24) ?_
      refine g_goto X0 hx 29 (hb hby d3_25) (by decide) (by decide) ?_
      exact g_retZ X0 hx hret hlk rfl (hb hby d3_29) ⟨rfl, N0, e0⟩ (by decide) (by decide)
theorem pf_3 : plainFor (⟨"com/example/tallyrank/tallyrank/index/OutputPutVariablePinLaw", "law", "(JIII)Z"⟩ : MethodName) = true := by first | exact plainFor_of_name (by first | (simp [plainName, overriddenIn]; done) | decide +kernel) | decide +kernel
theorem pd_0 : parseMethodDescriptor "([BIJ)I" = some ⟨[.array .byte, .int, .long], some .int⟩ := by decide +kernel
theorem pd_1 : parseMethodDescriptor "(J)I" = some ⟨[.long], some .int⟩ := by decide +kernel
theorem pd_2 : parseMethodDescriptor "([BIIIJB)Z" = some ⟨[.array .byte, .int, .int, .int, .long, .byte], some .boolean⟩ := by decide +kernel
theorem ef_0_rm0 (m : MethodId) (q1 : Int64) (p2 : Int32) (p3 : Int32) (p4 : Int32)  : entryFrame m #[(.long q1), (.int p2), (.int p3), (.int p4)] maxLocals = mkF m 0 #[.val (.long q1), .second, .val (.int p2), .val (.int p3), .val (.int p4), .unset, .unset, .unset, .unset, .unset, .unset, .unset] [] := by first | (simp [entryFrame, mkF, argsToLocals, Value.category, maxLocals]; done) | rfl
def Q_rm0 (Z : State) (q1 : Int64) (p2 : Int32) (p3 : Int32) (p4 : Int32) (h0 : Heap) (n0 : Nat) (v : Option Value) (h : Heap) (L : List Loc) : Prop := v = some (.int 1) ∧ Fr n0 L
set_option maxRecDepth 65536 in
set_option maxHeartbeats 40000000 in
theorem rm0 (l : Launch) (Z : State) (a0 : Array Value) (hw : ∀ d ∈ tables_1, d.before a0 Z = true) (ws : List Jvm.Cond) (q1 : Int64) (p2 : Int32) (p3 : Int32) (p4 : Int32) (h0 : Heap) (n0 : Nat) (Z0 : n0 ≤ h0.size)  :
    OwnMet l Z x code maxLocals ret ws room_1 #[(.long q1), (.int p2), (.int p3), (.int p4)] h0 (Q_rm0 Z q1 p2 p3 p4 h0 n0) := by
  refine own_body pf_3 ?_
  intro p e s m below meth c s₁ hx hby hml hown hnm hret hlk hZ X0 e0
  have N0 := Fr.nil n0
  refine own_cast (ef_0_rm0 m q1 p2 p3 p4 ) ?_
  refine g_lload_n X0 hx 1 rfl (hb hby at_0) rfl ?_
  refine g_ldcJ X0 hx 4 rfl hown hZ (hw _ (List.mem_of_getElem? (i := 0) rfl)) (hb hby at_1) ?_
  refine g_land X0 hx 5 rfl (hb hby at_4) ?_
  refine g_iload_n X0 hx 6 rfl (hb hby at_5) rfl ?_
  refine g_ldcI X0 hx 8 rfl hown hZ (hw _ (List.mem_of_getElem? (i := 1) rfl)) (hb hby at_6) ?_
  refine g_iand X0 hx 9 rfl (hb hby at_8) ?_
  refine g_bipush X0 hx 11 rfl (64 : Int32) rfl (hb hby at_9) ?_
  refine g_irem X0 hx 12 rfl (hb hby at_11) (by decide) ?_
  refine g_lushr X0 hx 13 rfl (hb hby at_12) ?_
  refine g_lstore X0 hx 15 rfl (hb hby at_13) #[.val (.long q1), .second, .val (.int p2), .val (.int p3), .val (.int p4), .val (.long (XT.ushrL (q1 &&& (9223372036854775807 : Int64)) ((p2 &&& (2147483647 : Int32)) % (64 : Int32)))), .second, .unset, .unset, .unset, .unset, .unset] rfl ?_
  have hv63 : (XT.ushrL (q1 &&& (9223372036854775807 : Int64)) ((p2 &&& (2147483647 : Int32)) % (64 : Int32))).toBitVec.toNat < 2 ^ 63 := own_val _ _
  generalize hxv : XT.ushrL (q1 &&& (9223372036854775807 : Int64)) ((p2 &&& (2147483647 : Int32)) % (64 : Int32)) = x at hv63 ⊢
  refine g_iload_n X0 hx 16 rfl (hb hby at_15) rfl ?_
  refine g_iconst X0 hx 17 rfl (3 : Int32) rfl (hb hby at_16) ?_
  refine g_iand X0 hx 18 rfl (hb hby at_17) ?_
  refine g_istore X0 hx 20 rfl (hb hby at_18) #[.val (.long q1), .second, .val (.int p2), .val (.int p3), .val (.int p4), .val (.long x), .second, .val (.int (p3 &&& (3 : Int32))), .unset, .unset, .unset, .unset] rfl ?_
  have ha := c_mask p3 3 2 (by decide) (by decide)
  generalize hav : p3 &&& (3 : Int32) = at' at ha ⊢
  obtain ⟨ai, hai, ha3⟩ : ∃ ai : Nat, at'.toInt = (ai : Int) ∧ ai ≤ 3 := ⟨at'.toInt.toNat, by omega, by omega⟩
  refine g_iload X0 hx 22 rfl (hb hby at_20) rfl ?_
  refine g_i2b X0 hx 23 rfl (hb hby at_22) ?_
  refine g_istore X0 hx 25 rfl (hb hby at_23) #[.val (.long q1), .second, .val (.int p2), .val (.int p3), .val (.int p4), .val (.long x), .second, .val (.int at'), .val (.int p4.toInt8.toInt32), .unset, .unset, .unset] rfl ?_
  have nbf := own_narb p4
  generalize hfv : p4.toInt8.toInt32 = fill at nbf ⊢
  refine g_bipush X0 hx 27 rfl (13 : Int32) rfl (hb hby at_25) ?_
  refine g_newarr X0 hx hZ 29 rfl (hw _ (List.mem_of_getElem? (i := 2) rfl)) e0 (hb hby at_27) 13 rfl 13 (Nat.le_refl _) (by decide) (by decide) (by decide) "[B" (by decide) ?_
  intro T1 h1 o1 g1 X1 e1 E1 A1 Ex1
  have ge_o1 : n0 ≤ o1 := Nat.le_trans Z0 (Nat.le_of_eq g1.symm)
  have Al1 : Al Z h1 o1 .byte [.int (0 : Int32), .int (0 : Int32), .int (0 : Int32), .int (0 : Int32), .int (0 : Int32), .int (0 : Int32), .int (0 : Int32), .int (0 : Int32), .int (0 : Int32), .int (0 : Int32), .int (0 : Int32), .int (0 : Int32), .int (0 : Int32)] := A1
  refine g_dup X1 hx 30 rfl (hb hby at_29) rfl ?_
  refine g_iconst X1 hx 31 rfl (0 : Int32) rfl (hb hby at_30) ?_
  refine g_iload X1 hx 33 rfl (hb hby at_31) rfl ?_
  refine g_bastore X1 hx hZ 34 rfl (hb hby at_33) e1 Al1 0 rfl (show 0 < 13 by decide) ?_
  intro T2 h2 X2 e2 W2 B2
  rw [show nar .byte fill = fill from nbf] at B2
  have N2 := Fr.snoc X2 N0 ge_o1
  have Al2 : Al Z h2 o1 .byte [.int fill, .int (0 : Int32), .int (0 : Int32), .int (0 : Int32), .int (0 : Int32), .int (0 : Int32), .int (0 : Int32), .int (0 : Int32), .int (0 : Int32), .int (0 : Int32), .int (0 : Int32), .int (0 : Int32), .int (0 : Int32)] := B2
  refine g_dup X2 hx 35 rfl (hb hby at_34) rfl ?_
  refine g_iconst X2 hx 36 rfl (1 : Int32) rfl (hb hby at_35) ?_
  refine g_iload X2 hx 38 rfl (hb hby at_36) rfl ?_
  refine g_bastore X2 hx hZ 39 rfl (hb hby at_38) e2 Al2 1 rfl (show 1 < 13 by decide) ?_
  intro T3 h3 X3 e3 W3 B3
  rw [show nar .byte fill = fill from nbf] at B3
  have N3 := Fr.snoc X3 N2 ge_o1
  have Al3 : Al Z h3 o1 .byte [.int fill, .int fill, .int (0 : Int32), .int (0 : Int32), .int (0 : Int32), .int (0 : Int32), .int (0 : Int32), .int (0 : Int32), .int (0 : Int32), .int (0 : Int32), .int (0 : Int32), .int (0 : Int32), .int (0 : Int32)] := B3
  refine g_dup X3 hx 40 rfl (hb hby at_39) rfl ?_
  refine g_iconst X3 hx 41 rfl (2 : Int32) rfl (hb hby at_40) ?_
  refine g_iload X3 hx 43 rfl (hb hby at_41) rfl ?_
  refine g_bastore X3 hx hZ 44 rfl (hb hby at_43) e3 Al3 2 rfl (show 2 < 13 by decide) ?_
  intro T4 h4 X4 e4 W4 B4
  rw [show nar .byte fill = fill from nbf] at B4
  have N4 := Fr.snoc X4 N3 ge_o1
  have Al4 : Al Z h4 o1 .byte [.int fill, .int fill, .int fill, .int (0 : Int32), .int (0 : Int32), .int (0 : Int32), .int (0 : Int32), .int (0 : Int32), .int (0 : Int32), .int (0 : Int32), .int (0 : Int32), .int (0 : Int32), .int (0 : Int32)] := B4
  refine g_dup X4 hx 45 rfl (hb hby at_44) rfl ?_
  refine g_iconst X4 hx 46 rfl (3 : Int32) rfl (hb hby at_45) ?_
  refine g_iload X4 hx 48 rfl (hb hby at_46) rfl ?_
  refine g_bastore X4 hx hZ 49 rfl (hb hby at_48) e4 Al4 3 rfl (show 3 < 13 by decide) ?_
  intro T5 h5 X5 e5 W5 B5
  rw [show nar .byte fill = fill from nbf] at B5
  have N5 := Fr.snoc X5 N4 ge_o1
  have Al5 : Al Z h5 o1 .byte [.int fill, .int fill, .int fill, .int fill, .int (0 : Int32), .int (0 : Int32), .int (0 : Int32), .int (0 : Int32), .int (0 : Int32), .int (0 : Int32), .int (0 : Int32), .int (0 : Int32), .int (0 : Int32)] := B5
  refine g_dup X5 hx 50 rfl (hb hby at_49) rfl ?_
  refine g_iconst X5 hx 51 rfl (4 : Int32) rfl (hb hby at_50) ?_
  refine g_iload X5 hx 53 rfl (hb hby at_51) rfl ?_
  refine g_bastore X5 hx hZ 54 rfl (hb hby at_53) e5 Al5 4 rfl (show 4 < 13 by decide) ?_
  intro T6 h6 X6 e6 W6 B6
  rw [show nar .byte fill = fill from nbf] at B6
  have N6 := Fr.snoc X6 N5 ge_o1
  have Al6 : Al Z h6 o1 .byte [.int fill, .int fill, .int fill, .int fill, .int fill, .int (0 : Int32), .int (0 : Int32), .int (0 : Int32), .int (0 : Int32), .int (0 : Int32), .int (0 : Int32), .int (0 : Int32), .int (0 : Int32)] := B6
  refine g_dup X6 hx 55 rfl (hb hby at_54) rfl ?_
  refine g_iconst X6 hx 56 rfl (5 : Int32) rfl (hb hby at_55) ?_
  refine g_iload X6 hx 58 rfl (hb hby at_56) rfl ?_
  refine g_bastore X6 hx hZ 59 rfl (hb hby at_58) e6 Al6 5 rfl (show 5 < 13 by decide) ?_
  intro T7 h7 X7 e7 W7 B7
  rw [show nar .byte fill = fill from nbf] at B7
  have N7 := Fr.snoc X7 N6 ge_o1
  have Al7 : Al Z h7 o1 .byte [.int fill, .int fill, .int fill, .int fill, .int fill, .int fill, .int (0 : Int32), .int (0 : Int32), .int (0 : Int32), .int (0 : Int32), .int (0 : Int32), .int (0 : Int32), .int (0 : Int32)] := B7
  refine g_dup X7 hx 60 rfl (hb hby at_59) rfl ?_
  refine g_bipush X7 hx 62 rfl (6 : Int32) rfl (hb hby at_60) ?_
  refine g_iload X7 hx 64 rfl (hb hby at_62) rfl ?_
  refine g_bastore X7 hx hZ 65 rfl (hb hby at_64) e7 Al7 6 rfl (show 6 < 13 by decide) ?_
  intro T8 h8 X8 e8 W8 B8
  rw [show nar .byte fill = fill from nbf] at B8
  have N8 := Fr.snoc X8 N7 ge_o1
  have Al8 : Al Z h8 o1 .byte [.int fill, .int fill, .int fill, .int fill, .int fill, .int fill, .int fill, .int (0 : Int32), .int (0 : Int32), .int (0 : Int32), .int (0 : Int32), .int (0 : Int32), .int (0 : Int32)] := B8
  refine g_dup X8 hx 66 rfl (hb hby at_65) rfl ?_
  refine g_bipush X8 hx 68 rfl (7 : Int32) rfl (hb hby at_66) ?_
  refine g_iload X8 hx 70 rfl (hb hby at_68) rfl ?_
  refine g_bastore X8 hx hZ 71 rfl (hb hby at_70) e8 Al8 7 rfl (show 7 < 13 by decide) ?_
  intro T9 h9 X9 e9 W9 B9
  rw [show nar .byte fill = fill from nbf] at B9
  have N9 := Fr.snoc X9 N8 ge_o1
  have Al9 : Al Z h9 o1 .byte [.int fill, .int fill, .int fill, .int fill, .int fill, .int fill, .int fill, .int fill, .int (0 : Int32), .int (0 : Int32), .int (0 : Int32), .int (0 : Int32), .int (0 : Int32)] := B9
  refine g_dup X9 hx 72 rfl (hb hby at_71) rfl ?_
  refine g_bipush X9 hx 74 rfl (8 : Int32) rfl (hb hby at_72) ?_
  refine g_iload X9 hx 76 rfl (hb hby at_74) rfl ?_
  refine g_bastore X9 hx hZ 77 rfl (hb hby at_76) e9 Al9 8 rfl (show 8 < 13 by decide) ?_
  intro T10 h10 X10 e10 W10 B10
  rw [show nar .byte fill = fill from nbf] at B10
  have N10 := Fr.snoc X10 N9 ge_o1
  have Al10 : Al Z h10 o1 .byte [.int fill, .int fill, .int fill, .int fill, .int fill, .int fill, .int fill, .int fill, .int fill, .int (0 : Int32), .int (0 : Int32), .int (0 : Int32), .int (0 : Int32)] := B10
  refine g_dup X10 hx 78 rfl (hb hby at_77) rfl ?_
  refine g_bipush X10 hx 80 rfl (9 : Int32) rfl (hb hby at_78) ?_
  refine g_iload X10 hx 82 rfl (hb hby at_80) rfl ?_
  refine g_bastore X10 hx hZ 83 rfl (hb hby at_82) e10 Al10 9 rfl (show 9 < 13 by decide) ?_
  intro T11 h11 X11 e11 W11 B11
  rw [show nar .byte fill = fill from nbf] at B11
  have N11 := Fr.snoc X11 N10 ge_o1
  have Al11 : Al Z h11 o1 .byte [.int fill, .int fill, .int fill, .int fill, .int fill, .int fill, .int fill, .int fill, .int fill, .int fill, .int (0 : Int32), .int (0 : Int32), .int (0 : Int32)] := B11
  refine g_dup X11 hx 84 rfl (hb hby at_83) rfl ?_
  refine g_bipush X11 hx 86 rfl (10 : Int32) rfl (hb hby at_84) ?_
  refine g_iload X11 hx 88 rfl (hb hby at_86) rfl ?_
  refine g_bastore X11 hx hZ 89 rfl (hb hby at_88) e11 Al11 10 rfl (show 10 < 13 by decide) ?_
  intro T12 h12 X12 e12 W12 B12
  rw [show nar .byte fill = fill from nbf] at B12
  have N12 := Fr.snoc X12 N11 ge_o1
  have Al12 : Al Z h12 o1 .byte [.int fill, .int fill, .int fill, .int fill, .int fill, .int fill, .int fill, .int fill, .int fill, .int fill, .int fill, .int (0 : Int32), .int (0 : Int32)] := B12
  refine g_dup X12 hx 90 rfl (hb hby at_89) rfl ?_
  refine g_bipush X12 hx 92 rfl (11 : Int32) rfl (hb hby at_90) ?_
  refine g_iload X12 hx 94 rfl (hb hby at_92) rfl ?_
  refine g_bastore X12 hx hZ 95 rfl (hb hby at_94) e12 Al12 11 rfl (show 11 < 13 by decide) ?_
  intro T13 h13 X13 e13 W13 B13
  rw [show nar .byte fill = fill from nbf] at B13
  have N13 := Fr.snoc X13 N12 ge_o1
  have Al13 : Al Z h13 o1 .byte [.int fill, .int fill, .int fill, .int fill, .int fill, .int fill, .int fill, .int fill, .int fill, .int fill, .int fill, .int fill, .int (0 : Int32)] := B13
  refine g_dup X13 hx 96 rfl (hb hby at_95) rfl ?_
  refine g_bipush X13 hx 98 rfl (12 : Int32) rfl (hb hby at_96) ?_
  refine g_iload X13 hx 100 rfl (hb hby at_98) rfl ?_
  refine g_bastore X13 hx hZ 101 rfl (hb hby at_100) e13 Al13 12 rfl (show 12 < 13 by decide) ?_
  intro T14 h14 X14 e14 W14 B14
  rw [show nar .byte fill = fill from nbf] at B14
  have N14 := Fr.snoc X14 N13 ge_o1
  have Al14 : Al Z h14 o1 .byte [.int fill, .int fill, .int fill, .int fill, .int fill, .int fill, .int fill, .int fill, .int fill, .int fill, .int fill, .int fill, .int fill] := B14
  refine g_astore X14 hx 103 rfl (hb hby at_101) rfl #[.val (.long q1), .second, .val (.int p2), .val (.int p3), .val (.int p4), .val (.long x), .second, .val (.int at'), .val (.int fill), .val (.ref o1), .unset, .unset] rfl ?_
  refine g_aload X14 hx 105 rfl (hb hby at_103) rfl rfl ?_
  refine g_iload X14 hx 107 rfl (hb hby at_105) rfl ?_
  refine g_lload X14 hx 109 rfl (hb hby at_107) rfl ?_
  obtain ⟨L, hL8, hlen, hgo, hst⟩ := own_lens x hv63
  have Zl16 : n0 ≤ h14.size := (Nat.le_trans (Nat.le_trans (Nat.le_trans (Nat.le_trans (Nat.le_trans (Nat.le_trans (Nat.le_trans (Nat.le_trans (Nat.le_trans (Nat.le_trans (Nat.le_trans (Nat.le_trans (Nat.le_trans (Nat.le_trans Z0 E1.1) (Nat.le_of_eq W2.size.symm)) (Nat.le_of_eq W3.size.symm)) (Nat.le_of_eq W4.size.symm)) (Nat.le_of_eq W5.size.symm)) (Nat.le_of_eq W6.size.symm)) (Nat.le_of_eq W7.size.symm)) (Nat.le_of_eq W8.size.symm)) (Nat.le_of_eq W9.size.symm)) (Nat.le_of_eq W10.size.symm)) (Nat.le_of_eq W11.size.symm)) (Nat.le_of_eq W12.size.symm)) (Nat.le_of_eq W13.size.symm)) (Nat.le_of_eq W14.size.symm))
  refine g_callS X14 hx hZ 112 rfl (y := (⟨"com/example/tallyrank/tallyrank/index/Output", "putVariable", "([BIJ)I"⟩ : MethodName)) hown (hw _ (List.mem_of_getElem? (i := 3) rfl)) (hw _ (List.mem_of_getElem? (i := 4) rfl)) (hw _ (List.mem_of_getElem? (i := 5) rfl)) (hw _ (List.mem_of_getElem? (i := 6) rfl)) (by decide) [.ref o1, .int at', .long x] [] (rmP l Z a0 hw [] o1 at' x (List.replicate 13 (.int fill)) ai L h14 n0 Zl16 Al14 ge_o1 hai (by rw [List.length_replicate]; omega) (by rw [List.length_replicate]; exact Nat.le_refl _) hgo hst) e14 (lenOf pd_0 rfl) rfl (by rw [hml]; rfl) (hb hby at_109) (by decide) 0 (Nat.le_of_eq rfl) (by decide) (by decide) (by decide) ?_
  rintro _ T15 L15 X15 ⟨rfl, N15q, K15, B15⟩
  have N15 := Fr.app N14 N15q
  show Goes p e below (T15.setTop (mkF m 112 #[.val (.long q1), .second, .val (.int p2), .val (.int p3), .val (.int p4), .val (.long x), .second, .val (.int at'), .val (.int fill), .val (.ref o1), .unset, .unset] [.int (Int32.ofNat (ai + L + 1))])) _
  refine g_istore X15 hx 114 rfl (hb hby at_112) #[.val (.long q1), .second, .val (.int p2), .val (.int p3), .val (.int p4), .val (.long x), .second, .val (.int at'), .val (.int fill), .val (.ref o1), .val (.int (Int32.ofNat (ai + L + 1))), .unset] rfl ?_
  refine g_lload X15 hx 116 rfl (hb hby at_114) rfl ?_
  have Zl18 : n0 ≤ T15.heap.size := (Nat.le_trans Zl16 K15.1)
  refine g_callS X15 hx hZ 119 rfl (y := (⟨"com/example/tallyrank/tallyrank/index/OutputPutVariablePinLaw", "length", "(J)I"⟩ : MethodName)) hown (hw _ (List.mem_of_getElem? (i := 8) rfl)) (hw _ (List.mem_of_getElem? (i := 9) rfl)) (hw _ (List.mem_of_getElem? (i := 10) rfl)) (hw _ (List.mem_of_getElem? (i := 11) rfl)) (by decide) [.long x] [] (rmL l Z a0 hw [] x T15.heap n0 Zl18 ) rfl (lenOf pd_1 rfl) rfl (by rw [hml]; rfl) (hb hby at_116) (by decide) 0 (Nat.le_of_eq rfl) (by decide) (by decide) (by decide) ?_
  rintro _ T17 L17 X17 ⟨rfl, N17q, e17⟩
  have N17 := Fr.app N15 N17q
  show Goes p e below (T17.setTop (mkF m 119 #[.val (.long q1), .second, .val (.int p2), .val (.int p3), .val (.int p4), .val (.long x), .second, .val (.int at'), .val (.int fill), .val (.ref o1), .val (.int (Int32.ofNat (ai + L + 1))), .unset] [.int (own_len x)])) _
  rw [hlen]
  refine g_istore X17 hx 121 rfl (hb hby at_119) #[.val (.long q1), .second, .val (.int p2), .val (.int p3), .val (.int p4), .val (.long x), .second, .val (.int at'), .val (.int fill), .val (.ref o1), .val (.int (Int32.ofNat (ai + L + 1))), .val (.int (Int32.ofNat (L + 1)))] rfl ?_
  refine g_iload X17 hx 123 rfl (hb hby at_121) rfl ?_
  refine g_iload X17 hx 125 rfl (hb hby at_123) rfl ?_
  refine g_iload X17 hx 127 rfl (hb hby at_125) rfl ?_
  refine g_iadd X17 hx 128 rfl (hb hby at_127) ?_
  have hend : Int32.ofNat (ai + L + 1) = at' + Int32.ofNat (L + 1) := by
    have h1 := c_iadd at' (Int32.ofNat (L + 1)); have h2 := rng32 (at' + Int32.ofNat (L + 1)); have h3 := own_ofi (ai + L + 1) (by omega); have h4 := own_ofi (L + 1) (by omega)
    apply Int32.toInt_inj.mp; omega
  refine g_icmpN X17 hx 131 rfl (hb hby at_128) (XT.ii_ne_f hend) ?_
  refine g_aload X17 hx 133 rfl (hb hby at_131) rfl rfl ?_
  refine g_iconst X17 hx 134 rfl (0 : Int32) rfl (hb hby at_133) ?_
  refine g_iload X17 hx 136 rfl (hb hby at_134) rfl ?_
  refine g_iload X17 hx 138 rfl (hb hby at_136) rfl ?_
  refine g_lload X17 hx 140 rfl (hb hby at_138) rfl ?_
  refine g_iload X17 hx 142 rfl (hb hby at_140) rfl ?_
  refine g_callS X17 hx hZ 145 rfl (y := (⟨"com/example/tallyrank/tallyrank/index/OutputPutVariablePinLaw", "ok", "([BIIIJB)Z"⟩ : MethodName)) hown (hw _ (List.mem_of_getElem? (i := 20) rfl)) (hw _ (List.mem_of_getElem? (i := 21) rfl)) (hw _ (List.mem_of_getElem? (i := 10) rfl)) (hw _ (List.mem_of_getElem? (i := 22) rfl)) (by decide) [.ref o1, .int (0 : Int32), .int at', .int (Int32.ofNat (L + 1)), .long x, .int fill] [] (rmO l Z a0 hw [] o1 (0 : Int32) at' (Int32.ofNat (L + 1)) x fill _ 0 T15.heap n0 Zl18 B15 rfl (own_okp x hv63 at' fill ai hai ha3 L hL8 hst 0 (by decide))) e17 (lenOf pd_2 rfl) rfl (by rw [hml]; rfl) (hb hby at_142) (by decide) 0 (Nat.le_of_eq rfl) (by decide) (by decide) (by decide) ?_
  rintro _ T19 L19 X19 ⟨rfl, N19q, e19⟩
  have N19 := Fr.app N17 N19q
  show Goes p e below (T19.setTop (mkF m 145 #[.val (.long q1), .second, .val (.int p2), .val (.int p3), .val (.int p4), .val (.long x), .second, .val (.int at'), .val (.int fill), .val (.ref o1), .val (.int (Int32.ofNat (ai + L + 1))), .val (.int (Int32.ofNat (L + 1)))] [.int (1 : Int32)])) _
  refine g_ifN X19 hx 148 rfl (hb hby at_145) (XT.i0_eq_f (by decide)) ?_
  refine g_aload X19 hx 150 rfl (hb hby at_148) rfl rfl ?_
  refine g_iconst X19 hx 151 rfl (1 : Int32) rfl (hb hby at_150) ?_
  refine g_iload X19 hx 153 rfl (hb hby at_151) rfl ?_
  refine g_iload X19 hx 155 rfl (hb hby at_153) rfl ?_
  refine g_lload X19 hx 157 rfl (hb hby at_155) rfl ?_
  refine g_iload X19 hx 159 rfl (hb hby at_157) rfl ?_
  refine g_callS X19 hx hZ 162 rfl (y := (⟨"com/example/tallyrank/tallyrank/index/OutputPutVariablePinLaw", "ok", "([BIIIJB)Z"⟩ : MethodName)) hown (hw _ (List.mem_of_getElem? (i := 20) rfl)) (hw _ (List.mem_of_getElem? (i := 21) rfl)) (hw _ (List.mem_of_getElem? (i := 10) rfl)) (hw _ (List.mem_of_getElem? (i := 22) rfl)) (by decide) [.ref o1, .int (1 : Int32), .int at', .int (Int32.ofNat (L + 1)), .long x, .int fill] [] (rmO l Z a0 hw [] o1 (1 : Int32) at' (Int32.ofNat (L + 1)) x fill _ 1 T15.heap n0 Zl18 B15 rfl (own_okp x hv63 at' fill ai hai ha3 L hL8 hst 1 (by decide))) e19 (lenOf pd_2 rfl) rfl (by rw [hml]; rfl) (hb hby at_159) (by decide) 0 (Nat.le_of_eq rfl) (by decide) (by decide) (by decide) ?_
  rintro _ T20 L20 X20 ⟨rfl, N20q, e20⟩
  have N20 := Fr.app N19 N20q
  show Goes p e below (T20.setTop (mkF m 162 #[.val (.long q1), .second, .val (.int p2), .val (.int p3), .val (.int p4), .val (.long x), .second, .val (.int at'), .val (.int fill), .val (.ref o1), .val (.int (Int32.ofNat (ai + L + 1))), .val (.int (Int32.ofNat (L + 1)))] [.int (1 : Int32)])) _
  refine g_ifN X20 hx 165 rfl (hb hby at_162) (XT.i0_eq_f (by decide)) ?_
  refine g_aload X20 hx 167 rfl (hb hby at_165) rfl rfl ?_
  refine g_iconst X20 hx 168 rfl (2 : Int32) rfl (hb hby at_167) ?_
  refine g_iload X20 hx 170 rfl (hb hby at_168) rfl ?_
  refine g_iload X20 hx 172 rfl (hb hby at_170) rfl ?_
  refine g_lload X20 hx 174 rfl (hb hby at_172) rfl ?_
  refine g_iload X20 hx 176 rfl (hb hby at_174) rfl ?_
  refine g_callS X20 hx hZ 179 rfl (y := (⟨"com/example/tallyrank/tallyrank/index/OutputPutVariablePinLaw", "ok", "([BIIIJB)Z"⟩ : MethodName)) hown (hw _ (List.mem_of_getElem? (i := 20) rfl)) (hw _ (List.mem_of_getElem? (i := 21) rfl)) (hw _ (List.mem_of_getElem? (i := 10) rfl)) (hw _ (List.mem_of_getElem? (i := 22) rfl)) (by decide) [.ref o1, .int (2 : Int32), .int at', .int (Int32.ofNat (L + 1)), .long x, .int fill] [] (rmO l Z a0 hw [] o1 (2 : Int32) at' (Int32.ofNat (L + 1)) x fill _ 2 T15.heap n0 Zl18 B15 rfl (own_okp x hv63 at' fill ai hai ha3 L hL8 hst 2 (by decide))) e20 (lenOf pd_2 rfl) rfl (by rw [hml]; rfl) (hb hby at_176) (by decide) 0 (Nat.le_of_eq rfl) (by decide) (by decide) (by decide) ?_
  rintro _ T21 L21 X21 ⟨rfl, N21q, e21⟩
  have N21 := Fr.app N20 N21q
  show Goes p e below (T21.setTop (mkF m 179 #[.val (.long q1), .second, .val (.int p2), .val (.int p3), .val (.int p4), .val (.long x), .second, .val (.int at'), .val (.int fill), .val (.ref o1), .val (.int (Int32.ofNat (ai + L + 1))), .val (.int (Int32.ofNat (L + 1)))] [.int (1 : Int32)])) _
  refine g_ifN X21 hx 182 rfl (hb hby at_179) (XT.i0_eq_f (by decide)) ?_
  refine g_aload X21 hx 184 rfl (hb hby at_182) rfl rfl ?_
  refine g_iconst X21 hx 185 rfl (3 : Int32) rfl (hb hby at_184) ?_
  refine g_iload X21 hx 187 rfl (hb hby at_185) rfl ?_
  refine g_iload X21 hx 189 rfl (hb hby at_187) rfl ?_
  refine g_lload X21 hx 191 rfl (hb hby at_189) rfl ?_
  refine g_iload X21 hx 193 rfl (hb hby at_191) rfl ?_
  refine g_callS X21 hx hZ 196 rfl (y := (⟨"com/example/tallyrank/tallyrank/index/OutputPutVariablePinLaw", "ok", "([BIIIJB)Z"⟩ : MethodName)) hown (hw _ (List.mem_of_getElem? (i := 20) rfl)) (hw _ (List.mem_of_getElem? (i := 21) rfl)) (hw _ (List.mem_of_getElem? (i := 10) rfl)) (hw _ (List.mem_of_getElem? (i := 22) rfl)) (by decide) [.ref o1, .int (3 : Int32), .int at', .int (Int32.ofNat (L + 1)), .long x, .int fill] [] (rmO l Z a0 hw [] o1 (3 : Int32) at' (Int32.ofNat (L + 1)) x fill _ 3 T15.heap n0 Zl18 B15 rfl (own_okp x hv63 at' fill ai hai ha3 L hL8 hst 3 (by decide))) e21 (lenOf pd_2 rfl) rfl (by rw [hml]; rfl) (hb hby at_193) (by decide) 0 (Nat.le_of_eq rfl) (by decide) (by decide) (by decide) ?_
  rintro _ T22 L22 X22 ⟨rfl, N22q, e22⟩
  have N22 := Fr.app N21 N22q
  show Goes p e below (T22.setTop (mkF m 196 #[.val (.long q1), .second, .val (.int p2), .val (.int p3), .val (.int p4), .val (.long x), .second, .val (.int at'), .val (.int fill), .val (.ref o1), .val (.int (Int32.ofNat (ai + L + 1))), .val (.int (Int32.ofNat (L + 1)))] [.int (1 : Int32)])) _
  refine g_ifN X22 hx 199 rfl (hb hby at_196) (XT.i0_eq_f (by decide)) ?_
  refine g_aload X22 hx 201 rfl (hb hby at_199) rfl rfl ?_
  refine g_iconst X22 hx 202 rfl (4 : Int32) rfl (hb hby at_201) ?_
  refine g_iload X22 hx 204 rfl (hb hby at_202) rfl ?_
  refine g_iload X22 hx 206 rfl (hb hby at_204) rfl ?_
  refine g_lload X22 hx 208 rfl (hb hby at_206) rfl ?_
  refine g_iload X22 hx 210 rfl (hb hby at_208) rfl ?_
  refine g_callS X22 hx hZ 213 rfl (y := (⟨"com/example/tallyrank/tallyrank/index/OutputPutVariablePinLaw", "ok", "([BIIIJB)Z"⟩ : MethodName)) hown (hw _ (List.mem_of_getElem? (i := 20) rfl)) (hw _ (List.mem_of_getElem? (i := 21) rfl)) (hw _ (List.mem_of_getElem? (i := 10) rfl)) (hw _ (List.mem_of_getElem? (i := 22) rfl)) (by decide) [.ref o1, .int (4 : Int32), .int at', .int (Int32.ofNat (L + 1)), .long x, .int fill] [] (rmO l Z a0 hw [] o1 (4 : Int32) at' (Int32.ofNat (L + 1)) x fill _ 4 T15.heap n0 Zl18 B15 rfl (own_okp x hv63 at' fill ai hai ha3 L hL8 hst 4 (by decide))) e22 (lenOf pd_2 rfl) rfl (by rw [hml]; rfl) (hb hby at_210) (by decide) 0 (Nat.le_of_eq rfl) (by decide) (by decide) (by decide) ?_
  rintro _ T23 L23 X23 ⟨rfl, N23q, e23⟩
  have N23 := Fr.app N22 N23q
  show Goes p e below (T23.setTop (mkF m 213 #[.val (.long q1), .second, .val (.int p2), .val (.int p3), .val (.int p4), .val (.long x), .second, .val (.int at'), .val (.int fill), .val (.ref o1), .val (.int (Int32.ofNat (ai + L + 1))), .val (.int (Int32.ofNat (L + 1)))] [.int (1 : Int32)])) _
  refine g_ifN X23 hx 216 rfl (hb hby at_213) (XT.i0_eq_f (by decide)) ?_
  refine g_aload X23 hx 218 rfl (hb hby at_216) rfl rfl ?_
  refine g_iconst X23 hx 219 rfl (5 : Int32) rfl (hb hby at_218) ?_
  refine g_iload X23 hx 221 rfl (hb hby at_219) rfl ?_
  refine g_iload X23 hx 223 rfl (hb hby at_221) rfl ?_
  refine g_lload X23 hx 225 rfl (hb hby at_223) rfl ?_
  refine g_iload X23 hx 227 rfl (hb hby at_225) rfl ?_
  refine g_callS X23 hx hZ 230 rfl (y := (⟨"com/example/tallyrank/tallyrank/index/OutputPutVariablePinLaw", "ok", "([BIIIJB)Z"⟩ : MethodName)) hown (hw _ (List.mem_of_getElem? (i := 20) rfl)) (hw _ (List.mem_of_getElem? (i := 21) rfl)) (hw _ (List.mem_of_getElem? (i := 10) rfl)) (hw _ (List.mem_of_getElem? (i := 22) rfl)) (by decide) [.ref o1, .int (5 : Int32), .int at', .int (Int32.ofNat (L + 1)), .long x, .int fill] [] (rmO l Z a0 hw [] o1 (5 : Int32) at' (Int32.ofNat (L + 1)) x fill _ 5 T15.heap n0 Zl18 B15 rfl (own_okp x hv63 at' fill ai hai ha3 L hL8 hst 5 (by decide))) e23 (lenOf pd_2 rfl) rfl (by rw [hml]; rfl) (hb hby at_227) (by decide) 0 (Nat.le_of_eq rfl) (by decide) (by decide) (by decide) ?_
  rintro _ T24 L24 X24 ⟨rfl, N24q, e24⟩
  have N24 := Fr.app N23 N24q
  show Goes p e below (T24.setTop (mkF m 230 #[.val (.long q1), .second, .val (.int p2), .val (.int p3), .val (.int p4), .val (.long x), .second, .val (.int at'), .val (.int fill), .val (.ref o1), .val (.int (Int32.ofNat (ai + L + 1))), .val (.int (Int32.ofNat (L + 1)))] [.int (1 : Int32)])) _
  refine g_ifN X24 hx 233 rfl (hb hby at_230) (XT.i0_eq_f (by decide)) ?_
  refine g_aload X24 hx 235 rfl (hb hby at_233) rfl rfl ?_
  refine g_bipush X24 hx 237 rfl (6 : Int32) rfl (hb hby at_235) ?_
  refine g_iload X24 hx 239 rfl (hb hby at_237) rfl ?_
  refine g_iload X24 hx 241 rfl (hb hby at_239) rfl ?_
  refine g_lload X24 hx 243 rfl (hb hby at_241) rfl ?_
  refine g_iload X24 hx 245 rfl (hb hby at_243) rfl ?_
  refine g_callS X24 hx hZ 248 rfl (y := (⟨"com/example/tallyrank/tallyrank/index/OutputPutVariablePinLaw", "ok", "([BIIIJB)Z"⟩ : MethodName)) hown (hw _ (List.mem_of_getElem? (i := 20) rfl)) (hw _ (List.mem_of_getElem? (i := 21) rfl)) (hw _ (List.mem_of_getElem? (i := 10) rfl)) (hw _ (List.mem_of_getElem? (i := 22) rfl)) (by decide) [.ref o1, .int (6 : Int32), .int at', .int (Int32.ofNat (L + 1)), .long x, .int fill] [] (rmO l Z a0 hw [] o1 (6 : Int32) at' (Int32.ofNat (L + 1)) x fill _ 6 T15.heap n0 Zl18 B15 rfl (own_okp x hv63 at' fill ai hai ha3 L hL8 hst 6 (by decide))) e24 (lenOf pd_2 rfl) rfl (by rw [hml]; rfl) (hb hby at_245) (by decide) 0 (Nat.le_of_eq rfl) (by decide) (by decide) (by decide) ?_
  rintro _ T25 L25 X25 ⟨rfl, N25q, e25⟩
  have N25 := Fr.app N24 N25q
  show Goes p e below (T25.setTop (mkF m 248 #[.val (.long q1), .second, .val (.int p2), .val (.int p3), .val (.int p4), .val (.long x), .second, .val (.int at'), .val (.int fill), .val (.ref o1), .val (.int (Int32.ofNat (ai + L + 1))), .val (.int (Int32.ofNat (L + 1)))] [.int (1 : Int32)])) _
  refine g_ifN X25 hx 251 rfl (hb hby at_248) (XT.i0_eq_f (by decide)) ?_
  refine g_aload X25 hx 253 rfl (hb hby at_251) rfl rfl ?_
  refine g_bipush X25 hx 255 rfl (7 : Int32) rfl (hb hby at_253) ?_
  refine g_iload X25 hx 257 rfl (hb hby at_255) rfl ?_
  refine g_iload X25 hx 259 rfl (hb hby at_257) rfl ?_
  refine g_lload X25 hx 261 rfl (hb hby at_259) rfl ?_
  refine g_iload X25 hx 263 rfl (hb hby at_261) rfl ?_
  refine g_callS X25 hx hZ 266 rfl (y := (⟨"com/example/tallyrank/tallyrank/index/OutputPutVariablePinLaw", "ok", "([BIIIJB)Z"⟩ : MethodName)) hown (hw _ (List.mem_of_getElem? (i := 20) rfl)) (hw _ (List.mem_of_getElem? (i := 21) rfl)) (hw _ (List.mem_of_getElem? (i := 10) rfl)) (hw _ (List.mem_of_getElem? (i := 22) rfl)) (by decide) [.ref o1, .int (7 : Int32), .int at', .int (Int32.ofNat (L + 1)), .long x, .int fill] [] (rmO l Z a0 hw [] o1 (7 : Int32) at' (Int32.ofNat (L + 1)) x fill _ 7 T15.heap n0 Zl18 B15 rfl (own_okp x hv63 at' fill ai hai ha3 L hL8 hst 7 (by decide))) e25 (lenOf pd_2 rfl) rfl (by rw [hml]; rfl) (hb hby at_263) (by decide) 0 (Nat.le_of_eq rfl) (by decide) (by decide) (by decide) ?_
  rintro _ T26 L26 X26 ⟨rfl, N26q, e26⟩
  have N26 := Fr.app N25 N26q
  show Goes p e below (T26.setTop (mkF m 266 #[.val (.long q1), .second, .val (.int p2), .val (.int p3), .val (.int p4), .val (.long x), .second, .val (.int at'), .val (.int fill), .val (.ref o1), .val (.int (Int32.ofNat (ai + L + 1))), .val (.int (Int32.ofNat (L + 1)))] [.int (1 : Int32)])) _
  refine g_ifN X26 hx 269 rfl (hb hby at_266) (XT.i0_eq_f (by decide)) ?_
  refine g_aload X26 hx 271 rfl (hb hby at_269) rfl rfl ?_
  refine g_bipush X26 hx 273 rfl (8 : Int32) rfl (hb hby at_271) ?_
  refine g_iload X26 hx 275 rfl (hb hby at_273) rfl ?_
  refine g_iload X26 hx 277 rfl (hb hby at_275) rfl ?_
  refine g_lload X26 hx 279 rfl (hb hby at_277) rfl ?_
  refine g_iload X26 hx 281 rfl (hb hby at_279) rfl ?_
  refine g_callS X26 hx hZ 284 rfl (y := (⟨"com/example/tallyrank/tallyrank/index/OutputPutVariablePinLaw", "ok", "([BIIIJB)Z"⟩ : MethodName)) hown (hw _ (List.mem_of_getElem? (i := 20) rfl)) (hw _ (List.mem_of_getElem? (i := 21) rfl)) (hw _ (List.mem_of_getElem? (i := 10) rfl)) (hw _ (List.mem_of_getElem? (i := 22) rfl)) (by decide) [.ref o1, .int (8 : Int32), .int at', .int (Int32.ofNat (L + 1)), .long x, .int fill] [] (rmO l Z a0 hw [] o1 (8 : Int32) at' (Int32.ofNat (L + 1)) x fill _ 8 T15.heap n0 Zl18 B15 rfl (own_okp x hv63 at' fill ai hai ha3 L hL8 hst 8 (by decide))) e26 (lenOf pd_2 rfl) rfl (by rw [hml]; rfl) (hb hby at_281) (by decide) 0 (Nat.le_of_eq rfl) (by decide) (by decide) (by decide) ?_
  rintro _ T27 L27 X27 ⟨rfl, N27q, e27⟩
  have N27 := Fr.app N26 N27q
  show Goes p e below (T27.setTop (mkF m 284 #[.val (.long q1), .second, .val (.int p2), .val (.int p3), .val (.int p4), .val (.long x), .second, .val (.int at'), .val (.int fill), .val (.ref o1), .val (.int (Int32.ofNat (ai + L + 1))), .val (.int (Int32.ofNat (L + 1)))] [.int (1 : Int32)])) _
  refine g_ifN X27 hx 287 rfl (hb hby at_284) (XT.i0_eq_f (by decide)) ?_
  refine g_aload X27 hx 289 rfl (hb hby at_287) rfl rfl ?_
  refine g_bipush X27 hx 291 rfl (9 : Int32) rfl (hb hby at_289) ?_
  refine g_iload X27 hx 293 rfl (hb hby at_291) rfl ?_
  refine g_iload X27 hx 295 rfl (hb hby at_293) rfl ?_
  refine g_lload X27 hx 297 rfl (hb hby at_295) rfl ?_
  refine g_iload X27 hx 299 rfl (hb hby at_297) rfl ?_
  refine g_callS X27 hx hZ 302 rfl (y := (⟨"com/example/tallyrank/tallyrank/index/OutputPutVariablePinLaw", "ok", "([BIIIJB)Z"⟩ : MethodName)) hown (hw _ (List.mem_of_getElem? (i := 20) rfl)) (hw _ (List.mem_of_getElem? (i := 21) rfl)) (hw _ (List.mem_of_getElem? (i := 10) rfl)) (hw _ (List.mem_of_getElem? (i := 22) rfl)) (by decide) [.ref o1, .int (9 : Int32), .int at', .int (Int32.ofNat (L + 1)), .long x, .int fill] [] (rmO l Z a0 hw [] o1 (9 : Int32) at' (Int32.ofNat (L + 1)) x fill _ 9 T15.heap n0 Zl18 B15 rfl (own_okp x hv63 at' fill ai hai ha3 L hL8 hst 9 (by decide))) e27 (lenOf pd_2 rfl) rfl (by rw [hml]; rfl) (hb hby at_299) (by decide) 0 (Nat.le_of_eq rfl) (by decide) (by decide) (by decide) ?_
  rintro _ T28 L28 X28 ⟨rfl, N28q, e28⟩
  have N28 := Fr.app N27 N28q
  show Goes p e below (T28.setTop (mkF m 302 #[.val (.long q1), .second, .val (.int p2), .val (.int p3), .val (.int p4), .val (.long x), .second, .val (.int at'), .val (.int fill), .val (.ref o1), .val (.int (Int32.ofNat (ai + L + 1))), .val (.int (Int32.ofNat (L + 1)))] [.int (1 : Int32)])) _
  refine g_ifN X28 hx 305 rfl (hb hby at_302) (XT.i0_eq_f (by decide)) ?_
  refine g_aload X28 hx 307 rfl (hb hby at_305) rfl rfl ?_
  refine g_bipush X28 hx 309 rfl (10 : Int32) rfl (hb hby at_307) ?_
  refine g_iload X28 hx 311 rfl (hb hby at_309) rfl ?_
  refine g_iload X28 hx 313 rfl (hb hby at_311) rfl ?_
  refine g_lload X28 hx 315 rfl (hb hby at_313) rfl ?_
  refine g_iload X28 hx 317 rfl (hb hby at_315) rfl ?_
  refine g_callS X28 hx hZ 320 rfl (y := (⟨"com/example/tallyrank/tallyrank/index/OutputPutVariablePinLaw", "ok", "([BIIIJB)Z"⟩ : MethodName)) hown (hw _ (List.mem_of_getElem? (i := 20) rfl)) (hw _ (List.mem_of_getElem? (i := 21) rfl)) (hw _ (List.mem_of_getElem? (i := 10) rfl)) (hw _ (List.mem_of_getElem? (i := 22) rfl)) (by decide) [.ref o1, .int (10 : Int32), .int at', .int (Int32.ofNat (L + 1)), .long x, .int fill] [] (rmO l Z a0 hw [] o1 (10 : Int32) at' (Int32.ofNat (L + 1)) x fill _ 10 T15.heap n0 Zl18 B15 rfl (own_okp x hv63 at' fill ai hai ha3 L hL8 hst 10 (by decide))) e28 (lenOf pd_2 rfl) rfl (by rw [hml]; rfl) (hb hby at_317) (by decide) 0 (Nat.le_of_eq rfl) (by decide) (by decide) (by decide) ?_
  rintro _ T29 L29 X29 ⟨rfl, N29q, e29⟩
  have N29 := Fr.app N28 N29q
  show Goes p e below (T29.setTop (mkF m 320 #[.val (.long q1), .second, .val (.int p2), .val (.int p3), .val (.int p4), .val (.long x), .second, .val (.int at'), .val (.int fill), .val (.ref o1), .val (.int (Int32.ofNat (ai + L + 1))), .val (.int (Int32.ofNat (L + 1)))] [.int (1 : Int32)])) _
  refine g_ifN X29 hx 323 rfl (hb hby at_320) (XT.i0_eq_f (by decide)) ?_
  refine g_aload X29 hx 325 rfl (hb hby at_323) rfl rfl ?_
  refine g_bipush X29 hx 327 rfl (11 : Int32) rfl (hb hby at_325) ?_
  refine g_iload X29 hx 329 rfl (hb hby at_327) rfl ?_
  refine g_iload X29 hx 331 rfl (hb hby at_329) rfl ?_
  refine g_lload X29 hx 333 rfl (hb hby at_331) rfl ?_
  refine g_iload X29 hx 335 rfl (hb hby at_333) rfl ?_
  refine g_callS X29 hx hZ 338 rfl (y := (⟨"com/example/tallyrank/tallyrank/index/OutputPutVariablePinLaw", "ok", "([BIIIJB)Z"⟩ : MethodName)) hown (hw _ (List.mem_of_getElem? (i := 20) rfl)) (hw _ (List.mem_of_getElem? (i := 21) rfl)) (hw _ (List.mem_of_getElem? (i := 10) rfl)) (hw _ (List.mem_of_getElem? (i := 22) rfl)) (by decide) [.ref o1, .int (11 : Int32), .int at', .int (Int32.ofNat (L + 1)), .long x, .int fill] [] (rmO l Z a0 hw [] o1 (11 : Int32) at' (Int32.ofNat (L + 1)) x fill _ 11 T15.heap n0 Zl18 B15 rfl (own_okp x hv63 at' fill ai hai ha3 L hL8 hst 11 (by decide))) e29 (lenOf pd_2 rfl) rfl (by rw [hml]; rfl) (hb hby at_335) (by decide) 0 (Nat.le_of_eq rfl) (by decide) (by decide) (by decide) ?_
  rintro _ T30 L30 X30 ⟨rfl, N30q, e30⟩
  have N30 := Fr.app N29 N30q
  show Goes p e below (T30.setTop (mkF m 338 #[.val (.long q1), .second, .val (.int p2), .val (.int p3), .val (.int p4), .val (.long x), .second, .val (.int at'), .val (.int fill), .val (.ref o1), .val (.int (Int32.ofNat (ai + L + 1))), .val (.int (Int32.ofNat (L + 1)))] [.int (1 : Int32)])) _
  refine g_ifN X30 hx 341 rfl (hb hby at_338) (XT.i0_eq_f (by decide)) ?_
  refine g_aload X30 hx 343 rfl (hb hby at_341) rfl rfl ?_
  refine g_bipush X30 hx 345 rfl (12 : Int32) rfl (hb hby at_343) ?_
  refine g_iload X30 hx 347 rfl (hb hby at_345) rfl ?_
  refine g_iload X30 hx 349 rfl (hb hby at_347) rfl ?_
  refine g_lload X30 hx 351 rfl (hb hby at_349) rfl ?_
  refine g_iload X30 hx 353 rfl (hb hby at_351) rfl ?_
  refine g_callS X30 hx hZ 356 rfl (y := (⟨"com/example/tallyrank/tallyrank/index/OutputPutVariablePinLaw", "ok", "([BIIIJB)Z"⟩ : MethodName)) hown (hw _ (List.mem_of_getElem? (i := 20) rfl)) (hw _ (List.mem_of_getElem? (i := 21) rfl)) (hw _ (List.mem_of_getElem? (i := 10) rfl)) (hw _ (List.mem_of_getElem? (i := 22) rfl)) (by decide) [.ref o1, .int (12 : Int32), .int at', .int (Int32.ofNat (L + 1)), .long x, .int fill] [] (rmO l Z a0 hw [] o1 (12 : Int32) at' (Int32.ofNat (L + 1)) x fill _ 12 T15.heap n0 Zl18 B15 rfl (own_okp x hv63 at' fill ai hai ha3 L hL8 hst 12 (by decide))) e30 (lenOf pd_2 rfl) rfl (by rw [hml]; rfl) (hb hby at_353) (by decide) 0 (Nat.le_of_eq rfl) (by decide) (by decide) (by decide) ?_
  rintro _ T31 L31 X31 ⟨rfl, N31q, e31⟩
  have N31 := Fr.app N30 N31q
  show Goes p e below (T31.setTop (mkF m 356 #[.val (.long q1), .second, .val (.int p2), .val (.int p3), .val (.int p4), .val (.long x), .second, .val (.int at'), .val (.int fill), .val (.ref o1), .val (.int (Int32.ofNat (ai + L + 1))), .val (.int (Int32.ofNat (L + 1)))] [.int (1 : Int32)])) _
  refine g_ifN X31 hx 359 rfl (hb hby at_356) (XT.i0_eq_f (by decide)) ?_
  refine g_iconst X31 hx 360 rfl (1 : Int32) rfl (hb hby at_359) ?_
  refine g_goto X31 hx 364 (hb hby at_360) (by decide) (by decide) ?_
  exact g_retZ X31 hx hret hlk rfl (hb hby at_364) ⟨rfl, N31⟩ (by decide) (by decide)
set_option maxRecDepth 65536 in
set_option maxHeartbeats 40000000 in
theorem comes_1 {Post : Tables → Env → Array Value → State → Outcome → State → Prop} (hpost : ∀ tb e args s v u, (limb_1_1.after args s (.returned v) u = true ∧ limb_1_2.after args s (.returned v) u = true ∧ True) → FrameEnd s (.returned v) u (Jvm.fieldLocs frame_1_writes args s ++ Jvm.arrayLocs frame_1_arrays args s ++ Jvm.staticLocs frame_1_statics s) 16 128 → Post tb e args s (.returned v) u) :
    ArmFor flags0 classFile x code maxLocals ret World_1 tables_1 room_1 Calls_1 rest_1 Pre_1 Post := by
  intro l hfl _ _ p e ha hc hk s m args below hf hA hF happ hP
  obtain ⟨hcalls, hrest, hpre⟩ := hP
  obtain ⟨-, -, -, hnamed, -, -, -, hat⟩ := (Spec.applies_iff hf).mp happ
  obtain ⟨hg, hn⟩ := and_e (Cond.before_iff.mp (show (Jvm.Cond.and given_1 narrow_1).before args s = true from hpre))
  obtain ⟨h1, hr1⟩ := and_e hg
  obtain ⟨hk1, hr2⟩ := and_e hr1
  obtain ⟨hk2, hr3⟩ := and_e hr2
  obtain ⟨hk3, hr4⟩ := and_e hr3
  obtain ⟨w0, w1, w2, w3, rfl⟩ : ∃ w0 w1 w2 w3 : Value, args = #[w0, w1, w2, w3] := by
    have hs : args.size = 4 := by simpa [Cond.value, given_1] using h1
    obtain ⟨L⟩ := args
    match L, hs with
    | [w0, w1, w2, w3], _ => exact ⟨w0, w1, w2, w3, rfl⟩
  have hw := fun d (hd : d ∈ tables_1) => atoms_spec (ws := Jvm.Cond.code x code maxLocals ret :: tables_1) hat d (List.mem_cons_of_mem _ hd)
  have hfit : Fit s := fun {y c} hc i hi => by
    obtain ⟨ha, rfl⟩ := Array.getElem?_eq_some_iff.mp hc
    have q := List.all_eq_true.mp ((Array.all_eq_true_iff_forall_mem.mp hF) _ (Array.getElem_mem ha)) i (List.mem_range.mpr hi)
    simpa [Array.getElem?_eq_getElem hi] using q
  obtain ⟨i0, e0⟩ := isL_v hk1
  obtain rfl : w0 = (.long i0) := Option.some.inj e0
  obtain ⟨i1, e1⟩ := is_v hk2
  obtain rfl : w1 = (.int i1) := Option.some.inj e1
  obtain ⟨i2, e2⟩ := is_v hk3
  obtain rfl : w2 = (.int i2) := Option.some.inj e2
  obtain ⟨i3, e3⟩ := is_v hr4
  obtain rfl : w3 = (.int i3) := Option.some.inj e3
  obtain ⟨n, o, h1, h2, h3, _, L, rfl, ⟨rfl, N⟩, hq⟩ := rm0 l s _ hw tables_1 i0 i1 i2 i3  s.heap s.heap.size (Nat.le_refl _)  p e ha hc hk s m _ below hf ((Spec.applies_iff_loose hf).mp happ).1 ⟨rfl, State.Warmed39.refl s, rfl⟩ trivial
  refine ⟨n, _, h1, h2, h3, hpost _ _ _ _ _ _ ⟨Cond.after_iff.mpr rfl, Cond.after_iff.mpr (eq_i res_at (Term.int_eval (1)) rfl), trivial⟩ ⟨hq.1, hq.2.1, (hq.2.2.sift fun y hy => Or.inr (N y hy)).mono (by decide) (by decide)⟩⟩
theorem main_1_1 : Claimed_1_1 := comes_1 fun _ _ _ _ _ _ h hF => ⟨h.1, hF⟩
theorem main_1_2 : Claimed_1_2 := comes_1 fun _ _ _ _ _ _ h hF => ⟨h.2.1, hF⟩
end Jvm.Pilot.@@N@@
namespace Jvm.Pilot.@@N@@
open Jvm Jvm.ClassFile Sem Op Lib Jvm.Free Jvm.Stand Jvm.Pilot.@@N@@.Jvm.D
/-! MADE BY PROGRAM (witnessworld.py) out of the Statement's table words and the real class files: 9 classes; the members and pool entries that the words name. The judged class is class 1, her method 1. -/
namespace start1
open Jvm.ClassFile
def u (s : String) : CpInfo := .utf8 (stringToUtf16 s)
/-- a pool by its gaps: so many unusable entries, then the entry; so many at the end -/
def gap : Nat → List CpInfo → List CpInfo
  | 0, r => r
  | n + 1, r => .unusable :: gap n r
def poolList (es : List (Nat × CpInfo)) (last : Nat) : List CpInfo := es.foldr (fun e r => gap e.1 (e.2 :: r)) (gap last [])
def pool (es : List (Nat × CpInfo)) (last : Nat) : Array CpInfo := ⟨poolList es last⟩
def fileOf (pool : Array CpInfo) (this : Nat) (attrs : Array Attribute := #[]) (ms : Array MethodInfo := #[]) (fl : Nat := 33) (sup : Nat := 0) (ifs : Array Nat := #[]) (fds : Array FieldInfo := #[]) : ClassFile where
  minorVersion := 0
  majorVersion := 65
  constantPool := pool
  accessFlags := fl
  thisClass := this
  superClass := sup
  interfaces := ifs
  fields := fds
  methods := ms
  attributes := attrs
def plain (name : String) (sup : Option ClassId) : Class where
  name := name
  kind := .ordinary
  loader := none
  accessFlags := 33
  super := sup
  interfaces := #[]
  cf := none
  fields := #[]
  methods := #[]
  instanceTypes := #[]
  staticTypes := #[]
  resolved := #[]
  callSites := []
  init := .initialized
  statics := none
  mirror := none

def pool0 : Array CpInfo := pool [(5, u "<init>"), (0, u "()V"), (1, .class_ 10), (1, u "java/lang/Object")] 113

def k0m0 : Method := { name := "<init>", desc := "()V", sig := { parameters := [], returnType := none }, accessFlags := 1, code := none }
/-- java/lang/Object -/
def k0 : Class := { plain "java/lang/Object" none with
  accessFlags := 33
  interfaces := #[]
  cf := some (fileOf pool0 8 #[] #[{ accessFlags := 1, nameIndex := 5, descriptorIndex := 6, attributes := #[] }] 33 0 #[] #[])
  fields := #[]
  methods := #[k0m0]
  instanceTypes := #[]
  staticTypes := #[]
  resolved := Array.replicate 124 none
  statics := none }

def pool1 : Array CpInfo := pool [(2, .class_ 4), (1, u "java/lang/Object"), (0, u "<init>"), (0, u "()V"), (2, .long 9223372036854775807), (1, .integer 2147483647), (0, .methodref 13 14), (0, .class_ 15), (0, .nameAndType 16 17), (0, u "com/example/tallyrank/tallyrank/index/Output"), (0, u "putVariable"), (0, u "([BIJ)I"), (0, .methodref 19 20), (0, .class_ 21), (0, .nameAndType 22 23), (0, u "com/example/tallyrank/tallyrank/index/OutputPutVariablePinLaw"), (0, u "length"), (0, u "(J)I"), (0, .methodref 19 25), (0, .nameAndType 26 27), (0, u "ok"), (0, u "([BIIIJB)Z"), (0, .long 128), (1, .long 16384), (1, .long 2097152), (1, .long 268435456), (1, .long 34359738368), (1, .long 4398046511104), (1, .long 562949953421312), (1, .long 72057594037927936), (1, .long 127), (3, u "law"), (0, u "(JIII)Z")] 5

def k1m0 : Method := { name := "<init>", desc := "()V", sig := { parameters := [], returnType := none }, accessFlags := 1, code := none }
def k1c1 : Code := { maxStack := 7, maxLocals := 12, code := code, exceptionTable := #[], attributes := #[] }
def k1m1 : Method := { name := "law", desc := "(JIII)Z", sig := { parameters := [.long, .int, .int, .int], returnType := some .boolean }, accessFlags := 9, code := some k1c1 }
def k1c2 : Code := { maxStack := 4, maxLocals := 3, code := method_3_code, exceptionTable := #[], attributes := #[] }
def k1m2 : Method := { name := "length", desc := "(J)I", sig := { parameters := [.long], returnType := some .int }, accessFlags := 10, code := some k1c2 }
def k1c3 : Code := { maxStack := 4, maxLocals := 10, code := method_4_code, exceptionTable := #[], attributes := #[] }
def k1m3 : Method := { name := "ok", desc := "([BIIIJB)Z", sig := { parameters := [(.array .byte), .int, .int, .int, .long, .byte], returnType := some .boolean }, accessFlags := 10, code := some k1c3 }
/-- com/example/tallyrank/tallyrank/index/OutputPutVariablePinLaw -/
def k1 : Class := { plain "com/example/tallyrank/tallyrank/index/OutputPutVariablePinLaw" (some 0) with
  accessFlags := 49
  interfaces := #[]
  cf := some (fileOf pool1 19 #[] #[{ accessFlags := 1, nameIndex := 5, descriptorIndex := 6, attributes := #[] }, { accessFlags := 9, nameIndex := 48, descriptorIndex := 49, attributes := #[] }, { accessFlags := 10, nameIndex := 22, descriptorIndex := 23, attributes := #[] }, { accessFlags := 10, nameIndex := 26, descriptorIndex := 27, attributes := #[] }] 49 2 #[] #[])
  fields := #[]
  methods := #[k1m0, k1m1, k1m2, k1m3]
  instanceTypes := #[]
  staticTypes := #[]
  resolved := Array.replicate 55 none
  statics := none }

def pool2 : Array CpInfo := pool [(2, .class_ 4), (1, u "java/lang/Object"), (5, .class_ 12), (1, u "com/example/tallyrank/tallyrank/index/Output"), (0, u "scratch"), (0, u "[B"), (2, u "checksum"), (3, u "Ljava/util/zip/Checksum;"), (2, u "out"), (0, u "Ljava/io/OutputStream;"), (2, u "position"), (0, u "J"), (44, u "putVariable"), (0, u "([BIJ)I"), (52, .long 18446744073709551488), (1, .long 127), (1, .long 128)] 20

def k2c0 : Code := { maxStack := 6, maxLocals := 7, code := prog_72_method_14_code, exceptionTable := #[], attributes := #[] }
def k2m0 : Method := { name := "putVariable", desc := "([BIJ)I", sig := { parameters := [(.array .byte), .int, .long], returnType := some .int }, accessFlags := 8, code := some k2c0 }
/-- com/example/tallyrank/tallyrank/index/Output -/
def k2 : Class := { plain "com/example/tallyrank/tallyrank/index/Output" (some 0) with
  accessFlags := 48
  interfaces := #[]
  cf := some (fileOf pool2 10 #[] #[{ accessFlags := 8, nameIndex := 74, descriptorIndex := 75, attributes := #[] }] 48 2 #[] #[{ accessFlags := 18, nameIndex := 24, descriptorIndex := 25, attributes := #[] }, { accessFlags := 18, nameIndex := 13, descriptorIndex := 14, attributes := #[] }, { accessFlags := 18, nameIndex := 17, descriptorIndex := 21, attributes := #[] }, { accessFlags := 2, nameIndex := 28, descriptorIndex := 29, attributes := #[] }])
  fields := #[{ name := "out", type := (.object "java/io/OutputStream"), accessFlags := 18, slot := 0, constantValue := 0 }, { name := "scratch", type := (.array .byte), accessFlags := 18, slot := 1, constantValue := 0 }, { name := "checksum", type := (.object "java/util/zip/Checksum"), accessFlags := 18, slot := 2, constantValue := 0 }, { name := "position", type := .long, accessFlags := 2, slot := 3, constantValue := 0 }]
  methods := #[k2m0]
  instanceTypes := #[(.object "java/io/OutputStream"), (.array .byte), (.object "java/util/zip/Checksum"), .long]
  staticTypes := #[]
  resolved := Array.replicate 153 none
  statics := none }

def pool3 : Array CpInfo := pool [(1, u "java/lang/Cloneable"), (0, .class_ 1), (0, u "java/lang/Object"), (0, .class_ 3)] 3

/-- java/lang/Cloneable -/
def k3 : Class := { plain "java/lang/Cloneable" (some 0) with
  accessFlags := 1537
  interfaces := #[]
  cf := some (fileOf pool3 2 #[] #[] 1537 4 #[] #[])
  fields := #[]
  methods := #[]
  instanceTypes := #[]
  staticTypes := #[]
  resolved := Array.replicate 8 none
  statics := none }

def pool4 : Array CpInfo := pool [(1, u "java/io/Serializable"), (0, .class_ 1), (0, u "java/lang/Object"), (0, .class_ 3)] 3

/-- java/io/Serializable -/
def k4 : Class := { plain "java/io/Serializable" (some 0) with
  accessFlags := 1537
  interfaces := #[]
  cf := some (fileOf pool4 2 #[] #[] 1537 4 #[] #[])
  fields := #[]
  methods := #[]
  instanceTypes := #[]
  staticTypes := #[]
  resolved := Array.replicate 8 none
  statics := none }

/-- the primitive byte -/
def k5 : Class := { plain "byte" none with kind := .primitive 'B', accessFlags := 0x411 }
/-- [B -/
def k6 : Class := { plain "[B" (some 0) with kind := .array 5 .byte, interfaces := #[3, 4], accessFlags := 1041 }

/-- the primitive int -/
def k7 : Class := { plain "int" none with kind := .primitive 'I', accessFlags := 0x411 }
/-- [I -/
def k8 : Class := { plain "[I" (some 0) with kind := .array 7 .int, interfaces := #[3, 4], accessFlags := 1041 }

def heap : Heap := #[]
def classes : Array Class := #[k0, k1, k2, k3, k4, k5, k6, k7, k8]
def interned : List (Array UInt16 × Addr) := []
def slotsUsed : Nat := 0
def theMethod : MethodId := ⟨1, 1⟩
def args0 : Array Value := #[.long 300, .int 0, .int 1, .int 7]
def aboutOver (below : List Frame) : State where
  vm := { classes := classes, interned := interned.toArray }
  heap := heap
  slotsUsed := slotsUsed
  threads := #[{ frames := .invoking theMethod args0 :: below }]
def below0 : List Frame := [.native { method := ⟨0, 0⟩, args := #[] }]
def about1 : State := aboutOver below0
def p0 : Program := .bare "" "" ""
def e0 : Env := launch0.env 0 0 0
theorem w_frames : about1.frames = Frame.invoking theMethod args0 :: below0 := rfl
set_option maxRecDepth 65536 in
theorem w_args : argsFit about1.vm theMethod args0 = true := by decide +kernel
set_option maxRecDepth 65536 in
theorem w_heap : heapFits about1 = true := by decide +kernel
set_option maxRecDepth 65536 in
theorem w_runnable : about1.curStatus? = some .runnable := by decide +kernel
set_option maxRecDepth 65536 in
theorem w_alone : about1.alone = true := by decide +kernel
set_option maxRecDepth 65536 in
theorem w_named : about1.methodNamed? x = some theMethod := by decide +kernel
set_option maxRecDepth 65536 in
theorem w_hears : about1.hears theMethod below0 = true := by decide +kernel
set_option maxRecDepth 65536 in
theorem w_ripe : about1.ripe theMethod args0 below0 = true := by decide +kernel
theorem w_running : about1.status = .running := rfl
set_option maxRecDepth 65536 in
theorem w_room : about1.hasRoom e0.platform room_1 = true :=
  launch0.hasRoom_least _ room_1 (by decide +kernel) (by decide +kernel) (by decide +kernel) (by decide +kernel) (by decide +kernel) (by decide +kernel)
theorem allAtoms_all (ts : List Jvm.Cond) (a : Array Jvm.Value) (st : Jvm.State) : (allAtoms ts).before a st = ts.all (fun c => c.before a st) := by
  induction ts with
  | nil => rfl
  | cons c t ih =>
    show (Jvm.Cond.and c (allAtoms t)).before a st = _
    rw [Jvm.Cond.before_and, ih, List.all_cons]
def words1 : List Jvm.Cond := Jvm.Cond.code x code maxLocals ret :: tables_1
/-- a 'code' word, met by the world's own term for the bytes: nothing is compared byte by byte -/
theorem code_word {y : MethodName} {bytes : ByteArray} {mx : Nat} {rt : Option FieldType} {a : Array Value} {s : State} {m : MethodId} {meth : Method} {c : Code} (h1 : s.methodNamed? y = some m) (h2 : s.vm.method? m = some meth) (h3 : meth.code = some c) (h4 : c.code = bytes)
    (h5 : (c.maxLocals == mx && c.exceptionTable.isEmpty && decide (c.maxStack ≤ mostOperands) && decide (meth.sig.returnType = rt) && !meth.locks && decide (parseMethodDescriptor y.desc = some meth.sig)) = true) : (Jvm.Cond.code y bytes mx rt).before a s = true := by
  simp only [Bool.and_eq_true, beq_iff_eq, Bool.not_eq_true', decide_eq_true_eq] at h5
  obtain ⟨⟨⟨⟨⟨g1, g2⟩, g3⟩, g4⟩, g5⟩, g6⟩ := h5
  simp [Cond.before, Cond.holds, Cond.value, h1, h2, h3, h4, g1, g2, g3, g4, g5, g6]
def isCode : Jvm.Cond → Bool
  | .code _ _ _ _ => true
  | _ => false
theorem all_split {L : List Jvm.Cond} {P : Jvm.Cond → Bool} (h1 : L.all (fun c => isCode c || P c) = true) (h2 : ∀ c ∈ L.filter isCode, P c = true) : L.all P = true := by
  refine List.all_eq_true.mpr fun c hc => ?_
  have h := List.all_eq_true.mp h1 c hc
  rcases Bool.eq_false_or_eq_true (isCode c) with hi | hi
  · exact h2 c (List.mem_filter.mpr ⟨hc, hi⟩)
  · simpa [hi] using h
set_option maxRecDepth 65536 in
theorem w_c0 : (Jvm.Cond.code x code maxLocals ret).before args0 about1 = true := code_word (m := ⟨1, 1⟩) (meth := k1m1) (c := k1c1) (by decide +kernel) rfl rfl rfl (by decide +kernel)
set_option maxRecDepth 65536 in
theorem w_c1 : (Jvm.Cond.code ({ cls := "com/example/tallyrank/tallyrank/index/Output", name := "putVariable", desc := "([BIJ)I" } : Jvm.MethodName) prog_72_method_14_code (7 : Nat) (Option.some Jvm.ClassFile.FieldType.int)).before args0 about1 = true := code_word (m := ⟨2, 0⟩) (meth := k2m0) (c := k2c0) (by decide +kernel) rfl rfl rfl (by decide +kernel)
set_option maxRecDepth 65536 in
theorem w_c2 : (Jvm.Cond.code ({ cls := "com/example/tallyrank/tallyrank/index/OutputPutVariablePinLaw", name := "length", desc := "(J)I" } : Jvm.MethodName) method_3_code (3 : Nat) (Option.some Jvm.ClassFile.FieldType.int)).before args0 about1 = true := code_word (m := ⟨1, 2⟩) (meth := k1m2) (c := k1c2) (by decide +kernel) rfl rfl rfl (by decide +kernel)
set_option maxRecDepth 65536 in
theorem w_c3 : (Jvm.Cond.code ({ cls := "com/example/tallyrank/tallyrank/index/OutputPutVariablePinLaw", name := "ok", desc := "([BIIIJB)Z" } : Jvm.MethodName) method_4_code (10 : Nat) (Option.some Jvm.ClassFile.FieldType.boolean)).before args0 about1 = true := code_word (m := ⟨1, 3⟩) (meth := k1m3) (c := k1c3) (by decide +kernel) rfl rfl rfl (by decide +kernel)
def codes1 : List Jvm.Cond := [Jvm.Cond.code x code maxLocals ret, Jvm.Cond.code ({ cls := "com/example/tallyrank/tallyrank/index/Output", name := "putVariable", desc := "([BIJ)I" } : Jvm.MethodName) prog_72_method_14_code (7 : Nat) (Option.some Jvm.ClassFile.FieldType.int), Jvm.Cond.code ({ cls := "com/example/tallyrank/tallyrank/index/OutputPutVariablePinLaw", name := "length", desc := "(J)I" } : Jvm.MethodName) method_3_code (3 : Nat) (Option.some Jvm.ClassFile.FieldType.int), Jvm.Cond.code ({ cls := "com/example/tallyrank/tallyrank/index/OutputPutVariablePinLaw", name := "ok", desc := "([BIIIJB)Z" } : Jvm.MethodName) method_4_code (10 : Nat) (Option.some Jvm.ClassFile.FieldType.boolean)]
set_option maxRecDepth 65536 in
theorem codes_eq : words1.filter isCode = codes1 := rfl
theorem w_codes : ∀ c ∈ words1.filter isCode, c.before args0 about1 = true := by
  rw [codes_eq]
  intro c hc
  simp only [codes1, List.mem_cons, List.not_mem_nil, or_false] at hc
  rcases hc with rfl | rfl | rfl | rfl
  · exact w_c0
  · exact w_c1
  · exact w_c2
  · exact w_c3
set_option maxRecDepth 65536 in
theorem w_t1 : (words1.take 24).all (fun c => isCode c || c.before args0 about1) = true := by decide +kernel
set_option maxRecDepth 65536 in
theorem w_t2 : (words1.drop 24).all (fun c => isCode c || c.before args0 about1) = true := by decide +kernel
theorem w_tables : (allAtoms (Jvm.Cond.code x code maxLocals ret :: tables_1)).before args0 about1 = true := by
  rw [allAtoms_all]
  show words1.all (fun c => c.before args0 about1) = true
  refine all_split ?_ w_codes
  rw [← List.take_append_drop 24 words1, List.all_append, w_t1, w_t2]
  rfl
set_option maxRecDepth 65536 in
theorem w_case : (Jvm.Cond.and given_1 narrow_1).before args0 about1 = true := by decide +kernel
theorem w_applies : (headSpec (Jvm.Cond.code x code maxLocals ret :: tables_1) room_1).applies x e0.platform about1 = true :=
  (Spec.applies_iff w_frames).mpr ⟨w_running, w_runnable, w_alone, w_named, w_hears, w_ripe, w_room, w_tables⟩
theorem atStart : AtStart classFile x code maxLocals ret World_1 tables_1 room_1 Calls_1 rest_1 Pre_1 launch0 p0 e0 about1 theMethod args0 below0 :=
  ⟨lists_1, trivial, launch0.admits_env _ _ _, launch0.least_env, fairChoices_fair.cas, fairChoices_fair.clock, w_frames, w_args, w_heap, w_applies, trivial, trivial, w_case⟩
end start1
theorem witness_1 : WitnessClaimed_1 := ⟨start1.p0, start1.e0, start1.about1, start1.theMethod, start1.args0, start1.below0, start1.atStart⟩
end Jvm.Pilot.@@N@@
