import JvmDerived
import JvmDerived.Pilot.@@N@@Statement
import JvmDerived.Pilot.@@N@@Code
set_option linter.unusedVariables false
set_option linter.unusedSimpArgs false
namespace Jvm.Pilot.@@N@@
open Jvm Jvm.ClassFile Sem Op Lib Jvm.Free Jvm.Stand Jvm.LawKit Jvm.RoadKit Bundle Jvm.Pilot.@@N@@.Jvm.D
section OwnKit
variable {p : Program} {l : Launch} {e : Env} {R : Room} {s : State} {m : MethodId} {args : Array Value} {below : List Frame} {meth : Method} {c : Code} {T : State} {locs : List Loc} {cells slots : Nat} {P : State → Outcome → Prop} {Z : State} {a0 : Array Value} {h : Heap} {pc : Nat} {Ls : Array Slot} {st : List Value}
def Goes (p : Program) (e : Env) (below : List Frame) (S : State) (P : State → Outcome → Prop) : Prop := ∃ (U : State) (o : Outcome), Steps p.tables e below S U ∧ U.status = .running ∧ Ended U below o ∧ P U o
def Endz (s : State) (kc ks : Nat) (Q : Option Value → Heap → List Loc → Prop) (U : State) (o : Outcome) : Prop := ∃ v L, o = .returned v ∧ Q v U.heap L ∧ FrameEnd s o U L kc ks
theorem go {S S' : State} (hs : ∀ t, Steps p.tables e below S' t → Steps p.tables e below S t) (k : Goes p e below S' P) : Goes p e below S P := by
  obtain ⟨U, o, k1, k2⟩ := k
  exact ⟨U, o, hs U k1, k2⟩
theorem goT {S S' : State} (hs : Steps p.tables e below S S') (k : Goes p e below S' P) : Goes p e below S P := by
  obtain ⟨U, o, k1, k2⟩ := k
  exact ⟨U, o, hs.trans k1, k2⟩
theorem own_cast {g g' : JFrame} (q : g = g') (k : Goes p e below (T.setTop g') P) : Goes p e below (T.setTop g) P := q ▸ k
abbrev OwnMet (l : Launch) (Z : State) (y : MethodName) (bytes : ByteArray) (maxL : Nat) (ret : Option FieldType) (ws : List Jvm.Cond) (rm : Room) (as' : Array Value) (h : Heap) (Q : Option Value → Heap → List Loc → Prop) : Prop := MetFree l y (head1 (Jvm.Cond.code y bytes maxL ret :: ws) rm) (fun a U => a = as' ∧ Z.Warmed39 U.vm ∧ U.heap = h) (fun _ _ _ _ _ => True) (fun _ U o U' => ∃ v L, o = .returned v ∧ Q v U'.heap L ∧ FrameEnd U o U' L rm.cells rm.slots)
theorem own_body {y : MethodName} {bytes : ByteArray} {maxL : Nat} {ret : Option FieldType} {ws : List Jvm.Cond} {rm : Room} {as' : Array Value} {Q : Option Value → Heap → List Loc → Prop} (hpn : plainFor y = true)
    (B : ∀ (p : Program) (e : Env) (s : State) (m : MethodId) (below : List Frame) (meth : Method) (c : Code) (s₁ : State), p.tables.exec = Jvm.exec → c.code = bytes → c.maxLocals = maxL → s.vm.findClass y.cls = some m.cls → meth.name = y.name → meth.sig.returnType = ret → meth.locks = false → Z.Warmed39 s.vm → Stand p l e rm s m as' below meth c s₁ [] 0 0 → s₁.heap = h → Goes p e below (s₁.setTop (entryFrame m as' maxL)) (Endz s rm.cells rm.slots Q)) : OwnMet l Z y bytes maxL ret ws rm as' h Q := by
  refine MetFree.of_bodySF hpn hisR ?_
  intro p e s m args below meth c s₁ Bd hml0 hP hK
  obtain ⟨rfl, hZ, hh⟩ := hP
  exact B p e s m below meth c s₁ Bd.exec Bd.bytes hml0 (findClass_of_methodNamed Bd.named) (name_of_methodNamed Bd.named Bd.method).1 Bd.returns (BodyLoose.notSynchronized Bd) hZ (Stand.of_body Bd) (by rw [← hh, Bd.state]; rfl)
theorem g_ret {w : Value} {t : FieldType} {i : Instr} {kc ks : Nat} {Q : Option Value → Heap → List Loc → Prop} (X : Stand p l e R s m args below meth c T locs cells slots) (hx : p.tables.exec = Jvm.exec) (hret : meth.sig.returnType = some t) (hlk : meth.locks = false) (hn : narrow t w = w)
    (hi : (i = .ireturn ∧ (t = .int ∨ t = .boolean ∨ t = .byte ∨ t = .char ∨ t = .short) ∧ ∃ z, w = .int z) ∨ (i = .lreturn ∧ t = .long ∧ ∃ z, w = .long z) ∨ (i = .dreturn ∧ t = .double ∧ ∃ z, w = .double z) ∨ (i = .freturn ∧ t = .float ∧ ∃ z, w = .float z) ∨ (i = .areturn ∧ t.isReference = true ∧ w.isRef = true))
    (hd : decode c.code pc = .ok (i, 1)) (hQ : Q (some w) T.heap locs) (hc : cells ≤ kc) (hs : slots ≤ ks) : Goes p e below (T.setTop (mkF m pc Ls (w :: st))) (Endz s kc ks Q) := by
  obtain ⟨fs, hr, hrun, hended, hW, hsame⟩ := X.leave (v := some w) (fun h => by rw [hret] at h; cases h) hlk
  exact ⟨_, _, retOut X hx hret hn hi hd hr, hrun, hended, _, _, rfl, hQ, ⟨_, rfl⟩, hW, hsame.mono hc hs⟩
theorem g_retI {z : Int32} {kc ks : Nat} {Q : Option Value → Heap → List Loc → Prop} (X : Stand p l e R s m args below meth c T locs cells slots) (hx : p.tables.exec = Jvm.exec) (hret : meth.sig.returnType = some .int) (hlk : meth.locks = false) (hd : decode c.code pc = .ok (.ireturn, 1)) (hQ : Q (some (.int z)) T.heap locs) (hc : cells ≤ kc) (hs : slots ≤ ks) : Goes p e below (T.setTop (mkF m pc Ls (.int z :: st))) (Endz s kc ks Q) :=
  g_ret X hx hret hlk rfl (Or.inl ⟨rfl, Or.inl rfl, z, rfl⟩) hd hQ hc hs
theorem g_retZ {z : Int32} {kc ks : Nat} {Q : Option Value → Heap → List Loc → Prop} (X : Stand p l e R s m args below meth c T locs cells slots) (hx : p.tables.exec = Jvm.exec) (hret : meth.sig.returnType = some .boolean) (hlk : meth.locks = false) (hn : narrow .boolean (.int z) = .int z) (hd : decode c.code pc = .ok (.ireturn, 1)) (hQ : Q (some (.int z)) T.heap locs) (hc : cells ≤ kc) (hs : slots ≤ ks) : Goes p e below (T.setTop (mkF m pc Ls (.int z :: st))) (Endz s kc ks Q) :=
  g_ret X hx hret hlk hn (Or.inl ⟨rfl, Or.inr (Or.inl rfl), z, rfl⟩) hd hQ hc hs
theorem g_retJ {z : Int64} {kc ks : Nat} {Q : Option Value → Heap → List Loc → Prop} (X : Stand p l e R s m args below meth c T locs cells slots) (hx : p.tables.exec = Jvm.exec) (hret : meth.sig.returnType = some .long) (hlk : meth.locks = false) (hd : decode c.code pc = .ok (.lreturn, 1)) (hQ : Q (some (.long z)) T.heap locs) (hc : cells ≤ kc) (hs : slots ≤ ks) : Goes p e below (T.setTop (mkF m pc Ls (.long z :: st))) (Endz s kc ks Q) :=
  g_ret X hx hret hlk rfl (Or.inr (Or.inl ⟨rfl, rfl, z, rfl⟩)) hd hQ hc hs
theorem g_retA {w : Value} {t : FieldType} {kc ks : Nat} {Q : Option Value → Heap → List Loc → Prop} (X : Stand p l e R s m args below meth c T locs cells slots) (hx : p.tables.exec = Jvm.exec) (hret : meth.sig.returnType = some t) (hlk : meth.locks = false) (hn : narrow t w = w) (ht : t.isReference = true) (hw : w.isRef = true) (hd : decode c.code pc = .ok (.areturn, 1)) (hQ : Q (some w) T.heap locs) (hc : cells ≤ kc) (hs : slots ≤ ks) : Goes p e below (T.setTop (mkF m pc Ls (w :: st))) (Endz s kc ks Q) :=
  g_ret X hx hret hlk hn (Or.inr (Or.inr (Or.inr (Or.inr ⟨rfl, ht, hw⟩)))) hd hQ hc hs
theorem g_ret0 {kc ks : Nat} {Q : Option Value → Heap → List Loc → Prop} (X : Stand p l e R s m args below meth c T locs cells slots) (hx : p.tables.exec = Jvm.exec) (hret : meth.sig.returnType = none) (hlk : meth.locks = false) (hd : decode c.code pc = .ok (.return_, 1)) (hQ : Q none T.heap locs) (hc : cells ≤ kc) (hs : slots ≤ ks) : Goes p e below (T.setTop (mkF m pc Ls [])) (Endz s kc ks Q) := by
  obtain ⟨fs, hr, hrun, hended, hW, hsame⟩ := X.leave (v := none) (fun _ => rfl) hlk
  exact ⟨_, _, X.returnOut hx hret hd hr, hrun, hended, _, _, rfl, hQ, ⟨_, rfl⟩, hW, hsame.mono hc hs⟩
theorem g_iadd (X : Stand p l e R s m args below meth c T locs cells slots) (hx : p.tables.exec = Jvm.exec) (pc' : Nat) (hpc : pc + 1 = pc') {x y : Int32} (hd : decode c.code pc = .ok (.iadd, 1))  (K : Goes p e below (T.setTop (mkF m pc' Ls (.int (x + y) :: st))) P) : Goes p e below (T.setTop (mkF m pc Ls (.int y :: .int x :: st))) P := by
  subst hpc; exact go (fun _ q => XS.iadd X.here hx rfl hd rfl q) K
theorem g_isub (X : Stand p l e R s m args below meth c T locs cells slots) (hx : p.tables.exec = Jvm.exec) (pc' : Nat) (hpc : pc + 1 = pc') {x y : Int32} (hd : decode c.code pc = .ok (.isub, 1))  (K : Goes p e below (T.setTop (mkF m pc' Ls (.int (x - y) :: st))) P) : Goes p e below (T.setTop (mkF m pc Ls (.int y :: .int x :: st))) P := by
  subst hpc; exact go (fun _ q => XS.isub X.here hx rfl hd rfl q) K
theorem g_imul (X : Stand p l e R s m args below meth c T locs cells slots) (hx : p.tables.exec = Jvm.exec) (pc' : Nat) (hpc : pc + 1 = pc') {x y : Int32} (hd : decode c.code pc = .ok (.imul, 1))  (K : Goes p e below (T.setTop (mkF m pc' Ls (.int (x * y) :: st))) P) : Goes p e below (T.setTop (mkF m pc Ls (.int y :: .int x :: st))) P := by
  subst hpc; exact go (fun _ q => XS.imul X.here hx rfl hd rfl q) K
theorem g_iand (X : Stand p l e R s m args below meth c T locs cells slots) (hx : p.tables.exec = Jvm.exec) (pc' : Nat) (hpc : pc + 1 = pc') {x y : Int32} (hd : decode c.code pc = .ok (.iand, 1))  (K : Goes p e below (T.setTop (mkF m pc' Ls (.int (x &&& y) :: st))) P) : Goes p e below (T.setTop (mkF m pc Ls (.int y :: .int x :: st))) P := by
  subst hpc; exact go (fun _ q => XS.iand X.here hx rfl hd rfl q) K
theorem g_ior (X : Stand p l e R s m args below meth c T locs cells slots) (hx : p.tables.exec = Jvm.exec) (pc' : Nat) (hpc : pc + 1 = pc') {x y : Int32} (hd : decode c.code pc = .ok (.ior, 1))  (K : Goes p e below (T.setTop (mkF m pc' Ls (.int (x ||| y) :: st))) P) : Goes p e below (T.setTop (mkF m pc Ls (.int y :: .int x :: st))) P := by
  subst hpc; exact go (fun _ q => XT.ior X.here hx rfl hd rfl q) K
theorem g_ixor (X : Stand p l e R s m args below meth c T locs cells slots) (hx : p.tables.exec = Jvm.exec) (pc' : Nat) (hpc : pc + 1 = pc') {x y : Int32} (hd : decode c.code pc = .ok (.ixor, 1))  (K : Goes p e below (T.setTop (mkF m pc' Ls (.int (x ^^^ y) :: st))) P) : Goes p e below (T.setTop (mkF m pc Ls (.int y :: .int x :: st))) P := by
  subst hpc; exact go (fun _ q => XT.ixor X.here hx rfl hd rfl q) K
theorem g_ishl (X : Stand p l e R s m args below meth c T locs cells slots) (hx : p.tables.exec = Jvm.exec) (pc' : Nat) (hpc : pc + 1 = pc') {x y : Int32} (hd : decode c.code pc = .ok (.ishl, 1))  (K : Goes p e below (T.setTop (mkF m pc' Ls (.int (x <<< (y &&& 31)) :: st))) P) : Goes p e below (T.setTop (mkF m pc Ls (.int y :: .int x :: st))) P := by
  subst hpc; exact go (fun _ q => XT.ishl X.here hx rfl hd rfl q) K
theorem g_ishr (X : Stand p l e R s m args below meth c T locs cells slots) (hx : p.tables.exec = Jvm.exec) (pc' : Nat) (hpc : pc + 1 = pc') {x y : Int32} (hd : decode c.code pc = .ok (.ishr, 1))  (K : Goes p e below (T.setTop (mkF m pc' Ls (.int (x >>> (y &&& 31)) :: st))) P) : Goes p e below (T.setTop (mkF m pc Ls (.int y :: .int x :: st))) P := by
  subst hpc; exact go (fun _ q => XT.ishr X.here hx rfl hd rfl q) K
theorem g_iushr (X : Stand p l e R s m args below meth c T locs cells slots) (hx : p.tables.exec = Jvm.exec) (pc' : Nat) (hpc : pc + 1 = pc') {x y : Int32} (hd : decode c.code pc = .ok (.iushr, 1))  (K : Goes p e below (T.setTop (mkF m pc' Ls (.int (XT.ushr x y) :: st))) P) : Goes p e below (T.setTop (mkF m pc Ls (.int y :: .int x :: st))) P := by
  subst hpc; exact go (fun _ q => XT.iushr X.here hx rfl hd rfl q) K
theorem g_idiv (X : Stand p l e R s m args below meth c T locs cells slots) (hx : p.tables.exec = Jvm.exec) (pc' : Nat) (hpc : pc + 1 = pc') {x y : Int32} (hd : decode c.code pc = .ok (.idiv, 1)) (hy : y ≠ 0) (K : Goes p e below (T.setTop (mkF m pc' Ls (.int (x / y) :: st))) P) : Goes p e below (T.setTop (mkF m pc Ls (.int y :: .int x :: st))) P := by
  subst hpc; exact go (fun _ q => XS.idiv X.here hx rfl hd rfl hy q) K
theorem g_irem (X : Stand p l e R s m args below meth c T locs cells slots) (hx : p.tables.exec = Jvm.exec) (pc' : Nat) (hpc : pc + 1 = pc') {x y : Int32} (hd : decode c.code pc = .ok (.irem, 1)) (hy : y ≠ 0) (K : Goes p e below (T.setTop (mkF m pc' Ls (.int (x % y) :: st))) P) : Goes p e below (T.setTop (mkF m pc Ls (.int y :: .int x :: st))) P := by
  subst hpc; exact go (fun _ q => iremM X hx rfl hd rfl hy q) K
theorem g_ineg (X : Stand p l e R s m args below meth c T locs cells slots) (hx : p.tables.exec = Jvm.exec) (pc' : Nat) (hpc : pc + 1 = pc') {x : Int32} (hd : decode c.code pc = .ok (.ineg, 1))  (K : Goes p e below (T.setTop (mkF m pc' Ls (.int (-x) :: st))) P) : Goes p e below (T.setTop (mkF m pc Ls (.int x :: st))) P := by
  subst hpc; exact go (fun _ q => XS.ineg X.here hx rfl hd rfl q) K
theorem g_ladd (X : Stand p l e R s m args below meth c T locs cells slots) (hx : p.tables.exec = Jvm.exec) (pc' : Nat) (hpc : pc + 1 = pc') {x y : Int64} (hd : decode c.code pc = .ok (.ladd, 1))  (K : Goes p e below (T.setTop (mkF m pc' Ls (.long (x + y) :: st))) P) : Goes p e below (T.setTop (mkF m pc Ls (.long y :: .long x :: st))) P := by
  subst hpc; exact go (fun _ q => XT.ladd X.here hx rfl hd rfl q) K
theorem g_lsub (X : Stand p l e R s m args below meth c T locs cells slots) (hx : p.tables.exec = Jvm.exec) (pc' : Nat) (hpc : pc + 1 = pc') {x y : Int64} (hd : decode c.code pc = .ok (.lsub, 1))  (K : Goes p e below (T.setTop (mkF m pc' Ls (.long (x - y) :: st))) P) : Goes p e below (T.setTop (mkF m pc Ls (.long y :: .long x :: st))) P := by
  subst hpc; exact go (fun _ q => XT.lsub X.here hx rfl hd rfl q) K
theorem g_lmul (X : Stand p l e R s m args below meth c T locs cells slots) (hx : p.tables.exec = Jvm.exec) (pc' : Nat) (hpc : pc + 1 = pc') {x y : Int64} (hd : decode c.code pc = .ok (.lmul, 1))  (K : Goes p e below (T.setTop (mkF m pc' Ls (.long (x * y) :: st))) P) : Goes p e below (T.setTop (mkF m pc Ls (.long y :: .long x :: st))) P := by
  subst hpc; exact go (fun _ q => XT.lmul X.here hx rfl hd rfl q) K
theorem g_land (X : Stand p l e R s m args below meth c T locs cells slots) (hx : p.tables.exec = Jvm.exec) (pc' : Nat) (hpc : pc + 1 = pc') {x y : Int64} (hd : decode c.code pc = .ok (.land, 1))  (K : Goes p e below (T.setTop (mkF m pc' Ls (.long (x &&& y) :: st))) P) : Goes p e below (T.setTop (mkF m pc Ls (.long y :: .long x :: st))) P := by
  subst hpc; exact go (fun _ q => XT.land X.here hx rfl hd rfl q) K
theorem g_lor (X : Stand p l e R s m args below meth c T locs cells slots) (hx : p.tables.exec = Jvm.exec) (pc' : Nat) (hpc : pc + 1 = pc') {x y : Int64} (hd : decode c.code pc = .ok (.lor, 1))  (K : Goes p e below (T.setTop (mkF m pc' Ls (.long (x ||| y) :: st))) P) : Goes p e below (T.setTop (mkF m pc Ls (.long y :: .long x :: st))) P := by
  subst hpc; exact go (fun _ q => XT.lor X.here hx rfl hd rfl q) K
theorem g_lxor (X : Stand p l e R s m args below meth c T locs cells slots) (hx : p.tables.exec = Jvm.exec) (pc' : Nat) (hpc : pc + 1 = pc') {x y : Int64} (hd : decode c.code pc = .ok (.lxor, 1))  (K : Goes p e below (T.setTop (mkF m pc' Ls (.long (x ^^^ y) :: st))) P) : Goes p e below (T.setTop (mkF m pc Ls (.long y :: .long x :: st))) P := by
  subst hpc; exact go (fun _ q => XT.lxor X.here hx rfl hd rfl q) K
theorem g_lshl (X : Stand p l e R s m args below meth c T locs cells slots) (hx : p.tables.exec = Jvm.exec) (pc' : Nat) (hpc : pc + 1 = pc') {x : Int64} {y : Int32} (hd : decode c.code pc = .ok (.lshl, 1))  (K : Goes p e below (T.setTop (mkF m pc' Ls (.long (x <<< (y.toInt64 &&& 63)) :: st))) P) : Goes p e below (T.setTop (mkF m pc Ls (.int y :: .long x :: st))) P := by
  subst hpc; exact go (fun _ q => XT.lshl X.here hx rfl hd rfl q) K
theorem g_lshr (X : Stand p l e R s m args below meth c T locs cells slots) (hx : p.tables.exec = Jvm.exec) (pc' : Nat) (hpc : pc + 1 = pc') {x : Int64} {y : Int32} (hd : decode c.code pc = .ok (.lshr, 1))  (K : Goes p e below (T.setTop (mkF m pc' Ls (.long (x >>> (y.toInt64 &&& 63)) :: st))) P) : Goes p e below (T.setTop (mkF m pc Ls (.int y :: .long x :: st))) P := by
  subst hpc; exact go (fun _ q => XT.lshr X.here hx rfl hd rfl q) K
theorem g_lushr (X : Stand p l e R s m args below meth c T locs cells slots) (hx : p.tables.exec = Jvm.exec) (pc' : Nat) (hpc : pc + 1 = pc') {x : Int64} {y : Int32} (hd : decode c.code pc = .ok (.lushr, 1))  (K : Goes p e below (T.setTop (mkF m pc' Ls (.long (XT.ushrL x y) :: st))) P) : Goes p e below (T.setTop (mkF m pc Ls (.int y :: .long x :: st))) P := by
  subst hpc; exact go (fun _ q => XT.lushr X.here hx rfl hd rfl q) K
theorem g_ldiv (X : Stand p l e R s m args below meth c T locs cells slots) (hx : p.tables.exec = Jvm.exec) (pc' : Nat) (hpc : pc + 1 = pc') {x y : Int64} (hd : decode c.code pc = .ok (.ldiv, 1)) (hy : y ≠ 0) (K : Goes p e below (T.setTop (mkF m pc' Ls (.long (x / y) :: st))) P) : Goes p e below (T.setTop (mkF m pc Ls (.long y :: .long x :: st))) P := by
  subst hpc; exact go (fun _ q => XT.ldiv X.here hx rfl hd rfl hy q) K
theorem g_lrem (X : Stand p l e R s m args below meth c T locs cells slots) (hx : p.tables.exec = Jvm.exec) (pc' : Nat) (hpc : pc + 1 = pc') {x y : Int64} (hd : decode c.code pc = .ok (.lrem, 1)) (hy : y ≠ 0) (K : Goes p e below (T.setTop (mkF m pc' Ls (.long (x % y) :: st))) P) : Goes p e below (T.setTop (mkF m pc Ls (.long y :: .long x :: st))) P := by
  subst hpc; exact go (fun _ q => XT.lrem X.here hx rfl hd rfl hy (by rw [lrem_mod]; exact q)) K
theorem g_lneg (X : Stand p l e R s m args below meth c T locs cells slots) (hx : p.tables.exec = Jvm.exec) (pc' : Nat) (hpc : pc + 1 = pc') {x : Int64} (hd : decode c.code pc = .ok (.lneg, 1))  (K : Goes p e below (T.setTop (mkF m pc' Ls (.long (-x) :: st))) P) : Goes p e below (T.setTop (mkF m pc Ls (.long x :: st))) P := by
  subst hpc; exact go (fun _ q => XT.lneg X.here hx rfl hd rfl q) K
theorem g_i2l (X : Stand p l e R s m args below meth c T locs cells slots) (hx : p.tables.exec = Jvm.exec) (pc' : Nat) (hpc : pc + 1 = pc') {x : Int32} (hd : decode c.code pc = .ok (.i2l, 1))  (K : Goes p e below (T.setTop (mkF m pc' Ls (.long x.toInt64 :: st))) P) : Goes p e below (T.setTop (mkF m pc Ls (.int x :: st))) P := by
  subst hpc; exact go (fun _ q => XT.i2l X.here hx rfl hd rfl q) K
theorem g_l2i (X : Stand p l e R s m args below meth c T locs cells slots) (hx : p.tables.exec = Jvm.exec) (pc' : Nat) (hpc : pc + 1 = pc') {x : Int64} (hd : decode c.code pc = .ok (.l2i, 1))  (K : Goes p e below (T.setTop (mkF m pc' Ls (.int x.toInt32 :: st))) P) : Goes p e below (T.setTop (mkF m pc Ls (.long x :: st))) P := by
  subst hpc; exact go (fun _ q => XT.l2i X.here hx rfl hd rfl q) K
theorem g_i2b (X : Stand p l e R s m args below meth c T locs cells slots) (hx : p.tables.exec = Jvm.exec) (pc' : Nat) (hpc : pc + 1 = pc') {x : Int32} (hd : decode c.code pc = .ok (.i2b, 1))  (K : Goes p e below (T.setTop (mkF m pc' Ls (.int x.toInt8.toInt32 :: st))) P) : Goes p e below (T.setTop (mkF m pc Ls (.int x :: st))) P := by
  subst hpc; exact go (fun _ q => XT.i2b X.here hx rfl hd rfl q) K
theorem g_i2c (X : Stand p l e R s m args below meth c T locs cells slots) (hx : p.tables.exec = Jvm.exec) (pc' : Nat) (hpc : pc + 1 = pc') {x : Int32} (hd : decode c.code pc = .ok (.i2c, 1))  (K : Goes p e below (T.setTop (mkF m pc' Ls (.int x.toUInt32.toUInt16.toUInt32.toInt32 :: st))) P) : Goes p e below (T.setTop (mkF m pc Ls (.int x :: st))) P := by
  subst hpc; exact go (fun _ q => XT.i2c X.here hx rfl hd rfl q) K
theorem g_i2s (X : Stand p l e R s m args below meth c T locs cells slots) (hx : p.tables.exec = Jvm.exec) (pc' : Nat) (hpc : pc + 1 = pc') {x : Int32} (hd : decode c.code pc = .ok (.i2s, 1))  (K : Goes p e below (T.setTop (mkF m pc' Ls (.int x.toInt16.toInt32 :: st))) P) : Goes p e below (T.setTop (mkF m pc Ls (.int x :: st))) P := by
  subst hpc; exact go (fun _ q => XT.i2s X.here hx rfl hd rfl q) K
theorem g_lcmp (X : Stand p l e R s m args below meth c T locs cells slots) (hx : p.tables.exec = Jvm.exec) (pc' : Nat) (hpc : pc + 1 = pc') {x y : Int64} (hd : decode c.code pc = .ok (.lcmp, 1))  (K : Goes p e below (T.setTop (mkF m pc' Ls (.int (XT.cmpL x y) :: st))) P) : Goes p e below (T.setTop (mkF m pc Ls (.long y :: .long x :: st))) P := by
  subst hpc; exact go (fun _ q => XT.lcmp X.here hx rfl hd rfl q) K
theorem g_dup (X : Stand p l e R s m args below meth c T locs cells slots) (hx : p.tables.exec = Jvm.exec) (pc' : Nat) (hpc : pc + 1 = pc') {x : Value} (hd : decode c.code pc = .ok (.dup, 1)) (hc : x.category = 1) (K : Goes p e below (T.setTop (mkF m pc' Ls (x :: x :: st))) P) : Goes p e below (T.setTop (mkF m pc Ls (x :: st))) P := by
  subst hpc; exact go (fun _ q => XS.dup X.here hx rfl hd rfl hc q) K
theorem g_pop (X : Stand p l e R s m args below meth c T locs cells slots) (hx : p.tables.exec = Jvm.exec) (pc' : Nat) (hpc : pc + 1 = pc') {x : Value} (hd : decode c.code pc = .ok (.pop, 1)) (hc : x.category = 1) (K : Goes p e below (T.setTop (mkF m pc' Ls (st))) P) : Goes p e below (T.setTop (mkF m pc Ls (x :: st))) P := by
  subst hpc; exact go (fun _ q => XT.pop X.here hx rfl hd rfl hc q) K
theorem g_dup_x1 (X : Stand p l e R s m args below meth c T locs cells slots) (hx : p.tables.exec = Jvm.exec) (pc' : Nat) (hpc : pc + 1 = pc') {x y : Value} (hd : decode c.code pc = .ok (.dup_x1, 1)) (hc : x.category = 1) (hc' : y.category = 1) (K : Goes p e below (T.setTop (mkF m pc' Ls (x :: y :: x :: st))) P) : Goes p e below (T.setTop (mkF m pc Ls (x :: y :: st))) P := by
  subst hpc; exact go (fun _ q => XT.dupX1 X.here hx rfl hd rfl hc hc' q) K
theorem g_dup2 (X : Stand p l e R s m args below meth c T locs cells slots) (hx : p.tables.exec = Jvm.exec) (pc' : Nat) (hpc : pc + 1 = pc') {x y : Value} (hd : decode c.code pc = .ok (.dup2, 1)) (hc : x.category = 1) (hc' : y.category = 1) (K : Goes p e below (T.setTop (mkF m pc' Ls (x :: y :: x :: y :: st))) P) : Goes p e below (T.setTop (mkF m pc Ls (x :: y :: st))) P := by
  subst hpc; exact go (fun _ q => XT.dup2 X.here hx rfl hd rfl hc hc' q) K
theorem g_dup2L (X : Stand p l e R s m args below meth c T locs cells slots) (hx : p.tables.exec = Jvm.exec) (pc' : Nat) (hpc : pc + 1 = pc') {x : Int64} (hd : decode c.code pc = .ok (.dup2, 1))  (K : Goes p e below (T.setTop (mkF m pc' Ls (.long x :: .long x :: st))) P) : Goes p e below (T.setTop (mkF m pc Ls (.long x :: st))) P := by
  subst hpc; exact go (fun _ q => XT.dup2L X.here hx rfl hd rfl q) K
theorem g_iconst (X : Stand p l e R s m args below meth c T locs cells slots) (hx : p.tables.exec = Jvm.exec) (pc' : Nat) (hpc : pc + 1 = pc') {i : Int} (v : Int32) (hv : Int32.ofInt i = v) (hd : decode c.code pc = .ok (.iconst i, 1))  (K : Goes p e below (T.setTop (mkF m pc' Ls (.int v :: st))) P) : Goes p e below (T.setTop (mkF m pc Ls (st))) P := by
  subst hpc; exact go (fun _ q => XS.iconst X.here hx rfl hd (by rw [hv]; exact q)) K
theorem g_bipush (X : Stand p l e R s m args below meth c T locs cells slots) (hx : p.tables.exec = Jvm.exec) (pc' : Nat) (hpc : pc + 2 = pc') {i : Int} (v : Int32) (hv : (Int8.ofInt i).toInt32 = v) (hd : decode c.code pc = .ok (.bipush i, 2))  (K : Goes p e below (T.setTop (mkF m pc' Ls (.int v :: st))) P) : Goes p e below (T.setTop (mkF m pc Ls (st))) P := by
  subst hpc; exact go (fun _ q => XS.bipush X.here hx rfl hd (by rw [hv]; exact q)) K
theorem g_sipush (X : Stand p l e R s m args below meth c T locs cells slots) (hx : p.tables.exec = Jvm.exec) (pc' : Nat) (hpc : pc + 3 = pc') {i : Int} (v : Int32) (hv : (Int16.ofInt i).toInt32 = v) (hd : decode c.code pc = .ok (.sipush i, 3))  (K : Goes p e below (T.setTop (mkF m pc' Ls (.int v :: st))) P) : Goes p e below (T.setTop (mkF m pc Ls (st))) P := by
  subst hpc; exact go (fun _ q => XS.sipush X.here hx rfl hd (by rw [hv]; exact q)) K
theorem g_lconst (X : Stand p l e R s m args below meth c T locs cells slots) (hx : p.tables.exec = Jvm.exec) (pc' : Nat) (hpc : pc + 1 = pc') {k : Fin 2} (v : Int64) (hv : Int64.ofNat k = v) (hd : decode c.code pc = .ok (.lconst k, 1))  (K : Goes p e below (T.setTop (mkF m pc' Ls (.long v :: st))) P) : Goes p e below (T.setTop (mkF m pc Ls (st))) P := by
  subst hpc; exact go (fun _ q => XT.lconst X.here hx rfl hd (by rw [hv]; exact q)) K
theorem g_aconst_null (X : Stand p l e R s m args below meth c T locs cells slots) (hx : p.tables.exec = Jvm.exec) (pc' : Nat) (hpc : pc + 1 = pc')  (hd : decode c.code pc = .ok (.aconst_null, 1))  (K : Goes p e below (T.setTop (mkF m pc' Ls (.null :: st))) P) : Goes p e below (T.setTop (mkF m pc Ls (st))) P := by
  subst hpc; exact go (fun _ q => XS.aconstNull X.here hx rfl hd q) K
theorem g_ldcI (X : Stand p l e R s m args below meth c T locs cells slots) (hx : p.tables.exec = Jvm.exec) (pc' : Nat) (hpc : pc + 2 = pc') {own : String} {index : Nat} {v : Int32} (hown : s.vm.findClass own = some m.cls) (hZ : Z.Warmed39 s.vm) (w : (Jvm.Cond.constant own index v).before a0 Z = true) (hd : decode c.code pc = .ok (.ldc index, 2))  (K : Goes p e below (T.setTop (mkF m pc' Ls (.int v :: st))) P) : Goes p e below (T.setTop (mkF m pc Ls (st))) P := by
  subst hpc; exact go (fun _ q => X.ldcInt hx hown (mvT hZ w) (g := mkF m pc Ls st) rfl hd _ q) K
theorem g_ldcJ (X : Stand p l e R s m args below meth c T locs cells slots) (hx : p.tables.exec = Jvm.exec) (pc' : Nat) (hpc : pc + 3 = pc') {own : String} {index : Nat} {v : Int64} (hown : s.vm.findClass own = some m.cls) (hZ : Z.Warmed39 s.vm) (w : (Jvm.Cond.constantLong own index v).before a0 Z = true) (hd : decode c.code pc = .ok (.ldc2_w index, 3))  (K : Goes p e below (T.setTop (mkF m pc' Ls (.long v :: st))) P) : Goes p e below (T.setTop (mkF m pc Ls (st))) P := by
  subst hpc; exact go (fun _ q => X.ldc2Long hx hown (mvT hZ w) (g := mkF m pc Ls st) rfl hd _ q) K
theorem g_iload_n (X : Stand p l e R s m args below meth c T locs cells slots) (hx : p.tables.exec = Jvm.exec) (pc' : Nat) (hpc : pc + 1 = pc') {k : Fin 4} {v : Int32} (hd : decode c.code pc = .ok (.iload_n k, 1)) (hl : Ls[k.val]? = some (.val (.int v))) (K : Goes p e below (T.setTop (mkF m pc' Ls (.int v :: st))) P) : Goes p e below (T.setTop (mkF m pc Ls (st))) P := by
  subst hpc; exact go (fun _ q => XS.iloadN X.here hx rfl hd hl q) K
theorem g_iload (X : Stand p l e R s m args below meth c T locs cells slots) (hx : p.tables.exec = Jvm.exec) (pc' : Nat) (hpc : pc + 2 = pc') {k : Nat} {v : Int32} (hd : decode c.code pc = .ok (.iload k, 2)) (hl : Ls[k]? = some (.val (.int v))) (K : Goes p e below (T.setTop (mkF m pc' Ls (.int v :: st))) P) : Goes p e below (T.setTop (mkF m pc Ls (st))) P := by
  subst hpc; exact go (fun _ q => XS.iload X.here hx rfl hd hl q) K
theorem g_lload_n (X : Stand p l e R s m args below meth c T locs cells slots) (hx : p.tables.exec = Jvm.exec) (pc' : Nat) (hpc : pc + 1 = pc') {k : Fin 4} {v : Int64} (hd : decode c.code pc = .ok (.lload_n k, 1)) (hl : Ls[k.val]? = some (.val (.long v))) (K : Goes p e below (T.setTop (mkF m pc' Ls (.long v :: st))) P) : Goes p e below (T.setTop (mkF m pc Ls (st))) P := by
  subst hpc; exact go (fun _ q => XT.lloadN X.here hx rfl hd hl q) K
theorem g_lload (X : Stand p l e R s m args below meth c T locs cells slots) (hx : p.tables.exec = Jvm.exec) (pc' : Nat) (hpc : pc + 2 = pc') {k : Nat} {v : Int64} (hd : decode c.code pc = .ok (.lload k, 2)) (hl : Ls[k]? = some (.val (.long v))) (K : Goes p e below (T.setTop (mkF m pc' Ls (.long v :: st))) P) : Goes p e below (T.setTop (mkF m pc Ls (st))) P := by
  subst hpc; exact go (fun _ q => XT.lload X.here hx rfl hd hl q) K
theorem g_aload_n (X : Stand p l e R s m args below meth c T locs cells slots) (hx : p.tables.exec = Jvm.exec) (pc' : Nat) (hpc : pc + 1 = pc') {k : Fin 4} {v : Value} (hd : decode c.code pc = .ok (.aload_n k, 1)) (hl : Ls[k.val]? = some (.val v)) (hv : v.isRef = true) (K : Goes p e below (T.setTop (mkF m pc' Ls (v :: st))) P) : Goes p e below (T.setTop (mkF m pc Ls (st))) P := by
  subst hpc; exact go (fun _ q => XS.aloadN X.here hx rfl hd hl hv q) K
theorem g_aload (X : Stand p l e R s m args below meth c T locs cells slots) (hx : p.tables.exec = Jvm.exec) (pc' : Nat) (hpc : pc + 2 = pc') {k : Nat} {v : Value} (hd : decode c.code pc = .ok (.aload k, 2)) (hl : Ls[k]? = some (.val v)) (hv : v.isRef = true) (K : Goes p e below (T.setTop (mkF m pc' Ls (v :: st))) P) : Goes p e below (T.setTop (mkF m pc Ls (st))) P := by
  subst hpc; exact go (fun _ q => XS.aload X.here hx rfl hd hl hv q) K
theorem g_istore_n (X : Stand p l e R s m args below meth c T locs cells slots) (hx : p.tables.exec = Jvm.exec) (pc' : Nat) (hpc : pc + 1 = pc') {k : Fin 4} {x : Int32} (hd : decode c.code pc = .ok (.istore_n k, 1))  (l' : Array Slot) (hl : storeLocals Ls k.val (.int x) = some l') (K : Goes p e below (T.setTop (mkF m pc' l' st)) P) : Goes p e below (T.setTop (mkF m pc Ls (.int x :: st))) P := by
  subst hpc; exact go (fun _ q => XS.istoreN X.here hx rfl hd rfl hl q) K
theorem g_istore (X : Stand p l e R s m args below meth c T locs cells slots) (hx : p.tables.exec = Jvm.exec) (pc' : Nat) (hpc : pc + 2 = pc') {k : Nat} {x : Int32} (hd : decode c.code pc = .ok (.istore k, 2))  (l' : Array Slot) (hl : storeLocals Ls k (.int x) = some l') (K : Goes p e below (T.setTop (mkF m pc' l' st)) P) : Goes p e below (T.setTop (mkF m pc Ls (.int x :: st))) P := by
  subst hpc; exact go (fun _ q => XS.istore X.here hx rfl hd rfl hl q) K
theorem g_lstore_n (X : Stand p l e R s m args below meth c T locs cells slots) (hx : p.tables.exec = Jvm.exec) (pc' : Nat) (hpc : pc + 1 = pc') {k : Fin 4} {x : Int64} (hd : decode c.code pc = .ok (.lstore_n k, 1))  (l' : Array Slot) (hl : storeLocals Ls k.val (.long x) = some l') (K : Goes p e below (T.setTop (mkF m pc' l' st)) P) : Goes p e below (T.setTop (mkF m pc Ls (.long x :: st))) P := by
  subst hpc; exact go (fun _ q => XT.lstoreN X.here hx rfl hd rfl hl q) K
theorem g_lstore (X : Stand p l e R s m args below meth c T locs cells slots) (hx : p.tables.exec = Jvm.exec) (pc' : Nat) (hpc : pc + 2 = pc') {k : Nat} {x : Int64} (hd : decode c.code pc = .ok (.lstore k, 2))  (l' : Array Slot) (hl : storeLocals Ls k (.long x) = some l') (K : Goes p e below (T.setTop (mkF m pc' l' st)) P) : Goes p e below (T.setTop (mkF m pc Ls (.long x :: st))) P := by
  subst hpc; exact go (fun _ q => XT.lstore X.here hx rfl hd rfl hl q) K
theorem g_astore_n (X : Stand p l e R s m args below meth c T locs cells slots) (hx : p.tables.exec = Jvm.exec) (pc' : Nat) (hpc : pc + 1 = pc') {k : Fin 4} {x : Value} (hd : decode c.code pc = .ok (.astore_n k, 1)) (hv : x.isRef = true) (l' : Array Slot) (hl : storeLocals Ls k.val x = some l') (K : Goes p e below (T.setTop (mkF m pc' l' st)) P) : Goes p e below (T.setTop (mkF m pc Ls (x :: st))) P := by
  subst hpc; exact go (fun _ q => XS.astoreN X.here hx rfl hd rfl hv hl q) K
theorem g_astore (X : Stand p l e R s m args below meth c T locs cells slots) (hx : p.tables.exec = Jvm.exec) (pc' : Nat) (hpc : pc + 2 = pc') {k : Nat} {x : Value} (hd : decode c.code pc = .ok (.astore k, 2)) (hv : x.isRef = true) (l' : Array Slot) (hl : storeLocals Ls k x = some l') (K : Goes p e below (T.setTop (mkF m pc' l' st)) P) : Goes p e below (T.setTop (mkF m pc Ls (x :: st))) P := by
  subst hpc; exact go (fun _ q => XS.astore X.here hx rfl hd rfl hv hl q) K
theorem g_iinc (X : Stand p l e R s m args below meth c T locs cells slots) (hx : p.tables.exec = Jvm.exec) (pc' : Nat) (hpc : pc + 3 = pc') {k : Nat} {cst : Int} {x : Int32} (hd : decode c.code pc = .ok (.iinc k cst, 3)) (v : Int32) (hv : x + Int32.ofInt cst = v) (hl : Ls[k]? = some (.val (.int x))) (l' : Array Slot) (hl' : storeLocals Ls k (.int v) = some l') (K : Goes p e below (T.setTop (mkF m pc' l' st)) P) : Goes p e below (T.setTop (mkF m pc Ls st)) P := by
  subst hpc; subst hv; exact go (fun _ q => XS.iinc X.here hx rfl hd hl hl' q) K
theorem g_goto (X : Stand p l e R s m args below meth c T locs cells slots) (hx : p.tables.exec = Jvm.exec) (pc' : Nat) {o : Int} (hd : decode c.code pc = .ok (.goto o, 3)) (ho : 0 ≤ (pc : Int) + o) (hp : ((pc : Int) + o).toNat = pc') (K : Goes p e below (T.setTop (mkF m pc' Ls st)) P) : Goes p e below (T.setTop (mkF m pc Ls st)) P :=
  go (fun _ q => XS.goto X.here hx rfl rfl hd ho hp q) K
theorem g_ifY (X : Stand p l e R s m args below meth c T locs cells slots) (hx : p.tables.exec = Jvm.exec) (pc' : Nat) {o : Int} {cd : ClassFile.Cond} {x : Int32} (hd : decode c.code pc = .ok (.ifCond cd o, 3)) (hc : ifCond.holds cd x = true) (ho : 0 ≤ (pc : Int) + o) (hp : ((pc : Int) + o).toNat = pc') (K : Goes p e below (T.setTop (mkF m pc' Ls st)) P) : Goes p e below (T.setTop (mkF m pc Ls (.int x :: st))) P :=
  go (fun _ q => XS.ifYes X.here hx rfl rfl hd rfl hc ho hp q) K
theorem g_ifN (X : Stand p l e R s m args below meth c T locs cells slots) (hx : p.tables.exec = Jvm.exec) (pc' : Nat) (hpc : pc + 3 = pc') {o : Int} {cd : ClassFile.Cond} {x : Int32} (hd : decode c.code pc = .ok (.ifCond cd o, 3)) (hc : ifCond.holds cd x = false) (K : Goes p e below (T.setTop (mkF m pc' Ls st)) P) : Goes p e below (T.setTop (mkF m pc Ls (.int x :: st))) P := by
  subst hpc; exact go (fun _ q => XS.ifNo X.here hx rfl hd rfl hc q) K
theorem g_icmpY (X : Stand p l e R s m args below meth c T locs cells slots) (hx : p.tables.exec = Jvm.exec) (pc' : Nat) {o : Int} {cd : ClassFile.Cond} {x y : Int32} (hd : decode c.code pc = .ok (.if_icmp cd o, 3)) (hc : if_icmp.holds cd x y = true) (ho : 0 ≤ (pc : Int) + o) (hp : ((pc : Int) + o).toNat = pc') (K : Goes p e below (T.setTop (mkF m pc' Ls st)) P) : Goes p e below (T.setTop (mkF m pc Ls (.int y :: .int x :: st))) P :=
  go (fun _ q => XS.icmpYes X.here hx rfl rfl hd rfl hc ho hp q) K
theorem g_icmpN (X : Stand p l e R s m args below meth c T locs cells slots) (hx : p.tables.exec = Jvm.exec) (pc' : Nat) (hpc : pc + 3 = pc') {o : Int} {cd : ClassFile.Cond} {x y : Int32} (hd : decode c.code pc = .ok (.if_icmp cd o, 3)) (hc : if_icmp.holds cd x y = false) (K : Goes p e below (T.setTop (mkF m pc' Ls st)) P) : Goes p e below (T.setTop (mkF m pc Ls (.int y :: .int x :: st))) P := by
  subst hpc; exact go (fun _ q => XS.icmpNo X.here hx rfl hd rfl hc q) K
theorem g_acmpY (X : Stand p l e R s m args below meth c T locs cells slots) (hx : p.tables.exec = Jvm.exec) (pc' : Nat) {o : Int} {cd : ClassFile.ACond} {x y : Value} (hd : decode c.code pc = .ok (.if_acmp cd o, 3)) (h1 : x.isRef = true) (h2 : y.isRef = true) (hc : XT.acmp cd x y = true) (ho : 0 ≤ (pc : Int) + o) (hp : ((pc : Int) + o).toNat = pc') (K : Goes p e below (T.setTop (mkF m pc' Ls st)) P) : Goes p e below (T.setTop (mkF m pc Ls (y :: x :: st))) P :=
  go (fun _ q => XT.acmpYes X.here hx rfl rfl hd rfl h1 h2 hc ho hp q) K
theorem g_acmpN (X : Stand p l e R s m args below meth c T locs cells slots) (hx : p.tables.exec = Jvm.exec) (pc' : Nat) (hpc : pc + 3 = pc') {o : Int} {cd : ClassFile.ACond} {x y : Value} (hd : decode c.code pc = .ok (.if_acmp cd o, 3)) (h1 : x.isRef = true) (h2 : y.isRef = true) (hc : XT.acmp cd x y = false) (K : Goes p e below (T.setTop (mkF m pc' Ls st)) P) : Goes p e below (T.setTop (mkF m pc Ls (y :: x :: st))) P := by
  subst hpc; exact go (fun _ q => XT.acmpNo X.here hx rfl hd rfl h1 h2 hc q) K
theorem g_ifnonnullY (X : Stand p l e R s m args below meth c T locs cells slots) (hx : p.tables.exec = Jvm.exec) (pc' : Nat) {o : Int} {b : Addr} (hd : decode c.code pc = .ok (.ifnonnull o, 3)) (ho : 0 ≤ (pc : Int) + o) (hp : ((pc : Int) + o).toNat = pc') (K : Goes p e below (T.setTop (mkF m pc' Ls st)) P) : Goes p e below (T.setTop (mkF m pc Ls (.ref b :: st))) P :=
  go (fun _ q => XT.ifnonnullYes X.here hx rfl rfl hd rfl ho hp q) K
theorem g_ifnonnullN (X : Stand p l e R s m args below meth c T locs cells slots) (hx : p.tables.exec = Jvm.exec) (pc' : Nat) (hpc : pc + 3 = pc') {o : Int} (hd : decode c.code pc = .ok (.ifnonnull o, 3)) (K : Goes p e below (T.setTop (mkF m pc' Ls st)) P) : Goes p e below (T.setTop (mkF m pc Ls (.null :: st))) P := by
  subst hpc; exact go (fun _ q => XT.ifnonnullNo X.here hx rfl hd rfl q) K
def b2i (b : Bool) : Int32 := if b then 1 else 0
theorem b2i_nar (b : Bool) : narrow .boolean (.int (b2i b)) = .int (b2i b) := by cases b <;> rfl
theorem bb_eq_t {b : Bool} (q : ¬ b = true) : ifCond.holds .eq (b2i b) = true := by cases b <;> first | rfl | exact absurd rfl q
theorem bb_eq_f {b : Bool} (q : b = true) : ifCond.holds .eq (b2i b) = false := by subst q; rfl
theorem bb_ne_t {b : Bool} (q : b = true) : ifCond.holds .ne (b2i b) = true := by subst q; rfl
theorem bb_ne_f {b : Bool} (q : ¬ b = true) : ifCond.holds .ne (b2i b) = false := by cases b <;> first | rfl | exact absurd rfl q
theorem b2_eq_t {a b : Bool} (q : a = b) : if_icmp.holds .eq (b2i a) (b2i b) = true := by subst q; cases a <;> rfl
theorem b2_eq_f {a b : Bool} (q : ¬ a = b) : if_icmp.holds .eq (b2i a) (b2i b) = false := by cases a <;> cases b <;> first | rfl | exact absurd rfl q
theorem b2_ne_t {a b : Bool} (q : ¬ a = b) : if_icmp.holds .ne (b2i a) (b2i b) = true := by cases a <;> cases b <;> first | rfl | exact absurd rfl q
theorem b2_ne_f {a b : Bool} (q : a = b) : if_icmp.holds .ne (b2i a) (b2i b) = false := by subst q; cases a <;> rfl
theorem g_getF (X : Stand p l e R s m args below meth c T locs cells slots) (hx : p.tables.exec = Jvm.exec) (hZ : Z.Warmed39 s.vm) (pc' : Nat) (hpc : pc + 3 = pc') {own O n d : String} {index : Nat} (hown : s.vm.findClass own = some m.cls) (w : (Jvm.Cond.fieldLink own index O n d).before a0 Z = true) (eT : T.heap = h) {a : Addr} {v : Value} (F : Fld Z h a O n d v) (hd : decode c.code pc = .ok (.getfield index, 3)) (K : ∀ T', Stand p l e R s m args below meth c T' locs cells slots → T'.heap = h → Goes p e below (T'.setTop (mkF m pc' Ls (v :: st))) P) : Goes p e below (T.setTop (mkF m pc Ls (.ref a :: st))) P := by
  subst hpc
  obtain ⟨T', X', e', st'⟩ := getF X hx hZ hown (host := "") (Or.inl w) Via.refl eT F (g := mkF m pc Ls (.ref a :: st)) rfl rfl hd
  exact go st' (K T' X' e')
theorem g_putF (X : Stand p l e R s m args below meth c T locs cells slots) (hx : p.tables.exec = Jvm.exec) (hZ : Z.Warmed39 s.vm) (pc' : Nat) (hpc : pc + 3 = pc') {own O n d C : String} {index kk : Nat} {ty : FieldType} (hown : s.vm.findClass own = some m.cls) (w : (Jvm.Cond.fieldLink own index O n d).before a0 Z = true) (eT : T.heap = h) {a : Addr} {v old : Value} (F : Fld Z h a O n d old) (E : Exa Z h a C) (L : (Jvm.Cond.lays C O n d).before a0 Z = true ∨ ((Jvm.Cond.laysFinal C O n d).before a0 Z = true ∧ own = O ∧ meth.name = "<init>")) (wi : (Jvm.Cond.instantiable C kk).before a0 Z = true) (hty : parseFieldDescriptor d = some ty) (hn : narrow ty v = v) (hf : fits ty v = true) (hd : decode c.code pc = .ok (.putfield index, 3)) (K : ∀ T' h', Stand p l e R s m args below meth c T' (locs ++ [⟨a, Jvm.RoadKit.slotOf Z O n d⟩]) cells slots → T'.heap = h' → Wr h h' a (Jvm.RoadKit.slotOf Z O n d) v → Goes p e below (T'.setTop (mkF m pc' Ls st)) P) : Goes p e below (T.setTop (mkF m pc Ls (v :: .ref a :: st))) P := by
  subst hpc
  obtain ⟨T', h', X', e', W', st'⟩ := putF X hx hZ hown (host := "") (Or.inl w) Via.refl eT F E L wi hty hn hf (g := mkF m pc Ls (v :: .ref a :: st)) rfl rfl hd
  exact go st' (K T' h' X' e' W')
theorem g_getS (X : Stand p l e R s m args below meth c T locs cells slots) (hx : p.tables.exec = Jvm.exec) (hZ : Z.Warmed39 s.vm) (pc' : Nat) (hpc : pc + 3 = pc') {own O n d : String} {index : Nat} (hown : s.vm.findClass own = some m.cls) (w : (Jvm.Cond.fieldLink own index O n d).before a0 Z = true) (eT : T.heap = h) {v : Value} (F : Sta Z h O n d v) (hd : decode c.code pc = .ok (.getstatic index, 3)) (K : ∀ T', Stand p l e R s m args below meth c T' locs cells slots → T'.heap = h → Goes p e below (T'.setTop (mkF m pc' Ls (v :: st))) P) : Goes p e below (T.setTop (mkF m pc Ls st)) P := by
  subst hpc
  obtain ⟨T', X', e', st'⟩ := getS (host := "") X hx hZ hown w Via.refl eT F (g := mkF m pc Ls st) rfl hd
  exact go st' (K T' X' e')
theorem g_new (X : Stand p l e R s m args below meth c T locs cells slots) (hx : p.tables.exec = Jvm.exec) (hZ : Z.Warmed39 s.vm) (pc' : Nat) (hpc : pc + 3 = pc') {own C : String} {index n : Nat} (hown : s.vm.findClass own = some m.cls) (w : (Jvm.Cond.classLink own index C).before a0 Z = true) (wi : (Jvm.Cond.instantiable C n).before a0 Z = true) (wz : (Jvm.Cond.initialized C).before a0 Z = true) (eT : T.heap = h) (hd : decode c.code pc = .ok (.new index, 3)) (hc : cells + 1 ≤ R.cells) (hl : slots + n ≤ R.slots) (K : ∀ T' h' a, a = h.size → Stand p l e R s m args below meth c T' locs (cells + 1) (slots + n) → T'.heap = h' → Ext h h' → Exa Z h' a C → (∀ {O nm d : String} {ty : FieldType}, Laid Z a0 C O nm d → parseFieldDescriptor d = some ty → Fld Z h' a O nm d (defaultValue ty)) → Goes p e below (T'.setTop (mkF m pc' Ls (.ref a :: st))) P) : Goes p e below (T.setTop (mkF m pc Ls st)) P := by
  subst hpc
  obtain ⟨T', h', X', e', E', A', D', -, st'⟩ := newO X hx hZ hown w wi wz eT (g := mkF m pc Ls st) rfl hd hc hl
  exact go st' (K T' h' _ rfl X' e' E' A' D')
theorem g_initO (X : Stand p l e R s m args below meth c T locs cells slots) (hx : p.tables.exec = Jvm.exec) (hZ : Z.Warmed39 s.vm) (pc' : Nat) (hpc : pc + 3 = pc') {own : String} {idx : Nat} (hown : s.vm.findClass own = some m.cls) (w1 : (Jvm.Cond.methodLink own idx Lib.objectInit).before a0 Z = true) (w2 : (Jvm.Cond.instanceMethod Lib.objectInit).before a0 Z = true) (w3 : (Jvm.Cond.code Lib.objectInit ⟨#[0xb1]⟩ 1 none).before a0 Z = true) (eT : T.heap = h) (hsize : Ls.size = c.maxLocals) {a : Addr} (hd : decode c.code pc = .ok (.invokespecial idx, 3)) (hf : 1 ≤ R.frames) (W : Nat) (hW : 2 * 0 + (st.map fun v => v.category).sum ≤ W) (hl : W + 12 ≤ R.locals) (K : ∀ T', Stand p l e R s m args below meth c T' locs cells slots → T'.heap = h → Goes p e below (T'.setTop (mkF m pc' Ls st)) P) : Goes p e below (T.setTop (mkF m pc Ls (.ref a :: st))) P := by
  subst hpc
  obtain ⟨T', X', e', st'⟩ := initO X hx hZ hown w1 w2 w3 eT (g := mkF m pc Ls (.ref a :: st)) rfl hsize rfl hd hf hW hl
  exact go st' (K T' X' e')
theorem g_callS (X : Stand p l e R s m args below meth c T locs cells slots) (hx : p.tables.exec = Jvm.exec) (hZ : Z.Warmed39 s.vm) (pc' : Nat) (hpc : pc + 3 = pc') {own : String} {index : Nat} {y : MethodName} {bytes : ByteArray} {maxL : Nat} {ret : Option FieldType} {rm : Room} {Q : Option Value → Heap → List Loc → Prop} (hown : s.vm.findClass own = some m.cls) (w1 : (Jvm.Cond.methodLink own index y).before a0 Z = true) (w2 : (Jvm.Cond.static y).before a0 Z = true) (w3 : (Jvm.Cond.initialized y.cls).before a0 Z = true) (w4 : (Jvm.Cond.code y bytes maxL ret).before a0 Z = true) (hy : y.cls ≠ "java/lang/invoke/MethodHandle" ∧ y.cls ≠ "java/lang/invoke/VarHandle") (argsL rest : List Value) (hM : OwnMet l Z y bytes maxL ret [] rm argsL.toArray h Q) (eT : T.heap = h) (hlen : ∀ sig, parseMethodDescriptor y.desc = some sig → argsL.length = sig.parameters.length) (hst : st = argsL.reverse ++ rest) (hsize : Ls.size = c.maxLocals) (hd : decode c.code pc = .ok (.invokestatic index, 3)) (hf : rm.frames + 1 ≤ R.frames) (W : Nat) (hW : 2 * 0 + (rest.map fun v => v.category).sum ≤ W) (hl : W + (maxL + 11) + rm.locals ≤ R.locals) (hc : cells + rm.cells ≤ R.cells) (hs : slots + rm.slots ≤ R.slots) (K : ∀ v T' L', Stand p l e R s m args below meth c T' (locs ++ L') (cells + rm.cells) (slots + rm.slots) → Q v T'.heap L' → Goes p e below (T'.setTop (mkF m pc' Ls (v.toList ++ rest))) P) : Goes p e below (T.setTop (mkF m pc Ls st)) P := by
  subst hpc; subst hst
  obtain ⟨v, _, ⟨T', L', k', n'⟩, -, X', ⟨Lc, hQ, e1, e2, e3⟩, st'⟩ := Jvm.LawKit.callS X hx (y := y) hown (mvT hZ w1) (mvT hZ w2) (mvT hZ w3) (mvT hZ w4) hy (backOf (W := W) hM hZ w4 w3 hf hl) (g := mkF m pc Ls (argsL.reverse ++ rest)) rfl hsize (argsL := argsL) (rest := rest) hlen rfl hW hd (fun _ _ => ⟨rfl, eT, hc, hs⟩)
  dsimp only [Pt.U, Pt.locs, Pt.cells, Pt.slots] at X' e1 e2 e3 st' hQ
  subst e1 e2 e3
  exact go st' (K v T' Lc X' hQ)
theorem g_callI (X : Stand p l e R s m args below meth c T locs cells slots) (hx : p.tables.exec = Jvm.exec) (hZ : Z.Warmed39 s.vm) (pc' : Nat) (hpc : pc + 3 = pc') {own : String} {index : Nat} {y : MethodName} {bytes : ByteArray} {maxL : Nat} {rm : Room} {Q : Option Value → Heap → List Loc → Prop} (hy1 : y.name = "<init>") (hown : s.vm.findClass own = some m.cls) (w1 : (Jvm.Cond.methodLink own index y).before a0 Z = true) (w2 : (Jvm.Cond.instanceMethod y).before a0 Z = true) (w3 : (Jvm.Cond.initialized y.cls).before a0 Z = true) (w4 : (Jvm.Cond.code y bytes maxL none).before a0 Z = true) (hy : y.cls ≠ "java/lang/invoke/MethodHandle" ∧ y.cls ≠ "java/lang/invoke/VarHandle") (a : Addr) (argsL rest : List Value) (hM : OwnMet l Z y bytes maxL none [] rm (.ref a :: argsL).toArray h Q) (eT : T.heap = h) (hlen : ∀ sig, parseMethodDescriptor y.desc = some sig → argsL.length = sig.parameters.length) (hst : st = argsL.reverse ++ .ref a :: rest) (hsize : Ls.size = c.maxLocals) (hd : decode c.code pc = .ok (.invokespecial index, 3)) (hf : rm.frames + 1 ≤ R.frames) (W : Nat) (hW : 2 * 0 + (rest.map fun v => v.category).sum ≤ W) (hl : W + (maxL + 11) + rm.locals ≤ R.locals) (hc : cells + rm.cells ≤ R.cells) (hs : slots + rm.slots ≤ R.slots) (K : ∀ v T' L', Stand p l e R s m args below meth c T' (locs ++ L') (cells + rm.cells) (slots + rm.slots) → Q v T'.heap L' → Goes p e below (T'.setTop (mkF m pc' Ls (v.toList ++ rest))) P) : Goes p e below (T.setTop (mkF m pc Ls st)) P := by
  subst hpc; subst hst
  obtain ⟨v, _, ⟨T', L', k', n'⟩, -, X', ⟨Lc, hQ, e1, e2, e3⟩, st'⟩ := X.specialBack hx (y := y) hy1 hown (mvT hZ w1) (mvT hZ w2) (mvT hZ w4) hy (backOf (W := W) hM hZ w4 w3 hf hl) (g := mkF m pc Ls (argsL.reverse ++ .ref a :: rest)) rfl hsize (Steps.refl _) (a := a) (argsL := argsL) (rest := rest) hlen rfl hW hd (fun _ _ => ⟨rfl, eT, hc, hs⟩)
  dsimp only [Pt.U, Pt.locs, Pt.cells, Pt.slots] at X' e1 e2 e3 st' hQ
  subst e1 e2 e3
  exact goT st' (K v T' Lc X' hQ)
theorem g_callV (X : Stand p l e R s m args below meth c T locs cells slots) (hx : p.tables.exec = Jvm.exec) (hZ : Z.Warmed39 s.vm) (pc' : Nat) (hpc : pc + 3 = pc') {own C : String} {index : Nat} {y : MethodName} {bytes : ByteArray} {maxL : Nat} {ret : Option FieldType} {rm : Room} {Q : Option Value → Heap → List Loc → Prop} (hown : s.vm.findClass own = some m.cls) (w1 : (Jvm.Cond.methodLink own index y).before a0 Z = true) (w2 : (Jvm.Cond.declares y).before a0 Z = true) (w5 : (Jvm.Cond.selects C y y).before a0 Z = true) (w6 : (Jvm.Cond.instanceMethod y).before a0 Z = true) (w3 : (Jvm.Cond.initialized y.cls).before a0 Z = true) (w4 : (Jvm.Cond.code y bytes maxL ret).before a0 Z = true) (hy : y.cls ≠ "java/lang/invoke/MethodHandle" ∧ y.cls ≠ "java/lang/invoke/VarHandle") (a : Addr) (argsL rest : List Value) (hM : OwnMet l Z y bytes maxL ret [] rm (.ref a :: argsL).toArray h Q) (eT : T.heap = h) (Ex : Exa Z h a C) (hlen : ∀ sig, parseMethodDescriptor y.desc = some sig → argsL.length = sig.parameters.length) (hst : st = argsL.reverse ++ .ref a :: rest) (hsize : Ls.size = c.maxLocals) (hd : decode c.code pc = .ok (.invokevirtual index, 3)) (hf : rm.frames + 1 ≤ R.frames) (W : Nat) (hW : 2 * 0 + (rest.map fun v => v.category).sum ≤ W) (hl : W + (maxL + 11) + rm.locals ≤ R.locals) (hc : cells + rm.cells ≤ R.cells) (hs : slots + rm.slots ≤ R.slots) (K : ∀ v T' L', Stand p l e R s m args below meth c T' (locs ++ L') (cells + rm.cells) (slots + rm.slots) → Q v T'.heap L' → Goes p e below (T'.setTop (mkF m pc' Ls (v.toList ++ rest))) P) : Goes p e below (T.setTop (mkF m pc Ls st)) P := by
  subst hpc; subst hst
  obtain ⟨cq, kq, qa, qb, qc⟩ := isOf hZ eT Ex
  obtain ⟨v, _, ⟨T', L', k', n'⟩, -, X', ⟨Lc, hQ, e1, e2, e3⟩, st'⟩ := X.virtualBack hx (y := y) (z := y) hown (mvT hZ w1) (mvT hZ w2) (notFace_of_selects (args := #[]) (mvT hZ w5)) (mvT hZ w5) (mvT hZ w6) hy (backOf (W := W) hM hZ w4 w3 hf hl) qa qc (g := mkF m pc Ls (argsL.reverse ++ .ref a :: rest)) rfl hsize (Steps.refl _) (argsL := argsL) (rest := rest) hlen rfl hW hd (fun _ _ => ⟨rfl, eT, hc, hs⟩)
  dsimp only [Pt.U, Pt.locs, Pt.cells, Pt.slots] at X' e1 e2 e3 st' hQ
  subst e1 e2 e3
  exact goT st' (K v T' Lc X' hQ)
def Al (Z : State) (h : Heap) (a : Addr) (ty : FieldType) (vs : List Value) : Prop := ∃ c : Cell, Arr Z h a c ty ∧ c.slots.toList = vs ∧ vs.length < 2147483648
theorem Al.lt {a : Addr} {ty : FieldType} {vs : List Value} (F : Al Z h a ty vs) : a < h.size := by obtain ⟨c, A, -⟩ := F; exact A.lt
theorem Al.ext {h' : Heap} {a : Addr} {ty : FieldType} {vs : List Value} (F : Al Z h a ty vs) (E : Ext h h') : Al Z h' a ty vs := by obtain ⟨c, A, r⟩ := F; exact ⟨c, A.ext E, r⟩
theorem Al.other {h' : Heap} {a b : Addr} {sl : Nat} {v : Value} {ty : FieldType} {vs : List Value} (F : Al Z h b ty vs) (W : Wr h h' a sl v) (q : b ≠ a) : Al Z h' b ty vs := by obtain ⟨c, A, r⟩ := F; exact ⟨c, A.other W q, r⟩
theorem Al.keep {h' : Heap} {a : Addr} {ws : List Addr} {ty : FieldType} {vs : List Value} (F : Al Z h a ty vs) (K : Keep h h' ws) (q : a ∉ ws) : Al Z h' a ty vs := by obtain ⟨c, A, r⟩ := F; exact ⟨c, ⟨K.2.1 a c A.1 q, A.2⟩, r⟩
theorem Al.same {h' : Heap} {a : Addr} {i : Nat} {v : Value} {ty : FieldType} {vs : List Value} (F : Al Z h a ty vs) (W : Wr h h' a i v) : Al Z h' a ty (vs.set i v) := by
  obtain ⟨c, A, r1, r2⟩ := F
  exact ⟨_, A.same W, by rw [← r1]; simp [Cell.setSlot], by rw [List.length_set]; exact r2⟩
theorem own_ix {j : Int32} {i : Nat} (hj : j.toInt = (i : Int)) : j.toNatClampNeg = i ∧ ¬ j < 0 := by
  refine ⟨by simp only [Int32.toNatClampNeg]; omega, fun q => ?_⟩
  rw [Int32.lt_iff_toInt_lt] at q; simp only [Int32.reduceToInt] at q; omega
theorem Al.cell {a : Addr} {ty : FieldType} {vs : List Value} (F : Al Z h a ty vs) {j : Int32} {i : Nat} (hj : j.toInt = (i : Int)) (hi : i < vs.length) : ∃ c : Cell, Arr Z h a c ty ∧ c.slots.toList = vs ∧ ¬ (j < 0 ∨ c.slots.size ≤ j.toNatClampNeg) ∧ c.slots[j.toNatClampNeg]? = vs[i]? := by
  obtain ⟨c, A, r1, r2⟩ := F
  obtain ⟨q1, q2⟩ := own_ix hj
  have hs : c.slots.size = vs.length := by rw [← r1]; simp
  exact ⟨c, A, r1, fun q => q.elim q2 (by rw [q1, hs]; omega), by rw [q1, ← r1, Array.getElem?_toList]⟩
theorem g_alen (X : Stand p l e R s m args below meth c T locs cells slots) (hx : p.tables.exec = Jvm.exec) (hZ : Z.Warmed39 s.vm) (pc' : Nat) (hpc : pc + 1 = pc') (hd : decode c.code pc = .ok (.arraylength, 1)) (eT : T.heap = h) {a : Addr} {ty : FieldType} {vs : List Value} (A : Al Z h a ty vs) (n : Int32) (hn : Int32.ofNat vs.length = n) (K : Goes p e below (T.setTop (mkF m pc' Ls (.int n :: st))) P) : Goes p e below (T.setTop (mkF m pc Ls (.ref a :: st))) P := by
  subst hpc
  obtain ⟨c, A, r1, r2⟩ := A
  have hs : c.slots.size.toInt32 = n := by rw [← hn, ← r1]; simp
  exact go (fun _ q => X.arraylength hx (by rw [eT]; exact A.1) (State.isArrayOf_alike hZ.alike A.2.1) (g := mkF m pc Ls (.ref a :: st)) rfl rfl hd _ (by rw [hs]; exact q)) K
theorem g_iaload (X : Stand p l e R s m args below meth c T locs cells slots) (hx : p.tables.exec = Jvm.exec) (hZ : Z.Warmed39 s.vm) (pc' : Nat) (hpc : pc + 1 = pc') (hd : decode c.code pc = .ok (.iaload, 1)) (eT : T.heap = h) {a : Addr} {vs : List Value} (A : Al Z h a .int vs) {j : Int32} (i : Nat) (hj : j.toInt = (i : Int)) (v : Value) (hv : vs[i]? = some v) (K : Goes p e below (T.setTop (mkF m pc' Ls (v :: st))) P) : Goes p e below (T.setTop (mkF m pc Ls (.int j :: .ref a :: st))) P := by
  subst hpc
  obtain ⟨c, A, r1, r2, r3⟩ := A.cell hj (List.getElem?_eq_some_iff.mp hv).1
  exact go (fun _ q => X.iaload hx (by rw [eT]; exact A.1) (State.isArrayOf_alike hZ.alike A.2.1) A.2.2 r2 (r3.trans hv) (g := mkF m pc Ls (.int j :: .ref a :: st)) rfl rfl hd _ q) K
theorem g_laload (X : Stand p l e R s m args below meth c T locs cells slots) (hx : p.tables.exec = Jvm.exec) (hZ : Z.Warmed39 s.vm) (pc' : Nat) (hpc : pc + 1 = pc') (hd : decode c.code pc = .ok (.laload, 1)) (eT : T.heap = h) {a : Addr} {vs : List Value} (A : Al Z h a .long vs) {j : Int32} (i : Nat) (hj : j.toInt = (i : Int)) (v : Value) (hv : vs[i]? = some v) (K : Goes p e below (T.setTop (mkF m pc' Ls (v :: st))) P) : Goes p e below (T.setTop (mkF m pc Ls (.int j :: .ref a :: st))) P := by
  subst hpc
  obtain ⟨c, A, r1, r2, r3⟩ := A.cell hj (List.getElem?_eq_some_iff.mp hv).1
  exact go (fun _ q => X.laload hx (by rw [eT]; exact A.1) (State.isArrayOf_alike hZ.alike A.2.1) A.2.2 r2 (r3.trans hv) (g := mkF m pc Ls (.int j :: .ref a :: st)) rfl rfl hd _ q) K
theorem g_baload (X : Stand p l e R s m args below meth c T locs cells slots) (hx : p.tables.exec = Jvm.exec) (hZ : Z.Warmed39 s.vm) (pc' : Nat) (hpc : pc + 1 = pc') (hd : decode c.code pc = .ok (.baload, 1)) (eT : T.heap = h) {a : Addr} {vs : List Value} (A : Al Z h a .byte vs) {j : Int32} (i : Nat) (hj : j.toInt = (i : Int)) (v : Value) (hv : vs[i]? = some v) (K : Goes p e below (T.setTop (mkF m pc' Ls (v :: st))) P) : Goes p e below (T.setTop (mkF m pc Ls (.int j :: .ref a :: st))) P := by
  subst hpc
  obtain ⟨c, A, r1, r2, r3⟩ := A.cell hj (List.getElem?_eq_some_iff.mp hv).1
  exact go (fun _ q => X.baloadBytes hx (by rw [eT]; exact A.1) (State.isArrayOf_alike hZ.alike A.2.1) A.2.2 r2 (r3.trans hv) (g := mkF m pc Ls (.int j :: .ref a :: st)) rfl rfl hd _ q) K
theorem g_caload (X : Stand p l e R s m args below meth c T locs cells slots) (hx : p.tables.exec = Jvm.exec) (hZ : Z.Warmed39 s.vm) (pc' : Nat) (hpc : pc + 1 = pc') (hd : decode c.code pc = .ok (.caload, 1)) (eT : T.heap = h) {a : Addr} {vs : List Value} (A : Al Z h a .char vs) {j : Int32} (i : Nat) (hj : j.toInt = (i : Int)) (v : Value) (hv : vs[i]? = some v) (K : Goes p e below (T.setTop (mkF m pc' Ls (v :: st))) P) : Goes p e below (T.setTop (mkF m pc Ls (.int j :: .ref a :: st))) P := by
  subst hpc
  obtain ⟨c, A, r1, r2, r3⟩ := A.cell hj (List.getElem?_eq_some_iff.mp hv).1
  exact go (fun _ q => X.caload hx (by rw [eT]; exact A.1) (State.isArrayOf_alike hZ.alike A.2.1) A.2.2 r2 (r3.trans hv) (g := mkF m pc Ls (.int j :: .ref a :: st)) rfl rfl hd _ q) K
theorem g_iastore (X : Stand p l e R s m args below meth c T locs cells slots) (hx : p.tables.exec = Jvm.exec) (hZ : Z.Warmed39 s.vm) (pc' : Nat) (hpc : pc + 1 = pc') (hd : decode c.code pc = .ok (.iastore, 1)) (eT : T.heap = h) {a : Addr} {vs : List Value} (A : Al Z h a .int vs) {j : Int32} {x : Int32} (i : Nat) (hj : j.toInt = (i : Int)) (hi : i < vs.length) (K : ∀ T' h', Stand p l e R s m args below meth c T' (locs ++ [⟨a, i⟩]) cells slots → T'.heap = h' → Wr h h' a i (.int x) → Al Z h' a .int (vs.set i (.int x)) → Goes p e below (T'.setTop (mkF m pc' Ls st)) P) : Goes p e below (T.setTop (mkF m pc Ls (.int x :: .int j :: .ref a :: st))) P := by
  subst hpc
  obtain ⟨c, Ar, r1, r2, r3⟩ := A.cell hj hi
  obtain ⟨T', h', X', e', W', st'⟩ := stI X hx hZ eT Ar r2 (g := mkF m pc Ls (.int x :: .int j :: .ref a :: st)) rfl rfl hd
  rw [(own_ix hj).1] at X' W'
  exact go st' (K T' h' X' e' W' (A.same W'))
theorem g_lastore (X : Stand p l e R s m args below meth c T locs cells slots) (hx : p.tables.exec = Jvm.exec) (hZ : Z.Warmed39 s.vm) (pc' : Nat) (hpc : pc + 1 = pc') (hd : decode c.code pc = .ok (.lastore, 1)) (eT : T.heap = h) {a : Addr} {vs : List Value} (A : Al Z h a .long vs) {j : Int32} {x : Int64} (i : Nat) (hj : j.toInt = (i : Int)) (hi : i < vs.length) (K : ∀ T' h', Stand p l e R s m args below meth c T' (locs ++ [⟨a, i⟩]) cells slots → T'.heap = h' → Wr h h' a i (.long x) → Al Z h' a .long (vs.set i (.long x)) → Goes p e below (T'.setTop (mkF m pc' Ls st)) P) : Goes p e below (T.setTop (mkF m pc Ls (.long x :: .int j :: .ref a :: st))) P := by
  subst hpc
  obtain ⟨c, Ar, r1, r2, r3⟩ := A.cell hj hi
  obtain ⟨T', h', X', e', W', st'⟩ := stJ X hx hZ eT Ar r2 (g := mkF m pc Ls (.long x :: .int j :: .ref a :: st)) rfl rfl hd
  rw [(own_ix hj).1] at X' W'
  exact go st' (K T' h' X' e' W' (A.same W'))
theorem g_bastore (X : Stand p l e R s m args below meth c T locs cells slots) (hx : p.tables.exec = Jvm.exec) (hZ : Z.Warmed39 s.vm) (pc' : Nat) (hpc : pc + 1 = pc') (hd : decode c.code pc = .ok (.bastore, 1)) (eT : T.heap = h) {a : Addr} {vs : List Value} (A : Al Z h a .byte vs) {j : Int32} {x : Int32} (i : Nat) (hj : j.toInt = (i : Int)) (hi : i < vs.length) (K : ∀ T' h', Stand p l e R s m args below meth c T' (locs ++ [⟨a, i⟩]) cells slots → T'.heap = h' → Wr h h' a i (.int (nar .byte x)) → Al Z h' a .byte (vs.set i (.int (nar .byte x))) → Goes p e below (T'.setTop (mkF m pc' Ls st)) P) : Goes p e below (T.setTop (mkF m pc Ls (.int x :: .int j :: .ref a :: st))) P := by
  subst hpc
  obtain ⟨c, Ar, r1, r2, r3⟩ := A.cell hj hi
  obtain ⟨T', h', X', e', W', st'⟩ := stB X hx hZ eT Ar r2 (g := mkF m pc Ls (.int x :: .int j :: .ref a :: st)) rfl rfl hd
  rw [(own_ix hj).1] at X' W'
  exact go st' (K T' h' X' e' W' (A.same W'))
theorem g_castore (X : Stand p l e R s m args below meth c T locs cells slots) (hx : p.tables.exec = Jvm.exec) (hZ : Z.Warmed39 s.vm) (pc' : Nat) (hpc : pc + 1 = pc') (hd : decode c.code pc = .ok (.castore, 1)) (eT : T.heap = h) {a : Addr} {vs : List Value} (A : Al Z h a .char vs) {j : Int32} {x : Int32} (i : Nat) (hj : j.toInt = (i : Int)) (hi : i < vs.length) (K : ∀ T' h', Stand p l e R s m args below meth c T' (locs ++ [⟨a, i⟩]) cells slots → T'.heap = h' → Wr h h' a i (.int (nar .char x)) → Al Z h' a .char (vs.set i (.int (nar .char x))) → Goes p e below (T'.setTop (mkF m pc' Ls st)) P) : Goes p e below (T.setTop (mkF m pc Ls (.int x :: .int j :: .ref a :: st))) P := by
  subst hpc
  obtain ⟨c, Ar, r1, r2, r3⟩ := A.cell hj hi
  obtain ⟨T', h', X', e', W', st'⟩ := stC X hx hZ eT Ar r2 (g := mkF m pc Ls (.int x :: .int j :: .ref a :: st)) rfl rfl hd
  rw [(own_ix hj).1] at X' W'
  exact go st' (K T' h' X' e' W' (A.same W'))
theorem g_newarr (X : Stand p l e R s m args below meth c T locs cells slots) (hx : p.tables.exec = Jvm.exec) (hZ : Z.Warmed39 s.vm) (pc' : Nat) (hpc : pc + 2 = pc') {aty : ArrayType} (w : (Jvm.Cond.arrayClass (newarray.typeOf aty)).before a0 Z = true) (eT : T.heap = h) (hd : decode c.code pc = .ok (.newarray aty, 2)) {n : Int32} (k : Nat) (hn : n.toInt = (k : Int)) (cap : Nat) (hcap : k ≤ cap) (hb : cap * 8 ≤ 536870912) (hc : cells + 1 ≤ R.cells) (hl : slots + cap ≤ R.slots) (ad : String) (had : "[" ++ (newarray.typeOf aty).toString = ad) (K : ∀ T' h' a, a = h.size → Stand p l e R s m args below meth c T' locs (cells + 1) (slots + cap) → T'.heap = h' → Ext h h' → Al Z h' a (newarray.typeOf aty) (List.replicate k (defaultValue (newarray.typeOf aty))) → Exa Z h' a ad → Goes p e below (T'.setTop (mkF m pc' Ls (.ref a :: st))) P) : Goes p e below (T.setTop (mkF m pc Ls (.int n :: st))) P := by
  subst hpc
  obtain ⟨q1, q2⟩ := own_ix hn
  obtain ⟨T', h', cA, X', e', E', A', Ex', st'⟩ := newPE X hx hZ w eT (g := mkF m pc Ls (.int n :: st)) rfl hd rfl q2 (cap := cap) (by rw [q1]; exact hcap) hb hc hl had
  refine go st' (K T' h' _ rfl X' e' E' ⟨_, A', by simp [newA, q1], ?_⟩ Ex')
  rw [List.length_replicate]
  have := Int32.toInt_lt n
  omega
theorem own_narb (x : Int32) : nar .byte x.toInt8.toInt32 = x.toInt8.toInt32 := by show x.toInt8.toInt32.toInt8.toInt32 = _; simp
theorem g_cast (X : Stand p l e R s m args below meth c T locs cells slots) (hx : p.tables.exec = Jvm.exec) (hZ : Z.Warmed39 s.vm) (pc' : Nat) (hpc : pc + 3 = pc') {own K : String} {index : Nat} (hown : s.vm.findClass own = some m.cls) (w : (Jvm.Cond.classLink own index K).before a0 Z = true) (eT : T.heap = h) {a : Addr} (F : Ins Z h a K true) (hd : decode c.code pc = .ok (.checkcast index, 3)) (K2 : ∀ T', Stand p l e R s m args below meth c T' locs cells slots → T'.heap = h → Goes p e below (T'.setTop (mkF m pc' Ls (.ref a :: st))) P) : Goes p e below (T.setTop (mkF m pc Ls (.ref a :: st))) P := by
  subst hpc
  obtain ⟨T', X', e', st'⟩ := castY X hx hZ hown w eT F (g := mkF m pc Ls (.ref a :: st)) rfl rfl hd
  exact go st' (K2 T' X' e')
theorem own_fitc {a : Addr} {ty : FieldType} {vs : List Value} {c : Cell} (A : Arr Z h a c ty) (r : c.slots.toList = vs) (hfit : ∀ v ∈ vs, fits ty v = true) : FitC Z c := fitC_of A fun i hi v hv => hfit v (by rw [← r]; rw [← Array.getElem?_toList] at hv; exact List.mem_of_getElem? hv)
theorem g_clone (X : Stand p l e R s m args below meth c T locs cells slots) (hx : p.tables.exec = Jvm.exec) (hZ : Z.Warmed39 s.vm) (pc' : Nat) (hpc : pc + 3 = pc') {own ad : String} {index : Nat} (hown : s.vm.findClass own = some m.cls) (w1 : (Jvm.Cond.methodLink own index ⟨ad, "clone", "()Ljava/lang/Object;"⟩).before a0 Z = true) (w2 : (Jvm.Cond.sameMethod ad "java/lang/Object" "clone" "()Ljava/lang/Object;").before a0 Z = true) (w3 : (Jvm.Cond.native ⟨"java/lang/Object", "clone", "()Ljava/lang/Object;"⟩).before a0 Z = true) (w4 : (Jvm.Cond.instanceMethod ⟨"java/lang/Object", "clone", "()Ljava/lang/Object;"⟩).before a0 Z = true) (w5 : (Jvm.Cond.selects ad ⟨ad, "clone", "()Ljava/lang/Object;"⟩ ⟨"java/lang/Object", "clone", "()Ljava/lang/Object;"⟩).before a0 Z = true) (w6 : (Jvm.Cond.castable ad "java/lang/Cloneable").before a0 Z = true) (eT : T.heap = h) {a : Addr} {ty : FieldType} {vs : List Value} (A : Al Z h a ty vs) (Ex : Exa Z h a ad) (hfit : ∀ v ∈ vs, fits ty v = true) (hd : decode c.code pc = .ok (.invokevirtual index, 3)) (hsize : Ls.size = c.maxLocals) (hf : 1 ≤ R.frames) (W : Nat) (hW : 2 * 0 + (st.map fun v => v.category).sum ≤ W) (hl : W + 14 ≤ R.locals) (cap : Nat) (hcap : vs.length ≤ cap) (hc : cells + 1 ≤ R.cells) (hs : slots + cap ≤ R.slots) (K : ∀ T' h' b, b = h.size → Stand p l e R s m args below meth c T' locs (cells + 1) (slots + cap) → T'.heap = h' → Ext h h' → Al Z h' b ty vs → Exa Z h' b ad → Goes p e below (T'.setTop (mkF m pc' Ls (.ref b :: st))) P) : Goes p e below (T.setTop (mkF m pc Ls (.ref a :: st))) P := by
  subst hpc
  obtain ⟨c, Ar, r1, r2⟩ := A
  obtain ⟨T', h', X', e', E', A', Ex', st'⟩ := cloneA X hx hZ hown w1 w2 w3 w4 w5 w6 eT Ar Ex (own_fitc Ar r1 hfit) (g := mkF m pc Ls (.ref a :: st)) rfl hsize rfl hd hf hW hl (by rw [← r1] at hcap; simpa using hcap) hc hs
  exact go st' (K T' h' _ rfl X' e' E' ⟨_, A', r1, r2⟩ Ex')
theorem own_arv {a : Addr} {ty : FieldType} {vs : List Value} (d : Value) (A : Al Z h a ty vs) (hfit : ∀ v ∈ vs, fits ty v = true) : ∃ k, Arv Z h a k ty (Int32.ofNat vs.length) vs d := by
  obtain ⟨c, Ar, r1, r2⟩ := A
  have hs : c.slots.size = vs.length := by rw [← r1]; simp
  have h1 : (Int32.ofNat vs.length).toInt = (vs.length : Int) := Int32.toInt_ofNat_of_lt r2
  obtain ⟨q1, q2⟩ := own_ix h1
  have hv : ∀ i, i < c.slots.size → c.slots[i]? = some (vs.getD i d) := fun i hi => by
    rw [← Array.getElem?_toList, r1, List.getD_eq_getElem?_getD, List.getElem?_eq_getElem (by omega)]; rfl
  refine ⟨c.cls, c, Ar, rfl, by rw [hs, q1], q2, hv, fun i hi => hfit _ ?_⟩
  have := hv i hi
  rw [← Array.getElem?_toList, r1] at this
  exact List.mem_of_getElem? this
theorem own_al {a : Addr} {k : ClassId} {ty : FieldType} {z : Int32} {vs : List Value} {d : Value} (A : Arv Z h a k ty z vs d) (hl : vs.length = z.toNatClampNeg) : Al Z h a ty vs := by
  obtain ⟨c, Ar, -, S, M, H, -⟩ := A
  refine ⟨c, Ar, ?_, ?_⟩
  · apply List.ext_getElem?
    intro i
    rw [Array.getElem?_toList]
    by_cases hi : i < c.slots.size
    · rw [H i hi, List.getD_eq_getElem?_getD, List.getElem?_eq_getElem (by omega)]; rfl
    · rw [Array.getElem?_eq_none (by omega), List.getElem?_eq_none (by omega)]
  · have := (back32 M).2; omega
theorem g_acopy (X : Stand p l e R s m args below meth c T locs cells slots) (hx : p.tables.exec = Jvm.exec) (hZ : Z.Warmed39 s.vm) (pc' : Nat) (hpc : pc + 3 = pc') {own : String} {index : Nat} (hown : s.vm.findClass own = some m.cls) (w1 : (Jvm.Cond.methodLink own index Jvm.Stand.acN).before a0 Z = true) (w2 : (Jvm.Cond.native Jvm.Stand.acN).before a0 Z = true) (w3 : (Jvm.Cond.static Jvm.Stand.acN).before a0 Z = true) (w4 : (Jvm.Cond.initialized "java/lang/System").before a0 Z = true) (eT : T.heap = h) {a b : Addr} {ty : FieldType} {vs vd : List Value} (A : Al Z h a ty vs) (B : Al Z h b ty vd) (hp : refKind ty = false) (hfit : ∀ v ∈ vs, fits ty v = true) (hfit2 : ∀ v ∈ vd, fits ty v = true) {nn : Int32} (n : Nat) (hn : nn.toInt = (n : Int)) (h1 : n ≤ vs.length) (h2 : n ≤ vd.length) {n0 : Nat} (N : Fr n0 locs) (ge : n0 ≤ b) (hd : decode c.code pc = .ok (.invokestatic index, 3)) (hsize : Ls.size = c.maxLocals) (hf : 1 ≤ R.frames) (W : Nat) (hW : 2 * 0 + (st.map fun v => v.category).sum ≤ W) (hlo : W + (nativeFrameWords "java/lang/System" "arraycopy" 5 + 11) ≤ R.locals) (K : ∀ T' h' L, Stand p l e R s m args below meth c T' L cells slots → T'.heap = h' → Fr n0 L → Keep h h' [b] → Al Z h' b ty (vs.take n ++ vd.drop n) → Goes p e below (T'.setTop (mkF m pc' Ls st)) P) : Goes p e below (T.setTop (mkF m pc Ls (.int nn :: .int 0 :: .ref b :: .int 0 :: .ref a :: st))) P := by
  subst hpc
  obtain ⟨ka, Aa⟩ := own_arv (.int 0) A hfit
  obtain ⟨kb, Ab⟩ := own_arv (.int 0) B hfit2
  obtain ⟨q1, q2⟩ := own_ix hn
  have l1 : (Int32.ofNat vs.length).toNatClampNeg = vs.length := (own_ix (Int32.toInt_ofNat_of_lt A.choose_spec.2.2)).1
  have l2 : (Int32.ofNat vd.length).toNatClampNeg = vd.length := (own_ix (Int32.toInt_ofNat_of_lt B.choose_spec.2.2)).1
  have z0 : (0 : Int32).toNatClampNeg = 0 := rfl
  obtain ⟨T', h', L, X', e', N', K', A', st'⟩ := cpA X hx hZ hown w1 w2 w3 w4 eT Aa Ab (us := (List.range nn.toNatClampNeg).map fun i => vs.getD ((0 : Int32).toNatClampNeg + i) (.int 0)) (Or.inl ⟨rfl, hp⟩) (sp := 0) (dp := 0) (nn := nn) (by decide) (by decide) q2 (by rw [q1, l1, z0]; omega) (by rw [q1, l2, z0]; omega) rfl (by rw [q1, z0]; omega) N ge (g := mkF m pc Ls (.int nn :: .int 0 :: .ref b :: .int 0 :: .ref a :: st)) rfl hsize rfl hd hf hW hlo
  have hu : vd.take (0 : Int32).toNatClampNeg ++ ((List.range nn.toNatClampNeg).map fun i => vs.getD ((0 : Int32).toNatClampNeg + i) (.int 0)) ++ vd.drop ((0 : Int32).toNatClampNeg + nn.toNatClampNeg) = vs.take n ++ vd.drop n := by
    rw [z0, q1, List.take_zero, List.nil_append, Nat.zero_add]
    congr 1
    apply List.ext_getElem?
    intro i
    by_cases hi : i < n
    · rw [List.getElem?_take_of_lt hi, List.getElem?_map, List.getElem?_range hi, Option.map_some, Nat.zero_add, List.getD_eq_getElem?_getD, List.getElem?_eq_getElem (by omega)]; rfl
    · rw [List.getElem?_eq_none (by simp; omega), List.getElem?_eq_none (by simp; omega)]
  rw [hu] at A'
  exact go st' (K T' h' L X' e' N' K' (own_al A' (by rw [l2]; simp; omega)))
theorem own_eqI {args : Array Value} {first s : State} {o : Option Outcome} {idx : List Nat} {a : Term} {k : Int32} (q : (Jvm.Cond.eq a (Jvm.Term.int k)).value args first o s idx = some true) : a.eval args first o idx s = some (.int k) := by
  obtain ⟨x, y, h1, h2, h3, h4⟩ := cmp_v (Or.inl q)
  have h5 : y = .int k := (Option.some.inj ((Term.int_eval k).symm.trans h2)).symm
  subst h5
  obtain ⟨z, rfl⟩ := h4
  have h6 : z = k := gotT (Cond.eq_ints h1 h2) q
  rw [h1, h6]
theorem own_nar_ref {v : Value} {C : String} (q : v.isRef = true) : narrow (.object C) v = v := by cases v <;> simp [Value.isRef] at q <;> rfl
theorem own_fit_ref {v : Value} {C : String} (q : v.isRef = true) : fits (.object C) v = true := by cases v <;> simp [Value.isRef] at q <;> rfl
theorem own_sixteen (x : Int32) : x.toInt = (x.toBitVec.toNat : Int) ∨ x.toInt = (x.toBitVec.toNat : Int) - 4294967296 := by
  show x.toBitVec.toInt = _ ∨ x.toBitVec.toInt = _
  rw [BitVec.toInt_eq_toNat_cond]; split <;> omega
end OwnKit

def own_f (x : Int32) : Int32 := if x &&& (1 : Int32) = 0 then XT.ushr x (1 : Int32) else XT.ushr x (1 : Int32) ^^^ (140 : Int32)
def own_f8 (x : Int32) : Int32 := own_f (own_f (own_f (own_f (own_f (own_f (own_f (own_f x)))))))
def own_upd (c o : Int32) : Int32 := own_f8 (c ^^^ o)
def own_b (i m k r : Int32) : Int32 := if i &&& m = 0 then r else r ^^^ k
def own_s8 (i : Int32) : Int32 := (own_b i (128 : Int32) (140 : Int32) (own_b i (64 : Int32) (70 : Int32) (own_b i (32 : Int32) (35 : Int32) (own_b i (16 : Int32) (157 : Int32) (own_b i (8 : Int32) (194 : Int32) (own_b i (4 : Int32) (97 : Int32) (own_b i (2 : Int32) (188 : Int32) (own_b i (1 : Int32) (94 : Int32) (0 : Int32)))))))))
def own_step (c o : Int32) : Int32 := own_s8 ((c ^^^ o) &&& (255 : Int32))
def own_oct (q : Int64) (k : Int32) : Int32 := (XT.ushrL q k).toInt32 &&& (255 : Int32)
def own_crc (f : Int32) (q : Int64) : Int32 := own_upd (own_upd (own_upd (own_upd (own_upd (own_upd (own_upd (0 : Int32) f) (own_oct q ((8 : Int32) * (0 : Int32)))) (own_oct q ((8 : Int32) * (1 : Int32)))) (own_oct q ((8 : Int32) * (2 : Int32)))) (own_oct q ((8 : Int32) * (3 : Int32)))) (own_oct q ((8 : Int32) * (4 : Int32)))) (own_oct q ((8 : Int32) * (5 : Int32)))
def own_lawc (f : Int32) (q : Int64) : Int32 := own_step (own_step (own_step (own_step (own_step (own_step (own_step (0 : Int32) f) (q.toInt32 &&& (255 : Int32))) (own_oct q (8 : Int32))) (own_oct q (16 : Int32))) (own_oct q (24 : Int32))) (own_oct q (32 : Int32))) (own_oct q (40 : Int32))
theorem own_all : ∀ n : Fin 256, own_f8 (Int32.ofNat n.val) = own_s8 (Int32.ofNat n.val) ∧ own_s8 (Int32.ofNat n.val) &&& 255 = own_s8 (Int32.ofNat n.val) := by decide +kernel
theorem own_byte (x : Int32) (hx : x &&& 255 = x) : ∃ n : Fin 256, x = Int32.ofNat n.val := by
  have h := c_mask x 255 8 (by decide) (by decide)
  rw [hx] at h
  refine ⟨⟨x.toInt.toNat, by omega⟩, ?_⟩
  apply Int32.toInt_inj.mp
  show x.toInt = (Int32.ofNat x.toInt.toNat).toInt
  rw [Int32.toInt_ofNat_of_lt (by omega)]
  omega
theorem own_same (c o : Int32) (hc : c &&& 255 = c) (ho : o &&& 255 = o) : own_upd c o = own_step c o ∧ own_step c o &&& 255 = own_step c o := by
  have hx : (c ^^^ o) &&& 255 = c ^^^ o := by
    have e : (c ^^^ o) &&& 255 = (c &&& 255) ^^^ (o &&& 255) := by
      apply Int32.toBitVec_inj.mp
      simp only [Int32.toBitVec_and, Int32.toBitVec_xor]
      apply BitVec.eq_of_getLsbD_eq
      intro i hi
      simp only [BitVec.getLsbD_and, BitVec.getLsbD_xor]
      cases c.toBitVec.getLsbD i <;> cases o.toBitVec.getLsbD i <;> simp
    rw [e, hc, ho]
  unfold own_upd own_step
  rw [hx]
  obtain ⟨n, hn⟩ := own_byte _ hx
  rw [hn]
  exact own_all n
theorem own_m (x : Int32) : (x &&& 255) &&& 255 = x &&& 255 := by
  rw [Int32.and_assoc]; rfl
theorem own_sh0 (q : Int64) : XT.ushrL q ((8 : Int32) * (0 : Int32)) = q := by
  apply Int64.toBitVec_inj.mp
  show q.toBitVec >>> _ = _
  exact BitVec.ushiftRight_zero _
theorem own_final (f : Int32) (q : Int64) (hf : f &&& 255 = f) : own_crc f q = own_lawc f q := by
  have h0 : own_oct q ((8 : Int32) * (0 : Int32)) = q.toInt32 &&& (255 : Int32) := by unfold own_oct; rw [own_sh0]
  have e1 : (8 : Int32) * (1 : Int32) = 8 := by decide
  have e2 : (8 : Int32) * (2 : Int32) = 16 := by decide
  have e3 : (8 : Int32) * (3 : Int32) = 24 := by decide
  have e4 : (8 : Int32) * (4 : Int32) = 32 := by decide
  have e5 : (8 : Int32) * (5 : Int32) = 40 := by decide
  unfold own_crc own_lawc
  rw [h0, e1, e2, e3, e4, e5]
  have s0 := own_same 0 f (by decide) hf
  have s1 := own_same _ (q.toInt32 &&& 255) s0.2 (own_m _)
  have s2 := own_same _ (own_oct q 8) s1.2 (own_m _)
  have s3 := own_same _ (own_oct q 16) s2.2 (own_m _)
  have s4 := own_same _ (own_oct q 24) s3.2 (own_m _)
  have s5 := own_same _ (own_oct q 32) s4.2 (own_m _)
  have s6 := own_same _ (own_oct q 40) s5.2 (own_m _)
  rw [s0.1, s1.1, s2.1, s3.1, s4.1, s5.1, s6.1]
theorem own_fam (p : Int32) : ¬ (p &&& (255 : Int32)) < 0 ∧ ¬ (255 : Int32) < (p &&& (255 : Int32)) := by
  have h := c_mask p 255 8 (by decide) (by decide)
  have e1 : (255 : Int32).toInt = 255 := rfl
  have e0 : (0 : Int32).toInt = 0 := rfl
  simp only [Int32.lt_iff_toInt_lt, h, e1, e0]
  omega
theorem own_ser (q : Int64) : ¬ (q &&& (281474976710655 : Int64)) < 0 ∧ ¬ (281474976710655 : Int64) < (q &&& (281474976710655 : Int64)) := by
  have h := c_maskL q 281474976710655 48 (by decide) (by decide)
  have e1 : (281474976710655 : Int64).toInt = 281474976710655 := rfl
  have e0 : (0 : Int64).toInt = 0 := rfl
  simp only [Int64.lt_iff_toInt_lt, h, e1, e0]
  omega

theorem d2_0 : decode jdk_30_method_1_code 0 = .ok (.aload_n 0, 1) := by decide +kernel
theorem d2_1 : decode jdk_30_method_1_code 1 = .ok (.invokespecial 1, 3) := by decide +kernel
theorem d2_4 : decode jdk_30_method_1_code 4 = .ok (.return_, 1) := by decide +kernel
theorem pn_0 : plainName "java/lang/Record" = true := by first | (simp [plainName, overriddenIn]; done) | decide +kernel
theorem pd_0 : parseMethodDescriptor "()V" = some ⟨[], none⟩ := by decide +kernel
theorem ef_2_rmR (m : MethodId) (a1 : Addr)  : entryFrame m #[(.ref a1)] 1 = mkF m 0 #[.val (.ref a1)] [] := by first | (simp [entryFrame, mkF, argsToLocals, Value.category, maxLocals]; done) | rfl
def Q_rmR (Z : State) (a1 : Addr) (h0 : Heap) (n0 : Nat) (v : Option Value) (h : Heap) (L : List Loc) : Prop := v = none ∧ Fr n0 L ∧ h = h0
set_option maxRecDepth 65536 in
set_option maxHeartbeats 40000000 in
theorem rmR (l : Launch) (Z : State) (a0 : Array Value) (hw : ∀ d ∈ tables_1, d.before a0 Z = true) (ws : List Jvm.Cond) (a1 : Addr) (h0 : Heap) (n0 : Nat) (Z0 : n0 ≤ h0.size)  :
    OwnMet l Z (⟨"java/lang/Record", "<init>", "()V"⟩ : MethodName) jdk_30_method_1_code 1 none ws ({ frames := 1, cells := 0, slots := 0, locals := 12 } : Room) #[(.ref a1)] h0 (Q_rmR Z a1 h0 n0) := by
  refine own_body (plainFor_of_name pn_0) ?_
  intro p e s m below meth c s₁ hx hby hml hown hnm hret hlk hZ X0 e0
  have N0 := Fr.nil n0
  refine own_cast (ef_2_rmR m a1 ) ?_
  refine g_aload_n X0 hx 1 rfl (hb hby d2_0) rfl rfl ?_
  refine g_initO X0 hx hZ 4 rfl hown (hw _ (List.mem_of_getElem? (i := 12) rfl)) (hw _ (List.mem_of_getElem? (i := 13) rfl)) (hw _ (List.mem_of_getElem? (i := 14) rfl)) e0 (by rw [hml]; rfl) (hb hby d2_1) (by decide) 0 (Nat.le_of_eq rfl) (by decide) ?_
  intro T1 X1 e1
  exact g_ret0 X1 hx hret hlk (hb hby d2_4) ⟨rfl, N0, e1⟩ (by decide) (by decide)
theorem d1_0 : decode prog_78_method_1_code 0 = .ok (.aload_n 0, 1) := by decide +kernel
theorem d1_1 : decode prog_78_method_1_code 1 = .ok (.invokespecial 3, 3) := by decide +kernel
theorem d1_4 : decode prog_78_method_1_code 4 = .ok (.iload_n 1, 1) := by decide +kernel
theorem d1_5 : decode prog_78_method_1_code 5 = .ok (.ifCond .lt 10, 3) := by decide +kernel
theorem d1_8 : decode prog_78_method_1_code 8 = .ok (.iload_n 1, 1) := by decide +kernel
theorem d1_9 : decode prog_78_method_1_code 9 = .ok (.sipush 255, 3) := by decide +kernel
theorem d1_12 : decode prog_78_method_1_code 12 = .ok (.if_icmp .le 27, 3) := by decide +kernel
theorem d1_15 : decode prog_78_method_1_code 15 = .ok (.new 9, 3) := by decide +kernel
theorem d1_18 : decode prog_78_method_1_code 18 = .ok (.dup, 1) := by decide +kernel
theorem d1_19 : decode prog_78_method_1_code 19 = .ok (.ldc 11, 2) := by decide +kernel
theorem d1_21 : decode prog_78_method_1_code 21 = .ok (.iconst 1, 1) := by decide +kernel
theorem d1_22 : decode prog_78_method_1_code 22 = .ok (.anewarray 13, 3) := by decide +kernel
theorem d1_25 : decode prog_78_method_1_code 25 = .ok (.dup, 1) := by decide +kernel
theorem d1_26 : decode prog_78_method_1_code 26 = .ok (.iconst 0, 1) := by decide +kernel
theorem d1_27 : decode prog_78_method_1_code 27 = .ok (.iload_n 1, 1) := by decide +kernel
theorem d1_28 : decode prog_78_method_1_code 28 = .ok (.invokestatic 15, 3) := by decide +kernel
theorem d1_31 : decode prog_78_method_1_code 31 = .ok (.aastore, 1) := by decide +kernel
theorem d1_32 : decode prog_78_method_1_code 32 = .ok (.invokestatic 21, 3) := by decide +kernel
theorem d1_35 : decode prog_78_method_1_code 35 = .ok (.invokespecial 27, 3) := by decide +kernel
theorem d1_38 : decode prog_78_method_1_code 38 = .ok (.athrow, 1) := by decide +kernel
theorem d1_39 : decode prog_78_method_1_code 39 = .ok (.lload_n 2, 1) := by decide +kernel
theorem d1_40 : decode prog_78_method_1_code 40 = .ok (.lconst 0, 1) := by decide +kernel
theorem d1_41 : decode prog_78_method_1_code 41 = .ok (.lcmp, 1) := by decide +kernel
theorem d1_42 : decode prog_78_method_1_code 42 = .ok (.ifCond .lt 11, 3) := by decide +kernel
theorem d1_45 : decode prog_78_method_1_code 45 = .ok (.lload_n 2, 1) := by decide +kernel
theorem d1_46 : decode prog_78_method_1_code 46 = .ok (.ldc2_w 30, 3) := by decide +kernel
theorem d1_49 : decode prog_78_method_1_code 49 = .ok (.lcmp, 1) := by decide +kernel
theorem d1_50 : decode prog_78_method_1_code 50 = .ok (.ifCond .le 27, 3) := by decide +kernel
theorem d1_53 : decode prog_78_method_1_code 53 = .ok (.new 9, 3) := by decide +kernel
theorem d1_56 : decode prog_78_method_1_code 56 = .ok (.dup, 1) := by decide +kernel
theorem d1_57 : decode prog_78_method_1_code 57 = .ok (.ldc 32, 2) := by decide +kernel
theorem d1_59 : decode prog_78_method_1_code 59 = .ok (.iconst 1, 1) := by decide +kernel
theorem d1_60 : decode prog_78_method_1_code 60 = .ok (.anewarray 13, 3) := by decide +kernel
theorem d1_63 : decode prog_78_method_1_code 63 = .ok (.dup, 1) := by decide +kernel
theorem d1_64 : decode prog_78_method_1_code 64 = .ok (.iconst 0, 1) := by decide +kernel
theorem d1_65 : decode prog_78_method_1_code 65 = .ok (.lload_n 2, 1) := by decide +kernel
theorem d1_66 : decode prog_78_method_1_code 66 = .ok (.invokestatic 34, 3) := by decide +kernel
theorem d1_69 : decode prog_78_method_1_code 69 = .ok (.aastore, 1) := by decide +kernel
theorem d1_70 : decode prog_78_method_1_code 70 = .ok (.invokestatic 21, 3) := by decide +kernel
theorem d1_73 : decode prog_78_method_1_code 73 = .ok (.invokespecial 27, 3) := by decide +kernel
theorem d1_76 : decode prog_78_method_1_code 76 = .ok (.athrow, 1) := by decide +kernel
theorem d1_77 : decode prog_78_method_1_code 77 = .ok (.aload_n 0, 1) := by decide +kernel
theorem d1_78 : decode prog_78_method_1_code 78 = .ok (.iload_n 1, 1) := by decide +kernel
theorem d1_79 : decode prog_78_method_1_code 79 = .ok (.putfield 39, 3) := by decide +kernel
theorem d1_82 : decode prog_78_method_1_code 82 = .ok (.aload_n 0, 1) := by decide +kernel
theorem d1_83 : decode prog_78_method_1_code 83 = .ok (.lload_n 2, 1) := by decide +kernel
theorem d1_84 : decode prog_78_method_1_code 84 = .ok (.putfield 43, 3) := by decide +kernel
theorem d1_87 : decode prog_78_method_1_code 87 = .ok (.return_, 1) := by decide +kernel
theorem pn_1 : plainName "com/example/abalone/abalone/token/RegistrationNumber" = true := by first | (simp [plainName, overriddenIn]; done) | decide +kernel
theorem ef_1_rmI (m : MethodId) (a1 : Addr) (p2 : Int32) (q3 : Int64) (u1 : Value) (u2 : Value)  : entryFrame m #[(.ref a1), (.int p2), (.long q3)] 4 = mkF m 0 #[.val (.ref a1), .val (.int p2), .val (.long q3), .second] [] := by first | (simp [entryFrame, mkF, argsToLocals, Value.category, maxLocals]; done) | rfl
def Q_rmI (Z : State) (a1 : Addr) (p2 : Int32) (q3 : Int64) (u1 : Value) (u2 : Value) (h0 : Heap) (n0 : Nat) (v : Option Value) (h : Heap) (L : List Loc) : Prop := v = none ∧ Fr n0 L ∧ Keep h0 h [a1] ∧ Exa Z h a1 "com/example/abalone/abalone/token/RegistrationNumber" ∧ Fld Z h a1 "com/example/abalone/abalone/token/RegistrationNumber" "familyCode" "I" (.int p2) ∧ Fld Z h a1 "com/example/abalone/abalone/token/RegistrationNumber" "serial" "J" (.long q3)
set_option maxRecDepth 65536 in
set_option maxHeartbeats 40000000 in
theorem rmI (l : Launch) (Z : State) (a0 : Array Value) (hw : ∀ d ∈ tables_1, d.before a0 Z = true) (ws : List Jvm.Cond) (a1 : Addr) (p2 : Int32) (q3 : Int64) (u1 : Value) (u2 : Value) (h0 : Heap) (n0 : Nat) (Z0 : n0 ≤ h0.size) (E1 : Exa Z h0 a1 "com/example/abalone/abalone/token/RegistrationNumber") (g1 : n0 ≤ a1) (F1 : Fld Z h0 a1 "com/example/abalone/abalone/token/RegistrationNumber" "familyCode" "I" u1) (F2 : Fld Z h0 a1 "com/example/abalone/abalone/token/RegistrationNumber" "serial" "J" u2) (k1 : ¬ p2 < 0) (k2 : ¬ (255 : Int32) < p2) (k3 : ¬ q3 < 0) (k4 : ¬ (281474976710655 : Int64) < q3) :
    OwnMet l Z (⟨"com/example/abalone/abalone/token/RegistrationNumber", "<init>", "(IJ)V"⟩ : MethodName) prog_78_method_1_code 4 none ws ({ frames := 2, cells := 0, slots := 0, locals := 24 } : Room) #[(.ref a1), (.int p2), (.long q3)] h0 (Q_rmI Z a1 p2 q3 u1 u2 h0 n0) := by
  refine own_body (plainFor_of_name pn_1) ?_
  intro p e s m below meth c s₁ hx hby hml hown hnm hret hlk hZ X0 e0
  have N0 := Fr.nil n0
  refine own_cast (ef_1_rmI m a1 p2 q3 u1 u2 ) ?_
  refine g_aload_n X0 hx 1 rfl (hb hby d1_0) rfl rfl ?_
  refine g_callI X0 hx hZ 4 rfl (y := (⟨"java/lang/Record", "<init>", "()V"⟩ : MethodName)) rfl hown (hw _ (List.mem_of_getElem? (i := 7) rfl)) (hw _ (List.mem_of_getElem? (i := 8) rfl)) (hw _ (List.mem_of_getElem? (i := 10) rfl)) (hw _ (List.mem_of_getElem? (i := 11) rfl)) (by decide) a1 [] [] (rmR l Z a0 hw [] a1 h0 n0 Z0 ) e0 (lenOf pd_0 rfl) rfl (by rw [hml]; rfl) (hb hby d1_1) (by decide) 0 (Nat.le_of_eq rfl) (by decide) (by decide) (by decide) ?_
  rintro _ T1 L1 X1 ⟨rfl, N1q, e1⟩
  have N1 := Fr.app N0 N1q
  show Goes p e below (T1.setTop (mkF m 4 #[.val (.ref a1), .val (.int p2), .val (.long q3), .second] [])) _
  refine g_iload_n X1 hx 5 rfl (hb hby d1_4) rfl ?_
  refine g_ifN X1 hx 8 rfl (hb hby d1_5) (XT.i0_lt_f k1) ?_
  refine g_iload_n X1 hx 9 rfl (hb hby d1_8) rfl ?_
  refine g_sipush X1 hx 12 rfl (255 : Int32) rfl (hb hby d1_9) ?_
  refine g_icmpY X1 hx 39 (hb hby d1_12) (XT.ii_le_t k2) (by decide) (by decide) ?_
  refine g_lload_n X1 hx 40 rfl (hb hby d1_39) rfl ?_
  refine g_lconst X1 hx 41 rfl (0 : Int64) rfl (hb hby d1_40) ?_
  refine g_lcmp X1 hx 42 rfl (hb hby d1_41) ?_
  refine g_ifN X1 hx 45 rfl (hb hby d1_42) (XT.ll_lt_f k3) ?_
  refine g_lload_n X1 hx 46 rfl (hb hby d1_45) rfl ?_
  refine g_ldcJ X1 hx 49 rfl hown hZ (hw _ (List.mem_of_getElem? (i := 15) rfl)) (hb hby d1_46) ?_
  refine g_lcmp X1 hx 50 rfl (hb hby d1_49) ?_
  refine g_ifY X1 hx 77 (hb hby d1_50) (XT.ll_le_t k4) (by decide) (by decide) ?_
  refine g_aload_n X1 hx 78 rfl (hb hby d1_77) rfl rfl ?_
  refine g_iload_n X1 hx 79 rfl (hb hby d1_78) rfl ?_
  refine g_putF X1 hx hZ 82 rfl hown (hw _ (List.mem_of_getElem? (i := 16) rfl)) e1 F1 E1 (Or.inr ⟨(hw _ (List.mem_of_getElem? (i := 17) rfl)), rfl, hnm⟩) (hw _ (List.mem_of_getElem? (i := 2) rfl)) (ty := .int) (by decide) rfl rfl (hb hby d1_79) ?_
  intro T2 h2 X2 e2 W2
  have Fw2 := F1.same W2
  have N2 := Fr.snoc X2 N1 g1
  refine g_aload_n X2 hx 83 rfl (hb hby d1_82) rfl rfl ?_
  refine g_lload_n X2 hx 84 rfl (hb hby d1_83) rfl ?_
  have Fld3 := (F2.other W2 (Or.inr (slot_ne (Or.inr (hw _ (List.mem_of_getElem? (i := 19) rfl))) (Or.inr (hw _ (List.mem_of_getElem? (i := 17) rfl))) (by decide) (t := .long) (t' := .int) (by decide) (by decide))))
  have Exa4 := (E1.wr W2)
  refine g_putF X2 hx hZ 87 rfl hown (hw _ (List.mem_of_getElem? (i := 18) rfl)) e2 Fld3 Exa4 (Or.inr ⟨(hw _ (List.mem_of_getElem? (i := 19) rfl)), rfl, hnm⟩) (hw _ (List.mem_of_getElem? (i := 2) rfl)) (ty := .long) (by decide) rfl rfl (hb hby d1_84) ?_
  intro T5 h5 X5 e5 W5
  have Fw5 := Fld3.same W5
  have N5 := Fr.snoc X5 N2 g1
  have Exa6 := (Exa4.wr W5)
  have Fld7 := (Fw2.other W5 (Or.inr (slot_ne (Or.inr (hw _ (List.mem_of_getElem? (i := 17) rfl))) (Or.inr (hw _ (List.mem_of_getElem? (i := 19) rfl))) (by decide) (t := .int) (t' := .long) (by decide) (by decide))))
  exact g_ret0 X5 hx hret hlk (hb hby d1_87) (by rw [e5]; exact ⟨rfl, N5, (((Keep.refl h0 [a1]).wr W2 (Or.inl (List.mem_of_getElem? (i := 0) rfl))).wr W5 (Or.inl (List.mem_of_getElem? (i := 0) rfl))), Exa6, Fld7, Fw5⟩) (by decide) (by decide)
theorem d4_0 : decode method_3_code 0 = .ok (.iload_n 0, 1) := by decide +kernel
theorem d4_1 : decode method_3_code 1 = .ok (.iload_n 1, 1) := by decide +kernel
theorem d4_2 : decode method_3_code 2 = .ok (.ixor, 1) := by decide +kernel
theorem d4_3 : decode method_3_code 3 = .ok (.sipush 255, 3) := by decide +kernel
theorem d4_6 : decode method_3_code 6 = .ok (.iand, 1) := by decide +kernel
theorem d4_7 : decode method_3_code 7 = .ok (.istore_n 2, 1) := by decide +kernel
theorem d4_8 : decode method_3_code 8 = .ok (.iconst 0, 1) := by decide +kernel
theorem d4_9 : decode method_3_code 9 = .ok (.istore_n 3, 1) := by decide +kernel
theorem d4_10 : decode method_3_code 10 = .ok (.iload_n 2, 1) := by decide +kernel
theorem d4_11 : decode method_3_code 11 = .ok (.iconst 1, 1) := by decide +kernel
theorem d4_12 : decode method_3_code 12 = .ok (.iand, 1) := by decide +kernel
theorem d4_13 : decode method_3_code 13 = .ok (.ifCond .eq 8, 3) := by decide +kernel
theorem d4_16 : decode method_3_code 16 = .ok (.iload_n 3, 1) := by decide +kernel
theorem d4_17 : decode method_3_code 17 = .ok (.bipush 94, 2) := by decide +kernel
theorem d4_19 : decode method_3_code 19 = .ok (.ixor, 1) := by decide +kernel
theorem d4_20 : decode method_3_code 20 = .ok (.istore_n 3, 1) := by decide +kernel
theorem d4_21 : decode method_3_code 21 = .ok (.iload_n 2, 1) := by decide +kernel
theorem d4_22 : decode method_3_code 22 = .ok (.iconst 2, 1) := by decide +kernel
theorem d4_23 : decode method_3_code 23 = .ok (.iand, 1) := by decide +kernel
theorem d4_24 : decode method_3_code 24 = .ok (.ifCond .eq 9, 3) := by decide +kernel
theorem d4_27 : decode method_3_code 27 = .ok (.iload_n 3, 1) := by decide +kernel
theorem d4_28 : decode method_3_code 28 = .ok (.sipush 188, 3) := by decide +kernel
theorem d4_31 : decode method_3_code 31 = .ok (.ixor, 1) := by decide +kernel
theorem d4_32 : decode method_3_code 32 = .ok (.istore_n 3, 1) := by decide +kernel
theorem d4_33 : decode method_3_code 33 = .ok (.iload_n 2, 1) := by decide +kernel
theorem d4_34 : decode method_3_code 34 = .ok (.iconst 4, 1) := by decide +kernel
theorem d4_35 : decode method_3_code 35 = .ok (.iand, 1) := by decide +kernel
theorem d4_36 : decode method_3_code 36 = .ok (.ifCond .eq 8, 3) := by decide +kernel
theorem d4_39 : decode method_3_code 39 = .ok (.iload_n 3, 1) := by decide +kernel
theorem d4_40 : decode method_3_code 40 = .ok (.bipush 97, 2) := by decide +kernel
theorem d4_42 : decode method_3_code 42 = .ok (.ixor, 1) := by decide +kernel
theorem d4_43 : decode method_3_code 43 = .ok (.istore_n 3, 1) := by decide +kernel
theorem d4_44 : decode method_3_code 44 = .ok (.iload_n 2, 1) := by decide +kernel
theorem d4_45 : decode method_3_code 45 = .ok (.bipush 8, 2) := by decide +kernel
theorem d4_47 : decode method_3_code 47 = .ok (.iand, 1) := by decide +kernel
theorem d4_48 : decode method_3_code 48 = .ok (.ifCond .eq 9, 3) := by decide +kernel
theorem d4_51 : decode method_3_code 51 = .ok (.iload_n 3, 1) := by decide +kernel
theorem d4_52 : decode method_3_code 52 = .ok (.sipush 194, 3) := by decide +kernel
theorem d4_55 : decode method_3_code 55 = .ok (.ixor, 1) := by decide +kernel
theorem d4_56 : decode method_3_code 56 = .ok (.istore_n 3, 1) := by decide +kernel
theorem d4_57 : decode method_3_code 57 = .ok (.iload_n 2, 1) := by decide +kernel
theorem d4_58 : decode method_3_code 58 = .ok (.bipush 16, 2) := by decide +kernel
theorem d4_60 : decode method_3_code 60 = .ok (.iand, 1) := by decide +kernel
theorem d4_61 : decode method_3_code 61 = .ok (.ifCond .eq 9, 3) := by decide +kernel
theorem d4_64 : decode method_3_code 64 = .ok (.iload_n 3, 1) := by decide +kernel
theorem d4_65 : decode method_3_code 65 = .ok (.sipush 157, 3) := by decide +kernel
theorem d4_68 : decode method_3_code 68 = .ok (.ixor, 1) := by decide +kernel
theorem d4_69 : decode method_3_code 69 = .ok (.istore_n 3, 1) := by decide +kernel
theorem d4_70 : decode method_3_code 70 = .ok (.iload_n 2, 1) := by decide +kernel
theorem d4_71 : decode method_3_code 71 = .ok (.bipush 32, 2) := by decide +kernel
theorem d4_73 : decode method_3_code 73 = .ok (.iand, 1) := by decide +kernel
theorem d4_74 : decode method_3_code 74 = .ok (.ifCond .eq 8, 3) := by decide +kernel
theorem d4_77 : decode method_3_code 77 = .ok (.iload_n 3, 1) := by decide +kernel
theorem d4_78 : decode method_3_code 78 = .ok (.bipush 35, 2) := by decide +kernel
theorem d4_80 : decode method_3_code 80 = .ok (.ixor, 1) := by decide +kernel
theorem d4_81 : decode method_3_code 81 = .ok (.istore_n 3, 1) := by decide +kernel
theorem d4_82 : decode method_3_code 82 = .ok (.iload_n 2, 1) := by decide +kernel
theorem d4_83 : decode method_3_code 83 = .ok (.bipush 64, 2) := by decide +kernel
theorem d4_85 : decode method_3_code 85 = .ok (.iand, 1) := by decide +kernel
theorem d4_86 : decode method_3_code 86 = .ok (.ifCond .eq 8, 3) := by decide +kernel
theorem d4_89 : decode method_3_code 89 = .ok (.iload_n 3, 1) := by decide +kernel
theorem d4_90 : decode method_3_code 90 = .ok (.bipush 70, 2) := by decide +kernel
theorem d4_92 : decode method_3_code 92 = .ok (.ixor, 1) := by decide +kernel
theorem d4_93 : decode method_3_code 93 = .ok (.istore_n 3, 1) := by decide +kernel
theorem d4_94 : decode method_3_code 94 = .ok (.iload_n 2, 1) := by decide +kernel
theorem d4_95 : decode method_3_code 95 = .ok (.sipush 128, 3) := by decide +kernel
theorem d4_98 : decode method_3_code 98 = .ok (.iand, 1) := by decide +kernel
theorem d4_99 : decode method_3_code 99 = .ok (.ifCond .eq 9, 3) := by decide +kernel
theorem d4_102 : decode method_3_code 102 = .ok (.iload_n 3, 1) := by decide +kernel
theorem d4_103 : decode method_3_code 103 = .ok (.sipush 140, 3) := by decide +kernel
theorem d4_106 : decode method_3_code 106 = .ok (.ixor, 1) := by decide +kernel
theorem d4_107 : decode method_3_code 107 = .ok (.istore_n 3, 1) := by decide +kernel
theorem d4_108 : decode method_3_code 108 = .ok (.iload_n 3, 1) := by decide +kernel
theorem d4_109 : decode method_3_code 109 = .ok (.ireturn, 1) := by decide +kernel
theorem pn_2 : plainName "com/example/abalone/abalone/token/RegistrationNumberCrcPinLaw" = true := by first | (simp [plainName, overriddenIn]; done) | decide +kernel
theorem ef_4_rmS (m : MethodId) (p1 : Int32) (p2 : Int32)  : entryFrame m #[(.int p1), (.int p2)] 4 = mkF m 0 #[.val (.int p1), .val (.int p2), .unset, .unset] [] := by first | (simp [entryFrame, mkF, argsToLocals, Value.category, maxLocals]; done) | rfl
def Q_rmS (Z : State) (p1 : Int32) (p2 : Int32) (h0 : Heap) (n0 : Nat) (v : Option Value) (h : Heap) (L : List Loc) : Prop := v = some (.int (own_step p1 p2)) ∧ Fr n0 L ∧ h = h0
set_option maxRecDepth 65536 in
set_option maxHeartbeats 40000000 in
theorem rmS (l : Launch) (Z : State) (a0 : Array Value) (hw : ∀ d ∈ tables_1, d.before a0 Z = true) (ws : List Jvm.Cond) (p1 : Int32) (p2 : Int32) (h0 : Heap) (n0 : Nat) (Z0 : n0 ≤ h0.size)  :
    OwnMet l Z (⟨"com/example/abalone/abalone/token/RegistrationNumberCrcPinLaw", "step", "(II)I"⟩ : MethodName) method_3_code 4 (some .int) ws ({ frames := 0, cells := 0, slots := 0, locals := 0 } : Room) #[(.int p1), (.int p2)] h0 (Q_rmS Z p1 p2 h0 n0) := by
  refine own_body (plainFor_of_name pn_2) ?_
  intro p e s m below meth c s₁ hx hby hml hown hnm hret hlk hZ X0 e0
  have N0 := Fr.nil n0
  refine own_cast (ef_4_rmS m p1 p2 ) ?_
  have seg0 : ∀ (P : State → Outcome → Prop) (i : Int32) (r : Int32), Goes p e below (s₁.setTop (mkF m 21 #[.val (.int p1), .val (.int p2), .val (.int i), .val (.int (own_b i (1 : Int32) (94 : Int32) r))] [])) P → Goes p e below (s₁.setTop (mkF m 10 #[.val (.int p1), .val (.int p2), .val (.int i), .val (.int r)] [])) P := by
    intro P i r  K
    unfold own_b at K
    refine g_iload_n X0 hx 11 rfl (hb hby d4_10) rfl ?_
    refine g_iconst X0 hx 12 rfl (1 : Int32) rfl (hb hby d4_11) ?_
    refine g_iand X0 hx 13 rfl (hb hby d4_12) ?_
    by_cases c : (i &&& (1 : Int32)) = 0
    · refine g_ifY X0 hx 21 (hb hby d4_13) (XT.i0_eq_t c) (by decide) (by decide) ?_
      rw [if_pos c] at K
      exact K
    · refine g_ifN X0 hx 16 rfl (hb hby d4_13) (XT.i0_eq_f c) ?_
      rw [if_neg c] at K
      refine g_iload_n X0 hx 17 rfl (hb hby d4_16) rfl ?_
      refine g_bipush X0 hx 19 rfl (94 : Int32) rfl (hb hby d4_17) ?_
      refine g_ixor X0 hx 20 rfl (hb hby d4_19) ?_
      refine g_istore_n X0 hx 21 rfl (hb hby d4_20) #[.val (.int p1), .val (.int p2), .val (.int i), .val (.int (r ^^^ (94 : Int32)))] rfl ?_
      exact K
  have seg1 : ∀ (P : State → Outcome → Prop) (i : Int32) (r : Int32), Goes p e below (s₁.setTop (mkF m 33 #[.val (.int p1), .val (.int p2), .val (.int i), .val (.int (own_b i (2 : Int32) (188 : Int32) r))] [])) P → Goes p e below (s₁.setTop (mkF m 21 #[.val (.int p1), .val (.int p2), .val (.int i), .val (.int r)] [])) P := by
    intro P i r  K
    unfold own_b at K
    refine g_iload_n X0 hx 22 rfl (hb hby d4_21) rfl ?_
    refine g_iconst X0 hx 23 rfl (2 : Int32) rfl (hb hby d4_22) ?_
    refine g_iand X0 hx 24 rfl (hb hby d4_23) ?_
    by_cases c : (i &&& (2 : Int32)) = 0
    · refine g_ifY X0 hx 33 (hb hby d4_24) (XT.i0_eq_t c) (by decide) (by decide) ?_
      rw [if_pos c] at K
      exact K
    · refine g_ifN X0 hx 27 rfl (hb hby d4_24) (XT.i0_eq_f c) ?_
      rw [if_neg c] at K
      refine g_iload_n X0 hx 28 rfl (hb hby d4_27) rfl ?_
      refine g_sipush X0 hx 31 rfl (188 : Int32) rfl (hb hby d4_28) ?_
      refine g_ixor X0 hx 32 rfl (hb hby d4_31) ?_
      refine g_istore_n X0 hx 33 rfl (hb hby d4_32) #[.val (.int p1), .val (.int p2), .val (.int i), .val (.int (r ^^^ (188 : Int32)))] rfl ?_
      exact K
  have seg2 : ∀ (P : State → Outcome → Prop) (i : Int32) (r : Int32), Goes p e below (s₁.setTop (mkF m 44 #[.val (.int p1), .val (.int p2), .val (.int i), .val (.int (own_b i (4 : Int32) (97 : Int32) r))] [])) P → Goes p e below (s₁.setTop (mkF m 33 #[.val (.int p1), .val (.int p2), .val (.int i), .val (.int r)] [])) P := by
    intro P i r  K
    unfold own_b at K
    refine g_iload_n X0 hx 34 rfl (hb hby d4_33) rfl ?_
    refine g_iconst X0 hx 35 rfl (4 : Int32) rfl (hb hby d4_34) ?_
    refine g_iand X0 hx 36 rfl (hb hby d4_35) ?_
    by_cases c : (i &&& (4 : Int32)) = 0
    · refine g_ifY X0 hx 44 (hb hby d4_36) (XT.i0_eq_t c) (by decide) (by decide) ?_
      rw [if_pos c] at K
      exact K
    · refine g_ifN X0 hx 39 rfl (hb hby d4_36) (XT.i0_eq_f c) ?_
      rw [if_neg c] at K
      refine g_iload_n X0 hx 40 rfl (hb hby d4_39) rfl ?_
      refine g_bipush X0 hx 42 rfl (97 : Int32) rfl (hb hby d4_40) ?_
      refine g_ixor X0 hx 43 rfl (hb hby d4_42) ?_
      refine g_istore_n X0 hx 44 rfl (hb hby d4_43) #[.val (.int p1), .val (.int p2), .val (.int i), .val (.int (r ^^^ (97 : Int32)))] rfl ?_
      exact K
  have seg3 : ∀ (P : State → Outcome → Prop) (i : Int32) (r : Int32), Goes p e below (s₁.setTop (mkF m 57 #[.val (.int p1), .val (.int p2), .val (.int i), .val (.int (own_b i (8 : Int32) (194 : Int32) r))] [])) P → Goes p e below (s₁.setTop (mkF m 44 #[.val (.int p1), .val (.int p2), .val (.int i), .val (.int r)] [])) P := by
    intro P i r  K
    unfold own_b at K
    refine g_iload_n X0 hx 45 rfl (hb hby d4_44) rfl ?_
    refine g_bipush X0 hx 47 rfl (8 : Int32) rfl (hb hby d4_45) ?_
    refine g_iand X0 hx 48 rfl (hb hby d4_47) ?_
    by_cases c : (i &&& (8 : Int32)) = 0
    · refine g_ifY X0 hx 57 (hb hby d4_48) (XT.i0_eq_t c) (by decide) (by decide) ?_
      rw [if_pos c] at K
      exact K
    · refine g_ifN X0 hx 51 rfl (hb hby d4_48) (XT.i0_eq_f c) ?_
      rw [if_neg c] at K
      refine g_iload_n X0 hx 52 rfl (hb hby d4_51) rfl ?_
      refine g_sipush X0 hx 55 rfl (194 : Int32) rfl (hb hby d4_52) ?_
      refine g_ixor X0 hx 56 rfl (hb hby d4_55) ?_
      refine g_istore_n X0 hx 57 rfl (hb hby d4_56) #[.val (.int p1), .val (.int p2), .val (.int i), .val (.int (r ^^^ (194 : Int32)))] rfl ?_
      exact K
  have seg4 : ∀ (P : State → Outcome → Prop) (i : Int32) (r : Int32), Goes p e below (s₁.setTop (mkF m 70 #[.val (.int p1), .val (.int p2), .val (.int i), .val (.int (own_b i (16 : Int32) (157 : Int32) r))] [])) P → Goes p e below (s₁.setTop (mkF m 57 #[.val (.int p1), .val (.int p2), .val (.int i), .val (.int r)] [])) P := by
    intro P i r  K
    unfold own_b at K
    refine g_iload_n X0 hx 58 rfl (hb hby d4_57) rfl ?_
    refine g_bipush X0 hx 60 rfl (16 : Int32) rfl (hb hby d4_58) ?_
    refine g_iand X0 hx 61 rfl (hb hby d4_60) ?_
    by_cases c : (i &&& (16 : Int32)) = 0
    · refine g_ifY X0 hx 70 (hb hby d4_61) (XT.i0_eq_t c) (by decide) (by decide) ?_
      rw [if_pos c] at K
      exact K
    · refine g_ifN X0 hx 64 rfl (hb hby d4_61) (XT.i0_eq_f c) ?_
      rw [if_neg c] at K
      refine g_iload_n X0 hx 65 rfl (hb hby d4_64) rfl ?_
      refine g_sipush X0 hx 68 rfl (157 : Int32) rfl (hb hby d4_65) ?_
      refine g_ixor X0 hx 69 rfl (hb hby d4_68) ?_
      refine g_istore_n X0 hx 70 rfl (hb hby d4_69) #[.val (.int p1), .val (.int p2), .val (.int i), .val (.int (r ^^^ (157 : Int32)))] rfl ?_
      exact K
  have seg5 : ∀ (P : State → Outcome → Prop) (i : Int32) (r : Int32), Goes p e below (s₁.setTop (mkF m 82 #[.val (.int p1), .val (.int p2), .val (.int i), .val (.int (own_b i (32 : Int32) (35 : Int32) r))] [])) P → Goes p e below (s₁.setTop (mkF m 70 #[.val (.int p1), .val (.int p2), .val (.int i), .val (.int r)] [])) P := by
    intro P i r  K
    unfold own_b at K
    refine g_iload_n X0 hx 71 rfl (hb hby d4_70) rfl ?_
    refine g_bipush X0 hx 73 rfl (32 : Int32) rfl (hb hby d4_71) ?_
    refine g_iand X0 hx 74 rfl (hb hby d4_73) ?_
    by_cases c : (i &&& (32 : Int32)) = 0
    · refine g_ifY X0 hx 82 (hb hby d4_74) (XT.i0_eq_t c) (by decide) (by decide) ?_
      rw [if_pos c] at K
      exact K
    · refine g_ifN X0 hx 77 rfl (hb hby d4_74) (XT.i0_eq_f c) ?_
      rw [if_neg c] at K
      refine g_iload_n X0 hx 78 rfl (hb hby d4_77) rfl ?_
      refine g_bipush X0 hx 80 rfl (35 : Int32) rfl (hb hby d4_78) ?_
      refine g_ixor X0 hx 81 rfl (hb hby d4_80) ?_
      refine g_istore_n X0 hx 82 rfl (hb hby d4_81) #[.val (.int p1), .val (.int p2), .val (.int i), .val (.int (r ^^^ (35 : Int32)))] rfl ?_
      exact K
  have seg6 : ∀ (P : State → Outcome → Prop) (i : Int32) (r : Int32), Goes p e below (s₁.setTop (mkF m 94 #[.val (.int p1), .val (.int p2), .val (.int i), .val (.int (own_b i (64 : Int32) (70 : Int32) r))] [])) P → Goes p e below (s₁.setTop (mkF m 82 #[.val (.int p1), .val (.int p2), .val (.int i), .val (.int r)] [])) P := by
    intro P i r  K
    unfold own_b at K
    refine g_iload_n X0 hx 83 rfl (hb hby d4_82) rfl ?_
    refine g_bipush X0 hx 85 rfl (64 : Int32) rfl (hb hby d4_83) ?_
    refine g_iand X0 hx 86 rfl (hb hby d4_85) ?_
    by_cases c : (i &&& (64 : Int32)) = 0
    · refine g_ifY X0 hx 94 (hb hby d4_86) (XT.i0_eq_t c) (by decide) (by decide) ?_
      rw [if_pos c] at K
      exact K
    · refine g_ifN X0 hx 89 rfl (hb hby d4_86) (XT.i0_eq_f c) ?_
      rw [if_neg c] at K
      refine g_iload_n X0 hx 90 rfl (hb hby d4_89) rfl ?_
      refine g_bipush X0 hx 92 rfl (70 : Int32) rfl (hb hby d4_90) ?_
      refine g_ixor X0 hx 93 rfl (hb hby d4_92) ?_
      refine g_istore_n X0 hx 94 rfl (hb hby d4_93) #[.val (.int p1), .val (.int p2), .val (.int i), .val (.int (r ^^^ (70 : Int32)))] rfl ?_
      exact K
  have seg7 : ∀ (P : State → Outcome → Prop) (i : Int32) (r : Int32), Goes p e below (s₁.setTop (mkF m 108 #[.val (.int p1), .val (.int p2), .val (.int i), .val (.int (own_b i (128 : Int32) (140 : Int32) r))] [])) P → Goes p e below (s₁.setTop (mkF m 94 #[.val (.int p1), .val (.int p2), .val (.int i), .val (.int r)] [])) P := by
    intro P i r  K
    unfold own_b at K
    refine g_iload_n X0 hx 95 rfl (hb hby d4_94) rfl ?_
    refine g_sipush X0 hx 98 rfl (128 : Int32) rfl (hb hby d4_95) ?_
    refine g_iand X0 hx 99 rfl (hb hby d4_98) ?_
    by_cases c : (i &&& (128 : Int32)) = 0
    · refine g_ifY X0 hx 108 (hb hby d4_99) (XT.i0_eq_t c) (by decide) (by decide) ?_
      rw [if_pos c] at K
      exact K
    · refine g_ifN X0 hx 102 rfl (hb hby d4_99) (XT.i0_eq_f c) ?_
      rw [if_neg c] at K
      refine g_iload_n X0 hx 103 rfl (hb hby d4_102) rfl ?_
      refine g_sipush X0 hx 106 rfl (140 : Int32) rfl (hb hby d4_103) ?_
      refine g_ixor X0 hx 107 rfl (hb hby d4_106) ?_
      refine g_istore_n X0 hx 108 rfl (hb hby d4_107) #[.val (.int p1), .val (.int p2), .val (.int i), .val (.int (r ^^^ (140 : Int32)))] rfl ?_
      exact K
  refine g_iload_n X0 hx 1 rfl (hb hby d4_0) rfl ?_
  refine g_iload_n X0 hx 2 rfl (hb hby d4_1) rfl ?_
  refine g_ixor X0 hx 3 rfl (hb hby d4_2) ?_
  refine g_sipush X0 hx 6 rfl (255 : Int32) rfl (hb hby d4_3) ?_
  refine g_iand X0 hx 7 rfl (hb hby d4_6) ?_
  refine g_istore_n X0 hx 8 rfl (hb hby d4_7) #[.val (.int p1), .val (.int p2), .val (.int ((p1 ^^^ p2) &&& (255 : Int32))), .unset] rfl ?_
  refine g_iconst X0 hx 9 rfl (0 : Int32) rfl (hb hby d4_8) ?_
  refine g_istore_n X0 hx 10 rfl (hb hby d4_9) #[.val (.int p1), .val (.int p2), .val (.int ((p1 ^^^ p2) &&& (255 : Int32))), .val (.int (0 : Int32))] rfl ?_
  refine seg0 _ ((p1 ^^^ p2) &&& (255 : Int32)) (0 : Int32) ?_
  refine seg1 _ ((p1 ^^^ p2) &&& (255 : Int32)) (own_b ((p1 ^^^ p2) &&& (255 : Int32)) (1 : Int32) (94 : Int32) (0 : Int32)) ?_
  refine seg2 _ ((p1 ^^^ p2) &&& (255 : Int32)) (own_b ((p1 ^^^ p2) &&& (255 : Int32)) (2 : Int32) (188 : Int32) (own_b ((p1 ^^^ p2) &&& (255 : Int32)) (1 : Int32) (94 : Int32) (0 : Int32))) ?_
  refine seg3 _ ((p1 ^^^ p2) &&& (255 : Int32)) (own_b ((p1 ^^^ p2) &&& (255 : Int32)) (4 : Int32) (97 : Int32) (own_b ((p1 ^^^ p2) &&& (255 : Int32)) (2 : Int32) (188 : Int32) (own_b ((p1 ^^^ p2) &&& (255 : Int32)) (1 : Int32) (94 : Int32) (0 : Int32)))) ?_
  refine seg4 _ ((p1 ^^^ p2) &&& (255 : Int32)) (own_b ((p1 ^^^ p2) &&& (255 : Int32)) (8 : Int32) (194 : Int32) (own_b ((p1 ^^^ p2) &&& (255 : Int32)) (4 : Int32) (97 : Int32) (own_b ((p1 ^^^ p2) &&& (255 : Int32)) (2 : Int32) (188 : Int32) (own_b ((p1 ^^^ p2) &&& (255 : Int32)) (1 : Int32) (94 : Int32) (0 : Int32))))) ?_
  refine seg5 _ ((p1 ^^^ p2) &&& (255 : Int32)) (own_b ((p1 ^^^ p2) &&& (255 : Int32)) (16 : Int32) (157 : Int32) (own_b ((p1 ^^^ p2) &&& (255 : Int32)) (8 : Int32) (194 : Int32) (own_b ((p1 ^^^ p2) &&& (255 : Int32)) (4 : Int32) (97 : Int32) (own_b ((p1 ^^^ p2) &&& (255 : Int32)) (2 : Int32) (188 : Int32) (own_b ((p1 ^^^ p2) &&& (255 : Int32)) (1 : Int32) (94 : Int32) (0 : Int32)))))) ?_
  refine seg6 _ ((p1 ^^^ p2) &&& (255 : Int32)) (own_b ((p1 ^^^ p2) &&& (255 : Int32)) (32 : Int32) (35 : Int32) (own_b ((p1 ^^^ p2) &&& (255 : Int32)) (16 : Int32) (157 : Int32) (own_b ((p1 ^^^ p2) &&& (255 : Int32)) (8 : Int32) (194 : Int32) (own_b ((p1 ^^^ p2) &&& (255 : Int32)) (4 : Int32) (97 : Int32) (own_b ((p1 ^^^ p2) &&& (255 : Int32)) (2 : Int32) (188 : Int32) (own_b ((p1 ^^^ p2) &&& (255 : Int32)) (1 : Int32) (94 : Int32) (0 : Int32))))))) ?_
  refine seg7 _ ((p1 ^^^ p2) &&& (255 : Int32)) (own_b ((p1 ^^^ p2) &&& (255 : Int32)) (64 : Int32) (70 : Int32) (own_b ((p1 ^^^ p2) &&& (255 : Int32)) (32 : Int32) (35 : Int32) (own_b ((p1 ^^^ p2) &&& (255 : Int32)) (16 : Int32) (157 : Int32) (own_b ((p1 ^^^ p2) &&& (255 : Int32)) (8 : Int32) (194 : Int32) (own_b ((p1 ^^^ p2) &&& (255 : Int32)) (4 : Int32) (97 : Int32) (own_b ((p1 ^^^ p2) &&& (255 : Int32)) (2 : Int32) (188 : Int32) (own_b ((p1 ^^^ p2) &&& (255 : Int32)) (1 : Int32) (94 : Int32) (0 : Int32)))))))) ?_
  refine g_iload_n X0 hx 109 rfl (hb hby d4_108) rfl ?_
  exact g_retI X0 hx hret hlk (hb hby d4_109) ⟨rfl, N0, e0⟩ (by decide) (by decide)
theorem d6_0 : decode prog_78_method_6_code 0 = .ok (.iload_n 0, 1) := by decide +kernel
theorem d6_1 : decode prog_78_method_6_code 1 = .ok (.iload_n 1, 1) := by decide +kernel
theorem d6_2 : decode prog_78_method_6_code 2 = .ok (.ixor, 1) := by decide +kernel
theorem d6_3 : decode prog_78_method_6_code 3 = .ok (.istore_n 2, 1) := by decide +kernel
theorem d6_4 : decode prog_78_method_6_code 4 = .ok (.iconst 0, 1) := by decide +kernel
theorem d6_5 : decode prog_78_method_6_code 5 = .ok (.istore_n 3, 1) := by decide +kernel
theorem d6_6 : decode prog_78_method_6_code 6 = .ok (.iload_n 3, 1) := by decide +kernel
theorem d6_7 : decode prog_78_method_6_code 7 = .ok (.bipush 8, 2) := by decide +kernel
theorem d6_9 : decode prog_78_method_6_code 9 = .ok (.if_icmp .ge 29, 3) := by decide +kernel
theorem d6_12 : decode prog_78_method_6_code 12 = .ok (.iload_n 2, 1) := by decide +kernel
theorem d6_13 : decode prog_78_method_6_code 13 = .ok (.iconst 1, 1) := by decide +kernel
theorem d6_14 : decode prog_78_method_6_code 14 = .ok (.iand, 1) := by decide +kernel
theorem d6_15 : decode prog_78_method_6_code 15 = .ok (.ifCond .eq 13, 3) := by decide +kernel
theorem d6_18 : decode prog_78_method_6_code 18 = .ok (.iload_n 2, 1) := by decide +kernel
theorem d6_19 : decode prog_78_method_6_code 19 = .ok (.iconst 1, 1) := by decide +kernel
theorem d6_20 : decode prog_78_method_6_code 20 = .ok (.iushr, 1) := by decide +kernel
theorem d6_21 : decode prog_78_method_6_code 21 = .ok (.sipush 140, 3) := by decide +kernel
theorem d6_24 : decode prog_78_method_6_code 24 = .ok (.ixor, 1) := by decide +kernel
theorem d6_25 : decode prog_78_method_6_code 25 = .ok (.goto 6, 3) := by decide +kernel
theorem d6_28 : decode prog_78_method_6_code 28 = .ok (.iload_n 2, 1) := by decide +kernel
theorem d6_29 : decode prog_78_method_6_code 29 = .ok (.iconst 1, 1) := by decide +kernel
theorem d6_30 : decode prog_78_method_6_code 30 = .ok (.iushr, 1) := by decide +kernel
theorem d6_31 : decode prog_78_method_6_code 31 = .ok (.istore_n 2, 1) := by decide +kernel
theorem d6_32 : decode prog_78_method_6_code 32 = .ok (.iinc 3 1, 3) := by decide +kernel
theorem d6_35 : decode prog_78_method_6_code 35 = .ok (.goto (-29), 3) := by decide +kernel
theorem d6_38 : decode prog_78_method_6_code 38 = .ok (.iload_n 2, 1) := by decide +kernel
theorem d6_39 : decode prog_78_method_6_code 39 = .ok (.ireturn, 1) := by decide +kernel
theorem ef_6_rmU (m : MethodId) (p1 : Int32) (p2 : Int32)  : entryFrame m #[(.int p1), (.int p2)] 4 = mkF m 0 #[.val (.int p1), .val (.int p2), .unset, .unset] [] := by first | (simp [entryFrame, mkF, argsToLocals, Value.category, maxLocals]; done) | rfl
def Q_rmU (Z : State) (p1 : Int32) (p2 : Int32) (h0 : Heap) (n0 : Nat) (v : Option Value) (h : Heap) (L : List Loc) : Prop := v = some (.int (own_upd p1 p2)) ∧ Fr n0 L ∧ h = h0
set_option maxRecDepth 65536 in
set_option maxHeartbeats 40000000 in
theorem rmU (l : Launch) (Z : State) (a0 : Array Value) (hw : ∀ d ∈ tables_1, d.before a0 Z = true) (ws : List Jvm.Cond) (p1 : Int32) (p2 : Int32) (h0 : Heap) (n0 : Nat) (Z0 : n0 ≤ h0.size)  :
    OwnMet l Z (⟨"com/example/abalone/abalone/token/RegistrationNumber", "update", "(II)I"⟩ : MethodName) prog_78_method_6_code 4 (some .int) ws ({ frames := 0, cells := 0, slots := 0, locals := 0 } : Room) #[(.int p1), (.int p2)] h0 (Q_rmU Z p1 p2 h0 n0) := by
  refine own_body (plainFor_of_name pn_1) ?_
  intro p e s m below meth c s₁ hx hby hml hown hnm hret hlk hZ X0 e0
  have N0 := Fr.nil n0
  refine own_cast (ef_6_rmU m p1 p2 ) ?_
  have turn : ∀ (P : State → Outcome → Prop) (x : Int32) (i : Int32) (i' : Int32), i < (8 : Int32) → i + Int32.ofInt 1 = i' → Goes p e below (s₁.setTop (mkF m 6 #[.val (.int p1), .val (.int p2), .val (.int (own_f x)), .val (.int i')] [])) P → Goes p e below (s₁.setTop (mkF m 6 #[.val (.int p1), .val (.int p2), .val (.int x), .val (.int i)] [])) P := by
    intro P x i i' hi hi' K
    unfold own_f at K
    refine g_iload_n X0 hx 7 rfl (hb hby d6_6) rfl ?_
    refine g_bipush X0 hx 9 rfl (8 : Int32) rfl (hb hby d6_7) ?_
    refine g_icmpN X0 hx 12 rfl (hb hby d6_9) (XT.ii_ge_f hi) ?_
    refine g_iload_n X0 hx 13 rfl (hb hby d6_12) rfl ?_
    refine g_iconst X0 hx 14 rfl (1 : Int32) rfl (hb hby d6_13) ?_
    refine g_iand X0 hx 15 rfl (hb hby d6_14) ?_
    by_cases c : (x &&& (1 : Int32)) = 0
    · refine g_ifY X0 hx 28 (hb hby d6_15) (XT.i0_eq_t c) (by decide) (by decide) ?_
      rw [if_pos c] at K
      refine g_iload_n X0 hx 29 rfl (hb hby d6_28) rfl ?_
      refine g_iconst X0 hx 30 rfl (1 : Int32) rfl (hb hby d6_29) ?_
      refine g_iushr X0 hx 31 rfl (hb hby d6_30) ?_
      refine g_istore_n X0 hx 32 rfl (hb hby d6_31) #[.val (.int p1), .val (.int p2), .val (.int (XT.ushr x (1 : Int32))), .val (.int i)] rfl ?_
      refine g_iinc X0 hx 35 rfl (hb hby d6_32) i' hi' rfl #[.val (.int p1), .val (.int p2), .val (.int (XT.ushr x (1 : Int32))), .val (.int i')] rfl ?_
      refine g_goto X0 hx 6 (hb hby d6_35) (by decide) (by decide) ?_
      exact K
    · refine g_ifN X0 hx 18 rfl (hb hby d6_15) (XT.i0_eq_f c) ?_
      rw [if_neg c] at K
      refine g_iload_n X0 hx 19 rfl (hb hby d6_18) rfl ?_
      refine g_iconst X0 hx 20 rfl (1 : Int32) rfl (hb hby d6_19) ?_
      refine g_iushr X0 hx 21 rfl (hb hby d6_20) ?_
      refine g_sipush X0 hx 24 rfl (140 : Int32) rfl (hb hby d6_21) ?_
      refine g_ixor X0 hx 25 rfl (hb hby d6_24) ?_
      refine g_goto X0 hx 31 (hb hby d6_25) (by decide) (by decide) ?_
      refine g_istore_n X0 hx 32 rfl (hb hby d6_31) #[.val (.int p1), .val (.int p2), .val (.int ((XT.ushr x (1 : Int32)) ^^^ (140 : Int32))), .val (.int i)] rfl ?_
      refine g_iinc X0 hx 35 rfl (hb hby d6_32) i' hi' rfl #[.val (.int p1), .val (.int p2), .val (.int ((XT.ushr x (1 : Int32)) ^^^ (140 : Int32))), .val (.int i')] rfl ?_
      refine g_goto X0 hx 6 (hb hby d6_35) (by decide) (by decide) ?_
      exact K
  refine g_iload_n X0 hx 1 rfl (hb hby d6_0) rfl ?_
  refine g_iload_n X0 hx 2 rfl (hb hby d6_1) rfl ?_
  refine g_ixor X0 hx 3 rfl (hb hby d6_2) ?_
  refine g_istore_n X0 hx 4 rfl (hb hby d6_3) #[.val (.int p1), .val (.int p2), .val (.int (p1 ^^^ p2)), .unset] rfl ?_
  refine g_iconst X0 hx 5 rfl (0 : Int32) rfl (hb hby d6_4) ?_
  refine g_istore_n X0 hx 6 rfl (hb hby d6_5) #[.val (.int p1), .val (.int p2), .val (.int (p1 ^^^ p2)), .val (.int (0 : Int32))] rfl ?_
  refine turn _ (p1 ^^^ p2) (0 : Int32) (1 : Int32) (by decide) rfl ?_
  refine turn _ (own_f (p1 ^^^ p2)) (1 : Int32) (2 : Int32) (by decide) rfl ?_
  refine turn _ (own_f (own_f (p1 ^^^ p2))) (2 : Int32) (3 : Int32) (by decide) rfl ?_
  refine turn _ (own_f (own_f (own_f (p1 ^^^ p2)))) (3 : Int32) (4 : Int32) (by decide) rfl ?_
  refine turn _ (own_f (own_f (own_f (own_f (p1 ^^^ p2))))) (4 : Int32) (5 : Int32) (by decide) rfl ?_
  refine turn _ (own_f (own_f (own_f (own_f (own_f (p1 ^^^ p2)))))) (5 : Int32) (6 : Int32) (by decide) rfl ?_
  refine turn _ (own_f (own_f (own_f (own_f (own_f (own_f (p1 ^^^ p2))))))) (6 : Int32) (7 : Int32) (by decide) rfl ?_
  refine turn _ (own_f (own_f (own_f (own_f (own_f (own_f (own_f (p1 ^^^ p2)))))))) (7 : Int32) (8 : Int32) (by decide) rfl ?_
  refine g_iload_n X0 hx 7 rfl (hb hby d6_6) rfl ?_
  refine g_bipush X0 hx 9 rfl (8 : Int32) rfl (hb hby d6_7) ?_
  refine g_icmpY X0 hx 38 (hb hby d6_9) (XT.ii_ge_t (by decide)) (by decide) (by decide) ?_
  refine g_iload_n X0 hx 39 rfl (hb hby d6_38) rfl ?_
  exact g_retI X0 hx hret hlk (hb hby d6_39) ⟨rfl, N0, e0⟩ (by decide) (by decide)
theorem d5_0 : decode prog_78_method_3_code 0 = .ok (.iconst 0, 1) := by decide +kernel
theorem d5_1 : decode prog_78_method_3_code 1 = .ok (.aload_n 0, 1) := by decide +kernel
theorem d5_2 : decode prog_78_method_3_code 2 = .ok (.getfield 39, 3) := by decide +kernel
theorem d5_5 : decode prog_78_method_3_code 5 = .ok (.invokestatic 58, 3) := by decide +kernel
theorem d5_8 : decode prog_78_method_3_code 8 = .ok (.istore_n 1, 1) := by decide +kernel
theorem d5_9 : decode prog_78_method_3_code 9 = .ok (.iconst 0, 1) := by decide +kernel
theorem d5_10 : decode prog_78_method_3_code 10 = .ok (.istore_n 2, 1) := by decide +kernel
theorem d5_11 : decode prog_78_method_3_code 11 = .ok (.iload_n 2, 1) := by decide +kernel
theorem d5_12 : decode prog_78_method_3_code 12 = .ok (.bipush 6, 2) := by decide +kernel
theorem d5_14 : decode prog_78_method_3_code 14 = .ok (.if_icmp .ge 28, 3) := by decide +kernel
theorem d5_17 : decode prog_78_method_3_code 17 = .ok (.iload_n 1, 1) := by decide +kernel
theorem d5_18 : decode prog_78_method_3_code 18 = .ok (.aload_n 0, 1) := by decide +kernel
theorem d5_19 : decode prog_78_method_3_code 19 = .ok (.getfield 43, 3) := by decide +kernel
theorem d5_22 : decode prog_78_method_3_code 22 = .ok (.bipush 8, 2) := by decide +kernel
theorem d5_24 : decode prog_78_method_3_code 24 = .ok (.iload_n 2, 1) := by decide +kernel
theorem d5_25 : decode prog_78_method_3_code 25 = .ok (.imul, 1) := by decide +kernel
theorem d5_26 : decode prog_78_method_3_code 26 = .ok (.lushr, 1) := by decide +kernel
theorem d5_27 : decode prog_78_method_3_code 27 = .ok (.l2i, 1) := by decide +kernel
theorem d5_28 : decode prog_78_method_3_code 28 = .ok (.sipush 255, 3) := by decide +kernel
theorem d5_31 : decode prog_78_method_3_code 31 = .ok (.iand, 1) := by decide +kernel
theorem d5_32 : decode prog_78_method_3_code 32 = .ok (.invokestatic 58, 3) := by decide +kernel
theorem d5_35 : decode prog_78_method_3_code 35 = .ok (.istore_n 1, 1) := by decide +kernel
theorem d5_36 : decode prog_78_method_3_code 36 = .ok (.iinc 2 1, 3) := by decide +kernel
theorem d5_39 : decode prog_78_method_3_code 39 = .ok (.goto (-28), 3) := by decide +kernel
theorem d5_42 : decode prog_78_method_3_code 42 = .ok (.iload_n 1, 1) := by decide +kernel
theorem d5_43 : decode prog_78_method_3_code 43 = .ok (.ireturn, 1) := by decide +kernel
theorem pd_1 : parseMethodDescriptor "(II)I" = some ⟨[.int, .int], some .int⟩ := by decide +kernel
theorem ef_5_rmC (m : MethodId) (a1 : Addr) (p2 : Int32) (q3 : Int64)  : entryFrame m #[(.ref a1)] 3 = mkF m 0 #[.val (.ref a1), .unset, .unset] [] := by first | (simp [entryFrame, mkF, argsToLocals, Value.category, maxLocals]; done) | rfl
def Q_rmC (Z : State) (a1 : Addr) (p2 : Int32) (q3 : Int64) (h0 : Heap) (n0 : Nat) (v : Option Value) (h : Heap) (L : List Loc) : Prop := v = some (.int (own_crc p2 q3)) ∧ Fr n0 L ∧ h = h0
set_option maxRecDepth 65536 in
set_option maxHeartbeats 40000000 in
theorem rmC (l : Launch) (Z : State) (a0 : Array Value) (hw : ∀ d ∈ tables_1, d.before a0 Z = true) (ws : List Jvm.Cond) (a1 : Addr) (p2 : Int32) (q3 : Int64) (h0 : Heap) (n0 : Nat) (Z0 : n0 ≤ h0.size) (F1 : Fld Z h0 a1 "com/example/abalone/abalone/token/RegistrationNumber" "familyCode" "I" (.int p2)) (F2 : Fld Z h0 a1 "com/example/abalone/abalone/token/RegistrationNumber" "serial" "J" (.long q3)) :
    OwnMet l Z (⟨"com/example/abalone/abalone/token/RegistrationNumber", "crc", "()I"⟩ : MethodName) prog_78_method_3_code 3 (some .int) ws ({ frames := 1, cells := 0, slots := 0, locals := 15 } : Room) #[(.ref a1)] h0 (Q_rmC Z a1 p2 q3 h0 n0) := by
  refine own_body (plainFor_of_name pn_1) ?_
  intro p e s m below meth c s₁ hx hby hml hown hnm hret hlk hZ X0 e0
  have N0 := Fr.nil n0
  refine own_cast (ef_5_rmC m a1 p2 q3 ) ?_
  refine g_iconst X0 hx 1 rfl (0 : Int32) rfl (hb hby d5_0) ?_
  refine g_aload_n X0 hx 2 rfl (hb hby d5_1) rfl rfl ?_
  refine g_getF X0 hx hZ 5 rfl hown (hw _ (List.mem_of_getElem? (i := 16) rfl)) e0 F1 (hb hby d5_2) ?_
  intro T1 X1 e1
  refine g_callS X1 hx hZ 8 rfl (y := (⟨"com/example/abalone/abalone/token/RegistrationNumber", "update", "(II)I"⟩ : MethodName)) hown (hw _ (List.mem_of_getElem? (i := 29) rfl)) (hw _ (List.mem_of_getElem? (i := 30) rfl)) (hw _ (List.mem_of_getElem? (i := 3) rfl)) (hw _ (List.mem_of_getElem? (i := 31) rfl)) (by decide) [.int (0 : Int32), .int p2] [] (rmU l Z a0 hw [] (0 : Int32) p2 h0 n0 Z0 ) e1 (lenOf pd_1 rfl) rfl (by rw [hml]; rfl) (hb hby d5_5) (by decide) 0 (Nat.le_of_eq rfl) (by decide) (by decide) (by decide) ?_
  rintro _ T2 L2 X2 ⟨rfl, N2q, e2⟩
  have N2 := Fr.app N0 N2q
  show Goes p e below (T2.setTop (mkF m 8 #[.val (.ref a1), .unset, .unset] [.int (own_upd (0 : Int32) p2)])) _
  refine g_istore_n X2 hx 9 rfl (hb hby d5_8) #[.val (.ref a1), .val (.int (own_upd (0 : Int32) p2)), .unset] rfl ?_
  refine g_iconst X2 hx 10 rfl (0 : Int32) rfl (hb hby d5_9) ?_
  refine g_istore_n X2 hx 11 rfl (hb hby d5_10) #[.val (.ref a1), .val (.int (own_upd (0 : Int32) p2)), .val (.int (0 : Int32))] rfl ?_
  refine g_iload_n X2 hx 12 rfl (hb hby d5_11) rfl ?_
  refine g_bipush X2 hx 14 rfl (6 : Int32) rfl (hb hby d5_12) ?_
  refine g_icmpN X2 hx 17 rfl (hb hby d5_14) (XT.ii_ge_f (by decide)) ?_
  refine g_iload_n X2 hx 18 rfl (hb hby d5_17) rfl ?_
  refine g_aload_n X2 hx 19 rfl (hb hby d5_18) rfl rfl ?_
  refine g_getF X2 hx hZ 22 rfl hown (hw _ (List.mem_of_getElem? (i := 18) rfl)) e2 F2 (hb hby d5_19) ?_
  intro T3 X3 e3
  refine g_bipush X3 hx 24 rfl (8 : Int32) rfl (hb hby d5_22) ?_
  refine g_iload_n X3 hx 25 rfl (hb hby d5_24) rfl ?_
  refine g_imul X3 hx 26 rfl (hb hby d5_25) ?_
  show Goes p e below (T3.setTop (mkF m 26 #[.val (.ref a1), .val (.int (own_upd (0 : Int32) p2)), .val (.int (0 : Int32))] [.int (0 : Int32), .long q3, .int (own_upd (0 : Int32) p2)])) _
  refine g_lushr X3 hx 27 rfl (hb hby d5_26) ?_
  refine g_l2i X3 hx 28 rfl (hb hby d5_27) ?_
  refine g_sipush X3 hx 31 rfl (255 : Int32) rfl (hb hby d5_28) ?_
  refine g_iand X3 hx 32 rfl (hb hby d5_31) ?_
  refine g_callS X3 hx hZ 35 rfl (y := (⟨"com/example/abalone/abalone/token/RegistrationNumber", "update", "(II)I"⟩ : MethodName)) hown (hw _ (List.mem_of_getElem? (i := 29) rfl)) (hw _ (List.mem_of_getElem? (i := 30) rfl)) (hw _ (List.mem_of_getElem? (i := 3) rfl)) (hw _ (List.mem_of_getElem? (i := 31) rfl)) (by decide) [.int (own_upd (0 : Int32) p2), .int (((XT.ushrL q3 (0 : Int32)).toInt32) &&& (255 : Int32))] [] (rmU l Z a0 hw [] (own_upd (0 : Int32) p2) (((XT.ushrL q3 (0 : Int32)).toInt32) &&& (255 : Int32)) h0 n0 Z0 ) e3 (lenOf pd_1 rfl) rfl (by rw [hml]; rfl) (hb hby d5_32) (by decide) 0 (Nat.le_of_eq rfl) (by decide) (by decide) (by decide) ?_
  rintro _ T4 L4 X4 ⟨rfl, N4q, e4⟩
  have N4 := Fr.app N2 N4q
  show Goes p e below (T4.setTop (mkF m 35 #[.val (.ref a1), .val (.int (own_upd (0 : Int32) p2)), .val (.int (0 : Int32))] [.int (own_upd (own_upd (0 : Int32) p2) (((XT.ushrL q3 (0 : Int32)).toInt32) &&& (255 : Int32)))])) _
  refine g_istore_n X4 hx 36 rfl (hb hby d5_35) #[.val (.ref a1), .val (.int (own_upd (own_upd (0 : Int32) p2) (((XT.ushrL q3 (0 : Int32)).toInt32) &&& (255 : Int32)))), .val (.int (0 : Int32))] rfl ?_
  refine g_iinc X4 hx 39 rfl (hb hby d5_36) (1 : Int32) rfl rfl #[.val (.ref a1), .val (.int (own_upd (own_upd (0 : Int32) p2) (((XT.ushrL q3 (0 : Int32)).toInt32) &&& (255 : Int32)))), .val (.int (1 : Int32))] rfl ?_
  refine g_goto X4 hx 11 (hb hby d5_39) (by decide) (by decide) ?_
  refine g_iload_n X4 hx 12 rfl (hb hby d5_11) rfl ?_
  refine g_bipush X4 hx 14 rfl (6 : Int32) rfl (hb hby d5_12) ?_
  refine g_icmpN X4 hx 17 rfl (hb hby d5_14) (XT.ii_ge_f (by decide)) ?_
  refine g_iload_n X4 hx 18 rfl (hb hby d5_17) rfl ?_
  refine g_aload_n X4 hx 19 rfl (hb hby d5_18) rfl rfl ?_
  refine g_getF X4 hx hZ 22 rfl hown (hw _ (List.mem_of_getElem? (i := 18) rfl)) e4 F2 (hb hby d5_19) ?_
  intro T5 X5 e5
  refine g_bipush X5 hx 24 rfl (8 : Int32) rfl (hb hby d5_22) ?_
  refine g_iload_n X5 hx 25 rfl (hb hby d5_24) rfl ?_
  refine g_imul X5 hx 26 rfl (hb hby d5_25) ?_
  show Goes p e below (T5.setTop (mkF m 26 #[.val (.ref a1), .val (.int (own_upd (own_upd (0 : Int32) p2) (((XT.ushrL q3 (0 : Int32)).toInt32) &&& (255 : Int32)))), .val (.int (1 : Int32))] [.int (8 : Int32), .long q3, .int (own_upd (own_upd (0 : Int32) p2) (((XT.ushrL q3 (0 : Int32)).toInt32) &&& (255 : Int32)))])) _
  refine g_lushr X5 hx 27 rfl (hb hby d5_26) ?_
  refine g_l2i X5 hx 28 rfl (hb hby d5_27) ?_
  refine g_sipush X5 hx 31 rfl (255 : Int32) rfl (hb hby d5_28) ?_
  refine g_iand X5 hx 32 rfl (hb hby d5_31) ?_
  refine g_callS X5 hx hZ 35 rfl (y := (⟨"com/example/abalone/abalone/token/RegistrationNumber", "update", "(II)I"⟩ : MethodName)) hown (hw _ (List.mem_of_getElem? (i := 29) rfl)) (hw _ (List.mem_of_getElem? (i := 30) rfl)) (hw _ (List.mem_of_getElem? (i := 3) rfl)) (hw _ (List.mem_of_getElem? (i := 31) rfl)) (by decide) [.int (own_upd (own_upd (0 : Int32) p2) (((XT.ushrL q3 (0 : Int32)).toInt32) &&& (255 : Int32))), .int (((XT.ushrL q3 (8 : Int32)).toInt32) &&& (255 : Int32))] [] (rmU l Z a0 hw [] (own_upd (own_upd (0 : Int32) p2) (((XT.ushrL q3 (0 : Int32)).toInt32) &&& (255 : Int32))) (((XT.ushrL q3 (8 : Int32)).toInt32) &&& (255 : Int32)) h0 n0 Z0 ) e5 (lenOf pd_1 rfl) rfl (by rw [hml]; rfl) (hb hby d5_32) (by decide) 0 (Nat.le_of_eq rfl) (by decide) (by decide) (by decide) ?_
  rintro _ T6 L6 X6 ⟨rfl, N6q, e6⟩
  have N6 := Fr.app N4 N6q
  show Goes p e below (T6.setTop (mkF m 35 #[.val (.ref a1), .val (.int (own_upd (own_upd (0 : Int32) p2) (((XT.ushrL q3 (0 : Int32)).toInt32) &&& (255 : Int32)))), .val (.int (1 : Int32))] [.int (own_upd (own_upd (own_upd (0 : Int32) p2) (((XT.ushrL q3 (0 : Int32)).toInt32) &&& (255 : Int32))) (((XT.ushrL q3 (8 : Int32)).toInt32) &&& (255 : Int32)))])) _
  refine g_istore_n X6 hx 36 rfl (hb hby d5_35) #[.val (.ref a1), .val (.int (own_upd (own_upd (own_upd (0 : Int32) p2) (((XT.ushrL q3 (0 : Int32)).toInt32) &&& (255 : Int32))) (((XT.ushrL q3 (8 : Int32)).toInt32) &&& (255 : Int32)))), .val (.int (1 : Int32))] rfl ?_
  refine g_iinc X6 hx 39 rfl (hb hby d5_36) (2 : Int32) rfl rfl #[.val (.ref a1), .val (.int (own_upd (own_upd (own_upd (0 : Int32) p2) (((XT.ushrL q3 (0 : Int32)).toInt32) &&& (255 : Int32))) (((XT.ushrL q3 (8 : Int32)).toInt32) &&& (255 : Int32)))), .val (.int (2 : Int32))] rfl ?_
  refine g_goto X6 hx 11 (hb hby d5_39) (by decide) (by decide) ?_
  refine g_iload_n X6 hx 12 rfl (hb hby d5_11) rfl ?_
  refine g_bipush X6 hx 14 rfl (6 : Int32) rfl (hb hby d5_12) ?_
  refine g_icmpN X6 hx 17 rfl (hb hby d5_14) (XT.ii_ge_f (by decide)) ?_
  refine g_iload_n X6 hx 18 rfl (hb hby d5_17) rfl ?_
  refine g_aload_n X6 hx 19 rfl (hb hby d5_18) rfl rfl ?_
  refine g_getF X6 hx hZ 22 rfl hown (hw _ (List.mem_of_getElem? (i := 18) rfl)) e6 F2 (hb hby d5_19) ?_
  intro T7 X7 e7
  refine g_bipush X7 hx 24 rfl (8 : Int32) rfl (hb hby d5_22) ?_
  refine g_iload_n X7 hx 25 rfl (hb hby d5_24) rfl ?_
  refine g_imul X7 hx 26 rfl (hb hby d5_25) ?_
  show Goes p e below (T7.setTop (mkF m 26 #[.val (.ref a1), .val (.int (own_upd (own_upd (own_upd (0 : Int32) p2) (((XT.ushrL q3 (0 : Int32)).toInt32) &&& (255 : Int32))) (((XT.ushrL q3 (8 : Int32)).toInt32) &&& (255 : Int32)))), .val (.int (2 : Int32))] [.int (16 : Int32), .long q3, .int (own_upd (own_upd (own_upd (0 : Int32) p2) (((XT.ushrL q3 (0 : Int32)).toInt32) &&& (255 : Int32))) (((XT.ushrL q3 (8 : Int32)).toInt32) &&& (255 : Int32)))])) _
  refine g_lushr X7 hx 27 rfl (hb hby d5_26) ?_
  refine g_l2i X7 hx 28 rfl (hb hby d5_27) ?_
  refine g_sipush X7 hx 31 rfl (255 : Int32) rfl (hb hby d5_28) ?_
  refine g_iand X7 hx 32 rfl (hb hby d5_31) ?_
  refine g_callS X7 hx hZ 35 rfl (y := (⟨"com/example/abalone/abalone/token/RegistrationNumber", "update", "(II)I"⟩ : MethodName)) hown (hw _ (List.mem_of_getElem? (i := 29) rfl)) (hw _ (List.mem_of_getElem? (i := 30) rfl)) (hw _ (List.mem_of_getElem? (i := 3) rfl)) (hw _ (List.mem_of_getElem? (i := 31) rfl)) (by decide) [.int (own_upd (own_upd (own_upd (0 : Int32) p2) (((XT.ushrL q3 (0 : Int32)).toInt32) &&& (255 : Int32))) (((XT.ushrL q3 (8 : Int32)).toInt32) &&& (255 : Int32))), .int (((XT.ushrL q3 (16 : Int32)).toInt32) &&& (255 : Int32))] [] (rmU l Z a0 hw [] (own_upd (own_upd (own_upd (0 : Int32) p2) (((XT.ushrL q3 (0 : Int32)).toInt32) &&& (255 : Int32))) (((XT.ushrL q3 (8 : Int32)).toInt32) &&& (255 : Int32))) (((XT.ushrL q3 (16 : Int32)).toInt32) &&& (255 : Int32)) h0 n0 Z0 ) e7 (lenOf pd_1 rfl) rfl (by rw [hml]; rfl) (hb hby d5_32) (by decide) 0 (Nat.le_of_eq rfl) (by decide) (by decide) (by decide) ?_
  rintro _ T8 L8 X8 ⟨rfl, N8q, e8⟩
  have N8 := Fr.app N6 N8q
  show Goes p e below (T8.setTop (mkF m 35 #[.val (.ref a1), .val (.int (own_upd (own_upd (own_upd (0 : Int32) p2) (((XT.ushrL q3 (0 : Int32)).toInt32) &&& (255 : Int32))) (((XT.ushrL q3 (8 : Int32)).toInt32) &&& (255 : Int32)))), .val (.int (2 : Int32))] [.int (own_upd (own_upd (own_upd (own_upd (0 : Int32) p2) (((XT.ushrL q3 (0 : Int32)).toInt32) &&& (255 : Int32))) (((XT.ushrL q3 (8 : Int32)).toInt32) &&& (255 : Int32))) (((XT.ushrL q3 (16 : Int32)).toInt32) &&& (255 : Int32)))])) _
  refine g_istore_n X8 hx 36 rfl (hb hby d5_35) #[.val (.ref a1), .val (.int (own_upd (own_upd (own_upd (own_upd (0 : Int32) p2) (((XT.ushrL q3 (0 : Int32)).toInt32) &&& (255 : Int32))) (((XT.ushrL q3 (8 : Int32)).toInt32) &&& (255 : Int32))) (((XT.ushrL q3 (16 : Int32)).toInt32) &&& (255 : Int32)))), .val (.int (2 : Int32))] rfl ?_
  refine g_iinc X8 hx 39 rfl (hb hby d5_36) (3 : Int32) rfl rfl #[.val (.ref a1), .val (.int (own_upd (own_upd (own_upd (own_upd (0 : Int32) p2) (((XT.ushrL q3 (0 : Int32)).toInt32) &&& (255 : Int32))) (((XT.ushrL q3 (8 : Int32)).toInt32) &&& (255 : Int32))) (((XT.ushrL q3 (16 : Int32)).toInt32) &&& (255 : Int32)))), .val (.int (3 : Int32))] rfl ?_
  refine g_goto X8 hx 11 (hb hby d5_39) (by decide) (by decide) ?_
  refine g_iload_n X8 hx 12 rfl (hb hby d5_11) rfl ?_
  refine g_bipush X8 hx 14 rfl (6 : Int32) rfl (hb hby d5_12) ?_
  refine g_icmpN X8 hx 17 rfl (hb hby d5_14) (XT.ii_ge_f (by decide)) ?_
  refine g_iload_n X8 hx 18 rfl (hb hby d5_17) rfl ?_
  refine g_aload_n X8 hx 19 rfl (hb hby d5_18) rfl rfl ?_
  refine g_getF X8 hx hZ 22 rfl hown (hw _ (List.mem_of_getElem? (i := 18) rfl)) e8 F2 (hb hby d5_19) ?_
  intro T9 X9 e9
  refine g_bipush X9 hx 24 rfl (8 : Int32) rfl (hb hby d5_22) ?_
  refine g_iload_n X9 hx 25 rfl (hb hby d5_24) rfl ?_
  refine g_imul X9 hx 26 rfl (hb hby d5_25) ?_
  show Goes p e below (T9.setTop (mkF m 26 #[.val (.ref a1), .val (.int (own_upd (own_upd (own_upd (own_upd (0 : Int32) p2) (((XT.ushrL q3 (0 : Int32)).toInt32) &&& (255 : Int32))) (((XT.ushrL q3 (8 : Int32)).toInt32) &&& (255 : Int32))) (((XT.ushrL q3 (16 : Int32)).toInt32) &&& (255 : Int32)))), .val (.int (3 : Int32))] [.int (24 : Int32), .long q3, .int (own_upd (own_upd (own_upd (own_upd (0 : Int32) p2) (((XT.ushrL q3 (0 : Int32)).toInt32) &&& (255 : Int32))) (((XT.ushrL q3 (8 : Int32)).toInt32) &&& (255 : Int32))) (((XT.ushrL q3 (16 : Int32)).toInt32) &&& (255 : Int32)))])) _
  refine g_lushr X9 hx 27 rfl (hb hby d5_26) ?_
  refine g_l2i X9 hx 28 rfl (hb hby d5_27) ?_
  refine g_sipush X9 hx 31 rfl (255 : Int32) rfl (hb hby d5_28) ?_
  refine g_iand X9 hx 32 rfl (hb hby d5_31) ?_
  refine g_callS X9 hx hZ 35 rfl (y := (⟨"com/example/abalone/abalone/token/RegistrationNumber", "update", "(II)I"⟩ : MethodName)) hown (hw _ (List.mem_of_getElem? (i := 29) rfl)) (hw _ (List.mem_of_getElem? (i := 30) rfl)) (hw _ (List.mem_of_getElem? (i := 3) rfl)) (hw _ (List.mem_of_getElem? (i := 31) rfl)) (by decide) [.int (own_upd (own_upd (own_upd (own_upd (0 : Int32) p2) (((XT.ushrL q3 (0 : Int32)).toInt32) &&& (255 : Int32))) (((XT.ushrL q3 (8 : Int32)).toInt32) &&& (255 : Int32))) (((XT.ushrL q3 (16 : Int32)).toInt32) &&& (255 : Int32))), .int (((XT.ushrL q3 (24 : Int32)).toInt32) &&& (255 : Int32))] [] (rmU l Z a0 hw [] (own_upd (own_upd (own_upd (own_upd (0 : Int32) p2) (((XT.ushrL q3 (0 : Int32)).toInt32) &&& (255 : Int32))) (((XT.ushrL q3 (8 : Int32)).toInt32) &&& (255 : Int32))) (((XT.ushrL q3 (16 : Int32)).toInt32) &&& (255 : Int32))) (((XT.ushrL q3 (24 : Int32)).toInt32) &&& (255 : Int32)) h0 n0 Z0 ) e9 (lenOf pd_1 rfl) rfl (by rw [hml]; rfl) (hb hby d5_32) (by decide) 0 (Nat.le_of_eq rfl) (by decide) (by decide) (by decide) ?_
  rintro _ T10 L10 X10 ⟨rfl, N10q, e10⟩
  have N10 := Fr.app N8 N10q
  show Goes p e below (T10.setTop (mkF m 35 #[.val (.ref a1), .val (.int (own_upd (own_upd (own_upd (own_upd (0 : Int32) p2) (((XT.ushrL q3 (0 : Int32)).toInt32) &&& (255 : Int32))) (((XT.ushrL q3 (8 : Int32)).toInt32) &&& (255 : Int32))) (((XT.ushrL q3 (16 : Int32)).toInt32) &&& (255 : Int32)))), .val (.int (3 : Int32))] [.int (own_upd (own_upd (own_upd (own_upd (own_upd (0 : Int32) p2) (((XT.ushrL q3 (0 : Int32)).toInt32) &&& (255 : Int32))) (((XT.ushrL q3 (8 : Int32)).toInt32) &&& (255 : Int32))) (((XT.ushrL q3 (16 : Int32)).toInt32) &&& (255 : Int32))) (((XT.ushrL q3 (24 : Int32)).toInt32) &&& (255 : Int32)))])) _
  refine g_istore_n X10 hx 36 rfl (hb hby d5_35) #[.val (.ref a1), .val (.int (own_upd (own_upd (own_upd (own_upd (own_upd (0 : Int32) p2) (((XT.ushrL q3 (0 : Int32)).toInt32) &&& (255 : Int32))) (((XT.ushrL q3 (8 : Int32)).toInt32) &&& (255 : Int32))) (((XT.ushrL q3 (16 : Int32)).toInt32) &&& (255 : Int32))) (((XT.ushrL q3 (24 : Int32)).toInt32) &&& (255 : Int32)))), .val (.int (3 : Int32))] rfl ?_
  refine g_iinc X10 hx 39 rfl (hb hby d5_36) (4 : Int32) rfl rfl #[.val (.ref a1), .val (.int (own_upd (own_upd (own_upd (own_upd (own_upd (0 : Int32) p2) (((XT.ushrL q3 (0 : Int32)).toInt32) &&& (255 : Int32))) (((XT.ushrL q3 (8 : Int32)).toInt32) &&& (255 : Int32))) (((XT.ushrL q3 (16 : Int32)).toInt32) &&& (255 : Int32))) (((XT.ushrL q3 (24 : Int32)).toInt32) &&& (255 : Int32)))), .val (.int (4 : Int32))] rfl ?_
  refine g_goto X10 hx 11 (hb hby d5_39) (by decide) (by decide) ?_
  refine g_iload_n X10 hx 12 rfl (hb hby d5_11) rfl ?_
  refine g_bipush X10 hx 14 rfl (6 : Int32) rfl (hb hby d5_12) ?_
  refine g_icmpN X10 hx 17 rfl (hb hby d5_14) (XT.ii_ge_f (by decide)) ?_
  refine g_iload_n X10 hx 18 rfl (hb hby d5_17) rfl ?_
  refine g_aload_n X10 hx 19 rfl (hb hby d5_18) rfl rfl ?_
  refine g_getF X10 hx hZ 22 rfl hown (hw _ (List.mem_of_getElem? (i := 18) rfl)) e10 F2 (hb hby d5_19) ?_
  intro T11 X11 e11
  refine g_bipush X11 hx 24 rfl (8 : Int32) rfl (hb hby d5_22) ?_
  refine g_iload_n X11 hx 25 rfl (hb hby d5_24) rfl ?_
  refine g_imul X11 hx 26 rfl (hb hby d5_25) ?_
  show Goes p e below (T11.setTop (mkF m 26 #[.val (.ref a1), .val (.int (own_upd (own_upd (own_upd (own_upd (own_upd (0 : Int32) p2) (((XT.ushrL q3 (0 : Int32)).toInt32) &&& (255 : Int32))) (((XT.ushrL q3 (8 : Int32)).toInt32) &&& (255 : Int32))) (((XT.ushrL q3 (16 : Int32)).toInt32) &&& (255 : Int32))) (((XT.ushrL q3 (24 : Int32)).toInt32) &&& (255 : Int32)))), .val (.int (4 : Int32))] [.int (32 : Int32), .long q3, .int (own_upd (own_upd (own_upd (own_upd (own_upd (0 : Int32) p2) (((XT.ushrL q3 (0 : Int32)).toInt32) &&& (255 : Int32))) (((XT.ushrL q3 (8 : Int32)).toInt32) &&& (255 : Int32))) (((XT.ushrL q3 (16 : Int32)).toInt32) &&& (255 : Int32))) (((XT.ushrL q3 (24 : Int32)).toInt32) &&& (255 : Int32)))])) _
  refine g_lushr X11 hx 27 rfl (hb hby d5_26) ?_
  refine g_l2i X11 hx 28 rfl (hb hby d5_27) ?_
  refine g_sipush X11 hx 31 rfl (255 : Int32) rfl (hb hby d5_28) ?_
  refine g_iand X11 hx 32 rfl (hb hby d5_31) ?_
  refine g_callS X11 hx hZ 35 rfl (y := (⟨"com/example/abalone/abalone/token/RegistrationNumber", "update", "(II)I"⟩ : MethodName)) hown (hw _ (List.mem_of_getElem? (i := 29) rfl)) (hw _ (List.mem_of_getElem? (i := 30) rfl)) (hw _ (List.mem_of_getElem? (i := 3) rfl)) (hw _ (List.mem_of_getElem? (i := 31) rfl)) (by decide) [.int (own_upd (own_upd (own_upd (own_upd (own_upd (0 : Int32) p2) (((XT.ushrL q3 (0 : Int32)).toInt32) &&& (255 : Int32))) (((XT.ushrL q3 (8 : Int32)).toInt32) &&& (255 : Int32))) (((XT.ushrL q3 (16 : Int32)).toInt32) &&& (255 : Int32))) (((XT.ushrL q3 (24 : Int32)).toInt32) &&& (255 : Int32))), .int (((XT.ushrL q3 (32 : Int32)).toInt32) &&& (255 : Int32))] [] (rmU l Z a0 hw [] (own_upd (own_upd (own_upd (own_upd (own_upd (0 : Int32) p2) (((XT.ushrL q3 (0 : Int32)).toInt32) &&& (255 : Int32))) (((XT.ushrL q3 (8 : Int32)).toInt32) &&& (255 : Int32))) (((XT.ushrL q3 (16 : Int32)).toInt32) &&& (255 : Int32))) (((XT.ushrL q3 (24 : Int32)).toInt32) &&& (255 : Int32))) (((XT.ushrL q3 (32 : Int32)).toInt32) &&& (255 : Int32)) h0 n0 Z0 ) e11 (lenOf pd_1 rfl) rfl (by rw [hml]; rfl) (hb hby d5_32) (by decide) 0 (Nat.le_of_eq rfl) (by decide) (by decide) (by decide) ?_
  rintro _ T12 L12 X12 ⟨rfl, N12q, e12⟩
  have N12 := Fr.app N10 N12q
  show Goes p e below (T12.setTop (mkF m 35 #[.val (.ref a1), .val (.int (own_upd (own_upd (own_upd (own_upd (own_upd (0 : Int32) p2) (((XT.ushrL q3 (0 : Int32)).toInt32) &&& (255 : Int32))) (((XT.ushrL q3 (8 : Int32)).toInt32) &&& (255 : Int32))) (((XT.ushrL q3 (16 : Int32)).toInt32) &&& (255 : Int32))) (((XT.ushrL q3 (24 : Int32)).toInt32) &&& (255 : Int32)))), .val (.int (4 : Int32))] [.int (own_upd (own_upd (own_upd (own_upd (own_upd (own_upd (0 : Int32) p2) (((XT.ushrL q3 (0 : Int32)).toInt32) &&& (255 : Int32))) (((XT.ushrL q3 (8 : Int32)).toInt32) &&& (255 : Int32))) (((XT.ushrL q3 (16 : Int32)).toInt32) &&& (255 : Int32))) (((XT.ushrL q3 (24 : Int32)).toInt32) &&& (255 : Int32))) (((XT.ushrL q3 (32 : Int32)).toInt32) &&& (255 : Int32)))])) _
  refine g_istore_n X12 hx 36 rfl (hb hby d5_35) #[.val (.ref a1), .val (.int (own_upd (own_upd (own_upd (own_upd (own_upd (own_upd (0 : Int32) p2) (((XT.ushrL q3 (0 : Int32)).toInt32) &&& (255 : Int32))) (((XT.ushrL q3 (8 : Int32)).toInt32) &&& (255 : Int32))) (((XT.ushrL q3 (16 : Int32)).toInt32) &&& (255 : Int32))) (((XT.ushrL q3 (24 : Int32)).toInt32) &&& (255 : Int32))) (((XT.ushrL q3 (32 : Int32)).toInt32) &&& (255 : Int32)))), .val (.int (4 : Int32))] rfl ?_
  refine g_iinc X12 hx 39 rfl (hb hby d5_36) (5 : Int32) rfl rfl #[.val (.ref a1), .val (.int (own_upd (own_upd (own_upd (own_upd (own_upd (own_upd (0 : Int32) p2) (((XT.ushrL q3 (0 : Int32)).toInt32) &&& (255 : Int32))) (((XT.ushrL q3 (8 : Int32)).toInt32) &&& (255 : Int32))) (((XT.ushrL q3 (16 : Int32)).toInt32) &&& (255 : Int32))) (((XT.ushrL q3 (24 : Int32)).toInt32) &&& (255 : Int32))) (((XT.ushrL q3 (32 : Int32)).toInt32) &&& (255 : Int32)))), .val (.int (5 : Int32))] rfl ?_
  refine g_goto X12 hx 11 (hb hby d5_39) (by decide) (by decide) ?_
  refine g_iload_n X12 hx 12 rfl (hb hby d5_11) rfl ?_
  refine g_bipush X12 hx 14 rfl (6 : Int32) rfl (hb hby d5_12) ?_
  refine g_icmpN X12 hx 17 rfl (hb hby d5_14) (XT.ii_ge_f (by decide)) ?_
  refine g_iload_n X12 hx 18 rfl (hb hby d5_17) rfl ?_
  refine g_aload_n X12 hx 19 rfl (hb hby d5_18) rfl rfl ?_
  refine g_getF X12 hx hZ 22 rfl hown (hw _ (List.mem_of_getElem? (i := 18) rfl)) e12 F2 (hb hby d5_19) ?_
  intro T13 X13 e13
  refine g_bipush X13 hx 24 rfl (8 : Int32) rfl (hb hby d5_22) ?_
  refine g_iload_n X13 hx 25 rfl (hb hby d5_24) rfl ?_
  refine g_imul X13 hx 26 rfl (hb hby d5_25) ?_
  show Goes p e below (T13.setTop (mkF m 26 #[.val (.ref a1), .val (.int (own_upd (own_upd (own_upd (own_upd (own_upd (own_upd (0 : Int32) p2) (((XT.ushrL q3 (0 : Int32)).toInt32) &&& (255 : Int32))) (((XT.ushrL q3 (8 : Int32)).toInt32) &&& (255 : Int32))) (((XT.ushrL q3 (16 : Int32)).toInt32) &&& (255 : Int32))) (((XT.ushrL q3 (24 : Int32)).toInt32) &&& (255 : Int32))) (((XT.ushrL q3 (32 : Int32)).toInt32) &&& (255 : Int32)))), .val (.int (5 : Int32))] [.int (40 : Int32), .long q3, .int (own_upd (own_upd (own_upd (own_upd (own_upd (own_upd (0 : Int32) p2) (((XT.ushrL q3 (0 : Int32)).toInt32) &&& (255 : Int32))) (((XT.ushrL q3 (8 : Int32)).toInt32) &&& (255 : Int32))) (((XT.ushrL q3 (16 : Int32)).toInt32) &&& (255 : Int32))) (((XT.ushrL q3 (24 : Int32)).toInt32) &&& (255 : Int32))) (((XT.ushrL q3 (32 : Int32)).toInt32) &&& (255 : Int32)))])) _
  refine g_lushr X13 hx 27 rfl (hb hby d5_26) ?_
  refine g_l2i X13 hx 28 rfl (hb hby d5_27) ?_
  refine g_sipush X13 hx 31 rfl (255 : Int32) rfl (hb hby d5_28) ?_
  refine g_iand X13 hx 32 rfl (hb hby d5_31) ?_
  refine g_callS X13 hx hZ 35 rfl (y := (⟨"com/example/abalone/abalone/token/RegistrationNumber", "update", "(II)I"⟩ : MethodName)) hown (hw _ (List.mem_of_getElem? (i := 29) rfl)) (hw _ (List.mem_of_getElem? (i := 30) rfl)) (hw _ (List.mem_of_getElem? (i := 3) rfl)) (hw _ (List.mem_of_getElem? (i := 31) rfl)) (by decide) [.int (own_upd (own_upd (own_upd (own_upd (own_upd (own_upd (0 : Int32) p2) (((XT.ushrL q3 (0 : Int32)).toInt32) &&& (255 : Int32))) (((XT.ushrL q3 (8 : Int32)).toInt32) &&& (255 : Int32))) (((XT.ushrL q3 (16 : Int32)).toInt32) &&& (255 : Int32))) (((XT.ushrL q3 (24 : Int32)).toInt32) &&& (255 : Int32))) (((XT.ushrL q3 (32 : Int32)).toInt32) &&& (255 : Int32))), .int (((XT.ushrL q3 (40 : Int32)).toInt32) &&& (255 : Int32))] [] (rmU l Z a0 hw [] (own_upd (own_upd (own_upd (own_upd (own_upd (own_upd (0 : Int32) p2) (((XT.ushrL q3 (0 : Int32)).toInt32) &&& (255 : Int32))) (((XT.ushrL q3 (8 : Int32)).toInt32) &&& (255 : Int32))) (((XT.ushrL q3 (16 : Int32)).toInt32) &&& (255 : Int32))) (((XT.ushrL q3 (24 : Int32)).toInt32) &&& (255 : Int32))) (((XT.ushrL q3 (32 : Int32)).toInt32) &&& (255 : Int32))) (((XT.ushrL q3 (40 : Int32)).toInt32) &&& (255 : Int32)) h0 n0 Z0 ) e13 (lenOf pd_1 rfl) rfl (by rw [hml]; rfl) (hb hby d5_32) (by decide) 0 (Nat.le_of_eq rfl) (by decide) (by decide) (by decide) ?_
  rintro _ T14 L14 X14 ⟨rfl, N14q, e14⟩
  have N14 := Fr.app N12 N14q
  show Goes p e below (T14.setTop (mkF m 35 #[.val (.ref a1), .val (.int (own_upd (own_upd (own_upd (own_upd (own_upd (own_upd (0 : Int32) p2) (((XT.ushrL q3 (0 : Int32)).toInt32) &&& (255 : Int32))) (((XT.ushrL q3 (8 : Int32)).toInt32) &&& (255 : Int32))) (((XT.ushrL q3 (16 : Int32)).toInt32) &&& (255 : Int32))) (((XT.ushrL q3 (24 : Int32)).toInt32) &&& (255 : Int32))) (((XT.ushrL q3 (32 : Int32)).toInt32) &&& (255 : Int32)))), .val (.int (5 : Int32))] [.int (own_upd (own_upd (own_upd (own_upd (own_upd (own_upd (own_upd (0 : Int32) p2) (((XT.ushrL q3 (0 : Int32)).toInt32) &&& (255 : Int32))) (((XT.ushrL q3 (8 : Int32)).toInt32) &&& (255 : Int32))) (((XT.ushrL q3 (16 : Int32)).toInt32) &&& (255 : Int32))) (((XT.ushrL q3 (24 : Int32)).toInt32) &&& (255 : Int32))) (((XT.ushrL q3 (32 : Int32)).toInt32) &&& (255 : Int32))) (((XT.ushrL q3 (40 : Int32)).toInt32) &&& (255 : Int32)))])) _
  refine g_istore_n X14 hx 36 rfl (hb hby d5_35) #[.val (.ref a1), .val (.int (own_upd (own_upd (own_upd (own_upd (own_upd (own_upd (own_upd (0 : Int32) p2) (((XT.ushrL q3 (0 : Int32)).toInt32) &&& (255 : Int32))) (((XT.ushrL q3 (8 : Int32)).toInt32) &&& (255 : Int32))) (((XT.ushrL q3 (16 : Int32)).toInt32) &&& (255 : Int32))) (((XT.ushrL q3 (24 : Int32)).toInt32) &&& (255 : Int32))) (((XT.ushrL q3 (32 : Int32)).toInt32) &&& (255 : Int32))) (((XT.ushrL q3 (40 : Int32)).toInt32) &&& (255 : Int32)))), .val (.int (5 : Int32))] rfl ?_
  refine g_iinc X14 hx 39 rfl (hb hby d5_36) (6 : Int32) rfl rfl #[.val (.ref a1), .val (.int (own_upd (own_upd (own_upd (own_upd (own_upd (own_upd (own_upd (0 : Int32) p2) (((XT.ushrL q3 (0 : Int32)).toInt32) &&& (255 : Int32))) (((XT.ushrL q3 (8 : Int32)).toInt32) &&& (255 : Int32))) (((XT.ushrL q3 (16 : Int32)).toInt32) &&& (255 : Int32))) (((XT.ushrL q3 (24 : Int32)).toInt32) &&& (255 : Int32))) (((XT.ushrL q3 (32 : Int32)).toInt32) &&& (255 : Int32))) (((XT.ushrL q3 (40 : Int32)).toInt32) &&& (255 : Int32)))), .val (.int (6 : Int32))] rfl ?_
  refine g_goto X14 hx 11 (hb hby d5_39) (by decide) (by decide) ?_
  refine g_iload_n X14 hx 12 rfl (hb hby d5_11) rfl ?_
  refine g_bipush X14 hx 14 rfl (6 : Int32) rfl (hb hby d5_12) ?_
  refine g_icmpY X14 hx 42 (hb hby d5_14) (XT.ii_ge_t (by decide)) (by decide) (by decide) ?_
  refine g_iload_n X14 hx 43 rfl (hb hby d5_42) rfl ?_
  exact g_retI X14 hx hret hlk (hb hby d5_43) ⟨rfl, N14, e14⟩ (by decide) (by decide)
theorem pd_2 : parseMethodDescriptor "(IJ)V" = some ⟨[.int, .long], none⟩ := by decide +kernel
theorem pd_3 : parseMethodDescriptor "()I" = some ⟨[], some .int⟩ := by decide +kernel
theorem ef_0_rm0 (m : MethodId) (p1 : Int32) (q2 : Int64)  : entryFrame m #[(.int p1), (.long q2)] maxLocals = mkF m 0 #[.val (.int p1), .val (.long q2), .second, .unset, .unset, .unset, .unset, .unset] [] := by first | (simp [entryFrame, mkF, argsToLocals, Value.category, maxLocals]; done) | rfl
def Q_rm0 (Z : State) (p1 : Int32) (q2 : Int64) (h0 : Heap) (n0 : Nat) (v : Option Value) (h : Heap) (L : List Loc) : Prop := v = some (.int 1) ∧ Fr n0 L
set_option maxRecDepth 65536 in
set_option maxHeartbeats 40000000 in
theorem rm0 (l : Launch) (Z : State) (a0 : Array Value) (hw : ∀ d ∈ tables_1, d.before a0 Z = true) (ws : List Jvm.Cond) (p1 : Int32) (q2 : Int64) (h0 : Heap) (n0 : Nat) (Z0 : n0 ≤ h0.size)  :
    OwnMet l Z x code maxLocals ret ws room_1 #[(.int p1), (.long q2)] h0 (Q_rm0 Z p1 q2 h0 n0) := by
  refine own_body (plainFor_of_name pn_2) ?_
  intro p e s m below meth c s₁ hx hby hml hown hnm hret hlk hZ X0 e0
  have N0 := Fr.nil n0
  refine own_cast (ef_0_rm0 m p1 q2 ) ?_
  refine g_iload_n X0 hx 1 rfl (hb hby at_0) rfl ?_
  refine g_sipush X0 hx 4 rfl (255 : Int32) rfl (hb hby at_1) ?_
  refine g_iand X0 hx 5 rfl (hb hby at_4) ?_
  refine g_istore_n X0 hx 6 rfl (hb hby at_5) #[.val (.int p1), .val (.long q2), .second, .val (.int (p1 &&& (255 : Int32))), .unset, .unset, .unset, .unset] rfl ?_
  refine g_lload_n X0 hx 7 rfl (hb hby at_6) rfl ?_
  refine g_ldcJ X0 hx 10 rfl hown hZ (hw _ (List.mem_of_getElem? (i := 0) rfl)) (hb hby at_7) ?_
  refine g_land X0 hx 11 rfl (hb hby at_10) ?_
  refine g_lstore X0 hx 13 rfl (hb hby at_11) #[.val (.int p1), .val (.long q2), .second, .val (.int (p1 &&& (255 : Int32))), .val (.long (q2 &&& (281474976710655 : Int64))), .second, .unset, .unset] rfl ?_
  refine g_new X0 hx hZ 16 rfl hown (hw _ (List.mem_of_getElem? (i := 1) rfl)) (hw _ (List.mem_of_getElem? (i := 2) rfl)) (hw _ (List.mem_of_getElem? (i := 3) rfl)) e0 (hb hby at_13) (by decide) (by decide) ?_
  intro T1 h1 o1 g1 X1 e1 E1 A1 D1
  have ge_o1 : n0 ≤ o1 := Nat.le_trans Z0 (Nat.le_of_eq g1.symm)
  refine g_dup X1 hx 17 rfl (hb hby at_16) rfl ?_
  refine g_iload_n X1 hx 18 rfl (hb hby at_17) rfl ?_
  refine g_lload X1 hx 20 rfl (hb hby at_18) rfl ?_
  have Zl3 : n0 ≤ h1.size := (Nat.le_trans Z0 E1.1)
  refine g_callI X1 hx hZ 23 rfl (y := (⟨"com/example/abalone/abalone/token/RegistrationNumber", "<init>", "(IJ)V"⟩ : MethodName)) rfl hown (hw _ (List.mem_of_getElem? (i := 4) rfl)) (hw _ (List.mem_of_getElem? (i := 5) rfl)) (hw _ (List.mem_of_getElem? (i := 3) rfl)) (hw _ (List.mem_of_getElem? (i := 6) rfl)) (by decide) o1 [.int (p1 &&& (255 : Int32)), .long (q2 &&& (281474976710655 : Int64))] [.ref o1] (rmI l Z a0 hw [] o1 (p1 &&& (255 : Int32)) (q2 &&& (281474976710655 : Int64)) _ _ h1 n0 Zl3 A1 ge_o1 (D1 (Or.inr (hw _ (List.mem_of_getElem? (i := 17) rfl))) (ty := .int) (by decide)) (D1 (Or.inr (hw _ (List.mem_of_getElem? (i := 19) rfl))) (ty := .long) (by decide)) (own_fam _).1 (own_fam _).2 (own_ser _).1 (own_ser _).2) e1 (lenOf pd_2 rfl) rfl (by rw [hml]; rfl) (hb hby at_20) (by decide) 1 (Nat.le_of_eq rfl) (by decide) (by decide) (by decide) ?_
  rintro _ T2 L2 X2 ⟨rfl, N2q, K2, E2, F2, G2⟩
  have N2 := Fr.app N0 N2q
  show Goes p e below (T2.setTop (mkF m 23 #[.val (.int p1), .val (.long q2), .second, .val (.int (p1 &&& (255 : Int32))), .val (.long (q2 &&& (281474976710655 : Int64))), .second, .unset, .unset] [.ref o1])) _
  refine g_astore X2 hx 25 rfl (hb hby at_23) rfl #[.val (.int p1), .val (.long q2), .second, .val (.int (p1 &&& (255 : Int32))), .val (.long (q2 &&& (281474976710655 : Int64))), .second, .val (.ref o1), .unset] rfl ?_
  refine g_iconst X2 hx 26 rfl (0 : Int32) rfl (hb hby at_25) ?_
  refine g_iload_n X2 hx 27 rfl (hb hby at_26) rfl ?_
  have Zl5 : n0 ≤ T2.heap.size := (Nat.le_trans Zl3 K2.1)
  refine g_callS X2 hx hZ 30 rfl (y := (⟨"com/example/abalone/abalone/token/RegistrationNumberCrcPinLaw", "step", "(II)I"⟩ : MethodName)) hown (hw _ (List.mem_of_getElem? (i := 20) rfl)) (hw _ (List.mem_of_getElem? (i := 21) rfl)) (hw _ (List.mem_of_getElem? (i := 22) rfl)) (hw _ (List.mem_of_getElem? (i := 23) rfl)) (by decide) [.int (0 : Int32), .int (p1 &&& (255 : Int32))] [] (rmS l Z a0 hw [] (0 : Int32) (p1 &&& (255 : Int32)) T2.heap n0 Zl5 ) rfl (lenOf pd_1 rfl) rfl (by rw [hml]; rfl) (hb hby at_27) (by decide) 0 (Nat.le_of_eq rfl) (by decide) (by decide) (by decide) ?_
  rintro _ T4 L4 X4 ⟨rfl, N4q, e4⟩
  have N4 := Fr.app N2 N4q
  show Goes p e below (T4.setTop (mkF m 30 #[.val (.int p1), .val (.long q2), .second, .val (.int (p1 &&& (255 : Int32))), .val (.long (q2 &&& (281474976710655 : Int64))), .second, .val (.ref o1), .unset] [.int (own_step (0 : Int32) (p1 &&& (255 : Int32)))])) _
  refine g_istore X4 hx 32 rfl (hb hby at_30) #[.val (.int p1), .val (.long q2), .second, .val (.int (p1 &&& (255 : Int32))), .val (.long (q2 &&& (281474976710655 : Int64))), .second, .val (.ref o1), .val (.int (own_step (0 : Int32) (p1 &&& (255 : Int32))))] rfl ?_
  refine g_iload X4 hx 34 rfl (hb hby at_32) rfl ?_
  refine g_lload X4 hx 36 rfl (hb hby at_34) rfl ?_
  refine g_l2i X4 hx 37 rfl (hb hby at_36) ?_
  refine g_sipush X4 hx 40 rfl (255 : Int32) rfl (hb hby at_37) ?_
  refine g_iand X4 hx 41 rfl (hb hby at_40) ?_
  refine g_callS X4 hx hZ 44 rfl (y := (⟨"com/example/abalone/abalone/token/RegistrationNumberCrcPinLaw", "step", "(II)I"⟩ : MethodName)) hown (hw _ (List.mem_of_getElem? (i := 20) rfl)) (hw _ (List.mem_of_getElem? (i := 21) rfl)) (hw _ (List.mem_of_getElem? (i := 22) rfl)) (hw _ (List.mem_of_getElem? (i := 23) rfl)) (by decide) [.int (own_step (0 : Int32) (p1 &&& (255 : Int32))), .int (((q2 &&& (281474976710655 : Int64)).toInt32) &&& (255 : Int32))] [] (rmS l Z a0 hw [] (own_step (0 : Int32) (p1 &&& (255 : Int32))) (((q2 &&& (281474976710655 : Int64)).toInt32) &&& (255 : Int32)) T2.heap n0 Zl5 ) e4 (lenOf pd_1 rfl) rfl (by rw [hml]; rfl) (hb hby at_41) (by decide) 0 (Nat.le_of_eq rfl) (by decide) (by decide) (by decide) ?_
  rintro _ T6 L6 X6 ⟨rfl, N6q, e6⟩
  have N6 := Fr.app N4 N6q
  show Goes p e below (T6.setTop (mkF m 44 #[.val (.int p1), .val (.long q2), .second, .val (.int (p1 &&& (255 : Int32))), .val (.long (q2 &&& (281474976710655 : Int64))), .second, .val (.ref o1), .val (.int (own_step (0 : Int32) (p1 &&& (255 : Int32))))] [.int (own_step (own_step (0 : Int32) (p1 &&& (255 : Int32))) (((q2 &&& (281474976710655 : Int64)).toInt32) &&& (255 : Int32)))])) _
  refine g_istore X6 hx 46 rfl (hb hby at_44) #[.val (.int p1), .val (.long q2), .second, .val (.int (p1 &&& (255 : Int32))), .val (.long (q2 &&& (281474976710655 : Int64))), .second, .val (.ref o1), .val (.int (own_step (own_step (0 : Int32) (p1 &&& (255 : Int32))) (((q2 &&& (281474976710655 : Int64)).toInt32) &&& (255 : Int32))))] rfl ?_
  refine g_iload X6 hx 48 rfl (hb hby at_46) rfl ?_
  refine g_lload X6 hx 50 rfl (hb hby at_48) rfl ?_
  refine g_bipush X6 hx 52 rfl (8 : Int32) rfl (hb hby at_50) ?_
  refine g_lushr X6 hx 53 rfl (hb hby at_52) ?_
  refine g_l2i X6 hx 54 rfl (hb hby at_53) ?_
  refine g_sipush X6 hx 57 rfl (255 : Int32) rfl (hb hby at_54) ?_
  refine g_iand X6 hx 58 rfl (hb hby at_57) ?_
  refine g_callS X6 hx hZ 61 rfl (y := (⟨"com/example/abalone/abalone/token/RegistrationNumberCrcPinLaw", "step", "(II)I"⟩ : MethodName)) hown (hw _ (List.mem_of_getElem? (i := 20) rfl)) (hw _ (List.mem_of_getElem? (i := 21) rfl)) (hw _ (List.mem_of_getElem? (i := 22) rfl)) (hw _ (List.mem_of_getElem? (i := 23) rfl)) (by decide) [.int (own_step (own_step (0 : Int32) (p1 &&& (255 : Int32))) (((q2 &&& (281474976710655 : Int64)).toInt32) &&& (255 : Int32))), .int (((XT.ushrL (q2 &&& (281474976710655 : Int64)) (8 : Int32)).toInt32) &&& (255 : Int32))] [] (rmS l Z a0 hw [] (own_step (own_step (0 : Int32) (p1 &&& (255 : Int32))) (((q2 &&& (281474976710655 : Int64)).toInt32) &&& (255 : Int32))) (((XT.ushrL (q2 &&& (281474976710655 : Int64)) (8 : Int32)).toInt32) &&& (255 : Int32)) T2.heap n0 Zl5 ) e6 (lenOf pd_1 rfl) rfl (by rw [hml]; rfl) (hb hby at_58) (by decide) 0 (Nat.le_of_eq rfl) (by decide) (by decide) (by decide) ?_
  rintro _ T7 L7 X7 ⟨rfl, N7q, e7⟩
  have N7 := Fr.app N6 N7q
  show Goes p e below (T7.setTop (mkF m 61 #[.val (.int p1), .val (.long q2), .second, .val (.int (p1 &&& (255 : Int32))), .val (.long (q2 &&& (281474976710655 : Int64))), .second, .val (.ref o1), .val (.int (own_step (own_step (0 : Int32) (p1 &&& (255 : Int32))) (((q2 &&& (281474976710655 : Int64)).toInt32) &&& (255 : Int32))))] [.int (own_step (own_step (own_step (0 : Int32) (p1 &&& (255 : Int32))) (((q2 &&& (281474976710655 : Int64)).toInt32) &&& (255 : Int32))) (((XT.ushrL (q2 &&& (281474976710655 : Int64)) (8 : Int32)).toInt32) &&& (255 : Int32)))])) _
  refine g_istore X7 hx 63 rfl (hb hby at_61) #[.val (.int p1), .val (.long q2), .second, .val (.int (p1 &&& (255 : Int32))), .val (.long (q2 &&& (281474976710655 : Int64))), .second, .val (.ref o1), .val (.int (own_step (own_step (own_step (0 : Int32) (p1 &&& (255 : Int32))) (((q2 &&& (281474976710655 : Int64)).toInt32) &&& (255 : Int32))) (((XT.ushrL (q2 &&& (281474976710655 : Int64)) (8 : Int32)).toInt32) &&& (255 : Int32))))] rfl ?_
  refine g_iload X7 hx 65 rfl (hb hby at_63) rfl ?_
  refine g_lload X7 hx 67 rfl (hb hby at_65) rfl ?_
  refine g_bipush X7 hx 69 rfl (16 : Int32) rfl (hb hby at_67) ?_
  refine g_lushr X7 hx 70 rfl (hb hby at_69) ?_
  refine g_l2i X7 hx 71 rfl (hb hby at_70) ?_
  refine g_sipush X7 hx 74 rfl (255 : Int32) rfl (hb hby at_71) ?_
  refine g_iand X7 hx 75 rfl (hb hby at_74) ?_
  refine g_callS X7 hx hZ 78 rfl (y := (⟨"com/example/abalone/abalone/token/RegistrationNumberCrcPinLaw", "step", "(II)I"⟩ : MethodName)) hown (hw _ (List.mem_of_getElem? (i := 20) rfl)) (hw _ (List.mem_of_getElem? (i := 21) rfl)) (hw _ (List.mem_of_getElem? (i := 22) rfl)) (hw _ (List.mem_of_getElem? (i := 23) rfl)) (by decide) [.int (own_step (own_step (own_step (0 : Int32) (p1 &&& (255 : Int32))) (((q2 &&& (281474976710655 : Int64)).toInt32) &&& (255 : Int32))) (((XT.ushrL (q2 &&& (281474976710655 : Int64)) (8 : Int32)).toInt32) &&& (255 : Int32))), .int (((XT.ushrL (q2 &&& (281474976710655 : Int64)) (16 : Int32)).toInt32) &&& (255 : Int32))] [] (rmS l Z a0 hw [] (own_step (own_step (own_step (0 : Int32) (p1 &&& (255 : Int32))) (((q2 &&& (281474976710655 : Int64)).toInt32) &&& (255 : Int32))) (((XT.ushrL (q2 &&& (281474976710655 : Int64)) (8 : Int32)).toInt32) &&& (255 : Int32))) (((XT.ushrL (q2 &&& (281474976710655 : Int64)) (16 : Int32)).toInt32) &&& (255 : Int32)) T2.heap n0 Zl5 ) e7 (lenOf pd_1 rfl) rfl (by rw [hml]; rfl) (hb hby at_75) (by decide) 0 (Nat.le_of_eq rfl) (by decide) (by decide) (by decide) ?_
  rintro _ T8 L8 X8 ⟨rfl, N8q, e8⟩
  have N8 := Fr.app N7 N8q
  show Goes p e below (T8.setTop (mkF m 78 #[.val (.int p1), .val (.long q2), .second, .val (.int (p1 &&& (255 : Int32))), .val (.long (q2 &&& (281474976710655 : Int64))), .second, .val (.ref o1), .val (.int (own_step (own_step (own_step (0 : Int32) (p1 &&& (255 : Int32))) (((q2 &&& (281474976710655 : Int64)).toInt32) &&& (255 : Int32))) (((XT.ushrL (q2 &&& (281474976710655 : Int64)) (8 : Int32)).toInt32) &&& (255 : Int32))))] [.int (own_step (own_step (own_step (own_step (0 : Int32) (p1 &&& (255 : Int32))) (((q2 &&& (281474976710655 : Int64)).toInt32) &&& (255 : Int32))) (((XT.ushrL (q2 &&& (281474976710655 : Int64)) (8 : Int32)).toInt32) &&& (255 : Int32))) (((XT.ushrL (q2 &&& (281474976710655 : Int64)) (16 : Int32)).toInt32) &&& (255 : Int32)))])) _
  refine g_istore X8 hx 80 rfl (hb hby at_78) #[.val (.int p1), .val (.long q2), .second, .val (.int (p1 &&& (255 : Int32))), .val (.long (q2 &&& (281474976710655 : Int64))), .second, .val (.ref o1), .val (.int (own_step (own_step (own_step (own_step (0 : Int32) (p1 &&& (255 : Int32))) (((q2 &&& (281474976710655 : Int64)).toInt32) &&& (255 : Int32))) (((XT.ushrL (q2 &&& (281474976710655 : Int64)) (8 : Int32)).toInt32) &&& (255 : Int32))) (((XT.ushrL (q2 &&& (281474976710655 : Int64)) (16 : Int32)).toInt32) &&& (255 : Int32))))] rfl ?_
  refine g_iload X8 hx 82 rfl (hb hby at_80) rfl ?_
  refine g_lload X8 hx 84 rfl (hb hby at_82) rfl ?_
  refine g_bipush X8 hx 86 rfl (24 : Int32) rfl (hb hby at_84) ?_
  refine g_lushr X8 hx 87 rfl (hb hby at_86) ?_
  refine g_l2i X8 hx 88 rfl (hb hby at_87) ?_
  refine g_sipush X8 hx 91 rfl (255 : Int32) rfl (hb hby at_88) ?_
  refine g_iand X8 hx 92 rfl (hb hby at_91) ?_
  refine g_callS X8 hx hZ 95 rfl (y := (⟨"com/example/abalone/abalone/token/RegistrationNumberCrcPinLaw", "step", "(II)I"⟩ : MethodName)) hown (hw _ (List.mem_of_getElem? (i := 20) rfl)) (hw _ (List.mem_of_getElem? (i := 21) rfl)) (hw _ (List.mem_of_getElem? (i := 22) rfl)) (hw _ (List.mem_of_getElem? (i := 23) rfl)) (by decide) [.int (own_step (own_step (own_step (own_step (0 : Int32) (p1 &&& (255 : Int32))) (((q2 &&& (281474976710655 : Int64)).toInt32) &&& (255 : Int32))) (((XT.ushrL (q2 &&& (281474976710655 : Int64)) (8 : Int32)).toInt32) &&& (255 : Int32))) (((XT.ushrL (q2 &&& (281474976710655 : Int64)) (16 : Int32)).toInt32) &&& (255 : Int32))), .int (((XT.ushrL (q2 &&& (281474976710655 : Int64)) (24 : Int32)).toInt32) &&& (255 : Int32))] [] (rmS l Z a0 hw [] (own_step (own_step (own_step (own_step (0 : Int32) (p1 &&& (255 : Int32))) (((q2 &&& (281474976710655 : Int64)).toInt32) &&& (255 : Int32))) (((XT.ushrL (q2 &&& (281474976710655 : Int64)) (8 : Int32)).toInt32) &&& (255 : Int32))) (((XT.ushrL (q2 &&& (281474976710655 : Int64)) (16 : Int32)).toInt32) &&& (255 : Int32))) (((XT.ushrL (q2 &&& (281474976710655 : Int64)) (24 : Int32)).toInt32) &&& (255 : Int32)) T2.heap n0 Zl5 ) e8 (lenOf pd_1 rfl) rfl (by rw [hml]; rfl) (hb hby at_92) (by decide) 0 (Nat.le_of_eq rfl) (by decide) (by decide) (by decide) ?_
  rintro _ T9 L9 X9 ⟨rfl, N9q, e9⟩
  have N9 := Fr.app N8 N9q
  show Goes p e below (T9.setTop (mkF m 95 #[.val (.int p1), .val (.long q2), .second, .val (.int (p1 &&& (255 : Int32))), .val (.long (q2 &&& (281474976710655 : Int64))), .second, .val (.ref o1), .val (.int (own_step (own_step (own_step (own_step (0 : Int32) (p1 &&& (255 : Int32))) (((q2 &&& (281474976710655 : Int64)).toInt32) &&& (255 : Int32))) (((XT.ushrL (q2 &&& (281474976710655 : Int64)) (8 : Int32)).toInt32) &&& (255 : Int32))) (((XT.ushrL (q2 &&& (281474976710655 : Int64)) (16 : Int32)).toInt32) &&& (255 : Int32))))] [.int (own_step (own_step (own_step (own_step (own_step (0 : Int32) (p1 &&& (255 : Int32))) (((q2 &&& (281474976710655 : Int64)).toInt32) &&& (255 : Int32))) (((XT.ushrL (q2 &&& (281474976710655 : Int64)) (8 : Int32)).toInt32) &&& (255 : Int32))) (((XT.ushrL (q2 &&& (281474976710655 : Int64)) (16 : Int32)).toInt32) &&& (255 : Int32))) (((XT.ushrL (q2 &&& (281474976710655 : Int64)) (24 : Int32)).toInt32) &&& (255 : Int32)))])) _
  refine g_istore X9 hx 97 rfl (hb hby at_95) #[.val (.int p1), .val (.long q2), .second, .val (.int (p1 &&& (255 : Int32))), .val (.long (q2 &&& (281474976710655 : Int64))), .second, .val (.ref o1), .val (.int (own_step (own_step (own_step (own_step (own_step (0 : Int32) (p1 &&& (255 : Int32))) (((q2 &&& (281474976710655 : Int64)).toInt32) &&& (255 : Int32))) (((XT.ushrL (q2 &&& (281474976710655 : Int64)) (8 : Int32)).toInt32) &&& (255 : Int32))) (((XT.ushrL (q2 &&& (281474976710655 : Int64)) (16 : Int32)).toInt32) &&& (255 : Int32))) (((XT.ushrL (q2 &&& (281474976710655 : Int64)) (24 : Int32)).toInt32) &&& (255 : Int32))))] rfl ?_
  refine g_iload X9 hx 99 rfl (hb hby at_97) rfl ?_
  refine g_lload X9 hx 101 rfl (hb hby at_99) rfl ?_
  refine g_bipush X9 hx 103 rfl (32 : Int32) rfl (hb hby at_101) ?_
  refine g_lushr X9 hx 104 rfl (hb hby at_103) ?_
  refine g_l2i X9 hx 105 rfl (hb hby at_104) ?_
  refine g_sipush X9 hx 108 rfl (255 : Int32) rfl (hb hby at_105) ?_
  refine g_iand X9 hx 109 rfl (hb hby at_108) ?_
  refine g_callS X9 hx hZ 112 rfl (y := (⟨"com/example/abalone/abalone/token/RegistrationNumberCrcPinLaw", "step", "(II)I"⟩ : MethodName)) hown (hw _ (List.mem_of_getElem? (i := 20) rfl)) (hw _ (List.mem_of_getElem? (i := 21) rfl)) (hw _ (List.mem_of_getElem? (i := 22) rfl)) (hw _ (List.mem_of_getElem? (i := 23) rfl)) (by decide) [.int (own_step (own_step (own_step (own_step (own_step (0 : Int32) (p1 &&& (255 : Int32))) (((q2 &&& (281474976710655 : Int64)).toInt32) &&& (255 : Int32))) (((XT.ushrL (q2 &&& (281474976710655 : Int64)) (8 : Int32)).toInt32) &&& (255 : Int32))) (((XT.ushrL (q2 &&& (281474976710655 : Int64)) (16 : Int32)).toInt32) &&& (255 : Int32))) (((XT.ushrL (q2 &&& (281474976710655 : Int64)) (24 : Int32)).toInt32) &&& (255 : Int32))), .int (((XT.ushrL (q2 &&& (281474976710655 : Int64)) (32 : Int32)).toInt32) &&& (255 : Int32))] [] (rmS l Z a0 hw [] (own_step (own_step (own_step (own_step (own_step (0 : Int32) (p1 &&& (255 : Int32))) (((q2 &&& (281474976710655 : Int64)).toInt32) &&& (255 : Int32))) (((XT.ushrL (q2 &&& (281474976710655 : Int64)) (8 : Int32)).toInt32) &&& (255 : Int32))) (((XT.ushrL (q2 &&& (281474976710655 : Int64)) (16 : Int32)).toInt32) &&& (255 : Int32))) (((XT.ushrL (q2 &&& (281474976710655 : Int64)) (24 : Int32)).toInt32) &&& (255 : Int32))) (((XT.ushrL (q2 &&& (281474976710655 : Int64)) (32 : Int32)).toInt32) &&& (255 : Int32)) T2.heap n0 Zl5 ) e9 (lenOf pd_1 rfl) rfl (by rw [hml]; rfl) (hb hby at_109) (by decide) 0 (Nat.le_of_eq rfl) (by decide) (by decide) (by decide) ?_
  rintro _ T10 L10 X10 ⟨rfl, N10q, e10⟩
  have N10 := Fr.app N9 N10q
  show Goes p e below (T10.setTop (mkF m 112 #[.val (.int p1), .val (.long q2), .second, .val (.int (p1 &&& (255 : Int32))), .val (.long (q2 &&& (281474976710655 : Int64))), .second, .val (.ref o1), .val (.int (own_step (own_step (own_step (own_step (own_step (0 : Int32) (p1 &&& (255 : Int32))) (((q2 &&& (281474976710655 : Int64)).toInt32) &&& (255 : Int32))) (((XT.ushrL (q2 &&& (281474976710655 : Int64)) (8 : Int32)).toInt32) &&& (255 : Int32))) (((XT.ushrL (q2 &&& (281474976710655 : Int64)) (16 : Int32)).toInt32) &&& (255 : Int32))) (((XT.ushrL (q2 &&& (281474976710655 : Int64)) (24 : Int32)).toInt32) &&& (255 : Int32))))] [.int (own_step (own_step (own_step (own_step (own_step (own_step (0 : Int32) (p1 &&& (255 : Int32))) (((q2 &&& (281474976710655 : Int64)).toInt32) &&& (255 : Int32))) (((XT.ushrL (q2 &&& (281474976710655 : Int64)) (8 : Int32)).toInt32) &&& (255 : Int32))) (((XT.ushrL (q2 &&& (281474976710655 : Int64)) (16 : Int32)).toInt32) &&& (255 : Int32))) (((XT.ushrL (q2 &&& (281474976710655 : Int64)) (24 : Int32)).toInt32) &&& (255 : Int32))) (((XT.ushrL (q2 &&& (281474976710655 : Int64)) (32 : Int32)).toInt32) &&& (255 : Int32)))])) _
  refine g_istore X10 hx 114 rfl (hb hby at_112) #[.val (.int p1), .val (.long q2), .second, .val (.int (p1 &&& (255 : Int32))), .val (.long (q2 &&& (281474976710655 : Int64))), .second, .val (.ref o1), .val (.int (own_step (own_step (own_step (own_step (own_step (own_step (0 : Int32) (p1 &&& (255 : Int32))) (((q2 &&& (281474976710655 : Int64)).toInt32) &&& (255 : Int32))) (((XT.ushrL (q2 &&& (281474976710655 : Int64)) (8 : Int32)).toInt32) &&& (255 : Int32))) (((XT.ushrL (q2 &&& (281474976710655 : Int64)) (16 : Int32)).toInt32) &&& (255 : Int32))) (((XT.ushrL (q2 &&& (281474976710655 : Int64)) (24 : Int32)).toInt32) &&& (255 : Int32))) (((XT.ushrL (q2 &&& (281474976710655 : Int64)) (32 : Int32)).toInt32) &&& (255 : Int32))))] rfl ?_
  refine g_iload X10 hx 116 rfl (hb hby at_114) rfl ?_
  refine g_lload X10 hx 118 rfl (hb hby at_116) rfl ?_
  refine g_bipush X10 hx 120 rfl (40 : Int32) rfl (hb hby at_118) ?_
  refine g_lushr X10 hx 121 rfl (hb hby at_120) ?_
  refine g_l2i X10 hx 122 rfl (hb hby at_121) ?_
  refine g_sipush X10 hx 125 rfl (255 : Int32) rfl (hb hby at_122) ?_
  refine g_iand X10 hx 126 rfl (hb hby at_125) ?_
  refine g_callS X10 hx hZ 129 rfl (y := (⟨"com/example/abalone/abalone/token/RegistrationNumberCrcPinLaw", "step", "(II)I"⟩ : MethodName)) hown (hw _ (List.mem_of_getElem? (i := 20) rfl)) (hw _ (List.mem_of_getElem? (i := 21) rfl)) (hw _ (List.mem_of_getElem? (i := 22) rfl)) (hw _ (List.mem_of_getElem? (i := 23) rfl)) (by decide) [.int (own_step (own_step (own_step (own_step (own_step (own_step (0 : Int32) (p1 &&& (255 : Int32))) (((q2 &&& (281474976710655 : Int64)).toInt32) &&& (255 : Int32))) (((XT.ushrL (q2 &&& (281474976710655 : Int64)) (8 : Int32)).toInt32) &&& (255 : Int32))) (((XT.ushrL (q2 &&& (281474976710655 : Int64)) (16 : Int32)).toInt32) &&& (255 : Int32))) (((XT.ushrL (q2 &&& (281474976710655 : Int64)) (24 : Int32)).toInt32) &&& (255 : Int32))) (((XT.ushrL (q2 &&& (281474976710655 : Int64)) (32 : Int32)).toInt32) &&& (255 : Int32))), .int (((XT.ushrL (q2 &&& (281474976710655 : Int64)) (40 : Int32)).toInt32) &&& (255 : Int32))] [] (rmS l Z a0 hw [] (own_step (own_step (own_step (own_step (own_step (own_step (0 : Int32) (p1 &&& (255 : Int32))) (((q2 &&& (281474976710655 : Int64)).toInt32) &&& (255 : Int32))) (((XT.ushrL (q2 &&& (281474976710655 : Int64)) (8 : Int32)).toInt32) &&& (255 : Int32))) (((XT.ushrL (q2 &&& (281474976710655 : Int64)) (16 : Int32)).toInt32) &&& (255 : Int32))) (((XT.ushrL (q2 &&& (281474976710655 : Int64)) (24 : Int32)).toInt32) &&& (255 : Int32))) (((XT.ushrL (q2 &&& (281474976710655 : Int64)) (32 : Int32)).toInt32) &&& (255 : Int32))) (((XT.ushrL (q2 &&& (281474976710655 : Int64)) (40 : Int32)).toInt32) &&& (255 : Int32)) T2.heap n0 Zl5 ) e10 (lenOf pd_1 rfl) rfl (by rw [hml]; rfl) (hb hby at_126) (by decide) 0 (Nat.le_of_eq rfl) (by decide) (by decide) (by decide) ?_
  rintro _ T11 L11 X11 ⟨rfl, N11q, e11⟩
  have N11 := Fr.app N10 N11q
  show Goes p e below (T11.setTop (mkF m 129 #[.val (.int p1), .val (.long q2), .second, .val (.int (p1 &&& (255 : Int32))), .val (.long (q2 &&& (281474976710655 : Int64))), .second, .val (.ref o1), .val (.int (own_step (own_step (own_step (own_step (own_step (own_step (0 : Int32) (p1 &&& (255 : Int32))) (((q2 &&& (281474976710655 : Int64)).toInt32) &&& (255 : Int32))) (((XT.ushrL (q2 &&& (281474976710655 : Int64)) (8 : Int32)).toInt32) &&& (255 : Int32))) (((XT.ushrL (q2 &&& (281474976710655 : Int64)) (16 : Int32)).toInt32) &&& (255 : Int32))) (((XT.ushrL (q2 &&& (281474976710655 : Int64)) (24 : Int32)).toInt32) &&& (255 : Int32))) (((XT.ushrL (q2 &&& (281474976710655 : Int64)) (32 : Int32)).toInt32) &&& (255 : Int32))))] [.int (own_step (own_step (own_step (own_step (own_step (own_step (own_step (0 : Int32) (p1 &&& (255 : Int32))) (((q2 &&& (281474976710655 : Int64)).toInt32) &&& (255 : Int32))) (((XT.ushrL (q2 &&& (281474976710655 : Int64)) (8 : Int32)).toInt32) &&& (255 : Int32))) (((XT.ushrL (q2 &&& (281474976710655 : Int64)) (16 : Int32)).toInt32) &&& (255 : Int32))) (((XT.ushrL (q2 &&& (281474976710655 : Int64)) (24 : Int32)).toInt32) &&& (255 : Int32))) (((XT.ushrL (q2 &&& (281474976710655 : Int64)) (32 : Int32)).toInt32) &&& (255 : Int32))) (((XT.ushrL (q2 &&& (281474976710655 : Int64)) (40 : Int32)).toInt32) &&& (255 : Int32)))])) _
  refine g_istore X11 hx 131 rfl (hb hby at_129) #[.val (.int p1), .val (.long q2), .second, .val (.int (p1 &&& (255 : Int32))), .val (.long (q2 &&& (281474976710655 : Int64))), .second, .val (.ref o1), .val (.int (own_step (own_step (own_step (own_step (own_step (own_step (own_step (0 : Int32) (p1 &&& (255 : Int32))) (((q2 &&& (281474976710655 : Int64)).toInt32) &&& (255 : Int32))) (((XT.ushrL (q2 &&& (281474976710655 : Int64)) (8 : Int32)).toInt32) &&& (255 : Int32))) (((XT.ushrL (q2 &&& (281474976710655 : Int64)) (16 : Int32)).toInt32) &&& (255 : Int32))) (((XT.ushrL (q2 &&& (281474976710655 : Int64)) (24 : Int32)).toInt32) &&& (255 : Int32))) (((XT.ushrL (q2 &&& (281474976710655 : Int64)) (32 : Int32)).toInt32) &&& (255 : Int32))) (((XT.ushrL (q2 &&& (281474976710655 : Int64)) (40 : Int32)).toInt32) &&& (255 : Int32))))] rfl ?_
  refine g_aload X11 hx 133 rfl (hb hby at_131) rfl rfl ?_
  refine g_callV X11 hx hZ 136 rfl (y := (⟨"com/example/abalone/abalone/token/RegistrationNumber", "crc", "()I"⟩ : MethodName)) hown (hw _ (List.mem_of_getElem? (i := 24) rfl)) (hw _ (List.mem_of_getElem? (i := 25) rfl)) (hw _ (List.mem_of_getElem? (i := 27) rfl)) (hw _ (List.mem_of_getElem? (i := 26) rfl)) (hw _ (List.mem_of_getElem? (i := 3) rfl)) (hw _ (List.mem_of_getElem? (i := 28) rfl)) (by decide) o1 [] [] (rmC l Z a0 hw [] o1 (p1 &&& (255 : Int32)) (q2 &&& (281474976710655 : Int64)) T2.heap n0 Zl5 F2 G2) e11 E2 (lenOf pd_3 rfl) rfl (by rw [hml]; rfl) (hb hby at_133) (by decide) 0 (Nat.le_of_eq rfl) (by decide) (by decide) (by decide) ?_
  rintro _ T12 L12 X12 ⟨rfl, N12q, e12⟩
  have N12 := Fr.app N11 N12q
  show Goes p e below (T12.setTop (mkF m 136 #[.val (.int p1), .val (.long q2), .second, .val (.int (p1 &&& (255 : Int32))), .val (.long (q2 &&& (281474976710655 : Int64))), .second, .val (.ref o1), .val (.int (own_step (own_step (own_step (own_step (own_step (own_step (own_step (0 : Int32) (p1 &&& (255 : Int32))) (((q2 &&& (281474976710655 : Int64)).toInt32) &&& (255 : Int32))) (((XT.ushrL (q2 &&& (281474976710655 : Int64)) (8 : Int32)).toInt32) &&& (255 : Int32))) (((XT.ushrL (q2 &&& (281474976710655 : Int64)) (16 : Int32)).toInt32) &&& (255 : Int32))) (((XT.ushrL (q2 &&& (281474976710655 : Int64)) (24 : Int32)).toInt32) &&& (255 : Int32))) (((XT.ushrL (q2 &&& (281474976710655 : Int64)) (32 : Int32)).toInt32) &&& (255 : Int32))) (((XT.ushrL (q2 &&& (281474976710655 : Int64)) (40 : Int32)).toInt32) &&& (255 : Int32))))] [.int (own_crc (p1 &&& (255 : Int32)) (q2 &&& (281474976710655 : Int64)))])) _
  refine g_iload X12 hx 138 rfl (hb hby at_136) rfl ?_
  refine g_icmpN X12 hx 141 rfl (hb hby at_138) (XT.ii_ne_f (own_final (p1 &&& (255 : Int32)) (q2 &&& (281474976710655 : Int64)) (own_m _))) ?_
  refine g_iconst X12 hx 142 rfl (1 : Int32) rfl (hb hby at_141) ?_
  refine g_goto X12 hx 146 (hb hby at_142) (by decide) (by decide) ?_
  exact g_retZ X12 hx hret hlk rfl (hb hby at_146) ⟨rfl, N12⟩ (by decide) (by decide)
set_option maxRecDepth 65536 in
set_option maxHeartbeats 40000000 in
theorem comes_1 {Post : Tables → Env → Array Value → State → Outcome → State → Prop} (hpost : ∀ tb e args s v u, (limb_1_1.after args s (.returned v) u = true ∧ limb_1_2.after args s (.returned v) u = true ∧ True) → FrameEnd s (.returned v) u (Jvm.fieldLocs frame_1_writes args s ++ Jvm.arrayLocs frame_1_arrays args s ++ Jvm.staticLocs frame_1_statics s) 16 128 → Post tb e args s (.returned v) u) :
    ArmFor flags0 classFile x code maxLocals ret World_1 tables_1 room_1 Calls_1 rest_1 Pre_1 Post := by
  intro l hfl _ _ p e ha hc hk s m args below hf hA hF happ hP
  obtain ⟨hcalls, hrest, hpre⟩ := hP
  obtain ⟨-, -, -, hnamed, -, -, -, hat⟩ := (Spec.applies_iff hf).mp happ
  obtain ⟨hg, hn⟩ := and_e (Cond.before_iff.mp (show (Jvm.Cond.and given_1 narrow_1).before args s = true from hpre))
  obtain ⟨h1, hr1⟩ := and_e hg
  obtain ⟨hk1, hr2⟩ := and_e hr1
  obtain ⟨w0, w1, rfl⟩ : ∃ w0 w1 : Value, args = #[w0, w1] := by
    have hs : args.size = 2 := by simpa [Cond.value, given_1] using h1
    obtain ⟨L⟩ := args
    match L, hs with
    | [w0, w1], _ => exact ⟨w0, w1, rfl⟩
  have hw := fun d (hd : d ∈ tables_1) => atoms_spec (ws := Jvm.Cond.code x code maxLocals ret :: tables_1) hat d (List.mem_cons_of_mem _ hd)
  have hfit : Fit s := fun {y c} hc i hi => by
    obtain ⟨ha, rfl⟩ := Array.getElem?_eq_some_iff.mp hc
    have q := List.all_eq_true.mp ((Array.all_eq_true_iff_forall_mem.mp hF) _ (Array.getElem_mem ha)) i (List.mem_range.mpr hi)
    simpa [Array.getElem?_eq_getElem hi] using q
  obtain ⟨i0, e0⟩ := is_v hk1
  obtain rfl : w0 = (.int i0) := Option.some.inj e0
  obtain ⟨i1, e1⟩ := isL_v hr2
  obtain rfl : w1 = (.long i1) := Option.some.inj e1
  obtain ⟨n, o, h1, h2, h3, _, L, rfl, ⟨rfl, N⟩, hq⟩ := rm0 l s _ hw tables_1 i0 i1  s.heap s.heap.size (Nat.le_refl _)  p e ha hc hk s m _ below hf ((Spec.applies_iff_loose hf).mp happ).1 ⟨rfl, State.Warmed39.refl s, rfl⟩ trivial
  refine ⟨n, _, h1, h2, h3, hpost _ _ _ _ _ _ ⟨Cond.after_iff.mpr rfl, Cond.after_iff.mpr (eq_i res_at (Term.int_eval (1)) rfl), trivial⟩ ⟨hq.1, hq.2.1, (hq.2.2.sift fun y hy => Or.inr (N y hy)).mono (by decide) (by decide)⟩⟩
theorem main_1_1 : Claimed_1_1 := comes_1 fun _ _ _ _ _ _ h hF => ⟨h.1, hF⟩
theorem main_1_2 : Claimed_1_2 := comes_1 fun _ _ _ _ _ _ h hF => ⟨h.2.1, hF⟩
end Jvm.Pilot.@@N@@
namespace Jvm.Pilot.@@N@@
open Jvm Jvm.ClassFile Sem Op Lib Jvm.Free Jvm.Stand Jvm.Pilot.@@N@@.Jvm.D
/-! MADE BY PROGRAM (witnessworld.py) out of the Statement's table words and the real class files: 10 classes; the members and pool entries that the words name. The judged class is class 1, her method 1. -/
namespace start1
open Jvm.ClassFile
def u (s : String) : CpInfo := .utf8 (stringToUtf16 s)
/-- a pool by its gaps: so many unusable entries, then the entry; so many at the end -/
def gap : Nat → List CpInfo → List CpInfo
  | 0, r => r
  | n + 1, r => .unusable :: gap n r
def poolList (es : List (Nat × CpInfo)) (last : Nat) : List CpInfo := es.foldr (fun e r => gap e.1 (e.2 :: r)) (gap last [])
def pool (es : List (Nat × CpInfo)) (last : Nat) : Array CpInfo := ⟨poolList es last⟩
def fileOf (pool : Array CpInfo) (this : Nat) (attrs : Array Attribute := #[]) (ms : Array MethodInfo := #[]) (fl : Nat := 33) (sup : Nat := 0) (ifs : Array Nat := #[]) (fds : Array FieldInfo := #[]) : ClassFile where
  minorVersion := 0
  majorVersion := 65
  constantPool := pool
  accessFlags := fl
  thisClass := this
  superClass := sup
  interfaces := ifs
  fields := fds
  methods := ms
  attributes := attrs
def plain (name : String) (sup : Option ClassId) : Class where
  name := name
  kind := .ordinary
  loader := none
  accessFlags := 33
  super := sup
  interfaces := #[]
  cf := none
  fields := #[]
  methods := #[]
  instanceTypes := #[]
  staticTypes := #[]
  resolved := #[]
  callSites := []
  init := .initialized
  statics := none
  mirror := none

def pool0 : Array CpInfo := pool [(5, u "<init>"), (0, u "()V"), (1, .class_ 10), (1, u "java/lang/Object")] 113

def k0c0 : Code := { maxStack := 0, maxLocals := 1, code := object_method_1_code, exceptionTable := #[], attributes := #[] }
def k0m0 : Method := { name := "<init>", desc := "()V", sig := { parameters := [], returnType := none }, accessFlags := 1, code := some k0c0 }
/-- java/lang/Object -/
def k0 : Class := { plain "java/lang/Object" none with
  accessFlags := 33
  interfaces := #[]
  cf := some (fileOf pool0 8 #[] #[{ accessFlags := 1, nameIndex := 5, descriptorIndex := 6, attributes := #[] }] 33 0 #[] #[])
  fields := #[]
  methods := #[k0m0]
  instanceTypes := #[]
  staticTypes := #[]
  resolved := Array.replicate 124 none
  statics := none }

def pool1 : Array CpInfo := pool [(2, .class_ 4), (1, u "java/lang/Object"), (0, u "<init>"), (0, u "()V"), (0, .long 281474976710655), (1, .class_ 10), (0, u "com/example/abalone/abalone/token/RegistrationNumber"), (0, .methodref 9 12), (0, .nameAndType 5 13), (0, u "(IJ)V"), (0, .methodref 15 16), (0, .class_ 17), (0, .nameAndType 18 19), (0, u "com/example/abalone/abalone/token/RegistrationNumberCrcPinLaw"), (0, u "step"), (0, u "(II)I"), (0, .methodref 9 21), (0, .nameAndType 22 23), (0, u "crc"), (0, u "()I"), (2, u "law"), (0, u "(IJ)Z")] 3

def k1m0 : Method := { name := "<init>", desc := "()V", sig := { parameters := [], returnType := none }, accessFlags := 1, code := none }
def k1c1 : Code := { maxStack := 5, maxLocals := 8, code := code, exceptionTable := #[], attributes := #[] }
def k1m1 : Method := { name := "law", desc := "(IJ)Z", sig := { parameters := [.int, .long], returnType := some .boolean }, accessFlags := 9, code := some k1c1 }
def k1c2 : Code := { maxStack := 2, maxLocals := 4, code := method_3_code, exceptionTable := #[], attributes := #[] }
def k1m2 : Method := { name := "step", desc := "(II)I", sig := { parameters := [.int, .int], returnType := some .int }, accessFlags := 10, code := some k1c2 }
/-- com/example/abalone/abalone/token/RegistrationNumberCrcPinLaw -/
def k1 : Class := { plain "com/example/abalone/abalone/token/RegistrationNumberCrcPinLaw" (some 0) with
  accessFlags := 49
  interfaces := #[]
  cf := some (fileOf pool1 15 #[] #[{ accessFlags := 1, nameIndex := 5, descriptorIndex := 6, attributes := #[] }, { accessFlags := 9, nameIndex := 26, descriptorIndex := 27, attributes := #[] }, { accessFlags := 10, nameIndex := 18, descriptorIndex := 19, attributes := #[] }] 49 2 #[] #[])
  fields := #[]
  methods := #[k1m0, k1m1, k1m2]
  instanceTypes := #[]
  staticTypes := #[]
  resolved := Array.replicate 31 none
  statics := none }

def pool2 : Array CpInfo := pool [(1, .methodref 2 3), (0, .class_ 4), (0, .nameAndType 5 6), (0, u "java/lang/Object"), (0, u "<init>"), (0, u "()V"), (0, .class_ 8), (0, u "java/lang/Record")] 13

def k2c0 : Code := { maxStack := 1, maxLocals := 1, code := jdk_30_method_1_code, exceptionTable := #[], attributes := #[] }
def k2m0 : Method := { name := "<init>", desc := "()V", sig := { parameters := [], returnType := none }, accessFlags := 4, code := some k2c0 }
/-- java/lang/Record -/
def k2 : Class := { plain "java/lang/Record" (some 0) with
  accessFlags := 1057
  interfaces := #[]
  cf := some (fileOf pool2 7 #[] #[{ accessFlags := 4, nameIndex := 5, descriptorIndex := 6, attributes := #[] }] 1057 2 #[] #[])
  fields := #[]
  methods := #[k2m0]
  instanceTypes := #[]
  staticTypes := #[]
  resolved := Array.replicate 22 none
  statics := none }

def pool3 : Array CpInfo := pool [(1, .class_ 2), (0, u "com/example/abalone/abalone/token/RegistrationNumber"), (0, .methodref 4 5), (0, .class_ 6), (0, .nameAndType 7 8), (0, u "java/lang/Record"), (0, u "<init>"), (0, u "()V"), (21, .long 281474976710655), (8, .fieldref 1 40), (0, .nameAndType 41 42), (0, u "familyCode"), (0, u "I"), (0, .fieldref 1 44), (0, .nameAndType 45 46), (0, u "serial"), (0, u "J"), (4, u "(IJ)V"), (2, u "crc"), (0, u "()I"), (2, .methodref 1 59), (0, .nameAndType 60 61), (0, u "update"), (0, u "(II)I"), (25, u "BYTES"), (2, u "SERIAL_BYTES"), (1, u "MAX_SERIAL"), (0, u "REFLECTED_POLYNOMIAL")] 34

def k3c0 : Code := { maxStack := 8, maxLocals := 4, code := prog_78_method_1_code, exceptionTable := #[], attributes := #[] }
def k3m0 : Method := { name := "<init>", desc := "(IJ)V", sig := { parameters := [.int, .long], returnType := none }, accessFlags := 1, code := some k3c0 }
def k3c1 : Code := { maxStack := 5, maxLocals := 3, code := prog_78_method_3_code, exceptionTable := #[], attributes := #[] }
def k3m1 : Method := { name := "crc", desc := "()I", sig := { parameters := [], returnType := some .int }, accessFlags := 1, code := some k3c1 }
def k3c2 : Code := { maxStack := 2, maxLocals := 4, code := prog_78_method_6_code, exceptionTable := #[], attributes := #[] }
def k3m2 : Method := { name := "update", desc := "(II)I", sig := { parameters := [.int, .int], returnType := some .int }, accessFlags := 10, code := some k3c2 }
/-- com/example/abalone/abalone/token/RegistrationNumber -/
def k3 : Class := { plain "com/example/abalone/abalone/token/RegistrationNumber" (some 2) with
  accessFlags := 49
  interfaces := #[]
  cf := some (fileOf pool3 1 #[] #[{ accessFlags := 1, nameIndex := 7, descriptorIndex := 51, attributes := #[] }, { accessFlags := 1, nameIndex := 54, descriptorIndex := 55, attributes := #[] }, { accessFlags := 10, nameIndex := 60, descriptorIndex := 61, attributes := #[] }] 49 4 #[] #[{ accessFlags := 18, nameIndex := 41, descriptorIndex := 42, attributes := #[] }, { accessFlags := 18, nameIndex := 45, descriptorIndex := 46, attributes := #[] }, { accessFlags := 25, nameIndex := 87, descriptorIndex := 42, attributes := #[] }, { accessFlags := 26, nameIndex := 90, descriptorIndex := 42, attributes := #[] }, { accessFlags := 25, nameIndex := 92, descriptorIndex := 46, attributes := #[] }, { accessFlags := 26, nameIndex := 93, descriptorIndex := 42, attributes := #[] }])
  fields := #[{ name := "familyCode", type := .int, accessFlags := 18, slot := 0, constantValue := 0 }, { name := "serial", type := .long, accessFlags := 18, slot := 1, constantValue := 0 }, { name := "BYTES", type := .int, accessFlags := 25, slot := 0, constantValue := 0 }, { name := "SERIAL_BYTES", type := .int, accessFlags := 26, slot := 1, constantValue := 0 }, { name := "MAX_SERIAL", type := .long, accessFlags := 25, slot := 2, constantValue := 0 }, { name := "REFLECTED_POLYNOMIAL", type := .int, accessFlags := 26, slot := 3, constantValue := 0 }]
  methods := #[k3m0, k3m1, k3m2]
  instanceTypes := #[.int, .long]
  staticTypes := #[.int, .int, .long, .int]
  resolved := Array.replicate 128 none
  statics := none }

def pool4 : Array CpInfo := pool [(1, u "java/lang/Cloneable"), (0, .class_ 1), (0, u "java/lang/Object"), (0, .class_ 3)] 3

/-- java/lang/Cloneable -/
def k4 : Class := { plain "java/lang/Cloneable" (some 0) with
  accessFlags := 1537
  interfaces := #[]
  cf := some (fileOf pool4 2 #[] #[] 1537 4 #[] #[])
  fields := #[]
  methods := #[]
  instanceTypes := #[]
  staticTypes := #[]
  resolved := Array.replicate 8 none
  statics := none }

def pool5 : Array CpInfo := pool [(1, u "java/io/Serializable"), (0, .class_ 1), (0, u "java/lang/Object"), (0, .class_ 3)] 3

/-- java/io/Serializable -/
def k5 : Class := { plain "java/io/Serializable" (some 0) with
  accessFlags := 1537
  interfaces := #[]
  cf := some (fileOf pool5 2 #[] #[] 1537 4 #[] #[])
  fields := #[]
  methods := #[]
  instanceTypes := #[]
  staticTypes := #[]
  resolved := Array.replicate 8 none
  statics := none }

/-- the primitive byte -/
def k6 : Class := { plain "byte" none with kind := .primitive 'B', accessFlags := 0x411 }
/-- [B -/
def k7 : Class := { plain "[B" (some 0) with kind := .array 6 .byte, interfaces := #[4, 5], accessFlags := 1041 }

/-- the primitive int -/
def k8 : Class := { plain "int" none with kind := .primitive 'I', accessFlags := 0x411 }
/-- [I -/
def k9 : Class := { plain "[I" (some 0) with kind := .array 8 .int, interfaces := #[4, 5], accessFlags := 1041 }

def heap : Heap := #[]
def classes : Array Class := #[k0, k1, k2, k3, k4, k5, k6, k7, k8, k9]
def interned : List (Array UInt16 × Addr) := []
def slotsUsed : Nat := 0
def theMethod : MethodId := ⟨1, 1⟩
def args0 : Array Value := #[.int 300, .long 123456789]
def aboutOver (below : List Frame) : State where
  vm := { classes := classes, interned := interned.toArray }
  heap := heap
  slotsUsed := slotsUsed
  threads := #[{ frames := .invoking theMethod args0 :: below }]
def below0 : List Frame := [.native { method := ⟨0, 0⟩, args := #[] }]
def about1 : State := aboutOver below0
def p0 : Program := .bare "" "" ""
def e0 : Env := launch0.env 0 0 0
theorem w_frames : about1.frames = Frame.invoking theMethod args0 :: below0 := rfl
set_option maxRecDepth 65536 in
theorem w_args : argsFit about1.vm theMethod args0 = true := by decide +kernel
set_option maxRecDepth 65536 in
theorem w_heap : heapFits about1 = true := by decide +kernel
set_option maxRecDepth 65536 in
theorem w_runnable : about1.curStatus? = some .runnable := by decide +kernel
set_option maxRecDepth 65536 in
theorem w_alone : about1.alone = true := by decide +kernel
set_option maxRecDepth 65536 in
theorem w_named : about1.methodNamed? x = some theMethod := by decide +kernel
set_option maxRecDepth 65536 in
theorem w_hears : about1.hears theMethod below0 = true := by decide +kernel
set_option maxRecDepth 65536 in
theorem w_ripe : about1.ripe theMethod args0 below0 = true := by decide +kernel
theorem w_running : about1.status = .running := rfl
set_option maxRecDepth 65536 in
theorem w_room : about1.hasRoom e0.platform room_1 = true :=
  launch0.hasRoom_least _ room_1 (by decide +kernel) (by decide +kernel) (by decide +kernel) (by decide +kernel) (by decide +kernel) (by decide +kernel)
theorem allAtoms_all (ts : List Jvm.Cond) (a : Array Jvm.Value) (st : Jvm.State) : (allAtoms ts).before a st = ts.all (fun c => c.before a st) := by
  induction ts with
  | nil => rfl
  | cons c t ih =>
    show (Jvm.Cond.and c (allAtoms t)).before a st = _
    rw [Jvm.Cond.before_and, ih, List.all_cons]
def words1 : List Jvm.Cond := Jvm.Cond.code x code maxLocals ret :: tables_1
/-- a 'code' word, met by the world's own term for the bytes: nothing is compared byte by byte -/
theorem code_word {y : MethodName} {bytes : ByteArray} {mx : Nat} {rt : Option FieldType} {a : Array Value} {s : State} {m : MethodId} {meth : Method} {c : Code} (h1 : s.methodNamed? y = some m) (h2 : s.vm.method? m = some meth) (h3 : meth.code = some c) (h4 : c.code = bytes)
    (h5 : (c.maxLocals == mx && c.exceptionTable.isEmpty && decide (c.maxStack ≤ mostOperands) && decide (meth.sig.returnType = rt) && !meth.locks && decide (parseMethodDescriptor y.desc = some meth.sig)) = true) : (Jvm.Cond.code y bytes mx rt).before a s = true := by
  simp only [Bool.and_eq_true, beq_iff_eq, Bool.not_eq_true', decide_eq_true_eq] at h5
  obtain ⟨⟨⟨⟨⟨g1, g2⟩, g3⟩, g4⟩, g5⟩, g6⟩ := h5
  simp [Cond.before, Cond.holds, Cond.value, h1, h2, h3, h4, g1, g2, g3, g4, g5, g6]
def isCode : Jvm.Cond → Bool
  | .code _ _ _ _ => true
  | _ => false
theorem all_split {L : List Jvm.Cond} {P : Jvm.Cond → Bool} (h1 : L.all (fun c => isCode c || P c) = true) (h2 : ∀ c ∈ L.filter isCode, P c = true) : L.all P = true := by
  refine List.all_eq_true.mpr fun c hc => ?_
  have h := List.all_eq_true.mp h1 c hc
  rcases Bool.eq_false_or_eq_true (isCode c) with hi | hi
  · exact h2 c (List.mem_filter.mpr ⟨hc, hi⟩)
  · simpa [hi] using h
set_option maxRecDepth 65536 in
theorem w_c0 : (Jvm.Cond.code x code maxLocals ret).before args0 about1 = true := code_word (m := ⟨1, 1⟩) (meth := k1m1) (c := k1c1) (by decide +kernel) rfl rfl rfl (by decide +kernel)
set_option maxRecDepth 65536 in
theorem w_c1 : (Jvm.Cond.code ({ cls := "com/example/abalone/abalone/token/RegistrationNumber", name := "<init>", desc := "(IJ)V" } : Jvm.MethodName) prog_78_method_1_code (4 : Nat) (Option.none : Option Jvm.ClassFile.FieldType)).before args0 about1 = true := code_word (m := ⟨3, 0⟩) (meth := k3m0) (c := k3c0) (by decide +kernel) rfl rfl rfl (by decide +kernel)
set_option maxRecDepth 65536 in
theorem w_c2 : (Jvm.Cond.code ({ cls := "java/lang/Record", name := "<init>", desc := "()V" } : Jvm.MethodName) jdk_30_method_1_code (1 : Nat) (Option.none : Option Jvm.ClassFile.FieldType)).before args0 about1 = true := code_word (m := ⟨2, 0⟩) (meth := k2m0) (c := k2c0) (by decide +kernel) rfl rfl rfl (by decide +kernel)
set_option maxRecDepth 65536 in
theorem w_c3 : (Jvm.Cond.code ({ cls := "java/lang/Object", name := "<init>", desc := "()V" } : Jvm.MethodName) object_method_1_code (1 : Nat) (Option.none : Option Jvm.ClassFile.FieldType)).before args0 about1 = true := code_word (m := ⟨0, 0⟩) (meth := k0m0) (c := k0c0) (by decide +kernel) rfl rfl rfl (by decide +kernel)
set_option maxRecDepth 65536 in
theorem w_c4 : (Jvm.Cond.code ({ cls := "com/example/abalone/abalone/token/RegistrationNumberCrcPinLaw", name := "step", desc := "(II)I" } : Jvm.MethodName) method_3_code (4 : Nat) (Option.some Jvm.ClassFile.FieldType.int)).before args0 about1 = true := code_word (m := ⟨1, 2⟩) (meth := k1m2) (c := k1c2) (by decide +kernel) rfl rfl rfl (by decide +kernel)
set_option maxRecDepth 65536 in
theorem w_c5 : (Jvm.Cond.code ({ cls := "com/example/abalone/abalone/token/RegistrationNumber", name := "crc", desc := "()I" } : Jvm.MethodName) prog_78_method_3_code (3 : Nat) (Option.some Jvm.ClassFile.FieldType.int)).before args0 about1 = true := code_word (m := ⟨3, 1⟩) (meth := k3m1) (c := k3c1) (by decide +kernel) rfl rfl rfl (by decide +kernel)
set_option maxRecDepth 65536 in
theorem w_c6 : (Jvm.Cond.code ({ cls := "com/example/abalone/abalone/token/RegistrationNumber", name := "update", desc := "(II)I" } : Jvm.MethodName) prog_78_method_6_code (4 : Nat) (Option.some Jvm.ClassFile.FieldType.int)).before args0 about1 = true := code_word (m := ⟨3, 2⟩) (meth := k3m2) (c := k3c2) (by decide +kernel) rfl rfl rfl (by decide +kernel)
def codes1 : List Jvm.Cond := [Jvm.Cond.code x code maxLocals ret, Jvm.Cond.code ({ cls := "com/example/abalone/abalone/token/RegistrationNumber", name := "<init>", desc := "(IJ)V" } : Jvm.MethodName) prog_78_method_1_code (4 : Nat) (Option.none : Option Jvm.ClassFile.FieldType), Jvm.Cond.code ({ cls := "java/lang/Record", name := "<init>", desc := "()V" } : Jvm.MethodName) jdk_30_method_1_code (1 : Nat) (Option.none : Option Jvm.ClassFile.FieldType), Jvm.Cond.code ({ cls := "java/lang/Object", name := "<init>", desc := "()V" } : Jvm.MethodName) object_method_1_code (1 : Nat) (Option.none : Option Jvm.ClassFile.FieldType), Jvm.Cond.code ({ cls := "com/example/abalone/abalone/token/RegistrationNumberCrcPinLaw", name := "step", desc := "(II)I" } : Jvm.MethodName) method_3_code (4 : Nat) (Option.some Jvm.ClassFile.FieldType.int), Jvm.Cond.code ({ cls := "com/example/abalone/abalone/token/RegistrationNumber", name := "crc", desc := "()I" } : Jvm.MethodName) prog_78_method_3_code (3 : Nat) (Option.some Jvm.ClassFile.FieldType.int), Jvm.Cond.code ({ cls := "com/example/abalone/abalone/token/RegistrationNumber", name := "update", desc := "(II)I" } : Jvm.MethodName) prog_78_method_6_code (4 : Nat) (Option.some Jvm.ClassFile.FieldType.int)]
set_option maxRecDepth 65536 in
theorem codes_eq : words1.filter isCode = codes1 := rfl
theorem w_codes : ∀ c ∈ words1.filter isCode, c.before args0 about1 = true := by
  rw [codes_eq]
  intro c hc
  simp only [codes1, List.mem_cons, List.not_mem_nil, or_false] at hc
  rcases hc with rfl | rfl | rfl | rfl | rfl | rfl | rfl
  · exact w_c0
  · exact w_c1
  · exact w_c2
  · exact w_c3
  · exact w_c4
  · exact w_c5
  · exact w_c6
set_option maxRecDepth 65536 in
theorem w_t1 : (words1.take 24).all (fun c => isCode c || c.before args0 about1) = true := by decide +kernel
set_option maxRecDepth 65536 in
theorem w_t2 : (words1.drop 24).all (fun c => isCode c || c.before args0 about1) = true := by decide +kernel
theorem w_tables : (allAtoms (Jvm.Cond.code x code maxLocals ret :: tables_1)).before args0 about1 = true := by
  rw [allAtoms_all]
  show words1.all (fun c => c.before args0 about1) = true
  refine all_split ?_ w_codes
  rw [← List.take_append_drop 24 words1, List.all_append, w_t1, w_t2]
  rfl
set_option maxRecDepth 65536 in
theorem w_case : (Jvm.Cond.and given_1 narrow_1).before args0 about1 = true := by decide +kernel
theorem w_applies : (headSpec (Jvm.Cond.code x code maxLocals ret :: tables_1) room_1).applies x e0.platform about1 = true :=
  (Spec.applies_iff w_frames).mpr ⟨w_running, w_runnable, w_alone, w_named, w_hears, w_ripe, w_room, w_tables⟩
theorem atStart : AtStart classFile x code maxLocals ret World_1 tables_1 room_1 Calls_1 rest_1 Pre_1 launch0 p0 e0 about1 theMethod args0 below0 :=
  ⟨lists_1, trivial, launch0.admits_env _ _ _, launch0.least_env, fairChoices_fair.cas, fairChoices_fair.clock, w_frames, w_args, w_heap, w_applies, trivial, trivial, w_case⟩
end start1
theorem witness_1 : WitnessClaimed_1 := ⟨start1.p0, start1.e0, start1.about1, start1.theMethod, start1.args0, start1.below0, start1.atStart⟩
end Jvm.Pilot.@@N@@
