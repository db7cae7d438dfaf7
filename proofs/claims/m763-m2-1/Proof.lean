import JvmDerived
import JvmDerived.Pilot.@@N@@Statement
import JvmDerived.Pilot.@@N@@Code
set_option linter.unusedVariables false
set_option linter.unusedSimpArgs false
namespace Jvm.Pilot.@@N@@
open Jvm Jvm.ClassFile Sem Op Lib Jvm.Free Jvm.Stand Jvm.LawKit Jvm.RoadKit Bundle Jvm.Pilot.@@N@@.Jvm.D
section OwnKit
variable {p : Program} {l : Launch} {e : Env} {R : Room} {s : State} {m : MethodId} {args : Array Value} {below : List Frame} {meth : Method} {c : Code} {T : State} {locs : List Loc} {cells slots : Nat} {P : State → Outcome → Prop} {Z : State} {a0 : Array Value} {h : Heap} {pc : Nat} {Ls : Array Slot} {st : List Value}
def Goes (p : Program) (e : Env) (below : List Frame) (S : State) (P : State → Outcome → Prop) : Prop := ∃ (U : State) (o : Outcome), Steps p.tables e below S U ∧ U.status = .running ∧ Ended U below o ∧ P U o
def Endz (s : State) (kc ks : Nat) (Q : Option Value → Heap → List Loc → Prop) (U : State) (o : Outcome) : Prop := ∃ v L, o = .returned v ∧ Q v U.heap L ∧ FrameEnd s o U L kc ks
theorem go {S S' : State} (hs : ∀ t, Steps p.tables e below S' t → Steps p.tables e below S t) (k : Goes p e below S' P) : Goes p e below S P := by
  obtain ⟨U, o, k1, k2⟩ := k
  exact ⟨U, o, hs U k1, k2⟩
theorem goT {S S' : State} (hs : Steps p.tables e below S S') (k : Goes p e below S' P) : Goes p e below S P := by
  obtain ⟨U, o, k1, k2⟩ := k
  exact ⟨U, o, hs.trans k1, k2⟩
theorem own_cast {g g' : JFrame} (q : g = g') (k : Goes p e below (T.setTop g') P) : Goes p e below (T.setTop g) P := q ▸ k
abbrev OwnMet (l : Launch) (Z : State) (y : MethodName) (bytes : ByteArray) (maxL : Nat) (ret : Option FieldType) (ws : List Jvm.Cond) (rm : Room) (as' : Array Value) (h : Heap) (Q : Option Value → Heap → List Loc → Prop) : Prop := MetFree l y (head1 (Jvm.Cond.code y bytes maxL ret :: ws) rm) (fun a U => a = as' ∧ Z.Warmed39 U.vm ∧ U.heap = h) (fun _ _ _ _ _ => True) (fun _ U o U' => ∃ v L, o = .returned v ∧ Q v U'.heap L ∧ FrameEnd U o U' L rm.cells rm.slots)
theorem own_body {y : MethodName} {bytes : ByteArray} {maxL : Nat} {ret : Option FieldType} {ws : List Jvm.Cond} {rm : Room} {as' : Array Value} {Q : Option Value → Heap → List Loc → Prop} (hpn : plainFor y = true)
    (B : ∀ (p : Program) (e : Env) (s : State) (m : MethodId) (below : List Frame) (meth : Method) (c : Code) (s₁ : State), p.tables.exec = Jvm.exec → c.code = bytes → c.maxLocals = maxL → s.vm.findClass y.cls = some m.cls → meth.name = y.name → meth.sig.returnType = ret → meth.locks = false → Z.Warmed39 s.vm → Stand p l e rm s m as' below meth c s₁ [] 0 0 → s₁.heap = h → Goes p e below (s₁.setTop (entryFrame m as' maxL)) (Endz s rm.cells rm.slots Q)) : OwnMet l Z y bytes maxL ret ws rm as' h Q := by
  refine MetFree.of_bodySF hpn hisR ?_
  intro p e s m args below meth c s₁ Bd hml0 hP hK
  obtain ⟨rfl, hZ, hh⟩ := hP
  exact B p e s m below meth c s₁ Bd.exec Bd.bytes hml0 (findClass_of_methodNamed Bd.named) (name_of_methodNamed Bd.named Bd.method).1 Bd.returns (BodyLoose.notSynchronized Bd) hZ (Stand.of_body Bd) (by rw [← hh, Bd.state]; rfl)
theorem g_ret {w : Value} {t : FieldType} {i : Instr} {kc ks : Nat} {Q : Option Value → Heap → List Loc → Prop} (X : Stand p l e R s m args below meth c T locs cells slots) (hx : p.tables.exec = Jvm.exec) (hret : meth.sig.returnType = some t) (hlk : meth.locks = false) (hn : narrow t w = w)
    (hi : (i = .ireturn ∧ (t = .int ∨ t = .boolean ∨ t = .byte ∨ t = .char ∨ t = .short) ∧ ∃ z, w = .int z) ∨ (i = .lreturn ∧ t = .long ∧ ∃ z, w = .long z) ∨ (i = .dreturn ∧ t = .double ∧ ∃ z, w = .double z) ∨ (i = .freturn ∧ t = .float ∧ ∃ z, w = .float z) ∨ (i = .areturn ∧ t.isReference = true ∧ w.isRef = true))
    (hd : decode c.code pc = .ok (i, 1)) (hQ : Q (some w) T.heap locs) (hc : cells ≤ kc) (hs : slots ≤ ks) : Goes p e below (T.setTop (mkF m pc Ls (w :: st))) (Endz s kc ks Q) := by
  obtain ⟨fs, hr, hrun, hended, hW, hsame⟩ := X.leave (v := some w) (fun h => by rw [hret] at h; cases h) hlk
  exact ⟨_, _, retOut X hx hret hn hi hd hr, hrun, hended, _, _, rfl, hQ, ⟨_, rfl⟩, hW, hsame.mono hc hs⟩
theorem g_retI {z : Int32} {kc ks : Nat} {Q : Option Value → Heap → List Loc → Prop} (X : Stand p l e R s m args below meth c T locs cells slots) (hx : p.tables.exec = Jvm.exec) (hret : meth.sig.returnType = some .int) (hlk : meth.locks = false) (hd : decode c.code pc = .ok (.ireturn, 1)) (hQ : Q (some (.int z)) T.heap locs) (hc : cells ≤ kc) (hs : slots ≤ ks) : Goes p e below (T.setTop (mkF m pc Ls (.int z :: st))) (Endz s kc ks Q) :=
  g_ret X hx hret hlk rfl (Or.inl ⟨rfl, Or.inl rfl, z, rfl⟩) hd hQ hc hs
theorem g_retZ {z : Int32} {kc ks : Nat} {Q : Option Value → Heap → List Loc → Prop} (X : Stand p l e R s m args below meth c T locs cells slots) (hx : p.tables.exec = Jvm.exec) (hret : meth.sig.returnType = some .boolean) (hlk : meth.locks = false) (hn : narrow .boolean (.int z) = .int z) (hd : decode c.code pc = .ok (.ireturn, 1)) (hQ : Q (some (.int z)) T.heap locs) (hc : cells ≤ kc) (hs : slots ≤ ks) : Goes p e below (T.setTop (mkF m pc Ls (.int z :: st))) (Endz s kc ks Q) :=
  g_ret X hx hret hlk hn (Or.inl ⟨rfl, Or.inr (Or.inl rfl), z, rfl⟩) hd hQ hc hs
theorem g_retJ {z : Int64} {kc ks : Nat} {Q : Option Value → Heap → List Loc → Prop} (X : Stand p l e R s m args below meth c T locs cells slots) (hx : p.tables.exec = Jvm.exec) (hret : meth.sig.returnType = some .long) (hlk : meth.locks = false) (hd : decode c.code pc = .ok (.lreturn, 1)) (hQ : Q (some (.long z)) T.heap locs) (hc : cells ≤ kc) (hs : slots ≤ ks) : Goes p e below (T.setTop (mkF m pc Ls (.long z :: st))) (Endz s kc ks Q) :=
  g_ret X hx hret hlk rfl (Or.inr (Or.inl ⟨rfl, rfl, z, rfl⟩)) hd hQ hc hs
theorem g_retA {w : Value} {t : FieldType} {kc ks : Nat} {Q : Option Value → Heap → List Loc → Prop} (X : Stand p l e R s m args below meth c T locs cells slots) (hx : p.tables.exec = Jvm.exec) (hret : meth.sig.returnType = some t) (hlk : meth.locks = false) (hn : narrow t w = w) (ht : t.isReference = true) (hw : w.isRef = true) (hd : decode c.code pc = .ok (.areturn, 1)) (hQ : Q (some w) T.heap locs) (hc : cells ≤ kc) (hs : slots ≤ ks) : Goes p e below (T.setTop (mkF m pc Ls (w :: st))) (Endz s kc ks Q) :=
  g_ret X hx hret hlk hn (Or.inr (Or.inr (Or.inr (Or.inr ⟨rfl, ht, hw⟩)))) hd hQ hc hs
theorem g_ret0 {kc ks : Nat} {Q : Option Value → Heap → List Loc → Prop} (X : Stand p l e R s m args below meth c T locs cells slots) (hx : p.tables.exec = Jvm.exec) (hret : meth.sig.returnType = none) (hlk : meth.locks = false) (hd : decode c.code pc = .ok (.return_, 1)) (hQ : Q none T.heap locs) (hc : cells ≤ kc) (hs : slots ≤ ks) : Goes p e below (T.setTop (mkF m pc Ls [])) (Endz s kc ks Q) := by
  obtain ⟨fs, hr, hrun, hended, hW, hsame⟩ := X.leave (v := none) (fun _ => rfl) hlk
  exact ⟨_, _, X.returnOut hx hret hd hr, hrun, hended, _, _, rfl, hQ, ⟨_, rfl⟩, hW, hsame.mono hc hs⟩
theorem g_iadd (X : Stand p l e R s m args below meth c T locs cells slots) (hx : p.tables.exec = Jvm.exec) (pc' : Nat) (hpc : pc + 1 = pc') {x y : Int32} (hd : decode c.code pc = .ok (.iadd, 1))  (K : Goes p e below (T.setTop (mkF m pc' Ls (.int (x + y) :: st))) P) : Goes p e below (T.setTop (mkF m pc Ls (.int y :: .int x :: st))) P := by
  subst hpc; exact go (fun _ q => XS.iadd X.here hx rfl hd rfl q) K
theorem g_isub (X : Stand p l e R s m args below meth c T locs cells slots) (hx : p.tables.exec = Jvm.exec) (pc' : Nat) (hpc : pc + 1 = pc') {x y : Int32} (hd : decode c.code pc = .ok (.isub, 1))  (K : Goes p e below (T.setTop (mkF m pc' Ls (.int (x - y) :: st))) P) : Goes p e below (T.setTop (mkF m pc Ls (.int y :: .int x :: st))) P := by
  subst hpc; exact go (fun _ q => XS.isub X.here hx rfl hd rfl q) K
theorem g_imul (X : Stand p l e R s m args below meth c T locs cells slots) (hx : p.tables.exec = Jvm.exec) (pc' : Nat) (hpc : pc + 1 = pc') {x y : Int32} (hd : decode c.code pc = .ok (.imul, 1))  (K : Goes p e below (T.setTop (mkF m pc' Ls (.int (x * y) :: st))) P) : Goes p e below (T.setTop (mkF m pc Ls (.int y :: .int x :: st))) P := by
  subst hpc; exact go (fun _ q => XS.imul X.here hx rfl hd rfl q) K
theorem g_iand (X : Stand p l e R s m args below meth c T locs cells slots) (hx : p.tables.exec = Jvm.exec) (pc' : Nat) (hpc : pc + 1 = pc') {x y : Int32} (hd : decode c.code pc = .ok (.iand, 1))  (K : Goes p e below (T.setTop (mkF m pc' Ls (.int (x &&& y) :: st))) P) : Goes p e below (T.setTop (mkF m pc Ls (.int y :: .int x :: st))) P := by
  subst hpc; exact go (fun _ q => XS.iand X.here hx rfl hd rfl q) K
theorem g_ior (X : Stand p l e R s m args below meth c T locs cells slots) (hx : p.tables.exec = Jvm.exec) (pc' : Nat) (hpc : pc + 1 = pc') {x y : Int32} (hd : decode c.code pc = .ok (.ior, 1))  (K : Goes p e below (T.setTop (mkF m pc' Ls (.int (x ||| y) :: st))) P) : Goes p e below (T.setTop (mkF m pc Ls (.int y :: .int x :: st))) P := by
  subst hpc; exact go (fun _ q => XT.ior X.here hx rfl hd rfl q) K
theorem g_ixor (X : Stand p l e R s m args below meth c T locs cells slots) (hx : p.tables.exec = Jvm.exec) (pc' : Nat) (hpc : pc + 1 = pc') {x y : Int32} (hd : decode c.code pc = .ok (.ixor, 1))  (K : Goes p e below (T.setTop (mkF m pc' Ls (.int (x ^^^ y) :: st))) P) : Goes p e below (T.setTop (mkF m pc Ls (.int y :: .int x :: st))) P := by
  subst hpc; exact go (fun _ q => XT.ixor X.here hx rfl hd rfl q) K
theorem g_ishl (X : Stand p l e R s m args below meth c T locs cells slots) (hx : p.tables.exec = Jvm.exec) (pc' : Nat) (hpc : pc + 1 = pc') {x y : Int32} (hd : decode c.code pc = .ok (.ishl, 1))  (K : Goes p e below (T.setTop (mkF m pc' Ls (.int (x <<< (y &&& 31)) :: st))) P) : Goes p e below (T.setTop (mkF m pc Ls (.int y :: .int x :: st))) P := by
  subst hpc; exact go (fun _ q => XT.ishl X.here hx rfl hd rfl q) K
theorem g_ishr (X : Stand p l e R s m args below meth c T locs cells slots) (hx : p.tables.exec = Jvm.exec) (pc' : Nat) (hpc : pc + 1 = pc') {x y : Int32} (hd : decode c.code pc = .ok (.ishr, 1))  (K : Goes p e below (T.setTop (mkF m pc' Ls (.int (x >>> (y &&& 31)) :: st))) P) : Goes p e below (T.setTop (mkF m pc Ls (.int y :: .int x :: st))) P := by
  subst hpc; exact go (fun _ q => XT.ishr X.here hx rfl hd rfl q) K
theorem g_iushr (X : Stand p l e R s m args below meth c T locs cells slots) (hx : p.tables.exec = Jvm.exec) (pc' : Nat) (hpc : pc + 1 = pc') {x y : Int32} (hd : decode c.code pc = .ok (.iushr, 1))  (K : Goes p e below (T.setTop (mkF m pc' Ls (.int (XT.ushr x y) :: st))) P) : Goes p e below (T.setTop (mkF m pc Ls (.int y :: .int x :: st))) P := by
  subst hpc; exact go (fun _ q => XT.iushr X.here hx rfl hd rfl q) K
theorem g_idiv (X : Stand p l e R s m args below meth c T locs cells slots) (hx : p.tables.exec = Jvm.exec) (pc' : Nat) (hpc : pc + 1 = pc') {x y : Int32} (hd : decode c.code pc = .ok (.idiv, 1)) (hy : y ≠ 0) (K : Goes p e below (T.setTop (mkF m pc' Ls (.int (x / y) :: st))) P) : Goes p e below (T.setTop (mkF m pc Ls (.int y :: .int x :: st))) P := by
  subst hpc; exact go (fun _ q => XS.idiv X.here hx rfl hd rfl hy q) K
theorem g_irem (X : Stand p l e R s m args below meth c T locs cells slots) (hx : p.tables.exec = Jvm.exec) (pc' : Nat) (hpc : pc + 1 = pc') {x y : Int32} (hd : decode c.code pc = .ok (.irem, 1)) (hy : y ≠ 0) (K : Goes p e below (T.setTop (mkF m pc' Ls (.int (x % y) :: st))) P) : Goes p e below (T.setTop (mkF m pc Ls (.int y :: .int x :: st))) P := by
  subst hpc; exact go (fun _ q => iremM X hx rfl hd rfl hy q) K
theorem g_ineg (X : Stand p l e R s m args below meth c T locs cells slots) (hx : p.tables.exec = Jvm.exec) (pc' : Nat) (hpc : pc + 1 = pc') {x : Int32} (hd : decode c.code pc = .ok (.ineg, 1))  (K : Goes p e below (T.setTop (mkF m pc' Ls (.int (-x) :: st))) P) : Goes p e below (T.setTop (mkF m pc Ls (.int x :: st))) P := by
  subst hpc; exact go (fun _ q => XS.ineg X.here hx rfl hd rfl q) K
theorem g_ladd (X : Stand p l e R s m args below meth c T locs cells slots) (hx : p.tables.exec = Jvm.exec) (pc' : Nat) (hpc : pc + 1 = pc') {x y : Int64} (hd : decode c.code pc = .ok (.ladd, 1))  (K : Goes p e below (T.setTop (mkF m pc' Ls (.long (x + y) :: st))) P) : Goes p e below (T.setTop (mkF m pc Ls (.long y :: .long x :: st))) P := by
  subst hpc; exact go (fun _ q => XT.ladd X.here hx rfl hd rfl q) K
theorem g_lsub (X : Stand p l e R s m args below meth c T locs cells slots) (hx : p.tables.exec = Jvm.exec) (pc' : Nat) (hpc : pc + 1 = pc') {x y : Int64} (hd : decode c.code pc = .ok (.lsub, 1))  (K : Goes p e below (T.setTop (mkF m pc' Ls (.long (x - y) :: st))) P) : Goes p e below (T.setTop (mkF m pc Ls (.long y :: .long x :: st))) P := by
  subst hpc; exact go (fun _ q => XT.lsub X.here hx rfl hd rfl q) K
theorem g_lmul (X : Stand p l e R s m args below meth c T locs cells slots) (hx : p.tables.exec = Jvm.exec) (pc' : Nat) (hpc : pc + 1 = pc') {x y : Int64} (hd : decode c.code pc = .ok (.lmul, 1))  (K : Goes p e below (T.setTop (mkF m pc' Ls (.long (x * y) :: st))) P) : Goes p e below (T.setTop (mkF m pc Ls (.long y :: .long x :: st))) P := by
  subst hpc; exact go (fun _ q => XT.lmul X.here hx rfl hd rfl q) K
theorem g_land (X : Stand p l e R s m args below meth c T locs cells slots) (hx : p.tables.exec = Jvm.exec) (pc' : Nat) (hpc : pc + 1 = pc') {x y : Int64} (hd : decode c.code pc = .ok (.land, 1))  (K : Goes p e below (T.setTop (mkF m pc' Ls (.long (x &&& y) :: st))) P) : Goes p e below (T.setTop (mkF m pc Ls (.long y :: .long x :: st))) P := by
  subst hpc; exact go (fun _ q => XT.land X.here hx rfl hd rfl q) K
theorem g_lor (X : Stand p l e R s m args below meth c T locs cells slots) (hx : p.tables.exec = Jvm.exec) (pc' : Nat) (hpc : pc + 1 = pc') {x y : Int64} (hd : decode c.code pc = .ok (.lor, 1))  (K : Goes p e below (T.setTop (mkF m pc' Ls (.long (x ||| y) :: st))) P) : Goes p e below (T.setTop (mkF m pc Ls (.long y :: .long x :: st))) P := by
  subst hpc; exact go (fun _ q => XT.lor X.here hx rfl hd rfl q) K
theorem g_lxor (X : Stand p l e R s m args below meth c T locs cells slots) (hx : p.tables.exec = Jvm.exec) (pc' : Nat) (hpc : pc + 1 = pc') {x y : Int64} (hd : decode c.code pc = .ok (.lxor, 1))  (K : Goes p e below (T.setTop (mkF m pc' Ls (.long (x ^^^ y) :: st))) P) : Goes p e below (T.setTop (mkF m pc Ls (.long y :: .long x :: st))) P := by
  subst hpc; exact go (fun _ q => XT.lxor X.here hx rfl hd rfl q) K
theorem g_lshl (X : Stand p l e R s m args below meth c T locs cells slots) (hx : p.tables.exec = Jvm.exec) (pc' : Nat) (hpc : pc + 1 = pc') {x : Int64} {y : Int32} (hd : decode c.code pc = .ok (.lshl, 1))  (K : Goes p e below (T.setTop (mkF m pc' Ls (.long (x <<< (y.toInt64 &&& 63)) :: st))) P) : Goes p e below (T.setTop (mkF m pc Ls (.int y :: .long x :: st))) P := by
  subst hpc; exact go (fun _ q => XT.lshl X.here hx rfl hd rfl q) K
theorem g_lshr (X : Stand p l e R s m args below meth c T locs cells slots) (hx : p.tables.exec = Jvm.exec) (pc' : Nat) (hpc : pc + 1 = pc') {x : Int64} {y : Int32} (hd : decode c.code pc = .ok (.lshr, 1))  (K : Goes p e below (T.setTop (mkF m pc' Ls (.long (x >>> (y.toInt64 &&& 63)) :: st))) P) : Goes p e below (T.setTop (mkF m pc Ls (.int y :: .long x :: st))) P := by
  subst hpc; exact go (fun _ q => XT.lshr X.here hx rfl hd rfl q) K
theorem g_lushr (X : Stand p l e R s m args below meth c T locs cells slots) (hx : p.tables.exec = Jvm.exec) (pc' : Nat) (hpc : pc + 1 = pc') {x : Int64} {y : Int32} (hd : decode c.code pc = .ok (.lushr, 1))  (K : Goes p e below (T.setTop (mkF m pc' Ls (.long (XT.ushrL x y) :: st))) P) : Goes p e below (T.setTop (mkF m pc Ls (.int y :: .long x :: st))) P := by
  subst hpc; exact go (fun _ q => XT.lushr X.here hx rfl hd rfl q) K
theorem g_ldiv (X : Stand p l e R s m args below meth c T locs cells slots) (hx : p.tables.exec = Jvm.exec) (pc' : Nat) (hpc : pc + 1 = pc') {x y : Int64} (hd : decode c.code pc = .ok (.ldiv, 1)) (hy : y ≠ 0) (K : Goes p e below (T.setTop (mkF m pc' Ls (.long (x / y) :: st))) P) : Goes p e below (T.setTop (mkF m pc Ls (.long y :: .long x :: st))) P := by
  subst hpc; exact go (fun _ q => XT.ldiv X.here hx rfl hd rfl hy q) K
theorem g_lrem (X : Stand p l e R s m args below meth c T locs cells slots) (hx : p.tables.exec = Jvm.exec) (pc' : Nat) (hpc : pc + 1 = pc') {x y : Int64} (hd : decode c.code pc = .ok (.lrem, 1)) (hy : y ≠ 0) (K : Goes p e below (T.setTop (mkF m pc' Ls (.long (x % y) :: st))) P) : Goes p e below (T.setTop (mkF m pc Ls (.long y :: .long x :: st))) P := by
  subst hpc; exact go (fun _ q => XT.lrem X.here hx rfl hd rfl hy (by rw [lrem_mod]; exact q)) K
theorem g_lneg (X : Stand p l e R s m args below meth c T locs cells slots) (hx : p.tables.exec = Jvm.exec) (pc' : Nat) (hpc : pc + 1 = pc') {x : Int64} (hd : decode c.code pc = .ok (.lneg, 1))  (K : Goes p e below (T.setTop (mkF m pc' Ls (.long (-x) :: st))) P) : Goes p e below (T.setTop (mkF m pc Ls (.long x :: st))) P := by
  subst hpc; exact go (fun _ q => XT.lneg X.here hx rfl hd rfl q) K
theorem g_i2l (X : Stand p l e R s m args below meth c T locs cells slots) (hx : p.tables.exec = Jvm.exec) (pc' : Nat) (hpc : pc + 1 = pc') {x : Int32} (hd : decode c.code pc = .ok (.i2l, 1))  (K : Goes p e below (T.setTop (mkF m pc' Ls (.long x.toInt64 :: st))) P) : Goes p e below (T.setTop (mkF m pc Ls (.int x :: st))) P := by
  subst hpc; exact go (fun _ q => XT.i2l X.here hx rfl hd rfl q) K
theorem g_l2i (X : Stand p l e R s m args below meth c T locs cells slots) (hx : p.tables.exec = Jvm.exec) (pc' : Nat) (hpc : pc + 1 = pc') {x : Int64} (hd : decode c.code pc = .ok (.l2i, 1))  (K : Goes p e below (T.setTop (mkF m pc' Ls (.int x.toInt32 :: st))) P) : Goes p e below (T.setTop (mkF m pc Ls (.long x :: st))) P := by
  subst hpc; exact go (fun _ q => XT.l2i X.here hx rfl hd rfl q) K
theorem g_i2b (X : Stand p l e R s m args below meth c T locs cells slots) (hx : p.tables.exec = Jvm.exec) (pc' : Nat) (hpc : pc + 1 = pc') {x : Int32} (hd : decode c.code pc = .ok (.i2b, 1))  (K : Goes p e below (T.setTop (mkF m pc' Ls (.int x.toInt8.toInt32 :: st))) P) : Goes p e below (T.setTop (mkF m pc Ls (.int x :: st))) P := by
  subst hpc; exact go (fun _ q => XT.i2b X.here hx rfl hd rfl q) K
theorem g_i2c (X : Stand p l e R s m args below meth c T locs cells slots) (hx : p.tables.exec = Jvm.exec) (pc' : Nat) (hpc : pc + 1 = pc') {x : Int32} (hd : decode c.code pc = .ok (.i2c, 1))  (K : Goes p e below (T.setTop (mkF m pc' Ls (.int x.toUInt32.toUInt16.toUInt32.toInt32 :: st))) P) : Goes p e below (T.setTop (mkF m pc Ls (.int x :: st))) P := by
  subst hpc; exact go (fun _ q => XT.i2c X.here hx rfl hd rfl q) K
theorem g_i2s (X : Stand p l e R s m args below meth c T locs cells slots) (hx : p.tables.exec = Jvm.exec) (pc' : Nat) (hpc : pc + 1 = pc') {x : Int32} (hd : decode c.code pc = .ok (.i2s, 1))  (K : Goes p e below (T.setTop (mkF m pc' Ls (.int x.toInt16.toInt32 :: st))) P) : Goes p e below (T.setTop (mkF m pc Ls (.int x :: st))) P := by
  subst hpc; exact go (fun _ q => XT.i2s X.here hx rfl hd rfl q) K
theorem g_lcmp (X : Stand p l e R s m args below meth c T locs cells slots) (hx : p.tables.exec = Jvm.exec) (pc' : Nat) (hpc : pc + 1 = pc') {x y : Int64} (hd : decode c.code pc = .ok (.lcmp, 1))  (K : Goes p e below (T.setTop (mkF m pc' Ls (.int (XT.cmpL x y) :: st))) P) : Goes p e below (T.setTop (mkF m pc Ls (.long y :: .long x :: st))) P := by
  subst hpc; exact go (fun _ q => XT.lcmp X.here hx rfl hd rfl q) K
theorem g_dup (X : Stand p l e R s m args below meth c T locs cells slots) (hx : p.tables.exec = Jvm.exec) (pc' : Nat) (hpc : pc + 1 = pc') {x : Value} (hd : decode c.code pc = .ok (.dup, 1)) (hc : x.category = 1) (K : Goes p e below (T.setTop (mkF m pc' Ls (x :: x :: st))) P) : Goes p e below (T.setTop (mkF m pc Ls (x :: st))) P := by
  subst hpc; exact go (fun _ q => XS.dup X.here hx rfl hd rfl hc q) K
theorem g_pop (X : Stand p l e R s m args below meth c T locs cells slots) (hx : p.tables.exec = Jvm.exec) (pc' : Nat) (hpc : pc + 1 = pc') {x : Value} (hd : decode c.code pc = .ok (.pop, 1)) (hc : x.category = 1) (K : Goes p e below (T.setTop (mkF m pc' Ls (st))) P) : Goes p e below (T.setTop (mkF m pc Ls (x :: st))) P := by
  subst hpc; exact go (fun _ q => XT.pop X.here hx rfl hd rfl hc q) K
theorem g_dup_x1 (X : Stand p l e R s m args below meth c T locs cells slots) (hx : p.tables.exec = Jvm.exec) (pc' : Nat) (hpc : pc + 1 = pc') {x y : Value} (hd : decode c.code pc = .ok (.dup_x1, 1)) (hc : x.category = 1) (hc' : y.category = 1) (K : Goes p e below (T.setTop (mkF m pc' Ls (x :: y :: x :: st))) P) : Goes p e below (T.setTop (mkF m pc Ls (x :: y :: st))) P := by
  subst hpc; exact go (fun _ q => XT.dupX1 X.here hx rfl hd rfl hc hc' q) K
theorem g_dup2 (X : Stand p l e R s m args below meth c T locs cells slots) (hx : p.tables.exec = Jvm.exec) (pc' : Nat) (hpc : pc + 1 = pc') {x y : Value} (hd : decode c.code pc = .ok (.dup2, 1)) (hc : x.category = 1) (hc' : y.category = 1) (K : Goes p e below (T.setTop (mkF m pc' Ls (x :: y :: x :: y :: st))) P) : Goes p e below (T.setTop (mkF m pc Ls (x :: y :: st))) P := by
  subst hpc; exact go (fun _ q => XT.dup2 X.here hx rfl hd rfl hc hc' q) K
theorem g_dup2L (X : Stand p l e R s m args below meth c T locs cells slots) (hx : p.tables.exec = Jvm.exec) (pc' : Nat) (hpc : pc + 1 = pc') {x : Int64} (hd : decode c.code pc = .ok (.dup2, 1))  (K : Goes p e below (T.setTop (mkF m pc' Ls (.long x :: .long x :: st))) P) : Goes p e below (T.setTop (mkF m pc Ls (.long x :: st))) P := by
  subst hpc; exact go (fun _ q => XT.dup2L X.here hx rfl hd rfl q) K
theorem g_iconst (X : Stand p l e R s m args below meth c T locs cells slots) (hx : p.tables.exec = Jvm.exec) (pc' : Nat) (hpc : pc + 1 = pc') {i : Int} (v : Int32) (hv : Int32.ofInt i = v) (hd : decode c.code pc = .ok (.iconst i, 1))  (K : Goes p e below (T.setTop (mkF m pc' Ls (.int v :: st))) P) : Goes p e below (T.setTop (mkF m pc Ls (st))) P := by
  subst hpc; exact go (fun _ q => XS.iconst X.here hx rfl hd (by rw [hv]; exact q)) K
theorem g_bipush (X : Stand p l e R s m args below meth c T locs cells slots) (hx : p.tables.exec = Jvm.exec) (pc' : Nat) (hpc : pc + 2 = pc') {i : Int} (v : Int32) (hv : (Int8.ofInt i).toInt32 = v) (hd : decode c.code pc = .ok (.bipush i, 2))  (K : Goes p e below (T.setTop (mkF m pc' Ls (.int v :: st))) P) : Goes p e below (T.setTop (mkF m pc Ls (st))) P := by
  subst hpc; exact go (fun _ q => XS.bipush X.here hx rfl hd (by rw [hv]; exact q)) K
theorem g_sipush (X : Stand p l e R s m args below meth c T locs cells slots) (hx : p.tables.exec = Jvm.exec) (pc' : Nat) (hpc : pc + 3 = pc') {i : Int} (v : Int32) (hv : (Int16.ofInt i).toInt32 = v) (hd : decode c.code pc = .ok (.sipush i, 3))  (K : Goes p e below (T.setTop (mkF m pc' Ls (.int v :: st))) P) : Goes p e below (T.setTop (mkF m pc Ls (st))) P := by
  subst hpc; exact go (fun _ q => XS.sipush X.here hx rfl hd (by rw [hv]; exact q)) K
theorem g_lconst (X : Stand p l e R s m args below meth c T locs cells slots) (hx : p.tables.exec = Jvm.exec) (pc' : Nat) (hpc : pc + 1 = pc') {k : Fin 2} (v : Int64) (hv : Int64.ofNat k = v) (hd : decode c.code pc = .ok (.lconst k, 1))  (K : Goes p e below (T.setTop (mkF m pc' Ls (.long v :: st))) P) : Goes p e below (T.setTop (mkF m pc Ls (st))) P := by
  subst hpc; exact go (fun _ q => XT.lconst X.here hx rfl hd (by rw [hv]; exact q)) K
theorem g_aconst_null (X : Stand p l e R s m args below meth c T locs cells slots) (hx : p.tables.exec = Jvm.exec) (pc' : Nat) (hpc : pc + 1 = pc')  (hd : decode c.code pc = .ok (.aconst_null, 1))  (K : Goes p e below (T.setTop (mkF m pc' Ls (.null :: st))) P) : Goes p e below (T.setTop (mkF m pc Ls (st))) P := by
  subst hpc; exact go (fun _ q => XS.aconstNull X.here hx rfl hd q) K
theorem g_ldcI (X : Stand p l e R s m args below meth c T locs cells slots) (hx : p.tables.exec = Jvm.exec) (pc' : Nat) (hpc : pc + 2 = pc') {own : String} {index : Nat} {v : Int32} (hown : s.vm.findClass own = some m.cls) (hZ : Z.Warmed39 s.vm) (w : (Jvm.Cond.constant own index v).before a0 Z = true) (hd : decode c.code pc = .ok (.ldc index, 2))  (K : Goes p e below (T.setTop (mkF m pc' Ls (.int v :: st))) P) : Goes p e below (T.setTop (mkF m pc Ls (st))) P := by
  subst hpc; exact go (fun _ q => X.ldcInt hx hown (mvT hZ w) (g := mkF m pc Ls st) rfl hd _ q) K
theorem g_ldcJ (X : Stand p l e R s m args below meth c T locs cells slots) (hx : p.tables.exec = Jvm.exec) (pc' : Nat) (hpc : pc + 3 = pc') {own : String} {index : Nat} {v : Int64} (hown : s.vm.findClass own = some m.cls) (hZ : Z.Warmed39 s.vm) (w : (Jvm.Cond.constantLong own index v).before a0 Z = true) (hd : decode c.code pc = .ok (.ldc2_w index, 3))  (K : Goes p e below (T.setTop (mkF m pc' Ls (.long v :: st))) P) : Goes p e below (T.setTop (mkF m pc Ls (st))) P := by
  subst hpc; exact go (fun _ q => X.ldc2Long hx hown (mvT hZ w) (g := mkF m pc Ls st) rfl hd _ q) K
theorem g_iload_n (X : Stand p l e R s m args below meth c T locs cells slots) (hx : p.tables.exec = Jvm.exec) (pc' : Nat) (hpc : pc + 1 = pc') {k : Fin 4} {v : Int32} (hd : decode c.code pc = .ok (.iload_n k, 1)) (hl : Ls[k.val]? = some (.val (.int v))) (K : Goes p e below (T.setTop (mkF m pc' Ls (.int v :: st))) P) : Goes p e below (T.setTop (mkF m pc Ls (st))) P := by
  subst hpc; exact go (fun _ q => XS.iloadN X.here hx rfl hd hl q) K
theorem g_iload (X : Stand p l e R s m args below meth c T locs cells slots) (hx : p.tables.exec = Jvm.exec) (pc' : Nat) (hpc : pc + 2 = pc') {k : Nat} {v : Int32} (hd : decode c.code pc = .ok (.iload k, 2)) (hl : Ls[k]? = some (.val (.int v))) (K : Goes p e below (T.setTop (mkF m pc' Ls (.int v :: st))) P) : Goes p e below (T.setTop (mkF m pc Ls (st))) P := by
  subst hpc; exact go (fun _ q => XS.iload X.here hx rfl hd hl q) K
theorem g_lload_n (X : Stand p l e R s m args below meth c T locs cells slots) (hx : p.tables.exec = Jvm.exec) (pc' : Nat) (hpc : pc + 1 = pc') {k : Fin 4} {v : Int64} (hd : decode c.code pc = .ok (.lload_n k, 1)) (hl : Ls[k.val]? = some (.val (.long v))) (K : Goes p e below (T.setTop (mkF m pc' Ls (.long v :: st))) P) : Goes p e below (T.setTop (mkF m pc Ls (st))) P := by
  subst hpc; exact go (fun _ q => XT.lloadN X.here hx rfl hd hl q) K
theorem g_lload (X : Stand p l e R s m args below meth c T locs cells slots) (hx : p.tables.exec = Jvm.exec) (pc' : Nat) (hpc : pc + 2 = pc') {k : Nat} {v : Int64} (hd : decode c.code pc = .ok (.lload k, 2)) (hl : Ls[k]? = some (.val (.long v))) (K : Goes p e below (T.setTop (mkF m pc' Ls (.long v :: st))) P) : Goes p e below (T.setTop (mkF m pc Ls (st))) P := by
  subst hpc; exact go (fun _ q => XT.lload X.here hx rfl hd hl q) K
theorem g_aload_n (X : Stand p l e R s m args below meth c T locs cells slots) (hx : p.tables.exec = Jvm.exec) (pc' : Nat) (hpc : pc + 1 = pc') {k : Fin 4} {v : Value} (hd : decode c.code pc = .ok (.aload_n k, 1)) (hl : Ls[k.val]? = some (.val v)) (hv : v.isRef = true) (K : Goes p e below (T.setTop (mkF m pc' Ls (v :: st))) P) : Goes p e below (T.setTop (mkF m pc Ls (st))) P := by
  subst hpc; exact go (fun _ q => XS.aloadN X.here hx rfl hd hl hv q) K
theorem g_aload (X : Stand p l e R s m args below meth c T locs cells slots) (hx : p.tables.exec = Jvm.exec) (pc' : Nat) (hpc : pc + 2 = pc') {k : Nat} {v : Value} (hd : decode c.code pc = .ok (.aload k, 2)) (hl : Ls[k]? = some (.val v)) (hv : v.isRef = true) (K : Goes p e below (T.setTop (mkF m pc' Ls (v :: st))) P) : Goes p e below (T.setTop (mkF m pc Ls (st))) P := by
  subst hpc; exact go (fun _ q => XS.aload X.here hx rfl hd hl hv q) K
theorem g_istore_n (X : Stand p l e R s m args below meth c T locs cells slots) (hx : p.tables.exec = Jvm.exec) (pc' : Nat) (hpc : pc + 1 = pc') {k : Fin 4} {x : Int32} (hd : decode c.code pc = .ok (.istore_n k, 1))  (l' : Array Slot) (hl : storeLocals Ls k.val (.int x) = some l') (K : Goes p e below (T.setTop (mkF m pc' l' st)) P) : Goes p e below (T.setTop (mkF m pc Ls (.int x :: st))) P := by
  subst hpc; exact go (fun _ q => XS.istoreN X.here hx rfl hd rfl hl q) K
theorem g_istore (X : Stand p l e R s m args below meth c T locs cells slots) (hx : p.tables.exec = Jvm.exec) (pc' : Nat) (hpc : pc + 2 = pc') {k : Nat} {x : Int32} (hd : decode c.code pc = .ok (.istore k, 2))  (l' : Array Slot) (hl : storeLocals Ls k (.int x) = some l') (K : Goes p e below (T.setTop (mkF m pc' l' st)) P) : Goes p e below (T.setTop (mkF m pc Ls (.int x :: st))) P := by
  subst hpc; exact go (fun _ q => XS.istore X.here hx rfl hd rfl hl q) K
theorem g_lstore_n (X : Stand p l e R s m args below meth c T locs cells slots) (hx : p.tables.exec = Jvm.exec) (pc' : Nat) (hpc : pc + 1 = pc') {k : Fin 4} {x : Int64} (hd : decode c.code pc = .ok (.lstore_n k, 1))  (l' : Array Slot) (hl : storeLocals Ls k.val (.long x) = some l') (K : Goes p e below (T.setTop (mkF m pc' l' st)) P) : Goes p e below (T.setTop (mkF m pc Ls (.long x :: st))) P := by
  subst hpc; exact go (fun _ q => XT.lstoreN X.here hx rfl hd rfl hl q) K
theorem g_lstore (X : Stand p l e R s m args below meth c T locs cells slots) (hx : p.tables.exec = Jvm.exec) (pc' : Nat) (hpc : pc + 2 = pc') {k : Nat} {x : Int64} (hd : decode c.code pc = .ok (.lstore k, 2))  (l' : Array Slot) (hl : storeLocals Ls k (.long x) = some l') (K : Goes p e below (T.setTop (mkF m pc' l' st)) P) : Goes p e below (T.setTop (mkF m pc Ls (.long x :: st))) P := by
  subst hpc; exact go (fun _ q => XT.lstore X.here hx rfl hd rfl hl q) K
theorem g_astore_n (X : Stand p l e R s m args below meth c T locs cells slots) (hx : p.tables.exec = Jvm.exec) (pc' : Nat) (hpc : pc + 1 = pc') {k : Fin 4} {x : Value} (hd : decode c.code pc = .ok (.astore_n k, 1)) (hv : x.isRef = true) (l' : Array Slot) (hl : storeLocals Ls k.val x = some l') (K : Goes p e below (T.setTop (mkF m pc' l' st)) P) : Goes p e below (T.setTop (mkF m pc Ls (x :: st))) P := by
  subst hpc; exact go (fun _ q => XS.astoreN X.here hx rfl hd rfl hv hl q) K
theorem g_astore (X : Stand p l e R s m args below meth c T locs cells slots) (hx : p.tables.exec = Jvm.exec) (pc' : Nat) (hpc : pc + 2 = pc') {k : Nat} {x : Value} (hd : decode c.code pc = .ok (.astore k, 2)) (hv : x.isRef = true) (l' : Array Slot) (hl : storeLocals Ls k x = some l') (K : Goes p e below (T.setTop (mkF m pc' l' st)) P) : Goes p e below (T.setTop (mkF m pc Ls (x :: st))) P := by
  subst hpc; exact go (fun _ q => XS.astore X.here hx rfl hd rfl hv hl q) K
theorem g_iinc (X : Stand p l e R s m args below meth c T locs cells slots) (hx : p.tables.exec = Jvm.exec) (pc' : Nat) (hpc : pc + 3 = pc') {k : Nat} {cst : Int} {x : Int32} (hd : decode c.code pc = .ok (.iinc k cst, 3)) (v : Int32) (hv : x + Int32.ofInt cst = v) (hl : Ls[k]? = some (.val (.int x))) (l' : Array Slot) (hl' : storeLocals Ls k (.int v) = some l') (K : Goes p e below (T.setTop (mkF m pc' l' st)) P) : Goes p e below (T.setTop (mkF m pc Ls st)) P := by
  subst hpc; subst hv; exact go (fun _ q => XS.iinc X.here hx rfl hd hl hl' q) K
theorem g_goto (X : Stand p l e R s m args below meth c T locs cells slots) (hx : p.tables.exec = Jvm.exec) (pc' : Nat) {o : Int} (hd : decode c.code pc = .ok (.goto o, 3)) (ho : 0 ≤ (pc : Int) + o) (hp : ((pc : Int) + o).toNat = pc') (K : Goes p e below (T.setTop (mkF m pc' Ls st)) P) : Goes p e below (T.setTop (mkF m pc Ls st)) P :=
  go (fun _ q => XS.goto X.here hx rfl rfl hd ho hp q) K
theorem g_ifY (X : Stand p l e R s m args below meth c T locs cells slots) (hx : p.tables.exec = Jvm.exec) (pc' : Nat) {o : Int} {cd : ClassFile.Cond} {x : Int32} (hd : decode c.code pc = .ok (.ifCond cd o, 3)) (hc : ifCond.holds cd x = true) (ho : 0 ≤ (pc : Int) + o) (hp : ((pc : Int) + o).toNat = pc') (K : Goes p e below (T.setTop (mkF m pc' Ls st)) P) : Goes p e below (T.setTop (mkF m pc Ls (.int x :: st))) P :=
  go (fun _ q => XS.ifYes X.here hx rfl rfl hd rfl hc ho hp q) K
theorem g_ifN (X : Stand p l e R s m args below meth c T locs cells slots) (hx : p.tables.exec = Jvm.exec) (pc' : Nat) (hpc : pc + 3 = pc') {o : Int} {cd : ClassFile.Cond} {x : Int32} (hd : decode c.code pc = .ok (.ifCond cd o, 3)) (hc : ifCond.holds cd x = false) (K : Goes p e below (T.setTop (mkF m pc' Ls st)) P) : Goes p e below (T.setTop (mkF m pc Ls (.int x :: st))) P := by
  subst hpc; exact go (fun _ q => XS.ifNo X.here hx rfl hd rfl hc q) K
theorem g_icmpY (X : Stand p l e R s m args below meth c T locs cells slots) (hx : p.tables.exec = Jvm.exec) (pc' : Nat) {o : Int} {cd : ClassFile.Cond} {x y : Int32} (hd : decode c.code pc = .ok (.if_icmp cd o, 3)) (hc : if_icmp.holds cd x y = true) (ho : 0 ≤ (pc : Int) + o) (hp : ((pc : Int) + o).toNat = pc') (K : Goes p e below (T.setTop (mkF m pc' Ls st)) P) : Goes p e below (T.setTop (mkF m pc Ls (.int y :: .int x :: st))) P :=
  go (fun _ q => XS.icmpYes X.here hx rfl rfl hd rfl hc ho hp q) K
theorem g_icmpN (X : Stand p l e R s m args below meth c T locs cells slots) (hx : p.tables.exec = Jvm.exec) (pc' : Nat) (hpc : pc + 3 = pc') {o : Int} {cd : ClassFile.Cond} {x y : Int32} (hd : decode c.code pc = .ok (.if_icmp cd o, 3)) (hc : if_icmp.holds cd x y = false) (K : Goes p e below (T.setTop (mkF m pc' Ls st)) P) : Goes p e below (T.setTop (mkF m pc Ls (.int y :: .int x :: st))) P := by
  subst hpc; exact go (fun _ q => XS.icmpNo X.here hx rfl hd rfl hc q) K
theorem g_acmpY (X : Stand p l e R s m args below meth c T locs cells slots) (hx : p.tables.exec = Jvm.exec) (pc' : Nat) {o : Int} {cd : ClassFile.ACond} {x y : Value} (hd : decode c.code pc = .ok (.if_acmp cd o, 3)) (h1 : x.isRef = true) (h2 : y.isRef = true) (hc : XT.acmp cd x y = true) (ho : 0 ≤ (pc : Int) + o) (hp : ((pc : Int) + o).toNat = pc') (K : Goes p e below (T.setTop (mkF m pc' Ls st)) P) : Goes p e below (T.setTop (mkF m pc Ls (y :: x :: st))) P :=
  go (fun _ q => XT.acmpYes X.here hx rfl rfl hd rfl h1 h2 hc ho hp q) K
theorem g_acmpN (X : Stand p l e R s m args below meth c T locs cells slots) (hx : p.tables.exec = Jvm.exec) (pc' : Nat) (hpc : pc + 3 = pc') {o : Int} {cd : ClassFile.ACond} {x y : Value} (hd : decode c.code pc = .ok (.if_acmp cd o, 3)) (h1 : x.isRef = true) (h2 : y.isRef = true) (hc : XT.acmp cd x y = false) (K : Goes p e below (T.setTop (mkF m pc' Ls st)) P) : Goes p e below (T.setTop (mkF m pc Ls (y :: x :: st))) P := by
  subst hpc; exact go (fun _ q => XT.acmpNo X.here hx rfl hd rfl h1 h2 hc q) K
theorem g_ifnonnullY (X : Stand p l e R s m args below meth c T locs cells slots) (hx : p.tables.exec = Jvm.exec) (pc' : Nat) {o : Int} {b : Addr} (hd : decode c.code pc = .ok (.ifnonnull o, 3)) (ho : 0 ≤ (pc : Int) + o) (hp : ((pc : Int) + o).toNat = pc') (K : Goes p e below (T.setTop (mkF m pc' Ls st)) P) : Goes p e below (T.setTop (mkF m pc Ls (.ref b :: st))) P :=
  go (fun _ q => XT.ifnonnullYes X.here hx rfl rfl hd rfl ho hp q) K
theorem g_ifnonnullN (X : Stand p l e R s m args below meth c T locs cells slots) (hx : p.tables.exec = Jvm.exec) (pc' : Nat) (hpc : pc + 3 = pc') {o : Int} (hd : decode c.code pc = .ok (.ifnonnull o, 3)) (K : Goes p e below (T.setTop (mkF m pc' Ls st)) P) : Goes p e below (T.setTop (mkF m pc Ls (.null :: st))) P := by
  subst hpc; exact go (fun _ q => XT.ifnonnullNo X.here hx rfl hd rfl q) K
def b2i (b : Bool) : Int32 := if b then 1 else 0
theorem b2i_nar (b : Bool) : narrow .boolean (.int (b2i b)) = .int (b2i b) := by cases b <;> rfl
theorem bb_eq_t {b : Bool} (q : ¬ b = true) : ifCond.holds .eq (b2i b) = true := by cases b <;> first | rfl | exact absurd rfl q
theorem bb_eq_f {b : Bool} (q : b = true) : ifCond.holds .eq (b2i b) = false := by subst q; rfl
theorem bb_ne_t {b : Bool} (q : b = true) : ifCond.holds .ne (b2i b) = true := by subst q; rfl
theorem bb_ne_f {b : Bool} (q : ¬ b = true) : ifCond.holds .ne (b2i b) = false := by cases b <;> first | rfl | exact absurd rfl q
theorem b2_eq_t {a b : Bool} (q : a = b) : if_icmp.holds .eq (b2i a) (b2i b) = true := by subst q; cases a <;> rfl
theorem b2_eq_f {a b : Bool} (q : ¬ a = b) : if_icmp.holds .eq (b2i a) (b2i b) = false := by cases a <;> cases b <;> first | rfl | exact absurd rfl q
theorem b2_ne_t {a b : Bool} (q : ¬ a = b) : if_icmp.holds .ne (b2i a) (b2i b) = true := by cases a <;> cases b <;> first | rfl | exact absurd rfl q
theorem b2_ne_f {a b : Bool} (q : a = b) : if_icmp.holds .ne (b2i a) (b2i b) = false := by subst q; cases a <;> rfl
theorem g_getF (X : Stand p l e R s m args below meth c T locs cells slots) (hx : p.tables.exec = Jvm.exec) (hZ : Z.Warmed39 s.vm) (pc' : Nat) (hpc : pc + 3 = pc') {own O n d : String} {index : Nat} (hown : s.vm.findClass own = some m.cls) (w : (Jvm.Cond.fieldLink own index O n d).before a0 Z = true) (eT : T.heap = h) {a : Addr} {v : Value} (F : Fld Z h a O n d v) (hd : decode c.code pc = .ok (.getfield index, 3)) (K : ∀ T', Stand p l e R s m args below meth c T' locs cells slots → T'.heap = h → Goes p e below (T'.setTop (mkF m pc' Ls (v :: st))) P) : Goes p e below (T.setTop (mkF m pc Ls (.ref a :: st))) P := by
  subst hpc
  obtain ⟨T', X', e', st'⟩ := getF X hx hZ hown (host := "") (Or.inl w) Via.refl eT F (g := mkF m pc Ls (.ref a :: st)) rfl rfl hd
  exact go st' (K T' X' e')
theorem g_putF (X : Stand p l e R s m args below meth c T locs cells slots) (hx : p.tables.exec = Jvm.exec) (hZ : Z.Warmed39 s.vm) (pc' : Nat) (hpc : pc + 3 = pc') {own O n d C : String} {index kk : Nat} {ty : FieldType} (hown : s.vm.findClass own = some m.cls) (w : (Jvm.Cond.fieldLink own index O n d).before a0 Z = true) (eT : T.heap = h) {a : Addr} {v old : Value} (F : Fld Z h a O n d old) (E : Exa Z h a C) (L : (Jvm.Cond.lays C O n d).before a0 Z = true ∨ ((Jvm.Cond.laysFinal C O n d).before a0 Z = true ∧ own = O ∧ meth.name = "<init>")) (wi : (Jvm.Cond.instantiable C kk).before a0 Z = true) (hty : parseFieldDescriptor d = some ty) (hn : narrow ty v = v) (hf : fits ty v = true) (hd : decode c.code pc = .ok (.putfield index, 3)) (K : ∀ T' h', Stand p l e R s m args below meth c T' (locs ++ [⟨a, Jvm.RoadKit.slotOf Z O n d⟩]) cells slots → T'.heap = h' → Wr h h' a (Jvm.RoadKit.slotOf Z O n d) v → Goes p e below (T'.setTop (mkF m pc' Ls st)) P) : Goes p e below (T.setTop (mkF m pc Ls (v :: .ref a :: st))) P := by
  subst hpc
  obtain ⟨T', h', X', e', W', st'⟩ := putF X hx hZ hown (host := "") (Or.inl w) Via.refl eT F E L wi hty hn hf (g := mkF m pc Ls (v :: .ref a :: st)) rfl rfl hd
  exact go st' (K T' h' X' e' W')
theorem g_getS (X : Stand p l e R s m args below meth c T locs cells slots) (hx : p.tables.exec = Jvm.exec) (hZ : Z.Warmed39 s.vm) (pc' : Nat) (hpc : pc + 3 = pc') {own O n d : String} {index : Nat} (hown : s.vm.findClass own = some m.cls) (w : (Jvm.Cond.fieldLink own index O n d).before a0 Z = true) (eT : T.heap = h) {v : Value} (F : Sta Z h O n d v) (hd : decode c.code pc = .ok (.getstatic index, 3)) (K : ∀ T', Stand p l e R s m args below meth c T' locs cells slots → T'.heap = h → Goes p e below (T'.setTop (mkF m pc' Ls (v :: st))) P) : Goes p e below (T.setTop (mkF m pc Ls st)) P := by
  subst hpc
  obtain ⟨T', X', e', st'⟩ := getS (host := "") X hx hZ hown w Via.refl eT F (g := mkF m pc Ls st) rfl hd
  exact go st' (K T' X' e')
theorem g_new (X : Stand p l e R s m args below meth c T locs cells slots) (hx : p.tables.exec = Jvm.exec) (hZ : Z.Warmed39 s.vm) (pc' : Nat) (hpc : pc + 3 = pc') {own C : String} {index n : Nat} (hown : s.vm.findClass own = some m.cls) (w : (Jvm.Cond.classLink own index C).before a0 Z = true) (wi : (Jvm.Cond.instantiable C n).before a0 Z = true) (wz : (Jvm.Cond.initialized C).before a0 Z = true) (eT : T.heap = h) (hd : decode c.code pc = .ok (.new index, 3)) (hc : cells + 1 ≤ R.cells) (hl : slots + n ≤ R.slots) (K : ∀ T' h' a, a = h.size → Stand p l e R s m args below meth c T' locs (cells + 1) (slots + n) → T'.heap = h' → Ext h h' → Exa Z h' a C → (∀ {O nm d : String} {ty : FieldType}, Laid Z a0 C O nm d → parseFieldDescriptor d = some ty → Fld Z h' a O nm d (defaultValue ty)) → Goes p e below (T'.setTop (mkF m pc' Ls (.ref a :: st))) P) : Goes p e below (T.setTop (mkF m pc Ls st)) P := by
  subst hpc
  obtain ⟨T', h', X', e', E', A', D', -, st'⟩ := newO X hx hZ hown w wi wz eT (g := mkF m pc Ls st) rfl hd hc hl
  exact go st' (K T' h' _ rfl X' e' E' A' D')
theorem g_initO (X : Stand p l e R s m args below meth c T locs cells slots) (hx : p.tables.exec = Jvm.exec) (hZ : Z.Warmed39 s.vm) (pc' : Nat) (hpc : pc + 3 = pc') {own : String} {idx : Nat} (hown : s.vm.findClass own = some m.cls) (w1 : (Jvm.Cond.methodLink own idx Lib.objectInit).before a0 Z = true) (w2 : (Jvm.Cond.instanceMethod Lib.objectInit).before a0 Z = true) (w3 : (Jvm.Cond.code Lib.objectInit ⟨#[0xb1]⟩ 1 none).before a0 Z = true) (eT : T.heap = h) (hsize : Ls.size = c.maxLocals) {a : Addr} (hd : decode c.code pc = .ok (.invokespecial idx, 3)) (hf : 1 ≤ R.frames) (W : Nat) (hW : 2 * 0 + (st.map fun v => v.category).sum ≤ W) (hl : W + 12 ≤ R.locals) (K : ∀ T', Stand p l e R s m args below meth c T' locs cells slots → T'.heap = h → Goes p e below (T'.setTop (mkF m pc' Ls st)) P) : Goes p e below (T.setTop (mkF m pc Ls (.ref a :: st))) P := by
  subst hpc
  obtain ⟨T', X', e', st'⟩ := initO X hx hZ hown w1 w2 w3 eT (g := mkF m pc Ls (.ref a :: st)) rfl hsize rfl hd hf hW hl
  exact go st' (K T' X' e')
theorem g_callS (X : Stand p l e R s m args below meth c T locs cells slots) (hx : p.tables.exec = Jvm.exec) (hZ : Z.Warmed39 s.vm) (pc' : Nat) (hpc : pc + 3 = pc') {own : String} {index : Nat} {y : MethodName} {bytes : ByteArray} {maxL : Nat} {ret : Option FieldType} {rm : Room} {Q : Option Value → Heap → List Loc → Prop} (hown : s.vm.findClass own = some m.cls) (w1 : (Jvm.Cond.methodLink own index y).before a0 Z = true) (w2 : (Jvm.Cond.static y).before a0 Z = true) (w3 : (Jvm.Cond.initialized y.cls).before a0 Z = true) (w4 : (Jvm.Cond.code y bytes maxL ret).before a0 Z = true) (hy : y.cls ≠ "java/lang/invoke/MethodHandle" ∧ y.cls ≠ "java/lang/invoke/VarHandle") (argsL rest : List Value) (hM : OwnMet l Z y bytes maxL ret [] rm argsL.toArray h Q) (eT : T.heap = h) (hlen : ∀ sig, parseMethodDescriptor y.desc = some sig → argsL.length = sig.parameters.length) (hst : st = argsL.reverse ++ rest) (hsize : Ls.size = c.maxLocals) (hd : decode c.code pc = .ok (.invokestatic index, 3)) (hf : rm.frames + 1 ≤ R.frames) (W : Nat) (hW : 2 * 0 + (rest.map fun v => v.category).sum ≤ W) (hl : W + (maxL + 11) + rm.locals ≤ R.locals) (hc : cells + rm.cells ≤ R.cells) (hs : slots + rm.slots ≤ R.slots) (K : ∀ v T' L', Stand p l e R s m args below meth c T' (locs ++ L') (cells + rm.cells) (slots + rm.slots) → Q v T'.heap L' → Goes p e below (T'.setTop (mkF m pc' Ls (v.toList ++ rest))) P) : Goes p e below (T.setTop (mkF m pc Ls st)) P := by
  subst hpc; subst hst
  obtain ⟨v, _, ⟨T', L', k', n'⟩, -, X', ⟨Lc, hQ, e1, e2, e3⟩, st'⟩ := Jvm.LawKit.callS X hx (y := y) hown (mvT hZ w1) (mvT hZ w2) (mvT hZ w3) (mvT hZ w4) hy (backOf (W := W) hM hZ w4 w3 hf hl) (g := mkF m pc Ls (argsL.reverse ++ rest)) rfl hsize (argsL := argsL) (rest := rest) hlen rfl hW hd (fun _ _ => ⟨rfl, eT, hc, hs⟩)
  dsimp only [Pt.U, Pt.locs, Pt.cells, Pt.slots] at X' e1 e2 e3 st' hQ
  subst e1 e2 e3
  exact go st' (K v T' Lc X' hQ)
theorem g_callI (X : Stand p l e R s m args below meth c T locs cells slots) (hx : p.tables.exec = Jvm.exec) (hZ : Z.Warmed39 s.vm) (pc' : Nat) (hpc : pc + 3 = pc') {own : String} {index : Nat} {y : MethodName} {bytes : ByteArray} {maxL : Nat} {rm : Room} {Q : Option Value → Heap → List Loc → Prop} (hy1 : y.name = "<init>") (hown : s.vm.findClass own = some m.cls) (w1 : (Jvm.Cond.methodLink own index y).before a0 Z = true) (w2 : (Jvm.Cond.instanceMethod y).before a0 Z = true) (w3 : (Jvm.Cond.initialized y.cls).before a0 Z = true) (w4 : (Jvm.Cond.code y bytes maxL none).before a0 Z = true) (hy : y.cls ≠ "java/lang/invoke/MethodHandle" ∧ y.cls ≠ "java/lang/invoke/VarHandle") (a : Addr) (argsL rest : List Value) (hM : OwnMet l Z y bytes maxL none [] rm (.ref a :: argsL).toArray h Q) (eT : T.heap = h) (hlen : ∀ sig, parseMethodDescriptor y.desc = some sig → argsL.length = sig.parameters.length) (hst : st = argsL.reverse ++ .ref a :: rest) (hsize : Ls.size = c.maxLocals) (hd : decode c.code pc = .ok (.invokespecial index, 3)) (hf : rm.frames + 1 ≤ R.frames) (W : Nat) (hW : 2 * 0 + (rest.map fun v => v.category).sum ≤ W) (hl : W + (maxL + 11) + rm.locals ≤ R.locals) (hc : cells + rm.cells ≤ R.cells) (hs : slots + rm.slots ≤ R.slots) (K : ∀ v T' L', Stand p l e R s m args below meth c T' (locs ++ L') (cells + rm.cells) (slots + rm.slots) → Q v T'.heap L' → Goes p e below (T'.setTop (mkF m pc' Ls (v.toList ++ rest))) P) : Goes p e below (T.setTop (mkF m pc Ls st)) P := by
  subst hpc; subst hst
  obtain ⟨v, _, ⟨T', L', k', n'⟩, -, X', ⟨Lc, hQ, e1, e2, e3⟩, st'⟩ := X.specialBack hx (y := y) hy1 hown (mvT hZ w1) (mvT hZ w2) (mvT hZ w4) hy (backOf (W := W) hM hZ w4 w3 hf hl) (g := mkF m pc Ls (argsL.reverse ++ .ref a :: rest)) rfl hsize (Steps.refl _) (a := a) (argsL := argsL) (rest := rest) hlen rfl hW hd (fun _ _ => ⟨rfl, eT, hc, hs⟩)
  dsimp only [Pt.U, Pt.locs, Pt.cells, Pt.slots] at X' e1 e2 e3 st' hQ
  subst e1 e2 e3
  exact goT st' (K v T' Lc X' hQ)
theorem g_callV (X : Stand p l e R s m args below meth c T locs cells slots) (hx : p.tables.exec = Jvm.exec) (hZ : Z.Warmed39 s.vm) (pc' : Nat) (hpc : pc + 3 = pc') {own C : String} {index : Nat} {y : MethodName} {bytes : ByteArray} {maxL : Nat} {ret : Option FieldType} {rm : Room} {Q : Option Value → Heap → List Loc → Prop} (hown : s.vm.findClass own = some m.cls) (w1 : (Jvm.Cond.methodLink own index y).before a0 Z = true) (w2 : (Jvm.Cond.declares y).before a0 Z = true) (w5 : (Jvm.Cond.selects C y y).before a0 Z = true) (w6 : (Jvm.Cond.instanceMethod y).before a0 Z = true) (w3 : (Jvm.Cond.initialized y.cls).before a0 Z = true) (w4 : (Jvm.Cond.code y bytes maxL ret).before a0 Z = true) (hy : y.cls ≠ "java/lang/invoke/MethodHandle" ∧ y.cls ≠ "java/lang/invoke/VarHandle") (a : Addr) (argsL rest : List Value) (hM : OwnMet l Z y bytes maxL ret [] rm (.ref a :: argsL).toArray h Q) (eT : T.heap = h) (Ex : Exa Z h a C) (hlen : ∀ sig, parseMethodDescriptor y.desc = some sig → argsL.length = sig.parameters.length) (hst : st = argsL.reverse ++ .ref a :: rest) (hsize : Ls.size = c.maxLocals) (hd : decode c.code pc = .ok (.invokevirtual index, 3)) (hf : rm.frames + 1 ≤ R.frames) (W : Nat) (hW : 2 * 0 + (rest.map fun v => v.category).sum ≤ W) (hl : W + (maxL + 11) + rm.locals ≤ R.locals) (hc : cells + rm.cells ≤ R.cells) (hs : slots + rm.slots ≤ R.slots) (K : ∀ v T' L', Stand p l e R s m args below meth c T' (locs ++ L') (cells + rm.cells) (slots + rm.slots) → Q v T'.heap L' → Goes p e below (T'.setTop (mkF m pc' Ls (v.toList ++ rest))) P) : Goes p e below (T.setTop (mkF m pc Ls st)) P := by
  subst hpc; subst hst
  obtain ⟨cq, kq, qa, qb, qc⟩ := isOf hZ eT Ex
  obtain ⟨v, _, ⟨T', L', k', n'⟩, -, X', ⟨Lc, hQ, e1, e2, e3⟩, st'⟩ := X.virtualBack hx (y := y) (z := y) hown (mvT hZ w1) (mvT hZ w2) (notFace_of_selects (args := #[]) (mvT hZ w5)) (mvT hZ w5) (mvT hZ w6) hy (backOf (W := W) hM hZ w4 w3 hf hl) qa qc (g := mkF m pc Ls (argsL.reverse ++ .ref a :: rest)) rfl hsize (Steps.refl _) (argsL := argsL) (rest := rest) hlen rfl hW hd (fun _ _ => ⟨rfl, eT, hc, hs⟩)
  dsimp only [Pt.U, Pt.locs, Pt.cells, Pt.slots] at X' e1 e2 e3 st' hQ
  subst e1 e2 e3
  exact goT st' (K v T' Lc X' hQ)
def Al (Z : State) (h : Heap) (a : Addr) (ty : FieldType) (vs : List Value) : Prop := ∃ c : Cell, Arr Z h a c ty ∧ c.slots.toList = vs ∧ vs.length < 2147483648
theorem Al.lt {a : Addr} {ty : FieldType} {vs : List Value} (F : Al Z h a ty vs) : a < h.size := by obtain ⟨c, A, -⟩ := F; exact A.lt
theorem Al.ext {h' : Heap} {a : Addr} {ty : FieldType} {vs : List Value} (F : Al Z h a ty vs) (E : Ext h h') : Al Z h' a ty vs := by obtain ⟨c, A, r⟩ := F; exact ⟨c, A.ext E, r⟩
theorem Al.other {h' : Heap} {a b : Addr} {sl : Nat} {v : Value} {ty : FieldType} {vs : List Value} (F : Al Z h b ty vs) (W : Wr h h' a sl v) (q : b ≠ a) : Al Z h' b ty vs := by obtain ⟨c, A, r⟩ := F; exact ⟨c, A.other W q, r⟩
theorem Al.keep {h' : Heap} {a : Addr} {ws : List Addr} {ty : FieldType} {vs : List Value} (F : Al Z h a ty vs) (K : Keep h h' ws) (q : a ∉ ws) : Al Z h' a ty vs := by obtain ⟨c, A, r⟩ := F; exact ⟨c, ⟨K.2.1 a c A.1 q, A.2⟩, r⟩
theorem Al.same {h' : Heap} {a : Addr} {i : Nat} {v : Value} {ty : FieldType} {vs : List Value} (F : Al Z h a ty vs) (W : Wr h h' a i v) : Al Z h' a ty (vs.set i v) := by
  obtain ⟨c, A, r1, r2⟩ := F
  exact ⟨_, A.same W, by rw [← r1]; simp [Cell.setSlot], by rw [List.length_set]; exact r2⟩
theorem own_ix {j : Int32} {i : Nat} (hj : j.toInt = (i : Int)) : j.toNatClampNeg = i ∧ ¬ j < 0 := by
  refine ⟨by simp only [Int32.toNatClampNeg]; omega, fun q => ?_⟩
  rw [Int32.lt_iff_toInt_lt] at q; simp only [Int32.reduceToInt] at q; omega
theorem Al.cell {a : Addr} {ty : FieldType} {vs : List Value} (F : Al Z h a ty vs) {j : Int32} {i : Nat} (hj : j.toInt = (i : Int)) (hi : i < vs.length) : ∃ c : Cell, Arr Z h a c ty ∧ c.slots.toList = vs ∧ ¬ (j < 0 ∨ c.slots.size ≤ j.toNatClampNeg) ∧ c.slots[j.toNatClampNeg]? = vs[i]? := by
  obtain ⟨c, A, r1, r2⟩ := F
  obtain ⟨q1, q2⟩ := own_ix hj
  have hs : c.slots.size = vs.length := by rw [← r1]; simp
  exact ⟨c, A, r1, fun q => q.elim q2 (by rw [q1, hs]; omega), by rw [q1, ← r1, Array.getElem?_toList]⟩
theorem g_alen (X : Stand p l e R s m args below meth c T locs cells slots) (hx : p.tables.exec = Jvm.exec) (hZ : Z.Warmed39 s.vm) (pc' : Nat) (hpc : pc + 1 = pc') (hd : decode c.code pc = .ok (.arraylength, 1)) (eT : T.heap = h) {a : Addr} {ty : FieldType} {vs : List Value} (A : Al Z h a ty vs) (n : Int32) (hn : Int32.ofNat vs.length = n) (K : Goes p e below (T.setTop (mkF m pc' Ls (.int n :: st))) P) : Goes p e below (T.setTop (mkF m pc Ls (.ref a :: st))) P := by
  subst hpc
  obtain ⟨c, A, r1, r2⟩ := A
  have hs : c.slots.size.toInt32 = n := by rw [← hn, ← r1]; simp
  exact go (fun _ q => X.arraylength hx (by rw [eT]; exact A.1) (State.isArrayOf_alike hZ.alike A.2.1) (g := mkF m pc Ls (.ref a :: st)) rfl rfl hd _ (by rw [hs]; exact q)) K
theorem g_iaload (X : Stand p l e R s m args below meth c T locs cells slots) (hx : p.tables.exec = Jvm.exec) (hZ : Z.Warmed39 s.vm) (pc' : Nat) (hpc : pc + 1 = pc') (hd : decode c.code pc = .ok (.iaload, 1)) (eT : T.heap = h) {a : Addr} {vs : List Value} (A : Al Z h a .int vs) {j : Int32} (i : Nat) (hj : j.toInt = (i : Int)) (v : Value) (hv : vs[i]? = some v) (K : Goes p e below (T.setTop (mkF m pc' Ls (v :: st))) P) : Goes p e below (T.setTop (mkF m pc Ls (.int j :: .ref a :: st))) P := by
  subst hpc
  obtain ⟨c, A, r1, r2, r3⟩ := A.cell hj (List.getElem?_eq_some_iff.mp hv).1
  exact go (fun _ q => X.iaload hx (by rw [eT]; exact A.1) (State.isArrayOf_alike hZ.alike A.2.1) A.2.2 r2 (r3.trans hv) (g := mkF m pc Ls (.int j :: .ref a :: st)) rfl rfl hd _ q) K
theorem g_laload (X : Stand p l e R s m args below meth c T locs cells slots) (hx : p.tables.exec = Jvm.exec) (hZ : Z.Warmed39 s.vm) (pc' : Nat) (hpc : pc + 1 = pc') (hd : decode c.code pc = .ok (.laload, 1)) (eT : T.heap = h) {a : Addr} {vs : List Value} (A : Al Z h a .long vs) {j : Int32} (i : Nat) (hj : j.toInt = (i : Int)) (v : Value) (hv : vs[i]? = some v) (K : Goes p e below (T.setTop (mkF m pc' Ls (v :: st))) P) : Goes p e below (T.setTop (mkF m pc Ls (.int j :: .ref a :: st))) P := by
  subst hpc
  obtain ⟨c, A, r1, r2, r3⟩ := A.cell hj (List.getElem?_eq_some_iff.mp hv).1
  exact go (fun _ q => X.laload hx (by rw [eT]; exact A.1) (State.isArrayOf_alike hZ.alike A.2.1) A.2.2 r2 (r3.trans hv) (g := mkF m pc Ls (.int j :: .ref a :: st)) rfl rfl hd _ q) K
theorem g_baload (X : Stand p l e R s m args below meth c T locs cells slots) (hx : p.tables.exec = Jvm.exec) (hZ : Z.Warmed39 s.vm) (pc' : Nat) (hpc : pc + 1 = pc') (hd : decode c.code pc = .ok (.baload, 1)) (eT : T.heap = h) {a : Addr} {vs : List Value} (A : Al Z h a .byte vs) {j : Int32} (i : Nat) (hj : j.toInt = (i : Int)) (v : Value) (hv : vs[i]? = some v) (K : Goes p e below (T.setTop (mkF m pc' Ls (v :: st))) P) : Goes p e below (T.setTop (mkF m pc Ls (.int j :: .ref a :: st))) P := by
  subst hpc
  obtain ⟨c, A, r1, r2, r3⟩ := A.cell hj (List.getElem?_eq_some_iff.mp hv).1
  exact go (fun _ q => X.baloadBytes hx (by rw [eT]; exact A.1) (State.isArrayOf_alike hZ.alike A.2.1) A.2.2 r2 (r3.trans hv) (g := mkF m pc Ls (.int j :: .ref a :: st)) rfl rfl hd _ q) K
theorem g_caload (X : Stand p l e R s m args below meth c T locs cells slots) (hx : p.tables.exec = Jvm.exec) (hZ : Z.Warmed39 s.vm) (pc' : Nat) (hpc : pc + 1 = pc') (hd : decode c.code pc = .ok (.caload, 1)) (eT : T.heap = h) {a : Addr} {vs : List Value} (A : Al Z h a .char vs) {j : Int32} (i : Nat) (hj : j.toInt = (i : Int)) (v : Value) (hv : vs[i]? = some v) (K : Goes p e below (T.setTop (mkF m pc' Ls (v :: st))) P) : Goes p e below (T.setTop (mkF m pc Ls (.int j :: .ref a :: st))) P := by
  subst hpc
  obtain ⟨c, A, r1, r2, r3⟩ := A.cell hj (List.getElem?_eq_some_iff.mp hv).1
  exact go (fun _ q => X.caload hx (by rw [eT]; exact A.1) (State.isArrayOf_alike hZ.alike A.2.1) A.2.2 r2 (r3.trans hv) (g := mkF m pc Ls (.int j :: .ref a :: st)) rfl rfl hd _ q) K
theorem g_iastore (X : Stand p l e R s m args below meth c T locs cells slots) (hx : p.tables.exec = Jvm.exec) (hZ : Z.Warmed39 s.vm) (pc' : Nat) (hpc : pc + 1 = pc') (hd : decode c.code pc = .ok (.iastore, 1)) (eT : T.heap = h) {a : Addr} {vs : List Value} (A : Al Z h a .int vs) {j : Int32} {x : Int32} (i : Nat) (hj : j.toInt = (i : Int)) (hi : i < vs.length) (K : ∀ T' h', Stand p l e R s m args below meth c T' (locs ++ [⟨a, i⟩]) cells slots → T'.heap = h' → Wr h h' a i (.int x) → Al Z h' a .int (vs.set i (.int x)) → Goes p e below (T'.setTop (mkF m pc' Ls st)) P) : Goes p e below (T.setTop (mkF m pc Ls (.int x :: .int j :: .ref a :: st))) P := by
  subst hpc
  obtain ⟨c, Ar, r1, r2, r3⟩ := A.cell hj hi
  obtain ⟨T', h', X', e', W', st'⟩ := stI X hx hZ eT Ar r2 (g := mkF m pc Ls (.int x :: .int j :: .ref a :: st)) rfl rfl hd
  rw [(own_ix hj).1] at X' W'
  exact go st' (K T' h' X' e' W' (A.same W'))
theorem g_lastore (X : Stand p l e R s m args below meth c T locs cells slots) (hx : p.tables.exec = Jvm.exec) (hZ : Z.Warmed39 s.vm) (pc' : Nat) (hpc : pc + 1 = pc') (hd : decode c.code pc = .ok (.lastore, 1)) (eT : T.heap = h) {a : Addr} {vs : List Value} (A : Al Z h a .long vs) {j : Int32} {x : Int64} (i : Nat) (hj : j.toInt = (i : Int)) (hi : i < vs.length) (K : ∀ T' h', Stand p l e R s m args below meth c T' (locs ++ [⟨a, i⟩]) cells slots → T'.heap = h' → Wr h h' a i (.long x) → Al Z h' a .long (vs.set i (.long x)) → Goes p e below (T'.setTop (mkF m pc' Ls st)) P) : Goes p e below (T.setTop (mkF m pc Ls (.long x :: .int j :: .ref a :: st))) P := by
  subst hpc
  obtain ⟨c, Ar, r1, r2, r3⟩ := A.cell hj hi
  obtain ⟨T', h', X', e', W', st'⟩ := stJ X hx hZ eT Ar r2 (g := mkF m pc Ls (.long x :: .int j :: .ref a :: st)) rfl rfl hd
  rw [(own_ix hj).1] at X' W'
  exact go st' (K T' h' X' e' W' (A.same W'))
theorem g_bastore (X : Stand p l e R s m args below meth c T locs cells slots) (hx : p.tables.exec = Jvm.exec) (hZ : Z.Warmed39 s.vm) (pc' : Nat) (hpc : pc + 1 = pc') (hd : decode c.code pc = .ok (.bastore, 1)) (eT : T.heap = h) {a : Addr} {vs : List Value} (A : Al Z h a .byte vs) {j : Int32} {x : Int32} (i : Nat) (hj : j.toInt = (i : Int)) (hi : i < vs.length) (K : ∀ T' h', Stand p l e R s m args below meth c T' (locs ++ [⟨a, i⟩]) cells slots → T'.heap = h' → Wr h h' a i (.int (nar .byte x)) → Al Z h' a .byte (vs.set i (.int (nar .byte x))) → Goes p e below (T'.setTop (mkF m pc' Ls st)) P) : Goes p e below (T.setTop (mkF m pc Ls (.int x :: .int j :: .ref a :: st))) P := by
  subst hpc
  obtain ⟨c, Ar, r1, r2, r3⟩ := A.cell hj hi
  obtain ⟨T', h', X', e', W', st'⟩ := stB X hx hZ eT Ar r2 (g := mkF m pc Ls (.int x :: .int j :: .ref a :: st)) rfl rfl hd
  rw [(own_ix hj).1] at X' W'
  exact go st' (K T' h' X' e' W' (A.same W'))
theorem g_castore (X : Stand p l e R s m args below meth c T locs cells slots) (hx : p.tables.exec = Jvm.exec) (hZ : Z.Warmed39 s.vm) (pc' : Nat) (hpc : pc + 1 = pc') (hd : decode c.code pc = .ok (.castore, 1)) (eT : T.heap = h) {a : Addr} {vs : List Value} (A : Al Z h a .char vs) {j : Int32} {x : Int32} (i : Nat) (hj : j.toInt = (i : Int)) (hi : i < vs.length) (K : ∀ T' h', Stand p l e R s m args below meth c T' (locs ++ [⟨a, i⟩]) cells slots → T'.heap = h' → Wr h h' a i (.int (nar .char x)) → Al Z h' a .char (vs.set i (.int (nar .char x))) → Goes p e below (T'.setTop (mkF m pc' Ls st)) P) : Goes p e below (T.setTop (mkF m pc Ls (.int x :: .int j :: .ref a :: st))) P := by
  subst hpc
  obtain ⟨c, Ar, r1, r2, r3⟩ := A.cell hj hi
  obtain ⟨T', h', X', e', W', st'⟩ := stC X hx hZ eT Ar r2 (g := mkF m pc Ls (.int x :: .int j :: .ref a :: st)) rfl rfl hd
  rw [(own_ix hj).1] at X' W'
  exact go st' (K T' h' X' e' W' (A.same W'))
theorem g_newarr (X : Stand p l e R s m args below meth c T locs cells slots) (hx : p.tables.exec = Jvm.exec) (hZ : Z.Warmed39 s.vm) (pc' : Nat) (hpc : pc + 2 = pc') {aty : ArrayType} (w : (Jvm.Cond.arrayClass (newarray.typeOf aty)).before a0 Z = true) (eT : T.heap = h) (hd : decode c.code pc = .ok (.newarray aty, 2)) {n : Int32} (k : Nat) (hn : n.toInt = (k : Int)) (cap : Nat) (hcap : k ≤ cap) (hb : cap * 8 ≤ 536870912) (hc : cells + 1 ≤ R.cells) (hl : slots + cap ≤ R.slots) (ad : String) (had : "[" ++ (newarray.typeOf aty).toString = ad) (K : ∀ T' h' a, a = h.size → Stand p l e R s m args below meth c T' locs (cells + 1) (slots + cap) → T'.heap = h' → Ext h h' → Al Z h' a (newarray.typeOf aty) (List.replicate k (defaultValue (newarray.typeOf aty))) → Exa Z h' a ad → Goes p e below (T'.setTop (mkF m pc' Ls (.ref a :: st))) P) : Goes p e below (T.setTop (mkF m pc Ls (.int n :: st))) P := by
  subst hpc
  obtain ⟨q1, q2⟩ := own_ix hn
  obtain ⟨T', h', cA, X', e', E', A', Ex', st'⟩ := newPE X hx hZ w eT (g := mkF m pc Ls (.int n :: st)) rfl hd rfl q2 (cap := cap) (by rw [q1]; exact hcap) hb hc hl had
  refine go st' (K T' h' _ rfl X' e' E' ⟨_, A', by simp [newA, q1], ?_⟩ Ex')
  rw [List.length_replicate]
  have := Int32.toInt_lt n
  omega
theorem own_narb (x : Int32) : nar .byte x.toInt8.toInt32 = x.toInt8.toInt32 := by show x.toInt8.toInt32.toInt8.toInt32 = _; simp
theorem g_cast (X : Stand p l e R s m args below meth c T locs cells slots) (hx : p.tables.exec = Jvm.exec) (hZ : Z.Warmed39 s.vm) (pc' : Nat) (hpc : pc + 3 = pc') {own K : String} {index : Nat} (hown : s.vm.findClass own = some m.cls) (w : (Jvm.Cond.classLink own index K).before a0 Z = true) (eT : T.heap = h) {a : Addr} (F : Ins Z h a K true) (hd : decode c.code pc = .ok (.checkcast index, 3)) (K2 : ∀ T', Stand p l e R s m args below meth c T' locs cells slots → T'.heap = h → Goes p e below (T'.setTop (mkF m pc' Ls (.ref a :: st))) P) : Goes p e below (T.setTop (mkF m pc Ls (.ref a :: st))) P := by
  subst hpc
  obtain ⟨T', X', e', st'⟩ := castY X hx hZ hown w eT F (g := mkF m pc Ls (.ref a :: st)) rfl rfl hd
  exact go st' (K2 T' X' e')
theorem own_fitc {a : Addr} {ty : FieldType} {vs : List Value} {c : Cell} (A : Arr Z h a c ty) (r : c.slots.toList = vs) (hfit : ∀ v ∈ vs, fits ty v = true) : FitC Z c := fitC_of A fun i hi v hv => hfit v (by rw [← r]; rw [← Array.getElem?_toList] at hv; exact List.mem_of_getElem? hv)
theorem g_clone (X : Stand p l e R s m args below meth c T locs cells slots) (hx : p.tables.exec = Jvm.exec) (hZ : Z.Warmed39 s.vm) (pc' : Nat) (hpc : pc + 3 = pc') {own ad : String} {index : Nat} (hown : s.vm.findClass own = some m.cls) (w1 : (Jvm.Cond.methodLink own index ⟨ad, "clone", "()Ljava/lang/Object;"⟩).before a0 Z = true) (w2 : (Jvm.Cond.sameMethod ad "java/lang/Object" "clone" "()Ljava/lang/Object;").before a0 Z = true) (w3 : (Jvm.Cond.native ⟨"java/lang/Object", "clone", "()Ljava/lang/Object;"⟩).before a0 Z = true) (w4 : (Jvm.Cond.instanceMethod ⟨"java/lang/Object", "clone", "()Ljava/lang/Object;"⟩).before a0 Z = true) (w5 : (Jvm.Cond.selects ad ⟨ad, "clone", "()Ljava/lang/Object;"⟩ ⟨"java/lang/Object", "clone", "()Ljava/lang/Object;"⟩).before a0 Z = true) (w6 : (Jvm.Cond.castable ad "java/lang/Cloneable").before a0 Z = true) (eT : T.heap = h) {a : Addr} {ty : FieldType} {vs : List Value} (A : Al Z h a ty vs) (Ex : Exa Z h a ad) (hfit : ∀ v ∈ vs, fits ty v = true) (hd : decode c.code pc = .ok (.invokevirtual index, 3)) (hsize : Ls.size = c.maxLocals) (hf : 1 ≤ R.frames) (W : Nat) (hW : 2 * 0 + (st.map fun v => v.category).sum ≤ W) (hl : W + 14 ≤ R.locals) (cap : Nat) (hcap : vs.length ≤ cap) (hc : cells + 1 ≤ R.cells) (hs : slots + cap ≤ R.slots) (K : ∀ T' h' b, b = h.size → Stand p l e R s m args below meth c T' locs (cells + 1) (slots + cap) → T'.heap = h' → Ext h h' → Al Z h' b ty vs → Exa Z h' b ad → Goes p e below (T'.setTop (mkF m pc' Ls (.ref b :: st))) P) : Goes p e below (T.setTop (mkF m pc Ls (.ref a :: st))) P := by
  subst hpc
  obtain ⟨c, Ar, r1, r2⟩ := A
  obtain ⟨T', h', X', e', E', A', Ex', st'⟩ := cloneA X hx hZ hown w1 w2 w3 w4 w5 w6 eT Ar Ex (own_fitc Ar r1 hfit) (g := mkF m pc Ls (.ref a :: st)) rfl hsize rfl hd hf hW hl (by rw [← r1] at hcap; simpa using hcap) hc hs
  exact go st' (K T' h' _ rfl X' e' E' ⟨_, A', r1, r2⟩ Ex')
theorem own_arv {a : Addr} {ty : FieldType} {vs : List Value} (d : Value) (A : Al Z h a ty vs) (hfit : ∀ v ∈ vs, fits ty v = true) : ∃ k, Arv Z h a k ty (Int32.ofNat vs.length) vs d := by
  obtain ⟨c, Ar, r1, r2⟩ := A
  have hs : c.slots.size = vs.length := by rw [← r1]; simp
  have h1 : (Int32.ofNat vs.length).toInt = (vs.length : Int) := Int32.toInt_ofNat_of_lt r2
  obtain ⟨q1, q2⟩ := own_ix h1
  have hv : ∀ i, i < c.slots.size → c.slots[i]? = some (vs.getD i d) := fun i hi => by
    rw [← Array.getElem?_toList, r1, List.getD_eq_getElem?_getD, List.getElem?_eq_getElem (by omega)]; rfl
  refine ⟨c.cls, c, Ar, rfl, by rw [hs, q1], q2, hv, fun i hi => hfit _ ?_⟩
  have := hv i hi
  rw [← Array.getElem?_toList, r1] at this
  exact List.mem_of_getElem? this
theorem own_al {a : Addr} {k : ClassId} {ty : FieldType} {z : Int32} {vs : List Value} {d : Value} (A : Arv Z h a k ty z vs d) (hl : vs.length = z.toNatClampNeg) : Al Z h a ty vs := by
  obtain ⟨c, Ar, -, S, M, H, -⟩ := A
  refine ⟨c, Ar, ?_, ?_⟩
  · apply List.ext_getElem?
    intro i
    rw [Array.getElem?_toList]
    by_cases hi : i < c.slots.size
    · rw [H i hi, List.getD_eq_getElem?_getD, List.getElem?_eq_getElem (by omega)]; rfl
    · rw [Array.getElem?_eq_none (by omega), List.getElem?_eq_none (by omega)]
  · have := (back32 M).2; omega
theorem g_acopy (X : Stand p l e R s m args below meth c T locs cells slots) (hx : p.tables.exec = Jvm.exec) (hZ : Z.Warmed39 s.vm) (pc' : Nat) (hpc : pc + 3 = pc') {own : String} {index : Nat} (hown : s.vm.findClass own = some m.cls) (w1 : (Jvm.Cond.methodLink own index Jvm.Stand.acN).before a0 Z = true) (w2 : (Jvm.Cond.native Jvm.Stand.acN).before a0 Z = true) (w3 : (Jvm.Cond.static Jvm.Stand.acN).before a0 Z = true) (w4 : (Jvm.Cond.initialized "java/lang/System").before a0 Z = true) (eT : T.heap = h) {a b : Addr} {ty : FieldType} {vs vd : List Value} (A : Al Z h a ty vs) (B : Al Z h b ty vd) (hp : refKind ty = false) (hfit : ∀ v ∈ vs, fits ty v = true) (hfit2 : ∀ v ∈ vd, fits ty v = true) {nn : Int32} (n : Nat) (hn : nn.toInt = (n : Int)) (h1 : n ≤ vs.length) (h2 : n ≤ vd.length) {n0 : Nat} (N : Fr n0 locs) (ge : n0 ≤ b) (hd : decode c.code pc = .ok (.invokestatic index, 3)) (hsize : Ls.size = c.maxLocals) (hf : 1 ≤ R.frames) (W : Nat) (hW : 2 * 0 + (st.map fun v => v.category).sum ≤ W) (hlo : W + (nativeFrameWords "java/lang/System" "arraycopy" 5 + 11) ≤ R.locals) (K : ∀ T' h' L, Stand p l e R s m args below meth c T' L cells slots → T'.heap = h' → Fr n0 L → Keep h h' [b] → Al Z h' b ty (vs.take n ++ vd.drop n) → Goes p e below (T'.setTop (mkF m pc' Ls st)) P) : Goes p e below (T.setTop (mkF m pc Ls (.int nn :: .int 0 :: .ref b :: .int 0 :: .ref a :: st))) P := by
  subst hpc
  obtain ⟨ka, Aa⟩ := own_arv (.int 0) A hfit
  obtain ⟨kb, Ab⟩ := own_arv (.int 0) B hfit2
  obtain ⟨q1, q2⟩ := own_ix hn
  have l1 : (Int32.ofNat vs.length).toNatClampNeg = vs.length := (own_ix (Int32.toInt_ofNat_of_lt A.choose_spec.2.2)).1
  have l2 : (Int32.ofNat vd.length).toNatClampNeg = vd.length := (own_ix (Int32.toInt_ofNat_of_lt B.choose_spec.2.2)).1
  have z0 : (0 : Int32).toNatClampNeg = 0 := rfl
  obtain ⟨T', h', L, X', e', N', K', A', st'⟩ := cpA X hx hZ hown w1 w2 w3 w4 eT Aa Ab (us := (List.range nn.toNatClampNeg).map fun i => vs.getD ((0 : Int32).toNatClampNeg + i) (.int 0)) (Or.inl ⟨rfl, hp⟩) (sp := 0) (dp := 0) (nn := nn) (by decide) (by decide) q2 (by rw [q1, l1, z0]; omega) (by rw [q1, l2, z0]; omega) rfl (by rw [q1, z0]; omega) N ge (g := mkF m pc Ls (.int nn :: .int 0 :: .ref b :: .int 0 :: .ref a :: st)) rfl hsize rfl hd hf hW hlo
  have hu : vd.take (0 : Int32).toNatClampNeg ++ ((List.range nn.toNatClampNeg).map fun i => vs.getD ((0 : Int32).toNatClampNeg + i) (.int 0)) ++ vd.drop ((0 : Int32).toNatClampNeg + nn.toNatClampNeg) = vs.take n ++ vd.drop n := by
    rw [z0, q1, List.take_zero, List.nil_append, Nat.zero_add]
    congr 1
    apply List.ext_getElem?
    intro i
    by_cases hi : i < n
    · rw [List.getElem?_take_of_lt hi, List.getElem?_map, List.getElem?_range hi, Option.map_some, Nat.zero_add, List.getD_eq_getElem?_getD, List.getElem?_eq_getElem (by omega)]; rfl
    · rw [List.getElem?_eq_none (by simp; omega), List.getElem?_eq_none (by simp; omega)]
  rw [hu] at A'
  exact go st' (K T' h' L X' e' N' K' (own_al A' (by rw [l2]; simp; omega)))
theorem own_eqI {args : Array Value} {first s : State} {o : Option Outcome} {idx : List Nat} {a : Term} {k : Int32} (q : (Jvm.Cond.eq a (Jvm.Term.int k)).value args first o s idx = some true) : a.eval args first o idx s = some (.int k) := by
  obtain ⟨x, y, h1, h2, h3, h4⟩ := cmp_v (Or.inl q)
  have h5 : y = .int k := (Option.some.inj ((Term.int_eval k).symm.trans h2)).symm
  subst h5
  obtain ⟨z, rfl⟩ := h4
  have h6 : z = k := gotT (Cond.eq_ints h1 h2) q
  rw [h1, h6]
theorem own_nar_ref {v : Value} {C : String} (q : v.isRef = true) : narrow (.object C) v = v := by cases v <;> simp [Value.isRef] at q <;> rfl
theorem own_fit_ref {v : Value} {C : String} (q : v.isRef = true) : fits (.object C) v = true := by cases v <;> simp [Value.isRef] at q <;> rfl
theorem own_sixteen (x : Int32) : (x.toBitVec.toNat < 2147483648 ∧ x.toInt = (x.toBitVec.toNat : Int)) ∨ (2147483648 ≤ x.toBitVec.toNat ∧ x.toInt = (x.toBitVec.toNat : Int) - 4294967296) := by
  have h1 : x.toInt = x.toBitVec.toInt := rfl
  have h2 := x.toBitVec.isLt
  rw [h1, BitVec.toInt_eq_toNat_cond]; split <;> omega
end OwnKit

theorem own_ofi (k : Nat) (hk : k < 2147483648) : (Int32.ofNat k).toInt = (k : Int) := Int32.toInt_ofNat_of_lt hk

theorem d5_0 : decode jdk_29_method_69_code 0 = .ok (.iload_n 0, 1) := by decide +kernel
theorem d5_1 : decode jdk_29_method_69_code 1 = .ok (.iload_n 1, 1) := by decide +kernel
theorem d5_2 : decode jdk_29_method_69_code 2 = .ok (.if_icmp .gt 7, 3) := by decide +kernel
theorem d5_5 : decode jdk_29_method_69_code 5 = .ok (.iload_n 0, 1) := by decide +kernel
theorem d5_6 : decode jdk_29_method_69_code 6 = .ok (.goto 4, 3) := by decide +kernel
theorem d5_9 : decode jdk_29_method_69_code 9 = .ok (.iload_n 1, 1) := by decide +kernel
theorem d5_10 : decode jdk_29_method_69_code 10 = .ok (.ireturn, 1) := by decide +kernel
theorem pf_0 : plainFor (⟨"java/lang/Math", "min", "(II)I"⟩ : MethodName) = true := by first | exact plainFor_of_name (by first | (simp [plainName, overriddenIn]; done) | decide +kernel) | decide +kernel
theorem ef_5_rmM (m : MethodId) (p1 : Int32) (p2 : Int32)  : entryFrame m #[(.int p1), (.int p2)] 2 = mkF m 0 #[.val (.int p1), .val (.int p2)] [] := by first | (simp [entryFrame, mkF, argsToLocals, Value.category, maxLocals]; done) | rfl
def Q_rmM (Z : State) (p1 : Int32) (p2 : Int32) (h0 : Heap) (n0 : Nat) (v : Option Value) (h : Heap) (L : List Loc) : Prop := v = some (.int p2) ∧ Fr n0 L ∧ h = h0
set_option maxRecDepth 65536 in
set_option maxHeartbeats 40000000 in
theorem rmM (l : Launch) (Z : State) (a0 : Array Value) (hw : ∀ d ∈ tables_1, d.before a0 Z = true) (ws : List Jvm.Cond) (p1 : Int32) (p2 : Int32) (h0 : Heap) (n0 : Nat) (Z0 : n0 ≤ h0.size) (hc : p2 < p1) :
    OwnMet l Z (⟨"java/lang/Math", "min", "(II)I"⟩ : MethodName) jdk_29_method_69_code 2 (some .int) ws ({ frames := 0, cells := 0, slots := 0, locals := 0 } : Room) #[(.int p1), (.int p2)] h0 (Q_rmM Z p1 p2 h0 n0) := by
  refine own_body pf_0 ?_
  intro p e s m below meth c s₁ hx hby hml hown hnm hret hlk hZ X0 e0
  have N0 := Fr.nil n0
  refine own_cast (ef_5_rmM m p1 p2 ) ?_
  refine g_iload_n X0 hx 1 rfl (hb hby d5_0) rfl ?_
  refine g_iload_n X0 hx 2 rfl (hb hby d5_1) rfl ?_
  refine g_icmpY X0 hx 9 (hb hby d5_2) (XT.ii_gt_t hc) (by decide) (by decide) ?_
  refine g_iload_n X0 hx 10 rfl (hb hby d5_9) rfl ?_
  exact g_retI X0 hx hret hlk (hb hby d5_10) ⟨rfl, N0, e0⟩ (by decide) (by decide)
theorem d2_0 : decode jdk_65_method_121_code 0 = .ok (.iload_n 1, 1) := by decide +kernel
theorem d2_1 : decode jdk_65_method_121_code 1 = .ok (.aload_n 0, 1) := by decide +kernel
theorem d2_2 : decode jdk_65_method_121_code 2 = .ok (.arraylength, 1) := by decide +kernel
theorem d2_3 : decode jdk_65_method_121_code 3 = .ok (.if_icmp .ne 11, 3) := by decide +kernel
theorem d2_6 : decode jdk_65_method_121_code 6 = .ok (.aload_n 0, 1) := by decide +kernel
theorem d2_7 : decode jdk_65_method_121_code 7 = .ok (.invokevirtual 310, 3) := by decide +kernel
theorem d2_10 : decode jdk_65_method_121_code 10 = .ok (.checkcast 311, 3) := by decide +kernel
theorem d2_13 : decode jdk_65_method_121_code 13 = .ok (.areturn, 1) := by decide +kernel
theorem d2_14 : decode jdk_65_method_121_code 14 = .ok (.iload_n 1, 1) := by decide +kernel
theorem d2_15 : decode jdk_65_method_121_code 15 = .ok (.newarray .byte, 2) := by decide +kernel
theorem d2_17 : decode jdk_65_method_121_code 17 = .ok (.astore_n 2, 1) := by decide +kernel
theorem d2_18 : decode jdk_65_method_121_code 18 = .ok (.aload_n 0, 1) := by decide +kernel
theorem d2_19 : decode jdk_65_method_121_code 19 = .ok (.iconst 0, 1) := by decide +kernel
theorem d2_20 : decode jdk_65_method_121_code 20 = .ok (.aload_n 2, 1) := by decide +kernel
theorem d2_21 : decode jdk_65_method_121_code 21 = .ok (.iconst 0, 1) := by decide +kernel
theorem d2_22 : decode jdk_65_method_121_code 22 = .ok (.aload_n 0, 1) := by decide +kernel
theorem d2_23 : decode jdk_65_method_121_code 23 = .ok (.arraylength, 1) := by decide +kernel
theorem d2_24 : decode jdk_65_method_121_code 24 = .ok (.iload_n 1, 1) := by decide +kernel
theorem d2_25 : decode jdk_65_method_121_code 25 = .ok (.invokestatic 304, 3) := by decide +kernel
theorem d2_28 : decode jdk_65_method_121_code 28 = .ok (.invokestatic 150, 3) := by decide +kernel
theorem d2_31 : decode jdk_65_method_121_code 31 = .ok (.aload_n 2, 1) := by decide +kernel
theorem d2_32 : decode jdk_65_method_121_code 32 = .ok (.areturn, 1) := by decide +kernel
theorem pf_1 : plainFor (⟨"java/util/Arrays", "copyOf", "([BI)[B"⟩ : MethodName) = true := by first | exact plainFor_of_name (by first | (simp [plainName, overriddenIn]; done) | decide +kernel) | decide +kernel
theorem pd_0 : parseMethodDescriptor "()Ljava/lang/Object;" = some ⟨[], some (.object "java/lang/Object")⟩ := by decide +kernel
theorem pd_1 : parseMethodDescriptor "(II)I" = some ⟨[.int, .int], some .int⟩ := by decide +kernel
theorem pd_2 : parseMethodDescriptor "(Ljava/lang/Object;ILjava/lang/Object;II)V" = some ⟨[.object "java/lang/Object", .int, .object "java/lang/Object", .int, .int], none⟩ := by decide +kernel
theorem ef_2_rmC (m : MethodId) (a : Addr) (p2 : Int32) (vs : List Value) (mm : Nat)  : entryFrame m #[(.ref a), (.int p2)] 3 = mkF m 0 #[.val (.ref a), .val (.int p2), .unset] [] := by first | (simp [entryFrame, mkF, argsToLocals, Value.category, maxLocals]; done) | rfl
def Q_rmC (Z : State) (a : Addr) (p2 : Int32) (vs : List Value) (mm : Nat) (h0 : Heap) (n0 : Nat) (v : Option Value) (h : Heap) (L : List Loc) : Prop := ∃ b, v = some (.ref b) ∧ Fr n0 L ∧ Keep h0 h [] ∧ n0 ≤ b ∧ h0.size ≤ b ∧ Al Z h b .byte (vs.take mm) ∧ Exa Z h b "[B"
set_option maxRecDepth 65536 in
set_option maxHeartbeats 40000000 in
theorem rmC (l : Launch) (Z : State) (a0 : Array Value) (hw : ∀ d ∈ tables_1, d.before a0 Z = true) (ws : List Jvm.Cond) (a : Addr) (p2 : Int32) (vs : List Value) (mm : Nat) (h0 : Heap) (n0 : Nat) (Z0 : n0 ≤ h0.size) (Aa : Al Z h0 a .byte vs) (Ea : Exa Z h0 a "[B") (hm : p2.toInt = (mm : Int)) (hle : mm ≤ vs.length) (hcap : vs.length ≤ 4) (hfit : ∀ v ∈ vs, fits .byte v = true) :
    OwnMet l Z (⟨"java/util/Arrays", "copyOf", "([BI)[B"⟩ : MethodName) jdk_65_method_121_code 3 (some (.array .byte)) ws ({ frames := 1, cells := 1, slots := 4, locals := 18 } : Room) #[(.ref a), (.int p2)] h0 (Q_rmC Z a p2 vs mm h0 n0) := by
  refine own_body pf_1 ?_
  intro p e s m below meth c s₁ hx hby hml hown hnm hret hlk hZ X0 e0
  have N0 := Fr.nil n0
  refine own_cast (ef_2_rmC m a p2 vs mm ) ?_
  have hlen : (Int32.ofNat vs.length).toInt = (vs.length : Int) := own_ofi _ (by omega)
  refine g_iload_n X0 hx 1 rfl (hb hby d2_0) rfl ?_
  refine g_aload_n X0 hx 2 rfl (hb hby d2_1) rfl rfl ?_
  refine g_alen X0 hx hZ 3 rfl (hb hby d2_2) e0 Aa (Int32.ofNat vs.length) rfl ?_
  by_cases c3 : p2 = (Int32.ofNat vs.length)
  · refine g_icmpN X0 hx 6 rfl (hb hby d2_3) (XT.ii_ne_f c3) ?_
    refine g_aload_n X0 hx 7 rfl (hb hby d2_6) rfl rfl ?_
    have hm2 : mm = vs.length := by rw [c3] at hm; omega
    refine g_clone X0 hx hZ 10 rfl (ad := "[B") hown (hw _ (List.mem_of_getElem? (i := 9) rfl)) (hw _ (List.mem_of_getElem? (i := 10) rfl)) (hw _ (List.mem_of_getElem? (i := 14) rfl)) (hw _ (List.mem_of_getElem? (i := 12) rfl)) (hw _ (List.mem_of_getElem? (i := 13) rfl)) (hw _ (List.mem_of_getElem? (i := 15) rfl)) e0 Aa Ea hfit (hb hby d2_7) (by rw [hml]; rfl) (by decide) 0 (Nat.le_of_eq rfl) (by decide) 4 hcap (by decide) (by decide) ?_
    intro T1 h1 b1 g1 X1 e1 E1 A1 Ex1
    have ne_a_b1 : a ≠ b1 := Nat.ne_of_lt (Nat.lt_of_lt_of_eq Aa.lt g1.symm)
    have ge_b1 : n0 ≤ b1 := Nat.le_trans Z0 (Nat.le_of_eq g1.symm)
    have hz_b1 : h0.size ≤ b1 := Nat.le_trans (Keep.refl h0 []).1 (Nat.le_of_eq g1.symm)
    refine g_cast X1 hx hZ 13 rfl hown (hw _ (List.mem_of_getElem? (i := 16) rfl)) e1 (Ins.self Ex1) (hb hby d2_10) ?_
    intro T2 X2 e2
    have Af := A1
    rw [← List.take_of_length_le (Nat.le_of_eq hm2.symm)] at Af
    exact g_retA X2 hx hret hlk rfl rfl rfl (hb hby d2_13) (by rw [e2]; exact ⟨b1, rfl, N0, ((Keep.refl h0 []).ext E1), ge_b1, hz_b1, Af, Ex1⟩) (by decide) (by decide)
  · refine g_icmpY X0 hx 14 (hb hby d2_3) (XT.ii_ne_t c3) (by decide) (by decide) ?_
    refine g_iload_n X0 hx 15 rfl (hb hby d2_14) rfl ?_
    have hm2 : mm < vs.length := by
      rcases Nat.lt_or_ge mm vs.length with q | q
      · exact q
      · exact absurd (Int32.toInt_inj.mp (by rw [hlen]; omega)) c3
    refine g_newarr X0 hx hZ 17 rfl (hw _ (List.mem_of_getElem? (i := 0) rfl)) e0 (hb hby d2_15) mm hm 4 (by omega) (by decide) (by decide) (by decide) "[B" (by decide) ?_
    intro T3 h3 b g3 X3 e3 E3 A3 Ex3
    have ne_a_b : a ≠ b := Nat.ne_of_lt (Nat.lt_of_lt_of_eq Aa.lt g3.symm)
    have ge_b : n0 ≤ b := Nat.le_trans Z0 (Nat.le_of_eq g3.symm)
    have hz_b : h0.size ≤ b := Nat.le_trans (Keep.refl h0 []).1 (Nat.le_of_eq g3.symm)
    refine g_astore_n X3 hx 18 rfl (hb hby d2_17) rfl #[.val (.ref a), .val (.int p2), .val (.ref b)] rfl ?_
    refine g_aload_n X3 hx 19 rfl (hb hby d2_18) rfl rfl ?_
    refine g_iconst X3 hx 20 rfl (0 : Int32) rfl (hb hby d2_19) ?_
    refine g_aload_n X3 hx 21 rfl (hb hby d2_20) rfl rfl ?_
    refine g_iconst X3 hx 22 rfl (0 : Int32) rfl (hb hby d2_21) ?_
    refine g_aload_n X3 hx 23 rfl (hb hby d2_22) rfl rfl ?_
    have Al4 := (Aa.ext E3)
    refine g_alen X3 hx hZ 24 rfl (hb hby d2_23) e3 Al4 (Int32.ofNat vs.length) rfl ?_
    refine g_iload_n X3 hx 25 rfl (hb hby d2_24) rfl ?_
    have Zl6 : n0 ≤ h3.size := (Nat.le_trans Z0 E3.1)
    refine g_callS X3 hx hZ 28 rfl (y := (⟨"java/lang/Math", "min", "(II)I"⟩ : MethodName)) hown (hw _ (List.mem_of_getElem? (i := 25) rfl)) (hw _ (List.mem_of_getElem? (i := 26) rfl)) (hw _ (List.mem_of_getElem? (i := 27) rfl)) (hw _ (List.mem_of_getElem? (i := 28) rfl)) (by decide) [.int (Int32.ofNat vs.length), .int p2] [.int (0 : Int32), .ref b, .int (0 : Int32), .ref a] (rmM l Z a0 hw [] (Int32.ofNat vs.length) p2 h3 n0 Zl6 (by rw [Int32.lt_iff_toInt_lt, hlen]; omega)) e3 (lenOf pd_1 rfl) rfl (by rw [hml]; rfl) (hb hby d2_25) (by decide) 4 (Nat.le_of_eq rfl) (by decide) (by decide) (by decide) ?_
    rintro _ T5 L5 X5 ⟨rfl, N5q, e5⟩
    have N5 := Fr.app N0 N5q
    show Goes p e below (T5.setTop (mkF m 28 #[.val (.ref a), .val (.int p2), .val (.ref b)] [.int p2, .int (0 : Int32), .ref b, .int (0 : Int32), .ref a])) _
    refine g_acopy X5 hx hZ 31 rfl hown (hw _ (List.mem_of_getElem? (i := 29) rfl)) (hw _ (List.mem_of_getElem? (i := 32) rfl)) (hw _ (List.mem_of_getElem? (i := 30) rfl)) (hw _ (List.mem_of_getElem? (i := 31) rfl)) e5 Al4 A3 rfl hfit (fun v hv => by rw [List.eq_of_mem_replicate hv]; rfl) mm hm hle (by simp) N5 ge_b (hb hby d2_28) (by rw [hml]; rfl) (by decide) 0 (Nat.le_of_eq rfl) (by decide) ?_
    intro T7 h7 L7 X7 e7 N7 K7 A7
    rw [List.drop_of_length_le (by simp), List.append_nil] at A7
    refine g_aload_n X7 hx 32 rfl (hb hby d2_31) rfl rfl ?_
    have Exa8 := (Ex3.keep K7)
    exact g_retA X7 hx hret hlk rfl rfl rfl (hb hby d2_32) (by rw [e7]; exact ⟨b, rfl, N7, (((Keep.refl h0 []).ext E3).trans K7 (allS (Or.inr hz_b) all0)), ge_b, hz_b, A7, Exa8⟩) (by decide) (by decide)
theorem d1_0 : decode prog_37_method_21_code 0 = .ok (.aload_n 0, 1) := by decide +kernel
theorem d1_1 : decode prog_37_method_21_code 1 = .ok (.arraylength, 1) := by decide +kernel
theorem d1_2 : decode prog_37_method_21_code 2 = .ok (.iconst 1, 1) := by decide +kernel
theorem d1_3 : decode prog_37_method_21_code 3 = .ok (.isub, 1) := by decide +kernel
theorem d1_4 : decode prog_37_method_21_code 4 = .ok (.istore_n 1, 1) := by decide +kernel
theorem d1_5 : decode prog_37_method_21_code 5 = .ok (.aload_n 0, 1) := by decide +kernel
theorem d1_6 : decode prog_37_method_21_code 6 = .ok (.iload_n 1, 1) := by decide +kernel
theorem d1_7 : decode prog_37_method_21_code 7 = .ok (.baload, 1) := by decide +kernel
theorem d1_8 : decode prog_37_method_21_code 8 = .ok (.iconst (-1), 1) := by decide +kernel
theorem d1_9 : decode prog_37_method_21_code 9 = .ok (.if_icmp .ne 9, 3) := by decide +kernel
theorem d1_12 : decode prog_37_method_21_code 12 = .ok (.iinc 1 (-1), 3) := by decide +kernel
theorem d1_15 : decode prog_37_method_21_code 15 = .ok (.goto (-10), 3) := by decide +kernel
theorem d1_18 : decode prog_37_method_21_code 18 = .ok (.aload_n 0, 1) := by decide +kernel
theorem d1_19 : decode prog_37_method_21_code 19 = .ok (.iload_n 1, 1) := by decide +kernel
theorem d1_20 : decode prog_37_method_21_code 20 = .ok (.iconst 1, 1) := by decide +kernel
theorem d1_21 : decode prog_37_method_21_code 21 = .ok (.iadd, 1) := by decide +kernel
theorem d1_22 : decode prog_37_method_21_code 22 = .ok (.invokestatic 178, 3) := by decide +kernel
theorem d1_25 : decode prog_37_method_21_code 25 = .ok (.astore_n 2, 1) := by decide +kernel
theorem d1_26 : decode prog_37_method_21_code 26 = .ok (.aload_n 2, 1) := by decide +kernel
theorem d1_27 : decode prog_37_method_21_code 27 = .ok (.iload_n 1, 1) := by decide +kernel
theorem d1_28 : decode prog_37_method_21_code 28 = .ok (.dup2, 1) := by decide +kernel
theorem d1_29 : decode prog_37_method_21_code 29 = .ok (.baload, 1) := by decide +kernel
theorem d1_30 : decode prog_37_method_21_code 30 = .ok (.iconst 1, 1) := by decide +kernel
theorem d1_31 : decode prog_37_method_21_code 31 = .ok (.iadd, 1) := by decide +kernel
theorem d1_32 : decode prog_37_method_21_code 32 = .ok (.i2b, 1) := by decide +kernel
theorem d1_33 : decode prog_37_method_21_code 33 = .ok (.bastore, 1) := by decide +kernel
theorem d1_34 : decode prog_37_method_21_code 34 = .ok (.aload_n 2, 1) := by decide +kernel
theorem d1_35 : decode prog_37_method_21_code 35 = .ok (.areturn, 1) := by decide +kernel
theorem pf_2 : plainFor (⟨"com/example/rowgraph/rowgraph/graph/Rows", "end", "([B)[B"⟩ : MethodName) = true := by first | exact plainFor_of_name (by first | (simp [plainName, overriddenIn]; done) | decide +kernel) | decide +kernel
theorem pd_3 : parseMethodDescriptor "([BI)[B" = some ⟨[.array .byte, .int], some (.array .byte)⟩ := by decide +kernel
theorem ef_1_rmE (m : MethodId) (a : Addr) (vs : List Value) (k : Nat) (x : Int32)  : entryFrame m #[(.ref a)] 3 = mkF m 0 #[.val (.ref a), .unset, .unset] [] := by first | (simp [entryFrame, mkF, argsToLocals, Value.category, maxLocals]; done) | rfl
def Q_rmE (Z : State) (a : Addr) (vs : List Value) (k : Nat) (x : Int32) (h0 : Heap) (n0 : Nat) (v : Option Value) (h : Heap) (L : List Loc) : Prop := ∃ b, v = some (.ref b) ∧ Fr n0 L ∧ Keep h0 h [] ∧ Al Z h b .byte ((vs.take (k + 1)).set k (.int ((x + (1 : Int32)).toInt8.toInt32)))
set_option maxRecDepth 65536 in
set_option maxHeartbeats 40000000 in
theorem rmE (l : Launch) (Z : State) (a0 : Array Value) (hw : ∀ d ∈ tables_1, d.before a0 Z = true) (ws : List Jvm.Cond) (a : Addr) (vs : List Value) (k : Nat) (x : Int32) (h0 : Heap) (n0 : Nat) (Z0 : n0 ≤ h0.size) (Aa : Al Z h0 a .byte vs) (Ea : Exa Z h0 a "[B") (hk : vs[k]? = some (.int x)) (hx1 : ¬ x = (-1 : Int32)) (hall : ∀ i, k < i → i < vs.length → vs[i]? = some (.int (-1 : Int32))) (hcap : vs.length ≤ 4) (hfit : ∀ v ∈ vs, fits .byte v = true) :
    OwnMet l Z (⟨"com/example/rowgraph/rowgraph/graph/Rows", "end", "([B)[B"⟩ : MethodName) prog_37_method_21_code 3 (some (.array .byte)) ws ({ frames := 2, cells := 1, slots := 4, locals := 32 } : Room) #[(.ref a)] h0 (Q_rmE Z a vs k x h0 n0) := by
  refine own_body pf_2 ?_
  intro p e s m below meth c s₁ hx hby hml hown hnm hret hlk hZ X0 e0
  have N0 := Fr.nil n0
  refine own_cast (ef_1_rmE m a vs k x ) ?_
  have hkl : k < vs.length := (List.getElem?_eq_some_iff.mp hk).1
  have loop : ∀ (P : State → Outcome → Prop) (d : Nat), k + d < vs.length → Goes p e below (s₁.setTop (mkF m 18 #[.val (.ref a), .val (.int (Int32.ofNat k)), .unset] [])) P → Goes p e below (s₁.setTop (mkF m 5 #[.val (.ref a), .val (.int (Int32.ofNat (k + d))), .unset] [])) P := by
    intro P d
    induction d with
    | zero =>
      intro hd K
      show Goes p e below (s₁.setTop (mkF m 5 #[.val (.ref a), .val (.int (Int32.ofNat k)), .unset] [])) P
      refine g_aload_n X0 hx 6 rfl (hb hby d1_5) rfl rfl ?_
      refine g_iload_n X0 hx 7 rfl (hb hby d1_6) rfl ?_
      refine g_baload X0 hx hZ 8 rfl (hb hby d1_7) e0 Aa k (own_ofi k (by omega)) (.int x) hk ?_
      refine g_iconst X0 hx 9 rfl (-1 : Int32) rfl (hb hby d1_8) ?_
      refine g_icmpY X0 hx 18 (hb hby d1_9) (XT.ii_ne_t hx1) (by decide) (by decide) ?_
      exact K
    | succ d ih =>
      intro hd K
      refine g_aload_n X0 hx 6 rfl (hb hby d1_5) rfl rfl ?_
      refine g_iload_n X0 hx 7 rfl (hb hby d1_6) rfl ?_
      refine g_baload X0 hx hZ 8 rfl (hb hby d1_7) e0 Aa (k + (d + 1)) (own_ofi _ (by omega)) (.int (-1 : Int32)) (hall _ (by omega) hd) ?_
      refine g_iconst X0 hx 9 rfl (-1 : Int32) rfl (hb hby d1_8) ?_
      refine g_icmpN X0 hx 12 rfl (hb hby d1_9) (XT.ii_ne_f rfl) ?_
      have e1 : Int32.ofNat (k + (d + 1)) + Int32.ofInt (-1) = Int32.ofNat (k + d) := by
        have h1 := c_iadd (Int32.ofNat (k + (d + 1))) (Int32.ofInt (-1)); have h2 := own_ofi (k + (d + 1)) (by omega); have h3 := own_ofi (k + d) (by omega); have h4 := rng32 (Int32.ofNat (k + (d + 1)) + Int32.ofInt (-1)); have h5 : (Int32.ofInt (-1)).toInt = -1 := rfl
        apply Int32.toInt_inj.mp; omega
      refine g_iinc X0 hx 15 rfl (hb hby d1_12) (Int32.ofNat (k + d)) e1 rfl #[.val (.ref a), .val (.int (Int32.ofNat (k + d))), .unset] rfl ?_
      refine g_goto X0 hx 5 (hb hby d1_15) (by decide) (by decide) ?_
      exact ih (by omega) K
  refine g_aload_n X0 hx 1 rfl (hb hby d1_0) rfl rfl ?_
  refine g_alen X0 hx hZ 2 rfl (hb hby d1_1) e0 Aa (Int32.ofNat vs.length) rfl ?_
  refine g_iconst X0 hx 3 rfl (1 : Int32) rfl (hb hby d1_2) ?_
  refine g_isub X0 hx 4 rfl (hb hby d1_3) ?_
  refine g_istore_n X0 hx 5 rfl (hb hby d1_4) #[.val (.ref a), .val (.int ((Int32.ofNat vs.length) - (1 : Int32))), .unset] rfl ?_
  obtain ⟨d, hd⟩ : ∃ d, vs.length = k + d + 1 := ⟨vs.length - k - 1, by omega⟩
  have e0i : (Int32.ofNat vs.length) - (1 : Int32) = Int32.ofNat (k + d) := by
    have h1 := c_isub (Int32.ofNat vs.length) 1; have h2 := own_ofi vs.length (by omega); have h3 := own_ofi (k + d) (by omega); have h4 := rng32 (Int32.ofNat vs.length - 1); have h5 : (1 : Int32).toInt = 1 := rfl
    apply Int32.toInt_inj.mp; omega
  rw [e0i]
  refine loop _ d (by omega) ?_
  refine g_aload_n X0 hx 19 rfl (hb hby d1_18) rfl rfl ?_
  refine g_iload_n X0 hx 20 rfl (hb hby d1_19) rfl ?_
  refine g_iconst X0 hx 21 rfl (1 : Int32) rfl (hb hby d1_20) ?_
  refine g_iadd X0 hx 22 rfl (hb hby d1_21) ?_
  have hk1 : (Int32.ofNat k + (1 : Int32)).toInt = ((k + 1 : Nat) : Int) := by
    have h1 := c_iadd (Int32.ofNat k) 1; have h2 := own_ofi k (by omega); have h4 := rng32 (Int32.ofNat k + 1); have h5 : (1 : Int32).toInt = 1 := rfl; omega
  refine g_callS X0 hx hZ 25 rfl (y := (⟨"java/util/Arrays", "copyOf", "([BI)[B"⟩ : MethodName)) hown (hw _ (List.mem_of_getElem? (i := 5) rfl)) (hw _ (List.mem_of_getElem? (i := 6) rfl)) (hw _ (List.mem_of_getElem? (i := 7) rfl)) (hw _ (List.mem_of_getElem? (i := 8) rfl)) (by decide) [.ref a, .int ((Int32.ofNat k) + (1 : Int32))] [] (rmC l Z a0 hw [] a (Int32.ofNat k + (1 : Int32)) vs (k + 1) h0 n0 Z0 Aa Ea hk1 (by omega) hcap hfit) e0 (lenOf pd_3 rfl) rfl (by rw [hml]; rfl) (hb hby d1_22) (by decide) 0 (Nat.le_of_eq rfl) (by decide) (by decide) (by decide) ?_
  rintro _ T1 L1 X1 ⟨b1, rfl, N1q, K1, gb1, hb1, Ab1, Eb1⟩
  have N1 := Fr.app N0 N1q
  show Goes p e below (T1.setTop (mkF m 25 #[.val (.ref a), .val (.int (Int32.ofNat k)), .unset] [.ref b1])) _
  refine g_astore_n X1 hx 26 rfl (hb hby d1_25) rfl #[.val (.ref a), .val (.int (Int32.ofNat k)), .val (.ref b1)] rfl ?_
  refine g_aload_n X1 hx 27 rfl (hb hby d1_26) rfl rfl ?_
  refine g_iload_n X1 hx 28 rfl (hb hby d1_27) rfl ?_
  refine g_dup2 X1 hx 29 rfl (hb hby d1_28) rfl rfl ?_
  refine g_baload X1 hx hZ 30 rfl (hb hby d1_29) rfl Ab1 k (own_ofi k (by omega)) (.int x) (by rw [List.getElem?_take_of_lt (by omega)]; exact hk) ?_
  refine g_iconst X1 hx 31 rfl (1 : Int32) rfl (hb hby d1_30) ?_
  refine g_iadd X1 hx 32 rfl (hb hby d1_31) ?_
  refine g_i2b X1 hx 33 rfl (hb hby d1_32) ?_
  refine g_bastore X1 hx hZ 34 rfl (hb hby d1_33) rfl Ab1 k (own_ofi k (by omega)) (by simp; omega) ?_
  intro T2 h2 X2 e2 W2 B2
  rw [show nar .byte ((x + (1 : Int32)).toInt8.toInt32) = ((x + (1 : Int32)).toInt8.toInt32) from (own_narb _)] at B2
  have N2 := Fr.snoc X2 N1 gb1
  refine g_aload_n X2 hx 35 rfl (hb hby d1_34) rfl rfl ?_
  exact g_retA X2 hx hret hlk rfl rfl rfl (hb hby d1_35) (by rw [e2]; exact ⟨b1, rfl, N2, (((Keep.refl h0 []).trans K1 all0).wr W2 (Or.inr hb1)), B2⟩) (by decide) (by decide)
theorem d3_0 : decode method_3_code 0 = .ok (.iload_n 2, 1) := by decide +kernel
theorem d3_1 : decode method_3_code 1 = .ok (.iload_n 1, 1) := by decide +kernel
theorem d3_2 : decode method_3_code 2 = .ok (.if_icmp .le 5, 3) := by decide +kernel
theorem d3_5 : decode method_3_code 5 = .ok (.iconst 1, 1) := by decide +kernel
theorem d3_6 : decode method_3_code 6 = .ok (.ireturn, 1) := by decide +kernel
theorem d3_7 : decode method_3_code 7 = .ok (.iload_n 2, 1) := by decide +kernel
theorem d3_8 : decode method_3_code 8 = .ok (.iload_n 1, 1) := by decide +kernel
theorem d3_9 : decode method_3_code 9 = .ok (.if_icmp .ge 16, 3) := by decide +kernel
theorem d3_12 : decode method_3_code 12 = .ok (.aload_n 0, 1) := by decide +kernel
theorem d3_13 : decode method_3_code 13 = .ok (.iload_n 2, 1) := by decide +kernel
theorem d3_14 : decode method_3_code 14 = .ok (.baload, 1) := by decide +kernel
theorem d3_15 : decode method_3_code 15 = .ok (.iload_n 3, 1) := by decide +kernel
theorem d3_16 : decode method_3_code 16 = .ok (.if_icmp .ne 7, 3) := by decide +kernel
theorem d3_19 : decode method_3_code 19 = .ok (.iconst 1, 1) := by decide +kernel
theorem d3_20 : decode method_3_code 20 = .ok (.goto 4, 3) := by decide +kernel
theorem d3_23 : decode method_3_code 23 = .ok (.iconst 0, 1) := by decide +kernel
theorem d3_24 : decode method_3_code 24 = .ok (.ireturn, 1) := by decide +kernel
theorem d3_25 : decode method_3_code 25 = .ok (.aload_n 0, 1) := by decide +kernel
theorem d3_26 : decode method_3_code 26 = .ok (.iload_n 2, 1) := by decide +kernel
theorem d3_27 : decode method_3_code 27 = .ok (.baload, 1) := by decide +kernel
theorem d3_28 : decode method_3_code 28 = .ok (.iload_n 3, 1) := by decide +kernel
theorem d3_29 : decode method_3_code 29 = .ok (.iconst 1, 1) := by decide +kernel
theorem d3_30 : decode method_3_code 30 = .ok (.iadd, 1) := by decide +kernel
theorem d3_31 : decode method_3_code 31 = .ok (.i2b, 1) := by decide +kernel
theorem d3_32 : decode method_3_code 32 = .ok (.if_icmp .ne 7, 3) := by decide +kernel
theorem d3_35 : decode method_3_code 35 = .ok (.iconst 1, 1) := by decide +kernel
theorem d3_36 : decode method_3_code 36 = .ok (.goto 4, 3) := by decide +kernel
theorem d3_39 : decode method_3_code 39 = .ok (.iconst 0, 1) := by decide +kernel
theorem d3_40 : decode method_3_code 40 = .ok (.ireturn, 1) := by decide +kernel
theorem pf_3 : plainFor (⟨"com/example/rowgraph/rowgraph/graph/RowsEndPinLaw", "at", "([BIIB)Z"⟩ : MethodName) = true := by first | exact plainFor_of_name (by first | (simp [plainName, overriddenIn]; done) | decide +kernel) | decide +kernel
theorem ef_3_rmA1 (m : MethodId) (a : Addr) (p2 : Int32) (p3 : Int32) (p4 : Int32)  : entryFrame m #[(.ref a), (.int p2), (.int p3), (.int p4)] 4 = mkF m 0 #[.val (.ref a), .val (.int p2), .val (.int p3), .val (.int p4)] [] := by first | (simp [entryFrame, mkF, argsToLocals, Value.category, maxLocals]; done) | rfl
def Q_rmA1 (Z : State) (a : Addr) (p2 : Int32) (p3 : Int32) (p4 : Int32) (h0 : Heap) (n0 : Nat) (v : Option Value) (h : Heap) (L : List Loc) : Prop := v = some (.int 1) ∧ Fr n0 L ∧ h = h0
set_option maxRecDepth 65536 in
set_option maxHeartbeats 40000000 in
theorem rmA1 (l : Launch) (Z : State) (a0 : Array Value) (hw : ∀ d ∈ tables_1, d.before a0 Z = true) (ws : List Jvm.Cond) (a : Addr) (p2 : Int32) (p3 : Int32) (p4 : Int32) (h0 : Heap) (n0 : Nat) (Z0 : n0 ≤ h0.size) (hc : p2 < p3) :
    OwnMet l Z (⟨"com/example/rowgraph/rowgraph/graph/RowsEndPinLaw", "at", "([BIIB)Z"⟩ : MethodName) method_3_code 4 (some .boolean) ws ({ frames := 0, cells := 0, slots := 0, locals := 0 } : Room) #[(.ref a), (.int p2), (.int p3), (.int p4)] h0 (Q_rmA1 Z a p2 p3 p4 h0 n0) := by
  refine own_body pf_3 ?_
  intro p e s m below meth c s₁ hx hby hml hown hnm hret hlk hZ X0 e0
  have N0 := Fr.nil n0
  refine own_cast (ef_3_rmA1 m a p2 p3 p4 ) ?_
  refine g_iload_n X0 hx 1 rfl (hb hby d3_0) rfl ?_
  refine g_iload_n X0 hx 2 rfl (hb hby d3_1) rfl ?_
  refine g_icmpN X0 hx 5 rfl (hb hby d3_2) (XT.ii_le_f hc) ?_
  refine g_iconst X0 hx 6 rfl (1 : Int32) rfl (hb hby d3_5) ?_
  exact g_retZ X0 hx hret hlk rfl (hb hby d3_6) ⟨rfl, N0, e0⟩ (by decide) (by decide)
theorem ef_3_rmA2 (m : MethodId) (a : Addr) (p2 : Int32) (p3 : Int32) (p4 : Int32) (vs : List Value) (i : Nat)  : entryFrame m #[(.ref a), (.int p2), (.int p3), (.int p4)] 4 = mkF m 0 #[.val (.ref a), .val (.int p2), .val (.int p3), .val (.int p4)] [] := by first | (simp [entryFrame, mkF, argsToLocals, Value.category, maxLocals]; done) | rfl
def Q_rmA2 (Z : State) (a : Addr) (p2 : Int32) (p3 : Int32) (p4 : Int32) (vs : List Value) (i : Nat) (h0 : Heap) (n0 : Nat) (v : Option Value) (h : Heap) (L : List Loc) : Prop := v = some (.int 1) ∧ Fr n0 L ∧ h = h0
set_option maxRecDepth 65536 in
set_option maxHeartbeats 40000000 in
theorem rmA2 (l : Launch) (Z : State) (a0 : Array Value) (hw : ∀ d ∈ tables_1, d.before a0 Z = true) (ws : List Jvm.Cond) (a : Addr) (p2 : Int32) (p3 : Int32) (p4 : Int32) (vs : List Value) (i : Nat) (h0 : Heap) (n0 : Nat) (Z0 : n0 ≤ h0.size) (Aa : Al Z h0 a .byte vs) (hc : p3 < p2) (hc2 : ¬ p2 < p3) (hi : p3.toInt = (i : Int)) (hv : vs[i]? = some (.int p4)) :
    OwnMet l Z (⟨"com/example/rowgraph/rowgraph/graph/RowsEndPinLaw", "at", "([BIIB)Z"⟩ : MethodName) method_3_code 4 (some .boolean) ws ({ frames := 0, cells := 0, slots := 0, locals := 0 } : Room) #[(.ref a), (.int p2), (.int p3), (.int p4)] h0 (Q_rmA2 Z a p2 p3 p4 vs i h0 n0) := by
  refine own_body pf_3 ?_
  intro p e s m below meth c s₁ hx hby hml hown hnm hret hlk hZ X0 e0
  have N0 := Fr.nil n0
  refine own_cast (ef_3_rmA2 m a p2 p3 p4 vs i ) ?_
  refine g_iload_n X0 hx 1 rfl (hb hby d3_0) rfl ?_
  refine g_iload_n X0 hx 2 rfl (hb hby d3_1) rfl ?_
  refine g_icmpY X0 hx 7 (hb hby d3_2) (XT.ii_le_t hc2) (by decide) (by decide) ?_
  refine g_iload_n X0 hx 8 rfl (hb hby d3_7) rfl ?_
  refine g_iload_n X0 hx 9 rfl (hb hby d3_8) rfl ?_
  refine g_icmpN X0 hx 12 rfl (hb hby d3_9) (XT.ii_ge_f hc) ?_
  refine g_aload_n X0 hx 13 rfl (hb hby d3_12) rfl rfl ?_
  refine g_iload_n X0 hx 14 rfl (hb hby d3_13) rfl ?_
  refine g_baload X0 hx hZ 15 rfl (hb hby d3_14) e0 Aa i hi (.int p4) hv ?_
  refine g_iload_n X0 hx 16 rfl (hb hby d3_15) rfl ?_
  refine g_icmpN X0 hx 19 rfl (hb hby d3_16) (XT.ii_ne_f rfl) ?_
  refine g_iconst X0 hx 20 rfl (1 : Int32) rfl (hb hby d3_19) ?_
  refine g_goto X0 hx 24 (hb hby d3_20) (by decide) (by decide) ?_
  exact g_retZ X0 hx hret hlk rfl (hb hby d3_24) ⟨rfl, N0, e0⟩ (by decide) (by decide)
theorem ef_3_rmA3 (m : MethodId) (a : Addr) (p2 : Int32) (p3 : Int32) (p4 : Int32) (vs : List Value) (i : Nat)  : entryFrame m #[(.ref a), (.int p2), (.int p3), (.int p4)] 4 = mkF m 0 #[.val (.ref a), .val (.int p2), .val (.int p3), .val (.int p4)] [] := by first | (simp [entryFrame, mkF, argsToLocals, Value.category, maxLocals]; done) | rfl
def Q_rmA3 (Z : State) (a : Addr) (p2 : Int32) (p3 : Int32) (p4 : Int32) (vs : List Value) (i : Nat) (h0 : Heap) (n0 : Nat) (v : Option Value) (h : Heap) (L : List Loc) : Prop := v = some (.int 1) ∧ Fr n0 L ∧ h = h0
set_option maxRecDepth 65536 in
set_option maxHeartbeats 40000000 in
theorem rmA3 (l : Launch) (Z : State) (a0 : Array Value) (hw : ∀ d ∈ tables_1, d.before a0 Z = true) (ws : List Jvm.Cond) (a : Addr) (p2 : Int32) (p3 : Int32) (p4 : Int32) (vs : List Value) (i : Nat) (h0 : Heap) (n0 : Nat) (Z0 : n0 ≤ h0.size) (Aa : Al Z h0 a .byte vs) (hc : ¬ p3 < p2) (hc2 : ¬ p2 < p3) (hi : p3.toInt = (i : Int)) (hv : vs[i]? = some (.int ((p4 + (1 : Int32)).toInt8.toInt32))) :
    OwnMet l Z (⟨"com/example/rowgraph/rowgraph/graph/RowsEndPinLaw", "at", "([BIIB)Z"⟩ : MethodName) method_3_code 4 (some .boolean) ws ({ frames := 0, cells := 0, slots := 0, locals := 0 } : Room) #[(.ref a), (.int p2), (.int p3), (.int p4)] h0 (Q_rmA3 Z a p2 p3 p4 vs i h0 n0) := by
  refine own_body pf_3 ?_
  intro p e s m below meth c s₁ hx hby hml hown hnm hret hlk hZ X0 e0
  have N0 := Fr.nil n0
  refine own_cast (ef_3_rmA3 m a p2 p3 p4 vs i ) ?_
  refine g_iload_n X0 hx 1 rfl (hb hby d3_0) rfl ?_
  refine g_iload_n X0 hx 2 rfl (hb hby d3_1) rfl ?_
  refine g_icmpY X0 hx 7 (hb hby d3_2) (XT.ii_le_t hc2) (by decide) (by decide) ?_
  refine g_iload_n X0 hx 8 rfl (hb hby d3_7) rfl ?_
  refine g_iload_n X0 hx 9 rfl (hb hby d3_8) rfl ?_
  refine g_icmpY X0 hx 25 (hb hby d3_9) (XT.ii_ge_t hc) (by decide) (by decide) ?_
  refine g_aload_n X0 hx 26 rfl (hb hby d3_25) rfl rfl ?_
  refine g_iload_n X0 hx 27 rfl (hb hby d3_26) rfl ?_
  refine g_baload X0 hx hZ 28 rfl (hb hby d3_27) e0 Aa i hi (.int ((p4 + (1 : Int32)).toInt8.toInt32)) hv ?_
  refine g_iload_n X0 hx 29 rfl (hb hby d3_28) rfl ?_
  refine g_iconst X0 hx 30 rfl (1 : Int32) rfl (hb hby d3_29) ?_
  refine g_iadd X0 hx 31 rfl (hb hby d3_30) ?_
  refine g_i2b X0 hx 32 rfl (hb hby d3_31) ?_
  refine g_icmpN X0 hx 35 rfl (hb hby d3_32) (XT.ii_ne_f rfl) ?_
  refine g_iconst X0 hx 36 rfl (1 : Int32) rfl (hb hby d3_35) ?_
  refine g_goto X0 hx 40 (hb hby d3_36) (by decide) (by decide) ?_
  exact g_retZ X0 hx hret hlk rfl (hb hby d3_40) ⟨rfl, N0, e0⟩ (by decide) (by decide)
theorem d4_0 : decode method_4_code 0 = .ok (.iload_n 1, 1) := by decide +kernel
theorem d4_1 : decode method_4_code 1 = .ok (.aload_n 0, 1) := by decide +kernel
theorem d4_2 : decode method_4_code 2 = .ok (.arraylength, 1) := by decide +kernel
theorem d4_3 : decode method_4_code 3 = .ok (.if_icmp .ge 10, 3) := by decide +kernel
theorem d4_6 : decode method_4_code 6 = .ok (.aload_n 0, 1) := by decide +kernel
theorem d4_7 : decode method_4_code 7 = .ok (.iload_n 1, 1) := by decide +kernel
theorem d4_8 : decode method_4_code 8 = .ok (.baload, 1) := by decide +kernel
theorem d4_9 : decode method_4_code 9 = .ok (.iload_n 2, 1) := by decide +kernel
theorem d4_10 : decode method_4_code 10 = .ok (.if_icmp .ne 7, 3) := by decide +kernel
theorem d4_13 : decode method_4_code 13 = .ok (.iconst 1, 1) := by decide +kernel
theorem d4_14 : decode method_4_code 14 = .ok (.goto 4, 3) := by decide +kernel
theorem d4_17 : decode method_4_code 17 = .ok (.iconst 0, 1) := by decide +kernel
theorem d4_18 : decode method_4_code 18 = .ok (.ireturn, 1) := by decide +kernel
theorem pf_4 : plainFor (⟨"com/example/rowgraph/rowgraph/graph/RowsEndPinLaw", "same", "([BIB)Z"⟩ : MethodName) = true := by first | exact plainFor_of_name (by first | (simp [plainName, overriddenIn]; done) | decide +kernel) | decide +kernel
theorem ef_4_rmS1 (m : MethodId) (a : Addr) (p2 : Int32) (p3 : Int32) (vs : List Value)  : entryFrame m #[(.ref a), (.int p2), (.int p3)] 3 = mkF m 0 #[.val (.ref a), .val (.int p2), .val (.int p3)] [] := by first | (simp [entryFrame, mkF, argsToLocals, Value.category, maxLocals]; done) | rfl
def Q_rmS1 (Z : State) (a : Addr) (p2 : Int32) (p3 : Int32) (vs : List Value) (h0 : Heap) (n0 : Nat) (v : Option Value) (h : Heap) (L : List Loc) : Prop := v = some (.int 1) ∧ Fr n0 L ∧ h = h0
set_option maxRecDepth 65536 in
set_option maxHeartbeats 40000000 in
theorem rmS1 (l : Launch) (Z : State) (a0 : Array Value) (hw : ∀ d ∈ tables_1, d.before a0 Z = true) (ws : List Jvm.Cond) (a : Addr) (p2 : Int32) (p3 : Int32) (vs : List Value) (h0 : Heap) (n0 : Nat) (Z0 : n0 ≤ h0.size) (Aa : Al Z h0 a .byte vs) (hc : ¬ p2 < Int32.ofNat vs.length) :
    OwnMet l Z (⟨"com/example/rowgraph/rowgraph/graph/RowsEndPinLaw", "same", "([BIB)Z"⟩ : MethodName) method_4_code 3 (some .boolean) ws ({ frames := 0, cells := 0, slots := 0, locals := 0 } : Room) #[(.ref a), (.int p2), (.int p3)] h0 (Q_rmS1 Z a p2 p3 vs h0 n0) := by
  refine own_body pf_4 ?_
  intro p e s m below meth c s₁ hx hby hml hown hnm hret hlk hZ X0 e0
  have N0 := Fr.nil n0
  refine own_cast (ef_4_rmS1 m a p2 p3 vs ) ?_
  refine g_iload_n X0 hx 1 rfl (hb hby d4_0) rfl ?_
  refine g_aload_n X0 hx 2 rfl (hb hby d4_1) rfl rfl ?_
  refine g_alen X0 hx hZ 3 rfl (hb hby d4_2) e0 Aa (Int32.ofNat vs.length) rfl ?_
  refine g_icmpY X0 hx 13 (hb hby d4_3) (XT.ii_ge_t hc) (by decide) (by decide) ?_
  refine g_iconst X0 hx 14 rfl (1 : Int32) rfl (hb hby d4_13) ?_
  refine g_goto X0 hx 18 (hb hby d4_14) (by decide) (by decide) ?_
  exact g_retZ X0 hx hret hlk rfl (hb hby d4_18) ⟨rfl, N0, e0⟩ (by decide) (by decide)
theorem ef_4_rmS2 (m : MethodId) (a : Addr) (p2 : Int32) (p3 : Int32) (vs : List Value) (i : Nat)  : entryFrame m #[(.ref a), (.int p2), (.int p3)] 3 = mkF m 0 #[.val (.ref a), .val (.int p2), .val (.int p3)] [] := by first | (simp [entryFrame, mkF, argsToLocals, Value.category, maxLocals]; done) | rfl
def Q_rmS2 (Z : State) (a : Addr) (p2 : Int32) (p3 : Int32) (vs : List Value) (i : Nat) (h0 : Heap) (n0 : Nat) (v : Option Value) (h : Heap) (L : List Loc) : Prop := v = some (.int 1) ∧ Fr n0 L ∧ h = h0
set_option maxRecDepth 65536 in
set_option maxHeartbeats 40000000 in
theorem rmS2 (l : Launch) (Z : State) (a0 : Array Value) (hw : ∀ d ∈ tables_1, d.before a0 Z = true) (ws : List Jvm.Cond) (a : Addr) (p2 : Int32) (p3 : Int32) (vs : List Value) (i : Nat) (h0 : Heap) (n0 : Nat) (Z0 : n0 ≤ h0.size) (Aa : Al Z h0 a .byte vs) (hc : p2 < Int32.ofNat vs.length) (hi : p2.toInt = (i : Int)) (hv : vs[i]? = some (.int p3)) :
    OwnMet l Z (⟨"com/example/rowgraph/rowgraph/graph/RowsEndPinLaw", "same", "([BIB)Z"⟩ : MethodName) method_4_code 3 (some .boolean) ws ({ frames := 0, cells := 0, slots := 0, locals := 0 } : Room) #[(.ref a), (.int p2), (.int p3)] h0 (Q_rmS2 Z a p2 p3 vs i h0 n0) := by
  refine own_body pf_4 ?_
  intro p e s m below meth c s₁ hx hby hml hown hnm hret hlk hZ X0 e0
  have N0 := Fr.nil n0
  refine own_cast (ef_4_rmS2 m a p2 p3 vs i ) ?_
  refine g_iload_n X0 hx 1 rfl (hb hby d4_0) rfl ?_
  refine g_aload_n X0 hx 2 rfl (hb hby d4_1) rfl rfl ?_
  refine g_alen X0 hx hZ 3 rfl (hb hby d4_2) e0 Aa (Int32.ofNat vs.length) rfl ?_
  refine g_icmpN X0 hx 6 rfl (hb hby d4_3) (XT.ii_ge_f hc) ?_
  refine g_aload_n X0 hx 7 rfl (hb hby d4_6) rfl rfl ?_
  refine g_iload_n X0 hx 8 rfl (hb hby d4_7) rfl ?_
  refine g_baload X0 hx hZ 9 rfl (hb hby d4_8) e0 Aa i hi (.int p3) hv ?_
  refine g_iload_n X0 hx 10 rfl (hb hby d4_9) rfl ?_
  refine g_icmpN X0 hx 13 rfl (hb hby d4_10) (XT.ii_ne_f rfl) ?_
  refine g_iconst X0 hx 14 rfl (1 : Int32) rfl (hb hby d4_13) ?_
  refine g_goto X0 hx 18 (hb hby d4_14) (by decide) (by decide) ?_
  exact g_retZ X0 hx hret hlk rfl (hb hby d4_18) ⟨rfl, N0, e0⟩ (by decide) (by decide)
theorem pf_5 : plainFor (⟨"com/example/rowgraph/rowgraph/graph/RowsEndPinLaw", "law", "(IIIII)Z"⟩ : MethodName) = true := by first | exact plainFor_of_name (by first | (simp [plainName, overriddenIn]; done) | decide +kernel) | decide +kernel
theorem pd_4 : parseMethodDescriptor "([B)[B" = some ⟨[.array .byte], some (.array .byte)⟩ := by decide +kernel
theorem pd_5 : parseMethodDescriptor "([BIIB)Z" = some ⟨[.array .byte, .int, .int, .byte], some .boolean⟩ := by decide +kernel
theorem pd_6 : parseMethodDescriptor "([BIB)Z" = some ⟨[.array .byte, .int, .byte], some .boolean⟩ := by decide +kernel
theorem ef_0_rm0 (m : MethodId) (p1 : Int32) (p2 : Int32) (p3 : Int32) (p4 : Int32) (p5 : Int32)  : entryFrame m #[(.int p1), (.int p2), (.int p3), (.int p4), (.int p5)] maxLocals = mkF m 0 #[.val (.int p1), .val (.int p2), .val (.int p3), .val (.int p4), .val (.int p5), .unset, .unset, .unset, .unset, .unset, .unset, .unset, .unset, .unset, .unset, .unset] [] := by first | (simp [entryFrame, mkF, argsToLocals, Value.category, maxLocals]; done) | rfl
def Q_rm0 (Z : State) (p1 : Int32) (p2 : Int32) (p3 : Int32) (p4 : Int32) (p5 : Int32) (h0 : Heap) (n0 : Nat) (v : Option Value) (h : Heap) (L : List Loc) : Prop := v = some (.int 1) ∧ Fr n0 L
set_option maxRecDepth 65536 in
set_option maxHeartbeats 40000000 in
theorem rm0 (l : Launch) (Z : State) (a0 : Array Value) (hw : ∀ d ∈ tables_1, d.before a0 Z = true) (ws : List Jvm.Cond) (p1 : Int32) (p2 : Int32) (p3 : Int32) (p4 : Int32) (p5 : Int32) (h0 : Heap) (n0 : Nat) (Z0 : n0 ≤ h0.size)  :
    OwnMet l Z x code maxLocals ret ws room_1 #[(.int p1), (.int p2), (.int p3), (.int p4), (.int p5)] h0 (Q_rm0 Z p1 p2 p3 p4 p5 h0 n0) := by
  refine own_body pf_5 ?_
  intro p e s m below meth c s₁ hx hby hml hown hnm hret hlk hZ X0 e0
  have N0 := Fr.nil n0
  refine own_cast (ef_0_rm0 m p1 p2 p3 p4 p5 ) ?_
  refine g_iconst X0 hx 1 rfl (1 : Int32) rfl (hb hby at_0) ?_
  refine g_iload_n X0 hx 2 rfl (hb hby at_1) rfl ?_
  refine g_iconst X0 hx 3 rfl (3 : Int32) rfl (hb hby at_2) ?_
  refine g_iand X0 hx 4 rfl (hb hby at_3) ?_
  refine g_iadd X0 hx 5 rfl (hb hby at_4) ?_
  refine g_istore X0 hx 7 rfl (hb hby at_5) #[.val (.int p1), .val (.int p2), .val (.int p3), .val (.int p4), .val (.int p5), .val (.int ((1 : Int32) + (p1 &&& (3 : Int32)))), .unset, .unset, .unset, .unset, .unset, .unset, .unset, .unset, .unset, .unset] rfl ?_
  refine g_iload_n X0 hx 8 rfl (hb hby at_7) rfl ?_
  refine g_i2b X0 hx 9 rfl (hb hby at_8) ?_
  refine g_istore X0 hx 11 rfl (hb hby at_9) #[.val (.int p1), .val (.int p2), .val (.int p3), .val (.int p4), .val (.int p5), .val (.int ((1 : Int32) + (p1 &&& (3 : Int32)))), .val (.int p2.toInt8.toInt32), .unset, .unset, .unset, .unset, .unset, .unset, .unset, .unset, .unset] rfl ?_
  refine g_iload_n X0 hx 12 rfl (hb hby at_11) rfl ?_
  refine g_i2b X0 hx 13 rfl (hb hby at_12) ?_
  refine g_istore X0 hx 15 rfl (hb hby at_13) #[.val (.int p1), .val (.int p2), .val (.int p3), .val (.int p4), .val (.int p5), .val (.int ((1 : Int32) + (p1 &&& (3 : Int32)))), .val (.int p2.toInt8.toInt32), .val (.int p3.toInt8.toInt32), .unset, .unset, .unset, .unset, .unset, .unset, .unset, .unset] rfl ?_
  refine g_iload_n X0 hx 16 rfl (hb hby at_15) rfl ?_
  refine g_i2b X0 hx 17 rfl (hb hby at_16) ?_
  refine g_istore X0 hx 19 rfl (hb hby at_17) #[.val (.int p1), .val (.int p2), .val (.int p3), .val (.int p4), .val (.int p5), .val (.int ((1 : Int32) + (p1 &&& (3 : Int32)))), .val (.int p2.toInt8.toInt32), .val (.int p3.toInt8.toInt32), .val (.int p4.toInt8.toInt32), .unset, .unset, .unset, .unset, .unset, .unset, .unset] rfl ?_
  refine g_iload X0 hx 21 rfl (hb hby at_19) rfl ?_
  refine g_i2b X0 hx 22 rfl (hb hby at_21) ?_
  refine g_istore X0 hx 24 rfl (hb hby at_22) #[.val (.int p1), .val (.int p2), .val (.int p3), .val (.int p4), .val (.int p5), .val (.int ((1 : Int32) + (p1 &&& (3 : Int32)))), .val (.int p2.toInt8.toInt32), .val (.int p3.toInt8.toInt32), .val (.int p4.toInt8.toInt32), .val (.int p5.toInt8.toInt32), .unset, .unset, .unset, .unset, .unset, .unset] rfl ?_
  have hn1 := c_mask p1 3 2 (by decide) (by decide)
  have hn2 : ((1 : Int32) + (p1 &&& (3 : Int32))).toInt = 1 + p1.toInt % 4 := by have h2 := c_iadd 1 (p1 &&& 3); have h3 := rng32 ((1 : Int32) + (p1 &&& 3)); have e1 : (1 : Int32).toInt = 1 := rfl; rw [e1, hn1] at h2; omega
  generalize hnv : (1 : Int32) + (p1 &&& (3 : Int32)) = n at hn2 ⊢
  have nb0 := own_narb p2
  have fb0 := fits_nar_byte p2
  generalize hb0 : p2.toInt8.toInt32 = b0 at nb0 fb0 ⊢
  have nb1 := own_narb p3
  have fb1 := fits_nar_byte p3
  generalize hb1 : p3.toInt8.toInt32 = b1 at nb1 fb1 ⊢
  have nb2 := own_narb p4
  have fb2 := fits_nar_byte p4
  generalize hb2 : p4.toInt8.toInt32 = b2 at nb2 fb2 ⊢
  have nb3 := own_narb p5
  have fb3 := fits_nar_byte p5
  generalize hb3 : p5.toInt8.toInt32 = b3 at nb3 fb3 ⊢
  refine g_iload X0 hx 26 rfl (hb hby at_24) rfl ?_
  refine g_iconst X0 hx 27 rfl (1 : Int32) rfl (hb hby at_26) ?_
  by_cases c1 : n = (1 : Int32)
  · refine g_icmpN X0 hx 30 rfl (hb hby at_27) (XT.ii_ne_f c1) ?_
    have nn : n = (1 : Int32) := c1
    refine g_iconst X0 hx 31 rfl (1 : Int32) rfl (hb hby at_30) ?_
    refine g_newarr X0 hx hZ 33 rfl (hw _ (List.mem_of_getElem? (i := 0) rfl)) e0 (hb hby at_31) 1 rfl 1 (Nat.le_refl _) (by decide) (by decide) (by decide) "[B" (by decide) ?_
    intro T1 h1 o1 g1 X1 e1 E1 A1 Ex1
    have ge_o1 : n0 ≤ o1 := Nat.le_trans Z0 (Nat.le_of_eq g1.symm)
    have Al1 : Al Z h1 o1 .byte [.int (0 : Int32)] := A1
    refine g_dup X1 hx 34 rfl (hb hby at_33) rfl ?_
    refine g_iconst X1 hx 35 rfl (0 : Int32) rfl (hb hby at_34) ?_
    refine g_iload X1 hx 37 rfl (hb hby at_35) rfl ?_
    refine g_bastore X1 hx hZ 38 rfl (hb hby at_37) e1 Al1 0 rfl (show 0 < 1 by decide) ?_
    intro T2 h2 X2 e2 W2 B2
    rw [show nar .byte b0 = b0 from nb0] at B2
    have N2 := Fr.snoc X2 N0 ge_o1
    have Al2 : Al Z h2 o1 .byte [.int b0] := B2
    refine g_astore X2 hx 40 rfl (hb hby at_38) rfl #[.val (.int p1), .val (.int p2), .val (.int p3), .val (.int p4), .val (.int p5), .val (.int n), .val (.int b0), .val (.int b1), .val (.int b2), .val (.int b3), .val (.ref o1), .unset, .unset, .unset, .unset, .unset] rfl ?_
    refine g_goto X2 hx 121 (hb hby at_40) (by decide) (by decide) ?_
    refine g_iconst X2 hx 122 rfl (-1 : Int32) rfl (hb hby at_121) ?_
    refine g_istore X2 hx 124 rfl (hb hby at_122) #[.val (.int p1), .val (.int p2), .val (.int p3), .val (.int p4), .val (.int p5), .val (.int n), .val (.int b0), .val (.int b1), .val (.int b2), .val (.int b3), .val (.ref o1), .val (.int (-1 : Int32)), .unset, .unset, .unset, .unset] rfl ?_
    refine g_iload X2 hx 126 rfl (hb hby at_124) rfl ?_
    refine g_iconst X2 hx 127 rfl (4 : Int32) rfl (hb hby at_126) ?_
    refine g_icmpY X2 hx 143 (hb hby at_127) (XT.ii_lt_t (by rw [nn]; decide)) (by decide) (by decide) ?_
    refine g_iload X2 hx 145 rfl (hb hby at_143) rfl ?_
    refine g_iconst X2 hx 146 rfl (3 : Int32) rfl (hb hby at_145) ?_
    refine g_icmpY X2 hx 162 (hb hby at_146) (XT.ii_lt_t (by rw [nn]; decide)) (by decide) (by decide) ?_
    refine g_iload X2 hx 164 rfl (hb hby at_162) rfl ?_
    refine g_iconst X2 hx 165 rfl (2 : Int32) rfl (hb hby at_164) ?_
    refine g_icmpY X2 hx 181 (hb hby at_165) (XT.ii_lt_t (by rw [nn]; decide)) (by decide) (by decide) ?_
    refine g_iload X2 hx 183 rfl (hb hby at_181) rfl ?_
    refine g_iload X2 hx 185 rfl (hb hby at_183) rfl ?_
    by_cases m0 : b0 = (-1 : Int32)
    · refine g_icmpY X2 hx 194 (hb hby at_185) (XT.ii_eq_t m0) (by decide) (by decide) ?_
      refine g_iconst X2 hx 195 rfl (1 : Int32) rfl (hb hby at_194) ?_
      exact g_retZ X2 hx hret hlk rfl (hb hby at_195) ⟨rfl, N2⟩ (by decide) (by decide)
    · refine g_icmpN X2 hx 188 rfl (hb hby at_185) (XT.ii_eq_f m0) ?_
      refine g_iconst X2 hx 189 rfl (0 : Int32) rfl (hb hby at_188) ?_
      refine g_istore X2 hx 191 rfl (hb hby at_189) #[.val (.int p1), .val (.int p2), .val (.int p3), .val (.int p4), .val (.int p5), .val (.int n), .val (.int b0), .val (.int b1), .val (.int b2), .val (.int b3), .val (.ref o1), .val (.int (-1 : Int32)), .val (.int (0 : Int32)), .unset, .unset, .unset] rfl ?_
      refine g_goto X2 hx 196 (hb hby at_191) (by decide) (by decide) ?_
      refine g_aload X2 hx 198 rfl (hb hby at_196) rfl rfl ?_
      have hall : ∀ i, 0 < i → i < ([.int b0] : List Value).length → ([.int b0] : List Value)[i]? = some (.int (-1 : Int32)) := by
        intro i h1 h2
        simp only [List.length_cons, List.length_nil] at h2
        omega
      have hfit : ∀ v ∈ ([.int b0] : List Value), fits .byte v = true := by
        intro v hv
        simp only [List.mem_cons, List.not_mem_nil, or_false] at hv
        rcases hv with rfl
        · exact fb0
      have Exa3 := (Ex1.wr W2)
      have Zl5 : n0 ≤ h2.size := (Nat.le_trans (Nat.le_trans Z0 E1.1) (Nat.le_of_eq W2.size.symm))
      refine g_callS X2 hx hZ 201 rfl (y := (⟨"com/example/rowgraph/rowgraph/graph/Rows", "end", "([B)[B"⟩ : MethodName)) hown (hw _ (List.mem_of_getElem? (i := 1) rfl)) (hw _ (List.mem_of_getElem? (i := 2) rfl)) (hw _ (List.mem_of_getElem? (i := 3) rfl)) (hw _ (List.mem_of_getElem? (i := 4) rfl)) (by decide) [.ref o1] [] (rmE l Z a0 hw [] o1 [.int b0] 0 b0 h2 n0 Zl5 Al2 Exa3 rfl m0 hall (show 1 ≤ 4 by decide) hfit) e2 (lenOf pd_4 rfl) rfl (by rw [hml]; rfl) (hb hby at_198) (by decide) 0 (Nat.le_of_eq rfl) (by decide) (by decide) (by decide) ?_
      rintro _ T4 L4 X4 ⟨r4, rfl, N4q, K4, Ar4⟩
      have N4 := Fr.app N2 N4q
      show Goes p e below (T4.setTop (mkF m 201 #[.val (.int p1), .val (.int p2), .val (.int p3), .val (.int p4), .val (.int p5), .val (.int n), .val (.int b0), .val (.int b1), .val (.int b2), .val (.int b3), .val (.ref o1), .val (.int (-1 : Int32)), .val (.int (0 : Int32)), .unset, .unset, .unset] [.ref r4])) _
      have Alr4 : Al Z T4.heap r4 .byte [.int ((b0 + (1 : Int32)).toInt8.toInt32)] := Ar4
      refine g_astore X4 hx 203 rfl (hb hby at_201) rfl #[.val (.int p1), .val (.int p2), .val (.int p3), .val (.int p4), .val (.int p5), .val (.int n), .val (.int b0), .val (.int b1), .val (.int b2), .val (.int b3), .val (.ref o1), .val (.int (-1 : Int32)), .val (.int (0 : Int32)), .val (.ref r4), .unset, .unset] rfl ?_
      refine g_aload X4 hx 205 rfl (hb hby at_203) rfl rfl ?_
      refine g_alen X4 hx hZ 206 rfl (hb hby at_205) rfl Alr4 (1 : Int32) rfl ?_
      refine g_iload X4 hx 208 rfl (hb hby at_206) rfl ?_
      refine g_iconst X4 hx 209 rfl (1 : Int32) rfl (hb hby at_208) ?_
      refine g_iadd X4 hx 210 rfl (hb hby at_209) ?_
      show Goes p e below (T4.setTop (mkF m 210 #[.val (.int p1), .val (.int p2), .val (.int p3), .val (.int p4), .val (.int p5), .val (.int n), .val (.int b0), .val (.int b1), .val (.int b2), .val (.int b3), .val (.ref o1), .val (.int (-1 : Int32)), .val (.int (0 : Int32)), .val (.ref r4), .unset, .unset] [.int (1 : Int32), .int (1 : Int32)])) _
      refine g_icmpY X4 hx 215 (hb hby at_210) (XT.ii_eq_t rfl) (by decide) (by decide) ?_
      refine g_aload X4 hx 217 rfl (hb hby at_215) rfl rfl ?_
      refine g_iload X4 hx 219 rfl (hb hby at_217) rfl ?_
      refine g_iconst X4 hx 220 rfl (0 : Int32) rfl (hb hby at_219) ?_
      refine g_iload X4 hx 222 rfl (hb hby at_220) rfl ?_
      have Zl7 : n0 ≤ T4.heap.size := (Nat.le_trans Zl5 K4.1)
      refine g_callS X4 hx hZ 225 rfl (y := (⟨"com/example/rowgraph/rowgraph/graph/RowsEndPinLaw", "at", "([BIIB)Z"⟩ : MethodName)) hown (hw _ (List.mem_of_getElem? (i := 18) rfl)) (hw _ (List.mem_of_getElem? (i := 19) rfl)) (hw _ (List.mem_of_getElem? (i := 20) rfl)) (hw _ (List.mem_of_getElem? (i := 21) rfl)) (by decide) [.ref r4, .int (0 : Int32), .int (0 : Int32), .int b0] [] (rmA3 l Z a0 hw [] r4 (0 : Int32) (0 : Int32) b0 [.int ((b0 + (1 : Int32)).toInt8.toInt32)] 0 T4.heap n0 Zl7 Alr4 (by decide) (by decide) rfl rfl) rfl (lenOf pd_5 rfl) rfl (by rw [hml]; rfl) (hb hby at_222) (by decide) 0 (Nat.le_of_eq rfl) (by decide) (by decide) (by decide) ?_
      rintro _ T6 L6 X6 ⟨rfl, N6q, e6⟩
      have N6 := Fr.app N4 N6q
      show Goes p e below (T6.setTop (mkF m 225 #[.val (.int p1), .val (.int p2), .val (.int p3), .val (.int p4), .val (.int p5), .val (.int n), .val (.int b0), .val (.int b1), .val (.int b2), .val (.int b3), .val (.ref o1), .val (.int (-1 : Int32)), .val (.int (0 : Int32)), .val (.ref r4), .unset, .unset] [.int (1 : Int32)])) _
      refine g_ifN X6 hx 228 rfl (hb hby at_225) (XT.i0_eq_f (by decide)) ?_
      refine g_aload X6 hx 230 rfl (hb hby at_228) rfl rfl ?_
      refine g_iload X6 hx 232 rfl (hb hby at_230) rfl ?_
      refine g_iconst X6 hx 233 rfl (1 : Int32) rfl (hb hby at_232) ?_
      refine g_iload X6 hx 235 rfl (hb hby at_233) rfl ?_
      refine g_callS X6 hx hZ 238 rfl (y := (⟨"com/example/rowgraph/rowgraph/graph/RowsEndPinLaw", "at", "([BIIB)Z"⟩ : MethodName)) hown (hw _ (List.mem_of_getElem? (i := 18) rfl)) (hw _ (List.mem_of_getElem? (i := 19) rfl)) (hw _ (List.mem_of_getElem? (i := 20) rfl)) (hw _ (List.mem_of_getElem? (i := 21) rfl)) (by decide) [.ref r4, .int (0 : Int32), .int (1 : Int32), .int b1] [] (rmA1 l Z a0 hw [] r4 (0 : Int32) (1 : Int32) b1 T4.heap n0 Zl7 (by decide)) e6 (lenOf pd_5 rfl) rfl (by rw [hml]; rfl) (hb hby at_235) (by decide) 0 (Nat.le_of_eq rfl) (by decide) (by decide) (by decide) ?_
      rintro _ T8 L8 X8 ⟨rfl, N8q, e8⟩
      have N8 := Fr.app N6 N8q
      show Goes p e below (T8.setTop (mkF m 238 #[.val (.int p1), .val (.int p2), .val (.int p3), .val (.int p4), .val (.int p5), .val (.int n), .val (.int b0), .val (.int b1), .val (.int b2), .val (.int b3), .val (.ref o1), .val (.int (-1 : Int32)), .val (.int (0 : Int32)), .val (.ref r4), .unset, .unset] [.int (1 : Int32)])) _
      refine g_ifN X8 hx 241 rfl (hb hby at_238) (XT.i0_eq_f (by decide)) ?_
      refine g_aload X8 hx 243 rfl (hb hby at_241) rfl rfl ?_
      refine g_iload X8 hx 245 rfl (hb hby at_243) rfl ?_
      refine g_iconst X8 hx 246 rfl (2 : Int32) rfl (hb hby at_245) ?_
      refine g_iload X8 hx 248 rfl (hb hby at_246) rfl ?_
      refine g_callS X8 hx hZ 251 rfl (y := (⟨"com/example/rowgraph/rowgraph/graph/RowsEndPinLaw", "at", "([BIIB)Z"⟩ : MethodName)) hown (hw _ (List.mem_of_getElem? (i := 18) rfl)) (hw _ (List.mem_of_getElem? (i := 19) rfl)) (hw _ (List.mem_of_getElem? (i := 20) rfl)) (hw _ (List.mem_of_getElem? (i := 21) rfl)) (by decide) [.ref r4, .int (0 : Int32), .int (2 : Int32), .int b2] [] (rmA1 l Z a0 hw [] r4 (0 : Int32) (2 : Int32) b2 T4.heap n0 Zl7 (by decide)) e8 (lenOf pd_5 rfl) rfl (by rw [hml]; rfl) (hb hby at_248) (by decide) 0 (Nat.le_of_eq rfl) (by decide) (by decide) (by decide) ?_
      rintro _ T9 L9 X9 ⟨rfl, N9q, e9⟩
      have N9 := Fr.app N8 N9q
      show Goes p e below (T9.setTop (mkF m 251 #[.val (.int p1), .val (.int p2), .val (.int p3), .val (.int p4), .val (.int p5), .val (.int n), .val (.int b0), .val (.int b1), .val (.int b2), .val (.int b3), .val (.ref o1), .val (.int (-1 : Int32)), .val (.int (0 : Int32)), .val (.ref r4), .unset, .unset] [.int (1 : Int32)])) _
      refine g_ifN X9 hx 254 rfl (hb hby at_251) (XT.i0_eq_f (by decide)) ?_
      refine g_aload X9 hx 256 rfl (hb hby at_254) rfl rfl ?_
      refine g_iload X9 hx 258 rfl (hb hby at_256) rfl ?_
      refine g_iconst X9 hx 259 rfl (3 : Int32) rfl (hb hby at_258) ?_
      refine g_iload X9 hx 261 rfl (hb hby at_259) rfl ?_
      refine g_callS X9 hx hZ 264 rfl (y := (⟨"com/example/rowgraph/rowgraph/graph/RowsEndPinLaw", "at", "([BIIB)Z"⟩ : MethodName)) hown (hw _ (List.mem_of_getElem? (i := 18) rfl)) (hw _ (List.mem_of_getElem? (i := 19) rfl)) (hw _ (List.mem_of_getElem? (i := 20) rfl)) (hw _ (List.mem_of_getElem? (i := 21) rfl)) (by decide) [.ref r4, .int (0 : Int32), .int (3 : Int32), .int b3] [] (rmA1 l Z a0 hw [] r4 (0 : Int32) (3 : Int32) b3 T4.heap n0 Zl7 (by decide)) e9 (lenOf pd_5 rfl) rfl (by rw [hml]; rfl) (hb hby at_261) (by decide) 0 (Nat.le_of_eq rfl) (by decide) (by decide) (by decide) ?_
      rintro _ T10 L10 X10 ⟨rfl, N10q, e10⟩
      have N10 := Fr.app N9 N10q
      show Goes p e below (T10.setTop (mkF m 264 #[.val (.int p1), .val (.int p2), .val (.int p3), .val (.int p4), .val (.int p5), .val (.int n), .val (.int b0), .val (.int b1), .val (.int b2), .val (.int b3), .val (.ref o1), .val (.int (-1 : Int32)), .val (.int (0 : Int32)), .val (.ref r4), .unset, .unset] [.int (1 : Int32)])) _
      refine g_ifN X10 hx 267 rfl (hb hby at_264) (XT.i0_eq_f (by decide)) ?_
      refine g_iconst X10 hx 268 rfl (1 : Int32) rfl (hb hby at_267) ?_
      refine g_goto X10 hx 272 (hb hby at_268) (by decide) (by decide) ?_
      refine g_istore X10 hx 274 rfl (hb hby at_272) #[.val (.int p1), .val (.int p2), .val (.int p3), .val (.int p4), .val (.int p5), .val (.int n), .val (.int b0), .val (.int b1), .val (.int b2), .val (.int b3), .val (.ref o1), .val (.int (-1 : Int32)), .val (.int (0 : Int32)), .val (.ref r4), .val (.int (1 : Int32)), .unset] rfl ?_
      refine g_aload X10 hx 276 rfl (hb hby at_274) rfl rfl ?_
      have Al11 := (Al2.keep K4 nin0)
      refine g_alen X10 hx hZ 277 rfl (hb hby at_276) e10 Al11 (1 : Int32) rfl ?_
      refine g_iload X10 hx 279 rfl (hb hby at_277) rfl ?_
      refine g_icmpN X10 hx 282 rfl (hb hby at_279) (XT.ii_ne_f nn.symm) ?_
      refine g_aload X10 hx 284 rfl (hb hby at_282) rfl rfl ?_
      refine g_iconst X10 hx 285 rfl (0 : Int32) rfl (hb hby at_284) ?_
      refine g_iload X10 hx 287 rfl (hb hby at_285) rfl ?_
      refine g_callS X10 hx hZ 290 rfl (y := (⟨"com/example/rowgraph/rowgraph/graph/RowsEndPinLaw", "same", "([BIB)Z"⟩ : MethodName)) hown (hw _ (List.mem_of_getElem? (i := 22) rfl)) (hw _ (List.mem_of_getElem? (i := 23) rfl)) (hw _ (List.mem_of_getElem? (i := 20) rfl)) (hw _ (List.mem_of_getElem? (i := 24) rfl)) (by decide) [.ref o1, .int (0 : Int32), .int b0] [] (rmS2 l Z a0 hw [] o1 (0 : Int32) b0 [.int b0] 0 T4.heap n0 Zl7 Al11 (show (0 : Int32) < (1 : Int32) by decide) rfl rfl) e10 (lenOf pd_6 rfl) rfl (by rw [hml]; rfl) (hb hby at_287) (by decide) 0 (Nat.le_of_eq rfl) (by decide) (by decide) (by decide) ?_
      rintro _ T12 L12 X12 ⟨rfl, N12q, e12⟩
      have N12 := Fr.app N10 N12q
      show Goes p e below (T12.setTop (mkF m 290 #[.val (.int p1), .val (.int p2), .val (.int p3), .val (.int p4), .val (.int p5), .val (.int n), .val (.int b0), .val (.int b1), .val (.int b2), .val (.int b3), .val (.ref o1), .val (.int (-1 : Int32)), .val (.int (0 : Int32)), .val (.ref r4), .val (.int (1 : Int32)), .unset] [.int (1 : Int32)])) _
      refine g_ifN X12 hx 293 rfl (hb hby at_290) (XT.i0_eq_f (by decide)) ?_
      refine g_aload X12 hx 295 rfl (hb hby at_293) rfl rfl ?_
      refine g_iconst X12 hx 296 rfl (1 : Int32) rfl (hb hby at_295) ?_
      refine g_iload X12 hx 298 rfl (hb hby at_296) rfl ?_
      refine g_callS X12 hx hZ 301 rfl (y := (⟨"com/example/rowgraph/rowgraph/graph/RowsEndPinLaw", "same", "([BIB)Z"⟩ : MethodName)) hown (hw _ (List.mem_of_getElem? (i := 22) rfl)) (hw _ (List.mem_of_getElem? (i := 23) rfl)) (hw _ (List.mem_of_getElem? (i := 20) rfl)) (hw _ (List.mem_of_getElem? (i := 24) rfl)) (by decide) [.ref o1, .int (1 : Int32), .int b1] [] (rmS1 l Z a0 hw [] o1 (1 : Int32) b1 [.int b0] T4.heap n0 Zl7 Al11 (show ¬ ((1 : Int32) < (1 : Int32)) by decide)) e12 (lenOf pd_6 rfl) rfl (by rw [hml]; rfl) (hb hby at_298) (by decide) 0 (Nat.le_of_eq rfl) (by decide) (by decide) (by decide) ?_
      rintro _ T13 L13 X13 ⟨rfl, N13q, e13⟩
      have N13 := Fr.app N12 N13q
      show Goes p e below (T13.setTop (mkF m 301 #[.val (.int p1), .val (.int p2), .val (.int p3), .val (.int p4), .val (.int p5), .val (.int n), .val (.int b0), .val (.int b1), .val (.int b2), .val (.int b3), .val (.ref o1), .val (.int (-1 : Int32)), .val (.int (0 : Int32)), .val (.ref r4), .val (.int (1 : Int32)), .unset] [.int (1 : Int32)])) _
      refine g_ifN X13 hx 304 rfl (hb hby at_301) (XT.i0_eq_f (by decide)) ?_
      refine g_aload X13 hx 306 rfl (hb hby at_304) rfl rfl ?_
      refine g_iconst X13 hx 307 rfl (2 : Int32) rfl (hb hby at_306) ?_
      refine g_iload X13 hx 309 rfl (hb hby at_307) rfl ?_
      refine g_callS X13 hx hZ 312 rfl (y := (⟨"com/example/rowgraph/rowgraph/graph/RowsEndPinLaw", "same", "([BIB)Z"⟩ : MethodName)) hown (hw _ (List.mem_of_getElem? (i := 22) rfl)) (hw _ (List.mem_of_getElem? (i := 23) rfl)) (hw _ (List.mem_of_getElem? (i := 20) rfl)) (hw _ (List.mem_of_getElem? (i := 24) rfl)) (by decide) [.ref o1, .int (2 : Int32), .int b2] [] (rmS1 l Z a0 hw [] o1 (2 : Int32) b2 [.int b0] T4.heap n0 Zl7 Al11 (show ¬ ((2 : Int32) < (1 : Int32)) by decide)) e13 (lenOf pd_6 rfl) rfl (by rw [hml]; rfl) (hb hby at_309) (by decide) 0 (Nat.le_of_eq rfl) (by decide) (by decide) (by decide) ?_
      rintro _ T14 L14 X14 ⟨rfl, N14q, e14⟩
      have N14 := Fr.app N13 N14q
      show Goes p e below (T14.setTop (mkF m 312 #[.val (.int p1), .val (.int p2), .val (.int p3), .val (.int p4), .val (.int p5), .val (.int n), .val (.int b0), .val (.int b1), .val (.int b2), .val (.int b3), .val (.ref o1), .val (.int (-1 : Int32)), .val (.int (0 : Int32)), .val (.ref r4), .val (.int (1 : Int32)), .unset] [.int (1 : Int32)])) _
      refine g_ifN X14 hx 315 rfl (hb hby at_312) (XT.i0_eq_f (by decide)) ?_
      refine g_aload X14 hx 317 rfl (hb hby at_315) rfl rfl ?_
      refine g_iconst X14 hx 318 rfl (3 : Int32) rfl (hb hby at_317) ?_
      refine g_iload X14 hx 320 rfl (hb hby at_318) rfl ?_
      refine g_callS X14 hx hZ 323 rfl (y := (⟨"com/example/rowgraph/rowgraph/graph/RowsEndPinLaw", "same", "([BIB)Z"⟩ : MethodName)) hown (hw _ (List.mem_of_getElem? (i := 22) rfl)) (hw _ (List.mem_of_getElem? (i := 23) rfl)) (hw _ (List.mem_of_getElem? (i := 20) rfl)) (hw _ (List.mem_of_getElem? (i := 24) rfl)) (by decide) [.ref o1, .int (3 : Int32), .int b3] [] (rmS1 l Z a0 hw [] o1 (3 : Int32) b3 [.int b0] T4.heap n0 Zl7 Al11 (show ¬ ((3 : Int32) < (1 : Int32)) by decide)) e14 (lenOf pd_6 rfl) rfl (by rw [hml]; rfl) (hb hby at_320) (by decide) 0 (Nat.le_of_eq rfl) (by decide) (by decide) (by decide) ?_
      rintro _ T15 L15 X15 ⟨rfl, N15q, e15⟩
      have N15 := Fr.app N14 N15q
      show Goes p e below (T15.setTop (mkF m 323 #[.val (.int p1), .val (.int p2), .val (.int p3), .val (.int p4), .val (.int p5), .val (.int n), .val (.int b0), .val (.int b1), .val (.int b2), .val (.int b3), .val (.ref o1), .val (.int (-1 : Int32)), .val (.int (0 : Int32)), .val (.ref r4), .val (.int (1 : Int32)), .unset] [.int (1 : Int32)])) _
      refine g_ifN X15 hx 326 rfl (hb hby at_323) (XT.i0_eq_f (by decide)) ?_
      refine g_iconst X15 hx 327 rfl (1 : Int32) rfl (hb hby at_326) ?_
      refine g_goto X15 hx 331 (hb hby at_327) (by decide) (by decide) ?_
      refine g_istore X15 hx 333 rfl (hb hby at_331) #[.val (.int p1), .val (.int p2), .val (.int p3), .val (.int p4), .val (.int p5), .val (.int n), .val (.int b0), .val (.int b1), .val (.int b2), .val (.int b3), .val (.ref o1), .val (.int (-1 : Int32)), .val (.int (0 : Int32)), .val (.ref r4), .val (.int (1 : Int32)), .val (.int (1 : Int32))] rfl ?_
      refine g_iload X15 hx 335 rfl (hb hby at_333) rfl ?_
      refine g_ifN X15 hx 338 rfl (hb hby at_335) (XT.i0_eq_f (by decide)) ?_
      refine g_iload X15 hx 340 rfl (hb hby at_338) rfl ?_
      refine g_ifN X15 hx 343 rfl (hb hby at_340) (XT.i0_eq_f (by decide)) ?_
      refine g_iconst X15 hx 344 rfl (1 : Int32) rfl (hb hby at_343) ?_
      refine g_goto X15 hx 348 (hb hby at_344) (by decide) (by decide) ?_
      exact g_retZ X15 hx hret hlk rfl (hb hby at_348) ⟨rfl, N15⟩ (by decide) (by decide)
  · refine g_icmpY X0 hx 43 (hb hby at_27) (XT.ii_ne_t c1) (by decide) (by decide) ?_
    refine g_iload X0 hx 45 rfl (hb hby at_43) rfl ?_
    refine g_iconst X0 hx 46 rfl (2 : Int32) rfl (hb hby at_45) ?_
    by_cases c2 : n = (2 : Int32)
    · refine g_icmpN X0 hx 49 rfl (hb hby at_46) (XT.ii_ne_f c2) ?_
      have nn : n = (2 : Int32) := c2
      refine g_iconst X0 hx 50 rfl (2 : Int32) rfl (hb hby at_49) ?_
      refine g_newarr X0 hx hZ 52 rfl (hw _ (List.mem_of_getElem? (i := 0) rfl)) e0 (hb hby at_50) 2 rfl 2 (Nat.le_refl _) (by decide) (by decide) (by decide) "[B" (by decide) ?_
      intro T16 h16 o16 g16 X16 e16 E16 A16 Ex16
      have ge_o16 : n0 ≤ o16 := Nat.le_trans Z0 (Nat.le_of_eq g16.symm)
      have Al16 : Al Z h16 o16 .byte [.int (0 : Int32), .int (0 : Int32)] := A16
      refine g_dup X16 hx 53 rfl (hb hby at_52) rfl ?_
      refine g_iconst X16 hx 54 rfl (0 : Int32) rfl (hb hby at_53) ?_
      refine g_iload X16 hx 56 rfl (hb hby at_54) rfl ?_
      refine g_bastore X16 hx hZ 57 rfl (hb hby at_56) e16 Al16 0 rfl (show 0 < 2 by decide) ?_
      intro T17 h17 X17 e17 W17 B17
      rw [show nar .byte b0 = b0 from nb0] at B17
      have N17 := Fr.snoc X17 N0 ge_o16
      have Al17 : Al Z h17 o16 .byte [.int b0, .int (0 : Int32)] := B17
      refine g_dup X17 hx 58 rfl (hb hby at_57) rfl ?_
      refine g_iconst X17 hx 59 rfl (1 : Int32) rfl (hb hby at_58) ?_
      refine g_iload X17 hx 61 rfl (hb hby at_59) rfl ?_
      refine g_bastore X17 hx hZ 62 rfl (hb hby at_61) e17 Al17 1 rfl (show 1 < 2 by decide) ?_
      intro T18 h18 X18 e18 W18 B18
      rw [show nar .byte b1 = b1 from nb1] at B18
      have N18 := Fr.snoc X18 N17 ge_o16
      have Al18 : Al Z h18 o16 .byte [.int b0, .int b1] := B18
      refine g_astore X18 hx 64 rfl (hb hby at_62) rfl #[.val (.int p1), .val (.int p2), .val (.int p3), .val (.int p4), .val (.int p5), .val (.int n), .val (.int b0), .val (.int b1), .val (.int b2), .val (.int b3), .val (.ref o16), .unset, .unset, .unset, .unset, .unset] rfl ?_
      refine g_goto X18 hx 121 (hb hby at_64) (by decide) (by decide) ?_
      refine g_iconst X18 hx 122 rfl (-1 : Int32) rfl (hb hby at_121) ?_
      refine g_istore X18 hx 124 rfl (hb hby at_122) #[.val (.int p1), .val (.int p2), .val (.int p3), .val (.int p4), .val (.int p5), .val (.int n), .val (.int b0), .val (.int b1), .val (.int b2), .val (.int b3), .val (.ref o16), .val (.int (-1 : Int32)), .unset, .unset, .unset, .unset] rfl ?_
      refine g_iload X18 hx 126 rfl (hb hby at_124) rfl ?_
      refine g_iconst X18 hx 127 rfl (4 : Int32) rfl (hb hby at_126) ?_
      refine g_icmpY X18 hx 143 (hb hby at_127) (XT.ii_lt_t (by rw [nn]; decide)) (by decide) (by decide) ?_
      refine g_iload X18 hx 145 rfl (hb hby at_143) rfl ?_
      refine g_iconst X18 hx 146 rfl (3 : Int32) rfl (hb hby at_145) ?_
      refine g_icmpY X18 hx 162 (hb hby at_146) (XT.ii_lt_t (by rw [nn]; decide)) (by decide) (by decide) ?_
      refine g_iload X18 hx 164 rfl (hb hby at_162) rfl ?_
      refine g_iconst X18 hx 165 rfl (2 : Int32) rfl (hb hby at_164) ?_
      refine g_icmpN X18 hx 168 rfl (hb hby at_165) (XT.ii_lt_f (by rw [nn]; decide)) ?_
      refine g_iload X18 hx 170 rfl (hb hby at_168) rfl ?_
      refine g_iload X18 hx 172 rfl (hb hby at_170) rfl ?_
      by_cases m1 : b1 = (-1 : Int32)
      · refine g_icmpY X18 hx 181 (hb hby at_172) (XT.ii_eq_t m1) (by decide) (by decide) ?_
        refine g_iload X18 hx 183 rfl (hb hby at_181) rfl ?_
        refine g_iload X18 hx 185 rfl (hb hby at_183) rfl ?_
        by_cases m0 : b0 = (-1 : Int32)
        · refine g_icmpY X18 hx 194 (hb hby at_185) (XT.ii_eq_t m0) (by decide) (by decide) ?_
          refine g_iconst X18 hx 195 rfl (1 : Int32) rfl (hb hby at_194) ?_
          exact g_retZ X18 hx hret hlk rfl (hb hby at_195) ⟨rfl, N18⟩ (by decide) (by decide)
        · refine g_icmpN X18 hx 188 rfl (hb hby at_185) (XT.ii_eq_f m0) ?_
          refine g_iconst X18 hx 189 rfl (0 : Int32) rfl (hb hby at_188) ?_
          refine g_istore X18 hx 191 rfl (hb hby at_189) #[.val (.int p1), .val (.int p2), .val (.int p3), .val (.int p4), .val (.int p5), .val (.int n), .val (.int b0), .val (.int b1), .val (.int b2), .val (.int b3), .val (.ref o16), .val (.int (-1 : Int32)), .val (.int (0 : Int32)), .unset, .unset, .unset] rfl ?_
          refine g_goto X18 hx 196 (hb hby at_191) (by decide) (by decide) ?_
          refine g_aload X18 hx 198 rfl (hb hby at_196) rfl rfl ?_
          have hall : ∀ i, 0 < i → i < ([.int b0, .int b1] : List Value).length → ([.int b0, .int b1] : List Value)[i]? = some (.int (-1 : Int32)) := by
            intro i h1 h2
            simp only [List.length_cons, List.length_nil] at h2
            match i, h1, h2 with
            | 1, _, _ => exact congrArg (fun z => some (Value.int z)) m1
          have hfit : ∀ v ∈ ([.int b0, .int b1] : List Value), fits .byte v = true := by
            intro v hv
            simp only [List.mem_cons, List.not_mem_nil, or_false] at hv
            rcases hv with rfl | rfl
            · exact fb0
            · exact fb1
          have Exa19 := ((Ex16.wr W17).wr W18)
          have Zl21 : n0 ≤ h18.size := (Nat.le_trans (Nat.le_trans (Nat.le_trans Z0 E16.1) (Nat.le_of_eq W17.size.symm)) (Nat.le_of_eq W18.size.symm))
          refine g_callS X18 hx hZ 201 rfl (y := (⟨"com/example/rowgraph/rowgraph/graph/Rows", "end", "([B)[B"⟩ : MethodName)) hown (hw _ (List.mem_of_getElem? (i := 1) rfl)) (hw _ (List.mem_of_getElem? (i := 2) rfl)) (hw _ (List.mem_of_getElem? (i := 3) rfl)) (hw _ (List.mem_of_getElem? (i := 4) rfl)) (by decide) [.ref o16] [] (rmE l Z a0 hw [] o16 [.int b0, .int b1] 0 b0 h18 n0 Zl21 Al18 Exa19 rfl m0 hall (show 2 ≤ 4 by decide) hfit) e18 (lenOf pd_4 rfl) rfl (by rw [hml]; rfl) (hb hby at_198) (by decide) 0 (Nat.le_of_eq rfl) (by decide) (by decide) (by decide) ?_
          rintro _ T20 L20 X20 ⟨r20, rfl, N20q, K20, Ar20⟩
          have N20 := Fr.app N18 N20q
          show Goes p e below (T20.setTop (mkF m 201 #[.val (.int p1), .val (.int p2), .val (.int p3), .val (.int p4), .val (.int p5), .val (.int n), .val (.int b0), .val (.int b1), .val (.int b2), .val (.int b3), .val (.ref o16), .val (.int (-1 : Int32)), .val (.int (0 : Int32)), .unset, .unset, .unset] [.ref r20])) _
          have Alr20 : Al Z T20.heap r20 .byte [.int ((b0 + (1 : Int32)).toInt8.toInt32)] := Ar20
          refine g_astore X20 hx 203 rfl (hb hby at_201) rfl #[.val (.int p1), .val (.int p2), .val (.int p3), .val (.int p4), .val (.int p5), .val (.int n), .val (.int b0), .val (.int b1), .val (.int b2), .val (.int b3), .val (.ref o16), .val (.int (-1 : Int32)), .val (.int (0 : Int32)), .val (.ref r20), .unset, .unset] rfl ?_
          refine g_aload X20 hx 205 rfl (hb hby at_203) rfl rfl ?_
          refine g_alen X20 hx hZ 206 rfl (hb hby at_205) rfl Alr20 (1 : Int32) rfl ?_
          refine g_iload X20 hx 208 rfl (hb hby at_206) rfl ?_
          refine g_iconst X20 hx 209 rfl (1 : Int32) rfl (hb hby at_208) ?_
          refine g_iadd X20 hx 210 rfl (hb hby at_209) ?_
          show Goes p e below (T20.setTop (mkF m 210 #[.val (.int p1), .val (.int p2), .val (.int p3), .val (.int p4), .val (.int p5), .val (.int n), .val (.int b0), .val (.int b1), .val (.int b2), .val (.int b3), .val (.ref o16), .val (.int (-1 : Int32)), .val (.int (0 : Int32)), .val (.ref r20), .unset, .unset] [.int (1 : Int32), .int (1 : Int32)])) _
          refine g_icmpY X20 hx 215 (hb hby at_210) (XT.ii_eq_t rfl) (by decide) (by decide) ?_
          refine g_aload X20 hx 217 rfl (hb hby at_215) rfl rfl ?_
          refine g_iload X20 hx 219 rfl (hb hby at_217) rfl ?_
          refine g_iconst X20 hx 220 rfl (0 : Int32) rfl (hb hby at_219) ?_
          refine g_iload X20 hx 222 rfl (hb hby at_220) rfl ?_
          have Zl23 : n0 ≤ T20.heap.size := (Nat.le_trans Zl21 K20.1)
          refine g_callS X20 hx hZ 225 rfl (y := (⟨"com/example/rowgraph/rowgraph/graph/RowsEndPinLaw", "at", "([BIIB)Z"⟩ : MethodName)) hown (hw _ (List.mem_of_getElem? (i := 18) rfl)) (hw _ (List.mem_of_getElem? (i := 19) rfl)) (hw _ (List.mem_of_getElem? (i := 20) rfl)) (hw _ (List.mem_of_getElem? (i := 21) rfl)) (by decide) [.ref r20, .int (0 : Int32), .int (0 : Int32), .int b0] [] (rmA3 l Z a0 hw [] r20 (0 : Int32) (0 : Int32) b0 [.int ((b0 + (1 : Int32)).toInt8.toInt32)] 0 T20.heap n0 Zl23 Alr20 (by decide) (by decide) rfl rfl) rfl (lenOf pd_5 rfl) rfl (by rw [hml]; rfl) (hb hby at_222) (by decide) 0 (Nat.le_of_eq rfl) (by decide) (by decide) (by decide) ?_
          rintro _ T22 L22 X22 ⟨rfl, N22q, e22⟩
          have N22 := Fr.app N20 N22q
          show Goes p e below (T22.setTop (mkF m 225 #[.val (.int p1), .val (.int p2), .val (.int p3), .val (.int p4), .val (.int p5), .val (.int n), .val (.int b0), .val (.int b1), .val (.int b2), .val (.int b3), .val (.ref o16), .val (.int (-1 : Int32)), .val (.int (0 : Int32)), .val (.ref r20), .unset, .unset] [.int (1 : Int32)])) _
          refine g_ifN X22 hx 228 rfl (hb hby at_225) (XT.i0_eq_f (by decide)) ?_
          refine g_aload X22 hx 230 rfl (hb hby at_228) rfl rfl ?_
          refine g_iload X22 hx 232 rfl (hb hby at_230) rfl ?_
          refine g_iconst X22 hx 233 rfl (1 : Int32) rfl (hb hby at_232) ?_
          refine g_iload X22 hx 235 rfl (hb hby at_233) rfl ?_
          refine g_callS X22 hx hZ 238 rfl (y := (⟨"com/example/rowgraph/rowgraph/graph/RowsEndPinLaw", "at", "([BIIB)Z"⟩ : MethodName)) hown (hw _ (List.mem_of_getElem? (i := 18) rfl)) (hw _ (List.mem_of_getElem? (i := 19) rfl)) (hw _ (List.mem_of_getElem? (i := 20) rfl)) (hw _ (List.mem_of_getElem? (i := 21) rfl)) (by decide) [.ref r20, .int (0 : Int32), .int (1 : Int32), .int b1] [] (rmA1 l Z a0 hw [] r20 (0 : Int32) (1 : Int32) b1 T20.heap n0 Zl23 (by decide)) e22 (lenOf pd_5 rfl) rfl (by rw [hml]; rfl) (hb hby at_235) (by decide) 0 (Nat.le_of_eq rfl) (by decide) (by decide) (by decide) ?_
          rintro _ T24 L24 X24 ⟨rfl, N24q, e24⟩
          have N24 := Fr.app N22 N24q
          show Goes p e below (T24.setTop (mkF m 238 #[.val (.int p1), .val (.int p2), .val (.int p3), .val (.int p4), .val (.int p5), .val (.int n), .val (.int b0), .val (.int b1), .val (.int b2), .val (.int b3), .val (.ref o16), .val (.int (-1 : Int32)), .val (.int (0 : Int32)), .val (.ref r20), .unset, .unset] [.int (1 : Int32)])) _
          refine g_ifN X24 hx 241 rfl (hb hby at_238) (XT.i0_eq_f (by decide)) ?_
          refine g_aload X24 hx 243 rfl (hb hby at_241) rfl rfl ?_
          refine g_iload X24 hx 245 rfl (hb hby at_243) rfl ?_
          refine g_iconst X24 hx 246 rfl (2 : Int32) rfl (hb hby at_245) ?_
          refine g_iload X24 hx 248 rfl (hb hby at_246) rfl ?_
          refine g_callS X24 hx hZ 251 rfl (y := (⟨"com/example/rowgraph/rowgraph/graph/RowsEndPinLaw", "at", "([BIIB)Z"⟩ : MethodName)) hown (hw _ (List.mem_of_getElem? (i := 18) rfl)) (hw _ (List.mem_of_getElem? (i := 19) rfl)) (hw _ (List.mem_of_getElem? (i := 20) rfl)) (hw _ (List.mem_of_getElem? (i := 21) rfl)) (by decide) [.ref r20, .int (0 : Int32), .int (2 : Int32), .int b2] [] (rmA1 l Z a0 hw [] r20 (0 : Int32) (2 : Int32) b2 T20.heap n0 Zl23 (by decide)) e24 (lenOf pd_5 rfl) rfl (by rw [hml]; rfl) (hb hby at_248) (by decide) 0 (Nat.le_of_eq rfl) (by decide) (by decide) (by decide) ?_
          rintro _ T25 L25 X25 ⟨rfl, N25q, e25⟩
          have N25 := Fr.app N24 N25q
          show Goes p e below (T25.setTop (mkF m 251 #[.val (.int p1), .val (.int p2), .val (.int p3), .val (.int p4), .val (.int p5), .val (.int n), .val (.int b0), .val (.int b1), .val (.int b2), .val (.int b3), .val (.ref o16), .val (.int (-1 : Int32)), .val (.int (0 : Int32)), .val (.ref r20), .unset, .unset] [.int (1 : Int32)])) _
          refine g_ifN X25 hx 254 rfl (hb hby at_251) (XT.i0_eq_f (by decide)) ?_
          refine g_aload X25 hx 256 rfl (hb hby at_254) rfl rfl ?_
          refine g_iload X25 hx 258 rfl (hb hby at_256) rfl ?_
          refine g_iconst X25 hx 259 rfl (3 : Int32) rfl (hb hby at_258) ?_
          refine g_iload X25 hx 261 rfl (hb hby at_259) rfl ?_
          refine g_callS X25 hx hZ 264 rfl (y := (⟨"com/example/rowgraph/rowgraph/graph/RowsEndPinLaw", "at", "([BIIB)Z"⟩ : MethodName)) hown (hw _ (List.mem_of_getElem? (i := 18) rfl)) (hw _ (List.mem_of_getElem? (i := 19) rfl)) (hw _ (List.mem_of_getElem? (i := 20) rfl)) (hw _ (List.mem_of_getElem? (i := 21) rfl)) (by decide) [.ref r20, .int (0 : Int32), .int (3 : Int32), .int b3] [] (rmA1 l Z a0 hw [] r20 (0 : Int32) (3 : Int32) b3 T20.heap n0 Zl23 (by decide)) e25 (lenOf pd_5 rfl) rfl (by rw [hml]; rfl) (hb hby at_261) (by decide) 0 (Nat.le_of_eq rfl) (by decide) (by decide) (by decide) ?_
          rintro _ T26 L26 X26 ⟨rfl, N26q, e26⟩
          have N26 := Fr.app N25 N26q
          show Goes p e below (T26.setTop (mkF m 264 #[.val (.int p1), .val (.int p2), .val (.int p3), .val (.int p4), .val (.int p5), .val (.int n), .val (.int b0), .val (.int b1), .val (.int b2), .val (.int b3), .val (.ref o16), .val (.int (-1 : Int32)), .val (.int (0 : Int32)), .val (.ref r20), .unset, .unset] [.int (1 : Int32)])) _
          refine g_ifN X26 hx 267 rfl (hb hby at_264) (XT.i0_eq_f (by decide)) ?_
          refine g_iconst X26 hx 268 rfl (1 : Int32) rfl (hb hby at_267) ?_
          refine g_goto X26 hx 272 (hb hby at_268) (by decide) (by decide) ?_
          refine g_istore X26 hx 274 rfl (hb hby at_272) #[.val (.int p1), .val (.int p2), .val (.int p3), .val (.int p4), .val (.int p5), .val (.int n), .val (.int b0), .val (.int b1), .val (.int b2), .val (.int b3), .val (.ref o16), .val (.int (-1 : Int32)), .val (.int (0 : Int32)), .val (.ref r20), .val (.int (1 : Int32)), .unset] rfl ?_
          refine g_aload X26 hx 276 rfl (hb hby at_274) rfl rfl ?_
          have Al27 := (Al18.keep K20 nin0)
          refine g_alen X26 hx hZ 277 rfl (hb hby at_276) e26 Al27 (2 : Int32) rfl ?_
          refine g_iload X26 hx 279 rfl (hb hby at_277) rfl ?_
          refine g_icmpN X26 hx 282 rfl (hb hby at_279) (XT.ii_ne_f nn.symm) ?_
          refine g_aload X26 hx 284 rfl (hb hby at_282) rfl rfl ?_
          refine g_iconst X26 hx 285 rfl (0 : Int32) rfl (hb hby at_284) ?_
          refine g_iload X26 hx 287 rfl (hb hby at_285) rfl ?_
          refine g_callS X26 hx hZ 290 rfl (y := (⟨"com/example/rowgraph/rowgraph/graph/RowsEndPinLaw", "same", "([BIB)Z"⟩ : MethodName)) hown (hw _ (List.mem_of_getElem? (i := 22) rfl)) (hw _ (List.mem_of_getElem? (i := 23) rfl)) (hw _ (List.mem_of_getElem? (i := 20) rfl)) (hw _ (List.mem_of_getElem? (i := 24) rfl)) (by decide) [.ref o16, .int (0 : Int32), .int b0] [] (rmS2 l Z a0 hw [] o16 (0 : Int32) b0 [.int b0, .int b1] 0 T20.heap n0 Zl23 Al27 (show (0 : Int32) < (2 : Int32) by decide) rfl rfl) e26 (lenOf pd_6 rfl) rfl (by rw [hml]; rfl) (hb hby at_287) (by decide) 0 (Nat.le_of_eq rfl) (by decide) (by decide) (by decide) ?_
          rintro _ T28 L28 X28 ⟨rfl, N28q, e28⟩
          have N28 := Fr.app N26 N28q
          show Goes p e below (T28.setTop (mkF m 290 #[.val (.int p1), .val (.int p2), .val (.int p3), .val (.int p4), .val (.int p5), .val (.int n), .val (.int b0), .val (.int b1), .val (.int b2), .val (.int b3), .val (.ref o16), .val (.int (-1 : Int32)), .val (.int (0 : Int32)), .val (.ref r20), .val (.int (1 : Int32)), .unset] [.int (1 : Int32)])) _
          refine g_ifN X28 hx 293 rfl (hb hby at_290) (XT.i0_eq_f (by decide)) ?_
          refine g_aload X28 hx 295 rfl (hb hby at_293) rfl rfl ?_
          refine g_iconst X28 hx 296 rfl (1 : Int32) rfl (hb hby at_295) ?_
          refine g_iload X28 hx 298 rfl (hb hby at_296) rfl ?_
          refine g_callS X28 hx hZ 301 rfl (y := (⟨"com/example/rowgraph/rowgraph/graph/RowsEndPinLaw", "same", "([BIB)Z"⟩ : MethodName)) hown (hw _ (List.mem_of_getElem? (i := 22) rfl)) (hw _ (List.mem_of_getElem? (i := 23) rfl)) (hw _ (List.mem_of_getElem? (i := 20) rfl)) (hw _ (List.mem_of_getElem? (i := 24) rfl)) (by decide) [.ref o16, .int (1 : Int32), .int b1] [] (rmS2 l Z a0 hw [] o16 (1 : Int32) b1 [.int b0, .int b1] 1 T20.heap n0 Zl23 Al27 (show (1 : Int32) < (2 : Int32) by decide) rfl rfl) e28 (lenOf pd_6 rfl) rfl (by rw [hml]; rfl) (hb hby at_298) (by decide) 0 (Nat.le_of_eq rfl) (by decide) (by decide) (by decide) ?_
          rintro _ T29 L29 X29 ⟨rfl, N29q, e29⟩
          have N29 := Fr.app N28 N29q
          show Goes p e below (T29.setTop (mkF m 301 #[.val (.int p1), .val (.int p2), .val (.int p3), .val (.int p4), .val (.int p5), .val (.int n), .val (.int b0), .val (.int b1), .val (.int b2), .val (.int b3), .val (.ref o16), .val (.int (-1 : Int32)), .val (.int (0 : Int32)), .val (.ref r20), .val (.int (1 : Int32)), .unset] [.int (1 : Int32)])) _
          refine g_ifN X29 hx 304 rfl (hb hby at_301) (XT.i0_eq_f (by decide)) ?_
          refine g_aload X29 hx 306 rfl (hb hby at_304) rfl rfl ?_
          refine g_iconst X29 hx 307 rfl (2 : Int32) rfl (hb hby at_306) ?_
          refine g_iload X29 hx 309 rfl (hb hby at_307) rfl ?_
          refine g_callS X29 hx hZ 312 rfl (y := (⟨"com/example/rowgraph/rowgraph/graph/RowsEndPinLaw", "same", "([BIB)Z"⟩ : MethodName)) hown (hw _ (List.mem_of_getElem? (i := 22) rfl)) (hw _ (List.mem_of_getElem? (i := 23) rfl)) (hw _ (List.mem_of_getElem? (i := 20) rfl)) (hw _ (List.mem_of_getElem? (i := 24) rfl)) (by decide) [.ref o16, .int (2 : Int32), .int b2] [] (rmS1 l Z a0 hw [] o16 (2 : Int32) b2 [.int b0, .int b1] T20.heap n0 Zl23 Al27 (show ¬ ((2 : Int32) < (2 : Int32)) by decide)) e29 (lenOf pd_6 rfl) rfl (by rw [hml]; rfl) (hb hby at_309) (by decide) 0 (Nat.le_of_eq rfl) (by decide) (by decide) (by decide) ?_
          rintro _ T30 L30 X30 ⟨rfl, N30q, e30⟩
          have N30 := Fr.app N29 N30q
          show Goes p e below (T30.setTop (mkF m 312 #[.val (.int p1), .val (.int p2), .val (.int p3), .val (.int p4), .val (.int p5), .val (.int n), .val (.int b0), .val (.int b1), .val (.int b2), .val (.int b3), .val (.ref o16), .val (.int (-1 : Int32)), .val (.int (0 : Int32)), .val (.ref r20), .val (.int (1 : Int32)), .unset] [.int (1 : Int32)])) _
          refine g_ifN X30 hx 315 rfl (hb hby at_312) (XT.i0_eq_f (by decide)) ?_
          refine g_aload X30 hx 317 rfl (hb hby at_315) rfl rfl ?_
          refine g_iconst X30 hx 318 rfl (3 : Int32) rfl (hb hby at_317) ?_
          refine g_iload X30 hx 320 rfl (hb hby at_318) rfl ?_
          refine g_callS X30 hx hZ 323 rfl (y := (⟨"com/example/rowgraph/rowgraph/graph/RowsEndPinLaw", "same", "([BIB)Z"⟩ : MethodName)) hown (hw _ (List.mem_of_getElem? (i := 22) rfl)) (hw _ (List.mem_of_getElem? (i := 23) rfl)) (hw _ (List.mem_of_getElem? (i := 20) rfl)) (hw _ (List.mem_of_getElem? (i := 24) rfl)) (by decide) [.ref o16, .int (3 : Int32), .int b3] [] (rmS1 l Z a0 hw [] o16 (3 : Int32) b3 [.int b0, .int b1] T20.heap n0 Zl23 Al27 (show ¬ ((3 : Int32) < (2 : Int32)) by decide)) e30 (lenOf pd_6 rfl) rfl (by rw [hml]; rfl) (hb hby at_320) (by decide) 0 (Nat.le_of_eq rfl) (by decide) (by decide) (by decide) ?_
          rintro _ T31 L31 X31 ⟨rfl, N31q, e31⟩
          have N31 := Fr.app N30 N31q
          show Goes p e below (T31.setTop (mkF m 323 #[.val (.int p1), .val (.int p2), .val (.int p3), .val (.int p4), .val (.int p5), .val (.int n), .val (.int b0), .val (.int b1), .val (.int b2), .val (.int b3), .val (.ref o16), .val (.int (-1 : Int32)), .val (.int (0 : Int32)), .val (.ref r20), .val (.int (1 : Int32)), .unset] [.int (1 : Int32)])) _
          refine g_ifN X31 hx 326 rfl (hb hby at_323) (XT.i0_eq_f (by decide)) ?_
          refine g_iconst X31 hx 327 rfl (1 : Int32) rfl (hb hby at_326) ?_
          refine g_goto X31 hx 331 (hb hby at_327) (by decide) (by decide) ?_
          refine g_istore X31 hx 333 rfl (hb hby at_331) #[.val (.int p1), .val (.int p2), .val (.int p3), .val (.int p4), .val (.int p5), .val (.int n), .val (.int b0), .val (.int b1), .val (.int b2), .val (.int b3), .val (.ref o16), .val (.int (-1 : Int32)), .val (.int (0 : Int32)), .val (.ref r20), .val (.int (1 : Int32)), .val (.int (1 : Int32))] rfl ?_
          refine g_iload X31 hx 335 rfl (hb hby at_333) rfl ?_
          refine g_ifN X31 hx 338 rfl (hb hby at_335) (XT.i0_eq_f (by decide)) ?_
          refine g_iload X31 hx 340 rfl (hb hby at_338) rfl ?_
          refine g_ifN X31 hx 343 rfl (hb hby at_340) (XT.i0_eq_f (by decide)) ?_
          refine g_iconst X31 hx 344 rfl (1 : Int32) rfl (hb hby at_343) ?_
          refine g_goto X31 hx 348 (hb hby at_344) (by decide) (by decide) ?_
          exact g_retZ X31 hx hret hlk rfl (hb hby at_348) ⟨rfl, N31⟩ (by decide) (by decide)
      · refine g_icmpN X18 hx 175 rfl (hb hby at_172) (XT.ii_eq_f m1) ?_
        refine g_iconst X18 hx 176 rfl (1 : Int32) rfl (hb hby at_175) ?_
        refine g_istore X18 hx 178 rfl (hb hby at_176) #[.val (.int p1), .val (.int p2), .val (.int p3), .val (.int p4), .val (.int p5), .val (.int n), .val (.int b0), .val (.int b1), .val (.int b2), .val (.int b3), .val (.ref o16), .val (.int (-1 : Int32)), .val (.int (1 : Int32)), .unset, .unset, .unset] rfl ?_
        refine g_goto X18 hx 196 (hb hby at_178) (by decide) (by decide) ?_
        refine g_aload X18 hx 198 rfl (hb hby at_196) rfl rfl ?_
        have hall : ∀ i, 1 < i → i < ([.int b0, .int b1] : List Value).length → ([.int b0, .int b1] : List Value)[i]? = some (.int (-1 : Int32)) := by
          intro i h1 h2
          simp only [List.length_cons, List.length_nil] at h2
          omega
        have hfit : ∀ v ∈ ([.int b0, .int b1] : List Value), fits .byte v = true := by
          intro v hv
          simp only [List.mem_cons, List.not_mem_nil, or_false] at hv
          rcases hv with rfl | rfl
          · exact fb0
          · exact fb1
        have Exa32 := ((Ex16.wr W17).wr W18)
        have Zl34 : n0 ≤ h18.size := (Nat.le_trans (Nat.le_trans (Nat.le_trans Z0 E16.1) (Nat.le_of_eq W17.size.symm)) (Nat.le_of_eq W18.size.symm))
        refine g_callS X18 hx hZ 201 rfl (y := (⟨"com/example/rowgraph/rowgraph/graph/Rows", "end", "([B)[B"⟩ : MethodName)) hown (hw _ (List.mem_of_getElem? (i := 1) rfl)) (hw _ (List.mem_of_getElem? (i := 2) rfl)) (hw _ (List.mem_of_getElem? (i := 3) rfl)) (hw _ (List.mem_of_getElem? (i := 4) rfl)) (by decide) [.ref o16] [] (rmE l Z a0 hw [] o16 [.int b0, .int b1] 1 b1 h18 n0 Zl34 Al18 Exa32 rfl m1 hall (show 2 ≤ 4 by decide) hfit) e18 (lenOf pd_4 rfl) rfl (by rw [hml]; rfl) (hb hby at_198) (by decide) 0 (Nat.le_of_eq rfl) (by decide) (by decide) (by decide) ?_
        rintro _ T33 L33 X33 ⟨r33, rfl, N33q, K33, Ar33⟩
        have N33 := Fr.app N18 N33q
        show Goes p e below (T33.setTop (mkF m 201 #[.val (.int p1), .val (.int p2), .val (.int p3), .val (.int p4), .val (.int p5), .val (.int n), .val (.int b0), .val (.int b1), .val (.int b2), .val (.int b3), .val (.ref o16), .val (.int (-1 : Int32)), .val (.int (1 : Int32)), .unset, .unset, .unset] [.ref r33])) _
        have Alr33 : Al Z T33.heap r33 .byte [.int b0, .int ((b1 + (1 : Int32)).toInt8.toInt32)] := Ar33
        refine g_astore X33 hx 203 rfl (hb hby at_201) rfl #[.val (.int p1), .val (.int p2), .val (.int p3), .val (.int p4), .val (.int p5), .val (.int n), .val (.int b0), .val (.int b1), .val (.int b2), .val (.int b3), .val (.ref o16), .val (.int (-1 : Int32)), .val (.int (1 : Int32)), .val (.ref r33), .unset, .unset] rfl ?_
        refine g_aload X33 hx 205 rfl (hb hby at_203) rfl rfl ?_
        refine g_alen X33 hx hZ 206 rfl (hb hby at_205) rfl Alr33 (2 : Int32) rfl ?_
        refine g_iload X33 hx 208 rfl (hb hby at_206) rfl ?_
        refine g_iconst X33 hx 209 rfl (1 : Int32) rfl (hb hby at_208) ?_
        refine g_iadd X33 hx 210 rfl (hb hby at_209) ?_
        show Goes p e below (T33.setTop (mkF m 210 #[.val (.int p1), .val (.int p2), .val (.int p3), .val (.int p4), .val (.int p5), .val (.int n), .val (.int b0), .val (.int b1), .val (.int b2), .val (.int b3), .val (.ref o16), .val (.int (-1 : Int32)), .val (.int (1 : Int32)), .val (.ref r33), .unset, .unset] [.int (2 : Int32), .int (2 : Int32)])) _
        refine g_icmpY X33 hx 215 (hb hby at_210) (XT.ii_eq_t rfl) (by decide) (by decide) ?_
        refine g_aload X33 hx 217 rfl (hb hby at_215) rfl rfl ?_
        refine g_iload X33 hx 219 rfl (hb hby at_217) rfl ?_
        refine g_iconst X33 hx 220 rfl (0 : Int32) rfl (hb hby at_219) ?_
        refine g_iload X33 hx 222 rfl (hb hby at_220) rfl ?_
        have Zl36 : n0 ≤ T33.heap.size := (Nat.le_trans Zl34 K33.1)
        refine g_callS X33 hx hZ 225 rfl (y := (⟨"com/example/rowgraph/rowgraph/graph/RowsEndPinLaw", "at", "([BIIB)Z"⟩ : MethodName)) hown (hw _ (List.mem_of_getElem? (i := 18) rfl)) (hw _ (List.mem_of_getElem? (i := 19) rfl)) (hw _ (List.mem_of_getElem? (i := 20) rfl)) (hw _ (List.mem_of_getElem? (i := 21) rfl)) (by decide) [.ref r33, .int (1 : Int32), .int (0 : Int32), .int b0] [] (rmA2 l Z a0 hw [] r33 (1 : Int32) (0 : Int32) b0 [.int b0, .int ((b1 + (1 : Int32)).toInt8.toInt32)] 0 T33.heap n0 Zl36 Alr33 (by decide) (by decide) rfl rfl) rfl (lenOf pd_5 rfl) rfl (by rw [hml]; rfl) (hb hby at_222) (by decide) 0 (Nat.le_of_eq rfl) (by decide) (by decide) (by decide) ?_
        rintro _ T35 L35 X35 ⟨rfl, N35q, e35⟩
        have N35 := Fr.app N33 N35q
        show Goes p e below (T35.setTop (mkF m 225 #[.val (.int p1), .val (.int p2), .val (.int p3), .val (.int p4), .val (.int p5), .val (.int n), .val (.int b0), .val (.int b1), .val (.int b2), .val (.int b3), .val (.ref o16), .val (.int (-1 : Int32)), .val (.int (1 : Int32)), .val (.ref r33), .unset, .unset] [.int (1 : Int32)])) _
        refine g_ifN X35 hx 228 rfl (hb hby at_225) (XT.i0_eq_f (by decide)) ?_
        refine g_aload X35 hx 230 rfl (hb hby at_228) rfl rfl ?_
        refine g_iload X35 hx 232 rfl (hb hby at_230) rfl ?_
        refine g_iconst X35 hx 233 rfl (1 : Int32) rfl (hb hby at_232) ?_
        refine g_iload X35 hx 235 rfl (hb hby at_233) rfl ?_
        refine g_callS X35 hx hZ 238 rfl (y := (⟨"com/example/rowgraph/rowgraph/graph/RowsEndPinLaw", "at", "([BIIB)Z"⟩ : MethodName)) hown (hw _ (List.mem_of_getElem? (i := 18) rfl)) (hw _ (List.mem_of_getElem? (i := 19) rfl)) (hw _ (List.mem_of_getElem? (i := 20) rfl)) (hw _ (List.mem_of_getElem? (i := 21) rfl)) (by decide) [.ref r33, .int (1 : Int32), .int (1 : Int32), .int b1] [] (rmA3 l Z a0 hw [] r33 (1 : Int32) (1 : Int32) b1 [.int b0, .int ((b1 + (1 : Int32)).toInt8.toInt32)] 1 T33.heap n0 Zl36 Alr33 (by decide) (by decide) rfl rfl) e35 (lenOf pd_5 rfl) rfl (by rw [hml]; rfl) (hb hby at_235) (by decide) 0 (Nat.le_of_eq rfl) (by decide) (by decide) (by decide) ?_
        rintro _ T37 L37 X37 ⟨rfl, N37q, e37⟩
        have N37 := Fr.app N35 N37q
        show Goes p e below (T37.setTop (mkF m 238 #[.val (.int p1), .val (.int p2), .val (.int p3), .val (.int p4), .val (.int p5), .val (.int n), .val (.int b0), .val (.int b1), .val (.int b2), .val (.int b3), .val (.ref o16), .val (.int (-1 : Int32)), .val (.int (1 : Int32)), .val (.ref r33), .unset, .unset] [.int (1 : Int32)])) _
        refine g_ifN X37 hx 241 rfl (hb hby at_238) (XT.i0_eq_f (by decide)) ?_
        refine g_aload X37 hx 243 rfl (hb hby at_241) rfl rfl ?_
        refine g_iload X37 hx 245 rfl (hb hby at_243) rfl ?_
        refine g_iconst X37 hx 246 rfl (2 : Int32) rfl (hb hby at_245) ?_
        refine g_iload X37 hx 248 rfl (hb hby at_246) rfl ?_
        refine g_callS X37 hx hZ 251 rfl (y := (⟨"com/example/rowgraph/rowgraph/graph/RowsEndPinLaw", "at", "([BIIB)Z"⟩ : MethodName)) hown (hw _ (List.mem_of_getElem? (i := 18) rfl)) (hw _ (List.mem_of_getElem? (i := 19) rfl)) (hw _ (List.mem_of_getElem? (i := 20) rfl)) (hw _ (List.mem_of_getElem? (i := 21) rfl)) (by decide) [.ref r33, .int (1 : Int32), .int (2 : Int32), .int b2] [] (rmA1 l Z a0 hw [] r33 (1 : Int32) (2 : Int32) b2 T33.heap n0 Zl36 (by decide)) e37 (lenOf pd_5 rfl) rfl (by rw [hml]; rfl) (hb hby at_248) (by decide) 0 (Nat.le_of_eq rfl) (by decide) (by decide) (by decide) ?_
        rintro _ T38 L38 X38 ⟨rfl, N38q, e38⟩
        have N38 := Fr.app N37 N38q
        show Goes p e below (T38.setTop (mkF m 251 #[.val (.int p1), .val (.int p2), .val (.int p3), .val (.int p4), .val (.int p5), .val (.int n), .val (.int b0), .val (.int b1), .val (.int b2), .val (.int b3), .val (.ref o16), .val (.int (-1 : Int32)), .val (.int (1 : Int32)), .val (.ref r33), .unset, .unset] [.int (1 : Int32)])) _
        refine g_ifN X38 hx 254 rfl (hb hby at_251) (XT.i0_eq_f (by decide)) ?_
        refine g_aload X38 hx 256 rfl (hb hby at_254) rfl rfl ?_
        refine g_iload X38 hx 258 rfl (hb hby at_256) rfl ?_
        refine g_iconst X38 hx 259 rfl (3 : Int32) rfl (hb hby at_258) ?_
        refine g_iload X38 hx 261 rfl (hb hby at_259) rfl ?_
        refine g_callS X38 hx hZ 264 rfl (y := (⟨"com/example/rowgraph/rowgraph/graph/RowsEndPinLaw", "at", "([BIIB)Z"⟩ : MethodName)) hown (hw _ (List.mem_of_getElem? (i := 18) rfl)) (hw _ (List.mem_of_getElem? (i := 19) rfl)) (hw _ (List.mem_of_getElem? (i := 20) rfl)) (hw _ (List.mem_of_getElem? (i := 21) rfl)) (by decide) [.ref r33, .int (1 : Int32), .int (3 : Int32), .int b3] [] (rmA1 l Z a0 hw [] r33 (1 : Int32) (3 : Int32) b3 T33.heap n0 Zl36 (by decide)) e38 (lenOf pd_5 rfl) rfl (by rw [hml]; rfl) (hb hby at_261) (by decide) 0 (Nat.le_of_eq rfl) (by decide) (by decide) (by decide) ?_
        rintro _ T39 L39 X39 ⟨rfl, N39q, e39⟩
        have N39 := Fr.app N38 N39q
        show Goes p e below (T39.setTop (mkF m 264 #[.val (.int p1), .val (.int p2), .val (.int p3), .val (.int p4), .val (.int p5), .val (.int n), .val (.int b0), .val (.int b1), .val (.int b2), .val (.int b3), .val (.ref o16), .val (.int (-1 : Int32)), .val (.int (1 : Int32)), .val (.ref r33), .unset, .unset] [.int (1 : Int32)])) _
        refine g_ifN X39 hx 267 rfl (hb hby at_264) (XT.i0_eq_f (by decide)) ?_
        refine g_iconst X39 hx 268 rfl (1 : Int32) rfl (hb hby at_267) ?_
        refine g_goto X39 hx 272 (hb hby at_268) (by decide) (by decide) ?_
        refine g_istore X39 hx 274 rfl (hb hby at_272) #[.val (.int p1), .val (.int p2), .val (.int p3), .val (.int p4), .val (.int p5), .val (.int n), .val (.int b0), .val (.int b1), .val (.int b2), .val (.int b3), .val (.ref o16), .val (.int (-1 : Int32)), .val (.int (1 : Int32)), .val (.ref r33), .val (.int (1 : Int32)), .unset] rfl ?_
        refine g_aload X39 hx 276 rfl (hb hby at_274) rfl rfl ?_
        have Al40 := (Al18.keep K33 nin0)
        refine g_alen X39 hx hZ 277 rfl (hb hby at_276) e39 Al40 (2 : Int32) rfl ?_
        refine g_iload X39 hx 279 rfl (hb hby at_277) rfl ?_
        refine g_icmpN X39 hx 282 rfl (hb hby at_279) (XT.ii_ne_f nn.symm) ?_
        refine g_aload X39 hx 284 rfl (hb hby at_282) rfl rfl ?_
        refine g_iconst X39 hx 285 rfl (0 : Int32) rfl (hb hby at_284) ?_
        refine g_iload X39 hx 287 rfl (hb hby at_285) rfl ?_
        refine g_callS X39 hx hZ 290 rfl (y := (⟨"com/example/rowgraph/rowgraph/graph/RowsEndPinLaw", "same", "([BIB)Z"⟩ : MethodName)) hown (hw _ (List.mem_of_getElem? (i := 22) rfl)) (hw _ (List.mem_of_getElem? (i := 23) rfl)) (hw _ (List.mem_of_getElem? (i := 20) rfl)) (hw _ (List.mem_of_getElem? (i := 24) rfl)) (by decide) [.ref o16, .int (0 : Int32), .int b0] [] (rmS2 l Z a0 hw [] o16 (0 : Int32) b0 [.int b0, .int b1] 0 T33.heap n0 Zl36 Al40 (show (0 : Int32) < (2 : Int32) by decide) rfl rfl) e39 (lenOf pd_6 rfl) rfl (by rw [hml]; rfl) (hb hby at_287) (by decide) 0 (Nat.le_of_eq rfl) (by decide) (by decide) (by decide) ?_
        rintro _ T41 L41 X41 ⟨rfl, N41q, e41⟩
        have N41 := Fr.app N39 N41q
        show Goes p e below (T41.setTop (mkF m 290 #[.val (.int p1), .val (.int p2), .val (.int p3), .val (.int p4), .val (.int p5), .val (.int n), .val (.int b0), .val (.int b1), .val (.int b2), .val (.int b3), .val (.ref o16), .val (.int (-1 : Int32)), .val (.int (1 : Int32)), .val (.ref r33), .val (.int (1 : Int32)), .unset] [.int (1 : Int32)])) _
        refine g_ifN X41 hx 293 rfl (hb hby at_290) (XT.i0_eq_f (by decide)) ?_
        refine g_aload X41 hx 295 rfl (hb hby at_293) rfl rfl ?_
        refine g_iconst X41 hx 296 rfl (1 : Int32) rfl (hb hby at_295) ?_
        refine g_iload X41 hx 298 rfl (hb hby at_296) rfl ?_
        refine g_callS X41 hx hZ 301 rfl (y := (⟨"com/example/rowgraph/rowgraph/graph/RowsEndPinLaw", "same", "([BIB)Z"⟩ : MethodName)) hown (hw _ (List.mem_of_getElem? (i := 22) rfl)) (hw _ (List.mem_of_getElem? (i := 23) rfl)) (hw _ (List.mem_of_getElem? (i := 20) rfl)) (hw _ (List.mem_of_getElem? (i := 24) rfl)) (by decide) [.ref o16, .int (1 : Int32), .int b1] [] (rmS2 l Z a0 hw [] o16 (1 : Int32) b1 [.int b0, .int b1] 1 T33.heap n0 Zl36 Al40 (show (1 : Int32) < (2 : Int32) by decide) rfl rfl) e41 (lenOf pd_6 rfl) rfl (by rw [hml]; rfl) (hb hby at_298) (by decide) 0 (Nat.le_of_eq rfl) (by decide) (by decide) (by decide) ?_
        rintro _ T42 L42 X42 ⟨rfl, N42q, e42⟩
        have N42 := Fr.app N41 N42q
        show Goes p e below (T42.setTop (mkF m 301 #[.val (.int p1), .val (.int p2), .val (.int p3), .val (.int p4), .val (.int p5), .val (.int n), .val (.int b0), .val (.int b1), .val (.int b2), .val (.int b3), .val (.ref o16), .val (.int (-1 : Int32)), .val (.int (1 : Int32)), .val (.ref r33), .val (.int (1 : Int32)), .unset] [.int (1 : Int32)])) _
        refine g_ifN X42 hx 304 rfl (hb hby at_301) (XT.i0_eq_f (by decide)) ?_
        refine g_aload X42 hx 306 rfl (hb hby at_304) rfl rfl ?_
        refine g_iconst X42 hx 307 rfl (2 : Int32) rfl (hb hby at_306) ?_
        refine g_iload X42 hx 309 rfl (hb hby at_307) rfl ?_
        refine g_callS X42 hx hZ 312 rfl (y := (⟨"com/example/rowgraph/rowgraph/graph/RowsEndPinLaw", "same", "([BIB)Z"⟩ : MethodName)) hown (hw _ (List.mem_of_getElem? (i := 22) rfl)) (hw _ (List.mem_of_getElem? (i := 23) rfl)) (hw _ (List.mem_of_getElem? (i := 20) rfl)) (hw _ (List.mem_of_getElem? (i := 24) rfl)) (by decide) [.ref o16, .int (2 : Int32), .int b2] [] (rmS1 l Z a0 hw [] o16 (2 : Int32) b2 [.int b0, .int b1] T33.heap n0 Zl36 Al40 (show ¬ ((2 : Int32) < (2 : Int32)) by decide)) e42 (lenOf pd_6 rfl) rfl (by rw [hml]; rfl) (hb hby at_309) (by decide) 0 (Nat.le_of_eq rfl) (by decide) (by decide) (by decide) ?_
        rintro _ T43 L43 X43 ⟨rfl, N43q, e43⟩
        have N43 := Fr.app N42 N43q
        show Goes p e below (T43.setTop (mkF m 312 #[.val (.int p1), .val (.int p2), .val (.int p3), .val (.int p4), .val (.int p5), .val (.int n), .val (.int b0), .val (.int b1), .val (.int b2), .val (.int b3), .val (.ref o16), .val (.int (-1 : Int32)), .val (.int (1 : Int32)), .val (.ref r33), .val (.int (1 : Int32)), .unset] [.int (1 : Int32)])) _
        refine g_ifN X43 hx 315 rfl (hb hby at_312) (XT.i0_eq_f (by decide)) ?_
        refine g_aload X43 hx 317 rfl (hb hby at_315) rfl rfl ?_
        refine g_iconst X43 hx 318 rfl (3 : Int32) rfl (hb hby at_317) ?_
        refine g_iload X43 hx 320 rfl (hb hby at_318) rfl ?_
        refine g_callS X43 hx hZ 323 rfl (y := (⟨"com/example/rowgraph/rowgraph/graph/RowsEndPinLaw", "same", "([BIB)Z"⟩ : MethodName)) hown (hw _ (List.mem_of_getElem? (i := 22) rfl)) (hw _ (List.mem_of_getElem? (i := 23) rfl)) (hw _ (List.mem_of_getElem? (i := 20) rfl)) (hw _ (List.mem_of_getElem? (i := 24) rfl)) (by decide) [.ref o16, .int (3 : Int32), .int b3] [] (rmS1 l Z a0 hw [] o16 (3 : Int32) b3 [.int b0, .int b1] T33.heap n0 Zl36 Al40 (show ¬ ((3 : Int32) < (2 : Int32)) by decide)) e43 (lenOf pd_6 rfl) rfl (by rw [hml]; rfl) (hb hby at_320) (by decide) 0 (Nat.le_of_eq rfl) (by decide) (by decide) (by decide) ?_
        rintro _ T44 L44 X44 ⟨rfl, N44q, e44⟩
        have N44 := Fr.app N43 N44q
        show Goes p e below (T44.setTop (mkF m 323 #[.val (.int p1), .val (.int p2), .val (.int p3), .val (.int p4), .val (.int p5), .val (.int n), .val (.int b0), .val (.int b1), .val (.int b2), .val (.int b3), .val (.ref o16), .val (.int (-1 : Int32)), .val (.int (1 : Int32)), .val (.ref r33), .val (.int (1 : Int32)), .unset] [.int (1 : Int32)])) _
        refine g_ifN X44 hx 326 rfl (hb hby at_323) (XT.i0_eq_f (by decide)) ?_
        refine g_iconst X44 hx 327 rfl (1 : Int32) rfl (hb hby at_326) ?_
        refine g_goto X44 hx 331 (hb hby at_327) (by decide) (by decide) ?_
        refine g_istore X44 hx 333 rfl (hb hby at_331) #[.val (.int p1), .val (.int p2), .val (.int p3), .val (.int p4), .val (.int p5), .val (.int n), .val (.int b0), .val (.int b1), .val (.int b2), .val (.int b3), .val (.ref o16), .val (.int (-1 : Int32)), .val (.int (1 : Int32)), .val (.ref r33), .val (.int (1 : Int32)), .val (.int (1 : Int32))] rfl ?_
        refine g_iload X44 hx 335 rfl (hb hby at_333) rfl ?_
        refine g_ifN X44 hx 338 rfl (hb hby at_335) (XT.i0_eq_f (by decide)) ?_
        refine g_iload X44 hx 340 rfl (hb hby at_338) rfl ?_
        refine g_ifN X44 hx 343 rfl (hb hby at_340) (XT.i0_eq_f (by decide)) ?_
        refine g_iconst X44 hx 344 rfl (1 : Int32) rfl (hb hby at_343) ?_
        refine g_goto X44 hx 348 (hb hby at_344) (by decide) (by decide) ?_
        exact g_retZ X44 hx hret hlk rfl (hb hby at_348) ⟨rfl, N44⟩ (by decide) (by decide)
    · refine g_icmpY X0 hx 67 (hb hby at_46) (XT.ii_ne_t c2) (by decide) (by decide) ?_
      refine g_iload X0 hx 69 rfl (hb hby at_67) rfl ?_
      refine g_iconst X0 hx 70 rfl (3 : Int32) rfl (hb hby at_69) ?_
      by_cases c3 : n = (3 : Int32)
      · refine g_icmpN X0 hx 73 rfl (hb hby at_70) (XT.ii_ne_f c3) ?_
        have nn : n = (3 : Int32) := c3
        refine g_iconst X0 hx 74 rfl (3 : Int32) rfl (hb hby at_73) ?_
        refine g_newarr X0 hx hZ 76 rfl (hw _ (List.mem_of_getElem? (i := 0) rfl)) e0 (hb hby at_74) 3 rfl 3 (Nat.le_refl _) (by decide) (by decide) (by decide) "[B" (by decide) ?_
        intro T45 h45 o45 g45 X45 e45 E45 A45 Ex45
        have ge_o45 : n0 ≤ o45 := Nat.le_trans Z0 (Nat.le_of_eq g45.symm)
        have Al45 : Al Z h45 o45 .byte [.int (0 : Int32), .int (0 : Int32), .int (0 : Int32)] := A45
        refine g_dup X45 hx 77 rfl (hb hby at_76) rfl ?_
        refine g_iconst X45 hx 78 rfl (0 : Int32) rfl (hb hby at_77) ?_
        refine g_iload X45 hx 80 rfl (hb hby at_78) rfl ?_
        refine g_bastore X45 hx hZ 81 rfl (hb hby at_80) e45 Al45 0 rfl (show 0 < 3 by decide) ?_
        intro T46 h46 X46 e46 W46 B46
        rw [show nar .byte b0 = b0 from nb0] at B46
        have N46 := Fr.snoc X46 N0 ge_o45
        have Al46 : Al Z h46 o45 .byte [.int b0, .int (0 : Int32), .int (0 : Int32)] := B46
        refine g_dup X46 hx 82 rfl (hb hby at_81) rfl ?_
        refine g_iconst X46 hx 83 rfl (1 : Int32) rfl (hb hby at_82) ?_
        refine g_iload X46 hx 85 rfl (hb hby at_83) rfl ?_
        refine g_bastore X46 hx hZ 86 rfl (hb hby at_85) e46 Al46 1 rfl (show 1 < 3 by decide) ?_
        intro T47 h47 X47 e47 W47 B47
        rw [show nar .byte b1 = b1 from nb1] at B47
        have N47 := Fr.snoc X47 N46 ge_o45
        have Al47 : Al Z h47 o45 .byte [.int b0, .int b1, .int (0 : Int32)] := B47
        refine g_dup X47 hx 87 rfl (hb hby at_86) rfl ?_
        refine g_iconst X47 hx 88 rfl (2 : Int32) rfl (hb hby at_87) ?_
        refine g_iload X47 hx 90 rfl (hb hby at_88) rfl ?_
        refine g_bastore X47 hx hZ 91 rfl (hb hby at_90) e47 Al47 2 rfl (show 2 < 3 by decide) ?_
        intro T48 h48 X48 e48 W48 B48
        rw [show nar .byte b2 = b2 from nb2] at B48
        have N48 := Fr.snoc X48 N47 ge_o45
        have Al48 : Al Z h48 o45 .byte [.int b0, .int b1, .int b2] := B48
        refine g_astore X48 hx 93 rfl (hb hby at_91) rfl #[.val (.int p1), .val (.int p2), .val (.int p3), .val (.int p4), .val (.int p5), .val (.int n), .val (.int b0), .val (.int b1), .val (.int b2), .val (.int b3), .val (.ref o45), .unset, .unset, .unset, .unset, .unset] rfl ?_
        refine g_goto X48 hx 121 (hb hby at_93) (by decide) (by decide) ?_
        refine g_iconst X48 hx 122 rfl (-1 : Int32) rfl (hb hby at_121) ?_
        refine g_istore X48 hx 124 rfl (hb hby at_122) #[.val (.int p1), .val (.int p2), .val (.int p3), .val (.int p4), .val (.int p5), .val (.int n), .val (.int b0), .val (.int b1), .val (.int b2), .val (.int b3), .val (.ref o45), .val (.int (-1 : Int32)), .unset, .unset, .unset, .unset] rfl ?_
        refine g_iload X48 hx 126 rfl (hb hby at_124) rfl ?_
        refine g_iconst X48 hx 127 rfl (4 : Int32) rfl (hb hby at_126) ?_
        refine g_icmpY X48 hx 143 (hb hby at_127) (XT.ii_lt_t (by rw [nn]; decide)) (by decide) (by decide) ?_
        refine g_iload X48 hx 145 rfl (hb hby at_143) rfl ?_
        refine g_iconst X48 hx 146 rfl (3 : Int32) rfl (hb hby at_145) ?_
        refine g_icmpN X48 hx 149 rfl (hb hby at_146) (XT.ii_lt_f (by rw [nn]; decide)) ?_
        refine g_iload X48 hx 151 rfl (hb hby at_149) rfl ?_
        refine g_iload X48 hx 153 rfl (hb hby at_151) rfl ?_
        by_cases m2 : b2 = (-1 : Int32)
        · refine g_icmpY X48 hx 162 (hb hby at_153) (XT.ii_eq_t m2) (by decide) (by decide) ?_
          refine g_iload X48 hx 164 rfl (hb hby at_162) rfl ?_
          refine g_iconst X48 hx 165 rfl (2 : Int32) rfl (hb hby at_164) ?_
          refine g_icmpN X48 hx 168 rfl (hb hby at_165) (XT.ii_lt_f (by rw [nn]; decide)) ?_
          refine g_iload X48 hx 170 rfl (hb hby at_168) rfl ?_
          refine g_iload X48 hx 172 rfl (hb hby at_170) rfl ?_
          by_cases m1 : b1 = (-1 : Int32)
          · refine g_icmpY X48 hx 181 (hb hby at_172) (XT.ii_eq_t m1) (by decide) (by decide) ?_
            refine g_iload X48 hx 183 rfl (hb hby at_181) rfl ?_
            refine g_iload X48 hx 185 rfl (hb hby at_183) rfl ?_
            by_cases m0 : b0 = (-1 : Int32)
            · refine g_icmpY X48 hx 194 (hb hby at_185) (XT.ii_eq_t m0) (by decide) (by decide) ?_
              refine g_iconst X48 hx 195 rfl (1 : Int32) rfl (hb hby at_194) ?_
              exact g_retZ X48 hx hret hlk rfl (hb hby at_195) ⟨rfl, N48⟩ (by decide) (by decide)
            · refine g_icmpN X48 hx 188 rfl (hb hby at_185) (XT.ii_eq_f m0) ?_
              refine g_iconst X48 hx 189 rfl (0 : Int32) rfl (hb hby at_188) ?_
              refine g_istore X48 hx 191 rfl (hb hby at_189) #[.val (.int p1), .val (.int p2), .val (.int p3), .val (.int p4), .val (.int p5), .val (.int n), .val (.int b0), .val (.int b1), .val (.int b2), .val (.int b3), .val (.ref o45), .val (.int (-1 : Int32)), .val (.int (0 : Int32)), .unset, .unset, .unset] rfl ?_
              refine g_goto X48 hx 196 (hb hby at_191) (by decide) (by decide) ?_
              refine g_aload X48 hx 198 rfl (hb hby at_196) rfl rfl ?_
              have hall : ∀ i, 0 < i → i < ([.int b0, .int b1, .int b2] : List Value).length → ([.int b0, .int b1, .int b2] : List Value)[i]? = some (.int (-1 : Int32)) := by
                intro i h1 h2
                simp only [List.length_cons, List.length_nil] at h2
                match i, h1, h2 with
                | 1, _, _ => exact congrArg (fun z => some (Value.int z)) m1
                | 2, _, _ => exact congrArg (fun z => some (Value.int z)) m2
              have hfit : ∀ v ∈ ([.int b0, .int b1, .int b2] : List Value), fits .byte v = true := by
                intro v hv
                simp only [List.mem_cons, List.not_mem_nil, or_false] at hv
                rcases hv with rfl | rfl | rfl
                · exact fb0
                · exact fb1
                · exact fb2
              have Exa49 := (((Ex45.wr W46).wr W47).wr W48)
              have Zl51 : n0 ≤ h48.size := (Nat.le_trans (Nat.le_trans (Nat.le_trans (Nat.le_trans Z0 E45.1) (Nat.le_of_eq W46.size.symm)) (Nat.le_of_eq W47.size.symm)) (Nat.le_of_eq W48.size.symm))
              refine g_callS X48 hx hZ 201 rfl (y := (⟨"com/example/rowgraph/rowgraph/graph/Rows", "end", "([B)[B"⟩ : MethodName)) hown (hw _ (List.mem_of_getElem? (i := 1) rfl)) (hw _ (List.mem_of_getElem? (i := 2) rfl)) (hw _ (List.mem_of_getElem? (i := 3) rfl)) (hw _ (List.mem_of_getElem? (i := 4) rfl)) (by decide) [.ref o45] [] (rmE l Z a0 hw [] o45 [.int b0, .int b1, .int b2] 0 b0 h48 n0 Zl51 Al48 Exa49 rfl m0 hall (show 3 ≤ 4 by decide) hfit) e48 (lenOf pd_4 rfl) rfl (by rw [hml]; rfl) (hb hby at_198) (by decide) 0 (Nat.le_of_eq rfl) (by decide) (by decide) (by decide) ?_
              rintro _ T50 L50 X50 ⟨r50, rfl, N50q, K50, Ar50⟩
              have N50 := Fr.app N48 N50q
              show Goes p e below (T50.setTop (mkF m 201 #[.val (.int p1), .val (.int p2), .val (.int p3), .val (.int p4), .val (.int p5), .val (.int n), .val (.int b0), .val (.int b1), .val (.int b2), .val (.int b3), .val (.ref o45), .val (.int (-1 : Int32)), .val (.int (0 : Int32)), .unset, .unset, .unset] [.ref r50])) _
              have Alr50 : Al Z T50.heap r50 .byte [.int ((b0 + (1 : Int32)).toInt8.toInt32)] := Ar50
              refine g_astore X50 hx 203 rfl (hb hby at_201) rfl #[.val (.int p1), .val (.int p2), .val (.int p3), .val (.int p4), .val (.int p5), .val (.int n), .val (.int b0), .val (.int b1), .val (.int b2), .val (.int b3), .val (.ref o45), .val (.int (-1 : Int32)), .val (.int (0 : Int32)), .val (.ref r50), .unset, .unset] rfl ?_
              refine g_aload X50 hx 205 rfl (hb hby at_203) rfl rfl ?_
              refine g_alen X50 hx hZ 206 rfl (hb hby at_205) rfl Alr50 (1 : Int32) rfl ?_
              refine g_iload X50 hx 208 rfl (hb hby at_206) rfl ?_
              refine g_iconst X50 hx 209 rfl (1 : Int32) rfl (hb hby at_208) ?_
              refine g_iadd X50 hx 210 rfl (hb hby at_209) ?_
              show Goes p e below (T50.setTop (mkF m 210 #[.val (.int p1), .val (.int p2), .val (.int p3), .val (.int p4), .val (.int p5), .val (.int n), .val (.int b0), .val (.int b1), .val (.int b2), .val (.int b3), .val (.ref o45), .val (.int (-1 : Int32)), .val (.int (0 : Int32)), .val (.ref r50), .unset, .unset] [.int (1 : Int32), .int (1 : Int32)])) _
              refine g_icmpY X50 hx 215 (hb hby at_210) (XT.ii_eq_t rfl) (by decide) (by decide) ?_
              refine g_aload X50 hx 217 rfl (hb hby at_215) rfl rfl ?_
              refine g_iload X50 hx 219 rfl (hb hby at_217) rfl ?_
              refine g_iconst X50 hx 220 rfl (0 : Int32) rfl (hb hby at_219) ?_
              refine g_iload X50 hx 222 rfl (hb hby at_220) rfl ?_
              have Zl53 : n0 ≤ T50.heap.size := (Nat.le_trans Zl51 K50.1)
              refine g_callS X50 hx hZ 225 rfl (y := (⟨"com/example/rowgraph/rowgraph/graph/RowsEndPinLaw", "at", "([BIIB)Z"⟩ : MethodName)) hown (hw _ (List.mem_of_getElem? (i := 18) rfl)) (hw _ (List.mem_of_getElem? (i := 19) rfl)) (hw _ (List.mem_of_getElem? (i := 20) rfl)) (hw _ (List.mem_of_getElem? (i := 21) rfl)) (by decide) [.ref r50, .int (0 : Int32), .int (0 : Int32), .int b0] [] (rmA3 l Z a0 hw [] r50 (0 : Int32) (0 : Int32) b0 [.int ((b0 + (1 : Int32)).toInt8.toInt32)] 0 T50.heap n0 Zl53 Alr50 (by decide) (by decide) rfl rfl) rfl (lenOf pd_5 rfl) rfl (by rw [hml]; rfl) (hb hby at_222) (by decide) 0 (Nat.le_of_eq rfl) (by decide) (by decide) (by decide) ?_
              rintro _ T52 L52 X52 ⟨rfl, N52q, e52⟩
              have N52 := Fr.app N50 N52q
              show Goes p e below (T52.setTop (mkF m 225 #[.val (.int p1), .val (.int p2), .val (.int p3), .val (.int p4), .val (.int p5), .val (.int n), .val (.int b0), .val (.int b1), .val (.int b2), .val (.int b3), .val (.ref o45), .val (.int (-1 : Int32)), .val (.int (0 : Int32)), .val (.ref r50), .unset, .unset] [.int (1 : Int32)])) _
              refine g_ifN X52 hx 228 rfl (hb hby at_225) (XT.i0_eq_f (by decide)) ?_
              refine g_aload X52 hx 230 rfl (hb hby at_228) rfl rfl ?_
              refine g_iload X52 hx 232 rfl (hb hby at_230) rfl ?_
              refine g_iconst X52 hx 233 rfl (1 : Int32) rfl (hb hby at_232) ?_
              refine g_iload X52 hx 235 rfl (hb hby at_233) rfl ?_
              refine g_callS X52 hx hZ 238 rfl (y := (⟨"com/example/rowgraph/rowgraph/graph/RowsEndPinLaw", "at", "([BIIB)Z"⟩ : MethodName)) hown (hw _ (List.mem_of_getElem? (i := 18) rfl)) (hw _ (List.mem_of_getElem? (i := 19) rfl)) (hw _ (List.mem_of_getElem? (i := 20) rfl)) (hw _ (List.mem_of_getElem? (i := 21) rfl)) (by decide) [.ref r50, .int (0 : Int32), .int (1 : Int32), .int b1] [] (rmA1 l Z a0 hw [] r50 (0 : Int32) (1 : Int32) b1 T50.heap n0 Zl53 (by decide)) e52 (lenOf pd_5 rfl) rfl (by rw [hml]; rfl) (hb hby at_235) (by decide) 0 (Nat.le_of_eq rfl) (by decide) (by decide) (by decide) ?_
              rintro _ T54 L54 X54 ⟨rfl, N54q, e54⟩
              have N54 := Fr.app N52 N54q
              show Goes p e below (T54.setTop (mkF m 238 #[.val (.int p1), .val (.int p2), .val (.int p3), .val (.int p4), .val (.int p5), .val (.int n), .val (.int b0), .val (.int b1), .val (.int b2), .val (.int b3), .val (.ref o45), .val (.int (-1 : Int32)), .val (.int (0 : Int32)), .val (.ref r50), .unset, .unset] [.int (1 : Int32)])) _
              refine g_ifN X54 hx 241 rfl (hb hby at_238) (XT.i0_eq_f (by decide)) ?_
              refine g_aload X54 hx 243 rfl (hb hby at_241) rfl rfl ?_
              refine g_iload X54 hx 245 rfl (hb hby at_243) rfl ?_
              refine g_iconst X54 hx 246 rfl (2 : Int32) rfl (hb hby at_245) ?_
              refine g_iload X54 hx 248 rfl (hb hby at_246) rfl ?_
              refine g_callS X54 hx hZ 251 rfl (y := (⟨"com/example/rowgraph/rowgraph/graph/RowsEndPinLaw", "at", "([BIIB)Z"⟩ : MethodName)) hown (hw _ (List.mem_of_getElem? (i := 18) rfl)) (hw _ (List.mem_of_getElem? (i := 19) rfl)) (hw _ (List.mem_of_getElem? (i := 20) rfl)) (hw _ (List.mem_of_getElem? (i := 21) rfl)) (by decide) [.ref r50, .int (0 : Int32), .int (2 : Int32), .int b2] [] (rmA1 l Z a0 hw [] r50 (0 : Int32) (2 : Int32) b2 T50.heap n0 Zl53 (by decide)) e54 (lenOf pd_5 rfl) rfl (by rw [hml]; rfl) (hb hby at_248) (by decide) 0 (Nat.le_of_eq rfl) (by decide) (by decide) (by decide) ?_
              rintro _ T55 L55 X55 ⟨rfl, N55q, e55⟩
              have N55 := Fr.app N54 N55q
              show Goes p e below (T55.setTop (mkF m 251 #[.val (.int p1), .val (.int p2), .val (.int p3), .val (.int p4), .val (.int p5), .val (.int n), .val (.int b0), .val (.int b1), .val (.int b2), .val (.int b3), .val (.ref o45), .val (.int (-1 : Int32)), .val (.int (0 : Int32)), .val (.ref r50), .unset, .unset] [.int (1 : Int32)])) _
              refine g_ifN X55 hx 254 rfl (hb hby at_251) (XT.i0_eq_f (by decide)) ?_
              refine g_aload X55 hx 256 rfl (hb hby at_254) rfl rfl ?_
              refine g_iload X55 hx 258 rfl (hb hby at_256) rfl ?_
              refine g_iconst X55 hx 259 rfl (3 : Int32) rfl (hb hby at_258) ?_
              refine g_iload X55 hx 261 rfl (hb hby at_259) rfl ?_
              refine g_callS X55 hx hZ 264 rfl (y := (⟨"com/example/rowgraph/rowgraph/graph/RowsEndPinLaw", "at", "([BIIB)Z"⟩ : MethodName)) hown (hw _ (List.mem_of_getElem? (i := 18) rfl)) (hw _ (List.mem_of_getElem? (i := 19) rfl)) (hw _ (List.mem_of_getElem? (i := 20) rfl)) (hw _ (List.mem_of_getElem? (i := 21) rfl)) (by decide) [.ref r50, .int (0 : Int32), .int (3 : Int32), .int b3] [] (rmA1 l Z a0 hw [] r50 (0 : Int32) (3 : Int32) b3 T50.heap n0 Zl53 (by decide)) e55 (lenOf pd_5 rfl) rfl (by rw [hml]; rfl) (hb hby at_261) (by decide) 0 (Nat.le_of_eq rfl) (by decide) (by decide) (by decide) ?_
              rintro _ T56 L56 X56 ⟨rfl, N56q, e56⟩
              have N56 := Fr.app N55 N56q
              show Goes p e below (T56.setTop (mkF m 264 #[.val (.int p1), .val (.int p2), .val (.int p3), .val (.int p4), .val (.int p5), .val (.int n), .val (.int b0), .val (.int b1), .val (.int b2), .val (.int b3), .val (.ref o45), .val (.int (-1 : Int32)), .val (.int (0 : Int32)), .val (.ref r50), .unset, .unset] [.int (1 : Int32)])) _
              refine g_ifN X56 hx 267 rfl (hb hby at_264) (XT.i0_eq_f (by decide)) ?_
              refine g_iconst X56 hx 268 rfl (1 : Int32) rfl (hb hby at_267) ?_
              refine g_goto X56 hx 272 (hb hby at_268) (by decide) (by decide) ?_
              refine g_istore X56 hx 274 rfl (hb hby at_272) #[.val (.int p1), .val (.int p2), .val (.int p3), .val (.int p4), .val (.int p5), .val (.int n), .val (.int b0), .val (.int b1), .val (.int b2), .val (.int b3), .val (.ref o45), .val (.int (-1 : Int32)), .val (.int (0 : Int32)), .val (.ref r50), .val (.int (1 : Int32)), .unset] rfl ?_
              refine g_aload X56 hx 276 rfl (hb hby at_274) rfl rfl ?_
              have Al57 := (Al48.keep K50 nin0)
              refine g_alen X56 hx hZ 277 rfl (hb hby at_276) e56 Al57 (3 : Int32) rfl ?_
              refine g_iload X56 hx 279 rfl (hb hby at_277) rfl ?_
              refine g_icmpN X56 hx 282 rfl (hb hby at_279) (XT.ii_ne_f nn.symm) ?_
              refine g_aload X56 hx 284 rfl (hb hby at_282) rfl rfl ?_
              refine g_iconst X56 hx 285 rfl (0 : Int32) rfl (hb hby at_284) ?_
              refine g_iload X56 hx 287 rfl (hb hby at_285) rfl ?_
              refine g_callS X56 hx hZ 290 rfl (y := (⟨"com/example/rowgraph/rowgraph/graph/RowsEndPinLaw", "same", "([BIB)Z"⟩ : MethodName)) hown (hw _ (List.mem_of_getElem? (i := 22) rfl)) (hw _ (List.mem_of_getElem? (i := 23) rfl)) (hw _ (List.mem_of_getElem? (i := 20) rfl)) (hw _ (List.mem_of_getElem? (i := 24) rfl)) (by decide) [.ref o45, .int (0 : Int32), .int b0] [] (rmS2 l Z a0 hw [] o45 (0 : Int32) b0 [.int b0, .int b1, .int b2] 0 T50.heap n0 Zl53 Al57 (show (0 : Int32) < (3 : Int32) by decide) rfl rfl) e56 (lenOf pd_6 rfl) rfl (by rw [hml]; rfl) (hb hby at_287) (by decide) 0 (Nat.le_of_eq rfl) (by decide) (by decide) (by decide) ?_
              rintro _ T58 L58 X58 ⟨rfl, N58q, e58⟩
              have N58 := Fr.app N56 N58q
              show Goes p e below (T58.setTop (mkF m 290 #[.val (.int p1), .val (.int p2), .val (.int p3), .val (.int p4), .val (.int p5), .val (.int n), .val (.int b0), .val (.int b1), .val (.int b2), .val (.int b3), .val (.ref o45), .val (.int (-1 : Int32)), .val (.int (0 : Int32)), .val (.ref r50), .val (.int (1 : Int32)), .unset] [.int (1 : Int32)])) _
              refine g_ifN X58 hx 293 rfl (hb hby at_290) (XT.i0_eq_f (by decide)) ?_
              refine g_aload X58 hx 295 rfl (hb hby at_293) rfl rfl ?_
              refine g_iconst X58 hx 296 rfl (1 : Int32) rfl (hb hby at_295) ?_
              refine g_iload X58 hx 298 rfl (hb hby at_296) rfl ?_
              refine g_callS X58 hx hZ 301 rfl (y := (⟨"com/example/rowgraph/rowgraph/graph/RowsEndPinLaw", "same", "([BIB)Z"⟩ : MethodName)) hown (hw _ (List.mem_of_getElem? (i := 22) rfl)) (hw _ (List.mem_of_getElem? (i := 23) rfl)) (hw _ (List.mem_of_getElem? (i := 20) rfl)) (hw _ (List.mem_of_getElem? (i := 24) rfl)) (by decide) [.ref o45, .int (1 : Int32), .int b1] [] (rmS2 l Z a0 hw [] o45 (1 : Int32) b1 [.int b0, .int b1, .int b2] 1 T50.heap n0 Zl53 Al57 (show (1 : Int32) < (3 : Int32) by decide) rfl rfl) e58 (lenOf pd_6 rfl) rfl (by rw [hml]; rfl) (hb hby at_298) (by decide) 0 (Nat.le_of_eq rfl) (by decide) (by decide) (by decide) ?_
              rintro _ T59 L59 X59 ⟨rfl, N59q, e59⟩
              have N59 := Fr.app N58 N59q
              show Goes p e below (T59.setTop (mkF m 301 #[.val (.int p1), .val (.int p2), .val (.int p3), .val (.int p4), .val (.int p5), .val (.int n), .val (.int b0), .val (.int b1), .val (.int b2), .val (.int b3), .val (.ref o45), .val (.int (-1 : Int32)), .val (.int (0 : Int32)), .val (.ref r50), .val (.int (1 : Int32)), .unset] [.int (1 : Int32)])) _
              refine g_ifN X59 hx 304 rfl (hb hby at_301) (XT.i0_eq_f (by decide)) ?_
              refine g_aload X59 hx 306 rfl (hb hby at_304) rfl rfl ?_
              refine g_iconst X59 hx 307 rfl (2 : Int32) rfl (hb hby at_306) ?_
              refine g_iload X59 hx 309 rfl (hb hby at_307) rfl ?_
              refine g_callS X59 hx hZ 312 rfl (y := (⟨"com/example/rowgraph/rowgraph/graph/RowsEndPinLaw", "same", "([BIB)Z"⟩ : MethodName)) hown (hw _ (List.mem_of_getElem? (i := 22) rfl)) (hw _ (List.mem_of_getElem? (i := 23) rfl)) (hw _ (List.mem_of_getElem? (i := 20) rfl)) (hw _ (List.mem_of_getElem? (i := 24) rfl)) (by decide) [.ref o45, .int (2 : Int32), .int b2] [] (rmS2 l Z a0 hw [] o45 (2 : Int32) b2 [.int b0, .int b1, .int b2] 2 T50.heap n0 Zl53 Al57 (show (2 : Int32) < (3 : Int32) by decide) rfl rfl) e59 (lenOf pd_6 rfl) rfl (by rw [hml]; rfl) (hb hby at_309) (by decide) 0 (Nat.le_of_eq rfl) (by decide) (by decide) (by decide) ?_
              rintro _ T60 L60 X60 ⟨rfl, N60q, e60⟩
              have N60 := Fr.app N59 N60q
              show Goes p e below (T60.setTop (mkF m 312 #[.val (.int p1), .val (.int p2), .val (.int p3), .val (.int p4), .val (.int p5), .val (.int n), .val (.int b0), .val (.int b1), .val (.int b2), .val (.int b3), .val (.ref o45), .val (.int (-1 : Int32)), .val (.int (0 : Int32)), .val (.ref r50), .val (.int (1 : Int32)), .unset] [.int (1 : Int32)])) _
              refine g_ifN X60 hx 315 rfl (hb hby at_312) (XT.i0_eq_f (by decide)) ?_
              refine g_aload X60 hx 317 rfl (hb hby at_315) rfl rfl ?_
              refine g_iconst X60 hx 318 rfl (3 : Int32) rfl (hb hby at_317) ?_
              refine g_iload X60 hx 320 rfl (hb hby at_318) rfl ?_
              refine g_callS X60 hx hZ 323 rfl (y := (⟨"com/example/rowgraph/rowgraph/graph/RowsEndPinLaw", "same", "([BIB)Z"⟩ : MethodName)) hown (hw _ (List.mem_of_getElem? (i := 22) rfl)) (hw _ (List.mem_of_getElem? (i := 23) rfl)) (hw _ (List.mem_of_getElem? (i := 20) rfl)) (hw _ (List.mem_of_getElem? (i := 24) rfl)) (by decide) [.ref o45, .int (3 : Int32), .int b3] [] (rmS1 l Z a0 hw [] o45 (3 : Int32) b3 [.int b0, .int b1, .int b2] T50.heap n0 Zl53 Al57 (show ¬ ((3 : Int32) < (3 : Int32)) by decide)) e60 (lenOf pd_6 rfl) rfl (by rw [hml]; rfl) (hb hby at_320) (by decide) 0 (Nat.le_of_eq rfl) (by decide) (by decide) (by decide) ?_
              rintro _ T61 L61 X61 ⟨rfl, N61q, e61⟩
              have N61 := Fr.app N60 N61q
              show Goes p e below (T61.setTop (mkF m 323 #[.val (.int p1), .val (.int p2), .val (.int p3), .val (.int p4), .val (.int p5), .val (.int n), .val (.int b0), .val (.int b1), .val (.int b2), .val (.int b3), .val (.ref o45), .val (.int (-1 : Int32)), .val (.int (0 : Int32)), .val (.ref r50), .val (.int (1 : Int32)), .unset] [.int (1 : Int32)])) _
              refine g_ifN X61 hx 326 rfl (hb hby at_323) (XT.i0_eq_f (by decide)) ?_
              refine g_iconst X61 hx 327 rfl (1 : Int32) rfl (hb hby at_326) ?_
              refine g_goto X61 hx 331 (hb hby at_327) (by decide) (by decide) ?_
              refine g_istore X61 hx 333 rfl (hb hby at_331) #[.val (.int p1), .val (.int p2), .val (.int p3), .val (.int p4), .val (.int p5), .val (.int n), .val (.int b0), .val (.int b1), .val (.int b2), .val (.int b3), .val (.ref o45), .val (.int (-1 : Int32)), .val (.int (0 : Int32)), .val (.ref r50), .val (.int (1 : Int32)), .val (.int (1 : Int32))] rfl ?_
              refine g_iload X61 hx 335 rfl (hb hby at_333) rfl ?_
              refine g_ifN X61 hx 338 rfl (hb hby at_335) (XT.i0_eq_f (by decide)) ?_
              refine g_iload X61 hx 340 rfl (hb hby at_338) rfl ?_
              refine g_ifN X61 hx 343 rfl (hb hby at_340) (XT.i0_eq_f (by decide)) ?_
              refine g_iconst X61 hx 344 rfl (1 : Int32) rfl (hb hby at_343) ?_
              refine g_goto X61 hx 348 (hb hby at_344) (by decide) (by decide) ?_
              exact g_retZ X61 hx hret hlk rfl (hb hby at_348) ⟨rfl, N61⟩ (by decide) (by decide)
          · refine g_icmpN X48 hx 175 rfl (hb hby at_172) (XT.ii_eq_f m1) ?_
            refine g_iconst X48 hx 176 rfl (1 : Int32) rfl (hb hby at_175) ?_
            refine g_istore X48 hx 178 rfl (hb hby at_176) #[.val (.int p1), .val (.int p2), .val (.int p3), .val (.int p4), .val (.int p5), .val (.int n), .val (.int b0), .val (.int b1), .val (.int b2), .val (.int b3), .val (.ref o45), .val (.int (-1 : Int32)), .val (.int (1 : Int32)), .unset, .unset, .unset] rfl ?_
            refine g_goto X48 hx 196 (hb hby at_178) (by decide) (by decide) ?_
            refine g_aload X48 hx 198 rfl (hb hby at_196) rfl rfl ?_
            have hall : ∀ i, 1 < i → i < ([.int b0, .int b1, .int b2] : List Value).length → ([.int b0, .int b1, .int b2] : List Value)[i]? = some (.int (-1 : Int32)) := by
              intro i h1 h2
              simp only [List.length_cons, List.length_nil] at h2
              match i, h1, h2 with
              | 2, _, _ => exact congrArg (fun z => some (Value.int z)) m2
            have hfit : ∀ v ∈ ([.int b0, .int b1, .int b2] : List Value), fits .byte v = true := by
              intro v hv
              simp only [List.mem_cons, List.not_mem_nil, or_false] at hv
              rcases hv with rfl | rfl | rfl
              · exact fb0
              · exact fb1
              · exact fb2
            have Exa62 := (((Ex45.wr W46).wr W47).wr W48)
            have Zl64 : n0 ≤ h48.size := (Nat.le_trans (Nat.le_trans (Nat.le_trans (Nat.le_trans Z0 E45.1) (Nat.le_of_eq W46.size.symm)) (Nat.le_of_eq W47.size.symm)) (Nat.le_of_eq W48.size.symm))
            refine g_callS X48 hx hZ 201 rfl (y := (⟨"com/example/rowgraph/rowgraph/graph/Rows", "end", "([B)[B"⟩ : MethodName)) hown (hw _ (List.mem_of_getElem? (i := 1) rfl)) (hw _ (List.mem_of_getElem? (i := 2) rfl)) (hw _ (List.mem_of_getElem? (i := 3) rfl)) (hw _ (List.mem_of_getElem? (i := 4) rfl)) (by decide) [.ref o45] [] (rmE l Z a0 hw [] o45 [.int b0, .int b1, .int b2] 1 b1 h48 n0 Zl64 Al48 Exa62 rfl m1 hall (show 3 ≤ 4 by decide) hfit) e48 (lenOf pd_4 rfl) rfl (by rw [hml]; rfl) (hb hby at_198) (by decide) 0 (Nat.le_of_eq rfl) (by decide) (by decide) (by decide) ?_
            rintro _ T63 L63 X63 ⟨r63, rfl, N63q, K63, Ar63⟩
            have N63 := Fr.app N48 N63q
            show Goes p e below (T63.setTop (mkF m 201 #[.val (.int p1), .val (.int p2), .val (.int p3), .val (.int p4), .val (.int p5), .val (.int n), .val (.int b0), .val (.int b1), .val (.int b2), .val (.int b3), .val (.ref o45), .val (.int (-1 : Int32)), .val (.int (1 : Int32)), .unset, .unset, .unset] [.ref r63])) _
            have Alr63 : Al Z T63.heap r63 .byte [.int b0, .int ((b1 + (1 : Int32)).toInt8.toInt32)] := Ar63
            refine g_astore X63 hx 203 rfl (hb hby at_201) rfl #[.val (.int p1), .val (.int p2), .val (.int p3), .val (.int p4), .val (.int p5), .val (.int n), .val (.int b0), .val (.int b1), .val (.int b2), .val (.int b3), .val (.ref o45), .val (.int (-1 : Int32)), .val (.int (1 : Int32)), .val (.ref r63), .unset, .unset] rfl ?_
            refine g_aload X63 hx 205 rfl (hb hby at_203) rfl rfl ?_
            refine g_alen X63 hx hZ 206 rfl (hb hby at_205) rfl Alr63 (2 : Int32) rfl ?_
            refine g_iload X63 hx 208 rfl (hb hby at_206) rfl ?_
            refine g_iconst X63 hx 209 rfl (1 : Int32) rfl (hb hby at_208) ?_
            refine g_iadd X63 hx 210 rfl (hb hby at_209) ?_
            show Goes p e below (T63.setTop (mkF m 210 #[.val (.int p1), .val (.int p2), .val (.int p3), .val (.int p4), .val (.int p5), .val (.int n), .val (.int b0), .val (.int b1), .val (.int b2), .val (.int b3), .val (.ref o45), .val (.int (-1 : Int32)), .val (.int (1 : Int32)), .val (.ref r63), .unset, .unset] [.int (2 : Int32), .int (2 : Int32)])) _
            refine g_icmpY X63 hx 215 (hb hby at_210) (XT.ii_eq_t rfl) (by decide) (by decide) ?_
            refine g_aload X63 hx 217 rfl (hb hby at_215) rfl rfl ?_
            refine g_iload X63 hx 219 rfl (hb hby at_217) rfl ?_
            refine g_iconst X63 hx 220 rfl (0 : Int32) rfl (hb hby at_219) ?_
            refine g_iload X63 hx 222 rfl (hb hby at_220) rfl ?_
            have Zl66 : n0 ≤ T63.heap.size := (Nat.le_trans Zl64 K63.1)
            refine g_callS X63 hx hZ 225 rfl (y := (⟨"com/example/rowgraph/rowgraph/graph/RowsEndPinLaw", "at", "([BIIB)Z"⟩ : MethodName)) hown (hw _ (List.mem_of_getElem? (i := 18) rfl)) (hw _ (List.mem_of_getElem? (i := 19) rfl)) (hw _ (List.mem_of_getElem? (i := 20) rfl)) (hw _ (List.mem_of_getElem? (i := 21) rfl)) (by decide) [.ref r63, .int (1 : Int32), .int (0 : Int32), .int b0] [] (rmA2 l Z a0 hw [] r63 (1 : Int32) (0 : Int32) b0 [.int b0, .int ((b1 + (1 : Int32)).toInt8.toInt32)] 0 T63.heap n0 Zl66 Alr63 (by decide) (by decide) rfl rfl) rfl (lenOf pd_5 rfl) rfl (by rw [hml]; rfl) (hb hby at_222) (by decide) 0 (Nat.le_of_eq rfl) (by decide) (by decide) (by decide) ?_
            rintro _ T65 L65 X65 ⟨rfl, N65q, e65⟩
            have N65 := Fr.app N63 N65q
            show Goes p e below (T65.setTop (mkF m 225 #[.val (.int p1), .val (.int p2), .val (.int p3), .val (.int p4), .val (.int p5), .val (.int n), .val (.int b0), .val (.int b1), .val (.int b2), .val (.int b3), .val (.ref o45), .val (.int (-1 : Int32)), .val (.int (1 : Int32)), .val (.ref r63), .unset, .unset] [.int (1 : Int32)])) _
            refine g_ifN X65 hx 228 rfl (hb hby at_225) (XT.i0_eq_f (by decide)) ?_
            refine g_aload X65 hx 230 rfl (hb hby at_228) rfl rfl ?_
            refine g_iload X65 hx 232 rfl (hb hby at_230) rfl ?_
            refine g_iconst X65 hx 233 rfl (1 : Int32) rfl (hb hby at_232) ?_
            refine g_iload X65 hx 235 rfl (hb hby at_233) rfl ?_
            refine g_callS X65 hx hZ 238 rfl (y := (⟨"com/example/rowgraph/rowgraph/graph/RowsEndPinLaw", "at", "([BIIB)Z"⟩ : MethodName)) hown (hw _ (List.mem_of_getElem? (i := 18) rfl)) (hw _ (List.mem_of_getElem? (i := 19) rfl)) (hw _ (List.mem_of_getElem? (i := 20) rfl)) (hw _ (List.mem_of_getElem? (i := 21) rfl)) (by decide) [.ref r63, .int (1 : Int32), .int (1 : Int32), .int b1] [] (rmA3 l Z a0 hw [] r63 (1 : Int32) (1 : Int32) b1 [.int b0, .int ((b1 + (1 : Int32)).toInt8.toInt32)] 1 T63.heap n0 Zl66 Alr63 (by decide) (by decide) rfl rfl) e65 (lenOf pd_5 rfl) rfl (by rw [hml]; rfl) (hb hby at_235) (by decide) 0 (Nat.le_of_eq rfl) (by decide) (by decide) (by decide) ?_
            rintro _ T67 L67 X67 ⟨rfl, N67q, e67⟩
            have N67 := Fr.app N65 N67q
            show Goes p e below (T67.setTop (mkF m 238 #[.val (.int p1), .val (.int p2), .val (.int p3), .val (.int p4), .val (.int p5), .val (.int n), .val (.int b0), .val (.int b1), .val (.int b2), .val (.int b3), .val (.ref o45), .val (.int (-1 : Int32)), .val (.int (1 : Int32)), .val (.ref r63), .unset, .unset] [.int (1 : Int32)])) _
            refine g_ifN X67 hx 241 rfl (hb hby at_238) (XT.i0_eq_f (by decide)) ?_
            refine g_aload X67 hx 243 rfl (hb hby at_241) rfl rfl ?_
            refine g_iload X67 hx 245 rfl (hb hby at_243) rfl ?_
            refine g_iconst X67 hx 246 rfl (2 : Int32) rfl (hb hby at_245) ?_
            refine g_iload X67 hx 248 rfl (hb hby at_246) rfl ?_
            refine g_callS X67 hx hZ 251 rfl (y := (⟨"com/example/rowgraph/rowgraph/graph/RowsEndPinLaw", "at", "([BIIB)Z"⟩ : MethodName)) hown (hw _ (List.mem_of_getElem? (i := 18) rfl)) (hw _ (List.mem_of_getElem? (i := 19) rfl)) (hw _ (List.mem_of_getElem? (i := 20) rfl)) (hw _ (List.mem_of_getElem? (i := 21) rfl)) (by decide) [.ref r63, .int (1 : Int32), .int (2 : Int32), .int b2] [] (rmA1 l Z a0 hw [] r63 (1 : Int32) (2 : Int32) b2 T63.heap n0 Zl66 (by decide)) e67 (lenOf pd_5 rfl) rfl (by rw [hml]; rfl) (hb hby at_248) (by decide) 0 (Nat.le_of_eq rfl) (by decide) (by decide) (by decide) ?_
            rintro _ T68 L68 X68 ⟨rfl, N68q, e68⟩
            have N68 := Fr.app N67 N68q
            show Goes p e below (T68.setTop (mkF m 251 #[.val (.int p1), .val (.int p2), .val (.int p3), .val (.int p4), .val (.int p5), .val (.int n), .val (.int b0), .val (.int b1), .val (.int b2), .val (.int b3), .val (.ref o45), .val (.int (-1 : Int32)), .val (.int (1 : Int32)), .val (.ref r63), .unset, .unset] [.int (1 : Int32)])) _
            refine g_ifN X68 hx 254 rfl (hb hby at_251) (XT.i0_eq_f (by decide)) ?_
            refine g_aload X68 hx 256 rfl (hb hby at_254) rfl rfl ?_
            refine g_iload X68 hx 258 rfl (hb hby at_256) rfl ?_
            refine g_iconst X68 hx 259 rfl (3 : Int32) rfl (hb hby at_258) ?_
            refine g_iload X68 hx 261 rfl (hb hby at_259) rfl ?_
            refine g_callS X68 hx hZ 264 rfl (y := (⟨"com/example/rowgraph/rowgraph/graph/RowsEndPinLaw", "at", "([BIIB)Z"⟩ : MethodName)) hown (hw _ (List.mem_of_getElem? (i := 18) rfl)) (hw _ (List.mem_of_getElem? (i := 19) rfl)) (hw _ (List.mem_of_getElem? (i := 20) rfl)) (hw _ (List.mem_of_getElem? (i := 21) rfl)) (by decide) [.ref r63, .int (1 : Int32), .int (3 : Int32), .int b3] [] (rmA1 l Z a0 hw [] r63 (1 : Int32) (3 : Int32) b3 T63.heap n0 Zl66 (by decide)) e68 (lenOf pd_5 rfl) rfl (by rw [hml]; rfl) (hb hby at_261) (by decide) 0 (Nat.le_of_eq rfl) (by decide) (by decide) (by decide) ?_
            rintro _ T69 L69 X69 ⟨rfl, N69q, e69⟩
            have N69 := Fr.app N68 N69q
            show Goes p e below (T69.setTop (mkF m 264 #[.val (.int p1), .val (.int p2), .val (.int p3), .val (.int p4), .val (.int p5), .val (.int n), .val (.int b0), .val (.int b1), .val (.int b2), .val (.int b3), .val (.ref o45), .val (.int (-1 : Int32)), .val (.int (1 : Int32)), .val (.ref r63), .unset, .unset] [.int (1 : Int32)])) _
            refine g_ifN X69 hx 267 rfl (hb hby at_264) (XT.i0_eq_f (by decide)) ?_
            refine g_iconst X69 hx 268 rfl (1 : Int32) rfl (hb hby at_267) ?_
            refine g_goto X69 hx 272 (hb hby at_268) (by decide) (by decide) ?_
            refine g_istore X69 hx 274 rfl (hb hby at_272) #[.val (.int p1), .val (.int p2), .val (.int p3), .val (.int p4), .val (.int p5), .val (.int n), .val (.int b0), .val (.int b1), .val (.int b2), .val (.int b3), .val (.ref o45), .val (.int (-1 : Int32)), .val (.int (1 : Int32)), .val (.ref r63), .val (.int (1 : Int32)), .unset] rfl ?_
            refine g_aload X69 hx 276 rfl (hb hby at_274) rfl rfl ?_
            have Al70 := (Al48.keep K63 nin0)
            refine g_alen X69 hx hZ 277 rfl (hb hby at_276) e69 Al70 (3 : Int32) rfl ?_
            refine g_iload X69 hx 279 rfl (hb hby at_277) rfl ?_
            refine g_icmpN X69 hx 282 rfl (hb hby at_279) (XT.ii_ne_f nn.symm) ?_
            refine g_aload X69 hx 284 rfl (hb hby at_282) rfl rfl ?_
            refine g_iconst X69 hx 285 rfl (0 : Int32) rfl (hb hby at_284) ?_
            refine g_iload X69 hx 287 rfl (hb hby at_285) rfl ?_
            refine g_callS X69 hx hZ 290 rfl (y := (⟨"com/example/rowgraph/rowgraph/graph/RowsEndPinLaw", "same", "([BIB)Z"⟩ : MethodName)) hown (hw _ (List.mem_of_getElem? (i := 22) rfl)) (hw _ (List.mem_of_getElem? (i := 23) rfl)) (hw _ (List.mem_of_getElem? (i := 20) rfl)) (hw _ (List.mem_of_getElem? (i := 24) rfl)) (by decide) [.ref o45, .int (0 : Int32), .int b0] [] (rmS2 l Z a0 hw [] o45 (0 : Int32) b0 [.int b0, .int b1, .int b2] 0 T63.heap n0 Zl66 Al70 (show (0 : Int32) < (3 : Int32) by decide) rfl rfl) e69 (lenOf pd_6 rfl) rfl (by rw [hml]; rfl) (hb hby at_287) (by decide) 0 (Nat.le_of_eq rfl) (by decide) (by decide) (by decide) ?_
            rintro _ T71 L71 X71 ⟨rfl, N71q, e71⟩
            have N71 := Fr.app N69 N71q
            show Goes p e below (T71.setTop (mkF m 290 #[.val (.int p1), .val (.int p2), .val (.int p3), .val (.int p4), .val (.int p5), .val (.int n), .val (.int b0), .val (.int b1), .val (.int b2), .val (.int b3), .val (.ref o45), .val (.int (-1 : Int32)), .val (.int (1 : Int32)), .val (.ref r63), .val (.int (1 : Int32)), .unset] [.int (1 : Int32)])) _
            refine g_ifN X71 hx 293 rfl (hb hby at_290) (XT.i0_eq_f (by decide)) ?_
            refine g_aload X71 hx 295 rfl (hb hby at_293) rfl rfl ?_
            refine g_iconst X71 hx 296 rfl (1 : Int32) rfl (hb hby at_295) ?_
            refine g_iload X71 hx 298 rfl (hb hby at_296) rfl ?_
            refine g_callS X71 hx hZ 301 rfl (y := (⟨"com/example/rowgraph/rowgraph/graph/RowsEndPinLaw", "same", "([BIB)Z"⟩ : MethodName)) hown (hw _ (List.mem_of_getElem? (i := 22) rfl)) (hw _ (List.mem_of_getElem? (i := 23) rfl)) (hw _ (List.mem_of_getElem? (i := 20) rfl)) (hw _ (List.mem_of_getElem? (i := 24) rfl)) (by decide) [.ref o45, .int (1 : Int32), .int b1] [] (rmS2 l Z a0 hw [] o45 (1 : Int32) b1 [.int b0, .int b1, .int b2] 1 T63.heap n0 Zl66 Al70 (show (1 : Int32) < (3 : Int32) by decide) rfl rfl) e71 (lenOf pd_6 rfl) rfl (by rw [hml]; rfl) (hb hby at_298) (by decide) 0 (Nat.le_of_eq rfl) (by decide) (by decide) (by decide) ?_
            rintro _ T72 L72 X72 ⟨rfl, N72q, e72⟩
            have N72 := Fr.app N71 N72q
            show Goes p e below (T72.setTop (mkF m 301 #[.val (.int p1), .val (.int p2), .val (.int p3), .val (.int p4), .val (.int p5), .val (.int n), .val (.int b0), .val (.int b1), .val (.int b2), .val (.int b3), .val (.ref o45), .val (.int (-1 : Int32)), .val (.int (1 : Int32)), .val (.ref r63), .val (.int (1 : Int32)), .unset] [.int (1 : Int32)])) _
            refine g_ifN X72 hx 304 rfl (hb hby at_301) (XT.i0_eq_f (by decide)) ?_
            refine g_aload X72 hx 306 rfl (hb hby at_304) rfl rfl ?_
            refine g_iconst X72 hx 307 rfl (2 : Int32) rfl (hb hby at_306) ?_
            refine g_iload X72 hx 309 rfl (hb hby at_307) rfl ?_
            refine g_callS X72 hx hZ 312 rfl (y := (⟨"com/example/rowgraph/rowgraph/graph/RowsEndPinLaw", "same", "([BIB)Z"⟩ : MethodName)) hown (hw _ (List.mem_of_getElem? (i := 22) rfl)) (hw _ (List.mem_of_getElem? (i := 23) rfl)) (hw _ (List.mem_of_getElem? (i := 20) rfl)) (hw _ (List.mem_of_getElem? (i := 24) rfl)) (by decide) [.ref o45, .int (2 : Int32), .int b2] [] (rmS2 l Z a0 hw [] o45 (2 : Int32) b2 [.int b0, .int b1, .int b2] 2 T63.heap n0 Zl66 Al70 (show (2 : Int32) < (3 : Int32) by decide) rfl rfl) e72 (lenOf pd_6 rfl) rfl (by rw [hml]; rfl) (hb hby at_309) (by decide) 0 (Nat.le_of_eq rfl) (by decide) (by decide) (by decide) ?_
            rintro _ T73 L73 X73 ⟨rfl, N73q, e73⟩
            have N73 := Fr.app N72 N73q
            show Goes p e below (T73.setTop (mkF m 312 #[.val (.int p1), .val (.int p2), .val (.int p3), .val (.int p4), .val (.int p5), .val (.int n), .val (.int b0), .val (.int b1), .val (.int b2), .val (.int b3), .val (.ref o45), .val (.int (-1 : Int32)), .val (.int (1 : Int32)), .val (.ref r63), .val (.int (1 : Int32)), .unset] [.int (1 : Int32)])) _
            refine g_ifN X73 hx 315 rfl (hb hby at_312) (XT.i0_eq_f (by decide)) ?_
            refine g_aload X73 hx 317 rfl (hb hby at_315) rfl rfl ?_
            refine g_iconst X73 hx 318 rfl (3 : Int32) rfl (hb hby at_317) ?_
            refine g_iload X73 hx 320 rfl (hb hby at_318) rfl ?_
            refine g_callS X73 hx hZ 323 rfl (y := (⟨"com/example/rowgraph/rowgraph/graph/RowsEndPinLaw", "same", "([BIB)Z"⟩ : MethodName)) hown (hw _ (List.mem_of_getElem? (i := 22) rfl)) (hw _ (List.mem_of_getElem? (i := 23) rfl)) (hw _ (List.mem_of_getElem? (i := 20) rfl)) (hw _ (List.mem_of_getElem? (i := 24) rfl)) (by decide) [.ref o45, .int (3 : Int32), .int b3] [] (rmS1 l Z a0 hw [] o45 (3 : Int32) b3 [.int b0, .int b1, .int b2] T63.heap n0 Zl66 Al70 (show ¬ ((3 : Int32) < (3 : Int32)) by decide)) e73 (lenOf pd_6 rfl) rfl (by rw [hml]; rfl) (hb hby at_320) (by decide) 0 (Nat.le_of_eq rfl) (by decide) (by decide) (by decide) ?_
            rintro _ T74 L74 X74 ⟨rfl, N74q, e74⟩
            have N74 := Fr.app N73 N74q
            show Goes p e below (T74.setTop (mkF m 323 #[.val (.int p1), .val (.int p2), .val (.int p3), .val (.int p4), .val (.int p5), .val (.int n), .val (.int b0), .val (.int b1), .val (.int b2), .val (.int b3), .val (.ref o45), .val (.int (-1 : Int32)), .val (.int (1 : Int32)), .val (.ref r63), .val (.int (1 : Int32)), .unset] [.int (1 : Int32)])) _
            refine g_ifN X74 hx 326 rfl (hb hby at_323) (XT.i0_eq_f (by decide)) ?_
            refine g_iconst X74 hx 327 rfl (1 : Int32) rfl (hb hby at_326) ?_
            refine g_goto X74 hx 331 (hb hby at_327) (by decide) (by decide) ?_
            refine g_istore X74 hx 333 rfl (hb hby at_331) #[.val (.int p1), .val (.int p2), .val (.int p3), .val (.int p4), .val (.int p5), .val (.int n), .val (.int b0), .val (.int b1), .val (.int b2), .val (.int b3), .val (.ref o45), .val (.int (-1 : Int32)), .val (.int (1 : Int32)), .val (.ref r63), .val (.int (1 : Int32)), .val (.int (1 : Int32))] rfl ?_
            refine g_iload X74 hx 335 rfl (hb hby at_333) rfl ?_
            refine g_ifN X74 hx 338 rfl (hb hby at_335) (XT.i0_eq_f (by decide)) ?_
            refine g_iload X74 hx 340 rfl (hb hby at_338) rfl ?_
            refine g_ifN X74 hx 343 rfl (hb hby at_340) (XT.i0_eq_f (by decide)) ?_
            refine g_iconst X74 hx 344 rfl (1 : Int32) rfl (hb hby at_343) ?_
            refine g_goto X74 hx 348 (hb hby at_344) (by decide) (by decide) ?_
            exact g_retZ X74 hx hret hlk rfl (hb hby at_348) ⟨rfl, N74⟩ (by decide) (by decide)
        · refine g_icmpN X48 hx 156 rfl (hb hby at_153) (XT.ii_eq_f m2) ?_
          refine g_iconst X48 hx 157 rfl (2 : Int32) rfl (hb hby at_156) ?_
          refine g_istore X48 hx 159 rfl (hb hby at_157) #[.val (.int p1), .val (.int p2), .val (.int p3), .val (.int p4), .val (.int p5), .val (.int n), .val (.int b0), .val (.int b1), .val (.int b2), .val (.int b3), .val (.ref o45), .val (.int (-1 : Int32)), .val (.int (2 : Int32)), .unset, .unset, .unset] rfl ?_
          refine g_goto X48 hx 196 (hb hby at_159) (by decide) (by decide) ?_
          refine g_aload X48 hx 198 rfl (hb hby at_196) rfl rfl ?_
          have hall : ∀ i, 2 < i → i < ([.int b0, .int b1, .int b2] : List Value).length → ([.int b0, .int b1, .int b2] : List Value)[i]? = some (.int (-1 : Int32)) := by
            intro i h1 h2
            simp only [List.length_cons, List.length_nil] at h2
            omega
          have hfit : ∀ v ∈ ([.int b0, .int b1, .int b2] : List Value), fits .byte v = true := by
            intro v hv
            simp only [List.mem_cons, List.not_mem_nil, or_false] at hv
            rcases hv with rfl | rfl | rfl
            · exact fb0
            · exact fb1
            · exact fb2
          have Exa75 := (((Ex45.wr W46).wr W47).wr W48)
          have Zl77 : n0 ≤ h48.size := (Nat.le_trans (Nat.le_trans (Nat.le_trans (Nat.le_trans Z0 E45.1) (Nat.le_of_eq W46.size.symm)) (Nat.le_of_eq W47.size.symm)) (Nat.le_of_eq W48.size.symm))
          refine g_callS X48 hx hZ 201 rfl (y := (⟨"com/example/rowgraph/rowgraph/graph/Rows", "end", "([B)[B"⟩ : MethodName)) hown (hw _ (List.mem_of_getElem? (i := 1) rfl)) (hw _ (List.mem_of_getElem? (i := 2) rfl)) (hw _ (List.mem_of_getElem? (i := 3) rfl)) (hw _ (List.mem_of_getElem? (i := 4) rfl)) (by decide) [.ref o45] [] (rmE l Z a0 hw [] o45 [.int b0, .int b1, .int b2] 2 b2 h48 n0 Zl77 Al48 Exa75 rfl m2 hall (show 3 ≤ 4 by decide) hfit) e48 (lenOf pd_4 rfl) rfl (by rw [hml]; rfl) (hb hby at_198) (by decide) 0 (Nat.le_of_eq rfl) (by decide) (by decide) (by decide) ?_
          rintro _ T76 L76 X76 ⟨r76, rfl, N76q, K76, Ar76⟩
          have N76 := Fr.app N48 N76q
          show Goes p e below (T76.setTop (mkF m 201 #[.val (.int p1), .val (.int p2), .val (.int p3), .val (.int p4), .val (.int p5), .val (.int n), .val (.int b0), .val (.int b1), .val (.int b2), .val (.int b3), .val (.ref o45), .val (.int (-1 : Int32)), .val (.int (2 : Int32)), .unset, .unset, .unset] [.ref r76])) _
          have Alr76 : Al Z T76.heap r76 .byte [.int b0, .int b1, .int ((b2 + (1 : Int32)).toInt8.toInt32)] := Ar76
          refine g_astore X76 hx 203 rfl (hb hby at_201) rfl #[.val (.int p1), .val (.int p2), .val (.int p3), .val (.int p4), .val (.int p5), .val (.int n), .val (.int b0), .val (.int b1), .val (.int b2), .val (.int b3), .val (.ref o45), .val (.int (-1 : Int32)), .val (.int (2 : Int32)), .val (.ref r76), .unset, .unset] rfl ?_
          refine g_aload X76 hx 205 rfl (hb hby at_203) rfl rfl ?_
          refine g_alen X76 hx hZ 206 rfl (hb hby at_205) rfl Alr76 (3 : Int32) rfl ?_
          refine g_iload X76 hx 208 rfl (hb hby at_206) rfl ?_
          refine g_iconst X76 hx 209 rfl (1 : Int32) rfl (hb hby at_208) ?_
          refine g_iadd X76 hx 210 rfl (hb hby at_209) ?_
          show Goes p e below (T76.setTop (mkF m 210 #[.val (.int p1), .val (.int p2), .val (.int p3), .val (.int p4), .val (.int p5), .val (.int n), .val (.int b0), .val (.int b1), .val (.int b2), .val (.int b3), .val (.ref o45), .val (.int (-1 : Int32)), .val (.int (2 : Int32)), .val (.ref r76), .unset, .unset] [.int (3 : Int32), .int (3 : Int32)])) _
          refine g_icmpY X76 hx 215 (hb hby at_210) (XT.ii_eq_t rfl) (by decide) (by decide) ?_
          refine g_aload X76 hx 217 rfl (hb hby at_215) rfl rfl ?_
          refine g_iload X76 hx 219 rfl (hb hby at_217) rfl ?_
          refine g_iconst X76 hx 220 rfl (0 : Int32) rfl (hb hby at_219) ?_
          refine g_iload X76 hx 222 rfl (hb hby at_220) rfl ?_
          have Zl79 : n0 ≤ T76.heap.size := (Nat.le_trans Zl77 K76.1)
          refine g_callS X76 hx hZ 225 rfl (y := (⟨"com/example/rowgraph/rowgraph/graph/RowsEndPinLaw", "at", "([BIIB)Z"⟩ : MethodName)) hown (hw _ (List.mem_of_getElem? (i := 18) rfl)) (hw _ (List.mem_of_getElem? (i := 19) rfl)) (hw _ (List.mem_of_getElem? (i := 20) rfl)) (hw _ (List.mem_of_getElem? (i := 21) rfl)) (by decide) [.ref r76, .int (2 : Int32), .int (0 : Int32), .int b0] [] (rmA2 l Z a0 hw [] r76 (2 : Int32) (0 : Int32) b0 [.int b0, .int b1, .int ((b2 + (1 : Int32)).toInt8.toInt32)] 0 T76.heap n0 Zl79 Alr76 (by decide) (by decide) rfl rfl) rfl (lenOf pd_5 rfl) rfl (by rw [hml]; rfl) (hb hby at_222) (by decide) 0 (Nat.le_of_eq rfl) (by decide) (by decide) (by decide) ?_
          rintro _ T78 L78 X78 ⟨rfl, N78q, e78⟩
          have N78 := Fr.app N76 N78q
          show Goes p e below (T78.setTop (mkF m 225 #[.val (.int p1), .val (.int p2), .val (.int p3), .val (.int p4), .val (.int p5), .val (.int n), .val (.int b0), .val (.int b1), .val (.int b2), .val (.int b3), .val (.ref o45), .val (.int (-1 : Int32)), .val (.int (2 : Int32)), .val (.ref r76), .unset, .unset] [.int (1 : Int32)])) _
          refine g_ifN X78 hx 228 rfl (hb hby at_225) (XT.i0_eq_f (by decide)) ?_
          refine g_aload X78 hx 230 rfl (hb hby at_228) rfl rfl ?_
          refine g_iload X78 hx 232 rfl (hb hby at_230) rfl ?_
          refine g_iconst X78 hx 233 rfl (1 : Int32) rfl (hb hby at_232) ?_
          refine g_iload X78 hx 235 rfl (hb hby at_233) rfl ?_
          refine g_callS X78 hx hZ 238 rfl (y := (⟨"com/example/rowgraph/rowgraph/graph/RowsEndPinLaw", "at", "([BIIB)Z"⟩ : MethodName)) hown (hw _ (List.mem_of_getElem? (i := 18) rfl)) (hw _ (List.mem_of_getElem? (i := 19) rfl)) (hw _ (List.mem_of_getElem? (i := 20) rfl)) (hw _ (List.mem_of_getElem? (i := 21) rfl)) (by decide) [.ref r76, .int (2 : Int32), .int (1 : Int32), .int b1] [] (rmA2 l Z a0 hw [] r76 (2 : Int32) (1 : Int32) b1 [.int b0, .int b1, .int ((b2 + (1 : Int32)).toInt8.toInt32)] 1 T76.heap n0 Zl79 Alr76 (by decide) (by decide) rfl rfl) e78 (lenOf pd_5 rfl) rfl (by rw [hml]; rfl) (hb hby at_235) (by decide) 0 (Nat.le_of_eq rfl) (by decide) (by decide) (by decide) ?_
          rintro _ T80 L80 X80 ⟨rfl, N80q, e80⟩
          have N80 := Fr.app N78 N80q
          show Goes p e below (T80.setTop (mkF m 238 #[.val (.int p1), .val (.int p2), .val (.int p3), .val (.int p4), .val (.int p5), .val (.int n), .val (.int b0), .val (.int b1), .val (.int b2), .val (.int b3), .val (.ref o45), .val (.int (-1 : Int32)), .val (.int (2 : Int32)), .val (.ref r76), .unset, .unset] [.int (1 : Int32)])) _
          refine g_ifN X80 hx 241 rfl (hb hby at_238) (XT.i0_eq_f (by decide)) ?_
          refine g_aload X80 hx 243 rfl (hb hby at_241) rfl rfl ?_
          refine g_iload X80 hx 245 rfl (hb hby at_243) rfl ?_
          refine g_iconst X80 hx 246 rfl (2 : Int32) rfl (hb hby at_245) ?_
          refine g_iload X80 hx 248 rfl (hb hby at_246) rfl ?_
          refine g_callS X80 hx hZ 251 rfl (y := (⟨"com/example/rowgraph/rowgraph/graph/RowsEndPinLaw", "at", "([BIIB)Z"⟩ : MethodName)) hown (hw _ (List.mem_of_getElem? (i := 18) rfl)) (hw _ (List.mem_of_getElem? (i := 19) rfl)) (hw _ (List.mem_of_getElem? (i := 20) rfl)) (hw _ (List.mem_of_getElem? (i := 21) rfl)) (by decide) [.ref r76, .int (2 : Int32), .int (2 : Int32), .int b2] [] (rmA3 l Z a0 hw [] r76 (2 : Int32) (2 : Int32) b2 [.int b0, .int b1, .int ((b2 + (1 : Int32)).toInt8.toInt32)] 2 T76.heap n0 Zl79 Alr76 (by decide) (by decide) rfl rfl) e80 (lenOf pd_5 rfl) rfl (by rw [hml]; rfl) (hb hby at_248) (by decide) 0 (Nat.le_of_eq rfl) (by decide) (by decide) (by decide) ?_
          rintro _ T81 L81 X81 ⟨rfl, N81q, e81⟩
          have N81 := Fr.app N80 N81q
          show Goes p e below (T81.setTop (mkF m 251 #[.val (.int p1), .val (.int p2), .val (.int p3), .val (.int p4), .val (.int p5), .val (.int n), .val (.int b0), .val (.int b1), .val (.int b2), .val (.int b3), .val (.ref o45), .val (.int (-1 : Int32)), .val (.int (2 : Int32)), .val (.ref r76), .unset, .unset] [.int (1 : Int32)])) _
          refine g_ifN X81 hx 254 rfl (hb hby at_251) (XT.i0_eq_f (by decide)) ?_
          refine g_aload X81 hx 256 rfl (hb hby at_254) rfl rfl ?_
          refine g_iload X81 hx 258 rfl (hb hby at_256) rfl ?_
          refine g_iconst X81 hx 259 rfl (3 : Int32) rfl (hb hby at_258) ?_
          refine g_iload X81 hx 261 rfl (hb hby at_259) rfl ?_
          refine g_callS X81 hx hZ 264 rfl (y := (⟨"com/example/rowgraph/rowgraph/graph/RowsEndPinLaw", "at", "([BIIB)Z"⟩ : MethodName)) hown (hw _ (List.mem_of_getElem? (i := 18) rfl)) (hw _ (List.mem_of_getElem? (i := 19) rfl)) (hw _ (List.mem_of_getElem? (i := 20) rfl)) (hw _ (List.mem_of_getElem? (i := 21) rfl)) (by decide) [.ref r76, .int (2 : Int32), .int (3 : Int32), .int b3] [] (rmA1 l Z a0 hw [] r76 (2 : Int32) (3 : Int32) b3 T76.heap n0 Zl79 (by decide)) e81 (lenOf pd_5 rfl) rfl (by rw [hml]; rfl) (hb hby at_261) (by decide) 0 (Nat.le_of_eq rfl) (by decide) (by decide) (by decide) ?_
          rintro _ T82 L82 X82 ⟨rfl, N82q, e82⟩
          have N82 := Fr.app N81 N82q
          show Goes p e below (T82.setTop (mkF m 264 #[.val (.int p1), .val (.int p2), .val (.int p3), .val (.int p4), .val (.int p5), .val (.int n), .val (.int b0), .val (.int b1), .val (.int b2), .val (.int b3), .val (.ref o45), .val (.int (-1 : Int32)), .val (.int (2 : Int32)), .val (.ref r76), .unset, .unset] [.int (1 : Int32)])) _
          refine g_ifN X82 hx 267 rfl (hb hby at_264) (XT.i0_eq_f (by decide)) ?_
          refine g_iconst X82 hx 268 rfl (1 : Int32) rfl (hb hby at_267) ?_
          refine g_goto X82 hx 272 (hb hby at_268) (by decide) (by decide) ?_
          refine g_istore X82 hx 274 rfl (hb hby at_272) #[.val (.int p1), .val (.int p2), .val (.int p3), .val (.int p4), .val (.int p5), .val (.int n), .val (.int b0), .val (.int b1), .val (.int b2), .val (.int b3), .val (.ref o45), .val (.int (-1 : Int32)), .val (.int (2 : Int32)), .val (.ref r76), .val (.int (1 : Int32)), .unset] rfl ?_
          refine g_aload X82 hx 276 rfl (hb hby at_274) rfl rfl ?_
          have Al83 := (Al48.keep K76 nin0)
          refine g_alen X82 hx hZ 277 rfl (hb hby at_276) e82 Al83 (3 : Int32) rfl ?_
          refine g_iload X82 hx 279 rfl (hb hby at_277) rfl ?_
          refine g_icmpN X82 hx 282 rfl (hb hby at_279) (XT.ii_ne_f nn.symm) ?_
          refine g_aload X82 hx 284 rfl (hb hby at_282) rfl rfl ?_
          refine g_iconst X82 hx 285 rfl (0 : Int32) rfl (hb hby at_284) ?_
          refine g_iload X82 hx 287 rfl (hb hby at_285) rfl ?_
          refine g_callS X82 hx hZ 290 rfl (y := (⟨"com/example/rowgraph/rowgraph/graph/RowsEndPinLaw", "same", "([BIB)Z"⟩ : MethodName)) hown (hw _ (List.mem_of_getElem? (i := 22) rfl)) (hw _ (List.mem_of_getElem? (i := 23) rfl)) (hw _ (List.mem_of_getElem? (i := 20) rfl)) (hw _ (List.mem_of_getElem? (i := 24) rfl)) (by decide) [.ref o45, .int (0 : Int32), .int b0] [] (rmS2 l Z a0 hw [] o45 (0 : Int32) b0 [.int b0, .int b1, .int b2] 0 T76.heap n0 Zl79 Al83 (show (0 : Int32) < (3 : Int32) by decide) rfl rfl) e82 (lenOf pd_6 rfl) rfl (by rw [hml]; rfl) (hb hby at_287) (by decide) 0 (Nat.le_of_eq rfl) (by decide) (by decide) (by decide) ?_
          rintro _ T84 L84 X84 ⟨rfl, N84q, e84⟩
          have N84 := Fr.app N82 N84q
          show Goes p e below (T84.setTop (mkF m 290 #[.val (.int p1), .val (.int p2), .val (.int p3), .val (.int p4), .val (.int p5), .val (.int n), .val (.int b0), .val (.int b1), .val (.int b2), .val (.int b3), .val (.ref o45), .val (.int (-1 : Int32)), .val (.int (2 : Int32)), .val (.ref r76), .val (.int (1 : Int32)), .unset] [.int (1 : Int32)])) _
          refine g_ifN X84 hx 293 rfl (hb hby at_290) (XT.i0_eq_f (by decide)) ?_
          refine g_aload X84 hx 295 rfl (hb hby at_293) rfl rfl ?_
          refine g_iconst X84 hx 296 rfl (1 : Int32) rfl (hb hby at_295) ?_
          refine g_iload X84 hx 298 rfl (hb hby at_296) rfl ?_
          refine g_callS X84 hx hZ 301 rfl (y := (⟨"com/example/rowgraph/rowgraph/graph/RowsEndPinLaw", "same", "([BIB)Z"⟩ : MethodName)) hown (hw _ (List.mem_of_getElem? (i := 22) rfl)) (hw _ (List.mem_of_getElem? (i := 23) rfl)) (hw _ (List.mem_of_getElem? (i := 20) rfl)) (hw _ (List.mem_of_getElem? (i := 24) rfl)) (by decide) [.ref o45, .int (1 : Int32), .int b1] [] (rmS2 l Z a0 hw [] o45 (1 : Int32) b1 [.int b0, .int b1, .int b2] 1 T76.heap n0 Zl79 Al83 (show (1 : Int32) < (3 : Int32) by decide) rfl rfl) e84 (lenOf pd_6 rfl) rfl (by rw [hml]; rfl) (hb hby at_298) (by decide) 0 (Nat.le_of_eq rfl) (by decide) (by decide) (by decide) ?_
          rintro _ T85 L85 X85 ⟨rfl, N85q, e85⟩
          have N85 := Fr.app N84 N85q
          show Goes p e below (T85.setTop (mkF m 301 #[.val (.int p1), .val (.int p2), .val (.int p3), .val (.int p4), .val (.int p5), .val (.int n), .val (.int b0), .val (.int b1), .val (.int b2), .val (.int b3), .val (.ref o45), .val (.int (-1 : Int32)), .val (.int (2 : Int32)), .val (.ref r76), .val (.int (1 : Int32)), .unset] [.int (1 : Int32)])) _
          refine g_ifN X85 hx 304 rfl (hb hby at_301) (XT.i0_eq_f (by decide)) ?_
          refine g_aload X85 hx 306 rfl (hb hby at_304) rfl rfl ?_
          refine g_iconst X85 hx 307 rfl (2 : Int32) rfl (hb hby at_306) ?_
          refine g_iload X85 hx 309 rfl (hb hby at_307) rfl ?_
          refine g_callS X85 hx hZ 312 rfl (y := (⟨"com/example/rowgraph/rowgraph/graph/RowsEndPinLaw", "same", "([BIB)Z"⟩ : MethodName)) hown (hw _ (List.mem_of_getElem? (i := 22) rfl)) (hw _ (List.mem_of_getElem? (i := 23) rfl)) (hw _ (List.mem_of_getElem? (i := 20) rfl)) (hw _ (List.mem_of_getElem? (i := 24) rfl)) (by decide) [.ref o45, .int (2 : Int32), .int b2] [] (rmS2 l Z a0 hw [] o45 (2 : Int32) b2 [.int b0, .int b1, .int b2] 2 T76.heap n0 Zl79 Al83 (show (2 : Int32) < (3 : Int32) by decide) rfl rfl) e85 (lenOf pd_6 rfl) rfl (by rw [hml]; rfl) (hb hby at_309) (by decide) 0 (Nat.le_of_eq rfl) (by decide) (by decide) (by decide) ?_
          rintro _ T86 L86 X86 ⟨rfl, N86q, e86⟩
          have N86 := Fr.app N85 N86q
          show Goes p e below (T86.setTop (mkF m 312 #[.val (.int p1), .val (.int p2), .val (.int p3), .val (.int p4), .val (.int p5), .val (.int n), .val (.int b0), .val (.int b1), .val (.int b2), .val (.int b3), .val (.ref o45), .val (.int (-1 : Int32)), .val (.int (2 : Int32)), .val (.ref r76), .val (.int (1 : Int32)), .unset] [.int (1 : Int32)])) _
          refine g_ifN X86 hx 315 rfl (hb hby at_312) (XT.i0_eq_f (by decide)) ?_
          refine g_aload X86 hx 317 rfl (hb hby at_315) rfl rfl ?_
          refine g_iconst X86 hx 318 rfl (3 : Int32) rfl (hb hby at_317) ?_
          refine g_iload X86 hx 320 rfl (hb hby at_318) rfl ?_
          refine g_callS X86 hx hZ 323 rfl (y := (⟨"com/example/rowgraph/rowgraph/graph/RowsEndPinLaw", "same", "([BIB)Z"⟩ : MethodName)) hown (hw _ (List.mem_of_getElem? (i := 22) rfl)) (hw _ (List.mem_of_getElem? (i := 23) rfl)) (hw _ (List.mem_of_getElem? (i := 20) rfl)) (hw _ (List.mem_of_getElem? (i := 24) rfl)) (by decide) [.ref o45, .int (3 : Int32), .int b3] [] (rmS1 l Z a0 hw [] o45 (3 : Int32) b3 [.int b0, .int b1, .int b2] T76.heap n0 Zl79 Al83 (show ¬ ((3 : Int32) < (3 : Int32)) by decide)) e86 (lenOf pd_6 rfl) rfl (by rw [hml]; rfl) (hb hby at_320) (by decide) 0 (Nat.le_of_eq rfl) (by decide) (by decide) (by decide) ?_
          rintro _ T87 L87 X87 ⟨rfl, N87q, e87⟩
          have N87 := Fr.app N86 N87q
          show Goes p e below (T87.setTop (mkF m 323 #[.val (.int p1), .val (.int p2), .val (.int p3), .val (.int p4), .val (.int p5), .val (.int n), .val (.int b0), .val (.int b1), .val (.int b2), .val (.int b3), .val (.ref o45), .val (.int (-1 : Int32)), .val (.int (2 : Int32)), .val (.ref r76), .val (.int (1 : Int32)), .unset] [.int (1 : Int32)])) _
          refine g_ifN X87 hx 326 rfl (hb hby at_323) (XT.i0_eq_f (by decide)) ?_
          refine g_iconst X87 hx 327 rfl (1 : Int32) rfl (hb hby at_326) ?_
          refine g_goto X87 hx 331 (hb hby at_327) (by decide) (by decide) ?_
          refine g_istore X87 hx 333 rfl (hb hby at_331) #[.val (.int p1), .val (.int p2), .val (.int p3), .val (.int p4), .val (.int p5), .val (.int n), .val (.int b0), .val (.int b1), .val (.int b2), .val (.int b3), .val (.ref o45), .val (.int (-1 : Int32)), .val (.int (2 : Int32)), .val (.ref r76), .val (.int (1 : Int32)), .val (.int (1 : Int32))] rfl ?_
          refine g_iload X87 hx 335 rfl (hb hby at_333) rfl ?_
          refine g_ifN X87 hx 338 rfl (hb hby at_335) (XT.i0_eq_f (by decide)) ?_
          refine g_iload X87 hx 340 rfl (hb hby at_338) rfl ?_
          refine g_ifN X87 hx 343 rfl (hb hby at_340) (XT.i0_eq_f (by decide)) ?_
          refine g_iconst X87 hx 344 rfl (1 : Int32) rfl (hb hby at_343) ?_
          refine g_goto X87 hx 348 (hb hby at_344) (by decide) (by decide) ?_
          exact g_retZ X87 hx hret hlk rfl (hb hby at_348) ⟨rfl, N87⟩ (by decide) (by decide)
      · refine g_icmpY X0 hx 96 (hb hby at_70) (XT.ii_ne_t c3) (by decide) (by decide) ?_
        have nn : n = (4 : Int32) := by
          have q1 : n.toInt ≠ 1 := fun q => c1 (Int32.toInt_inj.mp q)
          have q2 : n.toInt ≠ 2 := fun q => c2 (Int32.toInt_inj.mp q)
          have q3 : n.toInt ≠ 3 := fun q => c3 (Int32.toInt_inj.mp q)
          have e4 : (4 : Int32).toInt = 4 := rfl
          apply Int32.toInt_inj.mp; omega
        refine g_iconst X0 hx 97 rfl (4 : Int32) rfl (hb hby at_96) ?_
        refine g_newarr X0 hx hZ 99 rfl (hw _ (List.mem_of_getElem? (i := 0) rfl)) e0 (hb hby at_97) 4 rfl 4 (Nat.le_refl _) (by decide) (by decide) (by decide) "[B" (by decide) ?_
        intro T88 h88 o88 g88 X88 e88 E88 A88 Ex88
        have ge_o88 : n0 ≤ o88 := Nat.le_trans Z0 (Nat.le_of_eq g88.symm)
        have Al88 : Al Z h88 o88 .byte [.int (0 : Int32), .int (0 : Int32), .int (0 : Int32), .int (0 : Int32)] := A88
        refine g_dup X88 hx 100 rfl (hb hby at_99) rfl ?_
        refine g_iconst X88 hx 101 rfl (0 : Int32) rfl (hb hby at_100) ?_
        refine g_iload X88 hx 103 rfl (hb hby at_101) rfl ?_
        refine g_bastore X88 hx hZ 104 rfl (hb hby at_103) e88 Al88 0 rfl (show 0 < 4 by decide) ?_
        intro T89 h89 X89 e89 W89 B89
        rw [show nar .byte b0 = b0 from nb0] at B89
        have N89 := Fr.snoc X89 N0 ge_o88
        have Al89 : Al Z h89 o88 .byte [.int b0, .int (0 : Int32), .int (0 : Int32), .int (0 : Int32)] := B89
        refine g_dup X89 hx 105 rfl (hb hby at_104) rfl ?_
        refine g_iconst X89 hx 106 rfl (1 : Int32) rfl (hb hby at_105) ?_
        refine g_iload X89 hx 108 rfl (hb hby at_106) rfl ?_
        refine g_bastore X89 hx hZ 109 rfl (hb hby at_108) e89 Al89 1 rfl (show 1 < 4 by decide) ?_
        intro T90 h90 X90 e90 W90 B90
        rw [show nar .byte b1 = b1 from nb1] at B90
        have N90 := Fr.snoc X90 N89 ge_o88
        have Al90 : Al Z h90 o88 .byte [.int b0, .int b1, .int (0 : Int32), .int (0 : Int32)] := B90
        refine g_dup X90 hx 110 rfl (hb hby at_109) rfl ?_
        refine g_iconst X90 hx 111 rfl (2 : Int32) rfl (hb hby at_110) ?_
        refine g_iload X90 hx 113 rfl (hb hby at_111) rfl ?_
        refine g_bastore X90 hx hZ 114 rfl (hb hby at_113) e90 Al90 2 rfl (show 2 < 4 by decide) ?_
        intro T91 h91 X91 e91 W91 B91
        rw [show nar .byte b2 = b2 from nb2] at B91
        have N91 := Fr.snoc X91 N90 ge_o88
        have Al91 : Al Z h91 o88 .byte [.int b0, .int b1, .int b2, .int (0 : Int32)] := B91
        refine g_dup X91 hx 115 rfl (hb hby at_114) rfl ?_
        refine g_iconst X91 hx 116 rfl (3 : Int32) rfl (hb hby at_115) ?_
        refine g_iload X91 hx 118 rfl (hb hby at_116) rfl ?_
        refine g_bastore X91 hx hZ 119 rfl (hb hby at_118) e91 Al91 3 rfl (show 3 < 4 by decide) ?_
        intro T92 h92 X92 e92 W92 B92
        rw [show nar .byte b3 = b3 from nb3] at B92
        have N92 := Fr.snoc X92 N91 ge_o88
        have Al92 : Al Z h92 o88 .byte [.int b0, .int b1, .int b2, .int b3] := B92
        refine g_astore X92 hx 121 rfl (hb hby at_119) rfl #[.val (.int p1), .val (.int p2), .val (.int p3), .val (.int p4), .val (.int p5), .val (.int n), .val (.int b0), .val (.int b1), .val (.int b2), .val (.int b3), .val (.ref o88), .unset, .unset, .unset, .unset, .unset] rfl ?_
        refine g_iconst X92 hx 122 rfl (-1 : Int32) rfl (hb hby at_121) ?_
        refine g_istore X92 hx 124 rfl (hb hby at_122) #[.val (.int p1), .val (.int p2), .val (.int p3), .val (.int p4), .val (.int p5), .val (.int n), .val (.int b0), .val (.int b1), .val (.int b2), .val (.int b3), .val (.ref o88), .val (.int (-1 : Int32)), .unset, .unset, .unset, .unset] rfl ?_
        refine g_iload X92 hx 126 rfl (hb hby at_124) rfl ?_
        refine g_iconst X92 hx 127 rfl (4 : Int32) rfl (hb hby at_126) ?_
        refine g_icmpN X92 hx 130 rfl (hb hby at_127) (XT.ii_lt_f (by rw [nn]; decide)) ?_
        refine g_iload X92 hx 132 rfl (hb hby at_130) rfl ?_
        refine g_iload X92 hx 134 rfl (hb hby at_132) rfl ?_
        by_cases m3 : b3 = (-1 : Int32)
        · refine g_icmpY X92 hx 143 (hb hby at_134) (XT.ii_eq_t m3) (by decide) (by decide) ?_
          refine g_iload X92 hx 145 rfl (hb hby at_143) rfl ?_
          refine g_iconst X92 hx 146 rfl (3 : Int32) rfl (hb hby at_145) ?_
          refine g_icmpN X92 hx 149 rfl (hb hby at_146) (XT.ii_lt_f (by rw [nn]; decide)) ?_
          refine g_iload X92 hx 151 rfl (hb hby at_149) rfl ?_
          refine g_iload X92 hx 153 rfl (hb hby at_151) rfl ?_
          by_cases m2 : b2 = (-1 : Int32)
          · refine g_icmpY X92 hx 162 (hb hby at_153) (XT.ii_eq_t m2) (by decide) (by decide) ?_
            refine g_iload X92 hx 164 rfl (hb hby at_162) rfl ?_
            refine g_iconst X92 hx 165 rfl (2 : Int32) rfl (hb hby at_164) ?_
            refine g_icmpN X92 hx 168 rfl (hb hby at_165) (XT.ii_lt_f (by rw [nn]; decide)) ?_
            refine g_iload X92 hx 170 rfl (hb hby at_168) rfl ?_
            refine g_iload X92 hx 172 rfl (hb hby at_170) rfl ?_
            by_cases m1 : b1 = (-1 : Int32)
            · refine g_icmpY X92 hx 181 (hb hby at_172) (XT.ii_eq_t m1) (by decide) (by decide) ?_
              refine g_iload X92 hx 183 rfl (hb hby at_181) rfl ?_
              refine g_iload X92 hx 185 rfl (hb hby at_183) rfl ?_
              by_cases m0 : b0 = (-1 : Int32)
              · refine g_icmpY X92 hx 194 (hb hby at_185) (XT.ii_eq_t m0) (by decide) (by decide) ?_
                refine g_iconst X92 hx 195 rfl (1 : Int32) rfl (hb hby at_194) ?_
                exact g_retZ X92 hx hret hlk rfl (hb hby at_195) ⟨rfl, N92⟩ (by decide) (by decide)
              · refine g_icmpN X92 hx 188 rfl (hb hby at_185) (XT.ii_eq_f m0) ?_
                refine g_iconst X92 hx 189 rfl (0 : Int32) rfl (hb hby at_188) ?_
                refine g_istore X92 hx 191 rfl (hb hby at_189) #[.val (.int p1), .val (.int p2), .val (.int p3), .val (.int p4), .val (.int p5), .val (.int n), .val (.int b0), .val (.int b1), .val (.int b2), .val (.int b3), .val (.ref o88), .val (.int (-1 : Int32)), .val (.int (0 : Int32)), .unset, .unset, .unset] rfl ?_
                refine g_goto X92 hx 196 (hb hby at_191) (by decide) (by decide) ?_
                refine g_aload X92 hx 198 rfl (hb hby at_196) rfl rfl ?_
                have hall : ∀ i, 0 < i → i < ([.int b0, .int b1, .int b2, .int b3] : List Value).length → ([.int b0, .int b1, .int b2, .int b3] : List Value)[i]? = some (.int (-1 : Int32)) := by
                  intro i h1 h2
                  simp only [List.length_cons, List.length_nil] at h2
                  match i, h1, h2 with
                  | 1, _, _ => exact congrArg (fun z => some (Value.int z)) m1
                  | 2, _, _ => exact congrArg (fun z => some (Value.int z)) m2
                  | 3, _, _ => exact congrArg (fun z => some (Value.int z)) m3
                have hfit : ∀ v ∈ ([.int b0, .int b1, .int b2, .int b3] : List Value), fits .byte v = true := by
                  intro v hv
                  simp only [List.mem_cons, List.not_mem_nil, or_false] at hv
                  rcases hv with rfl | rfl | rfl | rfl
                  · exact fb0
                  · exact fb1
                  · exact fb2
                  · exact fb3
                have Exa93 := ((((Ex88.wr W89).wr W90).wr W91).wr W92)
                have Zl95 : n0 ≤ h92.size := (Nat.le_trans (Nat.le_trans (Nat.le_trans (Nat.le_trans (Nat.le_trans Z0 E88.1) (Nat.le_of_eq W89.size.symm)) (Nat.le_of_eq W90.size.symm)) (Nat.le_of_eq W91.size.symm)) (Nat.le_of_eq W92.size.symm))
                refine g_callS X92 hx hZ 201 rfl (y := (⟨"com/example/rowgraph/rowgraph/graph/Rows", "end", "([B)[B"⟩ : MethodName)) hown (hw _ (List.mem_of_getElem? (i := 1) rfl)) (hw _ (List.mem_of_getElem? (i := 2) rfl)) (hw _ (List.mem_of_getElem? (i := 3) rfl)) (hw _ (List.mem_of_getElem? (i := 4) rfl)) (by decide) [.ref o88] [] (rmE l Z a0 hw [] o88 [.int b0, .int b1, .int b2, .int b3] 0 b0 h92 n0 Zl95 Al92 Exa93 rfl m0 hall (show 4 ≤ 4 by decide) hfit) e92 (lenOf pd_4 rfl) rfl (by rw [hml]; rfl) (hb hby at_198) (by decide) 0 (Nat.le_of_eq rfl) (by decide) (by decide) (by decide) ?_
                rintro _ T94 L94 X94 ⟨r94, rfl, N94q, K94, Ar94⟩
                have N94 := Fr.app N92 N94q
                show Goes p e below (T94.setTop (mkF m 201 #[.val (.int p1), .val (.int p2), .val (.int p3), .val (.int p4), .val (.int p5), .val (.int n), .val (.int b0), .val (.int b1), .val (.int b2), .val (.int b3), .val (.ref o88), .val (.int (-1 : Int32)), .val (.int (0 : Int32)), .unset, .unset, .unset] [.ref r94])) _
                have Alr94 : Al Z T94.heap r94 .byte [.int ((b0 + (1 : Int32)).toInt8.toInt32)] := Ar94
                refine g_astore X94 hx 203 rfl (hb hby at_201) rfl #[.val (.int p1), .val (.int p2), .val (.int p3), .val (.int p4), .val (.int p5), .val (.int n), .val (.int b0), .val (.int b1), .val (.int b2), .val (.int b3), .val (.ref o88), .val (.int (-1 : Int32)), .val (.int (0 : Int32)), .val (.ref r94), .unset, .unset] rfl ?_
                refine g_aload X94 hx 205 rfl (hb hby at_203) rfl rfl ?_
                refine g_alen X94 hx hZ 206 rfl (hb hby at_205) rfl Alr94 (1 : Int32) rfl ?_
                refine g_iload X94 hx 208 rfl (hb hby at_206) rfl ?_
                refine g_iconst X94 hx 209 rfl (1 : Int32) rfl (hb hby at_208) ?_
                refine g_iadd X94 hx 210 rfl (hb hby at_209) ?_
                show Goes p e below (T94.setTop (mkF m 210 #[.val (.int p1), .val (.int p2), .val (.int p3), .val (.int p4), .val (.int p5), .val (.int n), .val (.int b0), .val (.int b1), .val (.int b2), .val (.int b3), .val (.ref o88), .val (.int (-1 : Int32)), .val (.int (0 : Int32)), .val (.ref r94), .unset, .unset] [.int (1 : Int32), .int (1 : Int32)])) _
                refine g_icmpY X94 hx 215 (hb hby at_210) (XT.ii_eq_t rfl) (by decide) (by decide) ?_
                refine g_aload X94 hx 217 rfl (hb hby at_215) rfl rfl ?_
                refine g_iload X94 hx 219 rfl (hb hby at_217) rfl ?_
                refine g_iconst X94 hx 220 rfl (0 : Int32) rfl (hb hby at_219) ?_
                refine g_iload X94 hx 222 rfl (hb hby at_220) rfl ?_
                have Zl97 : n0 ≤ T94.heap.size := (Nat.le_trans Zl95 K94.1)
                refine g_callS X94 hx hZ 225 rfl (y := (⟨"com/example/rowgraph/rowgraph/graph/RowsEndPinLaw", "at", "([BIIB)Z"⟩ : MethodName)) hown (hw _ (List.mem_of_getElem? (i := 18) rfl)) (hw _ (List.mem_of_getElem? (i := 19) rfl)) (hw _ (List.mem_of_getElem? (i := 20) rfl)) (hw _ (List.mem_of_getElem? (i := 21) rfl)) (by decide) [.ref r94, .int (0 : Int32), .int (0 : Int32), .int b0] [] (rmA3 l Z a0 hw [] r94 (0 : Int32) (0 : Int32) b0 [.int ((b0 + (1 : Int32)).toInt8.toInt32)] 0 T94.heap n0 Zl97 Alr94 (by decide) (by decide) rfl rfl) rfl (lenOf pd_5 rfl) rfl (by rw [hml]; rfl) (hb hby at_222) (by decide) 0 (Nat.le_of_eq rfl) (by decide) (by decide) (by decide) ?_
                rintro _ T96 L96 X96 ⟨rfl, N96q, e96⟩
                have N96 := Fr.app N94 N96q
                show Goes p e below (T96.setTop (mkF m 225 #[.val (.int p1), .val (.int p2), .val (.int p3), .val (.int p4), .val (.int p5), .val (.int n), .val (.int b0), .val (.int b1), .val (.int b2), .val (.int b3), .val (.ref o88), .val (.int (-1 : Int32)), .val (.int (0 : Int32)), .val (.ref r94), .unset, .unset] [.int (1 : Int32)])) _
                refine g_ifN X96 hx 228 rfl (hb hby at_225) (XT.i0_eq_f (by decide)) ?_
                refine g_aload X96 hx 230 rfl (hb hby at_228) rfl rfl ?_
                refine g_iload X96 hx 232 rfl (hb hby at_230) rfl ?_
                refine g_iconst X96 hx 233 rfl (1 : Int32) rfl (hb hby at_232) ?_
                refine g_iload X96 hx 235 rfl (hb hby at_233) rfl ?_
                refine g_callS X96 hx hZ 238 rfl (y := (⟨"com/example/rowgraph/rowgraph/graph/RowsEndPinLaw", "at", "([BIIB)Z"⟩ : MethodName)) hown (hw _ (List.mem_of_getElem? (i := 18) rfl)) (hw _ (List.mem_of_getElem? (i := 19) rfl)) (hw _ (List.mem_of_getElem? (i := 20) rfl)) (hw _ (List.mem_of_getElem? (i := 21) rfl)) (by decide) [.ref r94, .int (0 : Int32), .int (1 : Int32), .int b1] [] (rmA1 l Z a0 hw [] r94 (0 : Int32) (1 : Int32) b1 T94.heap n0 Zl97 (by decide)) e96 (lenOf pd_5 rfl) rfl (by rw [hml]; rfl) (hb hby at_235) (by decide) 0 (Nat.le_of_eq rfl) (by decide) (by decide) (by decide) ?_
                rintro _ T98 L98 X98 ⟨rfl, N98q, e98⟩
                have N98 := Fr.app N96 N98q
                show Goes p e below (T98.setTop (mkF m 238 #[.val (.int p1), .val (.int p2), .val (.int p3), .val (.int p4), .val (.int p5), .val (.int n), .val (.int b0), .val (.int b1), .val (.int b2), .val (.int b3), .val (.ref o88), .val (.int (-1 : Int32)), .val (.int (0 : Int32)), .val (.ref r94), .unset, .unset] [.int (1 : Int32)])) _
                refine g_ifN X98 hx 241 rfl (hb hby at_238) (XT.i0_eq_f (by decide)) ?_
                refine g_aload X98 hx 243 rfl (hb hby at_241) rfl rfl ?_
                refine g_iload X98 hx 245 rfl (hb hby at_243) rfl ?_
                refine g_iconst X98 hx 246 rfl (2 : Int32) rfl (hb hby at_245) ?_
                refine g_iload X98 hx 248 rfl (hb hby at_246) rfl ?_
                refine g_callS X98 hx hZ 251 rfl (y := (⟨"com/example/rowgraph/rowgraph/graph/RowsEndPinLaw", "at", "([BIIB)Z"⟩ : MethodName)) hown (hw _ (List.mem_of_getElem? (i := 18) rfl)) (hw _ (List.mem_of_getElem? (i := 19) rfl)) (hw _ (List.mem_of_getElem? (i := 20) rfl)) (hw _ (List.mem_of_getElem? (i := 21) rfl)) (by decide) [.ref r94, .int (0 : Int32), .int (2 : Int32), .int b2] [] (rmA1 l Z a0 hw [] r94 (0 : Int32) (2 : Int32) b2 T94.heap n0 Zl97 (by decide)) e98 (lenOf pd_5 rfl) rfl (by rw [hml]; rfl) (hb hby at_248) (by decide) 0 (Nat.le_of_eq rfl) (by decide) (by decide) (by decide) ?_
                rintro _ T99 L99 X99 ⟨rfl, N99q, e99⟩
                have N99 := Fr.app N98 N99q
                show Goes p e below (T99.setTop (mkF m 251 #[.val (.int p1), .val (.int p2), .val (.int p3), .val (.int p4), .val (.int p5), .val (.int n), .val (.int b0), .val (.int b1), .val (.int b2), .val (.int b3), .val (.ref o88), .val (.int (-1 : Int32)), .val (.int (0 : Int32)), .val (.ref r94), .unset, .unset] [.int (1 : Int32)])) _
                refine g_ifN X99 hx 254 rfl (hb hby at_251) (XT.i0_eq_f (by decide)) ?_
                refine g_aload X99 hx 256 rfl (hb hby at_254) rfl rfl ?_
                refine g_iload X99 hx 258 rfl (hb hby at_256) rfl ?_
                refine g_iconst X99 hx 259 rfl (3 : Int32) rfl (hb hby at_258) ?_
                refine g_iload X99 hx 261 rfl (hb hby at_259) rfl ?_
                refine g_callS X99 hx hZ 264 rfl (y := (⟨"com/example/rowgraph/rowgraph/graph/RowsEndPinLaw", "at", "([BIIB)Z"⟩ : MethodName)) hown (hw _ (List.mem_of_getElem? (i := 18) rfl)) (hw _ (List.mem_of_getElem? (i := 19) rfl)) (hw _ (List.mem_of_getElem? (i := 20) rfl)) (hw _ (List.mem_of_getElem? (i := 21) rfl)) (by decide) [.ref r94, .int (0 : Int32), .int (3 : Int32), .int b3] [] (rmA1 l Z a0 hw [] r94 (0 : Int32) (3 : Int32) b3 T94.heap n0 Zl97 (by decide)) e99 (lenOf pd_5 rfl) rfl (by rw [hml]; rfl) (hb hby at_261) (by decide) 0 (Nat.le_of_eq rfl) (by decide) (by decide) (by decide) ?_
                rintro _ T100 L100 X100 ⟨rfl, N100q, e100⟩
                have N100 := Fr.app N99 N100q
                show Goes p e below (T100.setTop (mkF m 264 #[.val (.int p1), .val (.int p2), .val (.int p3), .val (.int p4), .val (.int p5), .val (.int n), .val (.int b0), .val (.int b1), .val (.int b2), .val (.int b3), .val (.ref o88), .val (.int (-1 : Int32)), .val (.int (0 : Int32)), .val (.ref r94), .unset, .unset] [.int (1 : Int32)])) _
                refine g_ifN X100 hx 267 rfl (hb hby at_264) (XT.i0_eq_f (by decide)) ?_
                refine g_iconst X100 hx 268 rfl (1 : Int32) rfl (hb hby at_267) ?_
                refine g_goto X100 hx 272 (hb hby at_268) (by decide) (by decide) ?_
                refine g_istore X100 hx 274 rfl (hb hby at_272) #[.val (.int p1), .val (.int p2), .val (.int p3), .val (.int p4), .val (.int p5), .val (.int n), .val (.int b0), .val (.int b1), .val (.int b2), .val (.int b3), .val (.ref o88), .val (.int (-1 : Int32)), .val (.int (0 : Int32)), .val (.ref r94), .val (.int (1 : Int32)), .unset] rfl ?_
                refine g_aload X100 hx 276 rfl (hb hby at_274) rfl rfl ?_
                have Al101 := (Al92.keep K94 nin0)
                refine g_alen X100 hx hZ 277 rfl (hb hby at_276) e100 Al101 (4 : Int32) rfl ?_
                refine g_iload X100 hx 279 rfl (hb hby at_277) rfl ?_
                refine g_icmpN X100 hx 282 rfl (hb hby at_279) (XT.ii_ne_f nn.symm) ?_
                refine g_aload X100 hx 284 rfl (hb hby at_282) rfl rfl ?_
                refine g_iconst X100 hx 285 rfl (0 : Int32) rfl (hb hby at_284) ?_
                refine g_iload X100 hx 287 rfl (hb hby at_285) rfl ?_
                refine g_callS X100 hx hZ 290 rfl (y := (⟨"com/example/rowgraph/rowgraph/graph/RowsEndPinLaw", "same", "([BIB)Z"⟩ : MethodName)) hown (hw _ (List.mem_of_getElem? (i := 22) rfl)) (hw _ (List.mem_of_getElem? (i := 23) rfl)) (hw _ (List.mem_of_getElem? (i := 20) rfl)) (hw _ (List.mem_of_getElem? (i := 24) rfl)) (by decide) [.ref o88, .int (0 : Int32), .int b0] [] (rmS2 l Z a0 hw [] o88 (0 : Int32) b0 [.int b0, .int b1, .int b2, .int b3] 0 T94.heap n0 Zl97 Al101 (show (0 : Int32) < (4 : Int32) by decide) rfl rfl) e100 (lenOf pd_6 rfl) rfl (by rw [hml]; rfl) (hb hby at_287) (by decide) 0 (Nat.le_of_eq rfl) (by decide) (by decide) (by decide) ?_
                rintro _ T102 L102 X102 ⟨rfl, N102q, e102⟩
                have N102 := Fr.app N100 N102q
                show Goes p e below (T102.setTop (mkF m 290 #[.val (.int p1), .val (.int p2), .val (.int p3), .val (.int p4), .val (.int p5), .val (.int n), .val (.int b0), .val (.int b1), .val (.int b2), .val (.int b3), .val (.ref o88), .val (.int (-1 : Int32)), .val (.int (0 : Int32)), .val (.ref r94), .val (.int (1 : Int32)), .unset] [.int (1 : Int32)])) _
                refine g_ifN X102 hx 293 rfl (hb hby at_290) (XT.i0_eq_f (by decide)) ?_
                refine g_aload X102 hx 295 rfl (hb hby at_293) rfl rfl ?_
                refine g_iconst X102 hx 296 rfl (1 : Int32) rfl (hb hby at_295) ?_
                refine g_iload X102 hx 298 rfl (hb hby at_296) rfl ?_
                refine g_callS X102 hx hZ 301 rfl (y := (⟨"com/example/rowgraph/rowgraph/graph/RowsEndPinLaw", "same", "([BIB)Z"⟩ : MethodName)) hown (hw _ (List.mem_of_getElem? (i := 22) rfl)) (hw _ (List.mem_of_getElem? (i := 23) rfl)) (hw _ (List.mem_of_getElem? (i := 20) rfl)) (hw _ (List.mem_of_getElem? (i := 24) rfl)) (by decide) [.ref o88, .int (1 : Int32), .int b1] [] (rmS2 l Z a0 hw [] o88 (1 : Int32) b1 [.int b0, .int b1, .int b2, .int b3] 1 T94.heap n0 Zl97 Al101 (show (1 : Int32) < (4 : Int32) by decide) rfl rfl) e102 (lenOf pd_6 rfl) rfl (by rw [hml]; rfl) (hb hby at_298) (by decide) 0 (Nat.le_of_eq rfl) (by decide) (by decide) (by decide) ?_
                rintro _ T103 L103 X103 ⟨rfl, N103q, e103⟩
                have N103 := Fr.app N102 N103q
                show Goes p e below (T103.setTop (mkF m 301 #[.val (.int p1), .val (.int p2), .val (.int p3), .val (.int p4), .val (.int p5), .val (.int n), .val (.int b0), .val (.int b1), .val (.int b2), .val (.int b3), .val (.ref o88), .val (.int (-1 : Int32)), .val (.int (0 : Int32)), .val (.ref r94), .val (.int (1 : Int32)), .unset] [.int (1 : Int32)])) _
                refine g_ifN X103 hx 304 rfl (hb hby at_301) (XT.i0_eq_f (by decide)) ?_
                refine g_aload X103 hx 306 rfl (hb hby at_304) rfl rfl ?_
                refine g_iconst X103 hx 307 rfl (2 : Int32) rfl (hb hby at_306) ?_
                refine g_iload X103 hx 309 rfl (hb hby at_307) rfl ?_
                refine g_callS X103 hx hZ 312 rfl (y := (⟨"com/example/rowgraph/rowgraph/graph/RowsEndPinLaw", "same", "([BIB)Z"⟩ : MethodName)) hown (hw _ (List.mem_of_getElem? (i := 22) rfl)) (hw _ (List.mem_of_getElem? (i := 23) rfl)) (hw _ (List.mem_of_getElem? (i := 20) rfl)) (hw _ (List.mem_of_getElem? (i := 24) rfl)) (by decide) [.ref o88, .int (2 : Int32), .int b2] [] (rmS2 l Z a0 hw [] o88 (2 : Int32) b2 [.int b0, .int b1, .int b2, .int b3] 2 T94.heap n0 Zl97 Al101 (show (2 : Int32) < (4 : Int32) by decide) rfl rfl) e103 (lenOf pd_6 rfl) rfl (by rw [hml]; rfl) (hb hby at_309) (by decide) 0 (Nat.le_of_eq rfl) (by decide) (by decide) (by decide) ?_
                rintro _ T104 L104 X104 ⟨rfl, N104q, e104⟩
                have N104 := Fr.app N103 N104q
                show Goes p e below (T104.setTop (mkF m 312 #[.val (.int p1), .val (.int p2), .val (.int p3), .val (.int p4), .val (.int p5), .val (.int n), .val (.int b0), .val (.int b1), .val (.int b2), .val (.int b3), .val (.ref o88), .val (.int (-1 : Int32)), .val (.int (0 : Int32)), .val (.ref r94), .val (.int (1 : Int32)), .unset] [.int (1 : Int32)])) _
                refine g_ifN X104 hx 315 rfl (hb hby at_312) (XT.i0_eq_f (by decide)) ?_
                refine g_aload X104 hx 317 rfl (hb hby at_315) rfl rfl ?_
                refine g_iconst X104 hx 318 rfl (3 : Int32) rfl (hb hby at_317) ?_
                refine g_iload X104 hx 320 rfl (hb hby at_318) rfl ?_
                refine g_callS X104 hx hZ 323 rfl (y := (⟨"com/example/rowgraph/rowgraph/graph/RowsEndPinLaw", "same", "([BIB)Z"⟩ : MethodName)) hown (hw _ (List.mem_of_getElem? (i := 22) rfl)) (hw _ (List.mem_of_getElem? (i := 23) rfl)) (hw _ (List.mem_of_getElem? (i := 20) rfl)) (hw _ (List.mem_of_getElem? (i := 24) rfl)) (by decide) [.ref o88, .int (3 : Int32), .int b3] [] (rmS2 l Z a0 hw [] o88 (3 : Int32) b3 [.int b0, .int b1, .int b2, .int b3] 3 T94.heap n0 Zl97 Al101 (show (3 : Int32) < (4 : Int32) by decide) rfl rfl) e104 (lenOf pd_6 rfl) rfl (by rw [hml]; rfl) (hb hby at_320) (by decide) 0 (Nat.le_of_eq rfl) (by decide) (by decide) (by decide) ?_
                rintro _ T105 L105 X105 ⟨rfl, N105q, e105⟩
                have N105 := Fr.app N104 N105q
                show Goes p e below (T105.setTop (mkF m 323 #[.val (.int p1), .val (.int p2), .val (.int p3), .val (.int p4), .val (.int p5), .val (.int n), .val (.int b0), .val (.int b1), .val (.int b2), .val (.int b3), .val (.ref o88), .val (.int (-1 : Int32)), .val (.int (0 : Int32)), .val (.ref r94), .val (.int (1 : Int32)), .unset] [.int (1 : Int32)])) _
                refine g_ifN X105 hx 326 rfl (hb hby at_323) (XT.i0_eq_f (by decide)) ?_
                refine g_iconst X105 hx 327 rfl (1 : Int32) rfl (hb hby at_326) ?_
                refine g_goto X105 hx 331 (hb hby at_327) (by decide) (by decide) ?_
                refine g_istore X105 hx 333 rfl (hb hby at_331) #[.val (.int p1), .val (.int p2), .val (.int p3), .val (.int p4), .val (.int p5), .val (.int n), .val (.int b0), .val (.int b1), .val (.int b2), .val (.int b3), .val (.ref o88), .val (.int (-1 : Int32)), .val (.int (0 : Int32)), .val (.ref r94), .val (.int (1 : Int32)), .val (.int (1 : Int32))] rfl ?_
                refine g_iload X105 hx 335 rfl (hb hby at_333) rfl ?_
                refine g_ifN X105 hx 338 rfl (hb hby at_335) (XT.i0_eq_f (by decide)) ?_
                refine g_iload X105 hx 340 rfl (hb hby at_338) rfl ?_
                refine g_ifN X105 hx 343 rfl (hb hby at_340) (XT.i0_eq_f (by decide)) ?_
                refine g_iconst X105 hx 344 rfl (1 : Int32) rfl (hb hby at_343) ?_
                refine g_goto X105 hx 348 (hb hby at_344) (by decide) (by decide) ?_
                exact g_retZ X105 hx hret hlk rfl (hb hby at_348) ⟨rfl, N105⟩ (by decide) (by decide)
            · refine g_icmpN X92 hx 175 rfl (hb hby at_172) (XT.ii_eq_f m1) ?_
              refine g_iconst X92 hx 176 rfl (1 : Int32) rfl (hb hby at_175) ?_
              refine g_istore X92 hx 178 rfl (hb hby at_176) #[.val (.int p1), .val (.int p2), .val (.int p3), .val (.int p4), .val (.int p5), .val (.int n), .val (.int b0), .val (.int b1), .val (.int b2), .val (.int b3), .val (.ref o88), .val (.int (-1 : Int32)), .val (.int (1 : Int32)), .unset, .unset, .unset] rfl ?_
              refine g_goto X92 hx 196 (hb hby at_178) (by decide) (by decide) ?_
              refine g_aload X92 hx 198 rfl (hb hby at_196) rfl rfl ?_
              have hall : ∀ i, 1 < i → i < ([.int b0, .int b1, .int b2, .int b3] : List Value).length → ([.int b0, .int b1, .int b2, .int b3] : List Value)[i]? = some (.int (-1 : Int32)) := by
                intro i h1 h2
                simp only [List.length_cons, List.length_nil] at h2
                match i, h1, h2 with
                | 2, _, _ => exact congrArg (fun z => some (Value.int z)) m2
                | 3, _, _ => exact congrArg (fun z => some (Value.int z)) m3
              have hfit : ∀ v ∈ ([.int b0, .int b1, .int b2, .int b3] : List Value), fits .byte v = true := by
                intro v hv
                simp only [List.mem_cons, List.not_mem_nil, or_false] at hv
                rcases hv with rfl | rfl | rfl | rfl
                · exact fb0
                · exact fb1
                · exact fb2
                · exact fb3
              have Exa106 := ((((Ex88.wr W89).wr W90).wr W91).wr W92)
              have Zl108 : n0 ≤ h92.size := (Nat.le_trans (Nat.le_trans (Nat.le_trans (Nat.le_trans (Nat.le_trans Z0 E88.1) (Nat.le_of_eq W89.size.symm)) (Nat.le_of_eq W90.size.symm)) (Nat.le_of_eq W91.size.symm)) (Nat.le_of_eq W92.size.symm))
              refine g_callS X92 hx hZ 201 rfl (y := (⟨"com/example/rowgraph/rowgraph/graph/Rows", "end", "([B)[B"⟩ : MethodName)) hown (hw _ (List.mem_of_getElem? (i := 1) rfl)) (hw _ (List.mem_of_getElem? (i := 2) rfl)) (hw _ (List.mem_of_getElem? (i := 3) rfl)) (hw _ (List.mem_of_getElem? (i := 4) rfl)) (by decide) [.ref o88] [] (rmE l Z a0 hw [] o88 [.int b0, .int b1, .int b2, .int b3] 1 b1 h92 n0 Zl108 Al92 Exa106 rfl m1 hall (show 4 ≤ 4 by decide) hfit) e92 (lenOf pd_4 rfl) rfl (by rw [hml]; rfl) (hb hby at_198) (by decide) 0 (Nat.le_of_eq rfl) (by decide) (by decide) (by decide) ?_
              rintro _ T107 L107 X107 ⟨r107, rfl, N107q, K107, Ar107⟩
              have N107 := Fr.app N92 N107q
              show Goes p e below (T107.setTop (mkF m 201 #[.val (.int p1), .val (.int p2), .val (.int p3), .val (.int p4), .val (.int p5), .val (.int n), .val (.int b0), .val (.int b1), .val (.int b2), .val (.int b3), .val (.ref o88), .val (.int (-1 : Int32)), .val (.int (1 : Int32)), .unset, .unset, .unset] [.ref r107])) _
              have Alr107 : Al Z T107.heap r107 .byte [.int b0, .int ((b1 + (1 : Int32)).toInt8.toInt32)] := Ar107
              refine g_astore X107 hx 203 rfl (hb hby at_201) rfl #[.val (.int p1), .val (.int p2), .val (.int p3), .val (.int p4), .val (.int p5), .val (.int n), .val (.int b0), .val (.int b1), .val (.int b2), .val (.int b3), .val (.ref o88), .val (.int (-1 : Int32)), .val (.int (1 : Int32)), .val (.ref r107), .unset, .unset] rfl ?_
              refine g_aload X107 hx 205 rfl (hb hby at_203) rfl rfl ?_
              refine g_alen X107 hx hZ 206 rfl (hb hby at_205) rfl Alr107 (2 : Int32) rfl ?_
              refine g_iload X107 hx 208 rfl (hb hby at_206) rfl ?_
              refine g_iconst X107 hx 209 rfl (1 : Int32) rfl (hb hby at_208) ?_
              refine g_iadd X107 hx 210 rfl (hb hby at_209) ?_
              show Goes p e below (T107.setTop (mkF m 210 #[.val (.int p1), .val (.int p2), .val (.int p3), .val (.int p4), .val (.int p5), .val (.int n), .val (.int b0), .val (.int b1), .val (.int b2), .val (.int b3), .val (.ref o88), .val (.int (-1 : Int32)), .val (.int (1 : Int32)), .val (.ref r107), .unset, .unset] [.int (2 : Int32), .int (2 : Int32)])) _
              refine g_icmpY X107 hx 215 (hb hby at_210) (XT.ii_eq_t rfl) (by decide) (by decide) ?_
              refine g_aload X107 hx 217 rfl (hb hby at_215) rfl rfl ?_
              refine g_iload X107 hx 219 rfl (hb hby at_217) rfl ?_
              refine g_iconst X107 hx 220 rfl (0 : Int32) rfl (hb hby at_219) ?_
              refine g_iload X107 hx 222 rfl (hb hby at_220) rfl ?_
              have Zl110 : n0 ≤ T107.heap.size := (Nat.le_trans Zl108 K107.1)
              refine g_callS X107 hx hZ 225 rfl (y := (⟨"com/example/rowgraph/rowgraph/graph/RowsEndPinLaw", "at", "([BIIB)Z"⟩ : MethodName)) hown (hw _ (List.mem_of_getElem? (i := 18) rfl)) (hw _ (List.mem_of_getElem? (i := 19) rfl)) (hw _ (List.mem_of_getElem? (i := 20) rfl)) (hw _ (List.mem_of_getElem? (i := 21) rfl)) (by decide) [.ref r107, .int (1 : Int32), .int (0 : Int32), .int b0] [] (rmA2 l Z a0 hw [] r107 (1 : Int32) (0 : Int32) b0 [.int b0, .int ((b1 + (1 : Int32)).toInt8.toInt32)] 0 T107.heap n0 Zl110 Alr107 (by decide) (by decide) rfl rfl) rfl (lenOf pd_5 rfl) rfl (by rw [hml]; rfl) (hb hby at_222) (by decide) 0 (Nat.le_of_eq rfl) (by decide) (by decide) (by decide) ?_
              rintro _ T109 L109 X109 ⟨rfl, N109q, e109⟩
              have N109 := Fr.app N107 N109q
              show Goes p e below (T109.setTop (mkF m 225 #[.val (.int p1), .val (.int p2), .val (.int p3), .val (.int p4), .val (.int p5), .val (.int n), .val (.int b0), .val (.int b1), .val (.int b2), .val (.int b3), .val (.ref o88), .val (.int (-1 : Int32)), .val (.int (1 : Int32)), .val (.ref r107), .unset, .unset] [.int (1 : Int32)])) _
              refine g_ifN X109 hx 228 rfl (hb hby at_225) (XT.i0_eq_f (by decide)) ?_
              refine g_aload X109 hx 230 rfl (hb hby at_228) rfl rfl ?_
              refine g_iload X109 hx 232 rfl (hb hby at_230) rfl ?_
              refine g_iconst X109 hx 233 rfl (1 : Int32) rfl (hb hby at_232) ?_
              refine g_iload X109 hx 235 rfl (hb hby at_233) rfl ?_
              refine g_callS X109 hx hZ 238 rfl (y := (⟨"com/example/rowgraph/rowgraph/graph/RowsEndPinLaw", "at", "([BIIB)Z"⟩ : MethodName)) hown (hw _ (List.mem_of_getElem? (i := 18) rfl)) (hw _ (List.mem_of_getElem? (i := 19) rfl)) (hw _ (List.mem_of_getElem? (i := 20) rfl)) (hw _ (List.mem_of_getElem? (i := 21) rfl)) (by decide) [.ref r107, .int (1 : Int32), .int (1 : Int32), .int b1] [] (rmA3 l Z a0 hw [] r107 (1 : Int32) (1 : Int32) b1 [.int b0, .int ((b1 + (1 : Int32)).toInt8.toInt32)] 1 T107.heap n0 Zl110 Alr107 (by decide) (by decide) rfl rfl) e109 (lenOf pd_5 rfl) rfl (by rw [hml]; rfl) (hb hby at_235) (by decide) 0 (Nat.le_of_eq rfl) (by decide) (by decide) (by decide) ?_
              rintro _ T111 L111 X111 ⟨rfl, N111q, e111⟩
              have N111 := Fr.app N109 N111q
              show Goes p e below (T111.setTop (mkF m 238 #[.val (.int p1), .val (.int p2), .val (.int p3), .val (.int p4), .val (.int p5), .val (.int n), .val (.int b0), .val (.int b1), .val (.int b2), .val (.int b3), .val (.ref o88), .val (.int (-1 : Int32)), .val (.int (1 : Int32)), .val (.ref r107), .unset, .unset] [.int (1 : Int32)])) _
              refine g_ifN X111 hx 241 rfl (hb hby at_238) (XT.i0_eq_f (by decide)) ?_
              refine g_aload X111 hx 243 rfl (hb hby at_241) rfl rfl ?_
              refine g_iload X111 hx 245 rfl (hb hby at_243) rfl ?_
              refine g_iconst X111 hx 246 rfl (2 : Int32) rfl (hb hby at_245) ?_
              refine g_iload X111 hx 248 rfl (hb hby at_246) rfl ?_
              refine g_callS X111 hx hZ 251 rfl (y := (⟨"com/example/rowgraph/rowgraph/graph/RowsEndPinLaw", "at", "([BIIB)Z"⟩ : MethodName)) hown (hw _ (List.mem_of_getElem? (i := 18) rfl)) (hw _ (List.mem_of_getElem? (i := 19) rfl)) (hw _ (List.mem_of_getElem? (i := 20) rfl)) (hw _ (List.mem_of_getElem? (i := 21) rfl)) (by decide) [.ref r107, .int (1 : Int32), .int (2 : Int32), .int b2] [] (rmA1 l Z a0 hw [] r107 (1 : Int32) (2 : Int32) b2 T107.heap n0 Zl110 (by decide)) e111 (lenOf pd_5 rfl) rfl (by rw [hml]; rfl) (hb hby at_248) (by decide) 0 (Nat.le_of_eq rfl) (by decide) (by decide) (by decide) ?_
              rintro _ T112 L112 X112 ⟨rfl, N112q, e112⟩
              have N112 := Fr.app N111 N112q
              show Goes p e below (T112.setTop (mkF m 251 #[.val (.int p1), .val (.int p2), .val (.int p3), .val (.int p4), .val (.int p5), .val (.int n), .val (.int b0), .val (.int b1), .val (.int b2), .val (.int b3), .val (.ref o88), .val (.int (-1 : Int32)), .val (.int (1 : Int32)), .val (.ref r107), .unset, .unset] [.int (1 : Int32)])) _
              refine g_ifN X112 hx 254 rfl (hb hby at_251) (XT.i0_eq_f (by decide)) ?_
              refine g_aload X112 hx 256 rfl (hb hby at_254) rfl rfl ?_
              refine g_iload X112 hx 258 rfl (hb hby at_256) rfl ?_
              refine g_iconst X112 hx 259 rfl (3 : Int32) rfl (hb hby at_258) ?_
              refine g_iload X112 hx 261 rfl (hb hby at_259) rfl ?_
              refine g_callS X112 hx hZ 264 rfl (y := (⟨"com/example/rowgraph/rowgraph/graph/RowsEndPinLaw", "at", "([BIIB)Z"⟩ : MethodName)) hown (hw _ (List.mem_of_getElem? (i := 18) rfl)) (hw _ (List.mem_of_getElem? (i := 19) rfl)) (hw _ (List.mem_of_getElem? (i := 20) rfl)) (hw _ (List.mem_of_getElem? (i := 21) rfl)) (by decide) [.ref r107, .int (1 : Int32), .int (3 : Int32), .int b3] [] (rmA1 l Z a0 hw [] r107 (1 : Int32) (3 : Int32) b3 T107.heap n0 Zl110 (by decide)) e112 (lenOf pd_5 rfl) rfl (by rw [hml]; rfl) (hb hby at_261) (by decide) 0 (Nat.le_of_eq rfl) (by decide) (by decide) (by decide) ?_
              rintro _ T113 L113 X113 ⟨rfl, N113q, e113⟩
              have N113 := Fr.app N112 N113q
              show Goes p e below (T113.setTop (mkF m 264 #[.val (.int p1), .val (.int p2), .val (.int p3), .val (.int p4), .val (.int p5), .val (.int n), .val (.int b0), .val (.int b1), .val (.int b2), .val (.int b3), .val (.ref o88), .val (.int (-1 : Int32)), .val (.int (1 : Int32)), .val (.ref r107), .unset, .unset] [.int (1 : Int32)])) _
              refine g_ifN X113 hx 267 rfl (hb hby at_264) (XT.i0_eq_f (by decide)) ?_
              refine g_iconst X113 hx 268 rfl (1 : Int32) rfl (hb hby at_267) ?_
              refine g_goto X113 hx 272 (hb hby at_268) (by decide) (by decide) ?_
              refine g_istore X113 hx 274 rfl (hb hby at_272) #[.val (.int p1), .val (.int p2), .val (.int p3), .val (.int p4), .val (.int p5), .val (.int n), .val (.int b0), .val (.int b1), .val (.int b2), .val (.int b3), .val (.ref o88), .val (.int (-1 : Int32)), .val (.int (1 : Int32)), .val (.ref r107), .val (.int (1 : Int32)), .unset] rfl ?_
              refine g_aload X113 hx 276 rfl (hb hby at_274) rfl rfl ?_
              have Al114 := (Al92.keep K107 nin0)
              refine g_alen X113 hx hZ 277 rfl (hb hby at_276) e113 Al114 (4 : Int32) rfl ?_
              refine g_iload X113 hx 279 rfl (hb hby at_277) rfl ?_
              refine g_icmpN X113 hx 282 rfl (hb hby at_279) (XT.ii_ne_f nn.symm) ?_
              refine g_aload X113 hx 284 rfl (hb hby at_282) rfl rfl ?_
              refine g_iconst X113 hx 285 rfl (0 : Int32) rfl (hb hby at_284) ?_
              refine g_iload X113 hx 287 rfl (hb hby at_285) rfl ?_
              refine g_callS X113 hx hZ 290 rfl (y := (⟨"com/example/rowgraph/rowgraph/graph/RowsEndPinLaw", "same", "([BIB)Z"⟩ : MethodName)) hown (hw _ (List.mem_of_getElem? (i := 22) rfl)) (hw _ (List.mem_of_getElem? (i := 23) rfl)) (hw _ (List.mem_of_getElem? (i := 20) rfl)) (hw _ (List.mem_of_getElem? (i := 24) rfl)) (by decide) [.ref o88, .int (0 : Int32), .int b0] [] (rmS2 l Z a0 hw [] o88 (0 : Int32) b0 [.int b0, .int b1, .int b2, .int b3] 0 T107.heap n0 Zl110 Al114 (show (0 : Int32) < (4 : Int32) by decide) rfl rfl) e113 (lenOf pd_6 rfl) rfl (by rw [hml]; rfl) (hb hby at_287) (by decide) 0 (Nat.le_of_eq rfl) (by decide) (by decide) (by decide) ?_
              rintro _ T115 L115 X115 ⟨rfl, N115q, e115⟩
              have N115 := Fr.app N113 N115q
              show Goes p e below (T115.setTop (mkF m 290 #[.val (.int p1), .val (.int p2), .val (.int p3), .val (.int p4), .val (.int p5), .val (.int n), .val (.int b0), .val (.int b1), .val (.int b2), .val (.int b3), .val (.ref o88), .val (.int (-1 : Int32)), .val (.int (1 : Int32)), .val (.ref r107), .val (.int (1 : Int32)), .unset] [.int (1 : Int32)])) _
              refine g_ifN X115 hx 293 rfl (hb hby at_290) (XT.i0_eq_f (by decide)) ?_
              refine g_aload X115 hx 295 rfl (hb hby at_293) rfl rfl ?_
              refine g_iconst X115 hx 296 rfl (1 : Int32) rfl (hb hby at_295) ?_
              refine g_iload X115 hx 298 rfl (hb hby at_296) rfl ?_
              refine g_callS X115 hx hZ 301 rfl (y := (⟨"com/example/rowgraph/rowgraph/graph/RowsEndPinLaw", "same", "([BIB)Z"⟩ : MethodName)) hown (hw _ (List.mem_of_getElem? (i := 22) rfl)) (hw _ (List.mem_of_getElem? (i := 23) rfl)) (hw _ (List.mem_of_getElem? (i := 20) rfl)) (hw _ (List.mem_of_getElem? (i := 24) rfl)) (by decide) [.ref o88, .int (1 : Int32), .int b1] [] (rmS2 l Z a0 hw [] o88 (1 : Int32) b1 [.int b0, .int b1, .int b2, .int b3] 1 T107.heap n0 Zl110 Al114 (show (1 : Int32) < (4 : Int32) by decide) rfl rfl) e115 (lenOf pd_6 rfl) rfl (by rw [hml]; rfl) (hb hby at_298) (by decide) 0 (Nat.le_of_eq rfl) (by decide) (by decide) (by decide) ?_
              rintro _ T116 L116 X116 ⟨rfl, N116q, e116⟩
              have N116 := Fr.app N115 N116q
              show Goes p e below (T116.setTop (mkF m 301 #[.val (.int p1), .val (.int p2), .val (.int p3), .val (.int p4), .val (.int p5), .val (.int n), .val (.int b0), .val (.int b1), .val (.int b2), .val (.int b3), .val (.ref o88), .val (.int (-1 : Int32)), .val (.int (1 : Int32)), .val (.ref r107), .val (.int (1 : Int32)), .unset] [.int (1 : Int32)])) _
              refine g_ifN X116 hx 304 rfl (hb hby at_301) (XT.i0_eq_f (by decide)) ?_
              refine g_aload X116 hx 306 rfl (hb hby at_304) rfl rfl ?_
              refine g_iconst X116 hx 307 rfl (2 : Int32) rfl (hb hby at_306) ?_
              refine g_iload X116 hx 309 rfl (hb hby at_307) rfl ?_
              refine g_callS X116 hx hZ 312 rfl (y := (⟨"com/example/rowgraph/rowgraph/graph/RowsEndPinLaw", "same", "([BIB)Z"⟩ : MethodName)) hown (hw _ (List.mem_of_getElem? (i := 22) rfl)) (hw _ (List.mem_of_getElem? (i := 23) rfl)) (hw _ (List.mem_of_getElem? (i := 20) rfl)) (hw _ (List.mem_of_getElem? (i := 24) rfl)) (by decide) [.ref o88, .int (2 : Int32), .int b2] [] (rmS2 l Z a0 hw [] o88 (2 : Int32) b2 [.int b0, .int b1, .int b2, .int b3] 2 T107.heap n0 Zl110 Al114 (show (2 : Int32) < (4 : Int32) by decide) rfl rfl) e116 (lenOf pd_6 rfl) rfl (by rw [hml]; rfl) (hb hby at_309) (by decide) 0 (Nat.le_of_eq rfl) (by decide) (by decide) (by decide) ?_
              rintro _ T117 L117 X117 ⟨rfl, N117q, e117⟩
              have N117 := Fr.app N116 N117q
              show Goes p e below (T117.setTop (mkF m 312 #[.val (.int p1), .val (.int p2), .val (.int p3), .val (.int p4), .val (.int p5), .val (.int n), .val (.int b0), .val (.int b1), .val (.int b2), .val (.int b3), .val (.ref o88), .val (.int (-1 : Int32)), .val (.int (1 : Int32)), .val (.ref r107), .val (.int (1 : Int32)), .unset] [.int (1 : Int32)])) _
              refine g_ifN X117 hx 315 rfl (hb hby at_312) (XT.i0_eq_f (by decide)) ?_
              refine g_aload X117 hx 317 rfl (hb hby at_315) rfl rfl ?_
              refine g_iconst X117 hx 318 rfl (3 : Int32) rfl (hb hby at_317) ?_
              refine g_iload X117 hx 320 rfl (hb hby at_318) rfl ?_
              refine g_callS X117 hx hZ 323 rfl (y := (⟨"com/example/rowgraph/rowgraph/graph/RowsEndPinLaw", "same", "([BIB)Z"⟩ : MethodName)) hown (hw _ (List.mem_of_getElem? (i := 22) rfl)) (hw _ (List.mem_of_getElem? (i := 23) rfl)) (hw _ (List.mem_of_getElem? (i := 20) rfl)) (hw _ (List.mem_of_getElem? (i := 24) rfl)) (by decide) [.ref o88, .int (3 : Int32), .int b3] [] (rmS2 l Z a0 hw [] o88 (3 : Int32) b3 [.int b0, .int b1, .int b2, .int b3] 3 T107.heap n0 Zl110 Al114 (show (3 : Int32) < (4 : Int32) by decide) rfl rfl) e117 (lenOf pd_6 rfl) rfl (by rw [hml]; rfl) (hb hby at_320) (by decide) 0 (Nat.le_of_eq rfl) (by decide) (by decide) (by decide) ?_
              rintro _ T118 L118 X118 ⟨rfl, N118q, e118⟩
              have N118 := Fr.app N117 N118q
              show Goes p e below (T118.setTop (mkF m 323 #[.val (.int p1), .val (.int p2), .val (.int p3), .val (.int p4), .val (.int p5), .val (.int n), .val (.int b0), .val (.int b1), .val (.int b2), .val (.int b3), .val (.ref o88), .val (.int (-1 : Int32)), .val (.int (1 : Int32)), .val (.ref r107), .val (.int (1 : Int32)), .unset] [.int (1 : Int32)])) _
              refine g_ifN X118 hx 326 rfl (hb hby at_323) (XT.i0_eq_f (by decide)) ?_
              refine g_iconst X118 hx 327 rfl (1 : Int32) rfl (hb hby at_326) ?_
              refine g_goto X118 hx 331 (hb hby at_327) (by decide) (by decide) ?_
              refine g_istore X118 hx 333 rfl (hb hby at_331) #[.val (.int p1), .val (.int p2), .val (.int p3), .val (.int p4), .val (.int p5), .val (.int n), .val (.int b0), .val (.int b1), .val (.int b2), .val (.int b3), .val (.ref o88), .val (.int (-1 : Int32)), .val (.int (1 : Int32)), .val (.ref r107), .val (.int (1 : Int32)), .val (.int (1 : Int32))] rfl ?_
              refine g_iload X118 hx 335 rfl (hb hby at_333) rfl ?_
              refine g_ifN X118 hx 338 rfl (hb hby at_335) (XT.i0_eq_f (by decide)) ?_
              refine g_iload X118 hx 340 rfl (hb hby at_338) rfl ?_
              refine g_ifN X118 hx 343 rfl (hb hby at_340) (XT.i0_eq_f (by decide)) ?_
              refine g_iconst X118 hx 344 rfl (1 : Int32) rfl (hb hby at_343) ?_
              refine g_goto X118 hx 348 (hb hby at_344) (by decide) (by decide) ?_
              exact g_retZ X118 hx hret hlk rfl (hb hby at_348) ⟨rfl, N118⟩ (by decide) (by decide)
          · refine g_icmpN X92 hx 156 rfl (hb hby at_153) (XT.ii_eq_f m2) ?_
            refine g_iconst X92 hx 157 rfl (2 : Int32) rfl (hb hby at_156) ?_
            refine g_istore X92 hx 159 rfl (hb hby at_157) #[.val (.int p1), .val (.int p2), .val (.int p3), .val (.int p4), .val (.int p5), .val (.int n), .val (.int b0), .val (.int b1), .val (.int b2), .val (.int b3), .val (.ref o88), .val (.int (-1 : Int32)), .val (.int (2 : Int32)), .unset, .unset, .unset] rfl ?_
            refine g_goto X92 hx 196 (hb hby at_159) (by decide) (by decide) ?_
            refine g_aload X92 hx 198 rfl (hb hby at_196) rfl rfl ?_
            have hall : ∀ i, 2 < i → i < ([.int b0, .int b1, .int b2, .int b3] : List Value).length → ([.int b0, .int b1, .int b2, .int b3] : List Value)[i]? = some (.int (-1 : Int32)) := by
              intro i h1 h2
              simp only [List.length_cons, List.length_nil] at h2
              match i, h1, h2 with
              | 3, _, _ => exact congrArg (fun z => some (Value.int z)) m3
            have hfit : ∀ v ∈ ([.int b0, .int b1, .int b2, .int b3] : List Value), fits .byte v = true := by
              intro v hv
              simp only [List.mem_cons, List.not_mem_nil, or_false] at hv
              rcases hv with rfl | rfl | rfl | rfl
              · exact fb0
              · exact fb1
              · exact fb2
              · exact fb3
            have Exa119 := ((((Ex88.wr W89).wr W90).wr W91).wr W92)
            have Zl121 : n0 ≤ h92.size := (Nat.le_trans (Nat.le_trans (Nat.le_trans (Nat.le_trans (Nat.le_trans Z0 E88.1) (Nat.le_of_eq W89.size.symm)) (Nat.le_of_eq W90.size.symm)) (Nat.le_of_eq W91.size.symm)) (Nat.le_of_eq W92.size.symm))
            refine g_callS X92 hx hZ 201 rfl (y := (⟨"com/example/rowgraph/rowgraph/graph/Rows", "end", "([B)[B"⟩ : MethodName)) hown (hw _ (List.mem_of_getElem? (i := 1) rfl)) (hw _ (List.mem_of_getElem? (i := 2) rfl)) (hw _ (List.mem_of_getElem? (i := 3) rfl)) (hw _ (List.mem_of_getElem? (i := 4) rfl)) (by decide) [.ref o88] [] (rmE l Z a0 hw [] o88 [.int b0, .int b1, .int b2, .int b3] 2 b2 h92 n0 Zl121 Al92 Exa119 rfl m2 hall (show 4 ≤ 4 by decide) hfit) e92 (lenOf pd_4 rfl) rfl (by rw [hml]; rfl) (hb hby at_198) (by decide) 0 (Nat.le_of_eq rfl) (by decide) (by decide) (by decide) ?_
            rintro _ T120 L120 X120 ⟨r120, rfl, N120q, K120, Ar120⟩
            have N120 := Fr.app N92 N120q
            show Goes p e below (T120.setTop (mkF m 201 #[.val (.int p1), .val (.int p2), .val (.int p3), .val (.int p4), .val (.int p5), .val (.int n), .val (.int b0), .val (.int b1), .val (.int b2), .val (.int b3), .val (.ref o88), .val (.int (-1 : Int32)), .val (.int (2 : Int32)), .unset, .unset, .unset] [.ref r120])) _
            have Alr120 : Al Z T120.heap r120 .byte [.int b0, .int b1, .int ((b2 + (1 : Int32)).toInt8.toInt32)] := Ar120
            refine g_astore X120 hx 203 rfl (hb hby at_201) rfl #[.val (.int p1), .val (.int p2), .val (.int p3), .val (.int p4), .val (.int p5), .val (.int n), .val (.int b0), .val (.int b1), .val (.int b2), .val (.int b3), .val (.ref o88), .val (.int (-1 : Int32)), .val (.int (2 : Int32)), .val (.ref r120), .unset, .unset] rfl ?_
            refine g_aload X120 hx 205 rfl (hb hby at_203) rfl rfl ?_
            refine g_alen X120 hx hZ 206 rfl (hb hby at_205) rfl Alr120 (3 : Int32) rfl ?_
            refine g_iload X120 hx 208 rfl (hb hby at_206) rfl ?_
            refine g_iconst X120 hx 209 rfl (1 : Int32) rfl (hb hby at_208) ?_
            refine g_iadd X120 hx 210 rfl (hb hby at_209) ?_
            show Goes p e below (T120.setTop (mkF m 210 #[.val (.int p1), .val (.int p2), .val (.int p3), .val (.int p4), .val (.int p5), .val (.int n), .val (.int b0), .val (.int b1), .val (.int b2), .val (.int b3), .val (.ref o88), .val (.int (-1 : Int32)), .val (.int (2 : Int32)), .val (.ref r120), .unset, .unset] [.int (3 : Int32), .int (3 : Int32)])) _
            refine g_icmpY X120 hx 215 (hb hby at_210) (XT.ii_eq_t rfl) (by decide) (by decide) ?_
            refine g_aload X120 hx 217 rfl (hb hby at_215) rfl rfl ?_
            refine g_iload X120 hx 219 rfl (hb hby at_217) rfl ?_
            refine g_iconst X120 hx 220 rfl (0 : Int32) rfl (hb hby at_219) ?_
            refine g_iload X120 hx 222 rfl (hb hby at_220) rfl ?_
            have Zl123 : n0 ≤ T120.heap.size := (Nat.le_trans Zl121 K120.1)
            refine g_callS X120 hx hZ 225 rfl (y := (⟨"com/example/rowgraph/rowgraph/graph/RowsEndPinLaw", "at", "([BIIB)Z"⟩ : MethodName)) hown (hw _ (List.mem_of_getElem? (i := 18) rfl)) (hw _ (List.mem_of_getElem? (i := 19) rfl)) (hw _ (List.mem_of_getElem? (i := 20) rfl)) (hw _ (List.mem_of_getElem? (i := 21) rfl)) (by decide) [.ref r120, .int (2 : Int32), .int (0 : Int32), .int b0] [] (rmA2 l Z a0 hw [] r120 (2 : Int32) (0 : Int32) b0 [.int b0, .int b1, .int ((b2 + (1 : Int32)).toInt8.toInt32)] 0 T120.heap n0 Zl123 Alr120 (by decide) (by decide) rfl rfl) rfl (lenOf pd_5 rfl) rfl (by rw [hml]; rfl) (hb hby at_222) (by decide) 0 (Nat.le_of_eq rfl) (by decide) (by decide) (by decide) ?_
            rintro _ T122 L122 X122 ⟨rfl, N122q, e122⟩
            have N122 := Fr.app N120 N122q
            show Goes p e below (T122.setTop (mkF m 225 #[.val (.int p1), .val (.int p2), .val (.int p3), .val (.int p4), .val (.int p5), .val (.int n), .val (.int b0), .val (.int b1), .val (.int b2), .val (.int b3), .val (.ref o88), .val (.int (-1 : Int32)), .val (.int (2 : Int32)), .val (.ref r120), .unset, .unset] [.int (1 : Int32)])) _
            refine g_ifN X122 hx 228 rfl (hb hby at_225) (XT.i0_eq_f (by decide)) ?_
            refine g_aload X122 hx 230 rfl (hb hby at_228) rfl rfl ?_
            refine g_iload X122 hx 232 rfl (hb hby at_230) rfl ?_
            refine g_iconst X122 hx 233 rfl (1 : Int32) rfl (hb hby at_232) ?_
            refine g_iload X122 hx 235 rfl (hb hby at_233) rfl ?_
            refine g_callS X122 hx hZ 238 rfl (y := (⟨"com/example/rowgraph/rowgraph/graph/RowsEndPinLaw", "at", "([BIIB)Z"⟩ : MethodName)) hown (hw _ (List.mem_of_getElem? (i := 18) rfl)) (hw _ (List.mem_of_getElem? (i := 19) rfl)) (hw _ (List.mem_of_getElem? (i := 20) rfl)) (hw _ (List.mem_of_getElem? (i := 21) rfl)) (by decide) [.ref r120, .int (2 : Int32), .int (1 : Int32), .int b1] [] (rmA2 l Z a0 hw [] r120 (2 : Int32) (1 : Int32) b1 [.int b0, .int b1, .int ((b2 + (1 : Int32)).toInt8.toInt32)] 1 T120.heap n0 Zl123 Alr120 (by decide) (by decide) rfl rfl) e122 (lenOf pd_5 rfl) rfl (by rw [hml]; rfl) (hb hby at_235) (by decide) 0 (Nat.le_of_eq rfl) (by decide) (by decide) (by decide) ?_
            rintro _ T124 L124 X124 ⟨rfl, N124q, e124⟩
            have N124 := Fr.app N122 N124q
            show Goes p e below (T124.setTop (mkF m 238 #[.val (.int p1), .val (.int p2), .val (.int p3), .val (.int p4), .val (.int p5), .val (.int n), .val (.int b0), .val (.int b1), .val (.int b2), .val (.int b3), .val (.ref o88), .val (.int (-1 : Int32)), .val (.int (2 : Int32)), .val (.ref r120), .unset, .unset] [.int (1 : Int32)])) _
            refine g_ifN X124 hx 241 rfl (hb hby at_238) (XT.i0_eq_f (by decide)) ?_
            refine g_aload X124 hx 243 rfl (hb hby at_241) rfl rfl ?_
            refine g_iload X124 hx 245 rfl (hb hby at_243) rfl ?_
            refine g_iconst X124 hx 246 rfl (2 : Int32) rfl (hb hby at_245) ?_
            refine g_iload X124 hx 248 rfl (hb hby at_246) rfl ?_
            refine g_callS X124 hx hZ 251 rfl (y := (⟨"com/example/rowgraph/rowgraph/graph/RowsEndPinLaw", "at", "([BIIB)Z"⟩ : MethodName)) hown (hw _ (List.mem_of_getElem? (i := 18) rfl)) (hw _ (List.mem_of_getElem? (i := 19) rfl)) (hw _ (List.mem_of_getElem? (i := 20) rfl)) (hw _ (List.mem_of_getElem? (i := 21) rfl)) (by decide) [.ref r120, .int (2 : Int32), .int (2 : Int32), .int b2] [] (rmA3 l Z a0 hw [] r120 (2 : Int32) (2 : Int32) b2 [.int b0, .int b1, .int ((b2 + (1 : Int32)).toInt8.toInt32)] 2 T120.heap n0 Zl123 Alr120 (by decide) (by decide) rfl rfl) e124 (lenOf pd_5 rfl) rfl (by rw [hml]; rfl) (hb hby at_248) (by decide) 0 (Nat.le_of_eq rfl) (by decide) (by decide) (by decide) ?_
            rintro _ T125 L125 X125 ⟨rfl, N125q, e125⟩
            have N125 := Fr.app N124 N125q
            show Goes p e below (T125.setTop (mkF m 251 #[.val (.int p1), .val (.int p2), .val (.int p3), .val (.int p4), .val (.int p5), .val (.int n), .val (.int b0), .val (.int b1), .val (.int b2), .val (.int b3), .val (.ref o88), .val (.int (-1 : Int32)), .val (.int (2 : Int32)), .val (.ref r120), .unset, .unset] [.int (1 : Int32)])) _
            refine g_ifN X125 hx 254 rfl (hb hby at_251) (XT.i0_eq_f (by decide)) ?_
            refine g_aload X125 hx 256 rfl (hb hby at_254) rfl rfl ?_
            refine g_iload X125 hx 258 rfl (hb hby at_256) rfl ?_
            refine g_iconst X125 hx 259 rfl (3 : Int32) rfl (hb hby at_258) ?_
            refine g_iload X125 hx 261 rfl (hb hby at_259) rfl ?_
            refine g_callS X125 hx hZ 264 rfl (y := (⟨"com/example/rowgraph/rowgraph/graph/RowsEndPinLaw", "at", "([BIIB)Z"⟩ : MethodName)) hown (hw _ (List.mem_of_getElem? (i := 18) rfl)) (hw _ (List.mem_of_getElem? (i := 19) rfl)) (hw _ (List.mem_of_getElem? (i := 20) rfl)) (hw _ (List.mem_of_getElem? (i := 21) rfl)) (by decide) [.ref r120, .int (2 : Int32), .int (3 : Int32), .int b3] [] (rmA1 l Z a0 hw [] r120 (2 : Int32) (3 : Int32) b3 T120.heap n0 Zl123 (by decide)) e125 (lenOf pd_5 rfl) rfl (by rw [hml]; rfl) (hb hby at_261) (by decide) 0 (Nat.le_of_eq rfl) (by decide) (by decide) (by decide) ?_
            rintro _ T126 L126 X126 ⟨rfl, N126q, e126⟩
            have N126 := Fr.app N125 N126q
            show Goes p e below (T126.setTop (mkF m 264 #[.val (.int p1), .val (.int p2), .val (.int p3), .val (.int p4), .val (.int p5), .val (.int n), .val (.int b0), .val (.int b1), .val (.int b2), .val (.int b3), .val (.ref o88), .val (.int (-1 : Int32)), .val (.int (2 : Int32)), .val (.ref r120), .unset, .unset] [.int (1 : Int32)])) _
            refine g_ifN X126 hx 267 rfl (hb hby at_264) (XT.i0_eq_f (by decide)) ?_
            refine g_iconst X126 hx 268 rfl (1 : Int32) rfl (hb hby at_267) ?_
            refine g_goto X126 hx 272 (hb hby at_268) (by decide) (by decide) ?_
            refine g_istore X126 hx 274 rfl (hb hby at_272) #[.val (.int p1), .val (.int p2), .val (.int p3), .val (.int p4), .val (.int p5), .val (.int n), .val (.int b0), .val (.int b1), .val (.int b2), .val (.int b3), .val (.ref o88), .val (.int (-1 : Int32)), .val (.int (2 : Int32)), .val (.ref r120), .val (.int (1 : Int32)), .unset] rfl ?_
            refine g_aload X126 hx 276 rfl (hb hby at_274) rfl rfl ?_
            have Al127 := (Al92.keep K120 nin0)
            refine g_alen X126 hx hZ 277 rfl (hb hby at_276) e126 Al127 (4 : Int32) rfl ?_
            refine g_iload X126 hx 279 rfl (hb hby at_277) rfl ?_
            refine g_icmpN X126 hx 282 rfl (hb hby at_279) (XT.ii_ne_f nn.symm) ?_
            refine g_aload X126 hx 284 rfl (hb hby at_282) rfl rfl ?_
            refine g_iconst X126 hx 285 rfl (0 : Int32) rfl (hb hby at_284) ?_
            refine g_iload X126 hx 287 rfl (hb hby at_285) rfl ?_
            refine g_callS X126 hx hZ 290 rfl (y := (⟨"com/example/rowgraph/rowgraph/graph/RowsEndPinLaw", "same", "([BIB)Z"⟩ : MethodName)) hown (hw _ (List.mem_of_getElem? (i := 22) rfl)) (hw _ (List.mem_of_getElem? (i := 23) rfl)) (hw _ (List.mem_of_getElem? (i := 20) rfl)) (hw _ (List.mem_of_getElem? (i := 24) rfl)) (by decide) [.ref o88, .int (0 : Int32), .int b0] [] (rmS2 l Z a0 hw [] o88 (0 : Int32) b0 [.int b0, .int b1, .int b2, .int b3] 0 T120.heap n0 Zl123 Al127 (show (0 : Int32) < (4 : Int32) by decide) rfl rfl) e126 (lenOf pd_6 rfl) rfl (by rw [hml]; rfl) (hb hby at_287) (by decide) 0 (Nat.le_of_eq rfl) (by decide) (by decide) (by decide) ?_
            rintro _ T128 L128 X128 ⟨rfl, N128q, e128⟩
            have N128 := Fr.app N126 N128q
            show Goes p e below (T128.setTop (mkF m 290 #[.val (.int p1), .val (.int p2), .val (.int p3), .val (.int p4), .val (.int p5), .val (.int n), .val (.int b0), .val (.int b1), .val (.int b2), .val (.int b3), .val (.ref o88), .val (.int (-1 : Int32)), .val (.int (2 : Int32)), .val (.ref r120), .val (.int (1 : Int32)), .unset] [.int (1 : Int32)])) _
            refine g_ifN X128 hx 293 rfl (hb hby at_290) (XT.i0_eq_f (by decide)) ?_
            refine g_aload X128 hx 295 rfl (hb hby at_293) rfl rfl ?_
            refine g_iconst X128 hx 296 rfl (1 : Int32) rfl (hb hby at_295) ?_
            refine g_iload X128 hx 298 rfl (hb hby at_296) rfl ?_
            refine g_callS X128 hx hZ 301 rfl (y := (⟨"com/example/rowgraph/rowgraph/graph/RowsEndPinLaw", "same", "([BIB)Z"⟩ : MethodName)) hown (hw _ (List.mem_of_getElem? (i := 22) rfl)) (hw _ (List.mem_of_getElem? (i := 23) rfl)) (hw _ (List.mem_of_getElem? (i := 20) rfl)) (hw _ (List.mem_of_getElem? (i := 24) rfl)) (by decide) [.ref o88, .int (1 : Int32), .int b1] [] (rmS2 l Z a0 hw [] o88 (1 : Int32) b1 [.int b0, .int b1, .int b2, .int b3] 1 T120.heap n0 Zl123 Al127 (show (1 : Int32) < (4 : Int32) by decide) rfl rfl) e128 (lenOf pd_6 rfl) rfl (by rw [hml]; rfl) (hb hby at_298) (by decide) 0 (Nat.le_of_eq rfl) (by decide) (by decide) (by decide) ?_
            rintro _ T129 L129 X129 ⟨rfl, N129q, e129⟩
            have N129 := Fr.app N128 N129q
            show Goes p e below (T129.setTop (mkF m 301 #[.val (.int p1), .val (.int p2), .val (.int p3), .val (.int p4), .val (.int p5), .val (.int n), .val (.int b0), .val (.int b1), .val (.int b2), .val (.int b3), .val (.ref o88), .val (.int (-1 : Int32)), .val (.int (2 : Int32)), .val (.ref r120), .val (.int (1 : Int32)), .unset] [.int (1 : Int32)])) _
            refine g_ifN X129 hx 304 rfl (hb hby at_301) (XT.i0_eq_f (by decide)) ?_
            refine g_aload X129 hx 306 rfl (hb hby at_304) rfl rfl ?_
            refine g_iconst X129 hx 307 rfl (2 : Int32) rfl (hb hby at_306) ?_
            refine g_iload X129 hx 309 rfl (hb hby at_307) rfl ?_
            refine g_callS X129 hx hZ 312 rfl (y := (⟨"com/example/rowgraph/rowgraph/graph/RowsEndPinLaw", "same", "([BIB)Z"⟩ : MethodName)) hown (hw _ (List.mem_of_getElem? (i := 22) rfl)) (hw _ (List.mem_of_getElem? (i := 23) rfl)) (hw _ (List.mem_of_getElem? (i := 20) rfl)) (hw _ (List.mem_of_getElem? (i := 24) rfl)) (by decide) [.ref o88, .int (2 : Int32), .int b2] [] (rmS2 l Z a0 hw [] o88 (2 : Int32) b2 [.int b0, .int b1, .int b2, .int b3] 2 T120.heap n0 Zl123 Al127 (show (2 : Int32) < (4 : Int32) by decide) rfl rfl) e129 (lenOf pd_6 rfl) rfl (by rw [hml]; rfl) (hb hby at_309) (by decide) 0 (Nat.le_of_eq rfl) (by decide) (by decide) (by decide) ?_
            rintro _ T130 L130 X130 ⟨rfl, N130q, e130⟩
            have N130 := Fr.app N129 N130q
            show Goes p e below (T130.setTop (mkF m 312 #[.val (.int p1), .val (.int p2), .val (.int p3), .val (.int p4), .val (.int p5), .val (.int n), .val (.int b0), .val (.int b1), .val (.int b2), .val (.int b3), .val (.ref o88), .val (.int (-1 : Int32)), .val (.int (2 : Int32)), .val (.ref r120), .val (.int (1 : Int32)), .unset] [.int (1 : Int32)])) _
            refine g_ifN X130 hx 315 rfl (hb hby at_312) (XT.i0_eq_f (by decide)) ?_
            refine g_aload X130 hx 317 rfl (hb hby at_315) rfl rfl ?_
            refine g_iconst X130 hx 318 rfl (3 : Int32) rfl (hb hby at_317) ?_
            refine g_iload X130 hx 320 rfl (hb hby at_318) rfl ?_
            refine g_callS X130 hx hZ 323 rfl (y := (⟨"com/example/rowgraph/rowgraph/graph/RowsEndPinLaw", "same", "([BIB)Z"⟩ : MethodName)) hown (hw _ (List.mem_of_getElem? (i := 22) rfl)) (hw _ (List.mem_of_getElem? (i := 23) rfl)) (hw _ (List.mem_of_getElem? (i := 20) rfl)) (hw _ (List.mem_of_getElem? (i := 24) rfl)) (by decide) [.ref o88, .int (3 : Int32), .int b3] [] (rmS2 l Z a0 hw [] o88 (3 : Int32) b3 [.int b0, .int b1, .int b2, .int b3] 3 T120.heap n0 Zl123 Al127 (show (3 : Int32) < (4 : Int32) by decide) rfl rfl) e130 (lenOf pd_6 rfl) rfl (by rw [hml]; rfl) (hb hby at_320) (by decide) 0 (Nat.le_of_eq rfl) (by decide) (by decide) (by decide) ?_
            rintro _ T131 L131 X131 ⟨rfl, N131q, e131⟩
            have N131 := Fr.app N130 N131q
            show Goes p e below (T131.setTop (mkF m 323 #[.val (.int p1), .val (.int p2), .val (.int p3), .val (.int p4), .val (.int p5), .val (.int n), .val (.int b0), .val (.int b1), .val (.int b2), .val (.int b3), .val (.ref o88), .val (.int (-1 : Int32)), .val (.int (2 : Int32)), .val (.ref r120), .val (.int (1 : Int32)), .unset] [.int (1 : Int32)])) _
            refine g_ifN X131 hx 326 rfl (hb hby at_323) (XT.i0_eq_f (by decide)) ?_
            refine g_iconst X131 hx 327 rfl (1 : Int32) rfl (hb hby at_326) ?_
            refine g_goto X131 hx 331 (hb hby at_327) (by decide) (by decide) ?_
            refine g_istore X131 hx 333 rfl (hb hby at_331) #[.val (.int p1), .val (.int p2), .val (.int p3), .val (.int p4), .val (.int p5), .val (.int n), .val (.int b0), .val (.int b1), .val (.int b2), .val (.int b3), .val (.ref o88), .val (.int (-1 : Int32)), .val (.int (2 : Int32)), .val (.ref r120), .val (.int (1 : Int32)), .val (.int (1 : Int32))] rfl ?_
            refine g_iload X131 hx 335 rfl (hb hby at_333) rfl ?_
            refine g_ifN X131 hx 338 rfl (hb hby at_335) (XT.i0_eq_f (by decide)) ?_
            refine g_iload X131 hx 340 rfl (hb hby at_338) rfl ?_
            refine g_ifN X131 hx 343 rfl (hb hby at_340) (XT.i0_eq_f (by decide)) ?_
            refine g_iconst X131 hx 344 rfl (1 : Int32) rfl (hb hby at_343) ?_
            refine g_goto X131 hx 348 (hb hby at_344) (by decide) (by decide) ?_
            exact g_retZ X131 hx hret hlk rfl (hb hby at_348) ⟨rfl, N131⟩ (by decide) (by decide)
        · refine g_icmpN X92 hx 137 rfl (hb hby at_134) (XT.ii_eq_f m3) ?_
          refine g_iconst X92 hx 138 rfl (3 : Int32) rfl (hb hby at_137) ?_
          refine g_istore X92 hx 140 rfl (hb hby at_138) #[.val (.int p1), .val (.int p2), .val (.int p3), .val (.int p4), .val (.int p5), .val (.int n), .val (.int b0), .val (.int b1), .val (.int b2), .val (.int b3), .val (.ref o88), .val (.int (-1 : Int32)), .val (.int (3 : Int32)), .unset, .unset, .unset] rfl ?_
          refine g_goto X92 hx 196 (hb hby at_140) (by decide) (by decide) ?_
          refine g_aload X92 hx 198 rfl (hb hby at_196) rfl rfl ?_
          have hall : ∀ i, 3 < i → i < ([.int b0, .int b1, .int b2, .int b3] : List Value).length → ([.int b0, .int b1, .int b2, .int b3] : List Value)[i]? = some (.int (-1 : Int32)) := by
            intro i h1 h2
            simp only [List.length_cons, List.length_nil] at h2
            omega
          have hfit : ∀ v ∈ ([.int b0, .int b1, .int b2, .int b3] : List Value), fits .byte v = true := by
            intro v hv
            simp only [List.mem_cons, List.not_mem_nil, or_false] at hv
            rcases hv with rfl | rfl | rfl | rfl
            · exact fb0
            · exact fb1
            · exact fb2
            · exact fb3
          have Exa132 := ((((Ex88.wr W89).wr W90).wr W91).wr W92)
          have Zl134 : n0 ≤ h92.size := (Nat.le_trans (Nat.le_trans (Nat.le_trans (Nat.le_trans (Nat.le_trans Z0 E88.1) (Nat.le_of_eq W89.size.symm)) (Nat.le_of_eq W90.size.symm)) (Nat.le_of_eq W91.size.symm)) (Nat.le_of_eq W92.size.symm))
          refine g_callS X92 hx hZ 201 rfl (y := (⟨"com/example/rowgraph/rowgraph/graph/Rows", "end", "([B)[B"⟩ : MethodName)) hown (hw _ (List.mem_of_getElem? (i := 1) rfl)) (hw _ (List.mem_of_getElem? (i := 2) rfl)) (hw _ (List.mem_of_getElem? (i := 3) rfl)) (hw _ (List.mem_of_getElem? (i := 4) rfl)) (by decide) [.ref o88] [] (rmE l Z a0 hw [] o88 [.int b0, .int b1, .int b2, .int b3] 3 b3 h92 n0 Zl134 Al92 Exa132 rfl m3 hall (show 4 ≤ 4 by decide) hfit) e92 (lenOf pd_4 rfl) rfl (by rw [hml]; rfl) (hb hby at_198) (by decide) 0 (Nat.le_of_eq rfl) (by decide) (by decide) (by decide) ?_
          rintro _ T133 L133 X133 ⟨r133, rfl, N133q, K133, Ar133⟩
          have N133 := Fr.app N92 N133q
          show Goes p e below (T133.setTop (mkF m 201 #[.val (.int p1), .val (.int p2), .val (.int p3), .val (.int p4), .val (.int p5), .val (.int n), .val (.int b0), .val (.int b1), .val (.int b2), .val (.int b3), .val (.ref o88), .val (.int (-1 : Int32)), .val (.int (3 : Int32)), .unset, .unset, .unset] [.ref r133])) _
          have Alr133 : Al Z T133.heap r133 .byte [.int b0, .int b1, .int b2, .int ((b3 + (1 : Int32)).toInt8.toInt32)] := Ar133
          refine g_astore X133 hx 203 rfl (hb hby at_201) rfl #[.val (.int p1), .val (.int p2), .val (.int p3), .val (.int p4), .val (.int p5), .val (.int n), .val (.int b0), .val (.int b1), .val (.int b2), .val (.int b3), .val (.ref o88), .val (.int (-1 : Int32)), .val (.int (3 : Int32)), .val (.ref r133), .unset, .unset] rfl ?_
          refine g_aload X133 hx 205 rfl (hb hby at_203) rfl rfl ?_
          refine g_alen X133 hx hZ 206 rfl (hb hby at_205) rfl Alr133 (4 : Int32) rfl ?_
          refine g_iload X133 hx 208 rfl (hb hby at_206) rfl ?_
          refine g_iconst X133 hx 209 rfl (1 : Int32) rfl (hb hby at_208) ?_
          refine g_iadd X133 hx 210 rfl (hb hby at_209) ?_
          show Goes p e below (T133.setTop (mkF m 210 #[.val (.int p1), .val (.int p2), .val (.int p3), .val (.int p4), .val (.int p5), .val (.int n), .val (.int b0), .val (.int b1), .val (.int b2), .val (.int b3), .val (.ref o88), .val (.int (-1 : Int32)), .val (.int (3 : Int32)), .val (.ref r133), .unset, .unset] [.int (4 : Int32), .int (4 : Int32)])) _
          refine g_icmpY X133 hx 215 (hb hby at_210) (XT.ii_eq_t rfl) (by decide) (by decide) ?_
          refine g_aload X133 hx 217 rfl (hb hby at_215) rfl rfl ?_
          refine g_iload X133 hx 219 rfl (hb hby at_217) rfl ?_
          refine g_iconst X133 hx 220 rfl (0 : Int32) rfl (hb hby at_219) ?_
          refine g_iload X133 hx 222 rfl (hb hby at_220) rfl ?_
          have Zl136 : n0 ≤ T133.heap.size := (Nat.le_trans Zl134 K133.1)
          refine g_callS X133 hx hZ 225 rfl (y := (⟨"com/example/rowgraph/rowgraph/graph/RowsEndPinLaw", "at", "([BIIB)Z"⟩ : MethodName)) hown (hw _ (List.mem_of_getElem? (i := 18) rfl)) (hw _ (List.mem_of_getElem? (i := 19) rfl)) (hw _ (List.mem_of_getElem? (i := 20) rfl)) (hw _ (List.mem_of_getElem? (i := 21) rfl)) (by decide) [.ref r133, .int (3 : Int32), .int (0 : Int32), .int b0] [] (rmA2 l Z a0 hw [] r133 (3 : Int32) (0 : Int32) b0 [.int b0, .int b1, .int b2, .int ((b3 + (1 : Int32)).toInt8.toInt32)] 0 T133.heap n0 Zl136 Alr133 (by decide) (by decide) rfl rfl) rfl (lenOf pd_5 rfl) rfl (by rw [hml]; rfl) (hb hby at_222) (by decide) 0 (Nat.le_of_eq rfl) (by decide) (by decide) (by decide) ?_
          rintro _ T135 L135 X135 ⟨rfl, N135q, e135⟩
          have N135 := Fr.app N133 N135q
          show Goes p e below (T135.setTop (mkF m 225 #[.val (.int p1), .val (.int p2), .val (.int p3), .val (.int p4), .val (.int p5), .val (.int n), .val (.int b0), .val (.int b1), .val (.int b2), .val (.int b3), .val (.ref o88), .val (.int (-1 : Int32)), .val (.int (3 : Int32)), .val (.ref r133), .unset, .unset] [.int (1 : Int32)])) _
          refine g_ifN X135 hx 228 rfl (hb hby at_225) (XT.i0_eq_f (by decide)) ?_
          refine g_aload X135 hx 230 rfl (hb hby at_228) rfl rfl ?_
          refine g_iload X135 hx 232 rfl (hb hby at_230) rfl ?_
          refine g_iconst X135 hx 233 rfl (1 : Int32) rfl (hb hby at_232) ?_
          refine g_iload X135 hx 235 rfl (hb hby at_233) rfl ?_
          refine g_callS X135 hx hZ 238 rfl (y := (⟨"com/example/rowgraph/rowgraph/graph/RowsEndPinLaw", "at", "([BIIB)Z"⟩ : MethodName)) hown (hw _ (List.mem_of_getElem? (i := 18) rfl)) (hw _ (List.mem_of_getElem? (i := 19) rfl)) (hw _ (List.mem_of_getElem? (i := 20) rfl)) (hw _ (List.mem_of_getElem? (i := 21) rfl)) (by decide) [.ref r133, .int (3 : Int32), .int (1 : Int32), .int b1] [] (rmA2 l Z a0 hw [] r133 (3 : Int32) (1 : Int32) b1 [.int b0, .int b1, .int b2, .int ((b3 + (1 : Int32)).toInt8.toInt32)] 1 T133.heap n0 Zl136 Alr133 (by decide) (by decide) rfl rfl) e135 (lenOf pd_5 rfl) rfl (by rw [hml]; rfl) (hb hby at_235) (by decide) 0 (Nat.le_of_eq rfl) (by decide) (by decide) (by decide) ?_
          rintro _ T137 L137 X137 ⟨rfl, N137q, e137⟩
          have N137 := Fr.app N135 N137q
          show Goes p e below (T137.setTop (mkF m 238 #[.val (.int p1), .val (.int p2), .val (.int p3), .val (.int p4), .val (.int p5), .val (.int n), .val (.int b0), .val (.int b1), .val (.int b2), .val (.int b3), .val (.ref o88), .val (.int (-1 : Int32)), .val (.int (3 : Int32)), .val (.ref r133), .unset, .unset] [.int (1 : Int32)])) _
          refine g_ifN X137 hx 241 rfl (hb hby at_238) (XT.i0_eq_f (by decide)) ?_
          refine g_aload X137 hx 243 rfl (hb hby at_241) rfl rfl ?_
          refine g_iload X137 hx 245 rfl (hb hby at_243) rfl ?_
          refine g_iconst X137 hx 246 rfl (2 : Int32) rfl (hb hby at_245) ?_
          refine g_iload X137 hx 248 rfl (hb hby at_246) rfl ?_
          refine g_callS X137 hx hZ 251 rfl (y := (⟨"com/example/rowgraph/rowgraph/graph/RowsEndPinLaw", "at", "([BIIB)Z"⟩ : MethodName)) hown (hw _ (List.mem_of_getElem? (i := 18) rfl)) (hw _ (List.mem_of_getElem? (i := 19) rfl)) (hw _ (List.mem_of_getElem? (i := 20) rfl)) (hw _ (List.mem_of_getElem? (i := 21) rfl)) (by decide) [.ref r133, .int (3 : Int32), .int (2 : Int32), .int b2] [] (rmA2 l Z a0 hw [] r133 (3 : Int32) (2 : Int32) b2 [.int b0, .int b1, .int b2, .int ((b3 + (1 : Int32)).toInt8.toInt32)] 2 T133.heap n0 Zl136 Alr133 (by decide) (by decide) rfl rfl) e137 (lenOf pd_5 rfl) rfl (by rw [hml]; rfl) (hb hby at_248) (by decide) 0 (Nat.le_of_eq rfl) (by decide) (by decide) (by decide) ?_
          rintro _ T138 L138 X138 ⟨rfl, N138q, e138⟩
          have N138 := Fr.app N137 N138q
          show Goes p e below (T138.setTop (mkF m 251 #[.val (.int p1), .val (.int p2), .val (.int p3), .val (.int p4), .val (.int p5), .val (.int n), .val (.int b0), .val (.int b1), .val (.int b2), .val (.int b3), .val (.ref o88), .val (.int (-1 : Int32)), .val (.int (3 : Int32)), .val (.ref r133), .unset, .unset] [.int (1 : Int32)])) _
          refine g_ifN X138 hx 254 rfl (hb hby at_251) (XT.i0_eq_f (by decide)) ?_
          refine g_aload X138 hx 256 rfl (hb hby at_254) rfl rfl ?_
          refine g_iload X138 hx 258 rfl (hb hby at_256) rfl ?_
          refine g_iconst X138 hx 259 rfl (3 : Int32) rfl (hb hby at_258) ?_
          refine g_iload X138 hx 261 rfl (hb hby at_259) rfl ?_
          refine g_callS X138 hx hZ 264 rfl (y := (⟨"com/example/rowgraph/rowgraph/graph/RowsEndPinLaw", "at", "([BIIB)Z"⟩ : MethodName)) hown (hw _ (List.mem_of_getElem? (i := 18) rfl)) (hw _ (List.mem_of_getElem? (i := 19) rfl)) (hw _ (List.mem_of_getElem? (i := 20) rfl)) (hw _ (List.mem_of_getElem? (i := 21) rfl)) (by decide) [.ref r133, .int (3 : Int32), .int (3 : Int32), .int b3] [] (rmA3 l Z a0 hw [] r133 (3 : Int32) (3 : Int32) b3 [.int b0, .int b1, .int b2, .int ((b3 + (1 : Int32)).toInt8.toInt32)] 3 T133.heap n0 Zl136 Alr133 (by decide) (by decide) rfl rfl) e138 (lenOf pd_5 rfl) rfl (by rw [hml]; rfl) (hb hby at_261) (by decide) 0 (Nat.le_of_eq rfl) (by decide) (by decide) (by decide) ?_
          rintro _ T139 L139 X139 ⟨rfl, N139q, e139⟩
          have N139 := Fr.app N138 N139q
          show Goes p e below (T139.setTop (mkF m 264 #[.val (.int p1), .val (.int p2), .val (.int p3), .val (.int p4), .val (.int p5), .val (.int n), .val (.int b0), .val (.int b1), .val (.int b2), .val (.int b3), .val (.ref o88), .val (.int (-1 : Int32)), .val (.int (3 : Int32)), .val (.ref r133), .unset, .unset] [.int (1 : Int32)])) _
          refine g_ifN X139 hx 267 rfl (hb hby at_264) (XT.i0_eq_f (by decide)) ?_
          refine g_iconst X139 hx 268 rfl (1 : Int32) rfl (hb hby at_267) ?_
          refine g_goto X139 hx 272 (hb hby at_268) (by decide) (by decide) ?_
          refine g_istore X139 hx 274 rfl (hb hby at_272) #[.val (.int p1), .val (.int p2), .val (.int p3), .val (.int p4), .val (.int p5), .val (.int n), .val (.int b0), .val (.int b1), .val (.int b2), .val (.int b3), .val (.ref o88), .val (.int (-1 : Int32)), .val (.int (3 : Int32)), .val (.ref r133), .val (.int (1 : Int32)), .unset] rfl ?_
          refine g_aload X139 hx 276 rfl (hb hby at_274) rfl rfl ?_
          have Al140 := (Al92.keep K133 nin0)
          refine g_alen X139 hx hZ 277 rfl (hb hby at_276) e139 Al140 (4 : Int32) rfl ?_
          refine g_iload X139 hx 279 rfl (hb hby at_277) rfl ?_
          refine g_icmpN X139 hx 282 rfl (hb hby at_279) (XT.ii_ne_f nn.symm) ?_
          refine g_aload X139 hx 284 rfl (hb hby at_282) rfl rfl ?_
          refine g_iconst X139 hx 285 rfl (0 : Int32) rfl (hb hby at_284) ?_
          refine g_iload X139 hx 287 rfl (hb hby at_285) rfl ?_
          refine g_callS X139 hx hZ 290 rfl (y := (⟨"com/example/rowgraph/rowgraph/graph/RowsEndPinLaw", "same", "([BIB)Z"⟩ : MethodName)) hown (hw _ (List.mem_of_getElem? (i := 22) rfl)) (hw _ (List.mem_of_getElem? (i := 23) rfl)) (hw _ (List.mem_of_getElem? (i := 20) rfl)) (hw _ (List.mem_of_getElem? (i := 24) rfl)) (by decide) [.ref o88, .int (0 : Int32), .int b0] [] (rmS2 l Z a0 hw [] o88 (0 : Int32) b0 [.int b0, .int b1, .int b2, .int b3] 0 T133.heap n0 Zl136 Al140 (show (0 : Int32) < (4 : Int32) by decide) rfl rfl) e139 (lenOf pd_6 rfl) rfl (by rw [hml]; rfl) (hb hby at_287) (by decide) 0 (Nat.le_of_eq rfl) (by decide) (by decide) (by decide) ?_
          rintro _ T141 L141 X141 ⟨rfl, N141q, e141⟩
          have N141 := Fr.app N139 N141q
          show Goes p e below (T141.setTop (mkF m 290 #[.val (.int p1), .val (.int p2), .val (.int p3), .val (.int p4), .val (.int p5), .val (.int n), .val (.int b0), .val (.int b1), .val (.int b2), .val (.int b3), .val (.ref o88), .val (.int (-1 : Int32)), .val (.int (3 : Int32)), .val (.ref r133), .val (.int (1 : Int32)), .unset] [.int (1 : Int32)])) _
          refine g_ifN X141 hx 293 rfl (hb hby at_290) (XT.i0_eq_f (by decide)) ?_
          refine g_aload X141 hx 295 rfl (hb hby at_293) rfl rfl ?_
          refine g_iconst X141 hx 296 rfl (1 : Int32) rfl (hb hby at_295) ?_
          refine g_iload X141 hx 298 rfl (hb hby at_296) rfl ?_
          refine g_callS X141 hx hZ 301 rfl (y := (⟨"com/example/rowgraph/rowgraph/graph/RowsEndPinLaw", "same", "([BIB)Z"⟩ : MethodName)) hown (hw _ (List.mem_of_getElem? (i := 22) rfl)) (hw _ (List.mem_of_getElem? (i := 23) rfl)) (hw _ (List.mem_of_getElem? (i := 20) rfl)) (hw _ (List.mem_of_getElem? (i := 24) rfl)) (by decide) [.ref o88, .int (1 : Int32), .int b1] [] (rmS2 l Z a0 hw [] o88 (1 : Int32) b1 [.int b0, .int b1, .int b2, .int b3] 1 T133.heap n0 Zl136 Al140 (show (1 : Int32) < (4 : Int32) by decide) rfl rfl) e141 (lenOf pd_6 rfl) rfl (by rw [hml]; rfl) (hb hby at_298) (by decide) 0 (Nat.le_of_eq rfl) (by decide) (by decide) (by decide) ?_
          rintro _ T142 L142 X142 ⟨rfl, N142q, e142⟩
          have N142 := Fr.app N141 N142q
          show Goes p e below (T142.setTop (mkF m 301 #[.val (.int p1), .val (.int p2), .val (.int p3), .val (.int p4), .val (.int p5), .val (.int n), .val (.int b0), .val (.int b1), .val (.int b2), .val (.int b3), .val (.ref o88), .val (.int (-1 : Int32)), .val (.int (3 : Int32)), .val (.ref r133), .val (.int (1 : Int32)), .unset] [.int (1 : Int32)])) _
          refine g_ifN X142 hx 304 rfl (hb hby at_301) (XT.i0_eq_f (by decide)) ?_
          refine g_aload X142 hx 306 rfl (hb hby at_304) rfl rfl ?_
          refine g_iconst X142 hx 307 rfl (2 : Int32) rfl (hb hby at_306) ?_
          refine g_iload X142 hx 309 rfl (hb hby at_307) rfl ?_
          refine g_callS X142 hx hZ 312 rfl (y := (⟨"com/example/rowgraph/rowgraph/graph/RowsEndPinLaw", "same", "([BIB)Z"⟩ : MethodName)) hown (hw _ (List.mem_of_getElem? (i := 22) rfl)) (hw _ (List.mem_of_getElem? (i := 23) rfl)) (hw _ (List.mem_of_getElem? (i := 20) rfl)) (hw _ (List.mem_of_getElem? (i := 24) rfl)) (by decide) [.ref o88, .int (2 : Int32), .int b2] [] (rmS2 l Z a0 hw [] o88 (2 : Int32) b2 [.int b0, .int b1, .int b2, .int b3] 2 T133.heap n0 Zl136 Al140 (show (2 : Int32) < (4 : Int32) by decide) rfl rfl) e142 (lenOf pd_6 rfl) rfl (by rw [hml]; rfl) (hb hby at_309) (by decide) 0 (Nat.le_of_eq rfl) (by decide) (by decide) (by decide) ?_
          rintro _ T143 L143 X143 ⟨rfl, N143q, e143⟩
          have N143 := Fr.app N142 N143q
          show Goes p e below (T143.setTop (mkF m 312 #[.val (.int p1), .val (.int p2), .val (.int p3), .val (.int p4), .val (.int p5), .val (.int n), .val (.int b0), .val (.int b1), .val (.int b2), .val (.int b3), .val (.ref o88), .val (.int (-1 : Int32)), .val (.int (3 : Int32)), .val (.ref r133), .val (.int (1 : Int32)), .unset] [.int (1 : Int32)])) _
          refine g_ifN X143 hx 315 rfl (hb hby at_312) (XT.i0_eq_f (by decide)) ?_
          refine g_aload X143 hx 317 rfl (hb hby at_315) rfl rfl ?_
          refine g_iconst X143 hx 318 rfl (3 : Int32) rfl (hb hby at_317) ?_
          refine g_iload X143 hx 320 rfl (hb hby at_318) rfl ?_
          refine g_callS X143 hx hZ 323 rfl (y := (⟨"com/example/rowgraph/rowgraph/graph/RowsEndPinLaw", "same", "([BIB)Z"⟩ : MethodName)) hown (hw _ (List.mem_of_getElem? (i := 22) rfl)) (hw _ (List.mem_of_getElem? (i := 23) rfl)) (hw _ (List.mem_of_getElem? (i := 20) rfl)) (hw _ (List.mem_of_getElem? (i := 24) rfl)) (by decide) [.ref o88, .int (3 : Int32), .int b3] [] (rmS2 l Z a0 hw [] o88 (3 : Int32) b3 [.int b0, .int b1, .int b2, .int b3] 3 T133.heap n0 Zl136 Al140 (show (3 : Int32) < (4 : Int32) by decide) rfl rfl) e143 (lenOf pd_6 rfl) rfl (by rw [hml]; rfl) (hb hby at_320) (by decide) 0 (Nat.le_of_eq rfl) (by decide) (by decide) (by decide) ?_
          rintro _ T144 L144 X144 ⟨rfl, N144q, e144⟩
          have N144 := Fr.app N143 N144q
          show Goes p e below (T144.setTop (mkF m 323 #[.val (.int p1), .val (.int p2), .val (.int p3), .val (.int p4), .val (.int p5), .val (.int n), .val (.int b0), .val (.int b1), .val (.int b2), .val (.int b3), .val (.ref o88), .val (.int (-1 : Int32)), .val (.int (3 : Int32)), .val (.ref r133), .val (.int (1 : Int32)), .unset] [.int (1 : Int32)])) _
          refine g_ifN X144 hx 326 rfl (hb hby at_323) (XT.i0_eq_f (by decide)) ?_
          refine g_iconst X144 hx 327 rfl (1 : Int32) rfl (hb hby at_326) ?_
          refine g_goto X144 hx 331 (hb hby at_327) (by decide) (by decide) ?_
          refine g_istore X144 hx 333 rfl (hb hby at_331) #[.val (.int p1), .val (.int p2), .val (.int p3), .val (.int p4), .val (.int p5), .val (.int n), .val (.int b0), .val (.int b1), .val (.int b2), .val (.int b3), .val (.ref o88), .val (.int (-1 : Int32)), .val (.int (3 : Int32)), .val (.ref r133), .val (.int (1 : Int32)), .val (.int (1 : Int32))] rfl ?_
          refine g_iload X144 hx 335 rfl (hb hby at_333) rfl ?_
          refine g_ifN X144 hx 338 rfl (hb hby at_335) (XT.i0_eq_f (by decide)) ?_
          refine g_iload X144 hx 340 rfl (hb hby at_338) rfl ?_
          refine g_ifN X144 hx 343 rfl (hb hby at_340) (XT.i0_eq_f (by decide)) ?_
          refine g_iconst X144 hx 344 rfl (1 : Int32) rfl (hb hby at_343) ?_
          refine g_goto X144 hx 348 (hb hby at_344) (by decide) (by decide) ?_
          exact g_retZ X144 hx hret hlk rfl (hb hby at_348) ⟨rfl, N144⟩ (by decide) (by decide)
set_option maxRecDepth 65536 in
set_option maxHeartbeats 40000000 in
theorem comes_1 {Post : Tables → Env → Array Value → State → Outcome → State → Prop} (hpost : ∀ tb e args s v u, (limb_1_1.after args s (.returned v) u = true ∧ limb_1_2.after args s (.returned v) u = true ∧ True) → FrameEnd s (.returned v) u (Jvm.fieldLocs frame_1_writes args s ++ Jvm.arrayLocs frame_1_arrays args s ++ Jvm.staticLocs frame_1_statics s) 16 128 → Post tb e args s (.returned v) u) :
    ArmFor flags0 classFile x code maxLocals ret World_1 tables_1 room_1 Calls_1 rest_1 Pre_1 Post := by
  intro l hfl _ _ p e ha hc hk s m args below hf hA hF happ hP
  obtain ⟨hcalls, hrest, hpre⟩ := hP
  obtain ⟨-, -, -, hnamed, -, -, -, hat⟩ := (Spec.applies_iff hf).mp happ
  obtain ⟨hg, hn⟩ := and_e (Cond.before_iff.mp (show (Jvm.Cond.and given_1 narrow_1).before args s = true from hpre))
  obtain ⟨h1, hr1⟩ := and_e hg
  obtain ⟨hk1, hr2⟩ := and_e hr1
  obtain ⟨hk2, hr3⟩ := and_e hr2
  obtain ⟨hk3, hr4⟩ := and_e hr3
  obtain ⟨hk4, hr5⟩ := and_e hr4
  obtain ⟨w0, w1, w2, w3, w4, rfl⟩ : ∃ w0 w1 w2 w3 w4 : Value, args = #[w0, w1, w2, w3, w4] := by
    have hs : args.size = 5 := by simpa [Cond.value, given_1] using h1
    obtain ⟨L⟩ := args
    match L, hs with
    | [w0, w1, w2, w3, w4], _ => exact ⟨w0, w1, w2, w3, w4, rfl⟩
  have hw := fun d (hd : d ∈ tables_1) => atoms_spec (ws := Jvm.Cond.code x code maxLocals ret :: tables_1) hat d (List.mem_cons_of_mem _ hd)
  have hfit : Fit s := fun {y c} hc i hi => by
    obtain ⟨ha, rfl⟩ := Array.getElem?_eq_some_iff.mp hc
    have q := List.all_eq_true.mp ((Array.all_eq_true_iff_forall_mem.mp hF) _ (Array.getElem_mem ha)) i (List.mem_range.mpr hi)
    simpa [Array.getElem?_eq_getElem hi] using q
  obtain ⟨i0, e0⟩ := is_v hk1
  obtain rfl : w0 = (.int i0) := Option.some.inj e0
  obtain ⟨i1, e1⟩ := is_v hk2
  obtain rfl : w1 = (.int i1) := Option.some.inj e1
  obtain ⟨i2, e2⟩ := is_v hk3
  obtain rfl : w2 = (.int i2) := Option.some.inj e2
  obtain ⟨i3, e3⟩ := is_v hk4
  obtain rfl : w3 = (.int i3) := Option.some.inj e3
  obtain ⟨i4, e4⟩ := is_v hr5
  obtain rfl : w4 = (.int i4) := Option.some.inj e4
  obtain ⟨n, o, h1, h2, h3, _, L, rfl, ⟨rfl, N⟩, hq⟩ := rm0 l s _ hw tables_1 i0 i1 i2 i3 i4  s.heap s.heap.size (Nat.le_refl _)  p e ha hc hk s m _ below hf ((Spec.applies_iff_loose hf).mp happ).1 ⟨rfl, State.Warmed39.refl s, rfl⟩ trivial
  refine ⟨n, _, h1, h2, h3, hpost _ _ _ _ _ _ ⟨Cond.after_iff.mpr rfl, Cond.after_iff.mpr (eq_i res_at (Term.int_eval (1)) rfl), trivial⟩ ⟨hq.1, hq.2.1, (hq.2.2.sift fun y hy => Or.inr (N y hy)).mono (by decide) (by decide)⟩⟩
theorem main_1_1 : Claimed_1_1 := comes_1 fun _ _ _ _ _ _ h hF => ⟨h.1, hF⟩
theorem main_1_2 : Claimed_1_2 := comes_1 fun _ _ _ _ _ _ h hF => ⟨h.2.1, hF⟩
end Jvm.Pilot.@@N@@
namespace Jvm.Pilot.@@N@@
open Jvm Jvm.ClassFile Sem Op Lib Jvm.Free Jvm.Stand Jvm.Pilot.@@N@@.Jvm.D
/-! MADE BY PROGRAM (witnessworld.py) out of the Statement's table words and the real class files: 12 classes; the members and pool entries that the words name. The judged class is class 1, her method 1. -/
namespace start1
open Jvm.ClassFile
def u (s : String) : CpInfo := .utf8 (stringToUtf16 s)
/-- a pool by its gaps: so many unusable entries, then the entry; so many at the end -/
def gap : Nat → List CpInfo → List CpInfo
  | 0, r => r
  | n + 1, r => .unusable :: gap n r
def poolList (es : List (Nat × CpInfo)) (last : Nat) : List CpInfo := es.foldr (fun e r => gap e.1 (e.2 :: r)) (gap last [])
def pool (es : List (Nat × CpInfo)) (last : Nat) : Array CpInfo := ⟨poolList es last⟩
def fileOf (pool : Array CpInfo) (this : Nat) (attrs : Array Attribute := #[]) (ms : Array MethodInfo := #[]) (fl : Nat := 33) (sup : Nat := 0) (ifs : Array Nat := #[]) (fds : Array FieldInfo := #[]) : ClassFile where
  minorVersion := 0
  majorVersion := 65
  constantPool := pool
  accessFlags := fl
  thisClass := this
  superClass := sup
  interfaces := ifs
  fields := fds
  methods := ms
  attributes := attrs
def plain (name : String) (sup : Option ClassId) : Class where
  name := name
  kind := .ordinary
  loader := none
  accessFlags := 33
  super := sup
  interfaces := #[]
  cf := none
  fields := #[]
  methods := #[]
  instanceTypes := #[]
  staticTypes := #[]
  resolved := #[]
  callSites := []
  init := .initialized
  statics := none
  mirror := none

def pool0 : Array CpInfo := pool [(5, u "<init>"), (0, u "()V"), (1, .class_ 10), (1, u "java/lang/Object"), (85, u "clone"), (0, u "()Ljava/lang/Object;")] 26

def k0m0 : Method := { name := "<init>", desc := "()V", sig := { parameters := [], returnType := none }, accessFlags := 1, code := none }
def k0m1 : Method := { name := "clone", desc := "()Ljava/lang/Object;", sig := { parameters := [], returnType := some (.object "java/lang/Object") }, accessFlags := 260, code := none }
/-- java/lang/Object -/
def k0 : Class := { plain "java/lang/Object" none with
  accessFlags := 33
  interfaces := #[]
  cf := some (fileOf pool0 8 #[] #[{ accessFlags := 1, nameIndex := 5, descriptorIndex := 6, attributes := #[] }, { accessFlags := 260, nameIndex := 96, descriptorIndex := 97, attributes := #[] }] 33 0 #[] #[])
  fields := #[]
  methods := #[k0m0, k0m1]
  instanceTypes := #[]
  staticTypes := #[]
  resolved := Array.replicate 124 none
  statics := none }

def pool1 : Array CpInfo := pool [(2, .class_ 4), (1, u "java/lang/Object"), (0, u "<init>"), (0, u "()V"), (0, .methodref 8 9), (0, .class_ 10), (0, .nameAndType 11 12), (0, u "com/example/rowgraph/rowgraph/graph/Rows"), (0, u "end"), (0, u "([B)[B"), (0, .methodref 14 15), (0, .class_ 16), (0, .nameAndType 17 18), (0, u "com/example/rowgraph/rowgraph/graph/RowsEndPinLaw"), (0, u "at"), (0, u "([BIIB)Z"), (0, .methodref 14 20), (0, .nameAndType 21 22), (0, u "same"), (0, u "([BIB)Z"), (2, u "law"), (0, u "(IIIII)Z")] 5

def k1m0 : Method := { name := "<init>", desc := "()V", sig := { parameters := [], returnType := none }, accessFlags := 1, code := none }
def k1c1 : Code := { maxStack := 4, maxLocals := 16, code := code, exceptionTable := #[], attributes := #[] }
def k1m1 : Method := { name := "law", desc := "(IIIII)Z", sig := { parameters := [.int, .int, .int, .int, .int], returnType := some .boolean }, accessFlags := 9, code := some k1c1 }
def k1c2 : Code := { maxStack := 3, maxLocals := 4, code := method_3_code, exceptionTable := #[], attributes := #[] }
def k1m2 : Method := { name := "at", desc := "([BIIB)Z", sig := { parameters := [(.array .byte), .int, .int, .byte], returnType := some .boolean }, accessFlags := 10, code := some k1c2 }
def k1c3 : Code := { maxStack := 2, maxLocals := 3, code := method_4_code, exceptionTable := #[], attributes := #[] }
def k1m3 : Method := { name := "same", desc := "([BIB)Z", sig := { parameters := [(.array .byte), .int, .byte], returnType := some .boolean }, accessFlags := 10, code := some k1c3 }
/-- com/example/rowgraph/rowgraph/graph/RowsEndPinLaw -/
def k1 : Class := { plain "com/example/rowgraph/rowgraph/graph/RowsEndPinLaw" (some 0) with
  accessFlags := 49
  interfaces := #[]
  cf := some (fileOf pool1 14 #[] #[{ accessFlags := 1, nameIndex := 5, descriptorIndex := 6, attributes := #[] }, { accessFlags := 9, nameIndex := 25, descriptorIndex := 26, attributes := #[] }, { accessFlags := 10, nameIndex := 17, descriptorIndex := 18, attributes := #[] }, { accessFlags := 10, nameIndex := 21, descriptorIndex := 22, attributes := #[] }] 49 2 #[] #[])
  fields := #[]
  methods := #[k1m0, k1m1, k1m2, k1m3]
  instanceTypes := #[]
  staticTypes := #[]
  resolved := Array.replicate 32 none
  statics := none }

def pool2 : Array CpInfo := pool [(2, .class_ 4), (1, u "java/lang/Object"), (0, u "<init>"), (0, u "()V"), (0, .class_ 8), (0, u "com/example/rowgraph/rowgraph/graph/Rows$Writer"), (1, .class_ 11), (0, u "com/example/rowgraph/rowgraph/graph/Rows"), (25, u "end"), (0, u "([B)[B"), (20, u "OUT"), (1, .class_ 62), (0, u "com/example/rowgraph/rowgraph/graph/Rows$Reader"), (40, u "ROW_ENTRIES"), (0, u "[B"), (16, .class_ 122), (0, u "com/example/rowgraph/rowgraph/graph/Rows$Half"), (2, u "IN"), (1, .class_ 129), (1, u "java/util/Arrays"), (30, u "KEY_ENTRIES"), (10, u "VERTEX_COUNTS"), (5, u "EDGE_COUNTS"), (0, .methodref 127 179), (0, .nameAndType 180 181), (0, u "copyOf"), (0, u "([BI)[B"), (35, u "LOAD_MARK"), (32, u "HEX"), (0, u "Ljava/util/HexFormat;"), (86, u "TYPES"), (0, u "Ljava/util/List;"), (3, u "COUNTS"), (0, u "B"), (2, u "ROWS"), (1, u "KEYS"), (1, u "LOAD"), (1, u "VERTEX_COUNT"), (0, u "EDGE_COUNT"), (0, u "OWN_ENTRY"), (65, .class_ 422), (0, u "com/example/rowgraph/rowgraph/graph/Rows$1")] 68

def k2m0 : Method := { name := "<init>", desc := "()V", sig := { parameters := [], returnType := none }, accessFlags := 2, code := none }
def k2c1 : Code := { maxStack := 4, maxLocals := 3, code := prog_37_method_21_code, exceptionTable := #[], attributes := #[] }
def k2m1 : Method := { name := "end", desc := "([B)[B", sig := { parameters := [(.array .byte)], returnType := some (.array .byte) }, accessFlags := 8, code := some k2c1 }
/-- com/example/rowgraph/rowgraph/graph/Rows -/
def k2 : Class := { plain "com/example/rowgraph/rowgraph/graph/Rows" (some 0) with
  accessFlags := 48
  interfaces := #[]
  cf := some (fileOf pool2 10 #[.nestMembers #[421, 61, 7, 121]] #[{ accessFlags := 2, nameIndex := 5, descriptorIndex := 6, attributes := #[] }, { accessFlags := 8, nameIndex := 37, descriptorIndex := 38, attributes := #[] }] 48 2 #[] #[{ accessFlags := 26, nameIndex := 343, descriptorIndex := 344, attributes := #[] }, { accessFlags := 26, nameIndex := 347, descriptorIndex := 344, attributes := #[] }, { accessFlags := 26, nameIndex := 349, descriptorIndex := 344, attributes := #[] }, { accessFlags := 26, nameIndex := 351, descriptorIndex := 344, attributes := #[] }, { accessFlags := 26, nameIndex := 353, descriptorIndex := 344, attributes := #[] }, { accessFlags := 26, nameIndex := 354, descriptorIndex := 344, attributes := #[] }, { accessFlags := 26, nameIndex := 355, descriptorIndex := 344, attributes := #[] }, { accessFlags := 26, nameIndex := 59, descriptorIndex := 344, attributes := #[] }, { accessFlags := 26, nameIndex := 125, descriptorIndex := 344, attributes := #[] }, { accessFlags := 26, nameIndex := 338, descriptorIndex := 339, attributes := #[] }, { accessFlags := 26, nameIndex := 250, descriptorIndex := 251, attributes := #[] }, { accessFlags := 24, nameIndex := 103, descriptorIndex := 104, attributes := #[] }, { accessFlags := 24, nameIndex := 171, descriptorIndex := 104, attributes := #[] }, { accessFlags := 24, nameIndex := 177, descriptorIndex := 104, attributes := #[] }, { accessFlags := 24, nameIndex := 160, descriptorIndex := 104, attributes := #[] }, { accessFlags := 24, nameIndex := 217, descriptorIndex := 104, attributes := #[] }])
  fields := #[{ name := "COUNTS", type := .byte, accessFlags := 26, slot := 0, constantValue := 0 }, { name := "ROWS", type := .byte, accessFlags := 26, slot := 1, constantValue := 0 }, { name := "KEYS", type := .byte, accessFlags := 26, slot := 2, constantValue := 0 }, { name := "LOAD", type := .byte, accessFlags := 26, slot := 3, constantValue := 0 }, { name := "VERTEX_COUNT", type := .byte, accessFlags := 26, slot := 4, constantValue := 0 }, { name := "EDGE_COUNT", type := .byte, accessFlags := 26, slot := 5, constantValue := 0 }, { name := "OWN_ENTRY", type := .byte, accessFlags := 26, slot := 6, constantValue := 0 }, { name := "OUT", type := .byte, accessFlags := 26, slot := 7, constantValue := 0 }, { name := "IN", type := .byte, accessFlags := 26, slot := 8, constantValue := 0 }, { name := "TYPES", type := (.object "java/util/List"), accessFlags := 26, slot := 9, constantValue := 0 }, { name := "HEX", type := (.object "java/util/HexFormat"), accessFlags := 26, slot := 10, constantValue := 0 }, { name := "ROW_ENTRIES", type := (.array .byte), accessFlags := 24, slot := 11, constantValue := 0 }, { name := "VERTEX_COUNTS", type := (.array .byte), accessFlags := 24, slot := 12, constantValue := 0 }, { name := "EDGE_COUNTS", type := (.array .byte), accessFlags := 24, slot := 13, constantValue := 0 }, { name := "KEY_ENTRIES", type := (.array .byte), accessFlags := 24, slot := 14, constantValue := 0 }, { name := "LOAD_MARK", type := (.array .byte), accessFlags := 24, slot := 15, constantValue := 0 }]
  methods := #[k2m0, k2m1]
  instanceTypes := #[]
  staticTypes := #[.byte, .byte, .byte, .byte, .byte, .byte, .byte, .byte, .byte, (.object "java/util/List"), (.object "java/util/HexFormat"), (.array .byte), (.array .byte), (.array .byte), (.array .byte), (.array .byte)]
  resolved := Array.replicate 491 none
  statics := none }

def pool3 : Array CpInfo := pool [(2, .class_ 4), (1, u "java/lang/Object"), (0, u "<init>"), (0, u "()V"), (7, .class_ 16), (1, u "java/util/Arrays"), (57, .class_ 76), (1, u "java/util/Arrays$NaturalOrder"), (32, u "()Ljava/lang/Object;"), (3, .class_ 115), (1, u "java/util/Arrays$LegacyMergeSort"), (1, u "Z"), (10, .nameAndType 129 109), (0, u "clone"), (20, .methodref 151 152), (0, .class_ 153), (0, .nameAndType 154 155), (0, u "java/lang/System"), (0, u "arraycopy"), (0, u "(Ljava/lang/Object;ILjava/lang/Object;II)V"), (146, u "copyOf"), (1, .methodref 305 306), (0, .class_ 307), (0, .nameAndType 308 309), (0, u "java/lang/Math"), (0, u "min"), (0, u "(II)I"), (0, .methodref 311 128), (0, .class_ 312), (0, u "[B"), (62, .class_ 376), (0, u "java/util/Arrays$ArrayList"), (68, u "$assertionsDisabled"), (269, u "MIN_ARRAY_SORT_GRAN"), (0, u "I"), (2, u "INSERTIONSORT_THRESHOLD"), (149, u "([BI)[B"), (105, .class_ 976), (0, u "java/util/Arrays$ArrayItr")] 52

def k3m0 : Method := { name := "<init>", desc := "()V", sig := { parameters := [], returnType := none }, accessFlags := 2, code := none }
def k3c1 : Code := { maxStack := 6, maxLocals := 3, code := jdk_65_method_121_code, exceptionTable := #[], attributes := #[] }
def k3m1 : Method := { name := "copyOf", desc := "([BI)[B", sig := { parameters := [(.array .byte), .int], returnType := some (.array .byte) }, accessFlags := 9, code := some k3c1 }
/-- java/util/Arrays -/
def k3 : Class := { plain "java/util/Arrays" (some 0) with
  accessFlags := 49
  interfaces := #[]
  cf := some (fileOf pool3 14 #[.nestMembers #[975, 375, 113, 74]] #[{ accessFlags := 2, nameIndex := 5, descriptorIndex := 6, attributes := #[] }, { accessFlags := 9, nameIndex := 302, descriptorIndex := 869, attributes := #[] }] 49 2 #[] #[{ accessFlags := 26, nameIndex := 715, descriptorIndex := 716, attributes := #[] }, { accessFlags := 26, nameIndex := 719, descriptorIndex := 716, attributes := #[] }, { accessFlags := 4120, nameIndex := 445, descriptorIndex := 117, attributes := #[] }])
  fields := #[{ name := "MIN_ARRAY_SORT_GRAN", type := .int, accessFlags := 26, slot := 0, constantValue := 0 }, { name := "INSERTIONSORT_THRESHOLD", type := .int, accessFlags := 26, slot := 1, constantValue := 0 }, { name := "$assertionsDisabled", type := .boolean, accessFlags := 4120, slot := 2, constantValue := 0 }]
  methods := #[k3m0, k3m1]
  instanceTypes := #[]
  staticTypes := #[.int, .int, .boolean]
  resolved := Array.replicate 1029 none
  statics := none }

def pool4 : Array CpInfo := pool [(1, .class_ 2), (0, u "java/lang/Cloneable"), (0, .class_ 4), (0, u "java/lang/Object")] 2

/-- java/lang/Cloneable -/
def k4 : Class := { plain "java/lang/Cloneable" (some 0) with
  accessFlags := 1537
  interfaces := #[]
  cf := some (fileOf pool4 1 #[] #[] 1537 3 #[] #[])
  fields := #[]
  methods := #[]
  instanceTypes := #[]
  staticTypes := #[]
  resolved := Array.replicate 7 none
  statics := none }

def pool5 : Array CpInfo := pool [(1, .class_ 2), (0, u "java/lang/Math"), (1, .class_ 6), (1, u "java/lang/Object"), (0, u "<init>"), (0, u "()V"), (89, .class_ 100), (1, u "java/lang/Math$RandomNumberGeneratorHolder"), (71, u "negativeZeroFloatBits"), (0, u "J"), (2, u "negativeZeroDoubleBits"), (24, u "min"), (43, u "$assertionsDisabled"), (0, u "Z"), (88, u "(II)I"), (2, u "twoToTheDoubleScaleDown"), (0, u "D"), (4, u "twoToTheDoubleScaleUp"), (9, u "E"), (3, u "PI"), (2, u "TAU"), (2, u "DEGREES_TO_RADIANS"), (0, u "RADIANS_TO_DEGREES")] 94

def k5m0 : Method := { name := "<init>", desc := "()V", sig := { parameters := [], returnType := none }, accessFlags := 2, code := none }
def k5c1 : Code := { maxStack := 2, maxLocals := 2, code := jdk_29_method_69_code, exceptionTable := #[], attributes := #[] }
def k5m1 : Method := { name := "min", desc := "(II)I", sig := { parameters := [.int, .int], returnType := some .int }, accessFlags := 9, code := some k5c1 }
/-- java/lang/Math -/
def k5 : Class := { plain "java/lang/Math" (some 0) with
  accessFlags := 49
  interfaces := #[]
  cf := some (fileOf pool5 1 #[.nestMembers #[98]] #[{ accessFlags := 2, nameIndex := 7, descriptorIndex := 8, attributes := #[] }, { accessFlags := 9, nameIndex := 201, descriptorIndex := 335, attributes := #[] }] 49 4 #[] #[{ accessFlags := 25, nameIndex := 354, descriptorIndex := 339, attributes := #[] }, { accessFlags := 25, nameIndex := 358, descriptorIndex := 339, attributes := #[] }, { accessFlags := 25, nameIndex := 361, descriptorIndex := 339, attributes := #[] }, { accessFlags := 26, nameIndex := 364, descriptorIndex := 339, attributes := #[] }, { accessFlags := 26, nameIndex := 365, descriptorIndex := 339, attributes := #[] }, { accessFlags := 26, nameIndex := 172, descriptorIndex := 173, attributes := #[] }, { accessFlags := 26, nameIndex := 176, descriptorIndex := 173, attributes := #[] }, { accessFlags := 8, nameIndex := 344, descriptorIndex := 339, attributes := #[] }, { accessFlags := 8, nameIndex := 338, descriptorIndex := 339, attributes := #[] }, { accessFlags := 4120, nameIndex := 245, descriptorIndex := 246, attributes := #[] }])
  fields := #[{ name := "E", type := .double, accessFlags := 25, slot := 0, constantValue := 0 }, { name := "PI", type := .double, accessFlags := 25, slot := 1, constantValue := 0 }, { name := "TAU", type := .double, accessFlags := 25, slot := 2, constantValue := 0 }, { name := "DEGREES_TO_RADIANS", type := .double, accessFlags := 26, slot := 3, constantValue := 0 }, { name := "RADIANS_TO_DEGREES", type := .double, accessFlags := 26, slot := 4, constantValue := 0 }, { name := "negativeZeroFloatBits", type := .long, accessFlags := 26, slot := 5, constantValue := 0 }, { name := "negativeZeroDoubleBits", type := .long, accessFlags := 26, slot := 6, constantValue := 0 }, { name := "twoToTheDoubleScaleUp", type := .double, accessFlags := 8, slot := 7, constantValue := 0 }, { name := "twoToTheDoubleScaleDown", type := .double, accessFlags := 8, slot := 8, constantValue := 0 }, { name := "$assertionsDisabled", type := .boolean, accessFlags := 4120, slot := 9, constantValue := 0 }]
  methods := #[k5m0, k5m1]
  instanceTypes := #[]
  staticTypes := #[.double, .double, .double, .double, .double, .long, .long, .double, .double, .boolean]
  resolved := Array.replicate 460 none
  statics := none }

def pool6 : Array CpInfo := pool [(2, .class_ 4), (1, u "java/lang/Object"), (0, u "<init>"), (0, u "()V"), (1, .class_ 10), (1, u "java/lang/System"), (0, u "allowSecurityManager"), (0, u "I"), (16, u "cons"), (0, u "Ljava/io/Console;"), (77, .class_ 110), (1, u "java/lang/System$CallersHolder"), (43, u "initialErrStream"), (0, u "Ljava/io/PrintStream;"), (19, u "security"), (0, u "Ljava/lang/SecurityManager;"), (31, .class_ 209), (0, u "java/lang/System$1"), (7, u "props"), (0, u "Ljava/util/Properties;"), (2, u "lineSeparator"), (0, u "Ljava/lang/String;"), (96, .class_ 321), (1, u "java/lang/System$LoggerFinder"), (5, .class_ 328), (0, u "java/lang/System$Logger"), (67, u "err"), (2, u "out"), (91, u "notSupportedJnuEncoding"), (15, u "in"), (17, u "initialIn"), (0, u "Ljava/io/InputStream;"), (35, u "bootLayer"), (0, u "Ljava/lang/ModuleLayer;"), (99, .class_ 664), (0, u "java/lang/System$2"), (9, u "NEVER"), (2, u "MAYBE"), (49, u "arraycopy"), (0, u "(Ljava/lang/Object;ILjava/lang/Object;II)V"), (72, .class_ 802), (0, u "java/lang/System$Logger$Level")] 31

def k6m0 : Method := { name := "<init>", desc := "()V", sig := { parameters := [], returnType := none }, accessFlags := 2, code := none }
def k6m1 : Method := { name := "arraycopy", desc := "(Ljava/lang/Object;ILjava/lang/Object;II)V", sig := { parameters := [(.object "java/lang/Object"), .int, (.object "java/lang/Object"), .int, .int], returnType := none }, accessFlags := 265, code := none }
/-- java/lang/System -/
def k6 : Class := { plain "java/lang/System" (some 0) with
  accessFlags := 49
  interfaces := #[]
  cf := some (fileOf pool6 8 #[.nestMembers #[319, 327, 801, 108, 663, 208]] #[{ accessFlags := 2, nameIndex := 5, descriptorIndex := 6, attributes := #[] }, { accessFlags := 265, nameIndex := 727, descriptorIndex := 728, attributes := #[] }] 49 2 #[] #[{ accessFlags := 25, nameIndex := 507, descriptorIndex := 526, attributes := #[] }, { accessFlags := 25, nameIndex := 399, descriptorIndex := 155, attributes := #[] }, { accessFlags := 25, nameIndex := 396, descriptorIndex := 155, attributes := #[] }, { accessFlags := 10, nameIndex := 525, descriptorIndex := 526, attributes := #[] }, { accessFlags := 26, nameIndex := 674, descriptorIndex := 12, attributes := #[] }, { accessFlags := 26, nameIndex := 677, descriptorIndex := 12, attributes := #[] }, { accessFlags := 10, nameIndex := 11, descriptorIndex := 12, attributes := #[] }, { accessFlags := 74, nameIndex := 175, descriptorIndex := 176, attributes := #[] }, { accessFlags := 10, nameIndex := 491, descriptorIndex := 222, attributes := #[] }, { accessFlags := 74, nameIndex := 29, descriptorIndex := 30, attributes := #[] }, { accessFlags := 74, nameIndex := 154, descriptorIndex := 155, attributes := #[] }, { accessFlags := 10, nameIndex := 217, descriptorIndex := 218, attributes := #[] }, { accessFlags := 10, nameIndex := 221, descriptorIndex := 222, attributes := #[] }, { accessFlags := 8, nameIndex := 562, descriptorIndex := 563, attributes := #[] }])
  fields := #[{ name := "in", type := (.object "java/io/InputStream"), accessFlags := 25, slot := 0, constantValue := 0 }, { name := "out", type := (.object "java/io/PrintStream"), accessFlags := 25, slot := 1, constantValue := 0 }, { name := "err", type := (.object "java/io/PrintStream"), accessFlags := 25, slot := 2, constantValue := 0 }, { name := "initialIn", type := (.object "java/io/InputStream"), accessFlags := 10, slot := 3, constantValue := 0 }, { name := "NEVER", type := .int, accessFlags := 26, slot := 4, constantValue := 0 }, { name := "MAYBE", type := .int, accessFlags := 26, slot := 5, constantValue := 0 }, { name := "allowSecurityManager", type := .int, accessFlags := 10, slot := 6, constantValue := 0 }, { name := "security", type := (.object "java/lang/SecurityManager"), accessFlags := 74, slot := 7, constantValue := 0 }, { name := "notSupportedJnuEncoding", type := (.object "java/lang/String"), accessFlags := 10, slot := 8, constantValue := 0 }, { name := "cons", type := (.object "java/io/Console"), accessFlags := 74, slot := 9, constantValue := 0 }, { name := "initialErrStream", type := (.object "java/io/PrintStream"), accessFlags := 74, slot := 10, constantValue := 0 }, { name := "props", type := (.object "java/util/Properties"), accessFlags := 10, slot := 11, constantValue := 0 }, { name := "lineSeparator", type := (.object "java/lang/String"), accessFlags := 10, slot := 12, constantValue := 0 }, { name := "bootLayer", type := (.object "java/lang/ModuleLayer"), accessFlags := 8, slot := 13, constantValue := 0 }]
  methods := #[k6m0, k6m1]
  instanceTypes := #[]
  staticTypes := #[(.object "java/io/InputStream"), (.object "java/io/PrintStream"), (.object "java/io/PrintStream"), (.object "java/io/InputStream"), .int, .int, .int, (.object "java/lang/SecurityManager"), (.object "java/lang/String"), (.object "java/io/Console"), (.object "java/io/PrintStream"), (.object "java/util/Properties"), (.object "java/lang/String"), (.object "java/lang/ModuleLayer")]
  resolved := Array.replicate 834 none
  statics := none }

def pool7 : Array CpInfo := pool [(1, u "java/io/Serializable"), (0, .class_ 1), (0, u "java/lang/Object"), (0, .class_ 3)] 3

/-- java/io/Serializable -/
def k7 : Class := { plain "java/io/Serializable" (some 0) with
  accessFlags := 1537
  interfaces := #[]
  cf := some (fileOf pool7 2 #[] #[] 1537 4 #[] #[])
  fields := #[]
  methods := #[]
  instanceTypes := #[]
  staticTypes := #[]
  resolved := Array.replicate 8 none
  statics := none }

/-- the primitive byte -/
def k8 : Class := { plain "byte" none with kind := .primitive 'B', accessFlags := 0x411 }
/-- [B -/
def k9 : Class := { plain "[B" (some 0) with kind := .array 8 .byte, interfaces := #[4, 7], accessFlags := 1041 }

/-- the primitive int -/
def k10 : Class := { plain "int" none with kind := .primitive 'I', accessFlags := 0x411 }
/-- [I -/
def k11 : Class := { plain "[I" (some 0) with kind := .array 10 .int, interfaces := #[4, 7], accessFlags := 1041 }

def heap : Heap := #[]
def classes : Array Class := #[k0, k1, k2, k3, k4, k5, k6, k7, k8, k9, k10, k11]
def interned : List (Array UInt16 × Addr) := []
def slotsUsed : Nat := 0
def theMethod : MethodId := ⟨1, 1⟩
def args0 : Array Value := #[.int 2, .int 5, .int 6, .int 255, .int 9]
def aboutOver (below : List Frame) : State where
  vm := { classes := classes, interned := interned.toArray }
  heap := heap
  slotsUsed := slotsUsed
  threads := #[{ frames := .invoking theMethod args0 :: below }]
def below0 : List Frame := [.native { method := ⟨0, 0⟩, args := #[] }]
def about1 : State := aboutOver below0
def p0 : Program := .bare "" "" ""
def e0 : Env := launch0.env 0 0 0
theorem w_frames : about1.frames = Frame.invoking theMethod args0 :: below0 := rfl
set_option maxRecDepth 65536 in
theorem w_args : argsFit about1.vm theMethod args0 = true := by decide +kernel
set_option maxRecDepth 65536 in
theorem w_heap : heapFits about1 = true := by decide +kernel
set_option maxRecDepth 65536 in
theorem w_runnable : about1.curStatus? = some .runnable := by decide +kernel
set_option maxRecDepth 65536 in
theorem w_alone : about1.alone = true := by decide +kernel
set_option maxRecDepth 65536 in
theorem w_named : about1.methodNamed? x = some theMethod := by decide +kernel
set_option maxRecDepth 65536 in
theorem w_hears : about1.hears theMethod below0 = true := by decide +kernel
set_option maxRecDepth 65536 in
theorem w_ripe : about1.ripe theMethod args0 below0 = true := by decide +kernel
theorem w_running : about1.status = .running := rfl
set_option maxRecDepth 65536 in
theorem w_room : about1.hasRoom e0.platform room_1 = true :=
  launch0.hasRoom_least _ room_1 (by decide +kernel) (by decide +kernel) (by decide +kernel) (by decide +kernel) (by decide +kernel) (by decide +kernel)
theorem allAtoms_all (ts : List Jvm.Cond) (a : Array Jvm.Value) (st : Jvm.State) : (allAtoms ts).before a st = ts.all (fun c => c.before a st) := by
  induction ts with
  | nil => rfl
  | cons c t ih =>
    show (Jvm.Cond.and c (allAtoms t)).before a st = _
    rw [Jvm.Cond.before_and, ih, List.all_cons]
def words1 : List Jvm.Cond := Jvm.Cond.code x code maxLocals ret :: tables_1
/-- a 'code' word, met by the world's own term for the bytes: nothing is compared byte by byte -/
theorem code_word {y : MethodName} {bytes : ByteArray} {mx : Nat} {rt : Option FieldType} {a : Array Value} {s : State} {m : MethodId} {meth : Method} {c : Code} (h1 : s.methodNamed? y = some m) (h2 : s.vm.method? m = some meth) (h3 : meth.code = some c) (h4 : c.code = bytes)
    (h5 : (c.maxLocals == mx && c.exceptionTable.isEmpty && decide (c.maxStack ≤ mostOperands) && decide (meth.sig.returnType = rt) && !meth.locks && decide (parseMethodDescriptor y.desc = some meth.sig)) = true) : (Jvm.Cond.code y bytes mx rt).before a s = true := by
  simp only [Bool.and_eq_true, beq_iff_eq, Bool.not_eq_true', decide_eq_true_eq] at h5
  obtain ⟨⟨⟨⟨⟨g1, g2⟩, g3⟩, g4⟩, g5⟩, g6⟩ := h5
  simp [Cond.before, Cond.holds, Cond.value, h1, h2, h3, h4, g1, g2, g3, g4, g5, g6]
def isCode : Jvm.Cond → Bool
  | .code _ _ _ _ => true
  | _ => false
theorem all_split {L : List Jvm.Cond} {P : Jvm.Cond → Bool} (h1 : L.all (fun c => isCode c || P c) = true) (h2 : ∀ c ∈ L.filter isCode, P c = true) : L.all P = true := by
  refine List.all_eq_true.mpr fun c hc => ?_
  have h := List.all_eq_true.mp h1 c hc
  rcases Bool.eq_false_or_eq_true (isCode c) with hi | hi
  · exact h2 c (List.mem_filter.mpr ⟨hc, hi⟩)
  · simpa [hi] using h
set_option maxRecDepth 65536 in
theorem w_c0 : (Jvm.Cond.code x code maxLocals ret).before args0 about1 = true := code_word (m := ⟨1, 1⟩) (meth := k1m1) (c := k1c1) (by decide +kernel) rfl rfl rfl (by decide +kernel)
set_option maxRecDepth 65536 in
theorem w_c1 : (Jvm.Cond.code ({ cls := "com/example/rowgraph/rowgraph/graph/Rows", name := "end", desc := "([B)[B" } : Jvm.MethodName) prog_37_method_21_code (3 : Nat) (Option.some (Jvm.ClassFile.FieldType.array Jvm.ClassFile.FieldType.byte))).before args0 about1 = true := code_word (m := ⟨2, 1⟩) (meth := k2m1) (c := k2c1) (by decide +kernel) rfl rfl rfl (by decide +kernel)
set_option maxRecDepth 65536 in
theorem w_c2 : (Jvm.Cond.code ({ cls := "java/util/Arrays", name := "copyOf", desc := "([BI)[B" } : Jvm.MethodName) jdk_65_method_121_code (3 : Nat) (Option.some (Jvm.ClassFile.FieldType.array Jvm.ClassFile.FieldType.byte))).before args0 about1 = true := code_word (m := ⟨3, 1⟩) (meth := k3m1) (c := k3c1) (by decide +kernel) rfl rfl rfl (by decide +kernel)
set_option maxRecDepth 65536 in
theorem w_c3 : (Jvm.Cond.code ({ cls := "com/example/rowgraph/rowgraph/graph/RowsEndPinLaw", name := "at", desc := "([BIIB)Z" } : Jvm.MethodName) method_3_code (4 : Nat) (Option.some Jvm.ClassFile.FieldType.boolean)).before args0 about1 = true := code_word (m := ⟨1, 2⟩) (meth := k1m2) (c := k1c2) (by decide +kernel) rfl rfl rfl (by decide +kernel)
set_option maxRecDepth 65536 in
theorem w_c4 : (Jvm.Cond.code ({ cls := "com/example/rowgraph/rowgraph/graph/RowsEndPinLaw", name := "same", desc := "([BIB)Z" } : Jvm.MethodName) method_4_code (3 : Nat) (Option.some Jvm.ClassFile.FieldType.boolean)).before args0 about1 = true := code_word (m := ⟨1, 3⟩) (meth := k1m3) (c := k1c3) (by decide +kernel) rfl rfl rfl (by decide +kernel)
set_option maxRecDepth 65536 in
theorem w_c5 : (Jvm.Cond.code ({ cls := "java/lang/Math", name := "min", desc := "(II)I" } : Jvm.MethodName) jdk_29_method_69_code (2 : Nat) (Option.some Jvm.ClassFile.FieldType.int)).before args0 about1 = true := code_word (m := ⟨5, 1⟩) (meth := k5m1) (c := k5c1) (by decide +kernel) rfl rfl rfl (by decide +kernel)
def codes1 : List Jvm.Cond := [Jvm.Cond.code x code maxLocals ret, Jvm.Cond.code ({ cls := "com/example/rowgraph/rowgraph/graph/Rows", name := "end", desc := "([B)[B" } : Jvm.MethodName) prog_37_method_21_code (3 : Nat) (Option.some (Jvm.ClassFile.FieldType.array Jvm.ClassFile.FieldType.byte)), Jvm.Cond.code ({ cls := "java/util/Arrays", name := "copyOf", desc := "([BI)[B" } : Jvm.MethodName) jdk_65_method_121_code (3 : Nat) (Option.some (Jvm.ClassFile.FieldType.array Jvm.ClassFile.FieldType.byte)), Jvm.Cond.code ({ cls := "com/example/rowgraph/rowgraph/graph/RowsEndPinLaw", name := "at", desc := "([BIIB)Z" } : Jvm.MethodName) method_3_code (4 : Nat) (Option.some Jvm.ClassFile.FieldType.boolean), Jvm.Cond.code ({ cls := "com/example/rowgraph/rowgraph/graph/RowsEndPinLaw", name := "same", desc := "([BIB)Z" } : Jvm.MethodName) method_4_code (3 : Nat) (Option.some Jvm.ClassFile.FieldType.boolean), Jvm.Cond.code ({ cls := "java/lang/Math", name := "min", desc := "(II)I" } : Jvm.MethodName) jdk_29_method_69_code (2 : Nat) (Option.some Jvm.ClassFile.FieldType.int)]
set_option maxRecDepth 65536 in
theorem codes_eq : words1.filter isCode = codes1 := rfl
theorem w_codes : ∀ c ∈ words1.filter isCode, c.before args0 about1 = true := by
  rw [codes_eq]
  intro c hc
  simp only [codes1, List.mem_cons, List.not_mem_nil, or_false] at hc
  rcases hc with rfl | rfl | rfl | rfl | rfl | rfl
  · exact w_c0
  · exact w_c1
  · exact w_c2
  · exact w_c3
  · exact w_c4
  · exact w_c5
set_option maxRecDepth 65536 in
theorem w_t1 : (words1.take 24).all (fun c => isCode c || c.before args0 about1) = true := by decide +kernel
set_option maxRecDepth 65536 in
theorem w_t2 : (words1.drop 24).all (fun c => isCode c || c.before args0 about1) = true := by decide +kernel
theorem w_tables : (allAtoms (Jvm.Cond.code x code maxLocals ret :: tables_1)).before args0 about1 = true := by
  rw [allAtoms_all]
  show words1.all (fun c => c.before args0 about1) = true
  refine all_split ?_ w_codes
  rw [← List.take_append_drop 24 words1, List.all_append, w_t1, w_t2]
  rfl
set_option maxRecDepth 65536 in
theorem w_case : (Jvm.Cond.and given_1 narrow_1).before args0 about1 = true := by decide +kernel
theorem w_applies : (headSpec (Jvm.Cond.code x code maxLocals ret :: tables_1) room_1).applies x e0.platform about1 = true :=
  (Spec.applies_iff w_frames).mpr ⟨w_running, w_runnable, w_alone, w_named, w_hears, w_ripe, w_room, w_tables⟩
theorem atStart : AtStart classFile x code maxLocals ret World_1 tables_1 room_1 Calls_1 rest_1 Pre_1 launch0 p0 e0 about1 theMethod args0 below0 :=
  ⟨lists_1, trivial, launch0.admits_env _ _ _, launch0.least_env, fairChoices_fair.cas, fairChoices_fair.clock, w_frames, w_args, w_heap, w_applies, trivial, trivial, w_case⟩
end start1
theorem witness_1 : WitnessClaimed_1 := ⟨start1.p0, start1.e0, start1.about1, start1.theMethod, start1.args0, start1.below0, start1.atStart⟩
end Jvm.Pilot.@@N@@
